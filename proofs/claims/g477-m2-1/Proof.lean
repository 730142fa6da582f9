import JvmDerived
import JvmDerived.Pilot.@@N@@Statement
import JvmDerived.Pilot.@@N@@Code
set_option linter.unusedVariables false
set_option linter.unusedSimpArgs false
namespace Jvm.Pilot.@@N@@
open Jvm Jvm.ClassFile Sem Op Lib Jvm.Free Jvm.Stand Jvm.LawKit Jvm.RoadKit Bundle Jvm.Pilot.@@N@@.Jvm.D
section Own
variable {p : Program} {l : Launch} {e : Env} {R : Room} {s : State} {m : MethodId} {args : Array Value} {below : List Frame} {meth : Method} {c : Code} {T : State} {locs : List Loc} {cells slots : Nat} {Q : Option Value → Heap → List Loc → Prop} {C S : Nat}
abbrev vi (x : Int32) : Slot := .val (.int x)
abbrev vr (x : Addr) : Slot := .val (.ref x)
theorem own_w {a0 : Array Value} {Z : State} (hw : ∀ d ∈ tables_1, d.before a0 Z = true) (i : Nat) {d : Cond} (h : tables_1[i]? = some d) : d.before a0 Z = true := hw d (List.mem_of_getElem? h)
def Goes (p : Program) (e : Env) (below : List Frame) (P : Outcome → State → Prop) (A : State) : Prop :=
  ∃ s₂ o, Steps p.tables e below A s₂ ∧ s₂.status = .running ∧ Ended s₂ below o ∧ P o s₂
def Fin_ (s : State) (Q : Option Value → Heap → List Loc → Prop) (C S : Nat) (o : Outcome) (U' : State) : Prop :=
  ∃ v L, o = .returned v ∧ Q v U'.heap L ∧ FrameEnd s o U' L C S
theorem Goes.via {P : Outcome → State → Prop} {A B : State} (st : ∀ t, Steps p.tables e below B t → Steps p.tables e below A t) (k : Goes p e below P B) : Goes p e below P A := by
  obtain ⟨s₂, o, h1, h2⟩ := k
  exact ⟨s₂, o, st _ h1, h2⟩
theorem Goes.tr {P : Outcome → State → Prop} {A B : State} (st : Steps p.tables e below A B) (k : Goes p e below P B) : Goes p e below P A := by
  obtain ⟨s₂, o, h1, h2⟩ := k
  exact ⟨s₂, o, st.trans h1, h2⟩
theorem gIL (X : Stand p l e R s m args below meth c T locs cells slots) (hx : p.tables.exec = Jvm.exec) {code : ByteArray} (hby : c.code = code) {pc : Nat} {Ls : Array Slot} {S : List Value} {F : Outcome → State → Prop} {k : Nat} {v : Int32} (hd : decode code pc = .ok (.iload k, 2)) (hl : Ls[k]? = some (.val (.int v))) (G : Goes p e below F (T.setTop (mkF m (pc + 2) Ls (.int v :: S)))) : Goes p e below F (T.setTop (mkF m pc Ls (S))) := Goes.via (fun _ kk_ => XS.iload X.here hx rfl (hb hby hd) hl kk_) G
theorem gILN (X : Stand p l e R s m args below meth c T locs cells slots) (hx : p.tables.exec = Jvm.exec) {code : ByteArray} (hby : c.code = code) {pc : Nat} {Ls : Array Slot} {S : List Value} {F : Outcome → State → Prop} {k : Fin 4} {v : Int32} (hd : decode code pc = .ok (.iload_n k, 1)) (hl : Ls[k.val]? = some (.val (.int v))) (G : Goes p e below F (T.setTop (mkF m (pc + 1) Ls (.int v :: S)))) : Goes p e below F (T.setTop (mkF m pc Ls (S))) := Goes.via (fun _ kk_ => XS.iloadN X.here hx rfl (hb hby hd) hl kk_) G
theorem gAL (X : Stand p l e R s m args below meth c T locs cells slots) (hx : p.tables.exec = Jvm.exec) {code : ByteArray} (hby : c.code = code) {pc : Nat} {Ls : Array Slot} {S : List Value} {F : Outcome → State → Prop} {k : Nat} {v : Value} (hd : decode code pc = .ok (.aload k, 2)) (hl : Ls[k]? = some (.val v)) (hv : v.isRef = true) (G : Goes p e below F (T.setTop (mkF m (pc + 2) Ls (v :: S)))) : Goes p e below F (T.setTop (mkF m pc Ls (S))) := Goes.via (fun _ kk_ => XS.aload X.here hx rfl (hb hby hd) hl hv kk_) G
theorem gALN (X : Stand p l e R s m args below meth c T locs cells slots) (hx : p.tables.exec = Jvm.exec) {code : ByteArray} (hby : c.code = code) {pc : Nat} {Ls : Array Slot} {S : List Value} {F : Outcome → State → Prop} {k : Fin 4} {v : Value} (hd : decode code pc = .ok (.aload_n k, 1)) (hl : Ls[k.val]? = some (.val v)) (hv : v.isRef = true) (G : Goes p e below F (T.setTop (mkF m (pc + 1) Ls (v :: S)))) : Goes p e below F (T.setTop (mkF m pc Ls (S))) := Goes.via (fun _ kk_ => XS.aloadN X.here hx rfl (hb hby hd) hl hv kk_) G
theorem gIC {z : Int32} (X : Stand p l e R s m args below meth c T locs cells slots) (hx : p.tables.exec = Jvm.exec) {code : ByteArray} (hby : c.code = code) {pc : Nat} {Ls : Array Slot} {S : List Value} {F : Outcome → State → Prop} {i : Int} (hd : decode code pc = .ok (.iconst i, 1)) (hz : Int32.ofInt i = z) (G : Goes p e below F (T.setTop (mkF m (pc + 1) Ls (.int z :: S)))) : Goes p e below F (T.setTop (mkF m pc Ls S)) := by
  subst hz
  exact Goes.via (fun _ kk_ => XS.iconst X.here hx rfl (hb hby hd) kk_) G
theorem gBI {z : Int32} (X : Stand p l e R s m args below meth c T locs cells slots) (hx : p.tables.exec = Jvm.exec) {code : ByteArray} (hby : c.code = code) {pc : Nat} {Ls : Array Slot} {S : List Value} {F : Outcome → State → Prop} {i : Int} (hd : decode code pc = .ok (.bipush i, 2)) (hz : (Int8.ofInt i).toInt32 = z) (G : Goes p e below F (T.setTop (mkF m (pc + 2) Ls (.int z :: S)))) : Goes p e below F (T.setTop (mkF m pc Ls S)) := by
  subst hz
  exact Goes.via (fun _ kk_ => XS.bipush X.here hx rfl (hb hby hd) kk_) G
theorem gSI {z : Int32} (X : Stand p l e R s m args below meth c T locs cells slots) (hx : p.tables.exec = Jvm.exec) {code : ByteArray} (hby : c.code = code) {pc : Nat} {Ls : Array Slot} {S : List Value} {F : Outcome → State → Prop} {i : Int} (hd : decode code pc = .ok (.sipush i, 3)) (hz : (Int16.ofInt i).toInt32 = z) (G : Goes p e below F (T.setTop (mkF m (pc + 3) Ls (.int z :: S)))) : Goes p e below F (T.setTop (mkF m pc Ls S)) := by
  subst hz
  exact Goes.via (fun _ kk_ => XS.sipush X.here hx rfl (hb hby hd) kk_) G
theorem gDU (X : Stand p l e R s m args below meth c T locs cells slots) (hx : p.tables.exec = Jvm.exec) {code : ByteArray} (hby : c.code = code) {pc : Nat} {Ls : Array Slot} {S : List Value} {F : Outcome → State → Prop} {v : Value} (hd : decode code pc = .ok (.dup, 1)) (hc : v.category = 1) (G : Goes p e below F (T.setTop (mkF m (pc + 1) Ls (v :: v :: S)))) : Goes p e below F (T.setTop (mkF m pc Ls (v :: S))) := Goes.via (fun _ kk_ => XS.dup X.here hx rfl (hb hby hd) rfl hc kk_) G
theorem own_fin {pc : Nat} {Ls : Array Slot} {st : List Value} (X : Stand p l e R s m args below meth c T locs cells slots) (hlk : meth.locks = false) {v : Option Value} (hv : meth.sig.returnType = none → v = none)
    (hstep : ∀ fs, (∀ (f : JFrame) (acts : List Action), f.method = m → f.locked = none → f.entered = [] → (doReturn e (T.setTop f) acts v).1 = T.setFrames fs) → Steps p.tables e below (T.setTop (mkF m pc Ls st)) (T.setFrames fs))
    (hQ : Q v T.heap locs) (hC : cells ≤ C) (hS : slots ≤ S) : Goes p e below (Fin_ s Q C S) (T.setTop (mkF m pc Ls st)) := by
  obtain ⟨fs, hr, hrun, hended, hW, hsame⟩ := X.leave (v := v) hv hlk
  exact ⟨_, _, hstep fs hr, hrun, hended, _, _, rfl, hQ, ⟨_, rfl⟩, hW, hsame.mono hC hS⟩
theorem own_finV {pc : Nat} {Ls : Array Slot} (X : Stand p l e R s m args below meth c T locs cells slots) (hx : p.tables.exec = Jvm.exec) (hlk : meth.locks = false) (hret : meth.sig.returnType = none)
    (hd : decode c.code pc = .ok (.return_, 1)) (hQ : Q none T.heap locs) (hC : cells ≤ C) (hS : slots ≤ S) : Goes p e below (Fin_ s Q C S) (T.setTop (mkF m pc Ls [])) :=
  own_fin X hlk (fun _ => rfl) (fun _ hr => X.returnOut hx hret hd hr) hQ hC hS
theorem own_finI {pc : Nat} {Ls : Array Slot} {z : Int32} {rest : List Value} (X : Stand p l e R s m args below meth c T locs cells slots) (hx : p.tables.exec = Jvm.exec) (hlk : meth.locks = false) (hret : meth.sig.returnType = some .int)
    (hd : decode c.code pc = .ok (.ireturn, 1)) (hQ : Q (some (.int z)) T.heap locs) (hC : cells ≤ C) (hS : slots ≤ S) : Goes p e below (Fin_ s Q C S) (T.setTop (mkF m pc Ls (.int z :: rest))) :=
  own_fin X hlk (fun h => by rw [hret] at h; cases h) (fun _ hr => retOut X hx hret rfl (Or.inl ⟨rfl, Or.inl rfl, _, rfl⟩) hd hr) hQ hC hS
theorem own_finN {pc : Nat} {Ls : Array Slot} {z : Int32} {rest : List Value} (X : Stand p l e R s m args below meth c T locs cells slots) (hx : p.tables.exec = Jvm.exec) (hlk : meth.locks = false) {t : FieldType} (hret : meth.sig.returnType = some t)
    (ht : t = .boolean ∨ t = .byte ∨ t = .char ∨ t = .short) (hd : decode c.code pc = .ok (.ireturn, 1)) (hQ : Q (some (.int (nar t z))) T.heap locs) (hC : cells ≤ C) (hS : slots ≤ S) : Goes p e below (Fin_ s Q C S) (T.setTop (mkF m pc Ls (.int z :: rest))) :=
  own_fin X hlk (fun h => by rw [hret] at h; cases h) (fun _ hr => retN X hx hret ht hd hr) hQ hC hS
theorem own_finJ {pc : Nat} {Ls : Array Slot} {z : Int64} {rest : List Value} (X : Stand p l e R s m args below meth c T locs cells slots) (hx : p.tables.exec = Jvm.exec) (hlk : meth.locks = false) (hret : meth.sig.returnType = some .long)
    (hd : decode c.code pc = .ok (.lreturn, 1)) (hQ : Q (some (.long z)) T.heap locs) (hC : cells ≤ C) (hS : slots ≤ S) : Goes p e below (Fin_ s Q C S) (T.setTop (mkF m pc Ls (.long z :: rest))) :=
  own_fin X hlk (fun h => by rw [hret] at h; cases h) (fun _ hr => retOut X hx hret rfl (Or.inr (Or.inl ⟨rfl, rfl, _, rfl⟩)) hd hr) hQ hC hS
theorem own_finR {pc : Nat} {Ls : Array Slot} {w : Value} {rest : List Value} (X : Stand p l e R s m args below meth c T locs cells slots) (hx : p.tables.exec = Jvm.exec) (hlk : meth.locks = false) {t : FieldType} (hret : meth.sig.returnType = some t) (ht : t.isReference = true) (hw : w.isRef = true) (hn : narrow t w = w)
    (hd : decode c.code pc = .ok (.areturn, 1)) (hQ : Q (some w) T.heap locs) (hC : cells ≤ C) (hS : slots ≤ S) : Goes p e below (Fin_ s Q C S) (T.setTop (mkF m pc Ls (w :: rest))) :=
  own_fin X hlk (fun h => by rw [hret] at h; cases h) (fun _ hr => retOut X hx hret hn (Or.inr (Or.inr (Or.inr (Or.inr ⟨rfl, ht, hw⟩)))) hd hr) hQ hC hS
theorem own_sta_keep {Z : State} {h h' : Heap} {C n d : String} {v : Value} (F : Sta Z h C n d v) (K : Keep h h' []) : Sta Z h' C n d v := by
  obtain ⟨cf, i, k, f, st, cell, h1, h2, h3, h4, h5, h6⟩ := F
  exact ⟨cf, i, k, f, st, cell, h1, h2, h3, h4, K.2.1 _ _ h5 nin0, h6⟩
theorem own_mask (x : Int32) : ¬ (x &&& (2147483647 : Int32)) < (0 : Int32) := by
  intro q
  have q1 := (c_and x 2147483647 (by decide)).1
  have q2 := Int32.lt_iff_toInt_lt.mp q
  have q3 : (0 : Int32).toInt = 0 := by decide
  omega
theorem own_and255 (x : Int32) : ¬ (x &&& (255 : Int32)) < 0 ∧ ¬ (255 : Int32) < (x &&& (255 : Int32)) := by
  have q1 := c_and x 255 (by decide)
  have q3 : (0 : Int32).toInt = 0 := by decide
  have q4 : (255 : Int32).toInt = 255 := by decide
  constructor
  · intro q
    have q2 := Int32.lt_iff_toInt_lt.mp q
    omega
  · intro q
    have q2 := Int32.lt_iff_toInt_lt.mp q
    omega
theorem own_mvM {Z : State} {a0 args' : Array Value} {own host : String} {index : Nat} {y : MethodName} (hZ : Z.Warmed39 s.vm) (w : (Jvm.Cond.methodLinkNest own index y host).before a0 Z = true) : (Jvm.Cond.methodLinkNest own index y host).before args' s = true := (Jvm.Cond.methodLinkNest_wide hZ w :)
end Own
section Arrays
variable {p : Program} {l : Launch} {e : Env} {R : Room} {s : State} {m : MethodId} {args : Array Value} {below : List Frame} {meth : Method} {c : Code} {T : State} {locs : List Loc} {cells slots : Nat} {Z : State} {a0 : Array Value} {h h' : Heap} {a b : Addr} {k : ClassId} {ty : FieldType} {n : Nat} {f : Nat → Value} {ws : List Addr}
def Arw (Z : State) (h : Heap) (a : Addr) (k : ClassId) (ty : FieldType) (n : Nat) (f : Nat → Value) : Prop :=
  ∃ c : Cell, Arr Z h a c ty ∧ c.cls = k ∧ c.slots.size = n ∧ n < 2147483648 ∧ (∀ i, i < n → c.slots[i]? = some (f i)) ∧ ∀ i, i < n → fits ty (f i) = true
def own_upd (f : Nat → Value) (i : Nat) (v : Value) : Nat → Value := fun q => if q = i then v else f q
theorem own_upd_same (f : Nat → Value) (i : Nat) (v : Value) : own_upd f i v i = v := if_pos rfl
theorem own_upd_ne (f : Nat → Value) {i j : Nat} (v : Value) (q : j ≠ i) : own_upd f i v j = f j := if_neg q
theorem Arw.lt (F : Arw Z h a k ty n f) : a < h.size := by
  obtain ⟨c, A, -⟩ := F
  exact A.lt
theorem Arw.ext (F : Arw Z h a k ty n f) (E : Ext h h') : Arw Z h' a k ty n f := by
  obtain ⟨c, A, r⟩ := F
  exact ⟨c, A.ext E, r⟩
theorem Arw.other {sl : Nat} {v : Value} (F : Arw Z h b k ty n f) (W : Wr h h' a sl v) (q : b ≠ a) : Arw Z h' b k ty n f := by
  obtain ⟨c, A, r⟩ := F
  exact ⟨c, A.other W q, r⟩
theorem Arw.keep (F : Arw Z h a k ty n f) (K : Keep h h' ws) (q : a ∉ ws) : Arw Z h' a k ty n f := by
  obtain ⟨c, A, r⟩ := F
  exact ⟨c, ⟨K.2.1 _ _ A.1 q, A.2⟩, r⟩
theorem Arw.to {f' : Nat → Value} (F : Arw Z h a k ty n f) (q : ∀ i, i < n → f' i = f i) : Arw Z h a k ty n f' := by
  obtain ⟨c, A, h1, h2, h3, h4, h5⟩ := F
  exact ⟨c, A, h1, h2, h3, fun i hi => by rw [q i hi]; exact h4 i hi, fun i hi => by rw [q i hi]; exact h5 i hi⟩
theorem own_ne_arr {C : String} {kk : Nat} (F : Exa Z h a C) (wi : (Cond.instantiable C kk).before a0 Z = true) (G : Arw Z h b k ty n f) : a ≠ b := by
  obtain ⟨c, A, -⟩ := G
  exact ne_arr F wi A
theorem own_newP (X : Stand p l e R s m args below meth c T locs cells slots) (hx : p.tables.exec = Jvm.exec) (hZ : Z.Warmed39 s.vm) {aty : ArrayType} (w : (Cond.arrayClass (newarray.typeOf aty)).before a0 Z = true) (eT : T.heap = h) {g : JFrame} (hg : g.method = m)
    (hd : decode c.code g.pc = .ok (.newarray aty, 2)) {n : Int32} {rest : List Value} (hs : g.stack = .int n :: rest) {N : Nat} (hn : ¬ n < 0) (hN : n.toNatClampNeg = N) {cap : Nat} (hcap : N ≤ cap) (hb : cap * 8 ≤ 536870912) (hc : cells + 1 ≤ R.cells) (hl : slots + cap ≤ R.slots) :
    ∃ T' h' cA, Stand p l e R s m args below meth c T' locs (cells + 1) (slots + cap) ∧ T'.heap = h' ∧ Ext h h' ∧ Arw Z h' h.size cA (newarray.typeOf aty) N (fun _ => defaultValue (newarray.typeOf aty)) ∧
      ∀ target, Steps p.tables e below (T'.setTop { g with pc := g.pc + 2, stack := .ref h.size :: rest }) target → Steps p.tables e below (T.setTop g) target := by
  obtain ⟨T', h', cA, X', e', E', A', st⟩ := newP X hx hZ w eT hg hd hs hn (cap := cap) (by omega) hb hc hl
  refine ⟨T', h', cA, X', e', E', ⟨_, A', rfl, (sz_new _ _ _).trans hN, by omega, fun i hi => ?_, fun i hi => ?_⟩, st⟩
  · subst hN
    simp [newA, hi]
  · cases aty <;> rfl
theorem own_alen (X : Stand p l e R s m args below meth c T locs cells slots) (hx : p.tables.exec = Jvm.exec) (hZ : Z.Warmed39 s.vm) (eT : T.heap = h) (A : Arw Z h a k ty n f) {g : JFrame} (hg : g.method = m) {rest : List Value} (hs : g.stack = .ref a :: rest) (hd : decode c.code g.pc = .ok (.arraylength, 1)) :
    ∀ target, Steps p.tables e below (T.setTop { g with pc := g.pc + 1, stack := .int n.toInt32 :: rest }) target → Steps p.tables e below (T.setTop g) target := by
  obtain ⟨c, A, h1, h2, h3, h4, h5⟩ := A
  intro target kk
  refine X.arraylength hx (by rw [eT]; exact A.1) (State.isArrayOf_alike hZ.alike A.2.1) hg hs hd target ?_
  rw [h2]
  exact kk
theorem own_in {cl : Cell} {j : Int32} {i : Nat} (h2 : cl.slots.size = n) (hj : ¬ j < 0) (hji : j.toNatClampNeg = i) (hi : i < n) : ¬ (j < 0 ∨ cl.slots.size ≤ j.toNatClampNeg) := by
  rintro (q | q)
  · exact hj q
  · omega
theorem own_iaload (X : Stand p l e R s m args below meth c T locs cells slots) (hx : p.tables.exec = Jvm.exec) (hZ : Z.Warmed39 s.vm) (eT : T.heap = h) (A : Arw Z h a k .int n f) {j : Int32} {i : Nat} (hj : ¬ j < 0) (hji : j.toNatClampNeg = i) (hi : i < n) {v : Int32} (hv : f i = .int v)
    {g : JFrame} (hg : g.method = m) {rest : List Value} (hs : g.stack = .int j :: .ref a :: rest) (hd : decode c.code g.pc = .ok (.iaload, 1)) :
    ∀ target, Steps p.tables e below (T.setTop { g with pc := g.pc + 1, stack := .int v :: rest }) target → Steps p.tables e below (T.setTop g) target := by
  obtain ⟨cl, A, h1, h2, h3, h4, h5⟩ := A
  intro target kk
  exact X.iaload hx (by rw [eT]; exact A.1) (State.isArrayOf_alike hZ.alike A.2.1) A.2.2 (own_in h2 hj hji hi) (by rw [hji, h4 i hi, hv]) hg hs hd target kk
theorem own_laload (X : Stand p l e R s m args below meth c T locs cells slots) (hx : p.tables.exec = Jvm.exec) (hZ : Z.Warmed39 s.vm) (eT : T.heap = h) (A : Arw Z h a k .long n f) {j : Int32} {i : Nat} (hj : ¬ j < 0) (hji : j.toNatClampNeg = i) (hi : i < n) {v : Int64} (hv : f i = .long v)
    {g : JFrame} (hg : g.method = m) {rest : List Value} (hs : g.stack = .int j :: .ref a :: rest) (hd : decode c.code g.pc = .ok (.laload, 1)) :
    ∀ target, Steps p.tables e below (T.setTop { g with pc := g.pc + 1, stack := .long v :: rest }) target → Steps p.tables e below (T.setTop g) target := by
  obtain ⟨cl, A, h1, h2, h3, h4, h5⟩ := A
  intro target kk
  exact X.laload hx (by rw [eT]; exact A.1) (State.isArrayOf_alike hZ.alike A.2.1) A.2.2 (own_in h2 hj hji hi) (by rw [hji, h4 i hi, hv]) hg hs hd target kk
theorem own_aaload (X : Stand p l e R s m args below meth c T locs cells slots) (hx : p.tables.exec = Jvm.exec) (hZ : Z.Warmed39 s.vm) (eT : T.heap = h) (A : Arw Z h a k ty n f) (hty : ty.isReference = true) {j : Int32} {i : Nat} (hj : ¬ j < 0) (hji : j.toNatClampNeg = i) (hi : i < n) {v : Value} (hv : f i = v)
    {g : JFrame} (hg : g.method = m) {rest : List Value} (hs : g.stack = .int j :: .ref a :: rest) (hd : decode c.code g.pc = .ok (.aaload, 1)) :
    ∀ target, Steps p.tables e below (T.setTop { g with pc := g.pc + 1, stack := v :: rest }) target → Steps p.tables e below (T.setTop g) target := by
  obtain ⟨cl, A, h1, h2, h3, h4, h5⟩ := A
  intro target kk
  exact X.aaload hx (by rw [eT]; exact A.1) (State.isArrayOf_alike hZ.alike A.2.1) hty A.2.2 (own_in h2 hj hji hi) (by rw [hji, h4 i hi, hv]) hg hs hd target kk
theorem own_ix {j : Int32} {i : Nat} (h : j.toInt = i) : ¬ j < 0 ∧ j.toNatClampNeg = i := by
  constructor
  · intro q
    have q1 := Int32.lt_iff_toInt_lt.mp q
    have q3 : (0 : Int32).toInt = 0 := by decide
    omega
  · show j.toInt.toNat = i
    omega
theorem own_lti {x y : Int32} : x < y ↔ x.toInt < y.toInt := Int32.lt_iff_toInt_lt
theorem Arw.ofArv {z : Int32} {vs : List Value} {dv : Value} (F : Arv Z h a k ty z vs dv) (hn : z.toNatClampNeg = n) (q : ∀ i, i < n → vs.getD i dv = f i) : Arw Z h a k ty n f := by
  obtain ⟨c, A, h1, h2, h3, h4, h5⟩ := F
  have hb := (back32 h3).2
  refine ⟨c, A, h1, h2.trans hn, by omega, fun i hi => ?_, fun i hi => ?_⟩
  · rw [h4 i (by omega), q i hi]
  · rw [← q i hi]
    exact h5 i (by omega)
theorem own_set {cl : Cell} {j : Int32} {i : Nat} {v : Value} (A : Arr Z h a cl ty) (h1 : cl.cls = k) (h2 : cl.slots.size = n) (h3 : n < 2147483648) (h4 : ∀ i, i < n → cl.slots[i]? = some (f i)) (h5 : ∀ i, i < n → fits ty (f i) = true) (hv : fits ty v = true) (W : Wr h h' a j.toNatClampNeg v) (hji : j.toNatClampNeg = i) (hi : i < n) :
    Arw Z h' a k ty n (own_upd f i v) := by
  subst hji
  refine ⟨_, A.same W, h1, by rw [sz_set]; exact h2, h3, fun q hq => ?_, fun q hq => ?_⟩
  · by_cases e : q = j.toNatClampNeg
    · subst e
      rw [own_upd_same]
      simp [Cell.setSlot, h2, hq]
    · rw [own_upd_ne _ _ e, ← h4 q hq]
      simp [Cell.setSlot, Array.getElem?_setIfInBounds, Ne.symm e]
  · by_cases e : q = j.toNatClampNeg
    · subst e
      rw [own_upd_same]
      exact hv
    · rw [own_upd_ne _ _ e]
      exact h5 q hq
theorem own_iastore (X : Stand p l e R s m args below meth c T locs cells slots) (hx : p.tables.exec = Jvm.exec) (hZ : Z.Warmed39 s.vm) (eT : T.heap = h) (A : Arw Z h a k .int n f) {j : Int32} {i : Nat} (hj : ¬ j < 0) (hji : j.toNatClampNeg = i) (hi : i < n)
    {g : JFrame} (hg : g.method = m) {x : Int32} {rest : List Value} (hs : g.stack = .int x :: .int j :: .ref a :: rest) (hd : decode c.code g.pc = .ok (.iastore, 1)) :
    ∃ T' h', Stand p l e R s m args below meth c T' (locs ++ [⟨a, j.toNatClampNeg⟩]) cells slots ∧ T'.heap = h' ∧ Wr h h' a j.toNatClampNeg (.int x) ∧ Arw Z h' a k .int n (own_upd f i (.int x)) ∧
      ∀ target, Steps p.tables e below (T'.setTop { g with pc := g.pc + 1, stack := rest }) target → Steps p.tables e below (T.setTop g) target := by
  obtain ⟨cl, A, h1, h2, h3, h4, h5⟩ := A
  obtain ⟨T', h', X', e', W, st⟩ := stI X hx hZ eT A (j := j) (own_in h2 hj hji hi) hg hs hd
  exact ⟨T', h', X', e', W, own_set A h1 h2 h3 h4 h5 rfl W hji hi, st⟩
theorem own_lastore (X : Stand p l e R s m args below meth c T locs cells slots) (hx : p.tables.exec = Jvm.exec) (hZ : Z.Warmed39 s.vm) (eT : T.heap = h) (A : Arw Z h a k .long n f) {j : Int32} {i : Nat} (hj : ¬ j < 0) (hji : j.toNatClampNeg = i) (hi : i < n)
    {g : JFrame} (hg : g.method = m) {x : Int64} {rest : List Value} (hs : g.stack = .long x :: .int j :: .ref a :: rest) (hd : decode c.code g.pc = .ok (.lastore, 1)) :
    ∃ T' h', Stand p l e R s m args below meth c T' (locs ++ [⟨a, j.toNatClampNeg⟩]) cells slots ∧ T'.heap = h' ∧ Wr h h' a j.toNatClampNeg (.long x) ∧ Arw Z h' a k .long n (own_upd f i (.long x)) ∧
      ∀ target, Steps p.tables e below (T'.setTop { g with pc := g.pc + 1, stack := rest }) target → Steps p.tables e below (T.setTop g) target := by
  obtain ⟨cl, A, h1, h2, h3, h4, h5⟩ := A
  obtain ⟨T', h', X', e', W, st⟩ := stJ X hx hZ eT A (j := j) (own_in h2 hj hji hi) hg hs hd
  exact ⟨T', h', X', e', W, own_set A h1 h2 h3 h4 h5 rfl W hji hi, st⟩
theorem own_castore (X : Stand p l e R s m args below meth c T locs cells slots) (hx : p.tables.exec = Jvm.exec) (hZ : Z.Warmed39 s.vm) (eT : T.heap = h) (A : Arw Z h a k .char n f) {j : Int32} {i : Nat} (hj : ¬ j < 0) (hji : j.toNatClampNeg = i) (hi : i < n)
    {g : JFrame} (hg : g.method = m) {x : Int32} {rest : List Value} (hs : g.stack = .int x :: .int j :: .ref a :: rest) (hd : decode c.code g.pc = .ok (.castore, 1)) :
    ∃ T' h', Stand p l e R s m args below meth c T' (locs ++ [⟨a, j.toNatClampNeg⟩]) cells slots ∧ T'.heap = h' ∧ Wr h h' a j.toNatClampNeg (.int (nar .char x)) ∧ Arw Z h' a k .char n (own_upd f i (.int (nar .char x))) ∧
      ∀ target, Steps p.tables e below (T'.setTop { g with pc := g.pc + 1, stack := rest }) target → Steps p.tables e below (T.setTop g) target := by
  obtain ⟨cl, A, h1, h2, h3, h4, h5⟩ := A
  obtain ⟨T', h', X', e', W, st⟩ := stC X hx hZ eT A (j := j) (own_in h2 hj hji hi) hg hs hd
  exact ⟨T', h', X', e', W, own_set A h1 h2 h3 h4 h5 (fits_nar_char _) W hji hi, st⟩
theorem own_caload (X : Stand p l e R s m args below meth c T locs cells slots) (hx : p.tables.exec = Jvm.exec) (hZ : Z.Warmed39 s.vm) (eT : T.heap = h) (A : Arw Z h a k .char n f) {j : Int32} {i : Nat} (hj : ¬ j < 0) (hji : j.toNatClampNeg = i) (hi : i < n) {v : Int32} (hv : f i = .int v)
    {g : JFrame} (hg : g.method = m) {rest : List Value} (hs : g.stack = .int j :: .ref a :: rest) (hd : decode c.code g.pc = .ok (.caload, 1)) :
    ∀ target, Steps p.tables e below (T.setTop { g with pc := g.pc + 1, stack := .int v :: rest }) target → Steps p.tables e below (T.setTop g) target := by
  obtain ⟨cl, A, h1, h2, h3, h4, h5⟩ := A
  intro target kk
  exact X.caload hx (by rw [eT]; exact A.1) (State.isArrayOf_alike hZ.alike A.2.1) A.2.2 (own_in h2 hj hji hi) (by rw [hji, h4 i hi, hv]) hg hs hd target kk
theorem own_baload (X : Stand p l e R s m args below meth c T locs cells slots) (hx : p.tables.exec = Jvm.exec) (hZ : Z.Warmed39 s.vm) (eT : T.heap = h) (A : Arw Z h a k .byte n f) {j : Int32} {i : Nat} (hj : ¬ j < 0) (hji : j.toNatClampNeg = i) (hi : i < n) {v : Int32} (hv : f i = .int v)
    {g : JFrame} (hg : g.method = m) {rest : List Value} (hs : g.stack = .int j :: .ref a :: rest) (hd : decode c.code g.pc = .ok (.baload, 1)) :
    ∀ target, Steps p.tables e below (T.setTop { g with pc := g.pc + 1, stack := .int v :: rest }) target → Steps p.tables e below (T.setTop g) target := by
  obtain ⟨cl, A, h1, h2, h3, h4, h5⟩ := A
  intro target kk
  exact X.baloadBytes hx (by rw [eT]; exact A.1) (State.isArrayOf_alike hZ.alike A.2.1) A.2.2 (own_in h2 hj hji hi) (by rw [hji, h4 i hi, hv]) hg hs hd target kk
theorem Arw.toArv {vs : List Value} {dv : Value} {z : Int32} (F : Arw Z h a k ty n f) (hz : z.toInt = (n : Int)) (q : ∀ i, i < n → vs.getD i dv = f i) : Arv Z h a k ty z vs dv := by
  obtain ⟨c, A, h1, h2, h3, h4, h5⟩ := F
  obtain ⟨z0, zn⟩ := own_ix hz
  exact ⟨c, A, h1, h2.trans zn.symm, z0, fun i hi => by rw [h4 i (by omega), q i (by omega)], fun i hi => by rw [q i (by omega)]; exact h5 i (by omega)⟩
end Arrays
section Refs
variable {p : Program} {l : Launch} {e : Env} {R : Room} {s : State} {m : MethodId} {args : Array Value} {below : List Frame} {meth : Method} {c : Code} {T : State} {locs : List Loc} {cells slots : Nat} {Z : State} {a0 : Array Value} {h h' : Heap} {a b : Addr} {k : ClassId} {ty : FieldType} {n : Nat} {f : Nat → Value} {ws : List Addr}
/-- anewarray of a class's references -/
theorem own_newO (X : Stand p l e R s m args below meth c T locs cells slots) (hx : p.tables.exec = Jvm.exec) (hZ : Z.Warmed39 s.vm) {own C : String} {index : Nat} (hown : s.vm.findClass own = some m.cls) (w1 : (Cond.classLink own index C).before a0 Z = true) (w2 : (Cond.arrayOver (.object C)).before a0 Z = true)
    (eT : T.heap = h) {g : JFrame} (hg : g.method = m) (hd : decode c.code g.pc = .ok (.anewarray index, 3)) {n : Int32} {rest : List Value} (hs : g.stack = .int n :: rest) {N : Nat} (hn : ¬ n < 0) (hN : n.toNatClampNeg = N) {cap : Nat} (hcap : N ≤ cap) (hb : cap * 8 ≤ 536870912) (hc : cells + 1 ≤ R.cells) (hl : slots + cap ≤ R.slots) :
    ∃ T' h' cA, Stand p l e R s m args below meth c T' locs (cells + 1) (slots + cap) ∧ T'.heap = h' ∧ Ext h h' ∧ Arw Z h' h.size cA (.object C) N (fun _ => .null) ∧ Ovr Z cA C ∧
      ∀ target, Steps p.tables e below (T'.setTop { g with pc := g.pc + 3, stack := .ref h.size :: rest }) target → Steps p.tables e below (T.setTop g) target := by
  obtain ⟨T', h', cA, X', e', E', A', O, st⟩ := newR X hx hZ hown w1 w2 eT hg hd hs hn (cap := cap) (by omega) hb hc hl
  refine ⟨T', h', cA, X', e', E', ⟨_, A', rfl, (sz_new _ _ _).trans hN, by omega, fun i hi => ?_, fun i hi => ?_⟩, O, st⟩
  · subst hN
    simp [newA, hi, defaultValue]
  · rfl
/-- aastore of an object of a class that the array's components take -/
theorem own_aastore (X : Stand p l e R s m args below meth c T locs cells slots) (hx : p.tables.exec = Jvm.exec) (hZ : Z.Warmed39 s.vm) (eT : T.heap = h) {C : String} (A : Arw Z h a k ty n f) (hty : ty.isReference = true) {y : Addr} (hv : fits ty (.ref y) = true) (O : Ovr Z k C) (I : Ins Z h y C true) {j : Int32} {i : Nat} (hj : ¬ j < 0) (hji : j.toNatClampNeg = i) (hi : i < n)
    {g : JFrame} (hg : g.method = m) {rest : List Value} (hs : g.stack = .ref y :: .int j :: .ref a :: rest) (hd : decode c.code g.pc = .ok (.aastore, 1)) :
    ∃ T' h', Stand p l e R s m args below meth c T' (locs ++ [⟨a, j.toNatClampNeg⟩]) cells slots ∧ T'.heap = h' ∧ Wr h h' a j.toNatClampNeg (.ref y) ∧ Arw Z h' a k ty n (own_upd f i (.ref y)) ∧
      ∀ target, Steps p.tables e below (T'.setTop { g with pc := g.pc + 1, stack := rest }) target → Steps p.tables e below (T.setTop g) target := by
  obtain ⟨cl, A, h1, h2, h3, h4, h5⟩ := A
  obtain ⟨T', h', X', e', W, st⟩ := stR X hx hZ eT A (j := j) (own_in h2 hj hji hi) hty (Sto.ofV A h1 O I) hg hs hd
  exact ⟨T', h', X', e', W, own_set A h1 h2 h3 h4 h5 hv W hji hi, st⟩
/-- aastore of null -/
theorem own_aastoreN (X : Stand p l e R s m args below meth c T locs cells slots) (hx : p.tables.exec = Jvm.exec) (hZ : Z.Warmed39 s.vm) (eT : T.heap = h) (A : Arw Z h a k ty n f) (hty : ty.isReference = true) (hv : fits ty .null = true) {j : Int32} {i : Nat} (hj : ¬ j < 0) (hji : j.toNatClampNeg = i) (hi : i < n)
    {g : JFrame} (hg : g.method = m) {rest : List Value} (hs : g.stack = .null :: .int j :: .ref a :: rest) (hd : decode c.code g.pc = .ok (.aastore, 1)) :
    ∃ T' h', Stand p l e R s m args below meth c T' (locs ++ [⟨a, j.toNatClampNeg⟩]) cells slots ∧ T'.heap = h' ∧ Wr h h' a j.toNatClampNeg .null ∧ Arw Z h' a k ty n (own_upd f i .null) ∧
      ∀ target, Steps p.tables e below (T'.setTop { g with pc := g.pc + 1, stack := rest }) target → Steps p.tables e below (T.setTop g) target := by
  obtain ⟨cl, A, h1, h2, h3, h4, h5⟩ := A
  obtain ⟨T', h', X', e', W, st⟩ := stR X hx hZ eT A (j := j) (own_in h2 hj hji hi) hty (Or.inl rfl) hg hs hd
  exact ⟨T', h', X', e', W, own_set A h1 h2 h3 h4 h5 hv W hji hi, st⟩
end Refs
theorem own_plE {Z : State} {h : Heap} {a : Addr} {C : String} (F : Exa Z h a C) : ∃ c : Cell, h[a]? = some c ∧ c.vm.isStatics = false := by
  obtain ⟨c, _, h1, -, -, h4, -⟩ := F
  exact ⟨c, h1, h4⟩
theorem own_plA {Z : State} {h : Heap} {a : Addr} {k : ClassId} {ty : FieldType} {n : Nat} {f : Nat → Value} (F : Arw Z h a k ty n f) : ∃ c : Cell, h[a]? = some c ∧ c.vm.isStatics = false := by
  obtain ⟨c, A, -⟩ := F
  exact ⟨c, A.1, A.plain⟩
theorem own_sta_keepW {Z : State} {h h' : Heap} {ws : List Addr} {C n d : String} {v : Value} (F : Sta Z h C n d v) (K : Keep h h' ws) (q : ∀ w ∈ ws, ∃ c : Cell, h[w]? = some c ∧ c.vm.isStatics = false) : Sta Z h' C n d v := by
  obtain ⟨cf, i, k, f, st, cell, h1, h2, h3, h4, h5, h6, h7⟩ := F
  refine ⟨cf, i, k, f, st, cell, h1, h2, h3, h4, K.2.1 _ _ h5 (fun hm => ?_), h6, h7⟩
  obtain ⟨c, e1, e2⟩ := q st hm
  cases h5.symm.trans e1
  rw [e2] at h6
  cases h6
theorem own_selP {Z : State} {a0 : Array Value} {y : MethodName} {n : Nat} (wi : (Cond.instantiable y.cls n).before a0 Z = true) (wp : (Cond.privateMethod y).before a0 Z = true) (wm : (Cond.instanceMethod y).before a0 Z = true) (hy : y.cls ≠ "java/lang/invoke/MethodHandle" ∧ y.cls ≠ "java/lang/invoke/VarHandle") : (Cond.selects y.cls y y).before a0 Z = true := by
  obtain ⟨c, k, g1, g2, g3, g4, -⟩ := Cond.instantiable_spec wi
  refine selects_self_of_private g1 g2 ?_ (Cond.privateMethod_at wp) wm hy
  cases q : k.isInterface with
  | false => rfl
  | true => rw [q] at g4; simp at g4
section Rows
variable {p : Program} {l : Launch} {e : Env} {R : Room} {s : State} {m : MethodId} {args : Array Value} {below : List Frame} {meth : Method} {c : Code} {T : State} {locs : List Loc} {cells slots : Nat} {Z : State} {a0 : Array Value} {h h' : Heap} {a b : Addr} {k : ClassId} {ty : FieldType} {n : Nat} {f : Nat → Value} {ws : List Addr}
theorem own_newOE (X : Stand p l e R s m args below meth c T locs cells slots) (hx : p.tables.exec = Jvm.exec) (hZ : Z.Warmed39 s.vm) {own C : String} {index : Nat} (hown : s.vm.findClass own = some m.cls) (w1 : (Cond.classLink own index C).before a0 Z = true) (w2 : (Cond.arrayOver (.object C)).before a0 Z = true)
    (eT : T.heap = h) {g : JFrame} (hg : g.method = m) (hd : decode c.code g.pc = .ok (.anewarray index, 3)) {n : Int32} {rest : List Value} (hs : g.stack = .int n :: rest) {N : Nat} (hn : ¬ n < 0) (hN : n.toNatClampNeg = N) {cap : Nat} (hcap : N ≤ cap) (hb : cap * 8 ≤ 536870912) (hc : cells + 1 ≤ R.cells) (hl : slots + cap ≤ R.slots) {ad : String} (had : "[" ++ (FieldType.object C).toString = ad) :
    ∃ T' h' cA, Stand p l e R s m args below meth c T' locs (cells + 1) (slots + cap) ∧ T'.heap = h' ∧ Ext h h' ∧ Arw Z h' h.size cA (.object C) N (fun _ => .null) ∧ Exa Z h' h.size ad ∧ Ovr Z cA C ∧
      ∀ target, Steps p.tables e below (T'.setTop { g with pc := g.pc + 3, stack := .ref h.size :: rest }) target → Steps p.tables e below (T.setTop g) target := by
  obtain ⟨T', h', cA, X', e', E', A', Ex, O, st⟩ := newRE X hx hZ hown w1 w2 eT hg hd hs hn (cap := cap) (by omega) hb hc hl had
  refine ⟨T', h', cA, X', e', E', ⟨_, A', rfl, (sz_new _ _ _).trans hN, by omega, fun i hi => ?_, fun i hi => ?_⟩, Ex, O, st⟩
  · subst hN
    simp [newA, hi, defaultValue]
  · rfl
theorem own_newPE (X : Stand p l e R s m args below meth c T locs cells slots) (hx : p.tables.exec = Jvm.exec) (hZ : Z.Warmed39 s.vm) {aty : ArrayType} (w : (Cond.arrayClass (newarray.typeOf aty)).before a0 Z = true) (eT : T.heap = h) {g : JFrame} (hg : g.method = m)
    (hd : decode c.code g.pc = .ok (.newarray aty, 2)) {n : Int32} {rest : List Value} (hs : g.stack = .int n :: rest) {N : Nat} (hn : ¬ n < 0) (hN : n.toNatClampNeg = N) {cap : Nat} (hcap : N ≤ cap) (hb : cap * 8 ≤ 536870912) (hc : cells + 1 ≤ R.cells) (hl : slots + cap ≤ R.slots) {ad : String} (had : "[" ++ (newarray.typeOf aty).toString = ad) :
    ∃ T' h' cA, Stand p l e R s m args below meth c T' locs (cells + 1) (slots + cap) ∧ T'.heap = h' ∧ Ext h h' ∧ Arw Z h' h.size cA (newarray.typeOf aty) N (fun _ => defaultValue (newarray.typeOf aty)) ∧ Exa Z h' h.size ad ∧
      ∀ target, Steps p.tables e below (T'.setTop { g with pc := g.pc + 2, stack := .ref h.size :: rest }) target → Steps p.tables e below (T.setTop g) target := by
  obtain ⟨T', h', cA, X', e', E', A', Ex, st⟩ := newPE X hx hZ w eT hg hd hs hn (cap := cap) (by omega) hb hc hl had
  refine ⟨T', h', cA, X', e', E', ⟨_, A', rfl, (sz_new _ _ _).trans hN, by omega, fun i hi => ?_, fun i hi => ?_⟩, Ex, st⟩
  · subst hN
    simp [newA, hi]
  · cases aty <;> rfl
theorem own_newRA (X : Stand p l e R s m args below meth c T locs cells slots) (hx : p.tables.exec = Jvm.exec) (hZ : Z.Warmed39 s.vm) {own C : String} {index : Nat} (hown : s.vm.findClass own = some m.cls) (hC : (FieldType.array ty).toString = C) (w1 : (Cond.classLink own index C).before a0 Z = true) (w2 : (Cond.arrayOver (.array ty)).before a0 Z = true)
    (eT : T.heap = h) {g : JFrame} (hg : g.method = m) (hd : decode c.code g.pc = .ok (.anewarray index, 3)) {n : Int32} {rest : List Value} (hs : g.stack = .int n :: rest) {N : Nat} (hn : ¬ n < 0) (hN : n.toNatClampNeg = N) {cap : Nat} (hcap : N ≤ cap) (hb : cap * 8 ≤ 536870912) (hc : cells + 1 ≤ R.cells) (hl : slots + cap ≤ R.slots) {ad : String} (had : "[" ++ C = ad) :
    ∃ T' h' cA, Stand p l e R s m args below meth c T' locs (cells + 1) (slots + cap) ∧ T'.heap = h' ∧ Ext h h' ∧ Arw Z h' h.size cA (.array ty) N (fun _ => .null) ∧ Exa Z h' h.size ad ∧ OvrA Z cA ty C ∧
      ∀ target, Steps p.tables e below (T'.setTop { g with pc := g.pc + 3, stack := .ref h.size :: rest }) target → Steps p.tables e below (T.setTop g) target := by
  obtain ⟨T', h', cA, X', e', E', A', Ex, O, st⟩ := newRA X hx hZ hown hC w1 w2 eT hg hd hs hn (cap := cap) (by omega) hb hc hl had
  refine ⟨T', h', cA, X', e', E', ⟨_, A', rfl, (sz_new _ _ _).trans hN, by omega, fun i hi => ?_, fun i hi => ?_⟩, Ex, O, st⟩
  · subst hN
    simp [newA, hi, defaultValue]
  · rfl
theorem own_aastoreA (X : Stand p l e R s m args below meth c T locs cells slots) (hx : p.tables.exec = Jvm.exec) (hZ : Z.Warmed39 s.vm) (eT : T.heap = h) {C : String} {t2 : FieldType} (A : Arw Z h a k ty n f) (hty : ty.isReference = true) {y : Addr} (hv : fits ty (.ref y) = true) (O : OvrA Z k t2 C) (I : Ins Z h y C true) {j : Int32} {i : Nat} (hj : ¬ j < 0) (hji : j.toNatClampNeg = i) (hi : i < n)
    {g : JFrame} (hg : g.method = m) {rest : List Value} (hs : g.stack = .ref y :: .int j :: .ref a :: rest) (hd : decode c.code g.pc = .ok (.aastore, 1)) :
    ∃ T' h', Stand p l e R s m args below meth c T' (locs ++ [⟨a, j.toNatClampNeg⟩]) cells slots ∧ T'.heap = h' ∧ Wr h h' a j.toNatClampNeg (.ref y) ∧ Arw Z h' a k ty n (own_upd f i (.ref y)) ∧
      ∀ target, Steps p.tables e below (T'.setTop { g with pc := g.pc + 1, stack := rest }) target → Steps p.tables e below (T.setTop g) target := by
  obtain ⟨cl, A, h1, h2, h3, h4, h5⟩ := A
  obtain ⟨T', h', X', e', W, st⟩ := stR X hx hZ eT A (j := j) (own_in h2 hj hji hi) hty (Sto.ofVA A h1 O I) hg hs hd
  exact ⟨T', h', X', e', W, own_set A h1 h2 h3 h4 h5 hv W hji hi, st⟩
end Rows
theorem own_dupX2 {tb : Tables} [Ours tb] {e : Env} {below : List Frame} {T target : State} {m : MethodId} {c : Code} {g : JFrame} (h : At T m c below) (hx : tb.exec = Jvm.exec) (hg : g.method = m) {x y z : Value} {rest : List Value} (hd : decode c.code g.pc = .ok (.dup_x2, 1)) (hs : g.stack = x :: y :: z :: rest) (hc : x.category = 1) (hc' : y.category = 1) (hc'' : z.category = 1)
    (hr : Steps tb e below (T.setTop { g with pc := g.pc + 1, stack := x :: y :: z :: x :: rest }) target) : Steps tb e below (T.setTop g) target := by
  subst hg
  jvm_step h [h.top, hx, hd, hs, hc, hc', hc'']
  exact hr
def own_bb (x b : Int32) : Prop := (x = (2 : Int32) ∧ b = (1 : Int32)) ∨ (x = (4 : Int32) ∧ b = (2 : Int32)) ∨ (x = (8 : Int32) ∧ b = (3 : Int32)) ∨ (x = (16 : Int32) ∧ b = (4 : Int32))
theorem own_bb0 {x b : Int32} (h : own_bb x b) : ¬ b = (0 : Int32) := by rcases h with ⟨-, rfl⟩ | ⟨-, rfl⟩ | ⟨-, rfl⟩ | ⟨-, rfl⟩ <;> decide
theorem own_bb16 {x b : Int32} (h : own_bb x b) (h1 : ¬ x = (2 : Int32)) (h2 : ¬ x = (4 : Int32)) (h3 : ¬ x = (8 : Int32)) : x = (16 : Int32) := by
  rcases h with z | z | z | z
  · exact absurd z.1 h1
  · exact absurd z.1 h2
  · exact absurd z.1 h3
  · exact z.1
theorem own_bbr {x b : Int32} (h : own_bb x b) : 1 ≤ b.toInt ∧ b.toInt ≤ 4 := by rcases h with ⟨-, rfl⟩ | ⟨-, rfl⟩ | ⟨-, rfl⟩ | ⟨-, rfl⟩ <;> decide
theorem own_bbd {x b d : Int32} (h : own_bb x b) (hd : d.toInt ≤ 8) : ¬ (128 : Int32) / b < d := fun q => by
  have q1 := own_lti.mp q
  have q2 : 32 ≤ ((128 : Int32) / b).toInt := by rcases h with ⟨-, rfl⟩ | ⟨-, rfl⟩ | ⟨-, rfl⟩ | ⟨-, rfl⟩ <;> decide
  omega
theorem own_bits {x b d : Int32} (h : own_bb x b) (h1 : 1 ≤ d.toInt) (h2 : d.toInt ≤ 8) : (d * b).toInt = d.toInt * b.toInt ∧ 1 ≤ (d * b).toInt ∧ (d * b).toInt ≤ 32 := by
  have q := c_imul d b
  have q2 := rng32 (d * b)
  rcases h with ⟨-, rfl⟩ | ⟨-, rfl⟩ | ⟨-, rfl⟩ | ⟨-, rfl⟩
  · have e : (1 : Int32).toInt = 1 := by decide
    rw [e] at q ⊢
    omega
  · have e : (2 : Int32).toInt = 2 := by decide
    rw [e] at q ⊢
    omega
  · have e : (3 : Int32).toInt = 3 := by decide
    rw [e] at q ⊢
    have z : d.toInt = 1 ∨ d.toInt = 2 ∨ d.toInt = 3 ∨ d.toInt = 4 ∨ d.toInt = 5 ∨ d.toInt = 6 ∨ d.toInt = 7 ∨ d.toInt = 8 := by omega
    rcases z with z | z | z | z | z | z | z | z <;> (rw [z] at q ⊢; omega)
  · have e : (4 : Int32).toInt = 4 := by decide
    rw [e] at q ⊢
    omega
theorem own_ret {x y : Int32} (h : x = y) : some (Value.int x) = some (Value.int y) := by rw [h]
theorem own_retL {x y : Int64} (h : x = y) : some (Value.long x) = some (Value.long y) := by rw [h]
theorem own_n64 {x b d : Int32} (h : own_bb x b) (h1 : 1 ≤ d.toInt) (h2 : d.toInt ≤ 8) : ¬ (64 : Int32) < d * b ∧ d * b < (64 : Int32) := by
  have q := own_bits h h1 h2
  have e : (64 : Int32).toInt = 64 := by decide
  exact ⟨fun z => by have := own_lti.mp z; omega, own_lti.mpr (by omega)⟩
theorem ef_rmNtz (m : MethodId) (x_ : Int32) : entryFrame m #[(.int x_)] 2 = mkF m 0 #[.val (.int x_), .unset] [] := by first | (simp [entryFrame, mkF, argsToLocals, Value.category]; done) | rfl
def QrmNtz (Z : State) (x_ : Int32) (bp : Int32) (h0 : Heap) (n0 : Nat) (v_ : Option Value) (h_ : Heap) (L_ : List Loc) : Prop := v_ = some (.int bp) ∧ L_ = [] ∧ h_ = h0
theorem pn_java_lang_Integer : plainName "java/lang/Integer" = true := by first | (simp [plainName, overriddenIn]; done) | decide +kernel
theorem d4_0 : decode jdk_33_method_48_code 0 = .ok (.iload_n 0, 1) := by decide +kernel
theorem d4_1 : decode jdk_33_method_48_code 1 = .ok (.iconst (-1), 1) := by decide +kernel
theorem d4_2 : decode jdk_33_method_48_code 2 = .ok (.ixor, 1) := by decide +kernel
theorem d4_3 : decode jdk_33_method_48_code 3 = .ok (.iload_n 0, 1) := by decide +kernel
theorem d4_4 : decode jdk_33_method_48_code 4 = .ok (.iconst 1, 1) := by decide +kernel
theorem d4_5 : decode jdk_33_method_48_code 5 = .ok (.isub, 1) := by decide +kernel
theorem d4_6 : decode jdk_33_method_48_code 6 = .ok (.iand, 1) := by decide +kernel
theorem d4_7 : decode jdk_33_method_48_code 7 = .ok (.istore_n 0, 1) := by decide +kernel
theorem d4_8 : decode jdk_33_method_48_code 8 = .ok (.iload_n 0, 1) := by decide +kernel
theorem d4_9 : decode jdk_33_method_48_code 9 = .ok (.ifCond .gt 8, 3) := by decide +kernel
theorem d4_17 : decode jdk_33_method_48_code 17 = .ok (.iconst 1, 1) := by decide +kernel
theorem d4_18 : decode jdk_33_method_48_code 18 = .ok (.istore_n 1, 1) := by decide +kernel
theorem d4_19 : decode jdk_33_method_48_code 19 = .ok (.iload_n 0, 1) := by decide +kernel
theorem d4_20 : decode jdk_33_method_48_code 20 = .ok (.ldc_w 264, 3) := by decide +kernel
theorem d4_23 : decode jdk_33_method_48_code 23 = .ok (.if_icmp .le 11, 3) := by decide +kernel
theorem d4_34 : decode jdk_33_method_48_code 34 = .ok (.iload_n 0, 1) := by decide +kernel
theorem d4_35 : decode jdk_33_method_48_code 35 = .ok (.sipush 256, 3) := by decide +kernel
theorem d4_38 : decode jdk_33_method_48_code 38 = .ok (.if_icmp .le 11, 3) := by decide +kernel
theorem d4_49 : decode jdk_33_method_48_code 49 = .ok (.iload_n 0, 1) := by decide +kernel
theorem d4_50 : decode jdk_33_method_48_code 50 = .ok (.bipush 16, 2) := by decide +kernel
theorem d4_52 : decode jdk_33_method_48_code 52 = .ok (.if_icmp .le 10, 3) := by decide +kernel
theorem d4_62 : decode jdk_33_method_48_code 62 = .ok (.iload_n 0, 1) := by decide +kernel
theorem d4_63 : decode jdk_33_method_48_code 63 = .ok (.iconst 4, 1) := by decide +kernel
theorem d4_64 : decode jdk_33_method_48_code 64 = .ok (.if_icmp .le 10, 3) := by decide +kernel
theorem d4_74 : decode jdk_33_method_48_code 74 = .ok (.iload_n 1, 1) := by decide +kernel
theorem d4_75 : decode jdk_33_method_48_code 75 = .ok (.iload_n 0, 1) := by decide +kernel
theorem d4_76 : decode jdk_33_method_48_code 76 = .ok (.iconst 1, 1) := by decide +kernel
theorem d4_77 : decode jdk_33_method_48_code 77 = .ok (.iushr, 1) := by decide +kernel
theorem d4_78 : decode jdk_33_method_48_code 78 = .ok (.iadd, 1) := by decide +kernel
theorem d4_79 : decode jdk_33_method_48_code 79 = .ok (.ireturn, 1) := by decide +kernel
theorem d4_67 : decode jdk_33_method_48_code 67 = .ok (.iinc 1 2, 3) := by decide +kernel
theorem d4_70 : decode jdk_33_method_48_code 70 = .ok (.iload_n 0, 1) := by decide +kernel
theorem d4_71 : decode jdk_33_method_48_code 71 = .ok (.iconst 2, 1) := by decide +kernel
theorem d4_72 : decode jdk_33_method_48_code 72 = .ok (.iushr, 1) := by decide +kernel
theorem d4_73 : decode jdk_33_method_48_code 73 = .ok (.istore_n 0, 1) := by decide +kernel
set_option maxRecDepth 65536 in
set_option maxHeartbeats 40000000 in
theorem rmNtz (l : Launch) (Z : State) (a0 : Array Value) (hw : ∀ d ∈ tables_1, d.before a0 Z = true) (ws : List Jvm.Cond) (x_ : Int32) (bp : Int32) (h0 : Heap) (n0 : Nat) (Z0 : n0 ≤ h0.size) (HB : own_bb x_ bp) :
    MetFree l (⟨"java/lang/Integer", "numberOfTrailingZeros", "(I)I"⟩ : MethodName) (head1 (Jvm.Cond.code (⟨"java/lang/Integer", "numberOfTrailingZeros", "(I)I"⟩ : MethodName) jdk_33_method_48_code 2 (some .int) :: ws) ({ frames := 0, cells := 0, slots := 0, locals := 0 } : Room)) (fun as_ U_ => as_ = #[(.int x_)] ∧ Z.Warmed39 U_.vm ∧ U_.heap = h0) (fun _ _ _ _ _ => True) (fun _ U_ o_ V_ => ∃ v_ L_, o_ = .returned v_ ∧ QrmNtz Z x_ bp h0 n0 v_ V_.heap L_ ∧ FrameEnd U_ o_ V_ L_ ({ frames := 0, cells := 0, slots := 0, locals := 0 } : Room).cells ({ frames := 0, cells := 0, slots := 0, locals := 0 } : Room).slots) := by
  refine MetFree.of_bodySF (plainFor_of_name pn_java_lang_Integer) hisR ?_
  intro p e s m args below meth c s₁ Bd hml0 hP hK
  obtain ⟨rfl, hZ, hh⟩ := hP
  have hx := Bd.exec
  have hby := Bd.bytes
  have hlk : meth.locks = false := BodyLoose.notSynchronized Bd
  have hret := Bd.returns
  have hml : c.maxLocals = 2 := hml0
  have hown : s.vm.findClass "java/lang/Integer" = some m.cls := findClass_of_methodNamed Bd.named
  have hnm := (name_of_methodNamed Bd.named Bd.method).1
  have X0 : Stand p l e ({ frames := 0, cells := 0, slots := 0, locals := 0 } : Room) s m #[(.int x_)] below meth c s₁ [] 0 0 := Stand.of_body Bd
  have e0 : s₁.heap = h0 := by rw [← hh, Bd.state]; rfl
  have N0 := Fr.nil n0
  show Goes p e below (Fin_ s (QrmNtz Z x_ bp h0 n0) ({ frames := 0, cells := 0, slots := 0, locals := 0 } : Room).cells ({ frames := 0, cells := 0, slots := 0, locals := 0 } : Room).slots) (s₁.setTop (entryFrame m #[(.int x_)] 2))
  rw [ef_rmNtz m x_]
  rcases HB with ⟨rfl, rfl⟩ | ⟨rfl, rfl⟩ | ⟨rfl, rfl⟩ | ⟨rfl, rfl⟩
  · skip
    show Goes p e below _ (s₁.setTop (mkF m 0 #[vi (2 : Int32), .unset] []))
    refine gILN X0 hx hby d4_0 rfl ?_
    refine gIC (z := -1) X0 hx hby d4_1 rfl ?_
    refine Goes.via (fun _ kk_ => XS.ixor X0.here hx rfl (hb hby d4_2) rfl kk_) ?_
    show Goes p e below _ (s₁.setTop (mkF m 3 #[vi (2 : Int32), .unset] [(.int ((2 : Int32) ^^^ (-1 : Int32)))]))
    rw [show ((2 : Int32) ^^^ (-1 : Int32)) = (-3 : Int32) from by decide]
    show Goes p e below _ (s₁.setTop (mkF m 3 #[vi (2 : Int32), .unset] [(.int (-3 : Int32))]))
    refine gILN X0 hx hby d4_3 rfl ?_
    refine gIC (z := 1) X0 hx hby d4_4 rfl ?_
    refine Goes.via (fun _ kk_ => XS.isub X0.here hx rfl (hb hby d4_5) rfl kk_) ?_
    show Goes p e below _ (s₁.setTop (mkF m 6 #[vi (2 : Int32), .unset] [(.int ((2 : Int32) - (1 : Int32))), (.int (-3 : Int32))]))
    rw [show ((2 : Int32) - (1 : Int32)) = (1 : Int32) from by decide]
    show Goes p e below _ (s₁.setTop (mkF m 6 #[vi (2 : Int32), .unset] [(.int (1 : Int32)), (.int (-3 : Int32))]))
    refine Goes.via (fun _ kk_ => XS.iand X0.here hx rfl (hb hby d4_6) rfl kk_) ?_
    show Goes p e below _ (s₁.setTop (mkF m 7 #[vi (2 : Int32), .unset] [(.int ((-3 : Int32) &&& (1 : Int32)))]))
    rw [show ((-3 : Int32) &&& (1 : Int32)) = (1 : Int32) from by decide]
    show Goes p e below _ (s₁.setTop (mkF m 7 #[vi (2 : Int32), .unset] [(.int (1 : Int32))]))
    refine Goes.via (fun _ kk_ => XS.istoreN X0.here hx rfl (hb hby d4_7) rfl (l' := #[vi (1 : Int32), .unset]) rfl kk_) ?_
    show Goes p e below _ (s₁.setTop (mkF m 8 #[vi (1 : Int32), .unset] []))
    refine gILN X0 hx hby d4_8 rfl ?_
    have hc9_1 : (0 : Int32) < (1 : Int32) := (by decide)
    refine Goes.via (fun _ kk_ => XS.ifYes X0.here hx rfl (pc0 := 9) (pc' := 17) rfl (hb hby d4_9) rfl ((if0 _ _).trans (tlt hc9_1).2.2.1) (by decide) (by decide) kk_) ?_
    show Goes p e below _ (s₁.setTop (mkF m 17 #[vi (1 : Int32), .unset] []))
    refine gIC (z := 1) X0 hx hby d4_17 rfl ?_
    refine Goes.via (fun _ kk_ => XS.istoreN X0.here hx rfl (hb hby d4_18) rfl (l' := #[vi (1 : Int32), vi (1 : Int32)]) rfl kk_) ?_
    show Goes p e below _ (s₁.setTop (mkF m 19 #[vi (1 : Int32), vi (1 : Int32)] []))
    refine gILN X0 hx hby d4_19 rfl ?_
    refine Goes.via (X0.ldcwInt hx hown (mvT hZ (own_w hw 18 rfl)) (g := (mkF m 20 #[vi (1 : Int32), vi (1 : Int32)] [(.int (1 : Int32))])) rfl (hb hby d4_20)) ?_
    show Goes p e below _ (s₁.setTop (mkF m 23 #[vi (1 : Int32), vi (1 : Int32)] [(.int (65536 : Int32)), (.int (1 : Int32))]))
    have hc23_2 : ¬ ((65536 : Int32) < (1 : Int32)) := (by decide)
    refine Goes.via (fun _ kk_ => XS.icmpYes X0.here hx rfl (pc0 := 23) (pc' := 34) rfl (hb hby d4_23) rfl (flt hc23_2).2.2.2 (by decide) (by decide) kk_) ?_
    show Goes p e below _ (s₁.setTop (mkF m 34 #[vi (1 : Int32), vi (1 : Int32)] []))
    refine gILN X0 hx hby d4_34 rfl ?_
    refine gSI (z := 256) X0 hx hby d4_35 rfl ?_
    have hc38_3 : ¬ ((256 : Int32) < (1 : Int32)) := (by decide)
    refine Goes.via (fun _ kk_ => XS.icmpYes X0.here hx rfl (pc0 := 38) (pc' := 49) rfl (hb hby d4_38) rfl (flt hc38_3).2.2.2 (by decide) (by decide) kk_) ?_
    show Goes p e below _ (s₁.setTop (mkF m 49 #[vi (1 : Int32), vi (1 : Int32)] []))
    refine gILN X0 hx hby d4_49 rfl ?_
    refine gBI (z := 16) X0 hx hby d4_50 rfl ?_
    have hc52_4 : ¬ ((16 : Int32) < (1 : Int32)) := (by decide)
    refine Goes.via (fun _ kk_ => XS.icmpYes X0.here hx rfl (pc0 := 52) (pc' := 62) rfl (hb hby d4_52) rfl (flt hc52_4).2.2.2 (by decide) (by decide) kk_) ?_
    show Goes p e below _ (s₁.setTop (mkF m 62 #[vi (1 : Int32), vi (1 : Int32)] []))
    refine gILN X0 hx hby d4_62 rfl ?_
    refine gIC (z := 4) X0 hx hby d4_63 rfl ?_
    have hc64_5 : ¬ ((4 : Int32) < (1 : Int32)) := (by decide)
    refine Goes.via (fun _ kk_ => XS.icmpYes X0.here hx rfl (pc0 := 64) (pc' := 74) rfl (hb hby d4_64) rfl (flt hc64_5).2.2.2 (by decide) (by decide) kk_) ?_
    show Goes p e below _ (s₁.setTop (mkF m 74 #[vi (1 : Int32), vi (1 : Int32)] []))
    refine gILN X0 hx hby d4_74 rfl ?_
    refine gILN X0 hx hby d4_75 rfl ?_
    refine gIC (z := 1) X0 hx hby d4_76 rfl ?_
    refine Goes.via (fun _ kk_ => XS.iushr X0.here hx rfl (hb hby d4_77) rfl kk_) ?_
    show Goes p e below _ (s₁.setTop (mkF m 78 #[vi (1 : Int32), vi (1 : Int32)] [(.int (((1 : Int32).toUInt32 >>> ((1 : Int32) &&& 31).toUInt32).toInt32)), (.int (1 : Int32))]))
    refine Goes.via (fun _ kk_ => XS.iadd X0.here hx rfl (hb hby d4_78) rfl kk_) ?_
    show Goes p e below _ (s₁.setTop (mkF m 79 #[vi (1 : Int32), vi (1 : Int32)] [(.int ((1 : Int32) + (((1 : Int32).toUInt32 >>> ((1 : Int32) &&& 31).toUInt32).toInt32)))]))
    exact own_finI X0 hx hlk hret (hb hby d4_79) (by rw [e0]; exact ⟨(own_ret (by decide)), rfl, rfl⟩) (by first | decide | omega | (dsimp only; omega)) (by first | decide | omega | (dsimp only; omega))
  · skip
    show Goes p e below _ (s₁.setTop (mkF m 0 #[vi (4 : Int32), .unset] []))
    refine gILN X0 hx hby d4_0 rfl ?_
    refine gIC (z := -1) X0 hx hby d4_1 rfl ?_
    refine Goes.via (fun _ kk_ => XS.ixor X0.here hx rfl (hb hby d4_2) rfl kk_) ?_
    show Goes p e below _ (s₁.setTop (mkF m 3 #[vi (4 : Int32), .unset] [(.int ((4 : Int32) ^^^ (-1 : Int32)))]))
    rw [show ((4 : Int32) ^^^ (-1 : Int32)) = (-5 : Int32) from by decide]
    show Goes p e below _ (s₁.setTop (mkF m 3 #[vi (4 : Int32), .unset] [(.int (-5 : Int32))]))
    refine gILN X0 hx hby d4_3 rfl ?_
    refine gIC (z := 1) X0 hx hby d4_4 rfl ?_
    refine Goes.via (fun _ kk_ => XS.isub X0.here hx rfl (hb hby d4_5) rfl kk_) ?_
    show Goes p e below _ (s₁.setTop (mkF m 6 #[vi (4 : Int32), .unset] [(.int ((4 : Int32) - (1 : Int32))), (.int (-5 : Int32))]))
    rw [show ((4 : Int32) - (1 : Int32)) = (3 : Int32) from by decide]
    show Goes p e below _ (s₁.setTop (mkF m 6 #[vi (4 : Int32), .unset] [(.int (3 : Int32)), (.int (-5 : Int32))]))
    refine Goes.via (fun _ kk_ => XS.iand X0.here hx rfl (hb hby d4_6) rfl kk_) ?_
    show Goes p e below _ (s₁.setTop (mkF m 7 #[vi (4 : Int32), .unset] [(.int ((-5 : Int32) &&& (3 : Int32)))]))
    rw [show ((-5 : Int32) &&& (3 : Int32)) = (3 : Int32) from by decide]
    show Goes p e below _ (s₁.setTop (mkF m 7 #[vi (4 : Int32), .unset] [(.int (3 : Int32))]))
    refine Goes.via (fun _ kk_ => XS.istoreN X0.here hx rfl (hb hby d4_7) rfl (l' := #[vi (3 : Int32), .unset]) rfl kk_) ?_
    show Goes p e below _ (s₁.setTop (mkF m 8 #[vi (3 : Int32), .unset] []))
    refine gILN X0 hx hby d4_8 rfl ?_
    have hc9_6 : (0 : Int32) < (3 : Int32) := (by decide)
    refine Goes.via (fun _ kk_ => XS.ifYes X0.here hx rfl (pc0 := 9) (pc' := 17) rfl (hb hby d4_9) rfl ((if0 _ _).trans (tlt hc9_6).2.2.1) (by decide) (by decide) kk_) ?_
    show Goes p e below _ (s₁.setTop (mkF m 17 #[vi (3 : Int32), .unset] []))
    refine gIC (z := 1) X0 hx hby d4_17 rfl ?_
    refine Goes.via (fun _ kk_ => XS.istoreN X0.here hx rfl (hb hby d4_18) rfl (l' := #[vi (3 : Int32), vi (1 : Int32)]) rfl kk_) ?_
    show Goes p e below _ (s₁.setTop (mkF m 19 #[vi (3 : Int32), vi (1 : Int32)] []))
    refine gILN X0 hx hby d4_19 rfl ?_
    refine Goes.via (X0.ldcwInt hx hown (mvT hZ (own_w hw 18 rfl)) (g := (mkF m 20 #[vi (3 : Int32), vi (1 : Int32)] [(.int (3 : Int32))])) rfl (hb hby d4_20)) ?_
    show Goes p e below _ (s₁.setTop (mkF m 23 #[vi (3 : Int32), vi (1 : Int32)] [(.int (65536 : Int32)), (.int (3 : Int32))]))
    have hc23_7 : ¬ ((65536 : Int32) < (3 : Int32)) := (by decide)
    refine Goes.via (fun _ kk_ => XS.icmpYes X0.here hx rfl (pc0 := 23) (pc' := 34) rfl (hb hby d4_23) rfl (flt hc23_7).2.2.2 (by decide) (by decide) kk_) ?_
    show Goes p e below _ (s₁.setTop (mkF m 34 #[vi (3 : Int32), vi (1 : Int32)] []))
    refine gILN X0 hx hby d4_34 rfl ?_
    refine gSI (z := 256) X0 hx hby d4_35 rfl ?_
    have hc38_8 : ¬ ((256 : Int32) < (3 : Int32)) := (by decide)
    refine Goes.via (fun _ kk_ => XS.icmpYes X0.here hx rfl (pc0 := 38) (pc' := 49) rfl (hb hby d4_38) rfl (flt hc38_8).2.2.2 (by decide) (by decide) kk_) ?_
    show Goes p e below _ (s₁.setTop (mkF m 49 #[vi (3 : Int32), vi (1 : Int32)] []))
    refine gILN X0 hx hby d4_49 rfl ?_
    refine gBI (z := 16) X0 hx hby d4_50 rfl ?_
    have hc52_9 : ¬ ((16 : Int32) < (3 : Int32)) := (by decide)
    refine Goes.via (fun _ kk_ => XS.icmpYes X0.here hx rfl (pc0 := 52) (pc' := 62) rfl (hb hby d4_52) rfl (flt hc52_9).2.2.2 (by decide) (by decide) kk_) ?_
    show Goes p e below _ (s₁.setTop (mkF m 62 #[vi (3 : Int32), vi (1 : Int32)] []))
    refine gILN X0 hx hby d4_62 rfl ?_
    refine gIC (z := 4) X0 hx hby d4_63 rfl ?_
    have hc64_10 : ¬ ((4 : Int32) < (3 : Int32)) := (by decide)
    refine Goes.via (fun _ kk_ => XS.icmpYes X0.here hx rfl (pc0 := 64) (pc' := 74) rfl (hb hby d4_64) rfl (flt hc64_10).2.2.2 (by decide) (by decide) kk_) ?_
    show Goes p e below _ (s₁.setTop (mkF m 74 #[vi (3 : Int32), vi (1 : Int32)] []))
    refine gILN X0 hx hby d4_74 rfl ?_
    refine gILN X0 hx hby d4_75 rfl ?_
    refine gIC (z := 1) X0 hx hby d4_76 rfl ?_
    refine Goes.via (fun _ kk_ => XS.iushr X0.here hx rfl (hb hby d4_77) rfl kk_) ?_
    show Goes p e below _ (s₁.setTop (mkF m 78 #[vi (3 : Int32), vi (1 : Int32)] [(.int (((3 : Int32).toUInt32 >>> ((1 : Int32) &&& 31).toUInt32).toInt32)), (.int (1 : Int32))]))
    refine Goes.via (fun _ kk_ => XS.iadd X0.here hx rfl (hb hby d4_78) rfl kk_) ?_
    show Goes p e below _ (s₁.setTop (mkF m 79 #[vi (3 : Int32), vi (1 : Int32)] [(.int ((1 : Int32) + (((3 : Int32).toUInt32 >>> ((1 : Int32) &&& 31).toUInt32).toInt32)))]))
    exact own_finI X0 hx hlk hret (hb hby d4_79) (by rw [e0]; exact ⟨(own_ret (by decide)), rfl, rfl⟩) (by first | decide | omega | (dsimp only; omega)) (by first | decide | omega | (dsimp only; omega))
  · skip
    show Goes p e below _ (s₁.setTop (mkF m 0 #[vi (8 : Int32), .unset] []))
    refine gILN X0 hx hby d4_0 rfl ?_
    refine gIC (z := -1) X0 hx hby d4_1 rfl ?_
    refine Goes.via (fun _ kk_ => XS.ixor X0.here hx rfl (hb hby d4_2) rfl kk_) ?_
    show Goes p e below _ (s₁.setTop (mkF m 3 #[vi (8 : Int32), .unset] [(.int ((8 : Int32) ^^^ (-1 : Int32)))]))
    rw [show ((8 : Int32) ^^^ (-1 : Int32)) = (-9 : Int32) from by decide]
    show Goes p e below _ (s₁.setTop (mkF m 3 #[vi (8 : Int32), .unset] [(.int (-9 : Int32))]))
    refine gILN X0 hx hby d4_3 rfl ?_
    refine gIC (z := 1) X0 hx hby d4_4 rfl ?_
    refine Goes.via (fun _ kk_ => XS.isub X0.here hx rfl (hb hby d4_5) rfl kk_) ?_
    show Goes p e below _ (s₁.setTop (mkF m 6 #[vi (8 : Int32), .unset] [(.int ((8 : Int32) - (1 : Int32))), (.int (-9 : Int32))]))
    rw [show ((8 : Int32) - (1 : Int32)) = (7 : Int32) from by decide]
    show Goes p e below _ (s₁.setTop (mkF m 6 #[vi (8 : Int32), .unset] [(.int (7 : Int32)), (.int (-9 : Int32))]))
    refine Goes.via (fun _ kk_ => XS.iand X0.here hx rfl (hb hby d4_6) rfl kk_) ?_
    show Goes p e below _ (s₁.setTop (mkF m 7 #[vi (8 : Int32), .unset] [(.int ((-9 : Int32) &&& (7 : Int32)))]))
    rw [show ((-9 : Int32) &&& (7 : Int32)) = (7 : Int32) from by decide]
    show Goes p e below _ (s₁.setTop (mkF m 7 #[vi (8 : Int32), .unset] [(.int (7 : Int32))]))
    refine Goes.via (fun _ kk_ => XS.istoreN X0.here hx rfl (hb hby d4_7) rfl (l' := #[vi (7 : Int32), .unset]) rfl kk_) ?_
    show Goes p e below _ (s₁.setTop (mkF m 8 #[vi (7 : Int32), .unset] []))
    refine gILN X0 hx hby d4_8 rfl ?_
    have hc9_11 : (0 : Int32) < (7 : Int32) := (by decide)
    refine Goes.via (fun _ kk_ => XS.ifYes X0.here hx rfl (pc0 := 9) (pc' := 17) rfl (hb hby d4_9) rfl ((if0 _ _).trans (tlt hc9_11).2.2.1) (by decide) (by decide) kk_) ?_
    show Goes p e below _ (s₁.setTop (mkF m 17 #[vi (7 : Int32), .unset] []))
    refine gIC (z := 1) X0 hx hby d4_17 rfl ?_
    refine Goes.via (fun _ kk_ => XS.istoreN X0.here hx rfl (hb hby d4_18) rfl (l' := #[vi (7 : Int32), vi (1 : Int32)]) rfl kk_) ?_
    show Goes p e below _ (s₁.setTop (mkF m 19 #[vi (7 : Int32), vi (1 : Int32)] []))
    refine gILN X0 hx hby d4_19 rfl ?_
    refine Goes.via (X0.ldcwInt hx hown (mvT hZ (own_w hw 18 rfl)) (g := (mkF m 20 #[vi (7 : Int32), vi (1 : Int32)] [(.int (7 : Int32))])) rfl (hb hby d4_20)) ?_
    show Goes p e below _ (s₁.setTop (mkF m 23 #[vi (7 : Int32), vi (1 : Int32)] [(.int (65536 : Int32)), (.int (7 : Int32))]))
    have hc23_12 : ¬ ((65536 : Int32) < (7 : Int32)) := (by decide)
    refine Goes.via (fun _ kk_ => XS.icmpYes X0.here hx rfl (pc0 := 23) (pc' := 34) rfl (hb hby d4_23) rfl (flt hc23_12).2.2.2 (by decide) (by decide) kk_) ?_
    show Goes p e below _ (s₁.setTop (mkF m 34 #[vi (7 : Int32), vi (1 : Int32)] []))
    refine gILN X0 hx hby d4_34 rfl ?_
    refine gSI (z := 256) X0 hx hby d4_35 rfl ?_
    have hc38_13 : ¬ ((256 : Int32) < (7 : Int32)) := (by decide)
    refine Goes.via (fun _ kk_ => XS.icmpYes X0.here hx rfl (pc0 := 38) (pc' := 49) rfl (hb hby d4_38) rfl (flt hc38_13).2.2.2 (by decide) (by decide) kk_) ?_
    show Goes p e below _ (s₁.setTop (mkF m 49 #[vi (7 : Int32), vi (1 : Int32)] []))
    refine gILN X0 hx hby d4_49 rfl ?_
    refine gBI (z := 16) X0 hx hby d4_50 rfl ?_
    have hc52_14 : ¬ ((16 : Int32) < (7 : Int32)) := (by decide)
    refine Goes.via (fun _ kk_ => XS.icmpYes X0.here hx rfl (pc0 := 52) (pc' := 62) rfl (hb hby d4_52) rfl (flt hc52_14).2.2.2 (by decide) (by decide) kk_) ?_
    show Goes p e below _ (s₁.setTop (mkF m 62 #[vi (7 : Int32), vi (1 : Int32)] []))
    refine gILN X0 hx hby d4_62 rfl ?_
    refine gIC (z := 4) X0 hx hby d4_63 rfl ?_
    have hc64_15 : (4 : Int32) < (7 : Int32) := (by decide)
    refine Goes.via (fun _ kk_ => XS.icmpNo X0.here hx rfl (hb hby d4_64) rfl (tlt hc64_15).2.2.2 kk_) ?_
    show Goes p e below _ (s₁.setTop (mkF m 67 #[vi (7 : Int32), vi (1 : Int32)] []))
    refine Goes.via (fun _ kk_ => XS.iinc X0.here hx rfl (hb hby d4_67) rfl (l' := #[vi (7 : Int32), vi ((1 : Int32) + (2 : Int32))]) rfl kk_) ?_
    show Goes p e below _ (s₁.setTop (mkF m 70 #[vi (7 : Int32), vi ((1 : Int32) + (2 : Int32))] []))
    rw [show ((1 : Int32) + (2 : Int32)) = (3 : Int32) from by decide]
    show Goes p e below _ (s₁.setTop (mkF m 70 #[vi (7 : Int32), vi (3 : Int32)] []))
    refine gILN X0 hx hby d4_70 rfl ?_
    refine gIC (z := 2) X0 hx hby d4_71 rfl ?_
    refine Goes.via (fun _ kk_ => XS.iushr X0.here hx rfl (hb hby d4_72) rfl kk_) ?_
    show Goes p e below _ (s₁.setTop (mkF m 73 #[vi (7 : Int32), vi (3 : Int32)] [(.int (((7 : Int32).toUInt32 >>> ((2 : Int32) &&& 31).toUInt32).toInt32))]))
    refine Goes.via (fun _ kk_ => XS.istoreN X0.here hx rfl (hb hby d4_73) rfl (l' := #[vi (((7 : Int32).toUInt32 >>> ((2 : Int32) &&& 31).toUInt32).toInt32), vi (3 : Int32)]) rfl kk_) ?_
    show Goes p e below _ (s₁.setTop (mkF m 74 #[vi (((7 : Int32).toUInt32 >>> ((2 : Int32) &&& 31).toUInt32).toInt32), vi (3 : Int32)] []))
    refine gILN X0 hx hby d4_74 rfl ?_
    refine gILN X0 hx hby d4_75 rfl ?_
    refine gIC (z := 1) X0 hx hby d4_76 rfl ?_
    refine Goes.via (fun _ kk_ => XS.iushr X0.here hx rfl (hb hby d4_77) rfl kk_) ?_
    show Goes p e below _ (s₁.setTop (mkF m 78 #[vi (((7 : Int32).toUInt32 >>> ((2 : Int32) &&& 31).toUInt32).toInt32), vi (3 : Int32)] [(.int (((((7 : Int32).toUInt32 >>> ((2 : Int32) &&& 31).toUInt32).toInt32).toUInt32 >>> ((1 : Int32) &&& 31).toUInt32).toInt32)), (.int (3 : Int32))]))
    refine Goes.via (fun _ kk_ => XS.iadd X0.here hx rfl (hb hby d4_78) rfl kk_) ?_
    show Goes p e below _ (s₁.setTop (mkF m 79 #[vi (((7 : Int32).toUInt32 >>> ((2 : Int32) &&& 31).toUInt32).toInt32), vi (3 : Int32)] [(.int ((3 : Int32) + (((((7 : Int32).toUInt32 >>> ((2 : Int32) &&& 31).toUInt32).toInt32).toUInt32 >>> ((1 : Int32) &&& 31).toUInt32).toInt32)))]))
    exact own_finI X0 hx hlk hret (hb hby d4_79) (by rw [e0]; exact ⟨(own_ret (by decide)), rfl, rfl⟩) (by first | decide | omega | (dsimp only; omega)) (by first | decide | omega | (dsimp only; omega))
  · skip
    show Goes p e below _ (s₁.setTop (mkF m 0 #[vi (16 : Int32), .unset] []))
    refine gILN X0 hx hby d4_0 rfl ?_
    refine gIC (z := -1) X0 hx hby d4_1 rfl ?_
    refine Goes.via (fun _ kk_ => XS.ixor X0.here hx rfl (hb hby d4_2) rfl kk_) ?_
    show Goes p e below _ (s₁.setTop (mkF m 3 #[vi (16 : Int32), .unset] [(.int ((16 : Int32) ^^^ (-1 : Int32)))]))
    rw [show ((16 : Int32) ^^^ (-1 : Int32)) = (-17 : Int32) from by decide]
    show Goes p e below _ (s₁.setTop (mkF m 3 #[vi (16 : Int32), .unset] [(.int (-17 : Int32))]))
    refine gILN X0 hx hby d4_3 rfl ?_
    refine gIC (z := 1) X0 hx hby d4_4 rfl ?_
    refine Goes.via (fun _ kk_ => XS.isub X0.here hx rfl (hb hby d4_5) rfl kk_) ?_
    show Goes p e below _ (s₁.setTop (mkF m 6 #[vi (16 : Int32), .unset] [(.int ((16 : Int32) - (1 : Int32))), (.int (-17 : Int32))]))
    rw [show ((16 : Int32) - (1 : Int32)) = (15 : Int32) from by decide]
    show Goes p e below _ (s₁.setTop (mkF m 6 #[vi (16 : Int32), .unset] [(.int (15 : Int32)), (.int (-17 : Int32))]))
    refine Goes.via (fun _ kk_ => XS.iand X0.here hx rfl (hb hby d4_6) rfl kk_) ?_
    show Goes p e below _ (s₁.setTop (mkF m 7 #[vi (16 : Int32), .unset] [(.int ((-17 : Int32) &&& (15 : Int32)))]))
    rw [show ((-17 : Int32) &&& (15 : Int32)) = (15 : Int32) from by decide]
    show Goes p e below _ (s₁.setTop (mkF m 7 #[vi (16 : Int32), .unset] [(.int (15 : Int32))]))
    refine Goes.via (fun _ kk_ => XS.istoreN X0.here hx rfl (hb hby d4_7) rfl (l' := #[vi (15 : Int32), .unset]) rfl kk_) ?_
    show Goes p e below _ (s₁.setTop (mkF m 8 #[vi (15 : Int32), .unset] []))
    refine gILN X0 hx hby d4_8 rfl ?_
    have hc9_16 : (0 : Int32) < (15 : Int32) := (by decide)
    refine Goes.via (fun _ kk_ => XS.ifYes X0.here hx rfl (pc0 := 9) (pc' := 17) rfl (hb hby d4_9) rfl ((if0 _ _).trans (tlt hc9_16).2.2.1) (by decide) (by decide) kk_) ?_
    show Goes p e below _ (s₁.setTop (mkF m 17 #[vi (15 : Int32), .unset] []))
    refine gIC (z := 1) X0 hx hby d4_17 rfl ?_
    refine Goes.via (fun _ kk_ => XS.istoreN X0.here hx rfl (hb hby d4_18) rfl (l' := #[vi (15 : Int32), vi (1 : Int32)]) rfl kk_) ?_
    show Goes p e below _ (s₁.setTop (mkF m 19 #[vi (15 : Int32), vi (1 : Int32)] []))
    refine gILN X0 hx hby d4_19 rfl ?_
    refine Goes.via (X0.ldcwInt hx hown (mvT hZ (own_w hw 18 rfl)) (g := (mkF m 20 #[vi (15 : Int32), vi (1 : Int32)] [(.int (15 : Int32))])) rfl (hb hby d4_20)) ?_
    show Goes p e below _ (s₁.setTop (mkF m 23 #[vi (15 : Int32), vi (1 : Int32)] [(.int (65536 : Int32)), (.int (15 : Int32))]))
    have hc23_17 : ¬ ((65536 : Int32) < (15 : Int32)) := (by decide)
    refine Goes.via (fun _ kk_ => XS.icmpYes X0.here hx rfl (pc0 := 23) (pc' := 34) rfl (hb hby d4_23) rfl (flt hc23_17).2.2.2 (by decide) (by decide) kk_) ?_
    show Goes p e below _ (s₁.setTop (mkF m 34 #[vi (15 : Int32), vi (1 : Int32)] []))
    refine gILN X0 hx hby d4_34 rfl ?_
    refine gSI (z := 256) X0 hx hby d4_35 rfl ?_
    have hc38_18 : ¬ ((256 : Int32) < (15 : Int32)) := (by decide)
    refine Goes.via (fun _ kk_ => XS.icmpYes X0.here hx rfl (pc0 := 38) (pc' := 49) rfl (hb hby d4_38) rfl (flt hc38_18).2.2.2 (by decide) (by decide) kk_) ?_
    show Goes p e below _ (s₁.setTop (mkF m 49 #[vi (15 : Int32), vi (1 : Int32)] []))
    refine gILN X0 hx hby d4_49 rfl ?_
    refine gBI (z := 16) X0 hx hby d4_50 rfl ?_
    have hc52_19 : ¬ ((16 : Int32) < (15 : Int32)) := (by decide)
    refine Goes.via (fun _ kk_ => XS.icmpYes X0.here hx rfl (pc0 := 52) (pc' := 62) rfl (hb hby d4_52) rfl (flt hc52_19).2.2.2 (by decide) (by decide) kk_) ?_
    show Goes p e below _ (s₁.setTop (mkF m 62 #[vi (15 : Int32), vi (1 : Int32)] []))
    refine gILN X0 hx hby d4_62 rfl ?_
    refine gIC (z := 4) X0 hx hby d4_63 rfl ?_
    have hc64_20 : (4 : Int32) < (15 : Int32) := (by decide)
    refine Goes.via (fun _ kk_ => XS.icmpNo X0.here hx rfl (hb hby d4_64) rfl (tlt hc64_20).2.2.2 kk_) ?_
    show Goes p e below _ (s₁.setTop (mkF m 67 #[vi (15 : Int32), vi (1 : Int32)] []))
    refine Goes.via (fun _ kk_ => XS.iinc X0.here hx rfl (hb hby d4_67) rfl (l' := #[vi (15 : Int32), vi ((1 : Int32) + (2 : Int32))]) rfl kk_) ?_
    show Goes p e below _ (s₁.setTop (mkF m 70 #[vi (15 : Int32), vi ((1 : Int32) + (2 : Int32))] []))
    rw [show ((1 : Int32) + (2 : Int32)) = (3 : Int32) from by decide]
    show Goes p e below _ (s₁.setTop (mkF m 70 #[vi (15 : Int32), vi (3 : Int32)] []))
    refine gILN X0 hx hby d4_70 rfl ?_
    refine gIC (z := 2) X0 hx hby d4_71 rfl ?_
    refine Goes.via (fun _ kk_ => XS.iushr X0.here hx rfl (hb hby d4_72) rfl kk_) ?_
    show Goes p e below _ (s₁.setTop (mkF m 73 #[vi (15 : Int32), vi (3 : Int32)] [(.int (((15 : Int32).toUInt32 >>> ((2 : Int32) &&& 31).toUInt32).toInt32))]))
    refine Goes.via (fun _ kk_ => XS.istoreN X0.here hx rfl (hb hby d4_73) rfl (l' := #[vi (((15 : Int32).toUInt32 >>> ((2 : Int32) &&& 31).toUInt32).toInt32), vi (3 : Int32)]) rfl kk_) ?_
    show Goes p e below _ (s₁.setTop (mkF m 74 #[vi (((15 : Int32).toUInt32 >>> ((2 : Int32) &&& 31).toUInt32).toInt32), vi (3 : Int32)] []))
    refine gILN X0 hx hby d4_74 rfl ?_
    refine gILN X0 hx hby d4_75 rfl ?_
    refine gIC (z := 1) X0 hx hby d4_76 rfl ?_
    refine Goes.via (fun _ kk_ => XS.iushr X0.here hx rfl (hb hby d4_77) rfl kk_) ?_
    show Goes p e below _ (s₁.setTop (mkF m 78 #[vi (((15 : Int32).toUInt32 >>> ((2 : Int32) &&& 31).toUInt32).toInt32), vi (3 : Int32)] [(.int (((((15 : Int32).toUInt32 >>> ((2 : Int32) &&& 31).toUInt32).toInt32).toUInt32 >>> ((1 : Int32) &&& 31).toUInt32).toInt32)), (.int (3 : Int32))]))
    refine Goes.via (fun _ kk_ => XS.iadd X0.here hx rfl (hb hby d4_78) rfl kk_) ?_
    show Goes p e below _ (s₁.setTop (mkF m 79 #[vi (((15 : Int32).toUInt32 >>> ((2 : Int32) &&& 31).toUInt32).toInt32), vi (3 : Int32)] [(.int ((3 : Int32) + (((((15 : Int32).toUInt32 >>> ((2 : Int32) &&& 31).toUInt32).toInt32).toUInt32 >>> ((1 : Int32) &&& 31).toUInt32).toInt32)))]))
    exact own_finI X0 hx hlk hret (hb hby d4_79) (by rw [e0]; exact ⟨(own_ret (by decide)), rfl, rfl⟩) (by first | decide | omega | (dsimp only; omega)) (by first | decide | omega | (dsimp only; omega))
theorem ef_rm2 (m : MethodId) (a : Addr) : entryFrame m #[(.ref a)] 1 = mkF m 0 #[.val (.ref a)] [] := by first | (simp [entryFrame, mkF, argsToLocals, Value.category]; done) | rfl
def Qrm2 (Z : State) (a : Addr) (h0 : Heap) (n0 : Nat) (v_ : Option Value) (h_ : Heap) (L_ : List Loc) : Prop := v_ = none ∧ L_ = [] ∧ h_ = h0
theorem pn_java_lang_Record : plainName "java/lang/Record" = true := by first | (simp [plainName, overriddenIn]; done) | decide +kernel
theorem d2_0 : decode jdk_30_method_1_code 0 = .ok (.aload_n 0, 1) := by decide +kernel
theorem d2_1 : decode jdk_30_method_1_code 1 = .ok (.invokespecial 1, 3) := by decide +kernel
theorem d2_4 : decode jdk_30_method_1_code 4 = .ok (.return_, 1) := by decide +kernel
set_option maxRecDepth 65536 in
set_option maxHeartbeats 40000000 in
theorem rm2 (l : Launch) (Z : State) (a0 : Array Value) (hw : ∀ d ∈ tables_1, d.before a0 Z = true) (ws : List Jvm.Cond) (a : Addr) (h0 : Heap) (n0 : Nat) (Z0 : n0 ≤ h0.size) :
    MetFree l (⟨"java/lang/Record", "<init>", "()V"⟩ : MethodName) (head1 (Jvm.Cond.code (⟨"java/lang/Record", "<init>", "()V"⟩ : MethodName) jdk_30_method_1_code 1 none :: ws) ({ frames := 1, cells := 0, slots := 0, locals := 12 } : Room)) (fun as_ U_ => as_ = #[(.ref a)] ∧ Z.Warmed39 U_.vm ∧ U_.heap = h0) (fun _ _ _ _ _ => True) (fun _ U_ o_ V_ => ∃ v_ L_, o_ = .returned v_ ∧ Qrm2 Z a h0 n0 v_ V_.heap L_ ∧ FrameEnd U_ o_ V_ L_ ({ frames := 1, cells := 0, slots := 0, locals := 12 } : Room).cells ({ frames := 1, cells := 0, slots := 0, locals := 12 } : Room).slots) := by
  refine MetFree.of_bodySF (plainFor_of_name pn_java_lang_Record) hisR ?_
  intro p e s m args below meth c s₁ Bd hml0 hP hK
  obtain ⟨rfl, hZ, hh⟩ := hP
  have hx := Bd.exec
  have hby := Bd.bytes
  have hlk : meth.locks = false := BodyLoose.notSynchronized Bd
  have hret := Bd.returns
  have hml : c.maxLocals = 1 := hml0
  have hown : s.vm.findClass "java/lang/Record" = some m.cls := findClass_of_methodNamed Bd.named
  have hnm := (name_of_methodNamed Bd.named Bd.method).1
  have X0 : Stand p l e ({ frames := 1, cells := 0, slots := 0, locals := 12 } : Room) s m #[(.ref a)] below meth c s₁ [] 0 0 := Stand.of_body Bd
  have e0 : s₁.heap = h0 := by rw [← hh, Bd.state]; rfl
  have N0 := Fr.nil n0
  show Goes p e below (Fin_ s (Qrm2 Z a h0 n0) ({ frames := 1, cells := 0, slots := 0, locals := 12 } : Room).cells ({ frames := 1, cells := 0, slots := 0, locals := 12 } : Room).slots) (s₁.setTop (entryFrame m #[(.ref a)] 1))
  rw [ef_rm2 m a]
  refine gALN X0 hx hby d2_0 rfl rfl ?_
  obtain ⟨T1, X1, e1, st1⟩ := initO X0 hx hZ hown (own_w hw 11 rfl) (own_w hw 12 rfl) (own_w hw 13 rfl) e0 (g := (mkF m 1 #[vr a] [(.ref a)])) rfl (by rw [hml]; rfl) rfl (hb hby d2_1) (by decide) (W := 0) (by show 2 * 0 + _ ≤ _; exact Nat.le_of_eq rfl) (by decide)
  refine Goes.via st1 ?_
  show Goes p e below _ (T1.setTop (mkF m 4 #[vr a] []))
  exact own_finV X1 hx hlk hret (hb hby d2_4) (by rw [e1]; exact ⟨rfl, rfl, rfl⟩) (by first | decide | omega | (dsimp only; omega)) (by first | decide | omega | (dsimp only; omega))
theorem ef_rm1 (m : MethodId) (a : Addr) (x_ : Int32) (dg : Int32) : entryFrame m #[(.ref a), (.int x_), (.int dg)] 4 = mkF m 0 #[.val (.ref a), .val (.int x_), .val (.int dg), .unset] [] := by first | (simp [entryFrame, mkF, argsToLocals, Value.category]; done) | rfl
def Qrm1 (Z : State) (a : Addr) (x_ : Int32) (dg : Int32) (bp : Int32) (h0 : Heap) (n0 : Nat) (v_ : Option Value) (h_ : Heap) (L_ : List Loc) : Prop := v_ = none ∧ Fr n0 L_ ∧ Keep h0 h_ [a] ∧ Exa Z h_ a "nearhop/model/IdSpace" ∧ Fld Z h_ a "nearhop/model/IdSpace" "base" "I" (.int x_) ∧ Fld Z h_ a "nearhop/model/IdSpace" "digits" "I" (.int dg)
theorem pn_nearhop_model_IdSpace : plainName "nearhop/model/IdSpace" = true := by first | (simp [plainName, overriddenIn]; done) | decide +kernel
theorem d1_0 : decode prog_77_method_1_code 0 = .ok (.aload_n 0, 1) := by decide +kernel
theorem pd_0 : parseMethodDescriptor "()V" = some ⟨[], none⟩ := by decide +kernel
theorem d1_1 : decode prog_77_method_1_code 1 = .ok (.invokespecial 5, 3) := by decide +kernel
abbrev mN_Record_init : MethodName := ⟨"java/lang/Record", "<init>", "()V"⟩
theorem d1_4 : decode prog_77_method_1_code 4 = .ok (.iload_n 1, 1) := by decide +kernel
theorem d1_5 : decode prog_77_method_1_code 5 = .ok (.iconst 2, 1) := by decide +kernel
theorem d1_6 : decode prog_77_method_1_code 6 = .ok (.if_icmp .eq 34, 3) := by decide +kernel
theorem d1_40 : decode prog_77_method_1_code 40 = .ok (.sipush 128, 3) := by decide +kernel
theorem d1_43 : decode prog_77_method_1_code 43 = .ok (.iload_n 1, 1) := by decide +kernel
theorem pd_1 : parseMethodDescriptor "(I)I" = some ⟨[.int], some .int⟩ := by decide +kernel
theorem d1_44 : decode prog_77_method_1_code 44 = .ok (.invokestatic 20, 3) := by decide +kernel
abbrev mN_Integer_numberOfTrailingZeros : MethodName := ⟨"java/lang/Integer", "numberOfTrailingZeros", "(I)I"⟩
theorem d1_47 : decode prog_77_method_1_code 47 = .ok (.idiv, 1) := by decide +kernel
theorem d1_48 : decode prog_77_method_1_code 48 = .ok (.istore_n 3, 1) := by decide +kernel
theorem d1_49 : decode prog_77_method_1_code 49 = .ok (.iload_n 2, 1) := by decide +kernel
theorem d1_50 : decode prog_77_method_1_code 50 = .ok (.iconst 1, 1) := by decide +kernel
theorem d1_51 : decode prog_77_method_1_code 51 = .ok (.if_icmp .lt 8, 3) := by decide +kernel
theorem d1_54 : decode prog_77_method_1_code 54 = .ok (.iload_n 2, 1) := by decide +kernel
theorem d1_55 : decode prog_77_method_1_code 55 = .ok (.iload_n 3, 1) := by decide +kernel
theorem d1_56 : decode prog_77_method_1_code 56 = .ok (.if_icmp .le 41, 3) := by decide +kernel
theorem d1_97 : decode prog_77_method_1_code 97 = .ok (.aload_n 0, 1) := by decide +kernel
theorem d1_98 : decode prog_77_method_1_code 98 = .ok (.iload_n 1, 1) := by decide +kernel
theorem d1_99 : decode prog_77_method_1_code 99 = .ok (.putfield 40, 3) := by decide +kernel
theorem d1_102 : decode prog_77_method_1_code 102 = .ok (.aload_n 0, 1) := by decide +kernel
theorem d1_103 : decode prog_77_method_1_code 103 = .ok (.iload_n 2, 1) := by decide +kernel
theorem d1_104 : decode prog_77_method_1_code 104 = .ok (.putfield 44, 3) := by decide +kernel
theorem d1_107 : decode prog_77_method_1_code 107 = .ok (.return_, 1) := by decide +kernel
theorem d1_9 : decode prog_77_method_1_code 9 = .ok (.iload_n 1, 1) := by decide +kernel
theorem d1_10 : decode prog_77_method_1_code 10 = .ok (.iconst 4, 1) := by decide +kernel
theorem d1_11 : decode prog_77_method_1_code 11 = .ok (.if_icmp .eq 29, 3) := by decide +kernel
theorem d1_14 : decode prog_77_method_1_code 14 = .ok (.iload_n 1, 1) := by decide +kernel
theorem d1_15 : decode prog_77_method_1_code 15 = .ok (.bipush 8, 2) := by decide +kernel
theorem d1_17 : decode prog_77_method_1_code 17 = .ok (.if_icmp .eq 23, 3) := by decide +kernel
theorem d1_20 : decode prog_77_method_1_code 20 = .ok (.iload_n 1, 1) := by decide +kernel
theorem d1_21 : decode prog_77_method_1_code 21 = .ok (.bipush 16, 2) := by decide +kernel
theorem d1_23 : decode prog_77_method_1_code 23 = .ok (.if_icmp .eq 17, 3) := by decide +kernel
set_option maxRecDepth 65536 in
set_option maxHeartbeats 40000000 in
theorem rm1 (l : Launch) (Z : State) (a0 : Array Value) (hw : ∀ d ∈ tables_1, d.before a0 Z = true) (ws : List Jvm.Cond) (a : Addr) (x_ : Int32) (dg : Int32) (bp : Int32) (h0 : Heap) (n0 : Nat) (Z0 : n0 ≤ h0.size) (E0_a : Exa Z h0 a "nearhop/model/IdSpace") (F1_a_base : Fld Z h0 a "nearhop/model/IdSpace" "base" "I" (.int (0 : Int32))) (F2_a_digits : Fld Z h0 a "nearhop/model/IdSpace" "digits" "I" (.int (0 : Int32))) (H3 : n0 ≤ a) (HB : own_bb x_ bp) (HD1 : 1 ≤ dg.toInt) (HD8 : dg.toInt ≤ 8) :
    MetFree l (⟨"nearhop/model/IdSpace", "<init>", "(II)V"⟩ : MethodName) (head1 (Jvm.Cond.code (⟨"nearhop/model/IdSpace", "<init>", "(II)V"⟩ : MethodName) prog_77_method_1_code 4 none :: ws) ({ frames := 2, cells := 0, slots := 0, locals := 24 } : Room)) (fun as_ U_ => as_ = #[(.ref a), (.int x_), (.int dg)] ∧ Z.Warmed39 U_.vm ∧ U_.heap = h0) (fun _ _ _ _ _ => True) (fun _ U_ o_ V_ => ∃ v_ L_, o_ = .returned v_ ∧ Qrm1 Z a x_ dg bp h0 n0 v_ V_.heap L_ ∧ FrameEnd U_ o_ V_ L_ ({ frames := 2, cells := 0, slots := 0, locals := 24 } : Room).cells ({ frames := 2, cells := 0, slots := 0, locals := 24 } : Room).slots) := by
  refine MetFree.of_bodySF (plainFor_of_name pn_nearhop_model_IdSpace) hisR ?_
  intro p e s m args below meth c s₁ Bd hml0 hP hK
  obtain ⟨rfl, hZ, hh⟩ := hP
  have hx := Bd.exec
  have hby := Bd.bytes
  have hlk : meth.locks = false := BodyLoose.notSynchronized Bd
  have hret := Bd.returns
  have hml : c.maxLocals = 4 := hml0
  have hown : s.vm.findClass "nearhop/model/IdSpace" = some m.cls := findClass_of_methodNamed Bd.named
  have hnm := (name_of_methodNamed Bd.named Bd.method).1
  have X0 : Stand p l e ({ frames := 2, cells := 0, slots := 0, locals := 24 } : Room) s m #[(.ref a), (.int x_), (.int dg)] below meth c s₁ [] 0 0 := Stand.of_body Bd
  have e0 : s₁.heap = h0 := by rw [← hh, Bd.state]; rfl
  have N0 := Fr.nil n0
  show Goes p e below (Fin_ s (Qrm1 Z a x_ dg bp h0 n0) ({ frames := 2, cells := 0, slots := 0, locals := 24 } : Room).cells ({ frames := 2, cells := 0, slots := 0, locals := 24 } : Room).slots) (s₁.setTop (entryFrame m #[(.ref a), (.int x_), (.int dg)] 4))
  rw [ef_rm1 m a x_ dg]
  refine gALN X0 hx hby d1_0 rfl rfl ?_
  obtain ⟨_, _, ⟨T1, L1, k1, n1⟩, -, X1, ⟨Lc1, hQ1, l1, y1, z1⟩, st1⟩ := X0.specialBack hx (y := mN_Record_init) rfl hown (mvT hZ (own_w hw 6 rfl)) (mvT hZ (own_w hw 7 rfl)) (mvT hZ (own_w hw 10 rfl)) (by decide) (backOf (W := 0) (rm2 l Z a0 hw [] a h0 n0 (Nat.le_trans Z0 (Nat.le_refl _)) ) hZ (own_w hw 10 rfl) (own_w hw 9 rfl) (by decide) (by decide)) (g := (mkF m 1 #[vr a, vi x_, vi dg, .unset] [(.ref a)])) rfl (by rw [hml]; rfl) (Steps.refl _) (a := a) (argsL := []) (rest := []) (lenOf pd_0 rfl) rfl (by show 2 * 0 + _ ≤ _; exact Nat.le_of_eq rfl) (hb hby d1_1) (fun _ _ => ⟨rfl, e0, (by decide : 0 + 0 ≤ _), (by decide : 0 + 0 ≤ _)⟩)
  dsimp only [Pt.U, Pt.locs, Pt.cells, Pt.slots] at X1 l1 y1 z1 st1 hQ1
  replace l1 := l1.symm
  subst l1 y1 z1
  obtain ⟨rfl, rfl, e1⟩ := hQ1
  first | rw [List.append_nil] at X1 | skip
  refine Goes.tr st1 ?_
  have e1' : T1.heap = h0 := e1
  show Goes p e below _ (T1.setTop (mkF m 4 #[vr a, vi x_, vi dg, .unset] []))
  refine gILN X1 hx hby d1_4 rfl ?_
  refine gIC (z := 2) X1 hx hby d1_5 rfl ?_
  by_cases hc6 : x_ = (2 : Int32)
  · skip
    refine Goes.via (fun _ kk_ => XS.icmpYes X1.here hx rfl (pc0 := 6) (pc' := 40) rfl (hb hby d1_6) rfl (teq hc6).1 (by decide) (by decide) kk_) ?_
    show Goes p e below _ (T1.setTop (mkF m 40 #[vr a, vi x_, vi dg, .unset] []))
    refine gSI (z := 128) X1 hx hby d1_40 rfl ?_
    refine gILN X1 hx hby d1_43 rfl ?_
    obtain ⟨_, _, ⟨T2, L2, k2, n2⟩, -, X2, ⟨Lc2, hQ2, l2, y2, z2⟩, st2⟩ := Jvm.LawKit.callS X1 hx (y := mN_Integer_numberOfTrailingZeros) hown (mvT hZ (own_w hw 14 rfl)) (mvT hZ (own_w hw 15 rfl)) (mvT hZ (own_w hw 16 rfl)) (mvT hZ (own_w hw 17 rfl)) (by decide) (backOf (W := 1) (rmNtz l Z a0 hw [] x_ bp h0 n0 (Nat.le_trans Z0 (Nat.le_refl _)) HB) hZ (own_w hw 17 rfl) (own_w hw 16 rfl) (by decide) (by decide)) (g := (mkF m 44 #[vr a, vi x_, vi dg, .unset] [(.int x_), (.int (128 : Int32))])) rfl (by rw [hml]; rfl) (argsL := [(.int x_)]) (rest := [(.int (128 : Int32))]) (lenOf pd_1 rfl) rfl (by show 2 * 0 + _ ≤ _; exact Nat.le_of_eq rfl) (hb hby d1_44) (fun _ _ => ⟨rfl, e1', (by decide : 0 + 0 ≤ _), (by decide : 0 + 0 ≤ _)⟩)
    dsimp only [Pt.U, Pt.locs, Pt.cells, Pt.slots] at X2 l2 y2 z2 st2 hQ2
    replace l2 := l2.symm
    subst l2 y2 z2
    obtain ⟨rfl, rfl, e2⟩ := hQ2
    first | rw [List.append_nil] at X2 | skip
    refine Goes.via st2 ?_
    have e2' : T2.heap = h0 := e2
    show Goes p e below _ (T2.setTop (mkF m 47 #[vr a, vi x_, vi dg, .unset] [(.int bp), (.int (128 : Int32))]))
    refine Goes.via (fun _ kk_ => XS.idiv X2.here hx rfl (hb hby d1_47) rfl (own_bb0 HB) kk_) ?_
    show Goes p e below _ (T2.setTop (mkF m 48 #[vr a, vi x_, vi dg, .unset] [(.int ((128 : Int32) / bp))]))
    refine Goes.via (fun _ kk_ => XS.istoreN X2.here hx rfl (hb hby d1_48) rfl (l' := #[vr a, vi x_, vi dg, vi ((128 : Int32) / bp)]) rfl kk_) ?_
    show Goes p e below _ (T2.setTop (mkF m 49 #[vr a, vi x_, vi dg, vi ((128 : Int32) / bp)] []))
    refine gILN X2 hx hby d1_49 rfl ?_
    refine gIC (z := 1) X2 hx hby d1_50 rfl ?_
    have hc51_3 : ¬ (dg < (1 : Int32)) := (fun q => by have q1 := own_lti.mp q; have e : (1 : Int32).toInt = 1 := (by decide); omega)
    refine Goes.via (fun _ kk_ => XS.icmpNo X2.here hx rfl (hb hby d1_51) rfl (flt hc51_3).1 kk_) ?_
    show Goes p e below _ (T2.setTop (mkF m 54 #[vr a, vi x_, vi dg, vi ((128 : Int32) / bp)] []))
    refine gILN X2 hx hby d1_54 rfl ?_
    refine gILN X2 hx hby d1_55 rfl ?_
    have hc56_4 : ¬ (((128 : Int32) / bp) < dg) := (own_bbd HB HD8)
    refine Goes.via (fun _ kk_ => XS.icmpYes X2.here hx rfl (pc0 := 56) (pc' := 97) rfl (hb hby d1_56) rfl (flt hc56_4).2.2.2 (by decide) (by decide) kk_) ?_
    show Goes p e below _ (T2.setTop (mkF m 97 #[vr a, vi x_, vi dg, vi ((128 : Int32) / bp)] []))
    refine gALN X2 hx hby d1_97 rfl rfl ?_
    refine gILN X2 hx hby d1_98 rfl ?_
    obtain ⟨T5, h5, X5, e5, W5, st5⟩ := putF X2 hx hZ hown (host := "") (Or.inl (own_w hw 19 rfl)) Via.refl e2' F1_a_base E0_a (Or.inr ⟨(own_w hw 20 rfl), rfl, hnm⟩) (own_w hw 1 rfl) (ty := .int) (by decide) rfl rfl (g := (mkF m 99 #[vr a, vi x_, vi dg, vi ((128 : Int32) / bp)] [(.int x_), (.ref a)])) rfl rfl (hb hby d1_99)
    refine Goes.via st5 ?_
    have N5 := Fr.snoc X5 N0 H3
    have Fw5 : Fld Z h5 a "nearhop/model/IdSpace" "base" "I" (.int x_) := F1_a_base.same W5
    show Goes p e below _ (T5.setTop (mkF m 102 #[vr a, vi x_, vi dg, vi ((128 : Int32) / bp)] []))
    refine gALN X5 hx hby d1_102 rfl rfl ?_
    refine gILN X5 hx hby d1_103 rfl ?_
    have f6 := (F2_a_digits.other W5 (Or.inr (slot_ne (Or.inr (own_w hw 22 rfl)) (Or.inr (own_w hw 20 rfl)) (by decide) (t := .int) (t' := .int) (by decide) (by decide))))
    have f7 := (E0_a.wr W5)
    obtain ⟨T8, h8, X8, e8, W8, st8⟩ := putF X5 hx hZ hown (host := "") (Or.inl (own_w hw 21 rfl)) Via.refl e5 f6 f7 (Or.inr ⟨(own_w hw 22 rfl), rfl, hnm⟩) (own_w hw 1 rfl) (ty := .int) (by decide) rfl rfl (g := (mkF m 104 #[vr a, vi x_, vi dg, vi ((128 : Int32) / bp)] [(.int dg), (.ref a)])) rfl rfl (hb hby d1_104)
    refine Goes.via st8 ?_
    have N8 := Fr.snoc X8 N5 H3
    have Fw8 : Fld Z h8 a "nearhop/model/IdSpace" "digits" "I" (.int dg) := f6.same W8
    show Goes p e below _ (T8.setTop (mkF m 107 #[vr a, vi x_, vi dg, vi ((128 : Int32) / bp)] []))
    have K9 : Keep h0 h8 [a] := (((Keep.refl h0 [a]).wr W5 (Or.inl (List.mem_of_getElem? (i := 0) rfl))).wr W8 (Or.inl (List.mem_of_getElem? (i := 0) rfl)))
    have f10 := (f7.wr W8)
    have f11 := (Fw5.other W8 (Or.inr (slot_ne (Or.inr (own_w hw 20 rfl)) (Or.inr (own_w hw 22 rfl)) (by decide) (t := .int) (t' := .int) (by decide) (by decide))))
    exact own_finV X8 hx hlk hret (hb hby d1_107) (by rw [e8]; exact ⟨rfl, N8, K9, f10, f11, Fw8⟩) (by first | decide | omega | (dsimp only; omega)) (by first | decide | omega | (dsimp only; omega))
  · skip
    refine Goes.via (fun _ kk_ => XS.icmpNo X1.here hx rfl (hb hby d1_6) rfl (feq hc6).1 kk_) ?_
    show Goes p e below _ (T1.setTop (mkF m 9 #[vr a, vi x_, vi dg, .unset] []))
    refine gILN X1 hx hby d1_9 rfl ?_
    refine gIC (z := 4) X1 hx hby d1_10 rfl ?_
    by_cases hc11 : x_ = (4 : Int32)
    · skip
      refine Goes.via (fun _ kk_ => XS.icmpYes X1.here hx rfl (pc0 := 11) (pc' := 40) rfl (hb hby d1_11) rfl (teq hc11).1 (by decide) (by decide) kk_) ?_
      show Goes p e below _ (T1.setTop (mkF m 40 #[vr a, vi x_, vi dg, .unset] []))
      refine gSI (z := 128) X1 hx hby d1_40 rfl ?_
      refine gILN X1 hx hby d1_43 rfl ?_
      obtain ⟨_, _, ⟨T12, L12, k12, n12⟩, -, X12, ⟨Lc12, hQ12, l12, y12, z12⟩, st12⟩ := Jvm.LawKit.callS X1 hx (y := mN_Integer_numberOfTrailingZeros) hown (mvT hZ (own_w hw 14 rfl)) (mvT hZ (own_w hw 15 rfl)) (mvT hZ (own_w hw 16 rfl)) (mvT hZ (own_w hw 17 rfl)) (by decide) (backOf (W := 1) (rmNtz l Z a0 hw [] x_ bp h0 n0 (Nat.le_trans Z0 (Nat.le_refl _)) HB) hZ (own_w hw 17 rfl) (own_w hw 16 rfl) (by decide) (by decide)) (g := (mkF m 44 #[vr a, vi x_, vi dg, .unset] [(.int x_), (.int (128 : Int32))])) rfl (by rw [hml]; rfl) (argsL := [(.int x_)]) (rest := [(.int (128 : Int32))]) (lenOf pd_1 rfl) rfl (by show 2 * 0 + _ ≤ _; exact Nat.le_of_eq rfl) (hb hby d1_44) (fun _ _ => ⟨rfl, e1', (by decide : 0 + 0 ≤ _), (by decide : 0 + 0 ≤ _)⟩)
      dsimp only [Pt.U, Pt.locs, Pt.cells, Pt.slots] at X12 l12 y12 z12 st12 hQ12
      replace l12 := l12.symm
      subst l12 y12 z12
      obtain ⟨rfl, rfl, e12⟩ := hQ12
      first | rw [List.append_nil] at X12 | skip
      refine Goes.via st12 ?_
      have e12' : T12.heap = h0 := e12
      show Goes p e below _ (T12.setTop (mkF m 47 #[vr a, vi x_, vi dg, .unset] [(.int bp), (.int (128 : Int32))]))
      refine Goes.via (fun _ kk_ => XS.idiv X12.here hx rfl (hb hby d1_47) rfl (own_bb0 HB) kk_) ?_
      show Goes p e below _ (T12.setTop (mkF m 48 #[vr a, vi x_, vi dg, .unset] [(.int ((128 : Int32) / bp))]))
      refine Goes.via (fun _ kk_ => XS.istoreN X12.here hx rfl (hb hby d1_48) rfl (l' := #[vr a, vi x_, vi dg, vi ((128 : Int32) / bp)]) rfl kk_) ?_
      show Goes p e below _ (T12.setTop (mkF m 49 #[vr a, vi x_, vi dg, vi ((128 : Int32) / bp)] []))
      refine gILN X12 hx hby d1_49 rfl ?_
      refine gIC (z := 1) X12 hx hby d1_50 rfl ?_
      have hc51_13 : ¬ (dg < (1 : Int32)) := (fun q => by have q1 := own_lti.mp q; have e : (1 : Int32).toInt = 1 := (by decide); omega)
      refine Goes.via (fun _ kk_ => XS.icmpNo X12.here hx rfl (hb hby d1_51) rfl (flt hc51_13).1 kk_) ?_
      show Goes p e below _ (T12.setTop (mkF m 54 #[vr a, vi x_, vi dg, vi ((128 : Int32) / bp)] []))
      refine gILN X12 hx hby d1_54 rfl ?_
      refine gILN X12 hx hby d1_55 rfl ?_
      have hc56_14 : ¬ (((128 : Int32) / bp) < dg) := (own_bbd HB HD8)
      refine Goes.via (fun _ kk_ => XS.icmpYes X12.here hx rfl (pc0 := 56) (pc' := 97) rfl (hb hby d1_56) rfl (flt hc56_14).2.2.2 (by decide) (by decide) kk_) ?_
      show Goes p e below _ (T12.setTop (mkF m 97 #[vr a, vi x_, vi dg, vi ((128 : Int32) / bp)] []))
      refine gALN X12 hx hby d1_97 rfl rfl ?_
      refine gILN X12 hx hby d1_98 rfl ?_
      obtain ⟨T15, h15, X15, e15, W15, st15⟩ := putF X12 hx hZ hown (host := "") (Or.inl (own_w hw 19 rfl)) Via.refl e12' F1_a_base E0_a (Or.inr ⟨(own_w hw 20 rfl), rfl, hnm⟩) (own_w hw 1 rfl) (ty := .int) (by decide) rfl rfl (g := (mkF m 99 #[vr a, vi x_, vi dg, vi ((128 : Int32) / bp)] [(.int x_), (.ref a)])) rfl rfl (hb hby d1_99)
      refine Goes.via st15 ?_
      have N15 := Fr.snoc X15 N0 H3
      have Fw15 : Fld Z h15 a "nearhop/model/IdSpace" "base" "I" (.int x_) := F1_a_base.same W15
      show Goes p e below _ (T15.setTop (mkF m 102 #[vr a, vi x_, vi dg, vi ((128 : Int32) / bp)] []))
      refine gALN X15 hx hby d1_102 rfl rfl ?_
      refine gILN X15 hx hby d1_103 rfl ?_
      have f16 := (F2_a_digits.other W15 (Or.inr (slot_ne (Or.inr (own_w hw 22 rfl)) (Or.inr (own_w hw 20 rfl)) (by decide) (t := .int) (t' := .int) (by decide) (by decide))))
      have f17 := (E0_a.wr W15)
      obtain ⟨T18, h18, X18, e18, W18, st18⟩ := putF X15 hx hZ hown (host := "") (Or.inl (own_w hw 21 rfl)) Via.refl e15 f16 f17 (Or.inr ⟨(own_w hw 22 rfl), rfl, hnm⟩) (own_w hw 1 rfl) (ty := .int) (by decide) rfl rfl (g := (mkF m 104 #[vr a, vi x_, vi dg, vi ((128 : Int32) / bp)] [(.int dg), (.ref a)])) rfl rfl (hb hby d1_104)
      refine Goes.via st18 ?_
      have N18 := Fr.snoc X18 N15 H3
      have Fw18 : Fld Z h18 a "nearhop/model/IdSpace" "digits" "I" (.int dg) := f16.same W18
      show Goes p e below _ (T18.setTop (mkF m 107 #[vr a, vi x_, vi dg, vi ((128 : Int32) / bp)] []))
      have K19 : Keep h0 h18 [a] := (((Keep.refl h0 [a]).wr W15 (Or.inl (List.mem_of_getElem? (i := 0) rfl))).wr W18 (Or.inl (List.mem_of_getElem? (i := 0) rfl)))
      have f20 := (f17.wr W18)
      have f21 := (Fw15.other W18 (Or.inr (slot_ne (Or.inr (own_w hw 20 rfl)) (Or.inr (own_w hw 22 rfl)) (by decide) (t := .int) (t' := .int) (by decide) (by decide))))
      exact own_finV X18 hx hlk hret (hb hby d1_107) (by rw [e18]; exact ⟨rfl, N18, K19, f20, f21, Fw18⟩) (by first | decide | omega | (dsimp only; omega)) (by first | decide | omega | (dsimp only; omega))
    · skip
      refine Goes.via (fun _ kk_ => XS.icmpNo X1.here hx rfl (hb hby d1_11) rfl (feq hc11).1 kk_) ?_
      show Goes p e below _ (T1.setTop (mkF m 14 #[vr a, vi x_, vi dg, .unset] []))
      refine gILN X1 hx hby d1_14 rfl ?_
      refine gBI (z := 8) X1 hx hby d1_15 rfl ?_
      by_cases hc17 : x_ = (8 : Int32)
      · skip
        refine Goes.via (fun _ kk_ => XS.icmpYes X1.here hx rfl (pc0 := 17) (pc' := 40) rfl (hb hby d1_17) rfl (teq hc17).1 (by decide) (by decide) kk_) ?_
        show Goes p e below _ (T1.setTop (mkF m 40 #[vr a, vi x_, vi dg, .unset] []))
        refine gSI (z := 128) X1 hx hby d1_40 rfl ?_
        refine gILN X1 hx hby d1_43 rfl ?_
        obtain ⟨_, _, ⟨T22, L22, k22, n22⟩, -, X22, ⟨Lc22, hQ22, l22, y22, z22⟩, st22⟩ := Jvm.LawKit.callS X1 hx (y := mN_Integer_numberOfTrailingZeros) hown (mvT hZ (own_w hw 14 rfl)) (mvT hZ (own_w hw 15 rfl)) (mvT hZ (own_w hw 16 rfl)) (mvT hZ (own_w hw 17 rfl)) (by decide) (backOf (W := 1) (rmNtz l Z a0 hw [] x_ bp h0 n0 (Nat.le_trans Z0 (Nat.le_refl _)) HB) hZ (own_w hw 17 rfl) (own_w hw 16 rfl) (by decide) (by decide)) (g := (mkF m 44 #[vr a, vi x_, vi dg, .unset] [(.int x_), (.int (128 : Int32))])) rfl (by rw [hml]; rfl) (argsL := [(.int x_)]) (rest := [(.int (128 : Int32))]) (lenOf pd_1 rfl) rfl (by show 2 * 0 + _ ≤ _; exact Nat.le_of_eq rfl) (hb hby d1_44) (fun _ _ => ⟨rfl, e1', (by decide : 0 + 0 ≤ _), (by decide : 0 + 0 ≤ _)⟩)
        dsimp only [Pt.U, Pt.locs, Pt.cells, Pt.slots] at X22 l22 y22 z22 st22 hQ22
        replace l22 := l22.symm
        subst l22 y22 z22
        obtain ⟨rfl, rfl, e22⟩ := hQ22
        first | rw [List.append_nil] at X22 | skip
        refine Goes.via st22 ?_
        have e22' : T22.heap = h0 := e22
        show Goes p e below _ (T22.setTop (mkF m 47 #[vr a, vi x_, vi dg, .unset] [(.int bp), (.int (128 : Int32))]))
        refine Goes.via (fun _ kk_ => XS.idiv X22.here hx rfl (hb hby d1_47) rfl (own_bb0 HB) kk_) ?_
        show Goes p e below _ (T22.setTop (mkF m 48 #[vr a, vi x_, vi dg, .unset] [(.int ((128 : Int32) / bp))]))
        refine Goes.via (fun _ kk_ => XS.istoreN X22.here hx rfl (hb hby d1_48) rfl (l' := #[vr a, vi x_, vi dg, vi ((128 : Int32) / bp)]) rfl kk_) ?_
        show Goes p e below _ (T22.setTop (mkF m 49 #[vr a, vi x_, vi dg, vi ((128 : Int32) / bp)] []))
        refine gILN X22 hx hby d1_49 rfl ?_
        refine gIC (z := 1) X22 hx hby d1_50 rfl ?_
        have hc51_23 : ¬ (dg < (1 : Int32)) := (fun q => by have q1 := own_lti.mp q; have e : (1 : Int32).toInt = 1 := (by decide); omega)
        refine Goes.via (fun _ kk_ => XS.icmpNo X22.here hx rfl (hb hby d1_51) rfl (flt hc51_23).1 kk_) ?_
        show Goes p e below _ (T22.setTop (mkF m 54 #[vr a, vi x_, vi dg, vi ((128 : Int32) / bp)] []))
        refine gILN X22 hx hby d1_54 rfl ?_
        refine gILN X22 hx hby d1_55 rfl ?_
        have hc56_24 : ¬ (((128 : Int32) / bp) < dg) := (own_bbd HB HD8)
        refine Goes.via (fun _ kk_ => XS.icmpYes X22.here hx rfl (pc0 := 56) (pc' := 97) rfl (hb hby d1_56) rfl (flt hc56_24).2.2.2 (by decide) (by decide) kk_) ?_
        show Goes p e below _ (T22.setTop (mkF m 97 #[vr a, vi x_, vi dg, vi ((128 : Int32) / bp)] []))
        refine gALN X22 hx hby d1_97 rfl rfl ?_
        refine gILN X22 hx hby d1_98 rfl ?_
        obtain ⟨T25, h25, X25, e25, W25, st25⟩ := putF X22 hx hZ hown (host := "") (Or.inl (own_w hw 19 rfl)) Via.refl e22' F1_a_base E0_a (Or.inr ⟨(own_w hw 20 rfl), rfl, hnm⟩) (own_w hw 1 rfl) (ty := .int) (by decide) rfl rfl (g := (mkF m 99 #[vr a, vi x_, vi dg, vi ((128 : Int32) / bp)] [(.int x_), (.ref a)])) rfl rfl (hb hby d1_99)
        refine Goes.via st25 ?_
        have N25 := Fr.snoc X25 N0 H3
        have Fw25 : Fld Z h25 a "nearhop/model/IdSpace" "base" "I" (.int x_) := F1_a_base.same W25
        show Goes p e below _ (T25.setTop (mkF m 102 #[vr a, vi x_, vi dg, vi ((128 : Int32) / bp)] []))
        refine gALN X25 hx hby d1_102 rfl rfl ?_
        refine gILN X25 hx hby d1_103 rfl ?_
        have f26 := (F2_a_digits.other W25 (Or.inr (slot_ne (Or.inr (own_w hw 22 rfl)) (Or.inr (own_w hw 20 rfl)) (by decide) (t := .int) (t' := .int) (by decide) (by decide))))
        have f27 := (E0_a.wr W25)
        obtain ⟨T28, h28, X28, e28, W28, st28⟩ := putF X25 hx hZ hown (host := "") (Or.inl (own_w hw 21 rfl)) Via.refl e25 f26 f27 (Or.inr ⟨(own_w hw 22 rfl), rfl, hnm⟩) (own_w hw 1 rfl) (ty := .int) (by decide) rfl rfl (g := (mkF m 104 #[vr a, vi x_, vi dg, vi ((128 : Int32) / bp)] [(.int dg), (.ref a)])) rfl rfl (hb hby d1_104)
        refine Goes.via st28 ?_
        have N28 := Fr.snoc X28 N25 H3
        have Fw28 : Fld Z h28 a "nearhop/model/IdSpace" "digits" "I" (.int dg) := f26.same W28
        show Goes p e below _ (T28.setTop (mkF m 107 #[vr a, vi x_, vi dg, vi ((128 : Int32) / bp)] []))
        have K29 : Keep h0 h28 [a] := (((Keep.refl h0 [a]).wr W25 (Or.inl (List.mem_of_getElem? (i := 0) rfl))).wr W28 (Or.inl (List.mem_of_getElem? (i := 0) rfl)))
        have f30 := (f27.wr W28)
        have f31 := (Fw25.other W28 (Or.inr (slot_ne (Or.inr (own_w hw 20 rfl)) (Or.inr (own_w hw 22 rfl)) (by decide) (t := .int) (t' := .int) (by decide) (by decide))))
        exact own_finV X28 hx hlk hret (hb hby d1_107) (by rw [e28]; exact ⟨rfl, N28, K29, f30, f31, Fw28⟩) (by first | decide | omega | (dsimp only; omega)) (by first | decide | omega | (dsimp only; omega))
      · skip
        refine Goes.via (fun _ kk_ => XS.icmpNo X1.here hx rfl (hb hby d1_17) rfl (feq hc17).1 kk_) ?_
        show Goes p e below _ (T1.setTop (mkF m 20 #[vr a, vi x_, vi dg, .unset] []))
        refine gILN X1 hx hby d1_20 rfl ?_
        refine gBI (z := 16) X1 hx hby d1_21 rfl ?_
        have hc23_32 : x_ = (16 : Int32) := (own_bb16 HB hc6 hc11 hc17)
        refine Goes.via (fun _ kk_ => XS.icmpYes X1.here hx rfl (pc0 := 23) (pc' := 40) rfl (hb hby d1_23) rfl (teq hc23_32).1 (by decide) (by decide) kk_) ?_
        show Goes p e below _ (T1.setTop (mkF m 40 #[vr a, vi x_, vi dg, .unset] []))
        refine gSI (z := 128) X1 hx hby d1_40 rfl ?_
        refine gILN X1 hx hby d1_43 rfl ?_
        obtain ⟨_, _, ⟨T33, L33, k33, n33⟩, -, X33, ⟨Lc33, hQ33, l33, y33, z33⟩, st33⟩ := Jvm.LawKit.callS X1 hx (y := mN_Integer_numberOfTrailingZeros) hown (mvT hZ (own_w hw 14 rfl)) (mvT hZ (own_w hw 15 rfl)) (mvT hZ (own_w hw 16 rfl)) (mvT hZ (own_w hw 17 rfl)) (by decide) (backOf (W := 1) (rmNtz l Z a0 hw [] x_ bp h0 n0 (Nat.le_trans Z0 (Nat.le_refl _)) HB) hZ (own_w hw 17 rfl) (own_w hw 16 rfl) (by decide) (by decide)) (g := (mkF m 44 #[vr a, vi x_, vi dg, .unset] [(.int x_), (.int (128 : Int32))])) rfl (by rw [hml]; rfl) (argsL := [(.int x_)]) (rest := [(.int (128 : Int32))]) (lenOf pd_1 rfl) rfl (by show 2 * 0 + _ ≤ _; exact Nat.le_of_eq rfl) (hb hby d1_44) (fun _ _ => ⟨rfl, e1', (by decide : 0 + 0 ≤ _), (by decide : 0 + 0 ≤ _)⟩)
        dsimp only [Pt.U, Pt.locs, Pt.cells, Pt.slots] at X33 l33 y33 z33 st33 hQ33
        replace l33 := l33.symm
        subst l33 y33 z33
        obtain ⟨rfl, rfl, e33⟩ := hQ33
        first | rw [List.append_nil] at X33 | skip
        refine Goes.via st33 ?_
        have e33' : T33.heap = h0 := e33
        show Goes p e below _ (T33.setTop (mkF m 47 #[vr a, vi x_, vi dg, .unset] [(.int bp), (.int (128 : Int32))]))
        refine Goes.via (fun _ kk_ => XS.idiv X33.here hx rfl (hb hby d1_47) rfl (own_bb0 HB) kk_) ?_
        show Goes p e below _ (T33.setTop (mkF m 48 #[vr a, vi x_, vi dg, .unset] [(.int ((128 : Int32) / bp))]))
        refine Goes.via (fun _ kk_ => XS.istoreN X33.here hx rfl (hb hby d1_48) rfl (l' := #[vr a, vi x_, vi dg, vi ((128 : Int32) / bp)]) rfl kk_) ?_
        show Goes p e below _ (T33.setTop (mkF m 49 #[vr a, vi x_, vi dg, vi ((128 : Int32) / bp)] []))
        refine gILN X33 hx hby d1_49 rfl ?_
        refine gIC (z := 1) X33 hx hby d1_50 rfl ?_
        have hc51_34 : ¬ (dg < (1 : Int32)) := (fun q => by have q1 := own_lti.mp q; have e : (1 : Int32).toInt = 1 := (by decide); omega)
        refine Goes.via (fun _ kk_ => XS.icmpNo X33.here hx rfl (hb hby d1_51) rfl (flt hc51_34).1 kk_) ?_
        show Goes p e below _ (T33.setTop (mkF m 54 #[vr a, vi x_, vi dg, vi ((128 : Int32) / bp)] []))
        refine gILN X33 hx hby d1_54 rfl ?_
        refine gILN X33 hx hby d1_55 rfl ?_
        have hc56_35 : ¬ (((128 : Int32) / bp) < dg) := (own_bbd HB HD8)
        refine Goes.via (fun _ kk_ => XS.icmpYes X33.here hx rfl (pc0 := 56) (pc' := 97) rfl (hb hby d1_56) rfl (flt hc56_35).2.2.2 (by decide) (by decide) kk_) ?_
        show Goes p e below _ (T33.setTop (mkF m 97 #[vr a, vi x_, vi dg, vi ((128 : Int32) / bp)] []))
        refine gALN X33 hx hby d1_97 rfl rfl ?_
        refine gILN X33 hx hby d1_98 rfl ?_
        obtain ⟨T36, h36, X36, e36, W36, st36⟩ := putF X33 hx hZ hown (host := "") (Or.inl (own_w hw 19 rfl)) Via.refl e33' F1_a_base E0_a (Or.inr ⟨(own_w hw 20 rfl), rfl, hnm⟩) (own_w hw 1 rfl) (ty := .int) (by decide) rfl rfl (g := (mkF m 99 #[vr a, vi x_, vi dg, vi ((128 : Int32) / bp)] [(.int x_), (.ref a)])) rfl rfl (hb hby d1_99)
        refine Goes.via st36 ?_
        have N36 := Fr.snoc X36 N0 H3
        have Fw36 : Fld Z h36 a "nearhop/model/IdSpace" "base" "I" (.int x_) := F1_a_base.same W36
        show Goes p e below _ (T36.setTop (mkF m 102 #[vr a, vi x_, vi dg, vi ((128 : Int32) / bp)] []))
        refine gALN X36 hx hby d1_102 rfl rfl ?_
        refine gILN X36 hx hby d1_103 rfl ?_
        have f37 := (F2_a_digits.other W36 (Or.inr (slot_ne (Or.inr (own_w hw 22 rfl)) (Or.inr (own_w hw 20 rfl)) (by decide) (t := .int) (t' := .int) (by decide) (by decide))))
        have f38 := (E0_a.wr W36)
        obtain ⟨T39, h39, X39, e39, W39, st39⟩ := putF X36 hx hZ hown (host := "") (Or.inl (own_w hw 21 rfl)) Via.refl e36 f37 f38 (Or.inr ⟨(own_w hw 22 rfl), rfl, hnm⟩) (own_w hw 1 rfl) (ty := .int) (by decide) rfl rfl (g := (mkF m 104 #[vr a, vi x_, vi dg, vi ((128 : Int32) / bp)] [(.int dg), (.ref a)])) rfl rfl (hb hby d1_104)
        refine Goes.via st39 ?_
        have N39 := Fr.snoc X39 N36 H3
        have Fw39 : Fld Z h39 a "nearhop/model/IdSpace" "digits" "I" (.int dg) := f37.same W39
        show Goes p e below _ (T39.setTop (mkF m 107 #[vr a, vi x_, vi dg, vi ((128 : Int32) / bp)] []))
        have K40 : Keep h0 h39 [a] := (((Keep.refl h0 [a]).wr W36 (Or.inl (List.mem_of_getElem? (i := 0) rfl))).wr W39 (Or.inl (List.mem_of_getElem? (i := 0) rfl)))
        have f41 := (f38.wr W39)
        have f42 := (Fw36.other W39 (Or.inr (slot_ne (Or.inr (own_w hw 20 rfl)) (Or.inr (own_w hw 22 rfl)) (by decide) (t := .int) (t' := .int) (by decide) (by decide))))
        exact own_finV X39 hx hlk hret (hb hby d1_107) (by rw [e39]; exact ⟨rfl, N39, K40, f41, f42, Fw39⟩) (by first | decide | omega | (dsimp only; omega)) (by first | decide | omega | (dsimp only; omega))
theorem ef_rm8 (m : MethodId) (a : Addr) : entryFrame m #[(.ref a)] 1 = mkF m 0 #[.val (.ref a)] [] := by first | (simp [entryFrame, mkF, argsToLocals, Value.category]; done) | rfl
def Qrm8 (Z : State) (a : Addr) (x_ : Int32) (bp : Int32) (h0 : Heap) (n0 : Nat) (v_ : Option Value) (h_ : Heap) (L_ : List Loc) : Prop := v_ = some (.int bp) ∧ L_ = [] ∧ h_ = h0
theorem d8_0 : decode prog_77_method_2_code 0 = .ok (.aload_n 0, 1) := by decide +kernel
theorem d8_1 : decode prog_77_method_2_code 1 = .ok (.getfield 40, 3) := by decide +kernel
theorem d8_4 : decode prog_77_method_2_code 4 = .ok (.invokestatic 20, 3) := by decide +kernel
theorem d8_7 : decode prog_77_method_2_code 7 = .ok (.ireturn, 1) := by decide +kernel
set_option maxRecDepth 65536 in
set_option maxHeartbeats 40000000 in
theorem rm8 (l : Launch) (Z : State) (a0 : Array Value) (hw : ∀ d ∈ tables_1, d.before a0 Z = true) (ws : List Jvm.Cond) (a : Addr) (x_ : Int32) (bp : Int32) (h0 : Heap) (n0 : Nat) (Z0 : n0 ≤ h0.size) (F0_a_base : Fld Z h0 a "nearhop/model/IdSpace" "base" "I" (.int x_)) (HB : own_bb x_ bp) :
    MetFree l (⟨"nearhop/model/IdSpace", "bitsPerDigit", "()I"⟩ : MethodName) (head1 (Jvm.Cond.code (⟨"nearhop/model/IdSpace", "bitsPerDigit", "()I"⟩ : MethodName) prog_77_method_2_code 1 (some .int) :: ws) ({ frames := 1, cells := 0, slots := 0, locals := 13 } : Room)) (fun as_ U_ => as_ = #[(.ref a)] ∧ Z.Warmed39 U_.vm ∧ U_.heap = h0) (fun _ _ _ _ _ => True) (fun _ U_ o_ V_ => ∃ v_ L_, o_ = .returned v_ ∧ Qrm8 Z a x_ bp h0 n0 v_ V_.heap L_ ∧ FrameEnd U_ o_ V_ L_ ({ frames := 1, cells := 0, slots := 0, locals := 13 } : Room).cells ({ frames := 1, cells := 0, slots := 0, locals := 13 } : Room).slots) := by
  refine MetFree.of_bodySF (plainFor_of_name pn_nearhop_model_IdSpace) hisR ?_
  intro p e s m args below meth c s₁ Bd hml0 hP hK
  obtain ⟨rfl, hZ, hh⟩ := hP
  have hx := Bd.exec
  have hby := Bd.bytes
  have hlk : meth.locks = false := BodyLoose.notSynchronized Bd
  have hret := Bd.returns
  have hml : c.maxLocals = 1 := hml0
  have hown : s.vm.findClass "nearhop/model/IdSpace" = some m.cls := findClass_of_methodNamed Bd.named
  have hnm := (name_of_methodNamed Bd.named Bd.method).1
  have X0 : Stand p l e ({ frames := 1, cells := 0, slots := 0, locals := 13 } : Room) s m #[(.ref a)] below meth c s₁ [] 0 0 := Stand.of_body Bd
  have e0 : s₁.heap = h0 := by rw [← hh, Bd.state]; rfl
  have N0 := Fr.nil n0
  show Goes p e below (Fin_ s (Qrm8 Z a x_ bp h0 n0) ({ frames := 1, cells := 0, slots := 0, locals := 13 } : Room).cells ({ frames := 1, cells := 0, slots := 0, locals := 13 } : Room).slots) (s₁.setTop (entryFrame m #[(.ref a)] 1))
  rw [ef_rm8 m a]
  refine gALN X0 hx hby d8_0 rfl rfl ?_
  obtain ⟨T1, X1, e1, st1⟩ := getF X0 hx hZ hown (host := "") (Or.inl (own_w hw 19 rfl)) Via.refl e0 F0_a_base (g := (mkF m 1 #[vr a] [(.ref a)])) rfl rfl (hb hby d8_1)
  refine Goes.via st1 ?_
  show Goes p e below _ (T1.setTop (mkF m 4 #[vr a] [(.int x_)]))
  obtain ⟨_, _, ⟨T2, L2, k2, n2⟩, -, X2, ⟨Lc2, hQ2, l2, y2, z2⟩, st2⟩ := Jvm.LawKit.callS X1 hx (y := mN_Integer_numberOfTrailingZeros) hown (mvT hZ (own_w hw 14 rfl)) (mvT hZ (own_w hw 15 rfl)) (mvT hZ (own_w hw 16 rfl)) (mvT hZ (own_w hw 17 rfl)) (by decide) (backOf (W := 0) (rmNtz l Z a0 hw [] x_ bp h0 n0 (Nat.le_trans Z0 (Nat.le_refl _)) HB) hZ (own_w hw 17 rfl) (own_w hw 16 rfl) (by decide) (by decide)) (g := (mkF m 4 #[vr a] [(.int x_)])) rfl (by rw [hml]; rfl) (argsL := [(.int x_)]) (rest := []) (lenOf pd_1 rfl) rfl (by show 2 * 0 + _ ≤ _; exact Nat.le_of_eq rfl) (hb hby d8_4) (fun _ _ => ⟨rfl, e1, (by decide : 0 + 0 ≤ _), (by decide : 0 + 0 ≤ _)⟩)
  dsimp only [Pt.U, Pt.locs, Pt.cells, Pt.slots] at X2 l2 y2 z2 st2 hQ2
  replace l2 := l2.symm
  subst l2 y2 z2
  obtain ⟨rfl, rfl, e2⟩ := hQ2
  first | rw [List.append_nil] at X2 | skip
  refine Goes.via st2 ?_
  have e2' : T2.heap = h0 := e2
  show Goes p e below _ (T2.setTop (mkF m 7 #[vr a] [(.int bp)]))
  exact own_finI X2 hx hlk hret (hb hby d8_7) (by rw [e2']; exact ⟨rfl, rfl, rfl⟩) (by first | decide | omega | (dsimp only; omega)) (by first | decide | omega | (dsimp only; omega))
theorem ef_rm7 (m : MethodId) (a : Addr) : entryFrame m #[(.ref a)] 1 = mkF m 0 #[.val (.ref a)] [] := by first | (simp [entryFrame, mkF, argsToLocals, Value.category]; done) | rfl
def Qrm7 (Z : State) (a : Addr) (x_ : Int32) (dg : Int32) (bp : Int32) (h0 : Heap) (n0 : Nat) (v_ : Option Value) (h_ : Heap) (L_ : List Loc) : Prop := v_ = some (.int (dg * bp)) ∧ L_ = [] ∧ h_ = h0
theorem d7_0 : decode prog_77_method_3_code 0 = .ok (.aload_n 0, 1) := by decide +kernel
theorem d7_1 : decode prog_77_method_3_code 1 = .ok (.getfield 44, 3) := by decide +kernel
theorem d7_4 : decode prog_77_method_3_code 4 = .ok (.aload_n 0, 1) := by decide +kernel
theorem pd_2 : parseMethodDescriptor "()I" = some ⟨[], some .int⟩ := by decide +kernel
theorem d7_5 : decode prog_77_method_3_code 5 = .ok (.invokevirtual 47, 3) := by decide +kernel
abbrev mN_IdSpace_bitsPerDigit : MethodName := ⟨"nearhop/model/IdSpace", "bitsPerDigit", "()I"⟩
theorem d7_8 : decode prog_77_method_3_code 8 = .ok (.imul, 1) := by decide +kernel
theorem d7_9 : decode prog_77_method_3_code 9 = .ok (.ireturn, 1) := by decide +kernel
set_option maxRecDepth 65536 in
set_option maxHeartbeats 40000000 in
theorem rm7 (l : Launch) (Z : State) (a0 : Array Value) (hw : ∀ d ∈ tables_1, d.before a0 Z = true) (ws : List Jvm.Cond) (a : Addr) (x_ : Int32) (dg : Int32) (bp : Int32) (h0 : Heap) (n0 : Nat) (Z0 : n0 ≤ h0.size) (E0_a : Exa Z h0 a "nearhop/model/IdSpace") (F1_a_base : Fld Z h0 a "nearhop/model/IdSpace" "base" "I" (.int x_)) (F2_a_digits : Fld Z h0 a "nearhop/model/IdSpace" "digits" "I" (.int dg)) (HB : own_bb x_ bp) :
    MetFree l (⟨"nearhop/model/IdSpace", "bits", "()I"⟩ : MethodName) (head1 (Jvm.Cond.code (⟨"nearhop/model/IdSpace", "bits", "()I"⟩ : MethodName) prog_77_method_3_code 1 (some .int) :: ws) ({ frames := 2, cells := 0, slots := 0, locals := 26 } : Room)) (fun as_ U_ => as_ = #[(.ref a)] ∧ Z.Warmed39 U_.vm ∧ U_.heap = h0) (fun _ _ _ _ _ => True) (fun _ U_ o_ V_ => ∃ v_ L_, o_ = .returned v_ ∧ Qrm7 Z a x_ dg bp h0 n0 v_ V_.heap L_ ∧ FrameEnd U_ o_ V_ L_ ({ frames := 2, cells := 0, slots := 0, locals := 26 } : Room).cells ({ frames := 2, cells := 0, slots := 0, locals := 26 } : Room).slots) := by
  refine MetFree.of_bodySF (plainFor_of_name pn_nearhop_model_IdSpace) hisR ?_
  intro p e s m args below meth c s₁ Bd hml0 hP hK
  obtain ⟨rfl, hZ, hh⟩ := hP
  have hx := Bd.exec
  have hby := Bd.bytes
  have hlk : meth.locks = false := BodyLoose.notSynchronized Bd
  have hret := Bd.returns
  have hml : c.maxLocals = 1 := hml0
  have hown : s.vm.findClass "nearhop/model/IdSpace" = some m.cls := findClass_of_methodNamed Bd.named
  have hnm := (name_of_methodNamed Bd.named Bd.method).1
  have X0 : Stand p l e ({ frames := 2, cells := 0, slots := 0, locals := 26 } : Room) s m #[(.ref a)] below meth c s₁ [] 0 0 := Stand.of_body Bd
  have e0 : s₁.heap = h0 := by rw [← hh, Bd.state]; rfl
  have N0 := Fr.nil n0
  show Goes p e below (Fin_ s (Qrm7 Z a x_ dg bp h0 n0) ({ frames := 2, cells := 0, slots := 0, locals := 26 } : Room).cells ({ frames := 2, cells := 0, slots := 0, locals := 26 } : Room).slots) (s₁.setTop (entryFrame m #[(.ref a)] 1))
  rw [ef_rm7 m a]
  refine gALN X0 hx hby d7_0 rfl rfl ?_
  obtain ⟨T1, X1, e1, st1⟩ := getF X0 hx hZ hown (host := "") (Or.inl (own_w hw 21 rfl)) Via.refl e0 F2_a_digits (g := (mkF m 1 #[vr a] [(.ref a)])) rfl rfl (hb hby d7_1)
  refine Goes.via st1 ?_
  show Goes p e below _ (T1.setTop (mkF m 4 #[vr a] [(.int dg)]))
  refine gALN X1 hx hby d7_4 rfl rfl ?_
  obtain ⟨cq2, kq2, q2a, q2b, q2c⟩ := isOf hZ e1 E0_a
  obtain ⟨_, _, ⟨T2, L2, k2, n2⟩, -, X2, ⟨Lc2, hQ2, l2, y2, z2⟩, st2⟩ := X1.virtualBack hx (y := mN_IdSpace_bitsPerDigit) (z := mN_IdSpace_bitsPerDigit) hown (mvT hZ (own_w hw 40 rfl)) (mvT hZ (own_w hw 41 rfl)) (notFace_of_selects (args := #[]) (mvT hZ (own_w hw 43 rfl))) (mvT hZ (own_w hw 43 rfl)) (mvT hZ (own_w hw 42 rfl)) (by decide) (backOf (W := 1) (rm8 l Z a0 hw [] a x_ bp h0 n0 (Nat.le_trans Z0 (Nat.le_refl _)) F1_a_base HB) hZ (own_w hw 44 rfl) (own_w hw 2 rfl) (by decide) (by decide)) q2a q2c (g := (mkF m 5 #[vr a] [(.ref a), (.int dg)])) rfl (by rw [hml]; rfl) (Steps.refl _) (argsL := []) (rest := [(.int dg)]) (lenOf pd_2 rfl) rfl (by show 2 * 0 + _ ≤ _; exact Nat.le_of_eq rfl) (hb hby d7_5) (fun _ _ => ⟨rfl, e1, (by decide : 0 + 0 ≤ _), (by decide : 0 + 0 ≤ _)⟩)
  dsimp only [Pt.U, Pt.locs, Pt.cells, Pt.slots] at X2 l2 y2 z2 st2 hQ2
  replace l2 := l2.symm
  subst l2 y2 z2
  obtain ⟨rfl, rfl, e2⟩ := hQ2
  first | rw [List.append_nil] at X2 | skip
  refine Goes.tr st2 ?_
  have e2' : T2.heap = h0 := e2
  show Goes p e below _ (T2.setTop (mkF m 8 #[vr a] [(.int bp), (.int dg)]))
  refine Goes.via (fun _ kk_ => XS.imul X2.here hx rfl (hb hby d7_8) rfl kk_) ?_
  show Goes p e below _ (T2.setTop (mkF m 9 #[vr a] [(.int (dg * bp))]))
  exact own_finI X2 hx hlk hret (hb hby d7_9) (by rw [e2']; exact ⟨rfl, rfl, rfl⟩) (by first | decide | omega | (dsimp only; omega)) (by first | decide | omega | (dsimp only; omega))
theorem ef_rm12 (m : MethodId) (a : Addr) : entryFrame m #[(.ref a)] 1 = mkF m 0 #[.val (.ref a)] [] := by first | (simp [entryFrame, mkF, argsToLocals, Value.category]; done) | rfl
def Qrm12 (Z : State) (a : Addr) (dg : Int32) (h0 : Heap) (n0 : Nat) (v_ : Option Value) (h_ : Heap) (L_ : List Loc) : Prop := v_ = some (.int dg) ∧ L_ = [] ∧ h_ = h0
theorem d12_0 : decode prog_77_method_12_code 0 = .ok (.aload_n 0, 1) := by decide +kernel
theorem d12_1 : decode prog_77_method_12_code 1 = .ok (.getfield 44, 3) := by decide +kernel
theorem d12_4 : decode prog_77_method_12_code 4 = .ok (.ireturn, 1) := by decide +kernel
set_option maxRecDepth 65536 in
set_option maxHeartbeats 40000000 in
theorem rm12 (l : Launch) (Z : State) (a0 : Array Value) (hw : ∀ d ∈ tables_1, d.before a0 Z = true) (ws : List Jvm.Cond) (a : Addr) (dg : Int32) (h0 : Heap) (n0 : Nat) (Z0 : n0 ≤ h0.size) (F0_a_digits : Fld Z h0 a "nearhop/model/IdSpace" "digits" "I" (.int dg)) :
    MetFree l (⟨"nearhop/model/IdSpace", "digits", "()I"⟩ : MethodName) (head1 (Jvm.Cond.code (⟨"nearhop/model/IdSpace", "digits", "()I"⟩ : MethodName) prog_77_method_12_code 1 (some .int) :: ws) ({ frames := 0, cells := 0, slots := 0, locals := 0 } : Room)) (fun as_ U_ => as_ = #[(.ref a)] ∧ Z.Warmed39 U_.vm ∧ U_.heap = h0) (fun _ _ _ _ _ => True) (fun _ U_ o_ V_ => ∃ v_ L_, o_ = .returned v_ ∧ Qrm12 Z a dg h0 n0 v_ V_.heap L_ ∧ FrameEnd U_ o_ V_ L_ ({ frames := 0, cells := 0, slots := 0, locals := 0 } : Room).cells ({ frames := 0, cells := 0, slots := 0, locals := 0 } : Room).slots) := by
  refine MetFree.of_bodySF (plainFor_of_name pn_nearhop_model_IdSpace) hisR ?_
  intro p e s m args below meth c s₁ Bd hml0 hP hK
  obtain ⟨rfl, hZ, hh⟩ := hP
  have hx := Bd.exec
  have hby := Bd.bytes
  have hlk : meth.locks = false := BodyLoose.notSynchronized Bd
  have hret := Bd.returns
  have hml : c.maxLocals = 1 := hml0
  have hown : s.vm.findClass "nearhop/model/IdSpace" = some m.cls := findClass_of_methodNamed Bd.named
  have hnm := (name_of_methodNamed Bd.named Bd.method).1
  have X0 : Stand p l e ({ frames := 0, cells := 0, slots := 0, locals := 0 } : Room) s m #[(.ref a)] below meth c s₁ [] 0 0 := Stand.of_body Bd
  have e0 : s₁.heap = h0 := by rw [← hh, Bd.state]; rfl
  have N0 := Fr.nil n0
  show Goes p e below (Fin_ s (Qrm12 Z a dg h0 n0) ({ frames := 0, cells := 0, slots := 0, locals := 0 } : Room).cells ({ frames := 0, cells := 0, slots := 0, locals := 0 } : Room).slots) (s₁.setTop (entryFrame m #[(.ref a)] 1))
  rw [ef_rm12 m a]
  refine gALN X0 hx hby d12_0 rfl rfl ?_
  obtain ⟨T1, X1, e1, st1⟩ := getF X0 hx hZ hown (host := "") (Or.inl (own_w hw 21 rfl)) Via.refl e0 F0_a_digits (g := (mkF m 1 #[vr a] [(.ref a)])) rfl rfl (hb hby d12_1)
  refine Goes.via st1 ?_
  show Goes p e below _ (T1.setTop (mkF m 4 #[vr a] [(.int dg)]))
  exact own_finI X1 hx hlk hret (hb hby d12_4) (by rw [e1]; exact ⟨rfl, rfl, rfl⟩) (by first | decide | omega | (dsimp only; omega)) (by first | decide | omega | (dsimp only; omega))
theorem ef_rm18 (m : MethodId) (a : Addr) : entryFrame m #[(.ref a)] 1 = mkF m 0 #[.val (.ref a)] [] := by first | (simp [entryFrame, mkF, argsToLocals, Value.category]; done) | rfl
def Qrm18 (Z : State) (a : Addr) (x_ : Int32) (h0 : Heap) (n0 : Nat) (v_ : Option Value) (h_ : Heap) (L_ : List Loc) : Prop := v_ = some (.int x_) ∧ L_ = [] ∧ h_ = h0
theorem d18_0 : decode prog_77_method_11_code 0 = .ok (.aload_n 0, 1) := by decide +kernel
theorem d18_1 : decode prog_77_method_11_code 1 = .ok (.getfield 40, 3) := by decide +kernel
theorem d18_4 : decode prog_77_method_11_code 4 = .ok (.ireturn, 1) := by decide +kernel
set_option maxRecDepth 65536 in
set_option maxHeartbeats 40000000 in
theorem rm18 (l : Launch) (Z : State) (a0 : Array Value) (hw : ∀ d ∈ tables_1, d.before a0 Z = true) (ws : List Jvm.Cond) (a : Addr) (x_ : Int32) (h0 : Heap) (n0 : Nat) (Z0 : n0 ≤ h0.size) (F0_a_base : Fld Z h0 a "nearhop/model/IdSpace" "base" "I" (.int x_)) :
    MetFree l (⟨"nearhop/model/IdSpace", "base", "()I"⟩ : MethodName) (head1 (Jvm.Cond.code (⟨"nearhop/model/IdSpace", "base", "()I"⟩ : MethodName) prog_77_method_11_code 1 (some .int) :: ws) ({ frames := 0, cells := 0, slots := 0, locals := 0 } : Room)) (fun as_ U_ => as_ = #[(.ref a)] ∧ Z.Warmed39 U_.vm ∧ U_.heap = h0) (fun _ _ _ _ _ => True) (fun _ U_ o_ V_ => ∃ v_ L_, o_ = .returned v_ ∧ Qrm18 Z a x_ h0 n0 v_ V_.heap L_ ∧ FrameEnd U_ o_ V_ L_ ({ frames := 0, cells := 0, slots := 0, locals := 0 } : Room).cells ({ frames := 0, cells := 0, slots := 0, locals := 0 } : Room).slots) := by
  refine MetFree.of_bodySF (plainFor_of_name pn_nearhop_model_IdSpace) hisR ?_
  intro p e s m args below meth c s₁ Bd hml0 hP hK
  obtain ⟨rfl, hZ, hh⟩ := hP
  have hx := Bd.exec
  have hby := Bd.bytes
  have hlk : meth.locks = false := BodyLoose.notSynchronized Bd
  have hret := Bd.returns
  have hml : c.maxLocals = 1 := hml0
  have hown : s.vm.findClass "nearhop/model/IdSpace" = some m.cls := findClass_of_methodNamed Bd.named
  have hnm := (name_of_methodNamed Bd.named Bd.method).1
  have X0 : Stand p l e ({ frames := 0, cells := 0, slots := 0, locals := 0 } : Room) s m #[(.ref a)] below meth c s₁ [] 0 0 := Stand.of_body Bd
  have e0 : s₁.heap = h0 := by rw [← hh, Bd.state]; rfl
  have N0 := Fr.nil n0
  show Goes p e below (Fin_ s (Qrm18 Z a x_ h0 n0) ({ frames := 0, cells := 0, slots := 0, locals := 0 } : Room).cells ({ frames := 0, cells := 0, slots := 0, locals := 0 } : Room).slots) (s₁.setTop (entryFrame m #[(.ref a)] 1))
  rw [ef_rm18 m a]
  refine gALN X0 hx hby d18_0 rfl rfl ?_
  obtain ⟨T1, X1, e1, st1⟩ := getF X0 hx hZ hown (host := "") (Or.inl (own_w hw 19 rfl)) Via.refl e0 F0_a_base (g := (mkF m 1 #[vr a] [(.ref a)])) rfl rfl (hb hby d18_1)
  refine Goes.via st1 ?_
  show Goes p e below _ (T1.setTop (mkF m 4 #[vr a] [(.int x_)]))
  exact own_finI X1 hx hlk hret (hb hby d18_4) (by rw [e1]; exact ⟨rfl, rfl, rfl⟩) (by first | decide | omega | (dsimp only; omega)) (by first | decide | omega | (dsimp only; omega))
theorem ef_rm6 (m : MethodId) (sp : Addr) (y_ : Int64) : entryFrame m #[(.ref sp), (.long y_)] 6 = mkF m 0 #[.val (.ref sp), .val (.long y_), .second, .unset, .unset, .unset] [] := by first | (simp [entryFrame, mkF, argsToLocals, Value.category]; done) | rfl
def Qrm6 (Z : State) (sp : Addr) (y_ : Int64) (x_ : Int32) (dg : Int32) (bp : Int32) (h0 : Heap) (n0 : Nat) (v_ : Option Value) (h_ : Heap) (L_ : List Loc) : Prop := v_ = some (.long (0 : Int64)) ∧ L_ = [] ∧ h_ = h0
theorem pn_nearhop_model_Id : plainName "nearhop/model/Id" = true := by first | (simp [plainName, overriddenIn]; done) | decide +kernel
theorem d6_0 : decode prog_76_method_2_code 0 = .ok (.aload_n 0, 1) := by decide +kernel
theorem d6_1 : decode prog_76_method_2_code 1 = .ok (.invokevirtual 27, 3) := by decide +kernel
abbrev mN_IdSpace_bits : MethodName := ⟨"nearhop/model/IdSpace", "bits", "()I"⟩
theorem d6_4 : decode prog_76_method_2_code 4 = .ok (.istore_n 3, 1) := by decide +kernel
theorem d6_5 : decode prog_76_method_2_code 5 = .ok (.iload_n 3, 1) := by decide +kernel
theorem d6_6 : decode prog_76_method_2_code 6 = .ok (.bipush 64, 2) := by decide +kernel
theorem d6_8 : decode prog_76_method_2_code 8 = .ok (.if_icmp .gt 9, 3) := by decide +kernel
theorem d6_11 : decode prog_76_method_2_code 11 = .ok (.lconst 0, 1) := by decide +kernel
theorem d6_12 : decode prog_76_method_2_code 12 = .ok (.lstore 4, 2) := by decide +kernel
theorem d6_14 : decode prog_76_method_2_code 14 = .ok (.goto 28, 3) := by decide +kernel
theorem d6_42 : decode prog_76_method_2_code 42 = .ok (.lload 4, 2) := by decide +kernel
theorem d6_44 : decode prog_76_method_2_code 44 = .ok (.lreturn, 1) := by decide +kernel
set_option maxRecDepth 65536 in
set_option maxHeartbeats 40000000 in
theorem rm6 (l : Launch) (Z : State) (a0 : Array Value) (hw : ∀ d ∈ tables_1, d.before a0 Z = true) (ws : List Jvm.Cond) (sp : Addr) (y_ : Int64) (x_ : Int32) (dg : Int32) (bp : Int32) (h0 : Heap) (n0 : Nat) (Z0 : n0 ≤ h0.size) (E0_sp : Exa Z h0 sp "nearhop/model/IdSpace") (F1_sp_base : Fld Z h0 sp "nearhop/model/IdSpace" "base" "I" (.int x_)) (F2_sp_digits : Fld Z h0 sp "nearhop/model/IdSpace" "digits" "I" (.int dg)) (HB : own_bb x_ bp) (HD1 : 1 ≤ dg.toInt) (HD8 : dg.toInt ≤ 8) :
    MetFree l (⟨"nearhop/model/Id", "cutHigh", "(Lnearhop/model/IdSpace;J)J"⟩ : MethodName) (head1 (Jvm.Cond.code (⟨"nearhop/model/Id", "cutHigh", "(Lnearhop/model/IdSpace;J)J"⟩ : MethodName) prog_76_method_2_code 6 (some .long) :: ws) ({ frames := 3, cells := 0, slots := 0, locals := 38 } : Room)) (fun as_ U_ => as_ = #[(.ref sp), (.long y_)] ∧ Z.Warmed39 U_.vm ∧ U_.heap = h0) (fun _ _ _ _ _ => True) (fun _ U_ o_ V_ => ∃ v_ L_, o_ = .returned v_ ∧ Qrm6 Z sp y_ x_ dg bp h0 n0 v_ V_.heap L_ ∧ FrameEnd U_ o_ V_ L_ ({ frames := 3, cells := 0, slots := 0, locals := 38 } : Room).cells ({ frames := 3, cells := 0, slots := 0, locals := 38 } : Room).slots) := by
  refine MetFree.of_bodySF (plainFor_of_name pn_nearhop_model_Id) hisR ?_
  intro p e s m args below meth c s₁ Bd hml0 hP hK
  obtain ⟨rfl, hZ, hh⟩ := hP
  have hx := Bd.exec
  have hby := Bd.bytes
  have hlk : meth.locks = false := BodyLoose.notSynchronized Bd
  have hret := Bd.returns
  have hml : c.maxLocals = 6 := hml0
  have hown : s.vm.findClass "nearhop/model/Id" = some m.cls := findClass_of_methodNamed Bd.named
  have hnm := (name_of_methodNamed Bd.named Bd.method).1
  have X0 : Stand p l e ({ frames := 3, cells := 0, slots := 0, locals := 38 } : Room) s m #[(.ref sp), (.long y_)] below meth c s₁ [] 0 0 := Stand.of_body Bd
  have e0 : s₁.heap = h0 := by rw [← hh, Bd.state]; rfl
  have N0 := Fr.nil n0
  show Goes p e below (Fin_ s (Qrm6 Z sp y_ x_ dg bp h0 n0) ({ frames := 3, cells := 0, slots := 0, locals := 38 } : Room).cells ({ frames := 3, cells := 0, slots := 0, locals := 38 } : Room).slots) (s₁.setTop (entryFrame m #[(.ref sp), (.long y_)] 6))
  rw [ef_rm6 m sp y_]
  refine gALN X0 hx hby d6_0 rfl rfl ?_
  obtain ⟨cq1, kq1, q1a, q1b, q1c⟩ := isOf hZ e0 E0_sp
  obtain ⟨_, _, ⟨T1, L1, k1, n1⟩, -, X1, ⟨Lc1, hQ1, l1, y1, z1⟩, st1⟩ := X0.virtualBack hx (y := mN_IdSpace_bits) (z := mN_IdSpace_bits) hown (mvT hZ (own_w hw 35 rfl)) (mvT hZ (own_w hw 36 rfl)) (notFace_of_selects (args := #[]) (mvT hZ (own_w hw 38 rfl))) (mvT hZ (own_w hw 38 rfl)) (mvT hZ (own_w hw 37 rfl)) (by decide) (backOf (W := 0) (rm7 l Z a0 hw [] sp x_ dg bp h0 n0 (Nat.le_trans Z0 (Nat.le_refl _)) E0_sp F1_sp_base F2_sp_digits HB) hZ (own_w hw 39 rfl) (own_w hw 2 rfl) (by decide) (by decide)) q1a q1c (g := (mkF m 1 #[vr sp, .val (.long y_), .second, .unset, .unset, .unset] [(.ref sp)])) rfl (by rw [hml]; rfl) (Steps.refl _) (argsL := []) (rest := []) (lenOf pd_2 rfl) rfl (by show 2 * 0 + _ ≤ _; exact Nat.le_of_eq rfl) (hb hby d6_1) (fun _ _ => ⟨rfl, e0, (by decide : 0 + 0 ≤ _), (by decide : 0 + 0 ≤ _)⟩)
  dsimp only [Pt.U, Pt.locs, Pt.cells, Pt.slots] at X1 l1 y1 z1 st1 hQ1
  replace l1 := l1.symm
  subst l1 y1 z1
  obtain ⟨rfl, rfl, e1⟩ := hQ1
  first | rw [List.append_nil] at X1 | skip
  refine Goes.tr st1 ?_
  have e1' : T1.heap = h0 := e1
  show Goes p e below _ (T1.setTop (mkF m 4 #[vr sp, .val (.long y_), .second, .unset, .unset, .unset] [(.int (dg * bp))]))
  refine Goes.via (fun _ kk_ => XS.istoreN X1.here hx rfl (hb hby d6_4) rfl (l' := #[vr sp, .val (.long y_), .second, vi (dg * bp), .unset, .unset]) rfl kk_) ?_
  show Goes p e below _ (T1.setTop (mkF m 5 #[vr sp, .val (.long y_), .second, vi (dg * bp), .unset, .unset] []))
  refine gILN X1 hx hby d6_5 rfl ?_
  refine gBI (z := 64) X1 hx hby d6_6 rfl ?_
  have hc8_2 : ¬ ((64 : Int32) < (dg * bp)) := (own_n64 HB HD1 HD8).1
  refine Goes.via (fun _ kk_ => XS.icmpNo X1.here hx rfl (hb hby d6_8) rfl (flt hc8_2).2.2.1 kk_) ?_
  show Goes p e below _ (T1.setTop (mkF m 11 #[vr sp, .val (.long y_), .second, vi (dg * bp), .unset, .unset] []))
  refine Goes.via (fun _ kk_ => XS.lconst X1.here hx rfl (hb hby d6_11) kk_) ?_
  show Goes p e below _ (T1.setTop (mkF m 12 #[vr sp, .val (.long y_), .second, vi (dg * bp), .unset, .unset] [(.long (0 : Int64))]))
  refine Goes.via (fun _ kk_ => XS.lstore X1.here hx rfl (hb hby d6_12) rfl (l' := #[vr sp, .val (.long y_), .second, vi (dg * bp), .val (.long (0 : Int64)), .second]) rfl kk_) ?_
  show Goes p e below _ (T1.setTop (mkF m 14 #[vr sp, .val (.long y_), .second, vi (dg * bp), .val (.long (0 : Int64)), .second] []))
  refine Goes.via (fun _ kk_ => XS.goto X1.here hx rfl (pc0 := 14) (pc' := 42) rfl (hb hby d6_14) (by decide) (by decide) kk_) ?_
  show Goes p e below _ (T1.setTop (mkF m 42 #[vr sp, .val (.long y_), .second, vi (dg * bp), .val (.long (0 : Int64)), .second] []))
  refine Goes.via (fun _ kk_ => XS.lload X1.here hx rfl (hb hby d6_42) rfl  kk_) ?_
  show Goes p e below _ (T1.setTop (mkF m 44 #[vr sp, .val (.long y_), .second, vi (dg * bp), .val (.long (0 : Int64)), .second] [(.long (0 : Int64))]))
  exact own_finJ X1 hx hlk hret (hb hby d6_44) (by rw [e1']; exact ⟨rfl, rfl, rfl⟩) (by first | decide | omega | (dsimp only; omega)) (by first | decide | omega | (dsimp only; omega))
theorem ef_rm9 (m : MethodId) (sp : Addr) (y_ : Int64) : entryFrame m #[(.ref sp), (.long y_)] 4 = mkF m 0 #[.val (.ref sp), .val (.long y_), .second, .unset] [] := by first | (simp [entryFrame, mkF, argsToLocals, Value.category]; done) | rfl
def Qrm9 (Z : State) (sp : Addr) (y_ : Int64) (x_ : Int32) (dg : Int32) (bp : Int32) (h0 : Heap) (n0 : Nat) (v_ : Option Value) (h_ : Heap) (L_ : List Loc) : Prop := v_ = some (.long y_) ∧ L_ = [] ∧ h_ = h0
theorem d9_0 : decode prog_76_method_3_code 0 = .ok (.aload_n 0, 1) := by decide +kernel
theorem d9_1 : decode prog_76_method_3_code 1 = .ok (.invokevirtual 27, 3) := by decide +kernel
theorem d9_4 : decode prog_76_method_3_code 4 = .ok (.istore_n 3, 1) := by decide +kernel
theorem d9_5 : decode prog_76_method_3_code 5 = .ok (.iload_n 3, 1) := by decide +kernel
theorem d9_6 : decode prog_76_method_3_code 6 = .ok (.bipush 64, 2) := by decide +kernel
theorem d9_8 : decode prog_76_method_3_code 8 = .ok (.if_icmp .lt 7, 3) := by decide +kernel
theorem d9_15 : decode prog_76_method_3_code 15 = .ok (.lload_n 1, 1) := by decide +kernel
theorem d9_16 : decode prog_76_method_3_code 16 = .ok (.lconst 1, 1) := by decide +kernel
theorem d9_17 : decode prog_76_method_3_code 17 = .ok (.iload_n 3, 1) := by decide +kernel
theorem d9_18 : decode prog_76_method_3_code 18 = .ok (.lshl, 1) := by decide +kernel
theorem d9_19 : decode prog_76_method_3_code 19 = .ok (.lconst 1, 1) := by decide +kernel
theorem d9_20 : decode prog_76_method_3_code 20 = .ok (.lsub, 1) := by decide +kernel
theorem d9_21 : decode prog_76_method_3_code 21 = .ok (.land, 1) := by decide +kernel
theorem d9_22 : decode prog_76_method_3_code 22 = .ok (.lreturn, 1) := by decide +kernel
set_option maxRecDepth 65536 in
set_option maxHeartbeats 40000000 in
theorem rm9 (l : Launch) (Z : State) (a0 : Array Value) (hw : ∀ d ∈ tables_1, d.before a0 Z = true) (ws : List Jvm.Cond) (sp : Addr) (y_ : Int64) (x_ : Int32) (dg : Int32) (bp : Int32) (h0 : Heap) (n0 : Nat) (Z0 : n0 ≤ h0.size) (E0_sp : Exa Z h0 sp "nearhop/model/IdSpace") (F1_sp_base : Fld Z h0 sp "nearhop/model/IdSpace" "base" "I" (.int x_)) (F2_sp_digits : Fld Z h0 sp "nearhop/model/IdSpace" "digits" "I" (.int dg)) (HB : own_bb x_ bp) (HD1 : 1 ≤ dg.toInt) (HD8 : dg.toInt ≤ 8) (HCut : (y_ &&& (((1 : Int64) <<< ((dg * bp) &&& 0x3f).toInt64) - (1 : Int64))) = y_) :
    MetFree l (⟨"nearhop/model/Id", "cutLow", "(Lnearhop/model/IdSpace;J)J"⟩ : MethodName) (head1 (Jvm.Cond.code (⟨"nearhop/model/Id", "cutLow", "(Lnearhop/model/IdSpace;J)J"⟩ : MethodName) prog_76_method_3_code 4 (some .long) :: ws) ({ frames := 3, cells := 0, slots := 0, locals := 38 } : Room)) (fun as_ U_ => as_ = #[(.ref sp), (.long y_)] ∧ Z.Warmed39 U_.vm ∧ U_.heap = h0) (fun _ _ _ _ _ => True) (fun _ U_ o_ V_ => ∃ v_ L_, o_ = .returned v_ ∧ Qrm9 Z sp y_ x_ dg bp h0 n0 v_ V_.heap L_ ∧ FrameEnd U_ o_ V_ L_ ({ frames := 3, cells := 0, slots := 0, locals := 38 } : Room).cells ({ frames := 3, cells := 0, slots := 0, locals := 38 } : Room).slots) := by
  refine MetFree.of_bodySF (plainFor_of_name pn_nearhop_model_Id) hisR ?_
  intro p e s m args below meth c s₁ Bd hml0 hP hK
  obtain ⟨rfl, hZ, hh⟩ := hP
  have hx := Bd.exec
  have hby := Bd.bytes
  have hlk : meth.locks = false := BodyLoose.notSynchronized Bd
  have hret := Bd.returns
  have hml : c.maxLocals = 4 := hml0
  have hown : s.vm.findClass "nearhop/model/Id" = some m.cls := findClass_of_methodNamed Bd.named
  have hnm := (name_of_methodNamed Bd.named Bd.method).1
  have X0 : Stand p l e ({ frames := 3, cells := 0, slots := 0, locals := 38 } : Room) s m #[(.ref sp), (.long y_)] below meth c s₁ [] 0 0 := Stand.of_body Bd
  have e0 : s₁.heap = h0 := by rw [← hh, Bd.state]; rfl
  have N0 := Fr.nil n0
  show Goes p e below (Fin_ s (Qrm9 Z sp y_ x_ dg bp h0 n0) ({ frames := 3, cells := 0, slots := 0, locals := 38 } : Room).cells ({ frames := 3, cells := 0, slots := 0, locals := 38 } : Room).slots) (s₁.setTop (entryFrame m #[(.ref sp), (.long y_)] 4))
  rw [ef_rm9 m sp y_]
  refine gALN X0 hx hby d9_0 rfl rfl ?_
  obtain ⟨cq1, kq1, q1a, q1b, q1c⟩ := isOf hZ e0 E0_sp
  obtain ⟨_, _, ⟨T1, L1, k1, n1⟩, -, X1, ⟨Lc1, hQ1, l1, y1, z1⟩, st1⟩ := X0.virtualBack hx (y := mN_IdSpace_bits) (z := mN_IdSpace_bits) hown (mvT hZ (own_w hw 35 rfl)) (mvT hZ (own_w hw 36 rfl)) (notFace_of_selects (args := #[]) (mvT hZ (own_w hw 38 rfl))) (mvT hZ (own_w hw 38 rfl)) (mvT hZ (own_w hw 37 rfl)) (by decide) (backOf (W := 0) (rm7 l Z a0 hw [] sp x_ dg bp h0 n0 (Nat.le_trans Z0 (Nat.le_refl _)) E0_sp F1_sp_base F2_sp_digits HB) hZ (own_w hw 39 rfl) (own_w hw 2 rfl) (by decide) (by decide)) q1a q1c (g := (mkF m 1 #[vr sp, .val (.long y_), .second, .unset] [(.ref sp)])) rfl (by rw [hml]; rfl) (Steps.refl _) (argsL := []) (rest := []) (lenOf pd_2 rfl) rfl (by show 2 * 0 + _ ≤ _; exact Nat.le_of_eq rfl) (hb hby d9_1) (fun _ _ => ⟨rfl, e0, (by decide : 0 + 0 ≤ _), (by decide : 0 + 0 ≤ _)⟩)
  dsimp only [Pt.U, Pt.locs, Pt.cells, Pt.slots] at X1 l1 y1 z1 st1 hQ1
  replace l1 := l1.symm
  subst l1 y1 z1
  obtain ⟨rfl, rfl, e1⟩ := hQ1
  first | rw [List.append_nil] at X1 | skip
  refine Goes.tr st1 ?_
  have e1' : T1.heap = h0 := e1
  show Goes p e below _ (T1.setTop (mkF m 4 #[vr sp, .val (.long y_), .second, .unset] [(.int (dg * bp))]))
  refine Goes.via (fun _ kk_ => XS.istoreN X1.here hx rfl (hb hby d9_4) rfl (l' := #[vr sp, .val (.long y_), .second, vi (dg * bp)]) rfl kk_) ?_
  show Goes p e below _ (T1.setTop (mkF m 5 #[vr sp, .val (.long y_), .second, vi (dg * bp)] []))
  refine gILN X1 hx hby d9_5 rfl ?_
  refine gBI (z := 64) X1 hx hby d9_6 rfl ?_
  have hc8_2 : (dg * bp) < (64 : Int32) := (own_n64 HB HD1 HD8).2
  refine Goes.via (fun _ kk_ => XS.icmpYes X1.here hx rfl (pc0 := 8) (pc' := 15) rfl (hb hby d9_8) rfl (tlt hc8_2).1 (by decide) (by decide) kk_) ?_
  show Goes p e below _ (T1.setTop (mkF m 15 #[vr sp, .val (.long y_), .second, vi (dg * bp)] []))
  refine Goes.via (fun _ kk_ => XS.lloadN X1.here hx rfl (hb hby d9_15) rfl  kk_) ?_
  show Goes p e below _ (T1.setTop (mkF m 16 #[vr sp, .val (.long y_), .second, vi (dg * bp)] [(.long y_)]))
  refine Goes.via (fun _ kk_ => XS.lconst X1.here hx rfl (hb hby d9_16) kk_) ?_
  show Goes p e below _ (T1.setTop (mkF m 17 #[vr sp, .val (.long y_), .second, vi (dg * bp)] [(.long (1 : Int64)), (.long y_)]))
  refine gILN X1 hx hby d9_17 rfl ?_
  refine Goes.via (fun _ kk_ => XS.lshl X1.here hx rfl (hb hby d9_18) rfl kk_) ?_
  show Goes p e below _ (T1.setTop (mkF m 19 #[vr sp, .val (.long y_), .second, vi (dg * bp)] [(.long ((1 : Int64) <<< ((dg * bp) &&& 0x3f).toInt64)), (.long y_)]))
  refine Goes.via (fun _ kk_ => XS.lconst X1.here hx rfl (hb hby d9_19) kk_) ?_
  show Goes p e below _ (T1.setTop (mkF m 20 #[vr sp, .val (.long y_), .second, vi (dg * bp)] [(.long (1 : Int64)), (.long ((1 : Int64) <<< ((dg * bp) &&& 0x3f).toInt64)), (.long y_)]))
  refine Goes.via (fun _ kk_ => XS.lsub X1.here hx rfl (hb hby d9_20) rfl kk_) ?_
  show Goes p e below _ (T1.setTop (mkF m 21 #[vr sp, .val (.long y_), .second, vi (dg * bp)] [(.long (((1 : Int64) <<< ((dg * bp) &&& 0x3f).toInt64) - (1 : Int64))), (.long y_)]))
  refine Goes.via (fun _ kk_ => XS.land X1.here hx rfl (hb hby d9_21) rfl kk_) ?_
  show Goes p e below _ (T1.setTop (mkF m 22 #[vr sp, .val (.long y_), .second, vi (dg * bp)] [(.long (y_ &&& (((1 : Int64) <<< ((dg * bp) &&& 0x3f).toInt64) - (1 : Int64))))]))
  exact own_finJ X1 hx hlk hret (hb hby d9_22) (by rw [e1']; exact ⟨(own_retL HCut), rfl, rfl⟩) (by first | decide | omega | (dsimp only; omega)) (by first | decide | omega | (dsimp only; omega))
theorem ef_rm5 (m : MethodId) (a : Addr) (sp : Addr) (y_ : Int64) : entryFrame m #[(.ref a), (.ref sp), (.long (0 : Int64)), (.long y_)] 6 = mkF m 0 #[.val (.ref a), .val (.ref sp), .val (.long (0 : Int64)), .second, .val (.long y_), .second] [] := by first | (simp [entryFrame, mkF, argsToLocals, Value.category]; done) | rfl
def Qrm5 (Z : State) (a : Addr) (sp : Addr) (y_ : Int64) (x_ : Int32) (dg : Int32) (bp : Int32) (h0 : Heap) (n0 : Nat) (v_ : Option Value) (h_ : Heap) (L_ : List Loc) : Prop := v_ = none ∧ Fr n0 L_ ∧ Keep h0 h_ [a] ∧ Exa Z h_ a "nearhop/model/Id" ∧ Fld Z h_ a "nearhop/model/Id" "space" "Lnearhop/model/IdSpace;" (.ref sp) ∧ Fld Z h_ a "nearhop/model/Id" "high" "J" (.long (0 : Int64)) ∧ Fld Z h_ a "nearhop/model/Id" "low" "J" (.long y_)
theorem d5_0 : decode prog_76_method_1_code 0 = .ok (.aload_n 0, 1) := by decide +kernel
theorem d5_1 : decode prog_76_method_1_code 1 = .ok (.invokespecial 1, 3) := by decide +kernel
theorem d5_4 : decode prog_76_method_1_code 4 = .ok (.aload_n 0, 1) := by decide +kernel
theorem d5_5 : decode prog_76_method_1_code 5 = .ok (.aload_n 1, 1) := by decide +kernel
theorem d5_6 : decode prog_76_method_1_code 6 = .ok (.putfield 7, 3) := by decide +kernel
theorem d5_9 : decode prog_76_method_1_code 9 = .ok (.aload_n 0, 1) := by decide +kernel
theorem d5_10 : decode prog_76_method_1_code 10 = .ok (.aload_n 1, 1) := by decide +kernel
theorem d5_11 : decode prog_76_method_1_code 11 = .ok (.lload_n 2, 1) := by decide +kernel
theorem pd_3 : parseMethodDescriptor "(Lnearhop/model/IdSpace;J)J" = some ⟨[(.object "nearhop/model/IdSpace"), .long], some .long⟩ := by decide +kernel
theorem d5_12 : decode prog_76_method_1_code 12 = .ok (.invokestatic 13, 3) := by decide +kernel
abbrev mN_Id_cutHigh : MethodName := ⟨"nearhop/model/Id", "cutHigh", "(Lnearhop/model/IdSpace;J)J"⟩
theorem d5_15 : decode prog_76_method_1_code 15 = .ok (.putfield 17, 3) := by decide +kernel
theorem d5_18 : decode prog_76_method_1_code 18 = .ok (.aload_n 0, 1) := by decide +kernel
theorem d5_19 : decode prog_76_method_1_code 19 = .ok (.aload_n 1, 1) := by decide +kernel
theorem d5_20 : decode prog_76_method_1_code 20 = .ok (.lload 4, 2) := by decide +kernel
theorem d5_22 : decode prog_76_method_1_code 22 = .ok (.invokestatic 21, 3) := by decide +kernel
abbrev mN_Id_cutLow : MethodName := ⟨"nearhop/model/Id", "cutLow", "(Lnearhop/model/IdSpace;J)J"⟩
theorem d5_25 : decode prog_76_method_1_code 25 = .ok (.putfield 24, 3) := by decide +kernel
theorem d5_28 : decode prog_76_method_1_code 28 = .ok (.return_, 1) := by decide +kernel
set_option maxRecDepth 65536 in
set_option maxHeartbeats 40000000 in
theorem rm5 (l : Launch) (Z : State) (a0 : Array Value) (hw : ∀ d ∈ tables_1, d.before a0 Z = true) (ws : List Jvm.Cond) (a : Addr) (sp : Addr) (y_ : Int64) (x_ : Int32) (dg : Int32) (bp : Int32) (h0 : Heap) (n0 : Nat) (Z0 : n0 ≤ h0.size) (E0_a : Exa Z h0 a "nearhop/model/Id") (F1_a_space : Fld Z h0 a "nearhop/model/Id" "space" "Lnearhop/model/IdSpace;" .null) (F2_a_high : Fld Z h0 a "nearhop/model/Id" "high" "J" (.long (0 : Int64))) (F3_a_low : Fld Z h0 a "nearhop/model/Id" "low" "J" (.long (0 : Int64))) (H4 : n0 ≤ a) (E5_sp : Exa Z h0 sp "nearhop/model/IdSpace") (F6_sp_base : Fld Z h0 sp "nearhop/model/IdSpace" "base" "I" (.int x_)) (F7_sp_digits : Fld Z h0 sp "nearhop/model/IdSpace" "digits" "I" (.int dg)) (HB : own_bb x_ bp) (HD1 : 1 ≤ dg.toInt) (HD8 : dg.toInt ≤ 8) (HCut : (y_ &&& (((1 : Int64) <<< ((dg * bp) &&& 0x3f).toInt64) - (1 : Int64))) = y_) :
    MetFree l (⟨"nearhop/model/Id", "<init>", "(Lnearhop/model/IdSpace;JJ)V"⟩ : MethodName) (head1 (Jvm.Cond.code (⟨"nearhop/model/Id", "<init>", "(Lnearhop/model/IdSpace;JJ)V"⟩ : MethodName) prog_76_method_1_code 6 none :: ws) ({ frames := 4, cells := 0, slots := 0, locals := 56 } : Room)) (fun as_ U_ => as_ = #[(.ref a), (.ref sp), (.long (0 : Int64)), (.long y_)] ∧ Z.Warmed39 U_.vm ∧ U_.heap = h0) (fun _ _ _ _ _ => True) (fun _ U_ o_ V_ => ∃ v_ L_, o_ = .returned v_ ∧ Qrm5 Z a sp y_ x_ dg bp h0 n0 v_ V_.heap L_ ∧ FrameEnd U_ o_ V_ L_ ({ frames := 4, cells := 0, slots := 0, locals := 56 } : Room).cells ({ frames := 4, cells := 0, slots := 0, locals := 56 } : Room).slots) := by
  refine MetFree.of_bodySF (plainFor_of_name pn_nearhop_model_Id) hisR ?_
  intro p e s m args below meth c s₁ Bd hml0 hP hK
  obtain ⟨rfl, hZ, hh⟩ := hP
  have hx := Bd.exec
  have hby := Bd.bytes
  have hlk : meth.locks = false := BodyLoose.notSynchronized Bd
  have hret := Bd.returns
  have hml : c.maxLocals = 6 := hml0
  have hown : s.vm.findClass "nearhop/model/Id" = some m.cls := findClass_of_methodNamed Bd.named
  have hnm := (name_of_methodNamed Bd.named Bd.method).1
  have X0 : Stand p l e ({ frames := 4, cells := 0, slots := 0, locals := 56 } : Room) s m #[(.ref a), (.ref sp), (.long (0 : Int64)), (.long y_)] below meth c s₁ [] 0 0 := Stand.of_body Bd
  have e0 : s₁.heap = h0 := by rw [← hh, Bd.state]; rfl
  have N0 := Fr.nil n0
  show Goes p e below (Fin_ s (Qrm5 Z a sp y_ x_ dg bp h0 n0) ({ frames := 4, cells := 0, slots := 0, locals := 56 } : Room).cells ({ frames := 4, cells := 0, slots := 0, locals := 56 } : Room).slots) (s₁.setTop (entryFrame m #[(.ref a), (.ref sp), (.long (0 : Int64)), (.long y_)] 6))
  rw [ef_rm5 m a sp y_]
  have ne1 : a ≠ sp := ne_exa E0_a E5_sp (by decide)
  refine gALN X0 hx hby d5_0 rfl rfl ?_
  obtain ⟨T2, X2, e2, st2⟩ := initO X0 hx hZ hown (own_w hw 29 rfl) (own_w hw 12 rfl) (own_w hw 13 rfl) e0 (g := (mkF m 1 #[vr a, vr sp, .val (.long (0 : Int64)), .second, .val (.long y_), .second] [(.ref a)])) rfl (by rw [hml]; rfl) rfl (hb hby d5_1) (by decide) (W := 0) (by show 2 * 0 + _ ≤ _; exact Nat.le_of_eq rfl) (by decide)
  refine Goes.via st2 ?_
  show Goes p e below _ (T2.setTop (mkF m 4 #[vr a, vr sp, .val (.long (0 : Int64)), .second, .val (.long y_), .second] []))
  refine gALN X2 hx hby d5_4 rfl rfl ?_
  refine gALN X2 hx hby d5_5 rfl rfl ?_
  obtain ⟨T3, h3, X3, e3, W3, st3⟩ := putF X2 hx hZ hown (host := "") (Or.inl (own_w hw 30 rfl)) Via.refl e2 F1_a_space E0_a (Or.inr ⟨(own_w hw 31 rfl), rfl, hnm⟩) (own_w hw 24 rfl) (ty := (.object "nearhop/model/IdSpace")) (by decide) rfl rfl (g := (mkF m 6 #[vr a, vr sp, .val (.long (0 : Int64)), .second, .val (.long y_), .second] [(.ref sp), (.ref a)])) rfl rfl (hb hby d5_6)
  refine Goes.via st3 ?_
  have N3 := Fr.snoc X3 N0 H4
  have Fw3 : Fld Z h3 a "nearhop/model/Id" "space" "Lnearhop/model/IdSpace;" (.ref sp) := F1_a_space.same W3
  show Goes p e below _ (T3.setTop (mkF m 9 #[vr a, vr sp, .val (.long (0 : Int64)), .second, .val (.long y_), .second] []))
  refine gALN X3 hx hby d5_9 rfl rfl ?_
  refine gALN X3 hx hby d5_10 rfl rfl ?_
  refine Goes.via (fun _ kk_ => XS.lloadN X3.here hx rfl (hb hby d5_11) rfl  kk_) ?_
  show Goes p e below _ (T3.setTop (mkF m 12 #[vr a, vr sp, .val (.long (0 : Int64)), .second, .val (.long y_), .second] [(.long (0 : Int64)), (.ref sp), (.ref a)]))
  have f4 := (E5_sp.wr W3)
  have f5 := (F6_sp_base.other W3 (Or.inl (Ne.symm ne1)))
  have f6 := (F7_sp_digits.other W3 (Or.inl (Ne.symm ne1)))
  have z8 : h0.size ≤ (h3).size := (Nat.le_trans (Nat.le_refl _) (Nat.le_of_eq W3.size.symm))
  obtain ⟨_, _, ⟨T7, L7, k7, n7⟩, -, X7, ⟨Lc7, hQ7, l7, y7, z7⟩, st7⟩ := Jvm.LawKit.callS X3 hx (y := mN_Id_cutHigh) hown (mvT hZ (own_w hw 32 rfl)) (mvT hZ (own_w hw 33 rfl)) (mvT hZ (own_w hw 25 rfl)) (mvT hZ (own_w hw 34 rfl)) (by decide) (backOf (W := 1) (rm6 l Z a0 hw [] sp (0 : Int64) x_ dg bp h3 n0 (Nat.le_trans Z0 z8) f4 f5 f6 HB HD1 HD8) hZ (own_w hw 34 rfl) (own_w hw 25 rfl) (by decide) (by decide)) (g := (mkF m 12 #[vr a, vr sp, .val (.long (0 : Int64)), .second, .val (.long y_), .second] [(.long (0 : Int64)), (.ref sp), (.ref a)])) rfl (by rw [hml]; rfl) (argsL := [(.ref sp), (.long (0 : Int64))]) (rest := [(.ref a)]) (lenOf pd_3 rfl) rfl (by show 2 * 0 + _ ≤ _; exact Nat.le_of_eq rfl) (hb hby d5_12) (fun _ _ => ⟨rfl, e3, (by decide : 0 + 0 ≤ _), (by decide : 0 + 0 ≤ _)⟩)
  dsimp only [Pt.U, Pt.locs, Pt.cells, Pt.slots] at X7 l7 y7 z7 st7 hQ7
  replace l7 := l7.symm
  subst l7 y7 z7
  obtain ⟨rfl, rfl, e7⟩ := hQ7
  first | rw [List.append_nil] at X7 | skip
  refine Goes.via st7 ?_
  have e7' : T7.heap = h3 := e7
  show Goes p e below _ (T7.setTop (mkF m 15 #[vr a, vr sp, .val (.long (0 : Int64)), .second, .val (.long y_), .second] [(.long (0 : Int64)), (.ref a)]))
  have f9 := (F2_a_high.other W3 (Or.inr (slot_ne (Or.inr (own_w hw 46 rfl)) (Or.inr (own_w hw 31 rfl)) (by decide) (t := .long) (t' := (.object "nearhop/model/IdSpace")) (by decide) (by decide))))
  have f10 := (E0_a.wr W3)
  obtain ⟨T11, h11, X11, e11, W11, st11⟩ := putF X7 hx hZ hown (host := "") (Or.inl (own_w hw 45 rfl)) Via.refl e7' f9 f10 (Or.inr ⟨(own_w hw 46 rfl), rfl, hnm⟩) (own_w hw 24 rfl) (ty := .long) (by decide) rfl rfl (g := (mkF m 15 #[vr a, vr sp, .val (.long (0 : Int64)), .second, .val (.long y_), .second] [(.long (0 : Int64)), (.ref a)])) rfl rfl (hb hby d5_15)
  refine Goes.via st11 ?_
  have N11 := Fr.snoc X11 N3 H4
  have Fw11 : Fld Z h11 a "nearhop/model/Id" "high" "J" (.long (0 : Int64)) := f9.same W11
  show Goes p e below _ (T11.setTop (mkF m 18 #[vr a, vr sp, .val (.long (0 : Int64)), .second, .val (.long y_), .second] []))
  refine gALN X11 hx hby d5_18 rfl rfl ?_
  refine gALN X11 hx hby d5_19 rfl rfl ?_
  refine Goes.via (fun _ kk_ => XS.lload X11.here hx rfl (hb hby d5_20) rfl  kk_) ?_
  show Goes p e below _ (T11.setTop (mkF m 22 #[vr a, vr sp, .val (.long (0 : Int64)), .second, .val (.long y_), .second] [(.long y_), (.ref sp), (.ref a)]))
  have f12 := (f4.wr W11)
  have f13 := (f5.other W11 (Or.inl (Ne.symm ne1)))
  have f14 := (f6.other W11 (Or.inl (Ne.symm ne1)))
  have z16 : h0.size ≤ (h11).size := (Nat.le_trans z8 (Nat.le_of_eq W11.size.symm))
  obtain ⟨_, _, ⟨T15, L15, k15, n15⟩, -, X15, ⟨Lc15, hQ15, l15, y15, z15⟩, st15⟩ := Jvm.LawKit.callS X11 hx (y := mN_Id_cutLow) hown (mvT hZ (own_w hw 47 rfl)) (mvT hZ (own_w hw 48 rfl)) (mvT hZ (own_w hw 25 rfl)) (mvT hZ (own_w hw 49 rfl)) (by decide) (backOf (W := 1) (rm9 l Z a0 hw [] sp y_ x_ dg bp h11 n0 (Nat.le_trans Z0 z16) f12 f13 f14 HB HD1 HD8 HCut) hZ (own_w hw 49 rfl) (own_w hw 25 rfl) (by decide) (by decide)) (g := (mkF m 22 #[vr a, vr sp, .val (.long (0 : Int64)), .second, .val (.long y_), .second] [(.long y_), (.ref sp), (.ref a)])) rfl (by rw [hml]; rfl) (argsL := [(.ref sp), (.long y_)]) (rest := [(.ref a)]) (lenOf pd_3 rfl) rfl (by show 2 * 0 + _ ≤ _; exact Nat.le_of_eq rfl) (hb hby d5_22) (fun _ _ => ⟨rfl, e11, (by decide : 0 + 0 ≤ _), (by decide : 0 + 0 ≤ _)⟩)
  dsimp only [Pt.U, Pt.locs, Pt.cells, Pt.slots] at X15 l15 y15 z15 st15 hQ15
  replace l15 := l15.symm
  subst l15 y15 z15
  obtain ⟨rfl, rfl, e15⟩ := hQ15
  first | rw [List.append_nil] at X15 | skip
  refine Goes.via st15 ?_
  have e15' : T15.heap = h11 := e15
  show Goes p e below _ (T15.setTop (mkF m 25 #[vr a, vr sp, .val (.long (0 : Int64)), .second, .val (.long y_), .second] [(.long y_), (.ref a)]))
  have f17 := ((F3_a_low.other W3 (Or.inr (slot_ne (Or.inr (own_w hw 51 rfl)) (Or.inr (own_w hw 31 rfl)) (by decide) (t := .long) (t' := (.object "nearhop/model/IdSpace")) (by decide) (by decide)))).other W11 (Or.inr (slot_ne (Or.inr (own_w hw 51 rfl)) (Or.inr (own_w hw 46 rfl)) (by decide) (t := .long) (t' := .long) (by decide) (by decide))))
  have f18 := (f10.wr W11)
  obtain ⟨T19, h19, X19, e19, W19, st19⟩ := putF X15 hx hZ hown (host := "") (Or.inl (own_w hw 50 rfl)) Via.refl e15' f17 f18 (Or.inr ⟨(own_w hw 51 rfl), rfl, hnm⟩) (own_w hw 24 rfl) (ty := .long) (by decide) rfl rfl (g := (mkF m 25 #[vr a, vr sp, .val (.long (0 : Int64)), .second, .val (.long y_), .second] [(.long y_), (.ref a)])) rfl rfl (hb hby d5_25)
  refine Goes.via st19 ?_
  have N19 := Fr.snoc X19 N11 H4
  have Fw19 : Fld Z h19 a "nearhop/model/Id" "low" "J" (.long y_) := f17.same W19
  show Goes p e below _ (T19.setTop (mkF m 28 #[vr a, vr sp, .val (.long (0 : Int64)), .second, .val (.long y_), .second] []))
  have K20 : Keep h0 h19 [a] := ((((Keep.refl h0 [a]).wr W3 (Or.inl (List.mem_of_getElem? (i := 0) rfl))).wr W11 (Or.inl (List.mem_of_getElem? (i := 0) rfl))).wr W19 (Or.inl (List.mem_of_getElem? (i := 0) rfl)))
  have f21 := (f18.wr W19)
  have f22 := ((Fw3.other W11 (Or.inr (slot_ne (Or.inr (own_w hw 31 rfl)) (Or.inr (own_w hw 46 rfl)) (by decide) (t := (.object "nearhop/model/IdSpace")) (t' := .long) (by decide) (by decide)))).other W19 (Or.inr (slot_ne (Or.inr (own_w hw 31 rfl)) (Or.inr (own_w hw 51 rfl)) (by decide) (t := (.object "nearhop/model/IdSpace")) (t' := .long) (by decide) (by decide))))
  have f23 := (Fw11.other W19 (Or.inr (slot_ne (Or.inr (own_w hw 46 rfl)) (Or.inr (own_w hw 51 rfl)) (by decide) (t := .long) (t' := .long) (by decide) (by decide))))
  exact own_finV X19 hx hlk hret (hb hby d5_28) (by rw [e19]; exact ⟨rfl, N19, K20, f21, f22, f23, Fw19⟩) (by first | decide | omega | (dsimp only; omega)) (by first | decide | omega | (dsimp only; omega))
theorem ef_rm11 (m : MethodId) (a : Addr) : entryFrame m #[(.ref a)] 1 = mkF m 0 #[.val (.ref a)] [] := by first | (simp [entryFrame, mkF, argsToLocals, Value.category]; done) | rfl
def Qrm11 (Z : State) (a : Addr) (sp : Addr) (h0 : Heap) (n0 : Nat) (v_ : Option Value) (h_ : Heap) (L_ : List Loc) : Prop := v_ = some (.ref sp) ∧ L_ = [] ∧ h_ = h0
theorem d11_0 : decode prog_76_method_4_code 0 = .ok (.aload_n 0, 1) := by decide +kernel
theorem d11_1 : decode prog_76_method_4_code 1 = .ok (.getfield 7, 3) := by decide +kernel
theorem d11_4 : decode prog_76_method_4_code 4 = .ok (.areturn, 1) := by decide +kernel
set_option maxRecDepth 65536 in
set_option maxHeartbeats 40000000 in
theorem rm11 (l : Launch) (Z : State) (a0 : Array Value) (hw : ∀ d ∈ tables_1, d.before a0 Z = true) (ws : List Jvm.Cond) (a : Addr) (sp : Addr) (h0 : Heap) (n0 : Nat) (Z0 : n0 ≤ h0.size) (F0_a_space : Fld Z h0 a "nearhop/model/Id" "space" "Lnearhop/model/IdSpace;" (.ref sp)) :
    MetFree l (⟨"nearhop/model/Id", "space", "()Lnearhop/model/IdSpace;"⟩ : MethodName) (head1 (Jvm.Cond.code (⟨"nearhop/model/Id", "space", "()Lnearhop/model/IdSpace;"⟩ : MethodName) prog_76_method_4_code 1 (some (.object "nearhop/model/IdSpace")) :: ws) ({ frames := 0, cells := 0, slots := 0, locals := 0 } : Room)) (fun as_ U_ => as_ = #[(.ref a)] ∧ Z.Warmed39 U_.vm ∧ U_.heap = h0) (fun _ _ _ _ _ => True) (fun _ U_ o_ V_ => ∃ v_ L_, o_ = .returned v_ ∧ Qrm11 Z a sp h0 n0 v_ V_.heap L_ ∧ FrameEnd U_ o_ V_ L_ ({ frames := 0, cells := 0, slots := 0, locals := 0 } : Room).cells ({ frames := 0, cells := 0, slots := 0, locals := 0 } : Room).slots) := by
  refine MetFree.of_bodySF (plainFor_of_name pn_nearhop_model_Id) hisR ?_
  intro p e s m args below meth c s₁ Bd hml0 hP hK
  obtain ⟨rfl, hZ, hh⟩ := hP
  have hx := Bd.exec
  have hby := Bd.bytes
  have hlk : meth.locks = false := BodyLoose.notSynchronized Bd
  have hret := Bd.returns
  have hml : c.maxLocals = 1 := hml0
  have hown : s.vm.findClass "nearhop/model/Id" = some m.cls := findClass_of_methodNamed Bd.named
  have hnm := (name_of_methodNamed Bd.named Bd.method).1
  have X0 : Stand p l e ({ frames := 0, cells := 0, slots := 0, locals := 0 } : Room) s m #[(.ref a)] below meth c s₁ [] 0 0 := Stand.of_body Bd
  have e0 : s₁.heap = h0 := by rw [← hh, Bd.state]; rfl
  have N0 := Fr.nil n0
  show Goes p e below (Fin_ s (Qrm11 Z a sp h0 n0) ({ frames := 0, cells := 0, slots := 0, locals := 0 } : Room).cells ({ frames := 0, cells := 0, slots := 0, locals := 0 } : Room).slots) (s₁.setTop (entryFrame m #[(.ref a)] 1))
  rw [ef_rm11 m a]
  refine gALN X0 hx hby d11_0 rfl rfl ?_
  obtain ⟨T1, X1, e1, st1⟩ := getF X0 hx hZ hown (host := "") (Or.inl (own_w hw 30 rfl)) Via.refl e0 F0_a_space (g := (mkF m 1 #[vr a] [(.ref a)])) rfl rfl (hb hby d11_1)
  refine Goes.via st1 ?_
  show Goes p e below _ (T1.setTop (mkF m 4 #[vr a] [(.ref sp)]))
  exact own_finR X1 hx hlk hret rfl rfl rfl (hb hby d11_4) (by rw [e1]; exact ⟨rfl, rfl, rfl⟩) (by first | decide | omega | (dsimp only; omega)) (by first | decide | omega | (dsimp only; omega))
theorem ef_rmEq (m : MethodId) (a : Addr) (b : Addr) : entryFrame m #[(.ref a), (.ref b)] 3 = mkF m 0 #[.val (.ref a), .val (.ref b), .unset] [] := by first | (simp [entryFrame, mkF, argsToLocals, Value.category]; done) | rfl
def QrmEq (Z : State) (a : Addr) (b : Addr) (sp : Addr) (w_ : Int64) (y_ : Int64) (h0 : Heap) (n0 : Nat) (v_ : Option Value) (h_ : Heap) (L_ : List Loc) : Prop := v_ = some (.int (if w_ = y_ then (1 : Int32) else (0 : Int32))) ∧ L_ = [] ∧ h_ = h0
theorem d14_0 : decode prog_76_method_18_code 0 = .ok (.aload_n 0, 1) := by decide +kernel
theorem d14_1 : decode prog_76_method_18_code 1 = .ok (.aload_n 1, 1) := by decide +kernel
theorem d14_2 : decode prog_76_method_18_code 2 = .ok (.if_acmp .eq 64, 3) := by decide +kernel
theorem d14_5 : decode prog_76_method_18_code 5 = .ok (.aload_n 1, 1) := by decide +kernel
theorem d14_6 : decode prog_76_method_18_code 6 = .ok (.instanceof 8, 3) := by decide +kernel
theorem d14_9 : decode prog_76_method_18_code 9 = .ok (.ifCond .eq 61, 3) := by decide +kernel
theorem d14_12 : decode prog_76_method_18_code 12 = .ok (.aload_n 1, 1) := by decide +kernel
theorem d14_13 : decode prog_76_method_18_code 13 = .ok (.checkcast 8, 3) := by decide +kernel
theorem d14_16 : decode prog_76_method_18_code 16 = .ok (.astore_n 2, 1) := by decide +kernel
theorem d14_17 : decode prog_76_method_18_code 17 = .ok (.aload_n 0, 1) := by decide +kernel
theorem d14_18 : decode prog_76_method_18_code 18 = .ok (.getfield 17, 3) := by decide +kernel
theorem d14_21 : decode prog_76_method_18_code 21 = .ok (.aload_n 2, 1) := by decide +kernel
theorem d14_22 : decode prog_76_method_18_code 22 = .ok (.getfield 17, 3) := by decide +kernel
theorem d14_25 : decode prog_76_method_18_code 25 = .ok (.lcmp, 1) := by decide +kernel
theorem d14_26 : decode prog_76_method_18_code 26 = .ok (.ifCond .ne 44, 3) := by decide +kernel
theorem d14_29 : decode prog_76_method_18_code 29 = .ok (.aload_n 0, 1) := by decide +kernel
theorem d14_30 : decode prog_76_method_18_code 30 = .ok (.getfield 24, 3) := by decide +kernel
theorem d14_33 : decode prog_76_method_18_code 33 = .ok (.aload_n 2, 1) := by decide +kernel
theorem d14_34 : decode prog_76_method_18_code 34 = .ok (.getfield 24, 3) := by decide +kernel
theorem d14_37 : decode prog_76_method_18_code 37 = .ok (.lcmp, 1) := by decide +kernel
theorem d14_38 : decode prog_76_method_18_code 38 = .ok (.ifCond .ne 32, 3) := by decide +kernel
theorem d14_41 : decode prog_76_method_18_code 41 = .ok (.aload_n 0, 1) := by decide +kernel
theorem d14_42 : decode prog_76_method_18_code 42 = .ok (.getfield 7, 3) := by decide +kernel
theorem d14_45 : decode prog_76_method_18_code 45 = .ok (.aload_n 2, 1) := by decide +kernel
theorem d14_46 : decode prog_76_method_18_code 46 = .ok (.getfield 7, 3) := by decide +kernel
theorem d14_49 : decode prog_76_method_18_code 49 = .ok (.if_acmp .eq 17, 3) := by decide +kernel
theorem d14_66 : decode prog_76_method_18_code 66 = .ok (.iconst 1, 1) := by decide +kernel
theorem d14_67 : decode prog_76_method_18_code 67 = .ok (.goto 4, 3) := by decide +kernel
theorem d14_71 : decode prog_76_method_18_code 71 = .ok (.ireturn, 1) := by decide +kernel
theorem d14_70 : decode prog_76_method_18_code 70 = .ok (.iconst 0, 1) := by decide +kernel
set_option maxRecDepth 65536 in
set_option maxHeartbeats 40000000 in
theorem rmEq (l : Launch) (Z : State) (a0 : Array Value) (hw : ∀ d ∈ tables_1, d.before a0 Z = true) (ws : List Jvm.Cond) (a : Addr) (b : Addr) (sp : Addr) (w_ : Int64) (y_ : Int64) (h0 : Heap) (n0 : Nat) (Z0 : n0 ≤ h0.size) (HNE : a ≠ b) (E1_b : Exa Z h0 b "nearhop/model/Id") (F2_a_space : Fld Z h0 a "nearhop/model/Id" "space" "Lnearhop/model/IdSpace;" (.ref sp)) (F3_a_high : Fld Z h0 a "nearhop/model/Id" "high" "J" (.long (0 : Int64))) (F4_a_low : Fld Z h0 a "nearhop/model/Id" "low" "J" (.long w_)) (F5_b_space : Fld Z h0 b "nearhop/model/Id" "space" "Lnearhop/model/IdSpace;" (.ref sp)) (F6_b_high : Fld Z h0 b "nearhop/model/Id" "high" "J" (.long (0 : Int64))) (F7_b_low : Fld Z h0 b "nearhop/model/Id" "low" "J" (.long y_)) :
    MetFree l (⟨"nearhop/model/Id", "equals", "(Ljava/lang/Object;)Z"⟩ : MethodName) (head1 (Jvm.Cond.code (⟨"nearhop/model/Id", "equals", "(Ljava/lang/Object;)Z"⟩ : MethodName) prog_76_method_18_code 3 (some .boolean) :: ws) ({ frames := 0, cells := 0, slots := 0, locals := 0 } : Room)) (fun as_ U_ => as_ = #[(.ref a), (.ref b)] ∧ Z.Warmed39 U_.vm ∧ U_.heap = h0) (fun _ _ _ _ _ => True) (fun _ U_ o_ V_ => ∃ v_ L_, o_ = .returned v_ ∧ QrmEq Z a b sp w_ y_ h0 n0 v_ V_.heap L_ ∧ FrameEnd U_ o_ V_ L_ ({ frames := 0, cells := 0, slots := 0, locals := 0 } : Room).cells ({ frames := 0, cells := 0, slots := 0, locals := 0 } : Room).slots) := by
  refine MetFree.of_bodySF (plainFor_of_name pn_nearhop_model_Id) hisR ?_
  intro p e s m args below meth c s₁ Bd hml0 hP hK
  obtain ⟨rfl, hZ, hh⟩ := hP
  have hx := Bd.exec
  have hby := Bd.bytes
  have hlk : meth.locks = false := BodyLoose.notSynchronized Bd
  have hret := Bd.returns
  have hml : c.maxLocals = 3 := hml0
  have hown : s.vm.findClass "nearhop/model/Id" = some m.cls := findClass_of_methodNamed Bd.named
  have hnm := (name_of_methodNamed Bd.named Bd.method).1
  have X0 : Stand p l e ({ frames := 0, cells := 0, slots := 0, locals := 0 } : Room) s m #[(.ref a), (.ref b)] below meth c s₁ [] 0 0 := Stand.of_body Bd
  have e0 : s₁.heap = h0 := by rw [← hh, Bd.state]; rfl
  have N0 := Fr.nil n0
  show Goes p e below (Fin_ s (QrmEq Z a b sp w_ y_ h0 n0) ({ frames := 0, cells := 0, slots := 0, locals := 0 } : Room).cells ({ frames := 0, cells := 0, slots := 0, locals := 0 } : Room).slots) (s₁.setTop (entryFrame m #[(.ref a), (.ref b)] 3))
  rw [ef_rmEq m a b]
  refine gALN X0 hx hby d14_0 rfl rfl ?_
  refine gALN X0 hx hby d14_1 rfl rfl ?_
  refine Goes.via (fun _ kk_ => Jvm.RoadKit.acmp (g := (mkF m 2 #[vr a, vr b, .unset] [(.ref b), (.ref a)])) X0 hx rfl rfl rfl (pc0 := 2) (pc' := 5) (same := false) rfl (hb hby d14_2) rfl (decide_eq_false fun q => HNE (Value.ref.inj q)) (by decide) (by decide) kk_) ?_
  show Goes p e below _ (s₁.setTop (mkF m 5 #[vr a, vr b, .unset] []))
  refine gALN X0 hx hby d14_5 rfl rfl ?_
  obtain ⟨T1, X1, e1, st1⟩ := instY X0 hx hZ hown (own_w hw 92 rfl) e0 (Ins.self E1_b) (g := (mkF m 6 #[vr a, vr b, .unset] [(.ref b)])) rfl rfl (hb hby d14_6)
  refine Goes.via st1 ?_
  show Goes p e below _ (T1.setTop (mkF m 9 #[vr a, vr b, .unset] [(.int (1 : Int32))]))
  have hc9_2 : ¬ ((1 : Int32) = (0 : Int32)) := (by decide)
  refine Goes.via (fun _ kk_ => XS.ifNo X1.here hx rfl (hb hby d14_9) rfl ((if0 _ _).trans (feq hc9_2).1) kk_) ?_
  show Goes p e below _ (T1.setTop (mkF m 12 #[vr a, vr b, .unset] []))
  refine gALN X1 hx hby d14_12 rfl rfl ?_
  obtain ⟨T3, X3, e3, st3⟩ := castY X1 hx hZ hown (own_w hw 92 rfl) e1 (Ins.self E1_b) (g := (mkF m 13 #[vr a, vr b, .unset] [(.ref b)])) rfl rfl (hb hby d14_13)
  refine Goes.via st3 ?_
  show Goes p e below _ (T3.setTop (mkF m 16 #[vr a, vr b, .unset] [(.ref b)]))
  refine Goes.via (fun _ kk_ => XS.astoreN X3.here hx rfl (hb hby d14_16) rfl rfl (l' := #[vr a, vr b, vr b]) rfl kk_) ?_
  show Goes p e below _ (T3.setTop (mkF m 17 #[vr a, vr b, vr b] []))
  refine gALN X3 hx hby d14_17 rfl rfl ?_
  obtain ⟨T4, X4, e4, st4⟩ := getF X3 hx hZ hown (host := "") (Or.inl (own_w hw 45 rfl)) Via.refl e3 F3_a_high (g := (mkF m 18 #[vr a, vr b, vr b] [(.ref a)])) rfl rfl (hb hby d14_18)
  refine Goes.via st4 ?_
  show Goes p e below _ (T4.setTop (mkF m 21 #[vr a, vr b, vr b] [(.long (0 : Int64))]))
  refine gALN X4 hx hby d14_21 rfl rfl ?_
  obtain ⟨T5, X5, e5, st5⟩ := getF X4 hx hZ hown (host := "") (Or.inl (own_w hw 45 rfl)) Via.refl e4 F6_b_high (g := (mkF m 22 #[vr a, vr b, vr b] [(.ref b), (.long (0 : Int64))])) rfl rfl (hb hby d14_22)
  refine Goes.via st5 ?_
  show Goes p e below _ (T5.setTop (mkF m 25 #[vr a, vr b, vr b] [(.long (0 : Int64)), (.long (0 : Int64))]))
  refine Goes.via (fun _ kk_ => XS.lcmp X5.here hx rfl (hb hby d14_25) rfl kk_) ?_
  show Goes p e below _ (T5.setTop (mkF m 26 #[vr a, vr b, vr b] [(.int (lcmpW (0 : Int64) (0 : Int64)))]))
  have hc26_6 : (0 : Int64) = (0 : Int64) := rfl
  refine Goes.via (fun _ kk_ => XS.ifNo X5.here hx rfl (hb hby d14_26) rfl ((if0 _ _).trans (teq ((lw_eq (0 : Int64) (0 : Int64)).mpr hc26_6)).2) kk_) ?_
  show Goes p e below _ (T5.setTop (mkF m 29 #[vr a, vr b, vr b] []))
  refine gALN X5 hx hby d14_29 rfl rfl ?_
  obtain ⟨T7, X7, e7, st7⟩ := getF X5 hx hZ hown (host := "") (Or.inl (own_w hw 50 rfl)) Via.refl e5 F4_a_low (g := (mkF m 30 #[vr a, vr b, vr b] [(.ref a)])) rfl rfl (hb hby d14_30)
  refine Goes.via st7 ?_
  show Goes p e below _ (T7.setTop (mkF m 33 #[vr a, vr b, vr b] [(.long w_)]))
  refine gALN X7 hx hby d14_33 rfl rfl ?_
  obtain ⟨T8, X8, e8, st8⟩ := getF X7 hx hZ hown (host := "") (Or.inl (own_w hw 50 rfl)) Via.refl e7 F7_b_low (g := (mkF m 34 #[vr a, vr b, vr b] [(.ref b), (.long w_)])) rfl rfl (hb hby d14_34)
  refine Goes.via st8 ?_
  show Goes p e below _ (T8.setTop (mkF m 37 #[vr a, vr b, vr b] [(.long y_), (.long w_)]))
  refine Goes.via (fun _ kk_ => XS.lcmp X8.here hx rfl (hb hby d14_37) rfl kk_) ?_
  show Goes p e below _ (T8.setTop (mkF m 38 #[vr a, vr b, vr b] [(.int (lcmpW w_ y_))]))
  by_cases hc38 : w_ = y_
  · skip
    refine Goes.via (fun _ kk_ => XS.ifNo X8.here hx rfl (hb hby d14_38) rfl ((if0 _ _).trans (teq ((lw_eq w_ y_).mpr hc38)).2) kk_) ?_
    show Goes p e below _ (T8.setTop (mkF m 41 #[vr a, vr b, vr b] []))
    refine gALN X8 hx hby d14_41 rfl rfl ?_
    obtain ⟨T9, X9, e9, st9⟩ := getF X8 hx hZ hown (host := "") (Or.inl (own_w hw 30 rfl)) Via.refl e8 F2_a_space (g := (mkF m 42 #[vr a, vr b, vr b] [(.ref a)])) rfl rfl (hb hby d14_42)
    refine Goes.via st9 ?_
    show Goes p e below _ (T9.setTop (mkF m 45 #[vr a, vr b, vr b] [(.ref sp)]))
    refine gALN X9 hx hby d14_45 rfl rfl ?_
    obtain ⟨T10, X10, e10, st10⟩ := getF X9 hx hZ hown (host := "") (Or.inl (own_w hw 30 rfl)) Via.refl e9 F5_b_space (g := (mkF m 46 #[vr a, vr b, vr b] [(.ref b), (.ref sp)])) rfl rfl (hb hby d14_46)
    refine Goes.via st10 ?_
    show Goes p e below _ (T10.setTop (mkF m 49 #[vr a, vr b, vr b] [(.ref sp), (.ref sp)]))
    refine Goes.via (fun _ kk_ => Jvm.RoadKit.acmp (g := (mkF m 49 #[vr a, vr b, vr b] [(.ref sp), (.ref sp)])) X10 hx rfl rfl rfl (pc0 := 49) (pc' := 66) (same := true) rfl (hb hby d14_49) rfl (decide_eq_true rfl) (by decide) (by decide) kk_) ?_
    show Goes p e below _ (T10.setTop (mkF m 66 #[vr a, vr b, vr b] []))
    refine gIC (z := 1) X10 hx hby d14_66 rfl ?_
    refine Goes.via (fun _ kk_ => XS.goto X10.here hx rfl (pc0 := 67) (pc' := 71) rfl (hb hby d14_67) (by decide) (by decide) kk_) ?_
    show Goes p e below _ (T10.setTop (mkF m 71 #[vr a, vr b, vr b] [(.int (1 : Int32))]))
    exact own_finN X10 hx hlk hret (by simp) (hb hby d14_71) (by rw [e10]; exact ⟨(by rw [if_pos hc38]; rfl), rfl, rfl⟩) (by first | decide | omega | (dsimp only; omega)) (by first | decide | omega | (dsimp only; omega))
  · skip
    refine Goes.via (fun _ kk_ => XS.ifYes X8.here hx rfl (pc0 := 38) (pc' := 70) rfl (hb hby d14_38) rfl ((if0 _ _).trans (feq (fun q => hc38 ((lw_eq w_ y_).mp q))).2) (by decide) (by decide) kk_) ?_
    show Goes p e below _ (T8.setTop (mkF m 70 #[vr a, vr b, vr b] []))
    refine gIC (z := 0) X8 hx hby d14_70 rfl ?_
    exact own_finN X8 hx hlk hret (by simp) (hb hby d14_71) (by rw [e8]; exact ⟨(by rw [if_neg hc38]; rfl), rfl, rfl⟩) (by first | decide | omega | (dsimp only; omega)) (by first | decide | omega | (dsimp only; omega))
def own_nlzI (x_ : Int32) : Int32 := (if (0 : Int32) < x_ then (if x_ < (65536 : Int32) then (if x_ < (256 : Int32) then (if x_ < (16 : Int32) then (if x_ < (4 : Int32) then ((31 : Int32) - ((x_.toUInt32 >>> ((1 : Int32) &&& 31).toUInt32).toInt32)) else ((29 : Int32) - ((((x_.toUInt32 >>> ((2 : Int32) &&& 31).toUInt32).toInt32).toUInt32 >>> ((1 : Int32) &&& 31).toUInt32).toInt32))) else (if ((x_.toUInt32 >>> ((4 : Int32) &&& 31).toUInt32).toInt32) < (4 : Int32) then ((27 : Int32) - ((((x_.toUInt32 >>> ((4 : Int32) &&& 31).toUInt32).toInt32).toUInt32 >>> ((1 : Int32) &&& 31).toUInt32).toInt32)) else ((25 : Int32) - ((((((x_.toUInt32 >>> ((4 : Int32) &&& 31).toUInt32).toInt32).toUInt32 >>> ((2 : Int32) &&& 31).toUInt32).toInt32).toUInt32 >>> ((1 : Int32) &&& 31).toUInt32).toInt32)))) else (if ((x_.toUInt32 >>> ((8 : Int32) &&& 31).toUInt32).toInt32) < (16 : Int32) then (if ((x_.toUInt32 >>> ((8 : Int32) &&& 31).toUInt32).toInt32) < (4 : Int32) then ((23 : Int32) - ((((x_.toUInt32 >>> ((8 : Int32) &&& 31).toUInt32).toInt32).toUInt32 >>> ((1 : Int32) &&& 31).toUInt32).toInt32)) else ((21 : Int32) - ((((((x_.toUInt32 >>> ((8 : Int32) &&& 31).toUInt32).toInt32).toUInt32 >>> ((2 : Int32) &&& 31).toUInt32).toInt32).toUInt32 >>> ((1 : Int32) &&& 31).toUInt32).toInt32))) else (if ((((x_.toUInt32 >>> ((8 : Int32) &&& 31).toUInt32).toInt32).toUInt32 >>> ((4 : Int32) &&& 31).toUInt32).toInt32) < (4 : Int32) then ((19 : Int32) - ((((((x_.toUInt32 >>> ((8 : Int32) &&& 31).toUInt32).toInt32).toUInt32 >>> ((4 : Int32) &&& 31).toUInt32).toInt32).toUInt32 >>> ((1 : Int32) &&& 31).toUInt32).toInt32)) else ((17 : Int32) - ((((((((x_.toUInt32 >>> ((8 : Int32) &&& 31).toUInt32).toInt32).toUInt32 >>> ((4 : Int32) &&& 31).toUInt32).toInt32).toUInt32 >>> ((2 : Int32) &&& 31).toUInt32).toInt32).toUInt32 >>> ((1 : Int32) &&& 31).toUInt32).toInt32))))) else (if ((x_.toUInt32 >>> ((16 : Int32) &&& 31).toUInt32).toInt32) < (256 : Int32) then (if ((x_.toUInt32 >>> ((16 : Int32) &&& 31).toUInt32).toInt32) < (16 : Int32) then (if ((x_.toUInt32 >>> ((16 : Int32) &&& 31).toUInt32).toInt32) < (4 : Int32) then ((15 : Int32) - ((((x_.toUInt32 >>> ((16 : Int32) &&& 31).toUInt32).toInt32).toUInt32 >>> ((1 : Int32) &&& 31).toUInt32).toInt32)) else ((13 : Int32) - ((((((x_.toUInt32 >>> ((16 : Int32) &&& 31).toUInt32).toInt32).toUInt32 >>> ((2 : Int32) &&& 31).toUInt32).toInt32).toUInt32 >>> ((1 : Int32) &&& 31).toUInt32).toInt32))) else (if ((((x_.toUInt32 >>> ((16 : Int32) &&& 31).toUInt32).toInt32).toUInt32 >>> ((4 : Int32) &&& 31).toUInt32).toInt32) < (4 : Int32) then ((11 : Int32) - ((((((x_.toUInt32 >>> ((16 : Int32) &&& 31).toUInt32).toInt32).toUInt32 >>> ((4 : Int32) &&& 31).toUInt32).toInt32).toUInt32 >>> ((1 : Int32) &&& 31).toUInt32).toInt32)) else ((9 : Int32) - ((((((((x_.toUInt32 >>> ((16 : Int32) &&& 31).toUInt32).toInt32).toUInt32 >>> ((4 : Int32) &&& 31).toUInt32).toInt32).toUInt32 >>> ((2 : Int32) &&& 31).toUInt32).toInt32).toUInt32 >>> ((1 : Int32) &&& 31).toUInt32).toInt32)))) else (if ((((x_.toUInt32 >>> ((16 : Int32) &&& 31).toUInt32).toInt32).toUInt32 >>> ((8 : Int32) &&& 31).toUInt32).toInt32) < (16 : Int32) then (if ((((x_.toUInt32 >>> ((16 : Int32) &&& 31).toUInt32).toInt32).toUInt32 >>> ((8 : Int32) &&& 31).toUInt32).toInt32) < (4 : Int32) then ((7 : Int32) - ((((((x_.toUInt32 >>> ((16 : Int32) &&& 31).toUInt32).toInt32).toUInt32 >>> ((8 : Int32) &&& 31).toUInt32).toInt32).toUInt32 >>> ((1 : Int32) &&& 31).toUInt32).toInt32)) else ((5 : Int32) - ((((((((x_.toUInt32 >>> ((16 : Int32) &&& 31).toUInt32).toInt32).toUInt32 >>> ((8 : Int32) &&& 31).toUInt32).toInt32).toUInt32 >>> ((2 : Int32) &&& 31).toUInt32).toInt32).toUInt32 >>> ((1 : Int32) &&& 31).toUInt32).toInt32))) else (if ((((((x_.toUInt32 >>> ((16 : Int32) &&& 31).toUInt32).toInt32).toUInt32 >>> ((8 : Int32) &&& 31).toUInt32).toInt32).toUInt32 >>> ((4 : Int32) &&& 31).toUInt32).toInt32) < (4 : Int32) then ((3 : Int32) - ((((((((x_.toUInt32 >>> ((16 : Int32) &&& 31).toUInt32).toInt32).toUInt32 >>> ((8 : Int32) &&& 31).toUInt32).toInt32).toUInt32 >>> ((4 : Int32) &&& 31).toUInt32).toInt32).toUInt32 >>> ((1 : Int32) &&& 31).toUInt32).toInt32)) else ((1 : Int32) - ((((((((((x_.toUInt32 >>> ((16 : Int32) &&& 31).toUInt32).toInt32).toUInt32 >>> ((8 : Int32) &&& 31).toUInt32).toInt32).toUInt32 >>> ((4 : Int32) &&& 31).toUInt32).toInt32).toUInt32 >>> ((2 : Int32) &&& 31).toUInt32).toInt32).toUInt32 >>> ((1 : Int32) &&& 31).toUInt32).toInt32)))))) else (if x_ = (0 : Int32) then (32 : Int32) else (0 : Int32)))
theorem ef_rm17 (m : MethodId) (x_ : Int32) : entryFrame m #[(.int x_)] 2 = mkF m 0 #[.val (.int x_), .unset] [] := by first | (simp [entryFrame, mkF, argsToLocals, Value.category]; done) | rfl
def Qrm17 (Z : State) (x_ : Int32) (h0 : Heap) (n0 : Nat) (v_ : Option Value) (h_ : Heap) (L_ : List Loc) : Prop := v_ = some (.int (own_nlzI x_)) ∧ L_ = [] ∧ h_ = h0
theorem d17_0 : decode jdk_33_method_47_code 0 = .ok (.iload_n 0, 1) := by decide +kernel
theorem d17_1 : decode jdk_33_method_47_code 1 = .ok (.ifCond .gt 14, 3) := by decide +kernel
theorem d17_15 : decode jdk_33_method_47_code 15 = .ok (.bipush 31, 2) := by decide +kernel
theorem d17_17 : decode jdk_33_method_47_code 17 = .ok (.istore_n 1, 1) := by decide +kernel
theorem d17_18 : decode jdk_33_method_47_code 18 = .ok (.iload_n 0, 1) := by decide +kernel
theorem d17_19 : decode jdk_33_method_47_code 19 = .ok (.ldc_w 264, 3) := by decide +kernel
theorem d17_22 : decode jdk_33_method_47_code 22 = .ok (.if_icmp .lt 11, 3) := by decide +kernel
theorem d17_33 : decode jdk_33_method_47_code 33 = .ok (.iload_n 0, 1) := by decide +kernel
theorem d17_34 : decode jdk_33_method_47_code 34 = .ok (.sipush 256, 3) := by decide +kernel
theorem d17_37 : decode jdk_33_method_47_code 37 = .ok (.if_icmp .lt 11, 3) := by decide +kernel
theorem d17_48 : decode jdk_33_method_47_code 48 = .ok (.iload_n 0, 1) := by decide +kernel
theorem d17_49 : decode jdk_33_method_47_code 49 = .ok (.bipush 16, 2) := by decide +kernel
theorem d17_51 : decode jdk_33_method_47_code 51 = .ok (.if_icmp .lt 10, 3) := by decide +kernel
theorem d17_61 : decode jdk_33_method_47_code 61 = .ok (.iload_n 0, 1) := by decide +kernel
theorem d17_62 : decode jdk_33_method_47_code 62 = .ok (.iconst 4, 1) := by decide +kernel
theorem d17_63 : decode jdk_33_method_47_code 63 = .ok (.if_icmp .lt 10, 3) := by decide +kernel
theorem d17_73 : decode jdk_33_method_47_code 73 = .ok (.iload_n 1, 1) := by decide +kernel
theorem d17_74 : decode jdk_33_method_47_code 74 = .ok (.iload_n 0, 1) := by decide +kernel
theorem d17_75 : decode jdk_33_method_47_code 75 = .ok (.iconst 1, 1) := by decide +kernel
theorem d17_76 : decode jdk_33_method_47_code 76 = .ok (.iushr, 1) := by decide +kernel
theorem d17_77 : decode jdk_33_method_47_code 77 = .ok (.isub, 1) := by decide +kernel
theorem d17_78 : decode jdk_33_method_47_code 78 = .ok (.ireturn, 1) := by decide +kernel
theorem d17_66 : decode jdk_33_method_47_code 66 = .ok (.iinc 1 (-2), 3) := by decide +kernel
theorem d17_69 : decode jdk_33_method_47_code 69 = .ok (.iload_n 0, 1) := by decide +kernel
theorem d17_70 : decode jdk_33_method_47_code 70 = .ok (.iconst 2, 1) := by decide +kernel
theorem d17_71 : decode jdk_33_method_47_code 71 = .ok (.iushr, 1) := by decide +kernel
theorem d17_72 : decode jdk_33_method_47_code 72 = .ok (.istore_n 0, 1) := by decide +kernel
theorem d17_54 : decode jdk_33_method_47_code 54 = .ok (.iinc 1 (-4), 3) := by decide +kernel
theorem d17_57 : decode jdk_33_method_47_code 57 = .ok (.iload_n 0, 1) := by decide +kernel
theorem d17_58 : decode jdk_33_method_47_code 58 = .ok (.iconst 4, 1) := by decide +kernel
theorem d17_59 : decode jdk_33_method_47_code 59 = .ok (.iushr, 1) := by decide +kernel
theorem d17_60 : decode jdk_33_method_47_code 60 = .ok (.istore_n 0, 1) := by decide +kernel
theorem d17_40 : decode jdk_33_method_47_code 40 = .ok (.iinc 1 (-8), 3) := by decide +kernel
theorem d17_43 : decode jdk_33_method_47_code 43 = .ok (.iload_n 0, 1) := by decide +kernel
theorem d17_44 : decode jdk_33_method_47_code 44 = .ok (.bipush 8, 2) := by decide +kernel
theorem d17_46 : decode jdk_33_method_47_code 46 = .ok (.iushr, 1) := by decide +kernel
theorem d17_47 : decode jdk_33_method_47_code 47 = .ok (.istore_n 0, 1) := by decide +kernel
theorem d17_25 : decode jdk_33_method_47_code 25 = .ok (.iinc 1 (-16), 3) := by decide +kernel
theorem d17_28 : decode jdk_33_method_47_code 28 = .ok (.iload_n 0, 1) := by decide +kernel
theorem d17_29 : decode jdk_33_method_47_code 29 = .ok (.bipush 16, 2) := by decide +kernel
theorem d17_31 : decode jdk_33_method_47_code 31 = .ok (.iushr, 1) := by decide +kernel
theorem d17_32 : decode jdk_33_method_47_code 32 = .ok (.istore_n 0, 1) := by decide +kernel
theorem d17_4 : decode jdk_33_method_47_code 4 = .ok (.iload_n 0, 1) := by decide +kernel
theorem d17_5 : decode jdk_33_method_47_code 5 = .ok (.ifCond .ne 8, 3) := by decide +kernel
theorem d17_8 : decode jdk_33_method_47_code 8 = .ok (.bipush 32, 2) := by decide +kernel
theorem d17_10 : decode jdk_33_method_47_code 10 = .ok (.goto 4, 3) := by decide +kernel
theorem d17_14 : decode jdk_33_method_47_code 14 = .ok (.ireturn, 1) := by decide +kernel
theorem d17_13 : decode jdk_33_method_47_code 13 = .ok (.iconst 0, 1) := by decide +kernel
set_option maxRecDepth 65536 in
set_option maxHeartbeats 40000000 in
theorem rm17 (l : Launch) (Z : State) (a0 : Array Value) (hw : ∀ d ∈ tables_1, d.before a0 Z = true) (ws : List Jvm.Cond) (x_ : Int32) (h0 : Heap) (n0 : Nat) (Z0 : n0 ≤ h0.size) :
    MetFree l (⟨"java/lang/Integer", "numberOfLeadingZeros", "(I)I"⟩ : MethodName) (head1 (Jvm.Cond.code (⟨"java/lang/Integer", "numberOfLeadingZeros", "(I)I"⟩ : MethodName) jdk_33_method_47_code 2 (some .int) :: ws) ({ frames := 0, cells := 0, slots := 0, locals := 0 } : Room)) (fun as_ U_ => as_ = #[(.int x_)] ∧ Z.Warmed39 U_.vm ∧ U_.heap = h0) (fun _ _ _ _ _ => True) (fun _ U_ o_ V_ => ∃ v_ L_, o_ = .returned v_ ∧ Qrm17 Z x_ h0 n0 v_ V_.heap L_ ∧ FrameEnd U_ o_ V_ L_ ({ frames := 0, cells := 0, slots := 0, locals := 0 } : Room).cells ({ frames := 0, cells := 0, slots := 0, locals := 0 } : Room).slots) := by
  refine MetFree.of_bodySF (plainFor_of_name pn_java_lang_Integer) hisR ?_
  intro p e s m args below meth c s₁ Bd hml0 hP hK
  obtain ⟨rfl, hZ, hh⟩ := hP
  have hx := Bd.exec
  have hby := Bd.bytes
  have hlk : meth.locks = false := BodyLoose.notSynchronized Bd
  have hret := Bd.returns
  have hml : c.maxLocals = 2 := hml0
  have hown : s.vm.findClass "java/lang/Integer" = some m.cls := findClass_of_methodNamed Bd.named
  have hnm := (name_of_methodNamed Bd.named Bd.method).1
  have X0 : Stand p l e ({ frames := 0, cells := 0, slots := 0, locals := 0 } : Room) s m #[(.int x_)] below meth c s₁ [] 0 0 := Stand.of_body Bd
  have e0 : s₁.heap = h0 := by rw [← hh, Bd.state]; rfl
  have N0 := Fr.nil n0
  show Goes p e below (Fin_ s (Qrm17 Z x_ h0 n0) ({ frames := 0, cells := 0, slots := 0, locals := 0 } : Room).cells ({ frames := 0, cells := 0, slots := 0, locals := 0 } : Room).slots) (s₁.setTop (entryFrame m #[(.int x_)] 2))
  rw [ef_rm17 m x_]
  refine gILN X0 hx hby d17_0 rfl ?_
  by_cases hc1 : (0 : Int32) < x_
  · skip
    refine Goes.via (fun _ kk_ => XS.ifYes X0.here hx rfl (pc0 := 1) (pc' := 15) rfl (hb hby d17_1) rfl ((if0 _ _).trans (tlt hc1).2.2.1) (by decide) (by decide) kk_) ?_
    show Goes p e below _ (s₁.setTop (mkF m 15 #[vi x_, .unset] []))
    refine gBI (z := 31) X0 hx hby d17_15 rfl ?_
    refine Goes.via (fun _ kk_ => XS.istoreN X0.here hx rfl (hb hby d17_17) rfl (l' := #[vi x_, vi (31 : Int32)]) rfl kk_) ?_
    show Goes p e below _ (s₁.setTop (mkF m 18 #[vi x_, vi (31 : Int32)] []))
    refine gILN X0 hx hby d17_18 rfl ?_
    refine Goes.via (X0.ldcwInt hx hown (mvT hZ (own_w hw 18 rfl)) (g := (mkF m 19 #[vi x_, vi (31 : Int32)] [(.int x_)])) rfl (hb hby d17_19)) ?_
    show Goes p e below _ (s₁.setTop (mkF m 22 #[vi x_, vi (31 : Int32)] [(.int (65536 : Int32)), (.int x_)]))
    by_cases hc22 : x_ < (65536 : Int32)
    · skip
      refine Goes.via (fun _ kk_ => XS.icmpYes X0.here hx rfl (pc0 := 22) (pc' := 33) rfl (hb hby d17_22) rfl (tlt hc22).1 (by decide) (by decide) kk_) ?_
      show Goes p e below _ (s₁.setTop (mkF m 33 #[vi x_, vi (31 : Int32)] []))
      refine gILN X0 hx hby d17_33 rfl ?_
      refine gSI (z := 256) X0 hx hby d17_34 rfl ?_
      by_cases hc37 : x_ < (256 : Int32)
      · skip
        refine Goes.via (fun _ kk_ => XS.icmpYes X0.here hx rfl (pc0 := 37) (pc' := 48) rfl (hb hby d17_37) rfl (tlt hc37).1 (by decide) (by decide) kk_) ?_
        show Goes p e below _ (s₁.setTop (mkF m 48 #[vi x_, vi (31 : Int32)] []))
        refine gILN X0 hx hby d17_48 rfl ?_
        refine gBI (z := 16) X0 hx hby d17_49 rfl ?_
        by_cases hc51 : x_ < (16 : Int32)
        · skip
          refine Goes.via (fun _ kk_ => XS.icmpYes X0.here hx rfl (pc0 := 51) (pc' := 61) rfl (hb hby d17_51) rfl (tlt hc51).1 (by decide) (by decide) kk_) ?_
          show Goes p e below _ (s₁.setTop (mkF m 61 #[vi x_, vi (31 : Int32)] []))
          refine gILN X0 hx hby d17_61 rfl ?_
          refine gIC (z := 4) X0 hx hby d17_62 rfl ?_
          by_cases hc63 : x_ < (4 : Int32)
          · skip
            refine Goes.via (fun _ kk_ => XS.icmpYes X0.here hx rfl (pc0 := 63) (pc' := 73) rfl (hb hby d17_63) rfl (tlt hc63).1 (by decide) (by decide) kk_) ?_
            show Goes p e below _ (s₁.setTop (mkF m 73 #[vi x_, vi (31 : Int32)] []))
            refine gILN X0 hx hby d17_73 rfl ?_
            refine gILN X0 hx hby d17_74 rfl ?_
            refine gIC (z := 1) X0 hx hby d17_75 rfl ?_
            refine Goes.via (fun _ kk_ => XS.iushr X0.here hx rfl (hb hby d17_76) rfl kk_) ?_
            show Goes p e below _ (s₁.setTop (mkF m 77 #[vi x_, vi (31 : Int32)] [(.int ((x_.toUInt32 >>> ((1 : Int32) &&& 31).toUInt32).toInt32)), (.int (31 : Int32))]))
            refine Goes.via (fun _ kk_ => XS.isub X0.here hx rfl (hb hby d17_77) rfl kk_) ?_
            show Goes p e below _ (s₁.setTop (mkF m 78 #[vi x_, vi (31 : Int32)] [(.int ((31 : Int32) - ((x_.toUInt32 >>> ((1 : Int32) &&& 31).toUInt32).toInt32)))]))
            exact own_finI X0 hx hlk hret (hb hby d17_78) (by rw [e0]; exact ⟨(by rw [own_nlzI, if_pos hc1, if_pos hc22, if_pos hc37, if_pos hc51, if_pos hc63]; first | done | rfl | exact own_nc _), rfl, rfl⟩) (by first | decide | omega | (dsimp only; omega)) (by first | decide | omega | (dsimp only; omega))
          · skip
            refine Goes.via (fun _ kk_ => XS.icmpNo X0.here hx rfl (hb hby d17_63) rfl (flt hc63).1 kk_) ?_
            show Goes p e below _ (s₁.setTop (mkF m 66 #[vi x_, vi (31 : Int32)] []))
            refine Goes.via (fun _ kk_ => XS.iinc X0.here hx rfl (hb hby d17_66) rfl (l' := #[vi x_, vi ((31 : Int32) + (-2 : Int32))]) rfl kk_) ?_
            show Goes p e below _ (s₁.setTop (mkF m 69 #[vi x_, vi ((31 : Int32) + (-2 : Int32))] []))
            rw [show ((31 : Int32) + (-2 : Int32)) = (29 : Int32) from by decide]
            show Goes p e below _ (s₁.setTop (mkF m 69 #[vi x_, vi (29 : Int32)] []))
            refine gILN X0 hx hby d17_69 rfl ?_
            refine gIC (z := 2) X0 hx hby d17_70 rfl ?_
            refine Goes.via (fun _ kk_ => XS.iushr X0.here hx rfl (hb hby d17_71) rfl kk_) ?_
            show Goes p e below _ (s₁.setTop (mkF m 72 #[vi x_, vi (29 : Int32)] [(.int ((x_.toUInt32 >>> ((2 : Int32) &&& 31).toUInt32).toInt32))]))
            refine Goes.via (fun _ kk_ => XS.istoreN X0.here hx rfl (hb hby d17_72) rfl (l' := #[vi ((x_.toUInt32 >>> ((2 : Int32) &&& 31).toUInt32).toInt32), vi (29 : Int32)]) rfl kk_) ?_
            show Goes p e below _ (s₁.setTop (mkF m 73 #[vi ((x_.toUInt32 >>> ((2 : Int32) &&& 31).toUInt32).toInt32), vi (29 : Int32)] []))
            refine gILN X0 hx hby d17_73 rfl ?_
            refine gILN X0 hx hby d17_74 rfl ?_
            refine gIC (z := 1) X0 hx hby d17_75 rfl ?_
            refine Goes.via (fun _ kk_ => XS.iushr X0.here hx rfl (hb hby d17_76) rfl kk_) ?_
            show Goes p e below _ (s₁.setTop (mkF m 77 #[vi ((x_.toUInt32 >>> ((2 : Int32) &&& 31).toUInt32).toInt32), vi (29 : Int32)] [(.int ((((x_.toUInt32 >>> ((2 : Int32) &&& 31).toUInt32).toInt32).toUInt32 >>> ((1 : Int32) &&& 31).toUInt32).toInt32)), (.int (29 : Int32))]))
            refine Goes.via (fun _ kk_ => XS.isub X0.here hx rfl (hb hby d17_77) rfl kk_) ?_
            show Goes p e below _ (s₁.setTop (mkF m 78 #[vi ((x_.toUInt32 >>> ((2 : Int32) &&& 31).toUInt32).toInt32), vi (29 : Int32)] [(.int ((29 : Int32) - ((((x_.toUInt32 >>> ((2 : Int32) &&& 31).toUInt32).toInt32).toUInt32 >>> ((1 : Int32) &&& 31).toUInt32).toInt32)))]))
            exact own_finI X0 hx hlk hret (hb hby d17_78) (by rw [e0]; exact ⟨(by rw [own_nlzI, if_pos hc1, if_pos hc22, if_pos hc37, if_pos hc51, if_neg hc63]; first | done | rfl | exact own_nc _), rfl, rfl⟩) (by first | decide | omega | (dsimp only; omega)) (by first | decide | omega | (dsimp only; omega))
        · skip
          refine Goes.via (fun _ kk_ => XS.icmpNo X0.here hx rfl (hb hby d17_51) rfl (flt hc51).1 kk_) ?_
          show Goes p e below _ (s₁.setTop (mkF m 54 #[vi x_, vi (31 : Int32)] []))
          refine Goes.via (fun _ kk_ => XS.iinc X0.here hx rfl (hb hby d17_54) rfl (l' := #[vi x_, vi ((31 : Int32) + (-4 : Int32))]) rfl kk_) ?_
          show Goes p e below _ (s₁.setTop (mkF m 57 #[vi x_, vi ((31 : Int32) + (-4 : Int32))] []))
          rw [show ((31 : Int32) + (-4 : Int32)) = (27 : Int32) from by decide]
          show Goes p e below _ (s₁.setTop (mkF m 57 #[vi x_, vi (27 : Int32)] []))
          refine gILN X0 hx hby d17_57 rfl ?_
          refine gIC (z := 4) X0 hx hby d17_58 rfl ?_
          refine Goes.via (fun _ kk_ => XS.iushr X0.here hx rfl (hb hby d17_59) rfl kk_) ?_
          show Goes p e below _ (s₁.setTop (mkF m 60 #[vi x_, vi (27 : Int32)] [(.int ((x_.toUInt32 >>> ((4 : Int32) &&& 31).toUInt32).toInt32))]))
          refine Goes.via (fun _ kk_ => XS.istoreN X0.here hx rfl (hb hby d17_60) rfl (l' := #[vi ((x_.toUInt32 >>> ((4 : Int32) &&& 31).toUInt32).toInt32), vi (27 : Int32)]) rfl kk_) ?_
          show Goes p e below _ (s₁.setTop (mkF m 61 #[vi ((x_.toUInt32 >>> ((4 : Int32) &&& 31).toUInt32).toInt32), vi (27 : Int32)] []))
          refine gILN X0 hx hby d17_61 rfl ?_
          refine gIC (z := 4) X0 hx hby d17_62 rfl ?_
          by_cases hc63 : ((x_.toUInt32 >>> ((4 : Int32) &&& 31).toUInt32).toInt32) < (4 : Int32)
          · skip
            refine Goes.via (fun _ kk_ => XS.icmpYes X0.here hx rfl (pc0 := 63) (pc' := 73) rfl (hb hby d17_63) rfl (tlt hc63).1 (by decide) (by decide) kk_) ?_
            show Goes p e below _ (s₁.setTop (mkF m 73 #[vi ((x_.toUInt32 >>> ((4 : Int32) &&& 31).toUInt32).toInt32), vi (27 : Int32)] []))
            refine gILN X0 hx hby d17_73 rfl ?_
            refine gILN X0 hx hby d17_74 rfl ?_
            refine gIC (z := 1) X0 hx hby d17_75 rfl ?_
            refine Goes.via (fun _ kk_ => XS.iushr X0.here hx rfl (hb hby d17_76) rfl kk_) ?_
            show Goes p e below _ (s₁.setTop (mkF m 77 #[vi ((x_.toUInt32 >>> ((4 : Int32) &&& 31).toUInt32).toInt32), vi (27 : Int32)] [(.int ((((x_.toUInt32 >>> ((4 : Int32) &&& 31).toUInt32).toInt32).toUInt32 >>> ((1 : Int32) &&& 31).toUInt32).toInt32)), (.int (27 : Int32))]))
            refine Goes.via (fun _ kk_ => XS.isub X0.here hx rfl (hb hby d17_77) rfl kk_) ?_
            show Goes p e below _ (s₁.setTop (mkF m 78 #[vi ((x_.toUInt32 >>> ((4 : Int32) &&& 31).toUInt32).toInt32), vi (27 : Int32)] [(.int ((27 : Int32) - ((((x_.toUInt32 >>> ((4 : Int32) &&& 31).toUInt32).toInt32).toUInt32 >>> ((1 : Int32) &&& 31).toUInt32).toInt32)))]))
            exact own_finI X0 hx hlk hret (hb hby d17_78) (by rw [e0]; exact ⟨(by rw [own_nlzI, if_pos hc1, if_pos hc22, if_pos hc37, if_neg hc51, if_pos hc63]; first | done | rfl | exact own_nc _), rfl, rfl⟩) (by first | decide | omega | (dsimp only; omega)) (by first | decide | omega | (dsimp only; omega))
          · skip
            refine Goes.via (fun _ kk_ => XS.icmpNo X0.here hx rfl (hb hby d17_63) rfl (flt hc63).1 kk_) ?_
            show Goes p e below _ (s₁.setTop (mkF m 66 #[vi ((x_.toUInt32 >>> ((4 : Int32) &&& 31).toUInt32).toInt32), vi (27 : Int32)] []))
            refine Goes.via (fun _ kk_ => XS.iinc X0.here hx rfl (hb hby d17_66) rfl (l' := #[vi ((x_.toUInt32 >>> ((4 : Int32) &&& 31).toUInt32).toInt32), vi ((27 : Int32) + (-2 : Int32))]) rfl kk_) ?_
            show Goes p e below _ (s₁.setTop (mkF m 69 #[vi ((x_.toUInt32 >>> ((4 : Int32) &&& 31).toUInt32).toInt32), vi ((27 : Int32) + (-2 : Int32))] []))
            rw [show ((27 : Int32) + (-2 : Int32)) = (25 : Int32) from by decide]
            show Goes p e below _ (s₁.setTop (mkF m 69 #[vi ((x_.toUInt32 >>> ((4 : Int32) &&& 31).toUInt32).toInt32), vi (25 : Int32)] []))
            refine gILN X0 hx hby d17_69 rfl ?_
            refine gIC (z := 2) X0 hx hby d17_70 rfl ?_
            refine Goes.via (fun _ kk_ => XS.iushr X0.here hx rfl (hb hby d17_71) rfl kk_) ?_
            show Goes p e below _ (s₁.setTop (mkF m 72 #[vi ((x_.toUInt32 >>> ((4 : Int32) &&& 31).toUInt32).toInt32), vi (25 : Int32)] [(.int ((((x_.toUInt32 >>> ((4 : Int32) &&& 31).toUInt32).toInt32).toUInt32 >>> ((2 : Int32) &&& 31).toUInt32).toInt32))]))
            refine Goes.via (fun _ kk_ => XS.istoreN X0.here hx rfl (hb hby d17_72) rfl (l' := #[vi ((((x_.toUInt32 >>> ((4 : Int32) &&& 31).toUInt32).toInt32).toUInt32 >>> ((2 : Int32) &&& 31).toUInt32).toInt32), vi (25 : Int32)]) rfl kk_) ?_
            show Goes p e below _ (s₁.setTop (mkF m 73 #[vi ((((x_.toUInt32 >>> ((4 : Int32) &&& 31).toUInt32).toInt32).toUInt32 >>> ((2 : Int32) &&& 31).toUInt32).toInt32), vi (25 : Int32)] []))
            refine gILN X0 hx hby d17_73 rfl ?_
            refine gILN X0 hx hby d17_74 rfl ?_
            refine gIC (z := 1) X0 hx hby d17_75 rfl ?_
            refine Goes.via (fun _ kk_ => XS.iushr X0.here hx rfl (hb hby d17_76) rfl kk_) ?_
            show Goes p e below _ (s₁.setTop (mkF m 77 #[vi ((((x_.toUInt32 >>> ((4 : Int32) &&& 31).toUInt32).toInt32).toUInt32 >>> ((2 : Int32) &&& 31).toUInt32).toInt32), vi (25 : Int32)] [(.int ((((((x_.toUInt32 >>> ((4 : Int32) &&& 31).toUInt32).toInt32).toUInt32 >>> ((2 : Int32) &&& 31).toUInt32).toInt32).toUInt32 >>> ((1 : Int32) &&& 31).toUInt32).toInt32)), (.int (25 : Int32))]))
            refine Goes.via (fun _ kk_ => XS.isub X0.here hx rfl (hb hby d17_77) rfl kk_) ?_
            show Goes p e below _ (s₁.setTop (mkF m 78 #[vi ((((x_.toUInt32 >>> ((4 : Int32) &&& 31).toUInt32).toInt32).toUInt32 >>> ((2 : Int32) &&& 31).toUInt32).toInt32), vi (25 : Int32)] [(.int ((25 : Int32) - ((((((x_.toUInt32 >>> ((4 : Int32) &&& 31).toUInt32).toInt32).toUInt32 >>> ((2 : Int32) &&& 31).toUInt32).toInt32).toUInt32 >>> ((1 : Int32) &&& 31).toUInt32).toInt32)))]))
            exact own_finI X0 hx hlk hret (hb hby d17_78) (by rw [e0]; exact ⟨(by rw [own_nlzI, if_pos hc1, if_pos hc22, if_pos hc37, if_neg hc51, if_neg hc63]; first | done | rfl | exact own_nc _), rfl, rfl⟩) (by first | decide | omega | (dsimp only; omega)) (by first | decide | omega | (dsimp only; omega))
      · skip
        refine Goes.via (fun _ kk_ => XS.icmpNo X0.here hx rfl (hb hby d17_37) rfl (flt hc37).1 kk_) ?_
        show Goes p e below _ (s₁.setTop (mkF m 40 #[vi x_, vi (31 : Int32)] []))
        refine Goes.via (fun _ kk_ => XS.iinc X0.here hx rfl (hb hby d17_40) rfl (l' := #[vi x_, vi ((31 : Int32) + (-8 : Int32))]) rfl kk_) ?_
        show Goes p e below _ (s₁.setTop (mkF m 43 #[vi x_, vi ((31 : Int32) + (-8 : Int32))] []))
        rw [show ((31 : Int32) + (-8 : Int32)) = (23 : Int32) from by decide]
        show Goes p e below _ (s₁.setTop (mkF m 43 #[vi x_, vi (23 : Int32)] []))
        refine gILN X0 hx hby d17_43 rfl ?_
        refine gBI (z := 8) X0 hx hby d17_44 rfl ?_
        refine Goes.via (fun _ kk_ => XS.iushr X0.here hx rfl (hb hby d17_46) rfl kk_) ?_
        show Goes p e below _ (s₁.setTop (mkF m 47 #[vi x_, vi (23 : Int32)] [(.int ((x_.toUInt32 >>> ((8 : Int32) &&& 31).toUInt32).toInt32))]))
        refine Goes.via (fun _ kk_ => XS.istoreN X0.here hx rfl (hb hby d17_47) rfl (l' := #[vi ((x_.toUInt32 >>> ((8 : Int32) &&& 31).toUInt32).toInt32), vi (23 : Int32)]) rfl kk_) ?_
        show Goes p e below _ (s₁.setTop (mkF m 48 #[vi ((x_.toUInt32 >>> ((8 : Int32) &&& 31).toUInt32).toInt32), vi (23 : Int32)] []))
        refine gILN X0 hx hby d17_48 rfl ?_
        refine gBI (z := 16) X0 hx hby d17_49 rfl ?_
        by_cases hc51 : ((x_.toUInt32 >>> ((8 : Int32) &&& 31).toUInt32).toInt32) < (16 : Int32)
        · skip
          refine Goes.via (fun _ kk_ => XS.icmpYes X0.here hx rfl (pc0 := 51) (pc' := 61) rfl (hb hby d17_51) rfl (tlt hc51).1 (by decide) (by decide) kk_) ?_
          show Goes p e below _ (s₁.setTop (mkF m 61 #[vi ((x_.toUInt32 >>> ((8 : Int32) &&& 31).toUInt32).toInt32), vi (23 : Int32)] []))
          refine gILN X0 hx hby d17_61 rfl ?_
          refine gIC (z := 4) X0 hx hby d17_62 rfl ?_
          by_cases hc63 : ((x_.toUInt32 >>> ((8 : Int32) &&& 31).toUInt32).toInt32) < (4 : Int32)
          · skip
            refine Goes.via (fun _ kk_ => XS.icmpYes X0.here hx rfl (pc0 := 63) (pc' := 73) rfl (hb hby d17_63) rfl (tlt hc63).1 (by decide) (by decide) kk_) ?_
            show Goes p e below _ (s₁.setTop (mkF m 73 #[vi ((x_.toUInt32 >>> ((8 : Int32) &&& 31).toUInt32).toInt32), vi (23 : Int32)] []))
            refine gILN X0 hx hby d17_73 rfl ?_
            refine gILN X0 hx hby d17_74 rfl ?_
            refine gIC (z := 1) X0 hx hby d17_75 rfl ?_
            refine Goes.via (fun _ kk_ => XS.iushr X0.here hx rfl (hb hby d17_76) rfl kk_) ?_
            show Goes p e below _ (s₁.setTop (mkF m 77 #[vi ((x_.toUInt32 >>> ((8 : Int32) &&& 31).toUInt32).toInt32), vi (23 : Int32)] [(.int ((((x_.toUInt32 >>> ((8 : Int32) &&& 31).toUInt32).toInt32).toUInt32 >>> ((1 : Int32) &&& 31).toUInt32).toInt32)), (.int (23 : Int32))]))
            refine Goes.via (fun _ kk_ => XS.isub X0.here hx rfl (hb hby d17_77) rfl kk_) ?_
            show Goes p e below _ (s₁.setTop (mkF m 78 #[vi ((x_.toUInt32 >>> ((8 : Int32) &&& 31).toUInt32).toInt32), vi (23 : Int32)] [(.int ((23 : Int32) - ((((x_.toUInt32 >>> ((8 : Int32) &&& 31).toUInt32).toInt32).toUInt32 >>> ((1 : Int32) &&& 31).toUInt32).toInt32)))]))
            exact own_finI X0 hx hlk hret (hb hby d17_78) (by rw [e0]; exact ⟨(by rw [own_nlzI, if_pos hc1, if_pos hc22, if_neg hc37, if_pos hc51, if_pos hc63]; first | done | rfl | exact own_nc _), rfl, rfl⟩) (by first | decide | omega | (dsimp only; omega)) (by first | decide | omega | (dsimp only; omega))
          · skip
            refine Goes.via (fun _ kk_ => XS.icmpNo X0.here hx rfl (hb hby d17_63) rfl (flt hc63).1 kk_) ?_
            show Goes p e below _ (s₁.setTop (mkF m 66 #[vi ((x_.toUInt32 >>> ((8 : Int32) &&& 31).toUInt32).toInt32), vi (23 : Int32)] []))
            refine Goes.via (fun _ kk_ => XS.iinc X0.here hx rfl (hb hby d17_66) rfl (l' := #[vi ((x_.toUInt32 >>> ((8 : Int32) &&& 31).toUInt32).toInt32), vi ((23 : Int32) + (-2 : Int32))]) rfl kk_) ?_
            show Goes p e below _ (s₁.setTop (mkF m 69 #[vi ((x_.toUInt32 >>> ((8 : Int32) &&& 31).toUInt32).toInt32), vi ((23 : Int32) + (-2 : Int32))] []))
            rw [show ((23 : Int32) + (-2 : Int32)) = (21 : Int32) from by decide]
            show Goes p e below _ (s₁.setTop (mkF m 69 #[vi ((x_.toUInt32 >>> ((8 : Int32) &&& 31).toUInt32).toInt32), vi (21 : Int32)] []))
            refine gILN X0 hx hby d17_69 rfl ?_
            refine gIC (z := 2) X0 hx hby d17_70 rfl ?_
            refine Goes.via (fun _ kk_ => XS.iushr X0.here hx rfl (hb hby d17_71) rfl kk_) ?_
            show Goes p e below _ (s₁.setTop (mkF m 72 #[vi ((x_.toUInt32 >>> ((8 : Int32) &&& 31).toUInt32).toInt32), vi (21 : Int32)] [(.int ((((x_.toUInt32 >>> ((8 : Int32) &&& 31).toUInt32).toInt32).toUInt32 >>> ((2 : Int32) &&& 31).toUInt32).toInt32))]))
            refine Goes.via (fun _ kk_ => XS.istoreN X0.here hx rfl (hb hby d17_72) rfl (l' := #[vi ((((x_.toUInt32 >>> ((8 : Int32) &&& 31).toUInt32).toInt32).toUInt32 >>> ((2 : Int32) &&& 31).toUInt32).toInt32), vi (21 : Int32)]) rfl kk_) ?_
            show Goes p e below _ (s₁.setTop (mkF m 73 #[vi ((((x_.toUInt32 >>> ((8 : Int32) &&& 31).toUInt32).toInt32).toUInt32 >>> ((2 : Int32) &&& 31).toUInt32).toInt32), vi (21 : Int32)] []))
            refine gILN X0 hx hby d17_73 rfl ?_
            refine gILN X0 hx hby d17_74 rfl ?_
            refine gIC (z := 1) X0 hx hby d17_75 rfl ?_
            refine Goes.via (fun _ kk_ => XS.iushr X0.here hx rfl (hb hby d17_76) rfl kk_) ?_
            show Goes p e below _ (s₁.setTop (mkF m 77 #[vi ((((x_.toUInt32 >>> ((8 : Int32) &&& 31).toUInt32).toInt32).toUInt32 >>> ((2 : Int32) &&& 31).toUInt32).toInt32), vi (21 : Int32)] [(.int ((((((x_.toUInt32 >>> ((8 : Int32) &&& 31).toUInt32).toInt32).toUInt32 >>> ((2 : Int32) &&& 31).toUInt32).toInt32).toUInt32 >>> ((1 : Int32) &&& 31).toUInt32).toInt32)), (.int (21 : Int32))]))
            refine Goes.via (fun _ kk_ => XS.isub X0.here hx rfl (hb hby d17_77) rfl kk_) ?_
            show Goes p e below _ (s₁.setTop (mkF m 78 #[vi ((((x_.toUInt32 >>> ((8 : Int32) &&& 31).toUInt32).toInt32).toUInt32 >>> ((2 : Int32) &&& 31).toUInt32).toInt32), vi (21 : Int32)] [(.int ((21 : Int32) - ((((((x_.toUInt32 >>> ((8 : Int32) &&& 31).toUInt32).toInt32).toUInt32 >>> ((2 : Int32) &&& 31).toUInt32).toInt32).toUInt32 >>> ((1 : Int32) &&& 31).toUInt32).toInt32)))]))
            exact own_finI X0 hx hlk hret (hb hby d17_78) (by rw [e0]; exact ⟨(by rw [own_nlzI, if_pos hc1, if_pos hc22, if_neg hc37, if_pos hc51, if_neg hc63]; first | done | rfl | exact own_nc _), rfl, rfl⟩) (by first | decide | omega | (dsimp only; omega)) (by first | decide | omega | (dsimp only; omega))
        · skip
          refine Goes.via (fun _ kk_ => XS.icmpNo X0.here hx rfl (hb hby d17_51) rfl (flt hc51).1 kk_) ?_
          show Goes p e below _ (s₁.setTop (mkF m 54 #[vi ((x_.toUInt32 >>> ((8 : Int32) &&& 31).toUInt32).toInt32), vi (23 : Int32)] []))
          refine Goes.via (fun _ kk_ => XS.iinc X0.here hx rfl (hb hby d17_54) rfl (l' := #[vi ((x_.toUInt32 >>> ((8 : Int32) &&& 31).toUInt32).toInt32), vi ((23 : Int32) + (-4 : Int32))]) rfl kk_) ?_
          show Goes p e below _ (s₁.setTop (mkF m 57 #[vi ((x_.toUInt32 >>> ((8 : Int32) &&& 31).toUInt32).toInt32), vi ((23 : Int32) + (-4 : Int32))] []))
          rw [show ((23 : Int32) + (-4 : Int32)) = (19 : Int32) from by decide]
          show Goes p e below _ (s₁.setTop (mkF m 57 #[vi ((x_.toUInt32 >>> ((8 : Int32) &&& 31).toUInt32).toInt32), vi (19 : Int32)] []))
          refine gILN X0 hx hby d17_57 rfl ?_
          refine gIC (z := 4) X0 hx hby d17_58 rfl ?_
          refine Goes.via (fun _ kk_ => XS.iushr X0.here hx rfl (hb hby d17_59) rfl kk_) ?_
          show Goes p e below _ (s₁.setTop (mkF m 60 #[vi ((x_.toUInt32 >>> ((8 : Int32) &&& 31).toUInt32).toInt32), vi (19 : Int32)] [(.int ((((x_.toUInt32 >>> ((8 : Int32) &&& 31).toUInt32).toInt32).toUInt32 >>> ((4 : Int32) &&& 31).toUInt32).toInt32))]))
          refine Goes.via (fun _ kk_ => XS.istoreN X0.here hx rfl (hb hby d17_60) rfl (l' := #[vi ((((x_.toUInt32 >>> ((8 : Int32) &&& 31).toUInt32).toInt32).toUInt32 >>> ((4 : Int32) &&& 31).toUInt32).toInt32), vi (19 : Int32)]) rfl kk_) ?_
          show Goes p e below _ (s₁.setTop (mkF m 61 #[vi ((((x_.toUInt32 >>> ((8 : Int32) &&& 31).toUInt32).toInt32).toUInt32 >>> ((4 : Int32) &&& 31).toUInt32).toInt32), vi (19 : Int32)] []))
          refine gILN X0 hx hby d17_61 rfl ?_
          refine gIC (z := 4) X0 hx hby d17_62 rfl ?_
          by_cases hc63 : ((((x_.toUInt32 >>> ((8 : Int32) &&& 31).toUInt32).toInt32).toUInt32 >>> ((4 : Int32) &&& 31).toUInt32).toInt32) < (4 : Int32)
          · skip
            refine Goes.via (fun _ kk_ => XS.icmpYes X0.here hx rfl (pc0 := 63) (pc' := 73) rfl (hb hby d17_63) rfl (tlt hc63).1 (by decide) (by decide) kk_) ?_
            show Goes p e below _ (s₁.setTop (mkF m 73 #[vi ((((x_.toUInt32 >>> ((8 : Int32) &&& 31).toUInt32).toInt32).toUInt32 >>> ((4 : Int32) &&& 31).toUInt32).toInt32), vi (19 : Int32)] []))
            refine gILN X0 hx hby d17_73 rfl ?_
            refine gILN X0 hx hby d17_74 rfl ?_
            refine gIC (z := 1) X0 hx hby d17_75 rfl ?_
            refine Goes.via (fun _ kk_ => XS.iushr X0.here hx rfl (hb hby d17_76) rfl kk_) ?_
            show Goes p e below _ (s₁.setTop (mkF m 77 #[vi ((((x_.toUInt32 >>> ((8 : Int32) &&& 31).toUInt32).toInt32).toUInt32 >>> ((4 : Int32) &&& 31).toUInt32).toInt32), vi (19 : Int32)] [(.int ((((((x_.toUInt32 >>> ((8 : Int32) &&& 31).toUInt32).toInt32).toUInt32 >>> ((4 : Int32) &&& 31).toUInt32).toInt32).toUInt32 >>> ((1 : Int32) &&& 31).toUInt32).toInt32)), (.int (19 : Int32))]))
            refine Goes.via (fun _ kk_ => XS.isub X0.here hx rfl (hb hby d17_77) rfl kk_) ?_
            show Goes p e below _ (s₁.setTop (mkF m 78 #[vi ((((x_.toUInt32 >>> ((8 : Int32) &&& 31).toUInt32).toInt32).toUInt32 >>> ((4 : Int32) &&& 31).toUInt32).toInt32), vi (19 : Int32)] [(.int ((19 : Int32) - ((((((x_.toUInt32 >>> ((8 : Int32) &&& 31).toUInt32).toInt32).toUInt32 >>> ((4 : Int32) &&& 31).toUInt32).toInt32).toUInt32 >>> ((1 : Int32) &&& 31).toUInt32).toInt32)))]))
            exact own_finI X0 hx hlk hret (hb hby d17_78) (by rw [e0]; exact ⟨(by rw [own_nlzI, if_pos hc1, if_pos hc22, if_neg hc37, if_neg hc51, if_pos hc63]; first | done | rfl | exact own_nc _), rfl, rfl⟩) (by first | decide | omega | (dsimp only; omega)) (by first | decide | omega | (dsimp only; omega))
          · skip
            refine Goes.via (fun _ kk_ => XS.icmpNo X0.here hx rfl (hb hby d17_63) rfl (flt hc63).1 kk_) ?_
            show Goes p e below _ (s₁.setTop (mkF m 66 #[vi ((((x_.toUInt32 >>> ((8 : Int32) &&& 31).toUInt32).toInt32).toUInt32 >>> ((4 : Int32) &&& 31).toUInt32).toInt32), vi (19 : Int32)] []))
            refine Goes.via (fun _ kk_ => XS.iinc X0.here hx rfl (hb hby d17_66) rfl (l' := #[vi ((((x_.toUInt32 >>> ((8 : Int32) &&& 31).toUInt32).toInt32).toUInt32 >>> ((4 : Int32) &&& 31).toUInt32).toInt32), vi ((19 : Int32) + (-2 : Int32))]) rfl kk_) ?_
            show Goes p e below _ (s₁.setTop (mkF m 69 #[vi ((((x_.toUInt32 >>> ((8 : Int32) &&& 31).toUInt32).toInt32).toUInt32 >>> ((4 : Int32) &&& 31).toUInt32).toInt32), vi ((19 : Int32) + (-2 : Int32))] []))
            rw [show ((19 : Int32) + (-2 : Int32)) = (17 : Int32) from by decide]
            show Goes p e below _ (s₁.setTop (mkF m 69 #[vi ((((x_.toUInt32 >>> ((8 : Int32) &&& 31).toUInt32).toInt32).toUInt32 >>> ((4 : Int32) &&& 31).toUInt32).toInt32), vi (17 : Int32)] []))
            refine gILN X0 hx hby d17_69 rfl ?_
            refine gIC (z := 2) X0 hx hby d17_70 rfl ?_
            refine Goes.via (fun _ kk_ => XS.iushr X0.here hx rfl (hb hby d17_71) rfl kk_) ?_
            show Goes p e below _ (s₁.setTop (mkF m 72 #[vi ((((x_.toUInt32 >>> ((8 : Int32) &&& 31).toUInt32).toInt32).toUInt32 >>> ((4 : Int32) &&& 31).toUInt32).toInt32), vi (17 : Int32)] [(.int ((((((x_.toUInt32 >>> ((8 : Int32) &&& 31).toUInt32).toInt32).toUInt32 >>> ((4 : Int32) &&& 31).toUInt32).toInt32).toUInt32 >>> ((2 : Int32) &&& 31).toUInt32).toInt32))]))
            refine Goes.via (fun _ kk_ => XS.istoreN X0.here hx rfl (hb hby d17_72) rfl (l' := #[vi ((((((x_.toUInt32 >>> ((8 : Int32) &&& 31).toUInt32).toInt32).toUInt32 >>> ((4 : Int32) &&& 31).toUInt32).toInt32).toUInt32 >>> ((2 : Int32) &&& 31).toUInt32).toInt32), vi (17 : Int32)]) rfl kk_) ?_
            show Goes p e below _ (s₁.setTop (mkF m 73 #[vi ((((((x_.toUInt32 >>> ((8 : Int32) &&& 31).toUInt32).toInt32).toUInt32 >>> ((4 : Int32) &&& 31).toUInt32).toInt32).toUInt32 >>> ((2 : Int32) &&& 31).toUInt32).toInt32), vi (17 : Int32)] []))
            refine gILN X0 hx hby d17_73 rfl ?_
            refine gILN X0 hx hby d17_74 rfl ?_
            refine gIC (z := 1) X0 hx hby d17_75 rfl ?_
            refine Goes.via (fun _ kk_ => XS.iushr X0.here hx rfl (hb hby d17_76) rfl kk_) ?_
            show Goes p e below _ (s₁.setTop (mkF m 77 #[vi ((((((x_.toUInt32 >>> ((8 : Int32) &&& 31).toUInt32).toInt32).toUInt32 >>> ((4 : Int32) &&& 31).toUInt32).toInt32).toUInt32 >>> ((2 : Int32) &&& 31).toUInt32).toInt32), vi (17 : Int32)] [(.int ((((((((x_.toUInt32 >>> ((8 : Int32) &&& 31).toUInt32).toInt32).toUInt32 >>> ((4 : Int32) &&& 31).toUInt32).toInt32).toUInt32 >>> ((2 : Int32) &&& 31).toUInt32).toInt32).toUInt32 >>> ((1 : Int32) &&& 31).toUInt32).toInt32)), (.int (17 : Int32))]))
            refine Goes.via (fun _ kk_ => XS.isub X0.here hx rfl (hb hby d17_77) rfl kk_) ?_
            show Goes p e below _ (s₁.setTop (mkF m 78 #[vi ((((((x_.toUInt32 >>> ((8 : Int32) &&& 31).toUInt32).toInt32).toUInt32 >>> ((4 : Int32) &&& 31).toUInt32).toInt32).toUInt32 >>> ((2 : Int32) &&& 31).toUInt32).toInt32), vi (17 : Int32)] [(.int ((17 : Int32) - ((((((((x_.toUInt32 >>> ((8 : Int32) &&& 31).toUInt32).toInt32).toUInt32 >>> ((4 : Int32) &&& 31).toUInt32).toInt32).toUInt32 >>> ((2 : Int32) &&& 31).toUInt32).toInt32).toUInt32 >>> ((1 : Int32) &&& 31).toUInt32).toInt32)))]))
            exact own_finI X0 hx hlk hret (hb hby d17_78) (by rw [e0]; exact ⟨(by rw [own_nlzI, if_pos hc1, if_pos hc22, if_neg hc37, if_neg hc51, if_neg hc63]; first | done | rfl | exact own_nc _), rfl, rfl⟩) (by first | decide | omega | (dsimp only; omega)) (by first | decide | omega | (dsimp only; omega))
    · skip
      refine Goes.via (fun _ kk_ => XS.icmpNo X0.here hx rfl (hb hby d17_22) rfl (flt hc22).1 kk_) ?_
      show Goes p e below _ (s₁.setTop (mkF m 25 #[vi x_, vi (31 : Int32)] []))
      refine Goes.via (fun _ kk_ => XS.iinc X0.here hx rfl (hb hby d17_25) rfl (l' := #[vi x_, vi ((31 : Int32) + (-16 : Int32))]) rfl kk_) ?_
      show Goes p e below _ (s₁.setTop (mkF m 28 #[vi x_, vi ((31 : Int32) + (-16 : Int32))] []))
      rw [show ((31 : Int32) + (-16 : Int32)) = (15 : Int32) from by decide]
      show Goes p e below _ (s₁.setTop (mkF m 28 #[vi x_, vi (15 : Int32)] []))
      refine gILN X0 hx hby d17_28 rfl ?_
      refine gBI (z := 16) X0 hx hby d17_29 rfl ?_
      refine Goes.via (fun _ kk_ => XS.iushr X0.here hx rfl (hb hby d17_31) rfl kk_) ?_
      show Goes p e below _ (s₁.setTop (mkF m 32 #[vi x_, vi (15 : Int32)] [(.int ((x_.toUInt32 >>> ((16 : Int32) &&& 31).toUInt32).toInt32))]))
      refine Goes.via (fun _ kk_ => XS.istoreN X0.here hx rfl (hb hby d17_32) rfl (l' := #[vi ((x_.toUInt32 >>> ((16 : Int32) &&& 31).toUInt32).toInt32), vi (15 : Int32)]) rfl kk_) ?_
      show Goes p e below _ (s₁.setTop (mkF m 33 #[vi ((x_.toUInt32 >>> ((16 : Int32) &&& 31).toUInt32).toInt32), vi (15 : Int32)] []))
      refine gILN X0 hx hby d17_33 rfl ?_
      refine gSI (z := 256) X0 hx hby d17_34 rfl ?_
      by_cases hc37 : ((x_.toUInt32 >>> ((16 : Int32) &&& 31).toUInt32).toInt32) < (256 : Int32)
      · skip
        refine Goes.via (fun _ kk_ => XS.icmpYes X0.here hx rfl (pc0 := 37) (pc' := 48) rfl (hb hby d17_37) rfl (tlt hc37).1 (by decide) (by decide) kk_) ?_
        show Goes p e below _ (s₁.setTop (mkF m 48 #[vi ((x_.toUInt32 >>> ((16 : Int32) &&& 31).toUInt32).toInt32), vi (15 : Int32)] []))
        refine gILN X0 hx hby d17_48 rfl ?_
        refine gBI (z := 16) X0 hx hby d17_49 rfl ?_
        by_cases hc51 : ((x_.toUInt32 >>> ((16 : Int32) &&& 31).toUInt32).toInt32) < (16 : Int32)
        · skip
          refine Goes.via (fun _ kk_ => XS.icmpYes X0.here hx rfl (pc0 := 51) (pc' := 61) rfl (hb hby d17_51) rfl (tlt hc51).1 (by decide) (by decide) kk_) ?_
          show Goes p e below _ (s₁.setTop (mkF m 61 #[vi ((x_.toUInt32 >>> ((16 : Int32) &&& 31).toUInt32).toInt32), vi (15 : Int32)] []))
          refine gILN X0 hx hby d17_61 rfl ?_
          refine gIC (z := 4) X0 hx hby d17_62 rfl ?_
          by_cases hc63 : ((x_.toUInt32 >>> ((16 : Int32) &&& 31).toUInt32).toInt32) < (4 : Int32)
          · skip
            refine Goes.via (fun _ kk_ => XS.icmpYes X0.here hx rfl (pc0 := 63) (pc' := 73) rfl (hb hby d17_63) rfl (tlt hc63).1 (by decide) (by decide) kk_) ?_
            show Goes p e below _ (s₁.setTop (mkF m 73 #[vi ((x_.toUInt32 >>> ((16 : Int32) &&& 31).toUInt32).toInt32), vi (15 : Int32)] []))
            refine gILN X0 hx hby d17_73 rfl ?_
            refine gILN X0 hx hby d17_74 rfl ?_
            refine gIC (z := 1) X0 hx hby d17_75 rfl ?_
            refine Goes.via (fun _ kk_ => XS.iushr X0.here hx rfl (hb hby d17_76) rfl kk_) ?_
            show Goes p e below _ (s₁.setTop (mkF m 77 #[vi ((x_.toUInt32 >>> ((16 : Int32) &&& 31).toUInt32).toInt32), vi (15 : Int32)] [(.int ((((x_.toUInt32 >>> ((16 : Int32) &&& 31).toUInt32).toInt32).toUInt32 >>> ((1 : Int32) &&& 31).toUInt32).toInt32)), (.int (15 : Int32))]))
            refine Goes.via (fun _ kk_ => XS.isub X0.here hx rfl (hb hby d17_77) rfl kk_) ?_
            show Goes p e below _ (s₁.setTop (mkF m 78 #[vi ((x_.toUInt32 >>> ((16 : Int32) &&& 31).toUInt32).toInt32), vi (15 : Int32)] [(.int ((15 : Int32) - ((((x_.toUInt32 >>> ((16 : Int32) &&& 31).toUInt32).toInt32).toUInt32 >>> ((1 : Int32) &&& 31).toUInt32).toInt32)))]))
            exact own_finI X0 hx hlk hret (hb hby d17_78) (by rw [e0]; exact ⟨(by rw [own_nlzI, if_pos hc1, if_neg hc22, if_pos hc37, if_pos hc51, if_pos hc63]; first | done | rfl | exact own_nc _), rfl, rfl⟩) (by first | decide | omega | (dsimp only; omega)) (by first | decide | omega | (dsimp only; omega))
          · skip
            refine Goes.via (fun _ kk_ => XS.icmpNo X0.here hx rfl (hb hby d17_63) rfl (flt hc63).1 kk_) ?_
            show Goes p e below _ (s₁.setTop (mkF m 66 #[vi ((x_.toUInt32 >>> ((16 : Int32) &&& 31).toUInt32).toInt32), vi (15 : Int32)] []))
            refine Goes.via (fun _ kk_ => XS.iinc X0.here hx rfl (hb hby d17_66) rfl (l' := #[vi ((x_.toUInt32 >>> ((16 : Int32) &&& 31).toUInt32).toInt32), vi ((15 : Int32) + (-2 : Int32))]) rfl kk_) ?_
            show Goes p e below _ (s₁.setTop (mkF m 69 #[vi ((x_.toUInt32 >>> ((16 : Int32) &&& 31).toUInt32).toInt32), vi ((15 : Int32) + (-2 : Int32))] []))
            rw [show ((15 : Int32) + (-2 : Int32)) = (13 : Int32) from by decide]
            show Goes p e below _ (s₁.setTop (mkF m 69 #[vi ((x_.toUInt32 >>> ((16 : Int32) &&& 31).toUInt32).toInt32), vi (13 : Int32)] []))
            refine gILN X0 hx hby d17_69 rfl ?_
            refine gIC (z := 2) X0 hx hby d17_70 rfl ?_
            refine Goes.via (fun _ kk_ => XS.iushr X0.here hx rfl (hb hby d17_71) rfl kk_) ?_
            show Goes p e below _ (s₁.setTop (mkF m 72 #[vi ((x_.toUInt32 >>> ((16 : Int32) &&& 31).toUInt32).toInt32), vi (13 : Int32)] [(.int ((((x_.toUInt32 >>> ((16 : Int32) &&& 31).toUInt32).toInt32).toUInt32 >>> ((2 : Int32) &&& 31).toUInt32).toInt32))]))
            refine Goes.via (fun _ kk_ => XS.istoreN X0.here hx rfl (hb hby d17_72) rfl (l' := #[vi ((((x_.toUInt32 >>> ((16 : Int32) &&& 31).toUInt32).toInt32).toUInt32 >>> ((2 : Int32) &&& 31).toUInt32).toInt32), vi (13 : Int32)]) rfl kk_) ?_
            show Goes p e below _ (s₁.setTop (mkF m 73 #[vi ((((x_.toUInt32 >>> ((16 : Int32) &&& 31).toUInt32).toInt32).toUInt32 >>> ((2 : Int32) &&& 31).toUInt32).toInt32), vi (13 : Int32)] []))
            refine gILN X0 hx hby d17_73 rfl ?_
            refine gILN X0 hx hby d17_74 rfl ?_
            refine gIC (z := 1) X0 hx hby d17_75 rfl ?_
            refine Goes.via (fun _ kk_ => XS.iushr X0.here hx rfl (hb hby d17_76) rfl kk_) ?_
            show Goes p e below _ (s₁.setTop (mkF m 77 #[vi ((((x_.toUInt32 >>> ((16 : Int32) &&& 31).toUInt32).toInt32).toUInt32 >>> ((2 : Int32) &&& 31).toUInt32).toInt32), vi (13 : Int32)] [(.int ((((((x_.toUInt32 >>> ((16 : Int32) &&& 31).toUInt32).toInt32).toUInt32 >>> ((2 : Int32) &&& 31).toUInt32).toInt32).toUInt32 >>> ((1 : Int32) &&& 31).toUInt32).toInt32)), (.int (13 : Int32))]))
            refine Goes.via (fun _ kk_ => XS.isub X0.here hx rfl (hb hby d17_77) rfl kk_) ?_
            show Goes p e below _ (s₁.setTop (mkF m 78 #[vi ((((x_.toUInt32 >>> ((16 : Int32) &&& 31).toUInt32).toInt32).toUInt32 >>> ((2 : Int32) &&& 31).toUInt32).toInt32), vi (13 : Int32)] [(.int ((13 : Int32) - ((((((x_.toUInt32 >>> ((16 : Int32) &&& 31).toUInt32).toInt32).toUInt32 >>> ((2 : Int32) &&& 31).toUInt32).toInt32).toUInt32 >>> ((1 : Int32) &&& 31).toUInt32).toInt32)))]))
            exact own_finI X0 hx hlk hret (hb hby d17_78) (by rw [e0]; exact ⟨(by rw [own_nlzI, if_pos hc1, if_neg hc22, if_pos hc37, if_pos hc51, if_neg hc63]; first | done | rfl | exact own_nc _), rfl, rfl⟩) (by first | decide | omega | (dsimp only; omega)) (by first | decide | omega | (dsimp only; omega))
        · skip
          refine Goes.via (fun _ kk_ => XS.icmpNo X0.here hx rfl (hb hby d17_51) rfl (flt hc51).1 kk_) ?_
          show Goes p e below _ (s₁.setTop (mkF m 54 #[vi ((x_.toUInt32 >>> ((16 : Int32) &&& 31).toUInt32).toInt32), vi (15 : Int32)] []))
          refine Goes.via (fun _ kk_ => XS.iinc X0.here hx rfl (hb hby d17_54) rfl (l' := #[vi ((x_.toUInt32 >>> ((16 : Int32) &&& 31).toUInt32).toInt32), vi ((15 : Int32) + (-4 : Int32))]) rfl kk_) ?_
          show Goes p e below _ (s₁.setTop (mkF m 57 #[vi ((x_.toUInt32 >>> ((16 : Int32) &&& 31).toUInt32).toInt32), vi ((15 : Int32) + (-4 : Int32))] []))
          rw [show ((15 : Int32) + (-4 : Int32)) = (11 : Int32) from by decide]
          show Goes p e below _ (s₁.setTop (mkF m 57 #[vi ((x_.toUInt32 >>> ((16 : Int32) &&& 31).toUInt32).toInt32), vi (11 : Int32)] []))
          refine gILN X0 hx hby d17_57 rfl ?_
          refine gIC (z := 4) X0 hx hby d17_58 rfl ?_
          refine Goes.via (fun _ kk_ => XS.iushr X0.here hx rfl (hb hby d17_59) rfl kk_) ?_
          show Goes p e below _ (s₁.setTop (mkF m 60 #[vi ((x_.toUInt32 >>> ((16 : Int32) &&& 31).toUInt32).toInt32), vi (11 : Int32)] [(.int ((((x_.toUInt32 >>> ((16 : Int32) &&& 31).toUInt32).toInt32).toUInt32 >>> ((4 : Int32) &&& 31).toUInt32).toInt32))]))
          refine Goes.via (fun _ kk_ => XS.istoreN X0.here hx rfl (hb hby d17_60) rfl (l' := #[vi ((((x_.toUInt32 >>> ((16 : Int32) &&& 31).toUInt32).toInt32).toUInt32 >>> ((4 : Int32) &&& 31).toUInt32).toInt32), vi (11 : Int32)]) rfl kk_) ?_
          show Goes p e below _ (s₁.setTop (mkF m 61 #[vi ((((x_.toUInt32 >>> ((16 : Int32) &&& 31).toUInt32).toInt32).toUInt32 >>> ((4 : Int32) &&& 31).toUInt32).toInt32), vi (11 : Int32)] []))
          refine gILN X0 hx hby d17_61 rfl ?_
          refine gIC (z := 4) X0 hx hby d17_62 rfl ?_
          by_cases hc63 : ((((x_.toUInt32 >>> ((16 : Int32) &&& 31).toUInt32).toInt32).toUInt32 >>> ((4 : Int32) &&& 31).toUInt32).toInt32) < (4 : Int32)
          · skip
            refine Goes.via (fun _ kk_ => XS.icmpYes X0.here hx rfl (pc0 := 63) (pc' := 73) rfl (hb hby d17_63) rfl (tlt hc63).1 (by decide) (by decide) kk_) ?_
            show Goes p e below _ (s₁.setTop (mkF m 73 #[vi ((((x_.toUInt32 >>> ((16 : Int32) &&& 31).toUInt32).toInt32).toUInt32 >>> ((4 : Int32) &&& 31).toUInt32).toInt32), vi (11 : Int32)] []))
            refine gILN X0 hx hby d17_73 rfl ?_
            refine gILN X0 hx hby d17_74 rfl ?_
            refine gIC (z := 1) X0 hx hby d17_75 rfl ?_
            refine Goes.via (fun _ kk_ => XS.iushr X0.here hx rfl (hb hby d17_76) rfl kk_) ?_
            show Goes p e below _ (s₁.setTop (mkF m 77 #[vi ((((x_.toUInt32 >>> ((16 : Int32) &&& 31).toUInt32).toInt32).toUInt32 >>> ((4 : Int32) &&& 31).toUInt32).toInt32), vi (11 : Int32)] [(.int ((((((x_.toUInt32 >>> ((16 : Int32) &&& 31).toUInt32).toInt32).toUInt32 >>> ((4 : Int32) &&& 31).toUInt32).toInt32).toUInt32 >>> ((1 : Int32) &&& 31).toUInt32).toInt32)), (.int (11 : Int32))]))
            refine Goes.via (fun _ kk_ => XS.isub X0.here hx rfl (hb hby d17_77) rfl kk_) ?_
            show Goes p e below _ (s₁.setTop (mkF m 78 #[vi ((((x_.toUInt32 >>> ((16 : Int32) &&& 31).toUInt32).toInt32).toUInt32 >>> ((4 : Int32) &&& 31).toUInt32).toInt32), vi (11 : Int32)] [(.int ((11 : Int32) - ((((((x_.toUInt32 >>> ((16 : Int32) &&& 31).toUInt32).toInt32).toUInt32 >>> ((4 : Int32) &&& 31).toUInt32).toInt32).toUInt32 >>> ((1 : Int32) &&& 31).toUInt32).toInt32)))]))
            exact own_finI X0 hx hlk hret (hb hby d17_78) (by rw [e0]; exact ⟨(by rw [own_nlzI, if_pos hc1, if_neg hc22, if_pos hc37, if_neg hc51, if_pos hc63]; first | done | rfl | exact own_nc _), rfl, rfl⟩) (by first | decide | omega | (dsimp only; omega)) (by first | decide | omega | (dsimp only; omega))
          · skip
            refine Goes.via (fun _ kk_ => XS.icmpNo X0.here hx rfl (hb hby d17_63) rfl (flt hc63).1 kk_) ?_
            show Goes p e below _ (s₁.setTop (mkF m 66 #[vi ((((x_.toUInt32 >>> ((16 : Int32) &&& 31).toUInt32).toInt32).toUInt32 >>> ((4 : Int32) &&& 31).toUInt32).toInt32), vi (11 : Int32)] []))
            refine Goes.via (fun _ kk_ => XS.iinc X0.here hx rfl (hb hby d17_66) rfl (l' := #[vi ((((x_.toUInt32 >>> ((16 : Int32) &&& 31).toUInt32).toInt32).toUInt32 >>> ((4 : Int32) &&& 31).toUInt32).toInt32), vi ((11 : Int32) + (-2 : Int32))]) rfl kk_) ?_
            show Goes p e below _ (s₁.setTop (mkF m 69 #[vi ((((x_.toUInt32 >>> ((16 : Int32) &&& 31).toUInt32).toInt32).toUInt32 >>> ((4 : Int32) &&& 31).toUInt32).toInt32), vi ((11 : Int32) + (-2 : Int32))] []))
            rw [show ((11 : Int32) + (-2 : Int32)) = (9 : Int32) from by decide]
            show Goes p e below _ (s₁.setTop (mkF m 69 #[vi ((((x_.toUInt32 >>> ((16 : Int32) &&& 31).toUInt32).toInt32).toUInt32 >>> ((4 : Int32) &&& 31).toUInt32).toInt32), vi (9 : Int32)] []))
            refine gILN X0 hx hby d17_69 rfl ?_
            refine gIC (z := 2) X0 hx hby d17_70 rfl ?_
            refine Goes.via (fun _ kk_ => XS.iushr X0.here hx rfl (hb hby d17_71) rfl kk_) ?_
            show Goes p e below _ (s₁.setTop (mkF m 72 #[vi ((((x_.toUInt32 >>> ((16 : Int32) &&& 31).toUInt32).toInt32).toUInt32 >>> ((4 : Int32) &&& 31).toUInt32).toInt32), vi (9 : Int32)] [(.int ((((((x_.toUInt32 >>> ((16 : Int32) &&& 31).toUInt32).toInt32).toUInt32 >>> ((4 : Int32) &&& 31).toUInt32).toInt32).toUInt32 >>> ((2 : Int32) &&& 31).toUInt32).toInt32))]))
            refine Goes.via (fun _ kk_ => XS.istoreN X0.here hx rfl (hb hby d17_72) rfl (l' := #[vi ((((((x_.toUInt32 >>> ((16 : Int32) &&& 31).toUInt32).toInt32).toUInt32 >>> ((4 : Int32) &&& 31).toUInt32).toInt32).toUInt32 >>> ((2 : Int32) &&& 31).toUInt32).toInt32), vi (9 : Int32)]) rfl kk_) ?_
            show Goes p e below _ (s₁.setTop (mkF m 73 #[vi ((((((x_.toUInt32 >>> ((16 : Int32) &&& 31).toUInt32).toInt32).toUInt32 >>> ((4 : Int32) &&& 31).toUInt32).toInt32).toUInt32 >>> ((2 : Int32) &&& 31).toUInt32).toInt32), vi (9 : Int32)] []))
            refine gILN X0 hx hby d17_73 rfl ?_
            refine gILN X0 hx hby d17_74 rfl ?_
            refine gIC (z := 1) X0 hx hby d17_75 rfl ?_
            refine Goes.via (fun _ kk_ => XS.iushr X0.here hx rfl (hb hby d17_76) rfl kk_) ?_
            show Goes p e below _ (s₁.setTop (mkF m 77 #[vi ((((((x_.toUInt32 >>> ((16 : Int32) &&& 31).toUInt32).toInt32).toUInt32 >>> ((4 : Int32) &&& 31).toUInt32).toInt32).toUInt32 >>> ((2 : Int32) &&& 31).toUInt32).toInt32), vi (9 : Int32)] [(.int ((((((((x_.toUInt32 >>> ((16 : Int32) &&& 31).toUInt32).toInt32).toUInt32 >>> ((4 : Int32) &&& 31).toUInt32).toInt32).toUInt32 >>> ((2 : Int32) &&& 31).toUInt32).toInt32).toUInt32 >>> ((1 : Int32) &&& 31).toUInt32).toInt32)), (.int (9 : Int32))]))
            refine Goes.via (fun _ kk_ => XS.isub X0.here hx rfl (hb hby d17_77) rfl kk_) ?_
            show Goes p e below _ (s₁.setTop (mkF m 78 #[vi ((((((x_.toUInt32 >>> ((16 : Int32) &&& 31).toUInt32).toInt32).toUInt32 >>> ((4 : Int32) &&& 31).toUInt32).toInt32).toUInt32 >>> ((2 : Int32) &&& 31).toUInt32).toInt32), vi (9 : Int32)] [(.int ((9 : Int32) - ((((((((x_.toUInt32 >>> ((16 : Int32) &&& 31).toUInt32).toInt32).toUInt32 >>> ((4 : Int32) &&& 31).toUInt32).toInt32).toUInt32 >>> ((2 : Int32) &&& 31).toUInt32).toInt32).toUInt32 >>> ((1 : Int32) &&& 31).toUInt32).toInt32)))]))
            exact own_finI X0 hx hlk hret (hb hby d17_78) (by rw [e0]; exact ⟨(by rw [own_nlzI, if_pos hc1, if_neg hc22, if_pos hc37, if_neg hc51, if_neg hc63]; first | done | rfl | exact own_nc _), rfl, rfl⟩) (by first | decide | omega | (dsimp only; omega)) (by first | decide | omega | (dsimp only; omega))
      · skip
        refine Goes.via (fun _ kk_ => XS.icmpNo X0.here hx rfl (hb hby d17_37) rfl (flt hc37).1 kk_) ?_
        show Goes p e below _ (s₁.setTop (mkF m 40 #[vi ((x_.toUInt32 >>> ((16 : Int32) &&& 31).toUInt32).toInt32), vi (15 : Int32)] []))
        refine Goes.via (fun _ kk_ => XS.iinc X0.here hx rfl (hb hby d17_40) rfl (l' := #[vi ((x_.toUInt32 >>> ((16 : Int32) &&& 31).toUInt32).toInt32), vi ((15 : Int32) + (-8 : Int32))]) rfl kk_) ?_
        show Goes p e below _ (s₁.setTop (mkF m 43 #[vi ((x_.toUInt32 >>> ((16 : Int32) &&& 31).toUInt32).toInt32), vi ((15 : Int32) + (-8 : Int32))] []))
        rw [show ((15 : Int32) + (-8 : Int32)) = (7 : Int32) from by decide]
        show Goes p e below _ (s₁.setTop (mkF m 43 #[vi ((x_.toUInt32 >>> ((16 : Int32) &&& 31).toUInt32).toInt32), vi (7 : Int32)] []))
        refine gILN X0 hx hby d17_43 rfl ?_
        refine gBI (z := 8) X0 hx hby d17_44 rfl ?_
        refine Goes.via (fun _ kk_ => XS.iushr X0.here hx rfl (hb hby d17_46) rfl kk_) ?_
        show Goes p e below _ (s₁.setTop (mkF m 47 #[vi ((x_.toUInt32 >>> ((16 : Int32) &&& 31).toUInt32).toInt32), vi (7 : Int32)] [(.int ((((x_.toUInt32 >>> ((16 : Int32) &&& 31).toUInt32).toInt32).toUInt32 >>> ((8 : Int32) &&& 31).toUInt32).toInt32))]))
        refine Goes.via (fun _ kk_ => XS.istoreN X0.here hx rfl (hb hby d17_47) rfl (l' := #[vi ((((x_.toUInt32 >>> ((16 : Int32) &&& 31).toUInt32).toInt32).toUInt32 >>> ((8 : Int32) &&& 31).toUInt32).toInt32), vi (7 : Int32)]) rfl kk_) ?_
        show Goes p e below _ (s₁.setTop (mkF m 48 #[vi ((((x_.toUInt32 >>> ((16 : Int32) &&& 31).toUInt32).toInt32).toUInt32 >>> ((8 : Int32) &&& 31).toUInt32).toInt32), vi (7 : Int32)] []))
        refine gILN X0 hx hby d17_48 rfl ?_
        refine gBI (z := 16) X0 hx hby d17_49 rfl ?_
        by_cases hc51 : ((((x_.toUInt32 >>> ((16 : Int32) &&& 31).toUInt32).toInt32).toUInt32 >>> ((8 : Int32) &&& 31).toUInt32).toInt32) < (16 : Int32)
        · skip
          refine Goes.via (fun _ kk_ => XS.icmpYes X0.here hx rfl (pc0 := 51) (pc' := 61) rfl (hb hby d17_51) rfl (tlt hc51).1 (by decide) (by decide) kk_) ?_
          show Goes p e below _ (s₁.setTop (mkF m 61 #[vi ((((x_.toUInt32 >>> ((16 : Int32) &&& 31).toUInt32).toInt32).toUInt32 >>> ((8 : Int32) &&& 31).toUInt32).toInt32), vi (7 : Int32)] []))
          refine gILN X0 hx hby d17_61 rfl ?_
          refine gIC (z := 4) X0 hx hby d17_62 rfl ?_
          by_cases hc63 : ((((x_.toUInt32 >>> ((16 : Int32) &&& 31).toUInt32).toInt32).toUInt32 >>> ((8 : Int32) &&& 31).toUInt32).toInt32) < (4 : Int32)
          · skip
            refine Goes.via (fun _ kk_ => XS.icmpYes X0.here hx rfl (pc0 := 63) (pc' := 73) rfl (hb hby d17_63) rfl (tlt hc63).1 (by decide) (by decide) kk_) ?_
            show Goes p e below _ (s₁.setTop (mkF m 73 #[vi ((((x_.toUInt32 >>> ((16 : Int32) &&& 31).toUInt32).toInt32).toUInt32 >>> ((8 : Int32) &&& 31).toUInt32).toInt32), vi (7 : Int32)] []))
            refine gILN X0 hx hby d17_73 rfl ?_
            refine gILN X0 hx hby d17_74 rfl ?_
            refine gIC (z := 1) X0 hx hby d17_75 rfl ?_
            refine Goes.via (fun _ kk_ => XS.iushr X0.here hx rfl (hb hby d17_76) rfl kk_) ?_
            show Goes p e below _ (s₁.setTop (mkF m 77 #[vi ((((x_.toUInt32 >>> ((16 : Int32) &&& 31).toUInt32).toInt32).toUInt32 >>> ((8 : Int32) &&& 31).toUInt32).toInt32), vi (7 : Int32)] [(.int ((((((x_.toUInt32 >>> ((16 : Int32) &&& 31).toUInt32).toInt32).toUInt32 >>> ((8 : Int32) &&& 31).toUInt32).toInt32).toUInt32 >>> ((1 : Int32) &&& 31).toUInt32).toInt32)), (.int (7 : Int32))]))
            refine Goes.via (fun _ kk_ => XS.isub X0.here hx rfl (hb hby d17_77) rfl kk_) ?_
            show Goes p e below _ (s₁.setTop (mkF m 78 #[vi ((((x_.toUInt32 >>> ((16 : Int32) &&& 31).toUInt32).toInt32).toUInt32 >>> ((8 : Int32) &&& 31).toUInt32).toInt32), vi (7 : Int32)] [(.int ((7 : Int32) - ((((((x_.toUInt32 >>> ((16 : Int32) &&& 31).toUInt32).toInt32).toUInt32 >>> ((8 : Int32) &&& 31).toUInt32).toInt32).toUInt32 >>> ((1 : Int32) &&& 31).toUInt32).toInt32)))]))
            exact own_finI X0 hx hlk hret (hb hby d17_78) (by rw [e0]; exact ⟨(by rw [own_nlzI, if_pos hc1, if_neg hc22, if_neg hc37, if_pos hc51, if_pos hc63]; first | done | rfl | exact own_nc _), rfl, rfl⟩) (by first | decide | omega | (dsimp only; omega)) (by first | decide | omega | (dsimp only; omega))
          · skip
            refine Goes.via (fun _ kk_ => XS.icmpNo X0.here hx rfl (hb hby d17_63) rfl (flt hc63).1 kk_) ?_
            show Goes p e below _ (s₁.setTop (mkF m 66 #[vi ((((x_.toUInt32 >>> ((16 : Int32) &&& 31).toUInt32).toInt32).toUInt32 >>> ((8 : Int32) &&& 31).toUInt32).toInt32), vi (7 : Int32)] []))
            refine Goes.via (fun _ kk_ => XS.iinc X0.here hx rfl (hb hby d17_66) rfl (l' := #[vi ((((x_.toUInt32 >>> ((16 : Int32) &&& 31).toUInt32).toInt32).toUInt32 >>> ((8 : Int32) &&& 31).toUInt32).toInt32), vi ((7 : Int32) + (-2 : Int32))]) rfl kk_) ?_
            show Goes p e below _ (s₁.setTop (mkF m 69 #[vi ((((x_.toUInt32 >>> ((16 : Int32) &&& 31).toUInt32).toInt32).toUInt32 >>> ((8 : Int32) &&& 31).toUInt32).toInt32), vi ((7 : Int32) + (-2 : Int32))] []))
            rw [show ((7 : Int32) + (-2 : Int32)) = (5 : Int32) from by decide]
            show Goes p e below _ (s₁.setTop (mkF m 69 #[vi ((((x_.toUInt32 >>> ((16 : Int32) &&& 31).toUInt32).toInt32).toUInt32 >>> ((8 : Int32) &&& 31).toUInt32).toInt32), vi (5 : Int32)] []))
            refine gILN X0 hx hby d17_69 rfl ?_
            refine gIC (z := 2) X0 hx hby d17_70 rfl ?_
            refine Goes.via (fun _ kk_ => XS.iushr X0.here hx rfl (hb hby d17_71) rfl kk_) ?_
            show Goes p e below _ (s₁.setTop (mkF m 72 #[vi ((((x_.toUInt32 >>> ((16 : Int32) &&& 31).toUInt32).toInt32).toUInt32 >>> ((8 : Int32) &&& 31).toUInt32).toInt32), vi (5 : Int32)] [(.int ((((((x_.toUInt32 >>> ((16 : Int32) &&& 31).toUInt32).toInt32).toUInt32 >>> ((8 : Int32) &&& 31).toUInt32).toInt32).toUInt32 >>> ((2 : Int32) &&& 31).toUInt32).toInt32))]))
            refine Goes.via (fun _ kk_ => XS.istoreN X0.here hx rfl (hb hby d17_72) rfl (l' := #[vi ((((((x_.toUInt32 >>> ((16 : Int32) &&& 31).toUInt32).toInt32).toUInt32 >>> ((8 : Int32) &&& 31).toUInt32).toInt32).toUInt32 >>> ((2 : Int32) &&& 31).toUInt32).toInt32), vi (5 : Int32)]) rfl kk_) ?_
            show Goes p e below _ (s₁.setTop (mkF m 73 #[vi ((((((x_.toUInt32 >>> ((16 : Int32) &&& 31).toUInt32).toInt32).toUInt32 >>> ((8 : Int32) &&& 31).toUInt32).toInt32).toUInt32 >>> ((2 : Int32) &&& 31).toUInt32).toInt32), vi (5 : Int32)] []))
            refine gILN X0 hx hby d17_73 rfl ?_
            refine gILN X0 hx hby d17_74 rfl ?_
            refine gIC (z := 1) X0 hx hby d17_75 rfl ?_
            refine Goes.via (fun _ kk_ => XS.iushr X0.here hx rfl (hb hby d17_76) rfl kk_) ?_
            show Goes p e below _ (s₁.setTop (mkF m 77 #[vi ((((((x_.toUInt32 >>> ((16 : Int32) &&& 31).toUInt32).toInt32).toUInt32 >>> ((8 : Int32) &&& 31).toUInt32).toInt32).toUInt32 >>> ((2 : Int32) &&& 31).toUInt32).toInt32), vi (5 : Int32)] [(.int ((((((((x_.toUInt32 >>> ((16 : Int32) &&& 31).toUInt32).toInt32).toUInt32 >>> ((8 : Int32) &&& 31).toUInt32).toInt32).toUInt32 >>> ((2 : Int32) &&& 31).toUInt32).toInt32).toUInt32 >>> ((1 : Int32) &&& 31).toUInt32).toInt32)), (.int (5 : Int32))]))
            refine Goes.via (fun _ kk_ => XS.isub X0.here hx rfl (hb hby d17_77) rfl kk_) ?_
            show Goes p e below _ (s₁.setTop (mkF m 78 #[vi ((((((x_.toUInt32 >>> ((16 : Int32) &&& 31).toUInt32).toInt32).toUInt32 >>> ((8 : Int32) &&& 31).toUInt32).toInt32).toUInt32 >>> ((2 : Int32) &&& 31).toUInt32).toInt32), vi (5 : Int32)] [(.int ((5 : Int32) - ((((((((x_.toUInt32 >>> ((16 : Int32) &&& 31).toUInt32).toInt32).toUInt32 >>> ((8 : Int32) &&& 31).toUInt32).toInt32).toUInt32 >>> ((2 : Int32) &&& 31).toUInt32).toInt32).toUInt32 >>> ((1 : Int32) &&& 31).toUInt32).toInt32)))]))
            exact own_finI X0 hx hlk hret (hb hby d17_78) (by rw [e0]; exact ⟨(by rw [own_nlzI, if_pos hc1, if_neg hc22, if_neg hc37, if_pos hc51, if_neg hc63]; first | done | rfl | exact own_nc _), rfl, rfl⟩) (by first | decide | omega | (dsimp only; omega)) (by first | decide | omega | (dsimp only; omega))
        · skip
          refine Goes.via (fun _ kk_ => XS.icmpNo X0.here hx rfl (hb hby d17_51) rfl (flt hc51).1 kk_) ?_
          show Goes p e below _ (s₁.setTop (mkF m 54 #[vi ((((x_.toUInt32 >>> ((16 : Int32) &&& 31).toUInt32).toInt32).toUInt32 >>> ((8 : Int32) &&& 31).toUInt32).toInt32), vi (7 : Int32)] []))
          refine Goes.via (fun _ kk_ => XS.iinc X0.here hx rfl (hb hby d17_54) rfl (l' := #[vi ((((x_.toUInt32 >>> ((16 : Int32) &&& 31).toUInt32).toInt32).toUInt32 >>> ((8 : Int32) &&& 31).toUInt32).toInt32), vi ((7 : Int32) + (-4 : Int32))]) rfl kk_) ?_
          show Goes p e below _ (s₁.setTop (mkF m 57 #[vi ((((x_.toUInt32 >>> ((16 : Int32) &&& 31).toUInt32).toInt32).toUInt32 >>> ((8 : Int32) &&& 31).toUInt32).toInt32), vi ((7 : Int32) + (-4 : Int32))] []))
          rw [show ((7 : Int32) + (-4 : Int32)) = (3 : Int32) from by decide]
          show Goes p e below _ (s₁.setTop (mkF m 57 #[vi ((((x_.toUInt32 >>> ((16 : Int32) &&& 31).toUInt32).toInt32).toUInt32 >>> ((8 : Int32) &&& 31).toUInt32).toInt32), vi (3 : Int32)] []))
          refine gILN X0 hx hby d17_57 rfl ?_
          refine gIC (z := 4) X0 hx hby d17_58 rfl ?_
          refine Goes.via (fun _ kk_ => XS.iushr X0.here hx rfl (hb hby d17_59) rfl kk_) ?_
          show Goes p e below _ (s₁.setTop (mkF m 60 #[vi ((((x_.toUInt32 >>> ((16 : Int32) &&& 31).toUInt32).toInt32).toUInt32 >>> ((8 : Int32) &&& 31).toUInt32).toInt32), vi (3 : Int32)] [(.int ((((((x_.toUInt32 >>> ((16 : Int32) &&& 31).toUInt32).toInt32).toUInt32 >>> ((8 : Int32) &&& 31).toUInt32).toInt32).toUInt32 >>> ((4 : Int32) &&& 31).toUInt32).toInt32))]))
          refine Goes.via (fun _ kk_ => XS.istoreN X0.here hx rfl (hb hby d17_60) rfl (l' := #[vi ((((((x_.toUInt32 >>> ((16 : Int32) &&& 31).toUInt32).toInt32).toUInt32 >>> ((8 : Int32) &&& 31).toUInt32).toInt32).toUInt32 >>> ((4 : Int32) &&& 31).toUInt32).toInt32), vi (3 : Int32)]) rfl kk_) ?_
          show Goes p e below _ (s₁.setTop (mkF m 61 #[vi ((((((x_.toUInt32 >>> ((16 : Int32) &&& 31).toUInt32).toInt32).toUInt32 >>> ((8 : Int32) &&& 31).toUInt32).toInt32).toUInt32 >>> ((4 : Int32) &&& 31).toUInt32).toInt32), vi (3 : Int32)] []))
          refine gILN X0 hx hby d17_61 rfl ?_
          refine gIC (z := 4) X0 hx hby d17_62 rfl ?_
          by_cases hc63 : ((((((x_.toUInt32 >>> ((16 : Int32) &&& 31).toUInt32).toInt32).toUInt32 >>> ((8 : Int32) &&& 31).toUInt32).toInt32).toUInt32 >>> ((4 : Int32) &&& 31).toUInt32).toInt32) < (4 : Int32)
          · skip
            refine Goes.via (fun _ kk_ => XS.icmpYes X0.here hx rfl (pc0 := 63) (pc' := 73) rfl (hb hby d17_63) rfl (tlt hc63).1 (by decide) (by decide) kk_) ?_
            show Goes p e below _ (s₁.setTop (mkF m 73 #[vi ((((((x_.toUInt32 >>> ((16 : Int32) &&& 31).toUInt32).toInt32).toUInt32 >>> ((8 : Int32) &&& 31).toUInt32).toInt32).toUInt32 >>> ((4 : Int32) &&& 31).toUInt32).toInt32), vi (3 : Int32)] []))
            refine gILN X0 hx hby d17_73 rfl ?_
            refine gILN X0 hx hby d17_74 rfl ?_
            refine gIC (z := 1) X0 hx hby d17_75 rfl ?_
            refine Goes.via (fun _ kk_ => XS.iushr X0.here hx rfl (hb hby d17_76) rfl kk_) ?_
            show Goes p e below _ (s₁.setTop (mkF m 77 #[vi ((((((x_.toUInt32 >>> ((16 : Int32) &&& 31).toUInt32).toInt32).toUInt32 >>> ((8 : Int32) &&& 31).toUInt32).toInt32).toUInt32 >>> ((4 : Int32) &&& 31).toUInt32).toInt32), vi (3 : Int32)] [(.int ((((((((x_.toUInt32 >>> ((16 : Int32) &&& 31).toUInt32).toInt32).toUInt32 >>> ((8 : Int32) &&& 31).toUInt32).toInt32).toUInt32 >>> ((4 : Int32) &&& 31).toUInt32).toInt32).toUInt32 >>> ((1 : Int32) &&& 31).toUInt32).toInt32)), (.int (3 : Int32))]))
            refine Goes.via (fun _ kk_ => XS.isub X0.here hx rfl (hb hby d17_77) rfl kk_) ?_
            show Goes p e below _ (s₁.setTop (mkF m 78 #[vi ((((((x_.toUInt32 >>> ((16 : Int32) &&& 31).toUInt32).toInt32).toUInt32 >>> ((8 : Int32) &&& 31).toUInt32).toInt32).toUInt32 >>> ((4 : Int32) &&& 31).toUInt32).toInt32), vi (3 : Int32)] [(.int ((3 : Int32) - ((((((((x_.toUInt32 >>> ((16 : Int32) &&& 31).toUInt32).toInt32).toUInt32 >>> ((8 : Int32) &&& 31).toUInt32).toInt32).toUInt32 >>> ((4 : Int32) &&& 31).toUInt32).toInt32).toUInt32 >>> ((1 : Int32) &&& 31).toUInt32).toInt32)))]))
            exact own_finI X0 hx hlk hret (hb hby d17_78) (by rw [e0]; exact ⟨(by rw [own_nlzI, if_pos hc1, if_neg hc22, if_neg hc37, if_neg hc51, if_pos hc63]; first | done | rfl | exact own_nc _), rfl, rfl⟩) (by first | decide | omega | (dsimp only; omega)) (by first | decide | omega | (dsimp only; omega))
          · skip
            refine Goes.via (fun _ kk_ => XS.icmpNo X0.here hx rfl (hb hby d17_63) rfl (flt hc63).1 kk_) ?_
            show Goes p e below _ (s₁.setTop (mkF m 66 #[vi ((((((x_.toUInt32 >>> ((16 : Int32) &&& 31).toUInt32).toInt32).toUInt32 >>> ((8 : Int32) &&& 31).toUInt32).toInt32).toUInt32 >>> ((4 : Int32) &&& 31).toUInt32).toInt32), vi (3 : Int32)] []))
            refine Goes.via (fun _ kk_ => XS.iinc X0.here hx rfl (hb hby d17_66) rfl (l' := #[vi ((((((x_.toUInt32 >>> ((16 : Int32) &&& 31).toUInt32).toInt32).toUInt32 >>> ((8 : Int32) &&& 31).toUInt32).toInt32).toUInt32 >>> ((4 : Int32) &&& 31).toUInt32).toInt32), vi ((3 : Int32) + (-2 : Int32))]) rfl kk_) ?_
            show Goes p e below _ (s₁.setTop (mkF m 69 #[vi ((((((x_.toUInt32 >>> ((16 : Int32) &&& 31).toUInt32).toInt32).toUInt32 >>> ((8 : Int32) &&& 31).toUInt32).toInt32).toUInt32 >>> ((4 : Int32) &&& 31).toUInt32).toInt32), vi ((3 : Int32) + (-2 : Int32))] []))
            rw [show ((3 : Int32) + (-2 : Int32)) = (1 : Int32) from by decide]
            show Goes p e below _ (s₁.setTop (mkF m 69 #[vi ((((((x_.toUInt32 >>> ((16 : Int32) &&& 31).toUInt32).toInt32).toUInt32 >>> ((8 : Int32) &&& 31).toUInt32).toInt32).toUInt32 >>> ((4 : Int32) &&& 31).toUInt32).toInt32), vi (1 : Int32)] []))
            refine gILN X0 hx hby d17_69 rfl ?_
            refine gIC (z := 2) X0 hx hby d17_70 rfl ?_
            refine Goes.via (fun _ kk_ => XS.iushr X0.here hx rfl (hb hby d17_71) rfl kk_) ?_
            show Goes p e below _ (s₁.setTop (mkF m 72 #[vi ((((((x_.toUInt32 >>> ((16 : Int32) &&& 31).toUInt32).toInt32).toUInt32 >>> ((8 : Int32) &&& 31).toUInt32).toInt32).toUInt32 >>> ((4 : Int32) &&& 31).toUInt32).toInt32), vi (1 : Int32)] [(.int ((((((((x_.toUInt32 >>> ((16 : Int32) &&& 31).toUInt32).toInt32).toUInt32 >>> ((8 : Int32) &&& 31).toUInt32).toInt32).toUInt32 >>> ((4 : Int32) &&& 31).toUInt32).toInt32).toUInt32 >>> ((2 : Int32) &&& 31).toUInt32).toInt32))]))
            refine Goes.via (fun _ kk_ => XS.istoreN X0.here hx rfl (hb hby d17_72) rfl (l' := #[vi ((((((((x_.toUInt32 >>> ((16 : Int32) &&& 31).toUInt32).toInt32).toUInt32 >>> ((8 : Int32) &&& 31).toUInt32).toInt32).toUInt32 >>> ((4 : Int32) &&& 31).toUInt32).toInt32).toUInt32 >>> ((2 : Int32) &&& 31).toUInt32).toInt32), vi (1 : Int32)]) rfl kk_) ?_
            show Goes p e below _ (s₁.setTop (mkF m 73 #[vi ((((((((x_.toUInt32 >>> ((16 : Int32) &&& 31).toUInt32).toInt32).toUInt32 >>> ((8 : Int32) &&& 31).toUInt32).toInt32).toUInt32 >>> ((4 : Int32) &&& 31).toUInt32).toInt32).toUInt32 >>> ((2 : Int32) &&& 31).toUInt32).toInt32), vi (1 : Int32)] []))
            refine gILN X0 hx hby d17_73 rfl ?_
            refine gILN X0 hx hby d17_74 rfl ?_
            refine gIC (z := 1) X0 hx hby d17_75 rfl ?_
            refine Goes.via (fun _ kk_ => XS.iushr X0.here hx rfl (hb hby d17_76) rfl kk_) ?_
            show Goes p e below _ (s₁.setTop (mkF m 77 #[vi ((((((((x_.toUInt32 >>> ((16 : Int32) &&& 31).toUInt32).toInt32).toUInt32 >>> ((8 : Int32) &&& 31).toUInt32).toInt32).toUInt32 >>> ((4 : Int32) &&& 31).toUInt32).toInt32).toUInt32 >>> ((2 : Int32) &&& 31).toUInt32).toInt32), vi (1 : Int32)] [(.int ((((((((((x_.toUInt32 >>> ((16 : Int32) &&& 31).toUInt32).toInt32).toUInt32 >>> ((8 : Int32) &&& 31).toUInt32).toInt32).toUInt32 >>> ((4 : Int32) &&& 31).toUInt32).toInt32).toUInt32 >>> ((2 : Int32) &&& 31).toUInt32).toInt32).toUInt32 >>> ((1 : Int32) &&& 31).toUInt32).toInt32)), (.int (1 : Int32))]))
            refine Goes.via (fun _ kk_ => XS.isub X0.here hx rfl (hb hby d17_77) rfl kk_) ?_
            show Goes p e below _ (s₁.setTop (mkF m 78 #[vi ((((((((x_.toUInt32 >>> ((16 : Int32) &&& 31).toUInt32).toInt32).toUInt32 >>> ((8 : Int32) &&& 31).toUInt32).toInt32).toUInt32 >>> ((4 : Int32) &&& 31).toUInt32).toInt32).toUInt32 >>> ((2 : Int32) &&& 31).toUInt32).toInt32), vi (1 : Int32)] [(.int ((1 : Int32) - ((((((((((x_.toUInt32 >>> ((16 : Int32) &&& 31).toUInt32).toInt32).toUInt32 >>> ((8 : Int32) &&& 31).toUInt32).toInt32).toUInt32 >>> ((4 : Int32) &&& 31).toUInt32).toInt32).toUInt32 >>> ((2 : Int32) &&& 31).toUInt32).toInt32).toUInt32 >>> ((1 : Int32) &&& 31).toUInt32).toInt32)))]))
            exact own_finI X0 hx hlk hret (hb hby d17_78) (by rw [e0]; exact ⟨(by rw [own_nlzI, if_pos hc1, if_neg hc22, if_neg hc37, if_neg hc51, if_neg hc63]; first | done | rfl | exact own_nc _), rfl, rfl⟩) (by first | decide | omega | (dsimp only; omega)) (by first | decide | omega | (dsimp only; omega))
  · skip
    refine Goes.via (fun _ kk_ => XS.ifNo X0.here hx rfl (hb hby d17_1) rfl ((if0 _ _).trans (flt hc1).2.2.1) kk_) ?_
    show Goes p e below _ (s₁.setTop (mkF m 4 #[vi x_, .unset] []))
    refine gILN X0 hx hby d17_4 rfl ?_
    by_cases hc5 : x_ = (0 : Int32)
    · skip
      refine Goes.via (fun _ kk_ => XS.ifNo X0.here hx rfl (hb hby d17_5) rfl ((if0 _ _).trans (teq hc5).2) kk_) ?_
      show Goes p e below _ (s₁.setTop (mkF m 8 #[vi x_, .unset] []))
      refine gBI (z := 32) X0 hx hby d17_8 rfl ?_
      refine Goes.via (fun _ kk_ => XS.goto X0.here hx rfl (pc0 := 10) (pc' := 14) rfl (hb hby d17_10) (by decide) (by decide) kk_) ?_
      show Goes p e below _ (s₁.setTop (mkF m 14 #[vi x_, .unset] [(.int (32 : Int32))]))
      exact own_finI X0 hx hlk hret (hb hby d17_14) (by rw [e0]; exact ⟨(by rw [own_nlzI, if_neg hc1, if_pos hc5]; first | done | rfl | exact own_nc _), rfl, rfl⟩) (by first | decide | omega | (dsimp only; omega)) (by first | decide | omega | (dsimp only; omega))
    · skip
      refine Goes.via (fun _ kk_ => XS.ifYes X0.here hx rfl (pc0 := 5) (pc' := 13) rfl (hb hby d17_5) rfl ((if0 _ _).trans (feq hc5).2) (by decide) (by decide) kk_) ?_
      show Goes p e below _ (s₁.setTop (mkF m 13 #[vi x_, .unset] []))
      refine gIC (z := 0) X0 hx hby d17_13 rfl ?_
      exact own_finI X0 hx hlk hret (hb hby d17_14) (by rw [e0]; exact ⟨(by rw [own_nlzI, if_neg hc1, if_neg hc5]; first | done | rfl | exact own_nc _), rfl, rfl⟩) (by first | decide | omega | (dsimp only; omega)) (by first | decide | omega | (dsimp only; omega))
def own_nlzL (x_ : Int64) : Int32 := (if (((x_.toUInt64 >>> ((32 : Int32) &&& 0x3f).toInt64.toUInt64).toInt64).toInt32) = (0 : Int32) then ((32 : Int32) + (own_nlzI (x_.toInt32))) else (own_nlzI (((x_.toUInt64 >>> ((32 : Int32) &&& 0x3f).toInt64.toUInt64).toInt64).toInt32)))
theorem ef_rm16 (m : MethodId) (x_ : Int64) : entryFrame m #[(.long x_)] 3 = mkF m 0 #[.val (.long x_), .second, .unset] [] := by first | (simp [entryFrame, mkF, argsToLocals, Value.category]; done) | rfl
def Qrm16 (Z : State) (x_ : Int64) (h0 : Heap) (n0 : Nat) (v_ : Option Value) (h_ : Heap) (L_ : List Loc) : Prop := v_ = some (.int (own_nlzL x_)) ∧ L_ = [] ∧ h_ = h0
theorem pn_java_lang_Long : plainName "java/lang/Long" = true := by first | (simp [plainName, overriddenIn]; done) | decide +kernel
theorem d16_0 : decode jdk_35_method_48_code 0 = .ok (.lload_n 0, 1) := by decide +kernel
theorem d16_1 : decode jdk_35_method_48_code 1 = .ok (.bipush 32, 2) := by decide +kernel
theorem d16_3 : decode jdk_35_method_48_code 3 = .ok (.lushr, 1) := by decide +kernel
theorem d16_4 : decode jdk_35_method_48_code 4 = .ok (.l2i, 1) := by decide +kernel
theorem d16_5 : decode jdk_35_method_48_code 5 = .ok (.istore_n 2, 1) := by decide +kernel
theorem d16_6 : decode jdk_35_method_48_code 6 = .ok (.iload_n 2, 1) := by decide +kernel
theorem d16_7 : decode jdk_35_method_48_code 7 = .ok (.ifCond .ne 14, 3) := by decide +kernel
theorem d16_10 : decode jdk_35_method_48_code 10 = .ok (.bipush 32, 2) := by decide +kernel
theorem d16_12 : decode jdk_35_method_48_code 12 = .ok (.lload_n 0, 1) := by decide +kernel
theorem d16_13 : decode jdk_35_method_48_code 13 = .ok (.l2i, 1) := by decide +kernel
theorem d16_14 : decode jdk_35_method_48_code 14 = .ok (.invokestatic 308, 3) := by decide +kernel
abbrev mN_Integer_numberOfLeadingZeros : MethodName := ⟨"java/lang/Integer", "numberOfLeadingZeros", "(I)I"⟩
theorem d16_17 : decode jdk_35_method_48_code 17 = .ok (.iadd, 1) := by decide +kernel
theorem d16_18 : decode jdk_35_method_48_code 18 = .ok (.goto 7, 3) := by decide +kernel
theorem d16_25 : decode jdk_35_method_48_code 25 = .ok (.ireturn, 1) := by decide +kernel
theorem d16_21 : decode jdk_35_method_48_code 21 = .ok (.iload_n 2, 1) := by decide +kernel
theorem d16_22 : decode jdk_35_method_48_code 22 = .ok (.invokestatic 308, 3) := by decide +kernel
set_option maxRecDepth 65536 in
set_option maxHeartbeats 40000000 in
theorem rm16 (l : Launch) (Z : State) (a0 : Array Value) (hw : ∀ d ∈ tables_1, d.before a0 Z = true) (ws : List Jvm.Cond) (x_ : Int64) (h0 : Heap) (n0 : Nat) (Z0 : n0 ≤ h0.size) :
    MetFree l (⟨"java/lang/Long", "numberOfLeadingZeros", "(J)I"⟩ : MethodName) (head1 (Jvm.Cond.code (⟨"java/lang/Long", "numberOfLeadingZeros", "(J)I"⟩ : MethodName) jdk_35_method_48_code 3 (some .int) :: ws) ({ frames := 1, cells := 0, slots := 0, locals := 14 } : Room)) (fun as_ U_ => as_ = #[(.long x_)] ∧ Z.Warmed39 U_.vm ∧ U_.heap = h0) (fun _ _ _ _ _ => True) (fun _ U_ o_ V_ => ∃ v_ L_, o_ = .returned v_ ∧ Qrm16 Z x_ h0 n0 v_ V_.heap L_ ∧ FrameEnd U_ o_ V_ L_ ({ frames := 1, cells := 0, slots := 0, locals := 14 } : Room).cells ({ frames := 1, cells := 0, slots := 0, locals := 14 } : Room).slots) := by
  refine MetFree.of_bodySF (plainFor_of_name pn_java_lang_Long) hisR ?_
  intro p e s m args below meth c s₁ Bd hml0 hP hK
  obtain ⟨rfl, hZ, hh⟩ := hP
  have hx := Bd.exec
  have hby := Bd.bytes
  have hlk : meth.locks = false := BodyLoose.notSynchronized Bd
  have hret := Bd.returns
  have hml : c.maxLocals = 3 := hml0
  have hown : s.vm.findClass "java/lang/Long" = some m.cls := findClass_of_methodNamed Bd.named
  have hnm := (name_of_methodNamed Bd.named Bd.method).1
  have X0 : Stand p l e ({ frames := 1, cells := 0, slots := 0, locals := 14 } : Room) s m #[(.long x_)] below meth c s₁ [] 0 0 := Stand.of_body Bd
  have e0 : s₁.heap = h0 := by rw [← hh, Bd.state]; rfl
  have N0 := Fr.nil n0
  show Goes p e below (Fin_ s (Qrm16 Z x_ h0 n0) ({ frames := 1, cells := 0, slots := 0, locals := 14 } : Room).cells ({ frames := 1, cells := 0, slots := 0, locals := 14 } : Room).slots) (s₁.setTop (entryFrame m #[(.long x_)] 3))
  rw [ef_rm16 m x_]
  refine Goes.via (fun _ kk_ => XS.lloadN X0.here hx rfl (hb hby d16_0) rfl  kk_) ?_
  show Goes p e below _ (s₁.setTop (mkF m 1 #[.val (.long x_), .second, .unset] [(.long x_)]))
  refine gBI (z := 32) X0 hx hby d16_1 rfl ?_
  refine Goes.via (fun _ kk_ => XS.lushr X0.here hx rfl (hb hby d16_3) rfl kk_) ?_
  show Goes p e below _ (s₁.setTop (mkF m 4 #[.val (.long x_), .second, .unset] [(.long ((x_.toUInt64 >>> ((32 : Int32) &&& 0x3f).toInt64.toUInt64).toInt64))]))
  refine Goes.via (fun _ kk_ => XS.l2i X0.here hx rfl (hb hby d16_4) rfl kk_) ?_
  show Goes p e below _ (s₁.setTop (mkF m 5 #[.val (.long x_), .second, .unset] [(.int (((x_.toUInt64 >>> ((32 : Int32) &&& 0x3f).toInt64.toUInt64).toInt64).toInt32))]))
  refine Goes.via (fun _ kk_ => XS.istoreN X0.here hx rfl (hb hby d16_5) rfl (l' := #[.val (.long x_), .second, vi (((x_.toUInt64 >>> ((32 : Int32) &&& 0x3f).toInt64.toUInt64).toInt64).toInt32)]) rfl kk_) ?_
  show Goes p e below _ (s₁.setTop (mkF m 6 #[.val (.long x_), .second, vi (((x_.toUInt64 >>> ((32 : Int32) &&& 0x3f).toInt64.toUInt64).toInt64).toInt32)] []))
  refine gILN X0 hx hby d16_6 rfl ?_
  by_cases hc7 : (((x_.toUInt64 >>> ((32 : Int32) &&& 0x3f).toInt64.toUInt64).toInt64).toInt32) = (0 : Int32)
  · skip
    refine Goes.via (fun _ kk_ => XS.ifNo X0.here hx rfl (hb hby d16_7) rfl ((if0 _ _).trans (teq hc7).2) kk_) ?_
    show Goes p e below _ (s₁.setTop (mkF m 10 #[.val (.long x_), .second, vi (((x_.toUInt64 >>> ((32 : Int32) &&& 0x3f).toInt64.toUInt64).toInt64).toInt32)] []))
    refine gBI (z := 32) X0 hx hby d16_10 rfl ?_
    refine Goes.via (fun _ kk_ => XS.lloadN X0.here hx rfl (hb hby d16_12) rfl  kk_) ?_
    show Goes p e below _ (s₁.setTop (mkF m 13 #[.val (.long x_), .second, vi (((x_.toUInt64 >>> ((32 : Int32) &&& 0x3f).toInt64.toUInt64).toInt64).toInt32)] [(.long x_), (.int (32 : Int32))]))
    refine Goes.via (fun _ kk_ => XS.l2i X0.here hx rfl (hb hby d16_13) rfl kk_) ?_
    show Goes p e below _ (s₁.setTop (mkF m 14 #[.val (.long x_), .second, vi (((x_.toUInt64 >>> ((32 : Int32) &&& 0x3f).toInt64.toUInt64).toInt64).toInt32)] [(.int (x_.toInt32)), (.int (32 : Int32))]))
    obtain ⟨_, _, ⟨T1, L1, k1, n1⟩, -, X1, ⟨Lc1, hQ1, l1, y1, z1⟩, st1⟩ := Jvm.LawKit.callS X0 hx (y := mN_Integer_numberOfLeadingZeros) hown (mvT hZ (own_w hw 103 rfl)) (mvT hZ (own_w hw 104 rfl)) (mvT hZ (own_w hw 16 rfl)) (mvT hZ (own_w hw 105 rfl)) (by decide) (backOf (W := 1) (rm17 l Z a0 hw [] (x_.toInt32) h0 n0 (Nat.le_trans Z0 (Nat.le_refl _)) ) hZ (own_w hw 105 rfl) (own_w hw 16 rfl) (by decide) (by decide)) (g := (mkF m 14 #[.val (.long x_), .second, vi (((x_.toUInt64 >>> ((32 : Int32) &&& 0x3f).toInt64.toUInt64).toInt64).toInt32)] [(.int (x_.toInt32)), (.int (32 : Int32))])) rfl (by rw [hml]; rfl) (argsL := [(.int (x_.toInt32))]) (rest := [(.int (32 : Int32))]) (lenOf pd_1 rfl) rfl (by show 2 * 0 + _ ≤ _; exact Nat.le_of_eq rfl) (hb hby d16_14) (fun _ _ => ⟨rfl, e0, (by decide : 0 + 0 ≤ _), (by decide : 0 + 0 ≤ _)⟩)
    dsimp only [Pt.U, Pt.locs, Pt.cells, Pt.slots] at X1 l1 y1 z1 st1 hQ1
    replace l1 := l1.symm
    subst l1 y1 z1
    obtain ⟨rfl, rfl, e1⟩ := hQ1
    first | rw [List.append_nil] at X1 | skip
    refine Goes.via st1 ?_
    have e1' : T1.heap = h0 := e1
    show Goes p e below _ (T1.setTop (mkF m 17 #[.val (.long x_), .second, vi (((x_.toUInt64 >>> ((32 : Int32) &&& 0x3f).toInt64.toUInt64).toInt64).toInt32)] [(.int (own_nlzI (x_.toInt32))), (.int (32 : Int32))]))
    refine Goes.via (fun _ kk_ => XS.iadd X1.here hx rfl (hb hby d16_17) rfl kk_) ?_
    show Goes p e below _ (T1.setTop (mkF m 18 #[.val (.long x_), .second, vi (((x_.toUInt64 >>> ((32 : Int32) &&& 0x3f).toInt64.toUInt64).toInt64).toInt32)] [(.int ((32 : Int32) + (own_nlzI (x_.toInt32))))]))
    refine Goes.via (fun _ kk_ => XS.goto X1.here hx rfl (pc0 := 18) (pc' := 25) rfl (hb hby d16_18) (by decide) (by decide) kk_) ?_
    show Goes p e below _ (T1.setTop (mkF m 25 #[.val (.long x_), .second, vi (((x_.toUInt64 >>> ((32 : Int32) &&& 0x3f).toInt64.toUInt64).toInt64).toInt32)] [(.int ((32 : Int32) + (own_nlzI (x_.toInt32))))]))
    exact own_finI X1 hx hlk hret (hb hby d16_25) (by rw [e1']; exact ⟨(by rw [own_nlzL, if_pos hc7]; first | done | rfl | exact own_nc _), rfl, rfl⟩) (by first | decide | omega | (dsimp only; omega)) (by first | decide | omega | (dsimp only; omega))
  · skip
    refine Goes.via (fun _ kk_ => XS.ifYes X0.here hx rfl (pc0 := 7) (pc' := 21) rfl (hb hby d16_7) rfl ((if0 _ _).trans (feq hc7).2) (by decide) (by decide) kk_) ?_
    show Goes p e below _ (s₁.setTop (mkF m 21 #[.val (.long x_), .second, vi (((x_.toUInt64 >>> ((32 : Int32) &&& 0x3f).toInt64.toUInt64).toInt64).toInt32)] []))
    refine gILN X0 hx hby d16_21 rfl ?_
    obtain ⟨_, _, ⟨T2, L2, k2, n2⟩, -, X2, ⟨Lc2, hQ2, l2, y2, z2⟩, st2⟩ := Jvm.LawKit.callS X0 hx (y := mN_Integer_numberOfLeadingZeros) hown (mvT hZ (own_w hw 103 rfl)) (mvT hZ (own_w hw 104 rfl)) (mvT hZ (own_w hw 16 rfl)) (mvT hZ (own_w hw 105 rfl)) (by decide) (backOf (W := 0) (rm17 l Z a0 hw [] (((x_.toUInt64 >>> ((32 : Int32) &&& 0x3f).toInt64.toUInt64).toInt64).toInt32) h0 n0 (Nat.le_trans Z0 (Nat.le_refl _)) ) hZ (own_w hw 105 rfl) (own_w hw 16 rfl) (by decide) (by decide)) (g := (mkF m 22 #[.val (.long x_), .second, vi (((x_.toUInt64 >>> ((32 : Int32) &&& 0x3f).toInt64.toUInt64).toInt64).toInt32)] [(.int (((x_.toUInt64 >>> ((32 : Int32) &&& 0x3f).toInt64.toUInt64).toInt64).toInt32))])) rfl (by rw [hml]; rfl) (argsL := [(.int (((x_.toUInt64 >>> ((32 : Int32) &&& 0x3f).toInt64.toUInt64).toInt64).toInt32))]) (rest := []) (lenOf pd_1 rfl) rfl (by show 2 * 0 + _ ≤ _; exact Nat.le_of_eq rfl) (hb hby d16_22) (fun _ _ => ⟨rfl, e0, (by decide : 0 + 0 ≤ _), (by decide : 0 + 0 ≤ _)⟩)
    dsimp only [Pt.U, Pt.locs, Pt.cells, Pt.slots] at X2 l2 y2 z2 st2 hQ2
    replace l2 := l2.symm
    subst l2 y2 z2
    obtain ⟨rfl, rfl, e2⟩ := hQ2
    first | rw [List.append_nil] at X2 | skip
    refine Goes.via st2 ?_
    have e2' : T2.heap = h0 := e2
    show Goes p e below _ (T2.setTop (mkF m 25 #[.val (.long x_), .second, vi (((x_.toUInt64 >>> ((32 : Int32) &&& 0x3f).toInt64.toUInt64).toInt64).toInt32)] [(.int (own_nlzI (((x_.toUInt64 >>> ((32 : Int32) &&& 0x3f).toInt64.toUInt64).toInt64).toInt32)))]))
    exact own_finI X2 hx hlk hret (hb hby d16_25) (by rw [e2']; exact ⟨(by rw [own_nlzL, if_neg hc7]; first | done | rfl | exact own_nc _), rfl, rfl⟩) (by first | decide | omega | (dsimp only; omega)) (by first | decide | omega | (dsimp only; omega))
theorem ef_rmPre (m : MethodId) (a : Addr) (b : Addr) : entryFrame m #[(.ref a), (.ref b)] 7 = mkF m 0 #[.val (.ref a), .val (.ref b), .unset, .unset, .unset, .unset, .unset] [] := by first | (simp [entryFrame, mkF, argsToLocals, Value.category]; done) | rfl
def QrmPre (Z : State) (a : Addr) (b : Addr) (sp : Addr) (w_ : Int64) (y_ : Int64) (x_ : Int32) (dg : Int32) (bp : Int32) (h0 : Heap) (n0 : Nat) (v_ : Option Value) (h_ : Heap) (L_ : List Loc) : Prop := v_ = some (.int (if (w_ ^^^ y_) = (0 : Int64) then dg else (((64 : Int32) + (own_nlzL (w_ ^^^ y_))) - ((128 : Int32) - (dg * bp))) / bp)) ∧ L_ = [] ∧ h_ = h0
theorem d15_0 : decode prog_76_method_7_code 0 = .ok (.aload_n 0, 1) := by decide +kernel
theorem d15_1 : decode prog_76_method_7_code 1 = .ok (.getfield 17, 3) := by decide +kernel
theorem d15_4 : decode prog_76_method_7_code 4 = .ok (.aload_n 1, 1) := by decide +kernel
theorem d15_5 : decode prog_76_method_7_code 5 = .ok (.getfield 17, 3) := by decide +kernel
theorem d15_8 : decode prog_76_method_7_code 8 = .ok (.lxor, 1) := by decide +kernel
theorem d15_9 : decode prog_76_method_7_code 9 = .ok (.lstore_n 2, 1) := by decide +kernel
theorem d15_10 : decode prog_76_method_7_code 10 = .ok (.aload_n 0, 1) := by decide +kernel
theorem d15_11 : decode prog_76_method_7_code 11 = .ok (.getfield 24, 3) := by decide +kernel
theorem d15_14 : decode prog_76_method_7_code 14 = .ok (.aload_n 1, 1) := by decide +kernel
theorem d15_15 : decode prog_76_method_7_code 15 = .ok (.getfield 24, 3) := by decide +kernel
theorem d15_18 : decode prog_76_method_7_code 18 = .ok (.lxor, 1) := by decide +kernel
theorem d15_19 : decode prog_76_method_7_code 19 = .ok (.lstore 4, 2) := by decide +kernel
theorem d15_21 : decode prog_76_method_7_code 21 = .ok (.lload_n 2, 1) := by decide +kernel
theorem d15_22 : decode prog_76_method_7_code 22 = .ok (.lconst 0, 1) := by decide +kernel
theorem d15_23 : decode prog_76_method_7_code 23 = .ok (.lcmp, 1) := by decide +kernel
theorem d15_24 : decode prog_76_method_7_code 24 = .ok (.ifCond .ne 18, 3) := by decide +kernel
theorem d15_27 : decode prog_76_method_7_code 27 = .ok (.lload 4, 2) := by decide +kernel
theorem d15_29 : decode prog_76_method_7_code 29 = .ok (.lconst 0, 1) := by decide +kernel
theorem d15_30 : decode prog_76_method_7_code 30 = .ok (.lcmp, 1) := by decide +kernel
theorem d15_31 : decode prog_76_method_7_code 31 = .ok (.ifCond .ne 11, 3) := by decide +kernel
theorem d15_34 : decode prog_76_method_7_code 34 = .ok (.aload_n 0, 1) := by decide +kernel
theorem d15_35 : decode prog_76_method_7_code 35 = .ok (.getfield 7, 3) := by decide +kernel
theorem d15_38 : decode prog_76_method_7_code 38 = .ok (.invokevirtual 55, 3) := by decide +kernel
abbrev mN_IdSpace_digits : MethodName := ⟨"nearhop/model/IdSpace", "digits", "()I"⟩
theorem d15_41 : decode prog_76_method_7_code 41 = .ok (.ireturn, 1) := by decide +kernel
theorem d15_42 : decode prog_76_method_7_code 42 = .ok (.lload_n 2, 1) := by decide +kernel
theorem d15_43 : decode prog_76_method_7_code 43 = .ok (.lconst 0, 1) := by decide +kernel
theorem d15_44 : decode prog_76_method_7_code 44 = .ok (.lcmp, 1) := by decide +kernel
theorem d15_45 : decode prog_76_method_7_code 45 = .ok (.ifCond .eq 10, 3) := by decide +kernel
theorem d15_55 : decode prog_76_method_7_code 55 = .ok (.bipush 64, 2) := by decide +kernel
theorem d15_57 : decode prog_76_method_7_code 57 = .ok (.lload 4, 2) := by decide +kernel
theorem pd_4 : parseMethodDescriptor "(J)I" = some ⟨[.long], some .int⟩ := by decide +kernel
theorem d15_59 : decode prog_76_method_7_code 59 = .ok (.invokestatic 58, 3) := by decide +kernel
abbrev mN_Long_numberOfLeadingZeros : MethodName := ⟨"java/lang/Long", "numberOfLeadingZeros", "(J)I"⟩
theorem d15_62 : decode prog_76_method_7_code 62 = .ok (.iadd, 1) := by decide +kernel
theorem d15_63 : decode prog_76_method_7_code 63 = .ok (.istore 6, 2) := by decide +kernel
theorem d15_65 : decode prog_76_method_7_code 65 = .ok (.iload 6, 2) := by decide +kernel
theorem d15_67 : decode prog_76_method_7_code 67 = .ok (.sipush 128, 3) := by decide +kernel
theorem d15_70 : decode prog_76_method_7_code 70 = .ok (.aload_n 0, 1) := by decide +kernel
theorem d15_71 : decode prog_76_method_7_code 71 = .ok (.getfield 7, 3) := by decide +kernel
theorem d15_74 : decode prog_76_method_7_code 74 = .ok (.invokevirtual 27, 3) := by decide +kernel
theorem d15_77 : decode prog_76_method_7_code 77 = .ok (.isub, 1) := by decide +kernel
theorem d15_78 : decode prog_76_method_7_code 78 = .ok (.isub, 1) := by decide +kernel
theorem d15_79 : decode prog_76_method_7_code 79 = .ok (.aload_n 0, 1) := by decide +kernel
theorem d15_80 : decode prog_76_method_7_code 80 = .ok (.getfield 7, 3) := by decide +kernel
theorem d15_83 : decode prog_76_method_7_code 83 = .ok (.invokevirtual 49, 3) := by decide +kernel
theorem d15_86 : decode prog_76_method_7_code 86 = .ok (.idiv, 1) := by decide +kernel
theorem d15_87 : decode prog_76_method_7_code 87 = .ok (.ireturn, 1) := by decide +kernel
set_option maxRecDepth 65536 in
set_option maxHeartbeats 40000000 in
theorem rmPre (l : Launch) (Z : State) (a0 : Array Value) (hw : ∀ d ∈ tables_1, d.before a0 Z = true) (ws : List Jvm.Cond) (a : Addr) (b : Addr) (sp : Addr) (w_ : Int64) (y_ : Int64) (x_ : Int32) (dg : Int32) (bp : Int32) (h0 : Heap) (n0 : Nat) (Z0 : n0 ≤ h0.size) (F0_a_space : Fld Z h0 a "nearhop/model/Id" "space" "Lnearhop/model/IdSpace;" (.ref sp)) (F1_a_high : Fld Z h0 a "nearhop/model/Id" "high" "J" (.long (0 : Int64))) (F2_a_low : Fld Z h0 a "nearhop/model/Id" "low" "J" (.long w_)) (F3_b_space : Fld Z h0 b "nearhop/model/Id" "space" "Lnearhop/model/IdSpace;" (.ref sp)) (F4_b_high : Fld Z h0 b "nearhop/model/Id" "high" "J" (.long (0 : Int64))) (F5_b_low : Fld Z h0 b "nearhop/model/Id" "low" "J" (.long y_)) (E6_sp : Exa Z h0 sp "nearhop/model/IdSpace") (F7_sp_base : Fld Z h0 sp "nearhop/model/IdSpace" "base" "I" (.int x_)) (F8_sp_digits : Fld Z h0 sp "nearhop/model/IdSpace" "digits" "I" (.int dg)) (HB : own_bb x_ bp) :
    MetFree l (⟨"nearhop/model/Id", "sharedPrefixLength", "(Lnearhop/model/Id;)I"⟩ : MethodName) (head1 (Jvm.Cond.code (⟨"nearhop/model/Id", "sharedPrefixLength", "(Lnearhop/model/Id;)I"⟩ : MethodName) prog_76_method_7_code 7 (some .int) :: ws) ({ frames := 3, cells := 0, slots := 0, locals := 40 } : Room)) (fun as_ U_ => as_ = #[(.ref a), (.ref b)] ∧ Z.Warmed39 U_.vm ∧ U_.heap = h0) (fun _ _ _ _ _ => True) (fun _ U_ o_ V_ => ∃ v_ L_, o_ = .returned v_ ∧ QrmPre Z a b sp w_ y_ x_ dg bp h0 n0 v_ V_.heap L_ ∧ FrameEnd U_ o_ V_ L_ ({ frames := 3, cells := 0, slots := 0, locals := 40 } : Room).cells ({ frames := 3, cells := 0, slots := 0, locals := 40 } : Room).slots) := by
  refine MetFree.of_bodySF (plainFor_of_name pn_nearhop_model_Id) hisR ?_
  intro p e s m args below meth c s₁ Bd hml0 hP hK
  obtain ⟨rfl, hZ, hh⟩ := hP
  have hx := Bd.exec
  have hby := Bd.bytes
  have hlk : meth.locks = false := BodyLoose.notSynchronized Bd
  have hret := Bd.returns
  have hml : c.maxLocals = 7 := hml0
  have hown : s.vm.findClass "nearhop/model/Id" = some m.cls := findClass_of_methodNamed Bd.named
  have hnm := (name_of_methodNamed Bd.named Bd.method).1
  have X0 : Stand p l e ({ frames := 3, cells := 0, slots := 0, locals := 40 } : Room) s m #[(.ref a), (.ref b)] below meth c s₁ [] 0 0 := Stand.of_body Bd
  have e0 : s₁.heap = h0 := by rw [← hh, Bd.state]; rfl
  have N0 := Fr.nil n0
  show Goes p e below (Fin_ s (QrmPre Z a b sp w_ y_ x_ dg bp h0 n0) ({ frames := 3, cells := 0, slots := 0, locals := 40 } : Room).cells ({ frames := 3, cells := 0, slots := 0, locals := 40 } : Room).slots) (s₁.setTop (entryFrame m #[(.ref a), (.ref b)] 7))
  rw [ef_rmPre m a b]
  refine gALN X0 hx hby d15_0 rfl rfl ?_
  obtain ⟨T1, X1, e1, st1⟩ := getF X0 hx hZ hown (host := "") (Or.inl (own_w hw 45 rfl)) Via.refl e0 F1_a_high (g := (mkF m 1 #[vr a, vr b, .unset, .unset, .unset, .unset, .unset] [(.ref a)])) rfl rfl (hb hby d15_1)
  refine Goes.via st1 ?_
  show Goes p e below _ (T1.setTop (mkF m 4 #[vr a, vr b, .unset, .unset, .unset, .unset, .unset] [(.long (0 : Int64))]))
  refine gALN X1 hx hby d15_4 rfl rfl ?_
  obtain ⟨T2, X2, e2, st2⟩ := getF X1 hx hZ hown (host := "") (Or.inl (own_w hw 45 rfl)) Via.refl e1 F4_b_high (g := (mkF m 5 #[vr a, vr b, .unset, .unset, .unset, .unset, .unset] [(.ref b), (.long (0 : Int64))])) rfl rfl (hb hby d15_5)
  refine Goes.via st2 ?_
  show Goes p e below _ (T2.setTop (mkF m 8 #[vr a, vr b, .unset, .unset, .unset, .unset, .unset] [(.long (0 : Int64)), (.long (0 : Int64))]))
  refine Goes.via (fun _ kk_ => XS.lxor X2.here hx rfl (hb hby d15_8) rfl kk_) ?_
  show Goes p e below _ (T2.setTop (mkF m 9 #[vr a, vr b, .unset, .unset, .unset, .unset, .unset] [(.long ((0 : Int64) ^^^ (0 : Int64)))]))
  rw [show ((0 : Int64) ^^^ (0 : Int64)) = (0 : Int64) from by decide]
  show Goes p e below _ (T2.setTop (mkF m 9 #[vr a, vr b, .unset, .unset, .unset, .unset, .unset] [(.long (0 : Int64))]))
  refine Goes.via (fun _ kk_ => XS.lstoreN X2.here hx rfl (hb hby d15_9) rfl (l' := #[vr a, vr b, .val (.long (0 : Int64)), .second, .unset, .unset, .unset]) rfl kk_) ?_
  show Goes p e below _ (T2.setTop (mkF m 10 #[vr a, vr b, .val (.long (0 : Int64)), .second, .unset, .unset, .unset] []))
  refine gALN X2 hx hby d15_10 rfl rfl ?_
  obtain ⟨T3, X3, e3, st3⟩ := getF X2 hx hZ hown (host := "") (Or.inl (own_w hw 50 rfl)) Via.refl e2 F2_a_low (g := (mkF m 11 #[vr a, vr b, .val (.long (0 : Int64)), .second, .unset, .unset, .unset] [(.ref a)])) rfl rfl (hb hby d15_11)
  refine Goes.via st3 ?_
  show Goes p e below _ (T3.setTop (mkF m 14 #[vr a, vr b, .val (.long (0 : Int64)), .second, .unset, .unset, .unset] [(.long w_)]))
  refine gALN X3 hx hby d15_14 rfl rfl ?_
  obtain ⟨T4, X4, e4, st4⟩ := getF X3 hx hZ hown (host := "") (Or.inl (own_w hw 50 rfl)) Via.refl e3 F5_b_low (g := (mkF m 15 #[vr a, vr b, .val (.long (0 : Int64)), .second, .unset, .unset, .unset] [(.ref b), (.long w_)])) rfl rfl (hb hby d15_15)
  refine Goes.via st4 ?_
  show Goes p e below _ (T4.setTop (mkF m 18 #[vr a, vr b, .val (.long (0 : Int64)), .second, .unset, .unset, .unset] [(.long y_), (.long w_)]))
  refine Goes.via (fun _ kk_ => XS.lxor X4.here hx rfl (hb hby d15_18) rfl kk_) ?_
  show Goes p e below _ (T4.setTop (mkF m 19 #[vr a, vr b, .val (.long (0 : Int64)), .second, .unset, .unset, .unset] [(.long (w_ ^^^ y_))]))
  refine Goes.via (fun _ kk_ => XS.lstore X4.here hx rfl (hb hby d15_19) rfl (l' := #[vr a, vr b, .val (.long (0 : Int64)), .second, .val (.long (w_ ^^^ y_)), .second, .unset]) rfl kk_) ?_
  show Goes p e below _ (T4.setTop (mkF m 21 #[vr a, vr b, .val (.long (0 : Int64)), .second, .val (.long (w_ ^^^ y_)), .second, .unset] []))
  refine Goes.via (fun _ kk_ => XS.lloadN X4.here hx rfl (hb hby d15_21) rfl  kk_) ?_
  show Goes p e below _ (T4.setTop (mkF m 22 #[vr a, vr b, .val (.long (0 : Int64)), .second, .val (.long (w_ ^^^ y_)), .second, .unset] [(.long (0 : Int64))]))
  refine Goes.via (fun _ kk_ => XS.lconst X4.here hx rfl (hb hby d15_22) kk_) ?_
  show Goes p e below _ (T4.setTop (mkF m 23 #[vr a, vr b, .val (.long (0 : Int64)), .second, .val (.long (w_ ^^^ y_)), .second, .unset] [(.long (0 : Int64)), (.long (0 : Int64))]))
  refine Goes.via (fun _ kk_ => XS.lcmp X4.here hx rfl (hb hby d15_23) rfl kk_) ?_
  show Goes p e below _ (T4.setTop (mkF m 24 #[vr a, vr b, .val (.long (0 : Int64)), .second, .val (.long (w_ ^^^ y_)), .second, .unset] [(.int (lcmpW (0 : Int64) (0 : Int64)))]))
  have hc24_5 : (0 : Int64) = (0 : Int64) := rfl
  refine Goes.via (fun _ kk_ => XS.ifNo X4.here hx rfl (hb hby d15_24) rfl ((if0 _ _).trans (teq ((lw_eq (0 : Int64) (0 : Int64)).mpr hc24_5)).2) kk_) ?_
  show Goes p e below _ (T4.setTop (mkF m 27 #[vr a, vr b, .val (.long (0 : Int64)), .second, .val (.long (w_ ^^^ y_)), .second, .unset] []))
  refine Goes.via (fun _ kk_ => XS.lload X4.here hx rfl (hb hby d15_27) rfl  kk_) ?_
  show Goes p e below _ (T4.setTop (mkF m 29 #[vr a, vr b, .val (.long (0 : Int64)), .second, .val (.long (w_ ^^^ y_)), .second, .unset] [(.long (w_ ^^^ y_))]))
  refine Goes.via (fun _ kk_ => XS.lconst X4.here hx rfl (hb hby d15_29) kk_) ?_
  show Goes p e below _ (T4.setTop (mkF m 30 #[vr a, vr b, .val (.long (0 : Int64)), .second, .val (.long (w_ ^^^ y_)), .second, .unset] [(.long (0 : Int64)), (.long (w_ ^^^ y_))]))
  refine Goes.via (fun _ kk_ => XS.lcmp X4.here hx rfl (hb hby d15_30) rfl kk_) ?_
  show Goes p e below _ (T4.setTop (mkF m 31 #[vr a, vr b, .val (.long (0 : Int64)), .second, .val (.long (w_ ^^^ y_)), .second, .unset] [(.int (lcmpW (w_ ^^^ y_) (0 : Int64)))]))
  by_cases hc31 : (w_ ^^^ y_) = (0 : Int64)
  · skip
    refine Goes.via (fun _ kk_ => XS.ifNo X4.here hx rfl (hb hby d15_31) rfl ((if0 _ _).trans (teq ((lw_eq (w_ ^^^ y_) (0 : Int64)).mpr hc31)).2) kk_) ?_
    show Goes p e below _ (T4.setTop (mkF m 34 #[vr a, vr b, .val (.long (0 : Int64)), .second, .val (.long (w_ ^^^ y_)), .second, .unset] []))
    refine gALN X4 hx hby d15_34 rfl rfl ?_
    obtain ⟨T6, X6, e6, st6⟩ := getF X4 hx hZ hown (host := "") (Or.inl (own_w hw 30 rfl)) Via.refl e4 F0_a_space (g := (mkF m 35 #[vr a, vr b, .val (.long (0 : Int64)), .second, .val (.long (w_ ^^^ y_)), .second, .unset] [(.ref a)])) rfl rfl (hb hby d15_35)
    refine Goes.via st6 ?_
    show Goes p e below _ (T6.setTop (mkF m 38 #[vr a, vr b, .val (.long (0 : Int64)), .second, .val (.long (w_ ^^^ y_)), .second, .unset] [(.ref sp)]))
    obtain ⟨cq7, kq7, q7a, q7b, q7c⟩ := isOf hZ e6 E6_sp
    obtain ⟨_, _, ⟨T7, L7, k7, n7⟩, -, X7, ⟨Lc7, hQ7, l7, y7, z7⟩, st7⟩ := X6.virtualBack hx (y := mN_IdSpace_digits) (z := mN_IdSpace_digits) hown (mvT hZ (own_w hw 160 rfl)) (mvT hZ (own_w hw 67 rfl)) (notFace_of_selects (args := #[]) (mvT hZ (own_w hw 69 rfl))) (mvT hZ (own_w hw 69 rfl)) (mvT hZ (own_w hw 68 rfl)) (by decide) (backOf (W := 0) (rm12 l Z a0 hw [] sp dg h0 n0 (Nat.le_trans Z0 (Nat.le_refl _)) F8_sp_digits) hZ (own_w hw 70 rfl) (own_w hw 2 rfl) (by decide) (by decide)) q7a q7c (g := (mkF m 38 #[vr a, vr b, .val (.long (0 : Int64)), .second, .val (.long (w_ ^^^ y_)), .second, .unset] [(.ref sp)])) rfl (by rw [hml]; rfl) (Steps.refl _) (argsL := []) (rest := []) (lenOf pd_2 rfl) rfl (by show 2 * 0 + _ ≤ _; exact Nat.le_of_eq rfl) (hb hby d15_38) (fun _ _ => ⟨rfl, e6, (by decide : 0 + 0 ≤ _), (by decide : 0 + 0 ≤ _)⟩)
    dsimp only [Pt.U, Pt.locs, Pt.cells, Pt.slots] at X7 l7 y7 z7 st7 hQ7
    replace l7 := l7.symm
    subst l7 y7 z7
    obtain ⟨rfl, rfl, e7⟩ := hQ7
    first | rw [List.append_nil] at X7 | skip
    refine Goes.tr st7 ?_
    have e7' : T7.heap = h0 := e7
    show Goes p e below _ (T7.setTop (mkF m 41 #[vr a, vr b, .val (.long (0 : Int64)), .second, .val (.long (w_ ^^^ y_)), .second, .unset] [(.int dg)]))
    exact own_finI X7 hx hlk hret (hb hby d15_41) (by rw [e7']; exact ⟨(own_ret (if_pos hc31).symm), rfl, rfl⟩) (by first | decide | omega | (dsimp only; omega)) (by first | decide | omega | (dsimp only; omega))
  · skip
    refine Goes.via (fun _ kk_ => XS.ifYes X4.here hx rfl (pc0 := 31) (pc' := 42) rfl (hb hby d15_31) rfl ((if0 _ _).trans (feq (fun q => hc31 ((lw_eq (w_ ^^^ y_) (0 : Int64)).mp q))).2) (by decide) (by decide) kk_) ?_
    show Goes p e below _ (T4.setTop (mkF m 42 #[vr a, vr b, .val (.long (0 : Int64)), .second, .val (.long (w_ ^^^ y_)), .second, .unset] []))
    refine Goes.via (fun _ kk_ => XS.lloadN X4.here hx rfl (hb hby d15_42) rfl  kk_) ?_
    show Goes p e below _ (T4.setTop (mkF m 43 #[vr a, vr b, .val (.long (0 : Int64)), .second, .val (.long (w_ ^^^ y_)), .second, .unset] [(.long (0 : Int64))]))
    refine Goes.via (fun _ kk_ => XS.lconst X4.here hx rfl (hb hby d15_43) kk_) ?_
    show Goes p e below _ (T4.setTop (mkF m 44 #[vr a, vr b, .val (.long (0 : Int64)), .second, .val (.long (w_ ^^^ y_)), .second, .unset] [(.long (0 : Int64)), (.long (0 : Int64))]))
    refine Goes.via (fun _ kk_ => XS.lcmp X4.here hx rfl (hb hby d15_44) rfl kk_) ?_
    show Goes p e below _ (T4.setTop (mkF m 45 #[vr a, vr b, .val (.long (0 : Int64)), .second, .val (.long (w_ ^^^ y_)), .second, .unset] [(.int (lcmpW (0 : Int64) (0 : Int64)))]))
    have hc45_8 : (0 : Int64) = (0 : Int64) := rfl
    refine Goes.via (fun _ kk_ => XS.ifYes X4.here hx rfl (pc0 := 45) (pc' := 55) rfl (hb hby d15_45) rfl ((if0 _ _).trans (teq ((lw_eq (0 : Int64) (0 : Int64)).mpr hc45_8)).1) (by decide) (by decide) kk_) ?_
    show Goes p e below _ (T4.setTop (mkF m 55 #[vr a, vr b, .val (.long (0 : Int64)), .second, .val (.long (w_ ^^^ y_)), .second, .unset] []))
    refine gBI (z := 64) X4 hx hby d15_55 rfl ?_
    refine Goes.via (fun _ kk_ => XS.lload X4.here hx rfl (hb hby d15_57) rfl  kk_) ?_
    show Goes p e below _ (T4.setTop (mkF m 59 #[vr a, vr b, .val (.long (0 : Int64)), .second, .val (.long (w_ ^^^ y_)), .second, .unset] [(.long (w_ ^^^ y_)), (.int (64 : Int32))]))
    obtain ⟨_, _, ⟨T9, L9, k9, n9⟩, -, X9, ⟨Lc9, hQ9, l9, y9, z9⟩, st9⟩ := Jvm.LawKit.callS X4 hx (y := mN_Long_numberOfLeadingZeros) hown (mvT hZ (own_w hw 99 rfl)) (mvT hZ (own_w hw 100 rfl)) (mvT hZ (own_w hw 101 rfl)) (mvT hZ (own_w hw 102 rfl)) (by decide) (backOf (W := 1) (rm16 l Z a0 hw [] (w_ ^^^ y_) h0 n0 (Nat.le_trans Z0 (Nat.le_refl _)) ) hZ (own_w hw 102 rfl) (own_w hw 101 rfl) (by decide) (by decide)) (g := (mkF m 59 #[vr a, vr b, .val (.long (0 : Int64)), .second, .val (.long (w_ ^^^ y_)), .second, .unset] [(.long (w_ ^^^ y_)), (.int (64 : Int32))])) rfl (by rw [hml]; rfl) (argsL := [(.long (w_ ^^^ y_))]) (rest := [(.int (64 : Int32))]) (lenOf pd_4 rfl) rfl (by show 2 * 0 + _ ≤ _; exact Nat.le_of_eq rfl) (hb hby d15_59) (fun _ _ => ⟨rfl, e4, (by decide : 0 + 0 ≤ _), (by decide : 0 + 0 ≤ _)⟩)
    dsimp only [Pt.U, Pt.locs, Pt.cells, Pt.slots] at X9 l9 y9 z9 st9 hQ9
    replace l9 := l9.symm
    subst l9 y9 z9
    obtain ⟨rfl, rfl, e9⟩ := hQ9
    first | rw [List.append_nil] at X9 | skip
    refine Goes.via st9 ?_
    have e9' : T9.heap = h0 := e9
    show Goes p e below _ (T9.setTop (mkF m 62 #[vr a, vr b, .val (.long (0 : Int64)), .second, .val (.long (w_ ^^^ y_)), .second, .unset] [(.int (own_nlzL (w_ ^^^ y_))), (.int (64 : Int32))]))
    refine Goes.via (fun _ kk_ => XS.iadd X9.here hx rfl (hb hby d15_62) rfl kk_) ?_
    show Goes p e below _ (T9.setTop (mkF m 63 #[vr a, vr b, .val (.long (0 : Int64)), .second, .val (.long (w_ ^^^ y_)), .second, .unset] [(.int ((64 : Int32) + (own_nlzL (w_ ^^^ y_))))]))
    refine Goes.via (fun _ kk_ => XS.istore X9.here hx rfl (hb hby d15_63) rfl (l' := #[vr a, vr b, .val (.long (0 : Int64)), .second, .val (.long (w_ ^^^ y_)), .second, vi ((64 : Int32) + (own_nlzL (w_ ^^^ y_)))]) rfl kk_) ?_
    show Goes p e below _ (T9.setTop (mkF m 65 #[vr a, vr b, .val (.long (0 : Int64)), .second, .val (.long (w_ ^^^ y_)), .second, vi ((64 : Int32) + (own_nlzL (w_ ^^^ y_)))] []))
    refine gIL X9 hx hby d15_65 rfl ?_
    refine gSI (z := 128) X9 hx hby d15_67 rfl ?_
    refine gALN X9 hx hby d15_70 rfl rfl ?_
    obtain ⟨T10, X10, e10, st10⟩ := getF X9 hx hZ hown (host := "") (Or.inl (own_w hw 30 rfl)) Via.refl e9' F0_a_space (g := (mkF m 71 #[vr a, vr b, .val (.long (0 : Int64)), .second, .val (.long (w_ ^^^ y_)), .second, vi ((64 : Int32) + (own_nlzL (w_ ^^^ y_)))] [(.ref a), (.int (128 : Int32)), (.int ((64 : Int32) + (own_nlzL (w_ ^^^ y_))))])) rfl rfl (hb hby d15_71)
    refine Goes.via st10 ?_
    show Goes p e below _ (T10.setTop (mkF m 74 #[vr a, vr b, .val (.long (0 : Int64)), .second, .val (.long (w_ ^^^ y_)), .second, vi ((64 : Int32) + (own_nlzL (w_ ^^^ y_)))] [(.ref sp), (.int (128 : Int32)), (.int ((64 : Int32) + (own_nlzL (w_ ^^^ y_))))]))
    obtain ⟨cq11, kq11, q11a, q11b, q11c⟩ := isOf hZ e10 E6_sp
    obtain ⟨_, _, ⟨T11, L11, k11, n11⟩, -, X11, ⟨Lc11, hQ11, l11, y11, z11⟩, st11⟩ := X10.virtualBack hx (y := mN_IdSpace_bits) (z := mN_IdSpace_bits) hown (mvT hZ (own_w hw 35 rfl)) (mvT hZ (own_w hw 36 rfl)) (notFace_of_selects (args := #[]) (mvT hZ (own_w hw 38 rfl))) (mvT hZ (own_w hw 38 rfl)) (mvT hZ (own_w hw 37 rfl)) (by decide) (backOf (W := 2) (rm7 l Z a0 hw [] sp x_ dg bp h0 n0 (Nat.le_trans Z0 (Nat.le_refl _)) E6_sp F7_sp_base F8_sp_digits HB) hZ (own_w hw 39 rfl) (own_w hw 2 rfl) (by decide) (by decide)) q11a q11c (g := (mkF m 74 #[vr a, vr b, .val (.long (0 : Int64)), .second, .val (.long (w_ ^^^ y_)), .second, vi ((64 : Int32) + (own_nlzL (w_ ^^^ y_)))] [(.ref sp), (.int (128 : Int32)), (.int ((64 : Int32) + (own_nlzL (w_ ^^^ y_))))])) rfl (by rw [hml]; rfl) (Steps.refl _) (argsL := []) (rest := [(.int (128 : Int32)), (.int ((64 : Int32) + (own_nlzL (w_ ^^^ y_))))]) (lenOf pd_2 rfl) rfl (by show 2 * 0 + _ ≤ _; exact Nat.le_of_eq rfl) (hb hby d15_74) (fun _ _ => ⟨rfl, e10, (by decide : 0 + 0 ≤ _), (by decide : 0 + 0 ≤ _)⟩)
    dsimp only [Pt.U, Pt.locs, Pt.cells, Pt.slots] at X11 l11 y11 z11 st11 hQ11
    replace l11 := l11.symm
    subst l11 y11 z11
    obtain ⟨rfl, rfl, e11⟩ := hQ11
    first | rw [List.append_nil] at X11 | skip
    refine Goes.tr st11 ?_
    have e11' : T11.heap = h0 := e11
    show Goes p e below _ (T11.setTop (mkF m 77 #[vr a, vr b, .val (.long (0 : Int64)), .second, .val (.long (w_ ^^^ y_)), .second, vi ((64 : Int32) + (own_nlzL (w_ ^^^ y_)))] [(.int (dg * bp)), (.int (128 : Int32)), (.int ((64 : Int32) + (own_nlzL (w_ ^^^ y_))))]))
    refine Goes.via (fun _ kk_ => XS.isub X11.here hx rfl (hb hby d15_77) rfl kk_) ?_
    show Goes p e below _ (T11.setTop (mkF m 78 #[vr a, vr b, .val (.long (0 : Int64)), .second, .val (.long (w_ ^^^ y_)), .second, vi ((64 : Int32) + (own_nlzL (w_ ^^^ y_)))] [(.int ((128 : Int32) - (dg * bp))), (.int ((64 : Int32) + (own_nlzL (w_ ^^^ y_))))]))
    refine Goes.via (fun _ kk_ => XS.isub X11.here hx rfl (hb hby d15_78) rfl kk_) ?_
    show Goes p e below _ (T11.setTop (mkF m 79 #[vr a, vr b, .val (.long (0 : Int64)), .second, .val (.long (w_ ^^^ y_)), .second, vi ((64 : Int32) + (own_nlzL (w_ ^^^ y_)))] [(.int (((64 : Int32) + (own_nlzL (w_ ^^^ y_))) - ((128 : Int32) - (dg * bp))))]))
    refine gALN X11 hx hby d15_79 rfl rfl ?_
    obtain ⟨T12, X12, e12, st12⟩ := getF X11 hx hZ hown (host := "") (Or.inl (own_w hw 30 rfl)) Via.refl e11' F0_a_space (g := (mkF m 80 #[vr a, vr b, .val (.long (0 : Int64)), .second, .val (.long (w_ ^^^ y_)), .second, vi ((64 : Int32) + (own_nlzL (w_ ^^^ y_)))] [(.ref a), (.int (((64 : Int32) + (own_nlzL (w_ ^^^ y_))) - ((128 : Int32) - (dg * bp))))])) rfl rfl (hb hby d15_80)
    refine Goes.via st12 ?_
    show Goes p e below _ (T12.setTop (mkF m 83 #[vr a, vr b, .val (.long (0 : Int64)), .second, .val (.long (w_ ^^^ y_)), .second, vi ((64 : Int32) + (own_nlzL (w_ ^^^ y_)))] [(.ref sp), (.int (((64 : Int32) + (own_nlzL (w_ ^^^ y_))) - ((128 : Int32) - (dg * bp))))]))
    obtain ⟨cq13, kq13, q13a, q13b, q13c⟩ := isOf hZ e12 E6_sp
    obtain ⟨_, _, ⟨T13, L13, k13, n13⟩, -, X13, ⟨Lc13, hQ13, l13, y13, z13⟩, st13⟩ := X12.virtualBack hx (y := mN_IdSpace_bitsPerDigit) (z := mN_IdSpace_bitsPerDigit) hown (mvT hZ (own_w hw 106 rfl)) (mvT hZ (own_w hw 41 rfl)) (notFace_of_selects (args := #[]) (mvT hZ (own_w hw 43 rfl))) (mvT hZ (own_w hw 43 rfl)) (mvT hZ (own_w hw 42 rfl)) (by decide) (backOf (W := 1) (rm8 l Z a0 hw [] sp x_ bp h0 n0 (Nat.le_trans Z0 (Nat.le_refl _)) F7_sp_base HB) hZ (own_w hw 44 rfl) (own_w hw 2 rfl) (by decide) (by decide)) q13a q13c (g := (mkF m 83 #[vr a, vr b, .val (.long (0 : Int64)), .second, .val (.long (w_ ^^^ y_)), .second, vi ((64 : Int32) + (own_nlzL (w_ ^^^ y_)))] [(.ref sp), (.int (((64 : Int32) + (own_nlzL (w_ ^^^ y_))) - ((128 : Int32) - (dg * bp))))])) rfl (by rw [hml]; rfl) (Steps.refl _) (argsL := []) (rest := [(.int (((64 : Int32) + (own_nlzL (w_ ^^^ y_))) - ((128 : Int32) - (dg * bp))))]) (lenOf pd_2 rfl) rfl (by show 2 * 0 + _ ≤ _; exact Nat.le_of_eq rfl) (hb hby d15_83) (fun _ _ => ⟨rfl, e12, (by decide : 0 + 0 ≤ _), (by decide : 0 + 0 ≤ _)⟩)
    dsimp only [Pt.U, Pt.locs, Pt.cells, Pt.slots] at X13 l13 y13 z13 st13 hQ13
    replace l13 := l13.symm
    subst l13 y13 z13
    obtain ⟨rfl, rfl, e13⟩ := hQ13
    first | rw [List.append_nil] at X13 | skip
    refine Goes.tr st13 ?_
    have e13' : T13.heap = h0 := e13
    show Goes p e below _ (T13.setTop (mkF m 86 #[vr a, vr b, .val (.long (0 : Int64)), .second, .val (.long (w_ ^^^ y_)), .second, vi ((64 : Int32) + (own_nlzL (w_ ^^^ y_)))] [(.int bp), (.int (((64 : Int32) + (own_nlzL (w_ ^^^ y_))) - ((128 : Int32) - (dg * bp))))]))
    refine Goes.via (fun _ kk_ => XS.idiv X13.here hx rfl (hb hby d15_86) rfl (own_bb0 HB) kk_) ?_
    show Goes p e below _ (T13.setTop (mkF m 87 #[vr a, vr b, .val (.long (0 : Int64)), .second, .val (.long (w_ ^^^ y_)), .second, vi ((64 : Int32) + (own_nlzL (w_ ^^^ y_)))] [(.int ((((64 : Int32) + (own_nlzL (w_ ^^^ y_))) - ((128 : Int32) - (dg * bp))) / bp))]))
    exact own_finI X13 hx hlk hret (hb hby d15_87) (by rw [e13']; exact ⟨(own_ret (if_neg hc31).symm), rfl, rfl⟩) (by first | decide | omega | (dsimp only; omega)) (by first | decide | omega | (dsimp only; omega))
def own_dig (v : Int32) (ps : Int32) (dg : Int32) (bp : Int32) : Int32 := (((v.toUInt32 >>> ((((dg - (1 : Int32)) - ps) * bp) &&& 31).toUInt32).toInt32) &&& (((1 : Int32) <<< (bp &&& 31)) - (1 : Int32)))
theorem ef_rm24 (m : MethodId) (v : Int32) (ps : Int32) (dg : Int32) (bp : Int32) : entryFrame m #[(.int v), (.int ps), (.int dg), (.int bp)] 4 = mkF m 0 #[.val (.int v), .val (.int ps), .val (.int dg), .val (.int bp)] [] := by first | (simp [entryFrame, mkF, argsToLocals, Value.category]; done) | rfl
def Qrm24 (Z : State) (v : Int32) (ps : Int32) (dg : Int32) (bp : Int32) (h0 : Heap) (n0 : Nat) (v_ : Option Value) (h_ : Heap) (L_ : List Loc) : Prop := v_ = some (.int (own_dig v ps dg bp)) ∧ L_ = [] ∧ h_ = h0
theorem pn_nearhop_model_RoutingTableGetPinLaw : plainName "nearhop/model/RoutingTableGetPinLaw" = true := by first | (simp [plainName, overriddenIn]; done) | decide +kernel
theorem d24_0 : decode method_2_code 0 = .ok (.iload_n 0, 1) := by decide +kernel
theorem d24_1 : decode method_2_code 1 = .ok (.iload_n 2, 1) := by decide +kernel
theorem d24_2 : decode method_2_code 2 = .ok (.iconst 1, 1) := by decide +kernel
theorem d24_3 : decode method_2_code 3 = .ok (.isub, 1) := by decide +kernel
theorem d24_4 : decode method_2_code 4 = .ok (.iload_n 1, 1) := by decide +kernel
theorem d24_5 : decode method_2_code 5 = .ok (.isub, 1) := by decide +kernel
theorem d24_6 : decode method_2_code 6 = .ok (.iload_n 3, 1) := by decide +kernel
theorem d24_7 : decode method_2_code 7 = .ok (.imul, 1) := by decide +kernel
theorem d24_8 : decode method_2_code 8 = .ok (.iushr, 1) := by decide +kernel
theorem d24_9 : decode method_2_code 9 = .ok (.iconst 1, 1) := by decide +kernel
theorem d24_10 : decode method_2_code 10 = .ok (.iload_n 3, 1) := by decide +kernel
theorem d24_11 : decode method_2_code 11 = .ok (.ishl, 1) := by decide +kernel
theorem d24_12 : decode method_2_code 12 = .ok (.iconst 1, 1) := by decide +kernel
theorem d24_13 : decode method_2_code 13 = .ok (.isub, 1) := by decide +kernel
theorem d24_14 : decode method_2_code 14 = .ok (.iand, 1) := by decide +kernel
theorem d24_15 : decode method_2_code 15 = .ok (.ireturn, 1) := by decide +kernel
set_option maxRecDepth 65536 in
set_option maxHeartbeats 40000000 in
theorem rm24 (l : Launch) (Z : State) (a0 : Array Value) (hw : ∀ d ∈ tables_1, d.before a0 Z = true) (ws : List Jvm.Cond) (v : Int32) (ps : Int32) (dg : Int32) (bp : Int32) (h0 : Heap) (n0 : Nat) (Z0 : n0 ≤ h0.size) :
    MetFree l (⟨"nearhop/model/RoutingTableGetPinLaw", "dig", "(IIII)I"⟩ : MethodName) (head1 (Jvm.Cond.code (⟨"nearhop/model/RoutingTableGetPinLaw", "dig", "(IIII)I"⟩ : MethodName) method_2_code 4 (some .int) :: ws) ({ frames := 0, cells := 0, slots := 0, locals := 0 } : Room)) (fun as_ U_ => as_ = #[(.int v), (.int ps), (.int dg), (.int bp)] ∧ Z.Warmed39 U_.vm ∧ U_.heap = h0) (fun _ _ _ _ _ => True) (fun _ U_ o_ V_ => ∃ v_ L_, o_ = .returned v_ ∧ Qrm24 Z v ps dg bp h0 n0 v_ V_.heap L_ ∧ FrameEnd U_ o_ V_ L_ ({ frames := 0, cells := 0, slots := 0, locals := 0 } : Room).cells ({ frames := 0, cells := 0, slots := 0, locals := 0 } : Room).slots) := by
  refine MetFree.of_bodySF (plainFor_of_name pn_nearhop_model_RoutingTableGetPinLaw) hisR ?_
  intro p e s m args below meth c s₁ Bd hml0 hP hK
  obtain ⟨rfl, hZ, hh⟩ := hP
  have hx := Bd.exec
  have hby := Bd.bytes
  have hlk : meth.locks = false := BodyLoose.notSynchronized Bd
  have hret := Bd.returns
  have hml : c.maxLocals = 4 := hml0
  have hown : s.vm.findClass "nearhop/model/RoutingTableGetPinLaw" = some m.cls := findClass_of_methodNamed Bd.named
  have hnm := (name_of_methodNamed Bd.named Bd.method).1
  have X0 : Stand p l e ({ frames := 0, cells := 0, slots := 0, locals := 0 } : Room) s m #[(.int v), (.int ps), (.int dg), (.int bp)] below meth c s₁ [] 0 0 := Stand.of_body Bd
  have e0 : s₁.heap = h0 := by rw [← hh, Bd.state]; rfl
  have N0 := Fr.nil n0
  show Goes p e below (Fin_ s (Qrm24 Z v ps dg bp h0 n0) ({ frames := 0, cells := 0, slots := 0, locals := 0 } : Room).cells ({ frames := 0, cells := 0, slots := 0, locals := 0 } : Room).slots) (s₁.setTop (entryFrame m #[(.int v), (.int ps), (.int dg), (.int bp)] 4))
  rw [ef_rm24 m v ps dg bp]
  refine gILN X0 hx hby d24_0 rfl ?_
  refine gILN X0 hx hby d24_1 rfl ?_
  refine gIC (z := 1) X0 hx hby d24_2 rfl ?_
  refine Goes.via (fun _ kk_ => XS.isub X0.here hx rfl (hb hby d24_3) rfl kk_) ?_
  show Goes p e below _ (s₁.setTop (mkF m 4 #[vi v, vi ps, vi dg, vi bp] [(.int (dg - (1 : Int32))), (.int v)]))
  refine gILN X0 hx hby d24_4 rfl ?_
  refine Goes.via (fun _ kk_ => XS.isub X0.here hx rfl (hb hby d24_5) rfl kk_) ?_
  show Goes p e below _ (s₁.setTop (mkF m 6 #[vi v, vi ps, vi dg, vi bp] [(.int ((dg - (1 : Int32)) - ps)), (.int v)]))
  refine gILN X0 hx hby d24_6 rfl ?_
  refine Goes.via (fun _ kk_ => XS.imul X0.here hx rfl (hb hby d24_7) rfl kk_) ?_
  show Goes p e below _ (s₁.setTop (mkF m 8 #[vi v, vi ps, vi dg, vi bp] [(.int (((dg - (1 : Int32)) - ps) * bp)), (.int v)]))
  refine Goes.via (fun _ kk_ => XS.iushr X0.here hx rfl (hb hby d24_8) rfl kk_) ?_
  show Goes p e below _ (s₁.setTop (mkF m 9 #[vi v, vi ps, vi dg, vi bp] [(.int ((v.toUInt32 >>> ((((dg - (1 : Int32)) - ps) * bp) &&& 31).toUInt32).toInt32))]))
  refine gIC (z := 1) X0 hx hby d24_9 rfl ?_
  refine gILN X0 hx hby d24_10 rfl ?_
  refine Goes.via (fun _ kk_ => XS.ishl X0.here hx rfl (hb hby d24_11) rfl kk_) ?_
  show Goes p e below _ (s₁.setTop (mkF m 12 #[vi v, vi ps, vi dg, vi bp] [(.int ((1 : Int32) <<< (bp &&& 31))), (.int ((v.toUInt32 >>> ((((dg - (1 : Int32)) - ps) * bp) &&& 31).toUInt32).toInt32))]))
  refine gIC (z := 1) X0 hx hby d24_12 rfl ?_
  refine Goes.via (fun _ kk_ => XS.isub X0.here hx rfl (hb hby d24_13) rfl kk_) ?_
  show Goes p e below _ (s₁.setTop (mkF m 14 #[vi v, vi ps, vi dg, vi bp] [(.int (((1 : Int32) <<< (bp &&& 31)) - (1 : Int32))), (.int ((v.toUInt32 >>> ((((dg - (1 : Int32)) - ps) * bp) &&& 31).toUInt32).toInt32))]))
  refine Goes.via (fun _ kk_ => XS.iand X0.here hx rfl (hb hby d24_14) rfl kk_) ?_
  show Goes p e below _ (s₁.setTop (mkF m 15 #[vi v, vi ps, vi dg, vi bp] [(.int (((v.toUInt32 >>> ((((dg - (1 : Int32)) - ps) * bp) &&& 31).toUInt32).toInt32) &&& (((1 : Int32) <<< (bp &&& 31)) - (1 : Int32))))]))
  exact own_finI X0 hx hlk hret (hb hby d24_15) (by rw [e0]; exact ⟨(by rw [own_dig]; first | done | rfl | exact own_nc _), rfl, rfl⟩) (by first | decide | omega | (dsimp only; omega)) (by first | decide | omega | (dsimp only; omega))
def own_prefix (x : Int32) (y : Int32) (dg : Int32) (bp : Int32) : Int32 := (if (own_dig x (0 : Int32) dg bp) = (own_dig y (0 : Int32) dg bp) then (if dg = (1 : Int32) then (1 : Int32) else (if (own_dig x (1 : Int32) dg bp) = (own_dig y (1 : Int32) dg bp) then (if dg = (2 : Int32) then (2 : Int32) else (if (own_dig x (2 : Int32) dg bp) = (own_dig y (2 : Int32) dg bp) then (3 : Int32) else (2 : Int32))) else (1 : Int32))) else (0 : Int32))
theorem ef_rm23 (m : MethodId) (x : Int32) (y : Int32) (dg : Int32) (bp : Int32) : entryFrame m #[(.int x), (.int y), (.int dg), (.int bp)] 4 = mkF m 0 #[.val (.int x), .val (.int y), .val (.int dg), .val (.int bp)] [] := by first | (simp [entryFrame, mkF, argsToLocals, Value.category]; done) | rfl
def Qrm23 (Z : State) (x : Int32) (y : Int32) (dg : Int32) (bp : Int32) (h0 : Heap) (n0 : Nat) (v_ : Option Value) (h_ : Heap) (L_ : List Loc) : Prop := v_ = some (.int (own_prefix x y dg bp)) ∧ L_ = [] ∧ h_ = h0
theorem d23_0 : decode method_3_code 0 = .ok (.iload_n 0, 1) := by decide +kernel
theorem d23_1 : decode method_3_code 1 = .ok (.iconst 0, 1) := by decide +kernel
theorem d23_2 : decode method_3_code 2 = .ok (.iload_n 2, 1) := by decide +kernel
theorem d23_3 : decode method_3_code 3 = .ok (.iload_n 3, 1) := by decide +kernel
theorem pd_5 : parseMethodDescriptor "(IIII)I" = some ⟨[.int, .int, .int, .int], some .int⟩ := by decide +kernel
theorem d23_4 : decode method_3_code 4 = .ok (.invokestatic 7, 3) := by decide +kernel
abbrev mN_RoutingTableGetPinLaw_dig : MethodName := ⟨"nearhop/model/RoutingTableGetPinLaw", "dig", "(IIII)I"⟩
theorem d23_7 : decode method_3_code 7 = .ok (.iload_n 1, 1) := by decide +kernel
theorem d23_8 : decode method_3_code 8 = .ok (.iconst 0, 1) := by decide +kernel
theorem d23_9 : decode method_3_code 9 = .ok (.iload_n 2, 1) := by decide +kernel
theorem d23_10 : decode method_3_code 10 = .ok (.iload_n 3, 1) := by decide +kernel
theorem d23_11 : decode method_3_code 11 = .ok (.invokestatic 7, 3) := by decide +kernel
theorem d23_14 : decode method_3_code 14 = .ok (.if_icmp .eq 5, 3) := by decide +kernel
theorem d23_19 : decode method_3_code 19 = .ok (.iload_n 2, 1) := by decide +kernel
theorem d23_20 : decode method_3_code 20 = .ok (.iconst 1, 1) := by decide +kernel
theorem d23_21 : decode method_3_code 21 = .ok (.if_icmp .ne 5, 3) := by decide +kernel
theorem d23_24 : decode method_3_code 24 = .ok (.iconst 1, 1) := by decide +kernel
theorem d23_25 : decode method_3_code 25 = .ok (.ireturn, 1) := by decide +kernel
theorem d23_26 : decode method_3_code 26 = .ok (.iload_n 0, 1) := by decide +kernel
theorem d23_27 : decode method_3_code 27 = .ok (.iconst 1, 1) := by decide +kernel
theorem d23_28 : decode method_3_code 28 = .ok (.iload_n 2, 1) := by decide +kernel
theorem d23_29 : decode method_3_code 29 = .ok (.iload_n 3, 1) := by decide +kernel
theorem d23_30 : decode method_3_code 30 = .ok (.invokestatic 7, 3) := by decide +kernel
theorem d23_33 : decode method_3_code 33 = .ok (.iload_n 1, 1) := by decide +kernel
theorem d23_34 : decode method_3_code 34 = .ok (.iconst 1, 1) := by decide +kernel
theorem d23_35 : decode method_3_code 35 = .ok (.iload_n 2, 1) := by decide +kernel
theorem d23_36 : decode method_3_code 36 = .ok (.iload_n 3, 1) := by decide +kernel
theorem d23_37 : decode method_3_code 37 = .ok (.invokestatic 7, 3) := by decide +kernel
theorem d23_40 : decode method_3_code 40 = .ok (.if_icmp .eq 5, 3) := by decide +kernel
theorem d23_45 : decode method_3_code 45 = .ok (.iload_n 2, 1) := by decide +kernel
theorem d23_46 : decode method_3_code 46 = .ok (.iconst 2, 1) := by decide +kernel
theorem d23_47 : decode method_3_code 47 = .ok (.if_icmp .ne 5, 3) := by decide +kernel
theorem d23_50 : decode method_3_code 50 = .ok (.iconst 2, 1) := by decide +kernel
theorem d23_51 : decode method_3_code 51 = .ok (.ireturn, 1) := by decide +kernel
theorem d23_52 : decode method_3_code 52 = .ok (.iload_n 0, 1) := by decide +kernel
theorem d23_53 : decode method_3_code 53 = .ok (.iconst 2, 1) := by decide +kernel
theorem d23_54 : decode method_3_code 54 = .ok (.iload_n 2, 1) := by decide +kernel
theorem d23_55 : decode method_3_code 55 = .ok (.iload_n 3, 1) := by decide +kernel
theorem d23_56 : decode method_3_code 56 = .ok (.invokestatic 7, 3) := by decide +kernel
theorem d23_59 : decode method_3_code 59 = .ok (.iload_n 1, 1) := by decide +kernel
theorem d23_60 : decode method_3_code 60 = .ok (.iconst 2, 1) := by decide +kernel
theorem d23_61 : decode method_3_code 61 = .ok (.iload_n 2, 1) := by decide +kernel
theorem d23_62 : decode method_3_code 62 = .ok (.iload_n 3, 1) := by decide +kernel
theorem d23_63 : decode method_3_code 63 = .ok (.invokestatic 7, 3) := by decide +kernel
theorem d23_66 : decode method_3_code 66 = .ok (.if_icmp .eq 5, 3) := by decide +kernel
theorem d23_71 : decode method_3_code 71 = .ok (.iconst 3, 1) := by decide +kernel
theorem d23_72 : decode method_3_code 72 = .ok (.ireturn, 1) := by decide +kernel
theorem d23_69 : decode method_3_code 69 = .ok (.iconst 2, 1) := by decide +kernel
theorem d23_70 : decode method_3_code 70 = .ok (.ireturn, 1) := by decide +kernel
theorem d23_43 : decode method_3_code 43 = .ok (.iconst 1, 1) := by decide +kernel
theorem d23_44 : decode method_3_code 44 = .ok (.ireturn, 1) := by decide +kernel
theorem d23_17 : decode method_3_code 17 = .ok (.iconst 0, 1) := by decide +kernel
theorem d23_18 : decode method_3_code 18 = .ok (.ireturn, 1) := by decide +kernel
set_option maxRecDepth 65536 in
set_option maxHeartbeats 40000000 in
theorem rm23 (l : Launch) (Z : State) (a0 : Array Value) (hw : ∀ d ∈ tables_1, d.before a0 Z = true) (ws : List Jvm.Cond) (x : Int32) (y : Int32) (dg : Int32) (bp : Int32) (h0 : Heap) (n0 : Nat) (Z0 : n0 ≤ h0.size) :
    MetFree l (⟨"nearhop/model/RoutingTableGetPinLaw", "prefix", "(IIII)I"⟩ : MethodName) (head1 (Jvm.Cond.code (⟨"nearhop/model/RoutingTableGetPinLaw", "prefix", "(IIII)I"⟩ : MethodName) method_3_code 4 (some .int) :: ws) ({ frames := 1, cells := 0, slots := 0, locals := 16 } : Room)) (fun as_ U_ => as_ = #[(.int x), (.int y), (.int dg), (.int bp)] ∧ Z.Warmed39 U_.vm ∧ U_.heap = h0) (fun _ _ _ _ _ => True) (fun _ U_ o_ V_ => ∃ v_ L_, o_ = .returned v_ ∧ Qrm23 Z x y dg bp h0 n0 v_ V_.heap L_ ∧ FrameEnd U_ o_ V_ L_ ({ frames := 1, cells := 0, slots := 0, locals := 16 } : Room).cells ({ frames := 1, cells := 0, slots := 0, locals := 16 } : Room).slots) := by
  refine MetFree.of_bodySF (plainFor_of_name pn_nearhop_model_RoutingTableGetPinLaw) hisR ?_
  intro p e s m args below meth c s₁ Bd hml0 hP hK
  obtain ⟨rfl, hZ, hh⟩ := hP
  have hx := Bd.exec
  have hby := Bd.bytes
  have hlk : meth.locks = false := BodyLoose.notSynchronized Bd
  have hret := Bd.returns
  have hml : c.maxLocals = 4 := hml0
  have hown : s.vm.findClass "nearhop/model/RoutingTableGetPinLaw" = some m.cls := findClass_of_methodNamed Bd.named
  have hnm := (name_of_methodNamed Bd.named Bd.method).1
  have X0 : Stand p l e ({ frames := 1, cells := 0, slots := 0, locals := 16 } : Room) s m #[(.int x), (.int y), (.int dg), (.int bp)] below meth c s₁ [] 0 0 := Stand.of_body Bd
  have e0 : s₁.heap = h0 := by rw [← hh, Bd.state]; rfl
  have N0 := Fr.nil n0
  show Goes p e below (Fin_ s (Qrm23 Z x y dg bp h0 n0) ({ frames := 1, cells := 0, slots := 0, locals := 16 } : Room).cells ({ frames := 1, cells := 0, slots := 0, locals := 16 } : Room).slots) (s₁.setTop (entryFrame m #[(.int x), (.int y), (.int dg), (.int bp)] 4))
  rw [ef_rm23 m x y dg bp]
  refine gILN X0 hx hby d23_0 rfl ?_
  refine gIC (z := 0) X0 hx hby d23_1 rfl ?_
  refine gILN X0 hx hby d23_2 rfl ?_
  refine gILN X0 hx hby d23_3 rfl ?_
  obtain ⟨_, _, ⟨T1, L1, k1, n1⟩, -, X1, ⟨Lc1, hQ1, l1, y1, z1⟩, st1⟩ := Jvm.LawKit.callS X0 hx (y := mN_RoutingTableGetPinLaw_dig) hown (mvT hZ (own_w hw 141 rfl)) (mvT hZ (own_w hw 142 rfl)) (mvT hZ (own_w hw 136 rfl)) (mvT hZ (own_w hw 143 rfl)) (by decide) (backOf (W := 0) (rm24 l Z a0 hw [] x (0 : Int32) dg bp h0 n0 (Nat.le_trans Z0 (Nat.le_refl _)) ) hZ (own_w hw 143 rfl) (own_w hw 136 rfl) (by decide) (by decide)) (g := (mkF m 4 #[vi x, vi y, vi dg, vi bp] [(.int bp), (.int dg), (.int (0 : Int32)), (.int x)])) rfl (by rw [hml]; rfl) (argsL := [(.int x), (.int (0 : Int32)), (.int dg), (.int bp)]) (rest := []) (lenOf pd_5 rfl) rfl (by show 2 * 0 + _ ≤ _; exact Nat.le_of_eq rfl) (hb hby d23_4) (fun _ _ => ⟨rfl, e0, (by decide : 0 + 0 ≤ _), (by decide : 0 + 0 ≤ _)⟩)
  dsimp only [Pt.U, Pt.locs, Pt.cells, Pt.slots] at X1 l1 y1 z1 st1 hQ1
  replace l1 := l1.symm
  subst l1 y1 z1
  obtain ⟨rfl, rfl, e1⟩ := hQ1
  first | rw [List.append_nil] at X1 | skip
  refine Goes.via st1 ?_
  have e1' : T1.heap = h0 := e1
  show Goes p e below _ (T1.setTop (mkF m 7 #[vi x, vi y, vi dg, vi bp] [(.int (own_dig x (0 : Int32) dg bp))]))
  refine gILN X1 hx hby d23_7 rfl ?_
  refine gIC (z := 0) X1 hx hby d23_8 rfl ?_
  refine gILN X1 hx hby d23_9 rfl ?_
  refine gILN X1 hx hby d23_10 rfl ?_
  obtain ⟨_, _, ⟨T2, L2, k2, n2⟩, -, X2, ⟨Lc2, hQ2, l2, y2, z2⟩, st2⟩ := Jvm.LawKit.callS X1 hx (y := mN_RoutingTableGetPinLaw_dig) hown (mvT hZ (own_w hw 141 rfl)) (mvT hZ (own_w hw 142 rfl)) (mvT hZ (own_w hw 136 rfl)) (mvT hZ (own_w hw 143 rfl)) (by decide) (backOf (W := 1) (rm24 l Z a0 hw [] y (0 : Int32) dg bp h0 n0 (Nat.le_trans Z0 (Nat.le_refl _)) ) hZ (own_w hw 143 rfl) (own_w hw 136 rfl) (by decide) (by decide)) (g := (mkF m 11 #[vi x, vi y, vi dg, vi bp] [(.int bp), (.int dg), (.int (0 : Int32)), (.int y), (.int (own_dig x (0 : Int32) dg bp))])) rfl (by rw [hml]; rfl) (argsL := [(.int y), (.int (0 : Int32)), (.int dg), (.int bp)]) (rest := [(.int (own_dig x (0 : Int32) dg bp))]) (lenOf pd_5 rfl) rfl (by show 2 * 0 + _ ≤ _; exact Nat.le_of_eq rfl) (hb hby d23_11) (fun _ _ => ⟨rfl, e1', (by decide : 0 + 0 ≤ _), (by decide : 0 + 0 ≤ _)⟩)
  dsimp only [Pt.U, Pt.locs, Pt.cells, Pt.slots] at X2 l2 y2 z2 st2 hQ2
  replace l2 := l2.symm
  subst l2 y2 z2
  obtain ⟨rfl, rfl, e2⟩ := hQ2
  first | rw [List.append_nil] at X2 | skip
  refine Goes.via st2 ?_
  have e2' : T2.heap = h0 := e2
  show Goes p e below _ (T2.setTop (mkF m 14 #[vi x, vi y, vi dg, vi bp] [(.int (own_dig y (0 : Int32) dg bp)), (.int (own_dig x (0 : Int32) dg bp))]))
  by_cases hc14 : (own_dig x (0 : Int32) dg bp) = (own_dig y (0 : Int32) dg bp)
  · skip
    refine Goes.via (fun _ kk_ => XS.icmpYes X2.here hx rfl (pc0 := 14) (pc' := 19) rfl (hb hby d23_14) rfl (teq hc14).1 (by decide) (by decide) kk_) ?_
    show Goes p e below _ (T2.setTop (mkF m 19 #[vi x, vi y, vi dg, vi bp] []))
    refine gILN X2 hx hby d23_19 rfl ?_
    refine gIC (z := 1) X2 hx hby d23_20 rfl ?_
    by_cases hc21 : dg = (1 : Int32)
    · skip
      refine Goes.via (fun _ kk_ => XS.icmpNo X2.here hx rfl (hb hby d23_21) rfl (teq hc21).2 kk_) ?_
      show Goes p e below _ (T2.setTop (mkF m 24 #[vi x, vi y, vi dg, vi bp] []))
      refine gIC (z := 1) X2 hx hby d23_24 rfl ?_
      exact own_finI X2 hx hlk hret (hb hby d23_25) (by rw [e2']; exact ⟨(by rw [own_prefix, if_pos hc14, if_pos hc21]; first | done | rfl | exact own_nc _), rfl, rfl⟩) (by first | decide | omega | (dsimp only; omega)) (by first | decide | omega | (dsimp only; omega))
    · skip
      refine Goes.via (fun _ kk_ => XS.icmpYes X2.here hx rfl (pc0 := 21) (pc' := 26) rfl (hb hby d23_21) rfl (feq hc21).2 (by decide) (by decide) kk_) ?_
      show Goes p e below _ (T2.setTop (mkF m 26 #[vi x, vi y, vi dg, vi bp] []))
      refine gILN X2 hx hby d23_26 rfl ?_
      refine gIC (z := 1) X2 hx hby d23_27 rfl ?_
      refine gILN X2 hx hby d23_28 rfl ?_
      refine gILN X2 hx hby d23_29 rfl ?_
      obtain ⟨_, _, ⟨T3, L3, k3, n3⟩, -, X3, ⟨Lc3, hQ3, l3, y3, z3⟩, st3⟩ := Jvm.LawKit.callS X2 hx (y := mN_RoutingTableGetPinLaw_dig) hown (mvT hZ (own_w hw 141 rfl)) (mvT hZ (own_w hw 142 rfl)) (mvT hZ (own_w hw 136 rfl)) (mvT hZ (own_w hw 143 rfl)) (by decide) (backOf (W := 0) (rm24 l Z a0 hw [] x (1 : Int32) dg bp h0 n0 (Nat.le_trans Z0 (Nat.le_refl _)) ) hZ (own_w hw 143 rfl) (own_w hw 136 rfl) (by decide) (by decide)) (g := (mkF m 30 #[vi x, vi y, vi dg, vi bp] [(.int bp), (.int dg), (.int (1 : Int32)), (.int x)])) rfl (by rw [hml]; rfl) (argsL := [(.int x), (.int (1 : Int32)), (.int dg), (.int bp)]) (rest := []) (lenOf pd_5 rfl) rfl (by show 2 * 0 + _ ≤ _; exact Nat.le_of_eq rfl) (hb hby d23_30) (fun _ _ => ⟨rfl, e2', (by decide : 0 + 0 ≤ _), (by decide : 0 + 0 ≤ _)⟩)
      dsimp only [Pt.U, Pt.locs, Pt.cells, Pt.slots] at X3 l3 y3 z3 st3 hQ3
      replace l3 := l3.symm
      subst l3 y3 z3
      obtain ⟨rfl, rfl, e3⟩ := hQ3
      first | rw [List.append_nil] at X3 | skip
      refine Goes.via st3 ?_
      have e3' : T3.heap = h0 := e3
      show Goes p e below _ (T3.setTop (mkF m 33 #[vi x, vi y, vi dg, vi bp] [(.int (own_dig x (1 : Int32) dg bp))]))
      refine gILN X3 hx hby d23_33 rfl ?_
      refine gIC (z := 1) X3 hx hby d23_34 rfl ?_
      refine gILN X3 hx hby d23_35 rfl ?_
      refine gILN X3 hx hby d23_36 rfl ?_
      obtain ⟨_, _, ⟨T4, L4, k4, n4⟩, -, X4, ⟨Lc4, hQ4, l4, y4, z4⟩, st4⟩ := Jvm.LawKit.callS X3 hx (y := mN_RoutingTableGetPinLaw_dig) hown (mvT hZ (own_w hw 141 rfl)) (mvT hZ (own_w hw 142 rfl)) (mvT hZ (own_w hw 136 rfl)) (mvT hZ (own_w hw 143 rfl)) (by decide) (backOf (W := 1) (rm24 l Z a0 hw [] y (1 : Int32) dg bp h0 n0 (Nat.le_trans Z0 (Nat.le_refl _)) ) hZ (own_w hw 143 rfl) (own_w hw 136 rfl) (by decide) (by decide)) (g := (mkF m 37 #[vi x, vi y, vi dg, vi bp] [(.int bp), (.int dg), (.int (1 : Int32)), (.int y), (.int (own_dig x (1 : Int32) dg bp))])) rfl (by rw [hml]; rfl) (argsL := [(.int y), (.int (1 : Int32)), (.int dg), (.int bp)]) (rest := [(.int (own_dig x (1 : Int32) dg bp))]) (lenOf pd_5 rfl) rfl (by show 2 * 0 + _ ≤ _; exact Nat.le_of_eq rfl) (hb hby d23_37) (fun _ _ => ⟨rfl, e3', (by decide : 0 + 0 ≤ _), (by decide : 0 + 0 ≤ _)⟩)
      dsimp only [Pt.U, Pt.locs, Pt.cells, Pt.slots] at X4 l4 y4 z4 st4 hQ4
      replace l4 := l4.symm
      subst l4 y4 z4
      obtain ⟨rfl, rfl, e4⟩ := hQ4
      first | rw [List.append_nil] at X4 | skip
      refine Goes.via st4 ?_
      have e4' : T4.heap = h0 := e4
      show Goes p e below _ (T4.setTop (mkF m 40 #[vi x, vi y, vi dg, vi bp] [(.int (own_dig y (1 : Int32) dg bp)), (.int (own_dig x (1 : Int32) dg bp))]))
      by_cases hc40 : (own_dig x (1 : Int32) dg bp) = (own_dig y (1 : Int32) dg bp)
      · skip
        refine Goes.via (fun _ kk_ => XS.icmpYes X4.here hx rfl (pc0 := 40) (pc' := 45) rfl (hb hby d23_40) rfl (teq hc40).1 (by decide) (by decide) kk_) ?_
        show Goes p e below _ (T4.setTop (mkF m 45 #[vi x, vi y, vi dg, vi bp] []))
        refine gILN X4 hx hby d23_45 rfl ?_
        refine gIC (z := 2) X4 hx hby d23_46 rfl ?_
        by_cases hc47 : dg = (2 : Int32)
        · skip
          refine Goes.via (fun _ kk_ => XS.icmpNo X4.here hx rfl (hb hby d23_47) rfl (teq hc47).2 kk_) ?_
          show Goes p e below _ (T4.setTop (mkF m 50 #[vi x, vi y, vi dg, vi bp] []))
          refine gIC (z := 2) X4 hx hby d23_50 rfl ?_
          exact own_finI X4 hx hlk hret (hb hby d23_51) (by rw [e4']; exact ⟨(by rw [own_prefix, if_pos hc14, if_neg hc21, if_pos hc40, if_pos hc47]; first | done | rfl | exact own_nc _), rfl, rfl⟩) (by first | decide | omega | (dsimp only; omega)) (by first | decide | omega | (dsimp only; omega))
        · skip
          refine Goes.via (fun _ kk_ => XS.icmpYes X4.here hx rfl (pc0 := 47) (pc' := 52) rfl (hb hby d23_47) rfl (feq hc47).2 (by decide) (by decide) kk_) ?_
          show Goes p e below _ (T4.setTop (mkF m 52 #[vi x, vi y, vi dg, vi bp] []))
          refine gILN X4 hx hby d23_52 rfl ?_
          refine gIC (z := 2) X4 hx hby d23_53 rfl ?_
          refine gILN X4 hx hby d23_54 rfl ?_
          refine gILN X4 hx hby d23_55 rfl ?_
          obtain ⟨_, _, ⟨T5, L5, k5, n5⟩, -, X5, ⟨Lc5, hQ5, l5, y5, z5⟩, st5⟩ := Jvm.LawKit.callS X4 hx (y := mN_RoutingTableGetPinLaw_dig) hown (mvT hZ (own_w hw 141 rfl)) (mvT hZ (own_w hw 142 rfl)) (mvT hZ (own_w hw 136 rfl)) (mvT hZ (own_w hw 143 rfl)) (by decide) (backOf (W := 0) (rm24 l Z a0 hw [] x (2 : Int32) dg bp h0 n0 (Nat.le_trans Z0 (Nat.le_refl _)) ) hZ (own_w hw 143 rfl) (own_w hw 136 rfl) (by decide) (by decide)) (g := (mkF m 56 #[vi x, vi y, vi dg, vi bp] [(.int bp), (.int dg), (.int (2 : Int32)), (.int x)])) rfl (by rw [hml]; rfl) (argsL := [(.int x), (.int (2 : Int32)), (.int dg), (.int bp)]) (rest := []) (lenOf pd_5 rfl) rfl (by show 2 * 0 + _ ≤ _; exact Nat.le_of_eq rfl) (hb hby d23_56) (fun _ _ => ⟨rfl, e4', (by decide : 0 + 0 ≤ _), (by decide : 0 + 0 ≤ _)⟩)
          dsimp only [Pt.U, Pt.locs, Pt.cells, Pt.slots] at X5 l5 y5 z5 st5 hQ5
          replace l5 := l5.symm
          subst l5 y5 z5
          obtain ⟨rfl, rfl, e5⟩ := hQ5
          first | rw [List.append_nil] at X5 | skip
          refine Goes.via st5 ?_
          have e5' : T5.heap = h0 := e5
          show Goes p e below _ (T5.setTop (mkF m 59 #[vi x, vi y, vi dg, vi bp] [(.int (own_dig x (2 : Int32) dg bp))]))
          refine gILN X5 hx hby d23_59 rfl ?_
          refine gIC (z := 2) X5 hx hby d23_60 rfl ?_
          refine gILN X5 hx hby d23_61 rfl ?_
          refine gILN X5 hx hby d23_62 rfl ?_
          obtain ⟨_, _, ⟨T6, L6, k6, n6⟩, -, X6, ⟨Lc6, hQ6, l6, y6, z6⟩, st6⟩ := Jvm.LawKit.callS X5 hx (y := mN_RoutingTableGetPinLaw_dig) hown (mvT hZ (own_w hw 141 rfl)) (mvT hZ (own_w hw 142 rfl)) (mvT hZ (own_w hw 136 rfl)) (mvT hZ (own_w hw 143 rfl)) (by decide) (backOf (W := 1) (rm24 l Z a0 hw [] y (2 : Int32) dg bp h0 n0 (Nat.le_trans Z0 (Nat.le_refl _)) ) hZ (own_w hw 143 rfl) (own_w hw 136 rfl) (by decide) (by decide)) (g := (mkF m 63 #[vi x, vi y, vi dg, vi bp] [(.int bp), (.int dg), (.int (2 : Int32)), (.int y), (.int (own_dig x (2 : Int32) dg bp))])) rfl (by rw [hml]; rfl) (argsL := [(.int y), (.int (2 : Int32)), (.int dg), (.int bp)]) (rest := [(.int (own_dig x (2 : Int32) dg bp))]) (lenOf pd_5 rfl) rfl (by show 2 * 0 + _ ≤ _; exact Nat.le_of_eq rfl) (hb hby d23_63) (fun _ _ => ⟨rfl, e5', (by decide : 0 + 0 ≤ _), (by decide : 0 + 0 ≤ _)⟩)
          dsimp only [Pt.U, Pt.locs, Pt.cells, Pt.slots] at X6 l6 y6 z6 st6 hQ6
          replace l6 := l6.symm
          subst l6 y6 z6
          obtain ⟨rfl, rfl, e6⟩ := hQ6
          first | rw [List.append_nil] at X6 | skip
          refine Goes.via st6 ?_
          have e6' : T6.heap = h0 := e6
          show Goes p e below _ (T6.setTop (mkF m 66 #[vi x, vi y, vi dg, vi bp] [(.int (own_dig y (2 : Int32) dg bp)), (.int (own_dig x (2 : Int32) dg bp))]))
          by_cases hc66 : (own_dig x (2 : Int32) dg bp) = (own_dig y (2 : Int32) dg bp)
          · skip
            refine Goes.via (fun _ kk_ => XS.icmpYes X6.here hx rfl (pc0 := 66) (pc' := 71) rfl (hb hby d23_66) rfl (teq hc66).1 (by decide) (by decide) kk_) ?_
            show Goes p e below _ (T6.setTop (mkF m 71 #[vi x, vi y, vi dg, vi bp] []))
            refine gIC (z := 3) X6 hx hby d23_71 rfl ?_
            exact own_finI X6 hx hlk hret (hb hby d23_72) (by rw [e6']; exact ⟨(by rw [own_prefix, if_pos hc14, if_neg hc21, if_pos hc40, if_neg hc47, if_pos hc66]; first | done | rfl | exact own_nc _), rfl, rfl⟩) (by first | decide | omega | (dsimp only; omega)) (by first | decide | omega | (dsimp only; omega))
          · skip
            refine Goes.via (fun _ kk_ => XS.icmpNo X6.here hx rfl (hb hby d23_66) rfl (feq hc66).1 kk_) ?_
            show Goes p e below _ (T6.setTop (mkF m 69 #[vi x, vi y, vi dg, vi bp] []))
            refine gIC (z := 2) X6 hx hby d23_69 rfl ?_
            exact own_finI X6 hx hlk hret (hb hby d23_70) (by rw [e6']; exact ⟨(by rw [own_prefix, if_pos hc14, if_neg hc21, if_pos hc40, if_neg hc47, if_neg hc66]; first | done | rfl | exact own_nc _), rfl, rfl⟩) (by first | decide | omega | (dsimp only; omega)) (by first | decide | omega | (dsimp only; omega))
      · skip
        refine Goes.via (fun _ kk_ => XS.icmpNo X4.here hx rfl (hb hby d23_40) rfl (feq hc40).1 kk_) ?_
        show Goes p e below _ (T4.setTop (mkF m 43 #[vi x, vi y, vi dg, vi bp] []))
        refine gIC (z := 1) X4 hx hby d23_43 rfl ?_
        exact own_finI X4 hx hlk hret (hb hby d23_44) (by rw [e4']; exact ⟨(by rw [own_prefix, if_pos hc14, if_neg hc21, if_neg hc40]; first | done | rfl | exact own_nc _), rfl, rfl⟩) (by first | decide | omega | (dsimp only; omega)) (by first | decide | omega | (dsimp only; omega))
  · skip
    refine Goes.via (fun _ kk_ => XS.icmpNo X2.here hx rfl (hb hby d23_14) rfl (feq hc14).1 kk_) ?_
    show Goes p e below _ (T2.setTop (mkF m 17 #[vi x, vi y, vi dg, vi bp] []))
    refine gIC (z := 0) X2 hx hby d23_17 rfl ?_
    exact own_finI X2 hx hlk hret (hb hby d23_18) (by rw [e2']; exact ⟨(by rw [own_prefix, if_neg hc14]; first | done | rfl | exact own_nc _), rfl, rfl⟩) (by first | decide | omega | (dsimp only; omega)) (by first | decide | omega | (dsimp only; omega))
def own_fits (x : Int32) (ow : Int32) (rw : Int32) (cl : Int32) (dg : Int32) (bp : Int32) : Int32 := (if x = ow then (0 : Int32) else (if (own_prefix ow x dg bp) = rw then (if (own_dig x rw dg bp) = cl then (1 : Int32) else (0 : Int32)) else (0 : Int32)))
theorem ef_rm22 (m : MethodId) (x : Int32) (ow : Int32) (rw : Int32) (cl : Int32) (dg : Int32) (bp : Int32) : entryFrame m #[(.int x), (.int ow), (.int rw), (.int cl), (.int dg), (.int bp)] 6 = mkF m 0 #[.val (.int x), .val (.int ow), .val (.int rw), .val (.int cl), .val (.int dg), .val (.int bp)] [] := by first | (simp [entryFrame, mkF, argsToLocals, Value.category]; done) | rfl
def Qrm22 (Z : State) (x : Int32) (ow : Int32) (rw : Int32) (cl : Int32) (dg : Int32) (bp : Int32) (h0 : Heap) (n0 : Nat) (v_ : Option Value) (h_ : Heap) (L_ : List Loc) : Prop := v_ = some (.int (own_fits x ow rw cl dg bp)) ∧ L_ = [] ∧ h_ = h0
theorem d22_0 : decode method_4_code 0 = .ok (.iload_n 0, 1) := by decide +kernel
theorem d22_1 : decode method_4_code 1 = .ok (.iload_n 1, 1) := by decide +kernel
theorem d22_2 : decode method_4_code 2 = .ok (.if_icmp .eq 33, 3) := by decide +kernel
theorem d22_35 : decode method_4_code 35 = .ok (.iconst 0, 1) := by decide +kernel
theorem d22_36 : decode method_4_code 36 = .ok (.ireturn, 1) := by decide +kernel
theorem d22_5 : decode method_4_code 5 = .ok (.iload_n 1, 1) := by decide +kernel
theorem d22_6 : decode method_4_code 6 = .ok (.iload_n 0, 1) := by decide +kernel
theorem d22_7 : decode method_4_code 7 = .ok (.iload 4, 2) := by decide +kernel
theorem d22_9 : decode method_4_code 9 = .ok (.iload 5, 2) := by decide +kernel
theorem d22_11 : decode method_4_code 11 = .ok (.invokestatic 13, 3) := by decide +kernel
abbrev mN_RoutingTableGetPinLaw_prefix : MethodName := ⟨"nearhop/model/RoutingTableGetPinLaw", "prefix", "(IIII)I"⟩
theorem d22_14 : decode method_4_code 14 = .ok (.iload_n 2, 1) := by decide +kernel
theorem d22_15 : decode method_4_code 15 = .ok (.if_icmp .ne 20, 3) := by decide +kernel
theorem d22_18 : decode method_4_code 18 = .ok (.iload_n 0, 1) := by decide +kernel
theorem d22_19 : decode method_4_code 19 = .ok (.iload_n 2, 1) := by decide +kernel
theorem d22_20 : decode method_4_code 20 = .ok (.iload 4, 2) := by decide +kernel
theorem d22_22 : decode method_4_code 22 = .ok (.iload 5, 2) := by decide +kernel
theorem d22_24 : decode method_4_code 24 = .ok (.invokestatic 7, 3) := by decide +kernel
theorem d22_27 : decode method_4_code 27 = .ok (.iload_n 3, 1) := by decide +kernel
theorem d22_28 : decode method_4_code 28 = .ok (.if_icmp .ne 7, 3) := by decide +kernel
theorem d22_31 : decode method_4_code 31 = .ok (.iconst 1, 1) := by decide +kernel
theorem d22_32 : decode method_4_code 32 = .ok (.goto 4, 3) := by decide +kernel
set_option maxRecDepth 65536 in
set_option maxHeartbeats 40000000 in
theorem rm22 (l : Launch) (Z : State) (a0 : Array Value) (hw : ∀ d ∈ tables_1, d.before a0 Z = true) (ws : List Jvm.Cond) (x : Int32) (ow : Int32) (rw : Int32) (cl : Int32) (dg : Int32) (bp : Int32) (h0 : Heap) (n0 : Nat) (Z0 : n0 ≤ h0.size) :
    MetFree l (⟨"nearhop/model/RoutingTableGetPinLaw", "fits", "(IIIIII)Z"⟩ : MethodName) (head1 (Jvm.Cond.code (⟨"nearhop/model/RoutingTableGetPinLaw", "fits", "(IIIIII)Z"⟩ : MethodName) method_4_code 6 (some .boolean) :: ws) ({ frames := 2, cells := 0, slots := 0, locals := 31 } : Room)) (fun as_ U_ => as_ = #[(.int x), (.int ow), (.int rw), (.int cl), (.int dg), (.int bp)] ∧ Z.Warmed39 U_.vm ∧ U_.heap = h0) (fun _ _ _ _ _ => True) (fun _ U_ o_ V_ => ∃ v_ L_, o_ = .returned v_ ∧ Qrm22 Z x ow rw cl dg bp h0 n0 v_ V_.heap L_ ∧ FrameEnd U_ o_ V_ L_ ({ frames := 2, cells := 0, slots := 0, locals := 31 } : Room).cells ({ frames := 2, cells := 0, slots := 0, locals := 31 } : Room).slots) := by
  refine MetFree.of_bodySF (plainFor_of_name pn_nearhop_model_RoutingTableGetPinLaw) hisR ?_
  intro p e s m args below meth c s₁ Bd hml0 hP hK
  obtain ⟨rfl, hZ, hh⟩ := hP
  have hx := Bd.exec
  have hby := Bd.bytes
  have hlk : meth.locks = false := BodyLoose.notSynchronized Bd
  have hret := Bd.returns
  have hml : c.maxLocals = 6 := hml0
  have hown : s.vm.findClass "nearhop/model/RoutingTableGetPinLaw" = some m.cls := findClass_of_methodNamed Bd.named
  have hnm := (name_of_methodNamed Bd.named Bd.method).1
  have X0 : Stand p l e ({ frames := 2, cells := 0, slots := 0, locals := 31 } : Room) s m #[(.int x), (.int ow), (.int rw), (.int cl), (.int dg), (.int bp)] below meth c s₁ [] 0 0 := Stand.of_body Bd
  have e0 : s₁.heap = h0 := by rw [← hh, Bd.state]; rfl
  have N0 := Fr.nil n0
  show Goes p e below (Fin_ s (Qrm22 Z x ow rw cl dg bp h0 n0) ({ frames := 2, cells := 0, slots := 0, locals := 31 } : Room).cells ({ frames := 2, cells := 0, slots := 0, locals := 31 } : Room).slots) (s₁.setTop (entryFrame m #[(.int x), (.int ow), (.int rw), (.int cl), (.int dg), (.int bp)] 6))
  rw [ef_rm22 m x ow rw cl dg bp]
  refine gILN X0 hx hby d22_0 rfl ?_
  refine gILN X0 hx hby d22_1 rfl ?_
  by_cases hc2 : x = ow
  · skip
    refine Goes.via (fun _ kk_ => XS.icmpYes X0.here hx rfl (pc0 := 2) (pc' := 35) rfl (hb hby d22_2) rfl (teq hc2).1 (by decide) (by decide) kk_) ?_
    show Goes p e below _ (s₁.setTop (mkF m 35 #[vi x, vi ow, vi rw, vi cl, vi dg, vi bp] []))
    refine gIC (z := 0) X0 hx hby d22_35 rfl ?_
    exact own_finN X0 hx hlk hret (by simp) (hb hby d22_36) (by rw [e0]; exact ⟨(by rw [own_fits, if_pos hc2]; first | done | rfl | exact own_nc _), rfl, rfl⟩) (by first | decide | omega | (dsimp only; omega)) (by first | decide | omega | (dsimp only; omega))
  · skip
    refine Goes.via (fun _ kk_ => XS.icmpNo X0.here hx rfl (hb hby d22_2) rfl (feq hc2).1 kk_) ?_
    show Goes p e below _ (s₁.setTop (mkF m 5 #[vi x, vi ow, vi rw, vi cl, vi dg, vi bp] []))
    refine gILN X0 hx hby d22_5 rfl ?_
    refine gILN X0 hx hby d22_6 rfl ?_
    refine gIL X0 hx hby d22_7 rfl ?_
    refine gIL X0 hx hby d22_9 rfl ?_
    obtain ⟨_, _, ⟨T1, L1, k1, n1⟩, -, X1, ⟨Lc1, hQ1, l1, y1, z1⟩, st1⟩ := Jvm.LawKit.callS X0 hx (y := mN_RoutingTableGetPinLaw_prefix) hown (mvT hZ (own_w hw 138 rfl)) (mvT hZ (own_w hw 139 rfl)) (mvT hZ (own_w hw 136 rfl)) (mvT hZ (own_w hw 140 rfl)) (by decide) (backOf (W := 0) (rm23 l Z a0 hw [] ow x dg bp h0 n0 (Nat.le_trans Z0 (Nat.le_refl _)) ) hZ (own_w hw 140 rfl) (own_w hw 136 rfl) (by decide) (by decide)) (g := (mkF m 11 #[vi x, vi ow, vi rw, vi cl, vi dg, vi bp] [(.int bp), (.int dg), (.int x), (.int ow)])) rfl (by rw [hml]; rfl) (argsL := [(.int ow), (.int x), (.int dg), (.int bp)]) (rest := []) (lenOf pd_5 rfl) rfl (by show 2 * 0 + _ ≤ _; exact Nat.le_of_eq rfl) (hb hby d22_11) (fun _ _ => ⟨rfl, e0, (by decide : 0 + 0 ≤ _), (by decide : 0 + 0 ≤ _)⟩)
    dsimp only [Pt.U, Pt.locs, Pt.cells, Pt.slots] at X1 l1 y1 z1 st1 hQ1
    replace l1 := l1.symm
    subst l1 y1 z1
    obtain ⟨rfl, rfl, e1⟩ := hQ1
    first | rw [List.append_nil] at X1 | skip
    refine Goes.via st1 ?_
    have e1' : T1.heap = h0 := e1
    show Goes p e below _ (T1.setTop (mkF m 14 #[vi x, vi ow, vi rw, vi cl, vi dg, vi bp] [(.int (own_prefix ow x dg bp))]))
    refine gILN X1 hx hby d22_14 rfl ?_
    by_cases hc15 : (own_prefix ow x dg bp) = rw
    · skip
      refine Goes.via (fun _ kk_ => XS.icmpNo X1.here hx rfl (hb hby d22_15) rfl (teq hc15).2 kk_) ?_
      show Goes p e below _ (T1.setTop (mkF m 18 #[vi x, vi ow, vi rw, vi cl, vi dg, vi bp] []))
      refine gILN X1 hx hby d22_18 rfl ?_
      refine gILN X1 hx hby d22_19 rfl ?_
      refine gIL X1 hx hby d22_20 rfl ?_
      refine gIL X1 hx hby d22_22 rfl ?_
      obtain ⟨_, _, ⟨T2, L2, k2, n2⟩, -, X2, ⟨Lc2, hQ2, l2, y2, z2⟩, st2⟩ := Jvm.LawKit.callS X1 hx (y := mN_RoutingTableGetPinLaw_dig) hown (mvT hZ (own_w hw 141 rfl)) (mvT hZ (own_w hw 142 rfl)) (mvT hZ (own_w hw 136 rfl)) (mvT hZ (own_w hw 143 rfl)) (by decide) (backOf (W := 0) (rm24 l Z a0 hw [] x rw dg bp h0 n0 (Nat.le_trans Z0 (Nat.le_refl _)) ) hZ (own_w hw 143 rfl) (own_w hw 136 rfl) (by decide) (by decide)) (g := (mkF m 24 #[vi x, vi ow, vi rw, vi cl, vi dg, vi bp] [(.int bp), (.int dg), (.int rw), (.int x)])) rfl (by rw [hml]; rfl) (argsL := [(.int x), (.int rw), (.int dg), (.int bp)]) (rest := []) (lenOf pd_5 rfl) rfl (by show 2 * 0 + _ ≤ _; exact Nat.le_of_eq rfl) (hb hby d22_24) (fun _ _ => ⟨rfl, e1', (by decide : 0 + 0 ≤ _), (by decide : 0 + 0 ≤ _)⟩)
      dsimp only [Pt.U, Pt.locs, Pt.cells, Pt.slots] at X2 l2 y2 z2 st2 hQ2
      replace l2 := l2.symm
      subst l2 y2 z2
      obtain ⟨rfl, rfl, e2⟩ := hQ2
      first | rw [List.append_nil] at X2 | skip
      refine Goes.via st2 ?_
      have e2' : T2.heap = h0 := e2
      show Goes p e below _ (T2.setTop (mkF m 27 #[vi x, vi ow, vi rw, vi cl, vi dg, vi bp] [(.int (own_dig x rw dg bp))]))
      refine gILN X2 hx hby d22_27 rfl ?_
      by_cases hc28 : (own_dig x rw dg bp) = cl
      · skip
        refine Goes.via (fun _ kk_ => XS.icmpNo X2.here hx rfl (hb hby d22_28) rfl (teq hc28).2 kk_) ?_
        show Goes p e below _ (T2.setTop (mkF m 31 #[vi x, vi ow, vi rw, vi cl, vi dg, vi bp] []))
        refine gIC (z := 1) X2 hx hby d22_31 rfl ?_
        refine Goes.via (fun _ kk_ => XS.goto X2.here hx rfl (pc0 := 32) (pc' := 36) rfl (hb hby d22_32) (by decide) (by decide) kk_) ?_
        show Goes p e below _ (T2.setTop (mkF m 36 #[vi x, vi ow, vi rw, vi cl, vi dg, vi bp] [(.int (1 : Int32))]))
        exact own_finN X2 hx hlk hret (by simp) (hb hby d22_36) (by rw [e2']; exact ⟨(by rw [own_fits, if_neg hc2, if_pos hc15, if_pos hc28]; first | done | rfl | exact own_nc _), rfl, rfl⟩) (by first | decide | omega | (dsimp only; omega)) (by first | decide | omega | (dsimp only; omega))
      · skip
        refine Goes.via (fun _ kk_ => XS.icmpYes X2.here hx rfl (pc0 := 28) (pc' := 35) rfl (hb hby d22_28) rfl (feq hc28).2 (by decide) (by decide) kk_) ?_
        show Goes p e below _ (T2.setTop (mkF m 35 #[vi x, vi ow, vi rw, vi cl, vi dg, vi bp] []))
        refine gIC (z := 0) X2 hx hby d22_35 rfl ?_
        exact own_finN X2 hx hlk hret (by simp) (hb hby d22_36) (by rw [e2']; exact ⟨(by rw [own_fits, if_neg hc2, if_pos hc15, if_neg hc28]; first | done | rfl | exact own_nc _), rfl, rfl⟩) (by first | decide | omega | (dsimp only; omega)) (by first | decide | omega | (dsimp only; omega))
    · skip
      refine Goes.via (fun _ kk_ => XS.icmpYes X1.here hx rfl (pc0 := 15) (pc' := 35) rfl (hb hby d22_15) rfl (feq hc15).2 (by decide) (by decide) kk_) ?_
      show Goes p e below _ (T1.setTop (mkF m 35 #[vi x, vi ow, vi rw, vi cl, vi dg, vi bp] []))
      refine gIC (z := 0) X1 hx hby d22_35 rfl ?_
      exact own_finN X1 hx hlk hret (by simp) (hb hby d22_36) (by rw [e1']; exact ⟨(by rw [own_fits, if_neg hc2, if_neg hc15]; first | done | rfl | exact own_nc _), rfl, rfl⟩) (by first | decide | omega | (dsimp only; omega)) (by first | decide | omega | (dsimp only; omega))
def own_lc (x_ : Int64) (y_ : Int64) : Int32 := (if x_ < y_ then (-1 : Int32) else (if x_ = y_ then (0 : Int32) else (1 : Int32)))
theorem ef_rm28 (m : MethodId) (x_ : Int64) (y_ : Int64) : entryFrame m #[(.long x_), (.long y_)] 4 = mkF m 0 #[.val (.long x_), .second, .val (.long y_), .second] [] := by first | (simp [entryFrame, mkF, argsToLocals, Value.category]; done) | rfl
def Qrm28 (Z : State) (x_ : Int64) (y_ : Int64) (h0 : Heap) (n0 : Nat) (v_ : Option Value) (h_ : Heap) (L_ : List Loc) : Prop := v_ = some (.int (own_lc x_ y_)) ∧ L_ = [] ∧ h_ = h0
theorem d28_0 : decode jdk_35_method_42_code 0 = .ok (.lload_n 0, 1) := by decide +kernel
theorem d28_1 : decode jdk_35_method_42_code 1 = .ok (.lload_n 2, 1) := by decide +kernel
theorem d28_2 : decode jdk_35_method_42_code 2 = .ok (.lcmp, 1) := by decide +kernel
theorem d28_3 : decode jdk_35_method_42_code 3 = .ok (.ifCond .ge 7, 3) := by decide +kernel
theorem d28_6 : decode jdk_35_method_42_code 6 = .ok (.iconst (-1), 1) := by decide +kernel
theorem d28_7 : decode jdk_35_method_42_code 7 = .ok (.goto 14, 3) := by decide +kernel
theorem d28_21 : decode jdk_35_method_42_code 21 = .ok (.ireturn, 1) := by decide +kernel
theorem d28_10 : decode jdk_35_method_42_code 10 = .ok (.lload_n 0, 1) := by decide +kernel
theorem d28_11 : decode jdk_35_method_42_code 11 = .ok (.lload_n 2, 1) := by decide +kernel
theorem d28_12 : decode jdk_35_method_42_code 12 = .ok (.lcmp, 1) := by decide +kernel
theorem d28_13 : decode jdk_35_method_42_code 13 = .ok (.ifCond .ne 7, 3) := by decide +kernel
theorem d28_16 : decode jdk_35_method_42_code 16 = .ok (.iconst 0, 1) := by decide +kernel
theorem d28_17 : decode jdk_35_method_42_code 17 = .ok (.goto 4, 3) := by decide +kernel
theorem d28_20 : decode jdk_35_method_42_code 20 = .ok (.iconst 1, 1) := by decide +kernel
set_option maxRecDepth 65536 in
set_option maxHeartbeats 40000000 in
theorem rm28 (l : Launch) (Z : State) (a0 : Array Value) (hw : ∀ d ∈ tables_1, d.before a0 Z = true) (ws : List Jvm.Cond) (x_ : Int64) (y_ : Int64) (h0 : Heap) (n0 : Nat) (Z0 : n0 ≤ h0.size) :
    MetFree l (⟨"java/lang/Long", "compare", "(JJ)I"⟩ : MethodName) (head1 (Jvm.Cond.code (⟨"java/lang/Long", "compare", "(JJ)I"⟩ : MethodName) jdk_35_method_42_code 4 (some .int) :: ws) ({ frames := 0, cells := 0, slots := 0, locals := 0 } : Room)) (fun as_ U_ => as_ = #[(.long x_), (.long y_)] ∧ Z.Warmed39 U_.vm ∧ U_.heap = h0) (fun _ _ _ _ _ => True) (fun _ U_ o_ V_ => ∃ v_ L_, o_ = .returned v_ ∧ Qrm28 Z x_ y_ h0 n0 v_ V_.heap L_ ∧ FrameEnd U_ o_ V_ L_ ({ frames := 0, cells := 0, slots := 0, locals := 0 } : Room).cells ({ frames := 0, cells := 0, slots := 0, locals := 0 } : Room).slots) := by
  refine MetFree.of_bodySF (plainFor_of_name pn_java_lang_Long) hisR ?_
  intro p e s m args below meth c s₁ Bd hml0 hP hK
  obtain ⟨rfl, hZ, hh⟩ := hP
  have hx := Bd.exec
  have hby := Bd.bytes
  have hlk : meth.locks = false := BodyLoose.notSynchronized Bd
  have hret := Bd.returns
  have hml : c.maxLocals = 4 := hml0
  have hown : s.vm.findClass "java/lang/Long" = some m.cls := findClass_of_methodNamed Bd.named
  have hnm := (name_of_methodNamed Bd.named Bd.method).1
  have X0 : Stand p l e ({ frames := 0, cells := 0, slots := 0, locals := 0 } : Room) s m #[(.long x_), (.long y_)] below meth c s₁ [] 0 0 := Stand.of_body Bd
  have e0 : s₁.heap = h0 := by rw [← hh, Bd.state]; rfl
  have N0 := Fr.nil n0
  show Goes p e below (Fin_ s (Qrm28 Z x_ y_ h0 n0) ({ frames := 0, cells := 0, slots := 0, locals := 0 } : Room).cells ({ frames := 0, cells := 0, slots := 0, locals := 0 } : Room).slots) (s₁.setTop (entryFrame m #[(.long x_), (.long y_)] 4))
  rw [ef_rm28 m x_ y_]
  refine Goes.via (fun _ kk_ => XS.lloadN X0.here hx rfl (hb hby d28_0) rfl  kk_) ?_
  show Goes p e below _ (s₁.setTop (mkF m 1 #[.val (.long x_), .second, .val (.long y_), .second] [(.long x_)]))
  refine Goes.via (fun _ kk_ => XS.lloadN X0.here hx rfl (hb hby d28_1) rfl  kk_) ?_
  show Goes p e below _ (s₁.setTop (mkF m 2 #[.val (.long x_), .second, .val (.long y_), .second] [(.long y_), (.long x_)]))
  refine Goes.via (fun _ kk_ => XS.lcmp X0.here hx rfl (hb hby d28_2) rfl kk_) ?_
  show Goes p e below _ (s₁.setTop (mkF m 3 #[.val (.long x_), .second, .val (.long y_), .second] [(.int (lcmpW x_ y_))]))
  by_cases hc3 : x_ < y_
  · skip
    refine Goes.via (fun _ kk_ => XS.ifNo X0.here hx rfl (hb hby d28_3) rfl ((if0 _ _).trans (tlt ((lw_lt x_ y_).mpr hc3)).2.1) kk_) ?_
    show Goes p e below _ (s₁.setTop (mkF m 6 #[.val (.long x_), .second, .val (.long y_), .second] []))
    refine gIC (z := -1) X0 hx hby d28_6 rfl ?_
    refine Goes.via (fun _ kk_ => XS.goto X0.here hx rfl (pc0 := 7) (pc' := 21) rfl (hb hby d28_7) (by decide) (by decide) kk_) ?_
    show Goes p e below _ (s₁.setTop (mkF m 21 #[.val (.long x_), .second, .val (.long y_), .second] [(.int (-1 : Int32))]))
    exact own_finI X0 hx hlk hret (hb hby d28_21) (by rw [e0]; exact ⟨(by rw [own_lc, if_pos hc3]; first | done | rfl | exact own_nc _), rfl, rfl⟩) (by first | decide | omega | (dsimp only; omega)) (by first | decide | omega | (dsimp only; omega))
  · skip
    refine Goes.via (fun _ kk_ => XS.ifYes X0.here hx rfl (pc0 := 3) (pc' := 10) rfl (hb hby d28_3) rfl ((if0 _ _).trans (flt (fun q => hc3 ((lw_lt x_ y_).mp q))).2.1) (by decide) (by decide) kk_) ?_
    show Goes p e below _ (s₁.setTop (mkF m 10 #[.val (.long x_), .second, .val (.long y_), .second] []))
    refine Goes.via (fun _ kk_ => XS.lloadN X0.here hx rfl (hb hby d28_10) rfl  kk_) ?_
    show Goes p e below _ (s₁.setTop (mkF m 11 #[.val (.long x_), .second, .val (.long y_), .second] [(.long x_)]))
    refine Goes.via (fun _ kk_ => XS.lloadN X0.here hx rfl (hb hby d28_11) rfl  kk_) ?_
    show Goes p e below _ (s₁.setTop (mkF m 12 #[.val (.long x_), .second, .val (.long y_), .second] [(.long y_), (.long x_)]))
    refine Goes.via (fun _ kk_ => XS.lcmp X0.here hx rfl (hb hby d28_12) rfl kk_) ?_
    show Goes p e below _ (s₁.setTop (mkF m 13 #[.val (.long x_), .second, .val (.long y_), .second] [(.int (lcmpW x_ y_))]))
    by_cases hc13 : x_ = y_
    · skip
      refine Goes.via (fun _ kk_ => XS.ifNo X0.here hx rfl (hb hby d28_13) rfl ((if0 _ _).trans (teq ((lw_eq x_ y_).mpr hc13)).2) kk_) ?_
      show Goes p e below _ (s₁.setTop (mkF m 16 #[.val (.long x_), .second, .val (.long y_), .second] []))
      refine gIC (z := 0) X0 hx hby d28_16 rfl ?_
      refine Goes.via (fun _ kk_ => XS.goto X0.here hx rfl (pc0 := 17) (pc' := 21) rfl (hb hby d28_17) (by decide) (by decide) kk_) ?_
      show Goes p e below _ (s₁.setTop (mkF m 21 #[.val (.long x_), .second, .val (.long y_), .second] [(.int (0 : Int32))]))
      exact own_finI X0 hx hlk hret (hb hby d28_21) (by rw [e0]; exact ⟨(by rw [own_lc, if_neg hc3, if_pos hc13]; first | done | rfl | exact own_nc _), rfl, rfl⟩) (by first | decide | omega | (dsimp only; omega)) (by first | decide | omega | (dsimp only; omega))
    · skip
      refine Goes.via (fun _ kk_ => XS.ifYes X0.here hx rfl (pc0 := 13) (pc' := 20) rfl (hb hby d28_13) rfl ((if0 _ _).trans (feq (fun q => hc13 ((lw_eq x_ y_).mp q))).2) (by decide) (by decide) kk_) ?_
      show Goes p e below _ (s₁.setTop (mkF m 20 #[.val (.long x_), .second, .val (.long y_), .second] []))
      refine gIC (z := 1) X0 hx hby d28_20 rfl ?_
      exact own_finI X0 hx hlk hret (hb hby d28_21) (by rw [e0]; exact ⟨(by rw [own_lc, if_neg hc3, if_neg hc13]; first | done | rfl | exact own_nc _), rfl, rfl⟩) (by first | decide | omega | (dsimp only; omega)) (by first | decide | omega | (dsimp only; omega))
def own_lcu (x_ : Int64) (y_ : Int64) : Int32 := (own_lc (x_ + (-9223372036854775808 : Int64)) (y_ + (-9223372036854775808 : Int64)))
theorem ef_rm27 (m : MethodId) (x_ : Int64) (y_ : Int64) : entryFrame m #[(.long x_), (.long y_)] 4 = mkF m 0 #[.val (.long x_), .second, .val (.long y_), .second] [] := by first | (simp [entryFrame, mkF, argsToLocals, Value.category]; done) | rfl
def Qrm27 (Z : State) (x_ : Int64) (y_ : Int64) (h0 : Heap) (n0 : Nat) (v_ : Option Value) (h_ : Heap) (L_ : List Loc) : Prop := v_ = some (.int (own_lcu x_ y_)) ∧ L_ = [] ∧ h_ = h0
theorem d27_0 : decode jdk_35_method_43_code 0 = .ok (.lload_n 0, 1) := by decide +kernel
theorem d27_1 : decode jdk_35_method_43_code 1 = .ok (.ldc2_w 168, 3) := by decide +kernel
theorem d27_4 : decode jdk_35_method_43_code 4 = .ok (.ladd, 1) := by decide +kernel
theorem d27_5 : decode jdk_35_method_43_code 5 = .ok (.lload_n 2, 1) := by decide +kernel
theorem d27_6 : decode jdk_35_method_43_code 6 = .ok (.ldc2_w 168, 3) := by decide +kernel
theorem d27_9 : decode jdk_35_method_43_code 9 = .ok (.ladd, 1) := by decide +kernel
theorem pd_6 : parseMethodDescriptor "(JJ)I" = some ⟨[.long, .long], some .int⟩ := by decide +kernel
theorem d27_10 : decode jdk_35_method_43_code 10 = .ok (.invokestatic 302, 3) := by decide +kernel
abbrev mN_Long_compare : MethodName := ⟨"java/lang/Long", "compare", "(JJ)I"⟩
theorem d27_13 : decode jdk_35_method_43_code 13 = .ok (.ireturn, 1) := by decide +kernel
set_option maxRecDepth 65536 in
set_option maxHeartbeats 40000000 in
theorem rm27 (l : Launch) (Z : State) (a0 : Array Value) (hw : ∀ d ∈ tables_1, d.before a0 Z = true) (ws : List Jvm.Cond) (x_ : Int64) (y_ : Int64) (h0 : Heap) (n0 : Nat) (Z0 : n0 ≤ h0.size) :
    MetFree l (⟨"java/lang/Long", "compareUnsigned", "(JJ)I"⟩ : MethodName) (head1 (Jvm.Cond.code (⟨"java/lang/Long", "compareUnsigned", "(JJ)I"⟩ : MethodName) jdk_35_method_43_code 4 (some .int) :: ws) ({ frames := 1, cells := 0, slots := 0, locals := 15 } : Room)) (fun as_ U_ => as_ = #[(.long x_), (.long y_)] ∧ Z.Warmed39 U_.vm ∧ U_.heap = h0) (fun _ _ _ _ _ => True) (fun _ U_ o_ V_ => ∃ v_ L_, o_ = .returned v_ ∧ Qrm27 Z x_ y_ h0 n0 v_ V_.heap L_ ∧ FrameEnd U_ o_ V_ L_ ({ frames := 1, cells := 0, slots := 0, locals := 15 } : Room).cells ({ frames := 1, cells := 0, slots := 0, locals := 15 } : Room).slots) := by
  refine MetFree.of_bodySF (plainFor_of_name pn_java_lang_Long) hisR ?_
  intro p e s m args below meth c s₁ Bd hml0 hP hK
  obtain ⟨rfl, hZ, hh⟩ := hP
  have hx := Bd.exec
  have hby := Bd.bytes
  have hlk : meth.locks = false := BodyLoose.notSynchronized Bd
  have hret := Bd.returns
  have hml : c.maxLocals = 4 := hml0
  have hown : s.vm.findClass "java/lang/Long" = some m.cls := findClass_of_methodNamed Bd.named
  have hnm := (name_of_methodNamed Bd.named Bd.method).1
  have X0 : Stand p l e ({ frames := 1, cells := 0, slots := 0, locals := 15 } : Room) s m #[(.long x_), (.long y_)] below meth c s₁ [] 0 0 := Stand.of_body Bd
  have e0 : s₁.heap = h0 := by rw [← hh, Bd.state]; rfl
  have N0 := Fr.nil n0
  show Goes p e below (Fin_ s (Qrm27 Z x_ y_ h0 n0) ({ frames := 1, cells := 0, slots := 0, locals := 15 } : Room).cells ({ frames := 1, cells := 0, slots := 0, locals := 15 } : Room).slots) (s₁.setTop (entryFrame m #[(.long x_), (.long y_)] 4))
  rw [ef_rm27 m x_ y_]
  refine Goes.via (fun _ kk_ => XS.lloadN X0.here hx rfl (hb hby d27_0) rfl  kk_) ?_
  show Goes p e below _ (s₁.setTop (mkF m 1 #[.val (.long x_), .second, .val (.long y_), .second] [(.long x_)]))
  refine Goes.via (X0.ldc2Long hx hown (mvT hZ (own_w hw 156 rfl)) (g := (mkF m 1 #[.val (.long x_), .second, .val (.long y_), .second] [(.long x_)])) rfl (hb hby d27_1)) ?_
  show Goes p e below _ (s₁.setTop (mkF m 4 #[.val (.long x_), .second, .val (.long y_), .second] [(.long (-9223372036854775808 : Int64)), (.long x_)]))
  refine Goes.via (fun _ kk_ => XS.ladd X0.here hx rfl (hb hby d27_4) rfl kk_) ?_
  show Goes p e below _ (s₁.setTop (mkF m 5 #[.val (.long x_), .second, .val (.long y_), .second] [(.long (x_ + (-9223372036854775808 : Int64)))]))
  refine Goes.via (fun _ kk_ => XS.lloadN X0.here hx rfl (hb hby d27_5) rfl  kk_) ?_
  show Goes p e below _ (s₁.setTop (mkF m 6 #[.val (.long x_), .second, .val (.long y_), .second] [(.long y_), (.long (x_ + (-9223372036854775808 : Int64)))]))
  refine Goes.via (X0.ldc2Long hx hown (mvT hZ (own_w hw 156 rfl)) (g := (mkF m 6 #[.val (.long x_), .second, .val (.long y_), .second] [(.long y_), (.long (x_ + (-9223372036854775808 : Int64)))])) rfl (hb hby d27_6)) ?_
  show Goes p e below _ (s₁.setTop (mkF m 9 #[.val (.long x_), .second, .val (.long y_), .second] [(.long (-9223372036854775808 : Int64)), (.long y_), (.long (x_ + (-9223372036854775808 : Int64)))]))
  refine Goes.via (fun _ kk_ => XS.ladd X0.here hx rfl (hb hby d27_9) rfl kk_) ?_
  show Goes p e below _ (s₁.setTop (mkF m 10 #[.val (.long x_), .second, .val (.long y_), .second] [(.long (y_ + (-9223372036854775808 : Int64))), (.long (x_ + (-9223372036854775808 : Int64)))]))
  obtain ⟨_, _, ⟨T1, L1, k1, n1⟩, -, X1, ⟨Lc1, hQ1, l1, y1, z1⟩, st1⟩ := Jvm.LawKit.callS X0 hx (y := mN_Long_compare) hown (mvT hZ (own_w hw 157 rfl)) (mvT hZ (own_w hw 158 rfl)) (mvT hZ (own_w hw 101 rfl)) (mvT hZ (own_w hw 159 rfl)) (by decide) (backOf (W := 0) (rm28 l Z a0 hw [] (x_ + (-9223372036854775808 : Int64)) (y_ + (-9223372036854775808 : Int64)) h0 n0 (Nat.le_trans Z0 (Nat.le_refl _)) ) hZ (own_w hw 159 rfl) (own_w hw 101 rfl) (by decide) (by decide)) (g := (mkF m 10 #[.val (.long x_), .second, .val (.long y_), .second] [(.long (y_ + (-9223372036854775808 : Int64))), (.long (x_ + (-9223372036854775808 : Int64)))])) rfl (by rw [hml]; rfl) (argsL := [(.long (x_ + (-9223372036854775808 : Int64))), (.long (y_ + (-9223372036854775808 : Int64)))]) (rest := []) (lenOf pd_6 rfl) rfl (by show 2 * 0 + _ ≤ _; exact Nat.le_of_eq rfl) (hb hby d27_10) (fun _ _ => ⟨rfl, e0, (by decide : 0 + 0 ≤ _), (by decide : 0 + 0 ≤ _)⟩)
  dsimp only [Pt.U, Pt.locs, Pt.cells, Pt.slots] at X1 l1 y1 z1 st1 hQ1
  replace l1 := l1.symm
  subst l1 y1 z1
  obtain ⟨rfl, rfl, e1⟩ := hQ1
  first | rw [List.append_nil] at X1 | skip
  refine Goes.via st1 ?_
  have e1' : T1.heap = h0 := e1
  show Goes p e below _ (T1.setTop (mkF m 13 #[.val (.long x_), .second, .val (.long y_), .second] [(.int (own_lc (x_ + (-9223372036854775808 : Int64)) (y_ + (-9223372036854775808 : Int64))))]))
  exact own_finI X1 hx hlk hret (hb hby d27_13) (by rw [e1']; exact ⟨(by rw [own_lcu]; first | done | rfl | exact own_nc _), rfl, rfl⟩) (by first | decide | omega | (dsimp only; omega)) (by first | decide | omega | (dsimp only; omega))
def own_icu (u1 : Int64) (l1 : Int64) (u2 : Int64) (l2 : Int64) : Int32 := (if (own_lcu u1 u2) = (0 : Int32) then (own_lcu l1 l2) else (own_lcu u1 u2))
theorem ef_rm26 (m : MethodId) (u1 : Int64) (l1 : Int64) (u2 : Int64) (l2 : Int64) : entryFrame m #[(.long u1), (.long l1), (.long u2), (.long l2)] 9 = mkF m 0 #[.val (.long u1), .second, .val (.long l1), .second, .val (.long u2), .second, .val (.long l2), .second, .unset] [] := by first | (simp [entryFrame, mkF, argsToLocals, Value.category]; done) | rfl
def Qrm26 (Z : State) (u1 : Int64) (l1 : Int64) (u2 : Int64) (l2 : Int64) (h0 : Heap) (n0 : Nat) (v_ : Option Value) (h_ : Heap) (L_ : List Loc) : Prop := v_ = some (.int (own_icu u1 l1 u2 l2)) ∧ L_ = [] ∧ h_ = h0
theorem d26_0 : decode prog_76_method_16_code 0 = .ok (.lload_n 0, 1) := by decide +kernel
theorem d26_1 : decode prog_76_method_16_code 1 = .ok (.lload 4, 2) := by decide +kernel
theorem d26_3 : decode prog_76_method_16_code 3 = .ok (.invokestatic 62, 3) := by decide +kernel
abbrev mN_Long_compareUnsigned : MethodName := ⟨"java/lang/Long", "compareUnsigned", "(JJ)I"⟩
theorem d26_6 : decode prog_76_method_16_code 6 = .ok (.istore 8, 2) := by decide +kernel
theorem d26_8 : decode prog_76_method_16_code 8 = .ok (.iload 8, 2) := by decide +kernel
theorem d26_10 : decode prog_76_method_16_code 10 = .ok (.ifCond .eq 8, 3) := by decide +kernel
theorem d26_18 : decode prog_76_method_16_code 18 = .ok (.lload_n 2, 1) := by decide +kernel
theorem d26_19 : decode prog_76_method_16_code 19 = .ok (.lload 6, 2) := by decide +kernel
theorem d26_21 : decode prog_76_method_16_code 21 = .ok (.invokestatic 62, 3) := by decide +kernel
theorem d26_24 : decode prog_76_method_16_code 24 = .ok (.ireturn, 1) := by decide +kernel
theorem d26_13 : decode prog_76_method_16_code 13 = .ok (.iload 8, 2) := by decide +kernel
theorem d26_15 : decode prog_76_method_16_code 15 = .ok (.goto 9, 3) := by decide +kernel
set_option maxRecDepth 65536 in
set_option maxHeartbeats 40000000 in
theorem rm26 (l : Launch) (Z : State) (a0 : Array Value) (hw : ∀ d ∈ tables_1, d.before a0 Z = true) (ws : List Jvm.Cond) (u1 : Int64) (l1 : Int64) (u2 : Int64) (l2 : Int64) (h0 : Heap) (n0 : Nat) (Z0 : n0 ≤ h0.size) :
    MetFree l (⟨"nearhop/model/Id", "compareUnsigned", "(JJJJ)I"⟩ : MethodName) (head1 (Jvm.Cond.code (⟨"nearhop/model/Id", "compareUnsigned", "(JJJJ)I"⟩ : MethodName) prog_76_method_16_code 9 (some .int) :: ws) ({ frames := 2, cells := 0, slots := 0, locals := 30 } : Room)) (fun as_ U_ => as_ = #[(.long u1), (.long l1), (.long u2), (.long l2)] ∧ Z.Warmed39 U_.vm ∧ U_.heap = h0) (fun _ _ _ _ _ => True) (fun _ U_ o_ V_ => ∃ v_ L_, o_ = .returned v_ ∧ Qrm26 Z u1 l1 u2 l2 h0 n0 v_ V_.heap L_ ∧ FrameEnd U_ o_ V_ L_ ({ frames := 2, cells := 0, slots := 0, locals := 30 } : Room).cells ({ frames := 2, cells := 0, slots := 0, locals := 30 } : Room).slots) := by
  refine MetFree.of_bodySF (plainFor_of_name pn_nearhop_model_Id) hisR ?_
  intro p e s m args below meth c s₁ Bd hml0 hP hK
  obtain ⟨rfl, hZ, hh⟩ := hP
  have hx := Bd.exec
  have hby := Bd.bytes
  have hlk : meth.locks = false := BodyLoose.notSynchronized Bd
  have hret := Bd.returns
  have hml : c.maxLocals = 9 := hml0
  have hown : s.vm.findClass "nearhop/model/Id" = some m.cls := findClass_of_methodNamed Bd.named
  have hnm := (name_of_methodNamed Bd.named Bd.method).1
  have X0 : Stand p l e ({ frames := 2, cells := 0, slots := 0, locals := 30 } : Room) s m #[(.long u1), (.long l1), (.long u2), (.long l2)] below meth c s₁ [] 0 0 := Stand.of_body Bd
  have e0 : s₁.heap = h0 := by rw [← hh, Bd.state]; rfl
  have N0 := Fr.nil n0
  show Goes p e below (Fin_ s (Qrm26 Z u1 l1 u2 l2 h0 n0) ({ frames := 2, cells := 0, slots := 0, locals := 30 } : Room).cells ({ frames := 2, cells := 0, slots := 0, locals := 30 } : Room).slots) (s₁.setTop (entryFrame m #[(.long u1), (.long l1), (.long u2), (.long l2)] 9))
  rw [ef_rm26 m u1 l1 u2 l2]
  refine Goes.via (fun _ kk_ => XS.lloadN X0.here hx rfl (hb hby d26_0) rfl  kk_) ?_
  show Goes p e below _ (s₁.setTop (mkF m 1 #[.val (.long u1), .second, .val (.long l1), .second, .val (.long u2), .second, .val (.long l2), .second, .unset] [(.long u1)]))
  refine Goes.via (fun _ kk_ => XS.lload X0.here hx rfl (hb hby d26_1) rfl  kk_) ?_
  show Goes p e below _ (s₁.setTop (mkF m 3 #[.val (.long u1), .second, .val (.long l1), .second, .val (.long u2), .second, .val (.long l2), .second, .unset] [(.long u2), (.long u1)]))
  obtain ⟨_, _, ⟨T1, L1, k1, n1⟩, -, X1, ⟨Lc1, hQ1, l1, y1, z1⟩, st1⟩ := Jvm.LawKit.callS X0 hx (y := mN_Long_compareUnsigned) hown (mvT hZ (own_w hw 153 rfl)) (mvT hZ (own_w hw 154 rfl)) (mvT hZ (own_w hw 101 rfl)) (mvT hZ (own_w hw 155 rfl)) (by decide) (backOf (W := 0) (rm27 l Z a0 hw [] u1 u2 h0 n0 (Nat.le_trans Z0 (Nat.le_refl _)) ) hZ (own_w hw 155 rfl) (own_w hw 101 rfl) (by decide) (by decide)) (g := (mkF m 3 #[.val (.long u1), .second, .val (.long l1), .second, .val (.long u2), .second, .val (.long l2), .second, .unset] [(.long u2), (.long u1)])) rfl (by rw [hml]; rfl) (argsL := [(.long u1), (.long u2)]) (rest := []) (lenOf pd_6 rfl) rfl (by show 2 * 0 + _ ≤ _; exact Nat.le_of_eq rfl) (hb hby d26_3) (fun _ _ => ⟨rfl, e0, (by decide : 0 + 0 ≤ _), (by decide : 0 + 0 ≤ _)⟩)
  dsimp only [Pt.U, Pt.locs, Pt.cells, Pt.slots] at X1 l1 y1 z1 st1 hQ1
  replace l1 := l1.symm
  subst l1 y1 z1
  obtain ⟨rfl, rfl, e1⟩ := hQ1
  first | rw [List.append_nil] at X1 | skip
  refine Goes.via st1 ?_
  have e1' : T1.heap = h0 := e1
  show Goes p e below _ (T1.setTop (mkF m 6 #[.val (.long u1), .second, .val (.long l1), .second, .val (.long u2), .second, .val (.long l2), .second, .unset] [(.int (own_lcu u1 u2))]))
  refine Goes.via (fun _ kk_ => XS.istore X1.here hx rfl (hb hby d26_6) rfl (l' := #[.val (.long u1), .second, .val (.long l1), .second, .val (.long u2), .second, .val (.long l2), .second, vi (own_lcu u1 u2)]) rfl kk_) ?_
  show Goes p e below _ (T1.setTop (mkF m 8 #[.val (.long u1), .second, .val (.long l1), .second, .val (.long u2), .second, .val (.long l2), .second, vi (own_lcu u1 u2)] []))
  refine gIL X1 hx hby d26_8 rfl ?_
  by_cases hc10 : (own_lcu u1 u2) = (0 : Int32)
  · skip
    refine Goes.via (fun _ kk_ => XS.ifYes X1.here hx rfl (pc0 := 10) (pc' := 18) rfl (hb hby d26_10) rfl ((if0 _ _).trans (teq hc10).1) (by decide) (by decide) kk_) ?_
    show Goes p e below _ (T1.setTop (mkF m 18 #[.val (.long u1), .second, .val (.long l1), .second, .val (.long u2), .second, .val (.long l2), .second, vi (own_lcu u1 u2)] []))
    refine Goes.via (fun _ kk_ => XS.lloadN X1.here hx rfl (hb hby d26_18) rfl  kk_) ?_
    show Goes p e below _ (T1.setTop (mkF m 19 #[.val (.long u1), .second, .val (.long l1), .second, .val (.long u2), .second, .val (.long l2), .second, vi (own_lcu u1 u2)] [(.long l1)]))
    refine Goes.via (fun _ kk_ => XS.lload X1.here hx rfl (hb hby d26_19) rfl  kk_) ?_
    show Goes p e below _ (T1.setTop (mkF m 21 #[.val (.long u1), .second, .val (.long l1), .second, .val (.long u2), .second, .val (.long l2), .second, vi (own_lcu u1 u2)] [(.long l2), (.long l1)]))
    obtain ⟨_, _, ⟨T2, L2, k2, n2⟩, -, X2, ⟨Lc2, hQ2, l2, y2, z2⟩, st2⟩ := Jvm.LawKit.callS X1 hx (y := mN_Long_compareUnsigned) hown (mvT hZ (own_w hw 153 rfl)) (mvT hZ (own_w hw 154 rfl)) (mvT hZ (own_w hw 101 rfl)) (mvT hZ (own_w hw 155 rfl)) (by decide) (backOf (W := 0) (rm27 l Z a0 hw [] l1 l2 h0 n0 (Nat.le_trans Z0 (Nat.le_refl _)) ) hZ (own_w hw 155 rfl) (own_w hw 101 rfl) (by decide) (by decide)) (g := (mkF m 21 #[.val (.long u1), .second, .val (.long l1), .second, .val (.long u2), .second, .val (.long l2), .second, vi (own_lcu u1 u2)] [(.long l2), (.long l1)])) rfl (by rw [hml]; rfl) (argsL := [(.long l1), (.long l2)]) (rest := []) (lenOf pd_6 rfl) rfl (by show 2 * 0 + _ ≤ _; exact Nat.le_of_eq rfl) (hb hby d26_21) (fun _ _ => ⟨rfl, e1', (by decide : 0 + 0 ≤ _), (by decide : 0 + 0 ≤ _)⟩)
    dsimp only [Pt.U, Pt.locs, Pt.cells, Pt.slots] at X2 l2 y2 z2 st2 hQ2
    replace l2 := l2.symm
    subst l2 y2 z2
    obtain ⟨rfl, rfl, e2⟩ := hQ2
    first | rw [List.append_nil] at X2 | skip
    refine Goes.via st2 ?_
    have e2' : T2.heap = h0 := e2
    show Goes p e below _ (T2.setTop (mkF m 24 #[.val (.long u1), .second, .val (.long l1), .second, .val (.long u2), .second, .val (.long l2), .second, vi (own_lcu u1 u2)] [(.int (own_lcu l1 l2))]))
    exact own_finI X2 hx hlk hret (hb hby d26_24) (by rw [e2']; exact ⟨(by rw [own_icu, if_pos hc10]; first | done | rfl | exact own_nc _), rfl, rfl⟩) (by first | decide | omega | (dsimp only; omega)) (by first | decide | omega | (dsimp only; omega))
  · skip
    refine Goes.via (fun _ kk_ => XS.ifNo X1.here hx rfl (hb hby d26_10) rfl ((if0 _ _).trans (feq hc10).1) kk_) ?_
    show Goes p e below _ (T1.setTop (mkF m 13 #[.val (.long u1), .second, .val (.long l1), .second, .val (.long u2), .second, .val (.long l2), .second, vi (own_lcu u1 u2)] []))
    refine gIL X1 hx hby d26_13 rfl ?_
    refine Goes.via (fun _ kk_ => XS.goto X1.here hx rfl (pc0 := 15) (pc' := 24) rfl (hb hby d26_15) (by decide) (by decide) kk_) ?_
    show Goes p e below _ (T1.setTop (mkF m 24 #[.val (.long u1), .second, .val (.long l1), .second, .val (.long u2), .second, .val (.long l2), .second, vi (own_lcu u1 u2)] [(.int (own_lcu u1 u2))]))
    exact own_finI X1 hx hlk hret (hb hby d26_24) (by rw [e1']; exact ⟨(by rw [own_icu, if_neg hc10]; first | done | rfl | exact own_nc _), rfl, rfl⟩) (by first | decide | omega | (dsimp only; omega)) (by first | decide | omega | (dsimp only; omega))
theorem ef_rmCt (m : MethodId) (a : Addr) (b : Addr) : entryFrame m #[(.ref a), (.ref b)] 2 = mkF m 0 #[.val (.ref a), .val (.ref b)] [] := by first | (simp [entryFrame, mkF, argsToLocals, Value.category]; done) | rfl
def QrmCt (Z : State) (a : Addr) (b : Addr) (sp : Addr) (w_ : Int64) (y_ : Int64) (h0 : Heap) (n0 : Nat) (v_ : Option Value) (h_ : Heap) (L_ : List Loc) : Prop := v_ = some (.int (own_icu (0 : Int64) w_ (0 : Int64) y_)) ∧ L_ = [] ∧ h_ = h0
theorem d25_0 : decode prog_76_method_17_code 0 = .ok (.aload_n 0, 1) := by decide +kernel
theorem d25_1 : decode prog_76_method_17_code 1 = .ok (.getfield 17, 3) := by decide +kernel
theorem d25_4 : decode prog_76_method_17_code 4 = .ok (.aload_n 0, 1) := by decide +kernel
theorem d25_5 : decode prog_76_method_17_code 5 = .ok (.getfield 24, 3) := by decide +kernel
theorem d25_8 : decode prog_76_method_17_code 8 = .ok (.aload_n 1, 1) := by decide +kernel
theorem d25_9 : decode prog_76_method_17_code 9 = .ok (.getfield 17, 3) := by decide +kernel
theorem d25_12 : decode prog_76_method_17_code 12 = .ok (.aload_n 1, 1) := by decide +kernel
theorem d25_13 : decode prog_76_method_17_code 13 = .ok (.getfield 24, 3) := by decide +kernel
theorem pd_7 : parseMethodDescriptor "(JJJJ)I" = some ⟨[.long, .long, .long, .long], some .int⟩ := by decide +kernel
theorem d25_16 : decode prog_76_method_17_code 16 = .ok (.invokestatic 73, 3) := by decide +kernel
abbrev mN_Id_compareUnsigned : MethodName := ⟨"nearhop/model/Id", "compareUnsigned", "(JJJJ)I"⟩
theorem d25_19 : decode prog_76_method_17_code 19 = .ok (.ireturn, 1) := by decide +kernel
set_option maxRecDepth 65536 in
set_option maxHeartbeats 40000000 in
theorem rmCt (l : Launch) (Z : State) (a0 : Array Value) (hw : ∀ d ∈ tables_1, d.before a0 Z = true) (ws : List Jvm.Cond) (a : Addr) (b : Addr) (sp : Addr) (w_ : Int64) (y_ : Int64) (h0 : Heap) (n0 : Nat) (Z0 : n0 ≤ h0.size) (F0_a_space : Fld Z h0 a "nearhop/model/Id" "space" "Lnearhop/model/IdSpace;" (.ref sp)) (F1_a_high : Fld Z h0 a "nearhop/model/Id" "high" "J" (.long (0 : Int64))) (F2_a_low : Fld Z h0 a "nearhop/model/Id" "low" "J" (.long w_)) (F3_b_space : Fld Z h0 b "nearhop/model/Id" "space" "Lnearhop/model/IdSpace;" (.ref sp)) (F4_b_high : Fld Z h0 b "nearhop/model/Id" "high" "J" (.long (0 : Int64))) (F5_b_low : Fld Z h0 b "nearhop/model/Id" "low" "J" (.long y_)) :
    MetFree l (⟨"nearhop/model/Id", "compareTo", "(Lnearhop/model/Id;)I"⟩ : MethodName) (head1 (Jvm.Cond.code (⟨"nearhop/model/Id", "compareTo", "(Lnearhop/model/Id;)I"⟩ : MethodName) prog_76_method_17_code 2 (some .int) :: ws) ({ frames := 3, cells := 0, slots := 0, locals := 50 } : Room)) (fun as_ U_ => as_ = #[(.ref a), (.ref b)] ∧ Z.Warmed39 U_.vm ∧ U_.heap = h0) (fun _ _ _ _ _ => True) (fun _ U_ o_ V_ => ∃ v_ L_, o_ = .returned v_ ∧ QrmCt Z a b sp w_ y_ h0 n0 v_ V_.heap L_ ∧ FrameEnd U_ o_ V_ L_ ({ frames := 3, cells := 0, slots := 0, locals := 50 } : Room).cells ({ frames := 3, cells := 0, slots := 0, locals := 50 } : Room).slots) := by
  refine MetFree.of_bodySF (plainFor_of_name pn_nearhop_model_Id) hisR ?_
  intro p e s m args below meth c s₁ Bd hml0 hP hK
  obtain ⟨rfl, hZ, hh⟩ := hP
  have hx := Bd.exec
  have hby := Bd.bytes
  have hlk : meth.locks = false := BodyLoose.notSynchronized Bd
  have hret := Bd.returns
  have hml : c.maxLocals = 2 := hml0
  have hown : s.vm.findClass "nearhop/model/Id" = some m.cls := findClass_of_methodNamed Bd.named
  have hnm := (name_of_methodNamed Bd.named Bd.method).1
  have X0 : Stand p l e ({ frames := 3, cells := 0, slots := 0, locals := 50 } : Room) s m #[(.ref a), (.ref b)] below meth c s₁ [] 0 0 := Stand.of_body Bd
  have e0 : s₁.heap = h0 := by rw [← hh, Bd.state]; rfl
  have N0 := Fr.nil n0
  show Goes p e below (Fin_ s (QrmCt Z a b sp w_ y_ h0 n0) ({ frames := 3, cells := 0, slots := 0, locals := 50 } : Room).cells ({ frames := 3, cells := 0, slots := 0, locals := 50 } : Room).slots) (s₁.setTop (entryFrame m #[(.ref a), (.ref b)] 2))
  rw [ef_rmCt m a b]
  refine gALN X0 hx hby d25_0 rfl rfl ?_
  obtain ⟨T1, X1, e1, st1⟩ := getF X0 hx hZ hown (host := "") (Or.inl (own_w hw 45 rfl)) Via.refl e0 F1_a_high (g := (mkF m 1 #[vr a, vr b] [(.ref a)])) rfl rfl (hb hby d25_1)
  refine Goes.via st1 ?_
  show Goes p e below _ (T1.setTop (mkF m 4 #[vr a, vr b] [(.long (0 : Int64))]))
  refine gALN X1 hx hby d25_4 rfl rfl ?_
  obtain ⟨T2, X2, e2, st2⟩ := getF X1 hx hZ hown (host := "") (Or.inl (own_w hw 50 rfl)) Via.refl e1 F2_a_low (g := (mkF m 5 #[vr a, vr b] [(.ref a), (.long (0 : Int64))])) rfl rfl (hb hby d25_5)
  refine Goes.via st2 ?_
  show Goes p e below _ (T2.setTop (mkF m 8 #[vr a, vr b] [(.long w_), (.long (0 : Int64))]))
  refine gALN X2 hx hby d25_8 rfl rfl ?_
  obtain ⟨T3, X3, e3, st3⟩ := getF X2 hx hZ hown (host := "") (Or.inl (own_w hw 45 rfl)) Via.refl e2 F4_b_high (g := (mkF m 9 #[vr a, vr b] [(.ref b), (.long w_), (.long (0 : Int64))])) rfl rfl (hb hby d25_9)
  refine Goes.via st3 ?_
  show Goes p e below _ (T3.setTop (mkF m 12 #[vr a, vr b] [(.long (0 : Int64)), (.long w_), (.long (0 : Int64))]))
  refine gALN X3 hx hby d25_12 rfl rfl ?_
  obtain ⟨T4, X4, e4, st4⟩ := getF X3 hx hZ hown (host := "") (Or.inl (own_w hw 50 rfl)) Via.refl e3 F5_b_low (g := (mkF m 13 #[vr a, vr b] [(.ref b), (.long (0 : Int64)), (.long w_), (.long (0 : Int64))])) rfl rfl (hb hby d25_13)
  refine Goes.via st4 ?_
  show Goes p e below _ (T4.setTop (mkF m 16 #[vr a, vr b] [(.long y_), (.long (0 : Int64)), (.long w_), (.long (0 : Int64))]))
  obtain ⟨_, _, ⟨T5, L5, k5, n5⟩, -, X5, ⟨Lc5, hQ5, l5, y5, z5⟩, st5⟩ := Jvm.LawKit.callS X4 hx (y := mN_Id_compareUnsigned) hown (mvT hZ (own_w hw 150 rfl)) (mvT hZ (own_w hw 151 rfl)) (mvT hZ (own_w hw 25 rfl)) (mvT hZ (own_w hw 152 rfl)) (by decide) (backOf (W := 0) (rm26 l Z a0 hw [] (0 : Int64) w_ (0 : Int64) y_ h0 n0 (Nat.le_trans Z0 (Nat.le_refl _)) ) hZ (own_w hw 152 rfl) (own_w hw 25 rfl) (by decide) (by decide)) (g := (mkF m 16 #[vr a, vr b] [(.long y_), (.long (0 : Int64)), (.long w_), (.long (0 : Int64))])) rfl (by rw [hml]; rfl) (argsL := [(.long (0 : Int64)), (.long w_), (.long (0 : Int64)), (.long y_)]) (rest := []) (lenOf pd_7 rfl) rfl (by show 2 * 0 + _ ≤ _; exact Nat.le_of_eq rfl) (hb hby d25_16) (fun _ _ => ⟨rfl, e4, (by decide : 0 + 0 ≤ _), (by decide : 0 + 0 ≤ _)⟩)
  dsimp only [Pt.U, Pt.locs, Pt.cells, Pt.slots] at X5 l5 y5 z5 st5 hQ5
  replace l5 := l5.symm
  subst l5 y5 z5
  obtain ⟨rfl, rfl, e5⟩ := hQ5
  first | rw [List.append_nil] at X5 | skip
  refine Goes.via st5 ?_
  have e5' : T5.heap = h0 := e5
  show Goes p e below _ (T5.setTop (mkF m 19 #[vr a, vr b] [(.int (own_icu (0 : Int64) w_ (0 : Int64) y_))]))
  exact own_finI X5 hx hlk hret (hb hby d25_19) (by rw [e5']; exact ⟨rfl, rfl, rfl⟩) (by first | decide | omega | (dsimp only; omega)) (by first | decide | omega | (dsimp only; omega))
def own_dgt (y_ : Int64) (ps : Int32) (x_ : Int32) (dg : Int32) (bp : Int32) : Int32 := (if ((dg * bp) - ((ps + (1 : Int32)) * bp)) = (0 : Int32) then ((y_.toInt32) &&& (x_ - (1 : Int32))) else (if ((dg * bp) - ((ps + (1 : Int32)) * bp)) < (64 : Int32) then (((((y_.toUInt64 >>> (((dg * bp) - ((ps + (1 : Int32)) * bp)) &&& 0x3f).toInt64.toUInt64).toInt64) ||| ((0 : Int64) <<< (((64 : Int32) - ((dg * bp) - ((ps + (1 : Int32)) * bp))) &&& 0x3f).toInt64)).toInt32) &&& (x_ - (1 : Int32))) else (((((0 : Int64).toUInt64 >>> ((((dg * bp) - ((ps + (1 : Int32)) * bp)) - (64 : Int32)) &&& 0x3f).toInt64.toUInt64).toInt64).toInt32) &&& (x_ - (1 : Int32)))))
theorem ef_rm19 (m : MethodId) (a : Addr) (ps : Int32) : entryFrame m #[(.ref a), (.int ps)] 5 = mkF m 0 #[.val (.ref a), .val (.int ps), .unset, .unset, .unset] [] := by first | (simp [entryFrame, mkF, argsToLocals, Value.category]; done) | rfl
def Qrm19 (Z : State) (y_ : Int64) (ps : Int32) (x_ : Int32) (dg : Int32) (bp : Int32) (a : Addr) (sp : Addr) (h0 : Heap) (n0 : Nat) (v_ : Option Value) (h_ : Heap) (L_ : List Loc) : Prop := v_ = some (.int (own_dgt y_ ps x_ dg bp)) ∧ L_ = [] ∧ h_ = h0
theorem d19_0 : decode prog_76_method_6_code 0 = .ok (.aload_n 0, 1) := by decide +kernel
theorem d19_1 : decode prog_76_method_6_code 1 = .ok (.getfield 7, 3) := by decide +kernel
theorem d19_4 : decode prog_76_method_6_code 4 = .ok (.invokevirtual 27, 3) := by decide +kernel
theorem d19_7 : decode prog_76_method_6_code 7 = .ok (.iload_n 1, 1) := by decide +kernel
theorem d19_8 : decode prog_76_method_6_code 8 = .ok (.iconst 1, 1) := by decide +kernel
theorem d19_9 : decode prog_76_method_6_code 9 = .ok (.iadd, 1) := by decide +kernel
theorem d19_10 : decode prog_76_method_6_code 10 = .ok (.aload_n 0, 1) := by decide +kernel
theorem d19_11 : decode prog_76_method_6_code 11 = .ok (.getfield 7, 3) := by decide +kernel
theorem d19_14 : decode prog_76_method_6_code 14 = .ok (.invokevirtual 49, 3) := by decide +kernel
theorem d19_17 : decode prog_76_method_6_code 17 = .ok (.imul, 1) := by decide +kernel
theorem d19_18 : decode prog_76_method_6_code 18 = .ok (.isub, 1) := by decide +kernel
theorem d19_19 : decode prog_76_method_6_code 19 = .ok (.istore_n 2, 1) := by decide +kernel
theorem d19_20 : decode prog_76_method_6_code 20 = .ok (.iload_n 2, 1) := by decide +kernel
theorem d19_21 : decode prog_76_method_6_code 21 = .ok (.ifCond .ne 11, 3) := by decide +kernel
theorem d19_24 : decode prog_76_method_6_code 24 = .ok (.aload_n 0, 1) := by decide +kernel
theorem d19_25 : decode prog_76_method_6_code 25 = .ok (.getfield 24, 3) := by decide +kernel
theorem d19_28 : decode prog_76_method_6_code 28 = .ok (.lstore_n 3, 1) := by decide +kernel
theorem d19_29 : decode prog_76_method_6_code 29 = .ok (.goto 39, 3) := by decide +kernel
theorem d19_68 : decode prog_76_method_6_code 68 = .ok (.lload_n 3, 1) := by decide +kernel
theorem d19_69 : decode prog_76_method_6_code 69 = .ok (.l2i, 1) := by decide +kernel
theorem d19_70 : decode prog_76_method_6_code 70 = .ok (.aload_n 0, 1) := by decide +kernel
theorem d19_71 : decode prog_76_method_6_code 71 = .ok (.getfield 7, 3) := by decide +kernel
theorem d19_74 : decode prog_76_method_6_code 74 = .ok (.invokevirtual 52, 3) := by decide +kernel
abbrev mN_IdSpace_base : MethodName := ⟨"nearhop/model/IdSpace", "base", "()I"⟩
theorem d19_77 : decode prog_76_method_6_code 77 = .ok (.iconst 1, 1) := by decide +kernel
theorem d19_78 : decode prog_76_method_6_code 78 = .ok (.isub, 1) := by decide +kernel
theorem d19_79 : decode prog_76_method_6_code 79 = .ok (.iand, 1) := by decide +kernel
theorem d19_80 : decode prog_76_method_6_code 80 = .ok (.ireturn, 1) := by decide +kernel
theorem d19_32 : decode prog_76_method_6_code 32 = .ok (.iload_n 2, 1) := by decide +kernel
theorem d19_33 : decode prog_76_method_6_code 33 = .ok (.bipush 64, 2) := by decide +kernel
theorem d19_35 : decode prog_76_method_6_code 35 = .ok (.if_icmp .ge 23, 3) := by decide +kernel
theorem d19_38 : decode prog_76_method_6_code 38 = .ok (.aload_n 0, 1) := by decide +kernel
theorem d19_39 : decode prog_76_method_6_code 39 = .ok (.getfield 24, 3) := by decide +kernel
theorem d19_42 : decode prog_76_method_6_code 42 = .ok (.iload_n 2, 1) := by decide +kernel
theorem d19_43 : decode prog_76_method_6_code 43 = .ok (.lushr, 1) := by decide +kernel
theorem d19_44 : decode prog_76_method_6_code 44 = .ok (.aload_n 0, 1) := by decide +kernel
theorem d19_45 : decode prog_76_method_6_code 45 = .ok (.getfield 17, 3) := by decide +kernel
theorem d19_48 : decode prog_76_method_6_code 48 = .ok (.bipush 64, 2) := by decide +kernel
theorem d19_50 : decode prog_76_method_6_code 50 = .ok (.iload_n 2, 1) := by decide +kernel
theorem d19_51 : decode prog_76_method_6_code 51 = .ok (.isub, 1) := by decide +kernel
theorem d19_52 : decode prog_76_method_6_code 52 = .ok (.lshl, 1) := by decide +kernel
theorem d19_53 : decode prog_76_method_6_code 53 = .ok (.lor, 1) := by decide +kernel
theorem d19_54 : decode prog_76_method_6_code 54 = .ok (.lstore_n 3, 1) := by decide +kernel
theorem d19_55 : decode prog_76_method_6_code 55 = .ok (.goto 13, 3) := by decide +kernel
theorem d19_58 : decode prog_76_method_6_code 58 = .ok (.aload_n 0, 1) := by decide +kernel
theorem d19_59 : decode prog_76_method_6_code 59 = .ok (.getfield 17, 3) := by decide +kernel
theorem d19_62 : decode prog_76_method_6_code 62 = .ok (.iload_n 2, 1) := by decide +kernel
theorem d19_63 : decode prog_76_method_6_code 63 = .ok (.bipush 64, 2) := by decide +kernel
theorem d19_65 : decode prog_76_method_6_code 65 = .ok (.isub, 1) := by decide +kernel
theorem d19_66 : decode prog_76_method_6_code 66 = .ok (.lushr, 1) := by decide +kernel
theorem d19_67 : decode prog_76_method_6_code 67 = .ok (.lstore_n 3, 1) := by decide +kernel
set_option maxRecDepth 65536 in
set_option maxHeartbeats 40000000 in
theorem rm19 (l : Launch) (Z : State) (a0 : Array Value) (hw : ∀ d ∈ tables_1, d.before a0 Z = true) (ws : List Jvm.Cond) (y_ : Int64) (ps : Int32) (x_ : Int32) (dg : Int32) (bp : Int32) (a : Addr) (sp : Addr) (h0 : Heap) (n0 : Nat) (Z0 : n0 ≤ h0.size) (E0_a : Exa Z h0 a "nearhop/model/Id") (F1_a_space : Fld Z h0 a "nearhop/model/Id" "space" "Lnearhop/model/IdSpace;" (.ref sp)) (F2_a_high : Fld Z h0 a "nearhop/model/Id" "high" "J" (.long (0 : Int64))) (F3_a_low : Fld Z h0 a "nearhop/model/Id" "low" "J" (.long y_)) (E4_sp : Exa Z h0 sp "nearhop/model/IdSpace") (F5_sp_base : Fld Z h0 sp "nearhop/model/IdSpace" "base" "I" (.int x_)) (F6_sp_digits : Fld Z h0 sp "nearhop/model/IdSpace" "digits" "I" (.int dg)) (HB : own_bb x_ bp) :
    MetFree l (⟨"nearhop/model/Id", "digit", "(I)I"⟩ : MethodName) (head1 (Jvm.Cond.code (⟨"nearhop/model/Id", "digit", "(I)I"⟩ : MethodName) prog_76_method_6_code 5 (some .int) :: ws) ({ frames := 3, cells := 0, slots := 0, locals := 38 } : Room)) (fun as_ U_ => as_ = #[(.ref a), (.int ps)] ∧ Z.Warmed39 U_.vm ∧ U_.heap = h0) (fun _ _ _ _ _ => True) (fun _ U_ o_ V_ => ∃ v_ L_, o_ = .returned v_ ∧ Qrm19 Z y_ ps x_ dg bp a sp h0 n0 v_ V_.heap L_ ∧ FrameEnd U_ o_ V_ L_ ({ frames := 3, cells := 0, slots := 0, locals := 38 } : Room).cells ({ frames := 3, cells := 0, slots := 0, locals := 38 } : Room).slots) := by
  refine MetFree.of_bodySF (plainFor_of_name pn_nearhop_model_Id) hisR ?_
  intro p e s m args below meth c s₁ Bd hml0 hP hK
  obtain ⟨rfl, hZ, hh⟩ := hP
  have hx := Bd.exec
  have hby := Bd.bytes
  have hlk : meth.locks = false := BodyLoose.notSynchronized Bd
  have hret := Bd.returns
  have hml : c.maxLocals = 5 := hml0
  have hown : s.vm.findClass "nearhop/model/Id" = some m.cls := findClass_of_methodNamed Bd.named
  have hnm := (name_of_methodNamed Bd.named Bd.method).1
  have X0 : Stand p l e ({ frames := 3, cells := 0, slots := 0, locals := 38 } : Room) s m #[(.ref a), (.int ps)] below meth c s₁ [] 0 0 := Stand.of_body Bd
  have e0 : s₁.heap = h0 := by rw [← hh, Bd.state]; rfl
  have N0 := Fr.nil n0
  show Goes p e below (Fin_ s (Qrm19 Z y_ ps x_ dg bp a sp h0 n0) ({ frames := 3, cells := 0, slots := 0, locals := 38 } : Room).cells ({ frames := 3, cells := 0, slots := 0, locals := 38 } : Room).slots) (s₁.setTop (entryFrame m #[(.ref a), (.int ps)] 5))
  rw [ef_rm19 m a ps]
  refine gALN X0 hx hby d19_0 rfl rfl ?_
  obtain ⟨T2, X2, e2, st2⟩ := getF X0 hx hZ hown (host := "") (Or.inl (own_w hw 30 rfl)) Via.refl e0 F1_a_space (g := (mkF m 1 #[vr a, vi ps, .unset, .unset, .unset] [(.ref a)])) rfl rfl (hb hby d19_1)
  refine Goes.via st2 ?_
  show Goes p e below _ (T2.setTop (mkF m 4 #[vr a, vi ps, .unset, .unset, .unset] [(.ref sp)]))
  obtain ⟨cq3, kq3, q3a, q3b, q3c⟩ := isOf hZ e2 E4_sp
  obtain ⟨_, _, ⟨T3, L3, k3, n3⟩, -, X3, ⟨Lc3, hQ3, l3, y3, z3⟩, st3⟩ := X2.virtualBack hx (y := mN_IdSpace_bits) (z := mN_IdSpace_bits) hown (mvT hZ (own_w hw 35 rfl)) (mvT hZ (own_w hw 36 rfl)) (notFace_of_selects (args := #[]) (mvT hZ (own_w hw 38 rfl))) (mvT hZ (own_w hw 38 rfl)) (mvT hZ (own_w hw 37 rfl)) (by decide) (backOf (W := 0) (rm7 l Z a0 hw [] sp x_ dg bp h0 n0 (Nat.le_trans Z0 (Nat.le_refl _)) E4_sp F5_sp_base F6_sp_digits HB) hZ (own_w hw 39 rfl) (own_w hw 2 rfl) (by decide) (by decide)) q3a q3c (g := (mkF m 4 #[vr a, vi ps, .unset, .unset, .unset] [(.ref sp)])) rfl (by rw [hml]; rfl) (Steps.refl _) (argsL := []) (rest := []) (lenOf pd_2 rfl) rfl (by show 2 * 0 + _ ≤ _; exact Nat.le_of_eq rfl) (hb hby d19_4) (fun _ _ => ⟨rfl, e2, (by decide : 0 + 0 ≤ _), (by decide : 0 + 0 ≤ _)⟩)
  dsimp only [Pt.U, Pt.locs, Pt.cells, Pt.slots] at X3 l3 y3 z3 st3 hQ3
  replace l3 := l3.symm
  subst l3 y3 z3
  obtain ⟨rfl, rfl, e3⟩ := hQ3
  first | rw [List.append_nil] at X3 | skip
  refine Goes.tr st3 ?_
  have e3' : T3.heap = h0 := e3
  show Goes p e below _ (T3.setTop (mkF m 7 #[vr a, vi ps, .unset, .unset, .unset] [(.int (dg * bp))]))
  refine gILN X3 hx hby d19_7 rfl ?_
  refine gIC (z := 1) X3 hx hby d19_8 rfl ?_
  refine Goes.via (fun _ kk_ => XS.iadd X3.here hx rfl (hb hby d19_9) rfl kk_) ?_
  show Goes p e below _ (T3.setTop (mkF m 10 #[vr a, vi ps, .unset, .unset, .unset] [(.int (ps + (1 : Int32))), (.int (dg * bp))]))
  refine gALN X3 hx hby d19_10 rfl rfl ?_
  obtain ⟨T4, X4, e4, st4⟩ := getF X3 hx hZ hown (host := "") (Or.inl (own_w hw 30 rfl)) Via.refl e3' F1_a_space (g := (mkF m 11 #[vr a, vi ps, .unset, .unset, .unset] [(.ref a), (.int (ps + (1 : Int32))), (.int (dg * bp))])) rfl rfl (hb hby d19_11)
  refine Goes.via st4 ?_
  show Goes p e below _ (T4.setTop (mkF m 14 #[vr a, vi ps, .unset, .unset, .unset] [(.ref sp), (.int (ps + (1 : Int32))), (.int (dg * bp))]))
  obtain ⟨cq5, kq5, q5a, q5b, q5c⟩ := isOf hZ e4 E4_sp
  obtain ⟨_, _, ⟨T5, L5, k5, n5⟩, -, X5, ⟨Lc5, hQ5, l5, y5, z5⟩, st5⟩ := X4.virtualBack hx (y := mN_IdSpace_bitsPerDigit) (z := mN_IdSpace_bitsPerDigit) hown (mvT hZ (own_w hw 106 rfl)) (mvT hZ (own_w hw 41 rfl)) (notFace_of_selects (args := #[]) (mvT hZ (own_w hw 43 rfl))) (mvT hZ (own_w hw 43 rfl)) (mvT hZ (own_w hw 42 rfl)) (by decide) (backOf (W := 2) (rm8 l Z a0 hw [] sp x_ bp h0 n0 (Nat.le_trans Z0 (Nat.le_refl _)) F5_sp_base HB) hZ (own_w hw 44 rfl) (own_w hw 2 rfl) (by decide) (by decide)) q5a q5c (g := (mkF m 14 #[vr a, vi ps, .unset, .unset, .unset] [(.ref sp), (.int (ps + (1 : Int32))), (.int (dg * bp))])) rfl (by rw [hml]; rfl) (Steps.refl _) (argsL := []) (rest := [(.int (ps + (1 : Int32))), (.int (dg * bp))]) (lenOf pd_2 rfl) rfl (by show 2 * 0 + _ ≤ _; exact Nat.le_of_eq rfl) (hb hby d19_14) (fun _ _ => ⟨rfl, e4, (by decide : 0 + 0 ≤ _), (by decide : 0 + 0 ≤ _)⟩)
  dsimp only [Pt.U, Pt.locs, Pt.cells, Pt.slots] at X5 l5 y5 z5 st5 hQ5
  replace l5 := l5.symm
  subst l5 y5 z5
  obtain ⟨rfl, rfl, e5⟩ := hQ5
  first | rw [List.append_nil] at X5 | skip
  refine Goes.tr st5 ?_
  have e5' : T5.heap = h0 := e5
  show Goes p e below _ (T5.setTop (mkF m 17 #[vr a, vi ps, .unset, .unset, .unset] [(.int bp), (.int (ps + (1 : Int32))), (.int (dg * bp))]))
  refine Goes.via (fun _ kk_ => XS.imul X5.here hx rfl (hb hby d19_17) rfl kk_) ?_
  show Goes p e below _ (T5.setTop (mkF m 18 #[vr a, vi ps, .unset, .unset, .unset] [(.int ((ps + (1 : Int32)) * bp)), (.int (dg * bp))]))
  refine Goes.via (fun _ kk_ => XS.isub X5.here hx rfl (hb hby d19_18) rfl kk_) ?_
  show Goes p e below _ (T5.setTop (mkF m 19 #[vr a, vi ps, .unset, .unset, .unset] [(.int ((dg * bp) - ((ps + (1 : Int32)) * bp)))]))
  refine Goes.via (fun _ kk_ => XS.istoreN X5.here hx rfl (hb hby d19_19) rfl (l' := #[vr a, vi ps, vi ((dg * bp) - ((ps + (1 : Int32)) * bp)), .unset, .unset]) rfl kk_) ?_
  show Goes p e below _ (T5.setTop (mkF m 20 #[vr a, vi ps, vi ((dg * bp) - ((ps + (1 : Int32)) * bp)), .unset, .unset] []))
  refine gILN X5 hx hby d19_20 rfl ?_
  by_cases hc21 : ((dg * bp) - ((ps + (1 : Int32)) * bp)) = (0 : Int32)
  · skip
    refine Goes.via (fun _ kk_ => XS.ifNo X5.here hx rfl (hb hby d19_21) rfl ((if0 _ _).trans (teq hc21).2) kk_) ?_
    show Goes p e below _ (T5.setTop (mkF m 24 #[vr a, vi ps, vi ((dg * bp) - ((ps + (1 : Int32)) * bp)), .unset, .unset] []))
    refine gALN X5 hx hby d19_24 rfl rfl ?_
    obtain ⟨T6, X6, e6, st6⟩ := getF X5 hx hZ hown (host := "") (Or.inl (own_w hw 50 rfl)) Via.refl e5' F3_a_low (g := (mkF m 25 #[vr a, vi ps, vi ((dg * bp) - ((ps + (1 : Int32)) * bp)), .unset, .unset] [(.ref a)])) rfl rfl (hb hby d19_25)
    refine Goes.via st6 ?_
    show Goes p e below _ (T6.setTop (mkF m 28 #[vr a, vi ps, vi ((dg * bp) - ((ps + (1 : Int32)) * bp)), .unset, .unset] [(.long y_)]))
    refine Goes.via (fun _ kk_ => XS.lstoreN X6.here hx rfl (hb hby d19_28) rfl (l' := #[vr a, vi ps, vi ((dg * bp) - ((ps + (1 : Int32)) * bp)), .val (.long y_), .second]) rfl kk_) ?_
    show Goes p e below _ (T6.setTop (mkF m 29 #[vr a, vi ps, vi ((dg * bp) - ((ps + (1 : Int32)) * bp)), .val (.long y_), .second] []))
    refine Goes.via (fun _ kk_ => XS.goto X6.here hx rfl (pc0 := 29) (pc' := 68) rfl (hb hby d19_29) (by decide) (by decide) kk_) ?_
    show Goes p e below _ (T6.setTop (mkF m 68 #[vr a, vi ps, vi ((dg * bp) - ((ps + (1 : Int32)) * bp)), .val (.long y_), .second] []))
    refine Goes.via (fun _ kk_ => XS.lloadN X6.here hx rfl (hb hby d19_68) rfl  kk_) ?_
    show Goes p e below _ (T6.setTop (mkF m 69 #[vr a, vi ps, vi ((dg * bp) - ((ps + (1 : Int32)) * bp)), .val (.long y_), .second] [(.long y_)]))
    refine Goes.via (fun _ kk_ => XS.l2i X6.here hx rfl (hb hby d19_69) rfl kk_) ?_
    show Goes p e below _ (T6.setTop (mkF m 70 #[vr a, vi ps, vi ((dg * bp) - ((ps + (1 : Int32)) * bp)), .val (.long y_), .second] [(.int (y_.toInt32))]))
    refine gALN X6 hx hby d19_70 rfl rfl ?_
    obtain ⟨T7, X7, e7, st7⟩ := getF X6 hx hZ hown (host := "") (Or.inl (own_w hw 30 rfl)) Via.refl e6 F1_a_space (g := (mkF m 71 #[vr a, vi ps, vi ((dg * bp) - ((ps + (1 : Int32)) * bp)), .val (.long y_), .second] [(.ref a), (.int (y_.toInt32))])) rfl rfl (hb hby d19_71)
    refine Goes.via st7 ?_
    show Goes p e below _ (T7.setTop (mkF m 74 #[vr a, vi ps, vi ((dg * bp) - ((ps + (1 : Int32)) * bp)), .val (.long y_), .second] [(.ref sp), (.int (y_.toInt32))]))
    obtain ⟨cq8, kq8, q8a, q8b, q8c⟩ := isOf hZ e7 E4_sp
    obtain ⟨_, _, ⟨T8, L8, k8, n8⟩, -, X8, ⟨Lc8, hQ8, l8, y8, z8⟩, st8⟩ := X7.virtualBack hx (y := mN_IdSpace_base) (z := mN_IdSpace_base) hown (mvT hZ (own_w hw 122 rfl)) (mvT hZ (own_w hw 108 rfl)) (notFace_of_selects (args := #[]) (mvT hZ (own_w hw 110 rfl))) (mvT hZ (own_w hw 110 rfl)) (mvT hZ (own_w hw 109 rfl)) (by decide) (backOf (W := 1) (rm18 l Z a0 hw [] sp x_ h0 n0 (Nat.le_trans Z0 (Nat.le_refl _)) F5_sp_base) hZ (own_w hw 111 rfl) (own_w hw 2 rfl) (by decide) (by decide)) q8a q8c (g := (mkF m 74 #[vr a, vi ps, vi ((dg * bp) - ((ps + (1 : Int32)) * bp)), .val (.long y_), .second] [(.ref sp), (.int (y_.toInt32))])) rfl (by rw [hml]; rfl) (Steps.refl _) (argsL := []) (rest := [(.int (y_.toInt32))]) (lenOf pd_2 rfl) rfl (by show 2 * 0 + _ ≤ _; exact Nat.le_of_eq rfl) (hb hby d19_74) (fun _ _ => ⟨rfl, e7, (by decide : 0 + 0 ≤ _), (by decide : 0 + 0 ≤ _)⟩)
    dsimp only [Pt.U, Pt.locs, Pt.cells, Pt.slots] at X8 l8 y8 z8 st8 hQ8
    replace l8 := l8.symm
    subst l8 y8 z8
    obtain ⟨rfl, rfl, e8⟩ := hQ8
    first | rw [List.append_nil] at X8 | skip
    refine Goes.tr st8 ?_
    have e8' : T8.heap = h0 := e8
    show Goes p e below _ (T8.setTop (mkF m 77 #[vr a, vi ps, vi ((dg * bp) - ((ps + (1 : Int32)) * bp)), .val (.long y_), .second] [(.int x_), (.int (y_.toInt32))]))
    refine gIC (z := 1) X8 hx hby d19_77 rfl ?_
    refine Goes.via (fun _ kk_ => XS.isub X8.here hx rfl (hb hby d19_78) rfl kk_) ?_
    show Goes p e below _ (T8.setTop (mkF m 79 #[vr a, vi ps, vi ((dg * bp) - ((ps + (1 : Int32)) * bp)), .val (.long y_), .second] [(.int (x_ - (1 : Int32))), (.int (y_.toInt32))]))
    refine Goes.via (fun _ kk_ => XS.iand X8.here hx rfl (hb hby d19_79) rfl kk_) ?_
    show Goes p e below _ (T8.setTop (mkF m 80 #[vr a, vi ps, vi ((dg * bp) - ((ps + (1 : Int32)) * bp)), .val (.long y_), .second] [(.int ((y_.toInt32) &&& (x_ - (1 : Int32))))]))
    exact own_finI X8 hx hlk hret (hb hby d19_80) (by rw [e8']; exact ⟨(by rw [own_dgt, if_pos hc21]; first | done | rfl | exact own_nc _), rfl, rfl⟩) (by first | decide | omega | (dsimp only; omega)) (by first | decide | omega | (dsimp only; omega))
  · skip
    refine Goes.via (fun _ kk_ => XS.ifYes X5.here hx rfl (pc0 := 21) (pc' := 32) rfl (hb hby d19_21) rfl ((if0 _ _).trans (feq hc21).2) (by decide) (by decide) kk_) ?_
    show Goes p e below _ (T5.setTop (mkF m 32 #[vr a, vi ps, vi ((dg * bp) - ((ps + (1 : Int32)) * bp)), .unset, .unset] []))
    refine gILN X5 hx hby d19_32 rfl ?_
    refine gBI (z := 64) X5 hx hby d19_33 rfl ?_
    by_cases hc35 : ((dg * bp) - ((ps + (1 : Int32)) * bp)) < (64 : Int32)
    · skip
      refine Goes.via (fun _ kk_ => XS.icmpNo X5.here hx rfl (hb hby d19_35) rfl (tlt hc35).2.1 kk_) ?_
      show Goes p e below _ (T5.setTop (mkF m 38 #[vr a, vi ps, vi ((dg * bp) - ((ps + (1 : Int32)) * bp)), .unset, .unset] []))
      refine gALN X5 hx hby d19_38 rfl rfl ?_
      obtain ⟨T9, X9, e9, st9⟩ := getF X5 hx hZ hown (host := "") (Or.inl (own_w hw 50 rfl)) Via.refl e5' F3_a_low (g := (mkF m 39 #[vr a, vi ps, vi ((dg * bp) - ((ps + (1 : Int32)) * bp)), .unset, .unset] [(.ref a)])) rfl rfl (hb hby d19_39)
      refine Goes.via st9 ?_
      show Goes p e below _ (T9.setTop (mkF m 42 #[vr a, vi ps, vi ((dg * bp) - ((ps + (1 : Int32)) * bp)), .unset, .unset] [(.long y_)]))
      refine gILN X9 hx hby d19_42 rfl ?_
      refine Goes.via (fun _ kk_ => XS.lushr X9.here hx rfl (hb hby d19_43) rfl kk_) ?_
      show Goes p e below _ (T9.setTop (mkF m 44 #[vr a, vi ps, vi ((dg * bp) - ((ps + (1 : Int32)) * bp)), .unset, .unset] [(.long ((y_.toUInt64 >>> (((dg * bp) - ((ps + (1 : Int32)) * bp)) &&& 0x3f).toInt64.toUInt64).toInt64))]))
      refine gALN X9 hx hby d19_44 rfl rfl ?_
      obtain ⟨T10, X10, e10, st10⟩ := getF X9 hx hZ hown (host := "") (Or.inl (own_w hw 45 rfl)) Via.refl e9 F2_a_high (g := (mkF m 45 #[vr a, vi ps, vi ((dg * bp) - ((ps + (1 : Int32)) * bp)), .unset, .unset] [(.ref a), (.long ((y_.toUInt64 >>> (((dg * bp) - ((ps + (1 : Int32)) * bp)) &&& 0x3f).toInt64.toUInt64).toInt64))])) rfl rfl (hb hby d19_45)
      refine Goes.via st10 ?_
      show Goes p e below _ (T10.setTop (mkF m 48 #[vr a, vi ps, vi ((dg * bp) - ((ps + (1 : Int32)) * bp)), .unset, .unset] [(.long (0 : Int64)), (.long ((y_.toUInt64 >>> (((dg * bp) - ((ps + (1 : Int32)) * bp)) &&& 0x3f).toInt64.toUInt64).toInt64))]))
      refine gBI (z := 64) X10 hx hby d19_48 rfl ?_
      refine gILN X10 hx hby d19_50 rfl ?_
      refine Goes.via (fun _ kk_ => XS.isub X10.here hx rfl (hb hby d19_51) rfl kk_) ?_
      show Goes p e below _ (T10.setTop (mkF m 52 #[vr a, vi ps, vi ((dg * bp) - ((ps + (1 : Int32)) * bp)), .unset, .unset] [(.int ((64 : Int32) - ((dg * bp) - ((ps + (1 : Int32)) * bp)))), (.long (0 : Int64)), (.long ((y_.toUInt64 >>> (((dg * bp) - ((ps + (1 : Int32)) * bp)) &&& 0x3f).toInt64.toUInt64).toInt64))]))
      refine Goes.via (fun _ kk_ => XS.lshl X10.here hx rfl (hb hby d19_52) rfl kk_) ?_
      show Goes p e below _ (T10.setTop (mkF m 53 #[vr a, vi ps, vi ((dg * bp) - ((ps + (1 : Int32)) * bp)), .unset, .unset] [(.long ((0 : Int64) <<< (((64 : Int32) - ((dg * bp) - ((ps + (1 : Int32)) * bp))) &&& 0x3f).toInt64)), (.long ((y_.toUInt64 >>> (((dg * bp) - ((ps + (1 : Int32)) * bp)) &&& 0x3f).toInt64.toUInt64).toInt64))]))
      refine Goes.via (fun _ kk_ => XS.lor X10.here hx rfl (hb hby d19_53) rfl kk_) ?_
      show Goes p e below _ (T10.setTop (mkF m 54 #[vr a, vi ps, vi ((dg * bp) - ((ps + (1 : Int32)) * bp)), .unset, .unset] [(.long (((y_.toUInt64 >>> (((dg * bp) - ((ps + (1 : Int32)) * bp)) &&& 0x3f).toInt64.toUInt64).toInt64) ||| ((0 : Int64) <<< (((64 : Int32) - ((dg * bp) - ((ps + (1 : Int32)) * bp))) &&& 0x3f).toInt64)))]))
      refine Goes.via (fun _ kk_ => XS.lstoreN X10.here hx rfl (hb hby d19_54) rfl (l' := #[vr a, vi ps, vi ((dg * bp) - ((ps + (1 : Int32)) * bp)), .val (.long (((y_.toUInt64 >>> (((dg * bp) - ((ps + (1 : Int32)) * bp)) &&& 0x3f).toInt64.toUInt64).toInt64) ||| ((0 : Int64) <<< (((64 : Int32) - ((dg * bp) - ((ps + (1 : Int32)) * bp))) &&& 0x3f).toInt64))), .second]) rfl kk_) ?_
      show Goes p e below _ (T10.setTop (mkF m 55 #[vr a, vi ps, vi ((dg * bp) - ((ps + (1 : Int32)) * bp)), .val (.long (((y_.toUInt64 >>> (((dg * bp) - ((ps + (1 : Int32)) * bp)) &&& 0x3f).toInt64.toUInt64).toInt64) ||| ((0 : Int64) <<< (((64 : Int32) - ((dg * bp) - ((ps + (1 : Int32)) * bp))) &&& 0x3f).toInt64))), .second] []))
      refine Goes.via (fun _ kk_ => XS.goto X10.here hx rfl (pc0 := 55) (pc' := 68) rfl (hb hby d19_55) (by decide) (by decide) kk_) ?_
      show Goes p e below _ (T10.setTop (mkF m 68 #[vr a, vi ps, vi ((dg * bp) - ((ps + (1 : Int32)) * bp)), .val (.long (((y_.toUInt64 >>> (((dg * bp) - ((ps + (1 : Int32)) * bp)) &&& 0x3f).toInt64.toUInt64).toInt64) ||| ((0 : Int64) <<< (((64 : Int32) - ((dg * bp) - ((ps + (1 : Int32)) * bp))) &&& 0x3f).toInt64))), .second] []))
      refine Goes.via (fun _ kk_ => XS.lloadN X10.here hx rfl (hb hby d19_68) rfl  kk_) ?_
      show Goes p e below _ (T10.setTop (mkF m 69 #[vr a, vi ps, vi ((dg * bp) - ((ps + (1 : Int32)) * bp)), .val (.long (((y_.toUInt64 >>> (((dg * bp) - ((ps + (1 : Int32)) * bp)) &&& 0x3f).toInt64.toUInt64).toInt64) ||| ((0 : Int64) <<< (((64 : Int32) - ((dg * bp) - ((ps + (1 : Int32)) * bp))) &&& 0x3f).toInt64))), .second] [(.long (((y_.toUInt64 >>> (((dg * bp) - ((ps + (1 : Int32)) * bp)) &&& 0x3f).toInt64.toUInt64).toInt64) ||| ((0 : Int64) <<< (((64 : Int32) - ((dg * bp) - ((ps + (1 : Int32)) * bp))) &&& 0x3f).toInt64)))]))
      refine Goes.via (fun _ kk_ => XS.l2i X10.here hx rfl (hb hby d19_69) rfl kk_) ?_
      show Goes p e below _ (T10.setTop (mkF m 70 #[vr a, vi ps, vi ((dg * bp) - ((ps + (1 : Int32)) * bp)), .val (.long (((y_.toUInt64 >>> (((dg * bp) - ((ps + (1 : Int32)) * bp)) &&& 0x3f).toInt64.toUInt64).toInt64) ||| ((0 : Int64) <<< (((64 : Int32) - ((dg * bp) - ((ps + (1 : Int32)) * bp))) &&& 0x3f).toInt64))), .second] [(.int ((((y_.toUInt64 >>> (((dg * bp) - ((ps + (1 : Int32)) * bp)) &&& 0x3f).toInt64.toUInt64).toInt64) ||| ((0 : Int64) <<< (((64 : Int32) - ((dg * bp) - ((ps + (1 : Int32)) * bp))) &&& 0x3f).toInt64)).toInt32))]))
      refine gALN X10 hx hby d19_70 rfl rfl ?_
      obtain ⟨T11, X11, e11, st11⟩ := getF X10 hx hZ hown (host := "") (Or.inl (own_w hw 30 rfl)) Via.refl e10 F1_a_space (g := (mkF m 71 #[vr a, vi ps, vi ((dg * bp) - ((ps + (1 : Int32)) * bp)), .val (.long (((y_.toUInt64 >>> (((dg * bp) - ((ps + (1 : Int32)) * bp)) &&& 0x3f).toInt64.toUInt64).toInt64) ||| ((0 : Int64) <<< (((64 : Int32) - ((dg * bp) - ((ps + (1 : Int32)) * bp))) &&& 0x3f).toInt64))), .second] [(.ref a), (.int ((((y_.toUInt64 >>> (((dg * bp) - ((ps + (1 : Int32)) * bp)) &&& 0x3f).toInt64.toUInt64).toInt64) ||| ((0 : Int64) <<< (((64 : Int32) - ((dg * bp) - ((ps + (1 : Int32)) * bp))) &&& 0x3f).toInt64)).toInt32))])) rfl rfl (hb hby d19_71)
      refine Goes.via st11 ?_
      show Goes p e below _ (T11.setTop (mkF m 74 #[vr a, vi ps, vi ((dg * bp) - ((ps + (1 : Int32)) * bp)), .val (.long (((y_.toUInt64 >>> (((dg * bp) - ((ps + (1 : Int32)) * bp)) &&& 0x3f).toInt64.toUInt64).toInt64) ||| ((0 : Int64) <<< (((64 : Int32) - ((dg * bp) - ((ps + (1 : Int32)) * bp))) &&& 0x3f).toInt64))), .second] [(.ref sp), (.int ((((y_.toUInt64 >>> (((dg * bp) - ((ps + (1 : Int32)) * bp)) &&& 0x3f).toInt64.toUInt64).toInt64) ||| ((0 : Int64) <<< (((64 : Int32) - ((dg * bp) - ((ps + (1 : Int32)) * bp))) &&& 0x3f).toInt64)).toInt32))]))
      obtain ⟨cq12, kq12, q12a, q12b, q12c⟩ := isOf hZ e11 E4_sp
      obtain ⟨_, _, ⟨T12, L12, k12, n12⟩, -, X12, ⟨Lc12, hQ12, l12, y12, z12⟩, st12⟩ := X11.virtualBack hx (y := mN_IdSpace_base) (z := mN_IdSpace_base) hown (mvT hZ (own_w hw 122 rfl)) (mvT hZ (own_w hw 108 rfl)) (notFace_of_selects (args := #[]) (mvT hZ (own_w hw 110 rfl))) (mvT hZ (own_w hw 110 rfl)) (mvT hZ (own_w hw 109 rfl)) (by decide) (backOf (W := 1) (rm18 l Z a0 hw [] sp x_ h0 n0 (Nat.le_trans Z0 (Nat.le_refl _)) F5_sp_base) hZ (own_w hw 111 rfl) (own_w hw 2 rfl) (by decide) (by decide)) q12a q12c (g := (mkF m 74 #[vr a, vi ps, vi ((dg * bp) - ((ps + (1 : Int32)) * bp)), .val (.long (((y_.toUInt64 >>> (((dg * bp) - ((ps + (1 : Int32)) * bp)) &&& 0x3f).toInt64.toUInt64).toInt64) ||| ((0 : Int64) <<< (((64 : Int32) - ((dg * bp) - ((ps + (1 : Int32)) * bp))) &&& 0x3f).toInt64))), .second] [(.ref sp), (.int ((((y_.toUInt64 >>> (((dg * bp) - ((ps + (1 : Int32)) * bp)) &&& 0x3f).toInt64.toUInt64).toInt64) ||| ((0 : Int64) <<< (((64 : Int32) - ((dg * bp) - ((ps + (1 : Int32)) * bp))) &&& 0x3f).toInt64)).toInt32))])) rfl (by rw [hml]; rfl) (Steps.refl _) (argsL := []) (rest := [(.int ((((y_.toUInt64 >>> (((dg * bp) - ((ps + (1 : Int32)) * bp)) &&& 0x3f).toInt64.toUInt64).toInt64) ||| ((0 : Int64) <<< (((64 : Int32) - ((dg * bp) - ((ps + (1 : Int32)) * bp))) &&& 0x3f).toInt64)).toInt32))]) (lenOf pd_2 rfl) rfl (by show 2 * 0 + _ ≤ _; exact Nat.le_of_eq rfl) (hb hby d19_74) (fun _ _ => ⟨rfl, e11, (by decide : 0 + 0 ≤ _), (by decide : 0 + 0 ≤ _)⟩)
      dsimp only [Pt.U, Pt.locs, Pt.cells, Pt.slots] at X12 l12 y12 z12 st12 hQ12
      replace l12 := l12.symm
      subst l12 y12 z12
      obtain ⟨rfl, rfl, e12⟩ := hQ12
      first | rw [List.append_nil] at X12 | skip
      refine Goes.tr st12 ?_
      have e12' : T12.heap = h0 := e12
      show Goes p e below _ (T12.setTop (mkF m 77 #[vr a, vi ps, vi ((dg * bp) - ((ps + (1 : Int32)) * bp)), .val (.long (((y_.toUInt64 >>> (((dg * bp) - ((ps + (1 : Int32)) * bp)) &&& 0x3f).toInt64.toUInt64).toInt64) ||| ((0 : Int64) <<< (((64 : Int32) - ((dg * bp) - ((ps + (1 : Int32)) * bp))) &&& 0x3f).toInt64))), .second] [(.int x_), (.int ((((y_.toUInt64 >>> (((dg * bp) - ((ps + (1 : Int32)) * bp)) &&& 0x3f).toInt64.toUInt64).toInt64) ||| ((0 : Int64) <<< (((64 : Int32) - ((dg * bp) - ((ps + (1 : Int32)) * bp))) &&& 0x3f).toInt64)).toInt32))]))
      refine gIC (z := 1) X12 hx hby d19_77 rfl ?_
      refine Goes.via (fun _ kk_ => XS.isub X12.here hx rfl (hb hby d19_78) rfl kk_) ?_
      show Goes p e below _ (T12.setTop (mkF m 79 #[vr a, vi ps, vi ((dg * bp) - ((ps + (1 : Int32)) * bp)), .val (.long (((y_.toUInt64 >>> (((dg * bp) - ((ps + (1 : Int32)) * bp)) &&& 0x3f).toInt64.toUInt64).toInt64) ||| ((0 : Int64) <<< (((64 : Int32) - ((dg * bp) - ((ps + (1 : Int32)) * bp))) &&& 0x3f).toInt64))), .second] [(.int (x_ - (1 : Int32))), (.int ((((y_.toUInt64 >>> (((dg * bp) - ((ps + (1 : Int32)) * bp)) &&& 0x3f).toInt64.toUInt64).toInt64) ||| ((0 : Int64) <<< (((64 : Int32) - ((dg * bp) - ((ps + (1 : Int32)) * bp))) &&& 0x3f).toInt64)).toInt32))]))
      refine Goes.via (fun _ kk_ => XS.iand X12.here hx rfl (hb hby d19_79) rfl kk_) ?_
      show Goes p e below _ (T12.setTop (mkF m 80 #[vr a, vi ps, vi ((dg * bp) - ((ps + (1 : Int32)) * bp)), .val (.long (((y_.toUInt64 >>> (((dg * bp) - ((ps + (1 : Int32)) * bp)) &&& 0x3f).toInt64.toUInt64).toInt64) ||| ((0 : Int64) <<< (((64 : Int32) - ((dg * bp) - ((ps + (1 : Int32)) * bp))) &&& 0x3f).toInt64))), .second] [(.int (((((y_.toUInt64 >>> (((dg * bp) - ((ps + (1 : Int32)) * bp)) &&& 0x3f).toInt64.toUInt64).toInt64) ||| ((0 : Int64) <<< (((64 : Int32) - ((dg * bp) - ((ps + (1 : Int32)) * bp))) &&& 0x3f).toInt64)).toInt32) &&& (x_ - (1 : Int32))))]))
      exact own_finI X12 hx hlk hret (hb hby d19_80) (by rw [e12']; exact ⟨(by rw [own_dgt, if_neg hc21, if_pos hc35]; first | done | rfl | exact own_nc _), rfl, rfl⟩) (by first | decide | omega | (dsimp only; omega)) (by first | decide | omega | (dsimp only; omega))
    · skip
      refine Goes.via (fun _ kk_ => XS.icmpYes X5.here hx rfl (pc0 := 35) (pc' := 58) rfl (hb hby d19_35) rfl (flt hc35).2.1 (by decide) (by decide) kk_) ?_
      show Goes p e below _ (T5.setTop (mkF m 58 #[vr a, vi ps, vi ((dg * bp) - ((ps + (1 : Int32)) * bp)), .unset, .unset] []))
      refine gALN X5 hx hby d19_58 rfl rfl ?_
      obtain ⟨T13, X13, e13, st13⟩ := getF X5 hx hZ hown (host := "") (Or.inl (own_w hw 45 rfl)) Via.refl e5' F2_a_high (g := (mkF m 59 #[vr a, vi ps, vi ((dg * bp) - ((ps + (1 : Int32)) * bp)), .unset, .unset] [(.ref a)])) rfl rfl (hb hby d19_59)
      refine Goes.via st13 ?_
      show Goes p e below _ (T13.setTop (mkF m 62 #[vr a, vi ps, vi ((dg * bp) - ((ps + (1 : Int32)) * bp)), .unset, .unset] [(.long (0 : Int64))]))
      refine gILN X13 hx hby d19_62 rfl ?_
      refine gBI (z := 64) X13 hx hby d19_63 rfl ?_
      refine Goes.via (fun _ kk_ => XS.isub X13.here hx rfl (hb hby d19_65) rfl kk_) ?_
      show Goes p e below _ (T13.setTop (mkF m 66 #[vr a, vi ps, vi ((dg * bp) - ((ps + (1 : Int32)) * bp)), .unset, .unset] [(.int (((dg * bp) - ((ps + (1 : Int32)) * bp)) - (64 : Int32))), (.long (0 : Int64))]))
      refine Goes.via (fun _ kk_ => XS.lushr X13.here hx rfl (hb hby d19_66) rfl kk_) ?_
      show Goes p e below _ (T13.setTop (mkF m 67 #[vr a, vi ps, vi ((dg * bp) - ((ps + (1 : Int32)) * bp)), .unset, .unset] [(.long (((0 : Int64).toUInt64 >>> ((((dg * bp) - ((ps + (1 : Int32)) * bp)) - (64 : Int32)) &&& 0x3f).toInt64.toUInt64).toInt64))]))
      refine Goes.via (fun _ kk_ => XS.lstoreN X13.here hx rfl (hb hby d19_67) rfl (l' := #[vr a, vi ps, vi ((dg * bp) - ((ps + (1 : Int32)) * bp)), .val (.long (((0 : Int64).toUInt64 >>> ((((dg * bp) - ((ps + (1 : Int32)) * bp)) - (64 : Int32)) &&& 0x3f).toInt64.toUInt64).toInt64)), .second]) rfl kk_) ?_
      show Goes p e below _ (T13.setTop (mkF m 68 #[vr a, vi ps, vi ((dg * bp) - ((ps + (1 : Int32)) * bp)), .val (.long (((0 : Int64).toUInt64 >>> ((((dg * bp) - ((ps + (1 : Int32)) * bp)) - (64 : Int32)) &&& 0x3f).toInt64.toUInt64).toInt64)), .second] []))
      refine Goes.via (fun _ kk_ => XS.lloadN X13.here hx rfl (hb hby d19_68) rfl  kk_) ?_
      show Goes p e below _ (T13.setTop (mkF m 69 #[vr a, vi ps, vi ((dg * bp) - ((ps + (1 : Int32)) * bp)), .val (.long (((0 : Int64).toUInt64 >>> ((((dg * bp) - ((ps + (1 : Int32)) * bp)) - (64 : Int32)) &&& 0x3f).toInt64.toUInt64).toInt64)), .second] [(.long (((0 : Int64).toUInt64 >>> ((((dg * bp) - ((ps + (1 : Int32)) * bp)) - (64 : Int32)) &&& 0x3f).toInt64.toUInt64).toInt64))]))
      refine Goes.via (fun _ kk_ => XS.l2i X13.here hx rfl (hb hby d19_69) rfl kk_) ?_
      show Goes p e below _ (T13.setTop (mkF m 70 #[vr a, vi ps, vi ((dg * bp) - ((ps + (1 : Int32)) * bp)), .val (.long (((0 : Int64).toUInt64 >>> ((((dg * bp) - ((ps + (1 : Int32)) * bp)) - (64 : Int32)) &&& 0x3f).toInt64.toUInt64).toInt64)), .second] [(.int ((((0 : Int64).toUInt64 >>> ((((dg * bp) - ((ps + (1 : Int32)) * bp)) - (64 : Int32)) &&& 0x3f).toInt64.toUInt64).toInt64).toInt32))]))
      refine gALN X13 hx hby d19_70 rfl rfl ?_
      obtain ⟨T14, X14, e14, st14⟩ := getF X13 hx hZ hown (host := "") (Or.inl (own_w hw 30 rfl)) Via.refl e13 F1_a_space (g := (mkF m 71 #[vr a, vi ps, vi ((dg * bp) - ((ps + (1 : Int32)) * bp)), .val (.long (((0 : Int64).toUInt64 >>> ((((dg * bp) - ((ps + (1 : Int32)) * bp)) - (64 : Int32)) &&& 0x3f).toInt64.toUInt64).toInt64)), .second] [(.ref a), (.int ((((0 : Int64).toUInt64 >>> ((((dg * bp) - ((ps + (1 : Int32)) * bp)) - (64 : Int32)) &&& 0x3f).toInt64.toUInt64).toInt64).toInt32))])) rfl rfl (hb hby d19_71)
      refine Goes.via st14 ?_
      show Goes p e below _ (T14.setTop (mkF m 74 #[vr a, vi ps, vi ((dg * bp) - ((ps + (1 : Int32)) * bp)), .val (.long (((0 : Int64).toUInt64 >>> ((((dg * bp) - ((ps + (1 : Int32)) * bp)) - (64 : Int32)) &&& 0x3f).toInt64.toUInt64).toInt64)), .second] [(.ref sp), (.int ((((0 : Int64).toUInt64 >>> ((((dg * bp) - ((ps + (1 : Int32)) * bp)) - (64 : Int32)) &&& 0x3f).toInt64.toUInt64).toInt64).toInt32))]))
      obtain ⟨cq15, kq15, q15a, q15b, q15c⟩ := isOf hZ e14 E4_sp
      obtain ⟨_, _, ⟨T15, L15, k15, n15⟩, -, X15, ⟨Lc15, hQ15, l15, y15, z15⟩, st15⟩ := X14.virtualBack hx (y := mN_IdSpace_base) (z := mN_IdSpace_base) hown (mvT hZ (own_w hw 122 rfl)) (mvT hZ (own_w hw 108 rfl)) (notFace_of_selects (args := #[]) (mvT hZ (own_w hw 110 rfl))) (mvT hZ (own_w hw 110 rfl)) (mvT hZ (own_w hw 109 rfl)) (by decide) (backOf (W := 1) (rm18 l Z a0 hw [] sp x_ h0 n0 (Nat.le_trans Z0 (Nat.le_refl _)) F5_sp_base) hZ (own_w hw 111 rfl) (own_w hw 2 rfl) (by decide) (by decide)) q15a q15c (g := (mkF m 74 #[vr a, vi ps, vi ((dg * bp) - ((ps + (1 : Int32)) * bp)), .val (.long (((0 : Int64).toUInt64 >>> ((((dg * bp) - ((ps + (1 : Int32)) * bp)) - (64 : Int32)) &&& 0x3f).toInt64.toUInt64).toInt64)), .second] [(.ref sp), (.int ((((0 : Int64).toUInt64 >>> ((((dg * bp) - ((ps + (1 : Int32)) * bp)) - (64 : Int32)) &&& 0x3f).toInt64.toUInt64).toInt64).toInt32))])) rfl (by rw [hml]; rfl) (Steps.refl _) (argsL := []) (rest := [(.int ((((0 : Int64).toUInt64 >>> ((((dg * bp) - ((ps + (1 : Int32)) * bp)) - (64 : Int32)) &&& 0x3f).toInt64.toUInt64).toInt64).toInt32))]) (lenOf pd_2 rfl) rfl (by show 2 * 0 + _ ≤ _; exact Nat.le_of_eq rfl) (hb hby d19_74) (fun _ _ => ⟨rfl, e14, (by decide : 0 + 0 ≤ _), (by decide : 0 + 0 ≤ _)⟩)
      dsimp only [Pt.U, Pt.locs, Pt.cells, Pt.slots] at X15 l15 y15 z15 st15 hQ15
      replace l15 := l15.symm
      subst l15 y15 z15
      obtain ⟨rfl, rfl, e15⟩ := hQ15
      first | rw [List.append_nil] at X15 | skip
      refine Goes.tr st15 ?_
      have e15' : T15.heap = h0 := e15
      show Goes p e below _ (T15.setTop (mkF m 77 #[vr a, vi ps, vi ((dg * bp) - ((ps + (1 : Int32)) * bp)), .val (.long (((0 : Int64).toUInt64 >>> ((((dg * bp) - ((ps + (1 : Int32)) * bp)) - (64 : Int32)) &&& 0x3f).toInt64.toUInt64).toInt64)), .second] [(.int x_), (.int ((((0 : Int64).toUInt64 >>> ((((dg * bp) - ((ps + (1 : Int32)) * bp)) - (64 : Int32)) &&& 0x3f).toInt64.toUInt64).toInt64).toInt32))]))
      refine gIC (z := 1) X15 hx hby d19_77 rfl ?_
      refine Goes.via (fun _ kk_ => XS.isub X15.here hx rfl (hb hby d19_78) rfl kk_) ?_
      show Goes p e below _ (T15.setTop (mkF m 79 #[vr a, vi ps, vi ((dg * bp) - ((ps + (1 : Int32)) * bp)), .val (.long (((0 : Int64).toUInt64 >>> ((((dg * bp) - ((ps + (1 : Int32)) * bp)) - (64 : Int32)) &&& 0x3f).toInt64.toUInt64).toInt64)), .second] [(.int (x_ - (1 : Int32))), (.int ((((0 : Int64).toUInt64 >>> ((((dg * bp) - ((ps + (1 : Int32)) * bp)) - (64 : Int32)) &&& 0x3f).toInt64.toUInt64).toInt64).toInt32))]))
      refine Goes.via (fun _ kk_ => XS.iand X15.here hx rfl (hb hby d19_79) rfl kk_) ?_
      show Goes p e below _ (T15.setTop (mkF m 80 #[vr a, vi ps, vi ((dg * bp) - ((ps + (1 : Int32)) * bp)), .val (.long (((0 : Int64).toUInt64 >>> ((((dg * bp) - ((ps + (1 : Int32)) * bp)) - (64 : Int32)) &&& 0x3f).toInt64.toUInt64).toInt64)), .second] [(.int (((((0 : Int64).toUInt64 >>> ((((dg * bp) - ((ps + (1 : Int32)) * bp)) - (64 : Int32)) &&& 0x3f).toInt64.toUInt64).toInt64).toInt32) &&& (x_ - (1 : Int32))))]))
      exact own_finI X15 hx hlk hret (hb hby d19_80) (by rw [e15']; exact ⟨(by rw [own_dgt, if_neg hc21, if_neg hc35]; first | done | rfl | exact own_nc _), rfl, rfl⟩) (by first | decide | omega | (dsimp only; omega)) (by first | decide | omega | (dsimp only; omega))
theorem ef_rmEqS (m : MethodId) (a : Addr) (a : Addr) : entryFrame m #[(.ref a), (.ref a)] 3 = mkF m 0 #[.val (.ref a), .val (.ref a), .unset] [] := by first | (simp [entryFrame, mkF, argsToLocals, Value.category]; done) | rfl
def QrmEqS (Z : State) (a : Addr) (h0 : Heap) (n0 : Nat) (v_ : Option Value) (h_ : Heap) (L_ : List Loc) : Prop := v_ = some (.int (1 : Int32)) ∧ L_ = [] ∧ h_ = h0
set_option maxRecDepth 65536 in
set_option maxHeartbeats 40000000 in
theorem rmEqS (l : Launch) (Z : State) (a0 : Array Value) (hw : ∀ d ∈ tables_1, d.before a0 Z = true) (ws : List Jvm.Cond) (a : Addr) (h0 : Heap) (n0 : Nat) (Z0 : n0 ≤ h0.size) :
    MetFree l (⟨"nearhop/model/Id", "equals", "(Ljava/lang/Object;)Z"⟩ : MethodName) (head1 (Jvm.Cond.code (⟨"nearhop/model/Id", "equals", "(Ljava/lang/Object;)Z"⟩ : MethodName) prog_76_method_18_code 3 (some .boolean) :: ws) ({ frames := 0, cells := 0, slots := 0, locals := 0 } : Room)) (fun as_ U_ => as_ = #[(.ref a), (.ref a)] ∧ Z.Warmed39 U_.vm ∧ U_.heap = h0) (fun _ _ _ _ _ => True) (fun _ U_ o_ V_ => ∃ v_ L_, o_ = .returned v_ ∧ QrmEqS Z a h0 n0 v_ V_.heap L_ ∧ FrameEnd U_ o_ V_ L_ ({ frames := 0, cells := 0, slots := 0, locals := 0 } : Room).cells ({ frames := 0, cells := 0, slots := 0, locals := 0 } : Room).slots) := by
  refine MetFree.of_bodySF (plainFor_of_name pn_nearhop_model_Id) hisR ?_
  intro p e s m args below meth c s₁ Bd hml0 hP hK
  obtain ⟨rfl, hZ, hh⟩ := hP
  have hx := Bd.exec
  have hby := Bd.bytes
  have hlk : meth.locks = false := BodyLoose.notSynchronized Bd
  have hret := Bd.returns
  have hml : c.maxLocals = 3 := hml0
  have hown : s.vm.findClass "nearhop/model/Id" = some m.cls := findClass_of_methodNamed Bd.named
  have hnm := (name_of_methodNamed Bd.named Bd.method).1
  have X0 : Stand p l e ({ frames := 0, cells := 0, slots := 0, locals := 0 } : Room) s m #[(.ref a), (.ref a)] below meth c s₁ [] 0 0 := Stand.of_body Bd
  have e0 : s₁.heap = h0 := by rw [← hh, Bd.state]; rfl
  have N0 := Fr.nil n0
  show Goes p e below (Fin_ s (QrmEqS Z a h0 n0) ({ frames := 0, cells := 0, slots := 0, locals := 0 } : Room).cells ({ frames := 0, cells := 0, slots := 0, locals := 0 } : Room).slots) (s₁.setTop (entryFrame m #[(.ref a), (.ref a)] 3))
  rw [ef_rmEqS m a a]
  refine gALN X0 hx hby d14_0 rfl rfl ?_
  refine gALN X0 hx hby d14_1 rfl rfl ?_
  refine Goes.via (fun _ kk_ => Jvm.RoadKit.acmp (g := (mkF m 2 #[vr a, vr a, .unset] [(.ref a), (.ref a)])) X0 hx rfl rfl rfl (pc0 := 2) (pc' := 66) (same := true) rfl (hb hby d14_2) rfl (decide_eq_true rfl) (by decide) (by decide) kk_) ?_
  show Goes p e below _ (s₁.setTop (mkF m 66 #[vr a, vr a, .unset] []))
  refine gIC (z := 1) X0 hx hby d14_66 rfl ?_
  refine Goes.via (fun _ kk_ => XS.goto X0.here hx rfl (pc0 := 67) (pc' := 71) rfl (hb hby d14_67) (by decide) (by decide) kk_) ?_
  show Goes p e below _ (s₁.setTop (mkF m 71 #[vr a, vr a, .unset] [(.int (1 : Int32))]))
  exact own_finN X0 hx hlk hret (by simp) (hb hby d14_71) (by rw [e0]; exact ⟨rfl, rfl, rfl⟩) (by first | decide | omega | (dsimp only; omega)) (by first | decide | omega | (dsimp only; omega))
theorem ef_rmEq0 (m : MethodId) (a : Addr) : entryFrame m #[(.ref a), .null] 3 = mkF m 0 #[.val (.ref a), .val .null, .unset] [] := by first | (simp [entryFrame, mkF, argsToLocals, Value.category]; done) | rfl
def QrmEq0 (Z : State) (a : Addr) (h0 : Heap) (n0 : Nat) (v_ : Option Value) (h_ : Heap) (L_ : List Loc) : Prop := v_ = some (.int (0 : Int32)) ∧ L_ = [] ∧ h_ = h0
set_option maxRecDepth 65536 in
set_option maxHeartbeats 40000000 in
theorem rmEq0 (l : Launch) (Z : State) (a0 : Array Value) (hw : ∀ d ∈ tables_1, d.before a0 Z = true) (ws : List Jvm.Cond) (a : Addr) (h0 : Heap) (n0 : Nat) (Z0 : n0 ≤ h0.size) :
    MetFree l (⟨"nearhop/model/Id", "equals", "(Ljava/lang/Object;)Z"⟩ : MethodName) (head1 (Jvm.Cond.code (⟨"nearhop/model/Id", "equals", "(Ljava/lang/Object;)Z"⟩ : MethodName) prog_76_method_18_code 3 (some .boolean) :: ws) ({ frames := 0, cells := 0, slots := 0, locals := 0 } : Room)) (fun as_ U_ => as_ = #[(.ref a), .null] ∧ Z.Warmed39 U_.vm ∧ U_.heap = h0) (fun _ _ _ _ _ => True) (fun _ U_ o_ V_ => ∃ v_ L_, o_ = .returned v_ ∧ QrmEq0 Z a h0 n0 v_ V_.heap L_ ∧ FrameEnd U_ o_ V_ L_ ({ frames := 0, cells := 0, slots := 0, locals := 0 } : Room).cells ({ frames := 0, cells := 0, slots := 0, locals := 0 } : Room).slots) := by
  refine MetFree.of_bodySF (plainFor_of_name pn_nearhop_model_Id) hisR ?_
  intro p e s m args below meth c s₁ Bd hml0 hP hK
  obtain ⟨rfl, hZ, hh⟩ := hP
  have hx := Bd.exec
  have hby := Bd.bytes
  have hlk : meth.locks = false := BodyLoose.notSynchronized Bd
  have hret := Bd.returns
  have hml : c.maxLocals = 3 := hml0
  have hown : s.vm.findClass "nearhop/model/Id" = some m.cls := findClass_of_methodNamed Bd.named
  have hnm := (name_of_methodNamed Bd.named Bd.method).1
  have X0 : Stand p l e ({ frames := 0, cells := 0, slots := 0, locals := 0 } : Room) s m #[(.ref a), .null] below meth c s₁ [] 0 0 := Stand.of_body Bd
  have e0 : s₁.heap = h0 := by rw [← hh, Bd.state]; rfl
  have N0 := Fr.nil n0
  show Goes p e below (Fin_ s (QrmEq0 Z a h0 n0) ({ frames := 0, cells := 0, slots := 0, locals := 0 } : Room).cells ({ frames := 0, cells := 0, slots := 0, locals := 0 } : Room).slots) (s₁.setTop (entryFrame m #[(.ref a), .null] 3))
  rw [ef_rmEq0 m a]
  refine gALN X0 hx hby d14_0 rfl rfl ?_
  refine gALN X0 hx hby d14_1 rfl rfl ?_
  refine Goes.via (fun _ kk_ => Jvm.RoadKit.acmp (g := (mkF m 2 #[vr a, .val .null, .unset] [.null, (.ref a)])) X0 hx rfl rfl rfl (pc0 := 2) (pc' := 5) (same := false) rfl (hb hby d14_2) rfl (decide_eq_false nofun) (by decide) (by decide) kk_) ?_
  show Goes p e below _ (s₁.setTop (mkF m 5 #[vr a, .val .null, .unset] []))
  refine gALN X0 hx hby d14_5 rfl rfl ?_
  refine Goes.via (X0.instanceofNull hx (g := (mkF m 6 #[vr a, .val .null, .unset] [.null])) rfl rfl (hb hby d14_6)) ?_
  show Goes p e below _ (s₁.setTop (mkF m 9 #[vr a, .val .null, .unset] [(.int (0 : Int32))]))
  have hc9_1 : (0 : Int32) = (0 : Int32) := (by decide)
  refine Goes.via (fun _ kk_ => XS.ifYes X0.here hx rfl (pc0 := 9) (pc' := 70) rfl (hb hby d14_9) rfl ((if0 _ _).trans (teq hc9_1).1) (by decide) (by decide) kk_) ?_
  show Goes p e below _ (s₁.setTop (mkF m 70 #[vr a, .val .null, .unset] []))
  refine gIC (z := 0) X0 hx hby d14_70 rfl ?_
  exact own_finN X0 hx hlk hret (by simp) (hb hby d14_71) (by rw [e0]; exact ⟨rfl, rfl, rfl⟩) (by first | decide | omega | (dsimp only; omega)) (by first | decide | omega | (dsimp only; omega))
theorem ef_rmRT (m : MethodId) (a : Addr) (ow : Addr) : entryFrame m #[(.ref a), (.ref ow)] 2 = mkF m 0 #[.val (.ref a), .val (.ref ow)] [] := by first | (simp [entryFrame, mkF, argsToLocals, Value.category]; done) | rfl
def QrmRT (Z : State) (a : Addr) (ow : Addr) (sp : Addr) (dg : Int32) (nd : Nat) (h0 : Heap) (n0 : Nat) (v_ : Option Value) (h_ : Heap) (L_ : List Loc) : Prop := ∃ rw : Addr, ∃ rl : Addr, ∃ fl : Addr, ∃ kR : ClassId, ∃ kK : ClassId, ∃ kF : ClassId, v_ = none ∧ Fr n0 L_ ∧ Keep h0 h_ [a] ∧ Exa Z h_ a "nearhop/model/RoutingTable" ∧ Fld Z h_ a "nearhop/model/RoutingTable" "owner" "Lnearhop/model/Id;" (.ref ow) ∧ Fld Z h_ a "nearhop/model/RoutingTable" "rows" "[[Lnearhop/model/Id;" (.ref rw) ∧ Fld Z h_ a "nearhop/model/RoutingTable" "ranks" "[[J" (.ref rl) ∧ Fld Z h_ a "nearhop/model/RoutingTable" "filled" "[I" (.ref fl) ∧ Fld Z h_ a "nearhop/model/RoutingTable" "firstOpen" "I" (.int (0 : Int32)) ∧ h0.size ≤ rw ∧ h0.size ≤ rl ∧ h0.size ≤ fl ∧ Exa Z h_ rw "[[Lnearhop/model/Id;" ∧ Arw Z h_ rw kR (.array (.object "nearhop/model/Id")) nd (fun _ => .null) ∧ Exa Z h_ rl "[[J" ∧ Arw Z h_ rl kK (.array .long) nd (fun _ => .null) ∧ Exa Z h_ fl "[I" ∧ Arw Z h_ fl kF .int nd (fun i => .int ((fun _ => (0 : Int32)) i)) ∧ OvrA Z kR (.object "nearhop/model/Id") "[Lnearhop/model/Id;" ∧ OvrA Z kK .long "[J"
theorem pn_nearhop_model_RoutingTable : plainName "nearhop/model/RoutingTable" = true := by first | (simp [plainName, overriddenIn]; done) | decide +kernel
theorem d10_0 : decode prog_120_method_1_code 0 = .ok (.aload_n 0, 1) := by decide +kernel
theorem d10_1 : decode prog_120_method_1_code 1 = .ok (.invokespecial 1, 3) := by decide +kernel
theorem d10_4 : decode prog_120_method_1_code 4 = .ok (.aload_n 0, 1) := by decide +kernel
theorem d10_5 : decode prog_120_method_1_code 5 = .ok (.aload_n 1, 1) := by decide +kernel
theorem d10_6 : decode prog_120_method_1_code 6 = .ok (.putfield 7, 3) := by decide +kernel
theorem d10_9 : decode prog_120_method_1_code 9 = .ok (.aload_n 0, 1) := by decide +kernel
theorem d10_10 : decode prog_120_method_1_code 10 = .ok (.aload_n 1, 1) := by decide +kernel
theorem pd_8 : parseMethodDescriptor "()Lnearhop/model/IdSpace;" = some ⟨[], some (.object "nearhop/model/IdSpace")⟩ := by decide +kernel
theorem d10_11 : decode prog_120_method_1_code 11 = .ok (.invokevirtual 13, 3) := by decide +kernel
abbrev mN_Id_space : MethodName := ⟨"nearhop/model/Id", "space", "()Lnearhop/model/IdSpace;"⟩
theorem d10_14 : decode prog_120_method_1_code 14 = .ok (.invokevirtual 19, 3) := by decide +kernel
theorem d10_17 : decode prog_120_method_1_code 17 = .ok (.anewarray 25, 3) := by decide +kernel
theorem d10_20 : decode prog_120_method_1_code 20 = .ok (.putfield 27, 3) := by decide +kernel
theorem d10_23 : decode prog_120_method_1_code 23 = .ok (.aload_n 0, 1) := by decide +kernel
theorem d10_24 : decode prog_120_method_1_code 24 = .ok (.aload_n 1, 1) := by decide +kernel
theorem d10_25 : decode prog_120_method_1_code 25 = .ok (.invokevirtual 13, 3) := by decide +kernel
theorem d10_28 : decode prog_120_method_1_code 28 = .ok (.invokevirtual 19, 3) := by decide +kernel
theorem d10_31 : decode prog_120_method_1_code 31 = .ok (.anewarray 31, 3) := by decide +kernel
theorem d10_34 : decode prog_120_method_1_code 34 = .ok (.putfield 33, 3) := by decide +kernel
theorem d10_37 : decode prog_120_method_1_code 37 = .ok (.aload_n 0, 1) := by decide +kernel
theorem d10_38 : decode prog_120_method_1_code 38 = .ok (.aload_n 1, 1) := by decide +kernel
theorem d10_39 : decode prog_120_method_1_code 39 = .ok (.invokevirtual 13, 3) := by decide +kernel
theorem d10_42 : decode prog_120_method_1_code 42 = .ok (.invokevirtual 19, 3) := by decide +kernel
theorem d10_45 : decode prog_120_method_1_code 45 = .ok (.newarray .int, 2) := by decide +kernel
theorem d10_47 : decode prog_120_method_1_code 47 = .ok (.putfield 37, 3) := by decide +kernel
theorem d10_50 : decode prog_120_method_1_code 50 = .ok (.return_, 1) := by decide +kernel
set_option maxRecDepth 65536 in
set_option maxHeartbeats 40000000 in
theorem rmRT (l : Launch) (Z : State) (a0 : Array Value) (hw : ∀ d ∈ tables_1, d.before a0 Z = true) (ws : List Jvm.Cond) (a : Addr) (ow : Addr) (sp : Addr) (dg : Int32) (nd : Nat) (h0 : Heap) (n0 : Nat) (Z0 : n0 ≤ h0.size) (E0_a : Exa Z h0 a "nearhop/model/RoutingTable") (F1_a_owner : Fld Z h0 a "nearhop/model/RoutingTable" "owner" "Lnearhop/model/Id;" .null) (F2_a_rows : Fld Z h0 a "nearhop/model/RoutingTable" "rows" "[[Lnearhop/model/Id;" .null) (F3_a_ranks : Fld Z h0 a "nearhop/model/RoutingTable" "ranks" "[[J" .null) (F4_a_filled : Fld Z h0 a "nearhop/model/RoutingTable" "filled" "[I" .null) (F5_a_firstOpen : Fld Z h0 a "nearhop/model/RoutingTable" "firstOpen" "I" (.int (0 : Int32))) (H6 : n0 ≤ a) (E7_ow : Exa Z h0 ow "nearhop/model/Id") (F8_ow_space : Fld Z h0 ow "nearhop/model/Id" "space" "Lnearhop/model/IdSpace;" (.ref sp)) (E9_sp : Exa Z h0 sp "nearhop/model/IdSpace") (F10_sp_digits : Fld Z h0 sp "nearhop/model/IdSpace" "digits" "I" (.int dg)) (Hnd : dg.toInt = (nd : Int)) (Hn3 : nd ≤ 3) :
    MetFree l (⟨"nearhop/model/RoutingTable", "<init>", "(Lnearhop/model/Id;)V"⟩ : MethodName) (head1 (Jvm.Cond.code (⟨"nearhop/model/RoutingTable", "<init>", "(Lnearhop/model/Id;)V"⟩ : MethodName) prog_120_method_1_code 2 none :: ws) ({ frames := 1, cells := 3, slots := 9, locals := 13 } : Room)) (fun as_ U_ => as_ = #[(.ref a), (.ref ow)] ∧ Z.Warmed39 U_.vm ∧ U_.heap = h0) (fun _ _ _ _ _ => True) (fun _ U_ o_ V_ => ∃ v_ L_, o_ = .returned v_ ∧ QrmRT Z a ow sp dg nd h0 n0 v_ V_.heap L_ ∧ FrameEnd U_ o_ V_ L_ ({ frames := 1, cells := 3, slots := 9, locals := 13 } : Room).cells ({ frames := 1, cells := 3, slots := 9, locals := 13 } : Room).slots) := by
  refine MetFree.of_bodySF (plainFor_of_name pn_nearhop_model_RoutingTable) hisR ?_
  intro p e s m args below meth c s₁ Bd hml0 hP hK
  obtain ⟨rfl, hZ, hh⟩ := hP
  have hx := Bd.exec
  have hby := Bd.bytes
  have hlk : meth.locks = false := BodyLoose.notSynchronized Bd
  have hret := Bd.returns
  have hml : c.maxLocals = 2 := hml0
  have hown : s.vm.findClass "nearhop/model/RoutingTable" = some m.cls := findClass_of_methodNamed Bd.named
  have hnm := (name_of_methodNamed Bd.named Bd.method).1
  have X0 : Stand p l e ({ frames := 1, cells := 3, slots := 9, locals := 13 } : Room) s m #[(.ref a), (.ref ow)] below meth c s₁ [] 0 0 := Stand.of_body Bd
  have e0 : s₁.heap = h0 := by rw [← hh, Bd.state]; rfl
  have N0 := Fr.nil n0
  show Goes p e below (Fin_ s (QrmRT Z a ow sp dg nd h0 n0) ({ frames := 1, cells := 3, slots := 9, locals := 13 } : Room).cells ({ frames := 1, cells := 3, slots := 9, locals := 13 } : Room).slots) (s₁.setTop (entryFrame m #[(.ref a), (.ref ow)] 2))
  rw [ef_rmRT m a ow]
  have ne1 : a ≠ ow := ne_exa E0_a E7_ow (by decide)
  have ne2 : a ≠ sp := ne_exa E0_a E9_sp (by decide)
  refine gALN X0 hx hby d10_0 rfl rfl ?_
  obtain ⟨T4, X4, e4, st4⟩ := initO X0 hx hZ hown (own_w hw 58 rfl) (own_w hw 12 rfl) (own_w hw 13 rfl) e0 (g := (mkF m 1 #[vr a, vr ow] [(.ref a)])) rfl (by rw [hml]; rfl) rfl (hb hby d10_1) (by decide) (W := 0) (by show 2 * 0 + _ ≤ _; exact Nat.le_of_eq rfl) (by decide)
  refine Goes.via st4 ?_
  show Goes p e below _ (T4.setTop (mkF m 4 #[vr a, vr ow] []))
  refine gALN X4 hx hby d10_4 rfl rfl ?_
  refine gALN X4 hx hby d10_5 rfl rfl ?_
  obtain ⟨T5, h5, X5, e5, W5, st5⟩ := putF X4 hx hZ hown (host := "") (Or.inl (own_w hw 59 rfl)) Via.refl e4 F1_a_owner E0_a (Or.inr ⟨(own_w hw 60 rfl), rfl, hnm⟩) (own_w hw 53 rfl) (ty := (.object "nearhop/model/Id")) (by decide) rfl rfl (g := (mkF m 6 #[vr a, vr ow] [(.ref ow), (.ref a)])) rfl rfl (hb hby d10_6)
  refine Goes.via st5 ?_
  have N5 := Fr.snoc X5 N0 H6
  have Fw5 : Fld Z h5 a "nearhop/model/RoutingTable" "owner" "Lnearhop/model/Id;" (.ref ow) := F1_a_owner.same W5
  show Goes p e below _ (T5.setTop (mkF m 9 #[vr a, vr ow] []))
  refine gALN X5 hx hby d10_9 rfl rfl ?_
  refine gALN X5 hx hby d10_10 rfl rfl ?_
  have f6 := (F8_ow_space.other W5 (Or.inl (Ne.symm ne1)))
  have z8 : h0.size ≤ (h5).size := (Nat.le_trans (Nat.le_refl _) (Nat.le_of_eq W5.size.symm))
  have f9 := (E7_ow.wr W5)
  obtain ⟨cq7, kq7, q7a, q7b, q7c⟩ := isOf hZ e5 f9
  obtain ⟨_, _, ⟨T7, L7, k7, n7⟩, -, X7, ⟨Lc7, hQ7, l7, y7, z7⟩, st7⟩ := X5.virtualBack hx (y := mN_Id_space) (z := mN_Id_space) hown (mvT hZ (own_w hw 61 rfl)) (mvT hZ (own_w hw 62 rfl)) (notFace_of_selects (args := #[]) (mvT hZ (own_w hw 64 rfl))) (mvT hZ (own_w hw 64 rfl)) (mvT hZ (own_w hw 63 rfl)) (by decide) (backOf (W := 1) (rm11 l Z a0 hw [] ow sp h5 n0 (Nat.le_trans Z0 z8) f6) hZ (own_w hw 65 rfl) (own_w hw 25 rfl) (by decide) (by decide)) q7a q7c (g := (mkF m 11 #[vr a, vr ow] [(.ref ow), (.ref a)])) rfl (by rw [hml]; rfl) (Steps.refl _) (argsL := []) (rest := [(.ref a)]) (lenOf pd_8 rfl) rfl (by show 2 * 0 + _ ≤ _; exact Nat.le_of_eq rfl) (hb hby d10_11) (fun _ _ => ⟨rfl, e5, (by decide : 0 + 0 ≤ _), (by decide : 0 + 0 ≤ _)⟩)
  dsimp only [Pt.U, Pt.locs, Pt.cells, Pt.slots] at X7 l7 y7 z7 st7 hQ7
  replace l7 := l7.symm
  subst l7 y7 z7
  obtain ⟨rfl, rfl, e7⟩ := hQ7
  first | rw [List.append_nil] at X7 | skip
  refine Goes.tr st7 ?_
  have e7' : T7.heap = h5 := e7
  show Goes p e below _ (T7.setTop (mkF m 14 #[vr a, vr ow] [(.ref sp), (.ref a)]))
  have f10 := (F10_sp_digits.other W5 (Or.inl (Ne.symm ne2)))
  have f12 := (E9_sp.wr W5)
  obtain ⟨cq11, kq11, q11a, q11b, q11c⟩ := isOf hZ e7' f12
  obtain ⟨_, _, ⟨T11, L11, k11, n11⟩, -, X11, ⟨Lc11, hQ11, l11, y11, z11⟩, st11⟩ := X7.virtualBack hx (y := mN_IdSpace_digits) (z := mN_IdSpace_digits) hown (mvT hZ (own_w hw 66 rfl)) (mvT hZ (own_w hw 67 rfl)) (notFace_of_selects (args := #[]) (mvT hZ (own_w hw 69 rfl))) (mvT hZ (own_w hw 69 rfl)) (mvT hZ (own_w hw 68 rfl)) (by decide) (backOf (W := 1) (rm12 l Z a0 hw [] sp dg h5 n0 (Nat.le_trans Z0 z8) f10) hZ (own_w hw 70 rfl) (own_w hw 2 rfl) (by decide) (by decide)) q11a q11c (g := (mkF m 14 #[vr a, vr ow] [(.ref sp), (.ref a)])) rfl (by rw [hml]; rfl) (Steps.refl _) (argsL := []) (rest := [(.ref a)]) (lenOf pd_2 rfl) rfl (by show 2 * 0 + _ ≤ _; exact Nat.le_of_eq rfl) (hb hby d10_14) (fun _ _ => ⟨rfl, e7', (by decide : 0 + 0 ≤ _), (by decide : 0 + 0 ≤ _)⟩)
  dsimp only [Pt.U, Pt.locs, Pt.cells, Pt.slots] at X11 l11 y11 z11 st11 hQ11
  replace l11 := l11.symm
  subst l11 y11 z11
  obtain ⟨rfl, rfl, e11⟩ := hQ11
  first | rw [List.append_nil] at X11 | skip
  refine Goes.tr st11 ?_
  have e11' : T11.heap = h5 := e11
  show Goes p e below _ (T11.setTop (mkF m 17 #[vr a, vr ow] [(.int dg), (.ref a)]))
  obtain ⟨T13, h13, k13, X13, e13, E13, A13, C13, O13, st13⟩ := own_newRA (ty := (.object "nearhop/model/Id")) (C := "[Lnearhop/model/Id;") X11 hx hZ hown (by decide) (own_w hw 71 rfl) (own_w hw 72 rfl) e11' (g := (mkF m 17 #[vr a, vr ow] [(.int dg), (.ref a)])) rfl (hb hby d10_17) rfl (n := dg) (N := nd) (own_ix Hnd).1 (own_ix Hnd).2 (cap := 3) (by first | decide | omega | (dsimp only; omega)) (by first | decide | omega | (dsimp only; omega)) (by first | decide | omega | (dsimp only; omega)) (by first | decide | omega | (dsimp only; omega)) (ad := "[[Lnearhop/model/Id;") (by decide)
  obtain ⟨b13, g13⟩ : ∃ z, z = (h5).size := ⟨_, rfl⟩
  rw [← g13] at A13 C13 st13
  have f14 := (E0_a.wr W5)
  have lne15 : a < b13 := Nat.lt_of_lt_of_le f14.lt (Nat.le_of_eq g13.symm)
  have ne15 : a ≠ b13 := Nat.ne_of_lt lne15
  have sz_b13 : h0.size ≤ b13 := Nat.le_trans z8 (Nat.le_of_eq g13.symm)
  refine Goes.via st13 ?_
  show Goes p e below _ (T13.setTop (mkF m 20 #[vr a, vr ow] [(.ref b13), (.ref a)]))
  have f18 := ((F2_a_rows.other W5 (Or.inr (slot_ne (Or.inr (own_w hw 74 rfl)) (Or.inr (own_w hw 60 rfl)) (by decide) (t := (.array (.array (.object "nearhop/model/Id")))) (t' := (.object "nearhop/model/Id")) (by decide) (by decide)))).ext E13)
  have f19 := (f14.ext E13)
  obtain ⟨T20, h20, X20, e20, W20, st20⟩ := putF X13 hx hZ hown (host := "") (Or.inl (own_w hw 73 rfl)) Via.refl e13 f18 f19 (Or.inr ⟨(own_w hw 74 rfl), rfl, hnm⟩) (own_w hw 53 rfl) (ty := (.array (.array (.object "nearhop/model/Id")))) (by decide) rfl rfl (g := (mkF m 20 #[vr a, vr ow] [(.ref b13), (.ref a)])) rfl rfl (hb hby d10_20)
  refine Goes.via st20 ?_
  have N20 := Fr.snoc X20 N5 H6
  have Fw20 : Fld Z h20 a "nearhop/model/RoutingTable" "rows" "[[Lnearhop/model/Id;" (.ref b13) := f18.same W20
  show Goes p e below _ (T20.setTop (mkF m 23 #[vr a, vr ow] []))
  refine gALN X20 hx hby d10_23 rfl rfl ?_
  refine gALN X20 hx hby d10_24 rfl rfl ?_
  have f21 := ((f6.ext E13).other W20 (Or.inl (Ne.symm ne1)))
  have z23 : h0.size ≤ (h20).size := (Nat.le_trans (Nat.le_trans z8 E13.1) (Nat.le_of_eq W20.size.symm))
  have f24 := ((f9.ext E13).wr W20)
  obtain ⟨cq22, kq22, q22a, q22b, q22c⟩ := isOf hZ e20 f24
  obtain ⟨_, _, ⟨T22, L22, k22, n22⟩, -, X22, ⟨Lc22, hQ22, l22, y22, z22⟩, st22⟩ := X20.virtualBack hx (y := mN_Id_space) (z := mN_Id_space) hown (mvT hZ (own_w hw 61 rfl)) (mvT hZ (own_w hw 62 rfl)) (notFace_of_selects (args := #[]) (mvT hZ (own_w hw 64 rfl))) (mvT hZ (own_w hw 64 rfl)) (mvT hZ (own_w hw 63 rfl)) (by decide) (backOf (W := 1) (rm11 l Z a0 hw [] ow sp h20 n0 (Nat.le_trans Z0 z23) f21) hZ (own_w hw 65 rfl) (own_w hw 25 rfl) (by decide) (by decide)) q22a q22c (g := (mkF m 25 #[vr a, vr ow] [(.ref ow), (.ref a)])) rfl (by rw [hml]; rfl) (Steps.refl _) (argsL := []) (rest := [(.ref a)]) (lenOf pd_8 rfl) rfl (by show 2 * 0 + _ ≤ _; exact Nat.le_of_eq rfl) (hb hby d10_25) (fun _ _ => ⟨rfl, e20, (by decide : 1 + 0 ≤ _), (by decide : 3 + 0 ≤ _)⟩)
  dsimp only [Pt.U, Pt.locs, Pt.cells, Pt.slots] at X22 l22 y22 z22 st22 hQ22
  replace l22 := l22.symm
  subst l22 y22 z22
  obtain ⟨rfl, rfl, e22⟩ := hQ22
  first | rw [List.append_nil] at X22 | skip
  refine Goes.tr st22 ?_
  have e22' : T22.heap = h20 := e22
  show Goes p e below _ (T22.setTop (mkF m 28 #[vr a, vr ow] [(.ref sp), (.ref a)]))
  have f25 := ((f10.ext E13).other W20 (Or.inl (Ne.symm ne2)))
  have f27 := ((f12.ext E13).wr W20)
  obtain ⟨cq26, kq26, q26a, q26b, q26c⟩ := isOf hZ e22' f27
  obtain ⟨_, _, ⟨T26, L26, k26, n26⟩, -, X26, ⟨Lc26, hQ26, l26, y26, z26⟩, st26⟩ := X22.virtualBack hx (y := mN_IdSpace_digits) (z := mN_IdSpace_digits) hown (mvT hZ (own_w hw 66 rfl)) (mvT hZ (own_w hw 67 rfl)) (notFace_of_selects (args := #[]) (mvT hZ (own_w hw 69 rfl))) (mvT hZ (own_w hw 69 rfl)) (mvT hZ (own_w hw 68 rfl)) (by decide) (backOf (W := 1) (rm12 l Z a0 hw [] sp dg h20 n0 (Nat.le_trans Z0 z23) f25) hZ (own_w hw 70 rfl) (own_w hw 2 rfl) (by decide) (by decide)) q26a q26c (g := (mkF m 28 #[vr a, vr ow] [(.ref sp), (.ref a)])) rfl (by rw [hml]; rfl) (Steps.refl _) (argsL := []) (rest := [(.ref a)]) (lenOf pd_2 rfl) rfl (by show 2 * 0 + _ ≤ _; exact Nat.le_of_eq rfl) (hb hby d10_28) (fun _ _ => ⟨rfl, e22', (by decide : 1 + 0 ≤ _), (by decide : 3 + 0 ≤ _)⟩)
  dsimp only [Pt.U, Pt.locs, Pt.cells, Pt.slots] at X26 l26 y26 z26 st26 hQ26
  replace l26 := l26.symm
  subst l26 y26 z26
  obtain ⟨rfl, rfl, e26⟩ := hQ26
  first | rw [List.append_nil] at X26 | skip
  refine Goes.tr st26 ?_
  have e26' : T26.heap = h20 := e26
  show Goes p e below _ (T26.setTop (mkF m 31 #[vr a, vr ow] [(.int dg), (.ref a)]))
  obtain ⟨T28, h28, k28, X28, e28, E28, A28, C28, O28, st28⟩ := own_newRA (ty := .long) (C := "[J") X26 hx hZ hown (by decide) (own_w hw 75 rfl) (own_w hw 76 rfl) e26' (g := (mkF m 31 #[vr a, vr ow] [(.int dg), (.ref a)])) rfl (hb hby d10_31) rfl (n := dg) (N := nd) (own_ix Hnd).1 (own_ix Hnd).2 (cap := 3) (by first | decide | omega | (dsimp only; omega)) (by first | decide | omega | (dsimp only; omega)) (by first | decide | omega | (dsimp only; omega)) (by first | decide | omega | (dsimp only; omega)) (ad := "[[J") (by decide)
  obtain ⟨b28, g28⟩ : ∃ z, z = (h20).size := ⟨_, rfl⟩
  rw [← g28] at A28 C28 st28
  have f29 := (f19.wr W20)
  have lne30 : a < b28 := Nat.lt_of_lt_of_le f29.lt (Nat.le_of_eq g28.symm)
  have ne30 : a ≠ b28 := Nat.ne_of_lt lne30
  have f33 := (C13.wr W20)
  have sz_b28 : h0.size ≤ b28 := Nat.le_trans z23 (Nat.le_of_eq g28.symm)
  refine Goes.via st28 ?_
  show Goes p e below _ (T28.setTop (mkF m 34 #[vr a, vr ow] [(.ref b28), (.ref a)]))
  have f35 := ((((F3_a_ranks.other W5 (Or.inr (slot_ne (Or.inr (own_w hw 78 rfl)) (Or.inr (own_w hw 60 rfl)) (by decide) (t := (.array (.array .long))) (t' := (.object "nearhop/model/Id")) (by decide) (by decide)))).ext E13).other W20 (Or.inr (slot_ne (Or.inr (own_w hw 78 rfl)) (Or.inr (own_w hw 74 rfl)) (by decide) (t := (.array (.array .long))) (t' := (.array (.array (.object "nearhop/model/Id")))) (by decide) (by decide)))).ext E28)
  have f36 := (f29.ext E28)
  obtain ⟨T37, h37, X37, e37, W37, st37⟩ := putF X28 hx hZ hown (host := "") (Or.inl (own_w hw 77 rfl)) Via.refl e28 f35 f36 (Or.inr ⟨(own_w hw 78 rfl), rfl, hnm⟩) (own_w hw 53 rfl) (ty := (.array (.array .long))) (by decide) rfl rfl (g := (mkF m 34 #[vr a, vr ow] [(.ref b28), (.ref a)])) rfl rfl (hb hby d10_34)
  refine Goes.via st37 ?_
  have N37 := Fr.snoc X37 N20 H6
  have Fw37 : Fld Z h37 a "nearhop/model/RoutingTable" "ranks" "[[J" (.ref b28) := f35.same W37
  show Goes p e below _ (T37.setTop (mkF m 37 #[vr a, vr ow] []))
  refine gALN X37 hx hby d10_37 rfl rfl ?_
  refine gALN X37 hx hby d10_38 rfl rfl ?_
  have f38 := ((f21.ext E28).other W37 (Or.inl (Ne.symm ne1)))
  have z40 : h0.size ≤ (h37).size := (Nat.le_trans (Nat.le_trans z23 E28.1) (Nat.le_of_eq W37.size.symm))
  have f41 := ((f24.ext E28).wr W37)
  obtain ⟨cq39, kq39, q39a, q39b, q39c⟩ := isOf hZ e37 f41
  obtain ⟨_, _, ⟨T39, L39, k39, n39⟩, -, X39, ⟨Lc39, hQ39, l39, y39, z39⟩, st39⟩ := X37.virtualBack hx (y := mN_Id_space) (z := mN_Id_space) hown (mvT hZ (own_w hw 61 rfl)) (mvT hZ (own_w hw 62 rfl)) (notFace_of_selects (args := #[]) (mvT hZ (own_w hw 64 rfl))) (mvT hZ (own_w hw 64 rfl)) (mvT hZ (own_w hw 63 rfl)) (by decide) (backOf (W := 1) (rm11 l Z a0 hw [] ow sp h37 n0 (Nat.le_trans Z0 z40) f38) hZ (own_w hw 65 rfl) (own_w hw 25 rfl) (by decide) (by decide)) q39a q39c (g := (mkF m 39 #[vr a, vr ow] [(.ref ow), (.ref a)])) rfl (by rw [hml]; rfl) (Steps.refl _) (argsL := []) (rest := [(.ref a)]) (lenOf pd_8 rfl) rfl (by show 2 * 0 + _ ≤ _; exact Nat.le_of_eq rfl) (hb hby d10_39) (fun _ _ => ⟨rfl, e37, (by decide : 2 + 0 ≤ _), (by decide : 6 + 0 ≤ _)⟩)
  dsimp only [Pt.U, Pt.locs, Pt.cells, Pt.slots] at X39 l39 y39 z39 st39 hQ39
  replace l39 := l39.symm
  subst l39 y39 z39
  obtain ⟨rfl, rfl, e39⟩ := hQ39
  first | rw [List.append_nil] at X39 | skip
  refine Goes.tr st39 ?_
  have e39' : T39.heap = h37 := e39
  show Goes p e below _ (T39.setTop (mkF m 42 #[vr a, vr ow] [(.ref sp), (.ref a)]))
  have f42 := ((f25.ext E28).other W37 (Or.inl (Ne.symm ne2)))
  have f44 := ((f27.ext E28).wr W37)
  obtain ⟨cq43, kq43, q43a, q43b, q43c⟩ := isOf hZ e39' f44
  obtain ⟨_, _, ⟨T43, L43, k43, n43⟩, -, X43, ⟨Lc43, hQ43, l43, y43, z43⟩, st43⟩ := X39.virtualBack hx (y := mN_IdSpace_digits) (z := mN_IdSpace_digits) hown (mvT hZ (own_w hw 66 rfl)) (mvT hZ (own_w hw 67 rfl)) (notFace_of_selects (args := #[]) (mvT hZ (own_w hw 69 rfl))) (mvT hZ (own_w hw 69 rfl)) (mvT hZ (own_w hw 68 rfl)) (by decide) (backOf (W := 1) (rm12 l Z a0 hw [] sp dg h37 n0 (Nat.le_trans Z0 z40) f42) hZ (own_w hw 70 rfl) (own_w hw 2 rfl) (by decide) (by decide)) q43a q43c (g := (mkF m 42 #[vr a, vr ow] [(.ref sp), (.ref a)])) rfl (by rw [hml]; rfl) (Steps.refl _) (argsL := []) (rest := [(.ref a)]) (lenOf pd_2 rfl) rfl (by show 2 * 0 + _ ≤ _; exact Nat.le_of_eq rfl) (hb hby d10_42) (fun _ _ => ⟨rfl, e39', (by decide : 2 + 0 ≤ _), (by decide : 6 + 0 ≤ _)⟩)
  dsimp only [Pt.U, Pt.locs, Pt.cells, Pt.slots] at X43 l43 y43 z43 st43 hQ43
  replace l43 := l43.symm
  subst l43 y43 z43
  obtain ⟨rfl, rfl, e43⟩ := hQ43
  first | rw [List.append_nil] at X43 | skip
  refine Goes.tr st43 ?_
  have e43' : T43.heap = h37 := e43
  show Goes p e below _ (T43.setTop (mkF m 45 #[vr a, vr ow] [(.int dg), (.ref a)]))
  obtain ⟨T45, h45, k45, X45, e45, E45, A45, C45, st45⟩ := own_newPE X43 hx hZ (own_w hw 79 rfl) e43' (g := (mkF m 45 #[vr a, vr ow] [(.int dg), (.ref a)])) rfl (hb hby d10_45) rfl (n := dg) (N := nd) (own_ix Hnd).1 (own_ix Hnd).2 (cap := 3) (by first | decide | omega | (dsimp only; omega)) (by first | decide | omega | (dsimp only; omega)) (by first | decide | omega | (dsimp only; omega)) (by first | decide | omega | (dsimp only; omega)) (ad := "[I") (by decide)
  obtain ⟨b45, g45⟩ : ∃ z, z = (h37).size := ⟨_, rfl⟩
  rw [← g45] at A45 C45 st45
  have f46 := (f36.wr W37)
  have lne47 : a < b45 := Nat.lt_of_lt_of_le f46.lt (Nat.le_of_eq g45.symm)
  have ne47 : a ≠ b45 := Nat.ne_of_lt lne47
  have f50 := ((f33.ext E28).wr W37)
  have f52 := (C28.wr W37)
  have sz_b45 : h0.size ≤ b45 := Nat.le_trans z40 (Nat.le_of_eq g45.symm)
  refine Goes.via st45 ?_
  show Goes p e below _ (T45.setTop (mkF m 47 #[vr a, vr ow] [(.ref b45), (.ref a)]))
  have f54 := ((((((F4_a_filled.other W5 (Or.inr (slot_ne (Or.inr (own_w hw 81 rfl)) (Or.inr (own_w hw 60 rfl)) (by decide) (t := (.array .int)) (t' := (.object "nearhop/model/Id")) (by decide) (by decide)))).ext E13).other W20 (Or.inr (slot_ne (Or.inr (own_w hw 81 rfl)) (Or.inr (own_w hw 74 rfl)) (by decide) (t := (.array .int)) (t' := (.array (.array (.object "nearhop/model/Id")))) (by decide) (by decide)))).ext E28).other W37 (Or.inr (slot_ne (Or.inr (own_w hw 81 rfl)) (Or.inr (own_w hw 78 rfl)) (by decide) (t := (.array .int)) (t' := (.array (.array .long))) (by decide) (by decide)))).ext E45)
  have f55 := (f46.ext E45)
  obtain ⟨T56, h56, X56, e56, W56, st56⟩ := putF X45 hx hZ hown (host := "") (Or.inl (own_w hw 80 rfl)) Via.refl e45 f54 f55 (Or.inr ⟨(own_w hw 81 rfl), rfl, hnm⟩) (own_w hw 53 rfl) (ty := (.array .int)) (by decide) rfl rfl (g := (mkF m 47 #[vr a, vr ow] [(.ref b45), (.ref a)])) rfl rfl (hb hby d10_47)
  refine Goes.via st56 ?_
  have N56 := Fr.snoc X56 N37 H6
  have Fw56 : Fld Z h56 a "nearhop/model/RoutingTable" "filled" "[I" (.ref b45) := f54.same W56
  show Goes p e below _ (T56.setTop (mkF m 50 #[vr a, vr ow] []))
  have K57 : Keep h0 h56 [a] := ((((((((Keep.refl h0 [a]).wr W5 (Or.inl (List.mem_of_getElem? (i := 0) rfl))).ext E13).wr W20 (Or.inl (List.mem_of_getElem? (i := 0) rfl))).ext E28).wr W37 (Or.inl (List.mem_of_getElem? (i := 0) rfl))).ext E45).wr W56 (Or.inl (List.mem_of_getElem? (i := 0) rfl)))
  have f58 := (f55.wr W56)
  have f59 := ((((((Fw5.ext E13).other W20 (Or.inr (slot_ne (Or.inr (own_w hw 60 rfl)) (Or.inr (own_w hw 74 rfl)) (by decide) (t := (.object "nearhop/model/Id")) (t' := (.array (.array (.object "nearhop/model/Id")))) (by decide) (by decide)))).ext E28).other W37 (Or.inr (slot_ne (Or.inr (own_w hw 60 rfl)) (Or.inr (own_w hw 78 rfl)) (by decide) (t := (.object "nearhop/model/Id")) (t' := (.array (.array .long))) (by decide) (by decide)))).ext E45).other W56 (Or.inr (slot_ne (Or.inr (own_w hw 60 rfl)) (Or.inr (own_w hw 81 rfl)) (by decide) (t := (.object "nearhop/model/Id")) (t' := (.array .int)) (by decide) (by decide))))
  have f60 := ((((Fw20.ext E28).other W37 (Or.inr (slot_ne (Or.inr (own_w hw 74 rfl)) (Or.inr (own_w hw 78 rfl)) (by decide) (t := (.array (.array (.object "nearhop/model/Id")))) (t' := (.array (.array .long))) (by decide) (by decide)))).ext E45).other W56 (Or.inr (slot_ne (Or.inr (own_w hw 74 rfl)) (Or.inr (own_w hw 81 rfl)) (by decide) (t := (.array (.array (.object "nearhop/model/Id")))) (t' := (.array .int)) (by decide) (by decide))))
  have f61 := ((Fw37.ext E45).other W56 (Or.inr (slot_ne (Or.inr (own_w hw 78 rfl)) (Or.inr (own_w hw 81 rfl)) (by decide) (t := (.array (.array .long))) (t' := (.array .int)) (by decide) (by decide))))
  have f62 := (((((((F5_a_firstOpen.other W5 (Or.inr (slot_ne (Or.inl (own_w hw 128 rfl)) (Or.inr (own_w hw 60 rfl)) (by decide) (t := .int) (t' := (.object "nearhop/model/Id")) (by decide) (by decide)))).ext E13).other W20 (Or.inr (slot_ne (Or.inl (own_w hw 128 rfl)) (Or.inr (own_w hw 74 rfl)) (by decide) (t := .int) (t' := (.array (.array (.object "nearhop/model/Id")))) (by decide) (by decide)))).ext E28).other W37 (Or.inr (slot_ne (Or.inl (own_w hw 128 rfl)) (Or.inr (own_w hw 78 rfl)) (by decide) (t := .int) (t' := (.array (.array .long))) (by decide) (by decide)))).ext E45).other W56 (Or.inr (slot_ne (Or.inl (own_w hw 128 rfl)) (Or.inr (own_w hw 81 rfl)) (by decide) (t := .int) (t' := (.array .int)) (by decide) (by decide))))
  have f63 := ((f50.ext E45).wr W56)
  have f64 := (((((A13.other W20 (Ne.symm ne15)).ext E28).other W37 (Ne.symm ne15)).ext E45).other W56 (Ne.symm ne15))
  have f65 := ((f52.ext E45).wr W56)
  have f66 := (((A28.other W37 (Ne.symm ne30)).ext E45).other W56 (Ne.symm ne30))
  have f67 := (C45.wr W56)
  have f68 := (A45.other W56 (Ne.symm ne47))
  exact own_finV X56 hx hlk hret (hb hby d10_50) (by rw [e56]; exact ⟨b13, b28, b45, k13, k28, k45, rfl, N56, K57, f58, f59, f60, f61, Fw56, f62, sz_b13, sz_b28, sz_b45, f63, f64, f65, f66, f67, f68, O13, O28⟩) (by first | decide | omega | (dsimp only; omega)) (by first | decide | omega | (dsimp only; omega))
theorem ef_rmTkN (m : MethodId) (a : Addr) (pq : Int32) (cq : Int32) (b : Addr) (rk : Int64) : entryFrame m #[(.ref a), (.int pq), (.int cq), (.ref b), (.long rk)] 9 = mkF m 0 #[.val (.ref a), .val (.int pq), .val (.int cq), .val (.ref b), .val (.long rk), .second, .unset, .unset, .unset] [] := by first | (simp [entryFrame, mkF, argsToLocals, Value.category]; done) | rfl
def QrmTkN (Z : State) (a : Addr) (pq : Int32) (cq : Int32) (b : Addr) (rk : Int64) (rw : Addr) (rl : Addr) (kR : ClassId) (kK : ClassId) (fR : Nat → Value) (fK : Nat → Value) (r1 : Addr) (r2 : Addr) (k1 : ClassId) (k2 : ClassId) (g1 : Nat → Value) (g2 : Nat → Value) (nd : Nat) (bn : Nat) (pn : Nat) (cn : Nat) (hv : Int64) (h0 : Heap) (n0 : Nat) (v_ : Option Value) (h_ : Heap) (L_ : List Loc) : Prop := v_ = some (.int (1 : Int32)) ∧ L_ = [] ∧ h_ = h0
theorem d20_0 : decode prog_120_method_4_code 0 = .ok (.aload_n 0, 1) := by decide +kernel
theorem d20_1 : decode prog_120_method_4_code 1 = .ok (.getfield 27, 3) := by decide +kernel
theorem d20_4 : decode prog_120_method_4_code 4 = .ok (.iload_n 1, 1) := by decide +kernel
theorem d20_5 : decode prog_120_method_4_code 5 = .ok (.aaload, 1) := by decide +kernel
theorem d20_6 : decode prog_120_method_4_code 6 = .ok (.iload_n 2, 1) := by decide +kernel
theorem d20_7 : decode prog_120_method_4_code 7 = .ok (.aaload, 1) := by decide +kernel
theorem d20_8 : decode prog_120_method_4_code 8 = .ok (.astore 6, 2) := by decide +kernel
theorem d20_10 : decode prog_120_method_4_code 10 = .ok (.aload_n 0, 1) := by decide +kernel
theorem d20_11 : decode prog_120_method_4_code 11 = .ok (.getfield 33, 3) := by decide +kernel
theorem d20_14 : decode prog_120_method_4_code 14 = .ok (.iload_n 1, 1) := by decide +kernel
theorem d20_15 : decode prog_120_method_4_code 15 = .ok (.aaload, 1) := by decide +kernel
theorem d20_16 : decode prog_120_method_4_code 16 = .ok (.iload_n 2, 1) := by decide +kernel
theorem d20_17 : decode prog_120_method_4_code 17 = .ok (.laload, 1) := by decide +kernel
theorem d20_18 : decode prog_120_method_4_code 18 = .ok (.lstore 7, 2) := by decide +kernel
theorem d20_20 : decode prog_120_method_4_code 20 = .ok (.aload 6, 2) := by decide +kernel
theorem d20_22 : decode prog_120_method_4_code 22 = .ok (.ifnull 28, 3) := by decide +kernel
theorem d20_50 : decode prog_120_method_4_code 50 = .ok (.iconst 1, 1) := by decide +kernel
theorem d20_51 : decode prog_120_method_4_code 51 = .ok (.goto 4, 3) := by decide +kernel
theorem d20_55 : decode prog_120_method_4_code 55 = .ok (.ireturn, 1) := by decide +kernel
set_option maxRecDepth 65536 in
set_option maxHeartbeats 40000000 in
theorem rmTkN (l : Launch) (Z : State) (a0 : Array Value) (hw : ∀ d ∈ tables_1, d.before a0 Z = true) (ws : List Jvm.Cond) (a : Addr) (pq : Int32) (cq : Int32) (b : Addr) (rk : Int64) (rw : Addr) (rl : Addr) (kR : ClassId) (kK : ClassId) (fR : Nat → Value) (fK : Nat → Value) (r1 : Addr) (r2 : Addr) (k1 : ClassId) (k2 : ClassId) (g1 : Nat → Value) (g2 : Nat → Value) (nd : Nat) (bn : Nat) (pn : Nat) (cn : Nat) (hv : Int64) (h0 : Heap) (n0 : Nat) (Z0 : n0 ≤ h0.size) (F0_a_rows : Fld Z h0 a "nearhop/model/RoutingTable" "rows" "[[Lnearhop/model/Id;" (.ref rw)) (F1_a_ranks : Fld Z h0 a "nearhop/model/RoutingTable" "ranks" "[[J" (.ref rl)) (A2_rw : Arw Z h0 rw kR (.array (.object "nearhop/model/Id")) nd fR) (A3_rl : Arw Z h0 rl kK (.array .long) nd fK) (A4_r1 : Arw Z h0 r1 k1 (.object "nearhop/model/Id") bn g1) (A5_r2 : Arw Z h0 r2 k2 .long bn g2) (HP : pq.toInt = (pn : Int)) (Hpn : pn < nd) (HC : cq.toInt = (cn : Int)) (Hcn : cn < bn) (HfR : fR pn = .ref r1) (HfK : fK pn = .ref r2) (Hhv : g2 cn = .long hv) (Hg1 : g1 cn = .null) :
    MetFree l (⟨"nearhop/model/RoutingTable", "takes", "(IILnearhop/model/Id;J)Z"⟩ : MethodName) (head1 (Jvm.Cond.code (⟨"nearhop/model/RoutingTable", "takes", "(IILnearhop/model/Id;J)Z"⟩ : MethodName) prog_120_method_4_code 9 (some .boolean) :: ws) ({ frames := 0, cells := 0, slots := 0, locals := 0 } : Room)) (fun as_ U_ => as_ = #[(.ref a), (.int pq), (.int cq), (.ref b), (.long rk)] ∧ Z.Warmed39 U_.vm ∧ U_.heap = h0) (fun _ _ _ _ _ => True) (fun _ U_ o_ V_ => ∃ v_ L_, o_ = .returned v_ ∧ QrmTkN Z a pq cq b rk rw rl kR kK fR fK r1 r2 k1 k2 g1 g2 nd bn pn cn hv h0 n0 v_ V_.heap L_ ∧ FrameEnd U_ o_ V_ L_ ({ frames := 0, cells := 0, slots := 0, locals := 0 } : Room).cells ({ frames := 0, cells := 0, slots := 0, locals := 0 } : Room).slots) := by
  refine MetFree.of_bodySF (plainFor_of_name pn_nearhop_model_RoutingTable) hisR ?_
  intro p e s m args below meth c s₁ Bd hml0 hP hK
  obtain ⟨rfl, hZ, hh⟩ := hP
  have hx := Bd.exec
  have hby := Bd.bytes
  have hlk : meth.locks = false := BodyLoose.notSynchronized Bd
  have hret := Bd.returns
  have hml : c.maxLocals = 9 := hml0
  have hown : s.vm.findClass "nearhop/model/RoutingTable" = some m.cls := findClass_of_methodNamed Bd.named
  have hnm := (name_of_methodNamed Bd.named Bd.method).1
  have X0 : Stand p l e ({ frames := 0, cells := 0, slots := 0, locals := 0 } : Room) s m #[(.ref a), (.int pq), (.int cq), (.ref b), (.long rk)] below meth c s₁ [] 0 0 := Stand.of_body Bd
  have e0 : s₁.heap = h0 := by rw [← hh, Bd.state]; rfl
  have N0 := Fr.nil n0
  show Goes p e below (Fin_ s (QrmTkN Z a pq cq b rk rw rl kR kK fR fK r1 r2 k1 k2 g1 g2 nd bn pn cn hv h0 n0) ({ frames := 0, cells := 0, slots := 0, locals := 0 } : Room).cells ({ frames := 0, cells := 0, slots := 0, locals := 0 } : Room).slots) (s₁.setTop (entryFrame m #[(.ref a), (.int pq), (.int cq), (.ref b), (.long rk)] 9))
  rw [ef_rmTkN m a pq cq b rk]
  refine gALN X0 hx hby d20_0 rfl rfl ?_
  obtain ⟨T1, X1, e1, st1⟩ := getF X0 hx hZ hown (host := "") (Or.inl (own_w hw 73 rfl)) Via.refl e0 F0_a_rows (g := (mkF m 1 #[vr a, vi pq, vi cq, vr b, .val (.long rk), .second, .unset, .unset, .unset] [(.ref a)])) rfl rfl (hb hby d20_1)
  refine Goes.via st1 ?_
  show Goes p e below _ (T1.setTop (mkF m 4 #[vr a, vi pq, vi cq, vr b, .val (.long rk), .second, .unset, .unset, .unset] [(.ref rw)]))
  refine gILN X1 hx hby d20_4 rfl ?_
  refine Goes.via (own_aaload X1 hx hZ e1 A2_rw rfl (j := pq) (i := pn) (own_ix HP).1 (own_ix HP).2 Hpn (v := (.ref r1)) HfR (g := (mkF m 5 #[vr a, vi pq, vi cq, vr b, .val (.long rk), .second, .unset, .unset, .unset] [(.int pq), (.ref rw)])) rfl rfl (hb hby d20_5)) ?_
  show Goes p e below _ (T1.setTop (mkF m 6 #[vr a, vi pq, vi cq, vr b, .val (.long rk), .second, .unset, .unset, .unset] [(.ref r1)]))
  refine gILN X1 hx hby d20_6 rfl ?_
  refine Goes.via (own_aaload X1 hx hZ e1 A4_r1 rfl (j := cq) (i := cn) (own_ix HC).1 (own_ix HC).2 Hcn (v := .null) Hg1 (g := (mkF m 7 #[vr a, vi pq, vi cq, vr b, .val (.long rk), .second, .unset, .unset, .unset] [(.int cq), (.ref r1)])) rfl rfl (hb hby d20_7)) ?_
  show Goes p e below _ (T1.setTop (mkF m 8 #[vr a, vi pq, vi cq, vr b, .val (.long rk), .second, .unset, .unset, .unset] [.null]))
  refine Goes.via (fun _ kk_ => XS.astore X1.here hx rfl (hb hby d20_8) rfl rfl (l' := #[vr a, vi pq, vi cq, vr b, .val (.long rk), .second, .val .null, .unset, .unset]) rfl kk_) ?_
  show Goes p e below _ (T1.setTop (mkF m 10 #[vr a, vi pq, vi cq, vr b, .val (.long rk), .second, .val .null, .unset, .unset] []))
  refine gALN X1 hx hby d20_10 rfl rfl ?_
  obtain ⟨T2, X2, e2, st2⟩ := getF X1 hx hZ hown (host := "") (Or.inl (own_w hw 77 rfl)) Via.refl e1 F1_a_ranks (g := (mkF m 11 #[vr a, vi pq, vi cq, vr b, .val (.long rk), .second, .val .null, .unset, .unset] [(.ref a)])) rfl rfl (hb hby d20_11)
  refine Goes.via st2 ?_
  show Goes p e below _ (T2.setTop (mkF m 14 #[vr a, vi pq, vi cq, vr b, .val (.long rk), .second, .val .null, .unset, .unset] [(.ref rl)]))
  refine gILN X2 hx hby d20_14 rfl ?_
  refine Goes.via (own_aaload X2 hx hZ e2 A3_rl rfl (j := pq) (i := pn) (own_ix HP).1 (own_ix HP).2 Hpn (v := (.ref r2)) HfK (g := (mkF m 15 #[vr a, vi pq, vi cq, vr b, .val (.long rk), .second, .val .null, .unset, .unset] [(.int pq), (.ref rl)])) rfl rfl (hb hby d20_15)) ?_
  show Goes p e below _ (T2.setTop (mkF m 16 #[vr a, vi pq, vi cq, vr b, .val (.long rk), .second, .val .null, .unset, .unset] [(.ref r2)]))
  refine gILN X2 hx hby d20_16 rfl ?_
  refine Goes.via (own_laload X2 hx hZ e2 A5_r2 (j := cq) (i := cn) (own_ix HC).1 (own_ix HC).2 Hcn (v := hv) Hhv (g := (mkF m 17 #[vr a, vi pq, vi cq, vr b, .val (.long rk), .second, .val .null, .unset, .unset] [(.int cq), (.ref r2)])) rfl rfl (hb hby d20_17)) ?_
  show Goes p e below _ (T2.setTop (mkF m 18 #[vr a, vi pq, vi cq, vr b, .val (.long rk), .second, .val .null, .unset, .unset] [(.long hv)]))
  refine Goes.via (fun _ kk_ => XS.lstore X2.here hx rfl (hb hby d20_18) rfl (l' := #[vr a, vi pq, vi cq, vr b, .val (.long rk), .second, .val .null, .val (.long hv), .second]) rfl kk_) ?_
  show Goes p e below _ (T2.setTop (mkF m 20 #[vr a, vi pq, vi cq, vr b, .val (.long rk), .second, .val .null, .val (.long hv), .second] []))
  refine gAL X2 hx hby d20_20 rfl rfl ?_
  refine Goes.via (fun _ kk_ => XS.ifnullYes X2.here hx rfl (pc0 := 22) (pc' := 50) rfl (hb hby d20_22) rfl (by decide) (by decide) kk_) ?_
  show Goes p e below _ (T2.setTop (mkF m 50 #[vr a, vi pq, vi cq, vr b, .val (.long rk), .second, .val .null, .val (.long hv), .second] []))
  refine gIC (z := 1) X2 hx hby d20_50 rfl ?_
  refine Goes.via (fun _ kk_ => XS.goto X2.here hx rfl (pc0 := 51) (pc' := 55) rfl (hb hby d20_51) (by decide) (by decide) kk_) ?_
  show Goes p e below _ (T2.setTop (mkF m 55 #[vr a, vi pq, vi cq, vr b, .val (.long rk), .second, .val .null, .val (.long hv), .second] [(.int (1 : Int32))]))
  exact own_finN X2 hx hlk hret (by simp) (hb hby d20_55) (by rw [e2]; exact ⟨rfl, rfl, rfl⟩) (by first | decide | omega | (dsimp only; omega)) (by first | decide | omega | (dsimp only; omega))
def own_tk (r h : Int64) (z : Int32) : Int32 := if r < h then (1 : Int32) else if r = h then (if z < (0 : Int32) then (1 : Int32) else (0 : Int32)) else (0 : Int32)
theorem ef_rmTkH (m : MethodId) (a : Addr) (pq : Int32) (cq : Int32) (b : Addr) (rk : Int64) : entryFrame m #[(.ref a), (.int pq), (.int cq), (.ref b), (.long rk)] 9 = mkF m 0 #[.val (.ref a), .val (.int pq), .val (.int cq), .val (.ref b), .val (.long rk), .second, .unset, .unset, .unset] [] := by first | (simp [entryFrame, mkF, argsToLocals, Value.category]; done) | rfl
def QrmTkH (Z : State) (a : Addr) (pq : Int32) (cq : Int32) (b : Addr) (rk : Int64) (rw : Addr) (rl : Addr) (kR : ClassId) (kK : ClassId) (fR : Nat → Value) (fK : Nat → Value) (r1 : Addr) (r2 : Addr) (k1 : ClassId) (k2 : ClassId) (g1 : Nat → Value) (g2 : Nat → Value) (nd : Nat) (bn : Nat) (pn : Nat) (cn : Nat) (hv : Int64) (hd : Addr) (sp : Addr) (y_ : Int64) (v_1 : Int64) (h0 : Heap) (n0 : Nat) (v_ : Option Value) (h_ : Heap) (L_ : List Loc) : Prop := v_ = some (.int (own_tk rk hv (own_icu (0 : Int64) y_ (0 : Int64) v_1))) ∧ L_ = [] ∧ h_ = h0
theorem d20_25 : decode prog_120_method_4_code 25 = .ok (.lload 4, 2) := by decide +kernel
theorem d20_27 : decode prog_120_method_4_code 27 = .ok (.lload 7, 2) := by decide +kernel
theorem d20_29 : decode prog_120_method_4_code 29 = .ok (.lcmp, 1) := by decide +kernel
theorem d20_30 : decode prog_120_method_4_code 30 = .ok (.ifCond .lt 20, 3) := by decide +kernel
theorem d20_33 : decode prog_120_method_4_code 33 = .ok (.lload 4, 2) := by decide +kernel
theorem d20_35 : decode prog_120_method_4_code 35 = .ok (.lload 7, 2) := by decide +kernel
theorem d20_37 : decode prog_120_method_4_code 37 = .ok (.lcmp, 1) := by decide +kernel
theorem d20_38 : decode prog_120_method_4_code 38 = .ok (.ifCond .ne 16, 3) := by decide +kernel
theorem d20_41 : decode prog_120_method_4_code 41 = .ok (.aload_n 3, 1) := by decide +kernel
theorem d20_42 : decode prog_120_method_4_code 42 = .ok (.aload 6, 2) := by decide +kernel
theorem pd_9 : parseMethodDescriptor "(Lnearhop/model/Id;)I" = some ⟨[(.object "nearhop/model/Id")], some .int⟩ := by decide +kernel
theorem d20_44 : decode prog_120_method_4_code 44 = .ok (.invokevirtual 64, 3) := by decide +kernel
abbrev mN_Id_compareTo : MethodName := ⟨"nearhop/model/Id", "compareTo", "(Lnearhop/model/Id;)I"⟩
theorem d20_47 : decode prog_120_method_4_code 47 = .ok (.ifCond .ge 7, 3) := by decide +kernel
theorem d20_54 : decode prog_120_method_4_code 54 = .ok (.iconst 0, 1) := by decide +kernel
set_option maxRecDepth 65536 in
set_option maxHeartbeats 40000000 in
theorem rmTkH (l : Launch) (Z : State) (a0 : Array Value) (hw : ∀ d ∈ tables_1, d.before a0 Z = true) (ws : List Jvm.Cond) (a : Addr) (pq : Int32) (cq : Int32) (b : Addr) (rk : Int64) (rw : Addr) (rl : Addr) (kR : ClassId) (kK : ClassId) (fR : Nat → Value) (fK : Nat → Value) (r1 : Addr) (r2 : Addr) (k1 : ClassId) (k2 : ClassId) (g1 : Nat → Value) (g2 : Nat → Value) (nd : Nat) (bn : Nat) (pn : Nat) (cn : Nat) (hv : Int64) (hd : Addr) (sp : Addr) (y_ : Int64) (v_1 : Int64) (h0 : Heap) (n0 : Nat) (Z0 : n0 ≤ h0.size) (F0_a_rows : Fld Z h0 a "nearhop/model/RoutingTable" "rows" "[[Lnearhop/model/Id;" (.ref rw)) (F1_a_ranks : Fld Z h0 a "nearhop/model/RoutingTable" "ranks" "[[J" (.ref rl)) (A2_rw : Arw Z h0 rw kR (.array (.object "nearhop/model/Id")) nd fR) (A3_rl : Arw Z h0 rl kK (.array .long) nd fK) (A4_r1 : Arw Z h0 r1 k1 (.object "nearhop/model/Id") bn g1) (A5_r2 : Arw Z h0 r2 k2 .long bn g2) (HP : pq.toInt = (pn : Int)) (Hpn : pn < nd) (HC : cq.toInt = (cn : Int)) (Hcn : cn < bn) (HfR : fR pn = .ref r1) (HfK : fK pn = .ref r2) (Hhv : g2 cn = .long hv) (Hg1 : g1 cn = .ref hd) (E14_b : Exa Z h0 b "nearhop/model/Id") (F15_b_space : Fld Z h0 b "nearhop/model/Id" "space" "Lnearhop/model/IdSpace;" (.ref sp)) (F16_b_high : Fld Z h0 b "nearhop/model/Id" "high" "J" (.long (0 : Int64))) (F17_b_low : Fld Z h0 b "nearhop/model/Id" "low" "J" (.long y_)) (F18_hd_space : Fld Z h0 hd "nearhop/model/Id" "space" "Lnearhop/model/IdSpace;" (.ref sp)) (F19_hd_high : Fld Z h0 hd "nearhop/model/Id" "high" "J" (.long (0 : Int64))) (F20_hd_low : Fld Z h0 hd "nearhop/model/Id" "low" "J" (.long v_1)) :
    MetFree l (⟨"nearhop/model/RoutingTable", "takes", "(IILnearhop/model/Id;J)Z"⟩ : MethodName) (head1 (Jvm.Cond.code (⟨"nearhop/model/RoutingTable", "takes", "(IILnearhop/model/Id;J)Z"⟩ : MethodName) prog_120_method_4_code 9 (some .boolean) :: ws) ({ frames := 4, cells := 0, slots := 0, locals := 63 } : Room)) (fun as_ U_ => as_ = #[(.ref a), (.int pq), (.int cq), (.ref b), (.long rk)] ∧ Z.Warmed39 U_.vm ∧ U_.heap = h0) (fun _ _ _ _ _ => True) (fun _ U_ o_ V_ => ∃ v_ L_, o_ = .returned v_ ∧ QrmTkH Z a pq cq b rk rw rl kR kK fR fK r1 r2 k1 k2 g1 g2 nd bn pn cn hv hd sp y_ v_1 h0 n0 v_ V_.heap L_ ∧ FrameEnd U_ o_ V_ L_ ({ frames := 4, cells := 0, slots := 0, locals := 63 } : Room).cells ({ frames := 4, cells := 0, slots := 0, locals := 63 } : Room).slots) := by
  refine MetFree.of_bodySF (plainFor_of_name pn_nearhop_model_RoutingTable) hisR ?_
  intro p e s m args below meth c s₁ Bd hml0 hP hK
  obtain ⟨rfl, hZ, hh⟩ := hP
  have hx := Bd.exec
  have hby := Bd.bytes
  have hlk : meth.locks = false := BodyLoose.notSynchronized Bd
  have hret := Bd.returns
  have hml : c.maxLocals = 9 := hml0
  have hown : s.vm.findClass "nearhop/model/RoutingTable" = some m.cls := findClass_of_methodNamed Bd.named
  have hnm := (name_of_methodNamed Bd.named Bd.method).1
  have X0 : Stand p l e ({ frames := 4, cells := 0, slots := 0, locals := 63 } : Room) s m #[(.ref a), (.int pq), (.int cq), (.ref b), (.long rk)] below meth c s₁ [] 0 0 := Stand.of_body Bd
  have e0 : s₁.heap = h0 := by rw [← hh, Bd.state]; rfl
  have N0 := Fr.nil n0
  show Goes p e below (Fin_ s (QrmTkH Z a pq cq b rk rw rl kR kK fR fK r1 r2 k1 k2 g1 g2 nd bn pn cn hv hd sp y_ v_1 h0 n0) ({ frames := 4, cells := 0, slots := 0, locals := 63 } : Room).cells ({ frames := 4, cells := 0, slots := 0, locals := 63 } : Room).slots) (s₁.setTop (entryFrame m #[(.ref a), (.int pq), (.int cq), (.ref b), (.long rk)] 9))
  rw [ef_rmTkH m a pq cq b rk]
  refine gALN X0 hx hby d20_0 rfl rfl ?_
  obtain ⟨T5, X5, e5, st5⟩ := getF X0 hx hZ hown (host := "") (Or.inl (own_w hw 73 rfl)) Via.refl e0 F0_a_rows (g := (mkF m 1 #[vr a, vi pq, vi cq, vr b, .val (.long rk), .second, .unset, .unset, .unset] [(.ref a)])) rfl rfl (hb hby d20_1)
  refine Goes.via st5 ?_
  show Goes p e below _ (T5.setTop (mkF m 4 #[vr a, vi pq, vi cq, vr b, .val (.long rk), .second, .unset, .unset, .unset] [(.ref rw)]))
  refine gILN X5 hx hby d20_4 rfl ?_
  refine Goes.via (own_aaload X5 hx hZ e5 A2_rw rfl (j := pq) (i := pn) (own_ix HP).1 (own_ix HP).2 Hpn (v := (.ref r1)) HfR (g := (mkF m 5 #[vr a, vi pq, vi cq, vr b, .val (.long rk), .second, .unset, .unset, .unset] [(.int pq), (.ref rw)])) rfl rfl (hb hby d20_5)) ?_
  show Goes p e below _ (T5.setTop (mkF m 6 #[vr a, vi pq, vi cq, vr b, .val (.long rk), .second, .unset, .unset, .unset] [(.ref r1)]))
  refine gILN X5 hx hby d20_6 rfl ?_
  refine Goes.via (own_aaload X5 hx hZ e5 A4_r1 rfl (j := cq) (i := cn) (own_ix HC).1 (own_ix HC).2 Hcn (v := (.ref hd)) Hg1 (g := (mkF m 7 #[vr a, vi pq, vi cq, vr b, .val (.long rk), .second, .unset, .unset, .unset] [(.int cq), (.ref r1)])) rfl rfl (hb hby d20_7)) ?_
  show Goes p e below _ (T5.setTop (mkF m 8 #[vr a, vi pq, vi cq, vr b, .val (.long rk), .second, .unset, .unset, .unset] [(.ref hd)]))
  refine Goes.via (fun _ kk_ => XS.astore X5.here hx rfl (hb hby d20_8) rfl rfl (l' := #[vr a, vi pq, vi cq, vr b, .val (.long rk), .second, vr hd, .unset, .unset]) rfl kk_) ?_
  show Goes p e below _ (T5.setTop (mkF m 10 #[vr a, vi pq, vi cq, vr b, .val (.long rk), .second, vr hd, .unset, .unset] []))
  refine gALN X5 hx hby d20_10 rfl rfl ?_
  obtain ⟨T6, X6, e6, st6⟩ := getF X5 hx hZ hown (host := "") (Or.inl (own_w hw 77 rfl)) Via.refl e5 F1_a_ranks (g := (mkF m 11 #[vr a, vi pq, vi cq, vr b, .val (.long rk), .second, vr hd, .unset, .unset] [(.ref a)])) rfl rfl (hb hby d20_11)
  refine Goes.via st6 ?_
  show Goes p e below _ (T6.setTop (mkF m 14 #[vr a, vi pq, vi cq, vr b, .val (.long rk), .second, vr hd, .unset, .unset] [(.ref rl)]))
  refine gILN X6 hx hby d20_14 rfl ?_
  refine Goes.via (own_aaload X6 hx hZ e6 A3_rl rfl (j := pq) (i := pn) (own_ix HP).1 (own_ix HP).2 Hpn (v := (.ref r2)) HfK (g := (mkF m 15 #[vr a, vi pq, vi cq, vr b, .val (.long rk), .second, vr hd, .unset, .unset] [(.int pq), (.ref rl)])) rfl rfl (hb hby d20_15)) ?_
  show Goes p e below _ (T6.setTop (mkF m 16 #[vr a, vi pq, vi cq, vr b, .val (.long rk), .second, vr hd, .unset, .unset] [(.ref r2)]))
  refine gILN X6 hx hby d20_16 rfl ?_
  refine Goes.via (own_laload X6 hx hZ e6 A5_r2 (j := cq) (i := cn) (own_ix HC).1 (own_ix HC).2 Hcn (v := hv) Hhv (g := (mkF m 17 #[vr a, vi pq, vi cq, vr b, .val (.long rk), .second, vr hd, .unset, .unset] [(.int cq), (.ref r2)])) rfl rfl (hb hby d20_17)) ?_
  show Goes p e below _ (T6.setTop (mkF m 18 #[vr a, vi pq, vi cq, vr b, .val (.long rk), .second, vr hd, .unset, .unset] [(.long hv)]))
  refine Goes.via (fun _ kk_ => XS.lstore X6.here hx rfl (hb hby d20_18) rfl (l' := #[vr a, vi pq, vi cq, vr b, .val (.long rk), .second, vr hd, .val (.long hv), .second]) rfl kk_) ?_
  show Goes p e below _ (T6.setTop (mkF m 20 #[vr a, vi pq, vi cq, vr b, .val (.long rk), .second, vr hd, .val (.long hv), .second] []))
  refine gAL X6 hx hby d20_20 rfl rfl ?_
  refine Goes.via (fun _ kk_ => XS.ifnullNo X6.here hx rfl (hb hby d20_22) rfl kk_) ?_
  show Goes p e below _ (T6.setTop (mkF m 25 #[vr a, vi pq, vi cq, vr b, .val (.long rk), .second, vr hd, .val (.long hv), .second] []))
  refine Goes.via (fun _ kk_ => XS.lload X6.here hx rfl (hb hby d20_25) rfl  kk_) ?_
  show Goes p e below _ (T6.setTop (mkF m 27 #[vr a, vi pq, vi cq, vr b, .val (.long rk), .second, vr hd, .val (.long hv), .second] [(.long rk)]))
  refine Goes.via (fun _ kk_ => XS.lload X6.here hx rfl (hb hby d20_27) rfl  kk_) ?_
  show Goes p e below _ (T6.setTop (mkF m 29 #[vr a, vi pq, vi cq, vr b, .val (.long rk), .second, vr hd, .val (.long hv), .second] [(.long hv), (.long rk)]))
  refine Goes.via (fun _ kk_ => XS.lcmp X6.here hx rfl (hb hby d20_29) rfl kk_) ?_
  show Goes p e below _ (T6.setTop (mkF m 30 #[vr a, vi pq, vi cq, vr b, .val (.long rk), .second, vr hd, .val (.long hv), .second] [(.int (lcmpW rk hv))]))
  by_cases hc30 : rk < hv
  · skip
    refine Goes.via (fun _ kk_ => XS.ifYes X6.here hx rfl (pc0 := 30) (pc' := 50) rfl (hb hby d20_30) rfl ((if0 _ _).trans (tlt ((lw_lt rk hv).mpr hc30)).1) (by decide) (by decide) kk_) ?_
    show Goes p e below _ (T6.setTop (mkF m 50 #[vr a, vi pq, vi cq, vr b, .val (.long rk), .second, vr hd, .val (.long hv), .second] []))
    refine gIC (z := 1) X6 hx hby d20_50 rfl ?_
    refine Goes.via (fun _ kk_ => XS.goto X6.here hx rfl (pc0 := 51) (pc' := 55) rfl (hb hby d20_51) (by decide) (by decide) kk_) ?_
    show Goes p e below _ (T6.setTop (mkF m 55 #[vr a, vi pq, vi cq, vr b, .val (.long rk), .second, vr hd, .val (.long hv), .second] [(.int (1 : Int32))]))
    exact own_finN X6 hx hlk hret (by simp) (hb hby d20_55) (by rw [e6]; exact ⟨(own_ret (by unfold own_tk; rw [if_pos hc30]; rfl)), rfl, rfl⟩) (by first | decide | omega | (dsimp only; omega)) (by first | decide | omega | (dsimp only; omega))
  · skip
    refine Goes.via (fun _ kk_ => XS.ifNo X6.here hx rfl (hb hby d20_30) rfl ((if0 _ _).trans (flt (fun q => hc30 ((lw_lt rk hv).mp q))).1) kk_) ?_
    show Goes p e below _ (T6.setTop (mkF m 33 #[vr a, vi pq, vi cq, vr b, .val (.long rk), .second, vr hd, .val (.long hv), .second] []))
    refine Goes.via (fun _ kk_ => XS.lload X6.here hx rfl (hb hby d20_33) rfl  kk_) ?_
    show Goes p e below _ (T6.setTop (mkF m 35 #[vr a, vi pq, vi cq, vr b, .val (.long rk), .second, vr hd, .val (.long hv), .second] [(.long rk)]))
    refine Goes.via (fun _ kk_ => XS.lload X6.here hx rfl (hb hby d20_35) rfl  kk_) ?_
    show Goes p e below _ (T6.setTop (mkF m 37 #[vr a, vi pq, vi cq, vr b, .val (.long rk), .second, vr hd, .val (.long hv), .second] [(.long hv), (.long rk)]))
    refine Goes.via (fun _ kk_ => XS.lcmp X6.here hx rfl (hb hby d20_37) rfl kk_) ?_
    show Goes p e below _ (T6.setTop (mkF m 38 #[vr a, vi pq, vi cq, vr b, .val (.long rk), .second, vr hd, .val (.long hv), .second] [(.int (lcmpW rk hv))]))
    by_cases hc38 : rk = hv
    · skip
      refine Goes.via (fun _ kk_ => XS.ifNo X6.here hx rfl (hb hby d20_38) rfl ((if0 _ _).trans (teq ((lw_eq rk hv).mpr hc38)).2) kk_) ?_
      show Goes p e below _ (T6.setTop (mkF m 41 #[vr a, vi pq, vi cq, vr b, .val (.long rk), .second, vr hd, .val (.long hv), .second] []))
      refine gALN X6 hx hby d20_41 rfl rfl ?_
      refine gAL X6 hx hby d20_42 rfl rfl ?_
      obtain ⟨cq7, kq7, q7a, q7b, q7c⟩ := isOf hZ e6 E14_b
      obtain ⟨_, _, ⟨T7, L7, k7, n7⟩, -, X7, ⟨Lc7, hQ7, l7, y7, z7⟩, st7⟩ := X6.virtualBack hx (y := mN_Id_compareTo) (z := mN_Id_compareTo) hown (mvT hZ (own_w hw 145 rfl)) (mvT hZ (own_w hw 146 rfl)) (notFace_of_selects (args := #[]) (mvT hZ (own_w hw 148 rfl))) (mvT hZ (own_w hw 148 rfl)) (mvT hZ (own_w hw 147 rfl)) (by decide) (backOf (W := 0) (rmCt l Z a0 hw [] b hd sp y_ v_1 h0 n0 (Nat.le_trans Z0 (Nat.le_refl _)) F15_b_space F16_b_high F17_b_low F18_hd_space F19_hd_high F20_hd_low) hZ (own_w hw 149 rfl) (own_w hw 25 rfl) (by decide) (by decide)) q7a q7c (g := (mkF m 44 #[vr a, vi pq, vi cq, vr b, .val (.long rk), .second, vr hd, .val (.long hv), .second] [(.ref hd), (.ref b)])) rfl (by rw [hml]; rfl) (Steps.refl _) (argsL := [(.ref hd)]) (rest := []) (lenOf pd_9 rfl) rfl (by show 2 * 0 + _ ≤ _; exact Nat.le_of_eq rfl) (hb hby d20_44) (fun _ _ => ⟨rfl, e6, (by decide : 0 + 0 ≤ _), (by decide : 0 + 0 ≤ _)⟩)
      dsimp only [Pt.U, Pt.locs, Pt.cells, Pt.slots] at X7 l7 y7 z7 st7 hQ7
      replace l7 := l7.symm
      subst l7 y7 z7
      obtain ⟨rfl, rfl, e7⟩ := hQ7
      first | rw [List.append_nil] at X7 | skip
      refine Goes.tr st7 ?_
      have e7' : T7.heap = h0 := e7
      show Goes p e below _ (T7.setTop (mkF m 47 #[vr a, vi pq, vi cq, vr b, .val (.long rk), .second, vr hd, .val (.long hv), .second] [(.int (own_icu (0 : Int64) y_ (0 : Int64) v_1))]))
      by_cases hc47 : (own_icu (0 : Int64) y_ (0 : Int64) v_1) < (0 : Int32)
      · skip
        refine Goes.via (fun _ kk_ => XS.ifNo X7.here hx rfl (hb hby d20_47) rfl ((if0 _ _).trans (tlt hc47).2.1) kk_) ?_
        show Goes p e below _ (T7.setTop (mkF m 50 #[vr a, vi pq, vi cq, vr b, .val (.long rk), .second, vr hd, .val (.long hv), .second] []))
        refine gIC (z := 1) X7 hx hby d20_50 rfl ?_
        refine Goes.via (fun _ kk_ => XS.goto X7.here hx rfl (pc0 := 51) (pc' := 55) rfl (hb hby d20_51) (by decide) (by decide) kk_) ?_
        show Goes p e below _ (T7.setTop (mkF m 55 #[vr a, vi pq, vi cq, vr b, .val (.long rk), .second, vr hd, .val (.long hv), .second] [(.int (1 : Int32))]))
        exact own_finN X7 hx hlk hret (by simp) (hb hby d20_55) (by rw [e7']; exact ⟨(own_ret (by unfold own_tk; rw [if_neg hc30, if_pos hc38, if_pos hc47]; rfl)), rfl, rfl⟩) (by first | decide | omega | (dsimp only; omega)) (by first | decide | omega | (dsimp only; omega))
      · skip
        refine Goes.via (fun _ kk_ => XS.ifYes X7.here hx rfl (pc0 := 47) (pc' := 54) rfl (hb hby d20_47) rfl ((if0 _ _).trans (flt hc47).2.1) (by decide) (by decide) kk_) ?_
        show Goes p e below _ (T7.setTop (mkF m 54 #[vr a, vi pq, vi cq, vr b, .val (.long rk), .second, vr hd, .val (.long hv), .second] []))
        refine gIC (z := 0) X7 hx hby d20_54 rfl ?_
        exact own_finN X7 hx hlk hret (by simp) (hb hby d20_55) (by rw [e7']; exact ⟨(own_ret (by unfold own_tk; rw [if_neg hc30, if_pos hc38, if_neg hc47]; rfl)), rfl, rfl⟩) (by first | decide | omega | (dsimp only; omega)) (by first | decide | omega | (dsimp only; omega))
    · skip
      refine Goes.via (fun _ kk_ => XS.ifYes X6.here hx rfl (pc0 := 38) (pc' := 54) rfl (hb hby d20_38) rfl ((if0 _ _).trans (feq (fun q => hc38 ((lw_eq rk hv).mp q))).2) (by decide) (by decide) kk_) ?_
      show Goes p e below _ (T6.setTop (mkF m 54 #[vr a, vi pq, vi cq, vr b, .val (.long rk), .second, vr hd, .val (.long hv), .second] []))
      refine gIC (z := 0) X6 hx hby d20_54 rfl ?_
      exact own_finN X6 hx hlk hret (by simp) (hb hby d20_55) (by rw [e6]; exact ⟨(own_ret (by unfold own_tk; rw [if_neg hc30, if_neg hc38]; rfl)), rfl, rfl⟩) (by first | decide | omega | (dsimp only; omega)) (by first | decide | omega | (dsimp only; omega))
theorem ef_rmG0 (m : MethodId) (a : Addr) (pq : Int32) (cq : Int32) : entryFrame m #[(.ref a), (.int pq), (.int cq)] 3 = mkF m 0 #[.val (.ref a), .val (.int pq), .val (.int cq)] [] := by first | (simp [entryFrame, mkF, argsToLocals, Value.category]; done) | rfl
def QrmG0 (Z : State) (a : Addr) (pq : Int32) (cq : Int32) (rw : Addr) (kR : ClassId) (fR : Nat → Value) (nd : Nat) (pn : Nat) (h0 : Heap) (n0 : Nat) (v_ : Option Value) (h_ : Heap) (L_ : List Loc) : Prop := v_ = some .null ∧ L_ = [] ∧ h_ = h0
theorem d21_0 : decode prog_120_method_8_code 0 = .ok (.aload_n 0, 1) := by decide +kernel
theorem d21_1 : decode prog_120_method_8_code 1 = .ok (.getfield 27, 3) := by decide +kernel
theorem d21_4 : decode prog_120_method_8_code 4 = .ok (.iload_n 1, 1) := by decide +kernel
theorem d21_5 : decode prog_120_method_8_code 5 = .ok (.aaload, 1) := by decide +kernel
theorem d21_6 : decode prog_120_method_8_code 6 = .ok (.ifnonnull 7, 3) := by decide +kernel
theorem d21_9 : decode prog_120_method_8_code 9 = .ok (.aconst_null, 1) := by decide +kernel
theorem d21_10 : decode prog_120_method_8_code 10 = .ok (.goto 11, 3) := by decide +kernel
theorem d21_21 : decode prog_120_method_8_code 21 = .ok (.areturn, 1) := by decide +kernel
set_option maxRecDepth 65536 in
set_option maxHeartbeats 40000000 in
theorem rmG0 (l : Launch) (Z : State) (a0 : Array Value) (hw : ∀ d ∈ tables_1, d.before a0 Z = true) (ws : List Jvm.Cond) (a : Addr) (pq : Int32) (cq : Int32) (rw : Addr) (kR : ClassId) (fR : Nat → Value) (nd : Nat) (pn : Nat) (h0 : Heap) (n0 : Nat) (Z0 : n0 ≤ h0.size) (F0_a_rows : Fld Z h0 a "nearhop/model/RoutingTable" "rows" "[[Lnearhop/model/Id;" (.ref rw)) (A1_rw : Arw Z h0 rw kR (.array (.object "nearhop/model/Id")) nd fR) (HP : pq.toInt = (pn : Int)) (Hpn : pn < nd) (HfR : fR pn = .null) :
    MetFree l (⟨"nearhop/model/RoutingTable", "get", "(II)Lnearhop/model/Id;"⟩ : MethodName) (head1 (Jvm.Cond.code (⟨"nearhop/model/RoutingTable", "get", "(II)Lnearhop/model/Id;"⟩ : MethodName) prog_120_method_8_code 3 (some (.object "nearhop/model/Id")) :: ws) ({ frames := 0, cells := 0, slots := 0, locals := 0 } : Room)) (fun as_ U_ => as_ = #[(.ref a), (.int pq), (.int cq)] ∧ Z.Warmed39 U_.vm ∧ U_.heap = h0) (fun _ _ _ _ _ => True) (fun _ U_ o_ V_ => ∃ v_ L_, o_ = .returned v_ ∧ QrmG0 Z a pq cq rw kR fR nd pn h0 n0 v_ V_.heap L_ ∧ FrameEnd U_ o_ V_ L_ ({ frames := 0, cells := 0, slots := 0, locals := 0 } : Room).cells ({ frames := 0, cells := 0, slots := 0, locals := 0 } : Room).slots) := by
  refine MetFree.of_bodySF (plainFor_of_name pn_nearhop_model_RoutingTable) hisR ?_
  intro p e s m args below meth c s₁ Bd hml0 hP hK
  obtain ⟨rfl, hZ, hh⟩ := hP
  have hx := Bd.exec
  have hby := Bd.bytes
  have hlk : meth.locks = false := BodyLoose.notSynchronized Bd
  have hret := Bd.returns
  have hml : c.maxLocals = 3 := hml0
  have hown : s.vm.findClass "nearhop/model/RoutingTable" = some m.cls := findClass_of_methodNamed Bd.named
  have hnm := (name_of_methodNamed Bd.named Bd.method).1
  have X0 : Stand p l e ({ frames := 0, cells := 0, slots := 0, locals := 0 } : Room) s m #[(.ref a), (.int pq), (.int cq)] below meth c s₁ [] 0 0 := Stand.of_body Bd
  have e0 : s₁.heap = h0 := by rw [← hh, Bd.state]; rfl
  have N0 := Fr.nil n0
  show Goes p e below (Fin_ s (QrmG0 Z a pq cq rw kR fR nd pn h0 n0) ({ frames := 0, cells := 0, slots := 0, locals := 0 } : Room).cells ({ frames := 0, cells := 0, slots := 0, locals := 0 } : Room).slots) (s₁.setTop (entryFrame m #[(.ref a), (.int pq), (.int cq)] 3))
  rw [ef_rmG0 m a pq cq]
  refine gALN X0 hx hby d21_0 rfl rfl ?_
  obtain ⟨T1, X1, e1, st1⟩ := getF X0 hx hZ hown (host := "") (Or.inl (own_w hw 73 rfl)) Via.refl e0 F0_a_rows (g := (mkF m 1 #[vr a, vi pq, vi cq] [(.ref a)])) rfl rfl (hb hby d21_1)
  refine Goes.via st1 ?_
  show Goes p e below _ (T1.setTop (mkF m 4 #[vr a, vi pq, vi cq] [(.ref rw)]))
  refine gILN X1 hx hby d21_4 rfl ?_
  refine Goes.via (own_aaload X1 hx hZ e1 A1_rw rfl (j := pq) (i := pn) (own_ix HP).1 (own_ix HP).2 Hpn (v := .null) HfR (g := (mkF m 5 #[vr a, vi pq, vi cq] [(.int pq), (.ref rw)])) rfl rfl (hb hby d21_5)) ?_
  show Goes p e below _ (T1.setTop (mkF m 6 #[vr a, vi pq, vi cq] [.null]))
  refine Goes.via (fun _ kk_ => XS.ifnonnullNo X1.here hx rfl (hb hby d21_6) rfl kk_) ?_
  show Goes p e below _ (T1.setTop (mkF m 9 #[vr a, vi pq, vi cq] []))
  refine Goes.via (fun _ kk_ => XS.aconstNull X1.here hx rfl (hb hby d21_9) kk_) ?_
  show Goes p e below _ (T1.setTop (mkF m 10 #[vr a, vi pq, vi cq] [.null]))
  refine Goes.via (fun _ kk_ => XS.goto X1.here hx rfl (pc0 := 10) (pc' := 21) rfl (hb hby d21_10) (by decide) (by decide) kk_) ?_
  show Goes p e below _ (T1.setTop (mkF m 21 #[vr a, vi pq, vi cq] [.null]))
  exact own_finR X1 hx hlk hret rfl rfl rfl (hb hby d21_21) (by rw [e1]; exact ⟨rfl, rfl, rfl⟩) (by first | decide | omega | (dsimp only; omega)) (by first | decide | omega | (dsimp only; omega))
theorem ef_rmGN (m : MethodId) (a : Addr) (pq : Int32) (cq : Int32) : entryFrame m #[(.ref a), (.int pq), (.int cq)] 3 = mkF m 0 #[.val (.ref a), .val (.int pq), .val (.int cq)] [] := by first | (simp [entryFrame, mkF, argsToLocals, Value.category]; done) | rfl
def QrmGN (Z : State) (a : Addr) (pq : Int32) (cq : Int32) (rw : Addr) (kR : ClassId) (fR : Nat → Value) (nd : Nat) (pn : Nat) (r1 : Addr) (k1 : ClassId) (g1 : Nat → Value) (bn : Nat) (cn : Nat) (h0 : Heap) (n0 : Nat) (v_ : Option Value) (h_ : Heap) (L_ : List Loc) : Prop := v_ = some .null ∧ L_ = [] ∧ h_ = h0
theorem d21_13 : decode prog_120_method_8_code 13 = .ok (.aload_n 0, 1) := by decide +kernel
theorem d21_14 : decode prog_120_method_8_code 14 = .ok (.getfield 27, 3) := by decide +kernel
theorem d21_17 : decode prog_120_method_8_code 17 = .ok (.iload_n 1, 1) := by decide +kernel
theorem d21_18 : decode prog_120_method_8_code 18 = .ok (.aaload, 1) := by decide +kernel
theorem d21_19 : decode prog_120_method_8_code 19 = .ok (.iload_n 2, 1) := by decide +kernel
theorem d21_20 : decode prog_120_method_8_code 20 = .ok (.aaload, 1) := by decide +kernel
set_option maxRecDepth 65536 in
set_option maxHeartbeats 40000000 in
theorem rmGN (l : Launch) (Z : State) (a0 : Array Value) (hw : ∀ d ∈ tables_1, d.before a0 Z = true) (ws : List Jvm.Cond) (a : Addr) (pq : Int32) (cq : Int32) (rw : Addr) (kR : ClassId) (fR : Nat → Value) (nd : Nat) (pn : Nat) (r1 : Addr) (k1 : ClassId) (g1 : Nat → Value) (bn : Nat) (cn : Nat) (h0 : Heap) (n0 : Nat) (Z0 : n0 ≤ h0.size) (F0_a_rows : Fld Z h0 a "nearhop/model/RoutingTable" "rows" "[[Lnearhop/model/Id;" (.ref rw)) (A1_rw : Arw Z h0 rw kR (.array (.object "nearhop/model/Id")) nd fR) (HP : pq.toInt = (pn : Int)) (Hpn : pn < nd) (HfR : fR pn = .ref r1) (A5_r1 : Arw Z h0 r1 k1 (.object "nearhop/model/Id") bn g1) (HC : cq.toInt = (cn : Int)) (Hcn : cn < bn) (Hg1 : g1 cn = .null) :
    MetFree l (⟨"nearhop/model/RoutingTable", "get", "(II)Lnearhop/model/Id;"⟩ : MethodName) (head1 (Jvm.Cond.code (⟨"nearhop/model/RoutingTable", "get", "(II)Lnearhop/model/Id;"⟩ : MethodName) prog_120_method_8_code 3 (some (.object "nearhop/model/Id")) :: ws) ({ frames := 0, cells := 0, slots := 0, locals := 0 } : Room)) (fun as_ U_ => as_ = #[(.ref a), (.int pq), (.int cq)] ∧ Z.Warmed39 U_.vm ∧ U_.heap = h0) (fun _ _ _ _ _ => True) (fun _ U_ o_ V_ => ∃ v_ L_, o_ = .returned v_ ∧ QrmGN Z a pq cq rw kR fR nd pn r1 k1 g1 bn cn h0 n0 v_ V_.heap L_ ∧ FrameEnd U_ o_ V_ L_ ({ frames := 0, cells := 0, slots := 0, locals := 0 } : Room).cells ({ frames := 0, cells := 0, slots := 0, locals := 0 } : Room).slots) := by
  refine MetFree.of_bodySF (plainFor_of_name pn_nearhop_model_RoutingTable) hisR ?_
  intro p e s m args below meth c s₁ Bd hml0 hP hK
  obtain ⟨rfl, hZ, hh⟩ := hP
  have hx := Bd.exec
  have hby := Bd.bytes
  have hlk : meth.locks = false := BodyLoose.notSynchronized Bd
  have hret := Bd.returns
  have hml : c.maxLocals = 3 := hml0
  have hown : s.vm.findClass "nearhop/model/RoutingTable" = some m.cls := findClass_of_methodNamed Bd.named
  have hnm := (name_of_methodNamed Bd.named Bd.method).1
  have X0 : Stand p l e ({ frames := 0, cells := 0, slots := 0, locals := 0 } : Room) s m #[(.ref a), (.int pq), (.int cq)] below meth c s₁ [] 0 0 := Stand.of_body Bd
  have e0 : s₁.heap = h0 := by rw [← hh, Bd.state]; rfl
  have N0 := Fr.nil n0
  show Goes p e below (Fin_ s (QrmGN Z a pq cq rw kR fR nd pn r1 k1 g1 bn cn h0 n0) ({ frames := 0, cells := 0, slots := 0, locals := 0 } : Room).cells ({ frames := 0, cells := 0, slots := 0, locals := 0 } : Room).slots) (s₁.setTop (entryFrame m #[(.ref a), (.int pq), (.int cq)] 3))
  rw [ef_rmGN m a pq cq]
  refine gALN X0 hx hby d21_0 rfl rfl ?_
  obtain ⟨T1, X1, e1, st1⟩ := getF X0 hx hZ hown (host := "") (Or.inl (own_w hw 73 rfl)) Via.refl e0 F0_a_rows (g := (mkF m 1 #[vr a, vi pq, vi cq] [(.ref a)])) rfl rfl (hb hby d21_1)
  refine Goes.via st1 ?_
  show Goes p e below _ (T1.setTop (mkF m 4 #[vr a, vi pq, vi cq] [(.ref rw)]))
  refine gILN X1 hx hby d21_4 rfl ?_
  refine Goes.via (own_aaload X1 hx hZ e1 A1_rw rfl (j := pq) (i := pn) (own_ix HP).1 (own_ix HP).2 Hpn (v := (.ref r1)) HfR (g := (mkF m 5 #[vr a, vi pq, vi cq] [(.int pq), (.ref rw)])) rfl rfl (hb hby d21_5)) ?_
  show Goes p e below _ (T1.setTop (mkF m 6 #[vr a, vi pq, vi cq] [(.ref r1)]))
  refine Goes.via (fun _ kk_ => XS.ifnonnullYes X1.here hx rfl (pc0 := 6) (pc' := 13) rfl (hb hby d21_6) rfl (by decide) (by decide) kk_) ?_
  show Goes p e below _ (T1.setTop (mkF m 13 #[vr a, vi pq, vi cq] []))
  refine gALN X1 hx hby d21_13 rfl rfl ?_
  obtain ⟨T2, X2, e2, st2⟩ := getF X1 hx hZ hown (host := "") (Or.inl (own_w hw 73 rfl)) Via.refl e1 F0_a_rows (g := (mkF m 14 #[vr a, vi pq, vi cq] [(.ref a)])) rfl rfl (hb hby d21_14)
  refine Goes.via st2 ?_
  show Goes p e below _ (T2.setTop (mkF m 17 #[vr a, vi pq, vi cq] [(.ref rw)]))
  refine gILN X2 hx hby d21_17 rfl ?_
  refine Goes.via (own_aaload X2 hx hZ e2 A1_rw rfl (j := pq) (i := pn) (own_ix HP).1 (own_ix HP).2 Hpn (v := (.ref r1)) HfR (g := (mkF m 18 #[vr a, vi pq, vi cq] [(.int pq), (.ref rw)])) rfl rfl (hb hby d21_18)) ?_
  show Goes p e below _ (T2.setTop (mkF m 19 #[vr a, vi pq, vi cq] [(.ref r1)]))
  refine gILN X2 hx hby d21_19 rfl ?_
  refine Goes.via (own_aaload X2 hx hZ e2 A5_r1 rfl (j := cq) (i := cn) (own_ix HC).1 (own_ix HC).2 Hcn (v := .null) Hg1 (g := (mkF m 20 #[vr a, vi pq, vi cq] [(.int cq), (.ref r1)])) rfl rfl (hb hby d21_20)) ?_
  show Goes p e below _ (T2.setTop (mkF m 21 #[vr a, vi pq, vi cq] [.null]))
  exact own_finR X2 hx hlk hret rfl rfl rfl (hb hby d21_21) (by rw [e2]; exact ⟨rfl, rfl, rfl⟩) (by first | decide | omega | (dsimp only; omega)) (by first | decide | omega | (dsimp only; omega))
theorem ef_rmGR (m : MethodId) (a : Addr) (pq : Int32) (cq : Int32) : entryFrame m #[(.ref a), (.int pq), (.int cq)] 3 = mkF m 0 #[.val (.ref a), .val (.int pq), .val (.int cq)] [] := by first | (simp [entryFrame, mkF, argsToLocals, Value.category]; done) | rfl
def QrmGR (Z : State) (a : Addr) (pq : Int32) (cq : Int32) (rw : Addr) (kR : ClassId) (fR : Nat → Value) (nd : Nat) (pn : Nat) (r1 : Addr) (k1 : ClassId) (g1 : Nat → Value) (bn : Nat) (cn : Nat) (y : Addr) (h0 : Heap) (n0 : Nat) (v_ : Option Value) (h_ : Heap) (L_ : List Loc) : Prop := v_ = some (.ref y) ∧ L_ = [] ∧ h_ = h0
set_option maxRecDepth 65536 in
set_option maxHeartbeats 40000000 in
theorem rmGR (l : Launch) (Z : State) (a0 : Array Value) (hw : ∀ d ∈ tables_1, d.before a0 Z = true) (ws : List Jvm.Cond) (a : Addr) (pq : Int32) (cq : Int32) (rw : Addr) (kR : ClassId) (fR : Nat → Value) (nd : Nat) (pn : Nat) (r1 : Addr) (k1 : ClassId) (g1 : Nat → Value) (bn : Nat) (cn : Nat) (y : Addr) (h0 : Heap) (n0 : Nat) (Z0 : n0 ≤ h0.size) (F0_a_rows : Fld Z h0 a "nearhop/model/RoutingTable" "rows" "[[Lnearhop/model/Id;" (.ref rw)) (A1_rw : Arw Z h0 rw kR (.array (.object "nearhop/model/Id")) nd fR) (HP : pq.toInt = (pn : Int)) (Hpn : pn < nd) (HfR : fR pn = .ref r1) (A5_r1 : Arw Z h0 r1 k1 (.object "nearhop/model/Id") bn g1) (HC : cq.toInt = (cn : Int)) (Hcn : cn < bn) (Hg1 : g1 cn = (.ref y)) :
    MetFree l (⟨"nearhop/model/RoutingTable", "get", "(II)Lnearhop/model/Id;"⟩ : MethodName) (head1 (Jvm.Cond.code (⟨"nearhop/model/RoutingTable", "get", "(II)Lnearhop/model/Id;"⟩ : MethodName) prog_120_method_8_code 3 (some (.object "nearhop/model/Id")) :: ws) ({ frames := 0, cells := 0, slots := 0, locals := 0 } : Room)) (fun as_ U_ => as_ = #[(.ref a), (.int pq), (.int cq)] ∧ Z.Warmed39 U_.vm ∧ U_.heap = h0) (fun _ _ _ _ _ => True) (fun _ U_ o_ V_ => ∃ v_ L_, o_ = .returned v_ ∧ QrmGR Z a pq cq rw kR fR nd pn r1 k1 g1 bn cn y h0 n0 v_ V_.heap L_ ∧ FrameEnd U_ o_ V_ L_ ({ frames := 0, cells := 0, slots := 0, locals := 0 } : Room).cells ({ frames := 0, cells := 0, slots := 0, locals := 0 } : Room).slots) := by
  refine MetFree.of_bodySF (plainFor_of_name pn_nearhop_model_RoutingTable) hisR ?_
  intro p e s m args below meth c s₁ Bd hml0 hP hK
  obtain ⟨rfl, hZ, hh⟩ := hP
  have hx := Bd.exec
  have hby := Bd.bytes
  have hlk : meth.locks = false := BodyLoose.notSynchronized Bd
  have hret := Bd.returns
  have hml : c.maxLocals = 3 := hml0
  have hown : s.vm.findClass "nearhop/model/RoutingTable" = some m.cls := findClass_of_methodNamed Bd.named
  have hnm := (name_of_methodNamed Bd.named Bd.method).1
  have X0 : Stand p l e ({ frames := 0, cells := 0, slots := 0, locals := 0 } : Room) s m #[(.ref a), (.int pq), (.int cq)] below meth c s₁ [] 0 0 := Stand.of_body Bd
  have e0 : s₁.heap = h0 := by rw [← hh, Bd.state]; rfl
  have N0 := Fr.nil n0
  show Goes p e below (Fin_ s (QrmGR Z a pq cq rw kR fR nd pn r1 k1 g1 bn cn y h0 n0) ({ frames := 0, cells := 0, slots := 0, locals := 0 } : Room).cells ({ frames := 0, cells := 0, slots := 0, locals := 0 } : Room).slots) (s₁.setTop (entryFrame m #[(.ref a), (.int pq), (.int cq)] 3))
  rw [ef_rmGR m a pq cq]
  refine gALN X0 hx hby d21_0 rfl rfl ?_
  obtain ⟨T1, X1, e1, st1⟩ := getF X0 hx hZ hown (host := "") (Or.inl (own_w hw 73 rfl)) Via.refl e0 F0_a_rows (g := (mkF m 1 #[vr a, vi pq, vi cq] [(.ref a)])) rfl rfl (hb hby d21_1)
  refine Goes.via st1 ?_
  show Goes p e below _ (T1.setTop (mkF m 4 #[vr a, vi pq, vi cq] [(.ref rw)]))
  refine gILN X1 hx hby d21_4 rfl ?_
  refine Goes.via (own_aaload X1 hx hZ e1 A1_rw rfl (j := pq) (i := pn) (own_ix HP).1 (own_ix HP).2 Hpn (v := (.ref r1)) HfR (g := (mkF m 5 #[vr a, vi pq, vi cq] [(.int pq), (.ref rw)])) rfl rfl (hb hby d21_5)) ?_
  show Goes p e below _ (T1.setTop (mkF m 6 #[vr a, vi pq, vi cq] [(.ref r1)]))
  refine Goes.via (fun _ kk_ => XS.ifnonnullYes X1.here hx rfl (pc0 := 6) (pc' := 13) rfl (hb hby d21_6) rfl (by decide) (by decide) kk_) ?_
  show Goes p e below _ (T1.setTop (mkF m 13 #[vr a, vi pq, vi cq] []))
  refine gALN X1 hx hby d21_13 rfl rfl ?_
  obtain ⟨T2, X2, e2, st2⟩ := getF X1 hx hZ hown (host := "") (Or.inl (own_w hw 73 rfl)) Via.refl e1 F0_a_rows (g := (mkF m 14 #[vr a, vi pq, vi cq] [(.ref a)])) rfl rfl (hb hby d21_14)
  refine Goes.via st2 ?_
  show Goes p e below _ (T2.setTop (mkF m 17 #[vr a, vi pq, vi cq] [(.ref rw)]))
  refine gILN X2 hx hby d21_17 rfl ?_
  refine Goes.via (own_aaload X2 hx hZ e2 A1_rw rfl (j := pq) (i := pn) (own_ix HP).1 (own_ix HP).2 Hpn (v := (.ref r1)) HfR (g := (mkF m 18 #[vr a, vi pq, vi cq] [(.int pq), (.ref rw)])) rfl rfl (hb hby d21_18)) ?_
  show Goes p e below _ (T2.setTop (mkF m 19 #[vr a, vi pq, vi cq] [(.ref r1)]))
  refine gILN X2 hx hby d21_19 rfl ?_
  refine Goes.via (own_aaload X2 hx hZ e2 A5_r1 rfl (j := cq) (i := cn) (own_ix HC).1 (own_ix HC).2 Hcn (v := (.ref y)) Hg1 (g := (mkF m 20 #[vr a, vi pq, vi cq] [(.int cq), (.ref r1)])) rfl rfl (hb hby d21_20)) ?_
  show Goes p e below _ (T2.setTop (mkF m 21 #[vr a, vi pq, vi cq] [(.ref y)]))
  exact own_finR X2 hx hlk hret rfl rfl rfl (hb hby d21_21) (by rw [e2]; exact ⟨rfl, rfl, rfl⟩) (by first | decide | omega | (dsimp only; omega)) (by first | decide | omega | (dsimp only; omega))
theorem ef_rmOO (m : MethodId) (a : Addr) (b : Addr) (rk : Int64) : entryFrame m #[(.ref a), (.ref b), (.long rk)] 7 = mkF m 0 #[.val (.ref a), .val (.ref b), .val (.long rk), .second, .unset, .unset, .unset] [] := by first | (simp [entryFrame, mkF, argsToLocals, Value.category]; done) | rfl
def QrmOO (Z : State) (a : Addr) (b : Addr) (rk : Int64) (ow : Addr) (sp : Addr) (w_ : Int64) (y_ : Int64) (x_ : Int32) (dg : Int32) (bp : Int32) (h0 : Heap) (n0 : Nat) (v_ : Option Value) (h_ : Heap) (L_ : List Loc) : Prop := v_ = some (.int (0 : Int32)) ∧ L_ = [] ∧ h_ = h0
theorem d13_0 : decode prog_120_method_2_code 0 = .ok (.aload_n 1, 1) := by decide +kernel
theorem d13_1 : decode prog_120_method_2_code 1 = .ok (.aload_n 0, 1) := by decide +kernel
theorem d13_2 : decode prog_120_method_2_code 2 = .ok (.getfield 7, 3) := by decide +kernel
theorem pd_10 : parseMethodDescriptor "(Ljava/lang/Object;)Z" = some ⟨[(.object "java/lang/Object")], some .boolean⟩ := by decide +kernel
theorem d13_5 : decode prog_120_method_2_code 5 = .ok (.invokevirtual 41, 3) := by decide +kernel
abbrev mN_Id_equals : MethodName := ⟨"nearhop/model/Id", "equals", "(Ljava/lang/Object;)Z"⟩
theorem d13_8 : decode prog_120_method_2_code 8 = .ok (.ifCond .eq 5, 3) := by decide +kernel
theorem d13_11 : decode prog_120_method_2_code 11 = .ok (.iconst 0, 1) := by decide +kernel
theorem d13_12 : decode prog_120_method_2_code 12 = .ok (.ireturn, 1) := by decide +kernel
set_option maxRecDepth 65536 in
set_option maxHeartbeats 40000000 in
theorem rmOO (l : Launch) (Z : State) (a0 : Array Value) (hw : ∀ d ∈ tables_1, d.before a0 Z = true) (ws : List Jvm.Cond) (a : Addr) (b : Addr) (rk : Int64) (ow : Addr) (sp : Addr) (w_ : Int64) (y_ : Int64) (x_ : Int32) (dg : Int32) (bp : Int32) (h0 : Heap) (n0 : Nat) (Z0 : n0 ≤ h0.size) (E0_a : Exa Z h0 a "nearhop/model/RoutingTable") (F1_a_owner : Fld Z h0 a "nearhop/model/RoutingTable" "owner" "Lnearhop/model/Id;" (.ref ow)) (E2_ow : Exa Z h0 ow "nearhop/model/Id") (E3_b : Exa Z h0 b "nearhop/model/Id") (HNo : b ≠ ow) (F5_ow_space : Fld Z h0 ow "nearhop/model/Id" "space" "Lnearhop/model/IdSpace;" (.ref sp)) (F6_ow_high : Fld Z h0 ow "nearhop/model/Id" "high" "J" (.long (0 : Int64))) (F7_ow_low : Fld Z h0 ow "nearhop/model/Id" "low" "J" (.long w_)) (F8_b_space : Fld Z h0 b "nearhop/model/Id" "space" "Lnearhop/model/IdSpace;" (.ref sp)) (F9_b_high : Fld Z h0 b "nearhop/model/Id" "high" "J" (.long (0 : Int64))) (F10_b_low : Fld Z h0 b "nearhop/model/Id" "low" "J" (.long y_)) (E11_sp : Exa Z h0 sp "nearhop/model/IdSpace") (F12_sp_base : Fld Z h0 sp "nearhop/model/IdSpace" "base" "I" (.int x_)) (F13_sp_digits : Fld Z h0 sp "nearhop/model/IdSpace" "digits" "I" (.int dg)) (HB : own_bb x_ bp) (Heq : y_ = w_) :
    MetFree l (⟨"nearhop/model/RoutingTable", "offer", "(Lnearhop/model/Id;J)Z"⟩ : MethodName) (head1 (Jvm.Cond.code (⟨"nearhop/model/RoutingTable", "offer", "(Lnearhop/model/Id;J)Z"⟩ : MethodName) prog_120_method_2_code 7 (some .boolean) :: ws) ({ frames := 1, cells := 0, slots := 0, locals := 14 } : Room)) (fun as_ U_ => as_ = #[(.ref a), (.ref b), (.long rk)] ∧ Z.Warmed39 U_.vm ∧ U_.heap = h0) (fun _ _ _ _ _ => True) (fun _ U_ o_ V_ => ∃ v_ L_, o_ = .returned v_ ∧ QrmOO Z a b rk ow sp w_ y_ x_ dg bp h0 n0 v_ V_.heap L_ ∧ FrameEnd U_ o_ V_ L_ ({ frames := 1, cells := 0, slots := 0, locals := 14 } : Room).cells ({ frames := 1, cells := 0, slots := 0, locals := 14 } : Room).slots) := by
  refine MetFree.of_bodySF (plainFor_of_name pn_nearhop_model_RoutingTable) hisR ?_
  intro p e s m args below meth c s₁ Bd hml0 hP hK
  obtain ⟨rfl, hZ, hh⟩ := hP
  have hx := Bd.exec
  have hby := Bd.bytes
  have hlk : meth.locks = false := BodyLoose.notSynchronized Bd
  have hret := Bd.returns
  have hml : c.maxLocals = 7 := hml0
  have hown : s.vm.findClass "nearhop/model/RoutingTable" = some m.cls := findClass_of_methodNamed Bd.named
  have hnm := (name_of_methodNamed Bd.named Bd.method).1
  have X0 : Stand p l e ({ frames := 1, cells := 0, slots := 0, locals := 14 } : Room) s m #[(.ref a), (.ref b), (.long rk)] below meth c s₁ [] 0 0 := Stand.of_body Bd
  have e0 : s₁.heap = h0 := by rw [← hh, Bd.state]; rfl
  have N0 := Fr.nil n0
  show Goes p e below (Fin_ s (QrmOO Z a b rk ow sp w_ y_ x_ dg bp h0 n0) ({ frames := 1, cells := 0, slots := 0, locals := 14 } : Room).cells ({ frames := 1, cells := 0, slots := 0, locals := 14 } : Room).slots) (s₁.setTop (entryFrame m #[(.ref a), (.ref b), (.long rk)] 7))
  rw [ef_rmOO m a b rk]
  refine gALN X0 hx hby d13_0 rfl rfl ?_
  refine gALN X0 hx hby d13_1 rfl rfl ?_
  obtain ⟨T6, X6, e6, st6⟩ := getF X0 hx hZ hown (host := "") (Or.inl (own_w hw 59 rfl)) Via.refl e0 F1_a_owner (g := (mkF m 2 #[vr a, vr b, .val (.long rk), .second, .unset, .unset, .unset] [(.ref a), (.ref b)])) rfl rfl (hb hby d13_2)
  refine Goes.via st6 ?_
  show Goes p e below _ (T6.setTop (mkF m 5 #[vr a, vr b, .val (.long rk), .second, .unset, .unset, .unset] [(.ref ow), (.ref b)]))
  obtain ⟨cq7, kq7, q7a, q7b, q7c⟩ := isOf hZ e6 E3_b
  obtain ⟨_, _, ⟨T7, L7, k7, n7⟩, -, X7, ⟨Lc7, hQ7, l7, y7, z7⟩, st7⟩ := X6.virtualBack hx (y := mN_Id_equals) (z := mN_Id_equals) hown (mvT hZ (own_w hw 87 rfl)) (mvT hZ (own_w hw 88 rfl)) (notFace_of_selects (args := #[]) (mvT hZ (own_w hw 90 rfl))) (mvT hZ (own_w hw 90 rfl)) (mvT hZ (own_w hw 89 rfl)) (by decide) (backOf (W := 0) (rmEq l Z a0 hw [] b ow sp y_ w_ h0 n0 (Nat.le_trans Z0 (Nat.le_refl _)) HNo E2_ow F8_b_space F9_b_high F10_b_low F5_ow_space F6_ow_high F7_ow_low) hZ (own_w hw 91 rfl) (own_w hw 25 rfl) (by decide) (by decide)) q7a q7c (g := (mkF m 5 #[vr a, vr b, .val (.long rk), .second, .unset, .unset, .unset] [(.ref ow), (.ref b)])) rfl (by rw [hml]; rfl) (Steps.refl _) (argsL := [(.ref ow)]) (rest := []) (lenOf pd_10 rfl) rfl (by show 2 * 0 + _ ≤ _; exact Nat.le_of_eq rfl) (hb hby d13_5) (fun _ _ => ⟨rfl, e6, (by decide : 0 + 0 ≤ _), (by decide : 0 + 0 ≤ _)⟩)
  dsimp only [Pt.U, Pt.locs, Pt.cells, Pt.slots] at X7 l7 y7 z7 st7 hQ7
  replace l7 := l7.symm
  subst l7 y7 z7
  obtain ⟨rfl, rfl, e7⟩ := hQ7
  first | rw [List.append_nil] at X7 | skip
  refine Goes.tr st7 ?_
  have e7' : T7.heap = h0 := e7
  show Goes p e below _ (T7.setTop (mkF m 8 #[vr a, vr b, .val (.long rk), .second, .unset, .unset, .unset] [(.int (if y_ = w_ then (1 : Int32) else (0 : Int32)))]))
  have hc8_8 : ¬ ((if y_ = w_ then (1 : Int32) else (0 : Int32)) = (0 : Int32)) := (by rw [if_pos Heq]; decide)
  refine Goes.via (fun _ kk_ => XS.ifNo X7.here hx rfl (hb hby d13_8) rfl ((if0 _ _).trans (feq hc8_8).1) kk_) ?_
  show Goes p e below _ (T7.setTop (mkF m 11 #[vr a, vr b, .val (.long rk), .second, .unset, .unset, .unset] []))
  refine gIC (z := 0) X7 hx hby d13_11 rfl ?_
  exact own_finN X7 hx hlk hret (by simp) (hb hby d13_12) (by rw [e7']; exact ⟨rfl, rfl, rfl⟩) (by first | decide | omega | (dsimp only; omega)) (by first | decide | omega | (dsimp only; omega))
theorem own_ffi (f : Nat → Int32) (p i : Nat) (x : Int32) : Value.int ((fun j => if j = p then x else f j) i) = own_upd (fun i => .int (f i)) p (.int x) i := by
  unfold own_upd
  by_cases z : i = p
  · simp only [if_pos z]
  · simp only [if_neg z]
theorem own_fo {x : Int32} {n : Nat} (h0 : 0 ≤ x.toInt) (h : x.toInt < (n : Int)) (hn : n ≤ 3) : (x + (1 : Int32)).toInt = x.toInt + 1 := by
  have q := c_iadd x 1
  have q1 := rng32 (x + 1)
  have q2 : (1 : Int32).toInt = 1 := by decide
  omega
theorem ef_rmON (m : MethodId) (a : Addr) (b : Addr) (rk : Int64) : entryFrame m #[(.ref a), (.ref b), (.long rk)] 7 = mkF m 0 #[.val (.ref a), .val (.ref b), .val (.long rk), .second, .unset, .unset, .unset] [] := by first | (simp [entryFrame, mkF, argsToLocals, Value.category]; done) | rfl
def QrmON (Z : State) (a : Addr) (b : Addr) (rk : Int64) (ow : Addr) (sp : Addr) (w_ : Int64) (y_ : Int64) (x_ : Int32) (dg : Int32) (bp : Int32) (rw : Addr) (rl : Addr) (fl : Addr) (kR : ClassId) (kK : ClassId) (kF : ClassId) (fR : Nat → Value) (fK : Nat → Value) (fF : Nat → Int32) (fo : Int32) (nd : Nat) (bn : Nat) (pn : Nat) (cn : Nat) (h0 : Heap) (n0 : Nat) (v_ : Option Value) (h_ : Heap) (L_ : List Loc) : Prop := ∃ r1 : Addr, ∃ r2 : Addr, ∃ k1 : ClassId, ∃ k2 : ClassId, ∃ fo' : Int32, ∃ fF' : Nat → Int32, v_ = some (.int (1 : Int32)) ∧ Fr n0 L_ ∧ Keep h0 h_ [a, rw, rl, fl] ∧ Exa Z h_ a "nearhop/model/RoutingTable" ∧ Fld Z h_ a "nearhop/model/RoutingTable" "owner" "Lnearhop/model/Id;" (.ref ow) ∧ Fld Z h_ a "nearhop/model/RoutingTable" "rows" "[[Lnearhop/model/Id;" (.ref rw) ∧ Fld Z h_ a "nearhop/model/RoutingTable" "ranks" "[[J" (.ref rl) ∧ Fld Z h_ a "nearhop/model/RoutingTable" "filled" "[I" (.ref fl) ∧ Fld Z h_ a "nearhop/model/RoutingTable" "firstOpen" "I" (.int fo') ∧ Exa Z h_ rw "[[Lnearhop/model/Id;" ∧ Arw Z h_ rw kR (.array (.object "nearhop/model/Id")) nd (own_upd fR pn (.ref r1)) ∧ Exa Z h_ rl "[[J" ∧ Arw Z h_ rl kK (.array .long) nd (own_upd fK pn (.ref r2)) ∧ Exa Z h_ fl "[I" ∧ Arw Z h_ fl kF .int nd (fun i => .int (fF' i)) ∧ h0.size ≤ r1 ∧ h0.size ≤ r2 ∧ Exa Z h_ r1 "[Lnearhop/model/Id;" ∧ Arw Z h_ r1 k1 (.object "nearhop/model/Id") bn (own_upd (fun _ => .null) cn (.ref b)) ∧ Exa Z h_ r2 "[J" ∧ Arw Z h_ r2 k2 .long bn (own_upd (fun _ => (.long 0)) cn (.long rk)) ∧ Ovr Z k1 "nearhop/model/Id" ∧ 0 ≤ fo'.toInt ∧ fo'.toInt ≤ (nd : Int)
theorem d13_13 : decode prog_120_method_2_code 13 = .ok (.aload_n 0, 1) := by decide +kernel
theorem d13_14 : decode prog_120_method_2_code 14 = .ok (.getfield 7, 3) := by decide +kernel
theorem d13_17 : decode prog_120_method_2_code 17 = .ok (.aload_n 1, 1) := by decide +kernel
theorem d13_18 : decode prog_120_method_2_code 18 = .ok (.invokevirtual 45, 3) := by decide +kernel
abbrev mN_Id_sharedPrefixLength : MethodName := ⟨"nearhop/model/Id", "sharedPrefixLength", "(Lnearhop/model/Id;)I"⟩
theorem d13_21 : decode prog_120_method_2_code 21 = .ok (.istore 4, 2) := by decide +kernel
theorem d13_23 : decode prog_120_method_2_code 23 = .ok (.aload_n 0, 1) := by decide +kernel
theorem d13_24 : decode prog_120_method_2_code 24 = .ok (.getfield 27, 3) := by decide +kernel
theorem d13_27 : decode prog_120_method_2_code 27 = .ok (.iload 4, 2) := by decide +kernel
theorem d13_29 : decode prog_120_method_2_code 29 = .ok (.aaload, 1) := by decide +kernel
theorem d13_30 : decode prog_120_method_2_code 30 = .ok (.ifnonnull 42, 3) := by decide +kernel
theorem d13_33 : decode prog_120_method_2_code 33 = .ok (.aload_n 0, 1) := by decide +kernel
theorem d13_34 : decode prog_120_method_2_code 34 = .ok (.getfield 27, 3) := by decide +kernel
theorem d13_37 : decode prog_120_method_2_code 37 = .ok (.iload 4, 2) := by decide +kernel
theorem d13_39 : decode prog_120_method_2_code 39 = .ok (.aload_n 0, 1) := by decide +kernel
theorem d13_40 : decode prog_120_method_2_code 40 = .ok (.getfield 7, 3) := by decide +kernel
theorem d13_43 : decode prog_120_method_2_code 43 = .ok (.invokevirtual 13, 3) := by decide +kernel
theorem d13_46 : decode prog_120_method_2_code 46 = .ok (.invokevirtual 49, 3) := by decide +kernel
theorem d13_49 : decode prog_120_method_2_code 49 = .ok (.anewarray 14, 3) := by decide +kernel
theorem d13_52 : decode prog_120_method_2_code 52 = .ok (.aastore, 1) := by decide +kernel
theorem d13_53 : decode prog_120_method_2_code 53 = .ok (.aload_n 0, 1) := by decide +kernel
theorem d13_54 : decode prog_120_method_2_code 54 = .ok (.getfield 33, 3) := by decide +kernel
theorem d13_57 : decode prog_120_method_2_code 57 = .ok (.iload 4, 2) := by decide +kernel
theorem d13_59 : decode prog_120_method_2_code 59 = .ok (.aload_n 0, 1) := by decide +kernel
theorem d13_60 : decode prog_120_method_2_code 60 = .ok (.getfield 7, 3) := by decide +kernel
theorem d13_63 : decode prog_120_method_2_code 63 = .ok (.invokevirtual 13, 3) := by decide +kernel
theorem d13_66 : decode prog_120_method_2_code 66 = .ok (.invokevirtual 49, 3) := by decide +kernel
theorem d13_69 : decode prog_120_method_2_code 69 = .ok (.newarray .long, 2) := by decide +kernel
theorem d13_71 : decode prog_120_method_2_code 71 = .ok (.aastore, 1) := by decide +kernel
theorem d13_72 : decode prog_120_method_2_code 72 = .ok (.aload_n 1, 1) := by decide +kernel
theorem d13_73 : decode prog_120_method_2_code 73 = .ok (.iload 4, 2) := by decide +kernel
theorem d13_75 : decode prog_120_method_2_code 75 = .ok (.invokevirtual 52, 3) := by decide +kernel
abbrev mN_Id_digit : MethodName := ⟨"nearhop/model/Id", "digit", "(I)I"⟩
theorem d13_78 : decode prog_120_method_2_code 78 = .ok (.istore 5, 2) := by decide +kernel
theorem d13_80 : decode prog_120_method_2_code 80 = .ok (.aload_n 0, 1) := by decide +kernel
theorem d13_81 : decode prog_120_method_2_code 81 = .ok (.getfield 27, 3) := by decide +kernel
theorem d13_84 : decode prog_120_method_2_code 84 = .ok (.iload 4, 2) := by decide +kernel
theorem d13_86 : decode prog_120_method_2_code 86 = .ok (.aaload, 1) := by decide +kernel
theorem d13_87 : decode prog_120_method_2_code 87 = .ok (.iload 5, 2) := by decide +kernel
theorem d13_89 : decode prog_120_method_2_code 89 = .ok (.aaload, 1) := by decide +kernel
theorem d13_90 : decode prog_120_method_2_code 90 = .ok (.astore 6, 2) := by decide +kernel
theorem d13_92 : decode prog_120_method_2_code 92 = .ok (.aload_n 0, 1) := by decide +kernel
theorem d13_93 : decode prog_120_method_2_code 93 = .ok (.iload 4, 2) := by decide +kernel
theorem d13_95 : decode prog_120_method_2_code 95 = .ok (.iload 5, 2) := by decide +kernel
theorem d13_97 : decode prog_120_method_2_code 97 = .ok (.aload_n 1, 1) := by decide +kernel
theorem d13_98 : decode prog_120_method_2_code 98 = .ok (.lload_n 2, 1) := by decide +kernel
theorem pd_11 : parseMethodDescriptor "(IILnearhop/model/Id;J)Z" = some ⟨[.int, .int, (.object "nearhop/model/Id"), .long], some .boolean⟩ := by decide +kernel
theorem d13_99 : decode prog_120_method_2_code 99 = .ok (.invokevirtual 56, 3) := by decide +kernel
abbrev mN_RoutingTable_takes : MethodName := ⟨"nearhop/model/RoutingTable", "takes", "(IILnearhop/model/Id;J)Z"⟩
theorem d13_102 : decode prog_120_method_2_code 102 = .ok (.ifCond .eq 121, 3) := by decide +kernel
theorem d13_105 : decode prog_120_method_2_code 105 = .ok (.aload 6, 2) := by decide +kernel
theorem d13_107 : decode prog_120_method_2_code 107 = .ok (.ifnonnull 79, 3) := by decide +kernel
theorem d13_110 : decode prog_120_method_2_code 110 = .ok (.aload_n 0, 1) := by decide +kernel
theorem d13_111 : decode prog_120_method_2_code 111 = .ok (.getfield 37, 3) := by decide +kernel
theorem d13_114 : decode prog_120_method_2_code 114 = .ok (.iload 4, 2) := by decide +kernel
theorem d13_116 : decode prog_120_method_2_code 116 = .ok (.dup2, 1) := by decide +kernel
theorem d13_117 : decode prog_120_method_2_code 117 = .ok (.iaload, 1) := by decide +kernel
theorem d13_118 : decode prog_120_method_2_code 118 = .ok (.iconst 1, 1) := by decide +kernel
theorem d13_119 : decode prog_120_method_2_code 119 = .ok (.iadd, 1) := by decide +kernel
theorem d13_120 : decode prog_120_method_2_code 120 = .ok (.dup_x2, 1) := by decide +kernel
theorem d13_121 : decode prog_120_method_2_code 121 = .ok (.iastore, 1) := by decide +kernel
theorem d13_122 : decode prog_120_method_2_code 122 = .ok (.aload_n 0, 1) := by decide +kernel
theorem d13_123 : decode prog_120_method_2_code 123 = .ok (.getfield 7, 3) := by decide +kernel
theorem d13_126 : decode prog_120_method_2_code 126 = .ok (.invokevirtual 13, 3) := by decide +kernel
theorem d13_129 : decode prog_120_method_2_code 129 = .ok (.invokevirtual 49, 3) := by decide +kernel
theorem d13_132 : decode prog_120_method_2_code 132 = .ok (.iconst 1, 1) := by decide +kernel
theorem d13_133 : decode prog_120_method_2_code 133 = .ok (.isub, 1) := by decide +kernel
theorem d13_186 : decode prog_120_method_2_code 186 = .ok (.aload_n 0, 1) := by decide +kernel
theorem d13_187 : decode prog_120_method_2_code 187 = .ok (.getfield 27, 3) := by decide +kernel
theorem d13_190 : decode prog_120_method_2_code 190 = .ok (.iload 4, 2) := by decide +kernel
theorem d13_192 : decode prog_120_method_2_code 192 = .ok (.aaload, 1) := by decide +kernel
theorem d13_193 : decode prog_120_method_2_code 193 = .ok (.iload 5, 2) := by decide +kernel
theorem d13_195 : decode prog_120_method_2_code 195 = .ok (.aload_n 1, 1) := by decide +kernel
theorem d13_196 : decode prog_120_method_2_code 196 = .ok (.aastore, 1) := by decide +kernel
theorem d13_197 : decode prog_120_method_2_code 197 = .ok (.aload_n 0, 1) := by decide +kernel
theorem d13_198 : decode prog_120_method_2_code 198 = .ok (.getfield 33, 3) := by decide +kernel
theorem d13_201 : decode prog_120_method_2_code 201 = .ok (.iload 4, 2) := by decide +kernel
theorem d13_203 : decode prog_120_method_2_code 203 = .ok (.aaload, 1) := by decide +kernel
theorem d13_204 : decode prog_120_method_2_code 204 = .ok (.iload 5, 2) := by decide +kernel
theorem d13_206 : decode prog_120_method_2_code 206 = .ok (.lload_n 2, 1) := by decide +kernel
theorem d13_207 : decode prog_120_method_2_code 207 = .ok (.lastore, 1) := by decide +kernel
theorem d13_208 : decode prog_120_method_2_code 208 = .ok (.aload_n 1, 1) := by decide +kernel
theorem d13_209 : decode prog_120_method_2_code 209 = .ok (.aload 6, 2) := by decide +kernel
theorem d13_211 : decode prog_120_method_2_code 211 = .ok (.invokevirtual 41, 3) := by decide +kernel
theorem d13_214 : decode prog_120_method_2_code 214 = .ok (.ifCond .ne 7, 3) := by decide +kernel
theorem d13_217 : decode prog_120_method_2_code 217 = .ok (.iconst 1, 1) := by decide +kernel
theorem d13_218 : decode prog_120_method_2_code 218 = .ok (.goto 4, 3) := by decide +kernel
theorem d13_222 : decode prog_120_method_2_code 222 = .ok (.ireturn, 1) := by decide +kernel
theorem d13_134 : decode prog_120_method_2_code 134 = .ok (.if_icmp .ne 52, 3) := by decide +kernel
theorem d13_137 : decode prog_120_method_2_code 137 = .ok (.aload_n 0, 1) := by decide +kernel
theorem d13_138 : decode prog_120_method_2_code 138 = .ok (.getfield 60, 3) := by decide +kernel
theorem d13_141 : decode prog_120_method_2_code 141 = .ok (.aload_n 0, 1) := by decide +kernel
theorem d13_142 : decode prog_120_method_2_code 142 = .ok (.getfield 27, 3) := by decide +kernel
theorem d13_145 : decode prog_120_method_2_code 145 = .ok (.arraylength, 1) := by decide +kernel
theorem d13_146 : decode prog_120_method_2_code 146 = .ok (.if_icmp .ge 40, 3) := by decide +kernel
theorem d13_149 : decode prog_120_method_2_code 149 = .ok (.aload_n 0, 1) := by decide +kernel
theorem d13_150 : decode prog_120_method_2_code 150 = .ok (.getfield 37, 3) := by decide +kernel
theorem d13_153 : decode prog_120_method_2_code 153 = .ok (.aload_n 0, 1) := by decide +kernel
theorem d13_154 : decode prog_120_method_2_code 154 = .ok (.getfield 60, 3) := by decide +kernel
theorem d13_157 : decode prog_120_method_2_code 157 = .ok (.iaload, 1) := by decide +kernel
theorem d13_158 : decode prog_120_method_2_code 158 = .ok (.aload_n 0, 1) := by decide +kernel
theorem d13_159 : decode prog_120_method_2_code 159 = .ok (.getfield 7, 3) := by decide +kernel
theorem d13_162 : decode prog_120_method_2_code 162 = .ok (.invokevirtual 13, 3) := by decide +kernel
theorem d13_165 : decode prog_120_method_2_code 165 = .ok (.invokevirtual 49, 3) := by decide +kernel
theorem d13_168 : decode prog_120_method_2_code 168 = .ok (.iconst 1, 1) := by decide +kernel
theorem d13_169 : decode prog_120_method_2_code 169 = .ok (.isub, 1) := by decide +kernel
theorem d13_170 : decode prog_120_method_2_code 170 = .ok (.if_icmp .ne 16, 3) := by decide +kernel
theorem d13_173 : decode prog_120_method_2_code 173 = .ok (.aload_n 0, 1) := by decide +kernel
theorem d13_174 : decode prog_120_method_2_code 174 = .ok (.dup, 1) := by decide +kernel
theorem d13_175 : decode prog_120_method_2_code 175 = .ok (.getfield 60, 3) := by decide +kernel
theorem d13_178 : decode prog_120_method_2_code 178 = .ok (.iconst 1, 1) := by decide +kernel
theorem d13_179 : decode prog_120_method_2_code 179 = .ok (.iadd, 1) := by decide +kernel
theorem d13_180 : decode prog_120_method_2_code 180 = .ok (.putfield 60, 3) := by decide +kernel
theorem d13_183 : decode prog_120_method_2_code 183 = .ok (.goto (-46), 3) := by decide +kernel
set_option maxRecDepth 65536 in
set_option maxHeartbeats 40000000 in
theorem rmON (l : Launch) (Z : State) (a0 : Array Value) (hw : ∀ d ∈ tables_1, d.before a0 Z = true) (ws : List Jvm.Cond) (a : Addr) (b : Addr) (rk : Int64) (ow : Addr) (sp : Addr) (w_ : Int64) (y_ : Int64) (x_ : Int32) (dg : Int32) (bp : Int32) (rw : Addr) (rl : Addr) (fl : Addr) (kR : ClassId) (kK : ClassId) (kF : ClassId) (fR : Nat → Value) (fK : Nat → Value) (fF : Nat → Int32) (fo : Int32) (nd : Nat) (bn : Nat) (pn : Nat) (cn : Nat) (h0 : Heap) (n0 : Nat) (Z0 : n0 ≤ h0.size) (E0_a : Exa Z h0 a "nearhop/model/RoutingTable") (F1_a_owner : Fld Z h0 a "nearhop/model/RoutingTable" "owner" "Lnearhop/model/Id;" (.ref ow)) (F2_a_rows : Fld Z h0 a "nearhop/model/RoutingTable" "rows" "[[Lnearhop/model/Id;" (.ref rw)) (F3_a_ranks : Fld Z h0 a "nearhop/model/RoutingTable" "ranks" "[[J" (.ref rl)) (F4_a_filled : Fld Z h0 a "nearhop/model/RoutingTable" "filled" "[I" (.ref fl)) (F5_a_firstOpen : Fld Z h0 a "nearhop/model/RoutingTable" "firstOpen" "I" (.int fo)) (E6_ow : Exa Z h0 ow "nearhop/model/Id") (E7_b : Exa Z h0 b "nearhop/model/Id") (HNo : b ≠ ow) (F9_ow_space : Fld Z h0 ow "nearhop/model/Id" "space" "Lnearhop/model/IdSpace;" (.ref sp)) (F10_ow_high : Fld Z h0 ow "nearhop/model/Id" "high" "J" (.long (0 : Int64))) (F11_ow_low : Fld Z h0 ow "nearhop/model/Id" "low" "J" (.long w_)) (F12_b_space : Fld Z h0 b "nearhop/model/Id" "space" "Lnearhop/model/IdSpace;" (.ref sp)) (F13_b_high : Fld Z h0 b "nearhop/model/Id" "high" "J" (.long (0 : Int64))) (F14_b_low : Fld Z h0 b "nearhop/model/Id" "low" "J" (.long y_)) (E15_sp : Exa Z h0 sp "nearhop/model/IdSpace") (F16_sp_base : Fld Z h0 sp "nearhop/model/IdSpace" "base" "I" (.int x_)) (F17_sp_digits : Fld Z h0 sp "nearhop/model/IdSpace" "digits" "I" (.int dg)) (HB : own_bb x_ bp) (E19_rw : Exa Z h0 rw "[[Lnearhop/model/Id;") (A20_rw : Arw Z h0 rw kR (.array (.object "nearhop/model/Id")) nd fR) (E21_rl : Exa Z h0 rl "[[J") (A22_rl : Arw Z h0 rl kK (.array .long) nd fK) (E23_fl : Exa Z h0 fl "[I") (A24_fl : Arw Z h0 fl kF .int nd (fun i => .int (fF i))) (Hne : ¬ y_ = w_) (HP : ((if (w_ ^^^ y_) = (0 : Int64) then dg else (((64 : Int32) + (own_nlzL (w_ ^^^ y_))) - ((128 : Int32) - (dg * bp))) / bp)).toInt = (pn : Int)) (Hpn : pn < nd) (HC : (own_dgt y_ (if (w_ ^^^ y_) = (0 : Int64) then dg else (((64 : Int32) + (own_nlzL (w_ ^^^ y_))) - ((128 : Int32) - (dg * bp))) / bp) x_ dg bp).toInt = (cn : Int)) (Hcn : cn < bn) (Hbn : x_.toInt = (bn : Int)) (Hb16 : bn ≤ 16) (Hn3 : nd ≤ 3) (Hfo0 : 0 ≤ fo.toInt) (Hfo1 : fo.toInt ≤ (nd : Int)) (OVa : OvrA Z kR (.object "nearhop/model/Id") "[Lnearhop/model/Id;") (OVb : OvrA Z kK .long "[J") (H37 : n0 ≤ a) (H38 : n0 ≤ rw) (H39 : n0 ≤ rl) (H40 : n0 ≤ fl) (HfR : fR pn = .null) :
    MetFree l (⟨"nearhop/model/RoutingTable", "offer", "(Lnearhop/model/Id;J)Z"⟩ : MethodName) (head1 (Jvm.Cond.code (⟨"nearhop/model/RoutingTable", "offer", "(Lnearhop/model/Id;J)Z"⟩ : MethodName) prog_120_method_2_code 7 (some .boolean) :: ws) ({ frames := 4, cells := 2, slots := 32, locals := 58 } : Room)) (fun as_ U_ => as_ = #[(.ref a), (.ref b), (.long rk)] ∧ Z.Warmed39 U_.vm ∧ U_.heap = h0) (fun _ _ _ _ _ => True) (fun _ U_ o_ V_ => ∃ v_ L_, o_ = .returned v_ ∧ QrmON Z a b rk ow sp w_ y_ x_ dg bp rw rl fl kR kK kF fR fK fF fo nd bn pn cn h0 n0 v_ V_.heap L_ ∧ FrameEnd U_ o_ V_ L_ ({ frames := 4, cells := 2, slots := 32, locals := 58 } : Room).cells ({ frames := 4, cells := 2, slots := 32, locals := 58 } : Room).slots) := by
  refine MetFree.of_bodySF (plainFor_of_name pn_nearhop_model_RoutingTable) hisR ?_
  intro p e s m args below meth c s₁ Bd hml0 hP hK
  obtain ⟨rfl, hZ, hh⟩ := hP
  have hx := Bd.exec
  have hby := Bd.bytes
  have hlk : meth.locks = false := BodyLoose.notSynchronized Bd
  have hret := Bd.returns
  have hml : c.maxLocals = 7 := hml0
  have hown : s.vm.findClass "nearhop/model/RoutingTable" = some m.cls := findClass_of_methodNamed Bd.named
  have hnm := (name_of_methodNamed Bd.named Bd.method).1
  have X0 : Stand p l e ({ frames := 4, cells := 2, slots := 32, locals := 58 } : Room) s m #[(.ref a), (.ref b), (.long rk)] below meth c s₁ [] 0 0 := Stand.of_body Bd
  have e0 : s₁.heap = h0 := by rw [← hh, Bd.state]; rfl
  have N0 := Fr.nil n0
  show Goes p e below (Fin_ s (QrmON Z a b rk ow sp w_ y_ x_ dg bp rw rl fl kR kK kF fR fK fF fo nd bn pn cn h0 n0) ({ frames := 4, cells := 2, slots := 32, locals := 58 } : Room).cells ({ frames := 4, cells := 2, slots := 32, locals := 58 } : Room).slots) (s₁.setTop (entryFrame m #[(.ref a), (.ref b), (.long rk)] 7))
  rw [ef_rmON m a b rk]
  have ne1 : a ≠ ow := ne_exa E0_a E6_ow (by decide)
  have ne2 : a ≠ b := ne_exa E0_a E7_b (by decide)
  have ne3 : a ≠ sp := ne_exa E0_a E15_sp (by decide)
  have ne4 : a ≠ rw := ne_exa E0_a E19_rw (by decide)
  have ne5 : a ≠ rl := ne_exa E0_a E21_rl (by decide)
  have ne6 : a ≠ fl := ne_exa E0_a E23_fl (by decide)
  have ne8 : ow ≠ rw := ne_exa E6_ow E19_rw (by decide)
  have ne9 : ow ≠ rl := ne_exa E6_ow E21_rl (by decide)
  have ne10 : ow ≠ fl := ne_exa E6_ow E23_fl (by decide)
  have ne12 : b ≠ rw := ne_exa E7_b E19_rw (by decide)
  have ne13 : b ≠ rl := ne_exa E7_b E21_rl (by decide)
  have ne14 : b ≠ fl := ne_exa E7_b E23_fl (by decide)
  have ne15 : sp ≠ rw := ne_exa E15_sp E19_rw (by decide)
  have ne16 : sp ≠ rl := ne_exa E15_sp E21_rl (by decide)
  have ne17 : sp ≠ fl := ne_exa E15_sp E23_fl (by decide)
  have ne18 : rw ≠ rl := ne_exa E19_rw E21_rl (by decide)
  have ne19 : rw ≠ fl := ne_exa E19_rw E23_fl (by decide)
  have ne20 : rl ≠ fl := ne_exa E21_rl E23_fl (by decide)
  refine gALN X0 hx hby d13_0 rfl rfl ?_
  refine gALN X0 hx hby d13_1 rfl rfl ?_
  obtain ⟨T21, X21, e21, st21⟩ := getF X0 hx hZ hown (host := "") (Or.inl (own_w hw 59 rfl)) Via.refl e0 F1_a_owner (g := (mkF m 2 #[vr a, vr b, .val (.long rk), .second, .unset, .unset, .unset] [(.ref a), (.ref b)])) rfl rfl (hb hby d13_2)
  refine Goes.via st21 ?_
  show Goes p e below _ (T21.setTop (mkF m 5 #[vr a, vr b, .val (.long rk), .second, .unset, .unset, .unset] [(.ref ow), (.ref b)]))
  obtain ⟨cq22, kq22, q22a, q22b, q22c⟩ := isOf hZ e21 E7_b
  obtain ⟨_, _, ⟨T22, L22, k22, n22⟩, -, X22, ⟨Lc22, hQ22, l22, y22, z22⟩, st22⟩ := X21.virtualBack hx (y := mN_Id_equals) (z := mN_Id_equals) hown (mvT hZ (own_w hw 87 rfl)) (mvT hZ (own_w hw 88 rfl)) (notFace_of_selects (args := #[]) (mvT hZ (own_w hw 90 rfl))) (mvT hZ (own_w hw 90 rfl)) (mvT hZ (own_w hw 89 rfl)) (by decide) (backOf (W := 0) (rmEq l Z a0 hw [] b ow sp y_ w_ h0 n0 (Nat.le_trans Z0 (Nat.le_refl _)) HNo E6_ow F12_b_space F13_b_high F14_b_low F9_ow_space F10_ow_high F11_ow_low) hZ (own_w hw 91 rfl) (own_w hw 25 rfl) (by decide) (by decide)) q22a q22c (g := (mkF m 5 #[vr a, vr b, .val (.long rk), .second, .unset, .unset, .unset] [(.ref ow), (.ref b)])) rfl (by rw [hml]; rfl) (Steps.refl _) (argsL := [(.ref ow)]) (rest := []) (lenOf pd_10 rfl) rfl (by show 2 * 0 + _ ≤ _; exact Nat.le_of_eq rfl) (hb hby d13_5) (fun _ _ => ⟨rfl, e21, (by decide : 0 + 0 ≤ _), (by decide : 0 + 0 ≤ _)⟩)
  dsimp only [Pt.U, Pt.locs, Pt.cells, Pt.slots] at X22 l22 y22 z22 st22 hQ22
  replace l22 := l22.symm
  subst l22 y22 z22
  obtain ⟨rfl, rfl, e22⟩ := hQ22
  first | rw [List.append_nil] at X22 | skip
  refine Goes.tr st22 ?_
  have e22' : T22.heap = h0 := e22
  show Goes p e below _ (T22.setTop (mkF m 8 #[vr a, vr b, .val (.long rk), .second, .unset, .unset, .unset] [(.int (if y_ = w_ then (1 : Int32) else (0 : Int32)))]))
  have hc8_23 : (if y_ = w_ then (1 : Int32) else (0 : Int32)) = (0 : Int32) := (if_neg Hne)
  refine Goes.via (fun _ kk_ => XS.ifYes X22.here hx rfl (pc0 := 8) (pc' := 13) rfl (hb hby d13_8) rfl ((if0 _ _).trans (teq hc8_23).1) (by decide) (by decide) kk_) ?_
  show Goes p e below _ (T22.setTop (mkF m 13 #[vr a, vr b, .val (.long rk), .second, .unset, .unset, .unset] []))
  refine gALN X22 hx hby d13_13 rfl rfl ?_
  obtain ⟨T24, X24, e24, st24⟩ := getF X22 hx hZ hown (host := "") (Or.inl (own_w hw 59 rfl)) Via.refl e22' F1_a_owner (g := (mkF m 14 #[vr a, vr b, .val (.long rk), .second, .unset, .unset, .unset] [(.ref a)])) rfl rfl (hb hby d13_14)
  refine Goes.via st24 ?_
  show Goes p e below _ (T24.setTop (mkF m 17 #[vr a, vr b, .val (.long rk), .second, .unset, .unset, .unset] [(.ref ow)]))
  refine gALN X24 hx hby d13_17 rfl rfl ?_
  obtain ⟨cq25, kq25, q25a, q25b, q25c⟩ := isOf hZ e24 E6_ow
  obtain ⟨_, _, ⟨T25, L25, k25, n25⟩, -, X25, ⟨Lc25, hQ25, l25, y25, z25⟩, st25⟩ := X24.virtualBack hx (y := mN_Id_sharedPrefixLength) (z := mN_Id_sharedPrefixLength) hown (mvT hZ (own_w hw 94 rfl)) (mvT hZ (own_w hw 95 rfl)) (notFace_of_selects (args := #[]) (mvT hZ (own_w hw 97 rfl))) (mvT hZ (own_w hw 97 rfl)) (mvT hZ (own_w hw 96 rfl)) (by decide) (backOf (W := 0) (rmPre l Z a0 hw [] ow b sp w_ y_ x_ dg bp h0 n0 (Nat.le_trans Z0 (Nat.le_refl _)) F9_ow_space F10_ow_high F11_ow_low F12_b_space F13_b_high F14_b_low E15_sp F16_sp_base F17_sp_digits HB) hZ (own_w hw 98 rfl) (own_w hw 25 rfl) (by decide) (by decide)) q25a q25c (g := (mkF m 18 #[vr a, vr b, .val (.long rk), .second, .unset, .unset, .unset] [(.ref b), (.ref ow)])) rfl (by rw [hml]; rfl) (Steps.refl _) (argsL := [(.ref b)]) (rest := []) (lenOf pd_9 rfl) rfl (by show 2 * 0 + _ ≤ _; exact Nat.le_of_eq rfl) (hb hby d13_18) (fun _ _ => ⟨rfl, e24, (by decide : 0 + 0 ≤ _), (by decide : 0 + 0 ≤ _)⟩)
  dsimp only [Pt.U, Pt.locs, Pt.cells, Pt.slots] at X25 l25 y25 z25 st25 hQ25
  replace l25 := l25.symm
  subst l25 y25 z25
  obtain ⟨rfl, rfl, e25⟩ := hQ25
  first | rw [List.append_nil] at X25 | skip
  refine Goes.tr st25 ?_
  have e25' : T25.heap = h0 := e25
  show Goes p e below _ (T25.setTop (mkF m 21 #[vr a, vr b, .val (.long rk), .second, .unset, .unset, .unset] [(.int (if (w_ ^^^ y_) = (0 : Int64) then dg else (((64 : Int32) + (own_nlzL (w_ ^^^ y_))) - ((128 : Int32) - (dg * bp))) / bp))]))
  refine Goes.via (fun _ kk_ => XS.istore X25.here hx rfl (hb hby d13_21) rfl (l' := #[vr a, vr b, .val (.long rk), .second, vi (if (w_ ^^^ y_) = (0 : Int64) then dg else (((64 : Int32) + (own_nlzL (w_ ^^^ y_))) - ((128 : Int32) - (dg * bp))) / bp), .unset, .unset]) rfl kk_) ?_
  show Goes p e below _ (T25.setTop (mkF m 23 #[vr a, vr b, .val (.long rk), .second, vi (if (w_ ^^^ y_) = (0 : Int64) then dg else (((64 : Int32) + (own_nlzL (w_ ^^^ y_))) - ((128 : Int32) - (dg * bp))) / bp), .unset, .unset] []))
  generalize (if (w_ ^^^ y_) = (0 : Int64) then dg else (((64 : Int32) + (own_nlzL (w_ ^^^ y_))) - ((128 : Int32) - (dg * bp))) / bp) = qq at HP HC ⊢
  show Goes p e below _ (T25.setTop (mkF m 23 #[vr a, vr b, .val (.long rk), .second, vi qq, .unset, .unset] []))
  refine gALN X25 hx hby d13_23 rfl rfl ?_
  obtain ⟨T26, X26, e26, st26⟩ := getF X25 hx hZ hown (host := "") (Or.inl (own_w hw 73 rfl)) Via.refl e25' F2_a_rows (g := (mkF m 24 #[vr a, vr b, .val (.long rk), .second, vi qq, .unset, .unset] [(.ref a)])) rfl rfl (hb hby d13_24)
  refine Goes.via st26 ?_
  show Goes p e below _ (T26.setTop (mkF m 27 #[vr a, vr b, .val (.long rk), .second, vi qq, .unset, .unset] [(.ref rw)]))
  refine gIL X26 hx hby d13_27 rfl ?_
  refine Goes.via (own_aaload X26 hx hZ e26 A20_rw rfl (j := qq) (i := pn) (own_ix HP).1 (own_ix HP).2 Hpn (v := .null) HfR (g := (mkF m 29 #[vr a, vr b, .val (.long rk), .second, vi qq, .unset, .unset] [(.int qq), (.ref rw)])) rfl rfl (hb hby d13_29)) ?_
  show Goes p e below _ (T26.setTop (mkF m 30 #[vr a, vr b, .val (.long rk), .second, vi qq, .unset, .unset] [.null]))
  refine Goes.via (fun _ kk_ => XS.ifnonnullNo X26.here hx rfl (hb hby d13_30) rfl kk_) ?_
  show Goes p e below _ (T26.setTop (mkF m 33 #[vr a, vr b, .val (.long rk), .second, vi qq, .unset, .unset] []))
  refine gALN X26 hx hby d13_33 rfl rfl ?_
  obtain ⟨T27, X27, e27, st27⟩ := getF X26 hx hZ hown (host := "") (Or.inl (own_w hw 73 rfl)) Via.refl e26 F2_a_rows (g := (mkF m 34 #[vr a, vr b, .val (.long rk), .second, vi qq, .unset, .unset] [(.ref a)])) rfl rfl (hb hby d13_34)
  refine Goes.via st27 ?_
  show Goes p e below _ (T27.setTop (mkF m 37 #[vr a, vr b, .val (.long rk), .second, vi qq, .unset, .unset] [(.ref rw)]))
  refine gIL X27 hx hby d13_37 rfl ?_
  refine gALN X27 hx hby d13_39 rfl rfl ?_
  obtain ⟨T28, X28, e28, st28⟩ := getF X27 hx hZ hown (host := "") (Or.inl (own_w hw 59 rfl)) Via.refl e27 F1_a_owner (g := (mkF m 40 #[vr a, vr b, .val (.long rk), .second, vi qq, .unset, .unset] [(.ref a), (.int qq), (.ref rw)])) rfl rfl (hb hby d13_40)
  refine Goes.via st28 ?_
  show Goes p e below _ (T28.setTop (mkF m 43 #[vr a, vr b, .val (.long rk), .second, vi qq, .unset, .unset] [(.ref ow), (.int qq), (.ref rw)]))
  obtain ⟨cq29, kq29, q29a, q29b, q29c⟩ := isOf hZ e28 E6_ow
  obtain ⟨_, _, ⟨T29, L29, k29, n29⟩, -, X29, ⟨Lc29, hQ29, l29, y29, z29⟩, st29⟩ := X28.virtualBack hx (y := mN_Id_space) (z := mN_Id_space) hown (mvT hZ (own_w hw 61 rfl)) (mvT hZ (own_w hw 62 rfl)) (notFace_of_selects (args := #[]) (mvT hZ (own_w hw 64 rfl))) (mvT hZ (own_w hw 64 rfl)) (mvT hZ (own_w hw 63 rfl)) (by decide) (backOf (W := 2) (rm11 l Z a0 hw [] ow sp h0 n0 (Nat.le_trans Z0 (Nat.le_refl _)) F9_ow_space) hZ (own_w hw 65 rfl) (own_w hw 25 rfl) (by decide) (by decide)) q29a q29c (g := (mkF m 43 #[vr a, vr b, .val (.long rk), .second, vi qq, .unset, .unset] [(.ref ow), (.int qq), (.ref rw)])) rfl (by rw [hml]; rfl) (Steps.refl _) (argsL := []) (rest := [(.int qq), (.ref rw)]) (lenOf pd_8 rfl) rfl (by show 2 * 0 + _ ≤ _; exact Nat.le_of_eq rfl) (hb hby d13_43) (fun _ _ => ⟨rfl, e28, (by decide : 0 + 0 ≤ _), (by decide : 0 + 0 ≤ _)⟩)
  dsimp only [Pt.U, Pt.locs, Pt.cells, Pt.slots] at X29 l29 y29 z29 st29 hQ29
  replace l29 := l29.symm
  subst l29 y29 z29
  obtain ⟨rfl, rfl, e29⟩ := hQ29
  first | rw [List.append_nil] at X29 | skip
  refine Goes.tr st29 ?_
  have e29' : T29.heap = h0 := e29
  show Goes p e below _ (T29.setTop (mkF m 46 #[vr a, vr b, .val (.long rk), .second, vi qq, .unset, .unset] [(.ref sp), (.int qq), (.ref rw)]))
  obtain ⟨cq30, kq30, q30a, q30b, q30c⟩ := isOf hZ e29' E15_sp
  obtain ⟨_, _, ⟨T30, L30, k30, n30⟩, -, X30, ⟨Lc30, hQ30, l30, y30, z30⟩, st30⟩ := X29.virtualBack hx (y := mN_IdSpace_base) (z := mN_IdSpace_base) hown (mvT hZ (own_w hw 107 rfl)) (mvT hZ (own_w hw 108 rfl)) (notFace_of_selects (args := #[]) (mvT hZ (own_w hw 110 rfl))) (mvT hZ (own_w hw 110 rfl)) (mvT hZ (own_w hw 109 rfl)) (by decide) (backOf (W := 2) (rm18 l Z a0 hw [] sp x_ h0 n0 (Nat.le_trans Z0 (Nat.le_refl _)) F16_sp_base) hZ (own_w hw 111 rfl) (own_w hw 2 rfl) (by decide) (by decide)) q30a q30c (g := (mkF m 46 #[vr a, vr b, .val (.long rk), .second, vi qq, .unset, .unset] [(.ref sp), (.int qq), (.ref rw)])) rfl (by rw [hml]; rfl) (Steps.refl _) (argsL := []) (rest := [(.int qq), (.ref rw)]) (lenOf pd_2 rfl) rfl (by show 2 * 0 + _ ≤ _; exact Nat.le_of_eq rfl) (hb hby d13_46) (fun _ _ => ⟨rfl, e29', (by decide : 0 + 0 ≤ _), (by decide : 0 + 0 ≤ _)⟩)
  dsimp only [Pt.U, Pt.locs, Pt.cells, Pt.slots] at X30 l30 y30 z30 st30 hQ30
  replace l30 := l30.symm
  subst l30 y30 z30
  obtain ⟨rfl, rfl, e30⟩ := hQ30
  first | rw [List.append_nil] at X30 | skip
  refine Goes.tr st30 ?_
  have e30' : T30.heap = h0 := e30
  show Goes p e below _ (T30.setTop (mkF m 49 #[vr a, vr b, .val (.long rk), .second, vi qq, .unset, .unset] [(.int x_), (.int qq), (.ref rw)]))
  obtain ⟨T31, h31, k31, X31, e31, E31, A31, C31, O31, st31⟩ := own_newOE X30 hx hZ hown (own_w hw 112 rfl) (own_w hw 113 rfl) e30' (g := (mkF m 49 #[vr a, vr b, .val (.long rk), .second, vi qq, .unset, .unset] [(.int x_), (.int qq), (.ref rw)])) rfl (hb hby d13_49) rfl (n := x_) (N := bn) (own_ix Hbn).1 (own_ix Hbn).2 (cap := 16) (by first | decide | omega | (dsimp only; omega)) (by first | decide | omega | (dsimp only; omega)) (by first | decide | omega | (dsimp only; omega)) (by first | decide | omega | (dsimp only; omega)) (ad := "[Lnearhop/model/Id;") (by decide)
  obtain ⟨b31, g31⟩ : ∃ z, z = (h0).size := ⟨_, rfl⟩
  rw [← g31] at A31 C31 st31
  have lne32 : a < b31 := Nat.lt_of_lt_of_le E0_a.lt (Nat.le_of_eq g31.symm)
  have ne32 : a ≠ b31 := Nat.ne_of_lt lne32
  have lne36 : rw < b31 := Nat.lt_of_lt_of_le E19_rw.lt (Nat.le_of_eq g31.symm)
  have ne36 : rw ≠ b31 := Nat.ne_of_lt lne36
  have lne37 : rl < b31 := Nat.lt_of_lt_of_le E21_rl.lt (Nat.le_of_eq g31.symm)
  have ne37 : rl ≠ b31 := Nat.ne_of_lt lne37
  have lne38 : fl < b31 := Nat.lt_of_lt_of_le E23_fl.lt (Nat.le_of_eq g31.symm)
  have ne38 : fl ≠ b31 := Nat.ne_of_lt lne38
  have sz_b31 : h0.size ≤ b31 := Nat.le_trans (Nat.le_refl _) (Nat.le_of_eq g31.symm)
  have gn_b31 : n0 ≤ b31 := Nat.le_trans Z0 sz_b31
  refine Goes.via st31 ?_
  show Goes p e below _ (T31.setTop (mkF m 52 #[vr a, vr b, .val (.long rk), .second, vi qq, .unset, .unset] [(.ref b31), (.int qq), (.ref rw)]))
  have f39 := (A20_rw.ext E31)
  obtain ⟨T40, h40, X40, e40, W40, A40, st40⟩ := own_aastoreA X31 hx hZ e31 f39 rfl rfl OVa (Ins.self C31) (j := qq) (i := pn) (own_ix HP).1 (own_ix HP).2 Hpn (g := (mkF m 52 #[vr a, vr b, .val (.long rk), .second, vi qq, .unset, .unset] [(.ref b31), (.int qq), (.ref rw)])) rfl rfl (hb hby d13_52)
  refine Goes.via st40 ?_
  have N40 := Fr.snoc X40 N0 H38
  show Goes p e below _ (T40.setTop (mkF m 53 #[vr a, vr b, .val (.long rk), .second, vi qq, .unset, .unset] []))
  refine gALN X40 hx hby d13_53 rfl rfl ?_
  have f41 := ((F3_a_ranks.ext E31).other W40 (Or.inl ne4))
  obtain ⟨T42, X42, e42, st42⟩ := getF X40 hx hZ hown (host := "") (Or.inl (own_w hw 77 rfl)) Via.refl e40 f41 (g := (mkF m 54 #[vr a, vr b, .val (.long rk), .second, vi qq, .unset, .unset] [(.ref a)])) rfl rfl (hb hby d13_54)
  refine Goes.via st42 ?_
  show Goes p e below _ (T42.setTop (mkF m 57 #[vr a, vr b, .val (.long rk), .second, vi qq, .unset, .unset] [(.ref rl)]))
  refine gIL X42 hx hby d13_57 rfl ?_
  refine gALN X42 hx hby d13_59 rfl rfl ?_
  have f43 := ((F1_a_owner.ext E31).other W40 (Or.inl ne4))
  obtain ⟨T44, X44, e44, st44⟩ := getF X42 hx hZ hown (host := "") (Or.inl (own_w hw 59 rfl)) Via.refl e42 f43 (g := (mkF m 60 #[vr a, vr b, .val (.long rk), .second, vi qq, .unset, .unset] [(.ref a), (.int qq), (.ref rl)])) rfl rfl (hb hby d13_60)
  refine Goes.via st44 ?_
  show Goes p e below _ (T44.setTop (mkF m 63 #[vr a, vr b, .val (.long rk), .second, vi qq, .unset, .unset] [(.ref ow), (.int qq), (.ref rl)]))
  have f45 := ((F9_ow_space.ext E31).other W40 (Or.inl ne8))
  have z47 : h0.size ≤ (h40).size := (Nat.le_trans (Nat.le_trans (Nat.le_refl _) E31.1) (Nat.le_of_eq W40.size.symm))
  have f48 := ((E6_ow.ext E31).wr W40)
  obtain ⟨cq46, kq46, q46a, q46b, q46c⟩ := isOf hZ e44 f48
  obtain ⟨_, _, ⟨T46, L46, k46, n46⟩, -, X46, ⟨Lc46, hQ46, l46, y46, z46⟩, st46⟩ := X44.virtualBack hx (y := mN_Id_space) (z := mN_Id_space) hown (mvT hZ (own_w hw 61 rfl)) (mvT hZ (own_w hw 62 rfl)) (notFace_of_selects (args := #[]) (mvT hZ (own_w hw 64 rfl))) (mvT hZ (own_w hw 64 rfl)) (mvT hZ (own_w hw 63 rfl)) (by decide) (backOf (W := 2) (rm11 l Z a0 hw [] ow sp h40 n0 (Nat.le_trans Z0 z47) f45) hZ (own_w hw 65 rfl) (own_w hw 25 rfl) (by decide) (by decide)) q46a q46c (g := (mkF m 63 #[vr a, vr b, .val (.long rk), .second, vi qq, .unset, .unset] [(.ref ow), (.int qq), (.ref rl)])) rfl (by rw [hml]; rfl) (Steps.refl _) (argsL := []) (rest := [(.int qq), (.ref rl)]) (lenOf pd_8 rfl) rfl (by show 2 * 0 + _ ≤ _; exact Nat.le_of_eq rfl) (hb hby d13_63) (fun _ _ => ⟨rfl, e44, (by decide : 1 + 0 ≤ _), (by decide : 16 + 0 ≤ _)⟩)
  dsimp only [Pt.U, Pt.locs, Pt.cells, Pt.slots] at X46 l46 y46 z46 st46 hQ46
  replace l46 := l46.symm
  subst l46 y46 z46
  obtain ⟨rfl, rfl, e46⟩ := hQ46
  first | rw [List.append_nil] at X46 | skip
  refine Goes.tr st46 ?_
  have e46' : T46.heap = h40 := e46
  show Goes p e below _ (T46.setTop (mkF m 66 #[vr a, vr b, .val (.long rk), .second, vi qq, .unset, .unset] [(.ref sp), (.int qq), (.ref rl)]))
  have f49 := ((F16_sp_base.ext E31).other W40 (Or.inl ne15))
  have f51 := ((E15_sp.ext E31).wr W40)
  obtain ⟨cq50, kq50, q50a, q50b, q50c⟩ := isOf hZ e46' f51
  obtain ⟨_, _, ⟨T50, L50, k50, n50⟩, -, X50, ⟨Lc50, hQ50, l50, y50, z50⟩, st50⟩ := X46.virtualBack hx (y := mN_IdSpace_base) (z := mN_IdSpace_base) hown (mvT hZ (own_w hw 107 rfl)) (mvT hZ (own_w hw 108 rfl)) (notFace_of_selects (args := #[]) (mvT hZ (own_w hw 110 rfl))) (mvT hZ (own_w hw 110 rfl)) (mvT hZ (own_w hw 109 rfl)) (by decide) (backOf (W := 2) (rm18 l Z a0 hw [] sp x_ h40 n0 (Nat.le_trans Z0 z47) f49) hZ (own_w hw 111 rfl) (own_w hw 2 rfl) (by decide) (by decide)) q50a q50c (g := (mkF m 66 #[vr a, vr b, .val (.long rk), .second, vi qq, .unset, .unset] [(.ref sp), (.int qq), (.ref rl)])) rfl (by rw [hml]; rfl) (Steps.refl _) (argsL := []) (rest := [(.int qq), (.ref rl)]) (lenOf pd_2 rfl) rfl (by show 2 * 0 + _ ≤ _; exact Nat.le_of_eq rfl) (hb hby d13_66) (fun _ _ => ⟨rfl, e46', (by decide : 1 + 0 ≤ _), (by decide : 16 + 0 ≤ _)⟩)
  dsimp only [Pt.U, Pt.locs, Pt.cells, Pt.slots] at X50 l50 y50 z50 st50 hQ50
  replace l50 := l50.symm
  subst l50 y50 z50
  obtain ⟨rfl, rfl, e50⟩ := hQ50
  first | rw [List.append_nil] at X50 | skip
  refine Goes.tr st50 ?_
  have e50' : T50.heap = h40 := e50
  show Goes p e below _ (T50.setTop (mkF m 69 #[vr a, vr b, .val (.long rk), .second, vi qq, .unset, .unset] [(.int x_), (.int qq), (.ref rl)]))
  obtain ⟨T52, h52, k52, X52, e52, E52, A52, C52, st52⟩ := own_newPE X50 hx hZ (own_w hw 115 rfl) e50' (g := (mkF m 69 #[vr a, vr b, .val (.long rk), .second, vi qq, .unset, .unset] [(.int x_), (.int qq), (.ref rl)])) rfl (hb hby d13_69) rfl (n := x_) (N := bn) (own_ix Hbn).1 (own_ix Hbn).2 (cap := 16) (by first | decide | omega | (dsimp only; omega)) (by first | decide | omega | (dsimp only; omega)) (by first | decide | omega | (dsimp only; omega)) (by first | decide | omega | (dsimp only; omega)) (ad := "[J") (by decide)
  obtain ⟨b52, g52⟩ : ∃ z, z = (h40).size := ⟨_, rfl⟩
  rw [← g52] at A52 C52 st52
  have f53 := ((E0_a.ext E31).wr W40)
  have lne54 : a < b52 := Nat.lt_of_lt_of_le f53.lt (Nat.le_of_eq g52.symm)
  have ne54 : a ≠ b52 := Nat.ne_of_lt lne54
  have f56 := ((E7_b.ext E31).wr W40)
  have f59 := ((E19_rw.ext E31).wr W40)
  have lne60 : rw < b52 := Nat.lt_of_lt_of_le f59.lt (Nat.le_of_eq g52.symm)
  have ne60 : rw ≠ b52 := Nat.ne_of_lt lne60
  have f61 := ((E21_rl.ext E31).wr W40)
  have lne62 : rl < b52 := Nat.lt_of_lt_of_le f61.lt (Nat.le_of_eq g52.symm)
  have ne62 : rl ≠ b52 := Nat.ne_of_lt lne62
  have f63 := ((E23_fl.ext E31).wr W40)
  have lne64 : fl < b52 := Nat.lt_of_lt_of_le f63.lt (Nat.le_of_eq g52.symm)
  have ne64 : fl ≠ b52 := Nat.ne_of_lt lne64
  have f65 := (C31.wr W40)
  have lne66 : b31 < b52 := Nat.lt_of_lt_of_le f65.lt (Nat.le_of_eq g52.symm)
  have ne66 : b31 ≠ b52 := Nat.ne_of_lt lne66
  have sz_b52 : h0.size ≤ b52 := Nat.le_trans z47 (Nat.le_of_eq g52.symm)
  have gn_b52 : n0 ≤ b52 := Nat.le_trans Z0 sz_b52
  refine Goes.via st52 ?_
  show Goes p e below _ (T52.setTop (mkF m 71 #[vr a, vr b, .val (.long rk), .second, vi qq, .unset, .unset] [(.ref b52), (.int qq), (.ref rl)]))
  have f67 := (((A22_rl.ext E31).other W40 (Ne.symm ne18)).ext E52)
  obtain ⟨T68, h68, X68, e68, W68, A68, st68⟩ := own_aastoreA X52 hx hZ e52 f67 rfl rfl OVb (Ins.self C52) (j := qq) (i := pn) (own_ix HP).1 (own_ix HP).2 Hpn (g := (mkF m 71 #[vr a, vr b, .val (.long rk), .second, vi qq, .unset, .unset] [(.ref b52), (.int qq), (.ref rl)])) rfl rfl (hb hby d13_71)
  refine Goes.via st68 ?_
  have N68 := Fr.snoc X68 N40 H39
  show Goes p e below _ (T68.setTop (mkF m 72 #[vr a, vr b, .val (.long rk), .second, vi qq, .unset, .unset] []))
  refine gALN X68 hx hby d13_72 rfl rfl ?_
  refine gIL X68 hx hby d13_73 rfl ?_
  have f69 := ((f56.ext E52).wr W68)
  have f70 := ((((F12_b_space.ext E31).other W40 (Or.inl ne12)).ext E52).other W68 (Or.inl ne13))
  have f71 := ((((F13_b_high.ext E31).other W40 (Or.inl ne12)).ext E52).other W68 (Or.inl ne13))
  have f72 := ((((F14_b_low.ext E31).other W40 (Or.inl ne12)).ext E52).other W68 (Or.inl ne13))
  have f73 := ((f51.ext E52).wr W68)
  have f74 := ((f49.ext E52).other W68 (Or.inl ne16))
  have f75 := ((((F17_sp_digits.ext E31).other W40 (Or.inl ne15)).ext E52).other W68 (Or.inl ne16))
  have z77 : h0.size ≤ (h68).size := (Nat.le_trans (Nat.le_trans z47 E52.1) (Nat.le_of_eq W68.size.symm))
  obtain ⟨cq76, kq76, q76a, q76b, q76c⟩ := isOf hZ e68 f69
  obtain ⟨_, _, ⟨T76, L76, k76, n76⟩, -, X76, ⟨Lc76, hQ76, l76, y76, z76⟩, st76⟩ := X68.virtualBack hx (y := mN_Id_digit) (z := mN_Id_digit) hown (mvT hZ (own_w hw 117 rfl)) (mvT hZ (own_w hw 118 rfl)) (notFace_of_selects (args := #[]) (mvT hZ (own_w hw 120 rfl))) (mvT hZ (own_w hw 120 rfl)) (mvT hZ (own_w hw 119 rfl)) (by decide) (backOf (W := 0) (rm19 l Z a0 hw [] y_ qq x_ dg bp b sp h68 n0 (Nat.le_trans Z0 z77) f69 f70 f71 f72 f73 f74 f75 HB) hZ (own_w hw 121 rfl) (own_w hw 25 rfl) (by decide) (by decide)) q76a q76c (g := (mkF m 75 #[vr a, vr b, .val (.long rk), .second, vi qq, .unset, .unset] [(.int qq), (.ref b)])) rfl (by rw [hml]; rfl) (Steps.refl _) (argsL := [(.int qq)]) (rest := []) (lenOf pd_1 rfl) rfl (by show 2 * 0 + _ ≤ _; exact Nat.le_of_eq rfl) (hb hby d13_75) (fun _ _ => ⟨rfl, e68, (by decide : 2 + 0 ≤ _), (by decide : 32 + 0 ≤ _)⟩)
  dsimp only [Pt.U, Pt.locs, Pt.cells, Pt.slots] at X76 l76 y76 z76 st76 hQ76
  replace l76 := l76.symm
  subst l76 y76 z76
  obtain ⟨rfl, rfl, e76⟩ := hQ76
  first | rw [List.append_nil] at X76 | skip
  refine Goes.tr st76 ?_
  have e76' : T76.heap = h68 := e76
  show Goes p e below _ (T76.setTop (mkF m 78 #[vr a, vr b, .val (.long rk), .second, vi qq, .unset, .unset] [(.int (own_dgt y_ qq x_ dg bp))]))
  refine Goes.via (fun _ kk_ => XS.istore X76.here hx rfl (hb hby d13_78) rfl (l' := #[vr a, vr b, .val (.long rk), .second, vi qq, vi (own_dgt y_ qq x_ dg bp), .unset]) rfl kk_) ?_
  show Goes p e below _ (T76.setTop (mkF m 80 #[vr a, vr b, .val (.long rk), .second, vi qq, vi (own_dgt y_ qq x_ dg bp), .unset] []))
  generalize (own_dgt y_ qq x_ dg bp) = cq at HC ⊢
  show Goes p e below _ (T76.setTop (mkF m 80 #[vr a, vr b, .val (.long rk), .second, vi qq, vi cq, .unset] []))
  refine gALN X76 hx hby d13_80 rfl rfl ?_
  have f78 := ((((F2_a_rows.ext E31).other W40 (Or.inl ne4)).ext E52).other W68 (Or.inl ne5))
  obtain ⟨T79, X79, e79, st79⟩ := getF X76 hx hZ hown (host := "") (Or.inl (own_w hw 73 rfl)) Via.refl e76' f78 (g := (mkF m 81 #[vr a, vr b, .val (.long rk), .second, vi qq, vi cq, .unset] [(.ref a)])) rfl rfl (hb hby d13_81)
  refine Goes.via st79 ?_
  show Goes p e below _ (T79.setTop (mkF m 84 #[vr a, vr b, .val (.long rk), .second, vi qq, vi cq, .unset] [(.ref rw)]))
  refine gIL X79 hx hby d13_84 rfl ?_
  have f80 := ((A40.ext E52).other W68 ne18)
  refine Goes.via (own_aaload X79 hx hZ e79 f80 rfl (j := qq) (i := pn) (own_ix HP).1 (own_ix HP).2 Hpn (v := (.ref b31)) (own_upd_same _ _ _) (g := (mkF m 86 #[vr a, vr b, .val (.long rk), .second, vi qq, vi cq, .unset] [(.int qq), (.ref rw)])) rfl rfl (hb hby d13_86)) ?_
  show Goes p e below _ (T79.setTop (mkF m 87 #[vr a, vr b, .val (.long rk), .second, vi qq, vi cq, .unset] [(.ref b31)]))
  refine gIL X79 hx hby d13_87 rfl ?_
  have f81 := (((A31.other W40 (Ne.symm ne36)).ext E52).other W68 (Ne.symm ne37))
  refine Goes.via (own_aaload X79 hx hZ e79 f81 rfl (j := cq) (i := cn) (own_ix HC).1 (own_ix HC).2 Hcn (v := .null) rfl (g := (mkF m 89 #[vr a, vr b, .val (.long rk), .second, vi qq, vi cq, .unset] [(.int cq), (.ref b31)])) rfl rfl (hb hby d13_89)) ?_
  show Goes p e below _ (T79.setTop (mkF m 90 #[vr a, vr b, .val (.long rk), .second, vi qq, vi cq, .unset] [.null]))
  refine Goes.via (fun _ kk_ => XS.astore X79.here hx rfl (hb hby d13_90) rfl rfl (l' := #[vr a, vr b, .val (.long rk), .second, vi qq, vi cq, .val .null]) rfl kk_) ?_
  show Goes p e below _ (T79.setTop (mkF m 92 #[vr a, vr b, .val (.long rk), .second, vi qq, vi cq, .val .null] []))
  refine gALN X79 hx hby d13_92 rfl rfl ?_
  refine gIL X79 hx hby d13_93 rfl ?_
  refine gIL X79 hx hby d13_95 rfl ?_
  refine gALN X79 hx hby d13_97 rfl rfl ?_
  refine Goes.via (fun _ kk_ => XS.lloadN X79.here hx rfl (hb hby d13_98) rfl  kk_) ?_
  show Goes p e below _ (T79.setTop (mkF m 99 #[vr a, vr b, .val (.long rk), .second, vi qq, vi cq, .val .null] [(.long rk), (.ref b), (.int cq), (.int qq), (.ref a)]))
  have f82 := ((f41.ext E52).other W68 (Or.inl ne5))
  have f83 := (A52.other W68 (Ne.symm ne62))
  have f85 := ((f53.ext E52).wr W68)
  obtain ⟨cq84, q84, q84'⟩ := f85.cell
  obtain ⟨_, _, ⟨T84, L84, k84, n84⟩, -, X84, ⟨Lc84, hQ84, l84, y84, z84⟩, st84⟩ := X79.privateBack hx (y := mN_RoutingTable_takes) hown (mvT hZ (own_w hw 123 rfl)) (mvT hZ (own_w hw 124 rfl)) (mvT hZ (own_selP (y := mN_RoutingTable_takes) (own_w hw 53 rfl) (own_w hw 125 rfl) (own_w hw 124 rfl) (by decide))) (Cond.privateMethod_at (mvP hZ (own_w hw 125 rfl) (args := #[]))) (mvT hZ (own_w hw 126 rfl)) (by decide) (backOf (W := 0) (rmTkN l Z a0 hw [] a qq cq b rk rw rl kR kK (own_upd fR pn (.ref b31)) (own_upd fK pn (.ref b52)) b31 b52 k31 k52 (fun _ => .null) (fun _ => (.long 0)) nd bn pn cn (0 : Int64) h68 n0 (Nat.le_trans Z0 z77) f78 f82 f80 A68 f81 f83 HP Hpn HC Hcn (own_upd_same _ _ _) (own_upd_same _ _ _) rfl rfl) hZ (own_w hw 126 rfl) (own_w hw 54 rfl) (by decide) (by decide)) (g := (mkF m 99 #[vr a, vr b, .val (.long rk), .second, vi qq, vi cq, .val .null] [(.long rk), (.ref b), (.int cq), (.int qq), (.ref a)])) rfl (by rw [hml]; rfl) (Steps.refl _) (a := a) (by rw [e79]; exact q84) q84' (argsL := [(.int qq), (.int cq), (.ref b), (.long rk)]) (rest := []) (lenOf pd_11 rfl) rfl (by show 2 * 0 + _ ≤ _; exact Nat.le_of_eq rfl) (hb hby d13_99) (fun _ _ => ⟨rfl, e79, (by decide : 2 + 0 ≤ _), (by decide : 32 + 0 ≤ _)⟩)
  dsimp only [Pt.U, Pt.locs, Pt.cells, Pt.slots] at X84 l84 y84 z84 st84 hQ84
  replace l84 := l84.symm
  subst l84 y84 z84
  obtain ⟨rfl, rfl, e84⟩ := hQ84
  first | rw [List.append_nil] at X84 | skip
  refine Goes.tr st84 ?_
  have e84' : T84.heap = h68 := e84
  show Goes p e below _ (T84.setTop (mkF m 102 #[vr a, vr b, .val (.long rk), .second, vi qq, vi cq, .val .null] [(.int (1 : Int32))]))
  have hc102_86 : ¬ ((1 : Int32) = (0 : Int32)) := (by decide)
  refine Goes.via (fun _ kk_ => XS.ifNo X84.here hx rfl (hb hby d13_102) rfl ((if0 _ _).trans (feq hc102_86).1) kk_) ?_
  show Goes p e below _ (T84.setTop (mkF m 105 #[vr a, vr b, .val (.long rk), .second, vi qq, vi cq, .val .null] []))
  refine gAL X84 hx hby d13_105 rfl rfl ?_
  refine Goes.via (fun _ kk_ => XS.ifnonnullNo X84.here hx rfl (hb hby d13_107) rfl kk_) ?_
  show Goes p e below _ (T84.setTop (mkF m 110 #[vr a, vr b, .val (.long rk), .second, vi qq, vi cq, .val .null] []))
  refine gALN X84 hx hby d13_110 rfl rfl ?_
  have f87 := ((((F4_a_filled.ext E31).other W40 (Or.inl ne4)).ext E52).other W68 (Or.inl ne5))
  obtain ⟨T88, X88, e88, st88⟩ := getF X84 hx hZ hown (host := "") (Or.inl (own_w hw 80 rfl)) Via.refl e84' f87 (g := (mkF m 111 #[vr a, vr b, .val (.long rk), .second, vi qq, vi cq, .val .null] [(.ref a)])) rfl rfl (hb hby d13_111)
  refine Goes.via st88 ?_
  show Goes p e below _ (T88.setTop (mkF m 114 #[vr a, vr b, .val (.long rk), .second, vi qq, vi cq, .val .null] [(.ref fl)]))
  refine gIL X88 hx hby d13_114 rfl ?_
  refine Goes.via (fun _ kk_ => XT.dup2 X88.here hx rfl (hb hby d13_116) rfl rfl rfl kk_) ?_
  show Goes p e below _ (T88.setTop (mkF m 117 #[vr a, vr b, .val (.long rk), .second, vi qq, vi cq, .val .null] [(.int qq), (.ref fl), (.int qq), (.ref fl)]))
  have f89 := ((((A24_fl.ext E31).other W40 (Ne.symm ne19)).ext E52).other W68 (Ne.symm ne20))
  refine Goes.via (own_iaload X88 hx hZ e88 f89 (j := qq) (i := pn) (own_ix HP).1 (own_ix HP).2 Hpn (v := (fF pn)) rfl (g := (mkF m 117 #[vr a, vr b, .val (.long rk), .second, vi qq, vi cq, .val .null] [(.int qq), (.ref fl), (.int qq), (.ref fl)])) rfl rfl (hb hby d13_117)) ?_
  show Goes p e below _ (T88.setTop (mkF m 118 #[vr a, vr b, .val (.long rk), .second, vi qq, vi cq, .val .null] [(.int (fF pn)), (.int qq), (.ref fl)]))
  refine gIC (z := 1) X88 hx hby d13_118 rfl ?_
  refine Goes.via (fun _ kk_ => XS.iadd X88.here hx rfl (hb hby d13_119) rfl kk_) ?_
  show Goes p e below _ (T88.setTop (mkF m 120 #[vr a, vr b, .val (.long rk), .second, vi qq, vi cq, .val .null] [(.int ((fF pn) + (1 : Int32))), (.int qq), (.ref fl)]))
  refine Goes.via (fun _ kk_ => own_dupX2 X88.here hx rfl (hb hby d13_120) rfl rfl rfl rfl kk_) ?_
  show Goes p e below _ (T88.setTop (mkF m 121 #[vr a, vr b, .val (.long rk), .second, vi qq, vi cq, .val .null] [(.int ((fF pn) + (1 : Int32))), (.int qq), (.ref fl), (.int ((fF pn) + (1 : Int32)))]))
  obtain ⟨T90, h90, X90, e90, W90, A90, st90⟩ := own_iastore X88 hx hZ e88 f89 (j := qq) (i := pn) (own_ix HP).1 (own_ix HP).2 Hpn (g := (mkF m 121 #[vr a, vr b, .val (.long rk), .second, vi qq, vi cq, .val .null] [(.int ((fF pn) + (1 : Int32))), (.int qq), (.ref fl), (.int ((fF pn) + (1 : Int32)))])) rfl rfl (hb hby d13_121)
  refine Goes.via st90 ?_
  have N90 := Fr.snoc X90 N68 H40
  show Goes p e below _ (T90.setTop (mkF m 122 #[vr a, vr b, .val (.long rk), .second, vi qq, vi cq, .val .null] [(.int ((fF pn) + (1 : Int32)))]))
  have cv91 : Arw Z h90 fl kF .int nd (fun i => .int ((fun j => if j = pn then (fF pn) + (1 : Int32) else fF j) i)) := A90.to (fun i _ => own_ffi fF pn i _)
  refine gALN X90 hx hby d13_122 rfl rfl ?_
  have f92 := (((f43.ext E52).other W68 (Or.inl ne5)).other W90 (Or.inl ne6))
  obtain ⟨T93, X93, e93, st93⟩ := getF X90 hx hZ hown (host := "") (Or.inl (own_w hw 59 rfl)) Via.refl e90 f92 (g := (mkF m 123 #[vr a, vr b, .val (.long rk), .second, vi qq, vi cq, .val .null] [(.ref a), (.int ((fF pn) + (1 : Int32)))])) rfl rfl (hb hby d13_123)
  refine Goes.via st93 ?_
  show Goes p e below _ (T93.setTop (mkF m 126 #[vr a, vr b, .val (.long rk), .second, vi qq, vi cq, .val .null] [(.ref ow), (.int ((fF pn) + (1 : Int32)))]))
  have f94 := (((f45.ext E52).other W68 (Or.inl ne9)).other W90 (Or.inl ne10))
  have z96 : h0.size ≤ (h90).size := (Nat.le_trans z77 (Nat.le_of_eq W90.size.symm))
  have f97 := (((f48.ext E52).wr W68).wr W90)
  obtain ⟨cq95, kq95, q95a, q95b, q95c⟩ := isOf hZ e93 f97
  obtain ⟨_, _, ⟨T95, L95, k95, n95⟩, -, X95, ⟨Lc95, hQ95, l95, y95, z95⟩, st95⟩ := X93.virtualBack hx (y := mN_Id_space) (z := mN_Id_space) hown (mvT hZ (own_w hw 61 rfl)) (mvT hZ (own_w hw 62 rfl)) (notFace_of_selects (args := #[]) (mvT hZ (own_w hw 64 rfl))) (mvT hZ (own_w hw 64 rfl)) (mvT hZ (own_w hw 63 rfl)) (by decide) (backOf (W := 1) (rm11 l Z a0 hw [] ow sp h90 n0 (Nat.le_trans Z0 z96) f94) hZ (own_w hw 65 rfl) (own_w hw 25 rfl) (by decide) (by decide)) q95a q95c (g := (mkF m 126 #[vr a, vr b, .val (.long rk), .second, vi qq, vi cq, .val .null] [(.ref ow), (.int ((fF pn) + (1 : Int32)))])) rfl (by rw [hml]; rfl) (Steps.refl _) (argsL := []) (rest := [(.int ((fF pn) + (1 : Int32)))]) (lenOf pd_8 rfl) rfl (by show 2 * 0 + _ ≤ _; exact Nat.le_of_eq rfl) (hb hby d13_126) (fun _ _ => ⟨rfl, e93, (by decide : 2 + 0 ≤ _), (by decide : 32 + 0 ≤ _)⟩)
  dsimp only [Pt.U, Pt.locs, Pt.cells, Pt.slots] at X95 l95 y95 z95 st95 hQ95
  replace l95 := l95.symm
  subst l95 y95 z95
  obtain ⟨rfl, rfl, e95⟩ := hQ95
  first | rw [List.append_nil] at X95 | skip
  refine Goes.tr st95 ?_
  have e95' : T95.heap = h90 := e95
  show Goes p e below _ (T95.setTop (mkF m 129 #[vr a, vr b, .val (.long rk), .second, vi qq, vi cq, .val .null] [(.ref sp), (.int ((fF pn) + (1 : Int32)))]))
  have f98 := (f74.other W90 (Or.inl ne17))
  have f100 := (f73.wr W90)
  obtain ⟨cq99, kq99, q99a, q99b, q99c⟩ := isOf hZ e95' f100
  obtain ⟨_, _, ⟨T99, L99, k99, n99⟩, -, X99, ⟨Lc99, hQ99, l99, y99, z99⟩, st99⟩ := X95.virtualBack hx (y := mN_IdSpace_base) (z := mN_IdSpace_base) hown (mvT hZ (own_w hw 107 rfl)) (mvT hZ (own_w hw 108 rfl)) (notFace_of_selects (args := #[]) (mvT hZ (own_w hw 110 rfl))) (mvT hZ (own_w hw 110 rfl)) (mvT hZ (own_w hw 109 rfl)) (by decide) (backOf (W := 1) (rm18 l Z a0 hw [] sp x_ h90 n0 (Nat.le_trans Z0 z96) f98) hZ (own_w hw 111 rfl) (own_w hw 2 rfl) (by decide) (by decide)) q99a q99c (g := (mkF m 129 #[vr a, vr b, .val (.long rk), .second, vi qq, vi cq, .val .null] [(.ref sp), (.int ((fF pn) + (1 : Int32)))])) rfl (by rw [hml]; rfl) (Steps.refl _) (argsL := []) (rest := [(.int ((fF pn) + (1 : Int32)))]) (lenOf pd_2 rfl) rfl (by show 2 * 0 + _ ≤ _; exact Nat.le_of_eq rfl) (hb hby d13_129) (fun _ _ => ⟨rfl, e95', (by decide : 2 + 0 ≤ _), (by decide : 32 + 0 ≤ _)⟩)
  dsimp only [Pt.U, Pt.locs, Pt.cells, Pt.slots] at X99 l99 y99 z99 st99 hQ99
  replace l99 := l99.symm
  subst l99 y99 z99
  obtain ⟨rfl, rfl, e99⟩ := hQ99
  first | rw [List.append_nil] at X99 | skip
  refine Goes.tr st99 ?_
  have e99' : T99.heap = h90 := e99
  show Goes p e below _ (T99.setTop (mkF m 132 #[vr a, vr b, .val (.long rk), .second, vi qq, vi cq, .val .null] [(.int x_), (.int ((fF pn) + (1 : Int32)))]))
  refine gIC (z := 1) X99 hx hby d13_132 rfl ?_
  refine Goes.via (fun _ kk_ => XS.isub X99.here hx rfl (hb hby d13_133) rfl kk_) ?_
  show Goes p e below _ (T99.setTop (mkF m 134 #[vr a, vr b, .val (.long rk), .second, vi qq, vi cq, .val .null] [(.int (x_ - (1 : Int32))), (.int ((fF pn) + (1 : Int32)))]))
  have J186 : ∀ (fv : Int32) (TJ : State) (lcJ : List Loc) (HJ : Heap), (Stand p l e ({ frames := 4, cells := 2, slots := 32, locals := 58 } : Room) s m #[(.ref a), (.ref b), (.long rk)] below meth c TJ lcJ 2 32) → (TJ.heap = HJ) → (Fr n0 lcJ) → (Keep h0 HJ [a, rw, rl, fl]) → (Exa Z HJ a "nearhop/model/RoutingTable") → (Fld Z HJ a "nearhop/model/RoutingTable" "owner" "Lnearhop/model/Id;" (.ref ow)) → (Fld Z HJ a "nearhop/model/RoutingTable" "rows" "[[Lnearhop/model/Id;" (.ref rw)) → (Fld Z HJ a "nearhop/model/RoutingTable" "ranks" "[[J" (.ref rl)) → (Fld Z HJ a "nearhop/model/RoutingTable" "filled" "[I" (.ref fl)) → (Fld Z HJ a "nearhop/model/RoutingTable" "firstOpen" "I" (.int fv)) → (Exa Z HJ ow "nearhop/model/Id") → (Exa Z HJ b "nearhop/model/Id") → (Fld Z HJ ow "nearhop/model/Id" "space" "Lnearhop/model/IdSpace;" (.ref sp)) → (Fld Z HJ ow "nearhop/model/Id" "high" "J" (.long (0 : Int64))) → (Fld Z HJ ow "nearhop/model/Id" "low" "J" (.long w_)) → (Fld Z HJ b "nearhop/model/Id" "space" "Lnearhop/model/IdSpace;" (.ref sp)) → (Fld Z HJ b "nearhop/model/Id" "high" "J" (.long (0 : Int64))) → (Fld Z HJ b "nearhop/model/Id" "low" "J" (.long y_)) → (Exa Z HJ sp "nearhop/model/IdSpace") → (Fld Z HJ sp "nearhop/model/IdSpace" "base" "I" (.int x_)) → (Fld Z HJ sp "nearhop/model/IdSpace" "digits" "I" (.int dg)) → (Exa Z HJ rw "[[Lnearhop/model/Id;") → (Exa Z HJ rl "[[J") → (Exa Z HJ fl "[I") → (Exa Z HJ b31 "[Lnearhop/model/Id;") → (Arw Z HJ b31 k31 (.object "nearhop/model/Id") bn (fun _ => .null)) → (Arw Z HJ rw kR (.array (.object "nearhop/model/Id")) nd (own_upd fR pn (.ref b31))) → (Exa Z HJ b52 "[J") → (Arw Z HJ b52 k52 .long bn (fun _ => (.long 0))) → (Arw Z HJ rl kK (.array .long) nd (own_upd fK pn (.ref b52))) → (Arw Z HJ fl kF .int nd (fun i => .int ((fun j => if j = pn then (fF pn) + (1 : Int32) else fF j) i))) → (0 ≤ fv.toInt) → (fv.toInt ≤ (nd : Int)) → Goes p e below (Fin_ s (QrmON Z a b rk ow sp w_ y_ x_ dg bp rw rl fl kR kK kF fR fK fF fo nd bn pn cn h0 n0) ({ frames := 4, cells := 2, slots := 32, locals := 58 } : Room).cells ({ frames := 4, cells := 2, slots := 32, locals := 58 } : Room).slots) (TJ.setTop (mkF m 186 #[vr a, vr b, .val (.long rk), .second, vi qq, vi cq, .val .null] [])) := by
    intro fv TJ lcJ HJ XJ eJ NJ KJ gj0 gj1 gj2 gj3 gj4 gj5 gj6 gj7 gj8 gj9 gj10 gj11 gj12 gj13 gj14 gj15 gj16 gj17 gj18 gj19 gj20 gj21 gj22 gj23 gj24 gj25 gj26 hf0 hf1
    show Goes p e below _ (TJ.setTop (mkF m 186 #[vr a, vr b, .val (.long rk), .second, vi qq, vi cq, .val .null] []))
    refine gALN XJ hx hby d13_186 rfl rfl ?_
    obtain ⟨T101, X101, e101, st101⟩ := getF XJ hx hZ hown (host := "") (Or.inl (own_w hw 73 rfl)) Via.refl eJ gj2 (g := (mkF m 187 #[vr a, vr b, .val (.long rk), .second, vi qq, vi cq, .val .null] [(.ref a)])) rfl rfl (hb hby d13_187)
    refine Goes.via st101 ?_
    show Goes p e below _ (T101.setTop (mkF m 190 #[vr a, vr b, .val (.long rk), .second, vi qq, vi cq, .val .null] [(.ref rw)]))
    refine gIL X101 hx hby d13_190 rfl ?_
    refine Goes.via (own_aaload X101 hx hZ e101 gj22 rfl (j := qq) (i := pn) (own_ix HP).1 (own_ix HP).2 Hpn (v := (.ref b31)) (own_upd_same _ _ _) (g := (mkF m 192 #[vr a, vr b, .val (.long rk), .second, vi qq, vi cq, .val .null] [(.int qq), (.ref rw)])) rfl rfl (hb hby d13_192)) ?_
    show Goes p e below _ (T101.setTop (mkF m 193 #[vr a, vr b, .val (.long rk), .second, vi qq, vi cq, .val .null] [(.ref b31)]))
    refine gIL X101 hx hby d13_193 rfl ?_
    refine gALN X101 hx hby d13_195 rfl rfl ?_
    obtain ⟨T102, h102, X102, e102, W102, A102, st102⟩ := own_aastore X101 hx hZ e101 gj21 rfl rfl O31 (Ins.self gj7) (j := cq) (i := cn) (own_ix HC).1 (own_ix HC).2 Hcn (g := (mkF m 196 #[vr a, vr b, .val (.long rk), .second, vi qq, vi cq, .val .null] [(.ref b), (.int cq), (.ref b31)])) rfl rfl (hb hby d13_196)
    refine Goes.via st102 ?_
    have N102 := Fr.snoc X102 NJ gn_b31
    show Goes p e below _ (T102.setTop (mkF m 197 #[vr a, vr b, .val (.long rk), .second, vi qq, vi cq, .val .null] []))
    refine gALN X102 hx hby d13_197 rfl rfl ?_
    have f103 := (gj3.other W102 (Or.inl ne32))
    obtain ⟨T104, X104, e104, st104⟩ := getF X102 hx hZ hown (host := "") (Or.inl (own_w hw 77 rfl)) Via.refl e102 f103 (g := (mkF m 198 #[vr a, vr b, .val (.long rk), .second, vi qq, vi cq, .val .null] [(.ref a)])) rfl rfl (hb hby d13_198)
    refine Goes.via st104 ?_
    show Goes p e below _ (T104.setTop (mkF m 201 #[vr a, vr b, .val (.long rk), .second, vi qq, vi cq, .val .null] [(.ref rl)]))
    refine gIL X104 hx hby d13_201 rfl ?_
    have f105 := (gj25.other W102 ne37)
    refine Goes.via (own_aaload X104 hx hZ e104 f105 rfl (j := qq) (i := pn) (own_ix HP).1 (own_ix HP).2 Hpn (v := (.ref b52)) (own_upd_same _ _ _) (g := (mkF m 203 #[vr a, vr b, .val (.long rk), .second, vi qq, vi cq, .val .null] [(.int qq), (.ref rl)])) rfl rfl (hb hby d13_203)) ?_
    show Goes p e below _ (T104.setTop (mkF m 204 #[vr a, vr b, .val (.long rk), .second, vi qq, vi cq, .val .null] [(.ref b52)]))
    refine gIL X104 hx hby d13_204 rfl ?_
    refine Goes.via (fun _ kk_ => XS.lloadN X104.here hx rfl (hb hby d13_206) rfl  kk_) ?_
    show Goes p e below _ (T104.setTop (mkF m 207 #[vr a, vr b, .val (.long rk), .second, vi qq, vi cq, .val .null] [(.long rk), (.int cq), (.ref b52)]))
    have f106 := (gj24.other W102 (Ne.symm ne66))
    obtain ⟨T107, h107, X107, e107, W107, A107, st107⟩ := own_lastore X104 hx hZ e104 f106 (j := cq) (i := cn) (own_ix HC).1 (own_ix HC).2 Hcn (g := (mkF m 207 #[vr a, vr b, .val (.long rk), .second, vi qq, vi cq, .val .null] [(.long rk), (.int cq), (.ref b52)])) rfl rfl (hb hby d13_207)
    refine Goes.via st107 ?_
    have N107 := Fr.snoc X107 N102 gn_b52
    show Goes p e below _ (T107.setTop (mkF m 208 #[vr a, vr b, .val (.long rk), .second, vi qq, vi cq, .val .null] []))
    refine gALN X107 hx hby d13_208 rfl rfl ?_
    refine gAL X107 hx hby d13_209 rfl rfl ?_
    have z109 : h0.size ≤ (h107).size := (Nat.le_trans (Nat.le_trans KJ.1 (Nat.le_of_eq W102.size.symm)) (Nat.le_of_eq W107.size.symm))
    have f110 := ((gj7.wr W102).wr W107)
    obtain ⟨cq108, kq108, q108a, q108b, q108c⟩ := isOf hZ e107 f110
    obtain ⟨_, _, ⟨T108, L108, k108, n108⟩, -, X108, ⟨Lc108, hQ108, l108, y108, z108⟩, st108⟩ := X107.virtualBack hx (y := mN_Id_equals) (z := mN_Id_equals) hown (mvT hZ (own_w hw 87 rfl)) (mvT hZ (own_w hw 88 rfl)) (notFace_of_selects (args := #[]) (mvT hZ (own_w hw 90 rfl))) (mvT hZ (own_w hw 90 rfl)) (mvT hZ (own_w hw 89 rfl)) (by decide) (backOf (W := 0) (rmEq0 l Z a0 hw [] b h107 n0 (Nat.le_trans Z0 z109) ) hZ (own_w hw 91 rfl) (own_w hw 25 rfl) (by decide) (by decide)) q108a q108c (g := (mkF m 211 #[vr a, vr b, .val (.long rk), .second, vi qq, vi cq, .val .null] [.null, (.ref b)])) rfl (by rw [hml]; rfl) (Steps.refl _) (argsL := [.null]) (rest := []) (lenOf pd_10 rfl) rfl (by show 2 * 0 + _ ≤ _; exact Nat.le_of_eq rfl) (hb hby d13_211) (fun _ _ => ⟨rfl, e107, (by decide : 2 + 0 ≤ _), (by decide : 32 + 0 ≤ _)⟩)
    dsimp only [Pt.U, Pt.locs, Pt.cells, Pt.slots] at X108 l108 y108 z108 st108 hQ108
    replace l108 := l108.symm
    subst l108 y108 z108
    obtain ⟨rfl, rfl, e108⟩ := hQ108
    first | rw [List.append_nil] at X108 | skip
    refine Goes.tr st108 ?_
    have e108' : T108.heap = h107 := e108
    show Goes p e below _ (T108.setTop (mkF m 214 #[vr a, vr b, .val (.long rk), .second, vi qq, vi cq, .val .null] [(.int (0 : Int32))]))
    have hc214_111 : (0 : Int32) = (0 : Int32) := (by decide)
    refine Goes.via (fun _ kk_ => XS.ifNo X108.here hx rfl (hb hby d13_214) rfl ((if0 _ _).trans (teq hc214_111).2) kk_) ?_
    show Goes p e below _ (T108.setTop (mkF m 217 #[vr a, vr b, .val (.long rk), .second, vi qq, vi cq, .val .null] []))
    refine gIC (z := 1) X108 hx hby d13_217 rfl ?_
    refine Goes.via (fun _ kk_ => XS.goto X108.here hx rfl (pc0 := 218) (pc' := 222) rfl (hb hby d13_218) (by decide) (by decide) kk_) ?_
    show Goes p e below _ (T108.setTop (mkF m 222 #[vr a, vr b, .val (.long rk), .second, vi qq, vi cq, .val .null] [(.int (1 : Int32))]))
    have K112 : Keep h0 h107 [a, rw, rl, fl] := ((KJ.wr W102 (Or.inr sz_b31)).wr W107 (Or.inr sz_b52))
    have f113 := ((gj0.wr W102).wr W107)
    have f114 := ((gj1.other W102 (Or.inl ne32)).other W107 (Or.inl ne54))
    have f115 := ((gj2.other W102 (Or.inl ne32)).other W107 (Or.inl ne54))
    have f116 := (f103.other W107 (Or.inl ne54))
    have f117 := ((gj4.other W102 (Or.inl ne32)).other W107 (Or.inl ne54))
    have f118 := ((gj5.other W102 (Or.inl ne32)).other W107 (Or.inl ne54))
    have f119 := ((gj17.wr W102).wr W107)
    have f120 := ((gj22.other W102 ne36).other W107 ne60)
    have f121 := ((gj18.wr W102).wr W107)
    have f122 := (f105.other W107 ne62)
    have f123 := ((gj19.wr W102).wr W107)
    have f124 := ((gj26.other W102 ne38).other W107 ne64)
    have f125 := ((gj20.wr W102).wr W107)
    have f126 := (A102.other W107 ne66)
    have f127 := ((gj23.wr W102).wr W107)
    exact own_finN X108 hx hlk hret (by simp) (hb hby d13_222) (by rw [e108']; exact ⟨b31, b52, k31, k52, fv, (fun j => if j = pn then (fF pn) + (1 : Int32) else fF j), rfl, N107, K112, f113, f114, f115, f116, f117, f118, f119, f120, f121, f122, f123, f124, sz_b31, sz_b52, f125, f126, f127, A107, O31, (by first | exact hf0 | exact Hfo0), (by first | exact hf1 | exact Hfo1)⟩) (by first | decide | omega | (dsimp only; omega)) (by first | decide | omega | (dsimp only; omega))
  show Goes p e below _ (T99.setTop (mkF m 134 #[vr a, vr b, .val (.long rk), .second, vi qq, vi cq, .val .null] [(.int (x_ - (1 : Int32))), (.int ((fF pn) + (1 : Int32)))]))
  by_cases hc134 : ((fF pn) + (1 : Int32)) = (x_ - (1 : Int32))
  · skip
    refine Goes.via (fun _ kk_ => XS.icmpNo X99.here hx rfl (hb hby d13_134) rfl (teq hc134).2 kk_) ?_
    show Goes p e below _ (T99.setTop (mkF m 137 #[vr a, vr b, .val (.long rk), .second, vi qq, vi cq, .val .null] []))
    have f129 := (f85.wr W90)
    have f130 := (f78.other W90 (Or.inl ne6))
    have f131 := (f82.other W90 (Or.inl ne6))
    have f132 := (f87.other W90 (Or.inl ne6))
    have f133 := (((((F5_a_firstOpen.ext E31).other W40 (Or.inl ne4)).ext E52).other W68 (Or.inl ne5)).other W90 (Or.inl ne6))
    have f134 := (f69.wr W90)
    have f135 := (((((F10_ow_high.ext E31).other W40 (Or.inl ne8)).ext E52).other W68 (Or.inl ne9)).other W90 (Or.inl ne10))
    have f136 := (((((F11_ow_low.ext E31).other W40 (Or.inl ne8)).ext E52).other W68 (Or.inl ne9)).other W90 (Or.inl ne10))
    have f137 := (f70.other W90 (Or.inl ne14))
    have f138 := (f71.other W90 (Or.inl ne14))
    have f139 := (f72.other W90 (Or.inl ne14))
    have f140 := (f75.other W90 (Or.inl ne17))
    have f141 := (((f59.ext E52).wr W68).wr W90)
    have f142 := (((f61.ext E52).wr W68).wr W90)
    have f143 := (((f63.ext E52).wr W68).wr W90)
    have f144 := (((f65.ext E52).wr W68).wr W90)
    have f145 := (f81.other W90 (Ne.symm ne38))
    have f146 := (f80.other W90 ne19)
    have f147 := ((C52.wr W68).wr W90)
    have f148 := (f83.other W90 (Ne.symm ne64))
    have f149 := (A68.other W90 ne20)
    have K150 : Keep h0 h90 [a, rw, rl, fl] := ((((((Keep.refl h0 [a, rw, rl, fl]).ext E31).wr W40 (Or.inl (List.mem_of_getElem? (i := 1) rfl))).ext E52).wr W68 (Or.inl (List.mem_of_getElem? (i := 2) rfl))).wr W90 (Or.inl (List.mem_of_getElem? (i := 3) rfl)))
    have lp128 : ∀ (fu128 : Nat) (fv : Int32) (T128 : State) (lc128 : List Loc) (H128 : Heap), (Stand p l e ({ frames := 4, cells := 2, slots := 32, locals := 58 } : Room) s m #[(.ref a), (.ref b), (.long rk)] below meth c T128 lc128 2 32) → (T128.heap = H128) → (Fr n0 lc128) → (Keep h0 H128 [a, rw, rl, fl]) → (Exa Z H128 a "nearhop/model/RoutingTable") → (Fld Z H128 a "nearhop/model/RoutingTable" "owner" "Lnearhop/model/Id;" (.ref ow)) → (Fld Z H128 a "nearhop/model/RoutingTable" "rows" "[[Lnearhop/model/Id;" (.ref rw)) → (Fld Z H128 a "nearhop/model/RoutingTable" "ranks" "[[J" (.ref rl)) → (Fld Z H128 a "nearhop/model/RoutingTable" "filled" "[I" (.ref fl)) → (Fld Z H128 a "nearhop/model/RoutingTable" "firstOpen" "I" (.int fv)) → (Exa Z H128 ow "nearhop/model/Id") → (Exa Z H128 b "nearhop/model/Id") → (Fld Z H128 ow "nearhop/model/Id" "space" "Lnearhop/model/IdSpace;" (.ref sp)) → (Fld Z H128 ow "nearhop/model/Id" "high" "J" (.long (0 : Int64))) → (Fld Z H128 ow "nearhop/model/Id" "low" "J" (.long w_)) → (Fld Z H128 b "nearhop/model/Id" "space" "Lnearhop/model/IdSpace;" (.ref sp)) → (Fld Z H128 b "nearhop/model/Id" "high" "J" (.long (0 : Int64))) → (Fld Z H128 b "nearhop/model/Id" "low" "J" (.long y_)) → (Exa Z H128 sp "nearhop/model/IdSpace") → (Fld Z H128 sp "nearhop/model/IdSpace" "base" "I" (.int x_)) → (Fld Z H128 sp "nearhop/model/IdSpace" "digits" "I" (.int dg)) → (Exa Z H128 rw "[[Lnearhop/model/Id;") → (Exa Z H128 rl "[[J") → (Exa Z H128 fl "[I") → (Exa Z H128 b31 "[Lnearhop/model/Id;") → (Arw Z H128 b31 k31 (.object "nearhop/model/Id") bn (fun _ => .null)) → (Arw Z H128 rw kR (.array (.object "nearhop/model/Id")) nd (own_upd fR pn (.ref b31))) → (Exa Z H128 b52 "[J") → (Arw Z H128 b52 k52 .long bn (fun _ => (.long 0))) → (Arw Z H128 rl kK (.array .long) nd (own_upd fK pn (.ref b52))) → (Arw Z H128 fl kF .int nd (fun i => .int ((fun j => if j = pn then (fF pn) + (1 : Int32) else fF j) i))) → (0 ≤ fv.toInt) → (fv.toInt ≤ (nd : Int)) → ((nd : Int) < fv.toInt + (fu128 : Int)) → Goes p e below (Fin_ s (QrmON Z a b rk ow sp w_ y_ x_ dg bp rw rl fl kR kK kF fR fK fF fo nd bn pn cn h0 n0) ({ frames := 4, cells := 2, slots := 32, locals := 58 } : Room).cells ({ frames := 4, cells := 2, slots := 32, locals := 58 } : Room).slots) (T128.setTop (mkF m 137 #[vr a, vr b, .val (.long rk), .second, vi qq, vi cq, .val .null] [])) := by
      intro fu128
      induction fu128 with
      | zero =>
        intro fv T128 lc128 H128 X128 e128 N128 K128 g128_0 g128_1 g128_2 g128_3 g128_4 g128_5 g128_6 g128_7 g128_8 g128_9 g128_10 g128_11 g128_12 g128_13 g128_14 g128_15 g128_16 g128_17 g128_18 g128_19 g128_20 g128_21 g128_22 g128_23 g128_24 g128_25 g128_26 hf0 hf1 hfu
        (exact absurd hfu (by omega))
      | succ fu128 ih128 =>
        intro fv T128 lc128 H128 X128 e128 N128 K128 g128_0 g128_1 g128_2 g128_3 g128_4 g128_5 g128_6 g128_7 g128_8 g128_9 g128_10 g128_11 g128_12 g128_13 g128_14 g128_15 g128_16 g128_17 g128_18 g128_19 g128_20 g128_21 g128_22 g128_23 g128_24 g128_25 g128_26 hf0 hf1 hfu
        refine gALN X128 hx hby d13_137 rfl rfl ?_
        obtain ⟨T151, X151, e151, st151⟩ := getF X128 hx hZ hown (host := "") (Or.inl (own_w hw 127 rfl)) Via.refl e128 g128_5 (g := (mkF m 138 #[vr a, vr b, .val (.long rk), .second, vi qq, vi cq, .val .null] [(.ref a)])) rfl rfl (hb hby d13_138)
        refine Goes.via st151 ?_
        show Goes p e below _ (T151.setTop (mkF m 141 #[vr a, vr b, .val (.long rk), .second, vi qq, vi cq, .val .null] [(.int fv)]))
        refine gALN X151 hx hby d13_141 rfl rfl ?_
        obtain ⟨T152, X152, e152, st152⟩ := getF X151 hx hZ hown (host := "") (Or.inl (own_w hw 73 rfl)) Via.refl e151 g128_2 (g := (mkF m 142 #[vr a, vr b, .val (.long rk), .second, vi qq, vi cq, .val .null] [(.ref a), (.int fv)])) rfl rfl (hb hby d13_142)
        refine Goes.via st152 ?_
        show Goes p e below _ (T152.setTop (mkF m 145 #[vr a, vr b, .val (.long rk), .second, vi qq, vi cq, .val .null] [(.ref rw), (.int fv)]))
        refine Goes.via (own_alen X152 hx hZ e152 g128_22 (g := (mkF m 145 #[vr a, vr b, .val (.long rk), .second, vi qq, vi cq, .val .null] [(.ref rw), (.int fv)])) rfl rfl (hb hby d13_145)) ?_
        show Goes p e below _ (T152.setTop (mkF m 146 #[vr a, vr b, .val (.long rk), .second, vi qq, vi cq, .val .null] [(.int (nd : Nat).toInt32), (.int fv)]))
        by_cases hc146 : fv < (nd : Nat).toInt32
        · skip
          refine Goes.via (fun _ kk_ => XS.icmpNo X152.here hx rfl (hb hby d13_146) rfl (tlt hc146).2.1 kk_) ?_
          show Goes p e below _ (T152.setTop (mkF m 149 #[vr a, vr b, .val (.long rk), .second, vi qq, vi cq, .val .null] []))
          have hlt : fv.toInt < (nd : Int) := by have q := own_lti.mp hc146; rw [len_toInt (by omega)] at q; exact q
          obtain ⟨nf, hnf⟩ : ∃ z : Nat, fv.toInt = (z : Int) := ⟨fv.toInt.toNat, by omega⟩
          refine gALN X152 hx hby d13_149 rfl rfl ?_
          obtain ⟨T153, X153, e153, st153⟩ := getF X152 hx hZ hown (host := "") (Or.inl (own_w hw 80 rfl)) Via.refl e152 g128_4 (g := (mkF m 150 #[vr a, vr b, .val (.long rk), .second, vi qq, vi cq, .val .null] [(.ref a)])) rfl rfl (hb hby d13_150)
          refine Goes.via st153 ?_
          show Goes p e below _ (T153.setTop (mkF m 153 #[vr a, vr b, .val (.long rk), .second, vi qq, vi cq, .val .null] [(.ref fl)]))
          refine gALN X153 hx hby d13_153 rfl rfl ?_
          obtain ⟨T154, X154, e154, st154⟩ := getF X153 hx hZ hown (host := "") (Or.inl (own_w hw 127 rfl)) Via.refl e153 g128_5 (g := (mkF m 154 #[vr a, vr b, .val (.long rk), .second, vi qq, vi cq, .val .null] [(.ref a), (.ref fl)])) rfl rfl (hb hby d13_154)
          refine Goes.via st154 ?_
          show Goes p e below _ (T154.setTop (mkF m 157 #[vr a, vr b, .val (.long rk), .second, vi qq, vi cq, .val .null] [(.int fv), (.ref fl)]))
          refine Goes.via (own_iaload X154 hx hZ e154 g128_26 (j := fv) (i := nf) (own_ix hnf).1 (own_ix hnf).2 (by omega) (v := ((fun j => if j = pn then (fF pn) + (1 : Int32) else fF j) nf)) rfl (g := (mkF m 157 #[vr a, vr b, .val (.long rk), .second, vi qq, vi cq, .val .null] [(.int fv), (.ref fl)])) rfl rfl (hb hby d13_157)) ?_
          show Goes p e below _ (T154.setTop (mkF m 158 #[vr a, vr b, .val (.long rk), .second, vi qq, vi cq, .val .null] [(.int ((fun j => if j = pn then (fF pn) + (1 : Int32) else fF j) nf))]))
          refine gALN X154 hx hby d13_158 rfl rfl ?_
          obtain ⟨T155, X155, e155, st155⟩ := getF X154 hx hZ hown (host := "") (Or.inl (own_w hw 59 rfl)) Via.refl e154 g128_1 (g := (mkF m 159 #[vr a, vr b, .val (.long rk), .second, vi qq, vi cq, .val .null] [(.ref a), (.int ((fun j => if j = pn then (fF pn) + (1 : Int32) else fF j) nf))])) rfl rfl (hb hby d13_159)
          refine Goes.via st155 ?_
          show Goes p e below _ (T155.setTop (mkF m 162 #[vr a, vr b, .val (.long rk), .second, vi qq, vi cq, .val .null] [(.ref ow), (.int ((fun j => if j = pn then (fF pn) + (1 : Int32) else fF j) nf))]))
          obtain ⟨cq156, kq156, q156a, q156b, q156c⟩ := isOf hZ e155 g128_6
          obtain ⟨_, _, ⟨T156, L156, k156, n156⟩, -, X156, ⟨Lc156, hQ156, l156, y156, z156⟩, st156⟩ := X155.virtualBack hx (y := mN_Id_space) (z := mN_Id_space) hown (mvT hZ (own_w hw 61 rfl)) (mvT hZ (own_w hw 62 rfl)) (notFace_of_selects (args := #[]) (mvT hZ (own_w hw 64 rfl))) (mvT hZ (own_w hw 64 rfl)) (mvT hZ (own_w hw 63 rfl)) (by decide) (backOf (W := 1) (rm11 l Z a0 hw [] ow sp H128 n0 (Nat.le_trans Z0 K128.1) g128_8) hZ (own_w hw 65 rfl) (own_w hw 25 rfl) (by decide) (by decide)) q156a q156c (g := (mkF m 162 #[vr a, vr b, .val (.long rk), .second, vi qq, vi cq, .val .null] [(.ref ow), (.int ((fun j => if j = pn then (fF pn) + (1 : Int32) else fF j) nf))])) rfl (by rw [hml]; rfl) (Steps.refl _) (argsL := []) (rest := [(.int ((fun j => if j = pn then (fF pn) + (1 : Int32) else fF j) nf))]) (lenOf pd_8 rfl) rfl (by show 2 * 0 + _ ≤ _; exact Nat.le_of_eq rfl) (hb hby d13_162) (fun _ _ => ⟨rfl, e155, (by decide : 2 + 0 ≤ _), (by decide : 32 + 0 ≤ _)⟩)
          dsimp only [Pt.U, Pt.locs, Pt.cells, Pt.slots] at X156 l156 y156 z156 st156 hQ156
          replace l156 := l156.symm
          subst l156 y156 z156
          obtain ⟨rfl, rfl, e156⟩ := hQ156
          first | rw [List.append_nil] at X156 | skip
          refine Goes.tr st156 ?_
          have e156' : T156.heap = H128 := e156
          show Goes p e below _ (T156.setTop (mkF m 165 #[vr a, vr b, .val (.long rk), .second, vi qq, vi cq, .val .null] [(.ref sp), (.int ((fun j => if j = pn then (fF pn) + (1 : Int32) else fF j) nf))]))
          obtain ⟨cq157, kq157, q157a, q157b, q157c⟩ := isOf hZ e156' g128_14
          obtain ⟨_, _, ⟨T157, L157, k157, n157⟩, -, X157, ⟨Lc157, hQ157, l157, y157, z157⟩, st157⟩ := X156.virtualBack hx (y := mN_IdSpace_base) (z := mN_IdSpace_base) hown (mvT hZ (own_w hw 107 rfl)) (mvT hZ (own_w hw 108 rfl)) (notFace_of_selects (args := #[]) (mvT hZ (own_w hw 110 rfl))) (mvT hZ (own_w hw 110 rfl)) (mvT hZ (own_w hw 109 rfl)) (by decide) (backOf (W := 1) (rm18 l Z a0 hw [] sp x_ H128 n0 (Nat.le_trans Z0 K128.1) g128_15) hZ (own_w hw 111 rfl) (own_w hw 2 rfl) (by decide) (by decide)) q157a q157c (g := (mkF m 165 #[vr a, vr b, .val (.long rk), .second, vi qq, vi cq, .val .null] [(.ref sp), (.int ((fun j => if j = pn then (fF pn) + (1 : Int32) else fF j) nf))])) rfl (by rw [hml]; rfl) (Steps.refl _) (argsL := []) (rest := [(.int ((fun j => if j = pn then (fF pn) + (1 : Int32) else fF j) nf))]) (lenOf pd_2 rfl) rfl (by show 2 * 0 + _ ≤ _; exact Nat.le_of_eq rfl) (hb hby d13_165) (fun _ _ => ⟨rfl, e156', (by decide : 2 + 0 ≤ _), (by decide : 32 + 0 ≤ _)⟩)
          dsimp only [Pt.U, Pt.locs, Pt.cells, Pt.slots] at X157 l157 y157 z157 st157 hQ157
          replace l157 := l157.symm
          subst l157 y157 z157
          obtain ⟨rfl, rfl, e157⟩ := hQ157
          first | rw [List.append_nil] at X157 | skip
          refine Goes.tr st157 ?_
          have e157' : T157.heap = H128 := e157
          show Goes p e below _ (T157.setTop (mkF m 168 #[vr a, vr b, .val (.long rk), .second, vi qq, vi cq, .val .null] [(.int x_), (.int ((fun j => if j = pn then (fF pn) + (1 : Int32) else fF j) nf))]))
          refine gIC (z := 1) X157 hx hby d13_168 rfl ?_
          refine Goes.via (fun _ kk_ => XS.isub X157.here hx rfl (hb hby d13_169) rfl kk_) ?_
          show Goes p e below _ (T157.setTop (mkF m 170 #[vr a, vr b, .val (.long rk), .second, vi qq, vi cq, .val .null] [(.int (x_ - (1 : Int32))), (.int ((fun j => if j = pn then (fF pn) + (1 : Int32) else fF j) nf))]))
          by_cases hc170 : ((fun j => if j = pn then (fF pn) + (1 : Int32) else fF j) nf) = (x_ - (1 : Int32))
          · skip
            refine Goes.via (fun _ kk_ => XS.icmpNo X157.here hx rfl (hb hby d13_170) rfl (teq hc170).2 kk_) ?_
            show Goes p e below _ (T157.setTop (mkF m 173 #[vr a, vr b, .val (.long rk), .second, vi qq, vi cq, .val .null] []))
            refine gALN X157 hx hby d13_173 rfl rfl ?_
            refine gDU X157 hx hby d13_174 rfl ?_
            obtain ⟨T158, X158, e158, st158⟩ := getF X157 hx hZ hown (host := "") (Or.inl (own_w hw 127 rfl)) Via.refl e157' g128_5 (g := (mkF m 175 #[vr a, vr b, .val (.long rk), .second, vi qq, vi cq, .val .null] [(.ref a), (.ref a)])) rfl rfl (hb hby d13_175)
            refine Goes.via st158 ?_
            show Goes p e below _ (T158.setTop (mkF m 178 #[vr a, vr b, .val (.long rk), .second, vi qq, vi cq, .val .null] [(.int fv), (.ref a)]))
            refine gIC (z := 1) X158 hx hby d13_178 rfl ?_
            refine Goes.via (fun _ kk_ => XS.iadd X158.here hx rfl (hb hby d13_179) rfl kk_) ?_
            show Goes p e below _ (T158.setTop (mkF m 180 #[vr a, vr b, .val (.long rk), .second, vi qq, vi cq, .val .null] [(.int (fv + (1 : Int32))), (.ref a)]))
            obtain ⟨T159, h159, X159, e159, W159, st159⟩ := putF X158 hx hZ hown (host := "") (Or.inl (own_w hw 127 rfl)) Via.refl e158 g128_5 g128_0 (Or.inl (own_w hw 128 rfl)) (own_w hw 53 rfl) (ty := .int) (by decide) rfl rfl (g := (mkF m 180 #[vr a, vr b, .val (.long rk), .second, vi qq, vi cq, .val .null] [(.int (fv + (1 : Int32))), (.ref a)])) rfl rfl (hb hby d13_180)
            refine Goes.via st159 ?_
            have N159 := Fr.snoc X159 N128 H37
            have Fw159 : Fld Z h159 a "nearhop/model/RoutingTable" "firstOpen" "I" (.int (fv + (1 : Int32))) := g128_5.same W159
            show Goes p e below _ (T159.setTop (mkF m 183 #[vr a, vr b, .val (.long rk), .second, vi qq, vi cq, .val .null] []))
            refine Goes.via (fun _ kk_ => XS.goto X159.here hx rfl (pc0 := 183) (pc' := 137) rfl (hb hby d13_183) (by decide) (by decide) kk_) ?_
            show Goes p e below _ (T159.setTop (mkF m 137 #[vr a, vr b, .val (.long rk), .second, vi qq, vi cq, .val .null] []))
            have f160 := (g128_0.wr W159)
            have f161 := (g128_1.other W159 (Or.inr (slot_ne (Or.inr (own_w hw 60 rfl)) (Or.inl (own_w hw 128 rfl)) (by decide) (t := (.object "nearhop/model/Id")) (t' := .int) (by decide) (by decide))))
            have f162 := (g128_2.other W159 (Or.inr (slot_ne (Or.inr (own_w hw 74 rfl)) (Or.inl (own_w hw 128 rfl)) (by decide) (t := (.array (.array (.object "nearhop/model/Id")))) (t' := .int) (by decide) (by decide))))
            have f163 := (g128_3.other W159 (Or.inr (slot_ne (Or.inr (own_w hw 78 rfl)) (Or.inl (own_w hw 128 rfl)) (by decide) (t := (.array (.array .long))) (t' := .int) (by decide) (by decide))))
            have f164 := (g128_4.other W159 (Or.inr (slot_ne (Or.inr (own_w hw 81 rfl)) (Or.inl (own_w hw 128 rfl)) (by decide) (t := (.array .int)) (t' := .int) (by decide) (by decide))))
            have f165 := (g128_6.wr W159)
            have f166 := (g128_7.wr W159)
            have f167 := (g128_8.other W159 (Or.inl (Ne.symm ne1)))
            have f168 := (g128_9.other W159 (Or.inl (Ne.symm ne1)))
            have f169 := (g128_10.other W159 (Or.inl (Ne.symm ne1)))
            have f170 := (g128_11.other W159 (Or.inl (Ne.symm ne2)))
            have f171 := (g128_12.other W159 (Or.inl (Ne.symm ne2)))
            have f172 := (g128_13.other W159 (Or.inl (Ne.symm ne2)))
            have f173 := (g128_14.wr W159)
            have f174 := (g128_15.other W159 (Or.inl (Ne.symm ne3)))
            have f175 := (g128_16.other W159 (Or.inl (Ne.symm ne3)))
            have f176 := (g128_17.wr W159)
            have f177 := (g128_18.wr W159)
            have f178 := (g128_19.wr W159)
            have f179 := (g128_20.wr W159)
            have f180 := (g128_21.other W159 (Ne.symm ne32))
            have f181 := (g128_22.other W159 (Ne.symm ne4))
            have f182 := (g128_23.wr W159)
            have f183 := (g128_24.other W159 (Ne.symm ne54))
            have f184 := (g128_25.other W159 (Ne.symm ne5))
            have f185 := (g128_26.other W159 (Ne.symm ne6))
            have K186 : Keep h0 h159 [a, rw, rl, fl] := (K128.wr W159 (Or.inl (List.mem_of_getElem? (i := 0) rfl)))
            exact ih128 ((fv + (1 : Int32))) _ _ _ X159 e159 N159 K186 f160 f161 f162 f163 f164 Fw159 f165 f166 f167 f168 f169 f170 f171 f172 f173 f174 f175 f176 f177 f178 f179 f180 f181 f182 f183 f184 f185 (by have q := own_fo hf0 hlt Hn3; omega) (by have q := own_fo hf0 hlt Hn3; omega) (by have q := own_fo hf0 hlt Hn3; push_cast at hfu ⊢; omega)
          · skip
            refine Goes.via (fun _ kk_ => XS.icmpYes X157.here hx rfl (pc0 := 170) (pc' := 186) rfl (hb hby d13_170) rfl (feq hc170).2 (by decide) (by decide) kk_) ?_
            show Goes p e below _ (T157.setTop (mkF m 186 #[vr a, vr b, .val (.long rk), .second, vi qq, vi cq, .val .null] []))
            exact J186 fv _ _ _ X157 e157' N128 K128 g128_0 g128_1 g128_2 g128_3 g128_4 g128_5 g128_6 g128_7 g128_8 g128_9 g128_10 g128_11 g128_12 g128_13 g128_14 g128_15 g128_16 g128_17 g128_18 g128_19 g128_20 g128_21 g128_22 g128_23 g128_24 g128_25 g128_26 hf0 hf1
        · skip
          refine Goes.via (fun _ kk_ => XS.icmpYes X152.here hx rfl (pc0 := 146) (pc' := 186) rfl (hb hby d13_146) rfl (flt hc146).2.1 (by decide) (by decide) kk_) ?_
          show Goes p e below _ (T152.setTop (mkF m 186 #[vr a, vr b, .val (.long rk), .second, vi qq, vi cq, .val .null] []))
          exact J186 fv _ _ _ X152 e152 N128 K128 g128_0 g128_1 g128_2 g128_3 g128_4 g128_5 g128_6 g128_7 g128_8 g128_9 g128_10 g128_11 g128_12 g128_13 g128_14 g128_15 g128_16 g128_17 g128_18 g128_19 g128_20 g128_21 g128_22 g128_23 g128_24 g128_25 g128_26 hf0 hf1
    exact lp128 (nd + 1) (fo) _ _ _ X99 e99' N90 K150 f129 f92 f130 f131 f132 f133 f97 f134 f94 f135 f136 f137 f138 f139 f100 f98 f140 f141 f142 f143 f144 f145 f146 f147 f148 f149 cv91 Hfo0 Hfo1 (by omega)
  · skip
    refine Goes.via (fun _ kk_ => XS.icmpYes X99.here hx rfl (pc0 := 134) (pc' := 186) rfl (hb hby d13_134) rfl (feq hc134).2 (by decide) (by decide) kk_) ?_
    show Goes p e below _ (T99.setTop (mkF m 186 #[vr a, vr b, .val (.long rk), .second, vi qq, vi cq, .val .null] []))
    have K187 : Keep h0 h90 [a, rw, rl, fl] := ((((((Keep.refl h0 [a, rw, rl, fl]).ext E31).wr W40 (Or.inl (List.mem_of_getElem? (i := 1) rfl))).ext E52).wr W68 (Or.inl (List.mem_of_getElem? (i := 2) rfl))).wr W90 (Or.inl (List.mem_of_getElem? (i := 3) rfl)))
    have f188 := (f85.wr W90)
    have f189 := (f78.other W90 (Or.inl ne6))
    have f190 := (f82.other W90 (Or.inl ne6))
    have f191 := (f87.other W90 (Or.inl ne6))
    have f192 := (((((F5_a_firstOpen.ext E31).other W40 (Or.inl ne4)).ext E52).other W68 (Or.inl ne5)).other W90 (Or.inl ne6))
    have f193 := (f69.wr W90)
    have f194 := (((((F10_ow_high.ext E31).other W40 (Or.inl ne8)).ext E52).other W68 (Or.inl ne9)).other W90 (Or.inl ne10))
    have f195 := (((((F11_ow_low.ext E31).other W40 (Or.inl ne8)).ext E52).other W68 (Or.inl ne9)).other W90 (Or.inl ne10))
    have f196 := (f70.other W90 (Or.inl ne14))
    have f197 := (f71.other W90 (Or.inl ne14))
    have f198 := (f72.other W90 (Or.inl ne14))
    have f199 := (f75.other W90 (Or.inl ne17))
    have f200 := (((f59.ext E52).wr W68).wr W90)
    have f201 := (((f61.ext E52).wr W68).wr W90)
    have f202 := (((f63.ext E52).wr W68).wr W90)
    have f203 := (((f65.ext E52).wr W68).wr W90)
    have f204 := (f81.other W90 (Ne.symm ne38))
    have f205 := (f80.other W90 ne19)
    have f206 := ((C52.wr W68).wr W90)
    have f207 := (f83.other W90 (Ne.symm ne64))
    have f208 := (A68.other W90 ne20)
    exact J186 fo _ _ _ X99 e99' N90 K187 f188 f92 f189 f190 f191 f192 f97 f193 f94 f194 f195 f196 f197 f198 f100 f98 f199 f200 f201 f202 f203 f204 f205 f206 f207 f208 cv91 Hfo0 Hfo1
theorem ef_rmOS (m : MethodId) (a : Addr) (b : Addr) (rk : Int64) : entryFrame m #[(.ref a), (.ref b), (.long rk)] 7 = mkF m 0 #[.val (.ref a), .val (.ref b), .val (.long rk), .second, .unset, .unset, .unset] [] := by first | (simp [entryFrame, mkF, argsToLocals, Value.category]; done) | rfl
def QrmOS (Z : State) (a : Addr) (b : Addr) (rk : Int64) (ow : Addr) (sp : Addr) (w_ : Int64) (y_ : Int64) (x_ : Int32) (dg : Int32) (bp : Int32) (rw : Addr) (rl : Addr) (fl : Addr) (kR : ClassId) (kK : ClassId) (kF : ClassId) (fR : Nat → Value) (fK : Nat → Value) (fF : Nat → Int32) (fo : Int32) (nd : Nat) (bn : Nat) (pn : Nat) (cn : Nat) (r1 : Addr) (r2 : Addr) (k1 : ClassId) (k2 : ClassId) (g1 : Nat → Value) (g2 : Nat → Value) (hv : Int64) (h0 : Heap) (n0 : Nat) (v_ : Option Value) (h_ : Heap) (L_ : List Loc) : Prop := ∃ fo' : Int32, ∃ fF' : Nat → Int32, v_ = some (.int (1 : Int32)) ∧ Fr n0 L_ ∧ Keep h0 h_ [a, fl, r1, r2] ∧ Exa Z h_ a "nearhop/model/RoutingTable" ∧ Fld Z h_ a "nearhop/model/RoutingTable" "owner" "Lnearhop/model/Id;" (.ref ow) ∧ Fld Z h_ a "nearhop/model/RoutingTable" "rows" "[[Lnearhop/model/Id;" (.ref rw) ∧ Fld Z h_ a "nearhop/model/RoutingTable" "ranks" "[[J" (.ref rl) ∧ Fld Z h_ a "nearhop/model/RoutingTable" "filled" "[I" (.ref fl) ∧ Fld Z h_ a "nearhop/model/RoutingTable" "firstOpen" "I" (.int fo') ∧ Exa Z h_ fl "[I" ∧ Arw Z h_ fl kF .int nd (fun i => .int (fF' i)) ∧ Exa Z h_ r1 "[Lnearhop/model/Id;" ∧ Arw Z h_ r1 k1 (.object "nearhop/model/Id") bn (own_upd g1 cn (.ref b)) ∧ Exa Z h_ r2 "[J" ∧ Arw Z h_ r2 k2 .long bn (own_upd g2 cn (.long rk)) ∧ 0 ≤ fo'.toInt ∧ fo'.toInt ≤ (nd : Int)
set_option maxRecDepth 65536 in
set_option maxHeartbeats 40000000 in
theorem rmOS (l : Launch) (Z : State) (a0 : Array Value) (hw : ∀ d ∈ tables_1, d.before a0 Z = true) (ws : List Jvm.Cond) (a : Addr) (b : Addr) (rk : Int64) (ow : Addr) (sp : Addr) (w_ : Int64) (y_ : Int64) (x_ : Int32) (dg : Int32) (bp : Int32) (rw : Addr) (rl : Addr) (fl : Addr) (kR : ClassId) (kK : ClassId) (kF : ClassId) (fR : Nat → Value) (fK : Nat → Value) (fF : Nat → Int32) (fo : Int32) (nd : Nat) (bn : Nat) (pn : Nat) (cn : Nat) (r1 : Addr) (r2 : Addr) (k1 : ClassId) (k2 : ClassId) (g1 : Nat → Value) (g2 : Nat → Value) (hv : Int64) (h0 : Heap) (n0 : Nat) (Z0 : n0 ≤ h0.size) (E0_a : Exa Z h0 a "nearhop/model/RoutingTable") (F1_a_owner : Fld Z h0 a "nearhop/model/RoutingTable" "owner" "Lnearhop/model/Id;" (.ref ow)) (F2_a_rows : Fld Z h0 a "nearhop/model/RoutingTable" "rows" "[[Lnearhop/model/Id;" (.ref rw)) (F3_a_ranks : Fld Z h0 a "nearhop/model/RoutingTable" "ranks" "[[J" (.ref rl)) (F4_a_filled : Fld Z h0 a "nearhop/model/RoutingTable" "filled" "[I" (.ref fl)) (F5_a_firstOpen : Fld Z h0 a "nearhop/model/RoutingTable" "firstOpen" "I" (.int fo)) (E6_ow : Exa Z h0 ow "nearhop/model/Id") (E7_b : Exa Z h0 b "nearhop/model/Id") (HNo : b ≠ ow) (F9_ow_space : Fld Z h0 ow "nearhop/model/Id" "space" "Lnearhop/model/IdSpace;" (.ref sp)) (F10_ow_high : Fld Z h0 ow "nearhop/model/Id" "high" "J" (.long (0 : Int64))) (F11_ow_low : Fld Z h0 ow "nearhop/model/Id" "low" "J" (.long w_)) (F12_b_space : Fld Z h0 b "nearhop/model/Id" "space" "Lnearhop/model/IdSpace;" (.ref sp)) (F13_b_high : Fld Z h0 b "nearhop/model/Id" "high" "J" (.long (0 : Int64))) (F14_b_low : Fld Z h0 b "nearhop/model/Id" "low" "J" (.long y_)) (E15_sp : Exa Z h0 sp "nearhop/model/IdSpace") (F16_sp_base : Fld Z h0 sp "nearhop/model/IdSpace" "base" "I" (.int x_)) (F17_sp_digits : Fld Z h0 sp "nearhop/model/IdSpace" "digits" "I" (.int dg)) (HB : own_bb x_ bp) (E19_rw : Exa Z h0 rw "[[Lnearhop/model/Id;") (A20_rw : Arw Z h0 rw kR (.array (.object "nearhop/model/Id")) nd fR) (E21_rl : Exa Z h0 rl "[[J") (A22_rl : Arw Z h0 rl kK (.array .long) nd fK) (E23_fl : Exa Z h0 fl "[I") (A24_fl : Arw Z h0 fl kF .int nd (fun i => .int (fF i))) (Hne : ¬ y_ = w_) (HP : ((if (w_ ^^^ y_) = (0 : Int64) then dg else (((64 : Int32) + (own_nlzL (w_ ^^^ y_))) - ((128 : Int32) - (dg * bp))) / bp)).toInt = (pn : Int)) (Hpn : pn < nd) (HC : (own_dgt y_ (if (w_ ^^^ y_) = (0 : Int64) then dg else (((64 : Int32) + (own_nlzL (w_ ^^^ y_))) - ((128 : Int32) - (dg * bp))) / bp) x_ dg bp).toInt = (cn : Int)) (Hcn : cn < bn) (Hbn : x_.toInt = (bn : Int)) (Hb16 : bn ≤ 16) (Hn3 : nd ≤ 3) (Hfo0 : 0 ≤ fo.toInt) (Hfo1 : fo.toInt ≤ (nd : Int)) (E35_r1 : Exa Z h0 r1 "[Lnearhop/model/Id;") (A36_r1 : Arw Z h0 r1 k1 (.object "nearhop/model/Id") bn g1) (E37_r2 : Exa Z h0 r2 "[J") (A38_r2 : Arw Z h0 r2 k2 .long bn g2) (HfR : fR pn = .ref r1) (HfK : fK pn = .ref r2) (Hhv : g2 cn = .long hv) (OVr : Ovr Z k1 "nearhop/model/Id") (H43 : n0 ≤ a) (H44 : n0 ≤ fl) (H45 : n0 ≤ r1) (H46 : n0 ≤ r2) (Hg1 : g1 cn = .null) :
    MetFree l (⟨"nearhop/model/RoutingTable", "offer", "(Lnearhop/model/Id;J)Z"⟩ : MethodName) (head1 (Jvm.Cond.code (⟨"nearhop/model/RoutingTable", "offer", "(Lnearhop/model/Id;J)Z"⟩ : MethodName) prog_120_method_2_code 7 (some .boolean) :: ws) ({ frames := 4, cells := 0, slots := 0, locals := 58 } : Room)) (fun as_ U_ => as_ = #[(.ref a), (.ref b), (.long rk)] ∧ Z.Warmed39 U_.vm ∧ U_.heap = h0) (fun _ _ _ _ _ => True) (fun _ U_ o_ V_ => ∃ v_ L_, o_ = .returned v_ ∧ QrmOS Z a b rk ow sp w_ y_ x_ dg bp rw rl fl kR kK kF fR fK fF fo nd bn pn cn r1 r2 k1 k2 g1 g2 hv h0 n0 v_ V_.heap L_ ∧ FrameEnd U_ o_ V_ L_ ({ frames := 4, cells := 0, slots := 0, locals := 58 } : Room).cells ({ frames := 4, cells := 0, slots := 0, locals := 58 } : Room).slots) := by
  refine MetFree.of_bodySF (plainFor_of_name pn_nearhop_model_RoutingTable) hisR ?_
  intro p e s m args below meth c s₁ Bd hml0 hP hK
  obtain ⟨rfl, hZ, hh⟩ := hP
  have hx := Bd.exec
  have hby := Bd.bytes
  have hlk : meth.locks = false := BodyLoose.notSynchronized Bd
  have hret := Bd.returns
  have hml : c.maxLocals = 7 := hml0
  have hown : s.vm.findClass "nearhop/model/RoutingTable" = some m.cls := findClass_of_methodNamed Bd.named
  have hnm := (name_of_methodNamed Bd.named Bd.method).1
  have X0 : Stand p l e ({ frames := 4, cells := 0, slots := 0, locals := 58 } : Room) s m #[(.ref a), (.ref b), (.long rk)] below meth c s₁ [] 0 0 := Stand.of_body Bd
  have e0 : s₁.heap = h0 := by rw [← hh, Bd.state]; rfl
  have N0 := Fr.nil n0
  show Goes p e below (Fin_ s (QrmOS Z a b rk ow sp w_ y_ x_ dg bp rw rl fl kR kK kF fR fK fF fo nd bn pn cn r1 r2 k1 k2 g1 g2 hv h0 n0) ({ frames := 4, cells := 0, slots := 0, locals := 58 } : Room).cells ({ frames := 4, cells := 0, slots := 0, locals := 58 } : Room).slots) (s₁.setTop (entryFrame m #[(.ref a), (.ref b), (.long rk)] 7))
  rw [ef_rmOS m a b rk]
  have ne1 : a ≠ ow := ne_exa E0_a E6_ow (by decide)
  have ne2 : a ≠ b := ne_exa E0_a E7_b (by decide)
  have ne3 : a ≠ sp := ne_exa E0_a E15_sp (by decide)
  have ne4 : a ≠ rw := ne_exa E0_a E19_rw (by decide)
  have ne5 : a ≠ rl := ne_exa E0_a E21_rl (by decide)
  have ne6 : a ≠ fl := ne_exa E0_a E23_fl (by decide)
  have ne7 : a ≠ r1 := ne_exa E0_a E35_r1 (by decide)
  have ne8 : a ≠ r2 := ne_exa E0_a E37_r2 (by decide)
  have ne12 : ow ≠ fl := ne_exa E6_ow E23_fl (by decide)
  have ne18 : b ≠ fl := ne_exa E7_b E23_fl (by decide)
  have ne23 : sp ≠ fl := ne_exa E15_sp E23_fl (by decide)
  have ne27 : rw ≠ fl := ne_exa E19_rw E23_fl (by decide)
  have ne30 : rl ≠ fl := ne_exa E21_rl E23_fl (by decide)
  have ne31 : rl ≠ r1 := ne_exa E21_rl E35_r1 (by decide)
  have ne33 : fl ≠ r1 := ne_exa E23_fl E35_r1 (by decide)
  have ne34 : fl ≠ r2 := ne_exa E23_fl E37_r2 (by decide)
  have ne35 : r1 ≠ r2 := ne_exa E35_r1 E37_r2 (by decide)
  refine gALN X0 hx hby d13_0 rfl rfl ?_
  refine gALN X0 hx hby d13_1 rfl rfl ?_
  obtain ⟨T36, X36, e36, st36⟩ := getF X0 hx hZ hown (host := "") (Or.inl (own_w hw 59 rfl)) Via.refl e0 F1_a_owner (g := (mkF m 2 #[vr a, vr b, .val (.long rk), .second, .unset, .unset, .unset] [(.ref a), (.ref b)])) rfl rfl (hb hby d13_2)
  refine Goes.via st36 ?_
  show Goes p e below _ (T36.setTop (mkF m 5 #[vr a, vr b, .val (.long rk), .second, .unset, .unset, .unset] [(.ref ow), (.ref b)]))
  obtain ⟨cq37, kq37, q37a, q37b, q37c⟩ := isOf hZ e36 E7_b
  obtain ⟨_, _, ⟨T37, L37, k37, n37⟩, -, X37, ⟨Lc37, hQ37, l37, y37, z37⟩, st37⟩ := X36.virtualBack hx (y := mN_Id_equals) (z := mN_Id_equals) hown (mvT hZ (own_w hw 87 rfl)) (mvT hZ (own_w hw 88 rfl)) (notFace_of_selects (args := #[]) (mvT hZ (own_w hw 90 rfl))) (mvT hZ (own_w hw 90 rfl)) (mvT hZ (own_w hw 89 rfl)) (by decide) (backOf (W := 0) (rmEq l Z a0 hw [] b ow sp y_ w_ h0 n0 (Nat.le_trans Z0 (Nat.le_refl _)) HNo E6_ow F12_b_space F13_b_high F14_b_low F9_ow_space F10_ow_high F11_ow_low) hZ (own_w hw 91 rfl) (own_w hw 25 rfl) (by decide) (by decide)) q37a q37c (g := (mkF m 5 #[vr a, vr b, .val (.long rk), .second, .unset, .unset, .unset] [(.ref ow), (.ref b)])) rfl (by rw [hml]; rfl) (Steps.refl _) (argsL := [(.ref ow)]) (rest := []) (lenOf pd_10 rfl) rfl (by show 2 * 0 + _ ≤ _; exact Nat.le_of_eq rfl) (hb hby d13_5) (fun _ _ => ⟨rfl, e36, (by decide : 0 + 0 ≤ _), (by decide : 0 + 0 ≤ _)⟩)
  dsimp only [Pt.U, Pt.locs, Pt.cells, Pt.slots] at X37 l37 y37 z37 st37 hQ37
  replace l37 := l37.symm
  subst l37 y37 z37
  obtain ⟨rfl, rfl, e37⟩ := hQ37
  first | rw [List.append_nil] at X37 | skip
  refine Goes.tr st37 ?_
  have e37' : T37.heap = h0 := e37
  show Goes p e below _ (T37.setTop (mkF m 8 #[vr a, vr b, .val (.long rk), .second, .unset, .unset, .unset] [(.int (if y_ = w_ then (1 : Int32) else (0 : Int32)))]))
  have hc8_38 : (if y_ = w_ then (1 : Int32) else (0 : Int32)) = (0 : Int32) := (if_neg Hne)
  refine Goes.via (fun _ kk_ => XS.ifYes X37.here hx rfl (pc0 := 8) (pc' := 13) rfl (hb hby d13_8) rfl ((if0 _ _).trans (teq hc8_38).1) (by decide) (by decide) kk_) ?_
  show Goes p e below _ (T37.setTop (mkF m 13 #[vr a, vr b, .val (.long rk), .second, .unset, .unset, .unset] []))
  refine gALN X37 hx hby d13_13 rfl rfl ?_
  obtain ⟨T39, X39, e39, st39⟩ := getF X37 hx hZ hown (host := "") (Or.inl (own_w hw 59 rfl)) Via.refl e37' F1_a_owner (g := (mkF m 14 #[vr a, vr b, .val (.long rk), .second, .unset, .unset, .unset] [(.ref a)])) rfl rfl (hb hby d13_14)
  refine Goes.via st39 ?_
  show Goes p e below _ (T39.setTop (mkF m 17 #[vr a, vr b, .val (.long rk), .second, .unset, .unset, .unset] [(.ref ow)]))
  refine gALN X39 hx hby d13_17 rfl rfl ?_
  obtain ⟨cq40, kq40, q40a, q40b, q40c⟩ := isOf hZ e39 E6_ow
  obtain ⟨_, _, ⟨T40, L40, k40, n40⟩, -, X40, ⟨Lc40, hQ40, l40, y40, z40⟩, st40⟩ := X39.virtualBack hx (y := mN_Id_sharedPrefixLength) (z := mN_Id_sharedPrefixLength) hown (mvT hZ (own_w hw 94 rfl)) (mvT hZ (own_w hw 95 rfl)) (notFace_of_selects (args := #[]) (mvT hZ (own_w hw 97 rfl))) (mvT hZ (own_w hw 97 rfl)) (mvT hZ (own_w hw 96 rfl)) (by decide) (backOf (W := 0) (rmPre l Z a0 hw [] ow b sp w_ y_ x_ dg bp h0 n0 (Nat.le_trans Z0 (Nat.le_refl _)) F9_ow_space F10_ow_high F11_ow_low F12_b_space F13_b_high F14_b_low E15_sp F16_sp_base F17_sp_digits HB) hZ (own_w hw 98 rfl) (own_w hw 25 rfl) (by decide) (by decide)) q40a q40c (g := (mkF m 18 #[vr a, vr b, .val (.long rk), .second, .unset, .unset, .unset] [(.ref b), (.ref ow)])) rfl (by rw [hml]; rfl) (Steps.refl _) (argsL := [(.ref b)]) (rest := []) (lenOf pd_9 rfl) rfl (by show 2 * 0 + _ ≤ _; exact Nat.le_of_eq rfl) (hb hby d13_18) (fun _ _ => ⟨rfl, e39, (by decide : 0 + 0 ≤ _), (by decide : 0 + 0 ≤ _)⟩)
  dsimp only [Pt.U, Pt.locs, Pt.cells, Pt.slots] at X40 l40 y40 z40 st40 hQ40
  replace l40 := l40.symm
  subst l40 y40 z40
  obtain ⟨rfl, rfl, e40⟩ := hQ40
  first | rw [List.append_nil] at X40 | skip
  refine Goes.tr st40 ?_
  have e40' : T40.heap = h0 := e40
  show Goes p e below _ (T40.setTop (mkF m 21 #[vr a, vr b, .val (.long rk), .second, .unset, .unset, .unset] [(.int (if (w_ ^^^ y_) = (0 : Int64) then dg else (((64 : Int32) + (own_nlzL (w_ ^^^ y_))) - ((128 : Int32) - (dg * bp))) / bp))]))
  refine Goes.via (fun _ kk_ => XS.istore X40.here hx rfl (hb hby d13_21) rfl (l' := #[vr a, vr b, .val (.long rk), .second, vi (if (w_ ^^^ y_) = (0 : Int64) then dg else (((64 : Int32) + (own_nlzL (w_ ^^^ y_))) - ((128 : Int32) - (dg * bp))) / bp), .unset, .unset]) rfl kk_) ?_
  show Goes p e below _ (T40.setTop (mkF m 23 #[vr a, vr b, .val (.long rk), .second, vi (if (w_ ^^^ y_) = (0 : Int64) then dg else (((64 : Int32) + (own_nlzL (w_ ^^^ y_))) - ((128 : Int32) - (dg * bp))) / bp), .unset, .unset] []))
  generalize (if (w_ ^^^ y_) = (0 : Int64) then dg else (((64 : Int32) + (own_nlzL (w_ ^^^ y_))) - ((128 : Int32) - (dg * bp))) / bp) = qq at HP HC ⊢
  show Goes p e below _ (T40.setTop (mkF m 23 #[vr a, vr b, .val (.long rk), .second, vi qq, .unset, .unset] []))
  refine gALN X40 hx hby d13_23 rfl rfl ?_
  obtain ⟨T41, X41, e41, st41⟩ := getF X40 hx hZ hown (host := "") (Or.inl (own_w hw 73 rfl)) Via.refl e40' F2_a_rows (g := (mkF m 24 #[vr a, vr b, .val (.long rk), .second, vi qq, .unset, .unset] [(.ref a)])) rfl rfl (hb hby d13_24)
  refine Goes.via st41 ?_
  show Goes p e below _ (T41.setTop (mkF m 27 #[vr a, vr b, .val (.long rk), .second, vi qq, .unset, .unset] [(.ref rw)]))
  refine gIL X41 hx hby d13_27 rfl ?_
  refine Goes.via (own_aaload X41 hx hZ e41 A20_rw rfl (j := qq) (i := pn) (own_ix HP).1 (own_ix HP).2 Hpn (v := (.ref r1)) HfR (g := (mkF m 29 #[vr a, vr b, .val (.long rk), .second, vi qq, .unset, .unset] [(.int qq), (.ref rw)])) rfl rfl (hb hby d13_29)) ?_
  show Goes p e below _ (T41.setTop (mkF m 30 #[vr a, vr b, .val (.long rk), .second, vi qq, .unset, .unset] [(.ref r1)]))
  refine Goes.via (fun _ kk_ => XS.ifnonnullYes X41.here hx rfl (pc0 := 30) (pc' := 72) rfl (hb hby d13_30) rfl (by decide) (by decide) kk_) ?_
  show Goes p e below _ (T41.setTop (mkF m 72 #[vr a, vr b, .val (.long rk), .second, vi qq, .unset, .unset] []))
  refine gALN X41 hx hby d13_72 rfl rfl ?_
  refine gIL X41 hx hby d13_73 rfl ?_
  obtain ⟨cq42, kq42, q42a, q42b, q42c⟩ := isOf hZ e41 E7_b
  obtain ⟨_, _, ⟨T42, L42, k42, n42⟩, -, X42, ⟨Lc42, hQ42, l42, y42, z42⟩, st42⟩ := X41.virtualBack hx (y := mN_Id_digit) (z := mN_Id_digit) hown (mvT hZ (own_w hw 117 rfl)) (mvT hZ (own_w hw 118 rfl)) (notFace_of_selects (args := #[]) (mvT hZ (own_w hw 120 rfl))) (mvT hZ (own_w hw 120 rfl)) (mvT hZ (own_w hw 119 rfl)) (by decide) (backOf (W := 0) (rm19 l Z a0 hw [] y_ qq x_ dg bp b sp h0 n0 (Nat.le_trans Z0 (Nat.le_refl _)) E7_b F12_b_space F13_b_high F14_b_low E15_sp F16_sp_base F17_sp_digits HB) hZ (own_w hw 121 rfl) (own_w hw 25 rfl) (by decide) (by decide)) q42a q42c (g := (mkF m 75 #[vr a, vr b, .val (.long rk), .second, vi qq, .unset, .unset] [(.int qq), (.ref b)])) rfl (by rw [hml]; rfl) (Steps.refl _) (argsL := [(.int qq)]) (rest := []) (lenOf pd_1 rfl) rfl (by show 2 * 0 + _ ≤ _; exact Nat.le_of_eq rfl) (hb hby d13_75) (fun _ _ => ⟨rfl, e41, (by decide : 0 + 0 ≤ _), (by decide : 0 + 0 ≤ _)⟩)
  dsimp only [Pt.U, Pt.locs, Pt.cells, Pt.slots] at X42 l42 y42 z42 st42 hQ42
  replace l42 := l42.symm
  subst l42 y42 z42
  obtain ⟨rfl, rfl, e42⟩ := hQ42
  first | rw [List.append_nil] at X42 | skip
  refine Goes.tr st42 ?_
  have e42' : T42.heap = h0 := e42
  show Goes p e below _ (T42.setTop (mkF m 78 #[vr a, vr b, .val (.long rk), .second, vi qq, .unset, .unset] [(.int (own_dgt y_ qq x_ dg bp))]))
  refine Goes.via (fun _ kk_ => XS.istore X42.here hx rfl (hb hby d13_78) rfl (l' := #[vr a, vr b, .val (.long rk), .second, vi qq, vi (own_dgt y_ qq x_ dg bp), .unset]) rfl kk_) ?_
  show Goes p e below _ (T42.setTop (mkF m 80 #[vr a, vr b, .val (.long rk), .second, vi qq, vi (own_dgt y_ qq x_ dg bp), .unset] []))
  generalize (own_dgt y_ qq x_ dg bp) = cq at HC ⊢
  show Goes p e below _ (T42.setTop (mkF m 80 #[vr a, vr b, .val (.long rk), .second, vi qq, vi cq, .unset] []))
  refine gALN X42 hx hby d13_80 rfl rfl ?_
  obtain ⟨T43, X43, e43, st43⟩ := getF X42 hx hZ hown (host := "") (Or.inl (own_w hw 73 rfl)) Via.refl e42' F2_a_rows (g := (mkF m 81 #[vr a, vr b, .val (.long rk), .second, vi qq, vi cq, .unset] [(.ref a)])) rfl rfl (hb hby d13_81)
  refine Goes.via st43 ?_
  show Goes p e below _ (T43.setTop (mkF m 84 #[vr a, vr b, .val (.long rk), .second, vi qq, vi cq, .unset] [(.ref rw)]))
  refine gIL X43 hx hby d13_84 rfl ?_
  refine Goes.via (own_aaload X43 hx hZ e43 A20_rw rfl (j := qq) (i := pn) (own_ix HP).1 (own_ix HP).2 Hpn (v := (.ref r1)) HfR (g := (mkF m 86 #[vr a, vr b, .val (.long rk), .second, vi qq, vi cq, .unset] [(.int qq), (.ref rw)])) rfl rfl (hb hby d13_86)) ?_
  show Goes p e below _ (T43.setTop (mkF m 87 #[vr a, vr b, .val (.long rk), .second, vi qq, vi cq, .unset] [(.ref r1)]))
  refine gIL X43 hx hby d13_87 rfl ?_
  refine Goes.via (own_aaload X43 hx hZ e43 A36_r1 rfl (j := cq) (i := cn) (own_ix HC).1 (own_ix HC).2 Hcn (v := .null) Hg1 (g := (mkF m 89 #[vr a, vr b, .val (.long rk), .second, vi qq, vi cq, .unset] [(.int cq), (.ref r1)])) rfl rfl (hb hby d13_89)) ?_
  show Goes p e below _ (T43.setTop (mkF m 90 #[vr a, vr b, .val (.long rk), .second, vi qq, vi cq, .unset] [.null]))
  refine Goes.via (fun _ kk_ => XS.astore X43.here hx rfl (hb hby d13_90) rfl rfl (l' := #[vr a, vr b, .val (.long rk), .second, vi qq, vi cq, .val .null]) rfl kk_) ?_
  show Goes p e below _ (T43.setTop (mkF m 92 #[vr a, vr b, .val (.long rk), .second, vi qq, vi cq, .val .null] []))
  refine gALN X43 hx hby d13_92 rfl rfl ?_
  refine gIL X43 hx hby d13_93 rfl ?_
  refine gIL X43 hx hby d13_95 rfl ?_
  refine gALN X43 hx hby d13_97 rfl rfl ?_
  refine Goes.via (fun _ kk_ => XS.lloadN X43.here hx rfl (hb hby d13_98) rfl  kk_) ?_
  show Goes p e below _ (T43.setTop (mkF m 99 #[vr a, vr b, .val (.long rk), .second, vi qq, vi cq, .val .null] [(.long rk), (.ref b), (.int cq), (.int qq), (.ref a)]))
  obtain ⟨cq44, q44, q44'⟩ := E0_a.cell
  obtain ⟨_, _, ⟨T44, L44, k44, n44⟩, -, X44, ⟨Lc44, hQ44, l44, y44, z44⟩, st44⟩ := X43.privateBack hx (y := mN_RoutingTable_takes) hown (mvT hZ (own_w hw 123 rfl)) (mvT hZ (own_w hw 124 rfl)) (mvT hZ (own_selP (y := mN_RoutingTable_takes) (own_w hw 53 rfl) (own_w hw 125 rfl) (own_w hw 124 rfl) (by decide))) (Cond.privateMethod_at (mvP hZ (own_w hw 125 rfl) (args := #[]))) (mvT hZ (own_w hw 126 rfl)) (by decide) (backOf (W := 0) (rmTkN l Z a0 hw [] a qq cq b rk rw rl kR kK fR fK r1 r2 k1 k2 g1 g2 nd bn pn cn hv h0 n0 (Nat.le_trans Z0 (Nat.le_refl _)) F2_a_rows F3_a_ranks A20_rw A22_rl A36_r1 A38_r2 HP Hpn HC Hcn HfR HfK Hhv Hg1) hZ (own_w hw 126 rfl) (own_w hw 54 rfl) (by decide) (by decide)) (g := (mkF m 99 #[vr a, vr b, .val (.long rk), .second, vi qq, vi cq, .val .null] [(.long rk), (.ref b), (.int cq), (.int qq), (.ref a)])) rfl (by rw [hml]; rfl) (Steps.refl _) (a := a) (by rw [e43]; exact q44) q44' (argsL := [(.int qq), (.int cq), (.ref b), (.long rk)]) (rest := []) (lenOf pd_11 rfl) rfl (by show 2 * 0 + _ ≤ _; exact Nat.le_of_eq rfl) (hb hby d13_99) (fun _ _ => ⟨rfl, e43, (by decide : 0 + 0 ≤ _), (by decide : 0 + 0 ≤ _)⟩)
  dsimp only [Pt.U, Pt.locs, Pt.cells, Pt.slots] at X44 l44 y44 z44 st44 hQ44
  replace l44 := l44.symm
  subst l44 y44 z44
  obtain ⟨rfl, rfl, e44⟩ := hQ44
  first | rw [List.append_nil] at X44 | skip
  refine Goes.tr st44 ?_
  have e44' : T44.heap = h0 := e44
  show Goes p e below _ (T44.setTop (mkF m 102 #[vr a, vr b, .val (.long rk), .second, vi qq, vi cq, .val .null] [(.int (1 : Int32))]))
  have hc102_45 : ¬ ((1 : Int32) = (0 : Int32)) := (by decide)
  refine Goes.via (fun _ kk_ => XS.ifNo X44.here hx rfl (hb hby d13_102) rfl ((if0 _ _).trans (feq hc102_45).1) kk_) ?_
  show Goes p e below _ (T44.setTop (mkF m 105 #[vr a, vr b, .val (.long rk), .second, vi qq, vi cq, .val .null] []))
  refine gAL X44 hx hby d13_105 rfl rfl ?_
  refine Goes.via (fun _ kk_ => XS.ifnonnullNo X44.here hx rfl (hb hby d13_107) rfl kk_) ?_
  show Goes p e below _ (T44.setTop (mkF m 110 #[vr a, vr b, .val (.long rk), .second, vi qq, vi cq, .val .null] []))
  refine gALN X44 hx hby d13_110 rfl rfl ?_
  obtain ⟨T46, X46, e46, st46⟩ := getF X44 hx hZ hown (host := "") (Or.inl (own_w hw 80 rfl)) Via.refl e44' F4_a_filled (g := (mkF m 111 #[vr a, vr b, .val (.long rk), .second, vi qq, vi cq, .val .null] [(.ref a)])) rfl rfl (hb hby d13_111)
  refine Goes.via st46 ?_
  show Goes p e below _ (T46.setTop (mkF m 114 #[vr a, vr b, .val (.long rk), .second, vi qq, vi cq, .val .null] [(.ref fl)]))
  refine gIL X46 hx hby d13_114 rfl ?_
  refine Goes.via (fun _ kk_ => XT.dup2 X46.here hx rfl (hb hby d13_116) rfl rfl rfl kk_) ?_
  show Goes p e below _ (T46.setTop (mkF m 117 #[vr a, vr b, .val (.long rk), .second, vi qq, vi cq, .val .null] [(.int qq), (.ref fl), (.int qq), (.ref fl)]))
  refine Goes.via (own_iaload X46 hx hZ e46 A24_fl (j := qq) (i := pn) (own_ix HP).1 (own_ix HP).2 Hpn (v := (fF pn)) rfl (g := (mkF m 117 #[vr a, vr b, .val (.long rk), .second, vi qq, vi cq, .val .null] [(.int qq), (.ref fl), (.int qq), (.ref fl)])) rfl rfl (hb hby d13_117)) ?_
  show Goes p e below _ (T46.setTop (mkF m 118 #[vr a, vr b, .val (.long rk), .second, vi qq, vi cq, .val .null] [(.int (fF pn)), (.int qq), (.ref fl)]))
  refine gIC (z := 1) X46 hx hby d13_118 rfl ?_
  refine Goes.via (fun _ kk_ => XS.iadd X46.here hx rfl (hb hby d13_119) rfl kk_) ?_
  show Goes p e below _ (T46.setTop (mkF m 120 #[vr a, vr b, .val (.long rk), .second, vi qq, vi cq, .val .null] [(.int ((fF pn) + (1 : Int32))), (.int qq), (.ref fl)]))
  refine Goes.via (fun _ kk_ => own_dupX2 X46.here hx rfl (hb hby d13_120) rfl rfl rfl rfl kk_) ?_
  show Goes p e below _ (T46.setTop (mkF m 121 #[vr a, vr b, .val (.long rk), .second, vi qq, vi cq, .val .null] [(.int ((fF pn) + (1 : Int32))), (.int qq), (.ref fl), (.int ((fF pn) + (1 : Int32)))]))
  obtain ⟨T47, h47, X47, e47, W47, A47, st47⟩ := own_iastore X46 hx hZ e46 A24_fl (j := qq) (i := pn) (own_ix HP).1 (own_ix HP).2 Hpn (g := (mkF m 121 #[vr a, vr b, .val (.long rk), .second, vi qq, vi cq, .val .null] [(.int ((fF pn) + (1 : Int32))), (.int qq), (.ref fl), (.int ((fF pn) + (1 : Int32)))])) rfl rfl (hb hby d13_121)
  refine Goes.via st47 ?_
  have N47 := Fr.snoc X47 N0 H44
  show Goes p e below _ (T47.setTop (mkF m 122 #[vr a, vr b, .val (.long rk), .second, vi qq, vi cq, .val .null] [(.int ((fF pn) + (1 : Int32)))]))
  have cv48 : Arw Z h47 fl kF .int nd (fun i => .int ((fun j => if j = pn then (fF pn) + (1 : Int32) else fF j) i)) := A47.to (fun i _ => own_ffi fF pn i _)
  refine gALN X47 hx hby d13_122 rfl rfl ?_
  have f49 := (F1_a_owner.other W47 (Or.inl ne6))
  obtain ⟨T50, X50, e50, st50⟩ := getF X47 hx hZ hown (host := "") (Or.inl (own_w hw 59 rfl)) Via.refl e47 f49 (g := (mkF m 123 #[vr a, vr b, .val (.long rk), .second, vi qq, vi cq, .val .null] [(.ref a), (.int ((fF pn) + (1 : Int32)))])) rfl rfl (hb hby d13_123)
  refine Goes.via st50 ?_
  show Goes p e below _ (T50.setTop (mkF m 126 #[vr a, vr b, .val (.long rk), .second, vi qq, vi cq, .val .null] [(.ref ow), (.int ((fF pn) + (1 : Int32)))]))
  have f51 := (F9_ow_space.other W47 (Or.inl ne12))
  have z53 : h0.size ≤ (h47).size := (Nat.le_trans (Nat.le_refl _) (Nat.le_of_eq W47.size.symm))
  have f54 := (E6_ow.wr W47)
  obtain ⟨cq52, kq52, q52a, q52b, q52c⟩ := isOf hZ e50 f54
  obtain ⟨_, _, ⟨T52, L52, k52, n52⟩, -, X52, ⟨Lc52, hQ52, l52, y52, z52⟩, st52⟩ := X50.virtualBack hx (y := mN_Id_space) (z := mN_Id_space) hown (mvT hZ (own_w hw 61 rfl)) (mvT hZ (own_w hw 62 rfl)) (notFace_of_selects (args := #[]) (mvT hZ (own_w hw 64 rfl))) (mvT hZ (own_w hw 64 rfl)) (mvT hZ (own_w hw 63 rfl)) (by decide) (backOf (W := 1) (rm11 l Z a0 hw [] ow sp h47 n0 (Nat.le_trans Z0 z53) f51) hZ (own_w hw 65 rfl) (own_w hw 25 rfl) (by decide) (by decide)) q52a q52c (g := (mkF m 126 #[vr a, vr b, .val (.long rk), .second, vi qq, vi cq, .val .null] [(.ref ow), (.int ((fF pn) + (1 : Int32)))])) rfl (by rw [hml]; rfl) (Steps.refl _) (argsL := []) (rest := [(.int ((fF pn) + (1 : Int32)))]) (lenOf pd_8 rfl) rfl (by show 2 * 0 + _ ≤ _; exact Nat.le_of_eq rfl) (hb hby d13_126) (fun _ _ => ⟨rfl, e50, (by decide : 0 + 0 ≤ _), (by decide : 0 + 0 ≤ _)⟩)
  dsimp only [Pt.U, Pt.locs, Pt.cells, Pt.slots] at X52 l52 y52 z52 st52 hQ52
  replace l52 := l52.symm
  subst l52 y52 z52
  obtain ⟨rfl, rfl, e52⟩ := hQ52
  first | rw [List.append_nil] at X52 | skip
  refine Goes.tr st52 ?_
  have e52' : T52.heap = h47 := e52
  show Goes p e below _ (T52.setTop (mkF m 129 #[vr a, vr b, .val (.long rk), .second, vi qq, vi cq, .val .null] [(.ref sp), (.int ((fF pn) + (1 : Int32)))]))
  have f55 := (F16_sp_base.other W47 (Or.inl ne23))
  have f57 := (E15_sp.wr W47)
  obtain ⟨cq56, kq56, q56a, q56b, q56c⟩ := isOf hZ e52' f57
  obtain ⟨_, _, ⟨T56, L56, k56, n56⟩, -, X56, ⟨Lc56, hQ56, l56, y56, z56⟩, st56⟩ := X52.virtualBack hx (y := mN_IdSpace_base) (z := mN_IdSpace_base) hown (mvT hZ (own_w hw 107 rfl)) (mvT hZ (own_w hw 108 rfl)) (notFace_of_selects (args := #[]) (mvT hZ (own_w hw 110 rfl))) (mvT hZ (own_w hw 110 rfl)) (mvT hZ (own_w hw 109 rfl)) (by decide) (backOf (W := 1) (rm18 l Z a0 hw [] sp x_ h47 n0 (Nat.le_trans Z0 z53) f55) hZ (own_w hw 111 rfl) (own_w hw 2 rfl) (by decide) (by decide)) q56a q56c (g := (mkF m 129 #[vr a, vr b, .val (.long rk), .second, vi qq, vi cq, .val .null] [(.ref sp), (.int ((fF pn) + (1 : Int32)))])) rfl (by rw [hml]; rfl) (Steps.refl _) (argsL := []) (rest := [(.int ((fF pn) + (1 : Int32)))]) (lenOf pd_2 rfl) rfl (by show 2 * 0 + _ ≤ _; exact Nat.le_of_eq rfl) (hb hby d13_129) (fun _ _ => ⟨rfl, e52', (by decide : 0 + 0 ≤ _), (by decide : 0 + 0 ≤ _)⟩)
  dsimp only [Pt.U, Pt.locs, Pt.cells, Pt.slots] at X56 l56 y56 z56 st56 hQ56
  replace l56 := l56.symm
  subst l56 y56 z56
  obtain ⟨rfl, rfl, e56⟩ := hQ56
  first | rw [List.append_nil] at X56 | skip
  refine Goes.tr st56 ?_
  have e56' : T56.heap = h47 := e56
  show Goes p e below _ (T56.setTop (mkF m 132 #[vr a, vr b, .val (.long rk), .second, vi qq, vi cq, .val .null] [(.int x_), (.int ((fF pn) + (1 : Int32)))]))
  refine gIC (z := 1) X56 hx hby d13_132 rfl ?_
  refine Goes.via (fun _ kk_ => XS.isub X56.here hx rfl (hb hby d13_133) rfl kk_) ?_
  show Goes p e below _ (T56.setTop (mkF m 134 #[vr a, vr b, .val (.long rk), .second, vi qq, vi cq, .val .null] [(.int (x_ - (1 : Int32))), (.int ((fF pn) + (1 : Int32)))]))
  have J186 : ∀ (fv : Int32) (TJ : State) (lcJ : List Loc) (HJ : Heap), (Stand p l e ({ frames := 4, cells := 0, slots := 0, locals := 58 } : Room) s m #[(.ref a), (.ref b), (.long rk)] below meth c TJ lcJ 0 0) → (TJ.heap = HJ) → (Fr n0 lcJ) → (Keep h0 HJ [a, fl, r1, r2]) → (Exa Z HJ a "nearhop/model/RoutingTable") → (Fld Z HJ a "nearhop/model/RoutingTable" "owner" "Lnearhop/model/Id;" (.ref ow)) → (Fld Z HJ a "nearhop/model/RoutingTable" "rows" "[[Lnearhop/model/Id;" (.ref rw)) → (Fld Z HJ a "nearhop/model/RoutingTable" "ranks" "[[J" (.ref rl)) → (Fld Z HJ a "nearhop/model/RoutingTable" "filled" "[I" (.ref fl)) → (Fld Z HJ a "nearhop/model/RoutingTable" "firstOpen" "I" (.int fv)) → (Exa Z HJ ow "nearhop/model/Id") → (Exa Z HJ b "nearhop/model/Id") → (Fld Z HJ ow "nearhop/model/Id" "space" "Lnearhop/model/IdSpace;" (.ref sp)) → (Fld Z HJ ow "nearhop/model/Id" "high" "J" (.long (0 : Int64))) → (Fld Z HJ ow "nearhop/model/Id" "low" "J" (.long w_)) → (Fld Z HJ b "nearhop/model/Id" "space" "Lnearhop/model/IdSpace;" (.ref sp)) → (Fld Z HJ b "nearhop/model/Id" "high" "J" (.long (0 : Int64))) → (Fld Z HJ b "nearhop/model/Id" "low" "J" (.long y_)) → (Exa Z HJ sp "nearhop/model/IdSpace") → (Fld Z HJ sp "nearhop/model/IdSpace" "base" "I" (.int x_)) → (Fld Z HJ sp "nearhop/model/IdSpace" "digits" "I" (.int dg)) → (Exa Z HJ rw "[[Lnearhop/model/Id;") → (Arw Z HJ rw kR (.array (.object "nearhop/model/Id")) nd fR) → (Exa Z HJ rl "[[J") → (Arw Z HJ rl kK (.array .long) nd fK) → (Exa Z HJ fl "[I") → (Exa Z HJ r1 "[Lnearhop/model/Id;") → (Arw Z HJ r1 k1 (.object "nearhop/model/Id") bn g1) → (Exa Z HJ r2 "[J") → (Arw Z HJ r2 k2 .long bn g2) → (Arw Z HJ fl kF .int nd (fun i => .int ((fun j => if j = pn then (fF pn) + (1 : Int32) else fF j) i))) → (0 ≤ fv.toInt) → (fv.toInt ≤ (nd : Int)) → Goes p e below (Fin_ s (QrmOS Z a b rk ow sp w_ y_ x_ dg bp rw rl fl kR kK kF fR fK fF fo nd bn pn cn r1 r2 k1 k2 g1 g2 hv h0 n0) ({ frames := 4, cells := 0, slots := 0, locals := 58 } : Room).cells ({ frames := 4, cells := 0, slots := 0, locals := 58 } : Room).slots) (TJ.setTop (mkF m 186 #[vr a, vr b, .val (.long rk), .second, vi qq, vi cq, .val .null] [])) := by
    intro fv TJ lcJ HJ XJ eJ NJ KJ gj0 gj1 gj2 gj3 gj4 gj5 gj6 gj7 gj8 gj9 gj10 gj11 gj12 gj13 gj14 gj15 gj16 gj17 gj18 gj19 gj20 gj21 gj22 gj23 gj24 gj25 gj26 hf0 hf1
    show Goes p e below _ (TJ.setTop (mkF m 186 #[vr a, vr b, .val (.long rk), .second, vi qq, vi cq, .val .null] []))
    refine gALN XJ hx hby d13_186 rfl rfl ?_
    obtain ⟨T58, X58, e58, st58⟩ := getF XJ hx hZ hown (host := "") (Or.inl (own_w hw 73 rfl)) Via.refl eJ gj2 (g := (mkF m 187 #[vr a, vr b, .val (.long rk), .second, vi qq, vi cq, .val .null] [(.ref a)])) rfl rfl (hb hby d13_187)
    refine Goes.via st58 ?_
    show Goes p e below _ (T58.setTop (mkF m 190 #[vr a, vr b, .val (.long rk), .second, vi qq, vi cq, .val .null] [(.ref rw)]))
    refine gIL X58 hx hby d13_190 rfl ?_
    refine Goes.via (own_aaload X58 hx hZ e58 gj18 rfl (j := qq) (i := pn) (own_ix HP).1 (own_ix HP).2 Hpn (v := (.ref r1)) HfR (g := (mkF m 192 #[vr a, vr b, .val (.long rk), .second, vi qq, vi cq, .val .null] [(.int qq), (.ref rw)])) rfl rfl (hb hby d13_192)) ?_
    show Goes p e below _ (T58.setTop (mkF m 193 #[vr a, vr b, .val (.long rk), .second, vi qq, vi cq, .val .null] [(.ref r1)]))
    refine gIL X58 hx hby d13_193 rfl ?_
    refine gALN X58 hx hby d13_195 rfl rfl ?_
    obtain ⟨T59, h59, X59, e59, W59, A59, st59⟩ := own_aastore X58 hx hZ e58 gj23 rfl rfl OVr (Ins.self gj7) (j := cq) (i := cn) (own_ix HC).1 (own_ix HC).2 Hcn (g := (mkF m 196 #[vr a, vr b, .val (.long rk), .second, vi qq, vi cq, .val .null] [(.ref b), (.int cq), (.ref r1)])) rfl rfl (hb hby d13_196)
    refine Goes.via st59 ?_
    have N59 := Fr.snoc X59 NJ H45
    show Goes p e below _ (T59.setTop (mkF m 197 #[vr a, vr b, .val (.long rk), .second, vi qq, vi cq, .val .null] []))
    refine gALN X59 hx hby d13_197 rfl rfl ?_
    have f60 := (gj3.other W59 (Or.inl ne7))
    obtain ⟨T61, X61, e61, st61⟩ := getF X59 hx hZ hown (host := "") (Or.inl (own_w hw 77 rfl)) Via.refl e59 f60 (g := (mkF m 198 #[vr a, vr b, .val (.long rk), .second, vi qq, vi cq, .val .null] [(.ref a)])) rfl rfl (hb hby d13_198)
    refine Goes.via st61 ?_
    show Goes p e below _ (T61.setTop (mkF m 201 #[vr a, vr b, .val (.long rk), .second, vi qq, vi cq, .val .null] [(.ref rl)]))
    refine gIL X61 hx hby d13_201 rfl ?_
    have f62 := (gj20.other W59 ne31)
    refine Goes.via (own_aaload X61 hx hZ e61 f62 rfl (j := qq) (i := pn) (own_ix HP).1 (own_ix HP).2 Hpn (v := (.ref r2)) HfK (g := (mkF m 203 #[vr a, vr b, .val (.long rk), .second, vi qq, vi cq, .val .null] [(.int qq), (.ref rl)])) rfl rfl (hb hby d13_203)) ?_
    show Goes p e below _ (T61.setTop (mkF m 204 #[vr a, vr b, .val (.long rk), .second, vi qq, vi cq, .val .null] [(.ref r2)]))
    refine gIL X61 hx hby d13_204 rfl ?_
    refine Goes.via (fun _ kk_ => XS.lloadN X61.here hx rfl (hb hby d13_206) rfl  kk_) ?_
    show Goes p e below _ (T61.setTop (mkF m 207 #[vr a, vr b, .val (.long rk), .second, vi qq, vi cq, .val .null] [(.long rk), (.int cq), (.ref r2)]))
    have f63 := (gj25.other W59 (Ne.symm ne35))
    obtain ⟨T64, h64, X64, e64, W64, A64, st64⟩ := own_lastore X61 hx hZ e61 f63 (j := cq) (i := cn) (own_ix HC).1 (own_ix HC).2 Hcn (g := (mkF m 207 #[vr a, vr b, .val (.long rk), .second, vi qq, vi cq, .val .null] [(.long rk), (.int cq), (.ref r2)])) rfl rfl (hb hby d13_207)
    refine Goes.via st64 ?_
    have N64 := Fr.snoc X64 N59 H46
    show Goes p e below _ (T64.setTop (mkF m 208 #[vr a, vr b, .val (.long rk), .second, vi qq, vi cq, .val .null] []))
    refine gALN X64 hx hby d13_208 rfl rfl ?_
    refine gAL X64 hx hby d13_209 rfl rfl ?_
    have z66 : h0.size ≤ (h64).size := (Nat.le_trans (Nat.le_trans KJ.1 (Nat.le_of_eq W59.size.symm)) (Nat.le_of_eq W64.size.symm))
    have f67 := ((gj7.wr W59).wr W64)
    obtain ⟨cq65, kq65, q65a, q65b, q65c⟩ := isOf hZ e64 f67
    obtain ⟨_, _, ⟨T65, L65, k65, n65⟩, -, X65, ⟨Lc65, hQ65, l65, y65, z65⟩, st65⟩ := X64.virtualBack hx (y := mN_Id_equals) (z := mN_Id_equals) hown (mvT hZ (own_w hw 87 rfl)) (mvT hZ (own_w hw 88 rfl)) (notFace_of_selects (args := #[]) (mvT hZ (own_w hw 90 rfl))) (mvT hZ (own_w hw 90 rfl)) (mvT hZ (own_w hw 89 rfl)) (by decide) (backOf (W := 0) (rmEq0 l Z a0 hw [] b h64 n0 (Nat.le_trans Z0 z66) ) hZ (own_w hw 91 rfl) (own_w hw 25 rfl) (by decide) (by decide)) q65a q65c (g := (mkF m 211 #[vr a, vr b, .val (.long rk), .second, vi qq, vi cq, .val .null] [.null, (.ref b)])) rfl (by rw [hml]; rfl) (Steps.refl _) (argsL := [.null]) (rest := []) (lenOf pd_10 rfl) rfl (by show 2 * 0 + _ ≤ _; exact Nat.le_of_eq rfl) (hb hby d13_211) (fun _ _ => ⟨rfl, e64, (by decide : 0 + 0 ≤ _), (by decide : 0 + 0 ≤ _)⟩)
    dsimp only [Pt.U, Pt.locs, Pt.cells, Pt.slots] at X65 l65 y65 z65 st65 hQ65
    replace l65 := l65.symm
    subst l65 y65 z65
    obtain ⟨rfl, rfl, e65⟩ := hQ65
    first | rw [List.append_nil] at X65 | skip
    refine Goes.tr st65 ?_
    have e65' : T65.heap = h64 := e65
    show Goes p e below _ (T65.setTop (mkF m 214 #[vr a, vr b, .val (.long rk), .second, vi qq, vi cq, .val .null] [(.int (0 : Int32))]))
    have hc214_68 : (0 : Int32) = (0 : Int32) := (by decide)
    refine Goes.via (fun _ kk_ => XS.ifNo X65.here hx rfl (hb hby d13_214) rfl ((if0 _ _).trans (teq hc214_68).2) kk_) ?_
    show Goes p e below _ (T65.setTop (mkF m 217 #[vr a, vr b, .val (.long rk), .second, vi qq, vi cq, .val .null] []))
    refine gIC (z := 1) X65 hx hby d13_217 rfl ?_
    refine Goes.via (fun _ kk_ => XS.goto X65.here hx rfl (pc0 := 218) (pc' := 222) rfl (hb hby d13_218) (by decide) (by decide) kk_) ?_
    show Goes p e below _ (T65.setTop (mkF m 222 #[vr a, vr b, .val (.long rk), .second, vi qq, vi cq, .val .null] [(.int (1 : Int32))]))
    have K69 : Keep h0 h64 [a, fl, r1, r2] := ((KJ.wr W59 (Or.inl (List.mem_of_getElem? (i := 2) rfl))).wr W64 (Or.inl (List.mem_of_getElem? (i := 3) rfl)))
    have f70 := ((gj0.wr W59).wr W64)
    have f71 := ((gj1.other W59 (Or.inl ne7)).other W64 (Or.inl ne8))
    have f72 := ((gj2.other W59 (Or.inl ne7)).other W64 (Or.inl ne8))
    have f73 := (f60.other W64 (Or.inl ne8))
    have f74 := ((gj4.other W59 (Or.inl ne7)).other W64 (Or.inl ne8))
    have f75 := ((gj5.other W59 (Or.inl ne7)).other W64 (Or.inl ne8))
    have f76 := ((gj21.wr W59).wr W64)
    have f77 := ((gj26.other W59 ne33).other W64 ne34)
    have f78 := ((gj22.wr W59).wr W64)
    have f79 := (A59.other W64 ne35)
    have f80 := ((gj24.wr W59).wr W64)
    exact own_finN X65 hx hlk hret (by simp) (hb hby d13_222) (by rw [e65']; exact ⟨fv, (fun j => if j = pn then (fF pn) + (1 : Int32) else fF j), rfl, N64, K69, f70, f71, f72, f73, f74, f75, f76, f77, f78, f79, f80, A64, (by first | exact hf0 | exact Hfo0), (by first | exact hf1 | exact Hfo1)⟩) (by first | decide | omega | (dsimp only; omega)) (by first | decide | omega | (dsimp only; omega))
  show Goes p e below _ (T56.setTop (mkF m 134 #[vr a, vr b, .val (.long rk), .second, vi qq, vi cq, .val .null] [(.int (x_ - (1 : Int32))), (.int ((fF pn) + (1 : Int32)))]))
  by_cases hc134 : ((fF pn) + (1 : Int32)) = (x_ - (1 : Int32))
  · skip
    refine Goes.via (fun _ kk_ => XS.icmpNo X56.here hx rfl (hb hby d13_134) rfl (teq hc134).2 kk_) ?_
    show Goes p e below _ (T56.setTop (mkF m 137 #[vr a, vr b, .val (.long rk), .second, vi qq, vi cq, .val .null] []))
    have f82 := (E0_a.wr W47)
    have f83 := (F2_a_rows.other W47 (Or.inl ne6))
    have f84 := (F3_a_ranks.other W47 (Or.inl ne6))
    have f85 := (F4_a_filled.other W47 (Or.inl ne6))
    have f86 := (F5_a_firstOpen.other W47 (Or.inl ne6))
    have f87 := (E7_b.wr W47)
    have f88 := (F10_ow_high.other W47 (Or.inl ne12))
    have f89 := (F11_ow_low.other W47 (Or.inl ne12))
    have f90 := (F12_b_space.other W47 (Or.inl ne18))
    have f91 := (F13_b_high.other W47 (Or.inl ne18))
    have f92 := (F14_b_low.other W47 (Or.inl ne18))
    have f93 := (F17_sp_digits.other W47 (Or.inl ne23))
    have f94 := (E19_rw.wr W47)
    have f95 := (A20_rw.other W47 ne27)
    have f96 := (E21_rl.wr W47)
    have f97 := (A22_rl.other W47 ne30)
    have f98 := (E23_fl.wr W47)
    have f99 := (E35_r1.wr W47)
    have f100 := (A36_r1.other W47 (Ne.symm ne33))
    have f101 := (E37_r2.wr W47)
    have f102 := (A38_r2.other W47 (Ne.symm ne34))
    have K103 : Keep h0 h47 [a, fl, r1, r2] := ((Keep.refl h0 [a, fl, r1, r2]).wr W47 (Or.inl (List.mem_of_getElem? (i := 1) rfl)))
    have lp81 : ∀ (fu81 : Nat) (fv : Int32) (T81 : State) (lc81 : List Loc) (H81 : Heap), (Stand p l e ({ frames := 4, cells := 0, slots := 0, locals := 58 } : Room) s m #[(.ref a), (.ref b), (.long rk)] below meth c T81 lc81 0 0) → (T81.heap = H81) → (Fr n0 lc81) → (Keep h0 H81 [a, fl, r1, r2]) → (Exa Z H81 a "nearhop/model/RoutingTable") → (Fld Z H81 a "nearhop/model/RoutingTable" "owner" "Lnearhop/model/Id;" (.ref ow)) → (Fld Z H81 a "nearhop/model/RoutingTable" "rows" "[[Lnearhop/model/Id;" (.ref rw)) → (Fld Z H81 a "nearhop/model/RoutingTable" "ranks" "[[J" (.ref rl)) → (Fld Z H81 a "nearhop/model/RoutingTable" "filled" "[I" (.ref fl)) → (Fld Z H81 a "nearhop/model/RoutingTable" "firstOpen" "I" (.int fv)) → (Exa Z H81 ow "nearhop/model/Id") → (Exa Z H81 b "nearhop/model/Id") → (Fld Z H81 ow "nearhop/model/Id" "space" "Lnearhop/model/IdSpace;" (.ref sp)) → (Fld Z H81 ow "nearhop/model/Id" "high" "J" (.long (0 : Int64))) → (Fld Z H81 ow "nearhop/model/Id" "low" "J" (.long w_)) → (Fld Z H81 b "nearhop/model/Id" "space" "Lnearhop/model/IdSpace;" (.ref sp)) → (Fld Z H81 b "nearhop/model/Id" "high" "J" (.long (0 : Int64))) → (Fld Z H81 b "nearhop/model/Id" "low" "J" (.long y_)) → (Exa Z H81 sp "nearhop/model/IdSpace") → (Fld Z H81 sp "nearhop/model/IdSpace" "base" "I" (.int x_)) → (Fld Z H81 sp "nearhop/model/IdSpace" "digits" "I" (.int dg)) → (Exa Z H81 rw "[[Lnearhop/model/Id;") → (Arw Z H81 rw kR (.array (.object "nearhop/model/Id")) nd fR) → (Exa Z H81 rl "[[J") → (Arw Z H81 rl kK (.array .long) nd fK) → (Exa Z H81 fl "[I") → (Exa Z H81 r1 "[Lnearhop/model/Id;") → (Arw Z H81 r1 k1 (.object "nearhop/model/Id") bn g1) → (Exa Z H81 r2 "[J") → (Arw Z H81 r2 k2 .long bn g2) → (Arw Z H81 fl kF .int nd (fun i => .int ((fun j => if j = pn then (fF pn) + (1 : Int32) else fF j) i))) → (0 ≤ fv.toInt) → (fv.toInt ≤ (nd : Int)) → ((nd : Int) < fv.toInt + (fu81 : Int)) → Goes p e below (Fin_ s (QrmOS Z a b rk ow sp w_ y_ x_ dg bp rw rl fl kR kK kF fR fK fF fo nd bn pn cn r1 r2 k1 k2 g1 g2 hv h0 n0) ({ frames := 4, cells := 0, slots := 0, locals := 58 } : Room).cells ({ frames := 4, cells := 0, slots := 0, locals := 58 } : Room).slots) (T81.setTop (mkF m 137 #[vr a, vr b, .val (.long rk), .second, vi qq, vi cq, .val .null] [])) := by
      intro fu81
      induction fu81 with
      | zero =>
        intro fv T81 lc81 H81 X81 e81 N81 K81 g81_0 g81_1 g81_2 g81_3 g81_4 g81_5 g81_6 g81_7 g81_8 g81_9 g81_10 g81_11 g81_12 g81_13 g81_14 g81_15 g81_16 g81_17 g81_18 g81_19 g81_20 g81_21 g81_22 g81_23 g81_24 g81_25 g81_26 hf0 hf1 hfu
        (exact absurd hfu (by omega))
      | succ fu81 ih81 =>
        intro fv T81 lc81 H81 X81 e81 N81 K81 g81_0 g81_1 g81_2 g81_3 g81_4 g81_5 g81_6 g81_7 g81_8 g81_9 g81_10 g81_11 g81_12 g81_13 g81_14 g81_15 g81_16 g81_17 g81_18 g81_19 g81_20 g81_21 g81_22 g81_23 g81_24 g81_25 g81_26 hf0 hf1 hfu
        refine gALN X81 hx hby d13_137 rfl rfl ?_
        obtain ⟨T104, X104, e104, st104⟩ := getF X81 hx hZ hown (host := "") (Or.inl (own_w hw 127 rfl)) Via.refl e81 g81_5 (g := (mkF m 138 #[vr a, vr b, .val (.long rk), .second, vi qq, vi cq, .val .null] [(.ref a)])) rfl rfl (hb hby d13_138)
        refine Goes.via st104 ?_
        show Goes p e below _ (T104.setTop (mkF m 141 #[vr a, vr b, .val (.long rk), .second, vi qq, vi cq, .val .null] [(.int fv)]))
        refine gALN X104 hx hby d13_141 rfl rfl ?_
        obtain ⟨T105, X105, e105, st105⟩ := getF X104 hx hZ hown (host := "") (Or.inl (own_w hw 73 rfl)) Via.refl e104 g81_2 (g := (mkF m 142 #[vr a, vr b, .val (.long rk), .second, vi qq, vi cq, .val .null] [(.ref a), (.int fv)])) rfl rfl (hb hby d13_142)
        refine Goes.via st105 ?_
        show Goes p e below _ (T105.setTop (mkF m 145 #[vr a, vr b, .val (.long rk), .second, vi qq, vi cq, .val .null] [(.ref rw), (.int fv)]))
        refine Goes.via (own_alen X105 hx hZ e105 g81_18 (g := (mkF m 145 #[vr a, vr b, .val (.long rk), .second, vi qq, vi cq, .val .null] [(.ref rw), (.int fv)])) rfl rfl (hb hby d13_145)) ?_
        show Goes p e below _ (T105.setTop (mkF m 146 #[vr a, vr b, .val (.long rk), .second, vi qq, vi cq, .val .null] [(.int (nd : Nat).toInt32), (.int fv)]))
        by_cases hc146 : fv < (nd : Nat).toInt32
        · skip
          refine Goes.via (fun _ kk_ => XS.icmpNo X105.here hx rfl (hb hby d13_146) rfl (tlt hc146).2.1 kk_) ?_
          show Goes p e below _ (T105.setTop (mkF m 149 #[vr a, vr b, .val (.long rk), .second, vi qq, vi cq, .val .null] []))
          have hlt : fv.toInt < (nd : Int) := by have q := own_lti.mp hc146; rw [len_toInt (by omega)] at q; exact q
          obtain ⟨nf, hnf⟩ : ∃ z : Nat, fv.toInt = (z : Int) := ⟨fv.toInt.toNat, by omega⟩
          refine gALN X105 hx hby d13_149 rfl rfl ?_
          obtain ⟨T106, X106, e106, st106⟩ := getF X105 hx hZ hown (host := "") (Or.inl (own_w hw 80 rfl)) Via.refl e105 g81_4 (g := (mkF m 150 #[vr a, vr b, .val (.long rk), .second, vi qq, vi cq, .val .null] [(.ref a)])) rfl rfl (hb hby d13_150)
          refine Goes.via st106 ?_
          show Goes p e below _ (T106.setTop (mkF m 153 #[vr a, vr b, .val (.long rk), .second, vi qq, vi cq, .val .null] [(.ref fl)]))
          refine gALN X106 hx hby d13_153 rfl rfl ?_
          obtain ⟨T107, X107, e107, st107⟩ := getF X106 hx hZ hown (host := "") (Or.inl (own_w hw 127 rfl)) Via.refl e106 g81_5 (g := (mkF m 154 #[vr a, vr b, .val (.long rk), .second, vi qq, vi cq, .val .null] [(.ref a), (.ref fl)])) rfl rfl (hb hby d13_154)
          refine Goes.via st107 ?_
          show Goes p e below _ (T107.setTop (mkF m 157 #[vr a, vr b, .val (.long rk), .second, vi qq, vi cq, .val .null] [(.int fv), (.ref fl)]))
          refine Goes.via (own_iaload X107 hx hZ e107 g81_26 (j := fv) (i := nf) (own_ix hnf).1 (own_ix hnf).2 (by omega) (v := ((fun j => if j = pn then (fF pn) + (1 : Int32) else fF j) nf)) rfl (g := (mkF m 157 #[vr a, vr b, .val (.long rk), .second, vi qq, vi cq, .val .null] [(.int fv), (.ref fl)])) rfl rfl (hb hby d13_157)) ?_
          show Goes p e below _ (T107.setTop (mkF m 158 #[vr a, vr b, .val (.long rk), .second, vi qq, vi cq, .val .null] [(.int ((fun j => if j = pn then (fF pn) + (1 : Int32) else fF j) nf))]))
          refine gALN X107 hx hby d13_158 rfl rfl ?_
          obtain ⟨T108, X108, e108, st108⟩ := getF X107 hx hZ hown (host := "") (Or.inl (own_w hw 59 rfl)) Via.refl e107 g81_1 (g := (mkF m 159 #[vr a, vr b, .val (.long rk), .second, vi qq, vi cq, .val .null] [(.ref a), (.int ((fun j => if j = pn then (fF pn) + (1 : Int32) else fF j) nf))])) rfl rfl (hb hby d13_159)
          refine Goes.via st108 ?_
          show Goes p e below _ (T108.setTop (mkF m 162 #[vr a, vr b, .val (.long rk), .second, vi qq, vi cq, .val .null] [(.ref ow), (.int ((fun j => if j = pn then (fF pn) + (1 : Int32) else fF j) nf))]))
          obtain ⟨cq109, kq109, q109a, q109b, q109c⟩ := isOf hZ e108 g81_6
          obtain ⟨_, _, ⟨T109, L109, k109, n109⟩, -, X109, ⟨Lc109, hQ109, l109, y109, z109⟩, st109⟩ := X108.virtualBack hx (y := mN_Id_space) (z := mN_Id_space) hown (mvT hZ (own_w hw 61 rfl)) (mvT hZ (own_w hw 62 rfl)) (notFace_of_selects (args := #[]) (mvT hZ (own_w hw 64 rfl))) (mvT hZ (own_w hw 64 rfl)) (mvT hZ (own_w hw 63 rfl)) (by decide) (backOf (W := 1) (rm11 l Z a0 hw [] ow sp H81 n0 (Nat.le_trans Z0 K81.1) g81_8) hZ (own_w hw 65 rfl) (own_w hw 25 rfl) (by decide) (by decide)) q109a q109c (g := (mkF m 162 #[vr a, vr b, .val (.long rk), .second, vi qq, vi cq, .val .null] [(.ref ow), (.int ((fun j => if j = pn then (fF pn) + (1 : Int32) else fF j) nf))])) rfl (by rw [hml]; rfl) (Steps.refl _) (argsL := []) (rest := [(.int ((fun j => if j = pn then (fF pn) + (1 : Int32) else fF j) nf))]) (lenOf pd_8 rfl) rfl (by show 2 * 0 + _ ≤ _; exact Nat.le_of_eq rfl) (hb hby d13_162) (fun _ _ => ⟨rfl, e108, (by decide : 0 + 0 ≤ _), (by decide : 0 + 0 ≤ _)⟩)
          dsimp only [Pt.U, Pt.locs, Pt.cells, Pt.slots] at X109 l109 y109 z109 st109 hQ109
          replace l109 := l109.symm
          subst l109 y109 z109
          obtain ⟨rfl, rfl, e109⟩ := hQ109
          first | rw [List.append_nil] at X109 | skip
          refine Goes.tr st109 ?_
          have e109' : T109.heap = H81 := e109
          show Goes p e below _ (T109.setTop (mkF m 165 #[vr a, vr b, .val (.long rk), .second, vi qq, vi cq, .val .null] [(.ref sp), (.int ((fun j => if j = pn then (fF pn) + (1 : Int32) else fF j) nf))]))
          obtain ⟨cq110, kq110, q110a, q110b, q110c⟩ := isOf hZ e109' g81_14
          obtain ⟨_, _, ⟨T110, L110, k110, n110⟩, -, X110, ⟨Lc110, hQ110, l110, y110, z110⟩, st110⟩ := X109.virtualBack hx (y := mN_IdSpace_base) (z := mN_IdSpace_base) hown (mvT hZ (own_w hw 107 rfl)) (mvT hZ (own_w hw 108 rfl)) (notFace_of_selects (args := #[]) (mvT hZ (own_w hw 110 rfl))) (mvT hZ (own_w hw 110 rfl)) (mvT hZ (own_w hw 109 rfl)) (by decide) (backOf (W := 1) (rm18 l Z a0 hw [] sp x_ H81 n0 (Nat.le_trans Z0 K81.1) g81_15) hZ (own_w hw 111 rfl) (own_w hw 2 rfl) (by decide) (by decide)) q110a q110c (g := (mkF m 165 #[vr a, vr b, .val (.long rk), .second, vi qq, vi cq, .val .null] [(.ref sp), (.int ((fun j => if j = pn then (fF pn) + (1 : Int32) else fF j) nf))])) rfl (by rw [hml]; rfl) (Steps.refl _) (argsL := []) (rest := [(.int ((fun j => if j = pn then (fF pn) + (1 : Int32) else fF j) nf))]) (lenOf pd_2 rfl) rfl (by show 2 * 0 + _ ≤ _; exact Nat.le_of_eq rfl) (hb hby d13_165) (fun _ _ => ⟨rfl, e109', (by decide : 0 + 0 ≤ _), (by decide : 0 + 0 ≤ _)⟩)
          dsimp only [Pt.U, Pt.locs, Pt.cells, Pt.slots] at X110 l110 y110 z110 st110 hQ110
          replace l110 := l110.symm
          subst l110 y110 z110
          obtain ⟨rfl, rfl, e110⟩ := hQ110
          first | rw [List.append_nil] at X110 | skip
          refine Goes.tr st110 ?_
          have e110' : T110.heap = H81 := e110
          show Goes p e below _ (T110.setTop (mkF m 168 #[vr a, vr b, .val (.long rk), .second, vi qq, vi cq, .val .null] [(.int x_), (.int ((fun j => if j = pn then (fF pn) + (1 : Int32) else fF j) nf))]))
          refine gIC (z := 1) X110 hx hby d13_168 rfl ?_
          refine Goes.via (fun _ kk_ => XS.isub X110.here hx rfl (hb hby d13_169) rfl kk_) ?_
          show Goes p e below _ (T110.setTop (mkF m 170 #[vr a, vr b, .val (.long rk), .second, vi qq, vi cq, .val .null] [(.int (x_ - (1 : Int32))), (.int ((fun j => if j = pn then (fF pn) + (1 : Int32) else fF j) nf))]))
          by_cases hc170 : ((fun j => if j = pn then (fF pn) + (1 : Int32) else fF j) nf) = (x_ - (1 : Int32))
          · skip
            refine Goes.via (fun _ kk_ => XS.icmpNo X110.here hx rfl (hb hby d13_170) rfl (teq hc170).2 kk_) ?_
            show Goes p e below _ (T110.setTop (mkF m 173 #[vr a, vr b, .val (.long rk), .second, vi qq, vi cq, .val .null] []))
            refine gALN X110 hx hby d13_173 rfl rfl ?_
            refine gDU X110 hx hby d13_174 rfl ?_
            obtain ⟨T111, X111, e111, st111⟩ := getF X110 hx hZ hown (host := "") (Or.inl (own_w hw 127 rfl)) Via.refl e110' g81_5 (g := (mkF m 175 #[vr a, vr b, .val (.long rk), .second, vi qq, vi cq, .val .null] [(.ref a), (.ref a)])) rfl rfl (hb hby d13_175)
            refine Goes.via st111 ?_
            show Goes p e below _ (T111.setTop (mkF m 178 #[vr a, vr b, .val (.long rk), .second, vi qq, vi cq, .val .null] [(.int fv), (.ref a)]))
            refine gIC (z := 1) X111 hx hby d13_178 rfl ?_
            refine Goes.via (fun _ kk_ => XS.iadd X111.here hx rfl (hb hby d13_179) rfl kk_) ?_
            show Goes p e below _ (T111.setTop (mkF m 180 #[vr a, vr b, .val (.long rk), .second, vi qq, vi cq, .val .null] [(.int (fv + (1 : Int32))), (.ref a)]))
            obtain ⟨T112, h112, X112, e112, W112, st112⟩ := putF X111 hx hZ hown (host := "") (Or.inl (own_w hw 127 rfl)) Via.refl e111 g81_5 g81_0 (Or.inl (own_w hw 128 rfl)) (own_w hw 53 rfl) (ty := .int) (by decide) rfl rfl (g := (mkF m 180 #[vr a, vr b, .val (.long rk), .second, vi qq, vi cq, .val .null] [(.int (fv + (1 : Int32))), (.ref a)])) rfl rfl (hb hby d13_180)
            refine Goes.via st112 ?_
            have N112 := Fr.snoc X112 N81 H43
            have Fw112 : Fld Z h112 a "nearhop/model/RoutingTable" "firstOpen" "I" (.int (fv + (1 : Int32))) := g81_5.same W112
            show Goes p e below _ (T112.setTop (mkF m 183 #[vr a, vr b, .val (.long rk), .second, vi qq, vi cq, .val .null] []))
            refine Goes.via (fun _ kk_ => XS.goto X112.here hx rfl (pc0 := 183) (pc' := 137) rfl (hb hby d13_183) (by decide) (by decide) kk_) ?_
            show Goes p e below _ (T112.setTop (mkF m 137 #[vr a, vr b, .val (.long rk), .second, vi qq, vi cq, .val .null] []))
            have f113 := (g81_0.wr W112)
            have f114 := (g81_1.other W112 (Or.inr (slot_ne (Or.inr (own_w hw 60 rfl)) (Or.inl (own_w hw 128 rfl)) (by decide) (t := (.object "nearhop/model/Id")) (t' := .int) (by decide) (by decide))))
            have f115 := (g81_2.other W112 (Or.inr (slot_ne (Or.inr (own_w hw 74 rfl)) (Or.inl (own_w hw 128 rfl)) (by decide) (t := (.array (.array (.object "nearhop/model/Id")))) (t' := .int) (by decide) (by decide))))
            have f116 := (g81_3.other W112 (Or.inr (slot_ne (Or.inr (own_w hw 78 rfl)) (Or.inl (own_w hw 128 rfl)) (by decide) (t := (.array (.array .long))) (t' := .int) (by decide) (by decide))))
            have f117 := (g81_4.other W112 (Or.inr (slot_ne (Or.inr (own_w hw 81 rfl)) (Or.inl (own_w hw 128 rfl)) (by decide) (t := (.array .int)) (t' := .int) (by decide) (by decide))))
            have f118 := (g81_6.wr W112)
            have f119 := (g81_7.wr W112)
            have f120 := (g81_8.other W112 (Or.inl (Ne.symm ne1)))
            have f121 := (g81_9.other W112 (Or.inl (Ne.symm ne1)))
            have f122 := (g81_10.other W112 (Or.inl (Ne.symm ne1)))
            have f123 := (g81_11.other W112 (Or.inl (Ne.symm ne2)))
            have f124 := (g81_12.other W112 (Or.inl (Ne.symm ne2)))
            have f125 := (g81_13.other W112 (Or.inl (Ne.symm ne2)))
            have f126 := (g81_14.wr W112)
            have f127 := (g81_15.other W112 (Or.inl (Ne.symm ne3)))
            have f128 := (g81_16.other W112 (Or.inl (Ne.symm ne3)))
            have f129 := (g81_17.wr W112)
            have f130 := (g81_18.other W112 (Ne.symm ne4))
            have f131 := (g81_19.wr W112)
            have f132 := (g81_20.other W112 (Ne.symm ne5))
            have f133 := (g81_21.wr W112)
            have f134 := (g81_22.wr W112)
            have f135 := (g81_23.other W112 (Ne.symm ne7))
            have f136 := (g81_24.wr W112)
            have f137 := (g81_25.other W112 (Ne.symm ne8))
            have f138 := (g81_26.other W112 (Ne.symm ne6))
            have K139 : Keep h0 h112 [a, fl, r1, r2] := (K81.wr W112 (Or.inl (List.mem_of_getElem? (i := 0) rfl)))
            exact ih81 ((fv + (1 : Int32))) _ _ _ X112 e112 N112 K139 f113 f114 f115 f116 f117 Fw112 f118 f119 f120 f121 f122 f123 f124 f125 f126 f127 f128 f129 f130 f131 f132 f133 f134 f135 f136 f137 f138 (by have q := own_fo hf0 hlt Hn3; omega) (by have q := own_fo hf0 hlt Hn3; omega) (by have q := own_fo hf0 hlt Hn3; push_cast at hfu ⊢; omega)
          · skip
            refine Goes.via (fun _ kk_ => XS.icmpYes X110.here hx rfl (pc0 := 170) (pc' := 186) rfl (hb hby d13_170) rfl (feq hc170).2 (by decide) (by decide) kk_) ?_
            show Goes p e below _ (T110.setTop (mkF m 186 #[vr a, vr b, .val (.long rk), .second, vi qq, vi cq, .val .null] []))
            exact J186 fv _ _ _ X110 e110' N81 K81 g81_0 g81_1 g81_2 g81_3 g81_4 g81_5 g81_6 g81_7 g81_8 g81_9 g81_10 g81_11 g81_12 g81_13 g81_14 g81_15 g81_16 g81_17 g81_18 g81_19 g81_20 g81_21 g81_22 g81_23 g81_24 g81_25 g81_26 hf0 hf1
        · skip
          refine Goes.via (fun _ kk_ => XS.icmpYes X105.here hx rfl (pc0 := 146) (pc' := 186) rfl (hb hby d13_146) rfl (flt hc146).2.1 (by decide) (by decide) kk_) ?_
          show Goes p e below _ (T105.setTop (mkF m 186 #[vr a, vr b, .val (.long rk), .second, vi qq, vi cq, .val .null] []))
          exact J186 fv _ _ _ X105 e105 N81 K81 g81_0 g81_1 g81_2 g81_3 g81_4 g81_5 g81_6 g81_7 g81_8 g81_9 g81_10 g81_11 g81_12 g81_13 g81_14 g81_15 g81_16 g81_17 g81_18 g81_19 g81_20 g81_21 g81_22 g81_23 g81_24 g81_25 g81_26 hf0 hf1
    exact lp81 (nd + 1) (fo) _ _ _ X56 e56' N47 K103 f82 f49 f83 f84 f85 f86 f54 f87 f51 f88 f89 f90 f91 f92 f57 f55 f93 f94 f95 f96 f97 f98 f99 f100 f101 f102 cv48 Hfo0 Hfo1 (by omega)
  · skip
    refine Goes.via (fun _ kk_ => XS.icmpYes X56.here hx rfl (pc0 := 134) (pc' := 186) rfl (hb hby d13_134) rfl (feq hc134).2 (by decide) (by decide) kk_) ?_
    show Goes p e below _ (T56.setTop (mkF m 186 #[vr a, vr b, .val (.long rk), .second, vi qq, vi cq, .val .null] []))
    have K140 : Keep h0 h47 [a, fl, r1, r2] := ((Keep.refl h0 [a, fl, r1, r2]).wr W47 (Or.inl (List.mem_of_getElem? (i := 1) rfl)))
    have f141 := (E0_a.wr W47)
    have f142 := (F2_a_rows.other W47 (Or.inl ne6))
    have f143 := (F3_a_ranks.other W47 (Or.inl ne6))
    have f144 := (F4_a_filled.other W47 (Or.inl ne6))
    have f145 := (F5_a_firstOpen.other W47 (Or.inl ne6))
    have f146 := (E7_b.wr W47)
    have f147 := (F10_ow_high.other W47 (Or.inl ne12))
    have f148 := (F11_ow_low.other W47 (Or.inl ne12))
    have f149 := (F12_b_space.other W47 (Or.inl ne18))
    have f150 := (F13_b_high.other W47 (Or.inl ne18))
    have f151 := (F14_b_low.other W47 (Or.inl ne18))
    have f152 := (F17_sp_digits.other W47 (Or.inl ne23))
    have f153 := (E19_rw.wr W47)
    have f154 := (A20_rw.other W47 ne27)
    have f155 := (E21_rl.wr W47)
    have f156 := (A22_rl.other W47 ne30)
    have f157 := (E23_fl.wr W47)
    have f158 := (E35_r1.wr W47)
    have f159 := (A36_r1.other W47 (Ne.symm ne33))
    have f160 := (E37_r2.wr W47)
    have f161 := (A38_r2.other W47 (Ne.symm ne34))
    exact J186 fo _ _ _ X56 e56' N47 K140 f141 f49 f142 f143 f144 f145 f54 f146 f51 f147 f148 f149 f150 f151 f57 f55 f152 f153 f154 f155 f156 f157 f158 f159 f160 f161 cv48 Hfo0 Hfo1
theorem ef_rmOT (m : MethodId) (a : Addr) (b : Addr) (rk : Int64) : entryFrame m #[(.ref a), (.ref b), (.long rk)] 7 = mkF m 0 #[.val (.ref a), .val (.ref b), .val (.long rk), .second, .unset, .unset, .unset] [] := by first | (simp [entryFrame, mkF, argsToLocals, Value.category]; done) | rfl
def QrmOT (Z : State) (a : Addr) (b : Addr) (rk : Int64) (ow : Addr) (sp : Addr) (w_ : Int64) (y_ : Int64) (x_ : Int32) (dg : Int32) (bp : Int32) (rw : Addr) (rl : Addr) (fl : Addr) (kR : ClassId) (kK : ClassId) (kF : ClassId) (fR : Nat → Value) (fK : Nat → Value) (fF : Nat → Int32) (fo : Int32) (nd : Nat) (bn : Nat) (pn : Nat) (cn : Nat) (r1 : Addr) (r2 : Addr) (k1 : ClassId) (k2 : ClassId) (g1 : Nat → Value) (g2 : Nat → Value) (hv : Int64) (hd : Addr) (v_1 : Int64) (h0 : Heap) (n0 : Nat) (v_ : Option Value) (h_ : Heap) (L_ : List Loc) : Prop := ∃ r_ : Int32, v_ = some (.int r_) ∧ Fr n0 L_ ∧ Keep h0 h_ [r1, r2] ∧ Exa Z h_ r1 "[Lnearhop/model/Id;" ∧ Arw Z h_ r1 k1 (.object "nearhop/model/Id") bn (own_upd g1 cn (.ref b)) ∧ Exa Z h_ r2 "[J" ∧ Arw Z h_ r2 k2 .long bn (own_upd g2 cn (.long rk))
theorem d13_221 : decode prog_120_method_2_code 221 = .ok (.iconst 0, 1) := by decide +kernel
set_option maxRecDepth 65536 in
set_option maxHeartbeats 40000000 in
theorem rmOT (l : Launch) (Z : State) (a0 : Array Value) (hw : ∀ d ∈ tables_1, d.before a0 Z = true) (ws : List Jvm.Cond) (a : Addr) (b : Addr) (rk : Int64) (ow : Addr) (sp : Addr) (w_ : Int64) (y_ : Int64) (x_ : Int32) (dg : Int32) (bp : Int32) (rw : Addr) (rl : Addr) (fl : Addr) (kR : ClassId) (kK : ClassId) (kF : ClassId) (fR : Nat → Value) (fK : Nat → Value) (fF : Nat → Int32) (fo : Int32) (nd : Nat) (bn : Nat) (pn : Nat) (cn : Nat) (r1 : Addr) (r2 : Addr) (k1 : ClassId) (k2 : ClassId) (g1 : Nat → Value) (g2 : Nat → Value) (hv : Int64) (hd : Addr) (v_1 : Int64) (h0 : Heap) (n0 : Nat) (Z0 : n0 ≤ h0.size) (E0_a : Exa Z h0 a "nearhop/model/RoutingTable") (F1_a_owner : Fld Z h0 a "nearhop/model/RoutingTable" "owner" "Lnearhop/model/Id;" (.ref ow)) (F2_a_rows : Fld Z h0 a "nearhop/model/RoutingTable" "rows" "[[Lnearhop/model/Id;" (.ref rw)) (F3_a_ranks : Fld Z h0 a "nearhop/model/RoutingTable" "ranks" "[[J" (.ref rl)) (F4_a_filled : Fld Z h0 a "nearhop/model/RoutingTable" "filled" "[I" (.ref fl)) (F5_a_firstOpen : Fld Z h0 a "nearhop/model/RoutingTable" "firstOpen" "I" (.int fo)) (E6_ow : Exa Z h0 ow "nearhop/model/Id") (E7_b : Exa Z h0 b "nearhop/model/Id") (HNo : b ≠ ow) (F9_ow_space : Fld Z h0 ow "nearhop/model/Id" "space" "Lnearhop/model/IdSpace;" (.ref sp)) (F10_ow_high : Fld Z h0 ow "nearhop/model/Id" "high" "J" (.long (0 : Int64))) (F11_ow_low : Fld Z h0 ow "nearhop/model/Id" "low" "J" (.long w_)) (F12_b_space : Fld Z h0 b "nearhop/model/Id" "space" "Lnearhop/model/IdSpace;" (.ref sp)) (F13_b_high : Fld Z h0 b "nearhop/model/Id" "high" "J" (.long (0 : Int64))) (F14_b_low : Fld Z h0 b "nearhop/model/Id" "low" "J" (.long y_)) (E15_sp : Exa Z h0 sp "nearhop/model/IdSpace") (F16_sp_base : Fld Z h0 sp "nearhop/model/IdSpace" "base" "I" (.int x_)) (F17_sp_digits : Fld Z h0 sp "nearhop/model/IdSpace" "digits" "I" (.int dg)) (HB : own_bb x_ bp) (E19_rw : Exa Z h0 rw "[[Lnearhop/model/Id;") (A20_rw : Arw Z h0 rw kR (.array (.object "nearhop/model/Id")) nd fR) (E21_rl : Exa Z h0 rl "[[J") (A22_rl : Arw Z h0 rl kK (.array .long) nd fK) (E23_fl : Exa Z h0 fl "[I") (A24_fl : Arw Z h0 fl kF .int nd (fun i => .int (fF i))) (Hne : ¬ y_ = w_) (HP : ((if (w_ ^^^ y_) = (0 : Int64) then dg else (((64 : Int32) + (own_nlzL (w_ ^^^ y_))) - ((128 : Int32) - (dg * bp))) / bp)).toInt = (pn : Int)) (Hpn : pn < nd) (HC : (own_dgt y_ (if (w_ ^^^ y_) = (0 : Int64) then dg else (((64 : Int32) + (own_nlzL (w_ ^^^ y_))) - ((128 : Int32) - (dg * bp))) / bp) x_ dg bp).toInt = (cn : Int)) (Hcn : cn < bn) (Hbn : x_.toInt = (bn : Int)) (Hb16 : bn ≤ 16) (Hn3 : nd ≤ 3) (Hfo0 : 0 ≤ fo.toInt) (Hfo1 : fo.toInt ≤ (nd : Int)) (E35_r1 : Exa Z h0 r1 "[Lnearhop/model/Id;") (A36_r1 : Arw Z h0 r1 k1 (.object "nearhop/model/Id") bn g1) (E37_r2 : Exa Z h0 r2 "[J") (A38_r2 : Arw Z h0 r2 k2 .long bn g2) (HfR : fR pn = .ref r1) (HfK : fK pn = .ref r2) (Hhv : g2 cn = .long hv) (OVr : Ovr Z k1 "nearhop/model/Id") (H43 : n0 ≤ r1) (H44 : n0 ≤ r2) (Hg1 : g1 cn = .ref hd) (HNh : b ≠ hd) (HTk : ¬ (own_tk rk hv (own_icu (0 : Int64) y_ (0 : Int64) v_1)) = (0 : Int32)) (E48_hd : Exa Z h0 hd "nearhop/model/Id") (F49_hd_space : Fld Z h0 hd "nearhop/model/Id" "space" "Lnearhop/model/IdSpace;" (.ref sp)) (F50_hd_high : Fld Z h0 hd "nearhop/model/Id" "high" "J" (.long (0 : Int64))) (F51_hd_low : Fld Z h0 hd "nearhop/model/Id" "low" "J" (.long v_1)) :
    MetFree l (⟨"nearhop/model/RoutingTable", "offer", "(Lnearhop/model/Id;J)Z"⟩ : MethodName) (head1 (Jvm.Cond.code (⟨"nearhop/model/RoutingTable", "offer", "(Lnearhop/model/Id;J)Z"⟩ : MethodName) prog_120_method_2_code 7 (some .boolean) :: ws) ({ frames := 5, cells := 0, slots := 0, locals := 83 } : Room)) (fun as_ U_ => as_ = #[(.ref a), (.ref b), (.long rk)] ∧ Z.Warmed39 U_.vm ∧ U_.heap = h0) (fun _ _ _ _ _ => True) (fun _ U_ o_ V_ => ∃ v_ L_, o_ = .returned v_ ∧ QrmOT Z a b rk ow sp w_ y_ x_ dg bp rw rl fl kR kK kF fR fK fF fo nd bn pn cn r1 r2 k1 k2 g1 g2 hv hd v_1 h0 n0 v_ V_.heap L_ ∧ FrameEnd U_ o_ V_ L_ ({ frames := 5, cells := 0, slots := 0, locals := 83 } : Room).cells ({ frames := 5, cells := 0, slots := 0, locals := 83 } : Room).slots) := by
  refine MetFree.of_bodySF (plainFor_of_name pn_nearhop_model_RoutingTable) hisR ?_
  intro p e s m args below meth c s₁ Bd hml0 hP hK
  obtain ⟨rfl, hZ, hh⟩ := hP
  have hx := Bd.exec
  have hby := Bd.bytes
  have hlk : meth.locks = false := BodyLoose.notSynchronized Bd
  have hret := Bd.returns
  have hml : c.maxLocals = 7 := hml0
  have hown : s.vm.findClass "nearhop/model/RoutingTable" = some m.cls := findClass_of_methodNamed Bd.named
  have hnm := (name_of_methodNamed Bd.named Bd.method).1
  have X0 : Stand p l e ({ frames := 5, cells := 0, slots := 0, locals := 83 } : Room) s m #[(.ref a), (.ref b), (.long rk)] below meth c s₁ [] 0 0 := Stand.of_body Bd
  have e0 : s₁.heap = h0 := by rw [← hh, Bd.state]; rfl
  have N0 := Fr.nil n0
  show Goes p e below (Fin_ s (QrmOT Z a b rk ow sp w_ y_ x_ dg bp rw rl fl kR kK kF fR fK fF fo nd bn pn cn r1 r2 k1 k2 g1 g2 hv hd v_1 h0 n0) ({ frames := 5, cells := 0, slots := 0, locals := 83 } : Room).cells ({ frames := 5, cells := 0, slots := 0, locals := 83 } : Room).slots) (s₁.setTop (entryFrame m #[(.ref a), (.ref b), (.long rk)] 7))
  rw [ef_rmOT m a b rk]
  have ne7 : a ≠ r1 := ne_exa E0_a E35_r1 (by decide)
  have ne20 : b ≠ r1 := ne_exa E7_b E35_r1 (by decide)
  have ne21 : b ≠ r2 := ne_exa E7_b E37_r2 (by decide)
  have ne34 : rl ≠ r1 := ne_exa E21_rl E35_r1 (by decide)
  have ne40 : r1 ≠ r2 := ne_exa E35_r1 E37_r2 (by decide)
  have ne41 : r1 ≠ hd := ne_exa E35_r1 E48_hd (by decide)
  have ne42 : r2 ≠ hd := ne_exa E37_r2 E48_hd (by decide)
  refine gALN X0 hx hby d13_0 rfl rfl ?_
  refine gALN X0 hx hby d13_1 rfl rfl ?_
  obtain ⟨T43, X43, e43, st43⟩ := getF X0 hx hZ hown (host := "") (Or.inl (own_w hw 59 rfl)) Via.refl e0 F1_a_owner (g := (mkF m 2 #[vr a, vr b, .val (.long rk), .second, .unset, .unset, .unset] [(.ref a), (.ref b)])) rfl rfl (hb hby d13_2)
  refine Goes.via st43 ?_
  show Goes p e below _ (T43.setTop (mkF m 5 #[vr a, vr b, .val (.long rk), .second, .unset, .unset, .unset] [(.ref ow), (.ref b)]))
  obtain ⟨cq44, kq44, q44a, q44b, q44c⟩ := isOf hZ e43 E7_b
  obtain ⟨_, _, ⟨T44, L44, k44, n44⟩, -, X44, ⟨Lc44, hQ44, l44, y44, z44⟩, st44⟩ := X43.virtualBack hx (y := mN_Id_equals) (z := mN_Id_equals) hown (mvT hZ (own_w hw 87 rfl)) (mvT hZ (own_w hw 88 rfl)) (notFace_of_selects (args := #[]) (mvT hZ (own_w hw 90 rfl))) (mvT hZ (own_w hw 90 rfl)) (mvT hZ (own_w hw 89 rfl)) (by decide) (backOf (W := 0) (rmEq l Z a0 hw [] b ow sp y_ w_ h0 n0 (Nat.le_trans Z0 (Nat.le_refl _)) HNo E6_ow F12_b_space F13_b_high F14_b_low F9_ow_space F10_ow_high F11_ow_low) hZ (own_w hw 91 rfl) (own_w hw 25 rfl) (by decide) (by decide)) q44a q44c (g := (mkF m 5 #[vr a, vr b, .val (.long rk), .second, .unset, .unset, .unset] [(.ref ow), (.ref b)])) rfl (by rw [hml]; rfl) (Steps.refl _) (argsL := [(.ref ow)]) (rest := []) (lenOf pd_10 rfl) rfl (by show 2 * 0 + _ ≤ _; exact Nat.le_of_eq rfl) (hb hby d13_5) (fun _ _ => ⟨rfl, e43, (by decide : 0 + 0 ≤ _), (by decide : 0 + 0 ≤ _)⟩)
  dsimp only [Pt.U, Pt.locs, Pt.cells, Pt.slots] at X44 l44 y44 z44 st44 hQ44
  replace l44 := l44.symm
  subst l44 y44 z44
  obtain ⟨rfl, rfl, e44⟩ := hQ44
  first | rw [List.append_nil] at X44 | skip
  refine Goes.tr st44 ?_
  have e44' : T44.heap = h0 := e44
  show Goes p e below _ (T44.setTop (mkF m 8 #[vr a, vr b, .val (.long rk), .second, .unset, .unset, .unset] [(.int (if y_ = w_ then (1 : Int32) else (0 : Int32)))]))
  have hc8_45 : (if y_ = w_ then (1 : Int32) else (0 : Int32)) = (0 : Int32) := (if_neg Hne)
  refine Goes.via (fun _ kk_ => XS.ifYes X44.here hx rfl (pc0 := 8) (pc' := 13) rfl (hb hby d13_8) rfl ((if0 _ _).trans (teq hc8_45).1) (by decide) (by decide) kk_) ?_
  show Goes p e below _ (T44.setTop (mkF m 13 #[vr a, vr b, .val (.long rk), .second, .unset, .unset, .unset] []))
  refine gALN X44 hx hby d13_13 rfl rfl ?_
  obtain ⟨T46, X46, e46, st46⟩ := getF X44 hx hZ hown (host := "") (Or.inl (own_w hw 59 rfl)) Via.refl e44' F1_a_owner (g := (mkF m 14 #[vr a, vr b, .val (.long rk), .second, .unset, .unset, .unset] [(.ref a)])) rfl rfl (hb hby d13_14)
  refine Goes.via st46 ?_
  show Goes p e below _ (T46.setTop (mkF m 17 #[vr a, vr b, .val (.long rk), .second, .unset, .unset, .unset] [(.ref ow)]))
  refine gALN X46 hx hby d13_17 rfl rfl ?_
  obtain ⟨cq47, kq47, q47a, q47b, q47c⟩ := isOf hZ e46 E6_ow
  obtain ⟨_, _, ⟨T47, L47, k47, n47⟩, -, X47, ⟨Lc47, hQ47, l47, y47, z47⟩, st47⟩ := X46.virtualBack hx (y := mN_Id_sharedPrefixLength) (z := mN_Id_sharedPrefixLength) hown (mvT hZ (own_w hw 94 rfl)) (mvT hZ (own_w hw 95 rfl)) (notFace_of_selects (args := #[]) (mvT hZ (own_w hw 97 rfl))) (mvT hZ (own_w hw 97 rfl)) (mvT hZ (own_w hw 96 rfl)) (by decide) (backOf (W := 0) (rmPre l Z a0 hw [] ow b sp w_ y_ x_ dg bp h0 n0 (Nat.le_trans Z0 (Nat.le_refl _)) F9_ow_space F10_ow_high F11_ow_low F12_b_space F13_b_high F14_b_low E15_sp F16_sp_base F17_sp_digits HB) hZ (own_w hw 98 rfl) (own_w hw 25 rfl) (by decide) (by decide)) q47a q47c (g := (mkF m 18 #[vr a, vr b, .val (.long rk), .second, .unset, .unset, .unset] [(.ref b), (.ref ow)])) rfl (by rw [hml]; rfl) (Steps.refl _) (argsL := [(.ref b)]) (rest := []) (lenOf pd_9 rfl) rfl (by show 2 * 0 + _ ≤ _; exact Nat.le_of_eq rfl) (hb hby d13_18) (fun _ _ => ⟨rfl, e46, (by decide : 0 + 0 ≤ _), (by decide : 0 + 0 ≤ _)⟩)
  dsimp only [Pt.U, Pt.locs, Pt.cells, Pt.slots] at X47 l47 y47 z47 st47 hQ47
  replace l47 := l47.symm
  subst l47 y47 z47
  obtain ⟨rfl, rfl, e47⟩ := hQ47
  first | rw [List.append_nil] at X47 | skip
  refine Goes.tr st47 ?_
  have e47' : T47.heap = h0 := e47
  show Goes p e below _ (T47.setTop (mkF m 21 #[vr a, vr b, .val (.long rk), .second, .unset, .unset, .unset] [(.int (if (w_ ^^^ y_) = (0 : Int64) then dg else (((64 : Int32) + (own_nlzL (w_ ^^^ y_))) - ((128 : Int32) - (dg * bp))) / bp))]))
  refine Goes.via (fun _ kk_ => XS.istore X47.here hx rfl (hb hby d13_21) rfl (l' := #[vr a, vr b, .val (.long rk), .second, vi (if (w_ ^^^ y_) = (0 : Int64) then dg else (((64 : Int32) + (own_nlzL (w_ ^^^ y_))) - ((128 : Int32) - (dg * bp))) / bp), .unset, .unset]) rfl kk_) ?_
  show Goes p e below _ (T47.setTop (mkF m 23 #[vr a, vr b, .val (.long rk), .second, vi (if (w_ ^^^ y_) = (0 : Int64) then dg else (((64 : Int32) + (own_nlzL (w_ ^^^ y_))) - ((128 : Int32) - (dg * bp))) / bp), .unset, .unset] []))
  generalize (if (w_ ^^^ y_) = (0 : Int64) then dg else (((64 : Int32) + (own_nlzL (w_ ^^^ y_))) - ((128 : Int32) - (dg * bp))) / bp) = qq at HP HC ⊢
  show Goes p e below _ (T47.setTop (mkF m 23 #[vr a, vr b, .val (.long rk), .second, vi qq, .unset, .unset] []))
  refine gALN X47 hx hby d13_23 rfl rfl ?_
  obtain ⟨T48, X48, e48, st48⟩ := getF X47 hx hZ hown (host := "") (Or.inl (own_w hw 73 rfl)) Via.refl e47' F2_a_rows (g := (mkF m 24 #[vr a, vr b, .val (.long rk), .second, vi qq, .unset, .unset] [(.ref a)])) rfl rfl (hb hby d13_24)
  refine Goes.via st48 ?_
  show Goes p e below _ (T48.setTop (mkF m 27 #[vr a, vr b, .val (.long rk), .second, vi qq, .unset, .unset] [(.ref rw)]))
  refine gIL X48 hx hby d13_27 rfl ?_
  refine Goes.via (own_aaload X48 hx hZ e48 A20_rw rfl (j := qq) (i := pn) (own_ix HP).1 (own_ix HP).2 Hpn (v := (.ref r1)) HfR (g := (mkF m 29 #[vr a, vr b, .val (.long rk), .second, vi qq, .unset, .unset] [(.int qq), (.ref rw)])) rfl rfl (hb hby d13_29)) ?_
  show Goes p e below _ (T48.setTop (mkF m 30 #[vr a, vr b, .val (.long rk), .second, vi qq, .unset, .unset] [(.ref r1)]))
  refine Goes.via (fun _ kk_ => XS.ifnonnullYes X48.here hx rfl (pc0 := 30) (pc' := 72) rfl (hb hby d13_30) rfl (by decide) (by decide) kk_) ?_
  show Goes p e below _ (T48.setTop (mkF m 72 #[vr a, vr b, .val (.long rk), .second, vi qq, .unset, .unset] []))
  refine gALN X48 hx hby d13_72 rfl rfl ?_
  refine gIL X48 hx hby d13_73 rfl ?_
  obtain ⟨cq49, kq49, q49a, q49b, q49c⟩ := isOf hZ e48 E7_b
  obtain ⟨_, _, ⟨T49, L49, k49, n49⟩, -, X49, ⟨Lc49, hQ49, l49, y49, z49⟩, st49⟩ := X48.virtualBack hx (y := mN_Id_digit) (z := mN_Id_digit) hown (mvT hZ (own_w hw 117 rfl)) (mvT hZ (own_w hw 118 rfl)) (notFace_of_selects (args := #[]) (mvT hZ (own_w hw 120 rfl))) (mvT hZ (own_w hw 120 rfl)) (mvT hZ (own_w hw 119 rfl)) (by decide) (backOf (W := 0) (rm19 l Z a0 hw [] y_ qq x_ dg bp b sp h0 n0 (Nat.le_trans Z0 (Nat.le_refl _)) E7_b F12_b_space F13_b_high F14_b_low E15_sp F16_sp_base F17_sp_digits HB) hZ (own_w hw 121 rfl) (own_w hw 25 rfl) (by decide) (by decide)) q49a q49c (g := (mkF m 75 #[vr a, vr b, .val (.long rk), .second, vi qq, .unset, .unset] [(.int qq), (.ref b)])) rfl (by rw [hml]; rfl) (Steps.refl _) (argsL := [(.int qq)]) (rest := []) (lenOf pd_1 rfl) rfl (by show 2 * 0 + _ ≤ _; exact Nat.le_of_eq rfl) (hb hby d13_75) (fun _ _ => ⟨rfl, e48, (by decide : 0 + 0 ≤ _), (by decide : 0 + 0 ≤ _)⟩)
  dsimp only [Pt.U, Pt.locs, Pt.cells, Pt.slots] at X49 l49 y49 z49 st49 hQ49
  replace l49 := l49.symm
  subst l49 y49 z49
  obtain ⟨rfl, rfl, e49⟩ := hQ49
  first | rw [List.append_nil] at X49 | skip
  refine Goes.tr st49 ?_
  have e49' : T49.heap = h0 := e49
  show Goes p e below _ (T49.setTop (mkF m 78 #[vr a, vr b, .val (.long rk), .second, vi qq, .unset, .unset] [(.int (own_dgt y_ qq x_ dg bp))]))
  refine Goes.via (fun _ kk_ => XS.istore X49.here hx rfl (hb hby d13_78) rfl (l' := #[vr a, vr b, .val (.long rk), .second, vi qq, vi (own_dgt y_ qq x_ dg bp), .unset]) rfl kk_) ?_
  show Goes p e below _ (T49.setTop (mkF m 80 #[vr a, vr b, .val (.long rk), .second, vi qq, vi (own_dgt y_ qq x_ dg bp), .unset] []))
  generalize (own_dgt y_ qq x_ dg bp) = cq at HC ⊢
  show Goes p e below _ (T49.setTop (mkF m 80 #[vr a, vr b, .val (.long rk), .second, vi qq, vi cq, .unset] []))
  refine gALN X49 hx hby d13_80 rfl rfl ?_
  obtain ⟨T50, X50, e50, st50⟩ := getF X49 hx hZ hown (host := "") (Or.inl (own_w hw 73 rfl)) Via.refl e49' F2_a_rows (g := (mkF m 81 #[vr a, vr b, .val (.long rk), .second, vi qq, vi cq, .unset] [(.ref a)])) rfl rfl (hb hby d13_81)
  refine Goes.via st50 ?_
  show Goes p e below _ (T50.setTop (mkF m 84 #[vr a, vr b, .val (.long rk), .second, vi qq, vi cq, .unset] [(.ref rw)]))
  refine gIL X50 hx hby d13_84 rfl ?_
  refine Goes.via (own_aaload X50 hx hZ e50 A20_rw rfl (j := qq) (i := pn) (own_ix HP).1 (own_ix HP).2 Hpn (v := (.ref r1)) HfR (g := (mkF m 86 #[vr a, vr b, .val (.long rk), .second, vi qq, vi cq, .unset] [(.int qq), (.ref rw)])) rfl rfl (hb hby d13_86)) ?_
  show Goes p e below _ (T50.setTop (mkF m 87 #[vr a, vr b, .val (.long rk), .second, vi qq, vi cq, .unset] [(.ref r1)]))
  refine gIL X50 hx hby d13_87 rfl ?_
  refine Goes.via (own_aaload X50 hx hZ e50 A36_r1 rfl (j := cq) (i := cn) (own_ix HC).1 (own_ix HC).2 Hcn (v := (.ref hd)) Hg1 (g := (mkF m 89 #[vr a, vr b, .val (.long rk), .second, vi qq, vi cq, .unset] [(.int cq), (.ref r1)])) rfl rfl (hb hby d13_89)) ?_
  show Goes p e below _ (T50.setTop (mkF m 90 #[vr a, vr b, .val (.long rk), .second, vi qq, vi cq, .unset] [(.ref hd)]))
  refine Goes.via (fun _ kk_ => XS.astore X50.here hx rfl (hb hby d13_90) rfl rfl (l' := #[vr a, vr b, .val (.long rk), .second, vi qq, vi cq, vr hd]) rfl kk_) ?_
  show Goes p e below _ (T50.setTop (mkF m 92 #[vr a, vr b, .val (.long rk), .second, vi qq, vi cq, vr hd] []))
  refine gALN X50 hx hby d13_92 rfl rfl ?_
  refine gIL X50 hx hby d13_93 rfl ?_
  refine gIL X50 hx hby d13_95 rfl ?_
  refine gALN X50 hx hby d13_97 rfl rfl ?_
  refine Goes.via (fun _ kk_ => XS.lloadN X50.here hx rfl (hb hby d13_98) rfl  kk_) ?_
  show Goes p e below _ (T50.setTop (mkF m 99 #[vr a, vr b, .val (.long rk), .second, vi qq, vi cq, vr hd] [(.long rk), (.ref b), (.int cq), (.int qq), (.ref a)]))
  obtain ⟨cq51, q51, q51'⟩ := E0_a.cell
  obtain ⟨_, _, ⟨T51, L51, k51, n51⟩, -, X51, ⟨Lc51, hQ51, l51, y51, z51⟩, st51⟩ := X50.privateBack hx (y := mN_RoutingTable_takes) hown (mvT hZ (own_w hw 123 rfl)) (mvT hZ (own_w hw 124 rfl)) (mvT hZ (own_selP (y := mN_RoutingTable_takes) (own_w hw 53 rfl) (own_w hw 125 rfl) (own_w hw 124 rfl) (by decide))) (Cond.privateMethod_at (mvP hZ (own_w hw 125 rfl) (args := #[]))) (mvT hZ (own_w hw 126 rfl)) (by decide) (backOf (W := 0) (rmTkH l Z a0 hw [] a qq cq b rk rw rl kR kK fR fK r1 r2 k1 k2 g1 g2 nd bn pn cn hv hd sp y_ v_1 h0 n0 (Nat.le_trans Z0 (Nat.le_refl _)) F2_a_rows F3_a_ranks A20_rw A22_rl A36_r1 A38_r2 HP Hpn HC Hcn HfR HfK Hhv Hg1 E7_b F12_b_space F13_b_high F14_b_low F49_hd_space F50_hd_high F51_hd_low) hZ (own_w hw 126 rfl) (own_w hw 54 rfl) (by decide) (by decide)) (g := (mkF m 99 #[vr a, vr b, .val (.long rk), .second, vi qq, vi cq, vr hd] [(.long rk), (.ref b), (.int cq), (.int qq), (.ref a)])) rfl (by rw [hml]; rfl) (Steps.refl _) (a := a) (by rw [e50]; exact q51) q51' (argsL := [(.int qq), (.int cq), (.ref b), (.long rk)]) (rest := []) (lenOf pd_11 rfl) rfl (by show 2 * 0 + _ ≤ _; exact Nat.le_of_eq rfl) (hb hby d13_99) (fun _ _ => ⟨rfl, e50, (by decide : 0 + 0 ≤ _), (by decide : 0 + 0 ≤ _)⟩)
  dsimp only [Pt.U, Pt.locs, Pt.cells, Pt.slots] at X51 l51 y51 z51 st51 hQ51
  replace l51 := l51.symm
  subst l51 y51 z51
  obtain ⟨rfl, rfl, e51⟩ := hQ51
  first | rw [List.append_nil] at X51 | skip
  refine Goes.tr st51 ?_
  have e51' : T51.heap = h0 := e51
  show Goes p e below _ (T51.setTop (mkF m 102 #[vr a, vr b, .val (.long rk), .second, vi qq, vi cq, vr hd] [(.int (own_tk rk hv (own_icu (0 : Int64) y_ (0 : Int64) v_1)))]))
  have hc102_52 : ¬ ((own_tk rk hv (own_icu (0 : Int64) y_ (0 : Int64) v_1)) = (0 : Int32)) := HTk
  refine Goes.via (fun _ kk_ => XS.ifNo X51.here hx rfl (hb hby d13_102) rfl ((if0 _ _).trans (feq hc102_52).1) kk_) ?_
  show Goes p e below _ (T51.setTop (mkF m 105 #[vr a, vr b, .val (.long rk), .second, vi qq, vi cq, vr hd] []))
  refine gAL X51 hx hby d13_105 rfl rfl ?_
  refine Goes.via (fun _ kk_ => XS.ifnonnullYes X51.here hx rfl (pc0 := 107) (pc' := 186) rfl (hb hby d13_107) rfl (by decide) (by decide) kk_) ?_
  show Goes p e below _ (T51.setTop (mkF m 186 #[vr a, vr b, .val (.long rk), .second, vi qq, vi cq, vr hd] []))
  refine gALN X51 hx hby d13_186 rfl rfl ?_
  obtain ⟨T53, X53, e53, st53⟩ := getF X51 hx hZ hown (host := "") (Or.inl (own_w hw 73 rfl)) Via.refl e51' F2_a_rows (g := (mkF m 187 #[vr a, vr b, .val (.long rk), .second, vi qq, vi cq, vr hd] [(.ref a)])) rfl rfl (hb hby d13_187)
  refine Goes.via st53 ?_
  show Goes p e below _ (T53.setTop (mkF m 190 #[vr a, vr b, .val (.long rk), .second, vi qq, vi cq, vr hd] [(.ref rw)]))
  refine gIL X53 hx hby d13_190 rfl ?_
  refine Goes.via (own_aaload X53 hx hZ e53 A20_rw rfl (j := qq) (i := pn) (own_ix HP).1 (own_ix HP).2 Hpn (v := (.ref r1)) HfR (g := (mkF m 192 #[vr a, vr b, .val (.long rk), .second, vi qq, vi cq, vr hd] [(.int qq), (.ref rw)])) rfl rfl (hb hby d13_192)) ?_
  show Goes p e below _ (T53.setTop (mkF m 193 #[vr a, vr b, .val (.long rk), .second, vi qq, vi cq, vr hd] [(.ref r1)]))
  refine gIL X53 hx hby d13_193 rfl ?_
  refine gALN X53 hx hby d13_195 rfl rfl ?_
  obtain ⟨T54, h54, X54, e54, W54, A54, st54⟩ := own_aastore X53 hx hZ e53 A36_r1 rfl rfl OVr (Ins.self E7_b) (j := cq) (i := cn) (own_ix HC).1 (own_ix HC).2 Hcn (g := (mkF m 196 #[vr a, vr b, .val (.long rk), .second, vi qq, vi cq, vr hd] [(.ref b), (.int cq), (.ref r1)])) rfl rfl (hb hby d13_196)
  refine Goes.via st54 ?_
  have N54 := Fr.snoc X54 N0 H43
  show Goes p e below _ (T54.setTop (mkF m 197 #[vr a, vr b, .val (.long rk), .second, vi qq, vi cq, vr hd] []))
  refine gALN X54 hx hby d13_197 rfl rfl ?_
  have f55 := (F3_a_ranks.other W54 (Or.inl ne7))
  obtain ⟨T56, X56, e56, st56⟩ := getF X54 hx hZ hown (host := "") (Or.inl (own_w hw 77 rfl)) Via.refl e54 f55 (g := (mkF m 198 #[vr a, vr b, .val (.long rk), .second, vi qq, vi cq, vr hd] [(.ref a)])) rfl rfl (hb hby d13_198)
  refine Goes.via st56 ?_
  show Goes p e below _ (T56.setTop (mkF m 201 #[vr a, vr b, .val (.long rk), .second, vi qq, vi cq, vr hd] [(.ref rl)]))
  refine gIL X56 hx hby d13_201 rfl ?_
  have f57 := (A22_rl.other W54 ne34)
  refine Goes.via (own_aaload X56 hx hZ e56 f57 rfl (j := qq) (i := pn) (own_ix HP).1 (own_ix HP).2 Hpn (v := (.ref r2)) HfK (g := (mkF m 203 #[vr a, vr b, .val (.long rk), .second, vi qq, vi cq, vr hd] [(.int qq), (.ref rl)])) rfl rfl (hb hby d13_203)) ?_
  show Goes p e below _ (T56.setTop (mkF m 204 #[vr a, vr b, .val (.long rk), .second, vi qq, vi cq, vr hd] [(.ref r2)]))
  refine gIL X56 hx hby d13_204 rfl ?_
  refine Goes.via (fun _ kk_ => XS.lloadN X56.here hx rfl (hb hby d13_206) rfl  kk_) ?_
  show Goes p e below _ (T56.setTop (mkF m 207 #[vr a, vr b, .val (.long rk), .second, vi qq, vi cq, vr hd] [(.long rk), (.int cq), (.ref r2)]))
  have f58 := (A38_r2.other W54 (Ne.symm ne40))
  obtain ⟨T59, h59, X59, e59, W59, A59, st59⟩ := own_lastore X56 hx hZ e56 f58 (j := cq) (i := cn) (own_ix HC).1 (own_ix HC).2 Hcn (g := (mkF m 207 #[vr a, vr b, .val (.long rk), .second, vi qq, vi cq, vr hd] [(.long rk), (.int cq), (.ref r2)])) rfl rfl (hb hby d13_207)
  refine Goes.via st59 ?_
  have N59 := Fr.snoc X59 N54 H44
  show Goes p e below _ (T59.setTop (mkF m 208 #[vr a, vr b, .val (.long rk), .second, vi qq, vi cq, vr hd] []))
  refine gALN X59 hx hby d13_208 rfl rfl ?_
  refine gAL X59 hx hby d13_209 rfl rfl ?_
  have f60 := ((E48_hd.wr W54).wr W59)
  have f61 := ((F12_b_space.other W54 (Or.inl ne20)).other W59 (Or.inl ne21))
  have f62 := ((F13_b_high.other W54 (Or.inl ne20)).other W59 (Or.inl ne21))
  have f63 := ((F14_b_low.other W54 (Or.inl ne20)).other W59 (Or.inl ne21))
  have f64 := ((F49_hd_space.other W54 (Or.inl (Ne.symm ne41))).other W59 (Or.inl (Ne.symm ne42)))
  have f65 := ((F50_hd_high.other W54 (Or.inl (Ne.symm ne41))).other W59 (Or.inl (Ne.symm ne42)))
  have f66 := ((F51_hd_low.other W54 (Or.inl (Ne.symm ne41))).other W59 (Or.inl (Ne.symm ne42)))
  have z68 : h0.size ≤ (h59).size := (Nat.le_trans (Nat.le_trans (Nat.le_refl _) (Nat.le_of_eq W54.size.symm)) (Nat.le_of_eq W59.size.symm))
  have f69 := ((E7_b.wr W54).wr W59)
  obtain ⟨cq67, kq67, q67a, q67b, q67c⟩ := isOf hZ e59 f69
  obtain ⟨_, _, ⟨T67, L67, k67, n67⟩, -, X67, ⟨Lc67, hQ67, l67, y67, z67⟩, st67⟩ := X59.virtualBack hx (y := mN_Id_equals) (z := mN_Id_equals) hown (mvT hZ (own_w hw 87 rfl)) (mvT hZ (own_w hw 88 rfl)) (notFace_of_selects (args := #[]) (mvT hZ (own_w hw 90 rfl))) (mvT hZ (own_w hw 90 rfl)) (mvT hZ (own_w hw 89 rfl)) (by decide) (backOf (W := 0) (rmEq l Z a0 hw [] b hd sp y_ v_1 h59 n0 (Nat.le_trans Z0 z68) HNh f60 f61 f62 f63 f64 f65 f66) hZ (own_w hw 91 rfl) (own_w hw 25 rfl) (by decide) (by decide)) q67a q67c (g := (mkF m 211 #[vr a, vr b, .val (.long rk), .second, vi qq, vi cq, vr hd] [(.ref hd), (.ref b)])) rfl (by rw [hml]; rfl) (Steps.refl _) (argsL := [(.ref hd)]) (rest := []) (lenOf pd_10 rfl) rfl (by show 2 * 0 + _ ≤ _; exact Nat.le_of_eq rfl) (hb hby d13_211) (fun _ _ => ⟨rfl, e59, (by decide : 0 + 0 ≤ _), (by decide : 0 + 0 ≤ _)⟩)
  dsimp only [Pt.U, Pt.locs, Pt.cells, Pt.slots] at X67 l67 y67 z67 st67 hQ67
  replace l67 := l67.symm
  subst l67 y67 z67
  obtain ⟨rfl, rfl, e67⟩ := hQ67
  first | rw [List.append_nil] at X67 | skip
  refine Goes.tr st67 ?_
  have e67' : T67.heap = h59 := e67
  show Goes p e below _ (T67.setTop (mkF m 214 #[vr a, vr b, .val (.long rk), .second, vi qq, vi cq, vr hd] [(.int (if y_ = v_1 then (1 : Int32) else (0 : Int32)))]))
  by_cases hc214 : (if y_ = v_1 then (1 : Int32) else (0 : Int32)) = (0 : Int32)
  · skip
    refine Goes.via (fun _ kk_ => XS.ifNo X67.here hx rfl (hb hby d13_214) rfl ((if0 _ _).trans (teq hc214).2) kk_) ?_
    show Goes p e below _ (T67.setTop (mkF m 217 #[vr a, vr b, .val (.long rk), .second, vi qq, vi cq, vr hd] []))
    refine gIC (z := 1) X67 hx hby d13_217 rfl ?_
    refine Goes.via (fun _ kk_ => XS.goto X67.here hx rfl (pc0 := 218) (pc' := 222) rfl (hb hby d13_218) (by decide) (by decide) kk_) ?_
    show Goes p e below _ (T67.setTop (mkF m 222 #[vr a, vr b, .val (.long rk), .second, vi qq, vi cq, vr hd] [(.int (1 : Int32))]))
    have K70 : Keep h0 h59 [r1, r2] := (((Keep.refl h0 [r1, r2]).wr W54 (Or.inl (List.mem_of_getElem? (i := 0) rfl))).wr W59 (Or.inl (List.mem_of_getElem? (i := 1) rfl)))
    have f71 := ((E35_r1.wr W54).wr W59)
    have f72 := (A54.other W59 ne40)
    have f73 := ((E37_r2.wr W54).wr W59)
    exact own_finN X67 hx hlk hret (by simp) (hb hby d13_222) (by rw [e67']; exact ⟨(1 : Int32), rfl, N59, K70, f71, f72, f73, A59⟩) (by first | decide | omega | (dsimp only; omega)) (by first | decide | omega | (dsimp only; omega))
  · skip
    refine Goes.via (fun _ kk_ => XS.ifYes X67.here hx rfl (pc0 := 214) (pc' := 221) rfl (hb hby d13_214) rfl ((if0 _ _).trans (feq hc214).2) (by decide) (by decide) kk_) ?_
    show Goes p e below _ (T67.setTop (mkF m 221 #[vr a, vr b, .val (.long rk), .second, vi qq, vi cq, vr hd] []))
    refine gIC (z := 0) X67 hx hby d13_221 rfl ?_
    have K74 : Keep h0 h59 [r1, r2] := (((Keep.refl h0 [r1, r2]).wr W54 (Or.inl (List.mem_of_getElem? (i := 0) rfl))).wr W59 (Or.inl (List.mem_of_getElem? (i := 1) rfl)))
    have f75 := ((E35_r1.wr W54).wr W59)
    have f76 := (A54.other W59 ne40)
    have f77 := ((E37_r2.wr W54).wr W59)
    exact own_finN X67 hx hlk hret (by simp) (hb hby d13_222) (by rw [e67']; exact ⟨(0 : Int32), rfl, N59, K74, f75, f76, f77, A59⟩) (by first | decide | omega | (dsimp only; omega)) (by first | decide | omega | (dsimp only; omega))
theorem ef_rmOU (m : MethodId) (a : Addr) (b : Addr) (rk : Int64) : entryFrame m #[(.ref a), (.ref b), (.long rk)] 7 = mkF m 0 #[.val (.ref a), .val (.ref b), .val (.long rk), .second, .unset, .unset, .unset] [] := by first | (simp [entryFrame, mkF, argsToLocals, Value.category]; done) | rfl
def QrmOU (Z : State) (a : Addr) (b : Addr) (rk : Int64) (ow : Addr) (sp : Addr) (w_ : Int64) (y_ : Int64) (x_ : Int32) (dg : Int32) (bp : Int32) (rw : Addr) (rl : Addr) (fl : Addr) (kR : ClassId) (kK : ClassId) (kF : ClassId) (fR : Nat → Value) (fK : Nat → Value) (fF : Nat → Int32) (fo : Int32) (nd : Nat) (bn : Nat) (pn : Nat) (cn : Nat) (r1 : Addr) (r2 : Addr) (k1 : ClassId) (k2 : ClassId) (g1 : Nat → Value) (g2 : Nat → Value) (hv : Int64) (hd : Addr) (v_1 : Int64) (h0 : Heap) (n0 : Nat) (v_ : Option Value) (h_ : Heap) (L_ : List Loc) : Prop := v_ = some (.int (0 : Int32)) ∧ L_ = [] ∧ h_ = h0
theorem d13_223 : decode prog_120_method_2_code 223 = .ok (.iconst 0, 1) := by decide +kernel
theorem d13_224 : decode prog_120_method_2_code 224 = .ok (.ireturn, 1) := by decide +kernel
set_option maxRecDepth 65536 in
set_option maxHeartbeats 40000000 in
theorem rmOU (l : Launch) (Z : State) (a0 : Array Value) (hw : ∀ d ∈ tables_1, d.before a0 Z = true) (ws : List Jvm.Cond) (a : Addr) (b : Addr) (rk : Int64) (ow : Addr) (sp : Addr) (w_ : Int64) (y_ : Int64) (x_ : Int32) (dg : Int32) (bp : Int32) (rw : Addr) (rl : Addr) (fl : Addr) (kR : ClassId) (kK : ClassId) (kF : ClassId) (fR : Nat → Value) (fK : Nat → Value) (fF : Nat → Int32) (fo : Int32) (nd : Nat) (bn : Nat) (pn : Nat) (cn : Nat) (r1 : Addr) (r2 : Addr) (k1 : ClassId) (k2 : ClassId) (g1 : Nat → Value) (g2 : Nat → Value) (hv : Int64) (hd : Addr) (v_1 : Int64) (h0 : Heap) (n0 : Nat) (Z0 : n0 ≤ h0.size) (E0_a : Exa Z h0 a "nearhop/model/RoutingTable") (F1_a_owner : Fld Z h0 a "nearhop/model/RoutingTable" "owner" "Lnearhop/model/Id;" (.ref ow)) (F2_a_rows : Fld Z h0 a "nearhop/model/RoutingTable" "rows" "[[Lnearhop/model/Id;" (.ref rw)) (F3_a_ranks : Fld Z h0 a "nearhop/model/RoutingTable" "ranks" "[[J" (.ref rl)) (F4_a_filled : Fld Z h0 a "nearhop/model/RoutingTable" "filled" "[I" (.ref fl)) (F5_a_firstOpen : Fld Z h0 a "nearhop/model/RoutingTable" "firstOpen" "I" (.int fo)) (E6_ow : Exa Z h0 ow "nearhop/model/Id") (E7_b : Exa Z h0 b "nearhop/model/Id") (HNo : b ≠ ow) (F9_ow_space : Fld Z h0 ow "nearhop/model/Id" "space" "Lnearhop/model/IdSpace;" (.ref sp)) (F10_ow_high : Fld Z h0 ow "nearhop/model/Id" "high" "J" (.long (0 : Int64))) (F11_ow_low : Fld Z h0 ow "nearhop/model/Id" "low" "J" (.long w_)) (F12_b_space : Fld Z h0 b "nearhop/model/Id" "space" "Lnearhop/model/IdSpace;" (.ref sp)) (F13_b_high : Fld Z h0 b "nearhop/model/Id" "high" "J" (.long (0 : Int64))) (F14_b_low : Fld Z h0 b "nearhop/model/Id" "low" "J" (.long y_)) (E15_sp : Exa Z h0 sp "nearhop/model/IdSpace") (F16_sp_base : Fld Z h0 sp "nearhop/model/IdSpace" "base" "I" (.int x_)) (F17_sp_digits : Fld Z h0 sp "nearhop/model/IdSpace" "digits" "I" (.int dg)) (HB : own_bb x_ bp) (E19_rw : Exa Z h0 rw "[[Lnearhop/model/Id;") (A20_rw : Arw Z h0 rw kR (.array (.object "nearhop/model/Id")) nd fR) (E21_rl : Exa Z h0 rl "[[J") (A22_rl : Arw Z h0 rl kK (.array .long) nd fK) (E23_fl : Exa Z h0 fl "[I") (A24_fl : Arw Z h0 fl kF .int nd (fun i => .int (fF i))) (Hne : ¬ y_ = w_) (HP : ((if (w_ ^^^ y_) = (0 : Int64) then dg else (((64 : Int32) + (own_nlzL (w_ ^^^ y_))) - ((128 : Int32) - (dg * bp))) / bp)).toInt = (pn : Int)) (Hpn : pn < nd) (HC : (own_dgt y_ (if (w_ ^^^ y_) = (0 : Int64) then dg else (((64 : Int32) + (own_nlzL (w_ ^^^ y_))) - ((128 : Int32) - (dg * bp))) / bp) x_ dg bp).toInt = (cn : Int)) (Hcn : cn < bn) (Hbn : x_.toInt = (bn : Int)) (Hb16 : bn ≤ 16) (Hn3 : nd ≤ 3) (Hfo0 : 0 ≤ fo.toInt) (Hfo1 : fo.toInt ≤ (nd : Int)) (E35_r1 : Exa Z h0 r1 "[Lnearhop/model/Id;") (A36_r1 : Arw Z h0 r1 k1 (.object "nearhop/model/Id") bn g1) (E37_r2 : Exa Z h0 r2 "[J") (A38_r2 : Arw Z h0 r2 k2 .long bn g2) (HfR : fR pn = .ref r1) (HfK : fK pn = .ref r2) (Hhv : g2 cn = .long hv) (OVr : Ovr Z k1 "nearhop/model/Id") (H43 : n0 ≤ r1) (H44 : n0 ≤ r2) (Hg1 : g1 cn = .ref hd) (HNh : b ≠ hd) (HTk : (own_tk rk hv (own_icu (0 : Int64) y_ (0 : Int64) v_1)) = (0 : Int32)) (E48_hd : Exa Z h0 hd "nearhop/model/Id") (F49_hd_space : Fld Z h0 hd "nearhop/model/Id" "space" "Lnearhop/model/IdSpace;" (.ref sp)) (F50_hd_high : Fld Z h0 hd "nearhop/model/Id" "high" "J" (.long (0 : Int64))) (F51_hd_low : Fld Z h0 hd "nearhop/model/Id" "low" "J" (.long v_1)) :
    MetFree l (⟨"nearhop/model/RoutingTable", "offer", "(Lnearhop/model/Id;J)Z"⟩ : MethodName) (head1 (Jvm.Cond.code (⟨"nearhop/model/RoutingTable", "offer", "(Lnearhop/model/Id;J)Z"⟩ : MethodName) prog_120_method_2_code 7 (some .boolean) :: ws) ({ frames := 5, cells := 0, slots := 0, locals := 83 } : Room)) (fun as_ U_ => as_ = #[(.ref a), (.ref b), (.long rk)] ∧ Z.Warmed39 U_.vm ∧ U_.heap = h0) (fun _ _ _ _ _ => True) (fun _ U_ o_ V_ => ∃ v_ L_, o_ = .returned v_ ∧ QrmOU Z a b rk ow sp w_ y_ x_ dg bp rw rl fl kR kK kF fR fK fF fo nd bn pn cn r1 r2 k1 k2 g1 g2 hv hd v_1 h0 n0 v_ V_.heap L_ ∧ FrameEnd U_ o_ V_ L_ ({ frames := 5, cells := 0, slots := 0, locals := 83 } : Room).cells ({ frames := 5, cells := 0, slots := 0, locals := 83 } : Room).slots) := by
  refine MetFree.of_bodySF (plainFor_of_name pn_nearhop_model_RoutingTable) hisR ?_
  intro p e s m args below meth c s₁ Bd hml0 hP hK
  obtain ⟨rfl, hZ, hh⟩ := hP
  have hx := Bd.exec
  have hby := Bd.bytes
  have hlk : meth.locks = false := BodyLoose.notSynchronized Bd
  have hret := Bd.returns
  have hml : c.maxLocals = 7 := hml0
  have hown : s.vm.findClass "nearhop/model/RoutingTable" = some m.cls := findClass_of_methodNamed Bd.named
  have hnm := (name_of_methodNamed Bd.named Bd.method).1
  have X0 : Stand p l e ({ frames := 5, cells := 0, slots := 0, locals := 83 } : Room) s m #[(.ref a), (.ref b), (.long rk)] below meth c s₁ [] 0 0 := Stand.of_body Bd
  have e0 : s₁.heap = h0 := by rw [← hh, Bd.state]; rfl
  have N0 := Fr.nil n0
  show Goes p e below (Fin_ s (QrmOU Z a b rk ow sp w_ y_ x_ dg bp rw rl fl kR kK kF fR fK fF fo nd bn pn cn r1 r2 k1 k2 g1 g2 hv hd v_1 h0 n0) ({ frames := 5, cells := 0, slots := 0, locals := 83 } : Room).cells ({ frames := 5, cells := 0, slots := 0, locals := 83 } : Room).slots) (s₁.setTop (entryFrame m #[(.ref a), (.ref b), (.long rk)] 7))
  rw [ef_rmOU m a b rk]
  refine gALN X0 hx hby d13_0 rfl rfl ?_
  refine gALN X0 hx hby d13_1 rfl rfl ?_
  obtain ⟨T43, X43, e43, st43⟩ := getF X0 hx hZ hown (host := "") (Or.inl (own_w hw 59 rfl)) Via.refl e0 F1_a_owner (g := (mkF m 2 #[vr a, vr b, .val (.long rk), .second, .unset, .unset, .unset] [(.ref a), (.ref b)])) rfl rfl (hb hby d13_2)
  refine Goes.via st43 ?_
  show Goes p e below _ (T43.setTop (mkF m 5 #[vr a, vr b, .val (.long rk), .second, .unset, .unset, .unset] [(.ref ow), (.ref b)]))
  obtain ⟨cq44, kq44, q44a, q44b, q44c⟩ := isOf hZ e43 E7_b
  obtain ⟨_, _, ⟨T44, L44, k44, n44⟩, -, X44, ⟨Lc44, hQ44, l44, y44, z44⟩, st44⟩ := X43.virtualBack hx (y := mN_Id_equals) (z := mN_Id_equals) hown (mvT hZ (own_w hw 87 rfl)) (mvT hZ (own_w hw 88 rfl)) (notFace_of_selects (args := #[]) (mvT hZ (own_w hw 90 rfl))) (mvT hZ (own_w hw 90 rfl)) (mvT hZ (own_w hw 89 rfl)) (by decide) (backOf (W := 0) (rmEq l Z a0 hw [] b ow sp y_ w_ h0 n0 (Nat.le_trans Z0 (Nat.le_refl _)) HNo E6_ow F12_b_space F13_b_high F14_b_low F9_ow_space F10_ow_high F11_ow_low) hZ (own_w hw 91 rfl) (own_w hw 25 rfl) (by decide) (by decide)) q44a q44c (g := (mkF m 5 #[vr a, vr b, .val (.long rk), .second, .unset, .unset, .unset] [(.ref ow), (.ref b)])) rfl (by rw [hml]; rfl) (Steps.refl _) (argsL := [(.ref ow)]) (rest := []) (lenOf pd_10 rfl) rfl (by show 2 * 0 + _ ≤ _; exact Nat.le_of_eq rfl) (hb hby d13_5) (fun _ _ => ⟨rfl, e43, (by decide : 0 + 0 ≤ _), (by decide : 0 + 0 ≤ _)⟩)
  dsimp only [Pt.U, Pt.locs, Pt.cells, Pt.slots] at X44 l44 y44 z44 st44 hQ44
  replace l44 := l44.symm
  subst l44 y44 z44
  obtain ⟨rfl, rfl, e44⟩ := hQ44
  first | rw [List.append_nil] at X44 | skip
  refine Goes.tr st44 ?_
  have e44' : T44.heap = h0 := e44
  show Goes p e below _ (T44.setTop (mkF m 8 #[vr a, vr b, .val (.long rk), .second, .unset, .unset, .unset] [(.int (if y_ = w_ then (1 : Int32) else (0 : Int32)))]))
  have hc8_45 : (if y_ = w_ then (1 : Int32) else (0 : Int32)) = (0 : Int32) := (if_neg Hne)
  refine Goes.via (fun _ kk_ => XS.ifYes X44.here hx rfl (pc0 := 8) (pc' := 13) rfl (hb hby d13_8) rfl ((if0 _ _).trans (teq hc8_45).1) (by decide) (by decide) kk_) ?_
  show Goes p e below _ (T44.setTop (mkF m 13 #[vr a, vr b, .val (.long rk), .second, .unset, .unset, .unset] []))
  refine gALN X44 hx hby d13_13 rfl rfl ?_
  obtain ⟨T46, X46, e46, st46⟩ := getF X44 hx hZ hown (host := "") (Or.inl (own_w hw 59 rfl)) Via.refl e44' F1_a_owner (g := (mkF m 14 #[vr a, vr b, .val (.long rk), .second, .unset, .unset, .unset] [(.ref a)])) rfl rfl (hb hby d13_14)
  refine Goes.via st46 ?_
  show Goes p e below _ (T46.setTop (mkF m 17 #[vr a, vr b, .val (.long rk), .second, .unset, .unset, .unset] [(.ref ow)]))
  refine gALN X46 hx hby d13_17 rfl rfl ?_
  obtain ⟨cq47, kq47, q47a, q47b, q47c⟩ := isOf hZ e46 E6_ow
  obtain ⟨_, _, ⟨T47, L47, k47, n47⟩, -, X47, ⟨Lc47, hQ47, l47, y47, z47⟩, st47⟩ := X46.virtualBack hx (y := mN_Id_sharedPrefixLength) (z := mN_Id_sharedPrefixLength) hown (mvT hZ (own_w hw 94 rfl)) (mvT hZ (own_w hw 95 rfl)) (notFace_of_selects (args := #[]) (mvT hZ (own_w hw 97 rfl))) (mvT hZ (own_w hw 97 rfl)) (mvT hZ (own_w hw 96 rfl)) (by decide) (backOf (W := 0) (rmPre l Z a0 hw [] ow b sp w_ y_ x_ dg bp h0 n0 (Nat.le_trans Z0 (Nat.le_refl _)) F9_ow_space F10_ow_high F11_ow_low F12_b_space F13_b_high F14_b_low E15_sp F16_sp_base F17_sp_digits HB) hZ (own_w hw 98 rfl) (own_w hw 25 rfl) (by decide) (by decide)) q47a q47c (g := (mkF m 18 #[vr a, vr b, .val (.long rk), .second, .unset, .unset, .unset] [(.ref b), (.ref ow)])) rfl (by rw [hml]; rfl) (Steps.refl _) (argsL := [(.ref b)]) (rest := []) (lenOf pd_9 rfl) rfl (by show 2 * 0 + _ ≤ _; exact Nat.le_of_eq rfl) (hb hby d13_18) (fun _ _ => ⟨rfl, e46, (by decide : 0 + 0 ≤ _), (by decide : 0 + 0 ≤ _)⟩)
  dsimp only [Pt.U, Pt.locs, Pt.cells, Pt.slots] at X47 l47 y47 z47 st47 hQ47
  replace l47 := l47.symm
  subst l47 y47 z47
  obtain ⟨rfl, rfl, e47⟩ := hQ47
  first | rw [List.append_nil] at X47 | skip
  refine Goes.tr st47 ?_
  have e47' : T47.heap = h0 := e47
  show Goes p e below _ (T47.setTop (mkF m 21 #[vr a, vr b, .val (.long rk), .second, .unset, .unset, .unset] [(.int (if (w_ ^^^ y_) = (0 : Int64) then dg else (((64 : Int32) + (own_nlzL (w_ ^^^ y_))) - ((128 : Int32) - (dg * bp))) / bp))]))
  refine Goes.via (fun _ kk_ => XS.istore X47.here hx rfl (hb hby d13_21) rfl (l' := #[vr a, vr b, .val (.long rk), .second, vi (if (w_ ^^^ y_) = (0 : Int64) then dg else (((64 : Int32) + (own_nlzL (w_ ^^^ y_))) - ((128 : Int32) - (dg * bp))) / bp), .unset, .unset]) rfl kk_) ?_
  show Goes p e below _ (T47.setTop (mkF m 23 #[vr a, vr b, .val (.long rk), .second, vi (if (w_ ^^^ y_) = (0 : Int64) then dg else (((64 : Int32) + (own_nlzL (w_ ^^^ y_))) - ((128 : Int32) - (dg * bp))) / bp), .unset, .unset] []))
  generalize (if (w_ ^^^ y_) = (0 : Int64) then dg else (((64 : Int32) + (own_nlzL (w_ ^^^ y_))) - ((128 : Int32) - (dg * bp))) / bp) = qq at HP HC ⊢
  show Goes p e below _ (T47.setTop (mkF m 23 #[vr a, vr b, .val (.long rk), .second, vi qq, .unset, .unset] []))
  refine gALN X47 hx hby d13_23 rfl rfl ?_
  obtain ⟨T48, X48, e48, st48⟩ := getF X47 hx hZ hown (host := "") (Or.inl (own_w hw 73 rfl)) Via.refl e47' F2_a_rows (g := (mkF m 24 #[vr a, vr b, .val (.long rk), .second, vi qq, .unset, .unset] [(.ref a)])) rfl rfl (hb hby d13_24)
  refine Goes.via st48 ?_
  show Goes p e below _ (T48.setTop (mkF m 27 #[vr a, vr b, .val (.long rk), .second, vi qq, .unset, .unset] [(.ref rw)]))
  refine gIL X48 hx hby d13_27 rfl ?_
  refine Goes.via (own_aaload X48 hx hZ e48 A20_rw rfl (j := qq) (i := pn) (own_ix HP).1 (own_ix HP).2 Hpn (v := (.ref r1)) HfR (g := (mkF m 29 #[vr a, vr b, .val (.long rk), .second, vi qq, .unset, .unset] [(.int qq), (.ref rw)])) rfl rfl (hb hby d13_29)) ?_
  show Goes p e below _ (T48.setTop (mkF m 30 #[vr a, vr b, .val (.long rk), .second, vi qq, .unset, .unset] [(.ref r1)]))
  refine Goes.via (fun _ kk_ => XS.ifnonnullYes X48.here hx rfl (pc0 := 30) (pc' := 72) rfl (hb hby d13_30) rfl (by decide) (by decide) kk_) ?_
  show Goes p e below _ (T48.setTop (mkF m 72 #[vr a, vr b, .val (.long rk), .second, vi qq, .unset, .unset] []))
  refine gALN X48 hx hby d13_72 rfl rfl ?_
  refine gIL X48 hx hby d13_73 rfl ?_
  obtain ⟨cq49, kq49, q49a, q49b, q49c⟩ := isOf hZ e48 E7_b
  obtain ⟨_, _, ⟨T49, L49, k49, n49⟩, -, X49, ⟨Lc49, hQ49, l49, y49, z49⟩, st49⟩ := X48.virtualBack hx (y := mN_Id_digit) (z := mN_Id_digit) hown (mvT hZ (own_w hw 117 rfl)) (mvT hZ (own_w hw 118 rfl)) (notFace_of_selects (args := #[]) (mvT hZ (own_w hw 120 rfl))) (mvT hZ (own_w hw 120 rfl)) (mvT hZ (own_w hw 119 rfl)) (by decide) (backOf (W := 0) (rm19 l Z a0 hw [] y_ qq x_ dg bp b sp h0 n0 (Nat.le_trans Z0 (Nat.le_refl _)) E7_b F12_b_space F13_b_high F14_b_low E15_sp F16_sp_base F17_sp_digits HB) hZ (own_w hw 121 rfl) (own_w hw 25 rfl) (by decide) (by decide)) q49a q49c (g := (mkF m 75 #[vr a, vr b, .val (.long rk), .second, vi qq, .unset, .unset] [(.int qq), (.ref b)])) rfl (by rw [hml]; rfl) (Steps.refl _) (argsL := [(.int qq)]) (rest := []) (lenOf pd_1 rfl) rfl (by show 2 * 0 + _ ≤ _; exact Nat.le_of_eq rfl) (hb hby d13_75) (fun _ _ => ⟨rfl, e48, (by decide : 0 + 0 ≤ _), (by decide : 0 + 0 ≤ _)⟩)
  dsimp only [Pt.U, Pt.locs, Pt.cells, Pt.slots] at X49 l49 y49 z49 st49 hQ49
  replace l49 := l49.symm
  subst l49 y49 z49
  obtain ⟨rfl, rfl, e49⟩ := hQ49
  first | rw [List.append_nil] at X49 | skip
  refine Goes.tr st49 ?_
  have e49' : T49.heap = h0 := e49
  show Goes p e below _ (T49.setTop (mkF m 78 #[vr a, vr b, .val (.long rk), .second, vi qq, .unset, .unset] [(.int (own_dgt y_ qq x_ dg bp))]))
  refine Goes.via (fun _ kk_ => XS.istore X49.here hx rfl (hb hby d13_78) rfl (l' := #[vr a, vr b, .val (.long rk), .second, vi qq, vi (own_dgt y_ qq x_ dg bp), .unset]) rfl kk_) ?_
  show Goes p e below _ (T49.setTop (mkF m 80 #[vr a, vr b, .val (.long rk), .second, vi qq, vi (own_dgt y_ qq x_ dg bp), .unset] []))
  generalize (own_dgt y_ qq x_ dg bp) = cq at HC ⊢
  show Goes p e below _ (T49.setTop (mkF m 80 #[vr a, vr b, .val (.long rk), .second, vi qq, vi cq, .unset] []))
  refine gALN X49 hx hby d13_80 rfl rfl ?_
  obtain ⟨T50, X50, e50, st50⟩ := getF X49 hx hZ hown (host := "") (Or.inl (own_w hw 73 rfl)) Via.refl e49' F2_a_rows (g := (mkF m 81 #[vr a, vr b, .val (.long rk), .second, vi qq, vi cq, .unset] [(.ref a)])) rfl rfl (hb hby d13_81)
  refine Goes.via st50 ?_
  show Goes p e below _ (T50.setTop (mkF m 84 #[vr a, vr b, .val (.long rk), .second, vi qq, vi cq, .unset] [(.ref rw)]))
  refine gIL X50 hx hby d13_84 rfl ?_
  refine Goes.via (own_aaload X50 hx hZ e50 A20_rw rfl (j := qq) (i := pn) (own_ix HP).1 (own_ix HP).2 Hpn (v := (.ref r1)) HfR (g := (mkF m 86 #[vr a, vr b, .val (.long rk), .second, vi qq, vi cq, .unset] [(.int qq), (.ref rw)])) rfl rfl (hb hby d13_86)) ?_
  show Goes p e below _ (T50.setTop (mkF m 87 #[vr a, vr b, .val (.long rk), .second, vi qq, vi cq, .unset] [(.ref r1)]))
  refine gIL X50 hx hby d13_87 rfl ?_
  refine Goes.via (own_aaload X50 hx hZ e50 A36_r1 rfl (j := cq) (i := cn) (own_ix HC).1 (own_ix HC).2 Hcn (v := (.ref hd)) Hg1 (g := (mkF m 89 #[vr a, vr b, .val (.long rk), .second, vi qq, vi cq, .unset] [(.int cq), (.ref r1)])) rfl rfl (hb hby d13_89)) ?_
  show Goes p e below _ (T50.setTop (mkF m 90 #[vr a, vr b, .val (.long rk), .second, vi qq, vi cq, .unset] [(.ref hd)]))
  refine Goes.via (fun _ kk_ => XS.astore X50.here hx rfl (hb hby d13_90) rfl rfl (l' := #[vr a, vr b, .val (.long rk), .second, vi qq, vi cq, vr hd]) rfl kk_) ?_
  show Goes p e below _ (T50.setTop (mkF m 92 #[vr a, vr b, .val (.long rk), .second, vi qq, vi cq, vr hd] []))
  refine gALN X50 hx hby d13_92 rfl rfl ?_
  refine gIL X50 hx hby d13_93 rfl ?_
  refine gIL X50 hx hby d13_95 rfl ?_
  refine gALN X50 hx hby d13_97 rfl rfl ?_
  refine Goes.via (fun _ kk_ => XS.lloadN X50.here hx rfl (hb hby d13_98) rfl  kk_) ?_
  show Goes p e below _ (T50.setTop (mkF m 99 #[vr a, vr b, .val (.long rk), .second, vi qq, vi cq, vr hd] [(.long rk), (.ref b), (.int cq), (.int qq), (.ref a)]))
  obtain ⟨cq51, q51, q51'⟩ := E0_a.cell
  obtain ⟨_, _, ⟨T51, L51, k51, n51⟩, -, X51, ⟨Lc51, hQ51, l51, y51, z51⟩, st51⟩ := X50.privateBack hx (y := mN_RoutingTable_takes) hown (mvT hZ (own_w hw 123 rfl)) (mvT hZ (own_w hw 124 rfl)) (mvT hZ (own_selP (y := mN_RoutingTable_takes) (own_w hw 53 rfl) (own_w hw 125 rfl) (own_w hw 124 rfl) (by decide))) (Cond.privateMethod_at (mvP hZ (own_w hw 125 rfl) (args := #[]))) (mvT hZ (own_w hw 126 rfl)) (by decide) (backOf (W := 0) (rmTkH l Z a0 hw [] a qq cq b rk rw rl kR kK fR fK r1 r2 k1 k2 g1 g2 nd bn pn cn hv hd sp y_ v_1 h0 n0 (Nat.le_trans Z0 (Nat.le_refl _)) F2_a_rows F3_a_ranks A20_rw A22_rl A36_r1 A38_r2 HP Hpn HC Hcn HfR HfK Hhv Hg1 E7_b F12_b_space F13_b_high F14_b_low F49_hd_space F50_hd_high F51_hd_low) hZ (own_w hw 126 rfl) (own_w hw 54 rfl) (by decide) (by decide)) (g := (mkF m 99 #[vr a, vr b, .val (.long rk), .second, vi qq, vi cq, vr hd] [(.long rk), (.ref b), (.int cq), (.int qq), (.ref a)])) rfl (by rw [hml]; rfl) (Steps.refl _) (a := a) (by rw [e50]; exact q51) q51' (argsL := [(.int qq), (.int cq), (.ref b), (.long rk)]) (rest := []) (lenOf pd_11 rfl) rfl (by show 2 * 0 + _ ≤ _; exact Nat.le_of_eq rfl) (hb hby d13_99) (fun _ _ => ⟨rfl, e50, (by decide : 0 + 0 ≤ _), (by decide : 0 + 0 ≤ _)⟩)
  dsimp only [Pt.U, Pt.locs, Pt.cells, Pt.slots] at X51 l51 y51 z51 st51 hQ51
  replace l51 := l51.symm
  subst l51 y51 z51
  obtain ⟨rfl, rfl, e51⟩ := hQ51
  first | rw [List.append_nil] at X51 | skip
  refine Goes.tr st51 ?_
  have e51' : T51.heap = h0 := e51
  show Goes p e below _ (T51.setTop (mkF m 102 #[vr a, vr b, .val (.long rk), .second, vi qq, vi cq, vr hd] [(.int (own_tk rk hv (own_icu (0 : Int64) y_ (0 : Int64) v_1)))]))
  have hc102_52 : (own_tk rk hv (own_icu (0 : Int64) y_ (0 : Int64) v_1)) = (0 : Int32) := HTk
  refine Goes.via (fun _ kk_ => XS.ifYes X51.here hx rfl (pc0 := 102) (pc' := 223) rfl (hb hby d13_102) rfl ((if0 _ _).trans (teq hc102_52).1) (by decide) (by decide) kk_) ?_
  show Goes p e below _ (T51.setTop (mkF m 223 #[vr a, vr b, .val (.long rk), .second, vi qq, vi cq, vr hd] []))
  refine gIC (z := 0) X51 hx hby d13_223 rfl ?_
  exact own_finN X51 hx hlk hret (by simp) (hb hby d13_224) (by rw [e51']; exact ⟨rfl, rfl, rfl⟩) (by first | decide | omega | (dsimp only; omega)) (by first | decide | omega | (dsimp only; omega))
theorem own_sh {x : Int32} (k : Int32) (n : Nat) (hk : k.toBitVec.toNat % 32 = n) (h0 : 0 < n) (h : 0 ≤ x.toInt) : ((x.toUInt32 >>> (k &&& 31).toUInt32).toInt32).toInt = x.toInt / (2 ^ n : Nat) := by
  rw [c_iushr x k n hk h0]
  have q := rng32 x
  rw [Int.emod_eq_of_lt h (by omega)]
theorem own_nlzS {C y : Int32} {c S : Nat} {X : Int} (hC : C.toInt = (31 : Int) - S) (hS : S ≤ 30) (h1 : 1 ≤ y.toInt) (h3 : y.toInt ≤ 3) (hX : y.toInt = X / (2 ^ S : Nat)) (hX0 : 0 ≤ X) : ∃ m : Nat, m ≤ 31 ∧ (C - ((y.toUInt32 >>> ((1 : Int32) &&& 31).toUInt32).toInt32)).toInt = 31 - (m : Int) ∧ ((2 ^ m : Nat) : Int) ≤ X ∧ X < ((2 ^ (m + 1) : Nat) : Int) := by
  have q1 := own_sh (x := y) (1 : Int32) 1 (by decide) (by decide) (by omega)
  have q2 := c_isub C ((y.toUInt32 >>> ((1 : Int32) &&& 31).toUInt32).toInt32)
  have q3 := rng32 (C - ((y.toUInt32 >>> ((1 : Int32) &&& 31).toUInt32).toInt32))
  have p1 : (2 ^ 1 : Nat) = 2 := by decide
  rw [p1] at q1
  have hp : 0 < ((2 ^ S : Nat) : Int) := by
    have := Nat.two_pow_pos S
    omega
  have d1 := Int.mul_ediv_add_emod X ((2 ^ S : Nat) : Int)
  have d2 := Int.emod_nonneg X (Int.ne_of_gt hp)
  have d3 := Int.emod_lt_of_pos X hp
  rw [← hX] at d1
  have e1 : (2 ^ (S + 1) : Nat) = 2 * 2 ^ S := by rw [Nat.pow_succ]; omega
  have e2 : (2 ^ (S + 2) : Nat) = 4 * 2 ^ S := by rw [Nat.pow_succ, Nat.pow_succ]; omega
  generalize ((2 ^ S : Nat)) = P at *
  rcases (by omega : y.toInt = 1 ∨ y.toInt = 2 ∨ y.toInt = 3) with z | z | z
  · refine ⟨S, by omega, by omega, ?_, ?_⟩
    · rw [z] at d1; omega
    · rw [e1]; rw [z] at d1; push_cast; omega
  · refine ⟨S + 1, by omega, by omega, ?_, ?_⟩
    · rw [e1]; rw [z] at d1; push_cast; omega
    · rw [e2]; rw [z] at d1; push_cast; omega
  · refine ⟨S + 1, by omega, by omega, ?_, ?_⟩
    · rw [e1]; rw [z] at d1; push_cast; omega
    · rw [e2]; rw [z] at d1; push_cast; omega
theorem own_nlzP (x : Int32) (hx : 0 < x.toInt) : ∃ m : Nat, m ≤ 31 ∧ (own_nlzI x).toInt = 31 - (m : Int) ∧ ((2 ^ m : Nat) : Int) ≤ x.toInt ∧ x.toInt < ((2 ^ (m + 1) : Nat) : Int) := by
  have r0 := rng32 x
  have z0 : (0 : Int32).toInt = 0 := by decide
  unfold own_nlzI
  rw [if_pos (own_lti.mpr (by omega : (0 : Int32).toInt < x.toInt))]
  have eq_ : x.toInt = x.toInt / ((2 ^ 0 : Nat) : Int) := by rw [show ((2 ^ 0 : Nat) : Int) = 1 by decide]; omega
  by_cases c0 : x < (65536 : Int32)
  · rw [if_pos c0]
    have t0 : (65536 : Int32).toInt = 65536 := by decide
    have u0 := own_lti.mp c0
    have h0 : x.toInt < 65536 := by omega
    by_cases c1 : x < (256 : Int32)
    · rw [if_pos c1]
      have t1 : (256 : Int32).toInt = 256 := by decide
      have u1 := own_lti.mp c1
      have h1 : x.toInt < 256 := by omega
      by_cases c2 : x < (16 : Int32)
      · rw [if_pos c2]
        have t2 : (16 : Int32).toInt = 16 := by decide
        have u2 := own_lti.mp c2
        have h2 : x.toInt < 16 := by omega
        by_cases c3 : x < (4 : Int32)
        · rw [if_pos c3]
          have t3 : (4 : Int32).toInt = 4 := by decide
          have u3 := own_lti.mp c3
          have h3 : x.toInt < 4 := by omega
          exact own_nlzS (c := 0) (S := 0) (by decide) (by decide) (by omega) (by omega) eq_ (by omega)
        · rw [if_neg c3]
          have t3 : (4 : Int32).toInt = 4 := by decide
          have u3 : ¬ _ := fun q => c3 (own_lti.mpr q)
          have s3 := own_sh (x := x) (2 : Int32) 2 (by decide) (by decide) (by omega)
          rw [show ((2 ^ 2 : Nat) : Int) = 4 by decide] at s3
          have l3 : 1 ≤ ((x.toUInt32 >>> ((2 : Int32) &&& 31).toUInt32).toInt32).toInt := by omega
          have h3 : ((x.toUInt32 >>> ((2 : Int32) &&& 31).toUInt32).toInt32).toInt < 4 := by omega
          have q3 : ((x.toUInt32 >>> ((2 : Int32) &&& 31).toUInt32).toInt32).toInt = x.toInt / ((2 ^ 2 : Nat) : Int) := by rw [show ((2 ^ 2 : Nat) : Int) = 4 by decide]; rw [show ((2 ^ 0 : Nat) : Int) = 1 by decide] at eq_; omega
          exact own_nlzS (c := 0) (S := 2) (by decide) (by decide) l3 (by omega) q3 (by omega)
      · rw [if_neg c2]
        have t2 : (16 : Int32).toInt = 16 := by decide
        have u2 : ¬ _ := fun q => c2 (own_lti.mpr q)
        have s2 := own_sh (x := x) (4 : Int32) 4 (by decide) (by decide) (by omega)
        rw [show ((2 ^ 4 : Nat) : Int) = 16 by decide] at s2
        have l2 : 1 ≤ ((x.toUInt32 >>> ((4 : Int32) &&& 31).toUInt32).toInt32).toInt := by omega
        have h2 : ((x.toUInt32 >>> ((4 : Int32) &&& 31).toUInt32).toInt32).toInt < 16 := by omega
        have q2 : ((x.toUInt32 >>> ((4 : Int32) &&& 31).toUInt32).toInt32).toInt = x.toInt / ((2 ^ 4 : Nat) : Int) := by rw [show ((2 ^ 4 : Nat) : Int) = 16 by decide]; rw [show ((2 ^ 0 : Nat) : Int) = 1 by decide] at eq_; omega
        by_cases c3 : ((x.toUInt32 >>> ((4 : Int32) &&& 31).toUInt32).toInt32) < (4 : Int32)
        · rw [if_pos c3]
          have t3 : (4 : Int32).toInt = 4 := by decide
          have u3 := own_lti.mp c3
          have h3 : ((x.toUInt32 >>> ((4 : Int32) &&& 31).toUInt32).toInt32).toInt < 4 := by omega
          exact own_nlzS (c := 0) (S := 4) (by decide) (by decide) l2 (by omega) q2 (by omega)
        · rw [if_neg c3]
          have t3 : (4 : Int32).toInt = 4 := by decide
          have u3 : ¬ _ := fun q => c3 (own_lti.mpr q)
          have s3 := own_sh (x := ((x.toUInt32 >>> ((4 : Int32) &&& 31).toUInt32).toInt32)) (2 : Int32) 2 (by decide) (by decide) (by omega)
          rw [show ((2 ^ 2 : Nat) : Int) = 4 by decide] at s3
          have l3 : 1 ≤ ((((x.toUInt32 >>> ((4 : Int32) &&& 31).toUInt32).toInt32).toUInt32 >>> ((2 : Int32) &&& 31).toUInt32).toInt32).toInt := by omega
          have h3 : ((((x.toUInt32 >>> ((4 : Int32) &&& 31).toUInt32).toInt32).toUInt32 >>> ((2 : Int32) &&& 31).toUInt32).toInt32).toInt < 4 := by omega
          have q3 : ((((x.toUInt32 >>> ((4 : Int32) &&& 31).toUInt32).toInt32).toUInt32 >>> ((2 : Int32) &&& 31).toUInt32).toInt32).toInt = x.toInt / ((2 ^ 6 : Nat) : Int) := by rw [show ((2 ^ 6 : Nat) : Int) = 64 by decide]; rw [show ((2 ^ 4 : Nat) : Int) = 16 by decide] at q2; omega
          exact own_nlzS (c := 0) (S := 6) (by decide) (by decide) l3 (by omega) q3 (by omega)
    · rw [if_neg c1]
      have t1 : (256 : Int32).toInt = 256 := by decide
      have u1 : ¬ _ := fun q => c1 (own_lti.mpr q)
      have s1 := own_sh (x := x) (8 : Int32) 8 (by decide) (by decide) (by omega)
      rw [show ((2 ^ 8 : Nat) : Int) = 256 by decide] at s1
      have l1 : 1 ≤ ((x.toUInt32 >>> ((8 : Int32) &&& 31).toUInt32).toInt32).toInt := by omega
      have h1 : ((x.toUInt32 >>> ((8 : Int32) &&& 31).toUInt32).toInt32).toInt < 256 := by omega
      have q1 : ((x.toUInt32 >>> ((8 : Int32) &&& 31).toUInt32).toInt32).toInt = x.toInt / ((2 ^ 8 : Nat) : Int) := by rw [show ((2 ^ 8 : Nat) : Int) = 256 by decide]; rw [show ((2 ^ 0 : Nat) : Int) = 1 by decide] at eq_; omega
      by_cases c2 : ((x.toUInt32 >>> ((8 : Int32) &&& 31).toUInt32).toInt32) < (16 : Int32)
      · rw [if_pos c2]
        have t2 : (16 : Int32).toInt = 16 := by decide
        have u2 := own_lti.mp c2
        have h2 : ((x.toUInt32 >>> ((8 : Int32) &&& 31).toUInt32).toInt32).toInt < 16 := by omega
        by_cases c3 : ((x.toUInt32 >>> ((8 : Int32) &&& 31).toUInt32).toInt32) < (4 : Int32)
        · rw [if_pos c3]
          have t3 : (4 : Int32).toInt = 4 := by decide
          have u3 := own_lti.mp c3
          have h3 : ((x.toUInt32 >>> ((8 : Int32) &&& 31).toUInt32).toInt32).toInt < 4 := by omega
          exact own_nlzS (c := 0) (S := 8) (by decide) (by decide) l1 (by omega) q1 (by omega)
        · rw [if_neg c3]
          have t3 : (4 : Int32).toInt = 4 := by decide
          have u3 : ¬ _ := fun q => c3 (own_lti.mpr q)
          have s3 := own_sh (x := ((x.toUInt32 >>> ((8 : Int32) &&& 31).toUInt32).toInt32)) (2 : Int32) 2 (by decide) (by decide) (by omega)
          rw [show ((2 ^ 2 : Nat) : Int) = 4 by decide] at s3
          have l3 : 1 ≤ ((((x.toUInt32 >>> ((8 : Int32) &&& 31).toUInt32).toInt32).toUInt32 >>> ((2 : Int32) &&& 31).toUInt32).toInt32).toInt := by omega
          have h3 : ((((x.toUInt32 >>> ((8 : Int32) &&& 31).toUInt32).toInt32).toUInt32 >>> ((2 : Int32) &&& 31).toUInt32).toInt32).toInt < 4 := by omega
          have q3 : ((((x.toUInt32 >>> ((8 : Int32) &&& 31).toUInt32).toInt32).toUInt32 >>> ((2 : Int32) &&& 31).toUInt32).toInt32).toInt = x.toInt / ((2 ^ 10 : Nat) : Int) := by rw [show ((2 ^ 10 : Nat) : Int) = 1024 by decide]; rw [show ((2 ^ 8 : Nat) : Int) = 256 by decide] at q1; omega
          exact own_nlzS (c := 0) (S := 10) (by decide) (by decide) l3 (by omega) q3 (by omega)
      · rw [if_neg c2]
        have t2 : (16 : Int32).toInt = 16 := by decide
        have u2 : ¬ _ := fun q => c2 (own_lti.mpr q)
        have s2 := own_sh (x := ((x.toUInt32 >>> ((8 : Int32) &&& 31).toUInt32).toInt32)) (4 : Int32) 4 (by decide) (by decide) (by omega)
        rw [show ((2 ^ 4 : Nat) : Int) = 16 by decide] at s2
        have l2 : 1 ≤ ((((x.toUInt32 >>> ((8 : Int32) &&& 31).toUInt32).toInt32).toUInt32 >>> ((4 : Int32) &&& 31).toUInt32).toInt32).toInt := by omega
        have h2 : ((((x.toUInt32 >>> ((8 : Int32) &&& 31).toUInt32).toInt32).toUInt32 >>> ((4 : Int32) &&& 31).toUInt32).toInt32).toInt < 16 := by omega
        have q2 : ((((x.toUInt32 >>> ((8 : Int32) &&& 31).toUInt32).toInt32).toUInt32 >>> ((4 : Int32) &&& 31).toUInt32).toInt32).toInt = x.toInt / ((2 ^ 12 : Nat) : Int) := by rw [show ((2 ^ 12 : Nat) : Int) = 4096 by decide]; rw [show ((2 ^ 8 : Nat) : Int) = 256 by decide] at q1; omega
        by_cases c3 : ((((x.toUInt32 >>> ((8 : Int32) &&& 31).toUInt32).toInt32).toUInt32 >>> ((4 : Int32) &&& 31).toUInt32).toInt32) < (4 : Int32)
        · rw [if_pos c3]
          have t3 : (4 : Int32).toInt = 4 := by decide
          have u3 := own_lti.mp c3
          have h3 : ((((x.toUInt32 >>> ((8 : Int32) &&& 31).toUInt32).toInt32).toUInt32 >>> ((4 : Int32) &&& 31).toUInt32).toInt32).toInt < 4 := by omega
          exact own_nlzS (c := 0) (S := 12) (by decide) (by decide) l2 (by omega) q2 (by omega)
        · rw [if_neg c3]
          have t3 : (4 : Int32).toInt = 4 := by decide
          have u3 : ¬ _ := fun q => c3 (own_lti.mpr q)
          have s3 := own_sh (x := ((((x.toUInt32 >>> ((8 : Int32) &&& 31).toUInt32).toInt32).toUInt32 >>> ((4 : Int32) &&& 31).toUInt32).toInt32)) (2 : Int32) 2 (by decide) (by decide) (by omega)
          rw [show ((2 ^ 2 : Nat) : Int) = 4 by decide] at s3
          have l3 : 1 ≤ ((((((x.toUInt32 >>> ((8 : Int32) &&& 31).toUInt32).toInt32).toUInt32 >>> ((4 : Int32) &&& 31).toUInt32).toInt32).toUInt32 >>> ((2 : Int32) &&& 31).toUInt32).toInt32).toInt := by omega
          have h3 : ((((((x.toUInt32 >>> ((8 : Int32) &&& 31).toUInt32).toInt32).toUInt32 >>> ((4 : Int32) &&& 31).toUInt32).toInt32).toUInt32 >>> ((2 : Int32) &&& 31).toUInt32).toInt32).toInt < 4 := by omega
          have q3 : ((((((x.toUInt32 >>> ((8 : Int32) &&& 31).toUInt32).toInt32).toUInt32 >>> ((4 : Int32) &&& 31).toUInt32).toInt32).toUInt32 >>> ((2 : Int32) &&& 31).toUInt32).toInt32).toInt = x.toInt / ((2 ^ 14 : Nat) : Int) := by rw [show ((2 ^ 14 : Nat) : Int) = 16384 by decide]; rw [show ((2 ^ 12 : Nat) : Int) = 4096 by decide] at q2; omega
          exact own_nlzS (c := 0) (S := 14) (by decide) (by decide) l3 (by omega) q3 (by omega)
  · rw [if_neg c0]
    have t0 : (65536 : Int32).toInt = 65536 := by decide
    have u0 : ¬ _ := fun q => c0 (own_lti.mpr q)
    have s0 := own_sh (x := x) (16 : Int32) 16 (by decide) (by decide) (by omega)
    rw [show ((2 ^ 16 : Nat) : Int) = 65536 by decide] at s0
    have l0 : 1 ≤ ((x.toUInt32 >>> ((16 : Int32) &&& 31).toUInt32).toInt32).toInt := by omega
    have h0 : ((x.toUInt32 >>> ((16 : Int32) &&& 31).toUInt32).toInt32).toInt < 65536 := by omega
    have q0 : ((x.toUInt32 >>> ((16 : Int32) &&& 31).toUInt32).toInt32).toInt = x.toInt / ((2 ^ 16 : Nat) : Int) := by rw [show ((2 ^ 16 : Nat) : Int) = 65536 by decide]; rw [show ((2 ^ 0 : Nat) : Int) = 1 by decide] at eq_; omega
    by_cases c1 : ((x.toUInt32 >>> ((16 : Int32) &&& 31).toUInt32).toInt32) < (256 : Int32)
    · rw [if_pos c1]
      have t1 : (256 : Int32).toInt = 256 := by decide
      have u1 := own_lti.mp c1
      have h1 : ((x.toUInt32 >>> ((16 : Int32) &&& 31).toUInt32).toInt32).toInt < 256 := by omega
      by_cases c2 : ((x.toUInt32 >>> ((16 : Int32) &&& 31).toUInt32).toInt32) < (16 : Int32)
      · rw [if_pos c2]
        have t2 : (16 : Int32).toInt = 16 := by decide
        have u2 := own_lti.mp c2
        have h2 : ((x.toUInt32 >>> ((16 : Int32) &&& 31).toUInt32).toInt32).toInt < 16 := by omega
        by_cases c3 : ((x.toUInt32 >>> ((16 : Int32) &&& 31).toUInt32).toInt32) < (4 : Int32)
        · rw [if_pos c3]
          have t3 : (4 : Int32).toInt = 4 := by decide
          have u3 := own_lti.mp c3
          have h3 : ((x.toUInt32 >>> ((16 : Int32) &&& 31).toUInt32).toInt32).toInt < 4 := by omega
          exact own_nlzS (c := 0) (S := 16) (by decide) (by decide) l0 (by omega) q0 (by omega)
        · rw [if_neg c3]
          have t3 : (4 : Int32).toInt = 4 := by decide
          have u3 : ¬ _ := fun q => c3 (own_lti.mpr q)
          have s3 := own_sh (x := ((x.toUInt32 >>> ((16 : Int32) &&& 31).toUInt32).toInt32)) (2 : Int32) 2 (by decide) (by decide) (by omega)
          rw [show ((2 ^ 2 : Nat) : Int) = 4 by decide] at s3
          have l3 : 1 ≤ ((((x.toUInt32 >>> ((16 : Int32) &&& 31).toUInt32).toInt32).toUInt32 >>> ((2 : Int32) &&& 31).toUInt32).toInt32).toInt := by omega
          have h3 : ((((x.toUInt32 >>> ((16 : Int32) &&& 31).toUInt32).toInt32).toUInt32 >>> ((2 : Int32) &&& 31).toUInt32).toInt32).toInt < 4 := by omega
          have q3 : ((((x.toUInt32 >>> ((16 : Int32) &&& 31).toUInt32).toInt32).toUInt32 >>> ((2 : Int32) &&& 31).toUInt32).toInt32).toInt = x.toInt / ((2 ^ 18 : Nat) : Int) := by rw [show ((2 ^ 18 : Nat) : Int) = 262144 by decide]; rw [show ((2 ^ 16 : Nat) : Int) = 65536 by decide] at q0; omega
          exact own_nlzS (c := 0) (S := 18) (by decide) (by decide) l3 (by omega) q3 (by omega)
      · rw [if_neg c2]
        have t2 : (16 : Int32).toInt = 16 := by decide
        have u2 : ¬ _ := fun q => c2 (own_lti.mpr q)
        have s2 := own_sh (x := ((x.toUInt32 >>> ((16 : Int32) &&& 31).toUInt32).toInt32)) (4 : Int32) 4 (by decide) (by decide) (by omega)
        rw [show ((2 ^ 4 : Nat) : Int) = 16 by decide] at s2
        have l2 : 1 ≤ ((((x.toUInt32 >>> ((16 : Int32) &&& 31).toUInt32).toInt32).toUInt32 >>> ((4 : Int32) &&& 31).toUInt32).toInt32).toInt := by omega
        have h2 : ((((x.toUInt32 >>> ((16 : Int32) &&& 31).toUInt32).toInt32).toUInt32 >>> ((4 : Int32) &&& 31).toUInt32).toInt32).toInt < 16 := by omega
        have q2 : ((((x.toUInt32 >>> ((16 : Int32) &&& 31).toUInt32).toInt32).toUInt32 >>> ((4 : Int32) &&& 31).toUInt32).toInt32).toInt = x.toInt / ((2 ^ 20 : Nat) : Int) := by rw [show ((2 ^ 20 : Nat) : Int) = 1048576 by decide]; rw [show ((2 ^ 16 : Nat) : Int) = 65536 by decide] at q0; omega
        by_cases c3 : ((((x.toUInt32 >>> ((16 : Int32) &&& 31).toUInt32).toInt32).toUInt32 >>> ((4 : Int32) &&& 31).toUInt32).toInt32) < (4 : Int32)
        · rw [if_pos c3]
          have t3 : (4 : Int32).toInt = 4 := by decide
          have u3 := own_lti.mp c3
          have h3 : ((((x.toUInt32 >>> ((16 : Int32) &&& 31).toUInt32).toInt32).toUInt32 >>> ((4 : Int32) &&& 31).toUInt32).toInt32).toInt < 4 := by omega
          exact own_nlzS (c := 0) (S := 20) (by decide) (by decide) l2 (by omega) q2 (by omega)
        · rw [if_neg c3]
          have t3 : (4 : Int32).toInt = 4 := by decide
          have u3 : ¬ _ := fun q => c3 (own_lti.mpr q)
          have s3 := own_sh (x := ((((x.toUInt32 >>> ((16 : Int32) &&& 31).toUInt32).toInt32).toUInt32 >>> ((4 : Int32) &&& 31).toUInt32).toInt32)) (2 : Int32) 2 (by decide) (by decide) (by omega)
          rw [show ((2 ^ 2 : Nat) : Int) = 4 by decide] at s3
          have l3 : 1 ≤ ((((((x.toUInt32 >>> ((16 : Int32) &&& 31).toUInt32).toInt32).toUInt32 >>> ((4 : Int32) &&& 31).toUInt32).toInt32).toUInt32 >>> ((2 : Int32) &&& 31).toUInt32).toInt32).toInt := by omega
          have h3 : ((((((x.toUInt32 >>> ((16 : Int32) &&& 31).toUInt32).toInt32).toUInt32 >>> ((4 : Int32) &&& 31).toUInt32).toInt32).toUInt32 >>> ((2 : Int32) &&& 31).toUInt32).toInt32).toInt < 4 := by omega
          have q3 : ((((((x.toUInt32 >>> ((16 : Int32) &&& 31).toUInt32).toInt32).toUInt32 >>> ((4 : Int32) &&& 31).toUInt32).toInt32).toUInt32 >>> ((2 : Int32) &&& 31).toUInt32).toInt32).toInt = x.toInt / ((2 ^ 22 : Nat) : Int) := by rw [show ((2 ^ 22 : Nat) : Int) = 4194304 by decide]; rw [show ((2 ^ 20 : Nat) : Int) = 1048576 by decide] at q2; omega
          exact own_nlzS (c := 0) (S := 22) (by decide) (by decide) l3 (by omega) q3 (by omega)
    · rw [if_neg c1]
      have t1 : (256 : Int32).toInt = 256 := by decide
      have u1 : ¬ _ := fun q => c1 (own_lti.mpr q)
      have s1 := own_sh (x := ((x.toUInt32 >>> ((16 : Int32) &&& 31).toUInt32).toInt32)) (8 : Int32) 8 (by decide) (by decide) (by omega)
      rw [show ((2 ^ 8 : Nat) : Int) = 256 by decide] at s1
      have l1 : 1 ≤ ((((x.toUInt32 >>> ((16 : Int32) &&& 31).toUInt32).toInt32).toUInt32 >>> ((8 : Int32) &&& 31).toUInt32).toInt32).toInt := by omega
      have h1 : ((((x.toUInt32 >>> ((16 : Int32) &&& 31).toUInt32).toInt32).toUInt32 >>> ((8 : Int32) &&& 31).toUInt32).toInt32).toInt < 256 := by omega
      have q1 : ((((x.toUInt32 >>> ((16 : Int32) &&& 31).toUInt32).toInt32).toUInt32 >>> ((8 : Int32) &&& 31).toUInt32).toInt32).toInt = x.toInt / ((2 ^ 24 : Nat) : Int) := by rw [show ((2 ^ 24 : Nat) : Int) = 16777216 by decide]; rw [show ((2 ^ 16 : Nat) : Int) = 65536 by decide] at q0; omega
      by_cases c2 : ((((x.toUInt32 >>> ((16 : Int32) &&& 31).toUInt32).toInt32).toUInt32 >>> ((8 : Int32) &&& 31).toUInt32).toInt32) < (16 : Int32)
      · rw [if_pos c2]
        have t2 : (16 : Int32).toInt = 16 := by decide
        have u2 := own_lti.mp c2
        have h2 : ((((x.toUInt32 >>> ((16 : Int32) &&& 31).toUInt32).toInt32).toUInt32 >>> ((8 : Int32) &&& 31).toUInt32).toInt32).toInt < 16 := by omega
        by_cases c3 : ((((x.toUInt32 >>> ((16 : Int32) &&& 31).toUInt32).toInt32).toUInt32 >>> ((8 : Int32) &&& 31).toUInt32).toInt32) < (4 : Int32)
        · rw [if_pos c3]
          have t3 : (4 : Int32).toInt = 4 := by decide
          have u3 := own_lti.mp c3
          have h3 : ((((x.toUInt32 >>> ((16 : Int32) &&& 31).toUInt32).toInt32).toUInt32 >>> ((8 : Int32) &&& 31).toUInt32).toInt32).toInt < 4 := by omega
          exact own_nlzS (c := 0) (S := 24) (by decide) (by decide) l1 (by omega) q1 (by omega)
        · rw [if_neg c3]
          have t3 : (4 : Int32).toInt = 4 := by decide
          have u3 : ¬ _ := fun q => c3 (own_lti.mpr q)
          have s3 := own_sh (x := ((((x.toUInt32 >>> ((16 : Int32) &&& 31).toUInt32).toInt32).toUInt32 >>> ((8 : Int32) &&& 31).toUInt32).toInt32)) (2 : Int32) 2 (by decide) (by decide) (by omega)
          rw [show ((2 ^ 2 : Nat) : Int) = 4 by decide] at s3
          have l3 : 1 ≤ ((((((x.toUInt32 >>> ((16 : Int32) &&& 31).toUInt32).toInt32).toUInt32 >>> ((8 : Int32) &&& 31).toUInt32).toInt32).toUInt32 >>> ((2 : Int32) &&& 31).toUInt32).toInt32).toInt := by omega
          have h3 : ((((((x.toUInt32 >>> ((16 : Int32) &&& 31).toUInt32).toInt32).toUInt32 >>> ((8 : Int32) &&& 31).toUInt32).toInt32).toUInt32 >>> ((2 : Int32) &&& 31).toUInt32).toInt32).toInt < 4 := by omega
          have q3 : ((((((x.toUInt32 >>> ((16 : Int32) &&& 31).toUInt32).toInt32).toUInt32 >>> ((8 : Int32) &&& 31).toUInt32).toInt32).toUInt32 >>> ((2 : Int32) &&& 31).toUInt32).toInt32).toInt = x.toInt / ((2 ^ 26 : Nat) : Int) := by rw [show ((2 ^ 26 : Nat) : Int) = 67108864 by decide]; rw [show ((2 ^ 24 : Nat) : Int) = 16777216 by decide] at q1; omega
          exact own_nlzS (c := 0) (S := 26) (by decide) (by decide) l3 (by omega) q3 (by omega)
      · rw [if_neg c2]
        have t2 : (16 : Int32).toInt = 16 := by decide
        have u2 : ¬ _ := fun q => c2 (own_lti.mpr q)
        have s2 := own_sh (x := ((((x.toUInt32 >>> ((16 : Int32) &&& 31).toUInt32).toInt32).toUInt32 >>> ((8 : Int32) &&& 31).toUInt32).toInt32)) (4 : Int32) 4 (by decide) (by decide) (by omega)
        rw [show ((2 ^ 4 : Nat) : Int) = 16 by decide] at s2
        have l2 : 1 ≤ ((((((x.toUInt32 >>> ((16 : Int32) &&& 31).toUInt32).toInt32).toUInt32 >>> ((8 : Int32) &&& 31).toUInt32).toInt32).toUInt32 >>> ((4 : Int32) &&& 31).toUInt32).toInt32).toInt := by omega
        have h2 : ((((((x.toUInt32 >>> ((16 : Int32) &&& 31).toUInt32).toInt32).toUInt32 >>> ((8 : Int32) &&& 31).toUInt32).toInt32).toUInt32 >>> ((4 : Int32) &&& 31).toUInt32).toInt32).toInt < 16 := by omega
        have q2 : ((((((x.toUInt32 >>> ((16 : Int32) &&& 31).toUInt32).toInt32).toUInt32 >>> ((8 : Int32) &&& 31).toUInt32).toInt32).toUInt32 >>> ((4 : Int32) &&& 31).toUInt32).toInt32).toInt = x.toInt / ((2 ^ 28 : Nat) : Int) := by rw [show ((2 ^ 28 : Nat) : Int) = 268435456 by decide]; rw [show ((2 ^ 24 : Nat) : Int) = 16777216 by decide] at q1; omega
        by_cases c3 : ((((((x.toUInt32 >>> ((16 : Int32) &&& 31).toUInt32).toInt32).toUInt32 >>> ((8 : Int32) &&& 31).toUInt32).toInt32).toUInt32 >>> ((4 : Int32) &&& 31).toUInt32).toInt32) < (4 : Int32)
        · rw [if_pos c3]
          have t3 : (4 : Int32).toInt = 4 := by decide
          have u3 := own_lti.mp c3
          have h3 : ((((((x.toUInt32 >>> ((16 : Int32) &&& 31).toUInt32).toInt32).toUInt32 >>> ((8 : Int32) &&& 31).toUInt32).toInt32).toUInt32 >>> ((4 : Int32) &&& 31).toUInt32).toInt32).toInt < 4 := by omega
          exact own_nlzS (c := 0) (S := 28) (by decide) (by decide) l2 (by omega) q2 (by omega)
        · rw [if_neg c3]
          have t3 : (4 : Int32).toInt = 4 := by decide
          have u3 : ¬ _ := fun q => c3 (own_lti.mpr q)
          have s3 := own_sh (x := ((((((x.toUInt32 >>> ((16 : Int32) &&& 31).toUInt32).toInt32).toUInt32 >>> ((8 : Int32) &&& 31).toUInt32).toInt32).toUInt32 >>> ((4 : Int32) &&& 31).toUInt32).toInt32)) (2 : Int32) 2 (by decide) (by decide) (by omega)
          rw [show ((2 ^ 2 : Nat) : Int) = 4 by decide] at s3
          have l3 : 1 ≤ ((((((((x.toUInt32 >>> ((16 : Int32) &&& 31).toUInt32).toInt32).toUInt32 >>> ((8 : Int32) &&& 31).toUInt32).toInt32).toUInt32 >>> ((4 : Int32) &&& 31).toUInt32).toInt32).toUInt32 >>> ((2 : Int32) &&& 31).toUInt32).toInt32).toInt := by omega
          have h3 : ((((((((x.toUInt32 >>> ((16 : Int32) &&& 31).toUInt32).toInt32).toUInt32 >>> ((8 : Int32) &&& 31).toUInt32).toInt32).toUInt32 >>> ((4 : Int32) &&& 31).toUInt32).toInt32).toUInt32 >>> ((2 : Int32) &&& 31).toUInt32).toInt32).toInt < 4 := by omega
          have q3 : ((((((((x.toUInt32 >>> ((16 : Int32) &&& 31).toUInt32).toInt32).toUInt32 >>> ((8 : Int32) &&& 31).toUInt32).toInt32).toUInt32 >>> ((4 : Int32) &&& 31).toUInt32).toInt32).toUInt32 >>> ((2 : Int32) &&& 31).toUInt32).toInt32).toInt = x.toInt / ((2 ^ 30 : Nat) : Int) := by rw [show ((2 ^ 30 : Nat) : Int) = 1073741824 by decide]; rw [show ((2 ^ 28 : Nat) : Int) = 268435456 by decide] at q2; omega
          exact own_nlzS (c := 0) (S := 30) (by decide) (by decide) l3 (by omega) q3 (by omega)
theorem own_nlzN (x : Int32) (h : x.toInt < 0) : own_nlzI x = (0 : Int32) := by
  have z0 : (0 : Int32).toInt = 0 := by decide
  unfold own_nlzI
  rw [if_neg (fun q => by have := own_lti.mp q; omega), if_neg (fun q => by rw [q] at h; omega)]
theorem own_nlzLP (x : Int64) (hx : 0 < x.toInt) : ∃ m : Nat, m ≤ 63 ∧ (own_nlzL x).toInt = 63 - (m : Int) ∧ ((2 ^ m : Nat) : Int) ≤ x.toInt ∧ x.toInt < ((2 ^ (m + 1) : Nat) : Int) := by
  have r0 := rng64 x
  have s0 := c_lushr x (32 : Int32) 32 (by decide) (by decide)
  rw [Int.emod_eq_of_lt (by omega) (by omega), show ((2 ^ 32 : Nat) : Int) = 4294967296 by decide] at s0
  have s1 := c_l2i ((x.toUInt64 >>> ((32 : Int32) &&& 0x3f).toInt64.toUInt64).toInt64)
  have s2 := rng32 ((x.toUInt64 >>> ((32 : Int32) &&& 0x3f).toInt64.toUInt64).toInt64).toInt32
  unfold own_nlzL
  generalize ((x.toUInt64 >>> ((32 : Int32) &&& 0x3f).toInt64.toUInt64).toInt64).toInt32 = y at *
  have e : y.toInt = x.toInt / 4294967296 := by omega
  have z0 : (0 : Int32).toInt = 0 := by decide
  by_cases h : y = (0 : Int32)
  · rw [if_pos h]
    rw [h, z0] at e
    have t1 := c_l2i x
    have t2 := rng32 x.toInt32
    have a1 := c_iadd (32 : Int32) (own_nlzI x.toInt32)
    have a2 := rng32 ((32 : Int32) + own_nlzI x.toInt32)
    have a3 : (32 : Int32).toInt = 32 := by decide
    by_cases q : x.toInt < 2147483648
    · have e2 : x.toInt32.toInt = x.toInt := by omega
      obtain ⟨m, m1, m2, m3, m4⟩ := own_nlzP x.toInt32 (by omega)
      rw [e2] at m3 m4
      exact ⟨m, by omega, by omega, m3, m4⟩
    · have n := own_nlzN x.toInt32 (by omega)
      rw [n, z0] at a1
      rw [n] at a2 ⊢
      refine ⟨31, by decide, by omega, ?_, ?_⟩
      · rw [show ((2 ^ 31 : Nat) : Int) = 2147483648 by decide]; omega
      · rw [show ((2 ^ (31 + 1) : Nat) : Int) = 4294967296 by decide]; omega
  · rw [if_neg h]
    have h' : y.toInt ≠ 0 := fun q => h (Int32.toInt_inj.mp (q.trans z0.symm))
    obtain ⟨m, m1, m2, m3, m4⟩ := own_nlzP y (by omega)
    refine ⟨m + 32, by omega, by omega, ?_, ?_⟩
    · rw [Nat.pow_add, show (2 ^ 32 : Nat) = 4294967296 by decide]; generalize (2 ^ m : Nat) = P at *; omega
    · rw [show m + 32 + 1 = (m + 1) + 32 by omega, Nat.pow_add, show (2 ^ 32 : Nat) = 4294967296 by decide]; generalize (2 ^ (m + 1) : Nat) = P at *; omega

theorem own_enum {x : Int32} {n : Nat} (h0 : 0 ≤ x.toInt) (h1 : x.toInt < n) : ∃ k, k < n ∧ x = Int32.ofNat k := by
  refine ⟨x.toInt.toNat, by omega, ?_⟩
  have := rng32 x
  apply Int32.toInt_inj.mp
  rw [Int32.toInt_ofNat_of_lt (by omega)]
  omega
theorem own_bbS {z x b : Int32} (hb : (1 : Int32) + (z &&& (3 : Int32)) = b) (hx : ((1 : Int32) <<< (b &&& 31)) = x) : own_bb x b := by
  have q := c_and z 3 (by decide)
  have e3 : (3 : Int32).toInt = 3 := by decide
  rw [e3] at q
  obtain ⟨k, hk, e⟩ := own_enum (x := z &&& 3) (n := 4) q.1 (by omega)
  rw [e] at hb
  subst hb hx
  match k, hk with
  | 0, _ => exact Or.inl ⟨by decide, by decide⟩
  | 1, _ => exact Or.inr (Or.inl ⟨by decide, by decide⟩)
  | 2, _ => exact Or.inr (Or.inr (Or.inl ⟨by decide, by decide⟩))
  | 3, _ => exact Or.inr (Or.inr (Or.inr ⟨by decide, by decide⟩))
theorem own_dxor (o x s m : Int32) : ((o.toUInt32 >>> s.toUInt32).toInt32 &&& m) = ((x.toUInt32 >>> s.toUInt32).toInt32 &&& m) ↔ (((o ^^^ x).toUInt32 >>> s.toUInt32).toInt32 &&& m) = (0 : Int32) := by
  have e : (((o ^^^ x).toUInt32 >>> s.toUInt32).toInt32 &&& m) = ((o.toUInt32 >>> s.toUInt32).toInt32 &&& m) ^^^ ((x.toUInt32 >>> s.toUInt32).toInt32 &&& m) := by
    apply Int32.toBitVec_inj.mp
    show (((o.toBitVec ^^^ x.toBitVec) >>> (s.toBitVec.umod 32#32)) &&& m.toBitVec) = ((o.toBitVec >>> (s.toBitVec.umod 32#32)) &&& m.toBitVec) ^^^ ((x.toBitVec >>> (s.toBitVec.umod 32#32)) &&& m.toBitVec)
    ext i hi
    simp only [BitVec.getElem_and, BitVec.getElem_xor, BitVec.ushiftRight_eq', BitVec.getElem_ushiftRight, BitVec.getLsbD_xor]
    cases m.toBitVec[i] <;> simp
  rw [e]
  generalize ((o.toUInt32 >>> s.toUInt32).toInt32 &&& m) = A
  generalize ((x.toUInt32 >>> s.toUInt32).toInt32 &&& m) = B
  constructor
  · rintro rfl
    exact Int32.xor_self
  · intro h
    have q : A ^^^ (A ^^^ B) = A ^^^ (0 : Int32) := by rw [h]
    rw [← Int32.xor_assoc, Int32.xor_self, Int32.zero_xor, Int32.xor_zero] at q
    exact q.symm
theorem own_digv {z ps dg bp : Int32} {S k : Nat} (hS : (((dg - (1 : Int32)) - ps) * bp).toBitVec.toNat % 32 = S) (hk : k ≤ 31) (hm : (((1 : Int32) <<< (bp &&& 31)) - (1 : Int32)).toBitVec.toNat = 2 ^ k - 1) (hz : 0 ≤ z.toInt) : (own_dig z ps dg bp).toInt = z.toInt / (2 ^ S : Nat) % (2 ^ k : Nat) := by
  unfold own_dig
  rw [c_mask _ _ k hk hm]
  congr 1
  rcases Nat.eq_zero_or_pos S with h | h
  · subst h
    have q : ((((dg - (1 : Int32)) - ps) * bp) &&& 31) = (0 : Int32) := by
      apply Int32.toBitVec_inj.mp
      apply BitVec.eq_of_toNat_eq
      show ((((dg - (1 : Int32)) - ps) * bp).toBitVec.toNat &&& 31) = 0
      rw [show (31 : Nat) = 2 ^ 5 - 1 by decide, Nat.and_two_pow_sub_one_eq_mod]
      exact hS
    rw [q]
    have e : (z.toUInt32 >>> (0 : Int32).toUInt32).toInt32 = z := by
      have : (0 : Int32).toUInt32 = 0 := by decide
      rw [this]
      simp
    rw [e]
    simp
  · rw [c_iushr _ _ S hS h]
    have q := rng32 z
    rw [Int.emod_eq_of_lt hz (by omega)]
theorem own_mlt {m c : Nat} {Z : Int} (h1 : ((2 ^ m : Nat) : Int) ≤ Z) (h2 : Z < ((2 ^ (m + 1) : Nat) : Int)) : m < c ↔ Z < ((2 ^ c : Nat) : Int) := by
  constructor
  · intro h
    have q := Nat.pow_le_pow_right (n := 2) (by decide) (show m + 1 ≤ c from h)
    omega
  · intro h
    rcases Nat.lt_or_ge m c with g | g
    · exact g
    · have q := Nat.pow_le_pow_right (n := 2) (by decide) g
      omega
theorem own_d0 {z ps dg bp : Int32} {S k : Nat} (hS : (((dg - (1 : Int32)) - ps) * bp).toBitVec.toNat % 32 = S) (hk : k ≤ 31) (hm : (((1 : Int32) <<< (bp &&& 31)) - (1 : Int32)).toBitVec.toNat = 2 ^ k - 1) (hz : 0 ≤ z.toInt) (hl : z.toInt < ((2 ^ (S + k) : Nat) : Int)) : own_dig z ps dg bp = (0 : Int32) ↔ z.toInt < ((2 ^ S : Nat) : Int) := by
  have q := own_digv hS hk hm hz
  have p1 : 0 < ((2 ^ S : Nat) : Int) := by
    have := Nat.two_pow_pos S
    omega
  have l1 : z.toInt / ((2 ^ S : Nat) : Int) < ((2 ^ k : Nat) : Int) := by
    apply Int.ediv_lt_of_lt_mul p1
    rw [Nat.pow_add] at hl
    push_cast at hl ⊢
    rw [Int.mul_comm]
    exact hl
  have l0 : 0 ≤ z.toInt / ((2 ^ S : Nat) : Int) := Int.ediv_nonneg hz (by omega)
  rw [Int.emod_eq_of_lt l0 l1] at q
  have z0 : (0 : Int32).toInt = 0 := by decide
  constructor
  · intro h
    rw [h, z0] at q
    have d1 := Int.mul_ediv_add_emod z.toInt ((2 ^ S : Nat) : Int)
    have d2 := Int.emod_lt_of_pos z.toInt p1
    rw [← q, Int.mul_zero] at d1
    omega
  · intro h
    apply Int32.toInt_inj.mp
    rw [q, Int.ediv_eq_zero_of_lt hz h, z0]
/-- the law's prefix, by the highest bit of the difference -/
theorem own_prefixP {o x dg bp xb : Int32} {m k nd : Nat} (hb : own_bb xb bp) (hk : bp.toInt = (k : Int)) (hn : dg.toInt = (nd : Int)) (h1 : 1 ≤ nd) (h3 : nd ≤ 3) (hz : 0 ≤ (o ^^^ x).toInt) (hl : (o ^^^ x).toInt < ((2 ^ (nd * k) : Nat) : Int)) (hm1 : ((2 ^ m : Nat) : Int) ≤ (o ^^^ x).toInt) (hm2 : (o ^^^ x).toInt < ((2 ^ (m + 1) : Nat) : Int)) :
    (own_prefix o x dg bp).toInt = (((nd * k - 1 - m) / k : Nat) : Int) := by
  have dx : ∀ ps, (own_dig o ps dg bp = own_dig x ps dg bp) ↔ own_dig (o ^^^ x) ps dg bp = (0 : Int32) := fun ps => own_dxor o x _ _
  unfold own_prefix
  simp only [dx]
  have e1 : (1 : Int32).toInt = 1 := by decide
  have e2 : (2 : Int32).toInt = 2 := by decide
  have e3 : (3 : Int32).toInt = 3 := by decide
  have e0 : (0 : Int32).toInt = 0 := by decide
  have e4 : (4 : Int32).toInt = 4 := by decide
  have hd : dg = (1 : Int32) ∧ nd = 1 ∨ dg = (2 : Int32) ∧ nd = 2 ∨ dg = (3 : Int32) ∧ nd = 3 := by
    rcases (by omega : nd = 1 ∨ nd = 2 ∨ nd = 3) with g | g | g
    · exact Or.inl ⟨Int32.toInt_inj.mp (by rw [hn, g]; decide), g⟩
    · exact Or.inr (Or.inl ⟨Int32.toInt_inj.mp (by rw [hn, g]; decide), g⟩)
    · exact Or.inr (Or.inr ⟨Int32.toInt_inj.mp (by rw [hn, g]; decide), g⟩)
  generalize (o ^^^ x) = z at *
  have key : ∀ c, m < c ↔ z.toInt < ((2 ^ c : Nat) : Int) := fun c => own_mlt hm1 hm2
  have hmn : m < nd * k := (key _).mpr hl
  have fin : ∀ {K : Nat} (bp : Int32), K ≤ 4 → 1 ≤ K → bp.toInt = (K : Int) → (((1 : Int32) <<< (bp &&& 31)) - (1 : Int32)).toBitVec.toNat = 2 ^ K - 1 → k = K →
      (∀ (ps : Int32) (i : Nat), i < nd → ps.toInt = (i : Int) → (((dg - (1 : Int32)) - ps) * bp).toBitVec.toNat % 32 = (nd - 1 - i) * K) →
      (if own_dig z 0 dg bp = 0 then if dg = 1 then (1 : Int32) else if own_dig z 1 dg bp = 0 then if dg = 2 then 2 else if own_dig z 2 dg bp = 0 then 3 else 2 else 1 else 0).toInt = (((nd * k - 1 - m) / k : Nat) : Int) := by
    intro K bp hK hK1 hbp hmk hkK hS
    subst hkK
    have dv : ∀ c, c ≤ (nd * k - 1 - m) / k ↔ m < nd * k - c * k := fun c => by
      rw [Nat.le_div_iff_mul_le (by omega)]
      omega
    have dig : ∀ (ps : Int32) (i : Nat), i < nd → ps.toInt = (i : Int) → m < (nd - i) * k → (own_dig z ps dg bp = 0 ↔ m < (nd - 1 - i) * k) := fun ps i hi hp hlt => by
      rw [key ((nd - 1 - i) * k)]
      refine own_d0 (hS ps i hi hp) (by omega) hmk hz ?_
      rw [show (nd - 1 - i) * k + k = (nd - i) * k by
        rw [← Nat.succ_mul]
        congr 1
        omega]
      exact (key _).mp hlt
    have ex : ∀ c, c ≤ (nd * k - 1 - m) / k → ¬ c + 1 ≤ (nd * k - 1 - m) / k → (c : Int) = (((nd * k - 1 - m) / k : Nat) : Int) := fun c h g => by omega
    have dd : ∀ c, c ≤ nd → nd * k - c * k = (nd - c) * k := fun c _ => by rw [Nat.sub_mul]
    have i0 := dig 0 0 (by omega) (by decide) (by simpa using hmn)
    by_cases g0 : own_dig z 0 dg bp = 0
    · rw [if_pos g0]
      have q0 := i0.mp g0
      have r1 : 1 ≤ (nd * k - 1 - m) / k := (dv 1).mpr (by rw [dd 1 h1]; exact q0)
      rcases hd with ⟨rfl, hnd⟩ | ⟨rfl, hnd⟩ | ⟨rfl, hnd⟩
      · rw [hnd] at q0
        omega
      · rw [if_neg (by decide)]
        have i1 := dig 1 1 (by omega) (by decide) q0
        rw [hnd] at i1
        rw [if_neg (fun g => by have := i1.mp g; omega), e1]
        exact ex 1 r1 (fun g => by have := (dv 2).mp g; rw [hnd] at this; omega)
      · rw [if_neg (by decide)]
        have i1 := dig 1 1 (by omega) (by decide) q0
        by_cases g1 : own_dig z 1 3 bp = 0
        · rw [if_pos g1, if_neg (by decide)]
          have q1 := i1.mp g1
          have i2 := dig 2 2 (by omega) (by decide) q1
          rw [hnd] at i2
          rw [if_neg (fun g => by have := i2.mp g; omega), e2]
          exact ex 2 ((dv 2).mpr (by rw [dd 2 (by omega)]; exact q1)) (fun g => by have := (dv 3).mp g; rw [hnd] at this; omega)
        · rw [if_neg g1, e1]
          exact ex 1 r1 (fun g => g1 (i1.mpr (by have := (dv 2).mp g; rw [dd 2 (by omega)] at this; exact this)))
    · rw [if_neg g0, e0]
      exact ex 0 (Nat.zero_le _) (fun g => g0 (i0.mpr (by have := (dv 1).mp g; rw [dd 1 h1] at this; exact this)))
  have sh : ∀ (dg bp : Int32) (nd K : Nat), (dg, nd) ∈ [((1 : Int32), 1), (2, 2), (3, 3)] → (bp, K) ∈ [((1 : Int32), 1), (2, 2), (3, 3), (4, 4)] → ∀ (ps : Int32) (i : Nat), i < nd → ps.toInt = (i : Int) → (((dg - (1 : Int32)) - ps) * bp).toBitVec.toNat % 32 = (nd - 1 - i) * K := by
    intro dg bp nd K hd hb ps i hi hp
    have hps : ps = Int32.ofNat i := by
      have hnd : nd ≤ 3 := by
        simp at hd
        omega
      apply Int32.toInt_inj.mp
      rw [Int32.toInt_ofNat_of_lt (by omega)]
      exact hp
    subst hps
    have key : ∀ d ∈ [((1 : Int32), 1), (2, 2), (3, 3)], ∀ b ∈ [((1 : Int32), 1), (2, 2), (3, 3), (4, 4)], ∀ i < d.2, (((d.1 - (1 : Int32)) - Int32.ofNat i) * b.1).toBitVec.toNat % 32 = (d.2 - 1 - i) * b.2 := by decide
    exact key _ hd _ hb i hi
  have hdm : (dg, nd) ∈ [((1 : Int32), 1), (2, 2), (3, 3)] := by
    rcases hd with ⟨rfl, rfl⟩ | ⟨rfl, rfl⟩ | ⟨rfl, rfl⟩ <;> simp
  rcases hb with ⟨-, rfl⟩ | ⟨-, rfl⟩ | ⟨-, rfl⟩ | ⟨-, rfl⟩
  · exact fin (K := 1) 1 (by decide) (by decide) (by decide) (by decide) (by omega) (sh dg 1 nd 1 hdm (by simp))
  · exact fin (K := 2) 2 (by decide) (by decide) (by decide) (by decide) (by omega) (sh dg 2 nd 2 hdm (by simp))
  · exact fin (K := 3) 3 (by decide) (by decide) (by decide) (by decide) (by omega) (sh dg 3 nd 3 hdm (by simp))
  · exact fin (K := 4) 4 (by decide) (by decide) (by decide) (by decide) (by omega) (sh dg 4 nd 4 hdm (by simp))

theorem own_bbk {x b : Int32} (h : own_bb x b) : ∃ k : Nat, b.toInt = (k : Int) ∧ 1 ≤ k ∧ k ≤ 4 ∧ x.toInt = ((2 ^ k : Nat) : Int) ∧ (x - (1 : Int32)).toBitVec.toNat = 2 ^ k - 1 ∧ (((1 : Int32) <<< (b &&& 31)) - (1 : Int32)).toBitVec.toNat = 2 ^ k - 1 := by
  rcases h with ⟨rfl, rfl⟩ | ⟨rfl, rfl⟩ | ⟨rfl, rfl⟩ | ⟨rfl, rfl⟩
  · exact ⟨1, by decide, by decide, by decide, by decide, by decide, by decide⟩
  · exact ⟨2, by decide, by decide, by decide, by decide, by decide, by decide⟩
  · exact ⟨3, by decide, by decide, by decide, by decide, by decide, by decide⟩
  · exact ⟨4, by decide, by decide, by decide, by decide, by decide, by decide⟩
theorem own_nd3 {dg : Int32} {nd : Nat} (hn : dg.toInt = (nd : Int)) (h1 : 1 ≤ nd) (h3 : nd ≤ 3) : dg = (1 : Int32) ∧ nd = 1 ∨ dg = (2 : Int32) ∧ nd = 2 ∨ dg = (3 : Int32) ∧ nd = 3 := by
  rcases (by omega : nd = 1 ∨ nd = 2 ∨ nd = 3) with g | g | g
  · exact Or.inl ⟨Int32.toInt_inj.mp (by rw [hn, g]; decide), g⟩
  · exact Or.inr (Or.inl ⟨Int32.toInt_inj.mp (by rw [hn, g]; decide), g⟩)
  · exact Or.inr (Or.inr ⟨Int32.toInt_inj.mp (by rw [hn, g]; decide), g⟩)
theorem own_shf : ∀ d ∈ [((1 : Int32), 1), (2, 2), (3, 3)], ∀ b ∈ [((1 : Int32), 1), (2, 2), (3, 3), (4, 4)], ∀ i < d.2, (((d.1 - (1 : Int32)) - Int32.ofNat i) * b.1).toBitVec.toNat % 32 = (d.2 - 1 - i) * b.2 ∧ ((d.1 * b.1) - ((Int32.ofNat i + (1 : Int32)) * b.1)).toBitVec.toNat % 64 = (d.2 - 1 - i) * b.2 ∧ ((d.1 * b.1) - ((Int32.ofNat i + (1 : Int32)) * b.1)).toInt = (((d.2 - 1 - i) * b.2 : Nat) : Int) ∧ (d.2 - 1 - i) * b.2 ≤ 8 := by decide
/-- Id.digit is the law's digit -/
theorem own_dgtP {v ps x_ dg bp : Int32} {nd i : Nat} (hb : own_bb x_ bp) (hn : dg.toInt = (nd : Int)) (h1 : 1 ≤ nd) (h3 : nd ≤ 3) (hp : ps.toInt = (i : Int)) (hi : i < nd) (hv : 0 ≤ v.toInt) : own_dgt v.toInt64 ps x_ dg bp = own_dig v ps dg bp ∧ 0 ≤ (own_dig v ps dg bp).toInt ∧ (own_dig v ps dg bp).toInt < x_.toInt := by
  obtain ⟨k, hk, hk1, hk4, hx, hxm, hm⟩ := own_bbk hb
  have hbm : (bp, k) ∈ [((1 : Int32), 1), (2, 2), (3, 3), (4, 4)] := by
    have e : bp = Int32.ofNat k := by
      apply Int32.toInt_inj.mp
      rw [Int32.toInt_ofNat_of_lt (by omega)]
      exact hk
    rcases (by omega : k = 1 ∨ k = 2 ∨ k = 3 ∨ k = 4) with g | g | g | g <;> (subst g; rw [e]; decide)
  have hdm : (dg, nd) ∈ [((1 : Int32), 1), (2, 2), (3, 3)] := by
    rcases own_nd3 hn h1 h3 with ⟨rfl, rfl⟩ | ⟨rfl, rfl⟩ | ⟨rfl, rfl⟩ <;> simp
  have hps : ps = Int32.ofNat i := by
    apply Int32.toInt_inj.mp
    rw [Int32.toInt_ofNat_of_lt (by omega)]
    exact hp
  have key := own_shf _ hdm _ hbm i hi
  rw [← hps] at key
  dsimp only at key
  obtain ⟨s1, s2, s3, s4⟩ := key
  have d1 := own_digv s1 (by omega) hm hv
  have hP : 0 < ((2 ^ k : Nat) : Int) := by
    have := Nat.two_pow_pos k
    omega
  have r1 := Int.emod_nonneg (v.toInt / ((2 ^ ((nd - 1 - i) * k) : Nat) : Int)) (Int.ne_of_gt hP)
  have r2 := Int.emod_lt_of_pos (v.toInt / ((2 ^ ((nd - 1 - i) * k) : Nat) : Int)) hP
  refine ⟨?_, by omega, by omega⟩
  apply Int32.toInt_inj.mp
  rw [d1]
  have rv := rng32 v
  have hv64 : v.toInt64.toInt = v.toInt := c_i2l v
  have e0 : (0 : Int32).toInt = 0 := by decide
  have e64 : (64 : Int32).toInt = 64 := by decide
  unfold own_dgt
  generalize hS : (nd - 1 - i) * k = S at *
  generalize ((dg * bp) - ((ps + (1 : Int32)) * bp)) = q at *
  by_cases z : q = (0 : Int32)
  · rw [if_pos z]
    have hS0 : S = 0 := by
      rw [z, e0] at s3
      omega
    subst hS0
    rw [c_mask _ _ k (by omega) hxm]
    have e1 := c_l2i v.toInt64
    have e2 := rng32 v.toInt64.toInt32
    have e3 : v.toInt64.toInt32.toInt = v.toInt := by omega
    rw [e3]
    simp
  · rw [if_neg z, if_pos (own_lti.mpr (by omega))]
    have hS0 : 0 < S := by
      rcases Nat.eq_zero_or_pos S with g | g
      · exact absurd (Int32.toInt_inj.mp (by rw [s3, g]; decide)) z
      · exact g
    have or0 : ∀ (a : Int64) (b : Int32), (a ||| ((0 : Int64) <<< (b &&& 0x3f).toInt64)) = a := fun a b => by
      have : ((0 : Int64) <<< (b &&& 0x3f).toInt64) = 0 := by
        apply Int64.toBitVec_inj.mp
        show (0#64 <<< _) = 0#64
        simp
      rw [this, Int64.or_zero]
    rw [or0, c_mask _ _ k (by omega) hxm]
    have l1 := c_lushr v.toInt64 q S s2 hS0
    rw [hv64, Int.emod_eq_of_lt hv (by omega)] at l1
    have e1 := c_l2i ((v.toInt64.toUInt64 >>> (q &&& 0x3f).toInt64.toUInt64).toInt64)
    have e2 := rng32 ((v.toInt64.toUInt64 >>> (q &&& 0x3f).toInt64.toUInt64).toInt64).toInt32
    have l2 : 0 ≤ v.toInt / ((2 ^ S : Nat) : Int) := Int.ediv_nonneg hv (Int.natCast_nonneg _)
    have l3 : v.toInt / ((2 ^ S : Nat) : Int) ≤ v.toInt := Int.ediv_le_self _ hv
    have e3 : (((v.toInt64.toUInt64 >>> (q &&& 0x3f).toInt64.toUInt64).toInt64).toInt32).toInt = v.toInt / ((2 ^ S : Nat) : Int) := by omega
    rw [e3]
/-- masked values -/
theorem own_cutI {x b d m o v : Int32} {nd k : Nat} (hb : own_bb x b) (hk : b.toInt = (k : Int)) (hn : d.toInt = (nd : Int)) (h1 : 1 ≤ nd) (h3 : nd ≤ 3) (hm : (((1 : Int32) <<< ((d * b) &&& 31)) - (1 : Int32)) = m) (hv : o &&& m = v) : 0 ≤ v.toInt ∧ v.toInt < ((2 ^ (nd * k) : Nat) : Int) ∧ (v.toInt64 &&& (((1 : Int64) <<< ((d * b) &&& 0x3f).toInt64) - (1 : Int64))) = v.toInt64 := by
  have key : ∀ e ∈ [((1 : Int32), 1), (2, 2), (3, 3)], ∀ b ∈ [((1 : Int32), 1), (2, 2), (3, 3), (4, 4)], (((1 : Int32) <<< ((e.1 * b.1) &&& 31)) - (1 : Int32)).toBitVec.toNat = 2 ^ (e.2 * b.2) - 1 ∧ (((1 : Int64) <<< ((e.1 * b.1) &&& 0x3f).toInt64) - (1 : Int64)).toBitVec.toNat = 2 ^ (e.2 * b.2) - 1 ∧ e.2 * b.2 ≤ 12 := by decide
  have hdm : (d, nd) ∈ [((1 : Int32), 1), (2, 2), (3, 3)] := by
    rcases own_nd3 hn h1 h3 with ⟨rfl, rfl⟩ | ⟨rfl, rfl⟩ | ⟨rfl, rfl⟩ <;> simp
  have hbm : (b, k) ∈ [((1 : Int32), 1), (2, 2), (3, 3), (4, 4)] := by
    have e1 : (1 : Int32).toInt = 1 := by decide
    have e2 : (2 : Int32).toInt = 2 := by decide
    have e3 : (3 : Int32).toInt = 3 := by decide
    have e4 : (4 : Int32).toInt = 4 := by decide
    rcases hb with ⟨-, rfl⟩ | ⟨-, rfl⟩ | ⟨-, rfl⟩ | ⟨-, rfl⟩
    · obtain rfl : k = 1 := by omega
      simp
    · obtain rfl : k = 2 := by omega
      simp
    · obtain rfl : k = 3 := by omega
      simp
    · obtain rfl : k = 4 := by omega
      simp
  obtain ⟨k1, k2, k3⟩ := key _ hdm _ hbm
  dsimp only at k1 k2 k3
  have q := c_mask o m (nd * k) (by omega) (by rw [← hm]; exact k1)
  rw [hv] at q
  have hP : 0 < ((2 ^ (nd * k) : Nat) : Int) := by
    have := Nat.two_pow_pos (nd * k)
    omega
  have r1 := Int.emod_nonneg o.toInt (Int.ne_of_gt hP)
  have r2 := Int.emod_lt_of_pos o.toInt hP
  refine ⟨by omega, by omega, ?_⟩
  apply Int64.toInt_inj.mp
  rw [c_maskL _ _ (nd * k) (by omega) k2, c_i2l]
  exact Int.emod_eq_of_lt (by omega) (by omega)
/-- the two prefixes -/
theorem own_pf2 {o x dg bp xb : Int32} {k nd : Nat} (hb : own_bb xb bp) (hk : bp.toInt = (k : Int)) (hk1 : 1 ≤ k) (hk4 : k ≤ 4) (hn : dg.toInt = (nd : Int)) (h1 : 1 ≤ nd) (h3 : nd ≤ 3) (ho : 0 ≤ o.toInt ∧ o.toInt < ((2 ^ (nd * k) : Nat) : Int)) (hx : 0 ≤ x.toInt ∧ x.toInt < ((2 ^ (nd * k) : Nat) : Int)) (hne : ¬ x = o) :
    ∃ pn : Nat, (if (o.toInt64 ^^^ x.toInt64) = (0 : Int64) then dg else (((64 : Int32) + (own_nlzL (o.toInt64 ^^^ x.toInt64))) - ((128 : Int32) - (dg * bp))) / bp).toInt = (pn : Int) ∧ pn < nd ∧ (own_prefix o x dg bp).toInt = (pn : Int) := by
  have hX : o.toInt64 ^^^ x.toInt64 = (o ^^^ x).toInt64 := (Int32.toInt64_xor o x).symm
  have hnk : nd * k ≤ 12 := by
    have := Nat.mul_le_mul h3 hk4
    omega
  have hz0 : ¬ (o ^^^ x) = (0 : Int32) := fun q => hne (by
    have e : o ^^^ (o ^^^ x) = o ^^^ (0 : Int32) := by rw [q]
    rw [← Int32.xor_assoc, Int32.xor_self, Int32.zero_xor, Int32.xor_zero] at e
    exact e)
  have hzb : 0 ≤ (o ^^^ x).toInt ∧ (o ^^^ x).toInt < ((2 ^ (nd * k) : Nat) : Int) := by
    have tn : ∀ v : Int32, 0 ≤ v.toInt → v.toInt = (v.toBitVec.toNat : Int) := fun v hv => by
      show v.toBitVec.toInt = _
      rw [BitVec.toInt_eq_toNat_cond]
      have : v.toBitVec.toInt = v.toInt := rfl
      rw [← this] at hv
      rw [BitVec.toInt_eq_toNat_cond] at hv
      split
      · rfl
      · rename_i g
        rw [if_neg g] at hv
        have := v.toBitVec.isLt
        omega
    have a1 := tn o ho.1
    have a2 := tn x hx.1
    have b1 : o.toBitVec.toNat < 2 ^ (nd * k) := by
      have := ho.2
      omega
    have b2 : x.toBitVec.toNat < 2 ^ (nd * k) := by
      have := hx.2
      omega
    have b3 : (o ^^^ x).toBitVec.toNat < 2 ^ (nd * k) := by
      rw [Int32.toBitVec_xor, BitVec.toNat_xor]
      exact Nat.xor_lt_two_pow b1 b2
    have b4 : (2 : Nat) ^ (nd * k) ≤ 2 ^ 12 := Nat.pow_le_pow_right (by decide) hnk
    have b5 : (o ^^^ x).toInt = ((o ^^^ x).toBitVec.toNat : Int) := by
      show (o ^^^ x).toBitVec.toInt = _
      rw [BitVec.toInt_eq_toNat_cond, if_pos (by omega)]
    rw [b5]
    omega
  have hzn : (o ^^^ x).toInt ≠ 0 := fun q => hz0 (Int32.toInt_inj.mp (q.trans (by decide)))
  have hL : ((o ^^^ x).toInt64).toInt = (o ^^^ x).toInt := c_i2l _
  rw [hX]
  rw [if_neg (fun q => by rw [q] at hL; have e : (0 : Int64).toInt = 0 := (by decide); omega)]
  obtain ⟨m, m1, m2, m3, m4⟩ := own_nlzLP (o ^^^ x).toInt64 (by omega)
  rw [hL] at m3 m4
  have hP := own_prefixP hb hk hn h1 h3 hzb.1 hzb.2 m3 m4
  have hmn : m < nd * k := (own_mlt m3 m4).mpr hzb.2
  have db : (dg * bp).toInt = ((nd * k : Nat) : Int) := by
    have q := c_imul dg bp
    have q1 := rng32 (dg * bp)
    rw [hn, hk] at q
    have e : (nd : Int) * (k : Int) = ((nd * k : Nat) : Int) := by push_cast; rfl
    rw [e] at q
    omega
  have a1 := c_iadd (64 : Int32) (own_nlzL (o ^^^ x).toInt64)
  have a2 := rng32 ((64 : Int32) + own_nlzL (o ^^^ x).toInt64)
  have a3 : (64 : Int32).toInt = 64 := by decide
  have b1 := c_isub (128 : Int32) (dg * bp)
  have b2 := rng32 ((128 : Int32) - dg * bp)
  have b3 : (128 : Int32).toInt = 128 := by decide
  have c1 := c_isub ((64 : Int32) + own_nlzL (o ^^^ x).toInt64) ((128 : Int32) - dg * bp)
  have c2 := rng32 (((64 : Int32) + own_nlzL (o ^^^ x).toInt64) - ((128 : Int32) - dg * bp))
  have c3 : (((64 : Int32) + own_nlzL (o ^^^ x).toInt64) - ((128 : Int32) - dg * bp)).toInt = ((nd * k - 1 - m : Nat) : Int) := by omega
  have hb1 : bp ≠ -1 := fun q => by
    rw [q] at hk
    have : (-1 : Int32).toInt = -1 := by decide
    omega
  have dv := (c_idiv _ bp k hk hb1).1 (by rw [c3]; omega)
  rw [c3] at dv
  refine ⟨(nd * k - 1 - m) / k, ?_, ?_, hP⟩
  · rw [dv]
    exact_mod_cast rfl
  · rw [Nat.div_lt_iff_lt_mul (by omega)]
    omega
theorem own_icuP {y v : Int64} (hy : 0 ≤ y.toInt) (hv : 0 ≤ v.toInt) : own_icu (0 : Int64) y (0 : Int64) v < (0 : Int32) ↔ y.toInt < v.toInt := by
  have e0 : own_lcu (0 : Int64) (0 : Int64) = (0 : Int32) := by decide +kernel
  unfold own_icu
  rw [if_pos e0]
  unfold own_lcu own_lc
  have em : (-9223372036854775808 : Int64).toInt = -9223372036854775808 := by decide
  have a1 := c_ladd y (-9223372036854775808)
  have a2 := rng64 (y + (-9223372036854775808))
  have b1 := c_ladd v (-9223372036854775808)
  have b2 := rng64 (v + (-9223372036854775808))
  have r1 := rng64 y
  have r2 := rng64 v
  generalize y + (-9223372036854775808) = Y at *
  generalize v + (-9223372036854775808) = W at *
  by_cases q : Y < W
  · rw [if_pos q]
    have := Int64.lt_iff_toInt_lt.mp q
    exact ⟨fun _ => by omega, fun _ => by decide⟩
  · rw [if_neg q]
    have q' : ¬ Y.toInt < W.toInt := fun z => q (Int64.lt_iff_toInt_lt.mpr z)
    constructor
    · intro z
      exfalso
      revert z
      split <;> decide
    · intro z
      exfalso
      omega
theorem own_tkP {ra rb : Int64} {a b : Int32} (ha : 0 ≤ a.toInt) (hb : 0 ≤ b.toInt) : own_tk rb ra (own_icu (0 : Int64) b.toInt64 (0 : Int64) a.toInt64) = if rb < ra ∨ (rb = ra ∧ b < a) then (1 : Int32) else (0 : Int32) := by
  unfold own_tk
  have q := own_icuP (y := b.toInt64) (v := a.toInt64) (by rw [c_i2l]; exact hb) (by rw [c_i2l]; exact ha)
  rw [c_i2l, c_i2l, ← own_lti] at q
  by_cases h1 : rb < ra
  · rw [if_pos h1, if_pos (Or.inl h1)]
  · rw [if_neg h1]
    by_cases h2 : rb = ra
    · rw [if_pos h2]
      by_cases h3 : b < a
      · rw [if_pos (q.mpr h3), if_pos (Or.inr ⟨h2, h3⟩)]
      · rw [if_neg (fun z => h3 (q.mp z)), if_neg (fun z => z.elim h1 (fun z => h3 z.2))]
    · rw [if_neg h2, if_neg (fun z => z.elim h1 (fun z => h2 z.1))]
theorem own_fitsI {x o rw_ cl dg bp P : Int32} {pn nr cn nc : Nat} (h : ¬ x = o → (own_prefix o x dg bp).toInt = (pn : Int) ∧ P.toInt = (pn : Int) ∧ (own_dig x P dg bp).toInt = (cn : Int)) (hr : rw_.toInt = (nr : Int)) (hc : cl.toInt = (nc : Int)) : own_fits x o rw_ cl dg bp = if ¬ x = o ∧ pn = nr ∧ cn = nc then (1 : Int32) else (0 : Int32) := by
  unfold own_fits
  by_cases q : x = o
  · rw [if_pos q, if_neg (fun z => z.1 q)]
  · rw [if_neg q]
    obtain ⟨h1, h2, h3⟩ := h q
    by_cases g : pn = nr
    · have e : own_prefix o x dg bp = rw_ := Int32.toInt_inj.mp (by rw [h1, hr, g])
      have e2 : P = rw_ := Int32.toInt_inj.mp (by rw [h2, hr, g])
      rw [if_pos e, ← e2]
      by_cases f : cn = nc
      · rw [if_pos (Int32.toInt_inj.mp (by rw [h3, hc, f])), if_pos ⟨q, g, f⟩]
      · rw [if_neg (fun z => f (by rw [z, hc] at h3; omega)), if_neg (fun z => f z.2.2)]
    · rw [if_neg (fun z => g (by rw [z, hr] at h1; omega)), if_neg (fun z => g z.2.1)]

theorem own_dg3 {z d : Int32} (hd : (1 : Int32) + ((z &&& (3 : Int32)) % (3 : Int32)) = d) : 1 ≤ d.toInt ∧ d.toInt ≤ 3 := by
  have q := c_and z 3 (by decide)
  have q1 := (c_irem (z &&& 3) 3 3 (by decide)).1 q.1
  have q2 := Int.emod_nonneg (z &&& 3).toInt (b := 3) (by decide)
  have q3 := Int.emod_lt_of_pos (z &&& 3).toInt (b := 3) (by decide)
  have q4 := c_iadd (1 : Int32) ((z &&& 3) % 3)
  have q5 := rng32 d
  have e1 : (1 : Int32).toInt = 1 := by decide
  rw [hd] at q4
  omega
theorem own_rowr {z d v : Int32} {nd : Nat} (hn : d.toInt = (nd : Int)) (h1 : 1 ≤ nd) (hv : (z &&& (255 : Int32)) % d = v) : ∃ nr : Nat, v.toInt = (nr : Int) ∧ nr < nd := by
  have q := c_and z 255 (by decide)
  have q1 := (c_irem (z &&& 255) d _ hn).1 q.1
  have q2 := Int.emod_nonneg (z &&& (255 : Int32)).toInt (b := (nd : Int)) (by omega)
  have q3 := Int.emod_lt_of_pos (z &&& (255 : Int32)).toInt (b := (nd : Int)) (by omega)
  rw [hv] at q1
  exact ⟨v.toInt.toNat, by omega, by omega⟩
theorem own_colr {z x b v : Int32} {bn : Nat} (h : own_bb x b) (hx : x.toInt = (bn : Int)) (hv : z &&& (x - (1 : Int32)) = v) : bn ≤ 16 ∧ ∃ nc : Nat, v.toInt = (nc : Int) ∧ nc < bn := by
  have e : 0 ≤ (x - (1 : Int32)).toInt ∧ (x - (1 : Int32)).toInt = x.toInt - 1 ∧ x.toInt ≤ 16 := by
    rcases h with ⟨rfl, -⟩ | ⟨rfl, -⟩ | ⟨rfl, -⟩ | ⟨rfl, -⟩ <;> decide
  have q := c_and z (x - 1) e.1
  rw [hv] at q
  exact ⟨by omega, v.toInt.toNat, by omega, by omega⟩
theorem own_64i {x y : Int32} (h : x.toInt64 = y.toInt64) : x = y := by
  apply Int32.toInt_inj.mp
  rw [← c_i2l, ← c_i2l, h]
theorem own_all {o x dg bp xb : Int32} {k nd bn : Nat} (hb : own_bb xb bp) (hk : bp.toInt = (k : Int)) (hk1 : 1 ≤ k) (hk4 : k ≤ 4) (hn : dg.toInt = (nd : Int)) (h1 : 1 ≤ nd) (h3 : nd ≤ 3) (hbn : xb.toInt = (bn : Int)) (ho : 0 ≤ o.toInt ∧ o.toInt < ((2 ^ (nd * k) : Nat) : Int)) (hx : 0 ≤ x.toInt ∧ x.toInt < ((2 ^ (nd * k) : Nat) : Int)) :
    ∃ pn cn : Nat, ¬ x = o → ((if ((o.toInt64) ^^^ (x.toInt64)) = (0 : Int64) then dg else (((64 : Int32) + (own_nlzL ((o.toInt64) ^^^ (x.toInt64)))) - ((128 : Int32) - (dg * bp))) / bp)).toInt = (pn : Int) ∧ pn < nd ∧ (own_dgt (x.toInt64) (if ((o.toInt64) ^^^ (x.toInt64)) = (0 : Int64) then dg else (((64 : Int32) + (own_nlzL ((o.toInt64) ^^^ (x.toInt64)))) - ((128 : Int32) - (dg * bp))) / bp) xb dg bp).toInt = (cn : Int) ∧ cn < bn ∧ (own_prefix o x dg bp).toInt = (pn : Int) ∧ (own_dig x (if ((o.toInt64) ^^^ (x.toInt64)) = (0 : Int64) then dg else (((64 : Int32) + (own_nlzL ((o.toInt64) ^^^ (x.toInt64)))) - ((128 : Int32) - (dg * bp))) / bp) dg bp).toInt = (cn : Int) := by
  by_cases q : x = o
  · exact ⟨0, 0, fun z => absurd q z⟩
  · obtain ⟨pn, a1, a2, a3⟩ := own_pf2 hb hk hk1 hk4 hn h1 h3 ho hx q
    obtain ⟨b1, b2, b3⟩ := own_dgtP hb hn h1 h3 a1 a2 hx.1
    refine ⟨pn, (own_dig x (if ((o.toInt64) ^^^ (x.toInt64)) = (0 : Int64) then dg else (((64 : Int32) + (own_nlzL ((o.toInt64) ^^^ (x.toInt64)))) - ((128 : Int32) - (dg * bp))) / bp) dg bp).toInt.toNat, fun _ => ⟨a1, a2, ?_, ?_, a3, ?_⟩⟩
    · rw [b1]
      omega
    · omega
    · omega
theorem ef_rm0 (m : MethodId) (x0 : Int32) (x1 : Int32) (x2 : Int32) (x3 : Int32) (ra : Int64) (rb : Int64) : entryFrame m #[(.int x0), (.int x1), (.int x2), (.int x3), (.long ra), (.long rb)] maxLocals = mkF m 0 #[.val (.int x0), .val (.int x1), .val (.int x2), .val (.int x3), .val (.long ra), .second, .val (.long rb), .second, .unset, .unset, .unset, .unset, .unset, .unset, .unset, .unset, .unset, .unset, .unset, .unset, .unset, .unset, .unset, .unset, .unset, .unset, .unset] [] := by first | (simp [entryFrame, mkF, argsToLocals, Value.category, maxLocals]; done) | rfl
def Qrm0 (Z : State) (x0 : Int32) (x1 : Int32) (x2 : Int32) (x3 : Int32) (ra : Int64) (rb : Int64) (h0 : Heap) (n0 : Nat) (v_ : Option Value) (h_ : Heap) (L_ : List Loc) : Prop := v_ = some (.int (1 : Int32)) ∧ Fr n0 L_ ∧ Keep h0 h_ []
theorem pd_12 : parseMethodDescriptor "(II)V" = some ⟨[.int, .int], none⟩ := by decide +kernel
abbrev mN_IdSpace_init : MethodName := ⟨"nearhop/model/IdSpace", "<init>", "(II)V"⟩
abbrev own_l1 (x0 : Int32) (x1 : Int32) (x2 : Int32) (x3 : Int32) (ra : Int64) (rb : Int64) (bp : Int32) (x_ : Int32) (dg : Int32) (mk : Int32) (ov : Int32) (av : Int32) (bv : Int32) (rw_ : Int32) (cl : Int32) (b1 : Addr) : Array Slot := #[vi x0, vi x1, vi x2, vi x3, .val (.long ra), .second, .val (.long rb), .second, vi bp, vi x_, vi dg, vi (dg * bp), vi mk, vi ov, vi av, vi bv, vi rw_, vi cl, vr b1, .unset, .unset, .unset, .unset, .unset, .unset, .unset, .unset]
theorem pd_13 : parseMethodDescriptor "(Lnearhop/model/IdSpace;JJ)V" = some ⟨[(.object "nearhop/model/IdSpace"), .long, .long], none⟩ := by decide +kernel
abbrev mN_Id_init : MethodName := ⟨"nearhop/model/Id", "<init>", "(Lnearhop/model/IdSpace;JJ)V"⟩
abbrev own_l2 (x0 : Int32) (x1 : Int32) (x2 : Int32) (x3 : Int32) (ra : Int64) (rb : Int64) (bp : Int32) (x_ : Int32) (dg : Int32) (mk : Int32) (ov : Int32) (av : Int32) (bv : Int32) (rw_ : Int32) (cl : Int32) (b1 : Addr) (b4 : Addr) : Array Slot := #[vi x0, vi x1, vi x2, vi x3, .val (.long ra), .second, .val (.long rb), .second, vi bp, vi x_, vi dg, vi (dg * bp), vi mk, vi ov, vi av, vi bv, vi rw_, vi cl, vr b1, vr b4, .unset, .unset, .unset, .unset, .unset, .unset, .unset]
abbrev own_l3 (x0 : Int32) (x1 : Int32) (x2 : Int32) (x3 : Int32) (ra : Int64) (rb : Int64) (bp : Int32) (x_ : Int32) (dg : Int32) (mk : Int32) (ov : Int32) (av : Int32) (bv : Int32) (rw_ : Int32) (cl : Int32) (b1 : Addr) (b4 : Addr) (b12 : Addr) : Array Slot := #[vi x0, vi x1, vi x2, vi x3, .val (.long ra), .second, .val (.long rb), .second, vi bp, vi x_, vi dg, vi (dg * bp), vi mk, vi ov, vi av, vi bv, vi rw_, vi cl, vr b1, vr b4, vr b12, .unset, .unset, .unset, .unset, .unset, .unset]
abbrev own_l4 (x0 : Int32) (x1 : Int32) (x2 : Int32) (x3 : Int32) (ra : Int64) (rb : Int64) (bp : Int32) (x_ : Int32) (dg : Int32) (mk : Int32) (ov : Int32) (av : Int32) (bv : Int32) (rw_ : Int32) (cl : Int32) (b1 : Addr) (b4 : Addr) (b12 : Addr) (b22 : Addr) : Array Slot := #[vi x0, vi x1, vi x2, vi x3, .val (.long ra), .second, .val (.long rb), .second, vi bp, vi x_, vi dg, vi (dg * bp), vi mk, vi ov, vi av, vi bv, vi rw_, vi cl, vr b1, vr b4, vr b12, vr b22, .unset, .unset, .unset, .unset, .unset]
theorem pd_14 : parseMethodDescriptor "(Lnearhop/model/Id;)V" = some ⟨[(.object "nearhop/model/Id")], none⟩ := by decide +kernel
abbrev mN_RoutingTable_init : MethodName := ⟨"nearhop/model/RoutingTable", "<init>", "(Lnearhop/model/Id;)V"⟩
abbrev own_lw (x0 : Int32) (x1 : Int32) (x2 : Int32) (x3 : Int32) (ra : Int64) (rb : Int64) (bp : Int32) (x_ : Int32) (dg : Int32) (mk : Int32) (ov : Int32) (av : Int32) (bv : Int32) (rw_ : Int32) (cl : Int32) (b1 : Addr) (b4 : Addr) (b12 : Addr) (b22 : Addr) (b34 : Addr) : Array Slot := #[vi x0, vi x1, vi x2, vi x3, .val (.long ra), .second, .val (.long rb), .second, vi bp, vi x_, vi dg, vi (dg * bp), vi mk, vi ov, vi av, vi bv, vi rw_, vi cl, vr b1, vr b4, vr b12, vr b22, vr b34, .unset, .unset, .unset, .unset]
abbrev own_l0 (x0 : Int32) (x1 : Int32) (x2 : Int32) (x3 : Int32) (ra : Int64) (rb : Int64) (bp : Int32) (x_ : Int32) (dg : Int32) (mk : Int32) (ov : Int32) (av : Int32) (bv : Int32) (rw_ : Int32) (cl : Int32) (b1 : Addr) (b4 : Addr) (b12 : Addr) (b22 : Addr) (b34 : Addr) : Array Slot := #[vi x0, vi x1, vi x2, vi x3, .val (.long ra), .second, .val (.long rb), .second, vi bp, vi x_, vi dg, vi (dg * bp), vi mk, vi ov, vi av, vi bv, vi rw_, vi cl, vr b1, vr b4, vr b12, vr b22, vr b34, .val .null, .unset, .unset, .unset]
theorem pd_15 : parseMethodDescriptor "(IIIIII)Z" = some ⟨[.int, .int, .int, .int, .int, .int], some .boolean⟩ := by decide +kernel
abbrev mN_RoutingTableGetPinLaw_fits : MethodName := ⟨"nearhop/model/RoutingTableGetPinLaw", "fits", "(IIIIII)Z"⟩
abbrev own_n6 (x0 : Int32) (x1 : Int32) (x2 : Int32) (x3 : Int32) (ra : Int64) (rb : Int64) (bp : Int32) (x_ : Int32) (dg : Int32) (mk : Int32) (ov : Int32) (av : Int32) (bv : Int32) (rw_ : Int32) (cl : Int32) (b1 : Addr) (b4 : Addr) (b12 : Addr) (b22 : Addr) (b34 : Addr) : Array Slot := #[vi x0, vi x1, vi x2, vi x3, .val (.long ra), .second, .val (.long rb), .second, vi bp, vi x_, vi dg, vi (dg * bp), vi mk, vi ov, vi av, vi bv, vi rw_, vi cl, vr b1, vr b4, vr b12, vr b22, vr b34, .val .null, vi (own_fits av ov rw_ cl dg bp), .unset, .unset]
abbrev own_n7 (x0 : Int32) (x1 : Int32) (x2 : Int32) (x3 : Int32) (ra : Int64) (rb : Int64) (bp : Int32) (x_ : Int32) (dg : Int32) (mk : Int32) (ov : Int32) (av : Int32) (bv : Int32) (rw_ : Int32) (cl : Int32) (b1 : Addr) (b4 : Addr) (b12 : Addr) (b22 : Addr) (b34 : Addr) : Array Slot := #[vi x0, vi x1, vi x2, vi x3, .val (.long ra), .second, .val (.long rb), .second, vi bp, vi x_, vi dg, vi (dg * bp), vi mk, vi ov, vi av, vi bv, vi rw_, vi cl, vr b1, vr b4, vr b12, vr b22, vr b34, .val .null, vi (own_fits av ov rw_ cl dg bp), vi (own_fits bv ov rw_ cl dg bp), .unset]
abbrev own_n8 (x0 : Int32) (x1 : Int32) (x2 : Int32) (x3 : Int32) (ra : Int64) (rb : Int64) (bp : Int32) (x_ : Int32) (dg : Int32) (mk : Int32) (ov : Int32) (av : Int32) (bv : Int32) (rw_ : Int32) (cl : Int32) (b1 : Addr) (b4 : Addr) (b12 : Addr) (b22 : Addr) (b34 : Addr) : Array Slot := #[vi x0, vi x1, vi x2, vi x3, .val (.long ra), .second, .val (.long rb), .second, vi bp, vi x_, vi dg, vi (dg * bp), vi mk, vi ov, vi av, vi bv, vi rw_, vi cl, vr b1, vr b4, vr b12, vr b22, vr b34, .val .null, vi (own_fits av ov rw_ cl dg bp), vi (own_fits bv ov rw_ cl dg bp), .val .null]
abbrev own_lA (x0 : Int32) (x1 : Int32) (x2 : Int32) (x3 : Int32) (ra : Int64) (rb : Int64) (bp : Int32) (x_ : Int32) (dg : Int32) (mk : Int32) (ov : Int32) (av : Int32) (bv : Int32) (rw_ : Int32) (cl : Int32) (b1 : Addr) (b4 : Addr) (b12 : Addr) (b22 : Addr) (b34 : Addr) : Array Slot := #[vi x0, vi x1, vi x2, vi x3, .val (.long ra), .second, .val (.long rb), .second, vi bp, vi x_, vi dg, vi (dg * bp), vi mk, vi ov, vi av, vi bv, vi rw_, vi cl, vr b1, vr b4, vr b12, vr b22, vr b34, vr b12, .unset, .unset, .unset]
abbrev own_n10 (x0 : Int32) (x1 : Int32) (x2 : Int32) (x3 : Int32) (ra : Int64) (rb : Int64) (bp : Int32) (x_ : Int32) (dg : Int32) (mk : Int32) (ov : Int32) (av : Int32) (bv : Int32) (rw_ : Int32) (cl : Int32) (b1 : Addr) (b4 : Addr) (b12 : Addr) (b22 : Addr) (b34 : Addr) : Array Slot := #[vi x0, vi x1, vi x2, vi x3, .val (.long ra), .second, .val (.long rb), .second, vi bp, vi x_, vi dg, vi (dg * bp), vi mk, vi ov, vi av, vi bv, vi rw_, vi cl, vr b1, vr b4, vr b12, vr b22, vr b34, vr b12, vi (own_fits av ov rw_ cl dg bp), .unset, .unset]
abbrev own_n11 (x0 : Int32) (x1 : Int32) (x2 : Int32) (x3 : Int32) (ra : Int64) (rb : Int64) (bp : Int32) (x_ : Int32) (dg : Int32) (mk : Int32) (ov : Int32) (av : Int32) (bv : Int32) (rw_ : Int32) (cl : Int32) (b1 : Addr) (b4 : Addr) (b12 : Addr) (b22 : Addr) (b34 : Addr) : Array Slot := #[vi x0, vi x1, vi x2, vi x3, .val (.long ra), .second, .val (.long rb), .second, vi bp, vi x_, vi dg, vi (dg * bp), vi mk, vi ov, vi av, vi bv, vi rw_, vi cl, vr b1, vr b4, vr b12, vr b22, vr b34, vr b12, vi (own_fits av ov rw_ cl dg bp), vi (own_fits bv ov rw_ cl dg bp), .unset]
abbrev own_n12 (x0 : Int32) (x1 : Int32) (x2 : Int32) (x3 : Int32) (ra : Int64) (rb : Int64) (bp : Int32) (x_ : Int32) (dg : Int32) (mk : Int32) (ov : Int32) (av : Int32) (bv : Int32) (rw_ : Int32) (cl : Int32) (b1 : Addr) (b4 : Addr) (b12 : Addr) (b22 : Addr) (b34 : Addr) : Array Slot := #[vi x0, vi x1, vi x2, vi x3, .val (.long ra), .second, .val (.long rb), .second, vi bp, vi x_, vi dg, vi (dg * bp), vi mk, vi ov, vi av, vi bv, vi rw_, vi cl, vr b1, vr b4, vr b12, vr b22, vr b34, vr b12, vi (own_fits av ov rw_ cl dg bp), vi (own_fits bv ov rw_ cl dg bp), vr b12]
abbrev own_lB (x0 : Int32) (x1 : Int32) (x2 : Int32) (x3 : Int32) (ra : Int64) (rb : Int64) (bp : Int32) (x_ : Int32) (dg : Int32) (mk : Int32) (ov : Int32) (av : Int32) (bv : Int32) (rw_ : Int32) (cl : Int32) (b1 : Addr) (b4 : Addr) (b12 : Addr) (b22 : Addr) (b34 : Addr) : Array Slot := #[vi x0, vi x1, vi x2, vi x3, .val (.long ra), .second, .val (.long rb), .second, vi bp, vi x_, vi dg, vi (dg * bp), vi mk, vi ov, vi av, vi bv, vi rw_, vi cl, vr b1, vr b4, vr b12, vr b22, vr b34, vr b22, .unset, .unset, .unset]
abbrev own_n14 (x0 : Int32) (x1 : Int32) (x2 : Int32) (x3 : Int32) (ra : Int64) (rb : Int64) (bp : Int32) (x_ : Int32) (dg : Int32) (mk : Int32) (ov : Int32) (av : Int32) (bv : Int32) (rw_ : Int32) (cl : Int32) (b1 : Addr) (b4 : Addr) (b12 : Addr) (b22 : Addr) (b34 : Addr) : Array Slot := #[vi x0, vi x1, vi x2, vi x3, .val (.long ra), .second, .val (.long rb), .second, vi bp, vi x_, vi dg, vi (dg * bp), vi mk, vi ov, vi av, vi bv, vi rw_, vi cl, vr b1, vr b4, vr b12, vr b22, vr b34, vr b22, vi (own_fits av ov rw_ cl dg bp), .unset, .unset]
abbrev own_n15 (x0 : Int32) (x1 : Int32) (x2 : Int32) (x3 : Int32) (ra : Int64) (rb : Int64) (bp : Int32) (x_ : Int32) (dg : Int32) (mk : Int32) (ov : Int32) (av : Int32) (bv : Int32) (rw_ : Int32) (cl : Int32) (b1 : Addr) (b4 : Addr) (b12 : Addr) (b22 : Addr) (b34 : Addr) : Array Slot := #[vi x0, vi x1, vi x2, vi x3, .val (.long ra), .second, .val (.long rb), .second, vi bp, vi x_, vi dg, vi (dg * bp), vi mk, vi ov, vi av, vi bv, vi rw_, vi cl, vr b1, vr b4, vr b12, vr b22, vr b34, vr b22, vi (own_fits av ov rw_ cl dg bp), vi (own_fits bv ov rw_ cl dg bp), .unset]
abbrev own_n16 (x0 : Int32) (x1 : Int32) (x2 : Int32) (x3 : Int32) (ra : Int64) (rb : Int64) (bp : Int32) (x_ : Int32) (dg : Int32) (mk : Int32) (ov : Int32) (av : Int32) (bv : Int32) (rw_ : Int32) (cl : Int32) (b1 : Addr) (b4 : Addr) (b12 : Addr) (b22 : Addr) (b34 : Addr) : Array Slot := #[vi x0, vi x1, vi x2, vi x3, .val (.long ra), .second, .val (.long rb), .second, vi bp, vi x_, vi dg, vi (dg * bp), vi mk, vi ov, vi av, vi bv, vi rw_, vi cl, vr b1, vr b4, vr b12, vr b22, vr b34, vr b22, vi (own_fits av ov rw_ cl dg bp), vi (own_fits bv ov rw_ cl dg bp), vr b22]
theorem pd_16 : parseMethodDescriptor "(Lnearhop/model/Id;J)Z" = some ⟨[(.object "nearhop/model/Id"), .long], some .boolean⟩ := by decide +kernel
abbrev mN_RoutingTable_offer : MethodName := ⟨"nearhop/model/RoutingTable", "offer", "(Lnearhop/model/Id;J)Z"⟩
theorem pd_17 : parseMethodDescriptor "(II)Lnearhop/model/Id;" = some ⟨[.int, .int], some (.object "nearhop/model/Id")⟩ := by decide +kernel
abbrev mN_RoutingTable_get : MethodName := ⟨"nearhop/model/RoutingTable", "get", "(II)Lnearhop/model/Id;"⟩
set_option maxRecDepth 65536 in
set_option maxHeartbeats 40000000 in
theorem rm0 (l : Launch) (Z : State) (a0 : Array Value) (hw : ∀ d ∈ tables_1, d.before a0 Z = true) (ws : List Jvm.Cond) (x0 : Int32) (x1 : Int32) (x2 : Int32) (x3 : Int32) (ra : Int64) (rb : Int64) (h0 : Heap) (n0 : Nat) (Z0 : n0 ≤ h0.size) :
    MetFree l x (head1 (Jvm.Cond.code x code maxLocals ret :: ws) room_1) (fun as_ U_ => as_ = #[(.int x0), (.int x1), (.int x2), (.int x3), (.long ra), (.long rb)] ∧ Z.Warmed39 U_.vm ∧ U_.heap = h0) (fun _ _ _ _ _ => True) (fun _ U_ o_ V_ => ∃ v_ L_, o_ = .returned v_ ∧ Qrm0 Z x0 x1 x2 x3 ra rb h0 n0 v_ V_.heap L_ ∧ FrameEnd U_ o_ V_ L_ room_1.cells room_1.slots) := by
  refine MetFree.of_bodySF (plainFor_of_name pn_nearhop_model_RoutingTableGetPinLaw) hisR ?_
  intro p e s m args below meth c s₁ Bd hml0 hP hK
  obtain ⟨rfl, hZ, hh⟩ := hP
  have hx := Bd.exec
  have hby := Bd.bytes
  have hlk : meth.locks = false := BodyLoose.notSynchronized Bd
  have hret := Bd.returns
  have hml : c.maxLocals = 27 := hml0
  have hown : s.vm.findClass "nearhop/model/RoutingTableGetPinLaw" = some m.cls := findClass_of_methodNamed Bd.named
  have hnm := (name_of_methodNamed Bd.named Bd.method).1
  have X0 : Stand p l e room_1 s m #[(.int x0), (.int x1), (.int x2), (.int x3), (.long ra), (.long rb)] below meth c s₁ [] 0 0 := Stand.of_body Bd
  have e0 : s₁.heap = h0 := by rw [← hh, Bd.state]; rfl
  have N0 := Fr.nil n0
  show Goes p e below (Fin_ s (Qrm0 Z x0 x1 x2 x3 ra rb h0 n0) room_1.cells room_1.slots) (s₁.setTop (entryFrame m #[(.int x0), (.int x1), (.int x2), (.int x3), (.long ra), (.long rb)] maxLocals))
  rw [ef_rm0 m x0 x1 x2 x3 ra rb]
  refine gIC (z := 1) X0 hx hby at_0 rfl ?_
  refine gILN X0 hx hby at_1 rfl ?_
  refine gIC (z := 3) X0 hx hby at_2 rfl ?_
  refine Goes.via (fun _ kk_ => XS.iand X0.here hx rfl (hb hby at_3) rfl kk_) ?_
  show Goes p e below _ (s₁.setTop (mkF m 4 #[vi x0, vi x1, vi x2, vi x3, .val (.long ra), .second, .val (.long rb), .second, .unset, .unset, .unset, .unset, .unset, .unset, .unset, .unset, .unset, .unset, .unset, .unset, .unset, .unset, .unset, .unset, .unset, .unset, .unset] [(.int (x0 &&& (3 : Int32))), (.int (1 : Int32))]))
  refine Goes.via (fun _ kk_ => XS.iadd X0.here hx rfl (hb hby at_4) rfl kk_) ?_
  show Goes p e below _ (s₁.setTop (mkF m 5 #[vi x0, vi x1, vi x2, vi x3, .val (.long ra), .second, .val (.long rb), .second, .unset, .unset, .unset, .unset, .unset, .unset, .unset, .unset, .unset, .unset, .unset, .unset, .unset, .unset, .unset, .unset, .unset, .unset, .unset] [(.int ((1 : Int32) + (x0 &&& (3 : Int32))))]))
  refine Goes.via (fun _ kk_ => XS.istore X0.here hx rfl (hb hby at_5) rfl (l' := #[vi x0, vi x1, vi x2, vi x3, .val (.long ra), .second, .val (.long rb), .second, vi ((1 : Int32) + (x0 &&& (3 : Int32))), .unset, .unset, .unset, .unset, .unset, .unset, .unset, .unset, .unset, .unset, .unset, .unset, .unset, .unset, .unset, .unset, .unset, .unset]) rfl kk_) ?_
  show Goes p e below _ (s₁.setTop (mkF m 7 #[vi x0, vi x1, vi x2, vi x3, .val (.long ra), .second, .val (.long rb), .second, vi ((1 : Int32) + (x0 &&& (3 : Int32))), .unset, .unset, .unset, .unset, .unset, .unset, .unset, .unset, .unset, .unset, .unset, .unset, .unset, .unset, .unset, .unset, .unset, .unset] []))
  generalize hv_bp : ((1 : Int32) + (x0 &&& (3 : Int32))) = bp
  show Goes p e below _ (s₁.setTop (mkF m 7 #[vi x0, vi x1, vi x2, vi x3, .val (.long ra), .second, .val (.long rb), .second, vi bp, .unset, .unset, .unset, .unset, .unset, .unset, .unset, .unset, .unset, .unset, .unset, .unset, .unset, .unset, .unset, .unset, .unset, .unset] []))
  refine gIC (z := 1) X0 hx hby at_7 rfl ?_
  refine gIL X0 hx hby at_8 rfl ?_
  refine Goes.via (fun _ kk_ => XS.ishl X0.here hx rfl (hb hby at_10) rfl kk_) ?_
  show Goes p e below _ (s₁.setTop (mkF m 11 #[vi x0, vi x1, vi x2, vi x3, .val (.long ra), .second, .val (.long rb), .second, vi bp, .unset, .unset, .unset, .unset, .unset, .unset, .unset, .unset, .unset, .unset, .unset, .unset, .unset, .unset, .unset, .unset, .unset, .unset] [(.int ((1 : Int32) <<< (bp &&& 31)))]))
  refine Goes.via (fun _ kk_ => XS.istore X0.here hx rfl (hb hby at_11) rfl (l' := #[vi x0, vi x1, vi x2, vi x3, .val (.long ra), .second, .val (.long rb), .second, vi bp, vi ((1 : Int32) <<< (bp &&& 31)), .unset, .unset, .unset, .unset, .unset, .unset, .unset, .unset, .unset, .unset, .unset, .unset, .unset, .unset, .unset, .unset, .unset]) rfl kk_) ?_
  show Goes p e below _ (s₁.setTop (mkF m 13 #[vi x0, vi x1, vi x2, vi x3, .val (.long ra), .second, .val (.long rb), .second, vi bp, vi ((1 : Int32) <<< (bp &&& 31)), .unset, .unset, .unset, .unset, .unset, .unset, .unset, .unset, .unset, .unset, .unset, .unset, .unset, .unset, .unset, .unset, .unset] []))
  generalize hv_x_ : ((1 : Int32) <<< (bp &&& 31)) = x_
  show Goes p e below _ (s₁.setTop (mkF m 13 #[vi x0, vi x1, vi x2, vi x3, .val (.long ra), .second, .val (.long rb), .second, vi bp, vi x_, .unset, .unset, .unset, .unset, .unset, .unset, .unset, .unset, .unset, .unset, .unset, .unset, .unset, .unset, .unset, .unset, .unset] []))
  have HB := own_bbS hv_bp hv_x_
  refine gIC (z := 1) X0 hx hby at_13 rfl ?_
  refine gILN X0 hx hby at_14 rfl ?_
  refine gIC (z := 2) X0 hx hby at_15 rfl ?_
  refine Goes.via (fun _ kk_ => XS.iushr X0.here hx rfl (hb hby at_16) rfl kk_) ?_
  show Goes p e below _ (s₁.setTop (mkF m 17 #[vi x0, vi x1, vi x2, vi x3, .val (.long ra), .second, .val (.long rb), .second, vi bp, vi x_, .unset, .unset, .unset, .unset, .unset, .unset, .unset, .unset, .unset, .unset, .unset, .unset, .unset, .unset, .unset, .unset, .unset] [(.int ((x0.toUInt32 >>> ((2 : Int32) &&& 31).toUInt32).toInt32)), (.int (1 : Int32))]))
  refine gIC (z := 3) X0 hx hby at_17 rfl ?_
  refine Goes.via (fun _ kk_ => XS.iand X0.here hx rfl (hb hby at_18) rfl kk_) ?_
  show Goes p e below _ (s₁.setTop (mkF m 19 #[vi x0, vi x1, vi x2, vi x3, .val (.long ra), .second, .val (.long rb), .second, vi bp, vi x_, .unset, .unset, .unset, .unset, .unset, .unset, .unset, .unset, .unset, .unset, .unset, .unset, .unset, .unset, .unset, .unset, .unset] [(.int (((x0.toUInt32 >>> ((2 : Int32) &&& 31).toUInt32).toInt32) &&& (3 : Int32))), (.int (1 : Int32))]))
  refine gIC (z := 3) X0 hx hby at_19 rfl ?_
  refine Goes.via (fun _ kk_ => iremM X0 hx rfl (hb hby at_20) rfl (by decide) kk_) ?_
  show Goes p e below _ (s₁.setTop (mkF m 21 #[vi x0, vi x1, vi x2, vi x3, .val (.long ra), .second, .val (.long rb), .second, vi bp, vi x_, .unset, .unset, .unset, .unset, .unset, .unset, .unset, .unset, .unset, .unset, .unset, .unset, .unset, .unset, .unset, .unset, .unset] [(.int ((((x0.toUInt32 >>> ((2 : Int32) &&& 31).toUInt32).toInt32) &&& (3 : Int32)) % (3 : Int32))), (.int (1 : Int32))]))
  refine Goes.via (fun _ kk_ => XS.iadd X0.here hx rfl (hb hby at_21) rfl kk_) ?_
  show Goes p e below _ (s₁.setTop (mkF m 22 #[vi x0, vi x1, vi x2, vi x3, .val (.long ra), .second, .val (.long rb), .second, vi bp, vi x_, .unset, .unset, .unset, .unset, .unset, .unset, .unset, .unset, .unset, .unset, .unset, .unset, .unset, .unset, .unset, .unset, .unset] [(.int ((1 : Int32) + ((((x0.toUInt32 >>> ((2 : Int32) &&& 31).toUInt32).toInt32) &&& (3 : Int32)) % (3 : Int32))))]))
  refine Goes.via (fun _ kk_ => XS.istore X0.here hx rfl (hb hby at_22) rfl (l' := #[vi x0, vi x1, vi x2, vi x3, .val (.long ra), .second, .val (.long rb), .second, vi bp, vi x_, vi ((1 : Int32) + ((((x0.toUInt32 >>> ((2 : Int32) &&& 31).toUInt32).toInt32) &&& (3 : Int32)) % (3 : Int32))), .unset, .unset, .unset, .unset, .unset, .unset, .unset, .unset, .unset, .unset, .unset, .unset, .unset, .unset, .unset, .unset]) rfl kk_) ?_
  show Goes p e below _ (s₁.setTop (mkF m 24 #[vi x0, vi x1, vi x2, vi x3, .val (.long ra), .second, .val (.long rb), .second, vi bp, vi x_, vi ((1 : Int32) + ((((x0.toUInt32 >>> ((2 : Int32) &&& 31).toUInt32).toInt32) &&& (3 : Int32)) % (3 : Int32))), .unset, .unset, .unset, .unset, .unset, .unset, .unset, .unset, .unset, .unset, .unset, .unset, .unset, .unset, .unset, .unset] []))
  generalize hv_dg : ((1 : Int32) + ((((x0.toUInt32 >>> ((2 : Int32) &&& 31).toUInt32).toInt32) &&& (3 : Int32)) % (3 : Int32))) = dg
  show Goes p e below _ (s₁.setTop (mkF m 24 #[vi x0, vi x1, vi x2, vi x3, .val (.long ra), .second, .val (.long rb), .second, vi bp, vi x_, vi dg, .unset, .unset, .unset, .unset, .unset, .unset, .unset, .unset, .unset, .unset, .unset, .unset, .unset, .unset, .unset, .unset] []))
  have hdg := own_dg3 hv_dg
  have HD1 := hdg.1
  have HD8 : dg.toInt ≤ 8 := by omega
  obtain ⟨nd, Hnd⟩ : ∃ nd : Nat, dg.toInt = (nd : Int) := ⟨dg.toInt.toNat, by omega⟩
  have h1nd : 1 ≤ nd := by omega
  have h3nd : nd ≤ 3 := by omega
  obtain ⟨k, hk, hk1, hk4, -, -, -⟩ := own_bbk HB
  obtain ⟨bn, Hbn⟩ : ∃ bn : Nat, x_.toInt = (bn : Int) := ⟨x_.toInt.toNat, by have q : 0 ≤ x_.toInt := (by rcases HB with ⟨rfl, -⟩ | ⟨rfl, -⟩ | ⟨rfl, -⟩ | ⟨rfl, -⟩ <;> decide); omega⟩
  refine gIL X0 hx hby at_24 rfl ?_
  refine gIL X0 hx hby at_26 rfl ?_
  refine Goes.via (fun _ kk_ => XS.imul X0.here hx rfl (hb hby at_28) rfl kk_) ?_
  show Goes p e below _ (s₁.setTop (mkF m 29 #[vi x0, vi x1, vi x2, vi x3, .val (.long ra), .second, .val (.long rb), .second, vi bp, vi x_, vi dg, .unset, .unset, .unset, .unset, .unset, .unset, .unset, .unset, .unset, .unset, .unset, .unset, .unset, .unset, .unset, .unset] [(.int (dg * bp))]))
  refine Goes.via (fun _ kk_ => XS.istore X0.here hx rfl (hb hby at_29) rfl (l' := #[vi x0, vi x1, vi x2, vi x3, .val (.long ra), .second, .val (.long rb), .second, vi bp, vi x_, vi dg, vi (dg * bp), .unset, .unset, .unset, .unset, .unset, .unset, .unset, .unset, .unset, .unset, .unset, .unset, .unset, .unset, .unset]) rfl kk_) ?_
  show Goes p e below _ (s₁.setTop (mkF m 31 #[vi x0, vi x1, vi x2, vi x3, .val (.long ra), .second, .val (.long rb), .second, vi bp, vi x_, vi dg, vi (dg * bp), .unset, .unset, .unset, .unset, .unset, .unset, .unset, .unset, .unset, .unset, .unset, .unset, .unset, .unset, .unset] []))
  refine gIC (z := 1) X0 hx hby at_31 rfl ?_
  refine gIL X0 hx hby at_32 rfl ?_
  refine Goes.via (fun _ kk_ => XS.ishl X0.here hx rfl (hb hby at_34) rfl kk_) ?_
  show Goes p e below _ (s₁.setTop (mkF m 35 #[vi x0, vi x1, vi x2, vi x3, .val (.long ra), .second, .val (.long rb), .second, vi bp, vi x_, vi dg, vi (dg * bp), .unset, .unset, .unset, .unset, .unset, .unset, .unset, .unset, .unset, .unset, .unset, .unset, .unset, .unset, .unset] [(.int ((1 : Int32) <<< ((dg * bp) &&& 31)))]))
  refine gIC (z := 1) X0 hx hby at_35 rfl ?_
  refine Goes.via (fun _ kk_ => XS.isub X0.here hx rfl (hb hby at_36) rfl kk_) ?_
  show Goes p e below _ (s₁.setTop (mkF m 37 #[vi x0, vi x1, vi x2, vi x3, .val (.long ra), .second, .val (.long rb), .second, vi bp, vi x_, vi dg, vi (dg * bp), .unset, .unset, .unset, .unset, .unset, .unset, .unset, .unset, .unset, .unset, .unset, .unset, .unset, .unset, .unset] [(.int (((1 : Int32) <<< ((dg * bp) &&& 31)) - (1 : Int32)))]))
  refine Goes.via (fun _ kk_ => XS.istore X0.here hx rfl (hb hby at_37) rfl (l' := #[vi x0, vi x1, vi x2, vi x3, .val (.long ra), .second, .val (.long rb), .second, vi bp, vi x_, vi dg, vi (dg * bp), vi (((1 : Int32) <<< ((dg * bp) &&& 31)) - (1 : Int32)), .unset, .unset, .unset, .unset, .unset, .unset, .unset, .unset, .unset, .unset, .unset, .unset, .unset, .unset]) rfl kk_) ?_
  show Goes p e below _ (s₁.setTop (mkF m 39 #[vi x0, vi x1, vi x2, vi x3, .val (.long ra), .second, .val (.long rb), .second, vi bp, vi x_, vi dg, vi (dg * bp), vi (((1 : Int32) <<< ((dg * bp) &&& 31)) - (1 : Int32)), .unset, .unset, .unset, .unset, .unset, .unset, .unset, .unset, .unset, .unset, .unset, .unset, .unset, .unset] []))
  generalize hv_mk : (((1 : Int32) <<< ((dg * bp) &&& 31)) - (1 : Int32)) = mk
  show Goes p e below _ (s₁.setTop (mkF m 39 #[vi x0, vi x1, vi x2, vi x3, .val (.long ra), .second, .val (.long rb), .second, vi bp, vi x_, vi dg, vi (dg * bp), vi mk, .unset, .unset, .unset, .unset, .unset, .unset, .unset, .unset, .unset, .unset, .unset, .unset, .unset, .unset] []))
  refine gILN X0 hx hby at_39 rfl ?_
  refine gIL X0 hx hby at_40 rfl ?_
  refine Goes.via (fun _ kk_ => XS.iand X0.here hx rfl (hb hby at_42) rfl kk_) ?_
  show Goes p e below _ (s₁.setTop (mkF m 43 #[vi x0, vi x1, vi x2, vi x3, .val (.long ra), .second, .val (.long rb), .second, vi bp, vi x_, vi dg, vi (dg * bp), vi mk, .unset, .unset, .unset, .unset, .unset, .unset, .unset, .unset, .unset, .unset, .unset, .unset, .unset, .unset] [(.int (x1 &&& mk))]))
  refine Goes.via (fun _ kk_ => XS.istore X0.here hx rfl (hb hby at_43) rfl (l' := #[vi x0, vi x1, vi x2, vi x3, .val (.long ra), .second, .val (.long rb), .second, vi bp, vi x_, vi dg, vi (dg * bp), vi mk, vi (x1 &&& mk), .unset, .unset, .unset, .unset, .unset, .unset, .unset, .unset, .unset, .unset, .unset, .unset, .unset]) rfl kk_) ?_
  show Goes p e below _ (s₁.setTop (mkF m 45 #[vi x0, vi x1, vi x2, vi x3, .val (.long ra), .second, .val (.long rb), .second, vi bp, vi x_, vi dg, vi (dg * bp), vi mk, vi (x1 &&& mk), .unset, .unset, .unset, .unset, .unset, .unset, .unset, .unset, .unset, .unset, .unset, .unset, .unset] []))
  generalize hv_ov : (x1 &&& mk) = ov
  show Goes p e below _ (s₁.setTop (mkF m 45 #[vi x0, vi x1, vi x2, vi x3, .val (.long ra), .second, .val (.long rb), .second, vi bp, vi x_, vi dg, vi (dg * bp), vi mk, vi ov, .unset, .unset, .unset, .unset, .unset, .unset, .unset, .unset, .unset, .unset, .unset, .unset, .unset] []))
  have hco3 := own_cutI HB hk Hnd h1nd h3nd hv_mk hv_ov
  have hco : (0 ≤ ov.toInt ∧ ov.toInt < ((2 ^ (nd * k) : Nat) : Int)) ∧ True := ⟨⟨hco3.1, hco3.2.1⟩, trivial⟩
  have Hhco := hco3.2.2
  refine gILN X0 hx hby at_45 rfl ?_
  refine gIL X0 hx hby at_46 rfl ?_
  refine Goes.via (fun _ kk_ => XS.iand X0.here hx rfl (hb hby at_48) rfl kk_) ?_
  show Goes p e below _ (s₁.setTop (mkF m 49 #[vi x0, vi x1, vi x2, vi x3, .val (.long ra), .second, .val (.long rb), .second, vi bp, vi x_, vi dg, vi (dg * bp), vi mk, vi ov, .unset, .unset, .unset, .unset, .unset, .unset, .unset, .unset, .unset, .unset, .unset, .unset, .unset] [(.int (x2 &&& mk))]))
  refine Goes.via (fun _ kk_ => XS.istore X0.here hx rfl (hb hby at_49) rfl (l' := #[vi x0, vi x1, vi x2, vi x3, .val (.long ra), .second, .val (.long rb), .second, vi bp, vi x_, vi dg, vi (dg * bp), vi mk, vi ov, vi (x2 &&& mk), .unset, .unset, .unset, .unset, .unset, .unset, .unset, .unset, .unset, .unset, .unset, .unset]) rfl kk_) ?_
  show Goes p e below _ (s₁.setTop (mkF m 51 #[vi x0, vi x1, vi x2, vi x3, .val (.long ra), .second, .val (.long rb), .second, vi bp, vi x_, vi dg, vi (dg * bp), vi mk, vi ov, vi (x2 &&& mk), .unset, .unset, .unset, .unset, .unset, .unset, .unset, .unset, .unset, .unset, .unset, .unset] []))
  generalize hv_av : (x2 &&& mk) = av
  show Goes p e below _ (s₁.setTop (mkF m 51 #[vi x0, vi x1, vi x2, vi x3, .val (.long ra), .second, .val (.long rb), .second, vi bp, vi x_, vi dg, vi (dg * bp), vi mk, vi ov, vi av, .unset, .unset, .unset, .unset, .unset, .unset, .unset, .unset, .unset, .unset, .unset, .unset] []))
  have hca3 := own_cutI HB hk Hnd h1nd h3nd hv_mk hv_av
  have hca : (0 ≤ av.toInt ∧ av.toInt < ((2 ^ (nd * k) : Nat) : Int)) ∧ True := ⟨⟨hca3.1, hca3.2.1⟩, trivial⟩
  have Hhca := hca3.2.2
  refine gILN X0 hx hby at_51 rfl ?_
  refine gIL X0 hx hby at_52 rfl ?_
  refine Goes.via (fun _ kk_ => XS.iand X0.here hx rfl (hb hby at_54) rfl kk_) ?_
  show Goes p e below _ (s₁.setTop (mkF m 55 #[vi x0, vi x1, vi x2, vi x3, .val (.long ra), .second, .val (.long rb), .second, vi bp, vi x_, vi dg, vi (dg * bp), vi mk, vi ov, vi av, .unset, .unset, .unset, .unset, .unset, .unset, .unset, .unset, .unset, .unset, .unset, .unset] [(.int (x3 &&& mk))]))
  refine Goes.via (fun _ kk_ => XS.istore X0.here hx rfl (hb hby at_55) rfl (l' := #[vi x0, vi x1, vi x2, vi x3, .val (.long ra), .second, .val (.long rb), .second, vi bp, vi x_, vi dg, vi (dg * bp), vi mk, vi ov, vi av, vi (x3 &&& mk), .unset, .unset, .unset, .unset, .unset, .unset, .unset, .unset, .unset, .unset, .unset]) rfl kk_) ?_
  show Goes p e below _ (s₁.setTop (mkF m 57 #[vi x0, vi x1, vi x2, vi x3, .val (.long ra), .second, .val (.long rb), .second, vi bp, vi x_, vi dg, vi (dg * bp), vi mk, vi ov, vi av, vi (x3 &&& mk), .unset, .unset, .unset, .unset, .unset, .unset, .unset, .unset, .unset, .unset, .unset] []))
  generalize hv_bv : (x3 &&& mk) = bv
  show Goes p e below _ (s₁.setTop (mkF m 57 #[vi x0, vi x1, vi x2, vi x3, .val (.long ra), .second, .val (.long rb), .second, vi bp, vi x_, vi dg, vi (dg * bp), vi mk, vi ov, vi av, vi bv, .unset, .unset, .unset, .unset, .unset, .unset, .unset, .unset, .unset, .unset, .unset] []))
  have hcb3 := own_cutI HB hk Hnd h1nd h3nd hv_mk hv_bv
  have hcb : (0 ≤ bv.toInt ∧ bv.toInt < ((2 ^ (nd * k) : Nat) : Int)) ∧ True := ⟨⟨hcb3.1, hcb3.2.1⟩, trivial⟩
  have Hhcb := hcb3.2.2
  refine gILN X0 hx hby at_57 rfl ?_
  refine gIC (z := 4) X0 hx hby at_58 rfl ?_
  refine Goes.via (fun _ kk_ => XS.iushr X0.here hx rfl (hb hby at_59) rfl kk_) ?_
  show Goes p e below _ (s₁.setTop (mkF m 60 #[vi x0, vi x1, vi x2, vi x3, .val (.long ra), .second, .val (.long rb), .second, vi bp, vi x_, vi dg, vi (dg * bp), vi mk, vi ov, vi av, vi bv, .unset, .unset, .unset, .unset, .unset, .unset, .unset, .unset, .unset, .unset, .unset] [(.int ((x0.toUInt32 >>> ((4 : Int32) &&& 31).toUInt32).toInt32))]))
  refine gSI (z := 255) X0 hx hby at_60 rfl ?_
  refine Goes.via (fun _ kk_ => XS.iand X0.here hx rfl (hb hby at_63) rfl kk_) ?_
  show Goes p e below _ (s₁.setTop (mkF m 64 #[vi x0, vi x1, vi x2, vi x3, .val (.long ra), .second, .val (.long rb), .second, vi bp, vi x_, vi dg, vi (dg * bp), vi mk, vi ov, vi av, vi bv, .unset, .unset, .unset, .unset, .unset, .unset, .unset, .unset, .unset, .unset, .unset] [(.int (((x0.toUInt32 >>> ((4 : Int32) &&& 31).toUInt32).toInt32) &&& (255 : Int32)))]))
  refine gIL X0 hx hby at_64 rfl ?_
  refine Goes.via (fun _ kk_ => iremM X0 hx rfl (hb hby at_66) rfl (fun z => by rw [z] at HD1; have e : (0 : Int32).toInt = 0 := (by decide); omega) kk_) ?_
  show Goes p e below _ (s₁.setTop (mkF m 67 #[vi x0, vi x1, vi x2, vi x3, .val (.long ra), .second, .val (.long rb), .second, vi bp, vi x_, vi dg, vi (dg * bp), vi mk, vi ov, vi av, vi bv, .unset, .unset, .unset, .unset, .unset, .unset, .unset, .unset, .unset, .unset, .unset] [(.int ((((x0.toUInt32 >>> ((4 : Int32) &&& 31).toUInt32).toInt32) &&& (255 : Int32)) % dg))]))
  refine Goes.via (fun _ kk_ => XS.istore X0.here hx rfl (hb hby at_67) rfl (l' := #[vi x0, vi x1, vi x2, vi x3, .val (.long ra), .second, .val (.long rb), .second, vi bp, vi x_, vi dg, vi (dg * bp), vi mk, vi ov, vi av, vi bv, vi ((((x0.toUInt32 >>> ((4 : Int32) &&& 31).toUInt32).toInt32) &&& (255 : Int32)) % dg), .unset, .unset, .unset, .unset, .unset, .unset, .unset, .unset, .unset, .unset]) rfl kk_) ?_
  show Goes p e below _ (s₁.setTop (mkF m 69 #[vi x0, vi x1, vi x2, vi x3, .val (.long ra), .second, .val (.long rb), .second, vi bp, vi x_, vi dg, vi (dg * bp), vi mk, vi ov, vi av, vi bv, vi ((((x0.toUInt32 >>> ((4 : Int32) &&& 31).toUInt32).toInt32) &&& (255 : Int32)) % dg), .unset, .unset, .unset, .unset, .unset, .unset, .unset, .unset, .unset, .unset] []))
  generalize hv_rw_ : ((((x0.toUInt32 >>> ((4 : Int32) &&& 31).toUInt32).toInt32) &&& (255 : Int32)) % dg) = rw_
  show Goes p e below _ (s₁.setTop (mkF m 69 #[vi x0, vi x1, vi x2, vi x3, .val (.long ra), .second, .val (.long rb), .second, vi bp, vi x_, vi dg, vi (dg * bp), vi mk, vi ov, vi av, vi bv, vi rw_, .unset, .unset, .unset, .unset, .unset, .unset, .unset, .unset, .unset, .unset] []))
  obtain ⟨nr, Hnr, Hnr1⟩ := own_rowr Hnd h1nd hv_rw_
  refine gILN X0 hx hby at_69 rfl ?_
  refine gBI (z := 12) X0 hx hby at_70 rfl ?_
  refine Goes.via (fun _ kk_ => XS.iushr X0.here hx rfl (hb hby at_72) rfl kk_) ?_
  show Goes p e below _ (s₁.setTop (mkF m 73 #[vi x0, vi x1, vi x2, vi x3, .val (.long ra), .second, .val (.long rb), .second, vi bp, vi x_, vi dg, vi (dg * bp), vi mk, vi ov, vi av, vi bv, vi rw_, .unset, .unset, .unset, .unset, .unset, .unset, .unset, .unset, .unset, .unset] [(.int ((x0.toUInt32 >>> ((12 : Int32) &&& 31).toUInt32).toInt32))]))
  refine gIL X0 hx hby at_73 rfl ?_
  refine gIC (z := 1) X0 hx hby at_75 rfl ?_
  refine Goes.via (fun _ kk_ => XS.isub X0.here hx rfl (hb hby at_76) rfl kk_) ?_
  show Goes p e below _ (s₁.setTop (mkF m 77 #[vi x0, vi x1, vi x2, vi x3, .val (.long ra), .second, .val (.long rb), .second, vi bp, vi x_, vi dg, vi (dg * bp), vi mk, vi ov, vi av, vi bv, vi rw_, .unset, .unset, .unset, .unset, .unset, .unset, .unset, .unset, .unset, .unset] [(.int (x_ - (1 : Int32))), (.int ((x0.toUInt32 >>> ((12 : Int32) &&& 31).toUInt32).toInt32))]))
  refine Goes.via (fun _ kk_ => XS.iand X0.here hx rfl (hb hby at_77) rfl kk_) ?_
  show Goes p e below _ (s₁.setTop (mkF m 78 #[vi x0, vi x1, vi x2, vi x3, .val (.long ra), .second, .val (.long rb), .second, vi bp, vi x_, vi dg, vi (dg * bp), vi mk, vi ov, vi av, vi bv, vi rw_, .unset, .unset, .unset, .unset, .unset, .unset, .unset, .unset, .unset, .unset] [(.int (((x0.toUInt32 >>> ((12 : Int32) &&& 31).toUInt32).toInt32) &&& (x_ - (1 : Int32))))]))
  refine Goes.via (fun _ kk_ => XS.istore X0.here hx rfl (hb hby at_78) rfl (l' := #[vi x0, vi x1, vi x2, vi x3, .val (.long ra), .second, .val (.long rb), .second, vi bp, vi x_, vi dg, vi (dg * bp), vi mk, vi ov, vi av, vi bv, vi rw_, vi (((x0.toUInt32 >>> ((12 : Int32) &&& 31).toUInt32).toInt32) &&& (x_ - (1 : Int32))), .unset, .unset, .unset, .unset, .unset, .unset, .unset, .unset, .unset]) rfl kk_) ?_
  show Goes p e below _ (s₁.setTop (mkF m 80 #[vi x0, vi x1, vi x2, vi x3, .val (.long ra), .second, .val (.long rb), .second, vi bp, vi x_, vi dg, vi (dg * bp), vi mk, vi ov, vi av, vi bv, vi rw_, vi (((x0.toUInt32 >>> ((12 : Int32) &&& 31).toUInt32).toInt32) &&& (x_ - (1 : Int32))), .unset, .unset, .unset, .unset, .unset, .unset, .unset, .unset, .unset] []))
  generalize hv_cl : (((x0.toUInt32 >>> ((12 : Int32) &&& 31).toUInt32).toInt32) &&& (x_ - (1 : Int32))) = cl
  show Goes p e below _ (s₁.setTop (mkF m 80 #[vi x0, vi x1, vi x2, vi x3, .val (.long ra), .second, .val (.long rb), .second, vi bp, vi x_, vi dg, vi (dg * bp), vi mk, vi ov, vi av, vi bv, vi rw_, vi cl, .unset, .unset, .unset, .unset, .unset, .unset, .unset, .unset, .unset] []))
  obtain ⟨Hb16, nc, Hnc, Hnc1⟩ := own_colr HB Hbn hv_cl
  obtain ⟨T1, h1, X1, e1, E1, A1, D1, -, st1⟩ := newO X0 hx hZ hown (own_w hw 0 rfl) (own_w hw 1 rfl) (own_w hw 2 rfl) e0 (g := (mkF m 80 #[vi x0, vi x1, vi x2, vi x3, .val (.long ra), .second, .val (.long rb), .second, vi bp, vi x_, vi dg, vi (dg * bp), vi mk, vi ov, vi av, vi bv, vi rw_, vi cl, .unset, .unset, .unset, .unset, .unset, .unset, .unset, .unset, .unset] [])) rfl (hb hby at_80) (by first | decide | omega | (dsimp only; omega)) (by first | decide | omega | (dsimp only; omega))
  obtain ⟨b1, g1⟩ : ∃ z, z = (h0).size := ⟨_, rfl⟩
  rw [← g1] at A1 D1 st1
  have sz_b1 : h0.size ≤ b1 := Nat.le_trans (Nat.le_refl _) (Nat.le_of_eq g1.symm)
  have gn_b1 : n0 ≤ b1 := Nat.le_trans Z0 sz_b1
  have F_base_b1 : Fld Z h1 b1 "nearhop/model/IdSpace" "base" "I" (.int (0 : Int32)) := D1 (Or.inr (own_w hw 20 rfl)) (ty := .int) (by decide)
  have F_digits_b1 : Fld Z h1 b1 "nearhop/model/IdSpace" "digits" "I" (.int (0 : Int32)) := D1 (Or.inr (own_w hw 22 rfl)) (ty := .int) (by decide)
  refine Goes.via st1 ?_
  show Goes p e below _ (T1.setTop (mkF m 83 #[vi x0, vi x1, vi x2, vi x3, .val (.long ra), .second, .val (.long rb), .second, vi bp, vi x_, vi dg, vi (dg * bp), vi mk, vi ov, vi av, vi bv, vi rw_, vi cl, .unset, .unset, .unset, .unset, .unset, .unset, .unset, .unset, .unset] [(.ref b1)]))
  refine gDU X1 hx hby at_83 rfl ?_
  refine gIL X1 hx hby at_84 rfl ?_
  refine gIL X1 hx hby at_86 rfl ?_
  have z3 : h0.size ≤ (h1).size := (Nat.le_trans (Nat.le_refl _) E1.1)
  obtain ⟨_, _, ⟨T2, L2, k2, n2⟩, -, X2, ⟨Lc2, hQ2, l2, y2, z2⟩, st2⟩ := X1.specialBack hx (y := mN_IdSpace_init) rfl hown (mvT hZ (own_w hw 3 rfl)) (mvT hZ (own_w hw 4 rfl)) (mvT hZ (own_w hw 5 rfl)) (by decide) (backOf (W := 1) (rm1 l Z a0 hw [] b1 x_ dg bp h1 n0 (Nat.le_trans Z0 z3) A1 F_base_b1 F_digits_b1 gn_b1 HB HD1 HD8) hZ (own_w hw 5 rfl) (own_w hw 2 rfl) (by decide) (by decide)) (g := (mkF m 88 #[vi x0, vi x1, vi x2, vi x3, .val (.long ra), .second, .val (.long rb), .second, vi bp, vi x_, vi dg, vi (dg * bp), vi mk, vi ov, vi av, vi bv, vi rw_, vi cl, .unset, .unset, .unset, .unset, .unset, .unset, .unset, .unset, .unset] [(.int dg), (.int x_), (.ref b1), (.ref b1)])) rfl (by rw [hml]; rfl) (Steps.refl _) (a := b1) (argsL := [(.int x_), (.int dg)]) (rest := [(.ref b1)]) (lenOf pd_12 rfl) rfl (by show 2 * 0 + _ ≤ _; exact Nat.le_of_eq rfl) (hb hby at_88) (fun _ _ => ⟨rfl, e1, (by decide : 1 + 0 ≤ _), (by decide : 2 + 0 ≤ _)⟩)
  dsimp only [Pt.U, Pt.locs, Pt.cells, Pt.slots] at X2 l2 y2 z2 st2 hQ2
  replace l2 := l2.symm
  subst l2 y2 z2
  obtain ⟨rfl, N2q, K2, u2_0, u2_1, u2_2⟩ := hQ2
  have N2 := Fr.app N0 N2q
  refine Goes.tr st2 ?_
  show Goes p e below _ (T2.setTop (mkF m 91 #[vi x0, vi x1, vi x2, vi x3, .val (.long ra), .second, .val (.long rb), .second, vi bp, vi x_, vi dg, vi (dg * bp), vi mk, vi ov, vi av, vi bv, vi rw_, vi cl, .unset, .unset, .unset, .unset, .unset, .unset, .unset, .unset, .unset] [(.ref b1)]))
  refine Goes.via (fun _ kk_ => XS.astore X2.here hx rfl (hb hby at_91) rfl rfl (l' := #[vi x0, vi x1, vi x2, vi x3, .val (.long ra), .second, .val (.long rb), .second, vi bp, vi x_, vi dg, vi (dg * bp), vi mk, vi ov, vi av, vi bv, vi rw_, vi cl, vr b1, .unset, .unset, .unset, .unset, .unset, .unset, .unset, .unset]) rfl kk_) ?_
  show Goes p e below _ (T2.setTop (mkF m 93 #[vi x0, vi x1, vi x2, vi x3, .val (.long ra), .second, .val (.long rb), .second, vi bp, vi x_, vi dg, vi (dg * bp), vi mk, vi ov, vi av, vi bv, vi rw_, vi cl, vr b1, .unset, .unset, .unset, .unset, .unset, .unset, .unset, .unset] []))
  show Goes p e below _ (T2.setTop (mkF m 93 (own_l1 x0 x1 x2 x3 ra rb bp x_ dg mk ov av bv rw_ cl b1) []))
  obtain ⟨T4, h4, X4, e4, E4, A4, D4, -, st4⟩ := newO X2 hx hZ hown (own_w hw 23 rfl) (own_w hw 24 rfl) (own_w hw 25 rfl) rfl (g := (mkF m 93 (own_l1 x0 x1 x2 x3 ra rb bp x_ dg mk ov av bv rw_ cl b1) [])) rfl (hb hby at_93) (by first | decide | omega | (dsimp only; omega)) (by first | decide | omega | (dsimp only; omega))
  obtain ⟨b4, g4⟩ : ∃ z, z = (T2.heap).size := ⟨_, rfl⟩
  rw [← g4] at A4 D4 st4
  have lne5 : b1 < b4 := Nat.lt_of_lt_of_le u2_0.lt (Nat.le_of_eq g4.symm)
  have ne5 : b1 ≠ b4 := Nat.ne_of_lt lne5
  have z6 : h0.size ≤ (T2.heap).size := (Nat.le_trans z3 K2.1)
  have sz_b4 : h0.size ≤ b4 := Nat.le_trans z6 (Nat.le_of_eq g4.symm)
  have gn_b4 : n0 ≤ b4 := Nat.le_trans Z0 sz_b4
  have F_space_b4 : Fld Z h4 b4 "nearhop/model/Id" "space" "Lnearhop/model/IdSpace;" .null := D4 (Or.inr (own_w hw 31 rfl)) (ty := (.object "nearhop/model/IdSpace")) (by decide)
  have F_high_b4 : Fld Z h4 b4 "nearhop/model/Id" "high" "J" (.long (0 : Int64)) := D4 (Or.inr (own_w hw 46 rfl)) (ty := .long) (by decide)
  have F_low_b4 : Fld Z h4 b4 "nearhop/model/Id" "low" "J" (.long (0 : Int64)) := D4 (Or.inr (own_w hw 51 rfl)) (ty := .long) (by decide)
  refine Goes.via st4 ?_
  show Goes p e below _ (T4.setTop (mkF m 96 (own_l1 x0 x1 x2 x3 ra rb bp x_ dg mk ov av bv rw_ cl b1) [(.ref b4)]))
  refine gDU X4 hx hby at_96 rfl ?_
  refine gAL X4 hx hby at_97 rfl rfl ?_
  refine Goes.via (fun _ kk_ => XS.lconst X4.here hx rfl (hb hby at_99) kk_) ?_
  show Goes p e below _ (T4.setTop (mkF m 100 (own_l1 x0 x1 x2 x3 ra rb bp x_ dg mk ov av bv rw_ cl b1) [(.long (0 : Int64)), (.ref b1), (.ref b4), (.ref b4)]))
  refine gIL X4 hx hby at_100 rfl ?_
  refine Goes.via (fun _ kk_ => XS.i2l X4.here hx rfl (hb hby at_102) rfl kk_) ?_
  show Goes p e below _ (T4.setTop (mkF m 103 (own_l1 x0 x1 x2 x3 ra rb bp x_ dg mk ov av bv rw_ cl b1) [(.long (ov.toInt64)), (.long (0 : Int64)), (.ref b1), (.ref b4), (.ref b4)]))
  have f7 := (u2_0.ext E4)
  have f8 := (u2_1.ext E4)
  have f9 := (u2_2.ext E4)
  have z11 : h0.size ≤ (h4).size := (Nat.le_trans z6 E4.1)
  obtain ⟨_, _, ⟨T10, L10, k10, n10⟩, -, X10, ⟨Lc10, hQ10, l10, y10, z10⟩, st10⟩ := X4.specialBack hx (y := mN_Id_init) rfl hown (mvT hZ (own_w hw 26 rfl)) (mvT hZ (own_w hw 27 rfl)) (mvT hZ (own_w hw 28 rfl)) (by decide) (backOf (W := 1) (rm5 l Z a0 hw [] b4 b1 (ov.toInt64) x_ dg bp h4 n0 (Nat.le_trans Z0 z11) A4 F_space_b4 F_high_b4 F_low_b4 gn_b4 f7 f8 f9 HB HD1 HD8 (by first | assumption | rfl | decide | omega | (simp; done))) hZ (own_w hw 28 rfl) (own_w hw 25 rfl) (by decide) (by decide)) (g := (mkF m 103 (own_l1 x0 x1 x2 x3 ra rb bp x_ dg mk ov av bv rw_ cl b1) [(.long (ov.toInt64)), (.long (0 : Int64)), (.ref b1), (.ref b4), (.ref b4)])) rfl (by rw [hml]; rfl) (Steps.refl _) (a := b4) (argsL := [(.ref b1), (.long (0 : Int64)), (.long (ov.toInt64))]) (rest := [(.ref b4)]) (lenOf pd_13 rfl) rfl (by show 2 * 0 + _ ≤ _; exact Nat.le_of_eq rfl) (hb hby at_103) (fun _ _ => ⟨rfl, e4, (by decide : 2 + 0 ≤ _), (by decide : 5 + 0 ≤ _)⟩)
  dsimp only [Pt.U, Pt.locs, Pt.cells, Pt.slots] at X10 l10 y10 z10 st10 hQ10
  replace l10 := l10.symm
  subst l10 y10 z10
  obtain ⟨rfl, N10q, K10, u10_0, u10_1, u10_2, u10_3⟩ := hQ10
  have N10 := Fr.app N2 N10q
  refine Goes.tr st10 ?_
  show Goes p e below _ (T10.setTop (mkF m 106 (own_l1 x0 x1 x2 x3 ra rb bp x_ dg mk ov av bv rw_ cl b1) [(.ref b4)]))
  refine Goes.via (fun _ kk_ => XS.astore X10.here hx rfl (hb hby at_106) rfl rfl (l' := #[vi x0, vi x1, vi x2, vi x3, .val (.long ra), .second, .val (.long rb), .second, vi bp, vi x_, vi dg, vi (dg * bp), vi mk, vi ov, vi av, vi bv, vi rw_, vi cl, vr b1, vr b4, .unset, .unset, .unset, .unset, .unset, .unset, .unset]) rfl kk_) ?_
  show Goes p e below _ (T10.setTop (mkF m 108 #[vi x0, vi x1, vi x2, vi x3, .val (.long ra), .second, .val (.long rb), .second, vi bp, vi x_, vi dg, vi (dg * bp), vi mk, vi ov, vi av, vi bv, vi rw_, vi cl, vr b1, vr b4, .unset, .unset, .unset, .unset, .unset, .unset, .unset] []))
  show Goes p e below _ (T10.setTop (mkF m 108 (own_l2 x0 x1 x2 x3 ra rb bp x_ dg mk ov av bv rw_ cl b1 b4) []))
  obtain ⟨T12, h12, X12, e12, E12, A12, D12, -, st12⟩ := newO X10 hx hZ hown (own_w hw 23 rfl) (own_w hw 24 rfl) (own_w hw 25 rfl) rfl (g := (mkF m 108 (own_l2 x0 x1 x2 x3 ra rb bp x_ dg mk ov av bv rw_ cl b1 b4) [])) rfl (hb hby at_108) (by first | decide | omega | (dsimp only; omega)) (by first | decide | omega | (dsimp only; omega))
  obtain ⟨b12, g12⟩ : ∃ z, z = (T10.heap).size := ⟨_, rfl⟩
  rw [← g12] at A12 D12 st12
  have f13 := (f7.keep K10)
  have lne14 : b1 < b12 := Nat.lt_of_lt_of_le f13.lt (Nat.le_of_eq g12.symm)
  have ne14 : b1 ≠ b12 := Nat.ne_of_lt lne14
  have lne15 : b4 < b12 := Nat.lt_of_lt_of_le u10_0.lt (Nat.le_of_eq g12.symm)
  have ne15 : b4 ≠ b12 := Nat.ne_of_lt lne15
  have z16 : h0.size ≤ (T10.heap).size := (Nat.le_trans z11 K10.1)
  have sz_b12 : h0.size ≤ b12 := Nat.le_trans z16 (Nat.le_of_eq g12.symm)
  have gn_b12 : n0 ≤ b12 := Nat.le_trans Z0 sz_b12
  have F_space_b12 : Fld Z h12 b12 "nearhop/model/Id" "space" "Lnearhop/model/IdSpace;" .null := D12 (Or.inr (own_w hw 31 rfl)) (ty := (.object "nearhop/model/IdSpace")) (by decide)
  have F_high_b12 : Fld Z h12 b12 "nearhop/model/Id" "high" "J" (.long (0 : Int64)) := D12 (Or.inr (own_w hw 46 rfl)) (ty := .long) (by decide)
  have F_low_b12 : Fld Z h12 b12 "nearhop/model/Id" "low" "J" (.long (0 : Int64)) := D12 (Or.inr (own_w hw 51 rfl)) (ty := .long) (by decide)
  refine Goes.via st12 ?_
  show Goes p e below _ (T12.setTop (mkF m 111 (own_l2 x0 x1 x2 x3 ra rb bp x_ dg mk ov av bv rw_ cl b1 b4) [(.ref b12)]))
  refine gDU X12 hx hby at_111 rfl ?_
  refine gAL X12 hx hby at_112 rfl rfl ?_
  refine Goes.via (fun _ kk_ => XS.lconst X12.here hx rfl (hb hby at_114) kk_) ?_
  show Goes p e below _ (T12.setTop (mkF m 115 (own_l2 x0 x1 x2 x3 ra rb bp x_ dg mk ov av bv rw_ cl b1 b4) [(.long (0 : Int64)), (.ref b1), (.ref b12), (.ref b12)]))
  refine gIL X12 hx hby at_115 rfl ?_
  refine Goes.via (fun _ kk_ => XS.i2l X12.here hx rfl (hb hby at_117) rfl kk_) ?_
  show Goes p e below _ (T12.setTop (mkF m 118 (own_l2 x0 x1 x2 x3 ra rb bp x_ dg mk ov av bv rw_ cl b1 b4) [(.long (av.toInt64)), (.long (0 : Int64)), (.ref b1), (.ref b12), (.ref b12)]))
  have f17 := (f13.ext E12)
  have f18 := ((f8.keep K10 (ninS ne5 nin0)).ext E12)
  have f19 := ((f9.keep K10 (ninS ne5 nin0)).ext E12)
  have z21 : h0.size ≤ (h12).size := (Nat.le_trans z16 E12.1)
  obtain ⟨_, _, ⟨T20, L20, k20, n20⟩, -, X20, ⟨Lc20, hQ20, l20, y20, z20⟩, st20⟩ := X12.specialBack hx (y := mN_Id_init) rfl hown (mvT hZ (own_w hw 26 rfl)) (mvT hZ (own_w hw 27 rfl)) (mvT hZ (own_w hw 28 rfl)) (by decide) (backOf (W := 1) (rm5 l Z a0 hw [] b12 b1 (av.toInt64) x_ dg bp h12 n0 (Nat.le_trans Z0 z21) A12 F_space_b12 F_high_b12 F_low_b12 gn_b12 f17 f18 f19 HB HD1 HD8 (by first | assumption | rfl | decide | omega | (simp; done))) hZ (own_w hw 28 rfl) (own_w hw 25 rfl) (by decide) (by decide)) (g := (mkF m 118 (own_l2 x0 x1 x2 x3 ra rb bp x_ dg mk ov av bv rw_ cl b1 b4) [(.long (av.toInt64)), (.long (0 : Int64)), (.ref b1), (.ref b12), (.ref b12)])) rfl (by rw [hml]; rfl) (Steps.refl _) (a := b12) (argsL := [(.ref b1), (.long (0 : Int64)), (.long (av.toInt64))]) (rest := [(.ref b12)]) (lenOf pd_13 rfl) rfl (by show 2 * 0 + _ ≤ _; exact Nat.le_of_eq rfl) (hb hby at_118) (fun _ _ => ⟨rfl, e12, (by decide : 3 + 0 ≤ _), (by decide : 8 + 0 ≤ _)⟩)
  dsimp only [Pt.U, Pt.locs, Pt.cells, Pt.slots] at X20 l20 y20 z20 st20 hQ20
  replace l20 := l20.symm
  subst l20 y20 z20
  obtain ⟨rfl, N20q, K20, u20_0, u20_1, u20_2, u20_3⟩ := hQ20
  have N20 := Fr.app N10 N20q
  refine Goes.tr st20 ?_
  show Goes p e below _ (T20.setTop (mkF m 121 (own_l2 x0 x1 x2 x3 ra rb bp x_ dg mk ov av bv rw_ cl b1 b4) [(.ref b12)]))
  refine Goes.via (fun _ kk_ => XS.astore X20.here hx rfl (hb hby at_121) rfl rfl (l' := #[vi x0, vi x1, vi x2, vi x3, .val (.long ra), .second, .val (.long rb), .second, vi bp, vi x_, vi dg, vi (dg * bp), vi mk, vi ov, vi av, vi bv, vi rw_, vi cl, vr b1, vr b4, vr b12, .unset, .unset, .unset, .unset, .unset, .unset]) rfl kk_) ?_
  show Goes p e below _ (T20.setTop (mkF m 123 #[vi x0, vi x1, vi x2, vi x3, .val (.long ra), .second, .val (.long rb), .second, vi bp, vi x_, vi dg, vi (dg * bp), vi mk, vi ov, vi av, vi bv, vi rw_, vi cl, vr b1, vr b4, vr b12, .unset, .unset, .unset, .unset, .unset, .unset] []))
  show Goes p e below _ (T20.setTop (mkF m 123 (own_l3 x0 x1 x2 x3 ra rb bp x_ dg mk ov av bv rw_ cl b1 b4 b12) []))
  obtain ⟨T22, h22, X22, e22, E22, A22, D22, -, st22⟩ := newO X20 hx hZ hown (own_w hw 23 rfl) (own_w hw 24 rfl) (own_w hw 25 rfl) rfl (g := (mkF m 123 (own_l3 x0 x1 x2 x3 ra rb bp x_ dg mk ov av bv rw_ cl b1 b4 b12) [])) rfl (hb hby at_123) (by first | decide | omega | (dsimp only; omega)) (by first | decide | omega | (dsimp only; omega))
  obtain ⟨b22, g22⟩ : ∃ z, z = (T20.heap).size := ⟨_, rfl⟩
  rw [← g22] at A22 D22 st22
  have f23 := (f17.keep K20)
  have lne24 : b1 < b22 := Nat.lt_of_lt_of_le f23.lt (Nat.le_of_eq g22.symm)
  have ne24 : b1 ≠ b22 := Nat.ne_of_lt lne24
  have f25 := ((u10_0.ext E12).keep K20)
  have lne26 : b4 < b22 := Nat.lt_of_lt_of_le f25.lt (Nat.le_of_eq g22.symm)
  have ne26 : b4 ≠ b22 := Nat.ne_of_lt lne26
  have lne27 : b12 < b22 := Nat.lt_of_lt_of_le u20_0.lt (Nat.le_of_eq g22.symm)
  have ne27 : b12 ≠ b22 := Nat.ne_of_lt lne27
  have z28 : h0.size ≤ (T20.heap).size := (Nat.le_trans z21 K20.1)
  have sz_b22 : h0.size ≤ b22 := Nat.le_trans z28 (Nat.le_of_eq g22.symm)
  have gn_b22 : n0 ≤ b22 := Nat.le_trans Z0 sz_b22
  have F_space_b22 : Fld Z h22 b22 "nearhop/model/Id" "space" "Lnearhop/model/IdSpace;" .null := D22 (Or.inr (own_w hw 31 rfl)) (ty := (.object "nearhop/model/IdSpace")) (by decide)
  have F_high_b22 : Fld Z h22 b22 "nearhop/model/Id" "high" "J" (.long (0 : Int64)) := D22 (Or.inr (own_w hw 46 rfl)) (ty := .long) (by decide)
  have F_low_b22 : Fld Z h22 b22 "nearhop/model/Id" "low" "J" (.long (0 : Int64)) := D22 (Or.inr (own_w hw 51 rfl)) (ty := .long) (by decide)
  refine Goes.via st22 ?_
  show Goes p e below _ (T22.setTop (mkF m 126 (own_l3 x0 x1 x2 x3 ra rb bp x_ dg mk ov av bv rw_ cl b1 b4 b12) [(.ref b22)]))
  refine gDU X22 hx hby at_126 rfl ?_
  refine gAL X22 hx hby at_127 rfl rfl ?_
  refine Goes.via (fun _ kk_ => XS.lconst X22.here hx rfl (hb hby at_129) kk_) ?_
  show Goes p e below _ (T22.setTop (mkF m 130 (own_l3 x0 x1 x2 x3 ra rb bp x_ dg mk ov av bv rw_ cl b1 b4 b12) [(.long (0 : Int64)), (.ref b1), (.ref b22), (.ref b22)]))
  refine gIL X22 hx hby at_130 rfl ?_
  refine Goes.via (fun _ kk_ => XS.i2l X22.here hx rfl (hb hby at_132) rfl kk_) ?_
  show Goes p e below _ (T22.setTop (mkF m 133 (own_l3 x0 x1 x2 x3 ra rb bp x_ dg mk ov av bv rw_ cl b1 b4 b12) [(.long (bv.toInt64)), (.long (0 : Int64)), (.ref b1), (.ref b22), (.ref b22)]))
  have f29 := (f23.ext E22)
  have f30 := ((f18.keep K20 (ninS ne14 nin0)).ext E22)
  have f31 := ((f19.keep K20 (ninS ne14 nin0)).ext E22)
  have z33 : h0.size ≤ (h22).size := (Nat.le_trans z28 E22.1)
  obtain ⟨_, _, ⟨T32, L32, k32, n32⟩, -, X32, ⟨Lc32, hQ32, l32, y32, z32⟩, st32⟩ := X22.specialBack hx (y := mN_Id_init) rfl hown (mvT hZ (own_w hw 26 rfl)) (mvT hZ (own_w hw 27 rfl)) (mvT hZ (own_w hw 28 rfl)) (by decide) (backOf (W := 1) (rm5 l Z a0 hw [] b22 b1 (bv.toInt64) x_ dg bp h22 n0 (Nat.le_trans Z0 z33) A22 F_space_b22 F_high_b22 F_low_b22 gn_b22 f29 f30 f31 HB HD1 HD8 (by first | assumption | rfl | decide | omega | (simp; done))) hZ (own_w hw 28 rfl) (own_w hw 25 rfl) (by decide) (by decide)) (g := (mkF m 133 (own_l3 x0 x1 x2 x3 ra rb bp x_ dg mk ov av bv rw_ cl b1 b4 b12) [(.long (bv.toInt64)), (.long (0 : Int64)), (.ref b1), (.ref b22), (.ref b22)])) rfl (by rw [hml]; rfl) (Steps.refl _) (a := b22) (argsL := [(.ref b1), (.long (0 : Int64)), (.long (bv.toInt64))]) (rest := [(.ref b22)]) (lenOf pd_13 rfl) rfl (by show 2 * 0 + _ ≤ _; exact Nat.le_of_eq rfl) (hb hby at_133) (fun _ _ => ⟨rfl, e22, (by decide : 4 + 0 ≤ _), (by decide : 11 + 0 ≤ _)⟩)
  dsimp only [Pt.U, Pt.locs, Pt.cells, Pt.slots] at X32 l32 y32 z32 st32 hQ32
  replace l32 := l32.symm
  subst l32 y32 z32
  obtain ⟨rfl, N32q, K32, u32_0, u32_1, u32_2, u32_3⟩ := hQ32
  have N32 := Fr.app N20 N32q
  refine Goes.tr st32 ?_
  show Goes p e below _ (T32.setTop (mkF m 136 (own_l3 x0 x1 x2 x3 ra rb bp x_ dg mk ov av bv rw_ cl b1 b4 b12) [(.ref b22)]))
  refine Goes.via (fun _ kk_ => XS.astore X32.here hx rfl (hb hby at_136) rfl rfl (l' := #[vi x0, vi x1, vi x2, vi x3, .val (.long ra), .second, .val (.long rb), .second, vi bp, vi x_, vi dg, vi (dg * bp), vi mk, vi ov, vi av, vi bv, vi rw_, vi cl, vr b1, vr b4, vr b12, vr b22, .unset, .unset, .unset, .unset, .unset]) rfl kk_) ?_
  show Goes p e below _ (T32.setTop (mkF m 138 #[vi x0, vi x1, vi x2, vi x3, .val (.long ra), .second, .val (.long rb), .second, vi bp, vi x_, vi dg, vi (dg * bp), vi mk, vi ov, vi av, vi bv, vi rw_, vi cl, vr b1, vr b4, vr b12, vr b22, .unset, .unset, .unset, .unset, .unset] []))
  show Goes p e below _ (T32.setTop (mkF m 138 (own_l4 x0 x1 x2 x3 ra rb bp x_ dg mk ov av bv rw_ cl b1 b4 b12 b22) []))
  obtain ⟨T34, h34, X34, e34, E34, A34, D34, -, st34⟩ := newO X32 hx hZ hown (own_w hw 52 rfl) (own_w hw 53 rfl) (own_w hw 54 rfl) rfl (g := (mkF m 138 (own_l4 x0 x1 x2 x3 ra rb bp x_ dg mk ov av bv rw_ cl b1 b4 b12 b22) [])) rfl (hb hby at_138) (by first | decide | omega | (dsimp only; omega)) (by first | decide | omega | (dsimp only; omega))
  obtain ⟨b34, g34⟩ : ∃ z, z = (T32.heap).size := ⟨_, rfl⟩
  rw [← g34] at A34 D34 st34
  have f35 := (f29.keep K32)
  have lne36 : b1 < b34 := Nat.lt_of_lt_of_le f35.lt (Nat.le_of_eq g34.symm)
  have ne36 : b1 ≠ b34 := Nat.ne_of_lt lne36
  have f37 := ((f25.ext E22).keep K32)
  have lne38 : b4 < b34 := Nat.lt_of_lt_of_le f37.lt (Nat.le_of_eq g34.symm)
  have ne38 : b4 ≠ b34 := Nat.ne_of_lt lne38
  have f39 := ((u20_0.ext E22).keep K32)
  have lne40 : b12 < b34 := Nat.lt_of_lt_of_le f39.lt (Nat.le_of_eq g34.symm)
  have ne40 : b12 ≠ b34 := Nat.ne_of_lt lne40
  have lne41 : b22 < b34 := Nat.lt_of_lt_of_le u32_0.lt (Nat.le_of_eq g34.symm)
  have ne41 : b22 ≠ b34 := Nat.ne_of_lt lne41
  have z42 : h0.size ≤ (T32.heap).size := (Nat.le_trans z33 K32.1)
  have sz_b34 : h0.size ≤ b34 := Nat.le_trans z42 (Nat.le_of_eq g34.symm)
  have gn_b34 : n0 ≤ b34 := Nat.le_trans Z0 sz_b34
  have F_owner_b34 : Fld Z h34 b34 "nearhop/model/RoutingTable" "owner" "Lnearhop/model/Id;" .null := D34 (Or.inr (own_w hw 60 rfl)) (ty := (.object "nearhop/model/Id")) (by decide)
  have F_rows_b34 : Fld Z h34 b34 "nearhop/model/RoutingTable" "rows" "[[Lnearhop/model/Id;" .null := D34 (Or.inr (own_w hw 74 rfl)) (ty := (.array (.array (.object "nearhop/model/Id")))) (by decide)
  have F_ranks_b34 : Fld Z h34 b34 "nearhop/model/RoutingTable" "ranks" "[[J" .null := D34 (Or.inr (own_w hw 78 rfl)) (ty := (.array (.array .long))) (by decide)
  have F_filled_b34 : Fld Z h34 b34 "nearhop/model/RoutingTable" "filled" "[I" .null := D34 (Or.inr (own_w hw 81 rfl)) (ty := (.array .int)) (by decide)
  have F_firstOpen_b34 : Fld Z h34 b34 "nearhop/model/RoutingTable" "firstOpen" "I" (.int (0 : Int32)) := D34 (Or.inl (own_w hw 128 rfl)) (ty := .int) (by decide)
  refine Goes.via st34 ?_
  show Goes p e below _ (T34.setTop (mkF m 141 (own_l4 x0 x1 x2 x3 ra rb bp x_ dg mk ov av bv rw_ cl b1 b4 b12 b22) [(.ref b34)]))
  refine gDU X34 hx hby at_141 rfl ?_
  refine gAL X34 hx hby at_142 rfl rfl ?_
  have f43 := (f37.ext E34)
  have f44 := (((((u10_1.ext E12).keep K20 (ninS ne15 nin0)).ext E22).keep K32 (ninS ne26 nin0)).ext E34)
  have f45 := (f35.ext E34)
  have f46 := ((f31.keep K32 (ninS ne24 nin0)).ext E34)
  have z48 : h0.size ≤ (h34).size := (Nat.le_trans z42 E34.1)
  obtain ⟨_, _, ⟨T47, L47, k47, n47⟩, -, X47, ⟨Lc47, hQ47, l47, y47, z47⟩, st47⟩ := X34.specialBack hx (y := mN_RoutingTable_init) rfl hown (mvT hZ (own_w hw 55 rfl)) (mvT hZ (own_w hw 56 rfl)) (mvT hZ (own_w hw 57 rfl)) (by decide) (backOf (W := 1) (rmRT l Z a0 hw [] b34 b4 b1 dg nd h34 n0 (Nat.le_trans Z0 z48) A34 F_owner_b34 F_rows_b34 F_ranks_b34 F_filled_b34 F_firstOpen_b34 gn_b34 f43 f44 f45 f46 (by first | assumption | rfl | decide | omega | (simp; done)) (by first | assumption | rfl | decide | omega | (simp; done))) hZ (own_w hw 57 rfl) (own_w hw 54 rfl) (by decide) (by decide)) (g := (mkF m 144 (own_l4 x0 x1 x2 x3 ra rb bp x_ dg mk ov av bv rw_ cl b1 b4 b12 b22) [(.ref b4), (.ref b34), (.ref b34)])) rfl (by rw [hml]; rfl) (Steps.refl _) (a := b34) (argsL := [(.ref b4)]) (rest := [(.ref b34)]) (lenOf pd_14 rfl) rfl (by show 2 * 0 + _ ≤ _; exact Nat.le_of_eq rfl) (hb hby at_144) (fun _ _ => ⟨rfl, e34, (by decide : 5 + 3 ≤ _), (by decide : 16 + 9 ≤ _)⟩)
  dsimp only [Pt.U, Pt.locs, Pt.cells, Pt.slots] at X47 l47 y47 z47 st47 hQ47
  replace l47 := l47.symm
  subst l47 y47 z47
  obtain ⟨rw47, rl47, fl47, kR47, kK47, kF47, rfl, N47q, K47, u47_0, u47_1, u47_2, u47_3, u47_4, u47_5, u47_6, u47_7, u47_8, u47_9, u47_10, u47_11, u47_12, u47_13, u47_14, u47_15, u47_16⟩ := hQ47
  have N47 := Fr.app N32 N47q
  refine Goes.tr st47 ?_
  have ne49 : b1 ≠ rw47 := Nat.ne_of_lt (Nat.lt_of_lt_of_le f45.lt u47_6)
  have ne50 : b4 ≠ rw47 := Nat.ne_of_lt (Nat.lt_of_lt_of_le f43.lt u47_6)
  have f51 := (f39.ext E34)
  have ne52 : b12 ≠ rw47 := Nat.ne_of_lt (Nat.lt_of_lt_of_le f51.lt u47_6)
  have f53 := (u32_0.ext E34)
  have ne54 : b22 ≠ rw47 := Nat.ne_of_lt (Nat.lt_of_lt_of_le f53.lt u47_6)
  have sz_rw47 : h0.size ≤ rw47 := Nat.le_trans z48 u47_6
  have gn_rw47 : n0 ≤ rw47 := Nat.le_trans Z0 sz_rw47
  have ne55 : b1 ≠ rl47 := Nat.ne_of_lt (Nat.lt_of_lt_of_le f45.lt u47_7)
  have ne56 : b4 ≠ rl47 := Nat.ne_of_lt (Nat.lt_of_lt_of_le f43.lt u47_7)
  have ne57 : b12 ≠ rl47 := Nat.ne_of_lt (Nat.lt_of_lt_of_le f51.lt u47_7)
  have ne58 : b22 ≠ rl47 := Nat.ne_of_lt (Nat.lt_of_lt_of_le f53.lt u47_7)
  have sz_rl47 : h0.size ≤ rl47 := Nat.le_trans z48 u47_7
  have gn_rl47 : n0 ≤ rl47 := Nat.le_trans Z0 sz_rl47
  have ne59 : b1 ≠ fl47 := Nat.ne_of_lt (Nat.lt_of_lt_of_le f45.lt u47_8)
  have ne60 : b4 ≠ fl47 := Nat.ne_of_lt (Nat.lt_of_lt_of_le f43.lt u47_8)
  have ne61 : b12 ≠ fl47 := Nat.ne_of_lt (Nat.lt_of_lt_of_le f51.lt u47_8)
  have ne62 : b22 ≠ fl47 := Nat.ne_of_lt (Nat.lt_of_lt_of_le f53.lt u47_8)
  have sz_fl47 : h0.size ≤ fl47 := Nat.le_trans z48 u47_8
  have gn_fl47 : n0 ≤ fl47 := Nat.le_trans Z0 sz_fl47
  have ne63 : b34 ≠ rw47 := ne_exa u47_0 u47_9 (by decide)
  have ne67 : rw47 ≠ fl47 := ne_exa u47_9 u47_13 (by decide)
  show Goes p e below _ (T47.setTop (mkF m 147 (own_l4 x0 x1 x2 x3 ra rb bp x_ dg mk ov av bv rw_ cl b1 b4 b12 b22) [(.ref b34)]))
  refine Goes.via (fun _ kk_ => XS.astore X47.here hx rfl (hb hby at_147) rfl rfl (l' := #[vi x0, vi x1, vi x2, vi x3, .val (.long ra), .second, .val (.long rb), .second, vi bp, vi x_, vi dg, vi (dg * bp), vi mk, vi ov, vi av, vi bv, vi rw_, vi cl, vr b1, vr b4, vr b12, vr b22, vr b34, .unset, .unset, .unset, .unset]) rfl kk_) ?_
  show Goes p e below _ (T47.setTop (mkF m 149 #[vi x0, vi x1, vi x2, vi x3, .val (.long ra), .second, .val (.long rb), .second, vi bp, vi x_, vi dg, vi (dg * bp), vi mk, vi ov, vi av, vi bv, vi rw_, vi cl, vr b1, vr b4, vr b12, vr b22, vr b34, .unset, .unset, .unset, .unset] []))
  show Goes p e below _ (T47.setTop (mkF m 149 (own_lw x0 x1 x2 x3 ra rb bp x_ dg mk ov av bv rw_ cl b1 b4 b12 b22 b34) []))
  obtain ⟨pA, cA, hpA⟩ := own_all HB hk hk1 hk4 Hnd h1nd h3nd Hbn hco.1 hca.1
  have hfA : own_fits av ov rw_ cl dg bp = if ¬ av = ov ∧ pA = nr ∧ cA = nc then (1 : Int32) else (0 : Int32) := own_fitsI (P := (if ((ov.toInt64) ^^^ (av.toInt64)) = (0 : Int64) then dg else (((64 : Int32) + (own_nlzL ((ov.toInt64) ^^^ (av.toInt64)))) - ((128 : Int32) - (dg * bp))) / bp)) (fun z => ⟨(hpA z).2.2.2.2.1, (hpA z).1, (hpA z).2.2.2.2.2⟩) Hnr Hnc
  obtain ⟨pB, cB, hpB⟩ := own_all HB hk hk1 hk4 Hnd h1nd h3nd Hbn hco.1 hcb.1
  have hfB : own_fits bv ov rw_ cl dg bp = if ¬ bv = ov ∧ pB = nr ∧ cB = nc then (1 : Int32) else (0 : Int32) := own_fitsI (P := (if ((ov.toInt64) ^^^ (bv.toInt64)) = (0 : Int64) then dg else (((64 : Int32) + (own_nlzL ((ov.toInt64) ^^^ (bv.toInt64)))) - ((128 : Int32) - (dg * bp))) / bp)) (fun z => ⟨(hpB z).2.2.2.2.1, (hpB z).1, (hpB z).2.2.2.2.2⟩) Hnr Hnc
  have J0 : ∀ (TJ : State) (lcJ : List Loc), (Stand p l e room_1 s m #[(.int x0), (.int x1), (.int x2), (.int x3), (.long ra), (.long rb)] below meth c TJ lcJ 20 200) → (Fr n0 lcJ) → (Keep h0 TJ.heap []) → (Exa Z TJ.heap b12 "nearhop/model/Id") → (Exa Z TJ.heap b22 "nearhop/model/Id") → (¬ (¬ av = ov ∧ pA = nr ∧ cA = nc) ∧ ¬ (¬ bv = ov ∧ pB = nr ∧ cB = nc)) → Goes p e below (Fin_ s (Qrm0 Z x0 x1 x2 x3 ra rb h0 n0) room_1.cells room_1.slots) (TJ.setTop (mkF m 180 (own_l0 x0 x1 x2 x3 ra rb bp x_ dg mk ov av bv rw_ cl b1 b4 b12 b22 b34) [])) := by
    intro TJ lcJ XJ NJ KJ fj0 fj1 hJ
    show Goes p e below _ (TJ.setTop (mkF m 180 (own_l0 x0 x1 x2 x3 ra rb bp x_ dg mk ov av bv rw_ cl b1 b4 b12 b22 b34) []))
    refine gIL XJ hx hby at_180 rfl ?_
    refine gIL XJ hx hby at_182 rfl ?_
    refine gIL XJ hx hby at_184 rfl ?_
    refine gIL XJ hx hby at_186 rfl ?_
    refine gIL XJ hx hby at_188 rfl ?_
    refine gIL XJ hx hby at_190 rfl ?_
    obtain ⟨_, _, ⟨T69, L69, k69, n69⟩, -, X69, ⟨Lc69, hQ69, l69, y69, z69⟩, st69⟩ := Jvm.LawKit.callS XJ hx (y := mN_RoutingTableGetPinLaw_fits) hown (mvT hZ (own_w hw 134 rfl)) (mvT hZ (own_w hw 135 rfl)) (mvT hZ (own_w hw 136 rfl)) (mvT hZ (own_w hw 137 rfl)) (by decide) (backOf (W := 0) (rm22 l Z a0 hw [] av ov rw_ cl dg bp TJ.heap n0 (Nat.le_trans Z0 KJ.1) ) hZ (own_w hw 137 rfl) (own_w hw 136 rfl) (by decide) (by decide)) (g := (mkF m 192 (own_l0 x0 x1 x2 x3 ra rb bp x_ dg mk ov av bv rw_ cl b1 b4 b12 b22 b34) [(.int bp), (.int dg), (.int cl), (.int rw_), (.int ov), (.int av)])) rfl (by rw [hml]; rfl) (argsL := [(.int av), (.int ov), (.int rw_), (.int cl), (.int dg), (.int bp)]) (rest := []) (lenOf pd_15 rfl) rfl (by show 2 * 0 + _ ≤ _; exact Nat.le_of_eq rfl) (hb hby at_192) (fun _ _ => ⟨rfl, rfl, (by decide : 20 + 0 ≤ _), (by decide : 200 + 0 ≤ _)⟩)
    dsimp only [Pt.U, Pt.locs, Pt.cells, Pt.slots] at X69 l69 y69 z69 st69 hQ69
    replace l69 := l69.symm
    subst l69 y69 z69
    obtain ⟨rfl, rfl, e69⟩ := hQ69
    first | rw [List.append_nil] at X69 | skip
    refine Goes.via st69 ?_
    have e69' : T69.heap = TJ.heap := e69
    show Goes p e below _ (T69.setTop (mkF m 195 (own_l0 x0 x1 x2 x3 ra rb bp x_ dg mk ov av bv rw_ cl b1 b4 b12 b22 b34) [(.int (own_fits av ov rw_ cl dg bp))]))
    refine Goes.via (fun _ kk_ => XS.istore X69.here hx rfl (hb hby at_195) rfl (l' := #[vi x0, vi x1, vi x2, vi x3, .val (.long ra), .second, .val (.long rb), .second, vi bp, vi x_, vi dg, vi (dg * bp), vi mk, vi ov, vi av, vi bv, vi rw_, vi cl, vr b1, vr b4, vr b12, vr b22, vr b34, .val .null, vi (own_fits av ov rw_ cl dg bp), .unset, .unset]) rfl kk_) ?_
    show Goes p e below _ (T69.setTop (mkF m 197 #[vi x0, vi x1, vi x2, vi x3, .val (.long ra), .second, .val (.long rb), .second, vi bp, vi x_, vi dg, vi (dg * bp), vi mk, vi ov, vi av, vi bv, vi rw_, vi cl, vr b1, vr b4, vr b12, vr b22, vr b34, .val .null, vi (own_fits av ov rw_ cl dg bp), .unset, .unset] []))
    show Goes p e below _ (T69.setTop (mkF m 197 (own_n6 x0 x1 x2 x3 ra rb bp x_ dg mk ov av bv rw_ cl b1 b4 b12 b22 b34) []))
    refine gIL X69 hx hby at_197 rfl ?_
    refine gIL X69 hx hby at_199 rfl ?_
    refine gIL X69 hx hby at_201 rfl ?_
    refine gIL X69 hx hby at_203 rfl ?_
    refine gIL X69 hx hby at_205 rfl ?_
    refine gIL X69 hx hby at_207 rfl ?_
    obtain ⟨_, _, ⟨T70, L70, k70, n70⟩, -, X70, ⟨Lc70, hQ70, l70, y70, z70⟩, st70⟩ := Jvm.LawKit.callS X69 hx (y := mN_RoutingTableGetPinLaw_fits) hown (mvT hZ (own_w hw 134 rfl)) (mvT hZ (own_w hw 135 rfl)) (mvT hZ (own_w hw 136 rfl)) (mvT hZ (own_w hw 137 rfl)) (by decide) (backOf (W := 0) (rm22 l Z a0 hw [] bv ov rw_ cl dg bp TJ.heap n0 (Nat.le_trans Z0 KJ.1) ) hZ (own_w hw 137 rfl) (own_w hw 136 rfl) (by decide) (by decide)) (g := (mkF m 209 (own_n6 x0 x1 x2 x3 ra rb bp x_ dg mk ov av bv rw_ cl b1 b4 b12 b22 b34) [(.int bp), (.int dg), (.int cl), (.int rw_), (.int ov), (.int bv)])) rfl (by rw [hml]; rfl) (argsL := [(.int bv), (.int ov), (.int rw_), (.int cl), (.int dg), (.int bp)]) (rest := []) (lenOf pd_15 rfl) rfl (by show 2 * 0 + _ ≤ _; exact Nat.le_of_eq rfl) (hb hby at_209) (fun _ _ => ⟨rfl, e69', (by decide : 20 + 0 ≤ _), (by decide : 200 + 0 ≤ _)⟩)
    dsimp only [Pt.U, Pt.locs, Pt.cells, Pt.slots] at X70 l70 y70 z70 st70 hQ70
    replace l70 := l70.symm
    subst l70 y70 z70
    obtain ⟨rfl, rfl, e70⟩ := hQ70
    first | rw [List.append_nil] at X70 | skip
    refine Goes.via st70 ?_
    have e70' : T70.heap = TJ.heap := e70
    show Goes p e below _ (T70.setTop (mkF m 212 (own_n6 x0 x1 x2 x3 ra rb bp x_ dg mk ov av bv rw_ cl b1 b4 b12 b22 b34) [(.int (own_fits bv ov rw_ cl dg bp))]))
    refine Goes.via (fun _ kk_ => XS.istore X70.here hx rfl (hb hby at_212) rfl (l' := #[vi x0, vi x1, vi x2, vi x3, .val (.long ra), .second, .val (.long rb), .second, vi bp, vi x_, vi dg, vi (dg * bp), vi mk, vi ov, vi av, vi bv, vi rw_, vi cl, vr b1, vr b4, vr b12, vr b22, vr b34, .val .null, vi (own_fits av ov rw_ cl dg bp), vi (own_fits bv ov rw_ cl dg bp), .unset]) rfl kk_) ?_
    show Goes p e below _ (T70.setTop (mkF m 214 #[vi x0, vi x1, vi x2, vi x3, .val (.long ra), .second, .val (.long rb), .second, vi bp, vi x_, vi dg, vi (dg * bp), vi mk, vi ov, vi av, vi bv, vi rw_, vi cl, vr b1, vr b4, vr b12, vr b22, vr b34, .val .null, vi (own_fits av ov rw_ cl dg bp), vi (own_fits bv ov rw_ cl dg bp), .unset] []))
    show Goes p e below _ (T70.setTop (mkF m 214 (own_n7 x0 x1 x2 x3 ra rb bp x_ dg mk ov av bv rw_ cl b1 b4 b12 b22 b34) []))
    refine gIL X70 hx hby at_214 rfl ?_
    have hc216_71 : (own_fits av ov rw_ cl dg bp) = (0 : Int32) := (by rw [hfA, if_neg hJ.1])
    refine Goes.via (fun _ kk_ => XS.ifYes X70.here hx rfl (pc0 := 216) (pc' := 259) rfl (hb hby at_216) rfl ((if0 _ _).trans (teq hc216_71).1) (by decide) (by decide) kk_) ?_
    show Goes p e below _ (T70.setTop (mkF m 259 (own_n7 x0 x1 x2 x3 ra rb bp x_ dg mk ov av bv rw_ cl b1 b4 b12 b22 b34) []))
    refine gIL X70 hx hby at_259 rfl ?_
    have hc261_72 : (own_fits av ov rw_ cl dg bp) = (0 : Int32) := (by rw [hfA, if_neg hJ.1])
    refine Goes.via (fun _ kk_ => XS.ifYes X70.here hx rfl (pc0 := 261) (pc' := 271) rfl (hb hby at_261) rfl ((if0 _ _).trans (teq hc261_72).1) (by decide) (by decide) kk_) ?_
    show Goes p e below _ (T70.setTop (mkF m 271 (own_n7 x0 x1 x2 x3 ra rb bp x_ dg mk ov av bv rw_ cl b1 b4 b12 b22 b34) []))
    refine gIL X70 hx hby at_271 rfl ?_
    have hc273_73 : (own_fits bv ov rw_ cl dg bp) = (0 : Int32) := (by rw [hfB, if_neg hJ.2])
    refine Goes.via (fun _ kk_ => XS.ifYes X70.here hx rfl (pc0 := 273) (pc' := 283) rfl (hb hby at_273) rfl ((if0 _ _).trans (teq hc273_73).1) (by decide) (by decide) kk_) ?_
    show Goes p e below _ (T70.setTop (mkF m 283 (own_n7 x0 x1 x2 x3 ra rb bp x_ dg mk ov av bv rw_ cl b1 b4 b12 b22 b34) []))
    refine Goes.via (fun _ kk_ => XS.aconstNull X70.here hx rfl (hb hby at_283) kk_) ?_
    show Goes p e below _ (T70.setTop (mkF m 284 (own_n7 x0 x1 x2 x3 ra rb bp x_ dg mk ov av bv rw_ cl b1 b4 b12 b22 b34) [.null]))
    refine Goes.via (fun _ kk_ => XS.astore X70.here hx rfl (hb hby at_284) rfl rfl (l' := #[vi x0, vi x1, vi x2, vi x3, .val (.long ra), .second, .val (.long rb), .second, vi bp, vi x_, vi dg, vi (dg * bp), vi mk, vi ov, vi av, vi bv, vi rw_, vi cl, vr b1, vr b4, vr b12, vr b22, vr b34, .val .null, vi (own_fits av ov rw_ cl dg bp), vi (own_fits bv ov rw_ cl dg bp), .val .null]) rfl kk_) ?_
    show Goes p e below _ (T70.setTop (mkF m 286 #[vi x0, vi x1, vi x2, vi x3, .val (.long ra), .second, .val (.long rb), .second, vi bp, vi x_, vi dg, vi (dg * bp), vi mk, vi ov, vi av, vi bv, vi rw_, vi cl, vr b1, vr b4, vr b12, vr b22, vr b34, .val .null, vi (own_fits av ov rw_ cl dg bp), vi (own_fits bv ov rw_ cl dg bp), .val .null] []))
    show Goes p e below _ (T70.setTop (mkF m 286 (own_n8 x0 x1 x2 x3 ra rb bp x_ dg mk ov av bv rw_ cl b1 b4 b12 b22 b34) []))
    refine gAL X70 hx hby at_286 rfl rfl ?_
    refine Goes.via (fun _ kk_ => XS.ifnonnullNo X70.here hx rfl (hb hby at_288) rfl kk_) ?_
    show Goes p e below _ (T70.setTop (mkF m 291 (own_n8 x0 x1 x2 x3 ra rb bp x_ dg mk ov av bv rw_ cl b1 b4 b12 b22 b34) []))
    refine gAL X70 hx hby at_291 rfl rfl ?_
    refine Goes.via (fun _ kk_ => XS.ifnonnullNo X70.here hx rfl (hb hby at_293) rfl kk_) ?_
    show Goes p e below _ (T70.setTop (mkF m 296 (own_n8 x0 x1 x2 x3 ra rb bp x_ dg mk ov av bv rw_ cl b1 b4 b12 b22 b34) []))
    refine gIC (z := 1) X70 hx hby at_296 rfl ?_
    refine Goes.via (fun _ kk_ => XS.goto X70.here hx rfl (pc0 := 297) (pc' := 301) rfl (hb hby at_297) (by decide) (by decide) kk_) ?_
    show Goes p e below _ (T70.setTop (mkF m 301 (own_n8 x0 x1 x2 x3 ra rb bp x_ dg mk ov av bv rw_ cl b1 b4 b12 b22 b34) [(.int (1 : Int32))]))
    exact own_finN X70 hx hlk hret (by simp) (hb hby at_301) (by rw [e70']; exact ⟨rfl, NJ, KJ⟩) (by first | decide | omega | (dsimp only; omega)) (by first | decide | omega | (dsimp only; omega))
  have JA : ∀ (TJ : State) (lcJ : List Loc), (Stand p l e room_1 s m #[(.int x0), (.int x1), (.int x2), (.int x3), (.long ra), (.long rb)] below meth c TJ lcJ 20 200) → (Fr n0 lcJ) → (Keep h0 TJ.heap []) → (Exa Z TJ.heap b12 "nearhop/model/Id") → (Exa Z TJ.heap b22 "nearhop/model/Id") → ((¬ av = ov ∧ pA = nr ∧ cA = nc) ∧ ((¬ bv = ov ∧ pB = nr ∧ cB = nc) → ¬ (rb < ra ∨ (rb = ra ∧ bv < av)))) → Goes p e below (Fin_ s (Qrm0 Z x0 x1 x2 x3 ra rb h0 n0) room_1.cells room_1.slots) (TJ.setTop (mkF m 180 (own_lA x0 x1 x2 x3 ra rb bp x_ dg mk ov av bv rw_ cl b1 b4 b12 b22 b34) [])) := by
    intro TJ lcJ XJ NJ KJ fj0 fj1 hJ
    show Goes p e below _ (TJ.setTop (mkF m 180 (own_lA x0 x1 x2 x3 ra rb bp x_ dg mk ov av bv rw_ cl b1 b4 b12 b22 b34) []))
    refine gIL XJ hx hby at_180 rfl ?_
    refine gIL XJ hx hby at_182 rfl ?_
    refine gIL XJ hx hby at_184 rfl ?_
    refine gIL XJ hx hby at_186 rfl ?_
    refine gIL XJ hx hby at_188 rfl ?_
    refine gIL XJ hx hby at_190 rfl ?_
    obtain ⟨_, _, ⟨T74, L74, k74, n74⟩, -, X74, ⟨Lc74, hQ74, l74, y74, z74⟩, st74⟩ := Jvm.LawKit.callS XJ hx (y := mN_RoutingTableGetPinLaw_fits) hown (mvT hZ (own_w hw 134 rfl)) (mvT hZ (own_w hw 135 rfl)) (mvT hZ (own_w hw 136 rfl)) (mvT hZ (own_w hw 137 rfl)) (by decide) (backOf (W := 0) (rm22 l Z a0 hw [] av ov rw_ cl dg bp TJ.heap n0 (Nat.le_trans Z0 KJ.1) ) hZ (own_w hw 137 rfl) (own_w hw 136 rfl) (by decide) (by decide)) (g := (mkF m 192 (own_lA x0 x1 x2 x3 ra rb bp x_ dg mk ov av bv rw_ cl b1 b4 b12 b22 b34) [(.int bp), (.int dg), (.int cl), (.int rw_), (.int ov), (.int av)])) rfl (by rw [hml]; rfl) (argsL := [(.int av), (.int ov), (.int rw_), (.int cl), (.int dg), (.int bp)]) (rest := []) (lenOf pd_15 rfl) rfl (by show 2 * 0 + _ ≤ _; exact Nat.le_of_eq rfl) (hb hby at_192) (fun _ _ => ⟨rfl, rfl, (by decide : 20 + 0 ≤ _), (by decide : 200 + 0 ≤ _)⟩)
    dsimp only [Pt.U, Pt.locs, Pt.cells, Pt.slots] at X74 l74 y74 z74 st74 hQ74
    replace l74 := l74.symm
    subst l74 y74 z74
    obtain ⟨rfl, rfl, e74⟩ := hQ74
    first | rw [List.append_nil] at X74 | skip
    refine Goes.via st74 ?_
    have e74' : T74.heap = TJ.heap := e74
    show Goes p e below _ (T74.setTop (mkF m 195 (own_lA x0 x1 x2 x3 ra rb bp x_ dg mk ov av bv rw_ cl b1 b4 b12 b22 b34) [(.int (own_fits av ov rw_ cl dg bp))]))
    refine Goes.via (fun _ kk_ => XS.istore X74.here hx rfl (hb hby at_195) rfl (l' := #[vi x0, vi x1, vi x2, vi x3, .val (.long ra), .second, .val (.long rb), .second, vi bp, vi x_, vi dg, vi (dg * bp), vi mk, vi ov, vi av, vi bv, vi rw_, vi cl, vr b1, vr b4, vr b12, vr b22, vr b34, vr b12, vi (own_fits av ov rw_ cl dg bp), .unset, .unset]) rfl kk_) ?_
    show Goes p e below _ (T74.setTop (mkF m 197 #[vi x0, vi x1, vi x2, vi x3, .val (.long ra), .second, .val (.long rb), .second, vi bp, vi x_, vi dg, vi (dg * bp), vi mk, vi ov, vi av, vi bv, vi rw_, vi cl, vr b1, vr b4, vr b12, vr b22, vr b34, vr b12, vi (own_fits av ov rw_ cl dg bp), .unset, .unset] []))
    show Goes p e below _ (T74.setTop (mkF m 197 (own_n10 x0 x1 x2 x3 ra rb bp x_ dg mk ov av bv rw_ cl b1 b4 b12 b22 b34) []))
    refine gIL X74 hx hby at_197 rfl ?_
    refine gIL X74 hx hby at_199 rfl ?_
    refine gIL X74 hx hby at_201 rfl ?_
    refine gIL X74 hx hby at_203 rfl ?_
    refine gIL X74 hx hby at_205 rfl ?_
    refine gIL X74 hx hby at_207 rfl ?_
    obtain ⟨_, _, ⟨T75, L75, k75, n75⟩, -, X75, ⟨Lc75, hQ75, l75, y75, z75⟩, st75⟩ := Jvm.LawKit.callS X74 hx (y := mN_RoutingTableGetPinLaw_fits) hown (mvT hZ (own_w hw 134 rfl)) (mvT hZ (own_w hw 135 rfl)) (mvT hZ (own_w hw 136 rfl)) (mvT hZ (own_w hw 137 rfl)) (by decide) (backOf (W := 0) (rm22 l Z a0 hw [] bv ov rw_ cl dg bp TJ.heap n0 (Nat.le_trans Z0 KJ.1) ) hZ (own_w hw 137 rfl) (own_w hw 136 rfl) (by decide) (by decide)) (g := (mkF m 209 (own_n10 x0 x1 x2 x3 ra rb bp x_ dg mk ov av bv rw_ cl b1 b4 b12 b22 b34) [(.int bp), (.int dg), (.int cl), (.int rw_), (.int ov), (.int bv)])) rfl (by rw [hml]; rfl) (argsL := [(.int bv), (.int ov), (.int rw_), (.int cl), (.int dg), (.int bp)]) (rest := []) (lenOf pd_15 rfl) rfl (by show 2 * 0 + _ ≤ _; exact Nat.le_of_eq rfl) (hb hby at_209) (fun _ _ => ⟨rfl, e74', (by decide : 20 + 0 ≤ _), (by decide : 200 + 0 ≤ _)⟩)
    dsimp only [Pt.U, Pt.locs, Pt.cells, Pt.slots] at X75 l75 y75 z75 st75 hQ75
    replace l75 := l75.symm
    subst l75 y75 z75
    obtain ⟨rfl, rfl, e75⟩ := hQ75
    first | rw [List.append_nil] at X75 | skip
    refine Goes.via st75 ?_
    have e75' : T75.heap = TJ.heap := e75
    show Goes p e below _ (T75.setTop (mkF m 212 (own_n10 x0 x1 x2 x3 ra rb bp x_ dg mk ov av bv rw_ cl b1 b4 b12 b22 b34) [(.int (own_fits bv ov rw_ cl dg bp))]))
    refine Goes.via (fun _ kk_ => XS.istore X75.here hx rfl (hb hby at_212) rfl (l' := #[vi x0, vi x1, vi x2, vi x3, .val (.long ra), .second, .val (.long rb), .second, vi bp, vi x_, vi dg, vi (dg * bp), vi mk, vi ov, vi av, vi bv, vi rw_, vi cl, vr b1, vr b4, vr b12, vr b22, vr b34, vr b12, vi (own_fits av ov rw_ cl dg bp), vi (own_fits bv ov rw_ cl dg bp), .unset]) rfl kk_) ?_
    show Goes p e below _ (T75.setTop (mkF m 214 #[vi x0, vi x1, vi x2, vi x3, .val (.long ra), .second, .val (.long rb), .second, vi bp, vi x_, vi dg, vi (dg * bp), vi mk, vi ov, vi av, vi bv, vi rw_, vi cl, vr b1, vr b4, vr b12, vr b22, vr b34, vr b12, vi (own_fits av ov rw_ cl dg bp), vi (own_fits bv ov rw_ cl dg bp), .unset] []))
    show Goes p e below _ (T75.setTop (mkF m 214 (own_n11 x0 x1 x2 x3 ra rb bp x_ dg mk ov av bv rw_ cl b1 b4 b12 b22 b34) []))
    by_cases hO : ¬ bv = ov ∧ pB = nr ∧ cB = nc
    · skip
      refine gIL X75 hx hby at_214 rfl ?_
      have hc216_76 : ¬ ((own_fits av ov rw_ cl dg bp) = (0 : Int32)) := (by rw [hfA, if_pos hJ.1]; decide)
      refine Goes.via (fun _ kk_ => XS.ifNo X75.here hx rfl (hb hby at_216) rfl ((if0 _ _).trans (feq hc216_76).1) kk_) ?_
      show Goes p e below _ (T75.setTop (mkF m 219 (own_n11 x0 x1 x2 x3 ra rb bp x_ dg mk ov av bv rw_ cl b1 b4 b12 b22 b34) []))
      refine gIL X75 hx hby at_219 rfl ?_
      have hc221_77 : ¬ ((own_fits bv ov rw_ cl dg bp) = (0 : Int32)) := (by rw [hfB, if_pos hO]; decide)
      refine Goes.via (fun _ kk_ => XS.ifNo X75.here hx rfl (hb hby at_221) rfl ((if0 _ _).trans (feq hc221_77).1) kk_) ?_
      show Goes p e below _ (T75.setTop (mkF m 224 (own_n11 x0 x1 x2 x3 ra rb bp x_ dg mk ov av bv rw_ cl b1 b4 b12 b22 b34) []))
      refine Goes.via (fun _ kk_ => XS.lload X75.here hx rfl (hb hby at_224) rfl  kk_) ?_
      show Goes p e below _ (T75.setTop (mkF m 226 (own_n11 x0 x1 x2 x3 ra rb bp x_ dg mk ov av bv rw_ cl b1 b4 b12 b22 b34) [(.long rb)]))
      refine Goes.via (fun _ kk_ => XS.lload X75.here hx rfl (hb hby at_226) rfl  kk_) ?_
      show Goes p e below _ (T75.setTop (mkF m 228 (own_n11 x0 x1 x2 x3 ra rb bp x_ dg mk ov av bv rw_ cl b1 b4 b12 b22 b34) [(.long ra), (.long rb)]))
      refine Goes.via (fun _ kk_ => XS.lcmp X75.here hx rfl (hb hby at_228) rfl kk_) ?_
      show Goes p e below _ (T75.setTop (mkF m 229 (own_n11 x0 x1 x2 x3 ra rb bp x_ dg mk ov av bv rw_ cl b1 b4 b12 b22 b34) [(.int (lcmpW rb ra))]))
      have hc229_78 : ¬ (rb < ra) := (fun z => (hJ.2 hO) (Or.inl z))
      refine Goes.via (fun _ kk_ => XS.ifNo X75.here hx rfl (hb hby at_229) rfl ((if0 _ _).trans (flt (fun q => hc229_78 ((lw_lt rb ra).mp q))).1) kk_) ?_
      show Goes p e below _ (T75.setTop (mkF m 232 (own_n11 x0 x1 x2 x3 ra rb bp x_ dg mk ov av bv rw_ cl b1 b4 b12 b22 b34) []))
      refine Goes.via (fun _ kk_ => XS.lload X75.here hx rfl (hb hby at_232) rfl  kk_) ?_
      show Goes p e below _ (T75.setTop (mkF m 234 (own_n11 x0 x1 x2 x3 ra rb bp x_ dg mk ov av bv rw_ cl b1 b4 b12 b22 b34) [(.long rb)]))
      refine Goes.via (fun _ kk_ => XS.lload X75.here hx rfl (hb hby at_234) rfl  kk_) ?_
      show Goes p e below _ (T75.setTop (mkF m 236 (own_n11 x0 x1 x2 x3 ra rb bp x_ dg mk ov av bv rw_ cl b1 b4 b12 b22 b34) [(.long ra), (.long rb)]))
      refine Goes.via (fun _ kk_ => XS.lcmp X75.here hx rfl (hb hby at_236) rfl kk_) ?_
      show Goes p e below _ (T75.setTop (mkF m 237 (own_n11 x0 x1 x2 x3 ra rb bp x_ dg mk ov av bv rw_ cl b1 b4 b12 b22 b34) [(.int (lcmpW rb ra))]))
      by_cases hc237 : rb = ra
      · skip
        refine Goes.via (fun _ kk_ => XS.ifNo X75.here hx rfl (hb hby at_237) rfl ((if0 _ _).trans (teq ((lw_eq rb ra).mpr hc237)).2) kk_) ?_
        show Goes p e below _ (T75.setTop (mkF m 240 (own_n11 x0 x1 x2 x3 ra rb bp x_ dg mk ov av bv rw_ cl b1 b4 b12 b22 b34) []))
        refine gIL X75 hx hby at_240 rfl ?_
        refine gIL X75 hx hby at_242 rfl ?_
        have hc244_79 : ¬ (bv < av) := (fun z => (hJ.2 hO) (Or.inr ⟨hc237, z⟩))
        refine Goes.via (fun _ kk_ => XS.icmpYes X75.here hx rfl (pc0 := 244) (pc' := 252) rfl (hb hby at_244) rfl (flt hc244_79).2.1 (by decide) (by decide) kk_) ?_
        show Goes p e below _ (T75.setTop (mkF m 252 (own_n11 x0 x1 x2 x3 ra rb bp x_ dg mk ov av bv rw_ cl b1 b4 b12 b22 b34) []))
        refine gAL X75 hx hby at_252 rfl rfl ?_
        refine Goes.via (fun _ kk_ => XS.astore X75.here hx rfl (hb hby at_254) rfl rfl (l' := #[vi x0, vi x1, vi x2, vi x3, .val (.long ra), .second, .val (.long rb), .second, vi bp, vi x_, vi dg, vi (dg * bp), vi mk, vi ov, vi av, vi bv, vi rw_, vi cl, vr b1, vr b4, vr b12, vr b22, vr b34, vr b12, vi (own_fits av ov rw_ cl dg bp), vi (own_fits bv ov rw_ cl dg bp), vr b12]) rfl kk_) ?_
        show Goes p e below _ (T75.setTop (mkF m 256 #[vi x0, vi x1, vi x2, vi x3, .val (.long ra), .second, .val (.long rb), .second, vi bp, vi x_, vi dg, vi (dg * bp), vi mk, vi ov, vi av, vi bv, vi rw_, vi cl, vr b1, vr b4, vr b12, vr b22, vr b34, vr b12, vi (own_fits av ov rw_ cl dg bp), vi (own_fits bv ov rw_ cl dg bp), vr b12] []))
        show Goes p e below _ (T75.setTop (mkF m 256 (own_n12 x0 x1 x2 x3 ra rb bp x_ dg mk ov av bv rw_ cl b1 b4 b12 b22 b34) []))
        refine Goes.via (fun _ kk_ => XS.goto X75.here hx rfl (pc0 := 256) (pc' := 286) rfl (hb hby at_256) (by decide) (by decide) kk_) ?_
        show Goes p e below _ (T75.setTop (mkF m 286 (own_n12 x0 x1 x2 x3 ra rb bp x_ dg mk ov av bv rw_ cl b1 b4 b12 b22 b34) []))
        refine gAL X75 hx hby at_286 rfl rfl ?_
        refine Goes.via (fun _ kk_ => XS.ifnonnullYes X75.here hx rfl (pc0 := 288) (pc' := 302) rfl (hb hby at_288) rfl (by decide) (by decide) kk_) ?_
        show Goes p e below _ (T75.setTop (mkF m 302 (own_n12 x0 x1 x2 x3 ra rb bp x_ dg mk ov av bv rw_ cl b1 b4 b12 b22 b34) []))
        refine gAL X75 hx hby at_302 rfl rfl ?_
        refine Goes.via (fun _ kk_ => XS.ifnullNo X75.here hx rfl (hb hby at_304) rfl kk_) ?_
        show Goes p e below _ (T75.setTop (mkF m 307 (own_n12 x0 x1 x2 x3 ra rb bp x_ dg mk ov av bv rw_ cl b1 b4 b12 b22 b34) []))
        refine gAL X75 hx hby at_307 rfl rfl ?_
        refine gAL X75 hx hby at_309 rfl rfl ?_
        obtain ⟨cq80, kq80, q80a, q80b, q80c⟩ := isOf hZ e75' fj0
        obtain ⟨_, _, ⟨T80, L80, k80, n80⟩, -, X80, ⟨Lc80, hQ80, l80, y80, z80⟩, st80⟩ := X75.virtualBack hx (y := mN_Id_equals) (z := mN_Id_equals) hown (mvT hZ (own_w hw 144 rfl)) (mvT hZ (own_w hw 88 rfl)) (notFace_of_selects (args := #[]) (mvT hZ (own_w hw 90 rfl))) (mvT hZ (own_w hw 90 rfl)) (mvT hZ (own_w hw 89 rfl)) (by decide) (backOf (W := 0) (rmEqS l Z a0 hw [] b12 TJ.heap n0 (Nat.le_trans Z0 KJ.1) ) hZ (own_w hw 91 rfl) (own_w hw 25 rfl) (by decide) (by decide)) q80a q80c (g := (mkF m 311 (own_n12 x0 x1 x2 x3 ra rb bp x_ dg mk ov av bv rw_ cl b1 b4 b12 b22 b34) [(.ref b12), (.ref b12)])) rfl (by rw [hml]; rfl) (Steps.refl _) (argsL := [(.ref b12)]) (rest := []) (lenOf pd_10 rfl) rfl (by show 2 * 0 + _ ≤ _; exact Nat.le_of_eq rfl) (hb hby at_311) (fun _ _ => ⟨rfl, e75', (by decide : 20 + 0 ≤ _), (by decide : 200 + 0 ≤ _)⟩)
        dsimp only [Pt.U, Pt.locs, Pt.cells, Pt.slots] at X80 l80 y80 z80 st80 hQ80
        replace l80 := l80.symm
        subst l80 y80 z80
        obtain ⟨rfl, rfl, e80⟩ := hQ80
        first | rw [List.append_nil] at X80 | skip
        refine Goes.tr st80 ?_
        have e80' : T80.heap = TJ.heap := e80
        show Goes p e below _ (T80.setTop (mkF m 314 (own_n12 x0 x1 x2 x3 ra rb bp x_ dg mk ov av bv rw_ cl b1 b4 b12 b22 b34) [(.int (1 : Int32))]))
        have hc314_81 : ¬ ((1 : Int32) = (0 : Int32)) := (by decide)
        refine Goes.via (fun _ kk_ => XS.ifNo X80.here hx rfl (hb hby at_314) rfl ((if0 _ _).trans (feq hc314_81).1) kk_) ?_
        show Goes p e below _ (T80.setTop (mkF m 317 (own_n12 x0 x1 x2 x3 ra rb bp x_ dg mk ov av bv rw_ cl b1 b4 b12 b22 b34) []))
        refine gIC (z := 1) X80 hx hby at_317 rfl ?_
        refine Goes.via (fun _ kk_ => XS.goto X80.here hx rfl (pc0 := 318) (pc' := 322) rfl (hb hby at_318) (by decide) (by decide) kk_) ?_
        show Goes p e below _ (T80.setTop (mkF m 322 (own_n12 x0 x1 x2 x3 ra rb bp x_ dg mk ov av bv rw_ cl b1 b4 b12 b22 b34) [(.int (1 : Int32))]))
        exact own_finN X80 hx hlk hret (by simp) (hb hby at_322) (by rw [e80']; exact ⟨rfl, NJ, KJ⟩) (by first | decide | omega | (dsimp only; omega)) (by first | decide | omega | (dsimp only; omega))
      · skip
        refine Goes.via (fun _ kk_ => XS.ifYes X75.here hx rfl (pc0 := 237) (pc' := 252) rfl (hb hby at_237) rfl ((if0 _ _).trans (feq (fun q => hc237 ((lw_eq rb ra).mp q))).2) (by decide) (by decide) kk_) ?_
        show Goes p e below _ (T75.setTop (mkF m 252 (own_n11 x0 x1 x2 x3 ra rb bp x_ dg mk ov av bv rw_ cl b1 b4 b12 b22 b34) []))
        refine gAL X75 hx hby at_252 rfl rfl ?_
        refine Goes.via (fun _ kk_ => XS.astore X75.here hx rfl (hb hby at_254) rfl rfl (l' := (own_n12 x0 x1 x2 x3 ra rb bp x_ dg mk ov av bv rw_ cl b1 b4 b12 b22 b34)) rfl kk_) ?_
        show Goes p e below _ (T75.setTop (mkF m 256 (own_n12 x0 x1 x2 x3 ra rb bp x_ dg mk ov av bv rw_ cl b1 b4 b12 b22 b34) []))
        refine Goes.via (fun _ kk_ => XS.goto X75.here hx rfl (pc0 := 256) (pc' := 286) rfl (hb hby at_256) (by decide) (by decide) kk_) ?_
        show Goes p e below _ (T75.setTop (mkF m 286 (own_n12 x0 x1 x2 x3 ra rb bp x_ dg mk ov av bv rw_ cl b1 b4 b12 b22 b34) []))
        refine gAL X75 hx hby at_286 rfl rfl ?_
        refine Goes.via (fun _ kk_ => XS.ifnonnullYes X75.here hx rfl (pc0 := 288) (pc' := 302) rfl (hb hby at_288) rfl (by decide) (by decide) kk_) ?_
        show Goes p e below _ (T75.setTop (mkF m 302 (own_n12 x0 x1 x2 x3 ra rb bp x_ dg mk ov av bv rw_ cl b1 b4 b12 b22 b34) []))
        refine gAL X75 hx hby at_302 rfl rfl ?_
        refine Goes.via (fun _ kk_ => XS.ifnullNo X75.here hx rfl (hb hby at_304) rfl kk_) ?_
        show Goes p e below _ (T75.setTop (mkF m 307 (own_n12 x0 x1 x2 x3 ra rb bp x_ dg mk ov av bv rw_ cl b1 b4 b12 b22 b34) []))
        refine gAL X75 hx hby at_307 rfl rfl ?_
        refine gAL X75 hx hby at_309 rfl rfl ?_
        obtain ⟨cq82, kq82, q82a, q82b, q82c⟩ := isOf hZ e75' fj0
        obtain ⟨_, _, ⟨T82, L82, k82, n82⟩, -, X82, ⟨Lc82, hQ82, l82, y82, z82⟩, st82⟩ := X75.virtualBack hx (y := mN_Id_equals) (z := mN_Id_equals) hown (mvT hZ (own_w hw 144 rfl)) (mvT hZ (own_w hw 88 rfl)) (notFace_of_selects (args := #[]) (mvT hZ (own_w hw 90 rfl))) (mvT hZ (own_w hw 90 rfl)) (mvT hZ (own_w hw 89 rfl)) (by decide) (backOf (W := 0) (rmEqS l Z a0 hw [] b12 TJ.heap n0 (Nat.le_trans Z0 KJ.1) ) hZ (own_w hw 91 rfl) (own_w hw 25 rfl) (by decide) (by decide)) q82a q82c (g := (mkF m 311 (own_n12 x0 x1 x2 x3 ra rb bp x_ dg mk ov av bv rw_ cl b1 b4 b12 b22 b34) [(.ref b12), (.ref b12)])) rfl (by rw [hml]; rfl) (Steps.refl _) (argsL := [(.ref b12)]) (rest := []) (lenOf pd_10 rfl) rfl (by show 2 * 0 + _ ≤ _; exact Nat.le_of_eq rfl) (hb hby at_311) (fun _ _ => ⟨rfl, e75', (by decide : 20 + 0 ≤ _), (by decide : 200 + 0 ≤ _)⟩)
        dsimp only [Pt.U, Pt.locs, Pt.cells, Pt.slots] at X82 l82 y82 z82 st82 hQ82
        replace l82 := l82.symm
        subst l82 y82 z82
        obtain ⟨rfl, rfl, e82⟩ := hQ82
        first | rw [List.append_nil] at X82 | skip
        refine Goes.tr st82 ?_
        have e82' : T82.heap = TJ.heap := e82
        show Goes p e below _ (T82.setTop (mkF m 314 (own_n12 x0 x1 x2 x3 ra rb bp x_ dg mk ov av bv rw_ cl b1 b4 b12 b22 b34) [(.int (1 : Int32))]))
        have hc314_83 : ¬ ((1 : Int32) = (0 : Int32)) := (by decide)
        refine Goes.via (fun _ kk_ => XS.ifNo X82.here hx rfl (hb hby at_314) rfl ((if0 _ _).trans (feq hc314_83).1) kk_) ?_
        show Goes p e below _ (T82.setTop (mkF m 317 (own_n12 x0 x1 x2 x3 ra rb bp x_ dg mk ov av bv rw_ cl b1 b4 b12 b22 b34) []))
        refine gIC (z := 1) X82 hx hby at_317 rfl ?_
        refine Goes.via (fun _ kk_ => XS.goto X82.here hx rfl (pc0 := 318) (pc' := 322) rfl (hb hby at_318) (by decide) (by decide) kk_) ?_
        show Goes p e below _ (T82.setTop (mkF m 322 (own_n12 x0 x1 x2 x3 ra rb bp x_ dg mk ov av bv rw_ cl b1 b4 b12 b22 b34) [(.int (1 : Int32))]))
        exact own_finN X82 hx hlk hret (by simp) (hb hby at_322) (by rw [e82']; exact ⟨rfl, NJ, KJ⟩) (by first | decide | omega | (dsimp only; omega)) (by first | decide | omega | (dsimp only; omega))
    · skip
      refine gIL X75 hx hby at_214 rfl ?_
      have hc216_84 : ¬ ((own_fits av ov rw_ cl dg bp) = (0 : Int32)) := (by rw [hfA, if_pos hJ.1]; decide)
      refine Goes.via (fun _ kk_ => XS.ifNo X75.here hx rfl (hb hby at_216) rfl ((if0 _ _).trans (feq hc216_84).1) kk_) ?_
      show Goes p e below _ (T75.setTop (mkF m 219 (own_n11 x0 x1 x2 x3 ra rb bp x_ dg mk ov av bv rw_ cl b1 b4 b12 b22 b34) []))
      refine gIL X75 hx hby at_219 rfl ?_
      have hc221_85 : (own_fits bv ov rw_ cl dg bp) = (0 : Int32) := (by rw [hfB, if_neg hO])
      refine Goes.via (fun _ kk_ => XS.ifYes X75.here hx rfl (pc0 := 221) (pc' := 259) rfl (hb hby at_221) rfl ((if0 _ _).trans (teq hc221_85).1) (by decide) (by decide) kk_) ?_
      show Goes p e below _ (T75.setTop (mkF m 259 (own_n11 x0 x1 x2 x3 ra rb bp x_ dg mk ov av bv rw_ cl b1 b4 b12 b22 b34) []))
      refine gIL X75 hx hby at_259 rfl ?_
      have hc261_86 : ¬ ((own_fits av ov rw_ cl dg bp) = (0 : Int32)) := (by rw [hfA, if_pos hJ.1]; decide)
      refine Goes.via (fun _ kk_ => XS.ifNo X75.here hx rfl (hb hby at_261) rfl ((if0 _ _).trans (feq hc261_86).1) kk_) ?_
      show Goes p e below _ (T75.setTop (mkF m 264 (own_n11 x0 x1 x2 x3 ra rb bp x_ dg mk ov av bv rw_ cl b1 b4 b12 b22 b34) []))
      refine gAL X75 hx hby at_264 rfl rfl ?_
      refine Goes.via (fun _ kk_ => XS.astore X75.here hx rfl (hb hby at_266) rfl rfl (l' := (own_n12 x0 x1 x2 x3 ra rb bp x_ dg mk ov av bv rw_ cl b1 b4 b12 b22 b34)) rfl kk_) ?_
      show Goes p e below _ (T75.setTop (mkF m 268 (own_n12 x0 x1 x2 x3 ra rb bp x_ dg mk ov av bv rw_ cl b1 b4 b12 b22 b34) []))
      refine Goes.via (fun _ kk_ => XS.goto X75.here hx rfl (pc0 := 268) (pc' := 286) rfl (hb hby at_268) (by decide) (by decide) kk_) ?_
      show Goes p e below _ (T75.setTop (mkF m 286 (own_n12 x0 x1 x2 x3 ra rb bp x_ dg mk ov av bv rw_ cl b1 b4 b12 b22 b34) []))
      refine gAL X75 hx hby at_286 rfl rfl ?_
      refine Goes.via (fun _ kk_ => XS.ifnonnullYes X75.here hx rfl (pc0 := 288) (pc' := 302) rfl (hb hby at_288) rfl (by decide) (by decide) kk_) ?_
      show Goes p e below _ (T75.setTop (mkF m 302 (own_n12 x0 x1 x2 x3 ra rb bp x_ dg mk ov av bv rw_ cl b1 b4 b12 b22 b34) []))
      refine gAL X75 hx hby at_302 rfl rfl ?_
      refine Goes.via (fun _ kk_ => XS.ifnullNo X75.here hx rfl (hb hby at_304) rfl kk_) ?_
      show Goes p e below _ (T75.setTop (mkF m 307 (own_n12 x0 x1 x2 x3 ra rb bp x_ dg mk ov av bv rw_ cl b1 b4 b12 b22 b34) []))
      refine gAL X75 hx hby at_307 rfl rfl ?_
      refine gAL X75 hx hby at_309 rfl rfl ?_
      obtain ⟨cq87, kq87, q87a, q87b, q87c⟩ := isOf hZ e75' fj0
      obtain ⟨_, _, ⟨T87, L87, k87, n87⟩, -, X87, ⟨Lc87, hQ87, l87, y87, z87⟩, st87⟩ := X75.virtualBack hx (y := mN_Id_equals) (z := mN_Id_equals) hown (mvT hZ (own_w hw 144 rfl)) (mvT hZ (own_w hw 88 rfl)) (notFace_of_selects (args := #[]) (mvT hZ (own_w hw 90 rfl))) (mvT hZ (own_w hw 90 rfl)) (mvT hZ (own_w hw 89 rfl)) (by decide) (backOf (W := 0) (rmEqS l Z a0 hw [] b12 TJ.heap n0 (Nat.le_trans Z0 KJ.1) ) hZ (own_w hw 91 rfl) (own_w hw 25 rfl) (by decide) (by decide)) q87a q87c (g := (mkF m 311 (own_n12 x0 x1 x2 x3 ra rb bp x_ dg mk ov av bv rw_ cl b1 b4 b12 b22 b34) [(.ref b12), (.ref b12)])) rfl (by rw [hml]; rfl) (Steps.refl _) (argsL := [(.ref b12)]) (rest := []) (lenOf pd_10 rfl) rfl (by show 2 * 0 + _ ≤ _; exact Nat.le_of_eq rfl) (hb hby at_311) (fun _ _ => ⟨rfl, e75', (by decide : 20 + 0 ≤ _), (by decide : 200 + 0 ≤ _)⟩)
      dsimp only [Pt.U, Pt.locs, Pt.cells, Pt.slots] at X87 l87 y87 z87 st87 hQ87
      replace l87 := l87.symm
      subst l87 y87 z87
      obtain ⟨rfl, rfl, e87⟩ := hQ87
      first | rw [List.append_nil] at X87 | skip
      refine Goes.tr st87 ?_
      have e87' : T87.heap = TJ.heap := e87
      show Goes p e below _ (T87.setTop (mkF m 314 (own_n12 x0 x1 x2 x3 ra rb bp x_ dg mk ov av bv rw_ cl b1 b4 b12 b22 b34) [(.int (1 : Int32))]))
      have hc314_88 : ¬ ((1 : Int32) = (0 : Int32)) := (by decide)
      refine Goes.via (fun _ kk_ => XS.ifNo X87.here hx rfl (hb hby at_314) rfl ((if0 _ _).trans (feq hc314_88).1) kk_) ?_
      show Goes p e below _ (T87.setTop (mkF m 317 (own_n12 x0 x1 x2 x3 ra rb bp x_ dg mk ov av bv rw_ cl b1 b4 b12 b22 b34) []))
      refine gIC (z := 1) X87 hx hby at_317 rfl ?_
      refine Goes.via (fun _ kk_ => XS.goto X87.here hx rfl (pc0 := 318) (pc' := 322) rfl (hb hby at_318) (by decide) (by decide) kk_) ?_
      show Goes p e below _ (T87.setTop (mkF m 322 (own_n12 x0 x1 x2 x3 ra rb bp x_ dg mk ov av bv rw_ cl b1 b4 b12 b22 b34) [(.int (1 : Int32))]))
      exact own_finN X87 hx hlk hret (by simp) (hb hby at_322) (by rw [e87']; exact ⟨rfl, NJ, KJ⟩) (by first | decide | omega | (dsimp only; omega)) (by first | decide | omega | (dsimp only; omega))
  have JB : ∀ (TJ : State) (lcJ : List Loc), (Stand p l e room_1 s m #[(.int x0), (.int x1), (.int x2), (.int x3), (.long ra), (.long rb)] below meth c TJ lcJ 20 200) → (Fr n0 lcJ) → (Keep h0 TJ.heap []) → (Exa Z TJ.heap b12 "nearhop/model/Id") → (Exa Z TJ.heap b22 "nearhop/model/Id") → ((¬ bv = ov ∧ pB = nr ∧ cB = nc) ∧ ((¬ av = ov ∧ pA = nr ∧ cA = nc) → (rb < ra ∨ (rb = ra ∧ bv < av)))) → Goes p e below (Fin_ s (Qrm0 Z x0 x1 x2 x3 ra rb h0 n0) room_1.cells room_1.slots) (TJ.setTop (mkF m 180 (own_lB x0 x1 x2 x3 ra rb bp x_ dg mk ov av bv rw_ cl b1 b4 b12 b22 b34) [])) := by
    intro TJ lcJ XJ NJ KJ fj0 fj1 hJ
    show Goes p e below _ (TJ.setTop (mkF m 180 (own_lB x0 x1 x2 x3 ra rb bp x_ dg mk ov av bv rw_ cl b1 b4 b12 b22 b34) []))
    refine gIL XJ hx hby at_180 rfl ?_
    refine gIL XJ hx hby at_182 rfl ?_
    refine gIL XJ hx hby at_184 rfl ?_
    refine gIL XJ hx hby at_186 rfl ?_
    refine gIL XJ hx hby at_188 rfl ?_
    refine gIL XJ hx hby at_190 rfl ?_
    obtain ⟨_, _, ⟨T89, L89, k89, n89⟩, -, X89, ⟨Lc89, hQ89, l89, y89, z89⟩, st89⟩ := Jvm.LawKit.callS XJ hx (y := mN_RoutingTableGetPinLaw_fits) hown (mvT hZ (own_w hw 134 rfl)) (mvT hZ (own_w hw 135 rfl)) (mvT hZ (own_w hw 136 rfl)) (mvT hZ (own_w hw 137 rfl)) (by decide) (backOf (W := 0) (rm22 l Z a0 hw [] av ov rw_ cl dg bp TJ.heap n0 (Nat.le_trans Z0 KJ.1) ) hZ (own_w hw 137 rfl) (own_w hw 136 rfl) (by decide) (by decide)) (g := (mkF m 192 (own_lB x0 x1 x2 x3 ra rb bp x_ dg mk ov av bv rw_ cl b1 b4 b12 b22 b34) [(.int bp), (.int dg), (.int cl), (.int rw_), (.int ov), (.int av)])) rfl (by rw [hml]; rfl) (argsL := [(.int av), (.int ov), (.int rw_), (.int cl), (.int dg), (.int bp)]) (rest := []) (lenOf pd_15 rfl) rfl (by show 2 * 0 + _ ≤ _; exact Nat.le_of_eq rfl) (hb hby at_192) (fun _ _ => ⟨rfl, rfl, (by decide : 20 + 0 ≤ _), (by decide : 200 + 0 ≤ _)⟩)
    dsimp only [Pt.U, Pt.locs, Pt.cells, Pt.slots] at X89 l89 y89 z89 st89 hQ89
    replace l89 := l89.symm
    subst l89 y89 z89
    obtain ⟨rfl, rfl, e89⟩ := hQ89
    first | rw [List.append_nil] at X89 | skip
    refine Goes.via st89 ?_
    have e89' : T89.heap = TJ.heap := e89
    show Goes p e below _ (T89.setTop (mkF m 195 (own_lB x0 x1 x2 x3 ra rb bp x_ dg mk ov av bv rw_ cl b1 b4 b12 b22 b34) [(.int (own_fits av ov rw_ cl dg bp))]))
    refine Goes.via (fun _ kk_ => XS.istore X89.here hx rfl (hb hby at_195) rfl (l' := #[vi x0, vi x1, vi x2, vi x3, .val (.long ra), .second, .val (.long rb), .second, vi bp, vi x_, vi dg, vi (dg * bp), vi mk, vi ov, vi av, vi bv, vi rw_, vi cl, vr b1, vr b4, vr b12, vr b22, vr b34, vr b22, vi (own_fits av ov rw_ cl dg bp), .unset, .unset]) rfl kk_) ?_
    show Goes p e below _ (T89.setTop (mkF m 197 #[vi x0, vi x1, vi x2, vi x3, .val (.long ra), .second, .val (.long rb), .second, vi bp, vi x_, vi dg, vi (dg * bp), vi mk, vi ov, vi av, vi bv, vi rw_, vi cl, vr b1, vr b4, vr b12, vr b22, vr b34, vr b22, vi (own_fits av ov rw_ cl dg bp), .unset, .unset] []))
    show Goes p e below _ (T89.setTop (mkF m 197 (own_n14 x0 x1 x2 x3 ra rb bp x_ dg mk ov av bv rw_ cl b1 b4 b12 b22 b34) []))
    refine gIL X89 hx hby at_197 rfl ?_
    refine gIL X89 hx hby at_199 rfl ?_
    refine gIL X89 hx hby at_201 rfl ?_
    refine gIL X89 hx hby at_203 rfl ?_
    refine gIL X89 hx hby at_205 rfl ?_
    refine gIL X89 hx hby at_207 rfl ?_
    obtain ⟨_, _, ⟨T90, L90, k90, n90⟩, -, X90, ⟨Lc90, hQ90, l90, y90, z90⟩, st90⟩ := Jvm.LawKit.callS X89 hx (y := mN_RoutingTableGetPinLaw_fits) hown (mvT hZ (own_w hw 134 rfl)) (mvT hZ (own_w hw 135 rfl)) (mvT hZ (own_w hw 136 rfl)) (mvT hZ (own_w hw 137 rfl)) (by decide) (backOf (W := 0) (rm22 l Z a0 hw [] bv ov rw_ cl dg bp TJ.heap n0 (Nat.le_trans Z0 KJ.1) ) hZ (own_w hw 137 rfl) (own_w hw 136 rfl) (by decide) (by decide)) (g := (mkF m 209 (own_n14 x0 x1 x2 x3 ra rb bp x_ dg mk ov av bv rw_ cl b1 b4 b12 b22 b34) [(.int bp), (.int dg), (.int cl), (.int rw_), (.int ov), (.int bv)])) rfl (by rw [hml]; rfl) (argsL := [(.int bv), (.int ov), (.int rw_), (.int cl), (.int dg), (.int bp)]) (rest := []) (lenOf pd_15 rfl) rfl (by show 2 * 0 + _ ≤ _; exact Nat.le_of_eq rfl) (hb hby at_209) (fun _ _ => ⟨rfl, e89', (by decide : 20 + 0 ≤ _), (by decide : 200 + 0 ≤ _)⟩)
    dsimp only [Pt.U, Pt.locs, Pt.cells, Pt.slots] at X90 l90 y90 z90 st90 hQ90
    replace l90 := l90.symm
    subst l90 y90 z90
    obtain ⟨rfl, rfl, e90⟩ := hQ90
    first | rw [List.append_nil] at X90 | skip
    refine Goes.via st90 ?_
    have e90' : T90.heap = TJ.heap := e90
    show Goes p e below _ (T90.setTop (mkF m 212 (own_n14 x0 x1 x2 x3 ra rb bp x_ dg mk ov av bv rw_ cl b1 b4 b12 b22 b34) [(.int (own_fits bv ov rw_ cl dg bp))]))
    refine Goes.via (fun _ kk_ => XS.istore X90.here hx rfl (hb hby at_212) rfl (l' := #[vi x0, vi x1, vi x2, vi x3, .val (.long ra), .second, .val (.long rb), .second, vi bp, vi x_, vi dg, vi (dg * bp), vi mk, vi ov, vi av, vi bv, vi rw_, vi cl, vr b1, vr b4, vr b12, vr b22, vr b34, vr b22, vi (own_fits av ov rw_ cl dg bp), vi (own_fits bv ov rw_ cl dg bp), .unset]) rfl kk_) ?_
    show Goes p e below _ (T90.setTop (mkF m 214 #[vi x0, vi x1, vi x2, vi x3, .val (.long ra), .second, .val (.long rb), .second, vi bp, vi x_, vi dg, vi (dg * bp), vi mk, vi ov, vi av, vi bv, vi rw_, vi cl, vr b1, vr b4, vr b12, vr b22, vr b34, vr b22, vi (own_fits av ov rw_ cl dg bp), vi (own_fits bv ov rw_ cl dg bp), .unset] []))
    show Goes p e below _ (T90.setTop (mkF m 214 (own_n15 x0 x1 x2 x3 ra rb bp x_ dg mk ov av bv rw_ cl b1 b4 b12 b22 b34) []))
    by_cases hO : ¬ av = ov ∧ pA = nr ∧ cA = nc
    · skip
      refine gIL X90 hx hby at_214 rfl ?_
      have hc216_91 : ¬ ((own_fits av ov rw_ cl dg bp) = (0 : Int32)) := (by rw [hfA, if_pos hO]; decide)
      refine Goes.via (fun _ kk_ => XS.ifNo X90.here hx rfl (hb hby at_216) rfl ((if0 _ _).trans (feq hc216_91).1) kk_) ?_
      show Goes p e below _ (T90.setTop (mkF m 219 (own_n15 x0 x1 x2 x3 ra rb bp x_ dg mk ov av bv rw_ cl b1 b4 b12 b22 b34) []))
      refine gIL X90 hx hby at_219 rfl ?_
      have hc221_92 : ¬ ((own_fits bv ov rw_ cl dg bp) = (0 : Int32)) := (by rw [hfB, if_pos hJ.1]; decide)
      refine Goes.via (fun _ kk_ => XS.ifNo X90.here hx rfl (hb hby at_221) rfl ((if0 _ _).trans (feq hc221_92).1) kk_) ?_
      show Goes p e below _ (T90.setTop (mkF m 224 (own_n15 x0 x1 x2 x3 ra rb bp x_ dg mk ov av bv rw_ cl b1 b4 b12 b22 b34) []))
      refine Goes.via (fun _ kk_ => XS.lload X90.here hx rfl (hb hby at_224) rfl  kk_) ?_
      show Goes p e below _ (T90.setTop (mkF m 226 (own_n15 x0 x1 x2 x3 ra rb bp x_ dg mk ov av bv rw_ cl b1 b4 b12 b22 b34) [(.long rb)]))
      refine Goes.via (fun _ kk_ => XS.lload X90.here hx rfl (hb hby at_226) rfl  kk_) ?_
      show Goes p e below _ (T90.setTop (mkF m 228 (own_n15 x0 x1 x2 x3 ra rb bp x_ dg mk ov av bv rw_ cl b1 b4 b12 b22 b34) [(.long ra), (.long rb)]))
      refine Goes.via (fun _ kk_ => XS.lcmp X90.here hx rfl (hb hby at_228) rfl kk_) ?_
      show Goes p e below _ (T90.setTop (mkF m 229 (own_n15 x0 x1 x2 x3 ra rb bp x_ dg mk ov av bv rw_ cl b1 b4 b12 b22 b34) [(.int (lcmpW rb ra))]))
      by_cases hc229 : rb < ra
      · skip
        refine Goes.via (fun _ kk_ => XS.ifYes X90.here hx rfl (pc0 := 229) (pc' := 247) rfl (hb hby at_229) rfl ((if0 _ _).trans (tlt ((lw_lt rb ra).mpr hc229)).1) (by decide) (by decide) kk_) ?_
        show Goes p e below _ (T90.setTop (mkF m 247 (own_n15 x0 x1 x2 x3 ra rb bp x_ dg mk ov av bv rw_ cl b1 b4 b12 b22 b34) []))
        refine gAL X90 hx hby at_247 rfl rfl ?_
        refine Goes.via (fun _ kk_ => XS.goto X90.here hx rfl (pc0 := 249) (pc' := 254) rfl (hb hby at_249) (by decide) (by decide) kk_) ?_
        show Goes p e below _ (T90.setTop (mkF m 254 (own_n15 x0 x1 x2 x3 ra rb bp x_ dg mk ov av bv rw_ cl b1 b4 b12 b22 b34) [(.ref b22)]))
        refine Goes.via (fun _ kk_ => XS.astore X90.here hx rfl (hb hby at_254) rfl rfl (l' := #[vi x0, vi x1, vi x2, vi x3, .val (.long ra), .second, .val (.long rb), .second, vi bp, vi x_, vi dg, vi (dg * bp), vi mk, vi ov, vi av, vi bv, vi rw_, vi cl, vr b1, vr b4, vr b12, vr b22, vr b34, vr b22, vi (own_fits av ov rw_ cl dg bp), vi (own_fits bv ov rw_ cl dg bp), vr b22]) rfl kk_) ?_
        show Goes p e below _ (T90.setTop (mkF m 256 #[vi x0, vi x1, vi x2, vi x3, .val (.long ra), .second, .val (.long rb), .second, vi bp, vi x_, vi dg, vi (dg * bp), vi mk, vi ov, vi av, vi bv, vi rw_, vi cl, vr b1, vr b4, vr b12, vr b22, vr b34, vr b22, vi (own_fits av ov rw_ cl dg bp), vi (own_fits bv ov rw_ cl dg bp), vr b22] []))
        show Goes p e below _ (T90.setTop (mkF m 256 (own_n16 x0 x1 x2 x3 ra rb bp x_ dg mk ov av bv rw_ cl b1 b4 b12 b22 b34) []))
        refine Goes.via (fun _ kk_ => XS.goto X90.here hx rfl (pc0 := 256) (pc' := 286) rfl (hb hby at_256) (by decide) (by decide) kk_) ?_
        show Goes p e below _ (T90.setTop (mkF m 286 (own_n16 x0 x1 x2 x3 ra rb bp x_ dg mk ov av bv rw_ cl b1 b4 b12 b22 b34) []))
        refine gAL X90 hx hby at_286 rfl rfl ?_
        refine Goes.via (fun _ kk_ => XS.ifnonnullYes X90.here hx rfl (pc0 := 288) (pc' := 302) rfl (hb hby at_288) rfl (by decide) (by decide) kk_) ?_
        show Goes p e below _ (T90.setTop (mkF m 302 (own_n16 x0 x1 x2 x3 ra rb bp x_ dg mk ov av bv rw_ cl b1 b4 b12 b22 b34) []))
        refine gAL X90 hx hby at_302 rfl rfl ?_
        refine Goes.via (fun _ kk_ => XS.ifnullNo X90.here hx rfl (hb hby at_304) rfl kk_) ?_
        show Goes p e below _ (T90.setTop (mkF m 307 (own_n16 x0 x1 x2 x3 ra rb bp x_ dg mk ov av bv rw_ cl b1 b4 b12 b22 b34) []))
        refine gAL X90 hx hby at_307 rfl rfl ?_
        refine gAL X90 hx hby at_309 rfl rfl ?_
        obtain ⟨cq93, kq93, q93a, q93b, q93c⟩ := isOf hZ e90' fj1
        obtain ⟨_, _, ⟨T93, L93, k93, n93⟩, -, X93, ⟨Lc93, hQ93, l93, y93, z93⟩, st93⟩ := X90.virtualBack hx (y := mN_Id_equals) (z := mN_Id_equals) hown (mvT hZ (own_w hw 144 rfl)) (mvT hZ (own_w hw 88 rfl)) (notFace_of_selects (args := #[]) (mvT hZ (own_w hw 90 rfl))) (mvT hZ (own_w hw 90 rfl)) (mvT hZ (own_w hw 89 rfl)) (by decide) (backOf (W := 0) (rmEqS l Z a0 hw [] b22 TJ.heap n0 (Nat.le_trans Z0 KJ.1) ) hZ (own_w hw 91 rfl) (own_w hw 25 rfl) (by decide) (by decide)) q93a q93c (g := (mkF m 311 (own_n16 x0 x1 x2 x3 ra rb bp x_ dg mk ov av bv rw_ cl b1 b4 b12 b22 b34) [(.ref b22), (.ref b22)])) rfl (by rw [hml]; rfl) (Steps.refl _) (argsL := [(.ref b22)]) (rest := []) (lenOf pd_10 rfl) rfl (by show 2 * 0 + _ ≤ _; exact Nat.le_of_eq rfl) (hb hby at_311) (fun _ _ => ⟨rfl, e90', (by decide : 20 + 0 ≤ _), (by decide : 200 + 0 ≤ _)⟩)
        dsimp only [Pt.U, Pt.locs, Pt.cells, Pt.slots] at X93 l93 y93 z93 st93 hQ93
        replace l93 := l93.symm
        subst l93 y93 z93
        obtain ⟨rfl, rfl, e93⟩ := hQ93
        first | rw [List.append_nil] at X93 | skip
        refine Goes.tr st93 ?_
        have e93' : T93.heap = TJ.heap := e93
        show Goes p e below _ (T93.setTop (mkF m 314 (own_n16 x0 x1 x2 x3 ra rb bp x_ dg mk ov av bv rw_ cl b1 b4 b12 b22 b34) [(.int (1 : Int32))]))
        have hc314_94 : ¬ ((1 : Int32) = (0 : Int32)) := (by decide)
        refine Goes.via (fun _ kk_ => XS.ifNo X93.here hx rfl (hb hby at_314) rfl ((if0 _ _).trans (feq hc314_94).1) kk_) ?_
        show Goes p e below _ (T93.setTop (mkF m 317 (own_n16 x0 x1 x2 x3 ra rb bp x_ dg mk ov av bv rw_ cl b1 b4 b12 b22 b34) []))
        refine gIC (z := 1) X93 hx hby at_317 rfl ?_
        refine Goes.via (fun _ kk_ => XS.goto X93.here hx rfl (pc0 := 318) (pc' := 322) rfl (hb hby at_318) (by decide) (by decide) kk_) ?_
        show Goes p e below _ (T93.setTop (mkF m 322 (own_n16 x0 x1 x2 x3 ra rb bp x_ dg mk ov av bv rw_ cl b1 b4 b12 b22 b34) [(.int (1 : Int32))]))
        exact own_finN X93 hx hlk hret (by simp) (hb hby at_322) (by rw [e93']; exact ⟨rfl, NJ, KJ⟩) (by first | decide | omega | (dsimp only; omega)) (by first | decide | omega | (dsimp only; omega))
      · skip
        refine Goes.via (fun _ kk_ => XS.ifNo X90.here hx rfl (hb hby at_229) rfl ((if0 _ _).trans (flt (fun q => hc229 ((lw_lt rb ra).mp q))).1) kk_) ?_
        show Goes p e below _ (T90.setTop (mkF m 232 (own_n15 x0 x1 x2 x3 ra rb bp x_ dg mk ov av bv rw_ cl b1 b4 b12 b22 b34) []))
        refine Goes.via (fun _ kk_ => XS.lload X90.here hx rfl (hb hby at_232) rfl  kk_) ?_
        show Goes p e below _ (T90.setTop (mkF m 234 (own_n15 x0 x1 x2 x3 ra rb bp x_ dg mk ov av bv rw_ cl b1 b4 b12 b22 b34) [(.long rb)]))
        refine Goes.via (fun _ kk_ => XS.lload X90.here hx rfl (hb hby at_234) rfl  kk_) ?_
        show Goes p e below _ (T90.setTop (mkF m 236 (own_n15 x0 x1 x2 x3 ra rb bp x_ dg mk ov av bv rw_ cl b1 b4 b12 b22 b34) [(.long ra), (.long rb)]))
        refine Goes.via (fun _ kk_ => XS.lcmp X90.here hx rfl (hb hby at_236) rfl kk_) ?_
        show Goes p e below _ (T90.setTop (mkF m 237 (own_n15 x0 x1 x2 x3 ra rb bp x_ dg mk ov av bv rw_ cl b1 b4 b12 b22 b34) [(.int (lcmpW rb ra))]))
        have hc237_95 : rb = ra := ((hJ.2 hO).resolve_left hc229).1
        refine Goes.via (fun _ kk_ => XS.ifNo X90.here hx rfl (hb hby at_237) rfl ((if0 _ _).trans (teq ((lw_eq rb ra).mpr hc237_95)).2) kk_) ?_
        show Goes p e below _ (T90.setTop (mkF m 240 (own_n15 x0 x1 x2 x3 ra rb bp x_ dg mk ov av bv rw_ cl b1 b4 b12 b22 b34) []))
        refine gIL X90 hx hby at_240 rfl ?_
        refine gIL X90 hx hby at_242 rfl ?_
        have hc244_96 : bv < av := ((hJ.2 hO).resolve_left hc229).2
        refine Goes.via (fun _ kk_ => XS.icmpNo X90.here hx rfl (hb hby at_244) rfl (tlt hc244_96).2.1 kk_) ?_
        show Goes p e below _ (T90.setTop (mkF m 247 (own_n15 x0 x1 x2 x3 ra rb bp x_ dg mk ov av bv rw_ cl b1 b4 b12 b22 b34) []))
        refine gAL X90 hx hby at_247 rfl rfl ?_
        refine Goes.via (fun _ kk_ => XS.goto X90.here hx rfl (pc0 := 249) (pc' := 254) rfl (hb hby at_249) (by decide) (by decide) kk_) ?_
        show Goes p e below _ (T90.setTop (mkF m 254 (own_n15 x0 x1 x2 x3 ra rb bp x_ dg mk ov av bv rw_ cl b1 b4 b12 b22 b34) [(.ref b22)]))
        refine Goes.via (fun _ kk_ => XS.astore X90.here hx rfl (hb hby at_254) rfl rfl (l' := (own_n16 x0 x1 x2 x3 ra rb bp x_ dg mk ov av bv rw_ cl b1 b4 b12 b22 b34)) rfl kk_) ?_
        show Goes p e below _ (T90.setTop (mkF m 256 (own_n16 x0 x1 x2 x3 ra rb bp x_ dg mk ov av bv rw_ cl b1 b4 b12 b22 b34) []))
        refine Goes.via (fun _ kk_ => XS.goto X90.here hx rfl (pc0 := 256) (pc' := 286) rfl (hb hby at_256) (by decide) (by decide) kk_) ?_
        show Goes p e below _ (T90.setTop (mkF m 286 (own_n16 x0 x1 x2 x3 ra rb bp x_ dg mk ov av bv rw_ cl b1 b4 b12 b22 b34) []))
        refine gAL X90 hx hby at_286 rfl rfl ?_
        refine Goes.via (fun _ kk_ => XS.ifnonnullYes X90.here hx rfl (pc0 := 288) (pc' := 302) rfl (hb hby at_288) rfl (by decide) (by decide) kk_) ?_
        show Goes p e below _ (T90.setTop (mkF m 302 (own_n16 x0 x1 x2 x3 ra rb bp x_ dg mk ov av bv rw_ cl b1 b4 b12 b22 b34) []))
        refine gAL X90 hx hby at_302 rfl rfl ?_
        refine Goes.via (fun _ kk_ => XS.ifnullNo X90.here hx rfl (hb hby at_304) rfl kk_) ?_
        show Goes p e below _ (T90.setTop (mkF m 307 (own_n16 x0 x1 x2 x3 ra rb bp x_ dg mk ov av bv rw_ cl b1 b4 b12 b22 b34) []))
        refine gAL X90 hx hby at_307 rfl rfl ?_
        refine gAL X90 hx hby at_309 rfl rfl ?_
        obtain ⟨cq97, kq97, q97a, q97b, q97c⟩ := isOf hZ e90' fj1
        obtain ⟨_, _, ⟨T97, L97, k97, n97⟩, -, X97, ⟨Lc97, hQ97, l97, y97, z97⟩, st97⟩ := X90.virtualBack hx (y := mN_Id_equals) (z := mN_Id_equals) hown (mvT hZ (own_w hw 144 rfl)) (mvT hZ (own_w hw 88 rfl)) (notFace_of_selects (args := #[]) (mvT hZ (own_w hw 90 rfl))) (mvT hZ (own_w hw 90 rfl)) (mvT hZ (own_w hw 89 rfl)) (by decide) (backOf (W := 0) (rmEqS l Z a0 hw [] b22 TJ.heap n0 (Nat.le_trans Z0 KJ.1) ) hZ (own_w hw 91 rfl) (own_w hw 25 rfl) (by decide) (by decide)) q97a q97c (g := (mkF m 311 (own_n16 x0 x1 x2 x3 ra rb bp x_ dg mk ov av bv rw_ cl b1 b4 b12 b22 b34) [(.ref b22), (.ref b22)])) rfl (by rw [hml]; rfl) (Steps.refl _) (argsL := [(.ref b22)]) (rest := []) (lenOf pd_10 rfl) rfl (by show 2 * 0 + _ ≤ _; exact Nat.le_of_eq rfl) (hb hby at_311) (fun _ _ => ⟨rfl, e90', (by decide : 20 + 0 ≤ _), (by decide : 200 + 0 ≤ _)⟩)
        dsimp only [Pt.U, Pt.locs, Pt.cells, Pt.slots] at X97 l97 y97 z97 st97 hQ97
        replace l97 := l97.symm
        subst l97 y97 z97
        obtain ⟨rfl, rfl, e97⟩ := hQ97
        first | rw [List.append_nil] at X97 | skip
        refine Goes.tr st97 ?_
        have e97' : T97.heap = TJ.heap := e97
        show Goes p e below _ (T97.setTop (mkF m 314 (own_n16 x0 x1 x2 x3 ra rb bp x_ dg mk ov av bv rw_ cl b1 b4 b12 b22 b34) [(.int (1 : Int32))]))
        have hc314_98 : ¬ ((1 : Int32) = (0 : Int32)) := (by decide)
        refine Goes.via (fun _ kk_ => XS.ifNo X97.here hx rfl (hb hby at_314) rfl ((if0 _ _).trans (feq hc314_98).1) kk_) ?_
        show Goes p e below _ (T97.setTop (mkF m 317 (own_n16 x0 x1 x2 x3 ra rb bp x_ dg mk ov av bv rw_ cl b1 b4 b12 b22 b34) []))
        refine gIC (z := 1) X97 hx hby at_317 rfl ?_
        refine Goes.via (fun _ kk_ => XS.goto X97.here hx rfl (pc0 := 318) (pc' := 322) rfl (hb hby at_318) (by decide) (by decide) kk_) ?_
        show Goes p e below _ (T97.setTop (mkF m 322 (own_n16 x0 x1 x2 x3 ra rb bp x_ dg mk ov av bv rw_ cl b1 b4 b12 b22 b34) [(.int (1 : Int32))]))
        exact own_finN X97 hx hlk hret (by simp) (hb hby at_322) (by rw [e97']; exact ⟨rfl, NJ, KJ⟩) (by first | decide | omega | (dsimp only; omega)) (by first | decide | omega | (dsimp only; omega))
    · skip
      refine gIL X90 hx hby at_214 rfl ?_
      have hc216_99 : (own_fits av ov rw_ cl dg bp) = (0 : Int32) := (by rw [hfA, if_neg hO])
      refine Goes.via (fun _ kk_ => XS.ifYes X90.here hx rfl (pc0 := 216) (pc' := 259) rfl (hb hby at_216) rfl ((if0 _ _).trans (teq hc216_99).1) (by decide) (by decide) kk_) ?_
      show Goes p e below _ (T90.setTop (mkF m 259 (own_n15 x0 x1 x2 x3 ra rb bp x_ dg mk ov av bv rw_ cl b1 b4 b12 b22 b34) []))
      refine gIL X90 hx hby at_259 rfl ?_
      have hc261_100 : (own_fits av ov rw_ cl dg bp) = (0 : Int32) := (by rw [hfA, if_neg hO])
      refine Goes.via (fun _ kk_ => XS.ifYes X90.here hx rfl (pc0 := 261) (pc' := 271) rfl (hb hby at_261) rfl ((if0 _ _).trans (teq hc261_100).1) (by decide) (by decide) kk_) ?_
      show Goes p e below _ (T90.setTop (mkF m 271 (own_n15 x0 x1 x2 x3 ra rb bp x_ dg mk ov av bv rw_ cl b1 b4 b12 b22 b34) []))
      refine gIL X90 hx hby at_271 rfl ?_
      have hc273_101 : ¬ ((own_fits bv ov rw_ cl dg bp) = (0 : Int32)) := (by rw [hfB, if_pos hJ.1]; decide)
      refine Goes.via (fun _ kk_ => XS.ifNo X90.here hx rfl (hb hby at_273) rfl ((if0 _ _).trans (feq hc273_101).1) kk_) ?_
      show Goes p e below _ (T90.setTop (mkF m 276 (own_n15 x0 x1 x2 x3 ra rb bp x_ dg mk ov av bv rw_ cl b1 b4 b12 b22 b34) []))
      refine gAL X90 hx hby at_276 rfl rfl ?_
      refine Goes.via (fun _ kk_ => XS.astore X90.here hx rfl (hb hby at_278) rfl rfl (l' := (own_n16 x0 x1 x2 x3 ra rb bp x_ dg mk ov av bv rw_ cl b1 b4 b12 b22 b34)) rfl kk_) ?_
      show Goes p e below _ (T90.setTop (mkF m 280 (own_n16 x0 x1 x2 x3 ra rb bp x_ dg mk ov av bv rw_ cl b1 b4 b12 b22 b34) []))
      refine Goes.via (fun _ kk_ => XS.goto X90.here hx rfl (pc0 := 280) (pc' := 286) rfl (hb hby at_280) (by decide) (by decide) kk_) ?_
      show Goes p e below _ (T90.setTop (mkF m 286 (own_n16 x0 x1 x2 x3 ra rb bp x_ dg mk ov av bv rw_ cl b1 b4 b12 b22 b34) []))
      refine gAL X90 hx hby at_286 rfl rfl ?_
      refine Goes.via (fun _ kk_ => XS.ifnonnullYes X90.here hx rfl (pc0 := 288) (pc' := 302) rfl (hb hby at_288) rfl (by decide) (by decide) kk_) ?_
      show Goes p e below _ (T90.setTop (mkF m 302 (own_n16 x0 x1 x2 x3 ra rb bp x_ dg mk ov av bv rw_ cl b1 b4 b12 b22 b34) []))
      refine gAL X90 hx hby at_302 rfl rfl ?_
      refine Goes.via (fun _ kk_ => XS.ifnullNo X90.here hx rfl (hb hby at_304) rfl kk_) ?_
      show Goes p e below _ (T90.setTop (mkF m 307 (own_n16 x0 x1 x2 x3 ra rb bp x_ dg mk ov av bv rw_ cl b1 b4 b12 b22 b34) []))
      refine gAL X90 hx hby at_307 rfl rfl ?_
      refine gAL X90 hx hby at_309 rfl rfl ?_
      obtain ⟨cq102, kq102, q102a, q102b, q102c⟩ := isOf hZ e90' fj1
      obtain ⟨_, _, ⟨T102, L102, k102, n102⟩, -, X102, ⟨Lc102, hQ102, l102, y102, z102⟩, st102⟩ := X90.virtualBack hx (y := mN_Id_equals) (z := mN_Id_equals) hown (mvT hZ (own_w hw 144 rfl)) (mvT hZ (own_w hw 88 rfl)) (notFace_of_selects (args := #[]) (mvT hZ (own_w hw 90 rfl))) (mvT hZ (own_w hw 90 rfl)) (mvT hZ (own_w hw 89 rfl)) (by decide) (backOf (W := 0) (rmEqS l Z a0 hw [] b22 TJ.heap n0 (Nat.le_trans Z0 KJ.1) ) hZ (own_w hw 91 rfl) (own_w hw 25 rfl) (by decide) (by decide)) q102a q102c (g := (mkF m 311 (own_n16 x0 x1 x2 x3 ra rb bp x_ dg mk ov av bv rw_ cl b1 b4 b12 b22 b34) [(.ref b22), (.ref b22)])) rfl (by rw [hml]; rfl) (Steps.refl _) (argsL := [(.ref b22)]) (rest := []) (lenOf pd_10 rfl) rfl (by show 2 * 0 + _ ≤ _; exact Nat.le_of_eq rfl) (hb hby at_311) (fun _ _ => ⟨rfl, e90', (by decide : 20 + 0 ≤ _), (by decide : 200 + 0 ≤ _)⟩)
      dsimp only [Pt.U, Pt.locs, Pt.cells, Pt.slots] at X102 l102 y102 z102 st102 hQ102
      replace l102 := l102.symm
      subst l102 y102 z102
      obtain ⟨rfl, rfl, e102⟩ := hQ102
      first | rw [List.append_nil] at X102 | skip
      refine Goes.tr st102 ?_
      have e102' : T102.heap = TJ.heap := e102
      show Goes p e below _ (T102.setTop (mkF m 314 (own_n16 x0 x1 x2 x3 ra rb bp x_ dg mk ov av bv rw_ cl b1 b4 b12 b22 b34) [(.int (1 : Int32))]))
      have hc314_103 : ¬ ((1 : Int32) = (0 : Int32)) := (by decide)
      refine Goes.via (fun _ kk_ => XS.ifNo X102.here hx rfl (hb hby at_314) rfl ((if0 _ _).trans (feq hc314_103).1) kk_) ?_
      show Goes p e below _ (T102.setTop (mkF m 317 (own_n16 x0 x1 x2 x3 ra rb bp x_ dg mk ov av bv rw_ cl b1 b4 b12 b22 b34) []))
      refine gIC (z := 1) X102 hx hby at_317 rfl ?_
      refine Goes.via (fun _ kk_ => XS.goto X102.here hx rfl (pc0 := 318) (pc' := 322) rfl (hb hby at_318) (by decide) (by decide) kk_) ?_
      show Goes p e below _ (T102.setTop (mkF m 322 (own_n16 x0 x1 x2 x3 ra rb bp x_ dg mk ov av bv rw_ cl b1 b4 b12 b22 b34) [(.int (1 : Int32))]))
      exact own_finN X102 hx hlk hret (by simp) (hb hby at_322) (by rw [e102']; exact ⟨rfl, NJ, KJ⟩) (by first | decide | omega | (dsimp only; omega)) (by first | decide | omega | (dsimp only; omega))
  by_cases hA : av = ov
  · skip
    refine gAL X47 hx hby at_149 rfl rfl ?_
    refine gAL X47 hx hby at_151 rfl rfl ?_
    refine Goes.via (fun _ kk_ => XS.lload X47.here hx rfl (hb hby at_153) rfl  kk_) ?_
    show Goes p e below _ (T47.setTop (mkF m 155 (own_lw x0 x1 x2 x3 ra rb bp x_ dg mk ov av bv rw_ cl b1 b4 b12 b22 b34) [(.long ra), (.ref b12), (.ref b34)]))
    have f104 := (f43.keep K47)
    have f105 := (f51.keep K47)
    have f106 := (f44.keep K47 (ninS ne38 nin0))
    have f107 := ((((((u10_2.ext E12).keep K20 (ninS ne15 nin0)).ext E22).keep K32 (ninS ne26 nin0)).ext E34).keep K47 (ninS ne38 nin0))
    have f108 := ((((((u10_3.ext E12).keep K20 (ninS ne15 nin0)).ext E22).keep K32 (ninS ne26 nin0)).ext E34).keep K47 (ninS ne38 nin0))
    have f109 := ((((u20_1.ext E22).keep K32 (ninS ne27 nin0)).ext E34).keep K47 (ninS ne40 nin0))
    have f110 := ((((u20_2.ext E22).keep K32 (ninS ne27 nin0)).ext E34).keep K47 (ninS ne40 nin0))
    have f111 := ((((u20_3.ext E22).keep K32 (ninS ne27 nin0)).ext E34).keep K47 (ninS ne40 nin0))
    have f112 := (f45.keep K47)
    have f113 := (((f30.keep K32 (ninS ne24 nin0)).ext E34).keep K47 (ninS ne36 nin0))
    have f114 := (f46.keep K47 (ninS ne36 nin0))
    have z116 : h0.size ≤ (T47.heap).size := (Nat.le_trans z48 K47.1)
    obtain ⟨cq115, kq115, q115a, q115b, q115c⟩ := isOf hZ rfl u47_0
    obtain ⟨_, _, ⟨T115, L115, k115, n115⟩, -, X115, ⟨Lc115, hQ115, l115, y115, z115⟩, st115⟩ := X47.virtualBack hx (y := mN_RoutingTable_offer) (z := mN_RoutingTable_offer) hown (mvT hZ (own_w hw 82 rfl)) (mvT hZ (own_w hw 83 rfl)) (notFace_of_selects (args := #[]) (mvT hZ (own_w hw 85 rfl))) (mvT hZ (own_w hw 85 rfl)) (mvT hZ (own_w hw 84 rfl)) (by decide) (backOf (W := 0) (rmOO l Z a0 hw [] b34 b12 ra b4 b1 (ov.toInt64) (av.toInt64) x_ dg bp T47.heap n0 (Nat.le_trans Z0 z116) u47_0 u47_1 f104 f105 (Ne.symm ne15) f106 f107 f108 f109 f110 f111 f112 f113 f114 HB (by rw [hA])) hZ (own_w hw 86 rfl) (own_w hw 54 rfl) (by decide) (by decide)) q115a q115c (g := (mkF m 155 (own_lw x0 x1 x2 x3 ra rb bp x_ dg mk ov av bv rw_ cl b1 b4 b12 b22 b34) [(.long ra), (.ref b12), (.ref b34)])) rfl (by rw [hml]; rfl) (Steps.refl _) (argsL := [(.ref b12), (.long ra)]) (rest := []) (lenOf pd_16 rfl) rfl (by show 2 * 0 + _ ≤ _; exact Nat.le_of_eq rfl) (hb hby at_155) (fun _ _ => ⟨rfl, rfl, (by decide : 8 + 0 ≤ _), (by decide : 25 + 0 ≤ _)⟩)
    dsimp only [Pt.U, Pt.locs, Pt.cells, Pt.slots] at X115 l115 y115 z115 st115 hQ115
    replace l115 := l115.symm
    subst l115 y115 z115
    obtain ⟨rfl, rfl, e115⟩ := hQ115
    first | rw [List.append_nil] at X115 | skip
    refine Goes.tr st115 ?_
    have e115' : T115.heap = T47.heap := e115
    show Goes p e below _ (T115.setTop (mkF m 158 (own_lw x0 x1 x2 x3 ra rb bp x_ dg mk ov av bv rw_ cl b1 b4 b12 b22 b34) [(.int (0 : Int32))]))
    refine Goes.via (fun _ kk_ => XS.pop X115.here hx rfl (hb hby at_158) rfl rfl kk_) ?_
    show Goes p e below _ (T115.setTop (mkF m 159 (own_lw x0 x1 x2 x3 ra rb bp x_ dg mk ov av bv rw_ cl b1 b4 b12 b22 b34) []))
    by_cases hB : bv = ov
    · skip
      refine gAL X115 hx hby at_159 rfl rfl ?_
      refine gAL X115 hx hby at_161 rfl rfl ?_
      refine Goes.via (fun _ kk_ => XS.lload X115.here hx rfl (hb hby at_163) rfl  kk_) ?_
      show Goes p e below _ (T115.setTop (mkF m 165 (own_lw x0 x1 x2 x3 ra rb bp x_ dg mk ov av bv rw_ cl b1 b4 b12 b22 b34) [(.long rb), (.ref b22), (.ref b34)]))
      have f117 := (f53.keep K47)
      have f118 := ((u32_1.ext E34).keep K47 (ninS ne41 nin0))
      have f119 := ((u32_2.ext E34).keep K47 (ninS ne41 nin0))
      have f120 := ((u32_3.ext E34).keep K47 (ninS ne41 nin0))
      obtain ⟨cq121, kq121, q121a, q121b, q121c⟩ := isOf hZ e115' u47_0
      obtain ⟨_, _, ⟨T121, L121, k121, n121⟩, -, X121, ⟨Lc121, hQ121, l121, y121, z121⟩, st121⟩ := X115.virtualBack hx (y := mN_RoutingTable_offer) (z := mN_RoutingTable_offer) hown (mvT hZ (own_w hw 82 rfl)) (mvT hZ (own_w hw 83 rfl)) (notFace_of_selects (args := #[]) (mvT hZ (own_w hw 85 rfl))) (mvT hZ (own_w hw 85 rfl)) (mvT hZ (own_w hw 84 rfl)) (by decide) (backOf (W := 0) (rmOO l Z a0 hw [] b34 b22 rb b4 b1 (ov.toInt64) (bv.toInt64) x_ dg bp T47.heap n0 (Nat.le_trans Z0 z116) u47_0 u47_1 f104 f117 (Ne.symm ne26) f106 f107 f108 f118 f119 f120 f112 f113 f114 HB (by rw [hB])) hZ (own_w hw 86 rfl) (own_w hw 54 rfl) (by decide) (by decide)) q121a q121c (g := (mkF m 165 (own_lw x0 x1 x2 x3 ra rb bp x_ dg mk ov av bv rw_ cl b1 b4 b12 b22 b34) [(.long rb), (.ref b22), (.ref b34)])) rfl (by rw [hml]; rfl) (Steps.refl _) (argsL := [(.ref b22), (.long rb)]) (rest := []) (lenOf pd_16 rfl) rfl (by show 2 * 0 + _ ≤ _; exact Nat.le_of_eq rfl) (hb hby at_165) (fun _ _ => ⟨rfl, e115', (by decide : 8 + 0 ≤ _), (by decide : 25 + 0 ≤ _)⟩)
      dsimp only [Pt.U, Pt.locs, Pt.cells, Pt.slots] at X121 l121 y121 z121 st121 hQ121
      replace l121 := l121.symm
      subst l121 y121 z121
      obtain ⟨rfl, rfl, e121⟩ := hQ121
      first | rw [List.append_nil] at X121 | skip
      refine Goes.tr st121 ?_
      have e121' : T121.heap = T47.heap := e121
      show Goes p e below _ (T121.setTop (mkF m 168 (own_lw x0 x1 x2 x3 ra rb bp x_ dg mk ov av bv rw_ cl b1 b4 b12 b22 b34) [(.int (0 : Int32))]))
      refine Goes.via (fun _ kk_ => XS.pop X121.here hx rfl (hb hby at_168) rfl rfl kk_) ?_
      show Goes p e below _ (T121.setTop (mkF m 169 (own_lw x0 x1 x2 x3 ra rb bp x_ dg mk ov av bv rw_ cl b1 b4 b12 b22 b34) []))
      refine gAL X121 hx hby at_169 rfl rfl ?_
      refine gIL X121 hx hby at_171 rfl ?_
      refine gIL X121 hx hby at_173 rfl ?_
      obtain ⟨cq122, kq122, q122a, q122b, q122c⟩ := isOf hZ e121' u47_0
      obtain ⟨_, _, ⟨T122, L122, k122, n122⟩, -, X122, ⟨Lc122, hQ122, l122, y122, z122⟩, st122⟩ := X121.virtualBack hx (y := mN_RoutingTable_get) (z := mN_RoutingTable_get) hown (mvT hZ (own_w hw 129 rfl)) (mvT hZ (own_w hw 130 rfl)) (notFace_of_selects (args := #[]) (mvT hZ (own_w hw 132 rfl))) (mvT hZ (own_w hw 132 rfl)) (mvT hZ (own_w hw 131 rfl)) (by decide) (backOf (W := 0) (rmG0 l Z a0 hw [] b34 rw_ cl rw47 kR47 (fun _ => .null) nd nr T47.heap n0 (Nat.le_trans Z0 z116) u47_2 u47_10 Hnr Hnr1 rfl) hZ (own_w hw 133 rfl) (own_w hw 54 rfl) (by decide) (by decide)) q122a q122c (g := (mkF m 175 (own_lw x0 x1 x2 x3 ra rb bp x_ dg mk ov av bv rw_ cl b1 b4 b12 b22 b34) [(.int cl), (.int rw_), (.ref b34)])) rfl (by rw [hml]; rfl) (Steps.refl _) (argsL := [(.int rw_), (.int cl)]) (rest := []) (lenOf pd_17 rfl) rfl (by show 2 * 0 + _ ≤ _; exact Nat.le_of_eq rfl) (hb hby at_175) (fun _ _ => ⟨rfl, e121', (by decide : 8 + 0 ≤ _), (by decide : 25 + 0 ≤ _)⟩)
      dsimp only [Pt.U, Pt.locs, Pt.cells, Pt.slots] at X122 l122 y122 z122 st122 hQ122
      replace l122 := l122.symm
      subst l122 y122 z122
      obtain ⟨rfl, rfl, e122⟩ := hQ122
      first | rw [List.append_nil] at X122 | skip
      refine Goes.tr st122 ?_
      have e122' : T122.heap = T47.heap := e122
      show Goes p e below _ (T122.setTop (mkF m 178 (own_lw x0 x1 x2 x3 ra rb bp x_ dg mk ov av bv rw_ cl b1 b4 b12 b22 b34) [.null]))
      refine Goes.via (fun _ kk_ => XS.astore X122.here hx rfl (hb hby at_178) rfl rfl (l' := (own_l0 x0 x1 x2 x3 ra rb bp x_ dg mk ov av bv rw_ cl b1 b4 b12 b22 b34)) rfl kk_) ?_
      show Goes p e below _ (T122.setTop (mkF m 180 (own_l0 x0 x1 x2 x3 ra rb bp x_ dg mk ov av bv rw_ cl b1 b4 b12 b22 b34) []))
      have K123 : Keep h0 T47.heap [] := (((((((((((Keep.refl h0 []).ext E1).trans K2 (allS (Or.inr sz_b1) all0)).ext E4).trans K10 (allS (Or.inr sz_b4) all0)).ext E12).trans K20 (allS (Or.inr sz_b12) all0)).ext E22).trans K32 (allS (Or.inr sz_b22) all0)).ext E34).trans K47 (allS (Or.inr sz_b34) all0))
      have hEq := e122'
      rw [← hEq] at K123 f105 f117
      exact J0 _ _ (X122.more (by decide) (by decide)) N47 K123 f105 f117 (⟨(fun z => z.1 hA), (fun z => z.1 hB)⟩)
    · skip
      refine gAL X115 hx hby at_159 rfl rfl ?_
      refine gAL X115 hx hby at_161 rfl rfl ?_
      refine Goes.via (fun _ kk_ => XS.lload X115.here hx rfl (hb hby at_163) rfl  kk_) ?_
      show Goes p e below _ (T115.setTop (mkF m 165 (own_lw x0 x1 x2 x3 ra rb bp x_ dg mk ov av bv rw_ cl b1 b4 b12 b22 b34) [(.long rb), (.ref b22), (.ref b34)]))
      have f124 := (f53.keep K47)
      have f125 := ((u32_1.ext E34).keep K47 (ninS ne41 nin0))
      have f126 := ((u32_2.ext E34).keep K47 (ninS ne41 nin0))
      have f127 := ((u32_3.ext E34).keep K47 (ninS ne41 nin0))
      obtain ⟨cq128, kq128, q128a, q128b, q128c⟩ := isOf hZ e115' u47_0
      obtain ⟨_, _, ⟨T128, L128, k128, n128⟩, -, X128, ⟨Lc128, hQ128, l128, y128, z128⟩, st128⟩ := X115.virtualBack hx (y := mN_RoutingTable_offer) (z := mN_RoutingTable_offer) hown (mvT hZ (own_w hw 82 rfl)) (mvT hZ (own_w hw 83 rfl)) (notFace_of_selects (args := #[]) (mvT hZ (own_w hw 85 rfl))) (mvT hZ (own_w hw 85 rfl)) (mvT hZ (own_w hw 84 rfl)) (by decide) (backOf (W := 0) (rmON l Z a0 hw [] b34 b22 rb b4 b1 (ov.toInt64) (bv.toInt64) x_ dg bp rw47 rl47 fl47 kR47 kK47 kF47 (fun _ => .null) (fun _ => .null) (fun _ => (0 : Int32)) (0 : Int32) nd bn pB cB T47.heap n0 (Nat.le_trans Z0 z116) u47_0 u47_1 u47_2 u47_3 u47_4 u47_5 f104 f124 (Ne.symm ne26) f106 f107 f108 f125 f126 f127 f112 f113 f114 HB u47_9 u47_10 u47_11 u47_12 u47_13 u47_14 (fun z => hB (own_64i z)) (hpB hB).1 (hpB hB).2.1 (hpB hB).2.2.1 (hpB hB).2.2.2.1 Hbn Hb16 h3nd (by decide) (by have e : (0 : Int32).toInt = 0 := (by decide); omega) u47_15 u47_16 gn_b34 gn_rw47 gn_rl47 gn_fl47 rfl) hZ (own_w hw 86 rfl) (own_w hw 54 rfl) (by decide) (by decide)) q128a q128c (g := (mkF m 165 (own_lw x0 x1 x2 x3 ra rb bp x_ dg mk ov av bv rw_ cl b1 b4 b12 b22 b34) [(.long rb), (.ref b22), (.ref b34)])) rfl (by rw [hml]; rfl) (Steps.refl _) (argsL := [(.ref b22), (.long rb)]) (rest := []) (lenOf pd_16 rfl) rfl (by show 2 * 0 + _ ≤ _; exact Nat.le_of_eq rfl) (hb hby at_165) (fun _ _ => ⟨rfl, e115', (by decide : 8 + 2 ≤ _), (by decide : 25 + 32 ≤ _)⟩)
      dsimp only [Pt.U, Pt.locs, Pt.cells, Pt.slots] at X128 l128 y128 z128 st128 hQ128
      replace l128 := l128.symm
      subst l128 y128 z128
      obtain ⟨r1128, r2128, k1128, k2128, fo'128, fF'128, rfl, N128q, K128, u128_0, u128_1, u128_2, u128_3, u128_4, u128_5, u128_6, u128_7, u128_8, u128_9, u128_10, u128_11, u128_12, u128_13, u128_14, u128_15, u128_16, u128_17, u128_18, u128_19, u128_20⟩ := hQ128
      have N128 := Fr.app N47 N128q
      refine Goes.tr st128 ?_
      show Goes p e below _ (T128.setTop (mkF m 168 (own_lw x0 x1 x2 x3 ra rb bp x_ dg mk ov av bv rw_ cl b1 b4 b12 b22 b34) [(.int (1 : Int32))]))
      refine Goes.via (fun _ kk_ => XS.pop X128.here hx rfl (hb hby at_168) rfl rfl kk_) ?_
      show Goes p e below _ (T128.setTop (mkF m 169 (own_lw x0 x1 x2 x3 ra rb bp x_ dg mk ov av bv rw_ cl b1 b4 b12 b22 b34) []))
      by_cases hr : nr = pB
      · skip
        by_cases hc : nc = cB
        · skip
          refine gAL X128 hx hby at_169 rfl rfl ?_
          refine gIL X128 hx hby at_171 rfl ?_
          refine gIL X128 hx hby at_173 rfl ?_
          have z147 : h0.size ≤ (T128.heap).size := (Nat.le_trans z116 K128.1)
          obtain ⟨cq146, kq146, q146a, q146b, q146c⟩ := isOf hZ rfl u128_0
          obtain ⟨_, _, ⟨T146, L146, k146, n146⟩, -, X146, ⟨Lc146, hQ146, l146, y146, z146⟩, st146⟩ := X128.virtualBack hx (y := mN_RoutingTable_get) (z := mN_RoutingTable_get) hown (mvT hZ (own_w hw 129 rfl)) (mvT hZ (own_w hw 130 rfl)) (notFace_of_selects (args := #[]) (mvT hZ (own_w hw 132 rfl))) (mvT hZ (own_w hw 132 rfl)) (mvT hZ (own_w hw 131 rfl)) (by decide) (backOf (W := 0) (rmGR l Z a0 hw [] b34 rw_ cl rw47 kR47 (own_upd (fun _ => .null) pB (.ref r1128)) nd nr r1128 k1128 (own_upd (fun _ => .null) cB (.ref b22)) bn nc b22 T128.heap n0 (Nat.le_trans Z0 z147) u128_2 u128_7 Hnr Hnr1 (by rw [hr]; exact own_upd_same _ _ _) u128_15 Hnc Hnc1 (by rw [hc]; exact own_upd_same _ _ _)) hZ (own_w hw 133 rfl) (own_w hw 54 rfl) (by decide) (by decide)) q146a q146c (g := (mkF m 175 (own_lw x0 x1 x2 x3 ra rb bp x_ dg mk ov av bv rw_ cl b1 b4 b12 b22 b34) [(.int cl), (.int rw_), (.ref b34)])) rfl (by rw [hml]; rfl) (Steps.refl _) (argsL := [(.int rw_), (.int cl)]) (rest := []) (lenOf pd_17 rfl) rfl (by show 2 * 0 + _ ≤ _; exact Nat.le_of_eq rfl) (hb hby at_175) (fun _ _ => ⟨rfl, rfl, (by decide : 10 + 0 ≤ _), (by decide : 57 + 0 ≤ _)⟩)
          dsimp only [Pt.U, Pt.locs, Pt.cells, Pt.slots] at X146 l146 y146 z146 st146 hQ146
          replace l146 := l146.symm
          subst l146 y146 z146
          obtain ⟨rfl, rfl, e146⟩ := hQ146
          first | rw [List.append_nil] at X146 | skip
          refine Goes.tr st146 ?_
          have e146' : T146.heap = T128.heap := e146
          show Goes p e below _ (T146.setTop (mkF m 178 (own_lw x0 x1 x2 x3 ra rb bp x_ dg mk ov av bv rw_ cl b1 b4 b12 b22 b34) [(.ref b22)]))
          refine Goes.via (fun _ kk_ => XS.astore X146.here hx rfl (hb hby at_178) rfl rfl (l' := (own_lB x0 x1 x2 x3 ra rb bp x_ dg mk ov av bv rw_ cl b1 b4 b12 b22 b34)) rfl kk_) ?_
          show Goes p e below _ (T146.setTop (mkF m 180 (own_lB x0 x1 x2 x3 ra rb bp x_ dg mk ov av bv rw_ cl b1 b4 b12 b22 b34) []))
          have K148 : Keep h0 T128.heap [] := ((((((((((((Keep.refl h0 []).ext E1).trans K2 (allS (Or.inr sz_b1) all0)).ext E4).trans K10 (allS (Or.inr sz_b4) all0)).ext E12).trans K20 (allS (Or.inr sz_b12) all0)).ext E22).trans K32 (allS (Or.inr sz_b22) all0)).ext E34).trans K47 (allS (Or.inr sz_b34) all0)).trans K128 (allS (Or.inr sz_b34) (allS (Or.inr sz_rw47) (allS (Or.inr sz_rl47) (allS (Or.inr sz_fl47) all0)))))
          have f149 := (f105.keep K128)
          have f150 := (f124.keep K128)
          have hEq := e146'
          rw [← hEq] at K148 f149 f150
          exact JB _ _ (X146.more (by decide) (by decide)) N128 K148 f149 f150 (⟨⟨hB, hr.symm, hc.symm⟩, fun z => absurd hA z.1⟩)
        · skip
          refine gAL X128 hx hby at_169 rfl rfl ?_
          refine gIL X128 hx hby at_171 rfl ?_
          refine gIL X128 hx hby at_173 rfl ?_
          have z152 : h0.size ≤ (T128.heap).size := (Nat.le_trans z116 K128.1)
          obtain ⟨cq151, kq151, q151a, q151b, q151c⟩ := isOf hZ rfl u128_0
          obtain ⟨_, _, ⟨T151, L151, k151, n151⟩, -, X151, ⟨Lc151, hQ151, l151, y151, z151⟩, st151⟩ := X128.virtualBack hx (y := mN_RoutingTable_get) (z := mN_RoutingTable_get) hown (mvT hZ (own_w hw 129 rfl)) (mvT hZ (own_w hw 130 rfl)) (notFace_of_selects (args := #[]) (mvT hZ (own_w hw 132 rfl))) (mvT hZ (own_w hw 132 rfl)) (mvT hZ (own_w hw 131 rfl)) (by decide) (backOf (W := 0) (rmGN l Z a0 hw [] b34 rw_ cl rw47 kR47 (own_upd (fun _ => .null) pB (.ref r1128)) nd nr r1128 k1128 (own_upd (fun _ => .null) cB (.ref b22)) bn nc T128.heap n0 (Nat.le_trans Z0 z152) u128_2 u128_7 Hnr Hnr1 (by rw [hr]; exact own_upd_same _ _ _) u128_15 Hnc Hnc1 (own_upd_ne _ _ hc)) hZ (own_w hw 133 rfl) (own_w hw 54 rfl) (by decide) (by decide)) q151a q151c (g := (mkF m 175 (own_lw x0 x1 x2 x3 ra rb bp x_ dg mk ov av bv rw_ cl b1 b4 b12 b22 b34) [(.int cl), (.int rw_), (.ref b34)])) rfl (by rw [hml]; rfl) (Steps.refl _) (argsL := [(.int rw_), (.int cl)]) (rest := []) (lenOf pd_17 rfl) rfl (by show 2 * 0 + _ ≤ _; exact Nat.le_of_eq rfl) (hb hby at_175) (fun _ _ => ⟨rfl, rfl, (by decide : 10 + 0 ≤ _), (by decide : 57 + 0 ≤ _)⟩)
          dsimp only [Pt.U, Pt.locs, Pt.cells, Pt.slots] at X151 l151 y151 z151 st151 hQ151
          replace l151 := l151.symm
          subst l151 y151 z151
          obtain ⟨rfl, rfl, e151⟩ := hQ151
          first | rw [List.append_nil] at X151 | skip
          refine Goes.tr st151 ?_
          have e151' : T151.heap = T128.heap := e151
          show Goes p e below _ (T151.setTop (mkF m 178 (own_lw x0 x1 x2 x3 ra rb bp x_ dg mk ov av bv rw_ cl b1 b4 b12 b22 b34) [.null]))
          refine Goes.via (fun _ kk_ => XS.astore X151.here hx rfl (hb hby at_178) rfl rfl (l' := (own_l0 x0 x1 x2 x3 ra rb bp x_ dg mk ov av bv rw_ cl b1 b4 b12 b22 b34)) rfl kk_) ?_
          show Goes p e below _ (T151.setTop (mkF m 180 (own_l0 x0 x1 x2 x3 ra rb bp x_ dg mk ov av bv rw_ cl b1 b4 b12 b22 b34) []))
          have K153 : Keep h0 T128.heap [] := ((((((((((((Keep.refl h0 []).ext E1).trans K2 (allS (Or.inr sz_b1) all0)).ext E4).trans K10 (allS (Or.inr sz_b4) all0)).ext E12).trans K20 (allS (Or.inr sz_b12) all0)).ext E22).trans K32 (allS (Or.inr sz_b22) all0)).ext E34).trans K47 (allS (Or.inr sz_b34) all0)).trans K128 (allS (Or.inr sz_b34) (allS (Or.inr sz_rw47) (allS (Or.inr sz_rl47) (allS (Or.inr sz_fl47) all0)))))
          have f154 := (f105.keep K128)
          have f155 := (f124.keep K128)
          have hEq := e151'
          rw [← hEq] at K153 f154 f155
          exact J0 _ _ (X151.more (by decide) (by decide)) N128 K153 f154 f155 (⟨(fun z => z.1 hA), (fun z => hc z.2.2.symm)⟩)
      · skip
        refine gAL X128 hx hby at_169 rfl rfl ?_
        refine gIL X128 hx hby at_171 rfl ?_
        refine gIL X128 hx hby at_173 rfl ?_
        have z157 : h0.size ≤ (T128.heap).size := (Nat.le_trans z116 K128.1)
        obtain ⟨cq156, kq156, q156a, q156b, q156c⟩ := isOf hZ rfl u128_0
        obtain ⟨_, _, ⟨T156, L156, k156, n156⟩, -, X156, ⟨Lc156, hQ156, l156, y156, z156⟩, st156⟩ := X128.virtualBack hx (y := mN_RoutingTable_get) (z := mN_RoutingTable_get) hown (mvT hZ (own_w hw 129 rfl)) (mvT hZ (own_w hw 130 rfl)) (notFace_of_selects (args := #[]) (mvT hZ (own_w hw 132 rfl))) (mvT hZ (own_w hw 132 rfl)) (mvT hZ (own_w hw 131 rfl)) (by decide) (backOf (W := 0) (rmG0 l Z a0 hw [] b34 rw_ cl rw47 kR47 (own_upd (fun _ => .null) pB (.ref r1128)) nd nr T128.heap n0 (Nat.le_trans Z0 z157) u128_2 u128_7 Hnr Hnr1 (own_upd_ne _ _ hr)) hZ (own_w hw 133 rfl) (own_w hw 54 rfl) (by decide) (by decide)) q156a q156c (g := (mkF m 175 (own_lw x0 x1 x2 x3 ra rb bp x_ dg mk ov av bv rw_ cl b1 b4 b12 b22 b34) [(.int cl), (.int rw_), (.ref b34)])) rfl (by rw [hml]; rfl) (Steps.refl _) (argsL := [(.int rw_), (.int cl)]) (rest := []) (lenOf pd_17 rfl) rfl (by show 2 * 0 + _ ≤ _; exact Nat.le_of_eq rfl) (hb hby at_175) (fun _ _ => ⟨rfl, rfl, (by decide : 10 + 0 ≤ _), (by decide : 57 + 0 ≤ _)⟩)
        dsimp only [Pt.U, Pt.locs, Pt.cells, Pt.slots] at X156 l156 y156 z156 st156 hQ156
        replace l156 := l156.symm
        subst l156 y156 z156
        obtain ⟨rfl, rfl, e156⟩ := hQ156
        first | rw [List.append_nil] at X156 | skip
        refine Goes.tr st156 ?_
        have e156' : T156.heap = T128.heap := e156
        show Goes p e below _ (T156.setTop (mkF m 178 (own_lw x0 x1 x2 x3 ra rb bp x_ dg mk ov av bv rw_ cl b1 b4 b12 b22 b34) [.null]))
        refine Goes.via (fun _ kk_ => XS.astore X156.here hx rfl (hb hby at_178) rfl rfl (l' := (own_l0 x0 x1 x2 x3 ra rb bp x_ dg mk ov av bv rw_ cl b1 b4 b12 b22 b34)) rfl kk_) ?_
        show Goes p e below _ (T156.setTop (mkF m 180 (own_l0 x0 x1 x2 x3 ra rb bp x_ dg mk ov av bv rw_ cl b1 b4 b12 b22 b34) []))
        have K158 : Keep h0 T128.heap [] := ((((((((((((Keep.refl h0 []).ext E1).trans K2 (allS (Or.inr sz_b1) all0)).ext E4).trans K10 (allS (Or.inr sz_b4) all0)).ext E12).trans K20 (allS (Or.inr sz_b12) all0)).ext E22).trans K32 (allS (Or.inr sz_b22) all0)).ext E34).trans K47 (allS (Or.inr sz_b34) all0)).trans K128 (allS (Or.inr sz_b34) (allS (Or.inr sz_rw47) (allS (Or.inr sz_rl47) (allS (Or.inr sz_fl47) all0)))))
        have f159 := (f105.keep K128)
        have f160 := (f124.keep K128)
        have hEq := e156'
        rw [← hEq] at K158 f159 f160
        exact J0 _ _ (X156.more (by decide) (by decide)) N128 K158 f159 f160 (⟨(fun z => z.1 hA), (fun z => hr z.2.1.symm)⟩)
  · skip
    refine gAL X47 hx hby at_149 rfl rfl ?_
    refine gAL X47 hx hby at_151 rfl rfl ?_
    refine Goes.via (fun _ kk_ => XS.lload X47.here hx rfl (hb hby at_153) rfl  kk_) ?_
    show Goes p e below _ (T47.setTop (mkF m 155 (own_lw x0 x1 x2 x3 ra rb bp x_ dg mk ov av bv rw_ cl b1 b4 b12 b22 b34) [(.long ra), (.ref b12), (.ref b34)]))
    have f161 := (f43.keep K47)
    have f162 := (f51.keep K47)
    have f163 := (f44.keep K47 (ninS ne38 nin0))
    have f164 := ((((((u10_2.ext E12).keep K20 (ninS ne15 nin0)).ext E22).keep K32 (ninS ne26 nin0)).ext E34).keep K47 (ninS ne38 nin0))
    have f165 := ((((((u10_3.ext E12).keep K20 (ninS ne15 nin0)).ext E22).keep K32 (ninS ne26 nin0)).ext E34).keep K47 (ninS ne38 nin0))
    have f166 := ((((u20_1.ext E22).keep K32 (ninS ne27 nin0)).ext E34).keep K47 (ninS ne40 nin0))
    have f167 := ((((u20_2.ext E22).keep K32 (ninS ne27 nin0)).ext E34).keep K47 (ninS ne40 nin0))
    have f168 := ((((u20_3.ext E22).keep K32 (ninS ne27 nin0)).ext E34).keep K47 (ninS ne40 nin0))
    have f169 := (f45.keep K47)
    have f170 := (((f30.keep K32 (ninS ne24 nin0)).ext E34).keep K47 (ninS ne36 nin0))
    have f171 := (f46.keep K47 (ninS ne36 nin0))
    have z173 : h0.size ≤ (T47.heap).size := (Nat.le_trans z48 K47.1)
    obtain ⟨cq172, kq172, q172a, q172b, q172c⟩ := isOf hZ rfl u47_0
    obtain ⟨_, _, ⟨T172, L172, k172, n172⟩, -, X172, ⟨Lc172, hQ172, l172, y172, z172⟩, st172⟩ := X47.virtualBack hx (y := mN_RoutingTable_offer) (z := mN_RoutingTable_offer) hown (mvT hZ (own_w hw 82 rfl)) (mvT hZ (own_w hw 83 rfl)) (notFace_of_selects (args := #[]) (mvT hZ (own_w hw 85 rfl))) (mvT hZ (own_w hw 85 rfl)) (mvT hZ (own_w hw 84 rfl)) (by decide) (backOf (W := 0) (rmON l Z a0 hw [] b34 b12 ra b4 b1 (ov.toInt64) (av.toInt64) x_ dg bp rw47 rl47 fl47 kR47 kK47 kF47 (fun _ => .null) (fun _ => .null) (fun _ => (0 : Int32)) (0 : Int32) nd bn pA cA T47.heap n0 (Nat.le_trans Z0 z173) u47_0 u47_1 u47_2 u47_3 u47_4 u47_5 f161 f162 (Ne.symm ne15) f163 f164 f165 f166 f167 f168 f169 f170 f171 HB u47_9 u47_10 u47_11 u47_12 u47_13 u47_14 (fun z => hA (own_64i z)) (hpA hA).1 (hpA hA).2.1 (hpA hA).2.2.1 (hpA hA).2.2.2.1 Hbn Hb16 h3nd (by decide) (by have e : (0 : Int32).toInt = 0 := (by decide); omega) u47_15 u47_16 gn_b34 gn_rw47 gn_rl47 gn_fl47 rfl) hZ (own_w hw 86 rfl) (own_w hw 54 rfl) (by decide) (by decide)) q172a q172c (g := (mkF m 155 (own_lw x0 x1 x2 x3 ra rb bp x_ dg mk ov av bv rw_ cl b1 b4 b12 b22 b34) [(.long ra), (.ref b12), (.ref b34)])) rfl (by rw [hml]; rfl) (Steps.refl _) (argsL := [(.ref b12), (.long ra)]) (rest := []) (lenOf pd_16 rfl) rfl (by show 2 * 0 + _ ≤ _; exact Nat.le_of_eq rfl) (hb hby at_155) (fun _ _ => ⟨rfl, rfl, (by decide : 8 + 2 ≤ _), (by decide : 25 + 32 ≤ _)⟩)
    dsimp only [Pt.U, Pt.locs, Pt.cells, Pt.slots] at X172 l172 y172 z172 st172 hQ172
    replace l172 := l172.symm
    subst l172 y172 z172
    obtain ⟨r1172, r2172, k1172, k2172, fo'172, fF'172, rfl, N172q, K172, u172_0, u172_1, u172_2, u172_3, u172_4, u172_5, u172_6, u172_7, u172_8, u172_9, u172_10, u172_11, u172_12, u172_13, u172_14, u172_15, u172_16, u172_17, u172_18, u172_19, u172_20⟩ := hQ172
    have N172 := Fr.app N47 N172q
    refine Goes.tr st172 ?_
    have f177 := (f53.keep K47)
    have sz_r1172 : h0.size ≤ r1172 := Nat.le_trans z173 u172_12
    have gn_r1172 : n0 ≤ r1172 := Nat.le_trans Z0 sz_r1172
    have sz_r2172 : h0.size ≤ r2172 := Nat.le_trans z173 u172_13
    have gn_r2172 : n0 ≤ r2172 := Nat.le_trans Z0 sz_r2172
    have ne183 : b34 ≠ r1172 := ne_exa u172_0 u172_14 (by decide)
    have ne184 : b34 ≠ r2172 := ne_exa u172_0 u172_16 (by decide)
    have ne185 : rw47 ≠ r1172 := ne_exa u172_6 u172_14 (by decide)
    have ne186 : rw47 ≠ r2172 := ne_exa u172_6 u172_16 (by decide)
    have ne187 : rl47 ≠ r1172 := ne_exa u172_8 u172_14 (by decide)
    have ne189 : fl47 ≠ r1172 := ne_exa u172_10 u172_14 (by decide)
    show Goes p e below _ (T172.setTop (mkF m 158 (own_lw x0 x1 x2 x3 ra rb bp x_ dg mk ov av bv rw_ cl b1 b4 b12 b22 b34) [(.int (1 : Int32))]))
    refine Goes.via (fun _ kk_ => XS.pop X172.here hx rfl (hb hby at_158) rfl rfl kk_) ?_
    show Goes p e below _ (T172.setTop (mkF m 159 (own_lw x0 x1 x2 x3 ra rb bp x_ dg mk ov av bv rw_ cl b1 b4 b12 b22 b34) []))
    by_cases hB : bv = ov
    · skip
      refine gAL X172 hx hby at_159 rfl rfl ?_
      refine gAL X172 hx hby at_161 rfl rfl ?_
      refine Goes.via (fun _ kk_ => XS.lload X172.here hx rfl (hb hby at_163) rfl  kk_) ?_
      show Goes p e below _ (T172.setTop (mkF m 165 (own_lw x0 x1 x2 x3 ra rb bp x_ dg mk ov av bv rw_ cl b1 b4 b12 b22 b34) [(.long rb), (.ref b22), (.ref b34)]))
      have f192 := (f161.keep K172)
      have f193 := (f177.keep K172)
      have f194 := (f163.keep K172 (ninS ne38 (ninS ne50 (ninS ne56 (ninS ne60 nin0)))))
      have f195 := (f164.keep K172 (ninS ne38 (ninS ne50 (ninS ne56 (ninS ne60 nin0)))))
      have f196 := (f165.keep K172 (ninS ne38 (ninS ne50 (ninS ne56 (ninS ne60 nin0)))))
      have f197 := (((u32_1.ext E34).keep K47 (ninS ne41 nin0)).keep K172 (ninS ne41 (ninS ne54 (ninS ne58 (ninS ne62 nin0)))))
      have f198 := (((u32_2.ext E34).keep K47 (ninS ne41 nin0)).keep K172 (ninS ne41 (ninS ne54 (ninS ne58 (ninS ne62 nin0)))))
      have f199 := (((u32_3.ext E34).keep K47 (ninS ne41 nin0)).keep K172 (ninS ne41 (ninS ne54 (ninS ne58 (ninS ne62 nin0)))))
      have f200 := (f169.keep K172)
      have f201 := (f170.keep K172 (ninS ne36 (ninS ne49 (ninS ne55 (ninS ne59 nin0)))))
      have f202 := (f171.keep K172 (ninS ne36 (ninS ne49 (ninS ne55 (ninS ne59 nin0)))))
      have z204 : h0.size ≤ (T172.heap).size := (Nat.le_trans z173 K172.1)
      obtain ⟨cq203, kq203, q203a, q203b, q203c⟩ := isOf hZ rfl u172_0
      obtain ⟨_, _, ⟨T203, L203, k203, n203⟩, -, X203, ⟨Lc203, hQ203, l203, y203, z203⟩, st203⟩ := X172.virtualBack hx (y := mN_RoutingTable_offer) (z := mN_RoutingTable_offer) hown (mvT hZ (own_w hw 82 rfl)) (mvT hZ (own_w hw 83 rfl)) (notFace_of_selects (args := #[]) (mvT hZ (own_w hw 85 rfl))) (mvT hZ (own_w hw 85 rfl)) (mvT hZ (own_w hw 84 rfl)) (by decide) (backOf (W := 0) (rmOO l Z a0 hw [] b34 b22 rb b4 b1 (ov.toInt64) (bv.toInt64) x_ dg bp T172.heap n0 (Nat.le_trans Z0 z204) u172_0 u172_1 f192 f193 (Ne.symm ne26) f194 f195 f196 f197 f198 f199 f200 f201 f202 HB (by rw [hB])) hZ (own_w hw 86 rfl) (own_w hw 54 rfl) (by decide) (by decide)) q203a q203c (g := (mkF m 165 (own_lw x0 x1 x2 x3 ra rb bp x_ dg mk ov av bv rw_ cl b1 b4 b12 b22 b34) [(.long rb), (.ref b22), (.ref b34)])) rfl (by rw [hml]; rfl) (Steps.refl _) (argsL := [(.ref b22), (.long rb)]) (rest := []) (lenOf pd_16 rfl) rfl (by show 2 * 0 + _ ≤ _; exact Nat.le_of_eq rfl) (hb hby at_165) (fun _ _ => ⟨rfl, rfl, (by decide : 10 + 0 ≤ _), (by decide : 57 + 0 ≤ _)⟩)
      dsimp only [Pt.U, Pt.locs, Pt.cells, Pt.slots] at X203 l203 y203 z203 st203 hQ203
      replace l203 := l203.symm
      subst l203 y203 z203
      obtain ⟨rfl, rfl, e203⟩ := hQ203
      first | rw [List.append_nil] at X203 | skip
      refine Goes.tr st203 ?_
      have e203' : T203.heap = T172.heap := e203
      show Goes p e below _ (T203.setTop (mkF m 168 (own_lw x0 x1 x2 x3 ra rb bp x_ dg mk ov av bv rw_ cl b1 b4 b12 b22 b34) [(.int (0 : Int32))]))
      refine Goes.via (fun _ kk_ => XS.pop X203.here hx rfl (hb hby at_168) rfl rfl kk_) ?_
      show Goes p e below _ (T203.setTop (mkF m 169 (own_lw x0 x1 x2 x3 ra rb bp x_ dg mk ov av bv rw_ cl b1 b4 b12 b22 b34) []))
      by_cases hr : nr = pA
      · skip
        by_cases hc : nc = cA
        · skip
          refine gAL X203 hx hby at_169 rfl rfl ?_
          refine gIL X203 hx hby at_171 rfl ?_
          refine gIL X203 hx hby at_173 rfl ?_
          obtain ⟨cq205, kq205, q205a, q205b, q205c⟩ := isOf hZ e203' u172_0
          obtain ⟨_, _, ⟨T205, L205, k205, n205⟩, -, X205, ⟨Lc205, hQ205, l205, y205, z205⟩, st205⟩ := X203.virtualBack hx (y := mN_RoutingTable_get) (z := mN_RoutingTable_get) hown (mvT hZ (own_w hw 129 rfl)) (mvT hZ (own_w hw 130 rfl)) (notFace_of_selects (args := #[]) (mvT hZ (own_w hw 132 rfl))) (mvT hZ (own_w hw 132 rfl)) (mvT hZ (own_w hw 131 rfl)) (by decide) (backOf (W := 0) (rmGR l Z a0 hw [] b34 rw_ cl rw47 kR47 (own_upd (fun _ => .null) pA (.ref r1172)) nd nr r1172 k1172 (own_upd (fun _ => .null) cA (.ref b12)) bn nc b12 T172.heap n0 (Nat.le_trans Z0 z204) u172_2 u172_7 Hnr Hnr1 (by rw [hr]; exact own_upd_same _ _ _) u172_15 Hnc Hnc1 (by rw [hc]; exact own_upd_same _ _ _)) hZ (own_w hw 133 rfl) (own_w hw 54 rfl) (by decide) (by decide)) q205a q205c (g := (mkF m 175 (own_lw x0 x1 x2 x3 ra rb bp x_ dg mk ov av bv rw_ cl b1 b4 b12 b22 b34) [(.int cl), (.int rw_), (.ref b34)])) rfl (by rw [hml]; rfl) (Steps.refl _) (argsL := [(.int rw_), (.int cl)]) (rest := []) (lenOf pd_17 rfl) rfl (by show 2 * 0 + _ ≤ _; exact Nat.le_of_eq rfl) (hb hby at_175) (fun _ _ => ⟨rfl, e203', (by decide : 10 + 0 ≤ _), (by decide : 57 + 0 ≤ _)⟩)
          dsimp only [Pt.U, Pt.locs, Pt.cells, Pt.slots] at X205 l205 y205 z205 st205 hQ205
          replace l205 := l205.symm
          subst l205 y205 z205
          obtain ⟨rfl, rfl, e205⟩ := hQ205
          first | rw [List.append_nil] at X205 | skip
          refine Goes.tr st205 ?_
          have e205' : T205.heap = T172.heap := e205
          show Goes p e below _ (T205.setTop (mkF m 178 (own_lw x0 x1 x2 x3 ra rb bp x_ dg mk ov av bv rw_ cl b1 b4 b12 b22 b34) [(.ref b12)]))
          refine Goes.via (fun _ kk_ => XS.astore X205.here hx rfl (hb hby at_178) rfl rfl (l' := (own_lA x0 x1 x2 x3 ra rb bp x_ dg mk ov av bv rw_ cl b1 b4 b12 b22 b34)) rfl kk_) ?_
          show Goes p e below _ (T205.setTop (mkF m 180 (own_lA x0 x1 x2 x3 ra rb bp x_ dg mk ov av bv rw_ cl b1 b4 b12 b22 b34) []))
          have K206 : Keep h0 T172.heap [] := ((((((((((((Keep.refl h0 []).ext E1).trans K2 (allS (Or.inr sz_b1) all0)).ext E4).trans K10 (allS (Or.inr sz_b4) all0)).ext E12).trans K20 (allS (Or.inr sz_b12) all0)).ext E22).trans K32 (allS (Or.inr sz_b22) all0)).ext E34).trans K47 (allS (Or.inr sz_b34) all0)).trans K172 (allS (Or.inr sz_b34) (allS (Or.inr sz_rw47) (allS (Or.inr sz_rl47) (allS (Or.inr sz_fl47) all0)))))
          have f207 := (f162.keep K172)
          have hEq := e205'
          rw [← hEq] at K206 f207 f193
          exact JA _ _ (X205.more (by decide) (by decide)) N172 K206 f207 f193 (⟨⟨hA, hr.symm, hc.symm⟩, fun z => absurd hB z.1⟩)
        · skip
          refine gAL X203 hx hby at_169 rfl rfl ?_
          refine gIL X203 hx hby at_171 rfl ?_
          refine gIL X203 hx hby at_173 rfl ?_
          obtain ⟨cq208, kq208, q208a, q208b, q208c⟩ := isOf hZ e203' u172_0
          obtain ⟨_, _, ⟨T208, L208, k208, n208⟩, -, X208, ⟨Lc208, hQ208, l208, y208, z208⟩, st208⟩ := X203.virtualBack hx (y := mN_RoutingTable_get) (z := mN_RoutingTable_get) hown (mvT hZ (own_w hw 129 rfl)) (mvT hZ (own_w hw 130 rfl)) (notFace_of_selects (args := #[]) (mvT hZ (own_w hw 132 rfl))) (mvT hZ (own_w hw 132 rfl)) (mvT hZ (own_w hw 131 rfl)) (by decide) (backOf (W := 0) (rmGN l Z a0 hw [] b34 rw_ cl rw47 kR47 (own_upd (fun _ => .null) pA (.ref r1172)) nd nr r1172 k1172 (own_upd (fun _ => .null) cA (.ref b12)) bn nc T172.heap n0 (Nat.le_trans Z0 z204) u172_2 u172_7 Hnr Hnr1 (by rw [hr]; exact own_upd_same _ _ _) u172_15 Hnc Hnc1 (own_upd_ne _ _ hc)) hZ (own_w hw 133 rfl) (own_w hw 54 rfl) (by decide) (by decide)) q208a q208c (g := (mkF m 175 (own_lw x0 x1 x2 x3 ra rb bp x_ dg mk ov av bv rw_ cl b1 b4 b12 b22 b34) [(.int cl), (.int rw_), (.ref b34)])) rfl (by rw [hml]; rfl) (Steps.refl _) (argsL := [(.int rw_), (.int cl)]) (rest := []) (lenOf pd_17 rfl) rfl (by show 2 * 0 + _ ≤ _; exact Nat.le_of_eq rfl) (hb hby at_175) (fun _ _ => ⟨rfl, e203', (by decide : 10 + 0 ≤ _), (by decide : 57 + 0 ≤ _)⟩)
          dsimp only [Pt.U, Pt.locs, Pt.cells, Pt.slots] at X208 l208 y208 z208 st208 hQ208
          replace l208 := l208.symm
          subst l208 y208 z208
          obtain ⟨rfl, rfl, e208⟩ := hQ208
          first | rw [List.append_nil] at X208 | skip
          refine Goes.tr st208 ?_
          have e208' : T208.heap = T172.heap := e208
          show Goes p e below _ (T208.setTop (mkF m 178 (own_lw x0 x1 x2 x3 ra rb bp x_ dg mk ov av bv rw_ cl b1 b4 b12 b22 b34) [.null]))
          refine Goes.via (fun _ kk_ => XS.astore X208.here hx rfl (hb hby at_178) rfl rfl (l' := (own_l0 x0 x1 x2 x3 ra rb bp x_ dg mk ov av bv rw_ cl b1 b4 b12 b22 b34)) rfl kk_) ?_
          show Goes p e below _ (T208.setTop (mkF m 180 (own_l0 x0 x1 x2 x3 ra rb bp x_ dg mk ov av bv rw_ cl b1 b4 b12 b22 b34) []))
          have K209 : Keep h0 T172.heap [] := ((((((((((((Keep.refl h0 []).ext E1).trans K2 (allS (Or.inr sz_b1) all0)).ext E4).trans K10 (allS (Or.inr sz_b4) all0)).ext E12).trans K20 (allS (Or.inr sz_b12) all0)).ext E22).trans K32 (allS (Or.inr sz_b22) all0)).ext E34).trans K47 (allS (Or.inr sz_b34) all0)).trans K172 (allS (Or.inr sz_b34) (allS (Or.inr sz_rw47) (allS (Or.inr sz_rl47) (allS (Or.inr sz_fl47) all0)))))
          have f210 := (f162.keep K172)
          have hEq := e208'
          rw [← hEq] at K209 f210 f193
          exact J0 _ _ (X208.more (by decide) (by decide)) N172 K209 f210 f193 (⟨(fun z => hc z.2.2.symm), (fun z => z.1 hB)⟩)
      · skip
        refine gAL X203 hx hby at_169 rfl rfl ?_
        refine gIL X203 hx hby at_171 rfl ?_
        refine gIL X203 hx hby at_173 rfl ?_
        obtain ⟨cq211, kq211, q211a, q211b, q211c⟩ := isOf hZ e203' u172_0
        obtain ⟨_, _, ⟨T211, L211, k211, n211⟩, -, X211, ⟨Lc211, hQ211, l211, y211, z211⟩, st211⟩ := X203.virtualBack hx (y := mN_RoutingTable_get) (z := mN_RoutingTable_get) hown (mvT hZ (own_w hw 129 rfl)) (mvT hZ (own_w hw 130 rfl)) (notFace_of_selects (args := #[]) (mvT hZ (own_w hw 132 rfl))) (mvT hZ (own_w hw 132 rfl)) (mvT hZ (own_w hw 131 rfl)) (by decide) (backOf (W := 0) (rmG0 l Z a0 hw [] b34 rw_ cl rw47 kR47 (own_upd (fun _ => .null) pA (.ref r1172)) nd nr T172.heap n0 (Nat.le_trans Z0 z204) u172_2 u172_7 Hnr Hnr1 (own_upd_ne _ _ hr)) hZ (own_w hw 133 rfl) (own_w hw 54 rfl) (by decide) (by decide)) q211a q211c (g := (mkF m 175 (own_lw x0 x1 x2 x3 ra rb bp x_ dg mk ov av bv rw_ cl b1 b4 b12 b22 b34) [(.int cl), (.int rw_), (.ref b34)])) rfl (by rw [hml]; rfl) (Steps.refl _) (argsL := [(.int rw_), (.int cl)]) (rest := []) (lenOf pd_17 rfl) rfl (by show 2 * 0 + _ ≤ _; exact Nat.le_of_eq rfl) (hb hby at_175) (fun _ _ => ⟨rfl, e203', (by decide : 10 + 0 ≤ _), (by decide : 57 + 0 ≤ _)⟩)
        dsimp only [Pt.U, Pt.locs, Pt.cells, Pt.slots] at X211 l211 y211 z211 st211 hQ211
        replace l211 := l211.symm
        subst l211 y211 z211
        obtain ⟨rfl, rfl, e211⟩ := hQ211
        first | rw [List.append_nil] at X211 | skip
        refine Goes.tr st211 ?_
        have e211' : T211.heap = T172.heap := e211
        show Goes p e below _ (T211.setTop (mkF m 178 (own_lw x0 x1 x2 x3 ra rb bp x_ dg mk ov av bv rw_ cl b1 b4 b12 b22 b34) [.null]))
        refine Goes.via (fun _ kk_ => XS.astore X211.here hx rfl (hb hby at_178) rfl rfl (l' := (own_l0 x0 x1 x2 x3 ra rb bp x_ dg mk ov av bv rw_ cl b1 b4 b12 b22 b34)) rfl kk_) ?_
        show Goes p e below _ (T211.setTop (mkF m 180 (own_l0 x0 x1 x2 x3 ra rb bp x_ dg mk ov av bv rw_ cl b1 b4 b12 b22 b34) []))
        have K212 : Keep h0 T172.heap [] := ((((((((((((Keep.refl h0 []).ext E1).trans K2 (allS (Or.inr sz_b1) all0)).ext E4).trans K10 (allS (Or.inr sz_b4) all0)).ext E12).trans K20 (allS (Or.inr sz_b12) all0)).ext E22).trans K32 (allS (Or.inr sz_b22) all0)).ext E34).trans K47 (allS (Or.inr sz_b34) all0)).trans K172 (allS (Or.inr sz_b34) (allS (Or.inr sz_rw47) (allS (Or.inr sz_rl47) (allS (Or.inr sz_fl47) all0)))))
        have f213 := (f162.keep K172)
        have hEq := e211'
        rw [← hEq] at K212 f213 f193
        exact J0 _ _ (X211.more (by decide) (by decide)) N172 K212 f213 f193 (⟨(fun z => hr z.2.1.symm), (fun z => z.1 hB)⟩)
    · skip
      by_cases hpq : pB = pA
      · skip
        by_cases hcq : cB = cA
        · skip
          by_cases hT : rb < ra ∨ (rb = ra ∧ bv < av)
          · skip
            refine gAL X172 hx hby at_159 rfl rfl ?_
            refine gAL X172 hx hby at_161 rfl rfl ?_
            refine Goes.via (fun _ kk_ => XS.lload X172.here hx rfl (hb hby at_163) rfl  kk_) ?_
            show Goes p e below _ (T172.setTop (mkF m 165 (own_lw x0 x1 x2 x3 ra rb bp x_ dg mk ov av bv rw_ cl b1 b4 b12 b22 b34) [(.long rb), (.ref b22), (.ref b34)]))
            have f214 := (f161.keep K172)
            have f215 := (f177.keep K172)
            have f216 := (f163.keep K172 (ninS ne38 (ninS ne50 (ninS ne56 (ninS ne60 nin0)))))
            have f217 := (f164.keep K172 (ninS ne38 (ninS ne50 (ninS ne56 (ninS ne60 nin0)))))
            have f218 := (f165.keep K172 (ninS ne38 (ninS ne50 (ninS ne56 (ninS ne60 nin0)))))
            have f219 := (((u32_1.ext E34).keep K47 (ninS ne41 nin0)).keep K172 (ninS ne41 (ninS ne54 (ninS ne58 (ninS ne62 nin0)))))
            have f220 := (((u32_2.ext E34).keep K47 (ninS ne41 nin0)).keep K172 (ninS ne41 (ninS ne54 (ninS ne58 (ninS ne62 nin0)))))
            have f221 := (((u32_3.ext E34).keep K47 (ninS ne41 nin0)).keep K172 (ninS ne41 (ninS ne54 (ninS ne58 (ninS ne62 nin0)))))
            have f222 := (f169.keep K172)
            have f223 := (f170.keep K172 (ninS ne36 (ninS ne49 (ninS ne55 (ninS ne59 nin0)))))
            have f224 := (f171.keep K172 (ninS ne36 (ninS ne49 (ninS ne55 (ninS ne59 nin0)))))
            have f225 := (f162.keep K172)
            have f226 := (f166.keep K172 (ninS ne40 (ninS ne52 (ninS ne57 (ninS ne61 nin0)))))
            have f227 := (f167.keep K172 (ninS ne40 (ninS ne52 (ninS ne57 (ninS ne61 nin0)))))
            have f228 := (f168.keep K172 (ninS ne40 (ninS ne52 (ninS ne57 (ninS ne61 nin0)))))
            have z230 : h0.size ≤ (T172.heap).size := (Nat.le_trans z173 K172.1)
            obtain ⟨cq229, kq229, q229a, q229b, q229c⟩ := isOf hZ rfl u172_0
            obtain ⟨_, _, ⟨T229, L229, k229, n229⟩, -, X229, ⟨Lc229, hQ229, l229, y229, z229⟩, st229⟩ := X172.virtualBack hx (y := mN_RoutingTable_offer) (z := mN_RoutingTable_offer) hown (mvT hZ (own_w hw 82 rfl)) (mvT hZ (own_w hw 83 rfl)) (notFace_of_selects (args := #[]) (mvT hZ (own_w hw 85 rfl))) (mvT hZ (own_w hw 85 rfl)) (mvT hZ (own_w hw 84 rfl)) (by decide) (backOf (W := 0) (rmOT l Z a0 hw [] b34 b22 rb b4 b1 (ov.toInt64) (bv.toInt64) x_ dg bp rw47 rl47 fl47 kR47 kK47 kF47 (own_upd (fun _ => .null) pA (.ref r1172)) (own_upd (fun _ => .null) pA (.ref r2172)) fF'172 fo'172 nd bn pB cB r1172 r2172 k1172 k2172 (own_upd (fun _ => .null) cA (.ref b12)) (own_upd (fun _ => (.long 0)) cA (.long ra)) ra b12 (av.toInt64) T172.heap n0 (Nat.le_trans Z0 z230) u172_0 u172_1 u172_2 u172_3 u172_4 u172_5 f214 f215 (Ne.symm ne26) f216 f217 f218 f219 f220 f221 f222 f223 f224 HB u172_6 u172_7 u172_8 u172_9 u172_10 u172_11 (fun z => hB (own_64i z)) (hpB hB).1 (hpB hB).2.1 (hpB hB).2.2.1 (hpB hB).2.2.2.1 Hbn Hb16 h3nd u172_19 u172_20 u172_14 u172_15 u172_16 u172_17 (by rw [hpq]; exact own_upd_same _ _ _) (by rw [hpq]; exact own_upd_same _ _ _) (by rw [hcq]; exact own_upd_same _ _ _) u172_18 gn_r1172 gn_r2172 (by rw [hcq]; exact own_upd_same _ _ _) (Ne.symm ne27) (by rw [own_tkP hca.1.1 hcb.1.1, if_pos hT]; decide) f225 f226 f227 f228) hZ (own_w hw 86 rfl) (own_w hw 54 rfl) (by decide) (by decide)) q229a q229c (g := (mkF m 165 (own_lw x0 x1 x2 x3 ra rb bp x_ dg mk ov av bv rw_ cl b1 b4 b12 b22 b34) [(.long rb), (.ref b22), (.ref b34)])) rfl (by rw [hml]; rfl) (Steps.refl _) (argsL := [(.ref b22), (.long rb)]) (rest := []) (lenOf pd_16 rfl) rfl (by show 2 * 0 + _ ≤ _; exact Nat.le_of_eq rfl) (hb hby at_165) (fun _ _ => ⟨rfl, rfl, (by decide : 10 + 0 ≤ _), (by decide : 57 + 0 ≤ _)⟩)
            dsimp only [Pt.U, Pt.locs, Pt.cells, Pt.slots] at X229 l229 y229 z229 st229 hQ229
            replace l229 := l229.symm
            subst l229 y229 z229
            obtain ⟨r_229, rfl, N229q, K229, u229_0, u229_1, u229_2, u229_3⟩ := hQ229
            have N229 := Fr.app N172 N229q
            refine Goes.tr st229 ?_
            show Goes p e below _ (T229.setTop (mkF m 168 (own_lw x0 x1 x2 x3 ra rb bp x_ dg mk ov av bv rw_ cl b1 b4 b12 b22 b34) [(.int r_229)]))
            refine Goes.via (fun _ kk_ => XS.pop X229.here hx rfl (hb hby at_168) rfl rfl kk_) ?_
            show Goes p e below _ (T229.setTop (mkF m 169 (own_lw x0 x1 x2 x3 ra rb bp x_ dg mk ov av bv rw_ cl b1 b4 b12 b22 b34) []))
            by_cases hr : nr = pA
            · skip
              by_cases hc : nc = cA
              · skip
                refine gAL X229 hx hby at_169 rfl rfl ?_
                refine gIL X229 hx hby at_171 rfl ?_
                refine gIL X229 hx hby at_173 rfl ?_
                have f231 := (u172_2.keep K229 (ninS ne183 (ninS ne184 nin0)))
                have f232 := (u172_7.keep K229 (ninS ne185 (ninS ne186 nin0)))
                have z234 : h0.size ≤ (T229.heap).size := (Nat.le_trans z230 K229.1)
                have f235 := (u172_0.keep K229)
                obtain ⟨cq233, kq233, q233a, q233b, q233c⟩ := isOf hZ rfl f235
                obtain ⟨_, _, ⟨T233, L233, k233, n233⟩, -, X233, ⟨Lc233, hQ233, l233, y233, z233⟩, st233⟩ := X229.virtualBack hx (y := mN_RoutingTable_get) (z := mN_RoutingTable_get) hown (mvT hZ (own_w hw 129 rfl)) (mvT hZ (own_w hw 130 rfl)) (notFace_of_selects (args := #[]) (mvT hZ (own_w hw 132 rfl))) (mvT hZ (own_w hw 132 rfl)) (mvT hZ (own_w hw 131 rfl)) (by decide) (backOf (W := 0) (rmGR l Z a0 hw [] b34 rw_ cl rw47 kR47 (own_upd (fun _ => .null) pA (.ref r1172)) nd nr r1172 k1172 (own_upd (own_upd (fun _ => .null) cA (.ref b12)) cB (.ref b22)) bn nc b22 T229.heap n0 (Nat.le_trans Z0 z234) f231 f232 Hnr Hnr1 (by rw [hr]; exact own_upd_same _ _ _) u229_1 Hnc Hnc1 (by rw [hc, ← hcq]; exact own_upd_same _ _ _)) hZ (own_w hw 133 rfl) (own_w hw 54 rfl) (by decide) (by decide)) q233a q233c (g := (mkF m 175 (own_lw x0 x1 x2 x3 ra rb bp x_ dg mk ov av bv rw_ cl b1 b4 b12 b22 b34) [(.int cl), (.int rw_), (.ref b34)])) rfl (by rw [hml]; rfl) (Steps.refl _) (argsL := [(.int rw_), (.int cl)]) (rest := []) (lenOf pd_17 rfl) rfl (by show 2 * 0 + _ ≤ _; exact Nat.le_of_eq rfl) (hb hby at_175) (fun _ _ => ⟨rfl, rfl, (by decide : 10 + 0 ≤ _), (by decide : 57 + 0 ≤ _)⟩)
                dsimp only [Pt.U, Pt.locs, Pt.cells, Pt.slots] at X233 l233 y233 z233 st233 hQ233
                replace l233 := l233.symm
                subst l233 y233 z233
                obtain ⟨rfl, rfl, e233⟩ := hQ233
                first | rw [List.append_nil] at X233 | skip
                refine Goes.tr st233 ?_
                have e233' : T233.heap = T229.heap := e233
                show Goes p e below _ (T233.setTop (mkF m 178 (own_lw x0 x1 x2 x3 ra rb bp x_ dg mk ov av bv rw_ cl b1 b4 b12 b22 b34) [(.ref b22)]))
                refine Goes.via (fun _ kk_ => XS.astore X233.here hx rfl (hb hby at_178) rfl rfl (l' := (own_lB x0 x1 x2 x3 ra rb bp x_ dg mk ov av bv rw_ cl b1 b4 b12 b22 b34)) rfl kk_) ?_
                show Goes p e below _ (T233.setTop (mkF m 180 (own_lB x0 x1 x2 x3 ra rb bp x_ dg mk ov av bv rw_ cl b1 b4 b12 b22 b34) []))
                have K236 : Keep h0 T229.heap [] := (((((((((((((Keep.refl h0 []).ext E1).trans K2 (allS (Or.inr sz_b1) all0)).ext E4).trans K10 (allS (Or.inr sz_b4) all0)).ext E12).trans K20 (allS (Or.inr sz_b12) all0)).ext E22).trans K32 (allS (Or.inr sz_b22) all0)).ext E34).trans K47 (allS (Or.inr sz_b34) all0)).trans K172 (allS (Or.inr sz_b34) (allS (Or.inr sz_rw47) (allS (Or.inr sz_rl47) (allS (Or.inr sz_fl47) all0))))).trans K229 (allS (Or.inr sz_r1172) (allS (Or.inr sz_r2172) all0)))
                have f237 := (f225.keep K229)
                have f238 := (f215.keep K229)
                have hEq := e233'
                rw [← hEq] at K236 f237 f238
                exact JB _ _ (X233.more (by decide) (by decide)) N229 K236 f237 f238 (⟨⟨hB, hpq.trans hr.symm, hcq.trans hc.symm⟩, fun _ => hT⟩)
              · skip
                refine gAL X229 hx hby at_169 rfl rfl ?_
                refine gIL X229 hx hby at_171 rfl ?_
                refine gIL X229 hx hby at_173 rfl ?_
                have f239 := (u172_2.keep K229 (ninS ne183 (ninS ne184 nin0)))
                have f240 := (u172_7.keep K229 (ninS ne185 (ninS ne186 nin0)))
                have z242 : h0.size ≤ (T229.heap).size := (Nat.le_trans z230 K229.1)
                have f243 := (u172_0.keep K229)
                obtain ⟨cq241, kq241, q241a, q241b, q241c⟩ := isOf hZ rfl f243
                obtain ⟨_, _, ⟨T241, L241, k241, n241⟩, -, X241, ⟨Lc241, hQ241, l241, y241, z241⟩, st241⟩ := X229.virtualBack hx (y := mN_RoutingTable_get) (z := mN_RoutingTable_get) hown (mvT hZ (own_w hw 129 rfl)) (mvT hZ (own_w hw 130 rfl)) (notFace_of_selects (args := #[]) (mvT hZ (own_w hw 132 rfl))) (mvT hZ (own_w hw 132 rfl)) (mvT hZ (own_w hw 131 rfl)) (by decide) (backOf (W := 0) (rmGN l Z a0 hw [] b34 rw_ cl rw47 kR47 (own_upd (fun _ => .null) pA (.ref r1172)) nd nr r1172 k1172 (own_upd (own_upd (fun _ => .null) cA (.ref b12)) cB (.ref b22)) bn nc T229.heap n0 (Nat.le_trans Z0 z242) f239 f240 Hnr Hnr1 (by rw [hr]; exact own_upd_same _ _ _) u229_1 Hnc Hnc1 (by rw [own_upd_ne _ _ (fun z => hc (z.trans hcq))]; exact own_upd_ne _ _ hc)) hZ (own_w hw 133 rfl) (own_w hw 54 rfl) (by decide) (by decide)) q241a q241c (g := (mkF m 175 (own_lw x0 x1 x2 x3 ra rb bp x_ dg mk ov av bv rw_ cl b1 b4 b12 b22 b34) [(.int cl), (.int rw_), (.ref b34)])) rfl (by rw [hml]; rfl) (Steps.refl _) (argsL := [(.int rw_), (.int cl)]) (rest := []) (lenOf pd_17 rfl) rfl (by show 2 * 0 + _ ≤ _; exact Nat.le_of_eq rfl) (hb hby at_175) (fun _ _ => ⟨rfl, rfl, (by decide : 10 + 0 ≤ _), (by decide : 57 + 0 ≤ _)⟩)
                dsimp only [Pt.U, Pt.locs, Pt.cells, Pt.slots] at X241 l241 y241 z241 st241 hQ241
                replace l241 := l241.symm
                subst l241 y241 z241
                obtain ⟨rfl, rfl, e241⟩ := hQ241
                first | rw [List.append_nil] at X241 | skip
                refine Goes.tr st241 ?_
                have e241' : T241.heap = T229.heap := e241
                show Goes p e below _ (T241.setTop (mkF m 178 (own_lw x0 x1 x2 x3 ra rb bp x_ dg mk ov av bv rw_ cl b1 b4 b12 b22 b34) [.null]))
                refine Goes.via (fun _ kk_ => XS.astore X241.here hx rfl (hb hby at_178) rfl rfl (l' := (own_l0 x0 x1 x2 x3 ra rb bp x_ dg mk ov av bv rw_ cl b1 b4 b12 b22 b34)) rfl kk_) ?_
                show Goes p e below _ (T241.setTop (mkF m 180 (own_l0 x0 x1 x2 x3 ra rb bp x_ dg mk ov av bv rw_ cl b1 b4 b12 b22 b34) []))
                have K244 : Keep h0 T229.heap [] := (((((((((((((Keep.refl h0 []).ext E1).trans K2 (allS (Or.inr sz_b1) all0)).ext E4).trans K10 (allS (Or.inr sz_b4) all0)).ext E12).trans K20 (allS (Or.inr sz_b12) all0)).ext E22).trans K32 (allS (Or.inr sz_b22) all0)).ext E34).trans K47 (allS (Or.inr sz_b34) all0)).trans K172 (allS (Or.inr sz_b34) (allS (Or.inr sz_rw47) (allS (Or.inr sz_rl47) (allS (Or.inr sz_fl47) all0))))).trans K229 (allS (Or.inr sz_r1172) (allS (Or.inr sz_r2172) all0)))
                have f245 := (f225.keep K229)
                have f246 := (f215.keep K229)
                have hEq := e241'
                rw [← hEq] at K244 f245 f246
                exact J0 _ _ (X241.more (by decide) (by decide)) N229 K244 f245 f246 (⟨(fun z => hc z.2.2.symm), (fun z => hc (z.2.2.symm.trans hcq))⟩)
            · skip
              refine gAL X229 hx hby at_169 rfl rfl ?_
              refine gIL X229 hx hby at_171 rfl ?_
              refine gIL X229 hx hby at_173 rfl ?_
              have f247 := (u172_2.keep K229 (ninS ne183 (ninS ne184 nin0)))
              have f248 := (u172_7.keep K229 (ninS ne185 (ninS ne186 nin0)))
              have z250 : h0.size ≤ (T229.heap).size := (Nat.le_trans z230 K229.1)
              have f251 := (u172_0.keep K229)
              obtain ⟨cq249, kq249, q249a, q249b, q249c⟩ := isOf hZ rfl f251
              obtain ⟨_, _, ⟨T249, L249, k249, n249⟩, -, X249, ⟨Lc249, hQ249, l249, y249, z249⟩, st249⟩ := X229.virtualBack hx (y := mN_RoutingTable_get) (z := mN_RoutingTable_get) hown (mvT hZ (own_w hw 129 rfl)) (mvT hZ (own_w hw 130 rfl)) (notFace_of_selects (args := #[]) (mvT hZ (own_w hw 132 rfl))) (mvT hZ (own_w hw 132 rfl)) (mvT hZ (own_w hw 131 rfl)) (by decide) (backOf (W := 0) (rmG0 l Z a0 hw [] b34 rw_ cl rw47 kR47 (own_upd (fun _ => .null) pA (.ref r1172)) nd nr T229.heap n0 (Nat.le_trans Z0 z250) f247 f248 Hnr Hnr1 (own_upd_ne _ _ hr)) hZ (own_w hw 133 rfl) (own_w hw 54 rfl) (by decide) (by decide)) q249a q249c (g := (mkF m 175 (own_lw x0 x1 x2 x3 ra rb bp x_ dg mk ov av bv rw_ cl b1 b4 b12 b22 b34) [(.int cl), (.int rw_), (.ref b34)])) rfl (by rw [hml]; rfl) (Steps.refl _) (argsL := [(.int rw_), (.int cl)]) (rest := []) (lenOf pd_17 rfl) rfl (by show 2 * 0 + _ ≤ _; exact Nat.le_of_eq rfl) (hb hby at_175) (fun _ _ => ⟨rfl, rfl, (by decide : 10 + 0 ≤ _), (by decide : 57 + 0 ≤ _)⟩)
              dsimp only [Pt.U, Pt.locs, Pt.cells, Pt.slots] at X249 l249 y249 z249 st249 hQ249
              replace l249 := l249.symm
              subst l249 y249 z249
              obtain ⟨rfl, rfl, e249⟩ := hQ249
              first | rw [List.append_nil] at X249 | skip
              refine Goes.tr st249 ?_
              have e249' : T249.heap = T229.heap := e249
              show Goes p e below _ (T249.setTop (mkF m 178 (own_lw x0 x1 x2 x3 ra rb bp x_ dg mk ov av bv rw_ cl b1 b4 b12 b22 b34) [.null]))
              refine Goes.via (fun _ kk_ => XS.astore X249.here hx rfl (hb hby at_178) rfl rfl (l' := (own_l0 x0 x1 x2 x3 ra rb bp x_ dg mk ov av bv rw_ cl b1 b4 b12 b22 b34)) rfl kk_) ?_
              show Goes p e below _ (T249.setTop (mkF m 180 (own_l0 x0 x1 x2 x3 ra rb bp x_ dg mk ov av bv rw_ cl b1 b4 b12 b22 b34) []))
              have K252 : Keep h0 T229.heap [] := (((((((((((((Keep.refl h0 []).ext E1).trans K2 (allS (Or.inr sz_b1) all0)).ext E4).trans K10 (allS (Or.inr sz_b4) all0)).ext E12).trans K20 (allS (Or.inr sz_b12) all0)).ext E22).trans K32 (allS (Or.inr sz_b22) all0)).ext E34).trans K47 (allS (Or.inr sz_b34) all0)).trans K172 (allS (Or.inr sz_b34) (allS (Or.inr sz_rw47) (allS (Or.inr sz_rl47) (allS (Or.inr sz_fl47) all0))))).trans K229 (allS (Or.inr sz_r1172) (allS (Or.inr sz_r2172) all0)))
              have f253 := (f225.keep K229)
              have f254 := (f215.keep K229)
              have hEq := e249'
              rw [← hEq] at K252 f253 f254
              exact J0 _ _ (X249.more (by decide) (by decide)) N229 K252 f253 f254 (⟨(fun z => hr z.2.1.symm), (fun z => hr (z.2.1.symm.trans hpq))⟩)
          · skip
            refine gAL X172 hx hby at_159 rfl rfl ?_
            refine gAL X172 hx hby at_161 rfl rfl ?_
            refine Goes.via (fun _ kk_ => XS.lload X172.here hx rfl (hb hby at_163) rfl  kk_) ?_
            show Goes p e below _ (T172.setTop (mkF m 165 (own_lw x0 x1 x2 x3 ra rb bp x_ dg mk ov av bv rw_ cl b1 b4 b12 b22 b34) [(.long rb), (.ref b22), (.ref b34)]))
            have f255 := (f161.keep K172)
            have f256 := (f177.keep K172)
            have f257 := (f163.keep K172 (ninS ne38 (ninS ne50 (ninS ne56 (ninS ne60 nin0)))))
            have f258 := (f164.keep K172 (ninS ne38 (ninS ne50 (ninS ne56 (ninS ne60 nin0)))))
            have f259 := (f165.keep K172 (ninS ne38 (ninS ne50 (ninS ne56 (ninS ne60 nin0)))))
            have f260 := (((u32_1.ext E34).keep K47 (ninS ne41 nin0)).keep K172 (ninS ne41 (ninS ne54 (ninS ne58 (ninS ne62 nin0)))))
            have f261 := (((u32_2.ext E34).keep K47 (ninS ne41 nin0)).keep K172 (ninS ne41 (ninS ne54 (ninS ne58 (ninS ne62 nin0)))))
            have f262 := (((u32_3.ext E34).keep K47 (ninS ne41 nin0)).keep K172 (ninS ne41 (ninS ne54 (ninS ne58 (ninS ne62 nin0)))))
            have f263 := (f169.keep K172)
            have f264 := (f170.keep K172 (ninS ne36 (ninS ne49 (ninS ne55 (ninS ne59 nin0)))))
            have f265 := (f171.keep K172 (ninS ne36 (ninS ne49 (ninS ne55 (ninS ne59 nin0)))))
            have f266 := (f162.keep K172)
            have f267 := (f166.keep K172 (ninS ne40 (ninS ne52 (ninS ne57 (ninS ne61 nin0)))))
            have f268 := (f167.keep K172 (ninS ne40 (ninS ne52 (ninS ne57 (ninS ne61 nin0)))))
            have f269 := (f168.keep K172 (ninS ne40 (ninS ne52 (ninS ne57 (ninS ne61 nin0)))))
            have z271 : h0.size ≤ (T172.heap).size := (Nat.le_trans z173 K172.1)
            obtain ⟨cq270, kq270, q270a, q270b, q270c⟩ := isOf hZ rfl u172_0
            obtain ⟨_, _, ⟨T270, L270, k270, n270⟩, -, X270, ⟨Lc270, hQ270, l270, y270, z270⟩, st270⟩ := X172.virtualBack hx (y := mN_RoutingTable_offer) (z := mN_RoutingTable_offer) hown (mvT hZ (own_w hw 82 rfl)) (mvT hZ (own_w hw 83 rfl)) (notFace_of_selects (args := #[]) (mvT hZ (own_w hw 85 rfl))) (mvT hZ (own_w hw 85 rfl)) (mvT hZ (own_w hw 84 rfl)) (by decide) (backOf (W := 0) (rmOU l Z a0 hw [] b34 b22 rb b4 b1 (ov.toInt64) (bv.toInt64) x_ dg bp rw47 rl47 fl47 kR47 kK47 kF47 (own_upd (fun _ => .null) pA (.ref r1172)) (own_upd (fun _ => .null) pA (.ref r2172)) fF'172 fo'172 nd bn pB cB r1172 r2172 k1172 k2172 (own_upd (fun _ => .null) cA (.ref b12)) (own_upd (fun _ => (.long 0)) cA (.long ra)) ra b12 (av.toInt64) T172.heap n0 (Nat.le_trans Z0 z271) u172_0 u172_1 u172_2 u172_3 u172_4 u172_5 f255 f256 (Ne.symm ne26) f257 f258 f259 f260 f261 f262 f263 f264 f265 HB u172_6 u172_7 u172_8 u172_9 u172_10 u172_11 (fun z => hB (own_64i z)) (hpB hB).1 (hpB hB).2.1 (hpB hB).2.2.1 (hpB hB).2.2.2.1 Hbn Hb16 h3nd u172_19 u172_20 u172_14 u172_15 u172_16 u172_17 (by rw [hpq]; exact own_upd_same _ _ _) (by rw [hpq]; exact own_upd_same _ _ _) (by rw [hcq]; exact own_upd_same _ _ _) u172_18 gn_r1172 gn_r2172 (by rw [hcq]; exact own_upd_same _ _ _) (Ne.symm ne27) (by rw [own_tkP hca.1.1 hcb.1.1, if_neg hT]) f266 f267 f268 f269) hZ (own_w hw 86 rfl) (own_w hw 54 rfl) (by decide) (by decide)) q270a q270c (g := (mkF m 165 (own_lw x0 x1 x2 x3 ra rb bp x_ dg mk ov av bv rw_ cl b1 b4 b12 b22 b34) [(.long rb), (.ref b22), (.ref b34)])) rfl (by rw [hml]; rfl) (Steps.refl _) (argsL := [(.ref b22), (.long rb)]) (rest := []) (lenOf pd_16 rfl) rfl (by show 2 * 0 + _ ≤ _; exact Nat.le_of_eq rfl) (hb hby at_165) (fun _ _ => ⟨rfl, rfl, (by decide : 10 + 0 ≤ _), (by decide : 57 + 0 ≤ _)⟩)
            dsimp only [Pt.U, Pt.locs, Pt.cells, Pt.slots] at X270 l270 y270 z270 st270 hQ270
            replace l270 := l270.symm
            subst l270 y270 z270
            obtain ⟨rfl, rfl, e270⟩ := hQ270
            first | rw [List.append_nil] at X270 | skip
            refine Goes.tr st270 ?_
            have e270' : T270.heap = T172.heap := e270
            show Goes p e below _ (T270.setTop (mkF m 168 (own_lw x0 x1 x2 x3 ra rb bp x_ dg mk ov av bv rw_ cl b1 b4 b12 b22 b34) [(.int (0 : Int32))]))
            refine Goes.via (fun _ kk_ => XS.pop X270.here hx rfl (hb hby at_168) rfl rfl kk_) ?_
            show Goes p e below _ (T270.setTop (mkF m 169 (own_lw x0 x1 x2 x3 ra rb bp x_ dg mk ov av bv rw_ cl b1 b4 b12 b22 b34) []))
            by_cases hr : nr = pA
            · skip
              by_cases hc : nc = cA
              · skip
                refine gAL X270 hx hby at_169 rfl rfl ?_
                refine gIL X270 hx hby at_171 rfl ?_
                refine gIL X270 hx hby at_173 rfl ?_
                obtain ⟨cq272, kq272, q272a, q272b, q272c⟩ := isOf hZ e270' u172_0
                obtain ⟨_, _, ⟨T272, L272, k272, n272⟩, -, X272, ⟨Lc272, hQ272, l272, y272, z272⟩, st272⟩ := X270.virtualBack hx (y := mN_RoutingTable_get) (z := mN_RoutingTable_get) hown (mvT hZ (own_w hw 129 rfl)) (mvT hZ (own_w hw 130 rfl)) (notFace_of_selects (args := #[]) (mvT hZ (own_w hw 132 rfl))) (mvT hZ (own_w hw 132 rfl)) (mvT hZ (own_w hw 131 rfl)) (by decide) (backOf (W := 0) (rmGR l Z a0 hw [] b34 rw_ cl rw47 kR47 (own_upd (fun _ => .null) pA (.ref r1172)) nd nr r1172 k1172 (own_upd (fun _ => .null) cA (.ref b12)) bn nc b12 T172.heap n0 (Nat.le_trans Z0 z271) u172_2 u172_7 Hnr Hnr1 (by rw [hr]; exact own_upd_same _ _ _) u172_15 Hnc Hnc1 (by rw [hc]; exact own_upd_same _ _ _)) hZ (own_w hw 133 rfl) (own_w hw 54 rfl) (by decide) (by decide)) q272a q272c (g := (mkF m 175 (own_lw x0 x1 x2 x3 ra rb bp x_ dg mk ov av bv rw_ cl b1 b4 b12 b22 b34) [(.int cl), (.int rw_), (.ref b34)])) rfl (by rw [hml]; rfl) (Steps.refl _) (argsL := [(.int rw_), (.int cl)]) (rest := []) (lenOf pd_17 rfl) rfl (by show 2 * 0 + _ ≤ _; exact Nat.le_of_eq rfl) (hb hby at_175) (fun _ _ => ⟨rfl, e270', (by decide : 10 + 0 ≤ _), (by decide : 57 + 0 ≤ _)⟩)
                dsimp only [Pt.U, Pt.locs, Pt.cells, Pt.slots] at X272 l272 y272 z272 st272 hQ272
                replace l272 := l272.symm
                subst l272 y272 z272
                obtain ⟨rfl, rfl, e272⟩ := hQ272
                first | rw [List.append_nil] at X272 | skip
                refine Goes.tr st272 ?_
                have e272' : T272.heap = T172.heap := e272
                show Goes p e below _ (T272.setTop (mkF m 178 (own_lw x0 x1 x2 x3 ra rb bp x_ dg mk ov av bv rw_ cl b1 b4 b12 b22 b34) [(.ref b12)]))
                refine Goes.via (fun _ kk_ => XS.astore X272.here hx rfl (hb hby at_178) rfl rfl (l' := (own_lA x0 x1 x2 x3 ra rb bp x_ dg mk ov av bv rw_ cl b1 b4 b12 b22 b34)) rfl kk_) ?_
                show Goes p e below _ (T272.setTop (mkF m 180 (own_lA x0 x1 x2 x3 ra rb bp x_ dg mk ov av bv rw_ cl b1 b4 b12 b22 b34) []))
                have K273 : Keep h0 T172.heap [] := ((((((((((((Keep.refl h0 []).ext E1).trans K2 (allS (Or.inr sz_b1) all0)).ext E4).trans K10 (allS (Or.inr sz_b4) all0)).ext E12).trans K20 (allS (Or.inr sz_b12) all0)).ext E22).trans K32 (allS (Or.inr sz_b22) all0)).ext E34).trans K47 (allS (Or.inr sz_b34) all0)).trans K172 (allS (Or.inr sz_b34) (allS (Or.inr sz_rw47) (allS (Or.inr sz_rl47) (allS (Or.inr sz_fl47) all0)))))
                have hEq := e272'
                rw [← hEq] at K273 f266 f256
                exact JA _ _ (X272.more (by decide) (by decide)) N172 K273 f266 f256 (⟨⟨hA, hr.symm, hc.symm⟩, fun _ => hT⟩)
              · skip
                refine gAL X270 hx hby at_169 rfl rfl ?_
                refine gIL X270 hx hby at_171 rfl ?_
                refine gIL X270 hx hby at_173 rfl ?_
                obtain ⟨cq274, kq274, q274a, q274b, q274c⟩ := isOf hZ e270' u172_0
                obtain ⟨_, _, ⟨T274, L274, k274, n274⟩, -, X274, ⟨Lc274, hQ274, l274, y274, z274⟩, st274⟩ := X270.virtualBack hx (y := mN_RoutingTable_get) (z := mN_RoutingTable_get) hown (mvT hZ (own_w hw 129 rfl)) (mvT hZ (own_w hw 130 rfl)) (notFace_of_selects (args := #[]) (mvT hZ (own_w hw 132 rfl))) (mvT hZ (own_w hw 132 rfl)) (mvT hZ (own_w hw 131 rfl)) (by decide) (backOf (W := 0) (rmGN l Z a0 hw [] b34 rw_ cl rw47 kR47 (own_upd (fun _ => .null) pA (.ref r1172)) nd nr r1172 k1172 (own_upd (fun _ => .null) cA (.ref b12)) bn nc T172.heap n0 (Nat.le_trans Z0 z271) u172_2 u172_7 Hnr Hnr1 (by rw [hr]; exact own_upd_same _ _ _) u172_15 Hnc Hnc1 (own_upd_ne _ _ hc)) hZ (own_w hw 133 rfl) (own_w hw 54 rfl) (by decide) (by decide)) q274a q274c (g := (mkF m 175 (own_lw x0 x1 x2 x3 ra rb bp x_ dg mk ov av bv rw_ cl b1 b4 b12 b22 b34) [(.int cl), (.int rw_), (.ref b34)])) rfl (by rw [hml]; rfl) (Steps.refl _) (argsL := [(.int rw_), (.int cl)]) (rest := []) (lenOf pd_17 rfl) rfl (by show 2 * 0 + _ ≤ _; exact Nat.le_of_eq rfl) (hb hby at_175) (fun _ _ => ⟨rfl, e270', (by decide : 10 + 0 ≤ _), (by decide : 57 + 0 ≤ _)⟩)
                dsimp only [Pt.U, Pt.locs, Pt.cells, Pt.slots] at X274 l274 y274 z274 st274 hQ274
                replace l274 := l274.symm
                subst l274 y274 z274
                obtain ⟨rfl, rfl, e274⟩ := hQ274
                first | rw [List.append_nil] at X274 | skip
                refine Goes.tr st274 ?_
                have e274' : T274.heap = T172.heap := e274
                show Goes p e below _ (T274.setTop (mkF m 178 (own_lw x0 x1 x2 x3 ra rb bp x_ dg mk ov av bv rw_ cl b1 b4 b12 b22 b34) [.null]))
                refine Goes.via (fun _ kk_ => XS.astore X274.here hx rfl (hb hby at_178) rfl rfl (l' := (own_l0 x0 x1 x2 x3 ra rb bp x_ dg mk ov av bv rw_ cl b1 b4 b12 b22 b34)) rfl kk_) ?_
                show Goes p e below _ (T274.setTop (mkF m 180 (own_l0 x0 x1 x2 x3 ra rb bp x_ dg mk ov av bv rw_ cl b1 b4 b12 b22 b34) []))
                have K275 : Keep h0 T172.heap [] := ((((((((((((Keep.refl h0 []).ext E1).trans K2 (allS (Or.inr sz_b1) all0)).ext E4).trans K10 (allS (Or.inr sz_b4) all0)).ext E12).trans K20 (allS (Or.inr sz_b12) all0)).ext E22).trans K32 (allS (Or.inr sz_b22) all0)).ext E34).trans K47 (allS (Or.inr sz_b34) all0)).trans K172 (allS (Or.inr sz_b34) (allS (Or.inr sz_rw47) (allS (Or.inr sz_rl47) (allS (Or.inr sz_fl47) all0)))))
                have hEq := e274'
                rw [← hEq] at K275 f266 f256
                exact J0 _ _ (X274.more (by decide) (by decide)) N172 K275 f266 f256 (⟨(fun z => hc z.2.2.symm), (fun z => hc (z.2.2.symm.trans hcq))⟩)
            · skip
              refine gAL X270 hx hby at_169 rfl rfl ?_
              refine gIL X270 hx hby at_171 rfl ?_
              refine gIL X270 hx hby at_173 rfl ?_
              obtain ⟨cq276, kq276, q276a, q276b, q276c⟩ := isOf hZ e270' u172_0
              obtain ⟨_, _, ⟨T276, L276, k276, n276⟩, -, X276, ⟨Lc276, hQ276, l276, y276, z276⟩, st276⟩ := X270.virtualBack hx (y := mN_RoutingTable_get) (z := mN_RoutingTable_get) hown (mvT hZ (own_w hw 129 rfl)) (mvT hZ (own_w hw 130 rfl)) (notFace_of_selects (args := #[]) (mvT hZ (own_w hw 132 rfl))) (mvT hZ (own_w hw 132 rfl)) (mvT hZ (own_w hw 131 rfl)) (by decide) (backOf (W := 0) (rmG0 l Z a0 hw [] b34 rw_ cl rw47 kR47 (own_upd (fun _ => .null) pA (.ref r1172)) nd nr T172.heap n0 (Nat.le_trans Z0 z271) u172_2 u172_7 Hnr Hnr1 (own_upd_ne _ _ hr)) hZ (own_w hw 133 rfl) (own_w hw 54 rfl) (by decide) (by decide)) q276a q276c (g := (mkF m 175 (own_lw x0 x1 x2 x3 ra rb bp x_ dg mk ov av bv rw_ cl b1 b4 b12 b22 b34) [(.int cl), (.int rw_), (.ref b34)])) rfl (by rw [hml]; rfl) (Steps.refl _) (argsL := [(.int rw_), (.int cl)]) (rest := []) (lenOf pd_17 rfl) rfl (by show 2 * 0 + _ ≤ _; exact Nat.le_of_eq rfl) (hb hby at_175) (fun _ _ => ⟨rfl, e270', (by decide : 10 + 0 ≤ _), (by decide : 57 + 0 ≤ _)⟩)
              dsimp only [Pt.U, Pt.locs, Pt.cells, Pt.slots] at X276 l276 y276 z276 st276 hQ276
              replace l276 := l276.symm
              subst l276 y276 z276
              obtain ⟨rfl, rfl, e276⟩ := hQ276
              first | rw [List.append_nil] at X276 | skip
              refine Goes.tr st276 ?_
              have e276' : T276.heap = T172.heap := e276
              show Goes p e below _ (T276.setTop (mkF m 178 (own_lw x0 x1 x2 x3 ra rb bp x_ dg mk ov av bv rw_ cl b1 b4 b12 b22 b34) [.null]))
              refine Goes.via (fun _ kk_ => XS.astore X276.here hx rfl (hb hby at_178) rfl rfl (l' := (own_l0 x0 x1 x2 x3 ra rb bp x_ dg mk ov av bv rw_ cl b1 b4 b12 b22 b34)) rfl kk_) ?_
              show Goes p e below _ (T276.setTop (mkF m 180 (own_l0 x0 x1 x2 x3 ra rb bp x_ dg mk ov av bv rw_ cl b1 b4 b12 b22 b34) []))
              have K277 : Keep h0 T172.heap [] := ((((((((((((Keep.refl h0 []).ext E1).trans K2 (allS (Or.inr sz_b1) all0)).ext E4).trans K10 (allS (Or.inr sz_b4) all0)).ext E12).trans K20 (allS (Or.inr sz_b12) all0)).ext E22).trans K32 (allS (Or.inr sz_b22) all0)).ext E34).trans K47 (allS (Or.inr sz_b34) all0)).trans K172 (allS (Or.inr sz_b34) (allS (Or.inr sz_rw47) (allS (Or.inr sz_rl47) (allS (Or.inr sz_fl47) all0)))))
              have hEq := e276'
              rw [← hEq] at K277 f266 f256
              exact J0 _ _ (X276.more (by decide) (by decide)) N172 K277 f266 f256 (⟨(fun z => hr z.2.1.symm), (fun z => hr (z.2.1.symm.trans hpq))⟩)
        · skip
          refine gAL X172 hx hby at_159 rfl rfl ?_
          refine gAL X172 hx hby at_161 rfl rfl ?_
          refine Goes.via (fun _ kk_ => XS.lload X172.here hx rfl (hb hby at_163) rfl  kk_) ?_
          show Goes p e below _ (T172.setTop (mkF m 165 (own_lw x0 x1 x2 x3 ra rb bp x_ dg mk ov av bv rw_ cl b1 b4 b12 b22 b34) [(.long rb), (.ref b22), (.ref b34)]))
          have f278 := (f161.keep K172)
          have f279 := (f177.keep K172)
          have f280 := (f163.keep K172 (ninS ne38 (ninS ne50 (ninS ne56 (ninS ne60 nin0)))))
          have f281 := (f164.keep K172 (ninS ne38 (ninS ne50 (ninS ne56 (ninS ne60 nin0)))))
          have f282 := (f165.keep K172 (ninS ne38 (ninS ne50 (ninS ne56 (ninS ne60 nin0)))))
          have f283 := (((u32_1.ext E34).keep K47 (ninS ne41 nin0)).keep K172 (ninS ne41 (ninS ne54 (ninS ne58 (ninS ne62 nin0)))))
          have f284 := (((u32_2.ext E34).keep K47 (ninS ne41 nin0)).keep K172 (ninS ne41 (ninS ne54 (ninS ne58 (ninS ne62 nin0)))))
          have f285 := (((u32_3.ext E34).keep K47 (ninS ne41 nin0)).keep K172 (ninS ne41 (ninS ne54 (ninS ne58 (ninS ne62 nin0)))))
          have f286 := (f169.keep K172)
          have f287 := (f170.keep K172 (ninS ne36 (ninS ne49 (ninS ne55 (ninS ne59 nin0)))))
          have f288 := (f171.keep K172 (ninS ne36 (ninS ne49 (ninS ne55 (ninS ne59 nin0)))))
          have z290 : h0.size ≤ (T172.heap).size := (Nat.le_trans z173 K172.1)
          obtain ⟨cq289, kq289, q289a, q289b, q289c⟩ := isOf hZ rfl u172_0
          obtain ⟨_, _, ⟨T289, L289, k289, n289⟩, -, X289, ⟨Lc289, hQ289, l289, y289, z289⟩, st289⟩ := X172.virtualBack hx (y := mN_RoutingTable_offer) (z := mN_RoutingTable_offer) hown (mvT hZ (own_w hw 82 rfl)) (mvT hZ (own_w hw 83 rfl)) (notFace_of_selects (args := #[]) (mvT hZ (own_w hw 85 rfl))) (mvT hZ (own_w hw 85 rfl)) (mvT hZ (own_w hw 84 rfl)) (by decide) (backOf (W := 0) (rmOS l Z a0 hw [] b34 b22 rb b4 b1 (ov.toInt64) (bv.toInt64) x_ dg bp rw47 rl47 fl47 kR47 kK47 kF47 (own_upd (fun _ => .null) pA (.ref r1172)) (own_upd (fun _ => .null) pA (.ref r2172)) fF'172 fo'172 nd bn pB cB r1172 r2172 k1172 k2172 (own_upd (fun _ => .null) cA (.ref b12)) (own_upd (fun _ => (.long 0)) cA (.long ra)) (0 : Int64) T172.heap n0 (Nat.le_trans Z0 z290) u172_0 u172_1 u172_2 u172_3 u172_4 u172_5 f278 f279 (Ne.symm ne26) f280 f281 f282 f283 f284 f285 f286 f287 f288 HB u172_6 u172_7 u172_8 u172_9 u172_10 u172_11 (fun z => hB (own_64i z)) (hpB hB).1 (hpB hB).2.1 (hpB hB).2.2.1 (hpB hB).2.2.2.1 Hbn Hb16 h3nd u172_19 u172_20 u172_14 u172_15 u172_16 u172_17 (by rw [hpq]; exact own_upd_same _ _ _) (by rw [hpq]; exact own_upd_same _ _ _) (own_upd_ne _ _ hcq) u172_18 gn_b34 gn_fl47 gn_r1172 gn_r2172 (own_upd_ne _ _ hcq)) hZ (own_w hw 86 rfl) (own_w hw 54 rfl) (by decide) (by decide)) q289a q289c (g := (mkF m 165 (own_lw x0 x1 x2 x3 ra rb bp x_ dg mk ov av bv rw_ cl b1 b4 b12 b22 b34) [(.long rb), (.ref b22), (.ref b34)])) rfl (by rw [hml]; rfl) (Steps.refl _) (argsL := [(.ref b22), (.long rb)]) (rest := []) (lenOf pd_16 rfl) rfl (by show 2 * 0 + _ ≤ _; exact Nat.le_of_eq rfl) (hb hby at_165) (fun _ _ => ⟨rfl, rfl, (by decide : 10 + 0 ≤ _), (by decide : 57 + 0 ≤ _)⟩)
          dsimp only [Pt.U, Pt.locs, Pt.cells, Pt.slots] at X289 l289 y289 z289 st289 hQ289
          replace l289 := l289.symm
          subst l289 y289 z289
          obtain ⟨fo'289, fF'289, rfl, N289q, K289, u289_0, u289_1, u289_2, u289_3, u289_4, u289_5, u289_6, u289_7, u289_8, u289_9, u289_10, u289_11, u289_12, u289_13⟩ := hQ289
          have N289 := Fr.app N172 N289q
          refine Goes.tr st289 ?_
          show Goes p e below _ (T289.setTop (mkF m 168 (own_lw x0 x1 x2 x3 ra rb bp x_ dg mk ov av bv rw_ cl b1 b4 b12 b22 b34) [(.int (1 : Int32))]))
          refine Goes.via (fun _ kk_ => XS.pop X289.here hx rfl (hb hby at_168) rfl rfl kk_) ?_
          show Goes p e below _ (T289.setTop (mkF m 169 (own_lw x0 x1 x2 x3 ra rb bp x_ dg mk ov av bv rw_ cl b1 b4 b12 b22 b34) []))
          by_cases hr : nr = pA
          · skip
            by_cases hc : nc = cB
            · skip
              refine gAL X289 hx hby at_169 rfl rfl ?_
              refine gIL X289 hx hby at_171 rfl ?_
              refine gIL X289 hx hby at_173 rfl ?_
              have f291 := (u172_7.keep K289 (ninS (Ne.symm ne63) (ninS ne67 (ninS ne185 (ninS ne186 nin0)))))
              have z293 : h0.size ≤ (T289.heap).size := (Nat.le_trans z290 K289.1)
              obtain ⟨cq292, kq292, q292a, q292b, q292c⟩ := isOf hZ rfl u289_0
              obtain ⟨_, _, ⟨T292, L292, k292, n292⟩, -, X292, ⟨Lc292, hQ292, l292, y292, z292⟩, st292⟩ := X289.virtualBack hx (y := mN_RoutingTable_get) (z := mN_RoutingTable_get) hown (mvT hZ (own_w hw 129 rfl)) (mvT hZ (own_w hw 130 rfl)) (notFace_of_selects (args := #[]) (mvT hZ (own_w hw 132 rfl))) (mvT hZ (own_w hw 132 rfl)) (mvT hZ (own_w hw 131 rfl)) (by decide) (backOf (W := 0) (rmGR l Z a0 hw [] b34 rw_ cl rw47 kR47 (own_upd (fun _ => .null) pA (.ref r1172)) nd nr r1172 k1172 (own_upd (own_upd (fun _ => .null) cA (.ref b12)) cB (.ref b22)) bn nc b22 T289.heap n0 (Nat.le_trans Z0 z293) u289_2 f291 Hnr Hnr1 (by rw [hr]; exact own_upd_same _ _ _) u289_9 Hnc Hnc1 (by rw [hc]; exact own_upd_same _ _ _)) hZ (own_w hw 133 rfl) (own_w hw 54 rfl) (by decide) (by decide)) q292a q292c (g := (mkF m 175 (own_lw x0 x1 x2 x3 ra rb bp x_ dg mk ov av bv rw_ cl b1 b4 b12 b22 b34) [(.int cl), (.int rw_), (.ref b34)])) rfl (by rw [hml]; rfl) (Steps.refl _) (argsL := [(.int rw_), (.int cl)]) (rest := []) (lenOf pd_17 rfl) rfl (by show 2 * 0 + _ ≤ _; exact Nat.le_of_eq rfl) (hb hby at_175) (fun _ _ => ⟨rfl, rfl, (by decide : 10 + 0 ≤ _), (by decide : 57 + 0 ≤ _)⟩)
              dsimp only [Pt.U, Pt.locs, Pt.cells, Pt.slots] at X292 l292 y292 z292 st292 hQ292
              replace l292 := l292.symm
              subst l292 y292 z292
              obtain ⟨rfl, rfl, e292⟩ := hQ292
              first | rw [List.append_nil] at X292 | skip
              refine Goes.tr st292 ?_
              have e292' : T292.heap = T289.heap := e292
              show Goes p e below _ (T292.setTop (mkF m 178 (own_lw x0 x1 x2 x3 ra rb bp x_ dg mk ov av bv rw_ cl b1 b4 b12 b22 b34) [(.ref b22)]))
              refine Goes.via (fun _ kk_ => XS.astore X292.here hx rfl (hb hby at_178) rfl rfl (l' := (own_lB x0 x1 x2 x3 ra rb bp x_ dg mk ov av bv rw_ cl b1 b4 b12 b22 b34)) rfl kk_) ?_
              show Goes p e below _ (T292.setTop (mkF m 180 (own_lB x0 x1 x2 x3 ra rb bp x_ dg mk ov av bv rw_ cl b1 b4 b12 b22 b34) []))
              have K294 : Keep h0 T289.heap [] := (((((((((((((Keep.refl h0 []).ext E1).trans K2 (allS (Or.inr sz_b1) all0)).ext E4).trans K10 (allS (Or.inr sz_b4) all0)).ext E12).trans K20 (allS (Or.inr sz_b12) all0)).ext E22).trans K32 (allS (Or.inr sz_b22) all0)).ext E34).trans K47 (allS (Or.inr sz_b34) all0)).trans K172 (allS (Or.inr sz_b34) (allS (Or.inr sz_rw47) (allS (Or.inr sz_rl47) (allS (Or.inr sz_fl47) all0))))).trans K289 (allS (Or.inr sz_b34) (allS (Or.inr sz_fl47) (allS (Or.inr sz_r1172) (allS (Or.inr sz_r2172) all0)))))
              have f295 := ((f162.keep K172).keep K289)
              have f296 := (f279.keep K289)
              have hEq := e292'
              rw [← hEq] at K294 f295 f296
              exact JB _ _ (X292.more (by decide) (by decide)) N289 K294 f295 f296 (⟨⟨hB, hpq.trans hr.symm, hc.symm⟩, fun z => absurd (hc.symm.trans z.2.2.symm) hcq⟩)
            · skip
              by_cases hc2 : nc = cA
              · skip
                refine gAL X289 hx hby at_169 rfl rfl ?_
                refine gIL X289 hx hby at_171 rfl ?_
                refine gIL X289 hx hby at_173 rfl ?_
                have f297 := (u172_7.keep K289 (ninS (Ne.symm ne63) (ninS ne67 (ninS ne185 (ninS ne186 nin0)))))
                have z299 : h0.size ≤ (T289.heap).size := (Nat.le_trans z290 K289.1)
                obtain ⟨cq298, kq298, q298a, q298b, q298c⟩ := isOf hZ rfl u289_0
                obtain ⟨_, _, ⟨T298, L298, k298, n298⟩, -, X298, ⟨Lc298, hQ298, l298, y298, z298⟩, st298⟩ := X289.virtualBack hx (y := mN_RoutingTable_get) (z := mN_RoutingTable_get) hown (mvT hZ (own_w hw 129 rfl)) (mvT hZ (own_w hw 130 rfl)) (notFace_of_selects (args := #[]) (mvT hZ (own_w hw 132 rfl))) (mvT hZ (own_w hw 132 rfl)) (mvT hZ (own_w hw 131 rfl)) (by decide) (backOf (W := 0) (rmGR l Z a0 hw [] b34 rw_ cl rw47 kR47 (own_upd (fun _ => .null) pA (.ref r1172)) nd nr r1172 k1172 (own_upd (own_upd (fun _ => .null) cA (.ref b12)) cB (.ref b22)) bn nc b12 T289.heap n0 (Nat.le_trans Z0 z299) u289_2 f297 Hnr Hnr1 (by rw [hr]; exact own_upd_same _ _ _) u289_9 Hnc Hnc1 (by rw [own_upd_ne _ _ hc, hc2]; exact own_upd_same _ _ _)) hZ (own_w hw 133 rfl) (own_w hw 54 rfl) (by decide) (by decide)) q298a q298c (g := (mkF m 175 (own_lw x0 x1 x2 x3 ra rb bp x_ dg mk ov av bv rw_ cl b1 b4 b12 b22 b34) [(.int cl), (.int rw_), (.ref b34)])) rfl (by rw [hml]; rfl) (Steps.refl _) (argsL := [(.int rw_), (.int cl)]) (rest := []) (lenOf pd_17 rfl) rfl (by show 2 * 0 + _ ≤ _; exact Nat.le_of_eq rfl) (hb hby at_175) (fun _ _ => ⟨rfl, rfl, (by decide : 10 + 0 ≤ _), (by decide : 57 + 0 ≤ _)⟩)
                dsimp only [Pt.U, Pt.locs, Pt.cells, Pt.slots] at X298 l298 y298 z298 st298 hQ298
                replace l298 := l298.symm
                subst l298 y298 z298
                obtain ⟨rfl, rfl, e298⟩ := hQ298
                first | rw [List.append_nil] at X298 | skip
                refine Goes.tr st298 ?_
                have e298' : T298.heap = T289.heap := e298
                show Goes p e below _ (T298.setTop (mkF m 178 (own_lw x0 x1 x2 x3 ra rb bp x_ dg mk ov av bv rw_ cl b1 b4 b12 b22 b34) [(.ref b12)]))
                refine Goes.via (fun _ kk_ => XS.astore X298.here hx rfl (hb hby at_178) rfl rfl (l' := (own_lA x0 x1 x2 x3 ra rb bp x_ dg mk ov av bv rw_ cl b1 b4 b12 b22 b34)) rfl kk_) ?_
                show Goes p e below _ (T298.setTop (mkF m 180 (own_lA x0 x1 x2 x3 ra rb bp x_ dg mk ov av bv rw_ cl b1 b4 b12 b22 b34) []))
                have K300 : Keep h0 T289.heap [] := (((((((((((((Keep.refl h0 []).ext E1).trans K2 (allS (Or.inr sz_b1) all0)).ext E4).trans K10 (allS (Or.inr sz_b4) all0)).ext E12).trans K20 (allS (Or.inr sz_b12) all0)).ext E22).trans K32 (allS (Or.inr sz_b22) all0)).ext E34).trans K47 (allS (Or.inr sz_b34) all0)).trans K172 (allS (Or.inr sz_b34) (allS (Or.inr sz_rw47) (allS (Or.inr sz_rl47) (allS (Or.inr sz_fl47) all0))))).trans K289 (allS (Or.inr sz_b34) (allS (Or.inr sz_fl47) (allS (Or.inr sz_r1172) (allS (Or.inr sz_r2172) all0)))))
                have f301 := ((f162.keep K172).keep K289)
                have f302 := (f279.keep K289)
                have hEq := e298'
                rw [← hEq] at K300 f301 f302
                exact JA _ _ (X298.more (by decide) (by decide)) N289 K300 f301 f302 (⟨⟨hA, hr.symm, hc2.symm⟩, fun z => absurd z.2.2.symm hc⟩)
              · skip
                refine gAL X289 hx hby at_169 rfl rfl ?_
                refine gIL X289 hx hby at_171 rfl ?_
                refine gIL X289 hx hby at_173 rfl ?_
                have f303 := (u172_7.keep K289 (ninS (Ne.symm ne63) (ninS ne67 (ninS ne185 (ninS ne186 nin0)))))
                have z305 : h0.size ≤ (T289.heap).size := (Nat.le_trans z290 K289.1)
                obtain ⟨cq304, kq304, q304a, q304b, q304c⟩ := isOf hZ rfl u289_0
                obtain ⟨_, _, ⟨T304, L304, k304, n304⟩, -, X304, ⟨Lc304, hQ304, l304, y304, z304⟩, st304⟩ := X289.virtualBack hx (y := mN_RoutingTable_get) (z := mN_RoutingTable_get) hown (mvT hZ (own_w hw 129 rfl)) (mvT hZ (own_w hw 130 rfl)) (notFace_of_selects (args := #[]) (mvT hZ (own_w hw 132 rfl))) (mvT hZ (own_w hw 132 rfl)) (mvT hZ (own_w hw 131 rfl)) (by decide) (backOf (W := 0) (rmGN l Z a0 hw [] b34 rw_ cl rw47 kR47 (own_upd (fun _ => .null) pA (.ref r1172)) nd nr r1172 k1172 (own_upd (own_upd (fun _ => .null) cA (.ref b12)) cB (.ref b22)) bn nc T289.heap n0 (Nat.le_trans Z0 z305) u289_2 f303 Hnr Hnr1 (by rw [hr]; exact own_upd_same _ _ _) u289_9 Hnc Hnc1 (by rw [own_upd_ne _ _ hc]; exact own_upd_ne _ _ hc2)) hZ (own_w hw 133 rfl) (own_w hw 54 rfl) (by decide) (by decide)) q304a q304c (g := (mkF m 175 (own_lw x0 x1 x2 x3 ra rb bp x_ dg mk ov av bv rw_ cl b1 b4 b12 b22 b34) [(.int cl), (.int rw_), (.ref b34)])) rfl (by rw [hml]; rfl) (Steps.refl _) (argsL := [(.int rw_), (.int cl)]) (rest := []) (lenOf pd_17 rfl) rfl (by show 2 * 0 + _ ≤ _; exact Nat.le_of_eq rfl) (hb hby at_175) (fun _ _ => ⟨rfl, rfl, (by decide : 10 + 0 ≤ _), (by decide : 57 + 0 ≤ _)⟩)
                dsimp only [Pt.U, Pt.locs, Pt.cells, Pt.slots] at X304 l304 y304 z304 st304 hQ304
                replace l304 := l304.symm
                subst l304 y304 z304
                obtain ⟨rfl, rfl, e304⟩ := hQ304
                first | rw [List.append_nil] at X304 | skip
                refine Goes.tr st304 ?_
                have e304' : T304.heap = T289.heap := e304
                show Goes p e below _ (T304.setTop (mkF m 178 (own_lw x0 x1 x2 x3 ra rb bp x_ dg mk ov av bv rw_ cl b1 b4 b12 b22 b34) [.null]))
                refine Goes.via (fun _ kk_ => XS.astore X304.here hx rfl (hb hby at_178) rfl rfl (l' := (own_l0 x0 x1 x2 x3 ra rb bp x_ dg mk ov av bv rw_ cl b1 b4 b12 b22 b34)) rfl kk_) ?_
                show Goes p e below _ (T304.setTop (mkF m 180 (own_l0 x0 x1 x2 x3 ra rb bp x_ dg mk ov av bv rw_ cl b1 b4 b12 b22 b34) []))
                have K306 : Keep h0 T289.heap [] := (((((((((((((Keep.refl h0 []).ext E1).trans K2 (allS (Or.inr sz_b1) all0)).ext E4).trans K10 (allS (Or.inr sz_b4) all0)).ext E12).trans K20 (allS (Or.inr sz_b12) all0)).ext E22).trans K32 (allS (Or.inr sz_b22) all0)).ext E34).trans K47 (allS (Or.inr sz_b34) all0)).trans K172 (allS (Or.inr sz_b34) (allS (Or.inr sz_rw47) (allS (Or.inr sz_rl47) (allS (Or.inr sz_fl47) all0))))).trans K289 (allS (Or.inr sz_b34) (allS (Or.inr sz_fl47) (allS (Or.inr sz_r1172) (allS (Or.inr sz_r2172) all0)))))
                have f307 := ((f162.keep K172).keep K289)
                have f308 := (f279.keep K289)
                have hEq := e304'
                rw [← hEq] at K306 f307 f308
                exact J0 _ _ (X304.more (by decide) (by decide)) N289 K306 f307 f308 (⟨fun z => hc2 z.2.2.symm, fun z => hc z.2.2.symm⟩)
          · skip
            refine gAL X289 hx hby at_169 rfl rfl ?_
            refine gIL X289 hx hby at_171 rfl ?_
            refine gIL X289 hx hby at_173 rfl ?_
            have f309 := (u172_7.keep K289 (ninS (Ne.symm ne63) (ninS ne67 (ninS ne185 (ninS ne186 nin0)))))
            have z311 : h0.size ≤ (T289.heap).size := (Nat.le_trans z290 K289.1)
            obtain ⟨cq310, kq310, q310a, q310b, q310c⟩ := isOf hZ rfl u289_0
            obtain ⟨_, _, ⟨T310, L310, k310, n310⟩, -, X310, ⟨Lc310, hQ310, l310, y310, z310⟩, st310⟩ := X289.virtualBack hx (y := mN_RoutingTable_get) (z := mN_RoutingTable_get) hown (mvT hZ (own_w hw 129 rfl)) (mvT hZ (own_w hw 130 rfl)) (notFace_of_selects (args := #[]) (mvT hZ (own_w hw 132 rfl))) (mvT hZ (own_w hw 132 rfl)) (mvT hZ (own_w hw 131 rfl)) (by decide) (backOf (W := 0) (rmG0 l Z a0 hw [] b34 rw_ cl rw47 kR47 (own_upd (fun _ => .null) pA (.ref r1172)) nd nr T289.heap n0 (Nat.le_trans Z0 z311) u289_2 f309 Hnr Hnr1 (own_upd_ne _ _ hr)) hZ (own_w hw 133 rfl) (own_w hw 54 rfl) (by decide) (by decide)) q310a q310c (g := (mkF m 175 (own_lw x0 x1 x2 x3 ra rb bp x_ dg mk ov av bv rw_ cl b1 b4 b12 b22 b34) [(.int cl), (.int rw_), (.ref b34)])) rfl (by rw [hml]; rfl) (Steps.refl _) (argsL := [(.int rw_), (.int cl)]) (rest := []) (lenOf pd_17 rfl) rfl (by show 2 * 0 + _ ≤ _; exact Nat.le_of_eq rfl) (hb hby at_175) (fun _ _ => ⟨rfl, rfl, (by decide : 10 + 0 ≤ _), (by decide : 57 + 0 ≤ _)⟩)
            dsimp only [Pt.U, Pt.locs, Pt.cells, Pt.slots] at X310 l310 y310 z310 st310 hQ310
            replace l310 := l310.symm
            subst l310 y310 z310
            obtain ⟨rfl, rfl, e310⟩ := hQ310
            first | rw [List.append_nil] at X310 | skip
            refine Goes.tr st310 ?_
            have e310' : T310.heap = T289.heap := e310
            show Goes p e below _ (T310.setTop (mkF m 178 (own_lw x0 x1 x2 x3 ra rb bp x_ dg mk ov av bv rw_ cl b1 b4 b12 b22 b34) [.null]))
            refine Goes.via (fun _ kk_ => XS.astore X310.here hx rfl (hb hby at_178) rfl rfl (l' := (own_l0 x0 x1 x2 x3 ra rb bp x_ dg mk ov av bv rw_ cl b1 b4 b12 b22 b34)) rfl kk_) ?_
            show Goes p e below _ (T310.setTop (mkF m 180 (own_l0 x0 x1 x2 x3 ra rb bp x_ dg mk ov av bv rw_ cl b1 b4 b12 b22 b34) []))
            have K312 : Keep h0 T289.heap [] := (((((((((((((Keep.refl h0 []).ext E1).trans K2 (allS (Or.inr sz_b1) all0)).ext E4).trans K10 (allS (Or.inr sz_b4) all0)).ext E12).trans K20 (allS (Or.inr sz_b12) all0)).ext E22).trans K32 (allS (Or.inr sz_b22) all0)).ext E34).trans K47 (allS (Or.inr sz_b34) all0)).trans K172 (allS (Or.inr sz_b34) (allS (Or.inr sz_rw47) (allS (Or.inr sz_rl47) (allS (Or.inr sz_fl47) all0))))).trans K289 (allS (Or.inr sz_b34) (allS (Or.inr sz_fl47) (allS (Or.inr sz_r1172) (allS (Or.inr sz_r2172) all0)))))
            have f313 := ((f162.keep K172).keep K289)
            have f314 := (f279.keep K289)
            have hEq := e310'
            rw [← hEq] at K312 f313 f314
            exact J0 _ _ (X310.more (by decide) (by decide)) N289 K312 f313 f314 (⟨fun z => hr z.2.1.symm, fun z => hr (z.2.1.symm.trans hpq)⟩)
      · skip
        refine gAL X172 hx hby at_159 rfl rfl ?_
        refine gAL X172 hx hby at_161 rfl rfl ?_
        refine Goes.via (fun _ kk_ => XS.lload X172.here hx rfl (hb hby at_163) rfl  kk_) ?_
        show Goes p e below _ (T172.setTop (mkF m 165 (own_lw x0 x1 x2 x3 ra rb bp x_ dg mk ov av bv rw_ cl b1 b4 b12 b22 b34) [(.long rb), (.ref b22), (.ref b34)]))
        have f315 := (f161.keep K172)
        have f316 := (f177.keep K172)
        have f317 := (f163.keep K172 (ninS ne38 (ninS ne50 (ninS ne56 (ninS ne60 nin0)))))
        have f318 := (f164.keep K172 (ninS ne38 (ninS ne50 (ninS ne56 (ninS ne60 nin0)))))
        have f319 := (f165.keep K172 (ninS ne38 (ninS ne50 (ninS ne56 (ninS ne60 nin0)))))
        have f320 := (((u32_1.ext E34).keep K47 (ninS ne41 nin0)).keep K172 (ninS ne41 (ninS ne54 (ninS ne58 (ninS ne62 nin0)))))
        have f321 := (((u32_2.ext E34).keep K47 (ninS ne41 nin0)).keep K172 (ninS ne41 (ninS ne54 (ninS ne58 (ninS ne62 nin0)))))
        have f322 := (((u32_3.ext E34).keep K47 (ninS ne41 nin0)).keep K172 (ninS ne41 (ninS ne54 (ninS ne58 (ninS ne62 nin0)))))
        have f323 := (f169.keep K172)
        have f324 := (f170.keep K172 (ninS ne36 (ninS ne49 (ninS ne55 (ninS ne59 nin0)))))
        have f325 := (f171.keep K172 (ninS ne36 (ninS ne49 (ninS ne55 (ninS ne59 nin0)))))
        have z327 : h0.size ≤ (T172.heap).size := (Nat.le_trans z173 K172.1)
        obtain ⟨cq326, kq326, q326a, q326b, q326c⟩ := isOf hZ rfl u172_0
        obtain ⟨_, _, ⟨T326, L326, k326, n326⟩, -, X326, ⟨Lc326, hQ326, l326, y326, z326⟩, st326⟩ := X172.virtualBack hx (y := mN_RoutingTable_offer) (z := mN_RoutingTable_offer) hown (mvT hZ (own_w hw 82 rfl)) (mvT hZ (own_w hw 83 rfl)) (notFace_of_selects (args := #[]) (mvT hZ (own_w hw 85 rfl))) (mvT hZ (own_w hw 85 rfl)) (mvT hZ (own_w hw 84 rfl)) (by decide) (backOf (W := 0) (rmON l Z a0 hw [] b34 b22 rb b4 b1 (ov.toInt64) (bv.toInt64) x_ dg bp rw47 rl47 fl47 kR47 kK47 kF47 (own_upd (fun _ => .null) pA (.ref r1172)) (own_upd (fun _ => .null) pA (.ref r2172)) fF'172 fo'172 nd bn pB cB T172.heap n0 (Nat.le_trans Z0 z327) u172_0 u172_1 u172_2 u172_3 u172_4 u172_5 f315 f316 (Ne.symm ne26) f317 f318 f319 f320 f321 f322 f323 f324 f325 HB u172_6 u172_7 u172_8 u172_9 u172_10 u172_11 (fun z => hB (own_64i z)) (hpB hB).1 (hpB hB).2.1 (hpB hB).2.2.1 (hpB hB).2.2.2.1 Hbn Hb16 h3nd u172_19 u172_20 u47_15 u47_16 gn_b34 gn_rw47 gn_rl47 gn_fl47 (own_upd_ne _ _ hpq)) hZ (own_w hw 86 rfl) (own_w hw 54 rfl) (by decide) (by decide)) q326a q326c (g := (mkF m 165 (own_lw x0 x1 x2 x3 ra rb bp x_ dg mk ov av bv rw_ cl b1 b4 b12 b22 b34) [(.long rb), (.ref b22), (.ref b34)])) rfl (by rw [hml]; rfl) (Steps.refl _) (argsL := [(.ref b22), (.long rb)]) (rest := []) (lenOf pd_16 rfl) rfl (by show 2 * 0 + _ ≤ _; exact Nat.le_of_eq rfl) (hb hby at_165) (fun _ _ => ⟨rfl, rfl, (by decide : 10 + 2 ≤ _), (by decide : 57 + 32 ≤ _)⟩)
        dsimp only [Pt.U, Pt.locs, Pt.cells, Pt.slots] at X326 l326 y326 z326 st326 hQ326
        replace l326 := l326.symm
        subst l326 y326 z326
        obtain ⟨r1326, r2326, k1326, k2326, fo'326, fF'326, rfl, N326q, K326, u326_0, u326_1, u326_2, u326_3, u326_4, u326_5, u326_6, u326_7, u326_8, u326_9, u326_10, u326_11, u326_12, u326_13, u326_14, u326_15, u326_16, u326_17, u326_18, u326_19, u326_20⟩ := hQ326
        have N326 := Fr.app N172 N326q
        refine Goes.tr st326 ?_
        have f330 := (f162.keep K172)
        show Goes p e below _ (T326.setTop (mkF m 168 (own_lw x0 x1 x2 x3 ra rb bp x_ dg mk ov av bv rw_ cl b1 b4 b12 b22 b34) [(.int (1 : Int32))]))
        refine Goes.via (fun _ kk_ => XS.pop X326.here hx rfl (hb hby at_168) rfl rfl kk_) ?_
        show Goes p e below _ (T326.setTop (mkF m 169 (own_lw x0 x1 x2 x3 ra rb bp x_ dg mk ov av bv rw_ cl b1 b4 b12 b22 b34) []))
        by_cases hr : nr = pB
        · skip
          by_cases hc : nc = cB
          · skip
            refine gAL X326 hx hby at_169 rfl rfl ?_
            refine gIL X326 hx hby at_171 rfl ?_
            refine gIL X326 hx hby at_173 rfl ?_
            have z351 : h0.size ≤ (T326.heap).size := (Nat.le_trans z327 K326.1)
            obtain ⟨cq350, kq350, q350a, q350b, q350c⟩ := isOf hZ rfl u326_0
            obtain ⟨_, _, ⟨T350, L350, k350, n350⟩, -, X350, ⟨Lc350, hQ350, l350, y350, z350⟩, st350⟩ := X326.virtualBack hx (y := mN_RoutingTable_get) (z := mN_RoutingTable_get) hown (mvT hZ (own_w hw 129 rfl)) (mvT hZ (own_w hw 130 rfl)) (notFace_of_selects (args := #[]) (mvT hZ (own_w hw 132 rfl))) (mvT hZ (own_w hw 132 rfl)) (mvT hZ (own_w hw 131 rfl)) (by decide) (backOf (W := 0) (rmGR l Z a0 hw [] b34 rw_ cl rw47 kR47 (own_upd (own_upd (fun _ => .null) pA (.ref r1172)) pB (.ref r1326)) nd nr r1326 k1326 (own_upd (fun _ => .null) cB (.ref b22)) bn nc b22 T326.heap n0 (Nat.le_trans Z0 z351) u326_2 u326_7 Hnr Hnr1 (by rw [hr]; exact own_upd_same _ _ _) u326_15 Hnc Hnc1 (by rw [hc]; exact own_upd_same _ _ _)) hZ (own_w hw 133 rfl) (own_w hw 54 rfl) (by decide) (by decide)) q350a q350c (g := (mkF m 175 (own_lw x0 x1 x2 x3 ra rb bp x_ dg mk ov av bv rw_ cl b1 b4 b12 b22 b34) [(.int cl), (.int rw_), (.ref b34)])) rfl (by rw [hml]; rfl) (Steps.refl _) (argsL := [(.int rw_), (.int cl)]) (rest := []) (lenOf pd_17 rfl) rfl (by show 2 * 0 + _ ≤ _; exact Nat.le_of_eq rfl) (hb hby at_175) (fun _ _ => ⟨rfl, rfl, (by decide : 12 + 0 ≤ _), (by decide : 89 + 0 ≤ _)⟩)
            dsimp only [Pt.U, Pt.locs, Pt.cells, Pt.slots] at X350 l350 y350 z350 st350 hQ350
            replace l350 := l350.symm
            subst l350 y350 z350
            obtain ⟨rfl, rfl, e350⟩ := hQ350
            first | rw [List.append_nil] at X350 | skip
            refine Goes.tr st350 ?_
            have e350' : T350.heap = T326.heap := e350
            show Goes p e below _ (T350.setTop (mkF m 178 (own_lw x0 x1 x2 x3 ra rb bp x_ dg mk ov av bv rw_ cl b1 b4 b12 b22 b34) [(.ref b22)]))
            refine Goes.via (fun _ kk_ => XS.astore X350.here hx rfl (hb hby at_178) rfl rfl (l' := (own_lB x0 x1 x2 x3 ra rb bp x_ dg mk ov av bv rw_ cl b1 b4 b12 b22 b34)) rfl kk_) ?_
            show Goes p e below _ (T350.setTop (mkF m 180 (own_lB x0 x1 x2 x3 ra rb bp x_ dg mk ov av bv rw_ cl b1 b4 b12 b22 b34) []))
            have K352 : Keep h0 T326.heap [] := (((((((((((((Keep.refl h0 []).ext E1).trans K2 (allS (Or.inr sz_b1) all0)).ext E4).trans K10 (allS (Or.inr sz_b4) all0)).ext E12).trans K20 (allS (Or.inr sz_b12) all0)).ext E22).trans K32 (allS (Or.inr sz_b22) all0)).ext E34).trans K47 (allS (Or.inr sz_b34) all0)).trans K172 (allS (Or.inr sz_b34) (allS (Or.inr sz_rw47) (allS (Or.inr sz_rl47) (allS (Or.inr sz_fl47) all0))))).trans K326 (allS (Or.inr sz_b34) (allS (Or.inr sz_rw47) (allS (Or.inr sz_rl47) (allS (Or.inr sz_fl47) all0)))))
            have f353 := (f330.keep K326)
            have f354 := (f316.keep K326)
            have hEq := e350'
            rw [← hEq] at K352 f353 f354
            exact JB _ _ (X350.more (by decide) (by decide)) N326 K352 f353 f354 (⟨⟨hB, hr.symm, hc.symm⟩, fun z => absurd (hr.symm.trans z.2.1.symm) hpq⟩)
          · skip
            refine gAL X326 hx hby at_169 rfl rfl ?_
            refine gIL X326 hx hby at_171 rfl ?_
            refine gIL X326 hx hby at_173 rfl ?_
            have z356 : h0.size ≤ (T326.heap).size := (Nat.le_trans z327 K326.1)
            obtain ⟨cq355, kq355, q355a, q355b, q355c⟩ := isOf hZ rfl u326_0
            obtain ⟨_, _, ⟨T355, L355, k355, n355⟩, -, X355, ⟨Lc355, hQ355, l355, y355, z355⟩, st355⟩ := X326.virtualBack hx (y := mN_RoutingTable_get) (z := mN_RoutingTable_get) hown (mvT hZ (own_w hw 129 rfl)) (mvT hZ (own_w hw 130 rfl)) (notFace_of_selects (args := #[]) (mvT hZ (own_w hw 132 rfl))) (mvT hZ (own_w hw 132 rfl)) (mvT hZ (own_w hw 131 rfl)) (by decide) (backOf (W := 0) (rmGN l Z a0 hw [] b34 rw_ cl rw47 kR47 (own_upd (own_upd (fun _ => .null) pA (.ref r1172)) pB (.ref r1326)) nd nr r1326 k1326 (own_upd (fun _ => .null) cB (.ref b22)) bn nc T326.heap n0 (Nat.le_trans Z0 z356) u326_2 u326_7 Hnr Hnr1 (by rw [hr]; exact own_upd_same _ _ _) u326_15 Hnc Hnc1 (own_upd_ne _ _ hc)) hZ (own_w hw 133 rfl) (own_w hw 54 rfl) (by decide) (by decide)) q355a q355c (g := (mkF m 175 (own_lw x0 x1 x2 x3 ra rb bp x_ dg mk ov av bv rw_ cl b1 b4 b12 b22 b34) [(.int cl), (.int rw_), (.ref b34)])) rfl (by rw [hml]; rfl) (Steps.refl _) (argsL := [(.int rw_), (.int cl)]) (rest := []) (lenOf pd_17 rfl) rfl (by show 2 * 0 + _ ≤ _; exact Nat.le_of_eq rfl) (hb hby at_175) (fun _ _ => ⟨rfl, rfl, (by decide : 12 + 0 ≤ _), (by decide : 89 + 0 ≤ _)⟩)
            dsimp only [Pt.U, Pt.locs, Pt.cells, Pt.slots] at X355 l355 y355 z355 st355 hQ355
            replace l355 := l355.symm
            subst l355 y355 z355
            obtain ⟨rfl, rfl, e355⟩ := hQ355
            first | rw [List.append_nil] at X355 | skip
            refine Goes.tr st355 ?_
            have e355' : T355.heap = T326.heap := e355
            show Goes p e below _ (T355.setTop (mkF m 178 (own_lw x0 x1 x2 x3 ra rb bp x_ dg mk ov av bv rw_ cl b1 b4 b12 b22 b34) [.null]))
            refine Goes.via (fun _ kk_ => XS.astore X355.here hx rfl (hb hby at_178) rfl rfl (l' := (own_l0 x0 x1 x2 x3 ra rb bp x_ dg mk ov av bv rw_ cl b1 b4 b12 b22 b34)) rfl kk_) ?_
            show Goes p e below _ (T355.setTop (mkF m 180 (own_l0 x0 x1 x2 x3 ra rb bp x_ dg mk ov av bv rw_ cl b1 b4 b12 b22 b34) []))
            have K357 : Keep h0 T326.heap [] := (((((((((((((Keep.refl h0 []).ext E1).trans K2 (allS (Or.inr sz_b1) all0)).ext E4).trans K10 (allS (Or.inr sz_b4) all0)).ext E12).trans K20 (allS (Or.inr sz_b12) all0)).ext E22).trans K32 (allS (Or.inr sz_b22) all0)).ext E34).trans K47 (allS (Or.inr sz_b34) all0)).trans K172 (allS (Or.inr sz_b34) (allS (Or.inr sz_rw47) (allS (Or.inr sz_rl47) (allS (Or.inr sz_fl47) all0))))).trans K326 (allS (Or.inr sz_b34) (allS (Or.inr sz_rw47) (allS (Or.inr sz_rl47) (allS (Or.inr sz_fl47) all0)))))
            have f358 := (f330.keep K326)
            have f359 := (f316.keep K326)
            have hEq := e355'
            rw [← hEq] at K357 f358 f359
            exact J0 _ _ (X355.more (by decide) (by decide)) N326 K357 f358 f359 (⟨fun z => hpq (hr.symm.trans z.2.1.symm), fun z => hc z.2.2.symm⟩)
        · skip
          by_cases hr2 : nr = pA
          · skip
            by_cases hc : nc = cA
            · skip
              refine gAL X326 hx hby at_169 rfl rfl ?_
              refine gIL X326 hx hby at_171 rfl ?_
              refine gIL X326 hx hby at_173 rfl ?_
              have f360 := (u172_15.keep K326 (ninS (Ne.symm ne183) (ninS (Ne.symm ne185) (ninS (Ne.symm ne187) (ninS (Ne.symm ne189) nin0)))))
              have z362 : h0.size ≤ (T326.heap).size := (Nat.le_trans z327 K326.1)
              obtain ⟨cq361, kq361, q361a, q361b, q361c⟩ := isOf hZ rfl u326_0
              obtain ⟨_, _, ⟨T361, L361, k361, n361⟩, -, X361, ⟨Lc361, hQ361, l361, y361, z361⟩, st361⟩ := X326.virtualBack hx (y := mN_RoutingTable_get) (z := mN_RoutingTable_get) hown (mvT hZ (own_w hw 129 rfl)) (mvT hZ (own_w hw 130 rfl)) (notFace_of_selects (args := #[]) (mvT hZ (own_w hw 132 rfl))) (mvT hZ (own_w hw 132 rfl)) (mvT hZ (own_w hw 131 rfl)) (by decide) (backOf (W := 0) (rmGR l Z a0 hw [] b34 rw_ cl rw47 kR47 (own_upd (own_upd (fun _ => .null) pA (.ref r1172)) pB (.ref r1326)) nd nr r1172 k1172 (own_upd (fun _ => .null) cA (.ref b12)) bn nc b12 T326.heap n0 (Nat.le_trans Z0 z362) u326_2 u326_7 Hnr Hnr1 (by rw [own_upd_ne _ _ hr, hr2]; exact own_upd_same _ _ _) f360 Hnc Hnc1 (by rw [hc]; exact own_upd_same _ _ _)) hZ (own_w hw 133 rfl) (own_w hw 54 rfl) (by decide) (by decide)) q361a q361c (g := (mkF m 175 (own_lw x0 x1 x2 x3 ra rb bp x_ dg mk ov av bv rw_ cl b1 b4 b12 b22 b34) [(.int cl), (.int rw_), (.ref b34)])) rfl (by rw [hml]; rfl) (Steps.refl _) (argsL := [(.int rw_), (.int cl)]) (rest := []) (lenOf pd_17 rfl) rfl (by show 2 * 0 + _ ≤ _; exact Nat.le_of_eq rfl) (hb hby at_175) (fun _ _ => ⟨rfl, rfl, (by decide : 12 + 0 ≤ _), (by decide : 89 + 0 ≤ _)⟩)
              dsimp only [Pt.U, Pt.locs, Pt.cells, Pt.slots] at X361 l361 y361 z361 st361 hQ361
              replace l361 := l361.symm
              subst l361 y361 z361
              obtain ⟨rfl, rfl, e361⟩ := hQ361
              first | rw [List.append_nil] at X361 | skip
              refine Goes.tr st361 ?_
              have e361' : T361.heap = T326.heap := e361
              show Goes p e below _ (T361.setTop (mkF m 178 (own_lw x0 x1 x2 x3 ra rb bp x_ dg mk ov av bv rw_ cl b1 b4 b12 b22 b34) [(.ref b12)]))
              refine Goes.via (fun _ kk_ => XS.astore X361.here hx rfl (hb hby at_178) rfl rfl (l' := (own_lA x0 x1 x2 x3 ra rb bp x_ dg mk ov av bv rw_ cl b1 b4 b12 b22 b34)) rfl kk_) ?_
              show Goes p e below _ (T361.setTop (mkF m 180 (own_lA x0 x1 x2 x3 ra rb bp x_ dg mk ov av bv rw_ cl b1 b4 b12 b22 b34) []))
              have K363 : Keep h0 T326.heap [] := (((((((((((((Keep.refl h0 []).ext E1).trans K2 (allS (Or.inr sz_b1) all0)).ext E4).trans K10 (allS (Or.inr sz_b4) all0)).ext E12).trans K20 (allS (Or.inr sz_b12) all0)).ext E22).trans K32 (allS (Or.inr sz_b22) all0)).ext E34).trans K47 (allS (Or.inr sz_b34) all0)).trans K172 (allS (Or.inr sz_b34) (allS (Or.inr sz_rw47) (allS (Or.inr sz_rl47) (allS (Or.inr sz_fl47) all0))))).trans K326 (allS (Or.inr sz_b34) (allS (Or.inr sz_rw47) (allS (Or.inr sz_rl47) (allS (Or.inr sz_fl47) all0)))))
              have f364 := (f330.keep K326)
              have f365 := (f316.keep K326)
              have hEq := e361'
              rw [← hEq] at K363 f364 f365
              exact JA _ _ (X361.more (by decide) (by decide)) N326 K363 f364 f365 (⟨⟨hA, hr2.symm, hc.symm⟩, fun z => absurd z.2.1.symm hr⟩)
            · skip
              refine gAL X326 hx hby at_169 rfl rfl ?_
              refine gIL X326 hx hby at_171 rfl ?_
              refine gIL X326 hx hby at_173 rfl ?_
              have f366 := (u172_15.keep K326 (ninS (Ne.symm ne183) (ninS (Ne.symm ne185) (ninS (Ne.symm ne187) (ninS (Ne.symm ne189) nin0)))))
              have z368 : h0.size ≤ (T326.heap).size := (Nat.le_trans z327 K326.1)
              obtain ⟨cq367, kq367, q367a, q367b, q367c⟩ := isOf hZ rfl u326_0
              obtain ⟨_, _, ⟨T367, L367, k367, n367⟩, -, X367, ⟨Lc367, hQ367, l367, y367, z367⟩, st367⟩ := X326.virtualBack hx (y := mN_RoutingTable_get) (z := mN_RoutingTable_get) hown (mvT hZ (own_w hw 129 rfl)) (mvT hZ (own_w hw 130 rfl)) (notFace_of_selects (args := #[]) (mvT hZ (own_w hw 132 rfl))) (mvT hZ (own_w hw 132 rfl)) (mvT hZ (own_w hw 131 rfl)) (by decide) (backOf (W := 0) (rmGN l Z a0 hw [] b34 rw_ cl rw47 kR47 (own_upd (own_upd (fun _ => .null) pA (.ref r1172)) pB (.ref r1326)) nd nr r1172 k1172 (own_upd (fun _ => .null) cA (.ref b12)) bn nc T326.heap n0 (Nat.le_trans Z0 z368) u326_2 u326_7 Hnr Hnr1 (by rw [own_upd_ne _ _ hr, hr2]; exact own_upd_same _ _ _) f366 Hnc Hnc1 (own_upd_ne _ _ hc)) hZ (own_w hw 133 rfl) (own_w hw 54 rfl) (by decide) (by decide)) q367a q367c (g := (mkF m 175 (own_lw x0 x1 x2 x3 ra rb bp x_ dg mk ov av bv rw_ cl b1 b4 b12 b22 b34) [(.int cl), (.int rw_), (.ref b34)])) rfl (by rw [hml]; rfl) (Steps.refl _) (argsL := [(.int rw_), (.int cl)]) (rest := []) (lenOf pd_17 rfl) rfl (by show 2 * 0 + _ ≤ _; exact Nat.le_of_eq rfl) (hb hby at_175) (fun _ _ => ⟨rfl, rfl, (by decide : 12 + 0 ≤ _), (by decide : 89 + 0 ≤ _)⟩)
              dsimp only [Pt.U, Pt.locs, Pt.cells, Pt.slots] at X367 l367 y367 z367 st367 hQ367
              replace l367 := l367.symm
              subst l367 y367 z367
              obtain ⟨rfl, rfl, e367⟩ := hQ367
              first | rw [List.append_nil] at X367 | skip
              refine Goes.tr st367 ?_
              have e367' : T367.heap = T326.heap := e367
              show Goes p e below _ (T367.setTop (mkF m 178 (own_lw x0 x1 x2 x3 ra rb bp x_ dg mk ov av bv rw_ cl b1 b4 b12 b22 b34) [.null]))
              refine Goes.via (fun _ kk_ => XS.astore X367.here hx rfl (hb hby at_178) rfl rfl (l' := (own_l0 x0 x1 x2 x3 ra rb bp x_ dg mk ov av bv rw_ cl b1 b4 b12 b22 b34)) rfl kk_) ?_
              show Goes p e below _ (T367.setTop (mkF m 180 (own_l0 x0 x1 x2 x3 ra rb bp x_ dg mk ov av bv rw_ cl b1 b4 b12 b22 b34) []))
              have K369 : Keep h0 T326.heap [] := (((((((((((((Keep.refl h0 []).ext E1).trans K2 (allS (Or.inr sz_b1) all0)).ext E4).trans K10 (allS (Or.inr sz_b4) all0)).ext E12).trans K20 (allS (Or.inr sz_b12) all0)).ext E22).trans K32 (allS (Or.inr sz_b22) all0)).ext E34).trans K47 (allS (Or.inr sz_b34) all0)).trans K172 (allS (Or.inr sz_b34) (allS (Or.inr sz_rw47) (allS (Or.inr sz_rl47) (allS (Or.inr sz_fl47) all0))))).trans K326 (allS (Or.inr sz_b34) (allS (Or.inr sz_rw47) (allS (Or.inr sz_rl47) (allS (Or.inr sz_fl47) all0)))))
              have f370 := (f330.keep K326)
              have f371 := (f316.keep K326)
              have hEq := e367'
              rw [← hEq] at K369 f370 f371
              exact J0 _ _ (X367.more (by decide) (by decide)) N326 K369 f370 f371 (⟨fun z => hc z.2.2.symm, fun z => hr z.2.1.symm⟩)
          · skip
            refine gAL X326 hx hby at_169 rfl rfl ?_
            refine gIL X326 hx hby at_171 rfl ?_
            refine gIL X326 hx hby at_173 rfl ?_
            have z373 : h0.size ≤ (T326.heap).size := (Nat.le_trans z327 K326.1)
            obtain ⟨cq372, kq372, q372a, q372b, q372c⟩ := isOf hZ rfl u326_0
            obtain ⟨_, _, ⟨T372, L372, k372, n372⟩, -, X372, ⟨Lc372, hQ372, l372, y372, z372⟩, st372⟩ := X326.virtualBack hx (y := mN_RoutingTable_get) (z := mN_RoutingTable_get) hown (mvT hZ (own_w hw 129 rfl)) (mvT hZ (own_w hw 130 rfl)) (notFace_of_selects (args := #[]) (mvT hZ (own_w hw 132 rfl))) (mvT hZ (own_w hw 132 rfl)) (mvT hZ (own_w hw 131 rfl)) (by decide) (backOf (W := 0) (rmG0 l Z a0 hw [] b34 rw_ cl rw47 kR47 (own_upd (own_upd (fun _ => .null) pA (.ref r1172)) pB (.ref r1326)) nd nr T326.heap n0 (Nat.le_trans Z0 z373) u326_2 u326_7 Hnr Hnr1 (by rw [own_upd_ne _ _ hr]; exact own_upd_ne _ _ hr2)) hZ (own_w hw 133 rfl) (own_w hw 54 rfl) (by decide) (by decide)) q372a q372c (g := (mkF m 175 (own_lw x0 x1 x2 x3 ra rb bp x_ dg mk ov av bv rw_ cl b1 b4 b12 b22 b34) [(.int cl), (.int rw_), (.ref b34)])) rfl (by rw [hml]; rfl) (Steps.refl _) (argsL := [(.int rw_), (.int cl)]) (rest := []) (lenOf pd_17 rfl) rfl (by show 2 * 0 + _ ≤ _; exact Nat.le_of_eq rfl) (hb hby at_175) (fun _ _ => ⟨rfl, rfl, (by decide : 12 + 0 ≤ _), (by decide : 89 + 0 ≤ _)⟩)
            dsimp only [Pt.U, Pt.locs, Pt.cells, Pt.slots] at X372 l372 y372 z372 st372 hQ372
            replace l372 := l372.symm
            subst l372 y372 z372
            obtain ⟨rfl, rfl, e372⟩ := hQ372
            first | rw [List.append_nil] at X372 | skip
            refine Goes.tr st372 ?_
            have e372' : T372.heap = T326.heap := e372
            show Goes p e below _ (T372.setTop (mkF m 178 (own_lw x0 x1 x2 x3 ra rb bp x_ dg mk ov av bv rw_ cl b1 b4 b12 b22 b34) [.null]))
            refine Goes.via (fun _ kk_ => XS.astore X372.here hx rfl (hb hby at_178) rfl rfl (l' := (own_l0 x0 x1 x2 x3 ra rb bp x_ dg mk ov av bv rw_ cl b1 b4 b12 b22 b34)) rfl kk_) ?_
            show Goes p e below _ (T372.setTop (mkF m 180 (own_l0 x0 x1 x2 x3 ra rb bp x_ dg mk ov av bv rw_ cl b1 b4 b12 b22 b34) []))
            have K374 : Keep h0 T326.heap [] := (((((((((((((Keep.refl h0 []).ext E1).trans K2 (allS (Or.inr sz_b1) all0)).ext E4).trans K10 (allS (Or.inr sz_b4) all0)).ext E12).trans K20 (allS (Or.inr sz_b12) all0)).ext E22).trans K32 (allS (Or.inr sz_b22) all0)).ext E34).trans K47 (allS (Or.inr sz_b34) all0)).trans K172 (allS (Or.inr sz_b34) (allS (Or.inr sz_rw47) (allS (Or.inr sz_rl47) (allS (Or.inr sz_fl47) all0))))).trans K326 (allS (Or.inr sz_b34) (allS (Or.inr sz_rw47) (allS (Or.inr sz_rl47) (allS (Or.inr sz_fl47) all0)))))
            have f375 := (f330.keep K326)
            have f376 := (f316.keep K326)
            have hEq := e372'
            rw [← hEq] at K374 f375 f376
            exact J0 _ _ (X372.more (by decide) (by decide)) N326 K374 f375 f376 (⟨fun z => hr2 z.2.1.symm, fun z => hr z.2.1.symm⟩)
set_option maxRecDepth 65536 in
set_option maxHeartbeats 40000000 in
theorem comes_1 {Post : Tables → Env → Array Value → State → Outcome → State → Prop} (hpost : ∀ tb e args s v u, (limb_1_1.after args s (.returned v) u = true ∧ limb_1_2.after args s (.returned v) u = true ∧ True) → FrameEnd s (.returned v) u (Jvm.fieldLocs frame_1_writes args s ++ Jvm.arrayLocs frame_1_arrays args s ++ Jvm.staticLocs frame_1_statics s) 32 256 → Post tb e args s (.returned v) u) :
    ArmFor flags0 classFile x code maxLocals ret World_1 tables_1 room_1 Calls_1 rest_1 Pre_1 Post := by
  intro l hfl _ _ p e ha hc hk s m args below hf hA hF happ hP
  obtain ⟨hcalls, hrest, hpre⟩ := hP
  obtain ⟨-, -, -, hnamed, -, -, -, hat⟩ := (Spec.applies_iff hf).mp happ
  obtain ⟨hg, hn⟩ := and_e (Cond.before_iff.mp (show (Jvm.Cond.and given_1 narrow_1).before args s = true from hpre))
  obtain ⟨gg1, gg2⟩ := and_e hg
  obtain ⟨gg3, gg4⟩ := and_e gg2
  obtain ⟨gg5, gg6⟩ := and_e gg4
  obtain ⟨gg7, gg8⟩ := and_e gg6
  obtain ⟨gg9, gg10⟩ := and_e gg8
  obtain ⟨gg11, gg12⟩ := and_e gg10
  obtain ⟨w0, w1, w2, w3, w4, w5, rfl⟩ : ∃ w0 w1 w2 w3 w4 w5 : Value, args = #[w0, w1, w2, w3, w4, w5] := by
    have hs : args.size = 6 := by simpa [Cond.value, given_1] using gg1
    obtain ⟨L⟩ := args
    match L, hs with
    | [w0, w1, w2, w3, w4, w5], _ => exact ⟨w0, w1, w2, w3, w4, w5, rfl⟩
  have hw := fun d (hd : d ∈ tables_1) => atoms_spec (ws := Jvm.Cond.code x code maxLocals ret :: tables_1) hat d (List.mem_cons_of_mem _ hd)
  have hfit : Fit s := fun {y c} hc i hi => by
    obtain ⟨ha, rfl⟩ := Array.getElem?_eq_some_iff.mp hc
    have q := List.all_eq_true.mp ((Array.all_eq_true_iff_forall_mem.mp hF) _ (Array.getElem_mem ha)) i (List.mem_range.mpr hi)
    simpa [Array.getElem?_eq_getElem hi] using q
  obtain ⟨i0, ei0⟩ := is_v gg3
  obtain rfl : w0 = (.int i0) := Option.some.inj ei0
  obtain ⟨i1, ei1⟩ := is_v gg5
  obtain rfl : w1 = (.int i1) := Option.some.inj ei1
  obtain ⟨i2, ei2⟩ := is_v gg7
  obtain rfl : w2 = (.int i2) := Option.some.inj ei2
  obtain ⟨i3, ei3⟩ := is_v gg9
  obtain rfl : w3 = (.int i3) := Option.some.inj ei3
  obtain ⟨i4, ei4⟩ := isL_v gg11
  obtain rfl : w4 = (.long i4) := Option.some.inj ei4
  obtain ⟨i5, ei5⟩ := isL_v gg12
  obtain rfl : w5 = (.long i5) := Option.some.inj ei5
  obtain ⟨n, o, h1, h2, h3, _, L, rfl, ⟨rfl, N, -⟩, hq⟩ := rm0 l s _ hw tables_1 i0 i1 i2 i3 i4 i5 s.heap s.heap.size (Nat.le_refl _)  p e ha hc hk s m _ below hf ((Spec.applies_iff_loose hf).mp happ).1 ⟨rfl, State.Warmed39.refl s, rfl⟩ trivial
  refine ⟨n, _, h1, h2, h3, hpost _ _ _ _ _ _ ⟨Cond.after_iff.mpr rfl, Cond.after_iff.mpr (eq_i res_at (Term.int_eval (1)) rfl), trivial⟩ ⟨hq.1, hq.2.1, (hq.2.2.sift fun y hy => Or.inr (N y hy)).mono (by decide) (by decide)⟩⟩
theorem main_1_1 : Claimed_1_1 := comes_1 fun _ _ _ _ _ _ h hF => ⟨h.1, hF⟩
theorem main_1_2 : Claimed_1_2 := comes_1 fun _ _ _ _ _ _ h hF => ⟨h.2.1, hF⟩
end Jvm.Pilot.@@N@@
namespace Jvm.Pilot.@@N@@
open Jvm Jvm.ClassFile Sem Op Lib Jvm.Free Jvm.Stand Jvm.Pilot.@@N@@.Jvm.D
/-! MADE BY PROGRAM (witnessworld.py) out of the Statement's table words and the real class files: 21 classes; the members and pool entries that the words name. The judged class is class 1, her method 4. -/
namespace start1
open Jvm.ClassFile
def u (s : String) : CpInfo := .utf8 (stringToUtf16 s)
/-- a pool by its gaps: so many unusable entries, then the entry; so many at the end -/
def gap : Nat → List CpInfo → List CpInfo
  | 0, r => r
  | n + 1, r => .unusable :: gap n r
def poolList (es : List (Nat × CpInfo)) (last : Nat) : List CpInfo := es.foldr (fun e r => gap e.1 (e.2 :: r)) (gap last [])
def pool (es : List (Nat × CpInfo)) (last : Nat) : Array CpInfo := ⟨poolList es last⟩
def fileOf (pool : Array CpInfo) (this : Nat) (attrs : Array Attribute := #[]) (ms : Array MethodInfo := #[]) (fl : Nat := 33) (sup : Nat := 0) (ifs : Array Nat := #[]) (fds : Array FieldInfo := #[]) : ClassFile where
  minorVersion := 0
  majorVersion := 65
  constantPool := pool
  accessFlags := fl
  thisClass := this
  superClass := sup
  interfaces := ifs
  fields := fds
  methods := ms
  attributes := attrs
def plain (name : String) (sup : Option ClassId) : Class where
  name := name
  kind := .ordinary
  loader := none
  accessFlags := 33
  super := sup
  interfaces := #[]
  cf := none
  fields := #[]
  methods := #[]
  instanceTypes := #[]
  staticTypes := #[]
  resolved := #[]
  callSites := []
  init := .initialized
  statics := none
  mirror := none

def pool0 : Array CpInfo := pool [(5, u "<init>"), (0, u "()V"), (1, .class_ 10), (1, u "java/lang/Object")] 113

def k0c0 : Code := { maxStack := 0, maxLocals := 1, code := object_method_1_code, exceptionTable := #[], attributes := #[] }
def k0m0 : Method := { name := "<init>", desc := "()V", sig := { parameters := [], returnType := none }, accessFlags := 1, code := some k0c0 }
/-- java/lang/Object -/
def k0 : Class := { plain "java/lang/Object" none with
  accessFlags := 33
  interfaces := #[]
  cf := some (fileOf pool0 8 #[] #[{ accessFlags := 1, nameIndex := 5, descriptorIndex := 6, attributes := #[] }] 33 0 #[] #[])
  fields := #[]
  methods := #[k0m0]
  instanceTypes := #[]
  staticTypes := #[]
  resolved := Array.replicate 124 none
  statics := none }

def pool1 : Array CpInfo := pool [(2, .class_ 4), (1, u "java/lang/Object"), (0, u "<init>"), (0, u "()V"), (0, .methodref 8 9), (0, .class_ 10), (0, .nameAndType 11 12), (0, u "nearhop/model/RoutingTableGetPinLaw"), (0, u "dig"), (0, u "(IIII)I"), (0, .methodref 8 14), (0, .nameAndType 15 12), (0, u "prefix"), (0, .class_ 17), (0, u "nearhop/model/IdSpace"), (0, .methodref 16 19), (0, .nameAndType 5 20), (0, u "(II)V"), (0, .class_ 22), (0, u "nearhop/model/Id"), (0, .methodref 21 24), (0, .nameAndType 5 25), (0, u "(Lnearhop/model/IdSpace;JJ)V"), (0, .class_ 27), (0, u "nearhop/model/RoutingTable"), (0, .methodref 26 29), (0, .nameAndType 5 30), (0, u "(Lnearhop/model/Id;)V"), (0, .methodref 26 32), (0, .nameAndType 33 34), (0, u "offer"), (0, u "(Lnearhop/model/Id;J)Z"), (0, .methodref 26 36), (0, .nameAndType 37 38), (0, u "get"), (0, u "(II)Lnearhop/model/Id;"), (0, .methodref 8 40), (0, .nameAndType 41 42), (0, u "fits"), (0, u "(IIIIII)Z"), (0, .methodref 21 44), (0, .nameAndType 45 46), (0, u "equals"), (0, u "(Ljava/lang/Object;)Z"), (3, u "law"), (0, u "(IIIIJJ)Z")] 2

def k1m0 : Method := { name := "<init>", desc := "()V", sig := { parameters := [], returnType := none }, accessFlags := 1, code := none }
def k1c1 : Code := { maxStack := 3, maxLocals := 4, code := method_2_code, exceptionTable := #[], attributes := #[] }
def k1m1 : Method := { name := "dig", desc := "(IIII)I", sig := { parameters := [.int, .int, .int, .int], returnType := some .int }, accessFlags := 10, code := some k1c1 }
def k1c2 : Code := { maxStack := 5, maxLocals := 4, code := method_3_code, exceptionTable := #[], attributes := #[] }
def k1m2 : Method := { name := "prefix", desc := "(IIII)I", sig := { parameters := [.int, .int, .int, .int], returnType := some .int }, accessFlags := 10, code := some k1c2 }
def k1c3 : Code := { maxStack := 4, maxLocals := 6, code := method_4_code, exceptionTable := #[], attributes := #[] }
def k1m3 : Method := { name := "fits", desc := "(IIIIII)Z", sig := { parameters := [.int, .int, .int, .int, .int, .int], returnType := some .boolean }, accessFlags := 10, code := some k1c3 }
def k1c4 : Code := { maxStack := 7, maxLocals := 27, code := code, exceptionTable := #[], attributes := #[] }
def k1m4 : Method := { name := "law", desc := "(IIIIJJ)Z", sig := { parameters := [.int, .int, .int, .int, .long, .long], returnType := some .boolean }, accessFlags := 9, code := some k1c4 }
/-- nearhop/model/RoutingTableGetPinLaw -/
def k1 : Class := { plain "nearhop/model/RoutingTableGetPinLaw" (some 0) with
  accessFlags := 49
  interfaces := #[]
  cf := some (fileOf pool1 8 #[] #[{ accessFlags := 1, nameIndex := 5, descriptorIndex := 6, attributes := #[] }, { accessFlags := 10, nameIndex := 11, descriptorIndex := 12, attributes := #[] }, { accessFlags := 10, nameIndex := 15, descriptorIndex := 12, attributes := #[] }, { accessFlags := 10, nameIndex := 41, descriptorIndex := 42, attributes := #[] }, { accessFlags := 9, nameIndex := 50, descriptorIndex := 51, attributes := #[] }] 49 2 #[] #[])
  fields := #[]
  methods := #[k1m0, k1m1, k1m2, k1m3, k1m4]
  instanceTypes := #[]
  staticTypes := #[]
  resolved := Array.replicate 54 none
  statics := none }

def pool2 : Array CpInfo := pool [(1, .methodref 2 3), (0, .class_ 4), (0, .nameAndType 5 6), (0, u "java/lang/Object"), (0, u "<init>"), (0, u "()V"), (0, .class_ 8), (0, u "java/lang/Record")] 13

def k2c0 : Code := { maxStack := 1, maxLocals := 1, code := jdk_30_method_1_code, exceptionTable := #[], attributes := #[] }
def k2m0 : Method := { name := "<init>", desc := "()V", sig := { parameters := [], returnType := none }, accessFlags := 4, code := some k2c0 }
/-- java/lang/Record -/
def k2 : Class := { plain "java/lang/Record" (some 0) with
  accessFlags := 1057
  interfaces := #[]
  cf := some (fileOf pool2 7 #[] #[{ accessFlags := 4, nameIndex := 5, descriptorIndex := 6, attributes := #[] }] 1057 2 #[] #[])
  fields := #[]
  methods := #[k2m0]
  instanceTypes := #[]
  staticTypes := #[]
  resolved := Array.replicate 22 none
  statics := none }

def pool3 : Array CpInfo := pool [(1, .class_ 2), (0, u "nearhop/model/IdSpace"), (2, .methodref 6 7), (0, .class_ 8), (0, .nameAndType 9 10), (0, u "java/lang/Record"), (0, u "<init>"), (0, u "()V"), (9, .methodref 21 22), (0, .class_ 23), (0, .nameAndType 24 25), (0, u "java/lang/Integer"), (0, u "numberOfTrailingZeros"), (0, u "(I)I"), (14, .fieldref 1 41), (0, .nameAndType 42 43), (0, u "base"), (0, u "I"), (0, .fieldref 1 45), (0, .nameAndType 46 43), (0, u "digits"), (0, .methodref 1 48), (0, .nameAndType 49 50), (0, u "bitsPerDigit"), (0, u "()I"), (41, u "bits"), (49, u "MAX_BITS"), (2, u "BYTES"), (1, u "(II)V")] 46

def k3c0 : Code := { maxStack := 7, maxLocals := 4, code := prog_77_method_1_code, exceptionTable := #[], attributes := #[] }
def k3m0 : Method := { name := "<init>", desc := "(II)V", sig := { parameters := [.int, .int], returnType := none }, accessFlags := 1, code := some k3c0 }
def k3c1 : Code := { maxStack := 1, maxLocals := 1, code := prog_77_method_2_code, exceptionTable := #[], attributes := #[] }
def k3m1 : Method := { name := "bitsPerDigit", desc := "()I", sig := { parameters := [], returnType := some .int }, accessFlags := 1, code := some k3c1 }
def k3c2 : Code := { maxStack := 2, maxLocals := 1, code := prog_77_method_3_code, exceptionTable := #[], attributes := #[] }
def k3m2 : Method := { name := "bits", desc := "()I", sig := { parameters := [], returnType := some .int }, accessFlags := 1, code := some k3c2 }
def k3c3 : Code := { maxStack := 1, maxLocals := 1, code := prog_77_method_11_code, exceptionTable := #[], attributes := #[] }
def k3m3 : Method := { name := "base", desc := "()I", sig := { parameters := [], returnType := some .int }, accessFlags := 1, code := some k3c3 }
def k3c4 : Code := { maxStack := 1, maxLocals := 1, code := prog_77_method_12_code, exceptionTable := #[], attributes := #[] }
def k3m4 : Method := { name := "digits", desc := "()I", sig := { parameters := [], returnType := some .int }, accessFlags := 1, code := some k3c4 }
/-- nearhop/model/IdSpace -/
def k3 : Class := { plain "nearhop/model/IdSpace" (some 2) with
  accessFlags := 49
  interfaces := #[]
  cf := some (fileOf pool3 1 #[] #[{ accessFlags := 1, nameIndex := 9, descriptorIndex := 147, attributes := #[] }, { accessFlags := 1, nameIndex := 49, descriptorIndex := 50, attributes := #[] }, { accessFlags := 1, nameIndex := 92, descriptorIndex := 50, attributes := #[] }, { accessFlags := 1, nameIndex := 42, descriptorIndex := 50, attributes := #[] }, { accessFlags := 1, nameIndex := 46, descriptorIndex := 50, attributes := #[] }] 49 6 #[] #[{ accessFlags := 18, nameIndex := 42, descriptorIndex := 43, attributes := #[] }, { accessFlags := 18, nameIndex := 46, descriptorIndex := 43, attributes := #[] }, { accessFlags := 25, nameIndex := 142, descriptorIndex := 43, attributes := #[] }, { accessFlags := 25, nameIndex := 145, descriptorIndex := 43, attributes := #[] }])
  fields := #[{ name := "base", type := .int, accessFlags := 18, slot := 0, constantValue := 0 }, { name := "digits", type := .int, accessFlags := 18, slot := 1, constantValue := 0 }, { name := "MAX_BITS", type := .int, accessFlags := 25, slot := 0, constantValue := 0 }, { name := "BYTES", type := .int, accessFlags := 25, slot := 1, constantValue := 0 }]
  methods := #[k3m0, k3m1, k3m2, k3m3, k3m4]
  instanceTypes := #[.int, .int]
  staticTypes := #[.int, .int]
  resolved := Array.replicate 194 none
  statics := none }

def pool4 : Array CpInfo := pool [(1, .class_ 2), (0, u "java/io/Serializable"), (0, .class_ 4), (0, u "java/lang/Object")] 2

/-- java/io/Serializable -/
def k4 : Class := { plain "java/io/Serializable" (some 0) with
  accessFlags := 1537
  interfaces := #[]
  cf := some (fileOf pool4 1 #[] #[] 1537 3 #[] #[])
  fields := #[]
  methods := #[]
  instanceTypes := #[]
  staticTypes := #[]
  resolved := Array.replicate 7 none
  statics := none }

def pool5 : Array CpInfo := pool [(2, .class_ 4), (1, u "java/lang/Object"), (0, u "<init>"), (0, u "()V"), (1, .class_ 10), (1, u "java/lang/Number"), (2, .class_ 14), (0, u "java/io/Serializable"), (0, u "serialVersionUID"), (0, u "J")] 20

def k5m0 : Method := { name := "<init>", desc := "()V", sig := { parameters := [], returnType := none }, accessFlags := 1, code := none }
/-- java/lang/Number -/
def k5 : Class := { plain "java/lang/Number" (some 0) with
  accessFlags := 1057
  interfaces := #[4]
  cf := some (fileOf pool5 8 #[] #[{ accessFlags := 1, nameIndex := 5, descriptorIndex := 6, attributes := #[] }] 1057 2 #[13] #[{ accessFlags := 26, nameIndex := 15, descriptorIndex := 16, attributes := #[] }])
  fields := #[{ name := "serialVersionUID", type := .long, accessFlags := 26, slot := 0, constantValue := 0 }]
  methods := #[k5m0]
  instanceTypes := #[]
  staticTypes := #[.long]
  resolved := Array.replicate 37 none
  statics := none }

def pool6 : Array CpInfo := pool [(1, .class_ 2), (0, u "java/lang/Comparable"), (0, .class_ 4), (0, u "java/lang/Object")] 7

/-- java/lang/Comparable -/
def k6 : Class := { plain "java/lang/Comparable" (some 0) with
  accessFlags := 1537
  interfaces := #[]
  cf := some (fileOf pool6 1 #[] #[] 1537 3 #[] #[])
  fields := #[]
  methods := #[]
  instanceTypes := #[]
  staticTypes := #[]
  resolved := Array.replicate 12 none
  statics := none }

def pool7 : Array CpInfo := pool [(1, .class_ 2), (0, u "java/lang/constant/Constable"), (0, .class_ 4), (0, u "java/lang/Object")] 6

/-- java/lang/constant/Constable -/
def k7 : Class := { plain "java/lang/constant/Constable" (some 0) with
  accessFlags := 1537
  interfaces := #[]
  cf := some (fileOf pool7 1 #[] #[] 1537 3 #[] #[])
  fields := #[]
  methods := #[]
  instanceTypes := #[]
  staticTypes := #[]
  resolved := Array.replicate 11 none
  statics := none }

def pool8 : Array CpInfo := pool [(1, .class_ 2), (0, u "java/lang/constant/ConstantDesc"), (0, .class_ 4), (0, u "java/lang/Object")] 32

/-- java/lang/constant/ConstantDesc -/
def k8 : Class := { plain "java/lang/constant/ConstantDesc" (some 0) with
  accessFlags := 1537
  interfaces := #[]
  cf := some (fileOf pool8 1 #[] #[] 1537 3 #[] #[])
  fields := #[]
  methods := #[]
  instanceTypes := #[]
  staticTypes := #[]
  resolved := Array.replicate 37 none
  statics := none }

def pool9 : Array CpInfo := pool [(1, .class_ 2), (0, u "java/lang/Integer"), (16, u "digits"), (0, u "[C"), (32, u "numberOfLeadingZeros"), (0, u "(I)I"), (30, u "DigitOnes"), (0, u "[B"), (2, u "DigitTens"), (99, .class_ 190), (0, u "java/lang/Integer$IntegerCache"), (3, u "I"), (8, .class_ 204), (0, u "java/lang/Number"), (2, u "value"), (56, .integer 65536), (37, u "TYPE"), (0, u "Ljava/lang/Class;"), (0, .class_ 305), (0, u "java/lang/Comparable"), (0, .class_ 307), (0, u "java/lang/constant/Constable"), (0, .class_ 309), (0, u "java/lang/constant/ConstantDesc"), (0, u "MIN_VALUE"), (1, u "MAX_VALUE"), (3, u "SIZE"), (1, u "BYTES"), (1, u "serialVersionUID"), (0, u "J"), (84, u "numberOfTrailingZeros")] 46

def k9c0 : Code := { maxStack := 3, maxLocals := 2, code := jdk_33_method_47_code, exceptionTable := #[], attributes := #[] }
def k9m0 : Method := { name := "numberOfLeadingZeros", desc := "(I)I", sig := { parameters := [.int], returnType := some .int }, accessFlags := 9, code := some k9c0 }
def k9c1 : Code := { maxStack := 3, maxLocals := 2, code := jdk_33_method_48_code, exceptionTable := #[], attributes := #[] }
def k9m1 : Method := { name := "numberOfTrailingZeros", desc := "(I)I", sig := { parameters := [.int], returnType := some .int }, accessFlags := 9, code := some k9c1 }
/-- java/lang/Integer -/
def k9 : Class := { plain "java/lang/Integer" (some 5) with
  accessFlags := 49
  interfaces := #[6, 7, 8]
  cf := some (fileOf pool9 1 #[.nestMembers #[189]] #[{ accessFlags := 9, nameIndex := 53, descriptorIndex := 54, attributes := #[] }, { accessFlags := 9, nameIndex := 406, descriptorIndex := 54, attributes := #[] }] 49 203 #[304, 306, 308] #[{ accessFlags := 25, nameIndex := 310, descriptorIndex := 194, attributes := #[] }, { accessFlags := 25, nameIndex := 312, descriptorIndex := 194, attributes := #[] }, { accessFlags := 25, nameIndex := 302, descriptorIndex := 303, attributes := #[] }, { accessFlags := 24, nameIndex := 19, descriptorIndex := 20, attributes := #[] }, { accessFlags := 24, nameIndex := 89, descriptorIndex := 86, attributes := #[] }, { accessFlags := 24, nameIndex := 85, descriptorIndex := 86, attributes := #[] }, { accessFlags := 18, nameIndex := 207, descriptorIndex := 194, attributes := #[] }, { accessFlags := 25, nameIndex := 316, descriptorIndex := 194, attributes := #[] }, { accessFlags := 25, nameIndex := 318, descriptorIndex := 194, attributes := #[] }, { accessFlags := 26, nameIndex := 320, descriptorIndex := 321, attributes := #[] }])
  fields := #[{ name := "MIN_VALUE", type := .int, accessFlags := 25, slot := 0, constantValue := 0 }, { name := "MAX_VALUE", type := .int, accessFlags := 25, slot := 1, constantValue := 0 }, { name := "TYPE", type := (.object "java/lang/Class"), accessFlags := 25, slot := 2, constantValue := 0 }, { name := "digits", type := (.array .char), accessFlags := 24, slot := 3, constantValue := 0 }, { name := "DigitTens", type := (.array .byte), accessFlags := 24, slot := 4, constantValue := 0 }, { name := "DigitOnes", type := (.array .byte), accessFlags := 24, slot := 5, constantValue := 0 }, { name := "value", type := .int, accessFlags := 18, slot := 0, constantValue := 0 }, { name := "SIZE", type := .int, accessFlags := 25, slot := 6, constantValue := 0 }, { name := "BYTES", type := .int, accessFlags := 25, slot := 7, constantValue := 0 }, { name := "serialVersionUID", type := .long, accessFlags := 26, slot := 8, constantValue := 0 }]
  methods := #[k9m0, k9m1]
  instanceTypes := #[.int]
  staticTypes := #[.int, .int, (.object "java/lang/Class"), (.array .char), (.array .byte), (.array .byte), .int, .int, .long]
  resolved := Array.replicate 453 none
  statics := none }

def pool10 : Array CpInfo := pool [(1, .methodref 2 3), (0, .class_ 4), (0, .nameAndType 5 6), (0, u "java/lang/Object"), (0, u "<init>"), (0, u "()V"), (0, .fieldref 8 9), (0, .class_ 10), (0, .nameAndType 11 12), (0, u "nearhop/model/Id"), (0, u "space"), (0, u "Lnearhop/model/IdSpace;"), (0, .methodref 8 14), (0, .nameAndType 15 16), (0, u "cutHigh"), (0, u "(Lnearhop/model/IdSpace;J)J"), (0, .fieldref 8 18), (0, .nameAndType 19 20), (0, u "high"), (0, u "J"), (0, .methodref 8 22), (0, .nameAndType 23 16), (0, u "cutLow"), (0, .fieldref 8 25), (0, .nameAndType 26 20), (0, u "low"), (0, .methodref 28 29), (0, .class_ 30), (0, .nameAndType 31 32), (0, u "nearhop/model/IdSpace"), (0, u "bits"), (0, u "()I"), (0, .class_ 34), (0, u "java/lang/Long"), (14, .methodref 28 50), (0, .nameAndType 51 32), (0, u "bitsPerDigit"), (0, .methodref 28 53), (0, .nameAndType 54 32), (0, u "base"), (0, .methodref 28 56), (0, .nameAndType 57 32), (0, u "digits"), (0, .methodref 33 59), (0, .nameAndType 60 61), (0, u "numberOfLeadingZeros"), (0, u "(J)I"), (0, .methodref 33 63), (0, .nameAndType 64 65), (0, u "compareUnsigned"), (0, u "(JJ)I"), (2, u "(Lnearhop/model/IdSpace;JJ)V"), (4, .methodref 8 74), (0, .nameAndType 64 75), (0, u "(JJJJ)I"), (6, u "compareTo"), (0, u "(Lnearhop/model/Id;)I"), (9, u "equals"), (0, u "(Ljava/lang/Object;)Z"), (15, u "digit"), (0, u "(I)I"), (11, .class_ 124), (0, u "java/lang/Comparable"), (3, u "()Lnearhop/model/IdSpace;"), (1, u "sharedPrefixLength")] 20

def k10c0 : Code := { maxStack := 4, maxLocals := 6, code := prog_76_method_1_code, exceptionTable := #[], attributes := #[] }
def k10m0 : Method := { name := "<init>", desc := "(Lnearhop/model/IdSpace;JJ)V", sig := { parameters := [(.object "nearhop/model/IdSpace"), .long, .long], returnType := none }, accessFlags := 0, code := some k10c0 }
def k10c1 : Code := { maxStack := 6, maxLocals := 6, code := prog_76_method_2_code, exceptionTable := #[], attributes := #[] }
def k10m1 : Method := { name := "cutHigh", desc := "(Lnearhop/model/IdSpace;J)J", sig := { parameters := [(.object "nearhop/model/IdSpace"), .long], returnType := some .long }, accessFlags := 10, code := some k10c1 }
def k10c2 : Code := { maxStack := 6, maxLocals := 4, code := prog_76_method_3_code, exceptionTable := #[], attributes := #[] }
def k10m2 : Method := { name := "cutLow", desc := "(Lnearhop/model/IdSpace;J)J", sig := { parameters := [(.object "nearhop/model/IdSpace"), .long], returnType := some .long }, accessFlags := 10, code := some k10c2 }
def k10c3 : Code := { maxStack := 1, maxLocals := 1, code := prog_76_method_4_code, exceptionTable := #[], attributes := #[] }
def k10m3 : Method := { name := "space", desc := "()Lnearhop/model/IdSpace;", sig := { parameters := [], returnType := some (.object "nearhop/model/IdSpace") }, accessFlags := 1, code := some k10c3 }
def k10c4 : Code := { maxStack := 6, maxLocals := 5, code := prog_76_method_6_code, exceptionTable := #[], attributes := #[] }
def k10m4 : Method := { name := "digit", desc := "(I)I", sig := { parameters := [.int], returnType := some .int }, accessFlags := 1, code := some k10c4 }
def k10c5 : Code := { maxStack := 4, maxLocals := 7, code := prog_76_method_7_code, exceptionTable := #[], attributes := #[] }
def k10m5 : Method := { name := "sharedPrefixLength", desc := "(Lnearhop/model/Id;)I", sig := { parameters := [(.object "nearhop/model/Id")], returnType := some .int }, accessFlags := 1, code := some k10c5 }
def k10c6 : Code := { maxStack := 4, maxLocals := 9, code := prog_76_method_16_code, exceptionTable := #[], attributes := #[] }
def k10m6 : Method := { name := "compareUnsigned", desc := "(JJJJ)I", sig := { parameters := [.long, .long, .long, .long], returnType := some .int }, accessFlags := 10, code := some k10c6 }
def k10c7 : Code := { maxStack := 8, maxLocals := 2, code := prog_76_method_17_code, exceptionTable := #[], attributes := #[] }
def k10m7 : Method := { name := "compareTo", desc := "(Lnearhop/model/Id;)I", sig := { parameters := [(.object "nearhop/model/Id")], returnType := some .int }, accessFlags := 1, code := some k10c7 }
def k10c8 : Code := { maxStack := 4, maxLocals := 3, code := prog_76_method_18_code, exceptionTable := #[], attributes := #[] }
def k10m8 : Method := { name := "equals", desc := "(Ljava/lang/Object;)Z", sig := { parameters := [(.object "java/lang/Object")], returnType := some .boolean }, accessFlags := 1, code := some k10c8 }
/-- nearhop/model/Id -/
def k10 : Class := { plain "nearhop/model/Id" (some 0) with
  accessFlags := 49
  interfaces := #[6]
  cf := some (fileOf pool10 8 #[] #[{ accessFlags := 0, nameIndex := 5, descriptorIndex := 68, attributes := #[] }, { accessFlags := 10, nameIndex := 15, descriptorIndex := 16, attributes := #[] }, { accessFlags := 10, nameIndex := 23, descriptorIndex := 16, attributes := #[] }, { accessFlags := 1, nameIndex := 11, descriptorIndex := 128, attributes := #[] }, { accessFlags := 1, nameIndex := 110, descriptorIndex := 111, attributes := #[] }, { accessFlags := 1, nameIndex := 130, descriptorIndex := 83, attributes := #[] }, { accessFlags := 10, nameIndex := 64, descriptorIndex := 75, attributes := #[] }, { accessFlags := 1, nameIndex := 82, descriptorIndex := 83, attributes := #[] }, { accessFlags := 1, nameIndex := 93, descriptorIndex := 94, attributes := #[] }] 49 2 #[123] #[{ accessFlags := 18, nameIndex := 11, descriptorIndex := 12, attributes := #[] }, { accessFlags := 18, nameIndex := 19, descriptorIndex := 20, attributes := #[] }, { accessFlags := 18, nameIndex := 26, descriptorIndex := 20, attributes := #[] }])
  fields := #[{ name := "space", type := (.object "nearhop/model/IdSpace"), accessFlags := 18, slot := 0, constantValue := 0 }, { name := "high", type := .long, accessFlags := 18, slot := 1, constantValue := 0 }, { name := "low", type := .long, accessFlags := 18, slot := 2, constantValue := 0 }]
  methods := #[k10m0, k10m1, k10m2, k10m3, k10m4, k10m5, k10m6, k10m7, k10m8]
  instanceTypes := #[(.object "nearhop/model/IdSpace"), .long, .long]
  staticTypes := #[]
  resolved := Array.replicate 151 none
  statics := none }

def pool11 : Array CpInfo := pool [(1, .methodref 2 3), (0, .class_ 4), (0, .nameAndType 5 6), (0, u "java/lang/Object"), (0, u "<init>"), (0, u "()V"), (0, .fieldref 8 9), (0, .class_ 10), (0, .nameAndType 11 12), (0, u "nearhop/model/RoutingTable"), (0, u "owner"), (0, u "Lnearhop/model/Id;"), (0, .methodref 14 15), (0, .class_ 16), (0, .nameAndType 17 18), (0, u "nearhop/model/Id"), (0, u "space"), (0, u "()Lnearhop/model/IdSpace;"), (0, .methodref 20 21), (0, .class_ 22), (0, .nameAndType 23 24), (0, u "nearhop/model/IdSpace"), (0, u "digits"), (0, u "()I"), (0, .class_ 26), (0, u "[Lnearhop/model/Id;"), (0, .fieldref 8 28), (0, .nameAndType 29 30), (0, u "rows"), (0, u "[[Lnearhop/model/Id;"), (0, .class_ 32), (0, u "[J"), (0, .fieldref 8 34), (0, .nameAndType 35 36), (0, u "ranks"), (0, u "[[J"), (0, .fieldref 8 38), (0, .nameAndType 39 40), (0, u "filled"), (0, u "[I"), (0, .methodref 14 42), (0, .nameAndType 43 44), (0, u "equals"), (0, u "(Ljava/lang/Object;)Z"), (0, .methodref 14 46), (0, .nameAndType 47 48), (0, u "sharedPrefixLength"), (0, u "(Lnearhop/model/Id;)I"), (0, .methodref 20 50), (0, .nameAndType 51 24), (0, u "base"), (0, .methodref 14 53), (0, .nameAndType 54 55), (0, u "digit"), (0, u "(I)I"), (0, .methodref 8 57), (0, .nameAndType 58 59), (0, u "takes"), (0, u "(IILnearhop/model/Id;J)Z"), (0, .fieldref 8 61), (0, .nameAndType 62 63), (0, u "firstOpen"), (0, u "I"), (0, .methodref 14 65), (0, .nameAndType 66 48), (0, u "compareTo"), (29, u "(Lnearhop/model/Id;)V"), (2, u "offer"), (0, u "(Lnearhop/model/Id;J)Z"), (4, u "get"), (0, u "(II)Lnearhop/model/Id;")] 7

def k11c0 : Code := { maxStack := 2, maxLocals := 2, code := prog_120_method_1_code, exceptionTable := #[], attributes := #[] }
def k11m0 : Method := { name := "<init>", desc := "(Lnearhop/model/Id;)V", sig := { parameters := [(.object "nearhop/model/Id")], returnType := none }, accessFlags := 1, code := some k11c0 }
def k11c1 : Code := { maxStack := 6, maxLocals := 7, code := prog_120_method_2_code, exceptionTable := #[], attributes := #[] }
def k11m1 : Method := { name := "offer", desc := "(Lnearhop/model/Id;J)Z", sig := { parameters := [(.object "nearhop/model/Id"), .long], returnType := some .boolean }, accessFlags := 1, code := some k11c1 }
def k11c2 : Code := { maxStack := 4, maxLocals := 9, code := prog_120_method_4_code, exceptionTable := #[], attributes := #[] }
def k11m2 : Method := { name := "takes", desc := "(IILnearhop/model/Id;J)Z", sig := { parameters := [.int, .int, (.object "nearhop/model/Id"), .long], returnType := some .boolean }, accessFlags := 2, code := some k11c2 }
def k11c3 : Code := { maxStack := 2, maxLocals := 3, code := prog_120_method_8_code, exceptionTable := #[], attributes := #[] }
def k11m3 : Method := { name := "get", desc := "(II)Lnearhop/model/Id;", sig := { parameters := [.int, .int], returnType := some (.object "nearhop/model/Id") }, accessFlags := 1, code := some k11c3 }
/-- nearhop/model/RoutingTable -/
def k11 : Class := { plain "nearhop/model/RoutingTable" (some 0) with
  accessFlags := 49
  interfaces := #[]
  cf := some (fileOf pool11 8 #[] #[{ accessFlags := 1, nameIndex := 5, descriptorIndex := 96, attributes := #[] }, { accessFlags := 1, nameIndex := 99, descriptorIndex := 100, attributes := #[] }, { accessFlags := 2, nameIndex := 58, descriptorIndex := 59, attributes := #[] }, { accessFlags := 1, nameIndex := 105, descriptorIndex := 106, attributes := #[] }] 49 2 #[] #[{ accessFlags := 18, nameIndex := 11, descriptorIndex := 12, attributes := #[] }, { accessFlags := 18, nameIndex := 29, descriptorIndex := 30, attributes := #[] }, { accessFlags := 18, nameIndex := 35, descriptorIndex := 36, attributes := #[] }, { accessFlags := 18, nameIndex := 39, descriptorIndex := 40, attributes := #[] }, { accessFlags := 2, nameIndex := 62, descriptorIndex := 63, attributes := #[] }])
  fields := #[{ name := "owner", type := (.object "nearhop/model/Id"), accessFlags := 18, slot := 0, constantValue := 0 }, { name := "rows", type := (.array (.array (.object "nearhop/model/Id"))), accessFlags := 18, slot := 1, constantValue := 0 }, { name := "ranks", type := (.array (.array .long)), accessFlags := 18, slot := 2, constantValue := 0 }, { name := "filled", type := (.array .int), accessFlags := 18, slot := 3, constantValue := 0 }, { name := "firstOpen", type := .int, accessFlags := 2, slot := 4, constantValue := 0 }]
  methods := #[k11m0, k11m1, k11m2, k11m3]
  instanceTypes := #[(.object "nearhop/model/Id"), (.array (.array (.object "nearhop/model/Id"))), (.array (.array .long)), (.array .int), .int]
  staticTypes := #[]
  resolved := Array.replicate 114 none
  statics := none }

def pool12 : Array CpInfo := pool [(1, .class_ 2), (0, u "java/lang/Long"), (15, .class_ 20), (1, u "java/lang/Integer"), (79, u "numberOfLeadingZeros"), (0, u "(J)I"), (66, .long 9223372036854775808), (66, .class_ 237), (1, u "java/lang/Long$LongCache"), (33, .class_ 272), (0, u "java/lang/Number"), (2, u "value"), (0, u "J"), (25, .methodref 1 303), (0, .nameAndType 304 305), (0, u "compare"), (0, u "(JJ)I"), (2, .methodref 18 309), (0, .nameAndType 100 310), (0, u "(I)I"), (50, u "TYPE"), (0, u "Ljava/lang/Class;"), (0, .class_ 364), (0, u "java/lang/Comparable"), (0, .class_ 366), (0, u "java/lang/constant/Constable"), (0, .class_ 368), (0, u "java/lang/constant/ConstantDesc"), (0, u "MIN_VALUE"), (1, u "MAX_VALUE"), (4, u "SIZE"), (0, u "I"), (1, u "BYTES"), (1, u "serialVersionUID"), (87, u "compareUnsigned")] 54

def k12c0 : Code := { maxStack := 4, maxLocals := 4, code := jdk_35_method_42_code, exceptionTable := #[], attributes := #[] }
def k12m0 : Method := { name := "compare", desc := "(JJ)I", sig := { parameters := [.long, .long], returnType := some .int }, accessFlags := 9, code := some k12c0 }
def k12c1 : Code := { maxStack := 6, maxLocals := 4, code := jdk_35_method_43_code, exceptionTable := #[], attributes := #[] }
def k12m1 : Method := { name := "compareUnsigned", desc := "(JJ)I", sig := { parameters := [.long, .long], returnType := some .int }, accessFlags := 9, code := some k12c1 }
def k12c2 : Code := { maxStack := 3, maxLocals := 3, code := jdk_35_method_48_code, exceptionTable := #[], attributes := #[] }
def k12m2 : Method := { name := "numberOfLeadingZeros", desc := "(J)I", sig := { parameters := [.long], returnType := some .int }, accessFlags := 9, code := some k12c2 }
/-- java/lang/Long -/
def k12 : Class := { plain "java/lang/Long" (some 5) with
  accessFlags := 49
  interfaces := #[6, 7, 8]
  cf := some (fileOf pool12 1 #[.nestMembers #[235]] #[{ accessFlags := 9, nameIndex := 304, descriptorIndex := 305, attributes := #[] }, { accessFlags := 9, nameIndex := 469, descriptorIndex := 305, attributes := #[] }, { accessFlags := 9, nameIndex := 100, descriptorIndex := 101, attributes := #[] }] 49 271 #[363, 365, 367] #[{ accessFlags := 25, nameIndex := 369, descriptorIndex := 276, attributes := #[] }, { accessFlags := 25, nameIndex := 371, descriptorIndex := 276, attributes := #[] }, { accessFlags := 25, nameIndex := 361, descriptorIndex := 362, attributes := #[] }, { accessFlags := 18, nameIndex := 275, descriptorIndex := 276, attributes := #[] }, { accessFlags := 25, nameIndex := 376, descriptorIndex := 377, attributes := #[] }, { accessFlags := 25, nameIndex := 379, descriptorIndex := 377, attributes := #[] }, { accessFlags := 26, nameIndex := 381, descriptorIndex := 276, attributes := #[] }])
  fields := #[{ name := "MIN_VALUE", type := .long, accessFlags := 25, slot := 0, constantValue := 0 }, { name := "MAX_VALUE", type := .long, accessFlags := 25, slot := 1, constantValue := 0 }, { name := "TYPE", type := (.object "java/lang/Class"), accessFlags := 25, slot := 2, constantValue := 0 }, { name := "value", type := .long, accessFlags := 18, slot := 0, constantValue := 0 }, { name := "SIZE", type := .int, accessFlags := 25, slot := 3, constantValue := 0 }, { name := "BYTES", type := .int, accessFlags := 25, slot := 4, constantValue := 0 }, { name := "serialVersionUID", type := .long, accessFlags := 26, slot := 5, constantValue := 0 }]
  methods := #[k12m0, k12m1, k12m2]
  instanceTypes := #[.long]
  staticTypes := #[.long, .long, (.object "java/lang/Class"), .int, .int, .long]
  resolved := Array.replicate 524 none
  statics := none }

def pool13 : Array CpInfo := pool [(1, u "java/lang/Cloneable"), (0, .class_ 1), (0, u "java/lang/Object"), (0, .class_ 3)] 3

/-- java/lang/Cloneable -/
def k13 : Class := { plain "java/lang/Cloneable" (some 0) with
  accessFlags := 1537
  interfaces := #[]
  cf := some (fileOf pool13 2 #[] #[] 1537 4 #[] #[])
  fields := #[]
  methods := #[]
  instanceTypes := #[]
  staticTypes := #[]
  resolved := Array.replicate 8 none
  statics := none }

/-- the primitive byte -/
def k14 : Class := { plain "byte" none with kind := .primitive 'B', accessFlags := 0x411 }
/-- [B -/
def k15 : Class := { plain "[B" (some 0) with kind := .array 14 .byte, interfaces := #[13, 4], accessFlags := 1041 }

/-- the primitive int -/
def k16 : Class := { plain "int" none with kind := .primitive 'I', accessFlags := 0x411 }
/-- [I -/
def k17 : Class := { plain "[I" (some 0) with kind := .array 16 .int, interfaces := #[13, 4], accessFlags := 1041 }

/-- the primitive long -/
def k18 : Class := { plain "long" none with kind := .primitive 'J', accessFlags := 0x411 }
/-- [J -/
def k19 : Class := { plain "[J" (some 0) with kind := .array 18 .long, interfaces := #[13, 4], accessFlags := 1041 }

/-- [Lnearhop/model/Id; -/
def k20 : Class := { plain "[Lnearhop/model/Id;" (some 0) with kind := .array 10 (.object "nearhop/model/Id"), interfaces := #[13, 4], accessFlags := 1041 }

def heap : Heap := #[]
def k21 : Class := { plain "[[Lnearhop/model/Id;" (some 0) with kind := .array 20 (.array (.object "nearhop/model/Id")), interfaces := #[13, 4], accessFlags := 1041 }
def k22 : Class := { plain "[[J" (some 0) with kind := .array 19 (.array .long), interfaces := #[13, 4], accessFlags := 1041 }
def classes : Array Class := #[k0, k1, k2, k3, k4, k5, k6, k7, k8, k9, k10, k11, k12, k13, k14, k15, k16, k17, k18, k19, k20, k21, k22]
def interned : List (Array UInt16 × Addr) := []
def slotsUsed : Nat := 0
def theMethod : MethodId := ⟨1, 4⟩
def args0 : Array Value := #[.int 5, .int 6, .int 1, .int 4, .long 3, .long 2]
def aboutOver (below : List Frame) : State where
  vm := { classes := classes, interned := interned.toArray }
  heap := heap
  slotsUsed := slotsUsed
  threads := #[{ frames := .invoking theMethod args0 :: below }]
def below0 : List Frame := [.native { method := ⟨0, 0⟩, args := #[] }]
def about1 : State := aboutOver below0
def p0 : Program := .bare "" "" ""
def e0 : Env := launch0.env 0 0 0
theorem w_frames : about1.frames = Frame.invoking theMethod args0 :: below0 := rfl
set_option maxRecDepth 65536 in
theorem w_args : argsFit about1.vm theMethod args0 = true := by decide +kernel
set_option maxRecDepth 65536 in
theorem w_heap : heapFits about1 = true := by decide +kernel
set_option maxRecDepth 65536 in
theorem w_runnable : about1.curStatus? = some .runnable := by decide +kernel
set_option maxRecDepth 65536 in
theorem w_alone : about1.alone = true := by decide +kernel
set_option maxRecDepth 65536 in
theorem w_named : about1.methodNamed? x = some theMethod := by decide +kernel
set_option maxRecDepth 65536 in
theorem w_hears : about1.hears theMethod below0 = true := by decide +kernel
set_option maxRecDepth 65536 in
theorem w_ripe : about1.ripe theMethod args0 below0 = true := by decide +kernel
theorem w_running : about1.status = .running := rfl
set_option maxRecDepth 65536 in
theorem w_room : about1.hasRoom e0.platform room_1 = true :=
  launch0.hasRoom_least _ room_1 (by decide +kernel) (by decide +kernel) (by decide +kernel) (by decide +kernel) (by decide +kernel) (by decide +kernel)
theorem allAtoms_all (ts : List Jvm.Cond) (a : Array Jvm.Value) (st : Jvm.State) : (allAtoms ts).before a st = ts.all (fun c => c.before a st) := by
  induction ts with
  | nil => rfl
  | cons c t ih =>
    show (Jvm.Cond.and c (allAtoms t)).before a st = _
    rw [Jvm.Cond.before_and, ih, List.all_cons]
def words1 : List Jvm.Cond := Jvm.Cond.code x code maxLocals ret :: tables_1
/-- a 'code' word, met by the world's own term for the bytes: nothing is compared byte by byte -/
theorem code_word {y : MethodName} {bytes : ByteArray} {mx : Nat} {rt : Option FieldType} {a : Array Value} {s : State} {m : MethodId} {meth : Method} {c : Code} (h1 : s.methodNamed? y = some m) (h2 : s.vm.method? m = some meth) (h3 : meth.code = some c) (h4 : c.code = bytes)
    (h5 : (c.maxLocals == mx && c.exceptionTable.isEmpty && decide (c.maxStack ≤ mostOperands) && decide (meth.sig.returnType = rt) && !meth.locks && decide (parseMethodDescriptor y.desc = some meth.sig)) = true) : (Jvm.Cond.code y bytes mx rt).before a s = true := by
  simp only [Bool.and_eq_true, beq_iff_eq, Bool.not_eq_true', decide_eq_true_eq] at h5
  obtain ⟨⟨⟨⟨⟨g1, g2⟩, g3⟩, g4⟩, g5⟩, g6⟩ := h5
  simp [Cond.before, Cond.holds, Cond.value, h1, h2, h3, h4, g1, g2, g3, g4, g5, g6]
def isCode : Jvm.Cond → Bool
  | .code _ _ _ _ => true
  | _ => false
theorem all_split {L : List Jvm.Cond} {P : Jvm.Cond → Bool} (h1 : L.all (fun c => isCode c || P c) = true) (h2 : ∀ c ∈ L.filter isCode, P c = true) : L.all P = true := by
  refine List.all_eq_true.mpr fun c hc => ?_
  have h := List.all_eq_true.mp h1 c hc
  rcases Bool.eq_false_or_eq_true (isCode c) with hi | hi
  · exact h2 c (List.mem_filter.mpr ⟨hc, hi⟩)
  · simpa [hi] using h
set_option maxRecDepth 65536 in
theorem w_c0 : (Jvm.Cond.code x code maxLocals ret).before args0 about1 = true := code_word (m := ⟨1, 4⟩) (meth := k1m4) (c := k1c4) (by decide +kernel) rfl rfl rfl (by decide +kernel)
set_option maxRecDepth 65536 in
theorem w_c1 : (Jvm.Cond.code ({ cls := "nearhop/model/IdSpace", name := "<init>", desc := "(II)V" } : Jvm.MethodName) prog_77_method_1_code (4 : Nat) (Option.none : Option Jvm.ClassFile.FieldType)).before args0 about1 = true := code_word (m := ⟨3, 0⟩) (meth := k3m0) (c := k3c0) (by decide +kernel) rfl rfl rfl (by decide +kernel)
set_option maxRecDepth 65536 in
theorem w_c2 : (Jvm.Cond.code ({ cls := "java/lang/Record", name := "<init>", desc := "()V" } : Jvm.MethodName) jdk_30_method_1_code (1 : Nat) (Option.none : Option Jvm.ClassFile.FieldType)).before args0 about1 = true := code_word (m := ⟨2, 0⟩) (meth := k2m0) (c := k2c0) (by decide +kernel) rfl rfl rfl (by decide +kernel)
set_option maxRecDepth 65536 in
theorem w_c3 : (Jvm.Cond.code ({ cls := "java/lang/Object", name := "<init>", desc := "()V" } : Jvm.MethodName) object_method_1_code (1 : Nat) (Option.none : Option Jvm.ClassFile.FieldType)).before args0 about1 = true := code_word (m := ⟨0, 0⟩) (meth := k0m0) (c := k0c0) (by decide +kernel) rfl rfl rfl (by decide +kernel)
set_option maxRecDepth 65536 in
theorem w_c4 : (Jvm.Cond.code ({ cls := "java/lang/Integer", name := "numberOfTrailingZeros", desc := "(I)I" } : Jvm.MethodName) jdk_33_method_48_code (2 : Nat) (Option.some Jvm.ClassFile.FieldType.int)).before args0 about1 = true := code_word (m := ⟨9, 1⟩) (meth := k9m1) (c := k9c1) (by decide +kernel) rfl rfl rfl (by decide +kernel)
set_option maxRecDepth 65536 in
theorem w_c5 : (Jvm.Cond.code ({ cls := "nearhop/model/Id", name := "<init>", desc := "(Lnearhop/model/IdSpace;JJ)V" } : Jvm.MethodName) prog_76_method_1_code (6 : Nat) (Option.none : Option Jvm.ClassFile.FieldType)).before args0 about1 = true := code_word (m := ⟨10, 0⟩) (meth := k10m0) (c := k10c0) (by decide +kernel) rfl rfl rfl (by decide +kernel)
set_option maxRecDepth 65536 in
theorem w_c6 : (Jvm.Cond.code ({ cls := "nearhop/model/Id", name := "cutHigh", desc := "(Lnearhop/model/IdSpace;J)J" } : Jvm.MethodName) prog_76_method_2_code (6 : Nat) (Option.some Jvm.ClassFile.FieldType.long)).before args0 about1 = true := code_word (m := ⟨10, 1⟩) (meth := k10m1) (c := k10c1) (by decide +kernel) rfl rfl rfl (by decide +kernel)
set_option maxRecDepth 65536 in
theorem w_c7 : (Jvm.Cond.code ({ cls := "nearhop/model/IdSpace", name := "bits", desc := "()I" } : Jvm.MethodName) prog_77_method_3_code (1 : Nat) (Option.some Jvm.ClassFile.FieldType.int)).before args0 about1 = true := code_word (m := ⟨3, 2⟩) (meth := k3m2) (c := k3c2) (by decide +kernel) rfl rfl rfl (by decide +kernel)
set_option maxRecDepth 65536 in
theorem w_c8 : (Jvm.Cond.code ({ cls := "nearhop/model/IdSpace", name := "bitsPerDigit", desc := "()I" } : Jvm.MethodName) prog_77_method_2_code (1 : Nat) (Option.some Jvm.ClassFile.FieldType.int)).before args0 about1 = true := code_word (m := ⟨3, 1⟩) (meth := k3m1) (c := k3c1) (by decide +kernel) rfl rfl rfl (by decide +kernel)
set_option maxRecDepth 65536 in
theorem w_c9 : (Jvm.Cond.code ({ cls := "nearhop/model/Id", name := "cutLow", desc := "(Lnearhop/model/IdSpace;J)J" } : Jvm.MethodName) prog_76_method_3_code (4 : Nat) (Option.some Jvm.ClassFile.FieldType.long)).before args0 about1 = true := code_word (m := ⟨10, 2⟩) (meth := k10m2) (c := k10c2) (by decide +kernel) rfl rfl rfl (by decide +kernel)
set_option maxRecDepth 65536 in
theorem w_c10 : (Jvm.Cond.code ({ cls := "nearhop/model/RoutingTable", name := "<init>", desc := "(Lnearhop/model/Id;)V" } : Jvm.MethodName) prog_120_method_1_code (2 : Nat) (Option.none : Option Jvm.ClassFile.FieldType)).before args0 about1 = true := code_word (m := ⟨11, 0⟩) (meth := k11m0) (c := k11c0) (by decide +kernel) rfl rfl rfl (by decide +kernel)
set_option maxRecDepth 65536 in
theorem w_c11 : (Jvm.Cond.code ({ cls := "nearhop/model/Id", name := "space", desc := "()Lnearhop/model/IdSpace;" } : Jvm.MethodName) prog_76_method_4_code (1 : Nat) (Option.some (Jvm.ClassFile.FieldType.object "nearhop/model/IdSpace"))).before args0 about1 = true := code_word (m := ⟨10, 3⟩) (meth := k10m3) (c := k10c3) (by decide +kernel) rfl rfl rfl (by decide +kernel)
set_option maxRecDepth 65536 in
theorem w_c12 : (Jvm.Cond.code ({ cls := "nearhop/model/IdSpace", name := "digits", desc := "()I" } : Jvm.MethodName) prog_77_method_12_code (1 : Nat) (Option.some Jvm.ClassFile.FieldType.int)).before args0 about1 = true := code_word (m := ⟨3, 4⟩) (meth := k3m4) (c := k3c4) (by decide +kernel) rfl rfl rfl (by decide +kernel)
set_option maxRecDepth 65536 in
theorem w_c13 : (Jvm.Cond.code ({ cls := "nearhop/model/RoutingTable", name := "offer", desc := "(Lnearhop/model/Id;J)Z" } : Jvm.MethodName) prog_120_method_2_code (7 : Nat) (Option.some Jvm.ClassFile.FieldType.boolean)).before args0 about1 = true := code_word (m := ⟨11, 1⟩) (meth := k11m1) (c := k11c1) (by decide +kernel) rfl rfl rfl (by decide +kernel)
set_option maxRecDepth 65536 in
theorem w_c14 : (Jvm.Cond.code ({ cls := "nearhop/model/Id", name := "equals", desc := "(Ljava/lang/Object;)Z" } : Jvm.MethodName) prog_76_method_18_code (3 : Nat) (Option.some Jvm.ClassFile.FieldType.boolean)).before args0 about1 = true := code_word (m := ⟨10, 8⟩) (meth := k10m8) (c := k10c8) (by decide +kernel) rfl rfl rfl (by decide +kernel)
set_option maxRecDepth 65536 in
theorem w_c15 : (Jvm.Cond.code ({ cls := "nearhop/model/Id", name := "sharedPrefixLength", desc := "(Lnearhop/model/Id;)I" } : Jvm.MethodName) prog_76_method_7_code (7 : Nat) (Option.some Jvm.ClassFile.FieldType.int)).before args0 about1 = true := code_word (m := ⟨10, 5⟩) (meth := k10m5) (c := k10c5) (by decide +kernel) rfl rfl rfl (by decide +kernel)
set_option maxRecDepth 65536 in
theorem w_c16 : (Jvm.Cond.code ({ cls := "java/lang/Long", name := "numberOfLeadingZeros", desc := "(J)I" } : Jvm.MethodName) jdk_35_method_48_code (3 : Nat) (Option.some Jvm.ClassFile.FieldType.int)).before args0 about1 = true := code_word (m := ⟨12, 2⟩) (meth := k12m2) (c := k12c2) (by decide +kernel) rfl rfl rfl (by decide +kernel)
set_option maxRecDepth 65536 in
theorem w_c17 : (Jvm.Cond.code ({ cls := "java/lang/Integer", name := "numberOfLeadingZeros", desc := "(I)I" } : Jvm.MethodName) jdk_33_method_47_code (2 : Nat) (Option.some Jvm.ClassFile.FieldType.int)).before args0 about1 = true := code_word (m := ⟨9, 0⟩) (meth := k9m0) (c := k9c0) (by decide +kernel) rfl rfl rfl (by decide +kernel)
set_option maxRecDepth 65536 in
theorem w_c18 : (Jvm.Cond.code ({ cls := "nearhop/model/IdSpace", name := "base", desc := "()I" } : Jvm.MethodName) prog_77_method_11_code (1 : Nat) (Option.some Jvm.ClassFile.FieldType.int)).before args0 about1 = true := code_word (m := ⟨3, 3⟩) (meth := k3m3) (c := k3c3) (by decide +kernel) rfl rfl rfl (by decide +kernel)
set_option maxRecDepth 65536 in
theorem w_c19 : (Jvm.Cond.code ({ cls := "nearhop/model/Id", name := "digit", desc := "(I)I" } : Jvm.MethodName) prog_76_method_6_code (5 : Nat) (Option.some Jvm.ClassFile.FieldType.int)).before args0 about1 = true := code_word (m := ⟨10, 4⟩) (meth := k10m4) (c := k10c4) (by decide +kernel) rfl rfl rfl (by decide +kernel)
set_option maxRecDepth 65536 in
theorem w_c20 : (Jvm.Cond.code ({ cls := "nearhop/model/RoutingTable", name := "takes", desc := "(IILnearhop/model/Id;J)Z" } : Jvm.MethodName) prog_120_method_4_code (9 : Nat) (Option.some Jvm.ClassFile.FieldType.boolean)).before args0 about1 = true := code_word (m := ⟨11, 2⟩) (meth := k11m2) (c := k11c2) (by decide +kernel) rfl rfl rfl (by decide +kernel)
set_option maxRecDepth 65536 in
theorem w_c21 : (Jvm.Cond.code ({ cls := "nearhop/model/RoutingTable", name := "get", desc := "(II)Lnearhop/model/Id;" } : Jvm.MethodName) prog_120_method_8_code (3 : Nat) (Option.some (Jvm.ClassFile.FieldType.object "nearhop/model/Id"))).before args0 about1 = true := code_word (m := ⟨11, 3⟩) (meth := k11m3) (c := k11c3) (by decide +kernel) rfl rfl rfl (by decide +kernel)
set_option maxRecDepth 65536 in
theorem w_c22 : (Jvm.Cond.code ({ cls := "nearhop/model/RoutingTableGetPinLaw", name := "fits", desc := "(IIIIII)Z" } : Jvm.MethodName) method_4_code (6 : Nat) (Option.some Jvm.ClassFile.FieldType.boolean)).before args0 about1 = true := code_word (m := ⟨1, 3⟩) (meth := k1m3) (c := k1c3) (by decide +kernel) rfl rfl rfl (by decide +kernel)
set_option maxRecDepth 65536 in
theorem w_c23 : (Jvm.Cond.code ({ cls := "nearhop/model/RoutingTableGetPinLaw", name := "prefix", desc := "(IIII)I" } : Jvm.MethodName) method_3_code (4 : Nat) (Option.some Jvm.ClassFile.FieldType.int)).before args0 about1 = true := code_word (m := ⟨1, 2⟩) (meth := k1m2) (c := k1c2) (by decide +kernel) rfl rfl rfl (by decide +kernel)
set_option maxRecDepth 65536 in
theorem w_c24 : (Jvm.Cond.code ({ cls := "nearhop/model/RoutingTableGetPinLaw", name := "dig", desc := "(IIII)I" } : Jvm.MethodName) method_2_code (4 : Nat) (Option.some Jvm.ClassFile.FieldType.int)).before args0 about1 = true := code_word (m := ⟨1, 1⟩) (meth := k1m1) (c := k1c1) (by decide +kernel) rfl rfl rfl (by decide +kernel)
set_option maxRecDepth 65536 in
theorem w_c25 : (Jvm.Cond.code ({ cls := "nearhop/model/Id", name := "compareTo", desc := "(Lnearhop/model/Id;)I" } : Jvm.MethodName) prog_76_method_17_code (2 : Nat) (Option.some Jvm.ClassFile.FieldType.int)).before args0 about1 = true := code_word (m := ⟨10, 7⟩) (meth := k10m7) (c := k10c7) (by decide +kernel) rfl rfl rfl (by decide +kernel)
set_option maxRecDepth 65536 in
theorem w_c26 : (Jvm.Cond.code ({ cls := "nearhop/model/Id", name := "compareUnsigned", desc := "(JJJJ)I" } : Jvm.MethodName) prog_76_method_16_code (9 : Nat) (Option.some Jvm.ClassFile.FieldType.int)).before args0 about1 = true := code_word (m := ⟨10, 6⟩) (meth := k10m6) (c := k10c6) (by decide +kernel) rfl rfl rfl (by decide +kernel)
set_option maxRecDepth 65536 in
theorem w_c27 : (Jvm.Cond.code ({ cls := "java/lang/Long", name := "compareUnsigned", desc := "(JJ)I" } : Jvm.MethodName) jdk_35_method_43_code (4 : Nat) (Option.some Jvm.ClassFile.FieldType.int)).before args0 about1 = true := code_word (m := ⟨12, 1⟩) (meth := k12m1) (c := k12c1) (by decide +kernel) rfl rfl rfl (by decide +kernel)
set_option maxRecDepth 65536 in
theorem w_c28 : (Jvm.Cond.code ({ cls := "java/lang/Long", name := "compare", desc := "(JJ)I" } : Jvm.MethodName) jdk_35_method_42_code (4 : Nat) (Option.some Jvm.ClassFile.FieldType.int)).before args0 about1 = true := code_word (m := ⟨12, 0⟩) (meth := k12m0) (c := k12c0) (by decide +kernel) rfl rfl rfl (by decide +kernel)
def codes1 : List Jvm.Cond := [Jvm.Cond.code x code maxLocals ret, Jvm.Cond.code ({ cls := "nearhop/model/IdSpace", name := "<init>", desc := "(II)V" } : Jvm.MethodName) prog_77_method_1_code (4 : Nat) (Option.none : Option Jvm.ClassFile.FieldType), Jvm.Cond.code ({ cls := "java/lang/Record", name := "<init>", desc := "()V" } : Jvm.MethodName) jdk_30_method_1_code (1 : Nat) (Option.none : Option Jvm.ClassFile.FieldType), Jvm.Cond.code ({ cls := "java/lang/Object", name := "<init>", desc := "()V" } : Jvm.MethodName) object_method_1_code (1 : Nat) (Option.none : Option Jvm.ClassFile.FieldType), Jvm.Cond.code ({ cls := "java/lang/Integer", name := "numberOfTrailingZeros", desc := "(I)I" } : Jvm.MethodName) jdk_33_method_48_code (2 : Nat) (Option.some Jvm.ClassFile.FieldType.int), Jvm.Cond.code ({ cls := "nearhop/model/Id", name := "<init>", desc := "(Lnearhop/model/IdSpace;JJ)V" } : Jvm.MethodName) prog_76_method_1_code (6 : Nat) (Option.none : Option Jvm.ClassFile.FieldType), Jvm.Cond.code ({ cls := "nearhop/model/Id", name := "cutHigh", desc := "(Lnearhop/model/IdSpace;J)J" } : Jvm.MethodName) prog_76_method_2_code (6 : Nat) (Option.some Jvm.ClassFile.FieldType.long), Jvm.Cond.code ({ cls := "nearhop/model/IdSpace", name := "bits", desc := "()I" } : Jvm.MethodName) prog_77_method_3_code (1 : Nat) (Option.some Jvm.ClassFile.FieldType.int), Jvm.Cond.code ({ cls := "nearhop/model/IdSpace", name := "bitsPerDigit", desc := "()I" } : Jvm.MethodName) prog_77_method_2_code (1 : Nat) (Option.some Jvm.ClassFile.FieldType.int), Jvm.Cond.code ({ cls := "nearhop/model/Id", name := "cutLow", desc := "(Lnearhop/model/IdSpace;J)J" } : Jvm.MethodName) prog_76_method_3_code (4 : Nat) (Option.some Jvm.ClassFile.FieldType.long), Jvm.Cond.code ({ cls := "nearhop/model/RoutingTable", name := "<init>", desc := "(Lnearhop/model/Id;)V" } : Jvm.MethodName) prog_120_method_1_code (2 : Nat) (Option.none : Option Jvm.ClassFile.FieldType), Jvm.Cond.code ({ cls := "nearhop/model/Id", name := "space", desc := "()Lnearhop/model/IdSpace;" } : Jvm.MethodName) prog_76_method_4_code (1 : Nat) (Option.some (Jvm.ClassFile.FieldType.object "nearhop/model/IdSpace")), Jvm.Cond.code ({ cls := "nearhop/model/IdSpace", name := "digits", desc := "()I" } : Jvm.MethodName) prog_77_method_12_code (1 : Nat) (Option.some Jvm.ClassFile.FieldType.int), Jvm.Cond.code ({ cls := "nearhop/model/RoutingTable", name := "offer", desc := "(Lnearhop/model/Id;J)Z" } : Jvm.MethodName) prog_120_method_2_code (7 : Nat) (Option.some Jvm.ClassFile.FieldType.boolean), Jvm.Cond.code ({ cls := "nearhop/model/Id", name := "equals", desc := "(Ljava/lang/Object;)Z" } : Jvm.MethodName) prog_76_method_18_code (3 : Nat) (Option.some Jvm.ClassFile.FieldType.boolean), Jvm.Cond.code ({ cls := "nearhop/model/Id", name := "sharedPrefixLength", desc := "(Lnearhop/model/Id;)I" } : Jvm.MethodName) prog_76_method_7_code (7 : Nat) (Option.some Jvm.ClassFile.FieldType.int), Jvm.Cond.code ({ cls := "java/lang/Long", name := "numberOfLeadingZeros", desc := "(J)I" } : Jvm.MethodName) jdk_35_method_48_code (3 : Nat) (Option.some Jvm.ClassFile.FieldType.int), Jvm.Cond.code ({ cls := "java/lang/Integer", name := "numberOfLeadingZeros", desc := "(I)I" } : Jvm.MethodName) jdk_33_method_47_code (2 : Nat) (Option.some Jvm.ClassFile.FieldType.int), Jvm.Cond.code ({ cls := "nearhop/model/IdSpace", name := "base", desc := "()I" } : Jvm.MethodName) prog_77_method_11_code (1 : Nat) (Option.some Jvm.ClassFile.FieldType.int), Jvm.Cond.code ({ cls := "nearhop/model/Id", name := "digit", desc := "(I)I" } : Jvm.MethodName) prog_76_method_6_code (5 : Nat) (Option.some Jvm.ClassFile.FieldType.int), Jvm.Cond.code ({ cls := "nearhop/model/RoutingTable", name := "takes", desc := "(IILnearhop/model/Id;J)Z" } : Jvm.MethodName) prog_120_method_4_code (9 : Nat) (Option.some Jvm.ClassFile.FieldType.boolean), Jvm.Cond.code ({ cls := "nearhop/model/RoutingTable", name := "get", desc := "(II)Lnearhop/model/Id;" } : Jvm.MethodName) prog_120_method_8_code (3 : Nat) (Option.some (Jvm.ClassFile.FieldType.object "nearhop/model/Id")), Jvm.Cond.code ({ cls := "nearhop/model/RoutingTableGetPinLaw", name := "fits", desc := "(IIIIII)Z" } : Jvm.MethodName) method_4_code (6 : Nat) (Option.some Jvm.ClassFile.FieldType.boolean), Jvm.Cond.code ({ cls := "nearhop/model/RoutingTableGetPinLaw", name := "prefix", desc := "(IIII)I" } : Jvm.MethodName) method_3_code (4 : Nat) (Option.some Jvm.ClassFile.FieldType.int), Jvm.Cond.code ({ cls := "nearhop/model/RoutingTableGetPinLaw", name := "dig", desc := "(IIII)I" } : Jvm.MethodName) method_2_code (4 : Nat) (Option.some Jvm.ClassFile.FieldType.int), Jvm.Cond.code ({ cls := "nearhop/model/Id", name := "compareTo", desc := "(Lnearhop/model/Id;)I" } : Jvm.MethodName) prog_76_method_17_code (2 : Nat) (Option.some Jvm.ClassFile.FieldType.int), Jvm.Cond.code ({ cls := "nearhop/model/Id", name := "compareUnsigned", desc := "(JJJJ)I" } : Jvm.MethodName) prog_76_method_16_code (9 : Nat) (Option.some Jvm.ClassFile.FieldType.int), Jvm.Cond.code ({ cls := "java/lang/Long", name := "compareUnsigned", desc := "(JJ)I" } : Jvm.MethodName) jdk_35_method_43_code (4 : Nat) (Option.some Jvm.ClassFile.FieldType.int), Jvm.Cond.code ({ cls := "java/lang/Long", name := "compare", desc := "(JJ)I" } : Jvm.MethodName) jdk_35_method_42_code (4 : Nat) (Option.some Jvm.ClassFile.FieldType.int)]
set_option maxRecDepth 65536 in
theorem codes_eq : words1.filter isCode = codes1 := rfl
theorem w_codes : ∀ c ∈ words1.filter isCode, c.before args0 about1 = true := by
  rw [codes_eq]
  intro c hc
  simp only [codes1, List.mem_cons, List.not_mem_nil, or_false] at hc
  rcases hc with rfl | rfl | rfl | rfl | rfl | rfl | rfl | rfl | rfl | rfl | rfl | rfl | rfl | rfl | rfl | rfl | rfl | rfl | rfl | rfl | rfl | rfl | rfl | rfl | rfl | rfl | rfl | rfl | rfl
  · exact w_c0
  · exact w_c1
  · exact w_c2
  · exact w_c3
  · exact w_c4
  · exact w_c5
  · exact w_c6
  · exact w_c7
  · exact w_c8
  · exact w_c9
  · exact w_c10
  · exact w_c11
  · exact w_c12
  · exact w_c13
  · exact w_c14
  · exact w_c15
  · exact w_c16
  · exact w_c17
  · exact w_c18
  · exact w_c19
  · exact w_c20
  · exact w_c21
  · exact w_c22
  · exact w_c23
  · exact w_c24
  · exact w_c25
  · exact w_c26
  · exact w_c27
  · exact w_c28
set_option maxRecDepth 65536 in
theorem w_t1 : (words1.take 24).all (fun c => isCode c || c.before args0 about1) = true := by decide +kernel
set_option maxRecDepth 65536 in
theorem w_t2 : ((words1.drop 24).take 24).all (fun c => isCode c || c.before args0 about1) = true := by decide +kernel
set_option maxRecDepth 65536 in
theorem w_t3 : (((words1.drop 24).drop 24).take 24).all (fun c => isCode c || c.before args0 about1) = true := by decide +kernel
set_option maxRecDepth 65536 in
theorem w_t4 : ((((words1.drop 24).drop 24).drop 24).take 24).all (fun c => isCode c || c.before args0 about1) = true := by decide +kernel
set_option maxRecDepth 65536 in
theorem w_t5 : (((((words1.drop 24).drop 24).drop 24).drop 24).take 24).all (fun c => isCode c || c.before args0 about1) = true := by decide +kernel
set_option maxRecDepth 65536 in
theorem w_t6 : ((((((words1.drop 24).drop 24).drop 24).drop 24).drop 24).take 24).all (fun c => isCode c || c.before args0 about1) = true := by decide +kernel
set_option maxRecDepth 65536 in
theorem w_t7 : ((((((words1.drop 24).drop 24).drop 24).drop 24).drop 24).drop 24).all (fun c => isCode c || c.before args0 about1) = true := by decide +kernel
theorem w_tables : (allAtoms (Jvm.Cond.code x code maxLocals ret :: tables_1)).before args0 about1 = true := by
  rw [allAtoms_all]
  show words1.all (fun c => c.before args0 about1) = true
  refine all_split ?_ w_codes
  rw [← List.take_append_drop 24 words1, List.all_append, w_t1, ← List.take_append_drop 24 (words1.drop 24), List.all_append, w_t2, ← List.take_append_drop 24 ((words1.drop 24).drop 24), List.all_append, w_t3, ← List.take_append_drop 24 (((words1.drop 24).drop 24).drop 24), List.all_append, w_t4, ← List.take_append_drop 24 ((((words1.drop 24).drop 24).drop 24).drop 24), List.all_append, w_t5, ← List.take_append_drop 24 (((((words1.drop 24).drop 24).drop 24).drop 24).drop 24), List.all_append, w_t6, w_t7]
  rfl
set_option maxRecDepth 65536 in
theorem w_case : (Jvm.Cond.and given_1 narrow_1).before args0 about1 = true := by decide +kernel
theorem w_applies : (headSpec (Jvm.Cond.code x code maxLocals ret :: tables_1) room_1).applies x e0.platform about1 = true :=
  (Spec.applies_iff w_frames).mpr ⟨w_running, w_runnable, w_alone, w_named, w_hears, w_ripe, w_room, w_tables⟩
theorem atStart : AtStart classFile x code maxLocals ret World_1 tables_1 room_1 Calls_1 rest_1 Pre_1 launch0 p0 e0 about1 theMethod args0 below0 :=
  ⟨lists_1, trivial, launch0.admits_env _ _ _, launch0.least_env, fairChoices_fair.cas, fairChoices_fair.clock, w_frames, w_args, w_heap, w_applies, trivial, trivial, w_case⟩
end start1
theorem witness_1 : WitnessClaimed_1 := ⟨start1.p0, start1.e0, start1.about1, start1.theMethod, start1.args0, start1.below0, start1.atStart⟩
end Jvm.Pilot.@@N@@
