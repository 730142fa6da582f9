import JvmDerived
import JvmDerived.Pilot.@@N@@Statement
import JvmDerived.Pilot.@@N@@Code
set_option linter.unusedVariables false
set_option linter.unusedSimpArgs false
namespace Jvm.Pilot.@@N@@
open Jvm Jvm.ClassFile Sem Op Lib Jvm.Free Jvm.Stand Jvm.LawKit Jvm.RoadKit Bundle Jvm.Pilot.@@N@@.Jvm.D
section Own
variable {p : Program} {l : Launch} {e : Env} {R : Room} {s : State} {m : MethodId} {args : Array Value} {below : List Frame} {meth : Method} {c : Code} {T : State} {locs : List Loc} {cells slots : Nat} {Q : Option Value → Heap → List Loc → Prop} {C S : Nat}
abbrev vi (x : Int32) : Slot := .val (.int x)
abbrev vr (x : Addr) : Slot := .val (.ref x)
theorem own_w {a0 : Array Value} {Z : State} (hw : ∀ d ∈ tables_1, d.before a0 Z = true) (i : Nat) {d : Cond} (h : tables_1[i]? = some d) : d.before a0 Z = true := hw d (List.mem_of_getElem? h)
def Goes (p : Program) (e : Env) (below : List Frame) (P : Outcome → State → Prop) (A : State) : Prop :=
  ∃ s₂ o, Steps p.tables e below A s₂ ∧ s₂.status = .running ∧ Ended s₂ below o ∧ P o s₂
def Fin_ (s : State) (Q : Option Value → Heap → List Loc → Prop) (C S : Nat) (o : Outcome) (U' : State) : Prop :=
  ∃ v L, o = .returned v ∧ Q v U'.heap L ∧ FrameEnd s o U' L C S
theorem Goes.via {P : Outcome → State → Prop} {A B : State} (st : ∀ t, Steps p.tables e below B t → Steps p.tables e below A t) (k : Goes p e below P B) : Goes p e below P A := by
  obtain ⟨s₂, o, h1, h2⟩ := k
  exact ⟨s₂, o, st _ h1, h2⟩
theorem Goes.tr {P : Outcome → State → Prop} {A B : State} (st : Steps p.tables e below A B) (k : Goes p e below P B) : Goes p e below P A := by
  obtain ⟨s₂, o, h1, h2⟩ := k
  exact ⟨s₂, o, st.trans h1, h2⟩
theorem gIL (X : Stand p l e R s m args below meth c T locs cells slots) (hx : p.tables.exec = Jvm.exec) {code : ByteArray} (hby : c.code = code) {pc : Nat} {Ls : Array Slot} {S : List Value} {F : Outcome → State → Prop} {k : Nat} {v : Int32} (hd : decode code pc = .ok (.iload k, 2)) (hl : Ls[k]? = some (.val (.int v))) (G : Goes p e below F (T.setTop (mkF m (pc + 2) Ls (.int v :: S)))) : Goes p e below F (T.setTop (mkF m pc Ls (S))) := Goes.via (fun _ kk_ => XS.iload X.here hx rfl (hb hby hd) hl kk_) G
theorem gILN (X : Stand p l e R s m args below meth c T locs cells slots) (hx : p.tables.exec = Jvm.exec) {code : ByteArray} (hby : c.code = code) {pc : Nat} {Ls : Array Slot} {S : List Value} {F : Outcome → State → Prop} {k : Fin 4} {v : Int32} (hd : decode code pc = .ok (.iload_n k, 1)) (hl : Ls[k.val]? = some (.val (.int v))) (G : Goes p e below F (T.setTop (mkF m (pc + 1) Ls (.int v :: S)))) : Goes p e below F (T.setTop (mkF m pc Ls (S))) := Goes.via (fun _ kk_ => XS.iloadN X.here hx rfl (hb hby hd) hl kk_) G
theorem gAL (X : Stand p l e R s m args below meth c T locs cells slots) (hx : p.tables.exec = Jvm.exec) {code : ByteArray} (hby : c.code = code) {pc : Nat} {Ls : Array Slot} {S : List Value} {F : Outcome → State → Prop} {k : Nat} {v : Value} (hd : decode code pc = .ok (.aload k, 2)) (hl : Ls[k]? = some (.val v)) (hv : v.isRef = true) (G : Goes p e below F (T.setTop (mkF m (pc + 2) Ls (v :: S)))) : Goes p e below F (T.setTop (mkF m pc Ls (S))) := Goes.via (fun _ kk_ => XS.aload X.here hx rfl (hb hby hd) hl hv kk_) G
theorem gALN (X : Stand p l e R s m args below meth c T locs cells slots) (hx : p.tables.exec = Jvm.exec) {code : ByteArray} (hby : c.code = code) {pc : Nat} {Ls : Array Slot} {S : List Value} {F : Outcome → State → Prop} {k : Fin 4} {v : Value} (hd : decode code pc = .ok (.aload_n k, 1)) (hl : Ls[k.val]? = some (.val v)) (hv : v.isRef = true) (G : Goes p e below F (T.setTop (mkF m (pc + 1) Ls (v :: S)))) : Goes p e below F (T.setTop (mkF m pc Ls (S))) := Goes.via (fun _ kk_ => XS.aloadN X.here hx rfl (hb hby hd) hl hv kk_) G
theorem gIC {z : Int32} (X : Stand p l e R s m args below meth c T locs cells slots) (hx : p.tables.exec = Jvm.exec) {code : ByteArray} (hby : c.code = code) {pc : Nat} {Ls : Array Slot} {S : List Value} {F : Outcome → State → Prop} {i : Int} (hd : decode code pc = .ok (.iconst i, 1)) (hz : Int32.ofInt i = z) (G : Goes p e below F (T.setTop (mkF m (pc + 1) Ls (.int z :: S)))) : Goes p e below F (T.setTop (mkF m pc Ls S)) := by
  subst hz
  exact Goes.via (fun _ kk_ => XS.iconst X.here hx rfl (hb hby hd) kk_) G
theorem gBI {z : Int32} (X : Stand p l e R s m args below meth c T locs cells slots) (hx : p.tables.exec = Jvm.exec) {code : ByteArray} (hby : c.code = code) {pc : Nat} {Ls : Array Slot} {S : List Value} {F : Outcome → State → Prop} {i : Int} (hd : decode code pc = .ok (.bipush i, 2)) (hz : (Int8.ofInt i).toInt32 = z) (G : Goes p e below F (T.setTop (mkF m (pc + 2) Ls (.int z :: S)))) : Goes p e below F (T.setTop (mkF m pc Ls S)) := by
  subst hz
  exact Goes.via (fun _ kk_ => XS.bipush X.here hx rfl (hb hby hd) kk_) G
theorem gSI {z : Int32} (X : Stand p l e R s m args below meth c T locs cells slots) (hx : p.tables.exec = Jvm.exec) {code : ByteArray} (hby : c.code = code) {pc : Nat} {Ls : Array Slot} {S : List Value} {F : Outcome → State → Prop} {i : Int} (hd : decode code pc = .ok (.sipush i, 3)) (hz : (Int16.ofInt i).toInt32 = z) (G : Goes p e below F (T.setTop (mkF m (pc + 3) Ls (.int z :: S)))) : Goes p e below F (T.setTop (mkF m pc Ls S)) := by
  subst hz
  exact Goes.via (fun _ kk_ => XS.sipush X.here hx rfl (hb hby hd) kk_) G
theorem gDU (X : Stand p l e R s m args below meth c T locs cells slots) (hx : p.tables.exec = Jvm.exec) {code : ByteArray} (hby : c.code = code) {pc : Nat} {Ls : Array Slot} {S : List Value} {F : Outcome → State → Prop} {v : Value} (hd : decode code pc = .ok (.dup, 1)) (hc : v.category = 1) (G : Goes p e below F (T.setTop (mkF m (pc + 1) Ls (v :: v :: S)))) : Goes p e below F (T.setTop (mkF m pc Ls (v :: S))) := Goes.via (fun _ kk_ => XS.dup X.here hx rfl (hb hby hd) rfl hc kk_) G
theorem own_fin {pc : Nat} {Ls : Array Slot} {st : List Value} (X : Stand p l e R s m args below meth c T locs cells slots) (hlk : meth.locks = false) {v : Option Value} (hv : meth.sig.returnType = none → v = none)
    (hstep : ∀ fs, (∀ (f : JFrame) (acts : List Action), f.method = m → f.locked = none → f.entered = [] → (doReturn e (T.setTop f) acts v).1 = T.setFrames fs) → Steps p.tables e below (T.setTop (mkF m pc Ls st)) (T.setFrames fs))
    (hQ : Q v T.heap locs) (hC : cells ≤ C) (hS : slots ≤ S) : Goes p e below (Fin_ s Q C S) (T.setTop (mkF m pc Ls st)) := by
  obtain ⟨fs, hr, hrun, hended, hW, hsame⟩ := X.leave (v := v) hv hlk
  exact ⟨_, _, hstep fs hr, hrun, hended, _, _, rfl, hQ, ⟨_, rfl⟩, hW, hsame.mono hC hS⟩
theorem own_finV {pc : Nat} {Ls : Array Slot} (X : Stand p l e R s m args below meth c T locs cells slots) (hx : p.tables.exec = Jvm.exec) (hlk : meth.locks = false) (hret : meth.sig.returnType = none)
    (hd : decode c.code pc = .ok (.return_, 1)) (hQ : Q none T.heap locs) (hC : cells ≤ C) (hS : slots ≤ S) : Goes p e below (Fin_ s Q C S) (T.setTop (mkF m pc Ls [])) :=
  own_fin X hlk (fun _ => rfl) (fun _ hr => X.returnOut hx hret hd hr) hQ hC hS
theorem own_finI {pc : Nat} {Ls : Array Slot} {z : Int32} {rest : List Value} (X : Stand p l e R s m args below meth c T locs cells slots) (hx : p.tables.exec = Jvm.exec) (hlk : meth.locks = false) (hret : meth.sig.returnType = some .int)
    (hd : decode c.code pc = .ok (.ireturn, 1)) (hQ : Q (some (.int z)) T.heap locs) (hC : cells ≤ C) (hS : slots ≤ S) : Goes p e below (Fin_ s Q C S) (T.setTop (mkF m pc Ls (.int z :: rest))) :=
  own_fin X hlk (fun h => by rw [hret] at h; cases h) (fun _ hr => retOut X hx hret rfl (Or.inl ⟨rfl, Or.inl rfl, _, rfl⟩) hd hr) hQ hC hS
theorem own_finN {pc : Nat} {Ls : Array Slot} {z : Int32} {rest : List Value} (X : Stand p l e R s m args below meth c T locs cells slots) (hx : p.tables.exec = Jvm.exec) (hlk : meth.locks = false) {t : FieldType} (hret : meth.sig.returnType = some t)
    (ht : t = .boolean ∨ t = .byte ∨ t = .char ∨ t = .short) (hd : decode c.code pc = .ok (.ireturn, 1)) (hQ : Q (some (.int (nar t z))) T.heap locs) (hC : cells ≤ C) (hS : slots ≤ S) : Goes p e below (Fin_ s Q C S) (T.setTop (mkF m pc Ls (.int z :: rest))) :=
  own_fin X hlk (fun h => by rw [hret] at h; cases h) (fun _ hr => retN X hx hret ht hd hr) hQ hC hS
theorem own_finJ {pc : Nat} {Ls : Array Slot} {z : Int64} {rest : List Value} (X : Stand p l e R s m args below meth c T locs cells slots) (hx : p.tables.exec = Jvm.exec) (hlk : meth.locks = false) (hret : meth.sig.returnType = some .long)
    (hd : decode c.code pc = .ok (.lreturn, 1)) (hQ : Q (some (.long z)) T.heap locs) (hC : cells ≤ C) (hS : slots ≤ S) : Goes p e below (Fin_ s Q C S) (T.setTop (mkF m pc Ls (.long z :: rest))) :=
  own_fin X hlk (fun h => by rw [hret] at h; cases h) (fun _ hr => retOut X hx hret rfl (Or.inr (Or.inl ⟨rfl, rfl, _, rfl⟩)) hd hr) hQ hC hS
theorem own_finR {pc : Nat} {Ls : Array Slot} {w : Value} {rest : List Value} (X : Stand p l e R s m args below meth c T locs cells slots) (hx : p.tables.exec = Jvm.exec) (hlk : meth.locks = false) {t : FieldType} (hret : meth.sig.returnType = some t) (ht : t.isReference = true) (hw : w.isRef = true) (hn : narrow t w = w)
    (hd : decode c.code pc = .ok (.areturn, 1)) (hQ : Q (some w) T.heap locs) (hC : cells ≤ C) (hS : slots ≤ S) : Goes p e below (Fin_ s Q C S) (T.setTop (mkF m pc Ls (w :: rest))) :=
  own_fin X hlk (fun h => by rw [hret] at h; cases h) (fun _ hr => retOut X hx hret hn (Or.inr (Or.inr (Or.inr (Or.inr ⟨rfl, ht, hw⟩)))) hd hr) hQ hC hS
theorem own_sta_keep {Z : State} {h h' : Heap} {C n d : String} {v : Value} (F : Sta Z h C n d v) (K : Keep h h' []) : Sta Z h' C n d v := by
  obtain ⟨cf, i, k, f, st, cell, h1, h2, h3, h4, h5, h6⟩ := F
  exact ⟨cf, i, k, f, st, cell, h1, h2, h3, h4, K.2.1 _ _ h5 nin0, h6⟩
theorem own_mask (x : Int32) : ¬ (x &&& (2147483647 : Int32)) < (0 : Int32) := by
  intro q
  have q1 := (c_and x 2147483647 (by decide)).1
  have q2 := Int32.lt_iff_toInt_lt.mp q
  have q3 : (0 : Int32).toInt = 0 := by decide
  omega
theorem own_and255 (x : Int32) : ¬ (x &&& (255 : Int32)) < 0 ∧ ¬ (255 : Int32) < (x &&& (255 : Int32)) := by
  have q1 := c_and x 255 (by decide)
  have q3 : (0 : Int32).toInt = 0 := by decide
  have q4 : (255 : Int32).toInt = 255 := by decide
  constructor
  · intro q
    have q2 := Int32.lt_iff_toInt_lt.mp q
    omega
  · intro q
    have q2 := Int32.lt_iff_toInt_lt.mp q
    omega
theorem own_mvM {Z : State} {a0 args' : Array Value} {own host : String} {index : Nat} {y : MethodName} (hZ : Z.Warmed39 s.vm) (w : (Jvm.Cond.methodLinkNest own index y host).before a0 Z = true) : (Jvm.Cond.methodLinkNest own index y host).before args' s = true := (Jvm.Cond.methodLinkNest_wide hZ w :)
end Own
section Arrays
variable {p : Program} {l : Launch} {e : Env} {R : Room} {s : State} {m : MethodId} {args : Array Value} {below : List Frame} {meth : Method} {c : Code} {T : State} {locs : List Loc} {cells slots : Nat} {Z : State} {a0 : Array Value} {h h' : Heap} {a b : Addr} {k : ClassId} {ty : FieldType} {n : Nat} {f : Nat → Value} {ws : List Addr}
def Arw (Z : State) (h : Heap) (a : Addr) (k : ClassId) (ty : FieldType) (n : Nat) (f : Nat → Value) : Prop :=
  ∃ c : Cell, Arr Z h a c ty ∧ c.cls = k ∧ c.slots.size = n ∧ n < 2147483648 ∧ (∀ i, i < n → c.slots[i]? = some (f i)) ∧ ∀ i, i < n → fits ty (f i) = true
def own_upd (f : Nat → Value) (i : Nat) (v : Value) : Nat → Value := fun q => if q = i then v else f q
theorem own_upd_same (f : Nat → Value) (i : Nat) (v : Value) : own_upd f i v i = v := if_pos rfl
theorem own_upd_ne (f : Nat → Value) {i j : Nat} (v : Value) (q : j ≠ i) : own_upd f i v j = f j := if_neg q
theorem Arw.lt (F : Arw Z h a k ty n f) : a < h.size := by
  obtain ⟨c, A, -⟩ := F
  exact A.lt
theorem Arw.ext (F : Arw Z h a k ty n f) (E : Ext h h') : Arw Z h' a k ty n f := by
  obtain ⟨c, A, r⟩ := F
  exact ⟨c, A.ext E, r⟩
theorem Arw.other {sl : Nat} {v : Value} (F : Arw Z h b k ty n f) (W : Wr h h' a sl v) (q : b ≠ a) : Arw Z h' b k ty n f := by
  obtain ⟨c, A, r⟩ := F
  exact ⟨c, A.other W q, r⟩
theorem Arw.keep (F : Arw Z h a k ty n f) (K : Keep h h' ws) (q : a ∉ ws) : Arw Z h' a k ty n f := by
  obtain ⟨c, A, r⟩ := F
  exact ⟨c, ⟨K.2.1 _ _ A.1 q, A.2⟩, r⟩
theorem Arw.to {f' : Nat → Value} (F : Arw Z h a k ty n f) (q : ∀ i, i < n → f' i = f i) : Arw Z h a k ty n f' := by
  obtain ⟨c, A, h1, h2, h3, h4, h5⟩ := F
  exact ⟨c, A, h1, h2, h3, fun i hi => by rw [q i hi]; exact h4 i hi, fun i hi => by rw [q i hi]; exact h5 i hi⟩
theorem own_ne_arr {C : String} {kk : Nat} (F : Exa Z h a C) (wi : (Cond.instantiable C kk).before a0 Z = true) (G : Arw Z h b k ty n f) : a ≠ b := by
  obtain ⟨c, A, -⟩ := G
  exact ne_arr F wi A
theorem own_newP (X : Stand p l e R s m args below meth c T locs cells slots) (hx : p.tables.exec = Jvm.exec) (hZ : Z.Warmed39 s.vm) {aty : ArrayType} (w : (Cond.arrayClass (newarray.typeOf aty)).before a0 Z = true) (eT : T.heap = h) {g : JFrame} (hg : g.method = m)
    (hd : decode c.code g.pc = .ok (.newarray aty, 2)) {n : Int32} {rest : List Value} (hs : g.stack = .int n :: rest) {N : Nat} (hn : ¬ n < 0) (hN : n.toNatClampNeg = N) {cap : Nat} (hcap : N ≤ cap) (hb : cap * 8 ≤ 536870912) (hc : cells + 1 ≤ R.cells) (hl : slots + cap ≤ R.slots) :
    ∃ T' h' cA, Stand p l e R s m args below meth c T' locs (cells + 1) (slots + cap) ∧ T'.heap = h' ∧ Ext h h' ∧ Arw Z h' h.size cA (newarray.typeOf aty) N (fun _ => defaultValue (newarray.typeOf aty)) ∧
      ∀ target, Steps p.tables e below (T'.setTop { g with pc := g.pc + 2, stack := .ref h.size :: rest }) target → Steps p.tables e below (T.setTop g) target := by
  obtain ⟨T', h', cA, X', e', E', A', st⟩ := newP X hx hZ w eT hg hd hs hn (cap := cap) (by omega) hb hc hl
  refine ⟨T', h', cA, X', e', E', ⟨_, A', rfl, (sz_new _ _ _).trans hN, by omega, fun i hi => ?_, fun i hi => ?_⟩, st⟩
  · subst hN
    simp [newA, hi]
  · cases aty <;> rfl
theorem own_alen (X : Stand p l e R s m args below meth c T locs cells slots) (hx : p.tables.exec = Jvm.exec) (hZ : Z.Warmed39 s.vm) (eT : T.heap = h) (A : Arw Z h a k ty n f) {g : JFrame} (hg : g.method = m) {rest : List Value} (hs : g.stack = .ref a :: rest) (hd : decode c.code g.pc = .ok (.arraylength, 1)) :
    ∀ target, Steps p.tables e below (T.setTop { g with pc := g.pc + 1, stack := .int n.toInt32 :: rest }) target → Steps p.tables e below (T.setTop g) target := by
  obtain ⟨c, A, h1, h2, h3, h4, h5⟩ := A
  intro target kk
  refine X.arraylength hx (by rw [eT]; exact A.1) (State.isArrayOf_alike hZ.alike A.2.1) hg hs hd target ?_
  rw [h2]
  exact kk
theorem own_in {cl : Cell} {j : Int32} {i : Nat} (h2 : cl.slots.size = n) (hj : ¬ j < 0) (hji : j.toNatClampNeg = i) (hi : i < n) : ¬ (j < 0 ∨ cl.slots.size ≤ j.toNatClampNeg) := by
  rintro (q | q)
  · exact hj q
  · omega
theorem own_iaload (X : Stand p l e R s m args below meth c T locs cells slots) (hx : p.tables.exec = Jvm.exec) (hZ : Z.Warmed39 s.vm) (eT : T.heap = h) (A : Arw Z h a k .int n f) {j : Int32} {i : Nat} (hj : ¬ j < 0) (hji : j.toNatClampNeg = i) (hi : i < n) {v : Int32} (hv : f i = .int v)
    {g : JFrame} (hg : g.method = m) {rest : List Value} (hs : g.stack = .int j :: .ref a :: rest) (hd : decode c.code g.pc = .ok (.iaload, 1)) :
    ∀ target, Steps p.tables e below (T.setTop { g with pc := g.pc + 1, stack := .int v :: rest }) target → Steps p.tables e below (T.setTop g) target := by
  obtain ⟨cl, A, h1, h2, h3, h4, h5⟩ := A
  intro target kk
  exact X.iaload hx (by rw [eT]; exact A.1) (State.isArrayOf_alike hZ.alike A.2.1) A.2.2 (own_in h2 hj hji hi) (by rw [hji, h4 i hi, hv]) hg hs hd target kk
theorem own_laload (X : Stand p l e R s m args below meth c T locs cells slots) (hx : p.tables.exec = Jvm.exec) (hZ : Z.Warmed39 s.vm) (eT : T.heap = h) (A : Arw Z h a k .long n f) {j : Int32} {i : Nat} (hj : ¬ j < 0) (hji : j.toNatClampNeg = i) (hi : i < n) {v : Int64} (hv : f i = .long v)
    {g : JFrame} (hg : g.method = m) {rest : List Value} (hs : g.stack = .int j :: .ref a :: rest) (hd : decode c.code g.pc = .ok (.laload, 1)) :
    ∀ target, Steps p.tables e below (T.setTop { g with pc := g.pc + 1, stack := .long v :: rest }) target → Steps p.tables e below (T.setTop g) target := by
  obtain ⟨cl, A, h1, h2, h3, h4, h5⟩ := A
  intro target kk
  exact X.laload hx (by rw [eT]; exact A.1) (State.isArrayOf_alike hZ.alike A.2.1) A.2.2 (own_in h2 hj hji hi) (by rw [hji, h4 i hi, hv]) hg hs hd target kk
theorem own_aaload (X : Stand p l e R s m args below meth c T locs cells slots) (hx : p.tables.exec = Jvm.exec) (hZ : Z.Warmed39 s.vm) (eT : T.heap = h) (A : Arw Z h a k ty n f) (hty : ty.isReference = true) {j : Int32} {i : Nat} (hj : ¬ j < 0) (hji : j.toNatClampNeg = i) (hi : i < n) {v : Value} (hv : f i = v)
    {g : JFrame} (hg : g.method = m) {rest : List Value} (hs : g.stack = .int j :: .ref a :: rest) (hd : decode c.code g.pc = .ok (.aaload, 1)) :
    ∀ target, Steps p.tables e below (T.setTop { g with pc := g.pc + 1, stack := v :: rest }) target → Steps p.tables e below (T.setTop g) target := by
  obtain ⟨cl, A, h1, h2, h3, h4, h5⟩ := A
  intro target kk
  exact X.aaload hx (by rw [eT]; exact A.1) (State.isArrayOf_alike hZ.alike A.2.1) hty A.2.2 (own_in h2 hj hji hi) (by rw [hji, h4 i hi, hv]) hg hs hd target kk
theorem own_ix {j : Int32} {i : Nat} (h : j.toInt = i) : ¬ j < 0 ∧ j.toNatClampNeg = i := by
  constructor
  · intro q
    have q1 := Int32.lt_iff_toInt_lt.mp q
    have q3 : (0 : Int32).toInt = 0 := by decide
    omega
  · show j.toInt.toNat = i
    omega
theorem own_lti {x y : Int32} : x < y ↔ x.toInt < y.toInt := Int32.lt_iff_toInt_lt
theorem Arw.ofArv {z : Int32} {vs : List Value} {dv : Value} (F : Arv Z h a k ty z vs dv) (hn : z.toNatClampNeg = n) (q : ∀ i, i < n → vs.getD i dv = f i) : Arw Z h a k ty n f := by
  obtain ⟨c, A, h1, h2, h3, h4, h5⟩ := F
  have hb := (back32 h3).2
  refine ⟨c, A, h1, h2.trans hn, by omega, fun i hi => ?_, fun i hi => ?_⟩
  · rw [h4 i (by omega), q i hi]
  · rw [← q i hi]
    exact h5 i (by omega)
theorem own_set {cl : Cell} {j : Int32} {i : Nat} {v : Value} (A : Arr Z h a cl ty) (h1 : cl.cls = k) (h2 : cl.slots.size = n) (h3 : n < 2147483648) (h4 : ∀ i, i < n → cl.slots[i]? = some (f i)) (h5 : ∀ i, i < n → fits ty (f i) = true) (hv : fits ty v = true) (W : Wr h h' a j.toNatClampNeg v) (hji : j.toNatClampNeg = i) (hi : i < n) :
    Arw Z h' a k ty n (own_upd f i v) := by
  subst hji
  refine ⟨_, A.same W, h1, by rw [sz_set]; exact h2, h3, fun q hq => ?_, fun q hq => ?_⟩
  · by_cases e : q = j.toNatClampNeg
    · subst e
      rw [own_upd_same]
      simp [Cell.setSlot, h2, hq]
    · rw [own_upd_ne _ _ e, ← h4 q hq]
      simp [Cell.setSlot, Array.getElem?_setIfInBounds, Ne.symm e]
  · by_cases e : q = j.toNatClampNeg
    · subst e
      rw [own_upd_same]
      exact hv
    · rw [own_upd_ne _ _ e]
      exact h5 q hq
theorem own_iastore (X : Stand p l e R s m args below meth c T locs cells slots) (hx : p.tables.exec = Jvm.exec) (hZ : Z.Warmed39 s.vm) (eT : T.heap = h) (A : Arw Z h a k .int n f) {j : Int32} {i : Nat} (hj : ¬ j < 0) (hji : j.toNatClampNeg = i) (hi : i < n)
    {g : JFrame} (hg : g.method = m) {x : Int32} {rest : List Value} (hs : g.stack = .int x :: .int j :: .ref a :: rest) (hd : decode c.code g.pc = .ok (.iastore, 1)) :
    ∃ T' h', Stand p l e R s m args below meth c T' (locs ++ [⟨a, j.toNatClampNeg⟩]) cells slots ∧ T'.heap = h' ∧ Wr h h' a j.toNatClampNeg (.int x) ∧ Arw Z h' a k .int n (own_upd f i (.int x)) ∧
      ∀ target, Steps p.tables e below (T'.setTop { g with pc := g.pc + 1, stack := rest }) target → Steps p.tables e below (T.setTop g) target := by
  obtain ⟨cl, A, h1, h2, h3, h4, h5⟩ := A
  obtain ⟨T', h', X', e', W, st⟩ := stI X hx hZ eT A (j := j) (own_in h2 hj hji hi) hg hs hd
  exact ⟨T', h', X', e', W, own_set A h1 h2 h3 h4 h5 rfl W hji hi, st⟩
theorem own_lastore (X : Stand p l e R s m args below meth c T locs cells slots) (hx : p.tables.exec = Jvm.exec) (hZ : Z.Warmed39 s.vm) (eT : T.heap = h) (A : Arw Z h a k .long n f) {j : Int32} {i : Nat} (hj : ¬ j < 0) (hji : j.toNatClampNeg = i) (hi : i < n)
    {g : JFrame} (hg : g.method = m) {x : Int64} {rest : List Value} (hs : g.stack = .long x :: .int j :: .ref a :: rest) (hd : decode c.code g.pc = .ok (.lastore, 1)) :
    ∃ T' h', Stand p l e R s m args below meth c T' (locs ++ [⟨a, j.toNatClampNeg⟩]) cells slots ∧ T'.heap = h' ∧ Wr h h' a j.toNatClampNeg (.long x) ∧ Arw Z h' a k .long n (own_upd f i (.long x)) ∧
      ∀ target, Steps p.tables e below (T'.setTop { g with pc := g.pc + 1, stack := rest }) target → Steps p.tables e below (T.setTop g) target := by
  obtain ⟨cl, A, h1, h2, h3, h4, h5⟩ := A
  obtain ⟨T', h', X', e', W, st⟩ := stJ X hx hZ eT A (j := j) (own_in h2 hj hji hi) hg hs hd
  exact ⟨T', h', X', e', W, own_set A h1 h2 h3 h4 h5 rfl W hji hi, st⟩
theorem own_castore (X : Stand p l e R s m args below meth c T locs cells slots) (hx : p.tables.exec = Jvm.exec) (hZ : Z.Warmed39 s.vm) (eT : T.heap = h) (A : Arw Z h a k .char n f) {j : Int32} {i : Nat} (hj : ¬ j < 0) (hji : j.toNatClampNeg = i) (hi : i < n)
    {g : JFrame} (hg : g.method = m) {x : Int32} {rest : List Value} (hs : g.stack = .int x :: .int j :: .ref a :: rest) (hd : decode c.code g.pc = .ok (.castore, 1)) :
    ∃ T' h', Stand p l e R s m args below meth c T' (locs ++ [⟨a, j.toNatClampNeg⟩]) cells slots ∧ T'.heap = h' ∧ Wr h h' a j.toNatClampNeg (.int (nar .char x)) ∧ Arw Z h' a k .char n (own_upd f i (.int (nar .char x))) ∧
      ∀ target, Steps p.tables e below (T'.setTop { g with pc := g.pc + 1, stack := rest }) target → Steps p.tables e below (T.setTop g) target := by
  obtain ⟨cl, A, h1, h2, h3, h4, h5⟩ := A
  obtain ⟨T', h', X', e', W, st⟩ := stC X hx hZ eT A (j := j) (own_in h2 hj hji hi) hg hs hd
  exact ⟨T', h', X', e', W, own_set A h1 h2 h3 h4 h5 (fits_nar_char _) W hji hi, st⟩
theorem own_caload (X : Stand p l e R s m args below meth c T locs cells slots) (hx : p.tables.exec = Jvm.exec) (hZ : Z.Warmed39 s.vm) (eT : T.heap = h) (A : Arw Z h a k .char n f) {j : Int32} {i : Nat} (hj : ¬ j < 0) (hji : j.toNatClampNeg = i) (hi : i < n) {v : Int32} (hv : f i = .int v)
    {g : JFrame} (hg : g.method = m) {rest : List Value} (hs : g.stack = .int j :: .ref a :: rest) (hd : decode c.code g.pc = .ok (.caload, 1)) :
    ∀ target, Steps p.tables e below (T.setTop { g with pc := g.pc + 1, stack := .int v :: rest }) target → Steps p.tables e below (T.setTop g) target := by
  obtain ⟨cl, A, h1, h2, h3, h4, h5⟩ := A
  intro target kk
  exact X.caload hx (by rw [eT]; exact A.1) (State.isArrayOf_alike hZ.alike A.2.1) A.2.2 (own_in h2 hj hji hi) (by rw [hji, h4 i hi, hv]) hg hs hd target kk
theorem own_baload (X : Stand p l e R s m args below meth c T locs cells slots) (hx : p.tables.exec = Jvm.exec) (hZ : Z.Warmed39 s.vm) (eT : T.heap = h) (A : Arw Z h a k .byte n f) {j : Int32} {i : Nat} (hj : ¬ j < 0) (hji : j.toNatClampNeg = i) (hi : i < n) {v : Int32} (hv : f i = .int v)
    {g : JFrame} (hg : g.method = m) {rest : List Value} (hs : g.stack = .int j :: .ref a :: rest) (hd : decode c.code g.pc = .ok (.baload, 1)) :
    ∀ target, Steps p.tables e below (T.setTop { g with pc := g.pc + 1, stack := .int v :: rest }) target → Steps p.tables e below (T.setTop g) target := by
  obtain ⟨cl, A, h1, h2, h3, h4, h5⟩ := A
  intro target kk
  exact X.baloadBytes hx (by rw [eT]; exact A.1) (State.isArrayOf_alike hZ.alike A.2.1) A.2.2 (own_in h2 hj hji hi) (by rw [hji, h4 i hi, hv]) hg hs hd target kk
theorem Arw.toArv {vs : List Value} {dv : Value} {z : Int32} (F : Arw Z h a k ty n f) (hz : z.toInt = (n : Int)) (q : ∀ i, i < n → vs.getD i dv = f i) : Arv Z h a k ty z vs dv := by
  obtain ⟨c, A, h1, h2, h3, h4, h5⟩ := F
  obtain ⟨z0, zn⟩ := own_ix hz
  exact ⟨c, A, h1, h2.trans zn.symm, z0, fun i hi => by rw [h4 i (by omega), q i (by omega)], fun i hi => by rw [q i (by omega)]; exact h5 i (by omega)⟩
end Arrays
section Refs
variable {p : Program} {l : Launch} {e : Env} {R : Room} {s : State} {m : MethodId} {args : Array Value} {below : List Frame} {meth : Method} {c : Code} {T : State} {locs : List Loc} {cells slots : Nat} {Z : State} {a0 : Array Value} {h h' : Heap} {a b : Addr} {k : ClassId} {ty : FieldType} {n : Nat} {f : Nat → Value} {ws : List Addr}
/-- anewarray of a class's references -/
theorem own_newO (X : Stand p l e R s m args below meth c T locs cells slots) (hx : p.tables.exec = Jvm.exec) (hZ : Z.Warmed39 s.vm) {own C : String} {index : Nat} (hown : s.vm.findClass own = some m.cls) (w1 : (Cond.classLink own index C).before a0 Z = true) (w2 : (Cond.arrayOver (.object C)).before a0 Z = true)
    (eT : T.heap = h) {g : JFrame} (hg : g.method = m) (hd : decode c.code g.pc = .ok (.anewarray index, 3)) {n : Int32} {rest : List Value} (hs : g.stack = .int n :: rest) {N : Nat} (hn : ¬ n < 0) (hN : n.toNatClampNeg = N) {cap : Nat} (hcap : N ≤ cap) (hb : cap * 8 ≤ 536870912) (hc : cells + 1 ≤ R.cells) (hl : slots + cap ≤ R.slots) :
    ∃ T' h' cA, Stand p l e R s m args below meth c T' locs (cells + 1) (slots + cap) ∧ T'.heap = h' ∧ Ext h h' ∧ Arw Z h' h.size cA (.object C) N (fun _ => .null) ∧ Ovr Z cA C ∧
      ∀ target, Steps p.tables e below (T'.setTop { g with pc := g.pc + 3, stack := .ref h.size :: rest }) target → Steps p.tables e below (T.setTop g) target := by
  obtain ⟨T', h', cA, X', e', E', A', O, st⟩ := newR X hx hZ hown w1 w2 eT hg hd hs hn (cap := cap) (by omega) hb hc hl
  refine ⟨T', h', cA, X', e', E', ⟨_, A', rfl, (sz_new _ _ _).trans hN, by omega, fun i hi => ?_, fun i hi => ?_⟩, O, st⟩
  · subst hN
    simp [newA, hi, defaultValue]
  · rfl
/-- aastore of an object of a class that the array's components take -/
theorem own_aastore (X : Stand p l e R s m args below meth c T locs cells slots) (hx : p.tables.exec = Jvm.exec) (hZ : Z.Warmed39 s.vm) (eT : T.heap = h) {C : String} (A : Arw Z h a k ty n f) (hty : ty.isReference = true) {y : Addr} (hv : fits ty (.ref y) = true) (O : Ovr Z k C) (I : Ins Z h y C true) {j : Int32} {i : Nat} (hj : ¬ j < 0) (hji : j.toNatClampNeg = i) (hi : i < n)
    {g : JFrame} (hg : g.method = m) {rest : List Value} (hs : g.stack = .ref y :: .int j :: .ref a :: rest) (hd : decode c.code g.pc = .ok (.aastore, 1)) :
    ∃ T' h', Stand p l e R s m args below meth c T' (locs ++ [⟨a, j.toNatClampNeg⟩]) cells slots ∧ T'.heap = h' ∧ Wr h h' a j.toNatClampNeg (.ref y) ∧ Arw Z h' a k ty n (own_upd f i (.ref y)) ∧
      ∀ target, Steps p.tables e below (T'.setTop { g with pc := g.pc + 1, stack := rest }) target → Steps p.tables e below (T.setTop g) target := by
  obtain ⟨cl, A, h1, h2, h3, h4, h5⟩ := A
  obtain ⟨T', h', X', e', W, st⟩ := stR X hx hZ eT A (j := j) (own_in h2 hj hji hi) hty (Sto.ofV A h1 O I) hg hs hd
  exact ⟨T', h', X', e', W, own_set A h1 h2 h3 h4 h5 hv W hji hi, st⟩
/-- aastore of null -/
theorem own_aastoreN (X : Stand p l e R s m args below meth c T locs cells slots) (hx : p.tables.exec = Jvm.exec) (hZ : Z.Warmed39 s.vm) (eT : T.heap = h) (A : Arw Z h a k ty n f) (hty : ty.isReference = true) (hv : fits ty .null = true) {j : Int32} {i : Nat} (hj : ¬ j < 0) (hji : j.toNatClampNeg = i) (hi : i < n)
    {g : JFrame} (hg : g.method = m) {rest : List Value} (hs : g.stack = .null :: .int j :: .ref a :: rest) (hd : decode c.code g.pc = .ok (.aastore, 1)) :
    ∃ T' h', Stand p l e R s m args below meth c T' (locs ++ [⟨a, j.toNatClampNeg⟩]) cells slots ∧ T'.heap = h' ∧ Wr h h' a j.toNatClampNeg .null ∧ Arw Z h' a k ty n (own_upd f i .null) ∧
      ∀ target, Steps p.tables e below (T'.setTop { g with pc := g.pc + 1, stack := rest }) target → Steps p.tables e below (T.setTop g) target := by
  obtain ⟨cl, A, h1, h2, h3, h4, h5⟩ := A
  obtain ⟨T', h', X', e', W, st⟩ := stR X hx hZ eT A (j := j) (own_in h2 hj hji hi) hty (Or.inl rfl) hg hs hd
  exact ⟨T', h', X', e', W, own_set A h1 h2 h3 h4 h5 hv W hji hi, st⟩
end Refs
theorem own_plE {Z : State} {h : Heap} {a : Addr} {C : String} (F : Exa Z h a C) : ∃ c : Cell, h[a]? = some c ∧ c.vm.isStatics = false := by
  obtain ⟨c, _, h1, -, -, h4, -⟩ := F
  exact ⟨c, h1, h4⟩
theorem own_plA {Z : State} {h : Heap} {a : Addr} {k : ClassId} {ty : FieldType} {n : Nat} {f : Nat → Value} (F : Arw Z h a k ty n f) : ∃ c : Cell, h[a]? = some c ∧ c.vm.isStatics = false := by
  obtain ⟨c, A, -⟩ := F
  exact ⟨c, A.1, A.plain⟩
theorem own_sta_keepW {Z : State} {h h' : Heap} {ws : List Addr} {C n d : String} {v : Value} (F : Sta Z h C n d v) (K : Keep h h' ws) (q : ∀ w ∈ ws, ∃ c : Cell, h[w]? = some c ∧ c.vm.isStatics = false) : Sta Z h' C n d v := by
  obtain ⟨cf, i, k, f, st, cell, h1, h2, h3, h4, h5, h6, h7⟩ := F
  refine ⟨cf, i, k, f, st, cell, h1, h2, h3, h4, K.2.1 _ _ h5 (fun hm => ?_), h6, h7⟩
  obtain ⟨c, e1, e2⟩ := q st hm
  cases h5.symm.trans e1
  rw [e2] at h6
  cases h6
theorem own_selP {Z : State} {a0 : Array Value} {y : MethodName} {n : Nat} (wi : (Cond.instantiable y.cls n).before a0 Z = true) (wp : (Cond.privateMethod y).before a0 Z = true) (wm : (Cond.instanceMethod y).before a0 Z = true) (hy : y.cls ≠ "java/lang/invoke/MethodHandle" ∧ y.cls ≠ "java/lang/invoke/VarHandle") : (Cond.selects y.cls y y).before a0 Z = true := by
  obtain ⟨c, k, g1, g2, g3, g4, -⟩ := Cond.instantiable_spec wi
  refine selects_self_of_private g1 g2 ?_ (Cond.privateMethod_at wp) wm hy
  cases q : k.isInterface with
  | false => rfl
  | true => rw [q] at g4; simp at g4
def own_bb (x b : Int32) : Prop := (x = (2 : Int32) ∧ b = (1 : Int32)) ∨ (x = (4 : Int32) ∧ b = (2 : Int32)) ∨ (x = (8 : Int32) ∧ b = (3 : Int32)) ∨ (x = (16 : Int32) ∧ b = (4 : Int32))
theorem own_bb0 {x b : Int32} (h : own_bb x b) : ¬ b = (0 : Int32) := by rcases h with ⟨-, rfl⟩ | ⟨-, rfl⟩ | ⟨-, rfl⟩ | ⟨-, rfl⟩ <;> decide
theorem own_bb16 {x b : Int32} (h : own_bb x b) (h1 : ¬ x = (2 : Int32)) (h2 : ¬ x = (4 : Int32)) (h3 : ¬ x = (8 : Int32)) : x = (16 : Int32) := by
  rcases h with z | z | z | z
  · exact absurd z.1 h1
  · exact absurd z.1 h2
  · exact absurd z.1 h3
  · exact z.1
theorem own_bbr {x b : Int32} (h : own_bb x b) : 1 ≤ b.toInt ∧ b.toInt ≤ 4 := by rcases h with ⟨-, rfl⟩ | ⟨-, rfl⟩ | ⟨-, rfl⟩ | ⟨-, rfl⟩ <;> decide
theorem own_bbd {x b d : Int32} (h : own_bb x b) (hd : d.toInt ≤ 8) : ¬ (128 : Int32) / b < d := fun q => by
  have q1 := own_lti.mp q
  have q2 : 32 ≤ ((128 : Int32) / b).toInt := by rcases h with ⟨-, rfl⟩ | ⟨-, rfl⟩ | ⟨-, rfl⟩ | ⟨-, rfl⟩ <;> decide
  omega
theorem own_bits {x b d : Int32} (h : own_bb x b) (h1 : 1 ≤ d.toInt) (h2 : d.toInt ≤ 8) : (d * b).toInt = d.toInt * b.toInt ∧ 1 ≤ (d * b).toInt ∧ (d * b).toInt ≤ 32 := by
  have q := c_imul d b
  have q2 := rng32 (d * b)
  rcases h with ⟨-, rfl⟩ | ⟨-, rfl⟩ | ⟨-, rfl⟩ | ⟨-, rfl⟩
  · have e : (1 : Int32).toInt = 1 := by decide
    rw [e] at q ⊢
    omega
  · have e : (2 : Int32).toInt = 2 := by decide
    rw [e] at q ⊢
    omega
  · have e : (3 : Int32).toInt = 3 := by decide
    rw [e] at q ⊢
    have z : d.toInt = 1 ∨ d.toInt = 2 ∨ d.toInt = 3 ∨ d.toInt = 4 ∨ d.toInt = 5 ∨ d.toInt = 6 ∨ d.toInt = 7 ∨ d.toInt = 8 := by omega
    rcases z with z | z | z | z | z | z | z | z <;> (rw [z] at q ⊢; omega)
  · have e : (4 : Int32).toInt = 4 := by decide
    rw [e] at q ⊢
    omega
theorem own_ret {x y : Int32} (h : x = y) : some (Value.int x) = some (Value.int y) := by rw [h]
theorem own_retL {x y : Int64} (h : x = y) : some (Value.long x) = some (Value.long y) := by rw [h]
theorem own_n64 {x b d : Int32} (h : own_bb x b) (h1 : 1 ≤ d.toInt) (h2 : d.toInt ≤ 8) : ¬ (64 : Int32) < d * b ∧ d * b < (64 : Int32) := by
  have q := own_bits h h1 h2
  have e : (64 : Int32).toInt = 64 := by decide
  exact ⟨fun z => by have := own_lti.mp z; omega, own_lti.mpr (by omega)⟩
theorem own_s1 {i : Int32} {j : Nat} (h : i.toInt = (j : Int)) (hj : j < 2147483647) : (i + 1).toInt = ((j + 1 : Nat) : Int) := by
  have q := c_iadd i 1
  have q1 : (1 : Int32).toInt = 1 := by decide
  have q3 := rng32 (i + 1)
  omega
theorem ef_rmNtz (m : MethodId) (x_ : Int32) : entryFrame m #[(.int x_)] 2 = mkF m 0 #[.val (.int x_), .unset] [] := by first | (simp [entryFrame, mkF, argsToLocals, Value.category]; done) | rfl
def QrmNtz (Z : State) (x_ : Int32) (bp : Int32) (h0 : Heap) (n0 : Nat) (v_ : Option Value) (h_ : Heap) (L_ : List Loc) : Prop := v_ = some (.int bp) ∧ L_ = [] ∧ h_ = h0
theorem pn_java_lang_Integer : plainName "java/lang/Integer" = true := by first | (simp [plainName, overriddenIn]; done) | decide +kernel
theorem d4_0 : decode jdk_33_method_48_code 0 = .ok (.iload_n 0, 1) := by decide +kernel
theorem d4_1 : decode jdk_33_method_48_code 1 = .ok (.iconst (-1), 1) := by decide +kernel
theorem d4_2 : decode jdk_33_method_48_code 2 = .ok (.ixor, 1) := by decide +kernel
theorem d4_3 : decode jdk_33_method_48_code 3 = .ok (.iload_n 0, 1) := by decide +kernel
theorem d4_4 : decode jdk_33_method_48_code 4 = .ok (.iconst 1, 1) := by decide +kernel
theorem d4_5 : decode jdk_33_method_48_code 5 = .ok (.isub, 1) := by decide +kernel
theorem d4_6 : decode jdk_33_method_48_code 6 = .ok (.iand, 1) := by decide +kernel
theorem d4_7 : decode jdk_33_method_48_code 7 = .ok (.istore_n 0, 1) := by decide +kernel
theorem d4_8 : decode jdk_33_method_48_code 8 = .ok (.iload_n 0, 1) := by decide +kernel
theorem d4_9 : decode jdk_33_method_48_code 9 = .ok (.ifCond .gt 8, 3) := by decide +kernel
theorem d4_17 : decode jdk_33_method_48_code 17 = .ok (.iconst 1, 1) := by decide +kernel
theorem d4_18 : decode jdk_33_method_48_code 18 = .ok (.istore_n 1, 1) := by decide +kernel
theorem d4_19 : decode jdk_33_method_48_code 19 = .ok (.iload_n 0, 1) := by decide +kernel
theorem d4_20 : decode jdk_33_method_48_code 20 = .ok (.ldc_w 264, 3) := by decide +kernel
theorem d4_23 : decode jdk_33_method_48_code 23 = .ok (.if_icmp .le 11, 3) := by decide +kernel
theorem d4_34 : decode jdk_33_method_48_code 34 = .ok (.iload_n 0, 1) := by decide +kernel
theorem d4_35 : decode jdk_33_method_48_code 35 = .ok (.sipush 256, 3) := by decide +kernel
theorem d4_38 : decode jdk_33_method_48_code 38 = .ok (.if_icmp .le 11, 3) := by decide +kernel
theorem d4_49 : decode jdk_33_method_48_code 49 = .ok (.iload_n 0, 1) := by decide +kernel
theorem d4_50 : decode jdk_33_method_48_code 50 = .ok (.bipush 16, 2) := by decide +kernel
theorem d4_52 : decode jdk_33_method_48_code 52 = .ok (.if_icmp .le 10, 3) := by decide +kernel
theorem d4_62 : decode jdk_33_method_48_code 62 = .ok (.iload_n 0, 1) := by decide +kernel
theorem d4_63 : decode jdk_33_method_48_code 63 = .ok (.iconst 4, 1) := by decide +kernel
theorem d4_64 : decode jdk_33_method_48_code 64 = .ok (.if_icmp .le 10, 3) := by decide +kernel
theorem d4_74 : decode jdk_33_method_48_code 74 = .ok (.iload_n 1, 1) := by decide +kernel
theorem d4_75 : decode jdk_33_method_48_code 75 = .ok (.iload_n 0, 1) := by decide +kernel
theorem d4_76 : decode jdk_33_method_48_code 76 = .ok (.iconst 1, 1) := by decide +kernel
theorem d4_77 : decode jdk_33_method_48_code 77 = .ok (.iushr, 1) := by decide +kernel
theorem d4_78 : decode jdk_33_method_48_code 78 = .ok (.iadd, 1) := by decide +kernel
theorem d4_79 : decode jdk_33_method_48_code 79 = .ok (.ireturn, 1) := by decide +kernel
theorem d4_67 : decode jdk_33_method_48_code 67 = .ok (.iinc 1 2, 3) := by decide +kernel
theorem d4_70 : decode jdk_33_method_48_code 70 = .ok (.iload_n 0, 1) := by decide +kernel
theorem d4_71 : decode jdk_33_method_48_code 71 = .ok (.iconst 2, 1) := by decide +kernel
theorem d4_72 : decode jdk_33_method_48_code 72 = .ok (.iushr, 1) := by decide +kernel
theorem d4_73 : decode jdk_33_method_48_code 73 = .ok (.istore_n 0, 1) := by decide +kernel
set_option maxRecDepth 65536 in
set_option maxHeartbeats 40000000 in
theorem rmNtz (l : Launch) (Z : State) (a0 : Array Value) (hw : ∀ d ∈ tables_1, d.before a0 Z = true) (ws : List Jvm.Cond) (x_ : Int32) (bp : Int32) (h0 : Heap) (n0 : Nat) (Z0 : n0 ≤ h0.size) (HB : own_bb x_ bp) :
    MetFree l (⟨"java/lang/Integer", "numberOfTrailingZeros", "(I)I"⟩ : MethodName) (head1 (Jvm.Cond.code (⟨"java/lang/Integer", "numberOfTrailingZeros", "(I)I"⟩ : MethodName) jdk_33_method_48_code 2 (some .int) :: ws) ({ frames := 0, cells := 0, slots := 0, locals := 0 } : Room)) (fun as_ U_ => as_ = #[(.int x_)] ∧ Z.Warmed39 U_.vm ∧ U_.heap = h0) (fun _ _ _ _ _ => True) (fun _ U_ o_ V_ => ∃ v_ L_, o_ = .returned v_ ∧ QrmNtz Z x_ bp h0 n0 v_ V_.heap L_ ∧ FrameEnd U_ o_ V_ L_ ({ frames := 0, cells := 0, slots := 0, locals := 0 } : Room).cells ({ frames := 0, cells := 0, slots := 0, locals := 0 } : Room).slots) := by
  refine MetFree.of_bodySF (plainFor_of_name pn_java_lang_Integer) hisR ?_
  intro p e s m args below meth c s₁ Bd hml0 hP hK
  obtain ⟨rfl, hZ, hh⟩ := hP
  have hx := Bd.exec
  have hby := Bd.bytes
  have hlk : meth.locks = false := BodyLoose.notSynchronized Bd
  have hret := Bd.returns
  have hml : c.maxLocals = 2 := hml0
  have hown : s.vm.findClass "java/lang/Integer" = some m.cls := findClass_of_methodNamed Bd.named
  have hnm := (name_of_methodNamed Bd.named Bd.method).1
  have X0 : Stand p l e ({ frames := 0, cells := 0, slots := 0, locals := 0 } : Room) s m #[(.int x_)] below meth c s₁ [] 0 0 := Stand.of_body Bd
  have e0 : s₁.heap = h0 := by rw [← hh, Bd.state]; rfl
  have N0 := Fr.nil n0
  show Goes p e below (Fin_ s (QrmNtz Z x_ bp h0 n0) ({ frames := 0, cells := 0, slots := 0, locals := 0 } : Room).cells ({ frames := 0, cells := 0, slots := 0, locals := 0 } : Room).slots) (s₁.setTop (entryFrame m #[(.int x_)] 2))
  rw [ef_rmNtz m x_]
  rcases HB with ⟨rfl, rfl⟩ | ⟨rfl, rfl⟩ | ⟨rfl, rfl⟩ | ⟨rfl, rfl⟩
  · skip
    show Goes p e below _ (s₁.setTop (mkF m 0 #[vi (2 : Int32), .unset] []))
    refine gILN X0 hx hby d4_0 rfl ?_
    refine gIC (z := -1) X0 hx hby d4_1 rfl ?_
    refine Goes.via (fun _ kk_ => XS.ixor X0.here hx rfl (hb hby d4_2) rfl kk_) ?_
    show Goes p e below _ (s₁.setTop (mkF m 3 #[vi (2 : Int32), .unset] [(.int ((2 : Int32) ^^^ (-1 : Int32)))]))
    rw [show ((2 : Int32) ^^^ (-1 : Int32)) = (-3 : Int32) from by decide]
    show Goes p e below _ (s₁.setTop (mkF m 3 #[vi (2 : Int32), .unset] [(.int (-3 : Int32))]))
    refine gILN X0 hx hby d4_3 rfl ?_
    refine gIC (z := 1) X0 hx hby d4_4 rfl ?_
    refine Goes.via (fun _ kk_ => XS.isub X0.here hx rfl (hb hby d4_5) rfl kk_) ?_
    show Goes p e below _ (s₁.setTop (mkF m 6 #[vi (2 : Int32), .unset] [(.int ((2 : Int32) - (1 : Int32))), (.int (-3 : Int32))]))
    rw [show ((2 : Int32) - (1 : Int32)) = (1 : Int32) from by decide]
    show Goes p e below _ (s₁.setTop (mkF m 6 #[vi (2 : Int32), .unset] [(.int (1 : Int32)), (.int (-3 : Int32))]))
    refine Goes.via (fun _ kk_ => XS.iand X0.here hx rfl (hb hby d4_6) rfl kk_) ?_
    show Goes p e below _ (s₁.setTop (mkF m 7 #[vi (2 : Int32), .unset] [(.int ((-3 : Int32) &&& (1 : Int32)))]))
    rw [show ((-3 : Int32) &&& (1 : Int32)) = (1 : Int32) from by decide]
    show Goes p e below _ (s₁.setTop (mkF m 7 #[vi (2 : Int32), .unset] [(.int (1 : Int32))]))
    refine Goes.via (fun _ kk_ => XS.istoreN X0.here hx rfl (hb hby d4_7) rfl (l' := #[vi (1 : Int32), .unset]) rfl kk_) ?_
    show Goes p e below _ (s₁.setTop (mkF m 8 #[vi (1 : Int32), .unset] []))
    refine gILN X0 hx hby d4_8 rfl ?_
    have hc9_1 : (0 : Int32) < (1 : Int32) := (by decide)
    refine Goes.via (fun _ kk_ => XS.ifYes X0.here hx rfl (pc0 := 9) (pc' := 17) rfl (hb hby d4_9) rfl ((if0 _ _).trans (tlt hc9_1).2.2.1) (by decide) (by decide) kk_) ?_
    show Goes p e below _ (s₁.setTop (mkF m 17 #[vi (1 : Int32), .unset] []))
    refine gIC (z := 1) X0 hx hby d4_17 rfl ?_
    refine Goes.via (fun _ kk_ => XS.istoreN X0.here hx rfl (hb hby d4_18) rfl (l' := #[vi (1 : Int32), vi (1 : Int32)]) rfl kk_) ?_
    show Goes p e below _ (s₁.setTop (mkF m 19 #[vi (1 : Int32), vi (1 : Int32)] []))
    refine gILN X0 hx hby d4_19 rfl ?_
    refine Goes.via (X0.ldcwInt hx hown (mvT hZ (own_w hw 19 rfl)) (g := (mkF m 20 #[vi (1 : Int32), vi (1 : Int32)] [(.int (1 : Int32))])) rfl (hb hby d4_20)) ?_
    show Goes p e below _ (s₁.setTop (mkF m 23 #[vi (1 : Int32), vi (1 : Int32)] [(.int (65536 : Int32)), (.int (1 : Int32))]))
    have hc23_2 : ¬ ((65536 : Int32) < (1 : Int32)) := (by decide)
    refine Goes.via (fun _ kk_ => XS.icmpYes X0.here hx rfl (pc0 := 23) (pc' := 34) rfl (hb hby d4_23) rfl (flt hc23_2).2.2.2 (by decide) (by decide) kk_) ?_
    show Goes p e below _ (s₁.setTop (mkF m 34 #[vi (1 : Int32), vi (1 : Int32)] []))
    refine gILN X0 hx hby d4_34 rfl ?_
    refine gSI (z := 256) X0 hx hby d4_35 rfl ?_
    have hc38_3 : ¬ ((256 : Int32) < (1 : Int32)) := (by decide)
    refine Goes.via (fun _ kk_ => XS.icmpYes X0.here hx rfl (pc0 := 38) (pc' := 49) rfl (hb hby d4_38) rfl (flt hc38_3).2.2.2 (by decide) (by decide) kk_) ?_
    show Goes p e below _ (s₁.setTop (mkF m 49 #[vi (1 : Int32), vi (1 : Int32)] []))
    refine gILN X0 hx hby d4_49 rfl ?_
    refine gBI (z := 16) X0 hx hby d4_50 rfl ?_
    have hc52_4 : ¬ ((16 : Int32) < (1 : Int32)) := (by decide)
    refine Goes.via (fun _ kk_ => XS.icmpYes X0.here hx rfl (pc0 := 52) (pc' := 62) rfl (hb hby d4_52) rfl (flt hc52_4).2.2.2 (by decide) (by decide) kk_) ?_
    show Goes p e below _ (s₁.setTop (mkF m 62 #[vi (1 : Int32), vi (1 : Int32)] []))
    refine gILN X0 hx hby d4_62 rfl ?_
    refine gIC (z := 4) X0 hx hby d4_63 rfl ?_
    have hc64_5 : ¬ ((4 : Int32) < (1 : Int32)) := (by decide)
    refine Goes.via (fun _ kk_ => XS.icmpYes X0.here hx rfl (pc0 := 64) (pc' := 74) rfl (hb hby d4_64) rfl (flt hc64_5).2.2.2 (by decide) (by decide) kk_) ?_
    show Goes p e below _ (s₁.setTop (mkF m 74 #[vi (1 : Int32), vi (1 : Int32)] []))
    refine gILN X0 hx hby d4_74 rfl ?_
    refine gILN X0 hx hby d4_75 rfl ?_
    refine gIC (z := 1) X0 hx hby d4_76 rfl ?_
    refine Goes.via (fun _ kk_ => XS.iushr X0.here hx rfl (hb hby d4_77) rfl kk_) ?_
    show Goes p e below _ (s₁.setTop (mkF m 78 #[vi (1 : Int32), vi (1 : Int32)] [(.int (((1 : Int32).toUInt32 >>> ((1 : Int32) &&& 31).toUInt32).toInt32)), (.int (1 : Int32))]))
    refine Goes.via (fun _ kk_ => XS.iadd X0.here hx rfl (hb hby d4_78) rfl kk_) ?_
    show Goes p e below _ (s₁.setTop (mkF m 79 #[vi (1 : Int32), vi (1 : Int32)] [(.int ((1 : Int32) + (((1 : Int32).toUInt32 >>> ((1 : Int32) &&& 31).toUInt32).toInt32)))]))
    exact own_finI X0 hx hlk hret (hb hby d4_79) (by rw [e0]; exact ⟨(own_ret (by decide)), rfl, rfl⟩) (by first | decide | omega | (dsimp only; omega)) (by first | decide | omega | (dsimp only; omega))
  · skip
    show Goes p e below _ (s₁.setTop (mkF m 0 #[vi (4 : Int32), .unset] []))
    refine gILN X0 hx hby d4_0 rfl ?_
    refine gIC (z := -1) X0 hx hby d4_1 rfl ?_
    refine Goes.via (fun _ kk_ => XS.ixor X0.here hx rfl (hb hby d4_2) rfl kk_) ?_
    show Goes p e below _ (s₁.setTop (mkF m 3 #[vi (4 : Int32), .unset] [(.int ((4 : Int32) ^^^ (-1 : Int32)))]))
    rw [show ((4 : Int32) ^^^ (-1 : Int32)) = (-5 : Int32) from by decide]
    show Goes p e below _ (s₁.setTop (mkF m 3 #[vi (4 : Int32), .unset] [(.int (-5 : Int32))]))
    refine gILN X0 hx hby d4_3 rfl ?_
    refine gIC (z := 1) X0 hx hby d4_4 rfl ?_
    refine Goes.via (fun _ kk_ => XS.isub X0.here hx rfl (hb hby d4_5) rfl kk_) ?_
    show Goes p e below _ (s₁.setTop (mkF m 6 #[vi (4 : Int32), .unset] [(.int ((4 : Int32) - (1 : Int32))), (.int (-5 : Int32))]))
    rw [show ((4 : Int32) - (1 : Int32)) = (3 : Int32) from by decide]
    show Goes p e below _ (s₁.setTop (mkF m 6 #[vi (4 : Int32), .unset] [(.int (3 : Int32)), (.int (-5 : Int32))]))
    refine Goes.via (fun _ kk_ => XS.iand X0.here hx rfl (hb hby d4_6) rfl kk_) ?_
    show Goes p e below _ (s₁.setTop (mkF m 7 #[vi (4 : Int32), .unset] [(.int ((-5 : Int32) &&& (3 : Int32)))]))
    rw [show ((-5 : Int32) &&& (3 : Int32)) = (3 : Int32) from by decide]
    show Goes p e below _ (s₁.setTop (mkF m 7 #[vi (4 : Int32), .unset] [(.int (3 : Int32))]))
    refine Goes.via (fun _ kk_ => XS.istoreN X0.here hx rfl (hb hby d4_7) rfl (l' := #[vi (3 : Int32), .unset]) rfl kk_) ?_
    show Goes p e below _ (s₁.setTop (mkF m 8 #[vi (3 : Int32), .unset] []))
    refine gILN X0 hx hby d4_8 rfl ?_
    have hc9_6 : (0 : Int32) < (3 : Int32) := (by decide)
    refine Goes.via (fun _ kk_ => XS.ifYes X0.here hx rfl (pc0 := 9) (pc' := 17) rfl (hb hby d4_9) rfl ((if0 _ _).trans (tlt hc9_6).2.2.1) (by decide) (by decide) kk_) ?_
    show Goes p e below _ (s₁.setTop (mkF m 17 #[vi (3 : Int32), .unset] []))
    refine gIC (z := 1) X0 hx hby d4_17 rfl ?_
    refine Goes.via (fun _ kk_ => XS.istoreN X0.here hx rfl (hb hby d4_18) rfl (l' := #[vi (3 : Int32), vi (1 : Int32)]) rfl kk_) ?_
    show Goes p e below _ (s₁.setTop (mkF m 19 #[vi (3 : Int32), vi (1 : Int32)] []))
    refine gILN X0 hx hby d4_19 rfl ?_
    refine Goes.via (X0.ldcwInt hx hown (mvT hZ (own_w hw 19 rfl)) (g := (mkF m 20 #[vi (3 : Int32), vi (1 : Int32)] [(.int (3 : Int32))])) rfl (hb hby d4_20)) ?_
    show Goes p e below _ (s₁.setTop (mkF m 23 #[vi (3 : Int32), vi (1 : Int32)] [(.int (65536 : Int32)), (.int (3 : Int32))]))
    have hc23_7 : ¬ ((65536 : Int32) < (3 : Int32)) := (by decide)
    refine Goes.via (fun _ kk_ => XS.icmpYes X0.here hx rfl (pc0 := 23) (pc' := 34) rfl (hb hby d4_23) rfl (flt hc23_7).2.2.2 (by decide) (by decide) kk_) ?_
    show Goes p e below _ (s₁.setTop (mkF m 34 #[vi (3 : Int32), vi (1 : Int32)] []))
    refine gILN X0 hx hby d4_34 rfl ?_
    refine gSI (z := 256) X0 hx hby d4_35 rfl ?_
    have hc38_8 : ¬ ((256 : Int32) < (3 : Int32)) := (by decide)
    refine Goes.via (fun _ kk_ => XS.icmpYes X0.here hx rfl (pc0 := 38) (pc' := 49) rfl (hb hby d4_38) rfl (flt hc38_8).2.2.2 (by decide) (by decide) kk_) ?_
    show Goes p e below _ (s₁.setTop (mkF m 49 #[vi (3 : Int32), vi (1 : Int32)] []))
    refine gILN X0 hx hby d4_49 rfl ?_
    refine gBI (z := 16) X0 hx hby d4_50 rfl ?_
    have hc52_9 : ¬ ((16 : Int32) < (3 : Int32)) := (by decide)
    refine Goes.via (fun _ kk_ => XS.icmpYes X0.here hx rfl (pc0 := 52) (pc' := 62) rfl (hb hby d4_52) rfl (flt hc52_9).2.2.2 (by decide) (by decide) kk_) ?_
    show Goes p e below _ (s₁.setTop (mkF m 62 #[vi (3 : Int32), vi (1 : Int32)] []))
    refine gILN X0 hx hby d4_62 rfl ?_
    refine gIC (z := 4) X0 hx hby d4_63 rfl ?_
    have hc64_10 : ¬ ((4 : Int32) < (3 : Int32)) := (by decide)
    refine Goes.via (fun _ kk_ => XS.icmpYes X0.here hx rfl (pc0 := 64) (pc' := 74) rfl (hb hby d4_64) rfl (flt hc64_10).2.2.2 (by decide) (by decide) kk_) ?_
    show Goes p e below _ (s₁.setTop (mkF m 74 #[vi (3 : Int32), vi (1 : Int32)] []))
    refine gILN X0 hx hby d4_74 rfl ?_
    refine gILN X0 hx hby d4_75 rfl ?_
    refine gIC (z := 1) X0 hx hby d4_76 rfl ?_
    refine Goes.via (fun _ kk_ => XS.iushr X0.here hx rfl (hb hby d4_77) rfl kk_) ?_
    show Goes p e below _ (s₁.setTop (mkF m 78 #[vi (3 : Int32), vi (1 : Int32)] [(.int (((3 : Int32).toUInt32 >>> ((1 : Int32) &&& 31).toUInt32).toInt32)), (.int (1 : Int32))]))
    refine Goes.via (fun _ kk_ => XS.iadd X0.here hx rfl (hb hby d4_78) rfl kk_) ?_
    show Goes p e below _ (s₁.setTop (mkF m 79 #[vi (3 : Int32), vi (1 : Int32)] [(.int ((1 : Int32) + (((3 : Int32).toUInt32 >>> ((1 : Int32) &&& 31).toUInt32).toInt32)))]))
    exact own_finI X0 hx hlk hret (hb hby d4_79) (by rw [e0]; exact ⟨(own_ret (by decide)), rfl, rfl⟩) (by first | decide | omega | (dsimp only; omega)) (by first | decide | omega | (dsimp only; omega))
  · skip
    show Goes p e below _ (s₁.setTop (mkF m 0 #[vi (8 : Int32), .unset] []))
    refine gILN X0 hx hby d4_0 rfl ?_
    refine gIC (z := -1) X0 hx hby d4_1 rfl ?_
    refine Goes.via (fun _ kk_ => XS.ixor X0.here hx rfl (hb hby d4_2) rfl kk_) ?_
    show Goes p e below _ (s₁.setTop (mkF m 3 #[vi (8 : Int32), .unset] [(.int ((8 : Int32) ^^^ (-1 : Int32)))]))
    rw [show ((8 : Int32) ^^^ (-1 : Int32)) = (-9 : Int32) from by decide]
    show Goes p e below _ (s₁.setTop (mkF m 3 #[vi (8 : Int32), .unset] [(.int (-9 : Int32))]))
    refine gILN X0 hx hby d4_3 rfl ?_
    refine gIC (z := 1) X0 hx hby d4_4 rfl ?_
    refine Goes.via (fun _ kk_ => XS.isub X0.here hx rfl (hb hby d4_5) rfl kk_) ?_
    show Goes p e below _ (s₁.setTop (mkF m 6 #[vi (8 : Int32), .unset] [(.int ((8 : Int32) - (1 : Int32))), (.int (-9 : Int32))]))
    rw [show ((8 : Int32) - (1 : Int32)) = (7 : Int32) from by decide]
    show Goes p e below _ (s₁.setTop (mkF m 6 #[vi (8 : Int32), .unset] [(.int (7 : Int32)), (.int (-9 : Int32))]))
    refine Goes.via (fun _ kk_ => XS.iand X0.here hx rfl (hb hby d4_6) rfl kk_) ?_
    show Goes p e below _ (s₁.setTop (mkF m 7 #[vi (8 : Int32), .unset] [(.int ((-9 : Int32) &&& (7 : Int32)))]))
    rw [show ((-9 : Int32) &&& (7 : Int32)) = (7 : Int32) from by decide]
    show Goes p e below _ (s₁.setTop (mkF m 7 #[vi (8 : Int32), .unset] [(.int (7 : Int32))]))
    refine Goes.via (fun _ kk_ => XS.istoreN X0.here hx rfl (hb hby d4_7) rfl (l' := #[vi (7 : Int32), .unset]) rfl kk_) ?_
    show Goes p e below _ (s₁.setTop (mkF m 8 #[vi (7 : Int32), .unset] []))
    refine gILN X0 hx hby d4_8 rfl ?_
    have hc9_11 : (0 : Int32) < (7 : Int32) := (by decide)
    refine Goes.via (fun _ kk_ => XS.ifYes X0.here hx rfl (pc0 := 9) (pc' := 17) rfl (hb hby d4_9) rfl ((if0 _ _).trans (tlt hc9_11).2.2.1) (by decide) (by decide) kk_) ?_
    show Goes p e below _ (s₁.setTop (mkF m 17 #[vi (7 : Int32), .unset] []))
    refine gIC (z := 1) X0 hx hby d4_17 rfl ?_
    refine Goes.via (fun _ kk_ => XS.istoreN X0.here hx rfl (hb hby d4_18) rfl (l' := #[vi (7 : Int32), vi (1 : Int32)]) rfl kk_) ?_
    show Goes p e below _ (s₁.setTop (mkF m 19 #[vi (7 : Int32), vi (1 : Int32)] []))
    refine gILN X0 hx hby d4_19 rfl ?_
    refine Goes.via (X0.ldcwInt hx hown (mvT hZ (own_w hw 19 rfl)) (g := (mkF m 20 #[vi (7 : Int32), vi (1 : Int32)] [(.int (7 : Int32))])) rfl (hb hby d4_20)) ?_
    show Goes p e below _ (s₁.setTop (mkF m 23 #[vi (7 : Int32), vi (1 : Int32)] [(.int (65536 : Int32)), (.int (7 : Int32))]))
    have hc23_12 : ¬ ((65536 : Int32) < (7 : Int32)) := (by decide)
    refine Goes.via (fun _ kk_ => XS.icmpYes X0.here hx rfl (pc0 := 23) (pc' := 34) rfl (hb hby d4_23) rfl (flt hc23_12).2.2.2 (by decide) (by decide) kk_) ?_
    show Goes p e below _ (s₁.setTop (mkF m 34 #[vi (7 : Int32), vi (1 : Int32)] []))
    refine gILN X0 hx hby d4_34 rfl ?_
    refine gSI (z := 256) X0 hx hby d4_35 rfl ?_
    have hc38_13 : ¬ ((256 : Int32) < (7 : Int32)) := (by decide)
    refine Goes.via (fun _ kk_ => XS.icmpYes X0.here hx rfl (pc0 := 38) (pc' := 49) rfl (hb hby d4_38) rfl (flt hc38_13).2.2.2 (by decide) (by decide) kk_) ?_
    show Goes p e below _ (s₁.setTop (mkF m 49 #[vi (7 : Int32), vi (1 : Int32)] []))
    refine gILN X0 hx hby d4_49 rfl ?_
    refine gBI (z := 16) X0 hx hby d4_50 rfl ?_
    have hc52_14 : ¬ ((16 : Int32) < (7 : Int32)) := (by decide)
    refine Goes.via (fun _ kk_ => XS.icmpYes X0.here hx rfl (pc0 := 52) (pc' := 62) rfl (hb hby d4_52) rfl (flt hc52_14).2.2.2 (by decide) (by decide) kk_) ?_
    show Goes p e below _ (s₁.setTop (mkF m 62 #[vi (7 : Int32), vi (1 : Int32)] []))
    refine gILN X0 hx hby d4_62 rfl ?_
    refine gIC (z := 4) X0 hx hby d4_63 rfl ?_
    have hc64_15 : (4 : Int32) < (7 : Int32) := (by decide)
    refine Goes.via (fun _ kk_ => XS.icmpNo X0.here hx rfl (hb hby d4_64) rfl (tlt hc64_15).2.2.2 kk_) ?_
    show Goes p e below _ (s₁.setTop (mkF m 67 #[vi (7 : Int32), vi (1 : Int32)] []))
    refine Goes.via (fun _ kk_ => XS.iinc X0.here hx rfl (hb hby d4_67) rfl (l' := #[vi (7 : Int32), vi ((1 : Int32) + (2 : Int32))]) rfl kk_) ?_
    show Goes p e below _ (s₁.setTop (mkF m 70 #[vi (7 : Int32), vi ((1 : Int32) + (2 : Int32))] []))
    rw [show ((1 : Int32) + (2 : Int32)) = (3 : Int32) from by decide]
    show Goes p e below _ (s₁.setTop (mkF m 70 #[vi (7 : Int32), vi (3 : Int32)] []))
    refine gILN X0 hx hby d4_70 rfl ?_
    refine gIC (z := 2) X0 hx hby d4_71 rfl ?_
    refine Goes.via (fun _ kk_ => XS.iushr X0.here hx rfl (hb hby d4_72) rfl kk_) ?_
    show Goes p e below _ (s₁.setTop (mkF m 73 #[vi (7 : Int32), vi (3 : Int32)] [(.int (((7 : Int32).toUInt32 >>> ((2 : Int32) &&& 31).toUInt32).toInt32))]))
    refine Goes.via (fun _ kk_ => XS.istoreN X0.here hx rfl (hb hby d4_73) rfl (l' := #[vi (((7 : Int32).toUInt32 >>> ((2 : Int32) &&& 31).toUInt32).toInt32), vi (3 : Int32)]) rfl kk_) ?_
    show Goes p e below _ (s₁.setTop (mkF m 74 #[vi (((7 : Int32).toUInt32 >>> ((2 : Int32) &&& 31).toUInt32).toInt32), vi (3 : Int32)] []))
    refine gILN X0 hx hby d4_74 rfl ?_
    refine gILN X0 hx hby d4_75 rfl ?_
    refine gIC (z := 1) X0 hx hby d4_76 rfl ?_
    refine Goes.via (fun _ kk_ => XS.iushr X0.here hx rfl (hb hby d4_77) rfl kk_) ?_
    show Goes p e below _ (s₁.setTop (mkF m 78 #[vi (((7 : Int32).toUInt32 >>> ((2 : Int32) &&& 31).toUInt32).toInt32), vi (3 : Int32)] [(.int (((((7 : Int32).toUInt32 >>> ((2 : Int32) &&& 31).toUInt32).toInt32).toUInt32 >>> ((1 : Int32) &&& 31).toUInt32).toInt32)), (.int (3 : Int32))]))
    refine Goes.via (fun _ kk_ => XS.iadd X0.here hx rfl (hb hby d4_78) rfl kk_) ?_
    show Goes p e below _ (s₁.setTop (mkF m 79 #[vi (((7 : Int32).toUInt32 >>> ((2 : Int32) &&& 31).toUInt32).toInt32), vi (3 : Int32)] [(.int ((3 : Int32) + (((((7 : Int32).toUInt32 >>> ((2 : Int32) &&& 31).toUInt32).toInt32).toUInt32 >>> ((1 : Int32) &&& 31).toUInt32).toInt32)))]))
    exact own_finI X0 hx hlk hret (hb hby d4_79) (by rw [e0]; exact ⟨(own_ret (by decide)), rfl, rfl⟩) (by first | decide | omega | (dsimp only; omega)) (by first | decide | omega | (dsimp only; omega))
  · skip
    show Goes p e below _ (s₁.setTop (mkF m 0 #[vi (16 : Int32), .unset] []))
    refine gILN X0 hx hby d4_0 rfl ?_
    refine gIC (z := -1) X0 hx hby d4_1 rfl ?_
    refine Goes.via (fun _ kk_ => XS.ixor X0.here hx rfl (hb hby d4_2) rfl kk_) ?_
    show Goes p e below _ (s₁.setTop (mkF m 3 #[vi (16 : Int32), .unset] [(.int ((16 : Int32) ^^^ (-1 : Int32)))]))
    rw [show ((16 : Int32) ^^^ (-1 : Int32)) = (-17 : Int32) from by decide]
    show Goes p e below _ (s₁.setTop (mkF m 3 #[vi (16 : Int32), .unset] [(.int (-17 : Int32))]))
    refine gILN X0 hx hby d4_3 rfl ?_
    refine gIC (z := 1) X0 hx hby d4_4 rfl ?_
    refine Goes.via (fun _ kk_ => XS.isub X0.here hx rfl (hb hby d4_5) rfl kk_) ?_
    show Goes p e below _ (s₁.setTop (mkF m 6 #[vi (16 : Int32), .unset] [(.int ((16 : Int32) - (1 : Int32))), (.int (-17 : Int32))]))
    rw [show ((16 : Int32) - (1 : Int32)) = (15 : Int32) from by decide]
    show Goes p e below _ (s₁.setTop (mkF m 6 #[vi (16 : Int32), .unset] [(.int (15 : Int32)), (.int (-17 : Int32))]))
    refine Goes.via (fun _ kk_ => XS.iand X0.here hx rfl (hb hby d4_6) rfl kk_) ?_
    show Goes p e below _ (s₁.setTop (mkF m 7 #[vi (16 : Int32), .unset] [(.int ((-17 : Int32) &&& (15 : Int32)))]))
    rw [show ((-17 : Int32) &&& (15 : Int32)) = (15 : Int32) from by decide]
    show Goes p e below _ (s₁.setTop (mkF m 7 #[vi (16 : Int32), .unset] [(.int (15 : Int32))]))
    refine Goes.via (fun _ kk_ => XS.istoreN X0.here hx rfl (hb hby d4_7) rfl (l' := #[vi (15 : Int32), .unset]) rfl kk_) ?_
    show Goes p e below _ (s₁.setTop (mkF m 8 #[vi (15 : Int32), .unset] []))
    refine gILN X0 hx hby d4_8 rfl ?_
    have hc9_16 : (0 : Int32) < (15 : Int32) := (by decide)
    refine Goes.via (fun _ kk_ => XS.ifYes X0.here hx rfl (pc0 := 9) (pc' := 17) rfl (hb hby d4_9) rfl ((if0 _ _).trans (tlt hc9_16).2.2.1) (by decide) (by decide) kk_) ?_
    show Goes p e below _ (s₁.setTop (mkF m 17 #[vi (15 : Int32), .unset] []))
    refine gIC (z := 1) X0 hx hby d4_17 rfl ?_
    refine Goes.via (fun _ kk_ => XS.istoreN X0.here hx rfl (hb hby d4_18) rfl (l' := #[vi (15 : Int32), vi (1 : Int32)]) rfl kk_) ?_
    show Goes p e below _ (s₁.setTop (mkF m 19 #[vi (15 : Int32), vi (1 : Int32)] []))
    refine gILN X0 hx hby d4_19 rfl ?_
    refine Goes.via (X0.ldcwInt hx hown (mvT hZ (own_w hw 19 rfl)) (g := (mkF m 20 #[vi (15 : Int32), vi (1 : Int32)] [(.int (15 : Int32))])) rfl (hb hby d4_20)) ?_
    show Goes p e below _ (s₁.setTop (mkF m 23 #[vi (15 : Int32), vi (1 : Int32)] [(.int (65536 : Int32)), (.int (15 : Int32))]))
    have hc23_17 : ¬ ((65536 : Int32) < (15 : Int32)) := (by decide)
    refine Goes.via (fun _ kk_ => XS.icmpYes X0.here hx rfl (pc0 := 23) (pc' := 34) rfl (hb hby d4_23) rfl (flt hc23_17).2.2.2 (by decide) (by decide) kk_) ?_
    show Goes p e below _ (s₁.setTop (mkF m 34 #[vi (15 : Int32), vi (1 : Int32)] []))
    refine gILN X0 hx hby d4_34 rfl ?_
    refine gSI (z := 256) X0 hx hby d4_35 rfl ?_
    have hc38_18 : ¬ ((256 : Int32) < (15 : Int32)) := (by decide)
    refine Goes.via (fun _ kk_ => XS.icmpYes X0.here hx rfl (pc0 := 38) (pc' := 49) rfl (hb hby d4_38) rfl (flt hc38_18).2.2.2 (by decide) (by decide) kk_) ?_
    show Goes p e below _ (s₁.setTop (mkF m 49 #[vi (15 : Int32), vi (1 : Int32)] []))
    refine gILN X0 hx hby d4_49 rfl ?_
    refine gBI (z := 16) X0 hx hby d4_50 rfl ?_
    have hc52_19 : ¬ ((16 : Int32) < (15 : Int32)) := (by decide)
    refine Goes.via (fun _ kk_ => XS.icmpYes X0.here hx rfl (pc0 := 52) (pc' := 62) rfl (hb hby d4_52) rfl (flt hc52_19).2.2.2 (by decide) (by decide) kk_) ?_
    show Goes p e below _ (s₁.setTop (mkF m 62 #[vi (15 : Int32), vi (1 : Int32)] []))
    refine gILN X0 hx hby d4_62 rfl ?_
    refine gIC (z := 4) X0 hx hby d4_63 rfl ?_
    have hc64_20 : (4 : Int32) < (15 : Int32) := (by decide)
    refine Goes.via (fun _ kk_ => XS.icmpNo X0.here hx rfl (hb hby d4_64) rfl (tlt hc64_20).2.2.2 kk_) ?_
    show Goes p e below _ (s₁.setTop (mkF m 67 #[vi (15 : Int32), vi (1 : Int32)] []))
    refine Goes.via (fun _ kk_ => XS.iinc X0.here hx rfl (hb hby d4_67) rfl (l' := #[vi (15 : Int32), vi ((1 : Int32) + (2 : Int32))]) rfl kk_) ?_
    show Goes p e below _ (s₁.setTop (mkF m 70 #[vi (15 : Int32), vi ((1 : Int32) + (2 : Int32))] []))
    rw [show ((1 : Int32) + (2 : Int32)) = (3 : Int32) from by decide]
    show Goes p e below _ (s₁.setTop (mkF m 70 #[vi (15 : Int32), vi (3 : Int32)] []))
    refine gILN X0 hx hby d4_70 rfl ?_
    refine gIC (z := 2) X0 hx hby d4_71 rfl ?_
    refine Goes.via (fun _ kk_ => XS.iushr X0.here hx rfl (hb hby d4_72) rfl kk_) ?_
    show Goes p e below _ (s₁.setTop (mkF m 73 #[vi (15 : Int32), vi (3 : Int32)] [(.int (((15 : Int32).toUInt32 >>> ((2 : Int32) &&& 31).toUInt32).toInt32))]))
    refine Goes.via (fun _ kk_ => XS.istoreN X0.here hx rfl (hb hby d4_73) rfl (l' := #[vi (((15 : Int32).toUInt32 >>> ((2 : Int32) &&& 31).toUInt32).toInt32), vi (3 : Int32)]) rfl kk_) ?_
    show Goes p e below _ (s₁.setTop (mkF m 74 #[vi (((15 : Int32).toUInt32 >>> ((2 : Int32) &&& 31).toUInt32).toInt32), vi (3 : Int32)] []))
    refine gILN X0 hx hby d4_74 rfl ?_
    refine gILN X0 hx hby d4_75 rfl ?_
    refine gIC (z := 1) X0 hx hby d4_76 rfl ?_
    refine Goes.via (fun _ kk_ => XS.iushr X0.here hx rfl (hb hby d4_77) rfl kk_) ?_
    show Goes p e below _ (s₁.setTop (mkF m 78 #[vi (((15 : Int32).toUInt32 >>> ((2 : Int32) &&& 31).toUInt32).toInt32), vi (3 : Int32)] [(.int (((((15 : Int32).toUInt32 >>> ((2 : Int32) &&& 31).toUInt32).toInt32).toUInt32 >>> ((1 : Int32) &&& 31).toUInt32).toInt32)), (.int (3 : Int32))]))
    refine Goes.via (fun _ kk_ => XS.iadd X0.here hx rfl (hb hby d4_78) rfl kk_) ?_
    show Goes p e below _ (s₁.setTop (mkF m 79 #[vi (((15 : Int32).toUInt32 >>> ((2 : Int32) &&& 31).toUInt32).toInt32), vi (3 : Int32)] [(.int ((3 : Int32) + (((((15 : Int32).toUInt32 >>> ((2 : Int32) &&& 31).toUInt32).toInt32).toUInt32 >>> ((1 : Int32) &&& 31).toUInt32).toInt32)))]))
    exact own_finI X0 hx hlk hret (hb hby d4_79) (by rw [e0]; exact ⟨(own_ret (by decide)), rfl, rfl⟩) (by first | decide | omega | (dsimp only; omega)) (by first | decide | omega | (dsimp only; omega))
theorem ef_rm2 (m : MethodId) (a : Addr) : entryFrame m #[(.ref a)] 1 = mkF m 0 #[.val (.ref a)] [] := by first | (simp [entryFrame, mkF, argsToLocals, Value.category]; done) | rfl
def Qrm2 (Z : State) (a : Addr) (h0 : Heap) (n0 : Nat) (v_ : Option Value) (h_ : Heap) (L_ : List Loc) : Prop := v_ = none ∧ L_ = [] ∧ h_ = h0
theorem pn_java_lang_Record : plainName "java/lang/Record" = true := by first | (simp [plainName, overriddenIn]; done) | decide +kernel
theorem d2_0 : decode jdk_30_method_1_code 0 = .ok (.aload_n 0, 1) := by decide +kernel
theorem d2_1 : decode jdk_30_method_1_code 1 = .ok (.invokespecial 1, 3) := by decide +kernel
theorem d2_4 : decode jdk_30_method_1_code 4 = .ok (.return_, 1) := by decide +kernel
set_option maxRecDepth 65536 in
set_option maxHeartbeats 40000000 in
theorem rm2 (l : Launch) (Z : State) (a0 : Array Value) (hw : ∀ d ∈ tables_1, d.before a0 Z = true) (ws : List Jvm.Cond) (a : Addr) (h0 : Heap) (n0 : Nat) (Z0 : n0 ≤ h0.size) :
    MetFree l (⟨"java/lang/Record", "<init>", "()V"⟩ : MethodName) (head1 (Jvm.Cond.code (⟨"java/lang/Record", "<init>", "()V"⟩ : MethodName) jdk_30_method_1_code 1 none :: ws) ({ frames := 1, cells := 0, slots := 0, locals := 12 } : Room)) (fun as_ U_ => as_ = #[(.ref a)] ∧ Z.Warmed39 U_.vm ∧ U_.heap = h0) (fun _ _ _ _ _ => True) (fun _ U_ o_ V_ => ∃ v_ L_, o_ = .returned v_ ∧ Qrm2 Z a h0 n0 v_ V_.heap L_ ∧ FrameEnd U_ o_ V_ L_ ({ frames := 1, cells := 0, slots := 0, locals := 12 } : Room).cells ({ frames := 1, cells := 0, slots := 0, locals := 12 } : Room).slots) := by
  refine MetFree.of_bodySF (plainFor_of_name pn_java_lang_Record) hisR ?_
  intro p e s m args below meth c s₁ Bd hml0 hP hK
  obtain ⟨rfl, hZ, hh⟩ := hP
  have hx := Bd.exec
  have hby := Bd.bytes
  have hlk : meth.locks = false := BodyLoose.notSynchronized Bd
  have hret := Bd.returns
  have hml : c.maxLocals = 1 := hml0
  have hown : s.vm.findClass "java/lang/Record" = some m.cls := findClass_of_methodNamed Bd.named
  have hnm := (name_of_methodNamed Bd.named Bd.method).1
  have X0 : Stand p l e ({ frames := 1, cells := 0, slots := 0, locals := 12 } : Room) s m #[(.ref a)] below meth c s₁ [] 0 0 := Stand.of_body Bd
  have e0 : s₁.heap = h0 := by rw [← hh, Bd.state]; rfl
  have N0 := Fr.nil n0
  show Goes p e below (Fin_ s (Qrm2 Z a h0 n0) ({ frames := 1, cells := 0, slots := 0, locals := 12 } : Room).cells ({ frames := 1, cells := 0, slots := 0, locals := 12 } : Room).slots) (s₁.setTop (entryFrame m #[(.ref a)] 1))
  rw [ef_rm2 m a]
  refine gALN X0 hx hby d2_0 rfl rfl ?_
  obtain ⟨T1, X1, e1, st1⟩ := initO X0 hx hZ hown (own_w hw 12 rfl) (own_w hw 13 rfl) (own_w hw 14 rfl) e0 (g := (mkF m 1 #[vr a] [(.ref a)])) rfl (by rw [hml]; rfl) rfl (hb hby d2_1) (by decide) (W := 0) (by show 2 * 0 + _ ≤ _; exact Nat.le_of_eq rfl) (by decide)
  refine Goes.via st1 ?_
  show Goes p e below _ (T1.setTop (mkF m 4 #[vr a] []))
  exact own_finV X1 hx hlk hret (hb hby d2_4) (by rw [e1]; exact ⟨rfl, rfl, rfl⟩) (by first | decide | omega | (dsimp only; omega)) (by first | decide | omega | (dsimp only; omega))
theorem ef_rm1 (m : MethodId) (a : Addr) (x_ : Int32) (dg : Int32) : entryFrame m #[(.ref a), (.int x_), (.int dg)] 4 = mkF m 0 #[.val (.ref a), .val (.int x_), .val (.int dg), .unset] [] := by first | (simp [entryFrame, mkF, argsToLocals, Value.category]; done) | rfl
def Qrm1 (Z : State) (a : Addr) (x_ : Int32) (dg : Int32) (bp : Int32) (h0 : Heap) (n0 : Nat) (v_ : Option Value) (h_ : Heap) (L_ : List Loc) : Prop := v_ = none ∧ Fr n0 L_ ∧ Keep h0 h_ [a] ∧ Exa Z h_ a "nearhop/model/IdSpace" ∧ Fld Z h_ a "nearhop/model/IdSpace" "base" "I" (.int x_) ∧ Fld Z h_ a "nearhop/model/IdSpace" "digits" "I" (.int dg)
theorem pn_nearhop_model_IdSpace : plainName "nearhop/model/IdSpace" = true := by first | (simp [plainName, overriddenIn]; done) | decide +kernel
theorem d1_0 : decode prog_78_method_1_code 0 = .ok (.aload_n 0, 1) := by decide +kernel
theorem pd_0 : parseMethodDescriptor "()V" = some ⟨[], none⟩ := by decide +kernel
theorem d1_1 : decode prog_78_method_1_code 1 = .ok (.invokespecial 5, 3) := by decide +kernel
abbrev mN_Record_init : MethodName := ⟨"java/lang/Record", "<init>", "()V"⟩
theorem d1_4 : decode prog_78_method_1_code 4 = .ok (.iload_n 1, 1) := by decide +kernel
theorem d1_5 : decode prog_78_method_1_code 5 = .ok (.iconst 2, 1) := by decide +kernel
theorem d1_6 : decode prog_78_method_1_code 6 = .ok (.if_icmp .eq 34, 3) := by decide +kernel
theorem d1_40 : decode prog_78_method_1_code 40 = .ok (.sipush 128, 3) := by decide +kernel
theorem d1_43 : decode prog_78_method_1_code 43 = .ok (.iload_n 1, 1) := by decide +kernel
theorem pd_1 : parseMethodDescriptor "(I)I" = some ⟨[.int], some .int⟩ := by decide +kernel
theorem d1_44 : decode prog_78_method_1_code 44 = .ok (.invokestatic 20, 3) := by decide +kernel
abbrev mN_Integer_numberOfTrailingZeros : MethodName := ⟨"java/lang/Integer", "numberOfTrailingZeros", "(I)I"⟩
theorem d1_47 : decode prog_78_method_1_code 47 = .ok (.idiv, 1) := by decide +kernel
theorem d1_48 : decode prog_78_method_1_code 48 = .ok (.istore_n 3, 1) := by decide +kernel
theorem d1_49 : decode prog_78_method_1_code 49 = .ok (.iload_n 2, 1) := by decide +kernel
theorem d1_50 : decode prog_78_method_1_code 50 = .ok (.iconst 1, 1) := by decide +kernel
theorem d1_51 : decode prog_78_method_1_code 51 = .ok (.if_icmp .lt 8, 3) := by decide +kernel
theorem d1_54 : decode prog_78_method_1_code 54 = .ok (.iload_n 2, 1) := by decide +kernel
theorem d1_55 : decode prog_78_method_1_code 55 = .ok (.iload_n 3, 1) := by decide +kernel
theorem d1_56 : decode prog_78_method_1_code 56 = .ok (.if_icmp .le 41, 3) := by decide +kernel
theorem d1_97 : decode prog_78_method_1_code 97 = .ok (.aload_n 0, 1) := by decide +kernel
theorem d1_98 : decode prog_78_method_1_code 98 = .ok (.iload_n 1, 1) := by decide +kernel
theorem d1_99 : decode prog_78_method_1_code 99 = .ok (.putfield 40, 3) := by decide +kernel
theorem d1_102 : decode prog_78_method_1_code 102 = .ok (.aload_n 0, 1) := by decide +kernel
theorem d1_103 : decode prog_78_method_1_code 103 = .ok (.iload_n 2, 1) := by decide +kernel
theorem d1_104 : decode prog_78_method_1_code 104 = .ok (.putfield 44, 3) := by decide +kernel
theorem d1_107 : decode prog_78_method_1_code 107 = .ok (.return_, 1) := by decide +kernel
theorem d1_9 : decode prog_78_method_1_code 9 = .ok (.iload_n 1, 1) := by decide +kernel
theorem d1_10 : decode prog_78_method_1_code 10 = .ok (.iconst 4, 1) := by decide +kernel
theorem d1_11 : decode prog_78_method_1_code 11 = .ok (.if_icmp .eq 29, 3) := by decide +kernel
theorem d1_14 : decode prog_78_method_1_code 14 = .ok (.iload_n 1, 1) := by decide +kernel
theorem d1_15 : decode prog_78_method_1_code 15 = .ok (.bipush 8, 2) := by decide +kernel
theorem d1_17 : decode prog_78_method_1_code 17 = .ok (.if_icmp .eq 23, 3) := by decide +kernel
theorem d1_20 : decode prog_78_method_1_code 20 = .ok (.iload_n 1, 1) := by decide +kernel
theorem d1_21 : decode prog_78_method_1_code 21 = .ok (.bipush 16, 2) := by decide +kernel
theorem d1_23 : decode prog_78_method_1_code 23 = .ok (.if_icmp .eq 17, 3) := by decide +kernel
set_option maxRecDepth 65536 in
set_option maxHeartbeats 40000000 in
theorem rm1 (l : Launch) (Z : State) (a0 : Array Value) (hw : ∀ d ∈ tables_1, d.before a0 Z = true) (ws : List Jvm.Cond) (a : Addr) (x_ : Int32) (dg : Int32) (bp : Int32) (h0 : Heap) (n0 : Nat) (Z0 : n0 ≤ h0.size) (E0_a : Exa Z h0 a "nearhop/model/IdSpace") (F1_a_base : Fld Z h0 a "nearhop/model/IdSpace" "base" "I" (.int (0 : Int32))) (F2_a_digits : Fld Z h0 a "nearhop/model/IdSpace" "digits" "I" (.int (0 : Int32))) (H3 : n0 ≤ a) (HB : own_bb x_ bp) (HD1 : 1 ≤ dg.toInt) (HD8 : dg.toInt ≤ 8) :
    MetFree l (⟨"nearhop/model/IdSpace", "<init>", "(II)V"⟩ : MethodName) (head1 (Jvm.Cond.code (⟨"nearhop/model/IdSpace", "<init>", "(II)V"⟩ : MethodName) prog_78_method_1_code 4 none :: ws) ({ frames := 2, cells := 0, slots := 0, locals := 24 } : Room)) (fun as_ U_ => as_ = #[(.ref a), (.int x_), (.int dg)] ∧ Z.Warmed39 U_.vm ∧ U_.heap = h0) (fun _ _ _ _ _ => True) (fun _ U_ o_ V_ => ∃ v_ L_, o_ = .returned v_ ∧ Qrm1 Z a x_ dg bp h0 n0 v_ V_.heap L_ ∧ FrameEnd U_ o_ V_ L_ ({ frames := 2, cells := 0, slots := 0, locals := 24 } : Room).cells ({ frames := 2, cells := 0, slots := 0, locals := 24 } : Room).slots) := by
  refine MetFree.of_bodySF (plainFor_of_name pn_nearhop_model_IdSpace) hisR ?_
  intro p e s m args below meth c s₁ Bd hml0 hP hK
  obtain ⟨rfl, hZ, hh⟩ := hP
  have hx := Bd.exec
  have hby := Bd.bytes
  have hlk : meth.locks = false := BodyLoose.notSynchronized Bd
  have hret := Bd.returns
  have hml : c.maxLocals = 4 := hml0
  have hown : s.vm.findClass "nearhop/model/IdSpace" = some m.cls := findClass_of_methodNamed Bd.named
  have hnm := (name_of_methodNamed Bd.named Bd.method).1
  have X0 : Stand p l e ({ frames := 2, cells := 0, slots := 0, locals := 24 } : Room) s m #[(.ref a), (.int x_), (.int dg)] below meth c s₁ [] 0 0 := Stand.of_body Bd
  have e0 : s₁.heap = h0 := by rw [← hh, Bd.state]; rfl
  have N0 := Fr.nil n0
  show Goes p e below (Fin_ s (Qrm1 Z a x_ dg bp h0 n0) ({ frames := 2, cells := 0, slots := 0, locals := 24 } : Room).cells ({ frames := 2, cells := 0, slots := 0, locals := 24 } : Room).slots) (s₁.setTop (entryFrame m #[(.ref a), (.int x_), (.int dg)] 4))
  rw [ef_rm1 m a x_ dg]
  refine gALN X0 hx hby d1_0 rfl rfl ?_
  obtain ⟨_, _, ⟨T1, L1, k1, n1⟩, -, X1, ⟨Lc1, hQ1, l1, y1, z1⟩, st1⟩ := X0.specialBack hx (y := mN_Record_init) rfl hown (mvT hZ (own_w hw 7 rfl)) (mvT hZ (own_w hw 8 rfl)) (mvT hZ (own_w hw 11 rfl)) (by decide) (backOf (W := 0) (rm2 l Z a0 hw [] a h0 n0 (Nat.le_trans Z0 (Nat.le_refl _)) ) hZ (own_w hw 11 rfl) (own_w hw 10 rfl) (by decide) (by decide)) (g := (mkF m 1 #[vr a, vi x_, vi dg, .unset] [(.ref a)])) rfl (by rw [hml]; rfl) (Steps.refl _) (a := a) (argsL := []) (rest := []) (lenOf pd_0 rfl) rfl (by show 2 * 0 + _ ≤ _; exact Nat.le_of_eq rfl) (hb hby d1_1) (fun _ _ => ⟨rfl, e0, (by decide : 0 + 0 ≤ _), (by decide : 0 + 0 ≤ _)⟩)
  dsimp only [Pt.U, Pt.locs, Pt.cells, Pt.slots] at X1 l1 y1 z1 st1 hQ1
  replace l1 := l1.symm
  subst l1 y1 z1
  obtain ⟨rfl, rfl, e1⟩ := hQ1
  first | rw [List.append_nil] at X1 | skip
  refine Goes.tr st1 ?_
  have e1' : T1.heap = h0 := e1
  show Goes p e below _ (T1.setTop (mkF m 4 #[vr a, vi x_, vi dg, .unset] []))
  refine gILN X1 hx hby d1_4 rfl ?_
  refine gIC (z := 2) X1 hx hby d1_5 rfl ?_
  by_cases hc6 : x_ = (2 : Int32)
  · skip
    refine Goes.via (fun _ kk_ => XS.icmpYes X1.here hx rfl (pc0 := 6) (pc' := 40) rfl (hb hby d1_6) rfl (teq hc6).1 (by decide) (by decide) kk_) ?_
    show Goes p e below _ (T1.setTop (mkF m 40 #[vr a, vi x_, vi dg, .unset] []))
    refine gSI (z := 128) X1 hx hby d1_40 rfl ?_
    refine gILN X1 hx hby d1_43 rfl ?_
    obtain ⟨_, _, ⟨T2, L2, k2, n2⟩, -, X2, ⟨Lc2, hQ2, l2, y2, z2⟩, st2⟩ := Jvm.LawKit.callS X1 hx (y := mN_Integer_numberOfTrailingZeros) hown (mvT hZ (own_w hw 15 rfl)) (mvT hZ (own_w hw 16 rfl)) (mvT hZ (own_w hw 17 rfl)) (mvT hZ (own_w hw 18 rfl)) (by decide) (backOf (W := 1) (rmNtz l Z a0 hw [] x_ bp h0 n0 (Nat.le_trans Z0 (Nat.le_refl _)) HB) hZ (own_w hw 18 rfl) (own_w hw 17 rfl) (by decide) (by decide)) (g := (mkF m 44 #[vr a, vi x_, vi dg, .unset] [(.int x_), (.int (128 : Int32))])) rfl (by rw [hml]; rfl) (argsL := [(.int x_)]) (rest := [(.int (128 : Int32))]) (lenOf pd_1 rfl) rfl (by show 2 * 0 + _ ≤ _; exact Nat.le_of_eq rfl) (hb hby d1_44) (fun _ _ => ⟨rfl, e1', (by decide : 0 + 0 ≤ _), (by decide : 0 + 0 ≤ _)⟩)
    dsimp only [Pt.U, Pt.locs, Pt.cells, Pt.slots] at X2 l2 y2 z2 st2 hQ2
    replace l2 := l2.symm
    subst l2 y2 z2
    obtain ⟨rfl, rfl, e2⟩ := hQ2
    first | rw [List.append_nil] at X2 | skip
    refine Goes.via st2 ?_
    have e2' : T2.heap = h0 := e2
    show Goes p e below _ (T2.setTop (mkF m 47 #[vr a, vi x_, vi dg, .unset] [(.int bp), (.int (128 : Int32))]))
    refine Goes.via (fun _ kk_ => XS.idiv X2.here hx rfl (hb hby d1_47) rfl (own_bb0 HB) kk_) ?_
    show Goes p e below _ (T2.setTop (mkF m 48 #[vr a, vi x_, vi dg, .unset] [(.int ((128 : Int32) / bp))]))
    refine Goes.via (fun _ kk_ => XS.istoreN X2.here hx rfl (hb hby d1_48) rfl (l' := #[vr a, vi x_, vi dg, vi ((128 : Int32) / bp)]) rfl kk_) ?_
    show Goes p e below _ (T2.setTop (mkF m 49 #[vr a, vi x_, vi dg, vi ((128 : Int32) / bp)] []))
    refine gILN X2 hx hby d1_49 rfl ?_
    refine gIC (z := 1) X2 hx hby d1_50 rfl ?_
    have hc51_3 : ¬ (dg < (1 : Int32)) := (fun q => by have q1 := own_lti.mp q; have e : (1 : Int32).toInt = 1 := (by decide); omega)
    refine Goes.via (fun _ kk_ => XS.icmpNo X2.here hx rfl (hb hby d1_51) rfl (flt hc51_3).1 kk_) ?_
    show Goes p e below _ (T2.setTop (mkF m 54 #[vr a, vi x_, vi dg, vi ((128 : Int32) / bp)] []))
    refine gILN X2 hx hby d1_54 rfl ?_
    refine gILN X2 hx hby d1_55 rfl ?_
    have hc56_4 : ¬ (((128 : Int32) / bp) < dg) := (own_bbd HB HD8)
    refine Goes.via (fun _ kk_ => XS.icmpYes X2.here hx rfl (pc0 := 56) (pc' := 97) rfl (hb hby d1_56) rfl (flt hc56_4).2.2.2 (by decide) (by decide) kk_) ?_
    show Goes p e below _ (T2.setTop (mkF m 97 #[vr a, vi x_, vi dg, vi ((128 : Int32) / bp)] []))
    refine gALN X2 hx hby d1_97 rfl rfl ?_
    refine gILN X2 hx hby d1_98 rfl ?_
    obtain ⟨T5, h5, X5, e5, W5, st5⟩ := putF X2 hx hZ hown (host := "") (Or.inl (own_w hw 20 rfl)) Via.refl e2' F1_a_base E0_a (Or.inr ⟨(own_w hw 21 rfl), rfl, hnm⟩) (own_w hw 2 rfl) (ty := .int) (by decide) rfl rfl (g := (mkF m 99 #[vr a, vi x_, vi dg, vi ((128 : Int32) / bp)] [(.int x_), (.ref a)])) rfl rfl (hb hby d1_99)
    refine Goes.via st5 ?_
    have N5 := Fr.snoc X5 N0 H3
    have Fw5 : Fld Z h5 a "nearhop/model/IdSpace" "base" "I" (.int x_) := F1_a_base.same W5
    show Goes p e below _ (T5.setTop (mkF m 102 #[vr a, vi x_, vi dg, vi ((128 : Int32) / bp)] []))
    refine gALN X5 hx hby d1_102 rfl rfl ?_
    refine gILN X5 hx hby d1_103 rfl ?_
    have f6 := (F2_a_digits.other W5 (Or.inr (slot_ne (Or.inr (own_w hw 23 rfl)) (Or.inr (own_w hw 21 rfl)) (by decide) (t := .int) (t' := .int) (by decide) (by decide))))
    have f7 := (E0_a.wr W5)
    obtain ⟨T8, h8, X8, e8, W8, st8⟩ := putF X5 hx hZ hown (host := "") (Or.inl (own_w hw 22 rfl)) Via.refl e5 f6 f7 (Or.inr ⟨(own_w hw 23 rfl), rfl, hnm⟩) (own_w hw 2 rfl) (ty := .int) (by decide) rfl rfl (g := (mkF m 104 #[vr a, vi x_, vi dg, vi ((128 : Int32) / bp)] [(.int dg), (.ref a)])) rfl rfl (hb hby d1_104)
    refine Goes.via st8 ?_
    have N8 := Fr.snoc X8 N5 H3
    have Fw8 : Fld Z h8 a "nearhop/model/IdSpace" "digits" "I" (.int dg) := f6.same W8
    show Goes p e below _ (T8.setTop (mkF m 107 #[vr a, vi x_, vi dg, vi ((128 : Int32) / bp)] []))
    have K9 : Keep h0 h8 [a] := (((Keep.refl h0 [a]).wr W5 (Or.inl (List.mem_of_getElem? (i := 0) rfl))).wr W8 (Or.inl (List.mem_of_getElem? (i := 0) rfl)))
    have f10 := (f7.wr W8)
    have f11 := (Fw5.other W8 (Or.inr (slot_ne (Or.inr (own_w hw 21 rfl)) (Or.inr (own_w hw 23 rfl)) (by decide) (t := .int) (t' := .int) (by decide) (by decide))))
    exact own_finV X8 hx hlk hret (hb hby d1_107) (by rw [e8]; exact ⟨rfl, N8, K9, f10, f11, Fw8⟩) (by first | decide | omega | (dsimp only; omega)) (by first | decide | omega | (dsimp only; omega))
  · skip
    refine Goes.via (fun _ kk_ => XS.icmpNo X1.here hx rfl (hb hby d1_6) rfl (feq hc6).1 kk_) ?_
    show Goes p e below _ (T1.setTop (mkF m 9 #[vr a, vi x_, vi dg, .unset] []))
    refine gILN X1 hx hby d1_9 rfl ?_
    refine gIC (z := 4) X1 hx hby d1_10 rfl ?_
    by_cases hc11 : x_ = (4 : Int32)
    · skip
      refine Goes.via (fun _ kk_ => XS.icmpYes X1.here hx rfl (pc0 := 11) (pc' := 40) rfl (hb hby d1_11) rfl (teq hc11).1 (by decide) (by decide) kk_) ?_
      show Goes p e below _ (T1.setTop (mkF m 40 #[vr a, vi x_, vi dg, .unset] []))
      refine gSI (z := 128) X1 hx hby d1_40 rfl ?_
      refine gILN X1 hx hby d1_43 rfl ?_
      obtain ⟨_, _, ⟨T12, L12, k12, n12⟩, -, X12, ⟨Lc12, hQ12, l12, y12, z12⟩, st12⟩ := Jvm.LawKit.callS X1 hx (y := mN_Integer_numberOfTrailingZeros) hown (mvT hZ (own_w hw 15 rfl)) (mvT hZ (own_w hw 16 rfl)) (mvT hZ (own_w hw 17 rfl)) (mvT hZ (own_w hw 18 rfl)) (by decide) (backOf (W := 1) (rmNtz l Z a0 hw [] x_ bp h0 n0 (Nat.le_trans Z0 (Nat.le_refl _)) HB) hZ (own_w hw 18 rfl) (own_w hw 17 rfl) (by decide) (by decide)) (g := (mkF m 44 #[vr a, vi x_, vi dg, .unset] [(.int x_), (.int (128 : Int32))])) rfl (by rw [hml]; rfl) (argsL := [(.int x_)]) (rest := [(.int (128 : Int32))]) (lenOf pd_1 rfl) rfl (by show 2 * 0 + _ ≤ _; exact Nat.le_of_eq rfl) (hb hby d1_44) (fun _ _ => ⟨rfl, e1', (by decide : 0 + 0 ≤ _), (by decide : 0 + 0 ≤ _)⟩)
      dsimp only [Pt.U, Pt.locs, Pt.cells, Pt.slots] at X12 l12 y12 z12 st12 hQ12
      replace l12 := l12.symm
      subst l12 y12 z12
      obtain ⟨rfl, rfl, e12⟩ := hQ12
      first | rw [List.append_nil] at X12 | skip
      refine Goes.via st12 ?_
      have e12' : T12.heap = h0 := e12
      show Goes p e below _ (T12.setTop (mkF m 47 #[vr a, vi x_, vi dg, .unset] [(.int bp), (.int (128 : Int32))]))
      refine Goes.via (fun _ kk_ => XS.idiv X12.here hx rfl (hb hby d1_47) rfl (own_bb0 HB) kk_) ?_
      show Goes p e below _ (T12.setTop (mkF m 48 #[vr a, vi x_, vi dg, .unset] [(.int ((128 : Int32) / bp))]))
      refine Goes.via (fun _ kk_ => XS.istoreN X12.here hx rfl (hb hby d1_48) rfl (l' := #[vr a, vi x_, vi dg, vi ((128 : Int32) / bp)]) rfl kk_) ?_
      show Goes p e below _ (T12.setTop (mkF m 49 #[vr a, vi x_, vi dg, vi ((128 : Int32) / bp)] []))
      refine gILN X12 hx hby d1_49 rfl ?_
      refine gIC (z := 1) X12 hx hby d1_50 rfl ?_
      have hc51_13 : ¬ (dg < (1 : Int32)) := (fun q => by have q1 := own_lti.mp q; have e : (1 : Int32).toInt = 1 := (by decide); omega)
      refine Goes.via (fun _ kk_ => XS.icmpNo X12.here hx rfl (hb hby d1_51) rfl (flt hc51_13).1 kk_) ?_
      show Goes p e below _ (T12.setTop (mkF m 54 #[vr a, vi x_, vi dg, vi ((128 : Int32) / bp)] []))
      refine gILN X12 hx hby d1_54 rfl ?_
      refine gILN X12 hx hby d1_55 rfl ?_
      have hc56_14 : ¬ (((128 : Int32) / bp) < dg) := (own_bbd HB HD8)
      refine Goes.via (fun _ kk_ => XS.icmpYes X12.here hx rfl (pc0 := 56) (pc' := 97) rfl (hb hby d1_56) rfl (flt hc56_14).2.2.2 (by decide) (by decide) kk_) ?_
      show Goes p e below _ (T12.setTop (mkF m 97 #[vr a, vi x_, vi dg, vi ((128 : Int32) / bp)] []))
      refine gALN X12 hx hby d1_97 rfl rfl ?_
      refine gILN X12 hx hby d1_98 rfl ?_
      obtain ⟨T15, h15, X15, e15, W15, st15⟩ := putF X12 hx hZ hown (host := "") (Or.inl (own_w hw 20 rfl)) Via.refl e12' F1_a_base E0_a (Or.inr ⟨(own_w hw 21 rfl), rfl, hnm⟩) (own_w hw 2 rfl) (ty := .int) (by decide) rfl rfl (g := (mkF m 99 #[vr a, vi x_, vi dg, vi ((128 : Int32) / bp)] [(.int x_), (.ref a)])) rfl rfl (hb hby d1_99)
      refine Goes.via st15 ?_
      have N15 := Fr.snoc X15 N0 H3
      have Fw15 : Fld Z h15 a "nearhop/model/IdSpace" "base" "I" (.int x_) := F1_a_base.same W15
      show Goes p e below _ (T15.setTop (mkF m 102 #[vr a, vi x_, vi dg, vi ((128 : Int32) / bp)] []))
      refine gALN X15 hx hby d1_102 rfl rfl ?_
      refine gILN X15 hx hby d1_103 rfl ?_
      have f16 := (F2_a_digits.other W15 (Or.inr (slot_ne (Or.inr (own_w hw 23 rfl)) (Or.inr (own_w hw 21 rfl)) (by decide) (t := .int) (t' := .int) (by decide) (by decide))))
      have f17 := (E0_a.wr W15)
      obtain ⟨T18, h18, X18, e18, W18, st18⟩ := putF X15 hx hZ hown (host := "") (Or.inl (own_w hw 22 rfl)) Via.refl e15 f16 f17 (Or.inr ⟨(own_w hw 23 rfl), rfl, hnm⟩) (own_w hw 2 rfl) (ty := .int) (by decide) rfl rfl (g := (mkF m 104 #[vr a, vi x_, vi dg, vi ((128 : Int32) / bp)] [(.int dg), (.ref a)])) rfl rfl (hb hby d1_104)
      refine Goes.via st18 ?_
      have N18 := Fr.snoc X18 N15 H3
      have Fw18 : Fld Z h18 a "nearhop/model/IdSpace" "digits" "I" (.int dg) := f16.same W18
      show Goes p e below _ (T18.setTop (mkF m 107 #[vr a, vi x_, vi dg, vi ((128 : Int32) / bp)] []))
      have K19 : Keep h0 h18 [a] := (((Keep.refl h0 [a]).wr W15 (Or.inl (List.mem_of_getElem? (i := 0) rfl))).wr W18 (Or.inl (List.mem_of_getElem? (i := 0) rfl)))
      have f20 := (f17.wr W18)
      have f21 := (Fw15.other W18 (Or.inr (slot_ne (Or.inr (own_w hw 21 rfl)) (Or.inr (own_w hw 23 rfl)) (by decide) (t := .int) (t' := .int) (by decide) (by decide))))
      exact own_finV X18 hx hlk hret (hb hby d1_107) (by rw [e18]; exact ⟨rfl, N18, K19, f20, f21, Fw18⟩) (by first | decide | omega | (dsimp only; omega)) (by first | decide | omega | (dsimp only; omega))
    · skip
      refine Goes.via (fun _ kk_ => XS.icmpNo X1.here hx rfl (hb hby d1_11) rfl (feq hc11).1 kk_) ?_
      show Goes p e below _ (T1.setTop (mkF m 14 #[vr a, vi x_, vi dg, .unset] []))
      refine gILN X1 hx hby d1_14 rfl ?_
      refine gBI (z := 8) X1 hx hby d1_15 rfl ?_
      by_cases hc17 : x_ = (8 : Int32)
      · skip
        refine Goes.via (fun _ kk_ => XS.icmpYes X1.here hx rfl (pc0 := 17) (pc' := 40) rfl (hb hby d1_17) rfl (teq hc17).1 (by decide) (by decide) kk_) ?_
        show Goes p e below _ (T1.setTop (mkF m 40 #[vr a, vi x_, vi dg, .unset] []))
        refine gSI (z := 128) X1 hx hby d1_40 rfl ?_
        refine gILN X1 hx hby d1_43 rfl ?_
        obtain ⟨_, _, ⟨T22, L22, k22, n22⟩, -, X22, ⟨Lc22, hQ22, l22, y22, z22⟩, st22⟩ := Jvm.LawKit.callS X1 hx (y := mN_Integer_numberOfTrailingZeros) hown (mvT hZ (own_w hw 15 rfl)) (mvT hZ (own_w hw 16 rfl)) (mvT hZ (own_w hw 17 rfl)) (mvT hZ (own_w hw 18 rfl)) (by decide) (backOf (W := 1) (rmNtz l Z a0 hw [] x_ bp h0 n0 (Nat.le_trans Z0 (Nat.le_refl _)) HB) hZ (own_w hw 18 rfl) (own_w hw 17 rfl) (by decide) (by decide)) (g := (mkF m 44 #[vr a, vi x_, vi dg, .unset] [(.int x_), (.int (128 : Int32))])) rfl (by rw [hml]; rfl) (argsL := [(.int x_)]) (rest := [(.int (128 : Int32))]) (lenOf pd_1 rfl) rfl (by show 2 * 0 + _ ≤ _; exact Nat.le_of_eq rfl) (hb hby d1_44) (fun _ _ => ⟨rfl, e1', (by decide : 0 + 0 ≤ _), (by decide : 0 + 0 ≤ _)⟩)
        dsimp only [Pt.U, Pt.locs, Pt.cells, Pt.slots] at X22 l22 y22 z22 st22 hQ22
        replace l22 := l22.symm
        subst l22 y22 z22
        obtain ⟨rfl, rfl, e22⟩ := hQ22
        first | rw [List.append_nil] at X22 | skip
        refine Goes.via st22 ?_
        have e22' : T22.heap = h0 := e22
        show Goes p e below _ (T22.setTop (mkF m 47 #[vr a, vi x_, vi dg, .unset] [(.int bp), (.int (128 : Int32))]))
        refine Goes.via (fun _ kk_ => XS.idiv X22.here hx rfl (hb hby d1_47) rfl (own_bb0 HB) kk_) ?_
        show Goes p e below _ (T22.setTop (mkF m 48 #[vr a, vi x_, vi dg, .unset] [(.int ((128 : Int32) / bp))]))
        refine Goes.via (fun _ kk_ => XS.istoreN X22.here hx rfl (hb hby d1_48) rfl (l' := #[vr a, vi x_, vi dg, vi ((128 : Int32) / bp)]) rfl kk_) ?_
        show Goes p e below _ (T22.setTop (mkF m 49 #[vr a, vi x_, vi dg, vi ((128 : Int32) / bp)] []))
        refine gILN X22 hx hby d1_49 rfl ?_
        refine gIC (z := 1) X22 hx hby d1_50 rfl ?_
        have hc51_23 : ¬ (dg < (1 : Int32)) := (fun q => by have q1 := own_lti.mp q; have e : (1 : Int32).toInt = 1 := (by decide); omega)
        refine Goes.via (fun _ kk_ => XS.icmpNo X22.here hx rfl (hb hby d1_51) rfl (flt hc51_23).1 kk_) ?_
        show Goes p e below _ (T22.setTop (mkF m 54 #[vr a, vi x_, vi dg, vi ((128 : Int32) / bp)] []))
        refine gILN X22 hx hby d1_54 rfl ?_
        refine gILN X22 hx hby d1_55 rfl ?_
        have hc56_24 : ¬ (((128 : Int32) / bp) < dg) := (own_bbd HB HD8)
        refine Goes.via (fun _ kk_ => XS.icmpYes X22.here hx rfl (pc0 := 56) (pc' := 97) rfl (hb hby d1_56) rfl (flt hc56_24).2.2.2 (by decide) (by decide) kk_) ?_
        show Goes p e below _ (T22.setTop (mkF m 97 #[vr a, vi x_, vi dg, vi ((128 : Int32) / bp)] []))
        refine gALN X22 hx hby d1_97 rfl rfl ?_
        refine gILN X22 hx hby d1_98 rfl ?_
        obtain ⟨T25, h25, X25, e25, W25, st25⟩ := putF X22 hx hZ hown (host := "") (Or.inl (own_w hw 20 rfl)) Via.refl e22' F1_a_base E0_a (Or.inr ⟨(own_w hw 21 rfl), rfl, hnm⟩) (own_w hw 2 rfl) (ty := .int) (by decide) rfl rfl (g := (mkF m 99 #[vr a, vi x_, vi dg, vi ((128 : Int32) / bp)] [(.int x_), (.ref a)])) rfl rfl (hb hby d1_99)
        refine Goes.via st25 ?_
        have N25 := Fr.snoc X25 N0 H3
        have Fw25 : Fld Z h25 a "nearhop/model/IdSpace" "base" "I" (.int x_) := F1_a_base.same W25
        show Goes p e below _ (T25.setTop (mkF m 102 #[vr a, vi x_, vi dg, vi ((128 : Int32) / bp)] []))
        refine gALN X25 hx hby d1_102 rfl rfl ?_
        refine gILN X25 hx hby d1_103 rfl ?_
        have f26 := (F2_a_digits.other W25 (Or.inr (slot_ne (Or.inr (own_w hw 23 rfl)) (Or.inr (own_w hw 21 rfl)) (by decide) (t := .int) (t' := .int) (by decide) (by decide))))
        have f27 := (E0_a.wr W25)
        obtain ⟨T28, h28, X28, e28, W28, st28⟩ := putF X25 hx hZ hown (host := "") (Or.inl (own_w hw 22 rfl)) Via.refl e25 f26 f27 (Or.inr ⟨(own_w hw 23 rfl), rfl, hnm⟩) (own_w hw 2 rfl) (ty := .int) (by decide) rfl rfl (g := (mkF m 104 #[vr a, vi x_, vi dg, vi ((128 : Int32) / bp)] [(.int dg), (.ref a)])) rfl rfl (hb hby d1_104)
        refine Goes.via st28 ?_
        have N28 := Fr.snoc X28 N25 H3
        have Fw28 : Fld Z h28 a "nearhop/model/IdSpace" "digits" "I" (.int dg) := f26.same W28
        show Goes p e below _ (T28.setTop (mkF m 107 #[vr a, vi x_, vi dg, vi ((128 : Int32) / bp)] []))
        have K29 : Keep h0 h28 [a] := (((Keep.refl h0 [a]).wr W25 (Or.inl (List.mem_of_getElem? (i := 0) rfl))).wr W28 (Or.inl (List.mem_of_getElem? (i := 0) rfl)))
        have f30 := (f27.wr W28)
        have f31 := (Fw25.other W28 (Or.inr (slot_ne (Or.inr (own_w hw 21 rfl)) (Or.inr (own_w hw 23 rfl)) (by decide) (t := .int) (t' := .int) (by decide) (by decide))))
        exact own_finV X28 hx hlk hret (hb hby d1_107) (by rw [e28]; exact ⟨rfl, N28, K29, f30, f31, Fw28⟩) (by first | decide | omega | (dsimp only; omega)) (by first | decide | omega | (dsimp only; omega))
      · skip
        refine Goes.via (fun _ kk_ => XS.icmpNo X1.here hx rfl (hb hby d1_17) rfl (feq hc17).1 kk_) ?_
        show Goes p e below _ (T1.setTop (mkF m 20 #[vr a, vi x_, vi dg, .unset] []))
        refine gILN X1 hx hby d1_20 rfl ?_
        refine gBI (z := 16) X1 hx hby d1_21 rfl ?_
        have hc23_32 : x_ = (16 : Int32) := (own_bb16 HB hc6 hc11 hc17)
        refine Goes.via (fun _ kk_ => XS.icmpYes X1.here hx rfl (pc0 := 23) (pc' := 40) rfl (hb hby d1_23) rfl (teq hc23_32).1 (by decide) (by decide) kk_) ?_
        show Goes p e below _ (T1.setTop (mkF m 40 #[vr a, vi x_, vi dg, .unset] []))
        refine gSI (z := 128) X1 hx hby d1_40 rfl ?_
        refine gILN X1 hx hby d1_43 rfl ?_
        obtain ⟨_, _, ⟨T33, L33, k33, n33⟩, -, X33, ⟨Lc33, hQ33, l33, y33, z33⟩, st33⟩ := Jvm.LawKit.callS X1 hx (y := mN_Integer_numberOfTrailingZeros) hown (mvT hZ (own_w hw 15 rfl)) (mvT hZ (own_w hw 16 rfl)) (mvT hZ (own_w hw 17 rfl)) (mvT hZ (own_w hw 18 rfl)) (by decide) (backOf (W := 1) (rmNtz l Z a0 hw [] x_ bp h0 n0 (Nat.le_trans Z0 (Nat.le_refl _)) HB) hZ (own_w hw 18 rfl) (own_w hw 17 rfl) (by decide) (by decide)) (g := (mkF m 44 #[vr a, vi x_, vi dg, .unset] [(.int x_), (.int (128 : Int32))])) rfl (by rw [hml]; rfl) (argsL := [(.int x_)]) (rest := [(.int (128 : Int32))]) (lenOf pd_1 rfl) rfl (by show 2 * 0 + _ ≤ _; exact Nat.le_of_eq rfl) (hb hby d1_44) (fun _ _ => ⟨rfl, e1', (by decide : 0 + 0 ≤ _), (by decide : 0 + 0 ≤ _)⟩)
        dsimp only [Pt.U, Pt.locs, Pt.cells, Pt.slots] at X33 l33 y33 z33 st33 hQ33
        replace l33 := l33.symm
        subst l33 y33 z33
        obtain ⟨rfl, rfl, e33⟩ := hQ33
        first | rw [List.append_nil] at X33 | skip
        refine Goes.via st33 ?_
        have e33' : T33.heap = h0 := e33
        show Goes p e below _ (T33.setTop (mkF m 47 #[vr a, vi x_, vi dg, .unset] [(.int bp), (.int (128 : Int32))]))
        refine Goes.via (fun _ kk_ => XS.idiv X33.here hx rfl (hb hby d1_47) rfl (own_bb0 HB) kk_) ?_
        show Goes p e below _ (T33.setTop (mkF m 48 #[vr a, vi x_, vi dg, .unset] [(.int ((128 : Int32) / bp))]))
        refine Goes.via (fun _ kk_ => XS.istoreN X33.here hx rfl (hb hby d1_48) rfl (l' := #[vr a, vi x_, vi dg, vi ((128 : Int32) / bp)]) rfl kk_) ?_
        show Goes p e below _ (T33.setTop (mkF m 49 #[vr a, vi x_, vi dg, vi ((128 : Int32) / bp)] []))
        refine gILN X33 hx hby d1_49 rfl ?_
        refine gIC (z := 1) X33 hx hby d1_50 rfl ?_
        have hc51_34 : ¬ (dg < (1 : Int32)) := (fun q => by have q1 := own_lti.mp q; have e : (1 : Int32).toInt = 1 := (by decide); omega)
        refine Goes.via (fun _ kk_ => XS.icmpNo X33.here hx rfl (hb hby d1_51) rfl (flt hc51_34).1 kk_) ?_
        show Goes p e below _ (T33.setTop (mkF m 54 #[vr a, vi x_, vi dg, vi ((128 : Int32) / bp)] []))
        refine gILN X33 hx hby d1_54 rfl ?_
        refine gILN X33 hx hby d1_55 rfl ?_
        have hc56_35 : ¬ (((128 : Int32) / bp) < dg) := (own_bbd HB HD8)
        refine Goes.via (fun _ kk_ => XS.icmpYes X33.here hx rfl (pc0 := 56) (pc' := 97) rfl (hb hby d1_56) rfl (flt hc56_35).2.2.2 (by decide) (by decide) kk_) ?_
        show Goes p e below _ (T33.setTop (mkF m 97 #[vr a, vi x_, vi dg, vi ((128 : Int32) / bp)] []))
        refine gALN X33 hx hby d1_97 rfl rfl ?_
        refine gILN X33 hx hby d1_98 rfl ?_
        obtain ⟨T36, h36, X36, e36, W36, st36⟩ := putF X33 hx hZ hown (host := "") (Or.inl (own_w hw 20 rfl)) Via.refl e33' F1_a_base E0_a (Or.inr ⟨(own_w hw 21 rfl), rfl, hnm⟩) (own_w hw 2 rfl) (ty := .int) (by decide) rfl rfl (g := (mkF m 99 #[vr a, vi x_, vi dg, vi ((128 : Int32) / bp)] [(.int x_), (.ref a)])) rfl rfl (hb hby d1_99)
        refine Goes.via st36 ?_
        have N36 := Fr.snoc X36 N0 H3
        have Fw36 : Fld Z h36 a "nearhop/model/IdSpace" "base" "I" (.int x_) := F1_a_base.same W36
        show Goes p e below _ (T36.setTop (mkF m 102 #[vr a, vi x_, vi dg, vi ((128 : Int32) / bp)] []))
        refine gALN X36 hx hby d1_102 rfl rfl ?_
        refine gILN X36 hx hby d1_103 rfl ?_
        have f37 := (F2_a_digits.other W36 (Or.inr (slot_ne (Or.inr (own_w hw 23 rfl)) (Or.inr (own_w hw 21 rfl)) (by decide) (t := .int) (t' := .int) (by decide) (by decide))))
        have f38 := (E0_a.wr W36)
        obtain ⟨T39, h39, X39, e39, W39, st39⟩ := putF X36 hx hZ hown (host := "") (Or.inl (own_w hw 22 rfl)) Via.refl e36 f37 f38 (Or.inr ⟨(own_w hw 23 rfl), rfl, hnm⟩) (own_w hw 2 rfl) (ty := .int) (by decide) rfl rfl (g := (mkF m 104 #[vr a, vi x_, vi dg, vi ((128 : Int32) / bp)] [(.int dg), (.ref a)])) rfl rfl (hb hby d1_104)
        refine Goes.via st39 ?_
        have N39 := Fr.snoc X39 N36 H3
        have Fw39 : Fld Z h39 a "nearhop/model/IdSpace" "digits" "I" (.int dg) := f37.same W39
        show Goes p e below _ (T39.setTop (mkF m 107 #[vr a, vi x_, vi dg, vi ((128 : Int32) / bp)] []))
        have K40 : Keep h0 h39 [a] := (((Keep.refl h0 [a]).wr W36 (Or.inl (List.mem_of_getElem? (i := 0) rfl))).wr W39 (Or.inl (List.mem_of_getElem? (i := 0) rfl)))
        have f41 := (f38.wr W39)
        have f42 := (Fw36.other W39 (Or.inr (slot_ne (Or.inr (own_w hw 21 rfl)) (Or.inr (own_w hw 23 rfl)) (by decide) (t := .int) (t' := .int) (by decide) (by decide))))
        exact own_finV X39 hx hlk hret (hb hby d1_107) (by rw [e39]; exact ⟨rfl, N39, K40, f41, f42, Fw39⟩) (by first | decide | omega | (dsimp only; omega)) (by first | decide | omega | (dsimp only; omega))
theorem ef_rm8 (m : MethodId) (a : Addr) : entryFrame m #[(.ref a)] 1 = mkF m 0 #[.val (.ref a)] [] := by first | (simp [entryFrame, mkF, argsToLocals, Value.category]; done) | rfl
def Qrm8 (Z : State) (a : Addr) (x_ : Int32) (bp : Int32) (h0 : Heap) (n0 : Nat) (v_ : Option Value) (h_ : Heap) (L_ : List Loc) : Prop := v_ = some (.int bp) ∧ L_ = [] ∧ h_ = h0
theorem d8_0 : decode prog_78_method_2_code 0 = .ok (.aload_n 0, 1) := by decide +kernel
theorem d8_1 : decode prog_78_method_2_code 1 = .ok (.getfield 40, 3) := by decide +kernel
theorem d8_4 : decode prog_78_method_2_code 4 = .ok (.invokestatic 20, 3) := by decide +kernel
theorem d8_7 : decode prog_78_method_2_code 7 = .ok (.ireturn, 1) := by decide +kernel
set_option maxRecDepth 65536 in
set_option maxHeartbeats 40000000 in
theorem rm8 (l : Launch) (Z : State) (a0 : Array Value) (hw : ∀ d ∈ tables_1, d.before a0 Z = true) (ws : List Jvm.Cond) (a : Addr) (x_ : Int32) (bp : Int32) (h0 : Heap) (n0 : Nat) (Z0 : n0 ≤ h0.size) (F0_a_base : Fld Z h0 a "nearhop/model/IdSpace" "base" "I" (.int x_)) (HB : own_bb x_ bp) :
    MetFree l (⟨"nearhop/model/IdSpace", "bitsPerDigit", "()I"⟩ : MethodName) (head1 (Jvm.Cond.code (⟨"nearhop/model/IdSpace", "bitsPerDigit", "()I"⟩ : MethodName) prog_78_method_2_code 1 (some .int) :: ws) ({ frames := 1, cells := 0, slots := 0, locals := 13 } : Room)) (fun as_ U_ => as_ = #[(.ref a)] ∧ Z.Warmed39 U_.vm ∧ U_.heap = h0) (fun _ _ _ _ _ => True) (fun _ U_ o_ V_ => ∃ v_ L_, o_ = .returned v_ ∧ Qrm8 Z a x_ bp h0 n0 v_ V_.heap L_ ∧ FrameEnd U_ o_ V_ L_ ({ frames := 1, cells := 0, slots := 0, locals := 13 } : Room).cells ({ frames := 1, cells := 0, slots := 0, locals := 13 } : Room).slots) := by
  refine MetFree.of_bodySF (plainFor_of_name pn_nearhop_model_IdSpace) hisR ?_
  intro p e s m args below meth c s₁ Bd hml0 hP hK
  obtain ⟨rfl, hZ, hh⟩ := hP
  have hx := Bd.exec
  have hby := Bd.bytes
  have hlk : meth.locks = false := BodyLoose.notSynchronized Bd
  have hret := Bd.returns
  have hml : c.maxLocals = 1 := hml0
  have hown : s.vm.findClass "nearhop/model/IdSpace" = some m.cls := findClass_of_methodNamed Bd.named
  have hnm := (name_of_methodNamed Bd.named Bd.method).1
  have X0 : Stand p l e ({ frames := 1, cells := 0, slots := 0, locals := 13 } : Room) s m #[(.ref a)] below meth c s₁ [] 0 0 := Stand.of_body Bd
  have e0 : s₁.heap = h0 := by rw [← hh, Bd.state]; rfl
  have N0 := Fr.nil n0
  show Goes p e below (Fin_ s (Qrm8 Z a x_ bp h0 n0) ({ frames := 1, cells := 0, slots := 0, locals := 13 } : Room).cells ({ frames := 1, cells := 0, slots := 0, locals := 13 } : Room).slots) (s₁.setTop (entryFrame m #[(.ref a)] 1))
  rw [ef_rm8 m a]
  refine gALN X0 hx hby d8_0 rfl rfl ?_
  obtain ⟨T1, X1, e1, st1⟩ := getF X0 hx hZ hown (host := "") (Or.inl (own_w hw 20 rfl)) Via.refl e0 F0_a_base (g := (mkF m 1 #[vr a] [(.ref a)])) rfl rfl (hb hby d8_1)
  refine Goes.via st1 ?_
  show Goes p e below _ (T1.setTop (mkF m 4 #[vr a] [(.int x_)]))
  obtain ⟨_, _, ⟨T2, L2, k2, n2⟩, -, X2, ⟨Lc2, hQ2, l2, y2, z2⟩, st2⟩ := Jvm.LawKit.callS X1 hx (y := mN_Integer_numberOfTrailingZeros) hown (mvT hZ (own_w hw 15 rfl)) (mvT hZ (own_w hw 16 rfl)) (mvT hZ (own_w hw 17 rfl)) (mvT hZ (own_w hw 18 rfl)) (by decide) (backOf (W := 0) (rmNtz l Z a0 hw [] x_ bp h0 n0 (Nat.le_trans Z0 (Nat.le_refl _)) HB) hZ (own_w hw 18 rfl) (own_w hw 17 rfl) (by decide) (by decide)) (g := (mkF m 4 #[vr a] [(.int x_)])) rfl (by rw [hml]; rfl) (argsL := [(.int x_)]) (rest := []) (lenOf pd_1 rfl) rfl (by show 2 * 0 + _ ≤ _; exact Nat.le_of_eq rfl) (hb hby d8_4) (fun _ _ => ⟨rfl, e1, (by decide : 0 + 0 ≤ _), (by decide : 0 + 0 ≤ _)⟩)
  dsimp only [Pt.U, Pt.locs, Pt.cells, Pt.slots] at X2 l2 y2 z2 st2 hQ2
  replace l2 := l2.symm
  subst l2 y2 z2
  obtain ⟨rfl, rfl, e2⟩ := hQ2
  first | rw [List.append_nil] at X2 | skip
  refine Goes.via st2 ?_
  have e2' : T2.heap = h0 := e2
  show Goes p e below _ (T2.setTop (mkF m 7 #[vr a] [(.int bp)]))
  exact own_finI X2 hx hlk hret (hb hby d8_7) (by rw [e2']; exact ⟨rfl, rfl, rfl⟩) (by first | decide | omega | (dsimp only; omega)) (by first | decide | omega | (dsimp only; omega))
theorem ef_rm7 (m : MethodId) (a : Addr) : entryFrame m #[(.ref a)] 1 = mkF m 0 #[.val (.ref a)] [] := by first | (simp [entryFrame, mkF, argsToLocals, Value.category]; done) | rfl
def Qrm7 (Z : State) (a : Addr) (x_ : Int32) (dg : Int32) (bp : Int32) (h0 : Heap) (n0 : Nat) (v_ : Option Value) (h_ : Heap) (L_ : List Loc) : Prop := v_ = some (.int (dg * bp)) ∧ L_ = [] ∧ h_ = h0
theorem d7_0 : decode prog_78_method_3_code 0 = .ok (.aload_n 0, 1) := by decide +kernel
theorem d7_1 : decode prog_78_method_3_code 1 = .ok (.getfield 44, 3) := by decide +kernel
theorem d7_4 : decode prog_78_method_3_code 4 = .ok (.aload_n 0, 1) := by decide +kernel
theorem pd_2 : parseMethodDescriptor "()I" = some ⟨[], some .int⟩ := by decide +kernel
theorem d7_5 : decode prog_78_method_3_code 5 = .ok (.invokevirtual 47, 3) := by decide +kernel
abbrev mN_IdSpace_bitsPerDigit : MethodName := ⟨"nearhop/model/IdSpace", "bitsPerDigit", "()I"⟩
theorem d7_8 : decode prog_78_method_3_code 8 = .ok (.imul, 1) := by decide +kernel
theorem d7_9 : decode prog_78_method_3_code 9 = .ok (.ireturn, 1) := by decide +kernel
set_option maxRecDepth 65536 in
set_option maxHeartbeats 40000000 in
theorem rm7 (l : Launch) (Z : State) (a0 : Array Value) (hw : ∀ d ∈ tables_1, d.before a0 Z = true) (ws : List Jvm.Cond) (a : Addr) (x_ : Int32) (dg : Int32) (bp : Int32) (h0 : Heap) (n0 : Nat) (Z0 : n0 ≤ h0.size) (E0_a : Exa Z h0 a "nearhop/model/IdSpace") (F1_a_base : Fld Z h0 a "nearhop/model/IdSpace" "base" "I" (.int x_)) (F2_a_digits : Fld Z h0 a "nearhop/model/IdSpace" "digits" "I" (.int dg)) (HB : own_bb x_ bp) :
    MetFree l (⟨"nearhop/model/IdSpace", "bits", "()I"⟩ : MethodName) (head1 (Jvm.Cond.code (⟨"nearhop/model/IdSpace", "bits", "()I"⟩ : MethodName) prog_78_method_3_code 1 (some .int) :: ws) ({ frames := 2, cells := 0, slots := 0, locals := 26 } : Room)) (fun as_ U_ => as_ = #[(.ref a)] ∧ Z.Warmed39 U_.vm ∧ U_.heap = h0) (fun _ _ _ _ _ => True) (fun _ U_ o_ V_ => ∃ v_ L_, o_ = .returned v_ ∧ Qrm7 Z a x_ dg bp h0 n0 v_ V_.heap L_ ∧ FrameEnd U_ o_ V_ L_ ({ frames := 2, cells := 0, slots := 0, locals := 26 } : Room).cells ({ frames := 2, cells := 0, slots := 0, locals := 26 } : Room).slots) := by
  refine MetFree.of_bodySF (plainFor_of_name pn_nearhop_model_IdSpace) hisR ?_
  intro p e s m args below meth c s₁ Bd hml0 hP hK
  obtain ⟨rfl, hZ, hh⟩ := hP
  have hx := Bd.exec
  have hby := Bd.bytes
  have hlk : meth.locks = false := BodyLoose.notSynchronized Bd
  have hret := Bd.returns
  have hml : c.maxLocals = 1 := hml0
  have hown : s.vm.findClass "nearhop/model/IdSpace" = some m.cls := findClass_of_methodNamed Bd.named
  have hnm := (name_of_methodNamed Bd.named Bd.method).1
  have X0 : Stand p l e ({ frames := 2, cells := 0, slots := 0, locals := 26 } : Room) s m #[(.ref a)] below meth c s₁ [] 0 0 := Stand.of_body Bd
  have e0 : s₁.heap = h0 := by rw [← hh, Bd.state]; rfl
  have N0 := Fr.nil n0
  show Goes p e below (Fin_ s (Qrm7 Z a x_ dg bp h0 n0) ({ frames := 2, cells := 0, slots := 0, locals := 26 } : Room).cells ({ frames := 2, cells := 0, slots := 0, locals := 26 } : Room).slots) (s₁.setTop (entryFrame m #[(.ref a)] 1))
  rw [ef_rm7 m a]
  refine gALN X0 hx hby d7_0 rfl rfl ?_
  obtain ⟨T1, X1, e1, st1⟩ := getF X0 hx hZ hown (host := "") (Or.inl (own_w hw 22 rfl)) Via.refl e0 F2_a_digits (g := (mkF m 1 #[vr a] [(.ref a)])) rfl rfl (hb hby d7_1)
  refine Goes.via st1 ?_
  show Goes p e below _ (T1.setTop (mkF m 4 #[vr a] [(.int dg)]))
  refine gALN X1 hx hby d7_4 rfl rfl ?_
  obtain ⟨cq2, kq2, q2a, q2b, q2c⟩ := isOf hZ e1 E0_a
  obtain ⟨_, _, ⟨T2, L2, k2, n2⟩, -, X2, ⟨Lc2, hQ2, l2, y2, z2⟩, st2⟩ := X1.virtualBack hx (y := mN_IdSpace_bitsPerDigit) (z := mN_IdSpace_bitsPerDigit) hown (mvT hZ (own_w hw 44 rfl)) (mvT hZ (own_w hw 45 rfl)) (notFace_of_selects (args := #[]) (mvT hZ (own_w hw 47 rfl))) (mvT hZ (own_w hw 47 rfl)) (mvT hZ (own_w hw 46 rfl)) (by decide) (backOf (W := 1) (rm8 l Z a0 hw [] a x_ bp h0 n0 (Nat.le_trans Z0 (Nat.le_refl _)) F1_a_base HB) hZ (own_w hw 48 rfl) (own_w hw 3 rfl) (by decide) (by decide)) q2a q2c (g := (mkF m 5 #[vr a] [(.ref a), (.int dg)])) rfl (by rw [hml]; rfl) (Steps.refl _) (argsL := []) (rest := [(.int dg)]) (lenOf pd_2 rfl) rfl (by show 2 * 0 + _ ≤ _; exact Nat.le_of_eq rfl) (hb hby d7_5) (fun _ _ => ⟨rfl, e1, (by decide : 0 + 0 ≤ _), (by decide : 0 + 0 ≤ _)⟩)
  dsimp only [Pt.U, Pt.locs, Pt.cells, Pt.slots] at X2 l2 y2 z2 st2 hQ2
  replace l2 := l2.symm
  subst l2 y2 z2
  obtain ⟨rfl, rfl, e2⟩ := hQ2
  first | rw [List.append_nil] at X2 | skip
  refine Goes.tr st2 ?_
  have e2' : T2.heap = h0 := e2
  show Goes p e below _ (T2.setTop (mkF m 8 #[vr a] [(.int bp), (.int dg)]))
  refine Goes.via (fun _ kk_ => XS.imul X2.here hx rfl (hb hby d7_8) rfl kk_) ?_
  show Goes p e below _ (T2.setTop (mkF m 9 #[vr a] [(.int (dg * bp))]))
  exact own_finI X2 hx hlk hret (hb hby d7_9) (by rw [e2']; exact ⟨rfl, rfl, rfl⟩) (by first | decide | omega | (dsimp only; omega)) (by first | decide | omega | (dsimp only; omega))
theorem ef_rm15 (m : MethodId) (a : Addr) : entryFrame m #[(.ref a)] 1 = mkF m 0 #[.val (.ref a)] [] := by first | (simp [entryFrame, mkF, argsToLocals, Value.category]; done) | rfl
def Qrm15 (Z : State) (a : Addr) (dg : Int32) (h0 : Heap) (n0 : Nat) (v_ : Option Value) (h_ : Heap) (L_ : List Loc) : Prop := v_ = some (.int dg) ∧ L_ = [] ∧ h_ = h0
theorem d15_0 : decode prog_78_method_12_code 0 = .ok (.aload_n 0, 1) := by decide +kernel
theorem d15_1 : decode prog_78_method_12_code 1 = .ok (.getfield 44, 3) := by decide +kernel
theorem d15_4 : decode prog_78_method_12_code 4 = .ok (.ireturn, 1) := by decide +kernel
set_option maxRecDepth 65536 in
set_option maxHeartbeats 40000000 in
theorem rm15 (l : Launch) (Z : State) (a0 : Array Value) (hw : ∀ d ∈ tables_1, d.before a0 Z = true) (ws : List Jvm.Cond) (a : Addr) (dg : Int32) (h0 : Heap) (n0 : Nat) (Z0 : n0 ≤ h0.size) (F0_a_digits : Fld Z h0 a "nearhop/model/IdSpace" "digits" "I" (.int dg)) :
    MetFree l (⟨"nearhop/model/IdSpace", "digits", "()I"⟩ : MethodName) (head1 (Jvm.Cond.code (⟨"nearhop/model/IdSpace", "digits", "()I"⟩ : MethodName) prog_78_method_12_code 1 (some .int) :: ws) ({ frames := 0, cells := 0, slots := 0, locals := 0 } : Room)) (fun as_ U_ => as_ = #[(.ref a)] ∧ Z.Warmed39 U_.vm ∧ U_.heap = h0) (fun _ _ _ _ _ => True) (fun _ U_ o_ V_ => ∃ v_ L_, o_ = .returned v_ ∧ Qrm15 Z a dg h0 n0 v_ V_.heap L_ ∧ FrameEnd U_ o_ V_ L_ ({ frames := 0, cells := 0, slots := 0, locals := 0 } : Room).cells ({ frames := 0, cells := 0, slots := 0, locals := 0 } : Room).slots) := by
  refine MetFree.of_bodySF (plainFor_of_name pn_nearhop_model_IdSpace) hisR ?_
  intro p e s m args below meth c s₁ Bd hml0 hP hK
  obtain ⟨rfl, hZ, hh⟩ := hP
  have hx := Bd.exec
  have hby := Bd.bytes
  have hlk : meth.locks = false := BodyLoose.notSynchronized Bd
  have hret := Bd.returns
  have hml : c.maxLocals = 1 := hml0
  have hown : s.vm.findClass "nearhop/model/IdSpace" = some m.cls := findClass_of_methodNamed Bd.named
  have hnm := (name_of_methodNamed Bd.named Bd.method).1
  have X0 : Stand p l e ({ frames := 0, cells := 0, slots := 0, locals := 0 } : Room) s m #[(.ref a)] below meth c s₁ [] 0 0 := Stand.of_body Bd
  have e0 : s₁.heap = h0 := by rw [← hh, Bd.state]; rfl
  have N0 := Fr.nil n0
  show Goes p e below (Fin_ s (Qrm15 Z a dg h0 n0) ({ frames := 0, cells := 0, slots := 0, locals := 0 } : Room).cells ({ frames := 0, cells := 0, slots := 0, locals := 0 } : Room).slots) (s₁.setTop (entryFrame m #[(.ref a)] 1))
  rw [ef_rm15 m a]
  refine gALN X0 hx hby d15_0 rfl rfl ?_
  obtain ⟨T1, X1, e1, st1⟩ := getF X0 hx hZ hown (host := "") (Or.inl (own_w hw 22 rfl)) Via.refl e0 F0_a_digits (g := (mkF m 1 #[vr a] [(.ref a)])) rfl rfl (hb hby d15_1)
  refine Goes.via st1 ?_
  show Goes p e below _ (T1.setTop (mkF m 4 #[vr a] [(.int dg)]))
  exact own_finI X1 hx hlk hret (hb hby d15_4) (by rw [e1]; exact ⟨rfl, rfl, rfl⟩) (by first | decide | omega | (dsimp only; omega)) (by first | decide | omega | (dsimp only; omega))
theorem ef_rm6 (m : MethodId) (sp : Addr) (y_ : Int64) : entryFrame m #[(.ref sp), (.long y_)] 6 = mkF m 0 #[.val (.ref sp), .val (.long y_), .second, .unset, .unset, .unset] [] := by first | (simp [entryFrame, mkF, argsToLocals, Value.category]; done) | rfl
def Qrm6 (Z : State) (sp : Addr) (y_ : Int64) (x_ : Int32) (dg : Int32) (bp : Int32) (h0 : Heap) (n0 : Nat) (v_ : Option Value) (h_ : Heap) (L_ : List Loc) : Prop := v_ = some (.long (0 : Int64)) ∧ L_ = [] ∧ h_ = h0
theorem pn_nearhop_model_Id : plainName "nearhop/model/Id" = true := by first | (simp [plainName, overriddenIn]; done) | decide +kernel
theorem d6_0 : decode prog_77_method_2_code 0 = .ok (.aload_n 0, 1) := by decide +kernel
theorem d6_1 : decode prog_77_method_2_code 1 = .ok (.invokevirtual 27, 3) := by decide +kernel
abbrev mN_IdSpace_bits : MethodName := ⟨"nearhop/model/IdSpace", "bits", "()I"⟩
theorem d6_4 : decode prog_77_method_2_code 4 = .ok (.istore_n 3, 1) := by decide +kernel
theorem d6_5 : decode prog_77_method_2_code 5 = .ok (.iload_n 3, 1) := by decide +kernel
theorem d6_6 : decode prog_77_method_2_code 6 = .ok (.bipush 64, 2) := by decide +kernel
theorem d6_8 : decode prog_77_method_2_code 8 = .ok (.if_icmp .gt 9, 3) := by decide +kernel
theorem d6_11 : decode prog_77_method_2_code 11 = .ok (.lconst 0, 1) := by decide +kernel
theorem d6_12 : decode prog_77_method_2_code 12 = .ok (.lstore 4, 2) := by decide +kernel
theorem d6_14 : decode prog_77_method_2_code 14 = .ok (.goto 28, 3) := by decide +kernel
theorem d6_42 : decode prog_77_method_2_code 42 = .ok (.lload 4, 2) := by decide +kernel
theorem d6_44 : decode prog_77_method_2_code 44 = .ok (.lreturn, 1) := by decide +kernel
set_option maxRecDepth 65536 in
set_option maxHeartbeats 40000000 in
theorem rm6 (l : Launch) (Z : State) (a0 : Array Value) (hw : ∀ d ∈ tables_1, d.before a0 Z = true) (ws : List Jvm.Cond) (sp : Addr) (y_ : Int64) (x_ : Int32) (dg : Int32) (bp : Int32) (h0 : Heap) (n0 : Nat) (Z0 : n0 ≤ h0.size) (E0_sp : Exa Z h0 sp "nearhop/model/IdSpace") (F1_sp_base : Fld Z h0 sp "nearhop/model/IdSpace" "base" "I" (.int x_)) (F2_sp_digits : Fld Z h0 sp "nearhop/model/IdSpace" "digits" "I" (.int dg)) (HB : own_bb x_ bp) (HD1 : 1 ≤ dg.toInt) (HD8 : dg.toInt ≤ 8) :
    MetFree l (⟨"nearhop/model/Id", "cutHigh", "(Lnearhop/model/IdSpace;J)J"⟩ : MethodName) (head1 (Jvm.Cond.code (⟨"nearhop/model/Id", "cutHigh", "(Lnearhop/model/IdSpace;J)J"⟩ : MethodName) prog_77_method_2_code 6 (some .long) :: ws) ({ frames := 3, cells := 0, slots := 0, locals := 38 } : Room)) (fun as_ U_ => as_ = #[(.ref sp), (.long y_)] ∧ Z.Warmed39 U_.vm ∧ U_.heap = h0) (fun _ _ _ _ _ => True) (fun _ U_ o_ V_ => ∃ v_ L_, o_ = .returned v_ ∧ Qrm6 Z sp y_ x_ dg bp h0 n0 v_ V_.heap L_ ∧ FrameEnd U_ o_ V_ L_ ({ frames := 3, cells := 0, slots := 0, locals := 38 } : Room).cells ({ frames := 3, cells := 0, slots := 0, locals := 38 } : Room).slots) := by
  refine MetFree.of_bodySF (plainFor_of_name pn_nearhop_model_Id) hisR ?_
  intro p e s m args below meth c s₁ Bd hml0 hP hK
  obtain ⟨rfl, hZ, hh⟩ := hP
  have hx := Bd.exec
  have hby := Bd.bytes
  have hlk : meth.locks = false := BodyLoose.notSynchronized Bd
  have hret := Bd.returns
  have hml : c.maxLocals = 6 := hml0
  have hown : s.vm.findClass "nearhop/model/Id" = some m.cls := findClass_of_methodNamed Bd.named
  have hnm := (name_of_methodNamed Bd.named Bd.method).1
  have X0 : Stand p l e ({ frames := 3, cells := 0, slots := 0, locals := 38 } : Room) s m #[(.ref sp), (.long y_)] below meth c s₁ [] 0 0 := Stand.of_body Bd
  have e0 : s₁.heap = h0 := by rw [← hh, Bd.state]; rfl
  have N0 := Fr.nil n0
  show Goes p e below (Fin_ s (Qrm6 Z sp y_ x_ dg bp h0 n0) ({ frames := 3, cells := 0, slots := 0, locals := 38 } : Room).cells ({ frames := 3, cells := 0, slots := 0, locals := 38 } : Room).slots) (s₁.setTop (entryFrame m #[(.ref sp), (.long y_)] 6))
  rw [ef_rm6 m sp y_]
  refine gALN X0 hx hby d6_0 rfl rfl ?_
  obtain ⟨cq1, kq1, q1a, q1b, q1c⟩ := isOf hZ e0 E0_sp
  obtain ⟨_, _, ⟨T1, L1, k1, n1⟩, -, X1, ⟨Lc1, hQ1, l1, y1, z1⟩, st1⟩ := X0.virtualBack hx (y := mN_IdSpace_bits) (z := mN_IdSpace_bits) hown (mvT hZ (own_w hw 39 rfl)) (mvT hZ (own_w hw 40 rfl)) (notFace_of_selects (args := #[]) (mvT hZ (own_w hw 42 rfl))) (mvT hZ (own_w hw 42 rfl)) (mvT hZ (own_w hw 41 rfl)) (by decide) (backOf (W := 0) (rm7 l Z a0 hw [] sp x_ dg bp h0 n0 (Nat.le_trans Z0 (Nat.le_refl _)) E0_sp F1_sp_base F2_sp_digits HB) hZ (own_w hw 43 rfl) (own_w hw 3 rfl) (by decide) (by decide)) q1a q1c (g := (mkF m 1 #[vr sp, .val (.long y_), .second, .unset, .unset, .unset] [(.ref sp)])) rfl (by rw [hml]; rfl) (Steps.refl _) (argsL := []) (rest := []) (lenOf pd_2 rfl) rfl (by show 2 * 0 + _ ≤ _; exact Nat.le_of_eq rfl) (hb hby d6_1) (fun _ _ => ⟨rfl, e0, (by decide : 0 + 0 ≤ _), (by decide : 0 + 0 ≤ _)⟩)
  dsimp only [Pt.U, Pt.locs, Pt.cells, Pt.slots] at X1 l1 y1 z1 st1 hQ1
  replace l1 := l1.symm
  subst l1 y1 z1
  obtain ⟨rfl, rfl, e1⟩ := hQ1
  first | rw [List.append_nil] at X1 | skip
  refine Goes.tr st1 ?_
  have e1' : T1.heap = h0 := e1
  show Goes p e below _ (T1.setTop (mkF m 4 #[vr sp, .val (.long y_), .second, .unset, .unset, .unset] [(.int (dg * bp))]))
  refine Goes.via (fun _ kk_ => XS.istoreN X1.here hx rfl (hb hby d6_4) rfl (l' := #[vr sp, .val (.long y_), .second, vi (dg * bp), .unset, .unset]) rfl kk_) ?_
  show Goes p e below _ (T1.setTop (mkF m 5 #[vr sp, .val (.long y_), .second, vi (dg * bp), .unset, .unset] []))
  refine gILN X1 hx hby d6_5 rfl ?_
  refine gBI (z := 64) X1 hx hby d6_6 rfl ?_
  have hc8_2 : ¬ ((64 : Int32) < (dg * bp)) := (own_n64 HB HD1 HD8).1
  refine Goes.via (fun _ kk_ => XS.icmpNo X1.here hx rfl (hb hby d6_8) rfl (flt hc8_2).2.2.1 kk_) ?_
  show Goes p e below _ (T1.setTop (mkF m 11 #[vr sp, .val (.long y_), .second, vi (dg * bp), .unset, .unset] []))
  refine Goes.via (fun _ kk_ => XS.lconst X1.here hx rfl (hb hby d6_11) kk_) ?_
  show Goes p e below _ (T1.setTop (mkF m 12 #[vr sp, .val (.long y_), .second, vi (dg * bp), .unset, .unset] [(.long (0 : Int64))]))
  refine Goes.via (fun _ kk_ => XS.lstore X1.here hx rfl (hb hby d6_12) rfl (l' := #[vr sp, .val (.long y_), .second, vi (dg * bp), .val (.long (0 : Int64)), .second]) rfl kk_) ?_
  show Goes p e below _ (T1.setTop (mkF m 14 #[vr sp, .val (.long y_), .second, vi (dg * bp), .val (.long (0 : Int64)), .second] []))
  refine Goes.via (fun _ kk_ => XS.goto X1.here hx rfl (pc0 := 14) (pc' := 42) rfl (hb hby d6_14) (by decide) (by decide) kk_) ?_
  show Goes p e below _ (T1.setTop (mkF m 42 #[vr sp, .val (.long y_), .second, vi (dg * bp), .val (.long (0 : Int64)), .second] []))
  refine Goes.via (fun _ kk_ => XS.lload X1.here hx rfl (hb hby d6_42) rfl  kk_) ?_
  show Goes p e below _ (T1.setTop (mkF m 44 #[vr sp, .val (.long y_), .second, vi (dg * bp), .val (.long (0 : Int64)), .second] [(.long (0 : Int64))]))
  exact own_finJ X1 hx hlk hret (hb hby d6_44) (by rw [e1']; exact ⟨rfl, rfl, rfl⟩) (by first | decide | omega | (dsimp only; omega)) (by first | decide | omega | (dsimp only; omega))
theorem ef_rm9 (m : MethodId) (sp : Addr) (y_ : Int64) : entryFrame m #[(.ref sp), (.long y_)] 4 = mkF m 0 #[.val (.ref sp), .val (.long y_), .second, .unset] [] := by first | (simp [entryFrame, mkF, argsToLocals, Value.category]; done) | rfl
def Qrm9 (Z : State) (sp : Addr) (y_ : Int64) (x_ : Int32) (dg : Int32) (bp : Int32) (h0 : Heap) (n0 : Nat) (v_ : Option Value) (h_ : Heap) (L_ : List Loc) : Prop := v_ = some (.long y_) ∧ L_ = [] ∧ h_ = h0
theorem d9_0 : decode prog_77_method_3_code 0 = .ok (.aload_n 0, 1) := by decide +kernel
theorem d9_1 : decode prog_77_method_3_code 1 = .ok (.invokevirtual 27, 3) := by decide +kernel
theorem d9_4 : decode prog_77_method_3_code 4 = .ok (.istore_n 3, 1) := by decide +kernel
theorem d9_5 : decode prog_77_method_3_code 5 = .ok (.iload_n 3, 1) := by decide +kernel
theorem d9_6 : decode prog_77_method_3_code 6 = .ok (.bipush 64, 2) := by decide +kernel
theorem d9_8 : decode prog_77_method_3_code 8 = .ok (.if_icmp .lt 7, 3) := by decide +kernel
theorem d9_15 : decode prog_77_method_3_code 15 = .ok (.lload_n 1, 1) := by decide +kernel
theorem d9_16 : decode prog_77_method_3_code 16 = .ok (.lconst 1, 1) := by decide +kernel
theorem d9_17 : decode prog_77_method_3_code 17 = .ok (.iload_n 3, 1) := by decide +kernel
theorem d9_18 : decode prog_77_method_3_code 18 = .ok (.lshl, 1) := by decide +kernel
theorem d9_19 : decode prog_77_method_3_code 19 = .ok (.lconst 1, 1) := by decide +kernel
theorem d9_20 : decode prog_77_method_3_code 20 = .ok (.lsub, 1) := by decide +kernel
theorem d9_21 : decode prog_77_method_3_code 21 = .ok (.land, 1) := by decide +kernel
theorem d9_22 : decode prog_77_method_3_code 22 = .ok (.lreturn, 1) := by decide +kernel
set_option maxRecDepth 65536 in
set_option maxHeartbeats 40000000 in
theorem rm9 (l : Launch) (Z : State) (a0 : Array Value) (hw : ∀ d ∈ tables_1, d.before a0 Z = true) (ws : List Jvm.Cond) (sp : Addr) (y_ : Int64) (x_ : Int32) (dg : Int32) (bp : Int32) (h0 : Heap) (n0 : Nat) (Z0 : n0 ≤ h0.size) (E0_sp : Exa Z h0 sp "nearhop/model/IdSpace") (F1_sp_base : Fld Z h0 sp "nearhop/model/IdSpace" "base" "I" (.int x_)) (F2_sp_digits : Fld Z h0 sp "nearhop/model/IdSpace" "digits" "I" (.int dg)) (HB : own_bb x_ bp) (HD1 : 1 ≤ dg.toInt) (HD8 : dg.toInt ≤ 8) (HCut : (y_ &&& (((1 : Int64) <<< ((dg * bp) &&& 0x3f).toInt64) - (1 : Int64))) = y_) :
    MetFree l (⟨"nearhop/model/Id", "cutLow", "(Lnearhop/model/IdSpace;J)J"⟩ : MethodName) (head1 (Jvm.Cond.code (⟨"nearhop/model/Id", "cutLow", "(Lnearhop/model/IdSpace;J)J"⟩ : MethodName) prog_77_method_3_code 4 (some .long) :: ws) ({ frames := 3, cells := 0, slots := 0, locals := 38 } : Room)) (fun as_ U_ => as_ = #[(.ref sp), (.long y_)] ∧ Z.Warmed39 U_.vm ∧ U_.heap = h0) (fun _ _ _ _ _ => True) (fun _ U_ o_ V_ => ∃ v_ L_, o_ = .returned v_ ∧ Qrm9 Z sp y_ x_ dg bp h0 n0 v_ V_.heap L_ ∧ FrameEnd U_ o_ V_ L_ ({ frames := 3, cells := 0, slots := 0, locals := 38 } : Room).cells ({ frames := 3, cells := 0, slots := 0, locals := 38 } : Room).slots) := by
  refine MetFree.of_bodySF (plainFor_of_name pn_nearhop_model_Id) hisR ?_
  intro p e s m args below meth c s₁ Bd hml0 hP hK
  obtain ⟨rfl, hZ, hh⟩ := hP
  have hx := Bd.exec
  have hby := Bd.bytes
  have hlk : meth.locks = false := BodyLoose.notSynchronized Bd
  have hret := Bd.returns
  have hml : c.maxLocals = 4 := hml0
  have hown : s.vm.findClass "nearhop/model/Id" = some m.cls := findClass_of_methodNamed Bd.named
  have hnm := (name_of_methodNamed Bd.named Bd.method).1
  have X0 : Stand p l e ({ frames := 3, cells := 0, slots := 0, locals := 38 } : Room) s m #[(.ref sp), (.long y_)] below meth c s₁ [] 0 0 := Stand.of_body Bd
  have e0 : s₁.heap = h0 := by rw [← hh, Bd.state]; rfl
  have N0 := Fr.nil n0
  show Goes p e below (Fin_ s (Qrm9 Z sp y_ x_ dg bp h0 n0) ({ frames := 3, cells := 0, slots := 0, locals := 38 } : Room).cells ({ frames := 3, cells := 0, slots := 0, locals := 38 } : Room).slots) (s₁.setTop (entryFrame m #[(.ref sp), (.long y_)] 4))
  rw [ef_rm9 m sp y_]
  refine gALN X0 hx hby d9_0 rfl rfl ?_
  obtain ⟨cq1, kq1, q1a, q1b, q1c⟩ := isOf hZ e0 E0_sp
  obtain ⟨_, _, ⟨T1, L1, k1, n1⟩, -, X1, ⟨Lc1, hQ1, l1, y1, z1⟩, st1⟩ := X0.virtualBack hx (y := mN_IdSpace_bits) (z := mN_IdSpace_bits) hown (mvT hZ (own_w hw 39 rfl)) (mvT hZ (own_w hw 40 rfl)) (notFace_of_selects (args := #[]) (mvT hZ (own_w hw 42 rfl))) (mvT hZ (own_w hw 42 rfl)) (mvT hZ (own_w hw 41 rfl)) (by decide) (backOf (W := 0) (rm7 l Z a0 hw [] sp x_ dg bp h0 n0 (Nat.le_trans Z0 (Nat.le_refl _)) E0_sp F1_sp_base F2_sp_digits HB) hZ (own_w hw 43 rfl) (own_w hw 3 rfl) (by decide) (by decide)) q1a q1c (g := (mkF m 1 #[vr sp, .val (.long y_), .second, .unset] [(.ref sp)])) rfl (by rw [hml]; rfl) (Steps.refl _) (argsL := []) (rest := []) (lenOf pd_2 rfl) rfl (by show 2 * 0 + _ ≤ _; exact Nat.le_of_eq rfl) (hb hby d9_1) (fun _ _ => ⟨rfl, e0, (by decide : 0 + 0 ≤ _), (by decide : 0 + 0 ≤ _)⟩)
  dsimp only [Pt.U, Pt.locs, Pt.cells, Pt.slots] at X1 l1 y1 z1 st1 hQ1
  replace l1 := l1.symm
  subst l1 y1 z1
  obtain ⟨rfl, rfl, e1⟩ := hQ1
  first | rw [List.append_nil] at X1 | skip
  refine Goes.tr st1 ?_
  have e1' : T1.heap = h0 := e1
  show Goes p e below _ (T1.setTop (mkF m 4 #[vr sp, .val (.long y_), .second, .unset] [(.int (dg * bp))]))
  refine Goes.via (fun _ kk_ => XS.istoreN X1.here hx rfl (hb hby d9_4) rfl (l' := #[vr sp, .val (.long y_), .second, vi (dg * bp)]) rfl kk_) ?_
  show Goes p e below _ (T1.setTop (mkF m 5 #[vr sp, .val (.long y_), .second, vi (dg * bp)] []))
  refine gILN X1 hx hby d9_5 rfl ?_
  refine gBI (z := 64) X1 hx hby d9_6 rfl ?_
  have hc8_2 : (dg * bp) < (64 : Int32) := (own_n64 HB HD1 HD8).2
  refine Goes.via (fun _ kk_ => XS.icmpYes X1.here hx rfl (pc0 := 8) (pc' := 15) rfl (hb hby d9_8) rfl (tlt hc8_2).1 (by decide) (by decide) kk_) ?_
  show Goes p e below _ (T1.setTop (mkF m 15 #[vr sp, .val (.long y_), .second, vi (dg * bp)] []))
  refine Goes.via (fun _ kk_ => XS.lloadN X1.here hx rfl (hb hby d9_15) rfl  kk_) ?_
  show Goes p e below _ (T1.setTop (mkF m 16 #[vr sp, .val (.long y_), .second, vi (dg * bp)] [(.long y_)]))
  refine Goes.via (fun _ kk_ => XS.lconst X1.here hx rfl (hb hby d9_16) kk_) ?_
  show Goes p e below _ (T1.setTop (mkF m 17 #[vr sp, .val (.long y_), .second, vi (dg * bp)] [(.long (1 : Int64)), (.long y_)]))
  refine gILN X1 hx hby d9_17 rfl ?_
  refine Goes.via (fun _ kk_ => XS.lshl X1.here hx rfl (hb hby d9_18) rfl kk_) ?_
  show Goes p e below _ (T1.setTop (mkF m 19 #[vr sp, .val (.long y_), .second, vi (dg * bp)] [(.long ((1 : Int64) <<< ((dg * bp) &&& 0x3f).toInt64)), (.long y_)]))
  refine Goes.via (fun _ kk_ => XS.lconst X1.here hx rfl (hb hby d9_19) kk_) ?_
  show Goes p e below _ (T1.setTop (mkF m 20 #[vr sp, .val (.long y_), .second, vi (dg * bp)] [(.long (1 : Int64)), (.long ((1 : Int64) <<< ((dg * bp) &&& 0x3f).toInt64)), (.long y_)]))
  refine Goes.via (fun _ kk_ => XS.lsub X1.here hx rfl (hb hby d9_20) rfl kk_) ?_
  show Goes p e below _ (T1.setTop (mkF m 21 #[vr sp, .val (.long y_), .second, vi (dg * bp)] [(.long (((1 : Int64) <<< ((dg * bp) &&& 0x3f).toInt64) - (1 : Int64))), (.long y_)]))
  refine Goes.via (fun _ kk_ => XS.land X1.here hx rfl (hb hby d9_21) rfl kk_) ?_
  show Goes p e below _ (T1.setTop (mkF m 22 #[vr sp, .val (.long y_), .second, vi (dg * bp)] [(.long (y_ &&& (((1 : Int64) <<< ((dg * bp) &&& 0x3f).toInt64) - (1 : Int64))))]))
  exact own_finJ X1 hx hlk hret (hb hby d9_22) (by rw [e1']; exact ⟨(own_retL HCut), rfl, rfl⟩) (by first | decide | omega | (dsimp only; omega)) (by first | decide | omega | (dsimp only; omega))
theorem ef_rm5 (m : MethodId) (a : Addr) (sp : Addr) (y_ : Int64) : entryFrame m #[(.ref a), (.ref sp), (.long (0 : Int64)), (.long y_)] 6 = mkF m 0 #[.val (.ref a), .val (.ref sp), .val (.long (0 : Int64)), .second, .val (.long y_), .second] [] := by first | (simp [entryFrame, mkF, argsToLocals, Value.category]; done) | rfl
def Qrm5 (Z : State) (a : Addr) (sp : Addr) (y_ : Int64) (x_ : Int32) (dg : Int32) (bp : Int32) (h0 : Heap) (n0 : Nat) (v_ : Option Value) (h_ : Heap) (L_ : List Loc) : Prop := v_ = none ∧ Fr n0 L_ ∧ Keep h0 h_ [a] ∧ Exa Z h_ a "nearhop/model/Id" ∧ Fld Z h_ a "nearhop/model/Id" "space" "Lnearhop/model/IdSpace;" (.ref sp) ∧ Fld Z h_ a "nearhop/model/Id" "high" "J" (.long (0 : Int64)) ∧ Fld Z h_ a "nearhop/model/Id" "low" "J" (.long y_)
theorem d5_0 : decode prog_77_method_1_code 0 = .ok (.aload_n 0, 1) := by decide +kernel
theorem d5_1 : decode prog_77_method_1_code 1 = .ok (.invokespecial 1, 3) := by decide +kernel
theorem d5_4 : decode prog_77_method_1_code 4 = .ok (.aload_n 0, 1) := by decide +kernel
theorem d5_5 : decode prog_77_method_1_code 5 = .ok (.aload_n 1, 1) := by decide +kernel
theorem d5_6 : decode prog_77_method_1_code 6 = .ok (.putfield 7, 3) := by decide +kernel
theorem d5_9 : decode prog_77_method_1_code 9 = .ok (.aload_n 0, 1) := by decide +kernel
theorem d5_10 : decode prog_77_method_1_code 10 = .ok (.aload_n 1, 1) := by decide +kernel
theorem d5_11 : decode prog_77_method_1_code 11 = .ok (.lload_n 2, 1) := by decide +kernel
theorem pd_3 : parseMethodDescriptor "(Lnearhop/model/IdSpace;J)J" = some ⟨[(.object "nearhop/model/IdSpace"), .long], some .long⟩ := by decide +kernel
theorem d5_12 : decode prog_77_method_1_code 12 = .ok (.invokestatic 13, 3) := by decide +kernel
abbrev mN_Id_cutHigh : MethodName := ⟨"nearhop/model/Id", "cutHigh", "(Lnearhop/model/IdSpace;J)J"⟩
theorem d5_15 : decode prog_77_method_1_code 15 = .ok (.putfield 17, 3) := by decide +kernel
theorem d5_18 : decode prog_77_method_1_code 18 = .ok (.aload_n 0, 1) := by decide +kernel
theorem d5_19 : decode prog_77_method_1_code 19 = .ok (.aload_n 1, 1) := by decide +kernel
theorem d5_20 : decode prog_77_method_1_code 20 = .ok (.lload 4, 2) := by decide +kernel
theorem d5_22 : decode prog_77_method_1_code 22 = .ok (.invokestatic 21, 3) := by decide +kernel
abbrev mN_Id_cutLow : MethodName := ⟨"nearhop/model/Id", "cutLow", "(Lnearhop/model/IdSpace;J)J"⟩
theorem d5_25 : decode prog_77_method_1_code 25 = .ok (.putfield 24, 3) := by decide +kernel
theorem d5_28 : decode prog_77_method_1_code 28 = .ok (.return_, 1) := by decide +kernel
set_option maxRecDepth 65536 in
set_option maxHeartbeats 40000000 in
theorem rm5 (l : Launch) (Z : State) (a0 : Array Value) (hw : ∀ d ∈ tables_1, d.before a0 Z = true) (ws : List Jvm.Cond) (a : Addr) (sp : Addr) (y_ : Int64) (x_ : Int32) (dg : Int32) (bp : Int32) (h0 : Heap) (n0 : Nat) (Z0 : n0 ≤ h0.size) (E0_a : Exa Z h0 a "nearhop/model/Id") (F1_a_space : Fld Z h0 a "nearhop/model/Id" "space" "Lnearhop/model/IdSpace;" .null) (F2_a_high : Fld Z h0 a "nearhop/model/Id" "high" "J" (.long (0 : Int64))) (F3_a_low : Fld Z h0 a "nearhop/model/Id" "low" "J" (.long (0 : Int64))) (H4 : n0 ≤ a) (E5_sp : Exa Z h0 sp "nearhop/model/IdSpace") (F6_sp_base : Fld Z h0 sp "nearhop/model/IdSpace" "base" "I" (.int x_)) (F7_sp_digits : Fld Z h0 sp "nearhop/model/IdSpace" "digits" "I" (.int dg)) (HB : own_bb x_ bp) (HD1 : 1 ≤ dg.toInt) (HD8 : dg.toInt ≤ 8) (HCut : (y_ &&& (((1 : Int64) <<< ((dg * bp) &&& 0x3f).toInt64) - (1 : Int64))) = y_) :
    MetFree l (⟨"nearhop/model/Id", "<init>", "(Lnearhop/model/IdSpace;JJ)V"⟩ : MethodName) (head1 (Jvm.Cond.code (⟨"nearhop/model/Id", "<init>", "(Lnearhop/model/IdSpace;JJ)V"⟩ : MethodName) prog_77_method_1_code 6 none :: ws) ({ frames := 4, cells := 0, slots := 0, locals := 56 } : Room)) (fun as_ U_ => as_ = #[(.ref a), (.ref sp), (.long (0 : Int64)), (.long y_)] ∧ Z.Warmed39 U_.vm ∧ U_.heap = h0) (fun _ _ _ _ _ => True) (fun _ U_ o_ V_ => ∃ v_ L_, o_ = .returned v_ ∧ Qrm5 Z a sp y_ x_ dg bp h0 n0 v_ V_.heap L_ ∧ FrameEnd U_ o_ V_ L_ ({ frames := 4, cells := 0, slots := 0, locals := 56 } : Room).cells ({ frames := 4, cells := 0, slots := 0, locals := 56 } : Room).slots) := by
  refine MetFree.of_bodySF (plainFor_of_name pn_nearhop_model_Id) hisR ?_
  intro p e s m args below meth c s₁ Bd hml0 hP hK
  obtain ⟨rfl, hZ, hh⟩ := hP
  have hx := Bd.exec
  have hby := Bd.bytes
  have hlk : meth.locks = false := BodyLoose.notSynchronized Bd
  have hret := Bd.returns
  have hml : c.maxLocals = 6 := hml0
  have hown : s.vm.findClass "nearhop/model/Id" = some m.cls := findClass_of_methodNamed Bd.named
  have hnm := (name_of_methodNamed Bd.named Bd.method).1
  have X0 : Stand p l e ({ frames := 4, cells := 0, slots := 0, locals := 56 } : Room) s m #[(.ref a), (.ref sp), (.long (0 : Int64)), (.long y_)] below meth c s₁ [] 0 0 := Stand.of_body Bd
  have e0 : s₁.heap = h0 := by rw [← hh, Bd.state]; rfl
  have N0 := Fr.nil n0
  show Goes p e below (Fin_ s (Qrm5 Z a sp y_ x_ dg bp h0 n0) ({ frames := 4, cells := 0, slots := 0, locals := 56 } : Room).cells ({ frames := 4, cells := 0, slots := 0, locals := 56 } : Room).slots) (s₁.setTop (entryFrame m #[(.ref a), (.ref sp), (.long (0 : Int64)), (.long y_)] 6))
  rw [ef_rm5 m a sp y_]
  have ne1 : a ≠ sp := ne_exa E0_a E5_sp (by decide)
  refine gALN X0 hx hby d5_0 rfl rfl ?_
  obtain ⟨T2, X2, e2, st2⟩ := initO X0 hx hZ hown (own_w hw 33 rfl) (own_w hw 13 rfl) (own_w hw 14 rfl) e0 (g := (mkF m 1 #[vr a, vr sp, .val (.long (0 : Int64)), .second, .val (.long y_), .second] [(.ref a)])) rfl (by rw [hml]; rfl) rfl (hb hby d5_1) (by decide) (W := 0) (by show 2 * 0 + _ ≤ _; exact Nat.le_of_eq rfl) (by decide)
  refine Goes.via st2 ?_
  show Goes p e below _ (T2.setTop (mkF m 4 #[vr a, vr sp, .val (.long (0 : Int64)), .second, .val (.long y_), .second] []))
  refine gALN X2 hx hby d5_4 rfl rfl ?_
  refine gALN X2 hx hby d5_5 rfl rfl ?_
  obtain ⟨T3, h3, X3, e3, W3, st3⟩ := putF X2 hx hZ hown (host := "") (Or.inl (own_w hw 34 rfl)) Via.refl e2 F1_a_space E0_a (Or.inr ⟨(own_w hw 35 rfl), rfl, hnm⟩) (own_w hw 28 rfl) (ty := (.object "nearhop/model/IdSpace")) (by decide) rfl rfl (g := (mkF m 6 #[vr a, vr sp, .val (.long (0 : Int64)), .second, .val (.long y_), .second] [(.ref sp), (.ref a)])) rfl rfl (hb hby d5_6)
  refine Goes.via st3 ?_
  have N3 := Fr.snoc X3 N0 H4
  have Fw3 : Fld Z h3 a "nearhop/model/Id" "space" "Lnearhop/model/IdSpace;" (.ref sp) := F1_a_space.same W3
  show Goes p e below _ (T3.setTop (mkF m 9 #[vr a, vr sp, .val (.long (0 : Int64)), .second, .val (.long y_), .second] []))
  refine gALN X3 hx hby d5_9 rfl rfl ?_
  refine gALN X3 hx hby d5_10 rfl rfl ?_
  refine Goes.via (fun _ kk_ => XS.lloadN X3.here hx rfl (hb hby d5_11) rfl  kk_) ?_
  show Goes p e below _ (T3.setTop (mkF m 12 #[vr a, vr sp, .val (.long (0 : Int64)), .second, .val (.long y_), .second] [(.long (0 : Int64)), (.ref sp), (.ref a)]))
  have f4 := (E5_sp.wr W3)
  have f5 := (F6_sp_base.other W3 (Or.inl (Ne.symm ne1)))
  have f6 := (F7_sp_digits.other W3 (Or.inl (Ne.symm ne1)))
  have z8 : h0.size ≤ (h3).size := (Nat.le_trans (Nat.le_refl _) (Nat.le_of_eq W3.size.symm))
  obtain ⟨_, _, ⟨T7, L7, k7, n7⟩, -, X7, ⟨Lc7, hQ7, l7, y7, z7⟩, st7⟩ := Jvm.LawKit.callS X3 hx (y := mN_Id_cutHigh) hown (mvT hZ (own_w hw 36 rfl)) (mvT hZ (own_w hw 37 rfl)) (mvT hZ (own_w hw 29 rfl)) (mvT hZ (own_w hw 38 rfl)) (by decide) (backOf (W := 1) (rm6 l Z a0 hw [] sp (0 : Int64) x_ dg bp h3 n0 (Nat.le_trans Z0 z8) f4 f5 f6 HB HD1 HD8) hZ (own_w hw 38 rfl) (own_w hw 29 rfl) (by decide) (by decide)) (g := (mkF m 12 #[vr a, vr sp, .val (.long (0 : Int64)), .second, .val (.long y_), .second] [(.long (0 : Int64)), (.ref sp), (.ref a)])) rfl (by rw [hml]; rfl) (argsL := [(.ref sp), (.long (0 : Int64))]) (rest := [(.ref a)]) (lenOf pd_3 rfl) rfl (by show 2 * 0 + _ ≤ _; exact Nat.le_of_eq rfl) (hb hby d5_12) (fun _ _ => ⟨rfl, e3, (by decide : 0 + 0 ≤ _), (by decide : 0 + 0 ≤ _)⟩)
  dsimp only [Pt.U, Pt.locs, Pt.cells, Pt.slots] at X7 l7 y7 z7 st7 hQ7
  replace l7 := l7.symm
  subst l7 y7 z7
  obtain ⟨rfl, rfl, e7⟩ := hQ7
  first | rw [List.append_nil] at X7 | skip
  refine Goes.via st7 ?_
  have e7' : T7.heap = h3 := e7
  show Goes p e below _ (T7.setTop (mkF m 15 #[vr a, vr sp, .val (.long (0 : Int64)), .second, .val (.long y_), .second] [(.long (0 : Int64)), (.ref a)]))
  have f9 := (F2_a_high.other W3 (Or.inr (slot_ne (Or.inr (own_w hw 50 rfl)) (Or.inr (own_w hw 35 rfl)) (by decide) (t := .long) (t' := (.object "nearhop/model/IdSpace")) (by decide) (by decide))))
  have f10 := (E0_a.wr W3)
  obtain ⟨T11, h11, X11, e11, W11, st11⟩ := putF X7 hx hZ hown (host := "") (Or.inl (own_w hw 49 rfl)) Via.refl e7' f9 f10 (Or.inr ⟨(own_w hw 50 rfl), rfl, hnm⟩) (own_w hw 28 rfl) (ty := .long) (by decide) rfl rfl (g := (mkF m 15 #[vr a, vr sp, .val (.long (0 : Int64)), .second, .val (.long y_), .second] [(.long (0 : Int64)), (.ref a)])) rfl rfl (hb hby d5_15)
  refine Goes.via st11 ?_
  have N11 := Fr.snoc X11 N3 H4
  have Fw11 : Fld Z h11 a "nearhop/model/Id" "high" "J" (.long (0 : Int64)) := f9.same W11
  show Goes p e below _ (T11.setTop (mkF m 18 #[vr a, vr sp, .val (.long (0 : Int64)), .second, .val (.long y_), .second] []))
  refine gALN X11 hx hby d5_18 rfl rfl ?_
  refine gALN X11 hx hby d5_19 rfl rfl ?_
  refine Goes.via (fun _ kk_ => XS.lload X11.here hx rfl (hb hby d5_20) rfl  kk_) ?_
  show Goes p e below _ (T11.setTop (mkF m 22 #[vr a, vr sp, .val (.long (0 : Int64)), .second, .val (.long y_), .second] [(.long y_), (.ref sp), (.ref a)]))
  have f12 := (f4.wr W11)
  have f13 := (f5.other W11 (Or.inl (Ne.symm ne1)))
  have f14 := (f6.other W11 (Or.inl (Ne.symm ne1)))
  have z16 : h0.size ≤ (h11).size := (Nat.le_trans z8 (Nat.le_of_eq W11.size.symm))
  obtain ⟨_, _, ⟨T15, L15, k15, n15⟩, -, X15, ⟨Lc15, hQ15, l15, y15, z15⟩, st15⟩ := Jvm.LawKit.callS X11 hx (y := mN_Id_cutLow) hown (mvT hZ (own_w hw 51 rfl)) (mvT hZ (own_w hw 52 rfl)) (mvT hZ (own_w hw 29 rfl)) (mvT hZ (own_w hw 53 rfl)) (by decide) (backOf (W := 1) (rm9 l Z a0 hw [] sp y_ x_ dg bp h11 n0 (Nat.le_trans Z0 z16) f12 f13 f14 HB HD1 HD8 HCut) hZ (own_w hw 53 rfl) (own_w hw 29 rfl) (by decide) (by decide)) (g := (mkF m 22 #[vr a, vr sp, .val (.long (0 : Int64)), .second, .val (.long y_), .second] [(.long y_), (.ref sp), (.ref a)])) rfl (by rw [hml]; rfl) (argsL := [(.ref sp), (.long y_)]) (rest := [(.ref a)]) (lenOf pd_3 rfl) rfl (by show 2 * 0 + _ ≤ _; exact Nat.le_of_eq rfl) (hb hby d5_22) (fun _ _ => ⟨rfl, e11, (by decide : 0 + 0 ≤ _), (by decide : 0 + 0 ≤ _)⟩)
  dsimp only [Pt.U, Pt.locs, Pt.cells, Pt.slots] at X15 l15 y15 z15 st15 hQ15
  replace l15 := l15.symm
  subst l15 y15 z15
  obtain ⟨rfl, rfl, e15⟩ := hQ15
  first | rw [List.append_nil] at X15 | skip
  refine Goes.via st15 ?_
  have e15' : T15.heap = h11 := e15
  show Goes p e below _ (T15.setTop (mkF m 25 #[vr a, vr sp, .val (.long (0 : Int64)), .second, .val (.long y_), .second] [(.long y_), (.ref a)]))
  have f17 := ((F3_a_low.other W3 (Or.inr (slot_ne (Or.inr (own_w hw 55 rfl)) (Or.inr (own_w hw 35 rfl)) (by decide) (t := .long) (t' := (.object "nearhop/model/IdSpace")) (by decide) (by decide)))).other W11 (Or.inr (slot_ne (Or.inr (own_w hw 55 rfl)) (Or.inr (own_w hw 50 rfl)) (by decide) (t := .long) (t' := .long) (by decide) (by decide))))
  have f18 := (f10.wr W11)
  obtain ⟨T19, h19, X19, e19, W19, st19⟩ := putF X15 hx hZ hown (host := "") (Or.inl (own_w hw 54 rfl)) Via.refl e15' f17 f18 (Or.inr ⟨(own_w hw 55 rfl), rfl, hnm⟩) (own_w hw 28 rfl) (ty := .long) (by decide) rfl rfl (g := (mkF m 25 #[vr a, vr sp, .val (.long (0 : Int64)), .second, .val (.long y_), .second] [(.long y_), (.ref a)])) rfl rfl (hb hby d5_25)
  refine Goes.via st19 ?_
  have N19 := Fr.snoc X19 N11 H4
  have Fw19 : Fld Z h19 a "nearhop/model/Id" "low" "J" (.long y_) := f17.same W19
  show Goes p e below _ (T19.setTop (mkF m 28 #[vr a, vr sp, .val (.long (0 : Int64)), .second, .val (.long y_), .second] []))
  have K20 : Keep h0 h19 [a] := ((((Keep.refl h0 [a]).wr W3 (Or.inl (List.mem_of_getElem? (i := 0) rfl))).wr W11 (Or.inl (List.mem_of_getElem? (i := 0) rfl))).wr W19 (Or.inl (List.mem_of_getElem? (i := 0) rfl)))
  have f21 := (f18.wr W19)
  have f22 := ((Fw3.other W11 (Or.inr (slot_ne (Or.inr (own_w hw 35 rfl)) (Or.inr (own_w hw 50 rfl)) (by decide) (t := (.object "nearhop/model/IdSpace")) (t' := .long) (by decide) (by decide)))).other W19 (Or.inr (slot_ne (Or.inr (own_w hw 35 rfl)) (Or.inr (own_w hw 55 rfl)) (by decide) (t := (.object "nearhop/model/IdSpace")) (t' := .long) (by decide) (by decide))))
  have f23 := (Fw11.other W19 (Or.inr (slot_ne (Or.inr (own_w hw 50 rfl)) (Or.inr (own_w hw 55 rfl)) (by decide) (t := .long) (t' := .long) (by decide) (by decide))))
  exact own_finV X19 hx hlk hret (hb hby d5_28) (by rw [e19]; exact ⟨rfl, N19, K20, f21, f22, f23, Fw19⟩) (by first | decide | omega | (dsimp only; omega)) (by first | decide | omega | (dsimp only; omega))
theorem ef_rm14 (m : MethodId) (a : Addr) : entryFrame m #[(.ref a)] 1 = mkF m 0 #[.val (.ref a)] [] := by first | (simp [entryFrame, mkF, argsToLocals, Value.category]; done) | rfl
def Qrm14 (Z : State) (a : Addr) (sp : Addr) (h0 : Heap) (n0 : Nat) (v_ : Option Value) (h_ : Heap) (L_ : List Loc) : Prop := v_ = some (.ref sp) ∧ L_ = [] ∧ h_ = h0
theorem d14_0 : decode prog_77_method_4_code 0 = .ok (.aload_n 0, 1) := by decide +kernel
theorem d14_1 : decode prog_77_method_4_code 1 = .ok (.getfield 7, 3) := by decide +kernel
theorem d14_4 : decode prog_77_method_4_code 4 = .ok (.areturn, 1) := by decide +kernel
set_option maxRecDepth 65536 in
set_option maxHeartbeats 40000000 in
theorem rm14 (l : Launch) (Z : State) (a0 : Array Value) (hw : ∀ d ∈ tables_1, d.before a0 Z = true) (ws : List Jvm.Cond) (a : Addr) (sp : Addr) (h0 : Heap) (n0 : Nat) (Z0 : n0 ≤ h0.size) (F0_a_space : Fld Z h0 a "nearhop/model/Id" "space" "Lnearhop/model/IdSpace;" (.ref sp)) :
    MetFree l (⟨"nearhop/model/Id", "space", "()Lnearhop/model/IdSpace;"⟩ : MethodName) (head1 (Jvm.Cond.code (⟨"nearhop/model/Id", "space", "()Lnearhop/model/IdSpace;"⟩ : MethodName) prog_77_method_4_code 1 (some (.object "nearhop/model/IdSpace")) :: ws) ({ frames := 0, cells := 0, slots := 0, locals := 0 } : Room)) (fun as_ U_ => as_ = #[(.ref a)] ∧ Z.Warmed39 U_.vm ∧ U_.heap = h0) (fun _ _ _ _ _ => True) (fun _ U_ o_ V_ => ∃ v_ L_, o_ = .returned v_ ∧ Qrm14 Z a sp h0 n0 v_ V_.heap L_ ∧ FrameEnd U_ o_ V_ L_ ({ frames := 0, cells := 0, slots := 0, locals := 0 } : Room).cells ({ frames := 0, cells := 0, slots := 0, locals := 0 } : Room).slots) := by
  refine MetFree.of_bodySF (plainFor_of_name pn_nearhop_model_Id) hisR ?_
  intro p e s m args below meth c s₁ Bd hml0 hP hK
  obtain ⟨rfl, hZ, hh⟩ := hP
  have hx := Bd.exec
  have hby := Bd.bytes
  have hlk : meth.locks = false := BodyLoose.notSynchronized Bd
  have hret := Bd.returns
  have hml : c.maxLocals = 1 := hml0
  have hown : s.vm.findClass "nearhop/model/Id" = some m.cls := findClass_of_methodNamed Bd.named
  have hnm := (name_of_methodNamed Bd.named Bd.method).1
  have X0 : Stand p l e ({ frames := 0, cells := 0, slots := 0, locals := 0 } : Room) s m #[(.ref a)] below meth c s₁ [] 0 0 := Stand.of_body Bd
  have e0 : s₁.heap = h0 := by rw [← hh, Bd.state]; rfl
  have N0 := Fr.nil n0
  show Goes p e below (Fin_ s (Qrm14 Z a sp h0 n0) ({ frames := 0, cells := 0, slots := 0, locals := 0 } : Room).cells ({ frames := 0, cells := 0, slots := 0, locals := 0 } : Room).slots) (s₁.setTop (entryFrame m #[(.ref a)] 1))
  rw [ef_rm14 m a]
  refine gALN X0 hx hby d14_0 rfl rfl ?_
  obtain ⟨T1, X1, e1, st1⟩ := getF X0 hx hZ hown (host := "") (Or.inl (own_w hw 34 rfl)) Via.refl e0 F0_a_space (g := (mkF m 1 #[vr a] [(.ref a)])) rfl rfl (hb hby d14_1)
  refine Goes.via st1 ?_
  show Goes p e below _ (T1.setTop (mkF m 4 #[vr a] [(.ref sp)]))
  exact own_finR X1 hx hlk hret rfl rfl rfl (hb hby d14_4) (by rw [e1]; exact ⟨rfl, rfl, rfl⟩) (by first | decide | omega | (dsimp only; omega)) (by first | decide | omega | (dsimp only; omega))
theorem ef_rmEq (m : MethodId) (a : Addr) (b : Addr) : entryFrame m #[(.ref a), (.ref b)] 3 = mkF m 0 #[.val (.ref a), .val (.ref b), .unset] [] := by first | (simp [entryFrame, mkF, argsToLocals, Value.category]; done) | rfl
def QrmEq (Z : State) (a : Addr) (b : Addr) (sp : Addr) (w_ : Int64) (y_ : Int64) (h0 : Heap) (n0 : Nat) (v_ : Option Value) (h_ : Heap) (L_ : List Loc) : Prop := v_ = some (.int (if w_ = y_ then (1 : Int32) else (0 : Int32))) ∧ L_ = [] ∧ h_ = h0
theorem d17_0 : decode prog_77_method_18_code 0 = .ok (.aload_n 0, 1) := by decide +kernel
theorem d17_1 : decode prog_77_method_18_code 1 = .ok (.aload_n 1, 1) := by decide +kernel
theorem d17_2 : decode prog_77_method_18_code 2 = .ok (.if_acmp .eq 64, 3) := by decide +kernel
theorem d17_5 : decode prog_77_method_18_code 5 = .ok (.aload_n 1, 1) := by decide +kernel
theorem d17_6 : decode prog_77_method_18_code 6 = .ok (.instanceof 8, 3) := by decide +kernel
theorem d17_9 : decode prog_77_method_18_code 9 = .ok (.ifCond .eq 61, 3) := by decide +kernel
theorem d17_12 : decode prog_77_method_18_code 12 = .ok (.aload_n 1, 1) := by decide +kernel
theorem d17_13 : decode prog_77_method_18_code 13 = .ok (.checkcast 8, 3) := by decide +kernel
theorem d17_16 : decode prog_77_method_18_code 16 = .ok (.astore_n 2, 1) := by decide +kernel
theorem d17_17 : decode prog_77_method_18_code 17 = .ok (.aload_n 0, 1) := by decide +kernel
theorem d17_18 : decode prog_77_method_18_code 18 = .ok (.getfield 17, 3) := by decide +kernel
theorem d17_21 : decode prog_77_method_18_code 21 = .ok (.aload_n 2, 1) := by decide +kernel
theorem d17_22 : decode prog_77_method_18_code 22 = .ok (.getfield 17, 3) := by decide +kernel
theorem d17_25 : decode prog_77_method_18_code 25 = .ok (.lcmp, 1) := by decide +kernel
theorem d17_26 : decode prog_77_method_18_code 26 = .ok (.ifCond .ne 44, 3) := by decide +kernel
theorem d17_29 : decode prog_77_method_18_code 29 = .ok (.aload_n 0, 1) := by decide +kernel
theorem d17_30 : decode prog_77_method_18_code 30 = .ok (.getfield 24, 3) := by decide +kernel
theorem d17_33 : decode prog_77_method_18_code 33 = .ok (.aload_n 2, 1) := by decide +kernel
theorem d17_34 : decode prog_77_method_18_code 34 = .ok (.getfield 24, 3) := by decide +kernel
theorem d17_37 : decode prog_77_method_18_code 37 = .ok (.lcmp, 1) := by decide +kernel
theorem d17_38 : decode prog_77_method_18_code 38 = .ok (.ifCond .ne 32, 3) := by decide +kernel
theorem d17_41 : decode prog_77_method_18_code 41 = .ok (.aload_n 0, 1) := by decide +kernel
theorem d17_42 : decode prog_77_method_18_code 42 = .ok (.getfield 7, 3) := by decide +kernel
theorem d17_45 : decode prog_77_method_18_code 45 = .ok (.aload_n 2, 1) := by decide +kernel
theorem d17_46 : decode prog_77_method_18_code 46 = .ok (.getfield 7, 3) := by decide +kernel
theorem d17_49 : decode prog_77_method_18_code 49 = .ok (.if_acmp .eq 17, 3) := by decide +kernel
theorem d17_66 : decode prog_77_method_18_code 66 = .ok (.iconst 1, 1) := by decide +kernel
theorem d17_67 : decode prog_77_method_18_code 67 = .ok (.goto 4, 3) := by decide +kernel
theorem d17_71 : decode prog_77_method_18_code 71 = .ok (.ireturn, 1) := by decide +kernel
theorem d17_70 : decode prog_77_method_18_code 70 = .ok (.iconst 0, 1) := by decide +kernel
set_option maxRecDepth 65536 in
set_option maxHeartbeats 40000000 in
theorem rmEq (l : Launch) (Z : State) (a0 : Array Value) (hw : ∀ d ∈ tables_1, d.before a0 Z = true) (ws : List Jvm.Cond) (a : Addr) (b : Addr) (sp : Addr) (w_ : Int64) (y_ : Int64) (h0 : Heap) (n0 : Nat) (Z0 : n0 ≤ h0.size) (HNE : a ≠ b) (E1_b : Exa Z h0 b "nearhop/model/Id") (F2_a_space : Fld Z h0 a "nearhop/model/Id" "space" "Lnearhop/model/IdSpace;" (.ref sp)) (F3_a_high : Fld Z h0 a "nearhop/model/Id" "high" "J" (.long (0 : Int64))) (F4_a_low : Fld Z h0 a "nearhop/model/Id" "low" "J" (.long w_)) (F5_b_space : Fld Z h0 b "nearhop/model/Id" "space" "Lnearhop/model/IdSpace;" (.ref sp)) (F6_b_high : Fld Z h0 b "nearhop/model/Id" "high" "J" (.long (0 : Int64))) (F7_b_low : Fld Z h0 b "nearhop/model/Id" "low" "J" (.long y_)) :
    MetFree l (⟨"nearhop/model/Id", "equals", "(Ljava/lang/Object;)Z"⟩ : MethodName) (head1 (Jvm.Cond.code (⟨"nearhop/model/Id", "equals", "(Ljava/lang/Object;)Z"⟩ : MethodName) prog_77_method_18_code 3 (some .boolean) :: ws) ({ frames := 0, cells := 0, slots := 0, locals := 0 } : Room)) (fun as_ U_ => as_ = #[(.ref a), (.ref b)] ∧ Z.Warmed39 U_.vm ∧ U_.heap = h0) (fun _ _ _ _ _ => True) (fun _ U_ o_ V_ => ∃ v_ L_, o_ = .returned v_ ∧ QrmEq Z a b sp w_ y_ h0 n0 v_ V_.heap L_ ∧ FrameEnd U_ o_ V_ L_ ({ frames := 0, cells := 0, slots := 0, locals := 0 } : Room).cells ({ frames := 0, cells := 0, slots := 0, locals := 0 } : Room).slots) := by
  refine MetFree.of_bodySF (plainFor_of_name pn_nearhop_model_Id) hisR ?_
  intro p e s m args below meth c s₁ Bd hml0 hP hK
  obtain ⟨rfl, hZ, hh⟩ := hP
  have hx := Bd.exec
  have hby := Bd.bytes
  have hlk : meth.locks = false := BodyLoose.notSynchronized Bd
  have hret := Bd.returns
  have hml : c.maxLocals = 3 := hml0
  have hown : s.vm.findClass "nearhop/model/Id" = some m.cls := findClass_of_methodNamed Bd.named
  have hnm := (name_of_methodNamed Bd.named Bd.method).1
  have X0 : Stand p l e ({ frames := 0, cells := 0, slots := 0, locals := 0 } : Room) s m #[(.ref a), (.ref b)] below meth c s₁ [] 0 0 := Stand.of_body Bd
  have e0 : s₁.heap = h0 := by rw [← hh, Bd.state]; rfl
  have N0 := Fr.nil n0
  show Goes p e below (Fin_ s (QrmEq Z a b sp w_ y_ h0 n0) ({ frames := 0, cells := 0, slots := 0, locals := 0 } : Room).cells ({ frames := 0, cells := 0, slots := 0, locals := 0 } : Room).slots) (s₁.setTop (entryFrame m #[(.ref a), (.ref b)] 3))
  rw [ef_rmEq m a b]
  refine gALN X0 hx hby d17_0 rfl rfl ?_
  refine gALN X0 hx hby d17_1 rfl rfl ?_
  refine Goes.via (fun _ kk_ => Jvm.RoadKit.acmp (g := (mkF m 2 #[vr a, vr b, .unset] [(.ref b), (.ref a)])) X0 hx rfl rfl rfl (pc0 := 2) (pc' := 5) (same := false) rfl (hb hby d17_2) rfl (decide_eq_false fun q => HNE (Value.ref.inj q)) (by decide) (by decide) kk_) ?_
  show Goes p e below _ (s₁.setTop (mkF m 5 #[vr a, vr b, .unset] []))
  refine gALN X0 hx hby d17_5 rfl rfl ?_
  obtain ⟨T1, X1, e1, st1⟩ := instY X0 hx hZ hown (own_w hw 111 rfl) e0 (Ins.self E1_b) (g := (mkF m 6 #[vr a, vr b, .unset] [(.ref b)])) rfl rfl (hb hby d17_6)
  refine Goes.via st1 ?_
  show Goes p e below _ (T1.setTop (mkF m 9 #[vr a, vr b, .unset] [(.int (1 : Int32))]))
  have hc9_2 : ¬ ((1 : Int32) = (0 : Int32)) := (by decide)
  refine Goes.via (fun _ kk_ => XS.ifNo X1.here hx rfl (hb hby d17_9) rfl ((if0 _ _).trans (feq hc9_2).1) kk_) ?_
  show Goes p e below _ (T1.setTop (mkF m 12 #[vr a, vr b, .unset] []))
  refine gALN X1 hx hby d17_12 rfl rfl ?_
  obtain ⟨T3, X3, e3, st3⟩ := castY X1 hx hZ hown (own_w hw 111 rfl) e1 (Ins.self E1_b) (g := (mkF m 13 #[vr a, vr b, .unset] [(.ref b)])) rfl rfl (hb hby d17_13)
  refine Goes.via st3 ?_
  show Goes p e below _ (T3.setTop (mkF m 16 #[vr a, vr b, .unset] [(.ref b)]))
  refine Goes.via (fun _ kk_ => XS.astoreN X3.here hx rfl (hb hby d17_16) rfl rfl (l' := #[vr a, vr b, vr b]) rfl kk_) ?_
  show Goes p e below _ (T3.setTop (mkF m 17 #[vr a, vr b, vr b] []))
  refine gALN X3 hx hby d17_17 rfl rfl ?_
  obtain ⟨T4, X4, e4, st4⟩ := getF X3 hx hZ hown (host := "") (Or.inl (own_w hw 49 rfl)) Via.refl e3 F3_a_high (g := (mkF m 18 #[vr a, vr b, vr b] [(.ref a)])) rfl rfl (hb hby d17_18)
  refine Goes.via st4 ?_
  show Goes p e below _ (T4.setTop (mkF m 21 #[vr a, vr b, vr b] [(.long (0 : Int64))]))
  refine gALN X4 hx hby d17_21 rfl rfl ?_
  obtain ⟨T5, X5, e5, st5⟩ := getF X4 hx hZ hown (host := "") (Or.inl (own_w hw 49 rfl)) Via.refl e4 F6_b_high (g := (mkF m 22 #[vr a, vr b, vr b] [(.ref b), (.long (0 : Int64))])) rfl rfl (hb hby d17_22)
  refine Goes.via st5 ?_
  show Goes p e below _ (T5.setTop (mkF m 25 #[vr a, vr b, vr b] [(.long (0 : Int64)), (.long (0 : Int64))]))
  refine Goes.via (fun _ kk_ => XS.lcmp X5.here hx rfl (hb hby d17_25) rfl kk_) ?_
  show Goes p e below _ (T5.setTop (mkF m 26 #[vr a, vr b, vr b] [(.int (lcmpW (0 : Int64) (0 : Int64)))]))
  have hc26_6 : (0 : Int64) = (0 : Int64) := rfl
  refine Goes.via (fun _ kk_ => XS.ifNo X5.here hx rfl (hb hby d17_26) rfl ((if0 _ _).trans (teq ((lw_eq (0 : Int64) (0 : Int64)).mpr hc26_6)).2) kk_) ?_
  show Goes p e below _ (T5.setTop (mkF m 29 #[vr a, vr b, vr b] []))
  refine gALN X5 hx hby d17_29 rfl rfl ?_
  obtain ⟨T7, X7, e7, st7⟩ := getF X5 hx hZ hown (host := "") (Or.inl (own_w hw 54 rfl)) Via.refl e5 F4_a_low (g := (mkF m 30 #[vr a, vr b, vr b] [(.ref a)])) rfl rfl (hb hby d17_30)
  refine Goes.via st7 ?_
  show Goes p e below _ (T7.setTop (mkF m 33 #[vr a, vr b, vr b] [(.long w_)]))
  refine gALN X7 hx hby d17_33 rfl rfl ?_
  obtain ⟨T8, X8, e8, st8⟩ := getF X7 hx hZ hown (host := "") (Or.inl (own_w hw 54 rfl)) Via.refl e7 F7_b_low (g := (mkF m 34 #[vr a, vr b, vr b] [(.ref b), (.long w_)])) rfl rfl (hb hby d17_34)
  refine Goes.via st8 ?_
  show Goes p e below _ (T8.setTop (mkF m 37 #[vr a, vr b, vr b] [(.long y_), (.long w_)]))
  refine Goes.via (fun _ kk_ => XS.lcmp X8.here hx rfl (hb hby d17_37) rfl kk_) ?_
  show Goes p e below _ (T8.setTop (mkF m 38 #[vr a, vr b, vr b] [(.int (lcmpW w_ y_))]))
  by_cases hc38 : w_ = y_
  · skip
    refine Goes.via (fun _ kk_ => XS.ifNo X8.here hx rfl (hb hby d17_38) rfl ((if0 _ _).trans (teq ((lw_eq w_ y_).mpr hc38)).2) kk_) ?_
    show Goes p e below _ (T8.setTop (mkF m 41 #[vr a, vr b, vr b] []))
    refine gALN X8 hx hby d17_41 rfl rfl ?_
    obtain ⟨T9, X9, e9, st9⟩ := getF X8 hx hZ hown (host := "") (Or.inl (own_w hw 34 rfl)) Via.refl e8 F2_a_space (g := (mkF m 42 #[vr a, vr b, vr b] [(.ref a)])) rfl rfl (hb hby d17_42)
    refine Goes.via st9 ?_
    show Goes p e below _ (T9.setTop (mkF m 45 #[vr a, vr b, vr b] [(.ref sp)]))
    refine gALN X9 hx hby d17_45 rfl rfl ?_
    obtain ⟨T10, X10, e10, st10⟩ := getF X9 hx hZ hown (host := "") (Or.inl (own_w hw 34 rfl)) Via.refl e9 F5_b_space (g := (mkF m 46 #[vr a, vr b, vr b] [(.ref b), (.ref sp)])) rfl rfl (hb hby d17_46)
    refine Goes.via st10 ?_
    show Goes p e below _ (T10.setTop (mkF m 49 #[vr a, vr b, vr b] [(.ref sp), (.ref sp)]))
    refine Goes.via (fun _ kk_ => Jvm.RoadKit.acmp (g := (mkF m 49 #[vr a, vr b, vr b] [(.ref sp), (.ref sp)])) X10 hx rfl rfl rfl (pc0 := 49) (pc' := 66) (same := true) rfl (hb hby d17_49) rfl (decide_eq_true rfl) (by decide) (by decide) kk_) ?_
    show Goes p e below _ (T10.setTop (mkF m 66 #[vr a, vr b, vr b] []))
    refine gIC (z := 1) X10 hx hby d17_66 rfl ?_
    refine Goes.via (fun _ kk_ => XS.goto X10.here hx rfl (pc0 := 67) (pc' := 71) rfl (hb hby d17_67) (by decide) (by decide) kk_) ?_
    show Goes p e below _ (T10.setTop (mkF m 71 #[vr a, vr b, vr b] [(.int (1 : Int32))]))
    exact own_finN X10 hx hlk hret (by simp) (hb hby d17_71) (by rw [e10]; exact ⟨(by rw [if_pos hc38]; rfl), rfl, rfl⟩) (by first | decide | omega | (dsimp only; omega)) (by first | decide | omega | (dsimp only; omega))
  · skip
    refine Goes.via (fun _ kk_ => XS.ifYes X8.here hx rfl (pc0 := 38) (pc' := 70) rfl (hb hby d17_38) rfl ((if0 _ _).trans (feq (fun q => hc38 ((lw_eq w_ y_).mp q))).2) (by decide) (by decide) kk_) ?_
    show Goes p e below _ (T8.setTop (mkF m 70 #[vr a, vr b, vr b] []))
    refine gIC (z := 0) X8 hx hby d17_70 rfl ?_
    exact own_finN X8 hx hlk hret (by simp) (hb hby d17_71) (by rw [e8]; exact ⟨(by rw [if_neg hc38]; rfl), rfl, rfl⟩) (by first | decide | omega | (dsimp only; omega)) (by first | decide | omega | (dsimp only; omega))
def own_nlzI (x_ : Int32) : Int32 := (if (0 : Int32) < x_ then (if x_ < (65536 : Int32) then (if x_ < (256 : Int32) then (if x_ < (16 : Int32) then (if x_ < (4 : Int32) then ((31 : Int32) - ((x_.toUInt32 >>> ((1 : Int32) &&& 31).toUInt32).toInt32)) else ((29 : Int32) - ((((x_.toUInt32 >>> ((2 : Int32) &&& 31).toUInt32).toInt32).toUInt32 >>> ((1 : Int32) &&& 31).toUInt32).toInt32))) else (if ((x_.toUInt32 >>> ((4 : Int32) &&& 31).toUInt32).toInt32) < (4 : Int32) then ((27 : Int32) - ((((x_.toUInt32 >>> ((4 : Int32) &&& 31).toUInt32).toInt32).toUInt32 >>> ((1 : Int32) &&& 31).toUInt32).toInt32)) else ((25 : Int32) - ((((((x_.toUInt32 >>> ((4 : Int32) &&& 31).toUInt32).toInt32).toUInt32 >>> ((2 : Int32) &&& 31).toUInt32).toInt32).toUInt32 >>> ((1 : Int32) &&& 31).toUInt32).toInt32)))) else (if ((x_.toUInt32 >>> ((8 : Int32) &&& 31).toUInt32).toInt32) < (16 : Int32) then (if ((x_.toUInt32 >>> ((8 : Int32) &&& 31).toUInt32).toInt32) < (4 : Int32) then ((23 : Int32) - ((((x_.toUInt32 >>> ((8 : Int32) &&& 31).toUInt32).toInt32).toUInt32 >>> ((1 : Int32) &&& 31).toUInt32).toInt32)) else ((21 : Int32) - ((((((x_.toUInt32 >>> ((8 : Int32) &&& 31).toUInt32).toInt32).toUInt32 >>> ((2 : Int32) &&& 31).toUInt32).toInt32).toUInt32 >>> ((1 : Int32) &&& 31).toUInt32).toInt32))) else (if ((((x_.toUInt32 >>> ((8 : Int32) &&& 31).toUInt32).toInt32).toUInt32 >>> ((4 : Int32) &&& 31).toUInt32).toInt32) < (4 : Int32) then ((19 : Int32) - ((((((x_.toUInt32 >>> ((8 : Int32) &&& 31).toUInt32).toInt32).toUInt32 >>> ((4 : Int32) &&& 31).toUInt32).toInt32).toUInt32 >>> ((1 : Int32) &&& 31).toUInt32).toInt32)) else ((17 : Int32) - ((((((((x_.toUInt32 >>> ((8 : Int32) &&& 31).toUInt32).toInt32).toUInt32 >>> ((4 : Int32) &&& 31).toUInt32).toInt32).toUInt32 >>> ((2 : Int32) &&& 31).toUInt32).toInt32).toUInt32 >>> ((1 : Int32) &&& 31).toUInt32).toInt32))))) else (if ((x_.toUInt32 >>> ((16 : Int32) &&& 31).toUInt32).toInt32) < (256 : Int32) then (if ((x_.toUInt32 >>> ((16 : Int32) &&& 31).toUInt32).toInt32) < (16 : Int32) then (if ((x_.toUInt32 >>> ((16 : Int32) &&& 31).toUInt32).toInt32) < (4 : Int32) then ((15 : Int32) - ((((x_.toUInt32 >>> ((16 : Int32) &&& 31).toUInt32).toInt32).toUInt32 >>> ((1 : Int32) &&& 31).toUInt32).toInt32)) else ((13 : Int32) - ((((((x_.toUInt32 >>> ((16 : Int32) &&& 31).toUInt32).toInt32).toUInt32 >>> ((2 : Int32) &&& 31).toUInt32).toInt32).toUInt32 >>> ((1 : Int32) &&& 31).toUInt32).toInt32))) else (if ((((x_.toUInt32 >>> ((16 : Int32) &&& 31).toUInt32).toInt32).toUInt32 >>> ((4 : Int32) &&& 31).toUInt32).toInt32) < (4 : Int32) then ((11 : Int32) - ((((((x_.toUInt32 >>> ((16 : Int32) &&& 31).toUInt32).toInt32).toUInt32 >>> ((4 : Int32) &&& 31).toUInt32).toInt32).toUInt32 >>> ((1 : Int32) &&& 31).toUInt32).toInt32)) else ((9 : Int32) - ((((((((x_.toUInt32 >>> ((16 : Int32) &&& 31).toUInt32).toInt32).toUInt32 >>> ((4 : Int32) &&& 31).toUInt32).toInt32).toUInt32 >>> ((2 : Int32) &&& 31).toUInt32).toInt32).toUInt32 >>> ((1 : Int32) &&& 31).toUInt32).toInt32)))) else (if ((((x_.toUInt32 >>> ((16 : Int32) &&& 31).toUInt32).toInt32).toUInt32 >>> ((8 : Int32) &&& 31).toUInt32).toInt32) < (16 : Int32) then (if ((((x_.toUInt32 >>> ((16 : Int32) &&& 31).toUInt32).toInt32).toUInt32 >>> ((8 : Int32) &&& 31).toUInt32).toInt32) < (4 : Int32) then ((7 : Int32) - ((((((x_.toUInt32 >>> ((16 : Int32) &&& 31).toUInt32).toInt32).toUInt32 >>> ((8 : Int32) &&& 31).toUInt32).toInt32).toUInt32 >>> ((1 : Int32) &&& 31).toUInt32).toInt32)) else ((5 : Int32) - ((((((((x_.toUInt32 >>> ((16 : Int32) &&& 31).toUInt32).toInt32).toUInt32 >>> ((8 : Int32) &&& 31).toUInt32).toInt32).toUInt32 >>> ((2 : Int32) &&& 31).toUInt32).toInt32).toUInt32 >>> ((1 : Int32) &&& 31).toUInt32).toInt32))) else (if ((((((x_.toUInt32 >>> ((16 : Int32) &&& 31).toUInt32).toInt32).toUInt32 >>> ((8 : Int32) &&& 31).toUInt32).toInt32).toUInt32 >>> ((4 : Int32) &&& 31).toUInt32).toInt32) < (4 : Int32) then ((3 : Int32) - ((((((((x_.toUInt32 >>> ((16 : Int32) &&& 31).toUInt32).toInt32).toUInt32 >>> ((8 : Int32) &&& 31).toUInt32).toInt32).toUInt32 >>> ((4 : Int32) &&& 31).toUInt32).toInt32).toUInt32 >>> ((1 : Int32) &&& 31).toUInt32).toInt32)) else ((1 : Int32) - ((((((((((x_.toUInt32 >>> ((16 : Int32) &&& 31).toUInt32).toInt32).toUInt32 >>> ((8 : Int32) &&& 31).toUInt32).toInt32).toUInt32 >>> ((4 : Int32) &&& 31).toUInt32).toInt32).toUInt32 >>> ((2 : Int32) &&& 31).toUInt32).toInt32).toUInt32 >>> ((1 : Int32) &&& 31).toUInt32).toInt32)))))) else (if x_ = (0 : Int32) then (32 : Int32) else (0 : Int32)))
theorem ef_rm21 (m : MethodId) (x_ : Int32) : entryFrame m #[(.int x_)] 2 = mkF m 0 #[.val (.int x_), .unset] [] := by first | (simp [entryFrame, mkF, argsToLocals, Value.category]; done) | rfl
def Qrm21 (Z : State) (x_ : Int32) (h0 : Heap) (n0 : Nat) (v_ : Option Value) (h_ : Heap) (L_ : List Loc) : Prop := v_ = some (.int (own_nlzI x_)) ∧ L_ = [] ∧ h_ = h0
theorem d21_0 : decode jdk_33_method_47_code 0 = .ok (.iload_n 0, 1) := by decide +kernel
theorem d21_1 : decode jdk_33_method_47_code 1 = .ok (.ifCond .gt 14, 3) := by decide +kernel
theorem d21_15 : decode jdk_33_method_47_code 15 = .ok (.bipush 31, 2) := by decide +kernel
theorem d21_17 : decode jdk_33_method_47_code 17 = .ok (.istore_n 1, 1) := by decide +kernel
theorem d21_18 : decode jdk_33_method_47_code 18 = .ok (.iload_n 0, 1) := by decide +kernel
theorem d21_19 : decode jdk_33_method_47_code 19 = .ok (.ldc_w 264, 3) := by decide +kernel
theorem d21_22 : decode jdk_33_method_47_code 22 = .ok (.if_icmp .lt 11, 3) := by decide +kernel
theorem d21_33 : decode jdk_33_method_47_code 33 = .ok (.iload_n 0, 1) := by decide +kernel
theorem d21_34 : decode jdk_33_method_47_code 34 = .ok (.sipush 256, 3) := by decide +kernel
theorem d21_37 : decode jdk_33_method_47_code 37 = .ok (.if_icmp .lt 11, 3) := by decide +kernel
theorem d21_48 : decode jdk_33_method_47_code 48 = .ok (.iload_n 0, 1) := by decide +kernel
theorem d21_49 : decode jdk_33_method_47_code 49 = .ok (.bipush 16, 2) := by decide +kernel
theorem d21_51 : decode jdk_33_method_47_code 51 = .ok (.if_icmp .lt 10, 3) := by decide +kernel
theorem d21_61 : decode jdk_33_method_47_code 61 = .ok (.iload_n 0, 1) := by decide +kernel
theorem d21_62 : decode jdk_33_method_47_code 62 = .ok (.iconst 4, 1) := by decide +kernel
theorem d21_63 : decode jdk_33_method_47_code 63 = .ok (.if_icmp .lt 10, 3) := by decide +kernel
theorem d21_73 : decode jdk_33_method_47_code 73 = .ok (.iload_n 1, 1) := by decide +kernel
theorem d21_74 : decode jdk_33_method_47_code 74 = .ok (.iload_n 0, 1) := by decide +kernel
theorem d21_75 : decode jdk_33_method_47_code 75 = .ok (.iconst 1, 1) := by decide +kernel
theorem d21_76 : decode jdk_33_method_47_code 76 = .ok (.iushr, 1) := by decide +kernel
theorem d21_77 : decode jdk_33_method_47_code 77 = .ok (.isub, 1) := by decide +kernel
theorem d21_78 : decode jdk_33_method_47_code 78 = .ok (.ireturn, 1) := by decide +kernel
theorem d21_66 : decode jdk_33_method_47_code 66 = .ok (.iinc 1 (-2), 3) := by decide +kernel
theorem d21_69 : decode jdk_33_method_47_code 69 = .ok (.iload_n 0, 1) := by decide +kernel
theorem d21_70 : decode jdk_33_method_47_code 70 = .ok (.iconst 2, 1) := by decide +kernel
theorem d21_71 : decode jdk_33_method_47_code 71 = .ok (.iushr, 1) := by decide +kernel
theorem d21_72 : decode jdk_33_method_47_code 72 = .ok (.istore_n 0, 1) := by decide +kernel
theorem d21_54 : decode jdk_33_method_47_code 54 = .ok (.iinc 1 (-4), 3) := by decide +kernel
theorem d21_57 : decode jdk_33_method_47_code 57 = .ok (.iload_n 0, 1) := by decide +kernel
theorem d21_58 : decode jdk_33_method_47_code 58 = .ok (.iconst 4, 1) := by decide +kernel
theorem d21_59 : decode jdk_33_method_47_code 59 = .ok (.iushr, 1) := by decide +kernel
theorem d21_60 : decode jdk_33_method_47_code 60 = .ok (.istore_n 0, 1) := by decide +kernel
theorem d21_40 : decode jdk_33_method_47_code 40 = .ok (.iinc 1 (-8), 3) := by decide +kernel
theorem d21_43 : decode jdk_33_method_47_code 43 = .ok (.iload_n 0, 1) := by decide +kernel
theorem d21_44 : decode jdk_33_method_47_code 44 = .ok (.bipush 8, 2) := by decide +kernel
theorem d21_46 : decode jdk_33_method_47_code 46 = .ok (.iushr, 1) := by decide +kernel
theorem d21_47 : decode jdk_33_method_47_code 47 = .ok (.istore_n 0, 1) := by decide +kernel
theorem d21_25 : decode jdk_33_method_47_code 25 = .ok (.iinc 1 (-16), 3) := by decide +kernel
theorem d21_28 : decode jdk_33_method_47_code 28 = .ok (.iload_n 0, 1) := by decide +kernel
theorem d21_29 : decode jdk_33_method_47_code 29 = .ok (.bipush 16, 2) := by decide +kernel
theorem d21_31 : decode jdk_33_method_47_code 31 = .ok (.iushr, 1) := by decide +kernel
theorem d21_32 : decode jdk_33_method_47_code 32 = .ok (.istore_n 0, 1) := by decide +kernel
theorem d21_4 : decode jdk_33_method_47_code 4 = .ok (.iload_n 0, 1) := by decide +kernel
theorem d21_5 : decode jdk_33_method_47_code 5 = .ok (.ifCond .ne 8, 3) := by decide +kernel
theorem d21_8 : decode jdk_33_method_47_code 8 = .ok (.bipush 32, 2) := by decide +kernel
theorem d21_10 : decode jdk_33_method_47_code 10 = .ok (.goto 4, 3) := by decide +kernel
theorem d21_14 : decode jdk_33_method_47_code 14 = .ok (.ireturn, 1) := by decide +kernel
theorem d21_13 : decode jdk_33_method_47_code 13 = .ok (.iconst 0, 1) := by decide +kernel
set_option maxRecDepth 65536 in
set_option maxHeartbeats 40000000 in
theorem rm21 (l : Launch) (Z : State) (a0 : Array Value) (hw : ∀ d ∈ tables_1, d.before a0 Z = true) (ws : List Jvm.Cond) (x_ : Int32) (h0 : Heap) (n0 : Nat) (Z0 : n0 ≤ h0.size) :
    MetFree l (⟨"java/lang/Integer", "numberOfLeadingZeros", "(I)I"⟩ : MethodName) (head1 (Jvm.Cond.code (⟨"java/lang/Integer", "numberOfLeadingZeros", "(I)I"⟩ : MethodName) jdk_33_method_47_code 2 (some .int) :: ws) ({ frames := 0, cells := 0, slots := 0, locals := 0 } : Room)) (fun as_ U_ => as_ = #[(.int x_)] ∧ Z.Warmed39 U_.vm ∧ U_.heap = h0) (fun _ _ _ _ _ => True) (fun _ U_ o_ V_ => ∃ v_ L_, o_ = .returned v_ ∧ Qrm21 Z x_ h0 n0 v_ V_.heap L_ ∧ FrameEnd U_ o_ V_ L_ ({ frames := 0, cells := 0, slots := 0, locals := 0 } : Room).cells ({ frames := 0, cells := 0, slots := 0, locals := 0 } : Room).slots) := by
  refine MetFree.of_bodySF (plainFor_of_name pn_java_lang_Integer) hisR ?_
  intro p e s m args below meth c s₁ Bd hml0 hP hK
  obtain ⟨rfl, hZ, hh⟩ := hP
  have hx := Bd.exec
  have hby := Bd.bytes
  have hlk : meth.locks = false := BodyLoose.notSynchronized Bd
  have hret := Bd.returns
  have hml : c.maxLocals = 2 := hml0
  have hown : s.vm.findClass "java/lang/Integer" = some m.cls := findClass_of_methodNamed Bd.named
  have hnm := (name_of_methodNamed Bd.named Bd.method).1
  have X0 : Stand p l e ({ frames := 0, cells := 0, slots := 0, locals := 0 } : Room) s m #[(.int x_)] below meth c s₁ [] 0 0 := Stand.of_body Bd
  have e0 : s₁.heap = h0 := by rw [← hh, Bd.state]; rfl
  have N0 := Fr.nil n0
  show Goes p e below (Fin_ s (Qrm21 Z x_ h0 n0) ({ frames := 0, cells := 0, slots := 0, locals := 0 } : Room).cells ({ frames := 0, cells := 0, slots := 0, locals := 0 } : Room).slots) (s₁.setTop (entryFrame m #[(.int x_)] 2))
  rw [ef_rm21 m x_]
  refine gILN X0 hx hby d21_0 rfl ?_
  by_cases hc1 : (0 : Int32) < x_
  · skip
    refine Goes.via (fun _ kk_ => XS.ifYes X0.here hx rfl (pc0 := 1) (pc' := 15) rfl (hb hby d21_1) rfl ((if0 _ _).trans (tlt hc1).2.2.1) (by decide) (by decide) kk_) ?_
    show Goes p e below _ (s₁.setTop (mkF m 15 #[vi x_, .unset] []))
    refine gBI (z := 31) X0 hx hby d21_15 rfl ?_
    refine Goes.via (fun _ kk_ => XS.istoreN X0.here hx rfl (hb hby d21_17) rfl (l' := #[vi x_, vi (31 : Int32)]) rfl kk_) ?_
    show Goes p e below _ (s₁.setTop (mkF m 18 #[vi x_, vi (31 : Int32)] []))
    refine gILN X0 hx hby d21_18 rfl ?_
    refine Goes.via (X0.ldcwInt hx hown (mvT hZ (own_w hw 19 rfl)) (g := (mkF m 19 #[vi x_, vi (31 : Int32)] [(.int x_)])) rfl (hb hby d21_19)) ?_
    show Goes p e below _ (s₁.setTop (mkF m 22 #[vi x_, vi (31 : Int32)] [(.int (65536 : Int32)), (.int x_)]))
    by_cases hc22 : x_ < (65536 : Int32)
    · skip
      refine Goes.via (fun _ kk_ => XS.icmpYes X0.here hx rfl (pc0 := 22) (pc' := 33) rfl (hb hby d21_22) rfl (tlt hc22).1 (by decide) (by decide) kk_) ?_
      show Goes p e below _ (s₁.setTop (mkF m 33 #[vi x_, vi (31 : Int32)] []))
      refine gILN X0 hx hby d21_33 rfl ?_
      refine gSI (z := 256) X0 hx hby d21_34 rfl ?_
      by_cases hc37 : x_ < (256 : Int32)
      · skip
        refine Goes.via (fun _ kk_ => XS.icmpYes X0.here hx rfl (pc0 := 37) (pc' := 48) rfl (hb hby d21_37) rfl (tlt hc37).1 (by decide) (by decide) kk_) ?_
        show Goes p e below _ (s₁.setTop (mkF m 48 #[vi x_, vi (31 : Int32)] []))
        refine gILN X0 hx hby d21_48 rfl ?_
        refine gBI (z := 16) X0 hx hby d21_49 rfl ?_
        by_cases hc51 : x_ < (16 : Int32)
        · skip
          refine Goes.via (fun _ kk_ => XS.icmpYes X0.here hx rfl (pc0 := 51) (pc' := 61) rfl (hb hby d21_51) rfl (tlt hc51).1 (by decide) (by decide) kk_) ?_
          show Goes p e below _ (s₁.setTop (mkF m 61 #[vi x_, vi (31 : Int32)] []))
          refine gILN X0 hx hby d21_61 rfl ?_
          refine gIC (z := 4) X0 hx hby d21_62 rfl ?_
          by_cases hc63 : x_ < (4 : Int32)
          · skip
            refine Goes.via (fun _ kk_ => XS.icmpYes X0.here hx rfl (pc0 := 63) (pc' := 73) rfl (hb hby d21_63) rfl (tlt hc63).1 (by decide) (by decide) kk_) ?_
            show Goes p e below _ (s₁.setTop (mkF m 73 #[vi x_, vi (31 : Int32)] []))
            refine gILN X0 hx hby d21_73 rfl ?_
            refine gILN X0 hx hby d21_74 rfl ?_
            refine gIC (z := 1) X0 hx hby d21_75 rfl ?_
            refine Goes.via (fun _ kk_ => XS.iushr X0.here hx rfl (hb hby d21_76) rfl kk_) ?_
            show Goes p e below _ (s₁.setTop (mkF m 77 #[vi x_, vi (31 : Int32)] [(.int ((x_.toUInt32 >>> ((1 : Int32) &&& 31).toUInt32).toInt32)), (.int (31 : Int32))]))
            refine Goes.via (fun _ kk_ => XS.isub X0.here hx rfl (hb hby d21_77) rfl kk_) ?_
            show Goes p e below _ (s₁.setTop (mkF m 78 #[vi x_, vi (31 : Int32)] [(.int ((31 : Int32) - ((x_.toUInt32 >>> ((1 : Int32) &&& 31).toUInt32).toInt32)))]))
            exact own_finI X0 hx hlk hret (hb hby d21_78) (by rw [e0]; exact ⟨(by rw [own_nlzI, if_pos hc1, if_pos hc22, if_pos hc37, if_pos hc51, if_pos hc63]; first | done | rfl | exact own_nc _), rfl, rfl⟩) (by first | decide | omega | (dsimp only; omega)) (by first | decide | omega | (dsimp only; omega))
          · skip
            refine Goes.via (fun _ kk_ => XS.icmpNo X0.here hx rfl (hb hby d21_63) rfl (flt hc63).1 kk_) ?_
            show Goes p e below _ (s₁.setTop (mkF m 66 #[vi x_, vi (31 : Int32)] []))
            refine Goes.via (fun _ kk_ => XS.iinc X0.here hx rfl (hb hby d21_66) rfl (l' := #[vi x_, vi ((31 : Int32) + (-2 : Int32))]) rfl kk_) ?_
            show Goes p e below _ (s₁.setTop (mkF m 69 #[vi x_, vi ((31 : Int32) + (-2 : Int32))] []))
            rw [show ((31 : Int32) + (-2 : Int32)) = (29 : Int32) from by decide]
            show Goes p e below _ (s₁.setTop (mkF m 69 #[vi x_, vi (29 : Int32)] []))
            refine gILN X0 hx hby d21_69 rfl ?_
            refine gIC (z := 2) X0 hx hby d21_70 rfl ?_
            refine Goes.via (fun _ kk_ => XS.iushr X0.here hx rfl (hb hby d21_71) rfl kk_) ?_
            show Goes p e below _ (s₁.setTop (mkF m 72 #[vi x_, vi (29 : Int32)] [(.int ((x_.toUInt32 >>> ((2 : Int32) &&& 31).toUInt32).toInt32))]))
            refine Goes.via (fun _ kk_ => XS.istoreN X0.here hx rfl (hb hby d21_72) rfl (l' := #[vi ((x_.toUInt32 >>> ((2 : Int32) &&& 31).toUInt32).toInt32), vi (29 : Int32)]) rfl kk_) ?_
            show Goes p e below _ (s₁.setTop (mkF m 73 #[vi ((x_.toUInt32 >>> ((2 : Int32) &&& 31).toUInt32).toInt32), vi (29 : Int32)] []))
            refine gILN X0 hx hby d21_73 rfl ?_
            refine gILN X0 hx hby d21_74 rfl ?_
            refine gIC (z := 1) X0 hx hby d21_75 rfl ?_
            refine Goes.via (fun _ kk_ => XS.iushr X0.here hx rfl (hb hby d21_76) rfl kk_) ?_
            show Goes p e below _ (s₁.setTop (mkF m 77 #[vi ((x_.toUInt32 >>> ((2 : Int32) &&& 31).toUInt32).toInt32), vi (29 : Int32)] [(.int ((((x_.toUInt32 >>> ((2 : Int32) &&& 31).toUInt32).toInt32).toUInt32 >>> ((1 : Int32) &&& 31).toUInt32).toInt32)), (.int (29 : Int32))]))
            refine Goes.via (fun _ kk_ => XS.isub X0.here hx rfl (hb hby d21_77) rfl kk_) ?_
            show Goes p e below _ (s₁.setTop (mkF m 78 #[vi ((x_.toUInt32 >>> ((2 : Int32) &&& 31).toUInt32).toInt32), vi (29 : Int32)] [(.int ((29 : Int32) - ((((x_.toUInt32 >>> ((2 : Int32) &&& 31).toUInt32).toInt32).toUInt32 >>> ((1 : Int32) &&& 31).toUInt32).toInt32)))]))
            exact own_finI X0 hx hlk hret (hb hby d21_78) (by rw [e0]; exact ⟨(by rw [own_nlzI, if_pos hc1, if_pos hc22, if_pos hc37, if_pos hc51, if_neg hc63]; first | done | rfl | exact own_nc _), rfl, rfl⟩) (by first | decide | omega | (dsimp only; omega)) (by first | decide | omega | (dsimp only; omega))
        · skip
          refine Goes.via (fun _ kk_ => XS.icmpNo X0.here hx rfl (hb hby d21_51) rfl (flt hc51).1 kk_) ?_
          show Goes p e below _ (s₁.setTop (mkF m 54 #[vi x_, vi (31 : Int32)] []))
          refine Goes.via (fun _ kk_ => XS.iinc X0.here hx rfl (hb hby d21_54) rfl (l' := #[vi x_, vi ((31 : Int32) + (-4 : Int32))]) rfl kk_) ?_
          show Goes p e below _ (s₁.setTop (mkF m 57 #[vi x_, vi ((31 : Int32) + (-4 : Int32))] []))
          rw [show ((31 : Int32) + (-4 : Int32)) = (27 : Int32) from by decide]
          show Goes p e below _ (s₁.setTop (mkF m 57 #[vi x_, vi (27 : Int32)] []))
          refine gILN X0 hx hby d21_57 rfl ?_
          refine gIC (z := 4) X0 hx hby d21_58 rfl ?_
          refine Goes.via (fun _ kk_ => XS.iushr X0.here hx rfl (hb hby d21_59) rfl kk_) ?_
          show Goes p e below _ (s₁.setTop (mkF m 60 #[vi x_, vi (27 : Int32)] [(.int ((x_.toUInt32 >>> ((4 : Int32) &&& 31).toUInt32).toInt32))]))
          refine Goes.via (fun _ kk_ => XS.istoreN X0.here hx rfl (hb hby d21_60) rfl (l' := #[vi ((x_.toUInt32 >>> ((4 : Int32) &&& 31).toUInt32).toInt32), vi (27 : Int32)]) rfl kk_) ?_
          show Goes p e below _ (s₁.setTop (mkF m 61 #[vi ((x_.toUInt32 >>> ((4 : Int32) &&& 31).toUInt32).toInt32), vi (27 : Int32)] []))
          refine gILN X0 hx hby d21_61 rfl ?_
          refine gIC (z := 4) X0 hx hby d21_62 rfl ?_
          by_cases hc63 : ((x_.toUInt32 >>> ((4 : Int32) &&& 31).toUInt32).toInt32) < (4 : Int32)
          · skip
            refine Goes.via (fun _ kk_ => XS.icmpYes X0.here hx rfl (pc0 := 63) (pc' := 73) rfl (hb hby d21_63) rfl (tlt hc63).1 (by decide) (by decide) kk_) ?_
            show Goes p e below _ (s₁.setTop (mkF m 73 #[vi ((x_.toUInt32 >>> ((4 : Int32) &&& 31).toUInt32).toInt32), vi (27 : Int32)] []))
            refine gILN X0 hx hby d21_73 rfl ?_
            refine gILN X0 hx hby d21_74 rfl ?_
            refine gIC (z := 1) X0 hx hby d21_75 rfl ?_
            refine Goes.via (fun _ kk_ => XS.iushr X0.here hx rfl (hb hby d21_76) rfl kk_) ?_
            show Goes p e below _ (s₁.setTop (mkF m 77 #[vi ((x_.toUInt32 >>> ((4 : Int32) &&& 31).toUInt32).toInt32), vi (27 : Int32)] [(.int ((((x_.toUInt32 >>> ((4 : Int32) &&& 31).toUInt32).toInt32).toUInt32 >>> ((1 : Int32) &&& 31).toUInt32).toInt32)), (.int (27 : Int32))]))
            refine Goes.via (fun _ kk_ => XS.isub X0.here hx rfl (hb hby d21_77) rfl kk_) ?_
            show Goes p e below _ (s₁.setTop (mkF m 78 #[vi ((x_.toUInt32 >>> ((4 : Int32) &&& 31).toUInt32).toInt32), vi (27 : Int32)] [(.int ((27 : Int32) - ((((x_.toUInt32 >>> ((4 : Int32) &&& 31).toUInt32).toInt32).toUInt32 >>> ((1 : Int32) &&& 31).toUInt32).toInt32)))]))
            exact own_finI X0 hx hlk hret (hb hby d21_78) (by rw [e0]; exact ⟨(by rw [own_nlzI, if_pos hc1, if_pos hc22, if_pos hc37, if_neg hc51, if_pos hc63]; first | done | rfl | exact own_nc _), rfl, rfl⟩) (by first | decide | omega | (dsimp only; omega)) (by first | decide | omega | (dsimp only; omega))
          · skip
            refine Goes.via (fun _ kk_ => XS.icmpNo X0.here hx rfl (hb hby d21_63) rfl (flt hc63).1 kk_) ?_
            show Goes p e below _ (s₁.setTop (mkF m 66 #[vi ((x_.toUInt32 >>> ((4 : Int32) &&& 31).toUInt32).toInt32), vi (27 : Int32)] []))
            refine Goes.via (fun _ kk_ => XS.iinc X0.here hx rfl (hb hby d21_66) rfl (l' := #[vi ((x_.toUInt32 >>> ((4 : Int32) &&& 31).toUInt32).toInt32), vi ((27 : Int32) + (-2 : Int32))]) rfl kk_) ?_
            show Goes p e below _ (s₁.setTop (mkF m 69 #[vi ((x_.toUInt32 >>> ((4 : Int32) &&& 31).toUInt32).toInt32), vi ((27 : Int32) + (-2 : Int32))] []))
            rw [show ((27 : Int32) + (-2 : Int32)) = (25 : Int32) from by decide]
            show Goes p e below _ (s₁.setTop (mkF m 69 #[vi ((x_.toUInt32 >>> ((4 : Int32) &&& 31).toUInt32).toInt32), vi (25 : Int32)] []))
            refine gILN X0 hx hby d21_69 rfl ?_
            refine gIC (z := 2) X0 hx hby d21_70 rfl ?_
            refine Goes.via (fun _ kk_ => XS.iushr X0.here hx rfl (hb hby d21_71) rfl kk_) ?_
            show Goes p e below _ (s₁.setTop (mkF m 72 #[vi ((x_.toUInt32 >>> ((4 : Int32) &&& 31).toUInt32).toInt32), vi (25 : Int32)] [(.int ((((x_.toUInt32 >>> ((4 : Int32) &&& 31).toUInt32).toInt32).toUInt32 >>> ((2 : Int32) &&& 31).toUInt32).toInt32))]))
            refine Goes.via (fun _ kk_ => XS.istoreN X0.here hx rfl (hb hby d21_72) rfl (l' := #[vi ((((x_.toUInt32 >>> ((4 : Int32) &&& 31).toUInt32).toInt32).toUInt32 >>> ((2 : Int32) &&& 31).toUInt32).toInt32), vi (25 : Int32)]) rfl kk_) ?_
            show Goes p e below _ (s₁.setTop (mkF m 73 #[vi ((((x_.toUInt32 >>> ((4 : Int32) &&& 31).toUInt32).toInt32).toUInt32 >>> ((2 : Int32) &&& 31).toUInt32).toInt32), vi (25 : Int32)] []))
            refine gILN X0 hx hby d21_73 rfl ?_
            refine gILN X0 hx hby d21_74 rfl ?_
            refine gIC (z := 1) X0 hx hby d21_75 rfl ?_
            refine Goes.via (fun _ kk_ => XS.iushr X0.here hx rfl (hb hby d21_76) rfl kk_) ?_
            show Goes p e below _ (s₁.setTop (mkF m 77 #[vi ((((x_.toUInt32 >>> ((4 : Int32) &&& 31).toUInt32).toInt32).toUInt32 >>> ((2 : Int32) &&& 31).toUInt32).toInt32), vi (25 : Int32)] [(.int ((((((x_.toUInt32 >>> ((4 : Int32) &&& 31).toUInt32).toInt32).toUInt32 >>> ((2 : Int32) &&& 31).toUInt32).toInt32).toUInt32 >>> ((1 : Int32) &&& 31).toUInt32).toInt32)), (.int (25 : Int32))]))
            refine Goes.via (fun _ kk_ => XS.isub X0.here hx rfl (hb hby d21_77) rfl kk_) ?_
            show Goes p e below _ (s₁.setTop (mkF m 78 #[vi ((((x_.toUInt32 >>> ((4 : Int32) &&& 31).toUInt32).toInt32).toUInt32 >>> ((2 : Int32) &&& 31).toUInt32).toInt32), vi (25 : Int32)] [(.int ((25 : Int32) - ((((((x_.toUInt32 >>> ((4 : Int32) &&& 31).toUInt32).toInt32).toUInt32 >>> ((2 : Int32) &&& 31).toUInt32).toInt32).toUInt32 >>> ((1 : Int32) &&& 31).toUInt32).toInt32)))]))
            exact own_finI X0 hx hlk hret (hb hby d21_78) (by rw [e0]; exact ⟨(by rw [own_nlzI, if_pos hc1, if_pos hc22, if_pos hc37, if_neg hc51, if_neg hc63]; first | done | rfl | exact own_nc _), rfl, rfl⟩) (by first | decide | omega | (dsimp only; omega)) (by first | decide | omega | (dsimp only; omega))
      · skip
        refine Goes.via (fun _ kk_ => XS.icmpNo X0.here hx rfl (hb hby d21_37) rfl (flt hc37).1 kk_) ?_
        show Goes p e below _ (s₁.setTop (mkF m 40 #[vi x_, vi (31 : Int32)] []))
        refine Goes.via (fun _ kk_ => XS.iinc X0.here hx rfl (hb hby d21_40) rfl (l' := #[vi x_, vi ((31 : Int32) + (-8 : Int32))]) rfl kk_) ?_
        show Goes p e below _ (s₁.setTop (mkF m 43 #[vi x_, vi ((31 : Int32) + (-8 : Int32))] []))
        rw [show ((31 : Int32) + (-8 : Int32)) = (23 : Int32) from by decide]
        show Goes p e below _ (s₁.setTop (mkF m 43 #[vi x_, vi (23 : Int32)] []))
        refine gILN X0 hx hby d21_43 rfl ?_
        refine gBI (z := 8) X0 hx hby d21_44 rfl ?_
        refine Goes.via (fun _ kk_ => XS.iushr X0.here hx rfl (hb hby d21_46) rfl kk_) ?_
        show Goes p e below _ (s₁.setTop (mkF m 47 #[vi x_, vi (23 : Int32)] [(.int ((x_.toUInt32 >>> ((8 : Int32) &&& 31).toUInt32).toInt32))]))
        refine Goes.via (fun _ kk_ => XS.istoreN X0.here hx rfl (hb hby d21_47) rfl (l' := #[vi ((x_.toUInt32 >>> ((8 : Int32) &&& 31).toUInt32).toInt32), vi (23 : Int32)]) rfl kk_) ?_
        show Goes p e below _ (s₁.setTop (mkF m 48 #[vi ((x_.toUInt32 >>> ((8 : Int32) &&& 31).toUInt32).toInt32), vi (23 : Int32)] []))
        refine gILN X0 hx hby d21_48 rfl ?_
        refine gBI (z := 16) X0 hx hby d21_49 rfl ?_
        by_cases hc51 : ((x_.toUInt32 >>> ((8 : Int32) &&& 31).toUInt32).toInt32) < (16 : Int32)
        · skip
          refine Goes.via (fun _ kk_ => XS.icmpYes X0.here hx rfl (pc0 := 51) (pc' := 61) rfl (hb hby d21_51) rfl (tlt hc51).1 (by decide) (by decide) kk_) ?_
          show Goes p e below _ (s₁.setTop (mkF m 61 #[vi ((x_.toUInt32 >>> ((8 : Int32) &&& 31).toUInt32).toInt32), vi (23 : Int32)] []))
          refine gILN X0 hx hby d21_61 rfl ?_
          refine gIC (z := 4) X0 hx hby d21_62 rfl ?_
          by_cases hc63 : ((x_.toUInt32 >>> ((8 : Int32) &&& 31).toUInt32).toInt32) < (4 : Int32)
          · skip
            refine Goes.via (fun _ kk_ => XS.icmpYes X0.here hx rfl (pc0 := 63) (pc' := 73) rfl (hb hby d21_63) rfl (tlt hc63).1 (by decide) (by decide) kk_) ?_
            show Goes p e below _ (s₁.setTop (mkF m 73 #[vi ((x_.toUInt32 >>> ((8 : Int32) &&& 31).toUInt32).toInt32), vi (23 : Int32)] []))
            refine gILN X0 hx hby d21_73 rfl ?_
            refine gILN X0 hx hby d21_74 rfl ?_
            refine gIC (z := 1) X0 hx hby d21_75 rfl ?_
            refine Goes.via (fun _ kk_ => XS.iushr X0.here hx rfl (hb hby d21_76) rfl kk_) ?_
            show Goes p e below _ (s₁.setTop (mkF m 77 #[vi ((x_.toUInt32 >>> ((8 : Int32) &&& 31).toUInt32).toInt32), vi (23 : Int32)] [(.int ((((x_.toUInt32 >>> ((8 : Int32) &&& 31).toUInt32).toInt32).toUInt32 >>> ((1 : Int32) &&& 31).toUInt32).toInt32)), (.int (23 : Int32))]))
            refine Goes.via (fun _ kk_ => XS.isub X0.here hx rfl (hb hby d21_77) rfl kk_) ?_
            show Goes p e below _ (s₁.setTop (mkF m 78 #[vi ((x_.toUInt32 >>> ((8 : Int32) &&& 31).toUInt32).toInt32), vi (23 : Int32)] [(.int ((23 : Int32) - ((((x_.toUInt32 >>> ((8 : Int32) &&& 31).toUInt32).toInt32).toUInt32 >>> ((1 : Int32) &&& 31).toUInt32).toInt32)))]))
            exact own_finI X0 hx hlk hret (hb hby d21_78) (by rw [e0]; exact ⟨(by rw [own_nlzI, if_pos hc1, if_pos hc22, if_neg hc37, if_pos hc51, if_pos hc63]; first | done | rfl | exact own_nc _), rfl, rfl⟩) (by first | decide | omega | (dsimp only; omega)) (by first | decide | omega | (dsimp only; omega))
          · skip
            refine Goes.via (fun _ kk_ => XS.icmpNo X0.here hx rfl (hb hby d21_63) rfl (flt hc63).1 kk_) ?_
            show Goes p e below _ (s₁.setTop (mkF m 66 #[vi ((x_.toUInt32 >>> ((8 : Int32) &&& 31).toUInt32).toInt32), vi (23 : Int32)] []))
            refine Goes.via (fun _ kk_ => XS.iinc X0.here hx rfl (hb hby d21_66) rfl (l' := #[vi ((x_.toUInt32 >>> ((8 : Int32) &&& 31).toUInt32).toInt32), vi ((23 : Int32) + (-2 : Int32))]) rfl kk_) ?_
            show Goes p e below _ (s₁.setTop (mkF m 69 #[vi ((x_.toUInt32 >>> ((8 : Int32) &&& 31).toUInt32).toInt32), vi ((23 : Int32) + (-2 : Int32))] []))
            rw [show ((23 : Int32) + (-2 : Int32)) = (21 : Int32) from by decide]
            show Goes p e below _ (s₁.setTop (mkF m 69 #[vi ((x_.toUInt32 >>> ((8 : Int32) &&& 31).toUInt32).toInt32), vi (21 : Int32)] []))
            refine gILN X0 hx hby d21_69 rfl ?_
            refine gIC (z := 2) X0 hx hby d21_70 rfl ?_
            refine Goes.via (fun _ kk_ => XS.iushr X0.here hx rfl (hb hby d21_71) rfl kk_) ?_
            show Goes p e below _ (s₁.setTop (mkF m 72 #[vi ((x_.toUInt32 >>> ((8 : Int32) &&& 31).toUInt32).toInt32), vi (21 : Int32)] [(.int ((((x_.toUInt32 >>> ((8 : Int32) &&& 31).toUInt32).toInt32).toUInt32 >>> ((2 : Int32) &&& 31).toUInt32).toInt32))]))
            refine Goes.via (fun _ kk_ => XS.istoreN X0.here hx rfl (hb hby d21_72) rfl (l' := #[vi ((((x_.toUInt32 >>> ((8 : Int32) &&& 31).toUInt32).toInt32).toUInt32 >>> ((2 : Int32) &&& 31).toUInt32).toInt32), vi (21 : Int32)]) rfl kk_) ?_
            show Goes p e below _ (s₁.setTop (mkF m 73 #[vi ((((x_.toUInt32 >>> ((8 : Int32) &&& 31).toUInt32).toInt32).toUInt32 >>> ((2 : Int32) &&& 31).toUInt32).toInt32), vi (21 : Int32)] []))
            refine gILN X0 hx hby d21_73 rfl ?_
            refine gILN X0 hx hby d21_74 rfl ?_
            refine gIC (z := 1) X0 hx hby d21_75 rfl ?_
            refine Goes.via (fun _ kk_ => XS.iushr X0.here hx rfl (hb hby d21_76) rfl kk_) ?_
            show Goes p e below _ (s₁.setTop (mkF m 77 #[vi ((((x_.toUInt32 >>> ((8 : Int32) &&& 31).toUInt32).toInt32).toUInt32 >>> ((2 : Int32) &&& 31).toUInt32).toInt32), vi (21 : Int32)] [(.int ((((((x_.toUInt32 >>> ((8 : Int32) &&& 31).toUInt32).toInt32).toUInt32 >>> ((2 : Int32) &&& 31).toUInt32).toInt32).toUInt32 >>> ((1 : Int32) &&& 31).toUInt32).toInt32)), (.int (21 : Int32))]))
            refine Goes.via (fun _ kk_ => XS.isub X0.here hx rfl (hb hby d21_77) rfl kk_) ?_
            show Goes p e below _ (s₁.setTop (mkF m 78 #[vi ((((x_.toUInt32 >>> ((8 : Int32) &&& 31).toUInt32).toInt32).toUInt32 >>> ((2 : Int32) &&& 31).toUInt32).toInt32), vi (21 : Int32)] [(.int ((21 : Int32) - ((((((x_.toUInt32 >>> ((8 : Int32) &&& 31).toUInt32).toInt32).toUInt32 >>> ((2 : Int32) &&& 31).toUInt32).toInt32).toUInt32 >>> ((1 : Int32) &&& 31).toUInt32).toInt32)))]))
            exact own_finI X0 hx hlk hret (hb hby d21_78) (by rw [e0]; exact ⟨(by rw [own_nlzI, if_pos hc1, if_pos hc22, if_neg hc37, if_pos hc51, if_neg hc63]; first | done | rfl | exact own_nc _), rfl, rfl⟩) (by first | decide | omega | (dsimp only; omega)) (by first | decide | omega | (dsimp only; omega))
        · skip
          refine Goes.via (fun _ kk_ => XS.icmpNo X0.here hx rfl (hb hby d21_51) rfl (flt hc51).1 kk_) ?_
          show Goes p e below _ (s₁.setTop (mkF m 54 #[vi ((x_.toUInt32 >>> ((8 : Int32) &&& 31).toUInt32).toInt32), vi (23 : Int32)] []))
          refine Goes.via (fun _ kk_ => XS.iinc X0.here hx rfl (hb hby d21_54) rfl (l' := #[vi ((x_.toUInt32 >>> ((8 : Int32) &&& 31).toUInt32).toInt32), vi ((23 : Int32) + (-4 : Int32))]) rfl kk_) ?_
          show Goes p e below _ (s₁.setTop (mkF m 57 #[vi ((x_.toUInt32 >>> ((8 : Int32) &&& 31).toUInt32).toInt32), vi ((23 : Int32) + (-4 : Int32))] []))
          rw [show ((23 : Int32) + (-4 : Int32)) = (19 : Int32) from by decide]
          show Goes p e below _ (s₁.setTop (mkF m 57 #[vi ((x_.toUInt32 >>> ((8 : Int32) &&& 31).toUInt32).toInt32), vi (19 : Int32)] []))
          refine gILN X0 hx hby d21_57 rfl ?_
          refine gIC (z := 4) X0 hx hby d21_58 rfl ?_
          refine Goes.via (fun _ kk_ => XS.iushr X0.here hx rfl (hb hby d21_59) rfl kk_) ?_
          show Goes p e below _ (s₁.setTop (mkF m 60 #[vi ((x_.toUInt32 >>> ((8 : Int32) &&& 31).toUInt32).toInt32), vi (19 : Int32)] [(.int ((((x_.toUInt32 >>> ((8 : Int32) &&& 31).toUInt32).toInt32).toUInt32 >>> ((4 : Int32) &&& 31).toUInt32).toInt32))]))
          refine Goes.via (fun _ kk_ => XS.istoreN X0.here hx rfl (hb hby d21_60) rfl (l' := #[vi ((((x_.toUInt32 >>> ((8 : Int32) &&& 31).toUInt32).toInt32).toUInt32 >>> ((4 : Int32) &&& 31).toUInt32).toInt32), vi (19 : Int32)]) rfl kk_) ?_
          show Goes p e below _ (s₁.setTop (mkF m 61 #[vi ((((x_.toUInt32 >>> ((8 : Int32) &&& 31).toUInt32).toInt32).toUInt32 >>> ((4 : Int32) &&& 31).toUInt32).toInt32), vi (19 : Int32)] []))
          refine gILN X0 hx hby d21_61 rfl ?_
          refine gIC (z := 4) X0 hx hby d21_62 rfl ?_
          by_cases hc63 : ((((x_.toUInt32 >>> ((8 : Int32) &&& 31).toUInt32).toInt32).toUInt32 >>> ((4 : Int32) &&& 31).toUInt32).toInt32) < (4 : Int32)
          · skip
            refine Goes.via (fun _ kk_ => XS.icmpYes X0.here hx rfl (pc0 := 63) (pc' := 73) rfl (hb hby d21_63) rfl (tlt hc63).1 (by decide) (by decide) kk_) ?_
            show Goes p e below _ (s₁.setTop (mkF m 73 #[vi ((((x_.toUInt32 >>> ((8 : Int32) &&& 31).toUInt32).toInt32).toUInt32 >>> ((4 : Int32) &&& 31).toUInt32).toInt32), vi (19 : Int32)] []))
            refine gILN X0 hx hby d21_73 rfl ?_
            refine gILN X0 hx hby d21_74 rfl ?_
            refine gIC (z := 1) X0 hx hby d21_75 rfl ?_
            refine Goes.via (fun _ kk_ => XS.iushr X0.here hx rfl (hb hby d21_76) rfl kk_) ?_
            show Goes p e below _ (s₁.setTop (mkF m 77 #[vi ((((x_.toUInt32 >>> ((8 : Int32) &&& 31).toUInt32).toInt32).toUInt32 >>> ((4 : Int32) &&& 31).toUInt32).toInt32), vi (19 : Int32)] [(.int ((((((x_.toUInt32 >>> ((8 : Int32) &&& 31).toUInt32).toInt32).toUInt32 >>> ((4 : Int32) &&& 31).toUInt32).toInt32).toUInt32 >>> ((1 : Int32) &&& 31).toUInt32).toInt32)), (.int (19 : Int32))]))
            refine Goes.via (fun _ kk_ => XS.isub X0.here hx rfl (hb hby d21_77) rfl kk_) ?_
            show Goes p e below _ (s₁.setTop (mkF m 78 #[vi ((((x_.toUInt32 >>> ((8 : Int32) &&& 31).toUInt32).toInt32).toUInt32 >>> ((4 : Int32) &&& 31).toUInt32).toInt32), vi (19 : Int32)] [(.int ((19 : Int32) - ((((((x_.toUInt32 >>> ((8 : Int32) &&& 31).toUInt32).toInt32).toUInt32 >>> ((4 : Int32) &&& 31).toUInt32).toInt32).toUInt32 >>> ((1 : Int32) &&& 31).toUInt32).toInt32)))]))
            exact own_finI X0 hx hlk hret (hb hby d21_78) (by rw [e0]; exact ⟨(by rw [own_nlzI, if_pos hc1, if_pos hc22, if_neg hc37, if_neg hc51, if_pos hc63]; first | done | rfl | exact own_nc _), rfl, rfl⟩) (by first | decide | omega | (dsimp only; omega)) (by first | decide | omega | (dsimp only; omega))
          · skip
            refine Goes.via (fun _ kk_ => XS.icmpNo X0.here hx rfl (hb hby d21_63) rfl (flt hc63).1 kk_) ?_
            show Goes p e below _ (s₁.setTop (mkF m 66 #[vi ((((x_.toUInt32 >>> ((8 : Int32) &&& 31).toUInt32).toInt32).toUInt32 >>> ((4 : Int32) &&& 31).toUInt32).toInt32), vi (19 : Int32)] []))
            refine Goes.via (fun _ kk_ => XS.iinc X0.here hx rfl (hb hby d21_66) rfl (l' := #[vi ((((x_.toUInt32 >>> ((8 : Int32) &&& 31).toUInt32).toInt32).toUInt32 >>> ((4 : Int32) &&& 31).toUInt32).toInt32), vi ((19 : Int32) + (-2 : Int32))]) rfl kk_) ?_
            show Goes p e below _ (s₁.setTop (mkF m 69 #[vi ((((x_.toUInt32 >>> ((8 : Int32) &&& 31).toUInt32).toInt32).toUInt32 >>> ((4 : Int32) &&& 31).toUInt32).toInt32), vi ((19 : Int32) + (-2 : Int32))] []))
            rw [show ((19 : Int32) + (-2 : Int32)) = (17 : Int32) from by decide]
            show Goes p e below _ (s₁.setTop (mkF m 69 #[vi ((((x_.toUInt32 >>> ((8 : Int32) &&& 31).toUInt32).toInt32).toUInt32 >>> ((4 : Int32) &&& 31).toUInt32).toInt32), vi (17 : Int32)] []))
            refine gILN X0 hx hby d21_69 rfl ?_
            refine gIC (z := 2) X0 hx hby d21_70 rfl ?_
            refine Goes.via (fun _ kk_ => XS.iushr X0.here hx rfl (hb hby d21_71) rfl kk_) ?_
            show Goes p e below _ (s₁.setTop (mkF m 72 #[vi ((((x_.toUInt32 >>> ((8 : Int32) &&& 31).toUInt32).toInt32).toUInt32 >>> ((4 : Int32) &&& 31).toUInt32).toInt32), vi (17 : Int32)] [(.int ((((((x_.toUInt32 >>> ((8 : Int32) &&& 31).toUInt32).toInt32).toUInt32 >>> ((4 : Int32) &&& 31).toUInt32).toInt32).toUInt32 >>> ((2 : Int32) &&& 31).toUInt32).toInt32))]))
            refine Goes.via (fun _ kk_ => XS.istoreN X0.here hx rfl (hb hby d21_72) rfl (l' := #[vi ((((((x_.toUInt32 >>> ((8 : Int32) &&& 31).toUInt32).toInt32).toUInt32 >>> ((4 : Int32) &&& 31).toUInt32).toInt32).toUInt32 >>> ((2 : Int32) &&& 31).toUInt32).toInt32), vi (17 : Int32)]) rfl kk_) ?_
            show Goes p e below _ (s₁.setTop (mkF m 73 #[vi ((((((x_.toUInt32 >>> ((8 : Int32) &&& 31).toUInt32).toInt32).toUInt32 >>> ((4 : Int32) &&& 31).toUInt32).toInt32).toUInt32 >>> ((2 : Int32) &&& 31).toUInt32).toInt32), vi (17 : Int32)] []))
            refine gILN X0 hx hby d21_73 rfl ?_
            refine gILN X0 hx hby d21_74 rfl ?_
            refine gIC (z := 1) X0 hx hby d21_75 rfl ?_
            refine Goes.via (fun _ kk_ => XS.iushr X0.here hx rfl (hb hby d21_76) rfl kk_) ?_
            show Goes p e below _ (s₁.setTop (mkF m 77 #[vi ((((((x_.toUInt32 >>> ((8 : Int32) &&& 31).toUInt32).toInt32).toUInt32 >>> ((4 : Int32) &&& 31).toUInt32).toInt32).toUInt32 >>> ((2 : Int32) &&& 31).toUInt32).toInt32), vi (17 : Int32)] [(.int ((((((((x_.toUInt32 >>> ((8 : Int32) &&& 31).toUInt32).toInt32).toUInt32 >>> ((4 : Int32) &&& 31).toUInt32).toInt32).toUInt32 >>> ((2 : Int32) &&& 31).toUInt32).toInt32).toUInt32 >>> ((1 : Int32) &&& 31).toUInt32).toInt32)), (.int (17 : Int32))]))
            refine Goes.via (fun _ kk_ => XS.isub X0.here hx rfl (hb hby d21_77) rfl kk_) ?_
            show Goes p e below _ (s₁.setTop (mkF m 78 #[vi ((((((x_.toUInt32 >>> ((8 : Int32) &&& 31).toUInt32).toInt32).toUInt32 >>> ((4 : Int32) &&& 31).toUInt32).toInt32).toUInt32 >>> ((2 : Int32) &&& 31).toUInt32).toInt32), vi (17 : Int32)] [(.int ((17 : Int32) - ((((((((x_.toUInt32 >>> ((8 : Int32) &&& 31).toUInt32).toInt32).toUInt32 >>> ((4 : Int32) &&& 31).toUInt32).toInt32).toUInt32 >>> ((2 : Int32) &&& 31).toUInt32).toInt32).toUInt32 >>> ((1 : Int32) &&& 31).toUInt32).toInt32)))]))
            exact own_finI X0 hx hlk hret (hb hby d21_78) (by rw [e0]; exact ⟨(by rw [own_nlzI, if_pos hc1, if_pos hc22, if_neg hc37, if_neg hc51, if_neg hc63]; first | done | rfl | exact own_nc _), rfl, rfl⟩) (by first | decide | omega | (dsimp only; omega)) (by first | decide | omega | (dsimp only; omega))
    · skip
      refine Goes.via (fun _ kk_ => XS.icmpNo X0.here hx rfl (hb hby d21_22) rfl (flt hc22).1 kk_) ?_
      show Goes p e below _ (s₁.setTop (mkF m 25 #[vi x_, vi (31 : Int32)] []))
      refine Goes.via (fun _ kk_ => XS.iinc X0.here hx rfl (hb hby d21_25) rfl (l' := #[vi x_, vi ((31 : Int32) + (-16 : Int32))]) rfl kk_) ?_
      show Goes p e below _ (s₁.setTop (mkF m 28 #[vi x_, vi ((31 : Int32) + (-16 : Int32))] []))
      rw [show ((31 : Int32) + (-16 : Int32)) = (15 : Int32) from by decide]
      show Goes p e below _ (s₁.setTop (mkF m 28 #[vi x_, vi (15 : Int32)] []))
      refine gILN X0 hx hby d21_28 rfl ?_
      refine gBI (z := 16) X0 hx hby d21_29 rfl ?_
      refine Goes.via (fun _ kk_ => XS.iushr X0.here hx rfl (hb hby d21_31) rfl kk_) ?_
      show Goes p e below _ (s₁.setTop (mkF m 32 #[vi x_, vi (15 : Int32)] [(.int ((x_.toUInt32 >>> ((16 : Int32) &&& 31).toUInt32).toInt32))]))
      refine Goes.via (fun _ kk_ => XS.istoreN X0.here hx rfl (hb hby d21_32) rfl (l' := #[vi ((x_.toUInt32 >>> ((16 : Int32) &&& 31).toUInt32).toInt32), vi (15 : Int32)]) rfl kk_) ?_
      show Goes p e below _ (s₁.setTop (mkF m 33 #[vi ((x_.toUInt32 >>> ((16 : Int32) &&& 31).toUInt32).toInt32), vi (15 : Int32)] []))
      refine gILN X0 hx hby d21_33 rfl ?_
      refine gSI (z := 256) X0 hx hby d21_34 rfl ?_
      by_cases hc37 : ((x_.toUInt32 >>> ((16 : Int32) &&& 31).toUInt32).toInt32) < (256 : Int32)
      · skip
        refine Goes.via (fun _ kk_ => XS.icmpYes X0.here hx rfl (pc0 := 37) (pc' := 48) rfl (hb hby d21_37) rfl (tlt hc37).1 (by decide) (by decide) kk_) ?_
        show Goes p e below _ (s₁.setTop (mkF m 48 #[vi ((x_.toUInt32 >>> ((16 : Int32) &&& 31).toUInt32).toInt32), vi (15 : Int32)] []))
        refine gILN X0 hx hby d21_48 rfl ?_
        refine gBI (z := 16) X0 hx hby d21_49 rfl ?_
        by_cases hc51 : ((x_.toUInt32 >>> ((16 : Int32) &&& 31).toUInt32).toInt32) < (16 : Int32)
        · skip
          refine Goes.via (fun _ kk_ => XS.icmpYes X0.here hx rfl (pc0 := 51) (pc' := 61) rfl (hb hby d21_51) rfl (tlt hc51).1 (by decide) (by decide) kk_) ?_
          show Goes p e below _ (s₁.setTop (mkF m 61 #[vi ((x_.toUInt32 >>> ((16 : Int32) &&& 31).toUInt32).toInt32), vi (15 : Int32)] []))
          refine gILN X0 hx hby d21_61 rfl ?_
          refine gIC (z := 4) X0 hx hby d21_62 rfl ?_
          by_cases hc63 : ((x_.toUInt32 >>> ((16 : Int32) &&& 31).toUInt32).toInt32) < (4 : Int32)
          · skip
            refine Goes.via (fun _ kk_ => XS.icmpYes X0.here hx rfl (pc0 := 63) (pc' := 73) rfl (hb hby d21_63) rfl (tlt hc63).1 (by decide) (by decide) kk_) ?_
            show Goes p e below _ (s₁.setTop (mkF m 73 #[vi ((x_.toUInt32 >>> ((16 : Int32) &&& 31).toUInt32).toInt32), vi (15 : Int32)] []))
            refine gILN X0 hx hby d21_73 rfl ?_
            refine gILN X0 hx hby d21_74 rfl ?_
            refine gIC (z := 1) X0 hx hby d21_75 rfl ?_
            refine Goes.via (fun _ kk_ => XS.iushr X0.here hx rfl (hb hby d21_76) rfl kk_) ?_
            show Goes p e below _ (s₁.setTop (mkF m 77 #[vi ((x_.toUInt32 >>> ((16 : Int32) &&& 31).toUInt32).toInt32), vi (15 : Int32)] [(.int ((((x_.toUInt32 >>> ((16 : Int32) &&& 31).toUInt32).toInt32).toUInt32 >>> ((1 : Int32) &&& 31).toUInt32).toInt32)), (.int (15 : Int32))]))
            refine Goes.via (fun _ kk_ => XS.isub X0.here hx rfl (hb hby d21_77) rfl kk_) ?_
            show Goes p e below _ (s₁.setTop (mkF m 78 #[vi ((x_.toUInt32 >>> ((16 : Int32) &&& 31).toUInt32).toInt32), vi (15 : Int32)] [(.int ((15 : Int32) - ((((x_.toUInt32 >>> ((16 : Int32) &&& 31).toUInt32).toInt32).toUInt32 >>> ((1 : Int32) &&& 31).toUInt32).toInt32)))]))
            exact own_finI X0 hx hlk hret (hb hby d21_78) (by rw [e0]; exact ⟨(by rw [own_nlzI, if_pos hc1, if_neg hc22, if_pos hc37, if_pos hc51, if_pos hc63]; first | done | rfl | exact own_nc _), rfl, rfl⟩) (by first | decide | omega | (dsimp only; omega)) (by first | decide | omega | (dsimp only; omega))
          · skip
            refine Goes.via (fun _ kk_ => XS.icmpNo X0.here hx rfl (hb hby d21_63) rfl (flt hc63).1 kk_) ?_
            show Goes p e below _ (s₁.setTop (mkF m 66 #[vi ((x_.toUInt32 >>> ((16 : Int32) &&& 31).toUInt32).toInt32), vi (15 : Int32)] []))
            refine Goes.via (fun _ kk_ => XS.iinc X0.here hx rfl (hb hby d21_66) rfl (l' := #[vi ((x_.toUInt32 >>> ((16 : Int32) &&& 31).toUInt32).toInt32), vi ((15 : Int32) + (-2 : Int32))]) rfl kk_) ?_
            show Goes p e below _ (s₁.setTop (mkF m 69 #[vi ((x_.toUInt32 >>> ((16 : Int32) &&& 31).toUInt32).toInt32), vi ((15 : Int32) + (-2 : Int32))] []))
            rw [show ((15 : Int32) + (-2 : Int32)) = (13 : Int32) from by decide]
            show Goes p e below _ (s₁.setTop (mkF m 69 #[vi ((x_.toUInt32 >>> ((16 : Int32) &&& 31).toUInt32).toInt32), vi (13 : Int32)] []))
            refine gILN X0 hx hby d21_69 rfl ?_
            refine gIC (z := 2) X0 hx hby d21_70 rfl ?_
            refine Goes.via (fun _ kk_ => XS.iushr X0.here hx rfl (hb hby d21_71) rfl kk_) ?_
            show Goes p e below _ (s₁.setTop (mkF m 72 #[vi ((x_.toUInt32 >>> ((16 : Int32) &&& 31).toUInt32).toInt32), vi (13 : Int32)] [(.int ((((x_.toUInt32 >>> ((16 : Int32) &&& 31).toUInt32).toInt32).toUInt32 >>> ((2 : Int32) &&& 31).toUInt32).toInt32))]))
            refine Goes.via (fun _ kk_ => XS.istoreN X0.here hx rfl (hb hby d21_72) rfl (l' := #[vi ((((x_.toUInt32 >>> ((16 : Int32) &&& 31).toUInt32).toInt32).toUInt32 >>> ((2 : Int32) &&& 31).toUInt32).toInt32), vi (13 : Int32)]) rfl kk_) ?_
            show Goes p e below _ (s₁.setTop (mkF m 73 #[vi ((((x_.toUInt32 >>> ((16 : Int32) &&& 31).toUInt32).toInt32).toUInt32 >>> ((2 : Int32) &&& 31).toUInt32).toInt32), vi (13 : Int32)] []))
            refine gILN X0 hx hby d21_73 rfl ?_
            refine gILN X0 hx hby d21_74 rfl ?_
            refine gIC (z := 1) X0 hx hby d21_75 rfl ?_
            refine Goes.via (fun _ kk_ => XS.iushr X0.here hx rfl (hb hby d21_76) rfl kk_) ?_
            show Goes p e below _ (s₁.setTop (mkF m 77 #[vi ((((x_.toUInt32 >>> ((16 : Int32) &&& 31).toUInt32).toInt32).toUInt32 >>> ((2 : Int32) &&& 31).toUInt32).toInt32), vi (13 : Int32)] [(.int ((((((x_.toUInt32 >>> ((16 : Int32) &&& 31).toUInt32).toInt32).toUInt32 >>> ((2 : Int32) &&& 31).toUInt32).toInt32).toUInt32 >>> ((1 : Int32) &&& 31).toUInt32).toInt32)), (.int (13 : Int32))]))
            refine Goes.via (fun _ kk_ => XS.isub X0.here hx rfl (hb hby d21_77) rfl kk_) ?_
            show Goes p e below _ (s₁.setTop (mkF m 78 #[vi ((((x_.toUInt32 >>> ((16 : Int32) &&& 31).toUInt32).toInt32).toUInt32 >>> ((2 : Int32) &&& 31).toUInt32).toInt32), vi (13 : Int32)] [(.int ((13 : Int32) - ((((((x_.toUInt32 >>> ((16 : Int32) &&& 31).toUInt32).toInt32).toUInt32 >>> ((2 : Int32) &&& 31).toUInt32).toInt32).toUInt32 >>> ((1 : Int32) &&& 31).toUInt32).toInt32)))]))
            exact own_finI X0 hx hlk hret (hb hby d21_78) (by rw [e0]; exact ⟨(by rw [own_nlzI, if_pos hc1, if_neg hc22, if_pos hc37, if_pos hc51, if_neg hc63]; first | done | rfl | exact own_nc _), rfl, rfl⟩) (by first | decide | omega | (dsimp only; omega)) (by first | decide | omega | (dsimp only; omega))
        · skip
          refine Goes.via (fun _ kk_ => XS.icmpNo X0.here hx rfl (hb hby d21_51) rfl (flt hc51).1 kk_) ?_
          show Goes p e below _ (s₁.setTop (mkF m 54 #[vi ((x_.toUInt32 >>> ((16 : Int32) &&& 31).toUInt32).toInt32), vi (15 : Int32)] []))
          refine Goes.via (fun _ kk_ => XS.iinc X0.here hx rfl (hb hby d21_54) rfl (l' := #[vi ((x_.toUInt32 >>> ((16 : Int32) &&& 31).toUInt32).toInt32), vi ((15 : Int32) + (-4 : Int32))]) rfl kk_) ?_
          show Goes p e below _ (s₁.setTop (mkF m 57 #[vi ((x_.toUInt32 >>> ((16 : Int32) &&& 31).toUInt32).toInt32), vi ((15 : Int32) + (-4 : Int32))] []))
          rw [show ((15 : Int32) + (-4 : Int32)) = (11 : Int32) from by decide]
          show Goes p e below _ (s₁.setTop (mkF m 57 #[vi ((x_.toUInt32 >>> ((16 : Int32) &&& 31).toUInt32).toInt32), vi (11 : Int32)] []))
          refine gILN X0 hx hby d21_57 rfl ?_
          refine gIC (z := 4) X0 hx hby d21_58 rfl ?_
          refine Goes.via (fun _ kk_ => XS.iushr X0.here hx rfl (hb hby d21_59) rfl kk_) ?_
          show Goes p e below _ (s₁.setTop (mkF m 60 #[vi ((x_.toUInt32 >>> ((16 : Int32) &&& 31).toUInt32).toInt32), vi (11 : Int32)] [(.int ((((x_.toUInt32 >>> ((16 : Int32) &&& 31).toUInt32).toInt32).toUInt32 >>> ((4 : Int32) &&& 31).toUInt32).toInt32))]))
          refine Goes.via (fun _ kk_ => XS.istoreN X0.here hx rfl (hb hby d21_60) rfl (l' := #[vi ((((x_.toUInt32 >>> ((16 : Int32) &&& 31).toUInt32).toInt32).toUInt32 >>> ((4 : Int32) &&& 31).toUInt32).toInt32), vi (11 : Int32)]) rfl kk_) ?_
          show Goes p e below _ (s₁.setTop (mkF m 61 #[vi ((((x_.toUInt32 >>> ((16 : Int32) &&& 31).toUInt32).toInt32).toUInt32 >>> ((4 : Int32) &&& 31).toUInt32).toInt32), vi (11 : Int32)] []))
          refine gILN X0 hx hby d21_61 rfl ?_
          refine gIC (z := 4) X0 hx hby d21_62 rfl ?_
          by_cases hc63 : ((((x_.toUInt32 >>> ((16 : Int32) &&& 31).toUInt32).toInt32).toUInt32 >>> ((4 : Int32) &&& 31).toUInt32).toInt32) < (4 : Int32)
          · skip
            refine Goes.via (fun _ kk_ => XS.icmpYes X0.here hx rfl (pc0 := 63) (pc' := 73) rfl (hb hby d21_63) rfl (tlt hc63).1 (by decide) (by decide) kk_) ?_
            show Goes p e below _ (s₁.setTop (mkF m 73 #[vi ((((x_.toUInt32 >>> ((16 : Int32) &&& 31).toUInt32).toInt32).toUInt32 >>> ((4 : Int32) &&& 31).toUInt32).toInt32), vi (11 : Int32)] []))
            refine gILN X0 hx hby d21_73 rfl ?_
            refine gILN X0 hx hby d21_74 rfl ?_
            refine gIC (z := 1) X0 hx hby d21_75 rfl ?_
            refine Goes.via (fun _ kk_ => XS.iushr X0.here hx rfl (hb hby d21_76) rfl kk_) ?_
            show Goes p e below _ (s₁.setTop (mkF m 77 #[vi ((((x_.toUInt32 >>> ((16 : Int32) &&& 31).toUInt32).toInt32).toUInt32 >>> ((4 : Int32) &&& 31).toUInt32).toInt32), vi (11 : Int32)] [(.int ((((((x_.toUInt32 >>> ((16 : Int32) &&& 31).toUInt32).toInt32).toUInt32 >>> ((4 : Int32) &&& 31).toUInt32).toInt32).toUInt32 >>> ((1 : Int32) &&& 31).toUInt32).toInt32)), (.int (11 : Int32))]))
            refine Goes.via (fun _ kk_ => XS.isub X0.here hx rfl (hb hby d21_77) rfl kk_) ?_
            show Goes p e below _ (s₁.setTop (mkF m 78 #[vi ((((x_.toUInt32 >>> ((16 : Int32) &&& 31).toUInt32).toInt32).toUInt32 >>> ((4 : Int32) &&& 31).toUInt32).toInt32), vi (11 : Int32)] [(.int ((11 : Int32) - ((((((x_.toUInt32 >>> ((16 : Int32) &&& 31).toUInt32).toInt32).toUInt32 >>> ((4 : Int32) &&& 31).toUInt32).toInt32).toUInt32 >>> ((1 : Int32) &&& 31).toUInt32).toInt32)))]))
            exact own_finI X0 hx hlk hret (hb hby d21_78) (by rw [e0]; exact ⟨(by rw [own_nlzI, if_pos hc1, if_neg hc22, if_pos hc37, if_neg hc51, if_pos hc63]; first | done | rfl | exact own_nc _), rfl, rfl⟩) (by first | decide | omega | (dsimp only; omega)) (by first | decide | omega | (dsimp only; omega))
          · skip
            refine Goes.via (fun _ kk_ => XS.icmpNo X0.here hx rfl (hb hby d21_63) rfl (flt hc63).1 kk_) ?_
            show Goes p e below _ (s₁.setTop (mkF m 66 #[vi ((((x_.toUInt32 >>> ((16 : Int32) &&& 31).toUInt32).toInt32).toUInt32 >>> ((4 : Int32) &&& 31).toUInt32).toInt32), vi (11 : Int32)] []))
            refine Goes.via (fun _ kk_ => XS.iinc X0.here hx rfl (hb hby d21_66) rfl (l' := #[vi ((((x_.toUInt32 >>> ((16 : Int32) &&& 31).toUInt32).toInt32).toUInt32 >>> ((4 : Int32) &&& 31).toUInt32).toInt32), vi ((11 : Int32) + (-2 : Int32))]) rfl kk_) ?_
            show Goes p e below _ (s₁.setTop (mkF m 69 #[vi ((((x_.toUInt32 >>> ((16 : Int32) &&& 31).toUInt32).toInt32).toUInt32 >>> ((4 : Int32) &&& 31).toUInt32).toInt32), vi ((11 : Int32) + (-2 : Int32))] []))
            rw [show ((11 : Int32) + (-2 : Int32)) = (9 : Int32) from by decide]
            show Goes p e below _ (s₁.setTop (mkF m 69 #[vi ((((x_.toUInt32 >>> ((16 : Int32) &&& 31).toUInt32).toInt32).toUInt32 >>> ((4 : Int32) &&& 31).toUInt32).toInt32), vi (9 : Int32)] []))
            refine gILN X0 hx hby d21_69 rfl ?_
            refine gIC (z := 2) X0 hx hby d21_70 rfl ?_
            refine Goes.via (fun _ kk_ => XS.iushr X0.here hx rfl (hb hby d21_71) rfl kk_) ?_
            show Goes p e below _ (s₁.setTop (mkF m 72 #[vi ((((x_.toUInt32 >>> ((16 : Int32) &&& 31).toUInt32).toInt32).toUInt32 >>> ((4 : Int32) &&& 31).toUInt32).toInt32), vi (9 : Int32)] [(.int ((((((x_.toUInt32 >>> ((16 : Int32) &&& 31).toUInt32).toInt32).toUInt32 >>> ((4 : Int32) &&& 31).toUInt32).toInt32).toUInt32 >>> ((2 : Int32) &&& 31).toUInt32).toInt32))]))
            refine Goes.via (fun _ kk_ => XS.istoreN X0.here hx rfl (hb hby d21_72) rfl (l' := #[vi ((((((x_.toUInt32 >>> ((16 : Int32) &&& 31).toUInt32).toInt32).toUInt32 >>> ((4 : Int32) &&& 31).toUInt32).toInt32).toUInt32 >>> ((2 : Int32) &&& 31).toUInt32).toInt32), vi (9 : Int32)]) rfl kk_) ?_
            show Goes p e below _ (s₁.setTop (mkF m 73 #[vi ((((((x_.toUInt32 >>> ((16 : Int32) &&& 31).toUInt32).toInt32).toUInt32 >>> ((4 : Int32) &&& 31).toUInt32).toInt32).toUInt32 >>> ((2 : Int32) &&& 31).toUInt32).toInt32), vi (9 : Int32)] []))
            refine gILN X0 hx hby d21_73 rfl ?_
            refine gILN X0 hx hby d21_74 rfl ?_
            refine gIC (z := 1) X0 hx hby d21_75 rfl ?_
            refine Goes.via (fun _ kk_ => XS.iushr X0.here hx rfl (hb hby d21_76) rfl kk_) ?_
            show Goes p e below _ (s₁.setTop (mkF m 77 #[vi ((((((x_.toUInt32 >>> ((16 : Int32) &&& 31).toUInt32).toInt32).toUInt32 >>> ((4 : Int32) &&& 31).toUInt32).toInt32).toUInt32 >>> ((2 : Int32) &&& 31).toUInt32).toInt32), vi (9 : Int32)] [(.int ((((((((x_.toUInt32 >>> ((16 : Int32) &&& 31).toUInt32).toInt32).toUInt32 >>> ((4 : Int32) &&& 31).toUInt32).toInt32).toUInt32 >>> ((2 : Int32) &&& 31).toUInt32).toInt32).toUInt32 >>> ((1 : Int32) &&& 31).toUInt32).toInt32)), (.int (9 : Int32))]))
            refine Goes.via (fun _ kk_ => XS.isub X0.here hx rfl (hb hby d21_77) rfl kk_) ?_
            show Goes p e below _ (s₁.setTop (mkF m 78 #[vi ((((((x_.toUInt32 >>> ((16 : Int32) &&& 31).toUInt32).toInt32).toUInt32 >>> ((4 : Int32) &&& 31).toUInt32).toInt32).toUInt32 >>> ((2 : Int32) &&& 31).toUInt32).toInt32), vi (9 : Int32)] [(.int ((9 : Int32) - ((((((((x_.toUInt32 >>> ((16 : Int32) &&& 31).toUInt32).toInt32).toUInt32 >>> ((4 : Int32) &&& 31).toUInt32).toInt32).toUInt32 >>> ((2 : Int32) &&& 31).toUInt32).toInt32).toUInt32 >>> ((1 : Int32) &&& 31).toUInt32).toInt32)))]))
            exact own_finI X0 hx hlk hret (hb hby d21_78) (by rw [e0]; exact ⟨(by rw [own_nlzI, if_pos hc1, if_neg hc22, if_pos hc37, if_neg hc51, if_neg hc63]; first | done | rfl | exact own_nc _), rfl, rfl⟩) (by first | decide | omega | (dsimp only; omega)) (by first | decide | omega | (dsimp only; omega))
      · skip
        refine Goes.via (fun _ kk_ => XS.icmpNo X0.here hx rfl (hb hby d21_37) rfl (flt hc37).1 kk_) ?_
        show Goes p e below _ (s₁.setTop (mkF m 40 #[vi ((x_.toUInt32 >>> ((16 : Int32) &&& 31).toUInt32).toInt32), vi (15 : Int32)] []))
        refine Goes.via (fun _ kk_ => XS.iinc X0.here hx rfl (hb hby d21_40) rfl (l' := #[vi ((x_.toUInt32 >>> ((16 : Int32) &&& 31).toUInt32).toInt32), vi ((15 : Int32) + (-8 : Int32))]) rfl kk_) ?_
        show Goes p e below _ (s₁.setTop (mkF m 43 #[vi ((x_.toUInt32 >>> ((16 : Int32) &&& 31).toUInt32).toInt32), vi ((15 : Int32) + (-8 : Int32))] []))
        rw [show ((15 : Int32) + (-8 : Int32)) = (7 : Int32) from by decide]
        show Goes p e below _ (s₁.setTop (mkF m 43 #[vi ((x_.toUInt32 >>> ((16 : Int32) &&& 31).toUInt32).toInt32), vi (7 : Int32)] []))
        refine gILN X0 hx hby d21_43 rfl ?_
        refine gBI (z := 8) X0 hx hby d21_44 rfl ?_
        refine Goes.via (fun _ kk_ => XS.iushr X0.here hx rfl (hb hby d21_46) rfl kk_) ?_
        show Goes p e below _ (s₁.setTop (mkF m 47 #[vi ((x_.toUInt32 >>> ((16 : Int32) &&& 31).toUInt32).toInt32), vi (7 : Int32)] [(.int ((((x_.toUInt32 >>> ((16 : Int32) &&& 31).toUInt32).toInt32).toUInt32 >>> ((8 : Int32) &&& 31).toUInt32).toInt32))]))
        refine Goes.via (fun _ kk_ => XS.istoreN X0.here hx rfl (hb hby d21_47) rfl (l' := #[vi ((((x_.toUInt32 >>> ((16 : Int32) &&& 31).toUInt32).toInt32).toUInt32 >>> ((8 : Int32) &&& 31).toUInt32).toInt32), vi (7 : Int32)]) rfl kk_) ?_
        show Goes p e below _ (s₁.setTop (mkF m 48 #[vi ((((x_.toUInt32 >>> ((16 : Int32) &&& 31).toUInt32).toInt32).toUInt32 >>> ((8 : Int32) &&& 31).toUInt32).toInt32), vi (7 : Int32)] []))
        refine gILN X0 hx hby d21_48 rfl ?_
        refine gBI (z := 16) X0 hx hby d21_49 rfl ?_
        by_cases hc51 : ((((x_.toUInt32 >>> ((16 : Int32) &&& 31).toUInt32).toInt32).toUInt32 >>> ((8 : Int32) &&& 31).toUInt32).toInt32) < (16 : Int32)
        · skip
          refine Goes.via (fun _ kk_ => XS.icmpYes X0.here hx rfl (pc0 := 51) (pc' := 61) rfl (hb hby d21_51) rfl (tlt hc51).1 (by decide) (by decide) kk_) ?_
          show Goes p e below _ (s₁.setTop (mkF m 61 #[vi ((((x_.toUInt32 >>> ((16 : Int32) &&& 31).toUInt32).toInt32).toUInt32 >>> ((8 : Int32) &&& 31).toUInt32).toInt32), vi (7 : Int32)] []))
          refine gILN X0 hx hby d21_61 rfl ?_
          refine gIC (z := 4) X0 hx hby d21_62 rfl ?_
          by_cases hc63 : ((((x_.toUInt32 >>> ((16 : Int32) &&& 31).toUInt32).toInt32).toUInt32 >>> ((8 : Int32) &&& 31).toUInt32).toInt32) < (4 : Int32)
          · skip
            refine Goes.via (fun _ kk_ => XS.icmpYes X0.here hx rfl (pc0 := 63) (pc' := 73) rfl (hb hby d21_63) rfl (tlt hc63).1 (by decide) (by decide) kk_) ?_
            show Goes p e below _ (s₁.setTop (mkF m 73 #[vi ((((x_.toUInt32 >>> ((16 : Int32) &&& 31).toUInt32).toInt32).toUInt32 >>> ((8 : Int32) &&& 31).toUInt32).toInt32), vi (7 : Int32)] []))
            refine gILN X0 hx hby d21_73 rfl ?_
            refine gILN X0 hx hby d21_74 rfl ?_
            refine gIC (z := 1) X0 hx hby d21_75 rfl ?_
            refine Goes.via (fun _ kk_ => XS.iushr X0.here hx rfl (hb hby d21_76) rfl kk_) ?_
            show Goes p e below _ (s₁.setTop (mkF m 77 #[vi ((((x_.toUInt32 >>> ((16 : Int32) &&& 31).toUInt32).toInt32).toUInt32 >>> ((8 : Int32) &&& 31).toUInt32).toInt32), vi (7 : Int32)] [(.int ((((((x_.toUInt32 >>> ((16 : Int32) &&& 31).toUInt32).toInt32).toUInt32 >>> ((8 : Int32) &&& 31).toUInt32).toInt32).toUInt32 >>> ((1 : Int32) &&& 31).toUInt32).toInt32)), (.int (7 : Int32))]))
            refine Goes.via (fun _ kk_ => XS.isub X0.here hx rfl (hb hby d21_77) rfl kk_) ?_
            show Goes p e below _ (s₁.setTop (mkF m 78 #[vi ((((x_.toUInt32 >>> ((16 : Int32) &&& 31).toUInt32).toInt32).toUInt32 >>> ((8 : Int32) &&& 31).toUInt32).toInt32), vi (7 : Int32)] [(.int ((7 : Int32) - ((((((x_.toUInt32 >>> ((16 : Int32) &&& 31).toUInt32).toInt32).toUInt32 >>> ((8 : Int32) &&& 31).toUInt32).toInt32).toUInt32 >>> ((1 : Int32) &&& 31).toUInt32).toInt32)))]))
            exact own_finI X0 hx hlk hret (hb hby d21_78) (by rw [e0]; exact ⟨(by rw [own_nlzI, if_pos hc1, if_neg hc22, if_neg hc37, if_pos hc51, if_pos hc63]; first | done | rfl | exact own_nc _), rfl, rfl⟩) (by first | decide | omega | (dsimp only; omega)) (by first | decide | omega | (dsimp only; omega))
          · skip
            refine Goes.via (fun _ kk_ => XS.icmpNo X0.here hx rfl (hb hby d21_63) rfl (flt hc63).1 kk_) ?_
            show Goes p e below _ (s₁.setTop (mkF m 66 #[vi ((((x_.toUInt32 >>> ((16 : Int32) &&& 31).toUInt32).toInt32).toUInt32 >>> ((8 : Int32) &&& 31).toUInt32).toInt32), vi (7 : Int32)] []))
            refine Goes.via (fun _ kk_ => XS.iinc X0.here hx rfl (hb hby d21_66) rfl (l' := #[vi ((((x_.toUInt32 >>> ((16 : Int32) &&& 31).toUInt32).toInt32).toUInt32 >>> ((8 : Int32) &&& 31).toUInt32).toInt32), vi ((7 : Int32) + (-2 : Int32))]) rfl kk_) ?_
            show Goes p e below _ (s₁.setTop (mkF m 69 #[vi ((((x_.toUInt32 >>> ((16 : Int32) &&& 31).toUInt32).toInt32).toUInt32 >>> ((8 : Int32) &&& 31).toUInt32).toInt32), vi ((7 : Int32) + (-2 : Int32))] []))
            rw [show ((7 : Int32) + (-2 : Int32)) = (5 : Int32) from by decide]
            show Goes p e below _ (s₁.setTop (mkF m 69 #[vi ((((x_.toUInt32 >>> ((16 : Int32) &&& 31).toUInt32).toInt32).toUInt32 >>> ((8 : Int32) &&& 31).toUInt32).toInt32), vi (5 : Int32)] []))
            refine gILN X0 hx hby d21_69 rfl ?_
            refine gIC (z := 2) X0 hx hby d21_70 rfl ?_
            refine Goes.via (fun _ kk_ => XS.iushr X0.here hx rfl (hb hby d21_71) rfl kk_) ?_
            show Goes p e below _ (s₁.setTop (mkF m 72 #[vi ((((x_.toUInt32 >>> ((16 : Int32) &&& 31).toUInt32).toInt32).toUInt32 >>> ((8 : Int32) &&& 31).toUInt32).toInt32), vi (5 : Int32)] [(.int ((((((x_.toUInt32 >>> ((16 : Int32) &&& 31).toUInt32).toInt32).toUInt32 >>> ((8 : Int32) &&& 31).toUInt32).toInt32).toUInt32 >>> ((2 : Int32) &&& 31).toUInt32).toInt32))]))
            refine Goes.via (fun _ kk_ => XS.istoreN X0.here hx rfl (hb hby d21_72) rfl (l' := #[vi ((((((x_.toUInt32 >>> ((16 : Int32) &&& 31).toUInt32).toInt32).toUInt32 >>> ((8 : Int32) &&& 31).toUInt32).toInt32).toUInt32 >>> ((2 : Int32) &&& 31).toUInt32).toInt32), vi (5 : Int32)]) rfl kk_) ?_
            show Goes p e below _ (s₁.setTop (mkF m 73 #[vi ((((((x_.toUInt32 >>> ((16 : Int32) &&& 31).toUInt32).toInt32).toUInt32 >>> ((8 : Int32) &&& 31).toUInt32).toInt32).toUInt32 >>> ((2 : Int32) &&& 31).toUInt32).toInt32), vi (5 : Int32)] []))
            refine gILN X0 hx hby d21_73 rfl ?_
            refine gILN X0 hx hby d21_74 rfl ?_
            refine gIC (z := 1) X0 hx hby d21_75 rfl ?_
            refine Goes.via (fun _ kk_ => XS.iushr X0.here hx rfl (hb hby d21_76) rfl kk_) ?_
            show Goes p e below _ (s₁.setTop (mkF m 77 #[vi ((((((x_.toUInt32 >>> ((16 : Int32) &&& 31).toUInt32).toInt32).toUInt32 >>> ((8 : Int32) &&& 31).toUInt32).toInt32).toUInt32 >>> ((2 : Int32) &&& 31).toUInt32).toInt32), vi (5 : Int32)] [(.int ((((((((x_.toUInt32 >>> ((16 : Int32) &&& 31).toUInt32).toInt32).toUInt32 >>> ((8 : Int32) &&& 31).toUInt32).toInt32).toUInt32 >>> ((2 : Int32) &&& 31).toUInt32).toInt32).toUInt32 >>> ((1 : Int32) &&& 31).toUInt32).toInt32)), (.int (5 : Int32))]))
            refine Goes.via (fun _ kk_ => XS.isub X0.here hx rfl (hb hby d21_77) rfl kk_) ?_
            show Goes p e below _ (s₁.setTop (mkF m 78 #[vi ((((((x_.toUInt32 >>> ((16 : Int32) &&& 31).toUInt32).toInt32).toUInt32 >>> ((8 : Int32) &&& 31).toUInt32).toInt32).toUInt32 >>> ((2 : Int32) &&& 31).toUInt32).toInt32), vi (5 : Int32)] [(.int ((5 : Int32) - ((((((((x_.toUInt32 >>> ((16 : Int32) &&& 31).toUInt32).toInt32).toUInt32 >>> ((8 : Int32) &&& 31).toUInt32).toInt32).toUInt32 >>> ((2 : Int32) &&& 31).toUInt32).toInt32).toUInt32 >>> ((1 : Int32) &&& 31).toUInt32).toInt32)))]))
            exact own_finI X0 hx hlk hret (hb hby d21_78) (by rw [e0]; exact ⟨(by rw [own_nlzI, if_pos hc1, if_neg hc22, if_neg hc37, if_pos hc51, if_neg hc63]; first | done | rfl | exact own_nc _), rfl, rfl⟩) (by first | decide | omega | (dsimp only; omega)) (by first | decide | omega | (dsimp only; omega))
        · skip
          refine Goes.via (fun _ kk_ => XS.icmpNo X0.here hx rfl (hb hby d21_51) rfl (flt hc51).1 kk_) ?_
          show Goes p e below _ (s₁.setTop (mkF m 54 #[vi ((((x_.toUInt32 >>> ((16 : Int32) &&& 31).toUInt32).toInt32).toUInt32 >>> ((8 : Int32) &&& 31).toUInt32).toInt32), vi (7 : Int32)] []))
          refine Goes.via (fun _ kk_ => XS.iinc X0.here hx rfl (hb hby d21_54) rfl (l' := #[vi ((((x_.toUInt32 >>> ((16 : Int32) &&& 31).toUInt32).toInt32).toUInt32 >>> ((8 : Int32) &&& 31).toUInt32).toInt32), vi ((7 : Int32) + (-4 : Int32))]) rfl kk_) ?_
          show Goes p e below _ (s₁.setTop (mkF m 57 #[vi ((((x_.toUInt32 >>> ((16 : Int32) &&& 31).toUInt32).toInt32).toUInt32 >>> ((8 : Int32) &&& 31).toUInt32).toInt32), vi ((7 : Int32) + (-4 : Int32))] []))
          rw [show ((7 : Int32) + (-4 : Int32)) = (3 : Int32) from by decide]
          show Goes p e below _ (s₁.setTop (mkF m 57 #[vi ((((x_.toUInt32 >>> ((16 : Int32) &&& 31).toUInt32).toInt32).toUInt32 >>> ((8 : Int32) &&& 31).toUInt32).toInt32), vi (3 : Int32)] []))
          refine gILN X0 hx hby d21_57 rfl ?_
          refine gIC (z := 4) X0 hx hby d21_58 rfl ?_
          refine Goes.via (fun _ kk_ => XS.iushr X0.here hx rfl (hb hby d21_59) rfl kk_) ?_
          show Goes p e below _ (s₁.setTop (mkF m 60 #[vi ((((x_.toUInt32 >>> ((16 : Int32) &&& 31).toUInt32).toInt32).toUInt32 >>> ((8 : Int32) &&& 31).toUInt32).toInt32), vi (3 : Int32)] [(.int ((((((x_.toUInt32 >>> ((16 : Int32) &&& 31).toUInt32).toInt32).toUInt32 >>> ((8 : Int32) &&& 31).toUInt32).toInt32).toUInt32 >>> ((4 : Int32) &&& 31).toUInt32).toInt32))]))
          refine Goes.via (fun _ kk_ => XS.istoreN X0.here hx rfl (hb hby d21_60) rfl (l' := #[vi ((((((x_.toUInt32 >>> ((16 : Int32) &&& 31).toUInt32).toInt32).toUInt32 >>> ((8 : Int32) &&& 31).toUInt32).toInt32).toUInt32 >>> ((4 : Int32) &&& 31).toUInt32).toInt32), vi (3 : Int32)]) rfl kk_) ?_
          show Goes p e below _ (s₁.setTop (mkF m 61 #[vi ((((((x_.toUInt32 >>> ((16 : Int32) &&& 31).toUInt32).toInt32).toUInt32 >>> ((8 : Int32) &&& 31).toUInt32).toInt32).toUInt32 >>> ((4 : Int32) &&& 31).toUInt32).toInt32), vi (3 : Int32)] []))
          refine gILN X0 hx hby d21_61 rfl ?_
          refine gIC (z := 4) X0 hx hby d21_62 rfl ?_
          by_cases hc63 : ((((((x_.toUInt32 >>> ((16 : Int32) &&& 31).toUInt32).toInt32).toUInt32 >>> ((8 : Int32) &&& 31).toUInt32).toInt32).toUInt32 >>> ((4 : Int32) &&& 31).toUInt32).toInt32) < (4 : Int32)
          · skip
            refine Goes.via (fun _ kk_ => XS.icmpYes X0.here hx rfl (pc0 := 63) (pc' := 73) rfl (hb hby d21_63) rfl (tlt hc63).1 (by decide) (by decide) kk_) ?_
            show Goes p e below _ (s₁.setTop (mkF m 73 #[vi ((((((x_.toUInt32 >>> ((16 : Int32) &&& 31).toUInt32).toInt32).toUInt32 >>> ((8 : Int32) &&& 31).toUInt32).toInt32).toUInt32 >>> ((4 : Int32) &&& 31).toUInt32).toInt32), vi (3 : Int32)] []))
            refine gILN X0 hx hby d21_73 rfl ?_
            refine gILN X0 hx hby d21_74 rfl ?_
            refine gIC (z := 1) X0 hx hby d21_75 rfl ?_
            refine Goes.via (fun _ kk_ => XS.iushr X0.here hx rfl (hb hby d21_76) rfl kk_) ?_
            show Goes p e below _ (s₁.setTop (mkF m 77 #[vi ((((((x_.toUInt32 >>> ((16 : Int32) &&& 31).toUInt32).toInt32).toUInt32 >>> ((8 : Int32) &&& 31).toUInt32).toInt32).toUInt32 >>> ((4 : Int32) &&& 31).toUInt32).toInt32), vi (3 : Int32)] [(.int ((((((((x_.toUInt32 >>> ((16 : Int32) &&& 31).toUInt32).toInt32).toUInt32 >>> ((8 : Int32) &&& 31).toUInt32).toInt32).toUInt32 >>> ((4 : Int32) &&& 31).toUInt32).toInt32).toUInt32 >>> ((1 : Int32) &&& 31).toUInt32).toInt32)), (.int (3 : Int32))]))
            refine Goes.via (fun _ kk_ => XS.isub X0.here hx rfl (hb hby d21_77) rfl kk_) ?_
            show Goes p e below _ (s₁.setTop (mkF m 78 #[vi ((((((x_.toUInt32 >>> ((16 : Int32) &&& 31).toUInt32).toInt32).toUInt32 >>> ((8 : Int32) &&& 31).toUInt32).toInt32).toUInt32 >>> ((4 : Int32) &&& 31).toUInt32).toInt32), vi (3 : Int32)] [(.int ((3 : Int32) - ((((((((x_.toUInt32 >>> ((16 : Int32) &&& 31).toUInt32).toInt32).toUInt32 >>> ((8 : Int32) &&& 31).toUInt32).toInt32).toUInt32 >>> ((4 : Int32) &&& 31).toUInt32).toInt32).toUInt32 >>> ((1 : Int32) &&& 31).toUInt32).toInt32)))]))
            exact own_finI X0 hx hlk hret (hb hby d21_78) (by rw [e0]; exact ⟨(by rw [own_nlzI, if_pos hc1, if_neg hc22, if_neg hc37, if_neg hc51, if_pos hc63]; first | done | rfl | exact own_nc _), rfl, rfl⟩) (by first | decide | omega | (dsimp only; omega)) (by first | decide | omega | (dsimp only; omega))
          · skip
            refine Goes.via (fun _ kk_ => XS.icmpNo X0.here hx rfl (hb hby d21_63) rfl (flt hc63).1 kk_) ?_
            show Goes p e below _ (s₁.setTop (mkF m 66 #[vi ((((((x_.toUInt32 >>> ((16 : Int32) &&& 31).toUInt32).toInt32).toUInt32 >>> ((8 : Int32) &&& 31).toUInt32).toInt32).toUInt32 >>> ((4 : Int32) &&& 31).toUInt32).toInt32), vi (3 : Int32)] []))
            refine Goes.via (fun _ kk_ => XS.iinc X0.here hx rfl (hb hby d21_66) rfl (l' := #[vi ((((((x_.toUInt32 >>> ((16 : Int32) &&& 31).toUInt32).toInt32).toUInt32 >>> ((8 : Int32) &&& 31).toUInt32).toInt32).toUInt32 >>> ((4 : Int32) &&& 31).toUInt32).toInt32), vi ((3 : Int32) + (-2 : Int32))]) rfl kk_) ?_
            show Goes p e below _ (s₁.setTop (mkF m 69 #[vi ((((((x_.toUInt32 >>> ((16 : Int32) &&& 31).toUInt32).toInt32).toUInt32 >>> ((8 : Int32) &&& 31).toUInt32).toInt32).toUInt32 >>> ((4 : Int32) &&& 31).toUInt32).toInt32), vi ((3 : Int32) + (-2 : Int32))] []))
            rw [show ((3 : Int32) + (-2 : Int32)) = (1 : Int32) from by decide]
            show Goes p e below _ (s₁.setTop (mkF m 69 #[vi ((((((x_.toUInt32 >>> ((16 : Int32) &&& 31).toUInt32).toInt32).toUInt32 >>> ((8 : Int32) &&& 31).toUInt32).toInt32).toUInt32 >>> ((4 : Int32) &&& 31).toUInt32).toInt32), vi (1 : Int32)] []))
            refine gILN X0 hx hby d21_69 rfl ?_
            refine gIC (z := 2) X0 hx hby d21_70 rfl ?_
            refine Goes.via (fun _ kk_ => XS.iushr X0.here hx rfl (hb hby d21_71) rfl kk_) ?_
            show Goes p e below _ (s₁.setTop (mkF m 72 #[vi ((((((x_.toUInt32 >>> ((16 : Int32) &&& 31).toUInt32).toInt32).toUInt32 >>> ((8 : Int32) &&& 31).toUInt32).toInt32).toUInt32 >>> ((4 : Int32) &&& 31).toUInt32).toInt32), vi (1 : Int32)] [(.int ((((((((x_.toUInt32 >>> ((16 : Int32) &&& 31).toUInt32).toInt32).toUInt32 >>> ((8 : Int32) &&& 31).toUInt32).toInt32).toUInt32 >>> ((4 : Int32) &&& 31).toUInt32).toInt32).toUInt32 >>> ((2 : Int32) &&& 31).toUInt32).toInt32))]))
            refine Goes.via (fun _ kk_ => XS.istoreN X0.here hx rfl (hb hby d21_72) rfl (l' := #[vi ((((((((x_.toUInt32 >>> ((16 : Int32) &&& 31).toUInt32).toInt32).toUInt32 >>> ((8 : Int32) &&& 31).toUInt32).toInt32).toUInt32 >>> ((4 : Int32) &&& 31).toUInt32).toInt32).toUInt32 >>> ((2 : Int32) &&& 31).toUInt32).toInt32), vi (1 : Int32)]) rfl kk_) ?_
            show Goes p e below _ (s₁.setTop (mkF m 73 #[vi ((((((((x_.toUInt32 >>> ((16 : Int32) &&& 31).toUInt32).toInt32).toUInt32 >>> ((8 : Int32) &&& 31).toUInt32).toInt32).toUInt32 >>> ((4 : Int32) &&& 31).toUInt32).toInt32).toUInt32 >>> ((2 : Int32) &&& 31).toUInt32).toInt32), vi (1 : Int32)] []))
            refine gILN X0 hx hby d21_73 rfl ?_
            refine gILN X0 hx hby d21_74 rfl ?_
            refine gIC (z := 1) X0 hx hby d21_75 rfl ?_
            refine Goes.via (fun _ kk_ => XS.iushr X0.here hx rfl (hb hby d21_76) rfl kk_) ?_
            show Goes p e below _ (s₁.setTop (mkF m 77 #[vi ((((((((x_.toUInt32 >>> ((16 : Int32) &&& 31).toUInt32).toInt32).toUInt32 >>> ((8 : Int32) &&& 31).toUInt32).toInt32).toUInt32 >>> ((4 : Int32) &&& 31).toUInt32).toInt32).toUInt32 >>> ((2 : Int32) &&& 31).toUInt32).toInt32), vi (1 : Int32)] [(.int ((((((((((x_.toUInt32 >>> ((16 : Int32) &&& 31).toUInt32).toInt32).toUInt32 >>> ((8 : Int32) &&& 31).toUInt32).toInt32).toUInt32 >>> ((4 : Int32) &&& 31).toUInt32).toInt32).toUInt32 >>> ((2 : Int32) &&& 31).toUInt32).toInt32).toUInt32 >>> ((1 : Int32) &&& 31).toUInt32).toInt32)), (.int (1 : Int32))]))
            refine Goes.via (fun _ kk_ => XS.isub X0.here hx rfl (hb hby d21_77) rfl kk_) ?_
            show Goes p e below _ (s₁.setTop (mkF m 78 #[vi ((((((((x_.toUInt32 >>> ((16 : Int32) &&& 31).toUInt32).toInt32).toUInt32 >>> ((8 : Int32) &&& 31).toUInt32).toInt32).toUInt32 >>> ((4 : Int32) &&& 31).toUInt32).toInt32).toUInt32 >>> ((2 : Int32) &&& 31).toUInt32).toInt32), vi (1 : Int32)] [(.int ((1 : Int32) - ((((((((((x_.toUInt32 >>> ((16 : Int32) &&& 31).toUInt32).toInt32).toUInt32 >>> ((8 : Int32) &&& 31).toUInt32).toInt32).toUInt32 >>> ((4 : Int32) &&& 31).toUInt32).toInt32).toUInt32 >>> ((2 : Int32) &&& 31).toUInt32).toInt32).toUInt32 >>> ((1 : Int32) &&& 31).toUInt32).toInt32)))]))
            exact own_finI X0 hx hlk hret (hb hby d21_78) (by rw [e0]; exact ⟨(by rw [own_nlzI, if_pos hc1, if_neg hc22, if_neg hc37, if_neg hc51, if_neg hc63]; first | done | rfl | exact own_nc _), rfl, rfl⟩) (by first | decide | omega | (dsimp only; omega)) (by first | decide | omega | (dsimp only; omega))
  · skip
    refine Goes.via (fun _ kk_ => XS.ifNo X0.here hx rfl (hb hby d21_1) rfl ((if0 _ _).trans (flt hc1).2.2.1) kk_) ?_
    show Goes p e below _ (s₁.setTop (mkF m 4 #[vi x_, .unset] []))
    refine gILN X0 hx hby d21_4 rfl ?_
    by_cases hc5 : x_ = (0 : Int32)
    · skip
      refine Goes.via (fun _ kk_ => XS.ifNo X0.here hx rfl (hb hby d21_5) rfl ((if0 _ _).trans (teq hc5).2) kk_) ?_
      show Goes p e below _ (s₁.setTop (mkF m 8 #[vi x_, .unset] []))
      refine gBI (z := 32) X0 hx hby d21_8 rfl ?_
      refine Goes.via (fun _ kk_ => XS.goto X0.here hx rfl (pc0 := 10) (pc' := 14) rfl (hb hby d21_10) (by decide) (by decide) kk_) ?_
      show Goes p e below _ (s₁.setTop (mkF m 14 #[vi x_, .unset] [(.int (32 : Int32))]))
      exact own_finI X0 hx hlk hret (hb hby d21_14) (by rw [e0]; exact ⟨(by rw [own_nlzI, if_neg hc1, if_pos hc5]; first | done | rfl | exact own_nc _), rfl, rfl⟩) (by first | decide | omega | (dsimp only; omega)) (by first | decide | omega | (dsimp only; omega))
    · skip
      refine Goes.via (fun _ kk_ => XS.ifYes X0.here hx rfl (pc0 := 5) (pc' := 13) rfl (hb hby d21_5) rfl ((if0 _ _).trans (feq hc5).2) (by decide) (by decide) kk_) ?_
      show Goes p e below _ (s₁.setTop (mkF m 13 #[vi x_, .unset] []))
      refine gIC (z := 0) X0 hx hby d21_13 rfl ?_
      exact own_finI X0 hx hlk hret (hb hby d21_14) (by rw [e0]; exact ⟨(by rw [own_nlzI, if_neg hc1, if_neg hc5]; first | done | rfl | exact own_nc _), rfl, rfl⟩) (by first | decide | omega | (dsimp only; omega)) (by first | decide | omega | (dsimp only; omega))
def own_nlzL (x_ : Int64) : Int32 := (if (((x_.toUInt64 >>> ((32 : Int32) &&& 0x3f).toInt64.toUInt64).toInt64).toInt32) = (0 : Int32) then ((32 : Int32) + (own_nlzI (x_.toInt32))) else (own_nlzI (((x_.toUInt64 >>> ((32 : Int32) &&& 0x3f).toInt64.toUInt64).toInt64).toInt32)))
theorem ef_rm20 (m : MethodId) (x_ : Int64) : entryFrame m #[(.long x_)] 3 = mkF m 0 #[.val (.long x_), .second, .unset] [] := by first | (simp [entryFrame, mkF, argsToLocals, Value.category]; done) | rfl
def Qrm20 (Z : State) (x_ : Int64) (h0 : Heap) (n0 : Nat) (v_ : Option Value) (h_ : Heap) (L_ : List Loc) : Prop := v_ = some (.int (own_nlzL x_)) ∧ L_ = [] ∧ h_ = h0
theorem pn_java_lang_Long : plainName "java/lang/Long" = true := by first | (simp [plainName, overriddenIn]; done) | decide +kernel
theorem d20_0 : decode jdk_35_method_48_code 0 = .ok (.lload_n 0, 1) := by decide +kernel
theorem d20_1 : decode jdk_35_method_48_code 1 = .ok (.bipush 32, 2) := by decide +kernel
theorem d20_3 : decode jdk_35_method_48_code 3 = .ok (.lushr, 1) := by decide +kernel
theorem d20_4 : decode jdk_35_method_48_code 4 = .ok (.l2i, 1) := by decide +kernel
theorem d20_5 : decode jdk_35_method_48_code 5 = .ok (.istore_n 2, 1) := by decide +kernel
theorem d20_6 : decode jdk_35_method_48_code 6 = .ok (.iload_n 2, 1) := by decide +kernel
theorem d20_7 : decode jdk_35_method_48_code 7 = .ok (.ifCond .ne 14, 3) := by decide +kernel
theorem d20_10 : decode jdk_35_method_48_code 10 = .ok (.bipush 32, 2) := by decide +kernel
theorem d20_12 : decode jdk_35_method_48_code 12 = .ok (.lload_n 0, 1) := by decide +kernel
theorem d20_13 : decode jdk_35_method_48_code 13 = .ok (.l2i, 1) := by decide +kernel
theorem d20_14 : decode jdk_35_method_48_code 14 = .ok (.invokestatic 308, 3) := by decide +kernel
abbrev mN_Integer_numberOfLeadingZeros : MethodName := ⟨"java/lang/Integer", "numberOfLeadingZeros", "(I)I"⟩
theorem d20_17 : decode jdk_35_method_48_code 17 = .ok (.iadd, 1) := by decide +kernel
theorem d20_18 : decode jdk_35_method_48_code 18 = .ok (.goto 7, 3) := by decide +kernel
theorem d20_25 : decode jdk_35_method_48_code 25 = .ok (.ireturn, 1) := by decide +kernel
theorem d20_21 : decode jdk_35_method_48_code 21 = .ok (.iload_n 2, 1) := by decide +kernel
theorem d20_22 : decode jdk_35_method_48_code 22 = .ok (.invokestatic 308, 3) := by decide +kernel
set_option maxRecDepth 65536 in
set_option maxHeartbeats 40000000 in
theorem rm20 (l : Launch) (Z : State) (a0 : Array Value) (hw : ∀ d ∈ tables_1, d.before a0 Z = true) (ws : List Jvm.Cond) (x_ : Int64) (h0 : Heap) (n0 : Nat) (Z0 : n0 ≤ h0.size) :
    MetFree l (⟨"java/lang/Long", "numberOfLeadingZeros", "(J)I"⟩ : MethodName) (head1 (Jvm.Cond.code (⟨"java/lang/Long", "numberOfLeadingZeros", "(J)I"⟩ : MethodName) jdk_35_method_48_code 3 (some .int) :: ws) ({ frames := 1, cells := 0, slots := 0, locals := 14 } : Room)) (fun as_ U_ => as_ = #[(.long x_)] ∧ Z.Warmed39 U_.vm ∧ U_.heap = h0) (fun _ _ _ _ _ => True) (fun _ U_ o_ V_ => ∃ v_ L_, o_ = .returned v_ ∧ Qrm20 Z x_ h0 n0 v_ V_.heap L_ ∧ FrameEnd U_ o_ V_ L_ ({ frames := 1, cells := 0, slots := 0, locals := 14 } : Room).cells ({ frames := 1, cells := 0, slots := 0, locals := 14 } : Room).slots) := by
  refine MetFree.of_bodySF (plainFor_of_name pn_java_lang_Long) hisR ?_
  intro p e s m args below meth c s₁ Bd hml0 hP hK
  obtain ⟨rfl, hZ, hh⟩ := hP
  have hx := Bd.exec
  have hby := Bd.bytes
  have hlk : meth.locks = false := BodyLoose.notSynchronized Bd
  have hret := Bd.returns
  have hml : c.maxLocals = 3 := hml0
  have hown : s.vm.findClass "java/lang/Long" = some m.cls := findClass_of_methodNamed Bd.named
  have hnm := (name_of_methodNamed Bd.named Bd.method).1
  have X0 : Stand p l e ({ frames := 1, cells := 0, slots := 0, locals := 14 } : Room) s m #[(.long x_)] below meth c s₁ [] 0 0 := Stand.of_body Bd
  have e0 : s₁.heap = h0 := by rw [← hh, Bd.state]; rfl
  have N0 := Fr.nil n0
  show Goes p e below (Fin_ s (Qrm20 Z x_ h0 n0) ({ frames := 1, cells := 0, slots := 0, locals := 14 } : Room).cells ({ frames := 1, cells := 0, slots := 0, locals := 14 } : Room).slots) (s₁.setTop (entryFrame m #[(.long x_)] 3))
  rw [ef_rm20 m x_]
  refine Goes.via (fun _ kk_ => XS.lloadN X0.here hx rfl (hb hby d20_0) rfl  kk_) ?_
  show Goes p e below _ (s₁.setTop (mkF m 1 #[.val (.long x_), .second, .unset] [(.long x_)]))
  refine gBI (z := 32) X0 hx hby d20_1 rfl ?_
  refine Goes.via (fun _ kk_ => XS.lushr X0.here hx rfl (hb hby d20_3) rfl kk_) ?_
  show Goes p e below _ (s₁.setTop (mkF m 4 #[.val (.long x_), .second, .unset] [(.long ((x_.toUInt64 >>> ((32 : Int32) &&& 0x3f).toInt64.toUInt64).toInt64))]))
  refine Goes.via (fun _ kk_ => XS.l2i X0.here hx rfl (hb hby d20_4) rfl kk_) ?_
  show Goes p e below _ (s₁.setTop (mkF m 5 #[.val (.long x_), .second, .unset] [(.int (((x_.toUInt64 >>> ((32 : Int32) &&& 0x3f).toInt64.toUInt64).toInt64).toInt32))]))
  refine Goes.via (fun _ kk_ => XS.istoreN X0.here hx rfl (hb hby d20_5) rfl (l' := #[.val (.long x_), .second, vi (((x_.toUInt64 >>> ((32 : Int32) &&& 0x3f).toInt64.toUInt64).toInt64).toInt32)]) rfl kk_) ?_
  show Goes p e below _ (s₁.setTop (mkF m 6 #[.val (.long x_), .second, vi (((x_.toUInt64 >>> ((32 : Int32) &&& 0x3f).toInt64.toUInt64).toInt64).toInt32)] []))
  refine gILN X0 hx hby d20_6 rfl ?_
  by_cases hc7 : (((x_.toUInt64 >>> ((32 : Int32) &&& 0x3f).toInt64.toUInt64).toInt64).toInt32) = (0 : Int32)
  · skip
    refine Goes.via (fun _ kk_ => XS.ifNo X0.here hx rfl (hb hby d20_7) rfl ((if0 _ _).trans (teq hc7).2) kk_) ?_
    show Goes p e below _ (s₁.setTop (mkF m 10 #[.val (.long x_), .second, vi (((x_.toUInt64 >>> ((32 : Int32) &&& 0x3f).toInt64.toUInt64).toInt64).toInt32)] []))
    refine gBI (z := 32) X0 hx hby d20_10 rfl ?_
    refine Goes.via (fun _ kk_ => XS.lloadN X0.here hx rfl (hb hby d20_12) rfl  kk_) ?_
    show Goes p e below _ (s₁.setTop (mkF m 13 #[.val (.long x_), .second, vi (((x_.toUInt64 >>> ((32 : Int32) &&& 0x3f).toInt64.toUInt64).toInt64).toInt32)] [(.long x_), (.int (32 : Int32))]))
    refine Goes.via (fun _ kk_ => XS.l2i X0.here hx rfl (hb hby d20_13) rfl kk_) ?_
    show Goes p e below _ (s₁.setTop (mkF m 14 #[.val (.long x_), .second, vi (((x_.toUInt64 >>> ((32 : Int32) &&& 0x3f).toInt64.toUInt64).toInt64).toInt32)] [(.int (x_.toInt32)), (.int (32 : Int32))]))
    obtain ⟨_, _, ⟨T1, L1, k1, n1⟩, -, X1, ⟨Lc1, hQ1, l1, y1, z1⟩, st1⟩ := Jvm.LawKit.callS X0 hx (y := mN_Integer_numberOfLeadingZeros) hown (mvT hZ (own_w hw 126 rfl)) (mvT hZ (own_w hw 127 rfl)) (mvT hZ (own_w hw 17 rfl)) (mvT hZ (own_w hw 128 rfl)) (by decide) (backOf (W := 1) (rm21 l Z a0 hw [] (x_.toInt32) h0 n0 (Nat.le_trans Z0 (Nat.le_refl _)) ) hZ (own_w hw 128 rfl) (own_w hw 17 rfl) (by decide) (by decide)) (g := (mkF m 14 #[.val (.long x_), .second, vi (((x_.toUInt64 >>> ((32 : Int32) &&& 0x3f).toInt64.toUInt64).toInt64).toInt32)] [(.int (x_.toInt32)), (.int (32 : Int32))])) rfl (by rw [hml]; rfl) (argsL := [(.int (x_.toInt32))]) (rest := [(.int (32 : Int32))]) (lenOf pd_1 rfl) rfl (by show 2 * 0 + _ ≤ _; exact Nat.le_of_eq rfl) (hb hby d20_14) (fun _ _ => ⟨rfl, e0, (by decide : 0 + 0 ≤ _), (by decide : 0 + 0 ≤ _)⟩)
    dsimp only [Pt.U, Pt.locs, Pt.cells, Pt.slots] at X1 l1 y1 z1 st1 hQ1
    replace l1 := l1.symm
    subst l1 y1 z1
    obtain ⟨rfl, rfl, e1⟩ := hQ1
    first | rw [List.append_nil] at X1 | skip
    refine Goes.via st1 ?_
    have e1' : T1.heap = h0 := e1
    show Goes p e below _ (T1.setTop (mkF m 17 #[.val (.long x_), .second, vi (((x_.toUInt64 >>> ((32 : Int32) &&& 0x3f).toInt64.toUInt64).toInt64).toInt32)] [(.int (own_nlzI (x_.toInt32))), (.int (32 : Int32))]))
    refine Goes.via (fun _ kk_ => XS.iadd X1.here hx rfl (hb hby d20_17) rfl kk_) ?_
    show Goes p e below _ (T1.setTop (mkF m 18 #[.val (.long x_), .second, vi (((x_.toUInt64 >>> ((32 : Int32) &&& 0x3f).toInt64.toUInt64).toInt64).toInt32)] [(.int ((32 : Int32) + (own_nlzI (x_.toInt32))))]))
    refine Goes.via (fun _ kk_ => XS.goto X1.here hx rfl (pc0 := 18) (pc' := 25) rfl (hb hby d20_18) (by decide) (by decide) kk_) ?_
    show Goes p e below _ (T1.setTop (mkF m 25 #[.val (.long x_), .second, vi (((x_.toUInt64 >>> ((32 : Int32) &&& 0x3f).toInt64.toUInt64).toInt64).toInt32)] [(.int ((32 : Int32) + (own_nlzI (x_.toInt32))))]))
    exact own_finI X1 hx hlk hret (hb hby d20_25) (by rw [e1']; exact ⟨(by rw [own_nlzL, if_pos hc7]; first | done | rfl | exact own_nc _), rfl, rfl⟩) (by first | decide | omega | (dsimp only; omega)) (by first | decide | omega | (dsimp only; omega))
  · skip
    refine Goes.via (fun _ kk_ => XS.ifYes X0.here hx rfl (pc0 := 7) (pc' := 21) rfl (hb hby d20_7) rfl ((if0 _ _).trans (feq hc7).2) (by decide) (by decide) kk_) ?_
    show Goes p e below _ (s₁.setTop (mkF m 21 #[.val (.long x_), .second, vi (((x_.toUInt64 >>> ((32 : Int32) &&& 0x3f).toInt64.toUInt64).toInt64).toInt32)] []))
    refine gILN X0 hx hby d20_21 rfl ?_
    obtain ⟨_, _, ⟨T2, L2, k2, n2⟩, -, X2, ⟨Lc2, hQ2, l2, y2, z2⟩, st2⟩ := Jvm.LawKit.callS X0 hx (y := mN_Integer_numberOfLeadingZeros) hown (mvT hZ (own_w hw 126 rfl)) (mvT hZ (own_w hw 127 rfl)) (mvT hZ (own_w hw 17 rfl)) (mvT hZ (own_w hw 128 rfl)) (by decide) (backOf (W := 0) (rm21 l Z a0 hw [] (((x_.toUInt64 >>> ((32 : Int32) &&& 0x3f).toInt64.toUInt64).toInt64).toInt32) h0 n0 (Nat.le_trans Z0 (Nat.le_refl _)) ) hZ (own_w hw 128 rfl) (own_w hw 17 rfl) (by decide) (by decide)) (g := (mkF m 22 #[.val (.long x_), .second, vi (((x_.toUInt64 >>> ((32 : Int32) &&& 0x3f).toInt64.toUInt64).toInt64).toInt32)] [(.int (((x_.toUInt64 >>> ((32 : Int32) &&& 0x3f).toInt64.toUInt64).toInt64).toInt32))])) rfl (by rw [hml]; rfl) (argsL := [(.int (((x_.toUInt64 >>> ((32 : Int32) &&& 0x3f).toInt64.toUInt64).toInt64).toInt32))]) (rest := []) (lenOf pd_1 rfl) rfl (by show 2 * 0 + _ ≤ _; exact Nat.le_of_eq rfl) (hb hby d20_22) (fun _ _ => ⟨rfl, e0, (by decide : 0 + 0 ≤ _), (by decide : 0 + 0 ≤ _)⟩)
    dsimp only [Pt.U, Pt.locs, Pt.cells, Pt.slots] at X2 l2 y2 z2 st2 hQ2
    replace l2 := l2.symm
    subst l2 y2 z2
    obtain ⟨rfl, rfl, e2⟩ := hQ2
    first | rw [List.append_nil] at X2 | skip
    refine Goes.via st2 ?_
    have e2' : T2.heap = h0 := e2
    show Goes p e below _ (T2.setTop (mkF m 25 #[.val (.long x_), .second, vi (((x_.toUInt64 >>> ((32 : Int32) &&& 0x3f).toInt64.toUInt64).toInt64).toInt32)] [(.int (own_nlzI (((x_.toUInt64 >>> ((32 : Int32) &&& 0x3f).toInt64.toUInt64).toInt64).toInt32)))]))
    exact own_finI X2 hx hlk hret (hb hby d20_25) (by rw [e2']; exact ⟨(by rw [own_nlzL, if_neg hc7]; first | done | rfl | exact own_nc _), rfl, rfl⟩) (by first | decide | omega | (dsimp only; omega)) (by first | decide | omega | (dsimp only; omega))
theorem ef_rmPre (m : MethodId) (a : Addr) (b : Addr) : entryFrame m #[(.ref a), (.ref b)] 7 = mkF m 0 #[.val (.ref a), .val (.ref b), .unset, .unset, .unset, .unset, .unset] [] := by first | (simp [entryFrame, mkF, argsToLocals, Value.category]; done) | rfl
def QrmPre (Z : State) (a : Addr) (b : Addr) (sp : Addr) (w_ : Int64) (y_ : Int64) (x_ : Int32) (dg : Int32) (bp : Int32) (h0 : Heap) (n0 : Nat) (v_ : Option Value) (h_ : Heap) (L_ : List Loc) : Prop := v_ = some (.int (if (w_ ^^^ y_) = (0 : Int64) then dg else (((64 : Int32) + (own_nlzL (w_ ^^^ y_))) - ((128 : Int32) - (dg * bp))) / bp)) ∧ L_ = [] ∧ h_ = h0
theorem d19_0 : decode prog_77_method_7_code 0 = .ok (.aload_n 0, 1) := by decide +kernel
theorem d19_1 : decode prog_77_method_7_code 1 = .ok (.getfield 17, 3) := by decide +kernel
theorem d19_4 : decode prog_77_method_7_code 4 = .ok (.aload_n 1, 1) := by decide +kernel
theorem d19_5 : decode prog_77_method_7_code 5 = .ok (.getfield 17, 3) := by decide +kernel
theorem d19_8 : decode prog_77_method_7_code 8 = .ok (.lxor, 1) := by decide +kernel
theorem d19_9 : decode prog_77_method_7_code 9 = .ok (.lstore_n 2, 1) := by decide +kernel
theorem d19_10 : decode prog_77_method_7_code 10 = .ok (.aload_n 0, 1) := by decide +kernel
theorem d19_11 : decode prog_77_method_7_code 11 = .ok (.getfield 24, 3) := by decide +kernel
theorem d19_14 : decode prog_77_method_7_code 14 = .ok (.aload_n 1, 1) := by decide +kernel
theorem d19_15 : decode prog_77_method_7_code 15 = .ok (.getfield 24, 3) := by decide +kernel
theorem d19_18 : decode prog_77_method_7_code 18 = .ok (.lxor, 1) := by decide +kernel
theorem d19_19 : decode prog_77_method_7_code 19 = .ok (.lstore 4, 2) := by decide +kernel
theorem d19_21 : decode prog_77_method_7_code 21 = .ok (.lload_n 2, 1) := by decide +kernel
theorem d19_22 : decode prog_77_method_7_code 22 = .ok (.lconst 0, 1) := by decide +kernel
theorem d19_23 : decode prog_77_method_7_code 23 = .ok (.lcmp, 1) := by decide +kernel
theorem d19_24 : decode prog_77_method_7_code 24 = .ok (.ifCond .ne 18, 3) := by decide +kernel
theorem d19_27 : decode prog_77_method_7_code 27 = .ok (.lload 4, 2) := by decide +kernel
theorem d19_29 : decode prog_77_method_7_code 29 = .ok (.lconst 0, 1) := by decide +kernel
theorem d19_30 : decode prog_77_method_7_code 30 = .ok (.lcmp, 1) := by decide +kernel
theorem d19_31 : decode prog_77_method_7_code 31 = .ok (.ifCond .ne 11, 3) := by decide +kernel
theorem d19_34 : decode prog_77_method_7_code 34 = .ok (.aload_n 0, 1) := by decide +kernel
theorem d19_35 : decode prog_77_method_7_code 35 = .ok (.getfield 7, 3) := by decide +kernel
theorem d19_38 : decode prog_77_method_7_code 38 = .ok (.invokevirtual 55, 3) := by decide +kernel
abbrev mN_IdSpace_digits : MethodName := ⟨"nearhop/model/IdSpace", "digits", "()I"⟩
theorem d19_41 : decode prog_77_method_7_code 41 = .ok (.ireturn, 1) := by decide +kernel
theorem d19_42 : decode prog_77_method_7_code 42 = .ok (.lload_n 2, 1) := by decide +kernel
theorem d19_43 : decode prog_77_method_7_code 43 = .ok (.lconst 0, 1) := by decide +kernel
theorem d19_44 : decode prog_77_method_7_code 44 = .ok (.lcmp, 1) := by decide +kernel
theorem d19_45 : decode prog_77_method_7_code 45 = .ok (.ifCond .eq 10, 3) := by decide +kernel
theorem d19_55 : decode prog_77_method_7_code 55 = .ok (.bipush 64, 2) := by decide +kernel
theorem d19_57 : decode prog_77_method_7_code 57 = .ok (.lload 4, 2) := by decide +kernel
theorem pd_4 : parseMethodDescriptor "(J)I" = some ⟨[.long], some .int⟩ := by decide +kernel
theorem d19_59 : decode prog_77_method_7_code 59 = .ok (.invokestatic 58, 3) := by decide +kernel
abbrev mN_Long_numberOfLeadingZeros : MethodName := ⟨"java/lang/Long", "numberOfLeadingZeros", "(J)I"⟩
theorem d19_62 : decode prog_77_method_7_code 62 = .ok (.iadd, 1) := by decide +kernel
theorem d19_63 : decode prog_77_method_7_code 63 = .ok (.istore 6, 2) := by decide +kernel
theorem d19_65 : decode prog_77_method_7_code 65 = .ok (.iload 6, 2) := by decide +kernel
theorem d19_67 : decode prog_77_method_7_code 67 = .ok (.sipush 128, 3) := by decide +kernel
theorem d19_70 : decode prog_77_method_7_code 70 = .ok (.aload_n 0, 1) := by decide +kernel
theorem d19_71 : decode prog_77_method_7_code 71 = .ok (.getfield 7, 3) := by decide +kernel
theorem d19_74 : decode prog_77_method_7_code 74 = .ok (.invokevirtual 27, 3) := by decide +kernel
theorem d19_77 : decode prog_77_method_7_code 77 = .ok (.isub, 1) := by decide +kernel
theorem d19_78 : decode prog_77_method_7_code 78 = .ok (.isub, 1) := by decide +kernel
theorem d19_79 : decode prog_77_method_7_code 79 = .ok (.aload_n 0, 1) := by decide +kernel
theorem d19_80 : decode prog_77_method_7_code 80 = .ok (.getfield 7, 3) := by decide +kernel
theorem d19_83 : decode prog_77_method_7_code 83 = .ok (.invokevirtual 49, 3) := by decide +kernel
theorem d19_86 : decode prog_77_method_7_code 86 = .ok (.idiv, 1) := by decide +kernel
theorem d19_87 : decode prog_77_method_7_code 87 = .ok (.ireturn, 1) := by decide +kernel
set_option maxRecDepth 65536 in
set_option maxHeartbeats 40000000 in
theorem rmPre (l : Launch) (Z : State) (a0 : Array Value) (hw : ∀ d ∈ tables_1, d.before a0 Z = true) (ws : List Jvm.Cond) (a : Addr) (b : Addr) (sp : Addr) (w_ : Int64) (y_ : Int64) (x_ : Int32) (dg : Int32) (bp : Int32) (h0 : Heap) (n0 : Nat) (Z0 : n0 ≤ h0.size) (F0_a_space : Fld Z h0 a "nearhop/model/Id" "space" "Lnearhop/model/IdSpace;" (.ref sp)) (F1_a_high : Fld Z h0 a "nearhop/model/Id" "high" "J" (.long (0 : Int64))) (F2_a_low : Fld Z h0 a "nearhop/model/Id" "low" "J" (.long w_)) (F3_b_space : Fld Z h0 b "nearhop/model/Id" "space" "Lnearhop/model/IdSpace;" (.ref sp)) (F4_b_high : Fld Z h0 b "nearhop/model/Id" "high" "J" (.long (0 : Int64))) (F5_b_low : Fld Z h0 b "nearhop/model/Id" "low" "J" (.long y_)) (E6_sp : Exa Z h0 sp "nearhop/model/IdSpace") (F7_sp_base : Fld Z h0 sp "nearhop/model/IdSpace" "base" "I" (.int x_)) (F8_sp_digits : Fld Z h0 sp "nearhop/model/IdSpace" "digits" "I" (.int dg)) (HB : own_bb x_ bp) :
    MetFree l (⟨"nearhop/model/Id", "sharedPrefixLength", "(Lnearhop/model/Id;)I"⟩ : MethodName) (head1 (Jvm.Cond.code (⟨"nearhop/model/Id", "sharedPrefixLength", "(Lnearhop/model/Id;)I"⟩ : MethodName) prog_77_method_7_code 7 (some .int) :: ws) ({ frames := 3, cells := 0, slots := 0, locals := 40 } : Room)) (fun as_ U_ => as_ = #[(.ref a), (.ref b)] ∧ Z.Warmed39 U_.vm ∧ U_.heap = h0) (fun _ _ _ _ _ => True) (fun _ U_ o_ V_ => ∃ v_ L_, o_ = .returned v_ ∧ QrmPre Z a b sp w_ y_ x_ dg bp h0 n0 v_ V_.heap L_ ∧ FrameEnd U_ o_ V_ L_ ({ frames := 3, cells := 0, slots := 0, locals := 40 } : Room).cells ({ frames := 3, cells := 0, slots := 0, locals := 40 } : Room).slots) := by
  refine MetFree.of_bodySF (plainFor_of_name pn_nearhop_model_Id) hisR ?_
  intro p e s m args below meth c s₁ Bd hml0 hP hK
  obtain ⟨rfl, hZ, hh⟩ := hP
  have hx := Bd.exec
  have hby := Bd.bytes
  have hlk : meth.locks = false := BodyLoose.notSynchronized Bd
  have hret := Bd.returns
  have hml : c.maxLocals = 7 := hml0
  have hown : s.vm.findClass "nearhop/model/Id" = some m.cls := findClass_of_methodNamed Bd.named
  have hnm := (name_of_methodNamed Bd.named Bd.method).1
  have X0 : Stand p l e ({ frames := 3, cells := 0, slots := 0, locals := 40 } : Room) s m #[(.ref a), (.ref b)] below meth c s₁ [] 0 0 := Stand.of_body Bd
  have e0 : s₁.heap = h0 := by rw [← hh, Bd.state]; rfl
  have N0 := Fr.nil n0
  show Goes p e below (Fin_ s (QrmPre Z a b sp w_ y_ x_ dg bp h0 n0) ({ frames := 3, cells := 0, slots := 0, locals := 40 } : Room).cells ({ frames := 3, cells := 0, slots := 0, locals := 40 } : Room).slots) (s₁.setTop (entryFrame m #[(.ref a), (.ref b)] 7))
  rw [ef_rmPre m a b]
  refine gALN X0 hx hby d19_0 rfl rfl ?_
  obtain ⟨T1, X1, e1, st1⟩ := getF X0 hx hZ hown (host := "") (Or.inl (own_w hw 49 rfl)) Via.refl e0 F1_a_high (g := (mkF m 1 #[vr a, vr b, .unset, .unset, .unset, .unset, .unset] [(.ref a)])) rfl rfl (hb hby d19_1)
  refine Goes.via st1 ?_
  show Goes p e below _ (T1.setTop (mkF m 4 #[vr a, vr b, .unset, .unset, .unset, .unset, .unset] [(.long (0 : Int64))]))
  refine gALN X1 hx hby d19_4 rfl rfl ?_
  obtain ⟨T2, X2, e2, st2⟩ := getF X1 hx hZ hown (host := "") (Or.inl (own_w hw 49 rfl)) Via.refl e1 F4_b_high (g := (mkF m 5 #[vr a, vr b, .unset, .unset, .unset, .unset, .unset] [(.ref b), (.long (0 : Int64))])) rfl rfl (hb hby d19_5)
  refine Goes.via st2 ?_
  show Goes p e below _ (T2.setTop (mkF m 8 #[vr a, vr b, .unset, .unset, .unset, .unset, .unset] [(.long (0 : Int64)), (.long (0 : Int64))]))
  refine Goes.via (fun _ kk_ => XS.lxor X2.here hx rfl (hb hby d19_8) rfl kk_) ?_
  show Goes p e below _ (T2.setTop (mkF m 9 #[vr a, vr b, .unset, .unset, .unset, .unset, .unset] [(.long ((0 : Int64) ^^^ (0 : Int64)))]))
  rw [show ((0 : Int64) ^^^ (0 : Int64)) = (0 : Int64) from by decide]
  show Goes p e below _ (T2.setTop (mkF m 9 #[vr a, vr b, .unset, .unset, .unset, .unset, .unset] [(.long (0 : Int64))]))
  refine Goes.via (fun _ kk_ => XS.lstoreN X2.here hx rfl (hb hby d19_9) rfl (l' := #[vr a, vr b, .val (.long (0 : Int64)), .second, .unset, .unset, .unset]) rfl kk_) ?_
  show Goes p e below _ (T2.setTop (mkF m 10 #[vr a, vr b, .val (.long (0 : Int64)), .second, .unset, .unset, .unset] []))
  refine gALN X2 hx hby d19_10 rfl rfl ?_
  obtain ⟨T3, X3, e3, st3⟩ := getF X2 hx hZ hown (host := "") (Or.inl (own_w hw 54 rfl)) Via.refl e2 F2_a_low (g := (mkF m 11 #[vr a, vr b, .val (.long (0 : Int64)), .second, .unset, .unset, .unset] [(.ref a)])) rfl rfl (hb hby d19_11)
  refine Goes.via st3 ?_
  show Goes p e below _ (T3.setTop (mkF m 14 #[vr a, vr b, .val (.long (0 : Int64)), .second, .unset, .unset, .unset] [(.long w_)]))
  refine gALN X3 hx hby d19_14 rfl rfl ?_
  obtain ⟨T4, X4, e4, st4⟩ := getF X3 hx hZ hown (host := "") (Or.inl (own_w hw 54 rfl)) Via.refl e3 F5_b_low (g := (mkF m 15 #[vr a, vr b, .val (.long (0 : Int64)), .second, .unset, .unset, .unset] [(.ref b), (.long w_)])) rfl rfl (hb hby d19_15)
  refine Goes.via st4 ?_
  show Goes p e below _ (T4.setTop (mkF m 18 #[vr a, vr b, .val (.long (0 : Int64)), .second, .unset, .unset, .unset] [(.long y_), (.long w_)]))
  refine Goes.via (fun _ kk_ => XS.lxor X4.here hx rfl (hb hby d19_18) rfl kk_) ?_
  show Goes p e below _ (T4.setTop (mkF m 19 #[vr a, vr b, .val (.long (0 : Int64)), .second, .unset, .unset, .unset] [(.long (w_ ^^^ y_))]))
  refine Goes.via (fun _ kk_ => XS.lstore X4.here hx rfl (hb hby d19_19) rfl (l' := #[vr a, vr b, .val (.long (0 : Int64)), .second, .val (.long (w_ ^^^ y_)), .second, .unset]) rfl kk_) ?_
  show Goes p e below _ (T4.setTop (mkF m 21 #[vr a, vr b, .val (.long (0 : Int64)), .second, .val (.long (w_ ^^^ y_)), .second, .unset] []))
  refine Goes.via (fun _ kk_ => XS.lloadN X4.here hx rfl (hb hby d19_21) rfl  kk_) ?_
  show Goes p e below _ (T4.setTop (mkF m 22 #[vr a, vr b, .val (.long (0 : Int64)), .second, .val (.long (w_ ^^^ y_)), .second, .unset] [(.long (0 : Int64))]))
  refine Goes.via (fun _ kk_ => XS.lconst X4.here hx rfl (hb hby d19_22) kk_) ?_
  show Goes p e below _ (T4.setTop (mkF m 23 #[vr a, vr b, .val (.long (0 : Int64)), .second, .val (.long (w_ ^^^ y_)), .second, .unset] [(.long (0 : Int64)), (.long (0 : Int64))]))
  refine Goes.via (fun _ kk_ => XS.lcmp X4.here hx rfl (hb hby d19_23) rfl kk_) ?_
  show Goes p e below _ (T4.setTop (mkF m 24 #[vr a, vr b, .val (.long (0 : Int64)), .second, .val (.long (w_ ^^^ y_)), .second, .unset] [(.int (lcmpW (0 : Int64) (0 : Int64)))]))
  have hc24_5 : (0 : Int64) = (0 : Int64) := rfl
  refine Goes.via (fun _ kk_ => XS.ifNo X4.here hx rfl (hb hby d19_24) rfl ((if0 _ _).trans (teq ((lw_eq (0 : Int64) (0 : Int64)).mpr hc24_5)).2) kk_) ?_
  show Goes p e below _ (T4.setTop (mkF m 27 #[vr a, vr b, .val (.long (0 : Int64)), .second, .val (.long (w_ ^^^ y_)), .second, .unset] []))
  refine Goes.via (fun _ kk_ => XS.lload X4.here hx rfl (hb hby d19_27) rfl  kk_) ?_
  show Goes p e below _ (T4.setTop (mkF m 29 #[vr a, vr b, .val (.long (0 : Int64)), .second, .val (.long (w_ ^^^ y_)), .second, .unset] [(.long (w_ ^^^ y_))]))
  refine Goes.via (fun _ kk_ => XS.lconst X4.here hx rfl (hb hby d19_29) kk_) ?_
  show Goes p e below _ (T4.setTop (mkF m 30 #[vr a, vr b, .val (.long (0 : Int64)), .second, .val (.long (w_ ^^^ y_)), .second, .unset] [(.long (0 : Int64)), (.long (w_ ^^^ y_))]))
  refine Goes.via (fun _ kk_ => XS.lcmp X4.here hx rfl (hb hby d19_30) rfl kk_) ?_
  show Goes p e below _ (T4.setTop (mkF m 31 #[vr a, vr b, .val (.long (0 : Int64)), .second, .val (.long (w_ ^^^ y_)), .second, .unset] [(.int (lcmpW (w_ ^^^ y_) (0 : Int64)))]))
  by_cases hc31 : (w_ ^^^ y_) = (0 : Int64)
  · skip
    refine Goes.via (fun _ kk_ => XS.ifNo X4.here hx rfl (hb hby d19_31) rfl ((if0 _ _).trans (teq ((lw_eq (w_ ^^^ y_) (0 : Int64)).mpr hc31)).2) kk_) ?_
    show Goes p e below _ (T4.setTop (mkF m 34 #[vr a, vr b, .val (.long (0 : Int64)), .second, .val (.long (w_ ^^^ y_)), .second, .unset] []))
    refine gALN X4 hx hby d19_34 rfl rfl ?_
    obtain ⟨T6, X6, e6, st6⟩ := getF X4 hx hZ hown (host := "") (Or.inl (own_w hw 34 rfl)) Via.refl e4 F0_a_space (g := (mkF m 35 #[vr a, vr b, .val (.long (0 : Int64)), .second, .val (.long (w_ ^^^ y_)), .second, .unset] [(.ref a)])) rfl rfl (hb hby d19_35)
    refine Goes.via st6 ?_
    show Goes p e below _ (T6.setTop (mkF m 38 #[vr a, vr b, .val (.long (0 : Int64)), .second, .val (.long (w_ ^^^ y_)), .second, .unset] [(.ref sp)]))
    obtain ⟨cq7, kq7, q7a, q7b, q7c⟩ := isOf hZ e6 E6_sp
    obtain ⟨_, _, ⟨T7, L7, k7, n7⟩, -, X7, ⟨Lc7, hQ7, l7, y7, z7⟩, st7⟩ := X6.virtualBack hx (y := mN_IdSpace_digits) (z := mN_IdSpace_digits) hown (mvT hZ (own_w hw 211 rfl)) (mvT hZ (own_w hw 94 rfl)) (notFace_of_selects (args := #[]) (mvT hZ (own_w hw 96 rfl))) (mvT hZ (own_w hw 96 rfl)) (mvT hZ (own_w hw 95 rfl)) (by decide) (backOf (W := 0) (rm15 l Z a0 hw [] sp dg h0 n0 (Nat.le_trans Z0 (Nat.le_refl _)) F8_sp_digits) hZ (own_w hw 97 rfl) (own_w hw 3 rfl) (by decide) (by decide)) q7a q7c (g := (mkF m 38 #[vr a, vr b, .val (.long (0 : Int64)), .second, .val (.long (w_ ^^^ y_)), .second, .unset] [(.ref sp)])) rfl (by rw [hml]; rfl) (Steps.refl _) (argsL := []) (rest := []) (lenOf pd_2 rfl) rfl (by show 2 * 0 + _ ≤ _; exact Nat.le_of_eq rfl) (hb hby d19_38) (fun _ _ => ⟨rfl, e6, (by decide : 0 + 0 ≤ _), (by decide : 0 + 0 ≤ _)⟩)
    dsimp only [Pt.U, Pt.locs, Pt.cells, Pt.slots] at X7 l7 y7 z7 st7 hQ7
    replace l7 := l7.symm
    subst l7 y7 z7
    obtain ⟨rfl, rfl, e7⟩ := hQ7
    first | rw [List.append_nil] at X7 | skip
    refine Goes.tr st7 ?_
    have e7' : T7.heap = h0 := e7
    show Goes p e below _ (T7.setTop (mkF m 41 #[vr a, vr b, .val (.long (0 : Int64)), .second, .val (.long (w_ ^^^ y_)), .second, .unset] [(.int dg)]))
    exact own_finI X7 hx hlk hret (hb hby d19_41) (by rw [e7']; exact ⟨(own_ret (if_pos hc31).symm), rfl, rfl⟩) (by first | decide | omega | (dsimp only; omega)) (by first | decide | omega | (dsimp only; omega))
  · skip
    refine Goes.via (fun _ kk_ => XS.ifYes X4.here hx rfl (pc0 := 31) (pc' := 42) rfl (hb hby d19_31) rfl ((if0 _ _).trans (feq (fun q => hc31 ((lw_eq (w_ ^^^ y_) (0 : Int64)).mp q))).2) (by decide) (by decide) kk_) ?_
    show Goes p e below _ (T4.setTop (mkF m 42 #[vr a, vr b, .val (.long (0 : Int64)), .second, .val (.long (w_ ^^^ y_)), .second, .unset] []))
    refine Goes.via (fun _ kk_ => XS.lloadN X4.here hx rfl (hb hby d19_42) rfl  kk_) ?_
    show Goes p e below _ (T4.setTop (mkF m 43 #[vr a, vr b, .val (.long (0 : Int64)), .second, .val (.long (w_ ^^^ y_)), .second, .unset] [(.long (0 : Int64))]))
    refine Goes.via (fun _ kk_ => XS.lconst X4.here hx rfl (hb hby d19_43) kk_) ?_
    show Goes p e below _ (T4.setTop (mkF m 44 #[vr a, vr b, .val (.long (0 : Int64)), .second, .val (.long (w_ ^^^ y_)), .second, .unset] [(.long (0 : Int64)), (.long (0 : Int64))]))
    refine Goes.via (fun _ kk_ => XS.lcmp X4.here hx rfl (hb hby d19_44) rfl kk_) ?_
    show Goes p e below _ (T4.setTop (mkF m 45 #[vr a, vr b, .val (.long (0 : Int64)), .second, .val (.long (w_ ^^^ y_)), .second, .unset] [(.int (lcmpW (0 : Int64) (0 : Int64)))]))
    have hc45_8 : (0 : Int64) = (0 : Int64) := rfl
    refine Goes.via (fun _ kk_ => XS.ifYes X4.here hx rfl (pc0 := 45) (pc' := 55) rfl (hb hby d19_45) rfl ((if0 _ _).trans (teq ((lw_eq (0 : Int64) (0 : Int64)).mpr hc45_8)).1) (by decide) (by decide) kk_) ?_
    show Goes p e below _ (T4.setTop (mkF m 55 #[vr a, vr b, .val (.long (0 : Int64)), .second, .val (.long (w_ ^^^ y_)), .second, .unset] []))
    refine gBI (z := 64) X4 hx hby d19_55 rfl ?_
    refine Goes.via (fun _ kk_ => XS.lload X4.here hx rfl (hb hby d19_57) rfl  kk_) ?_
    show Goes p e below _ (T4.setTop (mkF m 59 #[vr a, vr b, .val (.long (0 : Int64)), .second, .val (.long (w_ ^^^ y_)), .second, .unset] [(.long (w_ ^^^ y_)), (.int (64 : Int32))]))
    obtain ⟨_, _, ⟨T9, L9, k9, n9⟩, -, X9, ⟨Lc9, hQ9, l9, y9, z9⟩, st9⟩ := Jvm.LawKit.callS X4 hx (y := mN_Long_numberOfLeadingZeros) hown (mvT hZ (own_w hw 122 rfl)) (mvT hZ (own_w hw 123 rfl)) (mvT hZ (own_w hw 124 rfl)) (mvT hZ (own_w hw 125 rfl)) (by decide) (backOf (W := 1) (rm20 l Z a0 hw [] (w_ ^^^ y_) h0 n0 (Nat.le_trans Z0 (Nat.le_refl _)) ) hZ (own_w hw 125 rfl) (own_w hw 124 rfl) (by decide) (by decide)) (g := (mkF m 59 #[vr a, vr b, .val (.long (0 : Int64)), .second, .val (.long (w_ ^^^ y_)), .second, .unset] [(.long (w_ ^^^ y_)), (.int (64 : Int32))])) rfl (by rw [hml]; rfl) (argsL := [(.long (w_ ^^^ y_))]) (rest := [(.int (64 : Int32))]) (lenOf pd_4 rfl) rfl (by show 2 * 0 + _ ≤ _; exact Nat.le_of_eq rfl) (hb hby d19_59) (fun _ _ => ⟨rfl, e4, (by decide : 0 + 0 ≤ _), (by decide : 0 + 0 ≤ _)⟩)
    dsimp only [Pt.U, Pt.locs, Pt.cells, Pt.slots] at X9 l9 y9 z9 st9 hQ9
    replace l9 := l9.symm
    subst l9 y9 z9
    obtain ⟨rfl, rfl, e9⟩ := hQ9
    first | rw [List.append_nil] at X9 | skip
    refine Goes.via st9 ?_
    have e9' : T9.heap = h0 := e9
    show Goes p e below _ (T9.setTop (mkF m 62 #[vr a, vr b, .val (.long (0 : Int64)), .second, .val (.long (w_ ^^^ y_)), .second, .unset] [(.int (own_nlzL (w_ ^^^ y_))), (.int (64 : Int32))]))
    refine Goes.via (fun _ kk_ => XS.iadd X9.here hx rfl (hb hby d19_62) rfl kk_) ?_
    show Goes p e below _ (T9.setTop (mkF m 63 #[vr a, vr b, .val (.long (0 : Int64)), .second, .val (.long (w_ ^^^ y_)), .second, .unset] [(.int ((64 : Int32) + (own_nlzL (w_ ^^^ y_))))]))
    refine Goes.via (fun _ kk_ => XS.istore X9.here hx rfl (hb hby d19_63) rfl (l' := #[vr a, vr b, .val (.long (0 : Int64)), .second, .val (.long (w_ ^^^ y_)), .second, vi ((64 : Int32) + (own_nlzL (w_ ^^^ y_)))]) rfl kk_) ?_
    show Goes p e below _ (T9.setTop (mkF m 65 #[vr a, vr b, .val (.long (0 : Int64)), .second, .val (.long (w_ ^^^ y_)), .second, vi ((64 : Int32) + (own_nlzL (w_ ^^^ y_)))] []))
    refine gIL X9 hx hby d19_65 rfl ?_
    refine gSI (z := 128) X9 hx hby d19_67 rfl ?_
    refine gALN X9 hx hby d19_70 rfl rfl ?_
    obtain ⟨T10, X10, e10, st10⟩ := getF X9 hx hZ hown (host := "") (Or.inl (own_w hw 34 rfl)) Via.refl e9' F0_a_space (g := (mkF m 71 #[vr a, vr b, .val (.long (0 : Int64)), .second, .val (.long (w_ ^^^ y_)), .second, vi ((64 : Int32) + (own_nlzL (w_ ^^^ y_)))] [(.ref a), (.int (128 : Int32)), (.int ((64 : Int32) + (own_nlzL (w_ ^^^ y_))))])) rfl rfl (hb hby d19_71)
    refine Goes.via st10 ?_
    show Goes p e below _ (T10.setTop (mkF m 74 #[vr a, vr b, .val (.long (0 : Int64)), .second, .val (.long (w_ ^^^ y_)), .second, vi ((64 : Int32) + (own_nlzL (w_ ^^^ y_)))] [(.ref sp), (.int (128 : Int32)), (.int ((64 : Int32) + (own_nlzL (w_ ^^^ y_))))]))
    obtain ⟨cq11, kq11, q11a, q11b, q11c⟩ := isOf hZ e10 E6_sp
    obtain ⟨_, _, ⟨T11, L11, k11, n11⟩, -, X11, ⟨Lc11, hQ11, l11, y11, z11⟩, st11⟩ := X10.virtualBack hx (y := mN_IdSpace_bits) (z := mN_IdSpace_bits) hown (mvT hZ (own_w hw 39 rfl)) (mvT hZ (own_w hw 40 rfl)) (notFace_of_selects (args := #[]) (mvT hZ (own_w hw 42 rfl))) (mvT hZ (own_w hw 42 rfl)) (mvT hZ (own_w hw 41 rfl)) (by decide) (backOf (W := 2) (rm7 l Z a0 hw [] sp x_ dg bp h0 n0 (Nat.le_trans Z0 (Nat.le_refl _)) E6_sp F7_sp_base F8_sp_digits HB) hZ (own_w hw 43 rfl) (own_w hw 3 rfl) (by decide) (by decide)) q11a q11c (g := (mkF m 74 #[vr a, vr b, .val (.long (0 : Int64)), .second, .val (.long (w_ ^^^ y_)), .second, vi ((64 : Int32) + (own_nlzL (w_ ^^^ y_)))] [(.ref sp), (.int (128 : Int32)), (.int ((64 : Int32) + (own_nlzL (w_ ^^^ y_))))])) rfl (by rw [hml]; rfl) (Steps.refl _) (argsL := []) (rest := [(.int (128 : Int32)), (.int ((64 : Int32) + (own_nlzL (w_ ^^^ y_))))]) (lenOf pd_2 rfl) rfl (by show 2 * 0 + _ ≤ _; exact Nat.le_of_eq rfl) (hb hby d19_74) (fun _ _ => ⟨rfl, e10, (by decide : 0 + 0 ≤ _), (by decide : 0 + 0 ≤ _)⟩)
    dsimp only [Pt.U, Pt.locs, Pt.cells, Pt.slots] at X11 l11 y11 z11 st11 hQ11
    replace l11 := l11.symm
    subst l11 y11 z11
    obtain ⟨rfl, rfl, e11⟩ := hQ11
    first | rw [List.append_nil] at X11 | skip
    refine Goes.tr st11 ?_
    have e11' : T11.heap = h0 := e11
    show Goes p e below _ (T11.setTop (mkF m 77 #[vr a, vr b, .val (.long (0 : Int64)), .second, .val (.long (w_ ^^^ y_)), .second, vi ((64 : Int32) + (own_nlzL (w_ ^^^ y_)))] [(.int (dg * bp)), (.int (128 : Int32)), (.int ((64 : Int32) + (own_nlzL (w_ ^^^ y_))))]))
    refine Goes.via (fun _ kk_ => XS.isub X11.here hx rfl (hb hby d19_77) rfl kk_) ?_
    show Goes p e below _ (T11.setTop (mkF m 78 #[vr a, vr b, .val (.long (0 : Int64)), .second, .val (.long (w_ ^^^ y_)), .second, vi ((64 : Int32) + (own_nlzL (w_ ^^^ y_)))] [(.int ((128 : Int32) - (dg * bp))), (.int ((64 : Int32) + (own_nlzL (w_ ^^^ y_))))]))
    refine Goes.via (fun _ kk_ => XS.isub X11.here hx rfl (hb hby d19_78) rfl kk_) ?_
    show Goes p e below _ (T11.setTop (mkF m 79 #[vr a, vr b, .val (.long (0 : Int64)), .second, .val (.long (w_ ^^^ y_)), .second, vi ((64 : Int32) + (own_nlzL (w_ ^^^ y_)))] [(.int (((64 : Int32) + (own_nlzL (w_ ^^^ y_))) - ((128 : Int32) - (dg * bp))))]))
    refine gALN X11 hx hby d19_79 rfl rfl ?_
    obtain ⟨T12, X12, e12, st12⟩ := getF X11 hx hZ hown (host := "") (Or.inl (own_w hw 34 rfl)) Via.refl e11' F0_a_space (g := (mkF m 80 #[vr a, vr b, .val (.long (0 : Int64)), .second, .val (.long (w_ ^^^ y_)), .second, vi ((64 : Int32) + (own_nlzL (w_ ^^^ y_)))] [(.ref a), (.int (((64 : Int32) + (own_nlzL (w_ ^^^ y_))) - ((128 : Int32) - (dg * bp))))])) rfl rfl (hb hby d19_80)
    refine Goes.via st12 ?_
    show Goes p e below _ (T12.setTop (mkF m 83 #[vr a, vr b, .val (.long (0 : Int64)), .second, .val (.long (w_ ^^^ y_)), .second, vi ((64 : Int32) + (own_nlzL (w_ ^^^ y_)))] [(.ref sp), (.int (((64 : Int32) + (own_nlzL (w_ ^^^ y_))) - ((128 : Int32) - (dg * bp))))]))
    obtain ⟨cq13, kq13, q13a, q13b, q13c⟩ := isOf hZ e12 E6_sp
    obtain ⟨_, _, ⟨T13, L13, k13, n13⟩, -, X13, ⟨Lc13, hQ13, l13, y13, z13⟩, st13⟩ := X12.virtualBack hx (y := mN_IdSpace_bitsPerDigit) (z := mN_IdSpace_bitsPerDigit) hown (mvT hZ (own_w hw 129 rfl)) (mvT hZ (own_w hw 45 rfl)) (notFace_of_selects (args := #[]) (mvT hZ (own_w hw 47 rfl))) (mvT hZ (own_w hw 47 rfl)) (mvT hZ (own_w hw 46 rfl)) (by decide) (backOf (W := 1) (rm8 l Z a0 hw [] sp x_ bp h0 n0 (Nat.le_trans Z0 (Nat.le_refl _)) F7_sp_base HB) hZ (own_w hw 48 rfl) (own_w hw 3 rfl) (by decide) (by decide)) q13a q13c (g := (mkF m 83 #[vr a, vr b, .val (.long (0 : Int64)), .second, .val (.long (w_ ^^^ y_)), .second, vi ((64 : Int32) + (own_nlzL (w_ ^^^ y_)))] [(.ref sp), (.int (((64 : Int32) + (own_nlzL (w_ ^^^ y_))) - ((128 : Int32) - (dg * bp))))])) rfl (by rw [hml]; rfl) (Steps.refl _) (argsL := []) (rest := [(.int (((64 : Int32) + (own_nlzL (w_ ^^^ y_))) - ((128 : Int32) - (dg * bp))))]) (lenOf pd_2 rfl) rfl (by show 2 * 0 + _ ≤ _; exact Nat.le_of_eq rfl) (hb hby d19_83) (fun _ _ => ⟨rfl, e12, (by decide : 0 + 0 ≤ _), (by decide : 0 + 0 ≤ _)⟩)
    dsimp only [Pt.U, Pt.locs, Pt.cells, Pt.slots] at X13 l13 y13 z13 st13 hQ13
    replace l13 := l13.symm
    subst l13 y13 z13
    obtain ⟨rfl, rfl, e13⟩ := hQ13
    first | rw [List.append_nil] at X13 | skip
    refine Goes.tr st13 ?_
    have e13' : T13.heap = h0 := e13
    show Goes p e below _ (T13.setTop (mkF m 86 #[vr a, vr b, .val (.long (0 : Int64)), .second, .val (.long (w_ ^^^ y_)), .second, vi ((64 : Int32) + (own_nlzL (w_ ^^^ y_)))] [(.int bp), (.int (((64 : Int32) + (own_nlzL (w_ ^^^ y_))) - ((128 : Int32) - (dg * bp))))]))
    refine Goes.via (fun _ kk_ => XS.idiv X13.here hx rfl (hb hby d19_86) rfl (own_bb0 HB) kk_) ?_
    show Goes p e below _ (T13.setTop (mkF m 87 #[vr a, vr b, .val (.long (0 : Int64)), .second, .val (.long (w_ ^^^ y_)), .second, vi ((64 : Int32) + (own_nlzL (w_ ^^^ y_)))] [(.int ((((64 : Int32) + (own_nlzL (w_ ^^^ y_))) - ((128 : Int32) - (dg * bp))) / bp))]))
    exact own_finI X13 hx hlk hret (hb hby d19_87) (by rw [e13']; exact ⟨(own_ret (if_neg hc31).symm), rfl, rfl⟩) (by first | decide | omega | (dsimp only; omega)) (by first | decide | omega | (dsimp only; omega))
theorem ef_rm13 (m : MethodId) (a : Addr) : entryFrame m #[(.ref a)] 1 = mkF m 0 #[.val (.ref a)] [] := by first | (simp [entryFrame, mkF, argsToLocals, Value.category]; done) | rfl
def Qrm13 (Z : State) (a : Addr) (h0 : Heap) (n0 : Nat) (v_ : Option Value) (h_ : Heap) (L_ : List Loc) : Prop := v_ = none ∧ L_ = [] ∧ h_ = h0
theorem pn_java_util_AbstractCollection : plainName "java/util/AbstractCollection" = true := by first | (simp [plainName, overriddenIn]; done) | decide +kernel
theorem d13_0 : decode jdk_22_method_1_code 0 = .ok (.aload_n 0, 1) := by decide +kernel
theorem d13_1 : decode jdk_22_method_1_code 1 = .ok (.invokespecial 1, 3) := by decide +kernel
theorem d13_4 : decode jdk_22_method_1_code 4 = .ok (.return_, 1) := by decide +kernel
set_option maxRecDepth 65536 in
set_option maxHeartbeats 40000000 in
theorem rm13 (l : Launch) (Z : State) (a0 : Array Value) (hw : ∀ d ∈ tables_1, d.before a0 Z = true) (ws : List Jvm.Cond) (a : Addr) (h0 : Heap) (n0 : Nat) (Z0 : n0 ≤ h0.size) :
    MetFree l (⟨"java/util/AbstractCollection", "<init>", "()V"⟩ : MethodName) (head1 (Jvm.Cond.code (⟨"java/util/AbstractCollection", "<init>", "()V"⟩ : MethodName) jdk_22_method_1_code 1 none :: ws) ({ frames := 1, cells := 0, slots := 0, locals := 12 } : Room)) (fun as_ U_ => as_ = #[(.ref a)] ∧ Z.Warmed39 U_.vm ∧ U_.heap = h0) (fun _ _ _ _ _ => True) (fun _ U_ o_ V_ => ∃ v_ L_, o_ = .returned v_ ∧ Qrm13 Z a h0 n0 v_ V_.heap L_ ∧ FrameEnd U_ o_ V_ L_ ({ frames := 1, cells := 0, slots := 0, locals := 12 } : Room).cells ({ frames := 1, cells := 0, slots := 0, locals := 12 } : Room).slots) := by
  refine MetFree.of_bodySF (plainFor_of_name pn_java_util_AbstractCollection) hisR ?_
  intro p e s m args below meth c s₁ Bd hml0 hP hK
  obtain ⟨rfl, hZ, hh⟩ := hP
  have hx := Bd.exec
  have hby := Bd.bytes
  have hlk : meth.locks = false := BodyLoose.notSynchronized Bd
  have hret := Bd.returns
  have hml : c.maxLocals = 1 := hml0
  have hown : s.vm.findClass "java/util/AbstractCollection" = some m.cls := findClass_of_methodNamed Bd.named
  have hnm := (name_of_methodNamed Bd.named Bd.method).1
  have X0 : Stand p l e ({ frames := 1, cells := 0, slots := 0, locals := 12 } : Room) s m #[(.ref a)] below meth c s₁ [] 0 0 := Stand.of_body Bd
  have e0 : s₁.heap = h0 := by rw [← hh, Bd.state]; rfl
  have N0 := Fr.nil n0
  show Goes p e below (Fin_ s (Qrm13 Z a h0 n0) ({ frames := 1, cells := 0, slots := 0, locals := 12 } : Room).cells ({ frames := 1, cells := 0, slots := 0, locals := 12 } : Room).slots) (s₁.setTop (entryFrame m #[(.ref a)] 1))
  rw [ef_rm13 m a]
  refine gALN X0 hx hby d13_0 rfl rfl ?_
  obtain ⟨T1, X1, e1, st1⟩ := initO X0 hx hZ hown (own_w hw 78 rfl) (own_w hw 13 rfl) (own_w hw 14 rfl) e0 (g := (mkF m 1 #[vr a] [(.ref a)])) rfl (by rw [hml]; rfl) rfl (hb hby d13_1) (by decide) (W := 0) (by show 2 * 0 + _ ≤ _; exact Nat.le_of_eq rfl) (by decide)
  refine Goes.via st1 ?_
  show Goes p e below _ (T1.setTop (mkF m 4 #[vr a] []))
  exact own_finV X1 hx hlk hret (hb hby d13_4) (by rw [e1]; exact ⟨rfl, rfl, rfl⟩) (by first | decide | omega | (dsimp only; omega)) (by first | decide | omega | (dsimp only; omega))
theorem ef_rm12 (m : MethodId) (a : Addr) : entryFrame m #[(.ref a)] 1 = mkF m 0 #[.val (.ref a)] [] := by first | (simp [entryFrame, mkF, argsToLocals, Value.category]; done) | rfl
def Qrm12 (Z : State) (a : Addr) (h0 : Heap) (n0 : Nat) (v_ : Option Value) (h_ : Heap) (L_ : List Loc) : Prop := v_ = none ∧ Fr n0 L_ ∧ Keep h0 h_ [a] ∧ Exa Z h_ a "java/util/ArrayList" ∧ Fld Z h_ a "java/util/ArrayList" "elementData" "[Ljava/lang/Object;" .null ∧ Fld Z h_ a "java/util/ArrayList" "size" "I" (.int (0 : Int32)) ∧ Fld Z h_ a "java/util/AbstractList" "modCount" "I" (.int (0 : Int32))
theorem pn_java_util_AbstractList : plainName "java/util/AbstractList" = true := by first | (simp [plainName, overriddenIn]; done) | decide +kernel
theorem d12_0 : decode jdk_39_method_1_code 0 = .ok (.aload_n 0, 1) := by decide +kernel
theorem d12_1 : decode jdk_39_method_1_code 1 = .ok (.invokespecial 1, 3) := by decide +kernel
abbrev mN_AbstractCollection_init : MethodName := ⟨"java/util/AbstractCollection", "<init>", "()V"⟩
theorem d12_4 : decode jdk_39_method_1_code 4 = .ok (.aload_n 0, 1) := by decide +kernel
theorem d12_5 : decode jdk_39_method_1_code 5 = .ok (.iconst 0, 1) := by decide +kernel
theorem d12_6 : decode jdk_39_method_1_code 6 = .ok (.putfield 7, 3) := by decide +kernel
theorem d12_9 : decode jdk_39_method_1_code 9 = .ok (.return_, 1) := by decide +kernel
set_option maxRecDepth 65536 in
set_option maxHeartbeats 40000000 in
theorem rm12 (l : Launch) (Z : State) (a0 : Array Value) (hw : ∀ d ∈ tables_1, d.before a0 Z = true) (ws : List Jvm.Cond) (a : Addr) (h0 : Heap) (n0 : Nat) (Z0 : n0 ≤ h0.size) (E0_a : Exa Z h0 a "java/util/ArrayList") (F1_a_elementData : Fld Z h0 a "java/util/ArrayList" "elementData" "[Ljava/lang/Object;" .null) (F2_a_size : Fld Z h0 a "java/util/ArrayList" "size" "I" (.int (0 : Int32))) (F3_a_modCount : Fld Z h0 a "java/util/AbstractList" "modCount" "I" (.int (0 : Int32))) (H4 : n0 ≤ a) :
    MetFree l (⟨"java/util/AbstractList", "<init>", "()V"⟩ : MethodName) (head1 (Jvm.Cond.code (⟨"java/util/AbstractList", "<init>", "()V"⟩ : MethodName) jdk_39_method_1_code 1 none :: ws) ({ frames := 2, cells := 0, slots := 0, locals := 24 } : Room)) (fun as_ U_ => as_ = #[(.ref a)] ∧ Z.Warmed39 U_.vm ∧ U_.heap = h0) (fun _ _ _ _ _ => True) (fun _ U_ o_ V_ => ∃ v_ L_, o_ = .returned v_ ∧ Qrm12 Z a h0 n0 v_ V_.heap L_ ∧ FrameEnd U_ o_ V_ L_ ({ frames := 2, cells := 0, slots := 0, locals := 24 } : Room).cells ({ frames := 2, cells := 0, slots := 0, locals := 24 } : Room).slots) := by
  refine MetFree.of_bodySF (plainFor_of_name pn_java_util_AbstractList) hisR ?_
  intro p e s m args below meth c s₁ Bd hml0 hP hK
  obtain ⟨rfl, hZ, hh⟩ := hP
  have hx := Bd.exec
  have hby := Bd.bytes
  have hlk : meth.locks = false := BodyLoose.notSynchronized Bd
  have hret := Bd.returns
  have hml : c.maxLocals = 1 := hml0
  have hown : s.vm.findClass "java/util/AbstractList" = some m.cls := findClass_of_methodNamed Bd.named
  have hnm := (name_of_methodNamed Bd.named Bd.method).1
  have X0 : Stand p l e ({ frames := 2, cells := 0, slots := 0, locals := 24 } : Room) s m #[(.ref a)] below meth c s₁ [] 0 0 := Stand.of_body Bd
  have e0 : s₁.heap = h0 := by rw [← hh, Bd.state]; rfl
  have N0 := Fr.nil n0
  show Goes p e below (Fin_ s (Qrm12 Z a h0 n0) ({ frames := 2, cells := 0, slots := 0, locals := 24 } : Room).cells ({ frames := 2, cells := 0, slots := 0, locals := 24 } : Room).slots) (s₁.setTop (entryFrame m #[(.ref a)] 1))
  rw [ef_rm12 m a]
  refine gALN X0 hx hby d12_0 rfl rfl ?_
  obtain ⟨_, _, ⟨T1, L1, k1, n1⟩, -, X1, ⟨Lc1, hQ1, l1, y1, z1⟩, st1⟩ := X0.specialBack hx (y := mN_AbstractCollection_init) rfl hown (mvT hZ (own_w hw 72 rfl)) (mvT hZ (own_w hw 73 rfl)) (mvT hZ (own_w hw 77 rfl)) (by decide) (backOf (W := 0) (rm13 l Z a0 hw [] a h0 n0 (Nat.le_trans Z0 (Nat.le_refl _)) ) hZ (own_w hw 77 rfl) (own_w hw 76 rfl) (by decide) (by decide)) (g := (mkF m 1 #[vr a] [(.ref a)])) rfl (by rw [hml]; rfl) (Steps.refl _) (a := a) (argsL := []) (rest := []) (lenOf pd_0 rfl) rfl (by show 2 * 0 + _ ≤ _; exact Nat.le_of_eq rfl) (hb hby d12_1) (fun _ _ => ⟨rfl, e0, (by decide : 0 + 0 ≤ _), (by decide : 0 + 0 ≤ _)⟩)
  dsimp only [Pt.U, Pt.locs, Pt.cells, Pt.slots] at X1 l1 y1 z1 st1 hQ1
  replace l1 := l1.symm
  subst l1 y1 z1
  obtain ⟨rfl, rfl, e1⟩ := hQ1
  first | rw [List.append_nil] at X1 | skip
  refine Goes.tr st1 ?_
  have e1' : T1.heap = h0 := e1
  show Goes p e below _ (T1.setTop (mkF m 4 #[vr a] []))
  refine gALN X1 hx hby d12_4 rfl rfl ?_
  refine gIC (z := 0) X1 hx hby d12_5 rfl ?_
  obtain ⟨T2, h2, X2, e2, W2, st2⟩ := putF X1 hx hZ hown (host := "") (Or.inl (own_w hw 79 rfl)) Via.refl e1' F3_a_modCount E0_a (Or.inl (own_w hw 80 rfl)) (own_w hw 61 rfl) (ty := .int) (by decide) rfl rfl (g := (mkF m 6 #[vr a] [(.int (0 : Int32)), (.ref a)])) rfl rfl (hb hby d12_6)
  refine Goes.via st2 ?_
  have N2 := Fr.snoc X2 N0 H4
  have Fw2 : Fld Z h2 a "java/util/AbstractList" "modCount" "I" (.int (0 : Int32)) := F3_a_modCount.same W2
  show Goes p e below _ (T2.setTop (mkF m 9 #[vr a] []))
  have K3 : Keep h0 h2 [a] := ((Keep.refl h0 [a]).wr W2 (Or.inl (List.mem_of_getElem? (i := 0) rfl)))
  have f4 := (E0_a.wr W2)
  have f5 := (F1_a_elementData.other W2 (Or.inr (slot_ne (Or.inl (own_w hw 83 rfl)) (Or.inl (own_w hw 80 rfl)) (by decide) (t := (.array (.object "java/lang/Object"))) (t' := .int) (by decide) (by decide))))
  have f6 := (F2_a_size.other W2 (Or.inr (slot_ne (Or.inl (own_w hw 147 rfl)) (Or.inl (own_w hw 80 rfl)) (by decide) (t := .int) (t' := .int) (by decide) (by decide))))
  exact own_finV X2 hx hlk hret (hb hby d12_9) (by rw [e2]; exact ⟨rfl, N2, K3, f4, f5, f6, Fw2⟩) (by first | decide | omega | (dsimp only; omega)) (by first | decide | omega | (dsimp only; omega))
theorem ef_rm11 (m : MethodId) (a : Addr) : entryFrame m #[(.ref a)] 1 = mkF m 0 #[.val (.ref a)] [] := by first | (simp [entryFrame, mkF, argsToLocals, Value.category]; done) | rfl
def Qrm11 (Z : State) (a : Addr) (ed : Addr) (h0 : Heap) (n0 : Nat) (v_ : Option Value) (h_ : Heap) (L_ : List Loc) : Prop := v_ = none ∧ Fr n0 L_ ∧ Keep h0 h_ [a] ∧ Exa Z h_ a "java/util/ArrayList" ∧ Fld Z h_ a "java/util/ArrayList" "elementData" "[Ljava/lang/Object;" (.ref ed) ∧ Fld Z h_ a "java/util/ArrayList" "size" "I" (.int (0 : Int32)) ∧ Fld Z h_ a "java/util/AbstractList" "modCount" "I" (.int (0 : Int32))
theorem pn_java_util_ArrayList : plainName "java/util/ArrayList" = true := by first | (simp [plainName, overriddenIn]; done) | decide +kernel
theorem d11_0 : decode jdk_38_method_2_code 0 = .ok (.aload_n 0, 1) := by decide +kernel
theorem d11_1 : decode jdk_38_method_2_code 1 = .ok (.invokespecial 1, 3) := by decide +kernel
abbrev mN_AbstractList_init : MethodName := ⟨"java/util/AbstractList", "<init>", "()V"⟩
theorem d11_4 : decode jdk_38_method_2_code 4 = .ok (.aload_n 0, 1) := by decide +kernel
theorem d11_5 : decode jdk_38_method_2_code 5 = .ok (.getstatic 39, 3) := by decide +kernel
theorem d11_8 : decode jdk_38_method_2_code 8 = .ok (.putfield 9, 3) := by decide +kernel
theorem d11_11 : decode jdk_38_method_2_code 11 = .ok (.return_, 1) := by decide +kernel
set_option maxRecDepth 65536 in
set_option maxHeartbeats 40000000 in
theorem rm11 (l : Launch) (Z : State) (a0 : Array Value) (hw : ∀ d ∈ tables_1, d.before a0 Z = true) (ws : List Jvm.Cond) (a : Addr) (ed : Addr) (h0 : Heap) (n0 : Nat) (Z0 : n0 ≤ h0.size) (E0_a : Exa Z h0 a "java/util/ArrayList") (F1_a_elementData : Fld Z h0 a "java/util/ArrayList" "elementData" "[Ljava/lang/Object;" .null) (F2_a_size : Fld Z h0 a "java/util/ArrayList" "size" "I" (.int (0 : Int32))) (F3_a_modCount : Fld Z h0 a "java/util/AbstractList" "modCount" "I" (.int (0 : Int32))) (H4 : n0 ≤ a) (S5_java_util_ArrayList_DEFAULTCAPACITY_EMPTY_ELEMENTDATA_DEFAULTCAPACITY_EMPTY_ELEMENTDATA : Sta Z h0 "java/util/ArrayList" "DEFAULTCAPACITY_EMPTY_ELEMENTDATA" "[Ljava/lang/Object;" (.ref ed)) :
    MetFree l (⟨"java/util/ArrayList", "<init>", "()V"⟩ : MethodName) (head1 (Jvm.Cond.code (⟨"java/util/ArrayList", "<init>", "()V"⟩ : MethodName) jdk_38_method_2_code 1 none :: ws) ({ frames := 3, cells := 0, slots := 0, locals := 36 } : Room)) (fun as_ U_ => as_ = #[(.ref a)] ∧ Z.Warmed39 U_.vm ∧ U_.heap = h0) (fun _ _ _ _ _ => True) (fun _ U_ o_ V_ => ∃ v_ L_, o_ = .returned v_ ∧ Qrm11 Z a ed h0 n0 v_ V_.heap L_ ∧ FrameEnd U_ o_ V_ L_ ({ frames := 3, cells := 0, slots := 0, locals := 36 } : Room).cells ({ frames := 3, cells := 0, slots := 0, locals := 36 } : Room).slots) := by
  refine MetFree.of_bodySF (plainFor_of_name pn_java_util_ArrayList) hisR ?_
  intro p e s m args below meth c s₁ Bd hml0 hP hK
  obtain ⟨rfl, hZ, hh⟩ := hP
  have hx := Bd.exec
  have hby := Bd.bytes
  have hlk : meth.locks = false := BodyLoose.notSynchronized Bd
  have hret := Bd.returns
  have hml : c.maxLocals = 1 := hml0
  have hown : s.vm.findClass "java/util/ArrayList" = some m.cls := findClass_of_methodNamed Bd.named
  have hnm := (name_of_methodNamed Bd.named Bd.method).1
  have X0 : Stand p l e ({ frames := 3, cells := 0, slots := 0, locals := 36 } : Room) s m #[(.ref a)] below meth c s₁ [] 0 0 := Stand.of_body Bd
  have e0 : s₁.heap = h0 := by rw [← hh, Bd.state]; rfl
  have N0 := Fr.nil n0
  show Goes p e below (Fin_ s (Qrm11 Z a ed h0 n0) ({ frames := 3, cells := 0, slots := 0, locals := 36 } : Room).cells ({ frames := 3, cells := 0, slots := 0, locals := 36 } : Room).slots) (s₁.setTop (entryFrame m #[(.ref a)] 1))
  rw [ef_rm11 m a]
  refine gALN X0 hx hby d11_0 rfl rfl ?_
  obtain ⟨_, _, ⟨T1, L1, k1, n1⟩, -, X1, ⟨Lc1, hQ1, l1, y1, z1⟩, st1⟩ := X0.specialBack hx (y := mN_AbstractList_init) rfl hown (mvT hZ (own_w hw 66 rfl)) (mvT hZ (own_w hw 67 rfl)) (mvT hZ (own_w hw 71 rfl)) (by decide) (backOf (W := 0) (rm12 l Z a0 hw [] a h0 n0 (Nat.le_trans Z0 (Nat.le_refl _)) E0_a F1_a_elementData F2_a_size F3_a_modCount H4) hZ (own_w hw 71 rfl) (own_w hw 70 rfl) (by decide) (by decide)) (g := (mkF m 1 #[vr a] [(.ref a)])) rfl (by rw [hml]; rfl) (Steps.refl _) (a := a) (argsL := []) (rest := []) (lenOf pd_0 rfl) rfl (by show 2 * 0 + _ ≤ _; exact Nat.le_of_eq rfl) (hb hby d11_1) (fun _ _ => ⟨rfl, e0, (by decide : 0 + 0 ≤ _), (by decide : 0 + 0 ≤ _)⟩)
  dsimp only [Pt.U, Pt.locs, Pt.cells, Pt.slots] at X1 l1 y1 z1 st1 hQ1
  replace l1 := l1.symm
  subst l1 y1 z1
  obtain ⟨rfl, N1q, K1, u1_0, u1_1, u1_2, u1_3⟩ := hQ1
  have N1 := Fr.app N0 N1q
  refine Goes.tr st1 ?_
  show Goes p e below _ (T1.setTop (mkF m 4 #[vr a] []))
  refine gALN X1 hx hby d11_4 rfl rfl ?_
  have K2 : Keep h0 T1.heap [a] := ((Keep.refl h0 [a]).trans K1 (allS (Or.inl (List.mem_of_getElem? (i := 0) rfl)) all0))
  have f3 : Sta Z T1.heap "java/util/ArrayList" "DEFAULTCAPACITY_EMPTY_ELEMENTDATA" "[Ljava/lang/Object;" (.ref ed) := own_sta_keepW S5_java_util_ArrayList_DEFAULTCAPACITY_EMPTY_ELEMENTDATA_DEFAULTCAPACITY_EMPTY_ELEMENTDATA K2 (allS (own_plE E0_a) all0)
  obtain ⟨T4, X4, e4, st4⟩ := getS2 X1 hx hZ hown (host := "") (Or.inl (own_w hw 81 rfl)) Via.refl rfl f3 (g := (mkF m 5 #[vr a] [(.ref a)])) rfl (hb hby d11_5)
  refine Goes.via st4 ?_
  show Goes p e below _ (T4.setTop (mkF m 8 #[vr a] [(.ref ed), (.ref a)]))
  obtain ⟨T5, h5, X5, e5, W5, st5⟩ := putF X4 hx hZ hown (host := "") (Or.inl (own_w hw 82 rfl)) Via.refl e4 u1_1 u1_0 (Or.inl (own_w hw 83 rfl)) (own_w hw 61 rfl) (ty := (.array (.object "java/lang/Object"))) (by decide) rfl rfl (g := (mkF m 8 #[vr a] [(.ref ed), (.ref a)])) rfl rfl (hb hby d11_8)
  refine Goes.via st5 ?_
  have N5 := Fr.snoc X5 N1 H4
  have Fw5 : Fld Z h5 a "java/util/ArrayList" "elementData" "[Ljava/lang/Object;" (.ref ed) := u1_1.same W5
  show Goes p e below _ (T5.setTop (mkF m 11 #[vr a] []))
  have K6 : Keep h0 h5 [a] := (K2.wr W5 (Or.inl (List.mem_of_getElem? (i := 0) rfl)))
  have f7 := (u1_0.wr W5)
  have f8 := (u1_2.other W5 (Or.inr (slot_ne (Or.inl (own_w hw 147 rfl)) (Or.inl (own_w hw 83 rfl)) (by decide) (t := .int) (t' := (.array (.object "java/lang/Object"))) (by decide) (by decide))))
  have f9 := (u1_3.other W5 (Or.inr (slot_ne (Or.inl (own_w hw 80 rfl)) (Or.inl (own_w hw 83 rfl)) (by decide) (t := .int) (t' := (.array (.object "java/lang/Object"))) (by decide) (by decide))))
  exact own_finV X5 hx hlk hret (hb hby d11_11) (by rw [e5]; exact ⟨rfl, N5, K6, f7, Fw5, f8, f9⟩) (by first | decide | omega | (dsimp only; omega)) (by first | decide | omega | (dsimp only; omega))
theorem ef_rm23 (m : MethodId) (a : Addr) : entryFrame m #[(.ref a)] 1 = mkF m 0 #[.val (.ref a)] [] := by first | (simp [entryFrame, mkF, argsToLocals, Value.category]; done) | rfl
def Qrm23 (Z : State) (a : Addr) (sz : Int32) (h0 : Heap) (n0 : Nat) (v_ : Option Value) (h_ : Heap) (L_ : List Loc) : Prop := v_ = some (.int sz) ∧ L_ = [] ∧ h_ = h0
theorem d23_0 : decode jdk_38_method_8_code 0 = .ok (.aload_n 0, 1) := by decide +kernel
theorem d23_1 : decode jdk_38_method_8_code 1 = .ok (.getfield 48, 3) := by decide +kernel
theorem d23_4 : decode jdk_38_method_8_code 4 = .ok (.ireturn, 1) := by decide +kernel
set_option maxRecDepth 65536 in
set_option maxHeartbeats 40000000 in
theorem rm23 (l : Launch) (Z : State) (a0 : Array Value) (hw : ∀ d ∈ tables_1, d.before a0 Z = true) (ws : List Jvm.Cond) (a : Addr) (sz : Int32) (h0 : Heap) (n0 : Nat) (Z0 : n0 ≤ h0.size) (F0_a_size : Fld Z h0 a "java/util/ArrayList" "size" "I" (.int sz)) :
    MetFree l (⟨"java/util/ArrayList", "size", "()I"⟩ : MethodName) (head1 (Jvm.Cond.code (⟨"java/util/ArrayList", "size", "()I"⟩ : MethodName) jdk_38_method_8_code 1 (some .int) :: ws) ({ frames := 0, cells := 0, slots := 0, locals := 0 } : Room)) (fun as_ U_ => as_ = #[(.ref a)] ∧ Z.Warmed39 U_.vm ∧ U_.heap = h0) (fun _ _ _ _ _ => True) (fun _ U_ o_ V_ => ∃ v_ L_, o_ = .returned v_ ∧ Qrm23 Z a sz h0 n0 v_ V_.heap L_ ∧ FrameEnd U_ o_ V_ L_ ({ frames := 0, cells := 0, slots := 0, locals := 0 } : Room).cells ({ frames := 0, cells := 0, slots := 0, locals := 0 } : Room).slots) := by
  refine MetFree.of_bodySF (plainFor_of_name pn_java_util_ArrayList) hisR ?_
  intro p e s m args below meth c s₁ Bd hml0 hP hK
  obtain ⟨rfl, hZ, hh⟩ := hP
  have hx := Bd.exec
  have hby := Bd.bytes
  have hlk : meth.locks = false := BodyLoose.notSynchronized Bd
  have hret := Bd.returns
  have hml : c.maxLocals = 1 := hml0
  have hown : s.vm.findClass "java/util/ArrayList" = some m.cls := findClass_of_methodNamed Bd.named
  have hnm := (name_of_methodNamed Bd.named Bd.method).1
  have X0 : Stand p l e ({ frames := 0, cells := 0, slots := 0, locals := 0 } : Room) s m #[(.ref a)] below meth c s₁ [] 0 0 := Stand.of_body Bd
  have e0 : s₁.heap = h0 := by rw [← hh, Bd.state]; rfl
  have N0 := Fr.nil n0
  show Goes p e below (Fin_ s (Qrm23 Z a sz h0 n0) ({ frames := 0, cells := 0, slots := 0, locals := 0 } : Room).cells ({ frames := 0, cells := 0, slots := 0, locals := 0 } : Room).slots) (s₁.setTop (entryFrame m #[(.ref a)] 1))
  rw [ef_rm23 m a]
  refine gALN X0 hx hby d23_0 rfl rfl ?_
  obtain ⟨T1, X1, e1, st1⟩ := getF X0 hx hZ hown (host := "") (Or.inl (own_w hw 146 rfl)) Via.refl e0 F0_a_size (g := (mkF m 1 #[vr a] [(.ref a)])) rfl rfl (hb hby d23_1)
  refine Goes.via st1 ?_
  show Goes p e below _ (T1.setTop (mkF m 4 #[vr a] [(.int sz)]))
  exact own_finI X1 hx hlk hret (hb hby d23_4) (by rw [e1]; exact ⟨rfl, rfl, rfl⟩) (by first | decide | omega | (dsimp only; omega)) (by first | decide | omega | (dsimp only; omega))
theorem ef_rm28 (m : MethodId) (x : Int32) (y : Int32) : entryFrame m #[(.int x), (.int y)] 2 = mkF m 0 #[.val (.int x), .val (.int y)] [] := by first | (simp [entryFrame, mkF, argsToLocals, Value.category]; done) | rfl
def Qrm28 (Z : State) (x : Int32) (y : Int32) (h0 : Heap) (n0 : Nat) (v_ : Option Value) (h_ : Heap) (L_ : List Loc) : Prop := v_ = some (.int x) ∧ L_ = [] ∧ h_ = h0
theorem d28_0 : decode jdk_29_method_65_code 0 = .ok (.iload_n 0, 1) := by decide +kernel
theorem d28_1 : decode jdk_29_method_65_code 1 = .ok (.iload_n 1, 1) := by decide +kernel
theorem d28_2 : decode jdk_29_method_65_code 2 = .ok (.if_icmp .lt 7, 3) := by decide +kernel
theorem d28_5 : decode jdk_29_method_65_code 5 = .ok (.iload_n 0, 1) := by decide +kernel
theorem d28_6 : decode jdk_29_method_65_code 6 = .ok (.goto 4, 3) := by decide +kernel
theorem d28_10 : decode jdk_29_method_65_code 10 = .ok (.ireturn, 1) := by decide +kernel
set_option maxRecDepth 65536 in
set_option maxHeartbeats 40000000 in
theorem rm28 (l : Launch) (Z : State) (a0 : Array Value) (hw : ∀ d ∈ tables_1, d.before a0 Z = true) (ws : List Jvm.Cond) (x : Int32) (y : Int32) (h0 : Heap) (n0 : Nat) (Z0 : n0 ≤ h0.size) (H0 : ¬ x < y) :
    MetFree l (⟨"java/lang/Math", "max", "(II)I"⟩ : MethodName) (head1 (Jvm.Cond.code (⟨"java/lang/Math", "max", "(II)I"⟩ : MethodName) jdk_29_method_65_code 2 (some .int) :: ws) ({ frames := 0, cells := 0, slots := 0, locals := 0 } : Room)) (fun as_ U_ => as_ = #[(.int x), (.int y)] ∧ Z.Warmed39 U_.vm ∧ U_.heap = h0) (fun _ _ _ _ _ => True) (fun _ U_ o_ V_ => ∃ v_ L_, o_ = .returned v_ ∧ Qrm28 Z x y h0 n0 v_ V_.heap L_ ∧ FrameEnd U_ o_ V_ L_ ({ frames := 0, cells := 0, slots := 0, locals := 0 } : Room).cells ({ frames := 0, cells := 0, slots := 0, locals := 0 } : Room).slots) := by
  refine MetFree.of_bodySF (Jvm.Free.JP.mathPlain rfl (by decide +kernel)) hisR ?_
  intro p e s m args below meth c s₁ Bd hml0 hP hK
  obtain ⟨rfl, hZ, hh⟩ := hP
  have hx := Bd.exec
  have hby := Bd.bytes
  have hlk : meth.locks = false := BodyLoose.notSynchronized Bd
  have hret := Bd.returns
  have hml : c.maxLocals = 2 := hml0
  have hown : s.vm.findClass "java/lang/Math" = some m.cls := findClass_of_methodNamed Bd.named
  have hnm := (name_of_methodNamed Bd.named Bd.method).1
  have X0 : Stand p l e ({ frames := 0, cells := 0, slots := 0, locals := 0 } : Room) s m #[(.int x), (.int y)] below meth c s₁ [] 0 0 := Stand.of_body Bd
  have e0 : s₁.heap = h0 := by rw [← hh, Bd.state]; rfl
  have N0 := Fr.nil n0
  show Goes p e below (Fin_ s (Qrm28 Z x y h0 n0) ({ frames := 0, cells := 0, slots := 0, locals := 0 } : Room).cells ({ frames := 0, cells := 0, slots := 0, locals := 0 } : Room).slots) (s₁.setTop (entryFrame m #[(.int x), (.int y)] 2))
  rw [ef_rm28 m x y]
  refine gILN X0 hx hby d28_0 rfl ?_
  refine gILN X0 hx hby d28_1 rfl ?_
  have hc2_1 : ¬ (x < y) := H0
  refine Goes.via (fun _ kk_ => XS.icmpNo X0.here hx rfl (hb hby d28_2) rfl (flt hc2_1).1 kk_) ?_
  show Goes p e below _ (s₁.setTop (mkF m 5 #[vi x, vi y] []))
  refine gILN X0 hx hby d28_5 rfl ?_
  refine Goes.via (fun _ kk_ => XS.goto X0.here hx rfl (pc0 := 6) (pc' := 10) rfl (hb hby d28_6) (by decide) (by decide) kk_) ?_
  show Goes p e below _ (s₁.setTop (mkF m 10 #[vi x, vi y] [(.int x)]))
  exact own_finI X0 hx hlk hret (hb hby d28_10) (by rw [e0]; exact ⟨rfl, rfl, rfl⟩) (by first | decide | omega | (dsimp only; omega)) (by first | decide | omega | (dsimp only; omega))
theorem ef_rm27 (m : MethodId) (a : Addr) : entryFrame m #[(.ref a), (.int (1 : Int32))] 4 = mkF m 0 #[.val (.ref a), .val (.int (1 : Int32)), .unset, .unset] [] := by first | (simp [entryFrame, mkF, argsToLocals, Value.category]; done) | rfl
def Qrm27 (Z : State) (a : Addr) (ed : Addr) (mc : Int32) (kE : ClassId) (fE : Nat → Value) (h0 : Heap) (n0 : Nat) (v_ : Option Value) (h_ : Heap) (L_ : List Loc) : Prop := ∃ nb : Addr, ∃ kb : ClassId, v_ = some (.ref nb) ∧ Fr n0 L_ ∧ Keep h0 h_ [a] ∧ Exa Z h_ a "java/util/ArrayList" ∧ Fld Z h_ a "java/util/ArrayList" "elementData" "[Ljava/lang/Object;" (.ref nb) ∧ Fld Z h_ a "java/util/ArrayList" "size" "I" (.int (0 : Int32)) ∧ Fld Z h_ a "java/util/AbstractList" "modCount" "I" (.int mc) ∧ h0.size ≤ nb ∧ Arw Z h_ nb kb (.object "java/lang/Object") 10 (fun _ => .null) ∧ Ovr Z kb "java/lang/Object"
theorem d27_0 : decode jdk_38_method_6_code 0 = .ok (.aload_n 0, 1) := by decide +kernel
theorem d27_1 : decode jdk_38_method_6_code 1 = .ok (.getfield 9, 3) := by decide +kernel
theorem d27_4 : decode jdk_38_method_6_code 4 = .ok (.arraylength, 1) := by decide +kernel
theorem d27_5 : decode jdk_38_method_6_code 5 = .ok (.istore_n 2, 1) := by decide +kernel
theorem d27_6 : decode jdk_38_method_6_code 6 = .ok (.iload_n 2, 1) := by decide +kernel
theorem d27_7 : decode jdk_38_method_6_code 7 = .ok (.ifCond .gt 13, 3) := by decide +kernel
theorem d27_10 : decode jdk_38_method_6_code 10 = .ok (.aload_n 0, 1) := by decide +kernel
theorem d27_11 : decode jdk_38_method_6_code 11 = .ok (.getfield 9, 3) := by decide +kernel
theorem d27_14 : decode jdk_38_method_6_code 14 = .ok (.getstatic 39, 3) := by decide +kernel
theorem d27_17 : decode jdk_38_method_6_code 17 = .ok (.if_acmp .eq 28, 3) := by decide +kernel
theorem d27_45 : decode jdk_38_method_6_code 45 = .ok (.aload_n 0, 1) := by decide +kernel
theorem d27_46 : decode jdk_38_method_6_code 46 = .ok (.bipush 10, 2) := by decide +kernel
theorem d27_48 : decode jdk_38_method_6_code 48 = .ok (.iload_n 1, 1) := by decide +kernel
theorem pd_5 : parseMethodDescriptor "(II)I" = some ⟨[.int, .int], some .int⟩ := by decide +kernel
theorem d27_49 : decode jdk_38_method_6_code 49 = .ok (.invokestatic 79, 3) := by decide +kernel
abbrev mN_Math_max : MethodName := ⟨"java/lang/Math", "max", "(II)I"⟩
theorem d27_52 : decode jdk_38_method_6_code 52 = .ok (.anewarray 7, 3) := by decide +kernel
theorem d27_55 : decode jdk_38_method_6_code 55 = .ok (.dup_x1, 1) := by decide +kernel
theorem d27_56 : decode jdk_38_method_6_code 56 = .ok (.putfield 9, 3) := by decide +kernel
theorem d27_59 : decode jdk_38_method_6_code 59 = .ok (.areturn, 1) := by decide +kernel
set_option maxRecDepth 65536 in
set_option maxHeartbeats 40000000 in
theorem rm27 (l : Launch) (Z : State) (a0 : Array Value) (hw : ∀ d ∈ tables_1, d.before a0 Z = true) (ws : List Jvm.Cond) (a : Addr) (ed : Addr) (mc : Int32) (kE : ClassId) (fE : Nat → Value) (h0 : Heap) (n0 : Nat) (Z0 : n0 ≤ h0.size) (E0_a : Exa Z h0 a "java/util/ArrayList") (F1_a_elementData : Fld Z h0 a "java/util/ArrayList" "elementData" "[Ljava/lang/Object;" (.ref ed)) (F2_a_size : Fld Z h0 a "java/util/ArrayList" "size" "I" (.int (0 : Int32))) (F3_a_modCount : Fld Z h0 a "java/util/AbstractList" "modCount" "I" (.int mc)) (H4 : n0 ≤ a) (A5_ed : Arw Z h0 ed kE (.object "java/lang/Object") 0 fE) (S6_java_util_ArrayList_DEFAULTCAPACITY_EMPTY_ELEMENTDATA_DEFAULTCAPACITY_EMPTY_ELEMENTDATA : Sta Z h0 "java/util/ArrayList" "DEFAULTCAPACITY_EMPTY_ELEMENTDATA" "[Ljava/lang/Object;" (.ref ed)) :
    MetFree l (⟨"java/util/ArrayList", "grow", "(I)[Ljava/lang/Object;"⟩ : MethodName) (head1 (Jvm.Cond.code (⟨"java/util/ArrayList", "grow", "(I)[Ljava/lang/Object;"⟩ : MethodName) jdk_38_method_6_code 4 (some (.array (.object "java/lang/Object"))) :: ws) ({ frames := 1, cells := 1, slots := 10, locals := 14 } : Room)) (fun as_ U_ => as_ = #[(.ref a), (.int (1 : Int32))] ∧ Z.Warmed39 U_.vm ∧ U_.heap = h0) (fun _ _ _ _ _ => True) (fun _ U_ o_ V_ => ∃ v_ L_, o_ = .returned v_ ∧ Qrm27 Z a ed mc kE fE h0 n0 v_ V_.heap L_ ∧ FrameEnd U_ o_ V_ L_ ({ frames := 1, cells := 1, slots := 10, locals := 14 } : Room).cells ({ frames := 1, cells := 1, slots := 10, locals := 14 } : Room).slots) := by
  refine MetFree.of_bodySF (plainFor_of_name pn_java_util_ArrayList) hisR ?_
  intro p e s m args below meth c s₁ Bd hml0 hP hK
  obtain ⟨rfl, hZ, hh⟩ := hP
  have hx := Bd.exec
  have hby := Bd.bytes
  have hlk : meth.locks = false := BodyLoose.notSynchronized Bd
  have hret := Bd.returns
  have hml : c.maxLocals = 4 := hml0
  have hown : s.vm.findClass "java/util/ArrayList" = some m.cls := findClass_of_methodNamed Bd.named
  have hnm := (name_of_methodNamed Bd.named Bd.method).1
  have X0 : Stand p l e ({ frames := 1, cells := 1, slots := 10, locals := 14 } : Room) s m #[(.ref a), (.int (1 : Int32))] below meth c s₁ [] 0 0 := Stand.of_body Bd
  have e0 : s₁.heap = h0 := by rw [← hh, Bd.state]; rfl
  have N0 := Fr.nil n0
  show Goes p e below (Fin_ s (Qrm27 Z a ed mc kE fE h0 n0) ({ frames := 1, cells := 1, slots := 10, locals := 14 } : Room).cells ({ frames := 1, cells := 1, slots := 10, locals := 14 } : Room).slots) (s₁.setTop (entryFrame m #[(.ref a), (.int (1 : Int32))] 4))
  rw [ef_rm27 m a]
  refine gALN X0 hx hby d27_0 rfl rfl ?_
  obtain ⟨T2, X2, e2, st2⟩ := getF X0 hx hZ hown (host := "") (Or.inl (own_w hw 82 rfl)) Via.refl e0 F1_a_elementData (g := (mkF m 1 #[vr a, vi (1 : Int32), .unset, .unset] [(.ref a)])) rfl rfl (hb hby d27_1)
  refine Goes.via st2 ?_
  show Goes p e below _ (T2.setTop (mkF m 4 #[vr a, vi (1 : Int32), .unset, .unset] [(.ref ed)]))
  refine Goes.via (own_alen X2 hx hZ e2 A5_ed (g := (mkF m 4 #[vr a, vi (1 : Int32), .unset, .unset] [(.ref ed)])) rfl rfl (hb hby d27_4)) ?_
  show Goes p e below _ (T2.setTop (mkF m 5 #[vr a, vi (1 : Int32), .unset, .unset] [(.int (0 : Int32))]))
  refine Goes.via (fun _ kk_ => XS.istoreN X2.here hx rfl (hb hby d27_5) rfl (l' := #[vr a, vi (1 : Int32), vi (0 : Int32), .unset]) rfl kk_) ?_
  show Goes p e below _ (T2.setTop (mkF m 6 #[vr a, vi (1 : Int32), vi (0 : Int32), .unset] []))
  refine gILN X2 hx hby d27_6 rfl ?_
  have hc7_3 : ¬ ((0 : Int32) < (0 : Int32)) := (by decide)
  refine Goes.via (fun _ kk_ => XS.ifNo X2.here hx rfl (hb hby d27_7) rfl ((if0 _ _).trans (flt hc7_3).2.2.1) kk_) ?_
  show Goes p e below _ (T2.setTop (mkF m 10 #[vr a, vi (1 : Int32), vi (0 : Int32), .unset] []))
  refine gALN X2 hx hby d27_10 rfl rfl ?_
  obtain ⟨T4, X4, e4, st4⟩ := getF X2 hx hZ hown (host := "") (Or.inl (own_w hw 82 rfl)) Via.refl e2 F1_a_elementData (g := (mkF m 11 #[vr a, vi (1 : Int32), vi (0 : Int32), .unset] [(.ref a)])) rfl rfl (hb hby d27_11)
  refine Goes.via st4 ?_
  show Goes p e below _ (T4.setTop (mkF m 14 #[vr a, vi (1 : Int32), vi (0 : Int32), .unset] [(.ref ed)]))
  obtain ⟨T5, X5, e5, st5⟩ := getS2 X4 hx hZ hown (host := "") (Or.inl (own_w hw 81 rfl)) Via.refl e4 S6_java_util_ArrayList_DEFAULTCAPACITY_EMPTY_ELEMENTDATA_DEFAULTCAPACITY_EMPTY_ELEMENTDATA (g := (mkF m 14 #[vr a, vi (1 : Int32), vi (0 : Int32), .unset] [(.ref ed)])) rfl (hb hby d27_14)
  refine Goes.via st5 ?_
  show Goes p e below _ (T5.setTop (mkF m 17 #[vr a, vi (1 : Int32), vi (0 : Int32), .unset] [(.ref ed), (.ref ed)]))
  refine Goes.via (fun _ kk_ => Jvm.RoadKit.acmp (g := (mkF m 17 #[vr a, vi (1 : Int32), vi (0 : Int32), .unset] [(.ref ed), (.ref ed)])) X5 hx rfl rfl rfl (pc0 := 17) (pc' := 45) (same := true) rfl (hb hby d27_17) rfl (decide_eq_true rfl) (by decide) (by decide) kk_) ?_
  show Goes p e below _ (T5.setTop (mkF m 45 #[vr a, vi (1 : Int32), vi (0 : Int32), .unset] []))
  refine gALN X5 hx hby d27_45 rfl rfl ?_
  refine gBI (z := 10) X5 hx hby d27_46 rfl ?_
  refine gILN X5 hx hby d27_48 rfl ?_
  obtain ⟨_, _, ⟨T6, L6, k6, n6⟩, -, X6, ⟨Lc6, hQ6, l6, y6, z6⟩, st6⟩ := Jvm.LawKit.callS X5 hx (y := mN_Math_max) hown (mvT hZ (own_w hw 173 rfl)) (mvT hZ (own_w hw 174 rfl)) (mvT hZ (own_w hw 175 rfl)) (mvT hZ (own_w hw 176 rfl)) (by decide) (backOf (W := 1) (rm28 l Z a0 hw [] (10 : Int32) (1 : Int32) h0 n0 (Nat.le_trans Z0 (Nat.le_refl _)) (by decide)) hZ (own_w hw 176 rfl) (own_w hw 175 rfl) (by decide) (by decide)) (g := (mkF m 49 #[vr a, vi (1 : Int32), vi (0 : Int32), .unset] [(.int (1 : Int32)), (.int (10 : Int32)), (.ref a)])) rfl (by rw [hml]; rfl) (argsL := [(.int (10 : Int32)), (.int (1 : Int32))]) (rest := [(.ref a)]) (lenOf pd_5 rfl) rfl (by show 2 * 0 + _ ≤ _; exact Nat.le_of_eq rfl) (hb hby d27_49) (fun _ _ => ⟨rfl, e5, (by decide : 0 + 0 ≤ _), (by decide : 0 + 0 ≤ _)⟩)
  dsimp only [Pt.U, Pt.locs, Pt.cells, Pt.slots] at X6 l6 y6 z6 st6 hQ6
  replace l6 := l6.symm
  subst l6 y6 z6
  obtain ⟨rfl, rfl, e6⟩ := hQ6
  first | rw [List.append_nil] at X6 | skip
  refine Goes.via st6 ?_
  have e6' : T6.heap = h0 := e6
  show Goes p e below _ (T6.setTop (mkF m 52 #[vr a, vi (1 : Int32), vi (0 : Int32), .unset] [(.int (10 : Int32)), (.ref a)]))
  obtain ⟨T7, h7, k7, X7, e7, E7, A7, O7, st7⟩ := own_newO X6 hx hZ hown (own_w hw 177 rfl) (own_w hw 178 rfl) e6' (g := (mkF m 52 #[vr a, vi (1 : Int32), vi (0 : Int32), .unset] [(.int (10 : Int32)), (.ref a)])) rfl (hb hby d27_52) rfl (n := (10 : Int32)) (N := 10) (by decide) (by decide) (cap := 10) (by first | decide | omega | (dsimp only; omega)) (by first | decide | omega | (dsimp only; omega)) (by first | decide | omega | (dsimp only; omega)) (by first | decide | omega | (dsimp only; omega))
  obtain ⟨b7, g7⟩ : ∃ z, z = (h0).size := ⟨_, rfl⟩
  rw [← g7] at A7 st7
  have lne8 : a < b7 := Nat.lt_of_lt_of_le E0_a.lt (Nat.le_of_eq g7.symm)
  have ne8 : a ≠ b7 := Nat.ne_of_lt lne8
  have sz_b7 : h0.size ≤ b7 := Nat.le_trans (Nat.le_refl _) (Nat.le_of_eq g7.symm)
  refine Goes.via st7 ?_
  show Goes p e below _ (T7.setTop (mkF m 55 #[vr a, vi (1 : Int32), vi (0 : Int32), .unset] [(.ref b7), (.ref a)]))
  refine Goes.via (fun _ kk_ => XS.dupX1 X7.here hx rfl (hb hby d27_55) rfl rfl rfl kk_) ?_
  show Goes p e below _ (T7.setTop (mkF m 56 #[vr a, vi (1 : Int32), vi (0 : Int32), .unset] [(.ref b7), (.ref a), (.ref b7)]))
  have f10 := (F1_a_elementData.ext E7)
  have f11 := (E0_a.ext E7)
  obtain ⟨T12, h12, X12, e12, W12, st12⟩ := putF X7 hx hZ hown (host := "") (Or.inl (own_w hw 82 rfl)) Via.refl e7 f10 f11 (Or.inl (own_w hw 83 rfl)) (own_w hw 61 rfl) (ty := (.array (.object "java/lang/Object"))) (by decide) rfl rfl (g := (mkF m 56 #[vr a, vi (1 : Int32), vi (0 : Int32), .unset] [(.ref b7), (.ref a), (.ref b7)])) rfl rfl (hb hby d27_56)
  refine Goes.via st12 ?_
  have N12 := Fr.snoc X12 N0 H4
  have Fw12 : Fld Z h12 a "java/util/ArrayList" "elementData" "[Ljava/lang/Object;" (.ref b7) := f10.same W12
  show Goes p e below _ (T12.setTop (mkF m 59 #[vr a, vi (1 : Int32), vi (0 : Int32), .unset] [(.ref b7)]))
  have K13 : Keep h0 h12 [a] := (((Keep.refl h0 [a]).ext E7).wr W12 (Or.inl (List.mem_of_getElem? (i := 0) rfl)))
  have f14 := (f11.wr W12)
  have f15 := ((F2_a_size.ext E7).other W12 (Or.inr (slot_ne (Or.inl (own_w hw 147 rfl)) (Or.inl (own_w hw 83 rfl)) (by decide) (t := .int) (t' := (.array (.object "java/lang/Object"))) (by decide) (by decide))))
  have f16 := ((F3_a_modCount.ext E7).other W12 (Or.inr (slot_ne (Or.inl (own_w hw 80 rfl)) (Or.inl (own_w hw 83 rfl)) (by decide) (t := .int) (t' := (.array (.object "java/lang/Object"))) (by decide) (by decide))))
  have f17 := (A7.other W12 (Ne.symm ne8))
  exact own_finR X12 hx hlk hret rfl rfl rfl (hb hby d27_59) (by rw [e12]; exact ⟨b7, k7, rfl, N12, K13, f14, Fw12, f15, f16, sz_b7, f17, O7⟩) (by first | decide | omega | (dsimp only; omega)) (by first | decide | omega | (dsimp only; omega))
theorem ef_rm26 (m : MethodId) (a : Addr) : entryFrame m #[(.ref a)] 1 = mkF m 0 #[.val (.ref a)] [] := by first | (simp [entryFrame, mkF, argsToLocals, Value.category]; done) | rfl
def Qrm26 (Z : State) (a : Addr) (ed : Addr) (mc : Int32) (kE : ClassId) (fE : Nat → Value) (h0 : Heap) (n0 : Nat) (v_ : Option Value) (h_ : Heap) (L_ : List Loc) : Prop := ∃ nb : Addr, ∃ kb : ClassId, v_ = some (.ref nb) ∧ Fr n0 L_ ∧ Keep h0 h_ [a] ∧ Exa Z h_ a "java/util/ArrayList" ∧ Fld Z h_ a "java/util/ArrayList" "elementData" "[Ljava/lang/Object;" (.ref nb) ∧ Fld Z h_ a "java/util/ArrayList" "size" "I" (.int (0 : Int32)) ∧ Fld Z h_ a "java/util/AbstractList" "modCount" "I" (.int mc) ∧ h0.size ≤ nb ∧ Arw Z h_ nb kb (.object "java/lang/Object") 10 (fun _ => .null) ∧ Ovr Z kb "java/lang/Object"
theorem d26_0 : decode jdk_38_method_7_code 0 = .ok (.aload_n 0, 1) := by decide +kernel
theorem d26_1 : decode jdk_38_method_7_code 1 = .ok (.aload_n 0, 1) := by decide +kernel
theorem d26_2 : decode jdk_38_method_7_code 2 = .ok (.getfield 48, 3) := by decide +kernel
theorem d26_5 : decode jdk_38_method_7_code 5 = .ok (.iconst 1, 1) := by decide +kernel
theorem d26_6 : decode jdk_38_method_7_code 6 = .ok (.iadd, 1) := by decide +kernel
theorem pd_6 : parseMethodDescriptor "(I)[Ljava/lang/Object;" = some ⟨[.int], some (.array (.object "java/lang/Object"))⟩ := by decide +kernel
theorem d26_7 : decode jdk_38_method_7_code 7 = .ok (.invokevirtual 69, 3) := by decide +kernel
abbrev mN_ArrayList_grow : MethodName := ⟨"java/util/ArrayList", "grow", "(I)[Ljava/lang/Object;"⟩
theorem d26_10 : decode jdk_38_method_7_code 10 = .ok (.areturn, 1) := by decide +kernel
set_option maxRecDepth 65536 in
set_option maxHeartbeats 40000000 in
theorem rm26 (l : Launch) (Z : State) (a0 : Array Value) (hw : ∀ d ∈ tables_1, d.before a0 Z = true) (ws : List Jvm.Cond) (a : Addr) (ed : Addr) (mc : Int32) (kE : ClassId) (fE : Nat → Value) (h0 : Heap) (n0 : Nat) (Z0 : n0 ≤ h0.size) (E0_a : Exa Z h0 a "java/util/ArrayList") (F1_a_elementData : Fld Z h0 a "java/util/ArrayList" "elementData" "[Ljava/lang/Object;" (.ref ed)) (F2_a_size : Fld Z h0 a "java/util/ArrayList" "size" "I" (.int (0 : Int32))) (F3_a_modCount : Fld Z h0 a "java/util/AbstractList" "modCount" "I" (.int mc)) (H4 : n0 ≤ a) (A5_ed : Arw Z h0 ed kE (.object "java/lang/Object") 0 fE) (S6_java_util_ArrayList_DEFAULTCAPACITY_EMPTY_ELEMENTDATA_DEFAULTCAPACITY_EMPTY_ELEMENTDATA : Sta Z h0 "java/util/ArrayList" "DEFAULTCAPACITY_EMPTY_ELEMENTDATA" "[Ljava/lang/Object;" (.ref ed)) :
    MetFree l (⟨"java/util/ArrayList", "grow", "()[Ljava/lang/Object;"⟩ : MethodName) (head1 (Jvm.Cond.code (⟨"java/util/ArrayList", "grow", "()[Ljava/lang/Object;"⟩ : MethodName) jdk_38_method_7_code 1 (some (.array (.object "java/lang/Object"))) :: ws) ({ frames := 2, cells := 1, slots := 10, locals := 29 } : Room)) (fun as_ U_ => as_ = #[(.ref a)] ∧ Z.Warmed39 U_.vm ∧ U_.heap = h0) (fun _ _ _ _ _ => True) (fun _ U_ o_ V_ => ∃ v_ L_, o_ = .returned v_ ∧ Qrm26 Z a ed mc kE fE h0 n0 v_ V_.heap L_ ∧ FrameEnd U_ o_ V_ L_ ({ frames := 2, cells := 1, slots := 10, locals := 29 } : Room).cells ({ frames := 2, cells := 1, slots := 10, locals := 29 } : Room).slots) := by
  refine MetFree.of_bodySF (plainFor_of_name pn_java_util_ArrayList) hisR ?_
  intro p e s m args below meth c s₁ Bd hml0 hP hK
  obtain ⟨rfl, hZ, hh⟩ := hP
  have hx := Bd.exec
  have hby := Bd.bytes
  have hlk : meth.locks = false := BodyLoose.notSynchronized Bd
  have hret := Bd.returns
  have hml : c.maxLocals = 1 := hml0
  have hown : s.vm.findClass "java/util/ArrayList" = some m.cls := findClass_of_methodNamed Bd.named
  have hnm := (name_of_methodNamed Bd.named Bd.method).1
  have X0 : Stand p l e ({ frames := 2, cells := 1, slots := 10, locals := 29 } : Room) s m #[(.ref a)] below meth c s₁ [] 0 0 := Stand.of_body Bd
  have e0 : s₁.heap = h0 := by rw [← hh, Bd.state]; rfl
  have N0 := Fr.nil n0
  show Goes p e below (Fin_ s (Qrm26 Z a ed mc kE fE h0 n0) ({ frames := 2, cells := 1, slots := 10, locals := 29 } : Room).cells ({ frames := 2, cells := 1, slots := 10, locals := 29 } : Room).slots) (s₁.setTop (entryFrame m #[(.ref a)] 1))
  rw [ef_rm26 m a]
  refine gALN X0 hx hby d26_0 rfl rfl ?_
  refine gALN X0 hx hby d26_1 rfl rfl ?_
  obtain ⟨T2, X2, e2, st2⟩ := getF X0 hx hZ hown (host := "") (Or.inl (own_w hw 146 rfl)) Via.refl e0 F2_a_size (g := (mkF m 2 #[vr a] [(.ref a), (.ref a)])) rfl rfl (hb hby d26_2)
  refine Goes.via st2 ?_
  show Goes p e below _ (T2.setTop (mkF m 5 #[vr a] [(.int (0 : Int32)), (.ref a)]))
  refine gIC (z := 1) X2 hx hby d26_5 rfl ?_
  refine Goes.via (fun _ kk_ => XS.iadd X2.here hx rfl (hb hby d26_6) rfl kk_) ?_
  show Goes p e below _ (T2.setTop (mkF m 7 #[vr a] [(.int ((0 : Int32) + (1 : Int32))), (.ref a)]))
  rw [show ((0 : Int32) + (1 : Int32)) = (1 : Int32) from by decide]
  show Goes p e below _ (T2.setTop (mkF m 7 #[vr a] [(.int (1 : Int32)), (.ref a)]))
  obtain ⟨cq3, q3, q3'⟩ := E0_a.cell
  obtain ⟨_, _, ⟨T3, L3, k3, n3⟩, -, X3, ⟨Lc3, hQ3, l3, y3, z3⟩, st3⟩ := X2.privateBack hx (y := mN_ArrayList_grow) hown (mvT hZ (own_w hw 168 rfl)) (mvT hZ (own_w hw 169 rfl)) (mvT hZ (own_w hw 171 rfl)) (Cond.privateMethod_at (mvP hZ (own_w hw 170 rfl) (args := #[]))) (mvT hZ (own_w hw 172 rfl)) (by decide) (backOf (W := 0) (rm27 l Z a0 hw [] a ed mc kE fE h0 n0 (Nat.le_trans Z0 (Nat.le_refl _)) E0_a F1_a_elementData F2_a_size F3_a_modCount H4 A5_ed S6_java_util_ArrayList_DEFAULTCAPACITY_EMPTY_ELEMENTDATA_DEFAULTCAPACITY_EMPTY_ELEMENTDATA) hZ (own_w hw 172 rfl) (own_w hw 62 rfl) (by decide) (by decide)) (g := (mkF m 7 #[vr a] [(.int (1 : Int32)), (.ref a)])) rfl (by rw [hml]; rfl) (Steps.refl _) (a := a) (by rw [e2]; exact q3) q3' (argsL := [(.int (1 : Int32))]) (rest := []) (lenOf pd_6 rfl) rfl (by show 2 * 0 + _ ≤ _; exact Nat.le_of_eq rfl) (hb hby d26_7) (fun _ _ => ⟨rfl, e2, (by decide : 0 + 1 ≤ _), (by decide : 0 + 10 ≤ _)⟩)
  dsimp only [Pt.U, Pt.locs, Pt.cells, Pt.slots] at X3 l3 y3 z3 st3 hQ3
  replace l3 := l3.symm
  subst l3 y3 z3
  obtain ⟨nb3, kb3, rfl, N3q, K3, u3_0, u3_1, u3_2, u3_3, u3_4, u3_5, u3_6⟩ := hQ3
  have N3 := Fr.app N0 N3q
  refine Goes.tr st3 ?_
  have sz_nb3 : h0.size ≤ nb3 := Nat.le_trans (Nat.le_refl _) u3_4
  show Goes p e below _ (T3.setTop (mkF m 10 #[vr a] [(.ref nb3)]))
  have K6 : Keep h0 T3.heap [a] := ((Keep.refl h0 [a]).trans K3 (allS (Or.inl (List.mem_of_getElem? (i := 0) rfl)) all0))
  exact own_finR X3 hx hlk hret rfl rfl rfl (hb hby d26_10) (by exact ⟨nb3, kb3, rfl, N3, K6, u3_0, u3_1, u3_2, u3_3, sz_nb3, u3_5, u3_6⟩) (by first | decide | omega | (dsimp only; omega)) (by first | decide | omega | (dsimp only; omega))
theorem ef_rmLa0 (m : MethodId) (a : Addr) (y : Addr) (ed : Addr) : entryFrame m #[(.ref a), (.ref y), (.ref ed), (.int (0 : Int32))] 4 = mkF m 0 #[.val (.ref a), .val (.ref y), .val (.ref ed), .val (.int (0 : Int32))] [] := by first | (simp [entryFrame, mkF, argsToLocals, Value.category]; done) | rfl
def QrmLa0 (Z : State) (a : Addr) (y : Addr) (ed : Addr) (mc : Int32) (kE : ClassId) (fE : Nat → Value) (h0 : Heap) (n0 : Nat) (v_ : Option Value) (h_ : Heap) (L_ : List Loc) : Prop := ∃ nb : Addr, ∃ kb : ClassId, v_ = none ∧ Fr n0 L_ ∧ Keep h0 h_ [a] ∧ Exa Z h_ a "java/util/ArrayList" ∧ Fld Z h_ a "java/util/ArrayList" "elementData" "[Ljava/lang/Object;" (.ref nb) ∧ Fld Z h_ a "java/util/ArrayList" "size" "I" (.int (1 : Int32)) ∧ Fld Z h_ a "java/util/AbstractList" "modCount" "I" (.int mc) ∧ h0.size ≤ nb ∧ Arw Z h_ nb kb (.object "java/lang/Object") 10 (own_upd (fun _ => .null) 0 (.ref y)) ∧ Ovr Z kb "java/lang/Object"
theorem d25_0 : decode jdk_38_method_24_code 0 = .ok (.iload_n 3, 1) := by decide +kernel
theorem d25_1 : decode jdk_38_method_24_code 1 = .ok (.aload_n 2, 1) := by decide +kernel
theorem d25_2 : decode jdk_38_method_24_code 2 = .ok (.arraylength, 1) := by decide +kernel
theorem d25_3 : decode jdk_38_method_24_code 3 = .ok (.if_icmp .ne 8, 3) := by decide +kernel
theorem d25_6 : decode jdk_38_method_24_code 6 = .ok (.aload_n 0, 1) := by decide +kernel
theorem pd_7 : parseMethodDescriptor "()[Ljava/lang/Object;" = some ⟨[], some (.array (.object "java/lang/Object"))⟩ := by decide +kernel
theorem d25_7 : decode jdk_38_method_24_code 7 = .ok (.invokevirtual 129, 3) := by decide +kernel
abbrev mN_ArrayList_grow_1 : MethodName := ⟨"java/util/ArrayList", "grow", "()[Ljava/lang/Object;"⟩
theorem d25_10 : decode jdk_38_method_24_code 10 = .ok (.astore_n 2, 1) := by decide +kernel
theorem d25_11 : decode jdk_38_method_24_code 11 = .ok (.aload_n 2, 1) := by decide +kernel
theorem d25_12 : decode jdk_38_method_24_code 12 = .ok (.iload_n 3, 1) := by decide +kernel
theorem d25_13 : decode jdk_38_method_24_code 13 = .ok (.aload_n 1, 1) := by decide +kernel
theorem d25_14 : decode jdk_38_method_24_code 14 = .ok (.aastore, 1) := by decide +kernel
theorem d25_15 : decode jdk_38_method_24_code 15 = .ok (.aload_n 0, 1) := by decide +kernel
theorem d25_16 : decode jdk_38_method_24_code 16 = .ok (.iload_n 3, 1) := by decide +kernel
theorem d25_17 : decode jdk_38_method_24_code 17 = .ok (.iconst 1, 1) := by decide +kernel
theorem d25_18 : decode jdk_38_method_24_code 18 = .ok (.iadd, 1) := by decide +kernel
theorem d25_19 : decode jdk_38_method_24_code 19 = .ok (.putfield 48, 3) := by decide +kernel
theorem d25_22 : decode jdk_38_method_24_code 22 = .ok (.return_, 1) := by decide +kernel
set_option maxRecDepth 65536 in
set_option maxHeartbeats 40000000 in
theorem rmLa0 (l : Launch) (Z : State) (a0 : Array Value) (hw : ∀ d ∈ tables_1, d.before a0 Z = true) (ws : List Jvm.Cond) (a : Addr) (y : Addr) (ed : Addr) (mc : Int32) (kE : ClassId) (fE : Nat → Value) (h0 : Heap) (n0 : Nat) (Z0 : n0 ≤ h0.size) (E0_a : Exa Z h0 a "java/util/ArrayList") (F1_a_elementData : Fld Z h0 a "java/util/ArrayList" "elementData" "[Ljava/lang/Object;" (.ref ed)) (F2_a_size : Fld Z h0 a "java/util/ArrayList" "size" "I" (.int (0 : Int32))) (F3_a_modCount : Fld Z h0 a "java/util/AbstractList" "modCount" "I" (.int mc)) (H4 : n0 ≤ a) (E5_y : Exa Z h0 y "nearhop/model/Id") (A6_ed : Arw Z h0 ed kE (.object "java/lang/Object") 0 fE) (S7_java_util_ArrayList_DEFAULTCAPACITY_EMPTY_ELEMENTDATA_DEFAULTCAPACITY_EMPTY_ELEMENTDATA : Sta Z h0 "java/util/ArrayList" "DEFAULTCAPACITY_EMPTY_ELEMENTDATA" "[Ljava/lang/Object;" (.ref ed)) :
    MetFree l (⟨"java/util/ArrayList", "add", "(Ljava/lang/Object;[Ljava/lang/Object;I)V"⟩ : MethodName) (head1 (Jvm.Cond.code (⟨"java/util/ArrayList", "add", "(Ljava/lang/Object;[Ljava/lang/Object;I)V"⟩ : MethodName) jdk_38_method_24_code 4 none :: ws) ({ frames := 3, cells := 1, slots := 10, locals := 41 } : Room)) (fun as_ U_ => as_ = #[(.ref a), (.ref y), (.ref ed), (.int (0 : Int32))] ∧ Z.Warmed39 U_.vm ∧ U_.heap = h0) (fun _ _ _ _ _ => True) (fun _ U_ o_ V_ => ∃ v_ L_, o_ = .returned v_ ∧ QrmLa0 Z a y ed mc kE fE h0 n0 v_ V_.heap L_ ∧ FrameEnd U_ o_ V_ L_ ({ frames := 3, cells := 1, slots := 10, locals := 41 } : Room).cells ({ frames := 3, cells := 1, slots := 10, locals := 41 } : Room).slots) := by
  refine MetFree.of_bodySF (plainFor_of_name pn_java_util_ArrayList) hisR ?_
  intro p e s m args below meth c s₁ Bd hml0 hP hK
  obtain ⟨rfl, hZ, hh⟩ := hP
  have hx := Bd.exec
  have hby := Bd.bytes
  have hlk : meth.locks = false := BodyLoose.notSynchronized Bd
  have hret := Bd.returns
  have hml : c.maxLocals = 4 := hml0
  have hown : s.vm.findClass "java/util/ArrayList" = some m.cls := findClass_of_methodNamed Bd.named
  have hnm := (name_of_methodNamed Bd.named Bd.method).1
  have X0 : Stand p l e ({ frames := 3, cells := 1, slots := 10, locals := 41 } : Room) s m #[(.ref a), (.ref y), (.ref ed), (.int (0 : Int32))] below meth c s₁ [] 0 0 := Stand.of_body Bd
  have e0 : s₁.heap = h0 := by rw [← hh, Bd.state]; rfl
  have N0 := Fr.nil n0
  show Goes p e below (Fin_ s (QrmLa0 Z a y ed mc kE fE h0 n0) ({ frames := 3, cells := 1, slots := 10, locals := 41 } : Room).cells ({ frames := 3, cells := 1, slots := 10, locals := 41 } : Room).slots) (s₁.setTop (entryFrame m #[(.ref a), (.ref y), (.ref ed), (.int (0 : Int32))] 4))
  rw [ef_rmLa0 m a y ed]
  refine gILN X0 hx hby d25_0 rfl ?_
  refine gALN X0 hx hby d25_1 rfl rfl ?_
  refine Goes.via (own_alen X0 hx hZ e0 A6_ed (g := (mkF m 2 #[vr a, vr y, vr ed, vi (0 : Int32)] [(.ref ed), (.int (0 : Int32))])) rfl rfl (hb hby d25_2)) ?_
  show Goes p e below _ (s₁.setTop (mkF m 3 #[vr a, vr y, vr ed, vi (0 : Int32)] [(.int (0 : Int32)), (.int (0 : Int32))]))
  have hc3_4 : (0 : Int32) = (0 : Int32) := (by decide)
  refine Goes.via (fun _ kk_ => XS.icmpNo X0.here hx rfl (hb hby d25_3) rfl (teq hc3_4).2 kk_) ?_
  show Goes p e below _ (s₁.setTop (mkF m 6 #[vr a, vr y, vr ed, vi (0 : Int32)] []))
  refine gALN X0 hx hby d25_6 rfl rfl ?_
  obtain ⟨cq5, q5, q5'⟩ := E0_a.cell
  obtain ⟨_, _, ⟨T5, L5, k5, n5⟩, -, X5, ⟨Lc5, hQ5, l5, y5, z5⟩, st5⟩ := X0.privateBack hx (y := mN_ArrayList_grow_1) hown (mvT hZ (own_w hw 163 rfl)) (mvT hZ (own_w hw 164 rfl)) (mvT hZ (own_w hw 166 rfl)) (Cond.privateMethod_at (mvP hZ (own_w hw 165 rfl) (args := #[]))) (mvT hZ (own_w hw 167 rfl)) (by decide) (backOf (W := 0) (rm26 l Z a0 hw [] a ed mc kE fE h0 n0 (Nat.le_trans Z0 (Nat.le_refl _)) E0_a F1_a_elementData F2_a_size F3_a_modCount H4 A6_ed S7_java_util_ArrayList_DEFAULTCAPACITY_EMPTY_ELEMENTDATA_DEFAULTCAPACITY_EMPTY_ELEMENTDATA) hZ (own_w hw 167 rfl) (own_w hw 62 rfl) (by decide) (by decide)) (g := (mkF m 7 #[vr a, vr y, vr ed, vi (0 : Int32)] [(.ref a)])) rfl (by rw [hml]; rfl) (Steps.refl _) (a := a) (by rw [e0]; exact q5) q5' (argsL := []) (rest := []) (lenOf pd_7 rfl) rfl (by show 2 * 0 + _ ≤ _; exact Nat.le_of_eq rfl) (hb hby d25_7) (fun _ _ => ⟨rfl, e0, (by decide : 0 + 1 ≤ _), (by decide : 0 + 10 ≤ _)⟩)
  dsimp only [Pt.U, Pt.locs, Pt.cells, Pt.slots] at X5 l5 y5 z5 st5 hQ5
  replace l5 := l5.symm
  subst l5 y5 z5
  obtain ⟨nb5, kb5, rfl, N5q, K5, u5_0, u5_1, u5_2, u5_3, u5_4, u5_5, u5_6⟩ := hQ5
  have N5 := Fr.app N0 N5q
  refine Goes.tr st5 ?_
  have sz_nb5 : h0.size ≤ nb5 := Nat.le_trans (Nat.le_refl _) u5_4
  have gn_nb5 : n0 ≤ nb5 := Nat.le_trans Z0 sz_nb5
  have ne8 : a ≠ nb5 := own_ne_arr u5_0 (own_w hw 61 rfl) u5_5
  show Goes p e below _ (T5.setTop (mkF m 10 #[vr a, vr y, vr ed, vi (0 : Int32)] [(.ref nb5)]))
  refine Goes.via (fun _ kk_ => XS.astoreN X5.here hx rfl (hb hby d25_10) rfl rfl (l' := #[vr a, vr y, vr nb5, vi (0 : Int32)]) rfl kk_) ?_
  show Goes p e below _ (T5.setTop (mkF m 11 #[vr a, vr y, vr nb5, vi (0 : Int32)] []))
  refine gALN X5 hx hby d25_11 rfl rfl ?_
  refine gILN X5 hx hby d25_12 rfl ?_
  refine gALN X5 hx hby d25_13 rfl rfl ?_
  have f10 := (E5_y.keep K5)
  obtain ⟨T9, h9, X9, e9, W9, A9, st9⟩ := own_aastore X5 hx hZ rfl u5_5 rfl rfl u5_6 (Ins.of_exa f10 (own_w hw 179 rfl)) (j := (0 : Int32)) (i := 0) (by decide) (by decide) (by first | decide | omega | (dsimp only; omega)) (g := (mkF m 14 #[vr a, vr y, vr nb5, vi (0 : Int32)] [(.ref y), (.int (0 : Int32)), (.ref nb5)])) rfl rfl (hb hby d25_14)
  refine Goes.via st9 ?_
  have N9 := Fr.snoc X9 N5 gn_nb5
  show Goes p e below _ (T9.setTop (mkF m 15 #[vr a, vr y, vr nb5, vi (0 : Int32)] []))
  refine gALN X9 hx hby d25_15 rfl rfl ?_
  refine gILN X9 hx hby d25_16 rfl ?_
  refine gIC (z := 1) X9 hx hby d25_17 rfl ?_
  refine Goes.via (fun _ kk_ => XS.iadd X9.here hx rfl (hb hby d25_18) rfl kk_) ?_
  show Goes p e below _ (T9.setTop (mkF m 19 #[vr a, vr y, vr nb5, vi (0 : Int32)] [(.int ((0 : Int32) + (1 : Int32))), (.ref a)]))
  rw [show ((0 : Int32) + (1 : Int32)) = (1 : Int32) from by decide]
  show Goes p e below _ (T9.setTop (mkF m 19 #[vr a, vr y, vr nb5, vi (0 : Int32)] [(.int (1 : Int32)), (.ref a)]))
  have f11 := (u5_2.other W9 (Or.inl ne8))
  have f12 := (u5_0.wr W9)
  obtain ⟨T13, h13, X13, e13, W13, st13⟩ := putF X9 hx hZ hown (host := "") (Or.inl (own_w hw 146 rfl)) Via.refl e9 f11 f12 (Or.inl (own_w hw 147 rfl)) (own_w hw 61 rfl) (ty := .int) (by decide) rfl rfl (g := (mkF m 19 #[vr a, vr y, vr nb5, vi (0 : Int32)] [(.int (1 : Int32)), (.ref a)])) rfl rfl (hb hby d25_19)
  refine Goes.via st13 ?_
  have N13 := Fr.snoc X13 N9 H4
  have Fw13 : Fld Z h13 a "java/util/ArrayList" "size" "I" (.int (1 : Int32)) := f11.same W13
  show Goes p e below _ (T13.setTop (mkF m 22 #[vr a, vr y, vr nb5, vi (0 : Int32)] []))
  have K14 : Keep h0 h13 [a] := ((((Keep.refl h0 [a]).trans K5 (allS (Or.inl (List.mem_of_getElem? (i := 0) rfl)) all0)).wr W9 (Or.inr sz_nb5)).wr W13 (Or.inl (List.mem_of_getElem? (i := 0) rfl)))
  have f15 := (f12.wr W13)
  have f16 := ((u5_1.other W9 (Or.inl ne8)).other W13 (Or.inr (slot_ne (Or.inl (own_w hw 83 rfl)) (Or.inl (own_w hw 147 rfl)) (by decide) (t := (.array (.object "java/lang/Object"))) (t' := .int) (by decide) (by decide))))
  have f17 := ((u5_3.other W9 (Or.inl ne8)).other W13 (Or.inr (slot_ne (Or.inl (own_w hw 80 rfl)) (Or.inl (own_w hw 147 rfl)) (by decide) (t := .int) (t' := .int) (by decide) (by decide))))
  have f18 := (A9.other W13 (Ne.symm ne8))
  exact own_finV X13 hx hlk hret (hb hby d25_22) (by rw [e13]; exact ⟨nb5, kb5, rfl, N13, K14, f15, f16, Fw13, f17, sz_nb5, f18, u5_6⟩) (by first | decide | omega | (dsimp only; omega)) (by first | decide | omega | (dsimp only; omega))
theorem ef_rmL0 (m : MethodId) (a : Addr) (y : Addr) : entryFrame m #[(.ref a), (.ref y)] 2 = mkF m 0 #[.val (.ref a), .val (.ref y)] [] := by first | (simp [entryFrame, mkF, argsToLocals, Value.category]; done) | rfl
def QrmL0 (Z : State) (a : Addr) (y : Addr) (ed : Addr) (mc : Int32) (kE : ClassId) (fE : Nat → Value) (h0 : Heap) (n0 : Nat) (v_ : Option Value) (h_ : Heap) (L_ : List Loc) : Prop := ∃ nb : Addr, ∃ kb : ClassId, v_ = some (.int (1 : Int32)) ∧ Fr n0 L_ ∧ Keep h0 h_ [a] ∧ Exa Z h_ a "java/util/ArrayList" ∧ Fld Z h_ a "java/util/ArrayList" "elementData" "[Ljava/lang/Object;" (.ref nb) ∧ Fld Z h_ a "java/util/ArrayList" "size" "I" (.int (1 : Int32)) ∧ Fld Z h_ a "java/util/AbstractList" "modCount" "I" (.int (mc + (1 : Int32))) ∧ h0.size ≤ nb ∧ Arw Z h_ nb kb (.object "java/lang/Object") 10 (own_upd (fun _ => .null) 0 (.ref y)) ∧ Ovr Z kb "java/lang/Object"
theorem d24_0 : decode jdk_38_method_25_code 0 = .ok (.aload_n 0, 1) := by decide +kernel
theorem d24_1 : decode jdk_38_method_25_code 1 = .ok (.dup, 1) := by decide +kernel
theorem d24_2 : decode jdk_38_method_25_code 2 = .ok (.getfield 63, 3) := by decide +kernel
theorem d24_5 : decode jdk_38_method_25_code 5 = .ok (.iconst 1, 1) := by decide +kernel
theorem d24_6 : decode jdk_38_method_25_code 6 = .ok (.iadd, 1) := by decide +kernel
theorem d24_7 : decode jdk_38_method_25_code 7 = .ok (.putfield 63, 3) := by decide +kernel
theorem d24_10 : decode jdk_38_method_25_code 10 = .ok (.aload_n 0, 1) := by decide +kernel
theorem d24_11 : decode jdk_38_method_25_code 11 = .ok (.aload_n 1, 1) := by decide +kernel
theorem d24_12 : decode jdk_38_method_25_code 12 = .ok (.aload_n 0, 1) := by decide +kernel
theorem d24_13 : decode jdk_38_method_25_code 13 = .ok (.getfield 9, 3) := by decide +kernel
theorem d24_16 : decode jdk_38_method_25_code 16 = .ok (.aload_n 0, 1) := by decide +kernel
theorem d24_17 : decode jdk_38_method_25_code 17 = .ok (.getfield 48, 3) := by decide +kernel
theorem pd_8 : parseMethodDescriptor "(Ljava/lang/Object;[Ljava/lang/Object;I)V" = some ⟨[(.object "java/lang/Object"), (.array (.object "java/lang/Object")), .int], none⟩ := by decide +kernel
theorem d24_20 : decode jdk_38_method_25_code 20 = .ok (.invokevirtual 131, 3) := by decide +kernel
abbrev mN_ArrayList_add : MethodName := ⟨"java/util/ArrayList", "add", "(Ljava/lang/Object;[Ljava/lang/Object;I)V"⟩
theorem d24_23 : decode jdk_38_method_25_code 23 = .ok (.iconst 1, 1) := by decide +kernel
theorem d24_24 : decode jdk_38_method_25_code 24 = .ok (.ireturn, 1) := by decide +kernel
set_option maxRecDepth 65536 in
set_option maxHeartbeats 40000000 in
theorem rmL0 (l : Launch) (Z : State) (a0 : Array Value) (hw : ∀ d ∈ tables_1, d.before a0 Z = true) (ws : List Jvm.Cond) (a : Addr) (y : Addr) (ed : Addr) (mc : Int32) (kE : ClassId) (fE : Nat → Value) (h0 : Heap) (n0 : Nat) (Z0 : n0 ≤ h0.size) (E0_a : Exa Z h0 a "java/util/ArrayList") (F1_a_elementData : Fld Z h0 a "java/util/ArrayList" "elementData" "[Ljava/lang/Object;" (.ref ed)) (F2_a_size : Fld Z h0 a "java/util/ArrayList" "size" "I" (.int (0 : Int32))) (F3_a_modCount : Fld Z h0 a "java/util/AbstractList" "modCount" "I" (.int mc)) (H4 : n0 ≤ a) (E5_y : Exa Z h0 y "nearhop/model/Id") (A6_ed : Arw Z h0 ed kE (.object "java/lang/Object") 0 fE) (S7_java_util_ArrayList_DEFAULTCAPACITY_EMPTY_ELEMENTDATA_DEFAULTCAPACITY_EMPTY_ELEMENTDATA : Sta Z h0 "java/util/ArrayList" "DEFAULTCAPACITY_EMPTY_ELEMENTDATA" "[Ljava/lang/Object;" (.ref ed)) :
    MetFree l (⟨"java/util/ArrayList", "add", "(Ljava/lang/Object;)Z"⟩ : MethodName) (head1 (Jvm.Cond.code (⟨"java/util/ArrayList", "add", "(Ljava/lang/Object;)Z"⟩ : MethodName) jdk_38_method_25_code 2 (some .boolean) :: ws) ({ frames := 4, cells := 1, slots := 10, locals := 56 } : Room)) (fun as_ U_ => as_ = #[(.ref a), (.ref y)] ∧ Z.Warmed39 U_.vm ∧ U_.heap = h0) (fun _ _ _ _ _ => True) (fun _ U_ o_ V_ => ∃ v_ L_, o_ = .returned v_ ∧ QrmL0 Z a y ed mc kE fE h0 n0 v_ V_.heap L_ ∧ FrameEnd U_ o_ V_ L_ ({ frames := 4, cells := 1, slots := 10, locals := 56 } : Room).cells ({ frames := 4, cells := 1, slots := 10, locals := 56 } : Room).slots) := by
  refine MetFree.of_bodySF (plainFor_of_name pn_java_util_ArrayList) hisR ?_
  intro p e s m args below meth c s₁ Bd hml0 hP hK
  obtain ⟨rfl, hZ, hh⟩ := hP
  have hx := Bd.exec
  have hby := Bd.bytes
  have hlk : meth.locks = false := BodyLoose.notSynchronized Bd
  have hret := Bd.returns
  have hml : c.maxLocals = 2 := hml0
  have hown : s.vm.findClass "java/util/ArrayList" = some m.cls := findClass_of_methodNamed Bd.named
  have hnm := (name_of_methodNamed Bd.named Bd.method).1
  have X0 : Stand p l e ({ frames := 4, cells := 1, slots := 10, locals := 56 } : Room) s m #[(.ref a), (.ref y)] below meth c s₁ [] 0 0 := Stand.of_body Bd
  have e0 : s₁.heap = h0 := by rw [← hh, Bd.state]; rfl
  have N0 := Fr.nil n0
  show Goes p e below (Fin_ s (QrmL0 Z a y ed mc kE fE h0 n0) ({ frames := 4, cells := 1, slots := 10, locals := 56 } : Room).cells ({ frames := 4, cells := 1, slots := 10, locals := 56 } : Room).slots) (s₁.setTop (entryFrame m #[(.ref a), (.ref y)] 2))
  rw [ef_rmL0 m a y]
  have ne2 : a ≠ ed := own_ne_arr E0_a (own_w hw 61 rfl) A6_ed
  refine gALN X0 hx hby d24_0 rfl rfl ?_
  refine gDU X0 hx hby d24_1 rfl ?_
  obtain ⟨T4, X4, e4, st4⟩ := getF X0 hx hZ hown (host := "") (Or.inl (own_w hw 156 rfl)) (Via.of (own_w hw 157 rfl)) e0 F3_a_modCount (g := (mkF m 2 #[vr a, vr y] [(.ref a), (.ref a)])) rfl rfl (hb hby d24_2)
  refine Goes.via st4 ?_
  show Goes p e below _ (T4.setTop (mkF m 5 #[vr a, vr y] [(.int mc), (.ref a)]))
  refine gIC (z := 1) X4 hx hby d24_5 rfl ?_
  refine Goes.via (fun _ kk_ => XS.iadd X4.here hx rfl (hb hby d24_6) rfl kk_) ?_
  show Goes p e below _ (T4.setTop (mkF m 7 #[vr a, vr y] [(.int (mc + (1 : Int32))), (.ref a)]))
  obtain ⟨T5, h5, X5, e5, W5, st5⟩ := putF X4 hx hZ hown (host := "") (Or.inl (own_w hw 156 rfl)) (Via.of (own_w hw 157 rfl)) e4 F3_a_modCount E0_a (Or.inl (own_w hw 80 rfl)) (own_w hw 61 rfl) (ty := .int) (by decide) rfl rfl (g := (mkF m 7 #[vr a, vr y] [(.int (mc + (1 : Int32))), (.ref a)])) rfl rfl (hb hby d24_7)
  refine Goes.via st5 ?_
  have N5 := Fr.snoc X5 N0 H4
  have Fw5 : Fld Z h5 a "java/util/AbstractList" "modCount" "I" (.int (mc + (1 : Int32))) := F3_a_modCount.same W5
  show Goes p e below _ (T5.setTop (mkF m 10 #[vr a, vr y] []))
  refine gALN X5 hx hby d24_10 rfl rfl ?_
  refine gALN X5 hx hby d24_11 rfl rfl ?_
  refine gALN X5 hx hby d24_12 rfl rfl ?_
  have f6 := (F1_a_elementData.other W5 (Or.inr (slot_ne (Or.inl (own_w hw 83 rfl)) (Or.inl (own_w hw 80 rfl)) (by decide) (t := (.array (.object "java/lang/Object"))) (t' := .int) (by decide) (by decide))))
  obtain ⟨T7, X7, e7, st7⟩ := getF X5 hx hZ hown (host := "") (Or.inl (own_w hw 82 rfl)) Via.refl e5 f6 (g := (mkF m 13 #[vr a, vr y] [(.ref a), (.ref y), (.ref a)])) rfl rfl (hb hby d24_13)
  refine Goes.via st7 ?_
  show Goes p e below _ (T7.setTop (mkF m 16 #[vr a, vr y] [(.ref ed), (.ref y), (.ref a)]))
  refine gALN X7 hx hby d24_16 rfl rfl ?_
  have f8 := (F2_a_size.other W5 (Or.inr (slot_ne (Or.inl (own_w hw 147 rfl)) (Or.inl (own_w hw 80 rfl)) (by decide) (t := .int) (t' := .int) (by decide) (by decide))))
  obtain ⟨T9, X9, e9, st9⟩ := getF X7 hx hZ hown (host := "") (Or.inl (own_w hw 146 rfl)) Via.refl e7 f8 (g := (mkF m 17 #[vr a, vr y] [(.ref a), (.ref ed), (.ref y), (.ref a)])) rfl rfl (hb hby d24_17)
  refine Goes.via st9 ?_
  show Goes p e below _ (T9.setTop (mkF m 20 #[vr a, vr y] [(.int (0 : Int32)), (.ref ed), (.ref y), (.ref a)]))
  have f10 := (E0_a.wr W5)
  have f11 := (E5_y.wr W5)
  have f12 := (A6_ed.other W5 (Ne.symm ne2))
  have f13 := (S7_java_util_ArrayList_DEFAULTCAPACITY_EMPTY_ELEMENTDATA_DEFAULTCAPACITY_EMPTY_ELEMENTDATA.wr W5)
  have z15 : h0.size ≤ (h5).size := (Nat.le_trans (Nat.le_refl _) (Nat.le_of_eq W5.size.symm))
  obtain ⟨cq14, q14, q14'⟩ := f10.cell
  obtain ⟨_, _, ⟨T14, L14, k14, n14⟩, -, X14, ⟨Lc14, hQ14, l14, y14, z14⟩, st14⟩ := X9.privateBack hx (y := mN_ArrayList_add) hown (mvT hZ (own_w hw 158 rfl)) (mvT hZ (own_w hw 159 rfl)) (mvT hZ (own_w hw 161 rfl)) (Cond.privateMethod_at (mvP hZ (own_w hw 160 rfl) (args := #[]))) (mvT hZ (own_w hw 162 rfl)) (by decide) (backOf (W := 0) (rmLa0 l Z a0 hw [] a y ed (mc + (1 : Int32)) kE fE h5 n0 (Nat.le_trans Z0 z15) f10 f6 f8 Fw5 H4 f11 f12 f13) hZ (own_w hw 162 rfl) (own_w hw 62 rfl) (by decide) (by decide)) (g := (mkF m 20 #[vr a, vr y] [(.int (0 : Int32)), (.ref ed), (.ref y), (.ref a)])) rfl (by rw [hml]; rfl) (Steps.refl _) (a := a) (by rw [e9]; exact q14) q14' (argsL := [(.ref y), (.ref ed), (.int (0 : Int32))]) (rest := []) (lenOf pd_8 rfl) rfl (by show 2 * 0 + _ ≤ _; exact Nat.le_of_eq rfl) (hb hby d24_20) (fun _ _ => ⟨rfl, e9, (by decide : 0 + 1 ≤ _), (by decide : 0 + 10 ≤ _)⟩)
  dsimp only [Pt.U, Pt.locs, Pt.cells, Pt.slots] at X14 l14 y14 z14 st14 hQ14
  replace l14 := l14.symm
  subst l14 y14 z14
  obtain ⟨nb14, kb14, rfl, N14q, K14, u14_0, u14_1, u14_2, u14_3, u14_4, u14_5, u14_6⟩ := hQ14
  have N14 := Fr.app N5 N14q
  refine Goes.tr st14 ?_
  have sz_nb14 : h0.size ≤ nb14 := Nat.le_trans z15 u14_4
  show Goes p e below _ (T14.setTop (mkF m 23 #[vr a, vr y] []))
  refine gIC (z := 1) X14 hx hby d24_23 rfl ?_
  have K19 : Keep h0 T14.heap [a] := (((Keep.refl h0 [a]).wr W5 (Or.inl (List.mem_of_getElem? (i := 0) rfl))).trans K14 (allS (Or.inl (List.mem_of_getElem? (i := 0) rfl)) all0))
  exact own_finN X14 hx hlk hret (by simp) (hb hby d24_24) (by exact ⟨nb14, kb14, rfl, N14, K19, u14_0, u14_1, u14_2, u14_3, sz_nb14, u14_5, u14_6⟩) (by first | decide | omega | (dsimp only; omega)) (by first | decide | omega | (dsimp only; omega))
theorem ef_rmLa1 (m : MethodId) (a : Addr) (y : Addr) (nb : Addr) (sz : Int32) : entryFrame m #[(.ref a), (.ref y), (.ref nb), (.int sz)] 4 = mkF m 0 #[.val (.ref a), .val (.ref y), .val (.ref nb), .val (.int sz)] [] := by first | (simp [entryFrame, mkF, argsToLocals, Value.category]; done) | rfl
def QrmLa1 (Z : State) (a : Addr) (y : Addr) (nb : Addr) (sz : Int32) (mc : Int32) (kb : ClassId) (f : Nat → Value) (j : Nat) (h0 : Heap) (n0 : Nat) (v_ : Option Value) (h_ : Heap) (L_ : List Loc) : Prop := v_ = none ∧ Fr n0 L_ ∧ Keep h0 h_ [a, nb] ∧ Exa Z h_ a "java/util/ArrayList" ∧ Fld Z h_ a "java/util/ArrayList" "elementData" "[Ljava/lang/Object;" (.ref nb) ∧ Fld Z h_ a "java/util/ArrayList" "size" "I" (.int (sz + (1 : Int32))) ∧ Fld Z h_ a "java/util/AbstractList" "modCount" "I" (.int mc) ∧ Arw Z h_ nb kb (.object "java/lang/Object") 10 (own_upd f j (.ref y))
set_option maxRecDepth 65536 in
set_option maxHeartbeats 40000000 in
theorem rmLa1 (l : Launch) (Z : State) (a0 : Array Value) (hw : ∀ d ∈ tables_1, d.before a0 Z = true) (ws : List Jvm.Cond) (a : Addr) (y : Addr) (nb : Addr) (sz : Int32) (mc : Int32) (kb : ClassId) (f : Nat → Value) (j : Nat) (h0 : Heap) (n0 : Nat) (Z0 : n0 ≤ h0.size) (E0_a : Exa Z h0 a "java/util/ArrayList") (F1_a_elementData : Fld Z h0 a "java/util/ArrayList" "elementData" "[Ljava/lang/Object;" (.ref nb)) (F2_a_size : Fld Z h0 a "java/util/ArrayList" "size" "I" (.int sz)) (F3_a_modCount : Fld Z h0 a "java/util/AbstractList" "modCount" "I" (.int mc)) (H4 : n0 ≤ a) (H5 : n0 ≤ nb) (E6_y : Exa Z h0 y "nearhop/model/Id") (A7_nb : Arw Z h0 nb kb (.object "java/lang/Object") 10 f) (OVr : Ovr Z kb "java/lang/Object") (Hj : sz.toInt = (j : Int)) (Hj10 : j < 10) (HNb : a ≠ nb) :
    MetFree l (⟨"java/util/ArrayList", "add", "(Ljava/lang/Object;[Ljava/lang/Object;I)V"⟩ : MethodName) (head1 (Jvm.Cond.code (⟨"java/util/ArrayList", "add", "(Ljava/lang/Object;[Ljava/lang/Object;I)V"⟩ : MethodName) jdk_38_method_24_code 4 none :: ws) ({ frames := 0, cells := 0, slots := 0, locals := 0 } : Room)) (fun as_ U_ => as_ = #[(.ref a), (.ref y), (.ref nb), (.int sz)] ∧ Z.Warmed39 U_.vm ∧ U_.heap = h0) (fun _ _ _ _ _ => True) (fun _ U_ o_ V_ => ∃ v_ L_, o_ = .returned v_ ∧ QrmLa1 Z a y nb sz mc kb f j h0 n0 v_ V_.heap L_ ∧ FrameEnd U_ o_ V_ L_ ({ frames := 0, cells := 0, slots := 0, locals := 0 } : Room).cells ({ frames := 0, cells := 0, slots := 0, locals := 0 } : Room).slots) := by
  refine MetFree.of_bodySF (plainFor_of_name pn_java_util_ArrayList) hisR ?_
  intro p e s m args below meth c s₁ Bd hml0 hP hK
  obtain ⟨rfl, hZ, hh⟩ := hP
  have hx := Bd.exec
  have hby := Bd.bytes
  have hlk : meth.locks = false := BodyLoose.notSynchronized Bd
  have hret := Bd.returns
  have hml : c.maxLocals = 4 := hml0
  have hown : s.vm.findClass "java/util/ArrayList" = some m.cls := findClass_of_methodNamed Bd.named
  have hnm := (name_of_methodNamed Bd.named Bd.method).1
  have X0 : Stand p l e ({ frames := 0, cells := 0, slots := 0, locals := 0 } : Room) s m #[(.ref a), (.ref y), (.ref nb), (.int sz)] below meth c s₁ [] 0 0 := Stand.of_body Bd
  have e0 : s₁.heap = h0 := by rw [← hh, Bd.state]; rfl
  have N0 := Fr.nil n0
  show Goes p e below (Fin_ s (QrmLa1 Z a y nb sz mc kb f j h0 n0) ({ frames := 0, cells := 0, slots := 0, locals := 0 } : Room).cells ({ frames := 0, cells := 0, slots := 0, locals := 0 } : Room).slots) (s₁.setTop (entryFrame m #[(.ref a), (.ref y), (.ref nb), (.int sz)] 4))
  rw [ef_rmLa1 m a y nb sz]
  refine gILN X0 hx hby d25_0 rfl ?_
  refine gALN X0 hx hby d25_1 rfl rfl ?_
  refine Goes.via (own_alen X0 hx hZ e0 A7_nb (g := (mkF m 2 #[vr a, vr y, vr nb, vi sz] [(.ref nb), (.int sz)])) rfl rfl (hb hby d25_2)) ?_
  show Goes p e below _ (s₁.setTop (mkF m 3 #[vr a, vr y, vr nb, vi sz] [(.int (10 : Int32)), (.int sz)]))
  have hc3_3 : ¬ (sz = (10 : Int32)) := (fun q => by rw [q] at Hj; have e : (10 : Int32).toInt = 10 := (by decide); omega)
  refine Goes.via (fun _ kk_ => XS.icmpYes X0.here hx rfl (pc0 := 3) (pc' := 11) rfl (hb hby d25_3) rfl (feq hc3_3).2 (by decide) (by decide) kk_) ?_
  show Goes p e below _ (s₁.setTop (mkF m 11 #[vr a, vr y, vr nb, vi sz] []))
  refine gALN X0 hx hby d25_11 rfl rfl ?_
  refine gILN X0 hx hby d25_12 rfl ?_
  refine gALN X0 hx hby d25_13 rfl rfl ?_
  obtain ⟨T4, h4, X4, e4, W4, A4, st4⟩ := own_aastore X0 hx hZ e0 A7_nb rfl rfl OVr (Ins.of_exa E6_y (own_w hw 179 rfl)) (j := sz) (i := j) (own_ix Hj).1 (own_ix Hj).2 Hj10 (g := (mkF m 14 #[vr a, vr y, vr nb, vi sz] [(.ref y), (.int sz), (.ref nb)])) rfl rfl (hb hby d25_14)
  refine Goes.via st4 ?_
  have N4 := Fr.snoc X4 N0 H5
  show Goes p e below _ (T4.setTop (mkF m 15 #[vr a, vr y, vr nb, vi sz] []))
  refine gALN X4 hx hby d25_15 rfl rfl ?_
  refine gILN X4 hx hby d25_16 rfl ?_
  refine gIC (z := 1) X4 hx hby d25_17 rfl ?_
  refine Goes.via (fun _ kk_ => XS.iadd X4.here hx rfl (hb hby d25_18) rfl kk_) ?_
  show Goes p e below _ (T4.setTop (mkF m 19 #[vr a, vr y, vr nb, vi sz] [(.int (sz + (1 : Int32))), (.ref a)]))
  have f5 := (F2_a_size.other W4 (Or.inl HNb))
  have f6 := (E0_a.wr W4)
  obtain ⟨T7, h7, X7, e7, W7, st7⟩ := putF X4 hx hZ hown (host := "") (Or.inl (own_w hw 146 rfl)) Via.refl e4 f5 f6 (Or.inl (own_w hw 147 rfl)) (own_w hw 61 rfl) (ty := .int) (by decide) rfl rfl (g := (mkF m 19 #[vr a, vr y, vr nb, vi sz] [(.int (sz + (1 : Int32))), (.ref a)])) rfl rfl (hb hby d25_19)
  refine Goes.via st7 ?_
  have N7 := Fr.snoc X7 N4 H4
  have Fw7 : Fld Z h7 a "java/util/ArrayList" "size" "I" (.int (sz + (1 : Int32))) := f5.same W7
  show Goes p e below _ (T7.setTop (mkF m 22 #[vr a, vr y, vr nb, vi sz] []))
  have K8 : Keep h0 h7 [a, nb] := (((Keep.refl h0 [a, nb]).wr W4 (Or.inl (List.mem_of_getElem? (i := 1) rfl))).wr W7 (Or.inl (List.mem_of_getElem? (i := 0) rfl)))
  have f9 := (f6.wr W7)
  have f10 := ((F1_a_elementData.other W4 (Or.inl HNb)).other W7 (Or.inr (slot_ne (Or.inl (own_w hw 83 rfl)) (Or.inl (own_w hw 147 rfl)) (by decide) (t := (.array (.object "java/lang/Object"))) (t' := .int) (by decide) (by decide))))
  have f11 := ((F3_a_modCount.other W4 (Or.inl HNb)).other W7 (Or.inr (slot_ne (Or.inl (own_w hw 80 rfl)) (Or.inl (own_w hw 147 rfl)) (by decide) (t := .int) (t' := .int) (by decide) (by decide))))
  have f12 := (A4.other W7 (Ne.symm HNb))
  exact own_finV X7 hx hlk hret (hb hby d25_22) (by rw [e7]; exact ⟨rfl, N7, K8, f9, f10, Fw7, f11, f12⟩) (by first | decide | omega | (dsimp only; omega)) (by first | decide | omega | (dsimp only; omega))
theorem ef_rmL1 (m : MethodId) (a : Addr) (y : Addr) : entryFrame m #[(.ref a), (.ref y)] 2 = mkF m 0 #[.val (.ref a), .val (.ref y)] [] := by first | (simp [entryFrame, mkF, argsToLocals, Value.category]; done) | rfl
def QrmL1 (Z : State) (a : Addr) (y : Addr) (nb : Addr) (sz : Int32) (mc : Int32) (kb : ClassId) (f : Nat → Value) (j : Nat) (h0 : Heap) (n0 : Nat) (v_ : Option Value) (h_ : Heap) (L_ : List Loc) : Prop := v_ = some (.int (1 : Int32)) ∧ Fr n0 L_ ∧ Keep h0 h_ [a, nb] ∧ Exa Z h_ a "java/util/ArrayList" ∧ Fld Z h_ a "java/util/ArrayList" "elementData" "[Ljava/lang/Object;" (.ref nb) ∧ Fld Z h_ a "java/util/ArrayList" "size" "I" (.int (sz + (1 : Int32))) ∧ Fld Z h_ a "java/util/AbstractList" "modCount" "I" (.int (mc + (1 : Int32))) ∧ Arw Z h_ nb kb (.object "java/lang/Object") 10 (own_upd f j (.ref y))
set_option maxRecDepth 65536 in
set_option maxHeartbeats 40000000 in
theorem rmL1 (l : Launch) (Z : State) (a0 : Array Value) (hw : ∀ d ∈ tables_1, d.before a0 Z = true) (ws : List Jvm.Cond) (a : Addr) (y : Addr) (nb : Addr) (sz : Int32) (mc : Int32) (kb : ClassId) (f : Nat → Value) (j : Nat) (h0 : Heap) (n0 : Nat) (Z0 : n0 ≤ h0.size) (E0_a : Exa Z h0 a "java/util/ArrayList") (F1_a_elementData : Fld Z h0 a "java/util/ArrayList" "elementData" "[Ljava/lang/Object;" (.ref nb)) (F2_a_size : Fld Z h0 a "java/util/ArrayList" "size" "I" (.int sz)) (F3_a_modCount : Fld Z h0 a "java/util/AbstractList" "modCount" "I" (.int mc)) (H4 : n0 ≤ a) (H5 : n0 ≤ nb) (E6_y : Exa Z h0 y "nearhop/model/Id") (A7_nb : Arw Z h0 nb kb (.object "java/lang/Object") 10 f) (OVr : Ovr Z kb "java/lang/Object") (Hj : sz.toInt = (j : Int)) (Hj10 : j < 10) (HNb : a ≠ nb) :
    MetFree l (⟨"java/util/ArrayList", "add", "(Ljava/lang/Object;)Z"⟩ : MethodName) (head1 (Jvm.Cond.code (⟨"java/util/ArrayList", "add", "(Ljava/lang/Object;)Z"⟩ : MethodName) jdk_38_method_25_code 2 (some .boolean) :: ws) ({ frames := 1, cells := 0, slots := 0, locals := 15 } : Room)) (fun as_ U_ => as_ = #[(.ref a), (.ref y)] ∧ Z.Warmed39 U_.vm ∧ U_.heap = h0) (fun _ _ _ _ _ => True) (fun _ U_ o_ V_ => ∃ v_ L_, o_ = .returned v_ ∧ QrmL1 Z a y nb sz mc kb f j h0 n0 v_ V_.heap L_ ∧ FrameEnd U_ o_ V_ L_ ({ frames := 1, cells := 0, slots := 0, locals := 15 } : Room).cells ({ frames := 1, cells := 0, slots := 0, locals := 15 } : Room).slots) := by
  refine MetFree.of_bodySF (plainFor_of_name pn_java_util_ArrayList) hisR ?_
  intro p e s m args below meth c s₁ Bd hml0 hP hK
  obtain ⟨rfl, hZ, hh⟩ := hP
  have hx := Bd.exec
  have hby := Bd.bytes
  have hlk : meth.locks = false := BodyLoose.notSynchronized Bd
  have hret := Bd.returns
  have hml : c.maxLocals = 2 := hml0
  have hown : s.vm.findClass "java/util/ArrayList" = some m.cls := findClass_of_methodNamed Bd.named
  have hnm := (name_of_methodNamed Bd.named Bd.method).1
  have X0 : Stand p l e ({ frames := 1, cells := 0, slots := 0, locals := 15 } : Room) s m #[(.ref a), (.ref y)] below meth c s₁ [] 0 0 := Stand.of_body Bd
  have e0 : s₁.heap = h0 := by rw [← hh, Bd.state]; rfl
  have N0 := Fr.nil n0
  show Goes p e below (Fin_ s (QrmL1 Z a y nb sz mc kb f j h0 n0) ({ frames := 1, cells := 0, slots := 0, locals := 15 } : Room).cells ({ frames := 1, cells := 0, slots := 0, locals := 15 } : Room).slots) (s₁.setTop (entryFrame m #[(.ref a), (.ref y)] 2))
  rw [ef_rmL1 m a y]
  refine gALN X0 hx hby d24_0 rfl rfl ?_
  refine gDU X0 hx hby d24_1 rfl ?_
  obtain ⟨T3, X3, e3, st3⟩ := getF X0 hx hZ hown (host := "") (Or.inl (own_w hw 156 rfl)) (Via.of (own_w hw 157 rfl)) e0 F3_a_modCount (g := (mkF m 2 #[vr a, vr y] [(.ref a), (.ref a)])) rfl rfl (hb hby d24_2)
  refine Goes.via st3 ?_
  show Goes p e below _ (T3.setTop (mkF m 5 #[vr a, vr y] [(.int mc), (.ref a)]))
  refine gIC (z := 1) X3 hx hby d24_5 rfl ?_
  refine Goes.via (fun _ kk_ => XS.iadd X3.here hx rfl (hb hby d24_6) rfl kk_) ?_
  show Goes p e below _ (T3.setTop (mkF m 7 #[vr a, vr y] [(.int (mc + (1 : Int32))), (.ref a)]))
  obtain ⟨T4, h4, X4, e4, W4, st4⟩ := putF X3 hx hZ hown (host := "") (Or.inl (own_w hw 156 rfl)) (Via.of (own_w hw 157 rfl)) e3 F3_a_modCount E0_a (Or.inl (own_w hw 80 rfl)) (own_w hw 61 rfl) (ty := .int) (by decide) rfl rfl (g := (mkF m 7 #[vr a, vr y] [(.int (mc + (1 : Int32))), (.ref a)])) rfl rfl (hb hby d24_7)
  refine Goes.via st4 ?_
  have N4 := Fr.snoc X4 N0 H4
  have Fw4 : Fld Z h4 a "java/util/AbstractList" "modCount" "I" (.int (mc + (1 : Int32))) := F3_a_modCount.same W4
  show Goes p e below _ (T4.setTop (mkF m 10 #[vr a, vr y] []))
  refine gALN X4 hx hby d24_10 rfl rfl ?_
  refine gALN X4 hx hby d24_11 rfl rfl ?_
  refine gALN X4 hx hby d24_12 rfl rfl ?_
  have f5 := (F1_a_elementData.other W4 (Or.inr (slot_ne (Or.inl (own_w hw 83 rfl)) (Or.inl (own_w hw 80 rfl)) (by decide) (t := (.array (.object "java/lang/Object"))) (t' := .int) (by decide) (by decide))))
  obtain ⟨T6, X6, e6, st6⟩ := getF X4 hx hZ hown (host := "") (Or.inl (own_w hw 82 rfl)) Via.refl e4 f5 (g := (mkF m 13 #[vr a, vr y] [(.ref a), (.ref y), (.ref a)])) rfl rfl (hb hby d24_13)
  refine Goes.via st6 ?_
  show Goes p e below _ (T6.setTop (mkF m 16 #[vr a, vr y] [(.ref nb), (.ref y), (.ref a)]))
  refine gALN X6 hx hby d24_16 rfl rfl ?_
  have f7 := (F2_a_size.other W4 (Or.inr (slot_ne (Or.inl (own_w hw 147 rfl)) (Or.inl (own_w hw 80 rfl)) (by decide) (t := .int) (t' := .int) (by decide) (by decide))))
  obtain ⟨T8, X8, e8, st8⟩ := getF X6 hx hZ hown (host := "") (Or.inl (own_w hw 146 rfl)) Via.refl e6 f7 (g := (mkF m 17 #[vr a, vr y] [(.ref a), (.ref nb), (.ref y), (.ref a)])) rfl rfl (hb hby d24_17)
  refine Goes.via st8 ?_
  show Goes p e below _ (T8.setTop (mkF m 20 #[vr a, vr y] [(.int sz), (.ref nb), (.ref y), (.ref a)]))
  have f9 := (E0_a.wr W4)
  have f10 := (E6_y.wr W4)
  have f11 := (A7_nb.other W4 (Ne.symm HNb))
  have z13 : h0.size ≤ (h4).size := (Nat.le_trans (Nat.le_refl _) (Nat.le_of_eq W4.size.symm))
  obtain ⟨cq12, q12, q12'⟩ := f9.cell
  obtain ⟨_, _, ⟨T12, L12, k12, n12⟩, -, X12, ⟨Lc12, hQ12, l12, y12, z12⟩, st12⟩ := X8.privateBack hx (y := mN_ArrayList_add) hown (mvT hZ (own_w hw 158 rfl)) (mvT hZ (own_w hw 159 rfl)) (mvT hZ (own_w hw 161 rfl)) (Cond.privateMethod_at (mvP hZ (own_w hw 160 rfl) (args := #[]))) (mvT hZ (own_w hw 162 rfl)) (by decide) (backOf (W := 0) (rmLa1 l Z a0 hw [] a y nb sz (mc + (1 : Int32)) kb f j h4 n0 (Nat.le_trans Z0 z13) f9 f5 f7 Fw4 H4 H5 f10 f11 OVr Hj Hj10 HNb) hZ (own_w hw 162 rfl) (own_w hw 62 rfl) (by decide) (by decide)) (g := (mkF m 20 #[vr a, vr y] [(.int sz), (.ref nb), (.ref y), (.ref a)])) rfl (by rw [hml]; rfl) (Steps.refl _) (a := a) (by rw [e8]; exact q12) q12' (argsL := [(.ref y), (.ref nb), (.int sz)]) (rest := []) (lenOf pd_8 rfl) rfl (by show 2 * 0 + _ ≤ _; exact Nat.le_of_eq rfl) (hb hby d24_20) (fun _ _ => ⟨rfl, e8, (by decide : 0 + 0 ≤ _), (by decide : 0 + 0 ≤ _)⟩)
  dsimp only [Pt.U, Pt.locs, Pt.cells, Pt.slots] at X12 l12 y12 z12 st12 hQ12
  replace l12 := l12.symm
  subst l12 y12 z12
  obtain ⟨rfl, N12q, K12, u12_0, u12_1, u12_2, u12_3, u12_4⟩ := hQ12
  have N12 := Fr.app N4 N12q
  refine Goes.tr st12 ?_
  show Goes p e below _ (T12.setTop (mkF m 23 #[vr a, vr y] []))
  refine gIC (z := 1) X12 hx hby d24_23 rfl ?_
  have K14 : Keep h0 T12.heap [a, nb] := (((Keep.refl h0 [a, nb]).wr W4 (Or.inl (List.mem_of_getElem? (i := 0) rfl))).trans K12 (allS (Or.inl (List.mem_of_getElem? (i := 0) rfl)) (allS (Or.inl (List.mem_of_getElem? (i := 1) rfl)) all0)))
  exact own_finN X12 hx hlk hret (by simp) (hb hby d24_24) (by exact ⟨rfl, N12, K14, u12_0, u12_1, u12_2, u12_3, u12_4⟩) (by first | decide | omega | (dsimp only; omega)) (by first | decide | omega | (dsimp only; omega))
theorem ef_rmPn (m : MethodId) (i_ : Int32) (nz : Int32) : entryFrame m #[(.int i_), (.int nz), .null] 3 = mkF m 0 #[.val (.int i_), .val (.int nz), .val .null] [] := by first | (simp [entryFrame, mkF, argsToLocals, Value.category]; done) | rfl
def QrmPn (Z : State) (i_ : Int32) (nz : Int32) (h0 : Heap) (n0 : Nat) (v_ : Option Value) (h_ : Heap) (L_ : List Loc) : Prop := v_ = some (.int i_) ∧ L_ = [] ∧ h_ = h0
theorem pn_jdk_internal_util_Preconditions : plainName "jdk/internal/util/Preconditions" = true := by first | (simp [plainName, overriddenIn]; done) | decide +kernel
theorem d31_0 : decode jdk_41_method_11_code 0 = .ok (.iload_n 0, 1) := by decide +kernel
theorem d31_1 : decode jdk_41_method_11_code 1 = .ok (.ifCond .lt 8, 3) := by decide +kernel
theorem d31_4 : decode jdk_41_method_11_code 4 = .ok (.iload_n 0, 1) := by decide +kernel
theorem d31_5 : decode jdk_41_method_11_code 5 = .ok (.iload_n 1, 1) := by decide +kernel
theorem d31_6 : decode jdk_41_method_11_code 6 = .ok (.if_icmp .lt 10, 3) := by decide +kernel
theorem d31_16 : decode jdk_41_method_11_code 16 = .ok (.iload_n 0, 1) := by decide +kernel
theorem d31_17 : decode jdk_41_method_11_code 17 = .ok (.ireturn, 1) := by decide +kernel
set_option maxRecDepth 65536 in
set_option maxHeartbeats 40000000 in
theorem rmPn (l : Launch) (Z : State) (a0 : Array Value) (hw : ∀ d ∈ tables_1, d.before a0 Z = true) (ws : List Jvm.Cond) (i_ : Int32) (nz : Int32) (h0 : Heap) (n0 : Nat) (Z0 : n0 ≤ h0.size) (H0 : ¬ i_ < (0 : Int32)) (H1 : i_ < nz) :
    MetFree l (⟨"jdk/internal/util/Preconditions", "checkIndex", "(IILjava/util/function/BiFunction;)I"⟩ : MethodName) (head1 (Jvm.Cond.code (⟨"jdk/internal/util/Preconditions", "checkIndex", "(IILjava/util/function/BiFunction;)I"⟩ : MethodName) jdk_41_method_11_code 3 (some .int) :: ws) ({ frames := 0, cells := 0, slots := 0, locals := 0 } : Room)) (fun as_ U_ => as_ = #[(.int i_), (.int nz), .null] ∧ Z.Warmed39 U_.vm ∧ U_.heap = h0) (fun _ _ _ _ _ => True) (fun _ U_ o_ V_ => ∃ v_ L_, o_ = .returned v_ ∧ QrmPn Z i_ nz h0 n0 v_ V_.heap L_ ∧ FrameEnd U_ o_ V_ L_ ({ frames := 0, cells := 0, slots := 0, locals := 0 } : Room).cells ({ frames := 0, cells := 0, slots := 0, locals := 0 } : Room).slots) := by
  refine MetFree.of_bodySF (plainFor_of_name pn_jdk_internal_util_Preconditions) hisR ?_
  intro p e s m args below meth c s₁ Bd hml0 hP hK
  obtain ⟨rfl, hZ, hh⟩ := hP
  have hx := Bd.exec
  have hby := Bd.bytes
  have hlk : meth.locks = false := BodyLoose.notSynchronized Bd
  have hret := Bd.returns
  have hml : c.maxLocals = 3 := hml0
  have hown : s.vm.findClass "jdk/internal/util/Preconditions" = some m.cls := findClass_of_methodNamed Bd.named
  have hnm := (name_of_methodNamed Bd.named Bd.method).1
  have X0 : Stand p l e ({ frames := 0, cells := 0, slots := 0, locals := 0 } : Room) s m #[(.int i_), (.int nz), .null] below meth c s₁ [] 0 0 := Stand.of_body Bd
  have e0 : s₁.heap = h0 := by rw [← hh, Bd.state]; rfl
  have N0 := Fr.nil n0
  show Goes p e below (Fin_ s (QrmPn Z i_ nz h0 n0) ({ frames := 0, cells := 0, slots := 0, locals := 0 } : Room).cells ({ frames := 0, cells := 0, slots := 0, locals := 0 } : Room).slots) (s₁.setTop (entryFrame m #[(.int i_), (.int nz), .null] 3))
  rw [ef_rmPn m i_ nz]
  refine gILN X0 hx hby d31_0 rfl ?_
  have hc1_1 : ¬ (i_ < (0 : Int32)) := H0
  refine Goes.via (fun _ kk_ => XS.ifNo X0.here hx rfl (hb hby d31_1) rfl ((if0 _ _).trans (flt hc1_1).1) kk_) ?_
  show Goes p e below _ (s₁.setTop (mkF m 4 #[vi i_, vi nz, .val .null] []))
  refine gILN X0 hx hby d31_4 rfl ?_
  refine gILN X0 hx hby d31_5 rfl ?_
  have hc6_2 : i_ < nz := H1
  refine Goes.via (fun _ kk_ => XS.icmpYes X0.here hx rfl (pc0 := 6) (pc' := 16) rfl (hb hby d31_6) rfl (tlt hc6_2).1 (by decide) (by decide) kk_) ?_
  show Goes p e below _ (s₁.setTop (mkF m 16 #[vi i_, vi nz, .val .null] []))
  refine gILN X0 hx hby d31_16 rfl ?_
  exact own_finI X0 hx hlk hret (hb hby d31_17) (by rw [e0]; exact ⟨rfl, rfl, rfl⟩) (by first | decide | omega | (dsimp only; omega)) (by first | decide | omega | (dsimp only; omega))
theorem ef_rm30 (m : MethodId) (i_ : Int32) (nz : Int32) : entryFrame m #[(.int i_), (.int nz)] 2 = mkF m 0 #[.val (.int i_), .val (.int nz)] [] := by first | (simp [entryFrame, mkF, argsToLocals, Value.category]; done) | rfl
def Qrm30 (Z : State) (i_ : Int32) (nz : Int32) (h0 : Heap) (n0 : Nat) (v_ : Option Value) (h_ : Heap) (L_ : List Loc) : Prop := v_ = some (.int i_) ∧ L_ = [] ∧ h_ = h0
theorem pn_java_util_Objects : plainName "java/util/Objects" = true := by first | (simp [plainName, overriddenIn]; done) | decide +kernel
theorem d30_0 : decode jdk_31_method_17_code 0 = .ok (.iload_n 0, 1) := by decide +kernel
theorem d30_1 : decode jdk_31_method_17_code 1 = .ok (.iload_n 1, 1) := by decide +kernel
theorem d30_2 : decode jdk_31_method_17_code 2 = .ok (.aconst_null, 1) := by decide +kernel
theorem pd_9 : parseMethodDescriptor "(IILjava/util/function/BiFunction;)I" = some ⟨[.int, .int, (.object "java/util/function/BiFunction")], some .int⟩ := by decide +kernel
theorem d30_3 : decode jdk_31_method_17_code 3 = .ok (.invokestatic 105, 3) := by decide +kernel
abbrev mN_Preconditions_checkIndex : MethodName := ⟨"jdk/internal/util/Preconditions", "checkIndex", "(IILjava/util/function/BiFunction;)I"⟩
theorem d30_6 : decode jdk_31_method_17_code 6 = .ok (.ireturn, 1) := by decide +kernel
set_option maxRecDepth 65536 in
set_option maxHeartbeats 40000000 in
theorem rm30 (l : Launch) (Z : State) (a0 : Array Value) (hw : ∀ d ∈ tables_1, d.before a0 Z = true) (ws : List Jvm.Cond) (i_ : Int32) (nz : Int32) (h0 : Heap) (n0 : Nat) (Z0 : n0 ≤ h0.size) (H0 : ¬ i_ < (0 : Int32)) (H1 : i_ < nz) :
    MetFree l (⟨"java/util/Objects", "checkIndex", "(II)I"⟩ : MethodName) (head1 (Jvm.Cond.code (⟨"java/util/Objects", "checkIndex", "(II)I"⟩ : MethodName) jdk_31_method_17_code 2 (some .int) :: ws) ({ frames := 1, cells := 0, slots := 0, locals := 14 } : Room)) (fun as_ U_ => as_ = #[(.int i_), (.int nz)] ∧ Z.Warmed39 U_.vm ∧ U_.heap = h0) (fun _ _ _ _ _ => True) (fun _ U_ o_ V_ => ∃ v_ L_, o_ = .returned v_ ∧ Qrm30 Z i_ nz h0 n0 v_ V_.heap L_ ∧ FrameEnd U_ o_ V_ L_ ({ frames := 1, cells := 0, slots := 0, locals := 14 } : Room).cells ({ frames := 1, cells := 0, slots := 0, locals := 14 } : Room).slots) := by
  refine MetFree.of_bodySF (plainFor_of_name pn_java_util_Objects) hisR ?_
  intro p e s m args below meth c s₁ Bd hml0 hP hK
  obtain ⟨rfl, hZ, hh⟩ := hP
  have hx := Bd.exec
  have hby := Bd.bytes
  have hlk : meth.locks = false := BodyLoose.notSynchronized Bd
  have hret := Bd.returns
  have hml : c.maxLocals = 2 := hml0
  have hown : s.vm.findClass "java/util/Objects" = some m.cls := findClass_of_methodNamed Bd.named
  have hnm := (name_of_methodNamed Bd.named Bd.method).1
  have X0 : Stand p l e ({ frames := 1, cells := 0, slots := 0, locals := 14 } : Room) s m #[(.int i_), (.int nz)] below meth c s₁ [] 0 0 := Stand.of_body Bd
  have e0 : s₁.heap = h0 := by rw [← hh, Bd.state]; rfl
  have N0 := Fr.nil n0
  show Goes p e below (Fin_ s (Qrm30 Z i_ nz h0 n0) ({ frames := 1, cells := 0, slots := 0, locals := 14 } : Room).cells ({ frames := 1, cells := 0, slots := 0, locals := 14 } : Room).slots) (s₁.setTop (entryFrame m #[(.int i_), (.int nz)] 2))
  rw [ef_rm30 m i_ nz]
  refine gILN X0 hx hby d30_0 rfl ?_
  refine gILN X0 hx hby d30_1 rfl ?_
  refine Goes.via (fun _ kk_ => XS.aconstNull X0.here hx rfl (hb hby d30_2) kk_) ?_
  show Goes p e below _ (s₁.setTop (mkF m 3 #[vi i_, vi nz] [.null, (.int nz), (.int i_)]))
  obtain ⟨_, _, ⟨T1, L1, k1, n1⟩, -, X1, ⟨Lc1, hQ1, l1, y1, z1⟩, st1⟩ := Jvm.LawKit.callS X0 hx (y := mN_Preconditions_checkIndex) hown (mvT hZ (own_w hw 192 rfl)) (mvT hZ (own_w hw 193 rfl)) (mvT hZ (own_w hw 194 rfl)) (mvT hZ (own_w hw 195 rfl)) (by decide) (backOf (W := 0) (rmPn l Z a0 hw [] i_ nz h0 n0 (Nat.le_trans Z0 (Nat.le_refl _)) H0 H1) hZ (own_w hw 195 rfl) (own_w hw 194 rfl) (by decide) (by decide)) (g := (mkF m 3 #[vi i_, vi nz] [.null, (.int nz), (.int i_)])) rfl (by rw [hml]; rfl) (argsL := [(.int i_), (.int nz), .null]) (rest := []) (lenOf pd_9 rfl) rfl (by show 2 * 0 + _ ≤ _; exact Nat.le_of_eq rfl) (hb hby d30_3) (fun _ _ => ⟨rfl, e0, (by decide : 0 + 0 ≤ _), (by decide : 0 + 0 ≤ _)⟩)
  dsimp only [Pt.U, Pt.locs, Pt.cells, Pt.slots] at X1 l1 y1 z1 st1 hQ1
  replace l1 := l1.symm
  subst l1 y1 z1
  obtain ⟨rfl, rfl, e1⟩ := hQ1
  first | rw [List.append_nil] at X1 | skip
  refine Goes.via st1 ?_
  have e1' : T1.heap = h0 := e1
  show Goes p e below _ (T1.setTop (mkF m 6 #[vi i_, vi nz] [(.int i_)]))
  exact own_finI X1 hx hlk hret (hb hby d30_6) (by rw [e1']; exact ⟨rfl, rfl, rfl⟩) (by first | decide | omega | (dsimp only; omega)) (by first | decide | omega | (dsimp only; omega))
theorem ef_rm32 (m : MethodId) (a : Addr) (i_ : Int32) : entryFrame m #[(.ref a), (.int i_)] 2 = mkF m 0 #[.val (.ref a), .val (.int i_)] [] := by first | (simp [entryFrame, mkF, argsToLocals, Value.category]; done) | rfl
def Qrm32 (Z : State) (a : Addr) (i_ : Int32) (nb : Addr) (kb : ClassId) (f : Nat → Value) (j : Nat) (y : Addr) (h0 : Heap) (n0 : Nat) (v_ : Option Value) (h_ : Heap) (L_ : List Loc) : Prop := v_ = some (.ref y) ∧ L_ = [] ∧ h_ = h0
theorem d32_0 : decode jdk_38_method_18_code 0 = .ok (.aload_n 0, 1) := by decide +kernel
theorem d32_1 : decode jdk_38_method_18_code 1 = .ok (.getfield 9, 3) := by decide +kernel
theorem d32_4 : decode jdk_38_method_18_code 4 = .ok (.iload_n 1, 1) := by decide +kernel
theorem d32_5 : decode jdk_38_method_18_code 5 = .ok (.aaload, 1) := by decide +kernel
theorem d32_6 : decode jdk_38_method_18_code 6 = .ok (.areturn, 1) := by decide +kernel
set_option maxRecDepth 65536 in
set_option maxHeartbeats 40000000 in
theorem rm32 (l : Launch) (Z : State) (a0 : Array Value) (hw : ∀ d ∈ tables_1, d.before a0 Z = true) (ws : List Jvm.Cond) (a : Addr) (i_ : Int32) (nb : Addr) (kb : ClassId) (f : Nat → Value) (j : Nat) (y : Addr) (h0 : Heap) (n0 : Nat) (Z0 : n0 ≤ h0.size) (F0_a_elementData : Fld Z h0 a "java/util/ArrayList" "elementData" "[Ljava/lang/Object;" (.ref nb)) (A1_nb : Arw Z h0 nb kb (.object "java/lang/Object") 10 f) (Hj : i_.toInt = (j : Int)) (Hj10 : j < 10) (Hy : f j = .ref y) :
    MetFree l (⟨"java/util/ArrayList", "elementData", "(I)Ljava/lang/Object;"⟩ : MethodName) (head1 (Jvm.Cond.code (⟨"java/util/ArrayList", "elementData", "(I)Ljava/lang/Object;"⟩ : MethodName) jdk_38_method_18_code 2 (some (.object "java/lang/Object")) :: ws) ({ frames := 0, cells := 0, slots := 0, locals := 0 } : Room)) (fun as_ U_ => as_ = #[(.ref a), (.int i_)] ∧ Z.Warmed39 U_.vm ∧ U_.heap = h0) (fun _ _ _ _ _ => True) (fun _ U_ o_ V_ => ∃ v_ L_, o_ = .returned v_ ∧ Qrm32 Z a i_ nb kb f j y h0 n0 v_ V_.heap L_ ∧ FrameEnd U_ o_ V_ L_ ({ frames := 0, cells := 0, slots := 0, locals := 0 } : Room).cells ({ frames := 0, cells := 0, slots := 0, locals := 0 } : Room).slots) := by
  refine MetFree.of_bodySF (plainFor_of_name pn_java_util_ArrayList) hisR ?_
  intro p e s m args below meth c s₁ Bd hml0 hP hK
  obtain ⟨rfl, hZ, hh⟩ := hP
  have hx := Bd.exec
  have hby := Bd.bytes
  have hlk : meth.locks = false := BodyLoose.notSynchronized Bd
  have hret := Bd.returns
  have hml : c.maxLocals = 2 := hml0
  have hown : s.vm.findClass "java/util/ArrayList" = some m.cls := findClass_of_methodNamed Bd.named
  have hnm := (name_of_methodNamed Bd.named Bd.method).1
  have X0 : Stand p l e ({ frames := 0, cells := 0, slots := 0, locals := 0 } : Room) s m #[(.ref a), (.int i_)] below meth c s₁ [] 0 0 := Stand.of_body Bd
  have e0 : s₁.heap = h0 := by rw [← hh, Bd.state]; rfl
  have N0 := Fr.nil n0
  show Goes p e below (Fin_ s (Qrm32 Z a i_ nb kb f j y h0 n0) ({ frames := 0, cells := 0, slots := 0, locals := 0 } : Room).cells ({ frames := 0, cells := 0, slots := 0, locals := 0 } : Room).slots) (s₁.setTop (entryFrame m #[(.ref a), (.int i_)] 2))
  rw [ef_rm32 m a i_]
  refine gALN X0 hx hby d32_0 rfl rfl ?_
  obtain ⟨T1, X1, e1, st1⟩ := getF X0 hx hZ hown (host := "") (Or.inl (own_w hw 82 rfl)) Via.refl e0 F0_a_elementData (g := (mkF m 1 #[vr a, vi i_] [(.ref a)])) rfl rfl (hb hby d32_1)
  refine Goes.via st1 ?_
  show Goes p e below _ (T1.setTop (mkF m 4 #[vr a, vi i_] [(.ref nb)]))
  refine gILN X1 hx hby d32_4 rfl ?_
  refine Goes.via (own_aaload X1 hx hZ e1 A1_nb rfl (j := i_) (i := j) (own_ix Hj).1 (own_ix Hj).2 Hj10 (v := (.ref y)) Hy (g := (mkF m 5 #[vr a, vi i_] [(.int i_), (.ref nb)])) rfl rfl (hb hby d32_5)) ?_
  show Goes p e below _ (T1.setTop (mkF m 6 #[vr a, vi i_] [(.ref y)]))
  exact own_finR X1 hx hlk hret rfl rfl rfl (hb hby d32_6) (by rw [e1]; exact ⟨rfl, rfl, rfl⟩) (by first | decide | omega | (dsimp only; omega)) (by first | decide | omega | (dsimp only; omega))
theorem ef_rmGet (m : MethodId) (a : Addr) (i_ : Int32) : entryFrame m #[(.ref a), (.int i_)] 2 = mkF m 0 #[.val (.ref a), .val (.int i_)] [] := by first | (simp [entryFrame, mkF, argsToLocals, Value.category]; done) | rfl
def QrmGet (Z : State) (a : Addr) (i_ : Int32) (nb : Addr) (kb : ClassId) (f : Nat → Value) (j : Nat) (y : Addr) (sz : Int32) (h0 : Heap) (n0 : Nat) (v_ : Option Value) (h_ : Heap) (L_ : List Loc) : Prop := v_ = some (.ref y) ∧ L_ = [] ∧ h_ = h0
theorem d29_0 : decode jdk_38_method_20_code 0 = .ok (.iload_n 1, 1) := by decide +kernel
theorem d29_1 : decode jdk_38_method_20_code 1 = .ok (.aload_n 0, 1) := by decide +kernel
theorem d29_2 : decode jdk_38_method_20_code 2 = .ok (.getfield 48, 3) := by decide +kernel
theorem d29_5 : decode jdk_38_method_20_code 5 = .ok (.invokestatic 118, 3) := by decide +kernel
abbrev mN_Objects_checkIndex : MethodName := ⟨"java/util/Objects", "checkIndex", "(II)I"⟩
theorem d29_8 : decode jdk_38_method_20_code 8 = .ok (.pop, 1) := by decide +kernel
theorem d29_9 : decode jdk_38_method_20_code 9 = .ok (.aload_n 0, 1) := by decide +kernel
theorem d29_10 : decode jdk_38_method_20_code 10 = .ok (.iload_n 1, 1) := by decide +kernel
theorem pd_10 : parseMethodDescriptor "(I)Ljava/lang/Object;" = some ⟨[.int], some (.object "java/lang/Object")⟩ := by decide +kernel
theorem d29_11 : decode jdk_38_method_20_code 11 = .ok (.invokevirtual 123, 3) := by decide +kernel
abbrev mN_ArrayList_elementData : MethodName := ⟨"java/util/ArrayList", "elementData", "(I)Ljava/lang/Object;"⟩
theorem d29_14 : decode jdk_38_method_20_code 14 = .ok (.areturn, 1) := by decide +kernel
set_option maxRecDepth 65536 in
set_option maxHeartbeats 40000000 in
theorem rmGet (l : Launch) (Z : State) (a0 : Array Value) (hw : ∀ d ∈ tables_1, d.before a0 Z = true) (ws : List Jvm.Cond) (a : Addr) (i_ : Int32) (nb : Addr) (kb : ClassId) (f : Nat → Value) (j : Nat) (y : Addr) (sz : Int32) (h0 : Heap) (n0 : Nat) (Z0 : n0 ≤ h0.size) (E0_a : Exa Z h0 a "java/util/ArrayList") (F1_a_size : Fld Z h0 a "java/util/ArrayList" "size" "I" (.int sz)) (F2_a_elementData : Fld Z h0 a "java/util/ArrayList" "elementData" "[Ljava/lang/Object;" (.ref nb)) (A3_nb : Arw Z h0 nb kb (.object "java/lang/Object") 10 f) (Hj : i_.toInt = (j : Int)) (Hj10 : j < 10) (Hy : f j = .ref y) (Hsz : i_ < sz) :
    MetFree l (⟨"java/util/ArrayList", "get", "(I)Ljava/lang/Object;"⟩ : MethodName) (head1 (Jvm.Cond.code (⟨"java/util/ArrayList", "get", "(I)Ljava/lang/Object;"⟩ : MethodName) jdk_38_method_20_code 2 (some (.object "java/lang/Object")) :: ws) ({ frames := 2, cells := 0, slots := 0, locals := 27 } : Room)) (fun as_ U_ => as_ = #[(.ref a), (.int i_)] ∧ Z.Warmed39 U_.vm ∧ U_.heap = h0) (fun _ _ _ _ _ => True) (fun _ U_ o_ V_ => ∃ v_ L_, o_ = .returned v_ ∧ QrmGet Z a i_ nb kb f j y sz h0 n0 v_ V_.heap L_ ∧ FrameEnd U_ o_ V_ L_ ({ frames := 2, cells := 0, slots := 0, locals := 27 } : Room).cells ({ frames := 2, cells := 0, slots := 0, locals := 27 } : Room).slots) := by
  refine MetFree.of_bodySF (plainFor_of_name pn_java_util_ArrayList) hisR ?_
  intro p e s m args below meth c s₁ Bd hml0 hP hK
  obtain ⟨rfl, hZ, hh⟩ := hP
  have hx := Bd.exec
  have hby := Bd.bytes
  have hlk : meth.locks = false := BodyLoose.notSynchronized Bd
  have hret := Bd.returns
  have hml : c.maxLocals = 2 := hml0
  have hown : s.vm.findClass "java/util/ArrayList" = some m.cls := findClass_of_methodNamed Bd.named
  have hnm := (name_of_methodNamed Bd.named Bd.method).1
  have X0 : Stand p l e ({ frames := 2, cells := 0, slots := 0, locals := 27 } : Room) s m #[(.ref a), (.int i_)] below meth c s₁ [] 0 0 := Stand.of_body Bd
  have e0 : s₁.heap = h0 := by rw [← hh, Bd.state]; rfl
  have N0 := Fr.nil n0
  show Goes p e below (Fin_ s (QrmGet Z a i_ nb kb f j y sz h0 n0) ({ frames := 2, cells := 0, slots := 0, locals := 27 } : Room).cells ({ frames := 2, cells := 0, slots := 0, locals := 27 } : Room).slots) (s₁.setTop (entryFrame m #[(.ref a), (.int i_)] 2))
  rw [ef_rmGet m a i_]
  refine gILN X0 hx hby d29_0 rfl ?_
  refine gALN X0 hx hby d29_1 rfl rfl ?_
  obtain ⟨T2, X2, e2, st2⟩ := getF X0 hx hZ hown (host := "") (Or.inl (own_w hw 146 rfl)) Via.refl e0 F1_a_size (g := (mkF m 2 #[vr a, vi i_] [(.ref a), (.int i_)])) rfl rfl (hb hby d29_2)
  refine Goes.via st2 ?_
  show Goes p e below _ (T2.setTop (mkF m 5 #[vr a, vi i_] [(.int sz), (.int i_)]))
  obtain ⟨_, _, ⟨T3, L3, k3, n3⟩, -, X3, ⟨Lc3, hQ3, l3, y3, z3⟩, st3⟩ := Jvm.LawKit.callS X2 hx (y := mN_Objects_checkIndex) hown (mvT hZ (own_w hw 188 rfl)) (mvT hZ (own_w hw 189 rfl)) (mvT hZ (own_w hw 190 rfl)) (mvT hZ (own_w hw 191 rfl)) (by decide) (backOf (W := 0) (rm30 l Z a0 hw [] i_ sz h0 n0 (Nat.le_trans Z0 (Nat.le_refl _)) (own_ix Hj).1 Hsz) hZ (own_w hw 191 rfl) (own_w hw 190 rfl) (by decide) (by decide)) (g := (mkF m 5 #[vr a, vi i_] [(.int sz), (.int i_)])) rfl (by rw [hml]; rfl) (argsL := [(.int i_), (.int sz)]) (rest := []) (lenOf pd_5 rfl) rfl (by show 2 * 0 + _ ≤ _; exact Nat.le_of_eq rfl) (hb hby d29_5) (fun _ _ => ⟨rfl, e2, (by decide : 0 + 0 ≤ _), (by decide : 0 + 0 ≤ _)⟩)
  dsimp only [Pt.U, Pt.locs, Pt.cells, Pt.slots] at X3 l3 y3 z3 st3 hQ3
  replace l3 := l3.symm
  subst l3 y3 z3
  obtain ⟨rfl, rfl, e3⟩ := hQ3
  first | rw [List.append_nil] at X3 | skip
  refine Goes.via st3 ?_
  have e3' : T3.heap = h0 := e3
  show Goes p e below _ (T3.setTop (mkF m 8 #[vr a, vi i_] [(.int i_)]))
  refine Goes.via (fun _ kk_ => XS.pop X3.here hx rfl (hb hby d29_8) rfl rfl kk_) ?_
  show Goes p e below _ (T3.setTop (mkF m 9 #[vr a, vi i_] []))
  refine gALN X3 hx hby d29_9 rfl rfl ?_
  refine gILN X3 hx hby d29_10 rfl ?_
  obtain ⟨cq4, kq4, q4a, q4b, q4c⟩ := isOf hZ e3' E0_a
  obtain ⟨_, _, ⟨T4, L4, k4, n4⟩, -, X4, ⟨Lc4, hQ4, l4, y4, z4⟩, st4⟩ := X3.virtualBack hx (y := mN_ArrayList_elementData) (z := mN_ArrayList_elementData) hown (mvT hZ (own_w hw 196 rfl)) (mvT hZ (own_w hw 197 rfl)) (notFace_of_selects (args := #[]) (mvT hZ (own_w hw 199 rfl))) (mvT hZ (own_w hw 199 rfl)) (mvT hZ (own_w hw 198 rfl)) (by decide) (backOf (W := 0) (rm32 l Z a0 hw [] a i_ nb kb f j y h0 n0 (Nat.le_trans Z0 (Nat.le_refl _)) F2_a_elementData A3_nb Hj Hj10 Hy) hZ (own_w hw 200 rfl) (own_w hw 62 rfl) (by decide) (by decide)) q4a q4c (g := (mkF m 11 #[vr a, vi i_] [(.int i_), (.ref a)])) rfl (by rw [hml]; rfl) (Steps.refl _) (argsL := [(.int i_)]) (rest := []) (lenOf pd_10 rfl) rfl (by show 2 * 0 + _ ≤ _; exact Nat.le_of_eq rfl) (hb hby d29_11) (fun _ _ => ⟨rfl, e3', (by decide : 0 + 0 ≤ _), (by decide : 0 + 0 ≤ _)⟩)
  dsimp only [Pt.U, Pt.locs, Pt.cells, Pt.slots] at X4 l4 y4 z4 st4 hQ4
  replace l4 := l4.symm
  subst l4 y4 z4
  obtain ⟨rfl, rfl, e4⟩ := hQ4
  first | rw [List.append_nil] at X4 | skip
  refine Goes.tr st4 ?_
  have e4' : T4.heap = h0 := e4
  show Goes p e below _ (T4.setTop (mkF m 14 #[vr a, vi i_] [(.ref y)]))
  exact own_finR X4 hx hlk hret rfl rfl rfl (hb hby d29_14) (by rw [e4']; exact ⟨rfl, rfl, rfl⟩) (by first | decide | omega | (dsimp only; omega)) (by first | decide | omega | (dsimp only; omega))
theorem ef_rm10 (m : MethodId) (a : Addr) (ow : Addr) : entryFrame m #[(.ref a), (.ref ow)] 2 = mkF m 0 #[.val (.ref a), .val (.ref ow)] [] := by first | (simp [entryFrame, mkF, argsToLocals, Value.category]; done) | rfl
def Qrm10 (Z : State) (a : Addr) (ow : Addr) (sp : Addr) (dg : Int32) (nd : Nat) (ed : Addr) (h0 : Heap) (n0 : Nat) (v_ : Option Value) (h_ : Heap) (L_ : List Loc) : Prop := ∃ al : Addr, ∃ ws : Addr, ∃ kw : ClassId, v_ = none ∧ Fr n0 L_ ∧ Keep h0 h_ [a] ∧ Exa Z h_ a "nearhop/model/Block" ∧ Fld Z h_ a "nearhop/model/Block" "members" "Ljava/util/List;" (.ref al) ∧ Fld Z h_ a "nearhop/model/Block" "owner" "Lnearhop/model/Id;" (.ref ow) ∧ Fld Z h_ a "nearhop/model/Block" "withShared" "[I" (.ref ws) ∧ Fld Z h_ a "nearhop/model/Block" "depth" "I" (.int (0 : Int32)) ∧ h0.size ≤ al ∧ Exa Z h_ al "java/util/ArrayList" ∧ Fld Z h_ al "java/util/ArrayList" "elementData" "[Ljava/lang/Object;" (.ref ed) ∧ Fld Z h_ al "java/util/ArrayList" "size" "I" (.int (0 : Int32)) ∧ Fld Z h_ al "java/util/AbstractList" "modCount" "I" (.int (0 : Int32)) ∧ h0.size ≤ ws ∧ Arw Z h_ ws kw .int nd (fun _ => (.int 0))
theorem pn_nearhop_model_Block : plainName "nearhop/model/Block" = true := by first | (simp [plainName, overriddenIn]; done) | decide +kernel
theorem d10_0 : decode prog_74_method_1_code 0 = .ok (.aload_n 0, 1) := by decide +kernel
theorem d10_1 : decode prog_74_method_1_code 1 = .ok (.invokespecial 1, 3) := by decide +kernel
theorem d10_4 : decode prog_74_method_1_code 4 = .ok (.aload_n 0, 1) := by decide +kernel
theorem d10_5 : decode prog_74_method_1_code 5 = .ok (.new 7, 3) := by decide +kernel
theorem d10_8 : decode prog_74_method_1_code 8 = .ok (.dup, 1) := by decide +kernel
theorem d10_9 : decode prog_74_method_1_code 9 = .ok (.invokespecial 9, 3) := by decide +kernel
abbrev mN_ArrayList_init : MethodName := ⟨"java/util/ArrayList", "<init>", "()V"⟩
theorem d10_12 : decode prog_74_method_1_code 12 = .ok (.putfield 10, 3) := by decide +kernel
theorem d10_15 : decode prog_74_method_1_code 15 = .ok (.aload_n 0, 1) := by decide +kernel
theorem d10_16 : decode prog_74_method_1_code 16 = .ok (.aload_n 1, 1) := by decide +kernel
theorem d10_17 : decode prog_74_method_1_code 17 = .ok (.putfield 16, 3) := by decide +kernel
theorem d10_20 : decode prog_74_method_1_code 20 = .ok (.aload_n 0, 1) := by decide +kernel
theorem d10_21 : decode prog_74_method_1_code 21 = .ok (.aload_n 1, 1) := by decide +kernel
theorem pd_11 : parseMethodDescriptor "()Lnearhop/model/IdSpace;" = some ⟨[], some (.object "nearhop/model/IdSpace")⟩ := by decide +kernel
theorem d10_22 : decode prog_74_method_1_code 22 = .ok (.invokevirtual 20, 3) := by decide +kernel
abbrev mN_Id_space : MethodName := ⟨"nearhop/model/Id", "space", "()Lnearhop/model/IdSpace;"⟩
theorem d10_25 : decode prog_74_method_1_code 25 = .ok (.invokevirtual 26, 3) := by decide +kernel
theorem d10_28 : decode prog_74_method_1_code 28 = .ok (.newarray .int, 2) := by decide +kernel
theorem d10_30 : decode prog_74_method_1_code 30 = .ok (.putfield 32, 3) := by decide +kernel
theorem d10_33 : decode prog_74_method_1_code 33 = .ok (.return_, 1) := by decide +kernel
set_option maxRecDepth 65536 in
set_option maxHeartbeats 40000000 in
theorem rm10 (l : Launch) (Z : State) (a0 : Array Value) (hw : ∀ d ∈ tables_1, d.before a0 Z = true) (ws : List Jvm.Cond) (a : Addr) (ow : Addr) (sp : Addr) (dg : Int32) (nd : Nat) (ed : Addr) (h0 : Heap) (n0 : Nat) (Z0 : n0 ≤ h0.size) (E0_a : Exa Z h0 a "nearhop/model/Block") (F1_a_members : Fld Z h0 a "nearhop/model/Block" "members" "Ljava/util/List;" .null) (F2_a_owner : Fld Z h0 a "nearhop/model/Block" "owner" "Lnearhop/model/Id;" .null) (F3_a_withShared : Fld Z h0 a "nearhop/model/Block" "withShared" "[I" .null) (F4_a_depth : Fld Z h0 a "nearhop/model/Block" "depth" "I" (.int (0 : Int32))) (H5 : n0 ≤ a) (E6_ow : Exa Z h0 ow "nearhop/model/Id") (F7_ow_space : Fld Z h0 ow "nearhop/model/Id" "space" "Lnearhop/model/IdSpace;" (.ref sp)) (E8_sp : Exa Z h0 sp "nearhop/model/IdSpace") (F9_sp_digits : Fld Z h0 sp "nearhop/model/IdSpace" "digits" "I" (.int dg)) (Hnd : dg.toInt = (nd : Int)) (Hn8 : nd ≤ 8) (S12_java_util_ArrayList_DEFAULTCAPACITY_EMPTY_ELEMENTDATA_DEFAULTCAPACITY_EMPTY_ELEMENTDATA : Sta Z h0 "java/util/ArrayList" "DEFAULTCAPACITY_EMPTY_ELEMENTDATA" "[Ljava/lang/Object;" (.ref ed)) :
    MetFree l (⟨"nearhop/model/Block", "<init>", "(Lnearhop/model/Id;)V"⟩ : MethodName) (head1 (Jvm.Cond.code (⟨"nearhop/model/Block", "<init>", "(Lnearhop/model/Id;)V"⟩ : MethodName) prog_74_method_1_code 2 none :: ws) ({ frames := 4, cells := 2, slots := 11, locals := 50 } : Room)) (fun as_ U_ => as_ = #[(.ref a), (.ref ow)] ∧ Z.Warmed39 U_.vm ∧ U_.heap = h0) (fun _ _ _ _ _ => True) (fun _ U_ o_ V_ => ∃ v_ L_, o_ = .returned v_ ∧ Qrm10 Z a ow sp dg nd ed h0 n0 v_ V_.heap L_ ∧ FrameEnd U_ o_ V_ L_ ({ frames := 4, cells := 2, slots := 11, locals := 50 } : Room).cells ({ frames := 4, cells := 2, slots := 11, locals := 50 } : Room).slots) := by
  refine MetFree.of_bodySF (plainFor_of_name pn_nearhop_model_Block) hisR ?_
  intro p e s m args below meth c s₁ Bd hml0 hP hK
  obtain ⟨rfl, hZ, hh⟩ := hP
  have hx := Bd.exec
  have hby := Bd.bytes
  have hlk : meth.locks = false := BodyLoose.notSynchronized Bd
  have hret := Bd.returns
  have hml : c.maxLocals = 2 := hml0
  have hown : s.vm.findClass "nearhop/model/Block" = some m.cls := findClass_of_methodNamed Bd.named
  have hnm := (name_of_methodNamed Bd.named Bd.method).1
  have X0 : Stand p l e ({ frames := 4, cells := 2, slots := 11, locals := 50 } : Room) s m #[(.ref a), (.ref ow)] below meth c s₁ [] 0 0 := Stand.of_body Bd
  have e0 : s₁.heap = h0 := by rw [← hh, Bd.state]; rfl
  have N0 := Fr.nil n0
  show Goes p e below (Fin_ s (Qrm10 Z a ow sp dg nd ed h0 n0) ({ frames := 4, cells := 2, slots := 11, locals := 50 } : Room).cells ({ frames := 4, cells := 2, slots := 11, locals := 50 } : Room).slots) (s₁.setTop (entryFrame m #[(.ref a), (.ref ow)] 2))
  rw [ef_rm10 m a ow]
  have ne1 : a ≠ ow := ne_exa E0_a E6_ow (by decide)
  have ne2 : a ≠ sp := ne_exa E0_a E8_sp (by decide)
  refine gALN X0 hx hby d10_0 rfl rfl ?_
  obtain ⟨T4, X4, e4, st4⟩ := initO X0 hx hZ hown (own_w hw 59 rfl) (own_w hw 13 rfl) (own_w hw 14 rfl) e0 (g := (mkF m 1 #[vr a, vr ow] [(.ref a)])) rfl (by rw [hml]; rfl) rfl (hb hby d10_1) (by decide) (W := 0) (by show 2 * 0 + _ ≤ _; exact Nat.le_of_eq rfl) (by decide)
  refine Goes.via st4 ?_
  show Goes p e below _ (T4.setTop (mkF m 4 #[vr a, vr ow] []))
  refine gALN X4 hx hby d10_4 rfl rfl ?_
  obtain ⟨T5, h5, X5, e5, E5, A5, D5, -, st5⟩ := newO X4 hx hZ hown (own_w hw 60 rfl) (own_w hw 61 rfl) (own_w hw 62 rfl) e4 (g := (mkF m 5 #[vr a, vr ow] [(.ref a)])) rfl (hb hby d10_5) (by first | decide | omega | (dsimp only; omega)) (by first | decide | omega | (dsimp only; omega))
  obtain ⟨b5, g5⟩ : ∃ z, z = (h0).size := ⟨_, rfl⟩
  rw [← g5] at A5 D5 st5
  have lne6 : a < b5 := Nat.lt_of_lt_of_le E0_a.lt (Nat.le_of_eq g5.symm)
  have ne6 : a ≠ b5 := Nat.ne_of_lt lne6
  have lne7 : ow < b5 := Nat.lt_of_lt_of_le E6_ow.lt (Nat.le_of_eq g5.symm)
  have ne7 : ow ≠ b5 := Nat.ne_of_lt lne7
  have lne8 : sp < b5 := Nat.lt_of_lt_of_le E8_sp.lt (Nat.le_of_eq g5.symm)
  have ne8 : sp ≠ b5 := Nat.ne_of_lt lne8
  have sz_b5 : h0.size ≤ b5 := Nat.le_trans (Nat.le_refl _) (Nat.le_of_eq g5.symm)
  have gn_b5 : n0 ≤ b5 := Nat.le_trans Z0 sz_b5
  have F_modCount_b5 : Fld Z h5 b5 "java/util/AbstractList" "modCount" "I" (.int (0 : Int32)) := D5 (Or.inl (own_w hw 80 rfl)) (ty := .int) (by decide)
  have F_elementData_b5 : Fld Z h5 b5 "java/util/ArrayList" "elementData" "[Ljava/lang/Object;" .null := D5 (Or.inl (own_w hw 83 rfl)) (ty := (.array (.object "java/lang/Object"))) (by decide)
  have F_size_b5 : Fld Z h5 b5 "java/util/ArrayList" "size" "I" (.int (0 : Int32)) := D5 (Or.inl (own_w hw 147 rfl)) (ty := .int) (by decide)
  refine Goes.via st5 ?_
  show Goes p e below _ (T5.setTop (mkF m 8 #[vr a, vr ow] [(.ref b5), (.ref a)]))
  refine gDU X5 hx hby d10_8 rfl ?_
  have f9 := (S12_java_util_ArrayList_DEFAULTCAPACITY_EMPTY_ELEMENTDATA_DEFAULTCAPACITY_EMPTY_ELEMENTDATA.ext E5)
  have z11 : h0.size ≤ (h5).size := (Nat.le_trans (Nat.le_refl _) E5.1)
  obtain ⟨_, _, ⟨T10, L10, k10, n10⟩, -, X10, ⟨Lc10, hQ10, l10, y10, z10⟩, st10⟩ := X5.specialBack hx (y := mN_ArrayList_init) rfl hown (mvT hZ (own_w hw 63 rfl)) (mvT hZ (own_w hw 64 rfl)) (mvT hZ (own_w hw 65 rfl)) (by decide) (backOf (W := 2) (rm11 l Z a0 hw [] b5 ed h5 n0 (Nat.le_trans Z0 z11) A5 F_elementData_b5 F_size_b5 F_modCount_b5 gn_b5 f9) hZ (own_w hw 65 rfl) (own_w hw 62 rfl) (by decide) (by decide)) (g := (mkF m 9 #[vr a, vr ow] [(.ref b5), (.ref b5), (.ref a)])) rfl (by rw [hml]; rfl) (Steps.refl _) (a := b5) (argsL := []) (rest := [(.ref b5), (.ref a)]) (lenOf pd_0 rfl) rfl (by show 2 * 0 + _ ≤ _; exact Nat.le_of_eq rfl) (hb hby d10_9) (fun _ _ => ⟨rfl, e5, (by decide : 1 + 0 ≤ _), (by decide : 3 + 0 ≤ _)⟩)
  dsimp only [Pt.U, Pt.locs, Pt.cells, Pt.slots] at X10 l10 y10 z10 st10 hQ10
  replace l10 := l10.symm
  subst l10 y10 z10
  obtain ⟨rfl, N10q, K10, u10_0, u10_1, u10_2, u10_3⟩ := hQ10
  have N10 := Fr.app N0 N10q
  refine Goes.tr st10 ?_
  show Goes p e below _ (T10.setTop (mkF m 12 #[vr a, vr ow] [(.ref b5), (.ref a)]))
  have f12 := ((F1_a_members.ext E5).keep K10 (ninS ne6 nin0))
  have f13 := ((E0_a.ext E5).keep K10)
  obtain ⟨T14, h14, X14, e14, W14, st14⟩ := putF X10 hx hZ hown (host := "") (Or.inl (own_w hw 84 rfl)) Via.refl rfl f12 f13 (Or.inr ⟨(own_w hw 85 rfl), rfl, hnm⟩) (own_w hw 25 rfl) (ty := (.object "java/util/List")) (by decide) rfl rfl (g := (mkF m 12 #[vr a, vr ow] [(.ref b5), (.ref a)])) rfl rfl (hb hby d10_12)
  refine Goes.via st14 ?_
  have N14 := Fr.snoc X14 N10 H5
  have Fw14 : Fld Z h14 a "nearhop/model/Block" "members" "Ljava/util/List;" (.ref b5) := f12.same W14
  show Goes p e below _ (T14.setTop (mkF m 15 #[vr a, vr ow] []))
  refine gALN X14 hx hby d10_15 rfl rfl ?_
  refine gALN X14 hx hby d10_16 rfl rfl ?_
  have f15 := (((F2_a_owner.ext E5).keep K10 (ninS ne6 nin0)).other W14 (Or.inr (slot_ne (Or.inr (own_w hw 87 rfl)) (Or.inr (own_w hw 85 rfl)) (by decide) (t := (.object "nearhop/model/Id")) (t' := (.object "java/util/List")) (by decide) (by decide))))
  have f16 := (f13.wr W14)
  obtain ⟨T17, h17, X17, e17, W17, st17⟩ := putF X14 hx hZ hown (host := "") (Or.inl (own_w hw 86 rfl)) Via.refl e14 f15 f16 (Or.inr ⟨(own_w hw 87 rfl), rfl, hnm⟩) (own_w hw 25 rfl) (ty := (.object "nearhop/model/Id")) (by decide) rfl rfl (g := (mkF m 17 #[vr a, vr ow] [(.ref ow), (.ref a)])) rfl rfl (hb hby d10_17)
  refine Goes.via st17 ?_
  have N17 := Fr.snoc X17 N14 H5
  have Fw17 : Fld Z h17 a "nearhop/model/Block" "owner" "Lnearhop/model/Id;" (.ref ow) := f15.same W17
  show Goes p e below _ (T17.setTop (mkF m 20 #[vr a, vr ow] []))
  refine gALN X17 hx hby d10_20 rfl rfl ?_
  refine gALN X17 hx hby d10_21 rfl rfl ?_
  have f18 := ((((F7_ow_space.ext E5).keep K10 (ninS ne7 nin0)).other W14 (Or.inl (Ne.symm ne1))).other W17 (Or.inl (Ne.symm ne1)))
  have z20 : h0.size ≤ (h17).size := (Nat.le_trans (Nat.le_trans (Nat.le_trans z11 K10.1) (Nat.le_of_eq W14.size.symm)) (Nat.le_of_eq W17.size.symm))
  have f21 := ((((E6_ow.ext E5).keep K10).wr W14).wr W17)
  obtain ⟨cq19, kq19, q19a, q19b, q19c⟩ := isOf hZ e17 f21
  obtain ⟨_, _, ⟨T19, L19, k19, n19⟩, -, X19, ⟨Lc19, hQ19, l19, y19, z19⟩, st19⟩ := X17.virtualBack hx (y := mN_Id_space) (z := mN_Id_space) hown (mvT hZ (own_w hw 88 rfl)) (mvT hZ (own_w hw 89 rfl)) (notFace_of_selects (args := #[]) (mvT hZ (own_w hw 91 rfl))) (mvT hZ (own_w hw 91 rfl)) (mvT hZ (own_w hw 90 rfl)) (by decide) (backOf (W := 1) (rm14 l Z a0 hw [] ow sp h17 n0 (Nat.le_trans Z0 z20) f18) hZ (own_w hw 92 rfl) (own_w hw 29 rfl) (by decide) (by decide)) q19a q19c (g := (mkF m 22 #[vr a, vr ow] [(.ref ow), (.ref a)])) rfl (by rw [hml]; rfl) (Steps.refl _) (argsL := []) (rest := [(.ref a)]) (lenOf pd_11 rfl) rfl (by show 2 * 0 + _ ≤ _; exact Nat.le_of_eq rfl) (hb hby d10_22) (fun _ _ => ⟨rfl, e17, (by decide : 1 + 0 ≤ _), (by decide : 3 + 0 ≤ _)⟩)
  dsimp only [Pt.U, Pt.locs, Pt.cells, Pt.slots] at X19 l19 y19 z19 st19 hQ19
  replace l19 := l19.symm
  subst l19 y19 z19
  obtain ⟨rfl, rfl, e19⟩ := hQ19
  first | rw [List.append_nil] at X19 | skip
  refine Goes.tr st19 ?_
  have e19' : T19.heap = h17 := e19
  show Goes p e below _ (T19.setTop (mkF m 25 #[vr a, vr ow] [(.ref sp), (.ref a)]))
  have f22 := ((((F9_sp_digits.ext E5).keep K10 (ninS ne8 nin0)).other W14 (Or.inl (Ne.symm ne2))).other W17 (Or.inl (Ne.symm ne2)))
  have f24 := ((((E8_sp.ext E5).keep K10).wr W14).wr W17)
  obtain ⟨cq23, kq23, q23a, q23b, q23c⟩ := isOf hZ e19' f24
  obtain ⟨_, _, ⟨T23, L23, k23, n23⟩, -, X23, ⟨Lc23, hQ23, l23, y23, z23⟩, st23⟩ := X19.virtualBack hx (y := mN_IdSpace_digits) (z := mN_IdSpace_digits) hown (mvT hZ (own_w hw 93 rfl)) (mvT hZ (own_w hw 94 rfl)) (notFace_of_selects (args := #[]) (mvT hZ (own_w hw 96 rfl))) (mvT hZ (own_w hw 96 rfl)) (mvT hZ (own_w hw 95 rfl)) (by decide) (backOf (W := 1) (rm15 l Z a0 hw [] sp dg h17 n0 (Nat.le_trans Z0 z20) f22) hZ (own_w hw 97 rfl) (own_w hw 3 rfl) (by decide) (by decide)) q23a q23c (g := (mkF m 25 #[vr a, vr ow] [(.ref sp), (.ref a)])) rfl (by rw [hml]; rfl) (Steps.refl _) (argsL := []) (rest := [(.ref a)]) (lenOf pd_2 rfl) rfl (by show 2 * 0 + _ ≤ _; exact Nat.le_of_eq rfl) (hb hby d10_25) (fun _ _ => ⟨rfl, e19', (by decide : 1 + 0 ≤ _), (by decide : 3 + 0 ≤ _)⟩)
  dsimp only [Pt.U, Pt.locs, Pt.cells, Pt.slots] at X23 l23 y23 z23 st23 hQ23
  replace l23 := l23.symm
  subst l23 y23 z23
  obtain ⟨rfl, rfl, e23⟩ := hQ23
  first | rw [List.append_nil] at X23 | skip
  refine Goes.tr st23 ?_
  have e23' : T23.heap = h17 := e23
  show Goes p e below _ (T23.setTop (mkF m 28 #[vr a, vr ow] [(.int dg), (.ref a)]))
  obtain ⟨T25, h25, k25, X25, e25, E25, A25, st25⟩ := own_newP X23 hx hZ (own_w hw 98 rfl) e23' (g := (mkF m 28 #[vr a, vr ow] [(.int dg), (.ref a)])) rfl (hb hby d10_28) rfl (n := dg) (N := nd) (own_ix Hnd).1 (own_ix Hnd).2 (cap := 8) (by first | decide | omega | (dsimp only; omega)) (by first | decide | omega | (dsimp only; omega)) (by first | decide | omega | (dsimp only; omega)) (by first | decide | omega | (dsimp only; omega))
  obtain ⟨b25, g25⟩ : ∃ z, z = (h17).size := ⟨_, rfl⟩
  rw [← g25] at A25 st25
  have f26 := (f16.wr W17)
  have lne27 : a < b25 := Nat.lt_of_lt_of_le f26.lt (Nat.le_of_eq g25.symm)
  have ne27 : a ≠ b25 := Nat.ne_of_lt lne27
  have f30 := ((u10_0.wr W14).wr W17)
  have sz_b25 : h0.size ≤ b25 := Nat.le_trans z20 (Nat.le_of_eq g25.symm)
  refine Goes.via st25 ?_
  show Goes p e below _ (T25.setTop (mkF m 30 #[vr a, vr ow] [(.ref b25), (.ref a)]))
  have f32 := (((((F3_a_withShared.ext E5).keep K10 (ninS ne6 nin0)).other W14 (Or.inr (slot_ne (Or.inr (own_w hw 100 rfl)) (Or.inr (own_w hw 85 rfl)) (by decide) (t := (.array .int)) (t' := (.object "java/util/List")) (by decide) (by decide)))).other W17 (Or.inr (slot_ne (Or.inr (own_w hw 100 rfl)) (Or.inr (own_w hw 87 rfl)) (by decide) (t := (.array .int)) (t' := (.object "nearhop/model/Id")) (by decide) (by decide)))).ext E25)
  have f33 := (f26.ext E25)
  obtain ⟨T34, h34, X34, e34, W34, st34⟩ := putF X25 hx hZ hown (host := "") (Or.inl (own_w hw 99 rfl)) Via.refl e25 f32 f33 (Or.inr ⟨(own_w hw 100 rfl), rfl, hnm⟩) (own_w hw 25 rfl) (ty := (.array .int)) (by decide) rfl rfl (g := (mkF m 30 #[vr a, vr ow] [(.ref b25), (.ref a)])) rfl rfl (hb hby d10_30)
  refine Goes.via st34 ?_
  have N34 := Fr.snoc X34 N17 H5
  have Fw34 : Fld Z h34 a "nearhop/model/Block" "withShared" "[I" (.ref b25) := f32.same W34
  show Goes p e below _ (T34.setTop (mkF m 33 #[vr a, vr ow] []))
  have K35 : Keep h0 h34 [a] := (((((((Keep.refl h0 [a]).ext E5).trans K10 (allS (Or.inr sz_b5) all0)).wr W14 (Or.inl (List.mem_of_getElem? (i := 0) rfl))).wr W17 (Or.inl (List.mem_of_getElem? (i := 0) rfl))).ext E25).wr W34 (Or.inl (List.mem_of_getElem? (i := 0) rfl)))
  have f36 := (f33.wr W34)
  have f37 := (((Fw14.other W17 (Or.inr (slot_ne (Or.inr (own_w hw 85 rfl)) (Or.inr (own_w hw 87 rfl)) (by decide) (t := (.object "java/util/List")) (t' := (.object "nearhop/model/Id")) (by decide) (by decide)))).ext E25).other W34 (Or.inr (slot_ne (Or.inr (own_w hw 85 rfl)) (Or.inr (own_w hw 100 rfl)) (by decide) (t := (.object "java/util/List")) (t' := (.array .int)) (by decide) (by decide))))
  have f38 := ((Fw17.ext E25).other W34 (Or.inr (slot_ne (Or.inr (own_w hw 87 rfl)) (Or.inr (own_w hw 100 rfl)) (by decide) (t := (.object "nearhop/model/Id")) (t' := (.array .int)) (by decide) (by decide))))
  have f39 := ((((((F4_a_depth.ext E5).keep K10 (ninS ne6 nin0)).other W14 (Or.inr (slot_ne (Or.inl (own_w hw 131 rfl)) (Or.inr (own_w hw 85 rfl)) (by decide) (t := .int) (t' := (.object "java/util/List")) (by decide) (by decide)))).other W17 (Or.inr (slot_ne (Or.inl (own_w hw 131 rfl)) (Or.inr (own_w hw 87 rfl)) (by decide) (t := .int) (t' := (.object "nearhop/model/Id")) (by decide) (by decide)))).ext E25).other W34 (Or.inr (slot_ne (Or.inl (own_w hw 131 rfl)) (Or.inr (own_w hw 100 rfl)) (by decide) (t := .int) (t' := (.array .int)) (by decide) (by decide))))
  have f40 := ((f30.ext E25).wr W34)
  have f41 := ((((u10_1.other W14 (Or.inl (Ne.symm ne6))).other W17 (Or.inl (Ne.symm ne6))).ext E25).other W34 (Or.inl (Ne.symm ne6)))
  have f42 := ((((u10_2.other W14 (Or.inl (Ne.symm ne6))).other W17 (Or.inl (Ne.symm ne6))).ext E25).other W34 (Or.inl (Ne.symm ne6)))
  have f43 := ((((u10_3.other W14 (Or.inl (Ne.symm ne6))).other W17 (Or.inl (Ne.symm ne6))).ext E25).other W34 (Or.inl (Ne.symm ne6)))
  have f44 := (A25.other W34 (Ne.symm ne27))
  exact own_finV X34 hx hlk hret (hb hby d10_33) (by rw [e34]; exact ⟨b5, b25, k25, rfl, N34, K35, f36, f37, f38, Fw34, f39, sz_b5, f40, f41, f42, f43, sz_b25, f44⟩) (by first | decide | omega | (dsimp only; omega)) (by first | decide | omega | (dsimp only; omega))
def own_shares (x : Int64) (o : Int64) (d_ : Int32) (n_ : Int32) (b_ : Int32) : Int32 := (if n_ < d_ then (0 : Int32) else (if (((x ^^^ o).toUInt64 >>> (((n_ - d_) * b_) &&& 0x3f).toInt64.toUInt64).toInt64) = (0 : Int64) then (1 : Int32) else (0 : Int32)))
theorem ef_rm33 (m : MethodId) (x : Int64) (o : Int64) (d_ : Int32) (n_ : Int32) (b_ : Int32) : entryFrame m #[(.long x), (.long o), (.int d_), (.int n_), (.int b_)] 7 = mkF m 0 #[.val (.long x), .second, .val (.long o), .second, .val (.int d_), .val (.int n_), .val (.int b_)] [] := by first | (simp [entryFrame, mkF, argsToLocals, Value.category]; done) | rfl
def Qrm33 (Z : State) (x : Int64) (o : Int64) (d_ : Int32) (n_ : Int32) (b_ : Int32) (h0 : Heap) (n0 : Nat) (v_ : Option Value) (h_ : Heap) (L_ : List Loc) : Prop := v_ = some (.int (own_shares x o d_ n_ b_)) ∧ L_ = [] ∧ h_ = h0
theorem pn_nearhop_model_BlockSharingPinLaw : plainName "nearhop/model/BlockSharingPinLaw" = true := by first | (simp [plainName, overriddenIn]; done) | decide +kernel
theorem d33_0 : decode method_2_code 0 = .ok (.iload 4, 2) := by decide +kernel
theorem d33_2 : decode method_2_code 2 = .ok (.iload 5, 2) := by decide +kernel
theorem d33_4 : decode method_2_code 4 = .ok (.if_icmp .gt 24, 3) := by decide +kernel
theorem d33_28 : decode method_2_code 28 = .ok (.iconst 0, 1) := by decide +kernel
theorem d33_29 : decode method_2_code 29 = .ok (.ireturn, 1) := by decide +kernel
theorem d33_7 : decode method_2_code 7 = .ok (.lload_n 0, 1) := by decide +kernel
theorem d33_8 : decode method_2_code 8 = .ok (.lload_n 2, 1) := by decide +kernel
theorem d33_9 : decode method_2_code 9 = .ok (.lxor, 1) := by decide +kernel
theorem d33_10 : decode method_2_code 10 = .ok (.iload 5, 2) := by decide +kernel
theorem d33_12 : decode method_2_code 12 = .ok (.iload 4, 2) := by decide +kernel
theorem d33_14 : decode method_2_code 14 = .ok (.isub, 1) := by decide +kernel
theorem d33_15 : decode method_2_code 15 = .ok (.iload 6, 2) := by decide +kernel
theorem d33_17 : decode method_2_code 17 = .ok (.imul, 1) := by decide +kernel
theorem d33_18 : decode method_2_code 18 = .ok (.lushr, 1) := by decide +kernel
theorem d33_19 : decode method_2_code 19 = .ok (.lconst 0, 1) := by decide +kernel
theorem d33_20 : decode method_2_code 20 = .ok (.lcmp, 1) := by decide +kernel
theorem d33_21 : decode method_2_code 21 = .ok (.ifCond .ne 7, 3) := by decide +kernel
theorem d33_24 : decode method_2_code 24 = .ok (.iconst 1, 1) := by decide +kernel
theorem d33_25 : decode method_2_code 25 = .ok (.goto 4, 3) := by decide +kernel
set_option maxRecDepth 65536 in
set_option maxHeartbeats 40000000 in
theorem rm33 (l : Launch) (Z : State) (a0 : Array Value) (hw : ∀ d ∈ tables_1, d.before a0 Z = true) (ws : List Jvm.Cond) (x : Int64) (o : Int64) (d_ : Int32) (n_ : Int32) (b_ : Int32) (h0 : Heap) (n0 : Nat) (Z0 : n0 ≤ h0.size) :
    MetFree l (⟨"nearhop/model/BlockSharingPinLaw", "shares", "(JJIII)Z"⟩ : MethodName) (head1 (Jvm.Cond.code (⟨"nearhop/model/BlockSharingPinLaw", "shares", "(JJIII)Z"⟩ : MethodName) method_2_code 7 (some .boolean) :: ws) ({ frames := 0, cells := 0, slots := 0, locals := 0 } : Room)) (fun as_ U_ => as_ = #[(.long x), (.long o), (.int d_), (.int n_), (.int b_)] ∧ Z.Warmed39 U_.vm ∧ U_.heap = h0) (fun _ _ _ _ _ => True) (fun _ U_ o_ V_ => ∃ v_ L_, o_ = .returned v_ ∧ Qrm33 Z x o d_ n_ b_ h0 n0 v_ V_.heap L_ ∧ FrameEnd U_ o_ V_ L_ ({ frames := 0, cells := 0, slots := 0, locals := 0 } : Room).cells ({ frames := 0, cells := 0, slots := 0, locals := 0 } : Room).slots) := by
  refine MetFree.of_bodySF (plainFor_of_name pn_nearhop_model_BlockSharingPinLaw) hisR ?_
  intro p e s m args below meth c s₁ Bd hml0 hP hK
  obtain ⟨rfl, hZ, hh⟩ := hP
  have hx := Bd.exec
  have hby := Bd.bytes
  have hlk : meth.locks = false := BodyLoose.notSynchronized Bd
  have hret := Bd.returns
  have hml : c.maxLocals = 7 := hml0
  have hown : s.vm.findClass "nearhop/model/BlockSharingPinLaw" = some m.cls := findClass_of_methodNamed Bd.named
  have hnm := (name_of_methodNamed Bd.named Bd.method).1
  have X0 : Stand p l e ({ frames := 0, cells := 0, slots := 0, locals := 0 } : Room) s m #[(.long x), (.long o), (.int d_), (.int n_), (.int b_)] below meth c s₁ [] 0 0 := Stand.of_body Bd
  have e0 : s₁.heap = h0 := by rw [← hh, Bd.state]; rfl
  have N0 := Fr.nil n0
  show Goes p e below (Fin_ s (Qrm33 Z x o d_ n_ b_ h0 n0) ({ frames := 0, cells := 0, slots := 0, locals := 0 } : Room).cells ({ frames := 0, cells := 0, slots := 0, locals := 0 } : Room).slots) (s₁.setTop (entryFrame m #[(.long x), (.long o), (.int d_), (.int n_), (.int b_)] 7))
  rw [ef_rm33 m x o d_ n_ b_]
  refine gIL X0 hx hby d33_0 rfl ?_
  refine gIL X0 hx hby d33_2 rfl ?_
  by_cases hc4 : n_ < d_
  · skip
    refine Goes.via (fun _ kk_ => XS.icmpYes X0.here hx rfl (pc0 := 4) (pc' := 28) rfl (hb hby d33_4) rfl (tlt hc4).2.2.1 (by decide) (by decide) kk_) ?_
    show Goes p e below _ (s₁.setTop (mkF m 28 #[.val (.long x), .second, .val (.long o), .second, vi d_, vi n_, vi b_] []))
    refine gIC (z := 0) X0 hx hby d33_28 rfl ?_
    exact own_finN X0 hx hlk hret (by simp) (hb hby d33_29) (by rw [e0]; exact ⟨(by rw [own_shares, if_pos hc4]; first | done | rfl | exact own_nc _), rfl, rfl⟩) (by first | decide | omega | (dsimp only; omega)) (by first | decide | omega | (dsimp only; omega))
  · skip
    refine Goes.via (fun _ kk_ => XS.icmpNo X0.here hx rfl (hb hby d33_4) rfl (flt hc4).2.2.1 kk_) ?_
    show Goes p e below _ (s₁.setTop (mkF m 7 #[.val (.long x), .second, .val (.long o), .second, vi d_, vi n_, vi b_] []))
    refine Goes.via (fun _ kk_ => XS.lloadN X0.here hx rfl (hb hby d33_7) rfl  kk_) ?_
    show Goes p e below _ (s₁.setTop (mkF m 8 #[.val (.long x), .second, .val (.long o), .second, vi d_, vi n_, vi b_] [(.long x)]))
    refine Goes.via (fun _ kk_ => XS.lloadN X0.here hx rfl (hb hby d33_8) rfl  kk_) ?_
    show Goes p e below _ (s₁.setTop (mkF m 9 #[.val (.long x), .second, .val (.long o), .second, vi d_, vi n_, vi b_] [(.long o), (.long x)]))
    refine Goes.via (fun _ kk_ => XS.lxor X0.here hx rfl (hb hby d33_9) rfl kk_) ?_
    show Goes p e below _ (s₁.setTop (mkF m 10 #[.val (.long x), .second, .val (.long o), .second, vi d_, vi n_, vi b_] [(.long (x ^^^ o))]))
    refine gIL X0 hx hby d33_10 rfl ?_
    refine gIL X0 hx hby d33_12 rfl ?_
    refine Goes.via (fun _ kk_ => XS.isub X0.here hx rfl (hb hby d33_14) rfl kk_) ?_
    show Goes p e below _ (s₁.setTop (mkF m 15 #[.val (.long x), .second, .val (.long o), .second, vi d_, vi n_, vi b_] [(.int (n_ - d_)), (.long (x ^^^ o))]))
    refine gIL X0 hx hby d33_15 rfl ?_
    refine Goes.via (fun _ kk_ => XS.imul X0.here hx rfl (hb hby d33_17) rfl kk_) ?_
    show Goes p e below _ (s₁.setTop (mkF m 18 #[.val (.long x), .second, .val (.long o), .second, vi d_, vi n_, vi b_] [(.int ((n_ - d_) * b_)), (.long (x ^^^ o))]))
    refine Goes.via (fun _ kk_ => XS.lushr X0.here hx rfl (hb hby d33_18) rfl kk_) ?_
    show Goes p e below _ (s₁.setTop (mkF m 19 #[.val (.long x), .second, .val (.long o), .second, vi d_, vi n_, vi b_] [(.long (((x ^^^ o).toUInt64 >>> (((n_ - d_) * b_) &&& 0x3f).toInt64.toUInt64).toInt64))]))
    refine Goes.via (fun _ kk_ => XS.lconst X0.here hx rfl (hb hby d33_19) kk_) ?_
    show Goes p e below _ (s₁.setTop (mkF m 20 #[.val (.long x), .second, .val (.long o), .second, vi d_, vi n_, vi b_] [(.long (0 : Int64)), (.long (((x ^^^ o).toUInt64 >>> (((n_ - d_) * b_) &&& 0x3f).toInt64.toUInt64).toInt64))]))
    refine Goes.via (fun _ kk_ => XS.lcmp X0.here hx rfl (hb hby d33_20) rfl kk_) ?_
    show Goes p e below _ (s₁.setTop (mkF m 21 #[.val (.long x), .second, .val (.long o), .second, vi d_, vi n_, vi b_] [(.int (lcmpW (((x ^^^ o).toUInt64 >>> (((n_ - d_) * b_) &&& 0x3f).toInt64.toUInt64).toInt64) (0 : Int64)))]))
    by_cases hc21 : (((x ^^^ o).toUInt64 >>> (((n_ - d_) * b_) &&& 0x3f).toInt64.toUInt64).toInt64) = (0 : Int64)
    · skip
      refine Goes.via (fun _ kk_ => XS.ifNo X0.here hx rfl (hb hby d33_21) rfl ((if0 _ _).trans (teq ((lw_eq (((x ^^^ o).toUInt64 >>> (((n_ - d_) * b_) &&& 0x3f).toInt64.toUInt64).toInt64) (0 : Int64)).mpr hc21)).2) kk_) ?_
      show Goes p e below _ (s₁.setTop (mkF m 24 #[.val (.long x), .second, .val (.long o), .second, vi d_, vi n_, vi b_] []))
      refine gIC (z := 1) X0 hx hby d33_24 rfl ?_
      refine Goes.via (fun _ kk_ => XS.goto X0.here hx rfl (pc0 := 25) (pc' := 29) rfl (hb hby d33_25) (by decide) (by decide) kk_) ?_
      show Goes p e below _ (s₁.setTop (mkF m 29 #[.val (.long x), .second, .val (.long o), .second, vi d_, vi n_, vi b_] [(.int (1 : Int32))]))
      exact own_finN X0 hx hlk hret (by simp) (hb hby d33_29) (by rw [e0]; exact ⟨(by rw [own_shares, if_neg hc4, if_pos hc21]; first | done | rfl | exact own_nc _), rfl, rfl⟩) (by first | decide | omega | (dsimp only; omega)) (by first | decide | omega | (dsimp only; omega))
    · skip
      refine Goes.via (fun _ kk_ => XS.ifYes X0.here hx rfl (pc0 := 21) (pc' := 28) rfl (hb hby d33_21) rfl ((if0 _ _).trans (feq (fun q => hc21 ((lw_eq (((x ^^^ o).toUInt64 >>> (((n_ - d_) * b_) &&& 0x3f).toInt64.toUInt64).toInt64) (0 : Int64)).mp q))).2) (by decide) (by decide) kk_) ?_
      show Goes p e below _ (s₁.setTop (mkF m 28 #[.val (.long x), .second, .val (.long o), .second, vi d_, vi n_, vi b_] []))
      refine gIC (z := 0) X0 hx hby d33_28 rfl ?_
      exact own_finN X0 hx hlk hret (by simp) (hb hby d33_29) (by rw [e0]; exact ⟨(by rw [own_shares, if_neg hc4, if_neg hc21]; first | done | rfl | exact own_nc _), rfl, rfl⟩) (by first | decide | omega | (dsimp only; omega)) (by first | decide | omega | (dsimp only; omega))
theorem ef_rmIn0 (m : MethodId) (a : Addr) (al : Addr) : entryFrame m #[(.ref a), (.ref al)] 3 = mkF m 0 #[.val (.ref a), .val (.ref al), .unset] [] := by first | (simp [entryFrame, mkF, argsToLocals, Value.category]; done) | rfl
def QrmIn0 (Z : State) (a : Addr) (al : Addr) (sp : Addr) (y_ : Int64) (h0 : Heap) (n0 : Nat) (v_ : Option Value) (h_ : Heap) (L_ : List Loc) : Prop := v_ = some (.int (0 : Int32)) ∧ L_ = [] ∧ h_ = h0
theorem d22_0 : decode prog_77_method_19_code 0 = .ok (.iconst 0, 1) := by decide +kernel
theorem d22_1 : decode prog_77_method_19_code 1 = .ok (.istore_n 2, 1) := by decide +kernel
theorem d22_2 : decode prog_77_method_19_code 2 = .ok (.iload_n 2, 1) := by decide +kernel
theorem d22_3 : decode prog_77_method_19_code 3 = .ok (.aload_n 1, 1) := by decide +kernel
theorem d22_4 : decode prog_77_method_19_code 4 = .ok (.invokeinterface 95 1, 5) := by decide +kernel
abbrev mN_List_size : MethodName := ⟨"java/util/List", "size", "()I"⟩
abbrev mN_ArrayList_size : MethodName := ⟨"java/util/ArrayList", "size", "()I"⟩
theorem d22_9 : decode prog_77_method_19_code 9 = .ok (.if_icmp .ge 25, 3) := by decide +kernel
theorem d22_34 : decode prog_77_method_19_code 34 = .ok (.iconst 0, 1) := by decide +kernel
theorem d22_35 : decode prog_77_method_19_code 35 = .ok (.ireturn, 1) := by decide +kernel
set_option maxRecDepth 65536 in
set_option maxHeartbeats 40000000 in
theorem rmIn0 (l : Launch) (Z : State) (a0 : Array Value) (hw : ∀ d ∈ tables_1, d.before a0 Z = true) (ws : List Jvm.Cond) (a : Addr) (al : Addr) (sp : Addr) (y_ : Int64) (h0 : Heap) (n0 : Nat) (Z0 : n0 ≤ h0.size) (E0_al : Exa Z h0 al "java/util/ArrayList") (F1_al_size : Fld Z h0 al "java/util/ArrayList" "size" "I" (.int (0 : Int32))) (E2_a : Exa Z h0 a "nearhop/model/Id") (F3_a_space : Fld Z h0 a "nearhop/model/Id" "space" "Lnearhop/model/IdSpace;" (.ref sp)) (F4_a_high : Fld Z h0 a "nearhop/model/Id" "high" "J" (.long (0 : Int64))) (F5_a_low : Fld Z h0 a "nearhop/model/Id" "low" "J" (.long y_)) :
    MetFree l (⟨"nearhop/model/Id", "isIn", "(Ljava/util/List;)Z"⟩ : MethodName) (head1 (Jvm.Cond.code (⟨"nearhop/model/Id", "isIn", "(Ljava/util/List;)Z"⟩ : MethodName) prog_77_method_19_code 3 (some .boolean) :: ws) ({ frames := 1, cells := 0, slots := 0, locals := 13 } : Room)) (fun as_ U_ => as_ = #[(.ref a), (.ref al)] ∧ Z.Warmed39 U_.vm ∧ U_.heap = h0) (fun _ _ _ _ _ => True) (fun _ U_ o_ V_ => ∃ v_ L_, o_ = .returned v_ ∧ QrmIn0 Z a al sp y_ h0 n0 v_ V_.heap L_ ∧ FrameEnd U_ o_ V_ L_ ({ frames := 1, cells := 0, slots := 0, locals := 13 } : Room).cells ({ frames := 1, cells := 0, slots := 0, locals := 13 } : Room).slots) := by
  refine MetFree.of_bodySF (plainFor_of_name pn_nearhop_model_Id) hisR ?_
  intro p e s m args below meth c s₁ Bd hml0 hP hK
  obtain ⟨rfl, hZ, hh⟩ := hP
  have hx := Bd.exec
  have hby := Bd.bytes
  have hlk : meth.locks = false := BodyLoose.notSynchronized Bd
  have hret := Bd.returns
  have hml : c.maxLocals = 3 := hml0
  have hown : s.vm.findClass "nearhop/model/Id" = some m.cls := findClass_of_methodNamed Bd.named
  have hnm := (name_of_methodNamed Bd.named Bd.method).1
  have X0 : Stand p l e ({ frames := 1, cells := 0, slots := 0, locals := 13 } : Room) s m #[(.ref a), (.ref al)] below meth c s₁ [] 0 0 := Stand.of_body Bd
  have e0 : s₁.heap = h0 := by rw [← hh, Bd.state]; rfl
  have N0 := Fr.nil n0
  show Goes p e below (Fin_ s (QrmIn0 Z a al sp y_ h0 n0) ({ frames := 1, cells := 0, slots := 0, locals := 13 } : Room).cells ({ frames := 1, cells := 0, slots := 0, locals := 13 } : Room).slots) (s₁.setTop (entryFrame m #[(.ref a), (.ref al)] 3))
  rw [ef_rmIn0 m a al]
  refine gIC (z := 0) X0 hx hby d22_0 rfl ?_
  refine Goes.via (fun _ kk_ => XS.istoreN X0.here hx rfl (hb hby d22_1) rfl (l' := #[vr a, vr al, vi (0 : Int32)]) rfl kk_) ?_
  show Goes p e below _ (s₁.setTop (mkF m 2 #[vr a, vr al, vi (0 : Int32)] []))
  refine gILN X0 hx hby d22_2 rfl ?_
  refine gALN X0 hx hby d22_3 rfl rfl ?_
  obtain ⟨cq2, kq2, q2a, q2b, q2c⟩ := isOf hZ e0 E0_al
  obtain ⟨_, _, ⟨T2, L2, k2, n2⟩, -, X2, ⟨Lc2, hQ2, l2, y2, z2⟩, st2⟩ := X0.interfaceBack hx (xi := mN_List_size) (y := mN_ArrayList_size) hown (mvT hZ (own_w hw 137 rfl)) (mvT hZ (own_w hw 138 rfl)) (mvT hZ (own_w hw 139 rfl)) (mvT hZ (own_w hw 140 rfl)) (mvT hZ (own_w hw 141 rfl)) (mvT hZ (own_w hw 142 rfl)) (mvT hZ (own_w hw 143 rfl)) (mvT hZ (own_w hw 144 rfl)) (by decide) (backOf (W := 1) (rm23 l Z a0 hw [] al (0 : Int32) h0 n0 (Nat.le_trans Z0 (Nat.le_refl _)) F1_al_size) hZ (own_w hw 145 rfl) (own_w hw 62 rfl) (by decide) (by decide)) q2a q2b q2c (g := (mkF m 4 #[vr a, vr al, vi (0 : Int32)] [(.ref al), (.int (0 : Int32))])) rfl (by rw [hml]; rfl) (Steps.refl _) (argsL := []) (rest := [(.int (0 : Int32))]) (lenOf pd_2 rfl) rfl (by show 2 * 0 + _ ≤ _; exact Nat.le_of_eq rfl) (hb hby d22_4) (fun _ _ => ⟨rfl, e0, (by decide : 0 + 0 ≤ _), (by decide : 0 + 0 ≤ _)⟩)
  dsimp only [Pt.U, Pt.locs, Pt.cells, Pt.slots] at X2 l2 y2 z2 st2 hQ2
  replace l2 := l2.symm
  subst l2 y2 z2
  obtain ⟨rfl, rfl, e2⟩ := hQ2
  first | rw [List.append_nil] at X2 | skip
  refine Goes.tr st2 ?_
  have e2' : T2.heap = h0 := e2
  show Goes p e below _ (T2.setTop (mkF m 9 #[vr a, vr al, vi (0 : Int32)] [(.int (0 : Int32)), (.int (0 : Int32))]))
  have hc9_3 : ¬ ((0 : Int32) < (0 : Int32)) := (by decide)
  refine Goes.via (fun _ kk_ => XS.icmpYes X2.here hx rfl (pc0 := 9) (pc' := 34) rfl (hb hby d22_9) rfl (flt hc9_3).2.1 (by decide) (by decide) kk_) ?_
  show Goes p e below _ (T2.setTop (mkF m 34 #[vr a, vr al, vi (0 : Int32)] []))
  refine gIC (z := 0) X2 hx hby d22_34 rfl ?_
  exact own_finN X2 hx hlk hret (by simp) (hb hby d22_35) (by rw [e2']; exact ⟨(own_ret (by rfl)), rfl, rfl⟩) (by first | decide | omega | (dsimp only; omega)) (by first | decide | omega | (dsimp only; omega))
theorem ef_rmIn1 (m : MethodId) (a : Addr) (al : Addr) : entryFrame m #[(.ref a), (.ref al)] 3 = mkF m 0 #[.val (.ref a), .val (.ref al), .unset] [] := by first | (simp [entryFrame, mkF, argsToLocals, Value.category]; done) | rfl
def QrmIn1 (Z : State) (a : Addr) (al : Addr) (sp : Addr) (y_ : Int64) (nb : Addr) (kb : ClassId) (f : Nat → Value) (e1_ : Addr) (v1 : Int64) (h0 : Heap) (n0 : Nat) (v_ : Option Value) (h_ : Heap) (L_ : List Loc) : Prop := v_ = some (.int (if y_ = v1 then (1 : Int32) else (0 : Int32))) ∧ L_ = [] ∧ h_ = h0
theorem d22_12 : decode prog_77_method_19_code 12 = .ok (.aload_n 0, 1) := by decide +kernel
theorem d22_13 : decode prog_77_method_19_code 13 = .ok (.aload_n 1, 1) := by decide +kernel
theorem d22_14 : decode prog_77_method_19_code 14 = .ok (.iload_n 2, 1) := by decide +kernel
theorem d22_15 : decode prog_77_method_19_code 15 = .ok (.invokeinterface 100 2, 5) := by decide +kernel
abbrev mN_List_get : MethodName := ⟨"java/util/List", "get", "(I)Ljava/lang/Object;"⟩
abbrev mN_ArrayList_get : MethodName := ⟨"java/util/ArrayList", "get", "(I)Ljava/lang/Object;"⟩
theorem pd_12 : parseMethodDescriptor "(Ljava/lang/Object;)Z" = some ⟨[(.object "java/lang/Object")], some .boolean⟩ := by decide +kernel
theorem d22_20 : decode prog_77_method_19_code 20 = .ok (.invokevirtual 104, 3) := by decide +kernel
abbrev mN_Id_equals : MethodName := ⟨"nearhop/model/Id", "equals", "(Ljava/lang/Object;)Z"⟩
theorem d22_23 : decode prog_77_method_19_code 23 = .ok (.ifCond .eq 5, 3) := by decide +kernel
theorem d22_26 : decode prog_77_method_19_code 26 = .ok (.iconst 1, 1) := by decide +kernel
theorem d22_27 : decode prog_77_method_19_code 27 = .ok (.ireturn, 1) := by decide +kernel
theorem d22_28 : decode prog_77_method_19_code 28 = .ok (.iinc 2 1, 3) := by decide +kernel
theorem d22_31 : decode prog_77_method_19_code 31 = .ok (.goto (-29), 3) := by decide +kernel
set_option maxRecDepth 65536 in
set_option maxHeartbeats 40000000 in
theorem rmIn1 (l : Launch) (Z : State) (a0 : Array Value) (hw : ∀ d ∈ tables_1, d.before a0 Z = true) (ws : List Jvm.Cond) (a : Addr) (al : Addr) (sp : Addr) (y_ : Int64) (nb : Addr) (kb : ClassId) (f : Nat → Value) (e1_ : Addr) (v1 : Int64) (h0 : Heap) (n0 : Nat) (Z0 : n0 ≤ h0.size) (E0_al : Exa Z h0 al "java/util/ArrayList") (F1_al_size : Fld Z h0 al "java/util/ArrayList" "size" "I" (.int (1 : Int32))) (E2_a : Exa Z h0 a "nearhop/model/Id") (F3_a_space : Fld Z h0 a "nearhop/model/Id" "space" "Lnearhop/model/IdSpace;" (.ref sp)) (F4_a_high : Fld Z h0 a "nearhop/model/Id" "high" "J" (.long (0 : Int64))) (F5_a_low : Fld Z h0 a "nearhop/model/Id" "low" "J" (.long y_)) (F6_al_elementData : Fld Z h0 al "java/util/ArrayList" "elementData" "[Ljava/lang/Object;" (.ref nb)) (A7_nb : Arw Z h0 nb kb (.object "java/lang/Object") 10 f) (Hf0 : f 0 = .ref e1_) (HNa0 : a ≠ e1_) (E10_e1_ : Exa Z h0 e1_ "nearhop/model/Id") (F11_e1__space : Fld Z h0 e1_ "nearhop/model/Id" "space" "Lnearhop/model/IdSpace;" (.ref sp)) (F12_e1__high : Fld Z h0 e1_ "nearhop/model/Id" "high" "J" (.long (0 : Int64))) (F13_e1__low : Fld Z h0 e1_ "nearhop/model/Id" "low" "J" (.long v1)) :
    MetFree l (⟨"nearhop/model/Id", "isIn", "(Ljava/util/List;)Z"⟩ : MethodName) (head1 (Jvm.Cond.code (⟨"nearhop/model/Id", "isIn", "(Ljava/util/List;)Z"⟩ : MethodName) prog_77_method_19_code 3 (some .boolean) :: ws) ({ frames := 3, cells := 0, slots := 0, locals := 41 } : Room)) (fun as_ U_ => as_ = #[(.ref a), (.ref al)] ∧ Z.Warmed39 U_.vm ∧ U_.heap = h0) (fun _ _ _ _ _ => True) (fun _ U_ o_ V_ => ∃ v_ L_, o_ = .returned v_ ∧ QrmIn1 Z a al sp y_ nb kb f e1_ v1 h0 n0 v_ V_.heap L_ ∧ FrameEnd U_ o_ V_ L_ ({ frames := 3, cells := 0, slots := 0, locals := 41 } : Room).cells ({ frames := 3, cells := 0, slots := 0, locals := 41 } : Room).slots) := by
  refine MetFree.of_bodySF (plainFor_of_name pn_nearhop_model_Id) hisR ?_
  intro p e s m args below meth c s₁ Bd hml0 hP hK
  obtain ⟨rfl, hZ, hh⟩ := hP
  have hx := Bd.exec
  have hby := Bd.bytes
  have hlk : meth.locks = false := BodyLoose.notSynchronized Bd
  have hret := Bd.returns
  have hml : c.maxLocals = 3 := hml0
  have hown : s.vm.findClass "nearhop/model/Id" = some m.cls := findClass_of_methodNamed Bd.named
  have hnm := (name_of_methodNamed Bd.named Bd.method).1
  have X0 : Stand p l e ({ frames := 3, cells := 0, slots := 0, locals := 41 } : Room) s m #[(.ref a), (.ref al)] below meth c s₁ [] 0 0 := Stand.of_body Bd
  have e0 : s₁.heap = h0 := by rw [← hh, Bd.state]; rfl
  have N0 := Fr.nil n0
  show Goes p e below (Fin_ s (QrmIn1 Z a al sp y_ nb kb f e1_ v1 h0 n0) ({ frames := 3, cells := 0, slots := 0, locals := 41 } : Room).cells ({ frames := 3, cells := 0, slots := 0, locals := 41 } : Room).slots) (s₁.setTop (entryFrame m #[(.ref a), (.ref al)] 3))
  rw [ef_rmIn1 m a al]
  refine gIC (z := 0) X0 hx hby d22_0 rfl ?_
  refine Goes.via (fun _ kk_ => XS.istoreN X0.here hx rfl (hb hby d22_1) rfl (l' := #[vr a, vr al, vi (0 : Int32)]) rfl kk_) ?_
  show Goes p e below _ (s₁.setTop (mkF m 2 #[vr a, vr al, vi (0 : Int32)] []))
  refine gILN X0 hx hby d22_2 rfl ?_
  refine gALN X0 hx hby d22_3 rfl rfl ?_
  obtain ⟨cq6, kq6, q6a, q6b, q6c⟩ := isOf hZ e0 E0_al
  obtain ⟨_, _, ⟨T6, L6, k6, n6⟩, -, X6, ⟨Lc6, hQ6, l6, y6, z6⟩, st6⟩ := X0.interfaceBack hx (xi := mN_List_size) (y := mN_ArrayList_size) hown (mvT hZ (own_w hw 137 rfl)) (mvT hZ (own_w hw 138 rfl)) (mvT hZ (own_w hw 139 rfl)) (mvT hZ (own_w hw 140 rfl)) (mvT hZ (own_w hw 141 rfl)) (mvT hZ (own_w hw 142 rfl)) (mvT hZ (own_w hw 143 rfl)) (mvT hZ (own_w hw 144 rfl)) (by decide) (backOf (W := 1) (rm23 l Z a0 hw [] al (1 : Int32) h0 n0 (Nat.le_trans Z0 (Nat.le_refl _)) F1_al_size) hZ (own_w hw 145 rfl) (own_w hw 62 rfl) (by decide) (by decide)) q6a q6b q6c (g := (mkF m 4 #[vr a, vr al, vi (0 : Int32)] [(.ref al), (.int (0 : Int32))])) rfl (by rw [hml]; rfl) (Steps.refl _) (argsL := []) (rest := [(.int (0 : Int32))]) (lenOf pd_2 rfl) rfl (by show 2 * 0 + _ ≤ _; exact Nat.le_of_eq rfl) (hb hby d22_4) (fun _ _ => ⟨rfl, e0, (by decide : 0 + 0 ≤ _), (by decide : 0 + 0 ≤ _)⟩)
  dsimp only [Pt.U, Pt.locs, Pt.cells, Pt.slots] at X6 l6 y6 z6 st6 hQ6
  replace l6 := l6.symm
  subst l6 y6 z6
  obtain ⟨rfl, rfl, e6⟩ := hQ6
  first | rw [List.append_nil] at X6 | skip
  refine Goes.tr st6 ?_
  have e6' : T6.heap = h0 := e6
  show Goes p e below _ (T6.setTop (mkF m 9 #[vr a, vr al, vi (0 : Int32)] [(.int (1 : Int32)), (.int (0 : Int32))]))
  have hc9_7 : (0 : Int32) < (1 : Int32) := (by decide)
  refine Goes.via (fun _ kk_ => XS.icmpNo X6.here hx rfl (hb hby d22_9) rfl (tlt hc9_7).2.1 kk_) ?_
  show Goes p e below _ (T6.setTop (mkF m 12 #[vr a, vr al, vi (0 : Int32)] []))
  refine gALN X6 hx hby d22_12 rfl rfl ?_
  refine gALN X6 hx hby d22_13 rfl rfl ?_
  refine gILN X6 hx hby d22_14 rfl ?_
  obtain ⟨cq8, kq8, q8a, q8b, q8c⟩ := isOf hZ e6' E0_al
  obtain ⟨_, _, ⟨T8, L8, k8, n8⟩, -, X8, ⟨Lc8, hQ8, l8, y8, z8⟩, st8⟩ := X6.interfaceBack hx (xi := mN_List_get) (y := mN_ArrayList_get) hown (mvT hZ (own_w hw 180 rfl)) (mvT hZ (own_w hw 181 rfl)) (mvT hZ (own_w hw 182 rfl)) (mvT hZ (own_w hw 183 rfl)) (mvT hZ (own_w hw 184 rfl)) (mvT hZ (own_w hw 185 rfl)) (mvT hZ (own_w hw 186 rfl)) (mvT hZ (own_w hw 144 rfl)) (by decide) (backOf (W := 1) (rmGet l Z a0 hw [] al (0 : Int32) nb kb f 0 e1_ (1 : Int32) h0 n0 (Nat.le_trans Z0 (Nat.le_refl _)) E0_al F1_al_size F6_al_elementData A7_nb (by decide) (by decide) Hf0 (by decide)) hZ (own_w hw 187 rfl) (own_w hw 62 rfl) (by decide) (by decide)) q8a q8b q8c (g := (mkF m 15 #[vr a, vr al, vi (0 : Int32)] [(.int (0 : Int32)), (.ref al), (.ref a)])) rfl (by rw [hml]; rfl) (Steps.refl _) (argsL := [(.int (0 : Int32))]) (rest := [(.ref a)]) (lenOf pd_10 rfl) rfl (by show 2 * 0 + _ ≤ _; exact Nat.le_of_eq rfl) (hb hby d22_15) (fun _ _ => ⟨rfl, e6', (by decide : 0 + 0 ≤ _), (by decide : 0 + 0 ≤ _)⟩)
  dsimp only [Pt.U, Pt.locs, Pt.cells, Pt.slots] at X8 l8 y8 z8 st8 hQ8
  replace l8 := l8.symm
  subst l8 y8 z8
  obtain ⟨rfl, rfl, e8⟩ := hQ8
  first | rw [List.append_nil] at X8 | skip
  refine Goes.tr st8 ?_
  have e8' : T8.heap = h0 := e8
  show Goes p e below _ (T8.setTop (mkF m 20 #[vr a, vr al, vi (0 : Int32)] [(.ref e1_), (.ref a)]))
  obtain ⟨cq9, kq9, q9a, q9b, q9c⟩ := isOf hZ e8' E2_a
  obtain ⟨_, _, ⟨T9, L9, k9, n9⟩, -, X9, ⟨Lc9, hQ9, l9, y9, z9⟩, st9⟩ := X8.virtualBack hx (y := mN_Id_equals) (z := mN_Id_equals) hown (mvT hZ (own_w hw 201 rfl)) (mvT hZ (own_w hw 107 rfl)) (notFace_of_selects (args := #[]) (mvT hZ (own_w hw 109 rfl))) (mvT hZ (own_w hw 109 rfl)) (mvT hZ (own_w hw 108 rfl)) (by decide) (backOf (W := 0) (rmEq l Z a0 hw [] a e1_ sp y_ v1 h0 n0 (Nat.le_trans Z0 (Nat.le_refl _)) HNa0 E10_e1_ F3_a_space F4_a_high F5_a_low F11_e1__space F12_e1__high F13_e1__low) hZ (own_w hw 110 rfl) (own_w hw 29 rfl) (by decide) (by decide)) q9a q9c (g := (mkF m 20 #[vr a, vr al, vi (0 : Int32)] [(.ref e1_), (.ref a)])) rfl (by rw [hml]; rfl) (Steps.refl _) (argsL := [(.ref e1_)]) (rest := []) (lenOf pd_12 rfl) rfl (by show 2 * 0 + _ ≤ _; exact Nat.le_of_eq rfl) (hb hby d22_20) (fun _ _ => ⟨rfl, e8', (by decide : 0 + 0 ≤ _), (by decide : 0 + 0 ≤ _)⟩)
  dsimp only [Pt.U, Pt.locs, Pt.cells, Pt.slots] at X9 l9 y9 z9 st9 hQ9
  replace l9 := l9.symm
  subst l9 y9 z9
  obtain ⟨rfl, rfl, e9⟩ := hQ9
  first | rw [List.append_nil] at X9 | skip
  refine Goes.tr st9 ?_
  have e9' : T9.heap = h0 := e9
  show Goes p e below _ (T9.setTop (mkF m 23 #[vr a, vr al, vi (0 : Int32)] [(.int (if y_ = v1 then (1 : Int32) else (0 : Int32)))]))
  by_cases hq0 : y_ = v1
  · skip
    show Goes p e below _ (T9.setTop (mkF m 23 #[vr a, vr al, vi (0 : Int32)] [(.int (if y_ = v1 then (1 : Int32) else (0 : Int32)))]))
    have hc23_10 : ¬ ((if y_ = v1 then (1 : Int32) else (0 : Int32)) = (0 : Int32)) := (by rw [if_pos hq0]; decide)
    refine Goes.via (fun _ kk_ => XS.ifNo X9.here hx rfl (hb hby d22_23) rfl ((if0 _ _).trans (feq hc23_10).1) kk_) ?_
    show Goes p e below _ (T9.setTop (mkF m 26 #[vr a, vr al, vi (0 : Int32)] []))
    refine gIC (z := 1) X9 hx hby d22_26 rfl ?_
    exact own_finN X9 hx hlk hret (by simp) (hb hby d22_27) (by rw [e9']; exact ⟨(own_ret (by rw [if_pos hq0]; rfl)), rfl, rfl⟩) (by first | decide | omega | (dsimp only; omega)) (by first | decide | omega | (dsimp only; omega))
  · skip
    show Goes p e below _ (T9.setTop (mkF m 23 #[vr a, vr al, vi (0 : Int32)] [(.int (if y_ = v1 then (1 : Int32) else (0 : Int32)))]))
    have hc23_11 : (if y_ = v1 then (1 : Int32) else (0 : Int32)) = (0 : Int32) := (if_neg hq0)
    refine Goes.via (fun _ kk_ => XS.ifYes X9.here hx rfl (pc0 := 23) (pc' := 28) rfl (hb hby d22_23) rfl ((if0 _ _).trans (teq hc23_11).1) (by decide) (by decide) kk_) ?_
    show Goes p e below _ (T9.setTop (mkF m 28 #[vr a, vr al, vi (0 : Int32)] []))
    refine Goes.via (fun _ kk_ => XS.iinc X9.here hx rfl (hb hby d22_28) rfl (l' := #[vr a, vr al, vi ((0 : Int32) + (1 : Int32))]) rfl kk_) ?_
    show Goes p e below _ (T9.setTop (mkF m 31 #[vr a, vr al, vi ((0 : Int32) + (1 : Int32))] []))
    rw [show ((0 : Int32) + (1 : Int32)) = (1 : Int32) from by decide]
    show Goes p e below _ (T9.setTop (mkF m 31 #[vr a, vr al, vi (1 : Int32)] []))
    refine Goes.via (fun _ kk_ => XS.goto X9.here hx rfl (pc0 := 31) (pc' := 2) rfl (hb hby d22_31) (by decide) (by decide) kk_) ?_
    show Goes p e below _ (T9.setTop (mkF m 2 #[vr a, vr al, vi (1 : Int32)] []))
    refine gILN X9 hx hby d22_2 rfl ?_
    refine gALN X9 hx hby d22_3 rfl rfl ?_
    obtain ⟨cq12, kq12, q12a, q12b, q12c⟩ := isOf hZ e9' E0_al
    obtain ⟨_, _, ⟨T12, L12, k12, n12⟩, -, X12, ⟨Lc12, hQ12, l12, y12, z12⟩, st12⟩ := X9.interfaceBack hx (xi := mN_List_size) (y := mN_ArrayList_size) hown (mvT hZ (own_w hw 137 rfl)) (mvT hZ (own_w hw 138 rfl)) (mvT hZ (own_w hw 139 rfl)) (mvT hZ (own_w hw 140 rfl)) (mvT hZ (own_w hw 141 rfl)) (mvT hZ (own_w hw 142 rfl)) (mvT hZ (own_w hw 143 rfl)) (mvT hZ (own_w hw 144 rfl)) (by decide) (backOf (W := 1) (rm23 l Z a0 hw [] al (1 : Int32) h0 n0 (Nat.le_trans Z0 (Nat.le_refl _)) F1_al_size) hZ (own_w hw 145 rfl) (own_w hw 62 rfl) (by decide) (by decide)) q12a q12b q12c (g := (mkF m 4 #[vr a, vr al, vi (1 : Int32)] [(.ref al), (.int (1 : Int32))])) rfl (by rw [hml]; rfl) (Steps.refl _) (argsL := []) (rest := [(.int (1 : Int32))]) (lenOf pd_2 rfl) rfl (by show 2 * 0 + _ ≤ _; exact Nat.le_of_eq rfl) (hb hby d22_4) (fun _ _ => ⟨rfl, e9', (by decide : 0 + 0 ≤ _), (by decide : 0 + 0 ≤ _)⟩)
    dsimp only [Pt.U, Pt.locs, Pt.cells, Pt.slots] at X12 l12 y12 z12 st12 hQ12
    replace l12 := l12.symm
    subst l12 y12 z12
    obtain ⟨rfl, rfl, e12⟩ := hQ12
    first | rw [List.append_nil] at X12 | skip
    refine Goes.tr st12 ?_
    have e12' : T12.heap = h0 := e12
    show Goes p e below _ (T12.setTop (mkF m 9 #[vr a, vr al, vi (1 : Int32)] [(.int (1 : Int32)), (.int (1 : Int32))]))
    have hc9_13 : ¬ ((1 : Int32) < (1 : Int32)) := (by decide)
    refine Goes.via (fun _ kk_ => XS.icmpYes X12.here hx rfl (pc0 := 9) (pc' := 34) rfl (hb hby d22_9) rfl (flt hc9_13).2.1 (by decide) (by decide) kk_) ?_
    show Goes p e below _ (T12.setTop (mkF m 34 #[vr a, vr al, vi (1 : Int32)] []))
    refine gIC (z := 0) X12 hx hby d22_34 rfl ?_
    exact own_finN X12 hx hlk hret (by simp) (hb hby d22_35) (by rw [e12']; exact ⟨(own_ret (by rw [if_neg hq0]; rfl)), rfl, rfl⟩) (by first | decide | omega | (dsimp only; omega)) (by first | decide | omega | (dsimp only; omega))
theorem ef_rmIn2 (m : MethodId) (a : Addr) (al : Addr) : entryFrame m #[(.ref a), (.ref al)] 3 = mkF m 0 #[.val (.ref a), .val (.ref al), .unset] [] := by first | (simp [entryFrame, mkF, argsToLocals, Value.category]; done) | rfl
def QrmIn2 (Z : State) (a : Addr) (al : Addr) (sp : Addr) (y_ : Int64) (nb : Addr) (kb : ClassId) (f : Nat → Value) (e1_ : Addr) (v1 : Int64) (e2_ : Addr) (v2 : Int64) (h0 : Heap) (n0 : Nat) (v_ : Option Value) (h_ : Heap) (L_ : List Loc) : Prop := v_ = some (.int (if y_ = v1 then (1 : Int32) else (if y_ = v2 then (1 : Int32) else (0 : Int32)))) ∧ L_ = [] ∧ h_ = h0
set_option maxRecDepth 65536 in
set_option maxHeartbeats 40000000 in
theorem rmIn2 (l : Launch) (Z : State) (a0 : Array Value) (hw : ∀ d ∈ tables_1, d.before a0 Z = true) (ws : List Jvm.Cond) (a : Addr) (al : Addr) (sp : Addr) (y_ : Int64) (nb : Addr) (kb : ClassId) (f : Nat → Value) (e1_ : Addr) (v1 : Int64) (e2_ : Addr) (v2 : Int64) (h0 : Heap) (n0 : Nat) (Z0 : n0 ≤ h0.size) (E0_al : Exa Z h0 al "java/util/ArrayList") (F1_al_size : Fld Z h0 al "java/util/ArrayList" "size" "I" (.int (2 : Int32))) (E2_a : Exa Z h0 a "nearhop/model/Id") (F3_a_space : Fld Z h0 a "nearhop/model/Id" "space" "Lnearhop/model/IdSpace;" (.ref sp)) (F4_a_high : Fld Z h0 a "nearhop/model/Id" "high" "J" (.long (0 : Int64))) (F5_a_low : Fld Z h0 a "nearhop/model/Id" "low" "J" (.long y_)) (F6_al_elementData : Fld Z h0 al "java/util/ArrayList" "elementData" "[Ljava/lang/Object;" (.ref nb)) (A7_nb : Arw Z h0 nb kb (.object "java/lang/Object") 10 f) (Hf0 : f 0 = .ref e1_) (HNa0 : a ≠ e1_) (E10_e1_ : Exa Z h0 e1_ "nearhop/model/Id") (F11_e1__space : Fld Z h0 e1_ "nearhop/model/Id" "space" "Lnearhop/model/IdSpace;" (.ref sp)) (F12_e1__high : Fld Z h0 e1_ "nearhop/model/Id" "high" "J" (.long (0 : Int64))) (F13_e1__low : Fld Z h0 e1_ "nearhop/model/Id" "low" "J" (.long v1)) (Hf1 : f 1 = .ref e2_) (HNa1 : a ≠ e2_) (E16_e2_ : Exa Z h0 e2_ "nearhop/model/Id") (F17_e2__space : Fld Z h0 e2_ "nearhop/model/Id" "space" "Lnearhop/model/IdSpace;" (.ref sp)) (F18_e2__high : Fld Z h0 e2_ "nearhop/model/Id" "high" "J" (.long (0 : Int64))) (F19_e2__low : Fld Z h0 e2_ "nearhop/model/Id" "low" "J" (.long v2)) :
    MetFree l (⟨"nearhop/model/Id", "isIn", "(Ljava/util/List;)Z"⟩ : MethodName) (head1 (Jvm.Cond.code (⟨"nearhop/model/Id", "isIn", "(Ljava/util/List;)Z"⟩ : MethodName) prog_77_method_19_code 3 (some .boolean) :: ws) ({ frames := 3, cells := 0, slots := 0, locals := 41 } : Room)) (fun as_ U_ => as_ = #[(.ref a), (.ref al)] ∧ Z.Warmed39 U_.vm ∧ U_.heap = h0) (fun _ _ _ _ _ => True) (fun _ U_ o_ V_ => ∃ v_ L_, o_ = .returned v_ ∧ QrmIn2 Z a al sp y_ nb kb f e1_ v1 e2_ v2 h0 n0 v_ V_.heap L_ ∧ FrameEnd U_ o_ V_ L_ ({ frames := 3, cells := 0, slots := 0, locals := 41 } : Room).cells ({ frames := 3, cells := 0, slots := 0, locals := 41 } : Room).slots) := by
  refine MetFree.of_bodySF (plainFor_of_name pn_nearhop_model_Id) hisR ?_
  intro p e s m args below meth c s₁ Bd hml0 hP hK
  obtain ⟨rfl, hZ, hh⟩ := hP
  have hx := Bd.exec
  have hby := Bd.bytes
  have hlk : meth.locks = false := BodyLoose.notSynchronized Bd
  have hret := Bd.returns
  have hml : c.maxLocals = 3 := hml0
  have hown : s.vm.findClass "nearhop/model/Id" = some m.cls := findClass_of_methodNamed Bd.named
  have hnm := (name_of_methodNamed Bd.named Bd.method).1
  have X0 : Stand p l e ({ frames := 3, cells := 0, slots := 0, locals := 41 } : Room) s m #[(.ref a), (.ref al)] below meth c s₁ [] 0 0 := Stand.of_body Bd
  have e0 : s₁.heap = h0 := by rw [← hh, Bd.state]; rfl
  have N0 := Fr.nil n0
  show Goes p e below (Fin_ s (QrmIn2 Z a al sp y_ nb kb f e1_ v1 e2_ v2 h0 n0) ({ frames := 3, cells := 0, slots := 0, locals := 41 } : Room).cells ({ frames := 3, cells := 0, slots := 0, locals := 41 } : Room).slots) (s₁.setTop (entryFrame m #[(.ref a), (.ref al)] 3))
  rw [ef_rmIn2 m a al]
  refine gIC (z := 0) X0 hx hby d22_0 rfl ?_
  refine Goes.via (fun _ kk_ => XS.istoreN X0.here hx rfl (hb hby d22_1) rfl (l' := #[vr a, vr al, vi (0 : Int32)]) rfl kk_) ?_
  show Goes p e below _ (s₁.setTop (mkF m 2 #[vr a, vr al, vi (0 : Int32)] []))
  refine gILN X0 hx hby d22_2 rfl ?_
  refine gALN X0 hx hby d22_3 rfl rfl ?_
  obtain ⟨cq8, kq8, q8a, q8b, q8c⟩ := isOf hZ e0 E0_al
  obtain ⟨_, _, ⟨T8, L8, k8, n8⟩, -, X8, ⟨Lc8, hQ8, l8, y8, z8⟩, st8⟩ := X0.interfaceBack hx (xi := mN_List_size) (y := mN_ArrayList_size) hown (mvT hZ (own_w hw 137 rfl)) (mvT hZ (own_w hw 138 rfl)) (mvT hZ (own_w hw 139 rfl)) (mvT hZ (own_w hw 140 rfl)) (mvT hZ (own_w hw 141 rfl)) (mvT hZ (own_w hw 142 rfl)) (mvT hZ (own_w hw 143 rfl)) (mvT hZ (own_w hw 144 rfl)) (by decide) (backOf (W := 1) (rm23 l Z a0 hw [] al (2 : Int32) h0 n0 (Nat.le_trans Z0 (Nat.le_refl _)) F1_al_size) hZ (own_w hw 145 rfl) (own_w hw 62 rfl) (by decide) (by decide)) q8a q8b q8c (g := (mkF m 4 #[vr a, vr al, vi (0 : Int32)] [(.ref al), (.int (0 : Int32))])) rfl (by rw [hml]; rfl) (Steps.refl _) (argsL := []) (rest := [(.int (0 : Int32))]) (lenOf pd_2 rfl) rfl (by show 2 * 0 + _ ≤ _; exact Nat.le_of_eq rfl) (hb hby d22_4) (fun _ _ => ⟨rfl, e0, (by decide : 0 + 0 ≤ _), (by decide : 0 + 0 ≤ _)⟩)
  dsimp only [Pt.U, Pt.locs, Pt.cells, Pt.slots] at X8 l8 y8 z8 st8 hQ8
  replace l8 := l8.symm
  subst l8 y8 z8
  obtain ⟨rfl, rfl, e8⟩ := hQ8
  first | rw [List.append_nil] at X8 | skip
  refine Goes.tr st8 ?_
  have e8' : T8.heap = h0 := e8
  show Goes p e below _ (T8.setTop (mkF m 9 #[vr a, vr al, vi (0 : Int32)] [(.int (2 : Int32)), (.int (0 : Int32))]))
  have hc9_9 : (0 : Int32) < (2 : Int32) := (by decide)
  refine Goes.via (fun _ kk_ => XS.icmpNo X8.here hx rfl (hb hby d22_9) rfl (tlt hc9_9).2.1 kk_) ?_
  show Goes p e below _ (T8.setTop (mkF m 12 #[vr a, vr al, vi (0 : Int32)] []))
  refine gALN X8 hx hby d22_12 rfl rfl ?_
  refine gALN X8 hx hby d22_13 rfl rfl ?_
  refine gILN X8 hx hby d22_14 rfl ?_
  obtain ⟨cq10, kq10, q10a, q10b, q10c⟩ := isOf hZ e8' E0_al
  obtain ⟨_, _, ⟨T10, L10, k10, n10⟩, -, X10, ⟨Lc10, hQ10, l10, y10, z10⟩, st10⟩ := X8.interfaceBack hx (xi := mN_List_get) (y := mN_ArrayList_get) hown (mvT hZ (own_w hw 180 rfl)) (mvT hZ (own_w hw 181 rfl)) (mvT hZ (own_w hw 182 rfl)) (mvT hZ (own_w hw 183 rfl)) (mvT hZ (own_w hw 184 rfl)) (mvT hZ (own_w hw 185 rfl)) (mvT hZ (own_w hw 186 rfl)) (mvT hZ (own_w hw 144 rfl)) (by decide) (backOf (W := 1) (rmGet l Z a0 hw [] al (0 : Int32) nb kb f 0 e1_ (2 : Int32) h0 n0 (Nat.le_trans Z0 (Nat.le_refl _)) E0_al F1_al_size F6_al_elementData A7_nb (by decide) (by decide) Hf0 (by decide)) hZ (own_w hw 187 rfl) (own_w hw 62 rfl) (by decide) (by decide)) q10a q10b q10c (g := (mkF m 15 #[vr a, vr al, vi (0 : Int32)] [(.int (0 : Int32)), (.ref al), (.ref a)])) rfl (by rw [hml]; rfl) (Steps.refl _) (argsL := [(.int (0 : Int32))]) (rest := [(.ref a)]) (lenOf pd_10 rfl) rfl (by show 2 * 0 + _ ≤ _; exact Nat.le_of_eq rfl) (hb hby d22_15) (fun _ _ => ⟨rfl, e8', (by decide : 0 + 0 ≤ _), (by decide : 0 + 0 ≤ _)⟩)
  dsimp only [Pt.U, Pt.locs, Pt.cells, Pt.slots] at X10 l10 y10 z10 st10 hQ10
  replace l10 := l10.symm
  subst l10 y10 z10
  obtain ⟨rfl, rfl, e10⟩ := hQ10
  first | rw [List.append_nil] at X10 | skip
  refine Goes.tr st10 ?_
  have e10' : T10.heap = h0 := e10
  show Goes p e below _ (T10.setTop (mkF m 20 #[vr a, vr al, vi (0 : Int32)] [(.ref e1_), (.ref a)]))
  obtain ⟨cq11, kq11, q11a, q11b, q11c⟩ := isOf hZ e10' E2_a
  obtain ⟨_, _, ⟨T11, L11, k11, n11⟩, -, X11, ⟨Lc11, hQ11, l11, y11, z11⟩, st11⟩ := X10.virtualBack hx (y := mN_Id_equals) (z := mN_Id_equals) hown (mvT hZ (own_w hw 201 rfl)) (mvT hZ (own_w hw 107 rfl)) (notFace_of_selects (args := #[]) (mvT hZ (own_w hw 109 rfl))) (mvT hZ (own_w hw 109 rfl)) (mvT hZ (own_w hw 108 rfl)) (by decide) (backOf (W := 0) (rmEq l Z a0 hw [] a e1_ sp y_ v1 h0 n0 (Nat.le_trans Z0 (Nat.le_refl _)) HNa0 E10_e1_ F3_a_space F4_a_high F5_a_low F11_e1__space F12_e1__high F13_e1__low) hZ (own_w hw 110 rfl) (own_w hw 29 rfl) (by decide) (by decide)) q11a q11c (g := (mkF m 20 #[vr a, vr al, vi (0 : Int32)] [(.ref e1_), (.ref a)])) rfl (by rw [hml]; rfl) (Steps.refl _) (argsL := [(.ref e1_)]) (rest := []) (lenOf pd_12 rfl) rfl (by show 2 * 0 + _ ≤ _; exact Nat.le_of_eq rfl) (hb hby d22_20) (fun _ _ => ⟨rfl, e10', (by decide : 0 + 0 ≤ _), (by decide : 0 + 0 ≤ _)⟩)
  dsimp only [Pt.U, Pt.locs, Pt.cells, Pt.slots] at X11 l11 y11 z11 st11 hQ11
  replace l11 := l11.symm
  subst l11 y11 z11
  obtain ⟨rfl, rfl, e11⟩ := hQ11
  first | rw [List.append_nil] at X11 | skip
  refine Goes.tr st11 ?_
  have e11' : T11.heap = h0 := e11
  show Goes p e below _ (T11.setTop (mkF m 23 #[vr a, vr al, vi (0 : Int32)] [(.int (if y_ = v1 then (1 : Int32) else (0 : Int32)))]))
  by_cases hq0 : y_ = v1
  · skip
    show Goes p e below _ (T11.setTop (mkF m 23 #[vr a, vr al, vi (0 : Int32)] [(.int (if y_ = v1 then (1 : Int32) else (0 : Int32)))]))
    have hc23_12 : ¬ ((if y_ = v1 then (1 : Int32) else (0 : Int32)) = (0 : Int32)) := (by rw [if_pos hq0]; decide)
    refine Goes.via (fun _ kk_ => XS.ifNo X11.here hx rfl (hb hby d22_23) rfl ((if0 _ _).trans (feq hc23_12).1) kk_) ?_
    show Goes p e below _ (T11.setTop (mkF m 26 #[vr a, vr al, vi (0 : Int32)] []))
    refine gIC (z := 1) X11 hx hby d22_26 rfl ?_
    exact own_finN X11 hx hlk hret (by simp) (hb hby d22_27) (by rw [e11']; exact ⟨(own_ret (by rw [if_pos hq0]; rfl)), rfl, rfl⟩) (by first | decide | omega | (dsimp only; omega)) (by first | decide | omega | (dsimp only; omega))
  · skip
    show Goes p e below _ (T11.setTop (mkF m 23 #[vr a, vr al, vi (0 : Int32)] [(.int (if y_ = v1 then (1 : Int32) else (0 : Int32)))]))
    have hc23_13 : (if y_ = v1 then (1 : Int32) else (0 : Int32)) = (0 : Int32) := (if_neg hq0)
    refine Goes.via (fun _ kk_ => XS.ifYes X11.here hx rfl (pc0 := 23) (pc' := 28) rfl (hb hby d22_23) rfl ((if0 _ _).trans (teq hc23_13).1) (by decide) (by decide) kk_) ?_
    show Goes p e below _ (T11.setTop (mkF m 28 #[vr a, vr al, vi (0 : Int32)] []))
    refine Goes.via (fun _ kk_ => XS.iinc X11.here hx rfl (hb hby d22_28) rfl (l' := #[vr a, vr al, vi ((0 : Int32) + (1 : Int32))]) rfl kk_) ?_
    show Goes p e below _ (T11.setTop (mkF m 31 #[vr a, vr al, vi ((0 : Int32) + (1 : Int32))] []))
    rw [show ((0 : Int32) + (1 : Int32)) = (1 : Int32) from by decide]
    show Goes p e below _ (T11.setTop (mkF m 31 #[vr a, vr al, vi (1 : Int32)] []))
    refine Goes.via (fun _ kk_ => XS.goto X11.here hx rfl (pc0 := 31) (pc' := 2) rfl (hb hby d22_31) (by decide) (by decide) kk_) ?_
    show Goes p e below _ (T11.setTop (mkF m 2 #[vr a, vr al, vi (1 : Int32)] []))
    refine gILN X11 hx hby d22_2 rfl ?_
    refine gALN X11 hx hby d22_3 rfl rfl ?_
    obtain ⟨cq14, kq14, q14a, q14b, q14c⟩ := isOf hZ e11' E0_al
    obtain ⟨_, _, ⟨T14, L14, k14, n14⟩, -, X14, ⟨Lc14, hQ14, l14, y14, z14⟩, st14⟩ := X11.interfaceBack hx (xi := mN_List_size) (y := mN_ArrayList_size) hown (mvT hZ (own_w hw 137 rfl)) (mvT hZ (own_w hw 138 rfl)) (mvT hZ (own_w hw 139 rfl)) (mvT hZ (own_w hw 140 rfl)) (mvT hZ (own_w hw 141 rfl)) (mvT hZ (own_w hw 142 rfl)) (mvT hZ (own_w hw 143 rfl)) (mvT hZ (own_w hw 144 rfl)) (by decide) (backOf (W := 1) (rm23 l Z a0 hw [] al (2 : Int32) h0 n0 (Nat.le_trans Z0 (Nat.le_refl _)) F1_al_size) hZ (own_w hw 145 rfl) (own_w hw 62 rfl) (by decide) (by decide)) q14a q14b q14c (g := (mkF m 4 #[vr a, vr al, vi (1 : Int32)] [(.ref al), (.int (1 : Int32))])) rfl (by rw [hml]; rfl) (Steps.refl _) (argsL := []) (rest := [(.int (1 : Int32))]) (lenOf pd_2 rfl) rfl (by show 2 * 0 + _ ≤ _; exact Nat.le_of_eq rfl) (hb hby d22_4) (fun _ _ => ⟨rfl, e11', (by decide : 0 + 0 ≤ _), (by decide : 0 + 0 ≤ _)⟩)
    dsimp only [Pt.U, Pt.locs, Pt.cells, Pt.slots] at X14 l14 y14 z14 st14 hQ14
    replace l14 := l14.symm
    subst l14 y14 z14
    obtain ⟨rfl, rfl, e14⟩ := hQ14
    first | rw [List.append_nil] at X14 | skip
    refine Goes.tr st14 ?_
    have e14' : T14.heap = h0 := e14
    show Goes p e below _ (T14.setTop (mkF m 9 #[vr a, vr al, vi (1 : Int32)] [(.int (2 : Int32)), (.int (1 : Int32))]))
    have hc9_15 : (1 : Int32) < (2 : Int32) := (by decide)
    refine Goes.via (fun _ kk_ => XS.icmpNo X14.here hx rfl (hb hby d22_9) rfl (tlt hc9_15).2.1 kk_) ?_
    show Goes p e below _ (T14.setTop (mkF m 12 #[vr a, vr al, vi (1 : Int32)] []))
    refine gALN X14 hx hby d22_12 rfl rfl ?_
    refine gALN X14 hx hby d22_13 rfl rfl ?_
    refine gILN X14 hx hby d22_14 rfl ?_
    obtain ⟨cq16, kq16, q16a, q16b, q16c⟩ := isOf hZ e14' E0_al
    obtain ⟨_, _, ⟨T16, L16, k16, n16⟩, -, X16, ⟨Lc16, hQ16, l16, y16, z16⟩, st16⟩ := X14.interfaceBack hx (xi := mN_List_get) (y := mN_ArrayList_get) hown (mvT hZ (own_w hw 180 rfl)) (mvT hZ (own_w hw 181 rfl)) (mvT hZ (own_w hw 182 rfl)) (mvT hZ (own_w hw 183 rfl)) (mvT hZ (own_w hw 184 rfl)) (mvT hZ (own_w hw 185 rfl)) (mvT hZ (own_w hw 186 rfl)) (mvT hZ (own_w hw 144 rfl)) (by decide) (backOf (W := 1) (rmGet l Z a0 hw [] al (1 : Int32) nb kb f 1 e2_ (2 : Int32) h0 n0 (Nat.le_trans Z0 (Nat.le_refl _)) E0_al F1_al_size F6_al_elementData A7_nb (by decide) (by decide) Hf1 (by decide)) hZ (own_w hw 187 rfl) (own_w hw 62 rfl) (by decide) (by decide)) q16a q16b q16c (g := (mkF m 15 #[vr a, vr al, vi (1 : Int32)] [(.int (1 : Int32)), (.ref al), (.ref a)])) rfl (by rw [hml]; rfl) (Steps.refl _) (argsL := [(.int (1 : Int32))]) (rest := [(.ref a)]) (lenOf pd_10 rfl) rfl (by show 2 * 0 + _ ≤ _; exact Nat.le_of_eq rfl) (hb hby d22_15) (fun _ _ => ⟨rfl, e14', (by decide : 0 + 0 ≤ _), (by decide : 0 + 0 ≤ _)⟩)
    dsimp only [Pt.U, Pt.locs, Pt.cells, Pt.slots] at X16 l16 y16 z16 st16 hQ16
    replace l16 := l16.symm
    subst l16 y16 z16
    obtain ⟨rfl, rfl, e16⟩ := hQ16
    first | rw [List.append_nil] at X16 | skip
    refine Goes.tr st16 ?_
    have e16' : T16.heap = h0 := e16
    show Goes p e below _ (T16.setTop (mkF m 20 #[vr a, vr al, vi (1 : Int32)] [(.ref e2_), (.ref a)]))
    obtain ⟨cq17, kq17, q17a, q17b, q17c⟩ := isOf hZ e16' E2_a
    obtain ⟨_, _, ⟨T17, L17, k17, n17⟩, -, X17, ⟨Lc17, hQ17, l17, y17, z17⟩, st17⟩ := X16.virtualBack hx (y := mN_Id_equals) (z := mN_Id_equals) hown (mvT hZ (own_w hw 201 rfl)) (mvT hZ (own_w hw 107 rfl)) (notFace_of_selects (args := #[]) (mvT hZ (own_w hw 109 rfl))) (mvT hZ (own_w hw 109 rfl)) (mvT hZ (own_w hw 108 rfl)) (by decide) (backOf (W := 0) (rmEq l Z a0 hw [] a e2_ sp y_ v2 h0 n0 (Nat.le_trans Z0 (Nat.le_refl _)) HNa1 E16_e2_ F3_a_space F4_a_high F5_a_low F17_e2__space F18_e2__high F19_e2__low) hZ (own_w hw 110 rfl) (own_w hw 29 rfl) (by decide) (by decide)) q17a q17c (g := (mkF m 20 #[vr a, vr al, vi (1 : Int32)] [(.ref e2_), (.ref a)])) rfl (by rw [hml]; rfl) (Steps.refl _) (argsL := [(.ref e2_)]) (rest := []) (lenOf pd_12 rfl) rfl (by show 2 * 0 + _ ≤ _; exact Nat.le_of_eq rfl) (hb hby d22_20) (fun _ _ => ⟨rfl, e16', (by decide : 0 + 0 ≤ _), (by decide : 0 + 0 ≤ _)⟩)
    dsimp only [Pt.U, Pt.locs, Pt.cells, Pt.slots] at X17 l17 y17 z17 st17 hQ17
    replace l17 := l17.symm
    subst l17 y17 z17
    obtain ⟨rfl, rfl, e17⟩ := hQ17
    first | rw [List.append_nil] at X17 | skip
    refine Goes.tr st17 ?_
    have e17' : T17.heap = h0 := e17
    show Goes p e below _ (T17.setTop (mkF m 23 #[vr a, vr al, vi (1 : Int32)] [(.int (if y_ = v2 then (1 : Int32) else (0 : Int32)))]))
    by_cases hq1 : y_ = v2
    · skip
      show Goes p e below _ (T17.setTop (mkF m 23 #[vr a, vr al, vi (1 : Int32)] [(.int (if y_ = v2 then (1 : Int32) else (0 : Int32)))]))
      have hc23_18 : ¬ ((if y_ = v2 then (1 : Int32) else (0 : Int32)) = (0 : Int32)) := (by rw [if_pos hq1]; decide)
      refine Goes.via (fun _ kk_ => XS.ifNo X17.here hx rfl (hb hby d22_23) rfl ((if0 _ _).trans (feq hc23_18).1) kk_) ?_
      show Goes p e below _ (T17.setTop (mkF m 26 #[vr a, vr al, vi (1 : Int32)] []))
      refine gIC (z := 1) X17 hx hby d22_26 rfl ?_
      exact own_finN X17 hx hlk hret (by simp) (hb hby d22_27) (by rw [e17']; exact ⟨(own_ret (by rw [if_neg hq0, if_pos hq1]; rfl)), rfl, rfl⟩) (by first | decide | omega | (dsimp only; omega)) (by first | decide | omega | (dsimp only; omega))
    · skip
      show Goes p e below _ (T17.setTop (mkF m 23 #[vr a, vr al, vi (1 : Int32)] [(.int (if y_ = v2 then (1 : Int32) else (0 : Int32)))]))
      have hc23_19 : (if y_ = v2 then (1 : Int32) else (0 : Int32)) = (0 : Int32) := (if_neg hq1)
      refine Goes.via (fun _ kk_ => XS.ifYes X17.here hx rfl (pc0 := 23) (pc' := 28) rfl (hb hby d22_23) rfl ((if0 _ _).trans (teq hc23_19).1) (by decide) (by decide) kk_) ?_
      show Goes p e below _ (T17.setTop (mkF m 28 #[vr a, vr al, vi (1 : Int32)] []))
      refine Goes.via (fun _ kk_ => XS.iinc X17.here hx rfl (hb hby d22_28) rfl (l' := #[vr a, vr al, vi ((1 : Int32) + (1 : Int32))]) rfl kk_) ?_
      show Goes p e below _ (T17.setTop (mkF m 31 #[vr a, vr al, vi ((1 : Int32) + (1 : Int32))] []))
      rw [show ((1 : Int32) + (1 : Int32)) = (2 : Int32) from by decide]
      show Goes p e below _ (T17.setTop (mkF m 31 #[vr a, vr al, vi (2 : Int32)] []))
      refine Goes.via (fun _ kk_ => XS.goto X17.here hx rfl (pc0 := 31) (pc' := 2) rfl (hb hby d22_31) (by decide) (by decide) kk_) ?_
      show Goes p e below _ (T17.setTop (mkF m 2 #[vr a, vr al, vi (2 : Int32)] []))
      refine gILN X17 hx hby d22_2 rfl ?_
      refine gALN X17 hx hby d22_3 rfl rfl ?_
      obtain ⟨cq20, kq20, q20a, q20b, q20c⟩ := isOf hZ e17' E0_al
      obtain ⟨_, _, ⟨T20, L20, k20, n20⟩, -, X20, ⟨Lc20, hQ20, l20, y20, z20⟩, st20⟩ := X17.interfaceBack hx (xi := mN_List_size) (y := mN_ArrayList_size) hown (mvT hZ (own_w hw 137 rfl)) (mvT hZ (own_w hw 138 rfl)) (mvT hZ (own_w hw 139 rfl)) (mvT hZ (own_w hw 140 rfl)) (mvT hZ (own_w hw 141 rfl)) (mvT hZ (own_w hw 142 rfl)) (mvT hZ (own_w hw 143 rfl)) (mvT hZ (own_w hw 144 rfl)) (by decide) (backOf (W := 1) (rm23 l Z a0 hw [] al (2 : Int32) h0 n0 (Nat.le_trans Z0 (Nat.le_refl _)) F1_al_size) hZ (own_w hw 145 rfl) (own_w hw 62 rfl) (by decide) (by decide)) q20a q20b q20c (g := (mkF m 4 #[vr a, vr al, vi (2 : Int32)] [(.ref al), (.int (2 : Int32))])) rfl (by rw [hml]; rfl) (Steps.refl _) (argsL := []) (rest := [(.int (2 : Int32))]) (lenOf pd_2 rfl) rfl (by show 2 * 0 + _ ≤ _; exact Nat.le_of_eq rfl) (hb hby d22_4) (fun _ _ => ⟨rfl, e17', (by decide : 0 + 0 ≤ _), (by decide : 0 + 0 ≤ _)⟩)
      dsimp only [Pt.U, Pt.locs, Pt.cells, Pt.slots] at X20 l20 y20 z20 st20 hQ20
      replace l20 := l20.symm
      subst l20 y20 z20
      obtain ⟨rfl, rfl, e20⟩ := hQ20
      first | rw [List.append_nil] at X20 | skip
      refine Goes.tr st20 ?_
      have e20' : T20.heap = h0 := e20
      show Goes p e below _ (T20.setTop (mkF m 9 #[vr a, vr al, vi (2 : Int32)] [(.int (2 : Int32)), (.int (2 : Int32))]))
      have hc9_21 : ¬ ((2 : Int32) < (2 : Int32)) := (by decide)
      refine Goes.via (fun _ kk_ => XS.icmpYes X20.here hx rfl (pc0 := 9) (pc' := 34) rfl (hb hby d22_9) rfl (flt hc9_21).2.1 (by decide) (by decide) kk_) ?_
      show Goes p e below _ (T20.setTop (mkF m 34 #[vr a, vr al, vi (2 : Int32)] []))
      refine gIC (z := 0) X20 hx hby d22_34 rfl ?_
      exact own_finN X20 hx hlk hret (by simp) (hb hby d22_35) (by rw [e20']; exact ⟨(own_ret (by rw [if_neg hq0, if_neg hq1]; rfl)), rfl, rfl⟩) (by first | decide | omega | (dsimp only; omega)) (by first | decide | omega | (dsimp only; omega))
theorem ef_rm18 (m : MethodId) (a : Addr) (b : Addr) : entryFrame m #[(.ref a), (.ref b)] 2 = mkF m 0 #[.val (.ref a), .val (.ref b)] [] := by first | (simp [entryFrame, mkF, argsToLocals, Value.category]; done) | rfl
def Qrm18 (Z : State) (a : Addr) (b : Addr) (ow : Addr) (sp : Addr) (w_ : Int64) (y_ : Int64) (x_ : Int32) (dg : Int32) (bp : Int32) (h0 : Heap) (n0 : Nat) (v_ : Option Value) (h_ : Heap) (L_ : List Loc) : Prop := v_ = some (.int (1 : Int32)) ∧ L_ = [] ∧ h_ = h0
theorem d18_0 : decode prog_74_method_9_code 0 = .ok (.aload_n 0, 1) := by decide +kernel
theorem d18_1 : decode prog_74_method_9_code 1 = .ok (.getfield 16, 3) := by decide +kernel
theorem d18_4 : decode prog_74_method_9_code 4 = .ok (.aload_n 1, 1) := by decide +kernel
theorem pd_13 : parseMethodDescriptor "(Lnearhop/model/Id;)I" = some ⟨[(.object "nearhop/model/Id")], some .int⟩ := by decide +kernel
theorem d18_5 : decode prog_74_method_9_code 5 = .ok (.invokevirtual 63, 3) := by decide +kernel
abbrev mN_Id_sharedPrefixLength : MethodName := ⟨"nearhop/model/Id", "sharedPrefixLength", "(Lnearhop/model/Id;)I"⟩
theorem d18_8 : decode prog_74_method_9_code 8 = .ok (.aload_n 0, 1) := by decide +kernel
theorem d18_9 : decode prog_74_method_9_code 9 = .ok (.getfield 36, 3) := by decide +kernel
theorem d18_12 : decode prog_74_method_9_code 12 = .ok (.if_icmp .lt 7, 3) := by decide +kernel
theorem d18_15 : decode prog_74_method_9_code 15 = .ok (.iconst 1, 1) := by decide +kernel
theorem d18_16 : decode prog_74_method_9_code 16 = .ok (.goto 4, 3) := by decide +kernel
theorem d18_20 : decode prog_74_method_9_code 20 = .ok (.ireturn, 1) := by decide +kernel
set_option maxRecDepth 65536 in
set_option maxHeartbeats 40000000 in
theorem rm18 (l : Launch) (Z : State) (a0 : Array Value) (hw : ∀ d ∈ tables_1, d.before a0 Z = true) (ws : List Jvm.Cond) (a : Addr) (b : Addr) (ow : Addr) (sp : Addr) (w_ : Int64) (y_ : Int64) (x_ : Int32) (dg : Int32) (bp : Int32) (h0 : Heap) (n0 : Nat) (Z0 : n0 ≤ h0.size) (F0_a_owner : Fld Z h0 a "nearhop/model/Block" "owner" "Lnearhop/model/Id;" (.ref ow)) (F1_a_depth : Fld Z h0 a "nearhop/model/Block" "depth" "I" (.int (0 : Int32))) (E2_ow : Exa Z h0 ow "nearhop/model/Id") (F3_ow_space : Fld Z h0 ow "nearhop/model/Id" "space" "Lnearhop/model/IdSpace;" (.ref sp)) (F4_ow_high : Fld Z h0 ow "nearhop/model/Id" "high" "J" (.long (0 : Int64))) (F5_ow_low : Fld Z h0 ow "nearhop/model/Id" "low" "J" (.long w_)) (F6_b_space : Fld Z h0 b "nearhop/model/Id" "space" "Lnearhop/model/IdSpace;" (.ref sp)) (F7_b_high : Fld Z h0 b "nearhop/model/Id" "high" "J" (.long (0 : Int64))) (F8_b_low : Fld Z h0 b "nearhop/model/Id" "low" "J" (.long y_)) (E9_sp : Exa Z h0 sp "nearhop/model/IdSpace") (F10_sp_base : Fld Z h0 sp "nearhop/model/IdSpace" "base" "I" (.int x_)) (F11_sp_digits : Fld Z h0 sp "nearhop/model/IdSpace" "digits" "I" (.int dg)) (HB : own_bb x_ bp) (HP0 : ¬ (if (w_ ^^^ y_) = (0 : Int64) then dg else (((64 : Int32) + (own_nlzL (w_ ^^^ y_))) - ((128 : Int32) - (dg * bp))) / bp) < (0 : Int32)) :
    MetFree l (⟨"nearhop/model/Block", "fits", "(Lnearhop/model/Id;)Z"⟩ : MethodName) (head1 (Jvm.Cond.code (⟨"nearhop/model/Block", "fits", "(Lnearhop/model/Id;)Z"⟩ : MethodName) prog_74_method_9_code 2 (some .boolean) :: ws) ({ frames := 4, cells := 0, slots := 0, locals := 58 } : Room)) (fun as_ U_ => as_ = #[(.ref a), (.ref b)] ∧ Z.Warmed39 U_.vm ∧ U_.heap = h0) (fun _ _ _ _ _ => True) (fun _ U_ o_ V_ => ∃ v_ L_, o_ = .returned v_ ∧ Qrm18 Z a b ow sp w_ y_ x_ dg bp h0 n0 v_ V_.heap L_ ∧ FrameEnd U_ o_ V_ L_ ({ frames := 4, cells := 0, slots := 0, locals := 58 } : Room).cells ({ frames := 4, cells := 0, slots := 0, locals := 58 } : Room).slots) := by
  refine MetFree.of_bodySF (plainFor_of_name pn_nearhop_model_Block) hisR ?_
  intro p e s m args below meth c s₁ Bd hml0 hP hK
  obtain ⟨rfl, hZ, hh⟩ := hP
  have hx := Bd.exec
  have hby := Bd.bytes
  have hlk : meth.locks = false := BodyLoose.notSynchronized Bd
  have hret := Bd.returns
  have hml : c.maxLocals = 2 := hml0
  have hown : s.vm.findClass "nearhop/model/Block" = some m.cls := findClass_of_methodNamed Bd.named
  have hnm := (name_of_methodNamed Bd.named Bd.method).1
  have X0 : Stand p l e ({ frames := 4, cells := 0, slots := 0, locals := 58 } : Room) s m #[(.ref a), (.ref b)] below meth c s₁ [] 0 0 := Stand.of_body Bd
  have e0 : s₁.heap = h0 := by rw [← hh, Bd.state]; rfl
  have N0 := Fr.nil n0
  show Goes p e below (Fin_ s (Qrm18 Z a b ow sp w_ y_ x_ dg bp h0 n0) ({ frames := 4, cells := 0, slots := 0, locals := 58 } : Room).cells ({ frames := 4, cells := 0, slots := 0, locals := 58 } : Room).slots) (s₁.setTop (entryFrame m #[(.ref a), (.ref b)] 2))
  rw [ef_rm18 m a b]
  refine gALN X0 hx hby d18_0 rfl rfl ?_
  obtain ⟨T2, X2, e2, st2⟩ := getF X0 hx hZ hown (host := "") (Or.inl (own_w hw 86 rfl)) Via.refl e0 F0_a_owner (g := (mkF m 1 #[vr a, vr b] [(.ref a)])) rfl rfl (hb hby d18_1)
  refine Goes.via st2 ?_
  show Goes p e below _ (T2.setTop (mkF m 4 #[vr a, vr b] [(.ref ow)]))
  refine gALN X2 hx hby d18_4 rfl rfl ?_
  obtain ⟨cq3, kq3, q3a, q3b, q3c⟩ := isOf hZ e2 E2_ow
  obtain ⟨_, _, ⟨T3, L3, k3, n3⟩, -, X3, ⟨Lc3, hQ3, l3, y3, z3⟩, st3⟩ := X2.virtualBack hx (y := mN_Id_sharedPrefixLength) (z := mN_Id_sharedPrefixLength) hown (mvT hZ (own_w hw 117 rfl)) (mvT hZ (own_w hw 118 rfl)) (notFace_of_selects (args := #[]) (mvT hZ (own_w hw 120 rfl))) (mvT hZ (own_w hw 120 rfl)) (mvT hZ (own_w hw 119 rfl)) (by decide) (backOf (W := 0) (rmPre l Z a0 hw [] ow b sp w_ y_ x_ dg bp h0 n0 (Nat.le_trans Z0 (Nat.le_refl _)) F3_ow_space F4_ow_high F5_ow_low F6_b_space F7_b_high F8_b_low E9_sp F10_sp_base F11_sp_digits HB) hZ (own_w hw 121 rfl) (own_w hw 29 rfl) (by decide) (by decide)) q3a q3c (g := (mkF m 5 #[vr a, vr b] [(.ref b), (.ref ow)])) rfl (by rw [hml]; rfl) (Steps.refl _) (argsL := [(.ref b)]) (rest := []) (lenOf pd_13 rfl) rfl (by show 2 * 0 + _ ≤ _; exact Nat.le_of_eq rfl) (hb hby d18_5) (fun _ _ => ⟨rfl, e2, (by decide : 0 + 0 ≤ _), (by decide : 0 + 0 ≤ _)⟩)
  dsimp only [Pt.U, Pt.locs, Pt.cells, Pt.slots] at X3 l3 y3 z3 st3 hQ3
  replace l3 := l3.symm
  subst l3 y3 z3
  obtain ⟨rfl, rfl, e3⟩ := hQ3
  first | rw [List.append_nil] at X3 | skip
  refine Goes.tr st3 ?_
  have e3' : T3.heap = h0 := e3
  show Goes p e below _ (T3.setTop (mkF m 8 #[vr a, vr b] [(.int (if (w_ ^^^ y_) = (0 : Int64) then dg else (((64 : Int32) + (own_nlzL (w_ ^^^ y_))) - ((128 : Int32) - (dg * bp))) / bp))]))
  refine gALN X3 hx hby d18_8 rfl rfl ?_
  obtain ⟨T4, X4, e4, st4⟩ := getF X3 hx hZ hown (host := "") (Or.inl (own_w hw 130 rfl)) Via.refl e3' F1_a_depth (g := (mkF m 9 #[vr a, vr b] [(.ref a), (.int (if (w_ ^^^ y_) = (0 : Int64) then dg else (((64 : Int32) + (own_nlzL (w_ ^^^ y_))) - ((128 : Int32) - (dg * bp))) / bp))])) rfl rfl (hb hby d18_9)
  refine Goes.via st4 ?_
  show Goes p e below _ (T4.setTop (mkF m 12 #[vr a, vr b] [(.int (0 : Int32)), (.int (if (w_ ^^^ y_) = (0 : Int64) then dg else (((64 : Int32) + (own_nlzL (w_ ^^^ y_))) - ((128 : Int32) - (dg * bp))) / bp))]))
  have hc12_5 : ¬ ((if (w_ ^^^ y_) = (0 : Int64) then dg else (((64 : Int32) + (own_nlzL (w_ ^^^ y_))) - ((128 : Int32) - (dg * bp))) / bp) < (0 : Int32)) := HP0
  refine Goes.via (fun _ kk_ => XS.icmpNo X4.here hx rfl (hb hby d18_12) rfl (flt hc12_5).1 kk_) ?_
  show Goes p e below _ (T4.setTop (mkF m 15 #[vr a, vr b] []))
  refine gIC (z := 1) X4 hx hby d18_15 rfl ?_
  refine Goes.via (fun _ kk_ => XS.goto X4.here hx rfl (pc0 := 16) (pc' := 20) rfl (hb hby d18_16) (by decide) (by decide) kk_) ?_
  show Goes p e below _ (T4.setTop (mkF m 20 #[vr a, vr b] [(.int (1 : Int32))]))
  exact own_finN X4 hx hlk hret (by simp) (hb hby d18_20) (by rw [e4]; exact ⟨rfl, rfl, rfl⟩) (by first | decide | omega | (dsimp only; omega)) (by first | decide | omega | (dsimp only; omega))
theorem ef_rmAddO (m : MethodId) (a : Addr) (b : Addr) : entryFrame m #[(.ref a), (.ref b)] 2 = mkF m 0 #[.val (.ref a), .val (.ref b)] [] := by first | (simp [entryFrame, mkF, argsToLocals, Value.category]; done) | rfl
def QrmAddO (Z : State) (a : Addr) (b : Addr) (al : Addr) (ow : Addr) (wv : Addr) (sp : Addr) (w_ : Int64) (y_ : Int64) (x_ : Int32) (dg : Int32) (bp : Int32) (h0 : Heap) (n0 : Nat) (v_ : Option Value) (h_ : Heap) (L_ : List Loc) : Prop := v_ = some (.int (0 : Int32)) ∧ L_ = [] ∧ h_ = h0
theorem d16_0 : decode prog_74_method_6_code 0 = .ok (.aload_n 1, 1) := by decide +kernel
theorem d16_1 : decode prog_74_method_6_code 1 = .ok (.aload_n 0, 1) := by decide +kernel
theorem d16_2 : decode prog_74_method_6_code 2 = .ok (.getfield 16, 3) := by decide +kernel
theorem d16_5 : decode prog_74_method_6_code 5 = .ok (.invokevirtual 54, 3) := by decide +kernel
theorem d16_8 : decode prog_74_method_6_code 8 = .ok (.ifCond .ne 22, 3) := by decide +kernel
theorem d16_30 : decode prog_74_method_6_code 30 = .ok (.iconst 0, 1) := by decide +kernel
theorem d16_31 : decode prog_74_method_6_code 31 = .ok (.ireturn, 1) := by decide +kernel
set_option maxRecDepth 65536 in
set_option maxHeartbeats 40000000 in
theorem rmAddO (l : Launch) (Z : State) (a0 : Array Value) (hw : ∀ d ∈ tables_1, d.before a0 Z = true) (ws : List Jvm.Cond) (a : Addr) (b : Addr) (al : Addr) (ow : Addr) (wv : Addr) (sp : Addr) (w_ : Int64) (y_ : Int64) (x_ : Int32) (dg : Int32) (bp : Int32) (h0 : Heap) (n0 : Nat) (Z0 : n0 ≤ h0.size) (E0_a : Exa Z h0 a "nearhop/model/Block") (F1_a_members : Fld Z h0 a "nearhop/model/Block" "members" "Ljava/util/List;" (.ref al)) (F2_a_owner : Fld Z h0 a "nearhop/model/Block" "owner" "Lnearhop/model/Id;" (.ref ow)) (F3_a_withShared : Fld Z h0 a "nearhop/model/Block" "withShared" "[I" (.ref wv)) (F4_a_depth : Fld Z h0 a "nearhop/model/Block" "depth" "I" (.int (0 : Int32))) (E5_ow : Exa Z h0 ow "nearhop/model/Id") (E6_b : Exa Z h0 b "nearhop/model/Id") (HNo : b ≠ ow) (F8_ow_space : Fld Z h0 ow "nearhop/model/Id" "space" "Lnearhop/model/IdSpace;" (.ref sp)) (F9_ow_high : Fld Z h0 ow "nearhop/model/Id" "high" "J" (.long (0 : Int64))) (F10_ow_low : Fld Z h0 ow "nearhop/model/Id" "low" "J" (.long w_)) (F11_b_space : Fld Z h0 b "nearhop/model/Id" "space" "Lnearhop/model/IdSpace;" (.ref sp)) (F12_b_high : Fld Z h0 b "nearhop/model/Id" "high" "J" (.long (0 : Int64))) (F13_b_low : Fld Z h0 b "nearhop/model/Id" "low" "J" (.long y_)) (E14_sp : Exa Z h0 sp "nearhop/model/IdSpace") (F15_sp_base : Fld Z h0 sp "nearhop/model/IdSpace" "base" "I" (.int x_)) (F16_sp_digits : Fld Z h0 sp "nearhop/model/IdSpace" "digits" "I" (.int dg)) (HB : own_bb x_ bp) (Heq : y_ = w_) :
    MetFree l (⟨"nearhop/model/Block", "add", "(Lnearhop/model/Id;)Z"⟩ : MethodName) (head1 (Jvm.Cond.code (⟨"nearhop/model/Block", "add", "(Lnearhop/model/Id;)Z"⟩ : MethodName) prog_74_method_6_code 2 (some .boolean) :: ws) ({ frames := 1, cells := 0, slots := 0, locals := 14 } : Room)) (fun as_ U_ => as_ = #[(.ref a), (.ref b)] ∧ Z.Warmed39 U_.vm ∧ U_.heap = h0) (fun _ _ _ _ _ => True) (fun _ U_ o_ V_ => ∃ v_ L_, o_ = .returned v_ ∧ QrmAddO Z a b al ow wv sp w_ y_ x_ dg bp h0 n0 v_ V_.heap L_ ∧ FrameEnd U_ o_ V_ L_ ({ frames := 1, cells := 0, slots := 0, locals := 14 } : Room).cells ({ frames := 1, cells := 0, slots := 0, locals := 14 } : Room).slots) := by
  refine MetFree.of_bodySF (plainFor_of_name pn_nearhop_model_Block) hisR ?_
  intro p e s m args below meth c s₁ Bd hml0 hP hK
  obtain ⟨rfl, hZ, hh⟩ := hP
  have hx := Bd.exec
  have hby := Bd.bytes
  have hlk : meth.locks = false := BodyLoose.notSynchronized Bd
  have hret := Bd.returns
  have hml : c.maxLocals = 2 := hml0
  have hown : s.vm.findClass "nearhop/model/Block" = some m.cls := findClass_of_methodNamed Bd.named
  have hnm := (name_of_methodNamed Bd.named Bd.method).1
  have X0 : Stand p l e ({ frames := 1, cells := 0, slots := 0, locals := 14 } : Room) s m #[(.ref a), (.ref b)] below meth c s₁ [] 0 0 := Stand.of_body Bd
  have e0 : s₁.heap = h0 := by rw [← hh, Bd.state]; rfl
  have N0 := Fr.nil n0
  show Goes p e below (Fin_ s (QrmAddO Z a b al ow wv sp w_ y_ x_ dg bp h0 n0) ({ frames := 1, cells := 0, slots := 0, locals := 14 } : Room).cells ({ frames := 1, cells := 0, slots := 0, locals := 14 } : Room).slots) (s₁.setTop (entryFrame m #[(.ref a), (.ref b)] 2))
  rw [ef_rmAddO m a b]
  refine gALN X0 hx hby d16_0 rfl rfl ?_
  refine gALN X0 hx hby d16_1 rfl rfl ?_
  obtain ⟨T6, X6, e6, st6⟩ := getF X0 hx hZ hown (host := "") (Or.inl (own_w hw 86 rfl)) Via.refl e0 F2_a_owner (g := (mkF m 2 #[vr a, vr b] [(.ref a), (.ref b)])) rfl rfl (hb hby d16_2)
  refine Goes.via st6 ?_
  show Goes p e below _ (T6.setTop (mkF m 5 #[vr a, vr b] [(.ref ow), (.ref b)]))
  obtain ⟨cq7, kq7, q7a, q7b, q7c⟩ := isOf hZ e6 E6_b
  obtain ⟨_, _, ⟨T7, L7, k7, n7⟩, -, X7, ⟨Lc7, hQ7, l7, y7, z7⟩, st7⟩ := X6.virtualBack hx (y := mN_Id_equals) (z := mN_Id_equals) hown (mvT hZ (own_w hw 106 rfl)) (mvT hZ (own_w hw 107 rfl)) (notFace_of_selects (args := #[]) (mvT hZ (own_w hw 109 rfl))) (mvT hZ (own_w hw 109 rfl)) (mvT hZ (own_w hw 108 rfl)) (by decide) (backOf (W := 0) (rmEq l Z a0 hw [] b ow sp y_ w_ h0 n0 (Nat.le_trans Z0 (Nat.le_refl _)) HNo E5_ow F11_b_space F12_b_high F13_b_low F8_ow_space F9_ow_high F10_ow_low) hZ (own_w hw 110 rfl) (own_w hw 29 rfl) (by decide) (by decide)) q7a q7c (g := (mkF m 5 #[vr a, vr b] [(.ref ow), (.ref b)])) rfl (by rw [hml]; rfl) (Steps.refl _) (argsL := [(.ref ow)]) (rest := []) (lenOf pd_12 rfl) rfl (by show 2 * 0 + _ ≤ _; exact Nat.le_of_eq rfl) (hb hby d16_5) (fun _ _ => ⟨rfl, e6, (by decide : 0 + 0 ≤ _), (by decide : 0 + 0 ≤ _)⟩)
  dsimp only [Pt.U, Pt.locs, Pt.cells, Pt.slots] at X7 l7 y7 z7 st7 hQ7
  replace l7 := l7.symm
  subst l7 y7 z7
  obtain ⟨rfl, rfl, e7⟩ := hQ7
  first | rw [List.append_nil] at X7 | skip
  refine Goes.tr st7 ?_
  have e7' : T7.heap = h0 := e7
  show Goes p e below _ (T7.setTop (mkF m 8 #[vr a, vr b] [(.int (if y_ = w_ then (1 : Int32) else (0 : Int32)))]))
  have hc8_8 : ¬ ((if y_ = w_ then (1 : Int32) else (0 : Int32)) = (0 : Int32)) := (by rw [if_pos Heq]; decide)
  refine Goes.via (fun _ kk_ => XS.ifYes X7.here hx rfl (pc0 := 8) (pc' := 30) rfl (hb hby d16_8) rfl ((if0 _ _).trans (feq hc8_8).2) (by decide) (by decide) kk_) ?_
  show Goes p e below _ (T7.setTop (mkF m 30 #[vr a, vr b] []))
  refine gIC (z := 0) X7 hx hby d16_30 rfl ?_
  exact own_finN X7 hx hlk hret (by simp) (hb hby d16_31) (by rw [e7']; exact ⟨rfl, rfl, rfl⟩) (by first | decide | omega | (dsimp only; omega)) (by first | decide | omega | (dsimp only; omega))
theorem ef_rmAddI1 (m : MethodId) (a : Addr) (b : Addr) : entryFrame m #[(.ref a), (.ref b)] 2 = mkF m 0 #[.val (.ref a), .val (.ref b)] [] := by first | (simp [entryFrame, mkF, argsToLocals, Value.category]; done) | rfl
def QrmAddI1 (Z : State) (a : Addr) (b : Addr) (al : Addr) (ow : Addr) (wv : Addr) (sp : Addr) (w_ : Int64) (y_ : Int64) (x_ : Int32) (dg : Int32) (bp : Int32) (nb : Addr) (kb : ClassId) (f : Nat → Value) (e1_ : Addr) (v1 : Int64) (h0 : Heap) (n0 : Nat) (v_ : Option Value) (h_ : Heap) (L_ : List Loc) : Prop := v_ = some (.int (0 : Int32)) ∧ L_ = [] ∧ h_ = h0
theorem d16_11 : decode prog_74_method_6_code 11 = .ok (.aload_n 0, 1) := by decide +kernel
theorem d16_12 : decode prog_74_method_6_code 12 = .ok (.aload_n 1, 1) := by decide +kernel
theorem pd_14 : parseMethodDescriptor "(Lnearhop/model/Id;)Z" = some ⟨[(.object "nearhop/model/Id")], some .boolean⟩ := by decide +kernel
theorem d16_13 : decode prog_74_method_6_code 13 = .ok (.invokevirtual 46, 3) := by decide +kernel
abbrev mN_Block_fits : MethodName := ⟨"nearhop/model/Block", "fits", "(Lnearhop/model/Id;)Z"⟩
theorem d16_16 : decode prog_74_method_6_code 16 = .ok (.ifCond .eq 14, 3) := by decide +kernel
theorem d16_19 : decode prog_74_method_6_code 19 = .ok (.aload_n 1, 1) := by decide +kernel
theorem d16_20 : decode prog_74_method_6_code 20 = .ok (.aload_n 0, 1) := by decide +kernel
theorem d16_21 : decode prog_74_method_6_code 21 = .ok (.getfield 10, 3) := by decide +kernel
theorem pd_15 : parseMethodDescriptor "(Ljava/util/List;)Z" = some ⟨[(.object "java/util/List")], some .boolean⟩ := by decide +kernel
theorem d16_24 : decode prog_74_method_6_code 24 = .ok (.invokevirtual 50, 3) := by decide +kernel
abbrev mN_Id_isIn : MethodName := ⟨"nearhop/model/Id", "isIn", "(Ljava/util/List;)Z"⟩
theorem d16_27 : decode prog_74_method_6_code 27 = .ok (.ifCond .eq 5, 3) := by decide +kernel
set_option maxRecDepth 65536 in
set_option maxHeartbeats 40000000 in
theorem rmAddI1 (l : Launch) (Z : State) (a0 : Array Value) (hw : ∀ d ∈ tables_1, d.before a0 Z = true) (ws : List Jvm.Cond) (a : Addr) (b : Addr) (al : Addr) (ow : Addr) (wv : Addr) (sp : Addr) (w_ : Int64) (y_ : Int64) (x_ : Int32) (dg : Int32) (bp : Int32) (nb : Addr) (kb : ClassId) (f : Nat → Value) (e1_ : Addr) (v1 : Int64) (h0 : Heap) (n0 : Nat) (Z0 : n0 ≤ h0.size) (E0_a : Exa Z h0 a "nearhop/model/Block") (F1_a_members : Fld Z h0 a "nearhop/model/Block" "members" "Ljava/util/List;" (.ref al)) (F2_a_owner : Fld Z h0 a "nearhop/model/Block" "owner" "Lnearhop/model/Id;" (.ref ow)) (F3_a_withShared : Fld Z h0 a "nearhop/model/Block" "withShared" "[I" (.ref wv)) (F4_a_depth : Fld Z h0 a "nearhop/model/Block" "depth" "I" (.int (0 : Int32))) (E5_ow : Exa Z h0 ow "nearhop/model/Id") (E6_b : Exa Z h0 b "nearhop/model/Id") (HNo : b ≠ ow) (F8_ow_space : Fld Z h0 ow "nearhop/model/Id" "space" "Lnearhop/model/IdSpace;" (.ref sp)) (F9_ow_high : Fld Z h0 ow "nearhop/model/Id" "high" "J" (.long (0 : Int64))) (F10_ow_low : Fld Z h0 ow "nearhop/model/Id" "low" "J" (.long w_)) (F11_b_space : Fld Z h0 b "nearhop/model/Id" "space" "Lnearhop/model/IdSpace;" (.ref sp)) (F12_b_high : Fld Z h0 b "nearhop/model/Id" "high" "J" (.long (0 : Int64))) (F13_b_low : Fld Z h0 b "nearhop/model/Id" "low" "J" (.long y_)) (E14_sp : Exa Z h0 sp "nearhop/model/IdSpace") (F15_sp_base : Fld Z h0 sp "nearhop/model/IdSpace" "base" "I" (.int x_)) (F16_sp_digits : Fld Z h0 sp "nearhop/model/IdSpace" "digits" "I" (.int dg)) (HB : own_bb x_ bp) (E18_al : Exa Z h0 al "java/util/ArrayList") (F19_al_size : Fld Z h0 al "java/util/ArrayList" "size" "I" (.int (1 : Int32))) (F20_al_elementData : Fld Z h0 al "java/util/ArrayList" "elementData" "[Ljava/lang/Object;" (.ref nb)) (A21_nb : Arw Z h0 nb kb (.object "java/lang/Object") 10 f) (Hf0 : f 0 = .ref e1_) (HNa0 : b ≠ e1_) (E24_e1_ : Exa Z h0 e1_ "nearhop/model/Id") (F25_e1__space : Fld Z h0 e1_ "nearhop/model/Id" "space" "Lnearhop/model/IdSpace;" (.ref sp)) (F26_e1__high : Fld Z h0 e1_ "nearhop/model/Id" "high" "J" (.long (0 : Int64))) (F27_e1__low : Fld Z h0 e1_ "nearhop/model/Id" "low" "J" (.long v1)) (HP0 : ¬ (if (w_ ^^^ y_) = (0 : Int64) then dg else (((64 : Int32) + (own_nlzL (w_ ^^^ y_))) - ((128 : Int32) - (dg * bp))) / bp) < (0 : Int32)) (Hne : ¬ y_ = w_) (Hin : ¬ (if y_ = v1 then (1 : Int32) else (0 : Int32)) = (0 : Int32)) :
    MetFree l (⟨"nearhop/model/Block", "add", "(Lnearhop/model/Id;)Z"⟩ : MethodName) (head1 (Jvm.Cond.code (⟨"nearhop/model/Block", "add", "(Lnearhop/model/Id;)Z"⟩ : MethodName) prog_74_method_6_code 2 (some .boolean) :: ws) ({ frames := 5, cells := 0, slots := 0, locals := 71 } : Room)) (fun as_ U_ => as_ = #[(.ref a), (.ref b)] ∧ Z.Warmed39 U_.vm ∧ U_.heap = h0) (fun _ _ _ _ _ => True) (fun _ U_ o_ V_ => ∃ v_ L_, o_ = .returned v_ ∧ QrmAddI1 Z a b al ow wv sp w_ y_ x_ dg bp nb kb f e1_ v1 h0 n0 v_ V_.heap L_ ∧ FrameEnd U_ o_ V_ L_ ({ frames := 5, cells := 0, slots := 0, locals := 71 } : Room).cells ({ frames := 5, cells := 0, slots := 0, locals := 71 } : Room).slots) := by
  refine MetFree.of_bodySF (plainFor_of_name pn_nearhop_model_Block) hisR ?_
  intro p e s m args below meth c s₁ Bd hml0 hP hK
  obtain ⟨rfl, hZ, hh⟩ := hP
  have hx := Bd.exec
  have hby := Bd.bytes
  have hlk : meth.locks = false := BodyLoose.notSynchronized Bd
  have hret := Bd.returns
  have hml : c.maxLocals = 2 := hml0
  have hown : s.vm.findClass "nearhop/model/Block" = some m.cls := findClass_of_methodNamed Bd.named
  have hnm := (name_of_methodNamed Bd.named Bd.method).1
  have X0 : Stand p l e ({ frames := 5, cells := 0, slots := 0, locals := 71 } : Room) s m #[(.ref a), (.ref b)] below meth c s₁ [] 0 0 := Stand.of_body Bd
  have e0 : s₁.heap = h0 := by rw [← hh, Bd.state]; rfl
  have N0 := Fr.nil n0
  show Goes p e below (Fin_ s (QrmAddI1 Z a b al ow wv sp w_ y_ x_ dg bp nb kb f e1_ v1 h0 n0) ({ frames := 5, cells := 0, slots := 0, locals := 71 } : Room).cells ({ frames := 5, cells := 0, slots := 0, locals := 71 } : Room).slots) (s₁.setTop (entryFrame m #[(.ref a), (.ref b)] 2))
  rw [ef_rmAddI1 m a b]
  refine gALN X0 hx hby d16_0 rfl rfl ?_
  refine gALN X0 hx hby d16_1 rfl rfl ?_
  obtain ⟨T19, X19, e19, st19⟩ := getF X0 hx hZ hown (host := "") (Or.inl (own_w hw 86 rfl)) Via.refl e0 F2_a_owner (g := (mkF m 2 #[vr a, vr b] [(.ref a), (.ref b)])) rfl rfl (hb hby d16_2)
  refine Goes.via st19 ?_
  show Goes p e below _ (T19.setTop (mkF m 5 #[vr a, vr b] [(.ref ow), (.ref b)]))
  obtain ⟨cq20, kq20, q20a, q20b, q20c⟩ := isOf hZ e19 E6_b
  obtain ⟨_, _, ⟨T20, L20, k20, n20⟩, -, X20, ⟨Lc20, hQ20, l20, y20, z20⟩, st20⟩ := X19.virtualBack hx (y := mN_Id_equals) (z := mN_Id_equals) hown (mvT hZ (own_w hw 106 rfl)) (mvT hZ (own_w hw 107 rfl)) (notFace_of_selects (args := #[]) (mvT hZ (own_w hw 109 rfl))) (mvT hZ (own_w hw 109 rfl)) (mvT hZ (own_w hw 108 rfl)) (by decide) (backOf (W := 0) (rmEq l Z a0 hw [] b ow sp y_ w_ h0 n0 (Nat.le_trans Z0 (Nat.le_refl _)) HNo E5_ow F11_b_space F12_b_high F13_b_low F8_ow_space F9_ow_high F10_ow_low) hZ (own_w hw 110 rfl) (own_w hw 29 rfl) (by decide) (by decide)) q20a q20c (g := (mkF m 5 #[vr a, vr b] [(.ref ow), (.ref b)])) rfl (by rw [hml]; rfl) (Steps.refl _) (argsL := [(.ref ow)]) (rest := []) (lenOf pd_12 rfl) rfl (by show 2 * 0 + _ ≤ _; exact Nat.le_of_eq rfl) (hb hby d16_5) (fun _ _ => ⟨rfl, e19, (by decide : 0 + 0 ≤ _), (by decide : 0 + 0 ≤ _)⟩)
  dsimp only [Pt.U, Pt.locs, Pt.cells, Pt.slots] at X20 l20 y20 z20 st20 hQ20
  replace l20 := l20.symm
  subst l20 y20 z20
  obtain ⟨rfl, rfl, e20⟩ := hQ20
  first | rw [List.append_nil] at X20 | skip
  refine Goes.tr st20 ?_
  have e20' : T20.heap = h0 := e20
  show Goes p e below _ (T20.setTop (mkF m 8 #[vr a, vr b] [(.int (if y_ = w_ then (1 : Int32) else (0 : Int32)))]))
  have hc8_21 : (if y_ = w_ then (1 : Int32) else (0 : Int32)) = (0 : Int32) := (if_neg Hne)
  refine Goes.via (fun _ kk_ => XS.ifNo X20.here hx rfl (hb hby d16_8) rfl ((if0 _ _).trans (teq hc8_21).2) kk_) ?_
  show Goes p e below _ (T20.setTop (mkF m 11 #[vr a, vr b] []))
  refine gALN X20 hx hby d16_11 rfl rfl ?_
  refine gALN X20 hx hby d16_12 rfl rfl ?_
  obtain ⟨cq22, q22, q22'⟩ := E0_a.cell
  obtain ⟨_, _, ⟨T22, L22, k22, n22⟩, -, X22, ⟨Lc22, hQ22, l22, y22, z22⟩, st22⟩ := X20.privateBack hx (y := mN_Block_fits) hown (mvT hZ (own_w hw 113 rfl)) (mvT hZ (own_w hw 114 rfl)) (mvT hZ (own_selP (y := mN_Block_fits) (own_w hw 25 rfl) (own_w hw 115 rfl) (own_w hw 114 rfl) (by decide))) (Cond.privateMethod_at (mvP hZ (own_w hw 115 rfl) (args := #[]))) (mvT hZ (own_w hw 116 rfl)) (by decide) (backOf (W := 0) (rm18 l Z a0 hw [] a b ow sp w_ y_ x_ dg bp h0 n0 (Nat.le_trans Z0 (Nat.le_refl _)) F2_a_owner F4_a_depth E5_ow F8_ow_space F9_ow_high F10_ow_low F11_b_space F12_b_high F13_b_low E14_sp F15_sp_base F16_sp_digits HB HP0) hZ (own_w hw 116 rfl) (own_w hw 26 rfl) (by decide) (by decide)) (g := (mkF m 13 #[vr a, vr b] [(.ref b), (.ref a)])) rfl (by rw [hml]; rfl) (Steps.refl _) (a := a) (by rw [e20']; exact q22) q22' (argsL := [(.ref b)]) (rest := []) (lenOf pd_14 rfl) rfl (by show 2 * 0 + _ ≤ _; exact Nat.le_of_eq rfl) (hb hby d16_13) (fun _ _ => ⟨rfl, e20', (by decide : 0 + 0 ≤ _), (by decide : 0 + 0 ≤ _)⟩)
  dsimp only [Pt.U, Pt.locs, Pt.cells, Pt.slots] at X22 l22 y22 z22 st22 hQ22
  replace l22 := l22.symm
  subst l22 y22 z22
  obtain ⟨rfl, rfl, e22⟩ := hQ22
  first | rw [List.append_nil] at X22 | skip
  refine Goes.tr st22 ?_
  have e22' : T22.heap = h0 := e22
  show Goes p e below _ (T22.setTop (mkF m 16 #[vr a, vr b] [(.int (1 : Int32))]))
  have hc16_23 : ¬ ((1 : Int32) = (0 : Int32)) := (by decide)
  refine Goes.via (fun _ kk_ => XS.ifNo X22.here hx rfl (hb hby d16_16) rfl ((if0 _ _).trans (feq hc16_23).1) kk_) ?_
  show Goes p e below _ (T22.setTop (mkF m 19 #[vr a, vr b] []))
  refine gALN X22 hx hby d16_19 rfl rfl ?_
  refine gALN X22 hx hby d16_20 rfl rfl ?_
  obtain ⟨T24, X24, e24, st24⟩ := getF X22 hx hZ hown (host := "") (Or.inl (own_w hw 84 rfl)) Via.refl e22' F1_a_members (g := (mkF m 21 #[vr a, vr b] [(.ref a), (.ref b)])) rfl rfl (hb hby d16_21)
  refine Goes.via st24 ?_
  show Goes p e below _ (T24.setTop (mkF m 24 #[vr a, vr b] [(.ref al), (.ref b)]))
  obtain ⟨cq25, kq25, q25a, q25b, q25c⟩ := isOf hZ e24 E6_b
  obtain ⟨_, _, ⟨T25, L25, k25, n25⟩, -, X25, ⟨Lc25, hQ25, l25, y25, z25⟩, st25⟩ := X24.virtualBack hx (y := mN_Id_isIn) (z := mN_Id_isIn) hown (mvT hZ (own_w hw 132 rfl)) (mvT hZ (own_w hw 133 rfl)) (notFace_of_selects (args := #[]) (mvT hZ (own_w hw 135 rfl))) (mvT hZ (own_w hw 135 rfl)) (mvT hZ (own_w hw 134 rfl)) (by decide) (backOf (W := 0) (rmIn1 l Z a0 hw [] b al sp y_ nb kb f e1_ v1 h0 n0 (Nat.le_trans Z0 (Nat.le_refl _)) E18_al F19_al_size E6_b F11_b_space F12_b_high F13_b_low F20_al_elementData A21_nb Hf0 HNa0 E24_e1_ F25_e1__space F26_e1__high F27_e1__low) hZ (own_w hw 136 rfl) (own_w hw 29 rfl) (by decide) (by decide)) q25a q25c (g := (mkF m 24 #[vr a, vr b] [(.ref al), (.ref b)])) rfl (by rw [hml]; rfl) (Steps.refl _) (argsL := [(.ref al)]) (rest := []) (lenOf pd_15 rfl) rfl (by show 2 * 0 + _ ≤ _; exact Nat.le_of_eq rfl) (hb hby d16_24) (fun _ _ => ⟨rfl, e24, (by decide : 0 + 0 ≤ _), (by decide : 0 + 0 ≤ _)⟩)
  dsimp only [Pt.U, Pt.locs, Pt.cells, Pt.slots] at X25 l25 y25 z25 st25 hQ25
  replace l25 := l25.symm
  subst l25 y25 z25
  obtain ⟨rfl, rfl, e25⟩ := hQ25
  first | rw [List.append_nil] at X25 | skip
  refine Goes.tr st25 ?_
  have e25' : T25.heap = h0 := e25
  show Goes p e below _ (T25.setTop (mkF m 27 #[vr a, vr b] [(.int (if y_ = v1 then (1 : Int32) else (0 : Int32)))]))
  have hc27_26 : ¬ ((if y_ = v1 then (1 : Int32) else (0 : Int32)) = (0 : Int32)) := Hin
  refine Goes.via (fun _ kk_ => XS.ifNo X25.here hx rfl (hb hby d16_27) rfl ((if0 _ _).trans (feq hc27_26).1) kk_) ?_
  show Goes p e below _ (T25.setTop (mkF m 30 #[vr a, vr b] []))
  refine gIC (z := 0) X25 hx hby d16_30 rfl ?_
  exact own_finN X25 hx hlk hret (by simp) (hb hby d16_31) (by rw [e25']; exact ⟨rfl, rfl, rfl⟩) (by first | decide | omega | (dsimp only; omega)) (by first | decide | omega | (dsimp only; omega))
theorem ef_rmAddI2 (m : MethodId) (a : Addr) (b : Addr) : entryFrame m #[(.ref a), (.ref b)] 2 = mkF m 0 #[.val (.ref a), .val (.ref b)] [] := by first | (simp [entryFrame, mkF, argsToLocals, Value.category]; done) | rfl
def QrmAddI2 (Z : State) (a : Addr) (b : Addr) (al : Addr) (ow : Addr) (wv : Addr) (sp : Addr) (w_ : Int64) (y_ : Int64) (x_ : Int32) (dg : Int32) (bp : Int32) (nb : Addr) (kb : ClassId) (f : Nat → Value) (e1_ : Addr) (v1 : Int64) (e2_ : Addr) (v2 : Int64) (h0 : Heap) (n0 : Nat) (v_ : Option Value) (h_ : Heap) (L_ : List Loc) : Prop := v_ = some (.int (0 : Int32)) ∧ L_ = [] ∧ h_ = h0
set_option maxRecDepth 65536 in
set_option maxHeartbeats 40000000 in
theorem rmAddI2 (l : Launch) (Z : State) (a0 : Array Value) (hw : ∀ d ∈ tables_1, d.before a0 Z = true) (ws : List Jvm.Cond) (a : Addr) (b : Addr) (al : Addr) (ow : Addr) (wv : Addr) (sp : Addr) (w_ : Int64) (y_ : Int64) (x_ : Int32) (dg : Int32) (bp : Int32) (nb : Addr) (kb : ClassId) (f : Nat → Value) (e1_ : Addr) (v1 : Int64) (e2_ : Addr) (v2 : Int64) (h0 : Heap) (n0 : Nat) (Z0 : n0 ≤ h0.size) (E0_a : Exa Z h0 a "nearhop/model/Block") (F1_a_members : Fld Z h0 a "nearhop/model/Block" "members" "Ljava/util/List;" (.ref al)) (F2_a_owner : Fld Z h0 a "nearhop/model/Block" "owner" "Lnearhop/model/Id;" (.ref ow)) (F3_a_withShared : Fld Z h0 a "nearhop/model/Block" "withShared" "[I" (.ref wv)) (F4_a_depth : Fld Z h0 a "nearhop/model/Block" "depth" "I" (.int (0 : Int32))) (E5_ow : Exa Z h0 ow "nearhop/model/Id") (E6_b : Exa Z h0 b "nearhop/model/Id") (HNo : b ≠ ow) (F8_ow_space : Fld Z h0 ow "nearhop/model/Id" "space" "Lnearhop/model/IdSpace;" (.ref sp)) (F9_ow_high : Fld Z h0 ow "nearhop/model/Id" "high" "J" (.long (0 : Int64))) (F10_ow_low : Fld Z h0 ow "nearhop/model/Id" "low" "J" (.long w_)) (F11_b_space : Fld Z h0 b "nearhop/model/Id" "space" "Lnearhop/model/IdSpace;" (.ref sp)) (F12_b_high : Fld Z h0 b "nearhop/model/Id" "high" "J" (.long (0 : Int64))) (F13_b_low : Fld Z h0 b "nearhop/model/Id" "low" "J" (.long y_)) (E14_sp : Exa Z h0 sp "nearhop/model/IdSpace") (F15_sp_base : Fld Z h0 sp "nearhop/model/IdSpace" "base" "I" (.int x_)) (F16_sp_digits : Fld Z h0 sp "nearhop/model/IdSpace" "digits" "I" (.int dg)) (HB : own_bb x_ bp) (E18_al : Exa Z h0 al "java/util/ArrayList") (F19_al_size : Fld Z h0 al "java/util/ArrayList" "size" "I" (.int (2 : Int32))) (F20_al_elementData : Fld Z h0 al "java/util/ArrayList" "elementData" "[Ljava/lang/Object;" (.ref nb)) (A21_nb : Arw Z h0 nb kb (.object "java/lang/Object") 10 f) (Hf0 : f 0 = .ref e1_) (HNa0 : b ≠ e1_) (E24_e1_ : Exa Z h0 e1_ "nearhop/model/Id") (F25_e1__space : Fld Z h0 e1_ "nearhop/model/Id" "space" "Lnearhop/model/IdSpace;" (.ref sp)) (F26_e1__high : Fld Z h0 e1_ "nearhop/model/Id" "high" "J" (.long (0 : Int64))) (F27_e1__low : Fld Z h0 e1_ "nearhop/model/Id" "low" "J" (.long v1)) (Hf1 : f 1 = .ref e2_) (HNa1 : b ≠ e2_) (E30_e2_ : Exa Z h0 e2_ "nearhop/model/Id") (F31_e2__space : Fld Z h0 e2_ "nearhop/model/Id" "space" "Lnearhop/model/IdSpace;" (.ref sp)) (F32_e2__high : Fld Z h0 e2_ "nearhop/model/Id" "high" "J" (.long (0 : Int64))) (F33_e2__low : Fld Z h0 e2_ "nearhop/model/Id" "low" "J" (.long v2)) (HP0 : ¬ (if (w_ ^^^ y_) = (0 : Int64) then dg else (((64 : Int32) + (own_nlzL (w_ ^^^ y_))) - ((128 : Int32) - (dg * bp))) / bp) < (0 : Int32)) (Hne : ¬ y_ = w_) (Hin : ¬ (if y_ = v1 then (1 : Int32) else (if y_ = v2 then (1 : Int32) else (0 : Int32))) = (0 : Int32)) :
    MetFree l (⟨"nearhop/model/Block", "add", "(Lnearhop/model/Id;)Z"⟩ : MethodName) (head1 (Jvm.Cond.code (⟨"nearhop/model/Block", "add", "(Lnearhop/model/Id;)Z"⟩ : MethodName) prog_74_method_6_code 2 (some .boolean) :: ws) ({ frames := 5, cells := 0, slots := 0, locals := 71 } : Room)) (fun as_ U_ => as_ = #[(.ref a), (.ref b)] ∧ Z.Warmed39 U_.vm ∧ U_.heap = h0) (fun _ _ _ _ _ => True) (fun _ U_ o_ V_ => ∃ v_ L_, o_ = .returned v_ ∧ QrmAddI2 Z a b al ow wv sp w_ y_ x_ dg bp nb kb f e1_ v1 e2_ v2 h0 n0 v_ V_.heap L_ ∧ FrameEnd U_ o_ V_ L_ ({ frames := 5, cells := 0, slots := 0, locals := 71 } : Room).cells ({ frames := 5, cells := 0, slots := 0, locals := 71 } : Room).slots) := by
  refine MetFree.of_bodySF (plainFor_of_name pn_nearhop_model_Block) hisR ?_
  intro p e s m args below meth c s₁ Bd hml0 hP hK
  obtain ⟨rfl, hZ, hh⟩ := hP
  have hx := Bd.exec
  have hby := Bd.bytes
  have hlk : meth.locks = false := BodyLoose.notSynchronized Bd
  have hret := Bd.returns
  have hml : c.maxLocals = 2 := hml0
  have hown : s.vm.findClass "nearhop/model/Block" = some m.cls := findClass_of_methodNamed Bd.named
  have hnm := (name_of_methodNamed Bd.named Bd.method).1
  have X0 : Stand p l e ({ frames := 5, cells := 0, slots := 0, locals := 71 } : Room) s m #[(.ref a), (.ref b)] below meth c s₁ [] 0 0 := Stand.of_body Bd
  have e0 : s₁.heap = h0 := by rw [← hh, Bd.state]; rfl
  have N0 := Fr.nil n0
  show Goes p e below (Fin_ s (QrmAddI2 Z a b al ow wv sp w_ y_ x_ dg bp nb kb f e1_ v1 e2_ v2 h0 n0) ({ frames := 5, cells := 0, slots := 0, locals := 71 } : Room).cells ({ frames := 5, cells := 0, slots := 0, locals := 71 } : Room).slots) (s₁.setTop (entryFrame m #[(.ref a), (.ref b)] 2))
  rw [ef_rmAddI2 m a b]
  refine gALN X0 hx hby d16_0 rfl rfl ?_
  refine gALN X0 hx hby d16_1 rfl rfl ?_
  obtain ⟨T23, X23, e23, st23⟩ := getF X0 hx hZ hown (host := "") (Or.inl (own_w hw 86 rfl)) Via.refl e0 F2_a_owner (g := (mkF m 2 #[vr a, vr b] [(.ref a), (.ref b)])) rfl rfl (hb hby d16_2)
  refine Goes.via st23 ?_
  show Goes p e below _ (T23.setTop (mkF m 5 #[vr a, vr b] [(.ref ow), (.ref b)]))
  obtain ⟨cq24, kq24, q24a, q24b, q24c⟩ := isOf hZ e23 E6_b
  obtain ⟨_, _, ⟨T24, L24, k24, n24⟩, -, X24, ⟨Lc24, hQ24, l24, y24, z24⟩, st24⟩ := X23.virtualBack hx (y := mN_Id_equals) (z := mN_Id_equals) hown (mvT hZ (own_w hw 106 rfl)) (mvT hZ (own_w hw 107 rfl)) (notFace_of_selects (args := #[]) (mvT hZ (own_w hw 109 rfl))) (mvT hZ (own_w hw 109 rfl)) (mvT hZ (own_w hw 108 rfl)) (by decide) (backOf (W := 0) (rmEq l Z a0 hw [] b ow sp y_ w_ h0 n0 (Nat.le_trans Z0 (Nat.le_refl _)) HNo E5_ow F11_b_space F12_b_high F13_b_low F8_ow_space F9_ow_high F10_ow_low) hZ (own_w hw 110 rfl) (own_w hw 29 rfl) (by decide) (by decide)) q24a q24c (g := (mkF m 5 #[vr a, vr b] [(.ref ow), (.ref b)])) rfl (by rw [hml]; rfl) (Steps.refl _) (argsL := [(.ref ow)]) (rest := []) (lenOf pd_12 rfl) rfl (by show 2 * 0 + _ ≤ _; exact Nat.le_of_eq rfl) (hb hby d16_5) (fun _ _ => ⟨rfl, e23, (by decide : 0 + 0 ≤ _), (by decide : 0 + 0 ≤ _)⟩)
  dsimp only [Pt.U, Pt.locs, Pt.cells, Pt.slots] at X24 l24 y24 z24 st24 hQ24
  replace l24 := l24.symm
  subst l24 y24 z24
  obtain ⟨rfl, rfl, e24⟩ := hQ24
  first | rw [List.append_nil] at X24 | skip
  refine Goes.tr st24 ?_
  have e24' : T24.heap = h0 := e24
  show Goes p e below _ (T24.setTop (mkF m 8 #[vr a, vr b] [(.int (if y_ = w_ then (1 : Int32) else (0 : Int32)))]))
  have hc8_25 : (if y_ = w_ then (1 : Int32) else (0 : Int32)) = (0 : Int32) := (if_neg Hne)
  refine Goes.via (fun _ kk_ => XS.ifNo X24.here hx rfl (hb hby d16_8) rfl ((if0 _ _).trans (teq hc8_25).2) kk_) ?_
  show Goes p e below _ (T24.setTop (mkF m 11 #[vr a, vr b] []))
  refine gALN X24 hx hby d16_11 rfl rfl ?_
  refine gALN X24 hx hby d16_12 rfl rfl ?_
  obtain ⟨cq26, q26, q26'⟩ := E0_a.cell
  obtain ⟨_, _, ⟨T26, L26, k26, n26⟩, -, X26, ⟨Lc26, hQ26, l26, y26, z26⟩, st26⟩ := X24.privateBack hx (y := mN_Block_fits) hown (mvT hZ (own_w hw 113 rfl)) (mvT hZ (own_w hw 114 rfl)) (mvT hZ (own_selP (y := mN_Block_fits) (own_w hw 25 rfl) (own_w hw 115 rfl) (own_w hw 114 rfl) (by decide))) (Cond.privateMethod_at (mvP hZ (own_w hw 115 rfl) (args := #[]))) (mvT hZ (own_w hw 116 rfl)) (by decide) (backOf (W := 0) (rm18 l Z a0 hw [] a b ow sp w_ y_ x_ dg bp h0 n0 (Nat.le_trans Z0 (Nat.le_refl _)) F2_a_owner F4_a_depth E5_ow F8_ow_space F9_ow_high F10_ow_low F11_b_space F12_b_high F13_b_low E14_sp F15_sp_base F16_sp_digits HB HP0) hZ (own_w hw 116 rfl) (own_w hw 26 rfl) (by decide) (by decide)) (g := (mkF m 13 #[vr a, vr b] [(.ref b), (.ref a)])) rfl (by rw [hml]; rfl) (Steps.refl _) (a := a) (by rw [e24']; exact q26) q26' (argsL := [(.ref b)]) (rest := []) (lenOf pd_14 rfl) rfl (by show 2 * 0 + _ ≤ _; exact Nat.le_of_eq rfl) (hb hby d16_13) (fun _ _ => ⟨rfl, e24', (by decide : 0 + 0 ≤ _), (by decide : 0 + 0 ≤ _)⟩)
  dsimp only [Pt.U, Pt.locs, Pt.cells, Pt.slots] at X26 l26 y26 z26 st26 hQ26
  replace l26 := l26.symm
  subst l26 y26 z26
  obtain ⟨rfl, rfl, e26⟩ := hQ26
  first | rw [List.append_nil] at X26 | skip
  refine Goes.tr st26 ?_
  have e26' : T26.heap = h0 := e26
  show Goes p e below _ (T26.setTop (mkF m 16 #[vr a, vr b] [(.int (1 : Int32))]))
  have hc16_27 : ¬ ((1 : Int32) = (0 : Int32)) := (by decide)
  refine Goes.via (fun _ kk_ => XS.ifNo X26.here hx rfl (hb hby d16_16) rfl ((if0 _ _).trans (feq hc16_27).1) kk_) ?_
  show Goes p e below _ (T26.setTop (mkF m 19 #[vr a, vr b] []))
  refine gALN X26 hx hby d16_19 rfl rfl ?_
  refine gALN X26 hx hby d16_20 rfl rfl ?_
  obtain ⟨T28, X28, e28, st28⟩ := getF X26 hx hZ hown (host := "") (Or.inl (own_w hw 84 rfl)) Via.refl e26' F1_a_members (g := (mkF m 21 #[vr a, vr b] [(.ref a), (.ref b)])) rfl rfl (hb hby d16_21)
  refine Goes.via st28 ?_
  show Goes p e below _ (T28.setTop (mkF m 24 #[vr a, vr b] [(.ref al), (.ref b)]))
  obtain ⟨cq29, kq29, q29a, q29b, q29c⟩ := isOf hZ e28 E6_b
  obtain ⟨_, _, ⟨T29, L29, k29, n29⟩, -, X29, ⟨Lc29, hQ29, l29, y29, z29⟩, st29⟩ := X28.virtualBack hx (y := mN_Id_isIn) (z := mN_Id_isIn) hown (mvT hZ (own_w hw 132 rfl)) (mvT hZ (own_w hw 133 rfl)) (notFace_of_selects (args := #[]) (mvT hZ (own_w hw 135 rfl))) (mvT hZ (own_w hw 135 rfl)) (mvT hZ (own_w hw 134 rfl)) (by decide) (backOf (W := 0) (rmIn2 l Z a0 hw [] b al sp y_ nb kb f e1_ v1 e2_ v2 h0 n0 (Nat.le_trans Z0 (Nat.le_refl _)) E18_al F19_al_size E6_b F11_b_space F12_b_high F13_b_low F20_al_elementData A21_nb Hf0 HNa0 E24_e1_ F25_e1__space F26_e1__high F27_e1__low Hf1 HNa1 E30_e2_ F31_e2__space F32_e2__high F33_e2__low) hZ (own_w hw 136 rfl) (own_w hw 29 rfl) (by decide) (by decide)) q29a q29c (g := (mkF m 24 #[vr a, vr b] [(.ref al), (.ref b)])) rfl (by rw [hml]; rfl) (Steps.refl _) (argsL := [(.ref al)]) (rest := []) (lenOf pd_15 rfl) rfl (by show 2 * 0 + _ ≤ _; exact Nat.le_of_eq rfl) (hb hby d16_24) (fun _ _ => ⟨rfl, e28, (by decide : 0 + 0 ≤ _), (by decide : 0 + 0 ≤ _)⟩)
  dsimp only [Pt.U, Pt.locs, Pt.cells, Pt.slots] at X29 l29 y29 z29 st29 hQ29
  replace l29 := l29.symm
  subst l29 y29 z29
  obtain ⟨rfl, rfl, e29⟩ := hQ29
  first | rw [List.append_nil] at X29 | skip
  refine Goes.tr st29 ?_
  have e29' : T29.heap = h0 := e29
  show Goes p e below _ (T29.setTop (mkF m 27 #[vr a, vr b] [(.int (if y_ = v1 then (1 : Int32) else (if y_ = v2 then (1 : Int32) else (0 : Int32))))]))
  have hc27_30 : ¬ ((if y_ = v1 then (1 : Int32) else (if y_ = v2 then (1 : Int32) else (0 : Int32))) = (0 : Int32)) := Hin
  refine Goes.via (fun _ kk_ => XS.ifNo X29.here hx rfl (hb hby d16_27) rfl ((if0 _ _).trans (feq hc27_30).1) kk_) ?_
  show Goes p e below _ (T29.setTop (mkF m 30 #[vr a, vr b] []))
  refine gIC (z := 0) X29 hx hby d16_30 rfl ?_
  exact own_finN X29 hx hlk hret (by simp) (hb hby d16_31) (by rw [e29']; exact ⟨rfl, rfl, rfl⟩) (by first | decide | omega | (dsimp only; omega)) (by first | decide | omega | (dsimp only; omega))
theorem ef_rmAddY0 (m : MethodId) (a : Addr) (b : Addr) : entryFrame m #[(.ref a), (.ref b)] 2 = mkF m 0 #[.val (.ref a), .val (.ref b)] [] := by first | (simp [entryFrame, mkF, argsToLocals, Value.category]; done) | rfl
def QrmAddY0 (Z : State) (a : Addr) (b : Addr) (al : Addr) (ow : Addr) (wv : Addr) (sp : Addr) (w_ : Int64) (y_ : Int64) (x_ : Int32) (dg : Int32) (bp : Int32) (kw : ClassId) (nd : Nat) (gw : Nat → Value) (pn : Nat) (c_ : Int32) (mc : Int32) (ed : Addr) (kE : ClassId) (fE : Nat → Value) (h0 : Heap) (n0 : Nat) (v_ : Option Value) (h_ : Heap) (L_ : List Loc) : Prop := ∃ nb : Addr, ∃ kb : ClassId, v_ = some (.int (1 : Int32)) ∧ Fr n0 L_ ∧ Keep h0 h_ [al, wv] ∧ Exa Z h_ al "java/util/ArrayList" ∧ Fld Z h_ al "java/util/ArrayList" "elementData" "[Ljava/lang/Object;" (.ref nb) ∧ Fld Z h_ al "java/util/ArrayList" "size" "I" (.int (1 : Int32)) ∧ Fld Z h_ al "java/util/AbstractList" "modCount" "I" (.int (mc + (1 : Int32))) ∧ h0.size ≤ nb ∧ Arw Z h_ nb kb (.object "java/lang/Object") 10 (own_upd (fun _ => .null) 0 (.ref b)) ∧ Ovr Z kb "java/lang/Object" ∧ Arw Z h_ wv kw .int nd (own_upd gw pn (.int (c_ + (1 : Int32))))
theorem d16_32 : decode prog_74_method_6_code 32 = .ok (.aload_n 0, 1) := by decide +kernel
theorem d16_33 : decode prog_74_method_6_code 33 = .ok (.getfield 10, 3) := by decide +kernel
theorem d16_36 : decode prog_74_method_6_code 36 = .ok (.aload_n 1, 1) := by decide +kernel
theorem d16_37 : decode prog_74_method_6_code 37 = .ok (.invokeinterface 58 2, 5) := by decide +kernel
abbrev mN_List_add : MethodName := ⟨"java/util/List", "add", "(Ljava/lang/Object;)Z"⟩
abbrev mN_ArrayList_add_1 : MethodName := ⟨"java/util/ArrayList", "add", "(Ljava/lang/Object;)Z"⟩
theorem d16_42 : decode prog_74_method_6_code 42 = .ok (.pop, 1) := by decide +kernel
theorem d16_43 : decode prog_74_method_6_code 43 = .ok (.aload_n 0, 1) := by decide +kernel
theorem d16_44 : decode prog_74_method_6_code 44 = .ok (.getfield 32, 3) := by decide +kernel
theorem d16_47 : decode prog_74_method_6_code 47 = .ok (.aload_n 0, 1) := by decide +kernel
theorem d16_48 : decode prog_74_method_6_code 48 = .ok (.getfield 16, 3) := by decide +kernel
theorem d16_51 : decode prog_74_method_6_code 51 = .ok (.aload_n 1, 1) := by decide +kernel
theorem d16_52 : decode prog_74_method_6_code 52 = .ok (.invokevirtual 63, 3) := by decide +kernel
theorem d16_55 : decode prog_74_method_6_code 55 = .ok (.dup2, 1) := by decide +kernel
theorem d16_56 : decode prog_74_method_6_code 56 = .ok (.iaload, 1) := by decide +kernel
theorem d16_57 : decode prog_74_method_6_code 57 = .ok (.iconst 1, 1) := by decide +kernel
theorem d16_58 : decode prog_74_method_6_code 58 = .ok (.iadd, 1) := by decide +kernel
theorem d16_59 : decode prog_74_method_6_code 59 = .ok (.iastore, 1) := by decide +kernel
theorem d16_60 : decode prog_74_method_6_code 60 = .ok (.iconst 1, 1) := by decide +kernel
theorem d16_61 : decode prog_74_method_6_code 61 = .ok (.ireturn, 1) := by decide +kernel
set_option maxRecDepth 65536 in
set_option maxHeartbeats 40000000 in
theorem rmAddY0 (l : Launch) (Z : State) (a0 : Array Value) (hw : ∀ d ∈ tables_1, d.before a0 Z = true) (ws : List Jvm.Cond) (a : Addr) (b : Addr) (al : Addr) (ow : Addr) (wv : Addr) (sp : Addr) (w_ : Int64) (y_ : Int64) (x_ : Int32) (dg : Int32) (bp : Int32) (kw : ClassId) (nd : Nat) (gw : Nat → Value) (pn : Nat) (c_ : Int32) (mc : Int32) (ed : Addr) (kE : ClassId) (fE : Nat → Value) (h0 : Heap) (n0 : Nat) (Z0 : n0 ≤ h0.size) (E0_a : Exa Z h0 a "nearhop/model/Block") (F1_a_members : Fld Z h0 a "nearhop/model/Block" "members" "Ljava/util/List;" (.ref al)) (F2_a_owner : Fld Z h0 a "nearhop/model/Block" "owner" "Lnearhop/model/Id;" (.ref ow)) (F3_a_withShared : Fld Z h0 a "nearhop/model/Block" "withShared" "[I" (.ref wv)) (F4_a_depth : Fld Z h0 a "nearhop/model/Block" "depth" "I" (.int (0 : Int32))) (E5_ow : Exa Z h0 ow "nearhop/model/Id") (E6_b : Exa Z h0 b "nearhop/model/Id") (HNo : b ≠ ow) (F8_ow_space : Fld Z h0 ow "nearhop/model/Id" "space" "Lnearhop/model/IdSpace;" (.ref sp)) (F9_ow_high : Fld Z h0 ow "nearhop/model/Id" "high" "J" (.long (0 : Int64))) (F10_ow_low : Fld Z h0 ow "nearhop/model/Id" "low" "J" (.long w_)) (F11_b_space : Fld Z h0 b "nearhop/model/Id" "space" "Lnearhop/model/IdSpace;" (.ref sp)) (F12_b_high : Fld Z h0 b "nearhop/model/Id" "high" "J" (.long (0 : Int64))) (F13_b_low : Fld Z h0 b "nearhop/model/Id" "low" "J" (.long y_)) (E14_sp : Exa Z h0 sp "nearhop/model/IdSpace") (F15_sp_base : Fld Z h0 sp "nearhop/model/IdSpace" "base" "I" (.int x_)) (F16_sp_digits : Fld Z h0 sp "nearhop/model/IdSpace" "digits" "I" (.int dg)) (HB : own_bb x_ bp) (E18_al : Exa Z h0 al "java/util/ArrayList") (F19_al_elementData : Fld Z h0 al "java/util/ArrayList" "elementData" "[Ljava/lang/Object;" (.ref ed)) (F20_al_size : Fld Z h0 al "java/util/ArrayList" "size" "I" (.int (0 : Int32))) (F21_al_modCount : Fld Z h0 al "java/util/AbstractList" "modCount" "I" (.int mc)) (Hne : ¬ y_ = w_) (A23_wv : Arw Z h0 wv kw .int nd gw) (Hc : gw pn = .int c_) (HP : ((if (w_ ^^^ y_) = (0 : Int64) then dg else (((64 : Int32) + (own_nlzL (w_ ^^^ y_))) - ((128 : Int32) - (dg * bp))) / bp)).toInt = (pn : Int)) (Hpn : pn < nd) (H27 : n0 ≤ al) (H28 : n0 ≤ wv) (HP0 : ¬ (if (w_ ^^^ y_) = (0 : Int64) then dg else (((64 : Int32) + (own_nlzL (w_ ^^^ y_))) - ((128 : Int32) - (dg * bp))) / bp) < (0 : Int32)) (HNw : al ≠ wv) (A31_ed : Arw Z h0 ed kE (.object "java/lang/Object") 0 fE) (S32_java_util_ArrayList_DEFAULTCAPACITY_EMPTY_ELEMENTDATA_DEFAULTCAPACITY_EMPTY_ELEMENTDATA : Sta Z h0 "java/util/ArrayList" "DEFAULTCAPACITY_EMPTY_ELEMENTDATA" "[Ljava/lang/Object;" (.ref ed)) :
    MetFree l (⟨"nearhop/model/Block", "add", "(Lnearhop/model/Id;)Z"⟩ : MethodName) (head1 (Jvm.Cond.code (⟨"nearhop/model/Block", "add", "(Lnearhop/model/Id;)Z"⟩ : MethodName) prog_74_method_6_code 2 (some .boolean) :: ws) ({ frames := 5, cells := 1, slots := 10, locals := 71 } : Room)) (fun as_ U_ => as_ = #[(.ref a), (.ref b)] ∧ Z.Warmed39 U_.vm ∧ U_.heap = h0) (fun _ _ _ _ _ => True) (fun _ U_ o_ V_ => ∃ v_ L_, o_ = .returned v_ ∧ QrmAddY0 Z a b al ow wv sp w_ y_ x_ dg bp kw nd gw pn c_ mc ed kE fE h0 n0 v_ V_.heap L_ ∧ FrameEnd U_ o_ V_ L_ ({ frames := 5, cells := 1, slots := 10, locals := 71 } : Room).cells ({ frames := 5, cells := 1, slots := 10, locals := 71 } : Room).slots) := by
  refine MetFree.of_bodySF (plainFor_of_name pn_nearhop_model_Block) hisR ?_
  intro p e s m args below meth c s₁ Bd hml0 hP hK
  obtain ⟨rfl, hZ, hh⟩ := hP
  have hx := Bd.exec
  have hby := Bd.bytes
  have hlk : meth.locks = false := BodyLoose.notSynchronized Bd
  have hret := Bd.returns
  have hml : c.maxLocals = 2 := hml0
  have hown : s.vm.findClass "nearhop/model/Block" = some m.cls := findClass_of_methodNamed Bd.named
  have hnm := (name_of_methodNamed Bd.named Bd.method).1
  have X0 : Stand p l e ({ frames := 5, cells := 1, slots := 10, locals := 71 } : Room) s m #[(.ref a), (.ref b)] below meth c s₁ [] 0 0 := Stand.of_body Bd
  have e0 : s₁.heap = h0 := by rw [← hh, Bd.state]; rfl
  have N0 := Fr.nil n0
  show Goes p e below (Fin_ s (QrmAddY0 Z a b al ow wv sp w_ y_ x_ dg bp kw nd gw pn c_ mc ed kE fE h0 n0) ({ frames := 5, cells := 1, slots := 10, locals := 71 } : Room).cells ({ frames := 5, cells := 1, slots := 10, locals := 71 } : Room).slots) (s₁.setTop (entryFrame m #[(.ref a), (.ref b)] 2))
  rw [ef_rmAddY0 m a b]
  have ne4 : a ≠ al := ne_exa E0_a E18_al (by decide)
  have ne8 : ow ≠ al := ne_exa E5_ow E18_al (by decide)
  have ne12 : b ≠ al := ne_exa E6_b E18_al (by decide)
  have ne15 : sp ≠ al := ne_exa E14_sp E18_al (by decide)
  refine gALN X0 hx hby d16_0 rfl rfl ?_
  refine gALN X0 hx hby d16_1 rfl rfl ?_
  obtain ⟨T19, X19, e19, st19⟩ := getF X0 hx hZ hown (host := "") (Or.inl (own_w hw 86 rfl)) Via.refl e0 F2_a_owner (g := (mkF m 2 #[vr a, vr b] [(.ref a), (.ref b)])) rfl rfl (hb hby d16_2)
  refine Goes.via st19 ?_
  show Goes p e below _ (T19.setTop (mkF m 5 #[vr a, vr b] [(.ref ow), (.ref b)]))
  obtain ⟨cq20, kq20, q20a, q20b, q20c⟩ := isOf hZ e19 E6_b
  obtain ⟨_, _, ⟨T20, L20, k20, n20⟩, -, X20, ⟨Lc20, hQ20, l20, y20, z20⟩, st20⟩ := X19.virtualBack hx (y := mN_Id_equals) (z := mN_Id_equals) hown (mvT hZ (own_w hw 106 rfl)) (mvT hZ (own_w hw 107 rfl)) (notFace_of_selects (args := #[]) (mvT hZ (own_w hw 109 rfl))) (mvT hZ (own_w hw 109 rfl)) (mvT hZ (own_w hw 108 rfl)) (by decide) (backOf (W := 0) (rmEq l Z a0 hw [] b ow sp y_ w_ h0 n0 (Nat.le_trans Z0 (Nat.le_refl _)) HNo E5_ow F11_b_space F12_b_high F13_b_low F8_ow_space F9_ow_high F10_ow_low) hZ (own_w hw 110 rfl) (own_w hw 29 rfl) (by decide) (by decide)) q20a q20c (g := (mkF m 5 #[vr a, vr b] [(.ref ow), (.ref b)])) rfl (by rw [hml]; rfl) (Steps.refl _) (argsL := [(.ref ow)]) (rest := []) (lenOf pd_12 rfl) rfl (by show 2 * 0 + _ ≤ _; exact Nat.le_of_eq rfl) (hb hby d16_5) (fun _ _ => ⟨rfl, e19, (by decide : 0 + 0 ≤ _), (by decide : 0 + 0 ≤ _)⟩)
  dsimp only [Pt.U, Pt.locs, Pt.cells, Pt.slots] at X20 l20 y20 z20 st20 hQ20
  replace l20 := l20.symm
  subst l20 y20 z20
  obtain ⟨rfl, rfl, e20⟩ := hQ20
  first | rw [List.append_nil] at X20 | skip
  refine Goes.tr st20 ?_
  have e20' : T20.heap = h0 := e20
  show Goes p e below _ (T20.setTop (mkF m 8 #[vr a, vr b] [(.int (if y_ = w_ then (1 : Int32) else (0 : Int32)))]))
  have hc8_21 : (if y_ = w_ then (1 : Int32) else (0 : Int32)) = (0 : Int32) := (if_neg Hne)
  refine Goes.via (fun _ kk_ => XS.ifNo X20.here hx rfl (hb hby d16_8) rfl ((if0 _ _).trans (teq hc8_21).2) kk_) ?_
  show Goes p e below _ (T20.setTop (mkF m 11 #[vr a, vr b] []))
  refine gALN X20 hx hby d16_11 rfl rfl ?_
  refine gALN X20 hx hby d16_12 rfl rfl ?_
  obtain ⟨cq22, q22, q22'⟩ := E0_a.cell
  obtain ⟨_, _, ⟨T22, L22, k22, n22⟩, -, X22, ⟨Lc22, hQ22, l22, y22, z22⟩, st22⟩ := X20.privateBack hx (y := mN_Block_fits) hown (mvT hZ (own_w hw 113 rfl)) (mvT hZ (own_w hw 114 rfl)) (mvT hZ (own_selP (y := mN_Block_fits) (own_w hw 25 rfl) (own_w hw 115 rfl) (own_w hw 114 rfl) (by decide))) (Cond.privateMethod_at (mvP hZ (own_w hw 115 rfl) (args := #[]))) (mvT hZ (own_w hw 116 rfl)) (by decide) (backOf (W := 0) (rm18 l Z a0 hw [] a b ow sp w_ y_ x_ dg bp h0 n0 (Nat.le_trans Z0 (Nat.le_refl _)) F2_a_owner F4_a_depth E5_ow F8_ow_space F9_ow_high F10_ow_low F11_b_space F12_b_high F13_b_low E14_sp F15_sp_base F16_sp_digits HB HP0) hZ (own_w hw 116 rfl) (own_w hw 26 rfl) (by decide) (by decide)) (g := (mkF m 13 #[vr a, vr b] [(.ref b), (.ref a)])) rfl (by rw [hml]; rfl) (Steps.refl _) (a := a) (by rw [e20']; exact q22) q22' (argsL := [(.ref b)]) (rest := []) (lenOf pd_14 rfl) rfl (by show 2 * 0 + _ ≤ _; exact Nat.le_of_eq rfl) (hb hby d16_13) (fun _ _ => ⟨rfl, e20', (by decide : 0 + 0 ≤ _), (by decide : 0 + 0 ≤ _)⟩)
  dsimp only [Pt.U, Pt.locs, Pt.cells, Pt.slots] at X22 l22 y22 z22 st22 hQ22
  replace l22 := l22.symm
  subst l22 y22 z22
  obtain ⟨rfl, rfl, e22⟩ := hQ22
  first | rw [List.append_nil] at X22 | skip
  refine Goes.tr st22 ?_
  have e22' : T22.heap = h0 := e22
  show Goes p e below _ (T22.setTop (mkF m 16 #[vr a, vr b] [(.int (1 : Int32))]))
  have hc16_23 : ¬ ((1 : Int32) = (0 : Int32)) := (by decide)
  refine Goes.via (fun _ kk_ => XS.ifNo X22.here hx rfl (hb hby d16_16) rfl ((if0 _ _).trans (feq hc16_23).1) kk_) ?_
  show Goes p e below _ (T22.setTop (mkF m 19 #[vr a, vr b] []))
  refine gALN X22 hx hby d16_19 rfl rfl ?_
  refine gALN X22 hx hby d16_20 rfl rfl ?_
  obtain ⟨T24, X24, e24, st24⟩ := getF X22 hx hZ hown (host := "") (Or.inl (own_w hw 84 rfl)) Via.refl e22' F1_a_members (g := (mkF m 21 #[vr a, vr b] [(.ref a), (.ref b)])) rfl rfl (hb hby d16_21)
  refine Goes.via st24 ?_
  show Goes p e below _ (T24.setTop (mkF m 24 #[vr a, vr b] [(.ref al), (.ref b)]))
  obtain ⟨cq25, kq25, q25a, q25b, q25c⟩ := isOf hZ e24 E6_b
  obtain ⟨_, _, ⟨T25, L25, k25, n25⟩, -, X25, ⟨Lc25, hQ25, l25, y25, z25⟩, st25⟩ := X24.virtualBack hx (y := mN_Id_isIn) (z := mN_Id_isIn) hown (mvT hZ (own_w hw 132 rfl)) (mvT hZ (own_w hw 133 rfl)) (notFace_of_selects (args := #[]) (mvT hZ (own_w hw 135 rfl))) (mvT hZ (own_w hw 135 rfl)) (mvT hZ (own_w hw 134 rfl)) (by decide) (backOf (W := 0) (rmIn0 l Z a0 hw [] b al sp y_ h0 n0 (Nat.le_trans Z0 (Nat.le_refl _)) E18_al F20_al_size E6_b F11_b_space F12_b_high F13_b_low) hZ (own_w hw 136 rfl) (own_w hw 29 rfl) (by decide) (by decide)) q25a q25c (g := (mkF m 24 #[vr a, vr b] [(.ref al), (.ref b)])) rfl (by rw [hml]; rfl) (Steps.refl _) (argsL := [(.ref al)]) (rest := []) (lenOf pd_15 rfl) rfl (by show 2 * 0 + _ ≤ _; exact Nat.le_of_eq rfl) (hb hby d16_24) (fun _ _ => ⟨rfl, e24, (by decide : 0 + 0 ≤ _), (by decide : 0 + 0 ≤ _)⟩)
  dsimp only [Pt.U, Pt.locs, Pt.cells, Pt.slots] at X25 l25 y25 z25 st25 hQ25
  replace l25 := l25.symm
  subst l25 y25 z25
  obtain ⟨rfl, rfl, e25⟩ := hQ25
  first | rw [List.append_nil] at X25 | skip
  refine Goes.tr st25 ?_
  have e25' : T25.heap = h0 := e25
  show Goes p e below _ (T25.setTop (mkF m 27 #[vr a, vr b] [(.int (0 : Int32))]))
  have hc27_26 : (0 : Int32) = (0 : Int32) := (by decide)
  refine Goes.via (fun _ kk_ => XS.ifYes X25.here hx rfl (pc0 := 27) (pc' := 32) rfl (hb hby d16_27) rfl ((if0 _ _).trans (teq hc27_26).1) (by decide) (by decide) kk_) ?_
  show Goes p e below _ (T25.setTop (mkF m 32 #[vr a, vr b] []))
  refine gALN X25 hx hby d16_32 rfl rfl ?_
  obtain ⟨T27, X27, e27, st27⟩ := getF X25 hx hZ hown (host := "") (Or.inl (own_w hw 84 rfl)) Via.refl e25' F1_a_members (g := (mkF m 33 #[vr a, vr b] [(.ref a)])) rfl rfl (hb hby d16_33)
  refine Goes.via st27 ?_
  show Goes p e below _ (T27.setTop (mkF m 36 #[vr a, vr b] [(.ref al)]))
  refine gALN X27 hx hby d16_36 rfl rfl ?_
  obtain ⟨cq28, kq28, q28a, q28b, q28c⟩ := isOf hZ e27 E18_al
  obtain ⟨_, _, ⟨T28, L28, k28, n28⟩, -, X28, ⟨Lc28, hQ28, l28, y28, z28⟩, st28⟩ := X27.interfaceBack hx (xi := mN_List_add) (y := mN_ArrayList_add_1) hown (mvT hZ (own_w hw 148 rfl)) (mvT hZ (own_w hw 149 rfl)) (mvT hZ (own_w hw 150 rfl)) (mvT hZ (own_w hw 151 rfl)) (mvT hZ (own_w hw 152 rfl)) (mvT hZ (own_w hw 153 rfl)) (mvT hZ (own_w hw 154 rfl)) (mvT hZ (own_w hw 144 rfl)) (by decide) (backOf (W := 0) (rmL0 l Z a0 hw [] al b ed mc kE fE h0 n0 (Nat.le_trans Z0 (Nat.le_refl _)) E18_al F19_al_elementData F20_al_size F21_al_modCount H27 E6_b A31_ed S32_java_util_ArrayList_DEFAULTCAPACITY_EMPTY_ELEMENTDATA_DEFAULTCAPACITY_EMPTY_ELEMENTDATA) hZ (own_w hw 155 rfl) (own_w hw 62 rfl) (by decide) (by decide)) q28a q28b q28c (g := (mkF m 37 #[vr a, vr b] [(.ref b), (.ref al)])) rfl (by rw [hml]; rfl) (Steps.refl _) (argsL := [(.ref b)]) (rest := []) (lenOf pd_12 rfl) rfl (by show 2 * 0 + _ ≤ _; exact Nat.le_of_eq rfl) (hb hby d16_37) (fun _ _ => ⟨rfl, e27, (by decide : 0 + 1 ≤ _), (by decide : 0 + 10 ≤ _)⟩)
  dsimp only [Pt.U, Pt.locs, Pt.cells, Pt.slots] at X28 l28 y28 z28 st28 hQ28
  replace l28 := l28.symm
  subst l28 y28 z28
  obtain ⟨nb28, kb28, rfl, N28q, K28, u28_0, u28_1, u28_2, u28_3, u28_4, u28_5, u28_6⟩ := hQ28
  have N28 := Fr.app N0 N28q
  refine Goes.tr st28 ?_
  have ne33 : wv ≠ nb28 := Nat.ne_of_lt (Nat.lt_of_lt_of_le A23_wv.lt u28_4)
  have sz_nb28 : h0.size ≤ nb28 := Nat.le_trans (Nat.le_refl _) u28_4
  show Goes p e below _ (T28.setTop (mkF m 42 #[vr a, vr b] [(.int (1 : Int32))]))
  refine Goes.via (fun _ kk_ => XS.pop X28.here hx rfl (hb hby d16_42) rfl rfl kk_) ?_
  show Goes p e below _ (T28.setTop (mkF m 43 #[vr a, vr b] []))
  refine gALN X28 hx hby d16_43 rfl rfl ?_
  have f36 := (F3_a_withShared.keep K28 (ninS ne4 nin0))
  obtain ⟨T37, X37, e37, st37⟩ := getF X28 hx hZ hown (host := "") (Or.inl (own_w hw 99 rfl)) Via.refl rfl f36 (g := (mkF m 44 #[vr a, vr b] [(.ref a)])) rfl rfl (hb hby d16_44)
  refine Goes.via st37 ?_
  show Goes p e below _ (T37.setTop (mkF m 47 #[vr a, vr b] [(.ref wv)]))
  refine gALN X37 hx hby d16_47 rfl rfl ?_
  have f38 := (F2_a_owner.keep K28 (ninS ne4 nin0))
  obtain ⟨T39, X39, e39, st39⟩ := getF X37 hx hZ hown (host := "") (Or.inl (own_w hw 86 rfl)) Via.refl e37 f38 (g := (mkF m 48 #[vr a, vr b] [(.ref a), (.ref wv)])) rfl rfl (hb hby d16_48)
  refine Goes.via st39 ?_
  show Goes p e below _ (T39.setTop (mkF m 51 #[vr a, vr b] [(.ref ow), (.ref wv)]))
  refine gALN X39 hx hby d16_51 rfl rfl ?_
  have f40 := (F8_ow_space.keep K28 (ninS ne8 nin0))
  have f41 := (F9_ow_high.keep K28 (ninS ne8 nin0))
  have f42 := (F10_ow_low.keep K28 (ninS ne8 nin0))
  have f43 := (F11_b_space.keep K28 (ninS ne12 nin0))
  have f44 := (F12_b_high.keep K28 (ninS ne12 nin0))
  have f45 := (F13_b_low.keep K28 (ninS ne12 nin0))
  have f46 := (E14_sp.keep K28)
  have f47 := (F15_sp_base.keep K28 (ninS ne15 nin0))
  have f48 := (F16_sp_digits.keep K28 (ninS ne15 nin0))
  have z50 : h0.size ≤ (T28.heap).size := (Nat.le_trans (Nat.le_refl _) K28.1)
  have f51 := (E5_ow.keep K28)
  obtain ⟨cq49, kq49, q49a, q49b, q49c⟩ := isOf hZ e39 f51
  obtain ⟨_, _, ⟨T49, L49, k49, n49⟩, -, X49, ⟨Lc49, hQ49, l49, y49, z49⟩, st49⟩ := X39.virtualBack hx (y := mN_Id_sharedPrefixLength) (z := mN_Id_sharedPrefixLength) hown (mvT hZ (own_w hw 117 rfl)) (mvT hZ (own_w hw 118 rfl)) (notFace_of_selects (args := #[]) (mvT hZ (own_w hw 120 rfl))) (mvT hZ (own_w hw 120 rfl)) (mvT hZ (own_w hw 119 rfl)) (by decide) (backOf (W := 1) (rmPre l Z a0 hw [] ow b sp w_ y_ x_ dg bp T28.heap n0 (Nat.le_trans Z0 z50) f40 f41 f42 f43 f44 f45 f46 f47 f48 HB) hZ (own_w hw 121 rfl) (own_w hw 29 rfl) (by decide) (by decide)) q49a q49c (g := (mkF m 52 #[vr a, vr b] [(.ref b), (.ref ow), (.ref wv)])) rfl (by rw [hml]; rfl) (Steps.refl _) (argsL := [(.ref b)]) (rest := [(.ref wv)]) (lenOf pd_13 rfl) rfl (by show 2 * 0 + _ ≤ _; exact Nat.le_of_eq rfl) (hb hby d16_52) (fun _ _ => ⟨rfl, e39, (by decide : 1 + 0 ≤ _), (by decide : 10 + 0 ≤ _)⟩)
  dsimp only [Pt.U, Pt.locs, Pt.cells, Pt.slots] at X49 l49 y49 z49 st49 hQ49
  replace l49 := l49.symm
  subst l49 y49 z49
  obtain ⟨rfl, rfl, e49⟩ := hQ49
  first | rw [List.append_nil] at X49 | skip
  refine Goes.tr st49 ?_
  have e49' : T49.heap = T28.heap := e49
  show Goes p e below _ (T49.setTop (mkF m 55 #[vr a, vr b] [(.int (if (w_ ^^^ y_) = (0 : Int64) then dg else (((64 : Int32) + (own_nlzL (w_ ^^^ y_))) - ((128 : Int32) - (dg * bp))) / bp)), (.ref wv)]))
  refine Goes.via (fun _ kk_ => XT.dup2 X49.here hx rfl (hb hby d16_55) rfl rfl rfl kk_) ?_
  show Goes p e below _ (T49.setTop (mkF m 56 #[vr a, vr b] [(.int (if (w_ ^^^ y_) = (0 : Int64) then dg else (((64 : Int32) + (own_nlzL (w_ ^^^ y_))) - ((128 : Int32) - (dg * bp))) / bp)), (.ref wv), (.int (if (w_ ^^^ y_) = (0 : Int64) then dg else (((64 : Int32) + (own_nlzL (w_ ^^^ y_))) - ((128 : Int32) - (dg * bp))) / bp)), (.ref wv)]))
  have f52 := (A23_wv.keep K28 (ninS (Ne.symm HNw) nin0))
  refine Goes.via (own_iaload X49 hx hZ e49' f52 (j := (if (w_ ^^^ y_) = (0 : Int64) then dg else (((64 : Int32) + (own_nlzL (w_ ^^^ y_))) - ((128 : Int32) - (dg * bp))) / bp)) (i := pn) (own_ix HP).1 (own_ix HP).2 Hpn (v := c_) Hc (g := (mkF m 56 #[vr a, vr b] [(.int (if (w_ ^^^ y_) = (0 : Int64) then dg else (((64 : Int32) + (own_nlzL (w_ ^^^ y_))) - ((128 : Int32) - (dg * bp))) / bp)), (.ref wv), (.int (if (w_ ^^^ y_) = (0 : Int64) then dg else (((64 : Int32) + (own_nlzL (w_ ^^^ y_))) - ((128 : Int32) - (dg * bp))) / bp)), (.ref wv)])) rfl rfl (hb hby d16_56)) ?_
  show Goes p e below _ (T49.setTop (mkF m 57 #[vr a, vr b] [(.int c_), (.int (if (w_ ^^^ y_) = (0 : Int64) then dg else (((64 : Int32) + (own_nlzL (w_ ^^^ y_))) - ((128 : Int32) - (dg * bp))) / bp)), (.ref wv)]))
  refine gIC (z := 1) X49 hx hby d16_57 rfl ?_
  refine Goes.via (fun _ kk_ => XS.iadd X49.here hx rfl (hb hby d16_58) rfl kk_) ?_
  show Goes p e below _ (T49.setTop (mkF m 59 #[vr a, vr b] [(.int (c_ + (1 : Int32))), (.int (if (w_ ^^^ y_) = (0 : Int64) then dg else (((64 : Int32) + (own_nlzL (w_ ^^^ y_))) - ((128 : Int32) - (dg * bp))) / bp)), (.ref wv)]))
  obtain ⟨T53, h53, X53, e53, W53, A53, st53⟩ := own_iastore X49 hx hZ e49' f52 (j := (if (w_ ^^^ y_) = (0 : Int64) then dg else (((64 : Int32) + (own_nlzL (w_ ^^^ y_))) - ((128 : Int32) - (dg * bp))) / bp)) (i := pn) (own_ix HP).1 (own_ix HP).2 Hpn (g := (mkF m 59 #[vr a, vr b] [(.int (c_ + (1 : Int32))), (.int (if (w_ ^^^ y_) = (0 : Int64) then dg else (((64 : Int32) + (own_nlzL (w_ ^^^ y_))) - ((128 : Int32) - (dg * bp))) / bp)), (.ref wv)])) rfl rfl (hb hby d16_59)
  refine Goes.via st53 ?_
  have N53 := Fr.snoc X53 N28 H28
  show Goes p e below _ (T53.setTop (mkF m 60 #[vr a, vr b] []))
  refine gIC (z := 1) X53 hx hby d16_60 rfl ?_
  have K54 : Keep h0 h53 [al, wv] := (((Keep.refl h0 [al, wv]).trans K28 (allS (Or.inl (List.mem_of_getElem? (i := 0) rfl)) all0)).wr W53 (Or.inl (List.mem_of_getElem? (i := 1) rfl)))
  have f55 := (u28_0.wr W53)
  have f56 := (u28_1.other W53 (Or.inl HNw))
  have f57 := (u28_2.other W53 (Or.inl HNw))
  have f58 := (u28_3.other W53 (Or.inl HNw))
  have f59 := (u28_5.other W53 (Ne.symm ne33))
  exact own_finN X53 hx hlk hret (by simp) (hb hby d16_61) (by rw [e53]; exact ⟨nb28, kb28, rfl, N53, K54, f55, f56, f57, f58, sz_nb28, f59, u28_6, A53⟩) (by first | decide | omega | (dsimp only; omega)) (by first | decide | omega | (dsimp only; omega))
theorem ef_rmAddY1 (m : MethodId) (a : Addr) (b : Addr) : entryFrame m #[(.ref a), (.ref b)] 2 = mkF m 0 #[.val (.ref a), .val (.ref b)] [] := by first | (simp [entryFrame, mkF, argsToLocals, Value.category]; done) | rfl
def QrmAddY1 (Z : State) (a : Addr) (b : Addr) (al : Addr) (ow : Addr) (wv : Addr) (sp : Addr) (w_ : Int64) (y_ : Int64) (x_ : Int32) (dg : Int32) (bp : Int32) (kw : ClassId) (nd : Nat) (gw : Nat → Value) (pn : Nat) (c_ : Int32) (mc : Int32) (nb : Addr) (kb : ClassId) (f : Nat → Value) (e1_ : Addr) (v1 : Int64) (h0 : Heap) (n0 : Nat) (v_ : Option Value) (h_ : Heap) (L_ : List Loc) : Prop := v_ = some (.int (1 : Int32)) ∧ Fr n0 L_ ∧ Keep h0 h_ [al, nb, wv] ∧ Exa Z h_ al "java/util/ArrayList" ∧ Fld Z h_ al "java/util/ArrayList" "elementData" "[Ljava/lang/Object;" (.ref nb) ∧ Fld Z h_ al "java/util/ArrayList" "size" "I" (.int (2 : Int32)) ∧ Fld Z h_ al "java/util/AbstractList" "modCount" "I" (.int (mc + (1 : Int32))) ∧ Arw Z h_ nb kb (.object "java/lang/Object") 10 (own_upd f 1 (.ref b)) ∧ Arw Z h_ wv kw .int nd (own_upd gw pn (.int (c_ + (1 : Int32))))
set_option maxRecDepth 65536 in
set_option maxHeartbeats 40000000 in
theorem rmAddY1 (l : Launch) (Z : State) (a0 : Array Value) (hw : ∀ d ∈ tables_1, d.before a0 Z = true) (ws : List Jvm.Cond) (a : Addr) (b : Addr) (al : Addr) (ow : Addr) (wv : Addr) (sp : Addr) (w_ : Int64) (y_ : Int64) (x_ : Int32) (dg : Int32) (bp : Int32) (kw : ClassId) (nd : Nat) (gw : Nat → Value) (pn : Nat) (c_ : Int32) (mc : Int32) (nb : Addr) (kb : ClassId) (f : Nat → Value) (e1_ : Addr) (v1 : Int64) (h0 : Heap) (n0 : Nat) (Z0 : n0 ≤ h0.size) (E0_a : Exa Z h0 a "nearhop/model/Block") (F1_a_members : Fld Z h0 a "nearhop/model/Block" "members" "Ljava/util/List;" (.ref al)) (F2_a_owner : Fld Z h0 a "nearhop/model/Block" "owner" "Lnearhop/model/Id;" (.ref ow)) (F3_a_withShared : Fld Z h0 a "nearhop/model/Block" "withShared" "[I" (.ref wv)) (F4_a_depth : Fld Z h0 a "nearhop/model/Block" "depth" "I" (.int (0 : Int32))) (E5_ow : Exa Z h0 ow "nearhop/model/Id") (E6_b : Exa Z h0 b "nearhop/model/Id") (HNo : b ≠ ow) (F8_ow_space : Fld Z h0 ow "nearhop/model/Id" "space" "Lnearhop/model/IdSpace;" (.ref sp)) (F9_ow_high : Fld Z h0 ow "nearhop/model/Id" "high" "J" (.long (0 : Int64))) (F10_ow_low : Fld Z h0 ow "nearhop/model/Id" "low" "J" (.long w_)) (F11_b_space : Fld Z h0 b "nearhop/model/Id" "space" "Lnearhop/model/IdSpace;" (.ref sp)) (F12_b_high : Fld Z h0 b "nearhop/model/Id" "high" "J" (.long (0 : Int64))) (F13_b_low : Fld Z h0 b "nearhop/model/Id" "low" "J" (.long y_)) (E14_sp : Exa Z h0 sp "nearhop/model/IdSpace") (F15_sp_base : Fld Z h0 sp "nearhop/model/IdSpace" "base" "I" (.int x_)) (F16_sp_digits : Fld Z h0 sp "nearhop/model/IdSpace" "digits" "I" (.int dg)) (HB : own_bb x_ bp) (E18_al : Exa Z h0 al "java/util/ArrayList") (F19_al_size : Fld Z h0 al "java/util/ArrayList" "size" "I" (.int (1 : Int32))) (F20_al_elementData : Fld Z h0 al "java/util/ArrayList" "elementData" "[Ljava/lang/Object;" (.ref nb)) (A21_nb : Arw Z h0 nb kb (.object "java/lang/Object") 10 f) (Hf0 : f 0 = .ref e1_) (HNa0 : b ≠ e1_) (E24_e1_ : Exa Z h0 e1_ "nearhop/model/Id") (F25_e1__space : Fld Z h0 e1_ "nearhop/model/Id" "space" "Lnearhop/model/IdSpace;" (.ref sp)) (F26_e1__high : Fld Z h0 e1_ "nearhop/model/Id" "high" "J" (.long (0 : Int64))) (F27_e1__low : Fld Z h0 e1_ "nearhop/model/Id" "low" "J" (.long v1)) (F28_al_modCount : Fld Z h0 al "java/util/AbstractList" "modCount" "I" (.int mc)) (Hne : ¬ y_ = w_) (A30_wv : Arw Z h0 wv kw .int nd gw) (Hc : gw pn = .int c_) (HP : ((if (w_ ^^^ y_) = (0 : Int64) then dg else (((64 : Int32) + (own_nlzL (w_ ^^^ y_))) - ((128 : Int32) - (dg * bp))) / bp)).toInt = (pn : Int)) (Hpn : pn < nd) (H34 : n0 ≤ al) (H35 : n0 ≤ wv) (HP0 : ¬ (if (w_ ^^^ y_) = (0 : Int64) then dg else (((64 : Int32) + (own_nlzL (w_ ^^^ y_))) - ((128 : Int32) - (dg * bp))) / bp) < (0 : Int32)) (H37 : n0 ≤ nb) (HNw : al ≠ wv) (HNb : al ≠ nb) (HNx : nb ≠ wv) (OVr : Ovr Z kb "java/lang/Object") (Hin : (if y_ = v1 then (1 : Int32) else (0 : Int32)) = (0 : Int32)) :
    MetFree l (⟨"nearhop/model/Block", "add", "(Lnearhop/model/Id;)Z"⟩ : MethodName) (head1 (Jvm.Cond.code (⟨"nearhop/model/Block", "add", "(Lnearhop/model/Id;)Z"⟩ : MethodName) prog_74_method_6_code 2 (some .boolean) :: ws) ({ frames := 5, cells := 0, slots := 0, locals := 71 } : Room)) (fun as_ U_ => as_ = #[(.ref a), (.ref b)] ∧ Z.Warmed39 U_.vm ∧ U_.heap = h0) (fun _ _ _ _ _ => True) (fun _ U_ o_ V_ => ∃ v_ L_, o_ = .returned v_ ∧ QrmAddY1 Z a b al ow wv sp w_ y_ x_ dg bp kw nd gw pn c_ mc nb kb f e1_ v1 h0 n0 v_ V_.heap L_ ∧ FrameEnd U_ o_ V_ L_ ({ frames := 5, cells := 0, slots := 0, locals := 71 } : Room).cells ({ frames := 5, cells := 0, slots := 0, locals := 71 } : Room).slots) := by
  refine MetFree.of_bodySF (plainFor_of_name pn_nearhop_model_Block) hisR ?_
  intro p e s m args below meth c s₁ Bd hml0 hP hK
  obtain ⟨rfl, hZ, hh⟩ := hP
  have hx := Bd.exec
  have hby := Bd.bytes
  have hlk : meth.locks = false := BodyLoose.notSynchronized Bd
  have hret := Bd.returns
  have hml : c.maxLocals = 2 := hml0
  have hown : s.vm.findClass "nearhop/model/Block" = some m.cls := findClass_of_methodNamed Bd.named
  have hnm := (name_of_methodNamed Bd.named Bd.method).1
  have X0 : Stand p l e ({ frames := 5, cells := 0, slots := 0, locals := 71 } : Room) s m #[(.ref a), (.ref b)] below meth c s₁ [] 0 0 := Stand.of_body Bd
  have e0 : s₁.heap = h0 := by rw [← hh, Bd.state]; rfl
  have N0 := Fr.nil n0
  show Goes p e below (Fin_ s (QrmAddY1 Z a b al ow wv sp w_ y_ x_ dg bp kw nd gw pn c_ mc nb kb f e1_ v1 h0 n0) ({ frames := 5, cells := 0, slots := 0, locals := 71 } : Room).cells ({ frames := 5, cells := 0, slots := 0, locals := 71 } : Room).slots) (s₁.setTop (entryFrame m #[(.ref a), (.ref b)] 2))
  rw [ef_rmAddY1 m a b]
  have ne4 : a ≠ al := ne_exa E0_a E18_al (by decide)
  have ne5 : a ≠ nb := own_ne_arr E0_a (own_w hw 25 rfl) A21_nb
  have ne9 : ow ≠ al := ne_exa E5_ow E18_al (by decide)
  have ne10 : ow ≠ nb := own_ne_arr E5_ow (own_w hw 28 rfl) A21_nb
  have ne13 : b ≠ al := ne_exa E6_b E18_al (by decide)
  have ne14 : b ≠ nb := own_ne_arr E6_b (own_w hw 28 rfl) A21_nb
  have ne16 : sp ≠ al := ne_exa E14_sp E18_al (by decide)
  have ne17 : sp ≠ nb := own_ne_arr E14_sp (own_w hw 2 rfl) A21_nb
  refine gALN X0 hx hby d16_0 rfl rfl ?_
  refine gALN X0 hx hby d16_1 rfl rfl ?_
  obtain ⟨T23, X23, e23, st23⟩ := getF X0 hx hZ hown (host := "") (Or.inl (own_w hw 86 rfl)) Via.refl e0 F2_a_owner (g := (mkF m 2 #[vr a, vr b] [(.ref a), (.ref b)])) rfl rfl (hb hby d16_2)
  refine Goes.via st23 ?_
  show Goes p e below _ (T23.setTop (mkF m 5 #[vr a, vr b] [(.ref ow), (.ref b)]))
  obtain ⟨cq24, kq24, q24a, q24b, q24c⟩ := isOf hZ e23 E6_b
  obtain ⟨_, _, ⟨T24, L24, k24, n24⟩, -, X24, ⟨Lc24, hQ24, l24, y24, z24⟩, st24⟩ := X23.virtualBack hx (y := mN_Id_equals) (z := mN_Id_equals) hown (mvT hZ (own_w hw 106 rfl)) (mvT hZ (own_w hw 107 rfl)) (notFace_of_selects (args := #[]) (mvT hZ (own_w hw 109 rfl))) (mvT hZ (own_w hw 109 rfl)) (mvT hZ (own_w hw 108 rfl)) (by decide) (backOf (W := 0) (rmEq l Z a0 hw [] b ow sp y_ w_ h0 n0 (Nat.le_trans Z0 (Nat.le_refl _)) HNo E5_ow F11_b_space F12_b_high F13_b_low F8_ow_space F9_ow_high F10_ow_low) hZ (own_w hw 110 rfl) (own_w hw 29 rfl) (by decide) (by decide)) q24a q24c (g := (mkF m 5 #[vr a, vr b] [(.ref ow), (.ref b)])) rfl (by rw [hml]; rfl) (Steps.refl _) (argsL := [(.ref ow)]) (rest := []) (lenOf pd_12 rfl) rfl (by show 2 * 0 + _ ≤ _; exact Nat.le_of_eq rfl) (hb hby d16_5) (fun _ _ => ⟨rfl, e23, (by decide : 0 + 0 ≤ _), (by decide : 0 + 0 ≤ _)⟩)
  dsimp only [Pt.U, Pt.locs, Pt.cells, Pt.slots] at X24 l24 y24 z24 st24 hQ24
  replace l24 := l24.symm
  subst l24 y24 z24
  obtain ⟨rfl, rfl, e24⟩ := hQ24
  first | rw [List.append_nil] at X24 | skip
  refine Goes.tr st24 ?_
  have e24' : T24.heap = h0 := e24
  show Goes p e below _ (T24.setTop (mkF m 8 #[vr a, vr b] [(.int (if y_ = w_ then (1 : Int32) else (0 : Int32)))]))
  have hc8_25 : (if y_ = w_ then (1 : Int32) else (0 : Int32)) = (0 : Int32) := (if_neg Hne)
  refine Goes.via (fun _ kk_ => XS.ifNo X24.here hx rfl (hb hby d16_8) rfl ((if0 _ _).trans (teq hc8_25).2) kk_) ?_
  show Goes p e below _ (T24.setTop (mkF m 11 #[vr a, vr b] []))
  refine gALN X24 hx hby d16_11 rfl rfl ?_
  refine gALN X24 hx hby d16_12 rfl rfl ?_
  obtain ⟨cq26, q26, q26'⟩ := E0_a.cell
  obtain ⟨_, _, ⟨T26, L26, k26, n26⟩, -, X26, ⟨Lc26, hQ26, l26, y26, z26⟩, st26⟩ := X24.privateBack hx (y := mN_Block_fits) hown (mvT hZ (own_w hw 113 rfl)) (mvT hZ (own_w hw 114 rfl)) (mvT hZ (own_selP (y := mN_Block_fits) (own_w hw 25 rfl) (own_w hw 115 rfl) (own_w hw 114 rfl) (by decide))) (Cond.privateMethod_at (mvP hZ (own_w hw 115 rfl) (args := #[]))) (mvT hZ (own_w hw 116 rfl)) (by decide) (backOf (W := 0) (rm18 l Z a0 hw [] a b ow sp w_ y_ x_ dg bp h0 n0 (Nat.le_trans Z0 (Nat.le_refl _)) F2_a_owner F4_a_depth E5_ow F8_ow_space F9_ow_high F10_ow_low F11_b_space F12_b_high F13_b_low E14_sp F15_sp_base F16_sp_digits HB HP0) hZ (own_w hw 116 rfl) (own_w hw 26 rfl) (by decide) (by decide)) (g := (mkF m 13 #[vr a, vr b] [(.ref b), (.ref a)])) rfl (by rw [hml]; rfl) (Steps.refl _) (a := a) (by rw [e24']; exact q26) q26' (argsL := [(.ref b)]) (rest := []) (lenOf pd_14 rfl) rfl (by show 2 * 0 + _ ≤ _; exact Nat.le_of_eq rfl) (hb hby d16_13) (fun _ _ => ⟨rfl, e24', (by decide : 0 + 0 ≤ _), (by decide : 0 + 0 ≤ _)⟩)
  dsimp only [Pt.U, Pt.locs, Pt.cells, Pt.slots] at X26 l26 y26 z26 st26 hQ26
  replace l26 := l26.symm
  subst l26 y26 z26
  obtain ⟨rfl, rfl, e26⟩ := hQ26
  first | rw [List.append_nil] at X26 | skip
  refine Goes.tr st26 ?_
  have e26' : T26.heap = h0 := e26
  show Goes p e below _ (T26.setTop (mkF m 16 #[vr a, vr b] [(.int (1 : Int32))]))
  have hc16_27 : ¬ ((1 : Int32) = (0 : Int32)) := (by decide)
  refine Goes.via (fun _ kk_ => XS.ifNo X26.here hx rfl (hb hby d16_16) rfl ((if0 _ _).trans (feq hc16_27).1) kk_) ?_
  show Goes p e below _ (T26.setTop (mkF m 19 #[vr a, vr b] []))
  refine gALN X26 hx hby d16_19 rfl rfl ?_
  refine gALN X26 hx hby d16_20 rfl rfl ?_
  obtain ⟨T28, X28, e28, st28⟩ := getF X26 hx hZ hown (host := "") (Or.inl (own_w hw 84 rfl)) Via.refl e26' F1_a_members (g := (mkF m 21 #[vr a, vr b] [(.ref a), (.ref b)])) rfl rfl (hb hby d16_21)
  refine Goes.via st28 ?_
  show Goes p e below _ (T28.setTop (mkF m 24 #[vr a, vr b] [(.ref al), (.ref b)]))
  obtain ⟨cq29, kq29, q29a, q29b, q29c⟩ := isOf hZ e28 E6_b
  obtain ⟨_, _, ⟨T29, L29, k29, n29⟩, -, X29, ⟨Lc29, hQ29, l29, y29, z29⟩, st29⟩ := X28.virtualBack hx (y := mN_Id_isIn) (z := mN_Id_isIn) hown (mvT hZ (own_w hw 132 rfl)) (mvT hZ (own_w hw 133 rfl)) (notFace_of_selects (args := #[]) (mvT hZ (own_w hw 135 rfl))) (mvT hZ (own_w hw 135 rfl)) (mvT hZ (own_w hw 134 rfl)) (by decide) (backOf (W := 0) (rmIn1 l Z a0 hw [] b al sp y_ nb kb f e1_ v1 h0 n0 (Nat.le_trans Z0 (Nat.le_refl _)) E18_al F19_al_size E6_b F11_b_space F12_b_high F13_b_low F20_al_elementData A21_nb Hf0 HNa0 E24_e1_ F25_e1__space F26_e1__high F27_e1__low) hZ (own_w hw 136 rfl) (own_w hw 29 rfl) (by decide) (by decide)) q29a q29c (g := (mkF m 24 #[vr a, vr b] [(.ref al), (.ref b)])) rfl (by rw [hml]; rfl) (Steps.refl _) (argsL := [(.ref al)]) (rest := []) (lenOf pd_15 rfl) rfl (by show 2 * 0 + _ ≤ _; exact Nat.le_of_eq rfl) (hb hby d16_24) (fun _ _ => ⟨rfl, e28, (by decide : 0 + 0 ≤ _), (by decide : 0 + 0 ≤ _)⟩)
  dsimp only [Pt.U, Pt.locs, Pt.cells, Pt.slots] at X29 l29 y29 z29 st29 hQ29
  replace l29 := l29.symm
  subst l29 y29 z29
  obtain ⟨rfl, rfl, e29⟩ := hQ29
  first | rw [List.append_nil] at X29 | skip
  refine Goes.tr st29 ?_
  have e29' : T29.heap = h0 := e29
  show Goes p e below _ (T29.setTop (mkF m 27 #[vr a, vr b] [(.int (if y_ = v1 then (1 : Int32) else (0 : Int32)))]))
  have hc27_30 : (if y_ = v1 then (1 : Int32) else (0 : Int32)) = (0 : Int32) := Hin
  refine Goes.via (fun _ kk_ => XS.ifYes X29.here hx rfl (pc0 := 27) (pc' := 32) rfl (hb hby d16_27) rfl ((if0 _ _).trans (teq hc27_30).1) (by decide) (by decide) kk_) ?_
  show Goes p e below _ (T29.setTop (mkF m 32 #[vr a, vr b] []))
  refine gALN X29 hx hby d16_32 rfl rfl ?_
  obtain ⟨T31, X31, e31, st31⟩ := getF X29 hx hZ hown (host := "") (Or.inl (own_w hw 84 rfl)) Via.refl e29' F1_a_members (g := (mkF m 33 #[vr a, vr b] [(.ref a)])) rfl rfl (hb hby d16_33)
  refine Goes.via st31 ?_
  show Goes p e below _ (T31.setTop (mkF m 36 #[vr a, vr b] [(.ref al)]))
  refine gALN X31 hx hby d16_36 rfl rfl ?_
  obtain ⟨cq32, kq32, q32a, q32b, q32c⟩ := isOf hZ e31 E18_al
  obtain ⟨_, _, ⟨T32, L32, k32, n32⟩, -, X32, ⟨Lc32, hQ32, l32, y32, z32⟩, st32⟩ := X31.interfaceBack hx (xi := mN_List_add) (y := mN_ArrayList_add_1) hown (mvT hZ (own_w hw 148 rfl)) (mvT hZ (own_w hw 149 rfl)) (mvT hZ (own_w hw 150 rfl)) (mvT hZ (own_w hw 151 rfl)) (mvT hZ (own_w hw 152 rfl)) (mvT hZ (own_w hw 153 rfl)) (mvT hZ (own_w hw 154 rfl)) (mvT hZ (own_w hw 144 rfl)) (by decide) (backOf (W := 0) (rmL1 l Z a0 hw [] al b nb (1 : Int32) mc kb f 1 h0 n0 (Nat.le_trans Z0 (Nat.le_refl _)) E18_al F20_al_elementData F19_al_size F28_al_modCount H34 H37 E6_b A21_nb OVr (by decide) (by decide) HNb) hZ (own_w hw 155 rfl) (own_w hw 62 rfl) (by decide) (by decide)) q32a q32b q32c (g := (mkF m 37 #[vr a, vr b] [(.ref b), (.ref al)])) rfl (by rw [hml]; rfl) (Steps.refl _) (argsL := [(.ref b)]) (rest := []) (lenOf pd_12 rfl) rfl (by show 2 * 0 + _ ≤ _; exact Nat.le_of_eq rfl) (hb hby d16_37) (fun _ _ => ⟨rfl, e31, (by decide : 0 + 0 ≤ _), (by decide : 0 + 0 ≤ _)⟩)
  dsimp only [Pt.U, Pt.locs, Pt.cells, Pt.slots] at X32 l32 y32 z32 st32 hQ32
  replace l32 := l32.symm
  subst l32 y32 z32
  obtain ⟨rfl, N32q, K32, u32_0, u32_1, u32_2, u32_3, u32_4⟩ := hQ32
  have N32 := Fr.app N0 N32q
  refine Goes.tr st32 ?_
  show Goes p e below _ (T32.setTop (mkF m 42 #[vr a, vr b] [(.int (1 : Int32))]))
  have Fs33 : Fld Z T32.heap al "java/util/ArrayList" "size" "I" (.int (2 : Int32)) := by have q := u32_2; rw [show ((1 : Int32) + (1 : Int32)) = (2 : Int32) by decide] at q; exact q
  refine Goes.via (fun _ kk_ => XS.pop X32.here hx rfl (hb hby d16_42) rfl rfl kk_) ?_
  show Goes p e below _ (T32.setTop (mkF m 43 #[vr a, vr b] []))
  refine gALN X32 hx hby d16_43 rfl rfl ?_
  have f34 := (F3_a_withShared.keep K32 (ninS ne4 (ninS ne5 nin0)))
  obtain ⟨T35, X35, e35, st35⟩ := getF X32 hx hZ hown (host := "") (Or.inl (own_w hw 99 rfl)) Via.refl rfl f34 (g := (mkF m 44 #[vr a, vr b] [(.ref a)])) rfl rfl (hb hby d16_44)
  refine Goes.via st35 ?_
  show Goes p e below _ (T35.setTop (mkF m 47 #[vr a, vr b] [(.ref wv)]))
  refine gALN X35 hx hby d16_47 rfl rfl ?_
  have f36 := (F2_a_owner.keep K32 (ninS ne4 (ninS ne5 nin0)))
  obtain ⟨T37, X37, e37, st37⟩ := getF X35 hx hZ hown (host := "") (Or.inl (own_w hw 86 rfl)) Via.refl e35 f36 (g := (mkF m 48 #[vr a, vr b] [(.ref a), (.ref wv)])) rfl rfl (hb hby d16_48)
  refine Goes.via st37 ?_
  show Goes p e below _ (T37.setTop (mkF m 51 #[vr a, vr b] [(.ref ow), (.ref wv)]))
  refine gALN X37 hx hby d16_51 rfl rfl ?_
  have f38 := (F8_ow_space.keep K32 (ninS ne9 (ninS ne10 nin0)))
  have f39 := (F9_ow_high.keep K32 (ninS ne9 (ninS ne10 nin0)))
  have f40 := (F10_ow_low.keep K32 (ninS ne9 (ninS ne10 nin0)))
  have f41 := (F11_b_space.keep K32 (ninS ne13 (ninS ne14 nin0)))
  have f42 := (F12_b_high.keep K32 (ninS ne13 (ninS ne14 nin0)))
  have f43 := (F13_b_low.keep K32 (ninS ne13 (ninS ne14 nin0)))
  have f44 := (E14_sp.keep K32)
  have f45 := (F15_sp_base.keep K32 (ninS ne16 (ninS ne17 nin0)))
  have f46 := (F16_sp_digits.keep K32 (ninS ne16 (ninS ne17 nin0)))
  have z48 : h0.size ≤ (T32.heap).size := (Nat.le_trans (Nat.le_refl _) K32.1)
  have f49 := (E5_ow.keep K32)
  obtain ⟨cq47, kq47, q47a, q47b, q47c⟩ := isOf hZ e37 f49
  obtain ⟨_, _, ⟨T47, L47, k47, n47⟩, -, X47, ⟨Lc47, hQ47, l47, y47, z47⟩, st47⟩ := X37.virtualBack hx (y := mN_Id_sharedPrefixLength) (z := mN_Id_sharedPrefixLength) hown (mvT hZ (own_w hw 117 rfl)) (mvT hZ (own_w hw 118 rfl)) (notFace_of_selects (args := #[]) (mvT hZ (own_w hw 120 rfl))) (mvT hZ (own_w hw 120 rfl)) (mvT hZ (own_w hw 119 rfl)) (by decide) (backOf (W := 1) (rmPre l Z a0 hw [] ow b sp w_ y_ x_ dg bp T32.heap n0 (Nat.le_trans Z0 z48) f38 f39 f40 f41 f42 f43 f44 f45 f46 HB) hZ (own_w hw 121 rfl) (own_w hw 29 rfl) (by decide) (by decide)) q47a q47c (g := (mkF m 52 #[vr a, vr b] [(.ref b), (.ref ow), (.ref wv)])) rfl (by rw [hml]; rfl) (Steps.refl _) (argsL := [(.ref b)]) (rest := [(.ref wv)]) (lenOf pd_13 rfl) rfl (by show 2 * 0 + _ ≤ _; exact Nat.le_of_eq rfl) (hb hby d16_52) (fun _ _ => ⟨rfl, e37, (by decide : 0 + 0 ≤ _), (by decide : 0 + 0 ≤ _)⟩)
  dsimp only [Pt.U, Pt.locs, Pt.cells, Pt.slots] at X47 l47 y47 z47 st47 hQ47
  replace l47 := l47.symm
  subst l47 y47 z47
  obtain ⟨rfl, rfl, e47⟩ := hQ47
  first | rw [List.append_nil] at X47 | skip
  refine Goes.tr st47 ?_
  have e47' : T47.heap = T32.heap := e47
  show Goes p e below _ (T47.setTop (mkF m 55 #[vr a, vr b] [(.int (if (w_ ^^^ y_) = (0 : Int64) then dg else (((64 : Int32) + (own_nlzL (w_ ^^^ y_))) - ((128 : Int32) - (dg * bp))) / bp)), (.ref wv)]))
  refine Goes.via (fun _ kk_ => XT.dup2 X47.here hx rfl (hb hby d16_55) rfl rfl rfl kk_) ?_
  show Goes p e below _ (T47.setTop (mkF m 56 #[vr a, vr b] [(.int (if (w_ ^^^ y_) = (0 : Int64) then dg else (((64 : Int32) + (own_nlzL (w_ ^^^ y_))) - ((128 : Int32) - (dg * bp))) / bp)), (.ref wv), (.int (if (w_ ^^^ y_) = (0 : Int64) then dg else (((64 : Int32) + (own_nlzL (w_ ^^^ y_))) - ((128 : Int32) - (dg * bp))) / bp)), (.ref wv)]))
  have f50 := (A30_wv.keep K32 (ninS (Ne.symm HNw) (ninS (Ne.symm HNx) nin0)))
  refine Goes.via (own_iaload X47 hx hZ e47' f50 (j := (if (w_ ^^^ y_) = (0 : Int64) then dg else (((64 : Int32) + (own_nlzL (w_ ^^^ y_))) - ((128 : Int32) - (dg * bp))) / bp)) (i := pn) (own_ix HP).1 (own_ix HP).2 Hpn (v := c_) Hc (g := (mkF m 56 #[vr a, vr b] [(.int (if (w_ ^^^ y_) = (0 : Int64) then dg else (((64 : Int32) + (own_nlzL (w_ ^^^ y_))) - ((128 : Int32) - (dg * bp))) / bp)), (.ref wv), (.int (if (w_ ^^^ y_) = (0 : Int64) then dg else (((64 : Int32) + (own_nlzL (w_ ^^^ y_))) - ((128 : Int32) - (dg * bp))) / bp)), (.ref wv)])) rfl rfl (hb hby d16_56)) ?_
  show Goes p e below _ (T47.setTop (mkF m 57 #[vr a, vr b] [(.int c_), (.int (if (w_ ^^^ y_) = (0 : Int64) then dg else (((64 : Int32) + (own_nlzL (w_ ^^^ y_))) - ((128 : Int32) - (dg * bp))) / bp)), (.ref wv)]))
  refine gIC (z := 1) X47 hx hby d16_57 rfl ?_
  refine Goes.via (fun _ kk_ => XS.iadd X47.here hx rfl (hb hby d16_58) rfl kk_) ?_
  show Goes p e below _ (T47.setTop (mkF m 59 #[vr a, vr b] [(.int (c_ + (1 : Int32))), (.int (if (w_ ^^^ y_) = (0 : Int64) then dg else (((64 : Int32) + (own_nlzL (w_ ^^^ y_))) - ((128 : Int32) - (dg * bp))) / bp)), (.ref wv)]))
  obtain ⟨T51, h51, X51, e51, W51, A51, st51⟩ := own_iastore X47 hx hZ e47' f50 (j := (if (w_ ^^^ y_) = (0 : Int64) then dg else (((64 : Int32) + (own_nlzL (w_ ^^^ y_))) - ((128 : Int32) - (dg * bp))) / bp)) (i := pn) (own_ix HP).1 (own_ix HP).2 Hpn (g := (mkF m 59 #[vr a, vr b] [(.int (c_ + (1 : Int32))), (.int (if (w_ ^^^ y_) = (0 : Int64) then dg else (((64 : Int32) + (own_nlzL (w_ ^^^ y_))) - ((128 : Int32) - (dg * bp))) / bp)), (.ref wv)])) rfl rfl (hb hby d16_59)
  refine Goes.via st51 ?_
  have N51 := Fr.snoc X51 N32 H35
  show Goes p e below _ (T51.setTop (mkF m 60 #[vr a, vr b] []))
  refine gIC (z := 1) X51 hx hby d16_60 rfl ?_
  have K52 : Keep h0 h51 [al, nb, wv] := (((Keep.refl h0 [al, nb, wv]).trans K32 (allS (Or.inl (List.mem_of_getElem? (i := 0) rfl)) (allS (Or.inl (List.mem_of_getElem? (i := 1) rfl)) all0))).wr W51 (Or.inl (List.mem_of_getElem? (i := 2) rfl)))
  have f53 := (u32_0.wr W51)
  have f54 := (u32_1.other W51 (Or.inl HNw))
  have f55 := (Fs33.other W51 (Or.inl HNw))
  have f56 := (u32_3.other W51 (Or.inl HNw))
  have f57 := (u32_4.other W51 HNx)
  exact own_finN X51 hx hlk hret (by simp) (hb hby d16_61) (by rw [e51]; exact ⟨rfl, N51, K52, f53, f54, f55, f56, f57, A51⟩) (by first | decide | omega | (dsimp only; omega)) (by first | decide | omega | (dsimp only; omega))
theorem ef_rmAddY2 (m : MethodId) (a : Addr) (b : Addr) : entryFrame m #[(.ref a), (.ref b)] 2 = mkF m 0 #[.val (.ref a), .val (.ref b)] [] := by first | (simp [entryFrame, mkF, argsToLocals, Value.category]; done) | rfl
def QrmAddY2 (Z : State) (a : Addr) (b : Addr) (al : Addr) (ow : Addr) (wv : Addr) (sp : Addr) (w_ : Int64) (y_ : Int64) (x_ : Int32) (dg : Int32) (bp : Int32) (kw : ClassId) (nd : Nat) (gw : Nat → Value) (pn : Nat) (c_ : Int32) (mc : Int32) (nb : Addr) (kb : ClassId) (f : Nat → Value) (e1_ : Addr) (v1 : Int64) (e2_ : Addr) (v2 : Int64) (h0 : Heap) (n0 : Nat) (v_ : Option Value) (h_ : Heap) (L_ : List Loc) : Prop := v_ = some (.int (1 : Int32)) ∧ Fr n0 L_ ∧ Keep h0 h_ [al, nb, wv] ∧ Exa Z h_ al "java/util/ArrayList" ∧ Fld Z h_ al "java/util/ArrayList" "elementData" "[Ljava/lang/Object;" (.ref nb) ∧ Fld Z h_ al "java/util/ArrayList" "size" "I" (.int (3 : Int32)) ∧ Fld Z h_ al "java/util/AbstractList" "modCount" "I" (.int (mc + (1 : Int32))) ∧ Arw Z h_ nb kb (.object "java/lang/Object") 10 (own_upd f 2 (.ref b)) ∧ Arw Z h_ wv kw .int nd (own_upd gw pn (.int (c_ + (1 : Int32))))
set_option maxRecDepth 65536 in
set_option maxHeartbeats 40000000 in
theorem rmAddY2 (l : Launch) (Z : State) (a0 : Array Value) (hw : ∀ d ∈ tables_1, d.before a0 Z = true) (ws : List Jvm.Cond) (a : Addr) (b : Addr) (al : Addr) (ow : Addr) (wv : Addr) (sp : Addr) (w_ : Int64) (y_ : Int64) (x_ : Int32) (dg : Int32) (bp : Int32) (kw : ClassId) (nd : Nat) (gw : Nat → Value) (pn : Nat) (c_ : Int32) (mc : Int32) (nb : Addr) (kb : ClassId) (f : Nat → Value) (e1_ : Addr) (v1 : Int64) (e2_ : Addr) (v2 : Int64) (h0 : Heap) (n0 : Nat) (Z0 : n0 ≤ h0.size) (E0_a : Exa Z h0 a "nearhop/model/Block") (F1_a_members : Fld Z h0 a "nearhop/model/Block" "members" "Ljava/util/List;" (.ref al)) (F2_a_owner : Fld Z h0 a "nearhop/model/Block" "owner" "Lnearhop/model/Id;" (.ref ow)) (F3_a_withShared : Fld Z h0 a "nearhop/model/Block" "withShared" "[I" (.ref wv)) (F4_a_depth : Fld Z h0 a "nearhop/model/Block" "depth" "I" (.int (0 : Int32))) (E5_ow : Exa Z h0 ow "nearhop/model/Id") (E6_b : Exa Z h0 b "nearhop/model/Id") (HNo : b ≠ ow) (F8_ow_space : Fld Z h0 ow "nearhop/model/Id" "space" "Lnearhop/model/IdSpace;" (.ref sp)) (F9_ow_high : Fld Z h0 ow "nearhop/model/Id" "high" "J" (.long (0 : Int64))) (F10_ow_low : Fld Z h0 ow "nearhop/model/Id" "low" "J" (.long w_)) (F11_b_space : Fld Z h0 b "nearhop/model/Id" "space" "Lnearhop/model/IdSpace;" (.ref sp)) (F12_b_high : Fld Z h0 b "nearhop/model/Id" "high" "J" (.long (0 : Int64))) (F13_b_low : Fld Z h0 b "nearhop/model/Id" "low" "J" (.long y_)) (E14_sp : Exa Z h0 sp "nearhop/model/IdSpace") (F15_sp_base : Fld Z h0 sp "nearhop/model/IdSpace" "base" "I" (.int x_)) (F16_sp_digits : Fld Z h0 sp "nearhop/model/IdSpace" "digits" "I" (.int dg)) (HB : own_bb x_ bp) (E18_al : Exa Z h0 al "java/util/ArrayList") (F19_al_size : Fld Z h0 al "java/util/ArrayList" "size" "I" (.int (2 : Int32))) (F20_al_elementData : Fld Z h0 al "java/util/ArrayList" "elementData" "[Ljava/lang/Object;" (.ref nb)) (A21_nb : Arw Z h0 nb kb (.object "java/lang/Object") 10 f) (Hf0 : f 0 = .ref e1_) (HNa0 : b ≠ e1_) (E24_e1_ : Exa Z h0 e1_ "nearhop/model/Id") (F25_e1__space : Fld Z h0 e1_ "nearhop/model/Id" "space" "Lnearhop/model/IdSpace;" (.ref sp)) (F26_e1__high : Fld Z h0 e1_ "nearhop/model/Id" "high" "J" (.long (0 : Int64))) (F27_e1__low : Fld Z h0 e1_ "nearhop/model/Id" "low" "J" (.long v1)) (Hf1 : f 1 = .ref e2_) (HNa1 : b ≠ e2_) (E30_e2_ : Exa Z h0 e2_ "nearhop/model/Id") (F31_e2__space : Fld Z h0 e2_ "nearhop/model/Id" "space" "Lnearhop/model/IdSpace;" (.ref sp)) (F32_e2__high : Fld Z h0 e2_ "nearhop/model/Id" "high" "J" (.long (0 : Int64))) (F33_e2__low : Fld Z h0 e2_ "nearhop/model/Id" "low" "J" (.long v2)) (F34_al_modCount : Fld Z h0 al "java/util/AbstractList" "modCount" "I" (.int mc)) (Hne : ¬ y_ = w_) (A36_wv : Arw Z h0 wv kw .int nd gw) (Hc : gw pn = .int c_) (HP : ((if (w_ ^^^ y_) = (0 : Int64) then dg else (((64 : Int32) + (own_nlzL (w_ ^^^ y_))) - ((128 : Int32) - (dg * bp))) / bp)).toInt = (pn : Int)) (Hpn : pn < nd) (H40 : n0 ≤ al) (H41 : n0 ≤ wv) (HP0 : ¬ (if (w_ ^^^ y_) = (0 : Int64) then dg else (((64 : Int32) + (own_nlzL (w_ ^^^ y_))) - ((128 : Int32) - (dg * bp))) / bp) < (0 : Int32)) (H43 : n0 ≤ nb) (HNw : al ≠ wv) (HNb : al ≠ nb) (HNx : nb ≠ wv) (OVr : Ovr Z kb "java/lang/Object") (Hin : (if y_ = v1 then (1 : Int32) else (if y_ = v2 then (1 : Int32) else (0 : Int32))) = (0 : Int32)) :
    MetFree l (⟨"nearhop/model/Block", "add", "(Lnearhop/model/Id;)Z"⟩ : MethodName) (head1 (Jvm.Cond.code (⟨"nearhop/model/Block", "add", "(Lnearhop/model/Id;)Z"⟩ : MethodName) prog_74_method_6_code 2 (some .boolean) :: ws) ({ frames := 5, cells := 0, slots := 0, locals := 71 } : Room)) (fun as_ U_ => as_ = #[(.ref a), (.ref b)] ∧ Z.Warmed39 U_.vm ∧ U_.heap = h0) (fun _ _ _ _ _ => True) (fun _ U_ o_ V_ => ∃ v_ L_, o_ = .returned v_ ∧ QrmAddY2 Z a b al ow wv sp w_ y_ x_ dg bp kw nd gw pn c_ mc nb kb f e1_ v1 e2_ v2 h0 n0 v_ V_.heap L_ ∧ FrameEnd U_ o_ V_ L_ ({ frames := 5, cells := 0, slots := 0, locals := 71 } : Room).cells ({ frames := 5, cells := 0, slots := 0, locals := 71 } : Room).slots) := by
  refine MetFree.of_bodySF (plainFor_of_name pn_nearhop_model_Block) hisR ?_
  intro p e s m args below meth c s₁ Bd hml0 hP hK
  obtain ⟨rfl, hZ, hh⟩ := hP
  have hx := Bd.exec
  have hby := Bd.bytes
  have hlk : meth.locks = false := BodyLoose.notSynchronized Bd
  have hret := Bd.returns
  have hml : c.maxLocals = 2 := hml0
  have hown : s.vm.findClass "nearhop/model/Block" = some m.cls := findClass_of_methodNamed Bd.named
  have hnm := (name_of_methodNamed Bd.named Bd.method).1
  have X0 : Stand p l e ({ frames := 5, cells := 0, slots := 0, locals := 71 } : Room) s m #[(.ref a), (.ref b)] below meth c s₁ [] 0 0 := Stand.of_body Bd
  have e0 : s₁.heap = h0 := by rw [← hh, Bd.state]; rfl
  have N0 := Fr.nil n0
  show Goes p e below (Fin_ s (QrmAddY2 Z a b al ow wv sp w_ y_ x_ dg bp kw nd gw pn c_ mc nb kb f e1_ v1 e2_ v2 h0 n0) ({ frames := 5, cells := 0, slots := 0, locals := 71 } : Room).cells ({ frames := 5, cells := 0, slots := 0, locals := 71 } : Room).slots) (s₁.setTop (entryFrame m #[(.ref a), (.ref b)] 2))
  rw [ef_rmAddY2 m a b]
  have ne4 : a ≠ al := ne_exa E0_a E18_al (by decide)
  have ne5 : a ≠ nb := own_ne_arr E0_a (own_w hw 25 rfl) A21_nb
  have ne10 : ow ≠ al := ne_exa E5_ow E18_al (by decide)
  have ne11 : ow ≠ nb := own_ne_arr E5_ow (own_w hw 28 rfl) A21_nb
  have ne14 : b ≠ al := ne_exa E6_b E18_al (by decide)
  have ne15 : b ≠ nb := own_ne_arr E6_b (own_w hw 28 rfl) A21_nb
  have ne17 : sp ≠ al := ne_exa E14_sp E18_al (by decide)
  have ne18 : sp ≠ nb := own_ne_arr E14_sp (own_w hw 2 rfl) A21_nb
  refine gALN X0 hx hby d16_0 rfl rfl ?_
  refine gALN X0 hx hby d16_1 rfl rfl ?_
  obtain ⟨T28, X28, e28, st28⟩ := getF X0 hx hZ hown (host := "") (Or.inl (own_w hw 86 rfl)) Via.refl e0 F2_a_owner (g := (mkF m 2 #[vr a, vr b] [(.ref a), (.ref b)])) rfl rfl (hb hby d16_2)
  refine Goes.via st28 ?_
  show Goes p e below _ (T28.setTop (mkF m 5 #[vr a, vr b] [(.ref ow), (.ref b)]))
  obtain ⟨cq29, kq29, q29a, q29b, q29c⟩ := isOf hZ e28 E6_b
  obtain ⟨_, _, ⟨T29, L29, k29, n29⟩, -, X29, ⟨Lc29, hQ29, l29, y29, z29⟩, st29⟩ := X28.virtualBack hx (y := mN_Id_equals) (z := mN_Id_equals) hown (mvT hZ (own_w hw 106 rfl)) (mvT hZ (own_w hw 107 rfl)) (notFace_of_selects (args := #[]) (mvT hZ (own_w hw 109 rfl))) (mvT hZ (own_w hw 109 rfl)) (mvT hZ (own_w hw 108 rfl)) (by decide) (backOf (W := 0) (rmEq l Z a0 hw [] b ow sp y_ w_ h0 n0 (Nat.le_trans Z0 (Nat.le_refl _)) HNo E5_ow F11_b_space F12_b_high F13_b_low F8_ow_space F9_ow_high F10_ow_low) hZ (own_w hw 110 rfl) (own_w hw 29 rfl) (by decide) (by decide)) q29a q29c (g := (mkF m 5 #[vr a, vr b] [(.ref ow), (.ref b)])) rfl (by rw [hml]; rfl) (Steps.refl _) (argsL := [(.ref ow)]) (rest := []) (lenOf pd_12 rfl) rfl (by show 2 * 0 + _ ≤ _; exact Nat.le_of_eq rfl) (hb hby d16_5) (fun _ _ => ⟨rfl, e28, (by decide : 0 + 0 ≤ _), (by decide : 0 + 0 ≤ _)⟩)
  dsimp only [Pt.U, Pt.locs, Pt.cells, Pt.slots] at X29 l29 y29 z29 st29 hQ29
  replace l29 := l29.symm
  subst l29 y29 z29
  obtain ⟨rfl, rfl, e29⟩ := hQ29
  first | rw [List.append_nil] at X29 | skip
  refine Goes.tr st29 ?_
  have e29' : T29.heap = h0 := e29
  show Goes p e below _ (T29.setTop (mkF m 8 #[vr a, vr b] [(.int (if y_ = w_ then (1 : Int32) else (0 : Int32)))]))
  have hc8_30 : (if y_ = w_ then (1 : Int32) else (0 : Int32)) = (0 : Int32) := (if_neg Hne)
  refine Goes.via (fun _ kk_ => XS.ifNo X29.here hx rfl (hb hby d16_8) rfl ((if0 _ _).trans (teq hc8_30).2) kk_) ?_
  show Goes p e below _ (T29.setTop (mkF m 11 #[vr a, vr b] []))
  refine gALN X29 hx hby d16_11 rfl rfl ?_
  refine gALN X29 hx hby d16_12 rfl rfl ?_
  obtain ⟨cq31, q31, q31'⟩ := E0_a.cell
  obtain ⟨_, _, ⟨T31, L31, k31, n31⟩, -, X31, ⟨Lc31, hQ31, l31, y31, z31⟩, st31⟩ := X29.privateBack hx (y := mN_Block_fits) hown (mvT hZ (own_w hw 113 rfl)) (mvT hZ (own_w hw 114 rfl)) (mvT hZ (own_selP (y := mN_Block_fits) (own_w hw 25 rfl) (own_w hw 115 rfl) (own_w hw 114 rfl) (by decide))) (Cond.privateMethod_at (mvP hZ (own_w hw 115 rfl) (args := #[]))) (mvT hZ (own_w hw 116 rfl)) (by decide) (backOf (W := 0) (rm18 l Z a0 hw [] a b ow sp w_ y_ x_ dg bp h0 n0 (Nat.le_trans Z0 (Nat.le_refl _)) F2_a_owner F4_a_depth E5_ow F8_ow_space F9_ow_high F10_ow_low F11_b_space F12_b_high F13_b_low E14_sp F15_sp_base F16_sp_digits HB HP0) hZ (own_w hw 116 rfl) (own_w hw 26 rfl) (by decide) (by decide)) (g := (mkF m 13 #[vr a, vr b] [(.ref b), (.ref a)])) rfl (by rw [hml]; rfl) (Steps.refl _) (a := a) (by rw [e29']; exact q31) q31' (argsL := [(.ref b)]) (rest := []) (lenOf pd_14 rfl) rfl (by show 2 * 0 + _ ≤ _; exact Nat.le_of_eq rfl) (hb hby d16_13) (fun _ _ => ⟨rfl, e29', (by decide : 0 + 0 ≤ _), (by decide : 0 + 0 ≤ _)⟩)
  dsimp only [Pt.U, Pt.locs, Pt.cells, Pt.slots] at X31 l31 y31 z31 st31 hQ31
  replace l31 := l31.symm
  subst l31 y31 z31
  obtain ⟨rfl, rfl, e31⟩ := hQ31
  first | rw [List.append_nil] at X31 | skip
  refine Goes.tr st31 ?_
  have e31' : T31.heap = h0 := e31
  show Goes p e below _ (T31.setTop (mkF m 16 #[vr a, vr b] [(.int (1 : Int32))]))
  have hc16_32 : ¬ ((1 : Int32) = (0 : Int32)) := (by decide)
  refine Goes.via (fun _ kk_ => XS.ifNo X31.here hx rfl (hb hby d16_16) rfl ((if0 _ _).trans (feq hc16_32).1) kk_) ?_
  show Goes p e below _ (T31.setTop (mkF m 19 #[vr a, vr b] []))
  refine gALN X31 hx hby d16_19 rfl rfl ?_
  refine gALN X31 hx hby d16_20 rfl rfl ?_
  obtain ⟨T33, X33, e33, st33⟩ := getF X31 hx hZ hown (host := "") (Or.inl (own_w hw 84 rfl)) Via.refl e31' F1_a_members (g := (mkF m 21 #[vr a, vr b] [(.ref a), (.ref b)])) rfl rfl (hb hby d16_21)
  refine Goes.via st33 ?_
  show Goes p e below _ (T33.setTop (mkF m 24 #[vr a, vr b] [(.ref al), (.ref b)]))
  obtain ⟨cq34, kq34, q34a, q34b, q34c⟩ := isOf hZ e33 E6_b
  obtain ⟨_, _, ⟨T34, L34, k34, n34⟩, -, X34, ⟨Lc34, hQ34, l34, y34, z34⟩, st34⟩ := X33.virtualBack hx (y := mN_Id_isIn) (z := mN_Id_isIn) hown (mvT hZ (own_w hw 132 rfl)) (mvT hZ (own_w hw 133 rfl)) (notFace_of_selects (args := #[]) (mvT hZ (own_w hw 135 rfl))) (mvT hZ (own_w hw 135 rfl)) (mvT hZ (own_w hw 134 rfl)) (by decide) (backOf (W := 0) (rmIn2 l Z a0 hw [] b al sp y_ nb kb f e1_ v1 e2_ v2 h0 n0 (Nat.le_trans Z0 (Nat.le_refl _)) E18_al F19_al_size E6_b F11_b_space F12_b_high F13_b_low F20_al_elementData A21_nb Hf0 HNa0 E24_e1_ F25_e1__space F26_e1__high F27_e1__low Hf1 HNa1 E30_e2_ F31_e2__space F32_e2__high F33_e2__low) hZ (own_w hw 136 rfl) (own_w hw 29 rfl) (by decide) (by decide)) q34a q34c (g := (mkF m 24 #[vr a, vr b] [(.ref al), (.ref b)])) rfl (by rw [hml]; rfl) (Steps.refl _) (argsL := [(.ref al)]) (rest := []) (lenOf pd_15 rfl) rfl (by show 2 * 0 + _ ≤ _; exact Nat.le_of_eq rfl) (hb hby d16_24) (fun _ _ => ⟨rfl, e33, (by decide : 0 + 0 ≤ _), (by decide : 0 + 0 ≤ _)⟩)
  dsimp only [Pt.U, Pt.locs, Pt.cells, Pt.slots] at X34 l34 y34 z34 st34 hQ34
  replace l34 := l34.symm
  subst l34 y34 z34
  obtain ⟨rfl, rfl, e34⟩ := hQ34
  first | rw [List.append_nil] at X34 | skip
  refine Goes.tr st34 ?_
  have e34' : T34.heap = h0 := e34
  show Goes p e below _ (T34.setTop (mkF m 27 #[vr a, vr b] [(.int (if y_ = v1 then (1 : Int32) else (if y_ = v2 then (1 : Int32) else (0 : Int32))))]))
  have hc27_35 : (if y_ = v1 then (1 : Int32) else (if y_ = v2 then (1 : Int32) else (0 : Int32))) = (0 : Int32) := Hin
  refine Goes.via (fun _ kk_ => XS.ifYes X34.here hx rfl (pc0 := 27) (pc' := 32) rfl (hb hby d16_27) rfl ((if0 _ _).trans (teq hc27_35).1) (by decide) (by decide) kk_) ?_
  show Goes p e below _ (T34.setTop (mkF m 32 #[vr a, vr b] []))
  refine gALN X34 hx hby d16_32 rfl rfl ?_
  obtain ⟨T36, X36, e36, st36⟩ := getF X34 hx hZ hown (host := "") (Or.inl (own_w hw 84 rfl)) Via.refl e34' F1_a_members (g := (mkF m 33 #[vr a, vr b] [(.ref a)])) rfl rfl (hb hby d16_33)
  refine Goes.via st36 ?_
  show Goes p e below _ (T36.setTop (mkF m 36 #[vr a, vr b] [(.ref al)]))
  refine gALN X36 hx hby d16_36 rfl rfl ?_
  obtain ⟨cq37, kq37, q37a, q37b, q37c⟩ := isOf hZ e36 E18_al
  obtain ⟨_, _, ⟨T37, L37, k37, n37⟩, -, X37, ⟨Lc37, hQ37, l37, y37, z37⟩, st37⟩ := X36.interfaceBack hx (xi := mN_List_add) (y := mN_ArrayList_add_1) hown (mvT hZ (own_w hw 148 rfl)) (mvT hZ (own_w hw 149 rfl)) (mvT hZ (own_w hw 150 rfl)) (mvT hZ (own_w hw 151 rfl)) (mvT hZ (own_w hw 152 rfl)) (mvT hZ (own_w hw 153 rfl)) (mvT hZ (own_w hw 154 rfl)) (mvT hZ (own_w hw 144 rfl)) (by decide) (backOf (W := 0) (rmL1 l Z a0 hw [] al b nb (2 : Int32) mc kb f 2 h0 n0 (Nat.le_trans Z0 (Nat.le_refl _)) E18_al F20_al_elementData F19_al_size F34_al_modCount H40 H43 E6_b A21_nb OVr (by decide) (by decide) HNb) hZ (own_w hw 155 rfl) (own_w hw 62 rfl) (by decide) (by decide)) q37a q37b q37c (g := (mkF m 37 #[vr a, vr b] [(.ref b), (.ref al)])) rfl (by rw [hml]; rfl) (Steps.refl _) (argsL := [(.ref b)]) (rest := []) (lenOf pd_12 rfl) rfl (by show 2 * 0 + _ ≤ _; exact Nat.le_of_eq rfl) (hb hby d16_37) (fun _ _ => ⟨rfl, e36, (by decide : 0 + 0 ≤ _), (by decide : 0 + 0 ≤ _)⟩)
  dsimp only [Pt.U, Pt.locs, Pt.cells, Pt.slots] at X37 l37 y37 z37 st37 hQ37
  replace l37 := l37.symm
  subst l37 y37 z37
  obtain ⟨rfl, N37q, K37, u37_0, u37_1, u37_2, u37_3, u37_4⟩ := hQ37
  have N37 := Fr.app N0 N37q
  refine Goes.tr st37 ?_
  show Goes p e below _ (T37.setTop (mkF m 42 #[vr a, vr b] [(.int (1 : Int32))]))
  have Fs38 : Fld Z T37.heap al "java/util/ArrayList" "size" "I" (.int (3 : Int32)) := by have q := u37_2; rw [show ((2 : Int32) + (1 : Int32)) = (3 : Int32) by decide] at q; exact q
  refine Goes.via (fun _ kk_ => XS.pop X37.here hx rfl (hb hby d16_42) rfl rfl kk_) ?_
  show Goes p e below _ (T37.setTop (mkF m 43 #[vr a, vr b] []))
  refine gALN X37 hx hby d16_43 rfl rfl ?_
  have f39 := (F3_a_withShared.keep K37 (ninS ne4 (ninS ne5 nin0)))
  obtain ⟨T40, X40, e40, st40⟩ := getF X37 hx hZ hown (host := "") (Or.inl (own_w hw 99 rfl)) Via.refl rfl f39 (g := (mkF m 44 #[vr a, vr b] [(.ref a)])) rfl rfl (hb hby d16_44)
  refine Goes.via st40 ?_
  show Goes p e below _ (T40.setTop (mkF m 47 #[vr a, vr b] [(.ref wv)]))
  refine gALN X40 hx hby d16_47 rfl rfl ?_
  have f41 := (F2_a_owner.keep K37 (ninS ne4 (ninS ne5 nin0)))
  obtain ⟨T42, X42, e42, st42⟩ := getF X40 hx hZ hown (host := "") (Or.inl (own_w hw 86 rfl)) Via.refl e40 f41 (g := (mkF m 48 #[vr a, vr b] [(.ref a), (.ref wv)])) rfl rfl (hb hby d16_48)
  refine Goes.via st42 ?_
  show Goes p e below _ (T42.setTop (mkF m 51 #[vr a, vr b] [(.ref ow), (.ref wv)]))
  refine gALN X42 hx hby d16_51 rfl rfl ?_
  have f43 := (F8_ow_space.keep K37 (ninS ne10 (ninS ne11 nin0)))
  have f44 := (F9_ow_high.keep K37 (ninS ne10 (ninS ne11 nin0)))
  have f45 := (F10_ow_low.keep K37 (ninS ne10 (ninS ne11 nin0)))
  have f46 := (F11_b_space.keep K37 (ninS ne14 (ninS ne15 nin0)))
  have f47 := (F12_b_high.keep K37 (ninS ne14 (ninS ne15 nin0)))
  have f48 := (F13_b_low.keep K37 (ninS ne14 (ninS ne15 nin0)))
  have f49 := (E14_sp.keep K37)
  have f50 := (F15_sp_base.keep K37 (ninS ne17 (ninS ne18 nin0)))
  have f51 := (F16_sp_digits.keep K37 (ninS ne17 (ninS ne18 nin0)))
  have z53 : h0.size ≤ (T37.heap).size := (Nat.le_trans (Nat.le_refl _) K37.1)
  have f54 := (E5_ow.keep K37)
  obtain ⟨cq52, kq52, q52a, q52b, q52c⟩ := isOf hZ e42 f54
  obtain ⟨_, _, ⟨T52, L52, k52, n52⟩, -, X52, ⟨Lc52, hQ52, l52, y52, z52⟩, st52⟩ := X42.virtualBack hx (y := mN_Id_sharedPrefixLength) (z := mN_Id_sharedPrefixLength) hown (mvT hZ (own_w hw 117 rfl)) (mvT hZ (own_w hw 118 rfl)) (notFace_of_selects (args := #[]) (mvT hZ (own_w hw 120 rfl))) (mvT hZ (own_w hw 120 rfl)) (mvT hZ (own_w hw 119 rfl)) (by decide) (backOf (W := 1) (rmPre l Z a0 hw [] ow b sp w_ y_ x_ dg bp T37.heap n0 (Nat.le_trans Z0 z53) f43 f44 f45 f46 f47 f48 f49 f50 f51 HB) hZ (own_w hw 121 rfl) (own_w hw 29 rfl) (by decide) (by decide)) q52a q52c (g := (mkF m 52 #[vr a, vr b] [(.ref b), (.ref ow), (.ref wv)])) rfl (by rw [hml]; rfl) (Steps.refl _) (argsL := [(.ref b)]) (rest := [(.ref wv)]) (lenOf pd_13 rfl) rfl (by show 2 * 0 + _ ≤ _; exact Nat.le_of_eq rfl) (hb hby d16_52) (fun _ _ => ⟨rfl, e42, (by decide : 0 + 0 ≤ _), (by decide : 0 + 0 ≤ _)⟩)
  dsimp only [Pt.U, Pt.locs, Pt.cells, Pt.slots] at X52 l52 y52 z52 st52 hQ52
  replace l52 := l52.symm
  subst l52 y52 z52
  obtain ⟨rfl, rfl, e52⟩ := hQ52
  first | rw [List.append_nil] at X52 | skip
  refine Goes.tr st52 ?_
  have e52' : T52.heap = T37.heap := e52
  show Goes p e below _ (T52.setTop (mkF m 55 #[vr a, vr b] [(.int (if (w_ ^^^ y_) = (0 : Int64) then dg else (((64 : Int32) + (own_nlzL (w_ ^^^ y_))) - ((128 : Int32) - (dg * bp))) / bp)), (.ref wv)]))
  refine Goes.via (fun _ kk_ => XT.dup2 X52.here hx rfl (hb hby d16_55) rfl rfl rfl kk_) ?_
  show Goes p e below _ (T52.setTop (mkF m 56 #[vr a, vr b] [(.int (if (w_ ^^^ y_) = (0 : Int64) then dg else (((64 : Int32) + (own_nlzL (w_ ^^^ y_))) - ((128 : Int32) - (dg * bp))) / bp)), (.ref wv), (.int (if (w_ ^^^ y_) = (0 : Int64) then dg else (((64 : Int32) + (own_nlzL (w_ ^^^ y_))) - ((128 : Int32) - (dg * bp))) / bp)), (.ref wv)]))
  have f55 := (A36_wv.keep K37 (ninS (Ne.symm HNw) (ninS (Ne.symm HNx) nin0)))
  refine Goes.via (own_iaload X52 hx hZ e52' f55 (j := (if (w_ ^^^ y_) = (0 : Int64) then dg else (((64 : Int32) + (own_nlzL (w_ ^^^ y_))) - ((128 : Int32) - (dg * bp))) / bp)) (i := pn) (own_ix HP).1 (own_ix HP).2 Hpn (v := c_) Hc (g := (mkF m 56 #[vr a, vr b] [(.int (if (w_ ^^^ y_) = (0 : Int64) then dg else (((64 : Int32) + (own_nlzL (w_ ^^^ y_))) - ((128 : Int32) - (dg * bp))) / bp)), (.ref wv), (.int (if (w_ ^^^ y_) = (0 : Int64) then dg else (((64 : Int32) + (own_nlzL (w_ ^^^ y_))) - ((128 : Int32) - (dg * bp))) / bp)), (.ref wv)])) rfl rfl (hb hby d16_56)) ?_
  show Goes p e below _ (T52.setTop (mkF m 57 #[vr a, vr b] [(.int c_), (.int (if (w_ ^^^ y_) = (0 : Int64) then dg else (((64 : Int32) + (own_nlzL (w_ ^^^ y_))) - ((128 : Int32) - (dg * bp))) / bp)), (.ref wv)]))
  refine gIC (z := 1) X52 hx hby d16_57 rfl ?_
  refine Goes.via (fun _ kk_ => XS.iadd X52.here hx rfl (hb hby d16_58) rfl kk_) ?_
  show Goes p e below _ (T52.setTop (mkF m 59 #[vr a, vr b] [(.int (c_ + (1 : Int32))), (.int (if (w_ ^^^ y_) = (0 : Int64) then dg else (((64 : Int32) + (own_nlzL (w_ ^^^ y_))) - ((128 : Int32) - (dg * bp))) / bp)), (.ref wv)]))
  obtain ⟨T56, h56, X56, e56, W56, A56, st56⟩ := own_iastore X52 hx hZ e52' f55 (j := (if (w_ ^^^ y_) = (0 : Int64) then dg else (((64 : Int32) + (own_nlzL (w_ ^^^ y_))) - ((128 : Int32) - (dg * bp))) / bp)) (i := pn) (own_ix HP).1 (own_ix HP).2 Hpn (g := (mkF m 59 #[vr a, vr b] [(.int (c_ + (1 : Int32))), (.int (if (w_ ^^^ y_) = (0 : Int64) then dg else (((64 : Int32) + (own_nlzL (w_ ^^^ y_))) - ((128 : Int32) - (dg * bp))) / bp)), (.ref wv)])) rfl rfl (hb hby d16_59)
  refine Goes.via st56 ?_
  have N56 := Fr.snoc X56 N37 H41
  show Goes p e below _ (T56.setTop (mkF m 60 #[vr a, vr b] []))
  refine gIC (z := 1) X56 hx hby d16_60 rfl ?_
  have K57 : Keep h0 h56 [al, nb, wv] := (((Keep.refl h0 [al, nb, wv]).trans K37 (allS (Or.inl (List.mem_of_getElem? (i := 0) rfl)) (allS (Or.inl (List.mem_of_getElem? (i := 1) rfl)) all0))).wr W56 (Or.inl (List.mem_of_getElem? (i := 2) rfl)))
  have f58 := (u37_0.wr W56)
  have f59 := (u37_1.other W56 (Or.inl HNw))
  have f60 := (Fs38.other W56 (Or.inl HNw))
  have f61 := (u37_3.other W56 (Or.inl HNw))
  have f62 := (u37_4.other W56 HNx)
  exact own_finN X56 hx hlk hret (by simp) (hb hby d16_61) (by rw [e56]; exact ⟨rfl, N56, K57, f58, f59, f60, f61, f62, A56⟩) (by first | decide | omega | (dsimp only; omega)) (by first | decide | omega | (dsimp only; omega))
theorem own_sh {x : Int32} (k : Int32) (n : Nat) (hk : k.toBitVec.toNat % 32 = n) (h0 : 0 < n) (h : 0 ≤ x.toInt) : ((x.toUInt32 >>> (k &&& 31).toUInt32).toInt32).toInt = x.toInt / (2 ^ n : Nat) := by
  rw [c_iushr x k n hk h0]
  have q := rng32 x
  rw [Int.emod_eq_of_lt h (by omega)]
theorem own_nlzS {C y : Int32} {c S : Nat} {X : Int} (hC : C.toInt = (31 : Int) - S) (hS : S ≤ 30) (h1 : 1 ≤ y.toInt) (h3 : y.toInt ≤ 3) (hX : y.toInt = X / (2 ^ S : Nat)) (hX0 : 0 ≤ X) : ∃ m : Nat, m ≤ 31 ∧ (C - ((y.toUInt32 >>> ((1 : Int32) &&& 31).toUInt32).toInt32)).toInt = 31 - (m : Int) ∧ ((2 ^ m : Nat) : Int) ≤ X ∧ X < ((2 ^ (m + 1) : Nat) : Int) := by
  have q1 := own_sh (x := y) (1 : Int32) 1 (by decide) (by decide) (by omega)
  have q2 := c_isub C ((y.toUInt32 >>> ((1 : Int32) &&& 31).toUInt32).toInt32)
  have q3 := rng32 (C - ((y.toUInt32 >>> ((1 : Int32) &&& 31).toUInt32).toInt32))
  have p1 : (2 ^ 1 : Nat) = 2 := by decide
  rw [p1] at q1
  have hp : 0 < ((2 ^ S : Nat) : Int) := by
    have := Nat.two_pow_pos S
    omega
  have d1 := Int.mul_ediv_add_emod X ((2 ^ S : Nat) : Int)
  have d2 := Int.emod_nonneg X (Int.ne_of_gt hp)
  have d3 := Int.emod_lt_of_pos X hp
  rw [← hX] at d1
  have e1 : (2 ^ (S + 1) : Nat) = 2 * 2 ^ S := by rw [Nat.pow_succ]; omega
  have e2 : (2 ^ (S + 2) : Nat) = 4 * 2 ^ S := by rw [Nat.pow_succ, Nat.pow_succ]; omega
  generalize ((2 ^ S : Nat)) = P at *
  rcases (by omega : y.toInt = 1 ∨ y.toInt = 2 ∨ y.toInt = 3) with z | z | z
  · refine ⟨S, by omega, by omega, ?_, ?_⟩
    · rw [z] at d1; omega
    · rw [e1]; rw [z] at d1; push_cast; omega
  · refine ⟨S + 1, by omega, by omega, ?_, ?_⟩
    · rw [e1]; rw [z] at d1; push_cast; omega
    · rw [e2]; rw [z] at d1; push_cast; omega
  · refine ⟨S + 1, by omega, by omega, ?_, ?_⟩
    · rw [e1]; rw [z] at d1; push_cast; omega
    · rw [e2]; rw [z] at d1; push_cast; omega
theorem own_nlzP (x : Int32) (hx : 0 < x.toInt) : ∃ m : Nat, m ≤ 31 ∧ (own_nlzI x).toInt = 31 - (m : Int) ∧ ((2 ^ m : Nat) : Int) ≤ x.toInt ∧ x.toInt < ((2 ^ (m + 1) : Nat) : Int) := by
  have r0 := rng32 x
  have z0 : (0 : Int32).toInt = 0 := by decide
  unfold own_nlzI
  rw [if_pos (own_lti.mpr (by omega : (0 : Int32).toInt < x.toInt))]
  have eq_ : x.toInt = x.toInt / ((2 ^ 0 : Nat) : Int) := by rw [show ((2 ^ 0 : Nat) : Int) = 1 by decide]; omega
  by_cases c0 : x < (65536 : Int32)
  · rw [if_pos c0]
    have t0 : (65536 : Int32).toInt = 65536 := by decide
    have u0 := own_lti.mp c0
    have h0 : x.toInt < 65536 := by omega
    by_cases c1 : x < (256 : Int32)
    · rw [if_pos c1]
      have t1 : (256 : Int32).toInt = 256 := by decide
      have u1 := own_lti.mp c1
      have h1 : x.toInt < 256 := by omega
      by_cases c2 : x < (16 : Int32)
      · rw [if_pos c2]
        have t2 : (16 : Int32).toInt = 16 := by decide
        have u2 := own_lti.mp c2
        have h2 : x.toInt < 16 := by omega
        by_cases c3 : x < (4 : Int32)
        · rw [if_pos c3]
          have t3 : (4 : Int32).toInt = 4 := by decide
          have u3 := own_lti.mp c3
          have h3 : x.toInt < 4 := by omega
          exact own_nlzS (c := 0) (S := 0) (by decide) (by decide) (by omega) (by omega) eq_ (by omega)
        · rw [if_neg c3]
          have t3 : (4 : Int32).toInt = 4 := by decide
          have u3 : ¬ _ := fun q => c3 (own_lti.mpr q)
          have s3 := own_sh (x := x) (2 : Int32) 2 (by decide) (by decide) (by omega)
          rw [show ((2 ^ 2 : Nat) : Int) = 4 by decide] at s3
          have l3 : 1 ≤ ((x.toUInt32 >>> ((2 : Int32) &&& 31).toUInt32).toInt32).toInt := by omega
          have h3 : ((x.toUInt32 >>> ((2 : Int32) &&& 31).toUInt32).toInt32).toInt < 4 := by omega
          have q3 : ((x.toUInt32 >>> ((2 : Int32) &&& 31).toUInt32).toInt32).toInt = x.toInt / ((2 ^ 2 : Nat) : Int) := by rw [show ((2 ^ 2 : Nat) : Int) = 4 by decide]; rw [show ((2 ^ 0 : Nat) : Int) = 1 by decide] at eq_; omega
          exact own_nlzS (c := 0) (S := 2) (by decide) (by decide) l3 (by omega) q3 (by omega)
      · rw [if_neg c2]
        have t2 : (16 : Int32).toInt = 16 := by decide
        have u2 : ¬ _ := fun q => c2 (own_lti.mpr q)
        have s2 := own_sh (x := x) (4 : Int32) 4 (by decide) (by decide) (by omega)
        rw [show ((2 ^ 4 : Nat) : Int) = 16 by decide] at s2
        have l2 : 1 ≤ ((x.toUInt32 >>> ((4 : Int32) &&& 31).toUInt32).toInt32).toInt := by omega
        have h2 : ((x.toUInt32 >>> ((4 : Int32) &&& 31).toUInt32).toInt32).toInt < 16 := by omega
        have q2 : ((x.toUInt32 >>> ((4 : Int32) &&& 31).toUInt32).toInt32).toInt = x.toInt / ((2 ^ 4 : Nat) : Int) := by rw [show ((2 ^ 4 : Nat) : Int) = 16 by decide]; rw [show ((2 ^ 0 : Nat) : Int) = 1 by decide] at eq_; omega
        by_cases c3 : ((x.toUInt32 >>> ((4 : Int32) &&& 31).toUInt32).toInt32) < (4 : Int32)
        · rw [if_pos c3]
          have t3 : (4 : Int32).toInt = 4 := by decide
          have u3 := own_lti.mp c3
          have h3 : ((x.toUInt32 >>> ((4 : Int32) &&& 31).toUInt32).toInt32).toInt < 4 := by omega
          exact own_nlzS (c := 0) (S := 4) (by decide) (by decide) l2 (by omega) q2 (by omega)
        · rw [if_neg c3]
          have t3 : (4 : Int32).toInt = 4 := by decide
          have u3 : ¬ _ := fun q => c3 (own_lti.mpr q)
          have s3 := own_sh (x := ((x.toUInt32 >>> ((4 : Int32) &&& 31).toUInt32).toInt32)) (2 : Int32) 2 (by decide) (by decide) (by omega)
          rw [show ((2 ^ 2 : Nat) : Int) = 4 by decide] at s3
          have l3 : 1 ≤ ((((x.toUInt32 >>> ((4 : Int32) &&& 31).toUInt32).toInt32).toUInt32 >>> ((2 : Int32) &&& 31).toUInt32).toInt32).toInt := by omega
          have h3 : ((((x.toUInt32 >>> ((4 : Int32) &&& 31).toUInt32).toInt32).toUInt32 >>> ((2 : Int32) &&& 31).toUInt32).toInt32).toInt < 4 := by omega
          have q3 : ((((x.toUInt32 >>> ((4 : Int32) &&& 31).toUInt32).toInt32).toUInt32 >>> ((2 : Int32) &&& 31).toUInt32).toInt32).toInt = x.toInt / ((2 ^ 6 : Nat) : Int) := by rw [show ((2 ^ 6 : Nat) : Int) = 64 by decide]; rw [show ((2 ^ 4 : Nat) : Int) = 16 by decide] at q2; omega
          exact own_nlzS (c := 0) (S := 6) (by decide) (by decide) l3 (by omega) q3 (by omega)
    · rw [if_neg c1]
      have t1 : (256 : Int32).toInt = 256 := by decide
      have u1 : ¬ _ := fun q => c1 (own_lti.mpr q)
      have s1 := own_sh (x := x) (8 : Int32) 8 (by decide) (by decide) (by omega)
      rw [show ((2 ^ 8 : Nat) : Int) = 256 by decide] at s1
      have l1 : 1 ≤ ((x.toUInt32 >>> ((8 : Int32) &&& 31).toUInt32).toInt32).toInt := by omega
      have h1 : ((x.toUInt32 >>> ((8 : Int32) &&& 31).toUInt32).toInt32).toInt < 256 := by omega
      have q1 : ((x.toUInt32 >>> ((8 : Int32) &&& 31).toUInt32).toInt32).toInt = x.toInt / ((2 ^ 8 : Nat) : Int) := by rw [show ((2 ^ 8 : Nat) : Int) = 256 by decide]; rw [show ((2 ^ 0 : Nat) : Int) = 1 by decide] at eq_; omega
      by_cases c2 : ((x.toUInt32 >>> ((8 : Int32) &&& 31).toUInt32).toInt32) < (16 : Int32)
      · rw [if_pos c2]
        have t2 : (16 : Int32).toInt = 16 := by decide
        have u2 := own_lti.mp c2
        have h2 : ((x.toUInt32 >>> ((8 : Int32) &&& 31).toUInt32).toInt32).toInt < 16 := by omega
        by_cases c3 : ((x.toUInt32 >>> ((8 : Int32) &&& 31).toUInt32).toInt32) < (4 : Int32)
        · rw [if_pos c3]
          have t3 : (4 : Int32).toInt = 4 := by decide
          have u3 := own_lti.mp c3
          have h3 : ((x.toUInt32 >>> ((8 : Int32) &&& 31).toUInt32).toInt32).toInt < 4 := by omega
          exact own_nlzS (c := 0) (S := 8) (by decide) (by decide) l1 (by omega) q1 (by omega)
        · rw [if_neg c3]
          have t3 : (4 : Int32).toInt = 4 := by decide
          have u3 : ¬ _ := fun q => c3 (own_lti.mpr q)
          have s3 := own_sh (x := ((x.toUInt32 >>> ((8 : Int32) &&& 31).toUInt32).toInt32)) (2 : Int32) 2 (by decide) (by decide) (by omega)
          rw [show ((2 ^ 2 : Nat) : Int) = 4 by decide] at s3
          have l3 : 1 ≤ ((((x.toUInt32 >>> ((8 : Int32) &&& 31).toUInt32).toInt32).toUInt32 >>> ((2 : Int32) &&& 31).toUInt32).toInt32).toInt := by omega
          have h3 : ((((x.toUInt32 >>> ((8 : Int32) &&& 31).toUInt32).toInt32).toUInt32 >>> ((2 : Int32) &&& 31).toUInt32).toInt32).toInt < 4 := by omega
          have q3 : ((((x.toUInt32 >>> ((8 : Int32) &&& 31).toUInt32).toInt32).toUInt32 >>> ((2 : Int32) &&& 31).toUInt32).toInt32).toInt = x.toInt / ((2 ^ 10 : Nat) : Int) := by rw [show ((2 ^ 10 : Nat) : Int) = 1024 by decide]; rw [show ((2 ^ 8 : Nat) : Int) = 256 by decide] at q1; omega
          exact own_nlzS (c := 0) (S := 10) (by decide) (by decide) l3 (by omega) q3 (by omega)
      · rw [if_neg c2]
        have t2 : (16 : Int32).toInt = 16 := by decide
        have u2 : ¬ _ := fun q => c2 (own_lti.mpr q)
        have s2 := own_sh (x := ((x.toUInt32 >>> ((8 : Int32) &&& 31).toUInt32).toInt32)) (4 : Int32) 4 (by decide) (by decide) (by omega)
        rw [show ((2 ^ 4 : Nat) : Int) = 16 by decide] at s2
        have l2 : 1 ≤ ((((x.toUInt32 >>> ((8 : Int32) &&& 31).toUInt32).toInt32).toUInt32 >>> ((4 : Int32) &&& 31).toUInt32).toInt32).toInt := by omega
        have h2 : ((((x.toUInt32 >>> ((8 : Int32) &&& 31).toUInt32).toInt32).toUInt32 >>> ((4 : Int32) &&& 31).toUInt32).toInt32).toInt < 16 := by omega
        have q2 : ((((x.toUInt32 >>> ((8 : Int32) &&& 31).toUInt32).toInt32).toUInt32 >>> ((4 : Int32) &&& 31).toUInt32).toInt32).toInt = x.toInt / ((2 ^ 12 : Nat) : Int) := by rw [show ((2 ^ 12 : Nat) : Int) = 4096 by decide]; rw [show ((2 ^ 8 : Nat) : Int) = 256 by decide] at q1; omega
        by_cases c3 : ((((x.toUInt32 >>> ((8 : Int32) &&& 31).toUInt32).toInt32).toUInt32 >>> ((4 : Int32) &&& 31).toUInt32).toInt32) < (4 : Int32)
        · rw [if_pos c3]
          have t3 : (4 : Int32).toInt = 4 := by decide
          have u3 := own_lti.mp c3
          have h3 : ((((x.toUInt32 >>> ((8 : Int32) &&& 31).toUInt32).toInt32).toUInt32 >>> ((4 : Int32) &&& 31).toUInt32).toInt32).toInt < 4 := by omega
          exact own_nlzS (c := 0) (S := 12) (by decide) (by decide) l2 (by omega) q2 (by omega)
        · rw [if_neg c3]
          have t3 : (4 : Int32).toInt = 4 := by decide
          have u3 : ¬ _ := fun q => c3 (own_lti.mpr q)
          have s3 := own_sh (x := ((((x.toUInt32 >>> ((8 : Int32) &&& 31).toUInt32).toInt32).toUInt32 >>> ((4 : Int32) &&& 31).toUInt32).toInt32)) (2 : Int32) 2 (by decide) (by decide) (by omega)
          rw [show ((2 ^ 2 : Nat) : Int) = 4 by decide] at s3
          have l3 : 1 ≤ ((((((x.toUInt32 >>> ((8 : Int32) &&& 31).toUInt32).toInt32).toUInt32 >>> ((4 : Int32) &&& 31).toUInt32).toInt32).toUInt32 >>> ((2 : Int32) &&& 31).toUInt32).toInt32).toInt := by omega
          have h3 : ((((((x.toUInt32 >>> ((8 : Int32) &&& 31).toUInt32).toInt32).toUInt32 >>> ((4 : Int32) &&& 31).toUInt32).toInt32).toUInt32 >>> ((2 : Int32) &&& 31).toUInt32).toInt32).toInt < 4 := by omega
          have q3 : ((((((x.toUInt32 >>> ((8 : Int32) &&& 31).toUInt32).toInt32).toUInt32 >>> ((4 : Int32) &&& 31).toUInt32).toInt32).toUInt32 >>> ((2 : Int32) &&& 31).toUInt32).toInt32).toInt = x.toInt / ((2 ^ 14 : Nat) : Int) := by rw [show ((2 ^ 14 : Nat) : Int) = 16384 by decide]; rw [show ((2 ^ 12 : Nat) : Int) = 4096 by decide] at q2; omega
          exact own_nlzS (c := 0) (S := 14) (by decide) (by decide) l3 (by omega) q3 (by omega)
  · rw [if_neg c0]
    have t0 : (65536 : Int32).toInt = 65536 := by decide
    have u0 : ¬ _ := fun q => c0 (own_lti.mpr q)
    have s0 := own_sh (x := x) (16 : Int32) 16 (by decide) (by decide) (by omega)
    rw [show ((2 ^ 16 : Nat) : Int) = 65536 by decide] at s0
    have l0 : 1 ≤ ((x.toUInt32 >>> ((16 : Int32) &&& 31).toUInt32).toInt32).toInt := by omega
    have h0 : ((x.toUInt32 >>> ((16 : Int32) &&& 31).toUInt32).toInt32).toInt < 65536 := by omega
    have q0 : ((x.toUInt32 >>> ((16 : Int32) &&& 31).toUInt32).toInt32).toInt = x.toInt / ((2 ^ 16 : Nat) : Int) := by rw [show ((2 ^ 16 : Nat) : Int) = 65536 by decide]; rw [show ((2 ^ 0 : Nat) : Int) = 1 by decide] at eq_; omega
    by_cases c1 : ((x.toUInt32 >>> ((16 : Int32) &&& 31).toUInt32).toInt32) < (256 : Int32)
    · rw [if_pos c1]
      have t1 : (256 : Int32).toInt = 256 := by decide
      have u1 := own_lti.mp c1
      have h1 : ((x.toUInt32 >>> ((16 : Int32) &&& 31).toUInt32).toInt32).toInt < 256 := by omega
      by_cases c2 : ((x.toUInt32 >>> ((16 : Int32) &&& 31).toUInt32).toInt32) < (16 : Int32)
      · rw [if_pos c2]
        have t2 : (16 : Int32).toInt = 16 := by decide
        have u2 := own_lti.mp c2
        have h2 : ((x.toUInt32 >>> ((16 : Int32) &&& 31).toUInt32).toInt32).toInt < 16 := by omega
        by_cases c3 : ((x.toUInt32 >>> ((16 : Int32) &&& 31).toUInt32).toInt32) < (4 : Int32)
        · rw [if_pos c3]
          have t3 : (4 : Int32).toInt = 4 := by decide
          have u3 := own_lti.mp c3
          have h3 : ((x.toUInt32 >>> ((16 : Int32) &&& 31).toUInt32).toInt32).toInt < 4 := by omega
          exact own_nlzS (c := 0) (S := 16) (by decide) (by decide) l0 (by omega) q0 (by omega)
        · rw [if_neg c3]
          have t3 : (4 : Int32).toInt = 4 := by decide
          have u3 : ¬ _ := fun q => c3 (own_lti.mpr q)
          have s3 := own_sh (x := ((x.toUInt32 >>> ((16 : Int32) &&& 31).toUInt32).toInt32)) (2 : Int32) 2 (by decide) (by decide) (by omega)
          rw [show ((2 ^ 2 : Nat) : Int) = 4 by decide] at s3
          have l3 : 1 ≤ ((((x.toUInt32 >>> ((16 : Int32) &&& 31).toUInt32).toInt32).toUInt32 >>> ((2 : Int32) &&& 31).toUInt32).toInt32).toInt := by omega
          have h3 : ((((x.toUInt32 >>> ((16 : Int32) &&& 31).toUInt32).toInt32).toUInt32 >>> ((2 : Int32) &&& 31).toUInt32).toInt32).toInt < 4 := by omega
          have q3 : ((((x.toUInt32 >>> ((16 : Int32) &&& 31).toUInt32).toInt32).toUInt32 >>> ((2 : Int32) &&& 31).toUInt32).toInt32).toInt = x.toInt / ((2 ^ 18 : Nat) : Int) := by rw [show ((2 ^ 18 : Nat) : Int) = 262144 by decide]; rw [show ((2 ^ 16 : Nat) : Int) = 65536 by decide] at q0; omega
          exact own_nlzS (c := 0) (S := 18) (by decide) (by decide) l3 (by omega) q3 (by omega)
      · rw [if_neg c2]
        have t2 : (16 : Int32).toInt = 16 := by decide
        have u2 : ¬ _ := fun q => c2 (own_lti.mpr q)
        have s2 := own_sh (x := ((x.toUInt32 >>> ((16 : Int32) &&& 31).toUInt32).toInt32)) (4 : Int32) 4 (by decide) (by decide) (by omega)
        rw [show ((2 ^ 4 : Nat) : Int) = 16 by decide] at s2
        have l2 : 1 ≤ ((((x.toUInt32 >>> ((16 : Int32) &&& 31).toUInt32).toInt32).toUInt32 >>> ((4 : Int32) &&& 31).toUInt32).toInt32).toInt := by omega
        have h2 : ((((x.toUInt32 >>> ((16 : Int32) &&& 31).toUInt32).toInt32).toUInt32 >>> ((4 : Int32) &&& 31).toUInt32).toInt32).toInt < 16 := by omega
        have q2 : ((((x.toUInt32 >>> ((16 : Int32) &&& 31).toUInt32).toInt32).toUInt32 >>> ((4 : Int32) &&& 31).toUInt32).toInt32).toInt = x.toInt / ((2 ^ 20 : Nat) : Int) := by rw [show ((2 ^ 20 : Nat) : Int) = 1048576 by decide]; rw [show ((2 ^ 16 : Nat) : Int) = 65536 by decide] at q0; omega
        by_cases c3 : ((((x.toUInt32 >>> ((16 : Int32) &&& 31).toUInt32).toInt32).toUInt32 >>> ((4 : Int32) &&& 31).toUInt32).toInt32) < (4 : Int32)
        · rw [if_pos c3]
          have t3 : (4 : Int32).toInt = 4 := by decide
          have u3 := own_lti.mp c3
          have h3 : ((((x.toUInt32 >>> ((16 : Int32) &&& 31).toUInt32).toInt32).toUInt32 >>> ((4 : Int32) &&& 31).toUInt32).toInt32).toInt < 4 := by omega
          exact own_nlzS (c := 0) (S := 20) (by decide) (by decide) l2 (by omega) q2 (by omega)
        · rw [if_neg c3]
          have t3 : (4 : Int32).toInt = 4 := by decide
          have u3 : ¬ _ := fun q => c3 (own_lti.mpr q)
          have s3 := own_sh (x := ((((x.toUInt32 >>> ((16 : Int32) &&& 31).toUInt32).toInt32).toUInt32 >>> ((4 : Int32) &&& 31).toUInt32).toInt32)) (2 : Int32) 2 (by decide) (by decide) (by omega)
          rw [show ((2 ^ 2 : Nat) : Int) = 4 by decide] at s3
          have l3 : 1 ≤ ((((((x.toUInt32 >>> ((16 : Int32) &&& 31).toUInt32).toInt32).toUInt32 >>> ((4 : Int32) &&& 31).toUInt32).toInt32).toUInt32 >>> ((2 : Int32) &&& 31).toUInt32).toInt32).toInt := by omega
          have h3 : ((((((x.toUInt32 >>> ((16 : Int32) &&& 31).toUInt32).toInt32).toUInt32 >>> ((4 : Int32) &&& 31).toUInt32).toInt32).toUInt32 >>> ((2 : Int32) &&& 31).toUInt32).toInt32).toInt < 4 := by omega
          have q3 : ((((((x.toUInt32 >>> ((16 : Int32) &&& 31).toUInt32).toInt32).toUInt32 >>> ((4 : Int32) &&& 31).toUInt32).toInt32).toUInt32 >>> ((2 : Int32) &&& 31).toUInt32).toInt32).toInt = x.toInt / ((2 ^ 22 : Nat) : Int) := by rw [show ((2 ^ 22 : Nat) : Int) = 4194304 by decide]; rw [show ((2 ^ 20 : Nat) : Int) = 1048576 by decide] at q2; omega
          exact own_nlzS (c := 0) (S := 22) (by decide) (by decide) l3 (by omega) q3 (by omega)
    · rw [if_neg c1]
      have t1 : (256 : Int32).toInt = 256 := by decide
      have u1 : ¬ _ := fun q => c1 (own_lti.mpr q)
      have s1 := own_sh (x := ((x.toUInt32 >>> ((16 : Int32) &&& 31).toUInt32).toInt32)) (8 : Int32) 8 (by decide) (by decide) (by omega)
      rw [show ((2 ^ 8 : Nat) : Int) = 256 by decide] at s1
      have l1 : 1 ≤ ((((x.toUInt32 >>> ((16 : Int32) &&& 31).toUInt32).toInt32).toUInt32 >>> ((8 : Int32) &&& 31).toUInt32).toInt32).toInt := by omega
      have h1 : ((((x.toUInt32 >>> ((16 : Int32) &&& 31).toUInt32).toInt32).toUInt32 >>> ((8 : Int32) &&& 31).toUInt32).toInt32).toInt < 256 := by omega
      have q1 : ((((x.toUInt32 >>> ((16 : Int32) &&& 31).toUInt32).toInt32).toUInt32 >>> ((8 : Int32) &&& 31).toUInt32).toInt32).toInt = x.toInt / ((2 ^ 24 : Nat) : Int) := by rw [show ((2 ^ 24 : Nat) : Int) = 16777216 by decide]; rw [show ((2 ^ 16 : Nat) : Int) = 65536 by decide] at q0; omega
      by_cases c2 : ((((x.toUInt32 >>> ((16 : Int32) &&& 31).toUInt32).toInt32).toUInt32 >>> ((8 : Int32) &&& 31).toUInt32).toInt32) < (16 : Int32)
      · rw [if_pos c2]
        have t2 : (16 : Int32).toInt = 16 := by decide
        have u2 := own_lti.mp c2
        have h2 : ((((x.toUInt32 >>> ((16 : Int32) &&& 31).toUInt32).toInt32).toUInt32 >>> ((8 : Int32) &&& 31).toUInt32).toInt32).toInt < 16 := by omega
        by_cases c3 : ((((x.toUInt32 >>> ((16 : Int32) &&& 31).toUInt32).toInt32).toUInt32 >>> ((8 : Int32) &&& 31).toUInt32).toInt32) < (4 : Int32)
        · rw [if_pos c3]
          have t3 : (4 : Int32).toInt = 4 := by decide
          have u3 := own_lti.mp c3
          have h3 : ((((x.toUInt32 >>> ((16 : Int32) &&& 31).toUInt32).toInt32).toUInt32 >>> ((8 : Int32) &&& 31).toUInt32).toInt32).toInt < 4 := by omega
          exact own_nlzS (c := 0) (S := 24) (by decide) (by decide) l1 (by omega) q1 (by omega)
        · rw [if_neg c3]
          have t3 : (4 : Int32).toInt = 4 := by decide
          have u3 : ¬ _ := fun q => c3 (own_lti.mpr q)
          have s3 := own_sh (x := ((((x.toUInt32 >>> ((16 : Int32) &&& 31).toUInt32).toInt32).toUInt32 >>> ((8 : Int32) &&& 31).toUInt32).toInt32)) (2 : Int32) 2 (by decide) (by decide) (by omega)
          rw [show ((2 ^ 2 : Nat) : Int) = 4 by decide] at s3
          have l3 : 1 ≤ ((((((x.toUInt32 >>> ((16 : Int32) &&& 31).toUInt32).toInt32).toUInt32 >>> ((8 : Int32) &&& 31).toUInt32).toInt32).toUInt32 >>> ((2 : Int32) &&& 31).toUInt32).toInt32).toInt := by omega
          have h3 : ((((((x.toUInt32 >>> ((16 : Int32) &&& 31).toUInt32).toInt32).toUInt32 >>> ((8 : Int32) &&& 31).toUInt32).toInt32).toUInt32 >>> ((2 : Int32) &&& 31).toUInt32).toInt32).toInt < 4 := by omega
          have q3 : ((((((x.toUInt32 >>> ((16 : Int32) &&& 31).toUInt32).toInt32).toUInt32 >>> ((8 : Int32) &&& 31).toUInt32).toInt32).toUInt32 >>> ((2 : Int32) &&& 31).toUInt32).toInt32).toInt = x.toInt / ((2 ^ 26 : Nat) : Int) := by rw [show ((2 ^ 26 : Nat) : Int) = 67108864 by decide]; rw [show ((2 ^ 24 : Nat) : Int) = 16777216 by decide] at q1; omega
          exact own_nlzS (c := 0) (S := 26) (by decide) (by decide) l3 (by omega) q3 (by omega)
      · rw [if_neg c2]
        have t2 : (16 : Int32).toInt = 16 := by decide
        have u2 : ¬ _ := fun q => c2 (own_lti.mpr q)
        have s2 := own_sh (x := ((((x.toUInt32 >>> ((16 : Int32) &&& 31).toUInt32).toInt32).toUInt32 >>> ((8 : Int32) &&& 31).toUInt32).toInt32)) (4 : Int32) 4 (by decide) (by decide) (by omega)
        rw [show ((2 ^ 4 : Nat) : Int) = 16 by decide] at s2
        have l2 : 1 ≤ ((((((x.toUInt32 >>> ((16 : Int32) &&& 31).toUInt32).toInt32).toUInt32 >>> ((8 : Int32) &&& 31).toUInt32).toInt32).toUInt32 >>> ((4 : Int32) &&& 31).toUInt32).toInt32).toInt := by omega
        have h2 : ((((((x.toUInt32 >>> ((16 : Int32) &&& 31).toUInt32).toInt32).toUInt32 >>> ((8 : Int32) &&& 31).toUInt32).toInt32).toUInt32 >>> ((4 : Int32) &&& 31).toUInt32).toInt32).toInt < 16 := by omega
        have q2 : ((((((x.toUInt32 >>> ((16 : Int32) &&& 31).toUInt32).toInt32).toUInt32 >>> ((8 : Int32) &&& 31).toUInt32).toInt32).toUInt32 >>> ((4 : Int32) &&& 31).toUInt32).toInt32).toInt = x.toInt / ((2 ^ 28 : Nat) : Int) := by rw [show ((2 ^ 28 : Nat) : Int) = 268435456 by decide]; rw [show ((2 ^ 24 : Nat) : Int) = 16777216 by decide] at q1; omega
        by_cases c3 : ((((((x.toUInt32 >>> ((16 : Int32) &&& 31).toUInt32).toInt32).toUInt32 >>> ((8 : Int32) &&& 31).toUInt32).toInt32).toUInt32 >>> ((4 : Int32) &&& 31).toUInt32).toInt32) < (4 : Int32)
        · rw [if_pos c3]
          have t3 : (4 : Int32).toInt = 4 := by decide
          have u3 := own_lti.mp c3
          have h3 : ((((((x.toUInt32 >>> ((16 : Int32) &&& 31).toUInt32).toInt32).toUInt32 >>> ((8 : Int32) &&& 31).toUInt32).toInt32).toUInt32 >>> ((4 : Int32) &&& 31).toUInt32).toInt32).toInt < 4 := by omega
          exact own_nlzS (c := 0) (S := 28) (by decide) (by decide) l2 (by omega) q2 (by omega)
        · rw [if_neg c3]
          have t3 : (4 : Int32).toInt = 4 := by decide
          have u3 : ¬ _ := fun q => c3 (own_lti.mpr q)
          have s3 := own_sh (x := ((((((x.toUInt32 >>> ((16 : Int32) &&& 31).toUInt32).toInt32).toUInt32 >>> ((8 : Int32) &&& 31).toUInt32).toInt32).toUInt32 >>> ((4 : Int32) &&& 31).toUInt32).toInt32)) (2 : Int32) 2 (by decide) (by decide) (by omega)
          rw [show ((2 ^ 2 : Nat) : Int) = 4 by decide] at s3
          have l3 : 1 ≤ ((((((((x.toUInt32 >>> ((16 : Int32) &&& 31).toUInt32).toInt32).toUInt32 >>> ((8 : Int32) &&& 31).toUInt32).toInt32).toUInt32 >>> ((4 : Int32) &&& 31).toUInt32).toInt32).toUInt32 >>> ((2 : Int32) &&& 31).toUInt32).toInt32).toInt := by omega
          have h3 : ((((((((x.toUInt32 >>> ((16 : Int32) &&& 31).toUInt32).toInt32).toUInt32 >>> ((8 : Int32) &&& 31).toUInt32).toInt32).toUInt32 >>> ((4 : Int32) &&& 31).toUInt32).toInt32).toUInt32 >>> ((2 : Int32) &&& 31).toUInt32).toInt32).toInt < 4 := by omega
          have q3 : ((((((((x.toUInt32 >>> ((16 : Int32) &&& 31).toUInt32).toInt32).toUInt32 >>> ((8 : Int32) &&& 31).toUInt32).toInt32).toUInt32 >>> ((4 : Int32) &&& 31).toUInt32).toInt32).toUInt32 >>> ((2 : Int32) &&& 31).toUInt32).toInt32).toInt = x.toInt / ((2 ^ 30 : Nat) : Int) := by rw [show ((2 ^ 30 : Nat) : Int) = 1073741824 by decide]; rw [show ((2 ^ 28 : Nat) : Int) = 268435456 by decide] at q2; omega
          exact own_nlzS (c := 0) (S := 30) (by decide) (by decide) l3 (by omega) q3 (by omega)
theorem own_nlzN (x : Int32) (h : x.toInt < 0) : own_nlzI x = (0 : Int32) := by
  have z0 : (0 : Int32).toInt = 0 := by decide
  unfold own_nlzI
  rw [if_neg (fun q => by have := own_lti.mp q; omega), if_neg (fun q => by rw [q] at h; omega)]
theorem own_nlzLP (x : Int64) (hx : 0 < x.toInt) : ∃ m : Nat, m ≤ 63 ∧ (own_nlzL x).toInt = 63 - (m : Int) ∧ ((2 ^ m : Nat) : Int) ≤ x.toInt ∧ x.toInt < ((2 ^ (m + 1) : Nat) : Int) := by
  have r0 := rng64 x
  have s0 := c_lushr x (32 : Int32) 32 (by decide) (by decide)
  rw [Int.emod_eq_of_lt (by omega) (by omega), show ((2 ^ 32 : Nat) : Int) = 4294967296 by decide] at s0
  have s1 := c_l2i ((x.toUInt64 >>> ((32 : Int32) &&& 0x3f).toInt64.toUInt64).toInt64)
  have s2 := rng32 ((x.toUInt64 >>> ((32 : Int32) &&& 0x3f).toInt64.toUInt64).toInt64).toInt32
  unfold own_nlzL
  generalize ((x.toUInt64 >>> ((32 : Int32) &&& 0x3f).toInt64.toUInt64).toInt64).toInt32 = y at *
  have e : y.toInt = x.toInt / 4294967296 := by omega
  have z0 : (0 : Int32).toInt = 0 := by decide
  by_cases h : y = (0 : Int32)
  · rw [if_pos h]
    rw [h, z0] at e
    have t1 := c_l2i x
    have t2 := rng32 x.toInt32
    have a1 := c_iadd (32 : Int32) (own_nlzI x.toInt32)
    have a2 := rng32 ((32 : Int32) + own_nlzI x.toInt32)
    have a3 : (32 : Int32).toInt = 32 := by decide
    by_cases q : x.toInt < 2147483648
    · have e2 : x.toInt32.toInt = x.toInt := by omega
      obtain ⟨m, m1, m2, m3, m4⟩ := own_nlzP x.toInt32 (by omega)
      rw [e2] at m3 m4
      exact ⟨m, by omega, by omega, m3, m4⟩
    · have n := own_nlzN x.toInt32 (by omega)
      rw [n, z0] at a1
      rw [n] at a2 ⊢
      refine ⟨31, by decide, by omega, ?_, ?_⟩
      · rw [show ((2 ^ 31 : Nat) : Int) = 2147483648 by decide]; omega
      · rw [show ((2 ^ (31 + 1) : Nat) : Int) = 4294967296 by decide]; omega
  · rw [if_neg h]
    have h' : y.toInt ≠ 0 := fun q => h (Int32.toInt_inj.mp (q.trans z0.symm))
    obtain ⟨m, m1, m2, m3, m4⟩ := own_nlzP y (by omega)
    refine ⟨m + 32, by omega, by omega, ?_, ?_⟩
    · rw [Nat.pow_add, show (2 ^ 32 : Nat) = 4294967296 by decide]; generalize (2 ^ m : Nat) = P at *; omega
    · rw [show m + 32 + 1 = (m + 1) + 32 by omega, Nat.pow_add, show (2 ^ 32 : Nat) = 4294967296 by decide]; generalize (2 ^ (m + 1) : Nat) = P at *; omega

theorem own_enum {x : Int32} {n : Nat} (h0 : 0 ≤ x.toInt) (h1 : x.toInt < n) : ∃ k, k < n ∧ x = Int32.ofNat k := by
  refine ⟨x.toInt.toNat, by omega, ?_⟩
  have := rng32 x
  apply Int32.toInt_inj.mp
  rw [Int32.toInt_ofNat_of_lt (by omega)]
  omega
theorem own_bbS {z x b : Int32} (hb : (1 : Int32) + (z &&& (3 : Int32)) = b) (hx : ((1 : Int32) <<< (b &&& 31)) = x) : own_bb x b := by
  have q := c_and z 3 (by decide)
  have e3 : (3 : Int32).toInt = 3 := by decide
  rw [e3] at q
  obtain ⟨k, hk, e⟩ := own_enum (x := z &&& 3) (n := 4) q.1 (by omega)
  rw [e] at hb
  subst hb hx
  match k, hk with
  | 0, _ => exact Or.inl ⟨by decide, by decide⟩
  | 1, _ => exact Or.inr (Or.inl ⟨by decide, by decide⟩)
  | 2, _ => exact Or.inr (Or.inr (Or.inl ⟨by decide, by decide⟩))
  | 3, _ => exact Or.inr (Or.inr (Or.inr ⟨by decide, by decide⟩))
theorem own_dgr {z d : Int32} (hd : (1 : Int32) + (z &&& (7 : Int32)) = d) : 1 ≤ d.toInt ∧ d.toInt ≤ 8 := by
  have q := c_and z 7 (by decide)
  have e7 : (7 : Int32).toInt = 7 := by decide
  have e1 : (1 : Int32).toInt = 1 := by decide
  have q1 := c_iadd (1 : Int32) (z &&& 7)
  have q2 := rng32 d
  rw [hd] at q1
  omega
/-- the mask -/
theorem own_mk {x b d : Int32} {B : Nat} (h : own_bb x b) (h1 : 1 ≤ d.toInt) (h8 : d.toInt ≤ 8) (hB : (B : Int) = d.toInt * b.toInt) : B ≤ 32 ∧ (((1 : Int64) <<< ((d * b) &&& 0x3f).toInt64) - (1 : Int64)).toBitVec.toNat = 2 ^ B - 1 ∧ (d * b).toInt = (B : Int) := by
  obtain ⟨k, hk, rfl⟩ := own_enum (x := d) (n := 9) (by omega) (by omega)
  have hk1 : k ≠ 0 := by
    rintro rfl
    revert h1
    decide
  have key : ∀ k < 9, k ≠ 0 → ∀ b ∈ [(1 : Int32), 2, 3, 4], (((1 : Int64) <<< (((Int32.ofNat k) * b) &&& 0x3f).toInt64) - (1 : Int64)).toBitVec.toNat = 2 ^ ((Int32.ofNat k).toInt * b.toInt).toNat - 1 ∧ ((Int32.ofNat k) * b).toInt = (Int32.ofNat k).toInt * b.toInt ∧ (Int32.ofNat k).toInt * b.toInt ≤ 32 := by decide
  have hb : b ∈ [(1 : Int32), 2, 3, 4] := by
    rcases h with ⟨-, rfl⟩ | ⟨-, rfl⟩ | ⟨-, rfl⟩ | ⟨-, rfl⟩ <;> decide
  have q := key k hk hk1 b hb
  rw [← hB] at q
  exact ⟨by omega, by simpa using q.1, q.2.1⟩
theorem own_cut {x b d : Int32} {mk o v : Int64} {B : Nat} (h : own_bb x b) (h1 : 1 ≤ d.toInt) (h8 : d.toInt ≤ 8) (hB : (B : Int) = d.toInt * b.toInt) (hm : (((1 : Int64) <<< ((d * b) &&& 0x3f).toInt64) - (1 : Int64)) = mk) (hv : o &&& mk = v) : (v &&& (((1 : Int64) <<< ((d * b) &&& 0x3f).toInt64) - (1 : Int64))) = v := by
  rw [hm, ← hv, Int64.and_assoc, Int64.and_self]
theorem own_pfx {x b d : Int32} {w y : Int64} {B nd : Nat} (h : own_bb x b) (h1 : 1 ≤ d.toInt) (h8 : d.toInt ≤ 8) (hn : d.toInt = (nd : Int)) (hB : (B : Int) = d.toInt * b.toInt) (hw : (w &&& (((1 : Int64) <<< ((d * b) &&& 0x3f).toInt64) - (1 : Int64))) = w) (hy : (y &&& (((1 : Int64) <<< ((d * b) &&& 0x3f).toInt64) - (1 : Int64))) = y) (hne : ¬ y = w) :
    ∃ pn : Nat, (if (w ^^^ y) = (0 : Int64) then d else (((64 : Int32) + (own_nlzL (w ^^^ y))) - ((128 : Int32) - (d * b))) / b).toInt = (pn : Int) ∧ pn < nd ∧ ¬ (if (w ^^^ y) = (0 : Int64) then d else (((64 : Int32) + (own_nlzL (w ^^^ y))) - ((128 : Int32) - (d * b))) / b) < (0 : Int32) ∧
      ∀ (t : Int32) (dn : Nat), t.toInt = (dn : Int) → own_shares y w t d b = if dn ≤ pn then (1 : Int32) else (0 : Int32) := by
  obtain ⟨hB32, hmk, hdb⟩ := own_mk h h1 h8 hB
  have hx0 : ¬ (w ^^^ y) = (0 : Int64) := fun q => hne (by
    have e : w ^^^ (w ^^^ y) = w ^^^ (0 : Int64) := by rw [q]
    rw [← Int64.xor_assoc, Int64.xor_self, Int64.zero_xor, Int64.xor_zero] at e
    exact e)
  rw [if_neg hx0]
  have hyx : y ^^^ w = w ^^^ y := Int64.xor_comm y w
  have hxm : ((w ^^^ y) &&& (((1 : Int64) <<< ((d * b) &&& 0x3f).toInt64) - (1 : Int64))) = (w ^^^ y) := by
    apply Int64.toBitVec_inj.mp
    have e1 := congrArg Int64.toBitVec hw
    have e2 := congrArg Int64.toBitVec hy
    rw [Int64.toBitVec_and] at e1 e2 ⊢
    rw [Int64.toBitVec_xor]
    generalize (((1 : Int64) <<< ((d * b) &&& 0x3f).toInt64) - (1 : Int64)).toBitVec = M at *
    ext i hi
    have f1 := congrArg (fun z => z[i]) e1
    have f2 := congrArg (fun z => z[i]) e2
    simp only [BitVec.getElem_and, BitVec.getElem_xor] at f1 f2 ⊢
    rw [← f1, ← f2]
    cases w.toBitVec[i] <;> cases y.toBitVec[i] <;> cases M[i] <;> rfl
  have hr := c_maskL (w ^^^ y) _ B (by omega) hmk
  rw [hxm] at hr
  have hP : 0 < ((2 ^ B : Nat) : Int) := by
    have := Nat.two_pow_pos B
    omega
  have r1 := Int.emod_nonneg (w ^^^ y).toInt (Int.ne_of_gt hP)
  have r2 := Int.emod_lt_of_pos (w ^^^ y).toInt hP
  rw [← hr] at r1 r2
  have hne0 : (w ^^^ y).toInt ≠ 0 := fun q => hx0 (Int64.toInt_inj.mp (q.trans (by decide)))
  obtain ⟨m, hm63, hnl, hm1, hm2⟩ := own_nlzLP (w ^^^ y) (by omega)
  have hmB : m < B := by
    rcases Nat.lt_or_ge m B with q | q
    · exact q
    · have := Nat.pow_le_pow_right (n := 2) (by decide) q
      omega
  have a1 := c_iadd (64 : Int32) (own_nlzL (w ^^^ y))
  have a2 := rng32 ((64 : Int32) + own_nlzL (w ^^^ y))
  have a3 : (64 : Int32).toInt = 64 := by decide
  have b1 := c_isub (128 : Int32) (d * b)
  have b2 := rng32 ((128 : Int32) - d * b)
  have b3 : (128 : Int32).toInt = 128 := by decide
  have c1 := c_isub ((64 : Int32) + own_nlzL (w ^^^ y)) ((128 : Int32) - d * b)
  have c2 := rng32 (((64 : Int32) + own_nlzL (w ^^^ y)) - ((128 : Int32) - d * b))
  have c3 : (((64 : Int32) + own_nlzL (w ^^^ y)) - ((128 : Int32) - d * b)).toInt = ((B - 1 - m : Nat) : Int) := by omega
  generalize (((64 : Int32) + own_nlzL (w ^^^ y)) - ((128 : Int32) - d * b)) = A at *
  have hb4 : ∃ k : Nat, b.toInt = (k : Int) ∧ 1 ≤ k ∧ k ≤ 4 := by
    rcases h with ⟨-, rfl⟩ | ⟨-, rfl⟩ | ⟨-, rfl⟩ | ⟨-, rfl⟩
    · exact ⟨1, by decide, by decide, by decide⟩
    · exact ⟨2, by decide, by decide, by decide⟩
    · exact ⟨3, by decide, by decide, by decide⟩
    · exact ⟨4, by decide, by decide, by decide⟩
  obtain ⟨k, hk, hk1, hk4⟩ := hb4
  have hb1 : b ≠ -1 := fun q => by
    rw [q] at hk
    have : (-1 : Int32).toInt = -1 := by decide
    omega
  have dv := (c_idiv A b k hk hb1).1 (by omega)
  rw [c3] at dv
  have hBn : B = nd * k := by
    have : (B : Int) = (nd : Int) * (k : Int) := by rw [hB, hn, hk]
    exact_mod_cast this
  have hlt : (B - 1 - m) / k < nd := by
    rw [Nat.div_lt_iff_lt_mul (by omega)]
    rw [← hBn]
    omega
  have hp : (A / b).toInt = (((B - 1 - m) / k : Nat) : Int) := by
    rw [dv]
    exact_mod_cast rfl
  refine ⟨(B - 1 - m) / k, hp, hlt, fun q => ?_, fun t dn ht => ?_⟩
  · have := own_lti.mp q
    have e0 : (0 : Int32).toInt = 0 := by decide
    rw [hp, e0] at this
    exact Int.not_lt.mpr (Int.natCast_nonneg _) this
  · unfold own_shares
    rw [hyx]
    by_cases q : d < t
    · rw [if_pos q]
      have := own_lti.mp q
      rw [if_neg (by omega)]
    · rw [if_neg q]
      have q1 : ¬ d.toInt < t.toInt := fun z => q (own_lti.mpr z)
      have s1 := c_isub d t
      have s2 := rng32 (d - t)
      have s3 : (d - t).toInt = ((nd - dn : Nat) : Int) := by omega
      have m1 := c_imul (d - t) b
      have m2 := rng32 ((d - t) * b)
      rw [s3, hk] at m1
      have m3 : ((nd - dn : Nat) : Int) * (k : Int) = (((nd - dn) * k : Nat) : Int) := by exact_mod_cast rfl
      rw [m3] at m1
      have m4 : (nd - dn) * k ≤ B := by
        rw [hBn]
        exact Nat.mul_le_mul_right k (Nat.sub_le nd dn)
      have m5 : ((d - t) * b).toInt = (((nd - dn) * k : Nat) : Int) := by omega
      have hiff : dn ≤ (B - 1 - m) / k ↔ m < (nd - dn) * k := by
        rw [Nat.le_div_iff_mul_le (by omega), Nat.sub_mul, ← hBn]
        have : dn * k ≤ nd * k := Nat.mul_le_mul_right k (by omega)
        rw [← hBn] at this
        omega
      have hS : ((d - t) * b).toBitVec.toNat % 64 = (nd - dn) * k := by
        have e : ((d - t) * b) = Int32.ofNat ((nd - dn) * k) := by
          apply Int32.toInt_inj.mp
          rw [Int32.toInt_ofNat_of_lt (by omega)]
          exact m5
        rw [e]
        show (BitVec.ofNat 32 ((nd - dn) * k)).toNat % 64 = _
        rw [BitVec.toNat_ofNat, Nat.mod_eq_of_lt (a := (nd - dn) * k) (by omega)]
        omega
      generalize hK : (nd - dn) * k = K at *
      have hz : ((((w ^^^ y).toUInt64 >>> (((d - t) * b) &&& 0x3f).toInt64.toUInt64).toInt64) = (0 : Int64)) ↔ m < K := by
        rcases Nat.eq_zero_or_pos K with hK0 | hK0
        · have e : ((d - t) * b) = 0 := by
            apply Int32.toInt_inj.mp
            rw [m5, hK0]
            decide
          rw [e]
          have e2 : ((w ^^^ y).toUInt64 >>> (((0 : Int32) &&& 0x3f).toInt64.toUInt64)).toInt64 = (w ^^^ y) := by
            have : (((0 : Int32) &&& 0x3f).toInt64.toUInt64) = 0 := by decide
            rw [this]
            simp
          rw [e2]
          exact ⟨fun z => absurd z hx0, fun z => by omega⟩
        · have l1 := c_lushr (w ^^^ y) ((d - t) * b) K hS hK0
          rw [Int.emod_eq_of_lt (by omega) (by have := rng64 (w ^^^ y); omega)] at l1
          constructor
          · intro z
            rw [z] at l1
            have z0 : (0 : Int64).toInt = 0 := by decide
            rw [z0] at l1
            rcases Nat.lt_or_ge m K with g | g
            · exact g
            · exfalso
              have p1 := Nat.pow_le_pow_right (n := 2) (by decide) g
              have p2 := Nat.two_pow_pos K
              have p3 := Int.mul_ediv_add_emod (w ^^^ y).toInt ((2 ^ K : Nat) : Int)
              have p4 := Int.emod_lt_of_pos (w ^^^ y).toInt (b := ((2 ^ K : Nat) : Int)) (by omega)
              rw [← l1, Int.mul_zero] at p3
              omega
          · intro g
            apply Int64.toInt_inj.mp
            rw [l1]
            have p1 := Nat.pow_le_pow_right (n := 2) (by decide) (show m + 1 ≤ K from g)
            rw [Int.ediv_eq_zero_of_lt (by omega) (by omega)]
            decide
      by_cases g : m < K
      · rw [if_pos (hz.mpr g), if_pos (hiff.mpr g)]
      · rw [if_neg (fun z => g (hz.mp z)), if_neg (fun z => g (hiff.mp z))]
def own_cnt : List Nat → Nat → Int32
  | [], _ => 0
  | p :: r, i => if i = p then own_cnt r i + 1 else own_cnt r i
def own_sm (f : Nat → Int32) : Nat → Nat → Int32 → Int32
  | 0, _, acc => acc
  | k + 1, i, acc => own_sm f k (i + 1) (acc + f i)
theorem own_sm0 : ∀ (k i : Nat) (acc : Int32), own_sm (own_cnt []) k i acc = acc
  | 0, _, _ => rfl
  | k + 1, i, acc => by
    rw [own_sm, own_sm0 k]
    simp [own_cnt]
theorem own_sma (f : Nat → Int32) : ∀ (k i : Nat) (acc t : Int32), own_sm f k i (acc + t) = own_sm f k i acc + t
  | 0, _, _, _ => rfl
  | k + 1, i, acc, t => by
    rw [own_sm, own_sm, Int32.add_assoc, Int32.add_comm t, ← Int32.add_assoc, own_sma f k]
theorem own_sm1 (p : Nat) (r : List Nat) : ∀ (k i : Nat) (acc : Int32), own_sm (own_cnt (p :: r)) k i acc = own_sm (own_cnt r) k i acc + (if i ≤ p ∧ p < i + k then (1 : Int32) else (0 : Int32))
  | 0, i, acc => by
    rw [own_sm, own_sm, if_neg (by omega)]
    simp
  | k + 1, i, acc => by
    rw [own_sm, own_sm]
    by_cases q : i = p
    · rw [own_cnt, if_pos q, ← Int32.add_assoc, own_sma, own_sm1 p r k, if_neg (by omega), if_pos (by omega)]
      simp
    · rw [own_cnt, if_neg q, own_sm1 p r k]
      by_cases g : i + 1 ≤ p ∧ p < i + 1 + k
      · rw [if_pos g, if_pos (by omega)]
      · rw [if_neg g, if_neg (by omega)]
theorem own_sm2 {p nd dn : Nat} {r : List Nat} (hp : p < nd) : own_sm (own_cnt (p :: r)) (nd - dn) dn (0 : Int32) = own_sm (own_cnt r) (nd - dn) dn (0 : Int32) + (if dn ≤ p then (1 : Int32) else (0 : Int32)) := by
  rw [own_sm1]
  by_cases g : dn ≤ p
  · rw [if_pos g, if_pos (by omega)]
  · rw [if_neg g, if_neg (by omega)]
/-- what the law counts for one id -/
def own_e (i s : Int32) : Int32 := if i = (0 : Int32) then (0 : Int32) else if s = (0 : Int32) then (0 : Int32) else (1 : Int32)
theorem own_e0 {i s : Int32} (h : i = (0 : Int32)) : own_e i s = (0 : Int32) := if_pos h
theorem own_e1 {i s : Int32} (h : ¬ i = (0 : Int32)) (q : s = (0 : Int32)) : own_e i s = (0 : Int32) := by rw [own_e, if_neg h, if_pos q]
theorem own_e2 {i s : Int32} (h : ¬ i = (0 : Int32)) (q : ¬ s = (0 : Int32)) : own_e i s = (1 : Int32) := by rw [own_e, if_neg h, if_neg q]
theorem own_est {i s : Int32} {P : Prop} [Decidable P] {nd dn p : Nat} {r r' : List Nat} (hi : i = if P then (0 : Int32) else (1 : Int32)) (hs : ¬ P → p < nd ∧ s = if dn ≤ p then (1 : Int32) else (0 : Int32)) (hr : r' = if P then r else p :: r) : own_sm (own_cnt r') (nd - dn) dn (0 : Int32) = own_sm (own_cnt r) (nd - dn) dn (0 : Int32) + own_e i s := by
  by_cases g : P
  · rw [if_pos g] at hi hr
    rw [hr, own_e0 hi]
    simp
  · rw [if_neg g] at hi hr
    obtain ⟨h1, h2⟩ := hs g
    rw [hr, own_sm2 h1]
    by_cases q : dn ≤ p
    · rw [if_pos q] at h2 ⊢
      rw [own_e2 (by rw [hi]; decide) (by rw [h2]; decide)]
    · rw [if_neg q] at h2 ⊢
      rw [own_e1 (by rw [hi]; decide) h2]
theorem own_upc {g : Nat → Int32} {r : List Nat} {p : Nat} (h : ∀ i, g i = own_cnt r i) : ∀ i, (if i = p then own_cnt r p + (1 : Int32) else g i) = own_cnt (p :: r) i := fun i => by
  rw [own_cnt]
  by_cases q : i = p
  · rw [if_pos q, if_pos q, q]
  · rw [if_neg q, if_neg q, h]

theorem own_ltn {x : Int32} {n i : Nat} (h : x < (n : Nat).toInt32) (hx : x.toInt = (i : Int)) (hn : n ≤ 8) : i < n := by
  have q := own_lti.mp h
  rw [len_toInt (by omega)] at q
  omega
theorem own_gen {x : Int32} {n i : Nat} (h : ¬ x < (n : Nat).toInt32) (hx : x.toInt = (i : Int)) (hn : n ≤ 8) : n - i = 0 := by
  have q : ¬ _ := fun z => h (own_lti.mpr z)
  rw [len_toInt (by omega)] at q
  omega
theorem own_pfx' {x b d : Int32} {w y : Int64} {B nd : Nat} (h : own_bb x b) (h1 : 1 ≤ d.toInt) (h8 : d.toInt ≤ 8) (hn : d.toInt = (nd : Int)) (hB : (B : Int) = d.toInt * b.toInt) (hw : (w &&& (((1 : Int64) <<< ((d * b) &&& 0x3f).toInt64) - (1 : Int64))) = w) (hy : (y &&& (((1 : Int64) <<< ((d * b) &&& 0x3f).toInt64) - (1 : Int64))) = y) :
    ∃ pn : Nat, ¬ y = w → (if (w ^^^ y) = (0 : Int64) then d else (((64 : Int32) + (own_nlzL (w ^^^ y))) - ((128 : Int32) - (d * b))) / b).toInt = (pn : Int) ∧ pn < nd ∧ ¬ (if (w ^^^ y) = (0 : Int64) then d else (((64 : Int32) + (own_nlzL (w ^^^ y))) - ((128 : Int32) - (d * b))) / b) < (0 : Int32) ∧
      ∀ (t : Int32) (dn : Nat), t.toInt = (dn : Int) → own_shares y w t d b = if dn ≤ pn then (1 : Int32) else (0 : Int32) := by
  by_cases q : y = w
  · exact ⟨0, fun z => absurd q z⟩
  · obtain ⟨pn, r⟩ := own_pfx h h1 h8 hn hB hw hy q
    exact ⟨pn, fun _ => r⟩
theorem own_d2 {d : Int32} (h1 : 1 ≤ d.toInt) (h8 : d.toInt ≤ 8) : (d + (2 : Int32)).toInt = d.toInt + 2 := by
  have q := c_iadd d 2
  have q1 := rng32 (d + 2)
  have q2 : (2 : Int32).toInt = 2 := by decide
  omega
theorem own_d2z {d : Int32} (h1 : 1 ≤ d.toInt) (h8 : d.toInt ≤ 8) : d + (2 : Int32) ≠ (0 : Int32) := fun q => by
  have q1 := own_d2 h1 h8
  rw [q] at q1
  have q2 : (0 : Int32).toInt = 0 := by decide
  omega
theorem own_dd {x d v : Int32} (h1 : 1 ≤ d.toInt) (h8 : d.toInt ≤ 8) (hv : (x &&& (2147483647 : Int32)) % (d + (2 : Int32)) = v) : ∃ dn : Nat, v.toInt = (dn : Int) := by
  have q1 := (c_and x 2147483647 (by decide)).1
  have q2 := (c_irem (x &&& 2147483647) (d + 2) _ (own_d2 h1 h8)).1 q1
  rw [hv] at q2
  have q3 := Int.emod_nonneg (x &&& (2147483647 : Int32)).toInt (b := d.toInt + 2) (by omega)
  exact ⟨v.toInt.toNat, by omega⟩
theorem own_upV {g : Nat → Value} {r : List Nat} {p : Nat} (h : ∀ i, g i = .int (own_cnt r i)) : ∀ i, own_upd g p (.int ((own_cnt r p) + (1 : Int32))) i = .int (own_cnt (p :: r) i) := fun i => by
  rw [own_upd, own_cnt]
  by_cases q : i = p
  · rw [if_pos q, if_pos q, q]
  · rw [if_neg q, if_neg q, h]
theorem own_in1 {y a : Int64} (h : y = a) : ¬ (if y = a then (1 : Int32) else (0 : Int32)) = (0 : Int32) := by rw [if_pos h]; decide
theorem own_in2 {y a b : Int64} (h : y = a ∨ y = b) : ¬ (if y = a then (1 : Int32) else (if y = b then (1 : Int32) else (0 : Int32))) = (0 : Int32) := by
  by_cases q : y = a
  · rw [if_pos q]; decide
  · rw [if_neg q, if_pos (h.resolve_left q)]; decide
theorem own_in2n {y a b : Int64} (h : ¬ (y = a ∨ y = b)) : (if y = a then (1 : Int32) else (if y = b then (1 : Int32) else (0 : Int32))) = (0 : Int32) := by rw [if_neg (fun q => h (Or.inl q)), if_neg (fun q => h (Or.inr q))]
theorem own_or2 {P Q : Prop} [Decidable P] [Decidable Q] {a b : Int32} : (if P then a else (if Q then a else b)) = if P ∨ Q then a else b := by
  by_cases p : P <;> by_cases q : Q <;> simp [p, q]
theorem own_or3 {P Q R : Prop} [Decidable P] [Decidable Q] [Decidable R] {a b : Int32} : (if P then a else (if Q then a else (if R then a else b))) = if P ∨ Q ∨ R then a else b := by
  by_cases p : P <;> by_cases q : Q <;> by_cases r : R <;> simp [p, q, r]
theorem ef_rmShr (m : MethodId) (a : Addr) (d_ : Int32) : entryFrame m #[(.ref a), (.int d_)] 4 = mkF m 0 #[.val (.ref a), .val (.int d_), .unset, .unset] [] := by first | (simp [entryFrame, mkF, argsToLocals, Value.category]; done) | rfl
def QrmShr (Z : State) (a : Addr) (d_ : Int32) (wv : Addr) (kw : ClassId) (nd : Nat) (gw : Nat → Value) (gi : Nat → Int32) (dn : Nat) (h0 : Heap) (n0 : Nat) (v_ : Option Value) (h_ : Heap) (L_ : List Loc) : Prop := v_ = some (.int (own_sm gi (nd - dn) dn (0 : Int32))) ∧ L_ = [] ∧ h_ = h0
theorem d34_0 : decode prog_74_method_4_code 0 = .ok (.iconst 0, 1) := by decide +kernel
theorem d34_1 : decode prog_74_method_4_code 1 = .ok (.istore_n 2, 1) := by decide +kernel
theorem d34_2 : decode prog_74_method_4_code 2 = .ok (.iload_n 1, 1) := by decide +kernel
theorem d34_3 : decode prog_74_method_4_code 3 = .ok (.istore_n 3, 1) := by decide +kernel
theorem d34_4 : decode prog_74_method_4_code 4 = .ok (.iload_n 3, 1) := by decide +kernel
theorem d34_5 : decode prog_74_method_4_code 5 = .ok (.aload_n 0, 1) := by decide +kernel
theorem d34_6 : decode prog_74_method_4_code 6 = .ok (.getfield 32, 3) := by decide +kernel
theorem d34_9 : decode prog_74_method_4_code 9 = .ok (.arraylength, 1) := by decide +kernel
theorem d34_10 : decode prog_74_method_4_code 10 = .ok (.if_icmp .ge 18, 3) := by decide +kernel
theorem d34_13 : decode prog_74_method_4_code 13 = .ok (.iload_n 2, 1) := by decide +kernel
theorem d34_14 : decode prog_74_method_4_code 14 = .ok (.aload_n 0, 1) := by decide +kernel
theorem d34_15 : decode prog_74_method_4_code 15 = .ok (.getfield 32, 3) := by decide +kernel
theorem d34_18 : decode prog_74_method_4_code 18 = .ok (.iload_n 3, 1) := by decide +kernel
theorem d34_19 : decode prog_74_method_4_code 19 = .ok (.iaload, 1) := by decide +kernel
theorem d34_20 : decode prog_74_method_4_code 20 = .ok (.iadd, 1) := by decide +kernel
theorem d34_21 : decode prog_74_method_4_code 21 = .ok (.istore_n 2, 1) := by decide +kernel
theorem d34_22 : decode prog_74_method_4_code 22 = .ok (.iinc 3 1, 3) := by decide +kernel
theorem d34_25 : decode prog_74_method_4_code 25 = .ok (.goto (-21), 3) := by decide +kernel
theorem d34_28 : decode prog_74_method_4_code 28 = .ok (.iload_n 2, 1) := by decide +kernel
theorem d34_29 : decode prog_74_method_4_code 29 = .ok (.ireturn, 1) := by decide +kernel
set_option maxRecDepth 65536 in
set_option maxHeartbeats 40000000 in
theorem rmShr (l : Launch) (Z : State) (a0 : Array Value) (hw : ∀ d ∈ tables_1, d.before a0 Z = true) (ws : List Jvm.Cond) (a : Addr) (d_ : Int32) (wv : Addr) (kw : ClassId) (nd : Nat) (gw : Nat → Value) (gi : Nat → Int32) (dn : Nat) (h0 : Heap) (n0 : Nat) (Z0 : n0 ≤ h0.size) (F0_a_withShared : Fld Z h0 a "nearhop/model/Block" "withShared" "[I" (.ref wv)) (A1_wv : Arw Z h0 wv kw .int nd gw) (Hg : ∀ i, gw i = .int (gi i)) (Hd : d_.toInt = (dn : Int)) (Hn8 : nd ≤ 8) :
    MetFree l (⟨"nearhop/model/Block", "sharing", "(I)I"⟩ : MethodName) (head1 (Jvm.Cond.code (⟨"nearhop/model/Block", "sharing", "(I)I"⟩ : MethodName) prog_74_method_4_code 4 (some .int) :: ws) ({ frames := 0, cells := 0, slots := 0, locals := 0 } : Room)) (fun as_ U_ => as_ = #[(.ref a), (.int d_)] ∧ Z.Warmed39 U_.vm ∧ U_.heap = h0) (fun _ _ _ _ _ => True) (fun _ U_ o_ V_ => ∃ v_ L_, o_ = .returned v_ ∧ QrmShr Z a d_ wv kw nd gw gi dn h0 n0 v_ V_.heap L_ ∧ FrameEnd U_ o_ V_ L_ ({ frames := 0, cells := 0, slots := 0, locals := 0 } : Room).cells ({ frames := 0, cells := 0, slots := 0, locals := 0 } : Room).slots) := by
  refine MetFree.of_bodySF (plainFor_of_name pn_nearhop_model_Block) hisR ?_
  intro p e s m args below meth c s₁ Bd hml0 hP hK
  obtain ⟨rfl, hZ, hh⟩ := hP
  have hx := Bd.exec
  have hby := Bd.bytes
  have hlk : meth.locks = false := BodyLoose.notSynchronized Bd
  have hret := Bd.returns
  have hml : c.maxLocals = 4 := hml0
  have hown : s.vm.findClass "nearhop/model/Block" = some m.cls := findClass_of_methodNamed Bd.named
  have hnm := (name_of_methodNamed Bd.named Bd.method).1
  have X0 : Stand p l e ({ frames := 0, cells := 0, slots := 0, locals := 0 } : Room) s m #[(.ref a), (.int d_)] below meth c s₁ [] 0 0 := Stand.of_body Bd
  have e0 : s₁.heap = h0 := by rw [← hh, Bd.state]; rfl
  have N0 := Fr.nil n0
  show Goes p e below (Fin_ s (QrmShr Z a d_ wv kw nd gw gi dn h0 n0) ({ frames := 0, cells := 0, slots := 0, locals := 0 } : Room).cells ({ frames := 0, cells := 0, slots := 0, locals := 0 } : Room).slots) (s₁.setTop (entryFrame m #[(.ref a), (.int d_)] 4))
  rw [ef_rmShr m a d_]
  refine gIC (z := 0) X0 hx hby d34_0 rfl ?_
  refine Goes.via (fun _ kk_ => XS.istoreN X0.here hx rfl (hb hby d34_1) rfl (l' := #[vr a, vi d_, vi (0 : Int32), .unset]) rfl kk_) ?_
  show Goes p e below _ (s₁.setTop (mkF m 2 #[vr a, vi d_, vi (0 : Int32), .unset] []))
  refine gILN X0 hx hby d34_2 rfl ?_
  refine Goes.via (fun _ kk_ => XS.istoreN X0.here hx rfl (hb hby d34_3) rfl (l' := #[vr a, vi d_, vi (0 : Int32), vi d_]) rfl kk_) ?_
  show Goes p e below _ (s₁.setTop (mkF m 4 #[vr a, vi d_, vi (0 : Int32), vi d_] []))
  have lp1 : ∀ (fu1 : Nat) (ct : Int32) (ii : Int32) (i : Nat) (T1 : State) (lc1 : List Loc), (Stand p l e ({ frames := 0, cells := 0, slots := 0, locals := 0 } : Room) s m #[(.ref a), (.int d_)] below meth c T1 lc1 0 0) → (T1.heap = h0) → (lc1 = []) → (ii.toInt = (i : Int)) → (own_sm gi (nd - i) i ct = own_sm gi (nd - dn) dn (0 : Int32)) → (nd - i < fu1) → Goes p e below (Fin_ s (QrmShr Z a d_ wv kw nd gw gi dn h0 n0) ({ frames := 0, cells := 0, slots := 0, locals := 0 } : Room).cells ({ frames := 0, cells := 0, slots := 0, locals := 0 } : Room).slots) (T1.setTop (mkF m 4 #[vr a, vi d_, vi ct, vi ii] [])) := by
    intro fu1
    induction fu1 with
    | zero =>
      intro ct ii i T1 lc1 X1 e1 N1 hii hsm hfu
      omega
    | succ fu1 ih1 =>
      intro ct ii i T1 lc1 X1 e1 N1 hii hsm hfu
      subst N1
      refine gILN X1 hx hby d34_4 rfl ?_
      refine gALN X1 hx hby d34_5 rfl rfl ?_
      obtain ⟨T2, X2, e2, st2⟩ := getF X1 hx hZ hown (host := "") (Or.inl (own_w hw 99 rfl)) Via.refl e1 F0_a_withShared (g := (mkF m 6 #[vr a, vi d_, vi ct, vi ii] [(.ref a), (.int ii)])) rfl rfl (hb hby d34_6)
      refine Goes.via st2 ?_
      show Goes p e below _ (T2.setTop (mkF m 9 #[vr a, vi d_, vi ct, vi ii] [(.ref wv), (.int ii)]))
      refine Goes.via (own_alen X2 hx hZ e2 A1_wv (g := (mkF m 9 #[vr a, vi d_, vi ct, vi ii] [(.ref wv), (.int ii)])) rfl rfl (hb hby d34_9)) ?_
      show Goes p e below _ (T2.setTop (mkF m 10 #[vr a, vi d_, vi ct, vi ii] [(.int (nd : Nat).toInt32), (.int ii)]))
      by_cases hc10 : ii < (nd : Nat).toInt32
      · skip
        refine Goes.via (fun _ kk_ => XS.icmpNo X2.here hx rfl (hb hby d34_10) rfl (tlt hc10).2.1 kk_) ?_
        show Goes p e below _ (T2.setTop (mkF m 13 #[vr a, vi d_, vi ct, vi ii] []))
        have hlt : i < nd := own_ltn hc10 hii Hn8
        refine gILN X2 hx hby d34_13 rfl ?_
        refine gALN X2 hx hby d34_14 rfl rfl ?_
        obtain ⟨T3, X3, e3, st3⟩ := getF X2 hx hZ hown (host := "") (Or.inl (own_w hw 99 rfl)) Via.refl e2 F0_a_withShared (g := (mkF m 15 #[vr a, vi d_, vi ct, vi ii] [(.ref a), (.int ct)])) rfl rfl (hb hby d34_15)
        refine Goes.via st3 ?_
        show Goes p e below _ (T3.setTop (mkF m 18 #[vr a, vi d_, vi ct, vi ii] [(.ref wv), (.int ct)]))
        refine gILN X3 hx hby d34_18 rfl ?_
        refine Goes.via (own_iaload X3 hx hZ e3 A1_wv (j := ii) (i := i) (own_ix hii).1 (own_ix hii).2 hlt (v := (gi i)) (Hg i) (g := (mkF m 19 #[vr a, vi d_, vi ct, vi ii] [(.int ii), (.ref wv), (.int ct)])) rfl rfl (hb hby d34_19)) ?_
        show Goes p e below _ (T3.setTop (mkF m 20 #[vr a, vi d_, vi ct, vi ii] [(.int (gi i)), (.int ct)]))
        refine Goes.via (fun _ kk_ => XS.iadd X3.here hx rfl (hb hby d34_20) rfl kk_) ?_
        show Goes p e below _ (T3.setTop (mkF m 21 #[vr a, vi d_, vi ct, vi ii] [(.int (ct + (gi i)))]))
        refine Goes.via (fun _ kk_ => XS.istoreN X3.here hx rfl (hb hby d34_21) rfl (l' := #[vr a, vi d_, vi (ct + (gi i)), vi ii]) rfl kk_) ?_
        show Goes p e below _ (T3.setTop (mkF m 22 #[vr a, vi d_, vi (ct + (gi i)), vi ii] []))
        refine Goes.via (fun _ kk_ => XS.iinc X3.here hx rfl (hb hby d34_22) rfl (l' := #[vr a, vi d_, vi (ct + (gi i)), vi (ii + (1 : Int32))]) rfl kk_) ?_
        show Goes p e below _ (T3.setTop (mkF m 25 #[vr a, vi d_, vi (ct + (gi i)), vi (ii + (1 : Int32))] []))
        refine Goes.via (fun _ kk_ => XS.goto X3.here hx rfl (pc0 := 25) (pc' := 4) rfl (hb hby d34_25) (by decide) (by decide) kk_) ?_
        show Goes p e below _ (T3.setTop (mkF m 4 #[vr a, vi d_, vi (ct + (gi i)), vi (ii + (1 : Int32))] []))
        exact ih1 ((ct + (gi i))) ((ii + (1 : Int32))) (i + 1) _ _ X3 e3 rfl (own_s1 hii (by omega)) (by rw [← hsm, show nd - i = (nd - (i + 1)) + 1 by omega]; rfl) (by omega)
      · skip
        refine Goes.via (fun _ kk_ => XS.icmpYes X2.here hx rfl (pc0 := 10) (pc' := 28) rfl (hb hby d34_10) rfl (flt hc10).2.1 (by decide) (by decide) kk_) ?_
        show Goes p e below _ (T2.setTop (mkF m 28 #[vr a, vi d_, vi ct, vi ii] []))
        have hge : nd - i = 0 := own_gen hc10 hii Hn8
        refine gILN X2 hx hby d34_28 rfl ?_
        exact own_finI X2 hx hlk hret (hb hby d34_29) (by rw [e2]; exact ⟨(own_ret (by rw [← hsm, hge]; rfl)), rfl, rfl⟩) (by first | decide | omega | (dsimp only; omega)) (by first | decide | omega | (dsimp only; omega))
  exact lp1 (nd + 1) ((0 : Int32)) (d_) (dn) _ _ X0 e0 rfl Hd rfl (by omega)
theorem ef_rm0 (m : MethodId) (x0 : Int32) (x1 : Int32) (x2 : Int64) (x3 : Int64) (x4 : Int64) (x5 : Int64) : entryFrame m #[(.int x0), (.int x1), (.long x2), (.long x3), (.long x4), (.long x5)] maxLocals = mkF m 0 #[.val (.int x0), .val (.int x1), .val (.long x2), .second, .val (.long x3), .second, .val (.long x4), .second, .val (.long x5), .second, .unset, .unset, .unset, .unset, .unset, .unset, .unset, .unset, .unset, .unset, .unset, .unset, .unset, .unset, .unset, .unset, .unset, .unset, .unset, .unset, .unset] [] := by first | (simp [entryFrame, mkF, argsToLocals, Value.category, maxLocals]; done) | rfl
def Qrm0 (Z : State) (x0 : Int32) (x1 : Int32) (x2 : Int64) (x3 : Int64) (x4 : Int64) (x5 : Int64) (ed : Addr) (kE : ClassId) (fE : Nat → Value) (h0 : Heap) (n0 : Nat) (v_ : Option Value) (h_ : Heap) (L_ : List Loc) : Prop := v_ = some (.int (1 : Int32)) ∧ Fr n0 L_ ∧ Keep h0 h_ []
theorem pd_16 : parseMethodDescriptor "(II)V" = some ⟨[.int, .int], none⟩ := by decide +kernel
abbrev mN_IdSpace_init : MethodName := ⟨"nearhop/model/IdSpace", "<init>", "(II)V"⟩
theorem pd_17 : parseMethodDescriptor "(Lnearhop/model/IdSpace;JJ)V" = some ⟨[(.object "nearhop/model/IdSpace"), .long, .long], none⟩ := by decide +kernel
abbrev mN_Id_init : MethodName := ⟨"nearhop/model/Id", "<init>", "(Lnearhop/model/IdSpace;JJ)V"⟩
theorem pd_18 : parseMethodDescriptor "(Lnearhop/model/Id;)V" = some ⟨[(.object "nearhop/model/Id")], none⟩ := by decide +kernel
abbrev mN_Block_init : MethodName := ⟨"nearhop/model/Block", "<init>", "(Lnearhop/model/Id;)V"⟩
abbrev own_lw (x0 : Int32) (x1 : Int32) (x2 : Int64) (x3 : Int64) (x4 : Int64) (x5 : Int64) (bp : Int32) (x_ : Int32) (dg : Int32) (mk : Int64) (w_ : Int64) (ya : Int64) (yb : Int64) (yc : Int64) (dd : Int32) (b1 : Addr) (b5 : Addr) : Array Slot := #[vi x0, vi x1, .val (.long x2), .second, .val (.long x3), .second, .val (.long x4), .second, .val (.long x5), .second, vi bp, vi x_, vi dg, vi (dg * bp), .val (.long mk), .second, .val (.long w_), .second, .val (.long ya), .second, .val (.long yb), .second, .val (.long yc), .second, vi dd, vr b1, vr b5, .unset, .unset, .unset, .unset]
abbrev mN_Block_sharing : MethodName := ⟨"nearhop/model/Block", "sharing", "(I)I"⟩
theorem pd_19 : parseMethodDescriptor "(JJIII)Z" = some ⟨[.long, .long, .int, .int, .int], some .boolean⟩ := by decide +kernel
abbrev mN_BlockSharingPinLaw_shares : MethodName := ⟨"nearhop/model/BlockSharingPinLaw", "shares", "(JJIII)Z"⟩
abbrev mN_Block_add : MethodName := ⟨"nearhop/model/Block", "add", "(Lnearhop/model/Id;)Z"⟩
set_option maxRecDepth 65536 in
set_option maxHeartbeats 40000000 in
theorem rm0 (l : Launch) (Z : State) (a0 : Array Value) (hw : ∀ d ∈ tables_1, d.before a0 Z = true) (ws : List Jvm.Cond) (x0 : Int32) (x1 : Int32) (x2 : Int64) (x3 : Int64) (x4 : Int64) (x5 : Int64) (ed : Addr) (kE : ClassId) (fE : Nat → Value) (h0 : Heap) (n0 : Nat) (Z0 : n0 ≤ h0.size) (OE : Sta Z h0 "java/util/ArrayList" "DEFAULTCAPACITY_EMPTY_ELEMENTDATA" "[Ljava/lang/Object;" (.ref ed)) (OA : Arw Z h0 ed kE (.object "java/lang/Object") 0 fE) :
    MetFree l x (head1 (Jvm.Cond.code x code maxLocals ret :: ws) room_1) (fun as_ U_ => as_ = #[(.int x0), (.int x1), (.long x2), (.long x3), (.long x4), (.long x5)] ∧ Z.Warmed39 U_.vm ∧ U_.heap = h0) (fun _ _ _ _ _ => True) (fun _ U_ o_ V_ => ∃ v_ L_, o_ = .returned v_ ∧ Qrm0 Z x0 x1 x2 x3 x4 x5 ed kE fE h0 n0 v_ V_.heap L_ ∧ FrameEnd U_ o_ V_ L_ room_1.cells room_1.slots) := by
  refine MetFree.of_bodySF (plainFor_of_name pn_nearhop_model_BlockSharingPinLaw) hisR ?_
  intro p e s m args below meth c s₁ Bd hml0 hP hK
  obtain ⟨rfl, hZ, hh⟩ := hP
  have hx := Bd.exec
  have hby := Bd.bytes
  have hlk : meth.locks = false := BodyLoose.notSynchronized Bd
  have hret := Bd.returns
  have hml : c.maxLocals = 31 := hml0
  have hown : s.vm.findClass "nearhop/model/BlockSharingPinLaw" = some m.cls := findClass_of_methodNamed Bd.named
  have hnm := (name_of_methodNamed Bd.named Bd.method).1
  have X0 : Stand p l e room_1 s m #[(.int x0), (.int x1), (.long x2), (.long x3), (.long x4), (.long x5)] below meth c s₁ [] 0 0 := Stand.of_body Bd
  have e0 : s₁.heap = h0 := by rw [← hh, Bd.state]; rfl
  have N0 := Fr.nil n0
  show Goes p e below (Fin_ s (Qrm0 Z x0 x1 x2 x3 x4 x5 ed kE fE h0 n0) room_1.cells room_1.slots) (s₁.setTop (entryFrame m #[(.int x0), (.int x1), (.long x2), (.long x3), (.long x4), (.long x5)] maxLocals))
  rw [ef_rm0 m x0 x1 x2 x3 x4 x5]
  refine gIC (z := 1) X0 hx hby at_0 rfl ?_
  refine gILN X0 hx hby at_1 rfl ?_
  refine gIC (z := 3) X0 hx hby at_2 rfl ?_
  refine Goes.via (fun _ kk_ => XS.iand X0.here hx rfl (hb hby at_3) rfl kk_) ?_
  show Goes p e below _ (s₁.setTop (mkF m 4 #[vi x0, vi x1, .val (.long x2), .second, .val (.long x3), .second, .val (.long x4), .second, .val (.long x5), .second, .unset, .unset, .unset, .unset, .unset, .unset, .unset, .unset, .unset, .unset, .unset, .unset, .unset, .unset, .unset, .unset, .unset, .unset, .unset, .unset, .unset] [(.int (x0 &&& (3 : Int32))), (.int (1 : Int32))]))
  refine Goes.via (fun _ kk_ => XS.iadd X0.here hx rfl (hb hby at_4) rfl kk_) ?_
  show Goes p e below _ (s₁.setTop (mkF m 5 #[vi x0, vi x1, .val (.long x2), .second, .val (.long x3), .second, .val (.long x4), .second, .val (.long x5), .second, .unset, .unset, .unset, .unset, .unset, .unset, .unset, .unset, .unset, .unset, .unset, .unset, .unset, .unset, .unset, .unset, .unset, .unset, .unset, .unset, .unset] [(.int ((1 : Int32) + (x0 &&& (3 : Int32))))]))
  refine Goes.via (fun _ kk_ => XS.istore X0.here hx rfl (hb hby at_5) rfl (l' := #[vi x0, vi x1, .val (.long x2), .second, .val (.long x3), .second, .val (.long x4), .second, .val (.long x5), .second, vi ((1 : Int32) + (x0 &&& (3 : Int32))), .unset, .unset, .unset, .unset, .unset, .unset, .unset, .unset, .unset, .unset, .unset, .unset, .unset, .unset, .unset, .unset, .unset, .unset, .unset, .unset]) rfl kk_) ?_
  show Goes p e below _ (s₁.setTop (mkF m 7 #[vi x0, vi x1, .val (.long x2), .second, .val (.long x3), .second, .val (.long x4), .second, .val (.long x5), .second, vi ((1 : Int32) + (x0 &&& (3 : Int32))), .unset, .unset, .unset, .unset, .unset, .unset, .unset, .unset, .unset, .unset, .unset, .unset, .unset, .unset, .unset, .unset, .unset, .unset, .unset, .unset] []))
  generalize hv_bp : ((1 : Int32) + (x0 &&& (3 : Int32))) = bp
  show Goes p e below _ (s₁.setTop (mkF m 7 #[vi x0, vi x1, .val (.long x2), .second, .val (.long x3), .second, .val (.long x4), .second, .val (.long x5), .second, vi bp, .unset, .unset, .unset, .unset, .unset, .unset, .unset, .unset, .unset, .unset, .unset, .unset, .unset, .unset, .unset, .unset, .unset, .unset, .unset, .unset] []))
  refine gIC (z := 1) X0 hx hby at_7 rfl ?_
  refine gIL X0 hx hby at_8 rfl ?_
  refine Goes.via (fun _ kk_ => XS.ishl X0.here hx rfl (hb hby at_10) rfl kk_) ?_
  show Goes p e below _ (s₁.setTop (mkF m 11 #[vi x0, vi x1, .val (.long x2), .second, .val (.long x3), .second, .val (.long x4), .second, .val (.long x5), .second, vi bp, .unset, .unset, .unset, .unset, .unset, .unset, .unset, .unset, .unset, .unset, .unset, .unset, .unset, .unset, .unset, .unset, .unset, .unset, .unset, .unset] [(.int ((1 : Int32) <<< (bp &&& 31)))]))
  refine Goes.via (fun _ kk_ => XS.istore X0.here hx rfl (hb hby at_11) rfl (l' := #[vi x0, vi x1, .val (.long x2), .second, .val (.long x3), .second, .val (.long x4), .second, .val (.long x5), .second, vi bp, vi ((1 : Int32) <<< (bp &&& 31)), .unset, .unset, .unset, .unset, .unset, .unset, .unset, .unset, .unset, .unset, .unset, .unset, .unset, .unset, .unset, .unset, .unset, .unset, .unset]) rfl kk_) ?_
  show Goes p e below _ (s₁.setTop (mkF m 13 #[vi x0, vi x1, .val (.long x2), .second, .val (.long x3), .second, .val (.long x4), .second, .val (.long x5), .second, vi bp, vi ((1 : Int32) <<< (bp &&& 31)), .unset, .unset, .unset, .unset, .unset, .unset, .unset, .unset, .unset, .unset, .unset, .unset, .unset, .unset, .unset, .unset, .unset, .unset, .unset] []))
  generalize hv_x_ : ((1 : Int32) <<< (bp &&& 31)) = x_
  show Goes p e below _ (s₁.setTop (mkF m 13 #[vi x0, vi x1, .val (.long x2), .second, .val (.long x3), .second, .val (.long x4), .second, .val (.long x5), .second, vi bp, vi x_, .unset, .unset, .unset, .unset, .unset, .unset, .unset, .unset, .unset, .unset, .unset, .unset, .unset, .unset, .unset, .unset, .unset, .unset, .unset] []))
  have HB := own_bbS hv_bp hv_x_
  refine gIC (z := 1) X0 hx hby at_13 rfl ?_
  refine gILN X0 hx hby at_14 rfl ?_
  refine gIC (z := 2) X0 hx hby at_15 rfl ?_
  refine Goes.via (fun _ kk_ => XS.iushr X0.here hx rfl (hb hby at_16) rfl kk_) ?_
  show Goes p e below _ (s₁.setTop (mkF m 17 #[vi x0, vi x1, .val (.long x2), .second, .val (.long x3), .second, .val (.long x4), .second, .val (.long x5), .second, vi bp, vi x_, .unset, .unset, .unset, .unset, .unset, .unset, .unset, .unset, .unset, .unset, .unset, .unset, .unset, .unset, .unset, .unset, .unset, .unset, .unset] [(.int ((x0.toUInt32 >>> ((2 : Int32) &&& 31).toUInt32).toInt32)), (.int (1 : Int32))]))
  refine gBI (z := 7) X0 hx hby at_17 rfl ?_
  refine Goes.via (fun _ kk_ => XS.iand X0.here hx rfl (hb hby at_19) rfl kk_) ?_
  show Goes p e below _ (s₁.setTop (mkF m 20 #[vi x0, vi x1, .val (.long x2), .second, .val (.long x3), .second, .val (.long x4), .second, .val (.long x5), .second, vi bp, vi x_, .unset, .unset, .unset, .unset, .unset, .unset, .unset, .unset, .unset, .unset, .unset, .unset, .unset, .unset, .unset, .unset, .unset, .unset, .unset] [(.int (((x0.toUInt32 >>> ((2 : Int32) &&& 31).toUInt32).toInt32) &&& (7 : Int32))), (.int (1 : Int32))]))
  refine Goes.via (fun _ kk_ => XS.iadd X0.here hx rfl (hb hby at_20) rfl kk_) ?_
  show Goes p e below _ (s₁.setTop (mkF m 21 #[vi x0, vi x1, .val (.long x2), .second, .val (.long x3), .second, .val (.long x4), .second, .val (.long x5), .second, vi bp, vi x_, .unset, .unset, .unset, .unset, .unset, .unset, .unset, .unset, .unset, .unset, .unset, .unset, .unset, .unset, .unset, .unset, .unset, .unset, .unset] [(.int ((1 : Int32) + (((x0.toUInt32 >>> ((2 : Int32) &&& 31).toUInt32).toInt32) &&& (7 : Int32))))]))
  refine Goes.via (fun _ kk_ => XS.istore X0.here hx rfl (hb hby at_21) rfl (l' := #[vi x0, vi x1, .val (.long x2), .second, .val (.long x3), .second, .val (.long x4), .second, .val (.long x5), .second, vi bp, vi x_, vi ((1 : Int32) + (((x0.toUInt32 >>> ((2 : Int32) &&& 31).toUInt32).toInt32) &&& (7 : Int32))), .unset, .unset, .unset, .unset, .unset, .unset, .unset, .unset, .unset, .unset, .unset, .unset, .unset, .unset, .unset, .unset, .unset, .unset]) rfl kk_) ?_
  show Goes p e below _ (s₁.setTop (mkF m 23 #[vi x0, vi x1, .val (.long x2), .second, .val (.long x3), .second, .val (.long x4), .second, .val (.long x5), .second, vi bp, vi x_, vi ((1 : Int32) + (((x0.toUInt32 >>> ((2 : Int32) &&& 31).toUInt32).toInt32) &&& (7 : Int32))), .unset, .unset, .unset, .unset, .unset, .unset, .unset, .unset, .unset, .unset, .unset, .unset, .unset, .unset, .unset, .unset, .unset, .unset] []))
  generalize hv_dg : ((1 : Int32) + (((x0.toUInt32 >>> ((2 : Int32) &&& 31).toUInt32).toInt32) &&& (7 : Int32))) = dg
  show Goes p e below _ (s₁.setTop (mkF m 23 #[vi x0, vi x1, .val (.long x2), .second, .val (.long x3), .second, .val (.long x4), .second, .val (.long x5), .second, vi bp, vi x_, vi dg, .unset, .unset, .unset, .unset, .unset, .unset, .unset, .unset, .unset, .unset, .unset, .unset, .unset, .unset, .unset, .unset, .unset, .unset] []))
  have hdg := own_dgr hv_dg
  have HD1 := hdg.1
  have HD8 := hdg.2
  obtain ⟨nd, Hnd⟩ : ∃ nd : Nat, dg.toInt = (nd : Int) := ⟨dg.toInt.toNat, by omega⟩
  have Hn8 : nd ≤ 8 := by omega
  obtain ⟨B, hB⟩ : ∃ B : Nat, (B : Int) = dg.toInt * bp.toInt := ⟨(dg.toInt * bp.toInt).toNat, Int.toNat_of_nonneg (Int.mul_nonneg (by omega) (by have := own_bbr HB; omega))⟩
  refine gIL X0 hx hby at_23 rfl ?_
  refine gIL X0 hx hby at_25 rfl ?_
  refine Goes.via (fun _ kk_ => XS.imul X0.here hx rfl (hb hby at_27) rfl kk_) ?_
  show Goes p e below _ (s₁.setTop (mkF m 28 #[vi x0, vi x1, .val (.long x2), .second, .val (.long x3), .second, .val (.long x4), .second, .val (.long x5), .second, vi bp, vi x_, vi dg, .unset, .unset, .unset, .unset, .unset, .unset, .unset, .unset, .unset, .unset, .unset, .unset, .unset, .unset, .unset, .unset, .unset, .unset] [(.int (dg * bp))]))
  refine Goes.via (fun _ kk_ => XS.istore X0.here hx rfl (hb hby at_28) rfl (l' := #[vi x0, vi x1, .val (.long x2), .second, .val (.long x3), .second, .val (.long x4), .second, .val (.long x5), .second, vi bp, vi x_, vi dg, vi (dg * bp), .unset, .unset, .unset, .unset, .unset, .unset, .unset, .unset, .unset, .unset, .unset, .unset, .unset, .unset, .unset, .unset, .unset]) rfl kk_) ?_
  show Goes p e below _ (s₁.setTop (mkF m 30 #[vi x0, vi x1, .val (.long x2), .second, .val (.long x3), .second, .val (.long x4), .second, .val (.long x5), .second, vi bp, vi x_, vi dg, vi (dg * bp), .unset, .unset, .unset, .unset, .unset, .unset, .unset, .unset, .unset, .unset, .unset, .unset, .unset, .unset, .unset, .unset, .unset] []))
  refine Goes.via (fun _ kk_ => XS.lconst X0.here hx rfl (hb hby at_30) kk_) ?_
  show Goes p e below _ (s₁.setTop (mkF m 31 #[vi x0, vi x1, .val (.long x2), .second, .val (.long x3), .second, .val (.long x4), .second, .val (.long x5), .second, vi bp, vi x_, vi dg, vi (dg * bp), .unset, .unset, .unset, .unset, .unset, .unset, .unset, .unset, .unset, .unset, .unset, .unset, .unset, .unset, .unset, .unset, .unset] [(.long (1 : Int64))]))
  refine gIL X0 hx hby at_31 rfl ?_
  refine Goes.via (fun _ kk_ => XS.lshl X0.here hx rfl (hb hby at_33) rfl kk_) ?_
  show Goes p e below _ (s₁.setTop (mkF m 34 #[vi x0, vi x1, .val (.long x2), .second, .val (.long x3), .second, .val (.long x4), .second, .val (.long x5), .second, vi bp, vi x_, vi dg, vi (dg * bp), .unset, .unset, .unset, .unset, .unset, .unset, .unset, .unset, .unset, .unset, .unset, .unset, .unset, .unset, .unset, .unset, .unset] [(.long ((1 : Int64) <<< ((dg * bp) &&& 0x3f).toInt64))]))
  refine Goes.via (fun _ kk_ => XS.lconst X0.here hx rfl (hb hby at_34) kk_) ?_
  show Goes p e below _ (s₁.setTop (mkF m 35 #[vi x0, vi x1, .val (.long x2), .second, .val (.long x3), .second, .val (.long x4), .second, .val (.long x5), .second, vi bp, vi x_, vi dg, vi (dg * bp), .unset, .unset, .unset, .unset, .unset, .unset, .unset, .unset, .unset, .unset, .unset, .unset, .unset, .unset, .unset, .unset, .unset] [(.long (1 : Int64)), (.long ((1 : Int64) <<< ((dg * bp) &&& 0x3f).toInt64))]))
  refine Goes.via (fun _ kk_ => XS.lsub X0.here hx rfl (hb hby at_35) rfl kk_) ?_
  show Goes p e below _ (s₁.setTop (mkF m 36 #[vi x0, vi x1, .val (.long x2), .second, .val (.long x3), .second, .val (.long x4), .second, .val (.long x5), .second, vi bp, vi x_, vi dg, vi (dg * bp), .unset, .unset, .unset, .unset, .unset, .unset, .unset, .unset, .unset, .unset, .unset, .unset, .unset, .unset, .unset, .unset, .unset] [(.long (((1 : Int64) <<< ((dg * bp) &&& 0x3f).toInt64) - (1 : Int64)))]))
  refine Goes.via (fun _ kk_ => XS.lstore X0.here hx rfl (hb hby at_36) rfl (l' := #[vi x0, vi x1, .val (.long x2), .second, .val (.long x3), .second, .val (.long x4), .second, .val (.long x5), .second, vi bp, vi x_, vi dg, vi (dg * bp), .val (.long (((1 : Int64) <<< ((dg * bp) &&& 0x3f).toInt64) - (1 : Int64))), .second, .unset, .unset, .unset, .unset, .unset, .unset, .unset, .unset, .unset, .unset, .unset, .unset, .unset, .unset, .unset]) rfl kk_) ?_
  show Goes p e below _ (s₁.setTop (mkF m 38 #[vi x0, vi x1, .val (.long x2), .second, .val (.long x3), .second, .val (.long x4), .second, .val (.long x5), .second, vi bp, vi x_, vi dg, vi (dg * bp), .val (.long (((1 : Int64) <<< ((dg * bp) &&& 0x3f).toInt64) - (1 : Int64))), .second, .unset, .unset, .unset, .unset, .unset, .unset, .unset, .unset, .unset, .unset, .unset, .unset, .unset, .unset, .unset] []))
  generalize hv_mk : (((1 : Int64) <<< ((dg * bp) &&& 0x3f).toInt64) - (1 : Int64)) = mk
  show Goes p e below _ (s₁.setTop (mkF m 38 #[vi x0, vi x1, .val (.long x2), .second, .val (.long x3), .second, .val (.long x4), .second, .val (.long x5), .second, vi bp, vi x_, vi dg, vi (dg * bp), .val (.long mk), .second, .unset, .unset, .unset, .unset, .unset, .unset, .unset, .unset, .unset, .unset, .unset, .unset, .unset, .unset, .unset] []))
  refine Goes.via (fun _ kk_ => XS.lloadN X0.here hx rfl (hb hby at_38) rfl  kk_) ?_
  show Goes p e below _ (s₁.setTop (mkF m 39 #[vi x0, vi x1, .val (.long x2), .second, .val (.long x3), .second, .val (.long x4), .second, .val (.long x5), .second, vi bp, vi x_, vi dg, vi (dg * bp), .val (.long mk), .second, .unset, .unset, .unset, .unset, .unset, .unset, .unset, .unset, .unset, .unset, .unset, .unset, .unset, .unset, .unset] [(.long x2)]))
  refine Goes.via (fun _ kk_ => XS.lload X0.here hx rfl (hb hby at_39) rfl  kk_) ?_
  show Goes p e below _ (s₁.setTop (mkF m 41 #[vi x0, vi x1, .val (.long x2), .second, .val (.long x3), .second, .val (.long x4), .second, .val (.long x5), .second, vi bp, vi x_, vi dg, vi (dg * bp), .val (.long mk), .second, .unset, .unset, .unset, .unset, .unset, .unset, .unset, .unset, .unset, .unset, .unset, .unset, .unset, .unset, .unset] [(.long mk), (.long x2)]))
  refine Goes.via (fun _ kk_ => XS.land X0.here hx rfl (hb hby at_41) rfl kk_) ?_
  show Goes p e below _ (s₁.setTop (mkF m 42 #[vi x0, vi x1, .val (.long x2), .second, .val (.long x3), .second, .val (.long x4), .second, .val (.long x5), .second, vi bp, vi x_, vi dg, vi (dg * bp), .val (.long mk), .second, .unset, .unset, .unset, .unset, .unset, .unset, .unset, .unset, .unset, .unset, .unset, .unset, .unset, .unset, .unset] [(.long (x2 &&& mk))]))
  refine Goes.via (fun _ kk_ => XS.lstore X0.here hx rfl (hb hby at_42) rfl (l' := #[vi x0, vi x1, .val (.long x2), .second, .val (.long x3), .second, .val (.long x4), .second, .val (.long x5), .second, vi bp, vi x_, vi dg, vi (dg * bp), .val (.long mk), .second, .val (.long (x2 &&& mk)), .second, .unset, .unset, .unset, .unset, .unset, .unset, .unset, .unset, .unset, .unset, .unset, .unset, .unset]) rfl kk_) ?_
  show Goes p e below _ (s₁.setTop (mkF m 44 #[vi x0, vi x1, .val (.long x2), .second, .val (.long x3), .second, .val (.long x4), .second, .val (.long x5), .second, vi bp, vi x_, vi dg, vi (dg * bp), .val (.long mk), .second, .val (.long (x2 &&& mk)), .second, .unset, .unset, .unset, .unset, .unset, .unset, .unset, .unset, .unset, .unset, .unset, .unset, .unset] []))
  generalize hv_w_ : (x2 &&& mk) = w_
  show Goes p e below _ (s₁.setTop (mkF m 44 #[vi x0, vi x1, .val (.long x2), .second, .val (.long x3), .second, .val (.long x4), .second, .val (.long x5), .second, vi bp, vi x_, vi dg, vi (dg * bp), .val (.long mk), .second, .val (.long w_), .second, .unset, .unset, .unset, .unset, .unset, .unset, .unset, .unset, .unset, .unset, .unset, .unset, .unset] []))
  have Hcw := own_cut HB HD1 HD8 hB hv_mk hv_w_
  refine Goes.via (fun _ kk_ => XS.lload X0.here hx rfl (hb hby at_44) rfl  kk_) ?_
  show Goes p e below _ (s₁.setTop (mkF m 46 #[vi x0, vi x1, .val (.long x2), .second, .val (.long x3), .second, .val (.long x4), .second, .val (.long x5), .second, vi bp, vi x_, vi dg, vi (dg * bp), .val (.long mk), .second, .val (.long w_), .second, .unset, .unset, .unset, .unset, .unset, .unset, .unset, .unset, .unset, .unset, .unset, .unset, .unset] [(.long x3)]))
  refine Goes.via (fun _ kk_ => XS.lload X0.here hx rfl (hb hby at_46) rfl  kk_) ?_
  show Goes p e below _ (s₁.setTop (mkF m 48 #[vi x0, vi x1, .val (.long x2), .second, .val (.long x3), .second, .val (.long x4), .second, .val (.long x5), .second, vi bp, vi x_, vi dg, vi (dg * bp), .val (.long mk), .second, .val (.long w_), .second, .unset, .unset, .unset, .unset, .unset, .unset, .unset, .unset, .unset, .unset, .unset, .unset, .unset] [(.long mk), (.long x3)]))
  refine Goes.via (fun _ kk_ => XS.land X0.here hx rfl (hb hby at_48) rfl kk_) ?_
  show Goes p e below _ (s₁.setTop (mkF m 49 #[vi x0, vi x1, .val (.long x2), .second, .val (.long x3), .second, .val (.long x4), .second, .val (.long x5), .second, vi bp, vi x_, vi dg, vi (dg * bp), .val (.long mk), .second, .val (.long w_), .second, .unset, .unset, .unset, .unset, .unset, .unset, .unset, .unset, .unset, .unset, .unset, .unset, .unset] [(.long (x3 &&& mk))]))
  refine Goes.via (fun _ kk_ => XS.lstore X0.here hx rfl (hb hby at_49) rfl (l' := #[vi x0, vi x1, .val (.long x2), .second, .val (.long x3), .second, .val (.long x4), .second, .val (.long x5), .second, vi bp, vi x_, vi dg, vi (dg * bp), .val (.long mk), .second, .val (.long w_), .second, .val (.long (x3 &&& mk)), .second, .unset, .unset, .unset, .unset, .unset, .unset, .unset, .unset, .unset, .unset, .unset]) rfl kk_) ?_
  show Goes p e below _ (s₁.setTop (mkF m 51 #[vi x0, vi x1, .val (.long x2), .second, .val (.long x3), .second, .val (.long x4), .second, .val (.long x5), .second, vi bp, vi x_, vi dg, vi (dg * bp), .val (.long mk), .second, .val (.long w_), .second, .val (.long (x3 &&& mk)), .second, .unset, .unset, .unset, .unset, .unset, .unset, .unset, .unset, .unset, .unset, .unset] []))
  generalize hv_ya : (x3 &&& mk) = ya
  show Goes p e below _ (s₁.setTop (mkF m 51 #[vi x0, vi x1, .val (.long x2), .second, .val (.long x3), .second, .val (.long x4), .second, .val (.long x5), .second, vi bp, vi x_, vi dg, vi (dg * bp), .val (.long mk), .second, .val (.long w_), .second, .val (.long ya), .second, .unset, .unset, .unset, .unset, .unset, .unset, .unset, .unset, .unset, .unset, .unset] []))
  have Hca := own_cut HB HD1 HD8 hB hv_mk hv_ya
  refine Goes.via (fun _ kk_ => XS.lload X0.here hx rfl (hb hby at_51) rfl  kk_) ?_
  show Goes p e below _ (s₁.setTop (mkF m 53 #[vi x0, vi x1, .val (.long x2), .second, .val (.long x3), .second, .val (.long x4), .second, .val (.long x5), .second, vi bp, vi x_, vi dg, vi (dg * bp), .val (.long mk), .second, .val (.long w_), .second, .val (.long ya), .second, .unset, .unset, .unset, .unset, .unset, .unset, .unset, .unset, .unset, .unset, .unset] [(.long x4)]))
  refine Goes.via (fun _ kk_ => XS.lload X0.here hx rfl (hb hby at_53) rfl  kk_) ?_
  show Goes p e below _ (s₁.setTop (mkF m 55 #[vi x0, vi x1, .val (.long x2), .second, .val (.long x3), .second, .val (.long x4), .second, .val (.long x5), .second, vi bp, vi x_, vi dg, vi (dg * bp), .val (.long mk), .second, .val (.long w_), .second, .val (.long ya), .second, .unset, .unset, .unset, .unset, .unset, .unset, .unset, .unset, .unset, .unset, .unset] [(.long mk), (.long x4)]))
  refine Goes.via (fun _ kk_ => XS.land X0.here hx rfl (hb hby at_55) rfl kk_) ?_
  show Goes p e below _ (s₁.setTop (mkF m 56 #[vi x0, vi x1, .val (.long x2), .second, .val (.long x3), .second, .val (.long x4), .second, .val (.long x5), .second, vi bp, vi x_, vi dg, vi (dg * bp), .val (.long mk), .second, .val (.long w_), .second, .val (.long ya), .second, .unset, .unset, .unset, .unset, .unset, .unset, .unset, .unset, .unset, .unset, .unset] [(.long (x4 &&& mk))]))
  refine Goes.via (fun _ kk_ => XS.lstore X0.here hx rfl (hb hby at_56) rfl (l' := #[vi x0, vi x1, .val (.long x2), .second, .val (.long x3), .second, .val (.long x4), .second, .val (.long x5), .second, vi bp, vi x_, vi dg, vi (dg * bp), .val (.long mk), .second, .val (.long w_), .second, .val (.long ya), .second, .val (.long (x4 &&& mk)), .second, .unset, .unset, .unset, .unset, .unset, .unset, .unset, .unset, .unset]) rfl kk_) ?_
  show Goes p e below _ (s₁.setTop (mkF m 58 #[vi x0, vi x1, .val (.long x2), .second, .val (.long x3), .second, .val (.long x4), .second, .val (.long x5), .second, vi bp, vi x_, vi dg, vi (dg * bp), .val (.long mk), .second, .val (.long w_), .second, .val (.long ya), .second, .val (.long (x4 &&& mk)), .second, .unset, .unset, .unset, .unset, .unset, .unset, .unset, .unset, .unset] []))
  generalize hv_yb : (x4 &&& mk) = yb
  show Goes p e below _ (s₁.setTop (mkF m 58 #[vi x0, vi x1, .val (.long x2), .second, .val (.long x3), .second, .val (.long x4), .second, .val (.long x5), .second, vi bp, vi x_, vi dg, vi (dg * bp), .val (.long mk), .second, .val (.long w_), .second, .val (.long ya), .second, .val (.long yb), .second, .unset, .unset, .unset, .unset, .unset, .unset, .unset, .unset, .unset] []))
  have Hcb := own_cut HB HD1 HD8 hB hv_mk hv_yb
  refine Goes.via (fun _ kk_ => XS.lload X0.here hx rfl (hb hby at_58) rfl  kk_) ?_
  show Goes p e below _ (s₁.setTop (mkF m 60 #[vi x0, vi x1, .val (.long x2), .second, .val (.long x3), .second, .val (.long x4), .second, .val (.long x5), .second, vi bp, vi x_, vi dg, vi (dg * bp), .val (.long mk), .second, .val (.long w_), .second, .val (.long ya), .second, .val (.long yb), .second, .unset, .unset, .unset, .unset, .unset, .unset, .unset, .unset, .unset] [(.long x5)]))
  refine Goes.via (fun _ kk_ => XS.lload X0.here hx rfl (hb hby at_60) rfl  kk_) ?_
  show Goes p e below _ (s₁.setTop (mkF m 62 #[vi x0, vi x1, .val (.long x2), .second, .val (.long x3), .second, .val (.long x4), .second, .val (.long x5), .second, vi bp, vi x_, vi dg, vi (dg * bp), .val (.long mk), .second, .val (.long w_), .second, .val (.long ya), .second, .val (.long yb), .second, .unset, .unset, .unset, .unset, .unset, .unset, .unset, .unset, .unset] [(.long mk), (.long x5)]))
  refine Goes.via (fun _ kk_ => XS.land X0.here hx rfl (hb hby at_62) rfl kk_) ?_
  show Goes p e below _ (s₁.setTop (mkF m 63 #[vi x0, vi x1, .val (.long x2), .second, .val (.long x3), .second, .val (.long x4), .second, .val (.long x5), .second, vi bp, vi x_, vi dg, vi (dg * bp), .val (.long mk), .second, .val (.long w_), .second, .val (.long ya), .second, .val (.long yb), .second, .unset, .unset, .unset, .unset, .unset, .unset, .unset, .unset, .unset] [(.long (x5 &&& mk))]))
  refine Goes.via (fun _ kk_ => XS.lstore X0.here hx rfl (hb hby at_63) rfl (l' := #[vi x0, vi x1, .val (.long x2), .second, .val (.long x3), .second, .val (.long x4), .second, .val (.long x5), .second, vi bp, vi x_, vi dg, vi (dg * bp), .val (.long mk), .second, .val (.long w_), .second, .val (.long ya), .second, .val (.long yb), .second, .val (.long (x5 &&& mk)), .second, .unset, .unset, .unset, .unset, .unset, .unset, .unset]) rfl kk_) ?_
  show Goes p e below _ (s₁.setTop (mkF m 65 #[vi x0, vi x1, .val (.long x2), .second, .val (.long x3), .second, .val (.long x4), .second, .val (.long x5), .second, vi bp, vi x_, vi dg, vi (dg * bp), .val (.long mk), .second, .val (.long w_), .second, .val (.long ya), .second, .val (.long yb), .second, .val (.long (x5 &&& mk)), .second, .unset, .unset, .unset, .unset, .unset, .unset, .unset] []))
  generalize hv_yc : (x5 &&& mk) = yc
  show Goes p e below _ (s₁.setTop (mkF m 65 #[vi x0, vi x1, .val (.long x2), .second, .val (.long x3), .second, .val (.long x4), .second, .val (.long x5), .second, vi bp, vi x_, vi dg, vi (dg * bp), .val (.long mk), .second, .val (.long w_), .second, .val (.long ya), .second, .val (.long yb), .second, .val (.long yc), .second, .unset, .unset, .unset, .unset, .unset, .unset, .unset] []))
  have Hcc := own_cut HB HD1 HD8 hB hv_mk hv_yc
  refine gILN X0 hx hby at_65 rfl ?_
  refine Goes.via (X0.ldcInt hx hown (mvT hZ (own_w hw 0 rfl)) (g := (mkF m 66 #[vi x0, vi x1, .val (.long x2), .second, .val (.long x3), .second, .val (.long x4), .second, .val (.long x5), .second, vi bp, vi x_, vi dg, vi (dg * bp), .val (.long mk), .second, .val (.long w_), .second, .val (.long ya), .second, .val (.long yb), .second, .val (.long yc), .second, .unset, .unset, .unset, .unset, .unset, .unset, .unset] [(.int x1)])) rfl (hb hby at_66)) ?_
  show Goes p e below _ (s₁.setTop (mkF m 68 #[vi x0, vi x1, .val (.long x2), .second, .val (.long x3), .second, .val (.long x4), .second, .val (.long x5), .second, vi bp, vi x_, vi dg, vi (dg * bp), .val (.long mk), .second, .val (.long w_), .second, .val (.long ya), .second, .val (.long yb), .second, .val (.long yc), .second, .unset, .unset, .unset, .unset, .unset, .unset, .unset] [(.int (2147483647 : Int32)), (.int x1)]))
  refine Goes.via (fun _ kk_ => XS.iand X0.here hx rfl (hb hby at_68) rfl kk_) ?_
  show Goes p e below _ (s₁.setTop (mkF m 69 #[vi x0, vi x1, .val (.long x2), .second, .val (.long x3), .second, .val (.long x4), .second, .val (.long x5), .second, vi bp, vi x_, vi dg, vi (dg * bp), .val (.long mk), .second, .val (.long w_), .second, .val (.long ya), .second, .val (.long yb), .second, .val (.long yc), .second, .unset, .unset, .unset, .unset, .unset, .unset, .unset] [(.int (x1 &&& (2147483647 : Int32)))]))
  refine gIL X0 hx hby at_69 rfl ?_
  refine gIC (z := 2) X0 hx hby at_71 rfl ?_
  refine Goes.via (fun _ kk_ => XS.iadd X0.here hx rfl (hb hby at_72) rfl kk_) ?_
  show Goes p e below _ (s₁.setTop (mkF m 73 #[vi x0, vi x1, .val (.long x2), .second, .val (.long x3), .second, .val (.long x4), .second, .val (.long x5), .second, vi bp, vi x_, vi dg, vi (dg * bp), .val (.long mk), .second, .val (.long w_), .second, .val (.long ya), .second, .val (.long yb), .second, .val (.long yc), .second, .unset, .unset, .unset, .unset, .unset, .unset, .unset] [(.int (dg + (2 : Int32))), (.int (x1 &&& (2147483647 : Int32)))]))
  refine Goes.via (fun _ kk_ => iremM X0 hx rfl (hb hby at_73) rfl (own_d2z HD1 HD8) kk_) ?_
  show Goes p e below _ (s₁.setTop (mkF m 74 #[vi x0, vi x1, .val (.long x2), .second, .val (.long x3), .second, .val (.long x4), .second, .val (.long x5), .second, vi bp, vi x_, vi dg, vi (dg * bp), .val (.long mk), .second, .val (.long w_), .second, .val (.long ya), .second, .val (.long yb), .second, .val (.long yc), .second, .unset, .unset, .unset, .unset, .unset, .unset, .unset] [(.int ((x1 &&& (2147483647 : Int32)) % (dg + (2 : Int32))))]))
  refine Goes.via (fun _ kk_ => XS.istore X0.here hx rfl (hb hby at_74) rfl (l' := #[vi x0, vi x1, .val (.long x2), .second, .val (.long x3), .second, .val (.long x4), .second, .val (.long x5), .second, vi bp, vi x_, vi dg, vi (dg * bp), .val (.long mk), .second, .val (.long w_), .second, .val (.long ya), .second, .val (.long yb), .second, .val (.long yc), .second, vi ((x1 &&& (2147483647 : Int32)) % (dg + (2 : Int32))), .unset, .unset, .unset, .unset, .unset, .unset]) rfl kk_) ?_
  show Goes p e below _ (s₁.setTop (mkF m 76 #[vi x0, vi x1, .val (.long x2), .second, .val (.long x3), .second, .val (.long x4), .second, .val (.long x5), .second, vi bp, vi x_, vi dg, vi (dg * bp), .val (.long mk), .second, .val (.long w_), .second, .val (.long ya), .second, .val (.long yb), .second, .val (.long yc), .second, vi ((x1 &&& (2147483647 : Int32)) % (dg + (2 : Int32))), .unset, .unset, .unset, .unset, .unset, .unset] []))
  generalize hv_dd : ((x1 &&& (2147483647 : Int32)) % (dg + (2 : Int32))) = dd
  show Goes p e below _ (s₁.setTop (mkF m 76 #[vi x0, vi x1, .val (.long x2), .second, .val (.long x3), .second, .val (.long x4), .second, .val (.long x5), .second, vi bp, vi x_, vi dg, vi (dg * bp), .val (.long mk), .second, .val (.long w_), .second, .val (.long ya), .second, .val (.long yb), .second, .val (.long yc), .second, vi dd, .unset, .unset, .unset, .unset, .unset, .unset] []))
  obtain ⟨dn, Hdn⟩ := own_dd HD1 HD8 hv_dd
  obtain ⟨T1, h1, X1, e1, E1, A1, D1, -, st1⟩ := newO X0 hx hZ hown (own_w hw 1 rfl) (own_w hw 2 rfl) (own_w hw 3 rfl) e0 (g := (mkF m 76 #[vi x0, vi x1, .val (.long x2), .second, .val (.long x3), .second, .val (.long x4), .second, .val (.long x5), .second, vi bp, vi x_, vi dg, vi (dg * bp), .val (.long mk), .second, .val (.long w_), .second, .val (.long ya), .second, .val (.long yb), .second, .val (.long yc), .second, vi dd, .unset, .unset, .unset, .unset, .unset, .unset] [])) rfl (hb hby at_76) (by first | decide | omega | (dsimp only; omega)) (by first | decide | omega | (dsimp only; omega))
  obtain ⟨b1, g1⟩ : ∃ z, z = (h0).size := ⟨_, rfl⟩
  rw [← g1] at A1 D1 st1
  have sz_b1 : h0.size ≤ b1 := Nat.le_trans (Nat.le_refl _) (Nat.le_of_eq g1.symm)
  have gn_b1 : n0 ≤ b1 := Nat.le_trans Z0 sz_b1
  have F_base_b1 : Fld Z h1 b1 "nearhop/model/IdSpace" "base" "I" (.int (0 : Int32)) := D1 (Or.inr (own_w hw 21 rfl)) (ty := .int) (by decide)
  have F_digits_b1 : Fld Z h1 b1 "nearhop/model/IdSpace" "digits" "I" (.int (0 : Int32)) := D1 (Or.inr (own_w hw 23 rfl)) (ty := .int) (by decide)
  refine Goes.via st1 ?_
  show Goes p e below _ (T1.setTop (mkF m 79 #[vi x0, vi x1, .val (.long x2), .second, .val (.long x3), .second, .val (.long x4), .second, .val (.long x5), .second, vi bp, vi x_, vi dg, vi (dg * bp), .val (.long mk), .second, .val (.long w_), .second, .val (.long ya), .second, .val (.long yb), .second, .val (.long yc), .second, vi dd, .unset, .unset, .unset, .unset, .unset, .unset] [(.ref b1)]))
  refine gDU X1 hx hby at_79 rfl ?_
  refine gIL X1 hx hby at_80 rfl ?_
  refine gIL X1 hx hby at_82 rfl ?_
  have z4 : h0.size ≤ (h1).size := (Nat.le_trans (Nat.le_refl _) E1.1)
  obtain ⟨_, _, ⟨T3, L3, k3, n3⟩, -, X3, ⟨Lc3, hQ3, l3, y3, z3⟩, st3⟩ := X1.specialBack hx (y := mN_IdSpace_init) rfl hown (mvT hZ (own_w hw 4 rfl)) (mvT hZ (own_w hw 5 rfl)) (mvT hZ (own_w hw 6 rfl)) (by decide) (backOf (W := 1) (rm1 l Z a0 hw [] b1 x_ dg bp h1 n0 (Nat.le_trans Z0 z4) A1 F_base_b1 F_digits_b1 gn_b1 (by first | assumption | rfl | decide | omega | (simp; done)) (by first | assumption | rfl | decide | omega | (simp; done)) (by first | assumption | rfl | decide | omega | (simp; done))) hZ (own_w hw 6 rfl) (own_w hw 3 rfl) (by decide) (by decide)) (g := (mkF m 84 #[vi x0, vi x1, .val (.long x2), .second, .val (.long x3), .second, .val (.long x4), .second, .val (.long x5), .second, vi bp, vi x_, vi dg, vi (dg * bp), .val (.long mk), .second, .val (.long w_), .second, .val (.long ya), .second, .val (.long yb), .second, .val (.long yc), .second, vi dd, .unset, .unset, .unset, .unset, .unset, .unset] [(.int dg), (.int x_), (.ref b1), (.ref b1)])) rfl (by rw [hml]; rfl) (Steps.refl _) (a := b1) (argsL := [(.int x_), (.int dg)]) (rest := [(.ref b1)]) (lenOf pd_16 rfl) rfl (by show 2 * 0 + _ ≤ _; exact Nat.le_of_eq rfl) (hb hby at_84) (fun _ _ => ⟨rfl, e1, (by decide : 1 + 0 ≤ _), (by decide : 2 + 0 ≤ _)⟩)
  dsimp only [Pt.U, Pt.locs, Pt.cells, Pt.slots] at X3 l3 y3 z3 st3 hQ3
  replace l3 := l3.symm
  subst l3 y3 z3
  obtain ⟨rfl, N3q, K3, u3_0, u3_1, u3_2⟩ := hQ3
  have N3 := Fr.app N0 N3q
  refine Goes.tr st3 ?_
  show Goes p e below _ (T3.setTop (mkF m 87 #[vi x0, vi x1, .val (.long x2), .second, .val (.long x3), .second, .val (.long x4), .second, .val (.long x5), .second, vi bp, vi x_, vi dg, vi (dg * bp), .val (.long mk), .second, .val (.long w_), .second, .val (.long ya), .second, .val (.long yb), .second, .val (.long yc), .second, vi dd, .unset, .unset, .unset, .unset, .unset, .unset] [(.ref b1)]))
  refine Goes.via (fun _ kk_ => XS.astore X3.here hx rfl (hb hby at_87) rfl rfl (l' := #[vi x0, vi x1, .val (.long x2), .second, .val (.long x3), .second, .val (.long x4), .second, .val (.long x5), .second, vi bp, vi x_, vi dg, vi (dg * bp), .val (.long mk), .second, .val (.long w_), .second, .val (.long ya), .second, .val (.long yb), .second, .val (.long yc), .second, vi dd, vr b1, .unset, .unset, .unset, .unset, .unset]) rfl kk_) ?_
  show Goes p e below _ (T3.setTop (mkF m 89 #[vi x0, vi x1, .val (.long x2), .second, .val (.long x3), .second, .val (.long x4), .second, .val (.long x5), .second, vi bp, vi x_, vi dg, vi (dg * bp), .val (.long mk), .second, .val (.long w_), .second, .val (.long ya), .second, .val (.long yb), .second, .val (.long yc), .second, vi dd, vr b1, .unset, .unset, .unset, .unset, .unset] []))
  obtain ⟨T5, h5, X5, e5, E5, A5, D5, -, st5⟩ := newO X3 hx hZ hown (own_w hw 24 rfl) (own_w hw 25 rfl) (own_w hw 26 rfl) rfl (g := (mkF m 89 #[vi x0, vi x1, .val (.long x2), .second, .val (.long x3), .second, .val (.long x4), .second, .val (.long x5), .second, vi bp, vi x_, vi dg, vi (dg * bp), .val (.long mk), .second, .val (.long w_), .second, .val (.long ya), .second, .val (.long yb), .second, .val (.long yc), .second, vi dd, vr b1, .unset, .unset, .unset, .unset, .unset] [])) rfl (hb hby at_89) (by first | decide | omega | (dsimp only; omega)) (by first | decide | omega | (dsimp only; omega))
  obtain ⟨b5, g5⟩ : ∃ z, z = (T3.heap).size := ⟨_, rfl⟩
  rw [← g5] at A5 D5 st5
  have K6 : Keep h0 T3.heap [] := (((Keep.refl h0 []).ext E1).trans K3 (allS (Or.inr sz_b1) all0))
  have lne9 : b1 < b5 := Nat.lt_of_lt_of_le u3_0.lt (Nat.le_of_eq g5.symm)
  have ne9 : b1 ≠ b5 := Nat.ne_of_lt lne9
  have z10 : h0.size ≤ (T3.heap).size := (Nat.le_trans z4 K3.1)
  have sz_b5 : h0.size ≤ b5 := Nat.le_trans z10 (Nat.le_of_eq g5.symm)
  have gn_b5 : n0 ≤ b5 := Nat.le_trans Z0 sz_b5
  have F_members_b5 : Fld Z h5 b5 "nearhop/model/Block" "members" "Ljava/util/List;" .null := D5 (Or.inr (own_w hw 85 rfl)) (ty := (.object "java/util/List")) (by decide)
  have F_owner_b5 : Fld Z h5 b5 "nearhop/model/Block" "owner" "Lnearhop/model/Id;" .null := D5 (Or.inr (own_w hw 87 rfl)) (ty := (.object "nearhop/model/Id")) (by decide)
  have F_withShared_b5 : Fld Z h5 b5 "nearhop/model/Block" "withShared" "[I" .null := D5 (Or.inr (own_w hw 100 rfl)) (ty := (.array .int)) (by decide)
  have F_depth_b5 : Fld Z h5 b5 "nearhop/model/Block" "depth" "I" (.int (0 : Int32)) := D5 (Or.inl (own_w hw 131 rfl)) (ty := .int) (by decide)
  refine Goes.via st5 ?_
  show Goes p e below _ (T5.setTop (mkF m 92 #[vi x0, vi x1, .val (.long x2), .second, .val (.long x3), .second, .val (.long x4), .second, .val (.long x5), .second, vi bp, vi x_, vi dg, vi (dg * bp), .val (.long mk), .second, .val (.long w_), .second, .val (.long ya), .second, .val (.long yb), .second, .val (.long yc), .second, vi dd, vr b1, .unset, .unset, .unset, .unset, .unset] [(.ref b5)]))
  refine gDU X5 hx hby at_92 rfl ?_
  obtain ⟨T11, h11, X11, e11, E11, A11, D11, -, st11⟩ := newO X5 hx hZ hown (own_w hw 27 rfl) (own_w hw 28 rfl) (own_w hw 29 rfl) e5 (g := (mkF m 93 #[vi x0, vi x1, .val (.long x2), .second, .val (.long x3), .second, .val (.long x4), .second, .val (.long x5), .second, vi bp, vi x_, vi dg, vi (dg * bp), .val (.long mk), .second, .val (.long w_), .second, .val (.long ya), .second, .val (.long yb), .second, .val (.long yc), .second, vi dd, vr b1, .unset, .unset, .unset, .unset, .unset] [(.ref b5), (.ref b5)])) rfl (hb hby at_93) (by first | decide | omega | (dsimp only; omega)) (by first | decide | omega | (dsimp only; omega))
  obtain ⟨b11, g11⟩ : ∃ z, z = (h5).size := ⟨_, rfl⟩
  rw [← g11] at A11 D11 st11
  have K12 : Keep h0 h5 [] := (K6.ext E5)
  have f15 := (u3_0.ext E5)
  have lne16 : b1 < b11 := Nat.lt_of_lt_of_le f15.lt (Nat.le_of_eq g11.symm)
  have ne16 : b1 ≠ b11 := Nat.ne_of_lt lne16
  have lne17 : b5 < b11 := Nat.lt_of_lt_of_le A5.lt (Nat.le_of_eq g11.symm)
  have ne17 : b5 ≠ b11 := Nat.ne_of_lt lne17
  have z18 : h0.size ≤ (h5).size := (Nat.le_trans z10 E5.1)
  have sz_b11 : h0.size ≤ b11 := Nat.le_trans z18 (Nat.le_of_eq g11.symm)
  have gn_b11 : n0 ≤ b11 := Nat.le_trans Z0 sz_b11
  have F_space_b11 : Fld Z h11 b11 "nearhop/model/Id" "space" "Lnearhop/model/IdSpace;" .null := D11 (Or.inr (own_w hw 35 rfl)) (ty := (.object "nearhop/model/IdSpace")) (by decide)
  have F_high_b11 : Fld Z h11 b11 "nearhop/model/Id" "high" "J" (.long (0 : Int64)) := D11 (Or.inr (own_w hw 50 rfl)) (ty := .long) (by decide)
  have F_low_b11 : Fld Z h11 b11 "nearhop/model/Id" "low" "J" (.long (0 : Int64)) := D11 (Or.inr (own_w hw 55 rfl)) (ty := .long) (by decide)
  refine Goes.via st11 ?_
  show Goes p e below _ (T11.setTop (mkF m 96 #[vi x0, vi x1, .val (.long x2), .second, .val (.long x3), .second, .val (.long x4), .second, .val (.long x5), .second, vi bp, vi x_, vi dg, vi (dg * bp), .val (.long mk), .second, .val (.long w_), .second, .val (.long ya), .second, .val (.long yb), .second, .val (.long yc), .second, vi dd, vr b1, .unset, .unset, .unset, .unset, .unset] [(.ref b11), (.ref b5), (.ref b5)]))
  refine gDU X11 hx hby at_96 rfl ?_
  refine gAL X11 hx hby at_97 rfl rfl ?_
  refine Goes.via (fun _ kk_ => XS.lconst X11.here hx rfl (hb hby at_99) kk_) ?_
  show Goes p e below _ (T11.setTop (mkF m 100 #[vi x0, vi x1, .val (.long x2), .second, .val (.long x3), .second, .val (.long x4), .second, .val (.long x5), .second, vi bp, vi x_, vi dg, vi (dg * bp), .val (.long mk), .second, .val (.long w_), .second, .val (.long ya), .second, .val (.long yb), .second, .val (.long yc), .second, vi dd, vr b1, .unset, .unset, .unset, .unset, .unset] [(.long (0 : Int64)), (.ref b1), (.ref b11), (.ref b11), (.ref b5), (.ref b5)]))
  refine Goes.via (fun _ kk_ => XS.lload X11.here hx rfl (hb hby at_100) rfl  kk_) ?_
  show Goes p e below _ (T11.setTop (mkF m 102 #[vi x0, vi x1, .val (.long x2), .second, .val (.long x3), .second, .val (.long x4), .second, .val (.long x5), .second, vi bp, vi x_, vi dg, vi (dg * bp), .val (.long mk), .second, .val (.long w_), .second, .val (.long ya), .second, .val (.long yb), .second, .val (.long yc), .second, vi dd, vr b1, .unset, .unset, .unset, .unset, .unset] [(.long w_), (.long (0 : Int64)), (.ref b1), (.ref b11), (.ref b11), (.ref b5), (.ref b5)]))
  have f19 := (f15.ext E11)
  have f20 := ((u3_1.ext E5).ext E11)
  have f21 := ((u3_2.ext E5).ext E11)
  have z23 : h0.size ≤ (h11).size := (Nat.le_trans z18 E11.1)
  obtain ⟨_, _, ⟨T22, L22, k22, n22⟩, -, X22, ⟨Lc22, hQ22, l22, y22, z22⟩, st22⟩ := X11.specialBack hx (y := mN_Id_init) rfl hown (mvT hZ (own_w hw 30 rfl)) (mvT hZ (own_w hw 31 rfl)) (mvT hZ (own_w hw 32 rfl)) (by decide) (backOf (W := 3) (rm5 l Z a0 hw [] b11 b1 w_ x_ dg bp h11 n0 (Nat.le_trans Z0 z23) A11 F_space_b11 F_high_b11 F_low_b11 gn_b11 f19 f20 f21 (by first | assumption | rfl | decide | omega | (simp; done)) (by first | assumption | rfl | decide | omega | (simp; done)) (by first | assumption | rfl | decide | omega | (simp; done)) (by first | assumption | rfl | decide | omega | (simp; done))) hZ (own_w hw 32 rfl) (own_w hw 29 rfl) (by decide) (by decide)) (g := (mkF m 102 #[vi x0, vi x1, .val (.long x2), .second, .val (.long x3), .second, .val (.long x4), .second, .val (.long x5), .second, vi bp, vi x_, vi dg, vi (dg * bp), .val (.long mk), .second, .val (.long w_), .second, .val (.long ya), .second, .val (.long yb), .second, .val (.long yc), .second, vi dd, vr b1, .unset, .unset, .unset, .unset, .unset] [(.long w_), (.long (0 : Int64)), (.ref b1), (.ref b11), (.ref b11), (.ref b5), (.ref b5)])) rfl (by rw [hml]; rfl) (Steps.refl _) (a := b11) (argsL := [(.ref b1), (.long (0 : Int64)), (.long w_)]) (rest := [(.ref b11), (.ref b5), (.ref b5)]) (lenOf pd_17 rfl) rfl (by show 2 * 0 + _ ≤ _; exact Nat.le_of_eq rfl) (hb hby at_102) (fun _ _ => ⟨rfl, e11, (by decide : 3 + 0 ≤ _), (by decide : 9 + 0 ≤ _)⟩)
  dsimp only [Pt.U, Pt.locs, Pt.cells, Pt.slots] at X22 l22 y22 z22 st22 hQ22
  replace l22 := l22.symm
  subst l22 y22 z22
  obtain ⟨rfl, N22q, K22, u22_0, u22_1, u22_2, u22_3⟩ := hQ22
  have N22 := Fr.app N3 N22q
  refine Goes.tr st22 ?_
  show Goes p e below _ (T22.setTop (mkF m 105 #[vi x0, vi x1, .val (.long x2), .second, .val (.long x3), .second, .val (.long x4), .second, .val (.long x5), .second, vi bp, vi x_, vi dg, vi (dg * bp), .val (.long mk), .second, .val (.long w_), .second, .val (.long ya), .second, .val (.long yb), .second, .val (.long yc), .second, vi dd, vr b1, .unset, .unset, .unset, .unset, .unset] [(.ref b11), (.ref b5), (.ref b5)]))
  have f24 := ((A5.ext E11).keep K22)
  have f25 := ((F_members_b5.ext E11).keep K22 (ninS ne17 nin0))
  have f26 := ((F_owner_b5.ext E11).keep K22 (ninS ne17 nin0))
  have f27 := ((F_withShared_b5.ext E11).keep K22 (ninS ne17 nin0))
  have f28 := ((F_depth_b5.ext E11).keep K22 (ninS ne17 nin0))
  have f29 := (f19.keep K22)
  have f30 := (f21.keep K22 (ninS ne16 nin0))
  have K31 : Keep h0 T22.heap [] := ((K12.ext E11).trans K22 (allS (Or.inr sz_b11) all0))
  have f32 : Sta Z T22.heap "java/util/ArrayList" "DEFAULTCAPACITY_EMPTY_ELEMENTDATA" "[Ljava/lang/Object;" (.ref ed) := own_sta_keep OE K31
  have z34 : h0.size ≤ (T22.heap).size := (Nat.le_trans z23 K22.1)
  obtain ⟨_, _, ⟨T33, L33, k33, n33⟩, -, X33, ⟨Lc33, hQ33, l33, y33, z33⟩, st33⟩ := X22.specialBack hx (y := mN_Block_init) rfl hown (mvT hZ (own_w hw 56 rfl)) (mvT hZ (own_w hw 57 rfl)) (mvT hZ (own_w hw 58 rfl)) (by decide) (backOf (W := 1) (rm10 l Z a0 hw [] b5 b11 b1 dg nd ed T22.heap n0 (Nat.le_trans Z0 z34) f24 f25 f26 f27 f28 gn_b5 u22_0 u22_1 f29 f30 (by first | assumption | rfl | decide | omega | (simp; done)) (by first | assumption | rfl | decide | omega | (simp; done)) f32) hZ (own_w hw 58 rfl) (own_w hw 26 rfl) (by decide) (by decide)) (g := (mkF m 105 #[vi x0, vi x1, .val (.long x2), .second, .val (.long x3), .second, .val (.long x4), .second, .val (.long x5), .second, vi bp, vi x_, vi dg, vi (dg * bp), .val (.long mk), .second, .val (.long w_), .second, .val (.long ya), .second, .val (.long yb), .second, .val (.long yc), .second, vi dd, vr b1, .unset, .unset, .unset, .unset, .unset] [(.ref b11), (.ref b5), (.ref b5)])) rfl (by rw [hml]; rfl) (Steps.refl _) (a := b5) (argsL := [(.ref b11)]) (rest := [(.ref b5)]) (lenOf pd_18 rfl) rfl (by show 2 * 0 + _ ≤ _; exact Nat.le_of_eq rfl) (hb hby at_105) (fun _ _ => ⟨rfl, rfl, (by decide : 3 + 2 ≤ _), (by decide : 9 + 11 ≤ _)⟩)
  dsimp only [Pt.U, Pt.locs, Pt.cells, Pt.slots] at X33 l33 y33 z33 st33 hQ33
  replace l33 := l33.symm
  subst l33 y33 z33
  obtain ⟨al33, ws33, kw33, rfl, N33q, K33, u33_0, u33_1, u33_2, u33_3, u33_4, u33_5, u33_6, u33_7, u33_8, u33_9, u33_10, u33_11⟩ := hQ33
  have N33 := Fr.app N22 N33q
  refine Goes.tr st33 ?_
  have ne37 : b1 ≠ al33 := Nat.ne_of_lt (Nat.lt_of_lt_of_le f29.lt u33_5)
  have ne38 : b11 ≠ al33 := Nat.ne_of_lt (Nat.lt_of_lt_of_le u22_0.lt u33_5)
  have sz_al33 : h0.size ≤ al33 := Nat.le_trans z34 u33_5
  have gn_al33 : n0 ≤ al33 := Nat.le_trans Z0 sz_al33
  have ne40 : b1 ≠ ws33 := Nat.ne_of_lt (Nat.lt_of_lt_of_le f29.lt u33_10)
  have ne41 : b11 ≠ ws33 := Nat.ne_of_lt (Nat.lt_of_lt_of_le u22_0.lt u33_10)
  have sz_ws33 : h0.size ≤ ws33 := Nat.le_trans z34 u33_10
  have gn_ws33 : n0 ≤ ws33 := Nat.le_trans Z0 sz_ws33
  have ne42 : b5 ≠ al33 := ne_exa u33_0 u33_6 (by decide)
  have ne43 : b5 ≠ ws33 := own_ne_arr u33_0 (own_w hw 25 rfl) u33_11
  have ne44 : al33 ≠ ws33 := own_ne_arr u33_6 (own_w hw 61 rfl) u33_11
  show Goes p e below _ (T33.setTop (mkF m 108 #[vi x0, vi x1, .val (.long x2), .second, .val (.long x3), .second, .val (.long x4), .second, .val (.long x5), .second, vi bp, vi x_, vi dg, vi (dg * bp), .val (.long mk), .second, .val (.long w_), .second, .val (.long ya), .second, .val (.long yb), .second, .val (.long yc), .second, vi dd, vr b1, .unset, .unset, .unset, .unset, .unset] [(.ref b5)]))
  refine Goes.via (fun _ kk_ => XS.astore X33.here hx rfl (hb hby at_108) rfl rfl (l' := #[vi x0, vi x1, .val (.long x2), .second, .val (.long x3), .second, .val (.long x4), .second, .val (.long x5), .second, vi bp, vi x_, vi dg, vi (dg * bp), .val (.long mk), .second, .val (.long w_), .second, .val (.long ya), .second, .val (.long yb), .second, .val (.long yc), .second, vi dd, vr b1, vr b5, .unset, .unset, .unset, .unset]) rfl kk_) ?_
  show Goes p e below _ (T33.setTop (mkF m 110 #[vi x0, vi x1, .val (.long x2), .second, .val (.long x3), .second, .val (.long x4), .second, .val (.long x5), .second, vi bp, vi x_, vi dg, vi (dg * bp), .val (.long mk), .second, .val (.long w_), .second, .val (.long ya), .second, .val (.long yb), .second, .val (.long yc), .second, vi dd, vr b1, vr b5, .unset, .unset, .unset, .unset] []))
  show Goes p e below _ (T33.setTop (mkF m 110 (own_lw x0 x1 x2 x3 x4 x5 bp x_ dg mk w_ ya yb yc dd b1 b5) []))
  obtain ⟨pA, hpA⟩ := own_pfx' HB HD1 HD8 Hnd hB Hcw Hca
  obtain ⟨pB, hpB⟩ := own_pfx' HB HD1 HD8 Hnd hB Hcw Hcb
  obtain ⟨pC, hpC⟩ := own_pfx' HB HD1 HD8 Hnd hB Hcw Hcc
  have hcn0 : ∀ i, (fun _ => (.int 0) : Nat → Value) i = .int (own_cnt [] i) := fun _ => rfl
  have J164 : ∀ (gj : Nat → Value) (r1 r2 r3 : List Nat) (TJ : State) (lcJ : List Loc), (Stand p l e room_1 s m #[(.int x0), (.int x1), (.long x2), (.long x3), (.long x4), (.long x5)] below meth c TJ lcJ 20 150) → (Fr n0 lcJ) → (Keep h0 TJ.heap []) → (Exa Z TJ.heap b5 "nearhop/model/Block") → (Fld Z TJ.heap b5 "nearhop/model/Block" "withShared" "[I" (.ref ws33)) → (Arw Z TJ.heap ws33 kw33 .int nd gj) → (∀ i, gj i = .int (own_cnt r3 i)) → (r1 = if ya = w_ then [] else pA :: []) → (r2 = if yb = w_ ∨ yb = ya then r1 else pB :: r1) → (r3 = if yc = w_ ∨ yc = ya ∨ yc = yb then r2 else pC :: r2) → Goes p e below (Fin_ s (Qrm0 Z x0 x1 x2 x3 x4 x5 ed kE fE h0 n0) room_1.cells room_1.slots) (TJ.setTop (mkF m 164 (own_lw x0 x1 x2 x3 x4 x5 bp x_ dg mk w_ ya yb yc dd b1 b5) [])) := by
    intro gj r1 r2 r3 TJ lcJ XJ NJ KJ fj0 fj1 fj2 hcn hr1 hr2 hr3
    show Goes p e below _ (TJ.setTop (mkF m 164 (own_lw x0 x1 x2 x3 x4 x5 bp x_ dg mk w_ ya yb yc dd b1 b5) []))
    refine Goes.via (fun _ kk_ => XS.lload XJ.here hx rfl (hb hby at_164) rfl  kk_) ?_
    show Goes p e below _ (TJ.setTop (mkF m 166 (own_lw x0 x1 x2 x3 x4 x5 bp x_ dg mk w_ ya yb yc dd b1 b5) [(.long ya)]))
    refine Goes.via (fun _ kk_ => XS.lload XJ.here hx rfl (hb hby at_166) rfl  kk_) ?_
    show Goes p e below _ (TJ.setTop (mkF m 168 (own_lw x0 x1 x2 x3 x4 x5 bp x_ dg mk w_ ya yb yc dd b1 b5) [(.long w_), (.long ya)]))
    refine Goes.via (fun _ kk_ => XS.lcmp XJ.here hx rfl (hb hby at_168) rfl kk_) ?_
    show Goes p e below _ (TJ.setTop (mkF m 169 (own_lw x0 x1 x2 x3 x4 x5 bp x_ dg mk w_ ya yb yc dd b1 b5) [(.int (lcmpW ya w_))]))
    obtain ⟨jj45, hv_jj45⟩ : ∃ z : Int32, z = (if ya = w_ then (0 : Int32) else (1 : Int32)) := ⟨_, rfl⟩
    suffices J : Goes p e below (Fin_ s (Qrm0 Z x0 x1 x2 x3 x4 x5 ed kE fE h0 n0) room_1.cells room_1.slots) (TJ.setTop (mkF m 177 (own_lw x0 x1 x2 x3 x4 x5 bp x_ dg mk w_ ya yb yc dd b1 b5) [(.int jj45)])) by
      by_cases hc169 : ya = w_
      · skip
        rw [show jj45 = (0 : Int32) from hv_jj45.trans (if_pos hc169)] at J
        refine Goes.via (fun _ kk_ => XS.ifYes XJ.here hx rfl (pc0 := 169) (pc' := 176) rfl (hb hby at_169) rfl ((if0 _ _).trans (teq ((lw_eq ya w_).mpr hc169)).1) (by decide) (by decide) kk_) ?_
        show Goes p e below _ (TJ.setTop (mkF m 176 (own_lw x0 x1 x2 x3 x4 x5 bp x_ dg mk w_ ya yb yc dd b1 b5) []))
        refine gIC (z := 0) XJ hx hby at_176 rfl ?_
        show Goes p e below _ (TJ.setTop (mkF m 177 (own_lw x0 x1 x2 x3 x4 x5 bp x_ dg mk w_ ya yb yc dd b1 b5) [(.int (0 : Int32))]))
        exact J
      · skip
        rw [show jj45 = (1 : Int32) from hv_jj45.trans (if_neg hc169)] at J
        refine Goes.via (fun _ kk_ => XS.ifNo XJ.here hx rfl (hb hby at_169) rfl ((if0 _ _).trans (feq (fun q => hc169 ((lw_eq ya w_).mp q))).1) kk_) ?_
        show Goes p e below _ (TJ.setTop (mkF m 172 (own_lw x0 x1 x2 x3 x4 x5 bp x_ dg mk w_ ya yb yc dd b1 b5) []))
        refine gIC (z := 1) XJ hx hby at_172 rfl ?_
        refine Goes.via (fun _ kk_ => XS.goto XJ.here hx rfl (pc0 := 173) (pc' := 177) rfl (hb hby at_173) (by decide) (by decide) kk_) ?_
        show Goes p e below _ (TJ.setTop (mkF m 177 (own_lw x0 x1 x2 x3 x4 x5 bp x_ dg mk w_ ya yb yc dd b1 b5) [(.int (1 : Int32))]))
        exact J
    subst hv_jj45
    show Goes p e below _ (TJ.setTop (mkF m 177 (own_lw x0 x1 x2 x3 x4 x5 bp x_ dg mk w_ ya yb yc dd b1 b5) [(.int (if ya = w_ then (0 : Int32) else (1 : Int32)))]))
    refine Goes.via (fun _ kk_ => XS.istore XJ.here hx rfl (hb hby at_177) rfl (l' := #[vi x0, vi x1, .val (.long x2), .second, .val (.long x3), .second, .val (.long x4), .second, .val (.long x5), .second, vi bp, vi x_, vi dg, vi (dg * bp), .val (.long mk), .second, .val (.long w_), .second, .val (.long ya), .second, .val (.long yb), .second, .val (.long yc), .second, vi dd, vr b1, vr b5, vi (if ya = w_ then (0 : Int32) else (1 : Int32)), .unset, .unset, .unset]) rfl kk_) ?_
    show Goes p e below _ (TJ.setTop (mkF m 179 #[vi x0, vi x1, .val (.long x2), .second, .val (.long x3), .second, .val (.long x4), .second, .val (.long x5), .second, vi bp, vi x_, vi dg, vi (dg * bp), .val (.long mk), .second, .val (.long w_), .second, .val (.long ya), .second, .val (.long yb), .second, .val (.long yc), .second, vi dd, vr b1, vr b5, vi (if ya = w_ then (0 : Int32) else (1 : Int32)), .unset, .unset, .unset] []))
    refine Goes.via (fun _ kk_ => XS.lload XJ.here hx rfl (hb hby at_179) rfl  kk_) ?_
    show Goes p e below _ (TJ.setTop (mkF m 181 #[vi x0, vi x1, .val (.long x2), .second, .val (.long x3), .second, .val (.long x4), .second, .val (.long x5), .second, vi bp, vi x_, vi dg, vi (dg * bp), .val (.long mk), .second, .val (.long w_), .second, .val (.long ya), .second, .val (.long yb), .second, .val (.long yc), .second, vi dd, vr b1, vr b5, vi (if ya = w_ then (0 : Int32) else (1 : Int32)), .unset, .unset, .unset] [(.long yb)]))
    refine Goes.via (fun _ kk_ => XS.lload XJ.here hx rfl (hb hby at_181) rfl  kk_) ?_
    show Goes p e below _ (TJ.setTop (mkF m 183 #[vi x0, vi x1, .val (.long x2), .second, .val (.long x3), .second, .val (.long x4), .second, .val (.long x5), .second, vi bp, vi x_, vi dg, vi (dg * bp), .val (.long mk), .second, .val (.long w_), .second, .val (.long ya), .second, .val (.long yb), .second, .val (.long yc), .second, vi dd, vr b1, vr b5, vi (if ya = w_ then (0 : Int32) else (1 : Int32)), .unset, .unset, .unset] [(.long w_), (.long yb)]))
    refine Goes.via (fun _ kk_ => XS.lcmp XJ.here hx rfl (hb hby at_183) rfl kk_) ?_
    show Goes p e below _ (TJ.setTop (mkF m 184 #[vi x0, vi x1, .val (.long x2), .second, .val (.long x3), .second, .val (.long x4), .second, .val (.long x5), .second, vi bp, vi x_, vi dg, vi (dg * bp), .val (.long mk), .second, .val (.long w_), .second, .val (.long ya), .second, .val (.long yb), .second, .val (.long yc), .second, vi dd, vr b1, vr b5, vi (if ya = w_ then (0 : Int32) else (1 : Int32)), .unset, .unset, .unset] [(.int (lcmpW yb w_))]))
    obtain ⟨jj47, hv_jj47⟩ : ∃ z : Int32, z = (if yb = w_ then (0 : Int32) else (if yb = ya then (0 : Int32) else (1 : Int32))) := ⟨_, rfl⟩
    suffices J : Goes p e below (Fin_ s (Qrm0 Z x0 x1 x2 x3 x4 x5 ed kE fE h0 n0) room_1.cells room_1.slots) (TJ.setTop (mkF m 200 #[vi x0, vi x1, .val (.long x2), .second, .val (.long x3), .second, .val (.long x4), .second, .val (.long x5), .second, vi bp, vi x_, vi dg, vi (dg * bp), .val (.long mk), .second, .val (.long w_), .second, .val (.long ya), .second, .val (.long yb), .second, .val (.long yc), .second, vi dd, vr b1, vr b5, vi (if ya = w_ then (0 : Int32) else (1 : Int32)), .unset, .unset, .unset] [(.int jj47)])) by
      by_cases hc184 : yb = w_
      · skip
        rw [show jj47 = (0 : Int32) from hv_jj47.trans (if_pos hc184)] at J
        refine Goes.via (fun _ kk_ => XS.ifYes XJ.here hx rfl (pc0 := 184) (pc' := 199) rfl (hb hby at_184) rfl ((if0 _ _).trans (teq ((lw_eq yb w_).mpr hc184)).1) (by decide) (by decide) kk_) ?_
        show Goes p e below _ (TJ.setTop (mkF m 199 #[vi x0, vi x1, .val (.long x2), .second, .val (.long x3), .second, .val (.long x4), .second, .val (.long x5), .second, vi bp, vi x_, vi dg, vi (dg * bp), .val (.long mk), .second, .val (.long w_), .second, .val (.long ya), .second, .val (.long yb), .second, .val (.long yc), .second, vi dd, vr b1, vr b5, vi (if ya = w_ then (0 : Int32) else (1 : Int32)), .unset, .unset, .unset] []))
        refine gIC (z := 0) XJ hx hby at_199 rfl ?_
        show Goes p e below _ (TJ.setTop (mkF m 200 #[vi x0, vi x1, .val (.long x2), .second, .val (.long x3), .second, .val (.long x4), .second, .val (.long x5), .second, vi bp, vi x_, vi dg, vi (dg * bp), .val (.long mk), .second, .val (.long w_), .second, .val (.long ya), .second, .val (.long yb), .second, .val (.long yc), .second, vi dd, vr b1, vr b5, vi (if ya = w_ then (0 : Int32) else (1 : Int32)), .unset, .unset, .unset] [(.int (0 : Int32))]))
        exact J
      · skip
        rw [show jj47 = (if yb = ya then (0 : Int32) else (1 : Int32)) from hv_jj47.trans (if_neg hc184)] at J
        refine Goes.via (fun _ kk_ => XS.ifNo XJ.here hx rfl (hb hby at_184) rfl ((if0 _ _).trans (feq (fun q => hc184 ((lw_eq yb w_).mp q))).1) kk_) ?_
        show Goes p e below _ (TJ.setTop (mkF m 187 #[vi x0, vi x1, .val (.long x2), .second, .val (.long x3), .second, .val (.long x4), .second, .val (.long x5), .second, vi bp, vi x_, vi dg, vi (dg * bp), .val (.long mk), .second, .val (.long w_), .second, .val (.long ya), .second, .val (.long yb), .second, .val (.long yc), .second, vi dd, vr b1, vr b5, vi (if ya = w_ then (0 : Int32) else (1 : Int32)), .unset, .unset, .unset] []))
        refine Goes.via (fun _ kk_ => XS.lload XJ.here hx rfl (hb hby at_187) rfl  kk_) ?_
        show Goes p e below _ (TJ.setTop (mkF m 189 #[vi x0, vi x1, .val (.long x2), .second, .val (.long x3), .second, .val (.long x4), .second, .val (.long x5), .second, vi bp, vi x_, vi dg, vi (dg * bp), .val (.long mk), .second, .val (.long w_), .second, .val (.long ya), .second, .val (.long yb), .second, .val (.long yc), .second, vi dd, vr b1, vr b5, vi (if ya = w_ then (0 : Int32) else (1 : Int32)), .unset, .unset, .unset] [(.long yb)]))
        refine Goes.via (fun _ kk_ => XS.lload XJ.here hx rfl (hb hby at_189) rfl  kk_) ?_
        show Goes p e below _ (TJ.setTop (mkF m 191 #[vi x0, vi x1, .val (.long x2), .second, .val (.long x3), .second, .val (.long x4), .second, .val (.long x5), .second, vi bp, vi x_, vi dg, vi (dg * bp), .val (.long mk), .second, .val (.long w_), .second, .val (.long ya), .second, .val (.long yb), .second, .val (.long yc), .second, vi dd, vr b1, vr b5, vi (if ya = w_ then (0 : Int32) else (1 : Int32)), .unset, .unset, .unset] [(.long ya), (.long yb)]))
        refine Goes.via (fun _ kk_ => XS.lcmp XJ.here hx rfl (hb hby at_191) rfl kk_) ?_
        show Goes p e below _ (TJ.setTop (mkF m 192 #[vi x0, vi x1, .val (.long x2), .second, .val (.long x3), .second, .val (.long x4), .second, .val (.long x5), .second, vi bp, vi x_, vi dg, vi (dg * bp), .val (.long mk), .second, .val (.long w_), .second, .val (.long ya), .second, .val (.long yb), .second, .val (.long yc), .second, vi dd, vr b1, vr b5, vi (if ya = w_ then (0 : Int32) else (1 : Int32)), .unset, .unset, .unset] [(.int (lcmpW yb ya))]))
        obtain ⟨jj46, hv_jj46⟩ : ∃ z : Int32, z = (if yb = ya then (0 : Int32) else (1 : Int32)) := ⟨_, rfl⟩
        suffices J : Goes p e below (Fin_ s (Qrm0 Z x0 x1 x2 x3 x4 x5 ed kE fE h0 n0) room_1.cells room_1.slots) (TJ.setTop (mkF m 200 #[vi x0, vi x1, .val (.long x2), .second, .val (.long x3), .second, .val (.long x4), .second, .val (.long x5), .second, vi bp, vi x_, vi dg, vi (dg * bp), .val (.long mk), .second, .val (.long w_), .second, .val (.long ya), .second, .val (.long yb), .second, .val (.long yc), .second, vi dd, vr b1, vr b5, vi (if ya = w_ then (0 : Int32) else (1 : Int32)), .unset, .unset, .unset] [(.int jj46)])) by
          by_cases hc192 : yb = ya
          · skip
            rw [show jj46 = (0 : Int32) from hv_jj46.trans (if_pos hc192)] at J
            refine Goes.via (fun _ kk_ => XS.ifYes XJ.here hx rfl (pc0 := 192) (pc' := 199) rfl (hb hby at_192) rfl ((if0 _ _).trans (teq ((lw_eq yb ya).mpr hc192)).1) (by decide) (by decide) kk_) ?_
            show Goes p e below _ (TJ.setTop (mkF m 199 #[vi x0, vi x1, .val (.long x2), .second, .val (.long x3), .second, .val (.long x4), .second, .val (.long x5), .second, vi bp, vi x_, vi dg, vi (dg * bp), .val (.long mk), .second, .val (.long w_), .second, .val (.long ya), .second, .val (.long yb), .second, .val (.long yc), .second, vi dd, vr b1, vr b5, vi (if ya = w_ then (0 : Int32) else (1 : Int32)), .unset, .unset, .unset] []))
            refine gIC (z := 0) XJ hx hby at_199 rfl ?_
            show Goes p e below _ (TJ.setTop (mkF m 200 #[vi x0, vi x1, .val (.long x2), .second, .val (.long x3), .second, .val (.long x4), .second, .val (.long x5), .second, vi bp, vi x_, vi dg, vi (dg * bp), .val (.long mk), .second, .val (.long w_), .second, .val (.long ya), .second, .val (.long yb), .second, .val (.long yc), .second, vi dd, vr b1, vr b5, vi (if ya = w_ then (0 : Int32) else (1 : Int32)), .unset, .unset, .unset] [(.int (0 : Int32))]))
            exact J
          · skip
            rw [show jj46 = (1 : Int32) from hv_jj46.trans (if_neg hc192)] at J
            refine Goes.via (fun _ kk_ => XS.ifNo XJ.here hx rfl (hb hby at_192) rfl ((if0 _ _).trans (feq (fun q => hc192 ((lw_eq yb ya).mp q))).1) kk_) ?_
            show Goes p e below _ (TJ.setTop (mkF m 195 #[vi x0, vi x1, .val (.long x2), .second, .val (.long x3), .second, .val (.long x4), .second, .val (.long x5), .second, vi bp, vi x_, vi dg, vi (dg * bp), .val (.long mk), .second, .val (.long w_), .second, .val (.long ya), .second, .val (.long yb), .second, .val (.long yc), .second, vi dd, vr b1, vr b5, vi (if ya = w_ then (0 : Int32) else (1 : Int32)), .unset, .unset, .unset] []))
            refine gIC (z := 1) XJ hx hby at_195 rfl ?_
            refine Goes.via (fun _ kk_ => XS.goto XJ.here hx rfl (pc0 := 196) (pc' := 200) rfl (hb hby at_196) (by decide) (by decide) kk_) ?_
            show Goes p e below _ (TJ.setTop (mkF m 200 #[vi x0, vi x1, .val (.long x2), .second, .val (.long x3), .second, .val (.long x4), .second, .val (.long x5), .second, vi bp, vi x_, vi dg, vi (dg * bp), .val (.long mk), .second, .val (.long w_), .second, .val (.long ya), .second, .val (.long yb), .second, .val (.long yc), .second, vi dd, vr b1, vr b5, vi (if ya = w_ then (0 : Int32) else (1 : Int32)), .unset, .unset, .unset] [(.int (1 : Int32))]))
            exact J
        subst hv_jj46
        show Goes p e below _ (TJ.setTop (mkF m 200 #[vi x0, vi x1, .val (.long x2), .second, .val (.long x3), .second, .val (.long x4), .second, .val (.long x5), .second, vi bp, vi x_, vi dg, vi (dg * bp), .val (.long mk), .second, .val (.long w_), .second, .val (.long ya), .second, .val (.long yb), .second, .val (.long yc), .second, vi dd, vr b1, vr b5, vi (if ya = w_ then (0 : Int32) else (1 : Int32)), .unset, .unset, .unset] [(.int (if yb = ya then (0 : Int32) else (1 : Int32)))]))
        exact J
    subst hv_jj47
    show Goes p e below _ (TJ.setTop (mkF m 200 #[vi x0, vi x1, .val (.long x2), .second, .val (.long x3), .second, .val (.long x4), .second, .val (.long x5), .second, vi bp, vi x_, vi dg, vi (dg * bp), .val (.long mk), .second, .val (.long w_), .second, .val (.long ya), .second, .val (.long yb), .second, .val (.long yc), .second, vi dd, vr b1, vr b5, vi (if ya = w_ then (0 : Int32) else (1 : Int32)), .unset, .unset, .unset] [(.int (if yb = w_ then (0 : Int32) else (if yb = ya then (0 : Int32) else (1 : Int32))))]))
    refine Goes.via (fun _ kk_ => XS.istore XJ.here hx rfl (hb hby at_200) rfl (l' := #[vi x0, vi x1, .val (.long x2), .second, .val (.long x3), .second, .val (.long x4), .second, .val (.long x5), .second, vi bp, vi x_, vi dg, vi (dg * bp), .val (.long mk), .second, .val (.long w_), .second, .val (.long ya), .second, .val (.long yb), .second, .val (.long yc), .second, vi dd, vr b1, vr b5, vi (if ya = w_ then (0 : Int32) else (1 : Int32)), vi (if yb = w_ then (0 : Int32) else (if yb = ya then (0 : Int32) else (1 : Int32))), .unset, .unset]) rfl kk_) ?_
    show Goes p e below _ (TJ.setTop (mkF m 202 #[vi x0, vi x1, .val (.long x2), .second, .val (.long x3), .second, .val (.long x4), .second, .val (.long x5), .second, vi bp, vi x_, vi dg, vi (dg * bp), .val (.long mk), .second, .val (.long w_), .second, .val (.long ya), .second, .val (.long yb), .second, .val (.long yc), .second, vi dd, vr b1, vr b5, vi (if ya = w_ then (0 : Int32) else (1 : Int32)), vi (if yb = w_ then (0 : Int32) else (if yb = ya then (0 : Int32) else (1 : Int32))), .unset, .unset] []))
    refine Goes.via (fun _ kk_ => XS.lload XJ.here hx rfl (hb hby at_202) rfl  kk_) ?_
    show Goes p e below _ (TJ.setTop (mkF m 204 #[vi x0, vi x1, .val (.long x2), .second, .val (.long x3), .second, .val (.long x4), .second, .val (.long x5), .second, vi bp, vi x_, vi dg, vi (dg * bp), .val (.long mk), .second, .val (.long w_), .second, .val (.long ya), .second, .val (.long yb), .second, .val (.long yc), .second, vi dd, vr b1, vr b5, vi (if ya = w_ then (0 : Int32) else (1 : Int32)), vi (if yb = w_ then (0 : Int32) else (if yb = ya then (0 : Int32) else (1 : Int32))), .unset, .unset] [(.long yc)]))
    refine Goes.via (fun _ kk_ => XS.lload XJ.here hx rfl (hb hby at_204) rfl  kk_) ?_
    show Goes p e below _ (TJ.setTop (mkF m 206 #[vi x0, vi x1, .val (.long x2), .second, .val (.long x3), .second, .val (.long x4), .second, .val (.long x5), .second, vi bp, vi x_, vi dg, vi (dg * bp), .val (.long mk), .second, .val (.long w_), .second, .val (.long ya), .second, .val (.long yb), .second, .val (.long yc), .second, vi dd, vr b1, vr b5, vi (if ya = w_ then (0 : Int32) else (1 : Int32)), vi (if yb = w_ then (0 : Int32) else (if yb = ya then (0 : Int32) else (1 : Int32))), .unset, .unset] [(.long w_), (.long yc)]))
    refine Goes.via (fun _ kk_ => XS.lcmp XJ.here hx rfl (hb hby at_206) rfl kk_) ?_
    show Goes p e below _ (TJ.setTop (mkF m 207 #[vi x0, vi x1, .val (.long x2), .second, .val (.long x3), .second, .val (.long x4), .second, .val (.long x5), .second, vi bp, vi x_, vi dg, vi (dg * bp), .val (.long mk), .second, .val (.long w_), .second, .val (.long ya), .second, .val (.long yb), .second, .val (.long yc), .second, vi dd, vr b1, vr b5, vi (if ya = w_ then (0 : Int32) else (1 : Int32)), vi (if yb = w_ then (0 : Int32) else (if yb = ya then (0 : Int32) else (1 : Int32))), .unset, .unset] [(.int (lcmpW yc w_))]))
    obtain ⟨jj50, hv_jj50⟩ : ∃ z : Int32, z = (if yc = w_ then (0 : Int32) else (if yc = ya then (0 : Int32) else (if yc = yb then (0 : Int32) else (1 : Int32)))) := ⟨_, rfl⟩
    suffices J : Goes p e below (Fin_ s (Qrm0 Z x0 x1 x2 x3 x4 x5 ed kE fE h0 n0) room_1.cells room_1.slots) (TJ.setTop (mkF m 231 #[vi x0, vi x1, .val (.long x2), .second, .val (.long x3), .second, .val (.long x4), .second, .val (.long x5), .second, vi bp, vi x_, vi dg, vi (dg * bp), .val (.long mk), .second, .val (.long w_), .second, .val (.long ya), .second, .val (.long yb), .second, .val (.long yc), .second, vi dd, vr b1, vr b5, vi (if ya = w_ then (0 : Int32) else (1 : Int32)), vi (if yb = w_ then (0 : Int32) else (if yb = ya then (0 : Int32) else (1 : Int32))), .unset, .unset] [(.int jj50)])) by
      by_cases hc207 : yc = w_
      · skip
        rw [show jj50 = (0 : Int32) from hv_jj50.trans (if_pos hc207)] at J
        refine Goes.via (fun _ kk_ => XS.ifYes XJ.here hx rfl (pc0 := 207) (pc' := 230) rfl (hb hby at_207) rfl ((if0 _ _).trans (teq ((lw_eq yc w_).mpr hc207)).1) (by decide) (by decide) kk_) ?_
        show Goes p e below _ (TJ.setTop (mkF m 230 #[vi x0, vi x1, .val (.long x2), .second, .val (.long x3), .second, .val (.long x4), .second, .val (.long x5), .second, vi bp, vi x_, vi dg, vi (dg * bp), .val (.long mk), .second, .val (.long w_), .second, .val (.long ya), .second, .val (.long yb), .second, .val (.long yc), .second, vi dd, vr b1, vr b5, vi (if ya = w_ then (0 : Int32) else (1 : Int32)), vi (if yb = w_ then (0 : Int32) else (if yb = ya then (0 : Int32) else (1 : Int32))), .unset, .unset] []))
        refine gIC (z := 0) XJ hx hby at_230 rfl ?_
        show Goes p e below _ (TJ.setTop (mkF m 231 #[vi x0, vi x1, .val (.long x2), .second, .val (.long x3), .second, .val (.long x4), .second, .val (.long x5), .second, vi bp, vi x_, vi dg, vi (dg * bp), .val (.long mk), .second, .val (.long w_), .second, .val (.long ya), .second, .val (.long yb), .second, .val (.long yc), .second, vi dd, vr b1, vr b5, vi (if ya = w_ then (0 : Int32) else (1 : Int32)), vi (if yb = w_ then (0 : Int32) else (if yb = ya then (0 : Int32) else (1 : Int32))), .unset, .unset] [(.int (0 : Int32))]))
        exact J
      · skip
        rw [show jj50 = (if yc = ya then (0 : Int32) else (if yc = yb then (0 : Int32) else (1 : Int32))) from hv_jj50.trans (if_neg hc207)] at J
        refine Goes.via (fun _ kk_ => XS.ifNo XJ.here hx rfl (hb hby at_207) rfl ((if0 _ _).trans (feq (fun q => hc207 ((lw_eq yc w_).mp q))).1) kk_) ?_
        show Goes p e below _ (TJ.setTop (mkF m 210 #[vi x0, vi x1, .val (.long x2), .second, .val (.long x3), .second, .val (.long x4), .second, .val (.long x5), .second, vi bp, vi x_, vi dg, vi (dg * bp), .val (.long mk), .second, .val (.long w_), .second, .val (.long ya), .second, .val (.long yb), .second, .val (.long yc), .second, vi dd, vr b1, vr b5, vi (if ya = w_ then (0 : Int32) else (1 : Int32)), vi (if yb = w_ then (0 : Int32) else (if yb = ya then (0 : Int32) else (1 : Int32))), .unset, .unset] []))
        refine Goes.via (fun _ kk_ => XS.lload XJ.here hx rfl (hb hby at_210) rfl  kk_) ?_
        show Goes p e below _ (TJ.setTop (mkF m 212 #[vi x0, vi x1, .val (.long x2), .second, .val (.long x3), .second, .val (.long x4), .second, .val (.long x5), .second, vi bp, vi x_, vi dg, vi (dg * bp), .val (.long mk), .second, .val (.long w_), .second, .val (.long ya), .second, .val (.long yb), .second, .val (.long yc), .second, vi dd, vr b1, vr b5, vi (if ya = w_ then (0 : Int32) else (1 : Int32)), vi (if yb = w_ then (0 : Int32) else (if yb = ya then (0 : Int32) else (1 : Int32))), .unset, .unset] [(.long yc)]))
        refine Goes.via (fun _ kk_ => XS.lload XJ.here hx rfl (hb hby at_212) rfl  kk_) ?_
        show Goes p e below _ (TJ.setTop (mkF m 214 #[vi x0, vi x1, .val (.long x2), .second, .val (.long x3), .second, .val (.long x4), .second, .val (.long x5), .second, vi bp, vi x_, vi dg, vi (dg * bp), .val (.long mk), .second, .val (.long w_), .second, .val (.long ya), .second, .val (.long yb), .second, .val (.long yc), .second, vi dd, vr b1, vr b5, vi (if ya = w_ then (0 : Int32) else (1 : Int32)), vi (if yb = w_ then (0 : Int32) else (if yb = ya then (0 : Int32) else (1 : Int32))), .unset, .unset] [(.long ya), (.long yc)]))
        refine Goes.via (fun _ kk_ => XS.lcmp XJ.here hx rfl (hb hby at_214) rfl kk_) ?_
        show Goes p e below _ (TJ.setTop (mkF m 215 #[vi x0, vi x1, .val (.long x2), .second, .val (.long x3), .second, .val (.long x4), .second, .val (.long x5), .second, vi bp, vi x_, vi dg, vi (dg * bp), .val (.long mk), .second, .val (.long w_), .second, .val (.long ya), .second, .val (.long yb), .second, .val (.long yc), .second, vi dd, vr b1, vr b5, vi (if ya = w_ then (0 : Int32) else (1 : Int32)), vi (if yb = w_ then (0 : Int32) else (if yb = ya then (0 : Int32) else (1 : Int32))), .unset, .unset] [(.int (lcmpW yc ya))]))
        obtain ⟨jj49, hv_jj49⟩ : ∃ z : Int32, z = (if yc = ya then (0 : Int32) else (if yc = yb then (0 : Int32) else (1 : Int32))) := ⟨_, rfl⟩
        suffices J : Goes p e below (Fin_ s (Qrm0 Z x0 x1 x2 x3 x4 x5 ed kE fE h0 n0) room_1.cells room_1.slots) (TJ.setTop (mkF m 231 #[vi x0, vi x1, .val (.long x2), .second, .val (.long x3), .second, .val (.long x4), .second, .val (.long x5), .second, vi bp, vi x_, vi dg, vi (dg * bp), .val (.long mk), .second, .val (.long w_), .second, .val (.long ya), .second, .val (.long yb), .second, .val (.long yc), .second, vi dd, vr b1, vr b5, vi (if ya = w_ then (0 : Int32) else (1 : Int32)), vi (if yb = w_ then (0 : Int32) else (if yb = ya then (0 : Int32) else (1 : Int32))), .unset, .unset] [(.int jj49)])) by
          by_cases hc215 : yc = ya
          · skip
            rw [show jj49 = (0 : Int32) from hv_jj49.trans (if_pos hc215)] at J
            refine Goes.via (fun _ kk_ => XS.ifYes XJ.here hx rfl (pc0 := 215) (pc' := 230) rfl (hb hby at_215) rfl ((if0 _ _).trans (teq ((lw_eq yc ya).mpr hc215)).1) (by decide) (by decide) kk_) ?_
            show Goes p e below _ (TJ.setTop (mkF m 230 #[vi x0, vi x1, .val (.long x2), .second, .val (.long x3), .second, .val (.long x4), .second, .val (.long x5), .second, vi bp, vi x_, vi dg, vi (dg * bp), .val (.long mk), .second, .val (.long w_), .second, .val (.long ya), .second, .val (.long yb), .second, .val (.long yc), .second, vi dd, vr b1, vr b5, vi (if ya = w_ then (0 : Int32) else (1 : Int32)), vi (if yb = w_ then (0 : Int32) else (if yb = ya then (0 : Int32) else (1 : Int32))), .unset, .unset] []))
            refine gIC (z := 0) XJ hx hby at_230 rfl ?_
            show Goes p e below _ (TJ.setTop (mkF m 231 #[vi x0, vi x1, .val (.long x2), .second, .val (.long x3), .second, .val (.long x4), .second, .val (.long x5), .second, vi bp, vi x_, vi dg, vi (dg * bp), .val (.long mk), .second, .val (.long w_), .second, .val (.long ya), .second, .val (.long yb), .second, .val (.long yc), .second, vi dd, vr b1, vr b5, vi (if ya = w_ then (0 : Int32) else (1 : Int32)), vi (if yb = w_ then (0 : Int32) else (if yb = ya then (0 : Int32) else (1 : Int32))), .unset, .unset] [(.int (0 : Int32))]))
            exact J
          · skip
            rw [show jj49 = (if yc = yb then (0 : Int32) else (1 : Int32)) from hv_jj49.trans (if_neg hc215)] at J
            refine Goes.via (fun _ kk_ => XS.ifNo XJ.here hx rfl (hb hby at_215) rfl ((if0 _ _).trans (feq (fun q => hc215 ((lw_eq yc ya).mp q))).1) kk_) ?_
            show Goes p e below _ (TJ.setTop (mkF m 218 #[vi x0, vi x1, .val (.long x2), .second, .val (.long x3), .second, .val (.long x4), .second, .val (.long x5), .second, vi bp, vi x_, vi dg, vi (dg * bp), .val (.long mk), .second, .val (.long w_), .second, .val (.long ya), .second, .val (.long yb), .second, .val (.long yc), .second, vi dd, vr b1, vr b5, vi (if ya = w_ then (0 : Int32) else (1 : Int32)), vi (if yb = w_ then (0 : Int32) else (if yb = ya then (0 : Int32) else (1 : Int32))), .unset, .unset] []))
            refine Goes.via (fun _ kk_ => XS.lload XJ.here hx rfl (hb hby at_218) rfl  kk_) ?_
            show Goes p e below _ (TJ.setTop (mkF m 220 #[vi x0, vi x1, .val (.long x2), .second, .val (.long x3), .second, .val (.long x4), .second, .val (.long x5), .second, vi bp, vi x_, vi dg, vi (dg * bp), .val (.long mk), .second, .val (.long w_), .second, .val (.long ya), .second, .val (.long yb), .second, .val (.long yc), .second, vi dd, vr b1, vr b5, vi (if ya = w_ then (0 : Int32) else (1 : Int32)), vi (if yb = w_ then (0 : Int32) else (if yb = ya then (0 : Int32) else (1 : Int32))), .unset, .unset] [(.long yc)]))
            refine Goes.via (fun _ kk_ => XS.lload XJ.here hx rfl (hb hby at_220) rfl  kk_) ?_
            show Goes p e below _ (TJ.setTop (mkF m 222 #[vi x0, vi x1, .val (.long x2), .second, .val (.long x3), .second, .val (.long x4), .second, .val (.long x5), .second, vi bp, vi x_, vi dg, vi (dg * bp), .val (.long mk), .second, .val (.long w_), .second, .val (.long ya), .second, .val (.long yb), .second, .val (.long yc), .second, vi dd, vr b1, vr b5, vi (if ya = w_ then (0 : Int32) else (1 : Int32)), vi (if yb = w_ then (0 : Int32) else (if yb = ya then (0 : Int32) else (1 : Int32))), .unset, .unset] [(.long yb), (.long yc)]))
            refine Goes.via (fun _ kk_ => XS.lcmp XJ.here hx rfl (hb hby at_222) rfl kk_) ?_
            show Goes p e below _ (TJ.setTop (mkF m 223 #[vi x0, vi x1, .val (.long x2), .second, .val (.long x3), .second, .val (.long x4), .second, .val (.long x5), .second, vi bp, vi x_, vi dg, vi (dg * bp), .val (.long mk), .second, .val (.long w_), .second, .val (.long ya), .second, .val (.long yb), .second, .val (.long yc), .second, vi dd, vr b1, vr b5, vi (if ya = w_ then (0 : Int32) else (1 : Int32)), vi (if yb = w_ then (0 : Int32) else (if yb = ya then (0 : Int32) else (1 : Int32))), .unset, .unset] [(.int (lcmpW yc yb))]))
            obtain ⟨jj48, hv_jj48⟩ : ∃ z : Int32, z = (if yc = yb then (0 : Int32) else (1 : Int32)) := ⟨_, rfl⟩
            suffices J : Goes p e below (Fin_ s (Qrm0 Z x0 x1 x2 x3 x4 x5 ed kE fE h0 n0) room_1.cells room_1.slots) (TJ.setTop (mkF m 231 #[vi x0, vi x1, .val (.long x2), .second, .val (.long x3), .second, .val (.long x4), .second, .val (.long x5), .second, vi bp, vi x_, vi dg, vi (dg * bp), .val (.long mk), .second, .val (.long w_), .second, .val (.long ya), .second, .val (.long yb), .second, .val (.long yc), .second, vi dd, vr b1, vr b5, vi (if ya = w_ then (0 : Int32) else (1 : Int32)), vi (if yb = w_ then (0 : Int32) else (if yb = ya then (0 : Int32) else (1 : Int32))), .unset, .unset] [(.int jj48)])) by
              by_cases hc223 : yc = yb
              · skip
                rw [show jj48 = (0 : Int32) from hv_jj48.trans (if_pos hc223)] at J
                refine Goes.via (fun _ kk_ => XS.ifYes XJ.here hx rfl (pc0 := 223) (pc' := 230) rfl (hb hby at_223) rfl ((if0 _ _).trans (teq ((lw_eq yc yb).mpr hc223)).1) (by decide) (by decide) kk_) ?_
                show Goes p e below _ (TJ.setTop (mkF m 230 #[vi x0, vi x1, .val (.long x2), .second, .val (.long x3), .second, .val (.long x4), .second, .val (.long x5), .second, vi bp, vi x_, vi dg, vi (dg * bp), .val (.long mk), .second, .val (.long w_), .second, .val (.long ya), .second, .val (.long yb), .second, .val (.long yc), .second, vi dd, vr b1, vr b5, vi (if ya = w_ then (0 : Int32) else (1 : Int32)), vi (if yb = w_ then (0 : Int32) else (if yb = ya then (0 : Int32) else (1 : Int32))), .unset, .unset] []))
                refine gIC (z := 0) XJ hx hby at_230 rfl ?_
                show Goes p e below _ (TJ.setTop (mkF m 231 #[vi x0, vi x1, .val (.long x2), .second, .val (.long x3), .second, .val (.long x4), .second, .val (.long x5), .second, vi bp, vi x_, vi dg, vi (dg * bp), .val (.long mk), .second, .val (.long w_), .second, .val (.long ya), .second, .val (.long yb), .second, .val (.long yc), .second, vi dd, vr b1, vr b5, vi (if ya = w_ then (0 : Int32) else (1 : Int32)), vi (if yb = w_ then (0 : Int32) else (if yb = ya then (0 : Int32) else (1 : Int32))), .unset, .unset] [(.int (0 : Int32))]))
                exact J
              · skip
                rw [show jj48 = (1 : Int32) from hv_jj48.trans (if_neg hc223)] at J
                refine Goes.via (fun _ kk_ => XS.ifNo XJ.here hx rfl (hb hby at_223) rfl ((if0 _ _).trans (feq (fun q => hc223 ((lw_eq yc yb).mp q))).1) kk_) ?_
                show Goes p e below _ (TJ.setTop (mkF m 226 #[vi x0, vi x1, .val (.long x2), .second, .val (.long x3), .second, .val (.long x4), .second, .val (.long x5), .second, vi bp, vi x_, vi dg, vi (dg * bp), .val (.long mk), .second, .val (.long w_), .second, .val (.long ya), .second, .val (.long yb), .second, .val (.long yc), .second, vi dd, vr b1, vr b5, vi (if ya = w_ then (0 : Int32) else (1 : Int32)), vi (if yb = w_ then (0 : Int32) else (if yb = ya then (0 : Int32) else (1 : Int32))), .unset, .unset] []))
                refine gIC (z := 1) XJ hx hby at_226 rfl ?_
                refine Goes.via (fun _ kk_ => XS.goto XJ.here hx rfl (pc0 := 227) (pc' := 231) rfl (hb hby at_227) (by decide) (by decide) kk_) ?_
                show Goes p e below _ (TJ.setTop (mkF m 231 #[vi x0, vi x1, .val (.long x2), .second, .val (.long x3), .second, .val (.long x4), .second, .val (.long x5), .second, vi bp, vi x_, vi dg, vi (dg * bp), .val (.long mk), .second, .val (.long w_), .second, .val (.long ya), .second, .val (.long yb), .second, .val (.long yc), .second, vi dd, vr b1, vr b5, vi (if ya = w_ then (0 : Int32) else (1 : Int32)), vi (if yb = w_ then (0 : Int32) else (if yb = ya then (0 : Int32) else (1 : Int32))), .unset, .unset] [(.int (1 : Int32))]))
                exact J
            subst hv_jj48
            show Goes p e below _ (TJ.setTop (mkF m 231 #[vi x0, vi x1, .val (.long x2), .second, .val (.long x3), .second, .val (.long x4), .second, .val (.long x5), .second, vi bp, vi x_, vi dg, vi (dg * bp), .val (.long mk), .second, .val (.long w_), .second, .val (.long ya), .second, .val (.long yb), .second, .val (.long yc), .second, vi dd, vr b1, vr b5, vi (if ya = w_ then (0 : Int32) else (1 : Int32)), vi (if yb = w_ then (0 : Int32) else (if yb = ya then (0 : Int32) else (1 : Int32))), .unset, .unset] [(.int (if yc = yb then (0 : Int32) else (1 : Int32)))]))
            exact J
        subst hv_jj49
        show Goes p e below _ (TJ.setTop (mkF m 231 #[vi x0, vi x1, .val (.long x2), .second, .val (.long x3), .second, .val (.long x4), .second, .val (.long x5), .second, vi bp, vi x_, vi dg, vi (dg * bp), .val (.long mk), .second, .val (.long w_), .second, .val (.long ya), .second, .val (.long yb), .second, .val (.long yc), .second, vi dd, vr b1, vr b5, vi (if ya = w_ then (0 : Int32) else (1 : Int32)), vi (if yb = w_ then (0 : Int32) else (if yb = ya then (0 : Int32) else (1 : Int32))), .unset, .unset] [(.int (if yc = ya then (0 : Int32) else (if yc = yb then (0 : Int32) else (1 : Int32))))]))
        exact J
    subst hv_jj50
    show Goes p e below _ (TJ.setTop (mkF m 231 #[vi x0, vi x1, .val (.long x2), .second, .val (.long x3), .second, .val (.long x4), .second, .val (.long x5), .second, vi bp, vi x_, vi dg, vi (dg * bp), .val (.long mk), .second, .val (.long w_), .second, .val (.long ya), .second, .val (.long yb), .second, .val (.long yc), .second, vi dd, vr b1, vr b5, vi (if ya = w_ then (0 : Int32) else (1 : Int32)), vi (if yb = w_ then (0 : Int32) else (if yb = ya then (0 : Int32) else (1 : Int32))), .unset, .unset] [(.int (if yc = w_ then (0 : Int32) else (if yc = ya then (0 : Int32) else (if yc = yb then (0 : Int32) else (1 : Int32)))))]))
    refine Goes.via (fun _ kk_ => XS.istore XJ.here hx rfl (hb hby at_231) rfl (l' := #[vi x0, vi x1, .val (.long x2), .second, .val (.long x3), .second, .val (.long x4), .second, .val (.long x5), .second, vi bp, vi x_, vi dg, vi (dg * bp), .val (.long mk), .second, .val (.long w_), .second, .val (.long ya), .second, .val (.long yb), .second, .val (.long yc), .second, vi dd, vr b1, vr b5, vi (if ya = w_ then (0 : Int32) else (1 : Int32)), vi (if yb = w_ then (0 : Int32) else (if yb = ya then (0 : Int32) else (1 : Int32))), vi (if yc = w_ then (0 : Int32) else (if yc = ya then (0 : Int32) else (if yc = yb then (0 : Int32) else (1 : Int32)))), .unset]) rfl kk_) ?_
    show Goes p e below _ (TJ.setTop (mkF m 233 #[vi x0, vi x1, .val (.long x2), .second, .val (.long x3), .second, .val (.long x4), .second, .val (.long x5), .second, vi bp, vi x_, vi dg, vi (dg * bp), .val (.long mk), .second, .val (.long w_), .second, .val (.long ya), .second, .val (.long yb), .second, .val (.long yc), .second, vi dd, vr b1, vr b5, vi (if ya = w_ then (0 : Int32) else (1 : Int32)), vi (if yb = w_ then (0 : Int32) else (if yb = ya then (0 : Int32) else (1 : Int32))), vi (if yc = w_ then (0 : Int32) else (if yc = ya then (0 : Int32) else (if yc = yb then (0 : Int32) else (1 : Int32)))), .unset] []))
    generalize hv_iA : (if ya = w_ then (0 : Int32) else (1 : Int32)) = iA
    generalize hv_iB : (if yb = w_ then (0 : Int32) else (if yb = ya then (0 : Int32) else (1 : Int32))) = iB
    generalize hv_iC : (if yc = w_ then (0 : Int32) else (if yc = ya then (0 : Int32) else (if yc = yb then (0 : Int32) else (1 : Int32)))) = iC
    have hiA : iA = if ya = w_ then (0 : Int32) else (1 : Int32) := hv_iA.symm
    have hiB : iB = if yb = w_ ∨ yb = ya then (0 : Int32) else (1 : Int32) := hv_iB.symm.trans own_or2
    have hiC : iC = if yc = w_ ∨ yc = ya ∨ yc = yb then (0 : Int32) else (1 : Int32) := hv_iC.symm.trans own_or3
    show Goes p e below _ (TJ.setTop (mkF m 233 #[vi x0, vi x1, .val (.long x2), .second, .val (.long x3), .second, .val (.long x4), .second, .val (.long x5), .second, vi bp, vi x_, vi dg, vi (dg * bp), .val (.long mk), .second, .val (.long w_), .second, .val (.long ya), .second, .val (.long yb), .second, .val (.long yc), .second, vi dd, vr b1, vr b5, vi iA, vi iB, vi iC, .unset] []))
    have hsA : ¬ (ya = w_) → pA < nd ∧ (own_shares ya w_ dd dg bp) = if dn ≤ pA then (1 : Int32) else (0 : Int32) := fun q => ⟨(hpA q).2.1, (hpA q).2.2.2 dd dn Hdn⟩
    have hsB : ¬ (yb = w_ ∨ yb = ya) → pB < nd ∧ (own_shares yb w_ dd dg bp) = if dn ≤ pB then (1 : Int32) else (0 : Int32) := fun q => ⟨(hpB (fun z => q (Or.inl z))).2.1, (hpB (fun z => q (Or.inl z))).2.2.2 dd dn Hdn⟩
    have hsC : ¬ (yc = w_ ∨ yc = ya ∨ yc = yb) → pC < nd ∧ (own_shares yc w_ dd dg bp) = if dn ≤ pC then (1 : Int32) else (0 : Int32) := fun q => ⟨(hpC (fun z => q (Or.inl z))).2.1, (hpC (fun z => q (Or.inl z))).2.2.2 dd dn Hdn⟩
    refine gIC (z := 0) XJ hx hby at_233 rfl ?_
    refine Goes.via (fun _ kk_ => XS.istore XJ.here hx rfl (hb hby at_234) rfl (l' := #[vi x0, vi x1, .val (.long x2), .second, .val (.long x3), .second, .val (.long x4), .second, .val (.long x5), .second, vi bp, vi x_, vi dg, vi (dg * bp), .val (.long mk), .second, .val (.long w_), .second, .val (.long ya), .second, .val (.long yb), .second, .val (.long yc), .second, vi dd, vr b1, vr b5, vi iA, vi iB, vi iC, vi (0 : Int32)]) rfl kk_) ?_
    show Goes p e below _ (TJ.setTop (mkF m 236 #[vi x0, vi x1, .val (.long x2), .second, .val (.long x3), .second, .val (.long x4), .second, .val (.long x5), .second, vi bp, vi x_, vi dg, vi (dg * bp), .val (.long mk), .second, .val (.long w_), .second, .val (.long ya), .second, .val (.long yb), .second, .val (.long yc), .second, vi dd, vr b1, vr b5, vi iA, vi iB, vi iC, vi (0 : Int32)] []))
    have J308 : ∀ (ex308 : Int32) (Tj308 : State), (Stand p l e room_1 s m #[(.int x0), (.int x1), (.long x2), (.long x3), (.long x4), (.long x5)] below meth c Tj308 lcJ 20 150) → (Tj308.heap = TJ.heap) → (ex308 = own_e iA (own_shares ya w_ dd dg bp) + own_e iB (own_shares yb w_ dd dg bp) + own_e iC (own_shares yc w_ dd dg bp)) → Goes p e below (Fin_ s (Qrm0 Z x0 x1 x2 x3 x4 x5 ed kE fE h0 n0) room_1.cells room_1.slots) (Tj308.setTop (mkF m 308 #[vi x0, vi x1, .val (.long x2), .second, .val (.long x3), .second, .val (.long x4), .second, .val (.long x5), .second, vi bp, vi x_, vi dg, vi (dg * bp), .val (.long mk), .second, .val (.long w_), .second, .val (.long ya), .second, .val (.long yb), .second, .val (.long yc), .second, vi dd, vr b1, vr b5, vi iA, vi iB, vi iC, vi ex308] [])) := by
      intro ex308 Tj308 Xj308 ej308 hx308
      show Goes p e below _ (Tj308.setTop (mkF m 308 #[vi x0, vi x1, .val (.long x2), .second, .val (.long x3), .second, .val (.long x4), .second, .val (.long x5), .second, vi bp, vi x_, vi dg, vi (dg * bp), .val (.long mk), .second, .val (.long w_), .second, .val (.long ya), .second, .val (.long yb), .second, .val (.long yc), .second, vi dd, vr b1, vr b5, vi iA, vi iB, vi iC, vi ex308] []))
      refine gAL Xj308 hx hby at_308 rfl rfl ?_
      refine gIL Xj308 hx hby at_310 rfl ?_
      obtain ⟨cq51, kq51, q51a, q51b, q51c⟩ := isOf hZ ej308 fj0
      obtain ⟨_, _, ⟨T51, L51, k51, n51⟩, -, X51, ⟨Lc51, hQ51, l51, y51, z51⟩, st51⟩ := Xj308.virtualBack hx (y := mN_Block_sharing) (z := mN_Block_sharing) hown (mvT hZ (own_w hw 206 rfl)) (mvT hZ (own_w hw 207 rfl)) (notFace_of_selects (args := #[]) (mvT hZ (own_w hw 209 rfl))) (mvT hZ (own_w hw 209 rfl)) (mvT hZ (own_w hw 208 rfl)) (by decide) (backOf (W := 0) (rmShr l Z a0 hw [] b5 dd ws33 kw33 nd gj (own_cnt r3) dn TJ.heap n0 (Nat.le_trans Z0 KJ.1) fj1 fj2 (by first | assumption | rfl | decide | omega | (simp; done)) (by first | assumption | rfl | decide | omega | (simp; done)) (by first | assumption | rfl | decide | omega | (simp; done))) hZ (own_w hw 210 rfl) (own_w hw 26 rfl) (by decide) (by decide)) q51a q51c (g := (mkF m 312 #[vi x0, vi x1, .val (.long x2), .second, .val (.long x3), .second, .val (.long x4), .second, .val (.long x5), .second, vi bp, vi x_, vi dg, vi (dg * bp), .val (.long mk), .second, .val (.long w_), .second, .val (.long ya), .second, .val (.long yb), .second, .val (.long yc), .second, vi dd, vr b1, vr b5, vi iA, vi iB, vi iC, vi ex308] [(.int dd), (.ref b5)])) rfl (by rw [hml]; rfl) (Steps.refl _) (argsL := [(.int dd)]) (rest := []) (lenOf pd_1 rfl) rfl (by show 2 * 0 + _ ≤ _; exact Nat.le_of_eq rfl) (hb hby at_312) (fun _ _ => ⟨rfl, ej308, (by decide : 20 + 0 ≤ _), (by decide : 150 + 0 ≤ _)⟩)
      dsimp only [Pt.U, Pt.locs, Pt.cells, Pt.slots] at X51 l51 y51 z51 st51 hQ51
      replace l51 := l51.symm
      subst l51 y51 z51
      obtain ⟨rfl, rfl, e51⟩ := hQ51
      first | rw [List.append_nil] at X51 | skip
      refine Goes.tr st51 ?_
      have e51' : T51.heap = TJ.heap := e51
      show Goes p e below _ (T51.setTop (mkF m 315 #[vi x0, vi x1, .val (.long x2), .second, .val (.long x3), .second, .val (.long x4), .second, .val (.long x5), .second, vi bp, vi x_, vi dg, vi (dg * bp), .val (.long mk), .second, .val (.long w_), .second, .val (.long ya), .second, .val (.long yb), .second, .val (.long yc), .second, vi dd, vr b1, vr b5, vi iA, vi iB, vi iC, vi ex308] [(.int (own_sm (own_cnt r3) (nd - dn) dn (0 : Int32)))]))
      refine gIL X51 hx hby at_315 rfl ?_
      have hc317_53 : (own_sm (own_cnt r3) (nd - dn) dn (0 : Int32)) = ex308 := (by rw [hx308, own_est hiC hsC hr3, own_est hiB hsB hr2, own_est hiA hsA hr1, own_sm0, Int32.zero_add])
      refine Goes.via (fun _ kk_ => XS.icmpNo X51.here hx rfl (hb hby at_317) rfl (teq hc317_53).2 kk_) ?_
      show Goes p e below _ (T51.setTop (mkF m 320 #[vi x0, vi x1, .val (.long x2), .second, .val (.long x3), .second, .val (.long x4), .second, .val (.long x5), .second, vi bp, vi x_, vi dg, vi (dg * bp), .val (.long mk), .second, .val (.long w_), .second, .val (.long ya), .second, .val (.long yb), .second, .val (.long yc), .second, vi dd, vr b1, vr b5, vi iA, vi iB, vi iC, vi ex308] []))
      refine gIC (z := 1) X51 hx hby at_320 rfl ?_
      refine Goes.via (fun _ kk_ => XS.goto X51.here hx rfl (pc0 := 321) (pc' := 325) rfl (hb hby at_321) (by decide) (by decide) kk_) ?_
      show Goes p e below _ (T51.setTop (mkF m 325 #[vi x0, vi x1, .val (.long x2), .second, .val (.long x3), .second, .val (.long x4), .second, .val (.long x5), .second, vi bp, vi x_, vi dg, vi (dg * bp), .val (.long mk), .second, .val (.long w_), .second, .val (.long ya), .second, .val (.long yb), .second, .val (.long yc), .second, vi dd, vr b1, vr b5, vi iA, vi iB, vi iC, vi ex308] [(.int (1 : Int32))]))
      exact own_finN X51 hx hlk hret (by simp) (hb hby at_325) (by rw [e51']; exact ⟨rfl, NJ, KJ⟩) (by first | decide | omega | (dsimp only; omega)) (by first | decide | omega | (dsimp only; omega))
    have J284 : ∀ (ex284 : Int32) (Tj284 : State), (Stand p l e room_1 s m #[(.int x0), (.int x1), (.long x2), (.long x3), (.long x4), (.long x5)] below meth c Tj284 lcJ 20 150) → (Tj284.heap = TJ.heap) → (ex284 = own_e iA (own_shares ya w_ dd dg bp) + own_e iB (own_shares yb w_ dd dg bp)) → Goes p e below (Fin_ s (Qrm0 Z x0 x1 x2 x3 x4 x5 ed kE fE h0 n0) room_1.cells room_1.slots) (Tj284.setTop (mkF m 284 #[vi x0, vi x1, .val (.long x2), .second, .val (.long x3), .second, .val (.long x4), .second, .val (.long x5), .second, vi bp, vi x_, vi dg, vi (dg * bp), .val (.long mk), .second, .val (.long w_), .second, .val (.long ya), .second, .val (.long yb), .second, .val (.long yc), .second, vi dd, vr b1, vr b5, vi iA, vi iB, vi iC, vi ex284] [])) := by
      intro ex284 Tj284 Xj284 ej284 hx284
      show Goes p e below _ (Tj284.setTop (mkF m 284 #[vi x0, vi x1, .val (.long x2), .second, .val (.long x3), .second, .val (.long x4), .second, .val (.long x5), .second, vi bp, vi x_, vi dg, vi (dg * bp), .val (.long mk), .second, .val (.long w_), .second, .val (.long ya), .second, .val (.long yb), .second, .val (.long yc), .second, vi dd, vr b1, vr b5, vi iA, vi iB, vi iC, vi ex284] []))
      refine gIL Xj284 hx hby at_284 rfl ?_
      by_cases hc286 : iC = (0 : Int32)
      · skip
        refine Goes.via (fun _ kk_ => XS.ifYes Xj284.here hx rfl (pc0 := 286) (pc' := 308) rfl (hb hby at_286) rfl ((if0 _ _).trans (teq hc286).1) (by decide) (by decide) kk_) ?_
        show Goes p e below _ (Tj284.setTop (mkF m 308 #[vi x0, vi x1, .val (.long x2), .second, .val (.long x3), .second, .val (.long x4), .second, .val (.long x5), .second, vi bp, vi x_, vi dg, vi (dg * bp), .val (.long mk), .second, .val (.long w_), .second, .val (.long ya), .second, .val (.long yb), .second, .val (.long yc), .second, vi dd, vr b1, vr b5, vi iA, vi iB, vi iC, vi ex284] []))
        exact J308 _ _ (Xj284.more (by decide) (by decide)) ej284 (by rw [own_e0 hc286, ← hx284, Int32.add_zero])
      · skip
        refine Goes.via (fun _ kk_ => XS.ifNo Xj284.here hx rfl (hb hby at_286) rfl ((if0 _ _).trans (feq hc286).1) kk_) ?_
        show Goes p e below _ (Tj284.setTop (mkF m 289 #[vi x0, vi x1, .val (.long x2), .second, .val (.long x3), .second, .val (.long x4), .second, .val (.long x5), .second, vi bp, vi x_, vi dg, vi (dg * bp), .val (.long mk), .second, .val (.long w_), .second, .val (.long ya), .second, .val (.long yb), .second, .val (.long yc), .second, vi dd, vr b1, vr b5, vi iA, vi iB, vi iC, vi ex284] []))
        refine Goes.via (fun _ kk_ => XS.lload Xj284.here hx rfl (hb hby at_289) rfl  kk_) ?_
        show Goes p e below _ (Tj284.setTop (mkF m 291 #[vi x0, vi x1, .val (.long x2), .second, .val (.long x3), .second, .val (.long x4), .second, .val (.long x5), .second, vi bp, vi x_, vi dg, vi (dg * bp), .val (.long mk), .second, .val (.long w_), .second, .val (.long ya), .second, .val (.long yb), .second, .val (.long yc), .second, vi dd, vr b1, vr b5, vi iA, vi iB, vi iC, vi ex284] [(.long yc)]))
        refine Goes.via (fun _ kk_ => XS.lload Xj284.here hx rfl (hb hby at_291) rfl  kk_) ?_
        show Goes p e below _ (Tj284.setTop (mkF m 293 #[vi x0, vi x1, .val (.long x2), .second, .val (.long x3), .second, .val (.long x4), .second, .val (.long x5), .second, vi bp, vi x_, vi dg, vi (dg * bp), .val (.long mk), .second, .val (.long w_), .second, .val (.long ya), .second, .val (.long yb), .second, .val (.long yc), .second, vi dd, vr b1, vr b5, vi iA, vi iB, vi iC, vi ex284] [(.long w_), (.long yc)]))
        refine gIL Xj284 hx hby at_293 rfl ?_
        refine gIL Xj284 hx hby at_295 rfl ?_
        refine gIL Xj284 hx hby at_297 rfl ?_
        obtain ⟨_, _, ⟨T54, L54, k54, n54⟩, -, X54, ⟨Lc54, hQ54, l54, y54, z54⟩, st54⟩ := Jvm.LawKit.callS Xj284 hx (y := mN_BlockSharingPinLaw_shares) hown (mvT hZ (own_w hw 202 rfl)) (mvT hZ (own_w hw 203 rfl)) (mvT hZ (own_w hw 204 rfl)) (mvT hZ (own_w hw 205 rfl)) (by decide) (backOf (W := 0) (rm33 l Z a0 hw [] yc w_ dd dg bp TJ.heap n0 (Nat.le_trans Z0 KJ.1) ) hZ (own_w hw 205 rfl) (own_w hw 204 rfl) (by decide) (by decide)) (g := (mkF m 299 #[vi x0, vi x1, .val (.long x2), .second, .val (.long x3), .second, .val (.long x4), .second, .val (.long x5), .second, vi bp, vi x_, vi dg, vi (dg * bp), .val (.long mk), .second, .val (.long w_), .second, .val (.long ya), .second, .val (.long yb), .second, .val (.long yc), .second, vi dd, vr b1, vr b5, vi iA, vi iB, vi iC, vi ex284] [(.int bp), (.int dg), (.int dd), (.long w_), (.long yc)])) rfl (by rw [hml]; rfl) (argsL := [(.long yc), (.long w_), (.int dd), (.int dg), (.int bp)]) (rest := []) (lenOf pd_19 rfl) rfl (by show 2 * 0 + _ ≤ _; exact Nat.le_of_eq rfl) (hb hby at_299) (fun _ _ => ⟨rfl, ej284, (by decide : 20 + 0 ≤ _), (by decide : 150 + 0 ≤ _)⟩)
        dsimp only [Pt.U, Pt.locs, Pt.cells, Pt.slots] at X54 l54 y54 z54 st54 hQ54
        replace l54 := l54.symm
        subst l54 y54 z54
        obtain ⟨rfl, rfl, e54⟩ := hQ54
        first | rw [List.append_nil] at X54 | skip
        refine Goes.via st54 ?_
        have e54' : T54.heap = TJ.heap := e54
        show Goes p e below _ (T54.setTop (mkF m 302 #[vi x0, vi x1, .val (.long x2), .second, .val (.long x3), .second, .val (.long x4), .second, .val (.long x5), .second, vi bp, vi x_, vi dg, vi (dg * bp), .val (.long mk), .second, .val (.long w_), .second, .val (.long ya), .second, .val (.long yb), .second, .val (.long yc), .second, vi dd, vr b1, vr b5, vi iA, vi iB, vi iC, vi ex284] [(.int (own_shares yc w_ dd dg bp))]))
        by_cases hc302 : (own_shares yc w_ dd dg bp) = (0 : Int32)
        · skip
          refine Goes.via (fun _ kk_ => XS.ifYes X54.here hx rfl (pc0 := 302) (pc' := 308) rfl (hb hby at_302) rfl ((if0 _ _).trans (teq hc302).1) (by decide) (by decide) kk_) ?_
          show Goes p e below _ (T54.setTop (mkF m 308 #[vi x0, vi x1, .val (.long x2), .second, .val (.long x3), .second, .val (.long x4), .second, .val (.long x5), .second, vi bp, vi x_, vi dg, vi (dg * bp), .val (.long mk), .second, .val (.long w_), .second, .val (.long ya), .second, .val (.long yb), .second, .val (.long yc), .second, vi dd, vr b1, vr b5, vi iA, vi iB, vi iC, vi ex284] []))
          exact J308 _ _ (X54.more (by decide) (by decide)) e54' (by rw [own_e1 hc286 hc302, ← hx284, Int32.add_zero])
        · skip
          refine Goes.via (fun _ kk_ => XS.ifNo X54.here hx rfl (hb hby at_302) rfl ((if0 _ _).trans (feq hc302).1) kk_) ?_
          show Goes p e below _ (T54.setTop (mkF m 305 #[vi x0, vi x1, .val (.long x2), .second, .val (.long x3), .second, .val (.long x4), .second, .val (.long x5), .second, vi bp, vi x_, vi dg, vi (dg * bp), .val (.long mk), .second, .val (.long w_), .second, .val (.long ya), .second, .val (.long yb), .second, .val (.long yc), .second, vi dd, vr b1, vr b5, vi iA, vi iB, vi iC, vi ex284] []))
          refine Goes.via (fun _ kk_ => XS.iinc X54.here hx rfl (hb hby at_305) rfl (l' := #[vi x0, vi x1, .val (.long x2), .second, .val (.long x3), .second, .val (.long x4), .second, .val (.long x5), .second, vi bp, vi x_, vi dg, vi (dg * bp), .val (.long mk), .second, .val (.long w_), .second, .val (.long ya), .second, .val (.long yb), .second, .val (.long yc), .second, vi dd, vr b1, vr b5, vi iA, vi iB, vi iC, vi (ex284 + (1 : Int32))]) rfl kk_) ?_
          show Goes p e below _ (T54.setTop (mkF m 308 #[vi x0, vi x1, .val (.long x2), .second, .val (.long x3), .second, .val (.long x4), .second, .val (.long x5), .second, vi bp, vi x_, vi dg, vi (dg * bp), .val (.long mk), .second, .val (.long w_), .second, .val (.long ya), .second, .val (.long yb), .second, .val (.long yc), .second, vi dd, vr b1, vr b5, vi iA, vi iB, vi iC, vi (ex284 + (1 : Int32))] []))
          exact J308 _ _ (X54.more (by decide) (by decide)) e54' (by rw [own_e2 hc286 hc302, ← hx284])
    have J260 : ∀ (ex260 : Int32) (Tj260 : State), (Stand p l e room_1 s m #[(.int x0), (.int x1), (.long x2), (.long x3), (.long x4), (.long x5)] below meth c Tj260 lcJ 20 150) → (Tj260.heap = TJ.heap) → (ex260 = own_e iA (own_shares ya w_ dd dg bp)) → Goes p e below (Fin_ s (Qrm0 Z x0 x1 x2 x3 x4 x5 ed kE fE h0 n0) room_1.cells room_1.slots) (Tj260.setTop (mkF m 260 #[vi x0, vi x1, .val (.long x2), .second, .val (.long x3), .second, .val (.long x4), .second, .val (.long x5), .second, vi bp, vi x_, vi dg, vi (dg * bp), .val (.long mk), .second, .val (.long w_), .second, .val (.long ya), .second, .val (.long yb), .second, .val (.long yc), .second, vi dd, vr b1, vr b5, vi iA, vi iB, vi iC, vi ex260] [])) := by
      intro ex260 Tj260 Xj260 ej260 hx260
      show Goes p e below _ (Tj260.setTop (mkF m 260 #[vi x0, vi x1, .val (.long x2), .second, .val (.long x3), .second, .val (.long x4), .second, .val (.long x5), .second, vi bp, vi x_, vi dg, vi (dg * bp), .val (.long mk), .second, .val (.long w_), .second, .val (.long ya), .second, .val (.long yb), .second, .val (.long yc), .second, vi dd, vr b1, vr b5, vi iA, vi iB, vi iC, vi ex260] []))
      refine gIL Xj260 hx hby at_260 rfl ?_
      by_cases hc262 : iB = (0 : Int32)
      · skip
        refine Goes.via (fun _ kk_ => XS.ifYes Xj260.here hx rfl (pc0 := 262) (pc' := 284) rfl (hb hby at_262) rfl ((if0 _ _).trans (teq hc262).1) (by decide) (by decide) kk_) ?_
        show Goes p e below _ (Tj260.setTop (mkF m 284 #[vi x0, vi x1, .val (.long x2), .second, .val (.long x3), .second, .val (.long x4), .second, .val (.long x5), .second, vi bp, vi x_, vi dg, vi (dg * bp), .val (.long mk), .second, .val (.long w_), .second, .val (.long ya), .second, .val (.long yb), .second, .val (.long yc), .second, vi dd, vr b1, vr b5, vi iA, vi iB, vi iC, vi ex260] []))
        exact J284 _ _ (Xj260.more (by decide) (by decide)) ej260 (by rw [own_e0 hc262, ← hx260, Int32.add_zero])
      · skip
        refine Goes.via (fun _ kk_ => XS.ifNo Xj260.here hx rfl (hb hby at_262) rfl ((if0 _ _).trans (feq hc262).1) kk_) ?_
        show Goes p e below _ (Tj260.setTop (mkF m 265 #[vi x0, vi x1, .val (.long x2), .second, .val (.long x3), .second, .val (.long x4), .second, .val (.long x5), .second, vi bp, vi x_, vi dg, vi (dg * bp), .val (.long mk), .second, .val (.long w_), .second, .val (.long ya), .second, .val (.long yb), .second, .val (.long yc), .second, vi dd, vr b1, vr b5, vi iA, vi iB, vi iC, vi ex260] []))
        refine Goes.via (fun _ kk_ => XS.lload Xj260.here hx rfl (hb hby at_265) rfl  kk_) ?_
        show Goes p e below _ (Tj260.setTop (mkF m 267 #[vi x0, vi x1, .val (.long x2), .second, .val (.long x3), .second, .val (.long x4), .second, .val (.long x5), .second, vi bp, vi x_, vi dg, vi (dg * bp), .val (.long mk), .second, .val (.long w_), .second, .val (.long ya), .second, .val (.long yb), .second, .val (.long yc), .second, vi dd, vr b1, vr b5, vi iA, vi iB, vi iC, vi ex260] [(.long yb)]))
        refine Goes.via (fun _ kk_ => XS.lload Xj260.here hx rfl (hb hby at_267) rfl  kk_) ?_
        show Goes p e below _ (Tj260.setTop (mkF m 269 #[vi x0, vi x1, .val (.long x2), .second, .val (.long x3), .second, .val (.long x4), .second, .val (.long x5), .second, vi bp, vi x_, vi dg, vi (dg * bp), .val (.long mk), .second, .val (.long w_), .second, .val (.long ya), .second, .val (.long yb), .second, .val (.long yc), .second, vi dd, vr b1, vr b5, vi iA, vi iB, vi iC, vi ex260] [(.long w_), (.long yb)]))
        refine gIL Xj260 hx hby at_269 rfl ?_
        refine gIL Xj260 hx hby at_271 rfl ?_
        refine gIL Xj260 hx hby at_273 rfl ?_
        obtain ⟨_, _, ⟨T56, L56, k56, n56⟩, -, X56, ⟨Lc56, hQ56, l56, y56, z56⟩, st56⟩ := Jvm.LawKit.callS Xj260 hx (y := mN_BlockSharingPinLaw_shares) hown (mvT hZ (own_w hw 202 rfl)) (mvT hZ (own_w hw 203 rfl)) (mvT hZ (own_w hw 204 rfl)) (mvT hZ (own_w hw 205 rfl)) (by decide) (backOf (W := 0) (rm33 l Z a0 hw [] yb w_ dd dg bp TJ.heap n0 (Nat.le_trans Z0 KJ.1) ) hZ (own_w hw 205 rfl) (own_w hw 204 rfl) (by decide) (by decide)) (g := (mkF m 275 #[vi x0, vi x1, .val (.long x2), .second, .val (.long x3), .second, .val (.long x4), .second, .val (.long x5), .second, vi bp, vi x_, vi dg, vi (dg * bp), .val (.long mk), .second, .val (.long w_), .second, .val (.long ya), .second, .val (.long yb), .second, .val (.long yc), .second, vi dd, vr b1, vr b5, vi iA, vi iB, vi iC, vi ex260] [(.int bp), (.int dg), (.int dd), (.long w_), (.long yb)])) rfl (by rw [hml]; rfl) (argsL := [(.long yb), (.long w_), (.int dd), (.int dg), (.int bp)]) (rest := []) (lenOf pd_19 rfl) rfl (by show 2 * 0 + _ ≤ _; exact Nat.le_of_eq rfl) (hb hby at_275) (fun _ _ => ⟨rfl, ej260, (by decide : 20 + 0 ≤ _), (by decide : 150 + 0 ≤ _)⟩)
        dsimp only [Pt.U, Pt.locs, Pt.cells, Pt.slots] at X56 l56 y56 z56 st56 hQ56
        replace l56 := l56.symm
        subst l56 y56 z56
        obtain ⟨rfl, rfl, e56⟩ := hQ56
        first | rw [List.append_nil] at X56 | skip
        refine Goes.via st56 ?_
        have e56' : T56.heap = TJ.heap := e56
        show Goes p e below _ (T56.setTop (mkF m 278 #[vi x0, vi x1, .val (.long x2), .second, .val (.long x3), .second, .val (.long x4), .second, .val (.long x5), .second, vi bp, vi x_, vi dg, vi (dg * bp), .val (.long mk), .second, .val (.long w_), .second, .val (.long ya), .second, .val (.long yb), .second, .val (.long yc), .second, vi dd, vr b1, vr b5, vi iA, vi iB, vi iC, vi ex260] [(.int (own_shares yb w_ dd dg bp))]))
        by_cases hc278 : (own_shares yb w_ dd dg bp) = (0 : Int32)
        · skip
          refine Goes.via (fun _ kk_ => XS.ifYes X56.here hx rfl (pc0 := 278) (pc' := 284) rfl (hb hby at_278) rfl ((if0 _ _).trans (teq hc278).1) (by decide) (by decide) kk_) ?_
          show Goes p e below _ (T56.setTop (mkF m 284 #[vi x0, vi x1, .val (.long x2), .second, .val (.long x3), .second, .val (.long x4), .second, .val (.long x5), .second, vi bp, vi x_, vi dg, vi (dg * bp), .val (.long mk), .second, .val (.long w_), .second, .val (.long ya), .second, .val (.long yb), .second, .val (.long yc), .second, vi dd, vr b1, vr b5, vi iA, vi iB, vi iC, vi ex260] []))
          exact J284 _ _ (X56.more (by decide) (by decide)) e56' (by rw [own_e1 hc262 hc278, ← hx260, Int32.add_zero])
        · skip
          refine Goes.via (fun _ kk_ => XS.ifNo X56.here hx rfl (hb hby at_278) rfl ((if0 _ _).trans (feq hc278).1) kk_) ?_
          show Goes p e below _ (T56.setTop (mkF m 281 #[vi x0, vi x1, .val (.long x2), .second, .val (.long x3), .second, .val (.long x4), .second, .val (.long x5), .second, vi bp, vi x_, vi dg, vi (dg * bp), .val (.long mk), .second, .val (.long w_), .second, .val (.long ya), .second, .val (.long yb), .second, .val (.long yc), .second, vi dd, vr b1, vr b5, vi iA, vi iB, vi iC, vi ex260] []))
          refine Goes.via (fun _ kk_ => XS.iinc X56.here hx rfl (hb hby at_281) rfl (l' := #[vi x0, vi x1, .val (.long x2), .second, .val (.long x3), .second, .val (.long x4), .second, .val (.long x5), .second, vi bp, vi x_, vi dg, vi (dg * bp), .val (.long mk), .second, .val (.long w_), .second, .val (.long ya), .second, .val (.long yb), .second, .val (.long yc), .second, vi dd, vr b1, vr b5, vi iA, vi iB, vi iC, vi (ex260 + (1 : Int32))]) rfl kk_) ?_
          show Goes p e below _ (T56.setTop (mkF m 284 #[vi x0, vi x1, .val (.long x2), .second, .val (.long x3), .second, .val (.long x4), .second, .val (.long x5), .second, vi bp, vi x_, vi dg, vi (dg * bp), .val (.long mk), .second, .val (.long w_), .second, .val (.long ya), .second, .val (.long yb), .second, .val (.long yc), .second, vi dd, vr b1, vr b5, vi iA, vi iB, vi iC, vi (ex260 + (1 : Int32))] []))
          exact J284 _ _ (X56.more (by decide) (by decide)) e56' (by rw [own_e2 hc262 hc278, ← hx260])
    show Goes p e below _ (TJ.setTop (mkF m 236 #[vi x0, vi x1, .val (.long x2), .second, .val (.long x3), .second, .val (.long x4), .second, .val (.long x5), .second, vi bp, vi x_, vi dg, vi (dg * bp), .val (.long mk), .second, .val (.long w_), .second, .val (.long ya), .second, .val (.long yb), .second, .val (.long yc), .second, vi dd, vr b1, vr b5, vi iA, vi iB, vi iC, vi (0 : Int32)] []))
    refine gIL XJ hx hby at_236 rfl ?_
    by_cases hc238 : iA = (0 : Int32)
    · skip
      refine Goes.via (fun _ kk_ => XS.ifYes XJ.here hx rfl (pc0 := 238) (pc' := 260) rfl (hb hby at_238) rfl ((if0 _ _).trans (teq hc238).1) (by decide) (by decide) kk_) ?_
      show Goes p e below _ (TJ.setTop (mkF m 260 #[vi x0, vi x1, .val (.long x2), .second, .val (.long x3), .second, .val (.long x4), .second, .val (.long x5), .second, vi bp, vi x_, vi dg, vi (dg * bp), .val (.long mk), .second, .val (.long w_), .second, .val (.long ya), .second, .val (.long yb), .second, .val (.long yc), .second, vi dd, vr b1, vr b5, vi iA, vi iB, vi iC, vi (0 : Int32)] []))
      exact J260 _ _ (XJ.more (by decide) (by decide)) rfl ((own_e0 hc238).symm)
    · skip
      refine Goes.via (fun _ kk_ => XS.ifNo XJ.here hx rfl (hb hby at_238) rfl ((if0 _ _).trans (feq hc238).1) kk_) ?_
      show Goes p e below _ (TJ.setTop (mkF m 241 #[vi x0, vi x1, .val (.long x2), .second, .val (.long x3), .second, .val (.long x4), .second, .val (.long x5), .second, vi bp, vi x_, vi dg, vi (dg * bp), .val (.long mk), .second, .val (.long w_), .second, .val (.long ya), .second, .val (.long yb), .second, .val (.long yc), .second, vi dd, vr b1, vr b5, vi iA, vi iB, vi iC, vi (0 : Int32)] []))
      refine Goes.via (fun _ kk_ => XS.lload XJ.here hx rfl (hb hby at_241) rfl  kk_) ?_
      show Goes p e below _ (TJ.setTop (mkF m 243 #[vi x0, vi x1, .val (.long x2), .second, .val (.long x3), .second, .val (.long x4), .second, .val (.long x5), .second, vi bp, vi x_, vi dg, vi (dg * bp), .val (.long mk), .second, .val (.long w_), .second, .val (.long ya), .second, .val (.long yb), .second, .val (.long yc), .second, vi dd, vr b1, vr b5, vi iA, vi iB, vi iC, vi (0 : Int32)] [(.long ya)]))
      refine Goes.via (fun _ kk_ => XS.lload XJ.here hx rfl (hb hby at_243) rfl  kk_) ?_
      show Goes p e below _ (TJ.setTop (mkF m 245 #[vi x0, vi x1, .val (.long x2), .second, .val (.long x3), .second, .val (.long x4), .second, .val (.long x5), .second, vi bp, vi x_, vi dg, vi (dg * bp), .val (.long mk), .second, .val (.long w_), .second, .val (.long ya), .second, .val (.long yb), .second, .val (.long yc), .second, vi dd, vr b1, vr b5, vi iA, vi iB, vi iC, vi (0 : Int32)] [(.long w_), (.long ya)]))
      refine gIL XJ hx hby at_245 rfl ?_
      refine gIL XJ hx hby at_247 rfl ?_
      refine gIL XJ hx hby at_249 rfl ?_
      obtain ⟨_, _, ⟨T58, L58, k58, n58⟩, -, X58, ⟨Lc58, hQ58, l58, y58, z58⟩, st58⟩ := Jvm.LawKit.callS XJ hx (y := mN_BlockSharingPinLaw_shares) hown (mvT hZ (own_w hw 202 rfl)) (mvT hZ (own_w hw 203 rfl)) (mvT hZ (own_w hw 204 rfl)) (mvT hZ (own_w hw 205 rfl)) (by decide) (backOf (W := 0) (rm33 l Z a0 hw [] ya w_ dd dg bp TJ.heap n0 (Nat.le_trans Z0 KJ.1) ) hZ (own_w hw 205 rfl) (own_w hw 204 rfl) (by decide) (by decide)) (g := (mkF m 251 #[vi x0, vi x1, .val (.long x2), .second, .val (.long x3), .second, .val (.long x4), .second, .val (.long x5), .second, vi bp, vi x_, vi dg, vi (dg * bp), .val (.long mk), .second, .val (.long w_), .second, .val (.long ya), .second, .val (.long yb), .second, .val (.long yc), .second, vi dd, vr b1, vr b5, vi iA, vi iB, vi iC, vi (0 : Int32)] [(.int bp), (.int dg), (.int dd), (.long w_), (.long ya)])) rfl (by rw [hml]; rfl) (argsL := [(.long ya), (.long w_), (.int dd), (.int dg), (.int bp)]) (rest := []) (lenOf pd_19 rfl) rfl (by show 2 * 0 + _ ≤ _; exact Nat.le_of_eq rfl) (hb hby at_251) (fun _ _ => ⟨rfl, rfl, (by decide : 20 + 0 ≤ _), (by decide : 150 + 0 ≤ _)⟩)
      dsimp only [Pt.U, Pt.locs, Pt.cells, Pt.slots] at X58 l58 y58 z58 st58 hQ58
      replace l58 := l58.symm
      subst l58 y58 z58
      obtain ⟨rfl, rfl, e58⟩ := hQ58
      first | rw [List.append_nil] at X58 | skip
      refine Goes.via st58 ?_
      have e58' : T58.heap = TJ.heap := e58
      show Goes p e below _ (T58.setTop (mkF m 254 #[vi x0, vi x1, .val (.long x2), .second, .val (.long x3), .second, .val (.long x4), .second, .val (.long x5), .second, vi bp, vi x_, vi dg, vi (dg * bp), .val (.long mk), .second, .val (.long w_), .second, .val (.long ya), .second, .val (.long yb), .second, .val (.long yc), .second, vi dd, vr b1, vr b5, vi iA, vi iB, vi iC, vi (0 : Int32)] [(.int (own_shares ya w_ dd dg bp))]))
      by_cases hc254 : (own_shares ya w_ dd dg bp) = (0 : Int32)
      · skip
        refine Goes.via (fun _ kk_ => XS.ifYes X58.here hx rfl (pc0 := 254) (pc' := 260) rfl (hb hby at_254) rfl ((if0 _ _).trans (teq hc254).1) (by decide) (by decide) kk_) ?_
        show Goes p e below _ (T58.setTop (mkF m 260 #[vi x0, vi x1, .val (.long x2), .second, .val (.long x3), .second, .val (.long x4), .second, .val (.long x5), .second, vi bp, vi x_, vi dg, vi (dg * bp), .val (.long mk), .second, .val (.long w_), .second, .val (.long ya), .second, .val (.long yb), .second, .val (.long yc), .second, vi dd, vr b1, vr b5, vi iA, vi iB, vi iC, vi (0 : Int32)] []))
        exact J260 _ _ (X58.more (by decide) (by decide)) e58' ((own_e1 hc238 hc254).symm)
      · skip
        refine Goes.via (fun _ kk_ => XS.ifNo X58.here hx rfl (hb hby at_254) rfl ((if0 _ _).trans (feq hc254).1) kk_) ?_
        show Goes p e below _ (T58.setTop (mkF m 257 #[vi x0, vi x1, .val (.long x2), .second, .val (.long x3), .second, .val (.long x4), .second, .val (.long x5), .second, vi bp, vi x_, vi dg, vi (dg * bp), .val (.long mk), .second, .val (.long w_), .second, .val (.long ya), .second, .val (.long yb), .second, .val (.long yc), .second, vi dd, vr b1, vr b5, vi iA, vi iB, vi iC, vi (0 : Int32)] []))
        refine Goes.via (fun _ kk_ => XS.iinc X58.here hx rfl (hb hby at_257) rfl (l' := #[vi x0, vi x1, .val (.long x2), .second, .val (.long x3), .second, .val (.long x4), .second, .val (.long x5), .second, vi bp, vi x_, vi dg, vi (dg * bp), .val (.long mk), .second, .val (.long w_), .second, .val (.long ya), .second, .val (.long yb), .second, .val (.long yc), .second, vi dd, vr b1, vr b5, vi iA, vi iB, vi iC, vi ((0 : Int32) + (1 : Int32))]) rfl kk_) ?_
        show Goes p e below _ (T58.setTop (mkF m 260 #[vi x0, vi x1, .val (.long x2), .second, .val (.long x3), .second, .val (.long x4), .second, .val (.long x5), .second, vi bp, vi x_, vi dg, vi (dg * bp), .val (.long mk), .second, .val (.long w_), .second, .val (.long ya), .second, .val (.long yb), .second, .val (.long yc), .second, vi dd, vr b1, vr b5, vi iA, vi iB, vi iC, vi ((0 : Int32) + (1 : Int32))] []))
        rw [show ((0 : Int32) + (1 : Int32)) = (1 : Int32) from by decide]
        show Goes p e below _ (T58.setTop (mkF m 260 #[vi x0, vi x1, .val (.long x2), .second, .val (.long x3), .second, .val (.long x4), .second, .val (.long x5), .second, vi bp, vi x_, vi dg, vi (dg * bp), .val (.long mk), .second, .val (.long w_), .second, .val (.long ya), .second, .val (.long yb), .second, .val (.long yc), .second, vi dd, vr b1, vr b5, vi iA, vi iB, vi iC, vi (1 : Int32)] []))
        exact J260 _ _ (X58.more (by decide) (by decide)) e58' ((own_e2 hc238 hc254).symm)
  by_cases hA : ya = w_
  · skip
    refine gAL X33 hx hby at_110 rfl rfl ?_
    obtain ⟨T60, h60, X60, e60, E60, A60, D60, -, st60⟩ := newO X33 hx hZ hown (own_w hw 27 rfl) (own_w hw 28 rfl) (own_w hw 29 rfl) rfl (g := (mkF m 112 (own_lw x0 x1 x2 x3 x4 x5 bp x_ dg mk w_ ya yb yc dd b1 b5) [(.ref b5)])) rfl (hb hby at_112) (by first | decide | omega | (dsimp only; omega)) (by first | decide | omega | (dsimp only; omega))
    obtain ⟨b60, g60⟩ : ∃ z, z = (T33.heap).size := ⟨_, rfl⟩
    rw [← g60] at A60 D60 st60
    have K61 : Keep h0 T33.heap [] := (K31.trans K33 (allS (Or.inr sz_b5) all0))
    have f64 := (f29.keep K33)
    have lne65 : b1 < b60 := Nat.lt_of_lt_of_le f64.lt (Nat.le_of_eq g60.symm)
    have ne65 : b1 ≠ b60 := Nat.ne_of_lt lne65
    have lne66 : b5 < b60 := Nat.lt_of_lt_of_le u33_0.lt (Nat.le_of_eq g60.symm)
    have ne66 : b5 ≠ b60 := Nat.ne_of_lt lne66
    have f67 := (u22_0.keep K33)
    have lne68 : b11 < b60 := Nat.lt_of_lt_of_le f67.lt (Nat.le_of_eq g60.symm)
    have ne68 : b11 ≠ b60 := Nat.ne_of_lt lne68
    have lne69 : al33 < b60 := Nat.lt_of_lt_of_le u33_6.lt (Nat.le_of_eq g60.symm)
    have ne69 : al33 ≠ b60 := Nat.ne_of_lt lne69
    have lne70 : ws33 < b60 := Nat.lt_of_lt_of_le u33_11.lt (Nat.le_of_eq g60.symm)
    have ne70 : ws33 ≠ b60 := Nat.ne_of_lt lne70
    have z71 : h0.size ≤ (T33.heap).size := (Nat.le_trans z34 K33.1)
    have sz_b60 : h0.size ≤ b60 := Nat.le_trans z71 (Nat.le_of_eq g60.symm)
    have gn_b60 : n0 ≤ b60 := Nat.le_trans Z0 sz_b60
    have F_space_b60 : Fld Z h60 b60 "nearhop/model/Id" "space" "Lnearhop/model/IdSpace;" .null := D60 (Or.inr (own_w hw 35 rfl)) (ty := (.object "nearhop/model/IdSpace")) (by decide)
    have F_high_b60 : Fld Z h60 b60 "nearhop/model/Id" "high" "J" (.long (0 : Int64)) := D60 (Or.inr (own_w hw 50 rfl)) (ty := .long) (by decide)
    have F_low_b60 : Fld Z h60 b60 "nearhop/model/Id" "low" "J" (.long (0 : Int64)) := D60 (Or.inr (own_w hw 55 rfl)) (ty := .long) (by decide)
    refine Goes.via st60 ?_
    show Goes p e below _ (T60.setTop (mkF m 115 (own_lw x0 x1 x2 x3 x4 x5 bp x_ dg mk w_ ya yb yc dd b1 b5) [(.ref b60), (.ref b5)]))
    refine gDU X60 hx hby at_115 rfl ?_
    refine gAL X60 hx hby at_116 rfl rfl ?_
    refine Goes.via (fun _ kk_ => XS.lconst X60.here hx rfl (hb hby at_118) kk_) ?_
    show Goes p e below _ (T60.setTop (mkF m 119 (own_lw x0 x1 x2 x3 x4 x5 bp x_ dg mk w_ ya yb yc dd b1 b5) [(.long (0 : Int64)), (.ref b1), (.ref b60), (.ref b60), (.ref b5)]))
    refine Goes.via (fun _ kk_ => XS.lload X60.here hx rfl (hb hby at_119) rfl  kk_) ?_
    show Goes p e below _ (T60.setTop (mkF m 121 (own_lw x0 x1 x2 x3 x4 x5 bp x_ dg mk w_ ya yb yc dd b1 b5) [(.long ya), (.long (0 : Int64)), (.ref b1), (.ref b60), (.ref b60), (.ref b5)]))
    have f72 := (f64.ext E60)
    have f73 := (((f20.keep K22 (ninS ne16 nin0)).keep K33 (ninS ne9 nin0)).ext E60)
    have f74 := ((f30.keep K33 (ninS ne9 nin0)).ext E60)
    have z76 : h0.size ≤ (h60).size := (Nat.le_trans z71 E60.1)
    obtain ⟨_, _, ⟨T75, L75, k75, n75⟩, -, X75, ⟨Lc75, hQ75, l75, y75, z75⟩, st75⟩ := X60.specialBack hx (y := mN_Id_init) rfl hown (mvT hZ (own_w hw 30 rfl)) (mvT hZ (own_w hw 31 rfl)) (mvT hZ (own_w hw 32 rfl)) (by decide) (backOf (W := 2) (rm5 l Z a0 hw [] b60 b1 ya x_ dg bp h60 n0 (Nat.le_trans Z0 z76) A60 F_space_b60 F_high_b60 F_low_b60 gn_b60 f72 f73 f74 (by first | assumption | rfl | decide | omega | (simp; done)) (by first | assumption | rfl | decide | omega | (simp; done)) (by first | assumption | rfl | decide | omega | (simp; done)) (by first | assumption | rfl | decide | omega | (simp; done))) hZ (own_w hw 32 rfl) (own_w hw 29 rfl) (by decide) (by decide)) (g := (mkF m 121 (own_lw x0 x1 x2 x3 x4 x5 bp x_ dg mk w_ ya yb yc dd b1 b5) [(.long ya), (.long (0 : Int64)), (.ref b1), (.ref b60), (.ref b60), (.ref b5)])) rfl (by rw [hml]; rfl) (Steps.refl _) (a := b60) (argsL := [(.ref b1), (.long (0 : Int64)), (.long ya)]) (rest := [(.ref b60), (.ref b5)]) (lenOf pd_17 rfl) rfl (by show 2 * 0 + _ ≤ _; exact Nat.le_of_eq rfl) (hb hby at_121) (fun _ _ => ⟨rfl, e60, (by decide : 6 + 0 ≤ _), (by decide : 23 + 0 ≤ _)⟩)
    dsimp only [Pt.U, Pt.locs, Pt.cells, Pt.slots] at X75 l75 y75 z75 st75 hQ75
    replace l75 := l75.symm
    subst l75 y75 z75
    obtain ⟨rfl, N75q, K75, u75_0, u75_1, u75_2, u75_3⟩ := hQ75
    have N75 := Fr.app N33 N75q
    refine Goes.tr st75 ?_
    show Goes p e below _ (T75.setTop (mkF m 124 (own_lw x0 x1 x2 x3 x4 x5 bp x_ dg mk w_ ya yb yc dd b1 b5) [(.ref b60), (.ref b5)]))
    have f77 := ((u33_0.ext E60).keep K75)
    have f78 := ((u33_1.ext E60).keep K75 (ninS ne66 nin0))
    have f79 := ((u33_2.ext E60).keep K75 (ninS ne66 nin0))
    have f80 := ((u33_3.ext E60).keep K75 (ninS ne66 nin0))
    have f81 := ((u33_4.ext E60).keep K75 (ninS ne66 nin0))
    have f82 := ((f67.ext E60).keep K75)
    have f83 := (((u22_1.keep K33 (ninS (Ne.symm ne17) nin0)).ext E60).keep K75 (ninS ne68 nin0))
    have f84 := (((u22_2.keep K33 (ninS (Ne.symm ne17) nin0)).ext E60).keep K75 (ninS ne68 nin0))
    have f85 := (((u22_3.keep K33 (ninS (Ne.symm ne17) nin0)).ext E60).keep K75 (ninS ne68 nin0))
    have f86 := (f72.keep K75)
    have f87 := (f73.keep K75 (ninS ne65 nin0))
    have f88 := (f74.keep K75 (ninS ne65 nin0))
    have z90 : h0.size ≤ (T75.heap).size := (Nat.le_trans z76 K75.1)
    obtain ⟨cq89, kq89, q89a, q89b, q89c⟩ := isOf hZ rfl f77
    obtain ⟨_, _, ⟨T89, L89, k89, n89⟩, -, X89, ⟨Lc89, hQ89, l89, y89, z89⟩, st89⟩ := X75.virtualBack hx (y := mN_Block_add) (z := mN_Block_add) hown (mvT hZ (own_w hw 101 rfl)) (mvT hZ (own_w hw 102 rfl)) (notFace_of_selects (args := #[]) (mvT hZ (own_w hw 104 rfl))) (mvT hZ (own_w hw 104 rfl)) (mvT hZ (own_w hw 103 rfl)) (by decide) (backOf (W := 0) (rmAddO l Z a0 hw [] b5 b60 al33 b11 ws33 b1 w_ ya x_ dg bp T75.heap n0 (Nat.le_trans Z0 z90) f77 f78 f79 f80 f81 f82 u75_0 (Ne.symm ne68) f83 f84 f85 u75_1 u75_2 u75_3 f86 f87 f88 (by first | assumption | rfl | decide | omega | (simp; done)) hA) hZ (own_w hw 105 rfl) (own_w hw 26 rfl) (by decide) (by decide)) q89a q89c (g := (mkF m 124 (own_lw x0 x1 x2 x3 x4 x5 bp x_ dg mk w_ ya yb yc dd b1 b5) [(.ref b60), (.ref b5)])) rfl (by rw [hml]; rfl) (Steps.refl _) (argsL := [(.ref b60)]) (rest := []) (lenOf pd_14 rfl) rfl (by show 2 * 0 + _ ≤ _; exact Nat.le_of_eq rfl) (hb hby at_124) (fun _ _ => ⟨rfl, rfl, (by decide : 6 + 0 ≤ _), (by decide : 23 + 0 ≤ _)⟩)
    dsimp only [Pt.U, Pt.locs, Pt.cells, Pt.slots] at X89 l89 y89 z89 st89 hQ89
    replace l89 := l89.symm
    subst l89 y89 z89
    obtain ⟨rfl, rfl, e89⟩ := hQ89
    first | rw [List.append_nil] at X89 | skip
    refine Goes.tr st89 ?_
    have e89' : T89.heap = T75.heap := e89
    show Goes p e below _ (T89.setTop (mkF m 127 (own_lw x0 x1 x2 x3 x4 x5 bp x_ dg mk w_ ya yb yc dd b1 b5) [(.int (0 : Int32))]))
    refine Goes.via (fun _ kk_ => XS.pop X89.here hx rfl (hb hby at_127) rfl rfl kk_) ?_
    show Goes p e below _ (T89.setTop (mkF m 128 (own_lw x0 x1 x2 x3 x4 x5 bp x_ dg mk w_ ya yb yc dd b1 b5) []))
    by_cases hBo : yb = w_
    · skip
      refine gAL X89 hx hby at_128 rfl rfl ?_
      obtain ⟨T91, h91, X91, e91, E91, A91, D91, -, st91⟩ := newO X89 hx hZ hown (own_w hw 27 rfl) (own_w hw 28 rfl) (own_w hw 29 rfl) e89' (g := (mkF m 130 (own_lw x0 x1 x2 x3 x4 x5 bp x_ dg mk w_ ya yb yc dd b1 b5) [(.ref b5)])) rfl (hb hby at_130) (by first | decide | omega | (dsimp only; omega)) (by first | decide | omega | (dsimp only; omega))
      obtain ⟨b91, g91⟩ : ∃ z, z = (T75.heap).size := ⟨_, rfl⟩
      rw [← g91] at A91 D91 st91
      have K92 : Keep h0 T75.heap [] := ((K61.ext E60).trans K75 (allS (Or.inr sz_b60) all0))
      have lne95 : b1 < b91 := Nat.lt_of_lt_of_le f86.lt (Nat.le_of_eq g91.symm)
      have ne95 : b1 ≠ b91 := Nat.ne_of_lt lne95
      have lne96 : b5 < b91 := Nat.lt_of_lt_of_le f77.lt (Nat.le_of_eq g91.symm)
      have ne96 : b5 ≠ b91 := Nat.ne_of_lt lne96
      have lne97 : b11 < b91 := Nat.lt_of_lt_of_le f82.lt (Nat.le_of_eq g91.symm)
      have ne97 : b11 ≠ b91 := Nat.ne_of_lt lne97
      have f98 := ((u33_6.ext E60).keep K75)
      have lne99 : al33 < b91 := Nat.lt_of_lt_of_le f98.lt (Nat.le_of_eq g91.symm)
      have ne99 : al33 ≠ b91 := Nat.ne_of_lt lne99
      have f100 := ((u33_11.ext E60).keep K75 (ninS ne70 nin0))
      have lne101 : ws33 < b91 := Nat.lt_of_lt_of_le f100.lt (Nat.le_of_eq g91.symm)
      have ne101 : ws33 ≠ b91 := Nat.ne_of_lt lne101
      have sz_b91 : h0.size ≤ b91 := Nat.le_trans z90 (Nat.le_of_eq g91.symm)
      have gn_b91 : n0 ≤ b91 := Nat.le_trans Z0 sz_b91
      have F_space_b91 : Fld Z h91 b91 "nearhop/model/Id" "space" "Lnearhop/model/IdSpace;" .null := D91 (Or.inr (own_w hw 35 rfl)) (ty := (.object "nearhop/model/IdSpace")) (by decide)
      have F_high_b91 : Fld Z h91 b91 "nearhop/model/Id" "high" "J" (.long (0 : Int64)) := D91 (Or.inr (own_w hw 50 rfl)) (ty := .long) (by decide)
      have F_low_b91 : Fld Z h91 b91 "nearhop/model/Id" "low" "J" (.long (0 : Int64)) := D91 (Or.inr (own_w hw 55 rfl)) (ty := .long) (by decide)
      refine Goes.via st91 ?_
      show Goes p e below _ (T91.setTop (mkF m 133 (own_lw x0 x1 x2 x3 x4 x5 bp x_ dg mk w_ ya yb yc dd b1 b5) [(.ref b91), (.ref b5)]))
      refine gDU X91 hx hby at_133 rfl ?_
      refine gAL X91 hx hby at_134 rfl rfl ?_
      refine Goes.via (fun _ kk_ => XS.lconst X91.here hx rfl (hb hby at_136) kk_) ?_
      show Goes p e below _ (T91.setTop (mkF m 137 (own_lw x0 x1 x2 x3 x4 x5 bp x_ dg mk w_ ya yb yc dd b1 b5) [(.long (0 : Int64)), (.ref b1), (.ref b91), (.ref b91), (.ref b5)]))
      refine Goes.via (fun _ kk_ => XS.lload X91.here hx rfl (hb hby at_137) rfl  kk_) ?_
      show Goes p e below _ (T91.setTop (mkF m 139 (own_lw x0 x1 x2 x3 x4 x5 bp x_ dg mk w_ ya yb yc dd b1 b5) [(.long yb), (.long (0 : Int64)), (.ref b1), (.ref b91), (.ref b91), (.ref b5)]))
      have f103 := (f86.ext E91)
      have f104 := (f87.ext E91)
      have f105 := (f88.ext E91)
      have z107 : h0.size ≤ (h91).size := (Nat.le_trans z90 E91.1)
      obtain ⟨_, _, ⟨T106, L106, k106, n106⟩, -, X106, ⟨Lc106, hQ106, l106, y106, z106⟩, st106⟩ := X91.specialBack hx (y := mN_Id_init) rfl hown (mvT hZ (own_w hw 30 rfl)) (mvT hZ (own_w hw 31 rfl)) (mvT hZ (own_w hw 32 rfl)) (by decide) (backOf (W := 2) (rm5 l Z a0 hw [] b91 b1 yb x_ dg bp h91 n0 (Nat.le_trans Z0 z107) A91 F_space_b91 F_high_b91 F_low_b91 gn_b91 f103 f104 f105 (by first | assumption | rfl | decide | omega | (simp; done)) (by first | assumption | rfl | decide | omega | (simp; done)) (by first | assumption | rfl | decide | omega | (simp; done)) (by first | assumption | rfl | decide | omega | (simp; done))) hZ (own_w hw 32 rfl) (own_w hw 29 rfl) (by decide) (by decide)) (g := (mkF m 139 (own_lw x0 x1 x2 x3 x4 x5 bp x_ dg mk w_ ya yb yc dd b1 b5) [(.long yb), (.long (0 : Int64)), (.ref b1), (.ref b91), (.ref b91), (.ref b5)])) rfl (by rw [hml]; rfl) (Steps.refl _) (a := b91) (argsL := [(.ref b1), (.long (0 : Int64)), (.long yb)]) (rest := [(.ref b91), (.ref b5)]) (lenOf pd_17 rfl) rfl (by show 2 * 0 + _ ≤ _; exact Nat.le_of_eq rfl) (hb hby at_139) (fun _ _ => ⟨rfl, e91, (by decide : 7 + 0 ≤ _), (by decide : 26 + 0 ≤ _)⟩)
      dsimp only [Pt.U, Pt.locs, Pt.cells, Pt.slots] at X106 l106 y106 z106 st106 hQ106
      replace l106 := l106.symm
      subst l106 y106 z106
      obtain ⟨rfl, N106q, K106, u106_0, u106_1, u106_2, u106_3⟩ := hQ106
      have N106 := Fr.app N75 N106q
      refine Goes.tr st106 ?_
      show Goes p e below _ (T106.setTop (mkF m 142 (own_lw x0 x1 x2 x3 x4 x5 bp x_ dg mk w_ ya yb yc dd b1 b5) [(.ref b91), (.ref b5)]))
      have f108 := ((f77.ext E91).keep K106)
      have f109 := ((f78.ext E91).keep K106 (ninS ne96 nin0))
      have f110 := ((f79.ext E91).keep K106 (ninS ne96 nin0))
      have f111 := ((f80.ext E91).keep K106 (ninS ne96 nin0))
      have f112 := ((f81.ext E91).keep K106 (ninS ne96 nin0))
      have f113 := ((f82.ext E91).keep K106)
      have f114 := ((f83.ext E91).keep K106 (ninS ne97 nin0))
      have f115 := ((f84.ext E91).keep K106 (ninS ne97 nin0))
      have f116 := ((f85.ext E91).keep K106 (ninS ne97 nin0))
      have f117 := (f103.keep K106)
      have f118 := (f104.keep K106 (ninS ne95 nin0))
      have f119 := (f105.keep K106 (ninS ne95 nin0))
      have z121 : h0.size ≤ (T106.heap).size := (Nat.le_trans z107 K106.1)
      obtain ⟨cq120, kq120, q120a, q120b, q120c⟩ := isOf hZ rfl f108
      obtain ⟨_, _, ⟨T120, L120, k120, n120⟩, -, X120, ⟨Lc120, hQ120, l120, y120, z120⟩, st120⟩ := X106.virtualBack hx (y := mN_Block_add) (z := mN_Block_add) hown (mvT hZ (own_w hw 101 rfl)) (mvT hZ (own_w hw 102 rfl)) (notFace_of_selects (args := #[]) (mvT hZ (own_w hw 104 rfl))) (mvT hZ (own_w hw 104 rfl)) (mvT hZ (own_w hw 103 rfl)) (by decide) (backOf (W := 0) (rmAddO l Z a0 hw [] b5 b91 al33 b11 ws33 b1 w_ yb x_ dg bp T106.heap n0 (Nat.le_trans Z0 z121) f108 f109 f110 f111 f112 f113 u106_0 (Ne.symm ne97) f114 f115 f116 u106_1 u106_2 u106_3 f117 f118 f119 (by first | assumption | rfl | decide | omega | (simp; done)) hBo) hZ (own_w hw 105 rfl) (own_w hw 26 rfl) (by decide) (by decide)) q120a q120c (g := (mkF m 142 (own_lw x0 x1 x2 x3 x4 x5 bp x_ dg mk w_ ya yb yc dd b1 b5) [(.ref b91), (.ref b5)])) rfl (by rw [hml]; rfl) (Steps.refl _) (argsL := [(.ref b91)]) (rest := []) (lenOf pd_14 rfl) rfl (by show 2 * 0 + _ ≤ _; exact Nat.le_of_eq rfl) (hb hby at_142) (fun _ _ => ⟨rfl, rfl, (by decide : 7 + 0 ≤ _), (by decide : 26 + 0 ≤ _)⟩)
      dsimp only [Pt.U, Pt.locs, Pt.cells, Pt.slots] at X120 l120 y120 z120 st120 hQ120
      replace l120 := l120.symm
      subst l120 y120 z120
      obtain ⟨rfl, rfl, e120⟩ := hQ120
      first | rw [List.append_nil] at X120 | skip
      refine Goes.tr st120 ?_
      have e120' : T120.heap = T106.heap := e120
      show Goes p e below _ (T120.setTop (mkF m 145 (own_lw x0 x1 x2 x3 x4 x5 bp x_ dg mk w_ ya yb yc dd b1 b5) [(.int (0 : Int32))]))
      refine Goes.via (fun _ kk_ => XS.pop X120.here hx rfl (hb hby at_145) rfl rfl kk_) ?_
      show Goes p e below _ (T120.setTop (mkF m 146 (own_lw x0 x1 x2 x3 x4 x5 bp x_ dg mk w_ ya yb yc dd b1 b5) []))
      by_cases hCo : yc = w_
      · skip
        refine gAL X120 hx hby at_146 rfl rfl ?_
        obtain ⟨T122, h122, X122, e122, E122, A122, D122, -, st122⟩ := newO X120 hx hZ hown (own_w hw 27 rfl) (own_w hw 28 rfl) (own_w hw 29 rfl) e120' (g := (mkF m 148 (own_lw x0 x1 x2 x3 x4 x5 bp x_ dg mk w_ ya yb yc dd b1 b5) [(.ref b5)])) rfl (hb hby at_148) (by first | decide | omega | (dsimp only; omega)) (by first | decide | omega | (dsimp only; omega))
        obtain ⟨b122, g122⟩ : ∃ z, z = (T106.heap).size := ⟨_, rfl⟩
        rw [← g122] at A122 D122 st122
        have K123 : Keep h0 T106.heap [] := ((K92.ext E91).trans K106 (allS (Or.inr sz_b91) all0))
        have lne126 : b1 < b122 := Nat.lt_of_lt_of_le f117.lt (Nat.le_of_eq g122.symm)
        have ne126 : b1 ≠ b122 := Nat.ne_of_lt lne126
        have lne127 : b5 < b122 := Nat.lt_of_lt_of_le f108.lt (Nat.le_of_eq g122.symm)
        have ne127 : b5 ≠ b122 := Nat.ne_of_lt lne127
        have lne128 : b11 < b122 := Nat.lt_of_lt_of_le f113.lt (Nat.le_of_eq g122.symm)
        have ne128 : b11 ≠ b122 := Nat.ne_of_lt lne128
        have f131 := ((f100.ext E91).keep K106 (ninS ne101 nin0))
        have lne132 : ws33 < b122 := Nat.lt_of_lt_of_le f131.lt (Nat.le_of_eq g122.symm)
        have ne132 : ws33 ≠ b122 := Nat.ne_of_lt lne132
        have sz_b122 : h0.size ≤ b122 := Nat.le_trans z121 (Nat.le_of_eq g122.symm)
        have gn_b122 : n0 ≤ b122 := Nat.le_trans Z0 sz_b122
        have F_space_b122 : Fld Z h122 b122 "nearhop/model/Id" "space" "Lnearhop/model/IdSpace;" .null := D122 (Or.inr (own_w hw 35 rfl)) (ty := (.object "nearhop/model/IdSpace")) (by decide)
        have F_high_b122 : Fld Z h122 b122 "nearhop/model/Id" "high" "J" (.long (0 : Int64)) := D122 (Or.inr (own_w hw 50 rfl)) (ty := .long) (by decide)
        have F_low_b122 : Fld Z h122 b122 "nearhop/model/Id" "low" "J" (.long (0 : Int64)) := D122 (Or.inr (own_w hw 55 rfl)) (ty := .long) (by decide)
        refine Goes.via st122 ?_
        show Goes p e below _ (T122.setTop (mkF m 151 (own_lw x0 x1 x2 x3 x4 x5 bp x_ dg mk w_ ya yb yc dd b1 b5) [(.ref b122), (.ref b5)]))
        refine gDU X122 hx hby at_151 rfl ?_
        refine gAL X122 hx hby at_152 rfl rfl ?_
        refine Goes.via (fun _ kk_ => XS.lconst X122.here hx rfl (hb hby at_154) kk_) ?_
        show Goes p e below _ (T122.setTop (mkF m 155 (own_lw x0 x1 x2 x3 x4 x5 bp x_ dg mk w_ ya yb yc dd b1 b5) [(.long (0 : Int64)), (.ref b1), (.ref b122), (.ref b122), (.ref b5)]))
        refine Goes.via (fun _ kk_ => XS.lload X122.here hx rfl (hb hby at_155) rfl  kk_) ?_
        show Goes p e below _ (T122.setTop (mkF m 157 (own_lw x0 x1 x2 x3 x4 x5 bp x_ dg mk w_ ya yb yc dd b1 b5) [(.long yc), (.long (0 : Int64)), (.ref b1), (.ref b122), (.ref b122), (.ref b5)]))
        have f136 := (f117.ext E122)
        have f137 := (f118.ext E122)
        have f138 := (f119.ext E122)
        have z140 : h0.size ≤ (h122).size := (Nat.le_trans z121 E122.1)
        obtain ⟨_, _, ⟨T139, L139, k139, n139⟩, -, X139, ⟨Lc139, hQ139, l139, y139, z139⟩, st139⟩ := X122.specialBack hx (y := mN_Id_init) rfl hown (mvT hZ (own_w hw 30 rfl)) (mvT hZ (own_w hw 31 rfl)) (mvT hZ (own_w hw 32 rfl)) (by decide) (backOf (W := 2) (rm5 l Z a0 hw [] b122 b1 yc x_ dg bp h122 n0 (Nat.le_trans Z0 z140) A122 F_space_b122 F_high_b122 F_low_b122 gn_b122 f136 f137 f138 (by first | assumption | rfl | decide | omega | (simp; done)) (by first | assumption | rfl | decide | omega | (simp; done)) (by first | assumption | rfl | decide | omega | (simp; done)) (by first | assumption | rfl | decide | omega | (simp; done))) hZ (own_w hw 32 rfl) (own_w hw 29 rfl) (by decide) (by decide)) (g := (mkF m 157 (own_lw x0 x1 x2 x3 x4 x5 bp x_ dg mk w_ ya yb yc dd b1 b5) [(.long yc), (.long (0 : Int64)), (.ref b1), (.ref b122), (.ref b122), (.ref b5)])) rfl (by rw [hml]; rfl) (Steps.refl _) (a := b122) (argsL := [(.ref b1), (.long (0 : Int64)), (.long yc)]) (rest := [(.ref b122), (.ref b5)]) (lenOf pd_17 rfl) rfl (by show 2 * 0 + _ ≤ _; exact Nat.le_of_eq rfl) (hb hby at_157) (fun _ _ => ⟨rfl, e122, (by decide : 8 + 0 ≤ _), (by decide : 29 + 0 ≤ _)⟩)
        dsimp only [Pt.U, Pt.locs, Pt.cells, Pt.slots] at X139 l139 y139 z139 st139 hQ139
        replace l139 := l139.symm
        subst l139 y139 z139
        obtain ⟨rfl, N139q, K139, u139_0, u139_1, u139_2, u139_3⟩ := hQ139
        have N139 := Fr.app N106 N139q
        refine Goes.tr st139 ?_
        show Goes p e below _ (T139.setTop (mkF m 160 (own_lw x0 x1 x2 x3 x4 x5 bp x_ dg mk w_ ya yb yc dd b1 b5) [(.ref b122), (.ref b5)]))
        have f141 := ((f108.ext E122).keep K139)
        have f142 := ((f109.ext E122).keep K139 (ninS ne127 nin0))
        have f143 := ((f110.ext E122).keep K139 (ninS ne127 nin0))
        have f144 := ((f111.ext E122).keep K139 (ninS ne127 nin0))
        have f145 := ((f112.ext E122).keep K139 (ninS ne127 nin0))
        have f146 := ((f113.ext E122).keep K139)
        have f147 := ((f114.ext E122).keep K139 (ninS ne128 nin0))
        have f148 := ((f115.ext E122).keep K139 (ninS ne128 nin0))
        have f149 := ((f116.ext E122).keep K139 (ninS ne128 nin0))
        have f150 := (f136.keep K139)
        have f151 := (f137.keep K139 (ninS ne126 nin0))
        have f152 := (f138.keep K139 (ninS ne126 nin0))
        have z154 : h0.size ≤ (T139.heap).size := (Nat.le_trans z140 K139.1)
        obtain ⟨cq153, kq153, q153a, q153b, q153c⟩ := isOf hZ rfl f141
        obtain ⟨_, _, ⟨T153, L153, k153, n153⟩, -, X153, ⟨Lc153, hQ153, l153, y153, z153⟩, st153⟩ := X139.virtualBack hx (y := mN_Block_add) (z := mN_Block_add) hown (mvT hZ (own_w hw 101 rfl)) (mvT hZ (own_w hw 102 rfl)) (notFace_of_selects (args := #[]) (mvT hZ (own_w hw 104 rfl))) (mvT hZ (own_w hw 104 rfl)) (mvT hZ (own_w hw 103 rfl)) (by decide) (backOf (W := 0) (rmAddO l Z a0 hw [] b5 b122 al33 b11 ws33 b1 w_ yc x_ dg bp T139.heap n0 (Nat.le_trans Z0 z154) f141 f142 f143 f144 f145 f146 u139_0 (Ne.symm ne128) f147 f148 f149 u139_1 u139_2 u139_3 f150 f151 f152 (by first | assumption | rfl | decide | omega | (simp; done)) hCo) hZ (own_w hw 105 rfl) (own_w hw 26 rfl) (by decide) (by decide)) q153a q153c (g := (mkF m 160 (own_lw x0 x1 x2 x3 x4 x5 bp x_ dg mk w_ ya yb yc dd b1 b5) [(.ref b122), (.ref b5)])) rfl (by rw [hml]; rfl) (Steps.refl _) (argsL := [(.ref b122)]) (rest := []) (lenOf pd_14 rfl) rfl (by show 2 * 0 + _ ≤ _; exact Nat.le_of_eq rfl) (hb hby at_160) (fun _ _ => ⟨rfl, rfl, (by decide : 8 + 0 ≤ _), (by decide : 29 + 0 ≤ _)⟩)
        dsimp only [Pt.U, Pt.locs, Pt.cells, Pt.slots] at X153 l153 y153 z153 st153 hQ153
        replace l153 := l153.symm
        subst l153 y153 z153
        obtain ⟨rfl, rfl, e153⟩ := hQ153
        first | rw [List.append_nil] at X153 | skip
        refine Goes.tr st153 ?_
        have e153' : T153.heap = T139.heap := e153
        show Goes p e below _ (T153.setTop (mkF m 163 (own_lw x0 x1 x2 x3 x4 x5 bp x_ dg mk w_ ya yb yc dd b1 b5) [(.int (0 : Int32))]))
        refine Goes.via (fun _ kk_ => XS.pop X153.here hx rfl (hb hby at_163) rfl rfl kk_) ?_
        show Goes p e below _ (T153.setTop (mkF m 164 (own_lw x0 x1 x2 x3 x4 x5 bp x_ dg mk w_ ya yb yc dd b1 b5) []))
        have K155 : Keep h0 T139.heap [] := ((K123.ext E122).trans K139 (allS (Or.inr sz_b122) all0))
        have f156 := ((f131.ext E122).keep K139 (ninS ne132 nin0))
        have hEq := e153'
        rw [← hEq] at K155 f141 f144 f156
        exact J164 _ [] [] [] _ _ (X153.more (by decide) (by decide)) N139 K155 f141 f144 f156 hcn0 ((if_pos hA).symm) ((if_pos (Or.inl hBo)).symm) ((if_pos (Or.inl hCo)).symm)
      · skip
        refine gAL X120 hx hby at_146 rfl rfl ?_
        obtain ⟨T157, h157, X157, e157, E157, A157, D157, -, st157⟩ := newO X120 hx hZ hown (own_w hw 27 rfl) (own_w hw 28 rfl) (own_w hw 29 rfl) e120' (g := (mkF m 148 (own_lw x0 x1 x2 x3 x4 x5 bp x_ dg mk w_ ya yb yc dd b1 b5) [(.ref b5)])) rfl (hb hby at_148) (by first | decide | omega | (dsimp only; omega)) (by first | decide | omega | (dsimp only; omega))
        obtain ⟨b157, g157⟩ : ∃ z, z = (T106.heap).size := ⟨_, rfl⟩
        rw [← g157] at A157 D157 st157
        have K158 : Keep h0 T106.heap [] := ((K92.ext E91).trans K106 (allS (Or.inr sz_b91) all0))
        have lne161 : b1 < b157 := Nat.lt_of_lt_of_le f117.lt (Nat.le_of_eq g157.symm)
        have ne161 : b1 ≠ b157 := Nat.ne_of_lt lne161
        have lne162 : b5 < b157 := Nat.lt_of_lt_of_le f108.lt (Nat.le_of_eq g157.symm)
        have ne162 : b5 ≠ b157 := Nat.ne_of_lt lne162
        have lne163 : b11 < b157 := Nat.lt_of_lt_of_le f113.lt (Nat.le_of_eq g157.symm)
        have ne163 : b11 ≠ b157 := Nat.ne_of_lt lne163
        have f164 := ((f98.ext E91).keep K106)
        have lne165 : al33 < b157 := Nat.lt_of_lt_of_le f164.lt (Nat.le_of_eq g157.symm)
        have ne165 : al33 ≠ b157 := Nat.ne_of_lt lne165
        have f166 := ((f100.ext E91).keep K106 (ninS ne101 nin0))
        have lne167 : ws33 < b157 := Nat.lt_of_lt_of_le f166.lt (Nat.le_of_eq g157.symm)
        have ne167 : ws33 ≠ b157 := Nat.ne_of_lt lne167
        have sz_b157 : h0.size ≤ b157 := Nat.le_trans z121 (Nat.le_of_eq g157.symm)
        have gn_b157 : n0 ≤ b157 := Nat.le_trans Z0 sz_b157
        have F_space_b157 : Fld Z h157 b157 "nearhop/model/Id" "space" "Lnearhop/model/IdSpace;" .null := D157 (Or.inr (own_w hw 35 rfl)) (ty := (.object "nearhop/model/IdSpace")) (by decide)
        have F_high_b157 : Fld Z h157 b157 "nearhop/model/Id" "high" "J" (.long (0 : Int64)) := D157 (Or.inr (own_w hw 50 rfl)) (ty := .long) (by decide)
        have F_low_b157 : Fld Z h157 b157 "nearhop/model/Id" "low" "J" (.long (0 : Int64)) := D157 (Or.inr (own_w hw 55 rfl)) (ty := .long) (by decide)
        refine Goes.via st157 ?_
        show Goes p e below _ (T157.setTop (mkF m 151 (own_lw x0 x1 x2 x3 x4 x5 bp x_ dg mk w_ ya yb yc dd b1 b5) [(.ref b157), (.ref b5)]))
        refine gDU X157 hx hby at_151 rfl ?_
        refine gAL X157 hx hby at_152 rfl rfl ?_
        refine Goes.via (fun _ kk_ => XS.lconst X157.here hx rfl (hb hby at_154) kk_) ?_
        show Goes p e below _ (T157.setTop (mkF m 155 (own_lw x0 x1 x2 x3 x4 x5 bp x_ dg mk w_ ya yb yc dd b1 b5) [(.long (0 : Int64)), (.ref b1), (.ref b157), (.ref b157), (.ref b5)]))
        refine Goes.via (fun _ kk_ => XS.lload X157.here hx rfl (hb hby at_155) rfl  kk_) ?_
        show Goes p e below _ (T157.setTop (mkF m 157 (own_lw x0 x1 x2 x3 x4 x5 bp x_ dg mk w_ ya yb yc dd b1 b5) [(.long yc), (.long (0 : Int64)), (.ref b1), (.ref b157), (.ref b157), (.ref b5)]))
        have f171 := (f117.ext E157)
        have f172 := (f118.ext E157)
        have f173 := (f119.ext E157)
        have z175 : h0.size ≤ (h157).size := (Nat.le_trans z121 E157.1)
        obtain ⟨_, _, ⟨T174, L174, k174, n174⟩, -, X174, ⟨Lc174, hQ174, l174, y174, z174⟩, st174⟩ := X157.specialBack hx (y := mN_Id_init) rfl hown (mvT hZ (own_w hw 30 rfl)) (mvT hZ (own_w hw 31 rfl)) (mvT hZ (own_w hw 32 rfl)) (by decide) (backOf (W := 2) (rm5 l Z a0 hw [] b157 b1 yc x_ dg bp h157 n0 (Nat.le_trans Z0 z175) A157 F_space_b157 F_high_b157 F_low_b157 gn_b157 f171 f172 f173 (by first | assumption | rfl | decide | omega | (simp; done)) (by first | assumption | rfl | decide | omega | (simp; done)) (by first | assumption | rfl | decide | omega | (simp; done)) (by first | assumption | rfl | decide | omega | (simp; done))) hZ (own_w hw 32 rfl) (own_w hw 29 rfl) (by decide) (by decide)) (g := (mkF m 157 (own_lw x0 x1 x2 x3 x4 x5 bp x_ dg mk w_ ya yb yc dd b1 b5) [(.long yc), (.long (0 : Int64)), (.ref b1), (.ref b157), (.ref b157), (.ref b5)])) rfl (by rw [hml]; rfl) (Steps.refl _) (a := b157) (argsL := [(.ref b1), (.long (0 : Int64)), (.long yc)]) (rest := [(.ref b157), (.ref b5)]) (lenOf pd_17 rfl) rfl (by show 2 * 0 + _ ≤ _; exact Nat.le_of_eq rfl) (hb hby at_157) (fun _ _ => ⟨rfl, e157, (by decide : 8 + 0 ≤ _), (by decide : 29 + 0 ≤ _)⟩)
        dsimp only [Pt.U, Pt.locs, Pt.cells, Pt.slots] at X174 l174 y174 z174 st174 hQ174
        replace l174 := l174.symm
        subst l174 y174 z174
        obtain ⟨rfl, N174q, K174, u174_0, u174_1, u174_2, u174_3⟩ := hQ174
        have N174 := Fr.app N106 N174q
        refine Goes.tr st174 ?_
        show Goes p e below _ (T174.setTop (mkF m 160 (own_lw x0 x1 x2 x3 x4 x5 bp x_ dg mk w_ ya yb yc dd b1 b5) [(.ref b157), (.ref b5)]))
        have hpC' := hpC hCo
        have f176 := ((f108.ext E157).keep K174)
        have f177 := ((f109.ext E157).keep K174 (ninS ne162 nin0))
        have f178 := ((f110.ext E157).keep K174 (ninS ne162 nin0))
        have f179 := ((f111.ext E157).keep K174 (ninS ne162 nin0))
        have f180 := ((f112.ext E157).keep K174 (ninS ne162 nin0))
        have f181 := ((f113.ext E157).keep K174)
        have f182 := ((f114.ext E157).keep K174 (ninS ne163 nin0))
        have f183 := ((f115.ext E157).keep K174 (ninS ne163 nin0))
        have f184 := ((f116.ext E157).keep K174 (ninS ne163 nin0))
        have f185 := (f171.keep K174)
        have f186 := (f172.keep K174 (ninS ne161 nin0))
        have f187 := (f173.keep K174 (ninS ne161 nin0))
        have f188 := ((f164.ext E157).keep K174)
        have f189 := ((((((u33_7.ext E60).keep K75 (ninS ne69 nin0)).ext E91).keep K106 (ninS ne99 nin0)).ext E157).keep K174 (ninS ne165 nin0))
        have f190 := ((((((u33_8.ext E60).keep K75 (ninS ne69 nin0)).ext E91).keep K106 (ninS ne99 nin0)).ext E157).keep K174 (ninS ne165 nin0))
        have f191 := ((((((u33_9.ext E60).keep K75 (ninS ne69 nin0)).ext E91).keep K106 (ninS ne99 nin0)).ext E157).keep K174 (ninS ne165 nin0))
        have f192 := ((f166.ext E157).keep K174 (ninS ne167 nin0))
        have K193 : Keep h0 T174.heap [] := ((K158.ext E157).trans K174 (allS (Or.inr sz_b157) all0))
        have f194 : Arw Z T174.heap ed kE (.object "java/lang/Object") 0 fE := OA.keep K193 nin0
        have f195 : Sta Z T174.heap "java/util/ArrayList" "DEFAULTCAPACITY_EMPTY_ELEMENTDATA" "[Ljava/lang/Object;" (.ref ed) := own_sta_keep OE K193
        have z197 : h0.size ≤ (T174.heap).size := (Nat.le_trans z175 K174.1)
        obtain ⟨cq196, kq196, q196a, q196b, q196c⟩ := isOf hZ rfl f176
        obtain ⟨_, _, ⟨T196, L196, k196, n196⟩, -, X196, ⟨Lc196, hQ196, l196, y196, z196⟩, st196⟩ := X174.virtualBack hx (y := mN_Block_add) (z := mN_Block_add) hown (mvT hZ (own_w hw 101 rfl)) (mvT hZ (own_w hw 102 rfl)) (notFace_of_selects (args := #[]) (mvT hZ (own_w hw 104 rfl))) (mvT hZ (own_w hw 104 rfl)) (mvT hZ (own_w hw 103 rfl)) (by decide) (backOf (W := 0) (rmAddY0 l Z a0 hw [] b5 b157 al33 b11 ws33 b1 w_ yc x_ dg bp kw33 nd (fun _ => (.int 0)) pC (own_cnt [] pC) (0 : Int32) ed kE fE T174.heap n0 (Nat.le_trans Z0 z197) f176 f177 f178 f179 f180 f181 u174_0 (Ne.symm ne163) f182 f183 f184 u174_1 u174_2 u174_3 f185 f186 f187 (by first | assumption | rfl | decide | omega | (simp; done)) f188 f189 f190 f191 hCo f192 (hcn0 pC) hpC'.1 hpC'.2.1 gn_al33 gn_ws33 hpC'.2.2.1 ne44 f194 f195) hZ (own_w hw 105 rfl) (own_w hw 26 rfl) (by decide) (by decide)) q196a q196c (g := (mkF m 160 (own_lw x0 x1 x2 x3 x4 x5 bp x_ dg mk w_ ya yb yc dd b1 b5) [(.ref b157), (.ref b5)])) rfl (by rw [hml]; rfl) (Steps.refl _) (argsL := [(.ref b157)]) (rest := []) (lenOf pd_14 rfl) rfl (by show 2 * 0 + _ ≤ _; exact Nat.le_of_eq rfl) (hb hby at_160) (fun _ _ => ⟨rfl, rfl, (by decide : 8 + 1 ≤ _), (by decide : 29 + 10 ≤ _)⟩)
        dsimp only [Pt.U, Pt.locs, Pt.cells, Pt.slots] at X196 l196 y196 z196 st196 hQ196
        replace l196 := l196.symm
        subst l196 y196 z196
        obtain ⟨nb196, kb196, rfl, N196q, K196, u196_0, u196_1, u196_2, u196_3, u196_4, u196_5, u196_6, u196_7⟩ := hQ196
        have N196 := Fr.app N174 N196q
        refine Goes.tr st196 ?_
        show Goes p e below _ (T196.setTop (mkF m 163 (own_lw x0 x1 x2 x3 x4 x5 bp x_ dg mk w_ ya yb yc dd b1 b5) [(.int (1 : Int32))]))
        have hcn209 : ∀ i, (own_upd (fun _ => (.int 0)) pC (.int ((own_cnt [] pC) + (1 : Int32)))) i = .int (own_cnt (pC :: []) i) := own_upV hcn0
        refine Goes.via (fun _ kk_ => XS.pop X196.here hx rfl (hb hby at_163) rfl rfl kk_) ?_
        show Goes p e below _ (T196.setTop (mkF m 164 (own_lw x0 x1 x2 x3 x4 x5 bp x_ dg mk w_ ya yb yc dd b1 b5) []))
        have K210 : Keep h0 T196.heap [] := (K193.trans K196 (allS (Or.inr sz_al33) (allS (Or.inr sz_ws33) all0)))
        have f211 := (f176.keep K196)
        have f212 := (f179.keep K196 (ninS ne42 (ninS ne43 nin0)))
        exact J164 _ [] [] (pC :: []) _ _ (X196.more (by decide) (by decide)) N196 K210 f211 f212 u196_7 hcn209 ((if_pos hA).symm) ((if_pos (Or.inl hBo)).symm) ((if_neg (fun z => z.elim hCo (fun z => z.elim (fun z => hCo (z.trans hA)) (fun z => hCo (z.trans hBo))))).symm)
    · skip
      refine gAL X89 hx hby at_128 rfl rfl ?_
      obtain ⟨T213, h213, X213, e213, E213, A213, D213, -, st213⟩ := newO X89 hx hZ hown (own_w hw 27 rfl) (own_w hw 28 rfl) (own_w hw 29 rfl) e89' (g := (mkF m 130 (own_lw x0 x1 x2 x3 x4 x5 bp x_ dg mk w_ ya yb yc dd b1 b5) [(.ref b5)])) rfl (hb hby at_130) (by first | decide | omega | (dsimp only; omega)) (by first | decide | omega | (dsimp only; omega))
      obtain ⟨b213, g213⟩ : ∃ z, z = (T75.heap).size := ⟨_, rfl⟩
      rw [← g213] at A213 D213 st213
      have K214 : Keep h0 T75.heap [] := ((K61.ext E60).trans K75 (allS (Or.inr sz_b60) all0))
      have lne217 : b1 < b213 := Nat.lt_of_lt_of_le f86.lt (Nat.le_of_eq g213.symm)
      have ne217 : b1 ≠ b213 := Nat.ne_of_lt lne217
      have lne218 : b5 < b213 := Nat.lt_of_lt_of_le f77.lt (Nat.le_of_eq g213.symm)
      have ne218 : b5 ≠ b213 := Nat.ne_of_lt lne218
      have lne219 : b11 < b213 := Nat.lt_of_lt_of_le f82.lt (Nat.le_of_eq g213.symm)
      have ne219 : b11 ≠ b213 := Nat.ne_of_lt lne219
      have f220 := ((u33_6.ext E60).keep K75)
      have lne221 : al33 < b213 := Nat.lt_of_lt_of_le f220.lt (Nat.le_of_eq g213.symm)
      have ne221 : al33 ≠ b213 := Nat.ne_of_lt lne221
      have f222 := ((u33_11.ext E60).keep K75 (ninS ne70 nin0))
      have lne223 : ws33 < b213 := Nat.lt_of_lt_of_le f222.lt (Nat.le_of_eq g213.symm)
      have ne223 : ws33 ≠ b213 := Nat.ne_of_lt lne223
      have sz_b213 : h0.size ≤ b213 := Nat.le_trans z90 (Nat.le_of_eq g213.symm)
      have gn_b213 : n0 ≤ b213 := Nat.le_trans Z0 sz_b213
      have F_space_b213 : Fld Z h213 b213 "nearhop/model/Id" "space" "Lnearhop/model/IdSpace;" .null := D213 (Or.inr (own_w hw 35 rfl)) (ty := (.object "nearhop/model/IdSpace")) (by decide)
      have F_high_b213 : Fld Z h213 b213 "nearhop/model/Id" "high" "J" (.long (0 : Int64)) := D213 (Or.inr (own_w hw 50 rfl)) (ty := .long) (by decide)
      have F_low_b213 : Fld Z h213 b213 "nearhop/model/Id" "low" "J" (.long (0 : Int64)) := D213 (Or.inr (own_w hw 55 rfl)) (ty := .long) (by decide)
      refine Goes.via st213 ?_
      show Goes p e below _ (T213.setTop (mkF m 133 (own_lw x0 x1 x2 x3 x4 x5 bp x_ dg mk w_ ya yb yc dd b1 b5) [(.ref b213), (.ref b5)]))
      refine gDU X213 hx hby at_133 rfl ?_
      refine gAL X213 hx hby at_134 rfl rfl ?_
      refine Goes.via (fun _ kk_ => XS.lconst X213.here hx rfl (hb hby at_136) kk_) ?_
      show Goes p e below _ (T213.setTop (mkF m 137 (own_lw x0 x1 x2 x3 x4 x5 bp x_ dg mk w_ ya yb yc dd b1 b5) [(.long (0 : Int64)), (.ref b1), (.ref b213), (.ref b213), (.ref b5)]))
      refine Goes.via (fun _ kk_ => XS.lload X213.here hx rfl (hb hby at_137) rfl  kk_) ?_
      show Goes p e below _ (T213.setTop (mkF m 139 (own_lw x0 x1 x2 x3 x4 x5 bp x_ dg mk w_ ya yb yc dd b1 b5) [(.long yb), (.long (0 : Int64)), (.ref b1), (.ref b213), (.ref b213), (.ref b5)]))
      have f225 := (f86.ext E213)
      have f226 := (f87.ext E213)
      have f227 := (f88.ext E213)
      have z229 : h0.size ≤ (h213).size := (Nat.le_trans z90 E213.1)
      obtain ⟨_, _, ⟨T228, L228, k228, n228⟩, -, X228, ⟨Lc228, hQ228, l228, y228, z228⟩, st228⟩ := X213.specialBack hx (y := mN_Id_init) rfl hown (mvT hZ (own_w hw 30 rfl)) (mvT hZ (own_w hw 31 rfl)) (mvT hZ (own_w hw 32 rfl)) (by decide) (backOf (W := 2) (rm5 l Z a0 hw [] b213 b1 yb x_ dg bp h213 n0 (Nat.le_trans Z0 z229) A213 F_space_b213 F_high_b213 F_low_b213 gn_b213 f225 f226 f227 (by first | assumption | rfl | decide | omega | (simp; done)) (by first | assumption | rfl | decide | omega | (simp; done)) (by first | assumption | rfl | decide | omega | (simp; done)) (by first | assumption | rfl | decide | omega | (simp; done))) hZ (own_w hw 32 rfl) (own_w hw 29 rfl) (by decide) (by decide)) (g := (mkF m 139 (own_lw x0 x1 x2 x3 x4 x5 bp x_ dg mk w_ ya yb yc dd b1 b5) [(.long yb), (.long (0 : Int64)), (.ref b1), (.ref b213), (.ref b213), (.ref b5)])) rfl (by rw [hml]; rfl) (Steps.refl _) (a := b213) (argsL := [(.ref b1), (.long (0 : Int64)), (.long yb)]) (rest := [(.ref b213), (.ref b5)]) (lenOf pd_17 rfl) rfl (by show 2 * 0 + _ ≤ _; exact Nat.le_of_eq rfl) (hb hby at_139) (fun _ _ => ⟨rfl, e213, (by decide : 7 + 0 ≤ _), (by decide : 26 + 0 ≤ _)⟩)
      dsimp only [Pt.U, Pt.locs, Pt.cells, Pt.slots] at X228 l228 y228 z228 st228 hQ228
      replace l228 := l228.symm
      subst l228 y228 z228
      obtain ⟨rfl, N228q, K228, u228_0, u228_1, u228_2, u228_3⟩ := hQ228
      have N228 := Fr.app N75 N228q
      refine Goes.tr st228 ?_
      show Goes p e below _ (T228.setTop (mkF m 142 (own_lw x0 x1 x2 x3 x4 x5 bp x_ dg mk w_ ya yb yc dd b1 b5) [(.ref b213), (.ref b5)]))
      have hpB' := hpB hBo
      have f230 := ((f77.ext E213).keep K228)
      have f231 := ((f78.ext E213).keep K228 (ninS ne218 nin0))
      have f232 := ((f79.ext E213).keep K228 (ninS ne218 nin0))
      have f233 := ((f80.ext E213).keep K228 (ninS ne218 nin0))
      have f234 := ((f81.ext E213).keep K228 (ninS ne218 nin0))
      have f235 := ((f82.ext E213).keep K228)
      have f236 := ((f83.ext E213).keep K228 (ninS ne219 nin0))
      have f237 := ((f84.ext E213).keep K228 (ninS ne219 nin0))
      have f238 := ((f85.ext E213).keep K228 (ninS ne219 nin0))
      have f239 := (f225.keep K228)
      have f240 := (f226.keep K228 (ninS ne217 nin0))
      have f241 := (f227.keep K228 (ninS ne217 nin0))
      have f242 := ((f220.ext E213).keep K228)
      have f243 := ((((u33_7.ext E60).keep K75 (ninS ne69 nin0)).ext E213).keep K228 (ninS ne221 nin0))
      have f244 := ((((u33_8.ext E60).keep K75 (ninS ne69 nin0)).ext E213).keep K228 (ninS ne221 nin0))
      have f245 := ((((u33_9.ext E60).keep K75 (ninS ne69 nin0)).ext E213).keep K228 (ninS ne221 nin0))
      have f246 := ((f222.ext E213).keep K228 (ninS ne223 nin0))
      have K247 : Keep h0 T228.heap [] := ((K214.ext E213).trans K228 (allS (Or.inr sz_b213) all0))
      have f248 : Arw Z T228.heap ed kE (.object "java/lang/Object") 0 fE := OA.keep K247 nin0
      have f249 : Sta Z T228.heap "java/util/ArrayList" "DEFAULTCAPACITY_EMPTY_ELEMENTDATA" "[Ljava/lang/Object;" (.ref ed) := own_sta_keep OE K247
      have z251 : h0.size ≤ (T228.heap).size := (Nat.le_trans z229 K228.1)
      obtain ⟨cq250, kq250, q250a, q250b, q250c⟩ := isOf hZ rfl f230
      obtain ⟨_, _, ⟨T250, L250, k250, n250⟩, -, X250, ⟨Lc250, hQ250, l250, y250, z250⟩, st250⟩ := X228.virtualBack hx (y := mN_Block_add) (z := mN_Block_add) hown (mvT hZ (own_w hw 101 rfl)) (mvT hZ (own_w hw 102 rfl)) (notFace_of_selects (args := #[]) (mvT hZ (own_w hw 104 rfl))) (mvT hZ (own_w hw 104 rfl)) (mvT hZ (own_w hw 103 rfl)) (by decide) (backOf (W := 0) (rmAddY0 l Z a0 hw [] b5 b213 al33 b11 ws33 b1 w_ yb x_ dg bp kw33 nd (fun _ => (.int 0)) pB (own_cnt [] pB) (0 : Int32) ed kE fE T228.heap n0 (Nat.le_trans Z0 z251) f230 f231 f232 f233 f234 f235 u228_0 (Ne.symm ne219) f236 f237 f238 u228_1 u228_2 u228_3 f239 f240 f241 (by first | assumption | rfl | decide | omega | (simp; done)) f242 f243 f244 f245 hBo f246 (hcn0 pB) hpB'.1 hpB'.2.1 gn_al33 gn_ws33 hpB'.2.2.1 ne44 f248 f249) hZ (own_w hw 105 rfl) (own_w hw 26 rfl) (by decide) (by decide)) q250a q250c (g := (mkF m 142 (own_lw x0 x1 x2 x3 x4 x5 bp x_ dg mk w_ ya yb yc dd b1 b5) [(.ref b213), (.ref b5)])) rfl (by rw [hml]; rfl) (Steps.refl _) (argsL := [(.ref b213)]) (rest := []) (lenOf pd_14 rfl) rfl (by show 2 * 0 + _ ≤ _; exact Nat.le_of_eq rfl) (hb hby at_142) (fun _ _ => ⟨rfl, rfl, (by decide : 7 + 1 ≤ _), (by decide : 26 + 10 ≤ _)⟩)
      dsimp only [Pt.U, Pt.locs, Pt.cells, Pt.slots] at X250 l250 y250 z250 st250 hQ250
      replace l250 := l250.symm
      subst l250 y250 z250
      obtain ⟨nb250, kb250, rfl, N250q, K250, u250_0, u250_1, u250_2, u250_3, u250_4, u250_5, u250_6, u250_7⟩ := hQ250
      have N250 := Fr.app N228 N250q
      refine Goes.tr st250 ?_
      have ne254 : b5 ≠ nb250 := Nat.ne_of_lt (Nat.lt_of_lt_of_le f230.lt u250_4)
      have ne256 : ws33 ≠ nb250 := Nat.ne_of_lt (Nat.lt_of_lt_of_le f246.lt u250_4)
      have sz_nb250 : h0.size ≤ nb250 := Nat.le_trans z251 u250_4
      have gn_nb250 : n0 ≤ nb250 := Nat.le_trans Z0 sz_nb250
      have ne260 : al33 ≠ nb250 := own_ne_arr u250_0 (own_w hw 61 rfl) u250_5
      show Goes p e below _ (T250.setTop (mkF m 145 (own_lw x0 x1 x2 x3 x4 x5 bp x_ dg mk w_ ya yb yc dd b1 b5) [(.int (1 : Int32))]))
      have hcn261 : ∀ i, (own_upd (fun _ => (.int 0)) pB (.int ((own_cnt [] pB) + (1 : Int32)))) i = .int (own_cnt (pB :: []) i) := own_upV hcn0
      refine Goes.via (fun _ kk_ => XS.pop X250.here hx rfl (hb hby at_145) rfl rfl kk_) ?_
      show Goes p e below _ (T250.setTop (mkF m 146 (own_lw x0 x1 x2 x3 x4 x5 bp x_ dg mk w_ ya yb yc dd b1 b5) []))
      by_cases hCo : yc = w_
      · skip
        refine gAL X250 hx hby at_146 rfl rfl ?_
        obtain ⟨T262, h262, X262, e262, E262, A262, D262, -, st262⟩ := newO X250 hx hZ hown (own_w hw 27 rfl) (own_w hw 28 rfl) (own_w hw 29 rfl) rfl (g := (mkF m 148 (own_lw x0 x1 x2 x3 x4 x5 bp x_ dg mk w_ ya yb yc dd b1 b5) [(.ref b5)])) rfl (hb hby at_148) (by first | decide | omega | (dsimp only; omega)) (by first | decide | omega | (dsimp only; omega))
        obtain ⟨b262, g262⟩ : ∃ z, z = (T250.heap).size := ⟨_, rfl⟩
        rw [← g262] at A262 D262 st262
        have K263 : Keep h0 T250.heap [] := (K247.trans K250 (allS (Or.inr sz_al33) (allS (Or.inr sz_ws33) all0)))
        have f266 := (f239.keep K250)
        have lne267 : b1 < b262 := Nat.lt_of_lt_of_le f266.lt (Nat.le_of_eq g262.symm)
        have ne267 : b1 ≠ b262 := Nat.ne_of_lt lne267
        have f268 := (f230.keep K250)
        have lne269 : b5 < b262 := Nat.lt_of_lt_of_le f268.lt (Nat.le_of_eq g262.symm)
        have ne269 : b5 ≠ b262 := Nat.ne_of_lt lne269
        have f270 := (f235.keep K250)
        have lne271 : b11 < b262 := Nat.lt_of_lt_of_le f270.lt (Nat.le_of_eq g262.symm)
        have ne271 : b11 ≠ b262 := Nat.ne_of_lt lne271
        have lne273 : ws33 < b262 := Nat.lt_of_lt_of_le u250_7.lt (Nat.le_of_eq g262.symm)
        have ne273 : ws33 ≠ b262 := Nat.ne_of_lt lne273
        have z279 : h0.size ≤ (T250.heap).size := (Nat.le_trans z251 K250.1)
        have sz_b262 : h0.size ≤ b262 := Nat.le_trans z279 (Nat.le_of_eq g262.symm)
        have gn_b262 : n0 ≤ b262 := Nat.le_trans Z0 sz_b262
        have F_space_b262 : Fld Z h262 b262 "nearhop/model/Id" "space" "Lnearhop/model/IdSpace;" .null := D262 (Or.inr (own_w hw 35 rfl)) (ty := (.object "nearhop/model/IdSpace")) (by decide)
        have F_high_b262 : Fld Z h262 b262 "nearhop/model/Id" "high" "J" (.long (0 : Int64)) := D262 (Or.inr (own_w hw 50 rfl)) (ty := .long) (by decide)
        have F_low_b262 : Fld Z h262 b262 "nearhop/model/Id" "low" "J" (.long (0 : Int64)) := D262 (Or.inr (own_w hw 55 rfl)) (ty := .long) (by decide)
        refine Goes.via st262 ?_
        show Goes p e below _ (T262.setTop (mkF m 151 (own_lw x0 x1 x2 x3 x4 x5 bp x_ dg mk w_ ya yb yc dd b1 b5) [(.ref b262), (.ref b5)]))
        refine gDU X262 hx hby at_151 rfl ?_
        refine gAL X262 hx hby at_152 rfl rfl ?_
        refine Goes.via (fun _ kk_ => XS.lconst X262.here hx rfl (hb hby at_154) kk_) ?_
        show Goes p e below _ (T262.setTop (mkF m 155 (own_lw x0 x1 x2 x3 x4 x5 bp x_ dg mk w_ ya yb yc dd b1 b5) [(.long (0 : Int64)), (.ref b1), (.ref b262), (.ref b262), (.ref b5)]))
        refine Goes.via (fun _ kk_ => XS.lload X262.here hx rfl (hb hby at_155) rfl  kk_) ?_
        show Goes p e below _ (T262.setTop (mkF m 157 (own_lw x0 x1 x2 x3 x4 x5 bp x_ dg mk w_ ya yb yc dd b1 b5) [(.long yc), (.long (0 : Int64)), (.ref b1), (.ref b262), (.ref b262), (.ref b5)]))
        have f280 := (f266.ext E262)
        have f281 := ((f240.keep K250 (ninS ne37 (ninS ne40 nin0))).ext E262)
        have f282 := ((f241.keep K250 (ninS ne37 (ninS ne40 nin0))).ext E262)
        have z284 : h0.size ≤ (h262).size := (Nat.le_trans z279 E262.1)
        obtain ⟨_, _, ⟨T283, L283, k283, n283⟩, -, X283, ⟨Lc283, hQ283, l283, y283, z283⟩, st283⟩ := X262.specialBack hx (y := mN_Id_init) rfl hown (mvT hZ (own_w hw 30 rfl)) (mvT hZ (own_w hw 31 rfl)) (mvT hZ (own_w hw 32 rfl)) (by decide) (backOf (W := 2) (rm5 l Z a0 hw [] b262 b1 yc x_ dg bp h262 n0 (Nat.le_trans Z0 z284) A262 F_space_b262 F_high_b262 F_low_b262 gn_b262 f280 f281 f282 (by first | assumption | rfl | decide | omega | (simp; done)) (by first | assumption | rfl | decide | omega | (simp; done)) (by first | assumption | rfl | decide | omega | (simp; done)) (by first | assumption | rfl | decide | omega | (simp; done))) hZ (own_w hw 32 rfl) (own_w hw 29 rfl) (by decide) (by decide)) (g := (mkF m 157 (own_lw x0 x1 x2 x3 x4 x5 bp x_ dg mk w_ ya yb yc dd b1 b5) [(.long yc), (.long (0 : Int64)), (.ref b1), (.ref b262), (.ref b262), (.ref b5)])) rfl (by rw [hml]; rfl) (Steps.refl _) (a := b262) (argsL := [(.ref b1), (.long (0 : Int64)), (.long yc)]) (rest := [(.ref b262), (.ref b5)]) (lenOf pd_17 rfl) rfl (by show 2 * 0 + _ ≤ _; exact Nat.le_of_eq rfl) (hb hby at_157) (fun _ _ => ⟨rfl, e262, (by decide : 9 + 0 ≤ _), (by decide : 39 + 0 ≤ _)⟩)
        dsimp only [Pt.U, Pt.locs, Pt.cells, Pt.slots] at X283 l283 y283 z283 st283 hQ283
        replace l283 := l283.symm
        subst l283 y283 z283
        obtain ⟨rfl, N283q, K283, u283_0, u283_1, u283_2, u283_3⟩ := hQ283
        have N283 := Fr.app N250 N283q
        refine Goes.tr st283 ?_
        show Goes p e below _ (T283.setTop (mkF m 160 (own_lw x0 x1 x2 x3 x4 x5 bp x_ dg mk w_ ya yb yc dd b1 b5) [(.ref b262), (.ref b5)]))
        have f285 := ((f268.ext E262).keep K283)
        have f286 := (((f231.keep K250 (ninS ne42 (ninS ne43 nin0))).ext E262).keep K283 (ninS ne269 nin0))
        have f287 := (((f232.keep K250 (ninS ne42 (ninS ne43 nin0))).ext E262).keep K283 (ninS ne269 nin0))
        have f288 := (((f233.keep K250 (ninS ne42 (ninS ne43 nin0))).ext E262).keep K283 (ninS ne269 nin0))
        have f289 := (((f234.keep K250 (ninS ne42 (ninS ne43 nin0))).ext E262).keep K283 (ninS ne269 nin0))
        have f290 := ((f270.ext E262).keep K283)
        have f291 := (((f236.keep K250 (ninS ne38 (ninS ne41 nin0))).ext E262).keep K283 (ninS ne271 nin0))
        have f292 := (((f237.keep K250 (ninS ne38 (ninS ne41 nin0))).ext E262).keep K283 (ninS ne271 nin0))
        have f293 := (((f238.keep K250 (ninS ne38 (ninS ne41 nin0))).ext E262).keep K283 (ninS ne271 nin0))
        have f294 := (f280.keep K283)
        have f295 := (f281.keep K283 (ninS ne267 nin0))
        have f296 := (f282.keep K283 (ninS ne267 nin0))
        have z298 : h0.size ≤ (T283.heap).size := (Nat.le_trans z284 K283.1)
        obtain ⟨cq297, kq297, q297a, q297b, q297c⟩ := isOf hZ rfl f285
        obtain ⟨_, _, ⟨T297, L297, k297, n297⟩, -, X297, ⟨Lc297, hQ297, l297, y297, z297⟩, st297⟩ := X283.virtualBack hx (y := mN_Block_add) (z := mN_Block_add) hown (mvT hZ (own_w hw 101 rfl)) (mvT hZ (own_w hw 102 rfl)) (notFace_of_selects (args := #[]) (mvT hZ (own_w hw 104 rfl))) (mvT hZ (own_w hw 104 rfl)) (mvT hZ (own_w hw 103 rfl)) (by decide) (backOf (W := 0) (rmAddO l Z a0 hw [] b5 b262 al33 b11 ws33 b1 w_ yc x_ dg bp T283.heap n0 (Nat.le_trans Z0 z298) f285 f286 f287 f288 f289 f290 u283_0 (Ne.symm ne271) f291 f292 f293 u283_1 u283_2 u283_3 f294 f295 f296 (by first | assumption | rfl | decide | omega | (simp; done)) hCo) hZ (own_w hw 105 rfl) (own_w hw 26 rfl) (by decide) (by decide)) q297a q297c (g := (mkF m 160 (own_lw x0 x1 x2 x3 x4 x5 bp x_ dg mk w_ ya yb yc dd b1 b5) [(.ref b262), (.ref b5)])) rfl (by rw [hml]; rfl) (Steps.refl _) (argsL := [(.ref b262)]) (rest := []) (lenOf pd_14 rfl) rfl (by show 2 * 0 + _ ≤ _; exact Nat.le_of_eq rfl) (hb hby at_160) (fun _ _ => ⟨rfl, rfl, (by decide : 9 + 0 ≤ _), (by decide : 39 + 0 ≤ _)⟩)
        dsimp only [Pt.U, Pt.locs, Pt.cells, Pt.slots] at X297 l297 y297 z297 st297 hQ297
        replace l297 := l297.symm
        subst l297 y297 z297
        obtain ⟨rfl, rfl, e297⟩ := hQ297
        first | rw [List.append_nil] at X297 | skip
        refine Goes.tr st297 ?_
        have e297' : T297.heap = T283.heap := e297
        show Goes p e below _ (T297.setTop (mkF m 163 (own_lw x0 x1 x2 x3 x4 x5 bp x_ dg mk w_ ya yb yc dd b1 b5) [(.int (0 : Int32))]))
        refine Goes.via (fun _ kk_ => XS.pop X297.here hx rfl (hb hby at_163) rfl rfl kk_) ?_
        show Goes p e below _ (T297.setTop (mkF m 164 (own_lw x0 x1 x2 x3 x4 x5 bp x_ dg mk w_ ya yb yc dd b1 b5) []))
        have K299 : Keep h0 T283.heap [] := ((K263.ext E262).trans K283 (allS (Or.inr sz_b262) all0))
        have f300 := ((u250_7.ext E262).keep K283 (ninS ne273 nin0))
        have hEq := e297'
        rw [← hEq] at K299 f285 f288 f300
        exact J164 _ [] (pB :: []) (pB :: []) _ _ (X297.more (by decide) (by decide)) N283 K299 f285 f288 f300 hcn261 ((if_pos hA).symm) ((if_neg (fun z => z.elim hBo (fun z => hBo (z.trans hA)))).symm) ((if_pos (Or.inl hCo)).symm)
      · skip
        by_cases hC : yc = yb
        · skip
          refine gAL X250 hx hby at_146 rfl rfl ?_
          obtain ⟨T301, h301, X301, e301, E301, A301, D301, -, st301⟩ := newO X250 hx hZ hown (own_w hw 27 rfl) (own_w hw 28 rfl) (own_w hw 29 rfl) rfl (g := (mkF m 148 (own_lw x0 x1 x2 x3 x4 x5 bp x_ dg mk w_ ya yb yc dd b1 b5) [(.ref b5)])) rfl (hb hby at_148) (by first | decide | omega | (dsimp only; omega)) (by first | decide | omega | (dsimp only; omega))
          obtain ⟨b301, g301⟩ : ∃ z, z = (T250.heap).size := ⟨_, rfl⟩
          rw [← g301] at A301 D301 st301
          have K302 : Keep h0 T250.heap [] := (K247.trans K250 (allS (Or.inr sz_al33) (allS (Or.inr sz_ws33) all0)))
          have f305 := (f239.keep K250)
          have lne306 : b1 < b301 := Nat.lt_of_lt_of_le f305.lt (Nat.le_of_eq g301.symm)
          have ne306 : b1 ≠ b301 := Nat.ne_of_lt lne306
          have f307 := (f230.keep K250)
          have lne308 : b5 < b301 := Nat.lt_of_lt_of_le f307.lt (Nat.le_of_eq g301.symm)
          have ne308 : b5 ≠ b301 := Nat.ne_of_lt lne308
          have f309 := (f235.keep K250)
          have lne310 : b11 < b301 := Nat.lt_of_lt_of_le f309.lt (Nat.le_of_eq g301.symm)
          have ne310 : b11 ≠ b301 := Nat.ne_of_lt lne310
          have lne311 : al33 < b301 := Nat.lt_of_lt_of_le u250_0.lt (Nat.le_of_eq g301.symm)
          have ne311 : al33 ≠ b301 := Nat.ne_of_lt lne311
          have lne312 : ws33 < b301 := Nat.lt_of_lt_of_le u250_7.lt (Nat.le_of_eq g301.symm)
          have ne312 : ws33 ≠ b301 := Nat.ne_of_lt lne312
          have f315 := (u228_0.keep K250)
          have lne316 : b213 < b301 := Nat.lt_of_lt_of_le f315.lt (Nat.le_of_eq g301.symm)
          have ne316 : b213 ≠ b301 := Nat.ne_of_lt lne316
          have lne317 : nb250 < b301 := Nat.lt_of_lt_of_le u250_5.lt (Nat.le_of_eq g301.symm)
          have ne317 : nb250 ≠ b301 := Nat.ne_of_lt lne317
          have z318 : h0.size ≤ (T250.heap).size := (Nat.le_trans z251 K250.1)
          have sz_b301 : h0.size ≤ b301 := Nat.le_trans z318 (Nat.le_of_eq g301.symm)
          have gn_b301 : n0 ≤ b301 := Nat.le_trans Z0 sz_b301
          have F_space_b301 : Fld Z h301 b301 "nearhop/model/Id" "space" "Lnearhop/model/IdSpace;" .null := D301 (Or.inr (own_w hw 35 rfl)) (ty := (.object "nearhop/model/IdSpace")) (by decide)
          have F_high_b301 : Fld Z h301 b301 "nearhop/model/Id" "high" "J" (.long (0 : Int64)) := D301 (Or.inr (own_w hw 50 rfl)) (ty := .long) (by decide)
          have F_low_b301 : Fld Z h301 b301 "nearhop/model/Id" "low" "J" (.long (0 : Int64)) := D301 (Or.inr (own_w hw 55 rfl)) (ty := .long) (by decide)
          refine Goes.via st301 ?_
          show Goes p e below _ (T301.setTop (mkF m 151 (own_lw x0 x1 x2 x3 x4 x5 bp x_ dg mk w_ ya yb yc dd b1 b5) [(.ref b301), (.ref b5)]))
          refine gDU X301 hx hby at_151 rfl ?_
          refine gAL X301 hx hby at_152 rfl rfl ?_
          refine Goes.via (fun _ kk_ => XS.lconst X301.here hx rfl (hb hby at_154) kk_) ?_
          show Goes p e below _ (T301.setTop (mkF m 155 (own_lw x0 x1 x2 x3 x4 x5 bp x_ dg mk w_ ya yb yc dd b1 b5) [(.long (0 : Int64)), (.ref b1), (.ref b301), (.ref b301), (.ref b5)]))
          refine Goes.via (fun _ kk_ => XS.lload X301.here hx rfl (hb hby at_155) rfl  kk_) ?_
          show Goes p e below _ (T301.setTop (mkF m 157 (own_lw x0 x1 x2 x3 x4 x5 bp x_ dg mk w_ ya yb yc dd b1 b5) [(.long yc), (.long (0 : Int64)), (.ref b1), (.ref b301), (.ref b301), (.ref b5)]))
          have f319 := (f305.ext E301)
          have f320 := ((f240.keep K250 (ninS ne37 (ninS ne40 nin0))).ext E301)
          have f321 := ((f241.keep K250 (ninS ne37 (ninS ne40 nin0))).ext E301)
          have z323 : h0.size ≤ (h301).size := (Nat.le_trans z318 E301.1)
          obtain ⟨_, _, ⟨T322, L322, k322, n322⟩, -, X322, ⟨Lc322, hQ322, l322, y322, z322⟩, st322⟩ := X301.specialBack hx (y := mN_Id_init) rfl hown (mvT hZ (own_w hw 30 rfl)) (mvT hZ (own_w hw 31 rfl)) (mvT hZ (own_w hw 32 rfl)) (by decide) (backOf (W := 2) (rm5 l Z a0 hw [] b301 b1 yc x_ dg bp h301 n0 (Nat.le_trans Z0 z323) A301 F_space_b301 F_high_b301 F_low_b301 gn_b301 f319 f320 f321 (by first | assumption | rfl | decide | omega | (simp; done)) (by first | assumption | rfl | decide | omega | (simp; done)) (by first | assumption | rfl | decide | omega | (simp; done)) (by first | assumption | rfl | decide | omega | (simp; done))) hZ (own_w hw 32 rfl) (own_w hw 29 rfl) (by decide) (by decide)) (g := (mkF m 157 (own_lw x0 x1 x2 x3 x4 x5 bp x_ dg mk w_ ya yb yc dd b1 b5) [(.long yc), (.long (0 : Int64)), (.ref b1), (.ref b301), (.ref b301), (.ref b5)])) rfl (by rw [hml]; rfl) (Steps.refl _) (a := b301) (argsL := [(.ref b1), (.long (0 : Int64)), (.long yc)]) (rest := [(.ref b301), (.ref b5)]) (lenOf pd_17 rfl) rfl (by show 2 * 0 + _ ≤ _; exact Nat.le_of_eq rfl) (hb hby at_157) (fun _ _ => ⟨rfl, e301, (by decide : 9 + 0 ≤ _), (by decide : 39 + 0 ≤ _)⟩)
          dsimp only [Pt.U, Pt.locs, Pt.cells, Pt.slots] at X322 l322 y322 z322 st322 hQ322
          replace l322 := l322.symm
          subst l322 y322 z322
          obtain ⟨rfl, N322q, K322, u322_0, u322_1, u322_2, u322_3⟩ := hQ322
          have N322 := Fr.app N250 N322q
          refine Goes.tr st322 ?_
          show Goes p e below _ (T322.setTop (mkF m 160 (own_lw x0 x1 x2 x3 x4 x5 bp x_ dg mk w_ ya yb yc dd b1 b5) [(.ref b301), (.ref b5)]))
          have hpC' := hpC hCo
          have f324 := ((f307.ext E301).keep K322)
          have f325 := (((f231.keep K250 (ninS ne42 (ninS ne43 nin0))).ext E301).keep K322 (ninS ne308 nin0))
          have f326 := (((f232.keep K250 (ninS ne42 (ninS ne43 nin0))).ext E301).keep K322 (ninS ne308 nin0))
          have f327 := (((f233.keep K250 (ninS ne42 (ninS ne43 nin0))).ext E301).keep K322 (ninS ne308 nin0))
          have f328 := (((f234.keep K250 (ninS ne42 (ninS ne43 nin0))).ext E301).keep K322 (ninS ne308 nin0))
          have f329 := ((f309.ext E301).keep K322)
          have f330 := (((f236.keep K250 (ninS ne38 (ninS ne41 nin0))).ext E301).keep K322 (ninS ne310 nin0))
          have f331 := (((f237.keep K250 (ninS ne38 (ninS ne41 nin0))).ext E301).keep K322 (ninS ne310 nin0))
          have f332 := (((f238.keep K250 (ninS ne38 (ninS ne41 nin0))).ext E301).keep K322 (ninS ne310 nin0))
          have f333 := (f319.keep K322)
          have f334 := (f320.keep K322 (ninS ne306 nin0))
          have f335 := (f321.keep K322 (ninS ne306 nin0))
          have f336 := ((u250_0.ext E301).keep K322)
          have f337 := ((u250_2.ext E301).keep K322 (ninS ne311 nin0))
          have f338 := ((u250_1.ext E301).keep K322 (ninS ne311 nin0))
          have f339 := ((u250_5.ext E301).keep K322 (ninS ne317 nin0))
          have f340 := ((f315.ext E301).keep K322)
          have f341 := (((u228_1.keep K250 (ninS (Ne.symm ne221) (ninS (Ne.symm ne223) nin0))).ext E301).keep K322 (ninS ne316 nin0))
          have f342 := (((u228_2.keep K250 (ninS (Ne.symm ne221) (ninS (Ne.symm ne223) nin0))).ext E301).keep K322 (ninS ne316 nin0))
          have f343 := (((u228_3.keep K250 (ninS (Ne.symm ne221) (ninS (Ne.symm ne223) nin0))).ext E301).keep K322 (ninS ne316 nin0))
          have z345 : h0.size ≤ (T322.heap).size := (Nat.le_trans z323 K322.1)
          obtain ⟨cq344, kq344, q344a, q344b, q344c⟩ := isOf hZ rfl f324
          obtain ⟨_, _, ⟨T344, L344, k344, n344⟩, -, X344, ⟨Lc344, hQ344, l344, y344, z344⟩, st344⟩ := X322.virtualBack hx (y := mN_Block_add) (z := mN_Block_add) hown (mvT hZ (own_w hw 101 rfl)) (mvT hZ (own_w hw 102 rfl)) (notFace_of_selects (args := #[]) (mvT hZ (own_w hw 104 rfl))) (mvT hZ (own_w hw 104 rfl)) (mvT hZ (own_w hw 103 rfl)) (by decide) (backOf (W := 0) (rmAddI1 l Z a0 hw [] b5 b301 al33 b11 ws33 b1 w_ yc x_ dg bp nb250 kb250 (own_upd (fun _ => .null) 0 (.ref b213)) b213 yb T322.heap n0 (Nat.le_trans Z0 z345) f324 f325 f326 f327 f328 f329 u322_0 (Ne.symm ne310) f330 f331 f332 u322_1 u322_2 u322_3 f333 f334 f335 (by first | assumption | rfl | decide | omega | (simp; done)) f336 f337 f338 f339 rfl (Ne.symm ne316) f340 f341 f342 f343 hpC'.2.2.1 hCo (own_in1 hC)) hZ (own_w hw 105 rfl) (own_w hw 26 rfl) (by decide) (by decide)) q344a q344c (g := (mkF m 160 (own_lw x0 x1 x2 x3 x4 x5 bp x_ dg mk w_ ya yb yc dd b1 b5) [(.ref b301), (.ref b5)])) rfl (by rw [hml]; rfl) (Steps.refl _) (argsL := [(.ref b301)]) (rest := []) (lenOf pd_14 rfl) rfl (by show 2 * 0 + _ ≤ _; exact Nat.le_of_eq rfl) (hb hby at_160) (fun _ _ => ⟨rfl, rfl, (by decide : 9 + 0 ≤ _), (by decide : 39 + 0 ≤ _)⟩)
          dsimp only [Pt.U, Pt.locs, Pt.cells, Pt.slots] at X344 l344 y344 z344 st344 hQ344
          replace l344 := l344.symm
          subst l344 y344 z344
          obtain ⟨rfl, rfl, e344⟩ := hQ344
          first | rw [List.append_nil] at X344 | skip
          refine Goes.tr st344 ?_
          have e344' : T344.heap = T322.heap := e344
          show Goes p e below _ (T344.setTop (mkF m 163 (own_lw x0 x1 x2 x3 x4 x5 bp x_ dg mk w_ ya yb yc dd b1 b5) [(.int (0 : Int32))]))
          refine Goes.via (fun _ kk_ => XS.pop X344.here hx rfl (hb hby at_163) rfl rfl kk_) ?_
          show Goes p e below _ (T344.setTop (mkF m 164 (own_lw x0 x1 x2 x3 x4 x5 bp x_ dg mk w_ ya yb yc dd b1 b5) []))
          have K346 : Keep h0 T322.heap [] := ((K302.ext E301).trans K322 (allS (Or.inr sz_b301) all0))
          have f347 := ((u250_7.ext E301).keep K322 (ninS ne312 nin0))
          have hEq := e344'
          rw [← hEq] at K346 f324 f327 f347
          exact J164 _ [] (pB :: []) (pB :: []) _ _ (X344.more (by decide) (by decide)) N322 K346 f324 f327 f347 hcn261 ((if_pos hA).symm) ((if_neg (fun z => z.elim hBo (fun z => hBo (z.trans hA)))).symm) ((if_pos (Or.inr (Or.inr hC))).symm)
        · skip
          refine gAL X250 hx hby at_146 rfl rfl ?_
          obtain ⟨T348, h348, X348, e348, E348, A348, D348, -, st348⟩ := newO X250 hx hZ hown (own_w hw 27 rfl) (own_w hw 28 rfl) (own_w hw 29 rfl) rfl (g := (mkF m 148 (own_lw x0 x1 x2 x3 x4 x5 bp x_ dg mk w_ ya yb yc dd b1 b5) [(.ref b5)])) rfl (hb hby at_148) (by first | decide | omega | (dsimp only; omega)) (by first | decide | omega | (dsimp only; omega))
          obtain ⟨b348, g348⟩ : ∃ z, z = (T250.heap).size := ⟨_, rfl⟩
          rw [← g348] at A348 D348 st348
          have K349 : Keep h0 T250.heap [] := (K247.trans K250 (allS (Or.inr sz_al33) (allS (Or.inr sz_ws33) all0)))
          have f352 := (f239.keep K250)
          have lne353 : b1 < b348 := Nat.lt_of_lt_of_le f352.lt (Nat.le_of_eq g348.symm)
          have ne353 : b1 ≠ b348 := Nat.ne_of_lt lne353
          have f354 := (f230.keep K250)
          have lne355 : b5 < b348 := Nat.lt_of_lt_of_le f354.lt (Nat.le_of_eq g348.symm)
          have ne355 : b5 ≠ b348 := Nat.ne_of_lt lne355
          have f356 := (f235.keep K250)
          have lne357 : b11 < b348 := Nat.lt_of_lt_of_le f356.lt (Nat.le_of_eq g348.symm)
          have ne357 : b11 ≠ b348 := Nat.ne_of_lt lne357
          have lne358 : al33 < b348 := Nat.lt_of_lt_of_le u250_0.lt (Nat.le_of_eq g348.symm)
          have ne358 : al33 ≠ b348 := Nat.ne_of_lt lne358
          have lne359 : ws33 < b348 := Nat.lt_of_lt_of_le u250_7.lt (Nat.le_of_eq g348.symm)
          have ne359 : ws33 ≠ b348 := Nat.ne_of_lt lne359
          have f362 := (u228_0.keep K250)
          have lne363 : b213 < b348 := Nat.lt_of_lt_of_le f362.lt (Nat.le_of_eq g348.symm)
          have ne363 : b213 ≠ b348 := Nat.ne_of_lt lne363
          have lne364 : nb250 < b348 := Nat.lt_of_lt_of_le u250_5.lt (Nat.le_of_eq g348.symm)
          have ne364 : nb250 ≠ b348 := Nat.ne_of_lt lne364
          have z365 : h0.size ≤ (T250.heap).size := (Nat.le_trans z251 K250.1)
          have sz_b348 : h0.size ≤ b348 := Nat.le_trans z365 (Nat.le_of_eq g348.symm)
          have gn_b348 : n0 ≤ b348 := Nat.le_trans Z0 sz_b348
          have F_space_b348 : Fld Z h348 b348 "nearhop/model/Id" "space" "Lnearhop/model/IdSpace;" .null := D348 (Or.inr (own_w hw 35 rfl)) (ty := (.object "nearhop/model/IdSpace")) (by decide)
          have F_high_b348 : Fld Z h348 b348 "nearhop/model/Id" "high" "J" (.long (0 : Int64)) := D348 (Or.inr (own_w hw 50 rfl)) (ty := .long) (by decide)
          have F_low_b348 : Fld Z h348 b348 "nearhop/model/Id" "low" "J" (.long (0 : Int64)) := D348 (Or.inr (own_w hw 55 rfl)) (ty := .long) (by decide)
          refine Goes.via st348 ?_
          show Goes p e below _ (T348.setTop (mkF m 151 (own_lw x0 x1 x2 x3 x4 x5 bp x_ dg mk w_ ya yb yc dd b1 b5) [(.ref b348), (.ref b5)]))
          refine gDU X348 hx hby at_151 rfl ?_
          refine gAL X348 hx hby at_152 rfl rfl ?_
          refine Goes.via (fun _ kk_ => XS.lconst X348.here hx rfl (hb hby at_154) kk_) ?_
          show Goes p e below _ (T348.setTop (mkF m 155 (own_lw x0 x1 x2 x3 x4 x5 bp x_ dg mk w_ ya yb yc dd b1 b5) [(.long (0 : Int64)), (.ref b1), (.ref b348), (.ref b348), (.ref b5)]))
          refine Goes.via (fun _ kk_ => XS.lload X348.here hx rfl (hb hby at_155) rfl  kk_) ?_
          show Goes p e below _ (T348.setTop (mkF m 157 (own_lw x0 x1 x2 x3 x4 x5 bp x_ dg mk w_ ya yb yc dd b1 b5) [(.long yc), (.long (0 : Int64)), (.ref b1), (.ref b348), (.ref b348), (.ref b5)]))
          have f366 := (f352.ext E348)
          have f367 := ((f240.keep K250 (ninS ne37 (ninS ne40 nin0))).ext E348)
          have f368 := ((f241.keep K250 (ninS ne37 (ninS ne40 nin0))).ext E348)
          have z370 : h0.size ≤ (h348).size := (Nat.le_trans z365 E348.1)
          obtain ⟨_, _, ⟨T369, L369, k369, n369⟩, -, X369, ⟨Lc369, hQ369, l369, y369, z369⟩, st369⟩ := X348.specialBack hx (y := mN_Id_init) rfl hown (mvT hZ (own_w hw 30 rfl)) (mvT hZ (own_w hw 31 rfl)) (mvT hZ (own_w hw 32 rfl)) (by decide) (backOf (W := 2) (rm5 l Z a0 hw [] b348 b1 yc x_ dg bp h348 n0 (Nat.le_trans Z0 z370) A348 F_space_b348 F_high_b348 F_low_b348 gn_b348 f366 f367 f368 (by first | assumption | rfl | decide | omega | (simp; done)) (by first | assumption | rfl | decide | omega | (simp; done)) (by first | assumption | rfl | decide | omega | (simp; done)) (by first | assumption | rfl | decide | omega | (simp; done))) hZ (own_w hw 32 rfl) (own_w hw 29 rfl) (by decide) (by decide)) (g := (mkF m 157 (own_lw x0 x1 x2 x3 x4 x5 bp x_ dg mk w_ ya yb yc dd b1 b5) [(.long yc), (.long (0 : Int64)), (.ref b1), (.ref b348), (.ref b348), (.ref b5)])) rfl (by rw [hml]; rfl) (Steps.refl _) (a := b348) (argsL := [(.ref b1), (.long (0 : Int64)), (.long yc)]) (rest := [(.ref b348), (.ref b5)]) (lenOf pd_17 rfl) rfl (by show 2 * 0 + _ ≤ _; exact Nat.le_of_eq rfl) (hb hby at_157) (fun _ _ => ⟨rfl, e348, (by decide : 9 + 0 ≤ _), (by decide : 39 + 0 ≤ _)⟩)
          dsimp only [Pt.U, Pt.locs, Pt.cells, Pt.slots] at X369 l369 y369 z369 st369 hQ369
          replace l369 := l369.symm
          subst l369 y369 z369
          obtain ⟨rfl, N369q, K369, u369_0, u369_1, u369_2, u369_3⟩ := hQ369
          have N369 := Fr.app N250 N369q
          refine Goes.tr st369 ?_
          show Goes p e below _ (T369.setTop (mkF m 160 (own_lw x0 x1 x2 x3 x4 x5 bp x_ dg mk w_ ya yb yc dd b1 b5) [(.ref b348), (.ref b5)]))
          have hpC' := hpC hCo
          have f371 := ((f354.ext E348).keep K369)
          have f372 := (((f231.keep K250 (ninS ne42 (ninS ne43 nin0))).ext E348).keep K369 (ninS ne355 nin0))
          have f373 := (((f232.keep K250 (ninS ne42 (ninS ne43 nin0))).ext E348).keep K369 (ninS ne355 nin0))
          have f374 := (((f233.keep K250 (ninS ne42 (ninS ne43 nin0))).ext E348).keep K369 (ninS ne355 nin0))
          have f375 := (((f234.keep K250 (ninS ne42 (ninS ne43 nin0))).ext E348).keep K369 (ninS ne355 nin0))
          have f376 := ((f356.ext E348).keep K369)
          have f377 := (((f236.keep K250 (ninS ne38 (ninS ne41 nin0))).ext E348).keep K369 (ninS ne357 nin0))
          have f378 := (((f237.keep K250 (ninS ne38 (ninS ne41 nin0))).ext E348).keep K369 (ninS ne357 nin0))
          have f379 := (((f238.keep K250 (ninS ne38 (ninS ne41 nin0))).ext E348).keep K369 (ninS ne357 nin0))
          have f380 := (f366.keep K369)
          have f381 := (f367.keep K369 (ninS ne353 nin0))
          have f382 := (f368.keep K369 (ninS ne353 nin0))
          have f383 := ((u250_0.ext E348).keep K369)
          have f384 := ((u250_2.ext E348).keep K369 (ninS ne358 nin0))
          have f385 := ((u250_1.ext E348).keep K369 (ninS ne358 nin0))
          have f386 := ((u250_5.ext E348).keep K369 (ninS ne364 nin0))
          have f387 := ((f362.ext E348).keep K369)
          have f388 := (((u228_1.keep K250 (ninS (Ne.symm ne221) (ninS (Ne.symm ne223) nin0))).ext E348).keep K369 (ninS ne363 nin0))
          have f389 := (((u228_2.keep K250 (ninS (Ne.symm ne221) (ninS (Ne.symm ne223) nin0))).ext E348).keep K369 (ninS ne363 nin0))
          have f390 := (((u228_3.keep K250 (ninS (Ne.symm ne221) (ninS (Ne.symm ne223) nin0))).ext E348).keep K369 (ninS ne363 nin0))
          have f391 := ((u250_3.ext E348).keep K369 (ninS ne358 nin0))
          have f392 := ((u250_7.ext E348).keep K369 (ninS ne359 nin0))
          have z394 : h0.size ≤ (T369.heap).size := (Nat.le_trans z370 K369.1)
          obtain ⟨cq393, kq393, q393a, q393b, q393c⟩ := isOf hZ rfl f371
          obtain ⟨_, _, ⟨T393, L393, k393, n393⟩, -, X393, ⟨Lc393, hQ393, l393, y393, z393⟩, st393⟩ := X369.virtualBack hx (y := mN_Block_add) (z := mN_Block_add) hown (mvT hZ (own_w hw 101 rfl)) (mvT hZ (own_w hw 102 rfl)) (notFace_of_selects (args := #[]) (mvT hZ (own_w hw 104 rfl))) (mvT hZ (own_w hw 104 rfl)) (mvT hZ (own_w hw 103 rfl)) (by decide) (backOf (W := 0) (rmAddY1 l Z a0 hw [] b5 b348 al33 b11 ws33 b1 w_ yc x_ dg bp kw33 nd (own_upd (fun _ => (.int 0)) pB (.int ((own_cnt [] pB) + (1 : Int32)))) pC (own_cnt (pB :: []) pC) ((0 : Int32) + (1 : Int32)) nb250 kb250 (own_upd (fun _ => .null) 0 (.ref b213)) b213 yb T369.heap n0 (Nat.le_trans Z0 z394) f371 f372 f373 f374 f375 f376 u369_0 (Ne.symm ne357) f377 f378 f379 u369_1 u369_2 u369_3 f380 f381 f382 (by first | assumption | rfl | decide | omega | (simp; done)) f383 f384 f385 f386 rfl (Ne.symm ne363) f387 f388 f389 f390 f391 hCo f392 (hcn261 pC) hpC'.1 hpC'.2.1 gn_al33 gn_ws33 hpC'.2.2.1 gn_nb250 ne44 ne260 (Ne.symm ne256) u250_6 (if_neg hC)) hZ (own_w hw 105 rfl) (own_w hw 26 rfl) (by decide) (by decide)) q393a q393c (g := (mkF m 160 (own_lw x0 x1 x2 x3 x4 x5 bp x_ dg mk w_ ya yb yc dd b1 b5) [(.ref b348), (.ref b5)])) rfl (by rw [hml]; rfl) (Steps.refl _) (argsL := [(.ref b348)]) (rest := []) (lenOf pd_14 rfl) rfl (by show 2 * 0 + _ ≤ _; exact Nat.le_of_eq rfl) (hb hby at_160) (fun _ _ => ⟨rfl, rfl, (by decide : 9 + 0 ≤ _), (by decide : 39 + 0 ≤ _)⟩)
          dsimp only [Pt.U, Pt.locs, Pt.cells, Pt.slots] at X393 l393 y393 z393 st393 hQ393
          replace l393 := l393.symm
          subst l393 y393 z393
          obtain ⟨rfl, N393q, K393, u393_0, u393_1, u393_2, u393_3, u393_4, u393_5⟩ := hQ393
          have N393 := Fr.app N369 N393q
          refine Goes.tr st393 ?_
          show Goes p e below _ (T393.setTop (mkF m 163 (own_lw x0 x1 x2 x3 x4 x5 bp x_ dg mk w_ ya yb yc dd b1 b5) [(.int (1 : Int32))]))
          have hcn395 : ∀ i, (own_upd (own_upd (fun _ => (.int 0)) pB (.int ((own_cnt [] pB) + (1 : Int32)))) pC (.int ((own_cnt (pB :: []) pC) + (1 : Int32)))) i = .int (own_cnt (pC :: (pB :: [])) i) := own_upV hcn261
          refine Goes.via (fun _ kk_ => XS.pop X393.here hx rfl (hb hby at_163) rfl rfl kk_) ?_
          show Goes p e below _ (T393.setTop (mkF m 164 (own_lw x0 x1 x2 x3 x4 x5 bp x_ dg mk w_ ya yb yc dd b1 b5) []))
          have K396 : Keep h0 T393.heap [] := (((K349.ext E348).trans K369 (allS (Or.inr sz_b348) all0)).trans K393 (allS (Or.inr sz_al33) (allS (Or.inr sz_nb250) (allS (Or.inr sz_ws33) all0))))
          have f397 := (f371.keep K393)
          have f398 := (f374.keep K393 (ninS ne42 (ninS ne254 (ninS ne43 nin0))))
          exact J164 _ [] (pB :: []) (pC :: (pB :: [])) _ _ (X393.more (by decide) (by decide)) N393 K396 f397 f398 u393_5 hcn395 ((if_pos hA).symm) ((if_neg (fun z => z.elim hBo (fun z => hBo (z.trans hA)))).symm) ((if_neg (fun z => z.elim hCo (fun z => z.elim (fun z => hCo (z.trans hA)) (fun q => hC q)))).symm)
  · skip
    refine gAL X33 hx hby at_110 rfl rfl ?_
    obtain ⟨T399, h399, X399, e399, E399, A399, D399, -, st399⟩ := newO X33 hx hZ hown (own_w hw 27 rfl) (own_w hw 28 rfl) (own_w hw 29 rfl) rfl (g := (mkF m 112 (own_lw x0 x1 x2 x3 x4 x5 bp x_ dg mk w_ ya yb yc dd b1 b5) [(.ref b5)])) rfl (hb hby at_112) (by first | decide | omega | (dsimp only; omega)) (by first | decide | omega | (dsimp only; omega))
    obtain ⟨b399, g399⟩ : ∃ z, z = (T33.heap).size := ⟨_, rfl⟩
    rw [← g399] at A399 D399 st399
    have K400 : Keep h0 T33.heap [] := (K31.trans K33 (allS (Or.inr sz_b5) all0))
    have f403 := (f29.keep K33)
    have lne404 : b1 < b399 := Nat.lt_of_lt_of_le f403.lt (Nat.le_of_eq g399.symm)
    have ne404 : b1 ≠ b399 := Nat.ne_of_lt lne404
    have lne405 : b5 < b399 := Nat.lt_of_lt_of_le u33_0.lt (Nat.le_of_eq g399.symm)
    have ne405 : b5 ≠ b399 := Nat.ne_of_lt lne405
    have f406 := (u22_0.keep K33)
    have lne407 : b11 < b399 := Nat.lt_of_lt_of_le f406.lt (Nat.le_of_eq g399.symm)
    have ne407 : b11 ≠ b399 := Nat.ne_of_lt lne407
    have lne408 : al33 < b399 := Nat.lt_of_lt_of_le u33_6.lt (Nat.le_of_eq g399.symm)
    have ne408 : al33 ≠ b399 := Nat.ne_of_lt lne408
    have lne409 : ws33 < b399 := Nat.lt_of_lt_of_le u33_11.lt (Nat.le_of_eq g399.symm)
    have ne409 : ws33 ≠ b399 := Nat.ne_of_lt lne409
    have z410 : h0.size ≤ (T33.heap).size := (Nat.le_trans z34 K33.1)
    have sz_b399 : h0.size ≤ b399 := Nat.le_trans z410 (Nat.le_of_eq g399.symm)
    have gn_b399 : n0 ≤ b399 := Nat.le_trans Z0 sz_b399
    have F_space_b399 : Fld Z h399 b399 "nearhop/model/Id" "space" "Lnearhop/model/IdSpace;" .null := D399 (Or.inr (own_w hw 35 rfl)) (ty := (.object "nearhop/model/IdSpace")) (by decide)
    have F_high_b399 : Fld Z h399 b399 "nearhop/model/Id" "high" "J" (.long (0 : Int64)) := D399 (Or.inr (own_w hw 50 rfl)) (ty := .long) (by decide)
    have F_low_b399 : Fld Z h399 b399 "nearhop/model/Id" "low" "J" (.long (0 : Int64)) := D399 (Or.inr (own_w hw 55 rfl)) (ty := .long) (by decide)
    refine Goes.via st399 ?_
    show Goes p e below _ (T399.setTop (mkF m 115 (own_lw x0 x1 x2 x3 x4 x5 bp x_ dg mk w_ ya yb yc dd b1 b5) [(.ref b399), (.ref b5)]))
    refine gDU X399 hx hby at_115 rfl ?_
    refine gAL X399 hx hby at_116 rfl rfl ?_
    refine Goes.via (fun _ kk_ => XS.lconst X399.here hx rfl (hb hby at_118) kk_) ?_
    show Goes p e below _ (T399.setTop (mkF m 119 (own_lw x0 x1 x2 x3 x4 x5 bp x_ dg mk w_ ya yb yc dd b1 b5) [(.long (0 : Int64)), (.ref b1), (.ref b399), (.ref b399), (.ref b5)]))
    refine Goes.via (fun _ kk_ => XS.lload X399.here hx rfl (hb hby at_119) rfl  kk_) ?_
    show Goes p e below _ (T399.setTop (mkF m 121 (own_lw x0 x1 x2 x3 x4 x5 bp x_ dg mk w_ ya yb yc dd b1 b5) [(.long ya), (.long (0 : Int64)), (.ref b1), (.ref b399), (.ref b399), (.ref b5)]))
    have f411 := (f403.ext E399)
    have f412 := (((f20.keep K22 (ninS ne16 nin0)).keep K33 (ninS ne9 nin0)).ext E399)
    have f413 := ((f30.keep K33 (ninS ne9 nin0)).ext E399)
    have z415 : h0.size ≤ (h399).size := (Nat.le_trans z410 E399.1)
    obtain ⟨_, _, ⟨T414, L414, k414, n414⟩, -, X414, ⟨Lc414, hQ414, l414, y414, z414⟩, st414⟩ := X399.specialBack hx (y := mN_Id_init) rfl hown (mvT hZ (own_w hw 30 rfl)) (mvT hZ (own_w hw 31 rfl)) (mvT hZ (own_w hw 32 rfl)) (by decide) (backOf (W := 2) (rm5 l Z a0 hw [] b399 b1 ya x_ dg bp h399 n0 (Nat.le_trans Z0 z415) A399 F_space_b399 F_high_b399 F_low_b399 gn_b399 f411 f412 f413 (by first | assumption | rfl | decide | omega | (simp; done)) (by first | assumption | rfl | decide | omega | (simp; done)) (by first | assumption | rfl | decide | omega | (simp; done)) (by first | assumption | rfl | decide | omega | (simp; done))) hZ (own_w hw 32 rfl) (own_w hw 29 rfl) (by decide) (by decide)) (g := (mkF m 121 (own_lw x0 x1 x2 x3 x4 x5 bp x_ dg mk w_ ya yb yc dd b1 b5) [(.long ya), (.long (0 : Int64)), (.ref b1), (.ref b399), (.ref b399), (.ref b5)])) rfl (by rw [hml]; rfl) (Steps.refl _) (a := b399) (argsL := [(.ref b1), (.long (0 : Int64)), (.long ya)]) (rest := [(.ref b399), (.ref b5)]) (lenOf pd_17 rfl) rfl (by show 2 * 0 + _ ≤ _; exact Nat.le_of_eq rfl) (hb hby at_121) (fun _ _ => ⟨rfl, e399, (by decide : 6 + 0 ≤ _), (by decide : 23 + 0 ≤ _)⟩)
    dsimp only [Pt.U, Pt.locs, Pt.cells, Pt.slots] at X414 l414 y414 z414 st414 hQ414
    replace l414 := l414.symm
    subst l414 y414 z414
    obtain ⟨rfl, N414q, K414, u414_0, u414_1, u414_2, u414_3⟩ := hQ414
    have N414 := Fr.app N33 N414q
    refine Goes.tr st414 ?_
    show Goes p e below _ (T414.setTop (mkF m 124 (own_lw x0 x1 x2 x3 x4 x5 bp x_ dg mk w_ ya yb yc dd b1 b5) [(.ref b399), (.ref b5)]))
    have hpA' := hpA hA
    have f416 := ((u33_0.ext E399).keep K414)
    have f417 := ((u33_1.ext E399).keep K414 (ninS ne405 nin0))
    have f418 := ((u33_2.ext E399).keep K414 (ninS ne405 nin0))
    have f419 := ((u33_3.ext E399).keep K414 (ninS ne405 nin0))
    have f420 := ((u33_4.ext E399).keep K414 (ninS ne405 nin0))
    have f421 := ((f406.ext E399).keep K414)
    have f422 := (((u22_1.keep K33 (ninS (Ne.symm ne17) nin0)).ext E399).keep K414 (ninS ne407 nin0))
    have f423 := (((u22_2.keep K33 (ninS (Ne.symm ne17) nin0)).ext E399).keep K414 (ninS ne407 nin0))
    have f424 := (((u22_3.keep K33 (ninS (Ne.symm ne17) nin0)).ext E399).keep K414 (ninS ne407 nin0))
    have f425 := (f411.keep K414)
    have f426 := (f412.keep K414 (ninS ne404 nin0))
    have f427 := (f413.keep K414 (ninS ne404 nin0))
    have f428 := ((u33_6.ext E399).keep K414)
    have f429 := ((u33_7.ext E399).keep K414 (ninS ne408 nin0))
    have f430 := ((u33_8.ext E399).keep K414 (ninS ne408 nin0))
    have f431 := ((u33_9.ext E399).keep K414 (ninS ne408 nin0))
    have f432 := ((u33_11.ext E399).keep K414 (ninS ne409 nin0))
    have K433 : Keep h0 T414.heap [] := ((K400.ext E399).trans K414 (allS (Or.inr sz_b399) all0))
    have f434 : Arw Z T414.heap ed kE (.object "java/lang/Object") 0 fE := OA.keep K433 nin0
    have f435 : Sta Z T414.heap "java/util/ArrayList" "DEFAULTCAPACITY_EMPTY_ELEMENTDATA" "[Ljava/lang/Object;" (.ref ed) := own_sta_keep OE K433
    have z437 : h0.size ≤ (T414.heap).size := (Nat.le_trans z415 K414.1)
    obtain ⟨cq436, kq436, q436a, q436b, q436c⟩ := isOf hZ rfl f416
    obtain ⟨_, _, ⟨T436, L436, k436, n436⟩, -, X436, ⟨Lc436, hQ436, l436, y436, z436⟩, st436⟩ := X414.virtualBack hx (y := mN_Block_add) (z := mN_Block_add) hown (mvT hZ (own_w hw 101 rfl)) (mvT hZ (own_w hw 102 rfl)) (notFace_of_selects (args := #[]) (mvT hZ (own_w hw 104 rfl))) (mvT hZ (own_w hw 104 rfl)) (mvT hZ (own_w hw 103 rfl)) (by decide) (backOf (W := 0) (rmAddY0 l Z a0 hw [] b5 b399 al33 b11 ws33 b1 w_ ya x_ dg bp kw33 nd (fun _ => (.int 0)) pA (own_cnt [] pA) (0 : Int32) ed kE fE T414.heap n0 (Nat.le_trans Z0 z437) f416 f417 f418 f419 f420 f421 u414_0 (Ne.symm ne407) f422 f423 f424 u414_1 u414_2 u414_3 f425 f426 f427 (by first | assumption | rfl | decide | omega | (simp; done)) f428 f429 f430 f431 hA f432 (hcn0 pA) hpA'.1 hpA'.2.1 gn_al33 gn_ws33 hpA'.2.2.1 ne44 f434 f435) hZ (own_w hw 105 rfl) (own_w hw 26 rfl) (by decide) (by decide)) q436a q436c (g := (mkF m 124 (own_lw x0 x1 x2 x3 x4 x5 bp x_ dg mk w_ ya yb yc dd b1 b5) [(.ref b399), (.ref b5)])) rfl (by rw [hml]; rfl) (Steps.refl _) (argsL := [(.ref b399)]) (rest := []) (lenOf pd_14 rfl) rfl (by show 2 * 0 + _ ≤ _; exact Nat.le_of_eq rfl) (hb hby at_124) (fun _ _ => ⟨rfl, rfl, (by decide : 6 + 1 ≤ _), (by decide : 23 + 10 ≤ _)⟩)
    dsimp only [Pt.U, Pt.locs, Pt.cells, Pt.slots] at X436 l436 y436 z436 st436 hQ436
    replace l436 := l436.symm
    subst l436 y436 z436
    obtain ⟨nb436, kb436, rfl, N436q, K436, u436_0, u436_1, u436_2, u436_3, u436_4, u436_5, u436_6, u436_7⟩ := hQ436
    have N436 := Fr.app N414 N436q
    refine Goes.tr st436 ?_
    have ne439 : b1 ≠ nb436 := Nat.ne_of_lt (Nat.lt_of_lt_of_le f425.lt u436_4)
    have ne440 : b5 ≠ nb436 := Nat.ne_of_lt (Nat.lt_of_lt_of_le f416.lt u436_4)
    have ne441 : b11 ≠ nb436 := Nat.ne_of_lt (Nat.lt_of_lt_of_le f421.lt u436_4)
    have ne442 : ws33 ≠ nb436 := Nat.ne_of_lt (Nat.lt_of_lt_of_le f432.lt u436_4)
    have ne443 : b399 ≠ nb436 := Nat.ne_of_lt (Nat.lt_of_lt_of_le u414_0.lt u436_4)
    have sz_nb436 : h0.size ≤ nb436 := Nat.le_trans z437 u436_4
    have gn_nb436 : n0 ≤ nb436 := Nat.le_trans Z0 sz_nb436
    have ne444 : al33 ≠ nb436 := own_ne_arr u436_0 (own_w hw 61 rfl) u436_5
    show Goes p e below _ (T436.setTop (mkF m 127 (own_lw x0 x1 x2 x3 x4 x5 bp x_ dg mk w_ ya yb yc dd b1 b5) [(.int (1 : Int32))]))
    have hcn445 : ∀ i, (own_upd (fun _ => (.int 0)) pA (.int ((own_cnt [] pA) + (1 : Int32)))) i = .int (own_cnt (pA :: []) i) := own_upV hcn0
    refine Goes.via (fun _ kk_ => XS.pop X436.here hx rfl (hb hby at_127) rfl rfl kk_) ?_
    show Goes p e below _ (T436.setTop (mkF m 128 (own_lw x0 x1 x2 x3 x4 x5 bp x_ dg mk w_ ya yb yc dd b1 b5) []))
    by_cases hBo : yb = w_
    · skip
      refine gAL X436 hx hby at_128 rfl rfl ?_
      obtain ⟨T446, h446, X446, e446, E446, A446, D446, -, st446⟩ := newO X436 hx hZ hown (own_w hw 27 rfl) (own_w hw 28 rfl) (own_w hw 29 rfl) rfl (g := (mkF m 130 (own_lw x0 x1 x2 x3 x4 x5 bp x_ dg mk w_ ya yb yc dd b1 b5) [(.ref b5)])) rfl (hb hby at_130) (by first | decide | omega | (dsimp only; omega)) (by first | decide | omega | (dsimp only; omega))
      obtain ⟨b446, g446⟩ : ∃ z, z = (T436.heap).size := ⟨_, rfl⟩
      rw [← g446] at A446 D446 st446
      have K447 : Keep h0 T436.heap [] := (K433.trans K436 (allS (Or.inr sz_al33) (allS (Or.inr sz_ws33) all0)))
      have f450 := (f425.keep K436)
      have lne451 : b1 < b446 := Nat.lt_of_lt_of_le f450.lt (Nat.le_of_eq g446.symm)
      have ne451 : b1 ≠ b446 := Nat.ne_of_lt lne451
      have f452 := (f416.keep K436)
      have lne453 : b5 < b446 := Nat.lt_of_lt_of_le f452.lt (Nat.le_of_eq g446.symm)
      have ne453 : b5 ≠ b446 := Nat.ne_of_lt lne453
      have f454 := (f421.keep K436)
      have lne455 : b11 < b446 := Nat.lt_of_lt_of_le f454.lt (Nat.le_of_eq g446.symm)
      have ne455 : b11 ≠ b446 := Nat.ne_of_lt lne455
      have lne456 : al33 < b446 := Nat.lt_of_lt_of_le u436_0.lt (Nat.le_of_eq g446.symm)
      have ne456 : al33 ≠ b446 := Nat.ne_of_lt lne456
      have lne457 : ws33 < b446 := Nat.lt_of_lt_of_le u436_7.lt (Nat.le_of_eq g446.symm)
      have ne457 : ws33 ≠ b446 := Nat.ne_of_lt lne457
      have f458 := (u414_0.keep K436)
      have lne459 : b399 < b446 := Nat.lt_of_lt_of_le f458.lt (Nat.le_of_eq g446.symm)
      have ne459 : b399 ≠ b446 := Nat.ne_of_lt lne459
      have lne460 : nb436 < b446 := Nat.lt_of_lt_of_le u436_5.lt (Nat.le_of_eq g446.symm)
      have ne460 : nb436 ≠ b446 := Nat.ne_of_lt lne460
      have z461 : h0.size ≤ (T436.heap).size := (Nat.le_trans z437 K436.1)
      have sz_b446 : h0.size ≤ b446 := Nat.le_trans z461 (Nat.le_of_eq g446.symm)
      have gn_b446 : n0 ≤ b446 := Nat.le_trans Z0 sz_b446
      have F_space_b446 : Fld Z h446 b446 "nearhop/model/Id" "space" "Lnearhop/model/IdSpace;" .null := D446 (Or.inr (own_w hw 35 rfl)) (ty := (.object "nearhop/model/IdSpace")) (by decide)
      have F_high_b446 : Fld Z h446 b446 "nearhop/model/Id" "high" "J" (.long (0 : Int64)) := D446 (Or.inr (own_w hw 50 rfl)) (ty := .long) (by decide)
      have F_low_b446 : Fld Z h446 b446 "nearhop/model/Id" "low" "J" (.long (0 : Int64)) := D446 (Or.inr (own_w hw 55 rfl)) (ty := .long) (by decide)
      refine Goes.via st446 ?_
      show Goes p e below _ (T446.setTop (mkF m 133 (own_lw x0 x1 x2 x3 x4 x5 bp x_ dg mk w_ ya yb yc dd b1 b5) [(.ref b446), (.ref b5)]))
      refine gDU X446 hx hby at_133 rfl ?_
      refine gAL X446 hx hby at_134 rfl rfl ?_
      refine Goes.via (fun _ kk_ => XS.lconst X446.here hx rfl (hb hby at_136) kk_) ?_
      show Goes p e below _ (T446.setTop (mkF m 137 (own_lw x0 x1 x2 x3 x4 x5 bp x_ dg mk w_ ya yb yc dd b1 b5) [(.long (0 : Int64)), (.ref b1), (.ref b446), (.ref b446), (.ref b5)]))
      refine Goes.via (fun _ kk_ => XS.lload X446.here hx rfl (hb hby at_137) rfl  kk_) ?_
      show Goes p e below _ (T446.setTop (mkF m 139 (own_lw x0 x1 x2 x3 x4 x5 bp x_ dg mk w_ ya yb yc dd b1 b5) [(.long yb), (.long (0 : Int64)), (.ref b1), (.ref b446), (.ref b446), (.ref b5)]))
      have f462 := (f450.ext E446)
      have f463 := ((f426.keep K436 (ninS ne37 (ninS ne40 nin0))).ext E446)
      have f464 := ((f427.keep K436 (ninS ne37 (ninS ne40 nin0))).ext E446)
      have z466 : h0.size ≤ (h446).size := (Nat.le_trans z461 E446.1)
      obtain ⟨_, _, ⟨T465, L465, k465, n465⟩, -, X465, ⟨Lc465, hQ465, l465, y465, z465⟩, st465⟩ := X446.specialBack hx (y := mN_Id_init) rfl hown (mvT hZ (own_w hw 30 rfl)) (mvT hZ (own_w hw 31 rfl)) (mvT hZ (own_w hw 32 rfl)) (by decide) (backOf (W := 2) (rm5 l Z a0 hw [] b446 b1 yb x_ dg bp h446 n0 (Nat.le_trans Z0 z466) A446 F_space_b446 F_high_b446 F_low_b446 gn_b446 f462 f463 f464 (by first | assumption | rfl | decide | omega | (simp; done)) (by first | assumption | rfl | decide | omega | (simp; done)) (by first | assumption | rfl | decide | omega | (simp; done)) (by first | assumption | rfl | decide | omega | (simp; done))) hZ (own_w hw 32 rfl) (own_w hw 29 rfl) (by decide) (by decide)) (g := (mkF m 139 (own_lw x0 x1 x2 x3 x4 x5 bp x_ dg mk w_ ya yb yc dd b1 b5) [(.long yb), (.long (0 : Int64)), (.ref b1), (.ref b446), (.ref b446), (.ref b5)])) rfl (by rw [hml]; rfl) (Steps.refl _) (a := b446) (argsL := [(.ref b1), (.long (0 : Int64)), (.long yb)]) (rest := [(.ref b446), (.ref b5)]) (lenOf pd_17 rfl) rfl (by show 2 * 0 + _ ≤ _; exact Nat.le_of_eq rfl) (hb hby at_139) (fun _ _ => ⟨rfl, e446, (by decide : 8 + 0 ≤ _), (by decide : 36 + 0 ≤ _)⟩)
      dsimp only [Pt.U, Pt.locs, Pt.cells, Pt.slots] at X465 l465 y465 z465 st465 hQ465
      replace l465 := l465.symm
      subst l465 y465 z465
      obtain ⟨rfl, N465q, K465, u465_0, u465_1, u465_2, u465_3⟩ := hQ465
      have N465 := Fr.app N436 N465q
      refine Goes.tr st465 ?_
      show Goes p e below _ (T465.setTop (mkF m 142 (own_lw x0 x1 x2 x3 x4 x5 bp x_ dg mk w_ ya yb yc dd b1 b5) [(.ref b446), (.ref b5)]))
      have f467 := ((f452.ext E446).keep K465)
      have f468 := (((f417.keep K436 (ninS ne42 (ninS ne43 nin0))).ext E446).keep K465 (ninS ne453 nin0))
      have f469 := (((f418.keep K436 (ninS ne42 (ninS ne43 nin0))).ext E446).keep K465 (ninS ne453 nin0))
      have f470 := (((f419.keep K436 (ninS ne42 (ninS ne43 nin0))).ext E446).keep K465 (ninS ne453 nin0))
      have f471 := (((f420.keep K436 (ninS ne42 (ninS ne43 nin0))).ext E446).keep K465 (ninS ne453 nin0))
      have f472 := ((f454.ext E446).keep K465)
      have f473 := (((f422.keep K436 (ninS ne38 (ninS ne41 nin0))).ext E446).keep K465 (ninS ne455 nin0))
      have f474 := (((f423.keep K436 (ninS ne38 (ninS ne41 nin0))).ext E446).keep K465 (ninS ne455 nin0))
      have f475 := (((f424.keep K436 (ninS ne38 (ninS ne41 nin0))).ext E446).keep K465 (ninS ne455 nin0))
      have f476 := (f462.keep K465)
      have f477 := (f463.keep K465 (ninS ne451 nin0))
      have f478 := (f464.keep K465 (ninS ne451 nin0))
      have z480 : h0.size ≤ (T465.heap).size := (Nat.le_trans z466 K465.1)
      obtain ⟨cq479, kq479, q479a, q479b, q479c⟩ := isOf hZ rfl f467
      obtain ⟨_, _, ⟨T479, L479, k479, n479⟩, -, X479, ⟨Lc479, hQ479, l479, y479, z479⟩, st479⟩ := X465.virtualBack hx (y := mN_Block_add) (z := mN_Block_add) hown (mvT hZ (own_w hw 101 rfl)) (mvT hZ (own_w hw 102 rfl)) (notFace_of_selects (args := #[]) (mvT hZ (own_w hw 104 rfl))) (mvT hZ (own_w hw 104 rfl)) (mvT hZ (own_w hw 103 rfl)) (by decide) (backOf (W := 0) (rmAddO l Z a0 hw [] b5 b446 al33 b11 ws33 b1 w_ yb x_ dg bp T465.heap n0 (Nat.le_trans Z0 z480) f467 f468 f469 f470 f471 f472 u465_0 (Ne.symm ne455) f473 f474 f475 u465_1 u465_2 u465_3 f476 f477 f478 (by first | assumption | rfl | decide | omega | (simp; done)) hBo) hZ (own_w hw 105 rfl) (own_w hw 26 rfl) (by decide) (by decide)) q479a q479c (g := (mkF m 142 (own_lw x0 x1 x2 x3 x4 x5 bp x_ dg mk w_ ya yb yc dd b1 b5) [(.ref b446), (.ref b5)])) rfl (by rw [hml]; rfl) (Steps.refl _) (argsL := [(.ref b446)]) (rest := []) (lenOf pd_14 rfl) rfl (by show 2 * 0 + _ ≤ _; exact Nat.le_of_eq rfl) (hb hby at_142) (fun _ _ => ⟨rfl, rfl, (by decide : 8 + 0 ≤ _), (by decide : 36 + 0 ≤ _)⟩)
      dsimp only [Pt.U, Pt.locs, Pt.cells, Pt.slots] at X479 l479 y479 z479 st479 hQ479
      replace l479 := l479.symm
      subst l479 y479 z479
      obtain ⟨rfl, rfl, e479⟩ := hQ479
      first | rw [List.append_nil] at X479 | skip
      refine Goes.tr st479 ?_
      have e479' : T479.heap = T465.heap := e479
      show Goes p e below _ (T479.setTop (mkF m 145 (own_lw x0 x1 x2 x3 x4 x5 bp x_ dg mk w_ ya yb yc dd b1 b5) [(.int (0 : Int32))]))
      refine Goes.via (fun _ kk_ => XS.pop X479.here hx rfl (hb hby at_145) rfl rfl kk_) ?_
      show Goes p e below _ (T479.setTop (mkF m 146 (own_lw x0 x1 x2 x3 x4 x5 bp x_ dg mk w_ ya yb yc dd b1 b5) []))
      by_cases hCo : yc = w_
      · skip
        refine gAL X479 hx hby at_146 rfl rfl ?_
        obtain ⟨T481, h481, X481, e481, E481, A481, D481, -, st481⟩ := newO X479 hx hZ hown (own_w hw 27 rfl) (own_w hw 28 rfl) (own_w hw 29 rfl) e479' (g := (mkF m 148 (own_lw x0 x1 x2 x3 x4 x5 bp x_ dg mk w_ ya yb yc dd b1 b5) [(.ref b5)])) rfl (hb hby at_148) (by first | decide | omega | (dsimp only; omega)) (by first | decide | omega | (dsimp only; omega))
        obtain ⟨b481, g481⟩ : ∃ z, z = (T465.heap).size := ⟨_, rfl⟩
        rw [← g481] at A481 D481 st481
        have K482 : Keep h0 T465.heap [] := ((K447.ext E446).trans K465 (allS (Or.inr sz_b446) all0))
        have lne485 : b1 < b481 := Nat.lt_of_lt_of_le f476.lt (Nat.le_of_eq g481.symm)
        have ne485 : b1 ≠ b481 := Nat.ne_of_lt lne485
        have lne486 : b5 < b481 := Nat.lt_of_lt_of_le f467.lt (Nat.le_of_eq g481.symm)
        have ne486 : b5 ≠ b481 := Nat.ne_of_lt lne486
        have lne487 : b11 < b481 := Nat.lt_of_lt_of_le f472.lt (Nat.le_of_eq g481.symm)
        have ne487 : b11 ≠ b481 := Nat.ne_of_lt lne487
        have f490 := ((u436_7.ext E446).keep K465 (ninS ne457 nin0))
        have lne491 : ws33 < b481 := Nat.lt_of_lt_of_le f490.lt (Nat.le_of_eq g481.symm)
        have ne491 : ws33 ≠ b481 := Nat.ne_of_lt lne491
        have sz_b481 : h0.size ≤ b481 := Nat.le_trans z480 (Nat.le_of_eq g481.symm)
        have gn_b481 : n0 ≤ b481 := Nat.le_trans Z0 sz_b481
        have F_space_b481 : Fld Z h481 b481 "nearhop/model/Id" "space" "Lnearhop/model/IdSpace;" .null := D481 (Or.inr (own_w hw 35 rfl)) (ty := (.object "nearhop/model/IdSpace")) (by decide)
        have F_high_b481 : Fld Z h481 b481 "nearhop/model/Id" "high" "J" (.long (0 : Int64)) := D481 (Or.inr (own_w hw 50 rfl)) (ty := .long) (by decide)
        have F_low_b481 : Fld Z h481 b481 "nearhop/model/Id" "low" "J" (.long (0 : Int64)) := D481 (Or.inr (own_w hw 55 rfl)) (ty := .long) (by decide)
        refine Goes.via st481 ?_
        show Goes p e below _ (T481.setTop (mkF m 151 (own_lw x0 x1 x2 x3 x4 x5 bp x_ dg mk w_ ya yb yc dd b1 b5) [(.ref b481), (.ref b5)]))
        refine gDU X481 hx hby at_151 rfl ?_
        refine gAL X481 hx hby at_152 rfl rfl ?_
        refine Goes.via (fun _ kk_ => XS.lconst X481.here hx rfl (hb hby at_154) kk_) ?_
        show Goes p e below _ (T481.setTop (mkF m 155 (own_lw x0 x1 x2 x3 x4 x5 bp x_ dg mk w_ ya yb yc dd b1 b5) [(.long (0 : Int64)), (.ref b1), (.ref b481), (.ref b481), (.ref b5)]))
        refine Goes.via (fun _ kk_ => XS.lload X481.here hx rfl (hb hby at_155) rfl  kk_) ?_
        show Goes p e below _ (T481.setTop (mkF m 157 (own_lw x0 x1 x2 x3 x4 x5 bp x_ dg mk w_ ya yb yc dd b1 b5) [(.long yc), (.long (0 : Int64)), (.ref b1), (.ref b481), (.ref b481), (.ref b5)]))
        have f497 := (f476.ext E481)
        have f498 := (f477.ext E481)
        have f499 := (f478.ext E481)
        have z501 : h0.size ≤ (h481).size := (Nat.le_trans z480 E481.1)
        obtain ⟨_, _, ⟨T500, L500, k500, n500⟩, -, X500, ⟨Lc500, hQ500, l500, y500, z500⟩, st500⟩ := X481.specialBack hx (y := mN_Id_init) rfl hown (mvT hZ (own_w hw 30 rfl)) (mvT hZ (own_w hw 31 rfl)) (mvT hZ (own_w hw 32 rfl)) (by decide) (backOf (W := 2) (rm5 l Z a0 hw [] b481 b1 yc x_ dg bp h481 n0 (Nat.le_trans Z0 z501) A481 F_space_b481 F_high_b481 F_low_b481 gn_b481 f497 f498 f499 (by first | assumption | rfl | decide | omega | (simp; done)) (by first | assumption | rfl | decide | omega | (simp; done)) (by first | assumption | rfl | decide | omega | (simp; done)) (by first | assumption | rfl | decide | omega | (simp; done))) hZ (own_w hw 32 rfl) (own_w hw 29 rfl) (by decide) (by decide)) (g := (mkF m 157 (own_lw x0 x1 x2 x3 x4 x5 bp x_ dg mk w_ ya yb yc dd b1 b5) [(.long yc), (.long (0 : Int64)), (.ref b1), (.ref b481), (.ref b481), (.ref b5)])) rfl (by rw [hml]; rfl) (Steps.refl _) (a := b481) (argsL := [(.ref b1), (.long (0 : Int64)), (.long yc)]) (rest := [(.ref b481), (.ref b5)]) (lenOf pd_17 rfl) rfl (by show 2 * 0 + _ ≤ _; exact Nat.le_of_eq rfl) (hb hby at_157) (fun _ _ => ⟨rfl, e481, (by decide : 9 + 0 ≤ _), (by decide : 39 + 0 ≤ _)⟩)
        dsimp only [Pt.U, Pt.locs, Pt.cells, Pt.slots] at X500 l500 y500 z500 st500 hQ500
        replace l500 := l500.symm
        subst l500 y500 z500
        obtain ⟨rfl, N500q, K500, u500_0, u500_1, u500_2, u500_3⟩ := hQ500
        have N500 := Fr.app N465 N500q
        refine Goes.tr st500 ?_
        show Goes p e below _ (T500.setTop (mkF m 160 (own_lw x0 x1 x2 x3 x4 x5 bp x_ dg mk w_ ya yb yc dd b1 b5) [(.ref b481), (.ref b5)]))
        have f502 := ((f467.ext E481).keep K500)
        have f503 := ((f468.ext E481).keep K500 (ninS ne486 nin0))
        have f504 := ((f469.ext E481).keep K500 (ninS ne486 nin0))
        have f505 := ((f470.ext E481).keep K500 (ninS ne486 nin0))
        have f506 := ((f471.ext E481).keep K500 (ninS ne486 nin0))
        have f507 := ((f472.ext E481).keep K500)
        have f508 := ((f473.ext E481).keep K500 (ninS ne487 nin0))
        have f509 := ((f474.ext E481).keep K500 (ninS ne487 nin0))
        have f510 := ((f475.ext E481).keep K500 (ninS ne487 nin0))
        have f511 := (f497.keep K500)
        have f512 := (f498.keep K500 (ninS ne485 nin0))
        have f513 := (f499.keep K500 (ninS ne485 nin0))
        have z515 : h0.size ≤ (T500.heap).size := (Nat.le_trans z501 K500.1)
        obtain ⟨cq514, kq514, q514a, q514b, q514c⟩ := isOf hZ rfl f502
        obtain ⟨_, _, ⟨T514, L514, k514, n514⟩, -, X514, ⟨Lc514, hQ514, l514, y514, z514⟩, st514⟩ := X500.virtualBack hx (y := mN_Block_add) (z := mN_Block_add) hown (mvT hZ (own_w hw 101 rfl)) (mvT hZ (own_w hw 102 rfl)) (notFace_of_selects (args := #[]) (mvT hZ (own_w hw 104 rfl))) (mvT hZ (own_w hw 104 rfl)) (mvT hZ (own_w hw 103 rfl)) (by decide) (backOf (W := 0) (rmAddO l Z a0 hw [] b5 b481 al33 b11 ws33 b1 w_ yc x_ dg bp T500.heap n0 (Nat.le_trans Z0 z515) f502 f503 f504 f505 f506 f507 u500_0 (Ne.symm ne487) f508 f509 f510 u500_1 u500_2 u500_3 f511 f512 f513 (by first | assumption | rfl | decide | omega | (simp; done)) hCo) hZ (own_w hw 105 rfl) (own_w hw 26 rfl) (by decide) (by decide)) q514a q514c (g := (mkF m 160 (own_lw x0 x1 x2 x3 x4 x5 bp x_ dg mk w_ ya yb yc dd b1 b5) [(.ref b481), (.ref b5)])) rfl (by rw [hml]; rfl) (Steps.refl _) (argsL := [(.ref b481)]) (rest := []) (lenOf pd_14 rfl) rfl (by show 2 * 0 + _ ≤ _; exact Nat.le_of_eq rfl) (hb hby at_160) (fun _ _ => ⟨rfl, rfl, (by decide : 9 + 0 ≤ _), (by decide : 39 + 0 ≤ _)⟩)
        dsimp only [Pt.U, Pt.locs, Pt.cells, Pt.slots] at X514 l514 y514 z514 st514 hQ514
        replace l514 := l514.symm
        subst l514 y514 z514
        obtain ⟨rfl, rfl, e514⟩ := hQ514
        first | rw [List.append_nil] at X514 | skip
        refine Goes.tr st514 ?_
        have e514' : T514.heap = T500.heap := e514
        show Goes p e below _ (T514.setTop (mkF m 163 (own_lw x0 x1 x2 x3 x4 x5 bp x_ dg mk w_ ya yb yc dd b1 b5) [(.int (0 : Int32))]))
        refine Goes.via (fun _ kk_ => XS.pop X514.here hx rfl (hb hby at_163) rfl rfl kk_) ?_
        show Goes p e below _ (T514.setTop (mkF m 164 (own_lw x0 x1 x2 x3 x4 x5 bp x_ dg mk w_ ya yb yc dd b1 b5) []))
        have K516 : Keep h0 T500.heap [] := ((K482.ext E481).trans K500 (allS (Or.inr sz_b481) all0))
        have f517 := ((f490.ext E481).keep K500 (ninS ne491 nin0))
        have hEq := e514'
        rw [← hEq] at K516 f502 f505 f517
        exact J164 _ (pA :: []) (pA :: []) (pA :: []) _ _ (X514.more (by decide) (by decide)) N500 K516 f502 f505 f517 hcn445 ((if_neg hA).symm) ((if_pos (Or.inl hBo)).symm) ((if_pos (Or.inl hCo)).symm)
      · skip
        by_cases hC : yc = ya
        · skip
          refine gAL X479 hx hby at_146 rfl rfl ?_
          obtain ⟨T518, h518, X518, e518, E518, A518, D518, -, st518⟩ := newO X479 hx hZ hown (own_w hw 27 rfl) (own_w hw 28 rfl) (own_w hw 29 rfl) e479' (g := (mkF m 148 (own_lw x0 x1 x2 x3 x4 x5 bp x_ dg mk w_ ya yb yc dd b1 b5) [(.ref b5)])) rfl (hb hby at_148) (by first | decide | omega | (dsimp only; omega)) (by first | decide | omega | (dsimp only; omega))
          obtain ⟨b518, g518⟩ : ∃ z, z = (T465.heap).size := ⟨_, rfl⟩
          rw [← g518] at A518 D518 st518
          have K519 : Keep h0 T465.heap [] := ((K447.ext E446).trans K465 (allS (Or.inr sz_b446) all0))
          have lne522 : b1 < b518 := Nat.lt_of_lt_of_le f476.lt (Nat.le_of_eq g518.symm)
          have ne522 : b1 ≠ b518 := Nat.ne_of_lt lne522
          have lne523 : b5 < b518 := Nat.lt_of_lt_of_le f467.lt (Nat.le_of_eq g518.symm)
          have ne523 : b5 ≠ b518 := Nat.ne_of_lt lne523
          have lne524 : b11 < b518 := Nat.lt_of_lt_of_le f472.lt (Nat.le_of_eq g518.symm)
          have ne524 : b11 ≠ b518 := Nat.ne_of_lt lne524
          have f525 := ((u436_0.ext E446).keep K465)
          have lne526 : al33 < b518 := Nat.lt_of_lt_of_le f525.lt (Nat.le_of_eq g518.symm)
          have ne526 : al33 ≠ b518 := Nat.ne_of_lt lne526
          have f527 := ((u436_7.ext E446).keep K465 (ninS ne457 nin0))
          have lne528 : ws33 < b518 := Nat.lt_of_lt_of_le f527.lt (Nat.le_of_eq g518.symm)
          have ne528 : ws33 ≠ b518 := Nat.ne_of_lt lne528
          have f529 := ((f458.ext E446).keep K465)
          have lne530 : b399 < b518 := Nat.lt_of_lt_of_le f529.lt (Nat.le_of_eq g518.symm)
          have ne530 : b399 ≠ b518 := Nat.ne_of_lt lne530
          have f531 := ((u436_5.ext E446).keep K465 (ninS ne460 nin0))
          have lne532 : nb436 < b518 := Nat.lt_of_lt_of_le f531.lt (Nat.le_of_eq g518.symm)
          have ne532 : nb436 ≠ b518 := Nat.ne_of_lt lne532
          have sz_b518 : h0.size ≤ b518 := Nat.le_trans z480 (Nat.le_of_eq g518.symm)
          have gn_b518 : n0 ≤ b518 := Nat.le_trans Z0 sz_b518
          have F_space_b518 : Fld Z h518 b518 "nearhop/model/Id" "space" "Lnearhop/model/IdSpace;" .null := D518 (Or.inr (own_w hw 35 rfl)) (ty := (.object "nearhop/model/IdSpace")) (by decide)
          have F_high_b518 : Fld Z h518 b518 "nearhop/model/Id" "high" "J" (.long (0 : Int64)) := D518 (Or.inr (own_w hw 50 rfl)) (ty := .long) (by decide)
          have F_low_b518 : Fld Z h518 b518 "nearhop/model/Id" "low" "J" (.long (0 : Int64)) := D518 (Or.inr (own_w hw 55 rfl)) (ty := .long) (by decide)
          refine Goes.via st518 ?_
          show Goes p e below _ (T518.setTop (mkF m 151 (own_lw x0 x1 x2 x3 x4 x5 bp x_ dg mk w_ ya yb yc dd b1 b5) [(.ref b518), (.ref b5)]))
          refine gDU X518 hx hby at_151 rfl ?_
          refine gAL X518 hx hby at_152 rfl rfl ?_
          refine Goes.via (fun _ kk_ => XS.lconst X518.here hx rfl (hb hby at_154) kk_) ?_
          show Goes p e below _ (T518.setTop (mkF m 155 (own_lw x0 x1 x2 x3 x4 x5 bp x_ dg mk w_ ya yb yc dd b1 b5) [(.long (0 : Int64)), (.ref b1), (.ref b518), (.ref b518), (.ref b5)]))
          refine Goes.via (fun _ kk_ => XS.lload X518.here hx rfl (hb hby at_155) rfl  kk_) ?_
          show Goes p e below _ (T518.setTop (mkF m 157 (own_lw x0 x1 x2 x3 x4 x5 bp x_ dg mk w_ ya yb yc dd b1 b5) [(.long yc), (.long (0 : Int64)), (.ref b1), (.ref b518), (.ref b518), (.ref b5)]))
          have f534 := (f476.ext E518)
          have f535 := (f477.ext E518)
          have f536 := (f478.ext E518)
          have z538 : h0.size ≤ (h518).size := (Nat.le_trans z480 E518.1)
          obtain ⟨_, _, ⟨T537, L537, k537, n537⟩, -, X537, ⟨Lc537, hQ537, l537, y537, z537⟩, st537⟩ := X518.specialBack hx (y := mN_Id_init) rfl hown (mvT hZ (own_w hw 30 rfl)) (mvT hZ (own_w hw 31 rfl)) (mvT hZ (own_w hw 32 rfl)) (by decide) (backOf (W := 2) (rm5 l Z a0 hw [] b518 b1 yc x_ dg bp h518 n0 (Nat.le_trans Z0 z538) A518 F_space_b518 F_high_b518 F_low_b518 gn_b518 f534 f535 f536 (by first | assumption | rfl | decide | omega | (simp; done)) (by first | assumption | rfl | decide | omega | (simp; done)) (by first | assumption | rfl | decide | omega | (simp; done)) (by first | assumption | rfl | decide | omega | (simp; done))) hZ (own_w hw 32 rfl) (own_w hw 29 rfl) (by decide) (by decide)) (g := (mkF m 157 (own_lw x0 x1 x2 x3 x4 x5 bp x_ dg mk w_ ya yb yc dd b1 b5) [(.long yc), (.long (0 : Int64)), (.ref b1), (.ref b518), (.ref b518), (.ref b5)])) rfl (by rw [hml]; rfl) (Steps.refl _) (a := b518) (argsL := [(.ref b1), (.long (0 : Int64)), (.long yc)]) (rest := [(.ref b518), (.ref b5)]) (lenOf pd_17 rfl) rfl (by show 2 * 0 + _ ≤ _; exact Nat.le_of_eq rfl) (hb hby at_157) (fun _ _ => ⟨rfl, e518, (by decide : 9 + 0 ≤ _), (by decide : 39 + 0 ≤ _)⟩)
          dsimp only [Pt.U, Pt.locs, Pt.cells, Pt.slots] at X537 l537 y537 z537 st537 hQ537
          replace l537 := l537.symm
          subst l537 y537 z537
          obtain ⟨rfl, N537q, K537, u537_0, u537_1, u537_2, u537_3⟩ := hQ537
          have N537 := Fr.app N465 N537q
          refine Goes.tr st537 ?_
          show Goes p e below _ (T537.setTop (mkF m 160 (own_lw x0 x1 x2 x3 x4 x5 bp x_ dg mk w_ ya yb yc dd b1 b5) [(.ref b518), (.ref b5)]))
          have hpC' := hpC hCo
          have f539 := ((f467.ext E518).keep K537)
          have f540 := ((f468.ext E518).keep K537 (ninS ne523 nin0))
          have f541 := ((f469.ext E518).keep K537 (ninS ne523 nin0))
          have f542 := ((f470.ext E518).keep K537 (ninS ne523 nin0))
          have f543 := ((f471.ext E518).keep K537 (ninS ne523 nin0))
          have f544 := ((f472.ext E518).keep K537)
          have f545 := ((f473.ext E518).keep K537 (ninS ne524 nin0))
          have f546 := ((f474.ext E518).keep K537 (ninS ne524 nin0))
          have f547 := ((f475.ext E518).keep K537 (ninS ne524 nin0))
          have f548 := (f534.keep K537)
          have f549 := (f535.keep K537 (ninS ne522 nin0))
          have f550 := (f536.keep K537 (ninS ne522 nin0))
          have f551 := ((f525.ext E518).keep K537)
          have f552 := ((((u436_2.ext E446).keep K465 (ninS ne456 nin0)).ext E518).keep K537 (ninS ne526 nin0))
          have f553 := ((((u436_1.ext E446).keep K465 (ninS ne456 nin0)).ext E518).keep K537 (ninS ne526 nin0))
          have f554 := ((f531.ext E518).keep K537 (ninS ne532 nin0))
          have f555 := ((f529.ext E518).keep K537)
          have f556 := (((((u414_1.keep K436 (ninS (Ne.symm ne408) (ninS (Ne.symm ne409) nin0))).ext E446).keep K465 (ninS ne459 nin0)).ext E518).keep K537 (ninS ne530 nin0))
          have f557 := (((((u414_2.keep K436 (ninS (Ne.symm ne408) (ninS (Ne.symm ne409) nin0))).ext E446).keep K465 (ninS ne459 nin0)).ext E518).keep K537 (ninS ne530 nin0))
          have f558 := (((((u414_3.keep K436 (ninS (Ne.symm ne408) (ninS (Ne.symm ne409) nin0))).ext E446).keep K465 (ninS ne459 nin0)).ext E518).keep K537 (ninS ne530 nin0))
          have z560 : h0.size ≤ (T537.heap).size := (Nat.le_trans z538 K537.1)
          obtain ⟨cq559, kq559, q559a, q559b, q559c⟩ := isOf hZ rfl f539
          obtain ⟨_, _, ⟨T559, L559, k559, n559⟩, -, X559, ⟨Lc559, hQ559, l559, y559, z559⟩, st559⟩ := X537.virtualBack hx (y := mN_Block_add) (z := mN_Block_add) hown (mvT hZ (own_w hw 101 rfl)) (mvT hZ (own_w hw 102 rfl)) (notFace_of_selects (args := #[]) (mvT hZ (own_w hw 104 rfl))) (mvT hZ (own_w hw 104 rfl)) (mvT hZ (own_w hw 103 rfl)) (by decide) (backOf (W := 0) (rmAddI1 l Z a0 hw [] b5 b518 al33 b11 ws33 b1 w_ yc x_ dg bp nb436 kb436 (own_upd (fun _ => .null) 0 (.ref b399)) b399 ya T537.heap n0 (Nat.le_trans Z0 z560) f539 f540 f541 f542 f543 f544 u537_0 (Ne.symm ne524) f545 f546 f547 u537_1 u537_2 u537_3 f548 f549 f550 (by first | assumption | rfl | decide | omega | (simp; done)) f551 f552 f553 f554 rfl (Ne.symm ne530) f555 f556 f557 f558 hpC'.2.2.1 hCo (own_in1 hC)) hZ (own_w hw 105 rfl) (own_w hw 26 rfl) (by decide) (by decide)) q559a q559c (g := (mkF m 160 (own_lw x0 x1 x2 x3 x4 x5 bp x_ dg mk w_ ya yb yc dd b1 b5) [(.ref b518), (.ref b5)])) rfl (by rw [hml]; rfl) (Steps.refl _) (argsL := [(.ref b518)]) (rest := []) (lenOf pd_14 rfl) rfl (by show 2 * 0 + _ ≤ _; exact Nat.le_of_eq rfl) (hb hby at_160) (fun _ _ => ⟨rfl, rfl, (by decide : 9 + 0 ≤ _), (by decide : 39 + 0 ≤ _)⟩)
          dsimp only [Pt.U, Pt.locs, Pt.cells, Pt.slots] at X559 l559 y559 z559 st559 hQ559
          replace l559 := l559.symm
          subst l559 y559 z559
          obtain ⟨rfl, rfl, e559⟩ := hQ559
          first | rw [List.append_nil] at X559 | skip
          refine Goes.tr st559 ?_
          have e559' : T559.heap = T537.heap := e559
          show Goes p e below _ (T559.setTop (mkF m 163 (own_lw x0 x1 x2 x3 x4 x5 bp x_ dg mk w_ ya yb yc dd b1 b5) [(.int (0 : Int32))]))
          refine Goes.via (fun _ kk_ => XS.pop X559.here hx rfl (hb hby at_163) rfl rfl kk_) ?_
          show Goes p e below _ (T559.setTop (mkF m 164 (own_lw x0 x1 x2 x3 x4 x5 bp x_ dg mk w_ ya yb yc dd b1 b5) []))
          have K561 : Keep h0 T537.heap [] := ((K519.ext E518).trans K537 (allS (Or.inr sz_b518) all0))
          have f562 := ((f527.ext E518).keep K537 (ninS ne528 nin0))
          have hEq := e559'
          rw [← hEq] at K561 f539 f542 f562
          exact J164 _ (pA :: []) (pA :: []) (pA :: []) _ _ (X559.more (by decide) (by decide)) N537 K561 f539 f542 f562 hcn445 ((if_neg hA).symm) ((if_pos (Or.inl hBo)).symm) ((if_pos (Or.inr (Or.inl hC))).symm)
        · skip
          refine gAL X479 hx hby at_146 rfl rfl ?_
          obtain ⟨T563, h563, X563, e563, E563, A563, D563, -, st563⟩ := newO X479 hx hZ hown (own_w hw 27 rfl) (own_w hw 28 rfl) (own_w hw 29 rfl) e479' (g := (mkF m 148 (own_lw x0 x1 x2 x3 x4 x5 bp x_ dg mk w_ ya yb yc dd b1 b5) [(.ref b5)])) rfl (hb hby at_148) (by first | decide | omega | (dsimp only; omega)) (by first | decide | omega | (dsimp only; omega))
          obtain ⟨b563, g563⟩ : ∃ z, z = (T465.heap).size := ⟨_, rfl⟩
          rw [← g563] at A563 D563 st563
          have K564 : Keep h0 T465.heap [] := ((K447.ext E446).trans K465 (allS (Or.inr sz_b446) all0))
          have lne567 : b1 < b563 := Nat.lt_of_lt_of_le f476.lt (Nat.le_of_eq g563.symm)
          have ne567 : b1 ≠ b563 := Nat.ne_of_lt lne567
          have lne568 : b5 < b563 := Nat.lt_of_lt_of_le f467.lt (Nat.le_of_eq g563.symm)
          have ne568 : b5 ≠ b563 := Nat.ne_of_lt lne568
          have lne569 : b11 < b563 := Nat.lt_of_lt_of_le f472.lt (Nat.le_of_eq g563.symm)
          have ne569 : b11 ≠ b563 := Nat.ne_of_lt lne569
          have f570 := ((u436_0.ext E446).keep K465)
          have lne571 : al33 < b563 := Nat.lt_of_lt_of_le f570.lt (Nat.le_of_eq g563.symm)
          have ne571 : al33 ≠ b563 := Nat.ne_of_lt lne571
          have f572 := ((u436_7.ext E446).keep K465 (ninS ne457 nin0))
          have lne573 : ws33 < b563 := Nat.lt_of_lt_of_le f572.lt (Nat.le_of_eq g563.symm)
          have ne573 : ws33 ≠ b563 := Nat.ne_of_lt lne573
          have f574 := ((f458.ext E446).keep K465)
          have lne575 : b399 < b563 := Nat.lt_of_lt_of_le f574.lt (Nat.le_of_eq g563.symm)
          have ne575 : b399 ≠ b563 := Nat.ne_of_lt lne575
          have f576 := ((u436_5.ext E446).keep K465 (ninS ne460 nin0))
          have lne577 : nb436 < b563 := Nat.lt_of_lt_of_le f576.lt (Nat.le_of_eq g563.symm)
          have ne577 : nb436 ≠ b563 := Nat.ne_of_lt lne577
          have sz_b563 : h0.size ≤ b563 := Nat.le_trans z480 (Nat.le_of_eq g563.symm)
          have gn_b563 : n0 ≤ b563 := Nat.le_trans Z0 sz_b563
          have F_space_b563 : Fld Z h563 b563 "nearhop/model/Id" "space" "Lnearhop/model/IdSpace;" .null := D563 (Or.inr (own_w hw 35 rfl)) (ty := (.object "nearhop/model/IdSpace")) (by decide)
          have F_high_b563 : Fld Z h563 b563 "nearhop/model/Id" "high" "J" (.long (0 : Int64)) := D563 (Or.inr (own_w hw 50 rfl)) (ty := .long) (by decide)
          have F_low_b563 : Fld Z h563 b563 "nearhop/model/Id" "low" "J" (.long (0 : Int64)) := D563 (Or.inr (own_w hw 55 rfl)) (ty := .long) (by decide)
          refine Goes.via st563 ?_
          show Goes p e below _ (T563.setTop (mkF m 151 (own_lw x0 x1 x2 x3 x4 x5 bp x_ dg mk w_ ya yb yc dd b1 b5) [(.ref b563), (.ref b5)]))
          refine gDU X563 hx hby at_151 rfl ?_
          refine gAL X563 hx hby at_152 rfl rfl ?_
          refine Goes.via (fun _ kk_ => XS.lconst X563.here hx rfl (hb hby at_154) kk_) ?_
          show Goes p e below _ (T563.setTop (mkF m 155 (own_lw x0 x1 x2 x3 x4 x5 bp x_ dg mk w_ ya yb yc dd b1 b5) [(.long (0 : Int64)), (.ref b1), (.ref b563), (.ref b563), (.ref b5)]))
          refine Goes.via (fun _ kk_ => XS.lload X563.here hx rfl (hb hby at_155) rfl  kk_) ?_
          show Goes p e below _ (T563.setTop (mkF m 157 (own_lw x0 x1 x2 x3 x4 x5 bp x_ dg mk w_ ya yb yc dd b1 b5) [(.long yc), (.long (0 : Int64)), (.ref b1), (.ref b563), (.ref b563), (.ref b5)]))
          have f579 := (f476.ext E563)
          have f580 := (f477.ext E563)
          have f581 := (f478.ext E563)
          have z583 : h0.size ≤ (h563).size := (Nat.le_trans z480 E563.1)
          obtain ⟨_, _, ⟨T582, L582, k582, n582⟩, -, X582, ⟨Lc582, hQ582, l582, y582, z582⟩, st582⟩ := X563.specialBack hx (y := mN_Id_init) rfl hown (mvT hZ (own_w hw 30 rfl)) (mvT hZ (own_w hw 31 rfl)) (mvT hZ (own_w hw 32 rfl)) (by decide) (backOf (W := 2) (rm5 l Z a0 hw [] b563 b1 yc x_ dg bp h563 n0 (Nat.le_trans Z0 z583) A563 F_space_b563 F_high_b563 F_low_b563 gn_b563 f579 f580 f581 (by first | assumption | rfl | decide | omega | (simp; done)) (by first | assumption | rfl | decide | omega | (simp; done)) (by first | assumption | rfl | decide | omega | (simp; done)) (by first | assumption | rfl | decide | omega | (simp; done))) hZ (own_w hw 32 rfl) (own_w hw 29 rfl) (by decide) (by decide)) (g := (mkF m 157 (own_lw x0 x1 x2 x3 x4 x5 bp x_ dg mk w_ ya yb yc dd b1 b5) [(.long yc), (.long (0 : Int64)), (.ref b1), (.ref b563), (.ref b563), (.ref b5)])) rfl (by rw [hml]; rfl) (Steps.refl _) (a := b563) (argsL := [(.ref b1), (.long (0 : Int64)), (.long yc)]) (rest := [(.ref b563), (.ref b5)]) (lenOf pd_17 rfl) rfl (by show 2 * 0 + _ ≤ _; exact Nat.le_of_eq rfl) (hb hby at_157) (fun _ _ => ⟨rfl, e563, (by decide : 9 + 0 ≤ _), (by decide : 39 + 0 ≤ _)⟩)
          dsimp only [Pt.U, Pt.locs, Pt.cells, Pt.slots] at X582 l582 y582 z582 st582 hQ582
          replace l582 := l582.symm
          subst l582 y582 z582
          obtain ⟨rfl, N582q, K582, u582_0, u582_1, u582_2, u582_3⟩ := hQ582
          have N582 := Fr.app N465 N582q
          refine Goes.tr st582 ?_
          show Goes p e below _ (T582.setTop (mkF m 160 (own_lw x0 x1 x2 x3 x4 x5 bp x_ dg mk w_ ya yb yc dd b1 b5) [(.ref b563), (.ref b5)]))
          have hpC' := hpC hCo
          have f584 := ((f467.ext E563).keep K582)
          have f585 := ((f468.ext E563).keep K582 (ninS ne568 nin0))
          have f586 := ((f469.ext E563).keep K582 (ninS ne568 nin0))
          have f587 := ((f470.ext E563).keep K582 (ninS ne568 nin0))
          have f588 := ((f471.ext E563).keep K582 (ninS ne568 nin0))
          have f589 := ((f472.ext E563).keep K582)
          have f590 := ((f473.ext E563).keep K582 (ninS ne569 nin0))
          have f591 := ((f474.ext E563).keep K582 (ninS ne569 nin0))
          have f592 := ((f475.ext E563).keep K582 (ninS ne569 nin0))
          have f593 := (f579.keep K582)
          have f594 := (f580.keep K582 (ninS ne567 nin0))
          have f595 := (f581.keep K582 (ninS ne567 nin0))
          have f596 := ((f570.ext E563).keep K582)
          have f597 := ((((u436_2.ext E446).keep K465 (ninS ne456 nin0)).ext E563).keep K582 (ninS ne571 nin0))
          have f598 := ((((u436_1.ext E446).keep K465 (ninS ne456 nin0)).ext E563).keep K582 (ninS ne571 nin0))
          have f599 := ((f576.ext E563).keep K582 (ninS ne577 nin0))
          have f600 := ((f574.ext E563).keep K582)
          have f601 := (((((u414_1.keep K436 (ninS (Ne.symm ne408) (ninS (Ne.symm ne409) nin0))).ext E446).keep K465 (ninS ne459 nin0)).ext E563).keep K582 (ninS ne575 nin0))
          have f602 := (((((u414_2.keep K436 (ninS (Ne.symm ne408) (ninS (Ne.symm ne409) nin0))).ext E446).keep K465 (ninS ne459 nin0)).ext E563).keep K582 (ninS ne575 nin0))
          have f603 := (((((u414_3.keep K436 (ninS (Ne.symm ne408) (ninS (Ne.symm ne409) nin0))).ext E446).keep K465 (ninS ne459 nin0)).ext E563).keep K582 (ninS ne575 nin0))
          have f604 := ((((u436_3.ext E446).keep K465 (ninS ne456 nin0)).ext E563).keep K582 (ninS ne571 nin0))
          have f605 := ((f572.ext E563).keep K582 (ninS ne573 nin0))
          have z607 : h0.size ≤ (T582.heap).size := (Nat.le_trans z583 K582.1)
          obtain ⟨cq606, kq606, q606a, q606b, q606c⟩ := isOf hZ rfl f584
          obtain ⟨_, _, ⟨T606, L606, k606, n606⟩, -, X606, ⟨Lc606, hQ606, l606, y606, z606⟩, st606⟩ := X582.virtualBack hx (y := mN_Block_add) (z := mN_Block_add) hown (mvT hZ (own_w hw 101 rfl)) (mvT hZ (own_w hw 102 rfl)) (notFace_of_selects (args := #[]) (mvT hZ (own_w hw 104 rfl))) (mvT hZ (own_w hw 104 rfl)) (mvT hZ (own_w hw 103 rfl)) (by decide) (backOf (W := 0) (rmAddY1 l Z a0 hw [] b5 b563 al33 b11 ws33 b1 w_ yc x_ dg bp kw33 nd (own_upd (fun _ => (.int 0)) pA (.int ((own_cnt [] pA) + (1 : Int32)))) pC (own_cnt (pA :: []) pC) ((0 : Int32) + (1 : Int32)) nb436 kb436 (own_upd (fun _ => .null) 0 (.ref b399)) b399 ya T582.heap n0 (Nat.le_trans Z0 z607) f584 f585 f586 f587 f588 f589 u582_0 (Ne.symm ne569) f590 f591 f592 u582_1 u582_2 u582_3 f593 f594 f595 (by first | assumption | rfl | decide | omega | (simp; done)) f596 f597 f598 f599 rfl (Ne.symm ne575) f600 f601 f602 f603 f604 hCo f605 (hcn445 pC) hpC'.1 hpC'.2.1 gn_al33 gn_ws33 hpC'.2.2.1 gn_nb436 ne44 ne444 (Ne.symm ne442) u436_6 (if_neg hC)) hZ (own_w hw 105 rfl) (own_w hw 26 rfl) (by decide) (by decide)) q606a q606c (g := (mkF m 160 (own_lw x0 x1 x2 x3 x4 x5 bp x_ dg mk w_ ya yb yc dd b1 b5) [(.ref b563), (.ref b5)])) rfl (by rw [hml]; rfl) (Steps.refl _) (argsL := [(.ref b563)]) (rest := []) (lenOf pd_14 rfl) rfl (by show 2 * 0 + _ ≤ _; exact Nat.le_of_eq rfl) (hb hby at_160) (fun _ _ => ⟨rfl, rfl, (by decide : 9 + 0 ≤ _), (by decide : 39 + 0 ≤ _)⟩)
          dsimp only [Pt.U, Pt.locs, Pt.cells, Pt.slots] at X606 l606 y606 z606 st606 hQ606
          replace l606 := l606.symm
          subst l606 y606 z606
          obtain ⟨rfl, N606q, K606, u606_0, u606_1, u606_2, u606_3, u606_4, u606_5⟩ := hQ606
          have N606 := Fr.app N582 N606q
          refine Goes.tr st606 ?_
          show Goes p e below _ (T606.setTop (mkF m 163 (own_lw x0 x1 x2 x3 x4 x5 bp x_ dg mk w_ ya yb yc dd b1 b5) [(.int (1 : Int32))]))
          have hcn608 : ∀ i, (own_upd (own_upd (fun _ => (.int 0)) pA (.int ((own_cnt [] pA) + (1 : Int32)))) pC (.int ((own_cnt (pA :: []) pC) + (1 : Int32)))) i = .int (own_cnt (pC :: (pA :: [])) i) := own_upV hcn445
          refine Goes.via (fun _ kk_ => XS.pop X606.here hx rfl (hb hby at_163) rfl rfl kk_) ?_
          show Goes p e below _ (T606.setTop (mkF m 164 (own_lw x0 x1 x2 x3 x4 x5 bp x_ dg mk w_ ya yb yc dd b1 b5) []))
          have K609 : Keep h0 T606.heap [] := (((K564.ext E563).trans K582 (allS (Or.inr sz_b563) all0)).trans K606 (allS (Or.inr sz_al33) (allS (Or.inr sz_nb436) (allS (Or.inr sz_ws33) all0))))
          have f610 := (f584.keep K606)
          have f611 := (f587.keep K606 (ninS ne42 (ninS ne440 (ninS ne43 nin0))))
          exact J164 _ (pA :: []) (pA :: []) (pC :: (pA :: [])) _ _ (X606.more (by decide) (by decide)) N606 K609 f610 f611 u606_5 hcn608 ((if_neg hA).symm) ((if_pos (Or.inl hBo)).symm) ((if_neg (fun z => z.elim hCo (fun z => z.elim (fun q => hC q) (fun z => hCo (z.trans hBo))))).symm)
    · skip
      by_cases hB : yb = ya
      · skip
        refine gAL X436 hx hby at_128 rfl rfl ?_
        obtain ⟨T612, h612, X612, e612, E612, A612, D612, -, st612⟩ := newO X436 hx hZ hown (own_w hw 27 rfl) (own_w hw 28 rfl) (own_w hw 29 rfl) rfl (g := (mkF m 130 (own_lw x0 x1 x2 x3 x4 x5 bp x_ dg mk w_ ya yb yc dd b1 b5) [(.ref b5)])) rfl (hb hby at_130) (by first | decide | omega | (dsimp only; omega)) (by first | decide | omega | (dsimp only; omega))
        obtain ⟨b612, g612⟩ : ∃ z, z = (T436.heap).size := ⟨_, rfl⟩
        rw [← g612] at A612 D612 st612
        have K613 : Keep h0 T436.heap [] := (K433.trans K436 (allS (Or.inr sz_al33) (allS (Or.inr sz_ws33) all0)))
        have f616 := (f425.keep K436)
        have lne617 : b1 < b612 := Nat.lt_of_lt_of_le f616.lt (Nat.le_of_eq g612.symm)
        have ne617 : b1 ≠ b612 := Nat.ne_of_lt lne617
        have f618 := (f416.keep K436)
        have lne619 : b5 < b612 := Nat.lt_of_lt_of_le f618.lt (Nat.le_of_eq g612.symm)
        have ne619 : b5 ≠ b612 := Nat.ne_of_lt lne619
        have f620 := (f421.keep K436)
        have lne621 : b11 < b612 := Nat.lt_of_lt_of_le f620.lt (Nat.le_of_eq g612.symm)
        have ne621 : b11 ≠ b612 := Nat.ne_of_lt lne621
        have lne622 : al33 < b612 := Nat.lt_of_lt_of_le u436_0.lt (Nat.le_of_eq g612.symm)
        have ne622 : al33 ≠ b612 := Nat.ne_of_lt lne622
        have lne623 : ws33 < b612 := Nat.lt_of_lt_of_le u436_7.lt (Nat.le_of_eq g612.symm)
        have ne623 : ws33 ≠ b612 := Nat.ne_of_lt lne623
        have f624 := (u414_0.keep K436)
        have lne625 : b399 < b612 := Nat.lt_of_lt_of_le f624.lt (Nat.le_of_eq g612.symm)
        have ne625 : b399 ≠ b612 := Nat.ne_of_lt lne625
        have lne626 : nb436 < b612 := Nat.lt_of_lt_of_le u436_5.lt (Nat.le_of_eq g612.symm)
        have ne626 : nb436 ≠ b612 := Nat.ne_of_lt lne626
        have z627 : h0.size ≤ (T436.heap).size := (Nat.le_trans z437 K436.1)
        have sz_b612 : h0.size ≤ b612 := Nat.le_trans z627 (Nat.le_of_eq g612.symm)
        have gn_b612 : n0 ≤ b612 := Nat.le_trans Z0 sz_b612
        have F_space_b612 : Fld Z h612 b612 "nearhop/model/Id" "space" "Lnearhop/model/IdSpace;" .null := D612 (Or.inr (own_w hw 35 rfl)) (ty := (.object "nearhop/model/IdSpace")) (by decide)
        have F_high_b612 : Fld Z h612 b612 "nearhop/model/Id" "high" "J" (.long (0 : Int64)) := D612 (Or.inr (own_w hw 50 rfl)) (ty := .long) (by decide)
        have F_low_b612 : Fld Z h612 b612 "nearhop/model/Id" "low" "J" (.long (0 : Int64)) := D612 (Or.inr (own_w hw 55 rfl)) (ty := .long) (by decide)
        refine Goes.via st612 ?_
        show Goes p e below _ (T612.setTop (mkF m 133 (own_lw x0 x1 x2 x3 x4 x5 bp x_ dg mk w_ ya yb yc dd b1 b5) [(.ref b612), (.ref b5)]))
        refine gDU X612 hx hby at_133 rfl ?_
        refine gAL X612 hx hby at_134 rfl rfl ?_
        refine Goes.via (fun _ kk_ => XS.lconst X612.here hx rfl (hb hby at_136) kk_) ?_
        show Goes p e below _ (T612.setTop (mkF m 137 (own_lw x0 x1 x2 x3 x4 x5 bp x_ dg mk w_ ya yb yc dd b1 b5) [(.long (0 : Int64)), (.ref b1), (.ref b612), (.ref b612), (.ref b5)]))
        refine Goes.via (fun _ kk_ => XS.lload X612.here hx rfl (hb hby at_137) rfl  kk_) ?_
        show Goes p e below _ (T612.setTop (mkF m 139 (own_lw x0 x1 x2 x3 x4 x5 bp x_ dg mk w_ ya yb yc dd b1 b5) [(.long yb), (.long (0 : Int64)), (.ref b1), (.ref b612), (.ref b612), (.ref b5)]))
        have f628 := (f616.ext E612)
        have f629 := ((f426.keep K436 (ninS ne37 (ninS ne40 nin0))).ext E612)
        have f630 := ((f427.keep K436 (ninS ne37 (ninS ne40 nin0))).ext E612)
        have z632 : h0.size ≤ (h612).size := (Nat.le_trans z627 E612.1)
        obtain ⟨_, _, ⟨T631, L631, k631, n631⟩, -, X631, ⟨Lc631, hQ631, l631, y631, z631⟩, st631⟩ := X612.specialBack hx (y := mN_Id_init) rfl hown (mvT hZ (own_w hw 30 rfl)) (mvT hZ (own_w hw 31 rfl)) (mvT hZ (own_w hw 32 rfl)) (by decide) (backOf (W := 2) (rm5 l Z a0 hw [] b612 b1 yb x_ dg bp h612 n0 (Nat.le_trans Z0 z632) A612 F_space_b612 F_high_b612 F_low_b612 gn_b612 f628 f629 f630 (by first | assumption | rfl | decide | omega | (simp; done)) (by first | assumption | rfl | decide | omega | (simp; done)) (by first | assumption | rfl | decide | omega | (simp; done)) (by first | assumption | rfl | decide | omega | (simp; done))) hZ (own_w hw 32 rfl) (own_w hw 29 rfl) (by decide) (by decide)) (g := (mkF m 139 (own_lw x0 x1 x2 x3 x4 x5 bp x_ dg mk w_ ya yb yc dd b1 b5) [(.long yb), (.long (0 : Int64)), (.ref b1), (.ref b612), (.ref b612), (.ref b5)])) rfl (by rw [hml]; rfl) (Steps.refl _) (a := b612) (argsL := [(.ref b1), (.long (0 : Int64)), (.long yb)]) (rest := [(.ref b612), (.ref b5)]) (lenOf pd_17 rfl) rfl (by show 2 * 0 + _ ≤ _; exact Nat.le_of_eq rfl) (hb hby at_139) (fun _ _ => ⟨rfl, e612, (by decide : 8 + 0 ≤ _), (by decide : 36 + 0 ≤ _)⟩)
        dsimp only [Pt.U, Pt.locs, Pt.cells, Pt.slots] at X631 l631 y631 z631 st631 hQ631
        replace l631 := l631.symm
        subst l631 y631 z631
        obtain ⟨rfl, N631q, K631, u631_0, u631_1, u631_2, u631_3⟩ := hQ631
        have N631 := Fr.app N436 N631q
        refine Goes.tr st631 ?_
        show Goes p e below _ (T631.setTop (mkF m 142 (own_lw x0 x1 x2 x3 x4 x5 bp x_ dg mk w_ ya yb yc dd b1 b5) [(.ref b612), (.ref b5)]))
        have hpB' := hpB hBo
        have f633 := ((f618.ext E612).keep K631)
        have f634 := (((f417.keep K436 (ninS ne42 (ninS ne43 nin0))).ext E612).keep K631 (ninS ne619 nin0))
        have f635 := (((f418.keep K436 (ninS ne42 (ninS ne43 nin0))).ext E612).keep K631 (ninS ne619 nin0))
        have f636 := (((f419.keep K436 (ninS ne42 (ninS ne43 nin0))).ext E612).keep K631 (ninS ne619 nin0))
        have f637 := (((f420.keep K436 (ninS ne42 (ninS ne43 nin0))).ext E612).keep K631 (ninS ne619 nin0))
        have f638 := ((f620.ext E612).keep K631)
        have f639 := (((f422.keep K436 (ninS ne38 (ninS ne41 nin0))).ext E612).keep K631 (ninS ne621 nin0))
        have f640 := (((f423.keep K436 (ninS ne38 (ninS ne41 nin0))).ext E612).keep K631 (ninS ne621 nin0))
        have f641 := (((f424.keep K436 (ninS ne38 (ninS ne41 nin0))).ext E612).keep K631 (ninS ne621 nin0))
        have f642 := (f628.keep K631)
        have f643 := (f629.keep K631 (ninS ne617 nin0))
        have f644 := (f630.keep K631 (ninS ne617 nin0))
        have f645 := ((u436_0.ext E612).keep K631)
        have f646 := ((u436_2.ext E612).keep K631 (ninS ne622 nin0))
        have f647 := ((u436_1.ext E612).keep K631 (ninS ne622 nin0))
        have f648 := ((u436_5.ext E612).keep K631 (ninS ne626 nin0))
        have f649 := ((f624.ext E612).keep K631)
        have f650 := (((u414_1.keep K436 (ninS (Ne.symm ne408) (ninS (Ne.symm ne409) nin0))).ext E612).keep K631 (ninS ne625 nin0))
        have f651 := (((u414_2.keep K436 (ninS (Ne.symm ne408) (ninS (Ne.symm ne409) nin0))).ext E612).keep K631 (ninS ne625 nin0))
        have f652 := (((u414_3.keep K436 (ninS (Ne.symm ne408) (ninS (Ne.symm ne409) nin0))).ext E612).keep K631 (ninS ne625 nin0))
        have z654 : h0.size ≤ (T631.heap).size := (Nat.le_trans z632 K631.1)
        obtain ⟨cq653, kq653, q653a, q653b, q653c⟩ := isOf hZ rfl f633
        obtain ⟨_, _, ⟨T653, L653, k653, n653⟩, -, X653, ⟨Lc653, hQ653, l653, y653, z653⟩, st653⟩ := X631.virtualBack hx (y := mN_Block_add) (z := mN_Block_add) hown (mvT hZ (own_w hw 101 rfl)) (mvT hZ (own_w hw 102 rfl)) (notFace_of_selects (args := #[]) (mvT hZ (own_w hw 104 rfl))) (mvT hZ (own_w hw 104 rfl)) (mvT hZ (own_w hw 103 rfl)) (by decide) (backOf (W := 0) (rmAddI1 l Z a0 hw [] b5 b612 al33 b11 ws33 b1 w_ yb x_ dg bp nb436 kb436 (own_upd (fun _ => .null) 0 (.ref b399)) b399 ya T631.heap n0 (Nat.le_trans Z0 z654) f633 f634 f635 f636 f637 f638 u631_0 (Ne.symm ne621) f639 f640 f641 u631_1 u631_2 u631_3 f642 f643 f644 (by first | assumption | rfl | decide | omega | (simp; done)) f645 f646 f647 f648 rfl (Ne.symm ne625) f649 f650 f651 f652 hpB'.2.2.1 hBo (own_in1 hB)) hZ (own_w hw 105 rfl) (own_w hw 26 rfl) (by decide) (by decide)) q653a q653c (g := (mkF m 142 (own_lw x0 x1 x2 x3 x4 x5 bp x_ dg mk w_ ya yb yc dd b1 b5) [(.ref b612), (.ref b5)])) rfl (by rw [hml]; rfl) (Steps.refl _) (argsL := [(.ref b612)]) (rest := []) (lenOf pd_14 rfl) rfl (by show 2 * 0 + _ ≤ _; exact Nat.le_of_eq rfl) (hb hby at_142) (fun _ _ => ⟨rfl, rfl, (by decide : 8 + 0 ≤ _), (by decide : 36 + 0 ≤ _)⟩)
        dsimp only [Pt.U, Pt.locs, Pt.cells, Pt.slots] at X653 l653 y653 z653 st653 hQ653
        replace l653 := l653.symm
        subst l653 y653 z653
        obtain ⟨rfl, rfl, e653⟩ := hQ653
        first | rw [List.append_nil] at X653 | skip
        refine Goes.tr st653 ?_
        have e653' : T653.heap = T631.heap := e653
        show Goes p e below _ (T653.setTop (mkF m 145 (own_lw x0 x1 x2 x3 x4 x5 bp x_ dg mk w_ ya yb yc dd b1 b5) [(.int (0 : Int32))]))
        refine Goes.via (fun _ kk_ => XS.pop X653.here hx rfl (hb hby at_145) rfl rfl kk_) ?_
        show Goes p e below _ (T653.setTop (mkF m 146 (own_lw x0 x1 x2 x3 x4 x5 bp x_ dg mk w_ ya yb yc dd b1 b5) []))
        by_cases hCo : yc = w_
        · skip
          refine gAL X653 hx hby at_146 rfl rfl ?_
          obtain ⟨T655, h655, X655, e655, E655, A655, D655, -, st655⟩ := newO X653 hx hZ hown (own_w hw 27 rfl) (own_w hw 28 rfl) (own_w hw 29 rfl) e653' (g := (mkF m 148 (own_lw x0 x1 x2 x3 x4 x5 bp x_ dg mk w_ ya yb yc dd b1 b5) [(.ref b5)])) rfl (hb hby at_148) (by first | decide | omega | (dsimp only; omega)) (by first | decide | omega | (dsimp only; omega))
          obtain ⟨b655, g655⟩ : ∃ z, z = (T631.heap).size := ⟨_, rfl⟩
          rw [← g655] at A655 D655 st655
          have K656 : Keep h0 T631.heap [] := ((K613.ext E612).trans K631 (allS (Or.inr sz_b612) all0))
          have lne659 : b1 < b655 := Nat.lt_of_lt_of_le f642.lt (Nat.le_of_eq g655.symm)
          have ne659 : b1 ≠ b655 := Nat.ne_of_lt lne659
          have lne660 : b5 < b655 := Nat.lt_of_lt_of_le f633.lt (Nat.le_of_eq g655.symm)
          have ne660 : b5 ≠ b655 := Nat.ne_of_lt lne660
          have lne661 : b11 < b655 := Nat.lt_of_lt_of_le f638.lt (Nat.le_of_eq g655.symm)
          have ne661 : b11 ≠ b655 := Nat.ne_of_lt lne661
          have f663 := ((u436_7.ext E612).keep K631 (ninS ne623 nin0))
          have lne664 : ws33 < b655 := Nat.lt_of_lt_of_le f663.lt (Nat.le_of_eq g655.symm)
          have ne664 : ws33 ≠ b655 := Nat.ne_of_lt lne664
          have sz_b655 : h0.size ≤ b655 := Nat.le_trans z654 (Nat.le_of_eq g655.symm)
          have gn_b655 : n0 ≤ b655 := Nat.le_trans Z0 sz_b655
          have F_space_b655 : Fld Z h655 b655 "nearhop/model/Id" "space" "Lnearhop/model/IdSpace;" .null := D655 (Or.inr (own_w hw 35 rfl)) (ty := (.object "nearhop/model/IdSpace")) (by decide)
          have F_high_b655 : Fld Z h655 b655 "nearhop/model/Id" "high" "J" (.long (0 : Int64)) := D655 (Or.inr (own_w hw 50 rfl)) (ty := .long) (by decide)
          have F_low_b655 : Fld Z h655 b655 "nearhop/model/Id" "low" "J" (.long (0 : Int64)) := D655 (Or.inr (own_w hw 55 rfl)) (ty := .long) (by decide)
          refine Goes.via st655 ?_
          show Goes p e below _ (T655.setTop (mkF m 151 (own_lw x0 x1 x2 x3 x4 x5 bp x_ dg mk w_ ya yb yc dd b1 b5) [(.ref b655), (.ref b5)]))
          refine gDU X655 hx hby at_151 rfl ?_
          refine gAL X655 hx hby at_152 rfl rfl ?_
          refine Goes.via (fun _ kk_ => XS.lconst X655.here hx rfl (hb hby at_154) kk_) ?_
          show Goes p e below _ (T655.setTop (mkF m 155 (own_lw x0 x1 x2 x3 x4 x5 bp x_ dg mk w_ ya yb yc dd b1 b5) [(.long (0 : Int64)), (.ref b1), (.ref b655), (.ref b655), (.ref b5)]))
          refine Goes.via (fun _ kk_ => XS.lload X655.here hx rfl (hb hby at_155) rfl  kk_) ?_
          show Goes p e below _ (T655.setTop (mkF m 157 (own_lw x0 x1 x2 x3 x4 x5 bp x_ dg mk w_ ya yb yc dd b1 b5) [(.long yc), (.long (0 : Int64)), (.ref b1), (.ref b655), (.ref b655), (.ref b5)]))
          have f668 := (f642.ext E655)
          have f669 := (f643.ext E655)
          have f670 := (f644.ext E655)
          have z672 : h0.size ≤ (h655).size := (Nat.le_trans z654 E655.1)
          obtain ⟨_, _, ⟨T671, L671, k671, n671⟩, -, X671, ⟨Lc671, hQ671, l671, y671, z671⟩, st671⟩ := X655.specialBack hx (y := mN_Id_init) rfl hown (mvT hZ (own_w hw 30 rfl)) (mvT hZ (own_w hw 31 rfl)) (mvT hZ (own_w hw 32 rfl)) (by decide) (backOf (W := 2) (rm5 l Z a0 hw [] b655 b1 yc x_ dg bp h655 n0 (Nat.le_trans Z0 z672) A655 F_space_b655 F_high_b655 F_low_b655 gn_b655 f668 f669 f670 (by first | assumption | rfl | decide | omega | (simp; done)) (by first | assumption | rfl | decide | omega | (simp; done)) (by first | assumption | rfl | decide | omega | (simp; done)) (by first | assumption | rfl | decide | omega | (simp; done))) hZ (own_w hw 32 rfl) (own_w hw 29 rfl) (by decide) (by decide)) (g := (mkF m 157 (own_lw x0 x1 x2 x3 x4 x5 bp x_ dg mk w_ ya yb yc dd b1 b5) [(.long yc), (.long (0 : Int64)), (.ref b1), (.ref b655), (.ref b655), (.ref b5)])) rfl (by rw [hml]; rfl) (Steps.refl _) (a := b655) (argsL := [(.ref b1), (.long (0 : Int64)), (.long yc)]) (rest := [(.ref b655), (.ref b5)]) (lenOf pd_17 rfl) rfl (by show 2 * 0 + _ ≤ _; exact Nat.le_of_eq rfl) (hb hby at_157) (fun _ _ => ⟨rfl, e655, (by decide : 9 + 0 ≤ _), (by decide : 39 + 0 ≤ _)⟩)
          dsimp only [Pt.U, Pt.locs, Pt.cells, Pt.slots] at X671 l671 y671 z671 st671 hQ671
          replace l671 := l671.symm
          subst l671 y671 z671
          obtain ⟨rfl, N671q, K671, u671_0, u671_1, u671_2, u671_3⟩ := hQ671
          have N671 := Fr.app N631 N671q
          refine Goes.tr st671 ?_
          show Goes p e below _ (T671.setTop (mkF m 160 (own_lw x0 x1 x2 x3 x4 x5 bp x_ dg mk w_ ya yb yc dd b1 b5) [(.ref b655), (.ref b5)]))
          have f673 := ((f633.ext E655).keep K671)
          have f674 := ((f634.ext E655).keep K671 (ninS ne660 nin0))
          have f675 := ((f635.ext E655).keep K671 (ninS ne660 nin0))
          have f676 := ((f636.ext E655).keep K671 (ninS ne660 nin0))
          have f677 := ((f637.ext E655).keep K671 (ninS ne660 nin0))
          have f678 := ((f638.ext E655).keep K671)
          have f679 := ((f639.ext E655).keep K671 (ninS ne661 nin0))
          have f680 := ((f640.ext E655).keep K671 (ninS ne661 nin0))
          have f681 := ((f641.ext E655).keep K671 (ninS ne661 nin0))
          have f682 := (f668.keep K671)
          have f683 := (f669.keep K671 (ninS ne659 nin0))
          have f684 := (f670.keep K671 (ninS ne659 nin0))
          have z686 : h0.size ≤ (T671.heap).size := (Nat.le_trans z672 K671.1)
          obtain ⟨cq685, kq685, q685a, q685b, q685c⟩ := isOf hZ rfl f673
          obtain ⟨_, _, ⟨T685, L685, k685, n685⟩, -, X685, ⟨Lc685, hQ685, l685, y685, z685⟩, st685⟩ := X671.virtualBack hx (y := mN_Block_add) (z := mN_Block_add) hown (mvT hZ (own_w hw 101 rfl)) (mvT hZ (own_w hw 102 rfl)) (notFace_of_selects (args := #[]) (mvT hZ (own_w hw 104 rfl))) (mvT hZ (own_w hw 104 rfl)) (mvT hZ (own_w hw 103 rfl)) (by decide) (backOf (W := 0) (rmAddO l Z a0 hw [] b5 b655 al33 b11 ws33 b1 w_ yc x_ dg bp T671.heap n0 (Nat.le_trans Z0 z686) f673 f674 f675 f676 f677 f678 u671_0 (Ne.symm ne661) f679 f680 f681 u671_1 u671_2 u671_3 f682 f683 f684 (by first | assumption | rfl | decide | omega | (simp; done)) hCo) hZ (own_w hw 105 rfl) (own_w hw 26 rfl) (by decide) (by decide)) q685a q685c (g := (mkF m 160 (own_lw x0 x1 x2 x3 x4 x5 bp x_ dg mk w_ ya yb yc dd b1 b5) [(.ref b655), (.ref b5)])) rfl (by rw [hml]; rfl) (Steps.refl _) (argsL := [(.ref b655)]) (rest := []) (lenOf pd_14 rfl) rfl (by show 2 * 0 + _ ≤ _; exact Nat.le_of_eq rfl) (hb hby at_160) (fun _ _ => ⟨rfl, rfl, (by decide : 9 + 0 ≤ _), (by decide : 39 + 0 ≤ _)⟩)
          dsimp only [Pt.U, Pt.locs, Pt.cells, Pt.slots] at X685 l685 y685 z685 st685 hQ685
          replace l685 := l685.symm
          subst l685 y685 z685
          obtain ⟨rfl, rfl, e685⟩ := hQ685
          first | rw [List.append_nil] at X685 | skip
          refine Goes.tr st685 ?_
          have e685' : T685.heap = T671.heap := e685
          show Goes p e below _ (T685.setTop (mkF m 163 (own_lw x0 x1 x2 x3 x4 x5 bp x_ dg mk w_ ya yb yc dd b1 b5) [(.int (0 : Int32))]))
          refine Goes.via (fun _ kk_ => XS.pop X685.here hx rfl (hb hby at_163) rfl rfl kk_) ?_
          show Goes p e below _ (T685.setTop (mkF m 164 (own_lw x0 x1 x2 x3 x4 x5 bp x_ dg mk w_ ya yb yc dd b1 b5) []))
          have K687 : Keep h0 T671.heap [] := ((K656.ext E655).trans K671 (allS (Or.inr sz_b655) all0))
          have f688 := ((f663.ext E655).keep K671 (ninS ne664 nin0))
          have hEq := e685'
          rw [← hEq] at K687 f673 f676 f688
          exact J164 _ (pA :: []) (pA :: []) (pA :: []) _ _ (X685.more (by decide) (by decide)) N671 K687 f673 f676 f688 hcn445 ((if_neg hA).symm) ((if_pos (Or.inr hB)).symm) ((if_pos (Or.inl hCo)).symm)
        · skip
          by_cases hC : yc = ya
          · skip
            refine gAL X653 hx hby at_146 rfl rfl ?_
            obtain ⟨T689, h689, X689, e689, E689, A689, D689, -, st689⟩ := newO X653 hx hZ hown (own_w hw 27 rfl) (own_w hw 28 rfl) (own_w hw 29 rfl) e653' (g := (mkF m 148 (own_lw x0 x1 x2 x3 x4 x5 bp x_ dg mk w_ ya yb yc dd b1 b5) [(.ref b5)])) rfl (hb hby at_148) (by first | decide | omega | (dsimp only; omega)) (by first | decide | omega | (dsimp only; omega))
            obtain ⟨b689, g689⟩ : ∃ z, z = (T631.heap).size := ⟨_, rfl⟩
            rw [← g689] at A689 D689 st689
            have K690 : Keep h0 T631.heap [] := ((K613.ext E612).trans K631 (allS (Or.inr sz_b612) all0))
            have lne693 : b1 < b689 := Nat.lt_of_lt_of_le f642.lt (Nat.le_of_eq g689.symm)
            have ne693 : b1 ≠ b689 := Nat.ne_of_lt lne693
            have lne694 : b5 < b689 := Nat.lt_of_lt_of_le f633.lt (Nat.le_of_eq g689.symm)
            have ne694 : b5 ≠ b689 := Nat.ne_of_lt lne694
            have lne695 : b11 < b689 := Nat.lt_of_lt_of_le f638.lt (Nat.le_of_eq g689.symm)
            have ne695 : b11 ≠ b689 := Nat.ne_of_lt lne695
            have lne696 : al33 < b689 := Nat.lt_of_lt_of_le f645.lt (Nat.le_of_eq g689.symm)
            have ne696 : al33 ≠ b689 := Nat.ne_of_lt lne696
            have f697 := ((u436_7.ext E612).keep K631 (ninS ne623 nin0))
            have lne698 : ws33 < b689 := Nat.lt_of_lt_of_le f697.lt (Nat.le_of_eq g689.symm)
            have ne698 : ws33 ≠ b689 := Nat.ne_of_lt lne698
            have lne699 : b399 < b689 := Nat.lt_of_lt_of_le f649.lt (Nat.le_of_eq g689.symm)
            have ne699 : b399 ≠ b689 := Nat.ne_of_lt lne699
            have lne700 : nb436 < b689 := Nat.lt_of_lt_of_le f648.lt (Nat.le_of_eq g689.symm)
            have ne700 : nb436 ≠ b689 := Nat.ne_of_lt lne700
            have sz_b689 : h0.size ≤ b689 := Nat.le_trans z654 (Nat.le_of_eq g689.symm)
            have gn_b689 : n0 ≤ b689 := Nat.le_trans Z0 sz_b689
            have F_space_b689 : Fld Z h689 b689 "nearhop/model/Id" "space" "Lnearhop/model/IdSpace;" .null := D689 (Or.inr (own_w hw 35 rfl)) (ty := (.object "nearhop/model/IdSpace")) (by decide)
            have F_high_b689 : Fld Z h689 b689 "nearhop/model/Id" "high" "J" (.long (0 : Int64)) := D689 (Or.inr (own_w hw 50 rfl)) (ty := .long) (by decide)
            have F_low_b689 : Fld Z h689 b689 "nearhop/model/Id" "low" "J" (.long (0 : Int64)) := D689 (Or.inr (own_w hw 55 rfl)) (ty := .long) (by decide)
            refine Goes.via st689 ?_
            show Goes p e below _ (T689.setTop (mkF m 151 (own_lw x0 x1 x2 x3 x4 x5 bp x_ dg mk w_ ya yb yc dd b1 b5) [(.ref b689), (.ref b5)]))
            refine gDU X689 hx hby at_151 rfl ?_
            refine gAL X689 hx hby at_152 rfl rfl ?_
            refine Goes.via (fun _ kk_ => XS.lconst X689.here hx rfl (hb hby at_154) kk_) ?_
            show Goes p e below _ (T689.setTop (mkF m 155 (own_lw x0 x1 x2 x3 x4 x5 bp x_ dg mk w_ ya yb yc dd b1 b5) [(.long (0 : Int64)), (.ref b1), (.ref b689), (.ref b689), (.ref b5)]))
            refine Goes.via (fun _ kk_ => XS.lload X689.here hx rfl (hb hby at_155) rfl  kk_) ?_
            show Goes p e below _ (T689.setTop (mkF m 157 (own_lw x0 x1 x2 x3 x4 x5 bp x_ dg mk w_ ya yb yc dd b1 b5) [(.long yc), (.long (0 : Int64)), (.ref b1), (.ref b689), (.ref b689), (.ref b5)]))
            have f702 := (f642.ext E689)
            have f703 := (f643.ext E689)
            have f704 := (f644.ext E689)
            have z706 : h0.size ≤ (h689).size := (Nat.le_trans z654 E689.1)
            obtain ⟨_, _, ⟨T705, L705, k705, n705⟩, -, X705, ⟨Lc705, hQ705, l705, y705, z705⟩, st705⟩ := X689.specialBack hx (y := mN_Id_init) rfl hown (mvT hZ (own_w hw 30 rfl)) (mvT hZ (own_w hw 31 rfl)) (mvT hZ (own_w hw 32 rfl)) (by decide) (backOf (W := 2) (rm5 l Z a0 hw [] b689 b1 yc x_ dg bp h689 n0 (Nat.le_trans Z0 z706) A689 F_space_b689 F_high_b689 F_low_b689 gn_b689 f702 f703 f704 (by first | assumption | rfl | decide | omega | (simp; done)) (by first | assumption | rfl | decide | omega | (simp; done)) (by first | assumption | rfl | decide | omega | (simp; done)) (by first | assumption | rfl | decide | omega | (simp; done))) hZ (own_w hw 32 rfl) (own_w hw 29 rfl) (by decide) (by decide)) (g := (mkF m 157 (own_lw x0 x1 x2 x3 x4 x5 bp x_ dg mk w_ ya yb yc dd b1 b5) [(.long yc), (.long (0 : Int64)), (.ref b1), (.ref b689), (.ref b689), (.ref b5)])) rfl (by rw [hml]; rfl) (Steps.refl _) (a := b689) (argsL := [(.ref b1), (.long (0 : Int64)), (.long yc)]) (rest := [(.ref b689), (.ref b5)]) (lenOf pd_17 rfl) rfl (by show 2 * 0 + _ ≤ _; exact Nat.le_of_eq rfl) (hb hby at_157) (fun _ _ => ⟨rfl, e689, (by decide : 9 + 0 ≤ _), (by decide : 39 + 0 ≤ _)⟩)
            dsimp only [Pt.U, Pt.locs, Pt.cells, Pt.slots] at X705 l705 y705 z705 st705 hQ705
            replace l705 := l705.symm
            subst l705 y705 z705
            obtain ⟨rfl, N705q, K705, u705_0, u705_1, u705_2, u705_3⟩ := hQ705
            have N705 := Fr.app N631 N705q
            refine Goes.tr st705 ?_
            show Goes p e below _ (T705.setTop (mkF m 160 (own_lw x0 x1 x2 x3 x4 x5 bp x_ dg mk w_ ya yb yc dd b1 b5) [(.ref b689), (.ref b5)]))
            have hpC' := hpC hCo
            have f707 := ((f633.ext E689).keep K705)
            have f708 := ((f634.ext E689).keep K705 (ninS ne694 nin0))
            have f709 := ((f635.ext E689).keep K705 (ninS ne694 nin0))
            have f710 := ((f636.ext E689).keep K705 (ninS ne694 nin0))
            have f711 := ((f637.ext E689).keep K705 (ninS ne694 nin0))
            have f712 := ((f638.ext E689).keep K705)
            have f713 := ((f639.ext E689).keep K705 (ninS ne695 nin0))
            have f714 := ((f640.ext E689).keep K705 (ninS ne695 nin0))
            have f715 := ((f641.ext E689).keep K705 (ninS ne695 nin0))
            have f716 := (f702.keep K705)
            have f717 := (f703.keep K705 (ninS ne693 nin0))
            have f718 := (f704.keep K705 (ninS ne693 nin0))
            have f719 := ((f645.ext E689).keep K705)
            have f720 := ((f646.ext E689).keep K705 (ninS ne696 nin0))
            have f721 := ((f647.ext E689).keep K705 (ninS ne696 nin0))
            have f722 := ((f648.ext E689).keep K705 (ninS ne700 nin0))
            have f723 := ((f649.ext E689).keep K705)
            have f724 := ((f650.ext E689).keep K705 (ninS ne699 nin0))
            have f725 := ((f651.ext E689).keep K705 (ninS ne699 nin0))
            have f726 := ((f652.ext E689).keep K705 (ninS ne699 nin0))
            have z728 : h0.size ≤ (T705.heap).size := (Nat.le_trans z706 K705.1)
            obtain ⟨cq727, kq727, q727a, q727b, q727c⟩ := isOf hZ rfl f707
            obtain ⟨_, _, ⟨T727, L727, k727, n727⟩, -, X727, ⟨Lc727, hQ727, l727, y727, z727⟩, st727⟩ := X705.virtualBack hx (y := mN_Block_add) (z := mN_Block_add) hown (mvT hZ (own_w hw 101 rfl)) (mvT hZ (own_w hw 102 rfl)) (notFace_of_selects (args := #[]) (mvT hZ (own_w hw 104 rfl))) (mvT hZ (own_w hw 104 rfl)) (mvT hZ (own_w hw 103 rfl)) (by decide) (backOf (W := 0) (rmAddI1 l Z a0 hw [] b5 b689 al33 b11 ws33 b1 w_ yc x_ dg bp nb436 kb436 (own_upd (fun _ => .null) 0 (.ref b399)) b399 ya T705.heap n0 (Nat.le_trans Z0 z728) f707 f708 f709 f710 f711 f712 u705_0 (Ne.symm ne695) f713 f714 f715 u705_1 u705_2 u705_3 f716 f717 f718 (by first | assumption | rfl | decide | omega | (simp; done)) f719 f720 f721 f722 rfl (Ne.symm ne699) f723 f724 f725 f726 hpC'.2.2.1 hCo (own_in1 hC)) hZ (own_w hw 105 rfl) (own_w hw 26 rfl) (by decide) (by decide)) q727a q727c (g := (mkF m 160 (own_lw x0 x1 x2 x3 x4 x5 bp x_ dg mk w_ ya yb yc dd b1 b5) [(.ref b689), (.ref b5)])) rfl (by rw [hml]; rfl) (Steps.refl _) (argsL := [(.ref b689)]) (rest := []) (lenOf pd_14 rfl) rfl (by show 2 * 0 + _ ≤ _; exact Nat.le_of_eq rfl) (hb hby at_160) (fun _ _ => ⟨rfl, rfl, (by decide : 9 + 0 ≤ _), (by decide : 39 + 0 ≤ _)⟩)
            dsimp only [Pt.U, Pt.locs, Pt.cells, Pt.slots] at X727 l727 y727 z727 st727 hQ727
            replace l727 := l727.symm
            subst l727 y727 z727
            obtain ⟨rfl, rfl, e727⟩ := hQ727
            first | rw [List.append_nil] at X727 | skip
            refine Goes.tr st727 ?_
            have e727' : T727.heap = T705.heap := e727
            show Goes p e below _ (T727.setTop (mkF m 163 (own_lw x0 x1 x2 x3 x4 x5 bp x_ dg mk w_ ya yb yc dd b1 b5) [(.int (0 : Int32))]))
            refine Goes.via (fun _ kk_ => XS.pop X727.here hx rfl (hb hby at_163) rfl rfl kk_) ?_
            show Goes p e below _ (T727.setTop (mkF m 164 (own_lw x0 x1 x2 x3 x4 x5 bp x_ dg mk w_ ya yb yc dd b1 b5) []))
            have K729 : Keep h0 T705.heap [] := ((K690.ext E689).trans K705 (allS (Or.inr sz_b689) all0))
            have f730 := ((f697.ext E689).keep K705 (ninS ne698 nin0))
            have hEq := e727'
            rw [← hEq] at K729 f707 f710 f730
            exact J164 _ (pA :: []) (pA :: []) (pA :: []) _ _ (X727.more (by decide) (by decide)) N705 K729 f707 f710 f730 hcn445 ((if_neg hA).symm) ((if_pos (Or.inr hB)).symm) ((if_pos (Or.inr (Or.inl hC))).symm)
          · skip
            refine gAL X653 hx hby at_146 rfl rfl ?_
            obtain ⟨T731, h731, X731, e731, E731, A731, D731, -, st731⟩ := newO X653 hx hZ hown (own_w hw 27 rfl) (own_w hw 28 rfl) (own_w hw 29 rfl) e653' (g := (mkF m 148 (own_lw x0 x1 x2 x3 x4 x5 bp x_ dg mk w_ ya yb yc dd b1 b5) [(.ref b5)])) rfl (hb hby at_148) (by first | decide | omega | (dsimp only; omega)) (by first | decide | omega | (dsimp only; omega))
            obtain ⟨b731, g731⟩ : ∃ z, z = (T631.heap).size := ⟨_, rfl⟩
            rw [← g731] at A731 D731 st731
            have K732 : Keep h0 T631.heap [] := ((K613.ext E612).trans K631 (allS (Or.inr sz_b612) all0))
            have lne735 : b1 < b731 := Nat.lt_of_lt_of_le f642.lt (Nat.le_of_eq g731.symm)
            have ne735 : b1 ≠ b731 := Nat.ne_of_lt lne735
            have lne736 : b5 < b731 := Nat.lt_of_lt_of_le f633.lt (Nat.le_of_eq g731.symm)
            have ne736 : b5 ≠ b731 := Nat.ne_of_lt lne736
            have lne737 : b11 < b731 := Nat.lt_of_lt_of_le f638.lt (Nat.le_of_eq g731.symm)
            have ne737 : b11 ≠ b731 := Nat.ne_of_lt lne737
            have lne738 : al33 < b731 := Nat.lt_of_lt_of_le f645.lt (Nat.le_of_eq g731.symm)
            have ne738 : al33 ≠ b731 := Nat.ne_of_lt lne738
            have f739 := ((u436_7.ext E612).keep K631 (ninS ne623 nin0))
            have lne740 : ws33 < b731 := Nat.lt_of_lt_of_le f739.lt (Nat.le_of_eq g731.symm)
            have ne740 : ws33 ≠ b731 := Nat.ne_of_lt lne740
            have lne741 : b399 < b731 := Nat.lt_of_lt_of_le f649.lt (Nat.le_of_eq g731.symm)
            have ne741 : b399 ≠ b731 := Nat.ne_of_lt lne741
            have lne742 : nb436 < b731 := Nat.lt_of_lt_of_le f648.lt (Nat.le_of_eq g731.symm)
            have ne742 : nb436 ≠ b731 := Nat.ne_of_lt lne742
            have sz_b731 : h0.size ≤ b731 := Nat.le_trans z654 (Nat.le_of_eq g731.symm)
            have gn_b731 : n0 ≤ b731 := Nat.le_trans Z0 sz_b731
            have F_space_b731 : Fld Z h731 b731 "nearhop/model/Id" "space" "Lnearhop/model/IdSpace;" .null := D731 (Or.inr (own_w hw 35 rfl)) (ty := (.object "nearhop/model/IdSpace")) (by decide)
            have F_high_b731 : Fld Z h731 b731 "nearhop/model/Id" "high" "J" (.long (0 : Int64)) := D731 (Or.inr (own_w hw 50 rfl)) (ty := .long) (by decide)
            have F_low_b731 : Fld Z h731 b731 "nearhop/model/Id" "low" "J" (.long (0 : Int64)) := D731 (Or.inr (own_w hw 55 rfl)) (ty := .long) (by decide)
            refine Goes.via st731 ?_
            show Goes p e below _ (T731.setTop (mkF m 151 (own_lw x0 x1 x2 x3 x4 x5 bp x_ dg mk w_ ya yb yc dd b1 b5) [(.ref b731), (.ref b5)]))
            refine gDU X731 hx hby at_151 rfl ?_
            refine gAL X731 hx hby at_152 rfl rfl ?_
            refine Goes.via (fun _ kk_ => XS.lconst X731.here hx rfl (hb hby at_154) kk_) ?_
            show Goes p e below _ (T731.setTop (mkF m 155 (own_lw x0 x1 x2 x3 x4 x5 bp x_ dg mk w_ ya yb yc dd b1 b5) [(.long (0 : Int64)), (.ref b1), (.ref b731), (.ref b731), (.ref b5)]))
            refine Goes.via (fun _ kk_ => XS.lload X731.here hx rfl (hb hby at_155) rfl  kk_) ?_
            show Goes p e below _ (T731.setTop (mkF m 157 (own_lw x0 x1 x2 x3 x4 x5 bp x_ dg mk w_ ya yb yc dd b1 b5) [(.long yc), (.long (0 : Int64)), (.ref b1), (.ref b731), (.ref b731), (.ref b5)]))
            have f744 := (f642.ext E731)
            have f745 := (f643.ext E731)
            have f746 := (f644.ext E731)
            have z748 : h0.size ≤ (h731).size := (Nat.le_trans z654 E731.1)
            obtain ⟨_, _, ⟨T747, L747, k747, n747⟩, -, X747, ⟨Lc747, hQ747, l747, y747, z747⟩, st747⟩ := X731.specialBack hx (y := mN_Id_init) rfl hown (mvT hZ (own_w hw 30 rfl)) (mvT hZ (own_w hw 31 rfl)) (mvT hZ (own_w hw 32 rfl)) (by decide) (backOf (W := 2) (rm5 l Z a0 hw [] b731 b1 yc x_ dg bp h731 n0 (Nat.le_trans Z0 z748) A731 F_space_b731 F_high_b731 F_low_b731 gn_b731 f744 f745 f746 (by first | assumption | rfl | decide | omega | (simp; done)) (by first | assumption | rfl | decide | omega | (simp; done)) (by first | assumption | rfl | decide | omega | (simp; done)) (by first | assumption | rfl | decide | omega | (simp; done))) hZ (own_w hw 32 rfl) (own_w hw 29 rfl) (by decide) (by decide)) (g := (mkF m 157 (own_lw x0 x1 x2 x3 x4 x5 bp x_ dg mk w_ ya yb yc dd b1 b5) [(.long yc), (.long (0 : Int64)), (.ref b1), (.ref b731), (.ref b731), (.ref b5)])) rfl (by rw [hml]; rfl) (Steps.refl _) (a := b731) (argsL := [(.ref b1), (.long (0 : Int64)), (.long yc)]) (rest := [(.ref b731), (.ref b5)]) (lenOf pd_17 rfl) rfl (by show 2 * 0 + _ ≤ _; exact Nat.le_of_eq rfl) (hb hby at_157) (fun _ _ => ⟨rfl, e731, (by decide : 9 + 0 ≤ _), (by decide : 39 + 0 ≤ _)⟩)
            dsimp only [Pt.U, Pt.locs, Pt.cells, Pt.slots] at X747 l747 y747 z747 st747 hQ747
            replace l747 := l747.symm
            subst l747 y747 z747
            obtain ⟨rfl, N747q, K747, u747_0, u747_1, u747_2, u747_3⟩ := hQ747
            have N747 := Fr.app N631 N747q
            refine Goes.tr st747 ?_
            show Goes p e below _ (T747.setTop (mkF m 160 (own_lw x0 x1 x2 x3 x4 x5 bp x_ dg mk w_ ya yb yc dd b1 b5) [(.ref b731), (.ref b5)]))
            have hpC' := hpC hCo
            have f749 := ((f633.ext E731).keep K747)
            have f750 := ((f634.ext E731).keep K747 (ninS ne736 nin0))
            have f751 := ((f635.ext E731).keep K747 (ninS ne736 nin0))
            have f752 := ((f636.ext E731).keep K747 (ninS ne736 nin0))
            have f753 := ((f637.ext E731).keep K747 (ninS ne736 nin0))
            have f754 := ((f638.ext E731).keep K747)
            have f755 := ((f639.ext E731).keep K747 (ninS ne737 nin0))
            have f756 := ((f640.ext E731).keep K747 (ninS ne737 nin0))
            have f757 := ((f641.ext E731).keep K747 (ninS ne737 nin0))
            have f758 := (f744.keep K747)
            have f759 := (f745.keep K747 (ninS ne735 nin0))
            have f760 := (f746.keep K747 (ninS ne735 nin0))
            have f761 := ((f645.ext E731).keep K747)
            have f762 := ((f646.ext E731).keep K747 (ninS ne738 nin0))
            have f763 := ((f647.ext E731).keep K747 (ninS ne738 nin0))
            have f764 := ((f648.ext E731).keep K747 (ninS ne742 nin0))
            have f765 := ((f649.ext E731).keep K747)
            have f766 := ((f650.ext E731).keep K747 (ninS ne741 nin0))
            have f767 := ((f651.ext E731).keep K747 (ninS ne741 nin0))
            have f768 := ((f652.ext E731).keep K747 (ninS ne741 nin0))
            have f769 := ((((u436_3.ext E612).keep K631 (ninS ne622 nin0)).ext E731).keep K747 (ninS ne738 nin0))
            have f770 := ((f739.ext E731).keep K747 (ninS ne740 nin0))
            have z772 : h0.size ≤ (T747.heap).size := (Nat.le_trans z748 K747.1)
            obtain ⟨cq771, kq771, q771a, q771b, q771c⟩ := isOf hZ rfl f749
            obtain ⟨_, _, ⟨T771, L771, k771, n771⟩, -, X771, ⟨Lc771, hQ771, l771, y771, z771⟩, st771⟩ := X747.virtualBack hx (y := mN_Block_add) (z := mN_Block_add) hown (mvT hZ (own_w hw 101 rfl)) (mvT hZ (own_w hw 102 rfl)) (notFace_of_selects (args := #[]) (mvT hZ (own_w hw 104 rfl))) (mvT hZ (own_w hw 104 rfl)) (mvT hZ (own_w hw 103 rfl)) (by decide) (backOf (W := 0) (rmAddY1 l Z a0 hw [] b5 b731 al33 b11 ws33 b1 w_ yc x_ dg bp kw33 nd (own_upd (fun _ => (.int 0)) pA (.int ((own_cnt [] pA) + (1 : Int32)))) pC (own_cnt (pA :: []) pC) ((0 : Int32) + (1 : Int32)) nb436 kb436 (own_upd (fun _ => .null) 0 (.ref b399)) b399 ya T747.heap n0 (Nat.le_trans Z0 z772) f749 f750 f751 f752 f753 f754 u747_0 (Ne.symm ne737) f755 f756 f757 u747_1 u747_2 u747_3 f758 f759 f760 (by first | assumption | rfl | decide | omega | (simp; done)) f761 f762 f763 f764 rfl (Ne.symm ne741) f765 f766 f767 f768 f769 hCo f770 (hcn445 pC) hpC'.1 hpC'.2.1 gn_al33 gn_ws33 hpC'.2.2.1 gn_nb436 ne44 ne444 (Ne.symm ne442) u436_6 (if_neg hC)) hZ (own_w hw 105 rfl) (own_w hw 26 rfl) (by decide) (by decide)) q771a q771c (g := (mkF m 160 (own_lw x0 x1 x2 x3 x4 x5 bp x_ dg mk w_ ya yb yc dd b1 b5) [(.ref b731), (.ref b5)])) rfl (by rw [hml]; rfl) (Steps.refl _) (argsL := [(.ref b731)]) (rest := []) (lenOf pd_14 rfl) rfl (by show 2 * 0 + _ ≤ _; exact Nat.le_of_eq rfl) (hb hby at_160) (fun _ _ => ⟨rfl, rfl, (by decide : 9 + 0 ≤ _), (by decide : 39 + 0 ≤ _)⟩)
            dsimp only [Pt.U, Pt.locs, Pt.cells, Pt.slots] at X771 l771 y771 z771 st771 hQ771
            replace l771 := l771.symm
            subst l771 y771 z771
            obtain ⟨rfl, N771q, K771, u771_0, u771_1, u771_2, u771_3, u771_4, u771_5⟩ := hQ771
            have N771 := Fr.app N747 N771q
            refine Goes.tr st771 ?_
            show Goes p e below _ (T771.setTop (mkF m 163 (own_lw x0 x1 x2 x3 x4 x5 bp x_ dg mk w_ ya yb yc dd b1 b5) [(.int (1 : Int32))]))
            have hcn773 : ∀ i, (own_upd (own_upd (fun _ => (.int 0)) pA (.int ((own_cnt [] pA) + (1 : Int32)))) pC (.int ((own_cnt (pA :: []) pC) + (1 : Int32)))) i = .int (own_cnt (pC :: (pA :: [])) i) := own_upV hcn445
            refine Goes.via (fun _ kk_ => XS.pop X771.here hx rfl (hb hby at_163) rfl rfl kk_) ?_
            show Goes p e below _ (T771.setTop (mkF m 164 (own_lw x0 x1 x2 x3 x4 x5 bp x_ dg mk w_ ya yb yc dd b1 b5) []))
            have K774 : Keep h0 T771.heap [] := (((K732.ext E731).trans K747 (allS (Or.inr sz_b731) all0)).trans K771 (allS (Or.inr sz_al33) (allS (Or.inr sz_nb436) (allS (Or.inr sz_ws33) all0))))
            have f775 := (f749.keep K771)
            have f776 := (f752.keep K771 (ninS ne42 (ninS ne440 (ninS ne43 nin0))))
            exact J164 _ (pA :: []) (pA :: []) (pC :: (pA :: [])) _ _ (X771.more (by decide) (by decide)) N771 K774 f775 f776 u771_5 hcn773 ((if_neg hA).symm) ((if_pos (Or.inr hB)).symm) ((if_neg (fun z => z.elim hCo (fun z => z.elim (fun q => hC q) (fun z => (fun q => hC q) (z.trans hB))))).symm)
      · skip
        refine gAL X436 hx hby at_128 rfl rfl ?_
        obtain ⟨T777, h777, X777, e777, E777, A777, D777, -, st777⟩ := newO X436 hx hZ hown (own_w hw 27 rfl) (own_w hw 28 rfl) (own_w hw 29 rfl) rfl (g := (mkF m 130 (own_lw x0 x1 x2 x3 x4 x5 bp x_ dg mk w_ ya yb yc dd b1 b5) [(.ref b5)])) rfl (hb hby at_130) (by first | decide | omega | (dsimp only; omega)) (by first | decide | omega | (dsimp only; omega))
        obtain ⟨b777, g777⟩ : ∃ z, z = (T436.heap).size := ⟨_, rfl⟩
        rw [← g777] at A777 D777 st777
        have K778 : Keep h0 T436.heap [] := (K433.trans K436 (allS (Or.inr sz_al33) (allS (Or.inr sz_ws33) all0)))
        have f781 := (f425.keep K436)
        have lne782 : b1 < b777 := Nat.lt_of_lt_of_le f781.lt (Nat.le_of_eq g777.symm)
        have ne782 : b1 ≠ b777 := Nat.ne_of_lt lne782
        have f783 := (f416.keep K436)
        have lne784 : b5 < b777 := Nat.lt_of_lt_of_le f783.lt (Nat.le_of_eq g777.symm)
        have ne784 : b5 ≠ b777 := Nat.ne_of_lt lne784
        have f785 := (f421.keep K436)
        have lne786 : b11 < b777 := Nat.lt_of_lt_of_le f785.lt (Nat.le_of_eq g777.symm)
        have ne786 : b11 ≠ b777 := Nat.ne_of_lt lne786
        have lne787 : al33 < b777 := Nat.lt_of_lt_of_le u436_0.lt (Nat.le_of_eq g777.symm)
        have ne787 : al33 ≠ b777 := Nat.ne_of_lt lne787
        have lne788 : ws33 < b777 := Nat.lt_of_lt_of_le u436_7.lt (Nat.le_of_eq g777.symm)
        have ne788 : ws33 ≠ b777 := Nat.ne_of_lt lne788
        have f789 := (u414_0.keep K436)
        have lne790 : b399 < b777 := Nat.lt_of_lt_of_le f789.lt (Nat.le_of_eq g777.symm)
        have ne790 : b399 ≠ b777 := Nat.ne_of_lt lne790
        have lne791 : nb436 < b777 := Nat.lt_of_lt_of_le u436_5.lt (Nat.le_of_eq g777.symm)
        have ne791 : nb436 ≠ b777 := Nat.ne_of_lt lne791
        have z792 : h0.size ≤ (T436.heap).size := (Nat.le_trans z437 K436.1)
        have sz_b777 : h0.size ≤ b777 := Nat.le_trans z792 (Nat.le_of_eq g777.symm)
        have gn_b777 : n0 ≤ b777 := Nat.le_trans Z0 sz_b777
        have F_space_b777 : Fld Z h777 b777 "nearhop/model/Id" "space" "Lnearhop/model/IdSpace;" .null := D777 (Or.inr (own_w hw 35 rfl)) (ty := (.object "nearhop/model/IdSpace")) (by decide)
        have F_high_b777 : Fld Z h777 b777 "nearhop/model/Id" "high" "J" (.long (0 : Int64)) := D777 (Or.inr (own_w hw 50 rfl)) (ty := .long) (by decide)
        have F_low_b777 : Fld Z h777 b777 "nearhop/model/Id" "low" "J" (.long (0 : Int64)) := D777 (Or.inr (own_w hw 55 rfl)) (ty := .long) (by decide)
        refine Goes.via st777 ?_
        show Goes p e below _ (T777.setTop (mkF m 133 (own_lw x0 x1 x2 x3 x4 x5 bp x_ dg mk w_ ya yb yc dd b1 b5) [(.ref b777), (.ref b5)]))
        refine gDU X777 hx hby at_133 rfl ?_
        refine gAL X777 hx hby at_134 rfl rfl ?_
        refine Goes.via (fun _ kk_ => XS.lconst X777.here hx rfl (hb hby at_136) kk_) ?_
        show Goes p e below _ (T777.setTop (mkF m 137 (own_lw x0 x1 x2 x3 x4 x5 bp x_ dg mk w_ ya yb yc dd b1 b5) [(.long (0 : Int64)), (.ref b1), (.ref b777), (.ref b777), (.ref b5)]))
        refine Goes.via (fun _ kk_ => XS.lload X777.here hx rfl (hb hby at_137) rfl  kk_) ?_
        show Goes p e below _ (T777.setTop (mkF m 139 (own_lw x0 x1 x2 x3 x4 x5 bp x_ dg mk w_ ya yb yc dd b1 b5) [(.long yb), (.long (0 : Int64)), (.ref b1), (.ref b777), (.ref b777), (.ref b5)]))
        have f793 := (f781.ext E777)
        have f794 := ((f426.keep K436 (ninS ne37 (ninS ne40 nin0))).ext E777)
        have f795 := ((f427.keep K436 (ninS ne37 (ninS ne40 nin0))).ext E777)
        have z797 : h0.size ≤ (h777).size := (Nat.le_trans z792 E777.1)
        obtain ⟨_, _, ⟨T796, L796, k796, n796⟩, -, X796, ⟨Lc796, hQ796, l796, y796, z796⟩, st796⟩ := X777.specialBack hx (y := mN_Id_init) rfl hown (mvT hZ (own_w hw 30 rfl)) (mvT hZ (own_w hw 31 rfl)) (mvT hZ (own_w hw 32 rfl)) (by decide) (backOf (W := 2) (rm5 l Z a0 hw [] b777 b1 yb x_ dg bp h777 n0 (Nat.le_trans Z0 z797) A777 F_space_b777 F_high_b777 F_low_b777 gn_b777 f793 f794 f795 (by first | assumption | rfl | decide | omega | (simp; done)) (by first | assumption | rfl | decide | omega | (simp; done)) (by first | assumption | rfl | decide | omega | (simp; done)) (by first | assumption | rfl | decide | omega | (simp; done))) hZ (own_w hw 32 rfl) (own_w hw 29 rfl) (by decide) (by decide)) (g := (mkF m 139 (own_lw x0 x1 x2 x3 x4 x5 bp x_ dg mk w_ ya yb yc dd b1 b5) [(.long yb), (.long (0 : Int64)), (.ref b1), (.ref b777), (.ref b777), (.ref b5)])) rfl (by rw [hml]; rfl) (Steps.refl _) (a := b777) (argsL := [(.ref b1), (.long (0 : Int64)), (.long yb)]) (rest := [(.ref b777), (.ref b5)]) (lenOf pd_17 rfl) rfl (by show 2 * 0 + _ ≤ _; exact Nat.le_of_eq rfl) (hb hby at_139) (fun _ _ => ⟨rfl, e777, (by decide : 8 + 0 ≤ _), (by decide : 36 + 0 ≤ _)⟩)
        dsimp only [Pt.U, Pt.locs, Pt.cells, Pt.slots] at X796 l796 y796 z796 st796 hQ796
        replace l796 := l796.symm
        subst l796 y796 z796
        obtain ⟨rfl, N796q, K796, u796_0, u796_1, u796_2, u796_3⟩ := hQ796
        have N796 := Fr.app N436 N796q
        refine Goes.tr st796 ?_
        show Goes p e below _ (T796.setTop (mkF m 142 (own_lw x0 x1 x2 x3 x4 x5 bp x_ dg mk w_ ya yb yc dd b1 b5) [(.ref b777), (.ref b5)]))
        have hpB' := hpB hBo
        have f798 := ((f783.ext E777).keep K796)
        have f799 := (((f417.keep K436 (ninS ne42 (ninS ne43 nin0))).ext E777).keep K796 (ninS ne784 nin0))
        have f800 := (((f418.keep K436 (ninS ne42 (ninS ne43 nin0))).ext E777).keep K796 (ninS ne784 nin0))
        have f801 := (((f419.keep K436 (ninS ne42 (ninS ne43 nin0))).ext E777).keep K796 (ninS ne784 nin0))
        have f802 := (((f420.keep K436 (ninS ne42 (ninS ne43 nin0))).ext E777).keep K796 (ninS ne784 nin0))
        have f803 := ((f785.ext E777).keep K796)
        have f804 := (((f422.keep K436 (ninS ne38 (ninS ne41 nin0))).ext E777).keep K796 (ninS ne786 nin0))
        have f805 := (((f423.keep K436 (ninS ne38 (ninS ne41 nin0))).ext E777).keep K796 (ninS ne786 nin0))
        have f806 := (((f424.keep K436 (ninS ne38 (ninS ne41 nin0))).ext E777).keep K796 (ninS ne786 nin0))
        have f807 := (f793.keep K796)
        have f808 := (f794.keep K796 (ninS ne782 nin0))
        have f809 := (f795.keep K796 (ninS ne782 nin0))
        have f810 := ((u436_0.ext E777).keep K796)
        have f811 := ((u436_2.ext E777).keep K796 (ninS ne787 nin0))
        have f812 := ((u436_1.ext E777).keep K796 (ninS ne787 nin0))
        have f813 := ((u436_5.ext E777).keep K796 (ninS ne791 nin0))
        have f814 := ((f789.ext E777).keep K796)
        have f815 := (((u414_1.keep K436 (ninS (Ne.symm ne408) (ninS (Ne.symm ne409) nin0))).ext E777).keep K796 (ninS ne790 nin0))
        have f816 := (((u414_2.keep K436 (ninS (Ne.symm ne408) (ninS (Ne.symm ne409) nin0))).ext E777).keep K796 (ninS ne790 nin0))
        have f817 := (((u414_3.keep K436 (ninS (Ne.symm ne408) (ninS (Ne.symm ne409) nin0))).ext E777).keep K796 (ninS ne790 nin0))
        have f818 := ((u436_3.ext E777).keep K796 (ninS ne787 nin0))
        have f819 := ((u436_7.ext E777).keep K796 (ninS ne788 nin0))
        have z821 : h0.size ≤ (T796.heap).size := (Nat.le_trans z797 K796.1)
        obtain ⟨cq820, kq820, q820a, q820b, q820c⟩ := isOf hZ rfl f798
        obtain ⟨_, _, ⟨T820, L820, k820, n820⟩, -, X820, ⟨Lc820, hQ820, l820, y820, z820⟩, st820⟩ := X796.virtualBack hx (y := mN_Block_add) (z := mN_Block_add) hown (mvT hZ (own_w hw 101 rfl)) (mvT hZ (own_w hw 102 rfl)) (notFace_of_selects (args := #[]) (mvT hZ (own_w hw 104 rfl))) (mvT hZ (own_w hw 104 rfl)) (mvT hZ (own_w hw 103 rfl)) (by decide) (backOf (W := 0) (rmAddY1 l Z a0 hw [] b5 b777 al33 b11 ws33 b1 w_ yb x_ dg bp kw33 nd (own_upd (fun _ => (.int 0)) pA (.int ((own_cnt [] pA) + (1 : Int32)))) pB (own_cnt (pA :: []) pB) ((0 : Int32) + (1 : Int32)) nb436 kb436 (own_upd (fun _ => .null) 0 (.ref b399)) b399 ya T796.heap n0 (Nat.le_trans Z0 z821) f798 f799 f800 f801 f802 f803 u796_0 (Ne.symm ne786) f804 f805 f806 u796_1 u796_2 u796_3 f807 f808 f809 (by first | assumption | rfl | decide | omega | (simp; done)) f810 f811 f812 f813 rfl (Ne.symm ne790) f814 f815 f816 f817 f818 hBo f819 (hcn445 pB) hpB'.1 hpB'.2.1 gn_al33 gn_ws33 hpB'.2.2.1 gn_nb436 ne44 ne444 (Ne.symm ne442) u436_6 (if_neg hB)) hZ (own_w hw 105 rfl) (own_w hw 26 rfl) (by decide) (by decide)) q820a q820c (g := (mkF m 142 (own_lw x0 x1 x2 x3 x4 x5 bp x_ dg mk w_ ya yb yc dd b1 b5) [(.ref b777), (.ref b5)])) rfl (by rw [hml]; rfl) (Steps.refl _) (argsL := [(.ref b777)]) (rest := []) (lenOf pd_14 rfl) rfl (by show 2 * 0 + _ ≤ _; exact Nat.le_of_eq rfl) (hb hby at_142) (fun _ _ => ⟨rfl, rfl, (by decide : 8 + 0 ≤ _), (by decide : 36 + 0 ≤ _)⟩)
        dsimp only [Pt.U, Pt.locs, Pt.cells, Pt.slots] at X820 l820 y820 z820 st820 hQ820
        replace l820 := l820.symm
        subst l820 y820 z820
        obtain ⟨rfl, N820q, K820, u820_0, u820_1, u820_2, u820_3, u820_4, u820_5⟩ := hQ820
        have N820 := Fr.app N796 N820q
        refine Goes.tr st820 ?_
        show Goes p e below _ (T820.setTop (mkF m 145 (own_lw x0 x1 x2 x3 x4 x5 bp x_ dg mk w_ ya yb yc dd b1 b5) [(.int (1 : Int32))]))
        have hcn822 : ∀ i, (own_upd (own_upd (fun _ => (.int 0)) pA (.int ((own_cnt [] pA) + (1 : Int32)))) pB (.int ((own_cnt (pA :: []) pB) + (1 : Int32)))) i = .int (own_cnt (pB :: (pA :: [])) i) := own_upV hcn445
        refine Goes.via (fun _ kk_ => XS.pop X820.here hx rfl (hb hby at_145) rfl rfl kk_) ?_
        show Goes p e below _ (T820.setTop (mkF m 146 (own_lw x0 x1 x2 x3 x4 x5 bp x_ dg mk w_ ya yb yc dd b1 b5) []))
        by_cases hCo : yc = w_
        · skip
          refine gAL X820 hx hby at_146 rfl rfl ?_
          obtain ⟨T823, h823, X823, e823, E823, A823, D823, -, st823⟩ := newO X820 hx hZ hown (own_w hw 27 rfl) (own_w hw 28 rfl) (own_w hw 29 rfl) rfl (g := (mkF m 148 (own_lw x0 x1 x2 x3 x4 x5 bp x_ dg mk w_ ya yb yc dd b1 b5) [(.ref b5)])) rfl (hb hby at_148) (by first | decide | omega | (dsimp only; omega)) (by first | decide | omega | (dsimp only; omega))
          obtain ⟨b823, g823⟩ : ∃ z, z = (T820.heap).size := ⟨_, rfl⟩
          rw [← g823] at A823 D823 st823
          have K824 : Keep h0 T820.heap [] := (((K778.ext E777).trans K796 (allS (Or.inr sz_b777) all0)).trans K820 (allS (Or.inr sz_al33) (allS (Or.inr sz_nb436) (allS (Or.inr sz_ws33) all0))))
          have f827 := (f807.keep K820)
          have lne828 : b1 < b823 := Nat.lt_of_lt_of_le f827.lt (Nat.le_of_eq g823.symm)
          have ne828 : b1 ≠ b823 := Nat.ne_of_lt lne828
          have f829 := (f798.keep K820)
          have lne830 : b5 < b823 := Nat.lt_of_lt_of_le f829.lt (Nat.le_of_eq g823.symm)
          have ne830 : b5 ≠ b823 := Nat.ne_of_lt lne830
          have f831 := (f803.keep K820)
          have lne832 : b11 < b823 := Nat.lt_of_lt_of_le f831.lt (Nat.le_of_eq g823.symm)
          have ne832 : b11 ≠ b823 := Nat.ne_of_lt lne832
          have lne834 : ws33 < b823 := Nat.lt_of_lt_of_le u820_5.lt (Nat.le_of_eq g823.symm)
          have ne834 : ws33 ≠ b823 := Nat.ne_of_lt lne834
          have z840 : h0.size ≤ (T820.heap).size := (Nat.le_trans z821 K820.1)
          have sz_b823 : h0.size ≤ b823 := Nat.le_trans z840 (Nat.le_of_eq g823.symm)
          have gn_b823 : n0 ≤ b823 := Nat.le_trans Z0 sz_b823
          have F_space_b823 : Fld Z h823 b823 "nearhop/model/Id" "space" "Lnearhop/model/IdSpace;" .null := D823 (Or.inr (own_w hw 35 rfl)) (ty := (.object "nearhop/model/IdSpace")) (by decide)
          have F_high_b823 : Fld Z h823 b823 "nearhop/model/Id" "high" "J" (.long (0 : Int64)) := D823 (Or.inr (own_w hw 50 rfl)) (ty := .long) (by decide)
          have F_low_b823 : Fld Z h823 b823 "nearhop/model/Id" "low" "J" (.long (0 : Int64)) := D823 (Or.inr (own_w hw 55 rfl)) (ty := .long) (by decide)
          refine Goes.via st823 ?_
          show Goes p e below _ (T823.setTop (mkF m 151 (own_lw x0 x1 x2 x3 x4 x5 bp x_ dg mk w_ ya yb yc dd b1 b5) [(.ref b823), (.ref b5)]))
          refine gDU X823 hx hby at_151 rfl ?_
          refine gAL X823 hx hby at_152 rfl rfl ?_
          refine Goes.via (fun _ kk_ => XS.lconst X823.here hx rfl (hb hby at_154) kk_) ?_
          show Goes p e below _ (T823.setTop (mkF m 155 (own_lw x0 x1 x2 x3 x4 x5 bp x_ dg mk w_ ya yb yc dd b1 b5) [(.long (0 : Int64)), (.ref b1), (.ref b823), (.ref b823), (.ref b5)]))
          refine Goes.via (fun _ kk_ => XS.lload X823.here hx rfl (hb hby at_155) rfl  kk_) ?_
          show Goes p e below _ (T823.setTop (mkF m 157 (own_lw x0 x1 x2 x3 x4 x5 bp x_ dg mk w_ ya yb yc dd b1 b5) [(.long yc), (.long (0 : Int64)), (.ref b1), (.ref b823), (.ref b823), (.ref b5)]))
          have f841 := (f827.ext E823)
          have f842 := ((f808.keep K820 (ninS ne37 (ninS ne439 (ninS ne40 nin0)))).ext E823)
          have f843 := ((f809.keep K820 (ninS ne37 (ninS ne439 (ninS ne40 nin0)))).ext E823)
          have z845 : h0.size ≤ (h823).size := (Nat.le_trans z840 E823.1)
          obtain ⟨_, _, ⟨T844, L844, k844, n844⟩, -, X844, ⟨Lc844, hQ844, l844, y844, z844⟩, st844⟩ := X823.specialBack hx (y := mN_Id_init) rfl hown (mvT hZ (own_w hw 30 rfl)) (mvT hZ (own_w hw 31 rfl)) (mvT hZ (own_w hw 32 rfl)) (by decide) (backOf (W := 2) (rm5 l Z a0 hw [] b823 b1 yc x_ dg bp h823 n0 (Nat.le_trans Z0 z845) A823 F_space_b823 F_high_b823 F_low_b823 gn_b823 f841 f842 f843 (by first | assumption | rfl | decide | omega | (simp; done)) (by first | assumption | rfl | decide | omega | (simp; done)) (by first | assumption | rfl | decide | omega | (simp; done)) (by first | assumption | rfl | decide | omega | (simp; done))) hZ (own_w hw 32 rfl) (own_w hw 29 rfl) (by decide) (by decide)) (g := (mkF m 157 (own_lw x0 x1 x2 x3 x4 x5 bp x_ dg mk w_ ya yb yc dd b1 b5) [(.long yc), (.long (0 : Int64)), (.ref b1), (.ref b823), (.ref b823), (.ref b5)])) rfl (by rw [hml]; rfl) (Steps.refl _) (a := b823) (argsL := [(.ref b1), (.long (0 : Int64)), (.long yc)]) (rest := [(.ref b823), (.ref b5)]) (lenOf pd_17 rfl) rfl (by show 2 * 0 + _ ≤ _; exact Nat.le_of_eq rfl) (hb hby at_157) (fun _ _ => ⟨rfl, e823, (by decide : 9 + 0 ≤ _), (by decide : 39 + 0 ≤ _)⟩)
          dsimp only [Pt.U, Pt.locs, Pt.cells, Pt.slots] at X844 l844 y844 z844 st844 hQ844
          replace l844 := l844.symm
          subst l844 y844 z844
          obtain ⟨rfl, N844q, K844, u844_0, u844_1, u844_2, u844_3⟩ := hQ844
          have N844 := Fr.app N820 N844q
          refine Goes.tr st844 ?_
          show Goes p e below _ (T844.setTop (mkF m 160 (own_lw x0 x1 x2 x3 x4 x5 bp x_ dg mk w_ ya yb yc dd b1 b5) [(.ref b823), (.ref b5)]))
          have f846 := ((f829.ext E823).keep K844)
          have f847 := (((f799.keep K820 (ninS ne42 (ninS ne440 (ninS ne43 nin0)))).ext E823).keep K844 (ninS ne830 nin0))
          have f848 := (((f800.keep K820 (ninS ne42 (ninS ne440 (ninS ne43 nin0)))).ext E823).keep K844 (ninS ne830 nin0))
          have f849 := (((f801.keep K820 (ninS ne42 (ninS ne440 (ninS ne43 nin0)))).ext E823).keep K844 (ninS ne830 nin0))
          have f850 := (((f802.keep K820 (ninS ne42 (ninS ne440 (ninS ne43 nin0)))).ext E823).keep K844 (ninS ne830 nin0))
          have f851 := ((f831.ext E823).keep K844)
          have f852 := (((f804.keep K820 (ninS ne38 (ninS ne441 (ninS ne41 nin0)))).ext E823).keep K844 (ninS ne832 nin0))
          have f853 := (((f805.keep K820 (ninS ne38 (ninS ne441 (ninS ne41 nin0)))).ext E823).keep K844 (ninS ne832 nin0))
          have f854 := (((f806.keep K820 (ninS ne38 (ninS ne441 (ninS ne41 nin0)))).ext E823).keep K844 (ninS ne832 nin0))
          have f855 := (f841.keep K844)
          have f856 := (f842.keep K844 (ninS ne828 nin0))
          have f857 := (f843.keep K844 (ninS ne828 nin0))
          have z859 : h0.size ≤ (T844.heap).size := (Nat.le_trans z845 K844.1)
          obtain ⟨cq858, kq858, q858a, q858b, q858c⟩ := isOf hZ rfl f846
          obtain ⟨_, _, ⟨T858, L858, k858, n858⟩, -, X858, ⟨Lc858, hQ858, l858, y858, z858⟩, st858⟩ := X844.virtualBack hx (y := mN_Block_add) (z := mN_Block_add) hown (mvT hZ (own_w hw 101 rfl)) (mvT hZ (own_w hw 102 rfl)) (notFace_of_selects (args := #[]) (mvT hZ (own_w hw 104 rfl))) (mvT hZ (own_w hw 104 rfl)) (mvT hZ (own_w hw 103 rfl)) (by decide) (backOf (W := 0) (rmAddO l Z a0 hw [] b5 b823 al33 b11 ws33 b1 w_ yc x_ dg bp T844.heap n0 (Nat.le_trans Z0 z859) f846 f847 f848 f849 f850 f851 u844_0 (Ne.symm ne832) f852 f853 f854 u844_1 u844_2 u844_3 f855 f856 f857 (by first | assumption | rfl | decide | omega | (simp; done)) hCo) hZ (own_w hw 105 rfl) (own_w hw 26 rfl) (by decide) (by decide)) q858a q858c (g := (mkF m 160 (own_lw x0 x1 x2 x3 x4 x5 bp x_ dg mk w_ ya yb yc dd b1 b5) [(.ref b823), (.ref b5)])) rfl (by rw [hml]; rfl) (Steps.refl _) (argsL := [(.ref b823)]) (rest := []) (lenOf pd_14 rfl) rfl (by show 2 * 0 + _ ≤ _; exact Nat.le_of_eq rfl) (hb hby at_160) (fun _ _ => ⟨rfl, rfl, (by decide : 9 + 0 ≤ _), (by decide : 39 + 0 ≤ _)⟩)
          dsimp only [Pt.U, Pt.locs, Pt.cells, Pt.slots] at X858 l858 y858 z858 st858 hQ858
          replace l858 := l858.symm
          subst l858 y858 z858
          obtain ⟨rfl, rfl, e858⟩ := hQ858
          first | rw [List.append_nil] at X858 | skip
          refine Goes.tr st858 ?_
          have e858' : T858.heap = T844.heap := e858
          show Goes p e below _ (T858.setTop (mkF m 163 (own_lw x0 x1 x2 x3 x4 x5 bp x_ dg mk w_ ya yb yc dd b1 b5) [(.int (0 : Int32))]))
          refine Goes.via (fun _ kk_ => XS.pop X858.here hx rfl (hb hby at_163) rfl rfl kk_) ?_
          show Goes p e below _ (T858.setTop (mkF m 164 (own_lw x0 x1 x2 x3 x4 x5 bp x_ dg mk w_ ya yb yc dd b1 b5) []))
          have K860 : Keep h0 T844.heap [] := ((K824.ext E823).trans K844 (allS (Or.inr sz_b823) all0))
          have f861 := ((u820_5.ext E823).keep K844 (ninS ne834 nin0))
          have hEq := e858'
          rw [← hEq] at K860 f846 f849 f861
          exact J164 _ (pA :: []) (pB :: (pA :: [])) (pB :: (pA :: [])) _ _ (X858.more (by decide) (by decide)) N844 K860 f846 f849 f861 hcn822 ((if_neg hA).symm) ((if_neg (fun z => z.elim hBo (fun z => hB z))).symm) ((if_pos (Or.inl hCo)).symm)
        · skip
          by_cases hC : yc = ya ∨ yc = yb
          · skip
            refine gAL X820 hx hby at_146 rfl rfl ?_
            obtain ⟨T862, h862, X862, e862, E862, A862, D862, -, st862⟩ := newO X820 hx hZ hown (own_w hw 27 rfl) (own_w hw 28 rfl) (own_w hw 29 rfl) rfl (g := (mkF m 148 (own_lw x0 x1 x2 x3 x4 x5 bp x_ dg mk w_ ya yb yc dd b1 b5) [(.ref b5)])) rfl (hb hby at_148) (by first | decide | omega | (dsimp only; omega)) (by first | decide | omega | (dsimp only; omega))
            obtain ⟨b862, g862⟩ : ∃ z, z = (T820.heap).size := ⟨_, rfl⟩
            rw [← g862] at A862 D862 st862
            have K863 : Keep h0 T820.heap [] := (((K778.ext E777).trans K796 (allS (Or.inr sz_b777) all0)).trans K820 (allS (Or.inr sz_al33) (allS (Or.inr sz_nb436) (allS (Or.inr sz_ws33) all0))))
            have f866 := (f807.keep K820)
            have lne867 : b1 < b862 := Nat.lt_of_lt_of_le f866.lt (Nat.le_of_eq g862.symm)
            have ne867 : b1 ≠ b862 := Nat.ne_of_lt lne867
            have f868 := (f798.keep K820)
            have lne869 : b5 < b862 := Nat.lt_of_lt_of_le f868.lt (Nat.le_of_eq g862.symm)
            have ne869 : b5 ≠ b862 := Nat.ne_of_lt lne869
            have f870 := (f803.keep K820)
            have lne871 : b11 < b862 := Nat.lt_of_lt_of_le f870.lt (Nat.le_of_eq g862.symm)
            have ne871 : b11 ≠ b862 := Nat.ne_of_lt lne871
            have lne872 : al33 < b862 := Nat.lt_of_lt_of_le u820_0.lt (Nat.le_of_eq g862.symm)
            have ne872 : al33 ≠ b862 := Nat.ne_of_lt lne872
            have lne873 : ws33 < b862 := Nat.lt_of_lt_of_le u820_5.lt (Nat.le_of_eq g862.symm)
            have ne873 : ws33 ≠ b862 := Nat.ne_of_lt lne873
            have f874 := (f814.keep K820)
            have lne875 : b399 < b862 := Nat.lt_of_lt_of_le f874.lt (Nat.le_of_eq g862.symm)
            have ne875 : b399 ≠ b862 := Nat.ne_of_lt lne875
            have lne876 : nb436 < b862 := Nat.lt_of_lt_of_le u820_4.lt (Nat.le_of_eq g862.symm)
            have ne876 : nb436 ≠ b862 := Nat.ne_of_lt lne876
            have f877 := (u796_0.keep K820)
            have lne878 : b777 < b862 := Nat.lt_of_lt_of_le f877.lt (Nat.le_of_eq g862.symm)
            have ne878 : b777 ≠ b862 := Nat.ne_of_lt lne878
            have z879 : h0.size ≤ (T820.heap).size := (Nat.le_trans z821 K820.1)
            have sz_b862 : h0.size ≤ b862 := Nat.le_trans z879 (Nat.le_of_eq g862.symm)
            have gn_b862 : n0 ≤ b862 := Nat.le_trans Z0 sz_b862
            have F_space_b862 : Fld Z h862 b862 "nearhop/model/Id" "space" "Lnearhop/model/IdSpace;" .null := D862 (Or.inr (own_w hw 35 rfl)) (ty := (.object "nearhop/model/IdSpace")) (by decide)
            have F_high_b862 : Fld Z h862 b862 "nearhop/model/Id" "high" "J" (.long (0 : Int64)) := D862 (Or.inr (own_w hw 50 rfl)) (ty := .long) (by decide)
            have F_low_b862 : Fld Z h862 b862 "nearhop/model/Id" "low" "J" (.long (0 : Int64)) := D862 (Or.inr (own_w hw 55 rfl)) (ty := .long) (by decide)
            refine Goes.via st862 ?_
            show Goes p e below _ (T862.setTop (mkF m 151 (own_lw x0 x1 x2 x3 x4 x5 bp x_ dg mk w_ ya yb yc dd b1 b5) [(.ref b862), (.ref b5)]))
            refine gDU X862 hx hby at_151 rfl ?_
            refine gAL X862 hx hby at_152 rfl rfl ?_
            refine Goes.via (fun _ kk_ => XS.lconst X862.here hx rfl (hb hby at_154) kk_) ?_
            show Goes p e below _ (T862.setTop (mkF m 155 (own_lw x0 x1 x2 x3 x4 x5 bp x_ dg mk w_ ya yb yc dd b1 b5) [(.long (0 : Int64)), (.ref b1), (.ref b862), (.ref b862), (.ref b5)]))
            refine Goes.via (fun _ kk_ => XS.lload X862.here hx rfl (hb hby at_155) rfl  kk_) ?_
            show Goes p e below _ (T862.setTop (mkF m 157 (own_lw x0 x1 x2 x3 x4 x5 bp x_ dg mk w_ ya yb yc dd b1 b5) [(.long yc), (.long (0 : Int64)), (.ref b1), (.ref b862), (.ref b862), (.ref b5)]))
            have f880 := (f866.ext E862)
            have f881 := ((f808.keep K820 (ninS ne37 (ninS ne439 (ninS ne40 nin0)))).ext E862)
            have f882 := ((f809.keep K820 (ninS ne37 (ninS ne439 (ninS ne40 nin0)))).ext E862)
            have z884 : h0.size ≤ (h862).size := (Nat.le_trans z879 E862.1)
            obtain ⟨_, _, ⟨T883, L883, k883, n883⟩, -, X883, ⟨Lc883, hQ883, l883, y883, z883⟩, st883⟩ := X862.specialBack hx (y := mN_Id_init) rfl hown (mvT hZ (own_w hw 30 rfl)) (mvT hZ (own_w hw 31 rfl)) (mvT hZ (own_w hw 32 rfl)) (by decide) (backOf (W := 2) (rm5 l Z a0 hw [] b862 b1 yc x_ dg bp h862 n0 (Nat.le_trans Z0 z884) A862 F_space_b862 F_high_b862 F_low_b862 gn_b862 f880 f881 f882 (by first | assumption | rfl | decide | omega | (simp; done)) (by first | assumption | rfl | decide | omega | (simp; done)) (by first | assumption | rfl | decide | omega | (simp; done)) (by first | assumption | rfl | decide | omega | (simp; done))) hZ (own_w hw 32 rfl) (own_w hw 29 rfl) (by decide) (by decide)) (g := (mkF m 157 (own_lw x0 x1 x2 x3 x4 x5 bp x_ dg mk w_ ya yb yc dd b1 b5) [(.long yc), (.long (0 : Int64)), (.ref b1), (.ref b862), (.ref b862), (.ref b5)])) rfl (by rw [hml]; rfl) (Steps.refl _) (a := b862) (argsL := [(.ref b1), (.long (0 : Int64)), (.long yc)]) (rest := [(.ref b862), (.ref b5)]) (lenOf pd_17 rfl) rfl (by show 2 * 0 + _ ≤ _; exact Nat.le_of_eq rfl) (hb hby at_157) (fun _ _ => ⟨rfl, e862, (by decide : 9 + 0 ≤ _), (by decide : 39 + 0 ≤ _)⟩)
            dsimp only [Pt.U, Pt.locs, Pt.cells, Pt.slots] at X883 l883 y883 z883 st883 hQ883
            replace l883 := l883.symm
            subst l883 y883 z883
            obtain ⟨rfl, N883q, K883, u883_0, u883_1, u883_2, u883_3⟩ := hQ883
            have N883 := Fr.app N820 N883q
            refine Goes.tr st883 ?_
            show Goes p e below _ (T883.setTop (mkF m 160 (own_lw x0 x1 x2 x3 x4 x5 bp x_ dg mk w_ ya yb yc dd b1 b5) [(.ref b862), (.ref b5)]))
            have hpC' := hpC hCo
            have f885 := ((f868.ext E862).keep K883)
            have f886 := (((f799.keep K820 (ninS ne42 (ninS ne440 (ninS ne43 nin0)))).ext E862).keep K883 (ninS ne869 nin0))
            have f887 := (((f800.keep K820 (ninS ne42 (ninS ne440 (ninS ne43 nin0)))).ext E862).keep K883 (ninS ne869 nin0))
            have f888 := (((f801.keep K820 (ninS ne42 (ninS ne440 (ninS ne43 nin0)))).ext E862).keep K883 (ninS ne869 nin0))
            have f889 := (((f802.keep K820 (ninS ne42 (ninS ne440 (ninS ne43 nin0)))).ext E862).keep K883 (ninS ne869 nin0))
            have f890 := ((f870.ext E862).keep K883)
            have f891 := (((f804.keep K820 (ninS ne38 (ninS ne441 (ninS ne41 nin0)))).ext E862).keep K883 (ninS ne871 nin0))
            have f892 := (((f805.keep K820 (ninS ne38 (ninS ne441 (ninS ne41 nin0)))).ext E862).keep K883 (ninS ne871 nin0))
            have f893 := (((f806.keep K820 (ninS ne38 (ninS ne441 (ninS ne41 nin0)))).ext E862).keep K883 (ninS ne871 nin0))
            have f894 := (f880.keep K883)
            have f895 := (f881.keep K883 (ninS ne867 nin0))
            have f896 := (f882.keep K883 (ninS ne867 nin0))
            have f897 := ((u820_0.ext E862).keep K883)
            have f898 := ((u820_2.ext E862).keep K883 (ninS ne872 nin0))
            have f899 := ((u820_1.ext E862).keep K883 (ninS ne872 nin0))
            have f900 := ((u820_4.ext E862).keep K883 (ninS ne876 nin0))
            have f901 := ((f874.ext E862).keep K883)
            have f902 := (((f815.keep K820 (ninS (Ne.symm ne408) (ninS ne443 (ninS (Ne.symm ne409) nin0)))).ext E862).keep K883 (ninS ne875 nin0))
            have f903 := (((f816.keep K820 (ninS (Ne.symm ne408) (ninS ne443 (ninS (Ne.symm ne409) nin0)))).ext E862).keep K883 (ninS ne875 nin0))
            have f904 := (((f817.keep K820 (ninS (Ne.symm ne408) (ninS ne443 (ninS (Ne.symm ne409) nin0)))).ext E862).keep K883 (ninS ne875 nin0))
            have f905 := ((f877.ext E862).keep K883)
            have f906 := (((u796_1.keep K820 (ninS (Ne.symm ne787) (ninS (Ne.symm ne791) (ninS (Ne.symm ne788) nin0)))).ext E862).keep K883 (ninS ne878 nin0))
            have f907 := (((u796_2.keep K820 (ninS (Ne.symm ne787) (ninS (Ne.symm ne791) (ninS (Ne.symm ne788) nin0)))).ext E862).keep K883 (ninS ne878 nin0))
            have f908 := (((u796_3.keep K820 (ninS (Ne.symm ne787) (ninS (Ne.symm ne791) (ninS (Ne.symm ne788) nin0)))).ext E862).keep K883 (ninS ne878 nin0))
            have z910 : h0.size ≤ (T883.heap).size := (Nat.le_trans z884 K883.1)
            obtain ⟨cq909, kq909, q909a, q909b, q909c⟩ := isOf hZ rfl f885
            obtain ⟨_, _, ⟨T909, L909, k909, n909⟩, -, X909, ⟨Lc909, hQ909, l909, y909, z909⟩, st909⟩ := X883.virtualBack hx (y := mN_Block_add) (z := mN_Block_add) hown (mvT hZ (own_w hw 101 rfl)) (mvT hZ (own_w hw 102 rfl)) (notFace_of_selects (args := #[]) (mvT hZ (own_w hw 104 rfl))) (mvT hZ (own_w hw 104 rfl)) (mvT hZ (own_w hw 103 rfl)) (by decide) (backOf (W := 0) (rmAddI2 l Z a0 hw [] b5 b862 al33 b11 ws33 b1 w_ yc x_ dg bp nb436 kb436 (own_upd (own_upd (fun _ => .null) 0 (.ref b399)) 1 (.ref b777)) b399 ya b777 yb T883.heap n0 (Nat.le_trans Z0 z910) f885 f886 f887 f888 f889 f890 u883_0 (Ne.symm ne871) f891 f892 f893 u883_1 u883_2 u883_3 f894 f895 f896 (by first | assumption | rfl | decide | omega | (simp; done)) f897 f898 f899 f900 rfl (Ne.symm ne875) f901 f902 f903 f904 rfl (Ne.symm ne878) f905 f906 f907 f908 hpC'.2.2.1 hCo (own_in2 hC)) hZ (own_w hw 105 rfl) (own_w hw 26 rfl) (by decide) (by decide)) q909a q909c (g := (mkF m 160 (own_lw x0 x1 x2 x3 x4 x5 bp x_ dg mk w_ ya yb yc dd b1 b5) [(.ref b862), (.ref b5)])) rfl (by rw [hml]; rfl) (Steps.refl _) (argsL := [(.ref b862)]) (rest := []) (lenOf pd_14 rfl) rfl (by show 2 * 0 + _ ≤ _; exact Nat.le_of_eq rfl) (hb hby at_160) (fun _ _ => ⟨rfl, rfl, (by decide : 9 + 0 ≤ _), (by decide : 39 + 0 ≤ _)⟩)
            dsimp only [Pt.U, Pt.locs, Pt.cells, Pt.slots] at X909 l909 y909 z909 st909 hQ909
            replace l909 := l909.symm
            subst l909 y909 z909
            obtain ⟨rfl, rfl, e909⟩ := hQ909
            first | rw [List.append_nil] at X909 | skip
            refine Goes.tr st909 ?_
            have e909' : T909.heap = T883.heap := e909
            show Goes p e below _ (T909.setTop (mkF m 163 (own_lw x0 x1 x2 x3 x4 x5 bp x_ dg mk w_ ya yb yc dd b1 b5) [(.int (0 : Int32))]))
            refine Goes.via (fun _ kk_ => XS.pop X909.here hx rfl (hb hby at_163) rfl rfl kk_) ?_
            show Goes p e below _ (T909.setTop (mkF m 164 (own_lw x0 x1 x2 x3 x4 x5 bp x_ dg mk w_ ya yb yc dd b1 b5) []))
            have K911 : Keep h0 T883.heap [] := ((K863.ext E862).trans K883 (allS (Or.inr sz_b862) all0))
            have f912 := ((u820_5.ext E862).keep K883 (ninS ne873 nin0))
            have hEq := e909'
            rw [← hEq] at K911 f885 f888 f912
            exact J164 _ (pA :: []) (pB :: (pA :: [])) (pB :: (pA :: [])) _ _ (X909.more (by decide) (by decide)) N883 K911 f885 f888 f912 hcn822 ((if_neg hA).symm) ((if_neg (fun z => z.elim hBo (fun z => hB z))).symm) ((if_pos (Or.inr hC)).symm)
          · skip
            refine gAL X820 hx hby at_146 rfl rfl ?_
            obtain ⟨T913, h913, X913, e913, E913, A913, D913, -, st913⟩ := newO X820 hx hZ hown (own_w hw 27 rfl) (own_w hw 28 rfl) (own_w hw 29 rfl) rfl (g := (mkF m 148 (own_lw x0 x1 x2 x3 x4 x5 bp x_ dg mk w_ ya yb yc dd b1 b5) [(.ref b5)])) rfl (hb hby at_148) (by first | decide | omega | (dsimp only; omega)) (by first | decide | omega | (dsimp only; omega))
            obtain ⟨b913, g913⟩ : ∃ z, z = (T820.heap).size := ⟨_, rfl⟩
            rw [← g913] at A913 D913 st913
            have K914 : Keep h0 T820.heap [] := (((K778.ext E777).trans K796 (allS (Or.inr sz_b777) all0)).trans K820 (allS (Or.inr sz_al33) (allS (Or.inr sz_nb436) (allS (Or.inr sz_ws33) all0))))
            have f917 := (f807.keep K820)
            have lne918 : b1 < b913 := Nat.lt_of_lt_of_le f917.lt (Nat.le_of_eq g913.symm)
            have ne918 : b1 ≠ b913 := Nat.ne_of_lt lne918
            have f919 := (f798.keep K820)
            have lne920 : b5 < b913 := Nat.lt_of_lt_of_le f919.lt (Nat.le_of_eq g913.symm)
            have ne920 : b5 ≠ b913 := Nat.ne_of_lt lne920
            have f921 := (f803.keep K820)
            have lne922 : b11 < b913 := Nat.lt_of_lt_of_le f921.lt (Nat.le_of_eq g913.symm)
            have ne922 : b11 ≠ b913 := Nat.ne_of_lt lne922
            have lne923 : al33 < b913 := Nat.lt_of_lt_of_le u820_0.lt (Nat.le_of_eq g913.symm)
            have ne923 : al33 ≠ b913 := Nat.ne_of_lt lne923
            have lne924 : ws33 < b913 := Nat.lt_of_lt_of_le u820_5.lt (Nat.le_of_eq g913.symm)
            have ne924 : ws33 ≠ b913 := Nat.ne_of_lt lne924
            have f925 := (f814.keep K820)
            have lne926 : b399 < b913 := Nat.lt_of_lt_of_le f925.lt (Nat.le_of_eq g913.symm)
            have ne926 : b399 ≠ b913 := Nat.ne_of_lt lne926
            have lne927 : nb436 < b913 := Nat.lt_of_lt_of_le u820_4.lt (Nat.le_of_eq g913.symm)
            have ne927 : nb436 ≠ b913 := Nat.ne_of_lt lne927
            have f928 := (u796_0.keep K820)
            have lne929 : b777 < b913 := Nat.lt_of_lt_of_le f928.lt (Nat.le_of_eq g913.symm)
            have ne929 : b777 ≠ b913 := Nat.ne_of_lt lne929
            have z930 : h0.size ≤ (T820.heap).size := (Nat.le_trans z821 K820.1)
            have sz_b913 : h0.size ≤ b913 := Nat.le_trans z930 (Nat.le_of_eq g913.symm)
            have gn_b913 : n0 ≤ b913 := Nat.le_trans Z0 sz_b913
            have F_space_b913 : Fld Z h913 b913 "nearhop/model/Id" "space" "Lnearhop/model/IdSpace;" .null := D913 (Or.inr (own_w hw 35 rfl)) (ty := (.object "nearhop/model/IdSpace")) (by decide)
            have F_high_b913 : Fld Z h913 b913 "nearhop/model/Id" "high" "J" (.long (0 : Int64)) := D913 (Or.inr (own_w hw 50 rfl)) (ty := .long) (by decide)
            have F_low_b913 : Fld Z h913 b913 "nearhop/model/Id" "low" "J" (.long (0 : Int64)) := D913 (Or.inr (own_w hw 55 rfl)) (ty := .long) (by decide)
            refine Goes.via st913 ?_
            show Goes p e below _ (T913.setTop (mkF m 151 (own_lw x0 x1 x2 x3 x4 x5 bp x_ dg mk w_ ya yb yc dd b1 b5) [(.ref b913), (.ref b5)]))
            refine gDU X913 hx hby at_151 rfl ?_
            refine gAL X913 hx hby at_152 rfl rfl ?_
            refine Goes.via (fun _ kk_ => XS.lconst X913.here hx rfl (hb hby at_154) kk_) ?_
            show Goes p e below _ (T913.setTop (mkF m 155 (own_lw x0 x1 x2 x3 x4 x5 bp x_ dg mk w_ ya yb yc dd b1 b5) [(.long (0 : Int64)), (.ref b1), (.ref b913), (.ref b913), (.ref b5)]))
            refine Goes.via (fun _ kk_ => XS.lload X913.here hx rfl (hb hby at_155) rfl  kk_) ?_
            show Goes p e below _ (T913.setTop (mkF m 157 (own_lw x0 x1 x2 x3 x4 x5 bp x_ dg mk w_ ya yb yc dd b1 b5) [(.long yc), (.long (0 : Int64)), (.ref b1), (.ref b913), (.ref b913), (.ref b5)]))
            have f931 := (f917.ext E913)
            have f932 := ((f808.keep K820 (ninS ne37 (ninS ne439 (ninS ne40 nin0)))).ext E913)
            have f933 := ((f809.keep K820 (ninS ne37 (ninS ne439 (ninS ne40 nin0)))).ext E913)
            have z935 : h0.size ≤ (h913).size := (Nat.le_trans z930 E913.1)
            obtain ⟨_, _, ⟨T934, L934, k934, n934⟩, -, X934, ⟨Lc934, hQ934, l934, y934, z934⟩, st934⟩ := X913.specialBack hx (y := mN_Id_init) rfl hown (mvT hZ (own_w hw 30 rfl)) (mvT hZ (own_w hw 31 rfl)) (mvT hZ (own_w hw 32 rfl)) (by decide) (backOf (W := 2) (rm5 l Z a0 hw [] b913 b1 yc x_ dg bp h913 n0 (Nat.le_trans Z0 z935) A913 F_space_b913 F_high_b913 F_low_b913 gn_b913 f931 f932 f933 (by first | assumption | rfl | decide | omega | (simp; done)) (by first | assumption | rfl | decide | omega | (simp; done)) (by first | assumption | rfl | decide | omega | (simp; done)) (by first | assumption | rfl | decide | omega | (simp; done))) hZ (own_w hw 32 rfl) (own_w hw 29 rfl) (by decide) (by decide)) (g := (mkF m 157 (own_lw x0 x1 x2 x3 x4 x5 bp x_ dg mk w_ ya yb yc dd b1 b5) [(.long yc), (.long (0 : Int64)), (.ref b1), (.ref b913), (.ref b913), (.ref b5)])) rfl (by rw [hml]; rfl) (Steps.refl _) (a := b913) (argsL := [(.ref b1), (.long (0 : Int64)), (.long yc)]) (rest := [(.ref b913), (.ref b5)]) (lenOf pd_17 rfl) rfl (by show 2 * 0 + _ ≤ _; exact Nat.le_of_eq rfl) (hb hby at_157) (fun _ _ => ⟨rfl, e913, (by decide : 9 + 0 ≤ _), (by decide : 39 + 0 ≤ _)⟩)
            dsimp only [Pt.U, Pt.locs, Pt.cells, Pt.slots] at X934 l934 y934 z934 st934 hQ934
            replace l934 := l934.symm
            subst l934 y934 z934
            obtain ⟨rfl, N934q, K934, u934_0, u934_1, u934_2, u934_3⟩ := hQ934
            have N934 := Fr.app N820 N934q
            refine Goes.tr st934 ?_
            show Goes p e below _ (T934.setTop (mkF m 160 (own_lw x0 x1 x2 x3 x4 x5 bp x_ dg mk w_ ya yb yc dd b1 b5) [(.ref b913), (.ref b5)]))
            have hpC' := hpC hCo
            have f936 := ((f919.ext E913).keep K934)
            have f937 := (((f799.keep K820 (ninS ne42 (ninS ne440 (ninS ne43 nin0)))).ext E913).keep K934 (ninS ne920 nin0))
            have f938 := (((f800.keep K820 (ninS ne42 (ninS ne440 (ninS ne43 nin0)))).ext E913).keep K934 (ninS ne920 nin0))
            have f939 := (((f801.keep K820 (ninS ne42 (ninS ne440 (ninS ne43 nin0)))).ext E913).keep K934 (ninS ne920 nin0))
            have f940 := (((f802.keep K820 (ninS ne42 (ninS ne440 (ninS ne43 nin0)))).ext E913).keep K934 (ninS ne920 nin0))
            have f941 := ((f921.ext E913).keep K934)
            have f942 := (((f804.keep K820 (ninS ne38 (ninS ne441 (ninS ne41 nin0)))).ext E913).keep K934 (ninS ne922 nin0))
            have f943 := (((f805.keep K820 (ninS ne38 (ninS ne441 (ninS ne41 nin0)))).ext E913).keep K934 (ninS ne922 nin0))
            have f944 := (((f806.keep K820 (ninS ne38 (ninS ne441 (ninS ne41 nin0)))).ext E913).keep K934 (ninS ne922 nin0))
            have f945 := (f931.keep K934)
            have f946 := (f932.keep K934 (ninS ne918 nin0))
            have f947 := (f933.keep K934 (ninS ne918 nin0))
            have f948 := ((u820_0.ext E913).keep K934)
            have f949 := ((u820_2.ext E913).keep K934 (ninS ne923 nin0))
            have f950 := ((u820_1.ext E913).keep K934 (ninS ne923 nin0))
            have f951 := ((u820_4.ext E913).keep K934 (ninS ne927 nin0))
            have f952 := ((f925.ext E913).keep K934)
            have f953 := (((f815.keep K820 (ninS (Ne.symm ne408) (ninS ne443 (ninS (Ne.symm ne409) nin0)))).ext E913).keep K934 (ninS ne926 nin0))
            have f954 := (((f816.keep K820 (ninS (Ne.symm ne408) (ninS ne443 (ninS (Ne.symm ne409) nin0)))).ext E913).keep K934 (ninS ne926 nin0))
            have f955 := (((f817.keep K820 (ninS (Ne.symm ne408) (ninS ne443 (ninS (Ne.symm ne409) nin0)))).ext E913).keep K934 (ninS ne926 nin0))
            have f956 := ((f928.ext E913).keep K934)
            have f957 := (((u796_1.keep K820 (ninS (Ne.symm ne787) (ninS (Ne.symm ne791) (ninS (Ne.symm ne788) nin0)))).ext E913).keep K934 (ninS ne929 nin0))
            have f958 := (((u796_2.keep K820 (ninS (Ne.symm ne787) (ninS (Ne.symm ne791) (ninS (Ne.symm ne788) nin0)))).ext E913).keep K934 (ninS ne929 nin0))
            have f959 := (((u796_3.keep K820 (ninS (Ne.symm ne787) (ninS (Ne.symm ne791) (ninS (Ne.symm ne788) nin0)))).ext E913).keep K934 (ninS ne929 nin0))
            have f960 := ((u820_3.ext E913).keep K934 (ninS ne923 nin0))
            have f961 := ((u820_5.ext E913).keep K934 (ninS ne924 nin0))
            have z963 : h0.size ≤ (T934.heap).size := (Nat.le_trans z935 K934.1)
            obtain ⟨cq962, kq962, q962a, q962b, q962c⟩ := isOf hZ rfl f936
            obtain ⟨_, _, ⟨T962, L962, k962, n962⟩, -, X962, ⟨Lc962, hQ962, l962, y962, z962⟩, st962⟩ := X934.virtualBack hx (y := mN_Block_add) (z := mN_Block_add) hown (mvT hZ (own_w hw 101 rfl)) (mvT hZ (own_w hw 102 rfl)) (notFace_of_selects (args := #[]) (mvT hZ (own_w hw 104 rfl))) (mvT hZ (own_w hw 104 rfl)) (mvT hZ (own_w hw 103 rfl)) (by decide) (backOf (W := 0) (rmAddY2 l Z a0 hw [] b5 b913 al33 b11 ws33 b1 w_ yc x_ dg bp kw33 nd (own_upd (own_upd (fun _ => (.int 0)) pA (.int ((own_cnt [] pA) + (1 : Int32)))) pB (.int ((own_cnt (pA :: []) pB) + (1 : Int32)))) pC (own_cnt (pB :: (pA :: [])) pC) (((0 : Int32) + (1 : Int32)) + (1 : Int32)) nb436 kb436 (own_upd (own_upd (fun _ => .null) 0 (.ref b399)) 1 (.ref b777)) b399 ya b777 yb T934.heap n0 (Nat.le_trans Z0 z963) f936 f937 f938 f939 f940 f941 u934_0 (Ne.symm ne922) f942 f943 f944 u934_1 u934_2 u934_3 f945 f946 f947 (by first | assumption | rfl | decide | omega | (simp; done)) f948 f949 f950 f951 rfl (Ne.symm ne926) f952 f953 f954 f955 rfl (Ne.symm ne929) f956 f957 f958 f959 f960 hCo f961 (hcn822 pC) hpC'.1 hpC'.2.1 gn_al33 gn_ws33 hpC'.2.2.1 gn_nb436 ne44 ne444 (Ne.symm ne442) u436_6 (own_in2n hC)) hZ (own_w hw 105 rfl) (own_w hw 26 rfl) (by decide) (by decide)) q962a q962c (g := (mkF m 160 (own_lw x0 x1 x2 x3 x4 x5 bp x_ dg mk w_ ya yb yc dd b1 b5) [(.ref b913), (.ref b5)])) rfl (by rw [hml]; rfl) (Steps.refl _) (argsL := [(.ref b913)]) (rest := []) (lenOf pd_14 rfl) rfl (by show 2 * 0 + _ ≤ _; exact Nat.le_of_eq rfl) (hb hby at_160) (fun _ _ => ⟨rfl, rfl, (by decide : 9 + 0 ≤ _), (by decide : 39 + 0 ≤ _)⟩)
            dsimp only [Pt.U, Pt.locs, Pt.cells, Pt.slots] at X962 l962 y962 z962 st962 hQ962
            replace l962 := l962.symm
            subst l962 y962 z962
            obtain ⟨rfl, N962q, K962, u962_0, u962_1, u962_2, u962_3, u962_4, u962_5⟩ := hQ962
            have N962 := Fr.app N934 N962q
            refine Goes.tr st962 ?_
            show Goes p e below _ (T962.setTop (mkF m 163 (own_lw x0 x1 x2 x3 x4 x5 bp x_ dg mk w_ ya yb yc dd b1 b5) [(.int (1 : Int32))]))
            have hcn964 : ∀ i, (own_upd (own_upd (own_upd (fun _ => (.int 0)) pA (.int ((own_cnt [] pA) + (1 : Int32)))) pB (.int ((own_cnt (pA :: []) pB) + (1 : Int32)))) pC (.int ((own_cnt (pB :: (pA :: [])) pC) + (1 : Int32)))) i = .int (own_cnt (pC :: (pB :: (pA :: []))) i) := own_upV hcn822
            refine Goes.via (fun _ kk_ => XS.pop X962.here hx rfl (hb hby at_163) rfl rfl kk_) ?_
            show Goes p e below _ (T962.setTop (mkF m 164 (own_lw x0 x1 x2 x3 x4 x5 bp x_ dg mk w_ ya yb yc dd b1 b5) []))
            have K965 : Keep h0 T962.heap [] := (((K914.ext E913).trans K934 (allS (Or.inr sz_b913) all0)).trans K962 (allS (Or.inr sz_al33) (allS (Or.inr sz_nb436) (allS (Or.inr sz_ws33) all0))))
            have f966 := (f936.keep K962)
            have f967 := (f939.keep K962 (ninS ne42 (ninS ne440 (ninS ne43 nin0))))
            exact J164 _ (pA :: []) (pB :: (pA :: [])) (pC :: (pB :: (pA :: []))) _ _ (X962.more (by decide) (by decide)) N962 K965 f966 f967 u962_5 hcn964 ((if_neg hA).symm) ((if_neg (fun z => z.elim hBo (fun z => hB z))).symm) ((if_neg (fun z => z.elim hCo (fun z => z.elim (fun q => hC (Or.inl q)) (fun q => hC (Or.inr q))))).symm)
theorem own_lenN {Z : State} {args : Array Value} {t : Term} {a : Addr} {cl : Cell} {ty : FieldType} {n : Int32} (ev : t.eval args Z none [] Z = some (.ref a)) (A : Arr Z Z.heap a cl ty) (h : (Cond.eq (Term.length t) (Term.int n)).value args Z none Z [] = some true) : cl.slots.size < 2 ^ 31 ∧ cl.slots.size.toInt32 = n := by
  have hv := eqv_i (y := n) rfl h
  have hat : Z.arrayAt? a = some cl := A.fin (Vm.Alike.refl _)
  have hlt : cl.slots.size < 2 ^ 31 := by
    rcases Nat.lt_or_ge cl.slots.size (2 ^ 31) with g | g
    · exact g
    · exfalso
      have g' : ¬ cl.slots.size < 2147483648 := Nat.not_lt.mpr g
      simp [Term.eval, ev, hat, g'] at hv
  obtain ⟨c2, e1, e2⟩ := Lib.length_at hv ev
  cases A.1.symm.trans e1
  exact ⟨hlt, e2⟩

set_option maxRecDepth 65536 in
set_option maxHeartbeats 40000000 in
theorem comes_1 {Post : Tables → Env → Array Value → State → Outcome → State → Prop} (hpost : ∀ tb e args s v u, (limb_1_1.after args s (.returned v) u = true ∧ limb_1_2.after args s (.returned v) u = true ∧ True) → FrameEnd s (.returned v) u (Jvm.fieldLocs frame_1_writes args s ++ Jvm.arrayLocs frame_1_arrays args s ++ Jvm.staticLocs frame_1_statics s) 32 192 → Post tb e args s (.returned v) u) :
    ArmFor flags0 classFile x code maxLocals ret World_1 tables_1 room_1 Calls_1 rest_1 Pre_1 Post := by
  intro l hfl _ _ p e ha hc hk s m args below hf hA hF happ hP
  obtain ⟨hcalls, hrest, hpre⟩ := hP
  obtain ⟨-, -, -, hnamed, -, -, -, hat⟩ := (Spec.applies_iff hf).mp happ
  obtain ⟨hg, hn⟩ := and_e (Cond.before_iff.mp (show (Jvm.Cond.and given_1 narrow_1).before args s = true from hpre))
  obtain ⟨gg1, gg2⟩ := and_e hg
  obtain ⟨gg3, gg4⟩ := and_e gg2
  obtain ⟨gg5, gg6⟩ := and_e gg4
  obtain ⟨gg7, gg8⟩ := and_e gg6
  obtain ⟨gg9, gg10⟩ := and_e gg8
  obtain ⟨gg11, gg12⟩ := and_e gg10
  obtain ⟨w0, w1, w2, w3, w4, w5, rfl⟩ : ∃ w0 w1 w2 w3 w4 w5 : Value, args = #[w0, w1, w2, w3, w4, w5] := by
    have hs : args.size = 6 := by simpa [Cond.value, given_1] using gg1
    obtain ⟨L⟩ := args
    match L, hs with
    | [w0, w1, w2, w3, w4, w5], _ => exact ⟨w0, w1, w2, w3, w4, w5, rfl⟩
  have hw := fun d (hd : d ∈ tables_1) => atoms_spec (ws := Jvm.Cond.code x code maxLocals ret :: tables_1) hat d (List.mem_cons_of_mem _ hd)
  have hfit : Fit s := fun {y c} hc i hi => by
    obtain ⟨ha, rfl⟩ := Array.getElem?_eq_some_iff.mp hc
    have q := List.all_eq_true.mp ((Array.all_eq_true_iff_forall_mem.mp hF) _ (Array.getElem_mem ha)) i (List.mem_range.mpr hi)
    simpa [Array.getElem?_eq_getElem hi] using q
  obtain ⟨hsets, hown0⟩ := atoms_of _ (rest_1_c_eq ▸ (show rest_1_c.before _ s = true from hrest))
  have hr0 := Cond.before_iff.mp hown0
  obtain ⟨i0, ei0⟩ := is_v gg3
  obtain rfl : w0 = (.int i0) := Option.some.inj ei0
  obtain ⟨i1, ei1⟩ := is_v gg5
  obtain rfl : w1 = (.int i1) := Option.some.inj ei1
  obtain ⟨i2, ei2⟩ := isL_v gg7
  obtain rfl : w2 = (.long i2) := Option.some.inj ei2
  obtain ⟨i3, ei3⟩ := isL_v gg9
  obtain rfl : w3 = (.long i3) := Option.some.inj ei3
  obtain ⟨i4, ei4⟩ := isL_v gg11
  obtain rfl : w4 = (.long i4) := Option.some.inj ei4
  obtain ⟨i5, ei5⟩ := isL_v gg12
  obtain rfl : w5 = (.long i5) := Option.some.inj ei5
  obtain ⟨ed, eD⟩ := arr_v (Cond.before_iff.mp (hsets _ (List.mem_of_getElem? (i := 6) rfl)))
  have OE : Sta s s.heap "java/util/ArrayList" "DEFAULTCAPACITY_EMPTY_ELEMENTDATA" "[Ljava/lang/Object;" (.ref ed) := Sta.start eD (Or.inr ⟨(own_w hw 62 rfl), (hsets _ (List.mem_of_getElem? (i := 2) rfl))⟩)
  obtain ⟨cE, aE⟩ := Arr.start eD (Cond.before_iff.mp (hsets _ (List.mem_of_getElem? (i := 6) rfl)))
  obtain ⟨zE1, zE2⟩ := own_lenN eD aE (Cond.before_iff.mp (hsets _ (List.mem_of_getElem? (i := 8) rfl)))
  have zE : cE.slots.size = 0 := by have q := len_toInt zE1; rw [zE2] at q; have e : (0 : Int32).toInt = 0 := (by decide); omega
  have OA : Arw s s.heap ed cE.cls (.object "java/lang/Object") 0 (fun _ => .null) := ⟨cE, aE, rfl, zE, by decide, fun i hi => absurd hi (Nat.not_lt_zero _), fun i hi => absurd hi (Nat.not_lt_zero _)⟩
  obtain ⟨n, o, h1, h2, h3, _, L, rfl, ⟨rfl, N, -⟩, hq⟩ := rm0 l s _ hw tables_1 i0 i1 i2 i3 i4 i5 ed cE.cls (fun _ => .null) s.heap s.heap.size (Nat.le_refl _) OE OA p e ha hc hk s m _ below hf ((Spec.applies_iff_loose hf).mp happ).1 ⟨rfl, State.Warmed39.refl s, rfl⟩ trivial
  refine ⟨n, _, h1, h2, h3, hpost _ _ _ _ _ _ ⟨Cond.after_iff.mpr rfl, Cond.after_iff.mpr (eq_i res_at (Term.int_eval (1)) rfl), trivial⟩ ⟨hq.1, hq.2.1, (hq.2.2.sift fun y hy => Or.inr (N y hy)).mono (by decide) (by decide)⟩⟩
theorem main_1_1 : Claimed_1_1 := comes_1 fun _ _ _ _ _ _ h hF => ⟨h.1, hF⟩
theorem main_1_2 : Claimed_1_2 := comes_1 fun _ _ _ _ _ _ h hF => ⟨h.2.1, hF⟩
end Jvm.Pilot.@@N@@
namespace Jvm.Pilot.@@N@@
open Jvm Jvm.ClassFile Sem Op Lib Jvm.Free Jvm.Stand Jvm.Pilot.@@N@@.Jvm.D
/-! MADE BY PROGRAM (witnessworld.py) out of the Statement's table words and the real class files: 30 classes; the members and pool entries that the words name. The judged class is class 1, her method 2. -/
namespace start1
open Jvm.ClassFile
def u (s : String) : CpInfo := .utf8 (stringToUtf16 s)
/-- a pool by its gaps: so many unusable entries, then the entry; so many at the end -/
def gap : Nat → List CpInfo → List CpInfo
  | 0, r => r
  | n + 1, r => .unusable :: gap n r
def poolList (es : List (Nat × CpInfo)) (last : Nat) : List CpInfo := es.foldr (fun e r => gap e.1 (e.2 :: r)) (gap last [])
def pool (es : List (Nat × CpInfo)) (last : Nat) : Array CpInfo := ⟨poolList es last⟩
def fileOf (pool : Array CpInfo) (this : Nat) (attrs : Array Attribute := #[]) (ms : Array MethodInfo := #[]) (fl : Nat := 33) (sup : Nat := 0) (ifs : Array Nat := #[]) (fds : Array FieldInfo := #[]) : ClassFile where
  minorVersion := 0
  majorVersion := 65
  constantPool := pool
  accessFlags := fl
  thisClass := this
  superClass := sup
  interfaces := ifs
  fields := fds
  methods := ms
  attributes := attrs
def plain (name : String) (sup : Option ClassId) : Class where
  name := name
  kind := .ordinary
  loader := none
  accessFlags := 33
  super := sup
  interfaces := #[]
  cf := none
  fields := #[]
  methods := #[]
  instanceTypes := #[]
  staticTypes := #[]
  resolved := #[]
  callSites := []
  init := .initialized
  statics := none
  mirror := none

def pool0 : Array CpInfo := pool [(5, u "<init>"), (0, u "()V"), (1, .class_ 10), (1, u "java/lang/Object")] 113

def k0c0 : Code := { maxStack := 0, maxLocals := 1, code := object_method_1_code, exceptionTable := #[], attributes := #[] }
def k0m0 : Method := { name := "<init>", desc := "()V", sig := { parameters := [], returnType := none }, accessFlags := 1, code := some k0c0 }
/-- java/lang/Object -/
def k0 : Class := { plain "java/lang/Object" none with
  accessFlags := 33
  interfaces := #[]
  cf := some (fileOf pool0 8 #[] #[{ accessFlags := 1, nameIndex := 5, descriptorIndex := 6, attributes := #[] }] 33 0 #[] #[])
  fields := #[]
  methods := #[k0m0]
  instanceTypes := #[]
  staticTypes := #[]
  resolved := Array.replicate 124 none
  statics := none }

def pool1 : Array CpInfo := pool [(2, .class_ 4), (1, u "java/lang/Object"), (0, u "<init>"), (0, u "()V"), (0, .integer 2147483647), (0, .class_ 9), (0, u "nearhop/model/IdSpace"), (0, .methodref 8 11), (0, .nameAndType 5 12), (0, u "(II)V"), (0, .class_ 14), (0, u "nearhop/model/Block"), (0, .class_ 16), (0, u "nearhop/model/Id"), (0, .methodref 15 18), (0, .nameAndType 5 19), (0, u "(Lnearhop/model/IdSpace;JJ)V"), (0, .methodref 13 21), (0, .nameAndType 5 22), (0, u "(Lnearhop/model/Id;)V"), (0, .methodref 13 24), (0, .nameAndType 25 26), (0, u "add"), (0, u "(Lnearhop/model/Id;)Z"), (0, .methodref 28 29), (0, .class_ 30), (0, .nameAndType 31 32), (0, u "nearhop/model/BlockSharingPinLaw"), (0, u "shares"), (0, u "(JJIII)Z"), (0, .methodref 13 34), (0, .nameAndType 35 36), (0, u "sharing"), (0, u "(I)I"), (3, u "law"), (0, u "(IIJJJJ)Z")] 2

def k1m0 : Method := { name := "<init>", desc := "()V", sig := { parameters := [], returnType := none }, accessFlags := 2, code := none }
def k1c1 : Code := { maxStack := 4, maxLocals := 7, code := method_2_code, exceptionTable := #[], attributes := #[] }
def k1m1 : Method := { name := "shares", desc := "(JJIII)Z", sig := { parameters := [.long, .long, .int, .int, .int], returnType := some .boolean }, accessFlags := 10, code := some k1c1 }
def k1c2 : Code := { maxStack := 9, maxLocals := 31, code := code, exceptionTable := #[], attributes := #[] }
def k1m2 : Method := { name := "law", desc := "(IIJJJJ)Z", sig := { parameters := [.int, .int, .long, .long, .long, .long], returnType := some .boolean }, accessFlags := 9, code := some k1c2 }
/-- nearhop/model/BlockSharingPinLaw -/
def k1 : Class := { plain "nearhop/model/BlockSharingPinLaw" (some 0) with
  accessFlags := 49
  interfaces := #[]
  cf := some (fileOf pool1 28 #[] #[{ accessFlags := 2, nameIndex := 5, descriptorIndex := 6, attributes := #[] }, { accessFlags := 10, nameIndex := 31, descriptorIndex := 32, attributes := #[] }, { accessFlags := 9, nameIndex := 40, descriptorIndex := 41, attributes := #[] }] 49 2 #[] #[])
  fields := #[]
  methods := #[k1m0, k1m1, k1m2]
  instanceTypes := #[]
  staticTypes := #[]
  resolved := Array.replicate 44 none
  statics := none }

def pool2 : Array CpInfo := pool [(1, .methodref 2 3), (0, .class_ 4), (0, .nameAndType 5 6), (0, u "java/lang/Object"), (0, u "<init>"), (0, u "()V"), (0, .class_ 8), (0, u "java/lang/Record")] 13

def k2c0 : Code := { maxStack := 1, maxLocals := 1, code := jdk_30_method_1_code, exceptionTable := #[], attributes := #[] }
def k2m0 : Method := { name := "<init>", desc := "()V", sig := { parameters := [], returnType := none }, accessFlags := 4, code := some k2c0 }
/-- java/lang/Record -/
def k2 : Class := { plain "java/lang/Record" (some 0) with
  accessFlags := 1057
  interfaces := #[]
  cf := some (fileOf pool2 7 #[] #[{ accessFlags := 4, nameIndex := 5, descriptorIndex := 6, attributes := #[] }] 1057 2 #[] #[])
  fields := #[]
  methods := #[k2m0]
  instanceTypes := #[]
  staticTypes := #[]
  resolved := Array.replicate 22 none
  statics := none }

def pool3 : Array CpInfo := pool [(1, .class_ 2), (0, u "nearhop/model/IdSpace"), (2, .methodref 6 7), (0, .class_ 8), (0, .nameAndType 9 10), (0, u "java/lang/Record"), (0, u "<init>"), (0, u "()V"), (9, .methodref 21 22), (0, .class_ 23), (0, .nameAndType 24 25), (0, u "java/lang/Integer"), (0, u "numberOfTrailingZeros"), (0, u "(I)I"), (14, .fieldref 1 41), (0, .nameAndType 42 43), (0, u "base"), (0, u "I"), (0, .fieldref 1 45), (0, .nameAndType 46 43), (0, u "digits"), (0, .methodref 1 48), (0, .nameAndType 49 50), (0, u "bitsPerDigit"), (0, u "()I"), (41, u "bits"), (49, u "MAX_BITS"), (2, u "BYTES"), (1, u "(II)V")] 46

def k3c0 : Code := { maxStack := 7, maxLocals := 4, code := prog_78_method_1_code, exceptionTable := #[], attributes := #[] }
def k3m0 : Method := { name := "<init>", desc := "(II)V", sig := { parameters := [.int, .int], returnType := none }, accessFlags := 1, code := some k3c0 }
def k3c1 : Code := { maxStack := 1, maxLocals := 1, code := prog_78_method_2_code, exceptionTable := #[], attributes := #[] }
def k3m1 : Method := { name := "bitsPerDigit", desc := "()I", sig := { parameters := [], returnType := some .int }, accessFlags := 1, code := some k3c1 }
def k3c2 : Code := { maxStack := 2, maxLocals := 1, code := prog_78_method_3_code, exceptionTable := #[], attributes := #[] }
def k3m2 : Method := { name := "bits", desc := "()I", sig := { parameters := [], returnType := some .int }, accessFlags := 1, code := some k3c2 }
def k3c3 : Code := { maxStack := 1, maxLocals := 1, code := prog_78_method_12_code, exceptionTable := #[], attributes := #[] }
def k3m3 : Method := { name := "digits", desc := "()I", sig := { parameters := [], returnType := some .int }, accessFlags := 1, code := some k3c3 }
/-- nearhop/model/IdSpace -/
def k3 : Class := { plain "nearhop/model/IdSpace" (some 2) with
  accessFlags := 49
  interfaces := #[]
  cf := some (fileOf pool3 1 #[] #[{ accessFlags := 1, nameIndex := 9, descriptorIndex := 147, attributes := #[] }, { accessFlags := 1, nameIndex := 49, descriptorIndex := 50, attributes := #[] }, { accessFlags := 1, nameIndex := 92, descriptorIndex := 50, attributes := #[] }, { accessFlags := 1, nameIndex := 46, descriptorIndex := 50, attributes := #[] }] 49 6 #[] #[{ accessFlags := 18, nameIndex := 42, descriptorIndex := 43, attributes := #[] }, { accessFlags := 18, nameIndex := 46, descriptorIndex := 43, attributes := #[] }, { accessFlags := 25, nameIndex := 142, descriptorIndex := 43, attributes := #[] }, { accessFlags := 25, nameIndex := 145, descriptorIndex := 43, attributes := #[] }])
  fields := #[{ name := "base", type := .int, accessFlags := 18, slot := 0, constantValue := 0 }, { name := "digits", type := .int, accessFlags := 18, slot := 1, constantValue := 0 }, { name := "MAX_BITS", type := .int, accessFlags := 25, slot := 0, constantValue := 0 }, { name := "BYTES", type := .int, accessFlags := 25, slot := 1, constantValue := 0 }]
  methods := #[k3m0, k3m1, k3m2, k3m3]
  instanceTypes := #[.int, .int]
  staticTypes := #[.int, .int]
  resolved := Array.replicate 194 none
  statics := none }

def pool4 : Array CpInfo := pool [(1, .class_ 2), (0, u "java/io/Serializable"), (0, .class_ 4), (0, u "java/lang/Object")] 2

/-- java/io/Serializable -/
def k4 : Class := { plain "java/io/Serializable" (some 0) with
  accessFlags := 1537
  interfaces := #[]
  cf := some (fileOf pool4 1 #[] #[] 1537 3 #[] #[])
  fields := #[]
  methods := #[]
  instanceTypes := #[]
  staticTypes := #[]
  resolved := Array.replicate 7 none
  statics := none }

def pool5 : Array CpInfo := pool [(2, .class_ 4), (1, u "java/lang/Object"), (0, u "<init>"), (0, u "()V"), (1, .class_ 10), (1, u "java/lang/Number"), (2, .class_ 14), (0, u "java/io/Serializable"), (0, u "serialVersionUID"), (0, u "J")] 20

def k5m0 : Method := { name := "<init>", desc := "()V", sig := { parameters := [], returnType := none }, accessFlags := 1, code := none }
/-- java/lang/Number -/
def k5 : Class := { plain "java/lang/Number" (some 0) with
  accessFlags := 1057
  interfaces := #[4]
  cf := some (fileOf pool5 8 #[] #[{ accessFlags := 1, nameIndex := 5, descriptorIndex := 6, attributes := #[] }] 1057 2 #[13] #[{ accessFlags := 26, nameIndex := 15, descriptorIndex := 16, attributes := #[] }])
  fields := #[{ name := "serialVersionUID", type := .long, accessFlags := 26, slot := 0, constantValue := 0 }]
  methods := #[k5m0]
  instanceTypes := #[]
  staticTypes := #[.long]
  resolved := Array.replicate 37 none
  statics := none }

def pool6 : Array CpInfo := pool [(1, .class_ 2), (0, u "java/lang/Comparable"), (0, .class_ 4), (0, u "java/lang/Object")] 7

/-- java/lang/Comparable -/
def k6 : Class := { plain "java/lang/Comparable" (some 0) with
  accessFlags := 1537
  interfaces := #[]
  cf := some (fileOf pool6 1 #[] #[] 1537 3 #[] #[])
  fields := #[]
  methods := #[]
  instanceTypes := #[]
  staticTypes := #[]
  resolved := Array.replicate 12 none
  statics := none }

def pool7 : Array CpInfo := pool [(1, .class_ 2), (0, u "java/lang/constant/Constable"), (0, .class_ 4), (0, u "java/lang/Object")] 6

/-- java/lang/constant/Constable -/
def k7 : Class := { plain "java/lang/constant/Constable" (some 0) with
  accessFlags := 1537
  interfaces := #[]
  cf := some (fileOf pool7 1 #[] #[] 1537 3 #[] #[])
  fields := #[]
  methods := #[]
  instanceTypes := #[]
  staticTypes := #[]
  resolved := Array.replicate 11 none
  statics := none }

def pool8 : Array CpInfo := pool [(1, .class_ 2), (0, u "java/lang/constant/ConstantDesc"), (0, .class_ 4), (0, u "java/lang/Object")] 32

/-- java/lang/constant/ConstantDesc -/
def k8 : Class := { plain "java/lang/constant/ConstantDesc" (some 0) with
  accessFlags := 1537
  interfaces := #[]
  cf := some (fileOf pool8 1 #[] #[] 1537 3 #[] #[])
  fields := #[]
  methods := #[]
  instanceTypes := #[]
  staticTypes := #[]
  resolved := Array.replicate 37 none
  statics := none }

def pool9 : Array CpInfo := pool [(1, .class_ 2), (0, u "java/lang/Integer"), (16, u "digits"), (0, u "[C"), (32, u "numberOfLeadingZeros"), (0, u "(I)I"), (30, u "DigitOnes"), (0, u "[B"), (2, u "DigitTens"), (99, .class_ 190), (0, u "java/lang/Integer$IntegerCache"), (3, u "I"), (8, .class_ 204), (0, u "java/lang/Number"), (2, u "value"), (56, .integer 65536), (37, u "TYPE"), (0, u "Ljava/lang/Class;"), (0, .class_ 305), (0, u "java/lang/Comparable"), (0, .class_ 307), (0, u "java/lang/constant/Constable"), (0, .class_ 309), (0, u "java/lang/constant/ConstantDesc"), (0, u "MIN_VALUE"), (1, u "MAX_VALUE"), (3, u "SIZE"), (1, u "BYTES"), (1, u "serialVersionUID"), (0, u "J"), (84, u "numberOfTrailingZeros")] 46

def k9c0 : Code := { maxStack := 3, maxLocals := 2, code := jdk_33_method_47_code, exceptionTable := #[], attributes := #[] }
def k9m0 : Method := { name := "numberOfLeadingZeros", desc := "(I)I", sig := { parameters := [.int], returnType := some .int }, accessFlags := 9, code := some k9c0 }
def k9c1 : Code := { maxStack := 3, maxLocals := 2, code := jdk_33_method_48_code, exceptionTable := #[], attributes := #[] }
def k9m1 : Method := { name := "numberOfTrailingZeros", desc := "(I)I", sig := { parameters := [.int], returnType := some .int }, accessFlags := 9, code := some k9c1 }
/-- java/lang/Integer -/
def k9 : Class := { plain "java/lang/Integer" (some 5) with
  accessFlags := 49
  interfaces := #[6, 7, 8]
  cf := some (fileOf pool9 1 #[.nestMembers #[189]] #[{ accessFlags := 9, nameIndex := 53, descriptorIndex := 54, attributes := #[] }, { accessFlags := 9, nameIndex := 406, descriptorIndex := 54, attributes := #[] }] 49 203 #[304, 306, 308] #[{ accessFlags := 25, nameIndex := 310, descriptorIndex := 194, attributes := #[] }, { accessFlags := 25, nameIndex := 312, descriptorIndex := 194, attributes := #[] }, { accessFlags := 25, nameIndex := 302, descriptorIndex := 303, attributes := #[] }, { accessFlags := 24, nameIndex := 19, descriptorIndex := 20, attributes := #[] }, { accessFlags := 24, nameIndex := 89, descriptorIndex := 86, attributes := #[] }, { accessFlags := 24, nameIndex := 85, descriptorIndex := 86, attributes := #[] }, { accessFlags := 18, nameIndex := 207, descriptorIndex := 194, attributes := #[] }, { accessFlags := 25, nameIndex := 316, descriptorIndex := 194, attributes := #[] }, { accessFlags := 25, nameIndex := 318, descriptorIndex := 194, attributes := #[] }, { accessFlags := 26, nameIndex := 320, descriptorIndex := 321, attributes := #[] }])
  fields := #[{ name := "MIN_VALUE", type := .int, accessFlags := 25, slot := 0, constantValue := 0 }, { name := "MAX_VALUE", type := .int, accessFlags := 25, slot := 1, constantValue := 0 }, { name := "TYPE", type := (.object "java/lang/Class"), accessFlags := 25, slot := 2, constantValue := 0 }, { name := "digits", type := (.array .char), accessFlags := 24, slot := 3, constantValue := 0 }, { name := "DigitTens", type := (.array .byte), accessFlags := 24, slot := 4, constantValue := 0 }, { name := "DigitOnes", type := (.array .byte), accessFlags := 24, slot := 5, constantValue := 0 }, { name := "value", type := .int, accessFlags := 18, slot := 0, constantValue := 0 }, { name := "SIZE", type := .int, accessFlags := 25, slot := 6, constantValue := 0 }, { name := "BYTES", type := .int, accessFlags := 25, slot := 7, constantValue := 0 }, { name := "serialVersionUID", type := .long, accessFlags := 26, slot := 8, constantValue := 0 }]
  methods := #[k9m0, k9m1]
  instanceTypes := #[.int]
  staticTypes := #[.int, .int, (.object "java/lang/Class"), (.array .char), (.array .byte), (.array .byte), .int, .int, .long]
  resolved := Array.replicate 453 none
  statics := none }

def pool10 : Array CpInfo := pool [(1, .methodref 2 3), (0, .class_ 4), (0, .nameAndType 5 6), (0, u "java/lang/Object"), (0, u "<init>"), (0, u "()V"), (0, .class_ 8), (0, u "java/util/ArrayList"), (0, .methodref 7 3), (0, .fieldref 11 12), (0, .class_ 13), (0, .nameAndType 14 15), (0, u "nearhop/model/Block"), (0, u "members"), (0, u "Ljava/util/List;"), (0, .fieldref 11 17), (0, .nameAndType 18 19), (0, u "owner"), (0, u "Lnearhop/model/Id;"), (0, .methodref 21 22), (0, .class_ 23), (0, .nameAndType 24 25), (0, u "nearhop/model/Id"), (0, u "space"), (0, u "()Lnearhop/model/IdSpace;"), (0, .methodref 27 28), (0, .class_ 29), (0, .nameAndType 30 31), (0, u "nearhop/model/IdSpace"), (0, u "digits"), (0, u "()I"), (0, .fieldref 11 33), (0, .nameAndType 34 35), (0, u "withShared"), (0, u "[I"), (0, .fieldref 11 37), (0, .nameAndType 38 39), (0, u "depth"), (0, u "I"), (6, .methodref 11 47), (0, .nameAndType 48 49), (0, u "fits"), (0, u "(Lnearhop/model/Id;)Z"), (0, .methodref 21 51), (0, .nameAndType 52 53), (0, u "isIn"), (0, u "(Ljava/util/List;)Z"), (0, .methodref 21 55), (0, .nameAndType 56 57), (0, u "equals"), (0, u "(Ljava/lang/Object;)Z"), (0, .interfaceMethodref 59 60), (0, .class_ 61), (0, .nameAndType 62 57), (0, u "java/util/List"), (0, u "add"), (0, .methodref 21 64), (0, .nameAndType 65 66), (0, u "sharedPrefixLength"), (0, u "(Lnearhop/model/Id;)I"), (21, u "(Lnearhop/model/Id;)V"), (4, u "sharing"), (0, u "(I)I")] 6

def k10c0 : Code := { maxStack := 3, maxLocals := 2, code := prog_74_method_1_code, exceptionTable := #[], attributes := #[] }
def k10m0 : Method := { name := "<init>", desc := "(Lnearhop/model/Id;)V", sig := { parameters := [(.object "nearhop/model/Id")], returnType := none }, accessFlags := 1, code := some k10c0 }
def k10c1 : Code := { maxStack := 3, maxLocals := 4, code := prog_74_method_4_code, exceptionTable := #[], attributes := #[] }
def k10m1 : Method := { name := "sharing", desc := "(I)I", sig := { parameters := [.int], returnType := some .int }, accessFlags := 1, code := some k10c1 }
def k10c2 : Code := { maxStack := 4, maxLocals := 2, code := prog_74_method_6_code, exceptionTable := #[], attributes := #[] }
def k10m2 : Method := { name := "add", desc := "(Lnearhop/model/Id;)Z", sig := { parameters := [(.object "nearhop/model/Id")], returnType := some .boolean }, accessFlags := 1, code := some k10c2 }
def k10c3 : Code := { maxStack := 2, maxLocals := 2, code := prog_74_method_9_code, exceptionTable := #[], attributes := #[] }
def k10m3 : Method := { name := "fits", desc := "(Lnearhop/model/Id;)Z", sig := { parameters := [(.object "nearhop/model/Id")], returnType := some .boolean }, accessFlags := 2, code := some k10c3 }
/-- nearhop/model/Block -/
def k10 : Class := { plain "nearhop/model/Block" (some 0) with
  accessFlags := 49
  interfaces := #[]
  cf := some (fileOf pool10 11 #[] #[{ accessFlags := 1, nameIndex := 5, descriptorIndex := 88, attributes := #[] }, { accessFlags := 1, nameIndex := 93, descriptorIndex := 94, attributes := #[] }, { accessFlags := 1, nameIndex := 62, descriptorIndex := 49, attributes := #[] }, { accessFlags := 2, nameIndex := 48, descriptorIndex := 49, attributes := #[] }] 49 2 #[] #[{ accessFlags := 18, nameIndex := 18, descriptorIndex := 19, attributes := #[] }, { accessFlags := 18, nameIndex := 14, descriptorIndex := 15, attributes := #[] }, { accessFlags := 18, nameIndex := 34, descriptorIndex := 35, attributes := #[] }, { accessFlags := 2, nameIndex := 38, descriptorIndex := 39, attributes := #[] }])
  fields := #[{ name := "owner", type := (.object "nearhop/model/Id"), accessFlags := 18, slot := 0, constantValue := 0 }, { name := "members", type := (.object "java/util/List"), accessFlags := 18, slot := 1, constantValue := 0 }, { name := "withShared", type := (.array .int), accessFlags := 18, slot := 2, constantValue := 0 }, { name := "depth", type := .int, accessFlags := 2, slot := 3, constantValue := 0 }]
  methods := #[k10m0, k10m1, k10m2, k10m3]
  instanceTypes := #[(.object "nearhop/model/Id"), (.object "java/util/List"), (.array .int), .int]
  staticTypes := #[]
  resolved := Array.replicate 101 none
  statics := none }

def pool11 : Array CpInfo := pool [(1, .methodref 2 3), (0, .class_ 4), (0, .nameAndType 5 6), (0, u "java/lang/Object"), (0, u "<init>"), (0, u "()V"), (0, .fieldref 8 9), (0, .class_ 10), (0, .nameAndType 11 12), (0, u "nearhop/model/Id"), (0, u "space"), (0, u "Lnearhop/model/IdSpace;"), (0, .methodref 8 14), (0, .nameAndType 15 16), (0, u "cutHigh"), (0, u "(Lnearhop/model/IdSpace;J)J"), (0, .fieldref 8 18), (0, .nameAndType 19 20), (0, u "high"), (0, u "J"), (0, .methodref 8 22), (0, .nameAndType 23 16), (0, u "cutLow"), (0, .fieldref 8 25), (0, .nameAndType 26 20), (0, u "low"), (0, .methodref 28 29), (0, .class_ 30), (0, .nameAndType 31 32), (0, u "nearhop/model/IdSpace"), (0, u "bits"), (0, u "()I"), (0, .class_ 34), (0, u "java/lang/Long"), (14, .methodref 28 50), (0, .nameAndType 51 32), (0, u "bitsPerDigit"), (3, .methodref 28 56), (0, .nameAndType 57 32), (0, u "digits"), (0, .methodref 33 59), (0, .nameAndType 60 61), (0, u "numberOfLeadingZeros"), (0, u "(J)I"), (6, u "(Lnearhop/model/IdSpace;JJ)V"), (14, u "(Lnearhop/model/Id;)I"), (8, .nameAndType 93 94), (0, u "equals"), (0, u "(Ljava/lang/Object;)Z"), (0, .interfaceMethodref 96 97), (0, .class_ 98), (0, .nameAndType 99 32), (0, u "java/util/List"), (0, u "size"), (0, .interfaceMethodref 96 101), (0, .nameAndType 102 103), (0, u "get"), (0, u "(I)Ljava/lang/Object;"), (0, .methodref 8 92), (18, .class_ 124), (0, u "java/lang/Comparable"), (3, u "()Lnearhop/model/IdSpace;"), (1, u "sharedPrefixLength"), (5, u "isIn"), (0, u "(Ljava/util/List;)Z")] 13

def k11c0 : Code := { maxStack := 4, maxLocals := 6, code := prog_77_method_1_code, exceptionTable := #[], attributes := #[] }
def k11m0 : Method := { name := "<init>", desc := "(Lnearhop/model/IdSpace;JJ)V", sig := { parameters := [(.object "nearhop/model/IdSpace"), .long, .long], returnType := none }, accessFlags := 0, code := some k11c0 }
def k11c1 : Code := { maxStack := 6, maxLocals := 6, code := prog_77_method_2_code, exceptionTable := #[], attributes := #[] }
def k11m1 : Method := { name := "cutHigh", desc := "(Lnearhop/model/IdSpace;J)J", sig := { parameters := [(.object "nearhop/model/IdSpace"), .long], returnType := some .long }, accessFlags := 10, code := some k11c1 }
def k11c2 : Code := { maxStack := 6, maxLocals := 4, code := prog_77_method_3_code, exceptionTable := #[], attributes := #[] }
def k11m2 : Method := { name := "cutLow", desc := "(Lnearhop/model/IdSpace;J)J", sig := { parameters := [(.object "nearhop/model/IdSpace"), .long], returnType := some .long }, accessFlags := 10, code := some k11c2 }
def k11c3 : Code := { maxStack := 1, maxLocals := 1, code := prog_77_method_4_code, exceptionTable := #[], attributes := #[] }
def k11m3 : Method := { name := "space", desc := "()Lnearhop/model/IdSpace;", sig := { parameters := [], returnType := some (.object "nearhop/model/IdSpace") }, accessFlags := 1, code := some k11c3 }
def k11c4 : Code := { maxStack := 4, maxLocals := 7, code := prog_77_method_7_code, exceptionTable := #[], attributes := #[] }
def k11m4 : Method := { name := "sharedPrefixLength", desc := "(Lnearhop/model/Id;)I", sig := { parameters := [(.object "nearhop/model/Id")], returnType := some .int }, accessFlags := 1, code := some k11c4 }
def k11c5 : Code := { maxStack := 4, maxLocals := 3, code := prog_77_method_18_code, exceptionTable := #[], attributes := #[] }
def k11m5 : Method := { name := "equals", desc := "(Ljava/lang/Object;)Z", sig := { parameters := [(.object "java/lang/Object")], returnType := some .boolean }, accessFlags := 1, code := some k11c5 }
def k11c6 : Code := { maxStack := 3, maxLocals := 3, code := prog_77_method_19_code, exceptionTable := #[], attributes := #[] }
def k11m6 : Method := { name := "isIn", desc := "(Ljava/util/List;)Z", sig := { parameters := [(.object "java/util/List")], returnType := some .boolean }, accessFlags := 0, code := some k11c6 }
/-- nearhop/model/Id -/
def k11 : Class := { plain "nearhop/model/Id" (some 0) with
  accessFlags := 49
  interfaces := #[6]
  cf := some (fileOf pool11 8 #[] #[{ accessFlags := 0, nameIndex := 5, descriptorIndex := 68, attributes := #[] }, { accessFlags := 10, nameIndex := 15, descriptorIndex := 16, attributes := #[] }, { accessFlags := 10, nameIndex := 23, descriptorIndex := 16, attributes := #[] }, { accessFlags := 1, nameIndex := 11, descriptorIndex := 128, attributes := #[] }, { accessFlags := 1, nameIndex := 130, descriptorIndex := 83, attributes := #[] }, { accessFlags := 1, nameIndex := 93, descriptorIndex := 94, attributes := #[] }, { accessFlags := 0, nameIndex := 136, descriptorIndex := 137, attributes := #[] }] 49 2 #[123] #[{ accessFlags := 18, nameIndex := 11, descriptorIndex := 12, attributes := #[] }, { accessFlags := 18, nameIndex := 19, descriptorIndex := 20, attributes := #[] }, { accessFlags := 18, nameIndex := 26, descriptorIndex := 20, attributes := #[] }])
  fields := #[{ name := "space", type := (.object "nearhop/model/IdSpace"), accessFlags := 18, slot := 0, constantValue := 0 }, { name := "high", type := .long, accessFlags := 18, slot := 1, constantValue := 0 }, { name := "low", type := .long, accessFlags := 18, slot := 2, constantValue := 0 }]
  methods := #[k11m0, k11m1, k11m2, k11m3, k11m4, k11m5, k11m6]
  instanceTypes := #[(.object "nearhop/model/IdSpace"), .long, .long]
  staticTypes := #[]
  resolved := Array.replicate 151 none
  statics := none }

def pool12 : Array CpInfo := pool [(8, .class_ 10), (1, u "java/lang/Iterable"), (24, .class_ 36), (0, u "java/lang/Object")] 25

/-- java/lang/Iterable -/
def k12 : Class := { plain "java/lang/Iterable" (some 0) with
  accessFlags := 1537
  interfaces := #[]
  cf := some (fileOf pool12 8 #[] #[] 1537 35 #[] #[])
  fields := #[]
  methods := #[]
  instanceTypes := #[]
  staticTypes := #[]
  resolved := Array.replicate 62 none
  statics := none }

def pool13 : Array CpInfo := pool [(10, .class_ 12), (1, u "java/util/Collection"), (47, .class_ 61), (0, u "java/lang/Object"), (0, .class_ 63), (0, u "java/lang/Iterable")] 51

/-- java/util/Collection -/
def k13 : Class := { plain "java/util/Collection" (some 0) with
  accessFlags := 1537
  interfaces := #[12]
  cf := some (fileOf pool13 10 #[] #[] 1537 60 #[62] #[])
  fields := #[]
  methods := #[]
  instanceTypes := #[]
  staticTypes := #[]
  resolved := Array.replicate 115 none
  statics := none }

def pool14 : Array CpInfo := pool [(1, .methodref 2 3), (0, .class_ 4), (0, .nameAndType 5 6), (0, u "java/lang/Object"), (0, u "<init>"), (0, u "()V"), (1, .class_ 10), (1, u "java/util/AbstractCollection"), (66, .class_ 78), (0, u "java/util/Collection")] 81

def k14c0 : Code := { maxStack := 1, maxLocals := 1, code := jdk_22_method_1_code, exceptionTable := #[], attributes := #[] }
def k14m0 : Method := { name := "<init>", desc := "()V", sig := { parameters := [], returnType := none }, accessFlags := 4, code := some k14c0 }
/-- java/util/AbstractCollection -/
def k14 : Class := { plain "java/util/AbstractCollection" (some 0) with
  accessFlags := 1057
  interfaces := #[13]
  cf := some (fileOf pool14 8 #[] #[{ accessFlags := 4, nameIndex := 5, descriptorIndex := 6, attributes := #[] }] 1057 2 #[77] #[])
  fields := #[]
  methods := #[k14m0]
  instanceTypes := #[]
  staticTypes := #[]
  resolved := Array.replicate 160 none
  statics := none }

def pool15 : Array CpInfo := pool [(8, .class_ 10), (1, u "java/util/SequencedCollection"), (15, .class_ 27), (0, u "java/lang/Object"), (0, .class_ 29), (0, u "java/util/Collection")] 27

/-- java/util/SequencedCollection -/
def k15 : Class := { plain "java/util/SequencedCollection" (some 0) with
  accessFlags := 1537
  interfaces := #[13]
  cf := some (fileOf pool15 8 #[] #[] 1537 26 #[28] #[])
  fields := #[]
  methods := #[]
  instanceTypes := #[]
  staticTypes := #[]
  resolved := Array.replicate 57 none
  statics := none }

def pool16 : Array CpInfo := pool [(8, .class_ 10), (1, u "java/util/List"), (49, u "add"), (3, u "(Ljava/lang/Object;)Z"), (10, u "get"), (0, u "(I)Ljava/lang/Object;"), (2, u "size"), (0, u "()I"), (22, .class_ 104), (0, u "java/lang/Object"), (15, .class_ 121), (0, u "java/util/SequencedCollection")] 129

def k16m0 : Method := { name := "size", desc := "()I", sig := { parameters := [], returnType := some .int }, accessFlags := 1025, code := none }
def k16m1 : Method := { name := "add", desc := "(Ljava/lang/Object;)Z", sig := { parameters := [(.object "java/lang/Object")], returnType := some .boolean }, accessFlags := 1025, code := none }
def k16m2 : Method := { name := "get", desc := "(I)Ljava/lang/Object;", sig := { parameters := [.int], returnType := some (.object "java/lang/Object") }, accessFlags := 1025, code := none }
/-- java/util/List -/
def k16 : Class := { plain "java/util/List" (some 0) with
  accessFlags := 1537
  interfaces := #[15]
  cf := some (fileOf pool16 8 #[] #[{ accessFlags := 1025, nameIndex := 79, descriptorIndex := 80, attributes := #[] }, { accessFlags := 1025, nameIndex := 60, descriptorIndex := 64, attributes := #[] }, { accessFlags := 1025, nameIndex := 75, descriptorIndex := 76, attributes := #[] }] 1537 103 #[120] #[])
  fields := #[]
  methods := #[k16m0, k16m1, k16m2]
  instanceTypes := #[]
  staticTypes := #[]
  resolved := Array.replicate 251 none
  statics := none }

def pool17 : Array CpInfo := pool [(1, .methodref 2 3), (0, .class_ 4), (0, .nameAndType 5 6), (0, u "java/util/AbstractCollection"), (0, u "<init>"), (0, u "()V"), (0, .fieldref 8 9), (0, .class_ 10), (0, .nameAndType 11 12), (0, u "java/util/AbstractList"), (0, u "modCount"), (0, u "I"), (64, .class_ 78), (0, u "java/util/AbstractList$Itr"), (3, .class_ 83), (0, u "java/util/AbstractList$ListItr"), (9, .class_ 94), (0, u "java/util/AbstractList$RandomAccessSubList"), (3, .class_ 99), (0, u "java/util/AbstractList$SubList"), (33, .class_ 134), (0, u "java/util/List"), (73, .class_ 209), (0, u "java/util/AbstractList$SubList$1"), (0, .class_ 211), (0, u "java/util/AbstractList$RandomAccessSpliterator")] 6

def k17c0 : Code := { maxStack := 2, maxLocals := 1, code := jdk_39_method_1_code, exceptionTable := #[], attributes := #[] }
def k17m0 : Method := { name := "<init>", desc := "()V", sig := { parameters := [], returnType := none }, accessFlags := 4, code := some k17c0 }
/-- java/util/AbstractList -/
def k17 : Class := { plain "java/util/AbstractList" (some 14) with
  accessFlags := 1057
  interfaces := #[16]
  cf := some (fileOf pool17 8 #[.nestMembers #[93, 98, 208, 210, 82, 77]] #[{ accessFlags := 4, nameIndex := 5, descriptorIndex := 6, attributes := #[] }] 1057 2 #[133] #[{ accessFlags := 132, nameIndex := 11, descriptorIndex := 12, attributes := #[] }])
  fields := #[{ name := "modCount", type := .int, accessFlags := 132, slot := 0, constantValue := 0 }]
  methods := #[k17m0]
  instanceTypes := #[.int]
  staticTypes := #[]
  resolved := Array.replicate 218 none
  statics := none }

def pool18 : Array CpInfo := pool [(1, .class_ 2), (0, u "java/util/RandomAccess"), (0, .class_ 4), (0, u "java/lang/Object")] 2

/-- java/util/RandomAccess -/
def k18 : Class := { plain "java/util/RandomAccess" (some 0) with
  accessFlags := 1537
  interfaces := #[]
  cf := some (fileOf pool18 1 #[] #[] 1537 3 #[] #[])
  fields := #[]
  methods := #[]
  instanceTypes := #[]
  staticTypes := #[]
  resolved := Array.replicate 7 none
  statics := none }

def pool19 : Array CpInfo := pool [(1, .class_ 2), (0, u "java/lang/Cloneable"), (0, .class_ 4), (0, u "java/lang/Object")] 2

/-- java/lang/Cloneable -/
def k19 : Class := { plain "java/lang/Cloneable" (some 0) with
  accessFlags := 1537
  interfaces := #[]
  cf := some (fileOf pool19 1 #[] #[] 1537 3 #[] #[])
  fields := #[]
  methods := #[]
  instanceTypes := #[]
  staticTypes := #[]
  resolved := Array.replicate 7 none
  statics := none }

def pool20 : Array CpInfo := pool [(1, .methodref 2 3), (0, .class_ 4), (0, .nameAndType 5 6), (0, u "java/util/AbstractList"), (0, u "<init>"), (0, u "()V"), (0, .class_ 8), (0, u "java/lang/Object"), (0, .fieldref 10 11), (0, .class_ 12), (0, .nameAndType 13 14), (0, u "java/util/ArrayList"), (0, u "elementData"), (0, u "[Ljava/lang/Object;"), (2, u "EMPTY_ELEMENTDATA"), (21, .fieldref 10 40), (0, .nameAndType 41 14), (0, u "DEFAULTCAPACITY_EMPTY_ELEMENTDATA"), (5, u "()[Ljava/lang/Object;"), (0, .fieldref 10 49), (0, .nameAndType 50 51), (0, u "size"), (0, u "I"), (11, .fieldref 10 64), (0, .nameAndType 65 51), (0, u "modCount"), (3, .methodref 10 70), (0, .nameAndType 71 72), (0, u "grow"), (0, u "(I)[Ljava/lang/Object;"), (6, .methodref 80 81), (0, .class_ 82), (0, .nameAndType 83 84), (0, u "java/lang/Math"), (0, u "max"), (0, u "(II)I"), (11, u "(Ljava/lang/Object;)Z"), (21, .methodref 119 120), (0, .class_ 121), (0, .nameAndType 122 84), (0, u "java/util/Objects"), (0, u "checkIndex"), (0, .methodref 10 124), (0, .nameAndType 13 125), (0, u "(I)Ljava/lang/Object;"), (3, .methodref 10 130), (0, .nameAndType 71 47), (0, .methodref 10 132), (0, .nameAndType 133 134), (0, u "add"), (0, u "(Ljava/lang/Object;[Ljava/lang/Object;I)V"), (13, .class_ 149), (0, u "java/util/List"), (36, u "()I"), (75, .class_ 263), (0, u "java/util/ArrayList$ListItr"), (3, .class_ 268), (0, u "java/util/ArrayList$Itr"), (7, .class_ 277), (0, u "java/util/ArrayList$SubList"), (12, .class_ 291), (0, u "java/util/ArrayList$ArrayListSpliterator"), (37, .class_ 330), (0, u "java/util/RandomAccess"), (0, .class_ 332), (0, u "java/lang/Cloneable"), (0, .class_ 334), (0, u "java/io/Serializable"), (0, u "serialVersionUID"), (0, u "J"), (3, u "DEFAULT_CAPACITY"), (40, u "get"), (118, .class_ 501), (0, u "java/util/ArrayList$SubList$2"), (0, .class_ 503), (0, u "java/util/ArrayList$SubList$1")] 5

def k20c0 : Code := { maxStack := 2, maxLocals := 1, code := jdk_38_method_2_code, exceptionTable := #[], attributes := #[] }
def k20m0 : Method := { name := "<init>", desc := "()V", sig := { parameters := [], returnType := none }, accessFlags := 1, code := some k20c0 }
def k20c1 : Code := { maxStack := 4, maxLocals := 4, code := jdk_38_method_6_code, exceptionTable := #[], attributes := #[] }
def k20m1 : Method := { name := "grow", desc := "(I)[Ljava/lang/Object;", sig := { parameters := [.int], returnType := some (.array (.object "java/lang/Object")) }, accessFlags := 2, code := some k20c1 }
def k20c2 : Code := { maxStack := 3, maxLocals := 1, code := jdk_38_method_7_code, exceptionTable := #[], attributes := #[] }
def k20m2 : Method := { name := "grow", desc := "()[Ljava/lang/Object;", sig := { parameters := [], returnType := some (.array (.object "java/lang/Object")) }, accessFlags := 2, code := some k20c2 }
def k20c3 : Code := { maxStack := 1, maxLocals := 1, code := jdk_38_method_8_code, exceptionTable := #[], attributes := #[] }
def k20m3 : Method := { name := "size", desc := "()I", sig := { parameters := [], returnType := some .int }, accessFlags := 1, code := some k20c3 }
def k20c4 : Code := { maxStack := 2, maxLocals := 2, code := jdk_38_method_18_code, exceptionTable := #[], attributes := #[] }
def k20m4 : Method := { name := "elementData", desc := "(I)Ljava/lang/Object;", sig := { parameters := [.int], returnType := some (.object "java/lang/Object") }, accessFlags := 0, code := some k20c4 }
def k20c5 : Code := { maxStack := 2, maxLocals := 2, code := jdk_38_method_20_code, exceptionTable := #[], attributes := #[] }
def k20m5 : Method := { name := "get", desc := "(I)Ljava/lang/Object;", sig := { parameters := [.int], returnType := some (.object "java/lang/Object") }, accessFlags := 1, code := some k20c5 }
def k20c6 : Code := { maxStack := 3, maxLocals := 4, code := jdk_38_method_24_code, exceptionTable := #[], attributes := #[] }
def k20m6 : Method := { name := "add", desc := "(Ljava/lang/Object;[Ljava/lang/Object;I)V", sig := { parameters := [(.object "java/lang/Object"), (.array (.object "java/lang/Object")), .int], returnType := none }, accessFlags := 2, code := some k20c6 }
def k20c7 : Code := { maxStack := 4, maxLocals := 2, code := jdk_38_method_25_code, exceptionTable := #[], attributes := #[] }
def k20m7 : Method := { name := "add", desc := "(Ljava/lang/Object;)Z", sig := { parameters := [(.object "java/lang/Object")], returnType := some .boolean }, accessFlags := 1, code := some k20c7 }
/-- java/util/ArrayList -/
def k20 : Class := { plain "java/util/ArrayList" (some 17) with
  accessFlags := 33
  interfaces := #[16, 18, 19, 4]
  cf := some (fileOf pool20 10 #[.nestMembers #[290, 276, 500, 502, 262, 267]] #[{ accessFlags := 1, nameIndex := 5, descriptorIndex := 6, attributes := #[] }, { accessFlags := 2, nameIndex := 71, descriptorIndex := 72, attributes := #[] }, { accessFlags := 2, nameIndex := 71, descriptorIndex := 47, attributes := #[] }, { accessFlags := 1, nameIndex := 50, descriptorIndex := 186, attributes := #[] }, { accessFlags := 0, nameIndex := 13, descriptorIndex := 125, attributes := #[] }, { accessFlags := 1, nameIndex := 381, descriptorIndex := 125, attributes := #[] }, { accessFlags := 2, nameIndex := 133, descriptorIndex := 134, attributes := #[] }, { accessFlags := 1, nameIndex := 133, descriptorIndex := 96, attributes := #[] }] 33 2 #[148, 329, 331, 333] #[{ accessFlags := 26, nameIndex := 335, descriptorIndex := 336, attributes := #[] }, { accessFlags := 26, nameIndex := 340, descriptorIndex := 51, attributes := #[] }, { accessFlags := 26, nameIndex := 17, descriptorIndex := 14, attributes := #[] }, { accessFlags := 26, nameIndex := 41, descriptorIndex := 14, attributes := #[] }, { accessFlags := 128, nameIndex := 13, descriptorIndex := 14, attributes := #[] }, { accessFlags := 2, nameIndex := 50, descriptorIndex := 51, attributes := #[] }])
  fields := #[{ name := "serialVersionUID", type := .long, accessFlags := 26, slot := 0, constantValue := 0 }, { name := "DEFAULT_CAPACITY", type := .int, accessFlags := 26, slot := 1, constantValue := 0 }, { name := "EMPTY_ELEMENTDATA", type := (.array (.object "java/lang/Object")), accessFlags := 26, slot := 2, constantValue := 0 }, { name := "DEFAULTCAPACITY_EMPTY_ELEMENTDATA", type := (.array (.object "java/lang/Object")), accessFlags := 26, slot := 3, constantValue := 0 }, { name := "elementData", type := (.array (.object "java/lang/Object")), accessFlags := 128, slot := 1, constantValue := 0 }, { name := "size", type := .int, accessFlags := 2, slot := 2, constantValue := 0 }]
  methods := #[k20m0, k20m1, k20m2, k20m3, k20m4, k20m5, k20m6, k20m7]
  instanceTypes := #[.int, (.array (.object "java/lang/Object")), .int]
  staticTypes := #[.long, .int, (.array (.object "java/lang/Object")), (.array (.object "java/lang/Object"))]
  resolved := Array.replicate 509 none
  statics := some 0 }

def pool21 : Array CpInfo := pool [(1, .class_ 2), (0, u "java/lang/Long"), (15, .class_ 20), (1, u "java/lang/Integer"), (79, u "numberOfLeadingZeros"), (0, u "(J)I"), (133, .class_ 237), (1, u "java/lang/Long$LongCache"), (33, .class_ 272), (0, u "java/lang/Number"), (2, u "value"), (0, u "J"), (31, .methodref 18 309), (0, .nameAndType 100 310), (0, u "(I)I"), (50, u "TYPE"), (0, u "Ljava/lang/Class;"), (0, .class_ 364), (0, u "java/lang/Comparable"), (0, .class_ 366), (0, u "java/lang/constant/Constable"), (0, .class_ 368), (0, u "java/lang/constant/ConstantDesc"), (0, u "MIN_VALUE"), (1, u "MAX_VALUE"), (4, u "SIZE"), (0, u "I"), (1, u "BYTES"), (1, u "serialVersionUID")] 142

def k21c0 : Code := { maxStack := 3, maxLocals := 3, code := jdk_35_method_48_code, exceptionTable := #[], attributes := #[] }
def k21m0 : Method := { name := "numberOfLeadingZeros", desc := "(J)I", sig := { parameters := [.long], returnType := some .int }, accessFlags := 9, code := some k21c0 }
/-- java/lang/Long -/
def k21 : Class := { plain "java/lang/Long" (some 5) with
  accessFlags := 49
  interfaces := #[6, 7, 8]
  cf := some (fileOf pool21 1 #[.nestMembers #[235]] #[{ accessFlags := 9, nameIndex := 100, descriptorIndex := 101, attributes := #[] }] 49 271 #[363, 365, 367] #[{ accessFlags := 25, nameIndex := 369, descriptorIndex := 276, attributes := #[] }, { accessFlags := 25, nameIndex := 371, descriptorIndex := 276, attributes := #[] }, { accessFlags := 25, nameIndex := 361, descriptorIndex := 362, attributes := #[] }, { accessFlags := 18, nameIndex := 275, descriptorIndex := 276, attributes := #[] }, { accessFlags := 25, nameIndex := 376, descriptorIndex := 377, attributes := #[] }, { accessFlags := 25, nameIndex := 379, descriptorIndex := 377, attributes := #[] }, { accessFlags := 26, nameIndex := 381, descriptorIndex := 276, attributes := #[] }])
  fields := #[{ name := "MIN_VALUE", type := .long, accessFlags := 25, slot := 0, constantValue := 0 }, { name := "MAX_VALUE", type := .long, accessFlags := 25, slot := 1, constantValue := 0 }, { name := "TYPE", type := (.object "java/lang/Class"), accessFlags := 25, slot := 2, constantValue := 0 }, { name := "value", type := .long, accessFlags := 18, slot := 0, constantValue := 0 }, { name := "SIZE", type := .int, accessFlags := 25, slot := 3, constantValue := 0 }, { name := "BYTES", type := .int, accessFlags := 25, slot := 4, constantValue := 0 }, { name := "serialVersionUID", type := .long, accessFlags := 26, slot := 5, constantValue := 0 }]
  methods := #[k21m0]
  instanceTypes := #[.long]
  staticTypes := #[.long, .long, (.object "java/lang/Class"), .int, .int, .long]
  resolved := Array.replicate 524 none
  statics := none }

def pool22 : Array CpInfo := pool [(1, .class_ 2), (0, u "java/lang/Math"), (1, .class_ 6), (1, u "java/lang/Object"), (0, u "<init>"), (0, u "()V"), (89, .class_ 100), (1, u "java/lang/Math$RandomNumberGeneratorHolder"), (71, u "negativeZeroFloatBits"), (0, u "J"), (2, u "negativeZeroDoubleBits"), (21, u "max"), (46, u "$assertionsDisabled"), (0, u "Z"), (88, u "(II)I"), (2, u "twoToTheDoubleScaleDown"), (0, u "D"), (4, u "twoToTheDoubleScaleUp"), (9, u "E"), (3, u "PI"), (2, u "TAU"), (2, u "DEGREES_TO_RADIANS"), (0, u "RADIANS_TO_DEGREES")] 94

def k22m0 : Method := { name := "<init>", desc := "()V", sig := { parameters := [], returnType := none }, accessFlags := 2, code := none }
def k22c1 : Code := { maxStack := 2, maxLocals := 2, code := jdk_29_method_65_code, exceptionTable := #[], attributes := #[] }
def k22m1 : Method := { name := "max", desc := "(II)I", sig := { parameters := [.int, .int], returnType := some .int }, accessFlags := 9, code := some k22c1 }
/-- java/lang/Math -/
def k22 : Class := { plain "java/lang/Math" (some 0) with
  accessFlags := 49
  interfaces := #[]
  cf := some (fileOf pool22 1 #[.nestMembers #[98]] #[{ accessFlags := 2, nameIndex := 7, descriptorIndex := 8, attributes := #[] }, { accessFlags := 9, nameIndex := 198, descriptorIndex := 335, attributes := #[] }] 49 4 #[] #[{ accessFlags := 25, nameIndex := 354, descriptorIndex := 339, attributes := #[] }, { accessFlags := 25, nameIndex := 358, descriptorIndex := 339, attributes := #[] }, { accessFlags := 25, nameIndex := 361, descriptorIndex := 339, attributes := #[] }, { accessFlags := 26, nameIndex := 364, descriptorIndex := 339, attributes := #[] }, { accessFlags := 26, nameIndex := 365, descriptorIndex := 339, attributes := #[] }, { accessFlags := 26, nameIndex := 172, descriptorIndex := 173, attributes := #[] }, { accessFlags := 26, nameIndex := 176, descriptorIndex := 173, attributes := #[] }, { accessFlags := 8, nameIndex := 344, descriptorIndex := 339, attributes := #[] }, { accessFlags := 8, nameIndex := 338, descriptorIndex := 339, attributes := #[] }, { accessFlags := 4120, nameIndex := 245, descriptorIndex := 246, attributes := #[] }])
  fields := #[{ name := "E", type := .double, accessFlags := 25, slot := 0, constantValue := 0 }, { name := "PI", type := .double, accessFlags := 25, slot := 1, constantValue := 0 }, { name := "TAU", type := .double, accessFlags := 25, slot := 2, constantValue := 0 }, { name := "DEGREES_TO_RADIANS", type := .double, accessFlags := 26, slot := 3, constantValue := 0 }, { name := "RADIANS_TO_DEGREES", type := .double, accessFlags := 26, slot := 4, constantValue := 0 }, { name := "negativeZeroFloatBits", type := .long, accessFlags := 26, slot := 5, constantValue := 0 }, { name := "negativeZeroDoubleBits", type := .long, accessFlags := 26, slot := 6, constantValue := 0 }, { name := "twoToTheDoubleScaleUp", type := .double, accessFlags := 8, slot := 7, constantValue := 0 }, { name := "twoToTheDoubleScaleDown", type := .double, accessFlags := 8, slot := 8, constantValue := 0 }, { name := "$assertionsDisabled", type := .boolean, accessFlags := 4120, slot := 9, constantValue := 0 }]
  methods := #[k22m0, k22m1]
  instanceTypes := #[]
  staticTypes := #[.double, .double, .double, .double, .double, .long, .long, .double, .double, .boolean]
  resolved := Array.replicate 460 none
  statics := none }

def pool23 : Array CpInfo := pool [(2, .class_ 4), (1, u "java/lang/Object"), (0, u "<init>"), (0, u "()V"), (35, .class_ 44), (1, u "java/util/Objects"), (60, .methodref 106 107), (0, .class_ 108), (0, .nameAndType 109 110), (0, u "jdk/internal/util/Preconditions"), (0, u "checkIndex"), (0, u "(IILjava/util/function/BiFunction;)I"), (60, u "(II)I")] 12

def k23m0 : Method := { name := "<init>", desc := "()V", sig := { parameters := [], returnType := none }, accessFlags := 2, code := none }
def k23c1 : Code := { maxStack := 3, maxLocals := 2, code := jdk_31_method_17_code, exceptionTable := #[], attributes := #[] }
def k23m1 : Method := { name := "checkIndex", desc := "(II)I", sig := { parameters := [.int, .int], returnType := some .int }, accessFlags := 9, code := some k23c1 }
/-- java/util/Objects -/
def k23 : Class := { plain "java/util/Objects" (some 0) with
  accessFlags := 49
  interfaces := #[]
  cf := some (fileOf pool23 42 #[] #[{ accessFlags := 2, nameIndex := 5, descriptorIndex := 6, attributes := #[] }, { accessFlags := 9, nameIndex := 109, descriptorIndex := 171, attributes := #[] }] 49 2 #[] #[])
  fields := #[]
  methods := #[k23m0, k23m1]
  instanceTypes := #[]
  staticTypes := #[]
  resolved := Array.replicate 184 none
  statics := none }

def pool24 : Array CpInfo := pool [(2, .class_ 4), (1, u "java/lang/Object"), (0, u "<init>"), (0, u "()V"), (17, .class_ 26), (1, u "jdk/internal/util/Preconditions"), (6, u "checkIndex"), (21, .class_ 56), (0, u "jdk/internal/util/Preconditions$4"), (57, .class_ 115), (0, u "jdk/internal/util/Preconditions$1"), (7, u "SIOOBE_FORMATTER"), (0, u "Ljava/util/function/BiFunction;"), (0, .class_ 126), (0, u "jdk/internal/util/Preconditions$2"), (3, u "AIOOBE_FORMATTER"), (0, .class_ 132), (0, u "jdk/internal/util/Preconditions$3"), (3, u "IOOBE_FORMATTER"), (41, u "(IILjava/util/function/BiFunction;)I")] 15

def k24m0 : Method := { name := "<init>", desc := "()V", sig := { parameters := [], returnType := none }, accessFlags := 1, code := none }
def k24c1 : Code := { maxStack := 3, maxLocals := 3, code := jdk_41_method_11_code, exceptionTable := #[], attributes := #[] }
def k24m1 : Method := { name := "checkIndex", desc := "(IILjava/util/function/BiFunction;)I", sig := { parameters := [.int, .int, (.object "java/util/function/BiFunction")], returnType := some .int }, accessFlags := 9, code := some k24c1 }
/-- jdk/internal/util/Preconditions -/
def k24 : Class := { plain "jdk/internal/util/Preconditions" (some 0) with
  accessFlags := 33
  interfaces := #[]
  cf := some (fileOf pool24 24 #[.nestMembers #[55, 131, 125, 114]] #[{ accessFlags := 1, nameIndex := 5, descriptorIndex := 6, attributes := #[] }, { accessFlags := 9, nameIndex := 33, descriptorIndex := 178, attributes := #[] }] 33 2 #[] #[{ accessFlags := 25, nameIndex := 123, descriptorIndex := 124, attributes := #[] }, { accessFlags := 25, nameIndex := 130, descriptorIndex := 124, attributes := #[] }, { accessFlags := 25, nameIndex := 136, descriptorIndex := 124, attributes := #[] }])
  fields := #[{ name := "SIOOBE_FORMATTER", type := (.object "java/util/function/BiFunction"), accessFlags := 25, slot := 0, constantValue := 0 }, { name := "AIOOBE_FORMATTER", type := (.object "java/util/function/BiFunction"), accessFlags := 25, slot := 1, constantValue := 0 }, { name := "IOOBE_FORMATTER", type := (.object "java/util/function/BiFunction"), accessFlags := 25, slot := 2, constantValue := 0 }]
  methods := #[k24m0, k24m1]
  instanceTypes := #[]
  staticTypes := #[(.object "java/util/function/BiFunction"), (.object "java/util/function/BiFunction"), (.object "java/util/function/BiFunction")]
  resolved := Array.replicate 194 none
  statics := none }

/-- the primitive byte -/
def k25 : Class := { plain "byte" none with kind := .primitive 'B', accessFlags := 0x411 }
/-- [B -/
def k26 : Class := { plain "[B" (some 0) with kind := .array 25 .byte, interfaces := #[19, 4], accessFlags := 1041 }

/-- the primitive int -/
def k27 : Class := { plain "int" none with kind := .primitive 'I', accessFlags := 0x411 }
/-- [I -/
def k28 : Class := { plain "[I" (some 0) with kind := .array 27 .int, interfaces := #[19, 4], accessFlags := 1041 }

/-- [Ljava/lang/Object; -/
def k29 : Class := { plain "[Ljava/lang/Object;" (some 0) with kind := .array 0 (.object "java/lang/Object"), interfaces := #[19, 4], accessFlags := 1041 }

def heap : Heap := #[{ cls := 20, slots := #[.long 0, .int 0, .ref 1, .ref 2], vm := .statics 20 },
  { cls := 29, slots := #[], vm := .none },
  { cls := 29, slots := #[], vm := .none }]
def classes : Array Class := #[k0, k1, k2, k3, k4, k5, k6, k7, k8, k9, k10, k11, k12, k13, k14, k15, k16, k17, k18, k19, k20, k21, k22, k23, k24, k25, k26, k27, k28, k29]
def interned : List (Array UInt16 × Addr) := []
def slotsUsed : Nat := 4
def theMethod : MethodId := ⟨1, 2⟩
def args0 : Array Value := #[.int 5, .int 6, .long 1, .long 4, .long 3, .long 2]
def aboutOver (below : List Frame) : State where
  vm := { classes := classes, interned := interned.toArray }
  heap := heap
  slotsUsed := slotsUsed
  threads := #[{ frames := .invoking theMethod args0 :: below }]
def below0 : List Frame := [.native { method := ⟨0, 0⟩, args := #[] }]
def about1 : State := aboutOver below0
def p0 : Program := .bare "" "" ""
def e0 : Env := launch0.env 0 0 0
theorem w_frames : about1.frames = Frame.invoking theMethod args0 :: below0 := rfl
set_option maxRecDepth 65536 in
theorem w_args : argsFit about1.vm theMethod args0 = true := by decide +kernel
set_option maxRecDepth 65536 in
theorem w_heap : heapFits about1 = true := by decide +kernel
set_option maxRecDepth 65536 in
theorem w_runnable : about1.curStatus? = some .runnable := by decide +kernel
set_option maxRecDepth 65536 in
theorem w_alone : about1.alone = true := by decide +kernel
set_option maxRecDepth 65536 in
theorem w_named : about1.methodNamed? x = some theMethod := by decide +kernel
set_option maxRecDepth 65536 in
theorem w_hears : about1.hears theMethod below0 = true := by decide +kernel
set_option maxRecDepth 65536 in
theorem w_ripe : about1.ripe theMethod args0 below0 = true := by decide +kernel
theorem w_running : about1.status = .running := rfl
set_option maxRecDepth 65536 in
theorem w_room : about1.hasRoom e0.platform room_1 = true :=
  launch0.hasRoom_least _ room_1 (by decide +kernel) (by decide +kernel) (by decide +kernel) (by decide +kernel) (by decide +kernel) (by decide +kernel)
theorem allAtoms_all (ts : List Jvm.Cond) (a : Array Jvm.Value) (st : Jvm.State) : (allAtoms ts).before a st = ts.all (fun c => c.before a st) := by
  induction ts with
  | nil => rfl
  | cons c t ih =>
    show (Jvm.Cond.and c (allAtoms t)).before a st = _
    rw [Jvm.Cond.before_and, ih, List.all_cons]
def words1 : List Jvm.Cond := Jvm.Cond.code x code maxLocals ret :: tables_1
/-- a 'code' word, met by the world's own term for the bytes: nothing is compared byte by byte -/
theorem code_word {y : MethodName} {bytes : ByteArray} {mx : Nat} {rt : Option FieldType} {a : Array Value} {s : State} {m : MethodId} {meth : Method} {c : Code} (h1 : s.methodNamed? y = some m) (h2 : s.vm.method? m = some meth) (h3 : meth.code = some c) (h4 : c.code = bytes)
    (h5 : (c.maxLocals == mx && c.exceptionTable.isEmpty && decide (c.maxStack ≤ mostOperands) && decide (meth.sig.returnType = rt) && !meth.locks && decide (parseMethodDescriptor y.desc = some meth.sig)) = true) : (Jvm.Cond.code y bytes mx rt).before a s = true := by
  simp only [Bool.and_eq_true, beq_iff_eq, Bool.not_eq_true', decide_eq_true_eq] at h5
  obtain ⟨⟨⟨⟨⟨g1, g2⟩, g3⟩, g4⟩, g5⟩, g6⟩ := h5
  simp [Cond.before, Cond.holds, Cond.value, h1, h2, h3, h4, g1, g2, g3, g4, g5, g6]
def isCode : Jvm.Cond → Bool
  | .code _ _ _ _ => true
  | _ => false
theorem all_split {L : List Jvm.Cond} {P : Jvm.Cond → Bool} (h1 : L.all (fun c => isCode c || P c) = true) (h2 : ∀ c ∈ L.filter isCode, P c = true) : L.all P = true := by
  refine List.all_eq_true.mpr fun c hc => ?_
  have h := List.all_eq_true.mp h1 c hc
  rcases Bool.eq_false_or_eq_true (isCode c) with hi | hi
  · exact h2 c (List.mem_filter.mpr ⟨hc, hi⟩)
  · simpa [hi] using h
set_option maxRecDepth 65536 in
theorem w_c0 : (Jvm.Cond.code x code maxLocals ret).before args0 about1 = true := code_word (m := ⟨1, 2⟩) (meth := k1m2) (c := k1c2) (by decide +kernel) rfl rfl rfl (by decide +kernel)
set_option maxRecDepth 65536 in
theorem w_c1 : (Jvm.Cond.code ({ cls := "nearhop/model/IdSpace", name := "<init>", desc := "(II)V" } : Jvm.MethodName) prog_78_method_1_code (4 : Nat) (Option.none : Option Jvm.ClassFile.FieldType)).before args0 about1 = true := code_word (m := ⟨3, 0⟩) (meth := k3m0) (c := k3c0) (by decide +kernel) rfl rfl rfl (by decide +kernel)
set_option maxRecDepth 65536 in
theorem w_c2 : (Jvm.Cond.code ({ cls := "java/lang/Record", name := "<init>", desc := "()V" } : Jvm.MethodName) jdk_30_method_1_code (1 : Nat) (Option.none : Option Jvm.ClassFile.FieldType)).before args0 about1 = true := code_word (m := ⟨2, 0⟩) (meth := k2m0) (c := k2c0) (by decide +kernel) rfl rfl rfl (by decide +kernel)
set_option maxRecDepth 65536 in
theorem w_c3 : (Jvm.Cond.code ({ cls := "java/lang/Object", name := "<init>", desc := "()V" } : Jvm.MethodName) object_method_1_code (1 : Nat) (Option.none : Option Jvm.ClassFile.FieldType)).before args0 about1 = true := code_word (m := ⟨0, 0⟩) (meth := k0m0) (c := k0c0) (by decide +kernel) rfl rfl rfl (by decide +kernel)
set_option maxRecDepth 65536 in
theorem w_c4 : (Jvm.Cond.code ({ cls := "java/lang/Integer", name := "numberOfTrailingZeros", desc := "(I)I" } : Jvm.MethodName) jdk_33_method_48_code (2 : Nat) (Option.some Jvm.ClassFile.FieldType.int)).before args0 about1 = true := code_word (m := ⟨9, 1⟩) (meth := k9m1) (c := k9c1) (by decide +kernel) rfl rfl rfl (by decide +kernel)
set_option maxRecDepth 65536 in
theorem w_c5 : (Jvm.Cond.code ({ cls := "nearhop/model/Id", name := "<init>", desc := "(Lnearhop/model/IdSpace;JJ)V" } : Jvm.MethodName) prog_77_method_1_code (6 : Nat) (Option.none : Option Jvm.ClassFile.FieldType)).before args0 about1 = true := code_word (m := ⟨11, 0⟩) (meth := k11m0) (c := k11c0) (by decide +kernel) rfl rfl rfl (by decide +kernel)
set_option maxRecDepth 65536 in
theorem w_c6 : (Jvm.Cond.code ({ cls := "nearhop/model/Id", name := "cutHigh", desc := "(Lnearhop/model/IdSpace;J)J" } : Jvm.MethodName) prog_77_method_2_code (6 : Nat) (Option.some Jvm.ClassFile.FieldType.long)).before args0 about1 = true := code_word (m := ⟨11, 1⟩) (meth := k11m1) (c := k11c1) (by decide +kernel) rfl rfl rfl (by decide +kernel)
set_option maxRecDepth 65536 in
theorem w_c7 : (Jvm.Cond.code ({ cls := "nearhop/model/IdSpace", name := "bits", desc := "()I" } : Jvm.MethodName) prog_78_method_3_code (1 : Nat) (Option.some Jvm.ClassFile.FieldType.int)).before args0 about1 = true := code_word (m := ⟨3, 2⟩) (meth := k3m2) (c := k3c2) (by decide +kernel) rfl rfl rfl (by decide +kernel)
set_option maxRecDepth 65536 in
theorem w_c8 : (Jvm.Cond.code ({ cls := "nearhop/model/IdSpace", name := "bitsPerDigit", desc := "()I" } : Jvm.MethodName) prog_78_method_2_code (1 : Nat) (Option.some Jvm.ClassFile.FieldType.int)).before args0 about1 = true := code_word (m := ⟨3, 1⟩) (meth := k3m1) (c := k3c1) (by decide +kernel) rfl rfl rfl (by decide +kernel)
set_option maxRecDepth 65536 in
theorem w_c9 : (Jvm.Cond.code ({ cls := "nearhop/model/Id", name := "cutLow", desc := "(Lnearhop/model/IdSpace;J)J" } : Jvm.MethodName) prog_77_method_3_code (4 : Nat) (Option.some Jvm.ClassFile.FieldType.long)).before args0 about1 = true := code_word (m := ⟨11, 2⟩) (meth := k11m2) (c := k11c2) (by decide +kernel) rfl rfl rfl (by decide +kernel)
set_option maxRecDepth 65536 in
theorem w_c10 : (Jvm.Cond.code ({ cls := "nearhop/model/Block", name := "<init>", desc := "(Lnearhop/model/Id;)V" } : Jvm.MethodName) prog_74_method_1_code (2 : Nat) (Option.none : Option Jvm.ClassFile.FieldType)).before args0 about1 = true := code_word (m := ⟨10, 0⟩) (meth := k10m0) (c := k10c0) (by decide +kernel) rfl rfl rfl (by decide +kernel)
set_option maxRecDepth 65536 in
theorem w_c11 : (Jvm.Cond.code ({ cls := "java/util/ArrayList", name := "<init>", desc := "()V" } : Jvm.MethodName) jdk_38_method_2_code (1 : Nat) (Option.none : Option Jvm.ClassFile.FieldType)).before args0 about1 = true := code_word (m := ⟨20, 0⟩) (meth := k20m0) (c := k20c0) (by decide +kernel) rfl rfl rfl (by decide +kernel)
set_option maxRecDepth 65536 in
theorem w_c12 : (Jvm.Cond.code ({ cls := "java/util/AbstractList", name := "<init>", desc := "()V" } : Jvm.MethodName) jdk_39_method_1_code (1 : Nat) (Option.none : Option Jvm.ClassFile.FieldType)).before args0 about1 = true := code_word (m := ⟨17, 0⟩) (meth := k17m0) (c := k17c0) (by decide +kernel) rfl rfl rfl (by decide +kernel)
set_option maxRecDepth 65536 in
theorem w_c13 : (Jvm.Cond.code ({ cls := "java/util/AbstractCollection", name := "<init>", desc := "()V" } : Jvm.MethodName) jdk_22_method_1_code (1 : Nat) (Option.none : Option Jvm.ClassFile.FieldType)).before args0 about1 = true := code_word (m := ⟨14, 0⟩) (meth := k14m0) (c := k14c0) (by decide +kernel) rfl rfl rfl (by decide +kernel)
set_option maxRecDepth 65536 in
theorem w_c14 : (Jvm.Cond.code ({ cls := "nearhop/model/Id", name := "space", desc := "()Lnearhop/model/IdSpace;" } : Jvm.MethodName) prog_77_method_4_code (1 : Nat) (Option.some (Jvm.ClassFile.FieldType.object "nearhop/model/IdSpace"))).before args0 about1 = true := code_word (m := ⟨11, 3⟩) (meth := k11m3) (c := k11c3) (by decide +kernel) rfl rfl rfl (by decide +kernel)
set_option maxRecDepth 65536 in
theorem w_c15 : (Jvm.Cond.code ({ cls := "nearhop/model/IdSpace", name := "digits", desc := "()I" } : Jvm.MethodName) prog_78_method_12_code (1 : Nat) (Option.some Jvm.ClassFile.FieldType.int)).before args0 about1 = true := code_word (m := ⟨3, 3⟩) (meth := k3m3) (c := k3c3) (by decide +kernel) rfl rfl rfl (by decide +kernel)
set_option maxRecDepth 65536 in
theorem w_c16 : (Jvm.Cond.code ({ cls := "nearhop/model/Block", name := "add", desc := "(Lnearhop/model/Id;)Z" } : Jvm.MethodName) prog_74_method_6_code (2 : Nat) (Option.some Jvm.ClassFile.FieldType.boolean)).before args0 about1 = true := code_word (m := ⟨10, 2⟩) (meth := k10m2) (c := k10c2) (by decide +kernel) rfl rfl rfl (by decide +kernel)
set_option maxRecDepth 65536 in
theorem w_c17 : (Jvm.Cond.code ({ cls := "nearhop/model/Id", name := "equals", desc := "(Ljava/lang/Object;)Z" } : Jvm.MethodName) prog_77_method_18_code (3 : Nat) (Option.some Jvm.ClassFile.FieldType.boolean)).before args0 about1 = true := code_word (m := ⟨11, 5⟩) (meth := k11m5) (c := k11c5) (by decide +kernel) rfl rfl rfl (by decide +kernel)
set_option maxRecDepth 65536 in
theorem w_c18 : (Jvm.Cond.code ({ cls := "nearhop/model/Block", name := "fits", desc := "(Lnearhop/model/Id;)Z" } : Jvm.MethodName) prog_74_method_9_code (2 : Nat) (Option.some Jvm.ClassFile.FieldType.boolean)).before args0 about1 = true := code_word (m := ⟨10, 3⟩) (meth := k10m3) (c := k10c3) (by decide +kernel) rfl rfl rfl (by decide +kernel)
set_option maxRecDepth 65536 in
theorem w_c19 : (Jvm.Cond.code ({ cls := "nearhop/model/Id", name := "sharedPrefixLength", desc := "(Lnearhop/model/Id;)I" } : Jvm.MethodName) prog_77_method_7_code (7 : Nat) (Option.some Jvm.ClassFile.FieldType.int)).before args0 about1 = true := code_word (m := ⟨11, 4⟩) (meth := k11m4) (c := k11c4) (by decide +kernel) rfl rfl rfl (by decide +kernel)
set_option maxRecDepth 65536 in
theorem w_c20 : (Jvm.Cond.code ({ cls := "java/lang/Long", name := "numberOfLeadingZeros", desc := "(J)I" } : Jvm.MethodName) jdk_35_method_48_code (3 : Nat) (Option.some Jvm.ClassFile.FieldType.int)).before args0 about1 = true := code_word (m := ⟨21, 0⟩) (meth := k21m0) (c := k21c0) (by decide +kernel) rfl rfl rfl (by decide +kernel)
set_option maxRecDepth 65536 in
theorem w_c21 : (Jvm.Cond.code ({ cls := "java/lang/Integer", name := "numberOfLeadingZeros", desc := "(I)I" } : Jvm.MethodName) jdk_33_method_47_code (2 : Nat) (Option.some Jvm.ClassFile.FieldType.int)).before args0 about1 = true := code_word (m := ⟨9, 0⟩) (meth := k9m0) (c := k9c0) (by decide +kernel) rfl rfl rfl (by decide +kernel)
set_option maxRecDepth 65536 in
theorem w_c22 : (Jvm.Cond.code ({ cls := "nearhop/model/Id", name := "isIn", desc := "(Ljava/util/List;)Z" } : Jvm.MethodName) prog_77_method_19_code (3 : Nat) (Option.some Jvm.ClassFile.FieldType.boolean)).before args0 about1 = true := code_word (m := ⟨11, 6⟩) (meth := k11m6) (c := k11c6) (by decide +kernel) rfl rfl rfl (by decide +kernel)
set_option maxRecDepth 65536 in
theorem w_c23 : (Jvm.Cond.code ({ cls := "java/util/ArrayList", name := "size", desc := "()I" } : Jvm.MethodName) jdk_38_method_8_code (1 : Nat) (Option.some Jvm.ClassFile.FieldType.int)).before args0 about1 = true := code_word (m := ⟨20, 3⟩) (meth := k20m3) (c := k20c3) (by decide +kernel) rfl rfl rfl (by decide +kernel)
set_option maxRecDepth 65536 in
theorem w_c24 : (Jvm.Cond.code ({ cls := "java/util/ArrayList", name := "add", desc := "(Ljava/lang/Object;)Z" } : Jvm.MethodName) jdk_38_method_25_code (2 : Nat) (Option.some Jvm.ClassFile.FieldType.boolean)).before args0 about1 = true := code_word (m := ⟨20, 7⟩) (meth := k20m7) (c := k20c7) (by decide +kernel) rfl rfl rfl (by decide +kernel)
set_option maxRecDepth 65536 in
theorem w_c25 : (Jvm.Cond.code ({ cls := "java/util/ArrayList", name := "add", desc := "(Ljava/lang/Object;[Ljava/lang/Object;I)V" } : Jvm.MethodName) jdk_38_method_24_code (4 : Nat) (Option.none : Option Jvm.ClassFile.FieldType)).before args0 about1 = true := code_word (m := ⟨20, 6⟩) (meth := k20m6) (c := k20c6) (by decide +kernel) rfl rfl rfl (by decide +kernel)
set_option maxRecDepth 65536 in
theorem w_c26 : (Jvm.Cond.code ({ cls := "java/util/ArrayList", name := "grow", desc := "()[Ljava/lang/Object;" } : Jvm.MethodName) jdk_38_method_7_code (1 : Nat) (Option.some (Jvm.ClassFile.FieldType.array (Jvm.ClassFile.FieldType.object "java/lang/Object")))).before args0 about1 = true := code_word (m := ⟨20, 2⟩) (meth := k20m2) (c := k20c2) (by decide +kernel) rfl rfl rfl (by decide +kernel)
set_option maxRecDepth 65536 in
theorem w_c27 : (Jvm.Cond.code ({ cls := "java/util/ArrayList", name := "grow", desc := "(I)[Ljava/lang/Object;" } : Jvm.MethodName) jdk_38_method_6_code (4 : Nat) (Option.some (Jvm.ClassFile.FieldType.array (Jvm.ClassFile.FieldType.object "java/lang/Object")))).before args0 about1 = true := code_word (m := ⟨20, 1⟩) (meth := k20m1) (c := k20c1) (by decide +kernel) rfl rfl rfl (by decide +kernel)
set_option maxRecDepth 65536 in
theorem w_c28 : (Jvm.Cond.code ({ cls := "java/lang/Math", name := "max", desc := "(II)I" } : Jvm.MethodName) jdk_29_method_65_code (2 : Nat) (Option.some Jvm.ClassFile.FieldType.int)).before args0 about1 = true := code_word (m := ⟨22, 1⟩) (meth := k22m1) (c := k22c1) (by decide +kernel) rfl rfl rfl (by decide +kernel)
set_option maxRecDepth 65536 in
theorem w_c29 : (Jvm.Cond.code ({ cls := "java/util/ArrayList", name := "get", desc := "(I)Ljava/lang/Object;" } : Jvm.MethodName) jdk_38_method_20_code (2 : Nat) (Option.some (Jvm.ClassFile.FieldType.object "java/lang/Object"))).before args0 about1 = true := code_word (m := ⟨20, 5⟩) (meth := k20m5) (c := k20c5) (by decide +kernel) rfl rfl rfl (by decide +kernel)
set_option maxRecDepth 65536 in
theorem w_c30 : (Jvm.Cond.code ({ cls := "java/util/Objects", name := "checkIndex", desc := "(II)I" } : Jvm.MethodName) jdk_31_method_17_code (2 : Nat) (Option.some Jvm.ClassFile.FieldType.int)).before args0 about1 = true := code_word (m := ⟨23, 1⟩) (meth := k23m1) (c := k23c1) (by decide +kernel) rfl rfl rfl (by decide +kernel)
set_option maxRecDepth 65536 in
theorem w_c31 : (Jvm.Cond.code ({ cls := "jdk/internal/util/Preconditions", name := "checkIndex", desc := "(IILjava/util/function/BiFunction;)I" } : Jvm.MethodName) jdk_41_method_11_code (3 : Nat) (Option.some Jvm.ClassFile.FieldType.int)).before args0 about1 = true := code_word (m := ⟨24, 1⟩) (meth := k24m1) (c := k24c1) (by decide +kernel) rfl rfl rfl (by decide +kernel)
set_option maxRecDepth 65536 in
theorem w_c32 : (Jvm.Cond.code ({ cls := "java/util/ArrayList", name := "elementData", desc := "(I)Ljava/lang/Object;" } : Jvm.MethodName) jdk_38_method_18_code (2 : Nat) (Option.some (Jvm.ClassFile.FieldType.object "java/lang/Object"))).before args0 about1 = true := code_word (m := ⟨20, 4⟩) (meth := k20m4) (c := k20c4) (by decide +kernel) rfl rfl rfl (by decide +kernel)
set_option maxRecDepth 65536 in
theorem w_c33 : (Jvm.Cond.code ({ cls := "nearhop/model/BlockSharingPinLaw", name := "shares", desc := "(JJIII)Z" } : Jvm.MethodName) method_2_code (7 : Nat) (Option.some Jvm.ClassFile.FieldType.boolean)).before args0 about1 = true := code_word (m := ⟨1, 1⟩) (meth := k1m1) (c := k1c1) (by decide +kernel) rfl rfl rfl (by decide +kernel)
set_option maxRecDepth 65536 in
theorem w_c34 : (Jvm.Cond.code ({ cls := "nearhop/model/Block", name := "sharing", desc := "(I)I" } : Jvm.MethodName) prog_74_method_4_code (4 : Nat) (Option.some Jvm.ClassFile.FieldType.int)).before args0 about1 = true := code_word (m := ⟨10, 1⟩) (meth := k10m1) (c := k10c1) (by decide +kernel) rfl rfl rfl (by decide +kernel)
def codes1 : List Jvm.Cond := [Jvm.Cond.code x code maxLocals ret, Jvm.Cond.code ({ cls := "nearhop/model/IdSpace", name := "<init>", desc := "(II)V" } : Jvm.MethodName) prog_78_method_1_code (4 : Nat) (Option.none : Option Jvm.ClassFile.FieldType), Jvm.Cond.code ({ cls := "java/lang/Record", name := "<init>", desc := "()V" } : Jvm.MethodName) jdk_30_method_1_code (1 : Nat) (Option.none : Option Jvm.ClassFile.FieldType), Jvm.Cond.code ({ cls := "java/lang/Object", name := "<init>", desc := "()V" } : Jvm.MethodName) object_method_1_code (1 : Nat) (Option.none : Option Jvm.ClassFile.FieldType), Jvm.Cond.code ({ cls := "java/lang/Integer", name := "numberOfTrailingZeros", desc := "(I)I" } : Jvm.MethodName) jdk_33_method_48_code (2 : Nat) (Option.some Jvm.ClassFile.FieldType.int), Jvm.Cond.code ({ cls := "nearhop/model/Id", name := "<init>", desc := "(Lnearhop/model/IdSpace;JJ)V" } : Jvm.MethodName) prog_77_method_1_code (6 : Nat) (Option.none : Option Jvm.ClassFile.FieldType), Jvm.Cond.code ({ cls := "nearhop/model/Id", name := "cutHigh", desc := "(Lnearhop/model/IdSpace;J)J" } : Jvm.MethodName) prog_77_method_2_code (6 : Nat) (Option.some Jvm.ClassFile.FieldType.long), Jvm.Cond.code ({ cls := "nearhop/model/IdSpace", name := "bits", desc := "()I" } : Jvm.MethodName) prog_78_method_3_code (1 : Nat) (Option.some Jvm.ClassFile.FieldType.int), Jvm.Cond.code ({ cls := "nearhop/model/IdSpace", name := "bitsPerDigit", desc := "()I" } : Jvm.MethodName) prog_78_method_2_code (1 : Nat) (Option.some Jvm.ClassFile.FieldType.int), Jvm.Cond.code ({ cls := "nearhop/model/Id", name := "cutLow", desc := "(Lnearhop/model/IdSpace;J)J" } : Jvm.MethodName) prog_77_method_3_code (4 : Nat) (Option.some Jvm.ClassFile.FieldType.long), Jvm.Cond.code ({ cls := "nearhop/model/Block", name := "<init>", desc := "(Lnearhop/model/Id;)V" } : Jvm.MethodName) prog_74_method_1_code (2 : Nat) (Option.none : Option Jvm.ClassFile.FieldType), Jvm.Cond.code ({ cls := "java/util/ArrayList", name := "<init>", desc := "()V" } : Jvm.MethodName) jdk_38_method_2_code (1 : Nat) (Option.none : Option Jvm.ClassFile.FieldType), Jvm.Cond.code ({ cls := "java/util/AbstractList", name := "<init>", desc := "()V" } : Jvm.MethodName) jdk_39_method_1_code (1 : Nat) (Option.none : Option Jvm.ClassFile.FieldType), Jvm.Cond.code ({ cls := "java/util/AbstractCollection", name := "<init>", desc := "()V" } : Jvm.MethodName) jdk_22_method_1_code (1 : Nat) (Option.none : Option Jvm.ClassFile.FieldType), Jvm.Cond.code ({ cls := "nearhop/model/Id", name := "space", desc := "()Lnearhop/model/IdSpace;" } : Jvm.MethodName) prog_77_method_4_code (1 : Nat) (Option.some (Jvm.ClassFile.FieldType.object "nearhop/model/IdSpace")), Jvm.Cond.code ({ cls := "nearhop/model/IdSpace", name := "digits", desc := "()I" } : Jvm.MethodName) prog_78_method_12_code (1 : Nat) (Option.some Jvm.ClassFile.FieldType.int), Jvm.Cond.code ({ cls := "nearhop/model/Block", name := "add", desc := "(Lnearhop/model/Id;)Z" } : Jvm.MethodName) prog_74_method_6_code (2 : Nat) (Option.some Jvm.ClassFile.FieldType.boolean), Jvm.Cond.code ({ cls := "nearhop/model/Id", name := "equals", desc := "(Ljava/lang/Object;)Z" } : Jvm.MethodName) prog_77_method_18_code (3 : Nat) (Option.some Jvm.ClassFile.FieldType.boolean), Jvm.Cond.code ({ cls := "nearhop/model/Block", name := "fits", desc := "(Lnearhop/model/Id;)Z" } : Jvm.MethodName) prog_74_method_9_code (2 : Nat) (Option.some Jvm.ClassFile.FieldType.boolean), Jvm.Cond.code ({ cls := "nearhop/model/Id", name := "sharedPrefixLength", desc := "(Lnearhop/model/Id;)I" } : Jvm.MethodName) prog_77_method_7_code (7 : Nat) (Option.some Jvm.ClassFile.FieldType.int), Jvm.Cond.code ({ cls := "java/lang/Long", name := "numberOfLeadingZeros", desc := "(J)I" } : Jvm.MethodName) jdk_35_method_48_code (3 : Nat) (Option.some Jvm.ClassFile.FieldType.int), Jvm.Cond.code ({ cls := "java/lang/Integer", name := "numberOfLeadingZeros", desc := "(I)I" } : Jvm.MethodName) jdk_33_method_47_code (2 : Nat) (Option.some Jvm.ClassFile.FieldType.int), Jvm.Cond.code ({ cls := "nearhop/model/Id", name := "isIn", desc := "(Ljava/util/List;)Z" } : Jvm.MethodName) prog_77_method_19_code (3 : Nat) (Option.some Jvm.ClassFile.FieldType.boolean), Jvm.Cond.code ({ cls := "java/util/ArrayList", name := "size", desc := "()I" } : Jvm.MethodName) jdk_38_method_8_code (1 : Nat) (Option.some Jvm.ClassFile.FieldType.int), Jvm.Cond.code ({ cls := "java/util/ArrayList", name := "add", desc := "(Ljava/lang/Object;)Z" } : Jvm.MethodName) jdk_38_method_25_code (2 : Nat) (Option.some Jvm.ClassFile.FieldType.boolean), Jvm.Cond.code ({ cls := "java/util/ArrayList", name := "add", desc := "(Ljava/lang/Object;[Ljava/lang/Object;I)V" } : Jvm.MethodName) jdk_38_method_24_code (4 : Nat) (Option.none : Option Jvm.ClassFile.FieldType), Jvm.Cond.code ({ cls := "java/util/ArrayList", name := "grow", desc := "()[Ljava/lang/Object;" } : Jvm.MethodName) jdk_38_method_7_code (1 : Nat) (Option.some (Jvm.ClassFile.FieldType.array (Jvm.ClassFile.FieldType.object "java/lang/Object"))), Jvm.Cond.code ({ cls := "java/util/ArrayList", name := "grow", desc := "(I)[Ljava/lang/Object;" } : Jvm.MethodName) jdk_38_method_6_code (4 : Nat) (Option.some (Jvm.ClassFile.FieldType.array (Jvm.ClassFile.FieldType.object "java/lang/Object"))), Jvm.Cond.code ({ cls := "java/lang/Math", name := "max", desc := "(II)I" } : Jvm.MethodName) jdk_29_method_65_code (2 : Nat) (Option.some Jvm.ClassFile.FieldType.int), Jvm.Cond.code ({ cls := "java/util/ArrayList", name := "get", desc := "(I)Ljava/lang/Object;" } : Jvm.MethodName) jdk_38_method_20_code (2 : Nat) (Option.some (Jvm.ClassFile.FieldType.object "java/lang/Object")), Jvm.Cond.code ({ cls := "java/util/Objects", name := "checkIndex", desc := "(II)I" } : Jvm.MethodName) jdk_31_method_17_code (2 : Nat) (Option.some Jvm.ClassFile.FieldType.int), Jvm.Cond.code ({ cls := "jdk/internal/util/Preconditions", name := "checkIndex", desc := "(IILjava/util/function/BiFunction;)I" } : Jvm.MethodName) jdk_41_method_11_code (3 : Nat) (Option.some Jvm.ClassFile.FieldType.int), Jvm.Cond.code ({ cls := "java/util/ArrayList", name := "elementData", desc := "(I)Ljava/lang/Object;" } : Jvm.MethodName) jdk_38_method_18_code (2 : Nat) (Option.some (Jvm.ClassFile.FieldType.object "java/lang/Object")), Jvm.Cond.code ({ cls := "nearhop/model/BlockSharingPinLaw", name := "shares", desc := "(JJIII)Z" } : Jvm.MethodName) method_2_code (7 : Nat) (Option.some Jvm.ClassFile.FieldType.boolean), Jvm.Cond.code ({ cls := "nearhop/model/Block", name := "sharing", desc := "(I)I" } : Jvm.MethodName) prog_74_method_4_code (4 : Nat) (Option.some Jvm.ClassFile.FieldType.int)]
set_option maxRecDepth 65536 in
theorem codes_eq : words1.filter isCode = codes1 := rfl
theorem w_codes : ∀ c ∈ words1.filter isCode, c.before args0 about1 = true := by
  rw [codes_eq]
  intro c hc
  simp only [codes1, List.mem_cons, List.not_mem_nil, or_false] at hc
  rcases hc with rfl | rfl | rfl | rfl | rfl | rfl | rfl | rfl | rfl | rfl | rfl | rfl | rfl | rfl | rfl | rfl | rfl | rfl | rfl | rfl | rfl | rfl | rfl | rfl | rfl | rfl | rfl | rfl | rfl | rfl | rfl | rfl | rfl | rfl | rfl
  · exact w_c0
  · exact w_c1
  · exact w_c2
  · exact w_c3
  · exact w_c4
  · exact w_c5
  · exact w_c6
  · exact w_c7
  · exact w_c8
  · exact w_c9
  · exact w_c10
  · exact w_c11
  · exact w_c12
  · exact w_c13
  · exact w_c14
  · exact w_c15
  · exact w_c16
  · exact w_c17
  · exact w_c18
  · exact w_c19
  · exact w_c20
  · exact w_c21
  · exact w_c22
  · exact w_c23
  · exact w_c24
  · exact w_c25
  · exact w_c26
  · exact w_c27
  · exact w_c28
  · exact w_c29
  · exact w_c30
  · exact w_c31
  · exact w_c32
  · exact w_c33
  · exact w_c34
set_option maxRecDepth 65536 in
theorem w_t1 : (words1.take 24).all (fun c => isCode c || c.before args0 about1) = true := by decide +kernel
set_option maxRecDepth 65536 in
theorem w_t2 : ((words1.drop 24).take 24).all (fun c => isCode c || c.before args0 about1) = true := by decide +kernel
set_option maxRecDepth 65536 in
theorem w_t3 : (((words1.drop 24).drop 24).take 24).all (fun c => isCode c || c.before args0 about1) = true := by decide +kernel
set_option maxRecDepth 65536 in
theorem w_t4 : ((((words1.drop 24).drop 24).drop 24).take 24).all (fun c => isCode c || c.before args0 about1) = true := by decide +kernel
set_option maxRecDepth 65536 in
theorem w_t5 : (((((words1.drop 24).drop 24).drop 24).drop 24).take 24).all (fun c => isCode c || c.before args0 about1) = true := by decide +kernel
set_option maxRecDepth 65536 in
theorem w_t6 : ((((((words1.drop 24).drop 24).drop 24).drop 24).drop 24).take 24).all (fun c => isCode c || c.before args0 about1) = true := by decide +kernel
set_option maxRecDepth 65536 in
theorem w_t7 : (((((((words1.drop 24).drop 24).drop 24).drop 24).drop 24).drop 24).take 24).all (fun c => isCode c || c.before args0 about1) = true := by decide +kernel
set_option maxRecDepth 65536 in
theorem w_t8 : ((((((((words1.drop 24).drop 24).drop 24).drop 24).drop 24).drop 24).drop 24).take 24).all (fun c => isCode c || c.before args0 about1) = true := by decide +kernel
set_option maxRecDepth 65536 in
theorem w_t9 : ((((((((words1.drop 24).drop 24).drop 24).drop 24).drop 24).drop 24).drop 24).drop 24).all (fun c => isCode c || c.before args0 about1) = true := by decide +kernel
theorem w_tables : (allAtoms (Jvm.Cond.code x code maxLocals ret :: tables_1)).before args0 about1 = true := by
  rw [allAtoms_all]
  show words1.all (fun c => c.before args0 about1) = true
  refine all_split ?_ w_codes
  rw [← List.take_append_drop 24 words1, List.all_append, w_t1, ← List.take_append_drop 24 (words1.drop 24), List.all_append, w_t2, ← List.take_append_drop 24 ((words1.drop 24).drop 24), List.all_append, w_t3, ← List.take_append_drop 24 (((words1.drop 24).drop 24).drop 24), List.all_append, w_t4, ← List.take_append_drop 24 ((((words1.drop 24).drop 24).drop 24).drop 24), List.all_append, w_t5, ← List.take_append_drop 24 (((((words1.drop 24).drop 24).drop 24).drop 24).drop 24), List.all_append, w_t6, ← List.take_append_drop 24 ((((((words1.drop 24).drop 24).drop 24).drop 24).drop 24).drop 24), List.all_append, w_t7, ← List.take_append_drop 24 (((((((words1.drop 24).drop 24).drop 24).drop 24).drop 24).drop 24).drop 24), List.all_append, w_t8, w_t9]
  rfl
set_option maxRecDepth 65536 in
theorem w_rest : rest_1_c.before args0 about1 = true := by decide +kernel
set_option maxRecDepth 65536 in
theorem w_case : (Jvm.Cond.and given_1 narrow_1).before args0 about1 = true := by decide +kernel
theorem w_applies : (headSpec (Jvm.Cond.code x code maxLocals ret :: tables_1) room_1).applies x e0.platform about1 = true :=
  (Spec.applies_iff w_frames).mpr ⟨w_running, w_runnable, w_alone, w_named, w_hears, w_ripe, w_room, w_tables⟩
theorem atStart : AtStart classFile x code maxLocals ret World_1 tables_1 room_1 Calls_1 rest_1 Pre_1 launch0 p0 e0 about1 theMethod args0 below0 :=
  ⟨lists_1, trivial, launch0.admits_env _ _ _, launch0.least_env, fairChoices_fair.cas, fairChoices_fair.clock, w_frames, w_args, w_heap, w_applies, trivial, w_rest, w_case⟩
end start1
theorem witness_1 : WitnessClaimed_1 := ⟨start1.p0, start1.e0, start1.about1, start1.theMethod, start1.args0, start1.below0, start1.atStart⟩
end Jvm.Pilot.@@N@@
