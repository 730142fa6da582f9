import JvmDerived
import JvmDerived.Pilot.@@N@@Statement
import JvmDerived.Pilot.@@N@@Code
set_option linter.unusedVariables false
set_option linter.unusedSimpArgs false
namespace Jvm.Pilot.@@N@@
open Jvm Jvm.ClassFile Sem Op Lib Jvm.Free Jvm.Stand Jvm.LawKit Jvm.RoadKit Bundle Jvm.Pilot.@@N@@.Jvm.D
section Own
variable {p : Program} {l : Launch} {e : Env} {R : Room} {s : State} {m : MethodId} {args : Array Value} {below : List Frame} {meth : Method} {c : Code} {T : State} {locs : List Loc} {cells slots : Nat} {Q : Option Value → Heap → List Loc → Prop} {C S : Nat}
abbrev vi (x : Int32) : Slot := .val (.int x)
abbrev vr (x : Addr) : Slot := .val (.ref x)
theorem own_w {a0 : Array Value} {Z : State} (hw : ∀ d ∈ tables_1, d.before a0 Z = true) (i : Nat) {d : Cond} (h : tables_1[i]? = some d) : d.before a0 Z = true := hw d (List.mem_of_getElem? h)
def Goes (p : Program) (e : Env) (below : List Frame) (P : Outcome → State → Prop) (A : State) : Prop :=
  ∃ s₂ o, Steps p.tables e below A s₂ ∧ s₂.status = .running ∧ Ended s₂ below o ∧ P o s₂
def Fin_ (s : State) (Q : Option Value → Heap → List Loc → Prop) (C S : Nat) (o : Outcome) (U' : State) : Prop :=
  ∃ v L, o = .returned v ∧ Q v U'.heap L ∧ FrameEnd s o U' L C S
theorem Goes.via {P : Outcome → State → Prop} {A B : State} (st : ∀ t, Steps p.tables e below B t → Steps p.tables e below A t) (k : Goes p e below P B) : Goes p e below P A := by
  obtain ⟨s₂, o, h1, h2⟩ := k
  exact ⟨s₂, o, st _ h1, h2⟩
theorem Goes.tr {P : Outcome → State → Prop} {A B : State} (st : Steps p.tables e below A B) (k : Goes p e below P B) : Goes p e below P A := by
  obtain ⟨s₂, o, h1, h2⟩ := k
  exact ⟨s₂, o, st.trans h1, h2⟩
theorem gIL (X : Stand p l e R s m args below meth c T locs cells slots) (hx : p.tables.exec = Jvm.exec) {code : ByteArray} (hby : c.code = code) {pc : Nat} {Ls : Array Slot} {S : List Value} {F : Outcome → State → Prop} {k : Nat} {v : Int32} (hd : decode code pc = .ok (.iload k, 2)) (hl : Ls[k]? = some (.val (.int v))) (G : Goes p e below F (T.setTop (mkF m (pc + 2) Ls (.int v :: S)))) : Goes p e below F (T.setTop (mkF m pc Ls (S))) := Goes.via (fun _ kk_ => XS.iload X.here hx rfl (hb hby hd) hl kk_) G
theorem gILN (X : Stand p l e R s m args below meth c T locs cells slots) (hx : p.tables.exec = Jvm.exec) {code : ByteArray} (hby : c.code = code) {pc : Nat} {Ls : Array Slot} {S : List Value} {F : Outcome → State → Prop} {k : Fin 4} {v : Int32} (hd : decode code pc = .ok (.iload_n k, 1)) (hl : Ls[k.val]? = some (.val (.int v))) (G : Goes p e below F (T.setTop (mkF m (pc + 1) Ls (.int v :: S)))) : Goes p e below F (T.setTop (mkF m pc Ls (S))) := Goes.via (fun _ kk_ => XS.iloadN X.here hx rfl (hb hby hd) hl kk_) G
theorem gAL (X : Stand p l e R s m args below meth c T locs cells slots) (hx : p.tables.exec = Jvm.exec) {code : ByteArray} (hby : c.code = code) {pc : Nat} {Ls : Array Slot} {S : List Value} {F : Outcome → State → Prop} {k : Nat} {v : Value} (hd : decode code pc = .ok (.aload k, 2)) (hl : Ls[k]? = some (.val v)) (hv : v.isRef = true) (G : Goes p e below F (T.setTop (mkF m (pc + 2) Ls (v :: S)))) : Goes p e below F (T.setTop (mkF m pc Ls (S))) := Goes.via (fun _ kk_ => XS.aload X.here hx rfl (hb hby hd) hl hv kk_) G
theorem gALN (X : Stand p l e R s m args below meth c T locs cells slots) (hx : p.tables.exec = Jvm.exec) {code : ByteArray} (hby : c.code = code) {pc : Nat} {Ls : Array Slot} {S : List Value} {F : Outcome → State → Prop} {k : Fin 4} {v : Value} (hd : decode code pc = .ok (.aload_n k, 1)) (hl : Ls[k.val]? = some (.val v)) (hv : v.isRef = true) (G : Goes p e below F (T.setTop (mkF m (pc + 1) Ls (v :: S)))) : Goes p e below F (T.setTop (mkF m pc Ls (S))) := Goes.via (fun _ kk_ => XS.aloadN X.here hx rfl (hb hby hd) hl hv kk_) G
theorem gIC {z : Int32} (X : Stand p l e R s m args below meth c T locs cells slots) (hx : p.tables.exec = Jvm.exec) {code : ByteArray} (hby : c.code = code) {pc : Nat} {Ls : Array Slot} {S : List Value} {F : Outcome → State → Prop} {i : Int} (hd : decode code pc = .ok (.iconst i, 1)) (hz : Int32.ofInt i = z) (G : Goes p e below F (T.setTop (mkF m (pc + 1) Ls (.int z :: S)))) : Goes p e below F (T.setTop (mkF m pc Ls S)) := by
  subst hz
  exact Goes.via (fun _ kk_ => XS.iconst X.here hx rfl (hb hby hd) kk_) G
theorem gBI {z : Int32} (X : Stand p l e R s m args below meth c T locs cells slots) (hx : p.tables.exec = Jvm.exec) {code : ByteArray} (hby : c.code = code) {pc : Nat} {Ls : Array Slot} {S : List Value} {F : Outcome → State → Prop} {i : Int} (hd : decode code pc = .ok (.bipush i, 2)) (hz : (Int8.ofInt i).toInt32 = z) (G : Goes p e below F (T.setTop (mkF m (pc + 2) Ls (.int z :: S)))) : Goes p e below F (T.setTop (mkF m pc Ls S)) := by
  subst hz
  exact Goes.via (fun _ kk_ => XS.bipush X.here hx rfl (hb hby hd) kk_) G
theorem gSI {z : Int32} (X : Stand p l e R s m args below meth c T locs cells slots) (hx : p.tables.exec = Jvm.exec) {code : ByteArray} (hby : c.code = code) {pc : Nat} {Ls : Array Slot} {S : List Value} {F : Outcome → State → Prop} {i : Int} (hd : decode code pc = .ok (.sipush i, 3)) (hz : (Int16.ofInt i).toInt32 = z) (G : Goes p e below F (T.setTop (mkF m (pc + 3) Ls (.int z :: S)))) : Goes p e below F (T.setTop (mkF m pc Ls S)) := by
  subst hz
  exact Goes.via (fun _ kk_ => XS.sipush X.here hx rfl (hb hby hd) kk_) G
theorem gDU (X : Stand p l e R s m args below meth c T locs cells slots) (hx : p.tables.exec = Jvm.exec) {code : ByteArray} (hby : c.code = code) {pc : Nat} {Ls : Array Slot} {S : List Value} {F : Outcome → State → Prop} {v : Value} (hd : decode code pc = .ok (.dup, 1)) (hc : v.category = 1) (G : Goes p e below F (T.setTop (mkF m (pc + 1) Ls (v :: v :: S)))) : Goes p e below F (T.setTop (mkF m pc Ls (v :: S))) := Goes.via (fun _ kk_ => XS.dup X.here hx rfl (hb hby hd) rfl hc kk_) G
theorem own_fin {pc : Nat} {Ls : Array Slot} {st : List Value} (X : Stand p l e R s m args below meth c T locs cells slots) (hlk : meth.locks = false) {v : Option Value} (hv : meth.sig.returnType = none → v = none)
    (hstep : ∀ fs, (∀ (f : JFrame) (acts : List Action), f.method = m → f.locked = none → f.entered = [] → (doReturn e (T.setTop f) acts v).1 = T.setFrames fs) → Steps p.tables e below (T.setTop (mkF m pc Ls st)) (T.setFrames fs))
    (hQ : Q v T.heap locs) (hC : cells ≤ C) (hS : slots ≤ S) : Goes p e below (Fin_ s Q C S) (T.setTop (mkF m pc Ls st)) := by
  obtain ⟨fs, hr, hrun, hended, hW, hsame⟩ := X.leave (v := v) hv hlk
  exact ⟨_, _, hstep fs hr, hrun, hended, _, _, rfl, hQ, ⟨_, rfl⟩, hW, hsame.mono hC hS⟩
theorem own_finV {pc : Nat} {Ls : Array Slot} (X : Stand p l e R s m args below meth c T locs cells slots) (hx : p.tables.exec = Jvm.exec) (hlk : meth.locks = false) (hret : meth.sig.returnType = none)
    (hd : decode c.code pc = .ok (.return_, 1)) (hQ : Q none T.heap locs) (hC : cells ≤ C) (hS : slots ≤ S) : Goes p e below (Fin_ s Q C S) (T.setTop (mkF m pc Ls [])) :=
  own_fin X hlk (fun _ => rfl) (fun _ hr => X.returnOut hx hret hd hr) hQ hC hS
theorem own_finI {pc : Nat} {Ls : Array Slot} {z : Int32} {rest : List Value} (X : Stand p l e R s m args below meth c T locs cells slots) (hx : p.tables.exec = Jvm.exec) (hlk : meth.locks = false) (hret : meth.sig.returnType = some .int)
    (hd : decode c.code pc = .ok (.ireturn, 1)) (hQ : Q (some (.int z)) T.heap locs) (hC : cells ≤ C) (hS : slots ≤ S) : Goes p e below (Fin_ s Q C S) (T.setTop (mkF m pc Ls (.int z :: rest))) :=
  own_fin X hlk (fun h => by rw [hret] at h; cases h) (fun _ hr => retOut X hx hret rfl (Or.inl ⟨rfl, Or.inl rfl, _, rfl⟩) hd hr) hQ hC hS
theorem own_finN {pc : Nat} {Ls : Array Slot} {z : Int32} {rest : List Value} (X : Stand p l e R s m args below meth c T locs cells slots) (hx : p.tables.exec = Jvm.exec) (hlk : meth.locks = false) {t : FieldType} (hret : meth.sig.returnType = some t)
    (ht : t = .boolean ∨ t = .byte ∨ t = .char ∨ t = .short) (hd : decode c.code pc = .ok (.ireturn, 1)) (hQ : Q (some (.int (nar t z))) T.heap locs) (hC : cells ≤ C) (hS : slots ≤ S) : Goes p e below (Fin_ s Q C S) (T.setTop (mkF m pc Ls (.int z :: rest))) :=
  own_fin X hlk (fun h => by rw [hret] at h; cases h) (fun _ hr => retN X hx hret ht hd hr) hQ hC hS
theorem own_finJ {pc : Nat} {Ls : Array Slot} {z : Int64} {rest : List Value} (X : Stand p l e R s m args below meth c T locs cells slots) (hx : p.tables.exec = Jvm.exec) (hlk : meth.locks = false) (hret : meth.sig.returnType = some .long)
    (hd : decode c.code pc = .ok (.lreturn, 1)) (hQ : Q (some (.long z)) T.heap locs) (hC : cells ≤ C) (hS : slots ≤ S) : Goes p e below (Fin_ s Q C S) (T.setTop (mkF m pc Ls (.long z :: rest))) :=
  own_fin X hlk (fun h => by rw [hret] at h; cases h) (fun _ hr => retOut X hx hret rfl (Or.inr (Or.inl ⟨rfl, rfl, _, rfl⟩)) hd hr) hQ hC hS
theorem own_finR {pc : Nat} {Ls : Array Slot} {w : Value} {rest : List Value} (X : Stand p l e R s m args below meth c T locs cells slots) (hx : p.tables.exec = Jvm.exec) (hlk : meth.locks = false) {t : FieldType} (hret : meth.sig.returnType = some t) (ht : t.isReference = true) (hw : w.isRef = true) (hn : narrow t w = w)
    (hd : decode c.code pc = .ok (.areturn, 1)) (hQ : Q (some w) T.heap locs) (hC : cells ≤ C) (hS : slots ≤ S) : Goes p e below (Fin_ s Q C S) (T.setTop (mkF m pc Ls (w :: rest))) :=
  own_fin X hlk (fun h => by rw [hret] at h; cases h) (fun _ hr => retOut X hx hret hn (Or.inr (Or.inr (Or.inr (Or.inr ⟨rfl, ht, hw⟩)))) hd hr) hQ hC hS
theorem own_sta_keep {Z : State} {h h' : Heap} {C n d : String} {v : Value} (F : Sta Z h C n d v) (K : Keep h h' []) : Sta Z h' C n d v := by
  obtain ⟨cf, i, k, f, st, cell, h1, h2, h3, h4, h5, h6⟩ := F
  exact ⟨cf, i, k, f, st, cell, h1, h2, h3, h4, K.2.1 _ _ h5 nin0, h6⟩
theorem own_mask (x : Int32) : ¬ (x &&& (2147483647 : Int32)) < (0 : Int32) := by
  intro q
  have q1 := (c_and x 2147483647 (by decide)).1
  have q2 := Int32.lt_iff_toInt_lt.mp q
  have q3 : (0 : Int32).toInt = 0 := by decide
  omega
theorem own_and255 (x : Int32) : ¬ (x &&& (255 : Int32)) < 0 ∧ ¬ (255 : Int32) < (x &&& (255 : Int32)) := by
  have q1 := c_and x 255 (by decide)
  have q3 : (0 : Int32).toInt = 0 := by decide
  have q4 : (255 : Int32).toInt = 255 := by decide
  constructor
  · intro q
    have q2 := Int32.lt_iff_toInt_lt.mp q
    omega
  · intro q
    have q2 := Int32.lt_iff_toInt_lt.mp q
    omega
theorem own_mvM {Z : State} {a0 args' : Array Value} {own host : String} {index : Nat} {y : MethodName} (hZ : Z.Warmed39 s.vm) (w : (Jvm.Cond.methodLinkNest own index y host).before a0 Z = true) : (Jvm.Cond.methodLinkNest own index y host).before args' s = true := (Jvm.Cond.methodLinkNest_wide hZ w :)
end Own
section Arrays
variable {p : Program} {l : Launch} {e : Env} {R : Room} {s : State} {m : MethodId} {args : Array Value} {below : List Frame} {meth : Method} {c : Code} {T : State} {locs : List Loc} {cells slots : Nat} {Z : State} {a0 : Array Value} {h h' : Heap} {a b : Addr} {k : ClassId} {ty : FieldType} {n : Nat} {f : Nat → Value} {ws : List Addr}
def Arw (Z : State) (h : Heap) (a : Addr) (k : ClassId) (ty : FieldType) (n : Nat) (f : Nat → Value) : Prop :=
  ∃ c : Cell, Arr Z h a c ty ∧ c.cls = k ∧ c.slots.size = n ∧ n < 2147483648 ∧ (∀ i, i < n → c.slots[i]? = some (f i)) ∧ ∀ i, i < n → fits ty (f i) = true
def own_upd (f : Nat → Value) (i : Nat) (v : Value) : Nat → Value := fun q => if q = i then v else f q
theorem own_upd_same (f : Nat → Value) (i : Nat) (v : Value) : own_upd f i v i = v := if_pos rfl
theorem own_upd_ne (f : Nat → Value) {i j : Nat} (v : Value) (q : j ≠ i) : own_upd f i v j = f j := if_neg q
theorem Arw.lt (F : Arw Z h a k ty n f) : a < h.size := by
  obtain ⟨c, A, -⟩ := F
  exact A.lt
theorem Arw.ext (F : Arw Z h a k ty n f) (E : Ext h h') : Arw Z h' a k ty n f := by
  obtain ⟨c, A, r⟩ := F
  exact ⟨c, A.ext E, r⟩
theorem Arw.other {sl : Nat} {v : Value} (F : Arw Z h b k ty n f) (W : Wr h h' a sl v) (q : b ≠ a) : Arw Z h' b k ty n f := by
  obtain ⟨c, A, r⟩ := F
  exact ⟨c, A.other W q, r⟩
theorem Arw.keep (F : Arw Z h a k ty n f) (K : Keep h h' ws) (q : a ∉ ws) : Arw Z h' a k ty n f := by
  obtain ⟨c, A, r⟩ := F
  exact ⟨c, ⟨K.2.1 _ _ A.1 q, A.2⟩, r⟩
theorem Arw.to {f' : Nat → Value} (F : Arw Z h a k ty n f) (q : ∀ i, i < n → f' i = f i) : Arw Z h a k ty n f' := by
  obtain ⟨c, A, h1, h2, h3, h4, h5⟩ := F
  exact ⟨c, A, h1, h2, h3, fun i hi => by rw [q i hi]; exact h4 i hi, fun i hi => by rw [q i hi]; exact h5 i hi⟩
theorem own_ne_arr {C : String} {kk : Nat} (F : Exa Z h a C) (wi : (Cond.instantiable C kk).before a0 Z = true) (G : Arw Z h b k ty n f) : a ≠ b := by
  obtain ⟨c, A, -⟩ := G
  exact ne_arr F wi A
theorem own_newP (X : Stand p l e R s m args below meth c T locs cells slots) (hx : p.tables.exec = Jvm.exec) (hZ : Z.Warmed39 s.vm) {aty : ArrayType} (w : (Cond.arrayClass (newarray.typeOf aty)).before a0 Z = true) (eT : T.heap = h) {g : JFrame} (hg : g.method = m)
    (hd : decode c.code g.pc = .ok (.newarray aty, 2)) {n : Int32} {rest : List Value} (hs : g.stack = .int n :: rest) {N : Nat} (hn : ¬ n < 0) (hN : n.toNatClampNeg = N) {cap : Nat} (hcap : N ≤ cap) (hb : cap * 8 ≤ 536870912) (hc : cells + 1 ≤ R.cells) (hl : slots + cap ≤ R.slots) :
    ∃ T' h' cA, Stand p l e R s m args below meth c T' locs (cells + 1) (slots + cap) ∧ T'.heap = h' ∧ Ext h h' ∧ Arw Z h' h.size cA (newarray.typeOf aty) N (fun _ => defaultValue (newarray.typeOf aty)) ∧
      ∀ target, Steps p.tables e below (T'.setTop { g with pc := g.pc + 2, stack := .ref h.size :: rest }) target → Steps p.tables e below (T.setTop g) target := by
  obtain ⟨T', h', cA, X', e', E', A', st⟩ := newP X hx hZ w eT hg hd hs hn (cap := cap) (by omega) hb hc hl
  refine ⟨T', h', cA, X', e', E', ⟨_, A', rfl, (sz_new _ _ _).trans hN, by omega, fun i hi => ?_, fun i hi => ?_⟩, st⟩
  · subst hN
    simp [newA, hi]
  · cases aty <;> rfl
theorem own_alen (X : Stand p l e R s m args below meth c T locs cells slots) (hx : p.tables.exec = Jvm.exec) (hZ : Z.Warmed39 s.vm) (eT : T.heap = h) (A : Arw Z h a k ty n f) {g : JFrame} (hg : g.method = m) {rest : List Value} (hs : g.stack = .ref a :: rest) (hd : decode c.code g.pc = .ok (.arraylength, 1)) :
    ∀ target, Steps p.tables e below (T.setTop { g with pc := g.pc + 1, stack := .int n.toInt32 :: rest }) target → Steps p.tables e below (T.setTop g) target := by
  obtain ⟨c, A, h1, h2, h3, h4, h5⟩ := A
  intro target kk
  refine X.arraylength hx (by rw [eT]; exact A.1) (State.isArrayOf_alike hZ.alike A.2.1) hg hs hd target ?_
  rw [h2]
  exact kk
theorem own_in {cl : Cell} {j : Int32} {i : Nat} (h2 : cl.slots.size = n) (hj : ¬ j < 0) (hji : j.toNatClampNeg = i) (hi : i < n) : ¬ (j < 0 ∨ cl.slots.size ≤ j.toNatClampNeg) := by
  rintro (q | q)
  · exact hj q
  · omega
theorem own_iaload (X : Stand p l e R s m args below meth c T locs cells slots) (hx : p.tables.exec = Jvm.exec) (hZ : Z.Warmed39 s.vm) (eT : T.heap = h) (A : Arw Z h a k .int n f) {j : Int32} {i : Nat} (hj : ¬ j < 0) (hji : j.toNatClampNeg = i) (hi : i < n) {v : Int32} (hv : f i = .int v)
    {g : JFrame} (hg : g.method = m) {rest : List Value} (hs : g.stack = .int j :: .ref a :: rest) (hd : decode c.code g.pc = .ok (.iaload, 1)) :
    ∀ target, Steps p.tables e below (T.setTop { g with pc := g.pc + 1, stack := .int v :: rest }) target → Steps p.tables e below (T.setTop g) target := by
  obtain ⟨cl, A, h1, h2, h3, h4, h5⟩ := A
  intro target kk
  exact X.iaload hx (by rw [eT]; exact A.1) (State.isArrayOf_alike hZ.alike A.2.1) A.2.2 (own_in h2 hj hji hi) (by rw [hji, h4 i hi, hv]) hg hs hd target kk
theorem own_laload (X : Stand p l e R s m args below meth c T locs cells slots) (hx : p.tables.exec = Jvm.exec) (hZ : Z.Warmed39 s.vm) (eT : T.heap = h) (A : Arw Z h a k .long n f) {j : Int32} {i : Nat} (hj : ¬ j < 0) (hji : j.toNatClampNeg = i) (hi : i < n) {v : Int64} (hv : f i = .long v)
    {g : JFrame} (hg : g.method = m) {rest : List Value} (hs : g.stack = .int j :: .ref a :: rest) (hd : decode c.code g.pc = .ok (.laload, 1)) :
    ∀ target, Steps p.tables e below (T.setTop { g with pc := g.pc + 1, stack := .long v :: rest }) target → Steps p.tables e below (T.setTop g) target := by
  obtain ⟨cl, A, h1, h2, h3, h4, h5⟩ := A
  intro target kk
  exact X.laload hx (by rw [eT]; exact A.1) (State.isArrayOf_alike hZ.alike A.2.1) A.2.2 (own_in h2 hj hji hi) (by rw [hji, h4 i hi, hv]) hg hs hd target kk
theorem own_aaload (X : Stand p l e R s m args below meth c T locs cells slots) (hx : p.tables.exec = Jvm.exec) (hZ : Z.Warmed39 s.vm) (eT : T.heap = h) (A : Arw Z h a k ty n f) (hty : ty.isReference = true) {j : Int32} {i : Nat} (hj : ¬ j < 0) (hji : j.toNatClampNeg = i) (hi : i < n) {v : Value} (hv : f i = v)
    {g : JFrame} (hg : g.method = m) {rest : List Value} (hs : g.stack = .int j :: .ref a :: rest) (hd : decode c.code g.pc = .ok (.aaload, 1)) :
    ∀ target, Steps p.tables e below (T.setTop { g with pc := g.pc + 1, stack := v :: rest }) target → Steps p.tables e below (T.setTop g) target := by
  obtain ⟨cl, A, h1, h2, h3, h4, h5⟩ := A
  intro target kk
  exact X.aaload hx (by rw [eT]; exact A.1) (State.isArrayOf_alike hZ.alike A.2.1) hty A.2.2 (own_in h2 hj hji hi) (by rw [hji, h4 i hi, hv]) hg hs hd target kk
theorem own_ix {j : Int32} {i : Nat} (h : j.toInt = i) : ¬ j < 0 ∧ j.toNatClampNeg = i := by
  constructor
  · intro q
    have q1 := Int32.lt_iff_toInt_lt.mp q
    have q3 : (0 : Int32).toInt = 0 := by decide
    omega
  · show j.toInt.toNat = i
    omega
theorem own_lti {x y : Int32} : x < y ↔ x.toInt < y.toInt := Int32.lt_iff_toInt_lt
theorem Arw.ofArv {z : Int32} {vs : List Value} {dv : Value} (F : Arv Z h a k ty z vs dv) (hn : z.toNatClampNeg = n) (q : ∀ i, i < n → vs.getD i dv = f i) : Arw Z h a k ty n f := by
  obtain ⟨c, A, h1, h2, h3, h4, h5⟩ := F
  have hb := (back32 h3).2
  refine ⟨c, A, h1, h2.trans hn, by omega, fun i hi => ?_, fun i hi => ?_⟩
  · rw [h4 i (by omega), q i hi]
  · rw [← q i hi]
    exact h5 i (by omega)
theorem own_set {cl : Cell} {j : Int32} {i : Nat} {v : Value} (A : Arr Z h a cl ty) (h1 : cl.cls = k) (h2 : cl.slots.size = n) (h3 : n < 2147483648) (h4 : ∀ i, i < n → cl.slots[i]? = some (f i)) (h5 : ∀ i, i < n → fits ty (f i) = true) (hv : fits ty v = true) (W : Wr h h' a j.toNatClampNeg v) (hji : j.toNatClampNeg = i) (hi : i < n) :
    Arw Z h' a k ty n (own_upd f i v) := by
  subst hji
  refine ⟨_, A.same W, h1, by rw [sz_set]; exact h2, h3, fun q hq => ?_, fun q hq => ?_⟩
  · by_cases e : q = j.toNatClampNeg
    · subst e
      rw [own_upd_same]
      simp [Cell.setSlot, h2, hq]
    · rw [own_upd_ne _ _ e, ← h4 q hq]
      simp [Cell.setSlot, Array.getElem?_setIfInBounds, Ne.symm e]
  · by_cases e : q = j.toNatClampNeg
    · subst e
      rw [own_upd_same]
      exact hv
    · rw [own_upd_ne _ _ e]
      exact h5 q hq
theorem own_iastore (X : Stand p l e R s m args below meth c T locs cells slots) (hx : p.tables.exec = Jvm.exec) (hZ : Z.Warmed39 s.vm) (eT : T.heap = h) (A : Arw Z h a k .int n f) {j : Int32} {i : Nat} (hj : ¬ j < 0) (hji : j.toNatClampNeg = i) (hi : i < n)
    {g : JFrame} (hg : g.method = m) {x : Int32} {rest : List Value} (hs : g.stack = .int x :: .int j :: .ref a :: rest) (hd : decode c.code g.pc = .ok (.iastore, 1)) :
    ∃ T' h', Stand p l e R s m args below meth c T' (locs ++ [⟨a, j.toNatClampNeg⟩]) cells slots ∧ T'.heap = h' ∧ Wr h h' a j.toNatClampNeg (.int x) ∧ Arw Z h' a k .int n (own_upd f i (.int x)) ∧
      ∀ target, Steps p.tables e below (T'.setTop { g with pc := g.pc + 1, stack := rest }) target → Steps p.tables e below (T.setTop g) target := by
  obtain ⟨cl, A, h1, h2, h3, h4, h5⟩ := A
  obtain ⟨T', h', X', e', W, st⟩ := stI X hx hZ eT A (j := j) (own_in h2 hj hji hi) hg hs hd
  exact ⟨T', h', X', e', W, own_set A h1 h2 h3 h4 h5 rfl W hji hi, st⟩
theorem own_lastore (X : Stand p l e R s m args below meth c T locs cells slots) (hx : p.tables.exec = Jvm.exec) (hZ : Z.Warmed39 s.vm) (eT : T.heap = h) (A : Arw Z h a k .long n f) {j : Int32} {i : Nat} (hj : ¬ j < 0) (hji : j.toNatClampNeg = i) (hi : i < n)
    {g : JFrame} (hg : g.method = m) {x : Int64} {rest : List Value} (hs : g.stack = .long x :: .int j :: .ref a :: rest) (hd : decode c.code g.pc = .ok (.lastore, 1)) :
    ∃ T' h', Stand p l e R s m args below meth c T' (locs ++ [⟨a, j.toNatClampNeg⟩]) cells slots ∧ T'.heap = h' ∧ Wr h h' a j.toNatClampNeg (.long x) ∧ Arw Z h' a k .long n (own_upd f i (.long x)) ∧
      ∀ target, Steps p.tables e below (T'.setTop { g with pc := g.pc + 1, stack := rest }) target → Steps p.tables e below (T.setTop g) target := by
  obtain ⟨cl, A, h1, h2, h3, h4, h5⟩ := A
  obtain ⟨T', h', X', e', W, st⟩ := stJ X hx hZ eT A (j := j) (own_in h2 hj hji hi) hg hs hd
  exact ⟨T', h', X', e', W, own_set A h1 h2 h3 h4 h5 rfl W hji hi, st⟩
theorem own_castore (X : Stand p l e R s m args below meth c T locs cells slots) (hx : p.tables.exec = Jvm.exec) (hZ : Z.Warmed39 s.vm) (eT : T.heap = h) (A : Arw Z h a k .char n f) {j : Int32} {i : Nat} (hj : ¬ j < 0) (hji : j.toNatClampNeg = i) (hi : i < n)
    {g : JFrame} (hg : g.method = m) {x : Int32} {rest : List Value} (hs : g.stack = .int x :: .int j :: .ref a :: rest) (hd : decode c.code g.pc = .ok (.castore, 1)) :
    ∃ T' h', Stand p l e R s m args below meth c T' (locs ++ [⟨a, j.toNatClampNeg⟩]) cells slots ∧ T'.heap = h' ∧ Wr h h' a j.toNatClampNeg (.int (nar .char x)) ∧ Arw Z h' a k .char n (own_upd f i (.int (nar .char x))) ∧
      ∀ target, Steps p.tables e below (T'.setTop { g with pc := g.pc + 1, stack := rest }) target → Steps p.tables e below (T.setTop g) target := by
  obtain ⟨cl, A, h1, h2, h3, h4, h5⟩ := A
  obtain ⟨T', h', X', e', W, st⟩ := stC X hx hZ eT A (j := j) (own_in h2 hj hji hi) hg hs hd
  exact ⟨T', h', X', e', W, own_set A h1 h2 h3 h4 h5 (fits_nar_char _) W hji hi, st⟩
theorem own_caload (X : Stand p l e R s m args below meth c T locs cells slots) (hx : p.tables.exec = Jvm.exec) (hZ : Z.Warmed39 s.vm) (eT : T.heap = h) (A : Arw Z h a k .char n f) {j : Int32} {i : Nat} (hj : ¬ j < 0) (hji : j.toNatClampNeg = i) (hi : i < n) {v : Int32} (hv : f i = .int v)
    {g : JFrame} (hg : g.method = m) {rest : List Value} (hs : g.stack = .int j :: .ref a :: rest) (hd : decode c.code g.pc = .ok (.caload, 1)) :
    ∀ target, Steps p.tables e below (T.setTop { g with pc := g.pc + 1, stack := .int v :: rest }) target → Steps p.tables e below (T.setTop g) target := by
  obtain ⟨cl, A, h1, h2, h3, h4, h5⟩ := A
  intro target kk
  exact X.caload hx (by rw [eT]; exact A.1) (State.isArrayOf_alike hZ.alike A.2.1) A.2.2 (own_in h2 hj hji hi) (by rw [hji, h4 i hi, hv]) hg hs hd target kk
theorem own_baload (X : Stand p l e R s m args below meth c T locs cells slots) (hx : p.tables.exec = Jvm.exec) (hZ : Z.Warmed39 s.vm) (eT : T.heap = h) (A : Arw Z h a k .byte n f) {j : Int32} {i : Nat} (hj : ¬ j < 0) (hji : j.toNatClampNeg = i) (hi : i < n) {v : Int32} (hv : f i = .int v)
    {g : JFrame} (hg : g.method = m) {rest : List Value} (hs : g.stack = .int j :: .ref a :: rest) (hd : decode c.code g.pc = .ok (.baload, 1)) :
    ∀ target, Steps p.tables e below (T.setTop { g with pc := g.pc + 1, stack := .int v :: rest }) target → Steps p.tables e below (T.setTop g) target := by
  obtain ⟨cl, A, h1, h2, h3, h4, h5⟩ := A
  intro target kk
  exact X.baloadBytes hx (by rw [eT]; exact A.1) (State.isArrayOf_alike hZ.alike A.2.1) A.2.2 (own_in h2 hj hji hi) (by rw [hji, h4 i hi, hv]) hg hs hd target kk
theorem Arw.toArv {vs : List Value} {dv : Value} {z : Int32} (F : Arw Z h a k ty n f) (hz : z.toInt = (n : Int)) (q : ∀ i, i < n → vs.getD i dv = f i) : Arv Z h a k ty z vs dv := by
  obtain ⟨c, A, h1, h2, h3, h4, h5⟩ := F
  obtain ⟨z0, zn⟩ := own_ix hz
  exact ⟨c, A, h1, h2.trans zn.symm, z0, fun i hi => by rw [h4 i (by omega), q i (by omega)], fun i hi => by rw [q i (by omega)]; exact h5 i (by omega)⟩
end Arrays
section Refs
variable {p : Program} {l : Launch} {e : Env} {R : Room} {s : State} {m : MethodId} {args : Array Value} {below : List Frame} {meth : Method} {c : Code} {T : State} {locs : List Loc} {cells slots : Nat} {Z : State} {a0 : Array Value} {h h' : Heap} {a b : Addr} {k : ClassId} {ty : FieldType} {n : Nat} {f : Nat → Value} {ws : List Addr}
/-- anewarray of a class's references -/
theorem own_newO (X : Stand p l e R s m args below meth c T locs cells slots) (hx : p.tables.exec = Jvm.exec) (hZ : Z.Warmed39 s.vm) {own C : String} {index : Nat} (hown : s.vm.findClass own = some m.cls) (w1 : (Cond.classLink own index C).before a0 Z = true) (w2 : (Cond.arrayOver (.object C)).before a0 Z = true)
    (eT : T.heap = h) {g : JFrame} (hg : g.method = m) (hd : decode c.code g.pc = .ok (.anewarray index, 3)) {n : Int32} {rest : List Value} (hs : g.stack = .int n :: rest) {N : Nat} (hn : ¬ n < 0) (hN : n.toNatClampNeg = N) {cap : Nat} (hcap : N ≤ cap) (hb : cap * 8 ≤ 536870912) (hc : cells + 1 ≤ R.cells) (hl : slots + cap ≤ R.slots) :
    ∃ T' h' cA, Stand p l e R s m args below meth c T' locs (cells + 1) (slots + cap) ∧ T'.heap = h' ∧ Ext h h' ∧ Arw Z h' h.size cA (.object C) N (fun _ => .null) ∧ Ovr Z cA C ∧
      ∀ target, Steps p.tables e below (T'.setTop { g with pc := g.pc + 3, stack := .ref h.size :: rest }) target → Steps p.tables e below (T.setTop g) target := by
  obtain ⟨T', h', cA, X', e', E', A', O, st⟩ := newR X hx hZ hown w1 w2 eT hg hd hs hn (cap := cap) (by omega) hb hc hl
  refine ⟨T', h', cA, X', e', E', ⟨_, A', rfl, (sz_new _ _ _).trans hN, by omega, fun i hi => ?_, fun i hi => ?_⟩, O, st⟩
  · subst hN
    simp [newA, hi, defaultValue]
  · rfl
/-- aastore of an object of a class that the array's components take -/
theorem own_aastore (X : Stand p l e R s m args below meth c T locs cells slots) (hx : p.tables.exec = Jvm.exec) (hZ : Z.Warmed39 s.vm) (eT : T.heap = h) {C : String} (A : Arw Z h a k ty n f) (hty : ty.isReference = true) {y : Addr} (hv : fits ty (.ref y) = true) (O : Ovr Z k C) (I : Ins Z h y C true) {j : Int32} {i : Nat} (hj : ¬ j < 0) (hji : j.toNatClampNeg = i) (hi : i < n)
    {g : JFrame} (hg : g.method = m) {rest : List Value} (hs : g.stack = .ref y :: .int j :: .ref a :: rest) (hd : decode c.code g.pc = .ok (.aastore, 1)) :
    ∃ T' h', Stand p l e R s m args below meth c T' (locs ++ [⟨a, j.toNatClampNeg⟩]) cells slots ∧ T'.heap = h' ∧ Wr h h' a j.toNatClampNeg (.ref y) ∧ Arw Z h' a k ty n (own_upd f i (.ref y)) ∧
      ∀ target, Steps p.tables e below (T'.setTop { g with pc := g.pc + 1, stack := rest }) target → Steps p.tables e below (T.setTop g) target := by
  obtain ⟨cl, A, h1, h2, h3, h4, h5⟩ := A
  obtain ⟨T', h', X', e', W, st⟩ := stR X hx hZ eT A (j := j) (own_in h2 hj hji hi) hty (Sto.ofV A h1 O I) hg hs hd
  exact ⟨T', h', X', e', W, own_set A h1 h2 h3 h4 h5 hv W hji hi, st⟩
/-- aastore of null -/
theorem own_aastoreN (X : Stand p l e R s m args below meth c T locs cells slots) (hx : p.tables.exec = Jvm.exec) (hZ : Z.Warmed39 s.vm) (eT : T.heap = h) (A : Arw Z h a k ty n f) (hty : ty.isReference = true) (hv : fits ty .null = true) {j : Int32} {i : Nat} (hj : ¬ j < 0) (hji : j.toNatClampNeg = i) (hi : i < n)
    {g : JFrame} (hg : g.method = m) {rest : List Value} (hs : g.stack = .null :: .int j :: .ref a :: rest) (hd : decode c.code g.pc = .ok (.aastore, 1)) :
    ∃ T' h', Stand p l e R s m args below meth c T' (locs ++ [⟨a, j.toNatClampNeg⟩]) cells slots ∧ T'.heap = h' ∧ Wr h h' a j.toNatClampNeg .null ∧ Arw Z h' a k ty n (own_upd f i .null) ∧
      ∀ target, Steps p.tables e below (T'.setTop { g with pc := g.pc + 1, stack := rest }) target → Steps p.tables e below (T.setTop g) target := by
  obtain ⟨cl, A, h1, h2, h3, h4, h5⟩ := A
  obtain ⟨T', h', X', e', W, st⟩ := stR X hx hZ eT A (j := j) (own_in h2 hj hji hi) hty (Or.inl rfl) hg hs hd
  exact ⟨T', h', X', e', W, own_set A h1 h2 h3 h4 h5 hv W hji hi, st⟩
end Refs
theorem own_plE {Z : State} {h : Heap} {a : Addr} {C : String} (F : Exa Z h a C) : ∃ c : Cell, h[a]? = some c ∧ c.vm.isStatics = false := by
  obtain ⟨c, _, h1, -, -, h4, -⟩ := F
  exact ⟨c, h1, h4⟩
theorem own_plA {Z : State} {h : Heap} {a : Addr} {k : ClassId} {ty : FieldType} {n : Nat} {f : Nat → Value} (F : Arw Z h a k ty n f) : ∃ c : Cell, h[a]? = some c ∧ c.vm.isStatics = false := by
  obtain ⟨c, A, -⟩ := F
  exact ⟨c, A.1, A.plain⟩
theorem own_sta_keepW {Z : State} {h h' : Heap} {ws : List Addr} {C n d : String} {v : Value} (F : Sta Z h C n d v) (K : Keep h h' ws) (q : ∀ w ∈ ws, ∃ c : Cell, h[w]? = some c ∧ c.vm.isStatics = false) : Sta Z h' C n d v := by
  obtain ⟨cf, i, k, f, st, cell, h1, h2, h3, h4, h5, h6, h7⟩ := F
  refine ⟨cf, i, k, f, st, cell, h1, h2, h3, h4, K.2.1 _ _ h5 (fun hm => ?_), h6, h7⟩
  obtain ⟨c, e1, e2⟩ := q st hm
  cases h5.symm.trans e1
  rw [e2] at h6
  cases h6
theorem own_selP {Z : State} {a0 : Array Value} {y : MethodName} {n : Nat} (wi : (Cond.instantiable y.cls n).before a0 Z = true) (wp : (Cond.privateMethod y).before a0 Z = true) (wm : (Cond.instanceMethod y).before a0 Z = true) (hy : y.cls ≠ "java/lang/invoke/MethodHandle" ∧ y.cls ≠ "java/lang/invoke/VarHandle") : (Cond.selects y.cls y y).before a0 Z = true := by
  obtain ⟨c, k, g1, g2, g3, g4, -⟩ := Cond.instantiable_spec wi
  refine selects_self_of_private g1 g2 ?_ (Cond.privateMethod_at wp) wm hy
  cases q : k.isInterface with
  | false => rfl
  | true => rw [q] at g4; simp at g4
def own_cu {α : Type} (f : Nat → α) (b : Nat) (x : α) : Nat → α := fun i => if i = b then x else f i
def own_gu {α : Type} (f : Nat → Nat → α) (i j : Nat) (x : α) : Nat → Nat → α := fun u v => if u = i ∧ v = j then x else f u v
section Grid2
variable {p : Program} {l : Launch} {e : Env} {R : Room} {s : State} {m : MethodId} {args : Array Value} {below : List Frame} {meth : Method} {c : Code} {T : State} {locs : List Loc} {cells slots : Nat} {Z : State} {a0 : Array Value} {h h' h'' : Heap} {a g0 n0 : Nat} {kA kB : ClassId} {ty : FieldType} {N M : Nat} {f : Nat → Nat → Value} {ws : List Addr}
def Grv (Z : State) (h : Heap) (g : Addr) (kA kB : ClassId) (ty : FieldType) (N M : Nat) (f : Nat → Nat → Value) : Prop :=
  Arw Z h g kA (.array ty) N (fun i => .ref (g + 1 + i)) ∧ ∀ i, i < N → Arw Z h (g + 1 + i) kB ty M (f i)
theorem Grv.lt (G : Grv Z h g0 kA kB ty N M f) : g0 < h.size := G.1.lt
theorem Grv.ext (G : Grv Z h g0 kA kB ty N M f) (E : Ext h h') : Grv Z h' g0 kA kB ty N M f := ⟨G.1.ext E, fun i hi => (G.2 i hi).ext E⟩
theorem Grv.off {sl : Nat} {v : Value} (G : Grv Z h g0 kA kB ty N M f) (W : Wr h h' a sl v) (q : a < g0 ∨ g0 + N < a) : Grv Z h' g0 kA kB ty N M f :=
  ⟨G.1.other W (show (g0 : Nat) ≠ a by omega), fun i hi => (G.2 i hi).other W (show (g0 + 1 + i : Nat) ≠ a by omega)⟩
theorem Grv.keep (G : Grv Z h g0 kA kB ty N M f) (K : Keep h h' ws) (q : ∀ w ∈ ws, (w : Nat) < g0 ∨ g0 + N < w) : Grv Z h' g0 kA kB ty N M f :=
  ⟨G.1.keep K (fun z => by have := q _ z; exact absurd this (show ¬ ((g0 : Nat) < g0 ∨ g0 + N < g0) by omega)), fun i hi => (G.2 i hi).keep K (fun z => by have := q _ z; exact absurd this (show ¬ ((g0 + 1 + i : Nat) < g0 ∨ g0 + N < g0 + 1 + i) by omega))⟩
theorem Grv.to {f' : Nat → Nat → Value} (G : Grv Z h g0 kA kB ty N M f) (q : ∀ i j, i < N → j < M → f' i j = f i j) : Grv Z h g0 kA kB ty N M f' :=
  ⟨G.1, fun i hi => (G.2 i hi).to fun j hj => q i j hi hj⟩
theorem own_grid2 (X : Stand p l e R s m args below meth c T locs cells slots) (hx : p.tables.exec = Jvm.exec) (hZ : Z.Warmed39 s.vm) {own C ad : String} {index : Nat} (hown : s.vm.findClass own = some m.cls) (hC : (FieldType.array ty).toString = C) (had : "[" ++ C = ad)
    (w1 : (Cond.classLink own index ad).before a0 Z = true) (w2 : (Cond.arrayOver (.array ty)).before a0 Z = true) (w3 : (Cond.arrayClass ty).before a0 Z = true) (eT : T.heap = h) {g : JFrame} (hg : g.method = m) (hd : decode c.code g.pc = .ok (.multianewarray index 2, 4)) {n k : Int32} {rest : List Value} (hs : g.stack = .int k :: .int n :: rest)
    (hn : n.toInt = N) (hk : k.toInt = M) {cap : Nat} (hcap : M ≤ cap) (hb : cap * 8 ≤ 536870912) (hb1 : N ≤ 1000) (hdf : fits ty (defaultValue ty) = true) (hdd : (defaultValue ty).isDefault = true) (hc : cells + (1 + N) ≤ R.cells) (hl : slots + (N + N * cap) ≤ R.slots) :
    ∃ (T' : State) (h' : Heap) (kA kB : ClassId), Stand p l e R s m args below meth c T' locs (cells + (1 + N)) (slots + (N + N * cap)) ∧ T'.heap = h' ∧ Ext h h' ∧ Grv Z h' h.size kA kB ty N M (fun _ _ => defaultValue ty) ∧
      ∀ target, Steps p.tables e below (T'.setTop { g with pc := g.pc + 4, stack := .ref h.size :: rest }) target → Steps p.tables e below (T.setTop g) target := by
  obtain ⟨hn0, hnN⟩ := own_ix hn
  obtain ⟨hk0, hkM⟩ := own_ix hk
  obtain ⟨T', h', cA, cB, X', e', E', A', O', -, rows, st⟩ := gridM X hx hZ hown hC had w1 w2 w3 eT hg hd hs hn0 hk0 hnN rfl (cap := cap) (by omega) hb hb1 hdf hdd hc hl
  refine ⟨T', h', cA, cB, X', e', E', ⟨Arw.ofArv A' hnN ?_, fun i hi => ?_⟩, st⟩
  · intro i hi
    simp [hi]
  · obtain ⟨A1, -⟩ := rows i (h.size + 1 + i) (by simp [hi])
    have hz := (back32 hk0).2
    refine ⟨_, A1, rfl, (sz_new _ _ _).trans hkM, by omega, fun j hj => ?_, fun j hj => hdf⟩
    subst hkM
    simp [newA, hj]
theorem own_gal (X : Stand p l e R s m args below meth c T locs cells slots) (hx : p.tables.exec = Jvm.exec) (hZ : Z.Warmed39 s.vm) (eT : T.heap = h) (G : Grv Z h g0 kA kB ty N M f) {i : Nat} {ii : Int32} (hii : ii.toInt = i) (hi : i < N)
    {g : JFrame} (hg : g.method = m) {rest : List Value} (hs : g.stack = .int ii :: .ref g0 :: rest) (hd : decode c.code g.pc = .ok (.aaload, 1)) :
    ∀ target, Steps p.tables e below (T.setTop { g with pc := g.pc + 1, stack := .ref (g0 + 1 + i) :: rest }) target → Steps p.tables e below (T.setTop g) target :=
  own_aaload X hx hZ eT G.1 rfl (own_ix hii).1 (own_ix hii).2 hi rfl hg hs hd
theorem own_gln (X : Stand p l e R s m args below meth c T locs cells slots) (hx : p.tables.exec = Jvm.exec) (hZ : Z.Warmed39 s.vm) (eT : T.heap = h) (G : Grv Z h g0 kA kB ty N M f) {i : Nat} (hi : i < N)
    {g : JFrame} (hg : g.method = m) {rest : List Value} (hs : g.stack = .ref (g0 + 1 + i) :: rest) (hd : decode c.code g.pc = .ok (.arraylength, 1)) :
    ∀ target, Steps p.tables e below (T.setTop { g with pc := g.pc + 1, stack := .int M.toInt32 :: rest }) target → Steps p.tables e below (T.setTop g) target :=
  own_alen X hx hZ eT (G.2 i hi) hg hs hd
theorem own_glal (X : Stand p l e R s m args below meth c T locs cells slots) (hx : p.tables.exec = Jvm.exec) (hZ : Z.Warmed39 s.vm) (eT : T.heap = h) (G : Grv Z h g0 kA kB .long N M f) {i j : Nat} {jj : Int32} (hi : i < N) (hjj : jj.toInt = j) (hj : j < M) {v : Int64} (hv : f i j = .long v)
    {g : JFrame} (hg : g.method = m) {rest : List Value} (hs : g.stack = .int jj :: .ref (g0 + 1 + i) :: rest) (hd : decode c.code g.pc = .ok (.laload, 1)) :
    ∀ target, Steps p.tables e below (T.setTop { g with pc := g.pc + 1, stack := .long v :: rest }) target → Steps p.tables e below (T.setTop g) target :=
  own_laload X hx hZ eT (G.2 i hi) (own_ix hjj).1 (own_ix hjj).2 hj hv hg hs hd
theorem own_gial (X : Stand p l e R s m args below meth c T locs cells slots) (hx : p.tables.exec = Jvm.exec) (hZ : Z.Warmed39 s.vm) (eT : T.heap = h) (G : Grv Z h g0 kA kB .int N M f) {i j : Nat} {jj : Int32} (hi : i < N) (hjj : jj.toInt = j) (hj : j < M) {v : Int32} (hv : f i j = .int v)
    {g : JFrame} (hg : g.method = m) {rest : List Value} (hs : g.stack = .int jj :: .ref (g0 + 1 + i) :: rest) (hd : decode c.code g.pc = .ok (.iaload, 1)) :
    ∀ target, Steps p.tables e below (T.setTop { g with pc := g.pc + 1, stack := .int v :: rest }) target → Steps p.tables e below (T.setTop g) target :=
  own_iaload X hx hZ eT (G.2 i hi) (own_ix hjj).1 (own_ix hjj).2 hj hv hg hs hd
theorem own_glas {F : Nat → Nat → Int64} (X : Stand p l e R s m args below meth c T locs cells slots) (hx : p.tables.exec = Jvm.exec) (hZ : Z.Warmed39 s.vm) (eT : T.heap = h) (G : Grv Z h g0 kA kB .long N M (fun u v => .long (F u v))) {i j : Nat} {jj : Int32} (hi : i < N) (hjj : jj.toInt = j) (hj : j < M)
    {g : JFrame} (hg : g.method = m) {x : Int64} {rest : List Value} (hs : g.stack = .long x :: .int jj :: .ref (g0 + 1 + i) :: rest) (hd : decode c.code g.pc = .ok (.lastore, 1)) :
    ∃ T' h', Stand p l e R s m args below meth c T' (locs ++ [⟨g0 + 1 + i, jj.toNatClampNeg⟩]) cells slots ∧ T'.heap = h' ∧ Wr h h' (g0 + 1 + i) jj.toNatClampNeg (.long x) ∧ Grv Z h' g0 kA kB .long N M (fun u v => .long (own_gu F i j x u v)) ∧
      ∀ target, Steps p.tables e below (T'.setTop { g with pc := g.pc + 1, stack := rest }) target → Steps p.tables e below (T.setTop g) target := by
  obtain ⟨T', h', X', e', W, A, st⟩ := own_lastore X hx hZ eT (G.2 i hi) (own_ix hjj).1 (own_ix hjj).2 hj hg hs hd
  refine ⟨T', h', X', e', W, ⟨G.1.other W (show (g0 : Nat) ≠ g0 + 1 + i by omega), fun u hu => ?_⟩, st⟩
  by_cases q : u = i
  · subst q
    refine A.to fun v hv => ?_
    by_cases q2 : v = j
    · subst q2
      simp [own_upd, own_gu]
    · simp [own_upd, own_gu, q2]
  · refine ((G.2 u hu).other W (show (g0 + 1 + u : Nat) ≠ g0 + 1 + i by omega)).to fun v hv => ?_
    simp [own_gu, q]
theorem own_gias {F : Nat → Nat → Int32} (X : Stand p l e R s m args below meth c T locs cells slots) (hx : p.tables.exec = Jvm.exec) (hZ : Z.Warmed39 s.vm) (eT : T.heap = h) (G : Grv Z h g0 kA kB .int N M (fun u v => .int (F u v))) {i j : Nat} {jj : Int32} (hi : i < N) (hjj : jj.toInt = j) (hj : j < M)
    {g : JFrame} (hg : g.method = m) {x : Int32} {rest : List Value} (hs : g.stack = .int x :: .int jj :: .ref (g0 + 1 + i) :: rest) (hd : decode c.code g.pc = .ok (.iastore, 1)) :
    ∃ T' h', Stand p l e R s m args below meth c T' (locs ++ [⟨g0 + 1 + i, jj.toNatClampNeg⟩]) cells slots ∧ T'.heap = h' ∧ Wr h h' (g0 + 1 + i) jj.toNatClampNeg (.int x) ∧ Grv Z h' g0 kA kB .int N M (fun u v => .int (own_gu F i j x u v)) ∧
      ∀ target, Steps p.tables e below (T'.setTop { g with pc := g.pc + 1, stack := rest }) target → Steps p.tables e below (T.setTop g) target := by
  obtain ⟨T', h', X', e', W, A, st⟩ := own_iastore X hx hZ eT (G.2 i hi) (own_ix hjj).1 (own_ix hjj).2 hj hg hs hd
  refine ⟨T', h', X', e', W, ⟨G.1.other W (show (g0 : Nat) ≠ g0 + 1 + i by omega), fun u hu => ?_⟩, st⟩
  by_cases q : u = i
  · subst q
    refine A.to fun v hv => ?_
    by_cases q2 : v = j
    · subst q2
      simp [own_upd, own_gu]
    · simp [own_upd, own_gu, q2]
  · refine ((G.2 u hu).other W (show (g0 + 1 + u : Nat) ≠ g0 + 1 + i by omega)).to fun v hv => ?_
    simp [own_gu, q]
/-- all that stood below n0 stands -/
def KpN (n0 : Nat) (h h' : Heap) : Prop := ∃ ws, Keep h h' ws ∧ ∀ w ∈ ws, n0 ≤ (w : Nat)
theorem KpN.refl (n0 : Nat) (h : Heap) : KpN n0 h h := ⟨[], Keep.refl h [], all0⟩
theorem KpN.size (K : KpN n0 h h') : h.size ≤ h'.size := by
  obtain ⟨_, K, -⟩ := K
  exact K.1
theorem KpN.ext (K : KpN n0 h h') (E : Ext h' h'') : KpN n0 h h'' := by
  obtain ⟨ws, K, q⟩ := K
  exact ⟨ws, K.ext E, q⟩
theorem KpN.call {ws' : List Addr} (K : KpN n0 h h') (K' : Keep h' h'' ws') (q' : ∀ w ∈ ws', n0 ≤ (w : Nat)) : KpN n0 h h'' := by
  obtain ⟨ws, K, q⟩ := K
  refine ⟨ws ++ ws', ?_, fun w hw => (List.mem_append.mp hw).elim (q w) (q' w)⟩
  have K1 : Keep h h' (ws ++ ws') := ⟨K.1, fun x c hx hn => K.2.1 x c hx (fun z => hn (List.mem_append.mpr (Or.inl z))), K.2.2⟩
  exact K1.trans K' (fun x hx => Or.inl (List.mem_append.mpr (Or.inr hx)))
theorem KpN.wr {sl : Nat} {v : Value} (K : KpN n0 h h') (W : Wr h' h'' a sl v) (q : n0 ≤ a) : KpN n0 h h'' := K.call (Keep.of_wr W) (allS q all0)
theorem KpN.trans (K : KpN n0 h h') (K' : KpN n0 h' h'') : KpN n0 h h'' := by
  obtain ⟨ws', K', q'⟩ := K'
  exact K.call K' q'
theorem own_kN {h0 : Heap} (K : Keep h0 h ws) (K' : KpN n0 h h') (q : h0.size ≤ n0) : Keep h0 h' ws := by
  obtain ⟨ws', K', q'⟩ := K'
  exact K.trans K' (fun x hx => Or.inr (Nat.le_trans q (q' x hx)))
theorem own_exN {C : String} (F : Exa Z h a C) (K : KpN n0 h h') : Exa Z h' a C := by
  obtain ⟨_, K, -⟩ := K
  exact F.keep K
theorem Arw.toC {α : Type} {k : ClassId} {n b : Nat} {g : Nat → α} {w : α → Value} {x : α} (A : Arw Z h a k ty n (own_upd (fun i => w (g i)) b (w x))) : Arw Z h a k ty n (fun i => w (own_cu g b x i)) := A.to fun i _ => by
  unfold own_upd own_cu
  by_cases q : i = b
  · rw [if_pos q, if_pos q]
  · rw [if_neg q, if_neg q]
theorem Arw.rfs {k : ClassId} {n i : Nat} {C : String} {f : Nat → Value} (A : Arw Z h a k (.object C) n f) (hi : i < n) : f i = .null ∨ ∃ x, f i = .ref x := by
  obtain ⟨_, _, _, _, _, _, h5⟩ := A
  have q := h5 i hi
  revert q
  cases f i <;> simp [fits]
end Grid2
def own_nlzI (x_ : Int32) : Int32 := (if (0 : Int32) < x_ then (if x_ < (65536 : Int32) then (if x_ < (256 : Int32) then (if x_ < (16 : Int32) then (if x_ < (4 : Int32) then ((31 : Int32) - ((x_.toUInt32 >>> ((1 : Int32) &&& 31).toUInt32).toInt32)) else ((29 : Int32) - ((((x_.toUInt32 >>> ((2 : Int32) &&& 31).toUInt32).toInt32).toUInt32 >>> ((1 : Int32) &&& 31).toUInt32).toInt32))) else (if ((x_.toUInt32 >>> ((4 : Int32) &&& 31).toUInt32).toInt32) < (4 : Int32) then ((27 : Int32) - ((((x_.toUInt32 >>> ((4 : Int32) &&& 31).toUInt32).toInt32).toUInt32 >>> ((1 : Int32) &&& 31).toUInt32).toInt32)) else ((25 : Int32) - ((((((x_.toUInt32 >>> ((4 : Int32) &&& 31).toUInt32).toInt32).toUInt32 >>> ((2 : Int32) &&& 31).toUInt32).toInt32).toUInt32 >>> ((1 : Int32) &&& 31).toUInt32).toInt32)))) else (if ((x_.toUInt32 >>> ((8 : Int32) &&& 31).toUInt32).toInt32) < (16 : Int32) then (if ((x_.toUInt32 >>> ((8 : Int32) &&& 31).toUInt32).toInt32) < (4 : Int32) then ((23 : Int32) - ((((x_.toUInt32 >>> ((8 : Int32) &&& 31).toUInt32).toInt32).toUInt32 >>> ((1 : Int32) &&& 31).toUInt32).toInt32)) else ((21 : Int32) - ((((((x_.toUInt32 >>> ((8 : Int32) &&& 31).toUInt32).toInt32).toUInt32 >>> ((2 : Int32) &&& 31).toUInt32).toInt32).toUInt32 >>> ((1 : Int32) &&& 31).toUInt32).toInt32))) else (if ((((x_.toUInt32 >>> ((8 : Int32) &&& 31).toUInt32).toInt32).toUInt32 >>> ((4 : Int32) &&& 31).toUInt32).toInt32) < (4 : Int32) then ((19 : Int32) - ((((((x_.toUInt32 >>> ((8 : Int32) &&& 31).toUInt32).toInt32).toUInt32 >>> ((4 : Int32) &&& 31).toUInt32).toInt32).toUInt32 >>> ((1 : Int32) &&& 31).toUInt32).toInt32)) else ((17 : Int32) - ((((((((x_.toUInt32 >>> ((8 : Int32) &&& 31).toUInt32).toInt32).toUInt32 >>> ((4 : Int32) &&& 31).toUInt32).toInt32).toUInt32 >>> ((2 : Int32) &&& 31).toUInt32).toInt32).toUInt32 >>> ((1 : Int32) &&& 31).toUInt32).toInt32))))) else (if ((x_.toUInt32 >>> ((16 : Int32) &&& 31).toUInt32).toInt32) < (256 : Int32) then (if ((x_.toUInt32 >>> ((16 : Int32) &&& 31).toUInt32).toInt32) < (16 : Int32) then (if ((x_.toUInt32 >>> ((16 : Int32) &&& 31).toUInt32).toInt32) < (4 : Int32) then ((15 : Int32) - ((((x_.toUInt32 >>> ((16 : Int32) &&& 31).toUInt32).toInt32).toUInt32 >>> ((1 : Int32) &&& 31).toUInt32).toInt32)) else ((13 : Int32) - ((((((x_.toUInt32 >>> ((16 : Int32) &&& 31).toUInt32).toInt32).toUInt32 >>> ((2 : Int32) &&& 31).toUInt32).toInt32).toUInt32 >>> ((1 : Int32) &&& 31).toUInt32).toInt32))) else (if ((((x_.toUInt32 >>> ((16 : Int32) &&& 31).toUInt32).toInt32).toUInt32 >>> ((4 : Int32) &&& 31).toUInt32).toInt32) < (4 : Int32) then ((11 : Int32) - ((((((x_.toUInt32 >>> ((16 : Int32) &&& 31).toUInt32).toInt32).toUInt32 >>> ((4 : Int32) &&& 31).toUInt32).toInt32).toUInt32 >>> ((1 : Int32) &&& 31).toUInt32).toInt32)) else ((9 : Int32) - ((((((((x_.toUInt32 >>> ((16 : Int32) &&& 31).toUInt32).toInt32).toUInt32 >>> ((4 : Int32) &&& 31).toUInt32).toInt32).toUInt32 >>> ((2 : Int32) &&& 31).toUInt32).toInt32).toUInt32 >>> ((1 : Int32) &&& 31).toUInt32).toInt32)))) else (if ((((x_.toUInt32 >>> ((16 : Int32) &&& 31).toUInt32).toInt32).toUInt32 >>> ((8 : Int32) &&& 31).toUInt32).toInt32) < (16 : Int32) then (if ((((x_.toUInt32 >>> ((16 : Int32) &&& 31).toUInt32).toInt32).toUInt32 >>> ((8 : Int32) &&& 31).toUInt32).toInt32) < (4 : Int32) then ((7 : Int32) - ((((((x_.toUInt32 >>> ((16 : Int32) &&& 31).toUInt32).toInt32).toUInt32 >>> ((8 : Int32) &&& 31).toUInt32).toInt32).toUInt32 >>> ((1 : Int32) &&& 31).toUInt32).toInt32)) else ((5 : Int32) - ((((((((x_.toUInt32 >>> ((16 : Int32) &&& 31).toUInt32).toInt32).toUInt32 >>> ((8 : Int32) &&& 31).toUInt32).toInt32).toUInt32 >>> ((2 : Int32) &&& 31).toUInt32).toInt32).toUInt32 >>> ((1 : Int32) &&& 31).toUInt32).toInt32))) else (if ((((((x_.toUInt32 >>> ((16 : Int32) &&& 31).toUInt32).toInt32).toUInt32 >>> ((8 : Int32) &&& 31).toUInt32).toInt32).toUInt32 >>> ((4 : Int32) &&& 31).toUInt32).toInt32) < (4 : Int32) then ((3 : Int32) - ((((((((x_.toUInt32 >>> ((16 : Int32) &&& 31).toUInt32).toInt32).toUInt32 >>> ((8 : Int32) &&& 31).toUInt32).toInt32).toUInt32 >>> ((4 : Int32) &&& 31).toUInt32).toInt32).toUInt32 >>> ((1 : Int32) &&& 31).toUInt32).toInt32)) else ((1 : Int32) - ((((((((((x_.toUInt32 >>> ((16 : Int32) &&& 31).toUInt32).toInt32).toUInt32 >>> ((8 : Int32) &&& 31).toUInt32).toInt32).toUInt32 >>> ((4 : Int32) &&& 31).toUInt32).toInt32).toUInt32 >>> ((2 : Int32) &&& 31).toUInt32).toInt32).toUInt32 >>> ((1 : Int32) &&& 31).toUInt32).toInt32)))))) else (if x_ = (0 : Int32) then (32 : Int32) else (0 : Int32)))
theorem ef_rm9 (m : MethodId) (x_ : Int32) : entryFrame m #[(.int x_)] 2 = mkF m 0 #[.val (.int x_), .unset] [] := by first | (simp [entryFrame, mkF, argsToLocals, Value.category]; done) | rfl
def Qrm9 (Z : State) (x_ : Int32) (h0 : Heap) (n0 : Nat) (v_ : Option Value) (h_ : Heap) (L_ : List Loc) : Prop := v_ = some (.int (own_nlzI x_)) ∧ L_ = [] ∧ h_ = h0
theorem pn_java_lang_Integer : plainName "java/lang/Integer" = true := by first | (simp [plainName, overriddenIn]; done) | decide +kernel
theorem d9_0 : decode jdk_33_method_47_code 0 = .ok (.iload_n 0, 1) := by decide +kernel
theorem d9_1 : decode jdk_33_method_47_code 1 = .ok (.ifCond .gt 14, 3) := by decide +kernel
theorem d9_15 : decode jdk_33_method_47_code 15 = .ok (.bipush 31, 2) := by decide +kernel
theorem d9_17 : decode jdk_33_method_47_code 17 = .ok (.istore_n 1, 1) := by decide +kernel
theorem d9_18 : decode jdk_33_method_47_code 18 = .ok (.iload_n 0, 1) := by decide +kernel
theorem d9_19 : decode jdk_33_method_47_code 19 = .ok (.ldc_w 264, 3) := by decide +kernel
theorem d9_22 : decode jdk_33_method_47_code 22 = .ok (.if_icmp .lt 11, 3) := by decide +kernel
theorem d9_33 : decode jdk_33_method_47_code 33 = .ok (.iload_n 0, 1) := by decide +kernel
theorem d9_34 : decode jdk_33_method_47_code 34 = .ok (.sipush 256, 3) := by decide +kernel
theorem d9_37 : decode jdk_33_method_47_code 37 = .ok (.if_icmp .lt 11, 3) := by decide +kernel
theorem d9_48 : decode jdk_33_method_47_code 48 = .ok (.iload_n 0, 1) := by decide +kernel
theorem d9_49 : decode jdk_33_method_47_code 49 = .ok (.bipush 16, 2) := by decide +kernel
theorem d9_51 : decode jdk_33_method_47_code 51 = .ok (.if_icmp .lt 10, 3) := by decide +kernel
theorem d9_61 : decode jdk_33_method_47_code 61 = .ok (.iload_n 0, 1) := by decide +kernel
theorem d9_62 : decode jdk_33_method_47_code 62 = .ok (.iconst 4, 1) := by decide +kernel
theorem d9_63 : decode jdk_33_method_47_code 63 = .ok (.if_icmp .lt 10, 3) := by decide +kernel
theorem d9_73 : decode jdk_33_method_47_code 73 = .ok (.iload_n 1, 1) := by decide +kernel
theorem d9_74 : decode jdk_33_method_47_code 74 = .ok (.iload_n 0, 1) := by decide +kernel
theorem d9_75 : decode jdk_33_method_47_code 75 = .ok (.iconst 1, 1) := by decide +kernel
theorem d9_76 : decode jdk_33_method_47_code 76 = .ok (.iushr, 1) := by decide +kernel
theorem d9_77 : decode jdk_33_method_47_code 77 = .ok (.isub, 1) := by decide +kernel
theorem d9_78 : decode jdk_33_method_47_code 78 = .ok (.ireturn, 1) := by decide +kernel
theorem d9_66 : decode jdk_33_method_47_code 66 = .ok (.iinc 1 (-2), 3) := by decide +kernel
theorem d9_69 : decode jdk_33_method_47_code 69 = .ok (.iload_n 0, 1) := by decide +kernel
theorem d9_70 : decode jdk_33_method_47_code 70 = .ok (.iconst 2, 1) := by decide +kernel
theorem d9_71 : decode jdk_33_method_47_code 71 = .ok (.iushr, 1) := by decide +kernel
theorem d9_72 : decode jdk_33_method_47_code 72 = .ok (.istore_n 0, 1) := by decide +kernel
theorem d9_54 : decode jdk_33_method_47_code 54 = .ok (.iinc 1 (-4), 3) := by decide +kernel
theorem d9_57 : decode jdk_33_method_47_code 57 = .ok (.iload_n 0, 1) := by decide +kernel
theorem d9_58 : decode jdk_33_method_47_code 58 = .ok (.iconst 4, 1) := by decide +kernel
theorem d9_59 : decode jdk_33_method_47_code 59 = .ok (.iushr, 1) := by decide +kernel
theorem d9_60 : decode jdk_33_method_47_code 60 = .ok (.istore_n 0, 1) := by decide +kernel
theorem d9_40 : decode jdk_33_method_47_code 40 = .ok (.iinc 1 (-8), 3) := by decide +kernel
theorem d9_43 : decode jdk_33_method_47_code 43 = .ok (.iload_n 0, 1) := by decide +kernel
theorem d9_44 : decode jdk_33_method_47_code 44 = .ok (.bipush 8, 2) := by decide +kernel
theorem d9_46 : decode jdk_33_method_47_code 46 = .ok (.iushr, 1) := by decide +kernel
theorem d9_47 : decode jdk_33_method_47_code 47 = .ok (.istore_n 0, 1) := by decide +kernel
theorem d9_25 : decode jdk_33_method_47_code 25 = .ok (.iinc 1 (-16), 3) := by decide +kernel
theorem d9_28 : decode jdk_33_method_47_code 28 = .ok (.iload_n 0, 1) := by decide +kernel
theorem d9_29 : decode jdk_33_method_47_code 29 = .ok (.bipush 16, 2) := by decide +kernel
theorem d9_31 : decode jdk_33_method_47_code 31 = .ok (.iushr, 1) := by decide +kernel
theorem d9_32 : decode jdk_33_method_47_code 32 = .ok (.istore_n 0, 1) := by decide +kernel
theorem d9_4 : decode jdk_33_method_47_code 4 = .ok (.iload_n 0, 1) := by decide +kernel
theorem d9_5 : decode jdk_33_method_47_code 5 = .ok (.ifCond .ne 8, 3) := by decide +kernel
theorem d9_8 : decode jdk_33_method_47_code 8 = .ok (.bipush 32, 2) := by decide +kernel
theorem d9_10 : decode jdk_33_method_47_code 10 = .ok (.goto 4, 3) := by decide +kernel
theorem d9_14 : decode jdk_33_method_47_code 14 = .ok (.ireturn, 1) := by decide +kernel
theorem d9_13 : decode jdk_33_method_47_code 13 = .ok (.iconst 0, 1) := by decide +kernel
set_option maxRecDepth 65536 in
set_option maxHeartbeats 40000000 in
theorem rm9 (l : Launch) (Z : State) (a0 : Array Value) (hw : ∀ d ∈ tables_1, d.before a0 Z = true) (ws : List Jvm.Cond) (x_ : Int32) (h0 : Heap) (n0 : Nat) (Z0 : n0 ≤ h0.size) :
    MetFree l (⟨"java/lang/Integer", "numberOfLeadingZeros", "(I)I"⟩ : MethodName) (head1 (Jvm.Cond.code (⟨"java/lang/Integer", "numberOfLeadingZeros", "(I)I"⟩ : MethodName) jdk_33_method_47_code 2 (some .int) :: ws) ({ frames := 0, cells := 0, slots := 0, locals := 0 } : Room)) (fun as_ U_ => as_ = #[(.int x_)] ∧ Z.Warmed39 U_.vm ∧ U_.heap = h0) (fun _ _ _ _ _ => True) (fun _ U_ o_ V_ => ∃ v_ L_, o_ = .returned v_ ∧ Qrm9 Z x_ h0 n0 v_ V_.heap L_ ∧ FrameEnd U_ o_ V_ L_ ({ frames := 0, cells := 0, slots := 0, locals := 0 } : Room).cells ({ frames := 0, cells := 0, slots := 0, locals := 0 } : Room).slots) := by
  refine MetFree.of_bodySF (plainFor_of_name pn_java_lang_Integer) hisR ?_
  intro p e s m args below meth c s₁ Bd hml0 hP hK
  obtain ⟨rfl, hZ, hh⟩ := hP
  have hx := Bd.exec
  have hby := Bd.bytes
  have hlk : meth.locks = false := BodyLoose.notSynchronized Bd
  have hret := Bd.returns
  have hml : c.maxLocals = 2 := hml0
  have hown : s.vm.findClass "java/lang/Integer" = some m.cls := findClass_of_methodNamed Bd.named
  have hnm := (name_of_methodNamed Bd.named Bd.method).1
  have X0 : Stand p l e ({ frames := 0, cells := 0, slots := 0, locals := 0 } : Room) s m #[(.int x_)] below meth c s₁ [] 0 0 := Stand.of_body Bd
  have e0 : s₁.heap = h0 := by rw [← hh, Bd.state]; rfl
  have N0 := Fr.nil n0
  show Goes p e below (Fin_ s (Qrm9 Z x_ h0 n0) ({ frames := 0, cells := 0, slots := 0, locals := 0 } : Room).cells ({ frames := 0, cells := 0, slots := 0, locals := 0 } : Room).slots) (s₁.setTop (entryFrame m #[(.int x_)] 2))
  rw [ef_rm9 m x_]
  refine gILN X0 hx hby d9_0 rfl ?_
  by_cases hc1 : (0 : Int32) < x_
  · skip
    refine Goes.via (fun _ kk_ => XS.ifYes X0.here hx rfl (pc0 := 1) (pc' := 15) rfl (hb hby d9_1) rfl ((if0 _ _).trans (tlt hc1).2.2.1) (by decide) (by decide) kk_) ?_
    show Goes p e below _ (s₁.setTop (mkF m 15 #[vi x_, .unset] []))
    refine gBI (z := 31) X0 hx hby d9_15 rfl ?_
    refine Goes.via (fun _ kk_ => XS.istoreN X0.here hx rfl (hb hby d9_17) rfl (l' := #[vi x_, vi (31 : Int32)]) rfl kk_) ?_
    show Goes p e below _ (s₁.setTop (mkF m 18 #[vi x_, vi (31 : Int32)] []))
    refine gILN X0 hx hby d9_18 rfl ?_
    refine Goes.via (X0.ldcwInt hx hown (mvT hZ (own_w hw 75 rfl)) (g := (mkF m 19 #[vi x_, vi (31 : Int32)] [(.int x_)])) rfl (hb hby d9_19)) ?_
    show Goes p e below _ (s₁.setTop (mkF m 22 #[vi x_, vi (31 : Int32)] [(.int (65536 : Int32)), (.int x_)]))
    by_cases hc22 : x_ < (65536 : Int32)
    · skip
      refine Goes.via (fun _ kk_ => XS.icmpYes X0.here hx rfl (pc0 := 22) (pc' := 33) rfl (hb hby d9_22) rfl (tlt hc22).1 (by decide) (by decide) kk_) ?_
      show Goes p e below _ (s₁.setTop (mkF m 33 #[vi x_, vi (31 : Int32)] []))
      refine gILN X0 hx hby d9_33 rfl ?_
      refine gSI (z := 256) X0 hx hby d9_34 rfl ?_
      by_cases hc37 : x_ < (256 : Int32)
      · skip
        refine Goes.via (fun _ kk_ => XS.icmpYes X0.here hx rfl (pc0 := 37) (pc' := 48) rfl (hb hby d9_37) rfl (tlt hc37).1 (by decide) (by decide) kk_) ?_
        show Goes p e below _ (s₁.setTop (mkF m 48 #[vi x_, vi (31 : Int32)] []))
        refine gILN X0 hx hby d9_48 rfl ?_
        refine gBI (z := 16) X0 hx hby d9_49 rfl ?_
        by_cases hc51 : x_ < (16 : Int32)
        · skip
          refine Goes.via (fun _ kk_ => XS.icmpYes X0.here hx rfl (pc0 := 51) (pc' := 61) rfl (hb hby d9_51) rfl (tlt hc51).1 (by decide) (by decide) kk_) ?_
          show Goes p e below _ (s₁.setTop (mkF m 61 #[vi x_, vi (31 : Int32)] []))
          refine gILN X0 hx hby d9_61 rfl ?_
          refine gIC (z := 4) X0 hx hby d9_62 rfl ?_
          by_cases hc63 : x_ < (4 : Int32)
          · skip
            refine Goes.via (fun _ kk_ => XS.icmpYes X0.here hx rfl (pc0 := 63) (pc' := 73) rfl (hb hby d9_63) rfl (tlt hc63).1 (by decide) (by decide) kk_) ?_
            show Goes p e below _ (s₁.setTop (mkF m 73 #[vi x_, vi (31 : Int32)] []))
            refine gILN X0 hx hby d9_73 rfl ?_
            refine gILN X0 hx hby d9_74 rfl ?_
            refine gIC (z := 1) X0 hx hby d9_75 rfl ?_
            refine Goes.via (fun _ kk_ => XS.iushr X0.here hx rfl (hb hby d9_76) rfl kk_) ?_
            show Goes p e below _ (s₁.setTop (mkF m 77 #[vi x_, vi (31 : Int32)] [(.int ((x_.toUInt32 >>> ((1 : Int32) &&& 31).toUInt32).toInt32)), (.int (31 : Int32))]))
            refine Goes.via (fun _ kk_ => XS.isub X0.here hx rfl (hb hby d9_77) rfl kk_) ?_
            show Goes p e below _ (s₁.setTop (mkF m 78 #[vi x_, vi (31 : Int32)] [(.int ((31 : Int32) - ((x_.toUInt32 >>> ((1 : Int32) &&& 31).toUInt32).toInt32)))]))
            exact own_finI X0 hx hlk hret (hb hby d9_78) (by rw [e0]; exact ⟨(by rw [own_nlzI, if_pos hc1, if_pos hc22, if_pos hc37, if_pos hc51, if_pos hc63]; first | done | rfl | exact own_nc _), rfl, rfl⟩) (by first | decide | omega | (dsimp only; omega)) (by first | decide | omega | (dsimp only; omega))
          · skip
            refine Goes.via (fun _ kk_ => XS.icmpNo X0.here hx rfl (hb hby d9_63) rfl (flt hc63).1 kk_) ?_
            show Goes p e below _ (s₁.setTop (mkF m 66 #[vi x_, vi (31 : Int32)] []))
            refine Goes.via (fun _ kk_ => XS.iinc X0.here hx rfl (hb hby d9_66) rfl (l' := #[vi x_, vi ((31 : Int32) + (-2 : Int32))]) rfl kk_) ?_
            show Goes p e below _ (s₁.setTop (mkF m 69 #[vi x_, vi ((31 : Int32) + (-2 : Int32))] []))
            rw [show ((31 : Int32) + (-2 : Int32)) = (29 : Int32) from by decide]
            show Goes p e below _ (s₁.setTop (mkF m 69 #[vi x_, vi (29 : Int32)] []))
            refine gILN X0 hx hby d9_69 rfl ?_
            refine gIC (z := 2) X0 hx hby d9_70 rfl ?_
            refine Goes.via (fun _ kk_ => XS.iushr X0.here hx rfl (hb hby d9_71) rfl kk_) ?_
            show Goes p e below _ (s₁.setTop (mkF m 72 #[vi x_, vi (29 : Int32)] [(.int ((x_.toUInt32 >>> ((2 : Int32) &&& 31).toUInt32).toInt32))]))
            refine Goes.via (fun _ kk_ => XS.istoreN X0.here hx rfl (hb hby d9_72) rfl (l' := #[vi ((x_.toUInt32 >>> ((2 : Int32) &&& 31).toUInt32).toInt32), vi (29 : Int32)]) rfl kk_) ?_
            show Goes p e below _ (s₁.setTop (mkF m 73 #[vi ((x_.toUInt32 >>> ((2 : Int32) &&& 31).toUInt32).toInt32), vi (29 : Int32)] []))
            refine gILN X0 hx hby d9_73 rfl ?_
            refine gILN X0 hx hby d9_74 rfl ?_
            refine gIC (z := 1) X0 hx hby d9_75 rfl ?_
            refine Goes.via (fun _ kk_ => XS.iushr X0.here hx rfl (hb hby d9_76) rfl kk_) ?_
            show Goes p e below _ (s₁.setTop (mkF m 77 #[vi ((x_.toUInt32 >>> ((2 : Int32) &&& 31).toUInt32).toInt32), vi (29 : Int32)] [(.int ((((x_.toUInt32 >>> ((2 : Int32) &&& 31).toUInt32).toInt32).toUInt32 >>> ((1 : Int32) &&& 31).toUInt32).toInt32)), (.int (29 : Int32))]))
            refine Goes.via (fun _ kk_ => XS.isub X0.here hx rfl (hb hby d9_77) rfl kk_) ?_
            show Goes p e below _ (s₁.setTop (mkF m 78 #[vi ((x_.toUInt32 >>> ((2 : Int32) &&& 31).toUInt32).toInt32), vi (29 : Int32)] [(.int ((29 : Int32) - ((((x_.toUInt32 >>> ((2 : Int32) &&& 31).toUInt32).toInt32).toUInt32 >>> ((1 : Int32) &&& 31).toUInt32).toInt32)))]))
            exact own_finI X0 hx hlk hret (hb hby d9_78) (by rw [e0]; exact ⟨(by rw [own_nlzI, if_pos hc1, if_pos hc22, if_pos hc37, if_pos hc51, if_neg hc63]; first | done | rfl | exact own_nc _), rfl, rfl⟩) (by first | decide | omega | (dsimp only; omega)) (by first | decide | omega | (dsimp only; omega))
        · skip
          refine Goes.via (fun _ kk_ => XS.icmpNo X0.here hx rfl (hb hby d9_51) rfl (flt hc51).1 kk_) ?_
          show Goes p e below _ (s₁.setTop (mkF m 54 #[vi x_, vi (31 : Int32)] []))
          refine Goes.via (fun _ kk_ => XS.iinc X0.here hx rfl (hb hby d9_54) rfl (l' := #[vi x_, vi ((31 : Int32) + (-4 : Int32))]) rfl kk_) ?_
          show Goes p e below _ (s₁.setTop (mkF m 57 #[vi x_, vi ((31 : Int32) + (-4 : Int32))] []))
          rw [show ((31 : Int32) + (-4 : Int32)) = (27 : Int32) from by decide]
          show Goes p e below _ (s₁.setTop (mkF m 57 #[vi x_, vi (27 : Int32)] []))
          refine gILN X0 hx hby d9_57 rfl ?_
          refine gIC (z := 4) X0 hx hby d9_58 rfl ?_
          refine Goes.via (fun _ kk_ => XS.iushr X0.here hx rfl (hb hby d9_59) rfl kk_) ?_
          show Goes p e below _ (s₁.setTop (mkF m 60 #[vi x_, vi (27 : Int32)] [(.int ((x_.toUInt32 >>> ((4 : Int32) &&& 31).toUInt32).toInt32))]))
          refine Goes.via (fun _ kk_ => XS.istoreN X0.here hx rfl (hb hby d9_60) rfl (l' := #[vi ((x_.toUInt32 >>> ((4 : Int32) &&& 31).toUInt32).toInt32), vi (27 : Int32)]) rfl kk_) ?_
          show Goes p e below _ (s₁.setTop (mkF m 61 #[vi ((x_.toUInt32 >>> ((4 : Int32) &&& 31).toUInt32).toInt32), vi (27 : Int32)] []))
          refine gILN X0 hx hby d9_61 rfl ?_
          refine gIC (z := 4) X0 hx hby d9_62 rfl ?_
          by_cases hc63 : ((x_.toUInt32 >>> ((4 : Int32) &&& 31).toUInt32).toInt32) < (4 : Int32)
          · skip
            refine Goes.via (fun _ kk_ => XS.icmpYes X0.here hx rfl (pc0 := 63) (pc' := 73) rfl (hb hby d9_63) rfl (tlt hc63).1 (by decide) (by decide) kk_) ?_
            show Goes p e below _ (s₁.setTop (mkF m 73 #[vi ((x_.toUInt32 >>> ((4 : Int32) &&& 31).toUInt32).toInt32), vi (27 : Int32)] []))
            refine gILN X0 hx hby d9_73 rfl ?_
            refine gILN X0 hx hby d9_74 rfl ?_
            refine gIC (z := 1) X0 hx hby d9_75 rfl ?_
            refine Goes.via (fun _ kk_ => XS.iushr X0.here hx rfl (hb hby d9_76) rfl kk_) ?_
            show Goes p e below _ (s₁.setTop (mkF m 77 #[vi ((x_.toUInt32 >>> ((4 : Int32) &&& 31).toUInt32).toInt32), vi (27 : Int32)] [(.int ((((x_.toUInt32 >>> ((4 : Int32) &&& 31).toUInt32).toInt32).toUInt32 >>> ((1 : Int32) &&& 31).toUInt32).toInt32)), (.int (27 : Int32))]))
            refine Goes.via (fun _ kk_ => XS.isub X0.here hx rfl (hb hby d9_77) rfl kk_) ?_
            show Goes p e below _ (s₁.setTop (mkF m 78 #[vi ((x_.toUInt32 >>> ((4 : Int32) &&& 31).toUInt32).toInt32), vi (27 : Int32)] [(.int ((27 : Int32) - ((((x_.toUInt32 >>> ((4 : Int32) &&& 31).toUInt32).toInt32).toUInt32 >>> ((1 : Int32) &&& 31).toUInt32).toInt32)))]))
            exact own_finI X0 hx hlk hret (hb hby d9_78) (by rw [e0]; exact ⟨(by rw [own_nlzI, if_pos hc1, if_pos hc22, if_pos hc37, if_neg hc51, if_pos hc63]; first | done | rfl | exact own_nc _), rfl, rfl⟩) (by first | decide | omega | (dsimp only; omega)) (by first | decide | omega | (dsimp only; omega))
          · skip
            refine Goes.via (fun _ kk_ => XS.icmpNo X0.here hx rfl (hb hby d9_63) rfl (flt hc63).1 kk_) ?_
            show Goes p e below _ (s₁.setTop (mkF m 66 #[vi ((x_.toUInt32 >>> ((4 : Int32) &&& 31).toUInt32).toInt32), vi (27 : Int32)] []))
            refine Goes.via (fun _ kk_ => XS.iinc X0.here hx rfl (hb hby d9_66) rfl (l' := #[vi ((x_.toUInt32 >>> ((4 : Int32) &&& 31).toUInt32).toInt32), vi ((27 : Int32) + (-2 : Int32))]) rfl kk_) ?_
            show Goes p e below _ (s₁.setTop (mkF m 69 #[vi ((x_.toUInt32 >>> ((4 : Int32) &&& 31).toUInt32).toInt32), vi ((27 : Int32) + (-2 : Int32))] []))
            rw [show ((27 : Int32) + (-2 : Int32)) = (25 : Int32) from by decide]
            show Goes p e below _ (s₁.setTop (mkF m 69 #[vi ((x_.toUInt32 >>> ((4 : Int32) &&& 31).toUInt32).toInt32), vi (25 : Int32)] []))
            refine gILN X0 hx hby d9_69 rfl ?_
            refine gIC (z := 2) X0 hx hby d9_70 rfl ?_
            refine Goes.via (fun _ kk_ => XS.iushr X0.here hx rfl (hb hby d9_71) rfl kk_) ?_
            show Goes p e below _ (s₁.setTop (mkF m 72 #[vi ((x_.toUInt32 >>> ((4 : Int32) &&& 31).toUInt32).toInt32), vi (25 : Int32)] [(.int ((((x_.toUInt32 >>> ((4 : Int32) &&& 31).toUInt32).toInt32).toUInt32 >>> ((2 : Int32) &&& 31).toUInt32).toInt32))]))
            refine Goes.via (fun _ kk_ => XS.istoreN X0.here hx rfl (hb hby d9_72) rfl (l' := #[vi ((((x_.toUInt32 >>> ((4 : Int32) &&& 31).toUInt32).toInt32).toUInt32 >>> ((2 : Int32) &&& 31).toUInt32).toInt32), vi (25 : Int32)]) rfl kk_) ?_
            show Goes p e below _ (s₁.setTop (mkF m 73 #[vi ((((x_.toUInt32 >>> ((4 : Int32) &&& 31).toUInt32).toInt32).toUInt32 >>> ((2 : Int32) &&& 31).toUInt32).toInt32), vi (25 : Int32)] []))
            refine gILN X0 hx hby d9_73 rfl ?_
            refine gILN X0 hx hby d9_74 rfl ?_
            refine gIC (z := 1) X0 hx hby d9_75 rfl ?_
            refine Goes.via (fun _ kk_ => XS.iushr X0.here hx rfl (hb hby d9_76) rfl kk_) ?_
            show Goes p e below _ (s₁.setTop (mkF m 77 #[vi ((((x_.toUInt32 >>> ((4 : Int32) &&& 31).toUInt32).toInt32).toUInt32 >>> ((2 : Int32) &&& 31).toUInt32).toInt32), vi (25 : Int32)] [(.int ((((((x_.toUInt32 >>> ((4 : Int32) &&& 31).toUInt32).toInt32).toUInt32 >>> ((2 : Int32) &&& 31).toUInt32).toInt32).toUInt32 >>> ((1 : Int32) &&& 31).toUInt32).toInt32)), (.int (25 : Int32))]))
            refine Goes.via (fun _ kk_ => XS.isub X0.here hx rfl (hb hby d9_77) rfl kk_) ?_
            show Goes p e below _ (s₁.setTop (mkF m 78 #[vi ((((x_.toUInt32 >>> ((4 : Int32) &&& 31).toUInt32).toInt32).toUInt32 >>> ((2 : Int32) &&& 31).toUInt32).toInt32), vi (25 : Int32)] [(.int ((25 : Int32) - ((((((x_.toUInt32 >>> ((4 : Int32) &&& 31).toUInt32).toInt32).toUInt32 >>> ((2 : Int32) &&& 31).toUInt32).toInt32).toUInt32 >>> ((1 : Int32) &&& 31).toUInt32).toInt32)))]))
            exact own_finI X0 hx hlk hret (hb hby d9_78) (by rw [e0]; exact ⟨(by rw [own_nlzI, if_pos hc1, if_pos hc22, if_pos hc37, if_neg hc51, if_neg hc63]; first | done | rfl | exact own_nc _), rfl, rfl⟩) (by first | decide | omega | (dsimp only; omega)) (by first | decide | omega | (dsimp only; omega))
      · skip
        refine Goes.via (fun _ kk_ => XS.icmpNo X0.here hx rfl (hb hby d9_37) rfl (flt hc37).1 kk_) ?_
        show Goes p e below _ (s₁.setTop (mkF m 40 #[vi x_, vi (31 : Int32)] []))
        refine Goes.via (fun _ kk_ => XS.iinc X0.here hx rfl (hb hby d9_40) rfl (l' := #[vi x_, vi ((31 : Int32) + (-8 : Int32))]) rfl kk_) ?_
        show Goes p e below _ (s₁.setTop (mkF m 43 #[vi x_, vi ((31 : Int32) + (-8 : Int32))] []))
        rw [show ((31 : Int32) + (-8 : Int32)) = (23 : Int32) from by decide]
        show Goes p e below _ (s₁.setTop (mkF m 43 #[vi x_, vi (23 : Int32)] []))
        refine gILN X0 hx hby d9_43 rfl ?_
        refine gBI (z := 8) X0 hx hby d9_44 rfl ?_
        refine Goes.via (fun _ kk_ => XS.iushr X0.here hx rfl (hb hby d9_46) rfl kk_) ?_
        show Goes p e below _ (s₁.setTop (mkF m 47 #[vi x_, vi (23 : Int32)] [(.int ((x_.toUInt32 >>> ((8 : Int32) &&& 31).toUInt32).toInt32))]))
        refine Goes.via (fun _ kk_ => XS.istoreN X0.here hx rfl (hb hby d9_47) rfl (l' := #[vi ((x_.toUInt32 >>> ((8 : Int32) &&& 31).toUInt32).toInt32), vi (23 : Int32)]) rfl kk_) ?_
        show Goes p e below _ (s₁.setTop (mkF m 48 #[vi ((x_.toUInt32 >>> ((8 : Int32) &&& 31).toUInt32).toInt32), vi (23 : Int32)] []))
        refine gILN X0 hx hby d9_48 rfl ?_
        refine gBI (z := 16) X0 hx hby d9_49 rfl ?_
        by_cases hc51 : ((x_.toUInt32 >>> ((8 : Int32) &&& 31).toUInt32).toInt32) < (16 : Int32)
        · skip
          refine Goes.via (fun _ kk_ => XS.icmpYes X0.here hx rfl (pc0 := 51) (pc' := 61) rfl (hb hby d9_51) rfl (tlt hc51).1 (by decide) (by decide) kk_) ?_
          show Goes p e below _ (s₁.setTop (mkF m 61 #[vi ((x_.toUInt32 >>> ((8 : Int32) &&& 31).toUInt32).toInt32), vi (23 : Int32)] []))
          refine gILN X0 hx hby d9_61 rfl ?_
          refine gIC (z := 4) X0 hx hby d9_62 rfl ?_
          by_cases hc63 : ((x_.toUInt32 >>> ((8 : Int32) &&& 31).toUInt32).toInt32) < (4 : Int32)
          · skip
            refine Goes.via (fun _ kk_ => XS.icmpYes X0.here hx rfl (pc0 := 63) (pc' := 73) rfl (hb hby d9_63) rfl (tlt hc63).1 (by decide) (by decide) kk_) ?_
            show Goes p e below _ (s₁.setTop (mkF m 73 #[vi ((x_.toUInt32 >>> ((8 : Int32) &&& 31).toUInt32).toInt32), vi (23 : Int32)] []))
            refine gILN X0 hx hby d9_73 rfl ?_
            refine gILN X0 hx hby d9_74 rfl ?_
            refine gIC (z := 1) X0 hx hby d9_75 rfl ?_
            refine Goes.via (fun _ kk_ => XS.iushr X0.here hx rfl (hb hby d9_76) rfl kk_) ?_
            show Goes p e below _ (s₁.setTop (mkF m 77 #[vi ((x_.toUInt32 >>> ((8 : Int32) &&& 31).toUInt32).toInt32), vi (23 : Int32)] [(.int ((((x_.toUInt32 >>> ((8 : Int32) &&& 31).toUInt32).toInt32).toUInt32 >>> ((1 : Int32) &&& 31).toUInt32).toInt32)), (.int (23 : Int32))]))
            refine Goes.via (fun _ kk_ => XS.isub X0.here hx rfl (hb hby d9_77) rfl kk_) ?_
            show Goes p e below _ (s₁.setTop (mkF m 78 #[vi ((x_.toUInt32 >>> ((8 : Int32) &&& 31).toUInt32).toInt32), vi (23 : Int32)] [(.int ((23 : Int32) - ((((x_.toUInt32 >>> ((8 : Int32) &&& 31).toUInt32).toInt32).toUInt32 >>> ((1 : Int32) &&& 31).toUInt32).toInt32)))]))
            exact own_finI X0 hx hlk hret (hb hby d9_78) (by rw [e0]; exact ⟨(by rw [own_nlzI, if_pos hc1, if_pos hc22, if_neg hc37, if_pos hc51, if_pos hc63]; first | done | rfl | exact own_nc _), rfl, rfl⟩) (by first | decide | omega | (dsimp only; omega)) (by first | decide | omega | (dsimp only; omega))
          · skip
            refine Goes.via (fun _ kk_ => XS.icmpNo X0.here hx rfl (hb hby d9_63) rfl (flt hc63).1 kk_) ?_
            show Goes p e below _ (s₁.setTop (mkF m 66 #[vi ((x_.toUInt32 >>> ((8 : Int32) &&& 31).toUInt32).toInt32), vi (23 : Int32)] []))
            refine Goes.via (fun _ kk_ => XS.iinc X0.here hx rfl (hb hby d9_66) rfl (l' := #[vi ((x_.toUInt32 >>> ((8 : Int32) &&& 31).toUInt32).toInt32), vi ((23 : Int32) + (-2 : Int32))]) rfl kk_) ?_
            show Goes p e below _ (s₁.setTop (mkF m 69 #[vi ((x_.toUInt32 >>> ((8 : Int32) &&& 31).toUInt32).toInt32), vi ((23 : Int32) + (-2 : Int32))] []))
            rw [show ((23 : Int32) + (-2 : Int32)) = (21 : Int32) from by decide]
            show Goes p e below _ (s₁.setTop (mkF m 69 #[vi ((x_.toUInt32 >>> ((8 : Int32) &&& 31).toUInt32).toInt32), vi (21 : Int32)] []))
            refine gILN X0 hx hby d9_69 rfl ?_
            refine gIC (z := 2) X0 hx hby d9_70 rfl ?_
            refine Goes.via (fun _ kk_ => XS.iushr X0.here hx rfl (hb hby d9_71) rfl kk_) ?_
            show Goes p e below _ (s₁.setTop (mkF m 72 #[vi ((x_.toUInt32 >>> ((8 : Int32) &&& 31).toUInt32).toInt32), vi (21 : Int32)] [(.int ((((x_.toUInt32 >>> ((8 : Int32) &&& 31).toUInt32).toInt32).toUInt32 >>> ((2 : Int32) &&& 31).toUInt32).toInt32))]))
            refine Goes.via (fun _ kk_ => XS.istoreN X0.here hx rfl (hb hby d9_72) rfl (l' := #[vi ((((x_.toUInt32 >>> ((8 : Int32) &&& 31).toUInt32).toInt32).toUInt32 >>> ((2 : Int32) &&& 31).toUInt32).toInt32), vi (21 : Int32)]) rfl kk_) ?_
            show Goes p e below _ (s₁.setTop (mkF m 73 #[vi ((((x_.toUInt32 >>> ((8 : Int32) &&& 31).toUInt32).toInt32).toUInt32 >>> ((2 : Int32) &&& 31).toUInt32).toInt32), vi (21 : Int32)] []))
            refine gILN X0 hx hby d9_73 rfl ?_
            refine gILN X0 hx hby d9_74 rfl ?_
            refine gIC (z := 1) X0 hx hby d9_75 rfl ?_
            refine Goes.via (fun _ kk_ => XS.iushr X0.here hx rfl (hb hby d9_76) rfl kk_) ?_
            show Goes p e below _ (s₁.setTop (mkF m 77 #[vi ((((x_.toUInt32 >>> ((8 : Int32) &&& 31).toUInt32).toInt32).toUInt32 >>> ((2 : Int32) &&& 31).toUInt32).toInt32), vi (21 : Int32)] [(.int ((((((x_.toUInt32 >>> ((8 : Int32) &&& 31).toUInt32).toInt32).toUInt32 >>> ((2 : Int32) &&& 31).toUInt32).toInt32).toUInt32 >>> ((1 : Int32) &&& 31).toUInt32).toInt32)), (.int (21 : Int32))]))
            refine Goes.via (fun _ kk_ => XS.isub X0.here hx rfl (hb hby d9_77) rfl kk_) ?_
            show Goes p e below _ (s₁.setTop (mkF m 78 #[vi ((((x_.toUInt32 >>> ((8 : Int32) &&& 31).toUInt32).toInt32).toUInt32 >>> ((2 : Int32) &&& 31).toUInt32).toInt32), vi (21 : Int32)] [(.int ((21 : Int32) - ((((((x_.toUInt32 >>> ((8 : Int32) &&& 31).toUInt32).toInt32).toUInt32 >>> ((2 : Int32) &&& 31).toUInt32).toInt32).toUInt32 >>> ((1 : Int32) &&& 31).toUInt32).toInt32)))]))
            exact own_finI X0 hx hlk hret (hb hby d9_78) (by rw [e0]; exact ⟨(by rw [own_nlzI, if_pos hc1, if_pos hc22, if_neg hc37, if_pos hc51, if_neg hc63]; first | done | rfl | exact own_nc _), rfl, rfl⟩) (by first | decide | omega | (dsimp only; omega)) (by first | decide | omega | (dsimp only; omega))
        · skip
          refine Goes.via (fun _ kk_ => XS.icmpNo X0.here hx rfl (hb hby d9_51) rfl (flt hc51).1 kk_) ?_
          show Goes p e below _ (s₁.setTop (mkF m 54 #[vi ((x_.toUInt32 >>> ((8 : Int32) &&& 31).toUInt32).toInt32), vi (23 : Int32)] []))
          refine Goes.via (fun _ kk_ => XS.iinc X0.here hx rfl (hb hby d9_54) rfl (l' := #[vi ((x_.toUInt32 >>> ((8 : Int32) &&& 31).toUInt32).toInt32), vi ((23 : Int32) + (-4 : Int32))]) rfl kk_) ?_
          show Goes p e below _ (s₁.setTop (mkF m 57 #[vi ((x_.toUInt32 >>> ((8 : Int32) &&& 31).toUInt32).toInt32), vi ((23 : Int32) + (-4 : Int32))] []))
          rw [show ((23 : Int32) + (-4 : Int32)) = (19 : Int32) from by decide]
          show Goes p e below _ (s₁.setTop (mkF m 57 #[vi ((x_.toUInt32 >>> ((8 : Int32) &&& 31).toUInt32).toInt32), vi (19 : Int32)] []))
          refine gILN X0 hx hby d9_57 rfl ?_
          refine gIC (z := 4) X0 hx hby d9_58 rfl ?_
          refine Goes.via (fun _ kk_ => XS.iushr X0.here hx rfl (hb hby d9_59) rfl kk_) ?_
          show Goes p e below _ (s₁.setTop (mkF m 60 #[vi ((x_.toUInt32 >>> ((8 : Int32) &&& 31).toUInt32).toInt32), vi (19 : Int32)] [(.int ((((x_.toUInt32 >>> ((8 : Int32) &&& 31).toUInt32).toInt32).toUInt32 >>> ((4 : Int32) &&& 31).toUInt32).toInt32))]))
          refine Goes.via (fun _ kk_ => XS.istoreN X0.here hx rfl (hb hby d9_60) rfl (l' := #[vi ((((x_.toUInt32 >>> ((8 : Int32) &&& 31).toUInt32).toInt32).toUInt32 >>> ((4 : Int32) &&& 31).toUInt32).toInt32), vi (19 : Int32)]) rfl kk_) ?_
          show Goes p e below _ (s₁.setTop (mkF m 61 #[vi ((((x_.toUInt32 >>> ((8 : Int32) &&& 31).toUInt32).toInt32).toUInt32 >>> ((4 : Int32) &&& 31).toUInt32).toInt32), vi (19 : Int32)] []))
          refine gILN X0 hx hby d9_61 rfl ?_
          refine gIC (z := 4) X0 hx hby d9_62 rfl ?_
          by_cases hc63 : ((((x_.toUInt32 >>> ((8 : Int32) &&& 31).toUInt32).toInt32).toUInt32 >>> ((4 : Int32) &&& 31).toUInt32).toInt32) < (4 : Int32)
          · skip
            refine Goes.via (fun _ kk_ => XS.icmpYes X0.here hx rfl (pc0 := 63) (pc' := 73) rfl (hb hby d9_63) rfl (tlt hc63).1 (by decide) (by decide) kk_) ?_
            show Goes p e below _ (s₁.setTop (mkF m 73 #[vi ((((x_.toUInt32 >>> ((8 : Int32) &&& 31).toUInt32).toInt32).toUInt32 >>> ((4 : Int32) &&& 31).toUInt32).toInt32), vi (19 : Int32)] []))
            refine gILN X0 hx hby d9_73 rfl ?_
            refine gILN X0 hx hby d9_74 rfl ?_
            refine gIC (z := 1) X0 hx hby d9_75 rfl ?_
            refine Goes.via (fun _ kk_ => XS.iushr X0.here hx rfl (hb hby d9_76) rfl kk_) ?_
            show Goes p e below _ (s₁.setTop (mkF m 77 #[vi ((((x_.toUInt32 >>> ((8 : Int32) &&& 31).toUInt32).toInt32).toUInt32 >>> ((4 : Int32) &&& 31).toUInt32).toInt32), vi (19 : Int32)] [(.int ((((((x_.toUInt32 >>> ((8 : Int32) &&& 31).toUInt32).toInt32).toUInt32 >>> ((4 : Int32) &&& 31).toUInt32).toInt32).toUInt32 >>> ((1 : Int32) &&& 31).toUInt32).toInt32)), (.int (19 : Int32))]))
            refine Goes.via (fun _ kk_ => XS.isub X0.here hx rfl (hb hby d9_77) rfl kk_) ?_
            show Goes p e below _ (s₁.setTop (mkF m 78 #[vi ((((x_.toUInt32 >>> ((8 : Int32) &&& 31).toUInt32).toInt32).toUInt32 >>> ((4 : Int32) &&& 31).toUInt32).toInt32), vi (19 : Int32)] [(.int ((19 : Int32) - ((((((x_.toUInt32 >>> ((8 : Int32) &&& 31).toUInt32).toInt32).toUInt32 >>> ((4 : Int32) &&& 31).toUInt32).toInt32).toUInt32 >>> ((1 : Int32) &&& 31).toUInt32).toInt32)))]))
            exact own_finI X0 hx hlk hret (hb hby d9_78) (by rw [e0]; exact ⟨(by rw [own_nlzI, if_pos hc1, if_pos hc22, if_neg hc37, if_neg hc51, if_pos hc63]; first | done | rfl | exact own_nc _), rfl, rfl⟩) (by first | decide | omega | (dsimp only; omega)) (by first | decide | omega | (dsimp only; omega))
          · skip
            refine Goes.via (fun _ kk_ => XS.icmpNo X0.here hx rfl (hb hby d9_63) rfl (flt hc63).1 kk_) ?_
            show Goes p e below _ (s₁.setTop (mkF m 66 #[vi ((((x_.toUInt32 >>> ((8 : Int32) &&& 31).toUInt32).toInt32).toUInt32 >>> ((4 : Int32) &&& 31).toUInt32).toInt32), vi (19 : Int32)] []))
            refine Goes.via (fun _ kk_ => XS.iinc X0.here hx rfl (hb hby d9_66) rfl (l' := #[vi ((((x_.toUInt32 >>> ((8 : Int32) &&& 31).toUInt32).toInt32).toUInt32 >>> ((4 : Int32) &&& 31).toUInt32).toInt32), vi ((19 : Int32) + (-2 : Int32))]) rfl kk_) ?_
            show Goes p e below _ (s₁.setTop (mkF m 69 #[vi ((((x_.toUInt32 >>> ((8 : Int32) &&& 31).toUInt32).toInt32).toUInt32 >>> ((4 : Int32) &&& 31).toUInt32).toInt32), vi ((19 : Int32) + (-2 : Int32))] []))
            rw [show ((19 : Int32) + (-2 : Int32)) = (17 : Int32) from by decide]
            show Goes p e below _ (s₁.setTop (mkF m 69 #[vi ((((x_.toUInt32 >>> ((8 : Int32) &&& 31).toUInt32).toInt32).toUInt32 >>> ((4 : Int32) &&& 31).toUInt32).toInt32), vi (17 : Int32)] []))
            refine gILN X0 hx hby d9_69 rfl ?_
            refine gIC (z := 2) X0 hx hby d9_70 rfl ?_
            refine Goes.via (fun _ kk_ => XS.iushr X0.here hx rfl (hb hby d9_71) rfl kk_) ?_
            show Goes p e below _ (s₁.setTop (mkF m 72 #[vi ((((x_.toUInt32 >>> ((8 : Int32) &&& 31).toUInt32).toInt32).toUInt32 >>> ((4 : Int32) &&& 31).toUInt32).toInt32), vi (17 : Int32)] [(.int ((((((x_.toUInt32 >>> ((8 : Int32) &&& 31).toUInt32).toInt32).toUInt32 >>> ((4 : Int32) &&& 31).toUInt32).toInt32).toUInt32 >>> ((2 : Int32) &&& 31).toUInt32).toInt32))]))
            refine Goes.via (fun _ kk_ => XS.istoreN X0.here hx rfl (hb hby d9_72) rfl (l' := #[vi ((((((x_.toUInt32 >>> ((8 : Int32) &&& 31).toUInt32).toInt32).toUInt32 >>> ((4 : Int32) &&& 31).toUInt32).toInt32).toUInt32 >>> ((2 : Int32) &&& 31).toUInt32).toInt32), vi (17 : Int32)]) rfl kk_) ?_
            show Goes p e below _ (s₁.setTop (mkF m 73 #[vi ((((((x_.toUInt32 >>> ((8 : Int32) &&& 31).toUInt32).toInt32).toUInt32 >>> ((4 : Int32) &&& 31).toUInt32).toInt32).toUInt32 >>> ((2 : Int32) &&& 31).toUInt32).toInt32), vi (17 : Int32)] []))
            refine gILN X0 hx hby d9_73 rfl ?_
            refine gILN X0 hx hby d9_74 rfl ?_
            refine gIC (z := 1) X0 hx hby d9_75 rfl ?_
            refine Goes.via (fun _ kk_ => XS.iushr X0.here hx rfl (hb hby d9_76) rfl kk_) ?_
            show Goes p e below _ (s₁.setTop (mkF m 77 #[vi ((((((x_.toUInt32 >>> ((8 : Int32) &&& 31).toUInt32).toInt32).toUInt32 >>> ((4 : Int32) &&& 31).toUInt32).toInt32).toUInt32 >>> ((2 : Int32) &&& 31).toUInt32).toInt32), vi (17 : Int32)] [(.int ((((((((x_.toUInt32 >>> ((8 : Int32) &&& 31).toUInt32).toInt32).toUInt32 >>> ((4 : Int32) &&& 31).toUInt32).toInt32).toUInt32 >>> ((2 : Int32) &&& 31).toUInt32).toInt32).toUInt32 >>> ((1 : Int32) &&& 31).toUInt32).toInt32)), (.int (17 : Int32))]))
            refine Goes.via (fun _ kk_ => XS.isub X0.here hx rfl (hb hby d9_77) rfl kk_) ?_
            show Goes p e below _ (s₁.setTop (mkF m 78 #[vi ((((((x_.toUInt32 >>> ((8 : Int32) &&& 31).toUInt32).toInt32).toUInt32 >>> ((4 : Int32) &&& 31).toUInt32).toInt32).toUInt32 >>> ((2 : Int32) &&& 31).toUInt32).toInt32), vi (17 : Int32)] [(.int ((17 : Int32) - ((((((((x_.toUInt32 >>> ((8 : Int32) &&& 31).toUInt32).toInt32).toUInt32 >>> ((4 : Int32) &&& 31).toUInt32).toInt32).toUInt32 >>> ((2 : Int32) &&& 31).toUInt32).toInt32).toUInt32 >>> ((1 : Int32) &&& 31).toUInt32).toInt32)))]))
            exact own_finI X0 hx hlk hret (hb hby d9_78) (by rw [e0]; exact ⟨(by rw [own_nlzI, if_pos hc1, if_pos hc22, if_neg hc37, if_neg hc51, if_neg hc63]; first | done | rfl | exact own_nc _), rfl, rfl⟩) (by first | decide | omega | (dsimp only; omega)) (by first | decide | omega | (dsimp only; omega))
    · skip
      refine Goes.via (fun _ kk_ => XS.icmpNo X0.here hx rfl (hb hby d9_22) rfl (flt hc22).1 kk_) ?_
      show Goes p e below _ (s₁.setTop (mkF m 25 #[vi x_, vi (31 : Int32)] []))
      refine Goes.via (fun _ kk_ => XS.iinc X0.here hx rfl (hb hby d9_25) rfl (l' := #[vi x_, vi ((31 : Int32) + (-16 : Int32))]) rfl kk_) ?_
      show Goes p e below _ (s₁.setTop (mkF m 28 #[vi x_, vi ((31 : Int32) + (-16 : Int32))] []))
      rw [show ((31 : Int32) + (-16 : Int32)) = (15 : Int32) from by decide]
      show Goes p e below _ (s₁.setTop (mkF m 28 #[vi x_, vi (15 : Int32)] []))
      refine gILN X0 hx hby d9_28 rfl ?_
      refine gBI (z := 16) X0 hx hby d9_29 rfl ?_
      refine Goes.via (fun _ kk_ => XS.iushr X0.here hx rfl (hb hby d9_31) rfl kk_) ?_
      show Goes p e below _ (s₁.setTop (mkF m 32 #[vi x_, vi (15 : Int32)] [(.int ((x_.toUInt32 >>> ((16 : Int32) &&& 31).toUInt32).toInt32))]))
      refine Goes.via (fun _ kk_ => XS.istoreN X0.here hx rfl (hb hby d9_32) rfl (l' := #[vi ((x_.toUInt32 >>> ((16 : Int32) &&& 31).toUInt32).toInt32), vi (15 : Int32)]) rfl kk_) ?_
      show Goes p e below _ (s₁.setTop (mkF m 33 #[vi ((x_.toUInt32 >>> ((16 : Int32) &&& 31).toUInt32).toInt32), vi (15 : Int32)] []))
      refine gILN X0 hx hby d9_33 rfl ?_
      refine gSI (z := 256) X0 hx hby d9_34 rfl ?_
      by_cases hc37 : ((x_.toUInt32 >>> ((16 : Int32) &&& 31).toUInt32).toInt32) < (256 : Int32)
      · skip
        refine Goes.via (fun _ kk_ => XS.icmpYes X0.here hx rfl (pc0 := 37) (pc' := 48) rfl (hb hby d9_37) rfl (tlt hc37).1 (by decide) (by decide) kk_) ?_
        show Goes p e below _ (s₁.setTop (mkF m 48 #[vi ((x_.toUInt32 >>> ((16 : Int32) &&& 31).toUInt32).toInt32), vi (15 : Int32)] []))
        refine gILN X0 hx hby d9_48 rfl ?_
        refine gBI (z := 16) X0 hx hby d9_49 rfl ?_
        by_cases hc51 : ((x_.toUInt32 >>> ((16 : Int32) &&& 31).toUInt32).toInt32) < (16 : Int32)
        · skip
          refine Goes.via (fun _ kk_ => XS.icmpYes X0.here hx rfl (pc0 := 51) (pc' := 61) rfl (hb hby d9_51) rfl (tlt hc51).1 (by decide) (by decide) kk_) ?_
          show Goes p e below _ (s₁.setTop (mkF m 61 #[vi ((x_.toUInt32 >>> ((16 : Int32) &&& 31).toUInt32).toInt32), vi (15 : Int32)] []))
          refine gILN X0 hx hby d9_61 rfl ?_
          refine gIC (z := 4) X0 hx hby d9_62 rfl ?_
          by_cases hc63 : ((x_.toUInt32 >>> ((16 : Int32) &&& 31).toUInt32).toInt32) < (4 : Int32)
          · skip
            refine Goes.via (fun _ kk_ => XS.icmpYes X0.here hx rfl (pc0 := 63) (pc' := 73) rfl (hb hby d9_63) rfl (tlt hc63).1 (by decide) (by decide) kk_) ?_
            show Goes p e below _ (s₁.setTop (mkF m 73 #[vi ((x_.toUInt32 >>> ((16 : Int32) &&& 31).toUInt32).toInt32), vi (15 : Int32)] []))
            refine gILN X0 hx hby d9_73 rfl ?_
            refine gILN X0 hx hby d9_74 rfl ?_
            refine gIC (z := 1) X0 hx hby d9_75 rfl ?_
            refine Goes.via (fun _ kk_ => XS.iushr X0.here hx rfl (hb hby d9_76) rfl kk_) ?_
            show Goes p e below _ (s₁.setTop (mkF m 77 #[vi ((x_.toUInt32 >>> ((16 : Int32) &&& 31).toUInt32).toInt32), vi (15 : Int32)] [(.int ((((x_.toUInt32 >>> ((16 : Int32) &&& 31).toUInt32).toInt32).toUInt32 >>> ((1 : Int32) &&& 31).toUInt32).toInt32)), (.int (15 : Int32))]))
            refine Goes.via (fun _ kk_ => XS.isub X0.here hx rfl (hb hby d9_77) rfl kk_) ?_
            show Goes p e below _ (s₁.setTop (mkF m 78 #[vi ((x_.toUInt32 >>> ((16 : Int32) &&& 31).toUInt32).toInt32), vi (15 : Int32)] [(.int ((15 : Int32) - ((((x_.toUInt32 >>> ((16 : Int32) &&& 31).toUInt32).toInt32).toUInt32 >>> ((1 : Int32) &&& 31).toUInt32).toInt32)))]))
            exact own_finI X0 hx hlk hret (hb hby d9_78) (by rw [e0]; exact ⟨(by rw [own_nlzI, if_pos hc1, if_neg hc22, if_pos hc37, if_pos hc51, if_pos hc63]; first | done | rfl | exact own_nc _), rfl, rfl⟩) (by first | decide | omega | (dsimp only; omega)) (by first | decide | omega | (dsimp only; omega))
          · skip
            refine Goes.via (fun _ kk_ => XS.icmpNo X0.here hx rfl (hb hby d9_63) rfl (flt hc63).1 kk_) ?_
            show Goes p e below _ (s₁.setTop (mkF m 66 #[vi ((x_.toUInt32 >>> ((16 : Int32) &&& 31).toUInt32).toInt32), vi (15 : Int32)] []))
            refine Goes.via (fun _ kk_ => XS.iinc X0.here hx rfl (hb hby d9_66) rfl (l' := #[vi ((x_.toUInt32 >>> ((16 : Int32) &&& 31).toUInt32).toInt32), vi ((15 : Int32) + (-2 : Int32))]) rfl kk_) ?_
            show Goes p e below _ (s₁.setTop (mkF m 69 #[vi ((x_.toUInt32 >>> ((16 : Int32) &&& 31).toUInt32).toInt32), vi ((15 : Int32) + (-2 : Int32))] []))
            rw [show ((15 : Int32) + (-2 : Int32)) = (13 : Int32) from by decide]
            show Goes p e below _ (s₁.setTop (mkF m 69 #[vi ((x_.toUInt32 >>> ((16 : Int32) &&& 31).toUInt32).toInt32), vi (13 : Int32)] []))
            refine gILN X0 hx hby d9_69 rfl ?_
            refine gIC (z := 2) X0 hx hby d9_70 rfl ?_
            refine Goes.via (fun _ kk_ => XS.iushr X0.here hx rfl (hb hby d9_71) rfl kk_) ?_
            show Goes p e below _ (s₁.setTop (mkF m 72 #[vi ((x_.toUInt32 >>> ((16 : Int32) &&& 31).toUInt32).toInt32), vi (13 : Int32)] [(.int ((((x_.toUInt32 >>> ((16 : Int32) &&& 31).toUInt32).toInt32).toUInt32 >>> ((2 : Int32) &&& 31).toUInt32).toInt32))]))
            refine Goes.via (fun _ kk_ => XS.istoreN X0.here hx rfl (hb hby d9_72) rfl (l' := #[vi ((((x_.toUInt32 >>> ((16 : Int32) &&& 31).toUInt32).toInt32).toUInt32 >>> ((2 : Int32) &&& 31).toUInt32).toInt32), vi (13 : Int32)]) rfl kk_) ?_
            show Goes p e below _ (s₁.setTop (mkF m 73 #[vi ((((x_.toUInt32 >>> ((16 : Int32) &&& 31).toUInt32).toInt32).toUInt32 >>> ((2 : Int32) &&& 31).toUInt32).toInt32), vi (13 : Int32)] []))
            refine gILN X0 hx hby d9_73 rfl ?_
            refine gILN X0 hx hby d9_74 rfl ?_
            refine gIC (z := 1) X0 hx hby d9_75 rfl ?_
            refine Goes.via (fun _ kk_ => XS.iushr X0.here hx rfl (hb hby d9_76) rfl kk_) ?_
            show Goes p e below _ (s₁.setTop (mkF m 77 #[vi ((((x_.toUInt32 >>> ((16 : Int32) &&& 31).toUInt32).toInt32).toUInt32 >>> ((2 : Int32) &&& 31).toUInt32).toInt32), vi (13 : Int32)] [(.int ((((((x_.toUInt32 >>> ((16 : Int32) &&& 31).toUInt32).toInt32).toUInt32 >>> ((2 : Int32) &&& 31).toUInt32).toInt32).toUInt32 >>> ((1 : Int32) &&& 31).toUInt32).toInt32)), (.int (13 : Int32))]))
            refine Goes.via (fun _ kk_ => XS.isub X0.here hx rfl (hb hby d9_77) rfl kk_) ?_
            show Goes p e below _ (s₁.setTop (mkF m 78 #[vi ((((x_.toUInt32 >>> ((16 : Int32) &&& 31).toUInt32).toInt32).toUInt32 >>> ((2 : Int32) &&& 31).toUInt32).toInt32), vi (13 : Int32)] [(.int ((13 : Int32) - ((((((x_.toUInt32 >>> ((16 : Int32) &&& 31).toUInt32).toInt32).toUInt32 >>> ((2 : Int32) &&& 31).toUInt32).toInt32).toUInt32 >>> ((1 : Int32) &&& 31).toUInt32).toInt32)))]))
            exact own_finI X0 hx hlk hret (hb hby d9_78) (by rw [e0]; exact ⟨(by rw [own_nlzI, if_pos hc1, if_neg hc22, if_pos hc37, if_pos hc51, if_neg hc63]; first | done | rfl | exact own_nc _), rfl, rfl⟩) (by first | decide | omega | (dsimp only; omega)) (by first | decide | omega | (dsimp only; omega))
        · skip
          refine Goes.via (fun _ kk_ => XS.icmpNo X0.here hx rfl (hb hby d9_51) rfl (flt hc51).1 kk_) ?_
          show Goes p e below _ (s₁.setTop (mkF m 54 #[vi ((x_.toUInt32 >>> ((16 : Int32) &&& 31).toUInt32).toInt32), vi (15 : Int32)] []))
          refine Goes.via (fun _ kk_ => XS.iinc X0.here hx rfl (hb hby d9_54) rfl (l' := #[vi ((x_.toUInt32 >>> ((16 : Int32) &&& 31).toUInt32).toInt32), vi ((15 : Int32) + (-4 : Int32))]) rfl kk_) ?_
          show Goes p e below _ (s₁.setTop (mkF m 57 #[vi ((x_.toUInt32 >>> ((16 : Int32) &&& 31).toUInt32).toInt32), vi ((15 : Int32) + (-4 : Int32))] []))
          rw [show ((15 : Int32) + (-4 : Int32)) = (11 : Int32) from by decide]
          show Goes p e below _ (s₁.setTop (mkF m 57 #[vi ((x_.toUInt32 >>> ((16 : Int32) &&& 31).toUInt32).toInt32), vi (11 : Int32)] []))
          refine gILN X0 hx hby d9_57 rfl ?_
          refine gIC (z := 4) X0 hx hby d9_58 rfl ?_
          refine Goes.via (fun _ kk_ => XS.iushr X0.here hx rfl (hb hby d9_59) rfl kk_) ?_
          show Goes p e below _ (s₁.setTop (mkF m 60 #[vi ((x_.toUInt32 >>> ((16 : Int32) &&& 31).toUInt32).toInt32), vi (11 : Int32)] [(.int ((((x_.toUInt32 >>> ((16 : Int32) &&& 31).toUInt32).toInt32).toUInt32 >>> ((4 : Int32) &&& 31).toUInt32).toInt32))]))
          refine Goes.via (fun _ kk_ => XS.istoreN X0.here hx rfl (hb hby d9_60) rfl (l' := #[vi ((((x_.toUInt32 >>> ((16 : Int32) &&& 31).toUInt32).toInt32).toUInt32 >>> ((4 : Int32) &&& 31).toUInt32).toInt32), vi (11 : Int32)]) rfl kk_) ?_
          show Goes p e below _ (s₁.setTop (mkF m 61 #[vi ((((x_.toUInt32 >>> ((16 : Int32) &&& 31).toUInt32).toInt32).toUInt32 >>> ((4 : Int32) &&& 31).toUInt32).toInt32), vi (11 : Int32)] []))
          refine gILN X0 hx hby d9_61 rfl ?_
          refine gIC (z := 4) X0 hx hby d9_62 rfl ?_
          by_cases hc63 : ((((x_.toUInt32 >>> ((16 : Int32) &&& 31).toUInt32).toInt32).toUInt32 >>> ((4 : Int32) &&& 31).toUInt32).toInt32) < (4 : Int32)
          · skip
            refine Goes.via (fun _ kk_ => XS.icmpYes X0.here hx rfl (pc0 := 63) (pc' := 73) rfl (hb hby d9_63) rfl (tlt hc63).1 (by decide) (by decide) kk_) ?_
            show Goes p e below _ (s₁.setTop (mkF m 73 #[vi ((((x_.toUInt32 >>> ((16 : Int32) &&& 31).toUInt32).toInt32).toUInt32 >>> ((4 : Int32) &&& 31).toUInt32).toInt32), vi (11 : Int32)] []))
            refine gILN X0 hx hby d9_73 rfl ?_
            refine gILN X0 hx hby d9_74 rfl ?_
            refine gIC (z := 1) X0 hx hby d9_75 rfl ?_
            refine Goes.via (fun _ kk_ => XS.iushr X0.here hx rfl (hb hby d9_76) rfl kk_) ?_
            show Goes p e below _ (s₁.setTop (mkF m 77 #[vi ((((x_.toUInt32 >>> ((16 : Int32) &&& 31).toUInt32).toInt32).toUInt32 >>> ((4 : Int32) &&& 31).toUInt32).toInt32), vi (11 : Int32)] [(.int ((((((x_.toUInt32 >>> ((16 : Int32) &&& 31).toUInt32).toInt32).toUInt32 >>> ((4 : Int32) &&& 31).toUInt32).toInt32).toUInt32 >>> ((1 : Int32) &&& 31).toUInt32).toInt32)), (.int (11 : Int32))]))
            refine Goes.via (fun _ kk_ => XS.isub X0.here hx rfl (hb hby d9_77) rfl kk_) ?_
            show Goes p e below _ (s₁.setTop (mkF m 78 #[vi ((((x_.toUInt32 >>> ((16 : Int32) &&& 31).toUInt32).toInt32).toUInt32 >>> ((4 : Int32) &&& 31).toUInt32).toInt32), vi (11 : Int32)] [(.int ((11 : Int32) - ((((((x_.toUInt32 >>> ((16 : Int32) &&& 31).toUInt32).toInt32).toUInt32 >>> ((4 : Int32) &&& 31).toUInt32).toInt32).toUInt32 >>> ((1 : Int32) &&& 31).toUInt32).toInt32)))]))
            exact own_finI X0 hx hlk hret (hb hby d9_78) (by rw [e0]; exact ⟨(by rw [own_nlzI, if_pos hc1, if_neg hc22, if_pos hc37, if_neg hc51, if_pos hc63]; first | done | rfl | exact own_nc _), rfl, rfl⟩) (by first | decide | omega | (dsimp only; omega)) (by first | decide | omega | (dsimp only; omega))
          · skip
            refine Goes.via (fun _ kk_ => XS.icmpNo X0.here hx rfl (hb hby d9_63) rfl (flt hc63).1 kk_) ?_
            show Goes p e below _ (s₁.setTop (mkF m 66 #[vi ((((x_.toUInt32 >>> ((16 : Int32) &&& 31).toUInt32).toInt32).toUInt32 >>> ((4 : Int32) &&& 31).toUInt32).toInt32), vi (11 : Int32)] []))
            refine Goes.via (fun _ kk_ => XS.iinc X0.here hx rfl (hb hby d9_66) rfl (l' := #[vi ((((x_.toUInt32 >>> ((16 : Int32) &&& 31).toUInt32).toInt32).toUInt32 >>> ((4 : Int32) &&& 31).toUInt32).toInt32), vi ((11 : Int32) + (-2 : Int32))]) rfl kk_) ?_
            show Goes p e below _ (s₁.setTop (mkF m 69 #[vi ((((x_.toUInt32 >>> ((16 : Int32) &&& 31).toUInt32).toInt32).toUInt32 >>> ((4 : Int32) &&& 31).toUInt32).toInt32), vi ((11 : Int32) + (-2 : Int32))] []))
            rw [show ((11 : Int32) + (-2 : Int32)) = (9 : Int32) from by decide]
            show Goes p e below _ (s₁.setTop (mkF m 69 #[vi ((((x_.toUInt32 >>> ((16 : Int32) &&& 31).toUInt32).toInt32).toUInt32 >>> ((4 : Int32) &&& 31).toUInt32).toInt32), vi (9 : Int32)] []))
            refine gILN X0 hx hby d9_69 rfl ?_
            refine gIC (z := 2) X0 hx hby d9_70 rfl ?_
            refine Goes.via (fun _ kk_ => XS.iushr X0.here hx rfl (hb hby d9_71) rfl kk_) ?_
            show Goes p e below _ (s₁.setTop (mkF m 72 #[vi ((((x_.toUInt32 >>> ((16 : Int32) &&& 31).toUInt32).toInt32).toUInt32 >>> ((4 : Int32) &&& 31).toUInt32).toInt32), vi (9 : Int32)] [(.int ((((((x_.toUInt32 >>> ((16 : Int32) &&& 31).toUInt32).toInt32).toUInt32 >>> ((4 : Int32) &&& 31).toUInt32).toInt32).toUInt32 >>> ((2 : Int32) &&& 31).toUInt32).toInt32))]))
            refine Goes.via (fun _ kk_ => XS.istoreN X0.here hx rfl (hb hby d9_72) rfl (l' := #[vi ((((((x_.toUInt32 >>> ((16 : Int32) &&& 31).toUInt32).toInt32).toUInt32 >>> ((4 : Int32) &&& 31).toUInt32).toInt32).toUInt32 >>> ((2 : Int32) &&& 31).toUInt32).toInt32), vi (9 : Int32)]) rfl kk_) ?_
            show Goes p e below _ (s₁.setTop (mkF m 73 #[vi ((((((x_.toUInt32 >>> ((16 : Int32) &&& 31).toUInt32).toInt32).toUInt32 >>> ((4 : Int32) &&& 31).toUInt32).toInt32).toUInt32 >>> ((2 : Int32) &&& 31).toUInt32).toInt32), vi (9 : Int32)] []))
            refine gILN X0 hx hby d9_73 rfl ?_
            refine gILN X0 hx hby d9_74 rfl ?_
            refine gIC (z := 1) X0 hx hby d9_75 rfl ?_
            refine Goes.via (fun _ kk_ => XS.iushr X0.here hx rfl (hb hby d9_76) rfl kk_) ?_
            show Goes p e below _ (s₁.setTop (mkF m 77 #[vi ((((((x_.toUInt32 >>> ((16 : Int32) &&& 31).toUInt32).toInt32).toUInt32 >>> ((4 : Int32) &&& 31).toUInt32).toInt32).toUInt32 >>> ((2 : Int32) &&& 31).toUInt32).toInt32), vi (9 : Int32)] [(.int ((((((((x_.toUInt32 >>> ((16 : Int32) &&& 31).toUInt32).toInt32).toUInt32 >>> ((4 : Int32) &&& 31).toUInt32).toInt32).toUInt32 >>> ((2 : Int32) &&& 31).toUInt32).toInt32).toUInt32 >>> ((1 : Int32) &&& 31).toUInt32).toInt32)), (.int (9 : Int32))]))
            refine Goes.via (fun _ kk_ => XS.isub X0.here hx rfl (hb hby d9_77) rfl kk_) ?_
            show Goes p e below _ (s₁.setTop (mkF m 78 #[vi ((((((x_.toUInt32 >>> ((16 : Int32) &&& 31).toUInt32).toInt32).toUInt32 >>> ((4 : Int32) &&& 31).toUInt32).toInt32).toUInt32 >>> ((2 : Int32) &&& 31).toUInt32).toInt32), vi (9 : Int32)] [(.int ((9 : Int32) - ((((((((x_.toUInt32 >>> ((16 : Int32) &&& 31).toUInt32).toInt32).toUInt32 >>> ((4 : Int32) &&& 31).toUInt32).toInt32).toUInt32 >>> ((2 : Int32) &&& 31).toUInt32).toInt32).toUInt32 >>> ((1 : Int32) &&& 31).toUInt32).toInt32)))]))
            exact own_finI X0 hx hlk hret (hb hby d9_78) (by rw [e0]; exact ⟨(by rw [own_nlzI, if_pos hc1, if_neg hc22, if_pos hc37, if_neg hc51, if_neg hc63]; first | done | rfl | exact own_nc _), rfl, rfl⟩) (by first | decide | omega | (dsimp only; omega)) (by first | decide | omega | (dsimp only; omega))
      · skip
        refine Goes.via (fun _ kk_ => XS.icmpNo X0.here hx rfl (hb hby d9_37) rfl (flt hc37).1 kk_) ?_
        show Goes p e below _ (s₁.setTop (mkF m 40 #[vi ((x_.toUInt32 >>> ((16 : Int32) &&& 31).toUInt32).toInt32), vi (15 : Int32)] []))
        refine Goes.via (fun _ kk_ => XS.iinc X0.here hx rfl (hb hby d9_40) rfl (l' := #[vi ((x_.toUInt32 >>> ((16 : Int32) &&& 31).toUInt32).toInt32), vi ((15 : Int32) + (-8 : Int32))]) rfl kk_) ?_
        show Goes p e below _ (s₁.setTop (mkF m 43 #[vi ((x_.toUInt32 >>> ((16 : Int32) &&& 31).toUInt32).toInt32), vi ((15 : Int32) + (-8 : Int32))] []))
        rw [show ((15 : Int32) + (-8 : Int32)) = (7 : Int32) from by decide]
        show Goes p e below _ (s₁.setTop (mkF m 43 #[vi ((x_.toUInt32 >>> ((16 : Int32) &&& 31).toUInt32).toInt32), vi (7 : Int32)] []))
        refine gILN X0 hx hby d9_43 rfl ?_
        refine gBI (z := 8) X0 hx hby d9_44 rfl ?_
        refine Goes.via (fun _ kk_ => XS.iushr X0.here hx rfl (hb hby d9_46) rfl kk_) ?_
        show Goes p e below _ (s₁.setTop (mkF m 47 #[vi ((x_.toUInt32 >>> ((16 : Int32) &&& 31).toUInt32).toInt32), vi (7 : Int32)] [(.int ((((x_.toUInt32 >>> ((16 : Int32) &&& 31).toUInt32).toInt32).toUInt32 >>> ((8 : Int32) &&& 31).toUInt32).toInt32))]))
        refine Goes.via (fun _ kk_ => XS.istoreN X0.here hx rfl (hb hby d9_47) rfl (l' := #[vi ((((x_.toUInt32 >>> ((16 : Int32) &&& 31).toUInt32).toInt32).toUInt32 >>> ((8 : Int32) &&& 31).toUInt32).toInt32), vi (7 : Int32)]) rfl kk_) ?_
        show Goes p e below _ (s₁.setTop (mkF m 48 #[vi ((((x_.toUInt32 >>> ((16 : Int32) &&& 31).toUInt32).toInt32).toUInt32 >>> ((8 : Int32) &&& 31).toUInt32).toInt32), vi (7 : Int32)] []))
        refine gILN X0 hx hby d9_48 rfl ?_
        refine gBI (z := 16) X0 hx hby d9_49 rfl ?_
        by_cases hc51 : ((((x_.toUInt32 >>> ((16 : Int32) &&& 31).toUInt32).toInt32).toUInt32 >>> ((8 : Int32) &&& 31).toUInt32).toInt32) < (16 : Int32)
        · skip
          refine Goes.via (fun _ kk_ => XS.icmpYes X0.here hx rfl (pc0 := 51) (pc' := 61) rfl (hb hby d9_51) rfl (tlt hc51).1 (by decide) (by decide) kk_) ?_
          show Goes p e below _ (s₁.setTop (mkF m 61 #[vi ((((x_.toUInt32 >>> ((16 : Int32) &&& 31).toUInt32).toInt32).toUInt32 >>> ((8 : Int32) &&& 31).toUInt32).toInt32), vi (7 : Int32)] []))
          refine gILN X0 hx hby d9_61 rfl ?_
          refine gIC (z := 4) X0 hx hby d9_62 rfl ?_
          by_cases hc63 : ((((x_.toUInt32 >>> ((16 : Int32) &&& 31).toUInt32).toInt32).toUInt32 >>> ((8 : Int32) &&& 31).toUInt32).toInt32) < (4 : Int32)
          · skip
            refine Goes.via (fun _ kk_ => XS.icmpYes X0.here hx rfl (pc0 := 63) (pc' := 73) rfl (hb hby d9_63) rfl (tlt hc63).1 (by decide) (by decide) kk_) ?_
            show Goes p e below _ (s₁.setTop (mkF m 73 #[vi ((((x_.toUInt32 >>> ((16 : Int32) &&& 31).toUInt32).toInt32).toUInt32 >>> ((8 : Int32) &&& 31).toUInt32).toInt32), vi (7 : Int32)] []))
            refine gILN X0 hx hby d9_73 rfl ?_
            refine gILN X0 hx hby d9_74 rfl ?_
            refine gIC (z := 1) X0 hx hby d9_75 rfl ?_
            refine Goes.via (fun _ kk_ => XS.iushr X0.here hx rfl (hb hby d9_76) rfl kk_) ?_
            show Goes p e below _ (s₁.setTop (mkF m 77 #[vi ((((x_.toUInt32 >>> ((16 : Int32) &&& 31).toUInt32).toInt32).toUInt32 >>> ((8 : Int32) &&& 31).toUInt32).toInt32), vi (7 : Int32)] [(.int ((((((x_.toUInt32 >>> ((16 : Int32) &&& 31).toUInt32).toInt32).toUInt32 >>> ((8 : Int32) &&& 31).toUInt32).toInt32).toUInt32 >>> ((1 : Int32) &&& 31).toUInt32).toInt32)), (.int (7 : Int32))]))
            refine Goes.via (fun _ kk_ => XS.isub X0.here hx rfl (hb hby d9_77) rfl kk_) ?_
            show Goes p e below _ (s₁.setTop (mkF m 78 #[vi ((((x_.toUInt32 >>> ((16 : Int32) &&& 31).toUInt32).toInt32).toUInt32 >>> ((8 : Int32) &&& 31).toUInt32).toInt32), vi (7 : Int32)] [(.int ((7 : Int32) - ((((((x_.toUInt32 >>> ((16 : Int32) &&& 31).toUInt32).toInt32).toUInt32 >>> ((8 : Int32) &&& 31).toUInt32).toInt32).toUInt32 >>> ((1 : Int32) &&& 31).toUInt32).toInt32)))]))
            exact own_finI X0 hx hlk hret (hb hby d9_78) (by rw [e0]; exact ⟨(by rw [own_nlzI, if_pos hc1, if_neg hc22, if_neg hc37, if_pos hc51, if_pos hc63]; first | done | rfl | exact own_nc _), rfl, rfl⟩) (by first | decide | omega | (dsimp only; omega)) (by first | decide | omega | (dsimp only; omega))
          · skip
            refine Goes.via (fun _ kk_ => XS.icmpNo X0.here hx rfl (hb hby d9_63) rfl (flt hc63).1 kk_) ?_
            show Goes p e below _ (s₁.setTop (mkF m 66 #[vi ((((x_.toUInt32 >>> ((16 : Int32) &&& 31).toUInt32).toInt32).toUInt32 >>> ((8 : Int32) &&& 31).toUInt32).toInt32), vi (7 : Int32)] []))
            refine Goes.via (fun _ kk_ => XS.iinc X0.here hx rfl (hb hby d9_66) rfl (l' := #[vi ((((x_.toUInt32 >>> ((16 : Int32) &&& 31).toUInt32).toInt32).toUInt32 >>> ((8 : Int32) &&& 31).toUInt32).toInt32), vi ((7 : Int32) + (-2 : Int32))]) rfl kk_) ?_
            show Goes p e below _ (s₁.setTop (mkF m 69 #[vi ((((x_.toUInt32 >>> ((16 : Int32) &&& 31).toUInt32).toInt32).toUInt32 >>> ((8 : Int32) &&& 31).toUInt32).toInt32), vi ((7 : Int32) + (-2 : Int32))] []))
            rw [show ((7 : Int32) + (-2 : Int32)) = (5 : Int32) from by decide]
            show Goes p e below _ (s₁.setTop (mkF m 69 #[vi ((((x_.toUInt32 >>> ((16 : Int32) &&& 31).toUInt32).toInt32).toUInt32 >>> ((8 : Int32) &&& 31).toUInt32).toInt32), vi (5 : Int32)] []))
            refine gILN X0 hx hby d9_69 rfl ?_
            refine gIC (z := 2) X0 hx hby d9_70 rfl ?_
            refine Goes.via (fun _ kk_ => XS.iushr X0.here hx rfl (hb hby d9_71) rfl kk_) ?_
            show Goes p e below _ (s₁.setTop (mkF m 72 #[vi ((((x_.toUInt32 >>> ((16 : Int32) &&& 31).toUInt32).toInt32).toUInt32 >>> ((8 : Int32) &&& 31).toUInt32).toInt32), vi (5 : Int32)] [(.int ((((((x_.toUInt32 >>> ((16 : Int32) &&& 31).toUInt32).toInt32).toUInt32 >>> ((8 : Int32) &&& 31).toUInt32).toInt32).toUInt32 >>> ((2 : Int32) &&& 31).toUInt32).toInt32))]))
            refine Goes.via (fun _ kk_ => XS.istoreN X0.here hx rfl (hb hby d9_72) rfl (l' := #[vi ((((((x_.toUInt32 >>> ((16 : Int32) &&& 31).toUInt32).toInt32).toUInt32 >>> ((8 : Int32) &&& 31).toUInt32).toInt32).toUInt32 >>> ((2 : Int32) &&& 31).toUInt32).toInt32), vi (5 : Int32)]) rfl kk_) ?_
            show Goes p e below _ (s₁.setTop (mkF m 73 #[vi ((((((x_.toUInt32 >>> ((16 : Int32) &&& 31).toUInt32).toInt32).toUInt32 >>> ((8 : Int32) &&& 31).toUInt32).toInt32).toUInt32 >>> ((2 : Int32) &&& 31).toUInt32).toInt32), vi (5 : Int32)] []))
            refine gILN X0 hx hby d9_73 rfl ?_
            refine gILN X0 hx hby d9_74 rfl ?_
            refine gIC (z := 1) X0 hx hby d9_75 rfl ?_
            refine Goes.via (fun _ kk_ => XS.iushr X0.here hx rfl (hb hby d9_76) rfl kk_) ?_
            show Goes p e below _ (s₁.setTop (mkF m 77 #[vi ((((((x_.toUInt32 >>> ((16 : Int32) &&& 31).toUInt32).toInt32).toUInt32 >>> ((8 : Int32) &&& 31).toUInt32).toInt32).toUInt32 >>> ((2 : Int32) &&& 31).toUInt32).toInt32), vi (5 : Int32)] [(.int ((((((((x_.toUInt32 >>> ((16 : Int32) &&& 31).toUInt32).toInt32).toUInt32 >>> ((8 : Int32) &&& 31).toUInt32).toInt32).toUInt32 >>> ((2 : Int32) &&& 31).toUInt32).toInt32).toUInt32 >>> ((1 : Int32) &&& 31).toUInt32).toInt32)), (.int (5 : Int32))]))
            refine Goes.via (fun _ kk_ => XS.isub X0.here hx rfl (hb hby d9_77) rfl kk_) ?_
            show Goes p e below _ (s₁.setTop (mkF m 78 #[vi ((((((x_.toUInt32 >>> ((16 : Int32) &&& 31).toUInt32).toInt32).toUInt32 >>> ((8 : Int32) &&& 31).toUInt32).toInt32).toUInt32 >>> ((2 : Int32) &&& 31).toUInt32).toInt32), vi (5 : Int32)] [(.int ((5 : Int32) - ((((((((x_.toUInt32 >>> ((16 : Int32) &&& 31).toUInt32).toInt32).toUInt32 >>> ((8 : Int32) &&& 31).toUInt32).toInt32).toUInt32 >>> ((2 : Int32) &&& 31).toUInt32).toInt32).toUInt32 >>> ((1 : Int32) &&& 31).toUInt32).toInt32)))]))
            exact own_finI X0 hx hlk hret (hb hby d9_78) (by rw [e0]; exact ⟨(by rw [own_nlzI, if_pos hc1, if_neg hc22, if_neg hc37, if_pos hc51, if_neg hc63]; first | done | rfl | exact own_nc _), rfl, rfl⟩) (by first | decide | omega | (dsimp only; omega)) (by first | decide | omega | (dsimp only; omega))
        · skip
          refine Goes.via (fun _ kk_ => XS.icmpNo X0.here hx rfl (hb hby d9_51) rfl (flt hc51).1 kk_) ?_
          show Goes p e below _ (s₁.setTop (mkF m 54 #[vi ((((x_.toUInt32 >>> ((16 : Int32) &&& 31).toUInt32).toInt32).toUInt32 >>> ((8 : Int32) &&& 31).toUInt32).toInt32), vi (7 : Int32)] []))
          refine Goes.via (fun _ kk_ => XS.iinc X0.here hx rfl (hb hby d9_54) rfl (l' := #[vi ((((x_.toUInt32 >>> ((16 : Int32) &&& 31).toUInt32).toInt32).toUInt32 >>> ((8 : Int32) &&& 31).toUInt32).toInt32), vi ((7 : Int32) + (-4 : Int32))]) rfl kk_) ?_
          show Goes p e below _ (s₁.setTop (mkF m 57 #[vi ((((x_.toUInt32 >>> ((16 : Int32) &&& 31).toUInt32).toInt32).toUInt32 >>> ((8 : Int32) &&& 31).toUInt32).toInt32), vi ((7 : Int32) + (-4 : Int32))] []))
          rw [show ((7 : Int32) + (-4 : Int32)) = (3 : Int32) from by decide]
          show Goes p e below _ (s₁.setTop (mkF m 57 #[vi ((((x_.toUInt32 >>> ((16 : Int32) &&& 31).toUInt32).toInt32).toUInt32 >>> ((8 : Int32) &&& 31).toUInt32).toInt32), vi (3 : Int32)] []))
          refine gILN X0 hx hby d9_57 rfl ?_
          refine gIC (z := 4) X0 hx hby d9_58 rfl ?_
          refine Goes.via (fun _ kk_ => XS.iushr X0.here hx rfl (hb hby d9_59) rfl kk_) ?_
          show Goes p e below _ (s₁.setTop (mkF m 60 #[vi ((((x_.toUInt32 >>> ((16 : Int32) &&& 31).toUInt32).toInt32).toUInt32 >>> ((8 : Int32) &&& 31).toUInt32).toInt32), vi (3 : Int32)] [(.int ((((((x_.toUInt32 >>> ((16 : Int32) &&& 31).toUInt32).toInt32).toUInt32 >>> ((8 : Int32) &&& 31).toUInt32).toInt32).toUInt32 >>> ((4 : Int32) &&& 31).toUInt32).toInt32))]))
          refine Goes.via (fun _ kk_ => XS.istoreN X0.here hx rfl (hb hby d9_60) rfl (l' := #[vi ((((((x_.toUInt32 >>> ((16 : Int32) &&& 31).toUInt32).toInt32).toUInt32 >>> ((8 : Int32) &&& 31).toUInt32).toInt32).toUInt32 >>> ((4 : Int32) &&& 31).toUInt32).toInt32), vi (3 : Int32)]) rfl kk_) ?_
          show Goes p e below _ (s₁.setTop (mkF m 61 #[vi ((((((x_.toUInt32 >>> ((16 : Int32) &&& 31).toUInt32).toInt32).toUInt32 >>> ((8 : Int32) &&& 31).toUInt32).toInt32).toUInt32 >>> ((4 : Int32) &&& 31).toUInt32).toInt32), vi (3 : Int32)] []))
          refine gILN X0 hx hby d9_61 rfl ?_
          refine gIC (z := 4) X0 hx hby d9_62 rfl ?_
          by_cases hc63 : ((((((x_.toUInt32 >>> ((16 : Int32) &&& 31).toUInt32).toInt32).toUInt32 >>> ((8 : Int32) &&& 31).toUInt32).toInt32).toUInt32 >>> ((4 : Int32) &&& 31).toUInt32).toInt32) < (4 : Int32)
          · skip
            refine Goes.via (fun _ kk_ => XS.icmpYes X0.here hx rfl (pc0 := 63) (pc' := 73) rfl (hb hby d9_63) rfl (tlt hc63).1 (by decide) (by decide) kk_) ?_
            show Goes p e below _ (s₁.setTop (mkF m 73 #[vi ((((((x_.toUInt32 >>> ((16 : Int32) &&& 31).toUInt32).toInt32).toUInt32 >>> ((8 : Int32) &&& 31).toUInt32).toInt32).toUInt32 >>> ((4 : Int32) &&& 31).toUInt32).toInt32), vi (3 : Int32)] []))
            refine gILN X0 hx hby d9_73 rfl ?_
            refine gILN X0 hx hby d9_74 rfl ?_
            refine gIC (z := 1) X0 hx hby d9_75 rfl ?_
            refine Goes.via (fun _ kk_ => XS.iushr X0.here hx rfl (hb hby d9_76) rfl kk_) ?_
            show Goes p e below _ (s₁.setTop (mkF m 77 #[vi ((((((x_.toUInt32 >>> ((16 : Int32) &&& 31).toUInt32).toInt32).toUInt32 >>> ((8 : Int32) &&& 31).toUInt32).toInt32).toUInt32 >>> ((4 : Int32) &&& 31).toUInt32).toInt32), vi (3 : Int32)] [(.int ((((((((x_.toUInt32 >>> ((16 : Int32) &&& 31).toUInt32).toInt32).toUInt32 >>> ((8 : Int32) &&& 31).toUInt32).toInt32).toUInt32 >>> ((4 : Int32) &&& 31).toUInt32).toInt32).toUInt32 >>> ((1 : Int32) &&& 31).toUInt32).toInt32)), (.int (3 : Int32))]))
            refine Goes.via (fun _ kk_ => XS.isub X0.here hx rfl (hb hby d9_77) rfl kk_) ?_
            show Goes p e below _ (s₁.setTop (mkF m 78 #[vi ((((((x_.toUInt32 >>> ((16 : Int32) &&& 31).toUInt32).toInt32).toUInt32 >>> ((8 : Int32) &&& 31).toUInt32).toInt32).toUInt32 >>> ((4 : Int32) &&& 31).toUInt32).toInt32), vi (3 : Int32)] [(.int ((3 : Int32) - ((((((((x_.toUInt32 >>> ((16 : Int32) &&& 31).toUInt32).toInt32).toUInt32 >>> ((8 : Int32) &&& 31).toUInt32).toInt32).toUInt32 >>> ((4 : Int32) &&& 31).toUInt32).toInt32).toUInt32 >>> ((1 : Int32) &&& 31).toUInt32).toInt32)))]))
            exact own_finI X0 hx hlk hret (hb hby d9_78) (by rw [e0]; exact ⟨(by rw [own_nlzI, if_pos hc1, if_neg hc22, if_neg hc37, if_neg hc51, if_pos hc63]; first | done | rfl | exact own_nc _), rfl, rfl⟩) (by first | decide | omega | (dsimp only; omega)) (by first | decide | omega | (dsimp only; omega))
          · skip
            refine Goes.via (fun _ kk_ => XS.icmpNo X0.here hx rfl (hb hby d9_63) rfl (flt hc63).1 kk_) ?_
            show Goes p e below _ (s₁.setTop (mkF m 66 #[vi ((((((x_.toUInt32 >>> ((16 : Int32) &&& 31).toUInt32).toInt32).toUInt32 >>> ((8 : Int32) &&& 31).toUInt32).toInt32).toUInt32 >>> ((4 : Int32) &&& 31).toUInt32).toInt32), vi (3 : Int32)] []))
            refine Goes.via (fun _ kk_ => XS.iinc X0.here hx rfl (hb hby d9_66) rfl (l' := #[vi ((((((x_.toUInt32 >>> ((16 : Int32) &&& 31).toUInt32).toInt32).toUInt32 >>> ((8 : Int32) &&& 31).toUInt32).toInt32).toUInt32 >>> ((4 : Int32) &&& 31).toUInt32).toInt32), vi ((3 : Int32) + (-2 : Int32))]) rfl kk_) ?_
            show Goes p e below _ (s₁.setTop (mkF m 69 #[vi ((((((x_.toUInt32 >>> ((16 : Int32) &&& 31).toUInt32).toInt32).toUInt32 >>> ((8 : Int32) &&& 31).toUInt32).toInt32).toUInt32 >>> ((4 : Int32) &&& 31).toUInt32).toInt32), vi ((3 : Int32) + (-2 : Int32))] []))
            rw [show ((3 : Int32) + (-2 : Int32)) = (1 : Int32) from by decide]
            show Goes p e below _ (s₁.setTop (mkF m 69 #[vi ((((((x_.toUInt32 >>> ((16 : Int32) &&& 31).toUInt32).toInt32).toUInt32 >>> ((8 : Int32) &&& 31).toUInt32).toInt32).toUInt32 >>> ((4 : Int32) &&& 31).toUInt32).toInt32), vi (1 : Int32)] []))
            refine gILN X0 hx hby d9_69 rfl ?_
            refine gIC (z := 2) X0 hx hby d9_70 rfl ?_
            refine Goes.via (fun _ kk_ => XS.iushr X0.here hx rfl (hb hby d9_71) rfl kk_) ?_
            show Goes p e below _ (s₁.setTop (mkF m 72 #[vi ((((((x_.toUInt32 >>> ((16 : Int32) &&& 31).toUInt32).toInt32).toUInt32 >>> ((8 : Int32) &&& 31).toUInt32).toInt32).toUInt32 >>> ((4 : Int32) &&& 31).toUInt32).toInt32), vi (1 : Int32)] [(.int ((((((((x_.toUInt32 >>> ((16 : Int32) &&& 31).toUInt32).toInt32).toUInt32 >>> ((8 : Int32) &&& 31).toUInt32).toInt32).toUInt32 >>> ((4 : Int32) &&& 31).toUInt32).toInt32).toUInt32 >>> ((2 : Int32) &&& 31).toUInt32).toInt32))]))
            refine Goes.via (fun _ kk_ => XS.istoreN X0.here hx rfl (hb hby d9_72) rfl (l' := #[vi ((((((((x_.toUInt32 >>> ((16 : Int32) &&& 31).toUInt32).toInt32).toUInt32 >>> ((8 : Int32) &&& 31).toUInt32).toInt32).toUInt32 >>> ((4 : Int32) &&& 31).toUInt32).toInt32).toUInt32 >>> ((2 : Int32) &&& 31).toUInt32).toInt32), vi (1 : Int32)]) rfl kk_) ?_
            show Goes p e below _ (s₁.setTop (mkF m 73 #[vi ((((((((x_.toUInt32 >>> ((16 : Int32) &&& 31).toUInt32).toInt32).toUInt32 >>> ((8 : Int32) &&& 31).toUInt32).toInt32).toUInt32 >>> ((4 : Int32) &&& 31).toUInt32).toInt32).toUInt32 >>> ((2 : Int32) &&& 31).toUInt32).toInt32), vi (1 : Int32)] []))
            refine gILN X0 hx hby d9_73 rfl ?_
            refine gILN X0 hx hby d9_74 rfl ?_
            refine gIC (z := 1) X0 hx hby d9_75 rfl ?_
            refine Goes.via (fun _ kk_ => XS.iushr X0.here hx rfl (hb hby d9_76) rfl kk_) ?_
            show Goes p e below _ (s₁.setTop (mkF m 77 #[vi ((((((((x_.toUInt32 >>> ((16 : Int32) &&& 31).toUInt32).toInt32).toUInt32 >>> ((8 : Int32) &&& 31).toUInt32).toInt32).toUInt32 >>> ((4 : Int32) &&& 31).toUInt32).toInt32).toUInt32 >>> ((2 : Int32) &&& 31).toUInt32).toInt32), vi (1 : Int32)] [(.int ((((((((((x_.toUInt32 >>> ((16 : Int32) &&& 31).toUInt32).toInt32).toUInt32 >>> ((8 : Int32) &&& 31).toUInt32).toInt32).toUInt32 >>> ((4 : Int32) &&& 31).toUInt32).toInt32).toUInt32 >>> ((2 : Int32) &&& 31).toUInt32).toInt32).toUInt32 >>> ((1 : Int32) &&& 31).toUInt32).toInt32)), (.int (1 : Int32))]))
            refine Goes.via (fun _ kk_ => XS.isub X0.here hx rfl (hb hby d9_77) rfl kk_) ?_
            show Goes p e below _ (s₁.setTop (mkF m 78 #[vi ((((((((x_.toUInt32 >>> ((16 : Int32) &&& 31).toUInt32).toInt32).toUInt32 >>> ((8 : Int32) &&& 31).toUInt32).toInt32).toUInt32 >>> ((4 : Int32) &&& 31).toUInt32).toInt32).toUInt32 >>> ((2 : Int32) &&& 31).toUInt32).toInt32), vi (1 : Int32)] [(.int ((1 : Int32) - ((((((((((x_.toUInt32 >>> ((16 : Int32) &&& 31).toUInt32).toInt32).toUInt32 >>> ((8 : Int32) &&& 31).toUInt32).toInt32).toUInt32 >>> ((4 : Int32) &&& 31).toUInt32).toInt32).toUInt32 >>> ((2 : Int32) &&& 31).toUInt32).toInt32).toUInt32 >>> ((1 : Int32) &&& 31).toUInt32).toInt32)))]))
            exact own_finI X0 hx hlk hret (hb hby d9_78) (by rw [e0]; exact ⟨(by rw [own_nlzI, if_pos hc1, if_neg hc22, if_neg hc37, if_neg hc51, if_neg hc63]; first | done | rfl | exact own_nc _), rfl, rfl⟩) (by first | decide | omega | (dsimp only; omega)) (by first | decide | omega | (dsimp only; omega))
  · skip
    refine Goes.via (fun _ kk_ => XS.ifNo X0.here hx rfl (hb hby d9_1) rfl ((if0 _ _).trans (flt hc1).2.2.1) kk_) ?_
    show Goes p e below _ (s₁.setTop (mkF m 4 #[vi x_, .unset] []))
    refine gILN X0 hx hby d9_4 rfl ?_
    by_cases hc5 : x_ = (0 : Int32)
    · skip
      refine Goes.via (fun _ kk_ => XS.ifNo X0.here hx rfl (hb hby d9_5) rfl ((if0 _ _).trans (teq hc5).2) kk_) ?_
      show Goes p e below _ (s₁.setTop (mkF m 8 #[vi x_, .unset] []))
      refine gBI (z := 32) X0 hx hby d9_8 rfl ?_
      refine Goes.via (fun _ kk_ => XS.goto X0.here hx rfl (pc0 := 10) (pc' := 14) rfl (hb hby d9_10) (by decide) (by decide) kk_) ?_
      show Goes p e below _ (s₁.setTop (mkF m 14 #[vi x_, .unset] [(.int (32 : Int32))]))
      exact own_finI X0 hx hlk hret (hb hby d9_14) (by rw [e0]; exact ⟨(by rw [own_nlzI, if_neg hc1, if_pos hc5]; first | done | rfl | exact own_nc _), rfl, rfl⟩) (by first | decide | omega | (dsimp only; omega)) (by first | decide | omega | (dsimp only; omega))
    · skip
      refine Goes.via (fun _ kk_ => XS.ifYes X0.here hx rfl (pc0 := 5) (pc' := 13) rfl (hb hby d9_5) rfl ((if0 _ _).trans (feq hc5).2) (by decide) (by decide) kk_) ?_
      show Goes p e below _ (s₁.setTop (mkF m 13 #[vi x_, .unset] []))
      refine gIC (z := 0) X0 hx hby d9_13 rfl ?_
      exact own_finI X0 hx hlk hret (hb hby d9_14) (by rw [e0]; exact ⟨(by rw [own_nlzI, if_neg hc1, if_neg hc5]; first | done | rfl | exact own_nc _), rfl, rfl⟩) (by first | decide | omega | (dsimp only; omega)) (by first | decide | omega | (dsimp only; omega))
def own_nlzL (x_ : Int64) : Int32 := (if (((x_.toUInt64 >>> ((32 : Int32) &&& 0x3f).toInt64.toUInt64).toInt64).toInt32) = (0 : Int32) then ((32 : Int32) + (own_nlzI (x_.toInt32))) else (own_nlzI (((x_.toUInt64 >>> ((32 : Int32) &&& 0x3f).toInt64.toUInt64).toInt64).toInt32)))
theorem ef_rm8 (m : MethodId) (x_ : Int64) : entryFrame m #[(.long x_)] 3 = mkF m 0 #[.val (.long x_), .second, .unset] [] := by first | (simp [entryFrame, mkF, argsToLocals, Value.category]; done) | rfl
def Qrm8 (Z : State) (x_ : Int64) (h0 : Heap) (n0 : Nat) (v_ : Option Value) (h_ : Heap) (L_ : List Loc) : Prop := v_ = some (.int (own_nlzL x_)) ∧ L_ = [] ∧ h_ = h0
theorem pn_java_lang_Long : plainName "java/lang/Long" = true := by first | (simp [plainName, overriddenIn]; done) | decide +kernel
theorem d8_0 : decode jdk_35_method_48_code 0 = .ok (.lload_n 0, 1) := by decide +kernel
theorem d8_1 : decode jdk_35_method_48_code 1 = .ok (.bipush 32, 2) := by decide +kernel
theorem d8_3 : decode jdk_35_method_48_code 3 = .ok (.lushr, 1) := by decide +kernel
theorem d8_4 : decode jdk_35_method_48_code 4 = .ok (.l2i, 1) := by decide +kernel
theorem d8_5 : decode jdk_35_method_48_code 5 = .ok (.istore_n 2, 1) := by decide +kernel
theorem d8_6 : decode jdk_35_method_48_code 6 = .ok (.iload_n 2, 1) := by decide +kernel
theorem d8_7 : decode jdk_35_method_48_code 7 = .ok (.ifCond .ne 14, 3) := by decide +kernel
theorem d8_10 : decode jdk_35_method_48_code 10 = .ok (.bipush 32, 2) := by decide +kernel
theorem d8_12 : decode jdk_35_method_48_code 12 = .ok (.lload_n 0, 1) := by decide +kernel
theorem d8_13 : decode jdk_35_method_48_code 13 = .ok (.l2i, 1) := by decide +kernel
theorem pd_0 : parseMethodDescriptor "(I)I" = some ⟨[.int], some .int⟩ := by decide +kernel
theorem d8_14 : decode jdk_35_method_48_code 14 = .ok (.invokestatic 308, 3) := by decide +kernel
abbrev mN_Integer_numberOfLeadingZeros : MethodName := ⟨"java/lang/Integer", "numberOfLeadingZeros", "(I)I"⟩
theorem d8_17 : decode jdk_35_method_48_code 17 = .ok (.iadd, 1) := by decide +kernel
theorem d8_18 : decode jdk_35_method_48_code 18 = .ok (.goto 7, 3) := by decide +kernel
theorem d8_25 : decode jdk_35_method_48_code 25 = .ok (.ireturn, 1) := by decide +kernel
theorem d8_21 : decode jdk_35_method_48_code 21 = .ok (.iload_n 2, 1) := by decide +kernel
theorem d8_22 : decode jdk_35_method_48_code 22 = .ok (.invokestatic 308, 3) := by decide +kernel
set_option maxRecDepth 65536 in
set_option maxHeartbeats 40000000 in
theorem rm8 (l : Launch) (Z : State) (a0 : Array Value) (hw : ∀ d ∈ tables_1, d.before a0 Z = true) (ws : List Jvm.Cond) (x_ : Int64) (h0 : Heap) (n0 : Nat) (Z0 : n0 ≤ h0.size) :
    MetFree l (⟨"java/lang/Long", "numberOfLeadingZeros", "(J)I"⟩ : MethodName) (head1 (Jvm.Cond.code (⟨"java/lang/Long", "numberOfLeadingZeros", "(J)I"⟩ : MethodName) jdk_35_method_48_code 3 (some .int) :: ws) ({ frames := 1, cells := 0, slots := 0, locals := 14 } : Room)) (fun as_ U_ => as_ = #[(.long x_)] ∧ Z.Warmed39 U_.vm ∧ U_.heap = h0) (fun _ _ _ _ _ => True) (fun _ U_ o_ V_ => ∃ v_ L_, o_ = .returned v_ ∧ Qrm8 Z x_ h0 n0 v_ V_.heap L_ ∧ FrameEnd U_ o_ V_ L_ ({ frames := 1, cells := 0, slots := 0, locals := 14 } : Room).cells ({ frames := 1, cells := 0, slots := 0, locals := 14 } : Room).slots) := by
  refine MetFree.of_bodySF (plainFor_of_name pn_java_lang_Long) hisR ?_
  intro p e s m args below meth c s₁ Bd hml0 hP hK
  obtain ⟨rfl, hZ, hh⟩ := hP
  have hx := Bd.exec
  have hby := Bd.bytes
  have hlk : meth.locks = false := BodyLoose.notSynchronized Bd
  have hret := Bd.returns
  have hml : c.maxLocals = 3 := hml0
  have hown : s.vm.findClass "java/lang/Long" = some m.cls := findClass_of_methodNamed Bd.named
  have hnm := (name_of_methodNamed Bd.named Bd.method).1
  have X0 : Stand p l e ({ frames := 1, cells := 0, slots := 0, locals := 14 } : Room) s m #[(.long x_)] below meth c s₁ [] 0 0 := Stand.of_body Bd
  have e0 : s₁.heap = h0 := by rw [← hh, Bd.state]; rfl
  have N0 := Fr.nil n0
  show Goes p e below (Fin_ s (Qrm8 Z x_ h0 n0) ({ frames := 1, cells := 0, slots := 0, locals := 14 } : Room).cells ({ frames := 1, cells := 0, slots := 0, locals := 14 } : Room).slots) (s₁.setTop (entryFrame m #[(.long x_)] 3))
  rw [ef_rm8 m x_]
  refine Goes.via (fun _ kk_ => XS.lloadN X0.here hx rfl (hb hby d8_0) rfl  kk_) ?_
  show Goes p e below _ (s₁.setTop (mkF m 1 #[.val (.long x_), .second, .unset] [(.long x_)]))
  refine gBI (z := 32) X0 hx hby d8_1 rfl ?_
  refine Goes.via (fun _ kk_ => XS.lushr X0.here hx rfl (hb hby d8_3) rfl kk_) ?_
  show Goes p e below _ (s₁.setTop (mkF m 4 #[.val (.long x_), .second, .unset] [(.long ((x_.toUInt64 >>> ((32 : Int32) &&& 0x3f).toInt64.toUInt64).toInt64))]))
  refine Goes.via (fun _ kk_ => XS.l2i X0.here hx rfl (hb hby d8_4) rfl kk_) ?_
  show Goes p e below _ (s₁.setTop (mkF m 5 #[.val (.long x_), .second, .unset] [(.int (((x_.toUInt64 >>> ((32 : Int32) &&& 0x3f).toInt64.toUInt64).toInt64).toInt32))]))
  refine Goes.via (fun _ kk_ => XS.istoreN X0.here hx rfl (hb hby d8_5) rfl (l' := #[.val (.long x_), .second, vi (((x_.toUInt64 >>> ((32 : Int32) &&& 0x3f).toInt64.toUInt64).toInt64).toInt32)]) rfl kk_) ?_
  show Goes p e below _ (s₁.setTop (mkF m 6 #[.val (.long x_), .second, vi (((x_.toUInt64 >>> ((32 : Int32) &&& 0x3f).toInt64.toUInt64).toInt64).toInt32)] []))
  refine gILN X0 hx hby d8_6 rfl ?_
  by_cases hc7 : (((x_.toUInt64 >>> ((32 : Int32) &&& 0x3f).toInt64.toUInt64).toInt64).toInt32) = (0 : Int32)
  · skip
    refine Goes.via (fun _ kk_ => XS.ifNo X0.here hx rfl (hb hby d8_7) rfl ((if0 _ _).trans (teq hc7).2) kk_) ?_
    show Goes p e below _ (s₁.setTop (mkF m 10 #[.val (.long x_), .second, vi (((x_.toUInt64 >>> ((32 : Int32) &&& 0x3f).toInt64.toUInt64).toInt64).toInt32)] []))
    refine gBI (z := 32) X0 hx hby d8_10 rfl ?_
    refine Goes.via (fun _ kk_ => XS.lloadN X0.here hx rfl (hb hby d8_12) rfl  kk_) ?_
    show Goes p e below _ (s₁.setTop (mkF m 13 #[.val (.long x_), .second, vi (((x_.toUInt64 >>> ((32 : Int32) &&& 0x3f).toInt64.toUInt64).toInt64).toInt32)] [(.long x_), (.int (32 : Int32))]))
    refine Goes.via (fun _ kk_ => XS.l2i X0.here hx rfl (hb hby d8_13) rfl kk_) ?_
    show Goes p e below _ (s₁.setTop (mkF m 14 #[.val (.long x_), .second, vi (((x_.toUInt64 >>> ((32 : Int32) &&& 0x3f).toInt64.toUInt64).toInt64).toInt32)] [(.int (x_.toInt32)), (.int (32 : Int32))]))
    obtain ⟨_, _, ⟨T1, L1, k1, n1⟩, -, X1, ⟨Lc1, hQ1, l1, y1, z1⟩, st1⟩ := Jvm.LawKit.callS X0 hx (y := mN_Integer_numberOfLeadingZeros) hown (mvT hZ (own_w hw 68 rfl)) (mvT hZ (own_w hw 69 rfl)) (mvT hZ (own_w hw 45 rfl)) (mvT hZ (own_w hw 70 rfl)) (by decide) (backOf (W := 1) (rm9 l Z a0 hw [] (x_.toInt32) h0 n0 (Nat.le_trans Z0 (Nat.le_refl _)) ) hZ (own_w hw 70 rfl) (own_w hw 45 rfl) (by decide) (by decide)) (g := (mkF m 14 #[.val (.long x_), .second, vi (((x_.toUInt64 >>> ((32 : Int32) &&& 0x3f).toInt64.toUInt64).toInt64).toInt32)] [(.int (x_.toInt32)), (.int (32 : Int32))])) rfl (by rw [hml]; rfl) (argsL := [(.int (x_.toInt32))]) (rest := [(.int (32 : Int32))]) (lenOf pd_0 rfl) rfl (by show 2 * 0 + _ ≤ _; exact Nat.le_of_eq rfl) (hb hby d8_14) (fun _ _ => ⟨rfl, e0, (by decide : 0 + 0 ≤ _), (by decide : 0 + 0 ≤ _)⟩)
    dsimp only [Pt.U, Pt.locs, Pt.cells, Pt.slots] at X1 l1 y1 z1 st1 hQ1
    replace l1 := l1.symm
    subst l1 y1 z1
    obtain ⟨rfl, rfl, e1⟩ := hQ1
    first | rw [List.append_nil] at X1 | skip
    refine Goes.via st1 ?_
    have e1' : T1.heap = h0 := e1
    show Goes p e below _ (T1.setTop (mkF m 17 #[.val (.long x_), .second, vi (((x_.toUInt64 >>> ((32 : Int32) &&& 0x3f).toInt64.toUInt64).toInt64).toInt32)] [(.int (own_nlzI (x_.toInt32))), (.int (32 : Int32))]))
    refine Goes.via (fun _ kk_ => XS.iadd X1.here hx rfl (hb hby d8_17) rfl kk_) ?_
    show Goes p e below _ (T1.setTop (mkF m 18 #[.val (.long x_), .second, vi (((x_.toUInt64 >>> ((32 : Int32) &&& 0x3f).toInt64.toUInt64).toInt64).toInt32)] [(.int ((32 : Int32) + (own_nlzI (x_.toInt32))))]))
    refine Goes.via (fun _ kk_ => XS.goto X1.here hx rfl (pc0 := 18) (pc' := 25) rfl (hb hby d8_18) (by decide) (by decide) kk_) ?_
    show Goes p e below _ (T1.setTop (mkF m 25 #[.val (.long x_), .second, vi (((x_.toUInt64 >>> ((32 : Int32) &&& 0x3f).toInt64.toUInt64).toInt64).toInt32)] [(.int ((32 : Int32) + (own_nlzI (x_.toInt32))))]))
    exact own_finI X1 hx hlk hret (hb hby d8_25) (by rw [e1']; exact ⟨(by rw [own_nlzL, if_pos hc7]; first | done | rfl | exact own_nc _), rfl, rfl⟩) (by first | decide | omega | (dsimp only; omega)) (by first | decide | omega | (dsimp only; omega))
  · skip
    refine Goes.via (fun _ kk_ => XS.ifYes X0.here hx rfl (pc0 := 7) (pc' := 21) rfl (hb hby d8_7) rfl ((if0 _ _).trans (feq hc7).2) (by decide) (by decide) kk_) ?_
    show Goes p e below _ (s₁.setTop (mkF m 21 #[.val (.long x_), .second, vi (((x_.toUInt64 >>> ((32 : Int32) &&& 0x3f).toInt64.toUInt64).toInt64).toInt32)] []))
    refine gILN X0 hx hby d8_21 rfl ?_
    obtain ⟨_, _, ⟨T2, L2, k2, n2⟩, -, X2, ⟨Lc2, hQ2, l2, y2, z2⟩, st2⟩ := Jvm.LawKit.callS X0 hx (y := mN_Integer_numberOfLeadingZeros) hown (mvT hZ (own_w hw 68 rfl)) (mvT hZ (own_w hw 69 rfl)) (mvT hZ (own_w hw 45 rfl)) (mvT hZ (own_w hw 70 rfl)) (by decide) (backOf (W := 0) (rm9 l Z a0 hw [] (((x_.toUInt64 >>> ((32 : Int32) &&& 0x3f).toInt64.toUInt64).toInt64).toInt32) h0 n0 (Nat.le_trans Z0 (Nat.le_refl _)) ) hZ (own_w hw 70 rfl) (own_w hw 45 rfl) (by decide) (by decide)) (g := (mkF m 22 #[.val (.long x_), .second, vi (((x_.toUInt64 >>> ((32 : Int32) &&& 0x3f).toInt64.toUInt64).toInt64).toInt32)] [(.int (((x_.toUInt64 >>> ((32 : Int32) &&& 0x3f).toInt64.toUInt64).toInt64).toInt32))])) rfl (by rw [hml]; rfl) (argsL := [(.int (((x_.toUInt64 >>> ((32 : Int32) &&& 0x3f).toInt64.toUInt64).toInt64).toInt32))]) (rest := []) (lenOf pd_0 rfl) rfl (by show 2 * 0 + _ ≤ _; exact Nat.le_of_eq rfl) (hb hby d8_22) (fun _ _ => ⟨rfl, e0, (by decide : 0 + 0 ≤ _), (by decide : 0 + 0 ≤ _)⟩)
    dsimp only [Pt.U, Pt.locs, Pt.cells, Pt.slots] at X2 l2 y2 z2 st2 hQ2
    replace l2 := l2.symm
    subst l2 y2 z2
    obtain ⟨rfl, rfl, e2⟩ := hQ2
    first | rw [List.append_nil] at X2 | skip
    refine Goes.via st2 ?_
    have e2' : T2.heap = h0 := e2
    show Goes p e below _ (T2.setTop (mkF m 25 #[.val (.long x_), .second, vi (((x_.toUInt64 >>> ((32 : Int32) &&& 0x3f).toInt64.toUInt64).toInt64).toInt32)] [(.int (own_nlzI (((x_.toUInt64 >>> ((32 : Int32) &&& 0x3f).toInt64.toUInt64).toInt64).toInt32)))]))
    exact own_finI X2 hx hlk hret (hb hby d8_25) (by rw [e2']; exact ⟨(by rw [own_nlzL, if_neg hc7]; first | done | rfl | exact own_nc _), rfl, rfl⟩) (by first | decide | omega | (dsimp only; omega)) (by first | decide | omega | (dsimp only; omega))
theorem own_sh {x : Int32} (k : Int32) (n : Nat) (hk : k.toBitVec.toNat % 32 = n) (h0 : 0 < n) (h : 0 ≤ x.toInt) : ((x.toUInt32 >>> (k &&& 31).toUInt32).toInt32).toInt = x.toInt / (2 ^ n : Nat) := by
  rw [c_iushr x k n hk h0]
  have q := rng32 x
  rw [Int.emod_eq_of_lt h (by omega)]
theorem own_nlzS {C y : Int32} {c S : Nat} {X : Int} (hC : C.toInt = (31 : Int) - S) (hS : S ≤ 30) (h1 : 1 ≤ y.toInt) (h3 : y.toInt ≤ 3) (hX : y.toInt = X / (2 ^ S : Nat)) (hX0 : 0 ≤ X) : ∃ m : Nat, m ≤ 31 ∧ (C - ((y.toUInt32 >>> ((1 : Int32) &&& 31).toUInt32).toInt32)).toInt = 31 - (m : Int) ∧ ((2 ^ m : Nat) : Int) ≤ X ∧ X < ((2 ^ (m + 1) : Nat) : Int) := by
  have q1 := own_sh (x := y) (1 : Int32) 1 (by decide) (by decide) (by omega)
  have q2 := c_isub C ((y.toUInt32 >>> ((1 : Int32) &&& 31).toUInt32).toInt32)
  have q3 := rng32 (C - ((y.toUInt32 >>> ((1 : Int32) &&& 31).toUInt32).toInt32))
  have p1 : (2 ^ 1 : Nat) = 2 := by decide
  rw [p1] at q1
  have hp : 0 < ((2 ^ S : Nat) : Int) := by
    have := Nat.two_pow_pos S
    omega
  have d1 := Int.mul_ediv_add_emod X ((2 ^ S : Nat) : Int)
  have d2 := Int.emod_nonneg X (Int.ne_of_gt hp)
  have d3 := Int.emod_lt_of_pos X hp
  rw [← hX] at d1
  have e1 : (2 ^ (S + 1) : Nat) = 2 * 2 ^ S := by rw [Nat.pow_succ]; omega
  have e2 : (2 ^ (S + 2) : Nat) = 4 * 2 ^ S := by rw [Nat.pow_succ, Nat.pow_succ]; omega
  generalize ((2 ^ S : Nat)) = P at *
  rcases (by omega : y.toInt = 1 ∨ y.toInt = 2 ∨ y.toInt = 3) with z | z | z
  · refine ⟨S, by omega, by omega, ?_, ?_⟩
    · rw [z] at d1; omega
    · rw [e1]; rw [z] at d1; push_cast; omega
  · refine ⟨S + 1, by omega, by omega, ?_, ?_⟩
    · rw [e1]; rw [z] at d1; push_cast; omega
    · rw [e2]; rw [z] at d1; push_cast; omega
  · refine ⟨S + 1, by omega, by omega, ?_, ?_⟩
    · rw [e1]; rw [z] at d1; push_cast; omega
    · rw [e2]; rw [z] at d1; push_cast; omega
theorem own_nlzP (x : Int32) (hx : 0 < x.toInt) : ∃ m : Nat, m ≤ 31 ∧ (own_nlzI x).toInt = 31 - (m : Int) ∧ ((2 ^ m : Nat) : Int) ≤ x.toInt ∧ x.toInt < ((2 ^ (m + 1) : Nat) : Int) := by
  have r0 := rng32 x
  have z0 : (0 : Int32).toInt = 0 := by decide
  unfold own_nlzI
  rw [if_pos (own_lti.mpr (by omega : (0 : Int32).toInt < x.toInt))]
  have eq_ : x.toInt = x.toInt / ((2 ^ 0 : Nat) : Int) := by rw [show ((2 ^ 0 : Nat) : Int) = 1 by decide]; omega
  by_cases c0 : x < (65536 : Int32)
  · rw [if_pos c0]
    have t0 : (65536 : Int32).toInt = 65536 := by decide
    have u0 := own_lti.mp c0
    have h0 : x.toInt < 65536 := by omega
    by_cases c1 : x < (256 : Int32)
    · rw [if_pos c1]
      have t1 : (256 : Int32).toInt = 256 := by decide
      have u1 := own_lti.mp c1
      have h1 : x.toInt < 256 := by omega
      by_cases c2 : x < (16 : Int32)
      · rw [if_pos c2]
        have t2 : (16 : Int32).toInt = 16 := by decide
        have u2 := own_lti.mp c2
        have h2 : x.toInt < 16 := by omega
        by_cases c3 : x < (4 : Int32)
        · rw [if_pos c3]
          have t3 : (4 : Int32).toInt = 4 := by decide
          have u3 := own_lti.mp c3
          have h3 : x.toInt < 4 := by omega
          exact own_nlzS (c := 0) (S := 0) (by decide) (by decide) (by omega) (by omega) eq_ (by omega)
        · rw [if_neg c3]
          have t3 : (4 : Int32).toInt = 4 := by decide
          have u3 : ¬ _ := fun q => c3 (own_lti.mpr q)
          have s3 := own_sh (x := x) (2 : Int32) 2 (by decide) (by decide) (by omega)
          rw [show ((2 ^ 2 : Nat) : Int) = 4 by decide] at s3
          have l3 : 1 ≤ ((x.toUInt32 >>> ((2 : Int32) &&& 31).toUInt32).toInt32).toInt := by omega
          have h3 : ((x.toUInt32 >>> ((2 : Int32) &&& 31).toUInt32).toInt32).toInt < 4 := by omega
          have q3 : ((x.toUInt32 >>> ((2 : Int32) &&& 31).toUInt32).toInt32).toInt = x.toInt / ((2 ^ 2 : Nat) : Int) := by rw [show ((2 ^ 2 : Nat) : Int) = 4 by decide]; rw [show ((2 ^ 0 : Nat) : Int) = 1 by decide] at eq_; omega
          exact own_nlzS (c := 0) (S := 2) (by decide) (by decide) l3 (by omega) q3 (by omega)
      · rw [if_neg c2]
        have t2 : (16 : Int32).toInt = 16 := by decide
        have u2 : ¬ _ := fun q => c2 (own_lti.mpr q)
        have s2 := own_sh (x := x) (4 : Int32) 4 (by decide) (by decide) (by omega)
        rw [show ((2 ^ 4 : Nat) : Int) = 16 by decide] at s2
        have l2 : 1 ≤ ((x.toUInt32 >>> ((4 : Int32) &&& 31).toUInt32).toInt32).toInt := by omega
        have h2 : ((x.toUInt32 >>> ((4 : Int32) &&& 31).toUInt32).toInt32).toInt < 16 := by omega
        have q2 : ((x.toUInt32 >>> ((4 : Int32) &&& 31).toUInt32).toInt32).toInt = x.toInt / ((2 ^ 4 : Nat) : Int) := by rw [show ((2 ^ 4 : Nat) : Int) = 16 by decide]; rw [show ((2 ^ 0 : Nat) : Int) = 1 by decide] at eq_; omega
        by_cases c3 : ((x.toUInt32 >>> ((4 : Int32) &&& 31).toUInt32).toInt32) < (4 : Int32)
        · rw [if_pos c3]
          have t3 : (4 : Int32).toInt = 4 := by decide
          have u3 := own_lti.mp c3
          have h3 : ((x.toUInt32 >>> ((4 : Int32) &&& 31).toUInt32).toInt32).toInt < 4 := by omega
          exact own_nlzS (c := 0) (S := 4) (by decide) (by decide) l2 (by omega) q2 (by omega)
        · rw [if_neg c3]
          have t3 : (4 : Int32).toInt = 4 := by decide
          have u3 : ¬ _ := fun q => c3 (own_lti.mpr q)
          have s3 := own_sh (x := ((x.toUInt32 >>> ((4 : Int32) &&& 31).toUInt32).toInt32)) (2 : Int32) 2 (by decide) (by decide) (by omega)
          rw [show ((2 ^ 2 : Nat) : Int) = 4 by decide] at s3
          have l3 : 1 ≤ ((((x.toUInt32 >>> ((4 : Int32) &&& 31).toUInt32).toInt32).toUInt32 >>> ((2 : Int32) &&& 31).toUInt32).toInt32).toInt := by omega
          have h3 : ((((x.toUInt32 >>> ((4 : Int32) &&& 31).toUInt32).toInt32).toUInt32 >>> ((2 : Int32) &&& 31).toUInt32).toInt32).toInt < 4 := by omega
          have q3 : ((((x.toUInt32 >>> ((4 : Int32) &&& 31).toUInt32).toInt32).toUInt32 >>> ((2 : Int32) &&& 31).toUInt32).toInt32).toInt = x.toInt / ((2 ^ 6 : Nat) : Int) := by rw [show ((2 ^ 6 : Nat) : Int) = 64 by decide]; rw [show ((2 ^ 4 : Nat) : Int) = 16 by decide] at q2; omega
          exact own_nlzS (c := 0) (S := 6) (by decide) (by decide) l3 (by omega) q3 (by omega)
    · rw [if_neg c1]
      have t1 : (256 : Int32).toInt = 256 := by decide
      have u1 : ¬ _ := fun q => c1 (own_lti.mpr q)
      have s1 := own_sh (x := x) (8 : Int32) 8 (by decide) (by decide) (by omega)
      rw [show ((2 ^ 8 : Nat) : Int) = 256 by decide] at s1
      have l1 : 1 ≤ ((x.toUInt32 >>> ((8 : Int32) &&& 31).toUInt32).toInt32).toInt := by omega
      have h1 : ((x.toUInt32 >>> ((8 : Int32) &&& 31).toUInt32).toInt32).toInt < 256 := by omega
      have q1 : ((x.toUInt32 >>> ((8 : Int32) &&& 31).toUInt32).toInt32).toInt = x.toInt / ((2 ^ 8 : Nat) : Int) := by rw [show ((2 ^ 8 : Nat) : Int) = 256 by decide]; rw [show ((2 ^ 0 : Nat) : Int) = 1 by decide] at eq_; omega
      by_cases c2 : ((x.toUInt32 >>> ((8 : Int32) &&& 31).toUInt32).toInt32) < (16 : Int32)
      · rw [if_pos c2]
        have t2 : (16 : Int32).toInt = 16 := by decide
        have u2 := own_lti.mp c2
        have h2 : ((x.toUInt32 >>> ((8 : Int32) &&& 31).toUInt32).toInt32).toInt < 16 := by omega
        by_cases c3 : ((x.toUInt32 >>> ((8 : Int32) &&& 31).toUInt32).toInt32) < (4 : Int32)
        · rw [if_pos c3]
          have t3 : (4 : Int32).toInt = 4 := by decide
          have u3 := own_lti.mp c3
          have h3 : ((x.toUInt32 >>> ((8 : Int32) &&& 31).toUInt32).toInt32).toInt < 4 := by omega
          exact own_nlzS (c := 0) (S := 8) (by decide) (by decide) l1 (by omega) q1 (by omega)
        · rw [if_neg c3]
          have t3 : (4 : Int32).toInt = 4 := by decide
          have u3 : ¬ _ := fun q => c3 (own_lti.mpr q)
          have s3 := own_sh (x := ((x.toUInt32 >>> ((8 : Int32) &&& 31).toUInt32).toInt32)) (2 : Int32) 2 (by decide) (by decide) (by omega)
          rw [show ((2 ^ 2 : Nat) : Int) = 4 by decide] at s3
          have l3 : 1 ≤ ((((x.toUInt32 >>> ((8 : Int32) &&& 31).toUInt32).toInt32).toUInt32 >>> ((2 : Int32) &&& 31).toUInt32).toInt32).toInt := by omega
          have h3 : ((((x.toUInt32 >>> ((8 : Int32) &&& 31).toUInt32).toInt32).toUInt32 >>> ((2 : Int32) &&& 31).toUInt32).toInt32).toInt < 4 := by omega
          have q3 : ((((x.toUInt32 >>> ((8 : Int32) &&& 31).toUInt32).toInt32).toUInt32 >>> ((2 : Int32) &&& 31).toUInt32).toInt32).toInt = x.toInt / ((2 ^ 10 : Nat) : Int) := by rw [show ((2 ^ 10 : Nat) : Int) = 1024 by decide]; rw [show ((2 ^ 8 : Nat) : Int) = 256 by decide] at q1; omega
          exact own_nlzS (c := 0) (S := 10) (by decide) (by decide) l3 (by omega) q3 (by omega)
      · rw [if_neg c2]
        have t2 : (16 : Int32).toInt = 16 := by decide
        have u2 : ¬ _ := fun q => c2 (own_lti.mpr q)
        have s2 := own_sh (x := ((x.toUInt32 >>> ((8 : Int32) &&& 31).toUInt32).toInt32)) (4 : Int32) 4 (by decide) (by decide) (by omega)
        rw [show ((2 ^ 4 : Nat) : Int) = 16 by decide] at s2
        have l2 : 1 ≤ ((((x.toUInt32 >>> ((8 : Int32) &&& 31).toUInt32).toInt32).toUInt32 >>> ((4 : Int32) &&& 31).toUInt32).toInt32).toInt := by omega
        have h2 : ((((x.toUInt32 >>> ((8 : Int32) &&& 31).toUInt32).toInt32).toUInt32 >>> ((4 : Int32) &&& 31).toUInt32).toInt32).toInt < 16 := by omega
        have q2 : ((((x.toUInt32 >>> ((8 : Int32) &&& 31).toUInt32).toInt32).toUInt32 >>> ((4 : Int32) &&& 31).toUInt32).toInt32).toInt = x.toInt / ((2 ^ 12 : Nat) : Int) := by rw [show ((2 ^ 12 : Nat) : Int) = 4096 by decide]; rw [show ((2 ^ 8 : Nat) : Int) = 256 by decide] at q1; omega
        by_cases c3 : ((((x.toUInt32 >>> ((8 : Int32) &&& 31).toUInt32).toInt32).toUInt32 >>> ((4 : Int32) &&& 31).toUInt32).toInt32) < (4 : Int32)
        · rw [if_pos c3]
          have t3 : (4 : Int32).toInt = 4 := by decide
          have u3 := own_lti.mp c3
          have h3 : ((((x.toUInt32 >>> ((8 : Int32) &&& 31).toUInt32).toInt32).toUInt32 >>> ((4 : Int32) &&& 31).toUInt32).toInt32).toInt < 4 := by omega
          exact own_nlzS (c := 0) (S := 12) (by decide) (by decide) l2 (by omega) q2 (by omega)
        · rw [if_neg c3]
          have t3 : (4 : Int32).toInt = 4 := by decide
          have u3 : ¬ _ := fun q => c3 (own_lti.mpr q)
          have s3 := own_sh (x := ((((x.toUInt32 >>> ((8 : Int32) &&& 31).toUInt32).toInt32).toUInt32 >>> ((4 : Int32) &&& 31).toUInt32).toInt32)) (2 : Int32) 2 (by decide) (by decide) (by omega)
          rw [show ((2 ^ 2 : Nat) : Int) = 4 by decide] at s3
          have l3 : 1 ≤ ((((((x.toUInt32 >>> ((8 : Int32) &&& 31).toUInt32).toInt32).toUInt32 >>> ((4 : Int32) &&& 31).toUInt32).toInt32).toUInt32 >>> ((2 : Int32) &&& 31).toUInt32).toInt32).toInt := by omega
          have h3 : ((((((x.toUInt32 >>> ((8 : Int32) &&& 31).toUInt32).toInt32).toUInt32 >>> ((4 : Int32) &&& 31).toUInt32).toInt32).toUInt32 >>> ((2 : Int32) &&& 31).toUInt32).toInt32).toInt < 4 := by omega
          have q3 : ((((((x.toUInt32 >>> ((8 : Int32) &&& 31).toUInt32).toInt32).toUInt32 >>> ((4 : Int32) &&& 31).toUInt32).toInt32).toUInt32 >>> ((2 : Int32) &&& 31).toUInt32).toInt32).toInt = x.toInt / ((2 ^ 14 : Nat) : Int) := by rw [show ((2 ^ 14 : Nat) : Int) = 16384 by decide]; rw [show ((2 ^ 12 : Nat) : Int) = 4096 by decide] at q2; omega
          exact own_nlzS (c := 0) (S := 14) (by decide) (by decide) l3 (by omega) q3 (by omega)
  · rw [if_neg c0]
    have t0 : (65536 : Int32).toInt = 65536 := by decide
    have u0 : ¬ _ := fun q => c0 (own_lti.mpr q)
    have s0 := own_sh (x := x) (16 : Int32) 16 (by decide) (by decide) (by omega)
    rw [show ((2 ^ 16 : Nat) : Int) = 65536 by decide] at s0
    have l0 : 1 ≤ ((x.toUInt32 >>> ((16 : Int32) &&& 31).toUInt32).toInt32).toInt := by omega
    have h0 : ((x.toUInt32 >>> ((16 : Int32) &&& 31).toUInt32).toInt32).toInt < 65536 := by omega
    have q0 : ((x.toUInt32 >>> ((16 : Int32) &&& 31).toUInt32).toInt32).toInt = x.toInt / ((2 ^ 16 : Nat) : Int) := by rw [show ((2 ^ 16 : Nat) : Int) = 65536 by decide]; rw [show ((2 ^ 0 : Nat) : Int) = 1 by decide] at eq_; omega
    by_cases c1 : ((x.toUInt32 >>> ((16 : Int32) &&& 31).toUInt32).toInt32) < (256 : Int32)
    · rw [if_pos c1]
      have t1 : (256 : Int32).toInt = 256 := by decide
      have u1 := own_lti.mp c1
      have h1 : ((x.toUInt32 >>> ((16 : Int32) &&& 31).toUInt32).toInt32).toInt < 256 := by omega
      by_cases c2 : ((x.toUInt32 >>> ((16 : Int32) &&& 31).toUInt32).toInt32) < (16 : Int32)
      · rw [if_pos c2]
        have t2 : (16 : Int32).toInt = 16 := by decide
        have u2 := own_lti.mp c2
        have h2 : ((x.toUInt32 >>> ((16 : Int32) &&& 31).toUInt32).toInt32).toInt < 16 := by omega
        by_cases c3 : ((x.toUInt32 >>> ((16 : Int32) &&& 31).toUInt32).toInt32) < (4 : Int32)
        · rw [if_pos c3]
          have t3 : (4 : Int32).toInt = 4 := by decide
          have u3 := own_lti.mp c3
          have h3 : ((x.toUInt32 >>> ((16 : Int32) &&& 31).toUInt32).toInt32).toInt < 4 := by omega
          exact own_nlzS (c := 0) (S := 16) (by decide) (by decide) l0 (by omega) q0 (by omega)
        · rw [if_neg c3]
          have t3 : (4 : Int32).toInt = 4 := by decide
          have u3 : ¬ _ := fun q => c3 (own_lti.mpr q)
          have s3 := own_sh (x := ((x.toUInt32 >>> ((16 : Int32) &&& 31).toUInt32).toInt32)) (2 : Int32) 2 (by decide) (by decide) (by omega)
          rw [show ((2 ^ 2 : Nat) : Int) = 4 by decide] at s3
          have l3 : 1 ≤ ((((x.toUInt32 >>> ((16 : Int32) &&& 31).toUInt32).toInt32).toUInt32 >>> ((2 : Int32) &&& 31).toUInt32).toInt32).toInt := by omega
          have h3 : ((((x.toUInt32 >>> ((16 : Int32) &&& 31).toUInt32).toInt32).toUInt32 >>> ((2 : Int32) &&& 31).toUInt32).toInt32).toInt < 4 := by omega
          have q3 : ((((x.toUInt32 >>> ((16 : Int32) &&& 31).toUInt32).toInt32).toUInt32 >>> ((2 : Int32) &&& 31).toUInt32).toInt32).toInt = x.toInt / ((2 ^ 18 : Nat) : Int) := by rw [show ((2 ^ 18 : Nat) : Int) = 262144 by decide]; rw [show ((2 ^ 16 : Nat) : Int) = 65536 by decide] at q0; omega
          exact own_nlzS (c := 0) (S := 18) (by decide) (by decide) l3 (by omega) q3 (by omega)
      · rw [if_neg c2]
        have t2 : (16 : Int32).toInt = 16 := by decide
        have u2 : ¬ _ := fun q => c2 (own_lti.mpr q)
        have s2 := own_sh (x := ((x.toUInt32 >>> ((16 : Int32) &&& 31).toUInt32).toInt32)) (4 : Int32) 4 (by decide) (by decide) (by omega)
        rw [show ((2 ^ 4 : Nat) : Int) = 16 by decide] at s2
        have l2 : 1 ≤ ((((x.toUInt32 >>> ((16 : Int32) &&& 31).toUInt32).toInt32).toUInt32 >>> ((4 : Int32) &&& 31).toUInt32).toInt32).toInt := by omega
        have h2 : ((((x.toUInt32 >>> ((16 : Int32) &&& 31).toUInt32).toInt32).toUInt32 >>> ((4 : Int32) &&& 31).toUInt32).toInt32).toInt < 16 := by omega
        have q2 : ((((x.toUInt32 >>> ((16 : Int32) &&& 31).toUInt32).toInt32).toUInt32 >>> ((4 : Int32) &&& 31).toUInt32).toInt32).toInt = x.toInt / ((2 ^ 20 : Nat) : Int) := by rw [show ((2 ^ 20 : Nat) : Int) = 1048576 by decide]; rw [show ((2 ^ 16 : Nat) : Int) = 65536 by decide] at q0; omega
        by_cases c3 : ((((x.toUInt32 >>> ((16 : Int32) &&& 31).toUInt32).toInt32).toUInt32 >>> ((4 : Int32) &&& 31).toUInt32).toInt32) < (4 : Int32)
        · rw [if_pos c3]
          have t3 : (4 : Int32).toInt = 4 := by decide
          have u3 := own_lti.mp c3
          have h3 : ((((x.toUInt32 >>> ((16 : Int32) &&& 31).toUInt32).toInt32).toUInt32 >>> ((4 : Int32) &&& 31).toUInt32).toInt32).toInt < 4 := by omega
          exact own_nlzS (c := 0) (S := 20) (by decide) (by decide) l2 (by omega) q2 (by omega)
        · rw [if_neg c3]
          have t3 : (4 : Int32).toInt = 4 := by decide
          have u3 : ¬ _ := fun q => c3 (own_lti.mpr q)
          have s3 := own_sh (x := ((((x.toUInt32 >>> ((16 : Int32) &&& 31).toUInt32).toInt32).toUInt32 >>> ((4 : Int32) &&& 31).toUInt32).toInt32)) (2 : Int32) 2 (by decide) (by decide) (by omega)
          rw [show ((2 ^ 2 : Nat) : Int) = 4 by decide] at s3
          have l3 : 1 ≤ ((((((x.toUInt32 >>> ((16 : Int32) &&& 31).toUInt32).toInt32).toUInt32 >>> ((4 : Int32) &&& 31).toUInt32).toInt32).toUInt32 >>> ((2 : Int32) &&& 31).toUInt32).toInt32).toInt := by omega
          have h3 : ((((((x.toUInt32 >>> ((16 : Int32) &&& 31).toUInt32).toInt32).toUInt32 >>> ((4 : Int32) &&& 31).toUInt32).toInt32).toUInt32 >>> ((2 : Int32) &&& 31).toUInt32).toInt32).toInt < 4 := by omega
          have q3 : ((((((x.toUInt32 >>> ((16 : Int32) &&& 31).toUInt32).toInt32).toUInt32 >>> ((4 : Int32) &&& 31).toUInt32).toInt32).toUInt32 >>> ((2 : Int32) &&& 31).toUInt32).toInt32).toInt = x.toInt / ((2 ^ 22 : Nat) : Int) := by rw [show ((2 ^ 22 : Nat) : Int) = 4194304 by decide]; rw [show ((2 ^ 20 : Nat) : Int) = 1048576 by decide] at q2; omega
          exact own_nlzS (c := 0) (S := 22) (by decide) (by decide) l3 (by omega) q3 (by omega)
    · rw [if_neg c1]
      have t1 : (256 : Int32).toInt = 256 := by decide
      have u1 : ¬ _ := fun q => c1 (own_lti.mpr q)
      have s1 := own_sh (x := ((x.toUInt32 >>> ((16 : Int32) &&& 31).toUInt32).toInt32)) (8 : Int32) 8 (by decide) (by decide) (by omega)
      rw [show ((2 ^ 8 : Nat) : Int) = 256 by decide] at s1
      have l1 : 1 ≤ ((((x.toUInt32 >>> ((16 : Int32) &&& 31).toUInt32).toInt32).toUInt32 >>> ((8 : Int32) &&& 31).toUInt32).toInt32).toInt := by omega
      have h1 : ((((x.toUInt32 >>> ((16 : Int32) &&& 31).toUInt32).toInt32).toUInt32 >>> ((8 : Int32) &&& 31).toUInt32).toInt32).toInt < 256 := by omega
      have q1 : ((((x.toUInt32 >>> ((16 : Int32) &&& 31).toUInt32).toInt32).toUInt32 >>> ((8 : Int32) &&& 31).toUInt32).toInt32).toInt = x.toInt / ((2 ^ 24 : Nat) : Int) := by rw [show ((2 ^ 24 : Nat) : Int) = 16777216 by decide]; rw [show ((2 ^ 16 : Nat) : Int) = 65536 by decide] at q0; omega
      by_cases c2 : ((((x.toUInt32 >>> ((16 : Int32) &&& 31).toUInt32).toInt32).toUInt32 >>> ((8 : Int32) &&& 31).toUInt32).toInt32) < (16 : Int32)
      · rw [if_pos c2]
        have t2 : (16 : Int32).toInt = 16 := by decide
        have u2 := own_lti.mp c2
        have h2 : ((((x.toUInt32 >>> ((16 : Int32) &&& 31).toUInt32).toInt32).toUInt32 >>> ((8 : Int32) &&& 31).toUInt32).toInt32).toInt < 16 := by omega
        by_cases c3 : ((((x.toUInt32 >>> ((16 : Int32) &&& 31).toUInt32).toInt32).toUInt32 >>> ((8 : Int32) &&& 31).toUInt32).toInt32) < (4 : Int32)
        · rw [if_pos c3]
          have t3 : (4 : Int32).toInt = 4 := by decide
          have u3 := own_lti.mp c3
          have h3 : ((((x.toUInt32 >>> ((16 : Int32) &&& 31).toUInt32).toInt32).toUInt32 >>> ((8 : Int32) &&& 31).toUInt32).toInt32).toInt < 4 := by omega
          exact own_nlzS (c := 0) (S := 24) (by decide) (by decide) l1 (by omega) q1 (by omega)
        · rw [if_neg c3]
          have t3 : (4 : Int32).toInt = 4 := by decide
          have u3 : ¬ _ := fun q => c3 (own_lti.mpr q)
          have s3 := own_sh (x := ((((x.toUInt32 >>> ((16 : Int32) &&& 31).toUInt32).toInt32).toUInt32 >>> ((8 : Int32) &&& 31).toUInt32).toInt32)) (2 : Int32) 2 (by decide) (by decide) (by omega)
          rw [show ((2 ^ 2 : Nat) : Int) = 4 by decide] at s3
          have l3 : 1 ≤ ((((((x.toUInt32 >>> ((16 : Int32) &&& 31).toUInt32).toInt32).toUInt32 >>> ((8 : Int32) &&& 31).toUInt32).toInt32).toUInt32 >>> ((2 : Int32) &&& 31).toUInt32).toInt32).toInt := by omega
          have h3 : ((((((x.toUInt32 >>> ((16 : Int32) &&& 31).toUInt32).toInt32).toUInt32 >>> ((8 : Int32) &&& 31).toUInt32).toInt32).toUInt32 >>> ((2 : Int32) &&& 31).toUInt32).toInt32).toInt < 4 := by omega
          have q3 : ((((((x.toUInt32 >>> ((16 : Int32) &&& 31).toUInt32).toInt32).toUInt32 >>> ((8 : Int32) &&& 31).toUInt32).toInt32).toUInt32 >>> ((2 : Int32) &&& 31).toUInt32).toInt32).toInt = x.toInt / ((2 ^ 26 : Nat) : Int) := by rw [show ((2 ^ 26 : Nat) : Int) = 67108864 by decide]; rw [show ((2 ^ 24 : Nat) : Int) = 16777216 by decide] at q1; omega
          exact own_nlzS (c := 0) (S := 26) (by decide) (by decide) l3 (by omega) q3 (by omega)
      · rw [if_neg c2]
        have t2 : (16 : Int32).toInt = 16 := by decide
        have u2 : ¬ _ := fun q => c2 (own_lti.mpr q)
        have s2 := own_sh (x := ((((x.toUInt32 >>> ((16 : Int32) &&& 31).toUInt32).toInt32).toUInt32 >>> ((8 : Int32) &&& 31).toUInt32).toInt32)) (4 : Int32) 4 (by decide) (by decide) (by omega)
        rw [show ((2 ^ 4 : Nat) : Int) = 16 by decide] at s2
        have l2 : 1 ≤ ((((((x.toUInt32 >>> ((16 : Int32) &&& 31).toUInt32).toInt32).toUInt32 >>> ((8 : Int32) &&& 31).toUInt32).toInt32).toUInt32 >>> ((4 : Int32) &&& 31).toUInt32).toInt32).toInt := by omega
        have h2 : ((((((x.toUInt32 >>> ((16 : Int32) &&& 31).toUInt32).toInt32).toUInt32 >>> ((8 : Int32) &&& 31).toUInt32).toInt32).toUInt32 >>> ((4 : Int32) &&& 31).toUInt32).toInt32).toInt < 16 := by omega
        have q2 : ((((((x.toUInt32 >>> ((16 : Int32) &&& 31).toUInt32).toInt32).toUInt32 >>> ((8 : Int32) &&& 31).toUInt32).toInt32).toUInt32 >>> ((4 : Int32) &&& 31).toUInt32).toInt32).toInt = x.toInt / ((2 ^ 28 : Nat) : Int) := by rw [show ((2 ^ 28 : Nat) : Int) = 268435456 by decide]; rw [show ((2 ^ 24 : Nat) : Int) = 16777216 by decide] at q1; omega
        by_cases c3 : ((((((x.toUInt32 >>> ((16 : Int32) &&& 31).toUInt32).toInt32).toUInt32 >>> ((8 : Int32) &&& 31).toUInt32).toInt32).toUInt32 >>> ((4 : Int32) &&& 31).toUInt32).toInt32) < (4 : Int32)
        · rw [if_pos c3]
          have t3 : (4 : Int32).toInt = 4 := by decide
          have u3 := own_lti.mp c3
          have h3 : ((((((x.toUInt32 >>> ((16 : Int32) &&& 31).toUInt32).toInt32).toUInt32 >>> ((8 : Int32) &&& 31).toUInt32).toInt32).toUInt32 >>> ((4 : Int32) &&& 31).toUInt32).toInt32).toInt < 4 := by omega
          exact own_nlzS (c := 0) (S := 28) (by decide) (by decide) l2 (by omega) q2 (by omega)
        · rw [if_neg c3]
          have t3 : (4 : Int32).toInt = 4 := by decide
          have u3 : ¬ _ := fun q => c3 (own_lti.mpr q)
          have s3 := own_sh (x := ((((((x.toUInt32 >>> ((16 : Int32) &&& 31).toUInt32).toInt32).toUInt32 >>> ((8 : Int32) &&& 31).toUInt32).toInt32).toUInt32 >>> ((4 : Int32) &&& 31).toUInt32).toInt32)) (2 : Int32) 2 (by decide) (by decide) (by omega)
          rw [show ((2 ^ 2 : Nat) : Int) = 4 by decide] at s3
          have l3 : 1 ≤ ((((((((x.toUInt32 >>> ((16 : Int32) &&& 31).toUInt32).toInt32).toUInt32 >>> ((8 : Int32) &&& 31).toUInt32).toInt32).toUInt32 >>> ((4 : Int32) &&& 31).toUInt32).toInt32).toUInt32 >>> ((2 : Int32) &&& 31).toUInt32).toInt32).toInt := by omega
          have h3 : ((((((((x.toUInt32 >>> ((16 : Int32) &&& 31).toUInt32).toInt32).toUInt32 >>> ((8 : Int32) &&& 31).toUInt32).toInt32).toUInt32 >>> ((4 : Int32) &&& 31).toUInt32).toInt32).toUInt32 >>> ((2 : Int32) &&& 31).toUInt32).toInt32).toInt < 4 := by omega
          have q3 : ((((((((x.toUInt32 >>> ((16 : Int32) &&& 31).toUInt32).toInt32).toUInt32 >>> ((8 : Int32) &&& 31).toUInt32).toInt32).toUInt32 >>> ((4 : Int32) &&& 31).toUInt32).toInt32).toUInt32 >>> ((2 : Int32) &&& 31).toUInt32).toInt32).toInt = x.toInt / ((2 ^ 30 : Nat) : Int) := by rw [show ((2 ^ 30 : Nat) : Int) = 1073741824 by decide]; rw [show ((2 ^ 28 : Nat) : Int) = 268435456 by decide] at q2; omega
          exact own_nlzS (c := 0) (S := 30) (by decide) (by decide) l3 (by omega) q3 (by omega)
theorem own_nlzN (x : Int32) (h : x.toInt < 0) : own_nlzI x = (0 : Int32) := by
  have z0 : (0 : Int32).toInt = 0 := by decide
  unfold own_nlzI
  rw [if_neg (fun q => by have := own_lti.mp q; omega), if_neg (fun q => by rw [q] at h; omega)]
theorem own_nlzLP (x : Int64) (hx : 0 < x.toInt) : ∃ m : Nat, m ≤ 63 ∧ (own_nlzL x).toInt = 63 - (m : Int) ∧ ((2 ^ m : Nat) : Int) ≤ x.toInt ∧ x.toInt < ((2 ^ (m + 1) : Nat) : Int) := by
  have r0 := rng64 x
  have s0 := c_lushr x (32 : Int32) 32 (by decide) (by decide)
  rw [Int.emod_eq_of_lt (by omega) (by omega), show ((2 ^ 32 : Nat) : Int) = 4294967296 by decide] at s0
  have s1 := c_l2i ((x.toUInt64 >>> ((32 : Int32) &&& 0x3f).toInt64.toUInt64).toInt64)
  have s2 := rng32 ((x.toUInt64 >>> ((32 : Int32) &&& 0x3f).toInt64.toUInt64).toInt64).toInt32
  unfold own_nlzL
  generalize ((x.toUInt64 >>> ((32 : Int32) &&& 0x3f).toInt64.toUInt64).toInt64).toInt32 = y at *
  have e : y.toInt = x.toInt / 4294967296 := by omega
  have z0 : (0 : Int32).toInt = 0 := by decide
  by_cases h : y = (0 : Int32)
  · rw [if_pos h]
    rw [h, z0] at e
    have t1 := c_l2i x
    have t2 := rng32 x.toInt32
    have a1 := c_iadd (32 : Int32) (own_nlzI x.toInt32)
    have a2 := rng32 ((32 : Int32) + own_nlzI x.toInt32)
    have a3 : (32 : Int32).toInt = 32 := by decide
    by_cases q : x.toInt < 2147483648
    · have e2 : x.toInt32.toInt = x.toInt := by omega
      obtain ⟨m, m1, m2, m3, m4⟩ := own_nlzP x.toInt32 (by omega)
      rw [e2] at m3 m4
      exact ⟨m, by omega, by omega, m3, m4⟩
    · have n := own_nlzN x.toInt32 (by omega)
      rw [n, z0] at a1
      rw [n] at a2 ⊢
      refine ⟨31, by decide, by omega, ?_, ?_⟩
      · rw [show ((2 ^ 31 : Nat) : Int) = 2147483648 by decide]; omega
      · rw [show ((2 ^ (31 + 1) : Nat) : Int) = 4294967296 by decide]; omega
  · rw [if_neg h]
    have h' : y.toInt ≠ 0 := fun q => h (Int32.toInt_inj.mp (q.trans z0.symm))
    obtain ⟨m, m1, m2, m3, m4⟩ := own_nlzP y (by omega)
    refine ⟨m + 32, by omega, by omega, ?_, ?_⟩
    · rw [Nat.pow_add, show (2 ^ 32 : Nat) = 4294967296 by decide]; generalize (2 ^ m : Nat) = P at *; omega
    · rw [show m + 32 + 1 = (m + 1) + 32 by omega, Nat.pow_add, show (2 ^ 32 : Nat) = 4294967296 by decide]; generalize (2 ^ (m + 1) : Nat) = P at *; omega

def own_sum (f : Nat → Nat) : Nat → Nat
  | 0 => 0
  | k + 1 => own_sum f k + f k
theorem own_sumZ : ∀ k, own_sum (fun _ => 0) k = 0
  | 0 => rfl
  | k + 1 => by rw [own_sum, own_sumZ k]
theorem own_sumM (f : Nat → Nat) : ∀ (k j : Nat), j ≤ k → own_sum f j ≤ own_sum f k
  | 0, j, h => by
    obtain rfl : j = 0 := by omega
    exact Nat.le_refl _
  | k + 1, j, h => by
    rw [own_sum]
    by_cases q : j = k + 1
    · rw [q, own_sum]
      exact Nat.le_refl _
    · have := own_sumM f k j (by omega)
      omega
theorem own_sumL (f : Nat → Nat) {b k : Nat} (h : b < k) : f b ≤ own_sum f k := by
  have q := own_sumM f k (b + 1) h
  rw [own_sum] at q
  omega
theorem own_sumE (f g : Nat → Nat) : ∀ k, (∀ i, i < k → f i = g i) → own_sum f k = own_sum g k
  | 0, _ => rfl
  | k + 1, h => by rw [own_sum, own_sum, own_sumE f g k (fun i hi => h i (by omega)), h k (by omega)]
theorem own_sumU (f : Nat → Nat) (b x : Nat) : ∀ k, b < k → own_sum (own_cu f b x) k + f b = own_sum f k + x
  | 0, h => by omega
  | k + 1, h => by
    rw [own_sum, own_sum]
    by_cases q : b = k
    · subst q
      rw [own_sumE (own_cu f b x) f b (fun i hi => by unfold own_cu; rw [if_neg (by omega)])]
      have : own_cu f b x b = x := by unfold own_cu; rw [if_pos rfl]
      omega
    · have r := own_sumU f b x k (by omega)
      have : own_cu f b x k = f k := by unfold own_cu; rw [if_neg (by omega)]
      omega
theorem own_sumX (f : Nat → Nat) : ∀ k, 0 < own_sum f k → ∃ b, b < k ∧ f b ≠ 0
  | 0, h => by
    rw [own_sum] at h
    omega
  | k + 1, h => by
    rw [own_sum] at h
    by_cases q : f k = 0
    · obtain ⟨b, h1, h2⟩ := own_sumX f k (by omega)
      exact ⟨b, by omega, h2⟩
    · exact ⟨k, by omega, q⟩
theorem own_cuS {α : Type} (f : Nat → α) (b : Nat) (x : α) : own_cu f b x b = x := if_pos rfl
theorem own_cuN {α : Type} (f : Nat → α) {b i : Nat} (x : α) (q : i ≠ b) : own_cu f b x i = f i := if_neg q
theorem own_on {n : Nat} (h : n < 100) : (Int32.ofNat n).toInt = (n : Int) := Int32.toInt_ofNat_of_lt (by omega)
theorem own_on1 (n : Nat) : Int32.ofNat n + (1 : Int32) = Int32.ofNat (n + 1) := (Int32.ofNat_add n 1).symm
theorem own_on0 {n : Nat} (h : n < 100) : Int32.ofNat n = (0 : Int32) ↔ n = 0 := by
  constructor
  · intro q
    have r := own_on h
    rw [q] at r
    have z : (0 : Int32).toInt = 0 := by decide
    omega
  · rintro rfl
    rfl
theorem own_i1 {x : Int32} (h : 0 ≤ x.toInt) (h' : x.toInt < 1000) : (x + (1 : Int32)).toInt = x.toInt + 1 := by
  have q := c_iadd x 1
  have q1 := rng32 (x + 1)
  have q2 : (1 : Int32).toInt = 1 := by decide
  omega
theorem own_d1 {x : Int32} (h : 1 ≤ x.toInt) (h' : x.toInt < 1000) : (x - (1 : Int32)).toInt = x.toInt - 1 := by
  have q := c_isub x 1
  have q1 := rng32 (x - 1)
  have q2 : (1 : Int32).toInt = 1 := by decide
  omega
theorem own_lt0 {x : Int32} (h : 0 ≤ x.toInt) : ¬ x < (0 : Int32) := fun q => by
  have := own_lti.mp q
  have z : (0 : Int32).toInt = 0 := by decide
  omega
theorem own_nat {x : Int32} (h : 0 ≤ x.toInt) : ∃ n : Nat, x.toInt = (n : Int) := ⟨x.toInt.toNat, by omega⟩
/-- the bucket of a difference -/
theorem own_bkt (x : Int64) : ∃ nb : Nat, ((64 : Int32) - (own_nlzL x)).toInt = (nb : Int) ∧ nb < 65 ∧ (x = (0 : Int64) → nb = 0) := by
  have a1 := c_isub (64 : Int32) (own_nlzL x)
  have a2 := rng32 ((64 : Int32) - own_nlzL x)
  have a3 : (64 : Int32).toInt = 64 := by decide
  rcases Int.lt_trichotomy x.toInt 0 with q | q | q
  · have z : own_nlzL x = (0 : Int32) := by
      have s0 := c_lushr x (32 : Int32) 32 (by decide) (by decide)
      have r0 := rng64 x
      rw [show ((2 ^ 32 : Nat) : Int) = 4294967296 by decide] at s0
      have s1 := c_l2i ((x.toUInt64 >>> ((32 : Int32) &&& 0x3f).toInt64.toUInt64).toInt64)
      have s2 := rng32 ((x.toUInt64 >>> ((32 : Int32) &&& 0x3f).toInt64.toUInt64).toInt64).toInt32
      unfold own_nlzL
      generalize ((x.toUInt64 >>> ((32 : Int32) &&& 0x3f).toInt64.toUInt64).toInt64).toInt32 = y at *
      have hy : y.toInt < 0 := by omega
      have z0 : (0 : Int32).toInt = 0 := by decide
      rw [if_neg (fun g => by rw [g] at hy; omega)]
      exact own_nlzN y hy
    rw [z] at a1 a2 ⊢
    have z0 : (0 : Int32).toInt = 0 := by decide
    refine ⟨64, by omega, by decide, fun g => ?_⟩
    rw [g] at q
    have z1 : (0 : Int64).toInt = 0 := by decide
    omega
  · have hx : x = (0 : Int64) := Int64.toInt_inj.mp (q.trans (by decide))
    subst hx
    exact ⟨0, by decide +kernel, by decide, fun _ => rfl⟩
  · obtain ⟨m, m1, m2, m3, m4⟩ := own_nlzLP x q
    refine ⟨m + 1, by omega, by omega, fun g => ?_⟩
    rw [g] at q
    have z1 : (0 : Int64).toInt = 0 := by decide
    omega
theorem own_x0 {x y : Int64} (h : x = y) : x ^^^ y = (0 : Int64) := by rw [h, Int64.xor_self]
/-- what is true between the calls -/
def own_R2 (gS : Nat → Nat → Int32) : Prop := ∀ b i, 0 ≤ (gS b i).toInt ∧ (gS b i).toInt < 64
def own_R1 (fF : Nat → Int32) : Prop := ∀ i, 0 ≤ (fF i).toInt ∧ (fF i).toInt < 64
theorem own_R2u {gS : Nat → Nat → Int32} {i j : Nat} {x : Int32} (h : own_R2 gS) (hx : 0 ≤ x.toInt ∧ x.toInt < 64) : own_R2 (own_gu gS i j x) := fun b k => by
  unfold own_gu
  by_cases q : b = i ∧ k = j
  · rw [if_pos q]
    exact hx
  · rw [if_neg q]
    exact h b k
theorem own_R1u {fF : Nat → Int32} {i : Nat} {x : Int32} (h : own_R1 fF) (hx : 0 ≤ x.toInt ∧ x.toInt < 64) : own_R1 (own_cu fF i x) := fun k => by
  unfold own_cu
  by_cases q : k = i
  · rw [if_pos q]
    exact hx
  · rw [if_neg q]
    exact h k
def own_I (K : Nat) (sz fi fs us : Int32) (cn : Nat → Nat) (gS : Nat → Nat → Int32) (fF : Nat → Int32) : Prop :=
  (0 ≤ sz.toInt ∧ 0 ≤ fi.toInt ∧ fi.toInt ≤ (cn 0 : Int) ∧ (own_sum cn 65 : Int) = sz.toInt + fi.toInt ∧ own_sum cn 65 ≤ K ∧ 0 ≤ fs.toInt ∧ fs.toInt ≤ (K : Int) ∧ 0 ≤ us.toInt ∧ us.toInt ≤ (K : Int)) ∧ own_R2 gS ∧ own_R1 fF
theorem own_I0 : own_I 0 (0 : Int32) (0 : Int32) (0 : Int32) (0 : Int32) (fun _ => 0) (fun _ _ => (0 : Int32)) (fun _ => (0 : Int32)) := by
  refine ⟨?_, fun _ _ => (by decide : 0 ≤ (0 : Int32).toInt ∧ (0 : Int32).toInt < 64), fun _ => (by decide : 0 ≤ (0 : Int32).toInt ∧ (0 : Int32).toInt < 64)⟩
  rw [own_sumZ]
  decide
theorem own_Iadd {K nb j : Nat} {sz fi fs us fs' us' sv : Int32} {cn : Nat → Nat} {gS : Nat → Nat → Int32} {fF : Nat → Int32} (h : own_I K sz fi fs us cn gS fF) (hK : K ≤ 4) (hnb : nb < 65) (hs : 0 ≤ sv.toInt ∧ sv.toInt < 64) (h1 : 0 ≤ fs'.toInt ∧ fs'.toInt ≤ (K : Int) + 1) (h2 : 0 ≤ us'.toInt ∧ us'.toInt ≤ (K : Int) + 1) : own_I (K + 1) (sz + (1 : Int32)) fi fs' us' (own_cu cn nb (cn nb + 1)) (own_gu gS nb j sv) fF := by
  obtain ⟨⟨a1, a2, a3, a4, a5, a6, a7, a8, a9⟩, b1, b2⟩ := h
  have q := own_sumU cn nb (cn nb + 1) 65 hnb
  have q1 := own_i1 a1 (by omega)
  have q2 : cn 0 ≤ own_cu cn nb (cn nb + 1) 0 := by
    unfold own_cu
    by_cases z : 0 = nb
    · rw [if_pos z, ← z]
      omega
    · rw [if_neg z]
      omega
  refine ⟨⟨by omega, a2, by omega, by omega, by omega, h1.1, ?_, h2.1, ?_⟩, own_R2u b1 hs, b2⟩
  · push_cast
    omega
  · push_cast
    omega
theorem own_Ipoll {K j : Nat} {sz fi fs us sv : Int32} {cn : Nat → Nat} {gS : Nat → Nat → Int32} {fF : Nat → Int32} (h : own_I K sz fi fs us cn gS fF) (hK : K ≤ 4) (h0 : 1 ≤ sz.toInt) (h1 : fi.toInt < (cn 0 : Int)) (hs : 0 ≤ sv.toInt ∧ sv.toInt < 64) : own_I (K + 1) (sz - (1 : Int32)) (fi + (1 : Int32)) (fs + (1 : Int32)) us cn gS (own_cu fF j sv) := by
  obtain ⟨⟨a1, a2, a3, a4, a5, a6, a7, a8, a9⟩, b1, b2⟩ := h
  have q1 := own_d1 h0 (by omega)
  have q2 := own_i1 a2 (by omega)
  have q3 := own_i1 a6 (by omega)
  refine ⟨⟨by omega, by omega, by omega, by omega, by omega, by omega, ?_, a8, ?_⟩, b1, own_R1u b2 hs⟩
  · push_cast
    omega
  · push_cast
    omega
theorem own_Ideal {K : Nat} {sz fi fs us : Int32} {cn cn' : Nat → Nat} {gS gS' : Nat → Nat → Int32} {fF : Nat → Int32} (h : own_I K sz fi fs us cn gS fF) (h1 : (own_sum cn' 65 : Int) = sz.toInt) (h2 : own_R2 gS') : own_I K sz (0 : Int32) fs us cn' gS' fF := by
  obtain ⟨⟨a1, a2, a3, a4, a5, a6, a7, a8, a9⟩, b1, b2⟩ := h
  have z : (0 : Int32).toInt = 0 := by decide
  exact ⟨⟨a1, by omega, by omega, by omega, by omega, a6, a7, a8, a9⟩, h2, b2⟩
/-- how many entries are taken ahead of bucket b -/
def own_t (cn : Nat → Nat) (f b : Nat) : Nat := own_sum cn b - (if b = 0 then 0 else f)
def own_st (f b : Nat) : Nat := if b = 0 then f else 0
def own_cz (cn : Nat → Nat) (b : Nat) : Nat → Nat := fun i => if i < b then 0 else cn i
theorem own_tS {cn : Nat → Nat} {f : Nat} (hf : f ≤ cn 0) : ∀ b, own_t cn f (b + 1) + own_st f b = own_t cn f b + cn b
  | 0 => by
    unfold own_t own_st
    rw [if_pos rfl, if_pos rfl, if_neg (by omega)]
    have z1 : own_sum cn (0 + 1) = own_sum cn 0 + cn 0 := rfl
    have z0 : own_sum cn 0 = 0 := rfl
    omega
  | b + 1 => by
    unfold own_t own_st
    rw [if_neg (by omega), if_neg (by omega), if_neg (by omega), own_sum]
    have q : cn 0 ≤ own_sum cn (b + 1) := own_sumL cn (by omega)
    omega
theorem own_tM {cn : Nat → Nat} {f : Nat} (hf : f ≤ cn 0) {b : Nat} (hb : b < 65) : own_t cn f (b + 1) ≤ own_t cn f 65 := by
  unfold own_t
  rw [if_neg (by omega), if_neg (by omega)]
  have := own_sumM cn 65 (b + 1) hb
  omega
theorem own_t65 {cn : Nat → Nat} {f : Nat} : own_t cn f 65 = own_sum cn 65 - f := by
  unfold own_t
  rw [if_neg (by decide)]
theorem own_czS (cn : Nat → Nat) (b : Nat) (i : Nat) : own_cu (own_cz cn b) b 0 i = own_cz cn (b + 1) i := by
  unfold own_cu own_cz
  by_cases q : i = b
  · rw [if_pos q, if_pos (by omega)]
  · rw [if_neg q]
    by_cases g : i < b
    · rw [if_pos g, if_pos (by omega)]
    · rw [if_neg g, if_neg (by omega)]
theorem own_cz0 (cn : Nat → Nat) (i : Nat) : own_cz cn 0 i = cn i := by
  unfold own_cz
  rw [if_neg (by omega)]
theorem own_czz (cn : Nat → Nat) : own_sum (own_cz cn 65) 65 = 0 := by
  rw [own_sumE (own_cz cn 65) (fun _ => 0) 65 (fun i hi => by unfold own_cz; rw [if_pos hi]), own_sumZ]
theorem own_nx {cn : Nat → Nat} {nb : Nat} (h : ∃ z, nb ≤ z ∧ z < 65 ∧ cn z ≠ 0) (h0 : cn nb = 0) : ∃ z, nb + 1 ≤ z ∧ z < 65 ∧ cn z ≠ 0 := by
  obtain ⟨z, z1, z2, z3⟩ := h
  rcases Nat.eq_or_lt_of_le z1 with g | g
  · rw [← g] at z3
    exact absurd h0 z3
  · exact ⟨z, g, z2, z3⟩
theorem own_cuL {f : Nat → Nat} {b a i : Nat} (h : f a ≤ i) : own_cu f b (f b + 1) a ≤ i + 1 := by
  unfold own_cu
  by_cases q : a = b
  · rw [if_pos q, ← q]
    omega
  · rw [if_neg q]
    omega
theorem own_hm {cv : Nat → Nat} {g : Nat → Int64} {mt : Int64} {i n nc : Nat} (h : (∃ k, i ≤ k ∧ k < n ∧ g k = mt) ∨ 1 ≤ cv 0) (h0 : g i = mt → nc = 0) : (∃ k, i + 1 ≤ k ∧ k < n ∧ g k = mt) ∨ 1 ≤ own_cu cv nc (cv nc + 1) 0 := by
  rcases h with ⟨k, k1, k2, k3⟩ | q
  · rcases Nat.eq_or_lt_of_le k1 with z | z
    · right
      have := h0 (by rw [z]; exact k3)
      subst this
      rw [own_cuS]
      omega
    · exact Or.inl ⟨k, z, k2, k3⟩
  · right
    unfold own_cu
    by_cases z : 0 = nc
    · rw [if_pos z]
      omega
    · rw [if_neg z]
      exact q
theorem own_h1 {g : Nat → Int64} {mt : Int64} {i n c : Nat} (h : (∃ k, i ≤ k ∧ k < n ∧ g k = mt) ∨ 1 ≤ c) (hi : i = n) : 1 ≤ c := by
  rcases h with ⟨k, k1, k2, -⟩ | q
  · omega
  · exact q
theorem own_st2 {cn : Nat → Nat} {nf : Nat} (b : Nat) (hf : nf ≤ cn 0) : own_st nf b ≤ cn b := by
  unfold own_st
  by_cases z : b = 0
  · rw [if_pos z, z]
    exact hf
  · rw [if_neg z]
    omega
theorem own_pos {x : Int32} (h : 0 ≤ x.toInt) (hz : ¬ x = (0 : Int32)) : 1 ≤ x.toInt := by
  rcases Int.lt_or_eq_of_le h with g | g
  · omega
  · exact absurd (Int32.toInt_inj.mp (g.symm.trans (by decide))) hz
theorem own_qX {cn : Nat → Nat} (h : 0 < own_sum (own_cu cn 0 0) 65) : ∃ z, 1 ≤ z ∧ z < 65 ∧ own_cu cn 0 0 z ≠ 0 := by
  obtain ⟨z, z1, z2⟩ := own_sumX (own_cu cn 0 0) 65 h
  rcases Nat.eq_zero_or_pos z with g | g
  · rw [g, own_cuS] at z2
    exact absurd rfl z2
  · exact ⟨z, g, z1, z2⟩
theorem own_flt {x : Int32} {n : Nat} (hn : n < 100) (h : x.toInt ≤ (n : Int)) (hz : ¬ x = Int32.ofNat n) : x.toInt < (n : Int) := by
  rcases Int.lt_or_eq_of_le h with g | g
  · exact g
  · exact absurd (Int32.toInt_inj.mp (g.trans (own_on hn).symm)) hz
theorem own_t0 (cn : Nat → Nat) (f : Nat) : own_t cn f 0 = 0 := by
  unfold own_t
  rw [if_pos rfl]
  rfl

def own_min (x_ : Int64) (y_ : Int64) : Int64 := (if y_ < x_ then y_ else x_)
theorem ef_rm15 (m : MethodId) (x_ : Int64) (y_ : Int64) : entryFrame m #[(.long x_), (.long y_)] 4 = mkF m 0 #[.val (.long x_), .second, .val (.long y_), .second] [] := by first | (simp [entryFrame, mkF, argsToLocals, Value.category]; done) | rfl
def Qrm15 (Z : State) (x_ : Int64) (y_ : Int64) (h0 : Heap) (n0 : Nat) (v_ : Option Value) (h_ : Heap) (L_ : List Loc) : Prop := v_ = some (.long (own_min x_ y_)) ∧ L_ = [] ∧ h_ = h0
theorem d15_0 : decode jdk_29_method_70_code 0 = .ok (.lload_n 0, 1) := by decide +kernel
theorem d15_1 : decode jdk_29_method_70_code 1 = .ok (.lload_n 2, 1) := by decide +kernel
theorem d15_2 : decode jdk_29_method_70_code 2 = .ok (.lcmp, 1) := by decide +kernel
theorem d15_3 : decode jdk_29_method_70_code 3 = .ok (.ifCond .gt 7, 3) := by decide +kernel
theorem d15_10 : decode jdk_29_method_70_code 10 = .ok (.lload_n 2, 1) := by decide +kernel
theorem d15_11 : decode jdk_29_method_70_code 11 = .ok (.lreturn, 1) := by decide +kernel
theorem d15_6 : decode jdk_29_method_70_code 6 = .ok (.lload_n 0, 1) := by decide +kernel
theorem d15_7 : decode jdk_29_method_70_code 7 = .ok (.goto 4, 3) := by decide +kernel
set_option maxRecDepth 65536 in
set_option maxHeartbeats 40000000 in
theorem rm15 (l : Launch) (Z : State) (a0 : Array Value) (hw : ∀ d ∈ tables_1, d.before a0 Z = true) (ws : List Jvm.Cond) (x_ : Int64) (y_ : Int64) (h0 : Heap) (n0 : Nat) (Z0 : n0 ≤ h0.size) :
    MetFree l (⟨"java/lang/Math", "min", "(JJ)J"⟩ : MethodName) (head1 (Jvm.Cond.code (⟨"java/lang/Math", "min", "(JJ)J"⟩ : MethodName) jdk_29_method_70_code 4 (some .long) :: ws) ({ frames := 0, cells := 0, slots := 0, locals := 0 } : Room)) (fun as_ U_ => as_ = #[(.long x_), (.long y_)] ∧ Z.Warmed39 U_.vm ∧ U_.heap = h0) (fun _ _ _ _ _ => True) (fun _ U_ o_ V_ => ∃ v_ L_, o_ = .returned v_ ∧ Qrm15 Z x_ y_ h0 n0 v_ V_.heap L_ ∧ FrameEnd U_ o_ V_ L_ ({ frames := 0, cells := 0, slots := 0, locals := 0 } : Room).cells ({ frames := 0, cells := 0, slots := 0, locals := 0 } : Room).slots) := by
  refine MetFree.of_bodySF (Jvm.Free.JP.mathPlain rfl (by decide +kernel)) hisR ?_
  intro p e s m args below meth c s₁ Bd hml0 hP hK
  obtain ⟨rfl, hZ, hh⟩ := hP
  have hx := Bd.exec
  have hby := Bd.bytes
  have hlk : meth.locks = false := BodyLoose.notSynchronized Bd
  have hret := Bd.returns
  have hml : c.maxLocals = 4 := hml0
  have hown : s.vm.findClass "java/lang/Math" = some m.cls := findClass_of_methodNamed Bd.named
  have hnm := (name_of_methodNamed Bd.named Bd.method).1
  have X0 : Stand p l e ({ frames := 0, cells := 0, slots := 0, locals := 0 } : Room) s m #[(.long x_), (.long y_)] below meth c s₁ [] 0 0 := Stand.of_body Bd
  have e0 : s₁.heap = h0 := by rw [← hh, Bd.state]; rfl
  have N0 := Fr.nil n0
  show Goes p e below (Fin_ s (Qrm15 Z x_ y_ h0 n0) ({ frames := 0, cells := 0, slots := 0, locals := 0 } : Room).cells ({ frames := 0, cells := 0, slots := 0, locals := 0 } : Room).slots) (s₁.setTop (entryFrame m #[(.long x_), (.long y_)] 4))
  rw [ef_rm15 m x_ y_]
  refine Goes.via (fun _ kk_ => XS.lloadN X0.here hx rfl (hb hby d15_0) rfl  kk_) ?_
  show Goes p e below _ (s₁.setTop (mkF m 1 #[.val (.long x_), .second, .val (.long y_), .second] [(.long x_)]))
  refine Goes.via (fun _ kk_ => XS.lloadN X0.here hx rfl (hb hby d15_1) rfl  kk_) ?_
  show Goes p e below _ (s₁.setTop (mkF m 2 #[.val (.long x_), .second, .val (.long y_), .second] [(.long y_), (.long x_)]))
  refine Goes.via (fun _ kk_ => XS.lcmp X0.here hx rfl (hb hby d15_2) rfl kk_) ?_
  show Goes p e below _ (s₁.setTop (mkF m 3 #[.val (.long x_), .second, .val (.long y_), .second] [(.int (lcmpW x_ y_))]))
  by_cases hc3 : y_ < x_
  · skip
    refine Goes.via (fun _ kk_ => XS.ifYes X0.here hx rfl (pc0 := 3) (pc' := 10) rfl (hb hby d15_3) rfl ((if0 _ _).trans (tlt ((lw_gt x_ y_).mpr hc3)).2.2.1) (by decide) (by decide) kk_) ?_
    show Goes p e below _ (s₁.setTop (mkF m 10 #[.val (.long x_), .second, .val (.long y_), .second] []))
    refine Goes.via (fun _ kk_ => XS.lloadN X0.here hx rfl (hb hby d15_10) rfl  kk_) ?_
    show Goes p e below _ (s₁.setTop (mkF m 11 #[.val (.long x_), .second, .val (.long y_), .second] [(.long y_)]))
    exact own_finJ X0 hx hlk hret (hb hby d15_11) (by rw [e0]; exact ⟨(by rw [own_min, if_pos hc3]; first | done | rfl | exact own_nc _), rfl, rfl⟩) (by first | decide | omega | (dsimp only; omega)) (by first | decide | omega | (dsimp only; omega))
  · skip
    refine Goes.via (fun _ kk_ => XS.ifNo X0.here hx rfl (hb hby d15_3) rfl ((if0 _ _).trans (flt (fun q => hc3 ((lw_gt x_ y_).mp q))).2.2.1) kk_) ?_
    show Goes p e below _ (s₁.setTop (mkF m 6 #[.val (.long x_), .second, .val (.long y_), .second] []))
    refine Goes.via (fun _ kk_ => XS.lloadN X0.here hx rfl (hb hby d15_6) rfl  kk_) ?_
    show Goes p e below _ (s₁.setTop (mkF m 7 #[.val (.long x_), .second, .val (.long y_), .second] [(.long x_)]))
    refine Goes.via (fun _ kk_ => XS.goto X0.here hx rfl (pc0 := 7) (pc' := 11) rfl (hb hby d15_7) (by decide) (by decide) kk_) ?_
    show Goes p e below _ (s₁.setTop (mkF m 11 #[.val (.long x_), .second, .val (.long y_), .second] [(.long x_)]))
    exact own_finJ X0 hx hlk hret (hb hby d15_11) (by rw [e0]; exact ⟨(by rw [own_min, if_neg hc3]; first | done | rfl | exact own_nc _), rfl, rfl⟩) (by first | decide | omega | (dsimp only; omega)) (by first | decide | omega | (dsimp only; omega))
theorem own_mn {x : Int64} {n i : Nat} {g : Nat → Int64} (h : ∃ k, k < n ∧ g k = x) (hi : i < n) : ∃ k, k < n ∧ g k = own_min x (g i) := by
  obtain ⟨k, k1, k2⟩ := h
  unfold own_min
  split
  · exact ⟨i, hi, rfl⟩
  · exact ⟨k, k1, k2⟩
theorem ef_rmBk (m : MethodId) (q : Addr) (mt : Int64) : entryFrame m #[(.ref q), (.long mt)] 3 = mkF m 0 #[.val (.ref q), .val (.long mt), .second] [] := by first | (simp [entryFrame, mkF, argsToLocals, Value.category]; done) | rfl
def QrmBk (Z : State) (q : Nat) (mt : Int64) (rf : Int64) (h0 : Heap) (n0 : Nat) (v_ : Option Value) (h_ : Heap) (L_ : List Loc) : Prop := v_ = some (.int ((64 : Int32) - (own_nlzL (mt ^^^ rf)))) ∧ L_ = [] ∧ h_ = h0
theorem pn_nearhop_sim_EventQueue : plainName "nearhop/sim/EventQueue" = true := by first | (simp [plainName, overriddenIn]; done) | decide +kernel
theorem d7_0 : decode prog_155_method_6_code 0 = .ok (.bipush 64, 2) := by decide +kernel
theorem d7_2 : decode prog_155_method_6_code 2 = .ok (.lload_n 1, 1) := by decide +kernel
theorem d7_3 : decode prog_155_method_6_code 3 = .ok (.aload_n 0, 1) := by decide +kernel
theorem d7_4 : decode prog_155_method_6_code 4 = .ok (.getfield 34, 3) := by decide +kernel
theorem d7_7 : decode prog_155_method_6_code 7 = .ok (.lxor, 1) := by decide +kernel
theorem pd_1 : parseMethodDescriptor "(J)I" = some ⟨[.long], some .int⟩ := by decide +kernel
theorem d7_8 : decode prog_155_method_6_code 8 = .ok (.invokestatic 92, 3) := by decide +kernel
abbrev mN_Long_numberOfLeadingZeros : MethodName := ⟨"java/lang/Long", "numberOfLeadingZeros", "(J)I"⟩
theorem d7_11 : decode prog_155_method_6_code 11 = .ok (.isub, 1) := by decide +kernel
theorem d7_12 : decode prog_155_method_6_code 12 = .ok (.ireturn, 1) := by decide +kernel
set_option maxRecDepth 65536 in
set_option maxHeartbeats 40000000 in
theorem rmBk (l : Launch) (Z : State) (a0 : Array Value) (hw : ∀ d ∈ tables_1, d.before a0 Z = true) (ws : List Jvm.Cond) (q : Nat) (mt : Int64) (rf : Int64) (h0 : Heap) (n0 : Nat) (Z0 : n0 ≤ h0.size) (F0_q_reference : Fld Z h0 q "nearhop/sim/EventQueue" "reference" "J" (.long rf)) :
    MetFree l (⟨"nearhop/sim/EventQueue", "bucketOf", "(J)I"⟩ : MethodName) (head1 (Jvm.Cond.code (⟨"nearhop/sim/EventQueue", "bucketOf", "(J)I"⟩ : MethodName) prog_155_method_6_code 3 (some .int) :: ws) ({ frames := 2, cells := 0, slots := 0, locals := 29 } : Room)) (fun as_ U_ => as_ = #[(.ref q), (.long mt)] ∧ Z.Warmed39 U_.vm ∧ U_.heap = h0) (fun _ _ _ _ _ => True) (fun _ U_ o_ V_ => ∃ v_ L_, o_ = .returned v_ ∧ QrmBk Z q mt rf h0 n0 v_ V_.heap L_ ∧ FrameEnd U_ o_ V_ L_ ({ frames := 2, cells := 0, slots := 0, locals := 29 } : Room).cells ({ frames := 2, cells := 0, slots := 0, locals := 29 } : Room).slots) := by
  refine MetFree.of_bodySF (plainFor_of_name pn_nearhop_sim_EventQueue) hisR ?_
  intro p e s m args below meth c s₁ Bd hml0 hP hK
  obtain ⟨rfl, hZ, hh⟩ := hP
  have hx := Bd.exec
  have hby := Bd.bytes
  have hlk : meth.locks = false := BodyLoose.notSynchronized Bd
  have hret := Bd.returns
  have hml : c.maxLocals = 3 := hml0
  have hown : s.vm.findClass "nearhop/sim/EventQueue" = some m.cls := findClass_of_methodNamed Bd.named
  have hnm := (name_of_methodNamed Bd.named Bd.method).1
  have X0 : Stand p l e ({ frames := 2, cells := 0, slots := 0, locals := 29 } : Room) s m #[(.ref q), (.long mt)] below meth c s₁ [] 0 0 := Stand.of_body Bd
  have e0 : s₁.heap = h0 := by rw [← hh, Bd.state]; rfl
  have N0 := Fr.nil n0
  show Goes p e below (Fin_ s (QrmBk Z q mt rf h0 n0) ({ frames := 2, cells := 0, slots := 0, locals := 29 } : Room).cells ({ frames := 2, cells := 0, slots := 0, locals := 29 } : Room).slots) (s₁.setTop (entryFrame m #[(.ref q), (.long mt)] 3))
  rw [ef_rmBk m q mt]
  refine gBI (z := 64) X0 hx hby d7_0 rfl ?_
  refine Goes.via (fun _ kk_ => XS.lloadN X0.here hx rfl (hb hby d7_2) rfl  kk_) ?_
  show Goes p e below _ (s₁.setTop (mkF m 3 #[vr q, .val (.long mt), .second] [(.long mt), (.int (64 : Int32))]))
  refine gALN X0 hx hby d7_3 rfl rfl ?_
  obtain ⟨T1, X1, e1, st1⟩ := getF X0 hx hZ hown (host := "") (Or.inl (own_w hw 28 rfl)) Via.refl e0 F0_q_reference (g := (mkF m 4 #[vr q, .val (.long mt), .second] [(.ref q), (.long mt), (.int (64 : Int32))])) rfl rfl (hb hby d7_4)
  refine Goes.via st1 ?_
  show Goes p e below _ (T1.setTop (mkF m 7 #[vr q, .val (.long mt), .second] [(.long rf), (.long mt), (.int (64 : Int32))]))
  refine Goes.via (fun _ kk_ => XS.lxor X1.here hx rfl (hb hby d7_7) rfl kk_) ?_
  show Goes p e below _ (T1.setTop (mkF m 8 #[vr q, .val (.long mt), .second] [(.long (mt ^^^ rf)), (.int (64 : Int32))]))
  obtain ⟨_, _, ⟨T2, L2, k2, n2⟩, -, X2, ⟨Lc2, hQ2, l2, y2, z2⟩, st2⟩ := Jvm.LawKit.callS X1 hx (y := mN_Long_numberOfLeadingZeros) hown (mvT hZ (own_w hw 64 rfl)) (mvT hZ (own_w hw 65 rfl)) (mvT hZ (own_w hw 66 rfl)) (mvT hZ (own_w hw 67 rfl)) (by decide) (backOf (W := 1) (rm8 l Z a0 hw [] (mt ^^^ rf) h0 n0 (Nat.le_trans Z0 (Nat.le_refl _)) ) hZ (own_w hw 67 rfl) (own_w hw 66 rfl) (by decide) (by decide)) (g := (mkF m 8 #[vr q, .val (.long mt), .second] [(.long (mt ^^^ rf)), (.int (64 : Int32))])) rfl (by rw [hml]; rfl) (argsL := [(.long (mt ^^^ rf))]) (rest := [(.int (64 : Int32))]) (lenOf pd_1 rfl) rfl (by show 2 * 0 + _ ≤ _; exact Nat.le_of_eq rfl) (hb hby d7_8) (fun _ _ => ⟨rfl, e1, (by decide : 0 + 0 ≤ _), (by decide : 0 + 0 ≤ _)⟩)
  dsimp only [Pt.U, Pt.locs, Pt.cells, Pt.slots] at X2 l2 y2 z2 st2 hQ2
  replace l2 := l2.symm
  subst l2 y2 z2
  obtain ⟨rfl, rfl, e2⟩ := hQ2
  first | rw [List.append_nil] at X2 | skip
  refine Goes.via st2 ?_
  have e2' : T2.heap = h0 := e2
  show Goes p e below _ (T2.setTop (mkF m 11 #[vr q, .val (.long mt), .second] [(.int (own_nlzL (mt ^^^ rf))), (.int (64 : Int32))]))
  refine Goes.via (fun _ kk_ => XS.isub X2.here hx rfl (hb hby d7_11) rfl kk_) ?_
  show Goes p e below _ (T2.setTop (mkF m 12 #[vr q, .val (.long mt), .second] [(.int ((64 : Int32) - (own_nlzL (mt ^^^ rf))))]))
  exact own_finI X2 hx hlk hret (hb hby d7_12) (by rw [e2']; exact ⟨rfl, rfl, rfl⟩) (by first | decide | omega | (dsimp only; omega)) (by first | decide | omega | (dsimp only; omega))
theorem ef_rmEm (m : MethodId) (q : Addr) : entryFrame m #[(.ref q)] 1 = mkF m 0 #[.val (.ref q)] [] := by first | (simp [entryFrame, mkF, argsToLocals, Value.category]; done) | rfl
def QrmEm (Z : State) (q : Nat) (sz : Int32) (h0 : Heap) (n0 : Nat) (v_ : Option Value) (h_ : Heap) (L_ : List Loc) : Prop := v_ = some (.int (if sz = (0 : Int32) then (1 : Int32) else (0 : Int32))) ∧ L_ = [] ∧ h_ = h0
theorem d3_0 : decode prog_155_method_2_code 0 = .ok (.aload_n 0, 1) := by decide +kernel
theorem d3_1 : decode prog_155_method_2_code 1 = .ok (.getfield 42, 3) := by decide +kernel
theorem d3_4 : decode prog_155_method_2_code 4 = .ok (.ifCond .ne 7, 3) := by decide +kernel
theorem d3_7 : decode prog_155_method_2_code 7 = .ok (.iconst 1, 1) := by decide +kernel
theorem d3_8 : decode prog_155_method_2_code 8 = .ok (.goto 4, 3) := by decide +kernel
theorem d3_12 : decode prog_155_method_2_code 12 = .ok (.ireturn, 1) := by decide +kernel
theorem d3_11 : decode prog_155_method_2_code 11 = .ok (.iconst 0, 1) := by decide +kernel
set_option maxRecDepth 65536 in
set_option maxHeartbeats 40000000 in
theorem rmEm (l : Launch) (Z : State) (a0 : Array Value) (hw : ∀ d ∈ tables_1, d.before a0 Z = true) (ws : List Jvm.Cond) (q : Nat) (sz : Int32) (h0 : Heap) (n0 : Nat) (Z0 : n0 ≤ h0.size) (F0_q_size : Fld Z h0 q "nearhop/sim/EventQueue" "size" "I" (.int sz)) :
    MetFree l (⟨"nearhop/sim/EventQueue", "isEmpty", "()Z"⟩ : MethodName) (head1 (Jvm.Cond.code (⟨"nearhop/sim/EventQueue", "isEmpty", "()Z"⟩ : MethodName) prog_155_method_2_code 1 (some .boolean) :: ws) ({ frames := 0, cells := 0, slots := 0, locals := 0 } : Room)) (fun as_ U_ => as_ = #[(.ref q)] ∧ Z.Warmed39 U_.vm ∧ U_.heap = h0) (fun _ _ _ _ _ => True) (fun _ U_ o_ V_ => ∃ v_ L_, o_ = .returned v_ ∧ QrmEm Z q sz h0 n0 v_ V_.heap L_ ∧ FrameEnd U_ o_ V_ L_ ({ frames := 0, cells := 0, slots := 0, locals := 0 } : Room).cells ({ frames := 0, cells := 0, slots := 0, locals := 0 } : Room).slots) := by
  refine MetFree.of_bodySF (plainFor_of_name pn_nearhop_sim_EventQueue) hisR ?_
  intro p e s m args below meth c s₁ Bd hml0 hP hK
  obtain ⟨rfl, hZ, hh⟩ := hP
  have hx := Bd.exec
  have hby := Bd.bytes
  have hlk : meth.locks = false := BodyLoose.notSynchronized Bd
  have hret := Bd.returns
  have hml : c.maxLocals = 1 := hml0
  have hown : s.vm.findClass "nearhop/sim/EventQueue" = some m.cls := findClass_of_methodNamed Bd.named
  have hnm := (name_of_methodNamed Bd.named Bd.method).1
  have X0 : Stand p l e ({ frames := 0, cells := 0, slots := 0, locals := 0 } : Room) s m #[(.ref q)] below meth c s₁ [] 0 0 := Stand.of_body Bd
  have e0 : s₁.heap = h0 := by rw [← hh, Bd.state]; rfl
  have N0 := Fr.nil n0
  show Goes p e below (Fin_ s (QrmEm Z q sz h0 n0) ({ frames := 0, cells := 0, slots := 0, locals := 0 } : Room).cells ({ frames := 0, cells := 0, slots := 0, locals := 0 } : Room).slots) (s₁.setTop (entryFrame m #[(.ref q)] 1))
  rw [ef_rmEm m q]
  refine gALN X0 hx hby d3_0 rfl rfl ?_
  obtain ⟨T1, X1, e1, st1⟩ := getF X0 hx hZ hown (host := "") (Or.inl (own_w hw 37 rfl)) Via.refl e0 F0_q_size (g := (mkF m 1 #[vr q] [(.ref q)])) rfl rfl (hb hby d3_1)
  refine Goes.via st1 ?_
  show Goes p e below _ (T1.setTop (mkF m 4 #[vr q] [(.int sz)]))
  by_cases hc4 : sz = (0 : Int32)
  · skip
    refine Goes.via (fun _ kk_ => XS.ifNo X1.here hx rfl (hb hby d3_4) rfl ((if0 _ _).trans (teq hc4).2) kk_) ?_
    show Goes p e below _ (T1.setTop (mkF m 7 #[vr q] []))
    refine gIC (z := 1) X1 hx hby d3_7 rfl ?_
    refine Goes.via (fun _ kk_ => XS.goto X1.here hx rfl (pc0 := 8) (pc' := 12) rfl (hb hby d3_8) (by decide) (by decide) kk_) ?_
    show Goes p e below _ (T1.setTop (mkF m 12 #[vr q] [(.int (1 : Int32))]))
    exact own_finN X1 hx hlk hret (by simp) (hb hby d3_12) (by rw [e1]; exact ⟨(by rw [if_pos hc4]; rfl), rfl, rfl⟩) (by first | decide | omega | (dsimp only; omega)) (by first | decide | omega | (dsimp only; omega))
  · skip
    refine Goes.via (fun _ kk_ => XS.ifYes X1.here hx rfl (pc0 := 4) (pc' := 11) rfl (hb hby d3_4) rfl ((if0 _ _).trans (feq hc4).2) (by decide) (by decide) kk_) ?_
    show Goes p e below _ (T1.setTop (mkF m 11 #[vr q] []))
    refine gIC (z := 0) X1 hx hby d3_11 rfl ?_
    exact own_finN X1 hx hlk hret (by simp) (hb hby d3_12) (by rw [e1]; exact ⟨(by rw [if_neg hc4]; rfl), rfl, rfl⟩) (by first | decide | omega | (dsimp only; omega)) (by first | decide | omega | (dsimp only; omega))
theorem own_v1 {x : Int32} {k : Nat} (h : x.toInt = (k : Int)) (hk : k ≤ 4) : ¬ x < (-128 : Int32) ∧ ¬ (127 : Int32) < x ∧ (x + (128 : Int32)).toInt = ((128 + k : Nat) : Int) := by
  have q := c_iadd x 128
  have q1 := rng32 (x + 128)
  have e1 : (-128 : Int32).toInt = -128 := by decide
  have e2 : (127 : Int32).toInt = 127 := by decide
  have e3 : (128 : Int32).toInt = 128 := by decide
  exact ⟨fun z => by have := own_lti.mp z; omega, fun z => by have := own_lti.mp z; omega, by omega⟩
theorem ef_rmVo (m : MethodId) (x_ : Int32) : entryFrame m #[(.int x_)] 1 = mkF m 0 #[.val (.int x_)] [] := by first | (simp [entryFrame, mkF, argsToLocals, Value.category]; done) | rfl
def QrmVo (Z : State) (x_ : Int32) (ca : Addr) (kc : ClassId) (fC : Nat → Value) (k : Nat) (io : Addr) (h0 : Heap) (n0 : Nat) (v_ : Option Value) (h_ : Heap) (L_ : List Loc) : Prop := v_ = some (.ref io) ∧ L_ = [] ∧ h_ = h0
theorem d5_0 : decode jdk_33_method_22_code 0 = .ok (.iload_n 0, 1) := by decide +kernel
theorem d5_1 : decode jdk_33_method_22_code 1 = .ok (.bipush (-128), 2) := by decide +kernel
theorem d5_3 : decode jdk_33_method_22_code 3 = .ok (.if_icmp .lt 20, 3) := by decide +kernel
theorem d5_6 : decode jdk_33_method_22_code 6 = .ok (.iload_n 0, 1) := by decide +kernel
theorem d5_7 : decode jdk_33_method_22_code 7 = .ok (.getstatic 191, 3) := by decide +kernel
theorem d5_10 : decode jdk_33_method_22_code 10 = .ok (.if_icmp .gt 13, 3) := by decide +kernel
theorem d5_13 : decode jdk_33_method_22_code 13 = .ok (.getstatic 195, 3) := by decide +kernel
theorem d5_16 : decode jdk_33_method_22_code 16 = .ok (.iload_n 0, 1) := by decide +kernel
theorem d5_17 : decode jdk_33_method_22_code 17 = .ok (.sipush 128, 3) := by decide +kernel
theorem d5_20 : decode jdk_33_method_22_code 20 = .ok (.iadd, 1) := by decide +kernel
theorem d5_21 : decode jdk_33_method_22_code 21 = .ok (.aaload, 1) := by decide +kernel
theorem d5_22 : decode jdk_33_method_22_code 22 = .ok (.areturn, 1) := by decide +kernel
set_option maxRecDepth 65536 in
set_option maxHeartbeats 40000000 in
theorem rmVo (l : Launch) (Z : State) (a0 : Array Value) (hw : ∀ d ∈ tables_1, d.before a0 Z = true) (ws : List Jvm.Cond) (x_ : Int32) (ca : Addr) (kc : ClassId) (fC : Nat → Value) (k : Nat) (io : Addr) (h0 : Heap) (n0 : Nat) (Z0 : n0 ≤ h0.size) (S0_java_lang_Integer_IntegerCache_high_high : Sta Z h0 "java/lang/Integer$IntegerCache" "high" "I" (.int (127 : Int32))) (S1_java_lang_Integer_IntegerCache_cache_cache : Sta Z h0 "java/lang/Integer$IntegerCache" "cache" "[Ljava/lang/Integer;" (.ref ca)) (A2_ca : Arw Z h0 ca kc (.object "java/lang/Integer") 256 fC) (Hk : x_.toInt = (k : Int)) (Hk4 : k ≤ 4) (Hio : fC (128 + k) = .ref io) :
    MetFree l (⟨"java/lang/Integer", "valueOf", "(I)Ljava/lang/Integer;"⟩ : MethodName) (head1 (Jvm.Cond.code (⟨"java/lang/Integer", "valueOf", "(I)Ljava/lang/Integer;"⟩ : MethodName) jdk_33_method_22_code 1 (some (.object "java/lang/Integer")) :: ws) ({ frames := 0, cells := 0, slots := 0, locals := 0 } : Room)) (fun as_ U_ => as_ = #[(.int x_)] ∧ Z.Warmed39 U_.vm ∧ U_.heap = h0) (fun _ _ _ _ _ => True) (fun _ U_ o_ V_ => ∃ v_ L_, o_ = .returned v_ ∧ QrmVo Z x_ ca kc fC k io h0 n0 v_ V_.heap L_ ∧ FrameEnd U_ o_ V_ L_ ({ frames := 0, cells := 0, slots := 0, locals := 0 } : Room).cells ({ frames := 0, cells := 0, slots := 0, locals := 0 } : Room).slots) := by
  refine MetFree.of_bodySF (plainFor_of_name pn_java_lang_Integer) hisR ?_
  intro p e s m args below meth c s₁ Bd hml0 hP hK
  obtain ⟨rfl, hZ, hh⟩ := hP
  have hx := Bd.exec
  have hby := Bd.bytes
  have hlk : meth.locks = false := BodyLoose.notSynchronized Bd
  have hret := Bd.returns
  have hml : c.maxLocals = 1 := hml0
  have hown : s.vm.findClass "java/lang/Integer" = some m.cls := findClass_of_methodNamed Bd.named
  have hnm := (name_of_methodNamed Bd.named Bd.method).1
  have X0 : Stand p l e ({ frames := 0, cells := 0, slots := 0, locals := 0 } : Room) s m #[(.int x_)] below meth c s₁ [] 0 0 := Stand.of_body Bd
  have e0 : s₁.heap = h0 := by rw [← hh, Bd.state]; rfl
  have N0 := Fr.nil n0
  show Goes p e below (Fin_ s (QrmVo Z x_ ca kc fC k io h0 n0) ({ frames := 0, cells := 0, slots := 0, locals := 0 } : Room).cells ({ frames := 0, cells := 0, slots := 0, locals := 0 } : Room).slots) (s₁.setTop (entryFrame m #[(.int x_)] 1))
  rw [ef_rmVo m x_]
  refine gILN X0 hx hby d5_0 rfl ?_
  refine gBI (z := -128) X0 hx hby d5_1 rfl ?_
  have hc3_1 : ¬ (x_ < (-128 : Int32)) := (own_v1 Hk Hk4).1
  refine Goes.via (fun _ kk_ => XS.icmpNo X0.here hx rfl (hb hby d5_3) rfl (flt hc3_1).1 kk_) ?_
  show Goes p e below _ (s₁.setTop (mkF m 6 #[vi x_] []))
  refine gILN X0 hx hby d5_6 rfl ?_
  obtain ⟨T2, X2, e2, st2⟩ := getS2 X0 hx hZ hown (host := "") (Or.inl (own_w hw 47 rfl)) Via.refl e0 S0_java_lang_Integer_IntegerCache_high_high (g := (mkF m 7 #[vi x_] [(.int x_)])) rfl (hb hby d5_7)
  refine Goes.via st2 ?_
  show Goes p e below _ (T2.setTop (mkF m 10 #[vi x_] [(.int (127 : Int32)), (.int x_)]))
  have hc10_3 : ¬ ((127 : Int32) < x_) := (own_v1 Hk Hk4).2.1
  refine Goes.via (fun _ kk_ => XS.icmpNo X2.here hx rfl (hb hby d5_10) rfl (flt hc10_3).2.2.1 kk_) ?_
  show Goes p e below _ (T2.setTop (mkF m 13 #[vi x_] []))
  obtain ⟨T4, X4, e4, st4⟩ := getS2 X2 hx hZ hown (host := "") (Or.inl (own_w hw 49 rfl)) Via.refl e2 S1_java_lang_Integer_IntegerCache_cache_cache (g := (mkF m 13 #[vi x_] [])) rfl (hb hby d5_13)
  refine Goes.via st4 ?_
  show Goes p e below _ (T4.setTop (mkF m 16 #[vi x_] [(.ref ca)]))
  refine gILN X4 hx hby d5_16 rfl ?_
  refine gSI (z := 128) X4 hx hby d5_17 rfl ?_
  refine Goes.via (fun _ kk_ => XS.iadd X4.here hx rfl (hb hby d5_20) rfl kk_) ?_
  show Goes p e below _ (T4.setTop (mkF m 21 #[vi x_] [(.int (x_ + (128 : Int32))), (.ref ca)]))
  refine Goes.via (own_aaload X4 hx hZ e4 A2_ca rfl (j := (x_ + (128 : Int32))) (i := (128 + k)) (own_ix (own_v1 Hk Hk4).2.2).1 (own_ix (own_v1 Hk Hk4).2.2).2 (by omega) (v := (.ref io)) Hio (g := (mkF m 21 #[vi x_] [(.int (x_ + (128 : Int32))), (.ref ca)])) rfl rfl (hb hby d5_21)) ?_
  show Goes p e below _ (T4.setTop (mkF m 22 #[vi x_] [(.ref io)]))
  exact own_finR X4 hx hlk hret rfl rfl rfl (hb hby d5_22) (by rw [e4]; exact ⟨rfl, rfl, rfl⟩) (by first | decide | omega | (dsimp only; omega)) (by first | decide | omega | (dsimp only; omega))
theorem ef_rmAp (m : MethodId) (q : Addr) (bk : Int32) (mt : Int64) (sv : Int32) : entryFrame m #[(.ref q), (.int bk), (.long mt), (.int sv)] 6 = mkF m 0 #[.val (.ref q), .val (.int bk), .val (.long mt), .second, .val (.int sv), .unset] [] := by first | (simp [entryFrame, mkF, argsToLocals, Value.category]; done) | rfl
def QrmAp (Z : State) (q : Nat) (bk : Int32) (mt : Int64) (sv : Int32) (mo : Nat) (sl : Nat) (ct : Nat) (kM : ClassId) (kN : ClassId) (kS : ClassId) (kU : ClassId) (kC : ClassId) (gM : Nat → Nat → Int64) (gS : Nat → Nat → Int32) (cn : Nat → Nat) (nb : Nat) (h0 : Heap) (n0 : Nat) (v_ : Option Value) (h_ : Heap) (L_ : List Loc) : Prop := v_ = none ∧ Fr n0 L_ ∧ Keep h0 h_ [ct, (mo + 1 + nb), (sl + 1 + nb)] ∧ Grv Z h_ mo kM kN .long 65 64 (fun u v => .long ((own_gu gM nb (cn nb) mt) u v)) ∧ Grv Z h_ sl kS kU .int 65 64 (fun u v => .int ((own_gu gS nb (cn nb) sv) u v)) ∧ Arw Z h_ ct kC .int 65 (fun i => .int (Int32.ofNat ((own_cu cn nb (cn nb + 1)) i)))
theorem d10_0 : decode prog_155_method_7_code 0 = .ok (.aload_n 0, 1) := by decide +kernel
theorem d10_1 : decode prog_155_method_7_code 1 = .ok (.getfield 29, 3) := by decide +kernel
theorem d10_4 : decode prog_155_method_7_code 4 = .ok (.iload_n 1, 1) := by decide +kernel
theorem d10_5 : decode prog_155_method_7_code 5 = .ok (.iaload, 1) := by decide +kernel
theorem d10_6 : decode prog_155_method_7_code 6 = .ok (.istore 5, 2) := by decide +kernel
theorem d10_8 : decode prog_155_method_7_code 8 = .ok (.iload 5, 2) := by decide +kernel
theorem d10_10 : decode prog_155_method_7_code 10 = .ok (.aload_n 0, 1) := by decide +kernel
theorem d10_11 : decode prog_155_method_7_code 11 = .ok (.getfield 21, 3) := by decide +kernel
theorem d10_14 : decode prog_155_method_7_code 14 = .ok (.iload_n 1, 1) := by decide +kernel
theorem d10_15 : decode prog_155_method_7_code 15 = .ok (.aaload, 1) := by decide +kernel
theorem d10_16 : decode prog_155_method_7_code 16 = .ok (.arraylength, 1) := by decide +kernel
theorem d10_17 : decode prog_155_method_7_code 17 = .ok (.if_icmp .ne 41, 3) := by decide +kernel
theorem d10_58 : decode prog_155_method_7_code 58 = .ok (.aload_n 0, 1) := by decide +kernel
theorem d10_59 : decode prog_155_method_7_code 59 = .ok (.getfield 21, 3) := by decide +kernel
theorem d10_62 : decode prog_155_method_7_code 62 = .ok (.iload_n 1, 1) := by decide +kernel
theorem d10_63 : decode prog_155_method_7_code 63 = .ok (.aaload, 1) := by decide +kernel
theorem d10_64 : decode prog_155_method_7_code 64 = .ok (.iload 5, 2) := by decide +kernel
theorem d10_66 : decode prog_155_method_7_code 66 = .ok (.lload_n 2, 1) := by decide +kernel
theorem d10_67 : decode prog_155_method_7_code 67 = .ok (.lastore, 1) := by decide +kernel
theorem d10_68 : decode prog_155_method_7_code 68 = .ok (.aload_n 0, 1) := by decide +kernel
theorem d10_69 : decode prog_155_method_7_code 69 = .ok (.getfield 26, 3) := by decide +kernel
theorem d10_72 : decode prog_155_method_7_code 72 = .ok (.iload_n 1, 1) := by decide +kernel
theorem d10_73 : decode prog_155_method_7_code 73 = .ok (.aaload, 1) := by decide +kernel
theorem d10_74 : decode prog_155_method_7_code 74 = .ok (.iload 5, 2) := by decide +kernel
theorem d10_76 : decode prog_155_method_7_code 76 = .ok (.iload 4, 2) := by decide +kernel
theorem d10_78 : decode prog_155_method_7_code 78 = .ok (.iastore, 1) := by decide +kernel
theorem d10_79 : decode prog_155_method_7_code 79 = .ok (.aload_n 0, 1) := by decide +kernel
theorem d10_80 : decode prog_155_method_7_code 80 = .ok (.getfield 29, 3) := by decide +kernel
theorem d10_83 : decode prog_155_method_7_code 83 = .ok (.iload_n 1, 1) := by decide +kernel
theorem d10_84 : decode prog_155_method_7_code 84 = .ok (.iload 5, 2) := by decide +kernel
theorem d10_86 : decode prog_155_method_7_code 86 = .ok (.iconst 1, 1) := by decide +kernel
theorem d10_87 : decode prog_155_method_7_code 87 = .ok (.iadd, 1) := by decide +kernel
theorem d10_88 : decode prog_155_method_7_code 88 = .ok (.iastore, 1) := by decide +kernel
theorem d10_89 : decode prog_155_method_7_code 89 = .ok (.return_, 1) := by decide +kernel
set_option maxRecDepth 65536 in
set_option maxHeartbeats 40000000 in
theorem rmAp (l : Launch) (Z : State) (a0 : Array Value) (hw : ∀ d ∈ tables_1, d.before a0 Z = true) (ws : List Jvm.Cond) (q : Nat) (bk : Int32) (mt : Int64) (sv : Int32) (mo : Nat) (sl : Nat) (ct : Nat) (kM : ClassId) (kN : ClassId) (kS : ClassId) (kU : ClassId) (kC : ClassId) (gM : Nat → Nat → Int64) (gS : Nat → Nat → Int32) (cn : Nat → Nat) (nb : Nat) (h0 : Heap) (n0 : Nat) (Z0 : n0 ≤ h0.size) (F0_q_moments : Fld Z h0 q "nearhop/sim/EventQueue" "moments" "[[J" (.ref mo)) (F1_q_slots : Fld Z h0 q "nearhop/sim/EventQueue" "slots" "[[I" (.ref sl)) (F2_q_counts : Fld Z h0 q "nearhop/sim/EventQueue" "counts" "[I" (.ref ct)) (A3_mo : Grv Z h0 mo kM kN .long 65 64 (fun u v => .long (gM u v))) (A4_sl : Grv Z h0 sl kS kU .int 65 64 (fun u v => .int (gS u v))) (A5_ct : Arw Z h0 ct kC .int 65 (fun i => .int (Int32.ofNat (cn i)))) (H6 : n0 ≤ mo) (HQ : q < mo) (HLd : mo + 66 ≤ sl) (HLe : sl + 66 ≤ ct) (Hb : bk.toInt = (nb : Int)) (Hnb : nb < 65) (Hcn : cn nb < 64) :
    MetFree l (⟨"nearhop/sim/EventQueue", "append", "(IJI)V"⟩ : MethodName) (head1 (Jvm.Cond.code (⟨"nearhop/sim/EventQueue", "append", "(IJI)V"⟩ : MethodName) prog_155_method_7_code 6 none :: ws) ({ frames := 0, cells := 0, slots := 0, locals := 0 } : Room)) (fun as_ U_ => as_ = #[(.ref q), (.int bk), (.long mt), (.int sv)] ∧ Z.Warmed39 U_.vm ∧ U_.heap = h0) (fun _ _ _ _ _ => True) (fun _ U_ o_ V_ => ∃ v_ L_, o_ = .returned v_ ∧ QrmAp Z q bk mt sv mo sl ct kM kN kS kU kC gM gS cn nb h0 n0 v_ V_.heap L_ ∧ FrameEnd U_ o_ V_ L_ ({ frames := 0, cells := 0, slots := 0, locals := 0 } : Room).cells ({ frames := 0, cells := 0, slots := 0, locals := 0 } : Room).slots) := by
  refine MetFree.of_bodySF (plainFor_of_name pn_nearhop_sim_EventQueue) hisR ?_
  intro p e s m args below meth c s₁ Bd hml0 hP hK
  obtain ⟨rfl, hZ, hh⟩ := hP
  have hx := Bd.exec
  have hby := Bd.bytes
  have hlk : meth.locks = false := BodyLoose.notSynchronized Bd
  have hret := Bd.returns
  have hml : c.maxLocals = 6 := hml0
  have hown : s.vm.findClass "nearhop/sim/EventQueue" = some m.cls := findClass_of_methodNamed Bd.named
  have hnm := (name_of_methodNamed Bd.named Bd.method).1
  have X0 : Stand p l e ({ frames := 0, cells := 0, slots := 0, locals := 0 } : Room) s m #[(.ref q), (.int bk), (.long mt), (.int sv)] below meth c s₁ [] 0 0 := Stand.of_body Bd
  have e0 : s₁.heap = h0 := by rw [← hh, Bd.state]; rfl
  have N0 := Fr.nil n0
  show Goes p e below (Fin_ s (QrmAp Z q bk mt sv mo sl ct kM kN kS kU kC gM gS cn nb h0 n0) ({ frames := 0, cells := 0, slots := 0, locals := 0 } : Room).cells ({ frames := 0, cells := 0, slots := 0, locals := 0 } : Room).slots) (s₁.setTop (entryFrame m #[(.ref q), (.int bk), (.long mt), (.int sv)] 6))
  rw [ef_rmAp m q bk mt sv]
  refine gALN X0 hx hby d10_0 rfl rfl ?_
  obtain ⟨T1, X1, e1, st1⟩ := getF X0 hx hZ hown (host := "") (Or.inl (own_w hw 25 rfl)) Via.refl e0 F2_q_counts (g := (mkF m 1 #[vr q, vi bk, .val (.long mt), .second, vi sv, .unset] [(.ref q)])) rfl rfl (hb hby d10_1)
  refine Goes.via st1 ?_
  show Goes p e below _ (T1.setTop (mkF m 4 #[vr q, vi bk, .val (.long mt), .second, vi sv, .unset] [(.ref ct)]))
  refine gILN X1 hx hby d10_4 rfl ?_
  refine Goes.via (own_iaload X1 hx hZ e1 A5_ct (j := bk) (i := nb) (own_ix Hb).1 (own_ix Hb).2 Hnb (v := (Int32.ofNat (cn nb))) rfl (g := (mkF m 5 #[vr q, vi bk, .val (.long mt), .second, vi sv, .unset] [(.int bk), (.ref ct)])) rfl rfl (hb hby d10_5)) ?_
  show Goes p e below _ (T1.setTop (mkF m 6 #[vr q, vi bk, .val (.long mt), .second, vi sv, .unset] [(.int (Int32.ofNat (cn nb)))]))
  refine Goes.via (fun _ kk_ => XS.istore X1.here hx rfl (hb hby d10_6) rfl (l' := #[vr q, vi bk, .val (.long mt), .second, vi sv, vi (Int32.ofNat (cn nb))]) rfl kk_) ?_
  show Goes p e below _ (T1.setTop (mkF m 8 #[vr q, vi bk, .val (.long mt), .second, vi sv, vi (Int32.ofNat (cn nb))] []))
  refine gIL X1 hx hby d10_8 rfl ?_
  refine gALN X1 hx hby d10_10 rfl rfl ?_
  obtain ⟨T2, X2, e2, st2⟩ := getF X1 hx hZ hown (host := "") (Or.inl (own_w hw 19 rfl)) Via.refl e1 F0_q_moments (g := (mkF m 11 #[vr q, vi bk, .val (.long mt), .second, vi sv, vi (Int32.ofNat (cn nb))] [(.ref q), (.int (Int32.ofNat (cn nb)))])) rfl rfl (hb hby d10_11)
  refine Goes.via st2 ?_
  show Goes p e below _ (T2.setTop (mkF m 14 #[vr q, vi bk, .val (.long mt), .second, vi sv, vi (Int32.ofNat (cn nb))] [(.ref mo), (.int (Int32.ofNat (cn nb)))]))
  refine gILN X2 hx hby d10_14 rfl ?_
  show Goes p e below _ (T2.setTop (mkF m 15 #[vr q, vi bk, .val (.long mt), .second, vi sv, vi (Int32.ofNat (cn nb))] [(.int bk), (.ref mo), (.int (Int32.ofNat (cn nb)))]))
  refine Goes.via (own_gal X2 hx hZ e2 A3_mo (i := nb) Hb (by omega) (g := (mkF m 15 #[vr q, vi bk, .val (.long mt), .second, vi sv, vi (Int32.ofNat (cn nb))] [(.int bk), (.ref mo), (.int (Int32.ofNat (cn nb)))])) rfl rfl (hb hby d10_15)) ?_
  show Goes p e below _ (T2.setTop (mkF m 16 #[vr q, vi bk, .val (.long mt), .second, vi sv, vi (Int32.ofNat (cn nb))] [(.ref (mo + 1 + nb)), (.int (Int32.ofNat (cn nb)))]))
  refine Goes.via (own_gln X2 hx hZ e2 A3_mo (i := nb) (by omega) (g := (mkF m 16 #[vr q, vi bk, .val (.long mt), .second, vi sv, vi (Int32.ofNat (cn nb))] [(.ref (mo + 1 + nb)), (.int (Int32.ofNat (cn nb)))])) rfl rfl (hb hby d10_16)) ?_
  show Goes p e below _ (T2.setTop (mkF m 17 #[vr q, vi bk, .val (.long mt), .second, vi sv, vi (Int32.ofNat (cn nb))] [(.int (64 : Int32)), (.int (Int32.ofNat (cn nb)))]))
  have hc17_3 : ¬ ((Int32.ofNat (cn nb)) = (64 : Int32)) := (fun q => by have q1 := own_on (n := cn nb) (by omega); rw [q] at q1; have e : (64 : Int32).toInt = 64 := (by decide); omega)
  refine Goes.via (fun _ kk_ => XS.icmpYes X2.here hx rfl (pc0 := 17) (pc' := 58) rfl (hb hby d10_17) rfl (feq hc17_3).2 (by decide) (by decide) kk_) ?_
  show Goes p e below _ (T2.setTop (mkF m 58 #[vr q, vi bk, .val (.long mt), .second, vi sv, vi (Int32.ofNat (cn nb))] []))
  refine gALN X2 hx hby d10_58 rfl rfl ?_
  obtain ⟨T4, X4, e4, st4⟩ := getF X2 hx hZ hown (host := "") (Or.inl (own_w hw 19 rfl)) Via.refl e2 F0_q_moments (g := (mkF m 59 #[vr q, vi bk, .val (.long mt), .second, vi sv, vi (Int32.ofNat (cn nb))] [(.ref q)])) rfl rfl (hb hby d10_59)
  refine Goes.via st4 ?_
  show Goes p e below _ (T4.setTop (mkF m 62 #[vr q, vi bk, .val (.long mt), .second, vi sv, vi (Int32.ofNat (cn nb))] [(.ref mo)]))
  refine gILN X4 hx hby d10_62 rfl ?_
  show Goes p e below _ (T4.setTop (mkF m 63 #[vr q, vi bk, .val (.long mt), .second, vi sv, vi (Int32.ofNat (cn nb))] [(.int bk), (.ref mo)]))
  refine Goes.via (own_gal X4 hx hZ e4 A3_mo (i := nb) Hb (by omega) (g := (mkF m 63 #[vr q, vi bk, .val (.long mt), .second, vi sv, vi (Int32.ofNat (cn nb))] [(.int bk), (.ref mo)])) rfl rfl (hb hby d10_63)) ?_
  show Goes p e below _ (T4.setTop (mkF m 64 #[vr q, vi bk, .val (.long mt), .second, vi sv, vi (Int32.ofNat (cn nb))] [(.ref (mo + 1 + nb))]))
  refine gIL X4 hx hby d10_64 rfl ?_
  refine Goes.via (fun _ kk_ => XS.lloadN X4.here hx rfl (hb hby d10_66) rfl  kk_) ?_
  show Goes p e below _ (T4.setTop (mkF m 67 #[vr q, vi bk, .val (.long mt), .second, vi sv, vi (Int32.ofNat (cn nb))] [(.long mt), (.int (Int32.ofNat (cn nb))), (.ref (mo + 1 + nb))]))
  obtain ⟨T5, h5, X5, e5, W5, A5, st5⟩ := own_glas X4 hx hZ e4 A3_mo (i := nb) (j := (cn nb)) (by omega) (own_on (by omega)) (by omega) (g := (mkF m 67 #[vr q, vi bk, .val (.long mt), .second, vi sv, vi (Int32.ofNat (cn nb))] [(.long mt), (.int (Int32.ofNat (cn nb))), (.ref (mo + 1 + nb))])) rfl rfl (hb hby d10_67)
  refine Goes.via st5 ?_
  have N5 := Fr.snoc X5 N0 (show n0 ≤ (mo + 1 + nb) by omega)
  show Goes p e below _ (T5.setTop (mkF m 68 #[vr q, vi bk, .val (.long mt), .second, vi sv, vi (Int32.ofNat (cn nb))] []))
  refine gALN X5 hx hby d10_68 rfl rfl ?_
  have f6 := (F1_q_slots.other W5 (Or.inl (show (q : Nat) ≠ (mo + 1 + nb) by omega)))
  obtain ⟨T7, X7, e7, st7⟩ := getF X5 hx hZ hown (host := "") (Or.inl (own_w hw 23 rfl)) Via.refl e5 f6 (g := (mkF m 69 #[vr q, vi bk, .val (.long mt), .second, vi sv, vi (Int32.ofNat (cn nb))] [(.ref q)])) rfl rfl (hb hby d10_69)
  refine Goes.via st7 ?_
  show Goes p e below _ (T7.setTop (mkF m 72 #[vr q, vi bk, .val (.long mt), .second, vi sv, vi (Int32.ofNat (cn nb))] [(.ref sl)]))
  refine gILN X7 hx hby d10_72 rfl ?_
  show Goes p e below _ (T7.setTop (mkF m 73 #[vr q, vi bk, .val (.long mt), .second, vi sv, vi (Int32.ofNat (cn nb))] [(.int bk), (.ref sl)]))
  have f8 := (A4_sl.off W5 (show ((mo + 1 + nb) : Nat) < sl ∨ sl + 65 < (mo + 1 + nb) by omega))
  refine Goes.via (own_gal X7 hx hZ e7 f8 (i := nb) Hb (by omega) (g := (mkF m 73 #[vr q, vi bk, .val (.long mt), .second, vi sv, vi (Int32.ofNat (cn nb))] [(.int bk), (.ref sl)])) rfl rfl (hb hby d10_73)) ?_
  show Goes p e below _ (T7.setTop (mkF m 74 #[vr q, vi bk, .val (.long mt), .second, vi sv, vi (Int32.ofNat (cn nb))] [(.ref (sl + 1 + nb))]))
  refine gIL X7 hx hby d10_74 rfl ?_
  refine gIL X7 hx hby d10_76 rfl ?_
  show Goes p e below _ (T7.setTop (mkF m 78 #[vr q, vi bk, .val (.long mt), .second, vi sv, vi (Int32.ofNat (cn nb))] [(.int sv), (.int (Int32.ofNat (cn nb))), (.ref (sl + 1 + nb))]))
  obtain ⟨T9, h9, X9, e9, W9, A9, st9⟩ := own_gias X7 hx hZ e7 f8 (i := nb) (j := (cn nb)) (by omega) (own_on (by omega)) (by omega) (g := (mkF m 78 #[vr q, vi bk, .val (.long mt), .second, vi sv, vi (Int32.ofNat (cn nb))] [(.int sv), (.int (Int32.ofNat (cn nb))), (.ref (sl + 1 + nb))])) rfl rfl (hb hby d10_78)
  refine Goes.via st9 ?_
  have N9 := Fr.snoc X9 N5 (show n0 ≤ (sl + 1 + nb) by omega)
  show Goes p e below _ (T9.setTop (mkF m 79 #[vr q, vi bk, .val (.long mt), .second, vi sv, vi (Int32.ofNat (cn nb))] []))
  refine gALN X9 hx hby d10_79 rfl rfl ?_
  have f10 := ((F2_q_counts.other W5 (Or.inl (show (q : Nat) ≠ (mo + 1 + nb) by omega))).other W9 (Or.inl (show (q : Nat) ≠ (sl + 1 + nb) by omega)))
  obtain ⟨T11, X11, e11, st11⟩ := getF X9 hx hZ hown (host := "") (Or.inl (own_w hw 25 rfl)) Via.refl e9 f10 (g := (mkF m 80 #[vr q, vi bk, .val (.long mt), .second, vi sv, vi (Int32.ofNat (cn nb))] [(.ref q)])) rfl rfl (hb hby d10_80)
  refine Goes.via st11 ?_
  show Goes p e below _ (T11.setTop (mkF m 83 #[vr q, vi bk, .val (.long mt), .second, vi sv, vi (Int32.ofNat (cn nb))] [(.ref ct)]))
  refine gILN X11 hx hby d10_83 rfl ?_
  refine gIL X11 hx hby d10_84 rfl ?_
  refine gIC (z := 1) X11 hx hby d10_86 rfl ?_
  refine Goes.via (fun _ kk_ => XS.iadd X11.here hx rfl (hb hby d10_87) rfl kk_) ?_
  show Goes p e below _ (T11.setTop (mkF m 88 #[vr q, vi bk, .val (.long mt), .second, vi sv, vi (Int32.ofNat (cn nb))] [(.int ((Int32.ofNat (cn nb)) + (1 : Int32))), (.int bk), (.ref ct)]))
  have f12 := ((A5_ct.other W5 (show (ct : Nat) ≠ (mo + 1 + nb) by omega)).other W9 (show (ct : Nat) ≠ (sl + 1 + nb) by omega))
  obtain ⟨T13, h13, X13, e13, W13, A13, st13⟩ := own_iastore X11 hx hZ e11 f12 (j := bk) (i := nb) (own_ix Hb).1 (own_ix Hb).2 Hnb (g := (mkF m 88 #[vr q, vi bk, .val (.long mt), .second, vi sv, vi (Int32.ofNat (cn nb))] [(.int ((Int32.ofNat (cn nb)) + (1 : Int32))), (.int bk), (.ref ct)])) rfl rfl (hb hby d10_88)
  refine Goes.via st13 ?_
  have N13 := Fr.snoc X13 N9 (show n0 ≤ ct by omega)
  show Goes p e below _ (T13.setTop (mkF m 89 #[vr q, vi bk, .val (.long mt), .second, vi sv, vi (Int32.ofNat (cn nb))] []))
  have cv14 : Arw Z h13 ct kC .int 65 (fun i => .int (Int32.ofNat ((own_cu cn nb (cn nb + 1)) i))) := (by have q := A13; rw [own_on1] at q; exact Arw.toC (w := fun z => .int (Int32.ofNat z)) q)
  have K15 : Keep h0 h13 [ct, (mo + 1 + nb), (sl + 1 + nb)] := ((((Keep.refl h0 [ct, (mo + 1 + nb), (sl + 1 + nb)]).wr W5 (Or.inl (List.mem_of_getElem? (i := 1) rfl))).wr W9 (Or.inl (List.mem_of_getElem? (i := 2) rfl))).wr W13 (Or.inl (List.mem_of_getElem? (i := 0) rfl)))
  have f16 := ((A5.off W9 (show ((sl + 1 + nb) : Nat) < mo ∨ mo + 65 < (sl + 1 + nb) by omega)).off W13 (show (ct : Nat) < mo ∨ mo + 65 < ct by omega))
  have f17 := (A9.off W13 (show (ct : Nat) < sl ∨ sl + 65 < ct by omega))
  exact own_finV X13 hx hlk hret (hb hby d10_89) (by rw [e13]; exact ⟨rfl, N13, K15, f16, f17, cv14⟩) (by first | decide | omega | (dsimp only; omega)) (by first | decide | omega | (dsimp only; omega))
theorem ef_rmFs (m : MethodId) (q : Addr) : entryFrame m #[(.ref q)] 6 = mkF m 0 #[.val (.ref q), .unset, .unset, .unset, .unset, .unset] [] := by first | (simp [entryFrame, mkF, argsToLocals, Value.category]; done) | rfl
def QrmFs (Z : State) (q : Nat) (it : Nat) (fr : Nat) (mo : Nat) (sl : Nat) (ct : Nat) (kM : ClassId) (kN : ClassId) (kC : ClassId) (fs : Int32) (us : Int32) (sz : Int32) (fi : Int32) (rf : Int64) (sb : Int32) (so : Int64) (gM : Nat → Nat → Int64) (cn : Nat → Nat) (h0 : Heap) (n0 : Nat) (v_ : Option Value) (h_ : Heap) (L_ : List Loc) : Prop := ∃ b1 : Int32, ∃ b2 : Nat, ∃ e1 : Int64, v_ = none ∧ Fr n0 L_ ∧ Keep h0 h_ [q] ∧ Exa Z h_ q "nearhop/sim/EventQueue" ∧ Fld Z h_ q "nearhop/sim/EventQueue" "items" "[Ljava/lang/Object;" (.ref it) ∧ Fld Z h_ q "nearhop/sim/EventQueue" "free" "[I" (.ref fr) ∧ Fld Z h_ q "nearhop/sim/EventQueue" "freeSlots" "I" (.int fs) ∧ Fld Z h_ q "nearhop/sim/EventQueue" "used" "I" (.int us) ∧ Fld Z h_ q "nearhop/sim/EventQueue" "size" "I" (.int sz) ∧ Fld Z h_ q "nearhop/sim/EventQueue" "moments" "[[J" (.ref mo) ∧ Fld Z h_ q "nearhop/sim/EventQueue" "slots" "[[I" (.ref sl) ∧ Fld Z h_ q "nearhop/sim/EventQueue" "counts" "[I" (.ref ct) ∧ Fld Z h_ q "nearhop/sim/EventQueue" "first" "I" (.int fi) ∧ Fld Z h_ q "nearhop/sim/EventQueue" "reference" "J" (.long rf) ∧ Fld Z h_ q "nearhop/sim/EventQueue" "soonestBucket" "I" (.int b1) ∧ Fld Z h_ q "nearhop/sim/EventQueue" "soonest" "J" (.long e1) ∧ b1.toInt = (b2 : Int) ∧ b2 < 65 ∧ cn b2 ≠ 0 ∧ ∃ k, k < cn b2 ∧ gM b2 k = e1
theorem d12_0 : decode prog_155_method_8_code 0 = .ok (.aload_n 0, 1) := by decide +kernel
theorem d12_1 : decode prog_155_method_8_code 1 = .ok (.getfield 38, 3) := by decide +kernel
theorem d12_4 : decode prog_155_method_8_code 4 = .ok (.ifCond .lt 4, 3) := by decide +kernel
theorem d12_8 : decode prog_155_method_8_code 8 = .ok (.iconst 1, 1) := by decide +kernel
theorem d12_9 : decode prog_155_method_8_code 9 = .ok (.istore_n 1, 1) := by decide +kernel
theorem d12_10 : decode prog_155_method_8_code 10 = .ok (.aload_n 0, 1) := by decide +kernel
theorem d12_11 : decode prog_155_method_8_code 11 = .ok (.getfield 29, 3) := by decide +kernel
theorem d12_14 : decode prog_155_method_8_code 14 = .ok (.iload_n 1, 1) := by decide +kernel
theorem d12_15 : decode prog_155_method_8_code 15 = .ok (.iaload, 1) := by decide +kernel
theorem d12_16 : decode prog_155_method_8_code 16 = .ok (.ifCond .ne 9, 3) := by decide +kernel
theorem d12_19 : decode prog_155_method_8_code 19 = .ok (.iinc 1 1, 3) := by decide +kernel
theorem d12_22 : decode prog_155_method_8_code 22 = .ok (.goto (-12), 3) := by decide +kernel
theorem d12_25 : decode prog_155_method_8_code 25 = .ok (.aload_n 0, 1) := by decide +kernel
theorem d12_26 : decode prog_155_method_8_code 26 = .ok (.getfield 21, 3) := by decide +kernel
theorem d12_29 : decode prog_155_method_8_code 29 = .ok (.iload_n 1, 1) := by decide +kernel
theorem d12_30 : decode prog_155_method_8_code 30 = .ok (.aaload, 1) := by decide +kernel
theorem d12_31 : decode prog_155_method_8_code 31 = .ok (.astore_n 2, 1) := by decide +kernel
theorem d12_32 : decode prog_155_method_8_code 32 = .ok (.aload_n 2, 1) := by decide +kernel
theorem d12_33 : decode prog_155_method_8_code 33 = .ok (.iconst 0, 1) := by decide +kernel
theorem d12_34 : decode prog_155_method_8_code 34 = .ok (.laload, 1) := by decide +kernel
theorem d12_35 : decode prog_155_method_8_code 35 = .ok (.lstore_n 3, 1) := by decide +kernel
theorem d12_36 : decode prog_155_method_8_code 36 = .ok (.iconst 1, 1) := by decide +kernel
theorem d12_37 : decode prog_155_method_8_code 37 = .ok (.istore 5, 2) := by decide +kernel
theorem d12_39 : decode prog_155_method_8_code 39 = .ok (.iload 5, 2) := by decide +kernel
theorem d12_41 : decode prog_155_method_8_code 41 = .ok (.aload_n 0, 1) := by decide +kernel
theorem d12_42 : decode prog_155_method_8_code 42 = .ok (.getfield 29, 3) := by decide +kernel
theorem d12_45 : decode prog_155_method_8_code 45 = .ok (.iload_n 1, 1) := by decide +kernel
theorem d12_46 : decode prog_155_method_8_code 46 = .ok (.iaload, 1) := by decide +kernel
theorem d12_47 : decode prog_155_method_8_code 47 = .ok (.if_icmp .ge 18, 3) := by decide +kernel
theorem d12_50 : decode prog_155_method_8_code 50 = .ok (.lload_n 3, 1) := by decide +kernel
theorem d12_51 : decode prog_155_method_8_code 51 = .ok (.aload_n 2, 1) := by decide +kernel
theorem d12_52 : decode prog_155_method_8_code 52 = .ok (.iload 5, 2) := by decide +kernel
theorem d12_54 : decode prog_155_method_8_code 54 = .ok (.laload, 1) := by decide +kernel
theorem pd_2 : parseMethodDescriptor "(JJ)J" = some ⟨[.long, .long], some .long⟩ := by decide +kernel
theorem d12_55 : decode prog_155_method_8_code 55 = .ok (.invokestatic 98, 3) := by decide +kernel
abbrev mN_Math_min : MethodName := ⟨"java/lang/Math", "min", "(JJ)J"⟩
theorem d12_58 : decode prog_155_method_8_code 58 = .ok (.lstore_n 3, 1) := by decide +kernel
theorem d12_59 : decode prog_155_method_8_code 59 = .ok (.iinc 5 1, 3) := by decide +kernel
theorem d12_62 : decode prog_155_method_8_code 62 = .ok (.goto (-23), 3) := by decide +kernel
theorem d12_65 : decode prog_155_method_8_code 65 = .ok (.aload_n 0, 1) := by decide +kernel
theorem d12_66 : decode prog_155_method_8_code 66 = .ok (.iload_n 1, 1) := by decide +kernel
theorem d12_67 : decode prog_155_method_8_code 67 = .ok (.putfield 38, 3) := by decide +kernel
theorem d12_70 : decode prog_155_method_8_code 70 = .ok (.aload_n 0, 1) := by decide +kernel
theorem d12_71 : decode prog_155_method_8_code 71 = .ok (.lload_n 3, 1) := by decide +kernel
theorem d12_72 : decode prog_155_method_8_code 72 = .ok (.putfield 58, 3) := by decide +kernel
theorem d12_75 : decode prog_155_method_8_code 75 = .ok (.return_, 1) := by decide +kernel
set_option maxRecDepth 65536 in
set_option maxHeartbeats 40000000 in
theorem rmFs (l : Launch) (Z : State) (a0 : Array Value) (hw : ∀ d ∈ tables_1, d.before a0 Z = true) (ws : List Jvm.Cond) (q : Nat) (it : Nat) (fr : Nat) (mo : Nat) (sl : Nat) (ct : Nat) (kM : ClassId) (kN : ClassId) (kC : ClassId) (fs : Int32) (us : Int32) (sz : Int32) (fi : Int32) (rf : Int64) (sb : Int32) (so : Int64) (gM : Nat → Nat → Int64) (cn : Nat → Nat) (h0 : Heap) (n0 : Nat) (Z0 : n0 ≤ h0.size) (E0_q : Exa Z h0 q "nearhop/sim/EventQueue") (F1_q_items : Fld Z h0 q "nearhop/sim/EventQueue" "items" "[Ljava/lang/Object;" (.ref it)) (F2_q_free : Fld Z h0 q "nearhop/sim/EventQueue" "free" "[I" (.ref fr)) (F3_q_freeSlots : Fld Z h0 q "nearhop/sim/EventQueue" "freeSlots" "I" (.int fs)) (F4_q_used : Fld Z h0 q "nearhop/sim/EventQueue" "used" "I" (.int us)) (F5_q_size : Fld Z h0 q "nearhop/sim/EventQueue" "size" "I" (.int sz)) (F6_q_moments : Fld Z h0 q "nearhop/sim/EventQueue" "moments" "[[J" (.ref mo)) (F7_q_slots : Fld Z h0 q "nearhop/sim/EventQueue" "slots" "[[I" (.ref sl)) (F8_q_counts : Fld Z h0 q "nearhop/sim/EventQueue" "counts" "[I" (.ref ct)) (F9_q_first : Fld Z h0 q "nearhop/sim/EventQueue" "first" "I" (.int fi)) (F10_q_reference : Fld Z h0 q "nearhop/sim/EventQueue" "reference" "J" (.long rf)) (F11_q_soonestBucket : Fld Z h0 q "nearhop/sim/EventQueue" "soonestBucket" "I" (.int sb)) (F12_q_soonest : Fld Z h0 q "nearhop/sim/EventQueue" "soonest" "J" (.long so)) (A13_mo : Grv Z h0 mo kM kN .long 65 64 (fun u v => .long (gM u v))) (A14_ct : Arw Z h0 ct kC .int 65 (fun i => .int (Int32.ofNat (cn i)))) (H15 : n0 ≤ q) (HLa : q < it) (HLb : it < fr) (HLc : fr < mo) (HLd : mo + 66 ≤ sl) (HLe : sl + 66 ≤ ct) (Hsb : sb < (0 : Int32)) (H5 : ∀ b, b < 65 → cn b ≤ 5) (HX : ∃ z, 1 ≤ z ∧ z < 65 ∧ cn z ≠ 0) :
    MetFree l (⟨"nearhop/sim/EventQueue", "findSoonest", "()V"⟩ : MethodName) (head1 (Jvm.Cond.code (⟨"nearhop/sim/EventQueue", "findSoonest", "()V"⟩ : MethodName) prog_155_method_8_code 6 none :: ws) ({ frames := 1, cells := 0, slots := 0, locals := 15 } : Room)) (fun as_ U_ => as_ = #[(.ref q)] ∧ Z.Warmed39 U_.vm ∧ U_.heap = h0) (fun _ _ _ _ _ => True) (fun _ U_ o_ V_ => ∃ v_ L_, o_ = .returned v_ ∧ QrmFs Z q it fr mo sl ct kM kN kC fs us sz fi rf sb so gM cn h0 n0 v_ V_.heap L_ ∧ FrameEnd U_ o_ V_ L_ ({ frames := 1, cells := 0, slots := 0, locals := 15 } : Room).cells ({ frames := 1, cells := 0, slots := 0, locals := 15 } : Room).slots) := by
  refine MetFree.of_bodySF (plainFor_of_name pn_nearhop_sim_EventQueue) hisR ?_
  intro p e s m args below meth c s₁ Bd hml0 hP hK
  obtain ⟨rfl, hZ, hh⟩ := hP
  have hx := Bd.exec
  have hby := Bd.bytes
  have hlk : meth.locks = false := BodyLoose.notSynchronized Bd
  have hret := Bd.returns
  have hml : c.maxLocals = 6 := hml0
  have hown : s.vm.findClass "nearhop/sim/EventQueue" = some m.cls := findClass_of_methodNamed Bd.named
  have hnm := (name_of_methodNamed Bd.named Bd.method).1
  have X0 : Stand p l e ({ frames := 1, cells := 0, slots := 0, locals := 15 } : Room) s m #[(.ref q)] below meth c s₁ [] 0 0 := Stand.of_body Bd
  have e0 : s₁.heap = h0 := by rw [← hh, Bd.state]; rfl
  have N0 := Fr.nil n0
  show Goes p e below (Fin_ s (QrmFs Z q it fr mo sl ct kM kN kC fs us sz fi rf sb so gM cn h0 n0) ({ frames := 1, cells := 0, slots := 0, locals := 15 } : Room).cells ({ frames := 1, cells := 0, slots := 0, locals := 15 } : Room).slots) (s₁.setTop (entryFrame m #[(.ref q)] 6))
  rw [ef_rmFs m q]
  refine gALN X0 hx hby d12_0 rfl rfl ?_
  obtain ⟨T2, X2, e2, st2⟩ := getF X0 hx hZ hown (host := "") (Or.inl (own_w hw 30 rfl)) Via.refl e0 F11_q_soonestBucket (g := (mkF m 1 #[vr q, .unset, .unset, .unset, .unset, .unset] [(.ref q)])) rfl rfl (hb hby d12_1)
  refine Goes.via st2 ?_
  show Goes p e below _ (T2.setTop (mkF m 4 #[vr q, .unset, .unset, .unset, .unset, .unset] [(.int sb)]))
  have hc4_3 : sb < (0 : Int32) := Hsb
  refine Goes.via (fun _ kk_ => XS.ifYes X2.here hx rfl (pc0 := 4) (pc' := 8) rfl (hb hby d12_4) rfl ((if0 _ _).trans (tlt hc4_3).1) (by decide) (by decide) kk_) ?_
  show Goes p e below _ (T2.setTop (mkF m 8 #[vr q, .unset, .unset, .unset, .unset, .unset] []))
  refine gIC (z := 1) X2 hx hby d12_8 rfl ?_
  refine Goes.via (fun _ kk_ => XS.istoreN X2.here hx rfl (hb hby d12_9) rfl (l' := #[vr q, vi (1 : Int32), .unset, .unset, .unset, .unset]) rfl kk_) ?_
  show Goes p e below _ (T2.setTop (mkF m 10 #[vr q, vi (1 : Int32), .unset, .unset, .unset, .unset] []))
  have lp4 : ∀ (fu4 : Nat) (b : Int32) (nb : Nat) (T4 : State) (lc4 : List Loc), (Stand p l e ({ frames := 1, cells := 0, slots := 0, locals := 15 } : Room) s m #[(.ref q)] below meth c T4 lc4 0 0) → (T4.heap = h0) → (Fr n0 lc4) → (b.toInt = (nb : Int)) → (1 ≤ nb) → (∃ z, nb ≤ z ∧ z < 65 ∧ cn z ≠ 0) → (65 ≤ nb + fu4) → Goes p e below (Fin_ s (QrmFs Z q it fr mo sl ct kM kN kC fs us sz fi rf sb so gM cn h0 n0) ({ frames := 1, cells := 0, slots := 0, locals := 15 } : Room).cells ({ frames := 1, cells := 0, slots := 0, locals := 15 } : Room).slots) (T4.setTop (mkF m 10 #[vr q, vi b, .unset, .unset, .unset, .unset] [])) := by
    intro fu4
    induction fu4 with
    | zero =>
      intro b nb T4 lc4 X4 e4 N4 hb_ hb1 hw_ hfu
      (obtain ⟨z, z1, z2, -⟩ := hw_; omega)
    | succ fu4 ih4 =>
      intro b nb T4 lc4 X4 e4 N4 hb_ hb1 hw_ hfu
      refine gALN X4 hx hby d12_10 rfl rfl ?_
      obtain ⟨T5, X5, e5, st5⟩ := getF X4 hx hZ hown (host := "") (Or.inl (own_w hw 25 rfl)) Via.refl e4 F8_q_counts (g := (mkF m 11 #[vr q, vi b, .unset, .unset, .unset, .unset] [(.ref q)])) rfl rfl (hb hby d12_11)
      refine Goes.via st5 ?_
      show Goes p e below _ (T5.setTop (mkF m 14 #[vr q, vi b, .unset, .unset, .unset, .unset] [(.ref ct)]))
      have hnb : nb < 65 := by obtain ⟨z, z1, z2, -⟩ := hw_; omega
      have hV5 := H5 nb hnb
      refine gILN X5 hx hby d12_14 rfl ?_
      refine Goes.via (own_iaload X5 hx hZ e5 A14_ct (j := b) (i := nb) (own_ix hb_).1 (own_ix hb_).2 hnb (v := (Int32.ofNat (cn nb))) rfl (g := (mkF m 15 #[vr q, vi b, .unset, .unset, .unset, .unset] [(.int b), (.ref ct)])) rfl rfl (hb hby d12_15)) ?_
      show Goes p e below _ (T5.setTop (mkF m 16 #[vr q, vi b, .unset, .unset, .unset, .unset] [(.int (Int32.ofNat (cn nb)))]))
      by_cases hc16 : (Int32.ofNat (cn nb)) = (0 : Int32)
      · skip
        refine Goes.via (fun _ kk_ => XS.ifNo X5.here hx rfl (hb hby d12_16) rfl ((if0 _ _).trans (teq hc16).2) kk_) ?_
        show Goes p e below _ (T5.setTop (mkF m 19 #[vr q, vi b, .unset, .unset, .unset, .unset] []))
        refine Goes.via (fun _ kk_ => XS.iinc X5.here hx rfl (hb hby d12_19) rfl (l' := #[vr q, vi (b + (1 : Int32)), .unset, .unset, .unset, .unset]) rfl kk_) ?_
        show Goes p e below _ (T5.setTop (mkF m 22 #[vr q, vi (b + (1 : Int32)), .unset, .unset, .unset, .unset] []))
        refine Goes.via (fun _ kk_ => XS.goto X5.here hx rfl (pc0 := 22) (pc' := 10) rfl (hb hby d12_22) (by decide) (by decide) kk_) ?_
        show Goes p e below _ (T5.setTop (mkF m 10 #[vr q, vi (b + (1 : Int32)), .unset, .unset, .unset, .unset] []))
        exact ih4 ((b + (1 : Int32))) (nb + 1) _ _ X5 e5 N4 (by have q := own_i1 (x := b) (by omega) (by omega); omega) (by omega) (own_nx hw_ ((own_on0 (by omega)).mp hc16)) (by omega)
      · skip
        refine Goes.via (fun _ kk_ => XS.ifYes X5.here hx rfl (pc0 := 16) (pc' := 25) rfl (hb hby d12_16) rfl ((if0 _ _).trans (feq hc16).2) (by decide) (by decide) kk_) ?_
        show Goes p e below _ (T5.setTop (mkF m 25 #[vr q, vi b, .unset, .unset, .unset, .unset] []))
        refine gALN X5 hx hby d12_25 rfl rfl ?_
        obtain ⟨T6, X6, e6, st6⟩ := getF X5 hx hZ hown (host := "") (Or.inl (own_w hw 19 rfl)) Via.refl e5 F6_q_moments (g := (mkF m 26 #[vr q, vi b, .unset, .unset, .unset, .unset] [(.ref q)])) rfl rfl (hb hby d12_26)
        refine Goes.via st6 ?_
        show Goes p e below _ (T6.setTop (mkF m 29 #[vr q, vi b, .unset, .unset, .unset, .unset] [(.ref mo)]))
        refine gILN X6 hx hby d12_29 rfl ?_
        show Goes p e below _ (T6.setTop (mkF m 30 #[vr q, vi b, .unset, .unset, .unset, .unset] [(.int b), (.ref mo)]))
        refine Goes.via (own_gal X6 hx hZ e6 A13_mo (i := nb) hb_ hnb (g := (mkF m 30 #[vr q, vi b, .unset, .unset, .unset, .unset] [(.int b), (.ref mo)])) rfl rfl (hb hby d12_30)) ?_
        show Goes p e below _ (T6.setTop (mkF m 31 #[vr q, vi b, .unset, .unset, .unset, .unset] [(.ref (mo + 1 + nb))]))
        refine Goes.via (fun _ kk_ => XS.astoreN X6.here hx rfl (hb hby d12_31) rfl rfl (l' := #[vr q, vi b, vr (mo + 1 + nb), .unset, .unset, .unset]) rfl kk_) ?_
        show Goes p e below _ (T6.setTop (mkF m 32 #[vr q, vi b, vr (mo + 1 + nb), .unset, .unset, .unset] []))
        refine gALN X6 hx hby d12_32 rfl rfl ?_
        refine gIC (z := 0) X6 hx hby d12_33 rfl ?_
        show Goes p e below _ (T6.setTop (mkF m 34 #[vr q, vi b, vr (mo + 1 + nb), .unset, .unset, .unset] [(.int (0 : Int32)), (.ref (mo + 1 + nb))]))
        refine Goes.via (own_glal X6 hx hZ e6 A13_mo (i := nb) (j := 0) hnb (by decide) (by decide) (v := (gM nb 0)) rfl (g := (mkF m 34 #[vr q, vi b, vr (mo + 1 + nb), .unset, .unset, .unset] [(.int (0 : Int32)), (.ref (mo + 1 + nb))])) rfl rfl (hb hby d12_34)) ?_
        show Goes p e below _ (T6.setTop (mkF m 35 #[vr q, vi b, vr (mo + 1 + nb), .unset, .unset, .unset] [(.long (gM nb 0))]))
        refine Goes.via (fun _ kk_ => XS.lstoreN X6.here hx rfl (hb hby d12_35) rfl (l' := #[vr q, vi b, vr (mo + 1 + nb), .val (.long (gM nb 0)), .second, .unset]) rfl kk_) ?_
        show Goes p e below _ (T6.setTop (mkF m 36 #[vr q, vi b, vr (mo + 1 + nb), .val (.long (gM nb 0)), .second, .unset] []))
        refine gIC (z := 1) X6 hx hby d12_36 rfl ?_
        refine Goes.via (fun _ kk_ => XS.istore X6.here hx rfl (hb hby d12_37) rfl (l' := #[vr q, vi b, vr (mo + 1 + nb), .val (.long (gM nb 0)), .second, vi (1 : Int32)]) rfl kk_) ?_
        show Goes p e below _ (T6.setTop (mkF m 39 #[vr q, vi b, vr (mo + 1 + nb), .val (.long (gM nb 0)), .second, vi (1 : Int32)] []))
        have hpos : cn nb ≠ 0 := fun z => hc16 ((own_on0 (by omega)).mpr z)
        have lp7 : ∀ (fu7 : Nat) (ea : Int64) (ii : Int32) (i : Nat) (T7 : State) (lc7 : List Loc), (Stand p l e ({ frames := 1, cells := 0, slots := 0, locals := 15 } : Room) s m #[(.ref q)] below meth c T7 lc7 0 0) → (T7.heap = h0) → (Fr n0 lc7) → (ii.toInt = (i : Int)) → (i ≤ cn nb) → (∃ k, k < cn nb ∧ gM nb k = ea) → (cn nb < i + fu7) → Goes p e below (Fin_ s (QrmFs Z q it fr mo sl ct kM kN kC fs us sz fi rf sb so gM cn h0 n0) ({ frames := 1, cells := 0, slots := 0, locals := 15 } : Room).cells ({ frames := 1, cells := 0, slots := 0, locals := 15 } : Room).slots) (T7.setTop (mkF m 39 #[vr q, vi b, vr (mo + 1 + nb), .val (.long ea), .second, vi ii] [])) := by
          intro fu7
          induction fu7 with
          | zero =>
            intro ea ii i T7 lc7 X7 e7 N7 hii hil hea hfv
            omega
          | succ fu7 ih7 =>
            intro ea ii i T7 lc7 X7 e7 N7 hii hil hea hfv
            refine gIL X7 hx hby d12_39 rfl ?_
            refine gALN X7 hx hby d12_41 rfl rfl ?_
            obtain ⟨T8, X8, e8, st8⟩ := getF X7 hx hZ hown (host := "") (Or.inl (own_w hw 25 rfl)) Via.refl e7 F8_q_counts (g := (mkF m 42 #[vr q, vi b, vr (mo + 1 + nb), .val (.long ea), .second, vi ii] [(.ref q), (.int ii)])) rfl rfl (hb hby d12_42)
            refine Goes.via st8 ?_
            show Goes p e below _ (T8.setTop (mkF m 45 #[vr q, vi b, vr (mo + 1 + nb), .val (.long ea), .second, vi ii] [(.ref ct), (.int ii)]))
            refine gILN X8 hx hby d12_45 rfl ?_
            refine Goes.via (own_iaload X8 hx hZ e8 A14_ct (j := b) (i := nb) (own_ix hb_).1 (own_ix hb_).2 hnb (v := (Int32.ofNat (cn nb))) rfl (g := (mkF m 46 #[vr q, vi b, vr (mo + 1 + nb), .val (.long ea), .second, vi ii] [(.int b), (.ref ct), (.int ii)])) rfl rfl (hb hby d12_46)) ?_
            show Goes p e below _ (T8.setTop (mkF m 47 #[vr q, vi b, vr (mo + 1 + nb), .val (.long ea), .second, vi ii] [(.int (Int32.ofNat (cn nb))), (.int ii)]))
            by_cases hc47 : ii < (Int32.ofNat (cn nb))
            · skip
              refine Goes.via (fun _ kk_ => XS.icmpNo X8.here hx rfl (hb hby d12_47) rfl (tlt hc47).2.1 kk_) ?_
              show Goes p e below _ (T8.setTop (mkF m 50 #[vr q, vi b, vr (mo + 1 + nb), .val (.long ea), .second, vi ii] []))
              have hlt : i < cn nb := by have q := own_lti.mp hc47; rw [own_on (by omega)] at q; omega
              refine Goes.via (fun _ kk_ => XS.lloadN X8.here hx rfl (hb hby d12_50) rfl  kk_) ?_
              show Goes p e below _ (T8.setTop (mkF m 51 #[vr q, vi b, vr (mo + 1 + nb), .val (.long ea), .second, vi ii] [(.long ea)]))
              refine gALN X8 hx hby d12_51 rfl rfl ?_
              refine gIL X8 hx hby d12_52 rfl ?_
              show Goes p e below _ (T8.setTop (mkF m 54 #[vr q, vi b, vr (mo + 1 + nb), .val (.long ea), .second, vi ii] [(.int ii), (.ref (mo + 1 + nb)), (.long ea)]))
              refine Goes.via (own_glal X8 hx hZ e8 A13_mo (i := nb) (j := i) hnb hii (by omega) (v := (gM nb i)) rfl (g := (mkF m 54 #[vr q, vi b, vr (mo + 1 + nb), .val (.long ea), .second, vi ii] [(.int ii), (.ref (mo + 1 + nb)), (.long ea)])) rfl rfl (hb hby d12_54)) ?_
              show Goes p e below _ (T8.setTop (mkF m 55 #[vr q, vi b, vr (mo + 1 + nb), .val (.long ea), .second, vi ii] [(.long (gM nb i)), (.long ea)]))
              obtain ⟨_, _, ⟨T9, L9, k9, n9⟩, -, X9, ⟨Lc9, hQ9, l9, y9, z9⟩, st9⟩ := Jvm.LawKit.callS X8 hx (y := mN_Math_min) hown (mvT hZ (own_w hw 98 rfl)) (mvT hZ (own_w hw 99 rfl)) (mvT hZ (own_w hw 100 rfl)) (mvT hZ (own_w hw 101 rfl)) (by decide) (backOf (W := 0) (rm15 l Z a0 hw [] ea (gM nb i) h0 n0 (Nat.le_trans Z0 (Nat.le_refl _)) ) hZ (own_w hw 101 rfl) (own_w hw 100 rfl) (by decide) (by decide)) (g := (mkF m 55 #[vr q, vi b, vr (mo + 1 + nb), .val (.long ea), .second, vi ii] [(.long (gM nb i)), (.long ea)])) rfl (by rw [hml]; rfl) (argsL := [(.long ea), (.long (gM nb i))]) (rest := []) (lenOf pd_2 rfl) rfl (by show 2 * 0 + _ ≤ _; exact Nat.le_of_eq rfl) (hb hby d12_55) (fun _ _ => ⟨rfl, e8, (by decide : 0 + 0 ≤ _), (by decide : 0 + 0 ≤ _)⟩)
              dsimp only [Pt.U, Pt.locs, Pt.cells, Pt.slots] at X9 l9 y9 z9 st9 hQ9
              replace l9 := l9.symm
              subst l9 y9 z9
              obtain ⟨rfl, rfl, e9⟩ := hQ9
              first | rw [List.append_nil] at X9 | skip
              refine Goes.via st9 ?_
              have e9' : T9.heap = h0 := e9
              show Goes p e below _ (T9.setTop (mkF m 58 #[vr q, vi b, vr (mo + 1 + nb), .val (.long ea), .second, vi ii] [(.long (own_min ea (gM nb i)))]))
              refine Goes.via (fun _ kk_ => XS.lstoreN X9.here hx rfl (hb hby d12_58) rfl (l' := #[vr q, vi b, vr (mo + 1 + nb), .val (.long (own_min ea (gM nb i))), .second, vi ii]) rfl kk_) ?_
              show Goes p e below _ (T9.setTop (mkF m 59 #[vr q, vi b, vr (mo + 1 + nb), .val (.long (own_min ea (gM nb i))), .second, vi ii] []))
              refine Goes.via (fun _ kk_ => XS.iinc X9.here hx rfl (hb hby d12_59) rfl (l' := #[vr q, vi b, vr (mo + 1 + nb), .val (.long (own_min ea (gM nb i))), .second, vi (ii + (1 : Int32))]) rfl kk_) ?_
              show Goes p e below _ (T9.setTop (mkF m 62 #[vr q, vi b, vr (mo + 1 + nb), .val (.long (own_min ea (gM nb i))), .second, vi (ii + (1 : Int32))] []))
              refine Goes.via (fun _ kk_ => XS.goto X9.here hx rfl (pc0 := 62) (pc' := 39) rfl (hb hby d12_62) (by decide) (by decide) kk_) ?_
              show Goes p e below _ (T9.setTop (mkF m 39 #[vr q, vi b, vr (mo + 1 + nb), .val (.long (own_min ea (gM nb i))), .second, vi (ii + (1 : Int32))] []))
              exact ih7 ((own_min ea (gM nb i))) ((ii + (1 : Int32))) (i + 1) _ _ X9 e9' N7 (by have q := own_i1 (x := ii) (by omega) (by omega); omega) (by omega) (own_mn (g := gM nb) hea hlt) (by omega)
            · skip
              refine Goes.via (fun _ kk_ => XS.icmpYes X8.here hx rfl (pc0 := 47) (pc' := 65) rfl (hb hby d12_47) rfl (flt hc47).2.1 (by decide) (by decide) kk_) ?_
              show Goes p e below _ (T8.setTop (mkF m 65 #[vr q, vi b, vr (mo + 1 + nb), .val (.long ea), .second, vi ii] []))
              refine gALN X8 hx hby d12_65 rfl rfl ?_
              refine gILN X8 hx hby d12_66 rfl ?_
              obtain ⟨T10, h10, X10, e10, W10, st10⟩ := putF X8 hx hZ hown (host := "") (Or.inl (own_w hw 30 rfl)) Via.refl e8 F11_q_soonestBucket E0_q (Or.inl (own_w hw 31 rfl)) (own_w hw 1 rfl) (ty := .int) (by decide) rfl rfl (g := (mkF m 67 #[vr q, vi b, vr (mo + 1 + nb), .val (.long ea), .second, vi ii] [(.int b), (.ref q)])) rfl rfl (hb hby d12_67)
              refine Goes.via st10 ?_
              have N10 := Fr.snoc X10 N7 H15
              have Fw10 : Fld Z h10 q "nearhop/sim/EventQueue" "soonestBucket" "I" (.int b) := F11_q_soonestBucket.same W10
              show Goes p e below _ (T10.setTop (mkF m 70 #[vr q, vi b, vr (mo + 1 + nb), .val (.long ea), .second, vi ii] []))
              refine gALN X10 hx hby d12_70 rfl rfl ?_
              refine Goes.via (fun _ kk_ => XS.lloadN X10.here hx rfl (hb hby d12_71) rfl  kk_) ?_
              show Goes p e below _ (T10.setTop (mkF m 72 #[vr q, vi b, vr (mo + 1 + nb), .val (.long ea), .second, vi ii] [(.long ea), (.ref q)]))
              have f11 := (F12_q_soonest.other W10 (Or.inr (slot_ne (Or.inl (own_w hw 89 rfl)) (Or.inl (own_w hw 31 rfl)) (by decide) (t := .long) (t' := .int) (by decide) (by decide))))
              have f12 := (E0_q.wr W10)
              obtain ⟨T13, h13, X13, e13, W13, st13⟩ := putF X10 hx hZ hown (host := "") (Or.inl (own_w hw 88 rfl)) Via.refl e10 f11 f12 (Or.inl (own_w hw 89 rfl)) (own_w hw 1 rfl) (ty := .long) (by decide) rfl rfl (g := (mkF m 72 #[vr q, vi b, vr (mo + 1 + nb), .val (.long ea), .second, vi ii] [(.long ea), (.ref q)])) rfl rfl (hb hby d12_72)
              refine Goes.via st13 ?_
              have N13 := Fr.snoc X13 N10 H15
              have Fw13 : Fld Z h13 q "nearhop/sim/EventQueue" "soonest" "J" (.long ea) := f11.same W13
              show Goes p e below _ (T13.setTop (mkF m 75 #[vr q, vi b, vr (mo + 1 + nb), .val (.long ea), .second, vi ii] []))
              have K14 : Keep h0 h13 [q] := (((Keep.refl h0 [q]).wr W10 (Or.inl (List.mem_of_getElem? (i := 0) rfl))).wr W13 (Or.inl (List.mem_of_getElem? (i := 0) rfl)))
              have f15 := (f12.wr W13)
              have f16 := ((F1_q_items.other W10 (Or.inr (slot_ne (Or.inl (own_w hw 12 rfl)) (Or.inl (own_w hw 31 rfl)) (by decide) (t := (.array (.object "java/lang/Object"))) (t' := .int) (by decide) (by decide)))).other W13 (Or.inr (slot_ne (Or.inl (own_w hw 12 rfl)) (Or.inl (own_w hw 89 rfl)) (by decide) (t := (.array (.object "java/lang/Object"))) (t' := .long) (by decide) (by decide))))
              have f17 := ((F2_q_free.other W10 (Or.inr (slot_ne (Or.inl (own_w hw 15 rfl)) (Or.inl (own_w hw 31 rfl)) (by decide) (t := (.array .int)) (t' := .int) (by decide) (by decide)))).other W13 (Or.inr (slot_ne (Or.inl (own_w hw 15 rfl)) (Or.inl (own_w hw 89 rfl)) (by decide) (t := (.array .int)) (t' := .long) (by decide) (by decide))))
              have f18 := ((F3_q_freeSlots.other W10 (Or.inr (slot_ne (Or.inl (own_w hw 56 rfl)) (Or.inl (own_w hw 31 rfl)) (by decide) (t := .int) (t' := .int) (by decide) (by decide)))).other W13 (Or.inr (slot_ne (Or.inl (own_w hw 56 rfl)) (Or.inl (own_w hw 89 rfl)) (by decide) (t := .int) (t' := .long) (by decide) (by decide))))
              have f19 := ((F4_q_used.other W10 (Or.inr (slot_ne (Or.inl (own_w hw 58 rfl)) (Or.inl (own_w hw 31 rfl)) (by decide) (t := .int) (t' := .int) (by decide) (by decide)))).other W13 (Or.inr (slot_ne (Or.inl (own_w hw 58 rfl)) (Or.inl (own_w hw 89 rfl)) (by decide) (t := .int) (t' := .long) (by decide) (by decide))))
              have f20 := ((F5_q_size.other W10 (Or.inr (slot_ne (Or.inl (own_w hw 38 rfl)) (Or.inl (own_w hw 31 rfl)) (by decide) (t := .int) (t' := .int) (by decide) (by decide)))).other W13 (Or.inr (slot_ne (Or.inl (own_w hw 38 rfl)) (Or.inl (own_w hw 89 rfl)) (by decide) (t := .int) (t' := .long) (by decide) (by decide))))
              have f21 := ((F6_q_moments.other W10 (Or.inr (slot_ne (Or.inr (own_w hw 20 rfl)) (Or.inl (own_w hw 31 rfl)) (by decide) (t := (.array (.array .long))) (t' := .int) (by decide) (by decide)))).other W13 (Or.inr (slot_ne (Or.inr (own_w hw 20 rfl)) (Or.inl (own_w hw 89 rfl)) (by decide) (t := (.array (.array .long))) (t' := .long) (by decide) (by decide))))
              have f22 := ((F7_q_slots.other W10 (Or.inr (slot_ne (Or.inr (own_w hw 24 rfl)) (Or.inl (own_w hw 31 rfl)) (by decide) (t := (.array (.array .int))) (t' := .int) (by decide) (by decide)))).other W13 (Or.inr (slot_ne (Or.inr (own_w hw 24 rfl)) (Or.inl (own_w hw 89 rfl)) (by decide) (t := (.array (.array .int))) (t' := .long) (by decide) (by decide))))
              have f23 := ((F8_q_counts.other W10 (Or.inr (slot_ne (Or.inr (own_w hw 26 rfl)) (Or.inl (own_w hw 31 rfl)) (by decide) (t := (.array .int)) (t' := .int) (by decide) (by decide)))).other W13 (Or.inr (slot_ne (Or.inr (own_w hw 26 rfl)) (Or.inl (own_w hw 89 rfl)) (by decide) (t := (.array .int)) (t' := .long) (by decide) (by decide))))
              have f24 := ((F9_q_first.other W10 (Or.inr (slot_ne (Or.inl (own_w hw 83 rfl)) (Or.inl (own_w hw 31 rfl)) (by decide) (t := .int) (t' := .int) (by decide) (by decide)))).other W13 (Or.inr (slot_ne (Or.inl (own_w hw 83 rfl)) (Or.inl (own_w hw 89 rfl)) (by decide) (t := .int) (t' := .long) (by decide) (by decide))))
              have f25 := ((F10_q_reference.other W10 (Or.inr (slot_ne (Or.inl (own_w hw 29 rfl)) (Or.inl (own_w hw 31 rfl)) (by decide) (t := .long) (t' := .int) (by decide) (by decide)))).other W13 (Or.inr (slot_ne (Or.inl (own_w hw 29 rfl)) (Or.inl (own_w hw 89 rfl)) (by decide) (t := .long) (t' := .long) (by decide) (by decide))))
              have f26 := (Fw10.other W13 (Or.inr (slot_ne (Or.inl (own_w hw 31 rfl)) (Or.inl (own_w hw 89 rfl)) (by decide) (t := .int) (t' := .long) (by decide) (by decide))))
              exact own_finV X13 hx hlk hret (hb hby d12_75) (by rw [e13]; exact ⟨b, nb, ea, rfl, N13, K14, f15, f16, f17, f18, f19, f20, f21, f22, f23, f24, f25, f26, Fw13, hb_, hnb, hpos, hea⟩) (by first | decide | omega | (dsimp only; omega)) (by first | decide | omega | (dsimp only; omega))
        exact lp7 (cn nb) ((gM nb 0)) ((1 : Int32)) (1) _ _ X6 e6 N4 (by decide) (by omega) ⟨0, by omega, rfl⟩ (by omega)
  exact lp4 (65) ((1 : Int32)) (1) _ _ X2 e2 N0 (by decide) (by decide) HX (by omega)
theorem ef_rmDo (m : MethodId) (q : Addr) (bk : Int32) (mt : Int64) : entryFrame m #[(.ref q), (.int bk), (.long mt)] 8 = mkF m 0 #[.val (.ref q), .val (.int bk), .val (.long mt), .second, .unset, .unset, .unset, .unset] [] := by first | (simp [entryFrame, mkF, argsToLocals, Value.category]; done) | rfl
def QrmDo (Z : State) (q : Nat) (bk : Int32) (mt : Int64) (it : Nat) (fr : Nat) (mo : Nat) (sl : Nat) (ct : Nat) (kI : ClassId) (kF : ClassId) (kM : ClassId) (kN : ClassId) (kS : ClassId) (kU : ClassId) (kC : ClassId) (fs : Int32) (us : Int32) (sz : Int32) (fi : Int32) (rf : Int64) (sb : Int32) (so : Int64) (fI : Nat → Value) (fF : Nat → Int32) (gM : Nat → Nat → Int64) (gS : Nat → Nat → Int32) (cn : Nat → Nat) (nb : Nat) (h0 : Heap) (n0 : Nat) (v_ : Option Value) (h_ : Heap) (L_ : List Loc) : Prop := ∃ cn' : Nat → Nat, ∃ gM' : Nat → Nat → Int64, ∃ gS' : Nat → Nat → Int32, v_ = none ∧ Fr n0 L_ ∧ KpN n0 h0 h_ ∧ Exa Z h_ q "nearhop/sim/EventQueue" ∧ Fld Z h_ q "nearhop/sim/EventQueue" "items" "[Ljava/lang/Object;" (.ref it) ∧ Fld Z h_ q "nearhop/sim/EventQueue" "free" "[I" (.ref fr) ∧ Fld Z h_ q "nearhop/sim/EventQueue" "freeSlots" "I" (.int fs) ∧ Fld Z h_ q "nearhop/sim/EventQueue" "used" "I" (.int us) ∧ Fld Z h_ q "nearhop/sim/EventQueue" "size" "I" (.int sz) ∧ Fld Z h_ q "nearhop/sim/EventQueue" "moments" "[[J" (.ref mo) ∧ Fld Z h_ q "nearhop/sim/EventQueue" "slots" "[[I" (.ref sl) ∧ Fld Z h_ q "nearhop/sim/EventQueue" "counts" "[I" (.ref ct) ∧ Fld Z h_ q "nearhop/sim/EventQueue" "first" "I" (.int fi) ∧ Fld Z h_ q "nearhop/sim/EventQueue" "reference" "J" (.long mt) ∧ Fld Z h_ q "nearhop/sim/EventQueue" "soonestBucket" "I" (.int sb) ∧ Fld Z h_ q "nearhop/sim/EventQueue" "soonest" "J" (.long so) ∧ Arw Z h_ it kI (.object "java/lang/Object") 64 fI ∧ Arw Z h_ fr kF .int 64 (fun i => .int (fF i)) ∧ Grv Z h_ mo kM kN .long 65 64 (fun u v => .long (gM' u v)) ∧ Grv Z h_ sl kS kU .int 65 64 (fun u v => .int (gS' u v)) ∧ Arw Z h_ ct kC .int 65 (fun i => .int (Int32.ofNat (cn' i))) ∧ own_sum cn' 65 = own_sum cn 65 ∧ 1 ≤ cn' 0 ∧ own_R2 gS'
theorem d13_0 : decode prog_155_method_9_code 0 = .ok (.aload_n 0, 1) := by decide +kernel
theorem d13_1 : decode prog_155_method_9_code 1 = .ok (.lload_n 2, 1) := by decide +kernel
theorem d13_2 : decode prog_155_method_9_code 2 = .ok (.putfield 34, 3) := by decide +kernel
theorem d13_5 : decode prog_155_method_9_code 5 = .ok (.aload_n 0, 1) := by decide +kernel
theorem d13_6 : decode prog_155_method_9_code 6 = .ok (.getfield 21, 3) := by decide +kernel
theorem d13_9 : decode prog_155_method_9_code 9 = .ok (.iload_n 1, 1) := by decide +kernel
theorem d13_10 : decode prog_155_method_9_code 10 = .ok (.aaload, 1) := by decide +kernel
theorem d13_11 : decode prog_155_method_9_code 11 = .ok (.astore 4, 2) := by decide +kernel
theorem d13_13 : decode prog_155_method_9_code 13 = .ok (.aload_n 0, 1) := by decide +kernel
theorem d13_14 : decode prog_155_method_9_code 14 = .ok (.getfield 26, 3) := by decide +kernel
theorem d13_17 : decode prog_155_method_9_code 17 = .ok (.iload_n 1, 1) := by decide +kernel
theorem d13_18 : decode prog_155_method_9_code 18 = .ok (.aaload, 1) := by decide +kernel
theorem d13_19 : decode prog_155_method_9_code 19 = .ok (.astore 5, 2) := by decide +kernel
theorem d13_21 : decode prog_155_method_9_code 21 = .ok (.aload_n 0, 1) := by decide +kernel
theorem d13_22 : decode prog_155_method_9_code 22 = .ok (.getfield 29, 3) := by decide +kernel
theorem d13_25 : decode prog_155_method_9_code 25 = .ok (.iload_n 1, 1) := by decide +kernel
theorem d13_26 : decode prog_155_method_9_code 26 = .ok (.iaload, 1) := by decide +kernel
theorem d13_27 : decode prog_155_method_9_code 27 = .ok (.istore 6, 2) := by decide +kernel
theorem d13_29 : decode prog_155_method_9_code 29 = .ok (.aload_n 0, 1) := by decide +kernel
theorem d13_30 : decode prog_155_method_9_code 30 = .ok (.getfield 29, 3) := by decide +kernel
theorem d13_33 : decode prog_155_method_9_code 33 = .ok (.iload_n 1, 1) := by decide +kernel
theorem d13_34 : decode prog_155_method_9_code 34 = .ok (.iconst 0, 1) := by decide +kernel
theorem d13_35 : decode prog_155_method_9_code 35 = .ok (.iastore, 1) := by decide +kernel
theorem d13_36 : decode prog_155_method_9_code 36 = .ok (.iconst 0, 1) := by decide +kernel
theorem d13_37 : decode prog_155_method_9_code 37 = .ok (.istore 7, 2) := by decide +kernel
theorem d13_39 : decode prog_155_method_9_code 39 = .ok (.iload 7, 2) := by decide +kernel
theorem d13_41 : decode prog_155_method_9_code 41 = .ok (.iload 6, 2) := by decide +kernel
theorem d13_43 : decode prog_155_method_9_code 43 = .ok (.if_icmp .ge 32, 3) := by decide +kernel
theorem d13_46 : decode prog_155_method_9_code 46 = .ok (.aload_n 0, 1) := by decide +kernel
theorem d13_47 : decode prog_155_method_9_code 47 = .ok (.aload_n 0, 1) := by decide +kernel
theorem d13_48 : decode prog_155_method_9_code 48 = .ok (.aload 4, 2) := by decide +kernel
theorem d13_50 : decode prog_155_method_9_code 50 = .ok (.iload 7, 2) := by decide +kernel
theorem d13_52 : decode prog_155_method_9_code 52 = .ok (.laload, 1) := by decide +kernel
theorem d13_53 : decode prog_155_method_9_code 53 = .ok (.invokevirtual 80, 3) := by decide +kernel
abbrev mN_EventQueue_bucketOf : MethodName := ⟨"nearhop/sim/EventQueue", "bucketOf", "(J)I"⟩
theorem d13_56 : decode prog_155_method_9_code 56 = .ok (.aload 4, 2) := by decide +kernel
theorem d13_58 : decode prog_155_method_9_code 58 = .ok (.iload 7, 2) := by decide +kernel
theorem d13_60 : decode prog_155_method_9_code 60 = .ok (.laload, 1) := by decide +kernel
theorem d13_61 : decode prog_155_method_9_code 61 = .ok (.aload 5, 2) := by decide +kernel
theorem d13_63 : decode prog_155_method_9_code 63 = .ok (.iload 7, 2) := by decide +kernel
theorem d13_65 : decode prog_155_method_9_code 65 = .ok (.iaload, 1) := by decide +kernel
theorem pd_3 : parseMethodDescriptor "(IJI)V" = some ⟨[.int, .long, .int], none⟩ := by decide +kernel
theorem d13_66 : decode prog_155_method_9_code 66 = .ok (.invokevirtual 84, 3) := by decide +kernel
abbrev mN_EventQueue_append : MethodName := ⟨"nearhop/sim/EventQueue", "append", "(IJI)V"⟩
theorem d13_69 : decode prog_155_method_9_code 69 = .ok (.iinc 7 1, 3) := by decide +kernel
theorem d13_72 : decode prog_155_method_9_code 72 = .ok (.goto (-33), 3) := by decide +kernel
theorem d13_75 : decode prog_155_method_9_code 75 = .ok (.return_, 1) := by decide +kernel
set_option maxRecDepth 65536 in
set_option maxHeartbeats 40000000 in
theorem rmDo (l : Launch) (Z : State) (a0 : Array Value) (hw : ∀ d ∈ tables_1, d.before a0 Z = true) (ws : List Jvm.Cond) (q : Nat) (bk : Int32) (mt : Int64) (it : Nat) (fr : Nat) (mo : Nat) (sl : Nat) (ct : Nat) (kI : ClassId) (kF : ClassId) (kM : ClassId) (kN : ClassId) (kS : ClassId) (kU : ClassId) (kC : ClassId) (fs : Int32) (us : Int32) (sz : Int32) (fi : Int32) (rf : Int64) (sb : Int32) (so : Int64) (fI : Nat → Value) (fF : Nat → Int32) (gM : Nat → Nat → Int64) (gS : Nat → Nat → Int32) (cn : Nat → Nat) (nb : Nat) (h0 : Heap) (n0 : Nat) (Z0 : n0 ≤ h0.size) (E0_q : Exa Z h0 q "nearhop/sim/EventQueue") (F1_q_items : Fld Z h0 q "nearhop/sim/EventQueue" "items" "[Ljava/lang/Object;" (.ref it)) (F2_q_free : Fld Z h0 q "nearhop/sim/EventQueue" "free" "[I" (.ref fr)) (F3_q_freeSlots : Fld Z h0 q "nearhop/sim/EventQueue" "freeSlots" "I" (.int fs)) (F4_q_used : Fld Z h0 q "nearhop/sim/EventQueue" "used" "I" (.int us)) (F5_q_size : Fld Z h0 q "nearhop/sim/EventQueue" "size" "I" (.int sz)) (F6_q_moments : Fld Z h0 q "nearhop/sim/EventQueue" "moments" "[[J" (.ref mo)) (F7_q_slots : Fld Z h0 q "nearhop/sim/EventQueue" "slots" "[[I" (.ref sl)) (F8_q_counts : Fld Z h0 q "nearhop/sim/EventQueue" "counts" "[I" (.ref ct)) (F9_q_first : Fld Z h0 q "nearhop/sim/EventQueue" "first" "I" (.int fi)) (F10_q_reference : Fld Z h0 q "nearhop/sim/EventQueue" "reference" "J" (.long rf)) (F11_q_soonestBucket : Fld Z h0 q "nearhop/sim/EventQueue" "soonestBucket" "I" (.int sb)) (F12_q_soonest : Fld Z h0 q "nearhop/sim/EventQueue" "soonest" "J" (.long so)) (A13_it : Arw Z h0 it kI (.object "java/lang/Object") 64 fI) (A14_fr : Arw Z h0 fr kF .int 64 (fun i => .int (fF i))) (A15_mo : Grv Z h0 mo kM kN .long 65 64 (fun u v => .long (gM u v))) (A16_sl : Grv Z h0 sl kS kU .int 65 64 (fun u v => .int (gS u v))) (A17_ct : Arw Z h0 ct kC .int 65 (fun i => .int (Int32.ofNat (cn i)))) (H18 : n0 ≤ q) (HLa : q < it) (HLb : it < fr) (HLc : fr < mo) (HLd : mo + 66 ≤ sl) (HLe : sl + 66 ≤ ct) (Hb : bk.toInt = (nb : Int)) (Hnb : nb < 65) (H5 : own_sum cn 65 ≤ 5) (HX : ∃ k, k < cn nb ∧ gM nb k = mt) (HR : own_R2 gS) :
    MetFree l (⟨"nearhop/sim/EventQueue", "dealOut", "(IJ)V"⟩ : MethodName) (head1 (Jvm.Cond.code (⟨"nearhop/sim/EventQueue", "dealOut", "(IJ)V"⟩ : MethodName) prog_155_method_9_code 8 none :: ws) ({ frames := 3, cells := 0, slots := 0, locals := 44 } : Room)) (fun as_ U_ => as_ = #[(.ref q), (.int bk), (.long mt)] ∧ Z.Warmed39 U_.vm ∧ U_.heap = h0) (fun _ _ _ _ _ => True) (fun _ U_ o_ V_ => ∃ v_ L_, o_ = .returned v_ ∧ QrmDo Z q bk mt it fr mo sl ct kI kF kM kN kS kU kC fs us sz fi rf sb so fI fF gM gS cn nb h0 n0 v_ V_.heap L_ ∧ FrameEnd U_ o_ V_ L_ ({ frames := 3, cells := 0, slots := 0, locals := 44 } : Room).cells ({ frames := 3, cells := 0, slots := 0, locals := 44 } : Room).slots) := by
  refine MetFree.of_bodySF (plainFor_of_name pn_nearhop_sim_EventQueue) hisR ?_
  intro p e s m args below meth c s₁ Bd hml0 hP hK
  obtain ⟨rfl, hZ, hh⟩ := hP
  have hx := Bd.exec
  have hby := Bd.bytes
  have hlk : meth.locks = false := BodyLoose.notSynchronized Bd
  have hret := Bd.returns
  have hml : c.maxLocals = 8 := hml0
  have hown : s.vm.findClass "nearhop/sim/EventQueue" = some m.cls := findClass_of_methodNamed Bd.named
  have hnm := (name_of_methodNamed Bd.named Bd.method).1
  have X0 : Stand p l e ({ frames := 3, cells := 0, slots := 0, locals := 44 } : Room) s m #[(.ref q), (.int bk), (.long mt)] below meth c s₁ [] 0 0 := Stand.of_body Bd
  have e0 : s₁.heap = h0 := by rw [← hh, Bd.state]; rfl
  have N0 := Fr.nil n0
  show Goes p e below (Fin_ s (QrmDo Z q bk mt it fr mo sl ct kI kF kM kN kS kU kC fs us sz fi rf sb so fI fF gM gS cn nb h0 n0) ({ frames := 3, cells := 0, slots := 0, locals := 44 } : Room).cells ({ frames := 3, cells := 0, slots := 0, locals := 44 } : Room).slots) (s₁.setTop (entryFrame m #[(.ref q), (.int bk), (.long mt)] 8))
  rw [ef_rmDo m q bk mt]
  have ne1 : q ≠ it := own_ne_arr E0_q (own_w hw 1 rfl) A13_it
  have ne2 : q ≠ fr := own_ne_arr E0_q (own_w hw 1 rfl) A14_fr
  have ne3 : q ≠ ct := own_ne_arr E0_q (own_w hw 1 rfl) A17_ct
  have hV5 : cn nb ≤ 5 := Nat.le_trans (own_sumL cn Hnb) H5
  refine gALN X0 hx hby d13_0 rfl rfl ?_
  refine Goes.via (fun _ kk_ => XS.lloadN X0.here hx rfl (hb hby d13_1) rfl  kk_) ?_
  show Goes p e below _ (s₁.setTop (mkF m 2 #[vr q, vi bk, .val (.long mt), .second, .unset, .unset, .unset, .unset] [(.long mt), (.ref q)]))
  obtain ⟨T4, h4, X4, e4, W4, st4⟩ := putF X0 hx hZ hown (host := "") (Or.inl (own_w hw 28 rfl)) Via.refl e0 F10_q_reference E0_q (Or.inl (own_w hw 29 rfl)) (own_w hw 1 rfl) (ty := .long) (by decide) rfl rfl (g := (mkF m 2 #[vr q, vi bk, .val (.long mt), .second, .unset, .unset, .unset, .unset] [(.long mt), (.ref q)])) rfl rfl (hb hby d13_2)
  refine Goes.via st4 ?_
  have N4 := Fr.snoc X4 N0 H18
  have Fw4 : Fld Z h4 q "nearhop/sim/EventQueue" "reference" "J" (.long mt) := F10_q_reference.same W4
  show Goes p e below _ (T4.setTop (mkF m 5 #[vr q, vi bk, .val (.long mt), .second, .unset, .unset, .unset, .unset] []))
  refine gALN X4 hx hby d13_5 rfl rfl ?_
  have f5 := (F6_q_moments.other W4 (Or.inr (slot_ne (Or.inr (own_w hw 20 rfl)) (Or.inl (own_w hw 29 rfl)) (by decide) (t := (.array (.array .long))) (t' := .long) (by decide) (by decide))))
  obtain ⟨T6, X6, e6, st6⟩ := getF X4 hx hZ hown (host := "") (Or.inl (own_w hw 19 rfl)) Via.refl e4 f5 (g := (mkF m 6 #[vr q, vi bk, .val (.long mt), .second, .unset, .unset, .unset, .unset] [(.ref q)])) rfl rfl (hb hby d13_6)
  refine Goes.via st6 ?_
  show Goes p e below _ (T6.setTop (mkF m 9 #[vr q, vi bk, .val (.long mt), .second, .unset, .unset, .unset, .unset] [(.ref mo)]))
  refine gILN X6 hx hby d13_9 rfl ?_
  show Goes p e below _ (T6.setTop (mkF m 10 #[vr q, vi bk, .val (.long mt), .second, .unset, .unset, .unset, .unset] [(.int bk), (.ref mo)]))
  have f7 := (A15_mo.off W4 (show (q : Nat) < mo ∨ mo + 65 < q by omega))
  refine Goes.via (own_gal X6 hx hZ e6 f7 (i := nb) Hb Hnb (g := (mkF m 10 #[vr q, vi bk, .val (.long mt), .second, .unset, .unset, .unset, .unset] [(.int bk), (.ref mo)])) rfl rfl (hb hby d13_10)) ?_
  show Goes p e below _ (T6.setTop (mkF m 11 #[vr q, vi bk, .val (.long mt), .second, .unset, .unset, .unset, .unset] [(.ref (mo + 1 + nb))]))
  refine Goes.via (fun _ kk_ => XS.astore X6.here hx rfl (hb hby d13_11) rfl rfl (l' := #[vr q, vi bk, .val (.long mt), .second, vr (mo + 1 + nb), .unset, .unset, .unset]) rfl kk_) ?_
  show Goes p e below _ (T6.setTop (mkF m 13 #[vr q, vi bk, .val (.long mt), .second, vr (mo + 1 + nb), .unset, .unset, .unset] []))
  refine gALN X6 hx hby d13_13 rfl rfl ?_
  have f8 := (F7_q_slots.other W4 (Or.inr (slot_ne (Or.inr (own_w hw 24 rfl)) (Or.inl (own_w hw 29 rfl)) (by decide) (t := (.array (.array .int))) (t' := .long) (by decide) (by decide))))
  obtain ⟨T9, X9, e9, st9⟩ := getF X6 hx hZ hown (host := "") (Or.inl (own_w hw 23 rfl)) Via.refl e6 f8 (g := (mkF m 14 #[vr q, vi bk, .val (.long mt), .second, vr (mo + 1 + nb), .unset, .unset, .unset] [(.ref q)])) rfl rfl (hb hby d13_14)
  refine Goes.via st9 ?_
  show Goes p e below _ (T9.setTop (mkF m 17 #[vr q, vi bk, .val (.long mt), .second, vr (mo + 1 + nb), .unset, .unset, .unset] [(.ref sl)]))
  refine gILN X9 hx hby d13_17 rfl ?_
  show Goes p e below _ (T9.setTop (mkF m 18 #[vr q, vi bk, .val (.long mt), .second, vr (mo + 1 + nb), .unset, .unset, .unset] [(.int bk), (.ref sl)]))
  have f10 := (A16_sl.off W4 (show (q : Nat) < sl ∨ sl + 65 < q by omega))
  refine Goes.via (own_gal X9 hx hZ e9 f10 (i := nb) Hb Hnb (g := (mkF m 18 #[vr q, vi bk, .val (.long mt), .second, vr (mo + 1 + nb), .unset, .unset, .unset] [(.int bk), (.ref sl)])) rfl rfl (hb hby d13_18)) ?_
  show Goes p e below _ (T9.setTop (mkF m 19 #[vr q, vi bk, .val (.long mt), .second, vr (mo + 1 + nb), .unset, .unset, .unset] [(.ref (sl + 1 + nb))]))
  refine Goes.via (fun _ kk_ => XS.astore X9.here hx rfl (hb hby d13_19) rfl rfl (l' := #[vr q, vi bk, .val (.long mt), .second, vr (mo + 1 + nb), vr (sl + 1 + nb), .unset, .unset]) rfl kk_) ?_
  show Goes p e below _ (T9.setTop (mkF m 21 #[vr q, vi bk, .val (.long mt), .second, vr (mo + 1 + nb), vr (sl + 1 + nb), .unset, .unset] []))
  refine gALN X9 hx hby d13_21 rfl rfl ?_
  have f11 := (F8_q_counts.other W4 (Or.inr (slot_ne (Or.inr (own_w hw 26 rfl)) (Or.inl (own_w hw 29 rfl)) (by decide) (t := (.array .int)) (t' := .long) (by decide) (by decide))))
  obtain ⟨T12, X12, e12, st12⟩ := getF X9 hx hZ hown (host := "") (Or.inl (own_w hw 25 rfl)) Via.refl e9 f11 (g := (mkF m 22 #[vr q, vi bk, .val (.long mt), .second, vr (mo + 1 + nb), vr (sl + 1 + nb), .unset, .unset] [(.ref q)])) rfl rfl (hb hby d13_22)
  refine Goes.via st12 ?_
  show Goes p e below _ (T12.setTop (mkF m 25 #[vr q, vi bk, .val (.long mt), .second, vr (mo + 1 + nb), vr (sl + 1 + nb), .unset, .unset] [(.ref ct)]))
  refine gILN X12 hx hby d13_25 rfl ?_
  have f13 := (A17_ct.other W4 (Ne.symm ne3))
  refine Goes.via (own_iaload X12 hx hZ e12 f13 (j := bk) (i := nb) (own_ix Hb).1 (own_ix Hb).2 Hnb (v := (Int32.ofNat (cn nb))) rfl (g := (mkF m 26 #[vr q, vi bk, .val (.long mt), .second, vr (mo + 1 + nb), vr (sl + 1 + nb), .unset, .unset] [(.int bk), (.ref ct)])) rfl rfl (hb hby d13_26)) ?_
  show Goes p e below _ (T12.setTop (mkF m 27 #[vr q, vi bk, .val (.long mt), .second, vr (mo + 1 + nb), vr (sl + 1 + nb), .unset, .unset] [(.int (Int32.ofNat (cn nb)))]))
  refine Goes.via (fun _ kk_ => XS.istore X12.here hx rfl (hb hby d13_27) rfl (l' := #[vr q, vi bk, .val (.long mt), .second, vr (mo + 1 + nb), vr (sl + 1 + nb), vi (Int32.ofNat (cn nb)), .unset]) rfl kk_) ?_
  show Goes p e below _ (T12.setTop (mkF m 29 #[vr q, vi bk, .val (.long mt), .second, vr (mo + 1 + nb), vr (sl + 1 + nb), vi (Int32.ofNat (cn nb)), .unset] []))
  refine gALN X12 hx hby d13_29 rfl rfl ?_
  obtain ⟨T14, X14, e14, st14⟩ := getF X12 hx hZ hown (host := "") (Or.inl (own_w hw 25 rfl)) Via.refl e12 f11 (g := (mkF m 30 #[vr q, vi bk, .val (.long mt), .second, vr (mo + 1 + nb), vr (sl + 1 + nb), vi (Int32.ofNat (cn nb)), .unset] [(.ref q)])) rfl rfl (hb hby d13_30)
  refine Goes.via st14 ?_
  show Goes p e below _ (T14.setTop (mkF m 33 #[vr q, vi bk, .val (.long mt), .second, vr (mo + 1 + nb), vr (sl + 1 + nb), vi (Int32.ofNat (cn nb)), .unset] [(.ref ct)]))
  refine gILN X14 hx hby d13_33 rfl ?_
  refine gIC (z := 0) X14 hx hby d13_34 rfl ?_
  obtain ⟨T15, h15, X15, e15, W15, A15, st15⟩ := own_iastore X14 hx hZ e14 f13 (j := bk) (i := nb) (own_ix Hb).1 (own_ix Hb).2 Hnb (g := (mkF m 35 #[vr q, vi bk, .val (.long mt), .second, vr (mo + 1 + nb), vr (sl + 1 + nb), vi (Int32.ofNat (cn nb)), .unset] [(.int (0 : Int32)), (.int bk), (.ref ct)])) rfl rfl (hb hby d13_35)
  refine Goes.via st15 ?_
  have N15 := Fr.snoc X15 N4 (show n0 ≤ ct by omega)
  show Goes p e below _ (T15.setTop (mkF m 36 #[vr q, vi bk, .val (.long mt), .second, vr (mo + 1 + nb), vr (sl + 1 + nb), vi (Int32.ofNat (cn nb)), .unset] []))
  have cv16 : Arw Z h15 ct kC .int 65 (fun i => .int (Int32.ofNat ((own_cu cn nb 0) i))) := (by have q := A15; exact Arw.toC (w := fun z => .int (Int32.ofNat z)) q)
  refine gIC (z := 0) X15 hx hby d13_36 rfl ?_
  refine Goes.via (fun _ kk_ => XS.istore X15.here hx rfl (hb hby d13_37) rfl (l' := #[vr q, vi bk, .val (.long mt), .second, vr (mo + 1 + nb), vr (sl + 1 + nb), vi (Int32.ofNat (cn nb)), vi (0 : Int32)]) rfl kk_) ?_
  show Goes p e below _ (T15.setTop (mkF m 39 #[vr q, vi bk, .val (.long mt), .second, vr (mo + 1 + nb), vr (sl + 1 + nb), vi (Int32.ofNat (cn nb)), vi (0 : Int32)] []))
  have f18 := ((E0_q.wr W4).wr W15)
  have f19 := ((F1_q_items.other W4 (Or.inr (slot_ne (Or.inl (own_w hw 12 rfl)) (Or.inl (own_w hw 29 rfl)) (by decide) (t := (.array (.object "java/lang/Object"))) (t' := .long) (by decide) (by decide)))).other W15 (Or.inl ne3))
  have f20 := ((F2_q_free.other W4 (Or.inr (slot_ne (Or.inl (own_w hw 15 rfl)) (Or.inl (own_w hw 29 rfl)) (by decide) (t := (.array .int)) (t' := .long) (by decide) (by decide)))).other W15 (Or.inl ne3))
  have f21 := ((F3_q_freeSlots.other W4 (Or.inr (slot_ne (Or.inl (own_w hw 56 rfl)) (Or.inl (own_w hw 29 rfl)) (by decide) (t := .int) (t' := .long) (by decide) (by decide)))).other W15 (Or.inl ne3))
  have f22 := ((F4_q_used.other W4 (Or.inr (slot_ne (Or.inl (own_w hw 58 rfl)) (Or.inl (own_w hw 29 rfl)) (by decide) (t := .int) (t' := .long) (by decide) (by decide)))).other W15 (Or.inl ne3))
  have f23 := ((F5_q_size.other W4 (Or.inr (slot_ne (Or.inl (own_w hw 38 rfl)) (Or.inl (own_w hw 29 rfl)) (by decide) (t := .int) (t' := .long) (by decide) (by decide)))).other W15 (Or.inl ne3))
  have f24 := (f5.other W15 (Or.inl ne3))
  have f25 := (f8.other W15 (Or.inl ne3))
  have f26 := (f11.other W15 (Or.inl ne3))
  have f27 := ((F9_q_first.other W4 (Or.inr (slot_ne (Or.inl (own_w hw 83 rfl)) (Or.inl (own_w hw 29 rfl)) (by decide) (t := .int) (t' := .long) (by decide) (by decide)))).other W15 (Or.inl ne3))
  have f28 := (Fw4.other W15 (Or.inl ne3))
  have f29 := ((F11_q_soonestBucket.other W4 (Or.inr (slot_ne (Or.inl (own_w hw 31 rfl)) (Or.inl (own_w hw 29 rfl)) (by decide) (t := .int) (t' := .long) (by decide) (by decide)))).other W15 (Or.inl ne3))
  have f30 := ((F12_q_soonest.other W4 (Or.inr (slot_ne (Or.inl (own_w hw 89 rfl)) (Or.inl (own_w hw 29 rfl)) (by decide) (t := .long) (t' := .long) (by decide) (by decide)))).other W15 (Or.inl ne3))
  have f31 := ((A13_it.other W4 (Ne.symm ne1)).other W15 (show (it : Nat) ≠ ct by omega))
  have f32 := ((A14_fr.other W4 (Ne.symm ne2)).other W15 (show (fr : Nat) ≠ ct by omega))
  have f33 := (f7.off W15 (show (ct : Nat) < mo ∨ mo + 65 < ct by omega))
  have f34 := (f10.off W15 (show (ct : Nat) < sl ∨ sl + 65 < ct by omega))
  have K35 : KpN n0 h0 h15 := (((KpN.refl n0 h0).wr W4 H18).wr W15 (show n0 ≤ ct by omega))
  have lp17 : ∀ (fu17 : Nat) (ii : Int32) (i : Nat) (cv : Nat → Nat) (gv : Nat → Nat → Int64) (gw : Nat → Nat → Int32) (T17 : State) (lc17 : List Loc) (H17 : Heap), (Stand p l e ({ frames := 3, cells := 0, slots := 0, locals := 44 } : Room) s m #[(.ref q), (.int bk), (.long mt)] below meth c T17 lc17 0 0) → (T17.heap = H17) → (Fr n0 lc17) → (KpN n0 h0 H17) → (Exa Z H17 q "nearhop/sim/EventQueue") → (Fld Z H17 q "nearhop/sim/EventQueue" "items" "[Ljava/lang/Object;" (.ref it)) → (Fld Z H17 q "nearhop/sim/EventQueue" "free" "[I" (.ref fr)) → (Fld Z H17 q "nearhop/sim/EventQueue" "freeSlots" "I" (.int fs)) → (Fld Z H17 q "nearhop/sim/EventQueue" "used" "I" (.int us)) → (Fld Z H17 q "nearhop/sim/EventQueue" "size" "I" (.int sz)) → (Fld Z H17 q "nearhop/sim/EventQueue" "moments" "[[J" (.ref mo)) → (Fld Z H17 q "nearhop/sim/EventQueue" "slots" "[[I" (.ref sl)) → (Fld Z H17 q "nearhop/sim/EventQueue" "counts" "[I" (.ref ct)) → (Fld Z H17 q "nearhop/sim/EventQueue" "first" "I" (.int fi)) → (Fld Z H17 q "nearhop/sim/EventQueue" "reference" "J" (.long mt)) → (Fld Z H17 q "nearhop/sim/EventQueue" "soonestBucket" "I" (.int sb)) → (Fld Z H17 q "nearhop/sim/EventQueue" "soonest" "J" (.long so)) → (Arw Z H17 it kI (.object "java/lang/Object") 64 fI) → (Arw Z H17 fr kF .int 64 (fun i => .int (fF i))) → (Grv Z H17 mo kM kN .long 65 64 (fun u v => .long (gv u v))) → (Grv Z H17 sl kS kU .int 65 64 (fun u v => .int (gw u v))) → (Arw Z H17 ct kC .int 65 (fun i => .int (Int32.ofNat (cv i)))) → (ii.toInt = (i : Int)) → (i ≤ cn nb) → (own_sum cv 65 = own_sum (own_cu cn nb 0) 65 + i) → (cv nb ≤ i) → (∀ j, i ≤ j → gv nb j = gM nb j) → (own_R2 gw) → ((∃ k, i ≤ k ∧ k < cn nb ∧ gM nb k = mt) ∨ 1 ≤ cv 0) → (cn nb < i + fu17) → Goes p e below (Fin_ s (QrmDo Z q bk mt it fr mo sl ct kI kF kM kN kS kU kC fs us sz fi rf sb so fI fF gM gS cn nb h0 n0) ({ frames := 3, cells := 0, slots := 0, locals := 44 } : Room).cells ({ frames := 3, cells := 0, slots := 0, locals := 44 } : Room).slots) (T17.setTop (mkF m 39 #[vr q, vi bk, .val (.long mt), .second, vr (mo + 1 + nb), vr (sl + 1 + nb), vi (Int32.ofNat (cn nb)), vi ii] [])) := by
    intro fu17
    induction fu17 with
    | zero =>
      intro ii i cv gv gw T17 lc17 H17 X17 e17 N17 K17 g17_0 g17_1 g17_2 g17_3 g17_4 g17_5 g17_6 g17_7 g17_8 g17_9 g17_10 g17_11 g17_12 g17_13 g17_14 g17_15 g17_16 g17_17 hii hin hsm hcn_ hgv hgw hmt hfu
      omega
    | succ fu17 ih17 =>
      intro ii i cv gv gw T17 lc17 H17 X17 e17 N17 K17 g17_0 g17_1 g17_2 g17_3 g17_4 g17_5 g17_6 g17_7 g17_8 g17_9 g17_10 g17_11 g17_12 g17_13 g17_14 g17_15 g17_16 g17_17 hii hin hsm hcn_ hgv hgw hmt hfu
      refine gIL X17 hx hby d13_39 rfl ?_
      refine gIL X17 hx hby d13_41 rfl ?_
      by_cases hc43 : ii < (Int32.ofNat (cn nb))
      · skip
        refine Goes.via (fun _ kk_ => XS.icmpNo X17.here hx rfl (hb hby d13_43) rfl (tlt hc43).2.1 kk_) ?_
        show Goes p e below _ (T17.setTop (mkF m 46 #[vr q, vi bk, .val (.long mt), .second, vr (mo + 1 + nb), vr (sl + 1 + nb), vi (Int32.ofNat (cn nb)), vi ii] []))
        have hlt : i < cn nb := by have q := own_lti.mp hc43; rw [own_on (by omega)] at q; omega
        have hsU := own_sumU cn nb 0 65 Hnb
        refine gALN X17 hx hby d13_46 rfl rfl ?_
        refine gALN X17 hx hby d13_47 rfl rfl ?_
        refine gAL X17 hx hby d13_48 rfl rfl ?_
        refine gIL X17 hx hby d13_50 rfl ?_
        show Goes p e below _ (T17.setTop (mkF m 52 #[vr q, vi bk, .val (.long mt), .second, vr (mo + 1 + nb), vr (sl + 1 + nb), vi (Int32.ofNat (cn nb)), vi ii] [(.int ii), (.ref (mo + 1 + nb)), (.ref q), (.ref q)]))
        refine Goes.via (own_glal X17 hx hZ e17 g17_15 (i := nb) (j := i) Hnb hii (by omega) (v := (gv nb i)) rfl (g := (mkF m 52 #[vr q, vi bk, .val (.long mt), .second, vr (mo + 1 + nb), vr (sl + 1 + nb), vi (Int32.ofNat (cn nb)), vi ii] [(.int ii), (.ref (mo + 1 + nb)), (.ref q), (.ref q)])) rfl rfl (hb hby d13_52)) ?_
        show Goes p e below _ (T17.setTop (mkF m 53 #[vr q, vi bk, .val (.long mt), .second, vr (mo + 1 + nb), vr (sl + 1 + nb), vi (Int32.ofNat (cn nb)), vi ii] [(.long (gv nb i)), (.ref q), (.ref q)]))
        obtain ⟨cq36, q36, q36'⟩ := g17_0.cell
        obtain ⟨_, _, ⟨T36, L36, k36, n36⟩, -, X36, ⟨Lc36, hQ36, l36, y36, z36⟩, st36⟩ := X17.privateBack hx (y := mN_EventQueue_bucketOf) hown (mvT hZ (own_w hw 60 rfl)) (mvT hZ (own_w hw 61 rfl)) (mvT hZ (own_selP (y := mN_EventQueue_bucketOf) (own_w hw 1 rfl) (own_w hw 62 rfl) (own_w hw 61 rfl) (by decide))) (Cond.privateMethod_at (mvP hZ (own_w hw 62 rfl) (args := #[]))) (mvT hZ (own_w hw 63 rfl)) (by decide) (backOf (W := 1) (rmBk l Z a0 hw [] q (gv nb i) mt H17 n0 (Nat.le_trans Z0 (KpN.size K17)) g17_10) hZ (own_w hw 63 rfl) (own_w hw 2 rfl) (by decide) (by decide)) (g := (mkF m 53 #[vr q, vi bk, .val (.long mt), .second, vr (mo + 1 + nb), vr (sl + 1 + nb), vi (Int32.ofNat (cn nb)), vi ii] [(.long (gv nb i)), (.ref q), (.ref q)])) rfl (by rw [hml]; rfl) (Steps.refl _) (a := q) (by rw [e17]; exact q36) q36' (argsL := [(.long (gv nb i))]) (rest := [(.ref q)]) (lenOf pd_1 rfl) rfl (by show 2 * 0 + _ ≤ _; exact Nat.le_of_eq rfl) (hb hby d13_53) (fun _ _ => ⟨rfl, e17, (by decide : 0 + 0 ≤ _), (by decide : 0 + 0 ≤ _)⟩)
        dsimp only [Pt.U, Pt.locs, Pt.cells, Pt.slots] at X36 l36 y36 z36 st36 hQ36
        replace l36 := l36.symm
        subst l36 y36 z36
        obtain ⟨rfl, rfl, e36⟩ := hQ36
        first | rw [List.append_nil] at X36 | skip
        refine Goes.tr st36 ?_
        have e36' : T36.heap = H17 := e36
        show Goes p e below _ (T36.setTop (mkF m 56 #[vr q, vi bk, .val (.long mt), .second, vr (mo + 1 + nb), vr (sl + 1 + nb), vi (Int32.ofNat (cn nb)), vi ii] [(.int ((64 : Int32) - (own_nlzL ((gv nb i) ^^^ mt)))), (.ref q)]))
        obtain ⟨nc, hnc, hnc65, hnc0⟩ := own_bkt ((gv nb i) ^^^ mt)
        have hcv : cv nc < 64 := by have q := own_sumL cv hnc65; omega
        refine gAL X36 hx hby d13_56 rfl rfl ?_
        refine gIL X36 hx hby d13_58 rfl ?_
        show Goes p e below _ (T36.setTop (mkF m 60 #[vr q, vi bk, .val (.long mt), .second, vr (mo + 1 + nb), vr (sl + 1 + nb), vi (Int32.ofNat (cn nb)), vi ii] [(.int ii), (.ref (mo + 1 + nb)), (.int ((64 : Int32) - (own_nlzL ((gv nb i) ^^^ mt)))), (.ref q)]))
        refine Goes.via (own_glal X36 hx hZ e36' g17_15 (i := nb) (j := i) Hnb hii (by omega) (v := (gv nb i)) rfl (g := (mkF m 60 #[vr q, vi bk, .val (.long mt), .second, vr (mo + 1 + nb), vr (sl + 1 + nb), vi (Int32.ofNat (cn nb)), vi ii] [(.int ii), (.ref (mo + 1 + nb)), (.int ((64 : Int32) - (own_nlzL ((gv nb i) ^^^ mt)))), (.ref q)])) rfl rfl (hb hby d13_60)) ?_
        show Goes p e below _ (T36.setTop (mkF m 61 #[vr q, vi bk, .val (.long mt), .second, vr (mo + 1 + nb), vr (sl + 1 + nb), vi (Int32.ofNat (cn nb)), vi ii] [(.long (gv nb i)), (.int ((64 : Int32) - (own_nlzL ((gv nb i) ^^^ mt)))), (.ref q)]))
        refine gAL X36 hx hby d13_61 rfl rfl ?_
        refine gIL X36 hx hby d13_63 rfl ?_
        show Goes p e below _ (T36.setTop (mkF m 65 #[vr q, vi bk, .val (.long mt), .second, vr (mo + 1 + nb), vr (sl + 1 + nb), vi (Int32.ofNat (cn nb)), vi ii] [(.int ii), (.ref (sl + 1 + nb)), (.long (gv nb i)), (.int ((64 : Int32) - (own_nlzL ((gv nb i) ^^^ mt)))), (.ref q)]))
        refine Goes.via (own_gial X36 hx hZ e36' g17_16 (i := nb) (j := i) Hnb hii (by omega) (v := (gw nb i)) rfl (g := (mkF m 65 #[vr q, vi bk, .val (.long mt), .second, vr (mo + 1 + nb), vr (sl + 1 + nb), vi (Int32.ofNat (cn nb)), vi ii] [(.int ii), (.ref (sl + 1 + nb)), (.long (gv nb i)), (.int ((64 : Int32) - (own_nlzL ((gv nb i) ^^^ mt)))), (.ref q)])) rfl rfl (hb hby d13_65)) ?_
        show Goes p e below _ (T36.setTop (mkF m 66 #[vr q, vi bk, .val (.long mt), .second, vr (mo + 1 + nb), vr (sl + 1 + nb), vi (Int32.ofNat (cn nb)), vi ii] [(.int (gw nb i)), (.long (gv nb i)), (.int ((64 : Int32) - (own_nlzL ((gv nb i) ^^^ mt)))), (.ref q)]))
        obtain ⟨cq37, q37, q37'⟩ := g17_0.cell
        obtain ⟨_, _, ⟨T37, L37, k37, n37⟩, -, X37, ⟨Lc37, hQ37, l37, y37, z37⟩, st37⟩ := X36.privateBack hx (y := mN_EventQueue_append) hown (mvT hZ (own_w hw 71 rfl)) (mvT hZ (own_w hw 72 rfl)) (mvT hZ (own_selP (y := mN_EventQueue_append) (own_w hw 1 rfl) (own_w hw 73 rfl) (own_w hw 72 rfl) (by decide))) (Cond.privateMethod_at (mvP hZ (own_w hw 73 rfl) (args := #[]))) (mvT hZ (own_w hw 74 rfl)) (by decide) (backOf (W := 0) (rmAp l Z a0 hw [] q ((64 : Int32) - (own_nlzL ((gv nb i) ^^^ mt))) (gv nb i) (gw nb i) mo sl ct kM kN kS kU kC gv gw cv nc H17 n0 (Nat.le_trans Z0 (KpN.size K17)) g17_6 g17_7 g17_8 g17_15 g17_16 g17_17 (show n0 ≤ mo by omega) (by first | assumption | rfl | decide | omega | (simp; done)) HLd HLe hnc hnc65 hcv) hZ (own_w hw 74 rfl) (own_w hw 2 rfl) (by decide) (by decide)) (g := (mkF m 66 #[vr q, vi bk, .val (.long mt), .second, vr (mo + 1 + nb), vr (sl + 1 + nb), vi (Int32.ofNat (cn nb)), vi ii] [(.int (gw nb i)), (.long (gv nb i)), (.int ((64 : Int32) - (own_nlzL ((gv nb i) ^^^ mt)))), (.ref q)])) rfl (by rw [hml]; rfl) (Steps.refl _) (a := q) (by rw [e36']; exact q37) q37' (argsL := [(.int ((64 : Int32) - (own_nlzL ((gv nb i) ^^^ mt)))), (.long (gv nb i)), (.int (gw nb i))]) (rest := []) (lenOf pd_3 rfl) rfl (by show 2 * 0 + _ ≤ _; exact Nat.le_of_eq rfl) (hb hby d13_66) (fun _ _ => ⟨rfl, e36', (by decide : 0 + 0 ≤ _), (by decide : 0 + 0 ≤ _)⟩)
        dsimp only [Pt.U, Pt.locs, Pt.cells, Pt.slots] at X37 l37 y37 z37 st37 hQ37
        replace l37 := l37.symm
        subst l37 y37 z37
        obtain ⟨rfl, N37q, K37, u37_0, u37_1, u37_2⟩ := hQ37
        have N37 := Fr.app N17 N37q
        refine Goes.tr st37 ?_
        show Goes p e below _ (T37.setTop (mkF m 69 #[vr q, vi bk, .val (.long mt), .second, vr (mo + 1 + nb), vr (sl + 1 + nb), vi (Int32.ofNat (cn nb)), vi ii] []))
        refine Goes.via (fun _ kk_ => XS.iinc X37.here hx rfl (hb hby d13_69) rfl (l' := #[vr q, vi bk, .val (.long mt), .second, vr (mo + 1 + nb), vr (sl + 1 + nb), vi (Int32.ofNat (cn nb)), vi (ii + (1 : Int32))]) rfl kk_) ?_
        show Goes p e below _ (T37.setTop (mkF m 72 #[vr q, vi bk, .val (.long mt), .second, vr (mo + 1 + nb), vr (sl + 1 + nb), vi (Int32.ofNat (cn nb)), vi (ii + (1 : Int32))] []))
        refine Goes.via (fun _ kk_ => XS.goto X37.here hx rfl (pc0 := 72) (pc' := 39) rfl (hb hby d13_72) (by decide) (by decide) kk_) ?_
        show Goes p e below _ (T37.setTop (mkF m 39 #[vr q, vi bk, .val (.long mt), .second, vr (mo + 1 + nb), vr (sl + 1 + nb), vi (Int32.ofNat (cn nb)), vi (ii + (1 : Int32))] []))
        have f38 := (g17_0.keep K37)
        have f39 := (g17_1.keep K37 (ninS ne3 (ninS (show (q : Nat) ≠ (mo + 1 + nc) by omega) (ninS (show (q : Nat) ≠ (sl + 1 + nc) by omega) nin0))))
        have f40 := (g17_2.keep K37 (ninS ne3 (ninS (show (q : Nat) ≠ (mo + 1 + nc) by omega) (ninS (show (q : Nat) ≠ (sl + 1 + nc) by omega) nin0))))
        have f41 := (g17_3.keep K37 (ninS ne3 (ninS (show (q : Nat) ≠ (mo + 1 + nc) by omega) (ninS (show (q : Nat) ≠ (sl + 1 + nc) by omega) nin0))))
        have f42 := (g17_4.keep K37 (ninS ne3 (ninS (show (q : Nat) ≠ (mo + 1 + nc) by omega) (ninS (show (q : Nat) ≠ (sl + 1 + nc) by omega) nin0))))
        have f43 := (g17_5.keep K37 (ninS ne3 (ninS (show (q : Nat) ≠ (mo + 1 + nc) by omega) (ninS (show (q : Nat) ≠ (sl + 1 + nc) by omega) nin0))))
        have f44 := (g17_6.keep K37 (ninS ne3 (ninS (show (q : Nat) ≠ (mo + 1 + nc) by omega) (ninS (show (q : Nat) ≠ (sl + 1 + nc) by omega) nin0))))
        have f45 := (g17_7.keep K37 (ninS ne3 (ninS (show (q : Nat) ≠ (mo + 1 + nc) by omega) (ninS (show (q : Nat) ≠ (sl + 1 + nc) by omega) nin0))))
        have f46 := (g17_8.keep K37 (ninS ne3 (ninS (show (q : Nat) ≠ (mo + 1 + nc) by omega) (ninS (show (q : Nat) ≠ (sl + 1 + nc) by omega) nin0))))
        have f47 := (g17_9.keep K37 (ninS ne3 (ninS (show (q : Nat) ≠ (mo + 1 + nc) by omega) (ninS (show (q : Nat) ≠ (sl + 1 + nc) by omega) nin0))))
        have f48 := (g17_10.keep K37 (ninS ne3 (ninS (show (q : Nat) ≠ (mo + 1 + nc) by omega) (ninS (show (q : Nat) ≠ (sl + 1 + nc) by omega) nin0))))
        have f49 := (g17_11.keep K37 (ninS ne3 (ninS (show (q : Nat) ≠ (mo + 1 + nc) by omega) (ninS (show (q : Nat) ≠ (sl + 1 + nc) by omega) nin0))))
        have f50 := (g17_12.keep K37 (ninS ne3 (ninS (show (q : Nat) ≠ (mo + 1 + nc) by omega) (ninS (show (q : Nat) ≠ (sl + 1 + nc) by omega) nin0))))
        have f51 := (g17_13.keep K37 (ninS (show (it : Nat) ≠ ct by omega) (ninS (show (it : Nat) ≠ (mo + 1 + nc) by omega) (ninS (show (it : Nat) ≠ (sl + 1 + nc) by omega) nin0))))
        have f52 := (g17_14.keep K37 (ninS (show (fr : Nat) ≠ ct by omega) (ninS (show (fr : Nat) ≠ (mo + 1 + nc) by omega) (ninS (show (fr : Nat) ≠ (sl + 1 + nc) by omega) nin0))))
        have K53 : KpN n0 h0 T37.heap := (K17.call K37 (allS (show n0 ≤ ct by omega) (allS (show n0 ≤ (mo + 1 + nc) by omega) (allS (show n0 ≤ (sl + 1 + nc) by omega) all0))))
        exact ih17 ((ii + (1 : Int32))) (i + 1) (own_cu cv nc (cv nc + 1)) (own_gu gv nc (cv nc) (gv nb i)) (own_gu gw nc (cv nc) (gw nb i)) _ _ _ X37 rfl N37 K53 f38 f39 f40 f41 f42 f43 f44 f45 f46 f47 f48 f49 f50 f51 f52 u37_0 u37_1 u37_2 (by have q := own_i1 (x := ii) (by omega) (by omega); omega) (by omega) (by have q := own_sumU cv nc (cv nc + 1) 65 hnc65; omega) (own_cuL hcn_) (fun j hj => by unfold own_gu; rw [if_neg (by rintro ⟨g1, g2⟩; rw [← g1] at g2; omega)]; exact hgv j (by omega)) (own_R2u hgw (hgw nb i)) (own_hm (g := gM nb) hmt (fun z => hnc0 (own_x0 (by rw [hgv i (Nat.le_refl _)]; exact z)))) (by omega)
      · skip
        refine Goes.via (fun _ kk_ => XS.icmpYes X17.here hx rfl (pc0 := 43) (pc' := 75) rfl (hb hby d13_43) rfl (flt hc43).2.1 (by decide) (by decide) kk_) ?_
        show Goes p e below _ (T17.setTop (mkF m 75 #[vr q, vi bk, .val (.long mt), .second, vr (mo + 1 + nb), vr (sl + 1 + nb), vi (Int32.ofNat (cn nb)), vi ii] []))
        have hge : i = cn nb := by have q : ¬ _ := fun z => hc43 (own_lti.mpr z); rw [own_on (by omega)] at q; omega
        have hsU := own_sumU cn nb 0 65 Hnb
        exact own_finV X17 hx hlk hret (hb hby d13_75) (by rw [e17]; exact ⟨cv, gv, gw, rfl, N17, K17, g17_0, g17_1, g17_2, g17_3, g17_4, g17_5, g17_6, g17_7, g17_8, g17_9, g17_10, g17_11, g17_12, g17_13, g17_14, g17_15, g17_16, g17_17, (by omega), (own_h1 hmt hge), hgw⟩) (by first | decide | omega | (dsimp only; omega)) (by first | decide | omega | (dsimp only; omega))
  exact lp17 (cn nb + 1) ((0 : Int32)) (0) (own_cu cn nb 0) (gM) (gS) _ _ _ X15 e15 N15 K35 f18 f19 f20 f21 f22 f23 f24 f25 f26 f27 f28 f29 f30 f31 f32 f33 f34 cv16 (by decide) (by omega) rfl (by rw [own_cuS]; omega) (fun _ _ => rfl) HR (Or.inl (by obtain ⟨k, k1, k2⟩ := HX; exact ⟨k, by omega, k1, k2⟩)) (by omega)
theorem ef_rmDa (m : MethodId) (q : Addr) (mt : Int64) : entryFrame m #[(.ref q), (.long mt)] 8 = mkF m 0 #[.val (.ref q), .val (.long mt), .second, .unset, .unset, .unset, .unset, .unset] [] := by first | (simp [entryFrame, mkF, argsToLocals, Value.category]; done) | rfl
def QrmDa (Z : State) (q : Nat) (mt : Int64) (it : Nat) (fr : Nat) (mo : Nat) (sl : Nat) (ct : Nat) (kI : ClassId) (kF : ClassId) (kM : ClassId) (kN : ClassId) (kS : ClassId) (kU : ClassId) (kC : ClassId) (fs : Int32) (us : Int32) (sz : Int32) (fi : Int32) (rf : Int64) (sb : Int32) (so : Int64) (fI : Nat → Value) (fF : Nat → Int32) (gM : Nat → Nat → Int64) (gS : Nat → Nat → Int32) (cn : Nat → Nat) (K : Nat) (h0 : Heap) (n0 : Nat) (v_ : Option Value) (h_ : Heap) (L_ : List Loc) : Prop := ∃ cn' : Nat → Nat, ∃ gM' : Nat → Nat → Int64, ∃ gS' : Nat → Nat → Int32, v_ = none ∧ Fr n0 L_ ∧ KpN n0 h0 h_ ∧ Exa Z h_ q "nearhop/sim/EventQueue" ∧ Fld Z h_ q "nearhop/sim/EventQueue" "items" "[Ljava/lang/Object;" (.ref it) ∧ Fld Z h_ q "nearhop/sim/EventQueue" "free" "[I" (.ref fr) ∧ Fld Z h_ q "nearhop/sim/EventQueue" "freeSlots" "I" (.int fs) ∧ Fld Z h_ q "nearhop/sim/EventQueue" "used" "I" (.int us) ∧ Fld Z h_ q "nearhop/sim/EventQueue" "size" "I" (.int sz) ∧ Fld Z h_ q "nearhop/sim/EventQueue" "moments" "[[J" (.ref mo) ∧ Fld Z h_ q "nearhop/sim/EventQueue" "slots" "[[I" (.ref sl) ∧ Fld Z h_ q "nearhop/sim/EventQueue" "counts" "[I" (.ref ct) ∧ Fld Z h_ q "nearhop/sim/EventQueue" "first" "I" (.int (0 : Int32)) ∧ Fld Z h_ q "nearhop/sim/EventQueue" "reference" "J" (.long mt) ∧ Fld Z h_ q "nearhop/sim/EventQueue" "soonestBucket" "I" (.int sb) ∧ Fld Z h_ q "nearhop/sim/EventQueue" "soonest" "J" (.long so) ∧ Arw Z h_ it kI (.object "java/lang/Object") 64 fI ∧ Arw Z h_ fr kF .int 64 (fun i => .int (fF i)) ∧ Grv Z h_ mo kM kN .long 65 64 (fun u v => .long (gM' u v)) ∧ Grv Z h_ sl kS kU .int 65 64 (fun u v => .int (gS' u v)) ∧ Arw Z h_ ct kC .int 65 (fun i => .int (Int32.ofNat (cn' i))) ∧ (own_sum cn' 65 : Int) = sz.toInt ∧ own_R2 gS'
theorem d14_0 : decode prog_155_method_10_code 0 = .ok (.aload_n 0, 1) := by decide +kernel
theorem d14_1 : decode prog_155_method_10_code 1 = .ok (.getfield 42, 3) := by decide +kernel
theorem d14_4 : decode prog_155_method_10_code 4 = .ok (.newarray .long, 2) := by decide +kernel
theorem d14_6 : decode prog_155_method_10_code 6 = .ok (.astore_n 3, 1) := by decide +kernel
theorem d14_7 : decode prog_155_method_10_code 7 = .ok (.aload_n 0, 1) := by decide +kernel
theorem d14_8 : decode prog_155_method_10_code 8 = .ok (.getfield 42, 3) := by decide +kernel
theorem d14_11 : decode prog_155_method_10_code 11 = .ok (.newarray .int, 2) := by decide +kernel
theorem d14_13 : decode prog_155_method_10_code 13 = .ok (.astore 4, 2) := by decide +kernel
theorem d14_15 : decode prog_155_method_10_code 15 = .ok (.iconst 0, 1) := by decide +kernel
theorem d14_16 : decode prog_155_method_10_code 16 = .ok (.istore 5, 2) := by decide +kernel
theorem d14_18 : decode prog_155_method_10_code 18 = .ok (.iconst 0, 1) := by decide +kernel
theorem d14_19 : decode prog_155_method_10_code 19 = .ok (.istore 6, 2) := by decide +kernel
theorem d14_21 : decode prog_155_method_10_code 21 = .ok (.iload 6, 2) := by decide +kernel
theorem d14_23 : decode prog_155_method_10_code 23 = .ok (.bipush 65, 2) := by decide +kernel
theorem d14_25 : decode prog_155_method_10_code 25 = .ok (.if_icmp .ge 82, 3) := by decide +kernel
theorem d14_28 : decode prog_155_method_10_code 28 = .ok (.iload 6, 2) := by decide +kernel
theorem d14_30 : decode prog_155_method_10_code 30 = .ok (.ifCond .ne 10, 3) := by decide +kernel
theorem d14_33 : decode prog_155_method_10_code 33 = .ok (.aload_n 0, 1) := by decide +kernel
theorem d14_34 : decode prog_155_method_10_code 34 = .ok (.getfield 52, 3) := by decide +kernel
theorem d14_37 : decode prog_155_method_10_code 37 = .ok (.goto 4, 3) := by decide +kernel
theorem os_rmDa_41_54 {z0 : Value} {z1 : Value} {z3 : Value} {z4 : Value} {z5 : Value} {z6 : Value} {s7 : Slot} {v : Int32} (h : One s7) : storeLocals #[.val z0, .val z1, .second, .val z3, .val z4, .val z5, .val z6, s7] 7 (.int v) = some #[.val z0, .val z1, .second, .val z3, .val z4, .val z5, .val z6, .val (.int v)] := by
  rcases h with rfl | ⟨w, rfl, hw⟩
  · rfl
  · cases w <;> first | rfl | (simp [Value.category] at hw)
theorem d14_41 : decode prog_155_method_10_code 41 = .ok (.istore 7, 2) := by decide +kernel
theorem d14_43 : decode prog_155_method_10_code 43 = .ok (.iload 7, 2) := by decide +kernel
theorem d14_45 : decode prog_155_method_10_code 45 = .ok (.aload_n 0, 1) := by decide +kernel
theorem d14_46 : decode prog_155_method_10_code 46 = .ok (.getfield 29, 3) := by decide +kernel
theorem d14_49 : decode prog_155_method_10_code 49 = .ok (.iload 6, 2) := by decide +kernel
theorem d14_51 : decode prog_155_method_10_code 51 = .ok (.iaload, 1) := by decide +kernel
theorem d14_52 : decode prog_155_method_10_code 52 = .ok (.if_icmp .ge 41, 3) := by decide +kernel
theorem d14_55 : decode prog_155_method_10_code 55 = .ok (.aload_n 3, 1) := by decide +kernel
theorem d14_56 : decode prog_155_method_10_code 56 = .ok (.iload 5, 2) := by decide +kernel
theorem d14_58 : decode prog_155_method_10_code 58 = .ok (.aload_n 0, 1) := by decide +kernel
theorem d14_59 : decode prog_155_method_10_code 59 = .ok (.getfield 21, 3) := by decide +kernel
theorem d14_62 : decode prog_155_method_10_code 62 = .ok (.iload 6, 2) := by decide +kernel
theorem d14_64 : decode prog_155_method_10_code 64 = .ok (.aaload, 1) := by decide +kernel
theorem d14_65 : decode prog_155_method_10_code 65 = .ok (.iload 7, 2) := by decide +kernel
theorem d14_67 : decode prog_155_method_10_code 67 = .ok (.laload, 1) := by decide +kernel
theorem d14_68 : decode prog_155_method_10_code 68 = .ok (.lastore, 1) := by decide +kernel
theorem d14_69 : decode prog_155_method_10_code 69 = .ok (.aload 4, 2) := by decide +kernel
theorem d14_71 : decode prog_155_method_10_code 71 = .ok (.iload 5, 2) := by decide +kernel
theorem d14_73 : decode prog_155_method_10_code 73 = .ok (.aload_n 0, 1) := by decide +kernel
theorem d14_74 : decode prog_155_method_10_code 74 = .ok (.getfield 26, 3) := by decide +kernel
theorem d14_77 : decode prog_155_method_10_code 77 = .ok (.iload 6, 2) := by decide +kernel
theorem d14_79 : decode prog_155_method_10_code 79 = .ok (.aaload, 1) := by decide +kernel
theorem d14_80 : decode prog_155_method_10_code 80 = .ok (.iload 7, 2) := by decide +kernel
theorem d14_82 : decode prog_155_method_10_code 82 = .ok (.iaload, 1) := by decide +kernel
theorem d14_83 : decode prog_155_method_10_code 83 = .ok (.iastore, 1) := by decide +kernel
theorem d14_84 : decode prog_155_method_10_code 84 = .ok (.iinc 5 1, 3) := by decide +kernel
theorem d14_87 : decode prog_155_method_10_code 87 = .ok (.iinc 7 1, 3) := by decide +kernel
theorem d14_90 : decode prog_155_method_10_code 90 = .ok (.goto (-47), 3) := by decide +kernel
theorem d14_93 : decode prog_155_method_10_code 93 = .ok (.aload_n 0, 1) := by decide +kernel
theorem d14_94 : decode prog_155_method_10_code 94 = .ok (.getfield 29, 3) := by decide +kernel
theorem d14_97 : decode prog_155_method_10_code 97 = .ok (.iload 6, 2) := by decide +kernel
theorem d14_99 : decode prog_155_method_10_code 99 = .ok (.iconst 0, 1) := by decide +kernel
theorem d14_100 : decode prog_155_method_10_code 100 = .ok (.iastore, 1) := by decide +kernel
theorem d14_101 : decode prog_155_method_10_code 101 = .ok (.iinc 6 1, 3) := by decide +kernel
theorem d14_104 : decode prog_155_method_10_code 104 = .ok (.goto (-83), 3) := by decide +kernel
theorem d14_40 : decode prog_155_method_10_code 40 = .ok (.iconst 0, 1) := by decide +kernel
theorem os_rmDa_41_109 {z0 : Value} {z1 : Value} {z3 : Value} {z4 : Value} {z5 : Value} {z6 : Value} {s7 : Slot} {v : Int32} (h : One s7) : storeLocals #[.val z0, .val z1, .second, .val z3, .val z4, .val z5, .val z6, s7] 7 (.int v) = some #[.val z0, .val z1, .second, .val z3, .val z4, .val z5, .val z6, .val (.int v)] := by
  rcases h with rfl | ⟨w, rfl, hw⟩
  · rfl
  · cases w <;> first | rfl | (simp [Value.category] at hw)
theorem d14_107 : decode prog_155_method_10_code 107 = .ok (.aload_n 0, 1) := by decide +kernel
theorem d14_108 : decode prog_155_method_10_code 108 = .ok (.iconst 0, 1) := by decide +kernel
theorem d14_109 : decode prog_155_method_10_code 109 = .ok (.putfield 52, 3) := by decide +kernel
theorem d14_112 : decode prog_155_method_10_code 112 = .ok (.aload_n 0, 1) := by decide +kernel
theorem d14_113 : decode prog_155_method_10_code 113 = .ok (.lload_n 1, 1) := by decide +kernel
theorem d14_114 : decode prog_155_method_10_code 114 = .ok (.putfield 34, 3) := by decide +kernel
theorem d14_117 : decode prog_155_method_10_code 117 = .ok (.iconst 0, 1) := by decide +kernel
theorem d14_118 : decode prog_155_method_10_code 118 = .ok (.istore 6, 2) := by decide +kernel
theorem d14_120 : decode prog_155_method_10_code 120 = .ok (.iload 6, 2) := by decide +kernel
theorem d14_122 : decode prog_155_method_10_code 122 = .ok (.iload 5, 2) := by decide +kernel
theorem d14_124 : decode prog_155_method_10_code 124 = .ok (.if_icmp .ge 30, 3) := by decide +kernel
theorem d14_127 : decode prog_155_method_10_code 127 = .ok (.aload_n 0, 1) := by decide +kernel
theorem d14_128 : decode prog_155_method_10_code 128 = .ok (.aload_n 0, 1) := by decide +kernel
theorem d14_129 : decode prog_155_method_10_code 129 = .ok (.aload_n 3, 1) := by decide +kernel
theorem d14_130 : decode prog_155_method_10_code 130 = .ok (.iload 6, 2) := by decide +kernel
theorem d14_132 : decode prog_155_method_10_code 132 = .ok (.laload, 1) := by decide +kernel
theorem d14_133 : decode prog_155_method_10_code 133 = .ok (.invokevirtual 80, 3) := by decide +kernel
theorem d14_136 : decode prog_155_method_10_code 136 = .ok (.aload_n 3, 1) := by decide +kernel
theorem d14_137 : decode prog_155_method_10_code 137 = .ok (.iload 6, 2) := by decide +kernel
theorem d14_139 : decode prog_155_method_10_code 139 = .ok (.laload, 1) := by decide +kernel
theorem d14_140 : decode prog_155_method_10_code 140 = .ok (.aload 4, 2) := by decide +kernel
theorem d14_142 : decode prog_155_method_10_code 142 = .ok (.iload 6, 2) := by decide +kernel
theorem d14_144 : decode prog_155_method_10_code 144 = .ok (.iaload, 1) := by decide +kernel
theorem d14_145 : decode prog_155_method_10_code 145 = .ok (.invokevirtual 84, 3) := by decide +kernel
theorem d14_148 : decode prog_155_method_10_code 148 = .ok (.iinc 6 1, 3) := by decide +kernel
theorem d14_151 : decode prog_155_method_10_code 151 = .ok (.goto (-31), 3) := by decide +kernel
theorem d14_154 : decode prog_155_method_10_code 154 = .ok (.return_, 1) := by decide +kernel
set_option maxRecDepth 65536 in
set_option maxHeartbeats 40000000 in
theorem rmDa (l : Launch) (Z : State) (a0 : Array Value) (hw : ∀ d ∈ tables_1, d.before a0 Z = true) (ws : List Jvm.Cond) (q : Nat) (mt : Int64) (it : Nat) (fr : Nat) (mo : Nat) (sl : Nat) (ct : Nat) (kI : ClassId) (kF : ClassId) (kM : ClassId) (kN : ClassId) (kS : ClassId) (kU : ClassId) (kC : ClassId) (fs : Int32) (us : Int32) (sz : Int32) (fi : Int32) (rf : Int64) (sb : Int32) (so : Int64) (fI : Nat → Value) (fF : Nat → Int32) (gM : Nat → Nat → Int64) (gS : Nat → Nat → Int32) (cn : Nat → Nat) (K : Nat) (h0 : Heap) (n0 : Nat) (Z0 : n0 ≤ h0.size) (E0_q : Exa Z h0 q "nearhop/sim/EventQueue") (F1_q_items : Fld Z h0 q "nearhop/sim/EventQueue" "items" "[Ljava/lang/Object;" (.ref it)) (F2_q_free : Fld Z h0 q "nearhop/sim/EventQueue" "free" "[I" (.ref fr)) (F3_q_freeSlots : Fld Z h0 q "nearhop/sim/EventQueue" "freeSlots" "I" (.int fs)) (F4_q_used : Fld Z h0 q "nearhop/sim/EventQueue" "used" "I" (.int us)) (F5_q_size : Fld Z h0 q "nearhop/sim/EventQueue" "size" "I" (.int sz)) (F6_q_moments : Fld Z h0 q "nearhop/sim/EventQueue" "moments" "[[J" (.ref mo)) (F7_q_slots : Fld Z h0 q "nearhop/sim/EventQueue" "slots" "[[I" (.ref sl)) (F8_q_counts : Fld Z h0 q "nearhop/sim/EventQueue" "counts" "[I" (.ref ct)) (F9_q_first : Fld Z h0 q "nearhop/sim/EventQueue" "first" "I" (.int fi)) (F10_q_reference : Fld Z h0 q "nearhop/sim/EventQueue" "reference" "J" (.long rf)) (F11_q_soonestBucket : Fld Z h0 q "nearhop/sim/EventQueue" "soonestBucket" "I" (.int sb)) (F12_q_soonest : Fld Z h0 q "nearhop/sim/EventQueue" "soonest" "J" (.long so)) (A13_it : Arw Z h0 it kI (.object "java/lang/Object") 64 fI) (A14_fr : Arw Z h0 fr kF .int 64 (fun i => .int (fF i))) (A15_mo : Grv Z h0 mo kM kN .long 65 64 (fun u v => .long (gM u v))) (A16_sl : Grv Z h0 sl kS kU .int 65 64 (fun u v => .int (gS u v))) (A17_ct : Arw Z h0 ct kC .int 65 (fun i => .int (Int32.ofNat (cn i)))) (H18 : n0 ≤ q) (HLa : q < it) (HLb : it < fr) (HLc : fr < mo) (HLd : mo + 66 ≤ sl) (HLe : sl + 66 ≤ ct) (HI : own_I K sz fi fs us cn gS fF) (HK : K ≤ 5) :
    MetFree l (⟨"nearhop/sim/EventQueue", "dealAllAround", "(J)V"⟩ : MethodName) (head1 (Jvm.Cond.code (⟨"nearhop/sim/EventQueue", "dealAllAround", "(J)V"⟩ : MethodName) prog_155_method_10_code 8 none :: ws) ({ frames := 3, cells := 2, slots := 10, locals := 44 } : Room)) (fun as_ U_ => as_ = #[(.ref q), (.long mt)] ∧ Z.Warmed39 U_.vm ∧ U_.heap = h0) (fun _ _ _ _ _ => True) (fun _ U_ o_ V_ => ∃ v_ L_, o_ = .returned v_ ∧ QrmDa Z q mt it fr mo sl ct kI kF kM kN kS kU kC fs us sz fi rf sb so fI fF gM gS cn K h0 n0 v_ V_.heap L_ ∧ FrameEnd U_ o_ V_ L_ ({ frames := 3, cells := 2, slots := 10, locals := 44 } : Room).cells ({ frames := 3, cells := 2, slots := 10, locals := 44 } : Room).slots) := by
  refine MetFree.of_bodySF (plainFor_of_name pn_nearhop_sim_EventQueue) hisR ?_
  intro p e s m args below meth c s₁ Bd hml0 hP hK
  obtain ⟨rfl, hZ, hh⟩ := hP
  have hx := Bd.exec
  have hby := Bd.bytes
  have hlk : meth.locks = false := BodyLoose.notSynchronized Bd
  have hret := Bd.returns
  have hml : c.maxLocals = 8 := hml0
  have hown : s.vm.findClass "nearhop/sim/EventQueue" = some m.cls := findClass_of_methodNamed Bd.named
  have hnm := (name_of_methodNamed Bd.named Bd.method).1
  have X0 : Stand p l e ({ frames := 3, cells := 2, slots := 10, locals := 44 } : Room) s m #[(.ref q), (.long mt)] below meth c s₁ [] 0 0 := Stand.of_body Bd
  have e0 : s₁.heap = h0 := by rw [← hh, Bd.state]; rfl
  have N0 := Fr.nil n0
  show Goes p e below (Fin_ s (QrmDa Z q mt it fr mo sl ct kI kF kM kN kS kU kC fs us sz fi rf sb so fI fF gM gS cn K h0 n0) ({ frames := 3, cells := 2, slots := 10, locals := 44 } : Room).cells ({ frames := 3, cells := 2, slots := 10, locals := 44 } : Room).slots) (s₁.setTop (entryFrame m #[(.ref q), (.long mt)] 8))
  rw [ef_rmDa m q mt]
  have ne1 : q ≠ it := own_ne_arr E0_q (own_w hw 1 rfl) A13_it
  have ne2 : q ≠ fr := own_ne_arr E0_q (own_w hw 1 rfl) A14_fr
  have ne3 : q ≠ ct := own_ne_arr E0_q (own_w hw 1 rfl) A17_ct
  obtain ⟨⟨a1, a2, a3, a4, a5, -, -, -, -⟩, b1, -⟩ := HI
  obtain ⟨ns, hns⟩ := own_nat a1
  obtain ⟨nf, hnf⟩ := own_nat a2
  have hns5 : ns ≤ 5 := by omega
  have hf0 : nf ≤ cn 0 := by omega
  have ht65 : own_t cn nf 65 = ns := by rw [own_t65]; omega
  have hV5 : ∀ b, b < 65 → cn b ≤ 5 := fun b hb => Nat.le_trans (own_sumL cn hb) (by omega)
  refine gALN X0 hx hby d14_0 rfl rfl ?_
  obtain ⟨T4, X4, e4, st4⟩ := getF X0 hx hZ hown (host := "") (Or.inl (own_w hw 37 rfl)) Via.refl e0 F5_q_size (g := (mkF m 1 #[vr q, .val (.long mt), .second, .unset, .unset, .unset, .unset, .unset] [(.ref q)])) rfl rfl (hb hby d14_1)
  refine Goes.via st4 ?_
  show Goes p e below _ (T4.setTop (mkF m 4 #[vr q, .val (.long mt), .second, .unset, .unset, .unset, .unset, .unset] [(.int sz)]))
  obtain ⟨T5, h5, k5, X5, e5, E5, A5, st5⟩ := own_newP X4 hx hZ (own_w hw 18 rfl) e4 (g := (mkF m 4 #[vr q, .val (.long mt), .second, .unset, .unset, .unset, .unset, .unset] [(.int sz)])) rfl (hb hby d14_4) rfl (n := sz) (N := ns) (own_ix hns).1 (own_ix hns).2 (cap := 5) (by first | decide | omega | (dsimp only; omega)) (by first | decide | omega | (dsimp only; omega)) (by first | decide | omega | (dsimp only; omega)) (by first | decide | omega | (dsimp only; omega))
  obtain ⟨b5, g5⟩ : ∃ z, z = (h0).size := ⟨_, rfl⟩
  rw [← g5] at A5 st5
  have lne6 : q < b5 := Nat.lt_of_lt_of_le E0_q.lt (Nat.le_of_eq g5.symm)
  have ne6 : q ≠ b5 := Nat.ne_of_lt lne6
  have lne7 : it < b5 := Nat.lt_of_lt_of_le A13_it.lt (Nat.le_of_eq g5.symm)
  have ne7 : it ≠ b5 := Nat.ne_of_lt lne7
  have lne8 : fr < b5 := Nat.lt_of_lt_of_le A14_fr.lt (Nat.le_of_eq g5.symm)
  have ne8 : fr ≠ b5 := Nat.ne_of_lt lne8
  have lne9 : mo < b5 := Nat.lt_of_lt_of_le A15_mo.lt (Nat.le_of_eq g5.symm)
  have lne10 : sl < b5 := Nat.lt_of_lt_of_le A16_sl.lt (Nat.le_of_eq g5.symm)
  have lne11 : ct < b5 := Nat.lt_of_lt_of_le A17_ct.lt (Nat.le_of_eq g5.symm)
  have ne11 : ct ≠ b5 := Nat.ne_of_lt lne11
  have sz_b5 : h0.size ≤ b5 := Nat.le_trans (Nat.le_refl _) (Nat.le_of_eq g5.symm)
  have gn_b5 : n0 ≤ b5 := Nat.le_trans Z0 sz_b5
  refine Goes.via st5 ?_
  show Goes p e below _ (T5.setTop (mkF m 6 #[vr q, .val (.long mt), .second, .unset, .unset, .unset, .unset, .unset] [(.ref b5)]))
  refine Goes.via (fun _ kk_ => XS.astoreN X5.here hx rfl (hb hby d14_6) rfl rfl (l' := #[vr q, .val (.long mt), .second, vr b5, .unset, .unset, .unset, .unset]) rfl kk_) ?_
  show Goes p e below _ (T5.setTop (mkF m 7 #[vr q, .val (.long mt), .second, vr b5, .unset, .unset, .unset, .unset] []))
  refine gALN X5 hx hby d14_7 rfl rfl ?_
  have f12 := (F5_q_size.ext E5)
  obtain ⟨T13, X13, e13, st13⟩ := getF X5 hx hZ hown (host := "") (Or.inl (own_w hw 37 rfl)) Via.refl e5 f12 (g := (mkF m 8 #[vr q, .val (.long mt), .second, vr b5, .unset, .unset, .unset, .unset] [(.ref q)])) rfl rfl (hb hby d14_8)
  refine Goes.via st13 ?_
  show Goes p e below _ (T13.setTop (mkF m 11 #[vr q, .val (.long mt), .second, vr b5, .unset, .unset, .unset, .unset] [(.int sz)]))
  obtain ⟨T14, h14, k14, X14, e14, E14, A14, st14⟩ := own_newP X13 hx hZ (own_w hw 13 rfl) e13 (g := (mkF m 11 #[vr q, .val (.long mt), .second, vr b5, .unset, .unset, .unset, .unset] [(.int sz)])) rfl (hb hby d14_11) rfl (n := sz) (N := ns) (own_ix hns).1 (own_ix hns).2 (cap := 5) (by first | decide | omega | (dsimp only; omega)) (by first | decide | omega | (dsimp only; omega)) (by first | decide | omega | (dsimp only; omega)) (by first | decide | omega | (dsimp only; omega))
  obtain ⟨b14, g14⟩ : ∃ z, z = (h5).size := ⟨_, rfl⟩
  rw [← g14] at A14 st14
  have f15 := (E0_q.ext E5)
  have lne16 : q < b14 := Nat.lt_of_lt_of_le f15.lt (Nat.le_of_eq g14.symm)
  have ne16 : q ≠ b14 := Nat.ne_of_lt lne16
  have f17 := (A13_it.ext E5)
  have lne18 : it < b14 := Nat.lt_of_lt_of_le f17.lt (Nat.le_of_eq g14.symm)
  have ne18 : it ≠ b14 := Nat.ne_of_lt lne18
  have f19 := (A14_fr.ext E5)
  have lne20 : fr < b14 := Nat.lt_of_lt_of_le f19.lt (Nat.le_of_eq g14.symm)
  have ne20 : fr ≠ b14 := Nat.ne_of_lt lne20
  have f21 := (A15_mo.ext E5)
  have lne22 : mo < b14 := Nat.lt_of_lt_of_le f21.lt (Nat.le_of_eq g14.symm)
  have f23 := (A16_sl.ext E5)
  have lne24 : sl < b14 := Nat.lt_of_lt_of_le f23.lt (Nat.le_of_eq g14.symm)
  have f25 := (A17_ct.ext E5)
  have lne26 : ct < b14 := Nat.lt_of_lt_of_le f25.lt (Nat.le_of_eq g14.symm)
  have ne26 : ct ≠ b14 := Nat.ne_of_lt lne26
  have lne27 : b5 < b14 := Nat.lt_of_lt_of_le A5.lt (Nat.le_of_eq g14.symm)
  have ne27 : b5 ≠ b14 := Nat.ne_of_lt lne27
  have z28 : h0.size ≤ (h5).size := (Nat.le_trans (Nat.le_refl _) E5.1)
  have sz_b14 : h0.size ≤ b14 := Nat.le_trans z28 (Nat.le_of_eq g14.symm)
  have gn_b14 : n0 ≤ b14 := Nat.le_trans Z0 sz_b14
  refine Goes.via st14 ?_
  show Goes p e below _ (T14.setTop (mkF m 13 #[vr q, .val (.long mt), .second, vr b5, .unset, .unset, .unset, .unset] [(.ref b14)]))
  refine Goes.via (fun _ kk_ => XS.astore X14.here hx rfl (hb hby d14_13) rfl rfl (l' := #[vr q, .val (.long mt), .second, vr b5, vr b14, .unset, .unset, .unset]) rfl kk_) ?_
  show Goes p e below _ (T14.setTop (mkF m 15 #[vr q, .val (.long mt), .second, vr b5, vr b14, .unset, .unset, .unset] []))
  refine gIC (z := 0) X14 hx hby d14_15 rfl ?_
  refine Goes.via (fun _ kk_ => XS.istore X14.here hx rfl (hb hby d14_16) rfl (l' := #[vr q, .val (.long mt), .second, vr b5, vr b14, vi (0 : Int32), .unset, .unset]) rfl kk_) ?_
  show Goes p e below _ (T14.setTop (mkF m 18 #[vr q, .val (.long mt), .second, vr b5, vr b14, vi (0 : Int32), .unset, .unset] []))
  refine gIC (z := 0) X14 hx hby d14_18 rfl ?_
  refine Goes.via (fun _ kk_ => XS.istore X14.here hx rfl (hb hby d14_19) rfl (l' := #[vr q, .val (.long mt), .second, vr b5, vr b14, vi (0 : Int32), vi (0 : Int32), .unset]) rfl kk_) ?_
  show Goes p e below _ (T14.setTop (mkF m 21 #[vr q, .val (.long mt), .second, vr b5, vr b14, vi (0 : Int32), vi (0 : Int32), .unset] []))
  have f29 := (f25.ext E14)
  have cv30 : Arw Z h14 ct kC .int 65 (fun i => .int (Int32.ofNat ((own_cz cn 0) i))) := (f29.to (fun i _ => by rw [own_cz0]))
  have f31 := (A5.ext E14)
  have cv32 : Arw Z h14 b5 k5 .long ns (fun i => .long ((fun _ => (0 : Int64)) i)) := f31
  have cv33 : Arw Z h14 b14 k14 .int ns (fun i => .int ((fun _ => (0 : Int32)) i)) := A14
  have f35 := (f15.ext E14)
  have f36 := ((F1_q_items.ext E5).ext E14)
  have f37 := ((F2_q_free.ext E5).ext E14)
  have f38 := ((F3_q_freeSlots.ext E5).ext E14)
  have f39 := ((F4_q_used.ext E5).ext E14)
  have f40 := (f12.ext E14)
  have f41 := ((F6_q_moments.ext E5).ext E14)
  have f42 := ((F7_q_slots.ext E5).ext E14)
  have f43 := ((F8_q_counts.ext E5).ext E14)
  have f44 := ((F9_q_first.ext E5).ext E14)
  have f45 := ((F10_q_reference.ext E5).ext E14)
  have f46 := ((F11_q_soonestBucket.ext E5).ext E14)
  have f47 := ((F12_q_soonest.ext E5).ext E14)
  have f48 := (f17.ext E14)
  have f49 := (f19.ext E14)
  have f50 := (f21.ext E14)
  have f51 := (f23.ext E14)
  have K52 : KpN n0 h0 h14 := (((KpN.refl n0 h0).ext E5).ext E14)
  have lp34 : ∀ (fu34 : Nat) (bb : Int32) (b : Nat) (tk : Int32) (s7 : Slot) (gd : Nat → Int64) (gp : Nat → Int32) (T34 : State) (lc34 : List Loc) (H34 : Heap), (Stand p l e ({ frames := 3, cells := 2, slots := 10, locals := 44 } : Room) s m #[(.ref q), (.long mt)] below meth c T34 lc34 2 10) → (T34.heap = H34) → (Fr n0 lc34) → (KpN n0 h0 H34) → (Exa Z H34 q "nearhop/sim/EventQueue") → (Fld Z H34 q "nearhop/sim/EventQueue" "items" "[Ljava/lang/Object;" (.ref it)) → (Fld Z H34 q "nearhop/sim/EventQueue" "free" "[I" (.ref fr)) → (Fld Z H34 q "nearhop/sim/EventQueue" "freeSlots" "I" (.int fs)) → (Fld Z H34 q "nearhop/sim/EventQueue" "used" "I" (.int us)) → (Fld Z H34 q "nearhop/sim/EventQueue" "size" "I" (.int sz)) → (Fld Z H34 q "nearhop/sim/EventQueue" "moments" "[[J" (.ref mo)) → (Fld Z H34 q "nearhop/sim/EventQueue" "slots" "[[I" (.ref sl)) → (Fld Z H34 q "nearhop/sim/EventQueue" "counts" "[I" (.ref ct)) → (Fld Z H34 q "nearhop/sim/EventQueue" "first" "I" (.int fi)) → (Fld Z H34 q "nearhop/sim/EventQueue" "reference" "J" (.long rf)) → (Fld Z H34 q "nearhop/sim/EventQueue" "soonestBucket" "I" (.int sb)) → (Fld Z H34 q "nearhop/sim/EventQueue" "soonest" "J" (.long so)) → (Arw Z H34 it kI (.object "java/lang/Object") 64 fI) → (Arw Z H34 fr kF .int 64 (fun i => .int (fF i))) → (Grv Z H34 mo kM kN .long 65 64 (fun u v => .long (gM u v))) → (Grv Z H34 sl kS kU .int 65 64 (fun u v => .int (gS u v))) → (Arw Z H34 ct kC .int 65 (fun i => .int (Int32.ofNat ((own_cz cn b) i)))) → (Arw Z H34 b5 k5 .long ns (fun i => .long (gd i))) → (Arw Z H34 b14 k14 .int ns (fun i => .int (gp i))) → (bb.toInt = (b : Int)) → (b ≤ 65) → (tk.toInt = (own_t cn nf b : Int)) → (own_R1 gp) → (One s7) → (65 < b + fu34) → Goes p e below (Fin_ s (QrmDa Z q mt it fr mo sl ct kI kF kM kN kS kU kC fs us sz fi rf sb so fI fF gM gS cn K h0 n0) ({ frames := 3, cells := 2, slots := 10, locals := 44 } : Room).cells ({ frames := 3, cells := 2, slots := 10, locals := 44 } : Room).slots) (T34.setTop (mkF m 21 #[vr q, .val (.long mt), .second, vr b5, vr b14, vi tk, vi bb, s7] [])) := by
    intro fu34
    induction fu34 with
    | zero =>
      intro bb b tk s7 gd gp T34 lc34 H34 X34 e34 N34 K34 g34_0 g34_1 g34_2 g34_3 g34_4 g34_5 g34_6 g34_7 g34_8 g34_9 g34_10 g34_11 g34_12 g34_13 g34_14 g34_15 g34_16 g34_17 g34_18 g34_19 hbb hbl htk hgp hs7 hfu
      omega
    | succ fu34 ih34 =>
      intro bb b tk s7 gd gp T34 lc34 H34 X34 e34 N34 K34 g34_0 g34_1 g34_2 g34_3 g34_4 g34_5 g34_6 g34_7 g34_8 g34_9 g34_10 g34_11 g34_12 g34_13 g34_14 g34_15 g34_16 g34_17 g34_18 g34_19 hbb hbl htk hgp hs7 hfu
      refine gIL X34 hx hby d14_21 rfl ?_
      refine gBI (z := 65) X34 hx hby d14_23 rfl ?_
      by_cases hc25 : bb < (65 : Int32)
      · skip
        refine Goes.via (fun _ kk_ => XS.icmpNo X34.here hx rfl (hb hby d14_25) rfl (tlt hc25).2.1 kk_) ?_
        show Goes p e below _ (T34.setTop (mkF m 28 #[vr q, .val (.long mt), .second, vr b5, vr b14, vi tk, vi bb, s7] []))
        refine gIL X34 hx hby d14_28 rfl ?_
        by_cases hc30 : bb = (0 : Int32)
        · skip
          refine Goes.via (fun _ kk_ => XS.ifNo X34.here hx rfl (hb hby d14_30) rfl ((if0 _ _).trans (teq hc30).2) kk_) ?_
          show Goes p e below _ (T34.setTop (mkF m 33 #[vr q, .val (.long mt), .second, vr b5, vr b14, vi tk, vi bb, s7] []))
          refine gALN X34 hx hby d14_33 rfl rfl ?_
          obtain ⟨T53, X53, e53, st53⟩ := getF X34 hx hZ hown (host := "") (Or.inl (own_w hw 82 rfl)) Via.refl e34 g34_9 (g := (mkF m 34 #[vr q, .val (.long mt), .second, vr b5, vr b14, vi tk, vi bb, s7] [(.ref q)])) rfl rfl (hb hby d14_34)
          refine Goes.via st53 ?_
          show Goes p e below _ (T53.setTop (mkF m 37 #[vr q, .val (.long mt), .second, vr b5, vr b14, vi tk, vi bb, s7] [(.int fi)]))
          refine Goes.via (fun _ kk_ => XS.goto X53.here hx rfl (pc0 := 37) (pc' := 41) rfl (hb hby d14_37) (by decide) (by decide) kk_) ?_
          show Goes p e below _ (T53.setTop (mkF m 41 #[vr q, .val (.long mt), .second, vr b5, vr b14, vi tk, vi bb, s7] [(.int fi)]))
          refine Goes.via (fun _ kk_ => XS.istore X53.here hx rfl (hb hby d14_41) rfl (l' := #[vr q, .val (.long mt), .second, vr b5, vr b14, vi tk, vi bb, vi fi]) (os_rmDa_41_54 hs7) kk_) ?_
          show Goes p e below _ (T53.setTop (mkF m 43 #[vr q, .val (.long mt), .second, vr b5, vr b14, vi tk, vi bb, vi fi] []))
          have hbl' : b < 65 := by have q := own_lti.mp hc25; have e : (65 : Int32).toInt = 65 := (by decide); omega
          have hcb := hV5 b hbl'
          have htS := own_tS (cn := cn) hf0 b
          have htM := own_tM (cn := cn) hf0 hbl'
          have hczb : own_cz cn b b = cn b := by unfold own_cz; rw [if_neg (by omega)]
          have hb0 : b = 0 := by rw [hc30] at hbb; have e : (0 : Int32).toInt = 0 := (by decide); omega
          have hst : (fi).toInt = (own_st nf b : Int) := by unfold own_st; rw [if_pos hb0]; exact hnf
          have hst2 : own_st nf b ≤ cn b := own_st2 b hf0
          have lp55 : ∀ (fu55 : Nat) (ii : Int32) (ij : Nat) (t2 : Int32) (gd' : Nat → Int64) (gp' : Nat → Int32) (T55 : State) (lc55 : List Loc) (H55 : Heap), (Stand p l e ({ frames := 3, cells := 2, slots := 10, locals := 44 } : Room) s m #[(.ref q), (.long mt)] below meth c T55 lc55 2 10) → (T55.heap = H55) → (Fr n0 lc55) → (KpN n0 h0 H55) → (Exa Z H55 q "nearhop/sim/EventQueue") → (Fld Z H55 q "nearhop/sim/EventQueue" "items" "[Ljava/lang/Object;" (.ref it)) → (Fld Z H55 q "nearhop/sim/EventQueue" "free" "[I" (.ref fr)) → (Fld Z H55 q "nearhop/sim/EventQueue" "freeSlots" "I" (.int fs)) → (Fld Z H55 q "nearhop/sim/EventQueue" "used" "I" (.int us)) → (Fld Z H55 q "nearhop/sim/EventQueue" "size" "I" (.int sz)) → (Fld Z H55 q "nearhop/sim/EventQueue" "moments" "[[J" (.ref mo)) → (Fld Z H55 q "nearhop/sim/EventQueue" "slots" "[[I" (.ref sl)) → (Fld Z H55 q "nearhop/sim/EventQueue" "counts" "[I" (.ref ct)) → (Fld Z H55 q "nearhop/sim/EventQueue" "first" "I" (.int fi)) → (Fld Z H55 q "nearhop/sim/EventQueue" "reference" "J" (.long rf)) → (Fld Z H55 q "nearhop/sim/EventQueue" "soonestBucket" "I" (.int sb)) → (Fld Z H55 q "nearhop/sim/EventQueue" "soonest" "J" (.long so)) → (Arw Z H55 it kI (.object "java/lang/Object") 64 fI) → (Arw Z H55 fr kF .int 64 (fun i => .int (fF i))) → (Grv Z H55 mo kM kN .long 65 64 (fun u v => .long (gM u v))) → (Grv Z H55 sl kS kU .int 65 64 (fun u v => .int (gS u v))) → (Arw Z H55 ct kC .int 65 (fun i => .int (Int32.ofNat ((own_cz cn b) i)))) → (Arw Z H55 b5 k5 .long ns (fun i => .long (gd' i))) → (Arw Z H55 b14 k14 .int ns (fun i => .int (gp' i))) → (ii.toInt = (ij : Int)) → (ij ≤ cn b) → (own_st nf b ≤ ij) → (t2.toInt + (own_st nf b : Int) = (own_t cn nf b : Int) + (ij : Int)) → (own_R1 gp') → (cn b < ij + fu55) → Goes p e below (Fin_ s (QrmDa Z q mt it fr mo sl ct kI kF kM kN kS kU kC fs us sz fi rf sb so fI fF gM gS cn K h0 n0) ({ frames := 3, cells := 2, slots := 10, locals := 44 } : Room).cells ({ frames := 3, cells := 2, slots := 10, locals := 44 } : Room).slots) (T55.setTop (mkF m 43 #[vr q, .val (.long mt), .second, vr b5, vr b14, vi t2, vi bb, vi ii] [])) := by
            intro fu55
            induction fu55 with
            | zero =>
              intro ii ij t2 gd' gp' T55 lc55 H55 X55 e55 N55 K55 g55_0 g55_1 g55_2 g55_3 g55_4 g55_5 g55_6 g55_7 g55_8 g55_9 g55_10 g55_11 g55_12 g55_13 g55_14 g55_15 g55_16 g55_17 g55_18 g55_19 hii hic hsi ht2 hgp' hfv
              omega
            | succ fu55 ih55 =>
              intro ii ij t2 gd' gp' T55 lc55 H55 X55 e55 N55 K55 g55_0 g55_1 g55_2 g55_3 g55_4 g55_5 g55_6 g55_7 g55_8 g55_9 g55_10 g55_11 g55_12 g55_13 g55_14 g55_15 g55_16 g55_17 g55_18 g55_19 hii hic hsi ht2 hgp' hfv
              refine gIL X55 hx hby d14_43 rfl ?_
              refine gALN X55 hx hby d14_45 rfl rfl ?_
              obtain ⟨T56, X56, e56, st56⟩ := getF X55 hx hZ hown (host := "") (Or.inl (own_w hw 25 rfl)) Via.refl e55 g55_8 (g := (mkF m 46 #[vr q, .val (.long mt), .second, vr b5, vr b14, vi t2, vi bb, vi ii] [(.ref q), (.int ii)])) rfl rfl (hb hby d14_46)
              refine Goes.via st56 ?_
              show Goes p e below _ (T56.setTop (mkF m 49 #[vr q, .val (.long mt), .second, vr b5, vr b14, vi t2, vi bb, vi ii] [(.ref ct), (.int ii)]))
              refine gIL X56 hx hby d14_49 rfl ?_
              refine Goes.via (own_iaload X56 hx hZ e56 g55_17 (j := bb) (i := b) (own_ix hbb).1 (own_ix hbb).2 hbl' (v := (Int32.ofNat (own_cz cn b b))) rfl (g := (mkF m 51 #[vr q, .val (.long mt), .second, vr b5, vr b14, vi t2, vi bb, vi ii] [(.int bb), (.ref ct), (.int ii)])) rfl rfl (hb hby d14_51)) ?_
              show Goes p e below _ (T56.setTop (mkF m 52 #[vr q, .val (.long mt), .second, vr b5, vr b14, vi t2, vi bb, vi ii] [(.int (Int32.ofNat (own_cz cn b b))), (.int ii)]))
              by_cases hc52 : ii < (Int32.ofNat (own_cz cn b b))
              · skip
                refine Goes.via (fun _ kk_ => XS.icmpNo X56.here hx rfl (hb hby d14_52) rfl (tlt hc52).2.1 kk_) ?_
                show Goes p e below _ (T56.setTop (mkF m 55 #[vr q, .val (.long mt), .second, vr b5, vr b14, vi t2, vi bb, vi ii] []))
                have hlt : ij < cn b := by have q := own_lti.mp hc52; rw [hczb, own_on (by omega)] at q; omega
                obtain ⟨nt, hnt⟩ := own_nat (x := t2) (by omega)
                have hntl : nt < ns := by omega
                refine gALN X56 hx hby d14_55 rfl rfl ?_
                refine gIL X56 hx hby d14_56 rfl ?_
                refine gALN X56 hx hby d14_58 rfl rfl ?_
                obtain ⟨T57, X57, e57, st57⟩ := getF X56 hx hZ hown (host := "") (Or.inl (own_w hw 19 rfl)) Via.refl e56 g55_6 (g := (mkF m 59 #[vr q, .val (.long mt), .second, vr b5, vr b14, vi t2, vi bb, vi ii] [(.ref q), (.int t2), (.ref b5)])) rfl rfl (hb hby d14_59)
                refine Goes.via st57 ?_
                show Goes p e below _ (T57.setTop (mkF m 62 #[vr q, .val (.long mt), .second, vr b5, vr b14, vi t2, vi bb, vi ii] [(.ref mo), (.int t2), (.ref b5)]))
                refine gIL X57 hx hby d14_62 rfl ?_
                show Goes p e below _ (T57.setTop (mkF m 64 #[vr q, .val (.long mt), .second, vr b5, vr b14, vi t2, vi bb, vi ii] [(.int bb), (.ref mo), (.int t2), (.ref b5)]))
                refine Goes.via (own_gal X57 hx hZ e57 g55_15 (i := b) hbb hbl' (g := (mkF m 64 #[vr q, .val (.long mt), .second, vr b5, vr b14, vi t2, vi bb, vi ii] [(.int bb), (.ref mo), (.int t2), (.ref b5)])) rfl rfl (hb hby d14_64)) ?_
                show Goes p e below _ (T57.setTop (mkF m 65 #[vr q, .val (.long mt), .second, vr b5, vr b14, vi t2, vi bb, vi ii] [(.ref (mo + 1 + b)), (.int t2), (.ref b5)]))
                refine gIL X57 hx hby d14_65 rfl ?_
                show Goes p e below _ (T57.setTop (mkF m 67 #[vr q, .val (.long mt), .second, vr b5, vr b14, vi t2, vi bb, vi ii] [(.int ii), (.ref (mo + 1 + b)), (.int t2), (.ref b5)]))
                refine Goes.via (own_glal X57 hx hZ e57 g55_15 (i := b) (j := ij) hbl' hii (by omega) (v := (gM b ij)) rfl (g := (mkF m 67 #[vr q, .val (.long mt), .second, vr b5, vr b14, vi t2, vi bb, vi ii] [(.int ii), (.ref (mo + 1 + b)), (.int t2), (.ref b5)])) rfl rfl (hb hby d14_67)) ?_
                show Goes p e below _ (T57.setTop (mkF m 68 #[vr q, .val (.long mt), .second, vr b5, vr b14, vi t2, vi bb, vi ii] [(.long (gM b ij)), (.int t2), (.ref b5)]))
                obtain ⟨T58, h58, X58, e58, W58, A58, st58⟩ := own_lastore X57 hx hZ e57 g55_18 (j := t2) (i := nt) (own_ix hnt).1 (own_ix hnt).2 hntl (g := (mkF m 68 #[vr q, .val (.long mt), .second, vr b5, vr b14, vi t2, vi bb, vi ii] [(.long (gM b ij)), (.int t2), (.ref b5)])) rfl rfl (hb hby d14_68)
                refine Goes.via st58 ?_
                have N58 := Fr.snoc X58 N55 gn_b5
                show Goes p e below _ (T58.setTop (mkF m 69 #[vr q, .val (.long mt), .second, vr b5, vr b14, vi t2, vi bb, vi ii] []))
                have cv59 : Arw Z h58 b5 k5 .long ns (fun i => .long ((own_cu gd' nt (gM b ij)) i)) := (Arw.toC (w := fun z => .long z) A58)
                refine gAL X58 hx hby d14_69 rfl rfl ?_
                refine gIL X58 hx hby d14_71 rfl ?_
                refine gALN X58 hx hby d14_73 rfl rfl ?_
                have f60 := (g55_7.other W58 (Or.inl ne6))
                obtain ⟨T61, X61, e61, st61⟩ := getF X58 hx hZ hown (host := "") (Or.inl (own_w hw 23 rfl)) Via.refl e58 f60 (g := (mkF m 74 #[vr q, .val (.long mt), .second, vr b5, vr b14, vi t2, vi bb, vi ii] [(.ref q), (.int t2), (.ref b14)])) rfl rfl (hb hby d14_74)
                refine Goes.via st61 ?_
                show Goes p e below _ (T61.setTop (mkF m 77 #[vr q, .val (.long mt), .second, vr b5, vr b14, vi t2, vi bb, vi ii] [(.ref sl), (.int t2), (.ref b14)]))
                refine gIL X61 hx hby d14_77 rfl ?_
                show Goes p e below _ (T61.setTop (mkF m 79 #[vr q, .val (.long mt), .second, vr b5, vr b14, vi t2, vi bb, vi ii] [(.int bb), (.ref sl), (.int t2), (.ref b14)]))
                have f62 := (g55_16.off W58 (show (b5 : Nat) < sl ∨ sl + 65 < b5 by omega))
                refine Goes.via (own_gal X61 hx hZ e61 f62 (i := b) hbb hbl' (g := (mkF m 79 #[vr q, .val (.long mt), .second, vr b5, vr b14, vi t2, vi bb, vi ii] [(.int bb), (.ref sl), (.int t2), (.ref b14)])) rfl rfl (hb hby d14_79)) ?_
                show Goes p e below _ (T61.setTop (mkF m 80 #[vr q, .val (.long mt), .second, vr b5, vr b14, vi t2, vi bb, vi ii] [(.ref (sl + 1 + b)), (.int t2), (.ref b14)]))
                refine gIL X61 hx hby d14_80 rfl ?_
                show Goes p e below _ (T61.setTop (mkF m 82 #[vr q, .val (.long mt), .second, vr b5, vr b14, vi t2, vi bb, vi ii] [(.int ii), (.ref (sl + 1 + b)), (.int t2), (.ref b14)]))
                refine Goes.via (own_gial X61 hx hZ e61 f62 (i := b) (j := ij) hbl' hii (by omega) (v := (gS b ij)) rfl (g := (mkF m 82 #[vr q, .val (.long mt), .second, vr b5, vr b14, vi t2, vi bb, vi ii] [(.int ii), (.ref (sl + 1 + b)), (.int t2), (.ref b14)])) rfl rfl (hb hby d14_82)) ?_
                show Goes p e below _ (T61.setTop (mkF m 83 #[vr q, .val (.long mt), .second, vr b5, vr b14, vi t2, vi bb, vi ii] [(.int (gS b ij)), (.int t2), (.ref b14)]))
                have f63 := (g55_19.other W58 (Ne.symm ne27))
                obtain ⟨T64, h64, X64, e64, W64, A64, st64⟩ := own_iastore X61 hx hZ e61 f63 (j := t2) (i := nt) (own_ix hnt).1 (own_ix hnt).2 hntl (g := (mkF m 83 #[vr q, .val (.long mt), .second, vr b5, vr b14, vi t2, vi bb, vi ii] [(.int (gS b ij)), (.int t2), (.ref b14)])) rfl rfl (hb hby d14_83)
                refine Goes.via st64 ?_
                have N64 := Fr.snoc X64 N58 gn_b14
                show Goes p e below _ (T64.setTop (mkF m 84 #[vr q, .val (.long mt), .second, vr b5, vr b14, vi t2, vi bb, vi ii] []))
                have cv65 : Arw Z h64 b14 k14 .int ns (fun i => .int ((own_cu gp' nt (gS b ij)) i)) := (Arw.toC (w := fun z => .int z) A64)
                refine Goes.via (fun _ kk_ => XS.iinc X64.here hx rfl (hb hby d14_84) rfl (l' := #[vr q, .val (.long mt), .second, vr b5, vr b14, vi (t2 + (1 : Int32)), vi bb, vi ii]) rfl kk_) ?_
                show Goes p e below _ (T64.setTop (mkF m 87 #[vr q, .val (.long mt), .second, vr b5, vr b14, vi (t2 + (1 : Int32)), vi bb, vi ii] []))
                refine Goes.via (fun _ kk_ => XS.iinc X64.here hx rfl (hb hby d14_87) rfl (l' := #[vr q, .val (.long mt), .second, vr b5, vr b14, vi (t2 + (1 : Int32)), vi bb, vi (ii + (1 : Int32))]) rfl kk_) ?_
                show Goes p e below _ (T64.setTop (mkF m 90 #[vr q, .val (.long mt), .second, vr b5, vr b14, vi (t2 + (1 : Int32)), vi bb, vi (ii + (1 : Int32))] []))
                refine Goes.via (fun _ kk_ => XS.goto X64.here hx rfl (pc0 := 90) (pc' := 43) rfl (hb hby d14_90) (by decide) (by decide) kk_) ?_
                show Goes p e below _ (T64.setTop (mkF m 43 #[vr q, .val (.long mt), .second, vr b5, vr b14, vi (t2 + (1 : Int32)), vi bb, vi (ii + (1 : Int32))] []))
                have f66 := ((g55_0.wr W58).wr W64)
                have f67 := ((g55_1.other W58 (Or.inl ne6)).other W64 (Or.inl ne16))
                have f68 := ((g55_2.other W58 (Or.inl ne6)).other W64 (Or.inl ne16))
                have f69 := ((g55_3.other W58 (Or.inl ne6)).other W64 (Or.inl ne16))
                have f70 := ((g55_4.other W58 (Or.inl ne6)).other W64 (Or.inl ne16))
                have f71 := ((g55_5.other W58 (Or.inl ne6)).other W64 (Or.inl ne16))
                have f72 := ((g55_6.other W58 (Or.inl ne6)).other W64 (Or.inl ne16))
                have f73 := (f60.other W64 (Or.inl ne16))
                have f74 := ((g55_8.other W58 (Or.inl ne6)).other W64 (Or.inl ne16))
                have f75 := ((g55_9.other W58 (Or.inl ne6)).other W64 (Or.inl ne16))
                have f76 := ((g55_10.other W58 (Or.inl ne6)).other W64 (Or.inl ne16))
                have f77 := ((g55_11.other W58 (Or.inl ne6)).other W64 (Or.inl ne16))
                have f78 := ((g55_12.other W58 (Or.inl ne6)).other W64 (Or.inl ne16))
                have f79 := ((g55_13.other W58 ne7).other W64 ne18)
                have f80 := ((g55_14.other W58 ne8).other W64 ne20)
                have f81 := ((g55_15.off W58 (show (b5 : Nat) < mo ∨ mo + 65 < b5 by omega)).off W64 (show (b14 : Nat) < mo ∨ mo + 65 < b14 by omega))
                have f82 := (f62.off W64 (show (b14 : Nat) < sl ∨ sl + 65 < b14 by omega))
                have f83 := ((g55_17.other W58 ne11).other W64 ne26)
                have f84 := (cv59.other W64 ne27)
                have K85 : KpN n0 h0 h64 := ((K55.wr W58 gn_b5).wr W64 gn_b14)
                exact ih55 ((ii + (1 : Int32))) (ij + 1) ((t2 + (1 : Int32))) (own_cu gd' nt (gM b ij)) (own_cu gp' nt (gS b ij)) _ _ _ X64 e64 N64 K85 f66 f67 f68 f69 f70 f71 f72 f73 f74 f75 f76 f77 f78 f79 f80 f81 f82 f83 f84 cv65 (by have q := own_i1 (x := ii) (by omega) (by omega); omega) (by omega) (by omega) (by have q := own_i1 (x := t2) (by omega) (by omega); omega) (own_R1u hgp' (b1 b ij)) (by omega)
              · skip
                refine Goes.via (fun _ kk_ => XS.icmpYes X56.here hx rfl (pc0 := 52) (pc' := 93) rfl (hb hby d14_52) rfl (flt hc52).2.1 (by decide) (by decide) kk_) ?_
                show Goes p e below _ (T56.setTop (mkF m 93 #[vr q, .val (.long mt), .second, vr b5, vr b14, vi t2, vi bb, vi ii] []))
                have hge : ij = cn b := by have q : ¬ _ := fun z => hc52 (own_lti.mpr z); rw [hczb, own_on (by omega)] at q; omega
                refine gALN X56 hx hby d14_93 rfl rfl ?_
                obtain ⟨T86, X86, e86, st86⟩ := getF X56 hx hZ hown (host := "") (Or.inl (own_w hw 25 rfl)) Via.refl e56 g55_8 (g := (mkF m 94 #[vr q, .val (.long mt), .second, vr b5, vr b14, vi t2, vi bb, vi ii] [(.ref q)])) rfl rfl (hb hby d14_94)
                refine Goes.via st86 ?_
                show Goes p e below _ (T86.setTop (mkF m 97 #[vr q, .val (.long mt), .second, vr b5, vr b14, vi t2, vi bb, vi ii] [(.ref ct)]))
                refine gIL X86 hx hby d14_97 rfl ?_
                refine gIC (z := 0) X86 hx hby d14_99 rfl ?_
                obtain ⟨T87, h87, X87, e87, W87, A87, st87⟩ := own_iastore X86 hx hZ e86 g55_17 (j := bb) (i := b) (own_ix hbb).1 (own_ix hbb).2 hbl' (g := (mkF m 100 #[vr q, .val (.long mt), .second, vr b5, vr b14, vi t2, vi bb, vi ii] [(.int (0 : Int32)), (.int bb), (.ref ct)])) rfl rfl (hb hby d14_100)
                refine Goes.via st87 ?_
                have N87 := Fr.snoc X87 N55 (show n0 ≤ ct by omega)
                show Goes p e below _ (T87.setTop (mkF m 101 #[vr q, .val (.long mt), .second, vr b5, vr b14, vi t2, vi bb, vi ii] []))
                have cv88 : Arw Z h87 ct kC .int 65 (fun i => .int (Int32.ofNat ((own_cz cn (b + 1)) i))) := (by have q := Arw.toC (w := fun z => .int (Int32.ofNat z)) (x := 0) A87; exact q.to (fun i _ => by rw [own_czS]))
                refine Goes.via (fun _ kk_ => XS.iinc X87.here hx rfl (hb hby d14_101) rfl (l' := #[vr q, .val (.long mt), .second, vr b5, vr b14, vi t2, vi (bb + (1 : Int32)), vi ii]) rfl kk_) ?_
                show Goes p e below _ (T87.setTop (mkF m 104 #[vr q, .val (.long mt), .second, vr b5, vr b14, vi t2, vi (bb + (1 : Int32)), vi ii] []))
                refine Goes.via (fun _ kk_ => XS.goto X87.here hx rfl (pc0 := 104) (pc' := 21) rfl (hb hby d14_104) (by decide) (by decide) kk_) ?_
                show Goes p e below _ (T87.setTop (mkF m 21 #[vr q, .val (.long mt), .second, vr b5, vr b14, vi t2, vi (bb + (1 : Int32)), vi ii] []))
                have f89 := (g55_0.wr W87)
                have f90 := (g55_1.other W87 (Or.inl ne3))
                have f91 := (g55_2.other W87 (Or.inl ne3))
                have f92 := (g55_3.other W87 (Or.inl ne3))
                have f93 := (g55_4.other W87 (Or.inl ne3))
                have f94 := (g55_5.other W87 (Or.inl ne3))
                have f95 := (g55_6.other W87 (Or.inl ne3))
                have f96 := (g55_7.other W87 (Or.inl ne3))
                have f97 := (g55_8.other W87 (Or.inl ne3))
                have f98 := (g55_9.other W87 (Or.inl ne3))
                have f99 := (g55_10.other W87 (Or.inl ne3))
                have f100 := (g55_11.other W87 (Or.inl ne3))
                have f101 := (g55_12.other W87 (Or.inl ne3))
                have f102 := (g55_13.other W87 (show (it : Nat) ≠ ct by omega))
                have f103 := (g55_14.other W87 (show (fr : Nat) ≠ ct by omega))
                have f104 := (g55_15.off W87 (show (ct : Nat) < mo ∨ mo + 65 < ct by omega))
                have f105 := (g55_16.off W87 (show (ct : Nat) < sl ∨ sl + 65 < ct by omega))
                have f106 := (g55_18.other W87 (Ne.symm ne11))
                have f107 := (g55_19.other W87 (Ne.symm ne26))
                have K108 : KpN n0 h0 h87 := (K55.wr W87 (show n0 ≤ ct by omega))
                exact ih34 ((bb + (1 : Int32))) (b + 1) (t2) (.val (.int ii)) (gd') (gp') _ _ _ X87 e87 N87 K108 f89 f90 f91 f92 f93 f94 f95 f96 f97 f98 f99 f100 f101 f102 f103 f104 f105 cv88 f106 f107 (by have q := own_i1 (x := bb) (by omega) (by omega); omega) (by omega) (by have q := own_tS (cn := cn) hf0 b; omega) hgp' (One.val rfl) (by omega)
          exact lp55 (6) (fi) (own_st nf b) (tk) (gd) (gp) _ _ _ X53 e53 N34 K34 g34_0 g34_1 g34_2 g34_3 g34_4 g34_5 g34_6 g34_7 g34_8 g34_9 g34_10 g34_11 g34_12 g34_13 g34_14 g34_15 g34_16 g34_17 g34_18 g34_19 hst hst2 (Nat.le_refl _) (by omega) hgp (by omega)
        · skip
          refine Goes.via (fun _ kk_ => XS.ifYes X34.here hx rfl (pc0 := 30) (pc' := 40) rfl (hb hby d14_30) rfl ((if0 _ _).trans (feq hc30).2) (by decide) (by decide) kk_) ?_
          show Goes p e below _ (T34.setTop (mkF m 40 #[vr q, .val (.long mt), .second, vr b5, vr b14, vi tk, vi bb, s7] []))
          refine gIC (z := 0) X34 hx hby d14_40 rfl ?_
          refine Goes.via (fun _ kk_ => XS.istore X34.here hx rfl (hb hby d14_41) rfl (l' := #[vr q, .val (.long mt), .second, vr b5, vr b14, vi tk, vi bb, vi (0 : Int32)]) (os_rmDa_41_109 hs7) kk_) ?_
          show Goes p e below _ (T34.setTop (mkF m 43 #[vr q, .val (.long mt), .second, vr b5, vr b14, vi tk, vi bb, vi (0 : Int32)] []))
          have hbl' : b < 65 := by have q := own_lti.mp hc25; have e : (65 : Int32).toInt = 65 := (by decide); omega
          have hcb := hV5 b hbl'
          have htS := own_tS (cn := cn) hf0 b
          have htM := own_tM (cn := cn) hf0 hbl'
          have hczb : own_cz cn b b = cn b := by unfold own_cz; rw [if_neg (by omega)]
          have hb0 : b ≠ 0 := fun g => hc30 (Int32.toInt_inj.mp (by rw [hbb, g]; decide))
          have hst : ((0 : Int32)).toInt = (own_st nf b : Int) := by unfold own_st; rw [if_neg hb0]; decide
          have hst2 : own_st nf b ≤ cn b := own_st2 b hf0
          have lp110 : ∀ (fu110 : Nat) (ii : Int32) (ij : Nat) (t2 : Int32) (gd' : Nat → Int64) (gp' : Nat → Int32) (T110 : State) (lc110 : List Loc) (H110 : Heap), (Stand p l e ({ frames := 3, cells := 2, slots := 10, locals := 44 } : Room) s m #[(.ref q), (.long mt)] below meth c T110 lc110 2 10) → (T110.heap = H110) → (Fr n0 lc110) → (KpN n0 h0 H110) → (Exa Z H110 q "nearhop/sim/EventQueue") → (Fld Z H110 q "nearhop/sim/EventQueue" "items" "[Ljava/lang/Object;" (.ref it)) → (Fld Z H110 q "nearhop/sim/EventQueue" "free" "[I" (.ref fr)) → (Fld Z H110 q "nearhop/sim/EventQueue" "freeSlots" "I" (.int fs)) → (Fld Z H110 q "nearhop/sim/EventQueue" "used" "I" (.int us)) → (Fld Z H110 q "nearhop/sim/EventQueue" "size" "I" (.int sz)) → (Fld Z H110 q "nearhop/sim/EventQueue" "moments" "[[J" (.ref mo)) → (Fld Z H110 q "nearhop/sim/EventQueue" "slots" "[[I" (.ref sl)) → (Fld Z H110 q "nearhop/sim/EventQueue" "counts" "[I" (.ref ct)) → (Fld Z H110 q "nearhop/sim/EventQueue" "first" "I" (.int fi)) → (Fld Z H110 q "nearhop/sim/EventQueue" "reference" "J" (.long rf)) → (Fld Z H110 q "nearhop/sim/EventQueue" "soonestBucket" "I" (.int sb)) → (Fld Z H110 q "nearhop/sim/EventQueue" "soonest" "J" (.long so)) → (Arw Z H110 it kI (.object "java/lang/Object") 64 fI) → (Arw Z H110 fr kF .int 64 (fun i => .int (fF i))) → (Grv Z H110 mo kM kN .long 65 64 (fun u v => .long (gM u v))) → (Grv Z H110 sl kS kU .int 65 64 (fun u v => .int (gS u v))) → (Arw Z H110 ct kC .int 65 (fun i => .int (Int32.ofNat ((own_cz cn b) i)))) → (Arw Z H110 b5 k5 .long ns (fun i => .long (gd' i))) → (Arw Z H110 b14 k14 .int ns (fun i => .int (gp' i))) → (ii.toInt = (ij : Int)) → (ij ≤ cn b) → (own_st nf b ≤ ij) → (t2.toInt + (own_st nf b : Int) = (own_t cn nf b : Int) + (ij : Int)) → (own_R1 gp') → (cn b < ij + fu110) → Goes p e below (Fin_ s (QrmDa Z q mt it fr mo sl ct kI kF kM kN kS kU kC fs us sz fi rf sb so fI fF gM gS cn K h0 n0) ({ frames := 3, cells := 2, slots := 10, locals := 44 } : Room).cells ({ frames := 3, cells := 2, slots := 10, locals := 44 } : Room).slots) (T110.setTop (mkF m 43 #[vr q, .val (.long mt), .second, vr b5, vr b14, vi t2, vi bb, vi ii] [])) := by
            intro fu110
            induction fu110 with
            | zero =>
              intro ii ij t2 gd' gp' T110 lc110 H110 X110 e110 N110 K110 g110_0 g110_1 g110_2 g110_3 g110_4 g110_5 g110_6 g110_7 g110_8 g110_9 g110_10 g110_11 g110_12 g110_13 g110_14 g110_15 g110_16 g110_17 g110_18 g110_19 hii hic hsi ht2 hgp' hfv
              omega
            | succ fu110 ih110 =>
              intro ii ij t2 gd' gp' T110 lc110 H110 X110 e110 N110 K110 g110_0 g110_1 g110_2 g110_3 g110_4 g110_5 g110_6 g110_7 g110_8 g110_9 g110_10 g110_11 g110_12 g110_13 g110_14 g110_15 g110_16 g110_17 g110_18 g110_19 hii hic hsi ht2 hgp' hfv
              refine gIL X110 hx hby d14_43 rfl ?_
              refine gALN X110 hx hby d14_45 rfl rfl ?_
              obtain ⟨T111, X111, e111, st111⟩ := getF X110 hx hZ hown (host := "") (Or.inl (own_w hw 25 rfl)) Via.refl e110 g110_8 (g := (mkF m 46 #[vr q, .val (.long mt), .second, vr b5, vr b14, vi t2, vi bb, vi ii] [(.ref q), (.int ii)])) rfl rfl (hb hby d14_46)
              refine Goes.via st111 ?_
              show Goes p e below _ (T111.setTop (mkF m 49 #[vr q, .val (.long mt), .second, vr b5, vr b14, vi t2, vi bb, vi ii] [(.ref ct), (.int ii)]))
              refine gIL X111 hx hby d14_49 rfl ?_
              refine Goes.via (own_iaload X111 hx hZ e111 g110_17 (j := bb) (i := b) (own_ix hbb).1 (own_ix hbb).2 hbl' (v := (Int32.ofNat (own_cz cn b b))) rfl (g := (mkF m 51 #[vr q, .val (.long mt), .second, vr b5, vr b14, vi t2, vi bb, vi ii] [(.int bb), (.ref ct), (.int ii)])) rfl rfl (hb hby d14_51)) ?_
              show Goes p e below _ (T111.setTop (mkF m 52 #[vr q, .val (.long mt), .second, vr b5, vr b14, vi t2, vi bb, vi ii] [(.int (Int32.ofNat (own_cz cn b b))), (.int ii)]))
              by_cases hc52 : ii < (Int32.ofNat (own_cz cn b b))
              · skip
                refine Goes.via (fun _ kk_ => XS.icmpNo X111.here hx rfl (hb hby d14_52) rfl (tlt hc52).2.1 kk_) ?_
                show Goes p e below _ (T111.setTop (mkF m 55 #[vr q, .val (.long mt), .second, vr b5, vr b14, vi t2, vi bb, vi ii] []))
                have hlt : ij < cn b := by have q := own_lti.mp hc52; rw [hczb, own_on (by omega)] at q; omega
                obtain ⟨nt, hnt⟩ := own_nat (x := t2) (by omega)
                have hntl : nt < ns := by omega
                refine gALN X111 hx hby d14_55 rfl rfl ?_
                refine gIL X111 hx hby d14_56 rfl ?_
                refine gALN X111 hx hby d14_58 rfl rfl ?_
                obtain ⟨T112, X112, e112, st112⟩ := getF X111 hx hZ hown (host := "") (Or.inl (own_w hw 19 rfl)) Via.refl e111 g110_6 (g := (mkF m 59 #[vr q, .val (.long mt), .second, vr b5, vr b14, vi t2, vi bb, vi ii] [(.ref q), (.int t2), (.ref b5)])) rfl rfl (hb hby d14_59)
                refine Goes.via st112 ?_
                show Goes p e below _ (T112.setTop (mkF m 62 #[vr q, .val (.long mt), .second, vr b5, vr b14, vi t2, vi bb, vi ii] [(.ref mo), (.int t2), (.ref b5)]))
                refine gIL X112 hx hby d14_62 rfl ?_
                show Goes p e below _ (T112.setTop (mkF m 64 #[vr q, .val (.long mt), .second, vr b5, vr b14, vi t2, vi bb, vi ii] [(.int bb), (.ref mo), (.int t2), (.ref b5)]))
                refine Goes.via (own_gal X112 hx hZ e112 g110_15 (i := b) hbb hbl' (g := (mkF m 64 #[vr q, .val (.long mt), .second, vr b5, vr b14, vi t2, vi bb, vi ii] [(.int bb), (.ref mo), (.int t2), (.ref b5)])) rfl rfl (hb hby d14_64)) ?_
                show Goes p e below _ (T112.setTop (mkF m 65 #[vr q, .val (.long mt), .second, vr b5, vr b14, vi t2, vi bb, vi ii] [(.ref (mo + 1 + b)), (.int t2), (.ref b5)]))
                refine gIL X112 hx hby d14_65 rfl ?_
                show Goes p e below _ (T112.setTop (mkF m 67 #[vr q, .val (.long mt), .second, vr b5, vr b14, vi t2, vi bb, vi ii] [(.int ii), (.ref (mo + 1 + b)), (.int t2), (.ref b5)]))
                refine Goes.via (own_glal X112 hx hZ e112 g110_15 (i := b) (j := ij) hbl' hii (by omega) (v := (gM b ij)) rfl (g := (mkF m 67 #[vr q, .val (.long mt), .second, vr b5, vr b14, vi t2, vi bb, vi ii] [(.int ii), (.ref (mo + 1 + b)), (.int t2), (.ref b5)])) rfl rfl (hb hby d14_67)) ?_
                show Goes p e below _ (T112.setTop (mkF m 68 #[vr q, .val (.long mt), .second, vr b5, vr b14, vi t2, vi bb, vi ii] [(.long (gM b ij)), (.int t2), (.ref b5)]))
                obtain ⟨T113, h113, X113, e113, W113, A113, st113⟩ := own_lastore X112 hx hZ e112 g110_18 (j := t2) (i := nt) (own_ix hnt).1 (own_ix hnt).2 hntl (g := (mkF m 68 #[vr q, .val (.long mt), .second, vr b5, vr b14, vi t2, vi bb, vi ii] [(.long (gM b ij)), (.int t2), (.ref b5)])) rfl rfl (hb hby d14_68)
                refine Goes.via st113 ?_
                have N113 := Fr.snoc X113 N110 gn_b5
                show Goes p e below _ (T113.setTop (mkF m 69 #[vr q, .val (.long mt), .second, vr b5, vr b14, vi t2, vi bb, vi ii] []))
                have cv114 : Arw Z h113 b5 k5 .long ns (fun i => .long ((own_cu gd' nt (gM b ij)) i)) := (Arw.toC (w := fun z => .long z) A113)
                refine gAL X113 hx hby d14_69 rfl rfl ?_
                refine gIL X113 hx hby d14_71 rfl ?_
                refine gALN X113 hx hby d14_73 rfl rfl ?_
                have f115 := (g110_7.other W113 (Or.inl ne6))
                obtain ⟨T116, X116, e116, st116⟩ := getF X113 hx hZ hown (host := "") (Or.inl (own_w hw 23 rfl)) Via.refl e113 f115 (g := (mkF m 74 #[vr q, .val (.long mt), .second, vr b5, vr b14, vi t2, vi bb, vi ii] [(.ref q), (.int t2), (.ref b14)])) rfl rfl (hb hby d14_74)
                refine Goes.via st116 ?_
                show Goes p e below _ (T116.setTop (mkF m 77 #[vr q, .val (.long mt), .second, vr b5, vr b14, vi t2, vi bb, vi ii] [(.ref sl), (.int t2), (.ref b14)]))
                refine gIL X116 hx hby d14_77 rfl ?_
                show Goes p e below _ (T116.setTop (mkF m 79 #[vr q, .val (.long mt), .second, vr b5, vr b14, vi t2, vi bb, vi ii] [(.int bb), (.ref sl), (.int t2), (.ref b14)]))
                have f117 := (g110_16.off W113 (show (b5 : Nat) < sl ∨ sl + 65 < b5 by omega))
                refine Goes.via (own_gal X116 hx hZ e116 f117 (i := b) hbb hbl' (g := (mkF m 79 #[vr q, .val (.long mt), .second, vr b5, vr b14, vi t2, vi bb, vi ii] [(.int bb), (.ref sl), (.int t2), (.ref b14)])) rfl rfl (hb hby d14_79)) ?_
                show Goes p e below _ (T116.setTop (mkF m 80 #[vr q, .val (.long mt), .second, vr b5, vr b14, vi t2, vi bb, vi ii] [(.ref (sl + 1 + b)), (.int t2), (.ref b14)]))
                refine gIL X116 hx hby d14_80 rfl ?_
                show Goes p e below _ (T116.setTop (mkF m 82 #[vr q, .val (.long mt), .second, vr b5, vr b14, vi t2, vi bb, vi ii] [(.int ii), (.ref (sl + 1 + b)), (.int t2), (.ref b14)]))
                refine Goes.via (own_gial X116 hx hZ e116 f117 (i := b) (j := ij) hbl' hii (by omega) (v := (gS b ij)) rfl (g := (mkF m 82 #[vr q, .val (.long mt), .second, vr b5, vr b14, vi t2, vi bb, vi ii] [(.int ii), (.ref (sl + 1 + b)), (.int t2), (.ref b14)])) rfl rfl (hb hby d14_82)) ?_
                show Goes p e below _ (T116.setTop (mkF m 83 #[vr q, .val (.long mt), .second, vr b5, vr b14, vi t2, vi bb, vi ii] [(.int (gS b ij)), (.int t2), (.ref b14)]))
                have f118 := (g110_19.other W113 (Ne.symm ne27))
                obtain ⟨T119, h119, X119, e119, W119, A119, st119⟩ := own_iastore X116 hx hZ e116 f118 (j := t2) (i := nt) (own_ix hnt).1 (own_ix hnt).2 hntl (g := (mkF m 83 #[vr q, .val (.long mt), .second, vr b5, vr b14, vi t2, vi bb, vi ii] [(.int (gS b ij)), (.int t2), (.ref b14)])) rfl rfl (hb hby d14_83)
                refine Goes.via st119 ?_
                have N119 := Fr.snoc X119 N113 gn_b14
                show Goes p e below _ (T119.setTop (mkF m 84 #[vr q, .val (.long mt), .second, vr b5, vr b14, vi t2, vi bb, vi ii] []))
                have cv120 : Arw Z h119 b14 k14 .int ns (fun i => .int ((own_cu gp' nt (gS b ij)) i)) := (Arw.toC (w := fun z => .int z) A119)
                refine Goes.via (fun _ kk_ => XS.iinc X119.here hx rfl (hb hby d14_84) rfl (l' := #[vr q, .val (.long mt), .second, vr b5, vr b14, vi (t2 + (1 : Int32)), vi bb, vi ii]) rfl kk_) ?_
                show Goes p e below _ (T119.setTop (mkF m 87 #[vr q, .val (.long mt), .second, vr b5, vr b14, vi (t2 + (1 : Int32)), vi bb, vi ii] []))
                refine Goes.via (fun _ kk_ => XS.iinc X119.here hx rfl (hb hby d14_87) rfl (l' := #[vr q, .val (.long mt), .second, vr b5, vr b14, vi (t2 + (1 : Int32)), vi bb, vi (ii + (1 : Int32))]) rfl kk_) ?_
                show Goes p e below _ (T119.setTop (mkF m 90 #[vr q, .val (.long mt), .second, vr b5, vr b14, vi (t2 + (1 : Int32)), vi bb, vi (ii + (1 : Int32))] []))
                refine Goes.via (fun _ kk_ => XS.goto X119.here hx rfl (pc0 := 90) (pc' := 43) rfl (hb hby d14_90) (by decide) (by decide) kk_) ?_
                show Goes p e below _ (T119.setTop (mkF m 43 #[vr q, .val (.long mt), .second, vr b5, vr b14, vi (t2 + (1 : Int32)), vi bb, vi (ii + (1 : Int32))] []))
                have f121 := ((g110_0.wr W113).wr W119)
                have f122 := ((g110_1.other W113 (Or.inl ne6)).other W119 (Or.inl ne16))
                have f123 := ((g110_2.other W113 (Or.inl ne6)).other W119 (Or.inl ne16))
                have f124 := ((g110_3.other W113 (Or.inl ne6)).other W119 (Or.inl ne16))
                have f125 := ((g110_4.other W113 (Or.inl ne6)).other W119 (Or.inl ne16))
                have f126 := ((g110_5.other W113 (Or.inl ne6)).other W119 (Or.inl ne16))
                have f127 := ((g110_6.other W113 (Or.inl ne6)).other W119 (Or.inl ne16))
                have f128 := (f115.other W119 (Or.inl ne16))
                have f129 := ((g110_8.other W113 (Or.inl ne6)).other W119 (Or.inl ne16))
                have f130 := ((g110_9.other W113 (Or.inl ne6)).other W119 (Or.inl ne16))
                have f131 := ((g110_10.other W113 (Or.inl ne6)).other W119 (Or.inl ne16))
                have f132 := ((g110_11.other W113 (Or.inl ne6)).other W119 (Or.inl ne16))
                have f133 := ((g110_12.other W113 (Or.inl ne6)).other W119 (Or.inl ne16))
                have f134 := ((g110_13.other W113 ne7).other W119 ne18)
                have f135 := ((g110_14.other W113 ne8).other W119 ne20)
                have f136 := ((g110_15.off W113 (show (b5 : Nat) < mo ∨ mo + 65 < b5 by omega)).off W119 (show (b14 : Nat) < mo ∨ mo + 65 < b14 by omega))
                have f137 := (f117.off W119 (show (b14 : Nat) < sl ∨ sl + 65 < b14 by omega))
                have f138 := ((g110_17.other W113 ne11).other W119 ne26)
                have f139 := (cv114.other W119 ne27)
                have K140 : KpN n0 h0 h119 := ((K110.wr W113 gn_b5).wr W119 gn_b14)
                exact ih110 ((ii + (1 : Int32))) (ij + 1) ((t2 + (1 : Int32))) (own_cu gd' nt (gM b ij)) (own_cu gp' nt (gS b ij)) _ _ _ X119 e119 N119 K140 f121 f122 f123 f124 f125 f126 f127 f128 f129 f130 f131 f132 f133 f134 f135 f136 f137 f138 f139 cv120 (by have q := own_i1 (x := ii) (by omega) (by omega); omega) (by omega) (by omega) (by have q := own_i1 (x := t2) (by omega) (by omega); omega) (own_R1u hgp' (b1 b ij)) (by omega)
              · skip
                refine Goes.via (fun _ kk_ => XS.icmpYes X111.here hx rfl (pc0 := 52) (pc' := 93) rfl (hb hby d14_52) rfl (flt hc52).2.1 (by decide) (by decide) kk_) ?_
                show Goes p e below _ (T111.setTop (mkF m 93 #[vr q, .val (.long mt), .second, vr b5, vr b14, vi t2, vi bb, vi ii] []))
                have hge : ij = cn b := by have q : ¬ _ := fun z => hc52 (own_lti.mpr z); rw [hczb, own_on (by omega)] at q; omega
                refine gALN X111 hx hby d14_93 rfl rfl ?_
                obtain ⟨T141, X141, e141, st141⟩ := getF X111 hx hZ hown (host := "") (Or.inl (own_w hw 25 rfl)) Via.refl e111 g110_8 (g := (mkF m 94 #[vr q, .val (.long mt), .second, vr b5, vr b14, vi t2, vi bb, vi ii] [(.ref q)])) rfl rfl (hb hby d14_94)
                refine Goes.via st141 ?_
                show Goes p e below _ (T141.setTop (mkF m 97 #[vr q, .val (.long mt), .second, vr b5, vr b14, vi t2, vi bb, vi ii] [(.ref ct)]))
                refine gIL X141 hx hby d14_97 rfl ?_
                refine gIC (z := 0) X141 hx hby d14_99 rfl ?_
                obtain ⟨T142, h142, X142, e142, W142, A142, st142⟩ := own_iastore X141 hx hZ e141 g110_17 (j := bb) (i := b) (own_ix hbb).1 (own_ix hbb).2 hbl' (g := (mkF m 100 #[vr q, .val (.long mt), .second, vr b5, vr b14, vi t2, vi bb, vi ii] [(.int (0 : Int32)), (.int bb), (.ref ct)])) rfl rfl (hb hby d14_100)
                refine Goes.via st142 ?_
                have N142 := Fr.snoc X142 N110 (show n0 ≤ ct by omega)
                show Goes p e below _ (T142.setTop (mkF m 101 #[vr q, .val (.long mt), .second, vr b5, vr b14, vi t2, vi bb, vi ii] []))
                have cv143 : Arw Z h142 ct kC .int 65 (fun i => .int (Int32.ofNat ((own_cz cn (b + 1)) i))) := (by have q := Arw.toC (w := fun z => .int (Int32.ofNat z)) (x := 0) A142; exact q.to (fun i _ => by rw [own_czS]))
                refine Goes.via (fun _ kk_ => XS.iinc X142.here hx rfl (hb hby d14_101) rfl (l' := #[vr q, .val (.long mt), .second, vr b5, vr b14, vi t2, vi (bb + (1 : Int32)), vi ii]) rfl kk_) ?_
                show Goes p e below _ (T142.setTop (mkF m 104 #[vr q, .val (.long mt), .second, vr b5, vr b14, vi t2, vi (bb + (1 : Int32)), vi ii] []))
                refine Goes.via (fun _ kk_ => XS.goto X142.here hx rfl (pc0 := 104) (pc' := 21) rfl (hb hby d14_104) (by decide) (by decide) kk_) ?_
                show Goes p e below _ (T142.setTop (mkF m 21 #[vr q, .val (.long mt), .second, vr b5, vr b14, vi t2, vi (bb + (1 : Int32)), vi ii] []))
                have f144 := (g110_0.wr W142)
                have f145 := (g110_1.other W142 (Or.inl ne3))
                have f146 := (g110_2.other W142 (Or.inl ne3))
                have f147 := (g110_3.other W142 (Or.inl ne3))
                have f148 := (g110_4.other W142 (Or.inl ne3))
                have f149 := (g110_5.other W142 (Or.inl ne3))
                have f150 := (g110_6.other W142 (Or.inl ne3))
                have f151 := (g110_7.other W142 (Or.inl ne3))
                have f152 := (g110_8.other W142 (Or.inl ne3))
                have f153 := (g110_9.other W142 (Or.inl ne3))
                have f154 := (g110_10.other W142 (Or.inl ne3))
                have f155 := (g110_11.other W142 (Or.inl ne3))
                have f156 := (g110_12.other W142 (Or.inl ne3))
                have f157 := (g110_13.other W142 (show (it : Nat) ≠ ct by omega))
                have f158 := (g110_14.other W142 (show (fr : Nat) ≠ ct by omega))
                have f159 := (g110_15.off W142 (show (ct : Nat) < mo ∨ mo + 65 < ct by omega))
                have f160 := (g110_16.off W142 (show (ct : Nat) < sl ∨ sl + 65 < ct by omega))
                have f161 := (g110_18.other W142 (Ne.symm ne11))
                have f162 := (g110_19.other W142 (Ne.symm ne26))
                have K163 : KpN n0 h0 h142 := (K110.wr W142 (show n0 ≤ ct by omega))
                exact ih34 ((bb + (1 : Int32))) (b + 1) (t2) (.val (.int ii)) (gd') (gp') _ _ _ X142 e142 N142 K163 f144 f145 f146 f147 f148 f149 f150 f151 f152 f153 f154 f155 f156 f157 f158 f159 f160 cv143 f161 f162 (by have q := own_i1 (x := bb) (by omega) (by omega); omega) (by omega) (by have q := own_tS (cn := cn) hf0 b; omega) hgp' (One.val rfl) (by omega)
          exact lp110 (6) ((0 : Int32)) (own_st nf b) (tk) (gd) (gp) _ _ _ X34 e34 N34 K34 g34_0 g34_1 g34_2 g34_3 g34_4 g34_5 g34_6 g34_7 g34_8 g34_9 g34_10 g34_11 g34_12 g34_13 g34_14 g34_15 g34_16 g34_17 g34_18 g34_19 hst hst2 (Nat.le_refl _) (by omega) hgp (by omega)
      · skip
        refine Goes.via (fun _ kk_ => XS.icmpYes X34.here hx rfl (pc0 := 25) (pc' := 107) rfl (hb hby d14_25) rfl (flt hc25).2.1 (by decide) (by decide) kk_) ?_
        show Goes p e below _ (T34.setTop (mkF m 107 #[vr q, .val (.long mt), .second, vr b5, vr b14, vi tk, vi bb, s7] []))
        have hb65 : b = 65 := by have q : ¬ _ := fun z => hc25 (own_lti.mpr z); have e : (65 : Int32).toInt = 65 := (by decide); omega
        subst hb65
        have htk2 : tk.toInt = (ns : Int) := by omega
        refine gALN X34 hx hby d14_107 rfl rfl ?_
        refine gIC (z := 0) X34 hx hby d14_108 rfl ?_
        obtain ⟨T164, h164, X164, e164, W164, st164⟩ := putF X34 hx hZ hown (host := "") (Or.inl (own_w hw 82 rfl)) Via.refl e34 g34_9 g34_0 (Or.inl (own_w hw 83 rfl)) (own_w hw 1 rfl) (ty := .int) (by decide) rfl rfl (g := (mkF m 109 #[vr q, .val (.long mt), .second, vr b5, vr b14, vi tk, vi bb, s7] [(.int (0 : Int32)), (.ref q)])) rfl rfl (hb hby d14_109)
        refine Goes.via st164 ?_
        have N164 := Fr.snoc X164 N34 H18
        have Fw164 : Fld Z h164 q "nearhop/sim/EventQueue" "first" "I" (.int (0 : Int32)) := g34_9.same W164
        show Goes p e below _ (T164.setTop (mkF m 112 #[vr q, .val (.long mt), .second, vr b5, vr b14, vi tk, vi bb, s7] []))
        refine gALN X164 hx hby d14_112 rfl rfl ?_
        refine Goes.via (fun _ kk_ => XS.lloadN X164.here hx rfl (hb hby d14_113) rfl  kk_) ?_
        show Goes p e below _ (T164.setTop (mkF m 114 #[vr q, .val (.long mt), .second, vr b5, vr b14, vi tk, vi bb, s7] [(.long mt), (.ref q)]))
        have f165 := (g34_10.other W164 (Or.inr (slot_ne (Or.inl (own_w hw 29 rfl)) (Or.inl (own_w hw 83 rfl)) (by decide) (t := .long) (t' := .int) (by decide) (by decide))))
        have f166 := (g34_0.wr W164)
        obtain ⟨T167, h167, X167, e167, W167, st167⟩ := putF X164 hx hZ hown (host := "") (Or.inl (own_w hw 28 rfl)) Via.refl e164 f165 f166 (Or.inl (own_w hw 29 rfl)) (own_w hw 1 rfl) (ty := .long) (by decide) rfl rfl (g := (mkF m 114 #[vr q, .val (.long mt), .second, vr b5, vr b14, vi tk, vi bb, s7] [(.long mt), (.ref q)])) rfl rfl (hb hby d14_114)
        refine Goes.via st167 ?_
        have N167 := Fr.snoc X167 N164 H18
        have Fw167 : Fld Z h167 q "nearhop/sim/EventQueue" "reference" "J" (.long mt) := f165.same W167
        show Goes p e below _ (T167.setTop (mkF m 117 #[vr q, .val (.long mt), .second, vr b5, vr b14, vi tk, vi bb, s7] []))
        refine gIC (z := 0) X167 hx hby d14_117 rfl ?_
        refine Goes.via (fun _ kk_ => XS.istore X167.here hx rfl (hb hby d14_118) rfl (l' := #[vr q, .val (.long mt), .second, vr b5, vr b14, vi tk, vi (0 : Int32), s7]) rfl kk_) ?_
        show Goes p e below _ (T167.setTop (mkF m 120 #[vr q, .val (.long mt), .second, vr b5, vr b14, vi tk, vi (0 : Int32), s7] []))
        have f169 := (f166.wr W167)
        have f170 := ((g34_1.other W164 (Or.inr (slot_ne (Or.inl (own_w hw 12 rfl)) (Or.inl (own_w hw 83 rfl)) (by decide) (t := (.array (.object "java/lang/Object"))) (t' := .int) (by decide) (by decide)))).other W167 (Or.inr (slot_ne (Or.inl (own_w hw 12 rfl)) (Or.inl (own_w hw 29 rfl)) (by decide) (t := (.array (.object "java/lang/Object"))) (t' := .long) (by decide) (by decide))))
        have f171 := ((g34_2.other W164 (Or.inr (slot_ne (Or.inl (own_w hw 15 rfl)) (Or.inl (own_w hw 83 rfl)) (by decide) (t := (.array .int)) (t' := .int) (by decide) (by decide)))).other W167 (Or.inr (slot_ne (Or.inl (own_w hw 15 rfl)) (Or.inl (own_w hw 29 rfl)) (by decide) (t := (.array .int)) (t' := .long) (by decide) (by decide))))
        have f172 := ((g34_3.other W164 (Or.inr (slot_ne (Or.inl (own_w hw 56 rfl)) (Or.inl (own_w hw 83 rfl)) (by decide) (t := .int) (t' := .int) (by decide) (by decide)))).other W167 (Or.inr (slot_ne (Or.inl (own_w hw 56 rfl)) (Or.inl (own_w hw 29 rfl)) (by decide) (t := .int) (t' := .long) (by decide) (by decide))))
        have f173 := ((g34_4.other W164 (Or.inr (slot_ne (Or.inl (own_w hw 58 rfl)) (Or.inl (own_w hw 83 rfl)) (by decide) (t := .int) (t' := .int) (by decide) (by decide)))).other W167 (Or.inr (slot_ne (Or.inl (own_w hw 58 rfl)) (Or.inl (own_w hw 29 rfl)) (by decide) (t := .int) (t' := .long) (by decide) (by decide))))
        have f174 := ((g34_5.other W164 (Or.inr (slot_ne (Or.inl (own_w hw 38 rfl)) (Or.inl (own_w hw 83 rfl)) (by decide) (t := .int) (t' := .int) (by decide) (by decide)))).other W167 (Or.inr (slot_ne (Or.inl (own_w hw 38 rfl)) (Or.inl (own_w hw 29 rfl)) (by decide) (t := .int) (t' := .long) (by decide) (by decide))))
        have f175 := ((g34_6.other W164 (Or.inr (slot_ne (Or.inr (own_w hw 20 rfl)) (Or.inl (own_w hw 83 rfl)) (by decide) (t := (.array (.array .long))) (t' := .int) (by decide) (by decide)))).other W167 (Or.inr (slot_ne (Or.inr (own_w hw 20 rfl)) (Or.inl (own_w hw 29 rfl)) (by decide) (t := (.array (.array .long))) (t' := .long) (by decide) (by decide))))
        have f176 := ((g34_7.other W164 (Or.inr (slot_ne (Or.inr (own_w hw 24 rfl)) (Or.inl (own_w hw 83 rfl)) (by decide) (t := (.array (.array .int))) (t' := .int) (by decide) (by decide)))).other W167 (Or.inr (slot_ne (Or.inr (own_w hw 24 rfl)) (Or.inl (own_w hw 29 rfl)) (by decide) (t := (.array (.array .int))) (t' := .long) (by decide) (by decide))))
        have f177 := ((g34_8.other W164 (Or.inr (slot_ne (Or.inr (own_w hw 26 rfl)) (Or.inl (own_w hw 83 rfl)) (by decide) (t := (.array .int)) (t' := .int) (by decide) (by decide)))).other W167 (Or.inr (slot_ne (Or.inr (own_w hw 26 rfl)) (Or.inl (own_w hw 29 rfl)) (by decide) (t := (.array .int)) (t' := .long) (by decide) (by decide))))
        have f178 := (Fw164.other W167 (Or.inr (slot_ne (Or.inl (own_w hw 83 rfl)) (Or.inl (own_w hw 29 rfl)) (by decide) (t := .int) (t' := .long) (by decide) (by decide))))
        have f179 := ((g34_11.other W164 (Or.inr (slot_ne (Or.inl (own_w hw 31 rfl)) (Or.inl (own_w hw 83 rfl)) (by decide) (t := .int) (t' := .int) (by decide) (by decide)))).other W167 (Or.inr (slot_ne (Or.inl (own_w hw 31 rfl)) (Or.inl (own_w hw 29 rfl)) (by decide) (t := .int) (t' := .long) (by decide) (by decide))))
        have f180 := ((g34_12.other W164 (Or.inr (slot_ne (Or.inl (own_w hw 89 rfl)) (Or.inl (own_w hw 83 rfl)) (by decide) (t := .long) (t' := .int) (by decide) (by decide)))).other W167 (Or.inr (slot_ne (Or.inl (own_w hw 89 rfl)) (Or.inl (own_w hw 29 rfl)) (by decide) (t := .long) (t' := .long) (by decide) (by decide))))
        have f181 := ((g34_13.other W164 (Ne.symm ne1)).other W167 (Ne.symm ne1))
        have f182 := ((g34_14.other W164 (Ne.symm ne2)).other W167 (Ne.symm ne2))
        have f183 := ((g34_15.off W164 (show (q : Nat) < mo ∨ mo + 65 < q by omega)).off W167 (show (q : Nat) < mo ∨ mo + 65 < q by omega))
        have f184 := ((g34_16.off W164 (show (q : Nat) < sl ∨ sl + 65 < q by omega)).off W167 (show (q : Nat) < sl ∨ sl + 65 < q by omega))
        have f185 := ((g34_17.other W164 (Ne.symm ne3)).other W167 (Ne.symm ne3))
        have f186 := ((g34_18.other W164 (Ne.symm ne6)).other W167 (Ne.symm ne6))
        have f187 := ((g34_19.other W164 (Ne.symm ne16)).other W167 (Ne.symm ne16))
        have K188 : KpN n0 h0 h167 := ((K34.wr W164 H18).wr W167 H18)
        have lp168 : ∀ (fu168 : Nat) (ii : Int32) (i : Nat) (cv : Nat → Nat) (gv : Nat → Nat → Int64) (gw : Nat → Nat → Int32) (T168 : State) (lc168 : List Loc) (H168 : Heap), (Stand p l e ({ frames := 3, cells := 2, slots := 10, locals := 44 } : Room) s m #[(.ref q), (.long mt)] below meth c T168 lc168 2 10) → (T168.heap = H168) → (Fr n0 lc168) → (KpN n0 h0 H168) → (Exa Z H168 q "nearhop/sim/EventQueue") → (Fld Z H168 q "nearhop/sim/EventQueue" "items" "[Ljava/lang/Object;" (.ref it)) → (Fld Z H168 q "nearhop/sim/EventQueue" "free" "[I" (.ref fr)) → (Fld Z H168 q "nearhop/sim/EventQueue" "freeSlots" "I" (.int fs)) → (Fld Z H168 q "nearhop/sim/EventQueue" "used" "I" (.int us)) → (Fld Z H168 q "nearhop/sim/EventQueue" "size" "I" (.int sz)) → (Fld Z H168 q "nearhop/sim/EventQueue" "moments" "[[J" (.ref mo)) → (Fld Z H168 q "nearhop/sim/EventQueue" "slots" "[[I" (.ref sl)) → (Fld Z H168 q "nearhop/sim/EventQueue" "counts" "[I" (.ref ct)) → (Fld Z H168 q "nearhop/sim/EventQueue" "first" "I" (.int (0 : Int32))) → (Fld Z H168 q "nearhop/sim/EventQueue" "reference" "J" (.long mt)) → (Fld Z H168 q "nearhop/sim/EventQueue" "soonestBucket" "I" (.int sb)) → (Fld Z H168 q "nearhop/sim/EventQueue" "soonest" "J" (.long so)) → (Arw Z H168 it kI (.object "java/lang/Object") 64 fI) → (Arw Z H168 fr kF .int 64 (fun i => .int (fF i))) → (Grv Z H168 mo kM kN .long 65 64 (fun u v => .long (gv u v))) → (Grv Z H168 sl kS kU .int 65 64 (fun u v => .int (gw u v))) → (Arw Z H168 ct kC .int 65 (fun i => .int (Int32.ofNat (cv i)))) → (Arw Z H168 b5 k5 .long ns (fun i => .long (gd i))) → (Arw Z H168 b14 k14 .int ns (fun i => .int (gp i))) → (ii.toInt = (i : Int)) → (i ≤ ns) → (own_sum cv 65 = i) → (own_R2 gw) → (ns < i + fu168) → Goes p e below (Fin_ s (QrmDa Z q mt it fr mo sl ct kI kF kM kN kS kU kC fs us sz fi rf sb so fI fF gM gS cn K h0 n0) ({ frames := 3, cells := 2, slots := 10, locals := 44 } : Room).cells ({ frames := 3, cells := 2, slots := 10, locals := 44 } : Room).slots) (T168.setTop (mkF m 120 #[vr q, .val (.long mt), .second, vr b5, vr b14, vi tk, vi ii, s7] [])) := by
          intro fu168
          induction fu168 with
          | zero =>
            intro ii i cv gv gw T168 lc168 H168 X168 e168 N168 K168 g168_0 g168_1 g168_2 g168_3 g168_4 g168_5 g168_6 g168_7 g168_8 g168_9 g168_10 g168_11 g168_12 g168_13 g168_14 g168_15 g168_16 g168_17 g168_18 g168_19 hii hin hsm hgw hfw
            omega
          | succ fu168 ih168 =>
            intro ii i cv gv gw T168 lc168 H168 X168 e168 N168 K168 g168_0 g168_1 g168_2 g168_3 g168_4 g168_5 g168_6 g168_7 g168_8 g168_9 g168_10 g168_11 g168_12 g168_13 g168_14 g168_15 g168_16 g168_17 g168_18 g168_19 hii hin hsm hgw hfw
            refine gIL X168 hx hby d14_120 rfl ?_
            refine gIL X168 hx hby d14_122 rfl ?_
            by_cases hc124 : ii < tk
            · skip
              refine Goes.via (fun _ kk_ => XS.icmpNo X168.here hx rfl (hb hby d14_124) rfl (tlt hc124).2.1 kk_) ?_
              show Goes p e below _ (T168.setTop (mkF m 127 #[vr q, .val (.long mt), .second, vr b5, vr b14, vi tk, vi ii, s7] []))
              have hlt : i < ns := by have q := own_lti.mp hc124; omega
              refine gALN X168 hx hby d14_127 rfl rfl ?_
              refine gALN X168 hx hby d14_128 rfl rfl ?_
              refine gALN X168 hx hby d14_129 rfl rfl ?_
              refine gIL X168 hx hby d14_130 rfl ?_
              refine Goes.via (own_laload X168 hx hZ e168 g168_18 (j := ii) (i := i) (own_ix hii).1 (own_ix hii).2 hlt (v := (gd i)) rfl (g := (mkF m 132 #[vr q, .val (.long mt), .second, vr b5, vr b14, vi tk, vi ii, s7] [(.int ii), (.ref b5), (.ref q), (.ref q)])) rfl rfl (hb hby d14_132)) ?_
              show Goes p e below _ (T168.setTop (mkF m 133 #[vr q, .val (.long mt), .second, vr b5, vr b14, vi tk, vi ii, s7] [(.long (gd i)), (.ref q), (.ref q)]))
              obtain ⟨cq189, q189, q189'⟩ := g168_0.cell
              obtain ⟨_, _, ⟨T189, L189, k189, n189⟩, -, X189, ⟨Lc189, hQ189, l189, y189, z189⟩, st189⟩ := X168.privateBack hx (y := mN_EventQueue_bucketOf) hown (mvT hZ (own_w hw 60 rfl)) (mvT hZ (own_w hw 61 rfl)) (mvT hZ (own_selP (y := mN_EventQueue_bucketOf) (own_w hw 1 rfl) (own_w hw 62 rfl) (own_w hw 61 rfl) (by decide))) (Cond.privateMethod_at (mvP hZ (own_w hw 62 rfl) (args := #[]))) (mvT hZ (own_w hw 63 rfl)) (by decide) (backOf (W := 1) (rmBk l Z a0 hw [] q (gd i) mt H168 n0 (Nat.le_trans Z0 (KpN.size K168)) g168_10) hZ (own_w hw 63 rfl) (own_w hw 2 rfl) (by decide) (by decide)) (g := (mkF m 133 #[vr q, .val (.long mt), .second, vr b5, vr b14, vi tk, vi ii, s7] [(.long (gd i)), (.ref q), (.ref q)])) rfl (by rw [hml]; rfl) (Steps.refl _) (a := q) (by rw [e168]; exact q189) q189' (argsL := [(.long (gd i))]) (rest := [(.ref q)]) (lenOf pd_1 rfl) rfl (by show 2 * 0 + _ ≤ _; exact Nat.le_of_eq rfl) (hb hby d14_133) (fun _ _ => ⟨rfl, e168, (by decide : 2 + 0 ≤ _), (by decide : 10 + 0 ≤ _)⟩)
              dsimp only [Pt.U, Pt.locs, Pt.cells, Pt.slots] at X189 l189 y189 z189 st189 hQ189
              replace l189 := l189.symm
              subst l189 y189 z189
              obtain ⟨rfl, rfl, e189⟩ := hQ189
              first | rw [List.append_nil] at X189 | skip
              refine Goes.tr st189 ?_
              have e189' : T189.heap = H168 := e189
              show Goes p e below _ (T189.setTop (mkF m 136 #[vr q, .val (.long mt), .second, vr b5, vr b14, vi tk, vi ii, s7] [(.int ((64 : Int32) - (own_nlzL ((gd i) ^^^ mt)))), (.ref q)]))
              obtain ⟨nc, hnc, hnc65, hnc0⟩ := own_bkt ((gd i) ^^^ mt)
              have hcv : cv nc < 64 := by have q := own_sumL cv hnc65; omega
              refine gALN X189 hx hby d14_136 rfl rfl ?_
              refine gIL X189 hx hby d14_137 rfl ?_
              refine Goes.via (own_laload X189 hx hZ e189' g168_18 (j := ii) (i := i) (own_ix hii).1 (own_ix hii).2 hlt (v := (gd i)) rfl (g := (mkF m 139 #[vr q, .val (.long mt), .second, vr b5, vr b14, vi tk, vi ii, s7] [(.int ii), (.ref b5), (.int ((64 : Int32) - (own_nlzL ((gd i) ^^^ mt)))), (.ref q)])) rfl rfl (hb hby d14_139)) ?_
              show Goes p e below _ (T189.setTop (mkF m 140 #[vr q, .val (.long mt), .second, vr b5, vr b14, vi tk, vi ii, s7] [(.long (gd i)), (.int ((64 : Int32) - (own_nlzL ((gd i) ^^^ mt)))), (.ref q)]))
              refine gAL X189 hx hby d14_140 rfl rfl ?_
              refine gIL X189 hx hby d14_142 rfl ?_
              refine Goes.via (own_iaload X189 hx hZ e189' g168_19 (j := ii) (i := i) (own_ix hii).1 (own_ix hii).2 hlt (v := (gp i)) rfl (g := (mkF m 144 #[vr q, .val (.long mt), .second, vr b5, vr b14, vi tk, vi ii, s7] [(.int ii), (.ref b14), (.long (gd i)), (.int ((64 : Int32) - (own_nlzL ((gd i) ^^^ mt)))), (.ref q)])) rfl rfl (hb hby d14_144)) ?_
              show Goes p e below _ (T189.setTop (mkF m 145 #[vr q, .val (.long mt), .second, vr b5, vr b14, vi tk, vi ii, s7] [(.int (gp i)), (.long (gd i)), (.int ((64 : Int32) - (own_nlzL ((gd i) ^^^ mt)))), (.ref q)]))
              obtain ⟨cq190, q190, q190'⟩ := g168_0.cell
              obtain ⟨_, _, ⟨T190, L190, k190, n190⟩, -, X190, ⟨Lc190, hQ190, l190, y190, z190⟩, st190⟩ := X189.privateBack hx (y := mN_EventQueue_append) hown (mvT hZ (own_w hw 71 rfl)) (mvT hZ (own_w hw 72 rfl)) (mvT hZ (own_selP (y := mN_EventQueue_append) (own_w hw 1 rfl) (own_w hw 73 rfl) (own_w hw 72 rfl) (by decide))) (Cond.privateMethod_at (mvP hZ (own_w hw 73 rfl) (args := #[]))) (mvT hZ (own_w hw 74 rfl)) (by decide) (backOf (W := 0) (rmAp l Z a0 hw [] q ((64 : Int32) - (own_nlzL ((gd i) ^^^ mt))) (gd i) (gp i) mo sl ct kM kN kS kU kC gv gw cv nc H168 n0 (Nat.le_trans Z0 (KpN.size K168)) g168_6 g168_7 g168_8 g168_15 g168_16 g168_17 (show n0 ≤ mo by omega) (by first | assumption | rfl | decide | omega | (simp; done)) HLd HLe hnc hnc65 hcv) hZ (own_w hw 74 rfl) (own_w hw 2 rfl) (by decide) (by decide)) (g := (mkF m 145 #[vr q, .val (.long mt), .second, vr b5, vr b14, vi tk, vi ii, s7] [(.int (gp i)), (.long (gd i)), (.int ((64 : Int32) - (own_nlzL ((gd i) ^^^ mt)))), (.ref q)])) rfl (by rw [hml]; rfl) (Steps.refl _) (a := q) (by rw [e189']; exact q190) q190' (argsL := [(.int ((64 : Int32) - (own_nlzL ((gd i) ^^^ mt)))), (.long (gd i)), (.int (gp i))]) (rest := []) (lenOf pd_3 rfl) rfl (by show 2 * 0 + _ ≤ _; exact Nat.le_of_eq rfl) (hb hby d14_145) (fun _ _ => ⟨rfl, e189', (by decide : 2 + 0 ≤ _), (by decide : 10 + 0 ≤ _)⟩)
              dsimp only [Pt.U, Pt.locs, Pt.cells, Pt.slots] at X190 l190 y190 z190 st190 hQ190
              replace l190 := l190.symm
              subst l190 y190 z190
              obtain ⟨rfl, N190q, K190, u190_0, u190_1, u190_2⟩ := hQ190
              have N190 := Fr.app N168 N190q
              refine Goes.tr st190 ?_
              show Goes p e below _ (T190.setTop (mkF m 148 #[vr q, .val (.long mt), .second, vr b5, vr b14, vi tk, vi ii, s7] []))
              refine Goes.via (fun _ kk_ => XS.iinc X190.here hx rfl (hb hby d14_148) rfl (l' := #[vr q, .val (.long mt), .second, vr b5, vr b14, vi tk, vi (ii + (1 : Int32)), s7]) rfl kk_) ?_
              show Goes p e below _ (T190.setTop (mkF m 151 #[vr q, .val (.long mt), .second, vr b5, vr b14, vi tk, vi (ii + (1 : Int32)), s7] []))
              refine Goes.via (fun _ kk_ => XS.goto X190.here hx rfl (pc0 := 151) (pc' := 120) rfl (hb hby d14_151) (by decide) (by decide) kk_) ?_
              show Goes p e below _ (T190.setTop (mkF m 120 #[vr q, .val (.long mt), .second, vr b5, vr b14, vi tk, vi (ii + (1 : Int32)), s7] []))
              have f191 := (g168_0.keep K190)
              have f192 := (g168_1.keep K190 (ninS ne3 (ninS (show (q : Nat) ≠ (mo + 1 + nc) by omega) (ninS (show (q : Nat) ≠ (sl + 1 + nc) by omega) nin0))))
              have f193 := (g168_2.keep K190 (ninS ne3 (ninS (show (q : Nat) ≠ (mo + 1 + nc) by omega) (ninS (show (q : Nat) ≠ (sl + 1 + nc) by omega) nin0))))
              have f194 := (g168_3.keep K190 (ninS ne3 (ninS (show (q : Nat) ≠ (mo + 1 + nc) by omega) (ninS (show (q : Nat) ≠ (sl + 1 + nc) by omega) nin0))))
              have f195 := (g168_4.keep K190 (ninS ne3 (ninS (show (q : Nat) ≠ (mo + 1 + nc) by omega) (ninS (show (q : Nat) ≠ (sl + 1 + nc) by omega) nin0))))
              have f196 := (g168_5.keep K190 (ninS ne3 (ninS (show (q : Nat) ≠ (mo + 1 + nc) by omega) (ninS (show (q : Nat) ≠ (sl + 1 + nc) by omega) nin0))))
              have f197 := (g168_6.keep K190 (ninS ne3 (ninS (show (q : Nat) ≠ (mo + 1 + nc) by omega) (ninS (show (q : Nat) ≠ (sl + 1 + nc) by omega) nin0))))
              have f198 := (g168_7.keep K190 (ninS ne3 (ninS (show (q : Nat) ≠ (mo + 1 + nc) by omega) (ninS (show (q : Nat) ≠ (sl + 1 + nc) by omega) nin0))))
              have f199 := (g168_8.keep K190 (ninS ne3 (ninS (show (q : Nat) ≠ (mo + 1 + nc) by omega) (ninS (show (q : Nat) ≠ (sl + 1 + nc) by omega) nin0))))
              have f200 := (g168_9.keep K190 (ninS ne3 (ninS (show (q : Nat) ≠ (mo + 1 + nc) by omega) (ninS (show (q : Nat) ≠ (sl + 1 + nc) by omega) nin0))))
              have f201 := (g168_10.keep K190 (ninS ne3 (ninS (show (q : Nat) ≠ (mo + 1 + nc) by omega) (ninS (show (q : Nat) ≠ (sl + 1 + nc) by omega) nin0))))
              have f202 := (g168_11.keep K190 (ninS ne3 (ninS (show (q : Nat) ≠ (mo + 1 + nc) by omega) (ninS (show (q : Nat) ≠ (sl + 1 + nc) by omega) nin0))))
              have f203 := (g168_12.keep K190 (ninS ne3 (ninS (show (q : Nat) ≠ (mo + 1 + nc) by omega) (ninS (show (q : Nat) ≠ (sl + 1 + nc) by omega) nin0))))
              have f204 := (g168_13.keep K190 (ninS (show (it : Nat) ≠ ct by omega) (ninS (show (it : Nat) ≠ (mo + 1 + nc) by omega) (ninS (show (it : Nat) ≠ (sl + 1 + nc) by omega) nin0))))
              have f205 := (g168_14.keep K190 (ninS (show (fr : Nat) ≠ ct by omega) (ninS (show (fr : Nat) ≠ (mo + 1 + nc) by omega) (ninS (show (fr : Nat) ≠ (sl + 1 + nc) by omega) nin0))))
              have f206 := (g168_18.keep K190 (ninS (Ne.symm ne11) (ninS (show (b5 : Nat) ≠ (mo + 1 + nc) by omega) (ninS (show (b5 : Nat) ≠ (sl + 1 + nc) by omega) nin0))))
              have f207 := (g168_19.keep K190 (ninS (Ne.symm ne26) (ninS (show (b14 : Nat) ≠ (mo + 1 + nc) by omega) (ninS (show (b14 : Nat) ≠ (sl + 1 + nc) by omega) nin0))))
              have K208 : KpN n0 h0 T190.heap := (K168.call K190 (allS (show n0 ≤ ct by omega) (allS (show n0 ≤ (mo + 1 + nc) by omega) (allS (show n0 ≤ (sl + 1 + nc) by omega) all0))))
              exact ih168 ((ii + (1 : Int32))) (i + 1) (own_cu cv nc (cv nc + 1)) (own_gu gv nc (cv nc) (gd i)) (own_gu gw nc (cv nc) (gp i)) _ _ _ X190 rfl N190 K208 f191 f192 f193 f194 f195 f196 f197 f198 f199 f200 f201 f202 f203 f204 f205 u190_0 u190_1 u190_2 f206 f207 (by have q := own_i1 (x := ii) (by omega) (by omega); omega) (by omega) (by have q := own_sumU cv nc (cv nc + 1) 65 hnc65; omega) (own_R2u hgw (hgp i)) (by omega)
            · skip
              refine Goes.via (fun _ kk_ => XS.icmpYes X168.here hx rfl (pc0 := 124) (pc' := 154) rfl (hb hby d14_124) rfl (flt hc124).2.1 (by decide) (by decide) kk_) ?_
              show Goes p e below _ (T168.setTop (mkF m 154 #[vr q, .val (.long mt), .second, vr b5, vr b14, vi tk, vi ii, s7] []))
              have hge : i = ns := by have q : ¬ _ := fun z => hc124 (own_lti.mpr z); omega
              exact own_finV X168 hx hlk hret (hb hby d14_154) (by rw [e168]; exact ⟨cv, gv, gw, rfl, N168, K168, g168_0, g168_1, g168_2, g168_3, g168_4, g168_5, g168_6, g168_7, g168_8, g168_9, g168_10, g168_11, g168_12, g168_13, g168_14, g168_15, g168_16, g168_17, (by omega), hgw⟩) (by first | decide | omega | (dsimp only; omega)) (by first | decide | omega | (dsimp only; omega))
        exact lp168 (6) ((0 : Int32)) (0) (own_cz cn 65) (gM) (gS) _ _ _ X167 e167 N167 K188 f169 f170 f171 f172 f173 f174 f175 f176 f177 f178 Fw167 f179 f180 f181 f182 f183 f184 f185 f186 f187 (by decide) (by omega) (own_czz cn) b1 (by omega)
  exact lp34 (66) ((0 : Int32)) (0) ((0 : Int32)) (.unset) (fun _ => (0 : Int64)) (fun _ => (0 : Int32)) _ _ _ X14 e14 N0 K52 f35 f36 f37 f38 f39 f40 f41 f42 f43 f44 f45 f46 f47 f48 f49 f50 f51 cv30 cv32 cv33 (by decide) (by decide) (by rw [own_t0]; rfl) (fun _ => (by decide : 0 ≤ (0 : Int32).toInt ∧ (0 : Int32).toInt < 64)) One.u (by omega)
theorem ef_rmAdd (m : MethodId) (q : Addr) (mt : Int64) (io : Addr) : entryFrame m #[(.ref q), (.long mt), (.ref io)] 5 = mkF m 0 #[.val (.ref q), .val (.long mt), .second, .val (.ref io), .unset] [] := by first | (simp [entryFrame, mkF, argsToLocals, Value.category]; done) | rfl
def QrmAdd (Z : State) (q : Nat) (mt : Int64) (io : Addr) (it : Nat) (fr : Nat) (mo : Nat) (sl : Nat) (ct : Nat) (kI : ClassId) (kF : ClassId) (kM : ClassId) (kN : ClassId) (kS : ClassId) (kU : ClassId) (kC : ClassId) (fs : Int32) (us : Int32) (sz : Int32) (fi : Int32) (rf : Int64) (so : Int64) (fI : Nat → Value) (fF : Nat → Int32) (gM : Nat → Nat → Int64) (gS : Nat → Nat → Int32) (cn : Nat → Nat) (K : Nat) (h0 : Heap) (n0 : Nat) (v_ : Option Value) (h_ : Heap) (L_ : List Loc) : Prop := ∃ fs' : Int32, ∃ us' : Int32, ∃ fi' : Int32, ∃ rf' : Int64, ∃ fI' : Nat → Value, ∃ gM' : Nat → Nat → Int64, ∃ gS' : Nat → Nat → Int32, ∃ cn' : Nat → Nat, v_ = none ∧ Fr n0 L_ ∧ KpN n0 h0 h_ ∧ Exa Z h_ q "nearhop/sim/EventQueue" ∧ Fld Z h_ q "nearhop/sim/EventQueue" "items" "[Ljava/lang/Object;" (.ref it) ∧ Fld Z h_ q "nearhop/sim/EventQueue" "free" "[I" (.ref fr) ∧ Fld Z h_ q "nearhop/sim/EventQueue" "freeSlots" "I" (.int fs') ∧ Fld Z h_ q "nearhop/sim/EventQueue" "used" "I" (.int us') ∧ Fld Z h_ q "nearhop/sim/EventQueue" "size" "I" (.int (sz + (1 : Int32))) ∧ Fld Z h_ q "nearhop/sim/EventQueue" "moments" "[[J" (.ref mo) ∧ Fld Z h_ q "nearhop/sim/EventQueue" "slots" "[[I" (.ref sl) ∧ Fld Z h_ q "nearhop/sim/EventQueue" "counts" "[I" (.ref ct) ∧ Fld Z h_ q "nearhop/sim/EventQueue" "first" "I" (.int fi') ∧ Fld Z h_ q "nearhop/sim/EventQueue" "reference" "J" (.long rf') ∧ Fld Z h_ q "nearhop/sim/EventQueue" "soonestBucket" "I" (.int (-1 : Int32)) ∧ Fld Z h_ q "nearhop/sim/EventQueue" "soonest" "J" (.long so) ∧ Arw Z h_ it kI (.object "java/lang/Object") 64 fI' ∧ Arw Z h_ fr kF .int 64 (fun i => .int (fF i)) ∧ Grv Z h_ mo kM kN .long 65 64 (fun u v => .long (gM' u v)) ∧ Grv Z h_ sl kS kU .int 65 64 (fun u v => .int (gS' u v)) ∧ Arw Z h_ ct kC .int 65 (fun i => .int (Int32.ofNat (cn' i))) ∧ own_I (K + 1) (sz + (1 : Int32)) fi' fs' us' cn' gS' fF
theorem d6_0 : decode prog_155_method_4_code 0 = .ok (.aload_n 0, 1) := by decide +kernel
theorem d6_1 : decode prog_155_method_4_code 1 = .ok (.iconst (-1), 1) := by decide +kernel
theorem d6_2 : decode prog_155_method_4_code 2 = .ok (.putfield 38, 3) := by decide +kernel
theorem d6_5 : decode prog_155_method_4_code 5 = .ok (.lload_n 1, 1) := by decide +kernel
theorem d6_6 : decode prog_155_method_4_code 6 = .ok (.aload_n 0, 1) := by decide +kernel
theorem d6_7 : decode prog_155_method_4_code 7 = .ok (.getfield 34, 3) := by decide +kernel
theorem d6_10 : decode prog_155_method_4_code 10 = .ok (.lcmp, 1) := by decide +kernel
theorem d6_11 : decode prog_155_method_4_code 11 = .ok (.ifCond .ge 8, 3) := by decide +kernel
theorem d6_14 : decode prog_155_method_4_code 14 = .ok (.aload_n 0, 1) := by decide +kernel
theorem d6_15 : decode prog_155_method_4_code 15 = .ok (.lload_n 1, 1) := by decide +kernel
theorem pd_4 : parseMethodDescriptor "(J)V" = some ⟨[.long], none⟩ := by decide +kernel
theorem d6_16 : decode prog_155_method_4_code 16 = .ok (.invokevirtual 61, 3) := by decide +kernel
abbrev mN_EventQueue_dealAllAround : MethodName := ⟨"nearhop/sim/EventQueue", "dealAllAround", "(J)V"⟩
theorem d6_19 : decode prog_155_method_4_code 19 = .ok (.aload_n 0, 1) := by decide +kernel
theorem d6_20 : decode prog_155_method_4_code 20 = .ok (.getfield 65, 3) := by decide +kernel
theorem d6_23 : decode prog_155_method_4_code 23 = .ok (.ifCond .le 24, 3) := by decide +kernel
theorem d6_26 : decode prog_155_method_4_code 26 = .ok (.aload_n 0, 1) := by decide +kernel
theorem d6_27 : decode prog_155_method_4_code 27 = .ok (.getfield 15, 3) := by decide +kernel
theorem d6_30 : decode prog_155_method_4_code 30 = .ok (.aload_n 0, 1) := by decide +kernel
theorem d6_31 : decode prog_155_method_4_code 31 = .ok (.dup, 1) := by decide +kernel
theorem d6_32 : decode prog_155_method_4_code 32 = .ok (.getfield 65, 3) := by decide +kernel
theorem d6_35 : decode prog_155_method_4_code 35 = .ok (.iconst 1, 1) := by decide +kernel
theorem d6_36 : decode prog_155_method_4_code 36 = .ok (.isub, 1) := by decide +kernel
theorem d6_37 : decode prog_155_method_4_code 37 = .ok (.dup_x1, 1) := by decide +kernel
theorem d6_38 : decode prog_155_method_4_code 38 = .ok (.putfield 65, 3) := by decide +kernel
theorem d6_41 : decode prog_155_method_4_code 41 = .ok (.iaload, 1) := by decide +kernel
theorem d6_42 : decode prog_155_method_4_code 42 = .ok (.istore 4, 2) := by decide +kernel
theorem d6_44 : decode prog_155_method_4_code 44 = .ok (.goto 62, 3) := by decide +kernel
theorem d6_106 : decode prog_155_method_4_code 106 = .ok (.aload_n 0, 1) := by decide +kernel
theorem d6_107 : decode prog_155_method_4_code 107 = .ok (.getfield 11, 3) := by decide +kernel
theorem d6_110 : decode prog_155_method_4_code 110 = .ok (.iload 4, 2) := by decide +kernel
theorem d6_112 : decode prog_155_method_4_code 112 = .ok (.aload_n 3, 1) := by decide +kernel
theorem d6_113 : decode prog_155_method_4_code 113 = .ok (.aastore, 1) := by decide +kernel
theorem d6_114 : decode prog_155_method_4_code 114 = .ok (.aload_n 0, 1) := by decide +kernel
theorem d6_115 : decode prog_155_method_4_code 115 = .ok (.aload_n 0, 1) := by decide +kernel
theorem d6_116 : decode prog_155_method_4_code 116 = .ok (.lload_n 1, 1) := by decide +kernel
theorem d6_117 : decode prog_155_method_4_code 117 = .ok (.invokevirtual 80, 3) := by decide +kernel
theorem d6_120 : decode prog_155_method_4_code 120 = .ok (.lload_n 1, 1) := by decide +kernel
theorem d6_121 : decode prog_155_method_4_code 121 = .ok (.iload 4, 2) := by decide +kernel
theorem d6_123 : decode prog_155_method_4_code 123 = .ok (.invokevirtual 84, 3) := by decide +kernel
theorem d6_126 : decode prog_155_method_4_code 126 = .ok (.aload_n 0, 1) := by decide +kernel
theorem d6_127 : decode prog_155_method_4_code 127 = .ok (.dup, 1) := by decide +kernel
theorem d6_128 : decode prog_155_method_4_code 128 = .ok (.getfield 42, 3) := by decide +kernel
theorem d6_131 : decode prog_155_method_4_code 131 = .ok (.iconst 1, 1) := by decide +kernel
theorem d6_132 : decode prog_155_method_4_code 132 = .ok (.iadd, 1) := by decide +kernel
theorem d6_133 : decode prog_155_method_4_code 133 = .ok (.putfield 42, 3) := by decide +kernel
theorem d6_136 : decode prog_155_method_4_code 136 = .ok (.return_, 1) := by decide +kernel
theorem d6_47 : decode prog_155_method_4_code 47 = .ok (.aload_n 0, 1) := by decide +kernel
theorem d6_48 : decode prog_155_method_4_code 48 = .ok (.getfield 68, 3) := by decide +kernel
theorem d6_51 : decode prog_155_method_4_code 51 = .ok (.aload_n 0, 1) := by decide +kernel
theorem d6_52 : decode prog_155_method_4_code 52 = .ok (.getfield 11, 3) := by decide +kernel
theorem d6_55 : decode prog_155_method_4_code 55 = .ok (.arraylength, 1) := by decide +kernel
theorem d6_56 : decode prog_155_method_4_code 56 = .ok (.if_icmp .ne 37, 3) := by decide +kernel
theorem d6_93 : decode prog_155_method_4_code 93 = .ok (.aload_n 0, 1) := by decide +kernel
theorem d6_94 : decode prog_155_method_4_code 94 = .ok (.dup, 1) := by decide +kernel
theorem d6_95 : decode prog_155_method_4_code 95 = .ok (.getfield 68, 3) := by decide +kernel
theorem d6_98 : decode prog_155_method_4_code 98 = .ok (.dup_x1, 1) := by decide +kernel
theorem d6_99 : decode prog_155_method_4_code 99 = .ok (.iconst 1, 1) := by decide +kernel
theorem d6_100 : decode prog_155_method_4_code 100 = .ok (.iadd, 1) := by decide +kernel
theorem d6_101 : decode prog_155_method_4_code 101 = .ok (.putfield 68, 3) := by decide +kernel
theorem d6_104 : decode prog_155_method_4_code 104 = .ok (.istore 4, 2) := by decide +kernel
set_option maxRecDepth 65536 in
set_option maxHeartbeats 40000000 in
theorem rmAdd (l : Launch) (Z : State) (a0 : Array Value) (hw : ∀ d ∈ tables_1, d.before a0 Z = true) (ws : List Jvm.Cond) (q : Nat) (mt : Int64) (io : Addr) (it : Nat) (fr : Nat) (mo : Nat) (sl : Nat) (ct : Nat) (kI : ClassId) (kF : ClassId) (kM : ClassId) (kN : ClassId) (kS : ClassId) (kU : ClassId) (kC : ClassId) (fs : Int32) (us : Int32) (sz : Int32) (fi : Int32) (rf : Int64) (so : Int64) (fI : Nat → Value) (fF : Nat → Int32) (gM : Nat → Nat → Int64) (gS : Nat → Nat → Int32) (cn : Nat → Nat) (K : Nat) (h0 : Heap) (n0 : Nat) (Z0 : n0 ≤ h0.size) (E0_q : Exa Z h0 q "nearhop/sim/EventQueue") (F1_q_items : Fld Z h0 q "nearhop/sim/EventQueue" "items" "[Ljava/lang/Object;" (.ref it)) (F2_q_free : Fld Z h0 q "nearhop/sim/EventQueue" "free" "[I" (.ref fr)) (F3_q_freeSlots : Fld Z h0 q "nearhop/sim/EventQueue" "freeSlots" "I" (.int fs)) (F4_q_used : Fld Z h0 q "nearhop/sim/EventQueue" "used" "I" (.int us)) (F5_q_size : Fld Z h0 q "nearhop/sim/EventQueue" "size" "I" (.int sz)) (F6_q_moments : Fld Z h0 q "nearhop/sim/EventQueue" "moments" "[[J" (.ref mo)) (F7_q_slots : Fld Z h0 q "nearhop/sim/EventQueue" "slots" "[[I" (.ref sl)) (F8_q_counts : Fld Z h0 q "nearhop/sim/EventQueue" "counts" "[I" (.ref ct)) (F9_q_first : Fld Z h0 q "nearhop/sim/EventQueue" "first" "I" (.int fi)) (F10_q_reference : Fld Z h0 q "nearhop/sim/EventQueue" "reference" "J" (.long rf)) (F11_q_soonestBucket : Fld Z h0 q "nearhop/sim/EventQueue" "soonestBucket" "I" (.int (-1 : Int32))) (F12_q_soonest : Fld Z h0 q "nearhop/sim/EventQueue" "soonest" "J" (.long so)) (A13_it : Arw Z h0 it kI (.object "java/lang/Object") 64 fI) (A14_fr : Arw Z h0 fr kF .int 64 (fun i => .int (fF i))) (A15_mo : Grv Z h0 mo kM kN .long 65 64 (fun u v => .long (gM u v))) (A16_sl : Grv Z h0 sl kS kU .int 65 64 (fun u v => .int (gS u v))) (A17_ct : Arw Z h0 ct kC .int 65 (fun i => .int (Int32.ofNat (cn i)))) (H18 : n0 ≤ q) (HLa : q < it) (HLb : it < fr) (HLc : fr < mo) (HLd : mo + 66 ≤ sl) (HLe : sl + 66 ≤ ct) (OVr : Ovr Z kI "java/lang/Object") (HI : own_I K sz fi fs us cn gS fF) (HK : K ≤ 4) (E27_io : Exa Z h0 io "java/lang/Integer") :
    MetFree l (⟨"nearhop/sim/EventQueue", "add", "(JLjava/lang/Object;)V"⟩ : MethodName) (head1 (Jvm.Cond.code (⟨"nearhop/sim/EventQueue", "add", "(JLjava/lang/Object;)V"⟩ : MethodName) prog_155_method_4_code 5 none :: ws) ({ frames := 4, cells := 2, slots := 10, locals := 63 } : Room)) (fun as_ U_ => as_ = #[(.ref q), (.long mt), (.ref io)] ∧ Z.Warmed39 U_.vm ∧ U_.heap = h0) (fun _ _ _ _ _ => True) (fun _ U_ o_ V_ => ∃ v_ L_, o_ = .returned v_ ∧ QrmAdd Z q mt io it fr mo sl ct kI kF kM kN kS kU kC fs us sz fi rf so fI fF gM gS cn K h0 n0 v_ V_.heap L_ ∧ FrameEnd U_ o_ V_ L_ ({ frames := 4, cells := 2, slots := 10, locals := 63 } : Room).cells ({ frames := 4, cells := 2, slots := 10, locals := 63 } : Room).slots) := by
  refine MetFree.of_bodySF (plainFor_of_name pn_nearhop_sim_EventQueue) hisR ?_
  intro p e s m args below meth c s₁ Bd hml0 hP hK
  obtain ⟨rfl, hZ, hh⟩ := hP
  have hx := Bd.exec
  have hby := Bd.bytes
  have hlk : meth.locks = false := BodyLoose.notSynchronized Bd
  have hret := Bd.returns
  have hml : c.maxLocals = 5 := hml0
  have hown : s.vm.findClass "nearhop/sim/EventQueue" = some m.cls := findClass_of_methodNamed Bd.named
  have hnm := (name_of_methodNamed Bd.named Bd.method).1
  have X0 : Stand p l e ({ frames := 4, cells := 2, slots := 10, locals := 63 } : Room) s m #[(.ref q), (.long mt), (.ref io)] below meth c s₁ [] 0 0 := Stand.of_body Bd
  have e0 : s₁.heap = h0 := by rw [← hh, Bd.state]; rfl
  have N0 := Fr.nil n0
  show Goes p e below (Fin_ s (QrmAdd Z q mt io it fr mo sl ct kI kF kM kN kS kU kC fs us sz fi rf so fI fF gM gS cn K h0 n0) ({ frames := 4, cells := 2, slots := 10, locals := 63 } : Room).cells ({ frames := 4, cells := 2, slots := 10, locals := 63 } : Room).slots) (s₁.setTop (entryFrame m #[(.ref q), (.long mt), (.ref io)] 5))
  rw [ef_rmAdd m q mt io]
  have ne1 : q ≠ it := own_ne_arr E0_q (own_w hw 1 rfl) A13_it
  have ne2 : q ≠ fr := own_ne_arr E0_q (own_w hw 1 rfl) A14_fr
  have ne3 : q ≠ ct := own_ne_arr E0_q (own_w hw 1 rfl) A17_ct
  have HI0 := HI
  obtain ⟨⟨a1, a2, a3, a4, a5, a6, a7, a8, a9⟩, b1, b2⟩ := HI0
  refine gALN X0 hx hby d6_0 rfl rfl ?_
  refine gIC (z := -1) X0 hx hby d6_1 rfl ?_
  obtain ⟨T5, h5, X5, e5, W5, st5⟩ := putF X0 hx hZ hown (host := "") (Or.inl (own_w hw 30 rfl)) Via.refl e0 F11_q_soonestBucket E0_q (Or.inl (own_w hw 31 rfl)) (own_w hw 1 rfl) (ty := .int) (by decide) rfl rfl (g := (mkF m 2 #[vr q, .val (.long mt), .second, vr io, .unset] [(.int (-1 : Int32)), (.ref q)])) rfl rfl (hb hby d6_2)
  refine Goes.via st5 ?_
  have N5 := Fr.snoc X5 N0 H18
  have Fw5 : Fld Z h5 q "nearhop/sim/EventQueue" "soonestBucket" "I" (.int (-1 : Int32)) := F11_q_soonestBucket.same W5
  show Goes p e below _ (T5.setTop (mkF m 5 #[vr q, .val (.long mt), .second, vr io, .unset] []))
  refine Goes.via (fun _ kk_ => XS.lloadN X5.here hx rfl (hb hby d6_5) rfl  kk_) ?_
  show Goes p e below _ (T5.setTop (mkF m 6 #[vr q, .val (.long mt), .second, vr io, .unset] [(.long mt)]))
  refine gALN X5 hx hby d6_6 rfl rfl ?_
  have f6 := (F10_q_reference.other W5 (Or.inr (slot_ne (Or.inl (own_w hw 29 rfl)) (Or.inl (own_w hw 31 rfl)) (by decide) (t := .long) (t' := .int) (by decide) (by decide))))
  obtain ⟨T7, X7, e7, st7⟩ := getF X5 hx hZ hown (host := "") (Or.inl (own_w hw 28 rfl)) Via.refl e5 f6 (g := (mkF m 7 #[vr q, .val (.long mt), .second, vr io, .unset] [(.ref q), (.long mt)])) rfl rfl (hb hby d6_7)
  refine Goes.via st7 ?_
  show Goes p e below _ (T7.setTop (mkF m 10 #[vr q, .val (.long mt), .second, vr io, .unset] [(.long rf), (.long mt)]))
  refine Goes.via (fun _ kk_ => XS.lcmp X7.here hx rfl (hb hby d6_10) rfl kk_) ?_
  show Goes p e below _ (T7.setTop (mkF m 11 #[vr q, .val (.long mt), .second, vr io, .unset] [(.int (lcmpW mt rf))]))
  by_cases hc11 : mt < rf
  · skip
    refine Goes.via (fun _ kk_ => XS.ifNo X7.here hx rfl (hb hby d6_11) rfl ((if0 _ _).trans (tlt ((lw_lt mt rf).mpr hc11)).2.1) kk_) ?_
    show Goes p e below _ (T7.setTop (mkF m 14 #[vr q, .val (.long mt), .second, vr io, .unset] []))
    refine gALN X7 hx hby d6_14 rfl rfl ?_
    refine Goes.via (fun _ kk_ => XS.lloadN X7.here hx rfl (hb hby d6_15) rfl  kk_) ?_
    show Goes p e below _ (T7.setTop (mkF m 16 #[vr q, .val (.long mt), .second, vr io, .unset] [(.long mt), (.ref q)]))
    have f8 := (E0_q.wr W5)
    have f9 := (F1_q_items.other W5 (Or.inr (slot_ne (Or.inl (own_w hw 12 rfl)) (Or.inl (own_w hw 31 rfl)) (by decide) (t := (.array (.object "java/lang/Object"))) (t' := .int) (by decide) (by decide))))
    have f10 := (F2_q_free.other W5 (Or.inr (slot_ne (Or.inl (own_w hw 15 rfl)) (Or.inl (own_w hw 31 rfl)) (by decide) (t := (.array .int)) (t' := .int) (by decide) (by decide))))
    have f11 := (F3_q_freeSlots.other W5 (Or.inr (slot_ne (Or.inl (own_w hw 56 rfl)) (Or.inl (own_w hw 31 rfl)) (by decide) (t := .int) (t' := .int) (by decide) (by decide))))
    have f12 := (F4_q_used.other W5 (Or.inr (slot_ne (Or.inl (own_w hw 58 rfl)) (Or.inl (own_w hw 31 rfl)) (by decide) (t := .int) (t' := .int) (by decide) (by decide))))
    have f13 := (F5_q_size.other W5 (Or.inr (slot_ne (Or.inl (own_w hw 38 rfl)) (Or.inl (own_w hw 31 rfl)) (by decide) (t := .int) (t' := .int) (by decide) (by decide))))
    have f14 := (F6_q_moments.other W5 (Or.inr (slot_ne (Or.inr (own_w hw 20 rfl)) (Or.inl (own_w hw 31 rfl)) (by decide) (t := (.array (.array .long))) (t' := .int) (by decide) (by decide))))
    have f15 := (F7_q_slots.other W5 (Or.inr (slot_ne (Or.inr (own_w hw 24 rfl)) (Or.inl (own_w hw 31 rfl)) (by decide) (t := (.array (.array .int))) (t' := .int) (by decide) (by decide))))
    have f16 := (F8_q_counts.other W5 (Or.inr (slot_ne (Or.inr (own_w hw 26 rfl)) (Or.inl (own_w hw 31 rfl)) (by decide) (t := (.array .int)) (t' := .int) (by decide) (by decide))))
    have f17 := (F9_q_first.other W5 (Or.inr (slot_ne (Or.inl (own_w hw 83 rfl)) (Or.inl (own_w hw 31 rfl)) (by decide) (t := .int) (t' := .int) (by decide) (by decide))))
    have f18 := (F12_q_soonest.other W5 (Or.inr (slot_ne (Or.inl (own_w hw 89 rfl)) (Or.inl (own_w hw 31 rfl)) (by decide) (t := .long) (t' := .int) (by decide) (by decide))))
    have f19 := (A13_it.other W5 (Ne.symm ne1))
    have f20 := (A14_fr.other W5 (Ne.symm ne2))
    have f21 := (A15_mo.off W5 (show (q : Nat) < mo ∨ mo + 65 < q by omega))
    have f22 := (A16_sl.off W5 (show (q : Nat) < sl ∨ sl + 65 < q by omega))
    have f23 := (A17_ct.other W5 (Ne.symm ne3))
    have z25 : h0.size ≤ (h5).size := (Nat.le_trans (Nat.le_refl _) (Nat.le_of_eq W5.size.symm))
    obtain ⟨cq24, q24, q24'⟩ := f8.cell
    obtain ⟨_, _, ⟨T24, L24, k24, n24⟩, -, X24, ⟨Lc24, hQ24, l24, y24, z24⟩, st24⟩ := X7.privateBack hx (y := mN_EventQueue_dealAllAround) hown (mvT hZ (own_w hw 94 rfl)) (mvT hZ (own_w hw 95 rfl)) (mvT hZ (own_selP (y := mN_EventQueue_dealAllAround) (own_w hw 1 rfl) (own_w hw 96 rfl) (own_w hw 95 rfl) (by decide))) (Cond.privateMethod_at (mvP hZ (own_w hw 96 rfl) (args := #[]))) (mvT hZ (own_w hw 97 rfl)) (by decide) (backOf (W := 0) (rmDa l Z a0 hw [] q mt it fr mo sl ct kI kF kM kN kS kU kC fs us sz fi rf (-1 : Int32) so fI fF gM gS cn K h5 n0 (Nat.le_trans Z0 z25) f8 f9 f10 f11 f12 f13 f14 f15 f16 f17 f6 Fw5 f18 f19 f20 f21 f22 f23 H18 HLa HLb HLc HLd HLe HI (by first | assumption | rfl | decide | omega | (simp; done))) hZ (own_w hw 97 rfl) (own_w hw 2 rfl) (by decide) (by decide)) (g := (mkF m 16 #[vr q, .val (.long mt), .second, vr io, .unset] [(.long mt), (.ref q)])) rfl (by rw [hml]; rfl) (Steps.refl _) (a := q) (by rw [e7]; exact q24) q24' (argsL := [(.long mt)]) (rest := []) (lenOf pd_4 rfl) rfl (by show 2 * 0 + _ ≤ _; exact Nat.le_of_eq rfl) (hb hby d6_16) (fun _ _ => ⟨rfl, e7, (by decide : 0 + 2 ≤ _), (by decide : 0 + 10 ≤ _)⟩)
    dsimp only [Pt.U, Pt.locs, Pt.cells, Pt.slots] at X24 l24 y24 z24 st24 hQ24
    replace l24 := l24.symm
    subst l24 y24 z24
    obtain ⟨cn'24, gM'24, gS'24, rfl, N24q, K24, u24_0, u24_1, u24_2, u24_3, u24_4, u24_5, u24_6, u24_7, u24_8, u24_9, u24_10, u24_11, u24_12, u24_13, u24_14, u24_15, u24_16, u24_17, u24_18, u24_19⟩ := hQ24
    have N24 := Fr.app N5 N24q
    refine Goes.tr st24 ?_
    show Goes p e below _ (T24.setTop (mkF m 19 #[vr q, .val (.long mt), .second, vr io, .unset] []))
    have HIx := own_Ideal HI u24_18 u24_19
    refine gALN X24 hx hby d6_19 rfl rfl ?_
    obtain ⟨T26, X26, e26, st26⟩ := getF X24 hx hZ hown (host := "") (Or.inl (own_w hw 55 rfl)) Via.refl rfl u24_3 (g := (mkF m 20 #[vr q, .val (.long mt), .second, vr io, .unset] [(.ref q)])) rfl rfl (hb hby d6_20)
    refine Goes.via st26 ?_
    show Goes p e below _ (T26.setTop (mkF m 23 #[vr q, .val (.long mt), .second, vr io, .unset] [(.int fs)]))
    by_cases hc23 : (0 : Int32) < fs
    · skip
      refine Goes.via (fun _ kk_ => XS.ifNo X26.here hx rfl (hb hby d6_23) rfl ((if0 _ _).trans (tlt hc23).2.2.2) kk_) ?_
      show Goes p e below _ (T26.setTop (mkF m 26 #[vr q, .val (.long mt), .second, vr io, .unset] []))
      have hfs0 : 1 ≤ fs.toInt := by have q := own_lti.mp hc23; have e : (0 : Int32).toInt = 0 := (by decide); omega
      have hfs1 := own_d1 (x := fs) hfs0 (by omega)
      obtain ⟨nf1, hnf1⟩ := own_nat (x := fs - (1 : Int32)) (by omega)
      refine gALN X26 hx hby d6_26 rfl rfl ?_
      obtain ⟨T27, X27, e27, st27⟩ := getF X26 hx hZ hown (host := "") (Or.inl (own_w hw 14 rfl)) Via.refl e26 u24_2 (g := (mkF m 27 #[vr q, .val (.long mt), .second, vr io, .unset] [(.ref q)])) rfl rfl (hb hby d6_27)
      refine Goes.via st27 ?_
      show Goes p e below _ (T27.setTop (mkF m 30 #[vr q, .val (.long mt), .second, vr io, .unset] [(.ref fr)]))
      refine gALN X27 hx hby d6_30 rfl rfl ?_
      refine gDU X27 hx hby d6_31 rfl ?_
      obtain ⟨T28, X28, e28, st28⟩ := getF X27 hx hZ hown (host := "") (Or.inl (own_w hw 55 rfl)) Via.refl e27 u24_3 (g := (mkF m 32 #[vr q, .val (.long mt), .second, vr io, .unset] [(.ref q), (.ref q), (.ref fr)])) rfl rfl (hb hby d6_32)
      refine Goes.via st28 ?_
      show Goes p e below _ (T28.setTop (mkF m 35 #[vr q, .val (.long mt), .second, vr io, .unset] [(.int fs), (.ref q), (.ref fr)]))
      refine gIC (z := 1) X28 hx hby d6_35 rfl ?_
      refine Goes.via (fun _ kk_ => XS.isub X28.here hx rfl (hb hby d6_36) rfl kk_) ?_
      show Goes p e below _ (T28.setTop (mkF m 37 #[vr q, .val (.long mt), .second, vr io, .unset] [(.int (fs - (1 : Int32))), (.ref q), (.ref fr)]))
      refine Goes.via (fun _ kk_ => XS.dupX1 X28.here hx rfl (hb hby d6_37) rfl rfl rfl kk_) ?_
      show Goes p e below _ (T28.setTop (mkF m 38 #[vr q, .val (.long mt), .second, vr io, .unset] [(.int (fs - (1 : Int32))), (.ref q), (.int (fs - (1 : Int32))), (.ref fr)]))
      obtain ⟨T29, h29, X29, e29, W29, st29⟩ := putF X28 hx hZ hown (host := "") (Or.inl (own_w hw 55 rfl)) Via.refl e28 u24_3 u24_0 (Or.inl (own_w hw 56 rfl)) (own_w hw 1 rfl) (ty := .int) (by decide) rfl rfl (g := (mkF m 38 #[vr q, .val (.long mt), .second, vr io, .unset] [(.int (fs - (1 : Int32))), (.ref q), (.int (fs - (1 : Int32))), (.ref fr)])) rfl rfl (hb hby d6_38)
      refine Goes.via st29 ?_
      have N29 := Fr.snoc X29 N24 H18
      have Fw29 : Fld Z h29 q "nearhop/sim/EventQueue" "freeSlots" "I" (.int (fs - (1 : Int32))) := u24_3.same W29
      show Goes p e below _ (T29.setTop (mkF m 41 #[vr q, .val (.long mt), .second, vr io, .unset] [(.int (fs - (1 : Int32))), (.ref fr)]))
      have f30 := (u24_14.other W29 (Ne.symm ne2))
      refine Goes.via (own_iaload X29 hx hZ e29 f30 (j := (fs - (1 : Int32))) (i := nf1) (own_ix hnf1).1 (own_ix hnf1).2 (by omega) (v := (fF nf1)) rfl (g := (mkF m 41 #[vr q, .val (.long mt), .second, vr io, .unset] [(.int (fs - (1 : Int32))), (.ref fr)])) rfl rfl (hb hby d6_41)) ?_
      show Goes p e below _ (T29.setTop (mkF m 42 #[vr q, .val (.long mt), .second, vr io, .unset] [(.int (fF nf1))]))
      refine Goes.via (fun _ kk_ => XS.istore X29.here hx rfl (hb hby d6_42) rfl (l' := #[vr q, .val (.long mt), .second, vr io, vi (fF nf1)]) rfl kk_) ?_
      show Goes p e below _ (T29.setTop (mkF m 44 #[vr q, .val (.long mt), .second, vr io, vi (fF nf1)] []))
      refine Goes.via (fun _ kk_ => XS.goto X29.here hx rfl (pc0 := 44) (pc' := 106) rfl (hb hby d6_44) (by decide) (by decide) kk_) ?_
      show Goes p e below _ (T29.setTop (mkF m 106 #[vr q, .val (.long mt), .second, vr io, vi (fF nf1)] []))
      have hsv : 0 ≤ ((fF nf1)).toInt ∧ ((fF nf1)).toInt < 64 := b2 nf1
      obtain ⟨nv, hnv⟩ := own_nat hsv.1
      refine gALN X29 hx hby d6_106 rfl rfl ?_
      have f31 := (u24_1.other W29 (Or.inr (slot_ne (Or.inl (own_w hw 12 rfl)) (Or.inl (own_w hw 56 rfl)) (by decide) (t := (.array (.object "java/lang/Object"))) (t' := .int) (by decide) (by decide))))
      obtain ⟨T32, X32, e32, st32⟩ := getF X29 hx hZ hown (host := "") (Or.inl (own_w hw 11 rfl)) Via.refl e29 f31 (g := (mkF m 107 #[vr q, .val (.long mt), .second, vr io, vi (fF nf1)] [(.ref q)])) rfl rfl (hb hby d6_107)
      refine Goes.via st32 ?_
      show Goes p e below _ (T32.setTop (mkF m 110 #[vr q, .val (.long mt), .second, vr io, vi (fF nf1)] [(.ref it)]))
      refine gIL X32 hx hby d6_110 rfl ?_
      refine gALN X32 hx hby d6_112 rfl rfl ?_
      have f33 := (u24_13.other W29 (Ne.symm ne1))
      have f35 := ((own_exN (E27_io.wr W5) K24).wr W29)
      obtain ⟨T34, h34, X34, e34, W34, A34, st34⟩ := own_aastore X32 hx hZ e32 f33 rfl rfl OVr (Ins.of_exa f35 (own_w hw 59 rfl)) (j := (fF nf1)) (i := nv) (own_ix hnv).1 (own_ix hnv).2 (by omega) (g := (mkF m 113 #[vr q, .val (.long mt), .second, vr io, vi (fF nf1)] [(.ref io), (.int (fF nf1)), (.ref it)])) rfl rfl (hb hby d6_113)
      refine Goes.via st34 ?_
      have N34 := Fr.snoc X34 N29 (show n0 ≤ it by omega)
      show Goes p e below _ (T34.setTop (mkF m 114 #[vr q, .val (.long mt), .second, vr io, vi (fF nf1)] []))
      refine gALN X34 hx hby d6_114 rfl rfl ?_
      refine gALN X34 hx hby d6_115 rfl rfl ?_
      refine Goes.via (fun _ kk_ => XS.lloadN X34.here hx rfl (hb hby d6_116) rfl  kk_) ?_
      show Goes p e below _ (T34.setTop (mkF m 117 #[vr q, .val (.long mt), .second, vr io, vi (fF nf1)] [(.long mt), (.ref q), (.ref q)]))
      have f36 := ((u24_10.other W29 (Or.inr (slot_ne (Or.inl (own_w hw 29 rfl)) (Or.inl (own_w hw 56 rfl)) (by decide) (t := .long) (t' := .int) (by decide) (by decide)))).other W34 (Or.inl ne1))
      have z38 : h0.size ≤ (h34).size := (Nat.le_trans (Nat.le_trans (Nat.le_trans z25 (KpN.size K24)) (Nat.le_of_eq W29.size.symm)) (Nat.le_of_eq W34.size.symm))
      have f39 := ((u24_0.wr W29).wr W34)
      obtain ⟨cq37, q37, q37'⟩ := f39.cell
      obtain ⟨_, _, ⟨T37, L37, k37, n37⟩, -, X37, ⟨Lc37, hQ37, l37, y37, z37⟩, st37⟩ := X34.privateBack hx (y := mN_EventQueue_bucketOf) hown (mvT hZ (own_w hw 60 rfl)) (mvT hZ (own_w hw 61 rfl)) (mvT hZ (own_selP (y := mN_EventQueue_bucketOf) (own_w hw 1 rfl) (own_w hw 62 rfl) (own_w hw 61 rfl) (by decide))) (Cond.privateMethod_at (mvP hZ (own_w hw 62 rfl) (args := #[]))) (mvT hZ (own_w hw 63 rfl)) (by decide) (backOf (W := 1) (rmBk l Z a0 hw [] q mt mt h34 n0 (Nat.le_trans Z0 z38) f36) hZ (own_w hw 63 rfl) (own_w hw 2 rfl) (by decide) (by decide)) (g := (mkF m 117 #[vr q, .val (.long mt), .second, vr io, vi (fF nf1)] [(.long mt), (.ref q), (.ref q)])) rfl (by rw [hml]; rfl) (Steps.refl _) (a := q) (by rw [e34]; exact q37) q37' (argsL := [(.long mt)]) (rest := [(.ref q)]) (lenOf pd_1 rfl) rfl (by show 2 * 0 + _ ≤ _; exact Nat.le_of_eq rfl) (hb hby d6_117) (fun _ _ => ⟨rfl, e34, (by decide : 2 + 0 ≤ _), (by decide : 10 + 0 ≤ _)⟩)
      dsimp only [Pt.U, Pt.locs, Pt.cells, Pt.slots] at X37 l37 y37 z37 st37 hQ37
      replace l37 := l37.symm
      subst l37 y37 z37
      obtain ⟨rfl, rfl, e37⟩ := hQ37
      first | rw [List.append_nil] at X37 | skip
      refine Goes.tr st37 ?_
      have e37' : T37.heap = h34 := e37
      show Goes p e below _ (T37.setTop (mkF m 120 #[vr q, .val (.long mt), .second, vr io, vi (fF nf1)] [(.int ((64 : Int32) - (own_nlzL (mt ^^^ mt)))), (.ref q)]))
      obtain ⟨nc, hnc, hnc65, hnc0⟩ := own_bkt (mt ^^^ mt)
      have hcv : cn'24 nc < 64 := by have q := own_sumL cn'24 hnc65; have q2 := HIx.1.2.2.2.2.1; omega
      refine Goes.via (fun _ kk_ => XS.lloadN X37.here hx rfl (hb hby d6_120) rfl  kk_) ?_
      show Goes p e below _ (T37.setTop (mkF m 121 #[vr q, .val (.long mt), .second, vr io, vi (fF nf1)] [(.long mt), (.int ((64 : Int32) - (own_nlzL (mt ^^^ mt)))), (.ref q)]))
      refine gIL X37 hx hby d6_121 rfl ?_
      have f40 := ((u24_6.other W29 (Or.inr (slot_ne (Or.inr (own_w hw 20 rfl)) (Or.inl (own_w hw 56 rfl)) (by decide) (t := (.array (.array .long))) (t' := .int) (by decide) (by decide)))).other W34 (Or.inl ne1))
      have f41 := ((u24_7.other W29 (Or.inr (slot_ne (Or.inr (own_w hw 24 rfl)) (Or.inl (own_w hw 56 rfl)) (by decide) (t := (.array (.array .int))) (t' := .int) (by decide) (by decide)))).other W34 (Or.inl ne1))
      have f42 := ((u24_8.other W29 (Or.inr (slot_ne (Or.inr (own_w hw 26 rfl)) (Or.inl (own_w hw 56 rfl)) (by decide) (t := (.array .int)) (t' := .int) (by decide) (by decide)))).other W34 (Or.inl ne1))
      have f43 := ((u24_15.off W29 (show (q : Nat) < mo ∨ mo + 65 < q by omega)).off W34 (show (it : Nat) < mo ∨ mo + 65 < it by omega))
      have f44 := ((u24_16.off W29 (show (q : Nat) < sl ∨ sl + 65 < q by omega)).off W34 (show (it : Nat) < sl ∨ sl + 65 < it by omega))
      have f45 := ((u24_17.other W29 (Ne.symm ne3)).other W34 (show (ct : Nat) ≠ it by omega))
      obtain ⟨cq46, q46, q46'⟩ := f39.cell
      obtain ⟨_, _, ⟨T46, L46, k46, n46⟩, -, X46, ⟨Lc46, hQ46, l46, y46, z46⟩, st46⟩ := X37.privateBack hx (y := mN_EventQueue_append) hown (mvT hZ (own_w hw 71 rfl)) (mvT hZ (own_w hw 72 rfl)) (mvT hZ (own_selP (y := mN_EventQueue_append) (own_w hw 1 rfl) (own_w hw 73 rfl) (own_w hw 72 rfl) (by decide))) (Cond.privateMethod_at (mvP hZ (own_w hw 73 rfl) (args := #[]))) (mvT hZ (own_w hw 74 rfl)) (by decide) (backOf (W := 0) (rmAp l Z a0 hw [] q ((64 : Int32) - (own_nlzL (mt ^^^ mt))) mt (fF nf1) mo sl ct kM kN kS kU kC gM'24 gS'24 cn'24 nc h34 n0 (Nat.le_trans Z0 z38) f40 f41 f42 f43 f44 f45 (show n0 ≤ mo by omega) (by first | assumption | rfl | decide | omega | (simp; done)) HLd HLe hnc hnc65 hcv) hZ (own_w hw 74 rfl) (own_w hw 2 rfl) (by decide) (by decide)) (g := (mkF m 123 #[vr q, .val (.long mt), .second, vr io, vi (fF nf1)] [(.int (fF nf1)), (.long mt), (.int ((64 : Int32) - (own_nlzL (mt ^^^ mt)))), (.ref q)])) rfl (by rw [hml]; rfl) (Steps.refl _) (a := q) (by rw [e37']; exact q46) q46' (argsL := [(.int ((64 : Int32) - (own_nlzL (mt ^^^ mt)))), (.long mt), (.int (fF nf1))]) (rest := []) (lenOf pd_3 rfl) rfl (by show 2 * 0 + _ ≤ _; exact Nat.le_of_eq rfl) (hb hby d6_123) (fun _ _ => ⟨rfl, e37', (by decide : 2 + 0 ≤ _), (by decide : 10 + 0 ≤ _)⟩)
      dsimp only [Pt.U, Pt.locs, Pt.cells, Pt.slots] at X46 l46 y46 z46 st46 hQ46
      replace l46 := l46.symm
      subst l46 y46 z46
      obtain ⟨rfl, N46q, K46, u46_0, u46_1, u46_2⟩ := hQ46
      have N46 := Fr.app N34 N46q
      refine Goes.tr st46 ?_
      show Goes p e below _ (T46.setTop (mkF m 126 #[vr q, .val (.long mt), .second, vr io, vi (fF nf1)] []))
      refine gALN X46 hx hby d6_126 rfl rfl ?_
      refine gDU X46 hx hby d6_127 rfl ?_
      have f47 := (((u24_5.other W29 (Or.inr (slot_ne (Or.inl (own_w hw 38 rfl)) (Or.inl (own_w hw 56 rfl)) (by decide) (t := .int) (t' := .int) (by decide) (by decide)))).other W34 (Or.inl ne1)).keep K46 (ninS ne3 (ninS (show (q : Nat) ≠ (mo + 1 + nc) by omega) (ninS (show (q : Nat) ≠ (sl + 1 + nc) by omega) nin0))))
      obtain ⟨T48, X48, e48, st48⟩ := getF X46 hx hZ hown (host := "") (Or.inl (own_w hw 37 rfl)) Via.refl rfl f47 (g := (mkF m 128 #[vr q, .val (.long mt), .second, vr io, vi (fF nf1)] [(.ref q), (.ref q)])) rfl rfl (hb hby d6_128)
      refine Goes.via st48 ?_
      show Goes p e below _ (T48.setTop (mkF m 131 #[vr q, .val (.long mt), .second, vr io, vi (fF nf1)] [(.int sz), (.ref q)]))
      refine gIC (z := 1) X48 hx hby d6_131 rfl ?_
      refine Goes.via (fun _ kk_ => XS.iadd X48.here hx rfl (hb hby d6_132) rfl kk_) ?_
      show Goes p e below _ (T48.setTop (mkF m 133 #[vr q, .val (.long mt), .second, vr io, vi (fF nf1)] [(.int (sz + (1 : Int32))), (.ref q)]))
      have f49 := (f39.keep K46)
      obtain ⟨T50, h50, X50, e50, W50, st50⟩ := putF X48 hx hZ hown (host := "") (Or.inl (own_w hw 37 rfl)) Via.refl e48 f47 f49 (Or.inl (own_w hw 38 rfl)) (own_w hw 1 rfl) (ty := .int) (by decide) rfl rfl (g := (mkF m 133 #[vr q, .val (.long mt), .second, vr io, vi (fF nf1)] [(.int (sz + (1 : Int32))), (.ref q)])) rfl rfl (hb hby d6_133)
      refine Goes.via st50 ?_
      have N50 := Fr.snoc X50 N46 H18
      have Fw50 : Fld Z h50 q "nearhop/sim/EventQueue" "size" "I" (.int (sz + (1 : Int32))) := f47.same W50
      show Goes p e below _ (T50.setTop (mkF m 136 #[vr q, .val (.long mt), .second, vr io, vi (fF nf1)] []))
      have K51 : KpN n0 h0 h50 := (((((((KpN.refl n0 h0).wr W5 H18).trans K24).wr W29 H18).wr W34 (show n0 ≤ it by omega)).call K46 (allS (show n0 ≤ ct by omega) (allS (show n0 ≤ (mo + 1 + nc) by omega) (allS (show n0 ≤ (sl + 1 + nc) by omega) all0)))).wr W50 H18)
      have f52 := (f49.wr W50)
      have f53 := (((f31.other W34 (Or.inl ne1)).keep K46 (ninS ne3 (ninS (show (q : Nat) ≠ (mo + 1 + nc) by omega) (ninS (show (q : Nat) ≠ (sl + 1 + nc) by omega) nin0)))).other W50 (Or.inr (slot_ne (Or.inl (own_w hw 12 rfl)) (Or.inl (own_w hw 38 rfl)) (by decide) (t := (.array (.object "java/lang/Object"))) (t' := .int) (by decide) (by decide))))
      have f54 := ((((u24_2.other W29 (Or.inr (slot_ne (Or.inl (own_w hw 15 rfl)) (Or.inl (own_w hw 56 rfl)) (by decide) (t := (.array .int)) (t' := .int) (by decide) (by decide)))).other W34 (Or.inl ne1)).keep K46 (ninS ne3 (ninS (show (q : Nat) ≠ (mo + 1 + nc) by omega) (ninS (show (q : Nat) ≠ (sl + 1 + nc) by omega) nin0)))).other W50 (Or.inr (slot_ne (Or.inl (own_w hw 15 rfl)) (Or.inl (own_w hw 38 rfl)) (by decide) (t := (.array .int)) (t' := .int) (by decide) (by decide))))
      have f55 := (((Fw29.other W34 (Or.inl ne1)).keep K46 (ninS ne3 (ninS (show (q : Nat) ≠ (mo + 1 + nc) by omega) (ninS (show (q : Nat) ≠ (sl + 1 + nc) by omega) nin0)))).other W50 (Or.inr (slot_ne (Or.inl (own_w hw 56 rfl)) (Or.inl (own_w hw 38 rfl)) (by decide) (t := .int) (t' := .int) (by decide) (by decide))))
      have f56 := ((((u24_4.other W29 (Or.inr (slot_ne (Or.inl (own_w hw 58 rfl)) (Or.inl (own_w hw 56 rfl)) (by decide) (t := .int) (t' := .int) (by decide) (by decide)))).other W34 (Or.inl ne1)).keep K46 (ninS ne3 (ninS (show (q : Nat) ≠ (mo + 1 + nc) by omega) (ninS (show (q : Nat) ≠ (sl + 1 + nc) by omega) nin0)))).other W50 (Or.inr (slot_ne (Or.inl (own_w hw 58 rfl)) (Or.inl (own_w hw 38 rfl)) (by decide) (t := .int) (t' := .int) (by decide) (by decide))))
      have f57 := ((f40.keep K46 (ninS ne3 (ninS (show (q : Nat) ≠ (mo + 1 + nc) by omega) (ninS (show (q : Nat) ≠ (sl + 1 + nc) by omega) nin0)))).other W50 (Or.inr (slot_ne (Or.inr (own_w hw 20 rfl)) (Or.inl (own_w hw 38 rfl)) (by decide) (t := (.array (.array .long))) (t' := .int) (by decide) (by decide))))
      have f58 := ((f41.keep K46 (ninS ne3 (ninS (show (q : Nat) ≠ (mo + 1 + nc) by omega) (ninS (show (q : Nat) ≠ (sl + 1 + nc) by omega) nin0)))).other W50 (Or.inr (slot_ne (Or.inr (own_w hw 24 rfl)) (Or.inl (own_w hw 38 rfl)) (by decide) (t := (.array (.array .int))) (t' := .int) (by decide) (by decide))))
      have f59 := ((f42.keep K46 (ninS ne3 (ninS (show (q : Nat) ≠ (mo + 1 + nc) by omega) (ninS (show (q : Nat) ≠ (sl + 1 + nc) by omega) nin0)))).other W50 (Or.inr (slot_ne (Or.inr (own_w hw 26 rfl)) (Or.inl (own_w hw 38 rfl)) (by decide) (t := (.array .int)) (t' := .int) (by decide) (by decide))))
      have f60 := ((((u24_9.other W29 (Or.inr (slot_ne (Or.inl (own_w hw 83 rfl)) (Or.inl (own_w hw 56 rfl)) (by decide) (t := .int) (t' := .int) (by decide) (by decide)))).other W34 (Or.inl ne1)).keep K46 (ninS ne3 (ninS (show (q : Nat) ≠ (mo + 1 + nc) by omega) (ninS (show (q : Nat) ≠ (sl + 1 + nc) by omega) nin0)))).other W50 (Or.inr (slot_ne (Or.inl (own_w hw 83 rfl)) (Or.inl (own_w hw 38 rfl)) (by decide) (t := .int) (t' := .int) (by decide) (by decide))))
      have f61 := ((f36.keep K46 (ninS ne3 (ninS (show (q : Nat) ≠ (mo + 1 + nc) by omega) (ninS (show (q : Nat) ≠ (sl + 1 + nc) by omega) nin0)))).other W50 (Or.inr (slot_ne (Or.inl (own_w hw 29 rfl)) (Or.inl (own_w hw 38 rfl)) (by decide) (t := .long) (t' := .int) (by decide) (by decide))))
      have f62 := ((((u24_11.other W29 (Or.inr (slot_ne (Or.inl (own_w hw 31 rfl)) (Or.inl (own_w hw 56 rfl)) (by decide) (t := .int) (t' := .int) (by decide) (by decide)))).other W34 (Or.inl ne1)).keep K46 (ninS ne3 (ninS (show (q : Nat) ≠ (mo + 1 + nc) by omega) (ninS (show (q : Nat) ≠ (sl + 1 + nc) by omega) nin0)))).other W50 (Or.inr (slot_ne (Or.inl (own_w hw 31 rfl)) (Or.inl (own_w hw 38 rfl)) (by decide) (t := .int) (t' := .int) (by decide) (by decide))))
      have f63 := ((((u24_12.other W29 (Or.inr (slot_ne (Or.inl (own_w hw 89 rfl)) (Or.inl (own_w hw 56 rfl)) (by decide) (t := .long) (t' := .int) (by decide) (by decide)))).other W34 (Or.inl ne1)).keep K46 (ninS ne3 (ninS (show (q : Nat) ≠ (mo + 1 + nc) by omega) (ninS (show (q : Nat) ≠ (sl + 1 + nc) by omega) nin0)))).other W50 (Or.inr (slot_ne (Or.inl (own_w hw 89 rfl)) (Or.inl (own_w hw 38 rfl)) (by decide) (t := .long) (t' := .int) (by decide) (by decide))))
      have f64 := ((A34.keep K46 (ninS (show (it : Nat) ≠ ct by omega) (ninS (show (it : Nat) ≠ (mo + 1 + nc) by omega) (ninS (show (it : Nat) ≠ (sl + 1 + nc) by omega) nin0)))).other W50 (Ne.symm ne1))
      have f65 := (((f30.other W34 (show (fr : Nat) ≠ it by omega)).keep K46 (ninS (show (fr : Nat) ≠ ct by omega) (ninS (show (fr : Nat) ≠ (mo + 1 + nc) by omega) (ninS (show (fr : Nat) ≠ (sl + 1 + nc) by omega) nin0)))).other W50 (Ne.symm ne2))
      have f66 := (u46_0.off W50 (show (q : Nat) < mo ∨ mo + 65 < q by omega))
      have f67 := (u46_1.off W50 (show (q : Nat) < sl ∨ sl + 65 < q by omega))
      have f68 := (u46_2.other W50 (Ne.symm ne3))
      exact own_finV X50 hx hlk hret (hb hby d6_136) (by rw [e50]; exact ⟨(fs - (1 : Int32)), us, (0 : Int32), mt, (own_upd fI nv (.ref io)), (own_gu gM'24 nc (cn'24 nc) mt), (own_gu gS'24 nc (cn'24 nc) (fF nf1)), (own_cu cn'24 nc (cn'24 nc + 1)), rfl, N50, K51, f52, f53, f54, f55, f56, Fw50, f57, f58, f59, f60, f61, f62, f63, f64, f65, f66, f67, f68, (own_Iadd HIx HK hnc65 hsv ⟨by omega, by omega⟩ ⟨by omega, by omega⟩)⟩) (by first | decide | omega | (dsimp only; omega)) (by first | decide | omega | (dsimp only; omega))
    · skip
      refine Goes.via (fun _ kk_ => XS.ifYes X26.here hx rfl (pc0 := 23) (pc' := 47) rfl (hb hby d6_23) rfl ((if0 _ _).trans (flt hc23).2.2.2) (by decide) (by decide) kk_) ?_
      show Goes p e below _ (T26.setTop (mkF m 47 #[vr q, .val (.long mt), .second, vr io, .unset] []))
      have hus1 := own_i1 (x := us) a8 (by omega)
      refine gALN X26 hx hby d6_47 rfl rfl ?_
      obtain ⟨T69, X69, e69, st69⟩ := getF X26 hx hZ hown (host := "") (Or.inl (own_w hw 57 rfl)) Via.refl e26 u24_4 (g := (mkF m 48 #[vr q, .val (.long mt), .second, vr io, .unset] [(.ref q)])) rfl rfl (hb hby d6_48)
      refine Goes.via st69 ?_
      show Goes p e below _ (T69.setTop (mkF m 51 #[vr q, .val (.long mt), .second, vr io, .unset] [(.int us)]))
      refine gALN X69 hx hby d6_51 rfl rfl ?_
      obtain ⟨T70, X70, e70, st70⟩ := getF X69 hx hZ hown (host := "") (Or.inl (own_w hw 11 rfl)) Via.refl e69 u24_1 (g := (mkF m 52 #[vr q, .val (.long mt), .second, vr io, .unset] [(.ref q), (.int us)])) rfl rfl (hb hby d6_52)
      refine Goes.via st70 ?_
      show Goes p e below _ (T70.setTop (mkF m 55 #[vr q, .val (.long mt), .second, vr io, .unset] [(.ref it), (.int us)]))
      refine Goes.via (own_alen X70 hx hZ e70 u24_13 (g := (mkF m 55 #[vr q, .val (.long mt), .second, vr io, .unset] [(.ref it), (.int us)])) rfl rfl (hb hby d6_55)) ?_
      show Goes p e below _ (T70.setTop (mkF m 56 #[vr q, .val (.long mt), .second, vr io, .unset] [(.int (64 : Int32)), (.int us)]))
      have hc56_71 : ¬ (us = (64 : Int32)) := (fun z => by rw [z] at a9; have e : (64 : Int32).toInt = 64 := (by decide); omega)
      refine Goes.via (fun _ kk_ => XS.icmpYes X70.here hx rfl (pc0 := 56) (pc' := 93) rfl (hb hby d6_56) rfl (feq hc56_71).2 (by decide) (by decide) kk_) ?_
      show Goes p e below _ (T70.setTop (mkF m 93 #[vr q, .val (.long mt), .second, vr io, .unset] []))
      refine gALN X70 hx hby d6_93 rfl rfl ?_
      refine gDU X70 hx hby d6_94 rfl ?_
      obtain ⟨T72, X72, e72, st72⟩ := getF X70 hx hZ hown (host := "") (Or.inl (own_w hw 57 rfl)) Via.refl e70 u24_4 (g := (mkF m 95 #[vr q, .val (.long mt), .second, vr io, .unset] [(.ref q), (.ref q)])) rfl rfl (hb hby d6_95)
      refine Goes.via st72 ?_
      show Goes p e below _ (T72.setTop (mkF m 98 #[vr q, .val (.long mt), .second, vr io, .unset] [(.int us), (.ref q)]))
      refine Goes.via (fun _ kk_ => XS.dupX1 X72.here hx rfl (hb hby d6_98) rfl rfl rfl kk_) ?_
      show Goes p e below _ (T72.setTop (mkF m 99 #[vr q, .val (.long mt), .second, vr io, .unset] [(.int us), (.ref q), (.int us)]))
      refine gIC (z := 1) X72 hx hby d6_99 rfl ?_
      refine Goes.via (fun _ kk_ => XS.iadd X72.here hx rfl (hb hby d6_100) rfl kk_) ?_
      show Goes p e below _ (T72.setTop (mkF m 101 #[vr q, .val (.long mt), .second, vr io, .unset] [(.int (us + (1 : Int32))), (.ref q), (.int us)]))
      obtain ⟨T73, h73, X73, e73, W73, st73⟩ := putF X72 hx hZ hown (host := "") (Or.inl (own_w hw 57 rfl)) Via.refl e72 u24_4 u24_0 (Or.inl (own_w hw 58 rfl)) (own_w hw 1 rfl) (ty := .int) (by decide) rfl rfl (g := (mkF m 101 #[vr q, .val (.long mt), .second, vr io, .unset] [(.int (us + (1 : Int32))), (.ref q), (.int us)])) rfl rfl (hb hby d6_101)
      refine Goes.via st73 ?_
      have N73 := Fr.snoc X73 N24 H18
      have Fw73 : Fld Z h73 q "nearhop/sim/EventQueue" "used" "I" (.int (us + (1 : Int32))) := u24_4.same W73
      show Goes p e below _ (T73.setTop (mkF m 104 #[vr q, .val (.long mt), .second, vr io, .unset] [(.int us)]))
      refine Goes.via (fun _ kk_ => XS.istore X73.here hx rfl (hb hby d6_104) rfl (l' := #[vr q, .val (.long mt), .second, vr io, vi us]) rfl kk_) ?_
      show Goes p e below _ (T73.setTop (mkF m 106 #[vr q, .val (.long mt), .second, vr io, vi us] []))
      have hsv : 0 ≤ (us).toInt ∧ (us).toInt < 64 := ⟨a8, by omega⟩
      obtain ⟨nv, hnv⟩ := own_nat hsv.1
      refine gALN X73 hx hby d6_106 rfl rfl ?_
      have f74 := (u24_1.other W73 (Or.inr (slot_ne (Or.inl (own_w hw 12 rfl)) (Or.inl (own_w hw 58 rfl)) (by decide) (t := (.array (.object "java/lang/Object"))) (t' := .int) (by decide) (by decide))))
      obtain ⟨T75, X75, e75, st75⟩ := getF X73 hx hZ hown (host := "") (Or.inl (own_w hw 11 rfl)) Via.refl e73 f74 (g := (mkF m 107 #[vr q, .val (.long mt), .second, vr io, vi us] [(.ref q)])) rfl rfl (hb hby d6_107)
      refine Goes.via st75 ?_
      show Goes p e below _ (T75.setTop (mkF m 110 #[vr q, .val (.long mt), .second, vr io, vi us] [(.ref it)]))
      refine gIL X75 hx hby d6_110 rfl ?_
      refine gALN X75 hx hby d6_112 rfl rfl ?_
      have f76 := (u24_13.other W73 (Ne.symm ne1))
      have f78 := ((own_exN (E27_io.wr W5) K24).wr W73)
      obtain ⟨T77, h77, X77, e77, W77, A77, st77⟩ := own_aastore X75 hx hZ e75 f76 rfl rfl OVr (Ins.of_exa f78 (own_w hw 59 rfl)) (j := us) (i := nv) (own_ix hnv).1 (own_ix hnv).2 (by omega) (g := (mkF m 113 #[vr q, .val (.long mt), .second, vr io, vi us] [(.ref io), (.int us), (.ref it)])) rfl rfl (hb hby d6_113)
      refine Goes.via st77 ?_
      have N77 := Fr.snoc X77 N73 (show n0 ≤ it by omega)
      show Goes p e below _ (T77.setTop (mkF m 114 #[vr q, .val (.long mt), .second, vr io, vi us] []))
      refine gALN X77 hx hby d6_114 rfl rfl ?_
      refine gALN X77 hx hby d6_115 rfl rfl ?_
      refine Goes.via (fun _ kk_ => XS.lloadN X77.here hx rfl (hb hby d6_116) rfl  kk_) ?_
      show Goes p e below _ (T77.setTop (mkF m 117 #[vr q, .val (.long mt), .second, vr io, vi us] [(.long mt), (.ref q), (.ref q)]))
      have f79 := ((u24_10.other W73 (Or.inr (slot_ne (Or.inl (own_w hw 29 rfl)) (Or.inl (own_w hw 58 rfl)) (by decide) (t := .long) (t' := .int) (by decide) (by decide)))).other W77 (Or.inl ne1))
      have z81 : h0.size ≤ (h77).size := (Nat.le_trans (Nat.le_trans (Nat.le_trans z25 (KpN.size K24)) (Nat.le_of_eq W73.size.symm)) (Nat.le_of_eq W77.size.symm))
      have f82 := ((u24_0.wr W73).wr W77)
      obtain ⟨cq80, q80, q80'⟩ := f82.cell
      obtain ⟨_, _, ⟨T80, L80, k80, n80⟩, -, X80, ⟨Lc80, hQ80, l80, y80, z80⟩, st80⟩ := X77.privateBack hx (y := mN_EventQueue_bucketOf) hown (mvT hZ (own_w hw 60 rfl)) (mvT hZ (own_w hw 61 rfl)) (mvT hZ (own_selP (y := mN_EventQueue_bucketOf) (own_w hw 1 rfl) (own_w hw 62 rfl) (own_w hw 61 rfl) (by decide))) (Cond.privateMethod_at (mvP hZ (own_w hw 62 rfl) (args := #[]))) (mvT hZ (own_w hw 63 rfl)) (by decide) (backOf (W := 1) (rmBk l Z a0 hw [] q mt mt h77 n0 (Nat.le_trans Z0 z81) f79) hZ (own_w hw 63 rfl) (own_w hw 2 rfl) (by decide) (by decide)) (g := (mkF m 117 #[vr q, .val (.long mt), .second, vr io, vi us] [(.long mt), (.ref q), (.ref q)])) rfl (by rw [hml]; rfl) (Steps.refl _) (a := q) (by rw [e77]; exact q80) q80' (argsL := [(.long mt)]) (rest := [(.ref q)]) (lenOf pd_1 rfl) rfl (by show 2 * 0 + _ ≤ _; exact Nat.le_of_eq rfl) (hb hby d6_117) (fun _ _ => ⟨rfl, e77, (by decide : 2 + 0 ≤ _), (by decide : 10 + 0 ≤ _)⟩)
      dsimp only [Pt.U, Pt.locs, Pt.cells, Pt.slots] at X80 l80 y80 z80 st80 hQ80
      replace l80 := l80.symm
      subst l80 y80 z80
      obtain ⟨rfl, rfl, e80⟩ := hQ80
      first | rw [List.append_nil] at X80 | skip
      refine Goes.tr st80 ?_
      have e80' : T80.heap = h77 := e80
      show Goes p e below _ (T80.setTop (mkF m 120 #[vr q, .val (.long mt), .second, vr io, vi us] [(.int ((64 : Int32) - (own_nlzL (mt ^^^ mt)))), (.ref q)]))
      obtain ⟨nc, hnc, hnc65, hnc0⟩ := own_bkt (mt ^^^ mt)
      have hcv : cn'24 nc < 64 := by have q := own_sumL cn'24 hnc65; have q2 := HIx.1.2.2.2.2.1; omega
      refine Goes.via (fun _ kk_ => XS.lloadN X80.here hx rfl (hb hby d6_120) rfl  kk_) ?_
      show Goes p e below _ (T80.setTop (mkF m 121 #[vr q, .val (.long mt), .second, vr io, vi us] [(.long mt), (.int ((64 : Int32) - (own_nlzL (mt ^^^ mt)))), (.ref q)]))
      refine gIL X80 hx hby d6_121 rfl ?_
      have f83 := ((u24_6.other W73 (Or.inr (slot_ne (Or.inr (own_w hw 20 rfl)) (Or.inl (own_w hw 58 rfl)) (by decide) (t := (.array (.array .long))) (t' := .int) (by decide) (by decide)))).other W77 (Or.inl ne1))
      have f84 := ((u24_7.other W73 (Or.inr (slot_ne (Or.inr (own_w hw 24 rfl)) (Or.inl (own_w hw 58 rfl)) (by decide) (t := (.array (.array .int))) (t' := .int) (by decide) (by decide)))).other W77 (Or.inl ne1))
      have f85 := ((u24_8.other W73 (Or.inr (slot_ne (Or.inr (own_w hw 26 rfl)) (Or.inl (own_w hw 58 rfl)) (by decide) (t := (.array .int)) (t' := .int) (by decide) (by decide)))).other W77 (Or.inl ne1))
      have f86 := ((u24_15.off W73 (show (q : Nat) < mo ∨ mo + 65 < q by omega)).off W77 (show (it : Nat) < mo ∨ mo + 65 < it by omega))
      have f87 := ((u24_16.off W73 (show (q : Nat) < sl ∨ sl + 65 < q by omega)).off W77 (show (it : Nat) < sl ∨ sl + 65 < it by omega))
      have f88 := ((u24_17.other W73 (Ne.symm ne3)).other W77 (show (ct : Nat) ≠ it by omega))
      obtain ⟨cq89, q89, q89'⟩ := f82.cell
      obtain ⟨_, _, ⟨T89, L89, k89, n89⟩, -, X89, ⟨Lc89, hQ89, l89, y89, z89⟩, st89⟩ := X80.privateBack hx (y := mN_EventQueue_append) hown (mvT hZ (own_w hw 71 rfl)) (mvT hZ (own_w hw 72 rfl)) (mvT hZ (own_selP (y := mN_EventQueue_append) (own_w hw 1 rfl) (own_w hw 73 rfl) (own_w hw 72 rfl) (by decide))) (Cond.privateMethod_at (mvP hZ (own_w hw 73 rfl) (args := #[]))) (mvT hZ (own_w hw 74 rfl)) (by decide) (backOf (W := 0) (rmAp l Z a0 hw [] q ((64 : Int32) - (own_nlzL (mt ^^^ mt))) mt us mo sl ct kM kN kS kU kC gM'24 gS'24 cn'24 nc h77 n0 (Nat.le_trans Z0 z81) f83 f84 f85 f86 f87 f88 (show n0 ≤ mo by omega) (by first | assumption | rfl | decide | omega | (simp; done)) HLd HLe hnc hnc65 hcv) hZ (own_w hw 74 rfl) (own_w hw 2 rfl) (by decide) (by decide)) (g := (mkF m 123 #[vr q, .val (.long mt), .second, vr io, vi us] [(.int us), (.long mt), (.int ((64 : Int32) - (own_nlzL (mt ^^^ mt)))), (.ref q)])) rfl (by rw [hml]; rfl) (Steps.refl _) (a := q) (by rw [e80']; exact q89) q89' (argsL := [(.int ((64 : Int32) - (own_nlzL (mt ^^^ mt)))), (.long mt), (.int us)]) (rest := []) (lenOf pd_3 rfl) rfl (by show 2 * 0 + _ ≤ _; exact Nat.le_of_eq rfl) (hb hby d6_123) (fun _ _ => ⟨rfl, e80', (by decide : 2 + 0 ≤ _), (by decide : 10 + 0 ≤ _)⟩)
      dsimp only [Pt.U, Pt.locs, Pt.cells, Pt.slots] at X89 l89 y89 z89 st89 hQ89
      replace l89 := l89.symm
      subst l89 y89 z89
      obtain ⟨rfl, N89q, K89, u89_0, u89_1, u89_2⟩ := hQ89
      have N89 := Fr.app N77 N89q
      refine Goes.tr st89 ?_
      show Goes p e below _ (T89.setTop (mkF m 126 #[vr q, .val (.long mt), .second, vr io, vi us] []))
      refine gALN X89 hx hby d6_126 rfl rfl ?_
      refine gDU X89 hx hby d6_127 rfl ?_
      have f90 := (((u24_5.other W73 (Or.inr (slot_ne (Or.inl (own_w hw 38 rfl)) (Or.inl (own_w hw 58 rfl)) (by decide) (t := .int) (t' := .int) (by decide) (by decide)))).other W77 (Or.inl ne1)).keep K89 (ninS ne3 (ninS (show (q : Nat) ≠ (mo + 1 + nc) by omega) (ninS (show (q : Nat) ≠ (sl + 1 + nc) by omega) nin0))))
      obtain ⟨T91, X91, e91, st91⟩ := getF X89 hx hZ hown (host := "") (Or.inl (own_w hw 37 rfl)) Via.refl rfl f90 (g := (mkF m 128 #[vr q, .val (.long mt), .second, vr io, vi us] [(.ref q), (.ref q)])) rfl rfl (hb hby d6_128)
      refine Goes.via st91 ?_
      show Goes p e below _ (T91.setTop (mkF m 131 #[vr q, .val (.long mt), .second, vr io, vi us] [(.int sz), (.ref q)]))
      refine gIC (z := 1) X91 hx hby d6_131 rfl ?_
      refine Goes.via (fun _ kk_ => XS.iadd X91.here hx rfl (hb hby d6_132) rfl kk_) ?_
      show Goes p e below _ (T91.setTop (mkF m 133 #[vr q, .val (.long mt), .second, vr io, vi us] [(.int (sz + (1 : Int32))), (.ref q)]))
      have f92 := (f82.keep K89)
      obtain ⟨T93, h93, X93, e93, W93, st93⟩ := putF X91 hx hZ hown (host := "") (Or.inl (own_w hw 37 rfl)) Via.refl e91 f90 f92 (Or.inl (own_w hw 38 rfl)) (own_w hw 1 rfl) (ty := .int) (by decide) rfl rfl (g := (mkF m 133 #[vr q, .val (.long mt), .second, vr io, vi us] [(.int (sz + (1 : Int32))), (.ref q)])) rfl rfl (hb hby d6_133)
      refine Goes.via st93 ?_
      have N93 := Fr.snoc X93 N89 H18
      have Fw93 : Fld Z h93 q "nearhop/sim/EventQueue" "size" "I" (.int (sz + (1 : Int32))) := f90.same W93
      show Goes p e below _ (T93.setTop (mkF m 136 #[vr q, .val (.long mt), .second, vr io, vi us] []))
      have K94 : KpN n0 h0 h93 := (((((((KpN.refl n0 h0).wr W5 H18).trans K24).wr W73 H18).wr W77 (show n0 ≤ it by omega)).call K89 (allS (show n0 ≤ ct by omega) (allS (show n0 ≤ (mo + 1 + nc) by omega) (allS (show n0 ≤ (sl + 1 + nc) by omega) all0)))).wr W93 H18)
      have f95 := (f92.wr W93)
      have f96 := (((f74.other W77 (Or.inl ne1)).keep K89 (ninS ne3 (ninS (show (q : Nat) ≠ (mo + 1 + nc) by omega) (ninS (show (q : Nat) ≠ (sl + 1 + nc) by omega) nin0)))).other W93 (Or.inr (slot_ne (Or.inl (own_w hw 12 rfl)) (Or.inl (own_w hw 38 rfl)) (by decide) (t := (.array (.object "java/lang/Object"))) (t' := .int) (by decide) (by decide))))
      have f97 := ((((u24_2.other W73 (Or.inr (slot_ne (Or.inl (own_w hw 15 rfl)) (Or.inl (own_w hw 58 rfl)) (by decide) (t := (.array .int)) (t' := .int) (by decide) (by decide)))).other W77 (Or.inl ne1)).keep K89 (ninS ne3 (ninS (show (q : Nat) ≠ (mo + 1 + nc) by omega) (ninS (show (q : Nat) ≠ (sl + 1 + nc) by omega) nin0)))).other W93 (Or.inr (slot_ne (Or.inl (own_w hw 15 rfl)) (Or.inl (own_w hw 38 rfl)) (by decide) (t := (.array .int)) (t' := .int) (by decide) (by decide))))
      have f98 := ((((u24_3.other W73 (Or.inr (slot_ne (Or.inl (own_w hw 56 rfl)) (Or.inl (own_w hw 58 rfl)) (by decide) (t := .int) (t' := .int) (by decide) (by decide)))).other W77 (Or.inl ne1)).keep K89 (ninS ne3 (ninS (show (q : Nat) ≠ (mo + 1 + nc) by omega) (ninS (show (q : Nat) ≠ (sl + 1 + nc) by omega) nin0)))).other W93 (Or.inr (slot_ne (Or.inl (own_w hw 56 rfl)) (Or.inl (own_w hw 38 rfl)) (by decide) (t := .int) (t' := .int) (by decide) (by decide))))
      have f99 := (((Fw73.other W77 (Or.inl ne1)).keep K89 (ninS ne3 (ninS (show (q : Nat) ≠ (mo + 1 + nc) by omega) (ninS (show (q : Nat) ≠ (sl + 1 + nc) by omega) nin0)))).other W93 (Or.inr (slot_ne (Or.inl (own_w hw 58 rfl)) (Or.inl (own_w hw 38 rfl)) (by decide) (t := .int) (t' := .int) (by decide) (by decide))))
      have f100 := ((f83.keep K89 (ninS ne3 (ninS (show (q : Nat) ≠ (mo + 1 + nc) by omega) (ninS (show (q : Nat) ≠ (sl + 1 + nc) by omega) nin0)))).other W93 (Or.inr (slot_ne (Or.inr (own_w hw 20 rfl)) (Or.inl (own_w hw 38 rfl)) (by decide) (t := (.array (.array .long))) (t' := .int) (by decide) (by decide))))
      have f101 := ((f84.keep K89 (ninS ne3 (ninS (show (q : Nat) ≠ (mo + 1 + nc) by omega) (ninS (show (q : Nat) ≠ (sl + 1 + nc) by omega) nin0)))).other W93 (Or.inr (slot_ne (Or.inr (own_w hw 24 rfl)) (Or.inl (own_w hw 38 rfl)) (by decide) (t := (.array (.array .int))) (t' := .int) (by decide) (by decide))))
      have f102 := ((f85.keep K89 (ninS ne3 (ninS (show (q : Nat) ≠ (mo + 1 + nc) by omega) (ninS (show (q : Nat) ≠ (sl + 1 + nc) by omega) nin0)))).other W93 (Or.inr (slot_ne (Or.inr (own_w hw 26 rfl)) (Or.inl (own_w hw 38 rfl)) (by decide) (t := (.array .int)) (t' := .int) (by decide) (by decide))))
      have f103 := ((((u24_9.other W73 (Or.inr (slot_ne (Or.inl (own_w hw 83 rfl)) (Or.inl (own_w hw 58 rfl)) (by decide) (t := .int) (t' := .int) (by decide) (by decide)))).other W77 (Or.inl ne1)).keep K89 (ninS ne3 (ninS (show (q : Nat) ≠ (mo + 1 + nc) by omega) (ninS (show (q : Nat) ≠ (sl + 1 + nc) by omega) nin0)))).other W93 (Or.inr (slot_ne (Or.inl (own_w hw 83 rfl)) (Or.inl (own_w hw 38 rfl)) (by decide) (t := .int) (t' := .int) (by decide) (by decide))))
      have f104 := ((f79.keep K89 (ninS ne3 (ninS (show (q : Nat) ≠ (mo + 1 + nc) by omega) (ninS (show (q : Nat) ≠ (sl + 1 + nc) by omega) nin0)))).other W93 (Or.inr (slot_ne (Or.inl (own_w hw 29 rfl)) (Or.inl (own_w hw 38 rfl)) (by decide) (t := .long) (t' := .int) (by decide) (by decide))))
      have f105 := ((((u24_11.other W73 (Or.inr (slot_ne (Or.inl (own_w hw 31 rfl)) (Or.inl (own_w hw 58 rfl)) (by decide) (t := .int) (t' := .int) (by decide) (by decide)))).other W77 (Or.inl ne1)).keep K89 (ninS ne3 (ninS (show (q : Nat) ≠ (mo + 1 + nc) by omega) (ninS (show (q : Nat) ≠ (sl + 1 + nc) by omega) nin0)))).other W93 (Or.inr (slot_ne (Or.inl (own_w hw 31 rfl)) (Or.inl (own_w hw 38 rfl)) (by decide) (t := .int) (t' := .int) (by decide) (by decide))))
      have f106 := ((((u24_12.other W73 (Or.inr (slot_ne (Or.inl (own_w hw 89 rfl)) (Or.inl (own_w hw 58 rfl)) (by decide) (t := .long) (t' := .int) (by decide) (by decide)))).other W77 (Or.inl ne1)).keep K89 (ninS ne3 (ninS (show (q : Nat) ≠ (mo + 1 + nc) by omega) (ninS (show (q : Nat) ≠ (sl + 1 + nc) by omega) nin0)))).other W93 (Or.inr (slot_ne (Or.inl (own_w hw 89 rfl)) (Or.inl (own_w hw 38 rfl)) (by decide) (t := .long) (t' := .int) (by decide) (by decide))))
      have f107 := ((A77.keep K89 (ninS (show (it : Nat) ≠ ct by omega) (ninS (show (it : Nat) ≠ (mo + 1 + nc) by omega) (ninS (show (it : Nat) ≠ (sl + 1 + nc) by omega) nin0)))).other W93 (Ne.symm ne1))
      have f108 := ((((u24_14.other W73 (Ne.symm ne2)).other W77 (show (fr : Nat) ≠ it by omega)).keep K89 (ninS (show (fr : Nat) ≠ ct by omega) (ninS (show (fr : Nat) ≠ (mo + 1 + nc) by omega) (ninS (show (fr : Nat) ≠ (sl + 1 + nc) by omega) nin0)))).other W93 (Ne.symm ne2))
      have f109 := (u89_0.off W93 (show (q : Nat) < mo ∨ mo + 65 < q by omega))
      have f110 := (u89_1.off W93 (show (q : Nat) < sl ∨ sl + 65 < q by omega))
      have f111 := (u89_2.other W93 (Ne.symm ne3))
      exact own_finV X93 hx hlk hret (hb hby d6_136) (by rw [e93]; exact ⟨fs, (us + (1 : Int32)), (0 : Int32), mt, (own_upd fI nv (.ref io)), (own_gu gM'24 nc (cn'24 nc) mt), (own_gu gS'24 nc (cn'24 nc) us), (own_cu cn'24 nc (cn'24 nc + 1)), rfl, N93, K94, f95, f96, f97, f98, f99, Fw93, f100, f101, f102, f103, f104, f105, f106, f107, f108, f109, f110, f111, (own_Iadd HIx HK hnc65 hsv ⟨by omega, by omega⟩ ⟨by omega, by omega⟩)⟩) (by first | decide | omega | (dsimp only; omega)) (by first | decide | omega | (dsimp only; omega))
  · skip
    refine Goes.via (fun _ kk_ => XS.ifYes X7.here hx rfl (pc0 := 11) (pc' := 19) rfl (hb hby d6_11) rfl ((if0 _ _).trans (flt (fun q => hc11 ((lw_lt mt rf).mp q))).2.1) (by decide) (by decide) kk_) ?_
    show Goes p e below _ (T7.setTop (mkF m 19 #[vr q, .val (.long mt), .second, vr io, .unset] []))
    have HIx := HI
    refine gALN X7 hx hby d6_19 rfl rfl ?_
    have f112 := (F3_q_freeSlots.other W5 (Or.inr (slot_ne (Or.inl (own_w hw 56 rfl)) (Or.inl (own_w hw 31 rfl)) (by decide) (t := .int) (t' := .int) (by decide) (by decide))))
    obtain ⟨T113, X113, e113, st113⟩ := getF X7 hx hZ hown (host := "") (Or.inl (own_w hw 55 rfl)) Via.refl e7 f112 (g := (mkF m 20 #[vr q, .val (.long mt), .second, vr io, .unset] [(.ref q)])) rfl rfl (hb hby d6_20)
    refine Goes.via st113 ?_
    show Goes p e below _ (T113.setTop (mkF m 23 #[vr q, .val (.long mt), .second, vr io, .unset] [(.int fs)]))
    by_cases hc23 : (0 : Int32) < fs
    · skip
      refine Goes.via (fun _ kk_ => XS.ifNo X113.here hx rfl (hb hby d6_23) rfl ((if0 _ _).trans (tlt hc23).2.2.2) kk_) ?_
      show Goes p e below _ (T113.setTop (mkF m 26 #[vr q, .val (.long mt), .second, vr io, .unset] []))
      have hfs0 : 1 ≤ fs.toInt := by have q := own_lti.mp hc23; have e : (0 : Int32).toInt = 0 := (by decide); omega
      have hfs1 := own_d1 (x := fs) hfs0 (by omega)
      obtain ⟨nf1, hnf1⟩ := own_nat (x := fs - (1 : Int32)) (by omega)
      refine gALN X113 hx hby d6_26 rfl rfl ?_
      have f114 := (F2_q_free.other W5 (Or.inr (slot_ne (Or.inl (own_w hw 15 rfl)) (Or.inl (own_w hw 31 rfl)) (by decide) (t := (.array .int)) (t' := .int) (by decide) (by decide))))
      obtain ⟨T115, X115, e115, st115⟩ := getF X113 hx hZ hown (host := "") (Or.inl (own_w hw 14 rfl)) Via.refl e113 f114 (g := (mkF m 27 #[vr q, .val (.long mt), .second, vr io, .unset] [(.ref q)])) rfl rfl (hb hby d6_27)
      refine Goes.via st115 ?_
      show Goes p e below _ (T115.setTop (mkF m 30 #[vr q, .val (.long mt), .second, vr io, .unset] [(.ref fr)]))
      refine gALN X115 hx hby d6_30 rfl rfl ?_
      refine gDU X115 hx hby d6_31 rfl ?_
      obtain ⟨T116, X116, e116, st116⟩ := getF X115 hx hZ hown (host := "") (Or.inl (own_w hw 55 rfl)) Via.refl e115 f112 (g := (mkF m 32 #[vr q, .val (.long mt), .second, vr io, .unset] [(.ref q), (.ref q), (.ref fr)])) rfl rfl (hb hby d6_32)
      refine Goes.via st116 ?_
      show Goes p e below _ (T116.setTop (mkF m 35 #[vr q, .val (.long mt), .second, vr io, .unset] [(.int fs), (.ref q), (.ref fr)]))
      refine gIC (z := 1) X116 hx hby d6_35 rfl ?_
      refine Goes.via (fun _ kk_ => XS.isub X116.here hx rfl (hb hby d6_36) rfl kk_) ?_
      show Goes p e below _ (T116.setTop (mkF m 37 #[vr q, .val (.long mt), .second, vr io, .unset] [(.int (fs - (1 : Int32))), (.ref q), (.ref fr)]))
      refine Goes.via (fun _ kk_ => XS.dupX1 X116.here hx rfl (hb hby d6_37) rfl rfl rfl kk_) ?_
      show Goes p e below _ (T116.setTop (mkF m 38 #[vr q, .val (.long mt), .second, vr io, .unset] [(.int (fs - (1 : Int32))), (.ref q), (.int (fs - (1 : Int32))), (.ref fr)]))
      have f117 := (E0_q.wr W5)
      obtain ⟨T118, h118, X118, e118, W118, st118⟩ := putF X116 hx hZ hown (host := "") (Or.inl (own_w hw 55 rfl)) Via.refl e116 f112 f117 (Or.inl (own_w hw 56 rfl)) (own_w hw 1 rfl) (ty := .int) (by decide) rfl rfl (g := (mkF m 38 #[vr q, .val (.long mt), .second, vr io, .unset] [(.int (fs - (1 : Int32))), (.ref q), (.int (fs - (1 : Int32))), (.ref fr)])) rfl rfl (hb hby d6_38)
      refine Goes.via st118 ?_
      have N118 := Fr.snoc X118 N5 H18
      have Fw118 : Fld Z h118 q "nearhop/sim/EventQueue" "freeSlots" "I" (.int (fs - (1 : Int32))) := f112.same W118
      show Goes p e below _ (T118.setTop (mkF m 41 #[vr q, .val (.long mt), .second, vr io, .unset] [(.int (fs - (1 : Int32))), (.ref fr)]))
      have f119 := ((A14_fr.other W5 (Ne.symm ne2)).other W118 (Ne.symm ne2))
      refine Goes.via (own_iaload X118 hx hZ e118 f119 (j := (fs - (1 : Int32))) (i := nf1) (own_ix hnf1).1 (own_ix hnf1).2 (by omega) (v := (fF nf1)) rfl (g := (mkF m 41 #[vr q, .val (.long mt), .second, vr io, .unset] [(.int (fs - (1 : Int32))), (.ref fr)])) rfl rfl (hb hby d6_41)) ?_
      show Goes p e below _ (T118.setTop (mkF m 42 #[vr q, .val (.long mt), .second, vr io, .unset] [(.int (fF nf1))]))
      refine Goes.via (fun _ kk_ => XS.istore X118.here hx rfl (hb hby d6_42) rfl (l' := #[vr q, .val (.long mt), .second, vr io, vi (fF nf1)]) rfl kk_) ?_
      show Goes p e below _ (T118.setTop (mkF m 44 #[vr q, .val (.long mt), .second, vr io, vi (fF nf1)] []))
      refine Goes.via (fun _ kk_ => XS.goto X118.here hx rfl (pc0 := 44) (pc' := 106) rfl (hb hby d6_44) (by decide) (by decide) kk_) ?_
      show Goes p e below _ (T118.setTop (mkF m 106 #[vr q, .val (.long mt), .second, vr io, vi (fF nf1)] []))
      have hsv : 0 ≤ ((fF nf1)).toInt ∧ ((fF nf1)).toInt < 64 := b2 nf1
      obtain ⟨nv, hnv⟩ := own_nat hsv.1
      refine gALN X118 hx hby d6_106 rfl rfl ?_
      have f120 := ((F1_q_items.other W5 (Or.inr (slot_ne (Or.inl (own_w hw 12 rfl)) (Or.inl (own_w hw 31 rfl)) (by decide) (t := (.array (.object "java/lang/Object"))) (t' := .int) (by decide) (by decide)))).other W118 (Or.inr (slot_ne (Or.inl (own_w hw 12 rfl)) (Or.inl (own_w hw 56 rfl)) (by decide) (t := (.array (.object "java/lang/Object"))) (t' := .int) (by decide) (by decide))))
      obtain ⟨T121, X121, e121, st121⟩ := getF X118 hx hZ hown (host := "") (Or.inl (own_w hw 11 rfl)) Via.refl e118 f120 (g := (mkF m 107 #[vr q, .val (.long mt), .second, vr io, vi (fF nf1)] [(.ref q)])) rfl rfl (hb hby d6_107)
      refine Goes.via st121 ?_
      show Goes p e below _ (T121.setTop (mkF m 110 #[vr q, .val (.long mt), .second, vr io, vi (fF nf1)] [(.ref it)]))
      refine gIL X121 hx hby d6_110 rfl ?_
      refine gALN X121 hx hby d6_112 rfl rfl ?_
      have f122 := ((A13_it.other W5 (Ne.symm ne1)).other W118 (Ne.symm ne1))
      have f124 := ((E27_io.wr W5).wr W118)
      obtain ⟨T123, h123, X123, e123, W123, A123, st123⟩ := own_aastore X121 hx hZ e121 f122 rfl rfl OVr (Ins.of_exa f124 (own_w hw 59 rfl)) (j := (fF nf1)) (i := nv) (own_ix hnv).1 (own_ix hnv).2 (by omega) (g := (mkF m 113 #[vr q, .val (.long mt), .second, vr io, vi (fF nf1)] [(.ref io), (.int (fF nf1)), (.ref it)])) rfl rfl (hb hby d6_113)
      refine Goes.via st123 ?_
      have N123 := Fr.snoc X123 N118 (show n0 ≤ it by omega)
      show Goes p e below _ (T123.setTop (mkF m 114 #[vr q, .val (.long mt), .second, vr io, vi (fF nf1)] []))
      refine gALN X123 hx hby d6_114 rfl rfl ?_
      refine gALN X123 hx hby d6_115 rfl rfl ?_
      refine Goes.via (fun _ kk_ => XS.lloadN X123.here hx rfl (hb hby d6_116) rfl  kk_) ?_
      show Goes p e below _ (T123.setTop (mkF m 117 #[vr q, .val (.long mt), .second, vr io, vi (fF nf1)] [(.long mt), (.ref q), (.ref q)]))
      have f125 := ((f6.other W118 (Or.inr (slot_ne (Or.inl (own_w hw 29 rfl)) (Or.inl (own_w hw 56 rfl)) (by decide) (t := .long) (t' := .int) (by decide) (by decide)))).other W123 (Or.inl ne1))
      have z127 : h0.size ≤ (h123).size := (Nat.le_trans (Nat.le_trans (Nat.le_trans (Nat.le_refl _) (Nat.le_of_eq W5.size.symm)) (Nat.le_of_eq W118.size.symm)) (Nat.le_of_eq W123.size.symm))
      have f128 := ((f117.wr W118).wr W123)
      obtain ⟨cq126, q126, q126'⟩ := f128.cell
      obtain ⟨_, _, ⟨T126, L126, k126, n126⟩, -, X126, ⟨Lc126, hQ126, l126, y126, z126⟩, st126⟩ := X123.privateBack hx (y := mN_EventQueue_bucketOf) hown (mvT hZ (own_w hw 60 rfl)) (mvT hZ (own_w hw 61 rfl)) (mvT hZ (own_selP (y := mN_EventQueue_bucketOf) (own_w hw 1 rfl) (own_w hw 62 rfl) (own_w hw 61 rfl) (by decide))) (Cond.privateMethod_at (mvP hZ (own_w hw 62 rfl) (args := #[]))) (mvT hZ (own_w hw 63 rfl)) (by decide) (backOf (W := 1) (rmBk l Z a0 hw [] q mt rf h123 n0 (Nat.le_trans Z0 z127) f125) hZ (own_w hw 63 rfl) (own_w hw 2 rfl) (by decide) (by decide)) (g := (mkF m 117 #[vr q, .val (.long mt), .second, vr io, vi (fF nf1)] [(.long mt), (.ref q), (.ref q)])) rfl (by rw [hml]; rfl) (Steps.refl _) (a := q) (by rw [e123]; exact q126) q126' (argsL := [(.long mt)]) (rest := [(.ref q)]) (lenOf pd_1 rfl) rfl (by show 2 * 0 + _ ≤ _; exact Nat.le_of_eq rfl) (hb hby d6_117) (fun _ _ => ⟨rfl, e123, (by decide : 0 + 0 ≤ _), (by decide : 0 + 0 ≤ _)⟩)
      dsimp only [Pt.U, Pt.locs, Pt.cells, Pt.slots] at X126 l126 y126 z126 st126 hQ126
      replace l126 := l126.symm
      subst l126 y126 z126
      obtain ⟨rfl, rfl, e126⟩ := hQ126
      first | rw [List.append_nil] at X126 | skip
      refine Goes.tr st126 ?_
      have e126' : T126.heap = h123 := e126
      show Goes p e below _ (T126.setTop (mkF m 120 #[vr q, .val (.long mt), .second, vr io, vi (fF nf1)] [(.int ((64 : Int32) - (own_nlzL (mt ^^^ rf)))), (.ref q)]))
      obtain ⟨nc, hnc, hnc65, hnc0⟩ := own_bkt (mt ^^^ rf)
      have hcv : cn nc < 64 := by have q := own_sumL cn hnc65; have q2 := HIx.1.2.2.2.2.1; omega
      refine Goes.via (fun _ kk_ => XS.lloadN X126.here hx rfl (hb hby d6_120) rfl  kk_) ?_
      show Goes p e below _ (T126.setTop (mkF m 121 #[vr q, .val (.long mt), .second, vr io, vi (fF nf1)] [(.long mt), (.int ((64 : Int32) - (own_nlzL (mt ^^^ rf)))), (.ref q)]))
      refine gIL X126 hx hby d6_121 rfl ?_
      have f129 := (((F6_q_moments.other W5 (Or.inr (slot_ne (Or.inr (own_w hw 20 rfl)) (Or.inl (own_w hw 31 rfl)) (by decide) (t := (.array (.array .long))) (t' := .int) (by decide) (by decide)))).other W118 (Or.inr (slot_ne (Or.inr (own_w hw 20 rfl)) (Or.inl (own_w hw 56 rfl)) (by decide) (t := (.array (.array .long))) (t' := .int) (by decide) (by decide)))).other W123 (Or.inl ne1))
      have f130 := (((F7_q_slots.other W5 (Or.inr (slot_ne (Or.inr (own_w hw 24 rfl)) (Or.inl (own_w hw 31 rfl)) (by decide) (t := (.array (.array .int))) (t' := .int) (by decide) (by decide)))).other W118 (Or.inr (slot_ne (Or.inr (own_w hw 24 rfl)) (Or.inl (own_w hw 56 rfl)) (by decide) (t := (.array (.array .int))) (t' := .int) (by decide) (by decide)))).other W123 (Or.inl ne1))
      have f131 := (((F8_q_counts.other W5 (Or.inr (slot_ne (Or.inr (own_w hw 26 rfl)) (Or.inl (own_w hw 31 rfl)) (by decide) (t := (.array .int)) (t' := .int) (by decide) (by decide)))).other W118 (Or.inr (slot_ne (Or.inr (own_w hw 26 rfl)) (Or.inl (own_w hw 56 rfl)) (by decide) (t := (.array .int)) (t' := .int) (by decide) (by decide)))).other W123 (Or.inl ne1))
      have f132 := (((A15_mo.off W5 (show (q : Nat) < mo ∨ mo + 65 < q by omega)).off W118 (show (q : Nat) < mo ∨ mo + 65 < q by omega)).off W123 (show (it : Nat) < mo ∨ mo + 65 < it by omega))
      have f133 := (((A16_sl.off W5 (show (q : Nat) < sl ∨ sl + 65 < q by omega)).off W118 (show (q : Nat) < sl ∨ sl + 65 < q by omega)).off W123 (show (it : Nat) < sl ∨ sl + 65 < it by omega))
      have f134 := (((A17_ct.other W5 (Ne.symm ne3)).other W118 (Ne.symm ne3)).other W123 (show (ct : Nat) ≠ it by omega))
      obtain ⟨cq135, q135, q135'⟩ := f128.cell
      obtain ⟨_, _, ⟨T135, L135, k135, n135⟩, -, X135, ⟨Lc135, hQ135, l135, y135, z135⟩, st135⟩ := X126.privateBack hx (y := mN_EventQueue_append) hown (mvT hZ (own_w hw 71 rfl)) (mvT hZ (own_w hw 72 rfl)) (mvT hZ (own_selP (y := mN_EventQueue_append) (own_w hw 1 rfl) (own_w hw 73 rfl) (own_w hw 72 rfl) (by decide))) (Cond.privateMethod_at (mvP hZ (own_w hw 73 rfl) (args := #[]))) (mvT hZ (own_w hw 74 rfl)) (by decide) (backOf (W := 0) (rmAp l Z a0 hw [] q ((64 : Int32) - (own_nlzL (mt ^^^ rf))) mt (fF nf1) mo sl ct kM kN kS kU kC gM gS cn nc h123 n0 (Nat.le_trans Z0 z127) f129 f130 f131 f132 f133 f134 (show n0 ≤ mo by omega) (by first | assumption | rfl | decide | omega | (simp; done)) HLd HLe hnc hnc65 hcv) hZ (own_w hw 74 rfl) (own_w hw 2 rfl) (by decide) (by decide)) (g := (mkF m 123 #[vr q, .val (.long mt), .second, vr io, vi (fF nf1)] [(.int (fF nf1)), (.long mt), (.int ((64 : Int32) - (own_nlzL (mt ^^^ rf)))), (.ref q)])) rfl (by rw [hml]; rfl) (Steps.refl _) (a := q) (by rw [e126']; exact q135) q135' (argsL := [(.int ((64 : Int32) - (own_nlzL (mt ^^^ rf)))), (.long mt), (.int (fF nf1))]) (rest := []) (lenOf pd_3 rfl) rfl (by show 2 * 0 + _ ≤ _; exact Nat.le_of_eq rfl) (hb hby d6_123) (fun _ _ => ⟨rfl, e126', (by decide : 0 + 0 ≤ _), (by decide : 0 + 0 ≤ _)⟩)
      dsimp only [Pt.U, Pt.locs, Pt.cells, Pt.slots] at X135 l135 y135 z135 st135 hQ135
      replace l135 := l135.symm
      subst l135 y135 z135
      obtain ⟨rfl, N135q, K135, u135_0, u135_1, u135_2⟩ := hQ135
      have N135 := Fr.app N123 N135q
      refine Goes.tr st135 ?_
      show Goes p e below _ (T135.setTop (mkF m 126 #[vr q, .val (.long mt), .second, vr io, vi (fF nf1)] []))
      refine gALN X135 hx hby d6_126 rfl rfl ?_
      refine gDU X135 hx hby d6_127 rfl ?_
      have f136 := ((((F5_q_size.other W5 (Or.inr (slot_ne (Or.inl (own_w hw 38 rfl)) (Or.inl (own_w hw 31 rfl)) (by decide) (t := .int) (t' := .int) (by decide) (by decide)))).other W118 (Or.inr (slot_ne (Or.inl (own_w hw 38 rfl)) (Or.inl (own_w hw 56 rfl)) (by decide) (t := .int) (t' := .int) (by decide) (by decide)))).other W123 (Or.inl ne1)).keep K135 (ninS ne3 (ninS (show (q : Nat) ≠ (mo + 1 + nc) by omega) (ninS (show (q : Nat) ≠ (sl + 1 + nc) by omega) nin0))))
      obtain ⟨T137, X137, e137, st137⟩ := getF X135 hx hZ hown (host := "") (Or.inl (own_w hw 37 rfl)) Via.refl rfl f136 (g := (mkF m 128 #[vr q, .val (.long mt), .second, vr io, vi (fF nf1)] [(.ref q), (.ref q)])) rfl rfl (hb hby d6_128)
      refine Goes.via st137 ?_
      show Goes p e below _ (T137.setTop (mkF m 131 #[vr q, .val (.long mt), .second, vr io, vi (fF nf1)] [(.int sz), (.ref q)]))
      refine gIC (z := 1) X137 hx hby d6_131 rfl ?_
      refine Goes.via (fun _ kk_ => XS.iadd X137.here hx rfl (hb hby d6_132) rfl kk_) ?_
      show Goes p e below _ (T137.setTop (mkF m 133 #[vr q, .val (.long mt), .second, vr io, vi (fF nf1)] [(.int (sz + (1 : Int32))), (.ref q)]))
      have f138 := (f128.keep K135)
      obtain ⟨T139, h139, X139, e139, W139, st139⟩ := putF X137 hx hZ hown (host := "") (Or.inl (own_w hw 37 rfl)) Via.refl e137 f136 f138 (Or.inl (own_w hw 38 rfl)) (own_w hw 1 rfl) (ty := .int) (by decide) rfl rfl (g := (mkF m 133 #[vr q, .val (.long mt), .second, vr io, vi (fF nf1)] [(.int (sz + (1 : Int32))), (.ref q)])) rfl rfl (hb hby d6_133)
      refine Goes.via st139 ?_
      have N139 := Fr.snoc X139 N135 H18
      have Fw139 : Fld Z h139 q "nearhop/sim/EventQueue" "size" "I" (.int (sz + (1 : Int32))) := f136.same W139
      show Goes p e below _ (T139.setTop (mkF m 136 #[vr q, .val (.long mt), .second, vr io, vi (fF nf1)] []))
      have K140 : KpN n0 h0 h139 := ((((((KpN.refl n0 h0).wr W5 H18).wr W118 H18).wr W123 (show n0 ≤ it by omega)).call K135 (allS (show n0 ≤ ct by omega) (allS (show n0 ≤ (mo + 1 + nc) by omega) (allS (show n0 ≤ (sl + 1 + nc) by omega) all0)))).wr W139 H18)
      have f141 := (f138.wr W139)
      have f142 := (((f120.other W123 (Or.inl ne1)).keep K135 (ninS ne3 (ninS (show (q : Nat) ≠ (mo + 1 + nc) by omega) (ninS (show (q : Nat) ≠ (sl + 1 + nc) by omega) nin0)))).other W139 (Or.inr (slot_ne (Or.inl (own_w hw 12 rfl)) (Or.inl (own_w hw 38 rfl)) (by decide) (t := (.array (.object "java/lang/Object"))) (t' := .int) (by decide) (by decide))))
      have f143 := ((((f114.other W118 (Or.inr (slot_ne (Or.inl (own_w hw 15 rfl)) (Or.inl (own_w hw 56 rfl)) (by decide) (t := (.array .int)) (t' := .int) (by decide) (by decide)))).other W123 (Or.inl ne1)).keep K135 (ninS ne3 (ninS (show (q : Nat) ≠ (mo + 1 + nc) by omega) (ninS (show (q : Nat) ≠ (sl + 1 + nc) by omega) nin0)))).other W139 (Or.inr (slot_ne (Or.inl (own_w hw 15 rfl)) (Or.inl (own_w hw 38 rfl)) (by decide) (t := (.array .int)) (t' := .int) (by decide) (by decide))))
      have f144 := (((Fw118.other W123 (Or.inl ne1)).keep K135 (ninS ne3 (ninS (show (q : Nat) ≠ (mo + 1 + nc) by omega) (ninS (show (q : Nat) ≠ (sl + 1 + nc) by omega) nin0)))).other W139 (Or.inr (slot_ne (Or.inl (own_w hw 56 rfl)) (Or.inl (own_w hw 38 rfl)) (by decide) (t := .int) (t' := .int) (by decide) (by decide))))
      have f145 := (((((F4_q_used.other W5 (Or.inr (slot_ne (Or.inl (own_w hw 58 rfl)) (Or.inl (own_w hw 31 rfl)) (by decide) (t := .int) (t' := .int) (by decide) (by decide)))).other W118 (Or.inr (slot_ne (Or.inl (own_w hw 58 rfl)) (Or.inl (own_w hw 56 rfl)) (by decide) (t := .int) (t' := .int) (by decide) (by decide)))).other W123 (Or.inl ne1)).keep K135 (ninS ne3 (ninS (show (q : Nat) ≠ (mo + 1 + nc) by omega) (ninS (show (q : Nat) ≠ (sl + 1 + nc) by omega) nin0)))).other W139 (Or.inr (slot_ne (Or.inl (own_w hw 58 rfl)) (Or.inl (own_w hw 38 rfl)) (by decide) (t := .int) (t' := .int) (by decide) (by decide))))
      have f146 := ((f129.keep K135 (ninS ne3 (ninS (show (q : Nat) ≠ (mo + 1 + nc) by omega) (ninS (show (q : Nat) ≠ (sl + 1 + nc) by omega) nin0)))).other W139 (Or.inr (slot_ne (Or.inr (own_w hw 20 rfl)) (Or.inl (own_w hw 38 rfl)) (by decide) (t := (.array (.array .long))) (t' := .int) (by decide) (by decide))))
      have f147 := ((f130.keep K135 (ninS ne3 (ninS (show (q : Nat) ≠ (mo + 1 + nc) by omega) (ninS (show (q : Nat) ≠ (sl + 1 + nc) by omega) nin0)))).other W139 (Or.inr (slot_ne (Or.inr (own_w hw 24 rfl)) (Or.inl (own_w hw 38 rfl)) (by decide) (t := (.array (.array .int))) (t' := .int) (by decide) (by decide))))
      have f148 := ((f131.keep K135 (ninS ne3 (ninS (show (q : Nat) ≠ (mo + 1 + nc) by omega) (ninS (show (q : Nat) ≠ (sl + 1 + nc) by omega) nin0)))).other W139 (Or.inr (slot_ne (Or.inr (own_w hw 26 rfl)) (Or.inl (own_w hw 38 rfl)) (by decide) (t := (.array .int)) (t' := .int) (by decide) (by decide))))
      have f149 := (((((F9_q_first.other W5 (Or.inr (slot_ne (Or.inl (own_w hw 83 rfl)) (Or.inl (own_w hw 31 rfl)) (by decide) (t := .int) (t' := .int) (by decide) (by decide)))).other W118 (Or.inr (slot_ne (Or.inl (own_w hw 83 rfl)) (Or.inl (own_w hw 56 rfl)) (by decide) (t := .int) (t' := .int) (by decide) (by decide)))).other W123 (Or.inl ne1)).keep K135 (ninS ne3 (ninS (show (q : Nat) ≠ (mo + 1 + nc) by omega) (ninS (show (q : Nat) ≠ (sl + 1 + nc) by omega) nin0)))).other W139 (Or.inr (slot_ne (Or.inl (own_w hw 83 rfl)) (Or.inl (own_w hw 38 rfl)) (by decide) (t := .int) (t' := .int) (by decide) (by decide))))
      have f150 := ((f125.keep K135 (ninS ne3 (ninS (show (q : Nat) ≠ (mo + 1 + nc) by omega) (ninS (show (q : Nat) ≠ (sl + 1 + nc) by omega) nin0)))).other W139 (Or.inr (slot_ne (Or.inl (own_w hw 29 rfl)) (Or.inl (own_w hw 38 rfl)) (by decide) (t := .long) (t' := .int) (by decide) (by decide))))
      have f151 := ((((Fw5.other W118 (Or.inr (slot_ne (Or.inl (own_w hw 31 rfl)) (Or.inl (own_w hw 56 rfl)) (by decide) (t := .int) (t' := .int) (by decide) (by decide)))).other W123 (Or.inl ne1)).keep K135 (ninS ne3 (ninS (show (q : Nat) ≠ (mo + 1 + nc) by omega) (ninS (show (q : Nat) ≠ (sl + 1 + nc) by omega) nin0)))).other W139 (Or.inr (slot_ne (Or.inl (own_w hw 31 rfl)) (Or.inl (own_w hw 38 rfl)) (by decide) (t := .int) (t' := .int) (by decide) (by decide))))
      have f152 := (((((F12_q_soonest.other W5 (Or.inr (slot_ne (Or.inl (own_w hw 89 rfl)) (Or.inl (own_w hw 31 rfl)) (by decide) (t := .long) (t' := .int) (by decide) (by decide)))).other W118 (Or.inr (slot_ne (Or.inl (own_w hw 89 rfl)) (Or.inl (own_w hw 56 rfl)) (by decide) (t := .long) (t' := .int) (by decide) (by decide)))).other W123 (Or.inl ne1)).keep K135 (ninS ne3 (ninS (show (q : Nat) ≠ (mo + 1 + nc) by omega) (ninS (show (q : Nat) ≠ (sl + 1 + nc) by omega) nin0)))).other W139 (Or.inr (slot_ne (Or.inl (own_w hw 89 rfl)) (Or.inl (own_w hw 38 rfl)) (by decide) (t := .long) (t' := .int) (by decide) (by decide))))
      have f153 := ((A123.keep K135 (ninS (show (it : Nat) ≠ ct by omega) (ninS (show (it : Nat) ≠ (mo + 1 + nc) by omega) (ninS (show (it : Nat) ≠ (sl + 1 + nc) by omega) nin0)))).other W139 (Ne.symm ne1))
      have f154 := (((f119.other W123 (show (fr : Nat) ≠ it by omega)).keep K135 (ninS (show (fr : Nat) ≠ ct by omega) (ninS (show (fr : Nat) ≠ (mo + 1 + nc) by omega) (ninS (show (fr : Nat) ≠ (sl + 1 + nc) by omega) nin0)))).other W139 (Ne.symm ne2))
      have f155 := (u135_0.off W139 (show (q : Nat) < mo ∨ mo + 65 < q by omega))
      have f156 := (u135_1.off W139 (show (q : Nat) < sl ∨ sl + 65 < q by omega))
      have f157 := (u135_2.other W139 (Ne.symm ne3))
      exact own_finV X139 hx hlk hret (hb hby d6_136) (by rw [e139]; exact ⟨(fs - (1 : Int32)), us, fi, rf, (own_upd fI nv (.ref io)), (own_gu gM nc (cn nc) mt), (own_gu gS nc (cn nc) (fF nf1)), (own_cu cn nc (cn nc + 1)), rfl, N139, K140, f141, f142, f143, f144, f145, Fw139, f146, f147, f148, f149, f150, f151, f152, f153, f154, f155, f156, f157, (own_Iadd HIx HK hnc65 hsv ⟨by omega, by omega⟩ ⟨by omega, by omega⟩)⟩) (by first | decide | omega | (dsimp only; omega)) (by first | decide | omega | (dsimp only; omega))
    · skip
      refine Goes.via (fun _ kk_ => XS.ifYes X113.here hx rfl (pc0 := 23) (pc' := 47) rfl (hb hby d6_23) rfl ((if0 _ _).trans (flt hc23).2.2.2) (by decide) (by decide) kk_) ?_
      show Goes p e below _ (T113.setTop (mkF m 47 #[vr q, .val (.long mt), .second, vr io, .unset] []))
      have hus1 := own_i1 (x := us) a8 (by omega)
      refine gALN X113 hx hby d6_47 rfl rfl ?_
      have f158 := (F4_q_used.other W5 (Or.inr (slot_ne (Or.inl (own_w hw 58 rfl)) (Or.inl (own_w hw 31 rfl)) (by decide) (t := .int) (t' := .int) (by decide) (by decide))))
      obtain ⟨T159, X159, e159, st159⟩ := getF X113 hx hZ hown (host := "") (Or.inl (own_w hw 57 rfl)) Via.refl e113 f158 (g := (mkF m 48 #[vr q, .val (.long mt), .second, vr io, .unset] [(.ref q)])) rfl rfl (hb hby d6_48)
      refine Goes.via st159 ?_
      show Goes p e below _ (T159.setTop (mkF m 51 #[vr q, .val (.long mt), .second, vr io, .unset] [(.int us)]))
      refine gALN X159 hx hby d6_51 rfl rfl ?_
      have f160 := (F1_q_items.other W5 (Or.inr (slot_ne (Or.inl (own_w hw 12 rfl)) (Or.inl (own_w hw 31 rfl)) (by decide) (t := (.array (.object "java/lang/Object"))) (t' := .int) (by decide) (by decide))))
      obtain ⟨T161, X161, e161, st161⟩ := getF X159 hx hZ hown (host := "") (Or.inl (own_w hw 11 rfl)) Via.refl e159 f160 (g := (mkF m 52 #[vr q, .val (.long mt), .second, vr io, .unset] [(.ref q), (.int us)])) rfl rfl (hb hby d6_52)
      refine Goes.via st161 ?_
      show Goes p e below _ (T161.setTop (mkF m 55 #[vr q, .val (.long mt), .second, vr io, .unset] [(.ref it), (.int us)]))
      have f162 := (A13_it.other W5 (Ne.symm ne1))
      refine Goes.via (own_alen X161 hx hZ e161 f162 (g := (mkF m 55 #[vr q, .val (.long mt), .second, vr io, .unset] [(.ref it), (.int us)])) rfl rfl (hb hby d6_55)) ?_
      show Goes p e below _ (T161.setTop (mkF m 56 #[vr q, .val (.long mt), .second, vr io, .unset] [(.int (64 : Int32)), (.int us)]))
      have hc56_163 : ¬ (us = (64 : Int32)) := (fun z => by rw [z] at a9; have e : (64 : Int32).toInt = 64 := (by decide); omega)
      refine Goes.via (fun _ kk_ => XS.icmpYes X161.here hx rfl (pc0 := 56) (pc' := 93) rfl (hb hby d6_56) rfl (feq hc56_163).2 (by decide) (by decide) kk_) ?_
      show Goes p e below _ (T161.setTop (mkF m 93 #[vr q, .val (.long mt), .second, vr io, .unset] []))
      refine gALN X161 hx hby d6_93 rfl rfl ?_
      refine gDU X161 hx hby d6_94 rfl ?_
      obtain ⟨T164, X164, e164, st164⟩ := getF X161 hx hZ hown (host := "") (Or.inl (own_w hw 57 rfl)) Via.refl e161 f158 (g := (mkF m 95 #[vr q, .val (.long mt), .second, vr io, .unset] [(.ref q), (.ref q)])) rfl rfl (hb hby d6_95)
      refine Goes.via st164 ?_
      show Goes p e below _ (T164.setTop (mkF m 98 #[vr q, .val (.long mt), .second, vr io, .unset] [(.int us), (.ref q)]))
      refine Goes.via (fun _ kk_ => XS.dupX1 X164.here hx rfl (hb hby d6_98) rfl rfl rfl kk_) ?_
      show Goes p e below _ (T164.setTop (mkF m 99 #[vr q, .val (.long mt), .second, vr io, .unset] [(.int us), (.ref q), (.int us)]))
      refine gIC (z := 1) X164 hx hby d6_99 rfl ?_
      refine Goes.via (fun _ kk_ => XS.iadd X164.here hx rfl (hb hby d6_100) rfl kk_) ?_
      show Goes p e below _ (T164.setTop (mkF m 101 #[vr q, .val (.long mt), .second, vr io, .unset] [(.int (us + (1 : Int32))), (.ref q), (.int us)]))
      have f165 := (E0_q.wr W5)
      obtain ⟨T166, h166, X166, e166, W166, st166⟩ := putF X164 hx hZ hown (host := "") (Or.inl (own_w hw 57 rfl)) Via.refl e164 f158 f165 (Or.inl (own_w hw 58 rfl)) (own_w hw 1 rfl) (ty := .int) (by decide) rfl rfl (g := (mkF m 101 #[vr q, .val (.long mt), .second, vr io, .unset] [(.int (us + (1 : Int32))), (.ref q), (.int us)])) rfl rfl (hb hby d6_101)
      refine Goes.via st166 ?_
      have N166 := Fr.snoc X166 N5 H18
      have Fw166 : Fld Z h166 q "nearhop/sim/EventQueue" "used" "I" (.int (us + (1 : Int32))) := f158.same W166
      show Goes p e below _ (T166.setTop (mkF m 104 #[vr q, .val (.long mt), .second, vr io, .unset] [(.int us)]))
      refine Goes.via (fun _ kk_ => XS.istore X166.here hx rfl (hb hby d6_104) rfl (l' := #[vr q, .val (.long mt), .second, vr io, vi us]) rfl kk_) ?_
      show Goes p e below _ (T166.setTop (mkF m 106 #[vr q, .val (.long mt), .second, vr io, vi us] []))
      have hsv : 0 ≤ (us).toInt ∧ (us).toInt < 64 := ⟨a8, by omega⟩
      obtain ⟨nv, hnv⟩ := own_nat hsv.1
      refine gALN X166 hx hby d6_106 rfl rfl ?_
      have f167 := (f160.other W166 (Or.inr (slot_ne (Or.inl (own_w hw 12 rfl)) (Or.inl (own_w hw 58 rfl)) (by decide) (t := (.array (.object "java/lang/Object"))) (t' := .int) (by decide) (by decide))))
      obtain ⟨T168, X168, e168, st168⟩ := getF X166 hx hZ hown (host := "") (Or.inl (own_w hw 11 rfl)) Via.refl e166 f167 (g := (mkF m 107 #[vr q, .val (.long mt), .second, vr io, vi us] [(.ref q)])) rfl rfl (hb hby d6_107)
      refine Goes.via st168 ?_
      show Goes p e below _ (T168.setTop (mkF m 110 #[vr q, .val (.long mt), .second, vr io, vi us] [(.ref it)]))
      refine gIL X168 hx hby d6_110 rfl ?_
      refine gALN X168 hx hby d6_112 rfl rfl ?_
      have f169 := (f162.other W166 (Ne.symm ne1))
      have f171 := ((E27_io.wr W5).wr W166)
      obtain ⟨T170, h170, X170, e170, W170, A170, st170⟩ := own_aastore X168 hx hZ e168 f169 rfl rfl OVr (Ins.of_exa f171 (own_w hw 59 rfl)) (j := us) (i := nv) (own_ix hnv).1 (own_ix hnv).2 (by omega) (g := (mkF m 113 #[vr q, .val (.long mt), .second, vr io, vi us] [(.ref io), (.int us), (.ref it)])) rfl rfl (hb hby d6_113)
      refine Goes.via st170 ?_
      have N170 := Fr.snoc X170 N166 (show n0 ≤ it by omega)
      show Goes p e below _ (T170.setTop (mkF m 114 #[vr q, .val (.long mt), .second, vr io, vi us] []))
      refine gALN X170 hx hby d6_114 rfl rfl ?_
      refine gALN X170 hx hby d6_115 rfl rfl ?_
      refine Goes.via (fun _ kk_ => XS.lloadN X170.here hx rfl (hb hby d6_116) rfl  kk_) ?_
      show Goes p e below _ (T170.setTop (mkF m 117 #[vr q, .val (.long mt), .second, vr io, vi us] [(.long mt), (.ref q), (.ref q)]))
      have f172 := ((f6.other W166 (Or.inr (slot_ne (Or.inl (own_w hw 29 rfl)) (Or.inl (own_w hw 58 rfl)) (by decide) (t := .long) (t' := .int) (by decide) (by decide)))).other W170 (Or.inl ne1))
      have z174 : h0.size ≤ (h170).size := (Nat.le_trans (Nat.le_trans (Nat.le_trans (Nat.le_refl _) (Nat.le_of_eq W5.size.symm)) (Nat.le_of_eq W166.size.symm)) (Nat.le_of_eq W170.size.symm))
      have f175 := ((f165.wr W166).wr W170)
      obtain ⟨cq173, q173, q173'⟩ := f175.cell
      obtain ⟨_, _, ⟨T173, L173, k173, n173⟩, -, X173, ⟨Lc173, hQ173, l173, y173, z173⟩, st173⟩ := X170.privateBack hx (y := mN_EventQueue_bucketOf) hown (mvT hZ (own_w hw 60 rfl)) (mvT hZ (own_w hw 61 rfl)) (mvT hZ (own_selP (y := mN_EventQueue_bucketOf) (own_w hw 1 rfl) (own_w hw 62 rfl) (own_w hw 61 rfl) (by decide))) (Cond.privateMethod_at (mvP hZ (own_w hw 62 rfl) (args := #[]))) (mvT hZ (own_w hw 63 rfl)) (by decide) (backOf (W := 1) (rmBk l Z a0 hw [] q mt rf h170 n0 (Nat.le_trans Z0 z174) f172) hZ (own_w hw 63 rfl) (own_w hw 2 rfl) (by decide) (by decide)) (g := (mkF m 117 #[vr q, .val (.long mt), .second, vr io, vi us] [(.long mt), (.ref q), (.ref q)])) rfl (by rw [hml]; rfl) (Steps.refl _) (a := q) (by rw [e170]; exact q173) q173' (argsL := [(.long mt)]) (rest := [(.ref q)]) (lenOf pd_1 rfl) rfl (by show 2 * 0 + _ ≤ _; exact Nat.le_of_eq rfl) (hb hby d6_117) (fun _ _ => ⟨rfl, e170, (by decide : 0 + 0 ≤ _), (by decide : 0 + 0 ≤ _)⟩)
      dsimp only [Pt.U, Pt.locs, Pt.cells, Pt.slots] at X173 l173 y173 z173 st173 hQ173
      replace l173 := l173.symm
      subst l173 y173 z173
      obtain ⟨rfl, rfl, e173⟩ := hQ173
      first | rw [List.append_nil] at X173 | skip
      refine Goes.tr st173 ?_
      have e173' : T173.heap = h170 := e173
      show Goes p e below _ (T173.setTop (mkF m 120 #[vr q, .val (.long mt), .second, vr io, vi us] [(.int ((64 : Int32) - (own_nlzL (mt ^^^ rf)))), (.ref q)]))
      obtain ⟨nc, hnc, hnc65, hnc0⟩ := own_bkt (mt ^^^ rf)
      have hcv : cn nc < 64 := by have q := own_sumL cn hnc65; have q2 := HIx.1.2.2.2.2.1; omega
      refine Goes.via (fun _ kk_ => XS.lloadN X173.here hx rfl (hb hby d6_120) rfl  kk_) ?_
      show Goes p e below _ (T173.setTop (mkF m 121 #[vr q, .val (.long mt), .second, vr io, vi us] [(.long mt), (.int ((64 : Int32) - (own_nlzL (mt ^^^ rf)))), (.ref q)]))
      refine gIL X173 hx hby d6_121 rfl ?_
      have f176 := (((F6_q_moments.other W5 (Or.inr (slot_ne (Or.inr (own_w hw 20 rfl)) (Or.inl (own_w hw 31 rfl)) (by decide) (t := (.array (.array .long))) (t' := .int) (by decide) (by decide)))).other W166 (Or.inr (slot_ne (Or.inr (own_w hw 20 rfl)) (Or.inl (own_w hw 58 rfl)) (by decide) (t := (.array (.array .long))) (t' := .int) (by decide) (by decide)))).other W170 (Or.inl ne1))
      have f177 := (((F7_q_slots.other W5 (Or.inr (slot_ne (Or.inr (own_w hw 24 rfl)) (Or.inl (own_w hw 31 rfl)) (by decide) (t := (.array (.array .int))) (t' := .int) (by decide) (by decide)))).other W166 (Or.inr (slot_ne (Or.inr (own_w hw 24 rfl)) (Or.inl (own_w hw 58 rfl)) (by decide) (t := (.array (.array .int))) (t' := .int) (by decide) (by decide)))).other W170 (Or.inl ne1))
      have f178 := (((F8_q_counts.other W5 (Or.inr (slot_ne (Or.inr (own_w hw 26 rfl)) (Or.inl (own_w hw 31 rfl)) (by decide) (t := (.array .int)) (t' := .int) (by decide) (by decide)))).other W166 (Or.inr (slot_ne (Or.inr (own_w hw 26 rfl)) (Or.inl (own_w hw 58 rfl)) (by decide) (t := (.array .int)) (t' := .int) (by decide) (by decide)))).other W170 (Or.inl ne1))
      have f179 := (((A15_mo.off W5 (show (q : Nat) < mo ∨ mo + 65 < q by omega)).off W166 (show (q : Nat) < mo ∨ mo + 65 < q by omega)).off W170 (show (it : Nat) < mo ∨ mo + 65 < it by omega))
      have f180 := (((A16_sl.off W5 (show (q : Nat) < sl ∨ sl + 65 < q by omega)).off W166 (show (q : Nat) < sl ∨ sl + 65 < q by omega)).off W170 (show (it : Nat) < sl ∨ sl + 65 < it by omega))
      have f181 := (((A17_ct.other W5 (Ne.symm ne3)).other W166 (Ne.symm ne3)).other W170 (show (ct : Nat) ≠ it by omega))
      obtain ⟨cq182, q182, q182'⟩ := f175.cell
      obtain ⟨_, _, ⟨T182, L182, k182, n182⟩, -, X182, ⟨Lc182, hQ182, l182, y182, z182⟩, st182⟩ := X173.privateBack hx (y := mN_EventQueue_append) hown (mvT hZ (own_w hw 71 rfl)) (mvT hZ (own_w hw 72 rfl)) (mvT hZ (own_selP (y := mN_EventQueue_append) (own_w hw 1 rfl) (own_w hw 73 rfl) (own_w hw 72 rfl) (by decide))) (Cond.privateMethod_at (mvP hZ (own_w hw 73 rfl) (args := #[]))) (mvT hZ (own_w hw 74 rfl)) (by decide) (backOf (W := 0) (rmAp l Z a0 hw [] q ((64 : Int32) - (own_nlzL (mt ^^^ rf))) mt us mo sl ct kM kN kS kU kC gM gS cn nc h170 n0 (Nat.le_trans Z0 z174) f176 f177 f178 f179 f180 f181 (show n0 ≤ mo by omega) (by first | assumption | rfl | decide | omega | (simp; done)) HLd HLe hnc hnc65 hcv) hZ (own_w hw 74 rfl) (own_w hw 2 rfl) (by decide) (by decide)) (g := (mkF m 123 #[vr q, .val (.long mt), .second, vr io, vi us] [(.int us), (.long mt), (.int ((64 : Int32) - (own_nlzL (mt ^^^ rf)))), (.ref q)])) rfl (by rw [hml]; rfl) (Steps.refl _) (a := q) (by rw [e173']; exact q182) q182' (argsL := [(.int ((64 : Int32) - (own_nlzL (mt ^^^ rf)))), (.long mt), (.int us)]) (rest := []) (lenOf pd_3 rfl) rfl (by show 2 * 0 + _ ≤ _; exact Nat.le_of_eq rfl) (hb hby d6_123) (fun _ _ => ⟨rfl, e173', (by decide : 0 + 0 ≤ _), (by decide : 0 + 0 ≤ _)⟩)
      dsimp only [Pt.U, Pt.locs, Pt.cells, Pt.slots] at X182 l182 y182 z182 st182 hQ182
      replace l182 := l182.symm
      subst l182 y182 z182
      obtain ⟨rfl, N182q, K182, u182_0, u182_1, u182_2⟩ := hQ182
      have N182 := Fr.app N170 N182q
      refine Goes.tr st182 ?_
      show Goes p e below _ (T182.setTop (mkF m 126 #[vr q, .val (.long mt), .second, vr io, vi us] []))
      refine gALN X182 hx hby d6_126 rfl rfl ?_
      refine gDU X182 hx hby d6_127 rfl ?_
      have f183 := ((((F5_q_size.other W5 (Or.inr (slot_ne (Or.inl (own_w hw 38 rfl)) (Or.inl (own_w hw 31 rfl)) (by decide) (t := .int) (t' := .int) (by decide) (by decide)))).other W166 (Or.inr (slot_ne (Or.inl (own_w hw 38 rfl)) (Or.inl (own_w hw 58 rfl)) (by decide) (t := .int) (t' := .int) (by decide) (by decide)))).other W170 (Or.inl ne1)).keep K182 (ninS ne3 (ninS (show (q : Nat) ≠ (mo + 1 + nc) by omega) (ninS (show (q : Nat) ≠ (sl + 1 + nc) by omega) nin0))))
      obtain ⟨T184, X184, e184, st184⟩ := getF X182 hx hZ hown (host := "") (Or.inl (own_w hw 37 rfl)) Via.refl rfl f183 (g := (mkF m 128 #[vr q, .val (.long mt), .second, vr io, vi us] [(.ref q), (.ref q)])) rfl rfl (hb hby d6_128)
      refine Goes.via st184 ?_
      show Goes p e below _ (T184.setTop (mkF m 131 #[vr q, .val (.long mt), .second, vr io, vi us] [(.int sz), (.ref q)]))
      refine gIC (z := 1) X184 hx hby d6_131 rfl ?_
      refine Goes.via (fun _ kk_ => XS.iadd X184.here hx rfl (hb hby d6_132) rfl kk_) ?_
      show Goes p e below _ (T184.setTop (mkF m 133 #[vr q, .val (.long mt), .second, vr io, vi us] [(.int (sz + (1 : Int32))), (.ref q)]))
      have f185 := (f175.keep K182)
      obtain ⟨T186, h186, X186, e186, W186, st186⟩ := putF X184 hx hZ hown (host := "") (Or.inl (own_w hw 37 rfl)) Via.refl e184 f183 f185 (Or.inl (own_w hw 38 rfl)) (own_w hw 1 rfl) (ty := .int) (by decide) rfl rfl (g := (mkF m 133 #[vr q, .val (.long mt), .second, vr io, vi us] [(.int (sz + (1 : Int32))), (.ref q)])) rfl rfl (hb hby d6_133)
      refine Goes.via st186 ?_
      have N186 := Fr.snoc X186 N182 H18
      have Fw186 : Fld Z h186 q "nearhop/sim/EventQueue" "size" "I" (.int (sz + (1 : Int32))) := f183.same W186
      show Goes p e below _ (T186.setTop (mkF m 136 #[vr q, .val (.long mt), .second, vr io, vi us] []))
      have K187 : KpN n0 h0 h186 := ((((((KpN.refl n0 h0).wr W5 H18).wr W166 H18).wr W170 (show n0 ≤ it by omega)).call K182 (allS (show n0 ≤ ct by omega) (allS (show n0 ≤ (mo + 1 + nc) by omega) (allS (show n0 ≤ (sl + 1 + nc) by omega) all0)))).wr W186 H18)
      have f188 := (f185.wr W186)
      have f189 := (((f167.other W170 (Or.inl ne1)).keep K182 (ninS ne3 (ninS (show (q : Nat) ≠ (mo + 1 + nc) by omega) (ninS (show (q : Nat) ≠ (sl + 1 + nc) by omega) nin0)))).other W186 (Or.inr (slot_ne (Or.inl (own_w hw 12 rfl)) (Or.inl (own_w hw 38 rfl)) (by decide) (t := (.array (.object "java/lang/Object"))) (t' := .int) (by decide) (by decide))))
      have f190 := (((((F2_q_free.other W5 (Or.inr (slot_ne (Or.inl (own_w hw 15 rfl)) (Or.inl (own_w hw 31 rfl)) (by decide) (t := (.array .int)) (t' := .int) (by decide) (by decide)))).other W166 (Or.inr (slot_ne (Or.inl (own_w hw 15 rfl)) (Or.inl (own_w hw 58 rfl)) (by decide) (t := (.array .int)) (t' := .int) (by decide) (by decide)))).other W170 (Or.inl ne1)).keep K182 (ninS ne3 (ninS (show (q : Nat) ≠ (mo + 1 + nc) by omega) (ninS (show (q : Nat) ≠ (sl + 1 + nc) by omega) nin0)))).other W186 (Or.inr (slot_ne (Or.inl (own_w hw 15 rfl)) (Or.inl (own_w hw 38 rfl)) (by decide) (t := (.array .int)) (t' := .int) (by decide) (by decide))))
      have f191 := ((((f112.other W166 (Or.inr (slot_ne (Or.inl (own_w hw 56 rfl)) (Or.inl (own_w hw 58 rfl)) (by decide) (t := .int) (t' := .int) (by decide) (by decide)))).other W170 (Or.inl ne1)).keep K182 (ninS ne3 (ninS (show (q : Nat) ≠ (mo + 1 + nc) by omega) (ninS (show (q : Nat) ≠ (sl + 1 + nc) by omega) nin0)))).other W186 (Or.inr (slot_ne (Or.inl (own_w hw 56 rfl)) (Or.inl (own_w hw 38 rfl)) (by decide) (t := .int) (t' := .int) (by decide) (by decide))))
      have f192 := (((Fw166.other W170 (Or.inl ne1)).keep K182 (ninS ne3 (ninS (show (q : Nat) ≠ (mo + 1 + nc) by omega) (ninS (show (q : Nat) ≠ (sl + 1 + nc) by omega) nin0)))).other W186 (Or.inr (slot_ne (Or.inl (own_w hw 58 rfl)) (Or.inl (own_w hw 38 rfl)) (by decide) (t := .int) (t' := .int) (by decide) (by decide))))
      have f193 := ((f176.keep K182 (ninS ne3 (ninS (show (q : Nat) ≠ (mo + 1 + nc) by omega) (ninS (show (q : Nat) ≠ (sl + 1 + nc) by omega) nin0)))).other W186 (Or.inr (slot_ne (Or.inr (own_w hw 20 rfl)) (Or.inl (own_w hw 38 rfl)) (by decide) (t := (.array (.array .long))) (t' := .int) (by decide) (by decide))))
      have f194 := ((f177.keep K182 (ninS ne3 (ninS (show (q : Nat) ≠ (mo + 1 + nc) by omega) (ninS (show (q : Nat) ≠ (sl + 1 + nc) by omega) nin0)))).other W186 (Or.inr (slot_ne (Or.inr (own_w hw 24 rfl)) (Or.inl (own_w hw 38 rfl)) (by decide) (t := (.array (.array .int))) (t' := .int) (by decide) (by decide))))
      have f195 := ((f178.keep K182 (ninS ne3 (ninS (show (q : Nat) ≠ (mo + 1 + nc) by omega) (ninS (show (q : Nat) ≠ (sl + 1 + nc) by omega) nin0)))).other W186 (Or.inr (slot_ne (Or.inr (own_w hw 26 rfl)) (Or.inl (own_w hw 38 rfl)) (by decide) (t := (.array .int)) (t' := .int) (by decide) (by decide))))
      have f196 := (((((F9_q_first.other W5 (Or.inr (slot_ne (Or.inl (own_w hw 83 rfl)) (Or.inl (own_w hw 31 rfl)) (by decide) (t := .int) (t' := .int) (by decide) (by decide)))).other W166 (Or.inr (slot_ne (Or.inl (own_w hw 83 rfl)) (Or.inl (own_w hw 58 rfl)) (by decide) (t := .int) (t' := .int) (by decide) (by decide)))).other W170 (Or.inl ne1)).keep K182 (ninS ne3 (ninS (show (q : Nat) ≠ (mo + 1 + nc) by omega) (ninS (show (q : Nat) ≠ (sl + 1 + nc) by omega) nin0)))).other W186 (Or.inr (slot_ne (Or.inl (own_w hw 83 rfl)) (Or.inl (own_w hw 38 rfl)) (by decide) (t := .int) (t' := .int) (by decide) (by decide))))
      have f197 := ((f172.keep K182 (ninS ne3 (ninS (show (q : Nat) ≠ (mo + 1 + nc) by omega) (ninS (show (q : Nat) ≠ (sl + 1 + nc) by omega) nin0)))).other W186 (Or.inr (slot_ne (Or.inl (own_w hw 29 rfl)) (Or.inl (own_w hw 38 rfl)) (by decide) (t := .long) (t' := .int) (by decide) (by decide))))
      have f198 := ((((Fw5.other W166 (Or.inr (slot_ne (Or.inl (own_w hw 31 rfl)) (Or.inl (own_w hw 58 rfl)) (by decide) (t := .int) (t' := .int) (by decide) (by decide)))).other W170 (Or.inl ne1)).keep K182 (ninS ne3 (ninS (show (q : Nat) ≠ (mo + 1 + nc) by omega) (ninS (show (q : Nat) ≠ (sl + 1 + nc) by omega) nin0)))).other W186 (Or.inr (slot_ne (Or.inl (own_w hw 31 rfl)) (Or.inl (own_w hw 38 rfl)) (by decide) (t := .int) (t' := .int) (by decide) (by decide))))
      have f199 := (((((F12_q_soonest.other W5 (Or.inr (slot_ne (Or.inl (own_w hw 89 rfl)) (Or.inl (own_w hw 31 rfl)) (by decide) (t := .long) (t' := .int) (by decide) (by decide)))).other W166 (Or.inr (slot_ne (Or.inl (own_w hw 89 rfl)) (Or.inl (own_w hw 58 rfl)) (by decide) (t := .long) (t' := .int) (by decide) (by decide)))).other W170 (Or.inl ne1)).keep K182 (ninS ne3 (ninS (show (q : Nat) ≠ (mo + 1 + nc) by omega) (ninS (show (q : Nat) ≠ (sl + 1 + nc) by omega) nin0)))).other W186 (Or.inr (slot_ne (Or.inl (own_w hw 89 rfl)) (Or.inl (own_w hw 38 rfl)) (by decide) (t := .long) (t' := .int) (by decide) (by decide))))
      have f200 := ((A170.keep K182 (ninS (show (it : Nat) ≠ ct by omega) (ninS (show (it : Nat) ≠ (mo + 1 + nc) by omega) (ninS (show (it : Nat) ≠ (sl + 1 + nc) by omega) nin0)))).other W186 (Ne.symm ne1))
      have f201 := (((((A14_fr.other W5 (Ne.symm ne2)).other W166 (Ne.symm ne2)).other W170 (show (fr : Nat) ≠ it by omega)).keep K182 (ninS (show (fr : Nat) ≠ ct by omega) (ninS (show (fr : Nat) ≠ (mo + 1 + nc) by omega) (ninS (show (fr : Nat) ≠ (sl + 1 + nc) by omega) nin0)))).other W186 (Ne.symm ne2))
      have f202 := (u182_0.off W186 (show (q : Nat) < mo ∨ mo + 65 < q by omega))
      have f203 := (u182_1.off W186 (show (q : Nat) < sl ∨ sl + 65 < q by omega))
      have f204 := (u182_2.other W186 (Ne.symm ne3))
      exact own_finV X186 hx hlk hret (hb hby d6_136) (by rw [e186]; exact ⟨fs, (us + (1 : Int32)), fi, rf, (own_upd fI nv (.ref io)), (own_gu gM nc (cn nc) mt), (own_gu gS nc (cn nc) us), (own_cu cn nc (cn nc + 1)), rfl, N186, K187, f188, f189, f190, f191, f192, Fw186, f193, f194, f195, f196, f197, f198, f199, f200, f201, f202, f203, f204, (own_Iadd HIx HK hnc65 hsv ⟨by omega, by omega⟩ ⟨by omega, by omega⟩)⟩) (by first | decide | omega | (dsimp only; omega)) (by first | decide | omega | (dsimp only; omega))
theorem ef_rmPo (m : MethodId) (q : Addr) : entryFrame m #[(.ref q)] 3 = mkF m 0 #[.val (.ref q), .unset, .unset] [] := by first | (simp [entryFrame, mkF, argsToLocals, Value.category]; done) | rfl
def QrmPo (Z : State) (q : Nat) (it : Nat) (fr : Nat) (mo : Nat) (sl : Nat) (ct : Nat) (kI : ClassId) (kF : ClassId) (kM : ClassId) (kN : ClassId) (kS : ClassId) (kU : ClassId) (kC : ClassId) (fs : Int32) (us : Int32) (sz : Int32) (fi : Int32) (rf : Int64) (so : Int64) (fI : Nat → Value) (fF : Nat → Int32) (gM : Nat → Nat → Int64) (gS : Nat → Nat → Int32) (cn : Nat → Nat) (K : Nat) (h0 : Heap) (n0 : Nat) (v_ : Option Value) (h_ : Heap) (L_ : List Loc) : Prop := ∃ rv : Value, ∃ fs' : Int32, ∃ fi' : Int32, ∃ rf' : Int64, ∃ so' : Int64, ∃ fI' : Nat → Value, ∃ fF' : Nat → Int32, ∃ gM' : Nat → Nat → Int64, ∃ gS' : Nat → Nat → Int32, ∃ cn' : Nat → Nat, v_ = some rv ∧ Fr n0 L_ ∧ KpN n0 h0 h_ ∧ Exa Z h_ q "nearhop/sim/EventQueue" ∧ Fld Z h_ q "nearhop/sim/EventQueue" "items" "[Ljava/lang/Object;" (.ref it) ∧ Fld Z h_ q "nearhop/sim/EventQueue" "free" "[I" (.ref fr) ∧ Fld Z h_ q "nearhop/sim/EventQueue" "freeSlots" "I" (.int fs') ∧ Fld Z h_ q "nearhop/sim/EventQueue" "used" "I" (.int us) ∧ Fld Z h_ q "nearhop/sim/EventQueue" "size" "I" (.int (sz - (1 : Int32))) ∧ Fld Z h_ q "nearhop/sim/EventQueue" "moments" "[[J" (.ref mo) ∧ Fld Z h_ q "nearhop/sim/EventQueue" "slots" "[[I" (.ref sl) ∧ Fld Z h_ q "nearhop/sim/EventQueue" "counts" "[I" (.ref ct) ∧ Fld Z h_ q "nearhop/sim/EventQueue" "first" "I" (.int fi') ∧ Fld Z h_ q "nearhop/sim/EventQueue" "reference" "J" (.long rf') ∧ Fld Z h_ q "nearhop/sim/EventQueue" "soonestBucket" "I" (.int (-1 : Int32)) ∧ Fld Z h_ q "nearhop/sim/EventQueue" "soonest" "J" (.long so') ∧ Arw Z h_ it kI (.object "java/lang/Object") 64 fI' ∧ Arw Z h_ fr kF .int 64 (fun i => .int (fF' i)) ∧ Grv Z h_ mo kM kN .long 65 64 (fun u v => .long (gM' u v)) ∧ Grv Z h_ sl kS kU .int 65 64 (fun u v => .int (gS' u v)) ∧ Arw Z h_ ct kC .int 65 (fun i => .int (Int32.ofNat (cn' i))) ∧ own_I (K + 1) (sz - (1 : Int32)) fi' fs' us cn' gS' fF' ∧ rv.category = 1
theorem d11_0 : decode prog_155_method_5_code 0 = .ok (.aload_n 0, 1) := by decide +kernel
theorem pd_5 : parseMethodDescriptor "()Z" = some ⟨[], some .boolean⟩ := by decide +kernel
theorem d11_1 : decode prog_155_method_5_code 1 = .ok (.invokevirtual 45, 3) := by decide +kernel
abbrev mN_EventQueue_isEmpty : MethodName := ⟨"nearhop/sim/EventQueue", "isEmpty", "()Z"⟩
theorem d11_4 : decode prog_155_method_5_code 4 = .ok (.ifCond .eq 11, 3) := by decide +kernel
theorem d11_15 : decode prog_155_method_5_code 15 = .ok (.aload_n 0, 1) := by decide +kernel
theorem d11_16 : decode prog_155_method_5_code 16 = .ok (.getfield 52, 3) := by decide +kernel
theorem d11_19 : decode prog_155_method_5_code 19 = .ok (.aload_n 0, 1) := by decide +kernel
theorem d11_20 : decode prog_155_method_5_code 20 = .ok (.getfield 29, 3) := by decide +kernel
theorem d11_23 : decode prog_155_method_5_code 23 = .ok (.iconst 0, 1) := by decide +kernel
theorem d11_24 : decode prog_155_method_5_code 24 = .ok (.iaload, 1) := by decide +kernel
theorem d11_25 : decode prog_155_method_5_code 25 = .ok (.if_icmp .ne 31, 3) := by decide +kernel
theorem d11_28 : decode prog_155_method_5_code 28 = .ok (.aload_n 0, 1) := by decide +kernel
theorem d11_29 : decode prog_155_method_5_code 29 = .ok (.getfield 29, 3) := by decide +kernel
theorem d11_32 : decode prog_155_method_5_code 32 = .ok (.iconst 0, 1) := by decide +kernel
theorem d11_33 : decode prog_155_method_5_code 33 = .ok (.iconst 0, 1) := by decide +kernel
theorem d11_34 : decode prog_155_method_5_code 34 = .ok (.iastore, 1) := by decide +kernel
theorem d11_35 : decode prog_155_method_5_code 35 = .ok (.aload_n 0, 1) := by decide +kernel
theorem d11_36 : decode prog_155_method_5_code 36 = .ok (.iconst 0, 1) := by decide +kernel
theorem d11_37 : decode prog_155_method_5_code 37 = .ok (.putfield 52, 3) := by decide +kernel
theorem d11_40 : decode prog_155_method_5_code 40 = .ok (.aload_n 0, 1) := by decide +kernel
theorem pd_6 : parseMethodDescriptor "()V" = some ⟨[], none⟩ := by decide +kernel
theorem d11_41 : decode prog_155_method_5_code 41 = .ok (.invokevirtual 55, 3) := by decide +kernel
abbrev mN_EventQueue_findSoonest : MethodName := ⟨"nearhop/sim/EventQueue", "findSoonest", "()V"⟩
theorem d11_44 : decode prog_155_method_5_code 44 = .ok (.aload_n 0, 1) := by decide +kernel
theorem d11_45 : decode prog_155_method_5_code 45 = .ok (.aload_n 0, 1) := by decide +kernel
theorem d11_46 : decode prog_155_method_5_code 46 = .ok (.getfield 38, 3) := by decide +kernel
theorem d11_49 : decode prog_155_method_5_code 49 = .ok (.aload_n 0, 1) := by decide +kernel
theorem d11_50 : decode prog_155_method_5_code 50 = .ok (.getfield 58, 3) := by decide +kernel
theorem pd_7 : parseMethodDescriptor "(IJ)V" = some ⟨[.int, .long], none⟩ := by decide +kernel
theorem d11_53 : decode prog_155_method_5_code 53 = .ok (.invokevirtual 88, 3) := by decide +kernel
abbrev mN_EventQueue_dealOut : MethodName := ⟨"nearhop/sim/EventQueue", "dealOut", "(IJ)V"⟩
theorem d11_56 : decode prog_155_method_5_code 56 = .ok (.aload_n 0, 1) := by decide +kernel
theorem d11_57 : decode prog_155_method_5_code 57 = .ok (.iconst (-1), 1) := by decide +kernel
theorem d11_58 : decode prog_155_method_5_code 58 = .ok (.putfield 38, 3) := by decide +kernel
theorem d11_61 : decode prog_155_method_5_code 61 = .ok (.aload_n 0, 1) := by decide +kernel
theorem d11_62 : decode prog_155_method_5_code 62 = .ok (.getfield 26, 3) := by decide +kernel
theorem d11_65 : decode prog_155_method_5_code 65 = .ok (.iconst 0, 1) := by decide +kernel
theorem d11_66 : decode prog_155_method_5_code 66 = .ok (.aaload, 1) := by decide +kernel
theorem d11_67 : decode prog_155_method_5_code 67 = .ok (.aload_n 0, 1) := by decide +kernel
theorem d11_68 : decode prog_155_method_5_code 68 = .ok (.dup, 1) := by decide +kernel
theorem d11_69 : decode prog_155_method_5_code 69 = .ok (.getfield 52, 3) := by decide +kernel
theorem d11_72 : decode prog_155_method_5_code 72 = .ok (.dup_x1, 1) := by decide +kernel
theorem d11_73 : decode prog_155_method_5_code 73 = .ok (.iconst 1, 1) := by decide +kernel
theorem d11_74 : decode prog_155_method_5_code 74 = .ok (.iadd, 1) := by decide +kernel
theorem d11_75 : decode prog_155_method_5_code 75 = .ok (.putfield 52, 3) := by decide +kernel
theorem d11_78 : decode prog_155_method_5_code 78 = .ok (.iaload, 1) := by decide +kernel
theorem d11_79 : decode prog_155_method_5_code 79 = .ok (.istore_n 1, 1) := by decide +kernel
theorem d11_80 : decode prog_155_method_5_code 80 = .ok (.aload_n 0, 1) := by decide +kernel
theorem d11_81 : decode prog_155_method_5_code 81 = .ok (.getfield 15, 3) := by decide +kernel
theorem d11_84 : decode prog_155_method_5_code 84 = .ok (.aload_n 0, 1) := by decide +kernel
theorem d11_85 : decode prog_155_method_5_code 85 = .ok (.dup, 1) := by decide +kernel
theorem d11_86 : decode prog_155_method_5_code 86 = .ok (.getfield 65, 3) := by decide +kernel
theorem d11_89 : decode prog_155_method_5_code 89 = .ok (.dup_x1, 1) := by decide +kernel
theorem d11_90 : decode prog_155_method_5_code 90 = .ok (.iconst 1, 1) := by decide +kernel
theorem d11_91 : decode prog_155_method_5_code 91 = .ok (.iadd, 1) := by decide +kernel
theorem d11_92 : decode prog_155_method_5_code 92 = .ok (.putfield 65, 3) := by decide +kernel
theorem d11_95 : decode prog_155_method_5_code 95 = .ok (.iload_n 1, 1) := by decide +kernel
theorem d11_96 : decode prog_155_method_5_code 96 = .ok (.iastore, 1) := by decide +kernel
theorem d11_97 : decode prog_155_method_5_code 97 = .ok (.aload_n 0, 1) := by decide +kernel
theorem d11_98 : decode prog_155_method_5_code 98 = .ok (.dup, 1) := by decide +kernel
theorem d11_99 : decode prog_155_method_5_code 99 = .ok (.getfield 42, 3) := by decide +kernel
theorem d11_102 : decode prog_155_method_5_code 102 = .ok (.iconst 1, 1) := by decide +kernel
theorem d11_103 : decode prog_155_method_5_code 103 = .ok (.isub, 1) := by decide +kernel
theorem d11_104 : decode prog_155_method_5_code 104 = .ok (.putfield 42, 3) := by decide +kernel
theorem d11_107 : decode prog_155_method_5_code 107 = .ok (.aload_n 0, 1) := by decide +kernel
theorem d11_108 : decode prog_155_method_5_code 108 = .ok (.getfield 11, 3) := by decide +kernel
theorem d11_111 : decode prog_155_method_5_code 111 = .ok (.iload_n 1, 1) := by decide +kernel
theorem d11_112 : decode prog_155_method_5_code 112 = .ok (.aaload, 1) := by decide +kernel
theorem d11_113 : decode prog_155_method_5_code 113 = .ok (.astore_n 2, 1) := by decide +kernel
theorem d11_114 : decode prog_155_method_5_code 114 = .ok (.aload_n 0, 1) := by decide +kernel
theorem d11_115 : decode prog_155_method_5_code 115 = .ok (.getfield 11, 3) := by decide +kernel
theorem d11_118 : decode prog_155_method_5_code 118 = .ok (.iload_n 1, 1) := by decide +kernel
theorem d11_119 : decode prog_155_method_5_code 119 = .ok (.aconst_null, 1) := by decide +kernel
theorem d11_120 : decode prog_155_method_5_code 120 = .ok (.aastore, 1) := by decide +kernel
theorem d11_121 : decode prog_155_method_5_code 121 = .ok (.aload_n 2, 1) := by decide +kernel
theorem d11_122 : decode prog_155_method_5_code 122 = .ok (.areturn, 1) := by decide +kernel
set_option maxRecDepth 65536 in
set_option maxHeartbeats 40000000 in
theorem rmPo (l : Launch) (Z : State) (a0 : Array Value) (hw : ∀ d ∈ tables_1, d.before a0 Z = true) (ws : List Jvm.Cond) (q : Nat) (it : Nat) (fr : Nat) (mo : Nat) (sl : Nat) (ct : Nat) (kI : ClassId) (kF : ClassId) (kM : ClassId) (kN : ClassId) (kS : ClassId) (kU : ClassId) (kC : ClassId) (fs : Int32) (us : Int32) (sz : Int32) (fi : Int32) (rf : Int64) (so : Int64) (fI : Nat → Value) (fF : Nat → Int32) (gM : Nat → Nat → Int64) (gS : Nat → Nat → Int32) (cn : Nat → Nat) (K : Nat) (h0 : Heap) (n0 : Nat) (Z0 : n0 ≤ h0.size) (E0_q : Exa Z h0 q "nearhop/sim/EventQueue") (F1_q_items : Fld Z h0 q "nearhop/sim/EventQueue" "items" "[Ljava/lang/Object;" (.ref it)) (F2_q_free : Fld Z h0 q "nearhop/sim/EventQueue" "free" "[I" (.ref fr)) (F3_q_freeSlots : Fld Z h0 q "nearhop/sim/EventQueue" "freeSlots" "I" (.int fs)) (F4_q_used : Fld Z h0 q "nearhop/sim/EventQueue" "used" "I" (.int us)) (F5_q_size : Fld Z h0 q "nearhop/sim/EventQueue" "size" "I" (.int sz)) (F6_q_moments : Fld Z h0 q "nearhop/sim/EventQueue" "moments" "[[J" (.ref mo)) (F7_q_slots : Fld Z h0 q "nearhop/sim/EventQueue" "slots" "[[I" (.ref sl)) (F8_q_counts : Fld Z h0 q "nearhop/sim/EventQueue" "counts" "[I" (.ref ct)) (F9_q_first : Fld Z h0 q "nearhop/sim/EventQueue" "first" "I" (.int fi)) (F10_q_reference : Fld Z h0 q "nearhop/sim/EventQueue" "reference" "J" (.long rf)) (F11_q_soonestBucket : Fld Z h0 q "nearhop/sim/EventQueue" "soonestBucket" "I" (.int (-1 : Int32))) (F12_q_soonest : Fld Z h0 q "nearhop/sim/EventQueue" "soonest" "J" (.long so)) (A13_it : Arw Z h0 it kI (.object "java/lang/Object") 64 fI) (A14_fr : Arw Z h0 fr kF .int 64 (fun i => .int (fF i))) (A15_mo : Grv Z h0 mo kM kN .long 65 64 (fun u v => .long (gM u v))) (A16_sl : Grv Z h0 sl kS kU .int 65 64 (fun u v => .int (gS u v))) (A17_ct : Arw Z h0 ct kC .int 65 (fun i => .int (Int32.ofNat (cn i)))) (H18 : n0 ≤ q) (HLa : q < it) (HLb : it < fr) (HLc : fr < mo) (HLd : mo + 66 ≤ sl) (HLe : sl + 66 ≤ ct) (HI : own_I K sz fi fs us cn gS fF) (HK : K ≤ 4) (Hz : ¬ sz = (0 : Int32)) :
    MetFree l (⟨"nearhop/sim/EventQueue", "poll", "()Ljava/lang/Object;"⟩ : MethodName) (head1 (Jvm.Cond.code (⟨"nearhop/sim/EventQueue", "poll", "()Ljava/lang/Object;"⟩ : MethodName) prog_155_method_5_code 3 (some (.object "java/lang/Object")) :: ws) ({ frames := 4, cells := 0, slots := 0, locals := 63 } : Room)) (fun as_ U_ => as_ = #[(.ref q)] ∧ Z.Warmed39 U_.vm ∧ U_.heap = h0) (fun _ _ _ _ _ => True) (fun _ U_ o_ V_ => ∃ v_ L_, o_ = .returned v_ ∧ QrmPo Z q it fr mo sl ct kI kF kM kN kS kU kC fs us sz fi rf so fI fF gM gS cn K h0 n0 v_ V_.heap L_ ∧ FrameEnd U_ o_ V_ L_ ({ frames := 4, cells := 0, slots := 0, locals := 63 } : Room).cells ({ frames := 4, cells := 0, slots := 0, locals := 63 } : Room).slots) := by
  refine MetFree.of_bodySF (plainFor_of_name pn_nearhop_sim_EventQueue) hisR ?_
  intro p e s m args below meth c s₁ Bd hml0 hP hK
  obtain ⟨rfl, hZ, hh⟩ := hP
  have hx := Bd.exec
  have hby := Bd.bytes
  have hlk : meth.locks = false := BodyLoose.notSynchronized Bd
  have hret := Bd.returns
  have hml : c.maxLocals = 3 := hml0
  have hown : s.vm.findClass "nearhop/sim/EventQueue" = some m.cls := findClass_of_methodNamed Bd.named
  have hnm := (name_of_methodNamed Bd.named Bd.method).1
  have X0 : Stand p l e ({ frames := 4, cells := 0, slots := 0, locals := 63 } : Room) s m #[(.ref q)] below meth c s₁ [] 0 0 := Stand.of_body Bd
  have e0 : s₁.heap = h0 := by rw [← hh, Bd.state]; rfl
  have N0 := Fr.nil n0
  show Goes p e below (Fin_ s (QrmPo Z q it fr mo sl ct kI kF kM kN kS kU kC fs us sz fi rf so fI fF gM gS cn K h0 n0) ({ frames := 4, cells := 0, slots := 0, locals := 63 } : Room).cells ({ frames := 4, cells := 0, slots := 0, locals := 63 } : Room).slots) (s₁.setTop (entryFrame m #[(.ref q)] 3))
  rw [ef_rmPo m q]
  have ne1 : q ≠ it := own_ne_arr E0_q (own_w hw 1 rfl) A13_it
  have ne2 : q ≠ fr := own_ne_arr E0_q (own_w hw 1 rfl) A14_fr
  have ne3 : q ≠ ct := own_ne_arr E0_q (own_w hw 1 rfl) A17_ct
  have HI0 := HI
  obtain ⟨⟨a1, a2, a3, a4, a5, a6, a7, a8, a9⟩, b1, b2⟩ := HI0
  have hszp : 1 ≤ sz.toInt := own_pos a1 Hz
  have h65 := own_sumL cn (b := 0) (k := 65) (by decide)
  refine gALN X0 hx hby d11_0 rfl rfl ?_
  obtain ⟨cq4, kq4, q4a, q4b, q4c⟩ := isOf hZ e0 E0_q
  obtain ⟨_, _, ⟨T4, L4, k4, n4⟩, -, X4, ⟨Lc4, hQ4, l4, y4, z4⟩, st4⟩ := X0.virtualBack hx (y := mN_EventQueue_isEmpty) (z := mN_EventQueue_isEmpty) hown (mvT hZ (own_w hw 81 rfl)) (mvT hZ (own_w hw 33 rfl)) (notFace_of_selects (args := #[]) (mvT hZ (own_w hw 35 rfl))) (mvT hZ (own_w hw 35 rfl)) (mvT hZ (own_w hw 34 rfl)) (by decide) (backOf (W := 0) (rmEm l Z a0 hw [] q sz h0 n0 (Nat.le_trans Z0 (Nat.le_refl _)) F5_q_size) hZ (own_w hw 36 rfl) (own_w hw 2 rfl) (by decide) (by decide)) q4a q4c (g := (mkF m 1 #[vr q, .unset, .unset] [(.ref q)])) rfl (by rw [hml]; rfl) (Steps.refl _) (argsL := []) (rest := []) (lenOf pd_5 rfl) rfl (by show 2 * 0 + _ ≤ _; exact Nat.le_of_eq rfl) (hb hby d11_1) (fun _ _ => ⟨rfl, e0, (by decide : 0 + 0 ≤ _), (by decide : 0 + 0 ≤ _)⟩)
  dsimp only [Pt.U, Pt.locs, Pt.cells, Pt.slots] at X4 l4 y4 z4 st4 hQ4
  replace l4 := l4.symm
  subst l4 y4 z4
  obtain ⟨rfl, rfl, e4⟩ := hQ4
  first | rw [List.append_nil] at X4 | skip
  refine Goes.tr st4 ?_
  have e4' : T4.heap = h0 := e4
  show Goes p e below _ (T4.setTop (mkF m 4 #[vr q, .unset, .unset] [(.int (if sz = (0 : Int32) then (1 : Int32) else (0 : Int32)))]))
  have hc4_5 : (if sz = (0 : Int32) then (1 : Int32) else (0 : Int32)) = (0 : Int32) := (if_neg Hz)
  refine Goes.via (fun _ kk_ => XS.ifYes X4.here hx rfl (pc0 := 4) (pc' := 15) rfl (hb hby d11_4) rfl ((if0 _ _).trans (teq hc4_5).1) (by decide) (by decide) kk_) ?_
  show Goes p e below _ (T4.setTop (mkF m 15 #[vr q, .unset, .unset] []))
  refine gALN X4 hx hby d11_15 rfl rfl ?_
  obtain ⟨T6, X6, e6, st6⟩ := getF X4 hx hZ hown (host := "") (Or.inl (own_w hw 82 rfl)) Via.refl e4' F9_q_first (g := (mkF m 16 #[vr q, .unset, .unset] [(.ref q)])) rfl rfl (hb hby d11_16)
  refine Goes.via st6 ?_
  show Goes p e below _ (T6.setTop (mkF m 19 #[vr q, .unset, .unset] [(.int fi)]))
  refine gALN X6 hx hby d11_19 rfl rfl ?_
  obtain ⟨T7, X7, e7, st7⟩ := getF X6 hx hZ hown (host := "") (Or.inl (own_w hw 25 rfl)) Via.refl e6 F8_q_counts (g := (mkF m 20 #[vr q, .unset, .unset] [(.ref q), (.int fi)])) rfl rfl (hb hby d11_20)
  refine Goes.via st7 ?_
  show Goes p e below _ (T7.setTop (mkF m 23 #[vr q, .unset, .unset] [(.ref ct), (.int fi)]))
  refine gIC (z := 0) X7 hx hby d11_23 rfl ?_
  refine Goes.via (own_iaload X7 hx hZ e7 A17_ct (j := (0 : Int32)) (i := 0) (by decide) (by decide) (by decide) (v := (Int32.ofNat (cn 0))) rfl (g := (mkF m 24 #[vr q, .unset, .unset] [(.int (0 : Int32)), (.ref ct), (.int fi)])) rfl rfl (hb hby d11_24)) ?_
  show Goes p e below _ (T7.setTop (mkF m 25 #[vr q, .unset, .unset] [(.int (Int32.ofNat (cn 0))), (.int fi)]))
  by_cases hc25 : fi = (Int32.ofNat (cn 0))
  · skip
    refine Goes.via (fun _ kk_ => XS.icmpNo X7.here hx rfl (hb hby d11_25) rfl (teq hc25).2 kk_) ?_
    show Goes p e below _ (T7.setTop (mkF m 28 #[vr q, .unset, .unset] []))
    refine gALN X7 hx hby d11_28 rfl rfl ?_
    obtain ⟨T8, X8, e8, st8⟩ := getF X7 hx hZ hown (host := "") (Or.inl (own_w hw 25 rfl)) Via.refl e7 F8_q_counts (g := (mkF m 29 #[vr q, .unset, .unset] [(.ref q)])) rfl rfl (hb hby d11_29)
    refine Goes.via st8 ?_
    show Goes p e below _ (T8.setTop (mkF m 32 #[vr q, .unset, .unset] [(.ref ct)]))
    refine gIC (z := 0) X8 hx hby d11_32 rfl ?_
    refine gIC (z := 0) X8 hx hby d11_33 rfl ?_
    obtain ⟨T9, h9, X9, e9, W9, A9, st9⟩ := own_iastore X8 hx hZ e8 A17_ct (j := (0 : Int32)) (i := 0) (by decide) (by decide) (by decide) (g := (mkF m 34 #[vr q, .unset, .unset] [(.int (0 : Int32)), (.int (0 : Int32)), (.ref ct)])) rfl rfl (hb hby d11_34)
    refine Goes.via st9 ?_
    have N9 := Fr.snoc X9 N0 (show n0 ≤ ct by omega)
    show Goes p e below _ (T9.setTop (mkF m 35 #[vr q, .unset, .unset] []))
    have cv10 : Arw Z h9 ct kC .int 65 (fun i => .int (Int32.ofNat ((own_cu cn 0 0) i))) := (by have q := A9; exact Arw.toC (w := fun z => .int (Int32.ofNat z)) q)
    refine gALN X9 hx hby d11_35 rfl rfl ?_
    refine gIC (z := 0) X9 hx hby d11_36 rfl ?_
    have f11 := (F9_q_first.other W9 (Or.inl ne3))
    have f12 := (E0_q.wr W9)
    obtain ⟨T13, h13, X13, e13, W13, st13⟩ := putF X9 hx hZ hown (host := "") (Or.inl (own_w hw 82 rfl)) Via.refl e9 f11 f12 (Or.inl (own_w hw 83 rfl)) (own_w hw 1 rfl) (ty := .int) (by decide) rfl rfl (g := (mkF m 37 #[vr q, .unset, .unset] [(.int (0 : Int32)), (.ref q)])) rfl rfl (hb hby d11_37)
    refine Goes.via st13 ?_
    have N13 := Fr.snoc X13 N9 H18
    have Fw13 : Fld Z h13 q "nearhop/sim/EventQueue" "first" "I" (.int (0 : Int32)) := f11.same W13
    show Goes p e below _ (T13.setTop (mkF m 40 #[vr q, .unset, .unset] []))
    have hsU := own_sumU cn 0 0 65 (by decide)
    have hfi0 : fi.toInt = (cn 0 : Int) := by rw [hc25, own_on (by omega)]
    have hqX : ∃ z, 1 ≤ z ∧ z < 65 ∧ own_cu cn 0 0 z ≠ 0 := own_qX (by omega)
    have hqS : own_sum (own_cu cn 0 0) 65 ≤ 5 := by omega
    have hq5 : ∀ b, b < 65 → own_cu cn 0 0 b ≤ 5 := fun b hb => Nat.le_trans (own_sumL _ hb) hqS
    refine gALN X13 hx hby d11_40 rfl rfl ?_
    have f14 := (f12.wr W13)
    have f15 := ((F1_q_items.other W9 (Or.inl ne3)).other W13 (Or.inr (slot_ne (Or.inl (own_w hw 12 rfl)) (Or.inl (own_w hw 83 rfl)) (by decide) (t := (.array (.object "java/lang/Object"))) (t' := .int) (by decide) (by decide))))
    have f16 := ((F2_q_free.other W9 (Or.inl ne3)).other W13 (Or.inr (slot_ne (Or.inl (own_w hw 15 rfl)) (Or.inl (own_w hw 83 rfl)) (by decide) (t := (.array .int)) (t' := .int) (by decide) (by decide))))
    have f17 := ((F3_q_freeSlots.other W9 (Or.inl ne3)).other W13 (Or.inr (slot_ne (Or.inl (own_w hw 56 rfl)) (Or.inl (own_w hw 83 rfl)) (by decide) (t := .int) (t' := .int) (by decide) (by decide))))
    have f18 := ((F4_q_used.other W9 (Or.inl ne3)).other W13 (Or.inr (slot_ne (Or.inl (own_w hw 58 rfl)) (Or.inl (own_w hw 83 rfl)) (by decide) (t := .int) (t' := .int) (by decide) (by decide))))
    have f19 := ((F5_q_size.other W9 (Or.inl ne3)).other W13 (Or.inr (slot_ne (Or.inl (own_w hw 38 rfl)) (Or.inl (own_w hw 83 rfl)) (by decide) (t := .int) (t' := .int) (by decide) (by decide))))
    have f20 := ((F6_q_moments.other W9 (Or.inl ne3)).other W13 (Or.inr (slot_ne (Or.inr (own_w hw 20 rfl)) (Or.inl (own_w hw 83 rfl)) (by decide) (t := (.array (.array .long))) (t' := .int) (by decide) (by decide))))
    have f21 := ((F7_q_slots.other W9 (Or.inl ne3)).other W13 (Or.inr (slot_ne (Or.inr (own_w hw 24 rfl)) (Or.inl (own_w hw 83 rfl)) (by decide) (t := (.array (.array .int))) (t' := .int) (by decide) (by decide))))
    have f22 := ((F8_q_counts.other W9 (Or.inl ne3)).other W13 (Or.inr (slot_ne (Or.inr (own_w hw 26 rfl)) (Or.inl (own_w hw 83 rfl)) (by decide) (t := (.array .int)) (t' := .int) (by decide) (by decide))))
    have f23 := ((F10_q_reference.other W9 (Or.inl ne3)).other W13 (Or.inr (slot_ne (Or.inl (own_w hw 29 rfl)) (Or.inl (own_w hw 83 rfl)) (by decide) (t := .long) (t' := .int) (by decide) (by decide))))
    have f24 := ((F11_q_soonestBucket.other W9 (Or.inl ne3)).other W13 (Or.inr (slot_ne (Or.inl (own_w hw 31 rfl)) (Or.inl (own_w hw 83 rfl)) (by decide) (t := .int) (t' := .int) (by decide) (by decide))))
    have f25 := ((F12_q_soonest.other W9 (Or.inl ne3)).other W13 (Or.inr (slot_ne (Or.inl (own_w hw 89 rfl)) (Or.inl (own_w hw 83 rfl)) (by decide) (t := .long) (t' := .int) (by decide) (by decide))))
    have f26 := ((A15_mo.off W9 (show (ct : Nat) < mo ∨ mo + 65 < ct by omega)).off W13 (show (q : Nat) < mo ∨ mo + 65 < q by omega))
    have f27 := (cv10.other W13 (Ne.symm ne3))
    have z29 : h0.size ≤ (h13).size := (Nat.le_trans (Nat.le_trans (Nat.le_refl _) (Nat.le_of_eq W9.size.symm)) (Nat.le_of_eq W13.size.symm))
    obtain ⟨cq28, q28, q28'⟩ := f14.cell
    obtain ⟨_, _, ⟨T28, L28, k28, n28⟩, -, X28, ⟨Lc28, hQ28, l28, y28, z28⟩, st28⟩ := X13.privateBack hx (y := mN_EventQueue_findSoonest) hown (mvT hZ (own_w hw 84 rfl)) (mvT hZ (own_w hw 85 rfl)) (mvT hZ (own_selP (y := mN_EventQueue_findSoonest) (own_w hw 1 rfl) (own_w hw 86 rfl) (own_w hw 85 rfl) (by decide))) (Cond.privateMethod_at (mvP hZ (own_w hw 86 rfl) (args := #[]))) (mvT hZ (own_w hw 87 rfl)) (by decide) (backOf (W := 0) (rmFs l Z a0 hw [] q it fr mo sl ct kM kN kC fs us sz (0 : Int32) rf (-1 : Int32) so gM (own_cu cn 0 0) h13 n0 (Nat.le_trans Z0 z29) f14 f15 f16 f17 f18 f19 f20 f21 f22 Fw13 f23 f24 f25 f26 f27 H18 HLa HLb HLc HLd HLe (by decide) hq5 hqX) hZ (own_w hw 87 rfl) (own_w hw 2 rfl) (by decide) (by decide)) (g := (mkF m 41 #[vr q, .unset, .unset] [(.ref q)])) rfl (by rw [hml]; rfl) (Steps.refl _) (a := q) (by rw [e13]; exact q28) q28' (argsL := []) (rest := []) (lenOf pd_6 rfl) rfl (by show 2 * 0 + _ ≤ _; exact Nat.le_of_eq rfl) (hb hby d11_41) (fun _ _ => ⟨rfl, e13, (by decide : 0 + 0 ≤ _), (by decide : 0 + 0 ≤ _)⟩)
    dsimp only [Pt.U, Pt.locs, Pt.cells, Pt.slots] at X28 l28 y28 z28 st28 hQ28
    replace l28 := l28.symm
    subst l28 y28 z28
    obtain ⟨b128, b228, e128, rfl, N28q, K28, u28_0, u28_1, u28_2, u28_3, u28_4, u28_5, u28_6, u28_7, u28_8, u28_9, u28_10, u28_11, u28_12, u28_13, u28_14, u28_15, u28_16⟩ := hQ28
    have N28 := Fr.app N13 N28q
    refine Goes.tr st28 ?_
    show Goes p e below _ (T28.setTop (mkF m 44 #[vr q, .unset, .unset] []))
    refine gALN X28 hx hby d11_44 rfl rfl ?_
    refine gALN X28 hx hby d11_45 rfl rfl ?_
    obtain ⟨T30, X30, e30, st30⟩ := getF X28 hx hZ hown (host := "") (Or.inl (own_w hw 30 rfl)) Via.refl rfl u28_11 (g := (mkF m 46 #[vr q, .unset, .unset] [(.ref q), (.ref q)])) rfl rfl (hb hby d11_46)
    refine Goes.via st30 ?_
    show Goes p e below _ (T30.setTop (mkF m 49 #[vr q, .unset, .unset] [(.int b128), (.ref q)]))
    refine gALN X30 hx hby d11_49 rfl rfl ?_
    obtain ⟨T31, X31, e31, st31⟩ := getF X30 hx hZ hown (host := "") (Or.inl (own_w hw 88 rfl)) Via.refl e30 u28_12 (g := (mkF m 50 #[vr q, .unset, .unset] [(.ref q), (.int b128), (.ref q)])) rfl rfl (hb hby d11_50)
    refine Goes.via st31 ?_
    show Goes p e below _ (T31.setTop (mkF m 53 #[vr q, .unset, .unset] [(.long e128), (.int b128), (.ref q)]))
    have f32 := (((A13_it.other W9 (show (it : Nat) ≠ ct by omega)).other W13 (Ne.symm ne1)).keep K28 (ninS (Ne.symm ne1) nin0))
    have f33 := (((A14_fr.other W9 (show (fr : Nat) ≠ ct by omega)).other W13 (Ne.symm ne2)).keep K28 (ninS (Ne.symm ne2) nin0))
    have f34 := (f26.keep K28 (allS (show (q : Nat) < mo ∨ mo + 65 < q by omega) all0))
    have f35 := (((A16_sl.off W9 (show (ct : Nat) < sl ∨ sl + 65 < ct by omega)).off W13 (show (q : Nat) < sl ∨ sl + 65 < q by omega)).keep K28 (allS (show (q : Nat) < sl ∨ sl + 65 < q by omega) all0))
    have f36 := (f27.keep K28 (ninS (Ne.symm ne3) nin0))
    have z38 : h0.size ≤ (T28.heap).size := (Nat.le_trans z29 K28.1)
    obtain ⟨cq37, q37, q37'⟩ := u28_0.cell
    obtain ⟨_, _, ⟨T37, L37, k37, n37⟩, -, X37, ⟨Lc37, hQ37, l37, y37, z37⟩, st37⟩ := X31.privateBack hx (y := mN_EventQueue_dealOut) hown (mvT hZ (own_w hw 90 rfl)) (mvT hZ (own_w hw 91 rfl)) (mvT hZ (own_selP (y := mN_EventQueue_dealOut) (own_w hw 1 rfl) (own_w hw 92 rfl) (own_w hw 91 rfl) (by decide))) (Cond.privateMethod_at (mvP hZ (own_w hw 92 rfl) (args := #[]))) (mvT hZ (own_w hw 93 rfl)) (by decide) (backOf (W := 0) (rmDo l Z a0 hw [] q b128 e128 it fr mo sl ct kI kF kM kN kS kU kC fs us sz (0 : Int32) rf b128 e128 fI fF gM gS (own_cu cn 0 0) b228 T28.heap n0 (Nat.le_trans Z0 z38) u28_0 u28_1 u28_2 u28_3 u28_4 u28_5 u28_6 u28_7 u28_8 u28_9 u28_10 u28_11 u28_12 f32 f33 f34 f35 f36 H18 HLa HLb HLc HLd HLe u28_13 u28_14 hqS u28_16 b1) hZ (own_w hw 93 rfl) (own_w hw 2 rfl) (by decide) (by decide)) (g := (mkF m 53 #[vr q, .unset, .unset] [(.long e128), (.int b128), (.ref q)])) rfl (by rw [hml]; rfl) (Steps.refl _) (a := q) (by rw [e31]; exact q37) q37' (argsL := [(.int b128), (.long e128)]) (rest := []) (lenOf pd_7 rfl) rfl (by show 2 * 0 + _ ≤ _; exact Nat.le_of_eq rfl) (hb hby d11_53) (fun _ _ => ⟨rfl, e31, (by decide : 0 + 0 ≤ _), (by decide : 0 + 0 ≤ _)⟩)
    dsimp only [Pt.U, Pt.locs, Pt.cells, Pt.slots] at X37 l37 y37 z37 st37 hQ37
    replace l37 := l37.symm
    subst l37 y37 z37
    obtain ⟨cn'37, gM'37, gS'37, rfl, N37q, K37, u37_0, u37_1, u37_2, u37_3, u37_4, u37_5, u37_6, u37_7, u37_8, u37_9, u37_10, u37_11, u37_12, u37_13, u37_14, u37_15, u37_16, u37_17, u37_18, u37_19, u37_20⟩ := hQ37
    have N37 := Fr.app N28 N37q
    refine Goes.tr st37 ?_
    show Goes p e below _ (T37.setTop (mkF m 56 #[vr q, .unset, .unset] []))
    have HIp := own_Ideal (cn' := cn'37) HI (by omega) u37_20
    have hf1 : (0 : Int32).toInt < (cn'37 0 : Int) := by have e : (0 : Int32).toInt = 0 := (by decide); omega
    have hs65 := own_sumL cn'37 (b := 0) (k := 65) (by decide)
    have hIs := HIp.1.2.2.2.2.1
    obtain ⟨nfi, hnfi⟩ := own_nat (x := (0 : Int32)) HIp.1.2.1
    obtain ⟨nfs, hnfs⟩ := own_nat (x := fs) a6
    refine gALN X37 hx hby d11_56 rfl rfl ?_
    refine gIC (z := -1) X37 hx hby d11_57 rfl ?_
    obtain ⟨T39, h39, X39, e39, W39, st39⟩ := putF X37 hx hZ hown (host := "") (Or.inl (own_w hw 30 rfl)) Via.refl rfl u37_11 u37_0 (Or.inl (own_w hw 31 rfl)) (own_w hw 1 rfl) (ty := .int) (by decide) rfl rfl (g := (mkF m 58 #[vr q, .unset, .unset] [(.int (-1 : Int32)), (.ref q)])) rfl rfl (hb hby d11_58)
    refine Goes.via st39 ?_
    have N39 := Fr.snoc X39 N37 H18
    have Fw39 : Fld Z h39 q "nearhop/sim/EventQueue" "soonestBucket" "I" (.int (-1 : Int32)) := u37_11.same W39
    show Goes p e below _ (T39.setTop (mkF m 61 #[vr q, .unset, .unset] []))
    refine gALN X39 hx hby d11_61 rfl rfl ?_
    have f40 := (u37_7.other W39 (Or.inr (slot_ne (Or.inr (own_w hw 24 rfl)) (Or.inl (own_w hw 31 rfl)) (by decide) (t := (.array (.array .int))) (t' := .int) (by decide) (by decide))))
    obtain ⟨T41, X41, e41, st41⟩ := getF X39 hx hZ hown (host := "") (Or.inl (own_w hw 23 rfl)) Via.refl e39 f40 (g := (mkF m 62 #[vr q, .unset, .unset] [(.ref q)])) rfl rfl (hb hby d11_62)
    refine Goes.via st41 ?_
    show Goes p e below _ (T41.setTop (mkF m 65 #[vr q, .unset, .unset] [(.ref sl)]))
    refine gIC (z := 0) X41 hx hby d11_65 rfl ?_
    show Goes p e below _ (T41.setTop (mkF m 66 #[vr q, .unset, .unset] [(.int (0 : Int32)), (.ref sl)]))
    have f42 := (u37_16.off W39 (show (q : Nat) < sl ∨ sl + 65 < q by omega))
    refine Goes.via (own_gal X41 hx hZ e41 f42 (i := 0) (by decide) (by decide) (g := (mkF m 66 #[vr q, .unset, .unset] [(.int (0 : Int32)), (.ref sl)])) rfl rfl (hb hby d11_66)) ?_
    show Goes p e below _ (T41.setTop (mkF m 67 #[vr q, .unset, .unset] [(.ref (sl + 1 + 0))]))
    refine gALN X41 hx hby d11_67 rfl rfl ?_
    refine gDU X41 hx hby d11_68 rfl ?_
    have f43 := (u37_9.other W39 (Or.inr (slot_ne (Or.inl (own_w hw 83 rfl)) (Or.inl (own_w hw 31 rfl)) (by decide) (t := .int) (t' := .int) (by decide) (by decide))))
    obtain ⟨T44, X44, e44, st44⟩ := getF X41 hx hZ hown (host := "") (Or.inl (own_w hw 82 rfl)) Via.refl e41 f43 (g := (mkF m 69 #[vr q, .unset, .unset] [(.ref q), (.ref q), (.ref (sl + 1 + 0))])) rfl rfl (hb hby d11_69)
    refine Goes.via st44 ?_
    show Goes p e below _ (T44.setTop (mkF m 72 #[vr q, .unset, .unset] [(.int (0 : Int32)), (.ref q), (.ref (sl + 1 + 0))]))
    refine Goes.via (fun _ kk_ => XS.dupX1 X44.here hx rfl (hb hby d11_72) rfl rfl rfl kk_) ?_
    show Goes p e below _ (T44.setTop (mkF m 73 #[vr q, .unset, .unset] [(.int (0 : Int32)), (.ref q), (.int (0 : Int32)), (.ref (sl + 1 + 0))]))
    refine gIC (z := 1) X44 hx hby d11_73 rfl ?_
    refine Goes.via (fun _ kk_ => XS.iadd X44.here hx rfl (hb hby d11_74) rfl kk_) ?_
    show Goes p e below _ (T44.setTop (mkF m 75 #[vr q, .unset, .unset] [(.int ((0 : Int32) + (1 : Int32))), (.ref q), (.int (0 : Int32)), (.ref (sl + 1 + 0))]))
    rw [show ((0 : Int32) + (1 : Int32)) = (1 : Int32) from by decide]
    show Goes p e below _ (T44.setTop (mkF m 75 #[vr q, .unset, .unset] [(.int (1 : Int32)), (.ref q), (.int (0 : Int32)), (.ref (sl + 1 + 0))]))
    have f45 := (u37_0.wr W39)
    obtain ⟨T46, h46, X46, e46, W46, st46⟩ := putF X44 hx hZ hown (host := "") (Or.inl (own_w hw 82 rfl)) Via.refl e44 f43 f45 (Or.inl (own_w hw 83 rfl)) (own_w hw 1 rfl) (ty := .int) (by decide) rfl rfl (g := (mkF m 75 #[vr q, .unset, .unset] [(.int (1 : Int32)), (.ref q), (.int (0 : Int32)), (.ref (sl + 1 + 0))])) rfl rfl (hb hby d11_75)
    refine Goes.via st46 ?_
    have N46 := Fr.snoc X46 N39 H18
    have Fw46 : Fld Z h46 q "nearhop/sim/EventQueue" "first" "I" (.int (1 : Int32)) := f43.same W46
    show Goes p e below _ (T46.setTop (mkF m 78 #[vr q, .unset, .unset] [(.int (0 : Int32)), (.ref (sl + 1 + 0))]))
    have f47 := (f42.off W46 (show (q : Nat) < sl ∨ sl + 65 < q by omega))
    refine Goes.via (own_gial X46 hx hZ e46 f47 (i := 0) (j := nfi) (by decide) hnfi (by omega) (v := (gS'37 0 nfi)) rfl (g := (mkF m 78 #[vr q, .unset, .unset] [(.int (0 : Int32)), (.ref (sl + 1 + 0))])) rfl rfl (hb hby d11_78)) ?_
    show Goes p e below _ (T46.setTop (mkF m 79 #[vr q, .unset, .unset] [(.int (gS'37 0 nfi))]))
    refine Goes.via (fun _ kk_ => XS.istoreN X46.here hx rfl (hb hby d11_79) rfl (l' := #[vr q, vi (gS'37 0 nfi), .unset]) rfl kk_) ?_
    show Goes p e below _ (T46.setTop (mkF m 80 #[vr q, vi (gS'37 0 nfi), .unset] []))
    have hsv := HIp.2.1 0 nfi
    generalize hv_sv : (gS'37 0 nfi) = sv
    rw [hv_sv] at hsv
    show Goes p e below _ (T46.setTop (mkF m 80 #[vr q, vi sv, .unset] []))
    obtain ⟨nv, hnv⟩ := own_nat hsv.1
    refine gALN X46 hx hby d11_80 rfl rfl ?_
    have f48 := ((u37_2.other W39 (Or.inr (slot_ne (Or.inl (own_w hw 15 rfl)) (Or.inl (own_w hw 31 rfl)) (by decide) (t := (.array .int)) (t' := .int) (by decide) (by decide)))).other W46 (Or.inr (slot_ne (Or.inl (own_w hw 15 rfl)) (Or.inl (own_w hw 83 rfl)) (by decide) (t := (.array .int)) (t' := .int) (by decide) (by decide))))
    obtain ⟨T49, X49, e49, st49⟩ := getF X46 hx hZ hown (host := "") (Or.inl (own_w hw 14 rfl)) Via.refl e46 f48 (g := (mkF m 81 #[vr q, vi sv, .unset] [(.ref q)])) rfl rfl (hb hby d11_81)
    refine Goes.via st49 ?_
    show Goes p e below _ (T49.setTop (mkF m 84 #[vr q, vi sv, .unset] [(.ref fr)]))
    refine gALN X49 hx hby d11_84 rfl rfl ?_
    refine gDU X49 hx hby d11_85 rfl ?_
    have f50 := ((u37_3.other W39 (Or.inr (slot_ne (Or.inl (own_w hw 56 rfl)) (Or.inl (own_w hw 31 rfl)) (by decide) (t := .int) (t' := .int) (by decide) (by decide)))).other W46 (Or.inr (slot_ne (Or.inl (own_w hw 56 rfl)) (Or.inl (own_w hw 83 rfl)) (by decide) (t := .int) (t' := .int) (by decide) (by decide))))
    obtain ⟨T51, X51, e51, st51⟩ := getF X49 hx hZ hown (host := "") (Or.inl (own_w hw 55 rfl)) Via.refl e49 f50 (g := (mkF m 86 #[vr q, vi sv, .unset] [(.ref q), (.ref q), (.ref fr)])) rfl rfl (hb hby d11_86)
    refine Goes.via st51 ?_
    show Goes p e below _ (T51.setTop (mkF m 89 #[vr q, vi sv, .unset] [(.int fs), (.ref q), (.ref fr)]))
    refine Goes.via (fun _ kk_ => XS.dupX1 X51.here hx rfl (hb hby d11_89) rfl rfl rfl kk_) ?_
    show Goes p e below _ (T51.setTop (mkF m 90 #[vr q, vi sv, .unset] [(.int fs), (.ref q), (.int fs), (.ref fr)]))
    refine gIC (z := 1) X51 hx hby d11_90 rfl ?_
    refine Goes.via (fun _ kk_ => XS.iadd X51.here hx rfl (hb hby d11_91) rfl kk_) ?_
    show Goes p e below _ (T51.setTop (mkF m 92 #[vr q, vi sv, .unset] [(.int (fs + (1 : Int32))), (.ref q), (.int fs), (.ref fr)]))
    have f52 := (f45.wr W46)
    obtain ⟨T53, h53, X53, e53, W53, st53⟩ := putF X51 hx hZ hown (host := "") (Or.inl (own_w hw 55 rfl)) Via.refl e51 f50 f52 (Or.inl (own_w hw 56 rfl)) (own_w hw 1 rfl) (ty := .int) (by decide) rfl rfl (g := (mkF m 92 #[vr q, vi sv, .unset] [(.int (fs + (1 : Int32))), (.ref q), (.int fs), (.ref fr)])) rfl rfl (hb hby d11_92)
    refine Goes.via st53 ?_
    have N53 := Fr.snoc X53 N46 H18
    have Fw53 : Fld Z h53 q "nearhop/sim/EventQueue" "freeSlots" "I" (.int (fs + (1 : Int32))) := f50.same W53
    show Goes p e below _ (T53.setTop (mkF m 95 #[vr q, vi sv, .unset] [(.int fs), (.ref fr)]))
    refine gILN X53 hx hby d11_95 rfl ?_
    have f54 := (((u37_14.other W39 (Ne.symm ne2)).other W46 (Ne.symm ne2)).other W53 (Ne.symm ne2))
    obtain ⟨T55, h55, X55, e55, W55, A55, st55⟩ := own_iastore X53 hx hZ e53 f54 (j := fs) (i := nfs) (own_ix hnfs).1 (own_ix hnfs).2 (by omega) (g := (mkF m 96 #[vr q, vi sv, .unset] [(.int sv), (.int fs), (.ref fr)])) rfl rfl (hb hby d11_96)
    refine Goes.via st55 ?_
    have N55 := Fr.snoc X55 N53 (show n0 ≤ fr by omega)
    show Goes p e below _ (T55.setTop (mkF m 97 #[vr q, vi sv, .unset] []))
    have cv56 : Arw Z h55 fr kF .int 64 (fun i => .int ((own_cu fF nfs sv) i)) := (Arw.toC (w := fun z => .int z) A55)
    refine gALN X55 hx hby d11_97 rfl rfl ?_
    refine gDU X55 hx hby d11_98 rfl ?_
    have f57 := ((((u37_5.other W39 (Or.inr (slot_ne (Or.inl (own_w hw 38 rfl)) (Or.inl (own_w hw 31 rfl)) (by decide) (t := .int) (t' := .int) (by decide) (by decide)))).other W46 (Or.inr (slot_ne (Or.inl (own_w hw 38 rfl)) (Or.inl (own_w hw 83 rfl)) (by decide) (t := .int) (t' := .int) (by decide) (by decide)))).other W53 (Or.inr (slot_ne (Or.inl (own_w hw 38 rfl)) (Or.inl (own_w hw 56 rfl)) (by decide) (t := .int) (t' := .int) (by decide) (by decide)))).other W55 (Or.inl ne2))
    obtain ⟨T58, X58, e58, st58⟩ := getF X55 hx hZ hown (host := "") (Or.inl (own_w hw 37 rfl)) Via.refl e55 f57 (g := (mkF m 99 #[vr q, vi sv, .unset] [(.ref q), (.ref q)])) rfl rfl (hb hby d11_99)
    refine Goes.via st58 ?_
    show Goes p e below _ (T58.setTop (mkF m 102 #[vr q, vi sv, .unset] [(.int sz), (.ref q)]))
    refine gIC (z := 1) X58 hx hby d11_102 rfl ?_
    refine Goes.via (fun _ kk_ => XS.isub X58.here hx rfl (hb hby d11_103) rfl kk_) ?_
    show Goes p e below _ (T58.setTop (mkF m 104 #[vr q, vi sv, .unset] [(.int (sz - (1 : Int32))), (.ref q)]))
    have f59 := ((f52.wr W53).wr W55)
    obtain ⟨T60, h60, X60, e60, W60, st60⟩ := putF X58 hx hZ hown (host := "") (Or.inl (own_w hw 37 rfl)) Via.refl e58 f57 f59 (Or.inl (own_w hw 38 rfl)) (own_w hw 1 rfl) (ty := .int) (by decide) rfl rfl (g := (mkF m 104 #[vr q, vi sv, .unset] [(.int (sz - (1 : Int32))), (.ref q)])) rfl rfl (hb hby d11_104)
    refine Goes.via st60 ?_
    have N60 := Fr.snoc X60 N55 H18
    have Fw60 : Fld Z h60 q "nearhop/sim/EventQueue" "size" "I" (.int (sz - (1 : Int32))) := f57.same W60
    show Goes p e below _ (T60.setTop (mkF m 107 #[vr q, vi sv, .unset] []))
    refine gALN X60 hx hby d11_107 rfl rfl ?_
    have f61 := (((((u37_1.other W39 (Or.inr (slot_ne (Or.inl (own_w hw 12 rfl)) (Or.inl (own_w hw 31 rfl)) (by decide) (t := (.array (.object "java/lang/Object"))) (t' := .int) (by decide) (by decide)))).other W46 (Or.inr (slot_ne (Or.inl (own_w hw 12 rfl)) (Or.inl (own_w hw 83 rfl)) (by decide) (t := (.array (.object "java/lang/Object"))) (t' := .int) (by decide) (by decide)))).other W53 (Or.inr (slot_ne (Or.inl (own_w hw 12 rfl)) (Or.inl (own_w hw 56 rfl)) (by decide) (t := (.array (.object "java/lang/Object"))) (t' := .int) (by decide) (by decide)))).other W55 (Or.inl ne2)).other W60 (Or.inr (slot_ne (Or.inl (own_w hw 12 rfl)) (Or.inl (own_w hw 38 rfl)) (by decide) (t := (.array (.object "java/lang/Object"))) (t' := .int) (by decide) (by decide))))
    obtain ⟨T62, X62, e62, st62⟩ := getF X60 hx hZ hown (host := "") (Or.inl (own_w hw 11 rfl)) Via.refl e60 f61 (g := (mkF m 108 #[vr q, vi sv, .unset] [(.ref q)])) rfl rfl (hb hby d11_108)
    refine Goes.via st62 ?_
    show Goes p e below _ (T62.setTop (mkF m 111 #[vr q, vi sv, .unset] [(.ref it)]))
    refine gILN X62 hx hby d11_111 rfl ?_
    show Goes p e below _ (T62.setTop (mkF m 112 #[vr q, vi sv, .unset] [(.int sv), (.ref it)]))
    have f63 := (((((u37_13.other W39 (Ne.symm ne1)).other W46 (Ne.symm ne1)).other W53 (Ne.symm ne1)).other W55 (show (it : Nat) ≠ fr by omega)).other W60 (Ne.symm ne1))
    rcases Arw.rfs f63 (i := nv) (by omega) with hn | ⟨ix, hn⟩
    · skip
      refine Goes.via (own_aaload X62 hx hZ e62 f63 rfl (j := sv) (i := nv) (own_ix hnv).1 (own_ix hnv).2 (by omega) (v := .null) hn (g := (mkF m 112 #[vr q, vi sv, .unset] [(.int sv), (.ref it)])) rfl rfl (hb hby d11_112)) ?_
      show Goes p e below _ (T62.setTop (mkF m 113 #[vr q, vi sv, .unset] [.null]))
      refine Goes.via (fun _ kk_ => XS.astoreN X62.here hx rfl (hb hby d11_113) rfl rfl (l' := #[vr q, vi sv, .val .null]) rfl kk_) ?_
      show Goes p e below _ (T62.setTop (mkF m 114 #[vr q, vi sv, .val .null] []))
      refine gALN X62 hx hby d11_114 rfl rfl ?_
      obtain ⟨T64, X64, e64, st64⟩ := getF X62 hx hZ hown (host := "") (Or.inl (own_w hw 11 rfl)) Via.refl e62 f61 (g := (mkF m 115 #[vr q, vi sv, .val .null] [(.ref q)])) rfl rfl (hb hby d11_115)
      refine Goes.via st64 ?_
      show Goes p e below _ (T64.setTop (mkF m 118 #[vr q, vi sv, .val .null] [(.ref it)]))
      refine gILN X64 hx hby d11_118 rfl ?_
      refine Goes.via (fun _ kk_ => XS.aconstNull X64.here hx rfl (hb hby d11_119) kk_) ?_
      show Goes p e below _ (T64.setTop (mkF m 120 #[vr q, vi sv, .val .null] [.null, (.int sv), (.ref it)]))
      obtain ⟨T65, h65, X65, e65, W65, A65, st65⟩ := own_aastoreN X64 hx hZ e64 f63 rfl rfl (j := sv) (i := nv) (own_ix hnv).1 (own_ix hnv).2 (by omega) (g := (mkF m 120 #[vr q, vi sv, .val .null] [.null, (.int sv), (.ref it)])) rfl rfl (hb hby d11_120)
      refine Goes.via st65 ?_
      have N65 := Fr.snoc X65 N60 (show n0 ≤ it by omega)
      show Goes p e below _ (T65.setTop (mkF m 121 #[vr q, vi sv, .val .null] []))
      refine gALN X65 hx hby d11_121 rfl rfl ?_
      have K66 : KpN n0 h0 h65 := (((((((((((KpN.refl n0 h0).wr W9 (show n0 ≤ ct by omega)).wr W13 H18).call K28 (allS H18 all0)).trans K37).wr W39 H18).wr W46 H18).wr W53 H18).wr W55 (show n0 ≤ fr by omega)).wr W60 H18).wr W65 (show n0 ≤ it by omega))
      have f67 := ((f59.wr W60).wr W65)
      have f68 := (f61.other W65 (Or.inl ne1))
      have f69 := ((((f48.other W53 (Or.inr (slot_ne (Or.inl (own_w hw 15 rfl)) (Or.inl (own_w hw 56 rfl)) (by decide) (t := (.array .int)) (t' := .int) (by decide) (by decide)))).other W55 (Or.inl ne2)).other W60 (Or.inr (slot_ne (Or.inl (own_w hw 15 rfl)) (Or.inl (own_w hw 38 rfl)) (by decide) (t := (.array .int)) (t' := .int) (by decide) (by decide)))).other W65 (Or.inl ne1))
      have f70 := (((Fw53.other W55 (Or.inl ne2)).other W60 (Or.inr (slot_ne (Or.inl (own_w hw 56 rfl)) (Or.inl (own_w hw 38 rfl)) (by decide) (t := .int) (t' := .int) (by decide) (by decide)))).other W65 (Or.inl ne1))
      have f71 := ((((((u37_4.other W39 (Or.inr (slot_ne (Or.inl (own_w hw 58 rfl)) (Or.inl (own_w hw 31 rfl)) (by decide) (t := .int) (t' := .int) (by decide) (by decide)))).other W46 (Or.inr (slot_ne (Or.inl (own_w hw 58 rfl)) (Or.inl (own_w hw 83 rfl)) (by decide) (t := .int) (t' := .int) (by decide) (by decide)))).other W53 (Or.inr (slot_ne (Or.inl (own_w hw 58 rfl)) (Or.inl (own_w hw 56 rfl)) (by decide) (t := .int) (t' := .int) (by decide) (by decide)))).other W55 (Or.inl ne2)).other W60 (Or.inr (slot_ne (Or.inl (own_w hw 58 rfl)) (Or.inl (own_w hw 38 rfl)) (by decide) (t := .int) (t' := .int) (by decide) (by decide)))).other W65 (Or.inl ne1))
      have f72 := (Fw60.other W65 (Or.inl ne1))
      have f73 := ((((((u37_6.other W39 (Or.inr (slot_ne (Or.inr (own_w hw 20 rfl)) (Or.inl (own_w hw 31 rfl)) (by decide) (t := (.array (.array .long))) (t' := .int) (by decide) (by decide)))).other W46 (Or.inr (slot_ne (Or.inr (own_w hw 20 rfl)) (Or.inl (own_w hw 83 rfl)) (by decide) (t := (.array (.array .long))) (t' := .int) (by decide) (by decide)))).other W53 (Or.inr (slot_ne (Or.inr (own_w hw 20 rfl)) (Or.inl (own_w hw 56 rfl)) (by decide) (t := (.array (.array .long))) (t' := .int) (by decide) (by decide)))).other W55 (Or.inl ne2)).other W60 (Or.inr (slot_ne (Or.inr (own_w hw 20 rfl)) (Or.inl (own_w hw 38 rfl)) (by decide) (t := (.array (.array .long))) (t' := .int) (by decide) (by decide)))).other W65 (Or.inl ne1))
      have f74 := (((((f40.other W46 (Or.inr (slot_ne (Or.inr (own_w hw 24 rfl)) (Or.inl (own_w hw 83 rfl)) (by decide) (t := (.array (.array .int))) (t' := .int) (by decide) (by decide)))).other W53 (Or.inr (slot_ne (Or.inr (own_w hw 24 rfl)) (Or.inl (own_w hw 56 rfl)) (by decide) (t := (.array (.array .int))) (t' := .int) (by decide) (by decide)))).other W55 (Or.inl ne2)).other W60 (Or.inr (slot_ne (Or.inr (own_w hw 24 rfl)) (Or.inl (own_w hw 38 rfl)) (by decide) (t := (.array (.array .int))) (t' := .int) (by decide) (by decide)))).other W65 (Or.inl ne1))
      have f75 := ((((((u37_8.other W39 (Or.inr (slot_ne (Or.inr (own_w hw 26 rfl)) (Or.inl (own_w hw 31 rfl)) (by decide) (t := (.array .int)) (t' := .int) (by decide) (by decide)))).other W46 (Or.inr (slot_ne (Or.inr (own_w hw 26 rfl)) (Or.inl (own_w hw 83 rfl)) (by decide) (t := (.array .int)) (t' := .int) (by decide) (by decide)))).other W53 (Or.inr (slot_ne (Or.inr (own_w hw 26 rfl)) (Or.inl (own_w hw 56 rfl)) (by decide) (t := (.array .int)) (t' := .int) (by decide) (by decide)))).other W55 (Or.inl ne2)).other W60 (Or.inr (slot_ne (Or.inr (own_w hw 26 rfl)) (Or.inl (own_w hw 38 rfl)) (by decide) (t := (.array .int)) (t' := .int) (by decide) (by decide)))).other W65 (Or.inl ne1))
      have f76 := ((((Fw46.other W53 (Or.inr (slot_ne (Or.inl (own_w hw 83 rfl)) (Or.inl (own_w hw 56 rfl)) (by decide) (t := .int) (t' := .int) (by decide) (by decide)))).other W55 (Or.inl ne2)).other W60 (Or.inr (slot_ne (Or.inl (own_w hw 83 rfl)) (Or.inl (own_w hw 38 rfl)) (by decide) (t := .int) (t' := .int) (by decide) (by decide)))).other W65 (Or.inl ne1))
      have f77 := ((((((u37_10.other W39 (Or.inr (slot_ne (Or.inl (own_w hw 29 rfl)) (Or.inl (own_w hw 31 rfl)) (by decide) (t := .long) (t' := .int) (by decide) (by decide)))).other W46 (Or.inr (slot_ne (Or.inl (own_w hw 29 rfl)) (Or.inl (own_w hw 83 rfl)) (by decide) (t := .long) (t' := .int) (by decide) (by decide)))).other W53 (Or.inr (slot_ne (Or.inl (own_w hw 29 rfl)) (Or.inl (own_w hw 56 rfl)) (by decide) (t := .long) (t' := .int) (by decide) (by decide)))).other W55 (Or.inl ne2)).other W60 (Or.inr (slot_ne (Or.inl (own_w hw 29 rfl)) (Or.inl (own_w hw 38 rfl)) (by decide) (t := .long) (t' := .int) (by decide) (by decide)))).other W65 (Or.inl ne1))
      have f78 := (((((Fw39.other W46 (Or.inr (slot_ne (Or.inl (own_w hw 31 rfl)) (Or.inl (own_w hw 83 rfl)) (by decide) (t := .int) (t' := .int) (by decide) (by decide)))).other W53 (Or.inr (slot_ne (Or.inl (own_w hw 31 rfl)) (Or.inl (own_w hw 56 rfl)) (by decide) (t := .int) (t' := .int) (by decide) (by decide)))).other W55 (Or.inl ne2)).other W60 (Or.inr (slot_ne (Or.inl (own_w hw 31 rfl)) (Or.inl (own_w hw 38 rfl)) (by decide) (t := .int) (t' := .int) (by decide) (by decide)))).other W65 (Or.inl ne1))
      have f79 := ((((((u37_12.other W39 (Or.inr (slot_ne (Or.inl (own_w hw 89 rfl)) (Or.inl (own_w hw 31 rfl)) (by decide) (t := .long) (t' := .int) (by decide) (by decide)))).other W46 (Or.inr (slot_ne (Or.inl (own_w hw 89 rfl)) (Or.inl (own_w hw 83 rfl)) (by decide) (t := .long) (t' := .int) (by decide) (by decide)))).other W53 (Or.inr (slot_ne (Or.inl (own_w hw 89 rfl)) (Or.inl (own_w hw 56 rfl)) (by decide) (t := .long) (t' := .int) (by decide) (by decide)))).other W55 (Or.inl ne2)).other W60 (Or.inr (slot_ne (Or.inl (own_w hw 89 rfl)) (Or.inl (own_w hw 38 rfl)) (by decide) (t := .long) (t' := .int) (by decide) (by decide)))).other W65 (Or.inl ne1))
      have f80 := ((cv56.other W60 (Ne.symm ne2)).other W65 (show (fr : Nat) ≠ it by omega))
      have f81 := ((((((u37_15.off W39 (show (q : Nat) < mo ∨ mo + 65 < q by omega)).off W46 (show (q : Nat) < mo ∨ mo + 65 < q by omega)).off W53 (show (q : Nat) < mo ∨ mo + 65 < q by omega)).off W55 (show (fr : Nat) < mo ∨ mo + 65 < fr by omega)).off W60 (show (q : Nat) < mo ∨ mo + 65 < q by omega)).off W65 (show (it : Nat) < mo ∨ mo + 65 < it by omega))
      have f82 := ((((f47.off W53 (show (q : Nat) < sl ∨ sl + 65 < q by omega)).off W55 (show (fr : Nat) < sl ∨ sl + 65 < fr by omega)).off W60 (show (q : Nat) < sl ∨ sl + 65 < q by omega)).off W65 (show (it : Nat) < sl ∨ sl + 65 < it by omega))
      have f83 := ((((((u37_17.other W39 (Ne.symm ne3)).other W46 (Ne.symm ne3)).other W53 (Ne.symm ne3)).other W55 (show (ct : Nat) ≠ fr by omega)).other W60 (Ne.symm ne3)).other W65 (show (ct : Nat) ≠ it by omega))
      exact own_finR X65 hx hlk hret rfl rfl rfl (hb hby d11_122) (by rw [e65]; exact ⟨.null, (fs + (1 : Int32)), (1 : Int32), e128, e128, (own_upd fI nv .null), (own_cu fF nfs sv), gM'37, gS'37, cn'37, rfl, N65, K66, f67, f68, f69, f70, f71, f72, f73, f74, f75, f76, f77, f78, f79, A65, f80, f81, f82, f83, (by have q := own_Ipoll (j := nfs) HIp HK hszp hf1 hsv; first | exact q | (rw [show (0 : Int32) + (1 : Int32) = (1 : Int32) by decide] at q; exact q)), rfl⟩) (by first | decide | omega | (dsimp only; omega)) (by first | decide | omega | (dsimp only; omega))
    · skip
      refine Goes.via (own_aaload X62 hx hZ e62 f63 rfl (j := sv) (i := nv) (own_ix hnv).1 (own_ix hnv).2 (by omega) (v := (.ref ix)) hn (g := (mkF m 112 #[vr q, vi sv, .unset] [(.int sv), (.ref it)])) rfl rfl (hb hby d11_112)) ?_
      show Goes p e below _ (T62.setTop (mkF m 113 #[vr q, vi sv, .unset] [(.ref ix)]))
      refine Goes.via (fun _ kk_ => XS.astoreN X62.here hx rfl (hb hby d11_113) rfl rfl (l' := #[vr q, vi sv, vr ix]) rfl kk_) ?_
      show Goes p e below _ (T62.setTop (mkF m 114 #[vr q, vi sv, vr ix] []))
      refine gALN X62 hx hby d11_114 rfl rfl ?_
      obtain ⟨T84, X84, e84, st84⟩ := getF X62 hx hZ hown (host := "") (Or.inl (own_w hw 11 rfl)) Via.refl e62 f61 (g := (mkF m 115 #[vr q, vi sv, vr ix] [(.ref q)])) rfl rfl (hb hby d11_115)
      refine Goes.via st84 ?_
      show Goes p e below _ (T84.setTop (mkF m 118 #[vr q, vi sv, vr ix] [(.ref it)]))
      refine gILN X84 hx hby d11_118 rfl ?_
      refine Goes.via (fun _ kk_ => XS.aconstNull X84.here hx rfl (hb hby d11_119) kk_) ?_
      show Goes p e below _ (T84.setTop (mkF m 120 #[vr q, vi sv, vr ix] [.null, (.int sv), (.ref it)]))
      obtain ⟨T85, h85, X85, e85, W85, A85, st85⟩ := own_aastoreN X84 hx hZ e84 f63 rfl rfl (j := sv) (i := nv) (own_ix hnv).1 (own_ix hnv).2 (by omega) (g := (mkF m 120 #[vr q, vi sv, vr ix] [.null, (.int sv), (.ref it)])) rfl rfl (hb hby d11_120)
      refine Goes.via st85 ?_
      have N85 := Fr.snoc X85 N60 (show n0 ≤ it by omega)
      show Goes p e below _ (T85.setTop (mkF m 121 #[vr q, vi sv, vr ix] []))
      refine gALN X85 hx hby d11_121 rfl rfl ?_
      have K86 : KpN n0 h0 h85 := (((((((((((KpN.refl n0 h0).wr W9 (show n0 ≤ ct by omega)).wr W13 H18).call K28 (allS H18 all0)).trans K37).wr W39 H18).wr W46 H18).wr W53 H18).wr W55 (show n0 ≤ fr by omega)).wr W60 H18).wr W85 (show n0 ≤ it by omega))
      have f87 := ((f59.wr W60).wr W85)
      have f88 := (f61.other W85 (Or.inl ne1))
      have f89 := ((((f48.other W53 (Or.inr (slot_ne (Or.inl (own_w hw 15 rfl)) (Or.inl (own_w hw 56 rfl)) (by decide) (t := (.array .int)) (t' := .int) (by decide) (by decide)))).other W55 (Or.inl ne2)).other W60 (Or.inr (slot_ne (Or.inl (own_w hw 15 rfl)) (Or.inl (own_w hw 38 rfl)) (by decide) (t := (.array .int)) (t' := .int) (by decide) (by decide)))).other W85 (Or.inl ne1))
      have f90 := (((Fw53.other W55 (Or.inl ne2)).other W60 (Or.inr (slot_ne (Or.inl (own_w hw 56 rfl)) (Or.inl (own_w hw 38 rfl)) (by decide) (t := .int) (t' := .int) (by decide) (by decide)))).other W85 (Or.inl ne1))
      have f91 := ((((((u37_4.other W39 (Or.inr (slot_ne (Or.inl (own_w hw 58 rfl)) (Or.inl (own_w hw 31 rfl)) (by decide) (t := .int) (t' := .int) (by decide) (by decide)))).other W46 (Or.inr (slot_ne (Or.inl (own_w hw 58 rfl)) (Or.inl (own_w hw 83 rfl)) (by decide) (t := .int) (t' := .int) (by decide) (by decide)))).other W53 (Or.inr (slot_ne (Or.inl (own_w hw 58 rfl)) (Or.inl (own_w hw 56 rfl)) (by decide) (t := .int) (t' := .int) (by decide) (by decide)))).other W55 (Or.inl ne2)).other W60 (Or.inr (slot_ne (Or.inl (own_w hw 58 rfl)) (Or.inl (own_w hw 38 rfl)) (by decide) (t := .int) (t' := .int) (by decide) (by decide)))).other W85 (Or.inl ne1))
      have f92 := (Fw60.other W85 (Or.inl ne1))
      have f93 := ((((((u37_6.other W39 (Or.inr (slot_ne (Or.inr (own_w hw 20 rfl)) (Or.inl (own_w hw 31 rfl)) (by decide) (t := (.array (.array .long))) (t' := .int) (by decide) (by decide)))).other W46 (Or.inr (slot_ne (Or.inr (own_w hw 20 rfl)) (Or.inl (own_w hw 83 rfl)) (by decide) (t := (.array (.array .long))) (t' := .int) (by decide) (by decide)))).other W53 (Or.inr (slot_ne (Or.inr (own_w hw 20 rfl)) (Or.inl (own_w hw 56 rfl)) (by decide) (t := (.array (.array .long))) (t' := .int) (by decide) (by decide)))).other W55 (Or.inl ne2)).other W60 (Or.inr (slot_ne (Or.inr (own_w hw 20 rfl)) (Or.inl (own_w hw 38 rfl)) (by decide) (t := (.array (.array .long))) (t' := .int) (by decide) (by decide)))).other W85 (Or.inl ne1))
      have f94 := (((((f40.other W46 (Or.inr (slot_ne (Or.inr (own_w hw 24 rfl)) (Or.inl (own_w hw 83 rfl)) (by decide) (t := (.array (.array .int))) (t' := .int) (by decide) (by decide)))).other W53 (Or.inr (slot_ne (Or.inr (own_w hw 24 rfl)) (Or.inl (own_w hw 56 rfl)) (by decide) (t := (.array (.array .int))) (t' := .int) (by decide) (by decide)))).other W55 (Or.inl ne2)).other W60 (Or.inr (slot_ne (Or.inr (own_w hw 24 rfl)) (Or.inl (own_w hw 38 rfl)) (by decide) (t := (.array (.array .int))) (t' := .int) (by decide) (by decide)))).other W85 (Or.inl ne1))
      have f95 := ((((((u37_8.other W39 (Or.inr (slot_ne (Or.inr (own_w hw 26 rfl)) (Or.inl (own_w hw 31 rfl)) (by decide) (t := (.array .int)) (t' := .int) (by decide) (by decide)))).other W46 (Or.inr (slot_ne (Or.inr (own_w hw 26 rfl)) (Or.inl (own_w hw 83 rfl)) (by decide) (t := (.array .int)) (t' := .int) (by decide) (by decide)))).other W53 (Or.inr (slot_ne (Or.inr (own_w hw 26 rfl)) (Or.inl (own_w hw 56 rfl)) (by decide) (t := (.array .int)) (t' := .int) (by decide) (by decide)))).other W55 (Or.inl ne2)).other W60 (Or.inr (slot_ne (Or.inr (own_w hw 26 rfl)) (Or.inl (own_w hw 38 rfl)) (by decide) (t := (.array .int)) (t' := .int) (by decide) (by decide)))).other W85 (Or.inl ne1))
      have f96 := ((((Fw46.other W53 (Or.inr (slot_ne (Or.inl (own_w hw 83 rfl)) (Or.inl (own_w hw 56 rfl)) (by decide) (t := .int) (t' := .int) (by decide) (by decide)))).other W55 (Or.inl ne2)).other W60 (Or.inr (slot_ne (Or.inl (own_w hw 83 rfl)) (Or.inl (own_w hw 38 rfl)) (by decide) (t := .int) (t' := .int) (by decide) (by decide)))).other W85 (Or.inl ne1))
      have f97 := ((((((u37_10.other W39 (Or.inr (slot_ne (Or.inl (own_w hw 29 rfl)) (Or.inl (own_w hw 31 rfl)) (by decide) (t := .long) (t' := .int) (by decide) (by decide)))).other W46 (Or.inr (slot_ne (Or.inl (own_w hw 29 rfl)) (Or.inl (own_w hw 83 rfl)) (by decide) (t := .long) (t' := .int) (by decide) (by decide)))).other W53 (Or.inr (slot_ne (Or.inl (own_w hw 29 rfl)) (Or.inl (own_w hw 56 rfl)) (by decide) (t := .long) (t' := .int) (by decide) (by decide)))).other W55 (Or.inl ne2)).other W60 (Or.inr (slot_ne (Or.inl (own_w hw 29 rfl)) (Or.inl (own_w hw 38 rfl)) (by decide) (t := .long) (t' := .int) (by decide) (by decide)))).other W85 (Or.inl ne1))
      have f98 := (((((Fw39.other W46 (Or.inr (slot_ne (Or.inl (own_w hw 31 rfl)) (Or.inl (own_w hw 83 rfl)) (by decide) (t := .int) (t' := .int) (by decide) (by decide)))).other W53 (Or.inr (slot_ne (Or.inl (own_w hw 31 rfl)) (Or.inl (own_w hw 56 rfl)) (by decide) (t := .int) (t' := .int) (by decide) (by decide)))).other W55 (Or.inl ne2)).other W60 (Or.inr (slot_ne (Or.inl (own_w hw 31 rfl)) (Or.inl (own_w hw 38 rfl)) (by decide) (t := .int) (t' := .int) (by decide) (by decide)))).other W85 (Or.inl ne1))
      have f99 := ((((((u37_12.other W39 (Or.inr (slot_ne (Or.inl (own_w hw 89 rfl)) (Or.inl (own_w hw 31 rfl)) (by decide) (t := .long) (t' := .int) (by decide) (by decide)))).other W46 (Or.inr (slot_ne (Or.inl (own_w hw 89 rfl)) (Or.inl (own_w hw 83 rfl)) (by decide) (t := .long) (t' := .int) (by decide) (by decide)))).other W53 (Or.inr (slot_ne (Or.inl (own_w hw 89 rfl)) (Or.inl (own_w hw 56 rfl)) (by decide) (t := .long) (t' := .int) (by decide) (by decide)))).other W55 (Or.inl ne2)).other W60 (Or.inr (slot_ne (Or.inl (own_w hw 89 rfl)) (Or.inl (own_w hw 38 rfl)) (by decide) (t := .long) (t' := .int) (by decide) (by decide)))).other W85 (Or.inl ne1))
      have f100 := ((cv56.other W60 (Ne.symm ne2)).other W85 (show (fr : Nat) ≠ it by omega))
      have f101 := ((((((u37_15.off W39 (show (q : Nat) < mo ∨ mo + 65 < q by omega)).off W46 (show (q : Nat) < mo ∨ mo + 65 < q by omega)).off W53 (show (q : Nat) < mo ∨ mo + 65 < q by omega)).off W55 (show (fr : Nat) < mo ∨ mo + 65 < fr by omega)).off W60 (show (q : Nat) < mo ∨ mo + 65 < q by omega)).off W85 (show (it : Nat) < mo ∨ mo + 65 < it by omega))
      have f102 := ((((f47.off W53 (show (q : Nat) < sl ∨ sl + 65 < q by omega)).off W55 (show (fr : Nat) < sl ∨ sl + 65 < fr by omega)).off W60 (show (q : Nat) < sl ∨ sl + 65 < q by omega)).off W85 (show (it : Nat) < sl ∨ sl + 65 < it by omega))
      have f103 := ((((((u37_17.other W39 (Ne.symm ne3)).other W46 (Ne.symm ne3)).other W53 (Ne.symm ne3)).other W55 (show (ct : Nat) ≠ fr by omega)).other W60 (Ne.symm ne3)).other W85 (show (ct : Nat) ≠ it by omega))
      exact own_finR X85 hx hlk hret rfl rfl rfl (hb hby d11_122) (by rw [e85]; exact ⟨(.ref ix), (fs + (1 : Int32)), (1 : Int32), e128, e128, (own_upd fI nv .null), (own_cu fF nfs sv), gM'37, gS'37, cn'37, rfl, N85, K86, f87, f88, f89, f90, f91, f92, f93, f94, f95, f96, f97, f98, f99, A85, f100, f101, f102, f103, (by have q := own_Ipoll (j := nfs) HIp HK hszp hf1 hsv; first | exact q | (rw [show (0 : Int32) + (1 : Int32) = (1 : Int32) by decide] at q; exact q)), rfl⟩) (by first | decide | omega | (dsimp only; omega)) (by first | decide | omega | (dsimp only; omega))
  · skip
    refine Goes.via (fun _ kk_ => XS.icmpYes X7.here hx rfl (pc0 := 25) (pc' := 56) rfl (hb hby d11_25) rfl (feq hc25).2 (by decide) (by decide) kk_) ?_
    show Goes p e below _ (T7.setTop (mkF m 56 #[vr q, .unset, .unset] []))
    have HIp := HI
    have hf1 : fi.toInt < (cn 0 : Int) := own_flt (by omega) a3 hc25
    have hs65 := own_sumL cn (b := 0) (k := 65) (by decide)
    have hIs := HIp.1.2.2.2.2.1
    obtain ⟨nfi, hnfi⟩ := own_nat (x := fi) HIp.1.2.1
    obtain ⟨nfs, hnfs⟩ := own_nat (x := fs) a6
    refine gALN X7 hx hby d11_56 rfl rfl ?_
    refine gIC (z := -1) X7 hx hby d11_57 rfl ?_
    obtain ⟨T104, h104, X104, e104, W104, st104⟩ := putF X7 hx hZ hown (host := "") (Or.inl (own_w hw 30 rfl)) Via.refl e7 F11_q_soonestBucket E0_q (Or.inl (own_w hw 31 rfl)) (own_w hw 1 rfl) (ty := .int) (by decide) rfl rfl (g := (mkF m 58 #[vr q, .unset, .unset] [(.int (-1 : Int32)), (.ref q)])) rfl rfl (hb hby d11_58)
    refine Goes.via st104 ?_
    have N104 := Fr.snoc X104 N0 H18
    have Fw104 : Fld Z h104 q "nearhop/sim/EventQueue" "soonestBucket" "I" (.int (-1 : Int32)) := F11_q_soonestBucket.same W104
    show Goes p e below _ (T104.setTop (mkF m 61 #[vr q, .unset, .unset] []))
    refine gALN X104 hx hby d11_61 rfl rfl ?_
    have f105 := (F7_q_slots.other W104 (Or.inr (slot_ne (Or.inr (own_w hw 24 rfl)) (Or.inl (own_w hw 31 rfl)) (by decide) (t := (.array (.array .int))) (t' := .int) (by decide) (by decide))))
    obtain ⟨T106, X106, e106, st106⟩ := getF X104 hx hZ hown (host := "") (Or.inl (own_w hw 23 rfl)) Via.refl e104 f105 (g := (mkF m 62 #[vr q, .unset, .unset] [(.ref q)])) rfl rfl (hb hby d11_62)
    refine Goes.via st106 ?_
    show Goes p e below _ (T106.setTop (mkF m 65 #[vr q, .unset, .unset] [(.ref sl)]))
    refine gIC (z := 0) X106 hx hby d11_65 rfl ?_
    show Goes p e below _ (T106.setTop (mkF m 66 #[vr q, .unset, .unset] [(.int (0 : Int32)), (.ref sl)]))
    have f107 := (A16_sl.off W104 (show (q : Nat) < sl ∨ sl + 65 < q by omega))
    refine Goes.via (own_gal X106 hx hZ e106 f107 (i := 0) (by decide) (by decide) (g := (mkF m 66 #[vr q, .unset, .unset] [(.int (0 : Int32)), (.ref sl)])) rfl rfl (hb hby d11_66)) ?_
    show Goes p e below _ (T106.setTop (mkF m 67 #[vr q, .unset, .unset] [(.ref (sl + 1 + 0))]))
    refine gALN X106 hx hby d11_67 rfl rfl ?_
    refine gDU X106 hx hby d11_68 rfl ?_
    have f108 := (F9_q_first.other W104 (Or.inr (slot_ne (Or.inl (own_w hw 83 rfl)) (Or.inl (own_w hw 31 rfl)) (by decide) (t := .int) (t' := .int) (by decide) (by decide))))
    obtain ⟨T109, X109, e109, st109⟩ := getF X106 hx hZ hown (host := "") (Or.inl (own_w hw 82 rfl)) Via.refl e106 f108 (g := (mkF m 69 #[vr q, .unset, .unset] [(.ref q), (.ref q), (.ref (sl + 1 + 0))])) rfl rfl (hb hby d11_69)
    refine Goes.via st109 ?_
    show Goes p e below _ (T109.setTop (mkF m 72 #[vr q, .unset, .unset] [(.int fi), (.ref q), (.ref (sl + 1 + 0))]))
    refine Goes.via (fun _ kk_ => XS.dupX1 X109.here hx rfl (hb hby d11_72) rfl rfl rfl kk_) ?_
    show Goes p e below _ (T109.setTop (mkF m 73 #[vr q, .unset, .unset] [(.int fi), (.ref q), (.int fi), (.ref (sl + 1 + 0))]))
    refine gIC (z := 1) X109 hx hby d11_73 rfl ?_
    refine Goes.via (fun _ kk_ => XS.iadd X109.here hx rfl (hb hby d11_74) rfl kk_) ?_
    show Goes p e below _ (T109.setTop (mkF m 75 #[vr q, .unset, .unset] [(.int (fi + (1 : Int32))), (.ref q), (.int fi), (.ref (sl + 1 + 0))]))
    have f110 := (E0_q.wr W104)
    obtain ⟨T111, h111, X111, e111, W111, st111⟩ := putF X109 hx hZ hown (host := "") (Or.inl (own_w hw 82 rfl)) Via.refl e109 f108 f110 (Or.inl (own_w hw 83 rfl)) (own_w hw 1 rfl) (ty := .int) (by decide) rfl rfl (g := (mkF m 75 #[vr q, .unset, .unset] [(.int (fi + (1 : Int32))), (.ref q), (.int fi), (.ref (sl + 1 + 0))])) rfl rfl (hb hby d11_75)
    refine Goes.via st111 ?_
    have N111 := Fr.snoc X111 N104 H18
    have Fw111 : Fld Z h111 q "nearhop/sim/EventQueue" "first" "I" (.int (fi + (1 : Int32))) := f108.same W111
    show Goes p e below _ (T111.setTop (mkF m 78 #[vr q, .unset, .unset] [(.int fi), (.ref (sl + 1 + 0))]))
    have f112 := (f107.off W111 (show (q : Nat) < sl ∨ sl + 65 < q by omega))
    refine Goes.via (own_gial X111 hx hZ e111 f112 (i := 0) (j := nfi) (by decide) hnfi (by omega) (v := (gS 0 nfi)) rfl (g := (mkF m 78 #[vr q, .unset, .unset] [(.int fi), (.ref (sl + 1 + 0))])) rfl rfl (hb hby d11_78)) ?_
    show Goes p e below _ (T111.setTop (mkF m 79 #[vr q, .unset, .unset] [(.int (gS 0 nfi))]))
    refine Goes.via (fun _ kk_ => XS.istoreN X111.here hx rfl (hb hby d11_79) rfl (l' := #[vr q, vi (gS 0 nfi), .unset]) rfl kk_) ?_
    show Goes p e below _ (T111.setTop (mkF m 80 #[vr q, vi (gS 0 nfi), .unset] []))
    have hsv := HIp.2.1 0 nfi
    generalize hv_sv : (gS 0 nfi) = sv
    rw [hv_sv] at hsv
    show Goes p e below _ (T111.setTop (mkF m 80 #[vr q, vi sv, .unset] []))
    obtain ⟨nv, hnv⟩ := own_nat hsv.1
    refine gALN X111 hx hby d11_80 rfl rfl ?_
    have f113 := ((F2_q_free.other W104 (Or.inr (slot_ne (Or.inl (own_w hw 15 rfl)) (Or.inl (own_w hw 31 rfl)) (by decide) (t := (.array .int)) (t' := .int) (by decide) (by decide)))).other W111 (Or.inr (slot_ne (Or.inl (own_w hw 15 rfl)) (Or.inl (own_w hw 83 rfl)) (by decide) (t := (.array .int)) (t' := .int) (by decide) (by decide))))
    obtain ⟨T114, X114, e114, st114⟩ := getF X111 hx hZ hown (host := "") (Or.inl (own_w hw 14 rfl)) Via.refl e111 f113 (g := (mkF m 81 #[vr q, vi sv, .unset] [(.ref q)])) rfl rfl (hb hby d11_81)
    refine Goes.via st114 ?_
    show Goes p e below _ (T114.setTop (mkF m 84 #[vr q, vi sv, .unset] [(.ref fr)]))
    refine gALN X114 hx hby d11_84 rfl rfl ?_
    refine gDU X114 hx hby d11_85 rfl ?_
    have f115 := ((F3_q_freeSlots.other W104 (Or.inr (slot_ne (Or.inl (own_w hw 56 rfl)) (Or.inl (own_w hw 31 rfl)) (by decide) (t := .int) (t' := .int) (by decide) (by decide)))).other W111 (Or.inr (slot_ne (Or.inl (own_w hw 56 rfl)) (Or.inl (own_w hw 83 rfl)) (by decide) (t := .int) (t' := .int) (by decide) (by decide))))
    obtain ⟨T116, X116, e116, st116⟩ := getF X114 hx hZ hown (host := "") (Or.inl (own_w hw 55 rfl)) Via.refl e114 f115 (g := (mkF m 86 #[vr q, vi sv, .unset] [(.ref q), (.ref q), (.ref fr)])) rfl rfl (hb hby d11_86)
    refine Goes.via st116 ?_
    show Goes p e below _ (T116.setTop (mkF m 89 #[vr q, vi sv, .unset] [(.int fs), (.ref q), (.ref fr)]))
    refine Goes.via (fun _ kk_ => XS.dupX1 X116.here hx rfl (hb hby d11_89) rfl rfl rfl kk_) ?_
    show Goes p e below _ (T116.setTop (mkF m 90 #[vr q, vi sv, .unset] [(.int fs), (.ref q), (.int fs), (.ref fr)]))
    refine gIC (z := 1) X116 hx hby d11_90 rfl ?_
    refine Goes.via (fun _ kk_ => XS.iadd X116.here hx rfl (hb hby d11_91) rfl kk_) ?_
    show Goes p e below _ (T116.setTop (mkF m 92 #[vr q, vi sv, .unset] [(.int (fs + (1 : Int32))), (.ref q), (.int fs), (.ref fr)]))
    have f117 := (f110.wr W111)
    obtain ⟨T118, h118, X118, e118, W118, st118⟩ := putF X116 hx hZ hown (host := "") (Or.inl (own_w hw 55 rfl)) Via.refl e116 f115 f117 (Or.inl (own_w hw 56 rfl)) (own_w hw 1 rfl) (ty := .int) (by decide) rfl rfl (g := (mkF m 92 #[vr q, vi sv, .unset] [(.int (fs + (1 : Int32))), (.ref q), (.int fs), (.ref fr)])) rfl rfl (hb hby d11_92)
    refine Goes.via st118 ?_
    have N118 := Fr.snoc X118 N111 H18
    have Fw118 : Fld Z h118 q "nearhop/sim/EventQueue" "freeSlots" "I" (.int (fs + (1 : Int32))) := f115.same W118
    show Goes p e below _ (T118.setTop (mkF m 95 #[vr q, vi sv, .unset] [(.int fs), (.ref fr)]))
    refine gILN X118 hx hby d11_95 rfl ?_
    have f119 := (((A14_fr.other W104 (Ne.symm ne2)).other W111 (Ne.symm ne2)).other W118 (Ne.symm ne2))
    obtain ⟨T120, h120, X120, e120, W120, A120, st120⟩ := own_iastore X118 hx hZ e118 f119 (j := fs) (i := nfs) (own_ix hnfs).1 (own_ix hnfs).2 (by omega) (g := (mkF m 96 #[vr q, vi sv, .unset] [(.int sv), (.int fs), (.ref fr)])) rfl rfl (hb hby d11_96)
    refine Goes.via st120 ?_
    have N120 := Fr.snoc X120 N118 (show n0 ≤ fr by omega)
    show Goes p e below _ (T120.setTop (mkF m 97 #[vr q, vi sv, .unset] []))
    have cv121 : Arw Z h120 fr kF .int 64 (fun i => .int ((own_cu fF nfs sv) i)) := (Arw.toC (w := fun z => .int z) A120)
    refine gALN X120 hx hby d11_97 rfl rfl ?_
    refine gDU X120 hx hby d11_98 rfl ?_
    have f122 := ((((F5_q_size.other W104 (Or.inr (slot_ne (Or.inl (own_w hw 38 rfl)) (Or.inl (own_w hw 31 rfl)) (by decide) (t := .int) (t' := .int) (by decide) (by decide)))).other W111 (Or.inr (slot_ne (Or.inl (own_w hw 38 rfl)) (Or.inl (own_w hw 83 rfl)) (by decide) (t := .int) (t' := .int) (by decide) (by decide)))).other W118 (Or.inr (slot_ne (Or.inl (own_w hw 38 rfl)) (Or.inl (own_w hw 56 rfl)) (by decide) (t := .int) (t' := .int) (by decide) (by decide)))).other W120 (Or.inl ne2))
    obtain ⟨T123, X123, e123, st123⟩ := getF X120 hx hZ hown (host := "") (Or.inl (own_w hw 37 rfl)) Via.refl e120 f122 (g := (mkF m 99 #[vr q, vi sv, .unset] [(.ref q), (.ref q)])) rfl rfl (hb hby d11_99)
    refine Goes.via st123 ?_
    show Goes p e below _ (T123.setTop (mkF m 102 #[vr q, vi sv, .unset] [(.int sz), (.ref q)]))
    refine gIC (z := 1) X123 hx hby d11_102 rfl ?_
    refine Goes.via (fun _ kk_ => XS.isub X123.here hx rfl (hb hby d11_103) rfl kk_) ?_
    show Goes p e below _ (T123.setTop (mkF m 104 #[vr q, vi sv, .unset] [(.int (sz - (1 : Int32))), (.ref q)]))
    have f124 := ((f117.wr W118).wr W120)
    obtain ⟨T125, h125, X125, e125, W125, st125⟩ := putF X123 hx hZ hown (host := "") (Or.inl (own_w hw 37 rfl)) Via.refl e123 f122 f124 (Or.inl (own_w hw 38 rfl)) (own_w hw 1 rfl) (ty := .int) (by decide) rfl rfl (g := (mkF m 104 #[vr q, vi sv, .unset] [(.int (sz - (1 : Int32))), (.ref q)])) rfl rfl (hb hby d11_104)
    refine Goes.via st125 ?_
    have N125 := Fr.snoc X125 N120 H18
    have Fw125 : Fld Z h125 q "nearhop/sim/EventQueue" "size" "I" (.int (sz - (1 : Int32))) := f122.same W125
    show Goes p e below _ (T125.setTop (mkF m 107 #[vr q, vi sv, .unset] []))
    refine gALN X125 hx hby d11_107 rfl rfl ?_
    have f126 := (((((F1_q_items.other W104 (Or.inr (slot_ne (Or.inl (own_w hw 12 rfl)) (Or.inl (own_w hw 31 rfl)) (by decide) (t := (.array (.object "java/lang/Object"))) (t' := .int) (by decide) (by decide)))).other W111 (Or.inr (slot_ne (Or.inl (own_w hw 12 rfl)) (Or.inl (own_w hw 83 rfl)) (by decide) (t := (.array (.object "java/lang/Object"))) (t' := .int) (by decide) (by decide)))).other W118 (Or.inr (slot_ne (Or.inl (own_w hw 12 rfl)) (Or.inl (own_w hw 56 rfl)) (by decide) (t := (.array (.object "java/lang/Object"))) (t' := .int) (by decide) (by decide)))).other W120 (Or.inl ne2)).other W125 (Or.inr (slot_ne (Or.inl (own_w hw 12 rfl)) (Or.inl (own_w hw 38 rfl)) (by decide) (t := (.array (.object "java/lang/Object"))) (t' := .int) (by decide) (by decide))))
    obtain ⟨T127, X127, e127, st127⟩ := getF X125 hx hZ hown (host := "") (Or.inl (own_w hw 11 rfl)) Via.refl e125 f126 (g := (mkF m 108 #[vr q, vi sv, .unset] [(.ref q)])) rfl rfl (hb hby d11_108)
    refine Goes.via st127 ?_
    show Goes p e below _ (T127.setTop (mkF m 111 #[vr q, vi sv, .unset] [(.ref it)]))
    refine gILN X127 hx hby d11_111 rfl ?_
    show Goes p e below _ (T127.setTop (mkF m 112 #[vr q, vi sv, .unset] [(.int sv), (.ref it)]))
    have f128 := (((((A13_it.other W104 (Ne.symm ne1)).other W111 (Ne.symm ne1)).other W118 (Ne.symm ne1)).other W120 (show (it : Nat) ≠ fr by omega)).other W125 (Ne.symm ne1))
    rcases Arw.rfs f128 (i := nv) (by omega) with hn | ⟨ix, hn⟩
    · skip
      refine Goes.via (own_aaload X127 hx hZ e127 f128 rfl (j := sv) (i := nv) (own_ix hnv).1 (own_ix hnv).2 (by omega) (v := .null) hn (g := (mkF m 112 #[vr q, vi sv, .unset] [(.int sv), (.ref it)])) rfl rfl (hb hby d11_112)) ?_
      show Goes p e below _ (T127.setTop (mkF m 113 #[vr q, vi sv, .unset] [.null]))
      refine Goes.via (fun _ kk_ => XS.astoreN X127.here hx rfl (hb hby d11_113) rfl rfl (l' := #[vr q, vi sv, .val .null]) rfl kk_) ?_
      show Goes p e below _ (T127.setTop (mkF m 114 #[vr q, vi sv, .val .null] []))
      refine gALN X127 hx hby d11_114 rfl rfl ?_
      obtain ⟨T129, X129, e129, st129⟩ := getF X127 hx hZ hown (host := "") (Or.inl (own_w hw 11 rfl)) Via.refl e127 f126 (g := (mkF m 115 #[vr q, vi sv, .val .null] [(.ref q)])) rfl rfl (hb hby d11_115)
      refine Goes.via st129 ?_
      show Goes p e below _ (T129.setTop (mkF m 118 #[vr q, vi sv, .val .null] [(.ref it)]))
      refine gILN X129 hx hby d11_118 rfl ?_
      refine Goes.via (fun _ kk_ => XS.aconstNull X129.here hx rfl (hb hby d11_119) kk_) ?_
      show Goes p e below _ (T129.setTop (mkF m 120 #[vr q, vi sv, .val .null] [.null, (.int sv), (.ref it)]))
      obtain ⟨T130, h130, X130, e130, W130, A130, st130⟩ := own_aastoreN X129 hx hZ e129 f128 rfl rfl (j := sv) (i := nv) (own_ix hnv).1 (own_ix hnv).2 (by omega) (g := (mkF m 120 #[vr q, vi sv, .val .null] [.null, (.int sv), (.ref it)])) rfl rfl (hb hby d11_120)
      refine Goes.via st130 ?_
      have N130 := Fr.snoc X130 N125 (show n0 ≤ it by omega)
      show Goes p e below _ (T130.setTop (mkF m 121 #[vr q, vi sv, .val .null] []))
      refine gALN X130 hx hby d11_121 rfl rfl ?_
      have K131 : KpN n0 h0 h130 := (((((((KpN.refl n0 h0).wr W104 H18).wr W111 H18).wr W118 H18).wr W120 (show n0 ≤ fr by omega)).wr W125 H18).wr W130 (show n0 ≤ it by omega))
      have f132 := ((f124.wr W125).wr W130)
      have f133 := (f126.other W130 (Or.inl ne1))
      have f134 := ((((f113.other W118 (Or.inr (slot_ne (Or.inl (own_w hw 15 rfl)) (Or.inl (own_w hw 56 rfl)) (by decide) (t := (.array .int)) (t' := .int) (by decide) (by decide)))).other W120 (Or.inl ne2)).other W125 (Or.inr (slot_ne (Or.inl (own_w hw 15 rfl)) (Or.inl (own_w hw 38 rfl)) (by decide) (t := (.array .int)) (t' := .int) (by decide) (by decide)))).other W130 (Or.inl ne1))
      have f135 := (((Fw118.other W120 (Or.inl ne2)).other W125 (Or.inr (slot_ne (Or.inl (own_w hw 56 rfl)) (Or.inl (own_w hw 38 rfl)) (by decide) (t := .int) (t' := .int) (by decide) (by decide)))).other W130 (Or.inl ne1))
      have f136 := ((((((F4_q_used.other W104 (Or.inr (slot_ne (Or.inl (own_w hw 58 rfl)) (Or.inl (own_w hw 31 rfl)) (by decide) (t := .int) (t' := .int) (by decide) (by decide)))).other W111 (Or.inr (slot_ne (Or.inl (own_w hw 58 rfl)) (Or.inl (own_w hw 83 rfl)) (by decide) (t := .int) (t' := .int) (by decide) (by decide)))).other W118 (Or.inr (slot_ne (Or.inl (own_w hw 58 rfl)) (Or.inl (own_w hw 56 rfl)) (by decide) (t := .int) (t' := .int) (by decide) (by decide)))).other W120 (Or.inl ne2)).other W125 (Or.inr (slot_ne (Or.inl (own_w hw 58 rfl)) (Or.inl (own_w hw 38 rfl)) (by decide) (t := .int) (t' := .int) (by decide) (by decide)))).other W130 (Or.inl ne1))
      have f137 := (Fw125.other W130 (Or.inl ne1))
      have f138 := ((((((F6_q_moments.other W104 (Or.inr (slot_ne (Or.inr (own_w hw 20 rfl)) (Or.inl (own_w hw 31 rfl)) (by decide) (t := (.array (.array .long))) (t' := .int) (by decide) (by decide)))).other W111 (Or.inr (slot_ne (Or.inr (own_w hw 20 rfl)) (Or.inl (own_w hw 83 rfl)) (by decide) (t := (.array (.array .long))) (t' := .int) (by decide) (by decide)))).other W118 (Or.inr (slot_ne (Or.inr (own_w hw 20 rfl)) (Or.inl (own_w hw 56 rfl)) (by decide) (t := (.array (.array .long))) (t' := .int) (by decide) (by decide)))).other W120 (Or.inl ne2)).other W125 (Or.inr (slot_ne (Or.inr (own_w hw 20 rfl)) (Or.inl (own_w hw 38 rfl)) (by decide) (t := (.array (.array .long))) (t' := .int) (by decide) (by decide)))).other W130 (Or.inl ne1))
      have f139 := (((((f105.other W111 (Or.inr (slot_ne (Or.inr (own_w hw 24 rfl)) (Or.inl (own_w hw 83 rfl)) (by decide) (t := (.array (.array .int))) (t' := .int) (by decide) (by decide)))).other W118 (Or.inr (slot_ne (Or.inr (own_w hw 24 rfl)) (Or.inl (own_w hw 56 rfl)) (by decide) (t := (.array (.array .int))) (t' := .int) (by decide) (by decide)))).other W120 (Or.inl ne2)).other W125 (Or.inr (slot_ne (Or.inr (own_w hw 24 rfl)) (Or.inl (own_w hw 38 rfl)) (by decide) (t := (.array (.array .int))) (t' := .int) (by decide) (by decide)))).other W130 (Or.inl ne1))
      have f140 := ((((((F8_q_counts.other W104 (Or.inr (slot_ne (Or.inr (own_w hw 26 rfl)) (Or.inl (own_w hw 31 rfl)) (by decide) (t := (.array .int)) (t' := .int) (by decide) (by decide)))).other W111 (Or.inr (slot_ne (Or.inr (own_w hw 26 rfl)) (Or.inl (own_w hw 83 rfl)) (by decide) (t := (.array .int)) (t' := .int) (by decide) (by decide)))).other W118 (Or.inr (slot_ne (Or.inr (own_w hw 26 rfl)) (Or.inl (own_w hw 56 rfl)) (by decide) (t := (.array .int)) (t' := .int) (by decide) (by decide)))).other W120 (Or.inl ne2)).other W125 (Or.inr (slot_ne (Or.inr (own_w hw 26 rfl)) (Or.inl (own_w hw 38 rfl)) (by decide) (t := (.array .int)) (t' := .int) (by decide) (by decide)))).other W130 (Or.inl ne1))
      have f141 := ((((Fw111.other W118 (Or.inr (slot_ne (Or.inl (own_w hw 83 rfl)) (Or.inl (own_w hw 56 rfl)) (by decide) (t := .int) (t' := .int) (by decide) (by decide)))).other W120 (Or.inl ne2)).other W125 (Or.inr (slot_ne (Or.inl (own_w hw 83 rfl)) (Or.inl (own_w hw 38 rfl)) (by decide) (t := .int) (t' := .int) (by decide) (by decide)))).other W130 (Or.inl ne1))
      have f142 := ((((((F10_q_reference.other W104 (Or.inr (slot_ne (Or.inl (own_w hw 29 rfl)) (Or.inl (own_w hw 31 rfl)) (by decide) (t := .long) (t' := .int) (by decide) (by decide)))).other W111 (Or.inr (slot_ne (Or.inl (own_w hw 29 rfl)) (Or.inl (own_w hw 83 rfl)) (by decide) (t := .long) (t' := .int) (by decide) (by decide)))).other W118 (Or.inr (slot_ne (Or.inl (own_w hw 29 rfl)) (Or.inl (own_w hw 56 rfl)) (by decide) (t := .long) (t' := .int) (by decide) (by decide)))).other W120 (Or.inl ne2)).other W125 (Or.inr (slot_ne (Or.inl (own_w hw 29 rfl)) (Or.inl (own_w hw 38 rfl)) (by decide) (t := .long) (t' := .int) (by decide) (by decide)))).other W130 (Or.inl ne1))
      have f143 := (((((Fw104.other W111 (Or.inr (slot_ne (Or.inl (own_w hw 31 rfl)) (Or.inl (own_w hw 83 rfl)) (by decide) (t := .int) (t' := .int) (by decide) (by decide)))).other W118 (Or.inr (slot_ne (Or.inl (own_w hw 31 rfl)) (Or.inl (own_w hw 56 rfl)) (by decide) (t := .int) (t' := .int) (by decide) (by decide)))).other W120 (Or.inl ne2)).other W125 (Or.inr (slot_ne (Or.inl (own_w hw 31 rfl)) (Or.inl (own_w hw 38 rfl)) (by decide) (t := .int) (t' := .int) (by decide) (by decide)))).other W130 (Or.inl ne1))
      have f144 := ((((((F12_q_soonest.other W104 (Or.inr (slot_ne (Or.inl (own_w hw 89 rfl)) (Or.inl (own_w hw 31 rfl)) (by decide) (t := .long) (t' := .int) (by decide) (by decide)))).other W111 (Or.inr (slot_ne (Or.inl (own_w hw 89 rfl)) (Or.inl (own_w hw 83 rfl)) (by decide) (t := .long) (t' := .int) (by decide) (by decide)))).other W118 (Or.inr (slot_ne (Or.inl (own_w hw 89 rfl)) (Or.inl (own_w hw 56 rfl)) (by decide) (t := .long) (t' := .int) (by decide) (by decide)))).other W120 (Or.inl ne2)).other W125 (Or.inr (slot_ne (Or.inl (own_w hw 89 rfl)) (Or.inl (own_w hw 38 rfl)) (by decide) (t := .long) (t' := .int) (by decide) (by decide)))).other W130 (Or.inl ne1))
      have f145 := ((cv121.other W125 (Ne.symm ne2)).other W130 (show (fr : Nat) ≠ it by omega))
      have f146 := ((((((A15_mo.off W104 (show (q : Nat) < mo ∨ mo + 65 < q by omega)).off W111 (show (q : Nat) < mo ∨ mo + 65 < q by omega)).off W118 (show (q : Nat) < mo ∨ mo + 65 < q by omega)).off W120 (show (fr : Nat) < mo ∨ mo + 65 < fr by omega)).off W125 (show (q : Nat) < mo ∨ mo + 65 < q by omega)).off W130 (show (it : Nat) < mo ∨ mo + 65 < it by omega))
      have f147 := ((((f112.off W118 (show (q : Nat) < sl ∨ sl + 65 < q by omega)).off W120 (show (fr : Nat) < sl ∨ sl + 65 < fr by omega)).off W125 (show (q : Nat) < sl ∨ sl + 65 < q by omega)).off W130 (show (it : Nat) < sl ∨ sl + 65 < it by omega))
      have f148 := ((((((A17_ct.other W104 (Ne.symm ne3)).other W111 (Ne.symm ne3)).other W118 (Ne.symm ne3)).other W120 (show (ct : Nat) ≠ fr by omega)).other W125 (Ne.symm ne3)).other W130 (show (ct : Nat) ≠ it by omega))
      exact own_finR X130 hx hlk hret rfl rfl rfl (hb hby d11_122) (by rw [e130]; exact ⟨.null, (fs + (1 : Int32)), (fi + (1 : Int32)), rf, so, (own_upd fI nv .null), (own_cu fF nfs sv), gM, gS, cn, rfl, N130, K131, f132, f133, f134, f135, f136, f137, f138, f139, f140, f141, f142, f143, f144, A130, f145, f146, f147, f148, (by have q := own_Ipoll (j := nfs) HIp HK hszp hf1 hsv; first | exact q | (rw [show (0 : Int32) + (1 : Int32) = (1 : Int32) by decide] at q; exact q)), rfl⟩) (by first | decide | omega | (dsimp only; omega)) (by first | decide | omega | (dsimp only; omega))
    · skip
      refine Goes.via (own_aaload X127 hx hZ e127 f128 rfl (j := sv) (i := nv) (own_ix hnv).1 (own_ix hnv).2 (by omega) (v := (.ref ix)) hn (g := (mkF m 112 #[vr q, vi sv, .unset] [(.int sv), (.ref it)])) rfl rfl (hb hby d11_112)) ?_
      show Goes p e below _ (T127.setTop (mkF m 113 #[vr q, vi sv, .unset] [(.ref ix)]))
      refine Goes.via (fun _ kk_ => XS.astoreN X127.here hx rfl (hb hby d11_113) rfl rfl (l' := #[vr q, vi sv, vr ix]) rfl kk_) ?_
      show Goes p e below _ (T127.setTop (mkF m 114 #[vr q, vi sv, vr ix] []))
      refine gALN X127 hx hby d11_114 rfl rfl ?_
      obtain ⟨T149, X149, e149, st149⟩ := getF X127 hx hZ hown (host := "") (Or.inl (own_w hw 11 rfl)) Via.refl e127 f126 (g := (mkF m 115 #[vr q, vi sv, vr ix] [(.ref q)])) rfl rfl (hb hby d11_115)
      refine Goes.via st149 ?_
      show Goes p e below _ (T149.setTop (mkF m 118 #[vr q, vi sv, vr ix] [(.ref it)]))
      refine gILN X149 hx hby d11_118 rfl ?_
      refine Goes.via (fun _ kk_ => XS.aconstNull X149.here hx rfl (hb hby d11_119) kk_) ?_
      show Goes p e below _ (T149.setTop (mkF m 120 #[vr q, vi sv, vr ix] [.null, (.int sv), (.ref it)]))
      obtain ⟨T150, h150, X150, e150, W150, A150, st150⟩ := own_aastoreN X149 hx hZ e149 f128 rfl rfl (j := sv) (i := nv) (own_ix hnv).1 (own_ix hnv).2 (by omega) (g := (mkF m 120 #[vr q, vi sv, vr ix] [.null, (.int sv), (.ref it)])) rfl rfl (hb hby d11_120)
      refine Goes.via st150 ?_
      have N150 := Fr.snoc X150 N125 (show n0 ≤ it by omega)
      show Goes p e below _ (T150.setTop (mkF m 121 #[vr q, vi sv, vr ix] []))
      refine gALN X150 hx hby d11_121 rfl rfl ?_
      have K151 : KpN n0 h0 h150 := (((((((KpN.refl n0 h0).wr W104 H18).wr W111 H18).wr W118 H18).wr W120 (show n0 ≤ fr by omega)).wr W125 H18).wr W150 (show n0 ≤ it by omega))
      have f152 := ((f124.wr W125).wr W150)
      have f153 := (f126.other W150 (Or.inl ne1))
      have f154 := ((((f113.other W118 (Or.inr (slot_ne (Or.inl (own_w hw 15 rfl)) (Or.inl (own_w hw 56 rfl)) (by decide) (t := (.array .int)) (t' := .int) (by decide) (by decide)))).other W120 (Or.inl ne2)).other W125 (Or.inr (slot_ne (Or.inl (own_w hw 15 rfl)) (Or.inl (own_w hw 38 rfl)) (by decide) (t := (.array .int)) (t' := .int) (by decide) (by decide)))).other W150 (Or.inl ne1))
      have f155 := (((Fw118.other W120 (Or.inl ne2)).other W125 (Or.inr (slot_ne (Or.inl (own_w hw 56 rfl)) (Or.inl (own_w hw 38 rfl)) (by decide) (t := .int) (t' := .int) (by decide) (by decide)))).other W150 (Or.inl ne1))
      have f156 := ((((((F4_q_used.other W104 (Or.inr (slot_ne (Or.inl (own_w hw 58 rfl)) (Or.inl (own_w hw 31 rfl)) (by decide) (t := .int) (t' := .int) (by decide) (by decide)))).other W111 (Or.inr (slot_ne (Or.inl (own_w hw 58 rfl)) (Or.inl (own_w hw 83 rfl)) (by decide) (t := .int) (t' := .int) (by decide) (by decide)))).other W118 (Or.inr (slot_ne (Or.inl (own_w hw 58 rfl)) (Or.inl (own_w hw 56 rfl)) (by decide) (t := .int) (t' := .int) (by decide) (by decide)))).other W120 (Or.inl ne2)).other W125 (Or.inr (slot_ne (Or.inl (own_w hw 58 rfl)) (Or.inl (own_w hw 38 rfl)) (by decide) (t := .int) (t' := .int) (by decide) (by decide)))).other W150 (Or.inl ne1))
      have f157 := (Fw125.other W150 (Or.inl ne1))
      have f158 := ((((((F6_q_moments.other W104 (Or.inr (slot_ne (Or.inr (own_w hw 20 rfl)) (Or.inl (own_w hw 31 rfl)) (by decide) (t := (.array (.array .long))) (t' := .int) (by decide) (by decide)))).other W111 (Or.inr (slot_ne (Or.inr (own_w hw 20 rfl)) (Or.inl (own_w hw 83 rfl)) (by decide) (t := (.array (.array .long))) (t' := .int) (by decide) (by decide)))).other W118 (Or.inr (slot_ne (Or.inr (own_w hw 20 rfl)) (Or.inl (own_w hw 56 rfl)) (by decide) (t := (.array (.array .long))) (t' := .int) (by decide) (by decide)))).other W120 (Or.inl ne2)).other W125 (Or.inr (slot_ne (Or.inr (own_w hw 20 rfl)) (Or.inl (own_w hw 38 rfl)) (by decide) (t := (.array (.array .long))) (t' := .int) (by decide) (by decide)))).other W150 (Or.inl ne1))
      have f159 := (((((f105.other W111 (Or.inr (slot_ne (Or.inr (own_w hw 24 rfl)) (Or.inl (own_w hw 83 rfl)) (by decide) (t := (.array (.array .int))) (t' := .int) (by decide) (by decide)))).other W118 (Or.inr (slot_ne (Or.inr (own_w hw 24 rfl)) (Or.inl (own_w hw 56 rfl)) (by decide) (t := (.array (.array .int))) (t' := .int) (by decide) (by decide)))).other W120 (Or.inl ne2)).other W125 (Or.inr (slot_ne (Or.inr (own_w hw 24 rfl)) (Or.inl (own_w hw 38 rfl)) (by decide) (t := (.array (.array .int))) (t' := .int) (by decide) (by decide)))).other W150 (Or.inl ne1))
      have f160 := ((((((F8_q_counts.other W104 (Or.inr (slot_ne (Or.inr (own_w hw 26 rfl)) (Or.inl (own_w hw 31 rfl)) (by decide) (t := (.array .int)) (t' := .int) (by decide) (by decide)))).other W111 (Or.inr (slot_ne (Or.inr (own_w hw 26 rfl)) (Or.inl (own_w hw 83 rfl)) (by decide) (t := (.array .int)) (t' := .int) (by decide) (by decide)))).other W118 (Or.inr (slot_ne (Or.inr (own_w hw 26 rfl)) (Or.inl (own_w hw 56 rfl)) (by decide) (t := (.array .int)) (t' := .int) (by decide) (by decide)))).other W120 (Or.inl ne2)).other W125 (Or.inr (slot_ne (Or.inr (own_w hw 26 rfl)) (Or.inl (own_w hw 38 rfl)) (by decide) (t := (.array .int)) (t' := .int) (by decide) (by decide)))).other W150 (Or.inl ne1))
      have f161 := ((((Fw111.other W118 (Or.inr (slot_ne (Or.inl (own_w hw 83 rfl)) (Or.inl (own_w hw 56 rfl)) (by decide) (t := .int) (t' := .int) (by decide) (by decide)))).other W120 (Or.inl ne2)).other W125 (Or.inr (slot_ne (Or.inl (own_w hw 83 rfl)) (Or.inl (own_w hw 38 rfl)) (by decide) (t := .int) (t' := .int) (by decide) (by decide)))).other W150 (Or.inl ne1))
      have f162 := ((((((F10_q_reference.other W104 (Or.inr (slot_ne (Or.inl (own_w hw 29 rfl)) (Or.inl (own_w hw 31 rfl)) (by decide) (t := .long) (t' := .int) (by decide) (by decide)))).other W111 (Or.inr (slot_ne (Or.inl (own_w hw 29 rfl)) (Or.inl (own_w hw 83 rfl)) (by decide) (t := .long) (t' := .int) (by decide) (by decide)))).other W118 (Or.inr (slot_ne (Or.inl (own_w hw 29 rfl)) (Or.inl (own_w hw 56 rfl)) (by decide) (t := .long) (t' := .int) (by decide) (by decide)))).other W120 (Or.inl ne2)).other W125 (Or.inr (slot_ne (Or.inl (own_w hw 29 rfl)) (Or.inl (own_w hw 38 rfl)) (by decide) (t := .long) (t' := .int) (by decide) (by decide)))).other W150 (Or.inl ne1))
      have f163 := (((((Fw104.other W111 (Or.inr (slot_ne (Or.inl (own_w hw 31 rfl)) (Or.inl (own_w hw 83 rfl)) (by decide) (t := .int) (t' := .int) (by decide) (by decide)))).other W118 (Or.inr (slot_ne (Or.inl (own_w hw 31 rfl)) (Or.inl (own_w hw 56 rfl)) (by decide) (t := .int) (t' := .int) (by decide) (by decide)))).other W120 (Or.inl ne2)).other W125 (Or.inr (slot_ne (Or.inl (own_w hw 31 rfl)) (Or.inl (own_w hw 38 rfl)) (by decide) (t := .int) (t' := .int) (by decide) (by decide)))).other W150 (Or.inl ne1))
      have f164 := ((((((F12_q_soonest.other W104 (Or.inr (slot_ne (Or.inl (own_w hw 89 rfl)) (Or.inl (own_w hw 31 rfl)) (by decide) (t := .long) (t' := .int) (by decide) (by decide)))).other W111 (Or.inr (slot_ne (Or.inl (own_w hw 89 rfl)) (Or.inl (own_w hw 83 rfl)) (by decide) (t := .long) (t' := .int) (by decide) (by decide)))).other W118 (Or.inr (slot_ne (Or.inl (own_w hw 89 rfl)) (Or.inl (own_w hw 56 rfl)) (by decide) (t := .long) (t' := .int) (by decide) (by decide)))).other W120 (Or.inl ne2)).other W125 (Or.inr (slot_ne (Or.inl (own_w hw 89 rfl)) (Or.inl (own_w hw 38 rfl)) (by decide) (t := .long) (t' := .int) (by decide) (by decide)))).other W150 (Or.inl ne1))
      have f165 := ((cv121.other W125 (Ne.symm ne2)).other W150 (show (fr : Nat) ≠ it by omega))
      have f166 := ((((((A15_mo.off W104 (show (q : Nat) < mo ∨ mo + 65 < q by omega)).off W111 (show (q : Nat) < mo ∨ mo + 65 < q by omega)).off W118 (show (q : Nat) < mo ∨ mo + 65 < q by omega)).off W120 (show (fr : Nat) < mo ∨ mo + 65 < fr by omega)).off W125 (show (q : Nat) < mo ∨ mo + 65 < q by omega)).off W150 (show (it : Nat) < mo ∨ mo + 65 < it by omega))
      have f167 := ((((f112.off W118 (show (q : Nat) < sl ∨ sl + 65 < q by omega)).off W120 (show (fr : Nat) < sl ∨ sl + 65 < fr by omega)).off W125 (show (q : Nat) < sl ∨ sl + 65 < q by omega)).off W150 (show (it : Nat) < sl ∨ sl + 65 < it by omega))
      have f168 := ((((((A17_ct.other W104 (Ne.symm ne3)).other W111 (Ne.symm ne3)).other W118 (Ne.symm ne3)).other W120 (show (ct : Nat) ≠ fr by omega)).other W125 (Ne.symm ne3)).other W150 (show (ct : Nat) ≠ it by omega))
      exact own_finR X150 hx hlk hret rfl rfl rfl (hb hby d11_122) (by rw [e150]; exact ⟨(.ref ix), (fs + (1 : Int32)), (fi + (1 : Int32)), rf, so, (own_upd fI nv .null), (own_cu fF nfs sv), gM, gS, cn, rfl, N150, K151, f152, f153, f154, f155, f156, f157, f158, f159, f160, f161, f162, f163, f164, A150, f165, f166, f167, f168, (by have q := own_Ipoll (j := nfs) HIp HK hszp hf1 hsv; first | exact q | (rw [show (0 : Int32) + (1 : Int32) = (1 : Int32) by decide] at q; exact q)), rfl⟩) (by first | decide | omega | (dsimp only; omega)) (by first | decide | omega | (dsimp only; omega))
theorem ef_rmSt (m : MethodId) (q : Addr) (n_ : Int32) (dp : Int32) (mt : Int64) : entryFrame m #[(.ref q), (.int n_), (.int dp), (.long mt)] 6 = mkF m 0 #[.val (.ref q), .val (.int n_), .val (.int dp), .val (.long mt), .second, .unset] [] := by first | (simp [entryFrame, mkF, argsToLocals, Value.category]; done) | rfl
def QrmSt (Z : State) (q : Nat) (n_ : Int32) (dp : Int32) (mt : Int64) (it : Nat) (fr : Nat) (mo : Nat) (sl : Nat) (ct : Nat) (kI : ClassId) (kF : ClassId) (kM : ClassId) (kN : ClassId) (kS : ClassId) (kU : ClassId) (kC : ClassId) (fs : Int32) (us : Int32) (fi : Int32) (rf : Int64) (so : Int64) (fI : Nat → Value) (fF : Nat → Int32) (gM : Nat → Nat → Int64) (gS : Nat → Nat → Int32) (cn : Nat → Nat) (K : Nat) (ca : Addr) (kc : ClassId) (fC : Nat → Value) (h0 : Heap) (n0 : Nat) (v_ : Option Value) (h_ : Heap) (L_ : List Loc) : Prop := ∃ r_ : Int32, ∃ fs' : Int32, ∃ us' : Int32, ∃ fi' : Int32, ∃ rf' : Int64, ∃ so' : Int64, ∃ fI' : Nat → Value, ∃ fF' : Nat → Int32, ∃ gM' : Nat → Nat → Int64, ∃ gS' : Nat → Nat → Int32, ∃ cn' : Nat → Nat, v_ = some (.int r_) ∧ Fr n0 L_ ∧ KpN n0 h0 h_ ∧ Exa Z h_ q "nearhop/sim/EventQueue" ∧ Fld Z h_ q "nearhop/sim/EventQueue" "items" "[Ljava/lang/Object;" (.ref it) ∧ Fld Z h_ q "nearhop/sim/EventQueue" "free" "[I" (.ref fr) ∧ Fld Z h_ q "nearhop/sim/EventQueue" "freeSlots" "I" (.int fs') ∧ Fld Z h_ q "nearhop/sim/EventQueue" "used" "I" (.int us') ∧ Fld Z h_ q "nearhop/sim/EventQueue" "size" "I" (.int r_) ∧ Fld Z h_ q "nearhop/sim/EventQueue" "moments" "[[J" (.ref mo) ∧ Fld Z h_ q "nearhop/sim/EventQueue" "slots" "[[I" (.ref sl) ∧ Fld Z h_ q "nearhop/sim/EventQueue" "counts" "[I" (.ref ct) ∧ Fld Z h_ q "nearhop/sim/EventQueue" "first" "I" (.int fi') ∧ Fld Z h_ q "nearhop/sim/EventQueue" "reference" "J" (.long rf') ∧ Fld Z h_ q "nearhop/sim/EventQueue" "soonestBucket" "I" (.int (-1 : Int32)) ∧ Fld Z h_ q "nearhop/sim/EventQueue" "soonest" "J" (.long so') ∧ Arw Z h_ it kI (.object "java/lang/Object") 64 fI' ∧ Arw Z h_ fr kF .int 64 (fun i => .int (fF' i)) ∧ Grv Z h_ mo kM kN .long 65 64 (fun u v => .long (gM' u v)) ∧ Grv Z h_ sl kS kU .int 65 64 (fun u v => .int (gS' u v)) ∧ Arw Z h_ ct kC .int 65 (fun i => .int (Int32.ofNat (cn' i))) ∧ own_I (K + 1) r_ fi' fs' us' cn' gS' fF'
theorem pn_nearhop_sim_EventQueueIsEmptyPinLaw : plainName "nearhop/sim/EventQueueIsEmptyPinLaw" = true := by first | (simp [plainName, overriddenIn]; done) | decide +kernel
theorem d4_0 : decode method_2_code 0 = .ok (.iload_n 1, 1) := by decide +kernel
theorem d4_1 : decode method_2_code 1 = .ok (.ifCond .ge 5, 3) := by decide +kernel
theorem d4_6 : decode method_2_code 6 = .ok (.iload_n 1, 1) := by decide +kernel
theorem d4_7 : decode method_2_code 7 = .ok (.istore 5, 2) := by decide +kernel
theorem d4_9 : decode method_2_code 9 = .ok (.iload_n 2, 1) := by decide +kernel
theorem d4_10 : decode method_2_code 10 = .ok (.ifCond .eq 22, 3) := by decide +kernel
theorem d4_32 : decode method_2_code 32 = .ok (.aload_n 0, 1) := by decide +kernel
theorem d4_33 : decode method_2_code 33 = .ok (.lload_n 3, 1) := by decide +kernel
theorem d4_34 : decode method_2_code 34 = .ok (.iload 5, 2) := by decide +kernel
theorem pd_8 : parseMethodDescriptor "(I)Ljava/lang/Integer;" = some ⟨[.int], some (.object "java/lang/Integer")⟩ := by decide +kernel
theorem d4_36 : decode method_2_code 36 = .ok (.invokestatic 13, 3) := by decide +kernel
abbrev mN_Integer_valueOf : MethodName := ⟨"java/lang/Integer", "valueOf", "(I)Ljava/lang/Integer;"⟩
theorem pd_9 : parseMethodDescriptor "(JLjava/lang/Object;)V" = some ⟨[.long, (.object "java/lang/Object")], none⟩ := by decide +kernel
theorem d4_39 : decode method_2_code 39 = .ok (.invokevirtual 19, 3) := by decide +kernel
abbrev mN_EventQueue_add : MethodName := ⟨"nearhop/sim/EventQueue", "add", "(JLjava/lang/Object;)V"⟩
theorem d4_42 : decode method_2_code 42 = .ok (.iload 5, 2) := by decide +kernel
theorem d4_44 : decode method_2_code 44 = .ok (.iconst 1, 1) := by decide +kernel
theorem d4_45 : decode method_2_code 45 = .ok (.iadd, 1) := by decide +kernel
theorem d4_46 : decode method_2_code 46 = .ok (.istore 5, 2) := by decide +kernel
theorem d4_48 : decode method_2_code 48 = .ok (.aload_n 0, 1) := by decide +kernel
theorem d4_49 : decode method_2_code 49 = .ok (.invokevirtual 23, 3) := by decide +kernel
theorem d4_52 : decode method_2_code 52 = .ok (.iload 5, 2) := by decide +kernel
theorem d4_54 : decode method_2_code 54 = .ok (.ifCond .ne 7, 3) := by decide +kernel
theorem d4_57 : decode method_2_code 57 = .ok (.iconst 1, 1) := by decide +kernel
theorem d4_58 : decode method_2_code 58 = .ok (.goto 4, 3) := by decide +kernel
theorem d4_61 : decode method_2_code 61 = .ok (.iconst 0, 1) := by decide +kernel
theorem d4_62 : decode method_2_code 62 = .ok (.if_icmp .ne 6, 3) := by decide +kernel
theorem d4_65 : decode method_2_code 65 = .ok (.iload 5, 2) := by decide +kernel
theorem d4_67 : decode method_2_code 67 = .ok (.ireturn, 1) := by decide +kernel
theorem d4_13 : decode method_2_code 13 = .ok (.iload 5, 2) := by decide +kernel
theorem d4_15 : decode method_2_code 15 = .ok (.ifCond .le 17, 3) := by decide +kernel
theorem d4_18 : decode method_2_code 18 = .ok (.aload_n 0, 1) := by decide +kernel
theorem pd_10 : parseMethodDescriptor "()Ljava/lang/Object;" = some ⟨[], some (.object "java/lang/Object")⟩ := by decide +kernel
theorem d4_19 : decode method_2_code 19 = .ok (.invokevirtual 7, 3) := by decide +kernel
abbrev mN_EventQueue_poll : MethodName := ⟨"nearhop/sim/EventQueue", "poll", "()Ljava/lang/Object;"⟩
theorem d4_22 : decode method_2_code 22 = .ok (.pop, 1) := by decide +kernel
theorem d4_23 : decode method_2_code 23 = .ok (.iload 5, 2) := by decide +kernel
theorem d4_25 : decode method_2_code 25 = .ok (.iconst 1, 1) := by decide +kernel
theorem d4_26 : decode method_2_code 26 = .ok (.isub, 1) := by decide +kernel
theorem d4_27 : decode method_2_code 27 = .ok (.istore 5, 2) := by decide +kernel
theorem d4_29 : decode method_2_code 29 = .ok (.goto 19, 3) := by decide +kernel
set_option maxRecDepth 65536 in
set_option maxHeartbeats 40000000 in
theorem rmSt (l : Launch) (Z : State) (a0 : Array Value) (hw : ∀ d ∈ tables_1, d.before a0 Z = true) (ws : List Jvm.Cond) (q : Nat) (n_ : Int32) (dp : Int32) (mt : Int64) (it : Nat) (fr : Nat) (mo : Nat) (sl : Nat) (ct : Nat) (kI : ClassId) (kF : ClassId) (kM : ClassId) (kN : ClassId) (kS : ClassId) (kU : ClassId) (kC : ClassId) (fs : Int32) (us : Int32) (fi : Int32) (rf : Int64) (so : Int64) (fI : Nat → Value) (fF : Nat → Int32) (gM : Nat → Nat → Int64) (gS : Nat → Nat → Int32) (cn : Nat → Nat) (K : Nat) (ca : Addr) (kc : ClassId) (fC : Nat → Value) (h0 : Heap) (n0 : Nat) (Z0 : n0 ≤ h0.size) (E0_q : Exa Z h0 q "nearhop/sim/EventQueue") (F1_q_items : Fld Z h0 q "nearhop/sim/EventQueue" "items" "[Ljava/lang/Object;" (.ref it)) (F2_q_free : Fld Z h0 q "nearhop/sim/EventQueue" "free" "[I" (.ref fr)) (F3_q_freeSlots : Fld Z h0 q "nearhop/sim/EventQueue" "freeSlots" "I" (.int fs)) (F4_q_used : Fld Z h0 q "nearhop/sim/EventQueue" "used" "I" (.int us)) (F5_q_size : Fld Z h0 q "nearhop/sim/EventQueue" "size" "I" (.int n_)) (F6_q_moments : Fld Z h0 q "nearhop/sim/EventQueue" "moments" "[[J" (.ref mo)) (F7_q_slots : Fld Z h0 q "nearhop/sim/EventQueue" "slots" "[[I" (.ref sl)) (F8_q_counts : Fld Z h0 q "nearhop/sim/EventQueue" "counts" "[I" (.ref ct)) (F9_q_first : Fld Z h0 q "nearhop/sim/EventQueue" "first" "I" (.int fi)) (F10_q_reference : Fld Z h0 q "nearhop/sim/EventQueue" "reference" "J" (.long rf)) (F11_q_soonestBucket : Fld Z h0 q "nearhop/sim/EventQueue" "soonestBucket" "I" (.int (-1 : Int32))) (F12_q_soonest : Fld Z h0 q "nearhop/sim/EventQueue" "soonest" "J" (.long so)) (A13_it : Arw Z h0 it kI (.object "java/lang/Object") 64 fI) (A14_fr : Arw Z h0 fr kF .int 64 (fun i => .int (fF i))) (A15_mo : Grv Z h0 mo kM kN .long 65 64 (fun u v => .long (gM u v))) (A16_sl : Grv Z h0 sl kS kU .int 65 64 (fun u v => .int (gS u v))) (A17_ct : Arw Z h0 ct kC .int 65 (fun i => .int (Int32.ofNat (cn i)))) (H18 : n0 ≤ q) (HLa : q < it) (HLb : it < fr) (HLc : fr < mo) (HLd : mo + 66 ≤ sl) (HLe : sl + 66 ≤ ct) (OVr : Ovr Z kI "java/lang/Object") (HI : own_I K n_ fi fs us cn gS fF) (HK : K ≤ 4) (S27_java_lang_Integer_IntegerCache_high_high : Sta Z h0 "java/lang/Integer$IntegerCache" "high" "I" (.int (127 : Int32))) (S28_java_lang_Integer_IntegerCache_cache_cache : Sta Z h0 "java/lang/Integer$IntegerCache" "cache" "[Ljava/lang/Integer;" (.ref ca)) (A29_ca : Arw Z h0 ca kc (.object "java/lang/Integer") 256 fC) (HCa : ∀ k, k ≤ 4 → ∃ io, fC (128 + k) = .ref io ∧ Exa Z h0 io "java/lang/Integer") :
    MetFree l (⟨"nearhop/sim/EventQueueIsEmptyPinLaw", "step", "(Lnearhop/sim/EventQueue;IZJ)I"⟩ : MethodName) (head1 (Jvm.Cond.code (⟨"nearhop/sim/EventQueueIsEmptyPinLaw", "step", "(Lnearhop/sim/EventQueue;IZJ)I"⟩ : MethodName) method_2_code 6 (some .int) :: ws) ({ frames := 5, cells := 2, slots := 10, locals := 79 } : Room)) (fun as_ U_ => as_ = #[(.ref q), (.int n_), (.int dp), (.long mt)] ∧ Z.Warmed39 U_.vm ∧ U_.heap = h0) (fun _ _ _ _ _ => True) (fun _ U_ o_ V_ => ∃ v_ L_, o_ = .returned v_ ∧ QrmSt Z q n_ dp mt it fr mo sl ct kI kF kM kN kS kU kC fs us fi rf so fI fF gM gS cn K ca kc fC h0 n0 v_ V_.heap L_ ∧ FrameEnd U_ o_ V_ L_ ({ frames := 5, cells := 2, slots := 10, locals := 79 } : Room).cells ({ frames := 5, cells := 2, slots := 10, locals := 79 } : Room).slots) := by
  refine MetFree.of_bodySF (plainFor_of_name pn_nearhop_sim_EventQueueIsEmptyPinLaw) hisR ?_
  intro p e s m args below meth c s₁ Bd hml0 hP hK
  obtain ⟨rfl, hZ, hh⟩ := hP
  have hx := Bd.exec
  have hby := Bd.bytes
  have hlk : meth.locks = false := BodyLoose.notSynchronized Bd
  have hret := Bd.returns
  have hml : c.maxLocals = 6 := hml0
  have hown : s.vm.findClass "nearhop/sim/EventQueueIsEmptyPinLaw" = some m.cls := findClass_of_methodNamed Bd.named
  have hnm := (name_of_methodNamed Bd.named Bd.method).1
  have X0 : Stand p l e ({ frames := 5, cells := 2, slots := 10, locals := 79 } : Room) s m #[(.ref q), (.int n_), (.int dp), (.long mt)] below meth c s₁ [] 0 0 := Stand.of_body Bd
  have e0 : s₁.heap = h0 := by rw [← hh, Bd.state]; rfl
  have N0 := Fr.nil n0
  show Goes p e below (Fin_ s (QrmSt Z q n_ dp mt it fr mo sl ct kI kF kM kN kS kU kC fs us fi rf so fI fF gM gS cn K ca kc fC h0 n0) ({ frames := 5, cells := 2, slots := 10, locals := 79 } : Room).cells ({ frames := 5, cells := 2, slots := 10, locals := 79 } : Room).slots) (s₁.setTop (entryFrame m #[(.ref q), (.int n_), (.int dp), (.long mt)] 6))
  rw [ef_rmSt m q n_ dp mt]
  have HI0 := HI
  obtain ⟨⟨a1, a2, a3, a4, a5, a6, a7, a8, a9⟩, b1, b2⟩ := HI0
  refine gILN X0 hx hby d4_0 rfl ?_
  have hc1_5 : ¬ (n_ < (0 : Int32)) := (own_lt0 a1)
  refine Goes.via (fun _ kk_ => XS.ifYes X0.here hx rfl (pc0 := 1) (pc' := 6) rfl (hb hby d4_1) rfl ((if0 _ _).trans (flt hc1_5).2.1) (by decide) (by decide) kk_) ?_
  show Goes p e below _ (s₁.setTop (mkF m 6 #[vr q, vi n_, vi dp, .val (.long mt), .second, .unset] []))
  refine gILN X0 hx hby d4_6 rfl ?_
  refine Goes.via (fun _ kk_ => XS.istore X0.here hx rfl (hb hby d4_7) rfl (l' := #[vr q, vi n_, vi dp, .val (.long mt), .second, vi n_]) rfl kk_) ?_
  show Goes p e below _ (s₁.setTop (mkF m 9 #[vr q, vi n_, vi dp, .val (.long mt), .second, vi n_] []))
  refine gILN X0 hx hby d4_9 rfl ?_
  by_cases hc10 : dp = (0 : Int32)
  · skip
    refine Goes.via (fun _ kk_ => XS.ifYes X0.here hx rfl (pc0 := 10) (pc' := 32) rfl (hb hby d4_10) rfl ((if0 _ _).trans (teq hc10).1) (by decide) (by decide) kk_) ?_
    show Goes p e below _ (s₁.setTop (mkF m 32 #[vr q, vi n_, vi dp, .val (.long mt), .second, vi n_] []))
    refine gALN X0 hx hby d4_32 rfl rfl ?_
    refine Goes.via (fun _ kk_ => XS.lloadN X0.here hx rfl (hb hby d4_33) rfl  kk_) ?_
    show Goes p e below _ (s₁.setTop (mkF m 34 #[vr q, vi n_, vi dp, .val (.long mt), .second, vi n_] [(.long mt), (.ref q)]))
    refine gIL X0 hx hby d4_34 rfl ?_
    show Goes p e below _ (s₁.setTop (mkF m 36 #[vr q, vi n_, vi dp, .val (.long mt), .second, vi n_] [(.int n_), (.long mt), (.ref q)]))
    obtain ⟨nk, hnk⟩ := own_nat a1
    obtain ⟨io, hio, Eio⟩ := HCa nk (by omega)
    obtain ⟨_, _, ⟨T6, L6, k6, n6⟩, -, X6, ⟨Lc6, hQ6, l6, y6, z6⟩, st6⟩ := Jvm.LawKit.callS X0 hx (y := mN_Integer_valueOf) hown (mvT hZ (own_w hw 43 rfl)) (mvT hZ (own_w hw 44 rfl)) (mvT hZ (own_w hw 45 rfl)) (mvT hZ (own_w hw 46 rfl)) (by decide) (backOf (W := 3) (rmVo l Z a0 hw [] n_ ca kc fC nk io h0 n0 (Nat.le_trans Z0 (Nat.le_refl _)) S27_java_lang_Integer_IntegerCache_high_high S28_java_lang_Integer_IntegerCache_cache_cache A29_ca hnk (by first | assumption | rfl | decide | omega | (simp; done)) hio) hZ (own_w hw 46 rfl) (own_w hw 45 rfl) (by decide) (by decide)) (g := (mkF m 36 #[vr q, vi n_, vi dp, .val (.long mt), .second, vi n_] [(.int n_), (.long mt), (.ref q)])) rfl (by rw [hml]; rfl) (argsL := [(.int n_)]) (rest := [(.long mt), (.ref q)]) (lenOf pd_8 rfl) rfl (by show 2 * 0 + _ ≤ _; exact Nat.le_of_eq rfl) (hb hby d4_36) (fun _ _ => ⟨rfl, e0, (by decide : 0 + 0 ≤ _), (by decide : 0 + 0 ≤ _)⟩)
    dsimp only [Pt.U, Pt.locs, Pt.cells, Pt.slots] at X6 l6 y6 z6 st6 hQ6
    replace l6 := l6.symm
    subst l6 y6 z6
    obtain ⟨rfl, rfl, e6⟩ := hQ6
    first | rw [List.append_nil] at X6 | skip
    refine Goes.via st6 ?_
    have e6' : T6.heap = h0 := e6
    show Goes p e below _ (T6.setTop (mkF m 39 #[vr q, vi n_, vi dp, .val (.long mt), .second, vi n_] [(.ref io), (.long mt), (.ref q)]))
    obtain ⟨cq8, kq8, q8a, q8b, q8c⟩ := isOf hZ e6' E0_q
    obtain ⟨_, _, ⟨T8, L8, k8, n8⟩, -, X8, ⟨Lc8, hQ8, l8, y8, z8⟩, st8⟩ := X6.virtualBack hx (y := mN_EventQueue_add) (z := mN_EventQueue_add) hown (mvT hZ (own_w hw 50 rfl)) (mvT hZ (own_w hw 51 rfl)) (notFace_of_selects (args := #[]) (mvT hZ (own_w hw 53 rfl))) (mvT hZ (own_w hw 53 rfl)) (mvT hZ (own_w hw 52 rfl)) (by decide) (backOf (W := 0) (rmAdd l Z a0 hw [] q mt io it fr mo sl ct kI kF kM kN kS kU kC fs us n_ fi rf so fI fF gM gS cn K h0 n0 (Nat.le_trans Z0 (Nat.le_refl _)) E0_q F1_q_items F2_q_free F3_q_freeSlots F4_q_used F5_q_size F6_q_moments F7_q_slots F8_q_counts F9_q_first F10_q_reference F11_q_soonestBucket F12_q_soonest A13_it A14_fr A15_mo A16_sl A17_ct H18 HLa HLb HLc HLd HLe OVr HI HK Eio) hZ (own_w hw 54 rfl) (own_w hw 2 rfl) (by decide) (by decide)) q8a q8c (g := (mkF m 39 #[vr q, vi n_, vi dp, .val (.long mt), .second, vi n_] [(.ref io), (.long mt), (.ref q)])) rfl (by rw [hml]; rfl) (Steps.refl _) (argsL := [(.long mt), (.ref io)]) (rest := []) (lenOf pd_9 rfl) rfl (by show 2 * 0 + _ ≤ _; exact Nat.le_of_eq rfl) (hb hby d4_39) (fun _ _ => ⟨rfl, e6', (by decide : 0 + 2 ≤ _), (by decide : 0 + 10 ≤ _)⟩)
    dsimp only [Pt.U, Pt.locs, Pt.cells, Pt.slots] at X8 l8 y8 z8 st8 hQ8
    replace l8 := l8.symm
    subst l8 y8 z8
    obtain ⟨fs'8, us'8, fi'8, rf'8, fI'8, gM'8, gS'8, cn'8, rfl, N8q, K8, u8_0, u8_1, u8_2, u8_3, u8_4, u8_5, u8_6, u8_7, u8_8, u8_9, u8_10, u8_11, u8_12, u8_13, u8_14, u8_15, u8_16, u8_17, u8_18⟩ := hQ8
    have N8 := Fr.app N0 N8q
    refine Goes.tr st8 ?_
    show Goes p e below _ (T8.setTop (mkF m 42 #[vr q, vi n_, vi dp, .val (.long mt), .second, vi n_] []))
    refine gIL X8 hx hby d4_42 rfl ?_
    refine gIC (z := 1) X8 hx hby d4_44 rfl ?_
    refine Goes.via (fun _ kk_ => XS.iadd X8.here hx rfl (hb hby d4_45) rfl kk_) ?_
    show Goes p e below _ (T8.setTop (mkF m 46 #[vr q, vi n_, vi dp, .val (.long mt), .second, vi n_] [(.int (n_ + (1 : Int32)))]))
    refine Goes.via (fun _ kk_ => XS.istore X8.here hx rfl (hb hby d4_46) rfl (l' := #[vr q, vi n_, vi dp, .val (.long mt), .second, vi (n_ + (1 : Int32))]) rfl kk_) ?_
    show Goes p e below _ (T8.setTop (mkF m 48 #[vr q, vi n_, vi dp, .val (.long mt), .second, vi (n_ + (1 : Int32))] []))
    refine gALN X8 hx hby d4_48 rfl rfl ?_
    have z10 : h0.size ≤ (T8.heap).size := (Nat.le_trans (Nat.le_refl _) (KpN.size K8))
    obtain ⟨cq9, kq9, q9a, q9b, q9c⟩ := isOf hZ rfl u8_0
    obtain ⟨_, _, ⟨T9, L9, k9, n9⟩, -, X9, ⟨Lc9, hQ9, l9, y9, z9⟩, st9⟩ := X8.virtualBack hx (y := mN_EventQueue_isEmpty) (z := mN_EventQueue_isEmpty) hown (mvT hZ (own_w hw 32 rfl)) (mvT hZ (own_w hw 33 rfl)) (notFace_of_selects (args := #[]) (mvT hZ (own_w hw 35 rfl))) (mvT hZ (own_w hw 35 rfl)) (mvT hZ (own_w hw 34 rfl)) (by decide) (backOf (W := 0) (rmEm l Z a0 hw [] q (n_ + (1 : Int32)) T8.heap n0 (Nat.le_trans Z0 z10) u8_5) hZ (own_w hw 36 rfl) (own_w hw 2 rfl) (by decide) (by decide)) q9a q9c (g := (mkF m 49 #[vr q, vi n_, vi dp, .val (.long mt), .second, vi (n_ + (1 : Int32))] [(.ref q)])) rfl (by rw [hml]; rfl) (Steps.refl _) (argsL := []) (rest := []) (lenOf pd_5 rfl) rfl (by show 2 * 0 + _ ≤ _; exact Nat.le_of_eq rfl) (hb hby d4_49) (fun _ _ => ⟨rfl, rfl, (by decide : 2 + 0 ≤ _), (by decide : 10 + 0 ≤ _)⟩)
    dsimp only [Pt.U, Pt.locs, Pt.cells, Pt.slots] at X9 l9 y9 z9 st9 hQ9
    replace l9 := l9.symm
    subst l9 y9 z9
    obtain ⟨rfl, rfl, e9⟩ := hQ9
    first | rw [List.append_nil] at X9 | skip
    refine Goes.tr st9 ?_
    have e9' : T9.heap = T8.heap := e9
    show Goes p e below _ (T9.setTop (mkF m 52 #[vr q, vi n_, vi dp, .val (.long mt), .second, vi (n_ + (1 : Int32))] [(.int (if (n_ + (1 : Int32)) = (0 : Int32) then (1 : Int32) else (0 : Int32)))]))
    refine gIL X9 hx hby d4_52 rfl ?_
    obtain ⟨jj11, hv_jj11⟩ : ∃ z : Int32, z = (if (n_ + (1 : Int32)) = (0 : Int32) then (1 : Int32) else (0 : Int32)) := ⟨_, rfl⟩
    suffices J : Goes p e below (Fin_ s (QrmSt Z q n_ dp mt it fr mo sl ct kI kF kM kN kS kU kC fs us fi rf so fI fF gM gS cn K ca kc fC h0 n0) ({ frames := 5, cells := 2, slots := 10, locals := 79 } : Room).cells ({ frames := 5, cells := 2, slots := 10, locals := 79 } : Room).slots) (T9.setTop (mkF m 62 #[vr q, vi n_, vi dp, .val (.long mt), .second, vi (n_ + (1 : Int32))] [(.int jj11), (.int (if (n_ + (1 : Int32)) = (0 : Int32) then (1 : Int32) else (0 : Int32)))])) by
      by_cases hc54 : (n_ + (1 : Int32)) = (0 : Int32)
      · skip
        rw [show jj11 = (1 : Int32) from hv_jj11.trans (if_pos hc54)] at J
        refine Goes.via (fun _ kk_ => XS.ifNo X9.here hx rfl (hb hby d4_54) rfl ((if0 _ _).trans (teq hc54).2) kk_) ?_
        show Goes p e below _ (T9.setTop (mkF m 57 #[vr q, vi n_, vi dp, .val (.long mt), .second, vi (n_ + (1 : Int32))] [(.int (if (n_ + (1 : Int32)) = (0 : Int32) then (1 : Int32) else (0 : Int32)))]))
        refine gIC (z := 1) X9 hx hby d4_57 rfl ?_
        refine Goes.via (fun _ kk_ => XS.goto X9.here hx rfl (pc0 := 58) (pc' := 62) rfl (hb hby d4_58) (by decide) (by decide) kk_) ?_
        show Goes p e below _ (T9.setTop (mkF m 62 #[vr q, vi n_, vi dp, .val (.long mt), .second, vi (n_ + (1 : Int32))] [(.int (1 : Int32)), (.int (if (n_ + (1 : Int32)) = (0 : Int32) then (1 : Int32) else (0 : Int32)))]))
        exact J
      · skip
        rw [show jj11 = (0 : Int32) from hv_jj11.trans (if_neg hc54)] at J
        refine Goes.via (fun _ kk_ => XS.ifYes X9.here hx rfl (pc0 := 54) (pc' := 61) rfl (hb hby d4_54) rfl ((if0 _ _).trans (feq hc54).2) (by decide) (by decide) kk_) ?_
        show Goes p e below _ (T9.setTop (mkF m 61 #[vr q, vi n_, vi dp, .val (.long mt), .second, vi (n_ + (1 : Int32))] [(.int (if (n_ + (1 : Int32)) = (0 : Int32) then (1 : Int32) else (0 : Int32)))]))
        refine gIC (z := 0) X9 hx hby d4_61 rfl ?_
        show Goes p e below _ (T9.setTop (mkF m 62 #[vr q, vi n_, vi dp, .val (.long mt), .second, vi (n_ + (1 : Int32))] [(.int (0 : Int32)), (.int (if (n_ + (1 : Int32)) = (0 : Int32) then (1 : Int32) else (0 : Int32)))]))
        exact J
    subst hv_jj11
    show Goes p e below _ (T9.setTop (mkF m 62 #[vr q, vi n_, vi dp, .val (.long mt), .second, vi (n_ + (1 : Int32))] [(.int (if (n_ + (1 : Int32)) = (0 : Int32) then (1 : Int32) else (0 : Int32))), (.int (if (n_ + (1 : Int32)) = (0 : Int32) then (1 : Int32) else (0 : Int32)))]))
    have hc62_12 : (if (n_ + (1 : Int32)) = (0 : Int32) then (1 : Int32) else (0 : Int32)) = (if (n_ + (1 : Int32)) = (0 : Int32) then (1 : Int32) else (0 : Int32)) := rfl
    refine Goes.via (fun _ kk_ => XS.icmpNo X9.here hx rfl (hb hby d4_62) rfl (teq hc62_12).2 kk_) ?_
    show Goes p e below _ (T9.setTop (mkF m 65 #[vr q, vi n_, vi dp, .val (.long mt), .second, vi (n_ + (1 : Int32))] []))
    refine gIL X9 hx hby d4_65 rfl ?_
    have K13 : KpN n0 h0 T8.heap := ((KpN.refl n0 h0).trans K8)
    exact own_finI X9 hx hlk hret (hb hby d4_67) (by rw [e9']; exact ⟨(n_ + (1 : Int32)), fs'8, us'8, fi'8, rf'8, so, fI'8, fF, gM'8, gS'8, cn'8, rfl, N8, K13, u8_0, u8_1, u8_2, u8_3, u8_4, u8_5, u8_6, u8_7, u8_8, u8_9, u8_10, u8_11, u8_12, u8_13, u8_14, u8_15, u8_16, u8_17, u8_18⟩) (by first | decide | omega | (dsimp only; omega)) (by first | decide | omega | (dsimp only; omega))
  · skip
    refine Goes.via (fun _ kk_ => XS.ifNo X0.here hx rfl (hb hby d4_10) rfl ((if0 _ _).trans (feq hc10).1) kk_) ?_
    show Goes p e below _ (s₁.setTop (mkF m 13 #[vr q, vi n_, vi dp, .val (.long mt), .second, vi n_] []))
    refine gIL X0 hx hby d4_13 rfl ?_
    by_cases hc15 : (0 : Int32) < n_
    · skip
      refine Goes.via (fun _ kk_ => XS.ifNo X0.here hx rfl (hb hby d4_15) rfl ((if0 _ _).trans (tlt hc15).2.2.2) kk_) ?_
      show Goes p e below _ (s₁.setTop (mkF m 18 #[vr q, vi n_, vi dp, .val (.long mt), .second, vi n_] []))
      have Hz : ¬ n_ = (0 : Int32) := fun z => by rw [z] at hc15; exact absurd hc15 (by decide)
      refine gALN X0 hx hby d4_18 rfl rfl ?_
      obtain ⟨cq14, kq14, q14a, q14b, q14c⟩ := isOf hZ e0 E0_q
      obtain ⟨_, _, ⟨T14, L14, k14, n14⟩, -, X14, ⟨Lc14, hQ14, l14, y14, z14⟩, st14⟩ := X0.virtualBack hx (y := mN_EventQueue_poll) (z := mN_EventQueue_poll) hown (mvT hZ (own_w hw 76 rfl)) (mvT hZ (own_w hw 77 rfl)) (notFace_of_selects (args := #[]) (mvT hZ (own_w hw 79 rfl))) (mvT hZ (own_w hw 79 rfl)) (mvT hZ (own_w hw 78 rfl)) (by decide) (backOf (W := 0) (rmPo l Z a0 hw [] q it fr mo sl ct kI kF kM kN kS kU kC fs us n_ fi rf so fI fF gM gS cn K h0 n0 (Nat.le_trans Z0 (Nat.le_refl _)) E0_q F1_q_items F2_q_free F3_q_freeSlots F4_q_used F5_q_size F6_q_moments F7_q_slots F8_q_counts F9_q_first F10_q_reference F11_q_soonestBucket F12_q_soonest A13_it A14_fr A15_mo A16_sl A17_ct H18 HLa HLb HLc HLd HLe HI HK Hz) hZ (own_w hw 80 rfl) (own_w hw 2 rfl) (by decide) (by decide)) q14a q14c (g := (mkF m 19 #[vr q, vi n_, vi dp, .val (.long mt), .second, vi n_] [(.ref q)])) rfl (by rw [hml]; rfl) (Steps.refl _) (argsL := []) (rest := []) (lenOf pd_10 rfl) rfl (by show 2 * 0 + _ ≤ _; exact Nat.le_of_eq rfl) (hb hby d4_19) (fun _ _ => ⟨rfl, e0, (by decide : 0 + 0 ≤ _), (by decide : 0 + 0 ≤ _)⟩)
      dsimp only [Pt.U, Pt.locs, Pt.cells, Pt.slots] at X14 l14 y14 z14 st14 hQ14
      replace l14 := l14.symm
      subst l14 y14 z14
      obtain ⟨rv14, fs'14, fi'14, rf'14, so'14, fI'14, fF'14, gM'14, gS'14, cn'14, rfl, N14q, K14, u14_0, u14_1, u14_2, u14_3, u14_4, u14_5, u14_6, u14_7, u14_8, u14_9, u14_10, u14_11, u14_12, u14_13, u14_14, u14_15, u14_16, u14_17, u14_18, u14_19⟩ := hQ14
      have N14 := Fr.app N0 N14q
      refine Goes.tr st14 ?_
      show Goes p e below _ (T14.setTop (mkF m 22 #[vr q, vi n_, vi dp, .val (.long mt), .second, vi n_] [rv14]))
      refine Goes.via (fun _ kk_ => XS.pop X14.here hx rfl (hb hby d4_22) rfl u14_19 kk_) ?_
      show Goes p e below _ (T14.setTop (mkF m 23 #[vr q, vi n_, vi dp, .val (.long mt), .second, vi n_] []))
      refine gIL X14 hx hby d4_23 rfl ?_
      refine gIC (z := 1) X14 hx hby d4_25 rfl ?_
      refine Goes.via (fun _ kk_ => XS.isub X14.here hx rfl (hb hby d4_26) rfl kk_) ?_
      show Goes p e below _ (T14.setTop (mkF m 27 #[vr q, vi n_, vi dp, .val (.long mt), .second, vi n_] [(.int (n_ - (1 : Int32)))]))
      refine Goes.via (fun _ kk_ => XS.istore X14.here hx rfl (hb hby d4_27) rfl (l' := #[vr q, vi n_, vi dp, .val (.long mt), .second, vi (n_ - (1 : Int32))]) rfl kk_) ?_
      show Goes p e below _ (T14.setTop (mkF m 29 #[vr q, vi n_, vi dp, .val (.long mt), .second, vi (n_ - (1 : Int32))] []))
      refine Goes.via (fun _ kk_ => XS.goto X14.here hx rfl (pc0 := 29) (pc' := 48) rfl (hb hby d4_29) (by decide) (by decide) kk_) ?_
      show Goes p e below _ (T14.setTop (mkF m 48 #[vr q, vi n_, vi dp, .val (.long mt), .second, vi (n_ - (1 : Int32))] []))
      refine gALN X14 hx hby d4_48 rfl rfl ?_
      have z16 : h0.size ≤ (T14.heap).size := (Nat.le_trans (Nat.le_refl _) (KpN.size K14))
      obtain ⟨cq15, kq15, q15a, q15b, q15c⟩ := isOf hZ rfl u14_0
      obtain ⟨_, _, ⟨T15, L15, k15, n15⟩, -, X15, ⟨Lc15, hQ15, l15, y15, z15⟩, st15⟩ := X14.virtualBack hx (y := mN_EventQueue_isEmpty) (z := mN_EventQueue_isEmpty) hown (mvT hZ (own_w hw 32 rfl)) (mvT hZ (own_w hw 33 rfl)) (notFace_of_selects (args := #[]) (mvT hZ (own_w hw 35 rfl))) (mvT hZ (own_w hw 35 rfl)) (mvT hZ (own_w hw 34 rfl)) (by decide) (backOf (W := 0) (rmEm l Z a0 hw [] q (n_ - (1 : Int32)) T14.heap n0 (Nat.le_trans Z0 z16) u14_5) hZ (own_w hw 36 rfl) (own_w hw 2 rfl) (by decide) (by decide)) q15a q15c (g := (mkF m 49 #[vr q, vi n_, vi dp, .val (.long mt), .second, vi (n_ - (1 : Int32))] [(.ref q)])) rfl (by rw [hml]; rfl) (Steps.refl _) (argsL := []) (rest := []) (lenOf pd_5 rfl) rfl (by show 2 * 0 + _ ≤ _; exact Nat.le_of_eq rfl) (hb hby d4_49) (fun _ _ => ⟨rfl, rfl, (by decide : 0 + 0 ≤ _), (by decide : 0 + 0 ≤ _)⟩)
      dsimp only [Pt.U, Pt.locs, Pt.cells, Pt.slots] at X15 l15 y15 z15 st15 hQ15
      replace l15 := l15.symm
      subst l15 y15 z15
      obtain ⟨rfl, rfl, e15⟩ := hQ15
      first | rw [List.append_nil] at X15 | skip
      refine Goes.tr st15 ?_
      have e15' : T15.heap = T14.heap := e15
      show Goes p e below _ (T15.setTop (mkF m 52 #[vr q, vi n_, vi dp, .val (.long mt), .second, vi (n_ - (1 : Int32))] [(.int (if (n_ - (1 : Int32)) = (0 : Int32) then (1 : Int32) else (0 : Int32)))]))
      refine gIL X15 hx hby d4_52 rfl ?_
      obtain ⟨jj17, hv_jj17⟩ : ∃ z : Int32, z = (if (n_ - (1 : Int32)) = (0 : Int32) then (1 : Int32) else (0 : Int32)) := ⟨_, rfl⟩
      suffices J : Goes p e below (Fin_ s (QrmSt Z q n_ dp mt it fr mo sl ct kI kF kM kN kS kU kC fs us fi rf so fI fF gM gS cn K ca kc fC h0 n0) ({ frames := 5, cells := 2, slots := 10, locals := 79 } : Room).cells ({ frames := 5, cells := 2, slots := 10, locals := 79 } : Room).slots) (T15.setTop (mkF m 62 #[vr q, vi n_, vi dp, .val (.long mt), .second, vi (n_ - (1 : Int32))] [(.int jj17), (.int (if (n_ - (1 : Int32)) = (0 : Int32) then (1 : Int32) else (0 : Int32)))])) by
        by_cases hc54 : (n_ - (1 : Int32)) = (0 : Int32)
        · skip
          rw [show jj17 = (1 : Int32) from hv_jj17.trans (if_pos hc54)] at J
          refine Goes.via (fun _ kk_ => XS.ifNo X15.here hx rfl (hb hby d4_54) rfl ((if0 _ _).trans (teq hc54).2) kk_) ?_
          show Goes p e below _ (T15.setTop (mkF m 57 #[vr q, vi n_, vi dp, .val (.long mt), .second, vi (n_ - (1 : Int32))] [(.int (if (n_ - (1 : Int32)) = (0 : Int32) then (1 : Int32) else (0 : Int32)))]))
          refine gIC (z := 1) X15 hx hby d4_57 rfl ?_
          refine Goes.via (fun _ kk_ => XS.goto X15.here hx rfl (pc0 := 58) (pc' := 62) rfl (hb hby d4_58) (by decide) (by decide) kk_) ?_
          show Goes p e below _ (T15.setTop (mkF m 62 #[vr q, vi n_, vi dp, .val (.long mt), .second, vi (n_ - (1 : Int32))] [(.int (1 : Int32)), (.int (if (n_ - (1 : Int32)) = (0 : Int32) then (1 : Int32) else (0 : Int32)))]))
          exact J
        · skip
          rw [show jj17 = (0 : Int32) from hv_jj17.trans (if_neg hc54)] at J
          refine Goes.via (fun _ kk_ => XS.ifYes X15.here hx rfl (pc0 := 54) (pc' := 61) rfl (hb hby d4_54) rfl ((if0 _ _).trans (feq hc54).2) (by decide) (by decide) kk_) ?_
          show Goes p e below _ (T15.setTop (mkF m 61 #[vr q, vi n_, vi dp, .val (.long mt), .second, vi (n_ - (1 : Int32))] [(.int (if (n_ - (1 : Int32)) = (0 : Int32) then (1 : Int32) else (0 : Int32)))]))
          refine gIC (z := 0) X15 hx hby d4_61 rfl ?_
          show Goes p e below _ (T15.setTop (mkF m 62 #[vr q, vi n_, vi dp, .val (.long mt), .second, vi (n_ - (1 : Int32))] [(.int (0 : Int32)), (.int (if (n_ - (1 : Int32)) = (0 : Int32) then (1 : Int32) else (0 : Int32)))]))
          exact J
      subst hv_jj17
      show Goes p e below _ (T15.setTop (mkF m 62 #[vr q, vi n_, vi dp, .val (.long mt), .second, vi (n_ - (1 : Int32))] [(.int (if (n_ - (1 : Int32)) = (0 : Int32) then (1 : Int32) else (0 : Int32))), (.int (if (n_ - (1 : Int32)) = (0 : Int32) then (1 : Int32) else (0 : Int32)))]))
      have hc62_18 : (if (n_ - (1 : Int32)) = (0 : Int32) then (1 : Int32) else (0 : Int32)) = (if (n_ - (1 : Int32)) = (0 : Int32) then (1 : Int32) else (0 : Int32)) := rfl
      refine Goes.via (fun _ kk_ => XS.icmpNo X15.here hx rfl (hb hby d4_62) rfl (teq hc62_18).2 kk_) ?_
      show Goes p e below _ (T15.setTop (mkF m 65 #[vr q, vi n_, vi dp, .val (.long mt), .second, vi (n_ - (1 : Int32))] []))
      refine gIL X15 hx hby d4_65 rfl ?_
      have K19 : KpN n0 h0 T14.heap := ((KpN.refl n0 h0).trans K14)
      exact own_finI X15 hx hlk hret (hb hby d4_67) (by rw [e15']; exact ⟨(n_ - (1 : Int32)), fs'14, us, fi'14, rf'14, so'14, fI'14, fF'14, gM'14, gS'14, cn'14, rfl, N14, K19, u14_0, u14_1, u14_2, u14_3, u14_4, u14_5, u14_6, u14_7, u14_8, u14_9, u14_10, u14_11, u14_12, u14_13, u14_14, u14_15, u14_16, u14_17, u14_18⟩) (by first | decide | omega | (dsimp only; omega)) (by first | decide | omega | (dsimp only; omega))
    · skip
      refine Goes.via (fun _ kk_ => XS.ifYes X0.here hx rfl (pc0 := 15) (pc' := 32) rfl (hb hby d4_15) rfl ((if0 _ _).trans (flt hc15).2.2.2) (by decide) (by decide) kk_) ?_
      show Goes p e below _ (s₁.setTop (mkF m 32 #[vr q, vi n_, vi dp, .val (.long mt), .second, vi n_] []))
      refine gALN X0 hx hby d4_32 rfl rfl ?_
      refine Goes.via (fun _ kk_ => XS.lloadN X0.here hx rfl (hb hby d4_33) rfl  kk_) ?_
      show Goes p e below _ (s₁.setTop (mkF m 34 #[vr q, vi n_, vi dp, .val (.long mt), .second, vi n_] [(.long mt), (.ref q)]))
      refine gIL X0 hx hby d4_34 rfl ?_
      show Goes p e below _ (s₁.setTop (mkF m 36 #[vr q, vi n_, vi dp, .val (.long mt), .second, vi n_] [(.int n_), (.long mt), (.ref q)]))
      obtain ⟨nk, hnk⟩ := own_nat a1
      obtain ⟨io, hio, Eio⟩ := HCa nk (by omega)
      obtain ⟨_, _, ⟨T20, L20, k20, n20⟩, -, X20, ⟨Lc20, hQ20, l20, y20, z20⟩, st20⟩ := Jvm.LawKit.callS X0 hx (y := mN_Integer_valueOf) hown (mvT hZ (own_w hw 43 rfl)) (mvT hZ (own_w hw 44 rfl)) (mvT hZ (own_w hw 45 rfl)) (mvT hZ (own_w hw 46 rfl)) (by decide) (backOf (W := 3) (rmVo l Z a0 hw [] n_ ca kc fC nk io h0 n0 (Nat.le_trans Z0 (Nat.le_refl _)) S27_java_lang_Integer_IntegerCache_high_high S28_java_lang_Integer_IntegerCache_cache_cache A29_ca hnk (by first | assumption | rfl | decide | omega | (simp; done)) hio) hZ (own_w hw 46 rfl) (own_w hw 45 rfl) (by decide) (by decide)) (g := (mkF m 36 #[vr q, vi n_, vi dp, .val (.long mt), .second, vi n_] [(.int n_), (.long mt), (.ref q)])) rfl (by rw [hml]; rfl) (argsL := [(.int n_)]) (rest := [(.long mt), (.ref q)]) (lenOf pd_8 rfl) rfl (by show 2 * 0 + _ ≤ _; exact Nat.le_of_eq rfl) (hb hby d4_36) (fun _ _ => ⟨rfl, e0, (by decide : 0 + 0 ≤ _), (by decide : 0 + 0 ≤ _)⟩)
      dsimp only [Pt.U, Pt.locs, Pt.cells, Pt.slots] at X20 l20 y20 z20 st20 hQ20
      replace l20 := l20.symm
      subst l20 y20 z20
      obtain ⟨rfl, rfl, e20⟩ := hQ20
      first | rw [List.append_nil] at X20 | skip
      refine Goes.via st20 ?_
      have e20' : T20.heap = h0 := e20
      show Goes p e below _ (T20.setTop (mkF m 39 #[vr q, vi n_, vi dp, .val (.long mt), .second, vi n_] [(.ref io), (.long mt), (.ref q)]))
      obtain ⟨cq22, kq22, q22a, q22b, q22c⟩ := isOf hZ e20' E0_q
      obtain ⟨_, _, ⟨T22, L22, k22, n22⟩, -, X22, ⟨Lc22, hQ22, l22, y22, z22⟩, st22⟩ := X20.virtualBack hx (y := mN_EventQueue_add) (z := mN_EventQueue_add) hown (mvT hZ (own_w hw 50 rfl)) (mvT hZ (own_w hw 51 rfl)) (notFace_of_selects (args := #[]) (mvT hZ (own_w hw 53 rfl))) (mvT hZ (own_w hw 53 rfl)) (mvT hZ (own_w hw 52 rfl)) (by decide) (backOf (W := 0) (rmAdd l Z a0 hw [] q mt io it fr mo sl ct kI kF kM kN kS kU kC fs us n_ fi rf so fI fF gM gS cn K h0 n0 (Nat.le_trans Z0 (Nat.le_refl _)) E0_q F1_q_items F2_q_free F3_q_freeSlots F4_q_used F5_q_size F6_q_moments F7_q_slots F8_q_counts F9_q_first F10_q_reference F11_q_soonestBucket F12_q_soonest A13_it A14_fr A15_mo A16_sl A17_ct H18 HLa HLb HLc HLd HLe OVr HI HK Eio) hZ (own_w hw 54 rfl) (own_w hw 2 rfl) (by decide) (by decide)) q22a q22c (g := (mkF m 39 #[vr q, vi n_, vi dp, .val (.long mt), .second, vi n_] [(.ref io), (.long mt), (.ref q)])) rfl (by rw [hml]; rfl) (Steps.refl _) (argsL := [(.long mt), (.ref io)]) (rest := []) (lenOf pd_9 rfl) rfl (by show 2 * 0 + _ ≤ _; exact Nat.le_of_eq rfl) (hb hby d4_39) (fun _ _ => ⟨rfl, e20', (by decide : 0 + 2 ≤ _), (by decide : 0 + 10 ≤ _)⟩)
      dsimp only [Pt.U, Pt.locs, Pt.cells, Pt.slots] at X22 l22 y22 z22 st22 hQ22
      replace l22 := l22.symm
      subst l22 y22 z22
      obtain ⟨fs'22, us'22, fi'22, rf'22, fI'22, gM'22, gS'22, cn'22, rfl, N22q, K22, u22_0, u22_1, u22_2, u22_3, u22_4, u22_5, u22_6, u22_7, u22_8, u22_9, u22_10, u22_11, u22_12, u22_13, u22_14, u22_15, u22_16, u22_17, u22_18⟩ := hQ22
      have N22 := Fr.app N0 N22q
      refine Goes.tr st22 ?_
      show Goes p e below _ (T22.setTop (mkF m 42 #[vr q, vi n_, vi dp, .val (.long mt), .second, vi n_] []))
      refine gIL X22 hx hby d4_42 rfl ?_
      refine gIC (z := 1) X22 hx hby d4_44 rfl ?_
      refine Goes.via (fun _ kk_ => XS.iadd X22.here hx rfl (hb hby d4_45) rfl kk_) ?_
      show Goes p e below _ (T22.setTop (mkF m 46 #[vr q, vi n_, vi dp, .val (.long mt), .second, vi n_] [(.int (n_ + (1 : Int32)))]))
      refine Goes.via (fun _ kk_ => XS.istore X22.here hx rfl (hb hby d4_46) rfl (l' := #[vr q, vi n_, vi dp, .val (.long mt), .second, vi (n_ + (1 : Int32))]) rfl kk_) ?_
      show Goes p e below _ (T22.setTop (mkF m 48 #[vr q, vi n_, vi dp, .val (.long mt), .second, vi (n_ + (1 : Int32))] []))
      refine gALN X22 hx hby d4_48 rfl rfl ?_
      have z24 : h0.size ≤ (T22.heap).size := (Nat.le_trans (Nat.le_refl _) (KpN.size K22))
      obtain ⟨cq23, kq23, q23a, q23b, q23c⟩ := isOf hZ rfl u22_0
      obtain ⟨_, _, ⟨T23, L23, k23, n23⟩, -, X23, ⟨Lc23, hQ23, l23, y23, z23⟩, st23⟩ := X22.virtualBack hx (y := mN_EventQueue_isEmpty) (z := mN_EventQueue_isEmpty) hown (mvT hZ (own_w hw 32 rfl)) (mvT hZ (own_w hw 33 rfl)) (notFace_of_selects (args := #[]) (mvT hZ (own_w hw 35 rfl))) (mvT hZ (own_w hw 35 rfl)) (mvT hZ (own_w hw 34 rfl)) (by decide) (backOf (W := 0) (rmEm l Z a0 hw [] q (n_ + (1 : Int32)) T22.heap n0 (Nat.le_trans Z0 z24) u22_5) hZ (own_w hw 36 rfl) (own_w hw 2 rfl) (by decide) (by decide)) q23a q23c (g := (mkF m 49 #[vr q, vi n_, vi dp, .val (.long mt), .second, vi (n_ + (1 : Int32))] [(.ref q)])) rfl (by rw [hml]; rfl) (Steps.refl _) (argsL := []) (rest := []) (lenOf pd_5 rfl) rfl (by show 2 * 0 + _ ≤ _; exact Nat.le_of_eq rfl) (hb hby d4_49) (fun _ _ => ⟨rfl, rfl, (by decide : 2 + 0 ≤ _), (by decide : 10 + 0 ≤ _)⟩)
      dsimp only [Pt.U, Pt.locs, Pt.cells, Pt.slots] at X23 l23 y23 z23 st23 hQ23
      replace l23 := l23.symm
      subst l23 y23 z23
      obtain ⟨rfl, rfl, e23⟩ := hQ23
      first | rw [List.append_nil] at X23 | skip
      refine Goes.tr st23 ?_
      have e23' : T23.heap = T22.heap := e23
      show Goes p e below _ (T23.setTop (mkF m 52 #[vr q, vi n_, vi dp, .val (.long mt), .second, vi (n_ + (1 : Int32))] [(.int (if (n_ + (1 : Int32)) = (0 : Int32) then (1 : Int32) else (0 : Int32)))]))
      refine gIL X23 hx hby d4_52 rfl ?_
      obtain ⟨jj25, hv_jj25⟩ : ∃ z : Int32, z = (if (n_ + (1 : Int32)) = (0 : Int32) then (1 : Int32) else (0 : Int32)) := ⟨_, rfl⟩
      suffices J : Goes p e below (Fin_ s (QrmSt Z q n_ dp mt it fr mo sl ct kI kF kM kN kS kU kC fs us fi rf so fI fF gM gS cn K ca kc fC h0 n0) ({ frames := 5, cells := 2, slots := 10, locals := 79 } : Room).cells ({ frames := 5, cells := 2, slots := 10, locals := 79 } : Room).slots) (T23.setTop (mkF m 62 #[vr q, vi n_, vi dp, .val (.long mt), .second, vi (n_ + (1 : Int32))] [(.int jj25), (.int (if (n_ + (1 : Int32)) = (0 : Int32) then (1 : Int32) else (0 : Int32)))])) by
        by_cases hc54 : (n_ + (1 : Int32)) = (0 : Int32)
        · skip
          rw [show jj25 = (1 : Int32) from hv_jj25.trans (if_pos hc54)] at J
          refine Goes.via (fun _ kk_ => XS.ifNo X23.here hx rfl (hb hby d4_54) rfl ((if0 _ _).trans (teq hc54).2) kk_) ?_
          show Goes p e below _ (T23.setTop (mkF m 57 #[vr q, vi n_, vi dp, .val (.long mt), .second, vi (n_ + (1 : Int32))] [(.int (if (n_ + (1 : Int32)) = (0 : Int32) then (1 : Int32) else (0 : Int32)))]))
          refine gIC (z := 1) X23 hx hby d4_57 rfl ?_
          refine Goes.via (fun _ kk_ => XS.goto X23.here hx rfl (pc0 := 58) (pc' := 62) rfl (hb hby d4_58) (by decide) (by decide) kk_) ?_
          show Goes p e below _ (T23.setTop (mkF m 62 #[vr q, vi n_, vi dp, .val (.long mt), .second, vi (n_ + (1 : Int32))] [(.int (1 : Int32)), (.int (if (n_ + (1 : Int32)) = (0 : Int32) then (1 : Int32) else (0 : Int32)))]))
          exact J
        · skip
          rw [show jj25 = (0 : Int32) from hv_jj25.trans (if_neg hc54)] at J
          refine Goes.via (fun _ kk_ => XS.ifYes X23.here hx rfl (pc0 := 54) (pc' := 61) rfl (hb hby d4_54) rfl ((if0 _ _).trans (feq hc54).2) (by decide) (by decide) kk_) ?_
          show Goes p e below _ (T23.setTop (mkF m 61 #[vr q, vi n_, vi dp, .val (.long mt), .second, vi (n_ + (1 : Int32))] [(.int (if (n_ + (1 : Int32)) = (0 : Int32) then (1 : Int32) else (0 : Int32)))]))
          refine gIC (z := 0) X23 hx hby d4_61 rfl ?_
          show Goes p e below _ (T23.setTop (mkF m 62 #[vr q, vi n_, vi dp, .val (.long mt), .second, vi (n_ + (1 : Int32))] [(.int (0 : Int32)), (.int (if (n_ + (1 : Int32)) = (0 : Int32) then (1 : Int32) else (0 : Int32)))]))
          exact J
      subst hv_jj25
      show Goes p e below _ (T23.setTop (mkF m 62 #[vr q, vi n_, vi dp, .val (.long mt), .second, vi (n_ + (1 : Int32))] [(.int (if (n_ + (1 : Int32)) = (0 : Int32) then (1 : Int32) else (0 : Int32))), (.int (if (n_ + (1 : Int32)) = (0 : Int32) then (1 : Int32) else (0 : Int32)))]))
      have hc62_26 : (if (n_ + (1 : Int32)) = (0 : Int32) then (1 : Int32) else (0 : Int32)) = (if (n_ + (1 : Int32)) = (0 : Int32) then (1 : Int32) else (0 : Int32)) := rfl
      refine Goes.via (fun _ kk_ => XS.icmpNo X23.here hx rfl (hb hby d4_62) rfl (teq hc62_26).2 kk_) ?_
      show Goes p e below _ (T23.setTop (mkF m 65 #[vr q, vi n_, vi dp, .val (.long mt), .second, vi (n_ + (1 : Int32))] []))
      refine gIL X23 hx hby d4_65 rfl ?_
      have K27 : KpN n0 h0 T22.heap := ((KpN.refl n0 h0).trans K22)
      exact own_finI X23 hx hlk hret (hb hby d4_67) (by rw [e23']; exact ⟨(n_ + (1 : Int32)), fs'22, us'22, fi'22, rf'22, so, fI'22, fF, gM'22, gS'22, cn'22, rfl, N22, K27, u22_0, u22_1, u22_2, u22_3, u22_4, u22_5, u22_6, u22_7, u22_8, u22_9, u22_10, u22_11, u22_12, u22_13, u22_14, u22_15, u22_16, u22_17, u22_18⟩) (by first | decide | omega | (dsimp only; omega)) (by first | decide | omega | (dsimp only; omega))
theorem ef_rmQ (m : MethodId) (q : Addr) : entryFrame m #[(.ref q)] 1 = mkF m 0 #[.val (.ref q)] [] := by first | (simp [entryFrame, mkF, argsToLocals, Value.category]; done) | rfl
def QrmQ (Z : State) (q : Nat) (h0 : Heap) (n0 : Nat) (v_ : Option Value) (h_ : Heap) (L_ : List Loc) : Prop := ∃ it : Nat, ∃ fr : Nat, ∃ mo : Nat, ∃ sl : Nat, ∃ ct : Nat, ∃ kI : ClassId, ∃ kF : ClassId, ∃ kM : ClassId, ∃ kN : ClassId, ∃ kS : ClassId, ∃ kU : ClassId, ∃ kC : ClassId, v_ = none ∧ Fr n0 L_ ∧ Keep h0 h_ [q] ∧ Exa Z h_ q "nearhop/sim/EventQueue" ∧ Fld Z h_ q "nearhop/sim/EventQueue" "items" "[Ljava/lang/Object;" (.ref it) ∧ Fld Z h_ q "nearhop/sim/EventQueue" "free" "[I" (.ref fr) ∧ Fld Z h_ q "nearhop/sim/EventQueue" "freeSlots" "I" (.int (0 : Int32)) ∧ Fld Z h_ q "nearhop/sim/EventQueue" "used" "I" (.int (0 : Int32)) ∧ Fld Z h_ q "nearhop/sim/EventQueue" "size" "I" (.int (0 : Int32)) ∧ Fld Z h_ q "nearhop/sim/EventQueue" "moments" "[[J" (.ref mo) ∧ Fld Z h_ q "nearhop/sim/EventQueue" "slots" "[[I" (.ref sl) ∧ Fld Z h_ q "nearhop/sim/EventQueue" "counts" "[I" (.ref ct) ∧ Fld Z h_ q "nearhop/sim/EventQueue" "first" "I" (.int (0 : Int32)) ∧ Fld Z h_ q "nearhop/sim/EventQueue" "reference" "J" (.long (-9223372036854775808 : Int64)) ∧ Fld Z h_ q "nearhop/sim/EventQueue" "soonestBucket" "I" (.int (-1 : Int32)) ∧ Fld Z h_ q "nearhop/sim/EventQueue" "soonest" "J" (.long (0 : Int64)) ∧ Arw Z h_ it kI (.object "java/lang/Object") 64 (fun _ => .null) ∧ Arw Z h_ fr kF .int 64 (fun i => .int ((fun _ => (0 : Int32)) i)) ∧ Grv Z h_ mo kM kN .long 65 64 (fun u v => .long ((fun _ _ => (0 : Int64)) u v)) ∧ Grv Z h_ sl kS kU .int 65 64 (fun u v => .int ((fun _ _ => (0 : Int32)) u v)) ∧ Arw Z h_ ct kC .int 65 (fun i => .int (Int32.ofNat ((fun _ => 0) i))) ∧ q < it ∧ it < fr ∧ fr < mo ∧ mo + 66 ≤ sl ∧ sl + 66 ≤ ct ∧ Ovr Z kI "java/lang/Object"
theorem d1_0 : decode prog_155_method_1_code 0 = .ok (.aload_n 0, 1) := by decide +kernel
theorem d1_1 : decode prog_155_method_1_code 1 = .ok (.invokespecial 3, 3) := by decide +kernel
theorem d1_4 : decode prog_155_method_1_code 4 = .ok (.aload_n 0, 1) := by decide +kernel
theorem d1_5 : decode prog_155_method_1_code 5 = .ok (.bipush 64, 2) := by decide +kernel
theorem d1_7 : decode prog_155_method_1_code 7 = .ok (.anewarray 4, 3) := by decide +kernel
theorem d1_10 : decode prog_155_method_1_code 10 = .ok (.putfield 11, 3) := by decide +kernel
theorem d1_13 : decode prog_155_method_1_code 13 = .ok (.aload_n 0, 1) := by decide +kernel
theorem d1_14 : decode prog_155_method_1_code 14 = .ok (.bipush 64, 2) := by decide +kernel
theorem d1_16 : decode prog_155_method_1_code 16 = .ok (.newarray .int, 2) := by decide +kernel
theorem d1_18 : decode prog_155_method_1_code 18 = .ok (.putfield 15, 3) := by decide +kernel
theorem d1_21 : decode prog_155_method_1_code 21 = .ok (.aload_n 0, 1) := by decide +kernel
theorem d1_22 : decode prog_155_method_1_code 22 = .ok (.bipush 65, 2) := by decide +kernel
theorem d1_24 : decode prog_155_method_1_code 24 = .ok (.bipush 64, 2) := by decide +kernel
theorem d1_26 : decode prog_155_method_1_code 26 = .ok (.multianewarray 19 2, 4) := by decide +kernel
theorem d1_30 : decode prog_155_method_1_code 30 = .ok (.putfield 21, 3) := by decide +kernel
theorem d1_33 : decode prog_155_method_1_code 33 = .ok (.aload_n 0, 1) := by decide +kernel
theorem d1_34 : decode prog_155_method_1_code 34 = .ok (.bipush 65, 2) := by decide +kernel
theorem d1_36 : decode prog_155_method_1_code 36 = .ok (.bipush 64, 2) := by decide +kernel
theorem d1_38 : decode prog_155_method_1_code 38 = .ok (.multianewarray 24 2, 4) := by decide +kernel
theorem d1_42 : decode prog_155_method_1_code 42 = .ok (.putfield 26, 3) := by decide +kernel
theorem d1_45 : decode prog_155_method_1_code 45 = .ok (.aload_n 0, 1) := by decide +kernel
theorem d1_46 : decode prog_155_method_1_code 46 = .ok (.bipush 65, 2) := by decide +kernel
theorem d1_48 : decode prog_155_method_1_code 48 = .ok (.newarray .int, 2) := by decide +kernel
theorem d1_50 : decode prog_155_method_1_code 50 = .ok (.putfield 29, 3) := by decide +kernel
theorem d1_53 : decode prog_155_method_1_code 53 = .ok (.aload_n 0, 1) := by decide +kernel
theorem d1_54 : decode prog_155_method_1_code 54 = .ok (.ldc2_w 32, 3) := by decide +kernel
theorem d1_57 : decode prog_155_method_1_code 57 = .ok (.putfield 34, 3) := by decide +kernel
theorem d1_60 : decode prog_155_method_1_code 60 = .ok (.aload_n 0, 1) := by decide +kernel
theorem d1_61 : decode prog_155_method_1_code 61 = .ok (.iconst (-1), 1) := by decide +kernel
theorem d1_62 : decode prog_155_method_1_code 62 = .ok (.putfield 38, 3) := by decide +kernel
theorem d1_65 : decode prog_155_method_1_code 65 = .ok (.return_, 1) := by decide +kernel
set_option maxRecDepth 65536 in
set_option maxHeartbeats 40000000 in
theorem rmQ (l : Launch) (Z : State) (a0 : Array Value) (hw : ∀ d ∈ tables_1, d.before a0 Z = true) (ws : List Jvm.Cond) (q : Nat) (h0 : Heap) (n0 : Nat) (Z0 : n0 ≤ h0.size) (E0_q : Exa Z h0 q "nearhop/sim/EventQueue") (F1_q_items : Fld Z h0 q "nearhop/sim/EventQueue" "items" "[Ljava/lang/Object;" .null) (F2_q_free : Fld Z h0 q "nearhop/sim/EventQueue" "free" "[I" .null) (F3_q_freeSlots : Fld Z h0 q "nearhop/sim/EventQueue" "freeSlots" "I" (.int (0 : Int32))) (F4_q_used : Fld Z h0 q "nearhop/sim/EventQueue" "used" "I" (.int (0 : Int32))) (F5_q_size : Fld Z h0 q "nearhop/sim/EventQueue" "size" "I" (.int (0 : Int32))) (F6_q_moments : Fld Z h0 q "nearhop/sim/EventQueue" "moments" "[[J" .null) (F7_q_slots : Fld Z h0 q "nearhop/sim/EventQueue" "slots" "[[I" .null) (F8_q_counts : Fld Z h0 q "nearhop/sim/EventQueue" "counts" "[I" .null) (F9_q_first : Fld Z h0 q "nearhop/sim/EventQueue" "first" "I" (.int (0 : Int32))) (F10_q_reference : Fld Z h0 q "nearhop/sim/EventQueue" "reference" "J" (.long (0 : Int64))) (F11_q_soonestBucket : Fld Z h0 q "nearhop/sim/EventQueue" "soonestBucket" "I" (.int (0 : Int32))) (F12_q_soonest : Fld Z h0 q "nearhop/sim/EventQueue" "soonest" "J" (.long (0 : Int64))) (H13 : n0 ≤ q) :
    MetFree l (⟨"nearhop/sim/EventQueue", "<init>", "()V"⟩ : MethodName) (head1 (Jvm.Cond.code (⟨"nearhop/sim/EventQueue", "<init>", "()V"⟩ : MethodName) prog_155_method_1_code 1 none :: ws) ({ frames := 1, cells := 135, slots := 8643, locals := 12 } : Room)) (fun as_ U_ => as_ = #[(.ref q)] ∧ Z.Warmed39 U_.vm ∧ U_.heap = h0) (fun _ _ _ _ _ => True) (fun _ U_ o_ V_ => ∃ v_ L_, o_ = .returned v_ ∧ QrmQ Z q h0 n0 v_ V_.heap L_ ∧ FrameEnd U_ o_ V_ L_ ({ frames := 1, cells := 135, slots := 8643, locals := 12 } : Room).cells ({ frames := 1, cells := 135, slots := 8643, locals := 12 } : Room).slots) := by
  refine MetFree.of_bodySF (plainFor_of_name pn_nearhop_sim_EventQueue) hisR ?_
  intro p e s m args below meth c s₁ Bd hml0 hP hK
  obtain ⟨rfl, hZ, hh⟩ := hP
  have hx := Bd.exec
  have hby := Bd.bytes
  have hlk : meth.locks = false := BodyLoose.notSynchronized Bd
  have hret := Bd.returns
  have hml : c.maxLocals = 1 := hml0
  have hown : s.vm.findClass "nearhop/sim/EventQueue" = some m.cls := findClass_of_methodNamed Bd.named
  have hnm := (name_of_methodNamed Bd.named Bd.method).1
  have X0 : Stand p l e ({ frames := 1, cells := 135, slots := 8643, locals := 12 } : Room) s m #[(.ref q)] below meth c s₁ [] 0 0 := Stand.of_body Bd
  have e0 : s₁.heap = h0 := by rw [← hh, Bd.state]; rfl
  have N0 := Fr.nil n0
  show Goes p e below (Fin_ s (QrmQ Z q h0 n0) ({ frames := 1, cells := 135, slots := 8643, locals := 12 } : Room).cells ({ frames := 1, cells := 135, slots := 8643, locals := 12 } : Room).slots) (s₁.setTop (entryFrame m #[(.ref q)] 1))
  rw [ef_rmQ m q]
  refine gALN X0 hx hby d1_0 rfl rfl ?_
  obtain ⟨T1, X1, e1, st1⟩ := initO X0 hx hZ hown (own_w hw 6 rfl) (own_w hw 7 rfl) (own_w hw 8 rfl) e0 (g := (mkF m 1 #[vr q] [(.ref q)])) rfl (by rw [hml]; rfl) rfl (hb hby d1_1) (by decide) (W := 0) (by show 2 * 0 + _ ≤ _; exact Nat.le_of_eq rfl) (by decide)
  refine Goes.via st1 ?_
  show Goes p e below _ (T1.setTop (mkF m 4 #[vr q] []))
  refine gALN X1 hx hby d1_4 rfl rfl ?_
  refine gBI (z := 64) X1 hx hby d1_5 rfl ?_
  obtain ⟨T2, h2, k2, X2, e2, E2, A2, O2, st2⟩ := own_newO X1 hx hZ hown (own_w hw 9 rfl) (own_w hw 10 rfl) e1 (g := (mkF m 7 #[vr q] [(.int (64 : Int32)), (.ref q)])) rfl (hb hby d1_7) rfl (n := (64 : Int32)) (N := 64) (by decide) (by decide) (cap := 64) (by first | decide | omega | (dsimp only; omega)) (by first | decide | omega | (dsimp only; omega)) (by first | decide | omega | (dsimp only; omega)) (by first | decide | omega | (dsimp only; omega))
  obtain ⟨b2, g2⟩ : ∃ z, z = (h0).size := ⟨_, rfl⟩
  rw [← g2] at A2 st2
  have lne3 : q < b2 := Nat.lt_of_lt_of_le E0_q.lt (Nat.le_of_eq g2.symm)
  have ne3 : q ≠ b2 := Nat.ne_of_lt lne3
  have sz_b2 : h0.size ≤ b2 := Nat.le_trans (Nat.le_refl _) (Nat.le_of_eq g2.symm)
  have gn_b2 : n0 ≤ b2 := Nat.le_trans Z0 sz_b2
  refine Goes.via st2 ?_
  show Goes p e below _ (T2.setTop (mkF m 10 #[vr q] [(.ref b2), (.ref q)]))
  have f4 := (F1_q_items.ext E2)
  have f5 := (E0_q.ext E2)
  obtain ⟨T6, h6, X6, e6, W6, st6⟩ := putF X2 hx hZ hown (host := "") (Or.inl (own_w hw 11 rfl)) Via.refl e2 f4 f5 (Or.inl (own_w hw 12 rfl)) (own_w hw 1 rfl) (ty := (.array (.object "java/lang/Object"))) (by decide) rfl rfl (g := (mkF m 10 #[vr q] [(.ref b2), (.ref q)])) rfl rfl (hb hby d1_10)
  refine Goes.via st6 ?_
  have N6 := Fr.snoc X6 N0 H13
  have Fw6 : Fld Z h6 q "nearhop/sim/EventQueue" "items" "[Ljava/lang/Object;" (.ref b2) := f4.same W6
  show Goes p e below _ (T6.setTop (mkF m 13 #[vr q] []))
  refine gALN X6 hx hby d1_13 rfl rfl ?_
  refine gBI (z := 64) X6 hx hby d1_14 rfl ?_
  obtain ⟨T7, h7, k7, X7, e7, E7, A7, st7⟩ := own_newP X6 hx hZ (own_w hw 13 rfl) e6 (g := (mkF m 16 #[vr q] [(.int (64 : Int32)), (.ref q)])) rfl (hb hby d1_16) rfl (n := (64 : Int32)) (N := 64) (by decide) (by decide) (cap := 64) (by first | decide | omega | (dsimp only; omega)) (by first | decide | omega | (dsimp only; omega)) (by first | decide | omega | (dsimp only; omega)) (by first | decide | omega | (dsimp only; omega))
  obtain ⟨b7, g7⟩ : ∃ z, z = (h6).size := ⟨_, rfl⟩
  rw [← g7] at A7 st7
  have f8 := (f5.wr W6)
  have lne9 : q < b7 := Nat.lt_of_lt_of_le f8.lt (Nat.le_of_eq g7.symm)
  have ne9 : q ≠ b7 := Nat.ne_of_lt lne9
  have f10 := (A2.other W6 (Ne.symm ne3))
  have lne11 : b2 < b7 := Nat.lt_of_lt_of_le f10.lt (Nat.le_of_eq g7.symm)
  have z12 : h0.size ≤ (h6).size := (Nat.le_trans (Nat.le_trans (Nat.le_refl _) E2.1) (Nat.le_of_eq W6.size.symm))
  have sz_b7 : h0.size ≤ b7 := Nat.le_trans z12 (Nat.le_of_eq g7.symm)
  have gn_b7 : n0 ≤ b7 := Nat.le_trans Z0 sz_b7
  refine Goes.via st7 ?_
  show Goes p e below _ (T7.setTop (mkF m 18 #[vr q] [(.ref b7), (.ref q)]))
  have f13 := (((F2_q_free.ext E2).other W6 (Or.inr (slot_ne (Or.inl (own_w hw 15 rfl)) (Or.inl (own_w hw 12 rfl)) (by decide) (t := (.array .int)) (t' := (.array (.object "java/lang/Object"))) (by decide) (by decide)))).ext E7)
  have f14 := (f8.ext E7)
  obtain ⟨T15, h15, X15, e15, W15, st15⟩ := putF X7 hx hZ hown (host := "") (Or.inl (own_w hw 14 rfl)) Via.refl e7 f13 f14 (Or.inl (own_w hw 15 rfl)) (own_w hw 1 rfl) (ty := (.array .int)) (by decide) rfl rfl (g := (mkF m 18 #[vr q] [(.ref b7), (.ref q)])) rfl rfl (hb hby d1_18)
  refine Goes.via st15 ?_
  have N15 := Fr.snoc X15 N6 H13
  have Fw15 : Fld Z h15 q "nearhop/sim/EventQueue" "free" "[I" (.ref b7) := f13.same W15
  show Goes p e below _ (T15.setTop (mkF m 21 #[vr q] []))
  refine gALN X15 hx hby d1_21 rfl rfl ?_
  refine gBI (z := 65) X15 hx hby d1_22 rfl ?_
  refine gBI (z := 64) X15 hx hby d1_24 rfl ?_
  show Goes p e below _ (T15.setTop (mkF m 26 #[vr q] [(.int (64 : Int32)), (.int (65 : Int32)), (.ref q)]))
  obtain ⟨T16, h16, kA16, kB16, X16, e16, E16, A16, st16⟩ := own_grid2 (ty := .long) (C := "[J") (ad := "[[J") X15 hx hZ hown (by decide) (by decide) (own_w hw 16 rfl) (own_w hw 17 rfl) (own_w hw 18 rfl) e15 (g := (mkF m 26 #[vr q] [(.int (64 : Int32)), (.int (65 : Int32)), (.ref q)])) rfl (hb hby d1_26) rfl (N := 65) (M := 64) (by decide) (by decide) (cap := 64) (by decide) (by decide) (by decide) rfl rfl (by decide) (by decide)
  obtain ⟨b16, g16⟩ : ∃ z, z = (h15).size := ⟨_, rfl⟩
  rw [← g16] at A16 st16
  have f17 := (f14.wr W15)
  have lne18 : q < b16 := Nat.lt_of_lt_of_le f17.lt (Nat.le_of_eq g16.symm)
  have f19 := ((f10.ext E7).other W15 (Ne.symm ne3))
  have lne20 : b2 < b16 := Nat.lt_of_lt_of_le f19.lt (Nat.le_of_eq g16.symm)
  have f21 := (A7.other W15 (Ne.symm ne9))
  have lne22 : b7 < b16 := Nat.lt_of_lt_of_le f21.lt (Nat.le_of_eq g16.symm)
  have z23 : h0.size ≤ (h15).size := (Nat.le_trans (Nat.le_trans z12 E7.1) (Nat.le_of_eq W15.size.symm))
  have sz_b16 : h0.size ≤ b16 := Nat.le_trans z23 (Nat.le_of_eq g16.symm)
  have gn_b16 : n0 ≤ b16 := Nat.le_trans Z0 sz_b16
  have B16 : Grv Z h16 b16 kA16 kB16 .long 65 64 (fun u v => .long ((fun _ _ => (0 : Int64)) u v)) := A16
  refine Goes.via st16 ?_
  show Goes p e below _ (T16.setTop (mkF m 30 #[vr q] [(.ref b16), (.ref q)]))
  have f24 := (((((F6_q_moments.ext E2).other W6 (Or.inr (slot_ne (Or.inr (own_w hw 20 rfl)) (Or.inl (own_w hw 12 rfl)) (by decide) (t := (.array (.array .long))) (t' := (.array (.object "java/lang/Object"))) (by decide) (by decide)))).ext E7).other W15 (Or.inr (slot_ne (Or.inr (own_w hw 20 rfl)) (Or.inl (own_w hw 15 rfl)) (by decide) (t := (.array (.array .long))) (t' := (.array .int)) (by decide) (by decide)))).ext E16)
  have f25 := (f17.ext E16)
  obtain ⟨T26, h26, X26, e26, W26, st26⟩ := putF X16 hx hZ hown (host := "") (Or.inl (own_w hw 19 rfl)) Via.refl e16 f24 f25 (Or.inr ⟨(own_w hw 20 rfl), rfl, hnm⟩) (own_w hw 1 rfl) (ty := (.array (.array .long))) (by decide) rfl rfl (g := (mkF m 30 #[vr q] [(.ref b16), (.ref q)])) rfl rfl (hb hby d1_30)
  refine Goes.via st26 ?_
  have N26 := Fr.snoc X26 N15 H13
  have Fw26 : Fld Z h26 q "nearhop/sim/EventQueue" "moments" "[[J" (.ref b16) := f24.same W26
  show Goes p e below _ (T26.setTop (mkF m 33 #[vr q] []))
  refine gALN X26 hx hby d1_33 rfl rfl ?_
  refine gBI (z := 65) X26 hx hby d1_34 rfl ?_
  refine gBI (z := 64) X26 hx hby d1_36 rfl ?_
  show Goes p e below _ (T26.setTop (mkF m 38 #[vr q] [(.int (64 : Int32)), (.int (65 : Int32)), (.ref q)]))
  have f27 := (B16.off W26 (show (q : Nat) < b16 ∨ b16 + 65 < q by omega))
  obtain ⟨T28, h28, kA28, kB28, X28, e28, E28, A28, st28⟩ := own_grid2 (ty := .int) (C := "[I") (ad := "[[I") X26 hx hZ hown (by decide) (by decide) (own_w hw 21 rfl) (own_w hw 22 rfl) (own_w hw 13 rfl) e26 (g := (mkF m 38 #[vr q] [(.int (64 : Int32)), (.int (65 : Int32)), (.ref q)])) rfl (hb hby d1_38) rfl (N := 65) (M := 64) (by decide) (by decide) (cap := 64) (by decide) (by decide) (by decide) rfl rfl (by decide) (by decide)
  obtain ⟨b28, g28⟩ : ∃ z, z = (h26).size := ⟨_, rfl⟩
  rw [← g28] at A28 st28
  have f29 := (f25.wr W26)
  have lne30 : q < b28 := Nat.lt_of_lt_of_le f29.lt (Nat.le_of_eq g28.symm)
  have f31 := ((f19.ext E16).other W26 (Ne.symm ne3))
  have lne32 : b2 < b28 := Nat.lt_of_lt_of_le f31.lt (Nat.le_of_eq g28.symm)
  have f33 := ((f21.ext E16).other W26 (Ne.symm ne9))
  have lne34 : b7 < b28 := Nat.lt_of_lt_of_le f33.lt (Nat.le_of_eq g28.symm)
  have lne35 : b16 < b28 := Nat.lt_of_lt_of_le f27.lt (Nat.le_of_eq g28.symm)
  have z36 : h0.size ≤ (h26).size := (Nat.le_trans (Nat.le_trans z23 E16.1) (Nat.le_of_eq W26.size.symm))
  have sz_b28 : h0.size ≤ b28 := Nat.le_trans z36 (Nat.le_of_eq g28.symm)
  have gn_b28 : n0 ≤ b28 := Nat.le_trans Z0 sz_b28
  have HLd : b16 + 66 ≤ b28 := by have z : (b16 + 1 + 64 : Nat) < (h26).size := (f27.2 64 (by decide)).lt; omega
  have B28 : Grv Z h28 b28 kA28 kB28 .int 65 64 (fun u v => .int ((fun _ _ => (0 : Int32)) u v)) := A28
  refine Goes.via st28 ?_
  show Goes p e below _ (T28.setTop (mkF m 42 #[vr q] [(.ref b28), (.ref q)]))
  have f37 := (((((((F7_q_slots.ext E2).other W6 (Or.inr (slot_ne (Or.inr (own_w hw 24 rfl)) (Or.inl (own_w hw 12 rfl)) (by decide) (t := (.array (.array .int))) (t' := (.array (.object "java/lang/Object"))) (by decide) (by decide)))).ext E7).other W15 (Or.inr (slot_ne (Or.inr (own_w hw 24 rfl)) (Or.inl (own_w hw 15 rfl)) (by decide) (t := (.array (.array .int))) (t' := (.array .int)) (by decide) (by decide)))).ext E16).other W26 (Or.inr (slot_ne (Or.inr (own_w hw 24 rfl)) (Or.inr (own_w hw 20 rfl)) (by decide) (t := (.array (.array .int))) (t' := (.array (.array .long))) (by decide) (by decide)))).ext E28)
  have f38 := (f29.ext E28)
  obtain ⟨T39, h39, X39, e39, W39, st39⟩ := putF X28 hx hZ hown (host := "") (Or.inl (own_w hw 23 rfl)) Via.refl e28 f37 f38 (Or.inr ⟨(own_w hw 24 rfl), rfl, hnm⟩) (own_w hw 1 rfl) (ty := (.array (.array .int))) (by decide) rfl rfl (g := (mkF m 42 #[vr q] [(.ref b28), (.ref q)])) rfl rfl (hb hby d1_42)
  refine Goes.via st39 ?_
  have N39 := Fr.snoc X39 N26 H13
  have Fw39 : Fld Z h39 q "nearhop/sim/EventQueue" "slots" "[[I" (.ref b28) := f37.same W39
  show Goes p e below _ (T39.setTop (mkF m 45 #[vr q] []))
  refine gALN X39 hx hby d1_45 rfl rfl ?_
  refine gBI (z := 65) X39 hx hby d1_46 rfl ?_
  show Goes p e below _ (T39.setTop (mkF m 48 #[vr q] [(.int (65 : Int32)), (.ref q)]))
  have f40 := (B28.off W39 (show (q : Nat) < b28 ∨ b28 + 65 < q by omega))
  obtain ⟨T41, h41, k41, X41, e41, E41, A41, st41⟩ := own_newP X39 hx hZ (own_w hw 13 rfl) e39 (g := (mkF m 48 #[vr q] [(.int (65 : Int32)), (.ref q)])) rfl (hb hby d1_48) rfl (n := (65 : Int32)) (N := 65) (by decide) (by decide) (cap := 65) (by first | decide | omega | (dsimp only; omega)) (by first | decide | omega | (dsimp only; omega)) (by first | decide | omega | (dsimp only; omega)) (by first | decide | omega | (dsimp only; omega))
  obtain ⟨b41, g41⟩ : ∃ z, z = (h39).size := ⟨_, rfl⟩
  rw [← g41] at A41 st41
  have f42 := (f38.wr W39)
  have lne43 : q < b41 := Nat.lt_of_lt_of_le f42.lt (Nat.le_of_eq g41.symm)
  have ne43 : q ≠ b41 := Nat.ne_of_lt lne43
  have f44 := ((f31.ext E28).other W39 (Ne.symm ne3))
  have lne45 : b2 < b41 := Nat.lt_of_lt_of_le f44.lt (Nat.le_of_eq g41.symm)
  have f46 := ((f33.ext E28).other W39 (Ne.symm ne9))
  have lne47 : b7 < b41 := Nat.lt_of_lt_of_le f46.lt (Nat.le_of_eq g41.symm)
  have f48 := ((f27.ext E28).off W39 (show (q : Nat) < b16 ∨ b16 + 65 < q by omega))
  have lne49 : b16 < b41 := Nat.lt_of_lt_of_le f48.lt (Nat.le_of_eq g41.symm)
  have lne50 : b28 < b41 := Nat.lt_of_lt_of_le f40.lt (Nat.le_of_eq g41.symm)
  have z51 : h0.size ≤ (h39).size := (Nat.le_trans (Nat.le_trans z36 E28.1) (Nat.le_of_eq W39.size.symm))
  have sz_b41 : h0.size ≤ b41 := Nat.le_trans z51 (Nat.le_of_eq g41.symm)
  have gn_b41 : n0 ≤ b41 := Nat.le_trans Z0 sz_b41
  refine Goes.via st41 ?_
  show Goes p e below _ (T41.setTop (mkF m 50 #[vr q] [(.ref b41), (.ref q)]))
  have HLe : b28 + 66 ≤ b41 := by have z : (b28 + 1 + 64 : Nat) < (h39).size := (f40.2 64 (by decide)).lt; omega
  have f52 := (((((((((F8_q_counts.ext E2).other W6 (Or.inr (slot_ne (Or.inr (own_w hw 26 rfl)) (Or.inl (own_w hw 12 rfl)) (by decide) (t := (.array .int)) (t' := (.array (.object "java/lang/Object"))) (by decide) (by decide)))).ext E7).other W15 (Or.inr (slot_ne (Or.inr (own_w hw 26 rfl)) (Or.inl (own_w hw 15 rfl)) (by decide) (t := (.array .int)) (t' := (.array .int)) (by decide) (by decide)))).ext E16).other W26 (Or.inr (slot_ne (Or.inr (own_w hw 26 rfl)) (Or.inr (own_w hw 20 rfl)) (by decide) (t := (.array .int)) (t' := (.array (.array .long))) (by decide) (by decide)))).ext E28).other W39 (Or.inr (slot_ne (Or.inr (own_w hw 26 rfl)) (Or.inr (own_w hw 24 rfl)) (by decide) (t := (.array .int)) (t' := (.array (.array .int))) (by decide) (by decide)))).ext E41)
  have f53 := (f42.ext E41)
  obtain ⟨T54, h54, X54, e54, W54, st54⟩ := putF X41 hx hZ hown (host := "") (Or.inl (own_w hw 25 rfl)) Via.refl e41 f52 f53 (Or.inr ⟨(own_w hw 26 rfl), rfl, hnm⟩) (own_w hw 1 rfl) (ty := (.array .int)) (by decide) rfl rfl (g := (mkF m 50 #[vr q] [(.ref b41), (.ref q)])) rfl rfl (hb hby d1_50)
  refine Goes.via st54 ?_
  have N54 := Fr.snoc X54 N39 H13
  have Fw54 : Fld Z h54 q "nearhop/sim/EventQueue" "counts" "[I" (.ref b41) := f52.same W54
  show Goes p e below _ (T54.setTop (mkF m 53 #[vr q] []))
  refine gALN X54 hx hby d1_53 rfl rfl ?_
  refine Goes.via (X54.ldc2Long hx hown (mvT hZ (own_w hw 27 rfl)) (g := (mkF m 54 #[vr q] [(.ref q)])) rfl (hb hby d1_54)) ?_
  show Goes p e below _ (T54.setTop (mkF m 57 #[vr q] [(.long (-9223372036854775808 : Int64)), (.ref q)]))
  have f55 := ((((((((((F10_q_reference.ext E2).other W6 (Or.inr (slot_ne (Or.inl (own_w hw 29 rfl)) (Or.inl (own_w hw 12 rfl)) (by decide) (t := .long) (t' := (.array (.object "java/lang/Object"))) (by decide) (by decide)))).ext E7).other W15 (Or.inr (slot_ne (Or.inl (own_w hw 29 rfl)) (Or.inl (own_w hw 15 rfl)) (by decide) (t := .long) (t' := (.array .int)) (by decide) (by decide)))).ext E16).other W26 (Or.inr (slot_ne (Or.inl (own_w hw 29 rfl)) (Or.inr (own_w hw 20 rfl)) (by decide) (t := .long) (t' := (.array (.array .long))) (by decide) (by decide)))).ext E28).other W39 (Or.inr (slot_ne (Or.inl (own_w hw 29 rfl)) (Or.inr (own_w hw 24 rfl)) (by decide) (t := .long) (t' := (.array (.array .int))) (by decide) (by decide)))).ext E41).other W54 (Or.inr (slot_ne (Or.inl (own_w hw 29 rfl)) (Or.inr (own_w hw 26 rfl)) (by decide) (t := .long) (t' := (.array .int)) (by decide) (by decide))))
  have f56 := (f53.wr W54)
  obtain ⟨T57, h57, X57, e57, W57, st57⟩ := putF X54 hx hZ hown (host := "") (Or.inl (own_w hw 28 rfl)) Via.refl e54 f55 f56 (Or.inl (own_w hw 29 rfl)) (own_w hw 1 rfl) (ty := .long) (by decide) rfl rfl (g := (mkF m 57 #[vr q] [(.long (-9223372036854775808 : Int64)), (.ref q)])) rfl rfl (hb hby d1_57)
  refine Goes.via st57 ?_
  have N57 := Fr.snoc X57 N54 H13
  have Fw57 : Fld Z h57 q "nearhop/sim/EventQueue" "reference" "J" (.long (-9223372036854775808 : Int64)) := f55.same W57
  show Goes p e below _ (T57.setTop (mkF m 60 #[vr q] []))
  refine gALN X57 hx hby d1_60 rfl rfl ?_
  refine gIC (z := -1) X57 hx hby d1_61 rfl ?_
  have f58 := (((((((((((F11_q_soonestBucket.ext E2).other W6 (Or.inr (slot_ne (Or.inl (own_w hw 31 rfl)) (Or.inl (own_w hw 12 rfl)) (by decide) (t := .int) (t' := (.array (.object "java/lang/Object"))) (by decide) (by decide)))).ext E7).other W15 (Or.inr (slot_ne (Or.inl (own_w hw 31 rfl)) (Or.inl (own_w hw 15 rfl)) (by decide) (t := .int) (t' := (.array .int)) (by decide) (by decide)))).ext E16).other W26 (Or.inr (slot_ne (Or.inl (own_w hw 31 rfl)) (Or.inr (own_w hw 20 rfl)) (by decide) (t := .int) (t' := (.array (.array .long))) (by decide) (by decide)))).ext E28).other W39 (Or.inr (slot_ne (Or.inl (own_w hw 31 rfl)) (Or.inr (own_w hw 24 rfl)) (by decide) (t := .int) (t' := (.array (.array .int))) (by decide) (by decide)))).ext E41).other W54 (Or.inr (slot_ne (Or.inl (own_w hw 31 rfl)) (Or.inr (own_w hw 26 rfl)) (by decide) (t := .int) (t' := (.array .int)) (by decide) (by decide)))).other W57 (Or.inr (slot_ne (Or.inl (own_w hw 31 rfl)) (Or.inl (own_w hw 29 rfl)) (by decide) (t := .int) (t' := .long) (by decide) (by decide))))
  have f59 := (f56.wr W57)
  obtain ⟨T60, h60, X60, e60, W60, st60⟩ := putF X57 hx hZ hown (host := "") (Or.inl (own_w hw 30 rfl)) Via.refl e57 f58 f59 (Or.inl (own_w hw 31 rfl)) (own_w hw 1 rfl) (ty := .int) (by decide) rfl rfl (g := (mkF m 62 #[vr q] [(.int (-1 : Int32)), (.ref q)])) rfl rfl (hb hby d1_62)
  refine Goes.via st60 ?_
  have N60 := Fr.snoc X60 N57 H13
  have Fw60 : Fld Z h60 q "nearhop/sim/EventQueue" "soonestBucket" "I" (.int (-1 : Int32)) := f58.same W60
  show Goes p e below _ (T60.setTop (mkF m 65 #[vr q] []))
  have K61 : Keep h0 h60 [q] := (((((((((((((Keep.refl h0 [q]).ext E2).wr W6 (Or.inl (List.mem_of_getElem? (i := 0) rfl))).ext E7).wr W15 (Or.inl (List.mem_of_getElem? (i := 0) rfl))).ext E16).wr W26 (Or.inl (List.mem_of_getElem? (i := 0) rfl))).ext E28).wr W39 (Or.inl (List.mem_of_getElem? (i := 0) rfl))).ext E41).wr W54 (Or.inl (List.mem_of_getElem? (i := 0) rfl))).wr W57 (Or.inl (List.mem_of_getElem? (i := 0) rfl))).wr W60 (Or.inl (List.mem_of_getElem? (i := 0) rfl)))
  have f62 := (f59.wr W60)
  have f63 := ((((((((((Fw6.ext E7).other W15 (Or.inr (slot_ne (Or.inl (own_w hw 12 rfl)) (Or.inl (own_w hw 15 rfl)) (by decide) (t := (.array (.object "java/lang/Object"))) (t' := (.array .int)) (by decide) (by decide)))).ext E16).other W26 (Or.inr (slot_ne (Or.inl (own_w hw 12 rfl)) (Or.inr (own_w hw 20 rfl)) (by decide) (t := (.array (.object "java/lang/Object"))) (t' := (.array (.array .long))) (by decide) (by decide)))).ext E28).other W39 (Or.inr (slot_ne (Or.inl (own_w hw 12 rfl)) (Or.inr (own_w hw 24 rfl)) (by decide) (t := (.array (.object "java/lang/Object"))) (t' := (.array (.array .int))) (by decide) (by decide)))).ext E41).other W54 (Or.inr (slot_ne (Or.inl (own_w hw 12 rfl)) (Or.inr (own_w hw 26 rfl)) (by decide) (t := (.array (.object "java/lang/Object"))) (t' := (.array .int)) (by decide) (by decide)))).other W57 (Or.inr (slot_ne (Or.inl (own_w hw 12 rfl)) (Or.inl (own_w hw 29 rfl)) (by decide) (t := (.array (.object "java/lang/Object"))) (t' := .long) (by decide) (by decide)))).other W60 (Or.inr (slot_ne (Or.inl (own_w hw 12 rfl)) (Or.inl (own_w hw 31 rfl)) (by decide) (t := (.array (.object "java/lang/Object"))) (t' := .int) (by decide) (by decide))))
  have f64 := ((((((((Fw15.ext E16).other W26 (Or.inr (slot_ne (Or.inl (own_w hw 15 rfl)) (Or.inr (own_w hw 20 rfl)) (by decide) (t := (.array .int)) (t' := (.array (.array .long))) (by decide) (by decide)))).ext E28).other W39 (Or.inr (slot_ne (Or.inl (own_w hw 15 rfl)) (Or.inr (own_w hw 24 rfl)) (by decide) (t := (.array .int)) (t' := (.array (.array .int))) (by decide) (by decide)))).ext E41).other W54 (Or.inr (slot_ne (Or.inl (own_w hw 15 rfl)) (Or.inr (own_w hw 26 rfl)) (by decide) (t := (.array .int)) (t' := (.array .int)) (by decide) (by decide)))).other W57 (Or.inr (slot_ne (Or.inl (own_w hw 15 rfl)) (Or.inl (own_w hw 29 rfl)) (by decide) (t := (.array .int)) (t' := .long) (by decide) (by decide)))).other W60 (Or.inr (slot_ne (Or.inl (own_w hw 15 rfl)) (Or.inl (own_w hw 31 rfl)) (by decide) (t := (.array .int)) (t' := .int) (by decide) (by decide))))
  have f65 := ((((((((((((F3_q_freeSlots.ext E2).other W6 (Or.inr (slot_ne (Or.inl (own_w hw 56 rfl)) (Or.inl (own_w hw 12 rfl)) (by decide) (t := .int) (t' := (.array (.object "java/lang/Object"))) (by decide) (by decide)))).ext E7).other W15 (Or.inr (slot_ne (Or.inl (own_w hw 56 rfl)) (Or.inl (own_w hw 15 rfl)) (by decide) (t := .int) (t' := (.array .int)) (by decide) (by decide)))).ext E16).other W26 (Or.inr (slot_ne (Or.inl (own_w hw 56 rfl)) (Or.inr (own_w hw 20 rfl)) (by decide) (t := .int) (t' := (.array (.array .long))) (by decide) (by decide)))).ext E28).other W39 (Or.inr (slot_ne (Or.inl (own_w hw 56 rfl)) (Or.inr (own_w hw 24 rfl)) (by decide) (t := .int) (t' := (.array (.array .int))) (by decide) (by decide)))).ext E41).other W54 (Or.inr (slot_ne (Or.inl (own_w hw 56 rfl)) (Or.inr (own_w hw 26 rfl)) (by decide) (t := .int) (t' := (.array .int)) (by decide) (by decide)))).other W57 (Or.inr (slot_ne (Or.inl (own_w hw 56 rfl)) (Or.inl (own_w hw 29 rfl)) (by decide) (t := .int) (t' := .long) (by decide) (by decide)))).other W60 (Or.inr (slot_ne (Or.inl (own_w hw 56 rfl)) (Or.inl (own_w hw 31 rfl)) (by decide) (t := .int) (t' := .int) (by decide) (by decide))))
  have f66 := ((((((((((((F4_q_used.ext E2).other W6 (Or.inr (slot_ne (Or.inl (own_w hw 58 rfl)) (Or.inl (own_w hw 12 rfl)) (by decide) (t := .int) (t' := (.array (.object "java/lang/Object"))) (by decide) (by decide)))).ext E7).other W15 (Or.inr (slot_ne (Or.inl (own_w hw 58 rfl)) (Or.inl (own_w hw 15 rfl)) (by decide) (t := .int) (t' := (.array .int)) (by decide) (by decide)))).ext E16).other W26 (Or.inr (slot_ne (Or.inl (own_w hw 58 rfl)) (Or.inr (own_w hw 20 rfl)) (by decide) (t := .int) (t' := (.array (.array .long))) (by decide) (by decide)))).ext E28).other W39 (Or.inr (slot_ne (Or.inl (own_w hw 58 rfl)) (Or.inr (own_w hw 24 rfl)) (by decide) (t := .int) (t' := (.array (.array .int))) (by decide) (by decide)))).ext E41).other W54 (Or.inr (slot_ne (Or.inl (own_w hw 58 rfl)) (Or.inr (own_w hw 26 rfl)) (by decide) (t := .int) (t' := (.array .int)) (by decide) (by decide)))).other W57 (Or.inr (slot_ne (Or.inl (own_w hw 58 rfl)) (Or.inl (own_w hw 29 rfl)) (by decide) (t := .int) (t' := .long) (by decide) (by decide)))).other W60 (Or.inr (slot_ne (Or.inl (own_w hw 58 rfl)) (Or.inl (own_w hw 31 rfl)) (by decide) (t := .int) (t' := .int) (by decide) (by decide))))
  have f67 := ((((((((((((F5_q_size.ext E2).other W6 (Or.inr (slot_ne (Or.inl (own_w hw 38 rfl)) (Or.inl (own_w hw 12 rfl)) (by decide) (t := .int) (t' := (.array (.object "java/lang/Object"))) (by decide) (by decide)))).ext E7).other W15 (Or.inr (slot_ne (Or.inl (own_w hw 38 rfl)) (Or.inl (own_w hw 15 rfl)) (by decide) (t := .int) (t' := (.array .int)) (by decide) (by decide)))).ext E16).other W26 (Or.inr (slot_ne (Or.inl (own_w hw 38 rfl)) (Or.inr (own_w hw 20 rfl)) (by decide) (t := .int) (t' := (.array (.array .long))) (by decide) (by decide)))).ext E28).other W39 (Or.inr (slot_ne (Or.inl (own_w hw 38 rfl)) (Or.inr (own_w hw 24 rfl)) (by decide) (t := .int) (t' := (.array (.array .int))) (by decide) (by decide)))).ext E41).other W54 (Or.inr (slot_ne (Or.inl (own_w hw 38 rfl)) (Or.inr (own_w hw 26 rfl)) (by decide) (t := .int) (t' := (.array .int)) (by decide) (by decide)))).other W57 (Or.inr (slot_ne (Or.inl (own_w hw 38 rfl)) (Or.inl (own_w hw 29 rfl)) (by decide) (t := .int) (t' := .long) (by decide) (by decide)))).other W60 (Or.inr (slot_ne (Or.inl (own_w hw 38 rfl)) (Or.inl (own_w hw 31 rfl)) (by decide) (t := .int) (t' := .int) (by decide) (by decide))))
  have f68 := ((((((Fw26.ext E28).other W39 (Or.inr (slot_ne (Or.inr (own_w hw 20 rfl)) (Or.inr (own_w hw 24 rfl)) (by decide) (t := (.array (.array .long))) (t' := (.array (.array .int))) (by decide) (by decide)))).ext E41).other W54 (Or.inr (slot_ne (Or.inr (own_w hw 20 rfl)) (Or.inr (own_w hw 26 rfl)) (by decide) (t := (.array (.array .long))) (t' := (.array .int)) (by decide) (by decide)))).other W57 (Or.inr (slot_ne (Or.inr (own_w hw 20 rfl)) (Or.inl (own_w hw 29 rfl)) (by decide) (t := (.array (.array .long))) (t' := .long) (by decide) (by decide)))).other W60 (Or.inr (slot_ne (Or.inr (own_w hw 20 rfl)) (Or.inl (own_w hw 31 rfl)) (by decide) (t := (.array (.array .long))) (t' := .int) (by decide) (by decide))))
  have f69 := ((((Fw39.ext E41).other W54 (Or.inr (slot_ne (Or.inr (own_w hw 24 rfl)) (Or.inr (own_w hw 26 rfl)) (by decide) (t := (.array (.array .int))) (t' := (.array .int)) (by decide) (by decide)))).other W57 (Or.inr (slot_ne (Or.inr (own_w hw 24 rfl)) (Or.inl (own_w hw 29 rfl)) (by decide) (t := (.array (.array .int))) (t' := .long) (by decide) (by decide)))).other W60 (Or.inr (slot_ne (Or.inr (own_w hw 24 rfl)) (Or.inl (own_w hw 31 rfl)) (by decide) (t := (.array (.array .int))) (t' := .int) (by decide) (by decide))))
  have f70 := ((Fw54.other W57 (Or.inr (slot_ne (Or.inr (own_w hw 26 rfl)) (Or.inl (own_w hw 29 rfl)) (by decide) (t := (.array .int)) (t' := .long) (by decide) (by decide)))).other W60 (Or.inr (slot_ne (Or.inr (own_w hw 26 rfl)) (Or.inl (own_w hw 31 rfl)) (by decide) (t := (.array .int)) (t' := .int) (by decide) (by decide))))
  have f71 := ((((((((((((F9_q_first.ext E2).other W6 (Or.inr (slot_ne (Or.inl (own_w hw 83 rfl)) (Or.inl (own_w hw 12 rfl)) (by decide) (t := .int) (t' := (.array (.object "java/lang/Object"))) (by decide) (by decide)))).ext E7).other W15 (Or.inr (slot_ne (Or.inl (own_w hw 83 rfl)) (Or.inl (own_w hw 15 rfl)) (by decide) (t := .int) (t' := (.array .int)) (by decide) (by decide)))).ext E16).other W26 (Or.inr (slot_ne (Or.inl (own_w hw 83 rfl)) (Or.inr (own_w hw 20 rfl)) (by decide) (t := .int) (t' := (.array (.array .long))) (by decide) (by decide)))).ext E28).other W39 (Or.inr (slot_ne (Or.inl (own_w hw 83 rfl)) (Or.inr (own_w hw 24 rfl)) (by decide) (t := .int) (t' := (.array (.array .int))) (by decide) (by decide)))).ext E41).other W54 (Or.inr (slot_ne (Or.inl (own_w hw 83 rfl)) (Or.inr (own_w hw 26 rfl)) (by decide) (t := .int) (t' := (.array .int)) (by decide) (by decide)))).other W57 (Or.inr (slot_ne (Or.inl (own_w hw 83 rfl)) (Or.inl (own_w hw 29 rfl)) (by decide) (t := .int) (t' := .long) (by decide) (by decide)))).other W60 (Or.inr (slot_ne (Or.inl (own_w hw 83 rfl)) (Or.inl (own_w hw 31 rfl)) (by decide) (t := .int) (t' := .int) (by decide) (by decide))))
  have f72 := (Fw57.other W60 (Or.inr (slot_ne (Or.inl (own_w hw 29 rfl)) (Or.inl (own_w hw 31 rfl)) (by decide) (t := .long) (t' := .int) (by decide) (by decide))))
  have f73 := ((((((((((((F12_q_soonest.ext E2).other W6 (Or.inr (slot_ne (Or.inl (own_w hw 89 rfl)) (Or.inl (own_w hw 12 rfl)) (by decide) (t := .long) (t' := (.array (.object "java/lang/Object"))) (by decide) (by decide)))).ext E7).other W15 (Or.inr (slot_ne (Or.inl (own_w hw 89 rfl)) (Or.inl (own_w hw 15 rfl)) (by decide) (t := .long) (t' := (.array .int)) (by decide) (by decide)))).ext E16).other W26 (Or.inr (slot_ne (Or.inl (own_w hw 89 rfl)) (Or.inr (own_w hw 20 rfl)) (by decide) (t := .long) (t' := (.array (.array .long))) (by decide) (by decide)))).ext E28).other W39 (Or.inr (slot_ne (Or.inl (own_w hw 89 rfl)) (Or.inr (own_w hw 24 rfl)) (by decide) (t := .long) (t' := (.array (.array .int))) (by decide) (by decide)))).ext E41).other W54 (Or.inr (slot_ne (Or.inl (own_w hw 89 rfl)) (Or.inr (own_w hw 26 rfl)) (by decide) (t := .long) (t' := (.array .int)) (by decide) (by decide)))).other W57 (Or.inr (slot_ne (Or.inl (own_w hw 89 rfl)) (Or.inl (own_w hw 29 rfl)) (by decide) (t := .long) (t' := .long) (by decide) (by decide)))).other W60 (Or.inr (slot_ne (Or.inl (own_w hw 89 rfl)) (Or.inl (own_w hw 31 rfl)) (by decide) (t := .long) (t' := .int) (by decide) (by decide))))
  have f74 := ((((f44.ext E41).other W54 (Ne.symm ne3)).other W57 (Ne.symm ne3)).other W60 (Ne.symm ne3))
  have f75 := ((((f46.ext E41).other W54 (Ne.symm ne9)).other W57 (Ne.symm ne9)).other W60 (Ne.symm ne9))
  have f76 := ((((f48.ext E41).off W54 (show (q : Nat) < b16 ∨ b16 + 65 < q by omega)).off W57 (show (q : Nat) < b16 ∨ b16 + 65 < q by omega)).off W60 (show (q : Nat) < b16 ∨ b16 + 65 < q by omega))
  have f77 := ((((f40.ext E41).off W54 (show (q : Nat) < b28 ∨ b28 + 65 < q by omega)).off W57 (show (q : Nat) < b28 ∨ b28 + 65 < q by omega)).off W60 (show (q : Nat) < b28 ∨ b28 + 65 < q by omega))
  have f78 := (((A41.other W54 (Ne.symm ne43)).other W57 (Ne.symm ne43)).other W60 (Ne.symm ne43))
  exact own_finV X60 hx hlk hret (hb hby d1_65) (by rw [e60]; exact ⟨b2, b7, b16, b28, b41, k2, k7, kA16, kB16, kA28, kB28, k41, rfl, N60, K61, f62, f63, f64, f65, f66, f67, f68, f69, f70, f71, f72, Fw60, f73, f74, f75, f76, f77, f78, (by omega), (by omega), (by omega), (by omega), (by omega), O2⟩) (by first | decide | omega | (dsimp only; omega)) (by first | decide | omega | (dsimp only; omega))
theorem ef_rm0 (m : MethodId) (x0 : Int32) (x1 : Int64) (x2 : Int64) (x3 : Int64) : entryFrame m #[(.int x0), (.long x1), (.long x2), (.long x3)] maxLocals = mkF m 0 #[.val (.int x0), .val (.long x1), .second, .val (.long x2), .second, .val (.long x3), .second, .unset, .unset] [] := by first | (simp [entryFrame, mkF, argsToLocals, Value.category, maxLocals]; done) | rfl
def Qrm0 (Z : State) (x0 : Int32) (x1 : Int64) (x2 : Int64) (x3 : Int64) (ca : Addr) (kc : ClassId) (fC : Nat → Value) (h0 : Heap) (n0 : Nat) (v_ : Option Value) (h_ : Heap) (L_ : List Loc) : Prop := v_ = some (.int (1 : Int32)) ∧ Fr n0 L_ ∧ Keep h0 h_ []
abbrev mN_EventQueue_init : MethodName := ⟨"nearhop/sim/EventQueue", "<init>", "()V"⟩
theorem pd_11 : parseMethodDescriptor "(Lnearhop/sim/EventQueue;IZJ)I" = some ⟨[(.object "nearhop/sim/EventQueue"), .int, .boolean, .long], some .int⟩ := by decide +kernel
abbrev mN_EventQueueIsEmptyPinLaw_step : MethodName := ⟨"nearhop/sim/EventQueueIsEmptyPinLaw", "step", "(Lnearhop/sim/EventQueue;IZJ)I"⟩
set_option maxRecDepth 65536 in
set_option maxHeartbeats 40000000 in
theorem rm0 (l : Launch) (Z : State) (a0 : Array Value) (hw : ∀ d ∈ tables_1, d.before a0 Z = true) (ws : List Jvm.Cond) (x0 : Int32) (x1 : Int64) (x2 : Int64) (x3 : Int64) (ca : Addr) (kc : ClassId) (fC : Nat → Value) (h0 : Heap) (n0 : Nat) (Z0 : n0 ≤ h0.size) (OH : Sta Z h0 "java/lang/Integer$IntegerCache" "high" "I" (.int (127 : Int32))) (OC : Sta Z h0 "java/lang/Integer$IntegerCache" "cache" "[Ljava/lang/Integer;" (.ref ca)) (OA : Arw Z h0 ca kc (.object "java/lang/Integer") 256 fC) (HCa : ∀ k, k ≤ 4 → ∃ io, fC (128 + k) = .ref io ∧ Exa Z h0 io "java/lang/Integer") (HN0 : h0.size ≤ n0) :
    MetFree l x (head1 (Jvm.Cond.code x code maxLocals ret :: ws) room_1) (fun as_ U_ => as_ = #[(.int x0), (.long x1), (.long x2), (.long x3)] ∧ Z.Warmed39 U_.vm ∧ U_.heap = h0) (fun _ _ _ _ _ => True) (fun _ U_ o_ V_ => ∃ v_ L_, o_ = .returned v_ ∧ Qrm0 Z x0 x1 x2 x3 ca kc fC h0 n0 v_ V_.heap L_ ∧ FrameEnd U_ o_ V_ L_ room_1.cells room_1.slots) := by
  refine MetFree.of_bodySF (plainFor_of_name pn_nearhop_sim_EventQueueIsEmptyPinLaw) hisR ?_
  intro p e s m args below meth c s₁ Bd hml0 hP hK
  obtain ⟨rfl, hZ, hh⟩ := hP
  have hx := Bd.exec
  have hby := Bd.bytes
  have hlk : meth.locks = false := BodyLoose.notSynchronized Bd
  have hret := Bd.returns
  have hml : c.maxLocals = 9 := hml0
  have hown : s.vm.findClass "nearhop/sim/EventQueueIsEmptyPinLaw" = some m.cls := findClass_of_methodNamed Bd.named
  have hnm := (name_of_methodNamed Bd.named Bd.method).1
  have X0 : Stand p l e room_1 s m #[(.int x0), (.long x1), (.long x2), (.long x3)] below meth c s₁ [] 0 0 := Stand.of_body Bd
  have e0 : s₁.heap = h0 := by rw [← hh, Bd.state]; rfl
  have N0 := Fr.nil n0
  show Goes p e below (Fin_ s (Qrm0 Z x0 x1 x2 x3 ca kc fC h0 n0) room_1.cells room_1.slots) (s₁.setTop (entryFrame m #[(.int x0), (.long x1), (.long x2), (.long x3)] maxLocals))
  rw [ef_rm0 m x0 x1 x2 x3]
  obtain ⟨T1, h1, X1, e1, E1, A1, D1, -, st1⟩ := newO X0 hx hZ hown (own_w hw 0 rfl) (own_w hw 1 rfl) (own_w hw 2 rfl) e0 (g := (mkF m 0 #[vi x0, .val (.long x1), .second, .val (.long x2), .second, .val (.long x3), .second, .unset, .unset] [])) rfl (hb hby at_0) (by first | decide | omega | (dsimp only; omega)) (by first | decide | omega | (dsimp only; omega))
  obtain ⟨b1, g1⟩ : ∃ z, z = (h0).size := ⟨_, rfl⟩
  rw [← g1] at A1 D1 st1
  have lne2 : ca < b1 := Nat.lt_of_lt_of_le OA.lt (Nat.le_of_eq g1.symm)
  have sz_b1 : h0.size ≤ b1 := Nat.le_trans (Nat.le_refl _) (Nat.le_of_eq g1.symm)
  have gn_b1 : n0 ≤ b1 := Nat.le_trans Z0 sz_b1
  have F_items_b1 : Fld Z h1 b1 "nearhop/sim/EventQueue" "items" "[Ljava/lang/Object;" .null := D1 (Or.inl (own_w hw 12 rfl)) (ty := (.array (.object "java/lang/Object"))) (by decide)
  have F_free_b1 : Fld Z h1 b1 "nearhop/sim/EventQueue" "free" "[I" .null := D1 (Or.inl (own_w hw 15 rfl)) (ty := (.array .int)) (by decide)
  have F_moments_b1 : Fld Z h1 b1 "nearhop/sim/EventQueue" "moments" "[[J" .null := D1 (Or.inr (own_w hw 20 rfl)) (ty := (.array (.array .long))) (by decide)
  have F_slots_b1 : Fld Z h1 b1 "nearhop/sim/EventQueue" "slots" "[[I" .null := D1 (Or.inr (own_w hw 24 rfl)) (ty := (.array (.array .int))) (by decide)
  have F_counts_b1 : Fld Z h1 b1 "nearhop/sim/EventQueue" "counts" "[I" .null := D1 (Or.inr (own_w hw 26 rfl)) (ty := (.array .int)) (by decide)
  have F_reference_b1 : Fld Z h1 b1 "nearhop/sim/EventQueue" "reference" "J" (.long (0 : Int64)) := D1 (Or.inl (own_w hw 29 rfl)) (ty := .long) (by decide)
  have F_soonestBucket_b1 : Fld Z h1 b1 "nearhop/sim/EventQueue" "soonestBucket" "I" (.int (0 : Int32)) := D1 (Or.inl (own_w hw 31 rfl)) (ty := .int) (by decide)
  have F_size_b1 : Fld Z h1 b1 "nearhop/sim/EventQueue" "size" "I" (.int (0 : Int32)) := D1 (Or.inl (own_w hw 38 rfl)) (ty := .int) (by decide)
  have F_freeSlots_b1 : Fld Z h1 b1 "nearhop/sim/EventQueue" "freeSlots" "I" (.int (0 : Int32)) := D1 (Or.inl (own_w hw 56 rfl)) (ty := .int) (by decide)
  have F_used_b1 : Fld Z h1 b1 "nearhop/sim/EventQueue" "used" "I" (.int (0 : Int32)) := D1 (Or.inl (own_w hw 58 rfl)) (ty := .int) (by decide)
  have F_first_b1 : Fld Z h1 b1 "nearhop/sim/EventQueue" "first" "I" (.int (0 : Int32)) := D1 (Or.inl (own_w hw 83 rfl)) (ty := .int) (by decide)
  have F_soonest_b1 : Fld Z h1 b1 "nearhop/sim/EventQueue" "soonest" "J" (.long (0 : Int64)) := D1 (Or.inl (own_w hw 89 rfl)) (ty := .long) (by decide)
  refine Goes.via st1 ?_
  show Goes p e below _ (T1.setTop (mkF m 3 #[vi x0, .val (.long x1), .second, .val (.long x2), .second, .val (.long x3), .second, .unset, .unset] [(.ref b1)]))
  refine gDU X1 hx hby at_3 rfl ?_
  have z4 : h0.size ≤ (h1).size := (Nat.le_trans (Nat.le_refl _) E1.1)
  obtain ⟨_, _, ⟨T3, L3, k3, n3⟩, -, X3, ⟨Lc3, hQ3, l3, y3, z3⟩, st3⟩ := X1.specialBack hx (y := mN_EventQueue_init) rfl hown (mvT hZ (own_w hw 3 rfl)) (mvT hZ (own_w hw 4 rfl)) (mvT hZ (own_w hw 5 rfl)) (by decide) (backOf (W := 1) (rmQ l Z a0 hw [] b1 h1 n0 (Nat.le_trans Z0 z4) A1 F_items_b1 F_free_b1 F_freeSlots_b1 F_used_b1 F_size_b1 F_moments_b1 F_slots_b1 F_counts_b1 F_first_b1 F_reference_b1 F_soonestBucket_b1 F_soonest_b1 gn_b1) hZ (own_w hw 5 rfl) (own_w hw 2 rfl) (by decide) (by decide)) (g := (mkF m 4 #[vi x0, .val (.long x1), .second, .val (.long x2), .second, .val (.long x3), .second, .unset, .unset] [(.ref b1), (.ref b1)])) rfl (by rw [hml]; rfl) (Steps.refl _) (a := b1) (argsL := []) (rest := [(.ref b1)]) (lenOf pd_6 rfl) rfl (by show 2 * 0 + _ ≤ _; exact Nat.le_of_eq rfl) (hb hby at_4) (fun _ _ => ⟨rfl, e1, (by decide : 1 + 135 ≤ _), (by decide : 12 + 8643 ≤ _)⟩)
  dsimp only [Pt.U, Pt.locs, Pt.cells, Pt.slots] at X3 l3 y3 z3 st3 hQ3
  replace l3 := l3.symm
  subst l3 y3 z3
  obtain ⟨it3, fr3, mo3, sl3, ct3, kI3, kF3, kM3, kN3, kS3, kU3, kC3, rfl, N3q, K3, u3_0, u3_1, u3_2, u3_3, u3_4, u3_5, u3_6, u3_7, u3_8, u3_9, u3_10, u3_11, u3_12, u3_13, u3_14, u3_15, u3_16, u3_17, u3_18, u3_19, u3_20, u3_21, u3_22, u3_23⟩ := hQ3
  have N3 := Fr.app N0 N3q
  refine Goes.tr st3 ?_
  show Goes p e below _ (T3.setTop (mkF m 7 #[vi x0, .val (.long x1), .second, .val (.long x2), .second, .val (.long x3), .second, .unset, .unset] [(.ref b1)]))
  refine Goes.via (fun _ kk_ => XS.astore X3.here hx rfl (hb hby at_7) rfl rfl (l' := #[vi x0, .val (.long x1), .second, .val (.long x2), .second, .val (.long x3), .second, vr b1, .unset]) rfl kk_) ?_
  show Goes p e below _ (T3.setTop (mkF m 9 #[vi x0, .val (.long x1), .second, .val (.long x2), .second, .val (.long x3), .second, vr b1, .unset] []))
  refine gAL X3 hx hby at_9 rfl rfl ?_
  have z9 : h0.size ≤ (T3.heap).size := (Nat.le_trans z4 K3.1)
  obtain ⟨cq8, kq8, q8a, q8b, q8c⟩ := isOf hZ rfl u3_0
  obtain ⟨_, _, ⟨T8, L8, k8, n8⟩, -, X8, ⟨Lc8, hQ8, l8, y8, z8⟩, st8⟩ := X3.virtualBack hx (y := mN_EventQueue_isEmpty) (z := mN_EventQueue_isEmpty) hown (mvT hZ (own_w hw 32 rfl)) (mvT hZ (own_w hw 33 rfl)) (notFace_of_selects (args := #[]) (mvT hZ (own_w hw 35 rfl))) (mvT hZ (own_w hw 35 rfl)) (mvT hZ (own_w hw 34 rfl)) (by decide) (backOf (W := 0) (rmEm l Z a0 hw [] b1 (0 : Int32) T3.heap n0 (Nat.le_trans Z0 z9) u3_5) hZ (own_w hw 36 rfl) (own_w hw 2 rfl) (by decide) (by decide)) q8a q8c (g := (mkF m 11 #[vi x0, .val (.long x1), .second, .val (.long x2), .second, .val (.long x3), .second, vr b1, .unset] [(.ref b1)])) rfl (by rw [hml]; rfl) (Steps.refl _) (argsL := []) (rest := []) (lenOf pd_5 rfl) rfl (by show 2 * 0 + _ ≤ _; exact Nat.le_of_eq rfl) (hb hby at_11) (fun _ _ => ⟨rfl, rfl, (by decide : 136 + 0 ≤ _), (by decide : 8655 + 0 ≤ _)⟩)
  dsimp only [Pt.U, Pt.locs, Pt.cells, Pt.slots] at X8 l8 y8 z8 st8 hQ8
  replace l8 := l8.symm
  subst l8 y8 z8
  obtain ⟨rfl, rfl, e8⟩ := hQ8
  first | rw [List.append_nil] at X8 | skip
  refine Goes.tr st8 ?_
  have e8' : T8.heap = T3.heap := e8
  show Goes p e below _ (T8.setTop (mkF m 14 #[vi x0, .val (.long x1), .second, .val (.long x2), .second, .val (.long x3), .second, vr b1, .unset] [(.int (if (0 : Int32) = (0 : Int32) then (1 : Int32) else (0 : Int32)))]))
  have hc14_10 : ¬ ((if (0 : Int32) = (0 : Int32) then (1 : Int32) else (0 : Int32)) = (0 : Int32)) := (by decide)
  refine Goes.via (fun _ kk_ => XS.ifYes X8.here hx rfl (pc0 := 14) (pc' := 19) rfl (hb hby at_14) rfl ((if0 _ _).trans (feq hc14_10).2) (by decide) (by decide) kk_) ?_
  show Goes p e below _ (T8.setTop (mkF m 19 #[vi x0, .val (.long x1), .second, .val (.long x2), .second, .val (.long x3), .second, vr b1, .unset] []))
  refine gIC (z := 0) X8 hx hby at_19 rfl ?_
  refine Goes.via (fun _ kk_ => XS.istore X8.here hx rfl (hb hby at_20) rfl (l' := #[vi x0, .val (.long x1), .second, .val (.long x2), .second, .val (.long x3), .second, vr b1, vi (0 : Int32)]) rfl kk_) ?_
  show Goes p e below _ (T8.setTop (mkF m 22 #[vi x0, .val (.long x1), .second, .val (.long x2), .second, .val (.long x3), .second, vr b1, vi (0 : Int32)] []))
  refine gAL X8 hx hby at_22 rfl rfl ?_
  refine gIL X8 hx hby at_24 rfl ?_
  refine gILN X8 hx hby at_26 rfl ?_
  refine gIC (z := 1) X8 hx hby at_27 rfl ?_
  refine Goes.via (fun _ kk_ => XS.iand X8.here hx rfl (hb hby at_28) rfl kk_) ?_
  show Goes p e below _ (T8.setTop (mkF m 29 #[vi x0, .val (.long x1), .second, .val (.long x2), .second, .val (.long x3), .second, vr b1, vi (0 : Int32)] [(.int (x0 &&& (1 : Int32))), (.int (0 : Int32)), (.ref b1)]))
  obtain ⟨jj11, hv_jj11⟩ : ∃ z : Int32, z = (if (x0 &&& (1 : Int32)) = (0 : Int32) then (0 : Int32) else (1 : Int32)) := ⟨_, rfl⟩
  suffices J : Goes p e below (Fin_ s (Qrm0 Z x0 x1 x2 x3 ca kc fC h0 n0) room_1.cells room_1.slots) (T8.setTop (mkF m 37 #[vi x0, .val (.long x1), .second, .val (.long x2), .second, .val (.long x3), .second, vr b1, vi (0 : Int32)] [(.int jj11), (.int (0 : Int32)), (.ref b1)])) by
    by_cases hc29 : (x0 &&& (1 : Int32)) = (0 : Int32)
    · skip
      rw [show jj11 = (0 : Int32) from hv_jj11.trans (if_pos hc29)] at J
      refine Goes.via (fun _ kk_ => XS.ifYes X8.here hx rfl (pc0 := 29) (pc' := 36) rfl (hb hby at_29) rfl ((if0 _ _).trans (teq hc29).1) (by decide) (by decide) kk_) ?_
      show Goes p e below _ (T8.setTop (mkF m 36 #[vi x0, .val (.long x1), .second, .val (.long x2), .second, .val (.long x3), .second, vr b1, vi (0 : Int32)] [(.int (0 : Int32)), (.ref b1)]))
      refine gIC (z := 0) X8 hx hby at_36 rfl ?_
      show Goes p e below _ (T8.setTop (mkF m 37 #[vi x0, .val (.long x1), .second, .val (.long x2), .second, .val (.long x3), .second, vr b1, vi (0 : Int32)] [(.int (0 : Int32)), (.int (0 : Int32)), (.ref b1)]))
      exact J
    · skip
      rw [show jj11 = (1 : Int32) from hv_jj11.trans (if_neg hc29)] at J
      refine Goes.via (fun _ kk_ => XS.ifNo X8.here hx rfl (hb hby at_29) rfl ((if0 _ _).trans (feq hc29).1) kk_) ?_
      show Goes p e below _ (T8.setTop (mkF m 32 #[vi x0, .val (.long x1), .second, .val (.long x2), .second, .val (.long x3), .second, vr b1, vi (0 : Int32)] [(.int (0 : Int32)), (.ref b1)]))
      refine gIC (z := 1) X8 hx hby at_32 rfl ?_
      refine Goes.via (fun _ kk_ => XS.goto X8.here hx rfl (pc0 := 33) (pc' := 37) rfl (hb hby at_33) (by decide) (by decide) kk_) ?_
      show Goes p e below _ (T8.setTop (mkF m 37 #[vi x0, .val (.long x1), .second, .val (.long x2), .second, .val (.long x3), .second, vr b1, vi (0 : Int32)] [(.int (1 : Int32)), (.int (0 : Int32)), (.ref b1)]))
      exact J
  subst hv_jj11
  show Goes p e below _ (T8.setTop (mkF m 37 #[vi x0, .val (.long x1), .second, .val (.long x2), .second, .val (.long x3), .second, vr b1, vi (0 : Int32)] [(.int (if (x0 &&& (1 : Int32)) = (0 : Int32) then (0 : Int32) else (1 : Int32))), (.int (0 : Int32)), (.ref b1)]))
  refine Goes.via (fun _ kk_ => XS.lloadN X8.here hx rfl (hb hby at_37) rfl  kk_) ?_
  show Goes p e below _ (T8.setTop (mkF m 38 #[vi x0, .val (.long x1), .second, .val (.long x2), .second, .val (.long x3), .second, vr b1, vi (0 : Int32)] [(.long x1), (.int (if (x0 &&& (1 : Int32)) = (0 : Int32) then (0 : Int32) else (1 : Int32))), (.int (0 : Int32)), (.ref b1)]))
  have K12 : Keep h0 T3.heap [] := (((Keep.refl h0 []).ext E1).trans K3 (allS (Or.inr sz_b1) all0))
  have f13 : Sta Z T3.heap "java/lang/Integer$IntegerCache" "high" "I" (.int (127 : Int32)) := own_sta_keep OH K12
  have f14 : Sta Z T3.heap "java/lang/Integer$IntegerCache" "cache" "[Ljava/lang/Integer;" (.ref ca) := own_sta_keep OC K12
  have f15 : Arw Z T3.heap ca kc (.object "java/lang/Integer") 256 fC := OA.keep K12 nin0
  obtain ⟨_, _, ⟨T16, L16, k16, n16⟩, -, X16, ⟨Lc16, hQ16, l16, y16, z16⟩, st16⟩ := Jvm.LawKit.callS X8 hx (y := mN_EventQueueIsEmptyPinLaw_step) hown (mvT hZ (own_w hw 39 rfl)) (mvT hZ (own_w hw 40 rfl)) (mvT hZ (own_w hw 41 rfl)) (mvT hZ (own_w hw 42 rfl)) (by decide) (backOf (W := 0) (rmSt l Z a0 hw [] b1 (0 : Int32) (if (x0 &&& (1 : Int32)) = (0 : Int32) then (0 : Int32) else (1 : Int32)) x1 it3 fr3 mo3 sl3 ct3 kI3 kF3 kM3 kN3 kS3 kU3 kC3 (0 : Int32) (0 : Int32) (0 : Int32) (-9223372036854775808 : Int64) (0 : Int64) (fun _ => .null) (fun _ => (0 : Int32)) (fun _ _ => (0 : Int64)) (fun _ _ => (0 : Int32)) (fun _ => 0) 0 ca kc fC T3.heap n0 (Nat.le_trans Z0 z9) u3_0 u3_1 u3_2 u3_3 u3_4 u3_5 u3_6 u3_7 u3_8 u3_9 u3_10 u3_11 u3_12 u3_13 u3_14 u3_15 u3_16 u3_17 gn_b1 (by first | assumption | rfl | decide | omega | (simp; done)) (by first | assumption | rfl | decide | omega | (simp; done)) (by first | assumption | rfl | decide | omega | (simp; done)) (by first | assumption | rfl | decide | omega | (simp; done)) (by first | assumption | rfl | decide | omega | (simp; done)) u3_23 own_I0 (by first | assumption | rfl | decide | omega | (simp; done)) f13 f14 f15 (fun k hk => by obtain ⟨io, h1, h2⟩ := HCa k hk; exact ⟨io, h1, h2.keep K12⟩)) hZ (own_w hw 42 rfl) (own_w hw 41 rfl) (by decide) (by decide)) (g := (mkF m 38 #[vi x0, .val (.long x1), .second, .val (.long x2), .second, .val (.long x3), .second, vr b1, vi (0 : Int32)] [(.long x1), (.int (if (x0 &&& (1 : Int32)) = (0 : Int32) then (0 : Int32) else (1 : Int32))), (.int (0 : Int32)), (.ref b1)])) rfl (by rw [hml]; rfl) (argsL := [(.ref b1), (.int (0 : Int32)), (.int (if (x0 &&& (1 : Int32)) = (0 : Int32) then (0 : Int32) else (1 : Int32))), (.long x1)]) (rest := []) (lenOf pd_11 rfl) rfl (by show 2 * 0 + _ ≤ _; exact Nat.le_of_eq rfl) (hb hby at_38) (fun _ _ => ⟨rfl, e8', (by decide : 136 + 2 ≤ _), (by decide : 8655 + 10 ≤ _)⟩)
  dsimp only [Pt.U, Pt.locs, Pt.cells, Pt.slots] at X16 l16 y16 z16 st16 hQ16
  replace l16 := l16.symm
  subst l16 y16 z16
  obtain ⟨r_16, fs'16, us'16, fi'16, rf'16, so'16, fI'16, fF'16, gM'16, gS'16, cn'16, rfl, N16q, K16, u16_0, u16_1, u16_2, u16_3, u16_4, u16_5, u16_6, u16_7, u16_8, u16_9, u16_10, u16_11, u16_12, u16_13, u16_14, u16_15, u16_16, u16_17, u16_18⟩ := hQ16
  have N16 := Fr.app N3 N16q
  refine Goes.via st16 ?_
  show Goes p e below _ (T16.setTop (mkF m 41 #[vi x0, .val (.long x1), .second, .val (.long x2), .second, .val (.long x3), .second, vr b1, vi (0 : Int32)] [(.int r_16)]))
  refine Goes.via (fun _ kk_ => XS.istore X16.here hx rfl (hb hby at_41) rfl (l' := #[vi x0, .val (.long x1), .second, .val (.long x2), .second, .val (.long x3), .second, vr b1, vi r_16]) rfl kk_) ?_
  show Goes p e below _ (T16.setTop (mkF m 43 #[vi x0, .val (.long x1), .second, .val (.long x2), .second, .val (.long x3), .second, vr b1, vi r_16] []))
  refine gAL X16 hx hby at_43 rfl rfl ?_
  refine gIL X16 hx hby at_45 rfl ?_
  refine gILN X16 hx hby at_47 rfl ?_
  refine gIC (z := 2) X16 hx hby at_48 rfl ?_
  refine Goes.via (fun _ kk_ => XS.iand X16.here hx rfl (hb hby at_49) rfl kk_) ?_
  show Goes p e below _ (T16.setTop (mkF m 50 #[vi x0, .val (.long x1), .second, .val (.long x2), .second, .val (.long x3), .second, vr b1, vi r_16] [(.int (x0 &&& (2 : Int32))), (.int r_16), (.ref b1)]))
  obtain ⟨jj17, hv_jj17⟩ : ∃ z : Int32, z = (if (x0 &&& (2 : Int32)) = (0 : Int32) then (0 : Int32) else (1 : Int32)) := ⟨_, rfl⟩
  suffices J : Goes p e below (Fin_ s (Qrm0 Z x0 x1 x2 x3 ca kc fC h0 n0) room_1.cells room_1.slots) (T16.setTop (mkF m 58 #[vi x0, .val (.long x1), .second, .val (.long x2), .second, .val (.long x3), .second, vr b1, vi r_16] [(.int jj17), (.int r_16), (.ref b1)])) by
    by_cases hc50 : (x0 &&& (2 : Int32)) = (0 : Int32)
    · skip
      rw [show jj17 = (0 : Int32) from hv_jj17.trans (if_pos hc50)] at J
      refine Goes.via (fun _ kk_ => XS.ifYes X16.here hx rfl (pc0 := 50) (pc' := 57) rfl (hb hby at_50) rfl ((if0 _ _).trans (teq hc50).1) (by decide) (by decide) kk_) ?_
      show Goes p e below _ (T16.setTop (mkF m 57 #[vi x0, .val (.long x1), .second, .val (.long x2), .second, .val (.long x3), .second, vr b1, vi r_16] [(.int r_16), (.ref b1)]))
      refine gIC (z := 0) X16 hx hby at_57 rfl ?_
      show Goes p e below _ (T16.setTop (mkF m 58 #[vi x0, .val (.long x1), .second, .val (.long x2), .second, .val (.long x3), .second, vr b1, vi r_16] [(.int (0 : Int32)), (.int r_16), (.ref b1)]))
      exact J
    · skip
      rw [show jj17 = (1 : Int32) from hv_jj17.trans (if_neg hc50)] at J
      refine Goes.via (fun _ kk_ => XS.ifNo X16.here hx rfl (hb hby at_50) rfl ((if0 _ _).trans (feq hc50).1) kk_) ?_
      show Goes p e below _ (T16.setTop (mkF m 53 #[vi x0, .val (.long x1), .second, .val (.long x2), .second, .val (.long x3), .second, vr b1, vi r_16] [(.int r_16), (.ref b1)]))
      refine gIC (z := 1) X16 hx hby at_53 rfl ?_
      refine Goes.via (fun _ kk_ => XS.goto X16.here hx rfl (pc0 := 54) (pc' := 58) rfl (hb hby at_54) (by decide) (by decide) kk_) ?_
      show Goes p e below _ (T16.setTop (mkF m 58 #[vi x0, .val (.long x1), .second, .val (.long x2), .second, .val (.long x3), .second, vr b1, vi r_16] [(.int (1 : Int32)), (.int r_16), (.ref b1)]))
      exact J
  subst hv_jj17
  show Goes p e below _ (T16.setTop (mkF m 58 #[vi x0, .val (.long x1), .second, .val (.long x2), .second, .val (.long x3), .second, vr b1, vi r_16] [(.int (if (x0 &&& (2 : Int32)) = (0 : Int32) then (0 : Int32) else (1 : Int32))), (.int r_16), (.ref b1)]))
  refine Goes.via (fun _ kk_ => XS.lloadN X16.here hx rfl (hb hby at_58) rfl  kk_) ?_
  show Goes p e below _ (T16.setTop (mkF m 59 #[vi x0, .val (.long x1), .second, .val (.long x2), .second, .val (.long x3), .second, vr b1, vi r_16] [(.long x2), (.int (if (x0 &&& (2 : Int32)) = (0 : Int32) then (0 : Int32) else (1 : Int32))), (.int r_16), (.ref b1)]))
  have K18 : Keep h0 T16.heap [] := (own_kN K12 K16 HN0)
  have f19 : Sta Z T16.heap "java/lang/Integer$IntegerCache" "high" "I" (.int (127 : Int32)) := own_sta_keep OH K18
  have f20 : Sta Z T16.heap "java/lang/Integer$IntegerCache" "cache" "[Ljava/lang/Integer;" (.ref ca) := own_sta_keep OC K18
  have f21 : Arw Z T16.heap ca kc (.object "java/lang/Integer") 256 fC := OA.keep K18 nin0
  have z23 : h0.size ≤ (T16.heap).size := (Nat.le_trans z9 (KpN.size K16))
  obtain ⟨_, _, ⟨T22, L22, k22, n22⟩, -, X22, ⟨Lc22, hQ22, l22, y22, z22⟩, st22⟩ := Jvm.LawKit.callS X16 hx (y := mN_EventQueueIsEmptyPinLaw_step) hown (mvT hZ (own_w hw 39 rfl)) (mvT hZ (own_w hw 40 rfl)) (mvT hZ (own_w hw 41 rfl)) (mvT hZ (own_w hw 42 rfl)) (by decide) (backOf (W := 0) (rmSt l Z a0 hw [] b1 r_16 (if (x0 &&& (2 : Int32)) = (0 : Int32) then (0 : Int32) else (1 : Int32)) x2 it3 fr3 mo3 sl3 ct3 kI3 kF3 kM3 kN3 kS3 kU3 kC3 fs'16 us'16 fi'16 rf'16 so'16 fI'16 fF'16 gM'16 gS'16 cn'16 (0 + 1) ca kc fC T16.heap n0 (Nat.le_trans Z0 z23) u16_0 u16_1 u16_2 u16_3 u16_4 u16_5 u16_6 u16_7 u16_8 u16_9 u16_10 u16_11 u16_12 u16_13 u16_14 u16_15 u16_16 u16_17 gn_b1 (by first | assumption | rfl | decide | omega | (simp; done)) (by first | assumption | rfl | decide | omega | (simp; done)) (by first | assumption | rfl | decide | omega | (simp; done)) (by first | assumption | rfl | decide | omega | (simp; done)) (by first | assumption | rfl | decide | omega | (simp; done)) u3_23 u16_18 (by first | assumption | rfl | decide | omega | (simp; done)) f19 f20 f21 (fun k hk => by obtain ⟨io, h1, h2⟩ := HCa k hk; exact ⟨io, h1, h2.keep K18⟩)) hZ (own_w hw 42 rfl) (own_w hw 41 rfl) (by decide) (by decide)) (g := (mkF m 59 #[vi x0, .val (.long x1), .second, .val (.long x2), .second, .val (.long x3), .second, vr b1, vi r_16] [(.long x2), (.int (if (x0 &&& (2 : Int32)) = (0 : Int32) then (0 : Int32) else (1 : Int32))), (.int r_16), (.ref b1)])) rfl (by rw [hml]; rfl) (argsL := [(.ref b1), (.int r_16), (.int (if (x0 &&& (2 : Int32)) = (0 : Int32) then (0 : Int32) else (1 : Int32))), (.long x2)]) (rest := []) (lenOf pd_11 rfl) rfl (by show 2 * 0 + _ ≤ _; exact Nat.le_of_eq rfl) (hb hby at_59) (fun _ _ => ⟨rfl, rfl, (by decide : 138 + 2 ≤ _), (by decide : 8665 + 10 ≤ _)⟩)
  dsimp only [Pt.U, Pt.locs, Pt.cells, Pt.slots] at X22 l22 y22 z22 st22 hQ22
  replace l22 := l22.symm
  subst l22 y22 z22
  obtain ⟨r_22, fs'22, us'22, fi'22, rf'22, so'22, fI'22, fF'22, gM'22, gS'22, cn'22, rfl, N22q, K22, u22_0, u22_1, u22_2, u22_3, u22_4, u22_5, u22_6, u22_7, u22_8, u22_9, u22_10, u22_11, u22_12, u22_13, u22_14, u22_15, u22_16, u22_17, u22_18⟩ := hQ22
  have N22 := Fr.app N16 N22q
  refine Goes.via st22 ?_
  show Goes p e below _ (T22.setTop (mkF m 62 #[vi x0, .val (.long x1), .second, .val (.long x2), .second, .val (.long x3), .second, vr b1, vi r_16] [(.int r_22)]))
  refine Goes.via (fun _ kk_ => XS.istore X22.here hx rfl (hb hby at_62) rfl (l' := #[vi x0, .val (.long x1), .second, .val (.long x2), .second, .val (.long x3), .second, vr b1, vi r_22]) rfl kk_) ?_
  show Goes p e below _ (T22.setTop (mkF m 64 #[vi x0, .val (.long x1), .second, .val (.long x2), .second, .val (.long x3), .second, vr b1, vi r_22] []))
  refine gAL X22 hx hby at_64 rfl rfl ?_
  refine gIL X22 hx hby at_66 rfl ?_
  refine gILN X22 hx hby at_68 rfl ?_
  refine gIC (z := 4) X22 hx hby at_69 rfl ?_
  refine Goes.via (fun _ kk_ => XS.iand X22.here hx rfl (hb hby at_70) rfl kk_) ?_
  show Goes p e below _ (T22.setTop (mkF m 71 #[vi x0, .val (.long x1), .second, .val (.long x2), .second, .val (.long x3), .second, vr b1, vi r_22] [(.int (x0 &&& (4 : Int32))), (.int r_22), (.ref b1)]))
  obtain ⟨jj24, hv_jj24⟩ : ∃ z : Int32, z = (if (x0 &&& (4 : Int32)) = (0 : Int32) then (0 : Int32) else (1 : Int32)) := ⟨_, rfl⟩
  suffices J : Goes p e below (Fin_ s (Qrm0 Z x0 x1 x2 x3 ca kc fC h0 n0) room_1.cells room_1.slots) (T22.setTop (mkF m 79 #[vi x0, .val (.long x1), .second, .val (.long x2), .second, .val (.long x3), .second, vr b1, vi r_22] [(.int jj24), (.int r_22), (.ref b1)])) by
    by_cases hc71 : (x0 &&& (4 : Int32)) = (0 : Int32)
    · skip
      rw [show jj24 = (0 : Int32) from hv_jj24.trans (if_pos hc71)] at J
      refine Goes.via (fun _ kk_ => XS.ifYes X22.here hx rfl (pc0 := 71) (pc' := 78) rfl (hb hby at_71) rfl ((if0 _ _).trans (teq hc71).1) (by decide) (by decide) kk_) ?_
      show Goes p e below _ (T22.setTop (mkF m 78 #[vi x0, .val (.long x1), .second, .val (.long x2), .second, .val (.long x3), .second, vr b1, vi r_22] [(.int r_22), (.ref b1)]))
      refine gIC (z := 0) X22 hx hby at_78 rfl ?_
      show Goes p e below _ (T22.setTop (mkF m 79 #[vi x0, .val (.long x1), .second, .val (.long x2), .second, .val (.long x3), .second, vr b1, vi r_22] [(.int (0 : Int32)), (.int r_22), (.ref b1)]))
      exact J
    · skip
      rw [show jj24 = (1 : Int32) from hv_jj24.trans (if_neg hc71)] at J
      refine Goes.via (fun _ kk_ => XS.ifNo X22.here hx rfl (hb hby at_71) rfl ((if0 _ _).trans (feq hc71).1) kk_) ?_
      show Goes p e below _ (T22.setTop (mkF m 74 #[vi x0, .val (.long x1), .second, .val (.long x2), .second, .val (.long x3), .second, vr b1, vi r_22] [(.int r_22), (.ref b1)]))
      refine gIC (z := 1) X22 hx hby at_74 rfl ?_
      refine Goes.via (fun _ kk_ => XS.goto X22.here hx rfl (pc0 := 75) (pc' := 79) rfl (hb hby at_75) (by decide) (by decide) kk_) ?_
      show Goes p e below _ (T22.setTop (mkF m 79 #[vi x0, .val (.long x1), .second, .val (.long x2), .second, .val (.long x3), .second, vr b1, vi r_22] [(.int (1 : Int32)), (.int r_22), (.ref b1)]))
      exact J
  subst hv_jj24
  show Goes p e below _ (T22.setTop (mkF m 79 #[vi x0, .val (.long x1), .second, .val (.long x2), .second, .val (.long x3), .second, vr b1, vi r_22] [(.int (if (x0 &&& (4 : Int32)) = (0 : Int32) then (0 : Int32) else (1 : Int32))), (.int r_22), (.ref b1)]))
  refine Goes.via (fun _ kk_ => XS.lload X22.here hx rfl (hb hby at_79) rfl  kk_) ?_
  show Goes p e below _ (T22.setTop (mkF m 81 #[vi x0, .val (.long x1), .second, .val (.long x2), .second, .val (.long x3), .second, vr b1, vi r_22] [(.long x3), (.int (if (x0 &&& (4 : Int32)) = (0 : Int32) then (0 : Int32) else (1 : Int32))), (.int r_22), (.ref b1)]))
  have K25 : Keep h0 T22.heap [] := (own_kN K18 K22 HN0)
  have f26 : Sta Z T22.heap "java/lang/Integer$IntegerCache" "high" "I" (.int (127 : Int32)) := own_sta_keep OH K25
  have f27 : Sta Z T22.heap "java/lang/Integer$IntegerCache" "cache" "[Ljava/lang/Integer;" (.ref ca) := own_sta_keep OC K25
  have f28 : Arw Z T22.heap ca kc (.object "java/lang/Integer") 256 fC := OA.keep K25 nin0
  have z30 : h0.size ≤ (T22.heap).size := (Nat.le_trans z23 (KpN.size K22))
  obtain ⟨_, _, ⟨T29, L29, k29, n29⟩, -, X29, ⟨Lc29, hQ29, l29, y29, z29⟩, st29⟩ := Jvm.LawKit.callS X22 hx (y := mN_EventQueueIsEmptyPinLaw_step) hown (mvT hZ (own_w hw 39 rfl)) (mvT hZ (own_w hw 40 rfl)) (mvT hZ (own_w hw 41 rfl)) (mvT hZ (own_w hw 42 rfl)) (by decide) (backOf (W := 0) (rmSt l Z a0 hw [] b1 r_22 (if (x0 &&& (4 : Int32)) = (0 : Int32) then (0 : Int32) else (1 : Int32)) x3 it3 fr3 mo3 sl3 ct3 kI3 kF3 kM3 kN3 kS3 kU3 kC3 fs'22 us'22 fi'22 rf'22 so'22 fI'22 fF'22 gM'22 gS'22 cn'22 (0 + 1 + 1) ca kc fC T22.heap n0 (Nat.le_trans Z0 z30) u22_0 u22_1 u22_2 u22_3 u22_4 u22_5 u22_6 u22_7 u22_8 u22_9 u22_10 u22_11 u22_12 u22_13 u22_14 u22_15 u22_16 u22_17 gn_b1 (by first | assumption | rfl | decide | omega | (simp; done)) (by first | assumption | rfl | decide | omega | (simp; done)) (by first | assumption | rfl | decide | omega | (simp; done)) (by first | assumption | rfl | decide | omega | (simp; done)) (by first | assumption | rfl | decide | omega | (simp; done)) u3_23 u22_18 (by first | assumption | rfl | decide | omega | (simp; done)) f26 f27 f28 (fun k hk => by obtain ⟨io, h1, h2⟩ := HCa k hk; exact ⟨io, h1, h2.keep K25⟩)) hZ (own_w hw 42 rfl) (own_w hw 41 rfl) (by decide) (by decide)) (g := (mkF m 81 #[vi x0, .val (.long x1), .second, .val (.long x2), .second, .val (.long x3), .second, vr b1, vi r_22] [(.long x3), (.int (if (x0 &&& (4 : Int32)) = (0 : Int32) then (0 : Int32) else (1 : Int32))), (.int r_22), (.ref b1)])) rfl (by rw [hml]; rfl) (argsL := [(.ref b1), (.int r_22), (.int (if (x0 &&& (4 : Int32)) = (0 : Int32) then (0 : Int32) else (1 : Int32))), (.long x3)]) (rest := []) (lenOf pd_11 rfl) rfl (by show 2 * 0 + _ ≤ _; exact Nat.le_of_eq rfl) (hb hby at_81) (fun _ _ => ⟨rfl, rfl, (by decide : 140 + 2 ≤ _), (by decide : 8675 + 10 ≤ _)⟩)
  dsimp only [Pt.U, Pt.locs, Pt.cells, Pt.slots] at X29 l29 y29 z29 st29 hQ29
  replace l29 := l29.symm
  subst l29 y29 z29
  obtain ⟨r_29, fs'29, us'29, fi'29, rf'29, so'29, fI'29, fF'29, gM'29, gS'29, cn'29, rfl, N29q, K29, u29_0, u29_1, u29_2, u29_3, u29_4, u29_5, u29_6, u29_7, u29_8, u29_9, u29_10, u29_11, u29_12, u29_13, u29_14, u29_15, u29_16, u29_17, u29_18⟩ := hQ29
  have N29 := Fr.app N22 N29q
  refine Goes.via st29 ?_
  show Goes p e below _ (T29.setTop (mkF m 84 #[vi x0, .val (.long x1), .second, .val (.long x2), .second, .val (.long x3), .second, vr b1, vi r_22] [(.int r_29)]))
  refine Goes.via (fun _ kk_ => XS.istore X29.here hx rfl (hb hby at_84) rfl (l' := #[vi x0, .val (.long x1), .second, .val (.long x2), .second, .val (.long x3), .second, vr b1, vi r_29]) rfl kk_) ?_
  show Goes p e below _ (T29.setTop (mkF m 86 #[vi x0, .val (.long x1), .second, .val (.long x2), .second, .val (.long x3), .second, vr b1, vi r_29] []))
  refine gAL X29 hx hby at_86 rfl rfl ?_
  refine gIL X29 hx hby at_88 rfl ?_
  refine gILN X29 hx hby at_90 rfl ?_
  refine gBI (z := 8) X29 hx hby at_91 rfl ?_
  refine Goes.via (fun _ kk_ => XS.iand X29.here hx rfl (hb hby at_93) rfl kk_) ?_
  show Goes p e below _ (T29.setTop (mkF m 94 #[vi x0, .val (.long x1), .second, .val (.long x2), .second, .val (.long x3), .second, vr b1, vi r_29] [(.int (x0 &&& (8 : Int32))), (.int r_29), (.ref b1)]))
  obtain ⟨jj31, hv_jj31⟩ : ∃ z : Int32, z = (if (x0 &&& (8 : Int32)) = (0 : Int32) then (0 : Int32) else (1 : Int32)) := ⟨_, rfl⟩
  suffices J : Goes p e below (Fin_ s (Qrm0 Z x0 x1 x2 x3 ca kc fC h0 n0) room_1.cells room_1.slots) (T29.setTop (mkF m 102 #[vi x0, .val (.long x1), .second, .val (.long x2), .second, .val (.long x3), .second, vr b1, vi r_29] [(.int jj31), (.int r_29), (.ref b1)])) by
    by_cases hc94 : (x0 &&& (8 : Int32)) = (0 : Int32)
    · skip
      rw [show jj31 = (0 : Int32) from hv_jj31.trans (if_pos hc94)] at J
      refine Goes.via (fun _ kk_ => XS.ifYes X29.here hx rfl (pc0 := 94) (pc' := 101) rfl (hb hby at_94) rfl ((if0 _ _).trans (teq hc94).1) (by decide) (by decide) kk_) ?_
      show Goes p e below _ (T29.setTop (mkF m 101 #[vi x0, .val (.long x1), .second, .val (.long x2), .second, .val (.long x3), .second, vr b1, vi r_29] [(.int r_29), (.ref b1)]))
      refine gIC (z := 0) X29 hx hby at_101 rfl ?_
      show Goes p e below _ (T29.setTop (mkF m 102 #[vi x0, .val (.long x1), .second, .val (.long x2), .second, .val (.long x3), .second, vr b1, vi r_29] [(.int (0 : Int32)), (.int r_29), (.ref b1)]))
      exact J
    · skip
      rw [show jj31 = (1 : Int32) from hv_jj31.trans (if_neg hc94)] at J
      refine Goes.via (fun _ kk_ => XS.ifNo X29.here hx rfl (hb hby at_94) rfl ((if0 _ _).trans (feq hc94).1) kk_) ?_
      show Goes p e below _ (T29.setTop (mkF m 97 #[vi x0, .val (.long x1), .second, .val (.long x2), .second, .val (.long x3), .second, vr b1, vi r_29] [(.int r_29), (.ref b1)]))
      refine gIC (z := 1) X29 hx hby at_97 rfl ?_
      refine Goes.via (fun _ kk_ => XS.goto X29.here hx rfl (pc0 := 98) (pc' := 102) rfl (hb hby at_98) (by decide) (by decide) kk_) ?_
      show Goes p e below _ (T29.setTop (mkF m 102 #[vi x0, .val (.long x1), .second, .val (.long x2), .second, .val (.long x3), .second, vr b1, vi r_29] [(.int (1 : Int32)), (.int r_29), (.ref b1)]))
      exact J
  subst hv_jj31
  show Goes p e below _ (T29.setTop (mkF m 102 #[vi x0, .val (.long x1), .second, .val (.long x2), .second, .val (.long x3), .second, vr b1, vi r_29] [(.int (if (x0 &&& (8 : Int32)) = (0 : Int32) then (0 : Int32) else (1 : Int32))), (.int r_29), (.ref b1)]))
  refine Goes.via (fun _ kk_ => XS.lloadN X29.here hx rfl (hb hby at_102) rfl  kk_) ?_
  show Goes p e below _ (T29.setTop (mkF m 103 #[vi x0, .val (.long x1), .second, .val (.long x2), .second, .val (.long x3), .second, vr b1, vi r_29] [(.long x1), (.int (if (x0 &&& (8 : Int32)) = (0 : Int32) then (0 : Int32) else (1 : Int32))), (.int r_29), (.ref b1)]))
  have K32 : Keep h0 T29.heap [] := (own_kN K25 K29 HN0)
  have f33 : Sta Z T29.heap "java/lang/Integer$IntegerCache" "high" "I" (.int (127 : Int32)) := own_sta_keep OH K32
  have f34 : Sta Z T29.heap "java/lang/Integer$IntegerCache" "cache" "[Ljava/lang/Integer;" (.ref ca) := own_sta_keep OC K32
  have f35 : Arw Z T29.heap ca kc (.object "java/lang/Integer") 256 fC := OA.keep K32 nin0
  have z37 : h0.size ≤ (T29.heap).size := (Nat.le_trans z30 (KpN.size K29))
  obtain ⟨_, _, ⟨T36, L36, k36, n36⟩, -, X36, ⟨Lc36, hQ36, l36, y36, z36⟩, st36⟩ := Jvm.LawKit.callS X29 hx (y := mN_EventQueueIsEmptyPinLaw_step) hown (mvT hZ (own_w hw 39 rfl)) (mvT hZ (own_w hw 40 rfl)) (mvT hZ (own_w hw 41 rfl)) (mvT hZ (own_w hw 42 rfl)) (by decide) (backOf (W := 0) (rmSt l Z a0 hw [] b1 r_29 (if (x0 &&& (8 : Int32)) = (0 : Int32) then (0 : Int32) else (1 : Int32)) x1 it3 fr3 mo3 sl3 ct3 kI3 kF3 kM3 kN3 kS3 kU3 kC3 fs'29 us'29 fi'29 rf'29 so'29 fI'29 fF'29 gM'29 gS'29 cn'29 (0 + 1 + 1 + 1) ca kc fC T29.heap n0 (Nat.le_trans Z0 z37) u29_0 u29_1 u29_2 u29_3 u29_4 u29_5 u29_6 u29_7 u29_8 u29_9 u29_10 u29_11 u29_12 u29_13 u29_14 u29_15 u29_16 u29_17 gn_b1 (by first | assumption | rfl | decide | omega | (simp; done)) (by first | assumption | rfl | decide | omega | (simp; done)) (by first | assumption | rfl | decide | omega | (simp; done)) (by first | assumption | rfl | decide | omega | (simp; done)) (by first | assumption | rfl | decide | omega | (simp; done)) u3_23 u29_18 (by first | assumption | rfl | decide | omega | (simp; done)) f33 f34 f35 (fun k hk => by obtain ⟨io, h1, h2⟩ := HCa k hk; exact ⟨io, h1, h2.keep K32⟩)) hZ (own_w hw 42 rfl) (own_w hw 41 rfl) (by decide) (by decide)) (g := (mkF m 103 #[vi x0, .val (.long x1), .second, .val (.long x2), .second, .val (.long x3), .second, vr b1, vi r_29] [(.long x1), (.int (if (x0 &&& (8 : Int32)) = (0 : Int32) then (0 : Int32) else (1 : Int32))), (.int r_29), (.ref b1)])) rfl (by rw [hml]; rfl) (argsL := [(.ref b1), (.int r_29), (.int (if (x0 &&& (8 : Int32)) = (0 : Int32) then (0 : Int32) else (1 : Int32))), (.long x1)]) (rest := []) (lenOf pd_11 rfl) rfl (by show 2 * 0 + _ ≤ _; exact Nat.le_of_eq rfl) (hb hby at_103) (fun _ _ => ⟨rfl, rfl, (by decide : 142 + 2 ≤ _), (by decide : 8685 + 10 ≤ _)⟩)
  dsimp only [Pt.U, Pt.locs, Pt.cells, Pt.slots] at X36 l36 y36 z36 st36 hQ36
  replace l36 := l36.symm
  subst l36 y36 z36
  obtain ⟨r_36, fs'36, us'36, fi'36, rf'36, so'36, fI'36, fF'36, gM'36, gS'36, cn'36, rfl, N36q, K36, u36_0, u36_1, u36_2, u36_3, u36_4, u36_5, u36_6, u36_7, u36_8, u36_9, u36_10, u36_11, u36_12, u36_13, u36_14, u36_15, u36_16, u36_17, u36_18⟩ := hQ36
  have N36 := Fr.app N29 N36q
  refine Goes.via st36 ?_
  show Goes p e below _ (T36.setTop (mkF m 106 #[vi x0, .val (.long x1), .second, .val (.long x2), .second, .val (.long x3), .second, vr b1, vi r_29] [(.int r_36)]))
  refine Goes.via (fun _ kk_ => XS.istore X36.here hx rfl (hb hby at_106) rfl (l' := #[vi x0, .val (.long x1), .second, .val (.long x2), .second, .val (.long x3), .second, vr b1, vi r_36]) rfl kk_) ?_
  show Goes p e below _ (T36.setTop (mkF m 108 #[vi x0, .val (.long x1), .second, .val (.long x2), .second, .val (.long x3), .second, vr b1, vi r_36] []))
  refine gAL X36 hx hby at_108 rfl rfl ?_
  refine gIL X36 hx hby at_110 rfl ?_
  refine gILN X36 hx hby at_112 rfl ?_
  refine gBI (z := 16) X36 hx hby at_113 rfl ?_
  refine Goes.via (fun _ kk_ => XS.iand X36.here hx rfl (hb hby at_115) rfl kk_) ?_
  show Goes p e below _ (T36.setTop (mkF m 116 #[vi x0, .val (.long x1), .second, .val (.long x2), .second, .val (.long x3), .second, vr b1, vi r_36] [(.int (x0 &&& (16 : Int32))), (.int r_36), (.ref b1)]))
  obtain ⟨jj38, hv_jj38⟩ : ∃ z : Int32, z = (if (x0 &&& (16 : Int32)) = (0 : Int32) then (0 : Int32) else (1 : Int32)) := ⟨_, rfl⟩
  suffices J : Goes p e below (Fin_ s (Qrm0 Z x0 x1 x2 x3 ca kc fC h0 n0) room_1.cells room_1.slots) (T36.setTop (mkF m 124 #[vi x0, .val (.long x1), .second, .val (.long x2), .second, .val (.long x3), .second, vr b1, vi r_36] [(.int jj38), (.int r_36), (.ref b1)])) by
    by_cases hc116 : (x0 &&& (16 : Int32)) = (0 : Int32)
    · skip
      rw [show jj38 = (0 : Int32) from hv_jj38.trans (if_pos hc116)] at J
      refine Goes.via (fun _ kk_ => XS.ifYes X36.here hx rfl (pc0 := 116) (pc' := 123) rfl (hb hby at_116) rfl ((if0 _ _).trans (teq hc116).1) (by decide) (by decide) kk_) ?_
      show Goes p e below _ (T36.setTop (mkF m 123 #[vi x0, .val (.long x1), .second, .val (.long x2), .second, .val (.long x3), .second, vr b1, vi r_36] [(.int r_36), (.ref b1)]))
      refine gIC (z := 0) X36 hx hby at_123 rfl ?_
      show Goes p e below _ (T36.setTop (mkF m 124 #[vi x0, .val (.long x1), .second, .val (.long x2), .second, .val (.long x3), .second, vr b1, vi r_36] [(.int (0 : Int32)), (.int r_36), (.ref b1)]))
      exact J
    · skip
      rw [show jj38 = (1 : Int32) from hv_jj38.trans (if_neg hc116)] at J
      refine Goes.via (fun _ kk_ => XS.ifNo X36.here hx rfl (hb hby at_116) rfl ((if0 _ _).trans (feq hc116).1) kk_) ?_
      show Goes p e below _ (T36.setTop (mkF m 119 #[vi x0, .val (.long x1), .second, .val (.long x2), .second, .val (.long x3), .second, vr b1, vi r_36] [(.int r_36), (.ref b1)]))
      refine gIC (z := 1) X36 hx hby at_119 rfl ?_
      refine Goes.via (fun _ kk_ => XS.goto X36.here hx rfl (pc0 := 120) (pc' := 124) rfl (hb hby at_120) (by decide) (by decide) kk_) ?_
      show Goes p e below _ (T36.setTop (mkF m 124 #[vi x0, .val (.long x1), .second, .val (.long x2), .second, .val (.long x3), .second, vr b1, vi r_36] [(.int (1 : Int32)), (.int r_36), (.ref b1)]))
      exact J
  subst hv_jj38
  show Goes p e below _ (T36.setTop (mkF m 124 #[vi x0, .val (.long x1), .second, .val (.long x2), .second, .val (.long x3), .second, vr b1, vi r_36] [(.int (if (x0 &&& (16 : Int32)) = (0 : Int32) then (0 : Int32) else (1 : Int32))), (.int r_36), (.ref b1)]))
  refine Goes.via (fun _ kk_ => XS.lloadN X36.here hx rfl (hb hby at_124) rfl  kk_) ?_
  show Goes p e below _ (T36.setTop (mkF m 125 #[vi x0, .val (.long x1), .second, .val (.long x2), .second, .val (.long x3), .second, vr b1, vi r_36] [(.long x2), (.int (if (x0 &&& (16 : Int32)) = (0 : Int32) then (0 : Int32) else (1 : Int32))), (.int r_36), (.ref b1)]))
  have K39 : Keep h0 T36.heap [] := (own_kN K32 K36 HN0)
  have f40 : Sta Z T36.heap "java/lang/Integer$IntegerCache" "high" "I" (.int (127 : Int32)) := own_sta_keep OH K39
  have f41 : Sta Z T36.heap "java/lang/Integer$IntegerCache" "cache" "[Ljava/lang/Integer;" (.ref ca) := own_sta_keep OC K39
  have f42 : Arw Z T36.heap ca kc (.object "java/lang/Integer") 256 fC := OA.keep K39 nin0
  have z44 : h0.size ≤ (T36.heap).size := (Nat.le_trans z37 (KpN.size K36))
  obtain ⟨_, _, ⟨T43, L43, k43, n43⟩, -, X43, ⟨Lc43, hQ43, l43, y43, z43⟩, st43⟩ := Jvm.LawKit.callS X36 hx (y := mN_EventQueueIsEmptyPinLaw_step) hown (mvT hZ (own_w hw 39 rfl)) (mvT hZ (own_w hw 40 rfl)) (mvT hZ (own_w hw 41 rfl)) (mvT hZ (own_w hw 42 rfl)) (by decide) (backOf (W := 0) (rmSt l Z a0 hw [] b1 r_36 (if (x0 &&& (16 : Int32)) = (0 : Int32) then (0 : Int32) else (1 : Int32)) x2 it3 fr3 mo3 sl3 ct3 kI3 kF3 kM3 kN3 kS3 kU3 kC3 fs'36 us'36 fi'36 rf'36 so'36 fI'36 fF'36 gM'36 gS'36 cn'36 (0 + 1 + 1 + 1 + 1) ca kc fC T36.heap n0 (Nat.le_trans Z0 z44) u36_0 u36_1 u36_2 u36_3 u36_4 u36_5 u36_6 u36_7 u36_8 u36_9 u36_10 u36_11 u36_12 u36_13 u36_14 u36_15 u36_16 u36_17 gn_b1 (by first | assumption | rfl | decide | omega | (simp; done)) (by first | assumption | rfl | decide | omega | (simp; done)) (by first | assumption | rfl | decide | omega | (simp; done)) (by first | assumption | rfl | decide | omega | (simp; done)) (by first | assumption | rfl | decide | omega | (simp; done)) u3_23 u36_18 (by first | assumption | rfl | decide | omega | (simp; done)) f40 f41 f42 (fun k hk => by obtain ⟨io, h1, h2⟩ := HCa k hk; exact ⟨io, h1, h2.keep K39⟩)) hZ (own_w hw 42 rfl) (own_w hw 41 rfl) (by decide) (by decide)) (g := (mkF m 125 #[vi x0, .val (.long x1), .second, .val (.long x2), .second, .val (.long x3), .second, vr b1, vi r_36] [(.long x2), (.int (if (x0 &&& (16 : Int32)) = (0 : Int32) then (0 : Int32) else (1 : Int32))), (.int r_36), (.ref b1)])) rfl (by rw [hml]; rfl) (argsL := [(.ref b1), (.int r_36), (.int (if (x0 &&& (16 : Int32)) = (0 : Int32) then (0 : Int32) else (1 : Int32))), (.long x2)]) (rest := []) (lenOf pd_11 rfl) rfl (by show 2 * 0 + _ ≤ _; exact Nat.le_of_eq rfl) (hb hby at_125) (fun _ _ => ⟨rfl, rfl, (by decide : 144 + 2 ≤ _), (by decide : 8695 + 10 ≤ _)⟩)
  dsimp only [Pt.U, Pt.locs, Pt.cells, Pt.slots] at X43 l43 y43 z43 st43 hQ43
  replace l43 := l43.symm
  subst l43 y43 z43
  obtain ⟨r_43, fs'43, us'43, fi'43, rf'43, so'43, fI'43, fF'43, gM'43, gS'43, cn'43, rfl, N43q, K43, u43_0, u43_1, u43_2, u43_3, u43_4, u43_5, u43_6, u43_7, u43_8, u43_9, u43_10, u43_11, u43_12, u43_13, u43_14, u43_15, u43_16, u43_17, u43_18⟩ := hQ43
  have N43 := Fr.app N36 N43q
  refine Goes.via st43 ?_
  show Goes p e below _ (T43.setTop (mkF m 128 #[vi x0, .val (.long x1), .second, .val (.long x2), .second, .val (.long x3), .second, vr b1, vi r_36] [(.int r_43)]))
  refine Goes.via (fun _ kk_ => XS.istore X43.here hx rfl (hb hby at_128) rfl (l' := #[vi x0, .val (.long x1), .second, .val (.long x2), .second, .val (.long x3), .second, vr b1, vi r_43]) rfl kk_) ?_
  show Goes p e below _ (T43.setTop (mkF m 130 #[vi x0, .val (.long x1), .second, .val (.long x2), .second, .val (.long x3), .second, vr b1, vi r_43] []))
  refine gIL X43 hx hby at_130 rfl ?_
  have hc132_45 : ¬ (r_43 < (0 : Int32)) := (own_lt0 u43_18.1.1)
  refine Goes.via (fun _ kk_ => XS.ifNo X43.here hx rfl (hb hby at_132) rfl ((if0 _ _).trans (flt hc132_45).1) kk_) ?_
  show Goes p e below _ (T43.setTop (mkF m 135 #[vi x0, .val (.long x1), .second, .val (.long x2), .second, .val (.long x3), .second, vr b1, vi r_43] []))
  refine gIC (z := 1) X43 hx hby at_135 rfl ?_
  refine Goes.via (fun _ kk_ => XS.goto X43.here hx rfl (pc0 := 136) (pc' := 140) rfl (hb hby at_136) (by decide) (by decide) kk_) ?_
  show Goes p e below _ (T43.setTop (mkF m 140 #[vi x0, .val (.long x1), .second, .val (.long x2), .second, .val (.long x3), .second, vr b1, vi r_43] [(.int (1 : Int32))]))
  have K46 : Keep h0 T43.heap [] := (own_kN K39 K43 HN0)
  exact own_finN X43 hx hlk hret (by simp) (hb hby at_140) (by exact ⟨rfl, N43, K46⟩) (by first | decide | omega | (dsimp only; omega)) (by first | decide | omega | (dsimp only; omega))
theorem own_lenN {Z : State} {args : Array Value} {t : Term} {a : Addr} {cl : Cell} {ty : FieldType} {n : Int32} (ev : t.eval args Z none [] Z = some (.ref a)) (A : Arr Z Z.heap a cl ty) (h : (Cond.eq (Term.length t) (Term.int n)).value args Z none Z [] = some true) : cl.slots.size < 2 ^ 31 ∧ cl.slots.size.toInt32 = n := by
  have hv := eqv_i (y := n) rfl h
  have hat : Z.arrayAt? a = some cl := A.fin (Vm.Alike.refl _)
  have hlt : cl.slots.size < 2 ^ 31 := by
    rcases Nat.lt_or_ge cl.slots.size (2 ^ 31) with g | g
    · exact g
    · exfalso
      have g' : ¬ cl.slots.size < 2147483648 := Nat.not_lt.mpr g
      simp [Term.eval, ev, hat, g'] at hv
  obtain ⟨c2, e1, e2⟩ := Lib.length_at hv ev
  cases A.1.symm.trans e1
  exact ⟨hlt, e2⟩

theorem own_cache {Z : State} {a : Addr} {c : Cell} {d : String} {val : Int32 → Value} (B : Bxs Z a c "java/lang/Integer" d (256 : Int32) val) : Arw Z Z.heap a c.cls (.object "java/lang/Integer") 256 (fun i => (c.slots[i]?).getD .null) ∧ ∀ k, k ≤ 4 → ∃ io, (fun i => (c.slots[i]?).getD Value.null) (128 + k) = .ref io ∧ Exa Z Z.heap io "java/lang/Integer" := by
  obtain ⟨A, hs, -, hb⟩ := B
  have h256 : c.slots.size = 256 := hs.trans (by decide)
  have at_ : ∀ i, i < 256 → ∃ b, c.slots[i]? = some (.ref b) ∧ Exa Z Z.heap b "java/lang/Integer" := fun i hi => by
    have hj : (Int32.ofNat i).toInt = (i : Int) := Int32.toInt_ofNat_of_lt (by omega)
    obtain ⟨q1, q2⟩ := own_ix hj
    obtain ⟨b, b1, b2, -⟩ := hb (Int32.ofNat i) (by
      rintro (z | z)
      · exact q1 z
      · rw [q2] at z
        omega)
    rw [q2] at b1
    exact ⟨b, b1, b2⟩
  refine ⟨⟨c, A, rfl, h256, by decide, fun i hi => ?_, fun i hi => ?_⟩, fun k hk => ?_⟩
  · obtain ⟨b, b1, -⟩ := at_ i hi
    show c.slots[i]? = some ((c.slots[i]?).getD Value.null)
    rw [b1]
    rfl
  · obtain ⟨b, b1, -⟩ := at_ i hi
    show fits _ ((c.slots[i]?).getD .null) = true
    rw [b1]
    rfl
  · obtain ⟨b, b1, b2⟩ := at_ (128 + k) (by omega)
    refine ⟨b, ?_, b2⟩
    show (c.slots[128 + k]?).getD Value.null = .ref b
    rw [b1]
    rfl
theorem own_ix128 {Z : State} {args : Array Value} {j : Int32} (hj : ¬ j < 0) : (Term.sub (Term.index 0) (Term.int 128)).eval args Z none [j.toNatClampNeg] Z = some (.int (j - 128)) := by
  have q := idx_at (args := args) (s := Z) (first := Z) (o := none) hj
  simp only [Term.eval] at q ⊢
  rw [q]
  rfl

set_option maxRecDepth 65536 in
set_option maxHeartbeats 40000000 in
theorem comes_1 {Post : Tables → Env → Array Value → State → Outcome → State → Prop} (hpost : ∀ tb e args s v u, (limb_1_1.after args s (.returned v) u = true ∧ limb_1_2.after args s (.returned v) u = true ∧ True) → FrameEnd s (.returned v) u (Jvm.fieldLocs frame_1_writes args s ++ Jvm.arrayLocs frame_1_arrays args s ++ Jvm.staticLocs frame_1_statics s) 288 17408 → Post tb e args s (.returned v) u) :
    ArmFor flags0 classFile x code maxLocals ret World_1 tables_1 room_1 Calls_1 rest_1 Pre_1 Post := by
  intro l hfl _ _ p e ha hc hk s m args below hf hA hF happ hP
  obtain ⟨hcalls, hrest, hpre⟩ := hP
  obtain ⟨-, -, -, hnamed, -, -, -, hat⟩ := (Spec.applies_iff hf).mp happ
  obtain ⟨hg, hn⟩ := and_e (Cond.before_iff.mp (show (Jvm.Cond.and given_1 narrow_1).before args s = true from hpre))
  obtain ⟨gg1, gg2⟩ := and_e hg
  obtain ⟨gg3, gg4⟩ := and_e gg2
  obtain ⟨gg5, gg6⟩ := and_e gg4
  obtain ⟨gg7, gg8⟩ := and_e gg6
  obtain ⟨w0, w1, w2, w3, rfl⟩ : ∃ w0 w1 w2 w3 : Value, args = #[w0, w1, w2, w3] := by
    have hs : args.size = 4 := by simpa [Cond.value, given_1] using gg1
    obtain ⟨L⟩ := args
    match L, hs with
    | [w0, w1, w2, w3], _ => exact ⟨w0, w1, w2, w3, rfl⟩
  have hw := fun d (hd : d ∈ tables_1) => atoms_spec (ws := Jvm.Cond.code x code maxLocals ret :: tables_1) hat d (List.mem_cons_of_mem _ hd)
  have hfit : Fit s := fun {y c} hc i hi => by
    obtain ⟨ha, rfl⟩ := Array.getElem?_eq_some_iff.mp hc
    have q := List.all_eq_true.mp ((Array.all_eq_true_iff_forall_mem.mp hF) _ (Array.getElem_mem ha)) i (List.mem_range.mpr hi)
    simpa [Array.getElem?_eq_getElem hi] using q
  obtain ⟨hsets, hown0⟩ := atoms_of _ (rest_1_c_eq ▸ (show rest_1_c.before _ s = true from hrest))
  have hr0 := Cond.before_iff.mp hown0
  obtain ⟨i0, ei0⟩ := is_v gg3
  obtain rfl : w0 = (.int i0) := Option.some.inj ei0
  obtain ⟨i1, ei1⟩ := isL_v gg5
  obtain rfl : w1 = (.long i1) := Option.some.inj ei1
  obtain ⟨i2, ei2⟩ := isL_v gg7
  obtain rfl : w2 = (.long i2) := Option.some.inj ei2
  obtain ⟨i3, ei3⟩ := isL_v gg8
  obtain rfl : w3 = (.long i3) := Option.some.inj ei3
  have eH := eqv_i (y := 127) rfl (Cond.before_iff.mp (hsets _ (List.mem_of_getElem? (i := 3) rfl)))
  have OH : Sta s s.heap "java/lang/Integer$IntegerCache" "high" "I" (.int (127 : Int32)) := Sta.start eH (Or.inl (hsets _ (List.mem_of_getElem? (i := 1) rfl)))
  obtain ⟨ca, eC⟩ := arr_v (Cond.before_iff.mp (hsets _ (List.mem_of_getElem? (i := 4) rfl)))
  have OC : Sta s s.heap "java/lang/Integer$IntegerCache" "cache" "[Ljava/lang/Integer;" (.ref ca) := Sta.start eC (Or.inr ⟨(own_w hw 48 rfl), (hsets _ (List.mem_of_getElem? (i := 2) rfl))⟩)
  obtain ⟨cC, aC⟩ := Arr.start eC (Cond.before_iff.mp (hsets _ (List.mem_of_getElem? (i := 4) rfl)))
  obtain ⟨zC1, zC2⟩ := own_lenN eC aC (Cond.before_iff.mp (hsets _ (List.mem_of_getElem? (i := 6) rfl)))
  have BX := Bxs.start (val := fun j => .int (j - 128)) (fun _ => eC) aC zC1 zC2 (by decide) (Cond.before_iff.mp (hsets _ (List.mem_of_getElem? (i := 7) rfl))) (fun X j hj h => eqv_i (own_ix128 hj) h)
  obtain ⟨OA, HCa⟩ := own_cache BX
  obtain ⟨n, o, h1, h2, h3, _, L, rfl, ⟨rfl, N, -⟩, hq⟩ := rm0 l s _ hw tables_1 i0 i1 i2 i3 ca cC.cls _ s.heap s.heap.size (Nat.le_refl _) OH OC OA HCa (Nat.le_refl _) p e ha hc hk s m _ below hf ((Spec.applies_iff_loose hf).mp happ).1 ⟨rfl, State.Warmed39.refl s, rfl⟩ trivial
  refine ⟨n, _, h1, h2, h3, hpost _ _ _ _ _ _ ⟨Cond.after_iff.mpr rfl, Cond.after_iff.mpr (eq_i res_at (Term.int_eval (1)) rfl), trivial⟩ ⟨hq.1, hq.2.1, (hq.2.2.sift fun y hy => Or.inr (N y hy)).mono (by decide) (by decide)⟩⟩
theorem main_1_1 : Claimed_1_1 := comes_1 fun _ _ _ _ _ _ h hF => ⟨h.1, hF⟩
theorem main_1_2 : Claimed_1_2 := comes_1 fun _ _ _ _ _ _ h hF => ⟨h.2.1, hF⟩
end Jvm.Pilot.@@N@@
namespace Jvm.Pilot.@@N@@
open Jvm Jvm.ClassFile Sem Op Lib Jvm.Free Jvm.Stand Jvm.Pilot.@@N@@.Jvm.D
/-! MADE BY PROGRAM (witnessworld.py) out of the Statement's table words and the real class files: 21 classes; the members and pool entries that the words name. The judged class is class 1, her method 2. -/
namespace start1
open Jvm.ClassFile
def u (s : String) : CpInfo := .utf8 (stringToUtf16 s)
/-- a pool by its gaps: so many unusable entries, then the entry; so many at the end -/
def gap : Nat → List CpInfo → List CpInfo
  | 0, r => r
  | n + 1, r => .unusable :: gap n r
def poolList (es : List (Nat × CpInfo)) (last : Nat) : List CpInfo := es.foldr (fun e r => gap e.1 (e.2 :: r)) (gap last [])
def pool (es : List (Nat × CpInfo)) (last : Nat) : Array CpInfo := ⟨poolList es last⟩
def fileOf (pool : Array CpInfo) (this : Nat) (attrs : Array Attribute := #[]) (ms : Array MethodInfo := #[]) (fl : Nat := 33) (sup : Nat := 0) (ifs : Array Nat := #[]) (fds : Array FieldInfo := #[]) : ClassFile where
  minorVersion := 0
  majorVersion := 65
  constantPool := pool
  accessFlags := fl
  thisClass := this
  superClass := sup
  interfaces := ifs
  fields := fds
  methods := ms
  attributes := attrs
def plain (name : String) (sup : Option ClassId) : Class where
  name := name
  kind := .ordinary
  loader := none
  accessFlags := 33
  super := sup
  interfaces := #[]
  cf := none
  fields := #[]
  methods := #[]
  instanceTypes := #[]
  staticTypes := #[]
  resolved := #[]
  callSites := []
  init := .initialized
  statics := none
  mirror := none

def pool0 : Array CpInfo := pool [(5, u "<init>"), (0, u "()V"), (1, .class_ 10), (1, u "java/lang/Object")] 113

def k0c0 : Code := { maxStack := 0, maxLocals := 1, code := object_method_1_code, exceptionTable := #[], attributes := #[] }
def k0m0 : Method := { name := "<init>", desc := "()V", sig := { parameters := [], returnType := none }, accessFlags := 1, code := some k0c0 }
/-- java/lang/Object -/
def k0 : Class := { plain "java/lang/Object" none with
  accessFlags := 33
  interfaces := #[]
  cf := some (fileOf pool0 8 #[] #[{ accessFlags := 1, nameIndex := 5, descriptorIndex := 6, attributes := #[] }] 33 0 #[] #[])
  fields := #[]
  methods := #[k0m0]
  instanceTypes := #[]
  staticTypes := #[]
  resolved := Array.replicate 124 none
  statics := none }

def pool1 : Array CpInfo := pool [(2, .class_ 4), (0, .nameAndType 5 6), (0, u "java/lang/Object"), (0, u "<init>"), (0, u "()V"), (0, .methodref 8 9), (0, .class_ 10), (0, .nameAndType 11 12), (0, u "nearhop/sim/EventQueue"), (0, u "poll"), (0, u "()Ljava/lang/Object;"), (0, .methodref 14 15), (0, .class_ 16), (0, .nameAndType 17 18), (0, u "java/lang/Integer"), (0, u "valueOf"), (0, u "(I)Ljava/lang/Integer;"), (0, .methodref 8 20), (0, .nameAndType 21 22), (0, u "add"), (0, u "(JLjava/lang/Object;)V"), (0, .methodref 8 24), (0, .nameAndType 25 26), (0, u "isEmpty"), (0, u "()Z"), (0, .methodref 8 3), (0, .methodref 29 30), (0, .class_ 31), (0, .nameAndType 32 33), (0, u "nearhop/sim/EventQueueIsEmptyPinLaw"), (0, u "step"), (0, u "(Lnearhop/sim/EventQueue;IZJ)I"), (5, u "law"), (0, u "(IJJJ)Z")] 2

def k1m0 : Method := { name := "<init>", desc := "()V", sig := { parameters := [], returnType := none }, accessFlags := 1, code := none }
def k1c1 : Code := { maxStack := 4, maxLocals := 6, code := method_2_code, exceptionTable := #[], attributes := #[] }
def k1m1 : Method := { name := "step", desc := "(Lnearhop/sim/EventQueue;IZJ)I", sig := { parameters := [(.object "nearhop/sim/EventQueue"), .int, .boolean, .long], returnType := some .int }, accessFlags := 10, code := some k1c1 }
def k1c2 : Code := { maxStack := 5, maxLocals := 9, code := code, exceptionTable := #[], attributes := #[] }
def k1m2 : Method := { name := "law", desc := "(IJJJ)Z", sig := { parameters := [.int, .long, .long, .long], returnType := some .boolean }, accessFlags := 9, code := some k1c2 }
/-- nearhop/sim/EventQueueIsEmptyPinLaw -/
def k1 : Class := { plain "nearhop/sim/EventQueueIsEmptyPinLaw" (some 0) with
  accessFlags := 49
  interfaces := #[]
  cf := some (fileOf pool1 29 #[] #[{ accessFlags := 1, nameIndex := 5, descriptorIndex := 6, attributes := #[] }, { accessFlags := 10, nameIndex := 32, descriptorIndex := 33, attributes := #[] }, { accessFlags := 9, nameIndex := 39, descriptorIndex := 40, attributes := #[] }] 49 2 #[] #[])
  fields := #[]
  methods := #[k1m0, k1m1, k1m2]
  instanceTypes := #[]
  staticTypes := #[]
  resolved := Array.replicate 43 none
  statics := none }

def pool2 : Array CpInfo := pool [(1, .class_ 2), (0, u "java/lang/Long"), (0, .methodref 4 5), (0, .class_ 6), (0, .nameAndType 7 8), (0, u "java/lang/Object"), (0, u "<init>"), (0, u "()V"), (0, .class_ 10), (0, u "nearhop/sim/EventQueue"), (0, .fieldref 9 12), (0, .nameAndType 13 14), (0, u "items"), (0, u "[Ljava/lang/Object;"), (0, .fieldref 9 16), (0, .nameAndType 17 18), (0, u "free"), (0, u "[I"), (0, .class_ 20), (0, u "[[J"), (0, .fieldref 9 22), (0, .nameAndType 23 20), (0, u "moments"), (0, .class_ 25), (0, u "[[I"), (0, .fieldref 9 27), (0, .nameAndType 28 25), (0, u "slots"), (0, .fieldref 9 30), (0, .nameAndType 31 18), (0, u "counts"), (0, .long 9223372036854775808), (1, .fieldref 9 35), (0, .nameAndType 36 37), (0, u "reference"), (0, u "J"), (0, .fieldref 9 39), (0, .nameAndType 40 41), (0, u "soonestBucket"), (0, u "I"), (0, .fieldref 9 43), (0, .nameAndType 44 41), (0, u "size"), (0, .methodref 9 46), (0, .nameAndType 47 48), (0, u "isEmpty"), (0, u "()Z"), (3, .fieldref 9 53), (0, .nameAndType 54 41), (0, u "first"), (0, .methodref 9 56), (0, .nameAndType 57 8), (0, u "findSoonest"), (0, .fieldref 9 59), (0, .nameAndType 60 37), (0, u "soonest"), (0, .methodref 9 62), (0, .nameAndType 63 64), (0, u "dealAllAround"), (0, u "(J)V"), (0, .fieldref 9 66), (0, .nameAndType 67 41), (0, u "freeSlots"), (0, .fieldref 9 69), (0, .nameAndType 70 41), (0, u "used"), (9, .methodref 9 81), (0, .nameAndType 82 83), (0, u "bucketOf"), (0, u "(J)I"), (0, .methodref 9 85), (0, .nameAndType 86 87), (0, u "append"), (0, u "(IJI)V"), (0, .methodref 9 89), (0, .nameAndType 90 91), (0, u "dealOut"), (0, u "(IJ)V"), (0, .methodref 1 93), (0, .nameAndType 94 83), (0, u "numberOfLeadingZeros"), (3, .methodref 99 100), (0, .class_ 101), (0, .nameAndType 102 103), (0, u "java/lang/Math"), (0, u "min"), (0, u "(JJ)J"), (0, u "BUCKETS"), (2, u "INITIAL_CAPACITY"), (6, u "add"), (0, u "(JLjava/lang/Object;)V"), (2, u "poll"), (0, u "()Ljava/lang/Object;")] 7

def k2c0 : Code := { maxStack := 3, maxLocals := 1, code := prog_155_method_1_code, exceptionTable := #[], attributes := #[] }
def k2m0 : Method := { name := "<init>", desc := "()V", sig := { parameters := [], returnType := none }, accessFlags := 0, code := some k2c0 }
def k2c1 : Code := { maxStack := 1, maxLocals := 1, code := prog_155_method_2_code, exceptionTable := #[], attributes := #[] }
def k2m1 : Method := { name := "isEmpty", desc := "()Z", sig := { parameters := [], returnType := some .boolean }, accessFlags := 0, code := some k2c1 }
def k2c2 : Code := { maxStack := 5, maxLocals := 5, code := prog_155_method_4_code, exceptionTable := #[], attributes := #[] }
def k2m2 : Method := { name := "add", desc := "(JLjava/lang/Object;)V", sig := { parameters := [.long, (.object "java/lang/Object")], returnType := none }, accessFlags := 0, code := some k2c2 }
def k2c3 : Code := { maxStack := 5, maxLocals := 3, code := prog_155_method_5_code, exceptionTable := #[], attributes := #[] }
def k2m3 : Method := { name := "poll", desc := "()Ljava/lang/Object;", sig := { parameters := [], returnType := some (.object "java/lang/Object") }, accessFlags := 0, code := some k2c3 }
def k2c4 : Code := { maxStack := 5, maxLocals := 3, code := prog_155_method_6_code, exceptionTable := #[], attributes := #[] }
def k2m4 : Method := { name := "bucketOf", desc := "(J)I", sig := { parameters := [.long], returnType := some .int }, accessFlags := 2, code := some k2c4 }
def k2c5 : Code := { maxStack := 5, maxLocals := 6, code := prog_155_method_7_code, exceptionTable := #[], attributes := #[] }
def k2m5 : Method := { name := "append", desc := "(IJI)V", sig := { parameters := [.int, .long, .int], returnType := none }, accessFlags := 2, code := some k2c5 }
def k2c6 : Code := { maxStack := 4, maxLocals := 6, code := prog_155_method_8_code, exceptionTable := #[], attributes := #[] }
def k2m6 : Method := { name := "findSoonest", desc := "()V", sig := { parameters := [], returnType := none }, accessFlags := 2, code := some k2c6 }
def k2c7 : Code := { maxStack := 6, maxLocals := 8, code := prog_155_method_9_code, exceptionTable := #[], attributes := #[] }
def k2m7 : Method := { name := "dealOut", desc := "(IJ)V", sig := { parameters := [.int, .long], returnType := none }, accessFlags := 2, code := some k2c7 }
def k2c8 : Code := { maxStack := 6, maxLocals := 8, code := prog_155_method_10_code, exceptionTable := #[], attributes := #[] }
def k2m8 : Method := { name := "dealAllAround", desc := "(J)V", sig := { parameters := [.long], returnType := none }, accessFlags := 2, code := some k2c8 }
/-- nearhop/sim/EventQueue -/
def k2 : Class := { plain "nearhop/sim/EventQueue" (some 0) with
  accessFlags := 48
  interfaces := #[]
  cf := some (fileOf pool2 9 #[] #[{ accessFlags := 0, nameIndex := 7, descriptorIndex := 8, attributes := #[] }, { accessFlags := 0, nameIndex := 47, descriptorIndex := 48, attributes := #[] }, { accessFlags := 0, nameIndex := 114, descriptorIndex := 115, attributes := #[] }, { accessFlags := 0, nameIndex := 118, descriptorIndex := 119, attributes := #[] }, { accessFlags := 2, nameIndex := 82, descriptorIndex := 83, attributes := #[] }, { accessFlags := 2, nameIndex := 86, descriptorIndex := 87, attributes := #[] }, { accessFlags := 2, nameIndex := 57, descriptorIndex := 8, attributes := #[] }, { accessFlags := 2, nameIndex := 90, descriptorIndex := 91, attributes := #[] }, { accessFlags := 2, nameIndex := 63, descriptorIndex := 64, attributes := #[] }] 48 4 #[] #[{ accessFlags := 26, nameIndex := 104, descriptorIndex := 41, attributes := #[] }, { accessFlags := 26, nameIndex := 107, descriptorIndex := 41, attributes := #[] }, { accessFlags := 2, nameIndex := 13, descriptorIndex := 14, attributes := #[] }, { accessFlags := 2, nameIndex := 17, descriptorIndex := 18, attributes := #[] }, { accessFlags := 2, nameIndex := 67, descriptorIndex := 41, attributes := #[] }, { accessFlags := 2, nameIndex := 70, descriptorIndex := 41, attributes := #[] }, { accessFlags := 2, nameIndex := 44, descriptorIndex := 41, attributes := #[] }, { accessFlags := 18, nameIndex := 23, descriptorIndex := 20, attributes := #[] }, { accessFlags := 18, nameIndex := 28, descriptorIndex := 25, attributes := #[] }, { accessFlags := 18, nameIndex := 31, descriptorIndex := 18, attributes := #[] }, { accessFlags := 2, nameIndex := 54, descriptorIndex := 41, attributes := #[] }, { accessFlags := 2, nameIndex := 36, descriptorIndex := 37, attributes := #[] }, { accessFlags := 2, nameIndex := 40, descriptorIndex := 41, attributes := #[] }, { accessFlags := 2, nameIndex := 60, descriptorIndex := 37, attributes := #[] }])
  fields := #[{ name := "BUCKETS", type := .int, accessFlags := 26, slot := 0, constantValue := 0 }, { name := "INITIAL_CAPACITY", type := .int, accessFlags := 26, slot := 1, constantValue := 0 }, { name := "items", type := (.array (.object "java/lang/Object")), accessFlags := 2, slot := 0, constantValue := 0 }, { name := "free", type := (.array .int), accessFlags := 2, slot := 1, constantValue := 0 }, { name := "freeSlots", type := .int, accessFlags := 2, slot := 2, constantValue := 0 }, { name := "used", type := .int, accessFlags := 2, slot := 3, constantValue := 0 }, { name := "size", type := .int, accessFlags := 2, slot := 4, constantValue := 0 }, { name := "moments", type := (.array (.array .long)), accessFlags := 18, slot := 5, constantValue := 0 }, { name := "slots", type := (.array (.array .int)), accessFlags := 18, slot := 6, constantValue := 0 }, { name := "counts", type := (.array .int), accessFlags := 18, slot := 7, constantValue := 0 }, { name := "first", type := .int, accessFlags := 2, slot := 8, constantValue := 0 }, { name := "reference", type := .long, accessFlags := 2, slot := 9, constantValue := 0 }, { name := "soonestBucket", type := .int, accessFlags := 2, slot := 10, constantValue := 0 }, { name := "soonest", type := .long, accessFlags := 2, slot := 11, constantValue := 0 }]
  methods := #[k2m0, k2m1, k2m2, k2m3, k2m4, k2m5, k2m6, k2m7, k2m8]
  instanceTypes := #[(.array (.object "java/lang/Object")), (.array .int), .int, .int, .int, (.array (.array .long)), (.array (.array .int)), (.array .int), .int, .long, .int, .long]
  staticTypes := #[.int, .int]
  resolved := Array.replicate 127 none
  statics := none }

def pool3 : Array CpInfo := pool [(1, .class_ 2), (0, u "java/io/Serializable"), (0, .class_ 4), (0, u "java/lang/Object")] 2

/-- java/io/Serializable -/
def k3 : Class := { plain "java/io/Serializable" (some 0) with
  accessFlags := 1537
  interfaces := #[]
  cf := some (fileOf pool3 1 #[] #[] 1537 3 #[] #[])
  fields := #[]
  methods := #[]
  instanceTypes := #[]
  staticTypes := #[]
  resolved := Array.replicate 7 none
  statics := none }

def pool4 : Array CpInfo := pool [(2, .class_ 4), (1, u "java/lang/Object"), (0, u "<init>"), (0, u "()V"), (1, .class_ 10), (1, u "java/lang/Number"), (2, .class_ 14), (0, u "java/io/Serializable"), (0, u "serialVersionUID"), (0, u "J")] 20

def k4m0 : Method := { name := "<init>", desc := "()V", sig := { parameters := [], returnType := none }, accessFlags := 1, code := none }
/-- java/lang/Number -/
def k4 : Class := { plain "java/lang/Number" (some 0) with
  accessFlags := 1057
  interfaces := #[3]
  cf := some (fileOf pool4 8 #[] #[{ accessFlags := 1, nameIndex := 5, descriptorIndex := 6, attributes := #[] }] 1057 2 #[13] #[{ accessFlags := 26, nameIndex := 15, descriptorIndex := 16, attributes := #[] }])
  fields := #[{ name := "serialVersionUID", type := .long, accessFlags := 26, slot := 0, constantValue := 0 }]
  methods := #[k4m0]
  instanceTypes := #[]
  staticTypes := #[.long]
  resolved := Array.replicate 37 none
  statics := none }

def pool5 : Array CpInfo := pool [(1, .class_ 2), (0, u "java/lang/Comparable"), (0, .class_ 4), (0, u "java/lang/Object")] 7

/-- java/lang/Comparable -/
def k5 : Class := { plain "java/lang/Comparable" (some 0) with
  accessFlags := 1537
  interfaces := #[]
  cf := some (fileOf pool5 1 #[] #[] 1537 3 #[] #[])
  fields := #[]
  methods := #[]
  instanceTypes := #[]
  staticTypes := #[]
  resolved := Array.replicate 12 none
  statics := none }

def pool6 : Array CpInfo := pool [(1, .class_ 2), (0, u "java/lang/constant/Constable"), (0, .class_ 4), (0, u "java/lang/Object")] 6

/-- java/lang/constant/Constable -/
def k6 : Class := { plain "java/lang/constant/Constable" (some 0) with
  accessFlags := 1537
  interfaces := #[]
  cf := some (fileOf pool6 1 #[] #[] 1537 3 #[] #[])
  fields := #[]
  methods := #[]
  instanceTypes := #[]
  staticTypes := #[]
  resolved := Array.replicate 11 none
  statics := none }

def pool7 : Array CpInfo := pool [(1, .class_ 2), (0, u "java/lang/constant/ConstantDesc"), (0, .class_ 4), (0, u "java/lang/Object")] 32

/-- java/lang/constant/ConstantDesc -/
def k7 : Class := { plain "java/lang/constant/ConstantDesc" (some 0) with
  accessFlags := 1537
  interfaces := #[]
  cf := some (fileOf pool7 1 #[] #[] 1537 3 #[] #[])
  fields := #[]
  methods := #[]
  instanceTypes := #[]
  staticTypes := #[]
  resolved := Array.replicate 37 none
  statics := none }

def pool8 : Array CpInfo := pool [(1, .class_ 2), (0, u "java/lang/Integer"), (16, u "digits"), (0, u "[C"), (32, u "numberOfLeadingZeros"), (0, u "(I)I"), (30, u "DigitOnes"), (0, u "[B"), (2, u "DigitTens"), (97, u "valueOf"), (0, u "(I)Ljava/lang/Integer;"), (0, .class_ 190), (0, u "java/lang/Integer$IntegerCache"), (0, .fieldref 189 192), (0, .nameAndType 193 194), (0, u "high"), (0, u "I"), (0, .fieldref 189 196), (0, .nameAndType 197 198), (0, u "cache"), (0, u "[Ljava/lang/Integer;"), (4, .class_ 204), (0, u "java/lang/Number"), (2, u "value"), (56, .integer 65536), (37, u "TYPE"), (0, u "Ljava/lang/Class;"), (0, .class_ 305), (0, u "java/lang/Comparable"), (0, .class_ 307), (0, u "java/lang/constant/Constable"), (0, .class_ 309), (0, u "java/lang/constant/ConstantDesc"), (0, u "MIN_VALUE"), (1, u "MAX_VALUE"), (3, u "SIZE"), (1, u "BYTES"), (1, u "serialVersionUID"), (0, u "J")] 131

def k8c0 : Code := { maxStack := 3, maxLocals := 1, code := jdk_33_method_22_code, exceptionTable := #[], attributes := #[] }
def k8m0 : Method := { name := "valueOf", desc := "(I)Ljava/lang/Integer;", sig := { parameters := [.int], returnType := some (.object "java/lang/Integer") }, accessFlags := 9, code := some k8c0 }
def k8c1 : Code := { maxStack := 3, maxLocals := 2, code := jdk_33_method_47_code, exceptionTable := #[], attributes := #[] }
def k8m1 : Method := { name := "numberOfLeadingZeros", desc := "(I)I", sig := { parameters := [.int], returnType := some .int }, accessFlags := 9, code := some k8c1 }
/-- java/lang/Integer -/
def k8 : Class := { plain "java/lang/Integer" (some 4) with
  accessFlags := 49
  interfaces := #[5, 6, 7]
  cf := some (fileOf pool8 1 #[.nestMembers #[189]] #[{ accessFlags := 9, nameIndex := 187, descriptorIndex := 188, attributes := #[] }, { accessFlags := 9, nameIndex := 53, descriptorIndex := 54, attributes := #[] }] 49 203 #[304, 306, 308] #[{ accessFlags := 25, nameIndex := 310, descriptorIndex := 194, attributes := #[] }, { accessFlags := 25, nameIndex := 312, descriptorIndex := 194, attributes := #[] }, { accessFlags := 25, nameIndex := 302, descriptorIndex := 303, attributes := #[] }, { accessFlags := 24, nameIndex := 19, descriptorIndex := 20, attributes := #[] }, { accessFlags := 24, nameIndex := 89, descriptorIndex := 86, attributes := #[] }, { accessFlags := 24, nameIndex := 85, descriptorIndex := 86, attributes := #[] }, { accessFlags := 18, nameIndex := 207, descriptorIndex := 194, attributes := #[] }, { accessFlags := 25, nameIndex := 316, descriptorIndex := 194, attributes := #[] }, { accessFlags := 25, nameIndex := 318, descriptorIndex := 194, attributes := #[] }, { accessFlags := 26, nameIndex := 320, descriptorIndex := 321, attributes := #[] }])
  fields := #[{ name := "MIN_VALUE", type := .int, accessFlags := 25, slot := 0, constantValue := 0 }, { name := "MAX_VALUE", type := .int, accessFlags := 25, slot := 1, constantValue := 0 }, { name := "TYPE", type := (.object "java/lang/Class"), accessFlags := 25, slot := 2, constantValue := 0 }, { name := "digits", type := (.array .char), accessFlags := 24, slot := 3, constantValue := 0 }, { name := "DigitTens", type := (.array .byte), accessFlags := 24, slot := 4, constantValue := 0 }, { name := "DigitOnes", type := (.array .byte), accessFlags := 24, slot := 5, constantValue := 0 }, { name := "value", type := .int, accessFlags := 18, slot := 0, constantValue := 0 }, { name := "SIZE", type := .int, accessFlags := 25, slot := 6, constantValue := 0 }, { name := "BYTES", type := .int, accessFlags := 25, slot := 7, constantValue := 0 }, { name := "serialVersionUID", type := .long, accessFlags := 26, slot := 8, constantValue := 0 }]
  methods := #[k8m0, k8m1]
  instanceTypes := #[.int]
  staticTypes := #[.int, .int, (.object "java/lang/Class"), (.array .char), (.array .byte), (.array .byte), .int, .int, .long]
  resolved := Array.replicate 453 none
  statics := none }

def pool9 : Array CpInfo := pool [(2, .class_ 4), (1, u "java/lang/Object"), (0, u "<init>"), (0, u "()V"), (0, .class_ 8), (0, u "java/lang/Integer"), (7, .class_ 18), (1, u "java/lang/Integer$IntegerCache"), (0, u "$assertionsDisabled"), (0, u "Z"), (26, u "high"), (0, u "I"), (8, u "archivedCache"), (0, u "[Ljava/lang/Integer;"), (12, u "cache"), (0, u "low")] 27

def k9m0 : Method := { name := "<init>", desc := "()V", sig := { parameters := [], returnType := none }, accessFlags := 2, code := none }
/-- java/lang/Integer$IntegerCache -/
def k9 : Class := { plain "java/lang/Integer$IntegerCache" (some 0) with
  accessFlags := 48
  interfaces := #[]
  cf := some (fileOf pool9 16 #[.nestHost 7] #[{ accessFlags := 2, nameIndex := 5, descriptorIndex := 6, attributes := #[] }] 48 2 #[] #[{ accessFlags := 24, nameIndex := 72, descriptorIndex := 48, attributes := #[] }, { accessFlags := 24, nameIndex := 47, descriptorIndex := 48, attributes := #[] }, { accessFlags := 24, nameIndex := 71, descriptorIndex := 58, attributes := #[] }, { accessFlags := 8, nameIndex := 57, descriptorIndex := 58, attributes := #[] }, { accessFlags := 4120, nameIndex := 19, descriptorIndex := 20, attributes := #[] }])
  fields := #[{ name := "low", type := .int, accessFlags := 24, slot := 0, constantValue := 0 }, { name := "high", type := .int, accessFlags := 24, slot := 1, constantValue := 0 }, { name := "cache", type := (.array (.object "java/lang/Integer")), accessFlags := 24, slot := 2, constantValue := 0 }, { name := "archivedCache", type := (.array (.object "java/lang/Integer")), accessFlags := 8, slot := 3, constantValue := 0 }, { name := "$assertionsDisabled", type := .boolean, accessFlags := 4120, slot := 4, constantValue := 0 }]
  methods := #[k9m0]
  instanceTypes := #[]
  staticTypes := #[.int, .int, (.array (.object "java/lang/Integer")), (.array (.object "java/lang/Integer")), .boolean]
  resolved := Array.replicate 100 none
  statics := some 0 }

def pool10 : Array CpInfo := pool [(1, .class_ 2), (0, u "java/lang/Long"), (15, .class_ 20), (1, u "java/lang/Integer"), (79, u "numberOfLeadingZeros"), (0, u "(J)I"), (133, .class_ 237), (1, u "java/lang/Long$LongCache"), (33, .class_ 272), (0, u "java/lang/Number"), (2, u "value"), (0, u "J"), (31, .methodref 18 309), (0, .nameAndType 100 310), (0, u "(I)I"), (50, u "TYPE"), (0, u "Ljava/lang/Class;"), (0, .class_ 364), (0, u "java/lang/Comparable"), (0, .class_ 366), (0, u "java/lang/constant/Constable"), (0, .class_ 368), (0, u "java/lang/constant/ConstantDesc"), (0, u "MIN_VALUE"), (1, u "MAX_VALUE"), (4, u "SIZE"), (0, u "I"), (1, u "BYTES"), (1, u "serialVersionUID")] 142

def k10c0 : Code := { maxStack := 3, maxLocals := 3, code := jdk_35_method_48_code, exceptionTable := #[], attributes := #[] }
def k10m0 : Method := { name := "numberOfLeadingZeros", desc := "(J)I", sig := { parameters := [.long], returnType := some .int }, accessFlags := 9, code := some k10c0 }
/-- java/lang/Long -/
def k10 : Class := { plain "java/lang/Long" (some 4) with
  accessFlags := 49
  interfaces := #[5, 6, 7]
  cf := some (fileOf pool10 1 #[.nestMembers #[235]] #[{ accessFlags := 9, nameIndex := 100, descriptorIndex := 101, attributes := #[] }] 49 271 #[363, 365, 367] #[{ accessFlags := 25, nameIndex := 369, descriptorIndex := 276, attributes := #[] }, { accessFlags := 25, nameIndex := 371, descriptorIndex := 276, attributes := #[] }, { accessFlags := 25, nameIndex := 361, descriptorIndex := 362, attributes := #[] }, { accessFlags := 18, nameIndex := 275, descriptorIndex := 276, attributes := #[] }, { accessFlags := 25, nameIndex := 376, descriptorIndex := 377, attributes := #[] }, { accessFlags := 25, nameIndex := 379, descriptorIndex := 377, attributes := #[] }, { accessFlags := 26, nameIndex := 381, descriptorIndex := 276, attributes := #[] }])
  fields := #[{ name := "MIN_VALUE", type := .long, accessFlags := 25, slot := 0, constantValue := 0 }, { name := "MAX_VALUE", type := .long, accessFlags := 25, slot := 1, constantValue := 0 }, { name := "TYPE", type := (.object "java/lang/Class"), accessFlags := 25, slot := 2, constantValue := 0 }, { name := "value", type := .long, accessFlags := 18, slot := 0, constantValue := 0 }, { name := "SIZE", type := .int, accessFlags := 25, slot := 3, constantValue := 0 }, { name := "BYTES", type := .int, accessFlags := 25, slot := 4, constantValue := 0 }, { name := "serialVersionUID", type := .long, accessFlags := 26, slot := 5, constantValue := 0 }]
  methods := #[k10m0]
  instanceTypes := #[.long]
  staticTypes := #[.long, .long, (.object "java/lang/Class"), .int, .int, .long]
  resolved := Array.replicate 524 none
  statics := none }

def pool11 : Array CpInfo := pool [(1, .class_ 2), (0, u "java/lang/Math"), (1, .class_ 6), (1, u "java/lang/Object"), (0, u "<init>"), (0, u "()V"), (89, .class_ 100), (1, u "java/lang/Math$RandomNumberGeneratorHolder"), (20, u "(JJ)J"), (50, u "negativeZeroFloatBits"), (0, u "J"), (2, u "negativeZeroDoubleBits"), (24, u "min"), (43, u "$assertionsDisabled"), (0, u "Z"), (91, u "twoToTheDoubleScaleDown"), (0, u "D"), (4, u "twoToTheDoubleScaleUp"), (9, u "E"), (3, u "PI"), (2, u "TAU"), (2, u "DEGREES_TO_RADIANS"), (0, u "RADIANS_TO_DEGREES")] 94

def k11m0 : Method := { name := "<init>", desc := "()V", sig := { parameters := [], returnType := none }, accessFlags := 2, code := none }
def k11c1 : Code := { maxStack := 4, maxLocals := 4, code := jdk_29_method_70_code, exceptionTable := #[], attributes := #[] }
def k11m1 : Method := { name := "min", desc := "(JJ)J", sig := { parameters := [.long, .long], returnType := some .long }, accessFlags := 9, code := some k11c1 }
/-- java/lang/Math -/
def k11 : Class := { plain "java/lang/Math" (some 0) with
  accessFlags := 49
  interfaces := #[]
  cf := some (fileOf pool11 1 #[.nestMembers #[98]] #[{ accessFlags := 2, nameIndex := 7, descriptorIndex := 8, attributes := #[] }, { accessFlags := 9, nameIndex := 201, descriptorIndex := 121, attributes := #[] }] 49 4 #[] #[{ accessFlags := 25, nameIndex := 354, descriptorIndex := 339, attributes := #[] }, { accessFlags := 25, nameIndex := 358, descriptorIndex := 339, attributes := #[] }, { accessFlags := 25, nameIndex := 361, descriptorIndex := 339, attributes := #[] }, { accessFlags := 26, nameIndex := 364, descriptorIndex := 339, attributes := #[] }, { accessFlags := 26, nameIndex := 365, descriptorIndex := 339, attributes := #[] }, { accessFlags := 26, nameIndex := 172, descriptorIndex := 173, attributes := #[] }, { accessFlags := 26, nameIndex := 176, descriptorIndex := 173, attributes := #[] }, { accessFlags := 8, nameIndex := 344, descriptorIndex := 339, attributes := #[] }, { accessFlags := 8, nameIndex := 338, descriptorIndex := 339, attributes := #[] }, { accessFlags := 4120, nameIndex := 245, descriptorIndex := 246, attributes := #[] }])
  fields := #[{ name := "E", type := .double, accessFlags := 25, slot := 0, constantValue := 0 }, { name := "PI", type := .double, accessFlags := 25, slot := 1, constantValue := 0 }, { name := "TAU", type := .double, accessFlags := 25, slot := 2, constantValue := 0 }, { name := "DEGREES_TO_RADIANS", type := .double, accessFlags := 26, slot := 3, constantValue := 0 }, { name := "RADIANS_TO_DEGREES", type := .double, accessFlags := 26, slot := 4, constantValue := 0 }, { name := "negativeZeroFloatBits", type := .long, accessFlags := 26, slot := 5, constantValue := 0 }, { name := "negativeZeroDoubleBits", type := .long, accessFlags := 26, slot := 6, constantValue := 0 }, { name := "twoToTheDoubleScaleUp", type := .double, accessFlags := 8, slot := 7, constantValue := 0 }, { name := "twoToTheDoubleScaleDown", type := .double, accessFlags := 8, slot := 8, constantValue := 0 }, { name := "$assertionsDisabled", type := .boolean, accessFlags := 4120, slot := 9, constantValue := 0 }]
  methods := #[k11m0, k11m1]
  instanceTypes := #[]
  staticTypes := #[.double, .double, .double, .double, .double, .long, .long, .double, .double, .boolean]
  resolved := Array.replicate 460 none
  statics := none }

def pool12 : Array CpInfo := pool [(1, u "java/lang/Cloneable"), (0, .class_ 1), (0, u "java/lang/Object"), (0, .class_ 3)] 3

/-- java/lang/Cloneable -/
def k12 : Class := { plain "java/lang/Cloneable" (some 0) with
  accessFlags := 1537
  interfaces := #[]
  cf := some (fileOf pool12 2 #[] #[] 1537 4 #[] #[])
  fields := #[]
  methods := #[]
  instanceTypes := #[]
  staticTypes := #[]
  resolved := Array.replicate 8 none
  statics := none }

/-- the primitive byte -/
def k13 : Class := { plain "byte" none with kind := .primitive 'B', accessFlags := 0x411 }
/-- [B -/
def k14 : Class := { plain "[B" (some 0) with kind := .array 13 .byte, interfaces := #[12, 3], accessFlags := 1041 }

/-- the primitive int -/
def k15 : Class := { plain "int" none with kind := .primitive 'I', accessFlags := 0x411 }
/-- [I -/
def k16 : Class := { plain "[I" (some 0) with kind := .array 15 .int, interfaces := #[12, 3], accessFlags := 1041 }

/-- the primitive long -/
def k17 : Class := { plain "long" none with kind := .primitive 'J', accessFlags := 0x411 }
/-- [J -/
def k18 : Class := { plain "[J" (some 0) with kind := .array 17 .long, interfaces := #[12, 3], accessFlags := 1041 }

/-- [Ljava/lang/Integer; -/
def k19 : Class := { plain "[Ljava/lang/Integer;" (some 0) with kind := .array 8 (.object "java/lang/Integer"), interfaces := #[12, 3], accessFlags := 1041 }

/-- [Ljava/lang/Object; -/
def k20 : Class := { plain "[Ljava/lang/Object;" (some 0) with kind := .array 0 (.object "java/lang/Object"), interfaces := #[12, 3], accessFlags := 1041 }

def heap : Heap := #[{ cls := 9, slots := #[.int 0, .int 127, .ref 1, .null, .int 0], vm := .statics 9 },
  { cls := 19, slots := #[.ref 2, .ref 3, .ref 4, .ref 5, .ref 6, .ref 7, .ref 8, .ref 9, .ref 10, .ref 11, .ref 12, .ref 13, .ref 14, .ref 15, .ref 16, .ref 17, .ref 18, .ref 19, .ref 20, .ref 21, .ref 22, .ref 23, .ref 24, .ref 25, .ref 26, .ref 27, .ref 28, .ref 29, .ref 30, .ref 31, .ref 32, .ref 33, .ref 34, .ref 35, .ref 36, .ref 37, .ref 38, .ref 39, .ref 40, .ref 41, .ref 42, .ref 43, .ref 44, .ref 45, .ref 46, .ref 47, .ref 48, .ref 49, .ref 50, .ref 51, .ref 52, .ref 53, .ref 54, .ref 55, .ref 56, .ref 57, .ref 58, .ref 59, .ref 60, .ref 61, .ref 62, .ref 63, .ref 64, .ref 65, .ref 66, .ref 67, .ref 68, .ref 69, .ref 70, .ref 71, .ref 72, .ref 73, .ref 74, .ref 75, .ref 76, .ref 77, .ref 78, .ref 79, .ref 80, .ref 81, .ref 82, .ref 83, .ref 84, .ref 85, .ref 86, .ref 87, .ref 88, .ref 89, .ref 90, .ref 91, .ref 92, .ref 93, .ref 94, .ref 95, .ref 96, .ref 97, .ref 98, .ref 99, .ref 100, .ref 101, .ref 102, .ref 103, .ref 104, .ref 105, .ref 106, .ref 107, .ref 108, .ref 109, .ref 110, .ref 111, .ref 112, .ref 113, .ref 114, .ref 115, .ref 116, .ref 117, .ref 118, .ref 119, .ref 120, .ref 121, .ref 122, .ref 123, .ref 124, .ref 125, .ref 126, .ref 127, .ref 128, .ref 129, .ref 130, .ref 131, .ref 132, .ref 133, .ref 134, .ref 135, .ref 136, .ref 137, .ref 138, .ref 139, .ref 140, .ref 141, .ref 142, .ref 143, .ref 144, .ref 145, .ref 146, .ref 147, .ref 148, .ref 149, .ref 150, .ref 151, .ref 152, .ref 153, .ref 154, .ref 155, .ref 156, .ref 157, .ref 158, .ref 159, .ref 160, .ref 161, .ref 162, .ref 163, .ref 164, .ref 165, .ref 166, .ref 167, .ref 168, .ref 169, .ref 170, .ref 171, .ref 172, .ref 173, .ref 174, .ref 175, .ref 176, .ref 177, .ref 178, .ref 179, .ref 180, .ref 181, .ref 182, .ref 183, .ref 184, .ref 185, .ref 186, .ref 187, .ref 188, .ref 189, .ref 190, .ref 191, .ref 192, .ref 193, .ref 194, .ref 195, .ref 196, .ref 197, .ref 198, .ref 199, .ref 200, .ref 201, .ref 202, .ref 203, .ref 204, .ref 205, .ref 206, .ref 207, .ref 208, .ref 209, .ref 210, .ref 211, .ref 212, .ref 213, .ref 214, .ref 215, .ref 216, .ref 217, .ref 218, .ref 219, .ref 220, .ref 221, .ref 222, .ref 223, .ref 224, .ref 225, .ref 226, .ref 227, .ref 228, .ref 229, .ref 230, .ref 231, .ref 232, .ref 233, .ref 234, .ref 235, .ref 236, .ref 237, .ref 238, .ref 239, .ref 240, .ref 241, .ref 242, .ref 243, .ref 244, .ref 245, .ref 246, .ref 247, .ref 248, .ref 249, .ref 250, .ref 251, .ref 252, .ref 253, .ref 254, .ref 255, .ref 256, .ref 257], vm := .none },
  { cls := 8, slots := #[.int (-128)], vm := .none },
  { cls := 8, slots := #[.int (-127)], vm := .none },
  { cls := 8, slots := #[.int (-126)], vm := .none },
  { cls := 8, slots := #[.int (-125)], vm := .none },
  { cls := 8, slots := #[.int (-124)], vm := .none },
  { cls := 8, slots := #[.int (-123)], vm := .none },
  { cls := 8, slots := #[.int (-122)], vm := .none },
  { cls := 8, slots := #[.int (-121)], vm := .none },
  { cls := 8, slots := #[.int (-120)], vm := .none },
  { cls := 8, slots := #[.int (-119)], vm := .none },
  { cls := 8, slots := #[.int (-118)], vm := .none },
  { cls := 8, slots := #[.int (-117)], vm := .none },
  { cls := 8, slots := #[.int (-116)], vm := .none },
  { cls := 8, slots := #[.int (-115)], vm := .none },
  { cls := 8, slots := #[.int (-114)], vm := .none },
  { cls := 8, slots := #[.int (-113)], vm := .none },
  { cls := 8, slots := #[.int (-112)], vm := .none },
  { cls := 8, slots := #[.int (-111)], vm := .none },
  { cls := 8, slots := #[.int (-110)], vm := .none },
  { cls := 8, slots := #[.int (-109)], vm := .none },
  { cls := 8, slots := #[.int (-108)], vm := .none },
  { cls := 8, slots := #[.int (-107)], vm := .none },
  { cls := 8, slots := #[.int (-106)], vm := .none },
  { cls := 8, slots := #[.int (-105)], vm := .none },
  { cls := 8, slots := #[.int (-104)], vm := .none },
  { cls := 8, slots := #[.int (-103)], vm := .none },
  { cls := 8, slots := #[.int (-102)], vm := .none },
  { cls := 8, slots := #[.int (-101)], vm := .none },
  { cls := 8, slots := #[.int (-100)], vm := .none },
  { cls := 8, slots := #[.int (-99)], vm := .none },
  { cls := 8, slots := #[.int (-98)], vm := .none },
  { cls := 8, slots := #[.int (-97)], vm := .none },
  { cls := 8, slots := #[.int (-96)], vm := .none },
  { cls := 8, slots := #[.int (-95)], vm := .none },
  { cls := 8, slots := #[.int (-94)], vm := .none },
  { cls := 8, slots := #[.int (-93)], vm := .none },
  { cls := 8, slots := #[.int (-92)], vm := .none },
  { cls := 8, slots := #[.int (-91)], vm := .none },
  { cls := 8, slots := #[.int (-90)], vm := .none },
  { cls := 8, slots := #[.int (-89)], vm := .none },
  { cls := 8, slots := #[.int (-88)], vm := .none },
  { cls := 8, slots := #[.int (-87)], vm := .none },
  { cls := 8, slots := #[.int (-86)], vm := .none },
  { cls := 8, slots := #[.int (-85)], vm := .none },
  { cls := 8, slots := #[.int (-84)], vm := .none },
  { cls := 8, slots := #[.int (-83)], vm := .none },
  { cls := 8, slots := #[.int (-82)], vm := .none },
  { cls := 8, slots := #[.int (-81)], vm := .none },
  { cls := 8, slots := #[.int (-80)], vm := .none },
  { cls := 8, slots := #[.int (-79)], vm := .none },
  { cls := 8, slots := #[.int (-78)], vm := .none },
  { cls := 8, slots := #[.int (-77)], vm := .none },
  { cls := 8, slots := #[.int (-76)], vm := .none },
  { cls := 8, slots := #[.int (-75)], vm := .none },
  { cls := 8, slots := #[.int (-74)], vm := .none },
  { cls := 8, slots := #[.int (-73)], vm := .none },
  { cls := 8, slots := #[.int (-72)], vm := .none },
  { cls := 8, slots := #[.int (-71)], vm := .none },
  { cls := 8, slots := #[.int (-70)], vm := .none },
  { cls := 8, slots := #[.int (-69)], vm := .none },
  { cls := 8, slots := #[.int (-68)], vm := .none },
  { cls := 8, slots := #[.int (-67)], vm := .none },
  { cls := 8, slots := #[.int (-66)], vm := .none },
  { cls := 8, slots := #[.int (-65)], vm := .none },
  { cls := 8, slots := #[.int (-64)], vm := .none },
  { cls := 8, slots := #[.int (-63)], vm := .none },
  { cls := 8, slots := #[.int (-62)], vm := .none },
  { cls := 8, slots := #[.int (-61)], vm := .none },
  { cls := 8, slots := #[.int (-60)], vm := .none },
  { cls := 8, slots := #[.int (-59)], vm := .none },
  { cls := 8, slots := #[.int (-58)], vm := .none },
  { cls := 8, slots := #[.int (-57)], vm := .none },
  { cls := 8, slots := #[.int (-56)], vm := .none },
  { cls := 8, slots := #[.int (-55)], vm := .none },
  { cls := 8, slots := #[.int (-54)], vm := .none },
  { cls := 8, slots := #[.int (-53)], vm := .none },
  { cls := 8, slots := #[.int (-52)], vm := .none },
  { cls := 8, slots := #[.int (-51)], vm := .none },
  { cls := 8, slots := #[.int (-50)], vm := .none },
  { cls := 8, slots := #[.int (-49)], vm := .none },
  { cls := 8, slots := #[.int (-48)], vm := .none },
  { cls := 8, slots := #[.int (-47)], vm := .none },
  { cls := 8, slots := #[.int (-46)], vm := .none },
  { cls := 8, slots := #[.int (-45)], vm := .none },
  { cls := 8, slots := #[.int (-44)], vm := .none },
  { cls := 8, slots := #[.int (-43)], vm := .none },
  { cls := 8, slots := #[.int (-42)], vm := .none },
  { cls := 8, slots := #[.int (-41)], vm := .none },
  { cls := 8, slots := #[.int (-40)], vm := .none },
  { cls := 8, slots := #[.int (-39)], vm := .none },
  { cls := 8, slots := #[.int (-38)], vm := .none },
  { cls := 8, slots := #[.int (-37)], vm := .none },
  { cls := 8, slots := #[.int (-36)], vm := .none },
  { cls := 8, slots := #[.int (-35)], vm := .none },
  { cls := 8, slots := #[.int (-34)], vm := .none },
  { cls := 8, slots := #[.int (-33)], vm := .none },
  { cls := 8, slots := #[.int (-32)], vm := .none },
  { cls := 8, slots := #[.int (-31)], vm := .none },
  { cls := 8, slots := #[.int (-30)], vm := .none },
  { cls := 8, slots := #[.int (-29)], vm := .none },
  { cls := 8, slots := #[.int (-28)], vm := .none },
  { cls := 8, slots := #[.int (-27)], vm := .none },
  { cls := 8, slots := #[.int (-26)], vm := .none },
  { cls := 8, slots := #[.int (-25)], vm := .none },
  { cls := 8, slots := #[.int (-24)], vm := .none },
  { cls := 8, slots := #[.int (-23)], vm := .none },
  { cls := 8, slots := #[.int (-22)], vm := .none },
  { cls := 8, slots := #[.int (-21)], vm := .none },
  { cls := 8, slots := #[.int (-20)], vm := .none },
  { cls := 8, slots := #[.int (-19)], vm := .none },
  { cls := 8, slots := #[.int (-18)], vm := .none },
  { cls := 8, slots := #[.int (-17)], vm := .none },
  { cls := 8, slots := #[.int (-16)], vm := .none },
  { cls := 8, slots := #[.int (-15)], vm := .none },
  { cls := 8, slots := #[.int (-14)], vm := .none },
  { cls := 8, slots := #[.int (-13)], vm := .none },
  { cls := 8, slots := #[.int (-12)], vm := .none },
  { cls := 8, slots := #[.int (-11)], vm := .none },
  { cls := 8, slots := #[.int (-10)], vm := .none },
  { cls := 8, slots := #[.int (-9)], vm := .none },
  { cls := 8, slots := #[.int (-8)], vm := .none },
  { cls := 8, slots := #[.int (-7)], vm := .none },
  { cls := 8, slots := #[.int (-6)], vm := .none },
  { cls := 8, slots := #[.int (-5)], vm := .none },
  { cls := 8, slots := #[.int (-4)], vm := .none },
  { cls := 8, slots := #[.int (-3)], vm := .none },
  { cls := 8, slots := #[.int (-2)], vm := .none },
  { cls := 8, slots := #[.int (-1)], vm := .none },
  { cls := 8, slots := #[.int (0)], vm := .none },
  { cls := 8, slots := #[.int (1)], vm := .none },
  { cls := 8, slots := #[.int (2)], vm := .none },
  { cls := 8, slots := #[.int (3)], vm := .none },
  { cls := 8, slots := #[.int (4)], vm := .none },
  { cls := 8, slots := #[.int (5)], vm := .none },
  { cls := 8, slots := #[.int (6)], vm := .none },
  { cls := 8, slots := #[.int (7)], vm := .none },
  { cls := 8, slots := #[.int (8)], vm := .none },
  { cls := 8, slots := #[.int (9)], vm := .none },
  { cls := 8, slots := #[.int (10)], vm := .none },
  { cls := 8, slots := #[.int (11)], vm := .none },
  { cls := 8, slots := #[.int (12)], vm := .none },
  { cls := 8, slots := #[.int (13)], vm := .none },
  { cls := 8, slots := #[.int (14)], vm := .none },
  { cls := 8, slots := #[.int (15)], vm := .none },
  { cls := 8, slots := #[.int (16)], vm := .none },
  { cls := 8, slots := #[.int (17)], vm := .none },
  { cls := 8, slots := #[.int (18)], vm := .none },
  { cls := 8, slots := #[.int (19)], vm := .none },
  { cls := 8, slots := #[.int (20)], vm := .none },
  { cls := 8, slots := #[.int (21)], vm := .none },
  { cls := 8, slots := #[.int (22)], vm := .none },
  { cls := 8, slots := #[.int (23)], vm := .none },
  { cls := 8, slots := #[.int (24)], vm := .none },
  { cls := 8, slots := #[.int (25)], vm := .none },
  { cls := 8, slots := #[.int (26)], vm := .none },
  { cls := 8, slots := #[.int (27)], vm := .none },
  { cls := 8, slots := #[.int (28)], vm := .none },
  { cls := 8, slots := #[.int (29)], vm := .none },
  { cls := 8, slots := #[.int (30)], vm := .none },
  { cls := 8, slots := #[.int (31)], vm := .none },
  { cls := 8, slots := #[.int (32)], vm := .none },
  { cls := 8, slots := #[.int (33)], vm := .none },
  { cls := 8, slots := #[.int (34)], vm := .none },
  { cls := 8, slots := #[.int (35)], vm := .none },
  { cls := 8, slots := #[.int (36)], vm := .none },
  { cls := 8, slots := #[.int (37)], vm := .none },
  { cls := 8, slots := #[.int (38)], vm := .none },
  { cls := 8, slots := #[.int (39)], vm := .none },
  { cls := 8, slots := #[.int (40)], vm := .none },
  { cls := 8, slots := #[.int (41)], vm := .none },
  { cls := 8, slots := #[.int (42)], vm := .none },
  { cls := 8, slots := #[.int (43)], vm := .none },
  { cls := 8, slots := #[.int (44)], vm := .none },
  { cls := 8, slots := #[.int (45)], vm := .none },
  { cls := 8, slots := #[.int (46)], vm := .none },
  { cls := 8, slots := #[.int (47)], vm := .none },
  { cls := 8, slots := #[.int (48)], vm := .none },
  { cls := 8, slots := #[.int (49)], vm := .none },
  { cls := 8, slots := #[.int (50)], vm := .none },
  { cls := 8, slots := #[.int (51)], vm := .none },
  { cls := 8, slots := #[.int (52)], vm := .none },
  { cls := 8, slots := #[.int (53)], vm := .none },
  { cls := 8, slots := #[.int (54)], vm := .none },
  { cls := 8, slots := #[.int (55)], vm := .none },
  { cls := 8, slots := #[.int (56)], vm := .none },
  { cls := 8, slots := #[.int (57)], vm := .none },
  { cls := 8, slots := #[.int (58)], vm := .none },
  { cls := 8, slots := #[.int (59)], vm := .none },
  { cls := 8, slots := #[.int (60)], vm := .none },
  { cls := 8, slots := #[.int (61)], vm := .none },
  { cls := 8, slots := #[.int (62)], vm := .none },
  { cls := 8, slots := #[.int (63)], vm := .none },
  { cls := 8, slots := #[.int (64)], vm := .none },
  { cls := 8, slots := #[.int (65)], vm := .none },
  { cls := 8, slots := #[.int (66)], vm := .none },
  { cls := 8, slots := #[.int (67)], vm := .none },
  { cls := 8, slots := #[.int (68)], vm := .none },
  { cls := 8, slots := #[.int (69)], vm := .none },
  { cls := 8, slots := #[.int (70)], vm := .none },
  { cls := 8, slots := #[.int (71)], vm := .none },
  { cls := 8, slots := #[.int (72)], vm := .none },
  { cls := 8, slots := #[.int (73)], vm := .none },
  { cls := 8, slots := #[.int (74)], vm := .none },
  { cls := 8, slots := #[.int (75)], vm := .none },
  { cls := 8, slots := #[.int (76)], vm := .none },
  { cls := 8, slots := #[.int (77)], vm := .none },
  { cls := 8, slots := #[.int (78)], vm := .none },
  { cls := 8, slots := #[.int (79)], vm := .none },
  { cls := 8, slots := #[.int (80)], vm := .none },
  { cls := 8, slots := #[.int (81)], vm := .none },
  { cls := 8, slots := #[.int (82)], vm := .none },
  { cls := 8, slots := #[.int (83)], vm := .none },
  { cls := 8, slots := #[.int (84)], vm := .none },
  { cls := 8, slots := #[.int (85)], vm := .none },
  { cls := 8, slots := #[.int (86)], vm := .none },
  { cls := 8, slots := #[.int (87)], vm := .none },
  { cls := 8, slots := #[.int (88)], vm := .none },
  { cls := 8, slots := #[.int (89)], vm := .none },
  { cls := 8, slots := #[.int (90)], vm := .none },
  { cls := 8, slots := #[.int (91)], vm := .none },
  { cls := 8, slots := #[.int (92)], vm := .none },
  { cls := 8, slots := #[.int (93)], vm := .none },
  { cls := 8, slots := #[.int (94)], vm := .none },
  { cls := 8, slots := #[.int (95)], vm := .none },
  { cls := 8, slots := #[.int (96)], vm := .none },
  { cls := 8, slots := #[.int (97)], vm := .none },
  { cls := 8, slots := #[.int (98)], vm := .none },
  { cls := 8, slots := #[.int (99)], vm := .none },
  { cls := 8, slots := #[.int (100)], vm := .none },
  { cls := 8, slots := #[.int (101)], vm := .none },
  { cls := 8, slots := #[.int (102)], vm := .none },
  { cls := 8, slots := #[.int (103)], vm := .none },
  { cls := 8, slots := #[.int (104)], vm := .none },
  { cls := 8, slots := #[.int (105)], vm := .none },
  { cls := 8, slots := #[.int (106)], vm := .none },
  { cls := 8, slots := #[.int (107)], vm := .none },
  { cls := 8, slots := #[.int (108)], vm := .none },
  { cls := 8, slots := #[.int (109)], vm := .none },
  { cls := 8, slots := #[.int (110)], vm := .none },
  { cls := 8, slots := #[.int (111)], vm := .none },
  { cls := 8, slots := #[.int (112)], vm := .none },
  { cls := 8, slots := #[.int (113)], vm := .none },
  { cls := 8, slots := #[.int (114)], vm := .none },
  { cls := 8, slots := #[.int (115)], vm := .none },
  { cls := 8, slots := #[.int (116)], vm := .none },
  { cls := 8, slots := #[.int (117)], vm := .none },
  { cls := 8, slots := #[.int (118)], vm := .none },
  { cls := 8, slots := #[.int (119)], vm := .none },
  { cls := 8, slots := #[.int (120)], vm := .none },
  { cls := 8, slots := #[.int (121)], vm := .none },
  { cls := 8, slots := #[.int (122)], vm := .none },
  { cls := 8, slots := #[.int (123)], vm := .none },
  { cls := 8, slots := #[.int (124)], vm := .none },
  { cls := 8, slots := #[.int (125)], vm := .none },
  { cls := 8, slots := #[.int (126)], vm := .none },
  { cls := 8, slots := #[.int (127)], vm := .none }]
def k21 : Class := { plain "[[J" (some 0) with kind := .array 18 (.array .long), interfaces := #[12, 3], accessFlags := 1041 }
def k22 : Class := { plain "[[I" (some 0) with kind := .array 16 (.array .int), interfaces := #[12, 3], accessFlags := 1041 }
def classes : Array Class := #[k0, k1, k2, k3, k4, k5, k6, k7, k8, k9, k10, k11, k12, k13, k14, k15, k16, k17, k18, k19, k20, k21, k22]
def interned : List (Array UInt16 × Addr) := []
def slotsUsed : Nat := 517
def theMethod : MethodId := ⟨1, 2⟩
def args0 : Array Value := #[.int 5, .long 6, .long 1, .long 4]
def aboutOver (below : List Frame) : State where
  vm := { classes := classes, interned := interned.toArray }
  heap := heap
  slotsUsed := slotsUsed
  threads := #[{ frames := .invoking theMethod args0 :: below }]
def below0 : List Frame := [.native { method := ⟨0, 0⟩, args := #[] }]
def about1 : State := aboutOver below0
def p0 : Program := .bare "" "" ""
def e0 : Env := launch0.env 0 0 0
theorem w_frames : about1.frames = Frame.invoking theMethod args0 :: below0 := rfl
set_option maxRecDepth 65536 in
theorem w_args : argsFit about1.vm theMethod args0 = true := by decide +kernel
set_option maxRecDepth 65536 in
theorem w_heap : heapFits about1 = true := by decide +kernel
set_option maxRecDepth 65536 in
theorem w_runnable : about1.curStatus? = some .runnable := by decide +kernel
set_option maxRecDepth 65536 in
theorem w_alone : about1.alone = true := by decide +kernel
set_option maxRecDepth 65536 in
theorem w_named : about1.methodNamed? x = some theMethod := by decide +kernel
set_option maxRecDepth 65536 in
theorem w_hears : about1.hears theMethod below0 = true := by decide +kernel
set_option maxRecDepth 65536 in
theorem w_ripe : about1.ripe theMethod args0 below0 = true := by decide +kernel
theorem w_running : about1.status = .running := rfl
set_option maxRecDepth 65536 in
theorem w_room : about1.hasRoom e0.platform room_1 = true :=
  launch0.hasRoom_least _ room_1 (by decide +kernel) (by decide +kernel) (by decide +kernel) (by decide +kernel) (by decide +kernel) (by decide +kernel)
theorem allAtoms_all (ts : List Jvm.Cond) (a : Array Jvm.Value) (st : Jvm.State) : (allAtoms ts).before a st = ts.all (fun c => c.before a st) := by
  induction ts with
  | nil => rfl
  | cons c t ih =>
    show (Jvm.Cond.and c (allAtoms t)).before a st = _
    rw [Jvm.Cond.before_and, ih, List.all_cons]
def words1 : List Jvm.Cond := Jvm.Cond.code x code maxLocals ret :: tables_1
/-- a 'code' word, met by the world's own term for the bytes: nothing is compared byte by byte -/
theorem code_word {y : MethodName} {bytes : ByteArray} {mx : Nat} {rt : Option FieldType} {a : Array Value} {s : State} {m : MethodId} {meth : Method} {c : Code} (h1 : s.methodNamed? y = some m) (h2 : s.vm.method? m = some meth) (h3 : meth.code = some c) (h4 : c.code = bytes)
    (h5 : (c.maxLocals == mx && c.exceptionTable.isEmpty && decide (c.maxStack ≤ mostOperands) && decide (meth.sig.returnType = rt) && !meth.locks && decide (parseMethodDescriptor y.desc = some meth.sig)) = true) : (Jvm.Cond.code y bytes mx rt).before a s = true := by
  simp only [Bool.and_eq_true, beq_iff_eq, Bool.not_eq_true', decide_eq_true_eq] at h5
  obtain ⟨⟨⟨⟨⟨g1, g2⟩, g3⟩, g4⟩, g5⟩, g6⟩ := h5
  simp [Cond.before, Cond.holds, Cond.value, h1, h2, h3, h4, g1, g2, g3, g4, g5, g6]
def isCode : Jvm.Cond → Bool
  | .code _ _ _ _ => true
  | _ => false
theorem all_split {L : List Jvm.Cond} {P : Jvm.Cond → Bool} (h1 : L.all (fun c => isCode c || P c) = true) (h2 : ∀ c ∈ L.filter isCode, P c = true) : L.all P = true := by
  refine List.all_eq_true.mpr fun c hc => ?_
  have h := List.all_eq_true.mp h1 c hc
  rcases Bool.eq_false_or_eq_true (isCode c) with hi | hi
  · exact h2 c (List.mem_filter.mpr ⟨hc, hi⟩)
  · simpa [hi] using h
set_option maxRecDepth 65536 in
theorem w_c0 : (Jvm.Cond.code x code maxLocals ret).before args0 about1 = true := code_word (m := ⟨1, 2⟩) (meth := k1m2) (c := k1c2) (by decide +kernel) rfl rfl rfl (by decide +kernel)
set_option maxRecDepth 65536 in
theorem w_c1 : (Jvm.Cond.code ({ cls := "nearhop/sim/EventQueue", name := "<init>", desc := "()V" } : Jvm.MethodName) prog_155_method_1_code (1 : Nat) (Option.none : Option Jvm.ClassFile.FieldType)).before args0 about1 = true := code_word (m := ⟨2, 0⟩) (meth := k2m0) (c := k2c0) (by decide +kernel) rfl rfl rfl (by decide +kernel)
set_option maxRecDepth 65536 in
theorem w_c2 : (Jvm.Cond.code ({ cls := "java/lang/Object", name := "<init>", desc := "()V" } : Jvm.MethodName) object_method_1_code (1 : Nat) (Option.none : Option Jvm.ClassFile.FieldType)).before args0 about1 = true := code_word (m := ⟨0, 0⟩) (meth := k0m0) (c := k0c0) (by decide +kernel) rfl rfl rfl (by decide +kernel)
set_option maxRecDepth 65536 in
theorem w_c3 : (Jvm.Cond.code ({ cls := "nearhop/sim/EventQueue", name := "isEmpty", desc := "()Z" } : Jvm.MethodName) prog_155_method_2_code (1 : Nat) (Option.some Jvm.ClassFile.FieldType.boolean)).before args0 about1 = true := code_word (m := ⟨2, 1⟩) (meth := k2m1) (c := k2c1) (by decide +kernel) rfl rfl rfl (by decide +kernel)
set_option maxRecDepth 65536 in
theorem w_c4 : (Jvm.Cond.code ({ cls := "nearhop/sim/EventQueueIsEmptyPinLaw", name := "step", desc := "(Lnearhop/sim/EventQueue;IZJ)I" } : Jvm.MethodName) method_2_code (6 : Nat) (Option.some Jvm.ClassFile.FieldType.int)).before args0 about1 = true := code_word (m := ⟨1, 1⟩) (meth := k1m1) (c := k1c1) (by decide +kernel) rfl rfl rfl (by decide +kernel)
set_option maxRecDepth 65536 in
theorem w_c5 : (Jvm.Cond.code ({ cls := "java/lang/Integer", name := "valueOf", desc := "(I)Ljava/lang/Integer;" } : Jvm.MethodName) jdk_33_method_22_code (1 : Nat) (Option.some (Jvm.ClassFile.FieldType.object "java/lang/Integer"))).before args0 about1 = true := code_word (m := ⟨8, 0⟩) (meth := k8m0) (c := k8c0) (by decide +kernel) rfl rfl rfl (by decide +kernel)
set_option maxRecDepth 65536 in
theorem w_c6 : (Jvm.Cond.code ({ cls := "nearhop/sim/EventQueue", name := "add", desc := "(JLjava/lang/Object;)V" } : Jvm.MethodName) prog_155_method_4_code (5 : Nat) (Option.none : Option Jvm.ClassFile.FieldType)).before args0 about1 = true := code_word (m := ⟨2, 2⟩) (meth := k2m2) (c := k2c2) (by decide +kernel) rfl rfl rfl (by decide +kernel)
set_option maxRecDepth 65536 in
theorem w_c7 : (Jvm.Cond.code ({ cls := "nearhop/sim/EventQueue", name := "bucketOf", desc := "(J)I" } : Jvm.MethodName) prog_155_method_6_code (3 : Nat) (Option.some Jvm.ClassFile.FieldType.int)).before args0 about1 = true := code_word (m := ⟨2, 4⟩) (meth := k2m4) (c := k2c4) (by decide +kernel) rfl rfl rfl (by decide +kernel)
set_option maxRecDepth 65536 in
theorem w_c8 : (Jvm.Cond.code ({ cls := "java/lang/Long", name := "numberOfLeadingZeros", desc := "(J)I" } : Jvm.MethodName) jdk_35_method_48_code (3 : Nat) (Option.some Jvm.ClassFile.FieldType.int)).before args0 about1 = true := code_word (m := ⟨10, 0⟩) (meth := k10m0) (c := k10c0) (by decide +kernel) rfl rfl rfl (by decide +kernel)
set_option maxRecDepth 65536 in
theorem w_c9 : (Jvm.Cond.code ({ cls := "java/lang/Integer", name := "numberOfLeadingZeros", desc := "(I)I" } : Jvm.MethodName) jdk_33_method_47_code (2 : Nat) (Option.some Jvm.ClassFile.FieldType.int)).before args0 about1 = true := code_word (m := ⟨8, 1⟩) (meth := k8m1) (c := k8c1) (by decide +kernel) rfl rfl rfl (by decide +kernel)
set_option maxRecDepth 65536 in
theorem w_c10 : (Jvm.Cond.code ({ cls := "nearhop/sim/EventQueue", name := "append", desc := "(IJI)V" } : Jvm.MethodName) prog_155_method_7_code (6 : Nat) (Option.none : Option Jvm.ClassFile.FieldType)).before args0 about1 = true := code_word (m := ⟨2, 5⟩) (meth := k2m5) (c := k2c5) (by decide +kernel) rfl rfl rfl (by decide +kernel)
set_option maxRecDepth 65536 in
theorem w_c11 : (Jvm.Cond.code ({ cls := "nearhop/sim/EventQueue", name := "poll", desc := "()Ljava/lang/Object;" } : Jvm.MethodName) prog_155_method_5_code (3 : Nat) (Option.some (Jvm.ClassFile.FieldType.object "java/lang/Object"))).before args0 about1 = true := code_word (m := ⟨2, 3⟩) (meth := k2m3) (c := k2c3) (by decide +kernel) rfl rfl rfl (by decide +kernel)
set_option maxRecDepth 65536 in
theorem w_c12 : (Jvm.Cond.code ({ cls := "nearhop/sim/EventQueue", name := "findSoonest", desc := "()V" } : Jvm.MethodName) prog_155_method_8_code (6 : Nat) (Option.none : Option Jvm.ClassFile.FieldType)).before args0 about1 = true := code_word (m := ⟨2, 6⟩) (meth := k2m6) (c := k2c6) (by decide +kernel) rfl rfl rfl (by decide +kernel)
set_option maxRecDepth 65536 in
theorem w_c13 : (Jvm.Cond.code ({ cls := "nearhop/sim/EventQueue", name := "dealOut", desc := "(IJ)V" } : Jvm.MethodName) prog_155_method_9_code (8 : Nat) (Option.none : Option Jvm.ClassFile.FieldType)).before args0 about1 = true := code_word (m := ⟨2, 7⟩) (meth := k2m7) (c := k2c7) (by decide +kernel) rfl rfl rfl (by decide +kernel)
set_option maxRecDepth 65536 in
theorem w_c14 : (Jvm.Cond.code ({ cls := "nearhop/sim/EventQueue", name := "dealAllAround", desc := "(J)V" } : Jvm.MethodName) prog_155_method_10_code (8 : Nat) (Option.none : Option Jvm.ClassFile.FieldType)).before args0 about1 = true := code_word (m := ⟨2, 8⟩) (meth := k2m8) (c := k2c8) (by decide +kernel) rfl rfl rfl (by decide +kernel)
set_option maxRecDepth 65536 in
theorem w_c15 : (Jvm.Cond.code ({ cls := "java/lang/Math", name := "min", desc := "(JJ)J" } : Jvm.MethodName) jdk_29_method_70_code (4 : Nat) (Option.some Jvm.ClassFile.FieldType.long)).before args0 about1 = true := code_word (m := ⟨11, 1⟩) (meth := k11m1) (c := k11c1) (by decide +kernel) rfl rfl rfl (by decide +kernel)
def codes1 : List Jvm.Cond := [Jvm.Cond.code x code maxLocals ret, Jvm.Cond.code ({ cls := "nearhop/sim/EventQueue", name := "<init>", desc := "()V" } : Jvm.MethodName) prog_155_method_1_code (1 : Nat) (Option.none : Option Jvm.ClassFile.FieldType), Jvm.Cond.code ({ cls := "java/lang/Object", name := "<init>", desc := "()V" } : Jvm.MethodName) object_method_1_code (1 : Nat) (Option.none : Option Jvm.ClassFile.FieldType), Jvm.Cond.code ({ cls := "nearhop/sim/EventQueue", name := "isEmpty", desc := "()Z" } : Jvm.MethodName) prog_155_method_2_code (1 : Nat) (Option.some Jvm.ClassFile.FieldType.boolean), Jvm.Cond.code ({ cls := "nearhop/sim/EventQueueIsEmptyPinLaw", name := "step", desc := "(Lnearhop/sim/EventQueue;IZJ)I" } : Jvm.MethodName) method_2_code (6 : Nat) (Option.some Jvm.ClassFile.FieldType.int), Jvm.Cond.code ({ cls := "java/lang/Integer", name := "valueOf", desc := "(I)Ljava/lang/Integer;" } : Jvm.MethodName) jdk_33_method_22_code (1 : Nat) (Option.some (Jvm.ClassFile.FieldType.object "java/lang/Integer")), Jvm.Cond.code ({ cls := "nearhop/sim/EventQueue", name := "add", desc := "(JLjava/lang/Object;)V" } : Jvm.MethodName) prog_155_method_4_code (5 : Nat) (Option.none : Option Jvm.ClassFile.FieldType), Jvm.Cond.code ({ cls := "nearhop/sim/EventQueue", name := "bucketOf", desc := "(J)I" } : Jvm.MethodName) prog_155_method_6_code (3 : Nat) (Option.some Jvm.ClassFile.FieldType.int), Jvm.Cond.code ({ cls := "java/lang/Long", name := "numberOfLeadingZeros", desc := "(J)I" } : Jvm.MethodName) jdk_35_method_48_code (3 : Nat) (Option.some Jvm.ClassFile.FieldType.int), Jvm.Cond.code ({ cls := "java/lang/Integer", name := "numberOfLeadingZeros", desc := "(I)I" } : Jvm.MethodName) jdk_33_method_47_code (2 : Nat) (Option.some Jvm.ClassFile.FieldType.int), Jvm.Cond.code ({ cls := "nearhop/sim/EventQueue", name := "append", desc := "(IJI)V" } : Jvm.MethodName) prog_155_method_7_code (6 : Nat) (Option.none : Option Jvm.ClassFile.FieldType), Jvm.Cond.code ({ cls := "nearhop/sim/EventQueue", name := "poll", desc := "()Ljava/lang/Object;" } : Jvm.MethodName) prog_155_method_5_code (3 : Nat) (Option.some (Jvm.ClassFile.FieldType.object "java/lang/Object")), Jvm.Cond.code ({ cls := "nearhop/sim/EventQueue", name := "findSoonest", desc := "()V" } : Jvm.MethodName) prog_155_method_8_code (6 : Nat) (Option.none : Option Jvm.ClassFile.FieldType), Jvm.Cond.code ({ cls := "nearhop/sim/EventQueue", name := "dealOut", desc := "(IJ)V" } : Jvm.MethodName) prog_155_method_9_code (8 : Nat) (Option.none : Option Jvm.ClassFile.FieldType), Jvm.Cond.code ({ cls := "nearhop/sim/EventQueue", name := "dealAllAround", desc := "(J)V" } : Jvm.MethodName) prog_155_method_10_code (8 : Nat) (Option.none : Option Jvm.ClassFile.FieldType), Jvm.Cond.code ({ cls := "java/lang/Math", name := "min", desc := "(JJ)J" } : Jvm.MethodName) jdk_29_method_70_code (4 : Nat) (Option.some Jvm.ClassFile.FieldType.long)]
set_option maxRecDepth 65536 in
theorem codes_eq : words1.filter isCode = codes1 := rfl
theorem w_codes : ∀ c ∈ words1.filter isCode, c.before args0 about1 = true := by
  rw [codes_eq]
  intro c hc
  simp only [codes1, List.mem_cons, List.not_mem_nil, or_false] at hc
  rcases hc with rfl | rfl | rfl | rfl | rfl | rfl | rfl | rfl | rfl | rfl | rfl | rfl | rfl | rfl | rfl | rfl
  · exact w_c0
  · exact w_c1
  · exact w_c2
  · exact w_c3
  · exact w_c4
  · exact w_c5
  · exact w_c6
  · exact w_c7
  · exact w_c8
  · exact w_c9
  · exact w_c10
  · exact w_c11
  · exact w_c12
  · exact w_c13
  · exact w_c14
  · exact w_c15
set_option maxRecDepth 65536 in
theorem w_t1 : (words1.take 24).all (fun c => isCode c || c.before args0 about1) = true := by decide +kernel
set_option maxRecDepth 65536 in
theorem w_t2 : ((words1.drop 24).take 24).all (fun c => isCode c || c.before args0 about1) = true := by decide +kernel
set_option maxRecDepth 65536 in
theorem w_t3 : (((words1.drop 24).drop 24).take 24).all (fun c => isCode c || c.before args0 about1) = true := by decide +kernel
set_option maxRecDepth 65536 in
theorem w_t4 : ((((words1.drop 24).drop 24).drop 24).take 24).all (fun c => isCode c || c.before args0 about1) = true := by decide +kernel
set_option maxRecDepth 65536 in
theorem w_t5 : ((((words1.drop 24).drop 24).drop 24).drop 24).all (fun c => isCode c || c.before args0 about1) = true := by decide +kernel
theorem w_tables : (allAtoms (Jvm.Cond.code x code maxLocals ret :: tables_1)).before args0 about1 = true := by
  rw [allAtoms_all]
  show words1.all (fun c => c.before args0 about1) = true
  refine all_split ?_ w_codes
  rw [← List.take_append_drop 24 words1, List.all_append, w_t1, ← List.take_append_drop 24 (words1.drop 24), List.all_append, w_t2, ← List.take_append_drop 24 ((words1.drop 24).drop 24), List.all_append, w_t3, ← List.take_append_drop 24 (((words1.drop 24).drop 24).drop 24), List.all_append, w_t4, w_t5]
  rfl
set_option maxRecDepth 65536 in
theorem w_rest : rest_1_c.before args0 about1 = true := by decide +kernel
set_option maxRecDepth 65536 in
theorem w_case : (Jvm.Cond.and given_1 narrow_1).before args0 about1 = true := by decide +kernel
theorem w_applies : (headSpec (Jvm.Cond.code x code maxLocals ret :: tables_1) room_1).applies x e0.platform about1 = true :=
  (Spec.applies_iff w_frames).mpr ⟨w_running, w_runnable, w_alone, w_named, w_hears, w_ripe, w_room, w_tables⟩
theorem atStart : AtStart classFile x code maxLocals ret World_1 tables_1 room_1 Calls_1 rest_1 Pre_1 launch0 p0 e0 about1 theMethod args0 below0 :=
  ⟨lists_1, trivial, launch0.admits_env _ _ _, launch0.least_env, fairChoices_fair.cas, fairChoices_fair.clock, w_frames, w_args, w_heap, w_applies, trivial, w_rest, w_case⟩
end start1
theorem witness_1 : WitnessClaimed_1 := ⟨start1.p0, start1.e0, start1.about1, start1.theMethod, start1.args0, start1.below0, start1.atStart⟩
end Jvm.Pilot.@@N@@
