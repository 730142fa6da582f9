import JvmDerived
import JvmDerived.Pilot.@@N@@Statement
import JvmDerived.Pilot.@@N@@Code
set_option linter.unusedVariables false
set_option linter.unusedSimpArgs false
namespace Jvm.Pilot.@@N@@
open Jvm Jvm.ClassFile Sem Op Lib Jvm.Free Jvm.Stand Jvm.LawKit Jvm.RoadKit Bundle Jvm.Pilot.@@N@@.Jvm.D
section Own
variable {p : Program} {l : Launch} {e : Env} {R : Room} {s : State} {m : MethodId} {args : Array Value} {below : List Frame} {meth : Method} {c : Code} {T : State} {locs : List Loc} {cells slots : Nat} {Q : Option Value → Heap → List Loc → Prop} {C S : Nat}
def Goes (p : Program) (e : Env) (below : List Frame) (P : Outcome → State → Prop) (A : State) : Prop :=
  ∃ s₂ o, Steps p.tables e below A s₂ ∧ s₂.status = .running ∧ Ended s₂ below o ∧ P o s₂
def Fin_ (s : State) (Q : Option Value → Heap → List Loc → Prop) (C S : Nat) (o : Outcome) (U' : State) : Prop :=
  ∃ v L, o = .returned v ∧ Q v U'.heap L ∧ FrameEnd s o U' L C S
theorem Goes.via {P : Outcome → State → Prop} {A B : State} (st : ∀ t, Steps p.tables e below B t → Steps p.tables e below A t) (k : Goes p e below P B) : Goes p e below P A := by
  obtain ⟨s₂, o, h1, h2⟩ := k
  exact ⟨s₂, o, st _ h1, h2⟩
theorem Goes.tr {P : Outcome → State → Prop} {A B : State} (st : Steps p.tables e below A B) (k : Goes p e below P B) : Goes p e below P A := by
  obtain ⟨s₂, o, h1, h2⟩ := k
  exact ⟨s₂, o, st.trans h1, h2⟩
theorem own_fin {pc : Nat} {Ls : Array Slot} {st : List Value} (X : Stand p l e R s m args below meth c T locs cells slots) (hlk : meth.locks = false) {v : Option Value} (hv : meth.sig.returnType = none → v = none)
    (hstep : ∀ fs, (∀ (f : JFrame) (acts : List Action), f.method = m → f.locked = none → f.entered = [] → (doReturn e (T.setTop f) acts v).1 = T.setFrames fs) → Steps p.tables e below (T.setTop (mkF m pc Ls st)) (T.setFrames fs))
    (hQ : Q v T.heap locs) (hC : cells ≤ C) (hS : slots ≤ S) : Goes p e below (Fin_ s Q C S) (T.setTop (mkF m pc Ls st)) := by
  obtain ⟨fs, hr, hrun, hended, hW, hsame⟩ := X.leave (v := v) hv hlk
  exact ⟨_, _, hstep fs hr, hrun, hended, _, _, rfl, hQ, ⟨_, rfl⟩, hW, hsame.mono hC hS⟩
theorem own_finV {pc : Nat} {Ls : Array Slot} (X : Stand p l e R s m args below meth c T locs cells slots) (hx : p.tables.exec = Jvm.exec) (hlk : meth.locks = false) (hret : meth.sig.returnType = none)
    (hd : decode c.code pc = .ok (.return_, 1)) (hQ : Q none T.heap locs) (hC : cells ≤ C) (hS : slots ≤ S) : Goes p e below (Fin_ s Q C S) (T.setTop (mkF m pc Ls [])) :=
  own_fin X hlk (fun _ => rfl) (fun _ hr => X.returnOut hx hret hd hr) hQ hC hS
theorem own_finI {pc : Nat} {Ls : Array Slot} {z : Int32} {rest : List Value} (X : Stand p l e R s m args below meth c T locs cells slots) (hx : p.tables.exec = Jvm.exec) (hlk : meth.locks = false) (hret : meth.sig.returnType = some .int)
    (hd : decode c.code pc = .ok (.ireturn, 1)) (hQ : Q (some (.int z)) T.heap locs) (hC : cells ≤ C) (hS : slots ≤ S) : Goes p e below (Fin_ s Q C S) (T.setTop (mkF m pc Ls (.int z :: rest))) :=
  own_fin X hlk (fun h => by rw [hret] at h; cases h) (fun _ hr => retOut X hx hret rfl (Or.inl ⟨rfl, Or.inl rfl, _, rfl⟩) hd hr) hQ hC hS
theorem own_finN {pc : Nat} {Ls : Array Slot} {z : Int32} {rest : List Value} (X : Stand p l e R s m args below meth c T locs cells slots) (hx : p.tables.exec = Jvm.exec) (hlk : meth.locks = false) {t : FieldType} (hret : meth.sig.returnType = some t)
    (ht : t = .boolean ∨ t = .byte ∨ t = .char ∨ t = .short) (hd : decode c.code pc = .ok (.ireturn, 1)) (hQ : Q (some (.int (nar t z))) T.heap locs) (hC : cells ≤ C) (hS : slots ≤ S) : Goes p e below (Fin_ s Q C S) (T.setTop (mkF m pc Ls (.int z :: rest))) :=
  own_fin X hlk (fun h => by rw [hret] at h; cases h) (fun _ hr => retN X hx hret ht hd hr) hQ hC hS
theorem own_finJ {pc : Nat} {Ls : Array Slot} {z : Int64} {rest : List Value} (X : Stand p l e R s m args below meth c T locs cells slots) (hx : p.tables.exec = Jvm.exec) (hlk : meth.locks = false) (hret : meth.sig.returnType = some .long)
    (hd : decode c.code pc = .ok (.lreturn, 1)) (hQ : Q (some (.long z)) T.heap locs) (hC : cells ≤ C) (hS : slots ≤ S) : Goes p e below (Fin_ s Q C S) (T.setTop (mkF m pc Ls (.long z :: rest))) :=
  own_fin X hlk (fun h => by rw [hret] at h; cases h) (fun _ hr => retOut X hx hret rfl (Or.inr (Or.inl ⟨rfl, rfl, _, rfl⟩)) hd hr) hQ hC hS
theorem own_finR {pc : Nat} {Ls : Array Slot} {w : Value} {rest : List Value} (X : Stand p l e R s m args below meth c T locs cells slots) (hx : p.tables.exec = Jvm.exec) (hlk : meth.locks = false) {t : FieldType} (hret : meth.sig.returnType = some t) (ht : t.isReference = true) (hw : w.isRef = true) (hn : narrow t w = w)
    (hd : decode c.code pc = .ok (.areturn, 1)) (hQ : Q (some w) T.heap locs) (hC : cells ≤ C) (hS : slots ≤ S) : Goes p e below (Fin_ s Q C S) (T.setTop (mkF m pc Ls (w :: rest))) :=
  own_fin X hlk (fun h => by rw [hret] at h; cases h) (fun _ hr => retOut X hx hret hn (Or.inr (Or.inr (Or.inr (Or.inr ⟨rfl, ht, hw⟩)))) hd hr) hQ hC hS
theorem own_sta_keep {Z : State} {h h' : Heap} {C n d : String} {v : Value} (F : Sta Z h C n d v) (K : Keep h h' []) : Sta Z h' C n d v := by
  obtain ⟨cf, i, k, f, st, cell, h1, h2, h3, h4, h5, h6⟩ := F
  exact ⟨cf, i, k, f, st, cell, h1, h2, h3, h4, K.2.1 _ _ h5 nin0, h6⟩
theorem own_mask (x : Int32) : ¬ (x &&& (2147483647 : Int32)) < (0 : Int32) := by
  intro q
  have q1 := (c_and x 2147483647 (by decide)).1
  have q2 := Int32.lt_iff_toInt_lt.mp q
  have q3 : (0 : Int32).toInt = 0 := by decide
  omega
theorem own_and255 (x : Int32) : ¬ (x &&& (255 : Int32)) < 0 ∧ ¬ (255 : Int32) < (x &&& (255 : Int32)) := by
  have q1 := c_and x 255 (by decide)
  have q3 : (0 : Int32).toInt = 0 := by decide
  have q4 : (255 : Int32).toInt = 255 := by decide
  constructor
  · intro q
    have q2 := Int32.lt_iff_toInt_lt.mp q
    omega
  · intro q
    have q2 := Int32.lt_iff_toInt_lt.mp q
    omega
end Own
section Arrays
variable {p : Program} {l : Launch} {e : Env} {R : Room} {s : State} {m : MethodId} {args : Array Value} {below : List Frame} {meth : Method} {c : Code} {T : State} {locs : List Loc} {cells slots : Nat} {Z : State} {a0 : Array Value} {h h' : Heap} {a b : Addr} {k : ClassId} {ty : FieldType} {n : Nat} {f : Nat → Value} {ws : List Addr}
def Arw (Z : State) (h : Heap) (a : Addr) (k : ClassId) (ty : FieldType) (n : Nat) (f : Nat → Value) : Prop :=
  ∃ c : Cell, Arr Z h a c ty ∧ c.cls = k ∧ c.slots.size = n ∧ n < 2147483648 ∧ (∀ i, i < n → c.slots[i]? = some (f i)) ∧ ∀ i, i < n → fits ty (f i) = true
def own_upd (f : Nat → Value) (i : Nat) (v : Value) : Nat → Value := fun q => if q = i then v else f q
theorem own_upd_same (f : Nat → Value) (i : Nat) (v : Value) : own_upd f i v i = v := if_pos rfl
theorem own_upd_ne (f : Nat → Value) {i j : Nat} (v : Value) (q : j ≠ i) : own_upd f i v j = f j := if_neg q
theorem Arw.lt (F : Arw Z h a k ty n f) : a < h.size := by
  obtain ⟨c, A, -⟩ := F
  exact A.lt
theorem Arw.ext (F : Arw Z h a k ty n f) (E : Ext h h') : Arw Z h' a k ty n f := by
  obtain ⟨c, A, r⟩ := F
  exact ⟨c, A.ext E, r⟩
theorem Arw.other {sl : Nat} {v : Value} (F : Arw Z h b k ty n f) (W : Wr h h' a sl v) (q : b ≠ a) : Arw Z h' b k ty n f := by
  obtain ⟨c, A, r⟩ := F
  exact ⟨c, A.other W q, r⟩
theorem Arw.keep (F : Arw Z h a k ty n f) (K : Keep h h' ws) (q : a ∉ ws) : Arw Z h' a k ty n f := by
  obtain ⟨c, A, r⟩ := F
  exact ⟨c, ⟨K.2.1 _ _ A.1 q, A.2⟩, r⟩
theorem Arw.to {f' : Nat → Value} (F : Arw Z h a k ty n f) (q : ∀ i, i < n → f' i = f i) : Arw Z h a k ty n f' := by
  obtain ⟨c, A, h1, h2, h3, h4, h5⟩ := F
  exact ⟨c, A, h1, h2, h3, fun i hi => by rw [q i hi]; exact h4 i hi, fun i hi => by rw [q i hi]; exact h5 i hi⟩
theorem own_ne_arr {C : String} {kk : Nat} (F : Exa Z h a C) (wi : (Cond.instantiable C kk).before a0 Z = true) (G : Arw Z h b k ty n f) : a ≠ b := by
  obtain ⟨c, A, -⟩ := G
  exact ne_arr F wi A
theorem own_newP (X : Stand p l e R s m args below meth c T locs cells slots) (hx : p.tables.exec = Jvm.exec) (hZ : Z.Warmed39 s.vm) {aty : ArrayType} (w : (Cond.arrayClass (newarray.typeOf aty)).before a0 Z = true) (eT : T.heap = h) {g : JFrame} (hg : g.method = m)
    (hd : decode c.code g.pc = .ok (.newarray aty, 2)) {n : Int32} {rest : List Value} (hs : g.stack = .int n :: rest) {N : Nat} (hn : ¬ n < 0) (hN : n.toNatClampNeg = N) {cap : Nat} (hcap : N ≤ cap) (hb : cap * 8 ≤ 536870912) (hc : cells + 1 ≤ R.cells) (hl : slots + cap ≤ R.slots) :
    ∃ T' h' cA, Stand p l e R s m args below meth c T' locs (cells + 1) (slots + cap) ∧ T'.heap = h' ∧ Ext h h' ∧ Arw Z h' h.size cA (newarray.typeOf aty) N (fun _ => defaultValue (newarray.typeOf aty)) ∧
      ∀ target, Steps p.tables e below (T'.setTop { g with pc := g.pc + 2, stack := .ref h.size :: rest }) target → Steps p.tables e below (T.setTop g) target := by
  obtain ⟨T', h', cA, X', e', E', A', st⟩ := newP X hx hZ w eT hg hd hs hn (cap := cap) (by omega) hb hc hl
  refine ⟨T', h', cA, X', e', E', ⟨_, A', rfl, (sz_new _ _ _).trans hN, by omega, fun i hi => ?_, fun i hi => ?_⟩, st⟩
  · subst hN
    simp [newA, hi]
  · cases aty <;> rfl
theorem own_alen (X : Stand p l e R s m args below meth c T locs cells slots) (hx : p.tables.exec = Jvm.exec) (hZ : Z.Warmed39 s.vm) (eT : T.heap = h) (A : Arw Z h a k ty n f) {g : JFrame} (hg : g.method = m) {rest : List Value} (hs : g.stack = .ref a :: rest) (hd : decode c.code g.pc = .ok (.arraylength, 1)) :
    ∀ target, Steps p.tables e below (T.setTop { g with pc := g.pc + 1, stack := .int n.toInt32 :: rest }) target → Steps p.tables e below (T.setTop g) target := by
  obtain ⟨c, A, h1, h2, h3, h4, h5⟩ := A
  intro target kk
  refine X.arraylength hx (by rw [eT]; exact A.1) (State.isArrayOf_alike hZ.alike A.2.1) hg hs hd target ?_
  rw [h2]
  exact kk
theorem own_in {cl : Cell} {j : Int32} {i : Nat} (h2 : cl.slots.size = n) (hj : ¬ j < 0) (hji : j.toNatClampNeg = i) (hi : i < n) : ¬ (j < 0 ∨ cl.slots.size ≤ j.toNatClampNeg) := by
  rintro (q | q)
  · exact hj q
  · omega
theorem own_iaload (X : Stand p l e R s m args below meth c T locs cells slots) (hx : p.tables.exec = Jvm.exec) (hZ : Z.Warmed39 s.vm) (eT : T.heap = h) (A : Arw Z h a k .int n f) {j : Int32} {i : Nat} (hj : ¬ j < 0) (hji : j.toNatClampNeg = i) (hi : i < n) {v : Int32} (hv : f i = .int v)
    {g : JFrame} (hg : g.method = m) {rest : List Value} (hs : g.stack = .int j :: .ref a :: rest) (hd : decode c.code g.pc = .ok (.iaload, 1)) :
    ∀ target, Steps p.tables e below (T.setTop { g with pc := g.pc + 1, stack := .int v :: rest }) target → Steps p.tables e below (T.setTop g) target := by
  obtain ⟨cl, A, h1, h2, h3, h4, h5⟩ := A
  intro target kk
  exact X.iaload hx (by rw [eT]; exact A.1) (State.isArrayOf_alike hZ.alike A.2.1) A.2.2 (own_in h2 hj hji hi) (by rw [hji, h4 i hi, hv]) hg hs hd target kk
theorem own_laload (X : Stand p l e R s m args below meth c T locs cells slots) (hx : p.tables.exec = Jvm.exec) (hZ : Z.Warmed39 s.vm) (eT : T.heap = h) (A : Arw Z h a k .long n f) {j : Int32} {i : Nat} (hj : ¬ j < 0) (hji : j.toNatClampNeg = i) (hi : i < n) {v : Int64} (hv : f i = .long v)
    {g : JFrame} (hg : g.method = m) {rest : List Value} (hs : g.stack = .int j :: .ref a :: rest) (hd : decode c.code g.pc = .ok (.laload, 1)) :
    ∀ target, Steps p.tables e below (T.setTop { g with pc := g.pc + 1, stack := .long v :: rest }) target → Steps p.tables e below (T.setTop g) target := by
  obtain ⟨cl, A, h1, h2, h3, h4, h5⟩ := A
  intro target kk
  exact X.laload hx (by rw [eT]; exact A.1) (State.isArrayOf_alike hZ.alike A.2.1) A.2.2 (own_in h2 hj hji hi) (by rw [hji, h4 i hi, hv]) hg hs hd target kk
theorem own_aaload (X : Stand p l e R s m args below meth c T locs cells slots) (hx : p.tables.exec = Jvm.exec) (hZ : Z.Warmed39 s.vm) (eT : T.heap = h) (A : Arw Z h a k ty n f) (hty : ty.isReference = true) {j : Int32} {i : Nat} (hj : ¬ j < 0) (hji : j.toNatClampNeg = i) (hi : i < n) {v : Value} (hv : f i = v)
    {g : JFrame} (hg : g.method = m) {rest : List Value} (hs : g.stack = .int j :: .ref a :: rest) (hd : decode c.code g.pc = .ok (.aaload, 1)) :
    ∀ target, Steps p.tables e below (T.setTop { g with pc := g.pc + 1, stack := v :: rest }) target → Steps p.tables e below (T.setTop g) target := by
  obtain ⟨cl, A, h1, h2, h3, h4, h5⟩ := A
  intro target kk
  exact X.aaload hx (by rw [eT]; exact A.1) (State.isArrayOf_alike hZ.alike A.2.1) hty A.2.2 (own_in h2 hj hji hi) (by rw [hji, h4 i hi, hv]) hg hs hd target kk
theorem own_ix {j : Int32} {i : Nat} (h : j.toInt = i) : ¬ j < 0 ∧ j.toNatClampNeg = i := by
  constructor
  · intro q
    have q1 := Int32.lt_iff_toInt_lt.mp q
    have q3 : (0 : Int32).toInt = 0 := by decide
    omega
  · show j.toInt.toNat = i
    omega
theorem own_lti {x y : Int32} : x < y ↔ x.toInt < y.toInt := Int32.lt_iff_toInt_lt
theorem Arw.ofArv {z : Int32} {vs : List Value} {dv : Value} (F : Arv Z h a k ty z vs dv) (hn : z.toNatClampNeg = n) (q : ∀ i, i < n → vs.getD i dv = f i) : Arw Z h a k ty n f := by
  obtain ⟨c, A, h1, h2, h3, h4, h5⟩ := F
  have hb := (back32 h3).2
  refine ⟨c, A, h1, h2.trans hn, by omega, fun i hi => ?_, fun i hi => ?_⟩
  · rw [h4 i (by omega), q i hi]
  · rw [← q i hi]
    exact h5 i (by omega)
theorem own_set {cl : Cell} {j : Int32} {i : Nat} {v : Value} (A : Arr Z h a cl ty) (h1 : cl.cls = k) (h2 : cl.slots.size = n) (h3 : n < 2147483648) (h4 : ∀ i, i < n → cl.slots[i]? = some (f i)) (h5 : ∀ i, i < n → fits ty (f i) = true) (hv : fits ty v = true) (W : Wr h h' a j.toNatClampNeg v) (hji : j.toNatClampNeg = i) (hi : i < n) :
    Arw Z h' a k ty n (own_upd f i v) := by
  subst hji
  refine ⟨_, A.same W, h1, by rw [sz_set]; exact h2, h3, fun q hq => ?_, fun q hq => ?_⟩
  · by_cases e : q = j.toNatClampNeg
    · subst e
      rw [own_upd_same]
      simp [Cell.setSlot, h2, hq]
    · rw [own_upd_ne _ _ e, ← h4 q hq]
      simp [Cell.setSlot, Array.getElem?_setIfInBounds, Ne.symm e]
  · by_cases e : q = j.toNatClampNeg
    · subst e
      rw [own_upd_same]
      exact hv
    · rw [own_upd_ne _ _ e]
      exact h5 q hq
theorem own_iastore (X : Stand p l e R s m args below meth c T locs cells slots) (hx : p.tables.exec = Jvm.exec) (hZ : Z.Warmed39 s.vm) (eT : T.heap = h) (A : Arw Z h a k .int n f) {j : Int32} {i : Nat} (hj : ¬ j < 0) (hji : j.toNatClampNeg = i) (hi : i < n)
    {g : JFrame} (hg : g.method = m) {x : Int32} {rest : List Value} (hs : g.stack = .int x :: .int j :: .ref a :: rest) (hd : decode c.code g.pc = .ok (.iastore, 1)) :
    ∃ T' h', Stand p l e R s m args below meth c T' (locs ++ [⟨a, j.toNatClampNeg⟩]) cells slots ∧ T'.heap = h' ∧ Wr h h' a j.toNatClampNeg (.int x) ∧ Arw Z h' a k .int n (own_upd f i (.int x)) ∧
      ∀ target, Steps p.tables e below (T'.setTop { g with pc := g.pc + 1, stack := rest }) target → Steps p.tables e below (T.setTop g) target := by
  obtain ⟨cl, A, h1, h2, h3, h4, h5⟩ := A
  obtain ⟨T', h', X', e', W, st⟩ := stI X hx hZ eT A (j := j) (own_in h2 hj hji hi) hg hs hd
  exact ⟨T', h', X', e', W, own_set A h1 h2 h3 h4 h5 rfl W hji hi, st⟩
theorem own_lastore (X : Stand p l e R s m args below meth c T locs cells slots) (hx : p.tables.exec = Jvm.exec) (hZ : Z.Warmed39 s.vm) (eT : T.heap = h) (A : Arw Z h a k .long n f) {j : Int32} {i : Nat} (hj : ¬ j < 0) (hji : j.toNatClampNeg = i) (hi : i < n)
    {g : JFrame} (hg : g.method = m) {x : Int64} {rest : List Value} (hs : g.stack = .long x :: .int j :: .ref a :: rest) (hd : decode c.code g.pc = .ok (.lastore, 1)) :
    ∃ T' h', Stand p l e R s m args below meth c T' (locs ++ [⟨a, j.toNatClampNeg⟩]) cells slots ∧ T'.heap = h' ∧ Wr h h' a j.toNatClampNeg (.long x) ∧ Arw Z h' a k .long n (own_upd f i (.long x)) ∧
      ∀ target, Steps p.tables e below (T'.setTop { g with pc := g.pc + 1, stack := rest }) target → Steps p.tables e below (T.setTop g) target := by
  obtain ⟨cl, A, h1, h2, h3, h4, h5⟩ := A
  obtain ⟨T', h', X', e', W, st⟩ := stJ X hx hZ eT A (j := j) (own_in h2 hj hji hi) hg hs hd
  exact ⟨T', h', X', e', W, own_set A h1 h2 h3 h4 h5 rfl W hji hi, st⟩
theorem own_castore (X : Stand p l e R s m args below meth c T locs cells slots) (hx : p.tables.exec = Jvm.exec) (hZ : Z.Warmed39 s.vm) (eT : T.heap = h) (A : Arw Z h a k .char n f) {j : Int32} {i : Nat} (hj : ¬ j < 0) (hji : j.toNatClampNeg = i) (hi : i < n)
    {g : JFrame} (hg : g.method = m) {x : Int32} {rest : List Value} (hs : g.stack = .int x :: .int j :: .ref a :: rest) (hd : decode c.code g.pc = .ok (.castore, 1)) :
    ∃ T' h', Stand p l e R s m args below meth c T' (locs ++ [⟨a, j.toNatClampNeg⟩]) cells slots ∧ T'.heap = h' ∧ Wr h h' a j.toNatClampNeg (.int (nar .char x)) ∧ Arw Z h' a k .char n (own_upd f i (.int (nar .char x))) ∧
      ∀ target, Steps p.tables e below (T'.setTop { g with pc := g.pc + 1, stack := rest }) target → Steps p.tables e below (T.setTop g) target := by
  obtain ⟨cl, A, h1, h2, h3, h4, h5⟩ := A
  obtain ⟨T', h', X', e', W, st⟩ := stC X hx hZ eT A (j := j) (own_in h2 hj hji hi) hg hs hd
  exact ⟨T', h', X', e', W, own_set A h1 h2 h3 h4 h5 (fits_nar_char _) W hji hi, st⟩
theorem own_caload (X : Stand p l e R s m args below meth c T locs cells slots) (hx : p.tables.exec = Jvm.exec) (hZ : Z.Warmed39 s.vm) (eT : T.heap = h) (A : Arw Z h a k .char n f) {j : Int32} {i : Nat} (hj : ¬ j < 0) (hji : j.toNatClampNeg = i) (hi : i < n) {v : Int32} (hv : f i = .int v)
    {g : JFrame} (hg : g.method = m) {rest : List Value} (hs : g.stack = .int j :: .ref a :: rest) (hd : decode c.code g.pc = .ok (.caload, 1)) :
    ∀ target, Steps p.tables e below (T.setTop { g with pc := g.pc + 1, stack := .int v :: rest }) target → Steps p.tables e below (T.setTop g) target := by
  obtain ⟨cl, A, h1, h2, h3, h4, h5⟩ := A
  intro target kk
  exact X.caload hx (by rw [eT]; exact A.1) (State.isArrayOf_alike hZ.alike A.2.1) A.2.2 (own_in h2 hj hji hi) (by rw [hji, h4 i hi, hv]) hg hs hd target kk
theorem Arw.toArv {vs : List Value} {dv : Value} {z : Int32} (F : Arw Z h a k ty n f) (hz : z.toInt = (n : Int)) (q : ∀ i, i < n → vs.getD i dv = f i) : Arv Z h a k ty z vs dv := by
  obtain ⟨c, A, h1, h2, h3, h4, h5⟩ := F
  obtain ⟨z0, zn⟩ := own_ix hz
  exact ⟨c, A, h1, h2.trans zn.symm, z0, fun i hi => by rw [h4 i (by omega), q i (by omega)], fun i hi => by rw [q i (by omega)]; exact h5 i (by omega)⟩
end Arrays
theorem own_r1 {k g : Nat} (i : Nat) (q : k ≤ g) : k ≤ g + 1 + i := by omega
theorem own_r2 {a g : Nat} (i : Nat) (q : a < g) : a ≠ g + 1 + i := by omega
theorem own_r3 (g i : Nat) : g ≠ g + 1 + i := by omega
theorem own_r4 {g u i : Nat} (q : ¬ u = i) : g + 1 + u ≠ g + 1 + i := by omega
section Grid
variable {p : Program} {l : Launch} {e : Env} {R : Room} {s : State} {m : MethodId} {args : Array Value} {below : List Frame} {meth : Method} {c : Code} {T : State} {locs : List Loc} {cells slots : Nat} {Z : State} {a0 : Array Value} {h h' : Heap} {a b g0 : Addr} {kA kB : ClassId} {N M : Nat} {f : Nat → Nat → Int64} {ws : List Addr}
def Grd (Z : State) (h : Heap) (g : Addr) (kA kB : ClassId) (N M : Nat) (f : Nat → Nat → Int64) : Prop :=
  Arw Z h g kA (.array .long) N (fun i => .ref (g + 1 + i)) ∧ ∀ i, i < N → Arw Z h (g + 1 + i) kB .long M (fun j => .long (f i j))
theorem Grd.lt (G : Grd Z h g0 kA kB N M f) : g0 < h.size := G.1.lt
theorem Grd.ext (G : Grd Z h g0 kA kB N M f) (E : Ext h h') : Grd Z h' g0 kA kB N M f := ⟨G.1.ext E, fun i hi => (G.2 i hi).ext E⟩
theorem Grd.low {sl : Nat} {v : Value} (G : Grd Z h g0 kA kB N M f) (W : Wr h h' a sl v) (q : a < g0) : Grd Z h' g0 kA kB N M f :=
  ⟨G.1.other W (Nat.ne_of_gt q), fun i hi => (G.2 i hi).other W (Ne.symm (own_r2 i q))⟩
theorem Grd.to {f' : Nat → Nat → Int64} (G : Grd Z h g0 kA kB N M f) (q : ∀ i j, i < N → j < M → f' i j = f i j) : Grd Z h g0 kA kB N M f' :=
  ⟨G.1, fun i hi => (G.2 i hi).to fun j hj => by rw [q i j hi hj]⟩
theorem own_grid (X : Stand p l e R s m args below meth c T locs cells slots) (hx : p.tables.exec = Jvm.exec) (hZ : Z.Warmed39 s.vm) {own : String} {index : Nat} (hown : s.vm.findClass own = some m.cls)
    (w1 : (Cond.classLink own index "[[J").before a0 Z = true) (w2 : (Cond.arrayOver (.array .long)).before a0 Z = true) (w3 : (Cond.arrayClass .long).before a0 Z = true) (eT : T.heap = h) {g : JFrame} (hg : g.method = m) (hd : decode c.code g.pc = .ok (.multianewarray index 2, 4)) {n k : Int32} {rest : List Value} (hs : g.stack = .int k :: .int n :: rest)
    (hn : n.toInt = N) (hk : k.toInt = M) {cap : Nat} (hcap : M ≤ cap) (hb : cap * 8 ≤ 536870912) (hb1 : N ≤ 1000) (hc : cells + (1 + N) ≤ R.cells) (hl : slots + (N + N * cap) ≤ R.slots) :
    ∃ (T' : State) (h' : Heap) (kA kB : ClassId), Stand p l e R s m args below meth c T' locs (cells + (1 + N)) (slots + (N + N * cap)) ∧ T'.heap = h' ∧ Ext h h' ∧ Grd Z h' h.size kA kB N M (fun _ _ => 0) ∧
      ∀ target, Steps p.tables e below (T'.setTop { g with pc := g.pc + 4, stack := .ref h.size :: rest }) target → Steps p.tables e below (T.setTop g) target := by
  obtain ⟨hn0, hnN⟩ := own_ix hn
  obtain ⟨hk0, hkM⟩ := own_ix hk
  obtain ⟨T', h', cA, cB, X', e', E', A', O', -, rows, st⟩ := gridM X hx hZ hown (C := "[J") (ad := "[[J") (by decide) (by decide) w1 w2 w3 eT hg hd hs hn0 hk0 hnN rfl (cap := cap) (by omega) hb hb1 rfl rfl hc hl
  refine ⟨T', h', cA, cB, X', e', E', ⟨Arw.ofArv A' hnN ?_, fun i hi => ?_⟩, st⟩
  · intro i hi
    simp [hi]
  · obtain ⟨A1, -⟩ := rows i (h.size + 1 + i) (by simp [hi])
    have hz := (back32 hk0).2
    refine ⟨_, A1, rfl, (sz_new _ _ _).trans hkM, by omega, fun j hj => ?_, fun j hj => rfl⟩
    subst hkM
    simp [newA, hj]
    rfl
theorem own_glaload (X : Stand p l e R s m args below meth c T locs cells slots) (hx : p.tables.exec = Jvm.exec) (hZ : Z.Warmed39 s.vm) (eT : T.heap = h) (G : Grd Z h g0 kA kB N M f) {i j : Nat} {jj : Int32} (hi : i < N) (hjj : jj.toInt = j) (hj : j < M)
    {g : JFrame} (hg : g.method = m) {rest : List Value} (hs : g.stack = .int jj :: .ref (g0 + 1 + i) :: rest) (hd : decode c.code g.pc = .ok (.laload, 1)) :
    ∀ target, Steps p.tables e below (T.setTop { g with pc := g.pc + 1, stack := .long (f i j) :: rest }) target → Steps p.tables e below (T.setTop g) target :=
  own_laload X hx hZ eT (G.2 i hi) (own_ix hjj).1 (own_ix hjj).2 hj rfl hg hs hd
theorem own_gaaload (X : Stand p l e R s m args below meth c T locs cells slots) (hx : p.tables.exec = Jvm.exec) (hZ : Z.Warmed39 s.vm) (eT : T.heap = h) (G : Grd Z h g0 kA kB N M f) {i : Nat} {ii : Int32} (hii : ii.toInt = i) (hi : i < N)
    {g : JFrame} (hg : g.method = m) {rest : List Value} (hs : g.stack = .int ii :: .ref g0 :: rest) (hd : decode c.code g.pc = .ok (.aaload, 1)) :
    ∀ target, Steps p.tables e below (T.setTop { g with pc := g.pc + 1, stack := .ref (g0 + 1 + i) :: rest }) target → Steps p.tables e below (T.setTop g) target :=
  own_aaload X hx hZ eT G.1 rfl (own_ix hii).1 (own_ix hii).2 hi rfl hg hs hd
theorem own_glastore (X : Stand p l e R s m args below meth c T locs cells slots) (hx : p.tables.exec = Jvm.exec) (hZ : Z.Warmed39 s.vm) (eT : T.heap = h) (G : Grd Z h g0 kA kB N M f) {i j : Nat} {jj : Int32} (hi : i < N) (hjj : jj.toInt = j) (hj : j < M)
    {g : JFrame} (hg : g.method = m) {x : Int64} {rest : List Value} (hs : g.stack = .long x :: .int jj :: .ref (g0 + 1 + i) :: rest) (hd : decode c.code g.pc = .ok (.lastore, 1)) :
    ∃ T' h', Stand p l e R s m args below meth c T' (locs ++ [⟨g0 + 1 + i, jj.toNatClampNeg⟩]) cells slots ∧ T'.heap = h' ∧ Wr h h' (g0 + 1 + i) jj.toNatClampNeg (.long x) ∧ Grd Z h' g0 kA kB N M (fun u v => if u = i ∧ v = j then x else f u v) ∧
      ∀ target, Steps p.tables e below (T'.setTop { g with pc := g.pc + 1, stack := rest }) target → Steps p.tables e below (T.setTop g) target := by
  obtain ⟨T', h', X', e', W, A, st⟩ := own_lastore X hx hZ eT (G.2 i hi) (own_ix hjj).1 (own_ix hjj).2 hj hg hs hd
  refine ⟨T', h', X', e', W, ⟨G.1.other W (own_r3 g0 i), fun u hu => ?_⟩, st⟩
  by_cases q : u = i
  · subst q
    refine A.to fun v hv => ?_
    by_cases q2 : v = j
    · subst q2
      simp [own_upd]
    · simp [own_upd, q2]
  · refine ((G.2 u hu).other W (own_r4 q)).to fun v hv => ?_
    simp [q]
end Grid
theorem own_enum {x : Int32} {n : Nat} (h0 : 0 ≤ x.toInt) (h1 : x.toInt < n) : ∃ k, k < n ∧ x = Int32.ofNat k := by
  refine ⟨x.toInt.toNat, by omega, ?_⟩
  have := rng32 x
  apply Int32.toInt_inj.mp
  rw [Int32.toInt_ofNat_of_lt (by omega)]
  omega
theorem own_s1 {x : Int32} {n : Nat} (h : x.toInt = (n : Int)) (hn : n < 1000) : (x + (1 : Int32)).toInt = ((n + 1 : Nat) : Int) := by
  have q1 := c_iadd x 1
  have q2 := rng32 (x + 1)
  have q3 : (1 : Int32).toInt = 1 := by decide
  omega
theorem own_d1 {x : Int32} {n : Nat} (h : x.toInt = (n : Int)) (h1 : 1 ≤ n) : (x - (1 : Int32)).toInt = ((n - 1 : Nat) : Int) := by
  have q1 := c_isub x 1
  have q2 := rng32 (x - 1)
  have q3 : (1 : Int32).toInt = 1 := by decide
  have q4 := rng32 x
  omega
def own_C : Nat → Nat → Int64
  | _, 0 => 1
  | 0, _ + 1 => 0
  | i + 1, j + 1 => own_C i j + own_C i (j + 1)
theorem own_C_0 : ∀ (i j : Nat), i < j → own_C i j = 0
  | 0, j + 1, _ => rfl
  | i + 1, j + 1, h => by
    rw [own_C, own_C_0 i j (by omega), own_C_0 i (j + 1) (by omega)]
    rfl
theorem own_C_00 (i : Nat) : own_C i 0 = 1 := by cases i <;> rfl
theorem own_C_ss (i j : Nat) (hi : 1 ≤ i) (hj : 1 ≤ j) : own_C i j = own_C (i - 1) (j - 1) + own_C (i - 1) j := by
  obtain ⟨i', rfl⟩ : ∃ i', i = i' + 1 := ⟨i - 1, by omega⟩
  obtain ⟨j', rfl⟩ : ∃ j', j = j' + 1 := ⟨j - 1, by omega⟩
  rfl
def own_in_ (a b : Nat) : Nat → Nat → Int64 := fun u v => if u < a ∨ (u = a ∧ v < b) then own_C u v else 0
theorem own_in_0 (u v : Nat) : own_in_ 0 0 u v = 0 := by
  unfold own_in_
  rw [if_neg (by omega)]
theorem own_in_1 (a u v : Nat) : own_in_ a 1 u v = (if u = a ∧ v = 0 then (1 : Int64) else own_in_ a 0 u v) := by
  unfold own_in_
  by_cases q : u = a ∧ v = 0
  · obtain ⟨rfl, rfl⟩ := q
    rw [if_pos (by omega), if_pos ⟨rfl, rfl⟩, own_C_00]
  · rw [if_neg q]
    by_cases q2 : u < a
    · rw [if_pos (Or.inl q2), if_pos (Or.inl q2)]
    · rw [if_neg (by omega), if_neg (by omega)]
theorem own_in_2 (a b u v : Nat) (ha : 1 ≤ a) (hb : 1 ≤ b) : own_in_ a (b + 1) u v = (if u = a ∧ v = b then (own_in_ a b (a - 1) (b - 1) + own_in_ a b (a - 1) b) else own_in_ a b u v) := by
  by_cases q : u = a ∧ v = b
  · obtain ⟨rfl, rfl⟩ := q
    rw [if_pos ⟨rfl, rfl⟩]
    unfold own_in_
    rw [if_pos (by omega), if_pos (by omega), if_pos (by omega), own_C_ss _ _ ha hb]
  · rw [if_neg q]
    unfold own_in_
    by_cases q2 : u < a ∨ (u = a ∧ v < b)
    · rw [if_pos q2, if_pos (by omega)]
    · rw [if_neg q2, if_neg (by omega)]
theorem own_in_3 (a b mm u v : Nat) (hb : min a mm < b) (hv : v < mm + 1) : own_in_ (a + 1) 0 u v = own_in_ a b u v := by
  unfold own_in_
  by_cases q : u = a
  · subst q
    rw [if_pos (by omega)]
    by_cases q2 : v < b
    · rw [if_pos (by omega)]
    · rw [if_neg (by omega), own_C_0 _ _ (by omega)]
  · by_cases q2 : u < a
    · rw [if_pos (by omega), if_pos (by omega)]
    · rw [if_neg (by omega), if_neg (by omega)]
theorem own_in_4 (n u v : Nat) (hu : u < n) : own_C u v = own_in_ n 0 u v := by
  unfold own_in_
  rw [if_pos (Or.inl hu)]
theorem own_min {x y : Int32} : (if y < x then y else x).toInt = min x.toInt y.toInt := by
  by_cases h : y < x
  · rw [if_pos h]
    have := own_lti.mp h
    omega
  · rw [if_neg h]
    have : ¬ y.toInt < x.toInt := fun q => h (own_lti.mpr q)
    omega
def own_B : Nat → Nat → Nat
  | _, 0 => 1
  | 0, _ + 1 => 0
  | i + 1, j + 1 => own_B i j + own_B i (j + 1)
def own_R : Nat → Nat × Nat × Nat × Nat × Nat
  | 0 => (1, 0, 0, 0, 0)
  | i + 1 => match own_R i with | (a, b, c, d, e) => (1, a + b, b + c, c + d, d + e)
theorem own_R_eq : ∀ i, own_R i = (own_B i 0, own_B i 1, own_B i 2, own_B i 3, own_B i 4)
  | 0 => rfl
  | i + 1 => by
    rw [own_R, own_R_eq i]
    rfl
theorem own_R_le : ∀ i < 65, (own_R i).1 ≤ 700000 ∧ (own_R i).2.1 ≤ 700000 ∧ (own_R i).2.2.1 ≤ 700000 ∧ (own_R i).2.2.2.1 ≤ 700000 ∧ (own_R i).2.2.2.2 ≤ 700000 := by decide +kernel
theorem own_B_le {i j : Nat} (hi : i < 65) (hj : j < 5) : own_B i j ≤ 700000 := by
  have q := own_R_le i hi
  rw [own_R_eq] at q
  obtain ⟨q0, q1, q2, q3, q4⟩ := q
  match j, hj with
  | 0, _ => exact q0
  | 1, _ => exact q1
  | 2, _ => exact q2
  | 3, _ => exact q3
  | 4, _ => exact q4
theorem own_CB : ∀ (i j : Nat), i < 65 → j < 5 → (own_C i j).toInt = (own_B i j : Int)
  | i, 0, _, _ => by cases i <;> rfl
  | 0, _ + 1, _, _ => rfl
  | i + 1, j + 1, hi, hj => by
    have q1 := own_CB i j (by omega) (by omega)
    have q2 := own_CB i (j + 1) (by omega) hj
    have q3 := own_B_le (i := i) (j := j) (by omega) (by omega)
    have q4 := own_B_le (i := i) (j := j + 1) (by omega) hj
    have q5 := c_ladd (own_C i j) (own_C i (j + 1))
    have q6 := rng64 (own_C i j + own_C i (j + 1))
    rw [own_C, own_B]
    omega
theorem own_B_mono (j : Nat) : ∀ {a b : Nat}, a ≤ b → own_B a j ≤ own_B b j := by
  intro a b h
  induction h with
  | refl => exact Nat.le_refl _
  | step h ih =>
    refine Nat.le_trans ih ?_
    cases j with
    | zero => simp [own_B]
    | succ j => rw [own_B]; omega
def own_dn : Nat → List Nat → Prop
  | _, [] => True
  | b, u :: r => u < b ∧ own_dn u r
def own_rk : List Nat → Nat
  | [] => 0
  | u :: r => own_B u (r.length + 1) + own_rk r
def own_or : Int64 → List Nat → Int64
  | acc, [] => acc
  | acc, u :: r => own_or (acc ||| ((1 : Int64) <<< ((Int32.ofNat u) &&& 0x3f).toInt64)) r
theorem own_rk_lt : ∀ (r : List Nat) (u : Nat), own_dn u r → own_rk r < own_B u r.length
  | [], u, _ => by cases u <;> simp [own_rk, own_B]
  | v :: r, u, h => by
    have q := own_rk_lt r v h.2
    have q2 : own_B (v + 1) (r.length + 1) ≤ own_B u (r.length + 1) := own_B_mono _ h.1
    rw [own_B] at q2
    simp only [own_rk, List.length_cons]
    omega
theorem own_up {u w : Nat} {r : List Nat} (h : own_dn u r) (q : u < w) : own_rk (u :: r) < own_B w (r.length + 1) := by
  have q1 := own_rk_lt r u h
  have q2 : own_B (u + 1) (r.length + 1) ≤ own_B w (r.length + 1) := own_B_mono _ q
  rw [own_B] at q2
  simp only [own_rk]
  omega
theorem own_m1 {x : Int32} {n : Nat} (h : x.toInt = (n : Int)) (h1 : 1 ≤ n) : (x + (-1 : Int32)).toInt = ((n - 1 : Nat) : Int) := by
  have q1 := c_iadd x (-1)
  have q2 := rng32 (x + (-1))
  have q3 : (-1 : Int32).toInt = -1 := by decide
  have q4 := rng32 x
  omega
theorem own_ofn {x : Int32} {n : Nat} (h : x.toInt = (n : Int)) (hn : n < 1000) : x = Int32.ofNat n := by
  apply Int32.toInt_inj.mp
  rw [Int32.toInt_ofNat_of_lt (by omega)]
  omega
theorem own_ltL {x y : Int64} : x < y ↔ x.toInt < y.toInt := Int64.lt_iff_toInt_lt
theorem own_sub {lf : Int64} {u : Nat} {r : List Nat} (h : lf.toInt = (own_rk (u :: r) : Int)) (hu : u < 65) (hr : r.length + 1 < 5) : (lf - own_C u (r.length + 1)).toInt = (own_rk r : Int) := by
  have q1 := own_CB u (r.length + 1) hu hr
  have q2 := c_lsub lf (own_C u (r.length + 1))
  have q3 := rng64 (lf - own_C u (r.length + 1))
  have q4 := rng64 lf
  simp only [own_rk] at h
  omega
def own_c2 (u : Int32) : Int64 := (u.toInt64 * (u.toInt64 - (1 : Int64))) / (2 : Int64)
def own_c3 (u : Int32) : Int64 := ((u.toInt64 * (u.toInt64 - (1 : Int64))) * (u.toInt64 - (2 : Int64))) / (6 : Int64)
def own_c4 (u : Int32) : Int64 := (((u.toInt64 * (u.toInt64 - (1 : Int64))) * (u.toInt64 - (2 : Int64))) * (u.toInt64 - (3 : Int64))) / (24 : Int64)
theorem own_cs : ∀ u < 65, (own_c2 (Int32.ofNat u)).toInt = ((own_R u).2.2.1 : Int) ∧ (own_c3 (Int32.ofNat u)).toInt = ((own_R u).2.2.2.1 : Int) ∧ (own_c4 (Int32.ofNat u)).toInt = ((own_R u).2.2.2.2 : Int) ∧ u = (own_R u).2.1 := by decide +kernel
theorem own_c2B {x : Int32} {u : Nat} (h : x.toInt = (u : Int)) (hu : u < 65) : (own_c2 x).toInt = (own_B u 2 : Int) := by
  rw [own_ofn h (by omega), (own_cs u hu).1, own_R_eq]
theorem own_c3B {x : Int32} {u : Nat} (h : x.toInt = (u : Int)) (hu : u < 65) : (own_c3 x).toInt = (own_B u 3 : Int) := by
  rw [own_ofn h (by omega), (own_cs u hu).2.1, own_R_eq]
theorem own_c4B {x : Int32} {u : Nat} (h : x.toInt = (u : Int)) (hu : u < 65) : (own_c4 x).toInt = (own_B u 4 : Int) := by
  rw [own_ofn h (by omega), (own_cs u hu).2.2.1, own_R_eq]
theorem own_c1B {u : Nat} (hu : u < 65) : own_B u 1 = u := by
  have q := (own_cs u hu).2.2.2
  rw [own_R_eq] at q
  exact q.symm
theorem own_five {x : Int32} (h0 : 0 ≤ x.toInt) (h1 : x.toInt < 5) : x = (0 : Int32) ∨ x = (1 : Int32) ∨ x = (2 : Int32) ∨ x = (3 : Int32) ∨ x = (4 : Int32) := by
  obtain ⟨k, hk, rfl⟩ := own_enum (n := 5) h0 (by omega)
  match k, hk with
  | 0, _ => exact Or.inl rfl
  | 1, _ => exact Or.inr (Or.inl rfl)
  | 2, _ => exact Or.inr (Or.inr (Or.inl rfl))
  | 3, _ => exact Or.inr (Or.inr (Or.inr (Or.inl rfl)))
  | 4, _ => exact Or.inr (Or.inr (Or.inr (Or.inr rfl)))
theorem own_rem {x y : Int32} {n : Nat} (hy : y.toInt = (n : Int)) (hn : 0 < n) : 0 ≤ ((x &&& (2147483647 : Int32)) % y).toInt ∧ ((x &&& (2147483647 : Int32)) % y).toInt < n := by
  have q1 := (c_and x 2147483647 (by decide)).1
  have q2 := (c_irem (x &&& 2147483647) y n hy).1 q1
  rw [q2]
  exact ⟨Int.emod_nonneg _ (by omega), Int.emod_lt_of_pos _ (by omega)⟩
theorem own_nz0 {y : Int32} {n : Nat} (hy : y.toInt = (n : Int)) (hn : 0 < n) : y ≠ (0 : Int32) := by
  intro e
  rw [e] at hy
  have q3 : (0 : Int32).toInt = 0 := by decide
  omega
theorem own_dk {h c : Int32} {nh k : Nat} (hh : h.toInt = (nh : Int)) (hc : c.toInt = (k : Int)) (hk : k < nh) : (h - c).toInt = ((nh - k : Nat) : Int) := by
  have q1 := c_isub h c
  have q2 := rng32 (h - c)
  have q3 := rng32 h
  omega
theorem own_pick {x h c v : Int32} {nh k : Nat} (hh : h.toInt = (nh : Int)) (hn : nh ≤ 65) (hc : c.toInt = (k : Int)) (hk : k < nh) (hv : c + ((x &&& (2147483647 : Int32)) % (h - c)) = v) : ∃ u : Nat, v.toInt = (u : Int) ∧ k ≤ u ∧ u < nh := by
  have q := own_rem (x := x) (own_dk hh hc hk) (by omega)
  have q1 := c_iadd c ((x &&& (2147483647 : Int32)) % (h - c))
  have q2 := rng32 (c + ((x &&& (2147483647 : Int32)) % (h - c)))
  rw [hv] at q1 q2
  exact ⟨v.toInt.toNat, by omega, by omega, by omega⟩
theorem own_pick0 {x h v : Int32} {nh : Nat} (hh : h.toInt = (nh : Int)) (hk : 0 < nh) (hv : (x &&& (2147483647 : Int32)) % h = v) : ∃ u : Nat, v.toInt = (u : Int) ∧ u < nh := by
  have q := own_rem (x := x) hh hk
  rw [hv] at q
  exact ⟨v.toInt.toNat, by omega, by omega⟩
theorem own_sz5 (x : Int32) : 0 ≤ ((x &&& (2147483647 : Int32)) % (5 : Int32)).toInt ∧ ((x &&& (2147483647 : Int32)) % (5 : Int32)).toInt < 5 := own_rem (n := 5) (by decide) (by decide)
theorem own_users {x c d v : Int32} {k : Nat} (hc : c.toInt = (k : Int)) (hd : d.toInt = ((65 - k : Nat) : Int)) (hk : k ≤ 4) (hv : c + ((x &&& (2147483647 : Int32)) % d) = v) : ∃ u : Nat, v.toInt = (u : Int) ∧ k ≤ u ∧ u ≤ 64 := by
  have q := own_rem (x := x) hd (by omega)
  have q1 := c_iadd c ((x &&& (2147483647 : Int32)) % d)
  have q2 := rng32 (c + ((x &&& (2147483647 : Int32)) % d))
  rw [hv] at q1 q2
  exact ⟨v.toInt.toNat, by omega, by omega, by omega⟩
theorem own_addL {x y z : Int64} {a b : Nat} (hx : x.toInt = (a : Int)) (hy : y.toInt = (b : Int)) (h : a + b ≤ 9000000) (hz : x + y = z) : z.toInt = ((a + b : Nat) : Int) := by
  have q1 := c_ladd x y
  have q2 := rng64 (x + y)
  rw [hz] at q1 q2
  omega
theorem own_l2i {x : Int64} {a : Nat} (hx : x.toInt = (a : Int)) (h : a ≤ 9000000) : x.toInt32.toInt = (a : Int) := by
  have q1 := c_l2i x
  have q2 := rng32 x.toInt32
  omega
theorem ef_rm3 (m : MethodId) (x : Int32) (y : Int32) : entryFrame m #[(.int x), (.int y)] 2 = mkF m 0 #[.val (.int x), .val (.int y)] [] := by first | (simp [entryFrame, mkF, argsToLocals, Value.category]; done) | rfl
def Qrm3 (Z : State) (x : Int32) (y : Int32) (h0 : Heap) (n0 : Nat) (v_ : Option Value) (h_ : Heap) (L_ : List Loc) : Prop := v_ = some (.int (if y < x then y else x)) ∧ Fr n0 L_ ∧ h_ = h0
theorem d3_0 : decode jdk_29_method_69_code 0 = .ok (.iload_n 0, 1) := by decide +kernel
theorem d3_1 : decode jdk_29_method_69_code 1 = .ok (.iload_n 1, 1) := by decide +kernel
theorem d3_2 : decode jdk_29_method_69_code 2 = .ok (.if_icmp .gt 7, 3) := by decide +kernel
theorem d3_9 : decode jdk_29_method_69_code 9 = .ok (.iload_n 1, 1) := by decide +kernel
theorem d3_10 : decode jdk_29_method_69_code 10 = .ok (.ireturn, 1) := by decide +kernel
theorem d3_5 : decode jdk_29_method_69_code 5 = .ok (.iload_n 0, 1) := by decide +kernel
theorem d3_6 : decode jdk_29_method_69_code 6 = .ok (.goto 4, 3) := by decide +kernel
set_option maxRecDepth 65536 in
set_option maxHeartbeats 40000000 in
theorem rm3 (l : Launch) (Z : State) (a0 : Array Value) (hw : ∀ d ∈ tables_1, d.before a0 Z = true) (ws : List Jvm.Cond) (x : Int32) (y : Int32) (h0 : Heap) (n0 : Nat) (Z0 : n0 ≤ h0.size) :
    MetFree l (⟨"java/lang/Math", "min", "(II)I"⟩ : MethodName) (head1 (Jvm.Cond.code (⟨"java/lang/Math", "min", "(II)I"⟩ : MethodName) jdk_29_method_69_code 2 (some .int) :: ws) ({ frames := 0, cells := 0, slots := 0, locals := 0 } : Room)) (fun as_ U_ => as_ = #[(.int x), (.int y)] ∧ Z.Warmed39 U_.vm ∧ U_.heap = h0) (fun _ _ _ _ _ => True) (fun _ U_ o_ V_ => ∃ v_ L_, o_ = .returned v_ ∧ Qrm3 Z x y h0 n0 v_ V_.heap L_ ∧ FrameEnd U_ o_ V_ L_ ({ frames := 0, cells := 0, slots := 0, locals := 0 } : Room).cells ({ frames := 0, cells := 0, slots := 0, locals := 0 } : Room).slots) := by
  refine MetFree.of_bodySF (Jvm.Free.JP.mathPlain rfl (by decide +kernel)) hisR ?_
  intro p e s m args below meth c s₁ Bd hml0 hP hK
  obtain ⟨rfl, hZ, hh⟩ := hP
  have hx := Bd.exec
  have hby := Bd.bytes
  have hlk : meth.locks = false := BodyLoose.notSynchronized Bd
  have hret := Bd.returns
  have hml : c.maxLocals = 2 := hml0
  have hown : s.vm.findClass "java/lang/Math" = some m.cls := findClass_of_methodNamed Bd.named
  have hnm := (name_of_methodNamed Bd.named Bd.method).1
  have X0 : Stand p l e ({ frames := 0, cells := 0, slots := 0, locals := 0 } : Room) s m #[(.int x), (.int y)] below meth c s₁ [] 0 0 := Stand.of_body Bd
  have e0 : s₁.heap = h0 := by rw [← hh, Bd.state]; rfl
  have N0 := Fr.nil n0
  show Goes p e below (Fin_ s (Qrm3 Z x y h0 n0) ({ frames := 0, cells := 0, slots := 0, locals := 0 } : Room).cells ({ frames := 0, cells := 0, slots := 0, locals := 0 } : Room).slots) (s₁.setTop (entryFrame m #[(.int x), (.int y)] 2))
  rw [ef_rm3 m x y]
  refine Goes.via (fun _ kk_ => XS.iloadN X0.here hx rfl (hb hby d3_0) rfl  kk_) ?_
  show Goes p e below _ (s₁.setTop (mkF m 1 #[.val (.int x), .val (.int y)] [(.int x)]))
  refine Goes.via (fun _ kk_ => XS.iloadN X0.here hx rfl (hb hby d3_1) rfl  kk_) ?_
  show Goes p e below _ (s₁.setTop (mkF m 2 #[.val (.int x), .val (.int y)] [(.int y), (.int x)]))
  by_cases hc2 : y < x
  · skip
    refine Goes.via (fun _ kk_ => XS.icmpYes X0.here hx rfl (pc0 := 2) (pc' := 9) rfl (hb hby d3_2) rfl (tlt hc2).2.2.1 (by decide) (by decide) kk_) ?_
    show Goes p e below _ (s₁.setTop (mkF m 9 #[.val (.int x), .val (.int y)] []))
    refine Goes.via (fun _ kk_ => XS.iloadN X0.here hx rfl (hb hby d3_9) rfl  kk_) ?_
    show Goes p e below _ (s₁.setTop (mkF m 10 #[.val (.int x), .val (.int y)] [(.int y)]))
    exact own_finI X0 hx hlk hret (hb hby d3_10) (by rw [e0]; exact ⟨(by rw [if_pos hc2]), N0, rfl⟩) (by first | decide | omega | (dsimp only; omega)) (by first | decide | omega | (dsimp only; omega))
  · skip
    refine Goes.via (fun _ kk_ => XS.icmpNo X0.here hx rfl (hb hby d3_2) rfl (flt hc2).2.2.1 kk_) ?_
    show Goes p e below _ (s₁.setTop (mkF m 5 #[.val (.int x), .val (.int y)] []))
    refine Goes.via (fun _ kk_ => XS.iloadN X0.here hx rfl (hb hby d3_5) rfl  kk_) ?_
    show Goes p e below _ (s₁.setTop (mkF m 6 #[.val (.int x), .val (.int y)] [(.int x)]))
    refine Goes.via (fun _ kk_ => XS.goto X0.here hx rfl (pc0 := 6) (pc' := 10) rfl (hb hby d3_6) (by decide) (by decide) kk_) ?_
    show Goes p e below _ (s₁.setTop (mkF m 10 #[.val (.int x), .val (.int y)] [(.int x)]))
    exact own_finI X0 hx hlk hret (hb hby d3_10) (by rw [e0]; exact ⟨(by rw [if_neg hc2]), N0, rfl⟩) (by first | decide | omega | (dsimp only; omega)) (by first | decide | omega | (dsimp only; omega))
theorem ef_rm1 (m : MethodId) (a : Addr) (us : Int32) (la : Int32) : entryFrame m #[(.ref a), (.int us), (.int la)] 5 = mkF m 0 #[.val (.ref a), .val (.int us), .val (.int la), .unset, .unset] [] := by first | (simp [entryFrame, mkF, argsToLocals, Value.category]; done) | rfl
def Qrm1 (Z : State) (a : Addr) (us : Int32) (la : Int32) (n : Nat) (mm : Nat) (h0 : Heap) (n0 : Nat) (v_ : Option Value) (h_ : Heap) (L_ : List Loc) : Prop := ∃ g : Addr, ∃ kA : ClassId, ∃ kB : ClassId, v_ = none ∧ Fr n0 L_ ∧ Keep h0 h_ [a] ∧ h0.size ≤ g ∧ Exa Z h_ a "com/example/checks_on_duty/checksonduty/engine/RankedSets" ∧ Fld Z h_ a "com/example/checks_on_duty/checksonduty/engine/RankedSets" "users" "I" (.int us) ∧ Fld Z h_ a "com/example/checks_on_duty/checksonduty/engine/RankedSets" "binomial" "[[J" (.ref g) ∧ Grd Z h_ g kA kB (n + 1) (mm + 1) own_C
theorem pn_com_example_checks_on_duty_checksonduty_engine_RankedSets : plainName "com/example/checks_on_duty/checksonduty/engine/RankedSets" = true := by first | (simp [plainName, overriddenIn]; done) | decide +kernel
theorem d1_0 : decode prog_44_method_1_code 0 = .ok (.aload_n 0, 1) := by decide +kernel
theorem d1_1 : decode prog_44_method_1_code 1 = .ok (.invokespecial 1, 3) := by decide +kernel
theorem d1_4 : decode prog_44_method_1_code 4 = .ok (.aload_n 0, 1) := by decide +kernel
theorem d1_5 : decode prog_44_method_1_code 5 = .ok (.iload_n 1, 1) := by decide +kernel
theorem d1_6 : decode prog_44_method_1_code 6 = .ok (.putfield 7, 3) := by decide +kernel
theorem d1_9 : decode prog_44_method_1_code 9 = .ok (.aload_n 0, 1) := by decide +kernel
theorem d1_10 : decode prog_44_method_1_code 10 = .ok (.iload_n 1, 1) := by decide +kernel
theorem d1_11 : decode prog_44_method_1_code 11 = .ok (.iconst 1, 1) := by decide +kernel
theorem d1_12 : decode prog_44_method_1_code 12 = .ok (.iadd, 1) := by decide +kernel
theorem d1_13 : decode prog_44_method_1_code 13 = .ok (.iload_n 2, 1) := by decide +kernel
theorem d1_14 : decode prog_44_method_1_code 14 = .ok (.iconst 1, 1) := by decide +kernel
theorem d1_15 : decode prog_44_method_1_code 15 = .ok (.iadd, 1) := by decide +kernel
theorem d1_16 : decode prog_44_method_1_code 16 = .ok (.multianewarray 13 2, 4) := by decide +kernel
theorem d1_20 : decode prog_44_method_1_code 20 = .ok (.putfield 15, 3) := by decide +kernel
theorem d1_23 : decode prog_44_method_1_code 23 = .ok (.iconst 0, 1) := by decide +kernel
theorem d1_24 : decode prog_44_method_1_code 24 = .ok (.istore_n 3, 1) := by decide +kernel
theorem d1_25 : decode prog_44_method_1_code 25 = .ok (.iload_n 3, 1) := by decide +kernel
theorem d1_26 : decode prog_44_method_1_code 26 = .ok (.iload_n 1, 1) := by decide +kernel
theorem d1_27 : decode prog_44_method_1_code 27 = .ok (.if_icmp .gt 71, 3) := by decide +kernel
theorem d1_98 : decode prog_44_method_1_code 98 = .ok (.return_, 1) := by decide +kernel
theorem d1_30 : decode prog_44_method_1_code 30 = .ok (.aload_n 0, 1) := by decide +kernel
theorem d1_31 : decode prog_44_method_1_code 31 = .ok (.getfield 15, 3) := by decide +kernel
theorem d1_34 : decode prog_44_method_1_code 34 = .ok (.iload_n 3, 1) := by decide +kernel
theorem d1_35 : decode prog_44_method_1_code 35 = .ok (.aaload, 1) := by decide +kernel
theorem d1_36 : decode prog_44_method_1_code 36 = .ok (.iconst 0, 1) := by decide +kernel
theorem d1_37 : decode prog_44_method_1_code 37 = .ok (.lconst 1, 1) := by decide +kernel
theorem d1_38 : decode prog_44_method_1_code 38 = .ok (.lastore, 1) := by decide +kernel
theorem d1_39 : decode prog_44_method_1_code 39 = .ok (.iconst 1, 1) := by decide +kernel
theorem os_rm1_40_17 {z0 : Value} {z1 : Value} {z2 : Value} {z3 : Value} {s4 : Slot} {v : Int32} (h : One s4) : storeLocals #[.val z0, .val z1, .val z2, .val z3, s4] 4 (.int v) = some #[.val z0, .val z1, .val z2, .val z3, .val (.int v)] := by
  rcases h with rfl | ⟨w, rfl, hw⟩
  · rfl
  · cases w <;> first | rfl | (simp [Value.category] at hw)
theorem d1_40 : decode prog_44_method_1_code 40 = .ok (.istore 4, 2) := by decide +kernel
theorem d1_42 : decode prog_44_method_1_code 42 = .ok (.iload 4, 2) := by decide +kernel
theorem d1_44 : decode prog_44_method_1_code 44 = .ok (.iload_n 3, 1) := by decide +kernel
theorem d1_45 : decode prog_44_method_1_code 45 = .ok (.iload_n 2, 1) := by decide +kernel
theorem pd_0 : parseMethodDescriptor "(II)I" = some ⟨[.int, .int], some .int⟩ := by decide +kernel
theorem d1_46 : decode prog_44_method_1_code 46 = .ok (.invokestatic 18, 3) := by decide +kernel
theorem d1_49 : decode prog_44_method_1_code 49 = .ok (.if_icmp .gt 43, 3) := by decide +kernel
theorem d1_92 : decode prog_44_method_1_code 92 = .ok (.iinc 3 1, 3) := by decide +kernel
theorem d1_95 : decode prog_44_method_1_code 95 = .ok (.goto (-70), 3) := by decide +kernel
theorem d1_52 : decode prog_44_method_1_code 52 = .ok (.aload_n 0, 1) := by decide +kernel
theorem d1_53 : decode prog_44_method_1_code 53 = .ok (.getfield 15, 3) := by decide +kernel
theorem d1_56 : decode prog_44_method_1_code 56 = .ok (.iload_n 3, 1) := by decide +kernel
theorem d1_57 : decode prog_44_method_1_code 57 = .ok (.aaload, 1) := by decide +kernel
theorem d1_58 : decode prog_44_method_1_code 58 = .ok (.iload 4, 2) := by decide +kernel
theorem d1_60 : decode prog_44_method_1_code 60 = .ok (.aload_n 0, 1) := by decide +kernel
theorem d1_61 : decode prog_44_method_1_code 61 = .ok (.getfield 15, 3) := by decide +kernel
theorem d1_64 : decode prog_44_method_1_code 64 = .ok (.iload_n 3, 1) := by decide +kernel
theorem d1_65 : decode prog_44_method_1_code 65 = .ok (.iconst 1, 1) := by decide +kernel
theorem d1_66 : decode prog_44_method_1_code 66 = .ok (.isub, 1) := by decide +kernel
theorem d1_67 : decode prog_44_method_1_code 67 = .ok (.aaload, 1) := by decide +kernel
theorem d1_68 : decode prog_44_method_1_code 68 = .ok (.iload 4, 2) := by decide +kernel
theorem d1_70 : decode prog_44_method_1_code 70 = .ok (.iconst 1, 1) := by decide +kernel
theorem d1_71 : decode prog_44_method_1_code 71 = .ok (.isub, 1) := by decide +kernel
theorem d1_72 : decode prog_44_method_1_code 72 = .ok (.laload, 1) := by decide +kernel
theorem d1_73 : decode prog_44_method_1_code 73 = .ok (.aload_n 0, 1) := by decide +kernel
theorem d1_74 : decode prog_44_method_1_code 74 = .ok (.getfield 15, 3) := by decide +kernel
theorem d1_77 : decode prog_44_method_1_code 77 = .ok (.iload_n 3, 1) := by decide +kernel
theorem d1_78 : decode prog_44_method_1_code 78 = .ok (.iconst 1, 1) := by decide +kernel
theorem d1_79 : decode prog_44_method_1_code 79 = .ok (.isub, 1) := by decide +kernel
theorem d1_80 : decode prog_44_method_1_code 80 = .ok (.aaload, 1) := by decide +kernel
theorem d1_81 : decode prog_44_method_1_code 81 = .ok (.iload 4, 2) := by decide +kernel
theorem d1_83 : decode prog_44_method_1_code 83 = .ok (.laload, 1) := by decide +kernel
theorem d1_84 : decode prog_44_method_1_code 84 = .ok (.ladd, 1) := by decide +kernel
theorem d1_85 : decode prog_44_method_1_code 85 = .ok (.lastore, 1) := by decide +kernel
theorem d1_86 : decode prog_44_method_1_code 86 = .ok (.iinc 4 1, 3) := by decide +kernel
theorem d1_89 : decode prog_44_method_1_code 89 = .ok (.goto (-47), 3) := by decide +kernel
set_option maxRecDepth 65536 in
set_option maxHeartbeats 40000000 in
theorem rm1 (l : Launch) (Z : State) (a0 : Array Value) (hw : ∀ d ∈ tables_1, d.before a0 Z = true) (ws : List Jvm.Cond) (a : Addr) (us : Int32) (la : Int32) (n : Nat) (mm : Nat) (h0 : Heap) (n0 : Nat) (Z0 : n0 ≤ h0.size) (E0_a : Exa Z h0 a "com/example/checks_on_duty/checksonduty/engine/RankedSets") (F1_a_users : Fld Z h0 a "com/example/checks_on_duty/checksonduty/engine/RankedSets" "users" "I" (.int (0 : Int32))) (F2_a_binomial : Fld Z h0 a "com/example/checks_on_duty/checksonduty/engine/RankedSets" "binomial" "[[J" .null) (H3 : n0 ≤ a) (Hn : us.toInt = (n : Int)) (Hm : la.toInt = (mm : Int)) (Hn1 : n ≤ 64) (Hm1 : mm ≤ 4) :
    MetFree l (⟨"com/example/checks_on_duty/checksonduty/engine/RankedSets", "<init>", "(II)V"⟩ : MethodName) (head1 (Jvm.Cond.code (⟨"com/example/checks_on_duty/checksonduty/engine/RankedSets", "<init>", "(II)V"⟩ : MethodName) prog_44_method_1_code 5 none :: ws) ({ frames := 1, cells := 66, slots := 400, locals := 40 } : Room)) (fun as_ U_ => as_ = #[(.ref a), (.int us), (.int la)] ∧ Z.Warmed39 U_.vm ∧ U_.heap = h0) (fun _ _ _ _ _ => True) (fun _ U_ o_ V_ => ∃ v_ L_, o_ = .returned v_ ∧ Qrm1 Z a us la n mm h0 n0 v_ V_.heap L_ ∧ FrameEnd U_ o_ V_ L_ ({ frames := 1, cells := 66, slots := 400, locals := 40 } : Room).cells ({ frames := 1, cells := 66, slots := 400, locals := 40 } : Room).slots) := by
  refine MetFree.of_bodySF (plainFor_of_name pn_com_example_checks_on_duty_checksonduty_engine_RankedSets) hisR ?_
  intro p e s m args below meth c s₁ Bd hml0 hP hK
  obtain ⟨rfl, hZ, hh⟩ := hP
  have hx := Bd.exec
  have hby := Bd.bytes
  have hlk : meth.locks = false := BodyLoose.notSynchronized Bd
  have hret := Bd.returns
  have hml : c.maxLocals = 5 := hml0
  have hown : s.vm.findClass "com/example/checks_on_duty/checksonduty/engine/RankedSets" = some m.cls := findClass_of_methodNamed Bd.named
  have hnm := (name_of_methodNamed Bd.named Bd.method).1
  have X0 : Stand p l e ({ frames := 1, cells := 66, slots := 400, locals := 40 } : Room) s m #[(.ref a), (.int us), (.int la)] below meth c s₁ [] 0 0 := Stand.of_body Bd
  have e0 : s₁.heap = h0 := by rw [← hh, Bd.state]; rfl
  have N0 := Fr.nil n0
  show Goes p e below (Fin_ s (Qrm1 Z a us la n mm h0 n0) ({ frames := 1, cells := 66, slots := 400, locals := 40 } : Room).cells ({ frames := 1, cells := 66, slots := 400, locals := 40 } : Room).slots) (s₁.setTop (entryFrame m #[(.ref a), (.int us), (.int la)] 5))
  rw [ef_rm1 m a us la]
  refine Goes.via (fun _ kk_ => XS.aloadN X0.here hx rfl (hb hby d1_0) rfl rfl  kk_) ?_
  show Goes p e below _ (s₁.setTop (mkF m 1 #[.val (.ref a), .val (.int us), .val (.int la), .unset, .unset] [(.ref a)]))
  obtain ⟨T1, X1, e1, st1⟩ := initO X0 hx hZ hown (hw _ (List.mem_of_getElem? (i := 7) rfl)) (hw _ (List.mem_of_getElem? (i := 8) rfl)) (hw _ (List.mem_of_getElem? (i := 9) rfl)) e0 (g := (mkF m 1 #[.val (.ref a), .val (.int us), .val (.int la), .unset, .unset] [(.ref a)])) rfl (by rw [hml]; rfl) rfl (hb hby d1_1) (by decide) (W := 0) (by show 2 * 0 + _ ≤ _; exact Nat.le_of_eq rfl) (by decide)
  refine Goes.via st1 ?_
  show Goes p e below _ (T1.setTop (mkF m 4 #[.val (.ref a), .val (.int us), .val (.int la), .unset, .unset] []))
  refine Goes.via (fun _ kk_ => XS.aloadN X1.here hx rfl (hb hby d1_4) rfl rfl  kk_) ?_
  show Goes p e below _ (T1.setTop (mkF m 5 #[.val (.ref a), .val (.int us), .val (.int la), .unset, .unset] [(.ref a)]))
  refine Goes.via (fun _ kk_ => XS.iloadN X1.here hx rfl (hb hby d1_5) rfl  kk_) ?_
  show Goes p e below _ (T1.setTop (mkF m 6 #[.val (.ref a), .val (.int us), .val (.int la), .unset, .unset] [(.int us), (.ref a)]))
  obtain ⟨T2, h2, X2, e2, W2, st2⟩ := putF X1 hx hZ hown (host := "") (Or.inl (hw _ (List.mem_of_getElem? (i := 10) rfl))) Via.refl e1 F1_a_users E0_a (Or.inr ⟨(hw _ (List.mem_of_getElem? (i := 11) rfl)), rfl, hnm⟩) (hw _ (List.mem_of_getElem? (i := 2) rfl)) (ty := .int) (by decide) rfl rfl (g := (mkF m 6 #[.val (.ref a), .val (.int us), .val (.int la), .unset, .unset] [(.int us), (.ref a)])) rfl rfl (hb hby d1_6)
  refine Goes.via st2 ?_
  have N2 := Fr.snoc X2 N0 H3
  have Fw2 : Fld Z h2 a "com/example/checks_on_duty/checksonduty/engine/RankedSets" "users" "I" (.int us) := F1_a_users.same W2
  show Goes p e below _ (T2.setTop (mkF m 9 #[.val (.ref a), .val (.int us), .val (.int la), .unset, .unset] []))
  refine Goes.via (fun _ kk_ => XS.aloadN X2.here hx rfl (hb hby d1_9) rfl rfl  kk_) ?_
  show Goes p e below _ (T2.setTop (mkF m 10 #[.val (.ref a), .val (.int us), .val (.int la), .unset, .unset] [(.ref a)]))
  refine Goes.via (fun _ kk_ => XS.iloadN X2.here hx rfl (hb hby d1_10) rfl  kk_) ?_
  show Goes p e below _ (T2.setTop (mkF m 11 #[.val (.ref a), .val (.int us), .val (.int la), .unset, .unset] [(.int us), (.ref a)]))
  refine Goes.via (fun _ kk_ => XS.iconst X2.here hx rfl (hb hby d1_11) kk_) ?_
  show Goes p e below _ (T2.setTop (mkF m 12 #[.val (.ref a), .val (.int us), .val (.int la), .unset, .unset] [(.int (1 : Int32)), (.int us), (.ref a)]))
  refine Goes.via (fun _ kk_ => XS.iadd X2.here hx rfl (hb hby d1_12) rfl kk_) ?_
  show Goes p e below _ (T2.setTop (mkF m 13 #[.val (.ref a), .val (.int us), .val (.int la), .unset, .unset] [(.int (us + (1 : Int32))), (.ref a)]))
  refine Goes.via (fun _ kk_ => XS.iloadN X2.here hx rfl (hb hby d1_13) rfl  kk_) ?_
  show Goes p e below _ (T2.setTop (mkF m 14 #[.val (.ref a), .val (.int us), .val (.int la), .unset, .unset] [(.int la), (.int (us + (1 : Int32))), (.ref a)]))
  refine Goes.via (fun _ kk_ => XS.iconst X2.here hx rfl (hb hby d1_14) kk_) ?_
  show Goes p e below _ (T2.setTop (mkF m 15 #[.val (.ref a), .val (.int us), .val (.int la), .unset, .unset] [(.int (1 : Int32)), (.int la), (.int (us + (1 : Int32))), (.ref a)]))
  refine Goes.via (fun _ kk_ => XS.iadd X2.here hx rfl (hb hby d1_15) rfl kk_) ?_
  show Goes p e below _ (T2.setTop (mkF m 16 #[.val (.ref a), .val (.int us), .val (.int la), .unset, .unset] [(.int (la + (1 : Int32))), (.int (us + (1 : Int32))), (.ref a)]))
  have hN : (us + (1 : Int32)).toInt = ((n + 1 : Nat) : Int) := own_s1 Hn (by omega)
  have hM : (la + (1 : Int32)).toInt = ((mm + 1 : Nat) : Int) := own_s1 Hm (by omega)
  obtain ⟨T3, h3, kA, kB, X3, e3, E3, A3, st3⟩ := own_grid X2 hx hZ hown (hw _ (List.mem_of_getElem? (i := 12) rfl)) (hw _ (List.mem_of_getElem? (i := 13) rfl)) (hw _ (List.mem_of_getElem? (i := 14) rfl)) e2 (g := (mkF m 16 #[.val (.ref a), .val (.int us), .val (.int la), .unset, .unset] [(.int (la + (1 : Int32))), (.int (us + (1 : Int32))), (.ref a)])) rfl (hb hby d1_16) rfl hN hM (cap := 5) (by omega) (by decide) (by omega) (by show 0 + (1 + (n + 1)) ≤ 66; omega) (by show 0 + ((n + 1) + (n + 1) * 5) ≤ 400; omega)
  obtain ⟨b3, g3⟩ : ∃ z, z = (h2).size := ⟨_, rfl⟩
  rw [← g3] at A3 st3
  have f4 : Exa Z h2 a "com/example/checks_on_duty/checksonduty/engine/RankedSets" := (E0_a.wr W2)
  have lne5 : a < b3 := Nat.lt_of_lt_of_le f4.lt (Nat.le_of_eq g3.symm)
  have ne5 : a ≠ b3 := Nat.ne_of_lt lne5
  have z6 : h0.size ≤ (h2).size := (Nat.le_trans (Nat.le_refl _) (Nat.le_of_eq W2.size.symm))
  have sz_b3 : h0.size ≤ b3 := Nat.le_trans z6 (Nat.le_of_eq g3.symm)
  have gn_b3 : n0 ≤ b3 := Nat.le_trans Z0 sz_b3
  refine Goes.via st3 ?_
  show Goes p e below _ (T3.setTop (mkF m 20 #[.val (.ref a), .val (.int us), .val (.int la), .unset, .unset] [(.ref b3), (.ref a)]))
  have f7 : Fld Z h3 a "com/example/checks_on_duty/checksonduty/engine/RankedSets" "binomial" "[[J" .null := ((F2_a_binomial.other W2 (Or.inr (slot_ne (Or.inr (hw _ (List.mem_of_getElem? (i := 16) rfl))) (Or.inr (hw _ (List.mem_of_getElem? (i := 11) rfl))) (by decide) (t := (.array (.array .long))) (t' := .int) (by decide) (by decide)))).ext E3)
  have f8 : Exa Z h3 a "com/example/checks_on_duty/checksonduty/engine/RankedSets" := (f4.ext E3)
  obtain ⟨T9, h9, X9, e9, W9, st9⟩ := putF X3 hx hZ hown (host := "") (Or.inl (hw _ (List.mem_of_getElem? (i := 15) rfl))) Via.refl e3 f7 f8 (Or.inr ⟨(hw _ (List.mem_of_getElem? (i := 16) rfl)), rfl, hnm⟩) (hw _ (List.mem_of_getElem? (i := 2) rfl)) (ty := (.array (.array .long))) (by decide) rfl rfl (g := (mkF m 20 #[.val (.ref a), .val (.int us), .val (.int la), .unset, .unset] [(.ref b3), (.ref a)])) rfl rfl (hb hby d1_20)
  refine Goes.via st9 ?_
  have N9 := Fr.snoc X9 N2 H3
  have Fw9 : Fld Z h9 a "com/example/checks_on_duty/checksonduty/engine/RankedSets" "binomial" "[[J" (.ref b3) := f7.same W9
  show Goes p e below _ (T9.setTop (mkF m 23 #[.val (.ref a), .val (.int us), .val (.int la), .unset, .unset] []))
  refine Goes.via (fun _ kk_ => XS.iconst X9.here hx rfl (hb hby d1_23) kk_) ?_
  show Goes p e below _ (T9.setTop (mkF m 24 #[.val (.ref a), .val (.int us), .val (.int la), .unset, .unset] [(.int (0 : Int32))]))
  refine Goes.via (fun _ kk_ => XS.istoreN X9.here hx rfl (hb hby d1_24) rfl (l' := #[.val (.ref a), .val (.int us), .val (.int la), .val (.int (0 : Int32)), .unset]) rfl kk_) ?_
  show Goes p e below _ (T9.setTop (mkF m 25 #[.val (.ref a), .val (.int us), .val (.int la), .val (.int (0 : Int32)), .unset] []))
  have f10 : Grd Z h9 b3 kA kB (n + 1) (mm + 1) (fun _ _ => 0) := (A3.low W9 lne5)
  have G0 : Grd Z h9 b3 kA kB (n + 1) (mm + 1) (own_in_ 0 0) := f10.to (fun i j _ _ => own_in_0 i j)
  have f12 : Exa Z h9 a "com/example/checks_on_duty/checksonduty/engine/RankedSets" := (f8.wr W9)
  have f13 : Fld Z h9 a "com/example/checks_on_duty/checksonduty/engine/RankedSets" "users" "I" (.int us) := ((Fw2.ext E3).other W9 (Or.inr (slot_ne (Or.inr (hw _ (List.mem_of_getElem? (i := 11) rfl))) (Or.inr (hw _ (List.mem_of_getElem? (i := 16) rfl))) (by decide) (t := .int) (t' := (.array (.array .long))) (by decide) (by decide))))
  have K14 : Keep h0 h9 [a] := ((((Keep.refl h0 [a]).wr W2 (Or.inl (List.mem_of_getElem? (i := 0) rfl))).ext E3).wr W9 (Or.inl (List.mem_of_getElem? (i := 0) rfl)))
  have lp11 : ∀ (fu11 : Nat) (i : Int32) (na : Nat) (s4 : Slot) (T11 : State) (lc11 : List Loc) (H11 : Heap), (Stand p l e ({ frames := 1, cells := 66, slots := 400, locals := 40 } : Room) s m #[(.ref a), (.int us), (.int la)] below meth c T11 lc11 (0 + (1 + (n + 1))) (0 + ((n + 1) + (n + 1) * 5))) → (T11.heap = H11) → (Fr n0 lc11) → (Keep h0 H11 [a]) → (Exa Z H11 a "com/example/checks_on_duty/checksonduty/engine/RankedSets") → (Fld Z H11 a "com/example/checks_on_duty/checksonduty/engine/RankedSets" "users" "I" (.int us)) → (Fld Z H11 a "com/example/checks_on_duty/checksonduty/engine/RankedSets" "binomial" "[[J" (.ref b3)) → (Grd Z H11 b3 kA kB (n + 1) (mm + 1) (own_in_ na 0)) → (i.toInt = (na : Int)) → (na ≤ n + 1) → (n + 2 ≤ na + fu11) → (One s4) → Goes p e below (Fin_ s (Qrm1 Z a us la n mm h0 n0) ({ frames := 1, cells := 66, slots := 400, locals := 40 } : Room).cells ({ frames := 1, cells := 66, slots := 400, locals := 40 } : Room).slots) (T11.setTop (mkF m 25 #[.val (.ref a), .val (.int us), .val (.int la), .val (.int i), s4] [])) := by
    intro fu11
    induction fu11 with
    | zero =>
      intro i na s4 T11 lc11 H11 X11 e11 N11 K11 g11_0 g11_1 g11_2 g11_3 hi hle hfu hs4
      omega
    | succ fu11 ih11 =>
      intro i na s4 T11 lc11 H11 X11 e11 N11 K11 g11_0 g11_1 g11_2 g11_3 hi hle hfu hs4
      refine Goes.via (fun _ kk_ => XS.iloadN X11.here hx rfl (hb hby d1_25) rfl  kk_) ?_
      show Goes p e below _ (T11.setTop (mkF m 26 #[.val (.ref a), .val (.int us), .val (.int la), .val (.int i), s4] [(.int i)]))
      refine Goes.via (fun _ kk_ => XS.iloadN X11.here hx rfl (hb hby d1_26) rfl  kk_) ?_
      show Goes p e below _ (T11.setTop (mkF m 27 #[.val (.ref a), .val (.int us), .val (.int la), .val (.int i), s4] [(.int us), (.int i)]))
      by_cases hc27 : us < i
      · skip
        refine Goes.via (fun _ kk_ => XS.icmpYes X11.here hx rfl (pc0 := 27) (pc' := 98) rfl (hb hby d1_27) rfl (tlt hc27).2.2.1 (by decide) (by decide) kk_) ?_
        show Goes p e below _ (T11.setTop (mkF m 98 #[.val (.ref a), .val (.int us), .val (.int la), .val (.int i), s4] []))
        have hfull : na = n + 1 := by have := own_lti.mp hc27; omega
        subst hfull
        have Gx : Grd Z H11 b3 kA kB (n + 1) (mm + 1) own_C := g11_3.to (fun i j hi hj => own_in_4 (n + 1) i j hi)
        exact own_finV X11 hx hlk hret (hb hby d1_98) (by rw [e11]; exact ⟨b3, kA, kB, rfl, N11, K11, sz_b3, g11_0, g11_1, g11_2, Gx⟩) (by first | decide | omega | (dsimp only; omega)) (by first | decide | omega | (dsimp only; omega))
      · skip
        refine Goes.via (fun _ kk_ => XS.icmpNo X11.here hx rfl (hb hby d1_27) rfl (flt hc27).2.2.1 kk_) ?_
        show Goes p e below _ (T11.setTop (mkF m 30 #[.val (.ref a), .val (.int us), .val (.int la), .val (.int i), s4] []))
        have hna : na ≤ n := by have q : ¬ us.toInt < i.toInt := fun q => hc27 (own_lti.mpr q); omega
        refine Goes.via (fun _ kk_ => XS.aloadN X11.here hx rfl (hb hby d1_30) rfl rfl  kk_) ?_
        show Goes p e below _ (T11.setTop (mkF m 31 #[.val (.ref a), .val (.int us), .val (.int la), .val (.int i), s4] [(.ref a)]))
        obtain ⟨T15, X15, e15, st15⟩ := getF X11 hx hZ hown (host := "") (Or.inl (hw _ (List.mem_of_getElem? (i := 15) rfl))) Via.refl e11 g11_2 (g := (mkF m 31 #[.val (.ref a), .val (.int us), .val (.int la), .val (.int i), s4] [(.ref a)])) rfl rfl (hb hby d1_31)
        refine Goes.via st15 ?_
        show Goes p e below _ (T15.setTop (mkF m 34 #[.val (.ref a), .val (.int us), .val (.int la), .val (.int i), s4] [(.ref b3)]))
        refine Goes.via (fun _ kk_ => XS.iloadN X15.here hx rfl (hb hby d1_34) rfl  kk_) ?_
        show Goes p e below _ (T15.setTop (mkF m 35 #[.val (.ref a), .val (.int us), .val (.int la), .val (.int i), s4] [(.int i), (.ref b3)]))
        refine Goes.via (own_gaaload X15 hx hZ e15 g11_3 (i := na) hi (by omega) (g := (mkF m 35 #[.val (.ref a), .val (.int us), .val (.int la), .val (.int i), s4] [(.int i), (.ref b3)])) rfl rfl (hb hby d1_35)) ?_
        show Goes p e below _ (T15.setTop (mkF m 36 #[.val (.ref a), .val (.int us), .val (.int la), .val (.int i), s4] [(.ref (b3 + 1 + na))]))
        refine Goes.via (fun _ kk_ => XS.iconst X15.here hx rfl (hb hby d1_36) kk_) ?_
        show Goes p e below _ (T15.setTop (mkF m 37 #[.val (.ref a), .val (.int us), .val (.int la), .val (.int i), s4] [(.int (0 : Int32)), (.ref (b3 + 1 + na))]))
        refine Goes.via (fun _ kk_ => XS.lconst X15.here hx rfl (hb hby d1_37) kk_) ?_
        show Goes p e below _ (T15.setTop (mkF m 38 #[.val (.ref a), .val (.int us), .val (.int la), .val (.int i), s4] [(.long (1 : Int64)), (.int (0 : Int32)), (.ref (b3 + 1 + na))]))
        obtain ⟨T16, h16, X16, e16, W16, A16, st16⟩ := own_glastore X15 hx hZ e15 g11_3 (i := na) (j := 0) (by omega) (by decide) (by omega) (g := (mkF m 38 #[.val (.ref a), .val (.int us), .val (.int la), .val (.int i), s4] [(.long (1 : Int64)), (.int (0 : Int32)), (.ref (b3 + 1 + na))])) rfl rfl (hb hby d1_38)
        refine Goes.via st16 ?_
        have gr16 : n0 ≤ (b3 + 1 + na) := own_r1 _ gn_b3
        have sr16 : h0.size ≤ (b3 + 1 + na) := own_r1 _ sz_b3
        have nr16 : a ≠ (b3 + 1 + na) := own_r2 _ lne5
        have N16 := Fr.snoc X16 N11 gr16
        have G16 : Grd Z h16 b3 kA kB (n + 1) (mm + 1) (own_in_ na 1) := A16.to (fun i j hi hj => own_in_1 na i j)
        show Goes p e below _ (T16.setTop (mkF m 39 #[.val (.ref a), .val (.int us), .val (.int la), .val (.int i), s4] []))
        refine Goes.via (fun _ kk_ => XS.iconst X16.here hx rfl (hb hby d1_39) kk_) ?_
        show Goes p e below _ (T16.setTop (mkF m 40 #[.val (.ref a), .val (.int us), .val (.int la), .val (.int i), s4] [(.int (1 : Int32))]))
        refine Goes.via (fun _ kk_ => XS.istore X16.here hx rfl (hb hby d1_40) rfl (l' := #[.val (.ref a), .val (.int us), .val (.int la), .val (.int i), .val (.int (1 : Int32))]) (os_rm1_40_17 hs4) kk_) ?_
        show Goes p e below _ (T16.setTop (mkF m 42 #[.val (.ref a), .val (.int us), .val (.int la), .val (.int i), .val (.int (1 : Int32))] []))
        have f19 : Exa Z h16 a "com/example/checks_on_duty/checksonduty/engine/RankedSets" := (g11_0.wr W16)
        have f20 : Fld Z h16 a "com/example/checks_on_duty/checksonduty/engine/RankedSets" "users" "I" (.int us) := (g11_1.other W16 (Or.inl nr16))
        have f21 : Fld Z h16 a "com/example/checks_on_duty/checksonduty/engine/RankedSets" "binomial" "[[J" (.ref b3) := (g11_2.other W16 (Or.inl nr16))
        have K22 : Keep h0 h16 [a] := (K11.wr W16 (Or.inr sr16))
        have lp18 : ∀ (fu18 : Nat) (j : Int32) (nb : Nat) (T18 : State) (lc18 : List Loc) (H18 : Heap), (Stand p l e ({ frames := 1, cells := 66, slots := 400, locals := 40 } : Room) s m #[(.ref a), (.int us), (.int la)] below meth c T18 lc18 (0 + (1 + (n + 1))) (0 + ((n + 1) + (n + 1) * 5))) → (T18.heap = H18) → (Fr n0 lc18) → (Keep h0 H18 [a]) → (Exa Z H18 a "com/example/checks_on_duty/checksonduty/engine/RankedSets") → (Fld Z H18 a "com/example/checks_on_duty/checksonduty/engine/RankedSets" "users" "I" (.int us)) → (Fld Z H18 a "com/example/checks_on_duty/checksonduty/engine/RankedSets" "binomial" "[[J" (.ref b3)) → (Grd Z H18 b3 kA kB (n + 1) (mm + 1) (own_in_ na nb)) → (j.toInt = (nb : Int)) → (1 ≤ nb) → (nb ≤ mm + 1) → (mm + 2 ≤ nb + fu18) → Goes p e below (Fin_ s (Qrm1 Z a us la n mm h0 n0) ({ frames := 1, cells := 66, slots := 400, locals := 40 } : Room).cells ({ frames := 1, cells := 66, slots := 400, locals := 40 } : Room).slots) (T18.setTop (mkF m 42 #[.val (.ref a), .val (.int us), .val (.int la), .val (.int i), .val (.int j)] [])) := by
          intro fu18
          induction fu18 with
          | zero =>
            intro j nb T18 lc18 H18 X18 e18 N18 K18 g18_0 g18_1 g18_2 g18_3 hj hb1 hb2 hfv
            omega
          | succ fu18 ih18 =>
            intro j nb T18 lc18 H18 X18 e18 N18 K18 g18_0 g18_1 g18_2 g18_3 hj hb1 hb2 hfv
            refine Goes.via (fun _ kk_ => XS.iload X18.here hx rfl (hb hby d1_42) rfl  kk_) ?_
            show Goes p e below _ (T18.setTop (mkF m 44 #[.val (.ref a), .val (.int us), .val (.int la), .val (.int i), .val (.int j)] [(.int j)]))
            refine Goes.via (fun _ kk_ => XS.iloadN X18.here hx rfl (hb hby d1_44) rfl  kk_) ?_
            show Goes p e below _ (T18.setTop (mkF m 45 #[.val (.ref a), .val (.int us), .val (.int la), .val (.int i), .val (.int j)] [(.int i), (.int j)]))
            refine Goes.via (fun _ kk_ => XS.iloadN X18.here hx rfl (hb hby d1_45) rfl  kk_) ?_
            show Goes p e below _ (T18.setTop (mkF m 46 #[.val (.ref a), .val (.int us), .val (.int la), .val (.int i), .val (.int j)] [(.int la), (.int i), (.int j)]))
            obtain ⟨_, _, ⟨T23, L23, k23, n23⟩, -, X23, ⟨Lc23, hQ23, l23, y23, z23⟩, st23⟩ := Jvm.LawKit.callS X18 hx (y := (⟨"java/lang/Math", "min", "(II)I"⟩ : MethodName)) hown (mvT hZ (hw _ (List.mem_of_getElem? (i := 17) rfl))) (mvT hZ (hw _ (List.mem_of_getElem? (i := 18) rfl))) (mvT hZ (hw _ (List.mem_of_getElem? (i := 19) rfl))) (mvT hZ (hw _ (List.mem_of_getElem? (i := 20) rfl))) (by decide) (backOf (W := 1) (rm3 l Z a0 hw [] i la H18 n0 (Nat.le_trans Z0 K18.1) ) hZ (hw _ (List.mem_of_getElem? (i := 20) rfl)) (hw _ (List.mem_of_getElem? (i := 19) rfl)) (by decide) (by decide)) (g := (mkF m 46 #[.val (.ref a), .val (.int us), .val (.int la), .val (.int i), .val (.int j)] [(.int la), (.int i), (.int j)])) rfl (by rw [hml]; rfl) (argsL := [(.int i), (.int la)]) (rest := [(.int j)]) (lenOf pd_0 rfl) rfl (by show 2 * 0 + _ ≤ _; exact Nat.le_of_eq rfl) (hb hby d1_46) (fun _ _ => ⟨rfl, e18, (by first | decide | omega | (dsimp only; omega) : (0 + (1 + (n + 1))) + 0 ≤ _), (by first | decide | omega | (dsimp only; omega) : (0 + ((n + 1) + (n + 1) * 5)) + 0 ≤ _)⟩)
            dsimp only [Pt.U, Pt.locs, Pt.cells, Pt.slots] at X23 l23 y23 z23 st23 hQ23
            subst l23 y23 z23
            obtain ⟨rfl, N23q, e23⟩ := hQ23
            have N23 := Fr.app N18 N23q
            refine Goes.via st23 ?_
            have e23' : T23.heap = H18 := e23
            show Goes p e below _ (T23.setTop (mkF m 49 #[.val (.ref a), .val (.int us), .val (.int la), .val (.int i), .val (.int j)] [(.int (if la < i then la else i)), (.int j)]))
            by_cases hc49 : (if la < i then la else i) < j
            · skip
              refine Goes.via (fun _ kk_ => XS.icmpYes X23.here hx rfl (pc0 := 49) (pc' := 92) rfl (hb hby d1_49) rfl (tlt hc49).2.2.1 (by decide) (by decide) kk_) ?_
              show Goes p e below _ (T23.setTop (mkF m 92 #[.val (.ref a), .val (.int us), .val (.int la), .val (.int i), .val (.int j)] []))
              have hmb : min (na : Int) (mm : Int) < (nb : Int) := by have q := own_lti.mp hc49; rw [own_min, hi, Hm, hj] at q; exact q
              have Gx : Grd Z H18 b3 kA kB (n + 1) (mm + 1) (own_in_ (na + 1) 0) := g18_3.to (fun i j hi hj => own_in_3 na nb mm i j (by omega) hj)
              refine Goes.via (fun _ kk_ => XS.iinc X23.here hx rfl (hb hby d1_92) rfl (l' := #[.val (.ref a), .val (.int us), .val (.int la), .val (.int (i + (1 : Int32))), .val (.int j)]) rfl kk_) ?_
              show Goes p e below _ (T23.setTop (mkF m 95 #[.val (.ref a), .val (.int us), .val (.int la), .val (.int (i + (1 : Int32))), .val (.int j)] []))
              refine Goes.via (fun _ kk_ => XS.goto X23.here hx rfl (pc0 := 95) (pc' := 25) rfl (hb hby d1_95) (by decide) (by decide) kk_) ?_
              show Goes p e below _ (T23.setTop (mkF m 25 #[.val (.ref a), .val (.int us), .val (.int la), .val (.int (i + (1 : Int32))), .val (.int j)] []))
              exact ih11 ((i + (1 : Int32))) (na + 1) (.val (.int j)) _ _ _ X23 e23' N23 K18 g18_0 g18_1 g18_2 Gx (own_s1 hi (by omega)) (by omega) (by omega) (One.val rfl)
            · skip
              refine Goes.via (fun _ kk_ => XS.icmpNo X23.here hx rfl (hb hby d1_49) rfl (flt hc49).2.2.1 kk_) ?_
              show Goes p e below _ (T23.setTop (mkF m 52 #[.val (.ref a), .val (.int us), .val (.int la), .val (.int i), .val (.int j)] []))
              have hmb : ¬ min (na : Int) (mm : Int) < (nb : Int) := by have q : ¬ _ := fun q => hc49 (own_lti.mpr q); rw [own_min, hi, Hm, hj] at q; exact q
              refine Goes.via (fun _ kk_ => XS.aloadN X23.here hx rfl (hb hby d1_52) rfl rfl  kk_) ?_
              show Goes p e below _ (T23.setTop (mkF m 53 #[.val (.ref a), .val (.int us), .val (.int la), .val (.int i), .val (.int j)] [(.ref a)]))
              obtain ⟨T24, X24, e24, st24⟩ := getF X23 hx hZ hown (host := "") (Or.inl (hw _ (List.mem_of_getElem? (i := 15) rfl))) Via.refl e23' g18_2 (g := (mkF m 53 #[.val (.ref a), .val (.int us), .val (.int la), .val (.int i), .val (.int j)] [(.ref a)])) rfl rfl (hb hby d1_53)
              refine Goes.via st24 ?_
              show Goes p e below _ (T24.setTop (mkF m 56 #[.val (.ref a), .val (.int us), .val (.int la), .val (.int i), .val (.int j)] [(.ref b3)]))
              refine Goes.via (fun _ kk_ => XS.iloadN X24.here hx rfl (hb hby d1_56) rfl  kk_) ?_
              show Goes p e below _ (T24.setTop (mkF m 57 #[.val (.ref a), .val (.int us), .val (.int la), .val (.int i), .val (.int j)] [(.int i), (.ref b3)]))
              refine Goes.via (own_gaaload X24 hx hZ e24 g18_3 (i := na) hi (by omega) (g := (mkF m 57 #[.val (.ref a), .val (.int us), .val (.int la), .val (.int i), .val (.int j)] [(.int i), (.ref b3)])) rfl rfl (hb hby d1_57)) ?_
              show Goes p e below _ (T24.setTop (mkF m 58 #[.val (.ref a), .val (.int us), .val (.int la), .val (.int i), .val (.int j)] [(.ref (b3 + 1 + na))]))
              refine Goes.via (fun _ kk_ => XS.iload X24.here hx rfl (hb hby d1_58) rfl  kk_) ?_
              show Goes p e below _ (T24.setTop (mkF m 60 #[.val (.ref a), .val (.int us), .val (.int la), .val (.int i), .val (.int j)] [(.int j), (.ref (b3 + 1 + na))]))
              refine Goes.via (fun _ kk_ => XS.aloadN X24.here hx rfl (hb hby d1_60) rfl rfl  kk_) ?_
              show Goes p e below _ (T24.setTop (mkF m 61 #[.val (.ref a), .val (.int us), .val (.int la), .val (.int i), .val (.int j)] [(.ref a), (.int j), (.ref (b3 + 1 + na))]))
              obtain ⟨T25, X25, e25, st25⟩ := getF X24 hx hZ hown (host := "") (Or.inl (hw _ (List.mem_of_getElem? (i := 15) rfl))) Via.refl e24 g18_2 (g := (mkF m 61 #[.val (.ref a), .val (.int us), .val (.int la), .val (.int i), .val (.int j)] [(.ref a), (.int j), (.ref (b3 + 1 + na))])) rfl rfl (hb hby d1_61)
              refine Goes.via st25 ?_
              show Goes p e below _ (T25.setTop (mkF m 64 #[.val (.ref a), .val (.int us), .val (.int la), .val (.int i), .val (.int j)] [(.ref b3), (.int j), (.ref (b3 + 1 + na))]))
              refine Goes.via (fun _ kk_ => XS.iloadN X25.here hx rfl (hb hby d1_64) rfl  kk_) ?_
              show Goes p e below _ (T25.setTop (mkF m 65 #[.val (.ref a), .val (.int us), .val (.int la), .val (.int i), .val (.int j)] [(.int i), (.ref b3), (.int j), (.ref (b3 + 1 + na))]))
              refine Goes.via (fun _ kk_ => XS.iconst X25.here hx rfl (hb hby d1_65) kk_) ?_
              show Goes p e below _ (T25.setTop (mkF m 66 #[.val (.ref a), .val (.int us), .val (.int la), .val (.int i), .val (.int j)] [(.int (1 : Int32)), (.int i), (.ref b3), (.int j), (.ref (b3 + 1 + na))]))
              refine Goes.via (fun _ kk_ => XS.isub X25.here hx rfl (hb hby d1_66) rfl kk_) ?_
              show Goes p e below _ (T25.setTop (mkF m 67 #[.val (.ref a), .val (.int us), .val (.int la), .val (.int i), .val (.int j)] [(.int (i - (1 : Int32))), (.ref b3), (.int j), (.ref (b3 + 1 + na))]))
              refine Goes.via (own_gaaload X25 hx hZ e25 g18_3 (i := (na - 1)) (own_d1 hi (by omega)) (by omega) (g := (mkF m 67 #[.val (.ref a), .val (.int us), .val (.int la), .val (.int i), .val (.int j)] [(.int (i - (1 : Int32))), (.ref b3), (.int j), (.ref (b3 + 1 + na))])) rfl rfl (hb hby d1_67)) ?_
              show Goes p e below _ (T25.setTop (mkF m 68 #[.val (.ref a), .val (.int us), .val (.int la), .val (.int i), .val (.int j)] [(.ref (b3 + 1 + (na - 1))), (.int j), (.ref (b3 + 1 + na))]))
              refine Goes.via (fun _ kk_ => XS.iload X25.here hx rfl (hb hby d1_68) rfl  kk_) ?_
              show Goes p e below _ (T25.setTop (mkF m 70 #[.val (.ref a), .val (.int us), .val (.int la), .val (.int i), .val (.int j)] [(.int j), (.ref (b3 + 1 + (na - 1))), (.int j), (.ref (b3 + 1 + na))]))
              refine Goes.via (fun _ kk_ => XS.iconst X25.here hx rfl (hb hby d1_70) kk_) ?_
              show Goes p e below _ (T25.setTop (mkF m 71 #[.val (.ref a), .val (.int us), .val (.int la), .val (.int i), .val (.int j)] [(.int (1 : Int32)), (.int j), (.ref (b3 + 1 + (na - 1))), (.int j), (.ref (b3 + 1 + na))]))
              refine Goes.via (fun _ kk_ => XS.isub X25.here hx rfl (hb hby d1_71) rfl kk_) ?_
              show Goes p e below _ (T25.setTop (mkF m 72 #[.val (.ref a), .val (.int us), .val (.int la), .val (.int i), .val (.int j)] [(.int (j - (1 : Int32))), (.ref (b3 + 1 + (na - 1))), (.int j), (.ref (b3 + 1 + na))]))
              refine Goes.via (own_glaload X25 hx hZ e25 g18_3 (i := (na - 1)) (j := (nb - 1)) (by omega) (own_d1 hj (by omega)) (by omega) (g := (mkF m 72 #[.val (.ref a), .val (.int us), .val (.int la), .val (.int i), .val (.int j)] [(.int (j - (1 : Int32))), (.ref (b3 + 1 + (na - 1))), (.int j), (.ref (b3 + 1 + na))])) rfl rfl (hb hby d1_72)) ?_
              show Goes p e below _ (T25.setTop (mkF m 73 #[.val (.ref a), .val (.int us), .val (.int la), .val (.int i), .val (.int j)] [(.long ((own_in_ na nb) (na - 1) (nb - 1))), (.int j), (.ref (b3 + 1 + na))]))
              refine Goes.via (fun _ kk_ => XS.aloadN X25.here hx rfl (hb hby d1_73) rfl rfl  kk_) ?_
              show Goes p e below _ (T25.setTop (mkF m 74 #[.val (.ref a), .val (.int us), .val (.int la), .val (.int i), .val (.int j)] [(.ref a), (.long ((own_in_ na nb) (na - 1) (nb - 1))), (.int j), (.ref (b3 + 1 + na))]))
              obtain ⟨T26, X26, e26, st26⟩ := getF X25 hx hZ hown (host := "") (Or.inl (hw _ (List.mem_of_getElem? (i := 15) rfl))) Via.refl e25 g18_2 (g := (mkF m 74 #[.val (.ref a), .val (.int us), .val (.int la), .val (.int i), .val (.int j)] [(.ref a), (.long ((own_in_ na nb) (na - 1) (nb - 1))), (.int j), (.ref (b3 + 1 + na))])) rfl rfl (hb hby d1_74)
              refine Goes.via st26 ?_
              show Goes p e below _ (T26.setTop (mkF m 77 #[.val (.ref a), .val (.int us), .val (.int la), .val (.int i), .val (.int j)] [(.ref b3), (.long ((own_in_ na nb) (na - 1) (nb - 1))), (.int j), (.ref (b3 + 1 + na))]))
              refine Goes.via (fun _ kk_ => XS.iloadN X26.here hx rfl (hb hby d1_77) rfl  kk_) ?_
              show Goes p e below _ (T26.setTop (mkF m 78 #[.val (.ref a), .val (.int us), .val (.int la), .val (.int i), .val (.int j)] [(.int i), (.ref b3), (.long ((own_in_ na nb) (na - 1) (nb - 1))), (.int j), (.ref (b3 + 1 + na))]))
              refine Goes.via (fun _ kk_ => XS.iconst X26.here hx rfl (hb hby d1_78) kk_) ?_
              show Goes p e below _ (T26.setTop (mkF m 79 #[.val (.ref a), .val (.int us), .val (.int la), .val (.int i), .val (.int j)] [(.int (1 : Int32)), (.int i), (.ref b3), (.long ((own_in_ na nb) (na - 1) (nb - 1))), (.int j), (.ref (b3 + 1 + na))]))
              refine Goes.via (fun _ kk_ => XS.isub X26.here hx rfl (hb hby d1_79) rfl kk_) ?_
              show Goes p e below _ (T26.setTop (mkF m 80 #[.val (.ref a), .val (.int us), .val (.int la), .val (.int i), .val (.int j)] [(.int (i - (1 : Int32))), (.ref b3), (.long ((own_in_ na nb) (na - 1) (nb - 1))), (.int j), (.ref (b3 + 1 + na))]))
              refine Goes.via (own_gaaload X26 hx hZ e26 g18_3 (i := (na - 1)) (own_d1 hi (by omega)) (by omega) (g := (mkF m 80 #[.val (.ref a), .val (.int us), .val (.int la), .val (.int i), .val (.int j)] [(.int (i - (1 : Int32))), (.ref b3), (.long ((own_in_ na nb) (na - 1) (nb - 1))), (.int j), (.ref (b3 + 1 + na))])) rfl rfl (hb hby d1_80)) ?_
              show Goes p e below _ (T26.setTop (mkF m 81 #[.val (.ref a), .val (.int us), .val (.int la), .val (.int i), .val (.int j)] [(.ref (b3 + 1 + (na - 1))), (.long ((own_in_ na nb) (na - 1) (nb - 1))), (.int j), (.ref (b3 + 1 + na))]))
              refine Goes.via (fun _ kk_ => XS.iload X26.here hx rfl (hb hby d1_81) rfl  kk_) ?_
              show Goes p e below _ (T26.setTop (mkF m 83 #[.val (.ref a), .val (.int us), .val (.int la), .val (.int i), .val (.int j)] [(.int j), (.ref (b3 + 1 + (na - 1))), (.long ((own_in_ na nb) (na - 1) (nb - 1))), (.int j), (.ref (b3 + 1 + na))]))
              refine Goes.via (own_glaload X26 hx hZ e26 g18_3 (i := (na - 1)) (j := nb) (by omega) hj (by omega) (g := (mkF m 83 #[.val (.ref a), .val (.int us), .val (.int la), .val (.int i), .val (.int j)] [(.int j), (.ref (b3 + 1 + (na - 1))), (.long ((own_in_ na nb) (na - 1) (nb - 1))), (.int j), (.ref (b3 + 1 + na))])) rfl rfl (hb hby d1_83)) ?_
              show Goes p e below _ (T26.setTop (mkF m 84 #[.val (.ref a), .val (.int us), .val (.int la), .val (.int i), .val (.int j)] [(.long ((own_in_ na nb) (na - 1) nb)), (.long ((own_in_ na nb) (na - 1) (nb - 1))), (.int j), (.ref (b3 + 1 + na))]))
              refine Goes.via (fun _ kk_ => XS.ladd X26.here hx rfl (hb hby d1_84) rfl kk_) ?_
              show Goes p e below _ (T26.setTop (mkF m 85 #[.val (.ref a), .val (.int us), .val (.int la), .val (.int i), .val (.int j)] [(.long (((own_in_ na nb) (na - 1) (nb - 1)) + ((own_in_ na nb) (na - 1) nb))), (.int j), (.ref (b3 + 1 + na))]))
              obtain ⟨T27, h27, X27, e27, W27, A27, st27⟩ := own_glastore X26 hx hZ e26 g18_3 (i := na) (j := nb) (by omega) hj (by omega) (g := (mkF m 85 #[.val (.ref a), .val (.int us), .val (.int la), .val (.int i), .val (.int j)] [(.long (((own_in_ na nb) (na - 1) (nb - 1)) + ((own_in_ na nb) (na - 1) nb))), (.int j), (.ref (b3 + 1 + na))])) rfl rfl (hb hby d1_85)
              refine Goes.via st27 ?_
              have gr27 : n0 ≤ (b3 + 1 + na) := own_r1 _ gn_b3
              have sr27 : h0.size ≤ (b3 + 1 + na) := own_r1 _ sz_b3
              have nr27 : a ≠ (b3 + 1 + na) := own_r2 _ lne5
              have N27 := Fr.snoc X27 N23 gr27
              have G27 : Grd Z h27 b3 kA kB (n + 1) (mm + 1) (own_in_ na (nb + 1)) := A27.to (fun i j hi hj => own_in_2 na nb i j (by omega) (by omega))
              show Goes p e below _ (T27.setTop (mkF m 86 #[.val (.ref a), .val (.int us), .val (.int la), .val (.int i), .val (.int j)] []))
              refine Goes.via (fun _ kk_ => XS.iinc X27.here hx rfl (hb hby d1_86) rfl (l' := #[.val (.ref a), .val (.int us), .val (.int la), .val (.int i), .val (.int (j + (1 : Int32)))]) rfl kk_) ?_
              show Goes p e below _ (T27.setTop (mkF m 89 #[.val (.ref a), .val (.int us), .val (.int la), .val (.int i), .val (.int (j + (1 : Int32)))] []))
              refine Goes.via (fun _ kk_ => XS.goto X27.here hx rfl (pc0 := 89) (pc' := 42) rfl (hb hby d1_89) (by decide) (by decide) kk_) ?_
              show Goes p e below _ (T27.setTop (mkF m 42 #[.val (.ref a), .val (.int us), .val (.int la), .val (.int i), .val (.int (j + (1 : Int32)))] []))
              have f28 : Exa Z h27 a "com/example/checks_on_duty/checksonduty/engine/RankedSets" := (g18_0.wr W27)
              have f29 : Fld Z h27 a "com/example/checks_on_duty/checksonduty/engine/RankedSets" "users" "I" (.int us) := (g18_1.other W27 (Or.inl nr27))
              have f30 : Fld Z h27 a "com/example/checks_on_duty/checksonduty/engine/RankedSets" "binomial" "[[J" (.ref b3) := (g18_2.other W27 (Or.inl nr27))
              have K31 : Keep h0 h27 [a] := (K18.wr W27 (Or.inr sr27))
              exact ih18 ((j + (1 : Int32))) (nb + 1) _ _ _ X27 e27 N27 K31 f28 f29 f30 G27 (own_s1 hj (by omega)) (by omega) (by omega) (by omega)
        exact lp18 (mm + 2) ((1 : Int32)) (1) _ _ _ X16 e16 N16 K22 f19 f20 f21 G16 (by decide) (by omega) (by omega) (by omega)
  exact lp11 (n + 2) ((0 : Int32)) (0) (.unset) _ _ _ X9 e9 N9 K14 f12 f13 Fw9 G0 (by decide) (by omega) (by omega) One.u
theorem ef_rm4 (m : MethodId) (a : Addr) (rk : Int32) (sz : Int32) : entryFrame m #[(.ref a), (.int rk), (.int sz)] 9 = mkF m 0 #[.val (.ref a), .val (.int rk), .val (.int sz), .unset, .unset, .unset, .unset, .unset, .unset] [] := by first | (simp [entryFrame, mkF, argsToLocals, Value.category]; done) | rfl
def Qrm4 (Z : State) (a : Addr) (rk : Int32) (sz : Int32) (us : Int32) (g : Addr) (kA : ClassId) (kB : ClassId) (n : Nat) (xs : List Nat) (h0 : Heap) (n0 : Nat) (v_ : Option Value) (h_ : Heap) (L_ : List Loc) : Prop := v_ = some (.long (own_or (0 : Int64) xs)) ∧ Fr n0 L_ ∧ h_ = h0
theorem d4_0 : decode prog_44_method_8_code 0 = .ok (.lconst 0, 1) := by decide +kernel
theorem d4_1 : decode prog_44_method_8_code 1 = .ok (.lstore_n 3, 1) := by decide +kernel
theorem d4_2 : decode prog_44_method_8_code 2 = .ok (.iload_n 1, 1) := by decide +kernel
theorem d4_3 : decode prog_44_method_8_code 3 = .ok (.i2l, 1) := by decide +kernel
theorem d4_4 : decode prog_44_method_8_code 4 = .ok (.lstore 5, 2) := by decide +kernel
theorem d4_6 : decode prog_44_method_8_code 6 = .ok (.aload_n 0, 1) := by decide +kernel
theorem d4_7 : decode prog_44_method_8_code 7 = .ok (.getfield 7, 3) := by decide +kernel
theorem d4_10 : decode prog_44_method_8_code 10 = .ok (.istore 7, 2) := by decide +kernel
theorem d4_12 : decode prog_44_method_8_code 12 = .ok (.iload_n 2, 1) := by decide +kernel
theorem d4_13 : decode prog_44_method_8_code 13 = .ok (.istore 8, 2) := by decide +kernel
theorem d4_15 : decode prog_44_method_8_code 15 = .ok (.iload 8, 2) := by decide +kernel
theorem d4_17 : decode prog_44_method_8_code 17 = .ok (.iconst 1, 1) := by decide +kernel
theorem d4_18 : decode prog_44_method_8_code 18 = .ok (.if_icmp .lt 56, 3) := by decide +kernel
theorem d4_74 : decode prog_44_method_8_code 74 = .ok (.lload_n 3, 1) := by decide +kernel
theorem d4_75 : decode prog_44_method_8_code 75 = .ok (.lreturn, 1) := by decide +kernel
theorem d4_21 : decode prog_44_method_8_code 21 = .ok (.iinc 7 (-1), 3) := by decide +kernel
theorem d4_24 : decode prog_44_method_8_code 24 = .ok (.aload_n 0, 1) := by decide +kernel
theorem d4_25 : decode prog_44_method_8_code 25 = .ok (.getfield 15, 3) := by decide +kernel
theorem d4_28 : decode prog_44_method_8_code 28 = .ok (.iload 7, 2) := by decide +kernel
theorem d4_30 : decode prog_44_method_8_code 30 = .ok (.aaload, 1) := by decide +kernel
theorem d4_31 : decode prog_44_method_8_code 31 = .ok (.iload 8, 2) := by decide +kernel
theorem d4_33 : decode prog_44_method_8_code 33 = .ok (.laload, 1) := by decide +kernel
theorem d4_34 : decode prog_44_method_8_code 34 = .ok (.lload 5, 2) := by decide +kernel
theorem d4_36 : decode prog_44_method_8_code 36 = .ok (.lcmp, 1) := by decide +kernel
theorem d4_37 : decode prog_44_method_8_code 37 = .ok (.ifCond .le 9, 3) := by decide +kernel
theorem d4_40 : decode prog_44_method_8_code 40 = .ok (.iinc 7 (-1), 3) := by decide +kernel
theorem d4_43 : decode prog_44_method_8_code 43 = .ok (.goto (-19), 3) := by decide +kernel
theorem d4_46 : decode prog_44_method_8_code 46 = .ok (.lload_n 3, 1) := by decide +kernel
theorem d4_47 : decode prog_44_method_8_code 47 = .ok (.lconst 1, 1) := by decide +kernel
theorem d4_48 : decode prog_44_method_8_code 48 = .ok (.iload 7, 2) := by decide +kernel
theorem d4_50 : decode prog_44_method_8_code 50 = .ok (.lshl, 1) := by decide +kernel
theorem d4_51 : decode prog_44_method_8_code 51 = .ok (.lor, 1) := by decide +kernel
theorem d4_52 : decode prog_44_method_8_code 52 = .ok (.lstore_n 3, 1) := by decide +kernel
theorem d4_53 : decode prog_44_method_8_code 53 = .ok (.lload 5, 2) := by decide +kernel
theorem d4_55 : decode prog_44_method_8_code 55 = .ok (.aload_n 0, 1) := by decide +kernel
theorem d4_56 : decode prog_44_method_8_code 56 = .ok (.getfield 15, 3) := by decide +kernel
theorem d4_59 : decode prog_44_method_8_code 59 = .ok (.iload 7, 2) := by decide +kernel
theorem d4_61 : decode prog_44_method_8_code 61 = .ok (.aaload, 1) := by decide +kernel
theorem d4_62 : decode prog_44_method_8_code 62 = .ok (.iload 8, 2) := by decide +kernel
theorem d4_64 : decode prog_44_method_8_code 64 = .ok (.laload, 1) := by decide +kernel
theorem d4_65 : decode prog_44_method_8_code 65 = .ok (.lsub, 1) := by decide +kernel
theorem d4_66 : decode prog_44_method_8_code 66 = .ok (.lstore 5, 2) := by decide +kernel
theorem d4_68 : decode prog_44_method_8_code 68 = .ok (.iinc 8 (-1), 3) := by decide +kernel
theorem d4_71 : decode prog_44_method_8_code 71 = .ok (.goto (-56), 3) := by decide +kernel
set_option maxRecDepth 65536 in
set_option maxHeartbeats 40000000 in
theorem rm4 (l : Launch) (Z : State) (a0 : Array Value) (hw : ∀ d ∈ tables_1, d.before a0 Z = true) (ws : List Jvm.Cond) (a : Addr) (rk : Int32) (sz : Int32) (us : Int32) (g : Addr) (kA : ClassId) (kB : ClassId) (n : Nat) (xs : List Nat) (h0 : Heap) (n0 : Nat) (Z0 : n0 ≤ h0.size) (F0_a_users : Fld Z h0 a "com/example/checks_on_duty/checksonduty/engine/RankedSets" "users" "I" (.int us)) (F1_a_binomial : Fld Z h0 a "com/example/checks_on_duty/checksonduty/engine/RankedSets" "binomial" "[[J" (.ref g)) (A2_g : Grd Z h0 g kA kB (n + 1) (4 + 1) own_C) (Hn : us.toInt = (n : Int)) (Hn1 : n ≤ 64) (Hr : rk.toInt = (own_rk xs : Int)) (Hs : sz.toInt = (xs.length : Int)) (Hx : xs.length ≤ 4) (Hd : own_dn n xs) :
    MetFree l (⟨"com/example/checks_on_duty/checksonduty/engine/RankedSets", "set", "(II)J"⟩ : MethodName) (head1 (Jvm.Cond.code (⟨"com/example/checks_on_duty/checksonduty/engine/RankedSets", "set", "(II)J"⟩ : MethodName) prog_44_method_8_code 9 (some .long) :: ws) ({ frames := 0, cells := 0, slots := 0, locals := 0 } : Room)) (fun as_ U_ => as_ = #[(.ref a), (.int rk), (.int sz)] ∧ Z.Warmed39 U_.vm ∧ U_.heap = h0) (fun _ _ _ _ _ => True) (fun _ U_ o_ V_ => ∃ v_ L_, o_ = .returned v_ ∧ Qrm4 Z a rk sz us g kA kB n xs h0 n0 v_ V_.heap L_ ∧ FrameEnd U_ o_ V_ L_ ({ frames := 0, cells := 0, slots := 0, locals := 0 } : Room).cells ({ frames := 0, cells := 0, slots := 0, locals := 0 } : Room).slots) := by
  refine MetFree.of_bodySF (plainFor_of_name pn_com_example_checks_on_duty_checksonduty_engine_RankedSets) hisR ?_
  intro p e s m args below meth c s₁ Bd hml0 hP hK
  obtain ⟨rfl, hZ, hh⟩ := hP
  have hx := Bd.exec
  have hby := Bd.bytes
  have hlk : meth.locks = false := BodyLoose.notSynchronized Bd
  have hret := Bd.returns
  have hml : c.maxLocals = 9 := hml0
  have hown : s.vm.findClass "com/example/checks_on_duty/checksonduty/engine/RankedSets" = some m.cls := findClass_of_methodNamed Bd.named
  have hnm := (name_of_methodNamed Bd.named Bd.method).1
  have X0 : Stand p l e ({ frames := 0, cells := 0, slots := 0, locals := 0 } : Room) s m #[(.ref a), (.int rk), (.int sz)] below meth c s₁ [] 0 0 := Stand.of_body Bd
  have e0 : s₁.heap = h0 := by rw [← hh, Bd.state]; rfl
  have N0 := Fr.nil n0
  show Goes p e below (Fin_ s (Qrm4 Z a rk sz us g kA kB n xs h0 n0) ({ frames := 0, cells := 0, slots := 0, locals := 0 } : Room).cells ({ frames := 0, cells := 0, slots := 0, locals := 0 } : Room).slots) (s₁.setTop (entryFrame m #[(.ref a), (.int rk), (.int sz)] 9))
  rw [ef_rm4 m a rk sz]
  refine Goes.via (fun _ kk_ => XS.lconst X0.here hx rfl (hb hby d4_0) kk_) ?_
  show Goes p e below _ (s₁.setTop (mkF m 1 #[.val (.ref a), .val (.int rk), .val (.int sz), .unset, .unset, .unset, .unset, .unset, .unset] [(.long (0 : Int64))]))
  refine Goes.via (fun _ kk_ => XS.lstoreN X0.here hx rfl (hb hby d4_1) rfl (l' := #[.val (.ref a), .val (.int rk), .val (.int sz), .val (.long (0 : Int64)), .second, .unset, .unset, .unset, .unset]) rfl kk_) ?_
  show Goes p e below _ (s₁.setTop (mkF m 2 #[.val (.ref a), .val (.int rk), .val (.int sz), .val (.long (0 : Int64)), .second, .unset, .unset, .unset, .unset] []))
  refine Goes.via (fun _ kk_ => XS.iloadN X0.here hx rfl (hb hby d4_2) rfl  kk_) ?_
  show Goes p e below _ (s₁.setTop (mkF m 3 #[.val (.ref a), .val (.int rk), .val (.int sz), .val (.long (0 : Int64)), .second, .unset, .unset, .unset, .unset] [(.int rk)]))
  refine Goes.via (fun _ kk_ => XS.i2l X0.here hx rfl (hb hby d4_3) rfl kk_) ?_
  show Goes p e below _ (s₁.setTop (mkF m 4 #[.val (.ref a), .val (.int rk), .val (.int sz), .val (.long (0 : Int64)), .second, .unset, .unset, .unset, .unset] [(.long (rk.toInt64))]))
  refine Goes.via (fun _ kk_ => XS.lstore X0.here hx rfl (hb hby d4_4) rfl (l' := #[.val (.ref a), .val (.int rk), .val (.int sz), .val (.long (0 : Int64)), .second, .val (.long (rk.toInt64)), .second, .unset, .unset]) rfl kk_) ?_
  show Goes p e below _ (s₁.setTop (mkF m 6 #[.val (.ref a), .val (.int rk), .val (.int sz), .val (.long (0 : Int64)), .second, .val (.long (rk.toInt64)), .second, .unset, .unset] []))
  refine Goes.via (fun _ kk_ => XS.aloadN X0.here hx rfl (hb hby d4_6) rfl rfl  kk_) ?_
  show Goes p e below _ (s₁.setTop (mkF m 7 #[.val (.ref a), .val (.int rk), .val (.int sz), .val (.long (0 : Int64)), .second, .val (.long (rk.toInt64)), .second, .unset, .unset] [(.ref a)]))
  obtain ⟨T1, X1, e1, st1⟩ := getF X0 hx hZ hown (host := "") (Or.inl (hw _ (List.mem_of_getElem? (i := 10) rfl))) Via.refl e0 F0_a_users (g := (mkF m 7 #[.val (.ref a), .val (.int rk), .val (.int sz), .val (.long (0 : Int64)), .second, .val (.long (rk.toInt64)), .second, .unset, .unset] [(.ref a)])) rfl rfl (hb hby d4_7)
  refine Goes.via st1 ?_
  show Goes p e below _ (T1.setTop (mkF m 10 #[.val (.ref a), .val (.int rk), .val (.int sz), .val (.long (0 : Int64)), .second, .val (.long (rk.toInt64)), .second, .unset, .unset] [(.int us)]))
  refine Goes.via (fun _ kk_ => XS.istore X1.here hx rfl (hb hby d4_10) rfl (l' := #[.val (.ref a), .val (.int rk), .val (.int sz), .val (.long (0 : Int64)), .second, .val (.long (rk.toInt64)), .second, .val (.int us), .unset]) rfl kk_) ?_
  show Goes p e below _ (T1.setTop (mkF m 12 #[.val (.ref a), .val (.int rk), .val (.int sz), .val (.long (0 : Int64)), .second, .val (.long (rk.toInt64)), .second, .val (.int us), .unset] []))
  refine Goes.via (fun _ kk_ => XS.iloadN X1.here hx rfl (hb hby d4_12) rfl  kk_) ?_
  show Goes p e below _ (T1.setTop (mkF m 13 #[.val (.ref a), .val (.int rk), .val (.int sz), .val (.long (0 : Int64)), .second, .val (.long (rk.toInt64)), .second, .val (.int us), .unset] [(.int sz)]))
  refine Goes.via (fun _ kk_ => XS.istore X1.here hx rfl (hb hby d4_13) rfl (l' := #[.val (.ref a), .val (.int rk), .val (.int sz), .val (.long (0 : Int64)), .second, .val (.long (rk.toInt64)), .second, .val (.int us), .val (.int sz)]) rfl kk_) ?_
  show Goes p e below _ (T1.setTop (mkF m 15 #[.val (.ref a), .val (.int rk), .val (.int sz), .val (.long (0 : Int64)), .second, .val (.long (rk.toInt64)), .second, .val (.int us), .val (.int sz)] []))
  have lp2 : ∀ (fu2 : Nat) (ac : Int64) (lf : Int64) (w : Int32) (i : Int32) (ys : List Nat) (b : Nat) (T2 : State) (lc2 : List Loc), (Stand p l e ({ frames := 0, cells := 0, slots := 0, locals := 0 } : Room) s m #[(.ref a), (.int rk), (.int sz)] below meth c T2 lc2 0 0) → (T2.heap = h0) → (Fr n0 lc2) → (w.toInt = (b : Int)) → (i.toInt = (ys.length : Int)) → (lf.toInt = (own_rk ys : Int)) → (own_dn b ys) → (own_or ac ys = own_or (0 : Int64) xs) → (b ≤ n) → (ys.length ≤ 4) → (ys.length < fu2) → Goes p e below (Fin_ s (Qrm4 Z a rk sz us g kA kB n xs h0 n0) ({ frames := 0, cells := 0, slots := 0, locals := 0 } : Room).cells ({ frames := 0, cells := 0, slots := 0, locals := 0 } : Room).slots) (T2.setTop (mkF m 15 #[.val (.ref a), .val (.int rk), .val (.int sz), .val (.long ac), .second, .val (.long lf), .second, .val (.int w), .val (.int i)] [])) := by
    intro fu2
    induction fu2 with
    | zero =>
      intro ac lf w i ys b T2 lc2 X2 e2 N2 hw_ hi hlf hdn hor hbn hl4 hfu
      omega
    | succ fu2 ih2 =>
      intro ac lf w i ys b T2 lc2 X2 e2 N2 hw_ hi hlf hdn hor hbn hl4 hfu
      refine Goes.via (fun _ kk_ => XS.iload X2.here hx rfl (hb hby d4_15) rfl  kk_) ?_
      show Goes p e below _ (T2.setTop (mkF m 17 #[.val (.ref a), .val (.int rk), .val (.int sz), .val (.long ac), .second, .val (.long lf), .second, .val (.int w), .val (.int i)] [(.int i)]))
      refine Goes.via (fun _ kk_ => XS.iconst X2.here hx rfl (hb hby d4_17) kk_) ?_
      show Goes p e below _ (T2.setTop (mkF m 18 #[.val (.ref a), .val (.int rk), .val (.int sz), .val (.long ac), .second, .val (.long lf), .second, .val (.int w), .val (.int i)] [(.int (1 : Int32)), (.int i)]))
      by_cases hc18 : i < (1 : Int32)
      · skip
        refine Goes.via (fun _ kk_ => XS.icmpYes X2.here hx rfl (pc0 := 18) (pc' := 74) rfl (hb hby d4_18) rfl (tlt hc18).1 (by decide) (by decide) kk_) ?_
        show Goes p e below _ (T2.setTop (mkF m 74 #[.val (.ref a), .val (.int rk), .val (.int sz), .val (.long ac), .second, .val (.long lf), .second, .val (.int w), .val (.int i)] []))
        have hys : ys = [] := by have q := own_lti.mp hc18; have q1 : (1 : Int32).toInt = 1 := (by decide); exact List.length_eq_zero_iff.mp (by omega)
        subst hys
        refine Goes.via (fun _ kk_ => XS.lloadN X2.here hx rfl (hb hby d4_74) rfl  kk_) ?_
        show Goes p e below _ (T2.setTop (mkF m 75 #[.val (.ref a), .val (.int rk), .val (.int sz), .val (.long ac), .second, .val (.long lf), .second, .val (.int w), .val (.int i)] [(.long ac)]))
        exact own_finJ X2 hx hlk hret (hb hby d4_75) (by rw [e2]; exact ⟨(congrArg (fun z => some (Value.long z)) hor), N2, rfl⟩) (by first | decide | omega | (dsimp only; omega)) (by first | decide | omega | (dsimp only; omega))
      · skip
        refine Goes.via (fun _ kk_ => XS.icmpNo X2.here hx rfl (hb hby d4_18) rfl (flt hc18).1 kk_) ?_
        show Goes p e below _ (T2.setTop (mkF m 21 #[.val (.ref a), .val (.int rk), .val (.int sz), .val (.long ac), .second, .val (.long lf), .second, .val (.int w), .val (.int i)] []))
        have hpos : 0 < ys.length := by have q : ¬ i.toInt < (1 : Int32).toInt := fun q => hc18 (own_lti.mpr q); have q1 : (1 : Int32).toInt = 1 := (by decide); omega
        obtain ⟨u, r, rfl⟩ : ∃ u r, ys = u :: r := by cases ys with | nil => simp at hpos | cons u r => exact ⟨u, r, rfl⟩
        have hub : u < b := hdn.1
        have hrl : r.length + 1 < 5 := by simp at hl4; omega
        have hi' : i.toInt = ((r.length + 1 : Nat) : Int) := by simpa using hi
        refine Goes.via (fun _ kk_ => XS.iinc X2.here hx rfl (hb hby d4_21) rfl (l' := #[.val (.ref a), .val (.int rk), .val (.int sz), .val (.long ac), .second, .val (.long lf), .second, .val (.int (w + (-1 : Int32))), .val (.int i)]) rfl kk_) ?_
        show Goes p e below _ (T2.setTop (mkF m 24 #[.val (.ref a), .val (.int rk), .val (.int sz), .val (.long ac), .second, .val (.long lf), .second, .val (.int (w + (-1 : Int32))), .val (.int i)] []))
        have lp3 : ∀ (fu3 : Nat) (v : Int32) (vb : Nat) (T3 : State) (lc3 : List Loc), (Stand p l e ({ frames := 0, cells := 0, slots := 0, locals := 0 } : Room) s m #[(.ref a), (.int rk), (.int sz)] below meth c T3 lc3 0 0) → (T3.heap = h0) → (Fr n0 lc3) → (v.toInt = (vb : Int)) → (u ≤ vb) → (vb < b) → (vb < fu3) → Goes p e below (Fin_ s (Qrm4 Z a rk sz us g kA kB n xs h0 n0) ({ frames := 0, cells := 0, slots := 0, locals := 0 } : Room).cells ({ frames := 0, cells := 0, slots := 0, locals := 0 } : Room).slots) (T3.setTop (mkF m 24 #[.val (.ref a), .val (.int rk), .val (.int sz), .val (.long ac), .second, .val (.long lf), .second, .val (.int v), .val (.int i)] [])) := by
          intro fu3
          induction fu3 with
          | zero =>
            intro v vb T3 lc3 X3 e3 N3 hv_ huv hvb hfv
            omega
          | succ fu3 ih3 =>
            intro v vb T3 lc3 X3 e3 N3 hv_ huv hvb hfv
            refine Goes.via (fun _ kk_ => XS.aloadN X3.here hx rfl (hb hby d4_24) rfl rfl  kk_) ?_
            show Goes p e below _ (T3.setTop (mkF m 25 #[.val (.ref a), .val (.int rk), .val (.int sz), .val (.long ac), .second, .val (.long lf), .second, .val (.int v), .val (.int i)] [(.ref a)]))
            obtain ⟨T4, X4, e4, st4⟩ := getF X3 hx hZ hown (host := "") (Or.inl (hw _ (List.mem_of_getElem? (i := 15) rfl))) Via.refl e3 F1_a_binomial (g := (mkF m 25 #[.val (.ref a), .val (.int rk), .val (.int sz), .val (.long ac), .second, .val (.long lf), .second, .val (.int v), .val (.int i)] [(.ref a)])) rfl rfl (hb hby d4_25)
            refine Goes.via st4 ?_
            show Goes p e below _ (T4.setTop (mkF m 28 #[.val (.ref a), .val (.int rk), .val (.int sz), .val (.long ac), .second, .val (.long lf), .second, .val (.int v), .val (.int i)] [(.ref g)]))
            refine Goes.via (fun _ kk_ => XS.iload X4.here hx rfl (hb hby d4_28) rfl  kk_) ?_
            show Goes p e below _ (T4.setTop (mkF m 30 #[.val (.ref a), .val (.int rk), .val (.int sz), .val (.long ac), .second, .val (.long lf), .second, .val (.int v), .val (.int i)] [(.int v), (.ref g)]))
            refine Goes.via (own_gaaload X4 hx hZ e4 A2_g (i := vb) hv_ (by omega) (g := (mkF m 30 #[.val (.ref a), .val (.int rk), .val (.int sz), .val (.long ac), .second, .val (.long lf), .second, .val (.int v), .val (.int i)] [(.int v), (.ref g)])) rfl rfl (hb hby d4_30)) ?_
            show Goes p e below _ (T4.setTop (mkF m 31 #[.val (.ref a), .val (.int rk), .val (.int sz), .val (.long ac), .second, .val (.long lf), .second, .val (.int v), .val (.int i)] [(.ref (g + 1 + vb))]))
            refine Goes.via (fun _ kk_ => XS.iload X4.here hx rfl (hb hby d4_31) rfl  kk_) ?_
            show Goes p e below _ (T4.setTop (mkF m 33 #[.val (.ref a), .val (.int rk), .val (.int sz), .val (.long ac), .second, .val (.long lf), .second, .val (.int v), .val (.int i)] [(.int i), (.ref (g + 1 + vb))]))
            refine Goes.via (own_glaload X4 hx hZ e4 A2_g (i := vb) (j := r.length + 1) (by omega) hi' hrl (g := (mkF m 33 #[.val (.ref a), .val (.int rk), .val (.int sz), .val (.long ac), .second, .val (.long lf), .second, .val (.int v), .val (.int i)] [(.int i), (.ref (g + 1 + vb))])) rfl rfl (hb hby d4_33)) ?_
            show Goes p e below _ (T4.setTop (mkF m 34 #[.val (.ref a), .val (.int rk), .val (.int sz), .val (.long ac), .second, .val (.long lf), .second, .val (.int v), .val (.int i)] [(.long (own_C vb (r.length + 1)))]))
            refine Goes.via (fun _ kk_ => XS.lload X4.here hx rfl (hb hby d4_34) rfl  kk_) ?_
            show Goes p e below _ (T4.setTop (mkF m 36 #[.val (.ref a), .val (.int rk), .val (.int sz), .val (.long ac), .second, .val (.long lf), .second, .val (.int v), .val (.int i)] [(.long lf), (.long (own_C vb (r.length + 1)))]))
            refine Goes.via (fun _ kk_ => XS.lcmp X4.here hx rfl (hb hby d4_36) rfl kk_) ?_
            show Goes p e below _ (T4.setTop (mkF m 37 #[.val (.ref a), .val (.int rk), .val (.int sz), .val (.long ac), .second, .val (.long lf), .second, .val (.int v), .val (.int i)] [(.int (lcmpW (own_C vb (r.length + 1)) lf))]))
            by_cases hc37 : lf < (own_C vb (r.length + 1))
            · skip
              refine Goes.via (fun _ kk_ => XS.ifNo X4.here hx rfl (hb hby d4_37) rfl ((if0 _ _).trans (tlt ((lw_gt (own_C vb (r.length + 1)) lf).mpr hc37)).2.2.2) kk_) ?_
              show Goes p e below _ (T4.setTop (mkF m 40 #[.val (.ref a), .val (.int rk), .val (.int sz), .val (.long ac), .second, .val (.long lf), .second, .val (.int v), .val (.int i)] []))
              have hne : u < vb := by
                have q := own_ltL.mp hc37
                rw [own_CB vb _ (by omega) hrl, hlf] at q
                rcases Nat.lt_or_ge u vb with q2 | q2
                · exact q2
                · obtain rfl : u = vb := by omega
                  simp only [own_rk] at q
                  omega
              refine Goes.via (fun _ kk_ => XS.iinc X4.here hx rfl (hb hby d4_40) rfl (l' := #[.val (.ref a), .val (.int rk), .val (.int sz), .val (.long ac), .second, .val (.long lf), .second, .val (.int (v + (-1 : Int32))), .val (.int i)]) rfl kk_) ?_
              show Goes p e below _ (T4.setTop (mkF m 43 #[.val (.ref a), .val (.int rk), .val (.int sz), .val (.long ac), .second, .val (.long lf), .second, .val (.int (v + (-1 : Int32))), .val (.int i)] []))
              refine Goes.via (fun _ kk_ => XS.goto X4.here hx rfl (pc0 := 43) (pc' := 24) rfl (hb hby d4_43) (by decide) (by decide) kk_) ?_
              show Goes p e below _ (T4.setTop (mkF m 24 #[.val (.ref a), .val (.int rk), .val (.int sz), .val (.long ac), .second, .val (.long lf), .second, .val (.int (v + (-1 : Int32))), .val (.int i)] []))
              exact ih3 ((v + (-1 : Int32))) (vb - 1) _ _ X4 e4 N3 (own_m1 hv_ (by omega)) (by omega) (by omega) (by omega)
            · skip
              refine Goes.via (fun _ kk_ => XS.ifYes X4.here hx rfl (pc0 := 37) (pc' := 46) rfl (hb hby d4_37) rfl ((if0 _ _).trans (flt (fun q => hc37 ((lw_gt (own_C vb (r.length + 1)) lf).mp q))).2.2.2) (by decide) (by decide) kk_) ?_
              show Goes p e below _ (T4.setTop (mkF m 46 #[.val (.ref a), .val (.int rk), .val (.int sz), .val (.long ac), .second, .val (.long lf), .second, .val (.int v), .val (.int i)] []))
              have hvu : u = vb := by
                have q : ¬ _ := fun q => hc37 (own_ltL.mpr q)
                rw [own_CB vb _ (by omega) hrl, hlf] at q
                rcases Nat.lt_or_ge u vb with q2 | q2
                · have := own_up hdn.2 q2
                  omega
                · omega
              subst hvu
              have hw2 := hv_
              refine Goes.via (fun _ kk_ => XS.lloadN X4.here hx rfl (hb hby d4_46) rfl  kk_) ?_
              show Goes p e below _ (T4.setTop (mkF m 47 #[.val (.ref a), .val (.int rk), .val (.int sz), .val (.long ac), .second, .val (.long lf), .second, .val (.int v), .val (.int i)] [(.long ac)]))
              refine Goes.via (fun _ kk_ => XS.lconst X4.here hx rfl (hb hby d4_47) kk_) ?_
              show Goes p e below _ (T4.setTop (mkF m 48 #[.val (.ref a), .val (.int rk), .val (.int sz), .val (.long ac), .second, .val (.long lf), .second, .val (.int v), .val (.int i)] [(.long (1 : Int64)), (.long ac)]))
              refine Goes.via (fun _ kk_ => XS.iload X4.here hx rfl (hb hby d4_48) rfl  kk_) ?_
              show Goes p e below _ (T4.setTop (mkF m 50 #[.val (.ref a), .val (.int rk), .val (.int sz), .val (.long ac), .second, .val (.long lf), .second, .val (.int v), .val (.int i)] [(.int v), (.long (1 : Int64)), (.long ac)]))
              refine Goes.via (fun _ kk_ => XS.lshl X4.here hx rfl (hb hby d4_50) rfl kk_) ?_
              show Goes p e below _ (T4.setTop (mkF m 51 #[.val (.ref a), .val (.int rk), .val (.int sz), .val (.long ac), .second, .val (.long lf), .second, .val (.int v), .val (.int i)] [(.long ((1 : Int64) <<< (v &&& 0x3f).toInt64)), (.long ac)]))
              refine Goes.via (fun _ kk_ => XS.lor X4.here hx rfl (hb hby d4_51) rfl kk_) ?_
              show Goes p e below _ (T4.setTop (mkF m 52 #[.val (.ref a), .val (.int rk), .val (.int sz), .val (.long ac), .second, .val (.long lf), .second, .val (.int v), .val (.int i)] [(.long (ac ||| ((1 : Int64) <<< (v &&& 0x3f).toInt64)))]))
              refine Goes.via (fun _ kk_ => XS.lstoreN X4.here hx rfl (hb hby d4_52) rfl (l' := #[.val (.ref a), .val (.int rk), .val (.int sz), .val (.long (ac ||| ((1 : Int64) <<< (v &&& 0x3f).toInt64))), .second, .val (.long lf), .second, .val (.int v), .val (.int i)]) rfl kk_) ?_
              show Goes p e below _ (T4.setTop (mkF m 53 #[.val (.ref a), .val (.int rk), .val (.int sz), .val (.long (ac ||| ((1 : Int64) <<< (v &&& 0x3f).toInt64))), .second, .val (.long lf), .second, .val (.int v), .val (.int i)] []))
              refine Goes.via (fun _ kk_ => XS.lload X4.here hx rfl (hb hby d4_53) rfl  kk_) ?_
              show Goes p e below _ (T4.setTop (mkF m 55 #[.val (.ref a), .val (.int rk), .val (.int sz), .val (.long (ac ||| ((1 : Int64) <<< (v &&& 0x3f).toInt64))), .second, .val (.long lf), .second, .val (.int v), .val (.int i)] [(.long lf)]))
              refine Goes.via (fun _ kk_ => XS.aloadN X4.here hx rfl (hb hby d4_55) rfl rfl  kk_) ?_
              show Goes p e below _ (T4.setTop (mkF m 56 #[.val (.ref a), .val (.int rk), .val (.int sz), .val (.long (ac ||| ((1 : Int64) <<< (v &&& 0x3f).toInt64))), .second, .val (.long lf), .second, .val (.int v), .val (.int i)] [(.ref a), (.long lf)]))
              obtain ⟨T5, X5, e5, st5⟩ := getF X4 hx hZ hown (host := "") (Or.inl (hw _ (List.mem_of_getElem? (i := 15) rfl))) Via.refl e4 F1_a_binomial (g := (mkF m 56 #[.val (.ref a), .val (.int rk), .val (.int sz), .val (.long (ac ||| ((1 : Int64) <<< (v &&& 0x3f).toInt64))), .second, .val (.long lf), .second, .val (.int v), .val (.int i)] [(.ref a), (.long lf)])) rfl rfl (hb hby d4_56)
              refine Goes.via st5 ?_
              show Goes p e below _ (T5.setTop (mkF m 59 #[.val (.ref a), .val (.int rk), .val (.int sz), .val (.long (ac ||| ((1 : Int64) <<< (v &&& 0x3f).toInt64))), .second, .val (.long lf), .second, .val (.int v), .val (.int i)] [(.ref g), (.long lf)]))
              refine Goes.via (fun _ kk_ => XS.iload X5.here hx rfl (hb hby d4_59) rfl  kk_) ?_
              show Goes p e below _ (T5.setTop (mkF m 61 #[.val (.ref a), .val (.int rk), .val (.int sz), .val (.long (ac ||| ((1 : Int64) <<< (v &&& 0x3f).toInt64))), .second, .val (.long lf), .second, .val (.int v), .val (.int i)] [(.int v), (.ref g), (.long lf)]))
              refine Goes.via (own_gaaload X5 hx hZ e5 A2_g (i := u) hv_ (by omega) (g := (mkF m 61 #[.val (.ref a), .val (.int rk), .val (.int sz), .val (.long (ac ||| ((1 : Int64) <<< (v &&& 0x3f).toInt64))), .second, .val (.long lf), .second, .val (.int v), .val (.int i)] [(.int v), (.ref g), (.long lf)])) rfl rfl (hb hby d4_61)) ?_
              show Goes p e below _ (T5.setTop (mkF m 62 #[.val (.ref a), .val (.int rk), .val (.int sz), .val (.long (ac ||| ((1 : Int64) <<< (v &&& 0x3f).toInt64))), .second, .val (.long lf), .second, .val (.int v), .val (.int i)] [(.ref (g + 1 + u)), (.long lf)]))
              refine Goes.via (fun _ kk_ => XS.iload X5.here hx rfl (hb hby d4_62) rfl  kk_) ?_
              show Goes p e below _ (T5.setTop (mkF m 64 #[.val (.ref a), .val (.int rk), .val (.int sz), .val (.long (ac ||| ((1 : Int64) <<< (v &&& 0x3f).toInt64))), .second, .val (.long lf), .second, .val (.int v), .val (.int i)] [(.int i), (.ref (g + 1 + u)), (.long lf)]))
              refine Goes.via (own_glaload X5 hx hZ e5 A2_g (i := u) (j := r.length + 1) (by omega) hi' hrl (g := (mkF m 64 #[.val (.ref a), .val (.int rk), .val (.int sz), .val (.long (ac ||| ((1 : Int64) <<< (v &&& 0x3f).toInt64))), .second, .val (.long lf), .second, .val (.int v), .val (.int i)] [(.int i), (.ref (g + 1 + u)), (.long lf)])) rfl rfl (hb hby d4_64)) ?_
              show Goes p e below _ (T5.setTop (mkF m 65 #[.val (.ref a), .val (.int rk), .val (.int sz), .val (.long (ac ||| ((1 : Int64) <<< (v &&& 0x3f).toInt64))), .second, .val (.long lf), .second, .val (.int v), .val (.int i)] [(.long (own_C u (r.length + 1))), (.long lf)]))
              refine Goes.via (fun _ kk_ => XS.lsub X5.here hx rfl (hb hby d4_65) rfl kk_) ?_
              show Goes p e below _ (T5.setTop (mkF m 66 #[.val (.ref a), .val (.int rk), .val (.int sz), .val (.long (ac ||| ((1 : Int64) <<< (v &&& 0x3f).toInt64))), .second, .val (.long lf), .second, .val (.int v), .val (.int i)] [(.long (lf - (own_C u (r.length + 1))))]))
              refine Goes.via (fun _ kk_ => XS.lstore X5.here hx rfl (hb hby d4_66) rfl (l' := #[.val (.ref a), .val (.int rk), .val (.int sz), .val (.long (ac ||| ((1 : Int64) <<< (v &&& 0x3f).toInt64))), .second, .val (.long (lf - (own_C u (r.length + 1)))), .second, .val (.int v), .val (.int i)]) rfl kk_) ?_
              show Goes p e below _ (T5.setTop (mkF m 68 #[.val (.ref a), .val (.int rk), .val (.int sz), .val (.long (ac ||| ((1 : Int64) <<< (v &&& 0x3f).toInt64))), .second, .val (.long (lf - (own_C u (r.length + 1)))), .second, .val (.int v), .val (.int i)] []))
              refine Goes.via (fun _ kk_ => XS.iinc X5.here hx rfl (hb hby d4_68) rfl (l' := #[.val (.ref a), .val (.int rk), .val (.int sz), .val (.long (ac ||| ((1 : Int64) <<< (v &&& 0x3f).toInt64))), .second, .val (.long (lf - (own_C u (r.length + 1)))), .second, .val (.int v), .val (.int (i + (-1 : Int32)))]) rfl kk_) ?_
              show Goes p e below _ (T5.setTop (mkF m 71 #[.val (.ref a), .val (.int rk), .val (.int sz), .val (.long (ac ||| ((1 : Int64) <<< (v &&& 0x3f).toInt64))), .second, .val (.long (lf - (own_C u (r.length + 1)))), .second, .val (.int v), .val (.int (i + (-1 : Int32)))] []))
              refine Goes.via (fun _ kk_ => XS.goto X5.here hx rfl (pc0 := 71) (pc' := 15) rfl (hb hby d4_71) (by decide) (by decide) kk_) ?_
              show Goes p e below _ (T5.setTop (mkF m 15 #[.val (.ref a), .val (.int rk), .val (.int sz), .val (.long (ac ||| ((1 : Int64) <<< (v &&& 0x3f).toInt64))), .second, .val (.long (lf - (own_C u (r.length + 1)))), .second, .val (.int v), .val (.int (i + (-1 : Int32)))] []))
              exact ih2 ((ac ||| ((1 : Int64) <<< (v &&& 0x3f).toInt64))) ((lf - (own_C u (r.length + 1)))) (v) ((i + (-1 : Int32))) (r) (u) _ _ X5 e5 N3 hw2 (by have := own_m1 hi (by simp); simpa using this) (own_sub hlf (by omega) (by simp at hl4; omega)) hdn.2 (by rw [own_ofn hw2 (by omega)]; exact hor) (by omega) (by simp at hl4; omega) (by simp at hfu; omega)
        exact lp3 (b) ((w + (-1 : Int32))) (b - 1) _ _ X2 e2 N2 (own_m1 hw_ (by omega)) (by omega) (by omega) (by omega)
  exact lp2 (5) ((0 : Int64)) (rk.toInt64) (us) (sz) (xs) (n) _ _ X1 e1 N0 Hn Hs (by rw [c_i2l]; exact Hr) Hd rfl (Nat.le_refl _) Hx (by omega)
theorem ef_rm7 (m : MethodId) (u : Int32) : entryFrame m #[(.int u)] 3 = mkF m 0 #[.val (.int u), .unset, .unset] [] := by first | (simp [entryFrame, mkF, argsToLocals, Value.category]; done) | rfl
def Qrm7 (Z : State) (u : Int32) (h0 : Heap) (n0 : Nat) (v_ : Option Value) (h_ : Heap) (L_ : List Loc) : Prop := v_ = some (.long (own_c2 u)) ∧ Fr n0 L_ ∧ h_ = h0
theorem pn_com_example_checks_on_duty_checksonduty_engine_RankedSetsSetPinLaw : plainName "com/example/checks_on_duty/checksonduty/engine/RankedSetsSetPinLaw" = true := by first | (simp [plainName, overriddenIn]; done) | decide +kernel
theorem d7_0 : decode method_2_code 0 = .ok (.iload_n 0, 1) := by decide +kernel
theorem d7_1 : decode method_2_code 1 = .ok (.i2l, 1) := by decide +kernel
theorem d7_2 : decode method_2_code 2 = .ok (.lstore_n 1, 1) := by decide +kernel
theorem d7_3 : decode method_2_code 3 = .ok (.lload_n 1, 1) := by decide +kernel
theorem d7_4 : decode method_2_code 4 = .ok (.lload_n 1, 1) := by decide +kernel
theorem d7_5 : decode method_2_code 5 = .ok (.lconst 1, 1) := by decide +kernel
theorem d7_6 : decode method_2_code 6 = .ok (.lsub, 1) := by decide +kernel
theorem d7_7 : decode method_2_code 7 = .ok (.lmul, 1) := by decide +kernel
theorem d7_8 : decode method_2_code 8 = .ok (.ldc2_w 7, 3) := by decide +kernel
theorem d7_11 : decode method_2_code 11 = .ok (.ldiv, 1) := by decide +kernel
theorem d7_12 : decode method_2_code 12 = .ok (.lreturn, 1) := by decide +kernel
set_option maxRecDepth 65536 in
set_option maxHeartbeats 40000000 in
theorem rm7 (l : Launch) (Z : State) (a0 : Array Value) (hw : ∀ d ∈ tables_1, d.before a0 Z = true) (ws : List Jvm.Cond) (u : Int32) (h0 : Heap) (n0 : Nat) (Z0 : n0 ≤ h0.size) :
    MetFree l (⟨"com/example/checks_on_duty/checksonduty/engine/RankedSetsSetPinLaw", "c2", "(I)J"⟩ : MethodName) (head1 (Jvm.Cond.code (⟨"com/example/checks_on_duty/checksonduty/engine/RankedSetsSetPinLaw", "c2", "(I)J"⟩ : MethodName) method_2_code 3 (some .long) :: ws) ({ frames := 0, cells := 0, slots := 0, locals := 0 } : Room)) (fun as_ U_ => as_ = #[(.int u)] ∧ Z.Warmed39 U_.vm ∧ U_.heap = h0) (fun _ _ _ _ _ => True) (fun _ U_ o_ V_ => ∃ v_ L_, o_ = .returned v_ ∧ Qrm7 Z u h0 n0 v_ V_.heap L_ ∧ FrameEnd U_ o_ V_ L_ ({ frames := 0, cells := 0, slots := 0, locals := 0 } : Room).cells ({ frames := 0, cells := 0, slots := 0, locals := 0 } : Room).slots) := by
  refine MetFree.of_bodySF (plainFor_of_name pn_com_example_checks_on_duty_checksonduty_engine_RankedSetsSetPinLaw) hisR ?_
  intro p e s m args below meth c s₁ Bd hml0 hP hK
  obtain ⟨rfl, hZ, hh⟩ := hP
  have hx := Bd.exec
  have hby := Bd.bytes
  have hlk : meth.locks = false := BodyLoose.notSynchronized Bd
  have hret := Bd.returns
  have hml : c.maxLocals = 3 := hml0
  have hown : s.vm.findClass "com/example/checks_on_duty/checksonduty/engine/RankedSetsSetPinLaw" = some m.cls := findClass_of_methodNamed Bd.named
  have hnm := (name_of_methodNamed Bd.named Bd.method).1
  have X0 : Stand p l e ({ frames := 0, cells := 0, slots := 0, locals := 0 } : Room) s m #[(.int u)] below meth c s₁ [] 0 0 := Stand.of_body Bd
  have e0 : s₁.heap = h0 := by rw [← hh, Bd.state]; rfl
  have N0 := Fr.nil n0
  show Goes p e below (Fin_ s (Qrm7 Z u h0 n0) ({ frames := 0, cells := 0, slots := 0, locals := 0 } : Room).cells ({ frames := 0, cells := 0, slots := 0, locals := 0 } : Room).slots) (s₁.setTop (entryFrame m #[(.int u)] 3))
  rw [ef_rm7 m u]
  refine Goes.via (fun _ kk_ => XS.iloadN X0.here hx rfl (hb hby d7_0) rfl  kk_) ?_
  show Goes p e below _ (s₁.setTop (mkF m 1 #[.val (.int u), .unset, .unset] [(.int u)]))
  refine Goes.via (fun _ kk_ => XS.i2l X0.here hx rfl (hb hby d7_1) rfl kk_) ?_
  show Goes p e below _ (s₁.setTop (mkF m 2 #[.val (.int u), .unset, .unset] [(.long (u.toInt64))]))
  refine Goes.via (fun _ kk_ => XS.lstoreN X0.here hx rfl (hb hby d7_2) rfl (l' := #[.val (.int u), .val (.long (u.toInt64)), .second]) rfl kk_) ?_
  show Goes p e below _ (s₁.setTop (mkF m 3 #[.val (.int u), .val (.long (u.toInt64)), .second] []))
  refine Goes.via (fun _ kk_ => XS.lloadN X0.here hx rfl (hb hby d7_3) rfl  kk_) ?_
  show Goes p e below _ (s₁.setTop (mkF m 4 #[.val (.int u), .val (.long (u.toInt64)), .second] [(.long (u.toInt64))]))
  refine Goes.via (fun _ kk_ => XS.lloadN X0.here hx rfl (hb hby d7_4) rfl  kk_) ?_
  show Goes p e below _ (s₁.setTop (mkF m 5 #[.val (.int u), .val (.long (u.toInt64)), .second] [(.long (u.toInt64)), (.long (u.toInt64))]))
  refine Goes.via (fun _ kk_ => XS.lconst X0.here hx rfl (hb hby d7_5) kk_) ?_
  show Goes p e below _ (s₁.setTop (mkF m 6 #[.val (.int u), .val (.long (u.toInt64)), .second] [(.long (1 : Int64)), (.long (u.toInt64)), (.long (u.toInt64))]))
  refine Goes.via (fun _ kk_ => XS.lsub X0.here hx rfl (hb hby d7_6) rfl kk_) ?_
  show Goes p e below _ (s₁.setTop (mkF m 7 #[.val (.int u), .val (.long (u.toInt64)), .second] [(.long ((u.toInt64) - (1 : Int64))), (.long (u.toInt64))]))
  refine Goes.via (fun _ kk_ => XS.lmul X0.here hx rfl (hb hby d7_7) rfl kk_) ?_
  show Goes p e below _ (s₁.setTop (mkF m 8 #[.val (.int u), .val (.long (u.toInt64)), .second] [(.long ((u.toInt64) * ((u.toInt64) - (1 : Int64))))]))
  refine Goes.via (X0.ldc2Long hx hown (mvT hZ (hw _ (List.mem_of_getElem? (i := 30) rfl))) (g := (mkF m 8 #[.val (.int u), .val (.long (u.toInt64)), .second] [(.long ((u.toInt64) * ((u.toInt64) - (1 : Int64))))])) rfl (hb hby d7_8)) ?_
  show Goes p e below _ (s₁.setTop (mkF m 11 #[.val (.int u), .val (.long (u.toInt64)), .second] [(.long (2 : Int64)), (.long ((u.toInt64) * ((u.toInt64) - (1 : Int64))))]))
  refine Goes.via (fun _ kk_ => XS.ldiv X0.here hx rfl (hb hby d7_11) rfl (by decide) kk_) ?_
  show Goes p e below _ (s₁.setTop (mkF m 12 #[.val (.int u), .val (.long (u.toInt64)), .second] [(.long (((u.toInt64) * ((u.toInt64) - (1 : Int64))) / (2 : Int64)))]))
  exact own_finJ X0 hx hlk hret (hb hby d7_12) (by rw [e0]; exact ⟨rfl, N0, rfl⟩) (by first | decide | omega | (dsimp only; omega)) (by first | decide | omega | (dsimp only; omega))
theorem ef_rm6 (m : MethodId) (u : Int32) : entryFrame m #[(.int u)] 3 = mkF m 0 #[.val (.int u), .unset, .unset] [] := by first | (simp [entryFrame, mkF, argsToLocals, Value.category]; done) | rfl
def Qrm6 (Z : State) (u : Int32) (h0 : Heap) (n0 : Nat) (v_ : Option Value) (h_ : Heap) (L_ : List Loc) : Prop := v_ = some (.long (own_c3 u)) ∧ Fr n0 L_ ∧ h_ = h0
theorem d6_0 : decode method_3_code 0 = .ok (.iload_n 0, 1) := by decide +kernel
theorem d6_1 : decode method_3_code 1 = .ok (.i2l, 1) := by decide +kernel
theorem d6_2 : decode method_3_code 2 = .ok (.lstore_n 1, 1) := by decide +kernel
theorem d6_3 : decode method_3_code 3 = .ok (.lload_n 1, 1) := by decide +kernel
theorem d6_4 : decode method_3_code 4 = .ok (.lload_n 1, 1) := by decide +kernel
theorem d6_5 : decode method_3_code 5 = .ok (.lconst 1, 1) := by decide +kernel
theorem d6_6 : decode method_3_code 6 = .ok (.lsub, 1) := by decide +kernel
theorem d6_7 : decode method_3_code 7 = .ok (.lmul, 1) := by decide +kernel
theorem d6_8 : decode method_3_code 8 = .ok (.lload_n 1, 1) := by decide +kernel
theorem d6_9 : decode method_3_code 9 = .ok (.ldc2_w 7, 3) := by decide +kernel
theorem d6_12 : decode method_3_code 12 = .ok (.lsub, 1) := by decide +kernel
theorem d6_13 : decode method_3_code 13 = .ok (.lmul, 1) := by decide +kernel
theorem d6_14 : decode method_3_code 14 = .ok (.ldc2_w 9, 3) := by decide +kernel
theorem d6_17 : decode method_3_code 17 = .ok (.ldiv, 1) := by decide +kernel
theorem d6_18 : decode method_3_code 18 = .ok (.lreturn, 1) := by decide +kernel
set_option maxRecDepth 65536 in
set_option maxHeartbeats 40000000 in
theorem rm6 (l : Launch) (Z : State) (a0 : Array Value) (hw : ∀ d ∈ tables_1, d.before a0 Z = true) (ws : List Jvm.Cond) (u : Int32) (h0 : Heap) (n0 : Nat) (Z0 : n0 ≤ h0.size) :
    MetFree l (⟨"com/example/checks_on_duty/checksonduty/engine/RankedSetsSetPinLaw", "c3", "(I)J"⟩ : MethodName) (head1 (Jvm.Cond.code (⟨"com/example/checks_on_duty/checksonduty/engine/RankedSetsSetPinLaw", "c3", "(I)J"⟩ : MethodName) method_3_code 3 (some .long) :: ws) ({ frames := 0, cells := 0, slots := 0, locals := 0 } : Room)) (fun as_ U_ => as_ = #[(.int u)] ∧ Z.Warmed39 U_.vm ∧ U_.heap = h0) (fun _ _ _ _ _ => True) (fun _ U_ o_ V_ => ∃ v_ L_, o_ = .returned v_ ∧ Qrm6 Z u h0 n0 v_ V_.heap L_ ∧ FrameEnd U_ o_ V_ L_ ({ frames := 0, cells := 0, slots := 0, locals := 0 } : Room).cells ({ frames := 0, cells := 0, slots := 0, locals := 0 } : Room).slots) := by
  refine MetFree.of_bodySF (plainFor_of_name pn_com_example_checks_on_duty_checksonduty_engine_RankedSetsSetPinLaw) hisR ?_
  intro p e s m args below meth c s₁ Bd hml0 hP hK
  obtain ⟨rfl, hZ, hh⟩ := hP
  have hx := Bd.exec
  have hby := Bd.bytes
  have hlk : meth.locks = false := BodyLoose.notSynchronized Bd
  have hret := Bd.returns
  have hml : c.maxLocals = 3 := hml0
  have hown : s.vm.findClass "com/example/checks_on_duty/checksonduty/engine/RankedSetsSetPinLaw" = some m.cls := findClass_of_methodNamed Bd.named
  have hnm := (name_of_methodNamed Bd.named Bd.method).1
  have X0 : Stand p l e ({ frames := 0, cells := 0, slots := 0, locals := 0 } : Room) s m #[(.int u)] below meth c s₁ [] 0 0 := Stand.of_body Bd
  have e0 : s₁.heap = h0 := by rw [← hh, Bd.state]; rfl
  have N0 := Fr.nil n0
  show Goes p e below (Fin_ s (Qrm6 Z u h0 n0) ({ frames := 0, cells := 0, slots := 0, locals := 0 } : Room).cells ({ frames := 0, cells := 0, slots := 0, locals := 0 } : Room).slots) (s₁.setTop (entryFrame m #[(.int u)] 3))
  rw [ef_rm6 m u]
  refine Goes.via (fun _ kk_ => XS.iloadN X0.here hx rfl (hb hby d6_0) rfl  kk_) ?_
  show Goes p e below _ (s₁.setTop (mkF m 1 #[.val (.int u), .unset, .unset] [(.int u)]))
  refine Goes.via (fun _ kk_ => XS.i2l X0.here hx rfl (hb hby d6_1) rfl kk_) ?_
  show Goes p e below _ (s₁.setTop (mkF m 2 #[.val (.int u), .unset, .unset] [(.long (u.toInt64))]))
  refine Goes.via (fun _ kk_ => XS.lstoreN X0.here hx rfl (hb hby d6_2) rfl (l' := #[.val (.int u), .val (.long (u.toInt64)), .second]) rfl kk_) ?_
  show Goes p e below _ (s₁.setTop (mkF m 3 #[.val (.int u), .val (.long (u.toInt64)), .second] []))
  refine Goes.via (fun _ kk_ => XS.lloadN X0.here hx rfl (hb hby d6_3) rfl  kk_) ?_
  show Goes p e below _ (s₁.setTop (mkF m 4 #[.val (.int u), .val (.long (u.toInt64)), .second] [(.long (u.toInt64))]))
  refine Goes.via (fun _ kk_ => XS.lloadN X0.here hx rfl (hb hby d6_4) rfl  kk_) ?_
  show Goes p e below _ (s₁.setTop (mkF m 5 #[.val (.int u), .val (.long (u.toInt64)), .second] [(.long (u.toInt64)), (.long (u.toInt64))]))
  refine Goes.via (fun _ kk_ => XS.lconst X0.here hx rfl (hb hby d6_5) kk_) ?_
  show Goes p e below _ (s₁.setTop (mkF m 6 #[.val (.int u), .val (.long (u.toInt64)), .second] [(.long (1 : Int64)), (.long (u.toInt64)), (.long (u.toInt64))]))
  refine Goes.via (fun _ kk_ => XS.lsub X0.here hx rfl (hb hby d6_6) rfl kk_) ?_
  show Goes p e below _ (s₁.setTop (mkF m 7 #[.val (.int u), .val (.long (u.toInt64)), .second] [(.long ((u.toInt64) - (1 : Int64))), (.long (u.toInt64))]))
  refine Goes.via (fun _ kk_ => XS.lmul X0.here hx rfl (hb hby d6_7) rfl kk_) ?_
  show Goes p e below _ (s₁.setTop (mkF m 8 #[.val (.int u), .val (.long (u.toInt64)), .second] [(.long ((u.toInt64) * ((u.toInt64) - (1 : Int64))))]))
  refine Goes.via (fun _ kk_ => XS.lloadN X0.here hx rfl (hb hby d6_8) rfl  kk_) ?_
  show Goes p e below _ (s₁.setTop (mkF m 9 #[.val (.int u), .val (.long (u.toInt64)), .second] [(.long (u.toInt64)), (.long ((u.toInt64) * ((u.toInt64) - (1 : Int64))))]))
  refine Goes.via (X0.ldc2Long hx hown (mvT hZ (hw _ (List.mem_of_getElem? (i := 30) rfl))) (g := (mkF m 9 #[.val (.int u), .val (.long (u.toInt64)), .second] [(.long (u.toInt64)), (.long ((u.toInt64) * ((u.toInt64) - (1 : Int64))))])) rfl (hb hby d6_9)) ?_
  show Goes p e below _ (s₁.setTop (mkF m 12 #[.val (.int u), .val (.long (u.toInt64)), .second] [(.long (2 : Int64)), (.long (u.toInt64)), (.long ((u.toInt64) * ((u.toInt64) - (1 : Int64))))]))
  refine Goes.via (fun _ kk_ => XS.lsub X0.here hx rfl (hb hby d6_12) rfl kk_) ?_
  show Goes p e below _ (s₁.setTop (mkF m 13 #[.val (.int u), .val (.long (u.toInt64)), .second] [(.long ((u.toInt64) - (2 : Int64))), (.long ((u.toInt64) * ((u.toInt64) - (1 : Int64))))]))
  refine Goes.via (fun _ kk_ => XS.lmul X0.here hx rfl (hb hby d6_13) rfl kk_) ?_
  show Goes p e below _ (s₁.setTop (mkF m 14 #[.val (.int u), .val (.long (u.toInt64)), .second] [(.long (((u.toInt64) * ((u.toInt64) - (1 : Int64))) * ((u.toInt64) - (2 : Int64))))]))
  refine Goes.via (X0.ldc2Long hx hown (mvT hZ (hw _ (List.mem_of_getElem? (i := 36) rfl))) (g := (mkF m 14 #[.val (.int u), .val (.long (u.toInt64)), .second] [(.long (((u.toInt64) * ((u.toInt64) - (1 : Int64))) * ((u.toInt64) - (2 : Int64))))])) rfl (hb hby d6_14)) ?_
  show Goes p e below _ (s₁.setTop (mkF m 17 #[.val (.int u), .val (.long (u.toInt64)), .second] [(.long (6 : Int64)), (.long (((u.toInt64) * ((u.toInt64) - (1 : Int64))) * ((u.toInt64) - (2 : Int64))))]))
  refine Goes.via (fun _ kk_ => XS.ldiv X0.here hx rfl (hb hby d6_17) rfl (by decide) kk_) ?_
  show Goes p e below _ (s₁.setTop (mkF m 18 #[.val (.int u), .val (.long (u.toInt64)), .second] [(.long ((((u.toInt64) * ((u.toInt64) - (1 : Int64))) * ((u.toInt64) - (2 : Int64))) / (6 : Int64)))]))
  exact own_finJ X0 hx hlk hret (hb hby d6_18) (by rw [e0]; exact ⟨rfl, N0, rfl⟩) (by first | decide | omega | (dsimp only; omega)) (by first | decide | omega | (dsimp only; omega))
theorem ef_rm5 (m : MethodId) (u : Int32) : entryFrame m #[(.int u)] 3 = mkF m 0 #[.val (.int u), .unset, .unset] [] := by first | (simp [entryFrame, mkF, argsToLocals, Value.category]; done) | rfl
def Qrm5 (Z : State) (u : Int32) (h0 : Heap) (n0 : Nat) (v_ : Option Value) (h_ : Heap) (L_ : List Loc) : Prop := v_ = some (.long (own_c4 u)) ∧ Fr n0 L_ ∧ h_ = h0
theorem d5_0 : decode method_4_code 0 = .ok (.iload_n 0, 1) := by decide +kernel
theorem d5_1 : decode method_4_code 1 = .ok (.i2l, 1) := by decide +kernel
theorem d5_2 : decode method_4_code 2 = .ok (.lstore_n 1, 1) := by decide +kernel
theorem d5_3 : decode method_4_code 3 = .ok (.lload_n 1, 1) := by decide +kernel
theorem d5_4 : decode method_4_code 4 = .ok (.lload_n 1, 1) := by decide +kernel
theorem d5_5 : decode method_4_code 5 = .ok (.lconst 1, 1) := by decide +kernel
theorem d5_6 : decode method_4_code 6 = .ok (.lsub, 1) := by decide +kernel
theorem d5_7 : decode method_4_code 7 = .ok (.lmul, 1) := by decide +kernel
theorem d5_8 : decode method_4_code 8 = .ok (.lload_n 1, 1) := by decide +kernel
theorem d5_9 : decode method_4_code 9 = .ok (.ldc2_w 7, 3) := by decide +kernel
theorem d5_12 : decode method_4_code 12 = .ok (.lsub, 1) := by decide +kernel
theorem d5_13 : decode method_4_code 13 = .ok (.lmul, 1) := by decide +kernel
theorem d5_14 : decode method_4_code 14 = .ok (.lload_n 1, 1) := by decide +kernel
theorem d5_15 : decode method_4_code 15 = .ok (.ldc2_w 11, 3) := by decide +kernel
theorem d5_18 : decode method_4_code 18 = .ok (.lsub, 1) := by decide +kernel
theorem d5_19 : decode method_4_code 19 = .ok (.lmul, 1) := by decide +kernel
theorem d5_20 : decode method_4_code 20 = .ok (.ldc2_w 13, 3) := by decide +kernel
theorem d5_23 : decode method_4_code 23 = .ok (.ldiv, 1) := by decide +kernel
theorem d5_24 : decode method_4_code 24 = .ok (.lreturn, 1) := by decide +kernel
set_option maxRecDepth 65536 in
set_option maxHeartbeats 40000000 in
theorem rm5 (l : Launch) (Z : State) (a0 : Array Value) (hw : ∀ d ∈ tables_1, d.before a0 Z = true) (ws : List Jvm.Cond) (u : Int32) (h0 : Heap) (n0 : Nat) (Z0 : n0 ≤ h0.size) :
    MetFree l (⟨"com/example/checks_on_duty/checksonduty/engine/RankedSetsSetPinLaw", "c4", "(I)J"⟩ : MethodName) (head1 (Jvm.Cond.code (⟨"com/example/checks_on_duty/checksonduty/engine/RankedSetsSetPinLaw", "c4", "(I)J"⟩ : MethodName) method_4_code 3 (some .long) :: ws) ({ frames := 0, cells := 0, slots := 0, locals := 0 } : Room)) (fun as_ U_ => as_ = #[(.int u)] ∧ Z.Warmed39 U_.vm ∧ U_.heap = h0) (fun _ _ _ _ _ => True) (fun _ U_ o_ V_ => ∃ v_ L_, o_ = .returned v_ ∧ Qrm5 Z u h0 n0 v_ V_.heap L_ ∧ FrameEnd U_ o_ V_ L_ ({ frames := 0, cells := 0, slots := 0, locals := 0 } : Room).cells ({ frames := 0, cells := 0, slots := 0, locals := 0 } : Room).slots) := by
  refine MetFree.of_bodySF (plainFor_of_name pn_com_example_checks_on_duty_checksonduty_engine_RankedSetsSetPinLaw) hisR ?_
  intro p e s m args below meth c s₁ Bd hml0 hP hK
  obtain ⟨rfl, hZ, hh⟩ := hP
  have hx := Bd.exec
  have hby := Bd.bytes
  have hlk : meth.locks = false := BodyLoose.notSynchronized Bd
  have hret := Bd.returns
  have hml : c.maxLocals = 3 := hml0
  have hown : s.vm.findClass "com/example/checks_on_duty/checksonduty/engine/RankedSetsSetPinLaw" = some m.cls := findClass_of_methodNamed Bd.named
  have hnm := (name_of_methodNamed Bd.named Bd.method).1
  have X0 : Stand p l e ({ frames := 0, cells := 0, slots := 0, locals := 0 } : Room) s m #[(.int u)] below meth c s₁ [] 0 0 := Stand.of_body Bd
  have e0 : s₁.heap = h0 := by rw [← hh, Bd.state]; rfl
  have N0 := Fr.nil n0
  show Goes p e below (Fin_ s (Qrm5 Z u h0 n0) ({ frames := 0, cells := 0, slots := 0, locals := 0 } : Room).cells ({ frames := 0, cells := 0, slots := 0, locals := 0 } : Room).slots) (s₁.setTop (entryFrame m #[(.int u)] 3))
  rw [ef_rm5 m u]
  refine Goes.via (fun _ kk_ => XS.iloadN X0.here hx rfl (hb hby d5_0) rfl  kk_) ?_
  show Goes p e below _ (s₁.setTop (mkF m 1 #[.val (.int u), .unset, .unset] [(.int u)]))
  refine Goes.via (fun _ kk_ => XS.i2l X0.here hx rfl (hb hby d5_1) rfl kk_) ?_
  show Goes p e below _ (s₁.setTop (mkF m 2 #[.val (.int u), .unset, .unset] [(.long (u.toInt64))]))
  refine Goes.via (fun _ kk_ => XS.lstoreN X0.here hx rfl (hb hby d5_2) rfl (l' := #[.val (.int u), .val (.long (u.toInt64)), .second]) rfl kk_) ?_
  show Goes p e below _ (s₁.setTop (mkF m 3 #[.val (.int u), .val (.long (u.toInt64)), .second] []))
  refine Goes.via (fun _ kk_ => XS.lloadN X0.here hx rfl (hb hby d5_3) rfl  kk_) ?_
  show Goes p e below _ (s₁.setTop (mkF m 4 #[.val (.int u), .val (.long (u.toInt64)), .second] [(.long (u.toInt64))]))
  refine Goes.via (fun _ kk_ => XS.lloadN X0.here hx rfl (hb hby d5_4) rfl  kk_) ?_
  show Goes p e below _ (s₁.setTop (mkF m 5 #[.val (.int u), .val (.long (u.toInt64)), .second] [(.long (u.toInt64)), (.long (u.toInt64))]))
  refine Goes.via (fun _ kk_ => XS.lconst X0.here hx rfl (hb hby d5_5) kk_) ?_
  show Goes p e below _ (s₁.setTop (mkF m 6 #[.val (.int u), .val (.long (u.toInt64)), .second] [(.long (1 : Int64)), (.long (u.toInt64)), (.long (u.toInt64))]))
  refine Goes.via (fun _ kk_ => XS.lsub X0.here hx rfl (hb hby d5_6) rfl kk_) ?_
  show Goes p e below _ (s₁.setTop (mkF m 7 #[.val (.int u), .val (.long (u.toInt64)), .second] [(.long ((u.toInt64) - (1 : Int64))), (.long (u.toInt64))]))
  refine Goes.via (fun _ kk_ => XS.lmul X0.here hx rfl (hb hby d5_7) rfl kk_) ?_
  show Goes p e below _ (s₁.setTop (mkF m 8 #[.val (.int u), .val (.long (u.toInt64)), .second] [(.long ((u.toInt64) * ((u.toInt64) - (1 : Int64))))]))
  refine Goes.via (fun _ kk_ => XS.lloadN X0.here hx rfl (hb hby d5_8) rfl  kk_) ?_
  show Goes p e below _ (s₁.setTop (mkF m 9 #[.val (.int u), .val (.long (u.toInt64)), .second] [(.long (u.toInt64)), (.long ((u.toInt64) * ((u.toInt64) - (1 : Int64))))]))
  refine Goes.via (X0.ldc2Long hx hown (mvT hZ (hw _ (List.mem_of_getElem? (i := 30) rfl))) (g := (mkF m 9 #[.val (.int u), .val (.long (u.toInt64)), .second] [(.long (u.toInt64)), (.long ((u.toInt64) * ((u.toInt64) - (1 : Int64))))])) rfl (hb hby d5_9)) ?_
  show Goes p e below _ (s₁.setTop (mkF m 12 #[.val (.int u), .val (.long (u.toInt64)), .second] [(.long (2 : Int64)), (.long (u.toInt64)), (.long ((u.toInt64) * ((u.toInt64) - (1 : Int64))))]))
  refine Goes.via (fun _ kk_ => XS.lsub X0.here hx rfl (hb hby d5_12) rfl kk_) ?_
  show Goes p e below _ (s₁.setTop (mkF m 13 #[.val (.int u), .val (.long (u.toInt64)), .second] [(.long ((u.toInt64) - (2 : Int64))), (.long ((u.toInt64) * ((u.toInt64) - (1 : Int64))))]))
  refine Goes.via (fun _ kk_ => XS.lmul X0.here hx rfl (hb hby d5_13) rfl kk_) ?_
  show Goes p e below _ (s₁.setTop (mkF m 14 #[.val (.int u), .val (.long (u.toInt64)), .second] [(.long (((u.toInt64) * ((u.toInt64) - (1 : Int64))) * ((u.toInt64) - (2 : Int64))))]))
  refine Goes.via (fun _ kk_ => XS.lloadN X0.here hx rfl (hb hby d5_14) rfl  kk_) ?_
  show Goes p e below _ (s₁.setTop (mkF m 15 #[.val (.int u), .val (.long (u.toInt64)), .second] [(.long (u.toInt64)), (.long (((u.toInt64) * ((u.toInt64) - (1 : Int64))) * ((u.toInt64) - (2 : Int64))))]))
  refine Goes.via (X0.ldc2Long hx hown (mvT hZ (hw _ (List.mem_of_getElem? (i := 31) rfl))) (g := (mkF m 15 #[.val (.int u), .val (.long (u.toInt64)), .second] [(.long (u.toInt64)), (.long (((u.toInt64) * ((u.toInt64) - (1 : Int64))) * ((u.toInt64) - (2 : Int64))))])) rfl (hb hby d5_15)) ?_
  show Goes p e below _ (s₁.setTop (mkF m 18 #[.val (.int u), .val (.long (u.toInt64)), .second] [(.long (3 : Int64)), (.long (u.toInt64)), (.long (((u.toInt64) * ((u.toInt64) - (1 : Int64))) * ((u.toInt64) - (2 : Int64))))]))
  refine Goes.via (fun _ kk_ => XS.lsub X0.here hx rfl (hb hby d5_18) rfl kk_) ?_
  show Goes p e below _ (s₁.setTop (mkF m 19 #[.val (.int u), .val (.long (u.toInt64)), .second] [(.long ((u.toInt64) - (3 : Int64))), (.long (((u.toInt64) * ((u.toInt64) - (1 : Int64))) * ((u.toInt64) - (2 : Int64))))]))
  refine Goes.via (fun _ kk_ => XS.lmul X0.here hx rfl (hb hby d5_19) rfl kk_) ?_
  show Goes p e below _ (s₁.setTop (mkF m 20 #[.val (.int u), .val (.long (u.toInt64)), .second] [(.long ((((u.toInt64) * ((u.toInt64) - (1 : Int64))) * ((u.toInt64) - (2 : Int64))) * ((u.toInt64) - (3 : Int64))))]))
  refine Goes.via (X0.ldc2Long hx hown (mvT hZ (hw _ (List.mem_of_getElem? (i := 32) rfl))) (g := (mkF m 20 #[.val (.int u), .val (.long (u.toInt64)), .second] [(.long ((((u.toInt64) * ((u.toInt64) - (1 : Int64))) * ((u.toInt64) - (2 : Int64))) * ((u.toInt64) - (3 : Int64))))])) rfl (hb hby d5_20)) ?_
  show Goes p e below _ (s₁.setTop (mkF m 23 #[.val (.int u), .val (.long (u.toInt64)), .second] [(.long (24 : Int64)), (.long ((((u.toInt64) * ((u.toInt64) - (1 : Int64))) * ((u.toInt64) - (2 : Int64))) * ((u.toInt64) - (3 : Int64))))]))
  refine Goes.via (fun _ kk_ => XS.ldiv X0.here hx rfl (hb hby d5_23) rfl (by decide) kk_) ?_
  show Goes p e below _ (s₁.setTop (mkF m 24 #[.val (.int u), .val (.long (u.toInt64)), .second] [(.long (((((u.toInt64) * ((u.toInt64) - (1 : Int64))) * ((u.toInt64) - (2 : Int64))) * ((u.toInt64) - (3 : Int64))) / (24 : Int64)))]))
  exact own_finJ X0 hx hlk hret (hb hby d5_24) (by rw [e0]; exact ⟨rfl, N0, rfl⟩) (by first | decide | omega | (dsimp only; omega)) (by first | decide | omega | (dsimp only; omega))
theorem ef_rm0 (m : MethodId) (x0 : Int32) (x1 : Int32) (x2 : Int32) (x3 : Int32) (x4 : Int32) (x5 : Int32) : entryFrame m #[(.int x0), (.int x1), (.int x2), (.int x3), (.int x4), (.int x5)] maxLocals = mkF m 0 #[.val (.int x0), .val (.int x1), .val (.int x2), .val (.int x3), .val (.int x4), .val (.int x5), .unset, .unset, .unset, .unset, .unset, .unset, .unset, .unset] [] := by first | (simp [entryFrame, mkF, argsToLocals, Value.category, maxLocals]; done) | rfl
def Qrm0 (Z : State) (x0 : Int32) (x1 : Int32) (x2 : Int32) (x3 : Int32) (x4 : Int32) (x5 : Int32) (h0 : Heap) (n0 : Nat) (v_ : Option Value) (h_ : Heap) (L_ : List Loc) : Prop := v_ = some (.int (1 : Int32)) ∧ Fr n0 L_ ∧ Keep h0 h_ []
theorem pd_1 : parseMethodDescriptor "(II)V" = some ⟨[.int, .int], none⟩ := by decide +kernel
theorem pd_2 : parseMethodDescriptor "(II)J" = some ⟨[.int, .int], some .long⟩ := by decide +kernel
theorem pd_3 : parseMethodDescriptor "(I)J" = some ⟨[.int], some .long⟩ := by decide +kernel
set_option maxRecDepth 65536 in
set_option maxHeartbeats 40000000 in
theorem rm0 (l : Launch) (Z : State) (a0 : Array Value) (hw : ∀ d ∈ tables_1, d.before a0 Z = true) (ws : List Jvm.Cond) (x0 : Int32) (x1 : Int32) (x2 : Int32) (x3 : Int32) (x4 : Int32) (x5 : Int32) (h0 : Heap) (n0 : Nat) (Z0 : n0 ≤ h0.size) :
    MetFree l x (head1 (Jvm.Cond.code x code maxLocals ret :: ws) room_1) (fun as_ U_ => as_ = #[(.int x0), (.int x1), (.int x2), (.int x3), (.int x4), (.int x5)] ∧ Z.Warmed39 U_.vm ∧ U_.heap = h0) (fun _ _ _ _ _ => True) (fun _ U_ o_ V_ => ∃ v_ L_, o_ = .returned v_ ∧ Qrm0 Z x0 x1 x2 x3 x4 x5 h0 n0 v_ V_.heap L_ ∧ FrameEnd U_ o_ V_ L_ room_1.cells room_1.slots) := by
  refine MetFree.of_bodySF (plainFor_of_name pn_com_example_checks_on_duty_checksonduty_engine_RankedSetsSetPinLaw) hisR ?_
  intro p e s m args below meth c s₁ Bd hml0 hP hK
  obtain ⟨rfl, hZ, hh⟩ := hP
  have hx := Bd.exec
  have hby := Bd.bytes
  have hlk : meth.locks = false := BodyLoose.notSynchronized Bd
  have hret := Bd.returns
  have hml : c.maxLocals = 14 := hml0
  have hown : s.vm.findClass "com/example/checks_on_duty/checksonduty/engine/RankedSetsSetPinLaw" = some m.cls := findClass_of_methodNamed Bd.named
  have hnm := (name_of_methodNamed Bd.named Bd.method).1
  have X0 : Stand p l e room_1 s m #[(.int x0), (.int x1), (.int x2), (.int x3), (.int x4), (.int x5)] below meth c s₁ [] 0 0 := Stand.of_body Bd
  have e0 : s₁.heap = h0 := by rw [← hh, Bd.state]; rfl
  have N0 := Fr.nil n0
  show Goes p e below (Fin_ s (Qrm0 Z x0 x1 x2 x3 x4 x5 h0 n0) room_1.cells room_1.slots) (s₁.setTop (entryFrame m #[(.int x0), (.int x1), (.int x2), (.int x3), (.int x4), (.int x5)] maxLocals))
  rw [ef_rm0 m x0 x1 x2 x3 x4 x5]
  refine Goes.via (fun _ kk_ => XS.iloadN X0.here hx rfl (hb hby at_0) rfl  kk_) ?_
  show Goes p e below _ (s₁.setTop (mkF m 1 #[.val (.int x0), .val (.int x1), .val (.int x2), .val (.int x3), .val (.int x4), .val (.int x5), .unset, .unset, .unset, .unset, .unset, .unset, .unset, .unset] [(.int x0)]))
  refine Goes.via (X0.ldcInt hx hown (mvT hZ (hw _ (List.mem_of_getElem? (i := 0) rfl))) (g := (mkF m 1 #[.val (.int x0), .val (.int x1), .val (.int x2), .val (.int x3), .val (.int x4), .val (.int x5), .unset, .unset, .unset, .unset, .unset, .unset, .unset, .unset] [(.int x0)])) rfl (hb hby at_1)) ?_
  show Goes p e below _ (s₁.setTop (mkF m 3 #[.val (.int x0), .val (.int x1), .val (.int x2), .val (.int x3), .val (.int x4), .val (.int x5), .unset, .unset, .unset, .unset, .unset, .unset, .unset, .unset] [(.int (2147483647 : Int32)), (.int x0)]))
  refine Goes.via (fun _ kk_ => XS.iand X0.here hx rfl (hb hby at_3) rfl kk_) ?_
  show Goes p e below _ (s₁.setTop (mkF m 4 #[.val (.int x0), .val (.int x1), .val (.int x2), .val (.int x3), .val (.int x4), .val (.int x5), .unset, .unset, .unset, .unset, .unset, .unset, .unset, .unset] [(.int (x0 &&& (2147483647 : Int32)))]))
  refine Goes.via (fun _ kk_ => XS.iconst X0.here hx rfl (hb hby at_4) kk_) ?_
  show Goes p e below _ (s₁.setTop (mkF m 5 #[.val (.int x0), .val (.int x1), .val (.int x2), .val (.int x3), .val (.int x4), .val (.int x5), .unset, .unset, .unset, .unset, .unset, .unset, .unset, .unset] [(.int (5 : Int32)), (.int (x0 &&& (2147483647 : Int32)))]))
  refine Goes.via (fun _ kk_ => iremM X0 hx rfl (hb hby at_5) rfl (by decide) kk_) ?_
  show Goes p e below _ (s₁.setTop (mkF m 6 #[.val (.int x0), .val (.int x1), .val (.int x2), .val (.int x3), .val (.int x4), .val (.int x5), .unset, .unset, .unset, .unset, .unset, .unset, .unset, .unset] [(.int ((x0 &&& (2147483647 : Int32)) % (5 : Int32)))]))
  refine Goes.via (fun _ kk_ => XS.istore X0.here hx rfl (hb hby at_6) rfl (l' := #[.val (.int x0), .val (.int x1), .val (.int x2), .val (.int x3), .val (.int x4), .val (.int x5), .val (.int ((x0 &&& (2147483647 : Int32)) % (5 : Int32))), .unset, .unset, .unset, .unset, .unset, .unset, .unset]) rfl kk_) ?_
  show Goes p e below _ (s₁.setTop (mkF m 8 #[.val (.int x0), .val (.int x1), .val (.int x2), .val (.int x3), .val (.int x4), .val (.int x5), .val (.int ((x0 &&& (2147483647 : Int32)) % (5 : Int32))), .unset, .unset, .unset, .unset, .unset, .unset, .unset] []))
  generalize hv_v6_1 : ((x0 &&& (2147483647 : Int32)) % (5 : Int32)) = v6_1
  show Goes p e below _ (s₁.setTop (mkF m 8 #[.val (.int x0), .val (.int x1), .val (.int x2), .val (.int x3), .val (.int x4), .val (.int x5), .val (.int v6_1), .unset, .unset, .unset, .unset, .unset, .unset, .unset] []))
  rcases own_five (x := v6_1) (by rw [← hv_v6_1]; exact (own_sz5 _).1) (by rw [← hv_v6_1]; exact (own_sz5 _).2) with hsz | hsz | hsz | hsz | hsz
  · rw [hsz]
    show Goes p e below _ (s₁.setTop (mkF m 8 #[.val (.int x0), .val (.int x1), .val (.int x2), .val (.int x3), .val (.int x4), .val (.int x5), .val (.int (0 : Int32)), .unset, .unset, .unset, .unset, .unset, .unset, .unset] []))
    refine Goes.via (fun _ kk_ => XS.iload X0.here hx rfl (hb hby at_8) rfl  kk_) ?_
    show Goes p e below _ (s₁.setTop (mkF m 10 #[.val (.int x0), .val (.int x1), .val (.int x2), .val (.int x3), .val (.int x4), .val (.int x5), .val (.int (0 : Int32)), .unset, .unset, .unset, .unset, .unset, .unset, .unset] [(.int (0 : Int32))]))
    refine Goes.via (fun _ kk_ => XS.iloadN X0.here hx rfl (hb hby at_10) rfl  kk_) ?_
    show Goes p e below _ (s₁.setTop (mkF m 11 #[.val (.int x0), .val (.int x1), .val (.int x2), .val (.int x3), .val (.int x4), .val (.int x5), .val (.int (0 : Int32)), .unset, .unset, .unset, .unset, .unset, .unset, .unset] [(.int x1), (.int (0 : Int32))]))
    refine Goes.via (X0.ldcInt hx hown (mvT hZ (hw _ (List.mem_of_getElem? (i := 0) rfl))) (g := (mkF m 11 #[.val (.int x0), .val (.int x1), .val (.int x2), .val (.int x3), .val (.int x4), .val (.int x5), .val (.int (0 : Int32)), .unset, .unset, .unset, .unset, .unset, .unset, .unset] [(.int x1), (.int (0 : Int32))])) rfl (hb hby at_11)) ?_
    show Goes p e below _ (s₁.setTop (mkF m 13 #[.val (.int x0), .val (.int x1), .val (.int x2), .val (.int x3), .val (.int x4), .val (.int x5), .val (.int (0 : Int32)), .unset, .unset, .unset, .unset, .unset, .unset, .unset] [(.int (2147483647 : Int32)), (.int x1), (.int (0 : Int32))]))
    refine Goes.via (fun _ kk_ => XS.iand X0.here hx rfl (hb hby at_13) rfl kk_) ?_
    show Goes p e below _ (s₁.setTop (mkF m 14 #[.val (.int x0), .val (.int x1), .val (.int x2), .val (.int x3), .val (.int x4), .val (.int x5), .val (.int (0 : Int32)), .unset, .unset, .unset, .unset, .unset, .unset, .unset] [(.int (x1 &&& (2147483647 : Int32))), (.int (0 : Int32))]))
    refine Goes.via (fun _ kk_ => XS.bipush X0.here hx rfl (hb hby at_14) kk_) ?_
    show Goes p e below _ (s₁.setTop (mkF m 16 #[.val (.int x0), .val (.int x1), .val (.int x2), .val (.int x3), .val (.int x4), .val (.int x5), .val (.int (0 : Int32)), .unset, .unset, .unset, .unset, .unset, .unset, .unset] [(.int (65 : Int32)), (.int (x1 &&& (2147483647 : Int32))), (.int (0 : Int32))]))
    refine Goes.via (fun _ kk_ => XS.iload X0.here hx rfl (hb hby at_16) rfl  kk_) ?_
    show Goes p e below _ (s₁.setTop (mkF m 18 #[.val (.int x0), .val (.int x1), .val (.int x2), .val (.int x3), .val (.int x4), .val (.int x5), .val (.int (0 : Int32)), .unset, .unset, .unset, .unset, .unset, .unset, .unset] [(.int (0 : Int32)), (.int (65 : Int32)), (.int (x1 &&& (2147483647 : Int32))), (.int (0 : Int32))]))
    refine Goes.via (fun _ kk_ => XS.isub X0.here hx rfl (hb hby at_18) rfl kk_) ?_
    show Goes p e below _ (s₁.setTop (mkF m 19 #[.val (.int x0), .val (.int x1), .val (.int x2), .val (.int x3), .val (.int x4), .val (.int x5), .val (.int (0 : Int32)), .unset, .unset, .unset, .unset, .unset, .unset, .unset] [(.int ((65 : Int32) - (0 : Int32))), (.int (x1 &&& (2147483647 : Int32))), (.int (0 : Int32))]))
    rw [show ((65 : Int32) - (0 : Int32)) = (65 : Int32) from by decide]
    show Goes p e below _ (s₁.setTop (mkF m 19 #[.val (.int x0), .val (.int x1), .val (.int x2), .val (.int x3), .val (.int x4), .val (.int x5), .val (.int (0 : Int32)), .unset, .unset, .unset, .unset, .unset, .unset, .unset] [(.int (65 : Int32)), (.int (x1 &&& (2147483647 : Int32))), (.int (0 : Int32))]))
    refine Goes.via (fun _ kk_ => iremM X0 hx rfl (hb hby at_19) rfl (by decide) kk_) ?_
    show Goes p e below _ (s₁.setTop (mkF m 20 #[.val (.int x0), .val (.int x1), .val (.int x2), .val (.int x3), .val (.int x4), .val (.int x5), .val (.int (0 : Int32)), .unset, .unset, .unset, .unset, .unset, .unset, .unset] [(.int ((x1 &&& (2147483647 : Int32)) % (65 : Int32))), (.int (0 : Int32))]))
    refine Goes.via (fun _ kk_ => XS.iadd X0.here hx rfl (hb hby at_20) rfl kk_) ?_
    show Goes p e below _ (s₁.setTop (mkF m 21 #[.val (.int x0), .val (.int x1), .val (.int x2), .val (.int x3), .val (.int x4), .val (.int x5), .val (.int (0 : Int32)), .unset, .unset, .unset, .unset, .unset, .unset, .unset] [(.int ((0 : Int32) + ((x1 &&& (2147483647 : Int32)) % (65 : Int32))))]))
    refine Goes.via (fun _ kk_ => XS.istore X0.here hx rfl (hb hby at_21) rfl (l' := #[.val (.int x0), .val (.int x1), .val (.int x2), .val (.int x3), .val (.int x4), .val (.int x5), .val (.int (0 : Int32)), .val (.int ((0 : Int32) + ((x1 &&& (2147483647 : Int32)) % (65 : Int32)))), .unset, .unset, .unset, .unset, .unset, .unset]) rfl kk_) ?_
    show Goes p e below _ (s₁.setTop (mkF m 23 #[.val (.int x0), .val (.int x1), .val (.int x2), .val (.int x3), .val (.int x4), .val (.int x5), .val (.int (0 : Int32)), .val (.int ((0 : Int32) + ((x1 &&& (2147483647 : Int32)) % (65 : Int32)))), .unset, .unset, .unset, .unset, .unset, .unset] []))
    generalize hv_v7_2 : ((0 : Int32) + ((x1 &&& (2147483647 : Int32)) % (65 : Int32))) = v7_2
    show Goes p e below _ (s₁.setTop (mkF m 23 #[.val (.int x0), .val (.int x1), .val (.int x2), .val (.int x3), .val (.int x4), .val (.int x5), .val (.int (0 : Int32)), .val (.int v7_2), .unset, .unset, .unset, .unset, .unset, .unset] []))
    obtain ⟨nm, hnm, hnm1, hnm2⟩ := own_users (k := 0) (c := (0 : Int32)) (by decide) (by decide) (by decide) hv_v7_2
    refine Goes.via (fun _ kk_ => XS.iload X0.here hx rfl (hb hby at_23) rfl  kk_) ?_
    show Goes p e below _ (s₁.setTop (mkF m 25 #[.val (.int x0), .val (.int x1), .val (.int x2), .val (.int x3), .val (.int x4), .val (.int x5), .val (.int (0 : Int32)), .val (.int v7_2), .unset, .unset, .unset, .unset, .unset, .unset] [(.int v7_2)]))
    refine Goes.via (fun _ kk_ => XS.istore X0.here hx rfl (hb hby at_25) rfl (l' := #[.val (.int x0), .val (.int x1), .val (.int x2), .val (.int x3), .val (.int x4), .val (.int x5), .val (.int (0 : Int32)), .val (.int v7_2), .val (.int v7_2), .unset, .unset, .unset, .unset, .unset]) rfl kk_) ?_
    show Goes p e below _ (s₁.setTop (mkF m 27 #[.val (.int x0), .val (.int x1), .val (.int x2), .val (.int x3), .val (.int x4), .val (.int x5), .val (.int (0 : Int32)), .val (.int v7_2), .val (.int v7_2), .unset, .unset, .unset, .unset, .unset] []))
    refine Goes.via (fun _ kk_ => XS.lconst X0.here hx rfl (hb hby at_27) kk_) ?_
    show Goes p e below _ (s₁.setTop (mkF m 28 #[.val (.int x0), .val (.int x1), .val (.int x2), .val (.int x3), .val (.int x4), .val (.int x5), .val (.int (0 : Int32)), .val (.int v7_2), .val (.int v7_2), .unset, .unset, .unset, .unset, .unset] [(.long (0 : Int64))]))
    refine Goes.via (fun _ kk_ => XS.lstore X0.here hx rfl (hb hby at_28) rfl (l' := #[.val (.int x0), .val (.int x1), .val (.int x2), .val (.int x3), .val (.int x4), .val (.int x5), .val (.int (0 : Int32)), .val (.int v7_2), .val (.int v7_2), .val (.long (0 : Int64)), .second, .unset, .unset, .unset]) rfl kk_) ?_
    show Goes p e below _ (s₁.setTop (mkF m 30 #[.val (.int x0), .val (.int x1), .val (.int x2), .val (.int x3), .val (.int x4), .val (.int x5), .val (.int (0 : Int32)), .val (.int v7_2), .val (.int v7_2), .val (.long (0 : Int64)), .second, .unset, .unset, .unset] []))
    refine Goes.via (fun _ kk_ => XS.lconst X0.here hx rfl (hb hby at_30) kk_) ?_
    show Goes p e below _ (s₁.setTop (mkF m 31 #[.val (.int x0), .val (.int x1), .val (.int x2), .val (.int x3), .val (.int x4), .val (.int x5), .val (.int (0 : Int32)), .val (.int v7_2), .val (.int v7_2), .val (.long (0 : Int64)), .second, .unset, .unset, .unset] [(.long (0 : Int64))]))
    refine Goes.via (fun _ kk_ => XS.lstore X0.here hx rfl (hb hby at_31) rfl (l' := #[.val (.int x0), .val (.int x1), .val (.int x2), .val (.int x3), .val (.int x4), .val (.int x5), .val (.int (0 : Int32)), .val (.int v7_2), .val (.int v7_2), .val (.long (0 : Int64)), .second, .val (.long (0 : Int64)), .second, .unset]) rfl kk_) ?_
    show Goes p e below _ (s₁.setTop (mkF m 33 #[.val (.int x0), .val (.int x1), .val (.int x2), .val (.int x3), .val (.int x4), .val (.int x5), .val (.int (0 : Int32)), .val (.int v7_2), .val (.int v7_2), .val (.long (0 : Int64)), .second, .val (.long (0 : Int64)), .second, .unset] []))
    refine Goes.via (fun _ kk_ => XS.iload X0.here hx rfl (hb hby at_33) rfl  kk_) ?_
    show Goes p e below _ (s₁.setTop (mkF m 35 #[.val (.int x0), .val (.int x1), .val (.int x2), .val (.int x3), .val (.int x4), .val (.int x5), .val (.int (0 : Int32)), .val (.int v7_2), .val (.int v7_2), .val (.long (0 : Int64)), .second, .val (.long (0 : Int64)), .second, .unset] [(.int (0 : Int32))]))
    refine Goes.via (fun _ kk_ => XS.iconst X0.here hx rfl (hb hby at_35) kk_) ?_
    show Goes p e below _ (s₁.setTop (mkF m 36 #[.val (.int x0), .val (.int x1), .val (.int x2), .val (.int x3), .val (.int x4), .val (.int x5), .val (.int (0 : Int32)), .val (.int v7_2), .val (.int v7_2), .val (.long (0 : Int64)), .second, .val (.long (0 : Int64)), .second, .unset] [(.int (4 : Int32)), (.int (0 : Int32))]))
    have hc36_3 : (0 : Int32) < (4 : Int32) := (by decide)
    refine Goes.via (fun _ kk_ => XS.icmpYes X0.here hx rfl (pc0 := 36) (pc' := 76) rfl (hb hby at_36) rfl (tlt hc36_3).1 (by decide) (by decide) kk_) ?_
    show Goes p e below _ (s₁.setTop (mkF m 76 #[.val (.int x0), .val (.int x1), .val (.int x2), .val (.int x3), .val (.int x4), .val (.int x5), .val (.int (0 : Int32)), .val (.int v7_2), .val (.int v7_2), .val (.long (0 : Int64)), .second, .val (.long (0 : Int64)), .second, .unset] []))
    refine Goes.via (fun _ kk_ => XS.iload X0.here hx rfl (hb hby at_76) rfl  kk_) ?_
    show Goes p e below _ (s₁.setTop (mkF m 78 #[.val (.int x0), .val (.int x1), .val (.int x2), .val (.int x3), .val (.int x4), .val (.int x5), .val (.int (0 : Int32)), .val (.int v7_2), .val (.int v7_2), .val (.long (0 : Int64)), .second, .val (.long (0 : Int64)), .second, .unset] [(.int (0 : Int32))]))
    refine Goes.via (fun _ kk_ => XS.iconst X0.here hx rfl (hb hby at_78) kk_) ?_
    show Goes p e below _ (s₁.setTop (mkF m 79 #[.val (.int x0), .val (.int x1), .val (.int x2), .val (.int x3), .val (.int x4), .val (.int x5), .val (.int (0 : Int32)), .val (.int v7_2), .val (.int v7_2), .val (.long (0 : Int64)), .second, .val (.long (0 : Int64)), .second, .unset] [(.int (3 : Int32)), (.int (0 : Int32))]))
    have hc79_4 : (0 : Int32) < (3 : Int32) := (by decide)
    refine Goes.via (fun _ kk_ => XS.icmpYes X0.here hx rfl (pc0 := 79) (pc' := 119) rfl (hb hby at_79) rfl (tlt hc79_4).1 (by decide) (by decide) kk_) ?_
    show Goes p e below _ (s₁.setTop (mkF m 119 #[.val (.int x0), .val (.int x1), .val (.int x2), .val (.int x3), .val (.int x4), .val (.int x5), .val (.int (0 : Int32)), .val (.int v7_2), .val (.int v7_2), .val (.long (0 : Int64)), .second, .val (.long (0 : Int64)), .second, .unset] []))
    refine Goes.via (fun _ kk_ => XS.iload X0.here hx rfl (hb hby at_119) rfl  kk_) ?_
    show Goes p e below _ (s₁.setTop (mkF m 121 #[.val (.int x0), .val (.int x1), .val (.int x2), .val (.int x3), .val (.int x4), .val (.int x5), .val (.int (0 : Int32)), .val (.int v7_2), .val (.int v7_2), .val (.long (0 : Int64)), .second, .val (.long (0 : Int64)), .second, .unset] [(.int (0 : Int32))]))
    refine Goes.via (fun _ kk_ => XS.iconst X0.here hx rfl (hb hby at_121) kk_) ?_
    show Goes p e below _ (s₁.setTop (mkF m 122 #[.val (.int x0), .val (.int x1), .val (.int x2), .val (.int x3), .val (.int x4), .val (.int x5), .val (.int (0 : Int32)), .val (.int v7_2), .val (.int v7_2), .val (.long (0 : Int64)), .second, .val (.long (0 : Int64)), .second, .unset] [(.int (2 : Int32)), (.int (0 : Int32))]))
    have hc122_5 : (0 : Int32) < (2 : Int32) := (by decide)
    refine Goes.via (fun _ kk_ => XS.icmpYes X0.here hx rfl (pc0 := 122) (pc' := 161) rfl (hb hby at_122) rfl (tlt hc122_5).1 (by decide) (by decide) kk_) ?_
    show Goes p e below _ (s₁.setTop (mkF m 161 #[.val (.int x0), .val (.int x1), .val (.int x2), .val (.int x3), .val (.int x4), .val (.int x5), .val (.int (0 : Int32)), .val (.int v7_2), .val (.int v7_2), .val (.long (0 : Int64)), .second, .val (.long (0 : Int64)), .second, .unset] []))
    refine Goes.via (fun _ kk_ => XS.iload X0.here hx rfl (hb hby at_161) rfl  kk_) ?_
    show Goes p e below _ (s₁.setTop (mkF m 163 #[.val (.int x0), .val (.int x1), .val (.int x2), .val (.int x3), .val (.int x4), .val (.int x5), .val (.int (0 : Int32)), .val (.int v7_2), .val (.int v7_2), .val (.long (0 : Int64)), .second, .val (.long (0 : Int64)), .second, .unset] [(.int (0 : Int32))]))
    refine Goes.via (fun _ kk_ => XS.iconst X0.here hx rfl (hb hby at_163) kk_) ?_
    show Goes p e below _ (s₁.setTop (mkF m 164 #[.val (.int x0), .val (.int x1), .val (.int x2), .val (.int x3), .val (.int x4), .val (.int x5), .val (.int (0 : Int32)), .val (.int v7_2), .val (.int v7_2), .val (.long (0 : Int64)), .second, .val (.long (0 : Int64)), .second, .unset] [(.int (1 : Int32)), (.int (0 : Int32))]))
    have hc164_6 : (0 : Int32) < (1 : Int32) := (by decide)
    refine Goes.via (fun _ kk_ => XS.icmpYes X0.here hx rfl (pc0 := 164) (pc' := 193) rfl (hb hby at_164) rfl (tlt hc164_6).1 (by decide) (by decide) kk_) ?_
    show Goes p e below _ (s₁.setTop (mkF m 193 #[.val (.int x0), .val (.int x1), .val (.int x2), .val (.int x3), .val (.int x4), .val (.int x5), .val (.int (0 : Int32)), .val (.int v7_2), .val (.int v7_2), .val (.long (0 : Int64)), .second, .val (.long (0 : Int64)), .second, .unset] []))
    have hxs : own_dn nm [] := trivial
    have hrkE : own_rk [] = 0 := rfl
    have hrk : ((0 : Int64)).toInt = ((own_rk [] : Nat) : Int) := by
      have z0 : (0 : Int64).toInt = ((0 : Nat) : Int) := by decide
      have zz := z0
      rw [hrkE]
      omega
    have hrkb : own_rk [] ≤ 9000000 := by rw [hrkE]; omega
    obtain ⟨T7, h7, X7, e7, E7, A7, D7, -, st7⟩ := newO X0 hx hZ hown (hw _ (List.mem_of_getElem? (i := 1) rfl)) (hw _ (List.mem_of_getElem? (i := 2) rfl)) (hw _ (List.mem_of_getElem? (i := 3) rfl)) e0 (g := (mkF m 193 #[.val (.int x0), .val (.int x1), .val (.int x2), .val (.int x3), .val (.int x4), .val (.int x5), .val (.int (0 : Int32)), .val (.int v7_2), .val (.int v7_2), .val (.long (0 : Int64)), .second, .val (.long (0 : Int64)), .second, .unset] [])) rfl (hb hby at_193) (by first | decide | omega | (dsimp only; omega)) (by first | decide | omega | (dsimp only; omega))
    obtain ⟨b7, g7⟩ : ∃ z, z = (h0).size := ⟨_, rfl⟩
    rw [← g7] at A7 D7 st7
    have sz_b7 : h0.size ≤ b7 := Nat.le_trans (Nat.le_refl _) (Nat.le_of_eq g7.symm)
    have gn_b7 : n0 ≤ b7 := Nat.le_trans Z0 sz_b7
    have F_users_b7 : Fld Z h7 b7 "com/example/checks_on_duty/checksonduty/engine/RankedSets" "users" "I" (.int (0 : Int32)) := D7 (Or.inr (hw _ (List.mem_of_getElem? (i := 11) rfl))) (ty := .int) (by decide)
    have F_binomial_b7 : Fld Z h7 b7 "com/example/checks_on_duty/checksonduty/engine/RankedSets" "binomial" "[[J" .null := D7 (Or.inr (hw _ (List.mem_of_getElem? (i := 16) rfl))) (ty := (.array (.array .long))) (by decide)
    refine Goes.via st7 ?_
    show Goes p e below _ (T7.setTop (mkF m 196 #[.val (.int x0), .val (.int x1), .val (.int x2), .val (.int x3), .val (.int x4), .val (.int x5), .val (.int (0 : Int32)), .val (.int v7_2), .val (.int v7_2), .val (.long (0 : Int64)), .second, .val (.long (0 : Int64)), .second, .unset] [(.ref b7)]))
    refine Goes.via (fun _ kk_ => XS.dup X7.here hx rfl (hb hby at_196) rfl rfl kk_) ?_
    show Goes p e below _ (T7.setTop (mkF m 197 #[.val (.int x0), .val (.int x1), .val (.int x2), .val (.int x3), .val (.int x4), .val (.int x5), .val (.int (0 : Int32)), .val (.int v7_2), .val (.int v7_2), .val (.long (0 : Int64)), .second, .val (.long (0 : Int64)), .second, .unset] [(.ref b7), (.ref b7)]))
    refine Goes.via (fun _ kk_ => XS.iload X7.here hx rfl (hb hby at_197) rfl  kk_) ?_
    show Goes p e below _ (T7.setTop (mkF m 199 #[.val (.int x0), .val (.int x1), .val (.int x2), .val (.int x3), .val (.int x4), .val (.int x5), .val (.int (0 : Int32)), .val (.int v7_2), .val (.int v7_2), .val (.long (0 : Int64)), .second, .val (.long (0 : Int64)), .second, .unset] [(.int v7_2), (.ref b7), (.ref b7)]))
    refine Goes.via (fun _ kk_ => XS.iconst X7.here hx rfl (hb hby at_199) kk_) ?_
    show Goes p e below _ (T7.setTop (mkF m 200 #[.val (.int x0), .val (.int x1), .val (.int x2), .val (.int x3), .val (.int x4), .val (.int x5), .val (.int (0 : Int32)), .val (.int v7_2), .val (.int v7_2), .val (.long (0 : Int64)), .second, .val (.long (0 : Int64)), .second, .unset] [(.int (4 : Int32)), (.int v7_2), (.ref b7), (.ref b7)]))
    have z9 : h0.size ≤ (h7).size := (Nat.le_trans (Nat.le_refl _) E7.1)
    obtain ⟨_, _, ⟨T8, L8, k8, n8⟩, -, X8, ⟨Lc8, hQ8, l8, y8, z8⟩, st8⟩ := X7.specialBack hx (y := (⟨"com/example/checks_on_duty/checksonduty/engine/RankedSets", "<init>", "(II)V"⟩ : MethodName)) rfl hown (mvT hZ (hw _ (List.mem_of_getElem? (i := 4) rfl))) (mvT hZ (hw _ (List.mem_of_getElem? (i := 5) rfl))) (mvT hZ (hw _ (List.mem_of_getElem? (i := 6) rfl))) (by decide) (backOf (W := 1) (rm1 l Z a0 hw [] b7 v7_2 (4 : Int32) nm 4 h7 n0 (Nat.le_trans Z0 z9) A7 F_users_b7 F_binomial_b7 gn_b7 hnm (by first | rfl | decide | assumption | omega | (simp; done)) (by first | rfl | decide | assumption | omega | (simp; done)) (by first | rfl | decide | assumption | omega | (simp; done))) hZ (hw _ (List.mem_of_getElem? (i := 6) rfl)) (hw _ (List.mem_of_getElem? (i := 3) rfl)) (by decide) (by decide)) (g := (mkF m 200 #[.val (.int x0), .val (.int x1), .val (.int x2), .val (.int x3), .val (.int x4), .val (.int x5), .val (.int (0 : Int32)), .val (.int v7_2), .val (.int v7_2), .val (.long (0 : Int64)), .second, .val (.long (0 : Int64)), .second, .unset] [(.int (4 : Int32)), (.int v7_2), (.ref b7), (.ref b7)])) rfl (by rw [hml]; rfl) (Steps.refl _) (a := b7) (argsL := [(.int v7_2), (.int (4 : Int32))]) (rest := [(.ref b7)]) (lenOf pd_1 rfl) rfl (by show 2 * 0 + _ ≤ _; exact Nat.le_of_eq rfl) (hb hby at_200) (fun _ _ => ⟨rfl, e7, (by first | decide | omega | (dsimp only; omega) : 1 + 66 ≤ _), (by first | decide | omega | (dsimp only; omega) : 2 + 400 ≤ _)⟩)
    dsimp only [Pt.U, Pt.locs, Pt.cells, Pt.slots] at X8 l8 y8 z8 st8 hQ8
    subst l8 y8 z8
    obtain ⟨g8, kA8, kB8, rfl, N8q, K8, u8_0, u8_1, u8_2, u8_3, u8_4⟩ := hQ8
    have N8 := Fr.app N0 N8q
    refine Goes.tr st8 ?_
    have ne10 : b7 ≠ g8 := Nat.ne_of_lt (Nat.lt_of_lt_of_le A7.lt u8_0)
    have sz_g8 : h0.size ≤ g8 := Nat.le_trans z9 u8_0
    have gn_g8 : n0 ≤ g8 := Nat.le_trans Z0 sz_g8
    -- u8_0 : h0.size ≤ g8
    show Goes p e below _ (T8.setTop (mkF m 203 #[.val (.int x0), .val (.int x1), .val (.int x2), .val (.int x3), .val (.int x4), .val (.int x5), .val (.int (0 : Int32)), .val (.int v7_2), .val (.int v7_2), .val (.long (0 : Int64)), .second, .val (.long (0 : Int64)), .second, .unset] [(.ref b7)]))
    refine Goes.via (fun _ kk_ => XS.astore X8.here hx rfl (hb hby at_203) rfl rfl (l' := #[.val (.int x0), .val (.int x1), .val (.int x2), .val (.int x3), .val (.int x4), .val (.int x5), .val (.int (0 : Int32)), .val (.int v7_2), .val (.int v7_2), .val (.long (0 : Int64)), .second, .val (.long (0 : Int64)), .second, .val (.ref b7)]) rfl kk_) ?_
    show Goes p e below _ (T8.setTop (mkF m 205 #[.val (.int x0), .val (.int x1), .val (.int x2), .val (.int x3), .val (.int x4), .val (.int x5), .val (.int (0 : Int32)), .val (.int v7_2), .val (.int v7_2), .val (.long (0 : Int64)), .second, .val (.long (0 : Int64)), .second, .val (.ref b7)] []))
    refine Goes.via (fun _ kk_ => XS.aload X8.here hx rfl (hb hby at_205) rfl rfl  kk_) ?_
    show Goes p e below _ (T8.setTop (mkF m 207 #[.val (.int x0), .val (.int x1), .val (.int x2), .val (.int x3), .val (.int x4), .val (.int x5), .val (.int (0 : Int32)), .val (.int v7_2), .val (.int v7_2), .val (.long (0 : Int64)), .second, .val (.long (0 : Int64)), .second, .val (.ref b7)] [(.ref b7)]))
    refine Goes.via (fun _ kk_ => XS.lload X8.here hx rfl (hb hby at_207) rfl  kk_) ?_
    show Goes p e below _ (T8.setTop (mkF m 209 #[.val (.int x0), .val (.int x1), .val (.int x2), .val (.int x3), .val (.int x4), .val (.int x5), .val (.int (0 : Int32)), .val (.int v7_2), .val (.int v7_2), .val (.long (0 : Int64)), .second, .val (.long (0 : Int64)), .second, .val (.ref b7)] [(.long (0 : Int64)), (.ref b7)]))
    refine Goes.via (fun _ kk_ => XS.l2i X8.here hx rfl (hb hby at_209) rfl kk_) ?_
    show Goes p e below _ (T8.setTop (mkF m 210 #[.val (.int x0), .val (.int x1), .val (.int x2), .val (.int x3), .val (.int x4), .val (.int x5), .val (.int (0 : Int32)), .val (.int v7_2), .val (.int v7_2), .val (.long (0 : Int64)), .second, .val (.long (0 : Int64)), .second, .val (.ref b7)] [(.int ((0 : Int64).toInt32)), (.ref b7)]))
    refine Goes.via (fun _ kk_ => XS.iload X8.here hx rfl (hb hby at_210) rfl  kk_) ?_
    show Goes p e below _ (T8.setTop (mkF m 212 #[.val (.int x0), .val (.int x1), .val (.int x2), .val (.int x3), .val (.int x4), .val (.int x5), .val (.int (0 : Int32)), .val (.int v7_2), .val (.int v7_2), .val (.long (0 : Int64)), .second, .val (.long (0 : Int64)), .second, .val (.ref b7)] [(.int (0 : Int32)), (.int ((0 : Int64).toInt32)), (.ref b7)]))
    have z12 : h0.size ≤ (T8.heap).size := (Nat.le_trans z9 K8.1)
    obtain ⟨cq11, kq11, q11a, q11b, q11c⟩ := isOf hZ rfl u8_1
    obtain ⟨_, _, ⟨T11, L11, k11, n11⟩, -, X11, ⟨Lc11, hQ11, l11, y11, z11⟩, st11⟩ := X8.virtualBack hx (y := (⟨"com/example/checks_on_duty/checksonduty/engine/RankedSets", "set", "(II)J"⟩ : MethodName)) (z := (⟨"com/example/checks_on_duty/checksonduty/engine/RankedSets", "set", "(II)J"⟩ : MethodName)) hown (mvT hZ (hw _ (List.mem_of_getElem? (i := 21) rfl))) (mvT hZ (hw _ (List.mem_of_getElem? (i := 22) rfl))) (notFace_of_selects (args := #[]) (mvT hZ (hw _ (List.mem_of_getElem? (i := 24) rfl)))) (mvT hZ (hw _ (List.mem_of_getElem? (i := 24) rfl))) (mvT hZ (hw _ (List.mem_of_getElem? (i := 23) rfl))) (by decide) (backOf (W := 0) (rm4 l Z a0 hw [] b7 ((0 : Int64).toInt32) (0 : Int32) v7_2 g8 kA8 kB8 nm [] T8.heap n0 (Nat.le_trans Z0 z12) u8_2 u8_3 u8_4 hnm (by first | rfl | decide | assumption | omega | (simp; done)) (own_l2i hrk hrkb) rfl (by simp) hxs) hZ (hw _ (List.mem_of_getElem? (i := 25) rfl)) (hw _ (List.mem_of_getElem? (i := 3) rfl)) (by decide) (by decide)) q11a q11c (g := (mkF m 212 #[.val (.int x0), .val (.int x1), .val (.int x2), .val (.int x3), .val (.int x4), .val (.int x5), .val (.int (0 : Int32)), .val (.int v7_2), .val (.int v7_2), .val (.long (0 : Int64)), .second, .val (.long (0 : Int64)), .second, .val (.ref b7)] [(.int (0 : Int32)), (.int ((0 : Int64).toInt32)), (.ref b7)])) rfl (by rw [hml]; rfl) (Steps.refl _) (argsL := [(.int ((0 : Int64).toInt32)), (.int (0 : Int32))]) (rest := []) (lenOf pd_2 rfl) rfl (by show 2 * 0 + _ ≤ _; exact Nat.le_of_eq rfl) (hb hby at_212) (fun _ _ => ⟨rfl, rfl, (by first | decide | omega | (dsimp only; omega) : 67 + 0 ≤ _), (by first | decide | omega | (dsimp only; omega) : 402 + 0 ≤ _)⟩)
    dsimp only [Pt.U, Pt.locs, Pt.cells, Pt.slots] at X11 l11 y11 z11 st11 hQ11
    subst l11 y11 z11
    obtain ⟨rfl, N11q, e11⟩ := hQ11
    have N11 := Fr.app N8 N11q
    refine Goes.tr st11 ?_
    have e11' : T11.heap = T8.heap := e11
    show Goes p e below _ (T11.setTop (mkF m 215 #[.val (.int x0), .val (.int x1), .val (.int x2), .val (.int x3), .val (.int x4), .val (.int x5), .val (.int (0 : Int32)), .val (.int v7_2), .val (.int v7_2), .val (.long (0 : Int64)), .second, .val (.long (0 : Int64)), .second, .val (.ref b7)] [(.long (own_or (0 : Int64) []))]))
    refine Goes.via (fun _ kk_ => XS.lload X11.here hx rfl (hb hby at_215) rfl  kk_) ?_
    show Goes p e below _ (T11.setTop (mkF m 217 #[.val (.int x0), .val (.int x1), .val (.int x2), .val (.int x3), .val (.int x4), .val (.int x5), .val (.int (0 : Int32)), .val (.int v7_2), .val (.int v7_2), .val (.long (0 : Int64)), .second, .val (.long (0 : Int64)), .second, .val (.ref b7)] [(.long (0 : Int64)), (.long (own_or (0 : Int64) []))]))
    refine Goes.via (fun _ kk_ => XS.lcmp X11.here hx rfl (hb hby at_217) rfl kk_) ?_
    show Goes p e below _ (T11.setTop (mkF m 218 #[.val (.int x0), .val (.int x1), .val (.int x2), .val (.int x3), .val (.int x4), .val (.int x5), .val (.int (0 : Int32)), .val (.int v7_2), .val (.int v7_2), .val (.long (0 : Int64)), .second, .val (.long (0 : Int64)), .second, .val (.ref b7)] [(.int (lcmpW (own_or (0 : Int64) []) (0 : Int64)))]))
    have hc218_13 : (own_or (0 : Int64) []) = (0 : Int64) := (by simp only [own_or])
    refine Goes.via (fun _ kk_ => XS.ifNo X11.here hx rfl (hb hby at_218) rfl ((if0 _ _).trans (teq ((lw_eq (own_or (0 : Int64) []) (0 : Int64)).mpr hc218_13)).2) kk_) ?_
    show Goes p e below _ (T11.setTop (mkF m 221 #[.val (.int x0), .val (.int x1), .val (.int x2), .val (.int x3), .val (.int x4), .val (.int x5), .val (.int (0 : Int32)), .val (.int v7_2), .val (.int v7_2), .val (.long (0 : Int64)), .second, .val (.long (0 : Int64)), .second, .val (.ref b7)] []))
    refine Goes.via (fun _ kk_ => XS.iconst X11.here hx rfl (hb hby at_221) kk_) ?_
    show Goes p e below _ (T11.setTop (mkF m 222 #[.val (.int x0), .val (.int x1), .val (.int x2), .val (.int x3), .val (.int x4), .val (.int x5), .val (.int (0 : Int32)), .val (.int v7_2), .val (.int v7_2), .val (.long (0 : Int64)), .second, .val (.long (0 : Int64)), .second, .val (.ref b7)] [(.int (1 : Int32))]))
    refine Goes.via (fun _ kk_ => XS.goto X11.here hx rfl (pc0 := 222) (pc' := 226) rfl (hb hby at_222) (by decide) (by decide) kk_) ?_
    show Goes p e below _ (T11.setTop (mkF m 226 #[.val (.int x0), .val (.int x1), .val (.int x2), .val (.int x3), .val (.int x4), .val (.int x5), .val (.int (0 : Int32)), .val (.int v7_2), .val (.int v7_2), .val (.long (0 : Int64)), .second, .val (.long (0 : Int64)), .second, .val (.ref b7)] [(.int (1 : Int32))]))
    have K14 : Keep h0 T8.heap [] := (((Keep.refl h0 []).ext E7).trans K8 (allS (Or.inr sz_b7) all0))
    exact own_finN X11 hx hlk hret (by simp) (hb hby at_226) (by rw [e11']; exact ⟨rfl, N11, K14⟩) (by first | decide | omega | (dsimp only; omega)) (by first | decide | omega | (dsimp only; omega))
  · rw [hsz]
    show Goes p e below _ (s₁.setTop (mkF m 8 #[.val (.int x0), .val (.int x1), .val (.int x2), .val (.int x3), .val (.int x4), .val (.int x5), .val (.int (1 : Int32)), .unset, .unset, .unset, .unset, .unset, .unset, .unset] []))
    refine Goes.via (fun _ kk_ => XS.iload X0.here hx rfl (hb hby at_8) rfl  kk_) ?_
    show Goes p e below _ (s₁.setTop (mkF m 10 #[.val (.int x0), .val (.int x1), .val (.int x2), .val (.int x3), .val (.int x4), .val (.int x5), .val (.int (1 : Int32)), .unset, .unset, .unset, .unset, .unset, .unset, .unset] [(.int (1 : Int32))]))
    refine Goes.via (fun _ kk_ => XS.iloadN X0.here hx rfl (hb hby at_10) rfl  kk_) ?_
    show Goes p e below _ (s₁.setTop (mkF m 11 #[.val (.int x0), .val (.int x1), .val (.int x2), .val (.int x3), .val (.int x4), .val (.int x5), .val (.int (1 : Int32)), .unset, .unset, .unset, .unset, .unset, .unset, .unset] [(.int x1), (.int (1 : Int32))]))
    refine Goes.via (X0.ldcInt hx hown (mvT hZ (hw _ (List.mem_of_getElem? (i := 0) rfl))) (g := (mkF m 11 #[.val (.int x0), .val (.int x1), .val (.int x2), .val (.int x3), .val (.int x4), .val (.int x5), .val (.int (1 : Int32)), .unset, .unset, .unset, .unset, .unset, .unset, .unset] [(.int x1), (.int (1 : Int32))])) rfl (hb hby at_11)) ?_
    show Goes p e below _ (s₁.setTop (mkF m 13 #[.val (.int x0), .val (.int x1), .val (.int x2), .val (.int x3), .val (.int x4), .val (.int x5), .val (.int (1 : Int32)), .unset, .unset, .unset, .unset, .unset, .unset, .unset] [(.int (2147483647 : Int32)), (.int x1), (.int (1 : Int32))]))
    refine Goes.via (fun _ kk_ => XS.iand X0.here hx rfl (hb hby at_13) rfl kk_) ?_
    show Goes p e below _ (s₁.setTop (mkF m 14 #[.val (.int x0), .val (.int x1), .val (.int x2), .val (.int x3), .val (.int x4), .val (.int x5), .val (.int (1 : Int32)), .unset, .unset, .unset, .unset, .unset, .unset, .unset] [(.int (x1 &&& (2147483647 : Int32))), (.int (1 : Int32))]))
    refine Goes.via (fun _ kk_ => XS.bipush X0.here hx rfl (hb hby at_14) kk_) ?_
    show Goes p e below _ (s₁.setTop (mkF m 16 #[.val (.int x0), .val (.int x1), .val (.int x2), .val (.int x3), .val (.int x4), .val (.int x5), .val (.int (1 : Int32)), .unset, .unset, .unset, .unset, .unset, .unset, .unset] [(.int (65 : Int32)), (.int (x1 &&& (2147483647 : Int32))), (.int (1 : Int32))]))
    refine Goes.via (fun _ kk_ => XS.iload X0.here hx rfl (hb hby at_16) rfl  kk_) ?_
    show Goes p e below _ (s₁.setTop (mkF m 18 #[.val (.int x0), .val (.int x1), .val (.int x2), .val (.int x3), .val (.int x4), .val (.int x5), .val (.int (1 : Int32)), .unset, .unset, .unset, .unset, .unset, .unset, .unset] [(.int (1 : Int32)), (.int (65 : Int32)), (.int (x1 &&& (2147483647 : Int32))), (.int (1 : Int32))]))
    refine Goes.via (fun _ kk_ => XS.isub X0.here hx rfl (hb hby at_18) rfl kk_) ?_
    show Goes p e below _ (s₁.setTop (mkF m 19 #[.val (.int x0), .val (.int x1), .val (.int x2), .val (.int x3), .val (.int x4), .val (.int x5), .val (.int (1 : Int32)), .unset, .unset, .unset, .unset, .unset, .unset, .unset] [(.int ((65 : Int32) - (1 : Int32))), (.int (x1 &&& (2147483647 : Int32))), (.int (1 : Int32))]))
    rw [show ((65 : Int32) - (1 : Int32)) = (64 : Int32) from by decide]
    show Goes p e below _ (s₁.setTop (mkF m 19 #[.val (.int x0), .val (.int x1), .val (.int x2), .val (.int x3), .val (.int x4), .val (.int x5), .val (.int (1 : Int32)), .unset, .unset, .unset, .unset, .unset, .unset, .unset] [(.int (64 : Int32)), (.int (x1 &&& (2147483647 : Int32))), (.int (1 : Int32))]))
    refine Goes.via (fun _ kk_ => iremM X0 hx rfl (hb hby at_19) rfl (by decide) kk_) ?_
    show Goes p e below _ (s₁.setTop (mkF m 20 #[.val (.int x0), .val (.int x1), .val (.int x2), .val (.int x3), .val (.int x4), .val (.int x5), .val (.int (1 : Int32)), .unset, .unset, .unset, .unset, .unset, .unset, .unset] [(.int ((x1 &&& (2147483647 : Int32)) % (64 : Int32))), (.int (1 : Int32))]))
    refine Goes.via (fun _ kk_ => XS.iadd X0.here hx rfl (hb hby at_20) rfl kk_) ?_
    show Goes p e below _ (s₁.setTop (mkF m 21 #[.val (.int x0), .val (.int x1), .val (.int x2), .val (.int x3), .val (.int x4), .val (.int x5), .val (.int (1 : Int32)), .unset, .unset, .unset, .unset, .unset, .unset, .unset] [(.int ((1 : Int32) + ((x1 &&& (2147483647 : Int32)) % (64 : Int32))))]))
    refine Goes.via (fun _ kk_ => XS.istore X0.here hx rfl (hb hby at_21) rfl (l' := #[.val (.int x0), .val (.int x1), .val (.int x2), .val (.int x3), .val (.int x4), .val (.int x5), .val (.int (1 : Int32)), .val (.int ((1 : Int32) + ((x1 &&& (2147483647 : Int32)) % (64 : Int32)))), .unset, .unset, .unset, .unset, .unset, .unset]) rfl kk_) ?_
    show Goes p e below _ (s₁.setTop (mkF m 23 #[.val (.int x0), .val (.int x1), .val (.int x2), .val (.int x3), .val (.int x4), .val (.int x5), .val (.int (1 : Int32)), .val (.int ((1 : Int32) + ((x1 &&& (2147483647 : Int32)) % (64 : Int32)))), .unset, .unset, .unset, .unset, .unset, .unset] []))
    generalize hv_v7_15 : ((1 : Int32) + ((x1 &&& (2147483647 : Int32)) % (64 : Int32))) = v7_15
    show Goes p e below _ (s₁.setTop (mkF m 23 #[.val (.int x0), .val (.int x1), .val (.int x2), .val (.int x3), .val (.int x4), .val (.int x5), .val (.int (1 : Int32)), .val (.int v7_15), .unset, .unset, .unset, .unset, .unset, .unset] []))
    obtain ⟨nm, hnm, hnm1, hnm2⟩ := own_users (k := 1) (c := (1 : Int32)) (by decide) (by decide) (by decide) hv_v7_15
    refine Goes.via (fun _ kk_ => XS.iload X0.here hx rfl (hb hby at_23) rfl  kk_) ?_
    show Goes p e below _ (s₁.setTop (mkF m 25 #[.val (.int x0), .val (.int x1), .val (.int x2), .val (.int x3), .val (.int x4), .val (.int x5), .val (.int (1 : Int32)), .val (.int v7_15), .unset, .unset, .unset, .unset, .unset, .unset] [(.int v7_15)]))
    refine Goes.via (fun _ kk_ => XS.istore X0.here hx rfl (hb hby at_25) rfl (l' := #[.val (.int x0), .val (.int x1), .val (.int x2), .val (.int x3), .val (.int x4), .val (.int x5), .val (.int (1 : Int32)), .val (.int v7_15), .val (.int v7_15), .unset, .unset, .unset, .unset, .unset]) rfl kk_) ?_
    show Goes p e below _ (s₁.setTop (mkF m 27 #[.val (.int x0), .val (.int x1), .val (.int x2), .val (.int x3), .val (.int x4), .val (.int x5), .val (.int (1 : Int32)), .val (.int v7_15), .val (.int v7_15), .unset, .unset, .unset, .unset, .unset] []))
    refine Goes.via (fun _ kk_ => XS.lconst X0.here hx rfl (hb hby at_27) kk_) ?_
    show Goes p e below _ (s₁.setTop (mkF m 28 #[.val (.int x0), .val (.int x1), .val (.int x2), .val (.int x3), .val (.int x4), .val (.int x5), .val (.int (1 : Int32)), .val (.int v7_15), .val (.int v7_15), .unset, .unset, .unset, .unset, .unset] [(.long (0 : Int64))]))
    refine Goes.via (fun _ kk_ => XS.lstore X0.here hx rfl (hb hby at_28) rfl (l' := #[.val (.int x0), .val (.int x1), .val (.int x2), .val (.int x3), .val (.int x4), .val (.int x5), .val (.int (1 : Int32)), .val (.int v7_15), .val (.int v7_15), .val (.long (0 : Int64)), .second, .unset, .unset, .unset]) rfl kk_) ?_
    show Goes p e below _ (s₁.setTop (mkF m 30 #[.val (.int x0), .val (.int x1), .val (.int x2), .val (.int x3), .val (.int x4), .val (.int x5), .val (.int (1 : Int32)), .val (.int v7_15), .val (.int v7_15), .val (.long (0 : Int64)), .second, .unset, .unset, .unset] []))
    refine Goes.via (fun _ kk_ => XS.lconst X0.here hx rfl (hb hby at_30) kk_) ?_
    show Goes p e below _ (s₁.setTop (mkF m 31 #[.val (.int x0), .val (.int x1), .val (.int x2), .val (.int x3), .val (.int x4), .val (.int x5), .val (.int (1 : Int32)), .val (.int v7_15), .val (.int v7_15), .val (.long (0 : Int64)), .second, .unset, .unset, .unset] [(.long (0 : Int64))]))
    refine Goes.via (fun _ kk_ => XS.lstore X0.here hx rfl (hb hby at_31) rfl (l' := #[.val (.int x0), .val (.int x1), .val (.int x2), .val (.int x3), .val (.int x4), .val (.int x5), .val (.int (1 : Int32)), .val (.int v7_15), .val (.int v7_15), .val (.long (0 : Int64)), .second, .val (.long (0 : Int64)), .second, .unset]) rfl kk_) ?_
    show Goes p e below _ (s₁.setTop (mkF m 33 #[.val (.int x0), .val (.int x1), .val (.int x2), .val (.int x3), .val (.int x4), .val (.int x5), .val (.int (1 : Int32)), .val (.int v7_15), .val (.int v7_15), .val (.long (0 : Int64)), .second, .val (.long (0 : Int64)), .second, .unset] []))
    refine Goes.via (fun _ kk_ => XS.iload X0.here hx rfl (hb hby at_33) rfl  kk_) ?_
    show Goes p e below _ (s₁.setTop (mkF m 35 #[.val (.int x0), .val (.int x1), .val (.int x2), .val (.int x3), .val (.int x4), .val (.int x5), .val (.int (1 : Int32)), .val (.int v7_15), .val (.int v7_15), .val (.long (0 : Int64)), .second, .val (.long (0 : Int64)), .second, .unset] [(.int (1 : Int32))]))
    refine Goes.via (fun _ kk_ => XS.iconst X0.here hx rfl (hb hby at_35) kk_) ?_
    show Goes p e below _ (s₁.setTop (mkF m 36 #[.val (.int x0), .val (.int x1), .val (.int x2), .val (.int x3), .val (.int x4), .val (.int x5), .val (.int (1 : Int32)), .val (.int v7_15), .val (.int v7_15), .val (.long (0 : Int64)), .second, .val (.long (0 : Int64)), .second, .unset] [(.int (4 : Int32)), (.int (1 : Int32))]))
    have hc36_16 : (1 : Int32) < (4 : Int32) := (by decide)
    refine Goes.via (fun _ kk_ => XS.icmpYes X0.here hx rfl (pc0 := 36) (pc' := 76) rfl (hb hby at_36) rfl (tlt hc36_16).1 (by decide) (by decide) kk_) ?_
    show Goes p e below _ (s₁.setTop (mkF m 76 #[.val (.int x0), .val (.int x1), .val (.int x2), .val (.int x3), .val (.int x4), .val (.int x5), .val (.int (1 : Int32)), .val (.int v7_15), .val (.int v7_15), .val (.long (0 : Int64)), .second, .val (.long (0 : Int64)), .second, .unset] []))
    refine Goes.via (fun _ kk_ => XS.iload X0.here hx rfl (hb hby at_76) rfl  kk_) ?_
    show Goes p e below _ (s₁.setTop (mkF m 78 #[.val (.int x0), .val (.int x1), .val (.int x2), .val (.int x3), .val (.int x4), .val (.int x5), .val (.int (1 : Int32)), .val (.int v7_15), .val (.int v7_15), .val (.long (0 : Int64)), .second, .val (.long (0 : Int64)), .second, .unset] [(.int (1 : Int32))]))
    refine Goes.via (fun _ kk_ => XS.iconst X0.here hx rfl (hb hby at_78) kk_) ?_
    show Goes p e below _ (s₁.setTop (mkF m 79 #[.val (.int x0), .val (.int x1), .val (.int x2), .val (.int x3), .val (.int x4), .val (.int x5), .val (.int (1 : Int32)), .val (.int v7_15), .val (.int v7_15), .val (.long (0 : Int64)), .second, .val (.long (0 : Int64)), .second, .unset] [(.int (3 : Int32)), (.int (1 : Int32))]))
    have hc79_17 : (1 : Int32) < (3 : Int32) := (by decide)
    refine Goes.via (fun _ kk_ => XS.icmpYes X0.here hx rfl (pc0 := 79) (pc' := 119) rfl (hb hby at_79) rfl (tlt hc79_17).1 (by decide) (by decide) kk_) ?_
    show Goes p e below _ (s₁.setTop (mkF m 119 #[.val (.int x0), .val (.int x1), .val (.int x2), .val (.int x3), .val (.int x4), .val (.int x5), .val (.int (1 : Int32)), .val (.int v7_15), .val (.int v7_15), .val (.long (0 : Int64)), .second, .val (.long (0 : Int64)), .second, .unset] []))
    refine Goes.via (fun _ kk_ => XS.iload X0.here hx rfl (hb hby at_119) rfl  kk_) ?_
    show Goes p e below _ (s₁.setTop (mkF m 121 #[.val (.int x0), .val (.int x1), .val (.int x2), .val (.int x3), .val (.int x4), .val (.int x5), .val (.int (1 : Int32)), .val (.int v7_15), .val (.int v7_15), .val (.long (0 : Int64)), .second, .val (.long (0 : Int64)), .second, .unset] [(.int (1 : Int32))]))
    refine Goes.via (fun _ kk_ => XS.iconst X0.here hx rfl (hb hby at_121) kk_) ?_
    show Goes p e below _ (s₁.setTop (mkF m 122 #[.val (.int x0), .val (.int x1), .val (.int x2), .val (.int x3), .val (.int x4), .val (.int x5), .val (.int (1 : Int32)), .val (.int v7_15), .val (.int v7_15), .val (.long (0 : Int64)), .second, .val (.long (0 : Int64)), .second, .unset] [(.int (2 : Int32)), (.int (1 : Int32))]))
    have hc122_18 : (1 : Int32) < (2 : Int32) := (by decide)
    refine Goes.via (fun _ kk_ => XS.icmpYes X0.here hx rfl (pc0 := 122) (pc' := 161) rfl (hb hby at_122) rfl (tlt hc122_18).1 (by decide) (by decide) kk_) ?_
    show Goes p e below _ (s₁.setTop (mkF m 161 #[.val (.int x0), .val (.int x1), .val (.int x2), .val (.int x3), .val (.int x4), .val (.int x5), .val (.int (1 : Int32)), .val (.int v7_15), .val (.int v7_15), .val (.long (0 : Int64)), .second, .val (.long (0 : Int64)), .second, .unset] []))
    refine Goes.via (fun _ kk_ => XS.iload X0.here hx rfl (hb hby at_161) rfl  kk_) ?_
    show Goes p e below _ (s₁.setTop (mkF m 163 #[.val (.int x0), .val (.int x1), .val (.int x2), .val (.int x3), .val (.int x4), .val (.int x5), .val (.int (1 : Int32)), .val (.int v7_15), .val (.int v7_15), .val (.long (0 : Int64)), .second, .val (.long (0 : Int64)), .second, .unset] [(.int (1 : Int32))]))
    refine Goes.via (fun _ kk_ => XS.iconst X0.here hx rfl (hb hby at_163) kk_) ?_
    show Goes p e below _ (s₁.setTop (mkF m 164 #[.val (.int x0), .val (.int x1), .val (.int x2), .val (.int x3), .val (.int x4), .val (.int x5), .val (.int (1 : Int32)), .val (.int v7_15), .val (.int v7_15), .val (.long (0 : Int64)), .second, .val (.long (0 : Int64)), .second, .unset] [(.int (1 : Int32)), (.int (1 : Int32))]))
    have hc164_19 : ¬ ((1 : Int32) < (1 : Int32)) := (by decide)
    refine Goes.via (fun _ kk_ => XS.icmpNo X0.here hx rfl (hb hby at_164) rfl (flt hc164_19).1 kk_) ?_
    show Goes p e below _ (s₁.setTop (mkF m 167 #[.val (.int x0), .val (.int x1), .val (.int x2), .val (.int x3), .val (.int x4), .val (.int x5), .val (.int (1 : Int32)), .val (.int v7_15), .val (.int v7_15), .val (.long (0 : Int64)), .second, .val (.long (0 : Int64)), .second, .unset] []))
    refine Goes.via (fun _ kk_ => XS.iloadN X0.here hx rfl (hb hby at_167) rfl  kk_) ?_
    show Goes p e below _ (s₁.setTop (mkF m 168 #[.val (.int x0), .val (.int x1), .val (.int x2), .val (.int x3), .val (.int x4), .val (.int x5), .val (.int (1 : Int32)), .val (.int v7_15), .val (.int v7_15), .val (.long (0 : Int64)), .second, .val (.long (0 : Int64)), .second, .unset] [(.int x2)]))
    refine Goes.via (X0.ldcInt hx hown (mvT hZ (hw _ (List.mem_of_getElem? (i := 0) rfl))) (g := (mkF m 168 #[.val (.int x0), .val (.int x1), .val (.int x2), .val (.int x3), .val (.int x4), .val (.int x5), .val (.int (1 : Int32)), .val (.int v7_15), .val (.int v7_15), .val (.long (0 : Int64)), .second, .val (.long (0 : Int64)), .second, .unset] [(.int x2)])) rfl (hb hby at_168)) ?_
    show Goes p e below _ (s₁.setTop (mkF m 170 #[.val (.int x0), .val (.int x1), .val (.int x2), .val (.int x3), .val (.int x4), .val (.int x5), .val (.int (1 : Int32)), .val (.int v7_15), .val (.int v7_15), .val (.long (0 : Int64)), .second, .val (.long (0 : Int64)), .second, .unset] [(.int (2147483647 : Int32)), (.int x2)]))
    refine Goes.via (fun _ kk_ => XS.iand X0.here hx rfl (hb hby at_170) rfl kk_) ?_
    show Goes p e below _ (s₁.setTop (mkF m 171 #[.val (.int x0), .val (.int x1), .val (.int x2), .val (.int x3), .val (.int x4), .val (.int x5), .val (.int (1 : Int32)), .val (.int v7_15), .val (.int v7_15), .val (.long (0 : Int64)), .second, .val (.long (0 : Int64)), .second, .unset] [(.int (x2 &&& (2147483647 : Int32)))]))
    refine Goes.via (fun _ kk_ => XS.iload X0.here hx rfl (hb hby at_171) rfl  kk_) ?_
    show Goes p e below _ (s₁.setTop (mkF m 173 #[.val (.int x0), .val (.int x1), .val (.int x2), .val (.int x3), .val (.int x4), .val (.int x5), .val (.int (1 : Int32)), .val (.int v7_15), .val (.int v7_15), .val (.long (0 : Int64)), .second, .val (.long (0 : Int64)), .second, .unset] [(.int v7_15), (.int (x2 &&& (2147483647 : Int32)))]))
    refine Goes.via (fun _ kk_ => iremM X0 hx rfl (hb hby at_173) rfl (own_nz0 hnm (by omega)) kk_) ?_
    show Goes p e below _ (s₁.setTop (mkF m 174 #[.val (.int x0), .val (.int x1), .val (.int x2), .val (.int x3), .val (.int x4), .val (.int x5), .val (.int (1 : Int32)), .val (.int v7_15), .val (.int v7_15), .val (.long (0 : Int64)), .second, .val (.long (0 : Int64)), .second, .unset] [(.int ((x2 &&& (2147483647 : Int32)) % v7_15))]))
    refine Goes.via (fun _ kk_ => XS.istore X0.here hx rfl (hb hby at_174) rfl (l' := #[.val (.int x0), .val (.int x1), .val (.int x2), .val (.int x3), .val (.int x4), .val (.int x5), .val (.int (1 : Int32)), .val (.int v7_15), .val (.int v7_15), .val (.long (0 : Int64)), .second, .val (.long (0 : Int64)), .second, .val (.int ((x2 &&& (2147483647 : Int32)) % v7_15))]) rfl kk_) ?_
    show Goes p e below _ (s₁.setTop (mkF m 176 #[.val (.int x0), .val (.int x1), .val (.int x2), .val (.int x3), .val (.int x4), .val (.int x5), .val (.int (1 : Int32)), .val (.int v7_15), .val (.int v7_15), .val (.long (0 : Int64)), .second, .val (.long (0 : Int64)), .second, .val (.int ((x2 &&& (2147483647 : Int32)) % v7_15))] []))
    generalize hv_v13_20 : ((x2 &&& (2147483647 : Int32)) % v7_15) = v13_20
    show Goes p e below _ (s₁.setTop (mkF m 176 #[.val (.int x0), .val (.int x1), .val (.int x2), .val (.int x3), .val (.int x4), .val (.int x5), .val (.int (1 : Int32)), .val (.int v7_15), .val (.int v7_15), .val (.long (0 : Int64)), .second, .val (.long (0 : Int64)), .second, .val (.int v13_20)] []))
    obtain ⟨nu0, hnu0, hnu0b⟩ := own_pick0 hnm (by omega) hv_v13_20
    refine Goes.via (fun _ kk_ => XS.lload X0.here hx rfl (hb hby at_176) rfl  kk_) ?_
    show Goes p e below _ (s₁.setTop (mkF m 178 #[.val (.int x0), .val (.int x1), .val (.int x2), .val (.int x3), .val (.int x4), .val (.int x5), .val (.int (1 : Int32)), .val (.int v7_15), .val (.int v7_15), .val (.long (0 : Int64)), .second, .val (.long (0 : Int64)), .second, .val (.int v13_20)] [(.long (0 : Int64))]))
    refine Goes.via (fun _ kk_ => XS.lconst X0.here hx rfl (hb hby at_178) kk_) ?_
    show Goes p e below _ (s₁.setTop (mkF m 179 #[.val (.int x0), .val (.int x1), .val (.int x2), .val (.int x3), .val (.int x4), .val (.int x5), .val (.int (1 : Int32)), .val (.int v7_15), .val (.int v7_15), .val (.long (0 : Int64)), .second, .val (.long (0 : Int64)), .second, .val (.int v13_20)] [(.long (1 : Int64)), (.long (0 : Int64))]))
    refine Goes.via (fun _ kk_ => XS.iload X0.here hx rfl (hb hby at_179) rfl  kk_) ?_
    show Goes p e below _ (s₁.setTop (mkF m 181 #[.val (.int x0), .val (.int x1), .val (.int x2), .val (.int x3), .val (.int x4), .val (.int x5), .val (.int (1 : Int32)), .val (.int v7_15), .val (.int v7_15), .val (.long (0 : Int64)), .second, .val (.long (0 : Int64)), .second, .val (.int v13_20)] [(.int v13_20), (.long (1 : Int64)), (.long (0 : Int64))]))
    refine Goes.via (fun _ kk_ => XS.lshl X0.here hx rfl (hb hby at_181) rfl kk_) ?_
    show Goes p e below _ (s₁.setTop (mkF m 182 #[.val (.int x0), .val (.int x1), .val (.int x2), .val (.int x3), .val (.int x4), .val (.int x5), .val (.int (1 : Int32)), .val (.int v7_15), .val (.int v7_15), .val (.long (0 : Int64)), .second, .val (.long (0 : Int64)), .second, .val (.int v13_20)] [(.long ((1 : Int64) <<< (v13_20 &&& 0x3f).toInt64)), (.long (0 : Int64))]))
    refine Goes.via (fun _ kk_ => XS.lor X0.here hx rfl (hb hby at_182) rfl kk_) ?_
    show Goes p e below _ (s₁.setTop (mkF m 183 #[.val (.int x0), .val (.int x1), .val (.int x2), .val (.int x3), .val (.int x4), .val (.int x5), .val (.int (1 : Int32)), .val (.int v7_15), .val (.int v7_15), .val (.long (0 : Int64)), .second, .val (.long (0 : Int64)), .second, .val (.int v13_20)] [(.long ((0 : Int64) ||| ((1 : Int64) <<< (v13_20 &&& 0x3f).toInt64)))]))
    refine Goes.via (fun _ kk_ => XS.lstore X0.here hx rfl (hb hby at_183) rfl (l' := #[.val (.int x0), .val (.int x1), .val (.int x2), .val (.int x3), .val (.int x4), .val (.int x5), .val (.int (1 : Int32)), .val (.int v7_15), .val (.int v7_15), .val (.long ((0 : Int64) ||| ((1 : Int64) <<< (v13_20 &&& 0x3f).toInt64))), .second, .val (.long (0 : Int64)), .second, .val (.int v13_20)]) rfl kk_) ?_
    show Goes p e below _ (s₁.setTop (mkF m 185 #[.val (.int x0), .val (.int x1), .val (.int x2), .val (.int x3), .val (.int x4), .val (.int x5), .val (.int (1 : Int32)), .val (.int v7_15), .val (.int v7_15), .val (.long ((0 : Int64) ||| ((1 : Int64) <<< (v13_20 &&& 0x3f).toInt64))), .second, .val (.long (0 : Int64)), .second, .val (.int v13_20)] []))
    refine Goes.via (fun _ kk_ => XS.lload X0.here hx rfl (hb hby at_185) rfl  kk_) ?_
    show Goes p e below _ (s₁.setTop (mkF m 187 #[.val (.int x0), .val (.int x1), .val (.int x2), .val (.int x3), .val (.int x4), .val (.int x5), .val (.int (1 : Int32)), .val (.int v7_15), .val (.int v7_15), .val (.long ((0 : Int64) ||| ((1 : Int64) <<< (v13_20 &&& 0x3f).toInt64))), .second, .val (.long (0 : Int64)), .second, .val (.int v13_20)] [(.long (0 : Int64))]))
    refine Goes.via (fun _ kk_ => XS.iload X0.here hx rfl (hb hby at_187) rfl  kk_) ?_
    show Goes p e below _ (s₁.setTop (mkF m 189 #[.val (.int x0), .val (.int x1), .val (.int x2), .val (.int x3), .val (.int x4), .val (.int x5), .val (.int (1 : Int32)), .val (.int v7_15), .val (.int v7_15), .val (.long ((0 : Int64) ||| ((1 : Int64) <<< (v13_20 &&& 0x3f).toInt64))), .second, .val (.long (0 : Int64)), .second, .val (.int v13_20)] [(.int v13_20), (.long (0 : Int64))]))
    refine Goes.via (fun _ kk_ => XS.i2l X0.here hx rfl (hb hby at_189) rfl kk_) ?_
    show Goes p e below _ (s₁.setTop (mkF m 190 #[.val (.int x0), .val (.int x1), .val (.int x2), .val (.int x3), .val (.int x4), .val (.int x5), .val (.int (1 : Int32)), .val (.int v7_15), .val (.int v7_15), .val (.long ((0 : Int64) ||| ((1 : Int64) <<< (v13_20 &&& 0x3f).toInt64))), .second, .val (.long (0 : Int64)), .second, .val (.int v13_20)] [(.long (v13_20.toInt64)), (.long (0 : Int64))]))
    refine Goes.via (fun _ kk_ => XS.ladd X0.here hx rfl (hb hby at_190) rfl kk_) ?_
    show Goes p e below _ (s₁.setTop (mkF m 191 #[.val (.int x0), .val (.int x1), .val (.int x2), .val (.int x3), .val (.int x4), .val (.int x5), .val (.int (1 : Int32)), .val (.int v7_15), .val (.int v7_15), .val (.long ((0 : Int64) ||| ((1 : Int64) <<< (v13_20 &&& 0x3f).toInt64))), .second, .val (.long (0 : Int64)), .second, .val (.int v13_20)] [(.long ((0 : Int64) + (v13_20.toInt64)))]))
    refine Goes.via (fun _ kk_ => XS.lstore X0.here hx rfl (hb hby at_191) rfl (l' := #[.val (.int x0), .val (.int x1), .val (.int x2), .val (.int x3), .val (.int x4), .val (.int x5), .val (.int (1 : Int32)), .val (.int v7_15), .val (.int v7_15), .val (.long ((0 : Int64) ||| ((1 : Int64) <<< (v13_20 &&& 0x3f).toInt64))), .second, .val (.long ((0 : Int64) + (v13_20.toInt64))), .second, .val (.int v13_20)]) rfl kk_) ?_
    show Goes p e below _ (s₁.setTop (mkF m 193 #[.val (.int x0), .val (.int x1), .val (.int x2), .val (.int x3), .val (.int x4), .val (.int x5), .val (.int (1 : Int32)), .val (.int v7_15), .val (.int v7_15), .val (.long ((0 : Int64) ||| ((1 : Int64) <<< (v13_20 &&& 0x3f).toInt64))), .second, .val (.long ((0 : Int64) + (v13_20.toInt64))), .second, .val (.int v13_20)] []))
    have hxs : own_dn nm [nu0] := ⟨(by omega), trivial⟩
    have hrkE : own_rk [nu0] = (own_B nu0 1 + 0) := rfl
    have hB1 := own_B_le (i := nu0) (j := 1) (by omega) (by decide)
    have hrk : (((0 : Int64) + (v13_20.toInt64))).toInt = ((own_rk [nu0] : Nat) : Int) := by
      have z0 : (0 : Int64).toInt = ((0 : Nat) : Int) := by decide
      have z1 := own_addL z0 (by rw [c_i2l, own_c1B (by omega)]; exact hnu0 : (v13_20.toInt64).toInt = ((own_B nu0 1 : Nat) : Int)) (by omega) rfl
      have zz := z1
      rw [hrkE]
      omega
    have hrkb : own_rk [nu0] ≤ 9000000 := by rw [hrkE]; omega
    obtain ⟨T21, h21, X21, e21, E21, A21, D21, -, st21⟩ := newO X0 hx hZ hown (hw _ (List.mem_of_getElem? (i := 1) rfl)) (hw _ (List.mem_of_getElem? (i := 2) rfl)) (hw _ (List.mem_of_getElem? (i := 3) rfl)) e0 (g := (mkF m 193 #[.val (.int x0), .val (.int x1), .val (.int x2), .val (.int x3), .val (.int x4), .val (.int x5), .val (.int (1 : Int32)), .val (.int v7_15), .val (.int v7_15), .val (.long ((0 : Int64) ||| ((1 : Int64) <<< (v13_20 &&& 0x3f).toInt64))), .second, .val (.long ((0 : Int64) + (v13_20.toInt64))), .second, .val (.int v13_20)] [])) rfl (hb hby at_193) (by first | decide | omega | (dsimp only; omega)) (by first | decide | omega | (dsimp only; omega))
    obtain ⟨b21, g21⟩ : ∃ z, z = (h0).size := ⟨_, rfl⟩
    rw [← g21] at A21 D21 st21
    have sz_b21 : h0.size ≤ b21 := Nat.le_trans (Nat.le_refl _) (Nat.le_of_eq g21.symm)
    have gn_b21 : n0 ≤ b21 := Nat.le_trans Z0 sz_b21
    have F_users_b21 : Fld Z h21 b21 "com/example/checks_on_duty/checksonduty/engine/RankedSets" "users" "I" (.int (0 : Int32)) := D21 (Or.inr (hw _ (List.mem_of_getElem? (i := 11) rfl))) (ty := .int) (by decide)
    have F_binomial_b21 : Fld Z h21 b21 "com/example/checks_on_duty/checksonduty/engine/RankedSets" "binomial" "[[J" .null := D21 (Or.inr (hw _ (List.mem_of_getElem? (i := 16) rfl))) (ty := (.array (.array .long))) (by decide)
    refine Goes.via st21 ?_
    show Goes p e below _ (T21.setTop (mkF m 196 #[.val (.int x0), .val (.int x1), .val (.int x2), .val (.int x3), .val (.int x4), .val (.int x5), .val (.int (1 : Int32)), .val (.int v7_15), .val (.int v7_15), .val (.long ((0 : Int64) ||| ((1 : Int64) <<< (v13_20 &&& 0x3f).toInt64))), .second, .val (.long ((0 : Int64) + (v13_20.toInt64))), .second, .val (.int v13_20)] [(.ref b21)]))
    refine Goes.via (fun _ kk_ => XS.dup X21.here hx rfl (hb hby at_196) rfl rfl kk_) ?_
    show Goes p e below _ (T21.setTop (mkF m 197 #[.val (.int x0), .val (.int x1), .val (.int x2), .val (.int x3), .val (.int x4), .val (.int x5), .val (.int (1 : Int32)), .val (.int v7_15), .val (.int v7_15), .val (.long ((0 : Int64) ||| ((1 : Int64) <<< (v13_20 &&& 0x3f).toInt64))), .second, .val (.long ((0 : Int64) + (v13_20.toInt64))), .second, .val (.int v13_20)] [(.ref b21), (.ref b21)]))
    refine Goes.via (fun _ kk_ => XS.iload X21.here hx rfl (hb hby at_197) rfl  kk_) ?_
    show Goes p e below _ (T21.setTop (mkF m 199 #[.val (.int x0), .val (.int x1), .val (.int x2), .val (.int x3), .val (.int x4), .val (.int x5), .val (.int (1 : Int32)), .val (.int v7_15), .val (.int v7_15), .val (.long ((0 : Int64) ||| ((1 : Int64) <<< (v13_20 &&& 0x3f).toInt64))), .second, .val (.long ((0 : Int64) + (v13_20.toInt64))), .second, .val (.int v13_20)] [(.int v7_15), (.ref b21), (.ref b21)]))
    refine Goes.via (fun _ kk_ => XS.iconst X21.here hx rfl (hb hby at_199) kk_) ?_
    show Goes p e below _ (T21.setTop (mkF m 200 #[.val (.int x0), .val (.int x1), .val (.int x2), .val (.int x3), .val (.int x4), .val (.int x5), .val (.int (1 : Int32)), .val (.int v7_15), .val (.int v7_15), .val (.long ((0 : Int64) ||| ((1 : Int64) <<< (v13_20 &&& 0x3f).toInt64))), .second, .val (.long ((0 : Int64) + (v13_20.toInt64))), .second, .val (.int v13_20)] [(.int (4 : Int32)), (.int v7_15), (.ref b21), (.ref b21)]))
    have z23 : h0.size ≤ (h21).size := (Nat.le_trans (Nat.le_refl _) E21.1)
    obtain ⟨_, _, ⟨T22, L22, k22, n22⟩, -, X22, ⟨Lc22, hQ22, l22, y22, z22⟩, st22⟩ := X21.specialBack hx (y := (⟨"com/example/checks_on_duty/checksonduty/engine/RankedSets", "<init>", "(II)V"⟩ : MethodName)) rfl hown (mvT hZ (hw _ (List.mem_of_getElem? (i := 4) rfl))) (mvT hZ (hw _ (List.mem_of_getElem? (i := 5) rfl))) (mvT hZ (hw _ (List.mem_of_getElem? (i := 6) rfl))) (by decide) (backOf (W := 1) (rm1 l Z a0 hw [] b21 v7_15 (4 : Int32) nm 4 h21 n0 (Nat.le_trans Z0 z23) A21 F_users_b21 F_binomial_b21 gn_b21 hnm (by first | rfl | decide | assumption | omega | (simp; done)) (by first | rfl | decide | assumption | omega | (simp; done)) (by first | rfl | decide | assumption | omega | (simp; done))) hZ (hw _ (List.mem_of_getElem? (i := 6) rfl)) (hw _ (List.mem_of_getElem? (i := 3) rfl)) (by decide) (by decide)) (g := (mkF m 200 #[.val (.int x0), .val (.int x1), .val (.int x2), .val (.int x3), .val (.int x4), .val (.int x5), .val (.int (1 : Int32)), .val (.int v7_15), .val (.int v7_15), .val (.long ((0 : Int64) ||| ((1 : Int64) <<< (v13_20 &&& 0x3f).toInt64))), .second, .val (.long ((0 : Int64) + (v13_20.toInt64))), .second, .val (.int v13_20)] [(.int (4 : Int32)), (.int v7_15), (.ref b21), (.ref b21)])) rfl (by rw [hml]; rfl) (Steps.refl _) (a := b21) (argsL := [(.int v7_15), (.int (4 : Int32))]) (rest := [(.ref b21)]) (lenOf pd_1 rfl) rfl (by show 2 * 0 + _ ≤ _; exact Nat.le_of_eq rfl) (hb hby at_200) (fun _ _ => ⟨rfl, e21, (by first | decide | omega | (dsimp only; omega) : 1 + 66 ≤ _), (by first | decide | omega | (dsimp only; omega) : 2 + 400 ≤ _)⟩)
    dsimp only [Pt.U, Pt.locs, Pt.cells, Pt.slots] at X22 l22 y22 z22 st22 hQ22
    subst l22 y22 z22
    obtain ⟨g22, kA22, kB22, rfl, N22q, K22, u22_0, u22_1, u22_2, u22_3, u22_4⟩ := hQ22
    have N22 := Fr.app N0 N22q
    refine Goes.tr st22 ?_
    have ne24 : b21 ≠ g22 := Nat.ne_of_lt (Nat.lt_of_lt_of_le A21.lt u22_0)
    have sz_g22 : h0.size ≤ g22 := Nat.le_trans z23 u22_0
    have gn_g22 : n0 ≤ g22 := Nat.le_trans Z0 sz_g22
    -- u22_0 : h0.size ≤ g22
    show Goes p e below _ (T22.setTop (mkF m 203 #[.val (.int x0), .val (.int x1), .val (.int x2), .val (.int x3), .val (.int x4), .val (.int x5), .val (.int (1 : Int32)), .val (.int v7_15), .val (.int v7_15), .val (.long ((0 : Int64) ||| ((1 : Int64) <<< (v13_20 &&& 0x3f).toInt64))), .second, .val (.long ((0 : Int64) + (v13_20.toInt64))), .second, .val (.int v13_20)] [(.ref b21)]))
    refine Goes.via (fun _ kk_ => XS.astore X22.here hx rfl (hb hby at_203) rfl rfl (l' := #[.val (.int x0), .val (.int x1), .val (.int x2), .val (.int x3), .val (.int x4), .val (.int x5), .val (.int (1 : Int32)), .val (.int v7_15), .val (.int v7_15), .val (.long ((0 : Int64) ||| ((1 : Int64) <<< (v13_20 &&& 0x3f).toInt64))), .second, .val (.long ((0 : Int64) + (v13_20.toInt64))), .second, .val (.ref b21)]) rfl kk_) ?_
    show Goes p e below _ (T22.setTop (mkF m 205 #[.val (.int x0), .val (.int x1), .val (.int x2), .val (.int x3), .val (.int x4), .val (.int x5), .val (.int (1 : Int32)), .val (.int v7_15), .val (.int v7_15), .val (.long ((0 : Int64) ||| ((1 : Int64) <<< (v13_20 &&& 0x3f).toInt64))), .second, .val (.long ((0 : Int64) + (v13_20.toInt64))), .second, .val (.ref b21)] []))
    refine Goes.via (fun _ kk_ => XS.aload X22.here hx rfl (hb hby at_205) rfl rfl  kk_) ?_
    show Goes p e below _ (T22.setTop (mkF m 207 #[.val (.int x0), .val (.int x1), .val (.int x2), .val (.int x3), .val (.int x4), .val (.int x5), .val (.int (1 : Int32)), .val (.int v7_15), .val (.int v7_15), .val (.long ((0 : Int64) ||| ((1 : Int64) <<< (v13_20 &&& 0x3f).toInt64))), .second, .val (.long ((0 : Int64) + (v13_20.toInt64))), .second, .val (.ref b21)] [(.ref b21)]))
    refine Goes.via (fun _ kk_ => XS.lload X22.here hx rfl (hb hby at_207) rfl  kk_) ?_
    show Goes p e below _ (T22.setTop (mkF m 209 #[.val (.int x0), .val (.int x1), .val (.int x2), .val (.int x3), .val (.int x4), .val (.int x5), .val (.int (1 : Int32)), .val (.int v7_15), .val (.int v7_15), .val (.long ((0 : Int64) ||| ((1 : Int64) <<< (v13_20 &&& 0x3f).toInt64))), .second, .val (.long ((0 : Int64) + (v13_20.toInt64))), .second, .val (.ref b21)] [(.long ((0 : Int64) + (v13_20.toInt64))), (.ref b21)]))
    refine Goes.via (fun _ kk_ => XS.l2i X22.here hx rfl (hb hby at_209) rfl kk_) ?_
    show Goes p e below _ (T22.setTop (mkF m 210 #[.val (.int x0), .val (.int x1), .val (.int x2), .val (.int x3), .val (.int x4), .val (.int x5), .val (.int (1 : Int32)), .val (.int v7_15), .val (.int v7_15), .val (.long ((0 : Int64) ||| ((1 : Int64) <<< (v13_20 &&& 0x3f).toInt64))), .second, .val (.long ((0 : Int64) + (v13_20.toInt64))), .second, .val (.ref b21)] [(.int (((0 : Int64) + (v13_20.toInt64)).toInt32)), (.ref b21)]))
    refine Goes.via (fun _ kk_ => XS.iload X22.here hx rfl (hb hby at_210) rfl  kk_) ?_
    show Goes p e below _ (T22.setTop (mkF m 212 #[.val (.int x0), .val (.int x1), .val (.int x2), .val (.int x3), .val (.int x4), .val (.int x5), .val (.int (1 : Int32)), .val (.int v7_15), .val (.int v7_15), .val (.long ((0 : Int64) ||| ((1 : Int64) <<< (v13_20 &&& 0x3f).toInt64))), .second, .val (.long ((0 : Int64) + (v13_20.toInt64))), .second, .val (.ref b21)] [(.int (1 : Int32)), (.int (((0 : Int64) + (v13_20.toInt64)).toInt32)), (.ref b21)]))
    have z26 : h0.size ≤ (T22.heap).size := (Nat.le_trans z23 K22.1)
    obtain ⟨cq25, kq25, q25a, q25b, q25c⟩ := isOf hZ rfl u22_1
    obtain ⟨_, _, ⟨T25, L25, k25, n25⟩, -, X25, ⟨Lc25, hQ25, l25, y25, z25⟩, st25⟩ := X22.virtualBack hx (y := (⟨"com/example/checks_on_duty/checksonduty/engine/RankedSets", "set", "(II)J"⟩ : MethodName)) (z := (⟨"com/example/checks_on_duty/checksonduty/engine/RankedSets", "set", "(II)J"⟩ : MethodName)) hown (mvT hZ (hw _ (List.mem_of_getElem? (i := 21) rfl))) (mvT hZ (hw _ (List.mem_of_getElem? (i := 22) rfl))) (notFace_of_selects (args := #[]) (mvT hZ (hw _ (List.mem_of_getElem? (i := 24) rfl)))) (mvT hZ (hw _ (List.mem_of_getElem? (i := 24) rfl))) (mvT hZ (hw _ (List.mem_of_getElem? (i := 23) rfl))) (by decide) (backOf (W := 0) (rm4 l Z a0 hw [] b21 (((0 : Int64) + (v13_20.toInt64)).toInt32) (1 : Int32) v7_15 g22 kA22 kB22 nm [nu0] T22.heap n0 (Nat.le_trans Z0 z26) u22_2 u22_3 u22_4 hnm (by first | rfl | decide | assumption | omega | (simp; done)) (own_l2i hrk hrkb) rfl (by simp) hxs) hZ (hw _ (List.mem_of_getElem? (i := 25) rfl)) (hw _ (List.mem_of_getElem? (i := 3) rfl)) (by decide) (by decide)) q25a q25c (g := (mkF m 212 #[.val (.int x0), .val (.int x1), .val (.int x2), .val (.int x3), .val (.int x4), .val (.int x5), .val (.int (1 : Int32)), .val (.int v7_15), .val (.int v7_15), .val (.long ((0 : Int64) ||| ((1 : Int64) <<< (v13_20 &&& 0x3f).toInt64))), .second, .val (.long ((0 : Int64) + (v13_20.toInt64))), .second, .val (.ref b21)] [(.int (1 : Int32)), (.int (((0 : Int64) + (v13_20.toInt64)).toInt32)), (.ref b21)])) rfl (by rw [hml]; rfl) (Steps.refl _) (argsL := [(.int (((0 : Int64) + (v13_20.toInt64)).toInt32)), (.int (1 : Int32))]) (rest := []) (lenOf pd_2 rfl) rfl (by show 2 * 0 + _ ≤ _; exact Nat.le_of_eq rfl) (hb hby at_212) (fun _ _ => ⟨rfl, rfl, (by first | decide | omega | (dsimp only; omega) : 67 + 0 ≤ _), (by first | decide | omega | (dsimp only; omega) : 402 + 0 ≤ _)⟩)
    dsimp only [Pt.U, Pt.locs, Pt.cells, Pt.slots] at X25 l25 y25 z25 st25 hQ25
    subst l25 y25 z25
    obtain ⟨rfl, N25q, e25⟩ := hQ25
    have N25 := Fr.app N22 N25q
    refine Goes.tr st25 ?_
    have e25' : T25.heap = T22.heap := e25
    show Goes p e below _ (T25.setTop (mkF m 215 #[.val (.int x0), .val (.int x1), .val (.int x2), .val (.int x3), .val (.int x4), .val (.int x5), .val (.int (1 : Int32)), .val (.int v7_15), .val (.int v7_15), .val (.long ((0 : Int64) ||| ((1 : Int64) <<< (v13_20 &&& 0x3f).toInt64))), .second, .val (.long ((0 : Int64) + (v13_20.toInt64))), .second, .val (.ref b21)] [(.long (own_or (0 : Int64) [nu0]))]))
    refine Goes.via (fun _ kk_ => XS.lload X25.here hx rfl (hb hby at_215) rfl  kk_) ?_
    show Goes p e below _ (T25.setTop (mkF m 217 #[.val (.int x0), .val (.int x1), .val (.int x2), .val (.int x3), .val (.int x4), .val (.int x5), .val (.int (1 : Int32)), .val (.int v7_15), .val (.int v7_15), .val (.long ((0 : Int64) ||| ((1 : Int64) <<< (v13_20 &&& 0x3f).toInt64))), .second, .val (.long ((0 : Int64) + (v13_20.toInt64))), .second, .val (.ref b21)] [(.long ((0 : Int64) ||| ((1 : Int64) <<< (v13_20 &&& 0x3f).toInt64))), (.long (own_or (0 : Int64) [nu0]))]))
    refine Goes.via (fun _ kk_ => XS.lcmp X25.here hx rfl (hb hby at_217) rfl kk_) ?_
    show Goes p e below _ (T25.setTop (mkF m 218 #[.val (.int x0), .val (.int x1), .val (.int x2), .val (.int x3), .val (.int x4), .val (.int x5), .val (.int (1 : Int32)), .val (.int v7_15), .val (.int v7_15), .val (.long ((0 : Int64) ||| ((1 : Int64) <<< (v13_20 &&& 0x3f).toInt64))), .second, .val (.long ((0 : Int64) + (v13_20.toInt64))), .second, .val (.ref b21)] [(.int (lcmpW (own_or (0 : Int64) [nu0]) ((0 : Int64) ||| ((1 : Int64) <<< (v13_20 &&& 0x3f).toInt64))))]))
    have hc218_27 : (own_or (0 : Int64) [nu0]) = ((0 : Int64) ||| ((1 : Int64) <<< (v13_20 &&& 0x3f).toInt64)) := (by simp only [own_or, ← own_ofn hnu0 (by omega)])
    refine Goes.via (fun _ kk_ => XS.ifNo X25.here hx rfl (hb hby at_218) rfl ((if0 _ _).trans (teq ((lw_eq (own_or (0 : Int64) [nu0]) ((0 : Int64) ||| ((1 : Int64) <<< (v13_20 &&& 0x3f).toInt64))).mpr hc218_27)).2) kk_) ?_
    show Goes p e below _ (T25.setTop (mkF m 221 #[.val (.int x0), .val (.int x1), .val (.int x2), .val (.int x3), .val (.int x4), .val (.int x5), .val (.int (1 : Int32)), .val (.int v7_15), .val (.int v7_15), .val (.long ((0 : Int64) ||| ((1 : Int64) <<< (v13_20 &&& 0x3f).toInt64))), .second, .val (.long ((0 : Int64) + (v13_20.toInt64))), .second, .val (.ref b21)] []))
    refine Goes.via (fun _ kk_ => XS.iconst X25.here hx rfl (hb hby at_221) kk_) ?_
    show Goes p e below _ (T25.setTop (mkF m 222 #[.val (.int x0), .val (.int x1), .val (.int x2), .val (.int x3), .val (.int x4), .val (.int x5), .val (.int (1 : Int32)), .val (.int v7_15), .val (.int v7_15), .val (.long ((0 : Int64) ||| ((1 : Int64) <<< (v13_20 &&& 0x3f).toInt64))), .second, .val (.long ((0 : Int64) + (v13_20.toInt64))), .second, .val (.ref b21)] [(.int (1 : Int32))]))
    refine Goes.via (fun _ kk_ => XS.goto X25.here hx rfl (pc0 := 222) (pc' := 226) rfl (hb hby at_222) (by decide) (by decide) kk_) ?_
    show Goes p e below _ (T25.setTop (mkF m 226 #[.val (.int x0), .val (.int x1), .val (.int x2), .val (.int x3), .val (.int x4), .val (.int x5), .val (.int (1 : Int32)), .val (.int v7_15), .val (.int v7_15), .val (.long ((0 : Int64) ||| ((1 : Int64) <<< (v13_20 &&& 0x3f).toInt64))), .second, .val (.long ((0 : Int64) + (v13_20.toInt64))), .second, .val (.ref b21)] [(.int (1 : Int32))]))
    have K28 : Keep h0 T22.heap [] := (((Keep.refl h0 []).ext E21).trans K22 (allS (Or.inr sz_b21) all0))
    exact own_finN X25 hx hlk hret (by simp) (hb hby at_226) (by rw [e25']; exact ⟨rfl, N25, K28⟩) (by first | decide | omega | (dsimp only; omega)) (by first | decide | omega | (dsimp only; omega))
  · rw [hsz]
    show Goes p e below _ (s₁.setTop (mkF m 8 #[.val (.int x0), .val (.int x1), .val (.int x2), .val (.int x3), .val (.int x4), .val (.int x5), .val (.int (2 : Int32)), .unset, .unset, .unset, .unset, .unset, .unset, .unset] []))
    refine Goes.via (fun _ kk_ => XS.iload X0.here hx rfl (hb hby at_8) rfl  kk_) ?_
    show Goes p e below _ (s₁.setTop (mkF m 10 #[.val (.int x0), .val (.int x1), .val (.int x2), .val (.int x3), .val (.int x4), .val (.int x5), .val (.int (2 : Int32)), .unset, .unset, .unset, .unset, .unset, .unset, .unset] [(.int (2 : Int32))]))
    refine Goes.via (fun _ kk_ => XS.iloadN X0.here hx rfl (hb hby at_10) rfl  kk_) ?_
    show Goes p e below _ (s₁.setTop (mkF m 11 #[.val (.int x0), .val (.int x1), .val (.int x2), .val (.int x3), .val (.int x4), .val (.int x5), .val (.int (2 : Int32)), .unset, .unset, .unset, .unset, .unset, .unset, .unset] [(.int x1), (.int (2 : Int32))]))
    refine Goes.via (X0.ldcInt hx hown (mvT hZ (hw _ (List.mem_of_getElem? (i := 0) rfl))) (g := (mkF m 11 #[.val (.int x0), .val (.int x1), .val (.int x2), .val (.int x3), .val (.int x4), .val (.int x5), .val (.int (2 : Int32)), .unset, .unset, .unset, .unset, .unset, .unset, .unset] [(.int x1), (.int (2 : Int32))])) rfl (hb hby at_11)) ?_
    show Goes p e below _ (s₁.setTop (mkF m 13 #[.val (.int x0), .val (.int x1), .val (.int x2), .val (.int x3), .val (.int x4), .val (.int x5), .val (.int (2 : Int32)), .unset, .unset, .unset, .unset, .unset, .unset, .unset] [(.int (2147483647 : Int32)), (.int x1), (.int (2 : Int32))]))
    refine Goes.via (fun _ kk_ => XS.iand X0.here hx rfl (hb hby at_13) rfl kk_) ?_
    show Goes p e below _ (s₁.setTop (mkF m 14 #[.val (.int x0), .val (.int x1), .val (.int x2), .val (.int x3), .val (.int x4), .val (.int x5), .val (.int (2 : Int32)), .unset, .unset, .unset, .unset, .unset, .unset, .unset] [(.int (x1 &&& (2147483647 : Int32))), (.int (2 : Int32))]))
    refine Goes.via (fun _ kk_ => XS.bipush X0.here hx rfl (hb hby at_14) kk_) ?_
    show Goes p e below _ (s₁.setTop (mkF m 16 #[.val (.int x0), .val (.int x1), .val (.int x2), .val (.int x3), .val (.int x4), .val (.int x5), .val (.int (2 : Int32)), .unset, .unset, .unset, .unset, .unset, .unset, .unset] [(.int (65 : Int32)), (.int (x1 &&& (2147483647 : Int32))), (.int (2 : Int32))]))
    refine Goes.via (fun _ kk_ => XS.iload X0.here hx rfl (hb hby at_16) rfl  kk_) ?_
    show Goes p e below _ (s₁.setTop (mkF m 18 #[.val (.int x0), .val (.int x1), .val (.int x2), .val (.int x3), .val (.int x4), .val (.int x5), .val (.int (2 : Int32)), .unset, .unset, .unset, .unset, .unset, .unset, .unset] [(.int (2 : Int32)), (.int (65 : Int32)), (.int (x1 &&& (2147483647 : Int32))), (.int (2 : Int32))]))
    refine Goes.via (fun _ kk_ => XS.isub X0.here hx rfl (hb hby at_18) rfl kk_) ?_
    show Goes p e below _ (s₁.setTop (mkF m 19 #[.val (.int x0), .val (.int x1), .val (.int x2), .val (.int x3), .val (.int x4), .val (.int x5), .val (.int (2 : Int32)), .unset, .unset, .unset, .unset, .unset, .unset, .unset] [(.int ((65 : Int32) - (2 : Int32))), (.int (x1 &&& (2147483647 : Int32))), (.int (2 : Int32))]))
    rw [show ((65 : Int32) - (2 : Int32)) = (63 : Int32) from by decide]
    show Goes p e below _ (s₁.setTop (mkF m 19 #[.val (.int x0), .val (.int x1), .val (.int x2), .val (.int x3), .val (.int x4), .val (.int x5), .val (.int (2 : Int32)), .unset, .unset, .unset, .unset, .unset, .unset, .unset] [(.int (63 : Int32)), (.int (x1 &&& (2147483647 : Int32))), (.int (2 : Int32))]))
    refine Goes.via (fun _ kk_ => iremM X0 hx rfl (hb hby at_19) rfl (by decide) kk_) ?_
    show Goes p e below _ (s₁.setTop (mkF m 20 #[.val (.int x0), .val (.int x1), .val (.int x2), .val (.int x3), .val (.int x4), .val (.int x5), .val (.int (2 : Int32)), .unset, .unset, .unset, .unset, .unset, .unset, .unset] [(.int ((x1 &&& (2147483647 : Int32)) % (63 : Int32))), (.int (2 : Int32))]))
    refine Goes.via (fun _ kk_ => XS.iadd X0.here hx rfl (hb hby at_20) rfl kk_) ?_
    show Goes p e below _ (s₁.setTop (mkF m 21 #[.val (.int x0), .val (.int x1), .val (.int x2), .val (.int x3), .val (.int x4), .val (.int x5), .val (.int (2 : Int32)), .unset, .unset, .unset, .unset, .unset, .unset, .unset] [(.int ((2 : Int32) + ((x1 &&& (2147483647 : Int32)) % (63 : Int32))))]))
    refine Goes.via (fun _ kk_ => XS.istore X0.here hx rfl (hb hby at_21) rfl (l' := #[.val (.int x0), .val (.int x1), .val (.int x2), .val (.int x3), .val (.int x4), .val (.int x5), .val (.int (2 : Int32)), .val (.int ((2 : Int32) + ((x1 &&& (2147483647 : Int32)) % (63 : Int32)))), .unset, .unset, .unset, .unset, .unset, .unset]) rfl kk_) ?_
    show Goes p e below _ (s₁.setTop (mkF m 23 #[.val (.int x0), .val (.int x1), .val (.int x2), .val (.int x3), .val (.int x4), .val (.int x5), .val (.int (2 : Int32)), .val (.int ((2 : Int32) + ((x1 &&& (2147483647 : Int32)) % (63 : Int32)))), .unset, .unset, .unset, .unset, .unset, .unset] []))
    generalize hv_v7_29 : ((2 : Int32) + ((x1 &&& (2147483647 : Int32)) % (63 : Int32))) = v7_29
    show Goes p e below _ (s₁.setTop (mkF m 23 #[.val (.int x0), .val (.int x1), .val (.int x2), .val (.int x3), .val (.int x4), .val (.int x5), .val (.int (2 : Int32)), .val (.int v7_29), .unset, .unset, .unset, .unset, .unset, .unset] []))
    obtain ⟨nm, hnm, hnm1, hnm2⟩ := own_users (k := 2) (c := (2 : Int32)) (by decide) (by decide) (by decide) hv_v7_29
    refine Goes.via (fun _ kk_ => XS.iload X0.here hx rfl (hb hby at_23) rfl  kk_) ?_
    show Goes p e below _ (s₁.setTop (mkF m 25 #[.val (.int x0), .val (.int x1), .val (.int x2), .val (.int x3), .val (.int x4), .val (.int x5), .val (.int (2 : Int32)), .val (.int v7_29), .unset, .unset, .unset, .unset, .unset, .unset] [(.int v7_29)]))
    refine Goes.via (fun _ kk_ => XS.istore X0.here hx rfl (hb hby at_25) rfl (l' := #[.val (.int x0), .val (.int x1), .val (.int x2), .val (.int x3), .val (.int x4), .val (.int x5), .val (.int (2 : Int32)), .val (.int v7_29), .val (.int v7_29), .unset, .unset, .unset, .unset, .unset]) rfl kk_) ?_
    show Goes p e below _ (s₁.setTop (mkF m 27 #[.val (.int x0), .val (.int x1), .val (.int x2), .val (.int x3), .val (.int x4), .val (.int x5), .val (.int (2 : Int32)), .val (.int v7_29), .val (.int v7_29), .unset, .unset, .unset, .unset, .unset] []))
    refine Goes.via (fun _ kk_ => XS.lconst X0.here hx rfl (hb hby at_27) kk_) ?_
    show Goes p e below _ (s₁.setTop (mkF m 28 #[.val (.int x0), .val (.int x1), .val (.int x2), .val (.int x3), .val (.int x4), .val (.int x5), .val (.int (2 : Int32)), .val (.int v7_29), .val (.int v7_29), .unset, .unset, .unset, .unset, .unset] [(.long (0 : Int64))]))
    refine Goes.via (fun _ kk_ => XS.lstore X0.here hx rfl (hb hby at_28) rfl (l' := #[.val (.int x0), .val (.int x1), .val (.int x2), .val (.int x3), .val (.int x4), .val (.int x5), .val (.int (2 : Int32)), .val (.int v7_29), .val (.int v7_29), .val (.long (0 : Int64)), .second, .unset, .unset, .unset]) rfl kk_) ?_
    show Goes p e below _ (s₁.setTop (mkF m 30 #[.val (.int x0), .val (.int x1), .val (.int x2), .val (.int x3), .val (.int x4), .val (.int x5), .val (.int (2 : Int32)), .val (.int v7_29), .val (.int v7_29), .val (.long (0 : Int64)), .second, .unset, .unset, .unset] []))
    refine Goes.via (fun _ kk_ => XS.lconst X0.here hx rfl (hb hby at_30) kk_) ?_
    show Goes p e below _ (s₁.setTop (mkF m 31 #[.val (.int x0), .val (.int x1), .val (.int x2), .val (.int x3), .val (.int x4), .val (.int x5), .val (.int (2 : Int32)), .val (.int v7_29), .val (.int v7_29), .val (.long (0 : Int64)), .second, .unset, .unset, .unset] [(.long (0 : Int64))]))
    refine Goes.via (fun _ kk_ => XS.lstore X0.here hx rfl (hb hby at_31) rfl (l' := #[.val (.int x0), .val (.int x1), .val (.int x2), .val (.int x3), .val (.int x4), .val (.int x5), .val (.int (2 : Int32)), .val (.int v7_29), .val (.int v7_29), .val (.long (0 : Int64)), .second, .val (.long (0 : Int64)), .second, .unset]) rfl kk_) ?_
    show Goes p e below _ (s₁.setTop (mkF m 33 #[.val (.int x0), .val (.int x1), .val (.int x2), .val (.int x3), .val (.int x4), .val (.int x5), .val (.int (2 : Int32)), .val (.int v7_29), .val (.int v7_29), .val (.long (0 : Int64)), .second, .val (.long (0 : Int64)), .second, .unset] []))
    refine Goes.via (fun _ kk_ => XS.iload X0.here hx rfl (hb hby at_33) rfl  kk_) ?_
    show Goes p e below _ (s₁.setTop (mkF m 35 #[.val (.int x0), .val (.int x1), .val (.int x2), .val (.int x3), .val (.int x4), .val (.int x5), .val (.int (2 : Int32)), .val (.int v7_29), .val (.int v7_29), .val (.long (0 : Int64)), .second, .val (.long (0 : Int64)), .second, .unset] [(.int (2 : Int32))]))
    refine Goes.via (fun _ kk_ => XS.iconst X0.here hx rfl (hb hby at_35) kk_) ?_
    show Goes p e below _ (s₁.setTop (mkF m 36 #[.val (.int x0), .val (.int x1), .val (.int x2), .val (.int x3), .val (.int x4), .val (.int x5), .val (.int (2 : Int32)), .val (.int v7_29), .val (.int v7_29), .val (.long (0 : Int64)), .second, .val (.long (0 : Int64)), .second, .unset] [(.int (4 : Int32)), (.int (2 : Int32))]))
    have hc36_30 : (2 : Int32) < (4 : Int32) := (by decide)
    refine Goes.via (fun _ kk_ => XS.icmpYes X0.here hx rfl (pc0 := 36) (pc' := 76) rfl (hb hby at_36) rfl (tlt hc36_30).1 (by decide) (by decide) kk_) ?_
    show Goes p e below _ (s₁.setTop (mkF m 76 #[.val (.int x0), .val (.int x1), .val (.int x2), .val (.int x3), .val (.int x4), .val (.int x5), .val (.int (2 : Int32)), .val (.int v7_29), .val (.int v7_29), .val (.long (0 : Int64)), .second, .val (.long (0 : Int64)), .second, .unset] []))
    refine Goes.via (fun _ kk_ => XS.iload X0.here hx rfl (hb hby at_76) rfl  kk_) ?_
    show Goes p e below _ (s₁.setTop (mkF m 78 #[.val (.int x0), .val (.int x1), .val (.int x2), .val (.int x3), .val (.int x4), .val (.int x5), .val (.int (2 : Int32)), .val (.int v7_29), .val (.int v7_29), .val (.long (0 : Int64)), .second, .val (.long (0 : Int64)), .second, .unset] [(.int (2 : Int32))]))
    refine Goes.via (fun _ kk_ => XS.iconst X0.here hx rfl (hb hby at_78) kk_) ?_
    show Goes p e below _ (s₁.setTop (mkF m 79 #[.val (.int x0), .val (.int x1), .val (.int x2), .val (.int x3), .val (.int x4), .val (.int x5), .val (.int (2 : Int32)), .val (.int v7_29), .val (.int v7_29), .val (.long (0 : Int64)), .second, .val (.long (0 : Int64)), .second, .unset] [(.int (3 : Int32)), (.int (2 : Int32))]))
    have hc79_31 : (2 : Int32) < (3 : Int32) := (by decide)
    refine Goes.via (fun _ kk_ => XS.icmpYes X0.here hx rfl (pc0 := 79) (pc' := 119) rfl (hb hby at_79) rfl (tlt hc79_31).1 (by decide) (by decide) kk_) ?_
    show Goes p e below _ (s₁.setTop (mkF m 119 #[.val (.int x0), .val (.int x1), .val (.int x2), .val (.int x3), .val (.int x4), .val (.int x5), .val (.int (2 : Int32)), .val (.int v7_29), .val (.int v7_29), .val (.long (0 : Int64)), .second, .val (.long (0 : Int64)), .second, .unset] []))
    refine Goes.via (fun _ kk_ => XS.iload X0.here hx rfl (hb hby at_119) rfl  kk_) ?_
    show Goes p e below _ (s₁.setTop (mkF m 121 #[.val (.int x0), .val (.int x1), .val (.int x2), .val (.int x3), .val (.int x4), .val (.int x5), .val (.int (2 : Int32)), .val (.int v7_29), .val (.int v7_29), .val (.long (0 : Int64)), .second, .val (.long (0 : Int64)), .second, .unset] [(.int (2 : Int32))]))
    refine Goes.via (fun _ kk_ => XS.iconst X0.here hx rfl (hb hby at_121) kk_) ?_
    show Goes p e below _ (s₁.setTop (mkF m 122 #[.val (.int x0), .val (.int x1), .val (.int x2), .val (.int x3), .val (.int x4), .val (.int x5), .val (.int (2 : Int32)), .val (.int v7_29), .val (.int v7_29), .val (.long (0 : Int64)), .second, .val (.long (0 : Int64)), .second, .unset] [(.int (2 : Int32)), (.int (2 : Int32))]))
    have hc122_32 : ¬ ((2 : Int32) < (2 : Int32)) := (by decide)
    refine Goes.via (fun _ kk_ => XS.icmpNo X0.here hx rfl (hb hby at_122) rfl (flt hc122_32).1 kk_) ?_
    show Goes p e below _ (s₁.setTop (mkF m 125 #[.val (.int x0), .val (.int x1), .val (.int x2), .val (.int x3), .val (.int x4), .val (.int x5), .val (.int (2 : Int32)), .val (.int v7_29), .val (.int v7_29), .val (.long (0 : Int64)), .second, .val (.long (0 : Int64)), .second, .unset] []))
    refine Goes.via (fun _ kk_ => XS.iconst X0.here hx rfl (hb hby at_125) kk_) ?_
    show Goes p e below _ (s₁.setTop (mkF m 126 #[.val (.int x0), .val (.int x1), .val (.int x2), .val (.int x3), .val (.int x4), .val (.int x5), .val (.int (2 : Int32)), .val (.int v7_29), .val (.int v7_29), .val (.long (0 : Int64)), .second, .val (.long (0 : Int64)), .second, .unset] [(.int (1 : Int32))]))
    refine Goes.via (fun _ kk_ => XS.iloadN X0.here hx rfl (hb hby at_126) rfl  kk_) ?_
    show Goes p e below _ (s₁.setTop (mkF m 127 #[.val (.int x0), .val (.int x1), .val (.int x2), .val (.int x3), .val (.int x4), .val (.int x5), .val (.int (2 : Int32)), .val (.int v7_29), .val (.int v7_29), .val (.long (0 : Int64)), .second, .val (.long (0 : Int64)), .second, .unset] [(.int x3), (.int (1 : Int32))]))
    refine Goes.via (X0.ldcInt hx hown (mvT hZ (hw _ (List.mem_of_getElem? (i := 0) rfl))) (g := (mkF m 127 #[.val (.int x0), .val (.int x1), .val (.int x2), .val (.int x3), .val (.int x4), .val (.int x5), .val (.int (2 : Int32)), .val (.int v7_29), .val (.int v7_29), .val (.long (0 : Int64)), .second, .val (.long (0 : Int64)), .second, .unset] [(.int x3), (.int (1 : Int32))])) rfl (hb hby at_127)) ?_
    show Goes p e below _ (s₁.setTop (mkF m 129 #[.val (.int x0), .val (.int x1), .val (.int x2), .val (.int x3), .val (.int x4), .val (.int x5), .val (.int (2 : Int32)), .val (.int v7_29), .val (.int v7_29), .val (.long (0 : Int64)), .second, .val (.long (0 : Int64)), .second, .unset] [(.int (2147483647 : Int32)), (.int x3), (.int (1 : Int32))]))
    refine Goes.via (fun _ kk_ => XS.iand X0.here hx rfl (hb hby at_129) rfl kk_) ?_
    show Goes p e below _ (s₁.setTop (mkF m 130 #[.val (.int x0), .val (.int x1), .val (.int x2), .val (.int x3), .val (.int x4), .val (.int x5), .val (.int (2 : Int32)), .val (.int v7_29), .val (.int v7_29), .val (.long (0 : Int64)), .second, .val (.long (0 : Int64)), .second, .unset] [(.int (x3 &&& (2147483647 : Int32))), (.int (1 : Int32))]))
    refine Goes.via (fun _ kk_ => XS.iload X0.here hx rfl (hb hby at_130) rfl  kk_) ?_
    show Goes p e below _ (s₁.setTop (mkF m 132 #[.val (.int x0), .val (.int x1), .val (.int x2), .val (.int x3), .val (.int x4), .val (.int x5), .val (.int (2 : Int32)), .val (.int v7_29), .val (.int v7_29), .val (.long (0 : Int64)), .second, .val (.long (0 : Int64)), .second, .unset] [(.int v7_29), (.int (x3 &&& (2147483647 : Int32))), (.int (1 : Int32))]))
    refine Goes.via (fun _ kk_ => XS.iconst X0.here hx rfl (hb hby at_132) kk_) ?_
    show Goes p e below _ (s₁.setTop (mkF m 133 #[.val (.int x0), .val (.int x1), .val (.int x2), .val (.int x3), .val (.int x4), .val (.int x5), .val (.int (2 : Int32)), .val (.int v7_29), .val (.int v7_29), .val (.long (0 : Int64)), .second, .val (.long (0 : Int64)), .second, .unset] [(.int (1 : Int32)), (.int v7_29), (.int (x3 &&& (2147483647 : Int32))), (.int (1 : Int32))]))
    refine Goes.via (fun _ kk_ => XS.isub X0.here hx rfl (hb hby at_133) rfl kk_) ?_
    show Goes p e below _ (s₁.setTop (mkF m 134 #[.val (.int x0), .val (.int x1), .val (.int x2), .val (.int x3), .val (.int x4), .val (.int x5), .val (.int (2 : Int32)), .val (.int v7_29), .val (.int v7_29), .val (.long (0 : Int64)), .second, .val (.long (0 : Int64)), .second, .unset] [(.int (v7_29 - (1 : Int32))), (.int (x3 &&& (2147483647 : Int32))), (.int (1 : Int32))]))
    refine Goes.via (fun _ kk_ => iremM X0 hx rfl (hb hby at_134) rfl (own_nz0 (own_dk (k := 1) hnm (by decide) (by omega)) (by omega)) kk_) ?_
    show Goes p e below _ (s₁.setTop (mkF m 135 #[.val (.int x0), .val (.int x1), .val (.int x2), .val (.int x3), .val (.int x4), .val (.int x5), .val (.int (2 : Int32)), .val (.int v7_29), .val (.int v7_29), .val (.long (0 : Int64)), .second, .val (.long (0 : Int64)), .second, .unset] [(.int ((x3 &&& (2147483647 : Int32)) % (v7_29 - (1 : Int32)))), (.int (1 : Int32))]))
    refine Goes.via (fun _ kk_ => XS.iadd X0.here hx rfl (hb hby at_135) rfl kk_) ?_
    show Goes p e below _ (s₁.setTop (mkF m 136 #[.val (.int x0), .val (.int x1), .val (.int x2), .val (.int x3), .val (.int x4), .val (.int x5), .val (.int (2 : Int32)), .val (.int v7_29), .val (.int v7_29), .val (.long (0 : Int64)), .second, .val (.long (0 : Int64)), .second, .unset] [(.int ((1 : Int32) + ((x3 &&& (2147483647 : Int32)) % (v7_29 - (1 : Int32)))))]))
    refine Goes.via (fun _ kk_ => XS.istore X0.here hx rfl (hb hby at_136) rfl (l' := #[.val (.int x0), .val (.int x1), .val (.int x2), .val (.int x3), .val (.int x4), .val (.int x5), .val (.int (2 : Int32)), .val (.int v7_29), .val (.int v7_29), .val (.long (0 : Int64)), .second, .val (.long (0 : Int64)), .second, .val (.int ((1 : Int32) + ((x3 &&& (2147483647 : Int32)) % (v7_29 - (1 : Int32)))))]) rfl kk_) ?_
    show Goes p e below _ (s₁.setTop (mkF m 138 #[.val (.int x0), .val (.int x1), .val (.int x2), .val (.int x3), .val (.int x4), .val (.int x5), .val (.int (2 : Int32)), .val (.int v7_29), .val (.int v7_29), .val (.long (0 : Int64)), .second, .val (.long (0 : Int64)), .second, .val (.int ((1 : Int32) + ((x3 &&& (2147483647 : Int32)) % (v7_29 - (1 : Int32)))))] []))
    generalize hv_v13_33 : ((1 : Int32) + ((x3 &&& (2147483647 : Int32)) % (v7_29 - (1 : Int32)))) = v13_33
    show Goes p e below _ (s₁.setTop (mkF m 138 #[.val (.int x0), .val (.int x1), .val (.int x2), .val (.int x3), .val (.int x4), .val (.int x5), .val (.int (2 : Int32)), .val (.int v7_29), .val (.int v7_29), .val (.long (0 : Int64)), .second, .val (.long (0 : Int64)), .second, .val (.int v13_33)] []))
    obtain ⟨nu1, hnu1, hnu1a, hnu1b⟩ := own_pick (k := 1) (c := (1 : Int32)) hnm (by omega) (by decide) (by omega) hv_v13_33
    refine Goes.via (fun _ kk_ => XS.lload X0.here hx rfl (hb hby at_138) rfl  kk_) ?_
    show Goes p e below _ (s₁.setTop (mkF m 140 #[.val (.int x0), .val (.int x1), .val (.int x2), .val (.int x3), .val (.int x4), .val (.int x5), .val (.int (2 : Int32)), .val (.int v7_29), .val (.int v7_29), .val (.long (0 : Int64)), .second, .val (.long (0 : Int64)), .second, .val (.int v13_33)] [(.long (0 : Int64))]))
    refine Goes.via (fun _ kk_ => XS.lconst X0.here hx rfl (hb hby at_140) kk_) ?_
    show Goes p e below _ (s₁.setTop (mkF m 141 #[.val (.int x0), .val (.int x1), .val (.int x2), .val (.int x3), .val (.int x4), .val (.int x5), .val (.int (2 : Int32)), .val (.int v7_29), .val (.int v7_29), .val (.long (0 : Int64)), .second, .val (.long (0 : Int64)), .second, .val (.int v13_33)] [(.long (1 : Int64)), (.long (0 : Int64))]))
    refine Goes.via (fun _ kk_ => XS.iload X0.here hx rfl (hb hby at_141) rfl  kk_) ?_
    show Goes p e below _ (s₁.setTop (mkF m 143 #[.val (.int x0), .val (.int x1), .val (.int x2), .val (.int x3), .val (.int x4), .val (.int x5), .val (.int (2 : Int32)), .val (.int v7_29), .val (.int v7_29), .val (.long (0 : Int64)), .second, .val (.long (0 : Int64)), .second, .val (.int v13_33)] [(.int v13_33), (.long (1 : Int64)), (.long (0 : Int64))]))
    refine Goes.via (fun _ kk_ => XS.lshl X0.here hx rfl (hb hby at_143) rfl kk_) ?_
    show Goes p e below _ (s₁.setTop (mkF m 144 #[.val (.int x0), .val (.int x1), .val (.int x2), .val (.int x3), .val (.int x4), .val (.int x5), .val (.int (2 : Int32)), .val (.int v7_29), .val (.int v7_29), .val (.long (0 : Int64)), .second, .val (.long (0 : Int64)), .second, .val (.int v13_33)] [(.long ((1 : Int64) <<< (v13_33 &&& 0x3f).toInt64)), (.long (0 : Int64))]))
    refine Goes.via (fun _ kk_ => XS.lor X0.here hx rfl (hb hby at_144) rfl kk_) ?_
    show Goes p e below _ (s₁.setTop (mkF m 145 #[.val (.int x0), .val (.int x1), .val (.int x2), .val (.int x3), .val (.int x4), .val (.int x5), .val (.int (2 : Int32)), .val (.int v7_29), .val (.int v7_29), .val (.long (0 : Int64)), .second, .val (.long (0 : Int64)), .second, .val (.int v13_33)] [(.long ((0 : Int64) ||| ((1 : Int64) <<< (v13_33 &&& 0x3f).toInt64)))]))
    refine Goes.via (fun _ kk_ => XS.lstore X0.here hx rfl (hb hby at_145) rfl (l' := #[.val (.int x0), .val (.int x1), .val (.int x2), .val (.int x3), .val (.int x4), .val (.int x5), .val (.int (2 : Int32)), .val (.int v7_29), .val (.int v7_29), .val (.long ((0 : Int64) ||| ((1 : Int64) <<< (v13_33 &&& 0x3f).toInt64))), .second, .val (.long (0 : Int64)), .second, .val (.int v13_33)]) rfl kk_) ?_
    show Goes p e below _ (s₁.setTop (mkF m 147 #[.val (.int x0), .val (.int x1), .val (.int x2), .val (.int x3), .val (.int x4), .val (.int x5), .val (.int (2 : Int32)), .val (.int v7_29), .val (.int v7_29), .val (.long ((0 : Int64) ||| ((1 : Int64) <<< (v13_33 &&& 0x3f).toInt64))), .second, .val (.long (0 : Int64)), .second, .val (.int v13_33)] []))
    refine Goes.via (fun _ kk_ => XS.lload X0.here hx rfl (hb hby at_147) rfl  kk_) ?_
    show Goes p e below _ (s₁.setTop (mkF m 149 #[.val (.int x0), .val (.int x1), .val (.int x2), .val (.int x3), .val (.int x4), .val (.int x5), .val (.int (2 : Int32)), .val (.int v7_29), .val (.int v7_29), .val (.long ((0 : Int64) ||| ((1 : Int64) <<< (v13_33 &&& 0x3f).toInt64))), .second, .val (.long (0 : Int64)), .second, .val (.int v13_33)] [(.long (0 : Int64))]))
    refine Goes.via (fun _ kk_ => XS.iload X0.here hx rfl (hb hby at_149) rfl  kk_) ?_
    show Goes p e below _ (s₁.setTop (mkF m 151 #[.val (.int x0), .val (.int x1), .val (.int x2), .val (.int x3), .val (.int x4), .val (.int x5), .val (.int (2 : Int32)), .val (.int v7_29), .val (.int v7_29), .val (.long ((0 : Int64) ||| ((1 : Int64) <<< (v13_33 &&& 0x3f).toInt64))), .second, .val (.long (0 : Int64)), .second, .val (.int v13_33)] [(.int v13_33), (.long (0 : Int64))]))
    obtain ⟨_, _, ⟨T34, L34, k34, n34⟩, -, X34, ⟨Lc34, hQ34, l34, y34, z34⟩, st34⟩ := Jvm.LawKit.callS X0 hx (y := (⟨"com/example/checks_on_duty/checksonduty/engine/RankedSetsSetPinLaw", "c2", "(I)J"⟩ : MethodName)) hown (mvT hZ (hw _ (List.mem_of_getElem? (i := 37) rfl))) (mvT hZ (hw _ (List.mem_of_getElem? (i := 38) rfl))) (mvT hZ (hw _ (List.mem_of_getElem? (i := 28) rfl))) (mvT hZ (hw _ (List.mem_of_getElem? (i := 39) rfl))) (by decide) (backOf (W := 2) (rm7 l Z a0 hw [] v13_33 h0 n0 (Nat.le_trans Z0 (Nat.le_refl _)) ) hZ (hw _ (List.mem_of_getElem? (i := 39) rfl)) (hw _ (List.mem_of_getElem? (i := 28) rfl)) (by decide) (by decide)) (g := (mkF m 151 #[.val (.int x0), .val (.int x1), .val (.int x2), .val (.int x3), .val (.int x4), .val (.int x5), .val (.int (2 : Int32)), .val (.int v7_29), .val (.int v7_29), .val (.long ((0 : Int64) ||| ((1 : Int64) <<< (v13_33 &&& 0x3f).toInt64))), .second, .val (.long (0 : Int64)), .second, .val (.int v13_33)] [(.int v13_33), (.long (0 : Int64))])) rfl (by rw [hml]; rfl) (argsL := [(.int v13_33)]) (rest := [(.long (0 : Int64))]) (lenOf pd_3 rfl) rfl (by show 2 * 0 + _ ≤ _; exact Nat.le_of_eq rfl) (hb hby at_151) (fun _ _ => ⟨rfl, e0, (by first | decide | omega | (dsimp only; omega) : 0 + 0 ≤ _), (by first | decide | omega | (dsimp only; omega) : 0 + 0 ≤ _)⟩)
    dsimp only [Pt.U, Pt.locs, Pt.cells, Pt.slots] at X34 l34 y34 z34 st34 hQ34
    subst l34 y34 z34
    obtain ⟨rfl, N34q, e34⟩ := hQ34
    have N34 := Fr.app N0 N34q
    refine Goes.via st34 ?_
    have e34' : T34.heap = h0 := e34
    show Goes p e below _ (T34.setTop (mkF m 154 #[.val (.int x0), .val (.int x1), .val (.int x2), .val (.int x3), .val (.int x4), .val (.int x5), .val (.int (2 : Int32)), .val (.int v7_29), .val (.int v7_29), .val (.long ((0 : Int64) ||| ((1 : Int64) <<< (v13_33 &&& 0x3f).toInt64))), .second, .val (.long (0 : Int64)), .second, .val (.int v13_33)] [(.long (own_c2 v13_33)), (.long (0 : Int64))]))
    refine Goes.via (fun _ kk_ => XS.ladd X34.here hx rfl (hb hby at_154) rfl kk_) ?_
    show Goes p e below _ (T34.setTop (mkF m 155 #[.val (.int x0), .val (.int x1), .val (.int x2), .val (.int x3), .val (.int x4), .val (.int x5), .val (.int (2 : Int32)), .val (.int v7_29), .val (.int v7_29), .val (.long ((0 : Int64) ||| ((1 : Int64) <<< (v13_33 &&& 0x3f).toInt64))), .second, .val (.long (0 : Int64)), .second, .val (.int v13_33)] [(.long ((0 : Int64) + (own_c2 v13_33)))]))
    refine Goes.via (fun _ kk_ => XS.lstore X34.here hx rfl (hb hby at_155) rfl (l' := #[.val (.int x0), .val (.int x1), .val (.int x2), .val (.int x3), .val (.int x4), .val (.int x5), .val (.int (2 : Int32)), .val (.int v7_29), .val (.int v7_29), .val (.long ((0 : Int64) ||| ((1 : Int64) <<< (v13_33 &&& 0x3f).toInt64))), .second, .val (.long ((0 : Int64) + (own_c2 v13_33))), .second, .val (.int v13_33)]) rfl kk_) ?_
    show Goes p e below _ (T34.setTop (mkF m 157 #[.val (.int x0), .val (.int x1), .val (.int x2), .val (.int x3), .val (.int x4), .val (.int x5), .val (.int (2 : Int32)), .val (.int v7_29), .val (.int v7_29), .val (.long ((0 : Int64) ||| ((1 : Int64) <<< (v13_33 &&& 0x3f).toInt64))), .second, .val (.long ((0 : Int64) + (own_c2 v13_33))), .second, .val (.int v13_33)] []))
    refine Goes.via (fun _ kk_ => XS.iload X34.here hx rfl (hb hby at_157) rfl  kk_) ?_
    show Goes p e below _ (T34.setTop (mkF m 159 #[.val (.int x0), .val (.int x1), .val (.int x2), .val (.int x3), .val (.int x4), .val (.int x5), .val (.int (2 : Int32)), .val (.int v7_29), .val (.int v7_29), .val (.long ((0 : Int64) ||| ((1 : Int64) <<< (v13_33 &&& 0x3f).toInt64))), .second, .val (.long ((0 : Int64) + (own_c2 v13_33))), .second, .val (.int v13_33)] [(.int v13_33)]))
    refine Goes.via (fun _ kk_ => XS.istore X34.here hx rfl (hb hby at_159) rfl (l' := #[.val (.int x0), .val (.int x1), .val (.int x2), .val (.int x3), .val (.int x4), .val (.int x5), .val (.int (2 : Int32)), .val (.int v7_29), .val (.int v13_33), .val (.long ((0 : Int64) ||| ((1 : Int64) <<< (v13_33 &&& 0x3f).toInt64))), .second, .val (.long ((0 : Int64) + (own_c2 v13_33))), .second, .val (.int v13_33)]) rfl kk_) ?_
    show Goes p e below _ (T34.setTop (mkF m 161 #[.val (.int x0), .val (.int x1), .val (.int x2), .val (.int x3), .val (.int x4), .val (.int x5), .val (.int (2 : Int32)), .val (.int v7_29), .val (.int v13_33), .val (.long ((0 : Int64) ||| ((1 : Int64) <<< (v13_33 &&& 0x3f).toInt64))), .second, .val (.long ((0 : Int64) + (own_c2 v13_33))), .second, .val (.int v13_33)] []))
    refine Goes.via (fun _ kk_ => XS.iload X34.here hx rfl (hb hby at_161) rfl  kk_) ?_
    show Goes p e below _ (T34.setTop (mkF m 163 #[.val (.int x0), .val (.int x1), .val (.int x2), .val (.int x3), .val (.int x4), .val (.int x5), .val (.int (2 : Int32)), .val (.int v7_29), .val (.int v13_33), .val (.long ((0 : Int64) ||| ((1 : Int64) <<< (v13_33 &&& 0x3f).toInt64))), .second, .val (.long ((0 : Int64) + (own_c2 v13_33))), .second, .val (.int v13_33)] [(.int (2 : Int32))]))
    refine Goes.via (fun _ kk_ => XS.iconst X34.here hx rfl (hb hby at_163) kk_) ?_
    show Goes p e below _ (T34.setTop (mkF m 164 #[.val (.int x0), .val (.int x1), .val (.int x2), .val (.int x3), .val (.int x4), .val (.int x5), .val (.int (2 : Int32)), .val (.int v7_29), .val (.int v13_33), .val (.long ((0 : Int64) ||| ((1 : Int64) <<< (v13_33 &&& 0x3f).toInt64))), .second, .val (.long ((0 : Int64) + (own_c2 v13_33))), .second, .val (.int v13_33)] [(.int (1 : Int32)), (.int (2 : Int32))]))
    have hc164_35 : ¬ ((2 : Int32) < (1 : Int32)) := (by decide)
    refine Goes.via (fun _ kk_ => XS.icmpNo X34.here hx rfl (hb hby at_164) rfl (flt hc164_35).1 kk_) ?_
    show Goes p e below _ (T34.setTop (mkF m 167 #[.val (.int x0), .val (.int x1), .val (.int x2), .val (.int x3), .val (.int x4), .val (.int x5), .val (.int (2 : Int32)), .val (.int v7_29), .val (.int v13_33), .val (.long ((0 : Int64) ||| ((1 : Int64) <<< (v13_33 &&& 0x3f).toInt64))), .second, .val (.long ((0 : Int64) + (own_c2 v13_33))), .second, .val (.int v13_33)] []))
    refine Goes.via (fun _ kk_ => XS.iloadN X34.here hx rfl (hb hby at_167) rfl  kk_) ?_
    show Goes p e below _ (T34.setTop (mkF m 168 #[.val (.int x0), .val (.int x1), .val (.int x2), .val (.int x3), .val (.int x4), .val (.int x5), .val (.int (2 : Int32)), .val (.int v7_29), .val (.int v13_33), .val (.long ((0 : Int64) ||| ((1 : Int64) <<< (v13_33 &&& 0x3f).toInt64))), .second, .val (.long ((0 : Int64) + (own_c2 v13_33))), .second, .val (.int v13_33)] [(.int x2)]))
    refine Goes.via (X34.ldcInt hx hown (mvT hZ (hw _ (List.mem_of_getElem? (i := 0) rfl))) (g := (mkF m 168 #[.val (.int x0), .val (.int x1), .val (.int x2), .val (.int x3), .val (.int x4), .val (.int x5), .val (.int (2 : Int32)), .val (.int v7_29), .val (.int v13_33), .val (.long ((0 : Int64) ||| ((1 : Int64) <<< (v13_33 &&& 0x3f).toInt64))), .second, .val (.long ((0 : Int64) + (own_c2 v13_33))), .second, .val (.int v13_33)] [(.int x2)])) rfl (hb hby at_168)) ?_
    show Goes p e below _ (T34.setTop (mkF m 170 #[.val (.int x0), .val (.int x1), .val (.int x2), .val (.int x3), .val (.int x4), .val (.int x5), .val (.int (2 : Int32)), .val (.int v7_29), .val (.int v13_33), .val (.long ((0 : Int64) ||| ((1 : Int64) <<< (v13_33 &&& 0x3f).toInt64))), .second, .val (.long ((0 : Int64) + (own_c2 v13_33))), .second, .val (.int v13_33)] [(.int (2147483647 : Int32)), (.int x2)]))
    refine Goes.via (fun _ kk_ => XS.iand X34.here hx rfl (hb hby at_170) rfl kk_) ?_
    show Goes p e below _ (T34.setTop (mkF m 171 #[.val (.int x0), .val (.int x1), .val (.int x2), .val (.int x3), .val (.int x4), .val (.int x5), .val (.int (2 : Int32)), .val (.int v7_29), .val (.int v13_33), .val (.long ((0 : Int64) ||| ((1 : Int64) <<< (v13_33 &&& 0x3f).toInt64))), .second, .val (.long ((0 : Int64) + (own_c2 v13_33))), .second, .val (.int v13_33)] [(.int (x2 &&& (2147483647 : Int32)))]))
    refine Goes.via (fun _ kk_ => XS.iload X34.here hx rfl (hb hby at_171) rfl  kk_) ?_
    show Goes p e below _ (T34.setTop (mkF m 173 #[.val (.int x0), .val (.int x1), .val (.int x2), .val (.int x3), .val (.int x4), .val (.int x5), .val (.int (2 : Int32)), .val (.int v7_29), .val (.int v13_33), .val (.long ((0 : Int64) ||| ((1 : Int64) <<< (v13_33 &&& 0x3f).toInt64))), .second, .val (.long ((0 : Int64) + (own_c2 v13_33))), .second, .val (.int v13_33)] [(.int v13_33), (.int (x2 &&& (2147483647 : Int32)))]))
    refine Goes.via (fun _ kk_ => iremM X34 hx rfl (hb hby at_173) rfl (own_nz0 hnu1 (by omega)) kk_) ?_
    show Goes p e below _ (T34.setTop (mkF m 174 #[.val (.int x0), .val (.int x1), .val (.int x2), .val (.int x3), .val (.int x4), .val (.int x5), .val (.int (2 : Int32)), .val (.int v7_29), .val (.int v13_33), .val (.long ((0 : Int64) ||| ((1 : Int64) <<< (v13_33 &&& 0x3f).toInt64))), .second, .val (.long ((0 : Int64) + (own_c2 v13_33))), .second, .val (.int v13_33)] [(.int ((x2 &&& (2147483647 : Int32)) % v13_33))]))
    refine Goes.via (fun _ kk_ => XS.istore X34.here hx rfl (hb hby at_174) rfl (l' := #[.val (.int x0), .val (.int x1), .val (.int x2), .val (.int x3), .val (.int x4), .val (.int x5), .val (.int (2 : Int32)), .val (.int v7_29), .val (.int v13_33), .val (.long ((0 : Int64) ||| ((1 : Int64) <<< (v13_33 &&& 0x3f).toInt64))), .second, .val (.long ((0 : Int64) + (own_c2 v13_33))), .second, .val (.int ((x2 &&& (2147483647 : Int32)) % v13_33))]) rfl kk_) ?_
    show Goes p e below _ (T34.setTop (mkF m 176 #[.val (.int x0), .val (.int x1), .val (.int x2), .val (.int x3), .val (.int x4), .val (.int x5), .val (.int (2 : Int32)), .val (.int v7_29), .val (.int v13_33), .val (.long ((0 : Int64) ||| ((1 : Int64) <<< (v13_33 &&& 0x3f).toInt64))), .second, .val (.long ((0 : Int64) + (own_c2 v13_33))), .second, .val (.int ((x2 &&& (2147483647 : Int32)) % v13_33))] []))
    generalize hv_v13_36 : ((x2 &&& (2147483647 : Int32)) % v13_33) = v13_36
    show Goes p e below _ (T34.setTop (mkF m 176 #[.val (.int x0), .val (.int x1), .val (.int x2), .val (.int x3), .val (.int x4), .val (.int x5), .val (.int (2 : Int32)), .val (.int v7_29), .val (.int v13_33), .val (.long ((0 : Int64) ||| ((1 : Int64) <<< (v13_33 &&& 0x3f).toInt64))), .second, .val (.long ((0 : Int64) + (own_c2 v13_33))), .second, .val (.int v13_36)] []))
    obtain ⟨nu0, hnu0, hnu0b⟩ := own_pick0 hnu1 (by omega) hv_v13_36
    refine Goes.via (fun _ kk_ => XS.lload X34.here hx rfl (hb hby at_176) rfl  kk_) ?_
    show Goes p e below _ (T34.setTop (mkF m 178 #[.val (.int x0), .val (.int x1), .val (.int x2), .val (.int x3), .val (.int x4), .val (.int x5), .val (.int (2 : Int32)), .val (.int v7_29), .val (.int v13_33), .val (.long ((0 : Int64) ||| ((1 : Int64) <<< (v13_33 &&& 0x3f).toInt64))), .second, .val (.long ((0 : Int64) + (own_c2 v13_33))), .second, .val (.int v13_36)] [(.long ((0 : Int64) ||| ((1 : Int64) <<< (v13_33 &&& 0x3f).toInt64)))]))
    refine Goes.via (fun _ kk_ => XS.lconst X34.here hx rfl (hb hby at_178) kk_) ?_
    show Goes p e below _ (T34.setTop (mkF m 179 #[.val (.int x0), .val (.int x1), .val (.int x2), .val (.int x3), .val (.int x4), .val (.int x5), .val (.int (2 : Int32)), .val (.int v7_29), .val (.int v13_33), .val (.long ((0 : Int64) ||| ((1 : Int64) <<< (v13_33 &&& 0x3f).toInt64))), .second, .val (.long ((0 : Int64) + (own_c2 v13_33))), .second, .val (.int v13_36)] [(.long (1 : Int64)), (.long ((0 : Int64) ||| ((1 : Int64) <<< (v13_33 &&& 0x3f).toInt64)))]))
    refine Goes.via (fun _ kk_ => XS.iload X34.here hx rfl (hb hby at_179) rfl  kk_) ?_
    show Goes p e below _ (T34.setTop (mkF m 181 #[.val (.int x0), .val (.int x1), .val (.int x2), .val (.int x3), .val (.int x4), .val (.int x5), .val (.int (2 : Int32)), .val (.int v7_29), .val (.int v13_33), .val (.long ((0 : Int64) ||| ((1 : Int64) <<< (v13_33 &&& 0x3f).toInt64))), .second, .val (.long ((0 : Int64) + (own_c2 v13_33))), .second, .val (.int v13_36)] [(.int v13_36), (.long (1 : Int64)), (.long ((0 : Int64) ||| ((1 : Int64) <<< (v13_33 &&& 0x3f).toInt64)))]))
    refine Goes.via (fun _ kk_ => XS.lshl X34.here hx rfl (hb hby at_181) rfl kk_) ?_
    show Goes p e below _ (T34.setTop (mkF m 182 #[.val (.int x0), .val (.int x1), .val (.int x2), .val (.int x3), .val (.int x4), .val (.int x5), .val (.int (2 : Int32)), .val (.int v7_29), .val (.int v13_33), .val (.long ((0 : Int64) ||| ((1 : Int64) <<< (v13_33 &&& 0x3f).toInt64))), .second, .val (.long ((0 : Int64) + (own_c2 v13_33))), .second, .val (.int v13_36)] [(.long ((1 : Int64) <<< (v13_36 &&& 0x3f).toInt64)), (.long ((0 : Int64) ||| ((1 : Int64) <<< (v13_33 &&& 0x3f).toInt64)))]))
    refine Goes.via (fun _ kk_ => XS.lor X34.here hx rfl (hb hby at_182) rfl kk_) ?_
    show Goes p e below _ (T34.setTop (mkF m 183 #[.val (.int x0), .val (.int x1), .val (.int x2), .val (.int x3), .val (.int x4), .val (.int x5), .val (.int (2 : Int32)), .val (.int v7_29), .val (.int v13_33), .val (.long ((0 : Int64) ||| ((1 : Int64) <<< (v13_33 &&& 0x3f).toInt64))), .second, .val (.long ((0 : Int64) + (own_c2 v13_33))), .second, .val (.int v13_36)] [(.long (((0 : Int64) ||| ((1 : Int64) <<< (v13_33 &&& 0x3f).toInt64)) ||| ((1 : Int64) <<< (v13_36 &&& 0x3f).toInt64)))]))
    refine Goes.via (fun _ kk_ => XS.lstore X34.here hx rfl (hb hby at_183) rfl (l' := #[.val (.int x0), .val (.int x1), .val (.int x2), .val (.int x3), .val (.int x4), .val (.int x5), .val (.int (2 : Int32)), .val (.int v7_29), .val (.int v13_33), .val (.long (((0 : Int64) ||| ((1 : Int64) <<< (v13_33 &&& 0x3f).toInt64)) ||| ((1 : Int64) <<< (v13_36 &&& 0x3f).toInt64))), .second, .val (.long ((0 : Int64) + (own_c2 v13_33))), .second, .val (.int v13_36)]) rfl kk_) ?_
    show Goes p e below _ (T34.setTop (mkF m 185 #[.val (.int x0), .val (.int x1), .val (.int x2), .val (.int x3), .val (.int x4), .val (.int x5), .val (.int (2 : Int32)), .val (.int v7_29), .val (.int v13_33), .val (.long (((0 : Int64) ||| ((1 : Int64) <<< (v13_33 &&& 0x3f).toInt64)) ||| ((1 : Int64) <<< (v13_36 &&& 0x3f).toInt64))), .second, .val (.long ((0 : Int64) + (own_c2 v13_33))), .second, .val (.int v13_36)] []))
    refine Goes.via (fun _ kk_ => XS.lload X34.here hx rfl (hb hby at_185) rfl  kk_) ?_
    show Goes p e below _ (T34.setTop (mkF m 187 #[.val (.int x0), .val (.int x1), .val (.int x2), .val (.int x3), .val (.int x4), .val (.int x5), .val (.int (2 : Int32)), .val (.int v7_29), .val (.int v13_33), .val (.long (((0 : Int64) ||| ((1 : Int64) <<< (v13_33 &&& 0x3f).toInt64)) ||| ((1 : Int64) <<< (v13_36 &&& 0x3f).toInt64))), .second, .val (.long ((0 : Int64) + (own_c2 v13_33))), .second, .val (.int v13_36)] [(.long ((0 : Int64) + (own_c2 v13_33)))]))
    refine Goes.via (fun _ kk_ => XS.iload X34.here hx rfl (hb hby at_187) rfl  kk_) ?_
    show Goes p e below _ (T34.setTop (mkF m 189 #[.val (.int x0), .val (.int x1), .val (.int x2), .val (.int x3), .val (.int x4), .val (.int x5), .val (.int (2 : Int32)), .val (.int v7_29), .val (.int v13_33), .val (.long (((0 : Int64) ||| ((1 : Int64) <<< (v13_33 &&& 0x3f).toInt64)) ||| ((1 : Int64) <<< (v13_36 &&& 0x3f).toInt64))), .second, .val (.long ((0 : Int64) + (own_c2 v13_33))), .second, .val (.int v13_36)] [(.int v13_36), (.long ((0 : Int64) + (own_c2 v13_33)))]))
    refine Goes.via (fun _ kk_ => XS.i2l X34.here hx rfl (hb hby at_189) rfl kk_) ?_
    show Goes p e below _ (T34.setTop (mkF m 190 #[.val (.int x0), .val (.int x1), .val (.int x2), .val (.int x3), .val (.int x4), .val (.int x5), .val (.int (2 : Int32)), .val (.int v7_29), .val (.int v13_33), .val (.long (((0 : Int64) ||| ((1 : Int64) <<< (v13_33 &&& 0x3f).toInt64)) ||| ((1 : Int64) <<< (v13_36 &&& 0x3f).toInt64))), .second, .val (.long ((0 : Int64) + (own_c2 v13_33))), .second, .val (.int v13_36)] [(.long (v13_36.toInt64)), (.long ((0 : Int64) + (own_c2 v13_33)))]))
    refine Goes.via (fun _ kk_ => XS.ladd X34.here hx rfl (hb hby at_190) rfl kk_) ?_
    show Goes p e below _ (T34.setTop (mkF m 191 #[.val (.int x0), .val (.int x1), .val (.int x2), .val (.int x3), .val (.int x4), .val (.int x5), .val (.int (2 : Int32)), .val (.int v7_29), .val (.int v13_33), .val (.long (((0 : Int64) ||| ((1 : Int64) <<< (v13_33 &&& 0x3f).toInt64)) ||| ((1 : Int64) <<< (v13_36 &&& 0x3f).toInt64))), .second, .val (.long ((0 : Int64) + (own_c2 v13_33))), .second, .val (.int v13_36)] [(.long (((0 : Int64) + (own_c2 v13_33)) + (v13_36.toInt64)))]))
    refine Goes.via (fun _ kk_ => XS.lstore X34.here hx rfl (hb hby at_191) rfl (l' := #[.val (.int x0), .val (.int x1), .val (.int x2), .val (.int x3), .val (.int x4), .val (.int x5), .val (.int (2 : Int32)), .val (.int v7_29), .val (.int v13_33), .val (.long (((0 : Int64) ||| ((1 : Int64) <<< (v13_33 &&& 0x3f).toInt64)) ||| ((1 : Int64) <<< (v13_36 &&& 0x3f).toInt64))), .second, .val (.long (((0 : Int64) + (own_c2 v13_33)) + (v13_36.toInt64))), .second, .val (.int v13_36)]) rfl kk_) ?_
    show Goes p e below _ (T34.setTop (mkF m 193 #[.val (.int x0), .val (.int x1), .val (.int x2), .val (.int x3), .val (.int x4), .val (.int x5), .val (.int (2 : Int32)), .val (.int v7_29), .val (.int v13_33), .val (.long (((0 : Int64) ||| ((1 : Int64) <<< (v13_33 &&& 0x3f).toInt64)) ||| ((1 : Int64) <<< (v13_36 &&& 0x3f).toInt64))), .second, .val (.long (((0 : Int64) + (own_c2 v13_33)) + (v13_36.toInt64))), .second, .val (.int v13_36)] []))
    have hxs : own_dn nm [nu1, nu0] := ⟨(by omega), (by omega), trivial⟩
    have hrkE : own_rk [nu1, nu0] = (own_B nu1 2 + (own_B nu0 1 + 0)) := rfl
    have hB2 := own_B_le (i := nu1) (j := 2) (by omega) (by decide)
    have hB1 := own_B_le (i := nu0) (j := 1) (by omega) (by decide)
    have hrk : ((((0 : Int64) + (own_c2 v13_33)) + (v13_36.toInt64))).toInt = ((own_rk [nu1, nu0] : Nat) : Int) := by
      have z0 : (0 : Int64).toInt = ((0 : Nat) : Int) := by decide
      have z1 := own_addL z0 (own_c2B hnu1 (by omega)) (by omega) rfl
      have z2 := own_addL z1 (by rw [c_i2l, own_c1B (by omega)]; exact hnu0 : (v13_36.toInt64).toInt = ((own_B nu0 1 : Nat) : Int)) (by omega) rfl
      have zz := z2
      rw [hrkE]
      omega
    have hrkb : own_rk [nu1, nu0] ≤ 9000000 := by rw [hrkE]; omega
    obtain ⟨T37, h37, X37, e37, E37, A37, D37, -, st37⟩ := newO X34 hx hZ hown (hw _ (List.mem_of_getElem? (i := 1) rfl)) (hw _ (List.mem_of_getElem? (i := 2) rfl)) (hw _ (List.mem_of_getElem? (i := 3) rfl)) e34' (g := (mkF m 193 #[.val (.int x0), .val (.int x1), .val (.int x2), .val (.int x3), .val (.int x4), .val (.int x5), .val (.int (2 : Int32)), .val (.int v7_29), .val (.int v13_33), .val (.long (((0 : Int64) ||| ((1 : Int64) <<< (v13_33 &&& 0x3f).toInt64)) ||| ((1 : Int64) <<< (v13_36 &&& 0x3f).toInt64))), .second, .val (.long (((0 : Int64) + (own_c2 v13_33)) + (v13_36.toInt64))), .second, .val (.int v13_36)] [])) rfl (hb hby at_193) (by first | decide | omega | (dsimp only; omega)) (by first | decide | omega | (dsimp only; omega))
    obtain ⟨b37, g37⟩ : ∃ z, z = (h0).size := ⟨_, rfl⟩
    rw [← g37] at A37 D37 st37
    have sz_b37 : h0.size ≤ b37 := Nat.le_trans (Nat.le_refl _) (Nat.le_of_eq g37.symm)
    have gn_b37 : n0 ≤ b37 := Nat.le_trans Z0 sz_b37
    have F_users_b37 : Fld Z h37 b37 "com/example/checks_on_duty/checksonduty/engine/RankedSets" "users" "I" (.int (0 : Int32)) := D37 (Or.inr (hw _ (List.mem_of_getElem? (i := 11) rfl))) (ty := .int) (by decide)
    have F_binomial_b37 : Fld Z h37 b37 "com/example/checks_on_duty/checksonduty/engine/RankedSets" "binomial" "[[J" .null := D37 (Or.inr (hw _ (List.mem_of_getElem? (i := 16) rfl))) (ty := (.array (.array .long))) (by decide)
    refine Goes.via st37 ?_
    show Goes p e below _ (T37.setTop (mkF m 196 #[.val (.int x0), .val (.int x1), .val (.int x2), .val (.int x3), .val (.int x4), .val (.int x5), .val (.int (2 : Int32)), .val (.int v7_29), .val (.int v13_33), .val (.long (((0 : Int64) ||| ((1 : Int64) <<< (v13_33 &&& 0x3f).toInt64)) ||| ((1 : Int64) <<< (v13_36 &&& 0x3f).toInt64))), .second, .val (.long (((0 : Int64) + (own_c2 v13_33)) + (v13_36.toInt64))), .second, .val (.int v13_36)] [(.ref b37)]))
    refine Goes.via (fun _ kk_ => XS.dup X37.here hx rfl (hb hby at_196) rfl rfl kk_) ?_
    show Goes p e below _ (T37.setTop (mkF m 197 #[.val (.int x0), .val (.int x1), .val (.int x2), .val (.int x3), .val (.int x4), .val (.int x5), .val (.int (2 : Int32)), .val (.int v7_29), .val (.int v13_33), .val (.long (((0 : Int64) ||| ((1 : Int64) <<< (v13_33 &&& 0x3f).toInt64)) ||| ((1 : Int64) <<< (v13_36 &&& 0x3f).toInt64))), .second, .val (.long (((0 : Int64) + (own_c2 v13_33)) + (v13_36.toInt64))), .second, .val (.int v13_36)] [(.ref b37), (.ref b37)]))
    refine Goes.via (fun _ kk_ => XS.iload X37.here hx rfl (hb hby at_197) rfl  kk_) ?_
    show Goes p e below _ (T37.setTop (mkF m 199 #[.val (.int x0), .val (.int x1), .val (.int x2), .val (.int x3), .val (.int x4), .val (.int x5), .val (.int (2 : Int32)), .val (.int v7_29), .val (.int v13_33), .val (.long (((0 : Int64) ||| ((1 : Int64) <<< (v13_33 &&& 0x3f).toInt64)) ||| ((1 : Int64) <<< (v13_36 &&& 0x3f).toInt64))), .second, .val (.long (((0 : Int64) + (own_c2 v13_33)) + (v13_36.toInt64))), .second, .val (.int v13_36)] [(.int v7_29), (.ref b37), (.ref b37)]))
    refine Goes.via (fun _ kk_ => XS.iconst X37.here hx rfl (hb hby at_199) kk_) ?_
    show Goes p e below _ (T37.setTop (mkF m 200 #[.val (.int x0), .val (.int x1), .val (.int x2), .val (.int x3), .val (.int x4), .val (.int x5), .val (.int (2 : Int32)), .val (.int v7_29), .val (.int v13_33), .val (.long (((0 : Int64) ||| ((1 : Int64) <<< (v13_33 &&& 0x3f).toInt64)) ||| ((1 : Int64) <<< (v13_36 &&& 0x3f).toInt64))), .second, .val (.long (((0 : Int64) + (own_c2 v13_33)) + (v13_36.toInt64))), .second, .val (.int v13_36)] [(.int (4 : Int32)), (.int v7_29), (.ref b37), (.ref b37)]))
    have z39 : h0.size ≤ (h37).size := (Nat.le_trans (Nat.le_refl _) E37.1)
    obtain ⟨_, _, ⟨T38, L38, k38, n38⟩, -, X38, ⟨Lc38, hQ38, l38, y38, z38⟩, st38⟩ := X37.specialBack hx (y := (⟨"com/example/checks_on_duty/checksonduty/engine/RankedSets", "<init>", "(II)V"⟩ : MethodName)) rfl hown (mvT hZ (hw _ (List.mem_of_getElem? (i := 4) rfl))) (mvT hZ (hw _ (List.mem_of_getElem? (i := 5) rfl))) (mvT hZ (hw _ (List.mem_of_getElem? (i := 6) rfl))) (by decide) (backOf (W := 1) (rm1 l Z a0 hw [] b37 v7_29 (4 : Int32) nm 4 h37 n0 (Nat.le_trans Z0 z39) A37 F_users_b37 F_binomial_b37 gn_b37 hnm (by first | rfl | decide | assumption | omega | (simp; done)) (by first | rfl | decide | assumption | omega | (simp; done)) (by first | rfl | decide | assumption | omega | (simp; done))) hZ (hw _ (List.mem_of_getElem? (i := 6) rfl)) (hw _ (List.mem_of_getElem? (i := 3) rfl)) (by decide) (by decide)) (g := (mkF m 200 #[.val (.int x0), .val (.int x1), .val (.int x2), .val (.int x3), .val (.int x4), .val (.int x5), .val (.int (2 : Int32)), .val (.int v7_29), .val (.int v13_33), .val (.long (((0 : Int64) ||| ((1 : Int64) <<< (v13_33 &&& 0x3f).toInt64)) ||| ((1 : Int64) <<< (v13_36 &&& 0x3f).toInt64))), .second, .val (.long (((0 : Int64) + (own_c2 v13_33)) + (v13_36.toInt64))), .second, .val (.int v13_36)] [(.int (4 : Int32)), (.int v7_29), (.ref b37), (.ref b37)])) rfl (by rw [hml]; rfl) (Steps.refl _) (a := b37) (argsL := [(.int v7_29), (.int (4 : Int32))]) (rest := [(.ref b37)]) (lenOf pd_1 rfl) rfl (by show 2 * 0 + _ ≤ _; exact Nat.le_of_eq rfl) (hb hby at_200) (fun _ _ => ⟨rfl, e37, (by first | decide | omega | (dsimp only; omega) : 1 + 66 ≤ _), (by first | decide | omega | (dsimp only; omega) : 2 + 400 ≤ _)⟩)
    dsimp only [Pt.U, Pt.locs, Pt.cells, Pt.slots] at X38 l38 y38 z38 st38 hQ38
    subst l38 y38 z38
    obtain ⟨g38, kA38, kB38, rfl, N38q, K38, u38_0, u38_1, u38_2, u38_3, u38_4⟩ := hQ38
    have N38 := Fr.app N34 N38q
    refine Goes.tr st38 ?_
    have ne40 : b37 ≠ g38 := Nat.ne_of_lt (Nat.lt_of_lt_of_le A37.lt u38_0)
    have sz_g38 : h0.size ≤ g38 := Nat.le_trans z39 u38_0
    have gn_g38 : n0 ≤ g38 := Nat.le_trans Z0 sz_g38
    -- u38_0 : h0.size ≤ g38
    show Goes p e below _ (T38.setTop (mkF m 203 #[.val (.int x0), .val (.int x1), .val (.int x2), .val (.int x3), .val (.int x4), .val (.int x5), .val (.int (2 : Int32)), .val (.int v7_29), .val (.int v13_33), .val (.long (((0 : Int64) ||| ((1 : Int64) <<< (v13_33 &&& 0x3f).toInt64)) ||| ((1 : Int64) <<< (v13_36 &&& 0x3f).toInt64))), .second, .val (.long (((0 : Int64) + (own_c2 v13_33)) + (v13_36.toInt64))), .second, .val (.int v13_36)] [(.ref b37)]))
    refine Goes.via (fun _ kk_ => XS.astore X38.here hx rfl (hb hby at_203) rfl rfl (l' := #[.val (.int x0), .val (.int x1), .val (.int x2), .val (.int x3), .val (.int x4), .val (.int x5), .val (.int (2 : Int32)), .val (.int v7_29), .val (.int v13_33), .val (.long (((0 : Int64) ||| ((1 : Int64) <<< (v13_33 &&& 0x3f).toInt64)) ||| ((1 : Int64) <<< (v13_36 &&& 0x3f).toInt64))), .second, .val (.long (((0 : Int64) + (own_c2 v13_33)) + (v13_36.toInt64))), .second, .val (.ref b37)]) rfl kk_) ?_
    show Goes p e below _ (T38.setTop (mkF m 205 #[.val (.int x0), .val (.int x1), .val (.int x2), .val (.int x3), .val (.int x4), .val (.int x5), .val (.int (2 : Int32)), .val (.int v7_29), .val (.int v13_33), .val (.long (((0 : Int64) ||| ((1 : Int64) <<< (v13_33 &&& 0x3f).toInt64)) ||| ((1 : Int64) <<< (v13_36 &&& 0x3f).toInt64))), .second, .val (.long (((0 : Int64) + (own_c2 v13_33)) + (v13_36.toInt64))), .second, .val (.ref b37)] []))
    refine Goes.via (fun _ kk_ => XS.aload X38.here hx rfl (hb hby at_205) rfl rfl  kk_) ?_
    show Goes p e below _ (T38.setTop (mkF m 207 #[.val (.int x0), .val (.int x1), .val (.int x2), .val (.int x3), .val (.int x4), .val (.int x5), .val (.int (2 : Int32)), .val (.int v7_29), .val (.int v13_33), .val (.long (((0 : Int64) ||| ((1 : Int64) <<< (v13_33 &&& 0x3f).toInt64)) ||| ((1 : Int64) <<< (v13_36 &&& 0x3f).toInt64))), .second, .val (.long (((0 : Int64) + (own_c2 v13_33)) + (v13_36.toInt64))), .second, .val (.ref b37)] [(.ref b37)]))
    refine Goes.via (fun _ kk_ => XS.lload X38.here hx rfl (hb hby at_207) rfl  kk_) ?_
    show Goes p e below _ (T38.setTop (mkF m 209 #[.val (.int x0), .val (.int x1), .val (.int x2), .val (.int x3), .val (.int x4), .val (.int x5), .val (.int (2 : Int32)), .val (.int v7_29), .val (.int v13_33), .val (.long (((0 : Int64) ||| ((1 : Int64) <<< (v13_33 &&& 0x3f).toInt64)) ||| ((1 : Int64) <<< (v13_36 &&& 0x3f).toInt64))), .second, .val (.long (((0 : Int64) + (own_c2 v13_33)) + (v13_36.toInt64))), .second, .val (.ref b37)] [(.long (((0 : Int64) + (own_c2 v13_33)) + (v13_36.toInt64))), (.ref b37)]))
    refine Goes.via (fun _ kk_ => XS.l2i X38.here hx rfl (hb hby at_209) rfl kk_) ?_
    show Goes p e below _ (T38.setTop (mkF m 210 #[.val (.int x0), .val (.int x1), .val (.int x2), .val (.int x3), .val (.int x4), .val (.int x5), .val (.int (2 : Int32)), .val (.int v7_29), .val (.int v13_33), .val (.long (((0 : Int64) ||| ((1 : Int64) <<< (v13_33 &&& 0x3f).toInt64)) ||| ((1 : Int64) <<< (v13_36 &&& 0x3f).toInt64))), .second, .val (.long (((0 : Int64) + (own_c2 v13_33)) + (v13_36.toInt64))), .second, .val (.ref b37)] [(.int ((((0 : Int64) + (own_c2 v13_33)) + (v13_36.toInt64)).toInt32)), (.ref b37)]))
    refine Goes.via (fun _ kk_ => XS.iload X38.here hx rfl (hb hby at_210) rfl  kk_) ?_
    show Goes p e below _ (T38.setTop (mkF m 212 #[.val (.int x0), .val (.int x1), .val (.int x2), .val (.int x3), .val (.int x4), .val (.int x5), .val (.int (2 : Int32)), .val (.int v7_29), .val (.int v13_33), .val (.long (((0 : Int64) ||| ((1 : Int64) <<< (v13_33 &&& 0x3f).toInt64)) ||| ((1 : Int64) <<< (v13_36 &&& 0x3f).toInt64))), .second, .val (.long (((0 : Int64) + (own_c2 v13_33)) + (v13_36.toInt64))), .second, .val (.ref b37)] [(.int (2 : Int32)), (.int ((((0 : Int64) + (own_c2 v13_33)) + (v13_36.toInt64)).toInt32)), (.ref b37)]))
    have z42 : h0.size ≤ (T38.heap).size := (Nat.le_trans z39 K38.1)
    obtain ⟨cq41, kq41, q41a, q41b, q41c⟩ := isOf hZ rfl u38_1
    obtain ⟨_, _, ⟨T41, L41, k41, n41⟩, -, X41, ⟨Lc41, hQ41, l41, y41, z41⟩, st41⟩ := X38.virtualBack hx (y := (⟨"com/example/checks_on_duty/checksonduty/engine/RankedSets", "set", "(II)J"⟩ : MethodName)) (z := (⟨"com/example/checks_on_duty/checksonduty/engine/RankedSets", "set", "(II)J"⟩ : MethodName)) hown (mvT hZ (hw _ (List.mem_of_getElem? (i := 21) rfl))) (mvT hZ (hw _ (List.mem_of_getElem? (i := 22) rfl))) (notFace_of_selects (args := #[]) (mvT hZ (hw _ (List.mem_of_getElem? (i := 24) rfl)))) (mvT hZ (hw _ (List.mem_of_getElem? (i := 24) rfl))) (mvT hZ (hw _ (List.mem_of_getElem? (i := 23) rfl))) (by decide) (backOf (W := 0) (rm4 l Z a0 hw [] b37 ((((0 : Int64) + (own_c2 v13_33)) + (v13_36.toInt64)).toInt32) (2 : Int32) v7_29 g38 kA38 kB38 nm ([nu1, nu0]) T38.heap n0 (Nat.le_trans Z0 z42) u38_2 u38_3 u38_4 hnm (by first | rfl | decide | assumption | omega | (simp; done)) (own_l2i hrk hrkb) rfl (by simp) hxs) hZ (hw _ (List.mem_of_getElem? (i := 25) rfl)) (hw _ (List.mem_of_getElem? (i := 3) rfl)) (by decide) (by decide)) q41a q41c (g := (mkF m 212 #[.val (.int x0), .val (.int x1), .val (.int x2), .val (.int x3), .val (.int x4), .val (.int x5), .val (.int (2 : Int32)), .val (.int v7_29), .val (.int v13_33), .val (.long (((0 : Int64) ||| ((1 : Int64) <<< (v13_33 &&& 0x3f).toInt64)) ||| ((1 : Int64) <<< (v13_36 &&& 0x3f).toInt64))), .second, .val (.long (((0 : Int64) + (own_c2 v13_33)) + (v13_36.toInt64))), .second, .val (.ref b37)] [(.int (2 : Int32)), (.int ((((0 : Int64) + (own_c2 v13_33)) + (v13_36.toInt64)).toInt32)), (.ref b37)])) rfl (by rw [hml]; rfl) (Steps.refl _) (argsL := [(.int ((((0 : Int64) + (own_c2 v13_33)) + (v13_36.toInt64)).toInt32)), (.int (2 : Int32))]) (rest := []) (lenOf pd_2 rfl) rfl (by show 2 * 0 + _ ≤ _; exact Nat.le_of_eq rfl) (hb hby at_212) (fun _ _ => ⟨rfl, rfl, (by first | decide | omega | (dsimp only; omega) : 67 + 0 ≤ _), (by first | decide | omega | (dsimp only; omega) : 402 + 0 ≤ _)⟩)
    dsimp only [Pt.U, Pt.locs, Pt.cells, Pt.slots] at X41 l41 y41 z41 st41 hQ41
    subst l41 y41 z41
    obtain ⟨rfl, N41q, e41⟩ := hQ41
    have N41 := Fr.app N38 N41q
    refine Goes.tr st41 ?_
    have e41' : T41.heap = T38.heap := e41
    show Goes p e below _ (T41.setTop (mkF m 215 #[.val (.int x0), .val (.int x1), .val (.int x2), .val (.int x3), .val (.int x4), .val (.int x5), .val (.int (2 : Int32)), .val (.int v7_29), .val (.int v13_33), .val (.long (((0 : Int64) ||| ((1 : Int64) <<< (v13_33 &&& 0x3f).toInt64)) ||| ((1 : Int64) <<< (v13_36 &&& 0x3f).toInt64))), .second, .val (.long (((0 : Int64) + (own_c2 v13_33)) + (v13_36.toInt64))), .second, .val (.ref b37)] [(.long (own_or (0 : Int64) [nu1, nu0]))]))
    refine Goes.via (fun _ kk_ => XS.lload X41.here hx rfl (hb hby at_215) rfl  kk_) ?_
    show Goes p e below _ (T41.setTop (mkF m 217 #[.val (.int x0), .val (.int x1), .val (.int x2), .val (.int x3), .val (.int x4), .val (.int x5), .val (.int (2 : Int32)), .val (.int v7_29), .val (.int v13_33), .val (.long (((0 : Int64) ||| ((1 : Int64) <<< (v13_33 &&& 0x3f).toInt64)) ||| ((1 : Int64) <<< (v13_36 &&& 0x3f).toInt64))), .second, .val (.long (((0 : Int64) + (own_c2 v13_33)) + (v13_36.toInt64))), .second, .val (.ref b37)] [(.long (((0 : Int64) ||| ((1 : Int64) <<< (v13_33 &&& 0x3f).toInt64)) ||| ((1 : Int64) <<< (v13_36 &&& 0x3f).toInt64))), (.long (own_or (0 : Int64) [nu1, nu0]))]))
    refine Goes.via (fun _ kk_ => XS.lcmp X41.here hx rfl (hb hby at_217) rfl kk_) ?_
    show Goes p e below _ (T41.setTop (mkF m 218 #[.val (.int x0), .val (.int x1), .val (.int x2), .val (.int x3), .val (.int x4), .val (.int x5), .val (.int (2 : Int32)), .val (.int v7_29), .val (.int v13_33), .val (.long (((0 : Int64) ||| ((1 : Int64) <<< (v13_33 &&& 0x3f).toInt64)) ||| ((1 : Int64) <<< (v13_36 &&& 0x3f).toInt64))), .second, .val (.long (((0 : Int64) + (own_c2 v13_33)) + (v13_36.toInt64))), .second, .val (.ref b37)] [(.int (lcmpW (own_or (0 : Int64) [nu1, nu0]) (((0 : Int64) ||| ((1 : Int64) <<< (v13_33 &&& 0x3f).toInt64)) ||| ((1 : Int64) <<< (v13_36 &&& 0x3f).toInt64))))]))
    have hc218_43 : (own_or (0 : Int64) [nu1, nu0]) = (((0 : Int64) ||| ((1 : Int64) <<< (v13_33 &&& 0x3f).toInt64)) ||| ((1 : Int64) <<< (v13_36 &&& 0x3f).toInt64)) := (by simp only [own_or, ← own_ofn hnu1 (by omega), ← own_ofn hnu0 (by omega)])
    refine Goes.via (fun _ kk_ => XS.ifNo X41.here hx rfl (hb hby at_218) rfl ((if0 _ _).trans (teq ((lw_eq (own_or (0 : Int64) [nu1, nu0]) (((0 : Int64) ||| ((1 : Int64) <<< (v13_33 &&& 0x3f).toInt64)) ||| ((1 : Int64) <<< (v13_36 &&& 0x3f).toInt64))).mpr hc218_43)).2) kk_) ?_
    show Goes p e below _ (T41.setTop (mkF m 221 #[.val (.int x0), .val (.int x1), .val (.int x2), .val (.int x3), .val (.int x4), .val (.int x5), .val (.int (2 : Int32)), .val (.int v7_29), .val (.int v13_33), .val (.long (((0 : Int64) ||| ((1 : Int64) <<< (v13_33 &&& 0x3f).toInt64)) ||| ((1 : Int64) <<< (v13_36 &&& 0x3f).toInt64))), .second, .val (.long (((0 : Int64) + (own_c2 v13_33)) + (v13_36.toInt64))), .second, .val (.ref b37)] []))
    refine Goes.via (fun _ kk_ => XS.iconst X41.here hx rfl (hb hby at_221) kk_) ?_
    show Goes p e below _ (T41.setTop (mkF m 222 #[.val (.int x0), .val (.int x1), .val (.int x2), .val (.int x3), .val (.int x4), .val (.int x5), .val (.int (2 : Int32)), .val (.int v7_29), .val (.int v13_33), .val (.long (((0 : Int64) ||| ((1 : Int64) <<< (v13_33 &&& 0x3f).toInt64)) ||| ((1 : Int64) <<< (v13_36 &&& 0x3f).toInt64))), .second, .val (.long (((0 : Int64) + (own_c2 v13_33)) + (v13_36.toInt64))), .second, .val (.ref b37)] [(.int (1 : Int32))]))
    refine Goes.via (fun _ kk_ => XS.goto X41.here hx rfl (pc0 := 222) (pc' := 226) rfl (hb hby at_222) (by decide) (by decide) kk_) ?_
    show Goes p e below _ (T41.setTop (mkF m 226 #[.val (.int x0), .val (.int x1), .val (.int x2), .val (.int x3), .val (.int x4), .val (.int x5), .val (.int (2 : Int32)), .val (.int v7_29), .val (.int v13_33), .val (.long (((0 : Int64) ||| ((1 : Int64) <<< (v13_33 &&& 0x3f).toInt64)) ||| ((1 : Int64) <<< (v13_36 &&& 0x3f).toInt64))), .second, .val (.long (((0 : Int64) + (own_c2 v13_33)) + (v13_36.toInt64))), .second, .val (.ref b37)] [(.int (1 : Int32))]))
    have K44 : Keep h0 T38.heap [] := (((Keep.refl h0 []).ext E37).trans K38 (allS (Or.inr sz_b37) all0))
    exact own_finN X41 hx hlk hret (by simp) (hb hby at_226) (by rw [e41']; exact ⟨rfl, N41, K44⟩) (by first | decide | omega | (dsimp only; omega)) (by first | decide | omega | (dsimp only; omega))
  · rw [hsz]
    show Goes p e below _ (s₁.setTop (mkF m 8 #[.val (.int x0), .val (.int x1), .val (.int x2), .val (.int x3), .val (.int x4), .val (.int x5), .val (.int (3 : Int32)), .unset, .unset, .unset, .unset, .unset, .unset, .unset] []))
    refine Goes.via (fun _ kk_ => XS.iload X0.here hx rfl (hb hby at_8) rfl  kk_) ?_
    show Goes p e below _ (s₁.setTop (mkF m 10 #[.val (.int x0), .val (.int x1), .val (.int x2), .val (.int x3), .val (.int x4), .val (.int x5), .val (.int (3 : Int32)), .unset, .unset, .unset, .unset, .unset, .unset, .unset] [(.int (3 : Int32))]))
    refine Goes.via (fun _ kk_ => XS.iloadN X0.here hx rfl (hb hby at_10) rfl  kk_) ?_
    show Goes p e below _ (s₁.setTop (mkF m 11 #[.val (.int x0), .val (.int x1), .val (.int x2), .val (.int x3), .val (.int x4), .val (.int x5), .val (.int (3 : Int32)), .unset, .unset, .unset, .unset, .unset, .unset, .unset] [(.int x1), (.int (3 : Int32))]))
    refine Goes.via (X0.ldcInt hx hown (mvT hZ (hw _ (List.mem_of_getElem? (i := 0) rfl))) (g := (mkF m 11 #[.val (.int x0), .val (.int x1), .val (.int x2), .val (.int x3), .val (.int x4), .val (.int x5), .val (.int (3 : Int32)), .unset, .unset, .unset, .unset, .unset, .unset, .unset] [(.int x1), (.int (3 : Int32))])) rfl (hb hby at_11)) ?_
    show Goes p e below _ (s₁.setTop (mkF m 13 #[.val (.int x0), .val (.int x1), .val (.int x2), .val (.int x3), .val (.int x4), .val (.int x5), .val (.int (3 : Int32)), .unset, .unset, .unset, .unset, .unset, .unset, .unset] [(.int (2147483647 : Int32)), (.int x1), (.int (3 : Int32))]))
    refine Goes.via (fun _ kk_ => XS.iand X0.here hx rfl (hb hby at_13) rfl kk_) ?_
    show Goes p e below _ (s₁.setTop (mkF m 14 #[.val (.int x0), .val (.int x1), .val (.int x2), .val (.int x3), .val (.int x4), .val (.int x5), .val (.int (3 : Int32)), .unset, .unset, .unset, .unset, .unset, .unset, .unset] [(.int (x1 &&& (2147483647 : Int32))), (.int (3 : Int32))]))
    refine Goes.via (fun _ kk_ => XS.bipush X0.here hx rfl (hb hby at_14) kk_) ?_
    show Goes p e below _ (s₁.setTop (mkF m 16 #[.val (.int x0), .val (.int x1), .val (.int x2), .val (.int x3), .val (.int x4), .val (.int x5), .val (.int (3 : Int32)), .unset, .unset, .unset, .unset, .unset, .unset, .unset] [(.int (65 : Int32)), (.int (x1 &&& (2147483647 : Int32))), (.int (3 : Int32))]))
    refine Goes.via (fun _ kk_ => XS.iload X0.here hx rfl (hb hby at_16) rfl  kk_) ?_
    show Goes p e below _ (s₁.setTop (mkF m 18 #[.val (.int x0), .val (.int x1), .val (.int x2), .val (.int x3), .val (.int x4), .val (.int x5), .val (.int (3 : Int32)), .unset, .unset, .unset, .unset, .unset, .unset, .unset] [(.int (3 : Int32)), (.int (65 : Int32)), (.int (x1 &&& (2147483647 : Int32))), (.int (3 : Int32))]))
    refine Goes.via (fun _ kk_ => XS.isub X0.here hx rfl (hb hby at_18) rfl kk_) ?_
    show Goes p e below _ (s₁.setTop (mkF m 19 #[.val (.int x0), .val (.int x1), .val (.int x2), .val (.int x3), .val (.int x4), .val (.int x5), .val (.int (3 : Int32)), .unset, .unset, .unset, .unset, .unset, .unset, .unset] [(.int ((65 : Int32) - (3 : Int32))), (.int (x1 &&& (2147483647 : Int32))), (.int (3 : Int32))]))
    rw [show ((65 : Int32) - (3 : Int32)) = (62 : Int32) from by decide]
    show Goes p e below _ (s₁.setTop (mkF m 19 #[.val (.int x0), .val (.int x1), .val (.int x2), .val (.int x3), .val (.int x4), .val (.int x5), .val (.int (3 : Int32)), .unset, .unset, .unset, .unset, .unset, .unset, .unset] [(.int (62 : Int32)), (.int (x1 &&& (2147483647 : Int32))), (.int (3 : Int32))]))
    refine Goes.via (fun _ kk_ => iremM X0 hx rfl (hb hby at_19) rfl (by decide) kk_) ?_
    show Goes p e below _ (s₁.setTop (mkF m 20 #[.val (.int x0), .val (.int x1), .val (.int x2), .val (.int x3), .val (.int x4), .val (.int x5), .val (.int (3 : Int32)), .unset, .unset, .unset, .unset, .unset, .unset, .unset] [(.int ((x1 &&& (2147483647 : Int32)) % (62 : Int32))), (.int (3 : Int32))]))
    refine Goes.via (fun _ kk_ => XS.iadd X0.here hx rfl (hb hby at_20) rfl kk_) ?_
    show Goes p e below _ (s₁.setTop (mkF m 21 #[.val (.int x0), .val (.int x1), .val (.int x2), .val (.int x3), .val (.int x4), .val (.int x5), .val (.int (3 : Int32)), .unset, .unset, .unset, .unset, .unset, .unset, .unset] [(.int ((3 : Int32) + ((x1 &&& (2147483647 : Int32)) % (62 : Int32))))]))
    refine Goes.via (fun _ kk_ => XS.istore X0.here hx rfl (hb hby at_21) rfl (l' := #[.val (.int x0), .val (.int x1), .val (.int x2), .val (.int x3), .val (.int x4), .val (.int x5), .val (.int (3 : Int32)), .val (.int ((3 : Int32) + ((x1 &&& (2147483647 : Int32)) % (62 : Int32)))), .unset, .unset, .unset, .unset, .unset, .unset]) rfl kk_) ?_
    show Goes p e below _ (s₁.setTop (mkF m 23 #[.val (.int x0), .val (.int x1), .val (.int x2), .val (.int x3), .val (.int x4), .val (.int x5), .val (.int (3 : Int32)), .val (.int ((3 : Int32) + ((x1 &&& (2147483647 : Int32)) % (62 : Int32)))), .unset, .unset, .unset, .unset, .unset, .unset] []))
    generalize hv_v7_45 : ((3 : Int32) + ((x1 &&& (2147483647 : Int32)) % (62 : Int32))) = v7_45
    show Goes p e below _ (s₁.setTop (mkF m 23 #[.val (.int x0), .val (.int x1), .val (.int x2), .val (.int x3), .val (.int x4), .val (.int x5), .val (.int (3 : Int32)), .val (.int v7_45), .unset, .unset, .unset, .unset, .unset, .unset] []))
    obtain ⟨nm, hnm, hnm1, hnm2⟩ := own_users (k := 3) (c := (3 : Int32)) (by decide) (by decide) (by decide) hv_v7_45
    refine Goes.via (fun _ kk_ => XS.iload X0.here hx rfl (hb hby at_23) rfl  kk_) ?_
    show Goes p e below _ (s₁.setTop (mkF m 25 #[.val (.int x0), .val (.int x1), .val (.int x2), .val (.int x3), .val (.int x4), .val (.int x5), .val (.int (3 : Int32)), .val (.int v7_45), .unset, .unset, .unset, .unset, .unset, .unset] [(.int v7_45)]))
    refine Goes.via (fun _ kk_ => XS.istore X0.here hx rfl (hb hby at_25) rfl (l' := #[.val (.int x0), .val (.int x1), .val (.int x2), .val (.int x3), .val (.int x4), .val (.int x5), .val (.int (3 : Int32)), .val (.int v7_45), .val (.int v7_45), .unset, .unset, .unset, .unset, .unset]) rfl kk_) ?_
    show Goes p e below _ (s₁.setTop (mkF m 27 #[.val (.int x0), .val (.int x1), .val (.int x2), .val (.int x3), .val (.int x4), .val (.int x5), .val (.int (3 : Int32)), .val (.int v7_45), .val (.int v7_45), .unset, .unset, .unset, .unset, .unset] []))
    refine Goes.via (fun _ kk_ => XS.lconst X0.here hx rfl (hb hby at_27) kk_) ?_
    show Goes p e below _ (s₁.setTop (mkF m 28 #[.val (.int x0), .val (.int x1), .val (.int x2), .val (.int x3), .val (.int x4), .val (.int x5), .val (.int (3 : Int32)), .val (.int v7_45), .val (.int v7_45), .unset, .unset, .unset, .unset, .unset] [(.long (0 : Int64))]))
    refine Goes.via (fun _ kk_ => XS.lstore X0.here hx rfl (hb hby at_28) rfl (l' := #[.val (.int x0), .val (.int x1), .val (.int x2), .val (.int x3), .val (.int x4), .val (.int x5), .val (.int (3 : Int32)), .val (.int v7_45), .val (.int v7_45), .val (.long (0 : Int64)), .second, .unset, .unset, .unset]) rfl kk_) ?_
    show Goes p e below _ (s₁.setTop (mkF m 30 #[.val (.int x0), .val (.int x1), .val (.int x2), .val (.int x3), .val (.int x4), .val (.int x5), .val (.int (3 : Int32)), .val (.int v7_45), .val (.int v7_45), .val (.long (0 : Int64)), .second, .unset, .unset, .unset] []))
    refine Goes.via (fun _ kk_ => XS.lconst X0.here hx rfl (hb hby at_30) kk_) ?_
    show Goes p e below _ (s₁.setTop (mkF m 31 #[.val (.int x0), .val (.int x1), .val (.int x2), .val (.int x3), .val (.int x4), .val (.int x5), .val (.int (3 : Int32)), .val (.int v7_45), .val (.int v7_45), .val (.long (0 : Int64)), .second, .unset, .unset, .unset] [(.long (0 : Int64))]))
    refine Goes.via (fun _ kk_ => XS.lstore X0.here hx rfl (hb hby at_31) rfl (l' := #[.val (.int x0), .val (.int x1), .val (.int x2), .val (.int x3), .val (.int x4), .val (.int x5), .val (.int (3 : Int32)), .val (.int v7_45), .val (.int v7_45), .val (.long (0 : Int64)), .second, .val (.long (0 : Int64)), .second, .unset]) rfl kk_) ?_
    show Goes p e below _ (s₁.setTop (mkF m 33 #[.val (.int x0), .val (.int x1), .val (.int x2), .val (.int x3), .val (.int x4), .val (.int x5), .val (.int (3 : Int32)), .val (.int v7_45), .val (.int v7_45), .val (.long (0 : Int64)), .second, .val (.long (0 : Int64)), .second, .unset] []))
    refine Goes.via (fun _ kk_ => XS.iload X0.here hx rfl (hb hby at_33) rfl  kk_) ?_
    show Goes p e below _ (s₁.setTop (mkF m 35 #[.val (.int x0), .val (.int x1), .val (.int x2), .val (.int x3), .val (.int x4), .val (.int x5), .val (.int (3 : Int32)), .val (.int v7_45), .val (.int v7_45), .val (.long (0 : Int64)), .second, .val (.long (0 : Int64)), .second, .unset] [(.int (3 : Int32))]))
    refine Goes.via (fun _ kk_ => XS.iconst X0.here hx rfl (hb hby at_35) kk_) ?_
    show Goes p e below _ (s₁.setTop (mkF m 36 #[.val (.int x0), .val (.int x1), .val (.int x2), .val (.int x3), .val (.int x4), .val (.int x5), .val (.int (3 : Int32)), .val (.int v7_45), .val (.int v7_45), .val (.long (0 : Int64)), .second, .val (.long (0 : Int64)), .second, .unset] [(.int (4 : Int32)), (.int (3 : Int32))]))
    have hc36_46 : (3 : Int32) < (4 : Int32) := (by decide)
    refine Goes.via (fun _ kk_ => XS.icmpYes X0.here hx rfl (pc0 := 36) (pc' := 76) rfl (hb hby at_36) rfl (tlt hc36_46).1 (by decide) (by decide) kk_) ?_
    show Goes p e below _ (s₁.setTop (mkF m 76 #[.val (.int x0), .val (.int x1), .val (.int x2), .val (.int x3), .val (.int x4), .val (.int x5), .val (.int (3 : Int32)), .val (.int v7_45), .val (.int v7_45), .val (.long (0 : Int64)), .second, .val (.long (0 : Int64)), .second, .unset] []))
    refine Goes.via (fun _ kk_ => XS.iload X0.here hx rfl (hb hby at_76) rfl  kk_) ?_
    show Goes p e below _ (s₁.setTop (mkF m 78 #[.val (.int x0), .val (.int x1), .val (.int x2), .val (.int x3), .val (.int x4), .val (.int x5), .val (.int (3 : Int32)), .val (.int v7_45), .val (.int v7_45), .val (.long (0 : Int64)), .second, .val (.long (0 : Int64)), .second, .unset] [(.int (3 : Int32))]))
    refine Goes.via (fun _ kk_ => XS.iconst X0.here hx rfl (hb hby at_78) kk_) ?_
    show Goes p e below _ (s₁.setTop (mkF m 79 #[.val (.int x0), .val (.int x1), .val (.int x2), .val (.int x3), .val (.int x4), .val (.int x5), .val (.int (3 : Int32)), .val (.int v7_45), .val (.int v7_45), .val (.long (0 : Int64)), .second, .val (.long (0 : Int64)), .second, .unset] [(.int (3 : Int32)), (.int (3 : Int32))]))
    have hc79_47 : ¬ ((3 : Int32) < (3 : Int32)) := (by decide)
    refine Goes.via (fun _ kk_ => XS.icmpNo X0.here hx rfl (hb hby at_79) rfl (flt hc79_47).1 kk_) ?_
    show Goes p e below _ (s₁.setTop (mkF m 82 #[.val (.int x0), .val (.int x1), .val (.int x2), .val (.int x3), .val (.int x4), .val (.int x5), .val (.int (3 : Int32)), .val (.int v7_45), .val (.int v7_45), .val (.long (0 : Int64)), .second, .val (.long (0 : Int64)), .second, .unset] []))
    refine Goes.via (fun _ kk_ => XS.iconst X0.here hx rfl (hb hby at_82) kk_) ?_
    show Goes p e below _ (s₁.setTop (mkF m 83 #[.val (.int x0), .val (.int x1), .val (.int x2), .val (.int x3), .val (.int x4), .val (.int x5), .val (.int (3 : Int32)), .val (.int v7_45), .val (.int v7_45), .val (.long (0 : Int64)), .second, .val (.long (0 : Int64)), .second, .unset] [(.int (2 : Int32))]))
    refine Goes.via (fun _ kk_ => XS.iload X0.here hx rfl (hb hby at_83) rfl  kk_) ?_
    show Goes p e below _ (s₁.setTop (mkF m 85 #[.val (.int x0), .val (.int x1), .val (.int x2), .val (.int x3), .val (.int x4), .val (.int x5), .val (.int (3 : Int32)), .val (.int v7_45), .val (.int v7_45), .val (.long (0 : Int64)), .second, .val (.long (0 : Int64)), .second, .unset] [(.int x4), (.int (2 : Int32))]))
    refine Goes.via (X0.ldcInt hx hown (mvT hZ (hw _ (List.mem_of_getElem? (i := 0) rfl))) (g := (mkF m 85 #[.val (.int x0), .val (.int x1), .val (.int x2), .val (.int x3), .val (.int x4), .val (.int x5), .val (.int (3 : Int32)), .val (.int v7_45), .val (.int v7_45), .val (.long (0 : Int64)), .second, .val (.long (0 : Int64)), .second, .unset] [(.int x4), (.int (2 : Int32))])) rfl (hb hby at_85)) ?_
    show Goes p e below _ (s₁.setTop (mkF m 87 #[.val (.int x0), .val (.int x1), .val (.int x2), .val (.int x3), .val (.int x4), .val (.int x5), .val (.int (3 : Int32)), .val (.int v7_45), .val (.int v7_45), .val (.long (0 : Int64)), .second, .val (.long (0 : Int64)), .second, .unset] [(.int (2147483647 : Int32)), (.int x4), (.int (2 : Int32))]))
    refine Goes.via (fun _ kk_ => XS.iand X0.here hx rfl (hb hby at_87) rfl kk_) ?_
    show Goes p e below _ (s₁.setTop (mkF m 88 #[.val (.int x0), .val (.int x1), .val (.int x2), .val (.int x3), .val (.int x4), .val (.int x5), .val (.int (3 : Int32)), .val (.int v7_45), .val (.int v7_45), .val (.long (0 : Int64)), .second, .val (.long (0 : Int64)), .second, .unset] [(.int (x4 &&& (2147483647 : Int32))), (.int (2 : Int32))]))
    refine Goes.via (fun _ kk_ => XS.iload X0.here hx rfl (hb hby at_88) rfl  kk_) ?_
    show Goes p e below _ (s₁.setTop (mkF m 90 #[.val (.int x0), .val (.int x1), .val (.int x2), .val (.int x3), .val (.int x4), .val (.int x5), .val (.int (3 : Int32)), .val (.int v7_45), .val (.int v7_45), .val (.long (0 : Int64)), .second, .val (.long (0 : Int64)), .second, .unset] [(.int v7_45), (.int (x4 &&& (2147483647 : Int32))), (.int (2 : Int32))]))
    refine Goes.via (fun _ kk_ => XS.iconst X0.here hx rfl (hb hby at_90) kk_) ?_
    show Goes p e below _ (s₁.setTop (mkF m 91 #[.val (.int x0), .val (.int x1), .val (.int x2), .val (.int x3), .val (.int x4), .val (.int x5), .val (.int (3 : Int32)), .val (.int v7_45), .val (.int v7_45), .val (.long (0 : Int64)), .second, .val (.long (0 : Int64)), .second, .unset] [(.int (2 : Int32)), (.int v7_45), (.int (x4 &&& (2147483647 : Int32))), (.int (2 : Int32))]))
    refine Goes.via (fun _ kk_ => XS.isub X0.here hx rfl (hb hby at_91) rfl kk_) ?_
    show Goes p e below _ (s₁.setTop (mkF m 92 #[.val (.int x0), .val (.int x1), .val (.int x2), .val (.int x3), .val (.int x4), .val (.int x5), .val (.int (3 : Int32)), .val (.int v7_45), .val (.int v7_45), .val (.long (0 : Int64)), .second, .val (.long (0 : Int64)), .second, .unset] [(.int (v7_45 - (2 : Int32))), (.int (x4 &&& (2147483647 : Int32))), (.int (2 : Int32))]))
    refine Goes.via (fun _ kk_ => iremM X0 hx rfl (hb hby at_92) rfl (own_nz0 (own_dk (k := 2) hnm (by decide) (by omega)) (by omega)) kk_) ?_
    show Goes p e below _ (s₁.setTop (mkF m 93 #[.val (.int x0), .val (.int x1), .val (.int x2), .val (.int x3), .val (.int x4), .val (.int x5), .val (.int (3 : Int32)), .val (.int v7_45), .val (.int v7_45), .val (.long (0 : Int64)), .second, .val (.long (0 : Int64)), .second, .unset] [(.int ((x4 &&& (2147483647 : Int32)) % (v7_45 - (2 : Int32)))), (.int (2 : Int32))]))
    refine Goes.via (fun _ kk_ => XS.iadd X0.here hx rfl (hb hby at_93) rfl kk_) ?_
    show Goes p e below _ (s₁.setTop (mkF m 94 #[.val (.int x0), .val (.int x1), .val (.int x2), .val (.int x3), .val (.int x4), .val (.int x5), .val (.int (3 : Int32)), .val (.int v7_45), .val (.int v7_45), .val (.long (0 : Int64)), .second, .val (.long (0 : Int64)), .second, .unset] [(.int ((2 : Int32) + ((x4 &&& (2147483647 : Int32)) % (v7_45 - (2 : Int32)))))]))
    refine Goes.via (fun _ kk_ => XS.istore X0.here hx rfl (hb hby at_94) rfl (l' := #[.val (.int x0), .val (.int x1), .val (.int x2), .val (.int x3), .val (.int x4), .val (.int x5), .val (.int (3 : Int32)), .val (.int v7_45), .val (.int v7_45), .val (.long (0 : Int64)), .second, .val (.long (0 : Int64)), .second, .val (.int ((2 : Int32) + ((x4 &&& (2147483647 : Int32)) % (v7_45 - (2 : Int32)))))]) rfl kk_) ?_
    show Goes p e below _ (s₁.setTop (mkF m 96 #[.val (.int x0), .val (.int x1), .val (.int x2), .val (.int x3), .val (.int x4), .val (.int x5), .val (.int (3 : Int32)), .val (.int v7_45), .val (.int v7_45), .val (.long (0 : Int64)), .second, .val (.long (0 : Int64)), .second, .val (.int ((2 : Int32) + ((x4 &&& (2147483647 : Int32)) % (v7_45 - (2 : Int32)))))] []))
    generalize hv_v13_48 : ((2 : Int32) + ((x4 &&& (2147483647 : Int32)) % (v7_45 - (2 : Int32)))) = v13_48
    show Goes p e below _ (s₁.setTop (mkF m 96 #[.val (.int x0), .val (.int x1), .val (.int x2), .val (.int x3), .val (.int x4), .val (.int x5), .val (.int (3 : Int32)), .val (.int v7_45), .val (.int v7_45), .val (.long (0 : Int64)), .second, .val (.long (0 : Int64)), .second, .val (.int v13_48)] []))
    obtain ⟨nu2, hnu2, hnu2a, hnu2b⟩ := own_pick (k := 2) (c := (2 : Int32)) hnm (by omega) (by decide) (by omega) hv_v13_48
    refine Goes.via (fun _ kk_ => XS.lload X0.here hx rfl (hb hby at_96) rfl  kk_) ?_
    show Goes p e below _ (s₁.setTop (mkF m 98 #[.val (.int x0), .val (.int x1), .val (.int x2), .val (.int x3), .val (.int x4), .val (.int x5), .val (.int (3 : Int32)), .val (.int v7_45), .val (.int v7_45), .val (.long (0 : Int64)), .second, .val (.long (0 : Int64)), .second, .val (.int v13_48)] [(.long (0 : Int64))]))
    refine Goes.via (fun _ kk_ => XS.lconst X0.here hx rfl (hb hby at_98) kk_) ?_
    show Goes p e below _ (s₁.setTop (mkF m 99 #[.val (.int x0), .val (.int x1), .val (.int x2), .val (.int x3), .val (.int x4), .val (.int x5), .val (.int (3 : Int32)), .val (.int v7_45), .val (.int v7_45), .val (.long (0 : Int64)), .second, .val (.long (0 : Int64)), .second, .val (.int v13_48)] [(.long (1 : Int64)), (.long (0 : Int64))]))
    refine Goes.via (fun _ kk_ => XS.iload X0.here hx rfl (hb hby at_99) rfl  kk_) ?_
    show Goes p e below _ (s₁.setTop (mkF m 101 #[.val (.int x0), .val (.int x1), .val (.int x2), .val (.int x3), .val (.int x4), .val (.int x5), .val (.int (3 : Int32)), .val (.int v7_45), .val (.int v7_45), .val (.long (0 : Int64)), .second, .val (.long (0 : Int64)), .second, .val (.int v13_48)] [(.int v13_48), (.long (1 : Int64)), (.long (0 : Int64))]))
    refine Goes.via (fun _ kk_ => XS.lshl X0.here hx rfl (hb hby at_101) rfl kk_) ?_
    show Goes p e below _ (s₁.setTop (mkF m 102 #[.val (.int x0), .val (.int x1), .val (.int x2), .val (.int x3), .val (.int x4), .val (.int x5), .val (.int (3 : Int32)), .val (.int v7_45), .val (.int v7_45), .val (.long (0 : Int64)), .second, .val (.long (0 : Int64)), .second, .val (.int v13_48)] [(.long ((1 : Int64) <<< (v13_48 &&& 0x3f).toInt64)), (.long (0 : Int64))]))
    refine Goes.via (fun _ kk_ => XS.lor X0.here hx rfl (hb hby at_102) rfl kk_) ?_
    show Goes p e below _ (s₁.setTop (mkF m 103 #[.val (.int x0), .val (.int x1), .val (.int x2), .val (.int x3), .val (.int x4), .val (.int x5), .val (.int (3 : Int32)), .val (.int v7_45), .val (.int v7_45), .val (.long (0 : Int64)), .second, .val (.long (0 : Int64)), .second, .val (.int v13_48)] [(.long ((0 : Int64) ||| ((1 : Int64) <<< (v13_48 &&& 0x3f).toInt64)))]))
    refine Goes.via (fun _ kk_ => XS.lstore X0.here hx rfl (hb hby at_103) rfl (l' := #[.val (.int x0), .val (.int x1), .val (.int x2), .val (.int x3), .val (.int x4), .val (.int x5), .val (.int (3 : Int32)), .val (.int v7_45), .val (.int v7_45), .val (.long ((0 : Int64) ||| ((1 : Int64) <<< (v13_48 &&& 0x3f).toInt64))), .second, .val (.long (0 : Int64)), .second, .val (.int v13_48)]) rfl kk_) ?_
    show Goes p e below _ (s₁.setTop (mkF m 105 #[.val (.int x0), .val (.int x1), .val (.int x2), .val (.int x3), .val (.int x4), .val (.int x5), .val (.int (3 : Int32)), .val (.int v7_45), .val (.int v7_45), .val (.long ((0 : Int64) ||| ((1 : Int64) <<< (v13_48 &&& 0x3f).toInt64))), .second, .val (.long (0 : Int64)), .second, .val (.int v13_48)] []))
    refine Goes.via (fun _ kk_ => XS.lload X0.here hx rfl (hb hby at_105) rfl  kk_) ?_
    show Goes p e below _ (s₁.setTop (mkF m 107 #[.val (.int x0), .val (.int x1), .val (.int x2), .val (.int x3), .val (.int x4), .val (.int x5), .val (.int (3 : Int32)), .val (.int v7_45), .val (.int v7_45), .val (.long ((0 : Int64) ||| ((1 : Int64) <<< (v13_48 &&& 0x3f).toInt64))), .second, .val (.long (0 : Int64)), .second, .val (.int v13_48)] [(.long (0 : Int64))]))
    refine Goes.via (fun _ kk_ => XS.iload X0.here hx rfl (hb hby at_107) rfl  kk_) ?_
    show Goes p e below _ (s₁.setTop (mkF m 109 #[.val (.int x0), .val (.int x1), .val (.int x2), .val (.int x3), .val (.int x4), .val (.int x5), .val (.int (3 : Int32)), .val (.int v7_45), .val (.int v7_45), .val (.long ((0 : Int64) ||| ((1 : Int64) <<< (v13_48 &&& 0x3f).toInt64))), .second, .val (.long (0 : Int64)), .second, .val (.int v13_48)] [(.int v13_48), (.long (0 : Int64))]))
    obtain ⟨_, _, ⟨T49, L49, k49, n49⟩, -, X49, ⟨Lc49, hQ49, l49, y49, z49⟩, st49⟩ := Jvm.LawKit.callS X0 hx (y := (⟨"com/example/checks_on_duty/checksonduty/engine/RankedSetsSetPinLaw", "c3", "(I)J"⟩ : MethodName)) hown (mvT hZ (hw _ (List.mem_of_getElem? (i := 33) rfl))) (mvT hZ (hw _ (List.mem_of_getElem? (i := 34) rfl))) (mvT hZ (hw _ (List.mem_of_getElem? (i := 28) rfl))) (mvT hZ (hw _ (List.mem_of_getElem? (i := 35) rfl))) (by decide) (backOf (W := 2) (rm6 l Z a0 hw [] v13_48 h0 n0 (Nat.le_trans Z0 (Nat.le_refl _)) ) hZ (hw _ (List.mem_of_getElem? (i := 35) rfl)) (hw _ (List.mem_of_getElem? (i := 28) rfl)) (by decide) (by decide)) (g := (mkF m 109 #[.val (.int x0), .val (.int x1), .val (.int x2), .val (.int x3), .val (.int x4), .val (.int x5), .val (.int (3 : Int32)), .val (.int v7_45), .val (.int v7_45), .val (.long ((0 : Int64) ||| ((1 : Int64) <<< (v13_48 &&& 0x3f).toInt64))), .second, .val (.long (0 : Int64)), .second, .val (.int v13_48)] [(.int v13_48), (.long (0 : Int64))])) rfl (by rw [hml]; rfl) (argsL := [(.int v13_48)]) (rest := [(.long (0 : Int64))]) (lenOf pd_3 rfl) rfl (by show 2 * 0 + _ ≤ _; exact Nat.le_of_eq rfl) (hb hby at_109) (fun _ _ => ⟨rfl, e0, (by first | decide | omega | (dsimp only; omega) : 0 + 0 ≤ _), (by first | decide | omega | (dsimp only; omega) : 0 + 0 ≤ _)⟩)
    dsimp only [Pt.U, Pt.locs, Pt.cells, Pt.slots] at X49 l49 y49 z49 st49 hQ49
    subst l49 y49 z49
    obtain ⟨rfl, N49q, e49⟩ := hQ49
    have N49 := Fr.app N0 N49q
    refine Goes.via st49 ?_
    have e49' : T49.heap = h0 := e49
    show Goes p e below _ (T49.setTop (mkF m 112 #[.val (.int x0), .val (.int x1), .val (.int x2), .val (.int x3), .val (.int x4), .val (.int x5), .val (.int (3 : Int32)), .val (.int v7_45), .val (.int v7_45), .val (.long ((0 : Int64) ||| ((1 : Int64) <<< (v13_48 &&& 0x3f).toInt64))), .second, .val (.long (0 : Int64)), .second, .val (.int v13_48)] [(.long (own_c3 v13_48)), (.long (0 : Int64))]))
    refine Goes.via (fun _ kk_ => XS.ladd X49.here hx rfl (hb hby at_112) rfl kk_) ?_
    show Goes p e below _ (T49.setTop (mkF m 113 #[.val (.int x0), .val (.int x1), .val (.int x2), .val (.int x3), .val (.int x4), .val (.int x5), .val (.int (3 : Int32)), .val (.int v7_45), .val (.int v7_45), .val (.long ((0 : Int64) ||| ((1 : Int64) <<< (v13_48 &&& 0x3f).toInt64))), .second, .val (.long (0 : Int64)), .second, .val (.int v13_48)] [(.long ((0 : Int64) + (own_c3 v13_48)))]))
    refine Goes.via (fun _ kk_ => XS.lstore X49.here hx rfl (hb hby at_113) rfl (l' := #[.val (.int x0), .val (.int x1), .val (.int x2), .val (.int x3), .val (.int x4), .val (.int x5), .val (.int (3 : Int32)), .val (.int v7_45), .val (.int v7_45), .val (.long ((0 : Int64) ||| ((1 : Int64) <<< (v13_48 &&& 0x3f).toInt64))), .second, .val (.long ((0 : Int64) + (own_c3 v13_48))), .second, .val (.int v13_48)]) rfl kk_) ?_
    show Goes p e below _ (T49.setTop (mkF m 115 #[.val (.int x0), .val (.int x1), .val (.int x2), .val (.int x3), .val (.int x4), .val (.int x5), .val (.int (3 : Int32)), .val (.int v7_45), .val (.int v7_45), .val (.long ((0 : Int64) ||| ((1 : Int64) <<< (v13_48 &&& 0x3f).toInt64))), .second, .val (.long ((0 : Int64) + (own_c3 v13_48))), .second, .val (.int v13_48)] []))
    refine Goes.via (fun _ kk_ => XS.iload X49.here hx rfl (hb hby at_115) rfl  kk_) ?_
    show Goes p e below _ (T49.setTop (mkF m 117 #[.val (.int x0), .val (.int x1), .val (.int x2), .val (.int x3), .val (.int x4), .val (.int x5), .val (.int (3 : Int32)), .val (.int v7_45), .val (.int v7_45), .val (.long ((0 : Int64) ||| ((1 : Int64) <<< (v13_48 &&& 0x3f).toInt64))), .second, .val (.long ((0 : Int64) + (own_c3 v13_48))), .second, .val (.int v13_48)] [(.int v13_48)]))
    refine Goes.via (fun _ kk_ => XS.istore X49.here hx rfl (hb hby at_117) rfl (l' := #[.val (.int x0), .val (.int x1), .val (.int x2), .val (.int x3), .val (.int x4), .val (.int x5), .val (.int (3 : Int32)), .val (.int v7_45), .val (.int v13_48), .val (.long ((0 : Int64) ||| ((1 : Int64) <<< (v13_48 &&& 0x3f).toInt64))), .second, .val (.long ((0 : Int64) + (own_c3 v13_48))), .second, .val (.int v13_48)]) rfl kk_) ?_
    show Goes p e below _ (T49.setTop (mkF m 119 #[.val (.int x0), .val (.int x1), .val (.int x2), .val (.int x3), .val (.int x4), .val (.int x5), .val (.int (3 : Int32)), .val (.int v7_45), .val (.int v13_48), .val (.long ((0 : Int64) ||| ((1 : Int64) <<< (v13_48 &&& 0x3f).toInt64))), .second, .val (.long ((0 : Int64) + (own_c3 v13_48))), .second, .val (.int v13_48)] []))
    refine Goes.via (fun _ kk_ => XS.iload X49.here hx rfl (hb hby at_119) rfl  kk_) ?_
    show Goes p e below _ (T49.setTop (mkF m 121 #[.val (.int x0), .val (.int x1), .val (.int x2), .val (.int x3), .val (.int x4), .val (.int x5), .val (.int (3 : Int32)), .val (.int v7_45), .val (.int v13_48), .val (.long ((0 : Int64) ||| ((1 : Int64) <<< (v13_48 &&& 0x3f).toInt64))), .second, .val (.long ((0 : Int64) + (own_c3 v13_48))), .second, .val (.int v13_48)] [(.int (3 : Int32))]))
    refine Goes.via (fun _ kk_ => XS.iconst X49.here hx rfl (hb hby at_121) kk_) ?_
    show Goes p e below _ (T49.setTop (mkF m 122 #[.val (.int x0), .val (.int x1), .val (.int x2), .val (.int x3), .val (.int x4), .val (.int x5), .val (.int (3 : Int32)), .val (.int v7_45), .val (.int v13_48), .val (.long ((0 : Int64) ||| ((1 : Int64) <<< (v13_48 &&& 0x3f).toInt64))), .second, .val (.long ((0 : Int64) + (own_c3 v13_48))), .second, .val (.int v13_48)] [(.int (2 : Int32)), (.int (3 : Int32))]))
    have hc122_50 : ¬ ((3 : Int32) < (2 : Int32)) := (by decide)
    refine Goes.via (fun _ kk_ => XS.icmpNo X49.here hx rfl (hb hby at_122) rfl (flt hc122_50).1 kk_) ?_
    show Goes p e below _ (T49.setTop (mkF m 125 #[.val (.int x0), .val (.int x1), .val (.int x2), .val (.int x3), .val (.int x4), .val (.int x5), .val (.int (3 : Int32)), .val (.int v7_45), .val (.int v13_48), .val (.long ((0 : Int64) ||| ((1 : Int64) <<< (v13_48 &&& 0x3f).toInt64))), .second, .val (.long ((0 : Int64) + (own_c3 v13_48))), .second, .val (.int v13_48)] []))
    refine Goes.via (fun _ kk_ => XS.iconst X49.here hx rfl (hb hby at_125) kk_) ?_
    show Goes p e below _ (T49.setTop (mkF m 126 #[.val (.int x0), .val (.int x1), .val (.int x2), .val (.int x3), .val (.int x4), .val (.int x5), .val (.int (3 : Int32)), .val (.int v7_45), .val (.int v13_48), .val (.long ((0 : Int64) ||| ((1 : Int64) <<< (v13_48 &&& 0x3f).toInt64))), .second, .val (.long ((0 : Int64) + (own_c3 v13_48))), .second, .val (.int v13_48)] [(.int (1 : Int32))]))
    refine Goes.via (fun _ kk_ => XS.iloadN X49.here hx rfl (hb hby at_126) rfl  kk_) ?_
    show Goes p e below _ (T49.setTop (mkF m 127 #[.val (.int x0), .val (.int x1), .val (.int x2), .val (.int x3), .val (.int x4), .val (.int x5), .val (.int (3 : Int32)), .val (.int v7_45), .val (.int v13_48), .val (.long ((0 : Int64) ||| ((1 : Int64) <<< (v13_48 &&& 0x3f).toInt64))), .second, .val (.long ((0 : Int64) + (own_c3 v13_48))), .second, .val (.int v13_48)] [(.int x3), (.int (1 : Int32))]))
    refine Goes.via (X49.ldcInt hx hown (mvT hZ (hw _ (List.mem_of_getElem? (i := 0) rfl))) (g := (mkF m 127 #[.val (.int x0), .val (.int x1), .val (.int x2), .val (.int x3), .val (.int x4), .val (.int x5), .val (.int (3 : Int32)), .val (.int v7_45), .val (.int v13_48), .val (.long ((0 : Int64) ||| ((1 : Int64) <<< (v13_48 &&& 0x3f).toInt64))), .second, .val (.long ((0 : Int64) + (own_c3 v13_48))), .second, .val (.int v13_48)] [(.int x3), (.int (1 : Int32))])) rfl (hb hby at_127)) ?_
    show Goes p e below _ (T49.setTop (mkF m 129 #[.val (.int x0), .val (.int x1), .val (.int x2), .val (.int x3), .val (.int x4), .val (.int x5), .val (.int (3 : Int32)), .val (.int v7_45), .val (.int v13_48), .val (.long ((0 : Int64) ||| ((1 : Int64) <<< (v13_48 &&& 0x3f).toInt64))), .second, .val (.long ((0 : Int64) + (own_c3 v13_48))), .second, .val (.int v13_48)] [(.int (2147483647 : Int32)), (.int x3), (.int (1 : Int32))]))
    refine Goes.via (fun _ kk_ => XS.iand X49.here hx rfl (hb hby at_129) rfl kk_) ?_
    show Goes p e below _ (T49.setTop (mkF m 130 #[.val (.int x0), .val (.int x1), .val (.int x2), .val (.int x3), .val (.int x4), .val (.int x5), .val (.int (3 : Int32)), .val (.int v7_45), .val (.int v13_48), .val (.long ((0 : Int64) ||| ((1 : Int64) <<< (v13_48 &&& 0x3f).toInt64))), .second, .val (.long ((0 : Int64) + (own_c3 v13_48))), .second, .val (.int v13_48)] [(.int (x3 &&& (2147483647 : Int32))), (.int (1 : Int32))]))
    refine Goes.via (fun _ kk_ => XS.iload X49.here hx rfl (hb hby at_130) rfl  kk_) ?_
    show Goes p e below _ (T49.setTop (mkF m 132 #[.val (.int x0), .val (.int x1), .val (.int x2), .val (.int x3), .val (.int x4), .val (.int x5), .val (.int (3 : Int32)), .val (.int v7_45), .val (.int v13_48), .val (.long ((0 : Int64) ||| ((1 : Int64) <<< (v13_48 &&& 0x3f).toInt64))), .second, .val (.long ((0 : Int64) + (own_c3 v13_48))), .second, .val (.int v13_48)] [(.int v13_48), (.int (x3 &&& (2147483647 : Int32))), (.int (1 : Int32))]))
    refine Goes.via (fun _ kk_ => XS.iconst X49.here hx rfl (hb hby at_132) kk_) ?_
    show Goes p e below _ (T49.setTop (mkF m 133 #[.val (.int x0), .val (.int x1), .val (.int x2), .val (.int x3), .val (.int x4), .val (.int x5), .val (.int (3 : Int32)), .val (.int v7_45), .val (.int v13_48), .val (.long ((0 : Int64) ||| ((1 : Int64) <<< (v13_48 &&& 0x3f).toInt64))), .second, .val (.long ((0 : Int64) + (own_c3 v13_48))), .second, .val (.int v13_48)] [(.int (1 : Int32)), (.int v13_48), (.int (x3 &&& (2147483647 : Int32))), (.int (1 : Int32))]))
    refine Goes.via (fun _ kk_ => XS.isub X49.here hx rfl (hb hby at_133) rfl kk_) ?_
    show Goes p e below _ (T49.setTop (mkF m 134 #[.val (.int x0), .val (.int x1), .val (.int x2), .val (.int x3), .val (.int x4), .val (.int x5), .val (.int (3 : Int32)), .val (.int v7_45), .val (.int v13_48), .val (.long ((0 : Int64) ||| ((1 : Int64) <<< (v13_48 &&& 0x3f).toInt64))), .second, .val (.long ((0 : Int64) + (own_c3 v13_48))), .second, .val (.int v13_48)] [(.int (v13_48 - (1 : Int32))), (.int (x3 &&& (2147483647 : Int32))), (.int (1 : Int32))]))
    refine Goes.via (fun _ kk_ => iremM X49 hx rfl (hb hby at_134) rfl (own_nz0 (own_dk (k := 1) hnu2 (by decide) (by omega)) (by omega)) kk_) ?_
    show Goes p e below _ (T49.setTop (mkF m 135 #[.val (.int x0), .val (.int x1), .val (.int x2), .val (.int x3), .val (.int x4), .val (.int x5), .val (.int (3 : Int32)), .val (.int v7_45), .val (.int v13_48), .val (.long ((0 : Int64) ||| ((1 : Int64) <<< (v13_48 &&& 0x3f).toInt64))), .second, .val (.long ((0 : Int64) + (own_c3 v13_48))), .second, .val (.int v13_48)] [(.int ((x3 &&& (2147483647 : Int32)) % (v13_48 - (1 : Int32)))), (.int (1 : Int32))]))
    refine Goes.via (fun _ kk_ => XS.iadd X49.here hx rfl (hb hby at_135) rfl kk_) ?_
    show Goes p e below _ (T49.setTop (mkF m 136 #[.val (.int x0), .val (.int x1), .val (.int x2), .val (.int x3), .val (.int x4), .val (.int x5), .val (.int (3 : Int32)), .val (.int v7_45), .val (.int v13_48), .val (.long ((0 : Int64) ||| ((1 : Int64) <<< (v13_48 &&& 0x3f).toInt64))), .second, .val (.long ((0 : Int64) + (own_c3 v13_48))), .second, .val (.int v13_48)] [(.int ((1 : Int32) + ((x3 &&& (2147483647 : Int32)) % (v13_48 - (1 : Int32)))))]))
    refine Goes.via (fun _ kk_ => XS.istore X49.here hx rfl (hb hby at_136) rfl (l' := #[.val (.int x0), .val (.int x1), .val (.int x2), .val (.int x3), .val (.int x4), .val (.int x5), .val (.int (3 : Int32)), .val (.int v7_45), .val (.int v13_48), .val (.long ((0 : Int64) ||| ((1 : Int64) <<< (v13_48 &&& 0x3f).toInt64))), .second, .val (.long ((0 : Int64) + (own_c3 v13_48))), .second, .val (.int ((1 : Int32) + ((x3 &&& (2147483647 : Int32)) % (v13_48 - (1 : Int32)))))]) rfl kk_) ?_
    show Goes p e below _ (T49.setTop (mkF m 138 #[.val (.int x0), .val (.int x1), .val (.int x2), .val (.int x3), .val (.int x4), .val (.int x5), .val (.int (3 : Int32)), .val (.int v7_45), .val (.int v13_48), .val (.long ((0 : Int64) ||| ((1 : Int64) <<< (v13_48 &&& 0x3f).toInt64))), .second, .val (.long ((0 : Int64) + (own_c3 v13_48))), .second, .val (.int ((1 : Int32) + ((x3 &&& (2147483647 : Int32)) % (v13_48 - (1 : Int32)))))] []))
    generalize hv_v13_51 : ((1 : Int32) + ((x3 &&& (2147483647 : Int32)) % (v13_48 - (1 : Int32)))) = v13_51
    show Goes p e below _ (T49.setTop (mkF m 138 #[.val (.int x0), .val (.int x1), .val (.int x2), .val (.int x3), .val (.int x4), .val (.int x5), .val (.int (3 : Int32)), .val (.int v7_45), .val (.int v13_48), .val (.long ((0 : Int64) ||| ((1 : Int64) <<< (v13_48 &&& 0x3f).toInt64))), .second, .val (.long ((0 : Int64) + (own_c3 v13_48))), .second, .val (.int v13_51)] []))
    obtain ⟨nu1, hnu1, hnu1a, hnu1b⟩ := own_pick (k := 1) (c := (1 : Int32)) hnu2 (by omega) (by decide) (by omega) hv_v13_51
    refine Goes.via (fun _ kk_ => XS.lload X49.here hx rfl (hb hby at_138) rfl  kk_) ?_
    show Goes p e below _ (T49.setTop (mkF m 140 #[.val (.int x0), .val (.int x1), .val (.int x2), .val (.int x3), .val (.int x4), .val (.int x5), .val (.int (3 : Int32)), .val (.int v7_45), .val (.int v13_48), .val (.long ((0 : Int64) ||| ((1 : Int64) <<< (v13_48 &&& 0x3f).toInt64))), .second, .val (.long ((0 : Int64) + (own_c3 v13_48))), .second, .val (.int v13_51)] [(.long ((0 : Int64) ||| ((1 : Int64) <<< (v13_48 &&& 0x3f).toInt64)))]))
    refine Goes.via (fun _ kk_ => XS.lconst X49.here hx rfl (hb hby at_140) kk_) ?_
    show Goes p e below _ (T49.setTop (mkF m 141 #[.val (.int x0), .val (.int x1), .val (.int x2), .val (.int x3), .val (.int x4), .val (.int x5), .val (.int (3 : Int32)), .val (.int v7_45), .val (.int v13_48), .val (.long ((0 : Int64) ||| ((1 : Int64) <<< (v13_48 &&& 0x3f).toInt64))), .second, .val (.long ((0 : Int64) + (own_c3 v13_48))), .second, .val (.int v13_51)] [(.long (1 : Int64)), (.long ((0 : Int64) ||| ((1 : Int64) <<< (v13_48 &&& 0x3f).toInt64)))]))
    refine Goes.via (fun _ kk_ => XS.iload X49.here hx rfl (hb hby at_141) rfl  kk_) ?_
    show Goes p e below _ (T49.setTop (mkF m 143 #[.val (.int x0), .val (.int x1), .val (.int x2), .val (.int x3), .val (.int x4), .val (.int x5), .val (.int (3 : Int32)), .val (.int v7_45), .val (.int v13_48), .val (.long ((0 : Int64) ||| ((1 : Int64) <<< (v13_48 &&& 0x3f).toInt64))), .second, .val (.long ((0 : Int64) + (own_c3 v13_48))), .second, .val (.int v13_51)] [(.int v13_51), (.long (1 : Int64)), (.long ((0 : Int64) ||| ((1 : Int64) <<< (v13_48 &&& 0x3f).toInt64)))]))
    refine Goes.via (fun _ kk_ => XS.lshl X49.here hx rfl (hb hby at_143) rfl kk_) ?_
    show Goes p e below _ (T49.setTop (mkF m 144 #[.val (.int x0), .val (.int x1), .val (.int x2), .val (.int x3), .val (.int x4), .val (.int x5), .val (.int (3 : Int32)), .val (.int v7_45), .val (.int v13_48), .val (.long ((0 : Int64) ||| ((1 : Int64) <<< (v13_48 &&& 0x3f).toInt64))), .second, .val (.long ((0 : Int64) + (own_c3 v13_48))), .second, .val (.int v13_51)] [(.long ((1 : Int64) <<< (v13_51 &&& 0x3f).toInt64)), (.long ((0 : Int64) ||| ((1 : Int64) <<< (v13_48 &&& 0x3f).toInt64)))]))
    refine Goes.via (fun _ kk_ => XS.lor X49.here hx rfl (hb hby at_144) rfl kk_) ?_
    show Goes p e below _ (T49.setTop (mkF m 145 #[.val (.int x0), .val (.int x1), .val (.int x2), .val (.int x3), .val (.int x4), .val (.int x5), .val (.int (3 : Int32)), .val (.int v7_45), .val (.int v13_48), .val (.long ((0 : Int64) ||| ((1 : Int64) <<< (v13_48 &&& 0x3f).toInt64))), .second, .val (.long ((0 : Int64) + (own_c3 v13_48))), .second, .val (.int v13_51)] [(.long (((0 : Int64) ||| ((1 : Int64) <<< (v13_48 &&& 0x3f).toInt64)) ||| ((1 : Int64) <<< (v13_51 &&& 0x3f).toInt64)))]))
    refine Goes.via (fun _ kk_ => XS.lstore X49.here hx rfl (hb hby at_145) rfl (l' := #[.val (.int x0), .val (.int x1), .val (.int x2), .val (.int x3), .val (.int x4), .val (.int x5), .val (.int (3 : Int32)), .val (.int v7_45), .val (.int v13_48), .val (.long (((0 : Int64) ||| ((1 : Int64) <<< (v13_48 &&& 0x3f).toInt64)) ||| ((1 : Int64) <<< (v13_51 &&& 0x3f).toInt64))), .second, .val (.long ((0 : Int64) + (own_c3 v13_48))), .second, .val (.int v13_51)]) rfl kk_) ?_
    show Goes p e below _ (T49.setTop (mkF m 147 #[.val (.int x0), .val (.int x1), .val (.int x2), .val (.int x3), .val (.int x4), .val (.int x5), .val (.int (3 : Int32)), .val (.int v7_45), .val (.int v13_48), .val (.long (((0 : Int64) ||| ((1 : Int64) <<< (v13_48 &&& 0x3f).toInt64)) ||| ((1 : Int64) <<< (v13_51 &&& 0x3f).toInt64))), .second, .val (.long ((0 : Int64) + (own_c3 v13_48))), .second, .val (.int v13_51)] []))
    refine Goes.via (fun _ kk_ => XS.lload X49.here hx rfl (hb hby at_147) rfl  kk_) ?_
    show Goes p e below _ (T49.setTop (mkF m 149 #[.val (.int x0), .val (.int x1), .val (.int x2), .val (.int x3), .val (.int x4), .val (.int x5), .val (.int (3 : Int32)), .val (.int v7_45), .val (.int v13_48), .val (.long (((0 : Int64) ||| ((1 : Int64) <<< (v13_48 &&& 0x3f).toInt64)) ||| ((1 : Int64) <<< (v13_51 &&& 0x3f).toInt64))), .second, .val (.long ((0 : Int64) + (own_c3 v13_48))), .second, .val (.int v13_51)] [(.long ((0 : Int64) + (own_c3 v13_48)))]))
    refine Goes.via (fun _ kk_ => XS.iload X49.here hx rfl (hb hby at_149) rfl  kk_) ?_
    show Goes p e below _ (T49.setTop (mkF m 151 #[.val (.int x0), .val (.int x1), .val (.int x2), .val (.int x3), .val (.int x4), .val (.int x5), .val (.int (3 : Int32)), .val (.int v7_45), .val (.int v13_48), .val (.long (((0 : Int64) ||| ((1 : Int64) <<< (v13_48 &&& 0x3f).toInt64)) ||| ((1 : Int64) <<< (v13_51 &&& 0x3f).toInt64))), .second, .val (.long ((0 : Int64) + (own_c3 v13_48))), .second, .val (.int v13_51)] [(.int v13_51), (.long ((0 : Int64) + (own_c3 v13_48)))]))
    obtain ⟨_, _, ⟨T52, L52, k52, n52⟩, -, X52, ⟨Lc52, hQ52, l52, y52, z52⟩, st52⟩ := Jvm.LawKit.callS X49 hx (y := (⟨"com/example/checks_on_duty/checksonduty/engine/RankedSetsSetPinLaw", "c2", "(I)J"⟩ : MethodName)) hown (mvT hZ (hw _ (List.mem_of_getElem? (i := 37) rfl))) (mvT hZ (hw _ (List.mem_of_getElem? (i := 38) rfl))) (mvT hZ (hw _ (List.mem_of_getElem? (i := 28) rfl))) (mvT hZ (hw _ (List.mem_of_getElem? (i := 39) rfl))) (by decide) (backOf (W := 2) (rm7 l Z a0 hw [] v13_51 h0 n0 (Nat.le_trans Z0 (Nat.le_refl _)) ) hZ (hw _ (List.mem_of_getElem? (i := 39) rfl)) (hw _ (List.mem_of_getElem? (i := 28) rfl)) (by decide) (by decide)) (g := (mkF m 151 #[.val (.int x0), .val (.int x1), .val (.int x2), .val (.int x3), .val (.int x4), .val (.int x5), .val (.int (3 : Int32)), .val (.int v7_45), .val (.int v13_48), .val (.long (((0 : Int64) ||| ((1 : Int64) <<< (v13_48 &&& 0x3f).toInt64)) ||| ((1 : Int64) <<< (v13_51 &&& 0x3f).toInt64))), .second, .val (.long ((0 : Int64) + (own_c3 v13_48))), .second, .val (.int v13_51)] [(.int v13_51), (.long ((0 : Int64) + (own_c3 v13_48)))])) rfl (by rw [hml]; rfl) (argsL := [(.int v13_51)]) (rest := [(.long ((0 : Int64) + (own_c3 v13_48)))]) (lenOf pd_3 rfl) rfl (by show 2 * 0 + _ ≤ _; exact Nat.le_of_eq rfl) (hb hby at_151) (fun _ _ => ⟨rfl, e49', (by first | decide | omega | (dsimp only; omega) : 0 + 0 ≤ _), (by first | decide | omega | (dsimp only; omega) : 0 + 0 ≤ _)⟩)
    dsimp only [Pt.U, Pt.locs, Pt.cells, Pt.slots] at X52 l52 y52 z52 st52 hQ52
    subst l52 y52 z52
    obtain ⟨rfl, N52q, e52⟩ := hQ52
    have N52 := Fr.app N49 N52q
    refine Goes.via st52 ?_
    have e52' : T52.heap = h0 := e52
    show Goes p e below _ (T52.setTop (mkF m 154 #[.val (.int x0), .val (.int x1), .val (.int x2), .val (.int x3), .val (.int x4), .val (.int x5), .val (.int (3 : Int32)), .val (.int v7_45), .val (.int v13_48), .val (.long (((0 : Int64) ||| ((1 : Int64) <<< (v13_48 &&& 0x3f).toInt64)) ||| ((1 : Int64) <<< (v13_51 &&& 0x3f).toInt64))), .second, .val (.long ((0 : Int64) + (own_c3 v13_48))), .second, .val (.int v13_51)] [(.long (own_c2 v13_51)), (.long ((0 : Int64) + (own_c3 v13_48)))]))
    refine Goes.via (fun _ kk_ => XS.ladd X52.here hx rfl (hb hby at_154) rfl kk_) ?_
    show Goes p e below _ (T52.setTop (mkF m 155 #[.val (.int x0), .val (.int x1), .val (.int x2), .val (.int x3), .val (.int x4), .val (.int x5), .val (.int (3 : Int32)), .val (.int v7_45), .val (.int v13_48), .val (.long (((0 : Int64) ||| ((1 : Int64) <<< (v13_48 &&& 0x3f).toInt64)) ||| ((1 : Int64) <<< (v13_51 &&& 0x3f).toInt64))), .second, .val (.long ((0 : Int64) + (own_c3 v13_48))), .second, .val (.int v13_51)] [(.long (((0 : Int64) + (own_c3 v13_48)) + (own_c2 v13_51)))]))
    refine Goes.via (fun _ kk_ => XS.lstore X52.here hx rfl (hb hby at_155) rfl (l' := #[.val (.int x0), .val (.int x1), .val (.int x2), .val (.int x3), .val (.int x4), .val (.int x5), .val (.int (3 : Int32)), .val (.int v7_45), .val (.int v13_48), .val (.long (((0 : Int64) ||| ((1 : Int64) <<< (v13_48 &&& 0x3f).toInt64)) ||| ((1 : Int64) <<< (v13_51 &&& 0x3f).toInt64))), .second, .val (.long (((0 : Int64) + (own_c3 v13_48)) + (own_c2 v13_51))), .second, .val (.int v13_51)]) rfl kk_) ?_
    show Goes p e below _ (T52.setTop (mkF m 157 #[.val (.int x0), .val (.int x1), .val (.int x2), .val (.int x3), .val (.int x4), .val (.int x5), .val (.int (3 : Int32)), .val (.int v7_45), .val (.int v13_48), .val (.long (((0 : Int64) ||| ((1 : Int64) <<< (v13_48 &&& 0x3f).toInt64)) ||| ((1 : Int64) <<< (v13_51 &&& 0x3f).toInt64))), .second, .val (.long (((0 : Int64) + (own_c3 v13_48)) + (own_c2 v13_51))), .second, .val (.int v13_51)] []))
    refine Goes.via (fun _ kk_ => XS.iload X52.here hx rfl (hb hby at_157) rfl  kk_) ?_
    show Goes p e below _ (T52.setTop (mkF m 159 #[.val (.int x0), .val (.int x1), .val (.int x2), .val (.int x3), .val (.int x4), .val (.int x5), .val (.int (3 : Int32)), .val (.int v7_45), .val (.int v13_48), .val (.long (((0 : Int64) ||| ((1 : Int64) <<< (v13_48 &&& 0x3f).toInt64)) ||| ((1 : Int64) <<< (v13_51 &&& 0x3f).toInt64))), .second, .val (.long (((0 : Int64) + (own_c3 v13_48)) + (own_c2 v13_51))), .second, .val (.int v13_51)] [(.int v13_51)]))
    refine Goes.via (fun _ kk_ => XS.istore X52.here hx rfl (hb hby at_159) rfl (l' := #[.val (.int x0), .val (.int x1), .val (.int x2), .val (.int x3), .val (.int x4), .val (.int x5), .val (.int (3 : Int32)), .val (.int v7_45), .val (.int v13_51), .val (.long (((0 : Int64) ||| ((1 : Int64) <<< (v13_48 &&& 0x3f).toInt64)) ||| ((1 : Int64) <<< (v13_51 &&& 0x3f).toInt64))), .second, .val (.long (((0 : Int64) + (own_c3 v13_48)) + (own_c2 v13_51))), .second, .val (.int v13_51)]) rfl kk_) ?_
    show Goes p e below _ (T52.setTop (mkF m 161 #[.val (.int x0), .val (.int x1), .val (.int x2), .val (.int x3), .val (.int x4), .val (.int x5), .val (.int (3 : Int32)), .val (.int v7_45), .val (.int v13_51), .val (.long (((0 : Int64) ||| ((1 : Int64) <<< (v13_48 &&& 0x3f).toInt64)) ||| ((1 : Int64) <<< (v13_51 &&& 0x3f).toInt64))), .second, .val (.long (((0 : Int64) + (own_c3 v13_48)) + (own_c2 v13_51))), .second, .val (.int v13_51)] []))
    refine Goes.via (fun _ kk_ => XS.iload X52.here hx rfl (hb hby at_161) rfl  kk_) ?_
    show Goes p e below _ (T52.setTop (mkF m 163 #[.val (.int x0), .val (.int x1), .val (.int x2), .val (.int x3), .val (.int x4), .val (.int x5), .val (.int (3 : Int32)), .val (.int v7_45), .val (.int v13_51), .val (.long (((0 : Int64) ||| ((1 : Int64) <<< (v13_48 &&& 0x3f).toInt64)) ||| ((1 : Int64) <<< (v13_51 &&& 0x3f).toInt64))), .second, .val (.long (((0 : Int64) + (own_c3 v13_48)) + (own_c2 v13_51))), .second, .val (.int v13_51)] [(.int (3 : Int32))]))
    refine Goes.via (fun _ kk_ => XS.iconst X52.here hx rfl (hb hby at_163) kk_) ?_
    show Goes p e below _ (T52.setTop (mkF m 164 #[.val (.int x0), .val (.int x1), .val (.int x2), .val (.int x3), .val (.int x4), .val (.int x5), .val (.int (3 : Int32)), .val (.int v7_45), .val (.int v13_51), .val (.long (((0 : Int64) ||| ((1 : Int64) <<< (v13_48 &&& 0x3f).toInt64)) ||| ((1 : Int64) <<< (v13_51 &&& 0x3f).toInt64))), .second, .val (.long (((0 : Int64) + (own_c3 v13_48)) + (own_c2 v13_51))), .second, .val (.int v13_51)] [(.int (1 : Int32)), (.int (3 : Int32))]))
    have hc164_53 : ¬ ((3 : Int32) < (1 : Int32)) := (by decide)
    refine Goes.via (fun _ kk_ => XS.icmpNo X52.here hx rfl (hb hby at_164) rfl (flt hc164_53).1 kk_) ?_
    show Goes p e below _ (T52.setTop (mkF m 167 #[.val (.int x0), .val (.int x1), .val (.int x2), .val (.int x3), .val (.int x4), .val (.int x5), .val (.int (3 : Int32)), .val (.int v7_45), .val (.int v13_51), .val (.long (((0 : Int64) ||| ((1 : Int64) <<< (v13_48 &&& 0x3f).toInt64)) ||| ((1 : Int64) <<< (v13_51 &&& 0x3f).toInt64))), .second, .val (.long (((0 : Int64) + (own_c3 v13_48)) + (own_c2 v13_51))), .second, .val (.int v13_51)] []))
    refine Goes.via (fun _ kk_ => XS.iloadN X52.here hx rfl (hb hby at_167) rfl  kk_) ?_
    show Goes p e below _ (T52.setTop (mkF m 168 #[.val (.int x0), .val (.int x1), .val (.int x2), .val (.int x3), .val (.int x4), .val (.int x5), .val (.int (3 : Int32)), .val (.int v7_45), .val (.int v13_51), .val (.long (((0 : Int64) ||| ((1 : Int64) <<< (v13_48 &&& 0x3f).toInt64)) ||| ((1 : Int64) <<< (v13_51 &&& 0x3f).toInt64))), .second, .val (.long (((0 : Int64) + (own_c3 v13_48)) + (own_c2 v13_51))), .second, .val (.int v13_51)] [(.int x2)]))
    refine Goes.via (X52.ldcInt hx hown (mvT hZ (hw _ (List.mem_of_getElem? (i := 0) rfl))) (g := (mkF m 168 #[.val (.int x0), .val (.int x1), .val (.int x2), .val (.int x3), .val (.int x4), .val (.int x5), .val (.int (3 : Int32)), .val (.int v7_45), .val (.int v13_51), .val (.long (((0 : Int64) ||| ((1 : Int64) <<< (v13_48 &&& 0x3f).toInt64)) ||| ((1 : Int64) <<< (v13_51 &&& 0x3f).toInt64))), .second, .val (.long (((0 : Int64) + (own_c3 v13_48)) + (own_c2 v13_51))), .second, .val (.int v13_51)] [(.int x2)])) rfl (hb hby at_168)) ?_
    show Goes p e below _ (T52.setTop (mkF m 170 #[.val (.int x0), .val (.int x1), .val (.int x2), .val (.int x3), .val (.int x4), .val (.int x5), .val (.int (3 : Int32)), .val (.int v7_45), .val (.int v13_51), .val (.long (((0 : Int64) ||| ((1 : Int64) <<< (v13_48 &&& 0x3f).toInt64)) ||| ((1 : Int64) <<< (v13_51 &&& 0x3f).toInt64))), .second, .val (.long (((0 : Int64) + (own_c3 v13_48)) + (own_c2 v13_51))), .second, .val (.int v13_51)] [(.int (2147483647 : Int32)), (.int x2)]))
    refine Goes.via (fun _ kk_ => XS.iand X52.here hx rfl (hb hby at_170) rfl kk_) ?_
    show Goes p e below _ (T52.setTop (mkF m 171 #[.val (.int x0), .val (.int x1), .val (.int x2), .val (.int x3), .val (.int x4), .val (.int x5), .val (.int (3 : Int32)), .val (.int v7_45), .val (.int v13_51), .val (.long (((0 : Int64) ||| ((1 : Int64) <<< (v13_48 &&& 0x3f).toInt64)) ||| ((1 : Int64) <<< (v13_51 &&& 0x3f).toInt64))), .second, .val (.long (((0 : Int64) + (own_c3 v13_48)) + (own_c2 v13_51))), .second, .val (.int v13_51)] [(.int (x2 &&& (2147483647 : Int32)))]))
    refine Goes.via (fun _ kk_ => XS.iload X52.here hx rfl (hb hby at_171) rfl  kk_) ?_
    show Goes p e below _ (T52.setTop (mkF m 173 #[.val (.int x0), .val (.int x1), .val (.int x2), .val (.int x3), .val (.int x4), .val (.int x5), .val (.int (3 : Int32)), .val (.int v7_45), .val (.int v13_51), .val (.long (((0 : Int64) ||| ((1 : Int64) <<< (v13_48 &&& 0x3f).toInt64)) ||| ((1 : Int64) <<< (v13_51 &&& 0x3f).toInt64))), .second, .val (.long (((0 : Int64) + (own_c3 v13_48)) + (own_c2 v13_51))), .second, .val (.int v13_51)] [(.int v13_51), (.int (x2 &&& (2147483647 : Int32)))]))
    refine Goes.via (fun _ kk_ => iremM X52 hx rfl (hb hby at_173) rfl (own_nz0 hnu1 (by omega)) kk_) ?_
    show Goes p e below _ (T52.setTop (mkF m 174 #[.val (.int x0), .val (.int x1), .val (.int x2), .val (.int x3), .val (.int x4), .val (.int x5), .val (.int (3 : Int32)), .val (.int v7_45), .val (.int v13_51), .val (.long (((0 : Int64) ||| ((1 : Int64) <<< (v13_48 &&& 0x3f).toInt64)) ||| ((1 : Int64) <<< (v13_51 &&& 0x3f).toInt64))), .second, .val (.long (((0 : Int64) + (own_c3 v13_48)) + (own_c2 v13_51))), .second, .val (.int v13_51)] [(.int ((x2 &&& (2147483647 : Int32)) % v13_51))]))
    refine Goes.via (fun _ kk_ => XS.istore X52.here hx rfl (hb hby at_174) rfl (l' := #[.val (.int x0), .val (.int x1), .val (.int x2), .val (.int x3), .val (.int x4), .val (.int x5), .val (.int (3 : Int32)), .val (.int v7_45), .val (.int v13_51), .val (.long (((0 : Int64) ||| ((1 : Int64) <<< (v13_48 &&& 0x3f).toInt64)) ||| ((1 : Int64) <<< (v13_51 &&& 0x3f).toInt64))), .second, .val (.long (((0 : Int64) + (own_c3 v13_48)) + (own_c2 v13_51))), .second, .val (.int ((x2 &&& (2147483647 : Int32)) % v13_51))]) rfl kk_) ?_
    show Goes p e below _ (T52.setTop (mkF m 176 #[.val (.int x0), .val (.int x1), .val (.int x2), .val (.int x3), .val (.int x4), .val (.int x5), .val (.int (3 : Int32)), .val (.int v7_45), .val (.int v13_51), .val (.long (((0 : Int64) ||| ((1 : Int64) <<< (v13_48 &&& 0x3f).toInt64)) ||| ((1 : Int64) <<< (v13_51 &&& 0x3f).toInt64))), .second, .val (.long (((0 : Int64) + (own_c3 v13_48)) + (own_c2 v13_51))), .second, .val (.int ((x2 &&& (2147483647 : Int32)) % v13_51))] []))
    generalize hv_v13_54 : ((x2 &&& (2147483647 : Int32)) % v13_51) = v13_54
    show Goes p e below _ (T52.setTop (mkF m 176 #[.val (.int x0), .val (.int x1), .val (.int x2), .val (.int x3), .val (.int x4), .val (.int x5), .val (.int (3 : Int32)), .val (.int v7_45), .val (.int v13_51), .val (.long (((0 : Int64) ||| ((1 : Int64) <<< (v13_48 &&& 0x3f).toInt64)) ||| ((1 : Int64) <<< (v13_51 &&& 0x3f).toInt64))), .second, .val (.long (((0 : Int64) + (own_c3 v13_48)) + (own_c2 v13_51))), .second, .val (.int v13_54)] []))
    obtain ⟨nu0, hnu0, hnu0b⟩ := own_pick0 hnu1 (by omega) hv_v13_54
    refine Goes.via (fun _ kk_ => XS.lload X52.here hx rfl (hb hby at_176) rfl  kk_) ?_
    show Goes p e below _ (T52.setTop (mkF m 178 #[.val (.int x0), .val (.int x1), .val (.int x2), .val (.int x3), .val (.int x4), .val (.int x5), .val (.int (3 : Int32)), .val (.int v7_45), .val (.int v13_51), .val (.long (((0 : Int64) ||| ((1 : Int64) <<< (v13_48 &&& 0x3f).toInt64)) ||| ((1 : Int64) <<< (v13_51 &&& 0x3f).toInt64))), .second, .val (.long (((0 : Int64) + (own_c3 v13_48)) + (own_c2 v13_51))), .second, .val (.int v13_54)] [(.long (((0 : Int64) ||| ((1 : Int64) <<< (v13_48 &&& 0x3f).toInt64)) ||| ((1 : Int64) <<< (v13_51 &&& 0x3f).toInt64)))]))
    refine Goes.via (fun _ kk_ => XS.lconst X52.here hx rfl (hb hby at_178) kk_) ?_
    show Goes p e below _ (T52.setTop (mkF m 179 #[.val (.int x0), .val (.int x1), .val (.int x2), .val (.int x3), .val (.int x4), .val (.int x5), .val (.int (3 : Int32)), .val (.int v7_45), .val (.int v13_51), .val (.long (((0 : Int64) ||| ((1 : Int64) <<< (v13_48 &&& 0x3f).toInt64)) ||| ((1 : Int64) <<< (v13_51 &&& 0x3f).toInt64))), .second, .val (.long (((0 : Int64) + (own_c3 v13_48)) + (own_c2 v13_51))), .second, .val (.int v13_54)] [(.long (1 : Int64)), (.long (((0 : Int64) ||| ((1 : Int64) <<< (v13_48 &&& 0x3f).toInt64)) ||| ((1 : Int64) <<< (v13_51 &&& 0x3f).toInt64)))]))
    refine Goes.via (fun _ kk_ => XS.iload X52.here hx rfl (hb hby at_179) rfl  kk_) ?_
    show Goes p e below _ (T52.setTop (mkF m 181 #[.val (.int x0), .val (.int x1), .val (.int x2), .val (.int x3), .val (.int x4), .val (.int x5), .val (.int (3 : Int32)), .val (.int v7_45), .val (.int v13_51), .val (.long (((0 : Int64) ||| ((1 : Int64) <<< (v13_48 &&& 0x3f).toInt64)) ||| ((1 : Int64) <<< (v13_51 &&& 0x3f).toInt64))), .second, .val (.long (((0 : Int64) + (own_c3 v13_48)) + (own_c2 v13_51))), .second, .val (.int v13_54)] [(.int v13_54), (.long (1 : Int64)), (.long (((0 : Int64) ||| ((1 : Int64) <<< (v13_48 &&& 0x3f).toInt64)) ||| ((1 : Int64) <<< (v13_51 &&& 0x3f).toInt64)))]))
    refine Goes.via (fun _ kk_ => XS.lshl X52.here hx rfl (hb hby at_181) rfl kk_) ?_
    show Goes p e below _ (T52.setTop (mkF m 182 #[.val (.int x0), .val (.int x1), .val (.int x2), .val (.int x3), .val (.int x4), .val (.int x5), .val (.int (3 : Int32)), .val (.int v7_45), .val (.int v13_51), .val (.long (((0 : Int64) ||| ((1 : Int64) <<< (v13_48 &&& 0x3f).toInt64)) ||| ((1 : Int64) <<< (v13_51 &&& 0x3f).toInt64))), .second, .val (.long (((0 : Int64) + (own_c3 v13_48)) + (own_c2 v13_51))), .second, .val (.int v13_54)] [(.long ((1 : Int64) <<< (v13_54 &&& 0x3f).toInt64)), (.long (((0 : Int64) ||| ((1 : Int64) <<< (v13_48 &&& 0x3f).toInt64)) ||| ((1 : Int64) <<< (v13_51 &&& 0x3f).toInt64)))]))
    refine Goes.via (fun _ kk_ => XS.lor X52.here hx rfl (hb hby at_182) rfl kk_) ?_
    show Goes p e below _ (T52.setTop (mkF m 183 #[.val (.int x0), .val (.int x1), .val (.int x2), .val (.int x3), .val (.int x4), .val (.int x5), .val (.int (3 : Int32)), .val (.int v7_45), .val (.int v13_51), .val (.long (((0 : Int64) ||| ((1 : Int64) <<< (v13_48 &&& 0x3f).toInt64)) ||| ((1 : Int64) <<< (v13_51 &&& 0x3f).toInt64))), .second, .val (.long (((0 : Int64) + (own_c3 v13_48)) + (own_c2 v13_51))), .second, .val (.int v13_54)] [(.long ((((0 : Int64) ||| ((1 : Int64) <<< (v13_48 &&& 0x3f).toInt64)) ||| ((1 : Int64) <<< (v13_51 &&& 0x3f).toInt64)) ||| ((1 : Int64) <<< (v13_54 &&& 0x3f).toInt64)))]))
    refine Goes.via (fun _ kk_ => XS.lstore X52.here hx rfl (hb hby at_183) rfl (l' := #[.val (.int x0), .val (.int x1), .val (.int x2), .val (.int x3), .val (.int x4), .val (.int x5), .val (.int (3 : Int32)), .val (.int v7_45), .val (.int v13_51), .val (.long ((((0 : Int64) ||| ((1 : Int64) <<< (v13_48 &&& 0x3f).toInt64)) ||| ((1 : Int64) <<< (v13_51 &&& 0x3f).toInt64)) ||| ((1 : Int64) <<< (v13_54 &&& 0x3f).toInt64))), .second, .val (.long (((0 : Int64) + (own_c3 v13_48)) + (own_c2 v13_51))), .second, .val (.int v13_54)]) rfl kk_) ?_
    show Goes p e below _ (T52.setTop (mkF m 185 #[.val (.int x0), .val (.int x1), .val (.int x2), .val (.int x3), .val (.int x4), .val (.int x5), .val (.int (3 : Int32)), .val (.int v7_45), .val (.int v13_51), .val (.long ((((0 : Int64) ||| ((1 : Int64) <<< (v13_48 &&& 0x3f).toInt64)) ||| ((1 : Int64) <<< (v13_51 &&& 0x3f).toInt64)) ||| ((1 : Int64) <<< (v13_54 &&& 0x3f).toInt64))), .second, .val (.long (((0 : Int64) + (own_c3 v13_48)) + (own_c2 v13_51))), .second, .val (.int v13_54)] []))
    refine Goes.via (fun _ kk_ => XS.lload X52.here hx rfl (hb hby at_185) rfl  kk_) ?_
    show Goes p e below _ (T52.setTop (mkF m 187 #[.val (.int x0), .val (.int x1), .val (.int x2), .val (.int x3), .val (.int x4), .val (.int x5), .val (.int (3 : Int32)), .val (.int v7_45), .val (.int v13_51), .val (.long ((((0 : Int64) ||| ((1 : Int64) <<< (v13_48 &&& 0x3f).toInt64)) ||| ((1 : Int64) <<< (v13_51 &&& 0x3f).toInt64)) ||| ((1 : Int64) <<< (v13_54 &&& 0x3f).toInt64))), .second, .val (.long (((0 : Int64) + (own_c3 v13_48)) + (own_c2 v13_51))), .second, .val (.int v13_54)] [(.long (((0 : Int64) + (own_c3 v13_48)) + (own_c2 v13_51)))]))
    refine Goes.via (fun _ kk_ => XS.iload X52.here hx rfl (hb hby at_187) rfl  kk_) ?_
    show Goes p e below _ (T52.setTop (mkF m 189 #[.val (.int x0), .val (.int x1), .val (.int x2), .val (.int x3), .val (.int x4), .val (.int x5), .val (.int (3 : Int32)), .val (.int v7_45), .val (.int v13_51), .val (.long ((((0 : Int64) ||| ((1 : Int64) <<< (v13_48 &&& 0x3f).toInt64)) ||| ((1 : Int64) <<< (v13_51 &&& 0x3f).toInt64)) ||| ((1 : Int64) <<< (v13_54 &&& 0x3f).toInt64))), .second, .val (.long (((0 : Int64) + (own_c3 v13_48)) + (own_c2 v13_51))), .second, .val (.int v13_54)] [(.int v13_54), (.long (((0 : Int64) + (own_c3 v13_48)) + (own_c2 v13_51)))]))
    refine Goes.via (fun _ kk_ => XS.i2l X52.here hx rfl (hb hby at_189) rfl kk_) ?_
    show Goes p e below _ (T52.setTop (mkF m 190 #[.val (.int x0), .val (.int x1), .val (.int x2), .val (.int x3), .val (.int x4), .val (.int x5), .val (.int (3 : Int32)), .val (.int v7_45), .val (.int v13_51), .val (.long ((((0 : Int64) ||| ((1 : Int64) <<< (v13_48 &&& 0x3f).toInt64)) ||| ((1 : Int64) <<< (v13_51 &&& 0x3f).toInt64)) ||| ((1 : Int64) <<< (v13_54 &&& 0x3f).toInt64))), .second, .val (.long (((0 : Int64) + (own_c3 v13_48)) + (own_c2 v13_51))), .second, .val (.int v13_54)] [(.long (v13_54.toInt64)), (.long (((0 : Int64) + (own_c3 v13_48)) + (own_c2 v13_51)))]))
    refine Goes.via (fun _ kk_ => XS.ladd X52.here hx rfl (hb hby at_190) rfl kk_) ?_
    show Goes p e below _ (T52.setTop (mkF m 191 #[.val (.int x0), .val (.int x1), .val (.int x2), .val (.int x3), .val (.int x4), .val (.int x5), .val (.int (3 : Int32)), .val (.int v7_45), .val (.int v13_51), .val (.long ((((0 : Int64) ||| ((1 : Int64) <<< (v13_48 &&& 0x3f).toInt64)) ||| ((1 : Int64) <<< (v13_51 &&& 0x3f).toInt64)) ||| ((1 : Int64) <<< (v13_54 &&& 0x3f).toInt64))), .second, .val (.long (((0 : Int64) + (own_c3 v13_48)) + (own_c2 v13_51))), .second, .val (.int v13_54)] [(.long ((((0 : Int64) + (own_c3 v13_48)) + (own_c2 v13_51)) + (v13_54.toInt64)))]))
    refine Goes.via (fun _ kk_ => XS.lstore X52.here hx rfl (hb hby at_191) rfl (l' := #[.val (.int x0), .val (.int x1), .val (.int x2), .val (.int x3), .val (.int x4), .val (.int x5), .val (.int (3 : Int32)), .val (.int v7_45), .val (.int v13_51), .val (.long ((((0 : Int64) ||| ((1 : Int64) <<< (v13_48 &&& 0x3f).toInt64)) ||| ((1 : Int64) <<< (v13_51 &&& 0x3f).toInt64)) ||| ((1 : Int64) <<< (v13_54 &&& 0x3f).toInt64))), .second, .val (.long ((((0 : Int64) + (own_c3 v13_48)) + (own_c2 v13_51)) + (v13_54.toInt64))), .second, .val (.int v13_54)]) rfl kk_) ?_
    show Goes p e below _ (T52.setTop (mkF m 193 #[.val (.int x0), .val (.int x1), .val (.int x2), .val (.int x3), .val (.int x4), .val (.int x5), .val (.int (3 : Int32)), .val (.int v7_45), .val (.int v13_51), .val (.long ((((0 : Int64) ||| ((1 : Int64) <<< (v13_48 &&& 0x3f).toInt64)) ||| ((1 : Int64) <<< (v13_51 &&& 0x3f).toInt64)) ||| ((1 : Int64) <<< (v13_54 &&& 0x3f).toInt64))), .second, .val (.long ((((0 : Int64) + (own_c3 v13_48)) + (own_c2 v13_51)) + (v13_54.toInt64))), .second, .val (.int v13_54)] []))
    have hxs : own_dn nm [nu2, nu1, nu0] := ⟨(by omega), (by omega), (by omega), trivial⟩
    have hrkE : own_rk [nu2, nu1, nu0] = (own_B nu2 3 + (own_B nu1 2 + (own_B nu0 1 + 0))) := rfl
    have hB3 := own_B_le (i := nu2) (j := 3) (by omega) (by decide)
    have hB2 := own_B_le (i := nu1) (j := 2) (by omega) (by decide)
    have hB1 := own_B_le (i := nu0) (j := 1) (by omega) (by decide)
    have hrk : (((((0 : Int64) + (own_c3 v13_48)) + (own_c2 v13_51)) + (v13_54.toInt64))).toInt = ((own_rk [nu2, nu1, nu0] : Nat) : Int) := by
      have z0 : (0 : Int64).toInt = ((0 : Nat) : Int) := by decide
      have z1 := own_addL z0 (own_c3B hnu2 (by omega)) (by omega) rfl
      have z2 := own_addL z1 (own_c2B hnu1 (by omega)) (by omega) rfl
      have z3 := own_addL z2 (by rw [c_i2l, own_c1B (by omega)]; exact hnu0 : (v13_54.toInt64).toInt = ((own_B nu0 1 : Nat) : Int)) (by omega) rfl
      have zz := z3
      rw [hrkE]
      omega
    have hrkb : own_rk [nu2, nu1, nu0] ≤ 9000000 := by rw [hrkE]; omega
    obtain ⟨T55, h55, X55, e55, E55, A55, D55, -, st55⟩ := newO X52 hx hZ hown (hw _ (List.mem_of_getElem? (i := 1) rfl)) (hw _ (List.mem_of_getElem? (i := 2) rfl)) (hw _ (List.mem_of_getElem? (i := 3) rfl)) e52' (g := (mkF m 193 #[.val (.int x0), .val (.int x1), .val (.int x2), .val (.int x3), .val (.int x4), .val (.int x5), .val (.int (3 : Int32)), .val (.int v7_45), .val (.int v13_51), .val (.long ((((0 : Int64) ||| ((1 : Int64) <<< (v13_48 &&& 0x3f).toInt64)) ||| ((1 : Int64) <<< (v13_51 &&& 0x3f).toInt64)) ||| ((1 : Int64) <<< (v13_54 &&& 0x3f).toInt64))), .second, .val (.long ((((0 : Int64) + (own_c3 v13_48)) + (own_c2 v13_51)) + (v13_54.toInt64))), .second, .val (.int v13_54)] [])) rfl (hb hby at_193) (by first | decide | omega | (dsimp only; omega)) (by first | decide | omega | (dsimp only; omega))
    obtain ⟨b55, g55⟩ : ∃ z, z = (h0).size := ⟨_, rfl⟩
    rw [← g55] at A55 D55 st55
    have sz_b55 : h0.size ≤ b55 := Nat.le_trans (Nat.le_refl _) (Nat.le_of_eq g55.symm)
    have gn_b55 : n0 ≤ b55 := Nat.le_trans Z0 sz_b55
    have F_users_b55 : Fld Z h55 b55 "com/example/checks_on_duty/checksonduty/engine/RankedSets" "users" "I" (.int (0 : Int32)) := D55 (Or.inr (hw _ (List.mem_of_getElem? (i := 11) rfl))) (ty := .int) (by decide)
    have F_binomial_b55 : Fld Z h55 b55 "com/example/checks_on_duty/checksonduty/engine/RankedSets" "binomial" "[[J" .null := D55 (Or.inr (hw _ (List.mem_of_getElem? (i := 16) rfl))) (ty := (.array (.array .long))) (by decide)
    refine Goes.via st55 ?_
    show Goes p e below _ (T55.setTop (mkF m 196 #[.val (.int x0), .val (.int x1), .val (.int x2), .val (.int x3), .val (.int x4), .val (.int x5), .val (.int (3 : Int32)), .val (.int v7_45), .val (.int v13_51), .val (.long ((((0 : Int64) ||| ((1 : Int64) <<< (v13_48 &&& 0x3f).toInt64)) ||| ((1 : Int64) <<< (v13_51 &&& 0x3f).toInt64)) ||| ((1 : Int64) <<< (v13_54 &&& 0x3f).toInt64))), .second, .val (.long ((((0 : Int64) + (own_c3 v13_48)) + (own_c2 v13_51)) + (v13_54.toInt64))), .second, .val (.int v13_54)] [(.ref b55)]))
    refine Goes.via (fun _ kk_ => XS.dup X55.here hx rfl (hb hby at_196) rfl rfl kk_) ?_
    show Goes p e below _ (T55.setTop (mkF m 197 #[.val (.int x0), .val (.int x1), .val (.int x2), .val (.int x3), .val (.int x4), .val (.int x5), .val (.int (3 : Int32)), .val (.int v7_45), .val (.int v13_51), .val (.long ((((0 : Int64) ||| ((1 : Int64) <<< (v13_48 &&& 0x3f).toInt64)) ||| ((1 : Int64) <<< (v13_51 &&& 0x3f).toInt64)) ||| ((1 : Int64) <<< (v13_54 &&& 0x3f).toInt64))), .second, .val (.long ((((0 : Int64) + (own_c3 v13_48)) + (own_c2 v13_51)) + (v13_54.toInt64))), .second, .val (.int v13_54)] [(.ref b55), (.ref b55)]))
    refine Goes.via (fun _ kk_ => XS.iload X55.here hx rfl (hb hby at_197) rfl  kk_) ?_
    show Goes p e below _ (T55.setTop (mkF m 199 #[.val (.int x0), .val (.int x1), .val (.int x2), .val (.int x3), .val (.int x4), .val (.int x5), .val (.int (3 : Int32)), .val (.int v7_45), .val (.int v13_51), .val (.long ((((0 : Int64) ||| ((1 : Int64) <<< (v13_48 &&& 0x3f).toInt64)) ||| ((1 : Int64) <<< (v13_51 &&& 0x3f).toInt64)) ||| ((1 : Int64) <<< (v13_54 &&& 0x3f).toInt64))), .second, .val (.long ((((0 : Int64) + (own_c3 v13_48)) + (own_c2 v13_51)) + (v13_54.toInt64))), .second, .val (.int v13_54)] [(.int v7_45), (.ref b55), (.ref b55)]))
    refine Goes.via (fun _ kk_ => XS.iconst X55.here hx rfl (hb hby at_199) kk_) ?_
    show Goes p e below _ (T55.setTop (mkF m 200 #[.val (.int x0), .val (.int x1), .val (.int x2), .val (.int x3), .val (.int x4), .val (.int x5), .val (.int (3 : Int32)), .val (.int v7_45), .val (.int v13_51), .val (.long ((((0 : Int64) ||| ((1 : Int64) <<< (v13_48 &&& 0x3f).toInt64)) ||| ((1 : Int64) <<< (v13_51 &&& 0x3f).toInt64)) ||| ((1 : Int64) <<< (v13_54 &&& 0x3f).toInt64))), .second, .val (.long ((((0 : Int64) + (own_c3 v13_48)) + (own_c2 v13_51)) + (v13_54.toInt64))), .second, .val (.int v13_54)] [(.int (4 : Int32)), (.int v7_45), (.ref b55), (.ref b55)]))
    have z57 : h0.size ≤ (h55).size := (Nat.le_trans (Nat.le_refl _) E55.1)
    obtain ⟨_, _, ⟨T56, L56, k56, n56⟩, -, X56, ⟨Lc56, hQ56, l56, y56, z56⟩, st56⟩ := X55.specialBack hx (y := (⟨"com/example/checks_on_duty/checksonduty/engine/RankedSets", "<init>", "(II)V"⟩ : MethodName)) rfl hown (mvT hZ (hw _ (List.mem_of_getElem? (i := 4) rfl))) (mvT hZ (hw _ (List.mem_of_getElem? (i := 5) rfl))) (mvT hZ (hw _ (List.mem_of_getElem? (i := 6) rfl))) (by decide) (backOf (W := 1) (rm1 l Z a0 hw [] b55 v7_45 (4 : Int32) nm 4 h55 n0 (Nat.le_trans Z0 z57) A55 F_users_b55 F_binomial_b55 gn_b55 hnm (by first | rfl | decide | assumption | omega | (simp; done)) (by first | rfl | decide | assumption | omega | (simp; done)) (by first | rfl | decide | assumption | omega | (simp; done))) hZ (hw _ (List.mem_of_getElem? (i := 6) rfl)) (hw _ (List.mem_of_getElem? (i := 3) rfl)) (by decide) (by decide)) (g := (mkF m 200 #[.val (.int x0), .val (.int x1), .val (.int x2), .val (.int x3), .val (.int x4), .val (.int x5), .val (.int (3 : Int32)), .val (.int v7_45), .val (.int v13_51), .val (.long ((((0 : Int64) ||| ((1 : Int64) <<< (v13_48 &&& 0x3f).toInt64)) ||| ((1 : Int64) <<< (v13_51 &&& 0x3f).toInt64)) ||| ((1 : Int64) <<< (v13_54 &&& 0x3f).toInt64))), .second, .val (.long ((((0 : Int64) + (own_c3 v13_48)) + (own_c2 v13_51)) + (v13_54.toInt64))), .second, .val (.int v13_54)] [(.int (4 : Int32)), (.int v7_45), (.ref b55), (.ref b55)])) rfl (by rw [hml]; rfl) (Steps.refl _) (a := b55) (argsL := [(.int v7_45), (.int (4 : Int32))]) (rest := [(.ref b55)]) (lenOf pd_1 rfl) rfl (by show 2 * 0 + _ ≤ _; exact Nat.le_of_eq rfl) (hb hby at_200) (fun _ _ => ⟨rfl, e55, (by first | decide | omega | (dsimp only; omega) : 1 + 66 ≤ _), (by first | decide | omega | (dsimp only; omega) : 2 + 400 ≤ _)⟩)
    dsimp only [Pt.U, Pt.locs, Pt.cells, Pt.slots] at X56 l56 y56 z56 st56 hQ56
    subst l56 y56 z56
    obtain ⟨g56, kA56, kB56, rfl, N56q, K56, u56_0, u56_1, u56_2, u56_3, u56_4⟩ := hQ56
    have N56 := Fr.app N52 N56q
    refine Goes.tr st56 ?_
    have ne58 : b55 ≠ g56 := Nat.ne_of_lt (Nat.lt_of_lt_of_le A55.lt u56_0)
    have sz_g56 : h0.size ≤ g56 := Nat.le_trans z57 u56_0
    have gn_g56 : n0 ≤ g56 := Nat.le_trans Z0 sz_g56
    -- u56_0 : h0.size ≤ g56
    show Goes p e below _ (T56.setTop (mkF m 203 #[.val (.int x0), .val (.int x1), .val (.int x2), .val (.int x3), .val (.int x4), .val (.int x5), .val (.int (3 : Int32)), .val (.int v7_45), .val (.int v13_51), .val (.long ((((0 : Int64) ||| ((1 : Int64) <<< (v13_48 &&& 0x3f).toInt64)) ||| ((1 : Int64) <<< (v13_51 &&& 0x3f).toInt64)) ||| ((1 : Int64) <<< (v13_54 &&& 0x3f).toInt64))), .second, .val (.long ((((0 : Int64) + (own_c3 v13_48)) + (own_c2 v13_51)) + (v13_54.toInt64))), .second, .val (.int v13_54)] [(.ref b55)]))
    refine Goes.via (fun _ kk_ => XS.astore X56.here hx rfl (hb hby at_203) rfl rfl (l' := #[.val (.int x0), .val (.int x1), .val (.int x2), .val (.int x3), .val (.int x4), .val (.int x5), .val (.int (3 : Int32)), .val (.int v7_45), .val (.int v13_51), .val (.long ((((0 : Int64) ||| ((1 : Int64) <<< (v13_48 &&& 0x3f).toInt64)) ||| ((1 : Int64) <<< (v13_51 &&& 0x3f).toInt64)) ||| ((1 : Int64) <<< (v13_54 &&& 0x3f).toInt64))), .second, .val (.long ((((0 : Int64) + (own_c3 v13_48)) + (own_c2 v13_51)) + (v13_54.toInt64))), .second, .val (.ref b55)]) rfl kk_) ?_
    show Goes p e below _ (T56.setTop (mkF m 205 #[.val (.int x0), .val (.int x1), .val (.int x2), .val (.int x3), .val (.int x4), .val (.int x5), .val (.int (3 : Int32)), .val (.int v7_45), .val (.int v13_51), .val (.long ((((0 : Int64) ||| ((1 : Int64) <<< (v13_48 &&& 0x3f).toInt64)) ||| ((1 : Int64) <<< (v13_51 &&& 0x3f).toInt64)) ||| ((1 : Int64) <<< (v13_54 &&& 0x3f).toInt64))), .second, .val (.long ((((0 : Int64) + (own_c3 v13_48)) + (own_c2 v13_51)) + (v13_54.toInt64))), .second, .val (.ref b55)] []))
    refine Goes.via (fun _ kk_ => XS.aload X56.here hx rfl (hb hby at_205) rfl rfl  kk_) ?_
    show Goes p e below _ (T56.setTop (mkF m 207 #[.val (.int x0), .val (.int x1), .val (.int x2), .val (.int x3), .val (.int x4), .val (.int x5), .val (.int (3 : Int32)), .val (.int v7_45), .val (.int v13_51), .val (.long ((((0 : Int64) ||| ((1 : Int64) <<< (v13_48 &&& 0x3f).toInt64)) ||| ((1 : Int64) <<< (v13_51 &&& 0x3f).toInt64)) ||| ((1 : Int64) <<< (v13_54 &&& 0x3f).toInt64))), .second, .val (.long ((((0 : Int64) + (own_c3 v13_48)) + (own_c2 v13_51)) + (v13_54.toInt64))), .second, .val (.ref b55)] [(.ref b55)]))
    refine Goes.via (fun _ kk_ => XS.lload X56.here hx rfl (hb hby at_207) rfl  kk_) ?_
    show Goes p e below _ (T56.setTop (mkF m 209 #[.val (.int x0), .val (.int x1), .val (.int x2), .val (.int x3), .val (.int x4), .val (.int x5), .val (.int (3 : Int32)), .val (.int v7_45), .val (.int v13_51), .val (.long ((((0 : Int64) ||| ((1 : Int64) <<< (v13_48 &&& 0x3f).toInt64)) ||| ((1 : Int64) <<< (v13_51 &&& 0x3f).toInt64)) ||| ((1 : Int64) <<< (v13_54 &&& 0x3f).toInt64))), .second, .val (.long ((((0 : Int64) + (own_c3 v13_48)) + (own_c2 v13_51)) + (v13_54.toInt64))), .second, .val (.ref b55)] [(.long ((((0 : Int64) + (own_c3 v13_48)) + (own_c2 v13_51)) + (v13_54.toInt64))), (.ref b55)]))
    refine Goes.via (fun _ kk_ => XS.l2i X56.here hx rfl (hb hby at_209) rfl kk_) ?_
    show Goes p e below _ (T56.setTop (mkF m 210 #[.val (.int x0), .val (.int x1), .val (.int x2), .val (.int x3), .val (.int x4), .val (.int x5), .val (.int (3 : Int32)), .val (.int v7_45), .val (.int v13_51), .val (.long ((((0 : Int64) ||| ((1 : Int64) <<< (v13_48 &&& 0x3f).toInt64)) ||| ((1 : Int64) <<< (v13_51 &&& 0x3f).toInt64)) ||| ((1 : Int64) <<< (v13_54 &&& 0x3f).toInt64))), .second, .val (.long ((((0 : Int64) + (own_c3 v13_48)) + (own_c2 v13_51)) + (v13_54.toInt64))), .second, .val (.ref b55)] [(.int (((((0 : Int64) + (own_c3 v13_48)) + (own_c2 v13_51)) + (v13_54.toInt64)).toInt32)), (.ref b55)]))
    refine Goes.via (fun _ kk_ => XS.iload X56.here hx rfl (hb hby at_210) rfl  kk_) ?_
    show Goes p e below _ (T56.setTop (mkF m 212 #[.val (.int x0), .val (.int x1), .val (.int x2), .val (.int x3), .val (.int x4), .val (.int x5), .val (.int (3 : Int32)), .val (.int v7_45), .val (.int v13_51), .val (.long ((((0 : Int64) ||| ((1 : Int64) <<< (v13_48 &&& 0x3f).toInt64)) ||| ((1 : Int64) <<< (v13_51 &&& 0x3f).toInt64)) ||| ((1 : Int64) <<< (v13_54 &&& 0x3f).toInt64))), .second, .val (.long ((((0 : Int64) + (own_c3 v13_48)) + (own_c2 v13_51)) + (v13_54.toInt64))), .second, .val (.ref b55)] [(.int (3 : Int32)), (.int (((((0 : Int64) + (own_c3 v13_48)) + (own_c2 v13_51)) + (v13_54.toInt64)).toInt32)), (.ref b55)]))
    have z60 : h0.size ≤ (T56.heap).size := (Nat.le_trans z57 K56.1)
    obtain ⟨cq59, kq59, q59a, q59b, q59c⟩ := isOf hZ rfl u56_1
    obtain ⟨_, _, ⟨T59, L59, k59, n59⟩, -, X59, ⟨Lc59, hQ59, l59, y59, z59⟩, st59⟩ := X56.virtualBack hx (y := (⟨"com/example/checks_on_duty/checksonduty/engine/RankedSets", "set", "(II)J"⟩ : MethodName)) (z := (⟨"com/example/checks_on_duty/checksonduty/engine/RankedSets", "set", "(II)J"⟩ : MethodName)) hown (mvT hZ (hw _ (List.mem_of_getElem? (i := 21) rfl))) (mvT hZ (hw _ (List.mem_of_getElem? (i := 22) rfl))) (notFace_of_selects (args := #[]) (mvT hZ (hw _ (List.mem_of_getElem? (i := 24) rfl)))) (mvT hZ (hw _ (List.mem_of_getElem? (i := 24) rfl))) (mvT hZ (hw _ (List.mem_of_getElem? (i := 23) rfl))) (by decide) (backOf (W := 0) (rm4 l Z a0 hw [] b55 (((((0 : Int64) + (own_c3 v13_48)) + (own_c2 v13_51)) + (v13_54.toInt64)).toInt32) (3 : Int32) v7_45 g56 kA56 kB56 nm ([nu2, nu1, nu0]) T56.heap n0 (Nat.le_trans Z0 z60) u56_2 u56_3 u56_4 hnm (by first | rfl | decide | assumption | omega | (simp; done)) (own_l2i hrk hrkb) rfl (by simp) hxs) hZ (hw _ (List.mem_of_getElem? (i := 25) rfl)) (hw _ (List.mem_of_getElem? (i := 3) rfl)) (by decide) (by decide)) q59a q59c (g := (mkF m 212 #[.val (.int x0), .val (.int x1), .val (.int x2), .val (.int x3), .val (.int x4), .val (.int x5), .val (.int (3 : Int32)), .val (.int v7_45), .val (.int v13_51), .val (.long ((((0 : Int64) ||| ((1 : Int64) <<< (v13_48 &&& 0x3f).toInt64)) ||| ((1 : Int64) <<< (v13_51 &&& 0x3f).toInt64)) ||| ((1 : Int64) <<< (v13_54 &&& 0x3f).toInt64))), .second, .val (.long ((((0 : Int64) + (own_c3 v13_48)) + (own_c2 v13_51)) + (v13_54.toInt64))), .second, .val (.ref b55)] [(.int (3 : Int32)), (.int (((((0 : Int64) + (own_c3 v13_48)) + (own_c2 v13_51)) + (v13_54.toInt64)).toInt32)), (.ref b55)])) rfl (by rw [hml]; rfl) (Steps.refl _) (argsL := [(.int (((((0 : Int64) + (own_c3 v13_48)) + (own_c2 v13_51)) + (v13_54.toInt64)).toInt32)), (.int (3 : Int32))]) (rest := []) (lenOf pd_2 rfl) rfl (by show 2 * 0 + _ ≤ _; exact Nat.le_of_eq rfl) (hb hby at_212) (fun _ _ => ⟨rfl, rfl, (by first | decide | omega | (dsimp only; omega) : 67 + 0 ≤ _), (by first | decide | omega | (dsimp only; omega) : 402 + 0 ≤ _)⟩)
    dsimp only [Pt.U, Pt.locs, Pt.cells, Pt.slots] at X59 l59 y59 z59 st59 hQ59
    subst l59 y59 z59
    obtain ⟨rfl, N59q, e59⟩ := hQ59
    have N59 := Fr.app N56 N59q
    refine Goes.tr st59 ?_
    have e59' : T59.heap = T56.heap := e59
    show Goes p e below _ (T59.setTop (mkF m 215 #[.val (.int x0), .val (.int x1), .val (.int x2), .val (.int x3), .val (.int x4), .val (.int x5), .val (.int (3 : Int32)), .val (.int v7_45), .val (.int v13_51), .val (.long ((((0 : Int64) ||| ((1 : Int64) <<< (v13_48 &&& 0x3f).toInt64)) ||| ((1 : Int64) <<< (v13_51 &&& 0x3f).toInt64)) ||| ((1 : Int64) <<< (v13_54 &&& 0x3f).toInt64))), .second, .val (.long ((((0 : Int64) + (own_c3 v13_48)) + (own_c2 v13_51)) + (v13_54.toInt64))), .second, .val (.ref b55)] [(.long (own_or (0 : Int64) [nu2, nu1, nu0]))]))
    refine Goes.via (fun _ kk_ => XS.lload X59.here hx rfl (hb hby at_215) rfl  kk_) ?_
    show Goes p e below _ (T59.setTop (mkF m 217 #[.val (.int x0), .val (.int x1), .val (.int x2), .val (.int x3), .val (.int x4), .val (.int x5), .val (.int (3 : Int32)), .val (.int v7_45), .val (.int v13_51), .val (.long ((((0 : Int64) ||| ((1 : Int64) <<< (v13_48 &&& 0x3f).toInt64)) ||| ((1 : Int64) <<< (v13_51 &&& 0x3f).toInt64)) ||| ((1 : Int64) <<< (v13_54 &&& 0x3f).toInt64))), .second, .val (.long ((((0 : Int64) + (own_c3 v13_48)) + (own_c2 v13_51)) + (v13_54.toInt64))), .second, .val (.ref b55)] [(.long ((((0 : Int64) ||| ((1 : Int64) <<< (v13_48 &&& 0x3f).toInt64)) ||| ((1 : Int64) <<< (v13_51 &&& 0x3f).toInt64)) ||| ((1 : Int64) <<< (v13_54 &&& 0x3f).toInt64))), (.long (own_or (0 : Int64) [nu2, nu1, nu0]))]))
    refine Goes.via (fun _ kk_ => XS.lcmp X59.here hx rfl (hb hby at_217) rfl kk_) ?_
    show Goes p e below _ (T59.setTop (mkF m 218 #[.val (.int x0), .val (.int x1), .val (.int x2), .val (.int x3), .val (.int x4), .val (.int x5), .val (.int (3 : Int32)), .val (.int v7_45), .val (.int v13_51), .val (.long ((((0 : Int64) ||| ((1 : Int64) <<< (v13_48 &&& 0x3f).toInt64)) ||| ((1 : Int64) <<< (v13_51 &&& 0x3f).toInt64)) ||| ((1 : Int64) <<< (v13_54 &&& 0x3f).toInt64))), .second, .val (.long ((((0 : Int64) + (own_c3 v13_48)) + (own_c2 v13_51)) + (v13_54.toInt64))), .second, .val (.ref b55)] [(.int (lcmpW (own_or (0 : Int64) [nu2, nu1, nu0]) ((((0 : Int64) ||| ((1 : Int64) <<< (v13_48 &&& 0x3f).toInt64)) ||| ((1 : Int64) <<< (v13_51 &&& 0x3f).toInt64)) ||| ((1 : Int64) <<< (v13_54 &&& 0x3f).toInt64))))]))
    have hc218_61 : (own_or (0 : Int64) [nu2, nu1, nu0]) = ((((0 : Int64) ||| ((1 : Int64) <<< (v13_48 &&& 0x3f).toInt64)) ||| ((1 : Int64) <<< (v13_51 &&& 0x3f).toInt64)) ||| ((1 : Int64) <<< (v13_54 &&& 0x3f).toInt64)) := (by simp only [own_or, ← own_ofn hnu2 (by omega), ← own_ofn hnu1 (by omega), ← own_ofn hnu0 (by omega)])
    refine Goes.via (fun _ kk_ => XS.ifNo X59.here hx rfl (hb hby at_218) rfl ((if0 _ _).trans (teq ((lw_eq (own_or (0 : Int64) [nu2, nu1, nu0]) ((((0 : Int64) ||| ((1 : Int64) <<< (v13_48 &&& 0x3f).toInt64)) ||| ((1 : Int64) <<< (v13_51 &&& 0x3f).toInt64)) ||| ((1 : Int64) <<< (v13_54 &&& 0x3f).toInt64))).mpr hc218_61)).2) kk_) ?_
    show Goes p e below _ (T59.setTop (mkF m 221 #[.val (.int x0), .val (.int x1), .val (.int x2), .val (.int x3), .val (.int x4), .val (.int x5), .val (.int (3 : Int32)), .val (.int v7_45), .val (.int v13_51), .val (.long ((((0 : Int64) ||| ((1 : Int64) <<< (v13_48 &&& 0x3f).toInt64)) ||| ((1 : Int64) <<< (v13_51 &&& 0x3f).toInt64)) ||| ((1 : Int64) <<< (v13_54 &&& 0x3f).toInt64))), .second, .val (.long ((((0 : Int64) + (own_c3 v13_48)) + (own_c2 v13_51)) + (v13_54.toInt64))), .second, .val (.ref b55)] []))
    refine Goes.via (fun _ kk_ => XS.iconst X59.here hx rfl (hb hby at_221) kk_) ?_
    show Goes p e below _ (T59.setTop (mkF m 222 #[.val (.int x0), .val (.int x1), .val (.int x2), .val (.int x3), .val (.int x4), .val (.int x5), .val (.int (3 : Int32)), .val (.int v7_45), .val (.int v13_51), .val (.long ((((0 : Int64) ||| ((1 : Int64) <<< (v13_48 &&& 0x3f).toInt64)) ||| ((1 : Int64) <<< (v13_51 &&& 0x3f).toInt64)) ||| ((1 : Int64) <<< (v13_54 &&& 0x3f).toInt64))), .second, .val (.long ((((0 : Int64) + (own_c3 v13_48)) + (own_c2 v13_51)) + (v13_54.toInt64))), .second, .val (.ref b55)] [(.int (1 : Int32))]))
    refine Goes.via (fun _ kk_ => XS.goto X59.here hx rfl (pc0 := 222) (pc' := 226) rfl (hb hby at_222) (by decide) (by decide) kk_) ?_
    show Goes p e below _ (T59.setTop (mkF m 226 #[.val (.int x0), .val (.int x1), .val (.int x2), .val (.int x3), .val (.int x4), .val (.int x5), .val (.int (3 : Int32)), .val (.int v7_45), .val (.int v13_51), .val (.long ((((0 : Int64) ||| ((1 : Int64) <<< (v13_48 &&& 0x3f).toInt64)) ||| ((1 : Int64) <<< (v13_51 &&& 0x3f).toInt64)) ||| ((1 : Int64) <<< (v13_54 &&& 0x3f).toInt64))), .second, .val (.long ((((0 : Int64) + (own_c3 v13_48)) + (own_c2 v13_51)) + (v13_54.toInt64))), .second, .val (.ref b55)] [(.int (1 : Int32))]))
    have K62 : Keep h0 T56.heap [] := (((Keep.refl h0 []).ext E55).trans K56 (allS (Or.inr sz_b55) all0))
    exact own_finN X59 hx hlk hret (by simp) (hb hby at_226) (by rw [e59']; exact ⟨rfl, N59, K62⟩) (by first | decide | omega | (dsimp only; omega)) (by first | decide | omega | (dsimp only; omega))
  · rw [hsz]
    show Goes p e below _ (s₁.setTop (mkF m 8 #[.val (.int x0), .val (.int x1), .val (.int x2), .val (.int x3), .val (.int x4), .val (.int x5), .val (.int (4 : Int32)), .unset, .unset, .unset, .unset, .unset, .unset, .unset] []))
    refine Goes.via (fun _ kk_ => XS.iload X0.here hx rfl (hb hby at_8) rfl  kk_) ?_
    show Goes p e below _ (s₁.setTop (mkF m 10 #[.val (.int x0), .val (.int x1), .val (.int x2), .val (.int x3), .val (.int x4), .val (.int x5), .val (.int (4 : Int32)), .unset, .unset, .unset, .unset, .unset, .unset, .unset] [(.int (4 : Int32))]))
    refine Goes.via (fun _ kk_ => XS.iloadN X0.here hx rfl (hb hby at_10) rfl  kk_) ?_
    show Goes p e below _ (s₁.setTop (mkF m 11 #[.val (.int x0), .val (.int x1), .val (.int x2), .val (.int x3), .val (.int x4), .val (.int x5), .val (.int (4 : Int32)), .unset, .unset, .unset, .unset, .unset, .unset, .unset] [(.int x1), (.int (4 : Int32))]))
    refine Goes.via (X0.ldcInt hx hown (mvT hZ (hw _ (List.mem_of_getElem? (i := 0) rfl))) (g := (mkF m 11 #[.val (.int x0), .val (.int x1), .val (.int x2), .val (.int x3), .val (.int x4), .val (.int x5), .val (.int (4 : Int32)), .unset, .unset, .unset, .unset, .unset, .unset, .unset] [(.int x1), (.int (4 : Int32))])) rfl (hb hby at_11)) ?_
    show Goes p e below _ (s₁.setTop (mkF m 13 #[.val (.int x0), .val (.int x1), .val (.int x2), .val (.int x3), .val (.int x4), .val (.int x5), .val (.int (4 : Int32)), .unset, .unset, .unset, .unset, .unset, .unset, .unset] [(.int (2147483647 : Int32)), (.int x1), (.int (4 : Int32))]))
    refine Goes.via (fun _ kk_ => XS.iand X0.here hx rfl (hb hby at_13) rfl kk_) ?_
    show Goes p e below _ (s₁.setTop (mkF m 14 #[.val (.int x0), .val (.int x1), .val (.int x2), .val (.int x3), .val (.int x4), .val (.int x5), .val (.int (4 : Int32)), .unset, .unset, .unset, .unset, .unset, .unset, .unset] [(.int (x1 &&& (2147483647 : Int32))), (.int (4 : Int32))]))
    refine Goes.via (fun _ kk_ => XS.bipush X0.here hx rfl (hb hby at_14) kk_) ?_
    show Goes p e below _ (s₁.setTop (mkF m 16 #[.val (.int x0), .val (.int x1), .val (.int x2), .val (.int x3), .val (.int x4), .val (.int x5), .val (.int (4 : Int32)), .unset, .unset, .unset, .unset, .unset, .unset, .unset] [(.int (65 : Int32)), (.int (x1 &&& (2147483647 : Int32))), (.int (4 : Int32))]))
    refine Goes.via (fun _ kk_ => XS.iload X0.here hx rfl (hb hby at_16) rfl  kk_) ?_
    show Goes p e below _ (s₁.setTop (mkF m 18 #[.val (.int x0), .val (.int x1), .val (.int x2), .val (.int x3), .val (.int x4), .val (.int x5), .val (.int (4 : Int32)), .unset, .unset, .unset, .unset, .unset, .unset, .unset] [(.int (4 : Int32)), (.int (65 : Int32)), (.int (x1 &&& (2147483647 : Int32))), (.int (4 : Int32))]))
    refine Goes.via (fun _ kk_ => XS.isub X0.here hx rfl (hb hby at_18) rfl kk_) ?_
    show Goes p e below _ (s₁.setTop (mkF m 19 #[.val (.int x0), .val (.int x1), .val (.int x2), .val (.int x3), .val (.int x4), .val (.int x5), .val (.int (4 : Int32)), .unset, .unset, .unset, .unset, .unset, .unset, .unset] [(.int ((65 : Int32) - (4 : Int32))), (.int (x1 &&& (2147483647 : Int32))), (.int (4 : Int32))]))
    rw [show ((65 : Int32) - (4 : Int32)) = (61 : Int32) from by decide]
    show Goes p e below _ (s₁.setTop (mkF m 19 #[.val (.int x0), .val (.int x1), .val (.int x2), .val (.int x3), .val (.int x4), .val (.int x5), .val (.int (4 : Int32)), .unset, .unset, .unset, .unset, .unset, .unset, .unset] [(.int (61 : Int32)), (.int (x1 &&& (2147483647 : Int32))), (.int (4 : Int32))]))
    refine Goes.via (fun _ kk_ => iremM X0 hx rfl (hb hby at_19) rfl (by decide) kk_) ?_
    show Goes p e below _ (s₁.setTop (mkF m 20 #[.val (.int x0), .val (.int x1), .val (.int x2), .val (.int x3), .val (.int x4), .val (.int x5), .val (.int (4 : Int32)), .unset, .unset, .unset, .unset, .unset, .unset, .unset] [(.int ((x1 &&& (2147483647 : Int32)) % (61 : Int32))), (.int (4 : Int32))]))
    refine Goes.via (fun _ kk_ => XS.iadd X0.here hx rfl (hb hby at_20) rfl kk_) ?_
    show Goes p e below _ (s₁.setTop (mkF m 21 #[.val (.int x0), .val (.int x1), .val (.int x2), .val (.int x3), .val (.int x4), .val (.int x5), .val (.int (4 : Int32)), .unset, .unset, .unset, .unset, .unset, .unset, .unset] [(.int ((4 : Int32) + ((x1 &&& (2147483647 : Int32)) % (61 : Int32))))]))
    refine Goes.via (fun _ kk_ => XS.istore X0.here hx rfl (hb hby at_21) rfl (l' := #[.val (.int x0), .val (.int x1), .val (.int x2), .val (.int x3), .val (.int x4), .val (.int x5), .val (.int (4 : Int32)), .val (.int ((4 : Int32) + ((x1 &&& (2147483647 : Int32)) % (61 : Int32)))), .unset, .unset, .unset, .unset, .unset, .unset]) rfl kk_) ?_
    show Goes p e below _ (s₁.setTop (mkF m 23 #[.val (.int x0), .val (.int x1), .val (.int x2), .val (.int x3), .val (.int x4), .val (.int x5), .val (.int (4 : Int32)), .val (.int ((4 : Int32) + ((x1 &&& (2147483647 : Int32)) % (61 : Int32)))), .unset, .unset, .unset, .unset, .unset, .unset] []))
    generalize hv_v7_63 : ((4 : Int32) + ((x1 &&& (2147483647 : Int32)) % (61 : Int32))) = v7_63
    show Goes p e below _ (s₁.setTop (mkF m 23 #[.val (.int x0), .val (.int x1), .val (.int x2), .val (.int x3), .val (.int x4), .val (.int x5), .val (.int (4 : Int32)), .val (.int v7_63), .unset, .unset, .unset, .unset, .unset, .unset] []))
    obtain ⟨nm, hnm, hnm1, hnm2⟩ := own_users (k := 4) (c := (4 : Int32)) (by decide) (by decide) (by decide) hv_v7_63
    refine Goes.via (fun _ kk_ => XS.iload X0.here hx rfl (hb hby at_23) rfl  kk_) ?_
    show Goes p e below _ (s₁.setTop (mkF m 25 #[.val (.int x0), .val (.int x1), .val (.int x2), .val (.int x3), .val (.int x4), .val (.int x5), .val (.int (4 : Int32)), .val (.int v7_63), .unset, .unset, .unset, .unset, .unset, .unset] [(.int v7_63)]))
    refine Goes.via (fun _ kk_ => XS.istore X0.here hx rfl (hb hby at_25) rfl (l' := #[.val (.int x0), .val (.int x1), .val (.int x2), .val (.int x3), .val (.int x4), .val (.int x5), .val (.int (4 : Int32)), .val (.int v7_63), .val (.int v7_63), .unset, .unset, .unset, .unset, .unset]) rfl kk_) ?_
    show Goes p e below _ (s₁.setTop (mkF m 27 #[.val (.int x0), .val (.int x1), .val (.int x2), .val (.int x3), .val (.int x4), .val (.int x5), .val (.int (4 : Int32)), .val (.int v7_63), .val (.int v7_63), .unset, .unset, .unset, .unset, .unset] []))
    refine Goes.via (fun _ kk_ => XS.lconst X0.here hx rfl (hb hby at_27) kk_) ?_
    show Goes p e below _ (s₁.setTop (mkF m 28 #[.val (.int x0), .val (.int x1), .val (.int x2), .val (.int x3), .val (.int x4), .val (.int x5), .val (.int (4 : Int32)), .val (.int v7_63), .val (.int v7_63), .unset, .unset, .unset, .unset, .unset] [(.long (0 : Int64))]))
    refine Goes.via (fun _ kk_ => XS.lstore X0.here hx rfl (hb hby at_28) rfl (l' := #[.val (.int x0), .val (.int x1), .val (.int x2), .val (.int x3), .val (.int x4), .val (.int x5), .val (.int (4 : Int32)), .val (.int v7_63), .val (.int v7_63), .val (.long (0 : Int64)), .second, .unset, .unset, .unset]) rfl kk_) ?_
    show Goes p e below _ (s₁.setTop (mkF m 30 #[.val (.int x0), .val (.int x1), .val (.int x2), .val (.int x3), .val (.int x4), .val (.int x5), .val (.int (4 : Int32)), .val (.int v7_63), .val (.int v7_63), .val (.long (0 : Int64)), .second, .unset, .unset, .unset] []))
    refine Goes.via (fun _ kk_ => XS.lconst X0.here hx rfl (hb hby at_30) kk_) ?_
    show Goes p e below _ (s₁.setTop (mkF m 31 #[.val (.int x0), .val (.int x1), .val (.int x2), .val (.int x3), .val (.int x4), .val (.int x5), .val (.int (4 : Int32)), .val (.int v7_63), .val (.int v7_63), .val (.long (0 : Int64)), .second, .unset, .unset, .unset] [(.long (0 : Int64))]))
    refine Goes.via (fun _ kk_ => XS.lstore X0.here hx rfl (hb hby at_31) rfl (l' := #[.val (.int x0), .val (.int x1), .val (.int x2), .val (.int x3), .val (.int x4), .val (.int x5), .val (.int (4 : Int32)), .val (.int v7_63), .val (.int v7_63), .val (.long (0 : Int64)), .second, .val (.long (0 : Int64)), .second, .unset]) rfl kk_) ?_
    show Goes p e below _ (s₁.setTop (mkF m 33 #[.val (.int x0), .val (.int x1), .val (.int x2), .val (.int x3), .val (.int x4), .val (.int x5), .val (.int (4 : Int32)), .val (.int v7_63), .val (.int v7_63), .val (.long (0 : Int64)), .second, .val (.long (0 : Int64)), .second, .unset] []))
    refine Goes.via (fun _ kk_ => XS.iload X0.here hx rfl (hb hby at_33) rfl  kk_) ?_
    show Goes p e below _ (s₁.setTop (mkF m 35 #[.val (.int x0), .val (.int x1), .val (.int x2), .val (.int x3), .val (.int x4), .val (.int x5), .val (.int (4 : Int32)), .val (.int v7_63), .val (.int v7_63), .val (.long (0 : Int64)), .second, .val (.long (0 : Int64)), .second, .unset] [(.int (4 : Int32))]))
    refine Goes.via (fun _ kk_ => XS.iconst X0.here hx rfl (hb hby at_35) kk_) ?_
    show Goes p e below _ (s₁.setTop (mkF m 36 #[.val (.int x0), .val (.int x1), .val (.int x2), .val (.int x3), .val (.int x4), .val (.int x5), .val (.int (4 : Int32)), .val (.int v7_63), .val (.int v7_63), .val (.long (0 : Int64)), .second, .val (.long (0 : Int64)), .second, .unset] [(.int (4 : Int32)), (.int (4 : Int32))]))
    have hc36_64 : ¬ ((4 : Int32) < (4 : Int32)) := (by decide)
    refine Goes.via (fun _ kk_ => XS.icmpNo X0.here hx rfl (hb hby at_36) rfl (flt hc36_64).1 kk_) ?_
    show Goes p e below _ (s₁.setTop (mkF m 39 #[.val (.int x0), .val (.int x1), .val (.int x2), .val (.int x3), .val (.int x4), .val (.int x5), .val (.int (4 : Int32)), .val (.int v7_63), .val (.int v7_63), .val (.long (0 : Int64)), .second, .val (.long (0 : Int64)), .second, .unset] []))
    refine Goes.via (fun _ kk_ => XS.iconst X0.here hx rfl (hb hby at_39) kk_) ?_
    show Goes p e below _ (s₁.setTop (mkF m 40 #[.val (.int x0), .val (.int x1), .val (.int x2), .val (.int x3), .val (.int x4), .val (.int x5), .val (.int (4 : Int32)), .val (.int v7_63), .val (.int v7_63), .val (.long (0 : Int64)), .second, .val (.long (0 : Int64)), .second, .unset] [(.int (3 : Int32))]))
    refine Goes.via (fun _ kk_ => XS.iload X0.here hx rfl (hb hby at_40) rfl  kk_) ?_
    show Goes p e below _ (s₁.setTop (mkF m 42 #[.val (.int x0), .val (.int x1), .val (.int x2), .val (.int x3), .val (.int x4), .val (.int x5), .val (.int (4 : Int32)), .val (.int v7_63), .val (.int v7_63), .val (.long (0 : Int64)), .second, .val (.long (0 : Int64)), .second, .unset] [(.int x5), (.int (3 : Int32))]))
    refine Goes.via (X0.ldcInt hx hown (mvT hZ (hw _ (List.mem_of_getElem? (i := 0) rfl))) (g := (mkF m 42 #[.val (.int x0), .val (.int x1), .val (.int x2), .val (.int x3), .val (.int x4), .val (.int x5), .val (.int (4 : Int32)), .val (.int v7_63), .val (.int v7_63), .val (.long (0 : Int64)), .second, .val (.long (0 : Int64)), .second, .unset] [(.int x5), (.int (3 : Int32))])) rfl (hb hby at_42)) ?_
    show Goes p e below _ (s₁.setTop (mkF m 44 #[.val (.int x0), .val (.int x1), .val (.int x2), .val (.int x3), .val (.int x4), .val (.int x5), .val (.int (4 : Int32)), .val (.int v7_63), .val (.int v7_63), .val (.long (0 : Int64)), .second, .val (.long (0 : Int64)), .second, .unset] [(.int (2147483647 : Int32)), (.int x5), (.int (3 : Int32))]))
    refine Goes.via (fun _ kk_ => XS.iand X0.here hx rfl (hb hby at_44) rfl kk_) ?_
    show Goes p e below _ (s₁.setTop (mkF m 45 #[.val (.int x0), .val (.int x1), .val (.int x2), .val (.int x3), .val (.int x4), .val (.int x5), .val (.int (4 : Int32)), .val (.int v7_63), .val (.int v7_63), .val (.long (0 : Int64)), .second, .val (.long (0 : Int64)), .second, .unset] [(.int (x5 &&& (2147483647 : Int32))), (.int (3 : Int32))]))
    refine Goes.via (fun _ kk_ => XS.iload X0.here hx rfl (hb hby at_45) rfl  kk_) ?_
    show Goes p e below _ (s₁.setTop (mkF m 47 #[.val (.int x0), .val (.int x1), .val (.int x2), .val (.int x3), .val (.int x4), .val (.int x5), .val (.int (4 : Int32)), .val (.int v7_63), .val (.int v7_63), .val (.long (0 : Int64)), .second, .val (.long (0 : Int64)), .second, .unset] [(.int v7_63), (.int (x5 &&& (2147483647 : Int32))), (.int (3 : Int32))]))
    refine Goes.via (fun _ kk_ => XS.iconst X0.here hx rfl (hb hby at_47) kk_) ?_
    show Goes p e below _ (s₁.setTop (mkF m 48 #[.val (.int x0), .val (.int x1), .val (.int x2), .val (.int x3), .val (.int x4), .val (.int x5), .val (.int (4 : Int32)), .val (.int v7_63), .val (.int v7_63), .val (.long (0 : Int64)), .second, .val (.long (0 : Int64)), .second, .unset] [(.int (3 : Int32)), (.int v7_63), (.int (x5 &&& (2147483647 : Int32))), (.int (3 : Int32))]))
    refine Goes.via (fun _ kk_ => XS.isub X0.here hx rfl (hb hby at_48) rfl kk_) ?_
    show Goes p e below _ (s₁.setTop (mkF m 49 #[.val (.int x0), .val (.int x1), .val (.int x2), .val (.int x3), .val (.int x4), .val (.int x5), .val (.int (4 : Int32)), .val (.int v7_63), .val (.int v7_63), .val (.long (0 : Int64)), .second, .val (.long (0 : Int64)), .second, .unset] [(.int (v7_63 - (3 : Int32))), (.int (x5 &&& (2147483647 : Int32))), (.int (3 : Int32))]))
    refine Goes.via (fun _ kk_ => iremM X0 hx rfl (hb hby at_49) rfl (own_nz0 (own_dk (k := 3) hnm (by decide) (by omega)) (by omega)) kk_) ?_
    show Goes p e below _ (s₁.setTop (mkF m 50 #[.val (.int x0), .val (.int x1), .val (.int x2), .val (.int x3), .val (.int x4), .val (.int x5), .val (.int (4 : Int32)), .val (.int v7_63), .val (.int v7_63), .val (.long (0 : Int64)), .second, .val (.long (0 : Int64)), .second, .unset] [(.int ((x5 &&& (2147483647 : Int32)) % (v7_63 - (3 : Int32)))), (.int (3 : Int32))]))
    refine Goes.via (fun _ kk_ => XS.iadd X0.here hx rfl (hb hby at_50) rfl kk_) ?_
    show Goes p e below _ (s₁.setTop (mkF m 51 #[.val (.int x0), .val (.int x1), .val (.int x2), .val (.int x3), .val (.int x4), .val (.int x5), .val (.int (4 : Int32)), .val (.int v7_63), .val (.int v7_63), .val (.long (0 : Int64)), .second, .val (.long (0 : Int64)), .second, .unset] [(.int ((3 : Int32) + ((x5 &&& (2147483647 : Int32)) % (v7_63 - (3 : Int32)))))]))
    refine Goes.via (fun _ kk_ => XS.istore X0.here hx rfl (hb hby at_51) rfl (l' := #[.val (.int x0), .val (.int x1), .val (.int x2), .val (.int x3), .val (.int x4), .val (.int x5), .val (.int (4 : Int32)), .val (.int v7_63), .val (.int v7_63), .val (.long (0 : Int64)), .second, .val (.long (0 : Int64)), .second, .val (.int ((3 : Int32) + ((x5 &&& (2147483647 : Int32)) % (v7_63 - (3 : Int32)))))]) rfl kk_) ?_
    show Goes p e below _ (s₁.setTop (mkF m 53 #[.val (.int x0), .val (.int x1), .val (.int x2), .val (.int x3), .val (.int x4), .val (.int x5), .val (.int (4 : Int32)), .val (.int v7_63), .val (.int v7_63), .val (.long (0 : Int64)), .second, .val (.long (0 : Int64)), .second, .val (.int ((3 : Int32) + ((x5 &&& (2147483647 : Int32)) % (v7_63 - (3 : Int32)))))] []))
    generalize hv_v13_65 : ((3 : Int32) + ((x5 &&& (2147483647 : Int32)) % (v7_63 - (3 : Int32)))) = v13_65
    show Goes p e below _ (s₁.setTop (mkF m 53 #[.val (.int x0), .val (.int x1), .val (.int x2), .val (.int x3), .val (.int x4), .val (.int x5), .val (.int (4 : Int32)), .val (.int v7_63), .val (.int v7_63), .val (.long (0 : Int64)), .second, .val (.long (0 : Int64)), .second, .val (.int v13_65)] []))
    obtain ⟨nu3, hnu3, hnu3a, hnu3b⟩ := own_pick (k := 3) (c := (3 : Int32)) hnm (by omega) (by decide) (by omega) hv_v13_65
    refine Goes.via (fun _ kk_ => XS.lload X0.here hx rfl (hb hby at_53) rfl  kk_) ?_
    show Goes p e below _ (s₁.setTop (mkF m 55 #[.val (.int x0), .val (.int x1), .val (.int x2), .val (.int x3), .val (.int x4), .val (.int x5), .val (.int (4 : Int32)), .val (.int v7_63), .val (.int v7_63), .val (.long (0 : Int64)), .second, .val (.long (0 : Int64)), .second, .val (.int v13_65)] [(.long (0 : Int64))]))
    refine Goes.via (fun _ kk_ => XS.lconst X0.here hx rfl (hb hby at_55) kk_) ?_
    show Goes p e below _ (s₁.setTop (mkF m 56 #[.val (.int x0), .val (.int x1), .val (.int x2), .val (.int x3), .val (.int x4), .val (.int x5), .val (.int (4 : Int32)), .val (.int v7_63), .val (.int v7_63), .val (.long (0 : Int64)), .second, .val (.long (0 : Int64)), .second, .val (.int v13_65)] [(.long (1 : Int64)), (.long (0 : Int64))]))
    refine Goes.via (fun _ kk_ => XS.iload X0.here hx rfl (hb hby at_56) rfl  kk_) ?_
    show Goes p e below _ (s₁.setTop (mkF m 58 #[.val (.int x0), .val (.int x1), .val (.int x2), .val (.int x3), .val (.int x4), .val (.int x5), .val (.int (4 : Int32)), .val (.int v7_63), .val (.int v7_63), .val (.long (0 : Int64)), .second, .val (.long (0 : Int64)), .second, .val (.int v13_65)] [(.int v13_65), (.long (1 : Int64)), (.long (0 : Int64))]))
    refine Goes.via (fun _ kk_ => XS.lshl X0.here hx rfl (hb hby at_58) rfl kk_) ?_
    show Goes p e below _ (s₁.setTop (mkF m 59 #[.val (.int x0), .val (.int x1), .val (.int x2), .val (.int x3), .val (.int x4), .val (.int x5), .val (.int (4 : Int32)), .val (.int v7_63), .val (.int v7_63), .val (.long (0 : Int64)), .second, .val (.long (0 : Int64)), .second, .val (.int v13_65)] [(.long ((1 : Int64) <<< (v13_65 &&& 0x3f).toInt64)), (.long (0 : Int64))]))
    refine Goes.via (fun _ kk_ => XS.lor X0.here hx rfl (hb hby at_59) rfl kk_) ?_
    show Goes p e below _ (s₁.setTop (mkF m 60 #[.val (.int x0), .val (.int x1), .val (.int x2), .val (.int x3), .val (.int x4), .val (.int x5), .val (.int (4 : Int32)), .val (.int v7_63), .val (.int v7_63), .val (.long (0 : Int64)), .second, .val (.long (0 : Int64)), .second, .val (.int v13_65)] [(.long ((0 : Int64) ||| ((1 : Int64) <<< (v13_65 &&& 0x3f).toInt64)))]))
    refine Goes.via (fun _ kk_ => XS.lstore X0.here hx rfl (hb hby at_60) rfl (l' := #[.val (.int x0), .val (.int x1), .val (.int x2), .val (.int x3), .val (.int x4), .val (.int x5), .val (.int (4 : Int32)), .val (.int v7_63), .val (.int v7_63), .val (.long ((0 : Int64) ||| ((1 : Int64) <<< (v13_65 &&& 0x3f).toInt64))), .second, .val (.long (0 : Int64)), .second, .val (.int v13_65)]) rfl kk_) ?_
    show Goes p e below _ (s₁.setTop (mkF m 62 #[.val (.int x0), .val (.int x1), .val (.int x2), .val (.int x3), .val (.int x4), .val (.int x5), .val (.int (4 : Int32)), .val (.int v7_63), .val (.int v7_63), .val (.long ((0 : Int64) ||| ((1 : Int64) <<< (v13_65 &&& 0x3f).toInt64))), .second, .val (.long (0 : Int64)), .second, .val (.int v13_65)] []))
    refine Goes.via (fun _ kk_ => XS.lload X0.here hx rfl (hb hby at_62) rfl  kk_) ?_
    show Goes p e below _ (s₁.setTop (mkF m 64 #[.val (.int x0), .val (.int x1), .val (.int x2), .val (.int x3), .val (.int x4), .val (.int x5), .val (.int (4 : Int32)), .val (.int v7_63), .val (.int v7_63), .val (.long ((0 : Int64) ||| ((1 : Int64) <<< (v13_65 &&& 0x3f).toInt64))), .second, .val (.long (0 : Int64)), .second, .val (.int v13_65)] [(.long (0 : Int64))]))
    refine Goes.via (fun _ kk_ => XS.iload X0.here hx rfl (hb hby at_64) rfl  kk_) ?_
    show Goes p e below _ (s₁.setTop (mkF m 66 #[.val (.int x0), .val (.int x1), .val (.int x2), .val (.int x3), .val (.int x4), .val (.int x5), .val (.int (4 : Int32)), .val (.int v7_63), .val (.int v7_63), .val (.long ((0 : Int64) ||| ((1 : Int64) <<< (v13_65 &&& 0x3f).toInt64))), .second, .val (.long (0 : Int64)), .second, .val (.int v13_65)] [(.int v13_65), (.long (0 : Int64))]))
    obtain ⟨_, _, ⟨T66, L66, k66, n66⟩, -, X66, ⟨Lc66, hQ66, l66, y66, z66⟩, st66⟩ := Jvm.LawKit.callS X0 hx (y := (⟨"com/example/checks_on_duty/checksonduty/engine/RankedSetsSetPinLaw", "c4", "(I)J"⟩ : MethodName)) hown (mvT hZ (hw _ (List.mem_of_getElem? (i := 26) rfl))) (mvT hZ (hw _ (List.mem_of_getElem? (i := 27) rfl))) (mvT hZ (hw _ (List.mem_of_getElem? (i := 28) rfl))) (mvT hZ (hw _ (List.mem_of_getElem? (i := 29) rfl))) (by decide) (backOf (W := 2) (rm5 l Z a0 hw [] v13_65 h0 n0 (Nat.le_trans Z0 (Nat.le_refl _)) ) hZ (hw _ (List.mem_of_getElem? (i := 29) rfl)) (hw _ (List.mem_of_getElem? (i := 28) rfl)) (by decide) (by decide)) (g := (mkF m 66 #[.val (.int x0), .val (.int x1), .val (.int x2), .val (.int x3), .val (.int x4), .val (.int x5), .val (.int (4 : Int32)), .val (.int v7_63), .val (.int v7_63), .val (.long ((0 : Int64) ||| ((1 : Int64) <<< (v13_65 &&& 0x3f).toInt64))), .second, .val (.long (0 : Int64)), .second, .val (.int v13_65)] [(.int v13_65), (.long (0 : Int64))])) rfl (by rw [hml]; rfl) (argsL := [(.int v13_65)]) (rest := [(.long (0 : Int64))]) (lenOf pd_3 rfl) rfl (by show 2 * 0 + _ ≤ _; exact Nat.le_of_eq rfl) (hb hby at_66) (fun _ _ => ⟨rfl, e0, (by first | decide | omega | (dsimp only; omega) : 0 + 0 ≤ _), (by first | decide | omega | (dsimp only; omega) : 0 + 0 ≤ _)⟩)
    dsimp only [Pt.U, Pt.locs, Pt.cells, Pt.slots] at X66 l66 y66 z66 st66 hQ66
    subst l66 y66 z66
    obtain ⟨rfl, N66q, e66⟩ := hQ66
    have N66 := Fr.app N0 N66q
    refine Goes.via st66 ?_
    have e66' : T66.heap = h0 := e66
    show Goes p e below _ (T66.setTop (mkF m 69 #[.val (.int x0), .val (.int x1), .val (.int x2), .val (.int x3), .val (.int x4), .val (.int x5), .val (.int (4 : Int32)), .val (.int v7_63), .val (.int v7_63), .val (.long ((0 : Int64) ||| ((1 : Int64) <<< (v13_65 &&& 0x3f).toInt64))), .second, .val (.long (0 : Int64)), .second, .val (.int v13_65)] [(.long (own_c4 v13_65)), (.long (0 : Int64))]))
    refine Goes.via (fun _ kk_ => XS.ladd X66.here hx rfl (hb hby at_69) rfl kk_) ?_
    show Goes p e below _ (T66.setTop (mkF m 70 #[.val (.int x0), .val (.int x1), .val (.int x2), .val (.int x3), .val (.int x4), .val (.int x5), .val (.int (4 : Int32)), .val (.int v7_63), .val (.int v7_63), .val (.long ((0 : Int64) ||| ((1 : Int64) <<< (v13_65 &&& 0x3f).toInt64))), .second, .val (.long (0 : Int64)), .second, .val (.int v13_65)] [(.long ((0 : Int64) + (own_c4 v13_65)))]))
    refine Goes.via (fun _ kk_ => XS.lstore X66.here hx rfl (hb hby at_70) rfl (l' := #[.val (.int x0), .val (.int x1), .val (.int x2), .val (.int x3), .val (.int x4), .val (.int x5), .val (.int (4 : Int32)), .val (.int v7_63), .val (.int v7_63), .val (.long ((0 : Int64) ||| ((1 : Int64) <<< (v13_65 &&& 0x3f).toInt64))), .second, .val (.long ((0 : Int64) + (own_c4 v13_65))), .second, .val (.int v13_65)]) rfl kk_) ?_
    show Goes p e below _ (T66.setTop (mkF m 72 #[.val (.int x0), .val (.int x1), .val (.int x2), .val (.int x3), .val (.int x4), .val (.int x5), .val (.int (4 : Int32)), .val (.int v7_63), .val (.int v7_63), .val (.long ((0 : Int64) ||| ((1 : Int64) <<< (v13_65 &&& 0x3f).toInt64))), .second, .val (.long ((0 : Int64) + (own_c4 v13_65))), .second, .val (.int v13_65)] []))
    refine Goes.via (fun _ kk_ => XS.iload X66.here hx rfl (hb hby at_72) rfl  kk_) ?_
    show Goes p e below _ (T66.setTop (mkF m 74 #[.val (.int x0), .val (.int x1), .val (.int x2), .val (.int x3), .val (.int x4), .val (.int x5), .val (.int (4 : Int32)), .val (.int v7_63), .val (.int v7_63), .val (.long ((0 : Int64) ||| ((1 : Int64) <<< (v13_65 &&& 0x3f).toInt64))), .second, .val (.long ((0 : Int64) + (own_c4 v13_65))), .second, .val (.int v13_65)] [(.int v13_65)]))
    refine Goes.via (fun _ kk_ => XS.istore X66.here hx rfl (hb hby at_74) rfl (l' := #[.val (.int x0), .val (.int x1), .val (.int x2), .val (.int x3), .val (.int x4), .val (.int x5), .val (.int (4 : Int32)), .val (.int v7_63), .val (.int v13_65), .val (.long ((0 : Int64) ||| ((1 : Int64) <<< (v13_65 &&& 0x3f).toInt64))), .second, .val (.long ((0 : Int64) + (own_c4 v13_65))), .second, .val (.int v13_65)]) rfl kk_) ?_
    show Goes p e below _ (T66.setTop (mkF m 76 #[.val (.int x0), .val (.int x1), .val (.int x2), .val (.int x3), .val (.int x4), .val (.int x5), .val (.int (4 : Int32)), .val (.int v7_63), .val (.int v13_65), .val (.long ((0 : Int64) ||| ((1 : Int64) <<< (v13_65 &&& 0x3f).toInt64))), .second, .val (.long ((0 : Int64) + (own_c4 v13_65))), .second, .val (.int v13_65)] []))
    refine Goes.via (fun _ kk_ => XS.iload X66.here hx rfl (hb hby at_76) rfl  kk_) ?_
    show Goes p e below _ (T66.setTop (mkF m 78 #[.val (.int x0), .val (.int x1), .val (.int x2), .val (.int x3), .val (.int x4), .val (.int x5), .val (.int (4 : Int32)), .val (.int v7_63), .val (.int v13_65), .val (.long ((0 : Int64) ||| ((1 : Int64) <<< (v13_65 &&& 0x3f).toInt64))), .second, .val (.long ((0 : Int64) + (own_c4 v13_65))), .second, .val (.int v13_65)] [(.int (4 : Int32))]))
    refine Goes.via (fun _ kk_ => XS.iconst X66.here hx rfl (hb hby at_78) kk_) ?_
    show Goes p e below _ (T66.setTop (mkF m 79 #[.val (.int x0), .val (.int x1), .val (.int x2), .val (.int x3), .val (.int x4), .val (.int x5), .val (.int (4 : Int32)), .val (.int v7_63), .val (.int v13_65), .val (.long ((0 : Int64) ||| ((1 : Int64) <<< (v13_65 &&& 0x3f).toInt64))), .second, .val (.long ((0 : Int64) + (own_c4 v13_65))), .second, .val (.int v13_65)] [(.int (3 : Int32)), (.int (4 : Int32))]))
    have hc79_67 : ¬ ((4 : Int32) < (3 : Int32)) := (by decide)
    refine Goes.via (fun _ kk_ => XS.icmpNo X66.here hx rfl (hb hby at_79) rfl (flt hc79_67).1 kk_) ?_
    show Goes p e below _ (T66.setTop (mkF m 82 #[.val (.int x0), .val (.int x1), .val (.int x2), .val (.int x3), .val (.int x4), .val (.int x5), .val (.int (4 : Int32)), .val (.int v7_63), .val (.int v13_65), .val (.long ((0 : Int64) ||| ((1 : Int64) <<< (v13_65 &&& 0x3f).toInt64))), .second, .val (.long ((0 : Int64) + (own_c4 v13_65))), .second, .val (.int v13_65)] []))
    refine Goes.via (fun _ kk_ => XS.iconst X66.here hx rfl (hb hby at_82) kk_) ?_
    show Goes p e below _ (T66.setTop (mkF m 83 #[.val (.int x0), .val (.int x1), .val (.int x2), .val (.int x3), .val (.int x4), .val (.int x5), .val (.int (4 : Int32)), .val (.int v7_63), .val (.int v13_65), .val (.long ((0 : Int64) ||| ((1 : Int64) <<< (v13_65 &&& 0x3f).toInt64))), .second, .val (.long ((0 : Int64) + (own_c4 v13_65))), .second, .val (.int v13_65)] [(.int (2 : Int32))]))
    refine Goes.via (fun _ kk_ => XS.iload X66.here hx rfl (hb hby at_83) rfl  kk_) ?_
    show Goes p e below _ (T66.setTop (mkF m 85 #[.val (.int x0), .val (.int x1), .val (.int x2), .val (.int x3), .val (.int x4), .val (.int x5), .val (.int (4 : Int32)), .val (.int v7_63), .val (.int v13_65), .val (.long ((0 : Int64) ||| ((1 : Int64) <<< (v13_65 &&& 0x3f).toInt64))), .second, .val (.long ((0 : Int64) + (own_c4 v13_65))), .second, .val (.int v13_65)] [(.int x4), (.int (2 : Int32))]))
    refine Goes.via (X66.ldcInt hx hown (mvT hZ (hw _ (List.mem_of_getElem? (i := 0) rfl))) (g := (mkF m 85 #[.val (.int x0), .val (.int x1), .val (.int x2), .val (.int x3), .val (.int x4), .val (.int x5), .val (.int (4 : Int32)), .val (.int v7_63), .val (.int v13_65), .val (.long ((0 : Int64) ||| ((1 : Int64) <<< (v13_65 &&& 0x3f).toInt64))), .second, .val (.long ((0 : Int64) + (own_c4 v13_65))), .second, .val (.int v13_65)] [(.int x4), (.int (2 : Int32))])) rfl (hb hby at_85)) ?_
    show Goes p e below _ (T66.setTop (mkF m 87 #[.val (.int x0), .val (.int x1), .val (.int x2), .val (.int x3), .val (.int x4), .val (.int x5), .val (.int (4 : Int32)), .val (.int v7_63), .val (.int v13_65), .val (.long ((0 : Int64) ||| ((1 : Int64) <<< (v13_65 &&& 0x3f).toInt64))), .second, .val (.long ((0 : Int64) + (own_c4 v13_65))), .second, .val (.int v13_65)] [(.int (2147483647 : Int32)), (.int x4), (.int (2 : Int32))]))
    refine Goes.via (fun _ kk_ => XS.iand X66.here hx rfl (hb hby at_87) rfl kk_) ?_
    show Goes p e below _ (T66.setTop (mkF m 88 #[.val (.int x0), .val (.int x1), .val (.int x2), .val (.int x3), .val (.int x4), .val (.int x5), .val (.int (4 : Int32)), .val (.int v7_63), .val (.int v13_65), .val (.long ((0 : Int64) ||| ((1 : Int64) <<< (v13_65 &&& 0x3f).toInt64))), .second, .val (.long ((0 : Int64) + (own_c4 v13_65))), .second, .val (.int v13_65)] [(.int (x4 &&& (2147483647 : Int32))), (.int (2 : Int32))]))
    refine Goes.via (fun _ kk_ => XS.iload X66.here hx rfl (hb hby at_88) rfl  kk_) ?_
    show Goes p e below _ (T66.setTop (mkF m 90 #[.val (.int x0), .val (.int x1), .val (.int x2), .val (.int x3), .val (.int x4), .val (.int x5), .val (.int (4 : Int32)), .val (.int v7_63), .val (.int v13_65), .val (.long ((0 : Int64) ||| ((1 : Int64) <<< (v13_65 &&& 0x3f).toInt64))), .second, .val (.long ((0 : Int64) + (own_c4 v13_65))), .second, .val (.int v13_65)] [(.int v13_65), (.int (x4 &&& (2147483647 : Int32))), (.int (2 : Int32))]))
    refine Goes.via (fun _ kk_ => XS.iconst X66.here hx rfl (hb hby at_90) kk_) ?_
    show Goes p e below _ (T66.setTop (mkF m 91 #[.val (.int x0), .val (.int x1), .val (.int x2), .val (.int x3), .val (.int x4), .val (.int x5), .val (.int (4 : Int32)), .val (.int v7_63), .val (.int v13_65), .val (.long ((0 : Int64) ||| ((1 : Int64) <<< (v13_65 &&& 0x3f).toInt64))), .second, .val (.long ((0 : Int64) + (own_c4 v13_65))), .second, .val (.int v13_65)] [(.int (2 : Int32)), (.int v13_65), (.int (x4 &&& (2147483647 : Int32))), (.int (2 : Int32))]))
    refine Goes.via (fun _ kk_ => XS.isub X66.here hx rfl (hb hby at_91) rfl kk_) ?_
    show Goes p e below _ (T66.setTop (mkF m 92 #[.val (.int x0), .val (.int x1), .val (.int x2), .val (.int x3), .val (.int x4), .val (.int x5), .val (.int (4 : Int32)), .val (.int v7_63), .val (.int v13_65), .val (.long ((0 : Int64) ||| ((1 : Int64) <<< (v13_65 &&& 0x3f).toInt64))), .second, .val (.long ((0 : Int64) + (own_c4 v13_65))), .second, .val (.int v13_65)] [(.int (v13_65 - (2 : Int32))), (.int (x4 &&& (2147483647 : Int32))), (.int (2 : Int32))]))
    refine Goes.via (fun _ kk_ => iremM X66 hx rfl (hb hby at_92) rfl (own_nz0 (own_dk (k := 2) hnu3 (by decide) (by omega)) (by omega)) kk_) ?_
    show Goes p e below _ (T66.setTop (mkF m 93 #[.val (.int x0), .val (.int x1), .val (.int x2), .val (.int x3), .val (.int x4), .val (.int x5), .val (.int (4 : Int32)), .val (.int v7_63), .val (.int v13_65), .val (.long ((0 : Int64) ||| ((1 : Int64) <<< (v13_65 &&& 0x3f).toInt64))), .second, .val (.long ((0 : Int64) + (own_c4 v13_65))), .second, .val (.int v13_65)] [(.int ((x4 &&& (2147483647 : Int32)) % (v13_65 - (2 : Int32)))), (.int (2 : Int32))]))
    refine Goes.via (fun _ kk_ => XS.iadd X66.here hx rfl (hb hby at_93) rfl kk_) ?_
    show Goes p e below _ (T66.setTop (mkF m 94 #[.val (.int x0), .val (.int x1), .val (.int x2), .val (.int x3), .val (.int x4), .val (.int x5), .val (.int (4 : Int32)), .val (.int v7_63), .val (.int v13_65), .val (.long ((0 : Int64) ||| ((1 : Int64) <<< (v13_65 &&& 0x3f).toInt64))), .second, .val (.long ((0 : Int64) + (own_c4 v13_65))), .second, .val (.int v13_65)] [(.int ((2 : Int32) + ((x4 &&& (2147483647 : Int32)) % (v13_65 - (2 : Int32)))))]))
    refine Goes.via (fun _ kk_ => XS.istore X66.here hx rfl (hb hby at_94) rfl (l' := #[.val (.int x0), .val (.int x1), .val (.int x2), .val (.int x3), .val (.int x4), .val (.int x5), .val (.int (4 : Int32)), .val (.int v7_63), .val (.int v13_65), .val (.long ((0 : Int64) ||| ((1 : Int64) <<< (v13_65 &&& 0x3f).toInt64))), .second, .val (.long ((0 : Int64) + (own_c4 v13_65))), .second, .val (.int ((2 : Int32) + ((x4 &&& (2147483647 : Int32)) % (v13_65 - (2 : Int32)))))]) rfl kk_) ?_
    show Goes p e below _ (T66.setTop (mkF m 96 #[.val (.int x0), .val (.int x1), .val (.int x2), .val (.int x3), .val (.int x4), .val (.int x5), .val (.int (4 : Int32)), .val (.int v7_63), .val (.int v13_65), .val (.long ((0 : Int64) ||| ((1 : Int64) <<< (v13_65 &&& 0x3f).toInt64))), .second, .val (.long ((0 : Int64) + (own_c4 v13_65))), .second, .val (.int ((2 : Int32) + ((x4 &&& (2147483647 : Int32)) % (v13_65 - (2 : Int32)))))] []))
    generalize hv_v13_68 : ((2 : Int32) + ((x4 &&& (2147483647 : Int32)) % (v13_65 - (2 : Int32)))) = v13_68
    show Goes p e below _ (T66.setTop (mkF m 96 #[.val (.int x0), .val (.int x1), .val (.int x2), .val (.int x3), .val (.int x4), .val (.int x5), .val (.int (4 : Int32)), .val (.int v7_63), .val (.int v13_65), .val (.long ((0 : Int64) ||| ((1 : Int64) <<< (v13_65 &&& 0x3f).toInt64))), .second, .val (.long ((0 : Int64) + (own_c4 v13_65))), .second, .val (.int v13_68)] []))
    obtain ⟨nu2, hnu2, hnu2a, hnu2b⟩ := own_pick (k := 2) (c := (2 : Int32)) hnu3 (by omega) (by decide) (by omega) hv_v13_68
    refine Goes.via (fun _ kk_ => XS.lload X66.here hx rfl (hb hby at_96) rfl  kk_) ?_
    show Goes p e below _ (T66.setTop (mkF m 98 #[.val (.int x0), .val (.int x1), .val (.int x2), .val (.int x3), .val (.int x4), .val (.int x5), .val (.int (4 : Int32)), .val (.int v7_63), .val (.int v13_65), .val (.long ((0 : Int64) ||| ((1 : Int64) <<< (v13_65 &&& 0x3f).toInt64))), .second, .val (.long ((0 : Int64) + (own_c4 v13_65))), .second, .val (.int v13_68)] [(.long ((0 : Int64) ||| ((1 : Int64) <<< (v13_65 &&& 0x3f).toInt64)))]))
    refine Goes.via (fun _ kk_ => XS.lconst X66.here hx rfl (hb hby at_98) kk_) ?_
    show Goes p e below _ (T66.setTop (mkF m 99 #[.val (.int x0), .val (.int x1), .val (.int x2), .val (.int x3), .val (.int x4), .val (.int x5), .val (.int (4 : Int32)), .val (.int v7_63), .val (.int v13_65), .val (.long ((0 : Int64) ||| ((1 : Int64) <<< (v13_65 &&& 0x3f).toInt64))), .second, .val (.long ((0 : Int64) + (own_c4 v13_65))), .second, .val (.int v13_68)] [(.long (1 : Int64)), (.long ((0 : Int64) ||| ((1 : Int64) <<< (v13_65 &&& 0x3f).toInt64)))]))
    refine Goes.via (fun _ kk_ => XS.iload X66.here hx rfl (hb hby at_99) rfl  kk_) ?_
    show Goes p e below _ (T66.setTop (mkF m 101 #[.val (.int x0), .val (.int x1), .val (.int x2), .val (.int x3), .val (.int x4), .val (.int x5), .val (.int (4 : Int32)), .val (.int v7_63), .val (.int v13_65), .val (.long ((0 : Int64) ||| ((1 : Int64) <<< (v13_65 &&& 0x3f).toInt64))), .second, .val (.long ((0 : Int64) + (own_c4 v13_65))), .second, .val (.int v13_68)] [(.int v13_68), (.long (1 : Int64)), (.long ((0 : Int64) ||| ((1 : Int64) <<< (v13_65 &&& 0x3f).toInt64)))]))
    refine Goes.via (fun _ kk_ => XS.lshl X66.here hx rfl (hb hby at_101) rfl kk_) ?_
    show Goes p e below _ (T66.setTop (mkF m 102 #[.val (.int x0), .val (.int x1), .val (.int x2), .val (.int x3), .val (.int x4), .val (.int x5), .val (.int (4 : Int32)), .val (.int v7_63), .val (.int v13_65), .val (.long ((0 : Int64) ||| ((1 : Int64) <<< (v13_65 &&& 0x3f).toInt64))), .second, .val (.long ((0 : Int64) + (own_c4 v13_65))), .second, .val (.int v13_68)] [(.long ((1 : Int64) <<< (v13_68 &&& 0x3f).toInt64)), (.long ((0 : Int64) ||| ((1 : Int64) <<< (v13_65 &&& 0x3f).toInt64)))]))
    refine Goes.via (fun _ kk_ => XS.lor X66.here hx rfl (hb hby at_102) rfl kk_) ?_
    show Goes p e below _ (T66.setTop (mkF m 103 #[.val (.int x0), .val (.int x1), .val (.int x2), .val (.int x3), .val (.int x4), .val (.int x5), .val (.int (4 : Int32)), .val (.int v7_63), .val (.int v13_65), .val (.long ((0 : Int64) ||| ((1 : Int64) <<< (v13_65 &&& 0x3f).toInt64))), .second, .val (.long ((0 : Int64) + (own_c4 v13_65))), .second, .val (.int v13_68)] [(.long (((0 : Int64) ||| ((1 : Int64) <<< (v13_65 &&& 0x3f).toInt64)) ||| ((1 : Int64) <<< (v13_68 &&& 0x3f).toInt64)))]))
    refine Goes.via (fun _ kk_ => XS.lstore X66.here hx rfl (hb hby at_103) rfl (l' := #[.val (.int x0), .val (.int x1), .val (.int x2), .val (.int x3), .val (.int x4), .val (.int x5), .val (.int (4 : Int32)), .val (.int v7_63), .val (.int v13_65), .val (.long (((0 : Int64) ||| ((1 : Int64) <<< (v13_65 &&& 0x3f).toInt64)) ||| ((1 : Int64) <<< (v13_68 &&& 0x3f).toInt64))), .second, .val (.long ((0 : Int64) + (own_c4 v13_65))), .second, .val (.int v13_68)]) rfl kk_) ?_
    show Goes p e below _ (T66.setTop (mkF m 105 #[.val (.int x0), .val (.int x1), .val (.int x2), .val (.int x3), .val (.int x4), .val (.int x5), .val (.int (4 : Int32)), .val (.int v7_63), .val (.int v13_65), .val (.long (((0 : Int64) ||| ((1 : Int64) <<< (v13_65 &&& 0x3f).toInt64)) ||| ((1 : Int64) <<< (v13_68 &&& 0x3f).toInt64))), .second, .val (.long ((0 : Int64) + (own_c4 v13_65))), .second, .val (.int v13_68)] []))
    refine Goes.via (fun _ kk_ => XS.lload X66.here hx rfl (hb hby at_105) rfl  kk_) ?_
    show Goes p e below _ (T66.setTop (mkF m 107 #[.val (.int x0), .val (.int x1), .val (.int x2), .val (.int x3), .val (.int x4), .val (.int x5), .val (.int (4 : Int32)), .val (.int v7_63), .val (.int v13_65), .val (.long (((0 : Int64) ||| ((1 : Int64) <<< (v13_65 &&& 0x3f).toInt64)) ||| ((1 : Int64) <<< (v13_68 &&& 0x3f).toInt64))), .second, .val (.long ((0 : Int64) + (own_c4 v13_65))), .second, .val (.int v13_68)] [(.long ((0 : Int64) + (own_c4 v13_65)))]))
    refine Goes.via (fun _ kk_ => XS.iload X66.here hx rfl (hb hby at_107) rfl  kk_) ?_
    show Goes p e below _ (T66.setTop (mkF m 109 #[.val (.int x0), .val (.int x1), .val (.int x2), .val (.int x3), .val (.int x4), .val (.int x5), .val (.int (4 : Int32)), .val (.int v7_63), .val (.int v13_65), .val (.long (((0 : Int64) ||| ((1 : Int64) <<< (v13_65 &&& 0x3f).toInt64)) ||| ((1 : Int64) <<< (v13_68 &&& 0x3f).toInt64))), .second, .val (.long ((0 : Int64) + (own_c4 v13_65))), .second, .val (.int v13_68)] [(.int v13_68), (.long ((0 : Int64) + (own_c4 v13_65)))]))
    obtain ⟨_, _, ⟨T69, L69, k69, n69⟩, -, X69, ⟨Lc69, hQ69, l69, y69, z69⟩, st69⟩ := Jvm.LawKit.callS X66 hx (y := (⟨"com/example/checks_on_duty/checksonduty/engine/RankedSetsSetPinLaw", "c3", "(I)J"⟩ : MethodName)) hown (mvT hZ (hw _ (List.mem_of_getElem? (i := 33) rfl))) (mvT hZ (hw _ (List.mem_of_getElem? (i := 34) rfl))) (mvT hZ (hw _ (List.mem_of_getElem? (i := 28) rfl))) (mvT hZ (hw _ (List.mem_of_getElem? (i := 35) rfl))) (by decide) (backOf (W := 2) (rm6 l Z a0 hw [] v13_68 h0 n0 (Nat.le_trans Z0 (Nat.le_refl _)) ) hZ (hw _ (List.mem_of_getElem? (i := 35) rfl)) (hw _ (List.mem_of_getElem? (i := 28) rfl)) (by decide) (by decide)) (g := (mkF m 109 #[.val (.int x0), .val (.int x1), .val (.int x2), .val (.int x3), .val (.int x4), .val (.int x5), .val (.int (4 : Int32)), .val (.int v7_63), .val (.int v13_65), .val (.long (((0 : Int64) ||| ((1 : Int64) <<< (v13_65 &&& 0x3f).toInt64)) ||| ((1 : Int64) <<< (v13_68 &&& 0x3f).toInt64))), .second, .val (.long ((0 : Int64) + (own_c4 v13_65))), .second, .val (.int v13_68)] [(.int v13_68), (.long ((0 : Int64) + (own_c4 v13_65)))])) rfl (by rw [hml]; rfl) (argsL := [(.int v13_68)]) (rest := [(.long ((0 : Int64) + (own_c4 v13_65)))]) (lenOf pd_3 rfl) rfl (by show 2 * 0 + _ ≤ _; exact Nat.le_of_eq rfl) (hb hby at_109) (fun _ _ => ⟨rfl, e66', (by first | decide | omega | (dsimp only; omega) : 0 + 0 ≤ _), (by first | decide | omega | (dsimp only; omega) : 0 + 0 ≤ _)⟩)
    dsimp only [Pt.U, Pt.locs, Pt.cells, Pt.slots] at X69 l69 y69 z69 st69 hQ69
    subst l69 y69 z69
    obtain ⟨rfl, N69q, e69⟩ := hQ69
    have N69 := Fr.app N66 N69q
    refine Goes.via st69 ?_
    have e69' : T69.heap = h0 := e69
    show Goes p e below _ (T69.setTop (mkF m 112 #[.val (.int x0), .val (.int x1), .val (.int x2), .val (.int x3), .val (.int x4), .val (.int x5), .val (.int (4 : Int32)), .val (.int v7_63), .val (.int v13_65), .val (.long (((0 : Int64) ||| ((1 : Int64) <<< (v13_65 &&& 0x3f).toInt64)) ||| ((1 : Int64) <<< (v13_68 &&& 0x3f).toInt64))), .second, .val (.long ((0 : Int64) + (own_c4 v13_65))), .second, .val (.int v13_68)] [(.long (own_c3 v13_68)), (.long ((0 : Int64) + (own_c4 v13_65)))]))
    refine Goes.via (fun _ kk_ => XS.ladd X69.here hx rfl (hb hby at_112) rfl kk_) ?_
    show Goes p e below _ (T69.setTop (mkF m 113 #[.val (.int x0), .val (.int x1), .val (.int x2), .val (.int x3), .val (.int x4), .val (.int x5), .val (.int (4 : Int32)), .val (.int v7_63), .val (.int v13_65), .val (.long (((0 : Int64) ||| ((1 : Int64) <<< (v13_65 &&& 0x3f).toInt64)) ||| ((1 : Int64) <<< (v13_68 &&& 0x3f).toInt64))), .second, .val (.long ((0 : Int64) + (own_c4 v13_65))), .second, .val (.int v13_68)] [(.long (((0 : Int64) + (own_c4 v13_65)) + (own_c3 v13_68)))]))
    refine Goes.via (fun _ kk_ => XS.lstore X69.here hx rfl (hb hby at_113) rfl (l' := #[.val (.int x0), .val (.int x1), .val (.int x2), .val (.int x3), .val (.int x4), .val (.int x5), .val (.int (4 : Int32)), .val (.int v7_63), .val (.int v13_65), .val (.long (((0 : Int64) ||| ((1 : Int64) <<< (v13_65 &&& 0x3f).toInt64)) ||| ((1 : Int64) <<< (v13_68 &&& 0x3f).toInt64))), .second, .val (.long (((0 : Int64) + (own_c4 v13_65)) + (own_c3 v13_68))), .second, .val (.int v13_68)]) rfl kk_) ?_
    show Goes p e below _ (T69.setTop (mkF m 115 #[.val (.int x0), .val (.int x1), .val (.int x2), .val (.int x3), .val (.int x4), .val (.int x5), .val (.int (4 : Int32)), .val (.int v7_63), .val (.int v13_65), .val (.long (((0 : Int64) ||| ((1 : Int64) <<< (v13_65 &&& 0x3f).toInt64)) ||| ((1 : Int64) <<< (v13_68 &&& 0x3f).toInt64))), .second, .val (.long (((0 : Int64) + (own_c4 v13_65)) + (own_c3 v13_68))), .second, .val (.int v13_68)] []))
    refine Goes.via (fun _ kk_ => XS.iload X69.here hx rfl (hb hby at_115) rfl  kk_) ?_
    show Goes p e below _ (T69.setTop (mkF m 117 #[.val (.int x0), .val (.int x1), .val (.int x2), .val (.int x3), .val (.int x4), .val (.int x5), .val (.int (4 : Int32)), .val (.int v7_63), .val (.int v13_65), .val (.long (((0 : Int64) ||| ((1 : Int64) <<< (v13_65 &&& 0x3f).toInt64)) ||| ((1 : Int64) <<< (v13_68 &&& 0x3f).toInt64))), .second, .val (.long (((0 : Int64) + (own_c4 v13_65)) + (own_c3 v13_68))), .second, .val (.int v13_68)] [(.int v13_68)]))
    refine Goes.via (fun _ kk_ => XS.istore X69.here hx rfl (hb hby at_117) rfl (l' := #[.val (.int x0), .val (.int x1), .val (.int x2), .val (.int x3), .val (.int x4), .val (.int x5), .val (.int (4 : Int32)), .val (.int v7_63), .val (.int v13_68), .val (.long (((0 : Int64) ||| ((1 : Int64) <<< (v13_65 &&& 0x3f).toInt64)) ||| ((1 : Int64) <<< (v13_68 &&& 0x3f).toInt64))), .second, .val (.long (((0 : Int64) + (own_c4 v13_65)) + (own_c3 v13_68))), .second, .val (.int v13_68)]) rfl kk_) ?_
    show Goes p e below _ (T69.setTop (mkF m 119 #[.val (.int x0), .val (.int x1), .val (.int x2), .val (.int x3), .val (.int x4), .val (.int x5), .val (.int (4 : Int32)), .val (.int v7_63), .val (.int v13_68), .val (.long (((0 : Int64) ||| ((1 : Int64) <<< (v13_65 &&& 0x3f).toInt64)) ||| ((1 : Int64) <<< (v13_68 &&& 0x3f).toInt64))), .second, .val (.long (((0 : Int64) + (own_c4 v13_65)) + (own_c3 v13_68))), .second, .val (.int v13_68)] []))
    refine Goes.via (fun _ kk_ => XS.iload X69.here hx rfl (hb hby at_119) rfl  kk_) ?_
    show Goes p e below _ (T69.setTop (mkF m 121 #[.val (.int x0), .val (.int x1), .val (.int x2), .val (.int x3), .val (.int x4), .val (.int x5), .val (.int (4 : Int32)), .val (.int v7_63), .val (.int v13_68), .val (.long (((0 : Int64) ||| ((1 : Int64) <<< (v13_65 &&& 0x3f).toInt64)) ||| ((1 : Int64) <<< (v13_68 &&& 0x3f).toInt64))), .second, .val (.long (((0 : Int64) + (own_c4 v13_65)) + (own_c3 v13_68))), .second, .val (.int v13_68)] [(.int (4 : Int32))]))
    refine Goes.via (fun _ kk_ => XS.iconst X69.here hx rfl (hb hby at_121) kk_) ?_
    show Goes p e below _ (T69.setTop (mkF m 122 #[.val (.int x0), .val (.int x1), .val (.int x2), .val (.int x3), .val (.int x4), .val (.int x5), .val (.int (4 : Int32)), .val (.int v7_63), .val (.int v13_68), .val (.long (((0 : Int64) ||| ((1 : Int64) <<< (v13_65 &&& 0x3f).toInt64)) ||| ((1 : Int64) <<< (v13_68 &&& 0x3f).toInt64))), .second, .val (.long (((0 : Int64) + (own_c4 v13_65)) + (own_c3 v13_68))), .second, .val (.int v13_68)] [(.int (2 : Int32)), (.int (4 : Int32))]))
    have hc122_70 : ¬ ((4 : Int32) < (2 : Int32)) := (by decide)
    refine Goes.via (fun _ kk_ => XS.icmpNo X69.here hx rfl (hb hby at_122) rfl (flt hc122_70).1 kk_) ?_
    show Goes p e below _ (T69.setTop (mkF m 125 #[.val (.int x0), .val (.int x1), .val (.int x2), .val (.int x3), .val (.int x4), .val (.int x5), .val (.int (4 : Int32)), .val (.int v7_63), .val (.int v13_68), .val (.long (((0 : Int64) ||| ((1 : Int64) <<< (v13_65 &&& 0x3f).toInt64)) ||| ((1 : Int64) <<< (v13_68 &&& 0x3f).toInt64))), .second, .val (.long (((0 : Int64) + (own_c4 v13_65)) + (own_c3 v13_68))), .second, .val (.int v13_68)] []))
    refine Goes.via (fun _ kk_ => XS.iconst X69.here hx rfl (hb hby at_125) kk_) ?_
    show Goes p e below _ (T69.setTop (mkF m 126 #[.val (.int x0), .val (.int x1), .val (.int x2), .val (.int x3), .val (.int x4), .val (.int x5), .val (.int (4 : Int32)), .val (.int v7_63), .val (.int v13_68), .val (.long (((0 : Int64) ||| ((1 : Int64) <<< (v13_65 &&& 0x3f).toInt64)) ||| ((1 : Int64) <<< (v13_68 &&& 0x3f).toInt64))), .second, .val (.long (((0 : Int64) + (own_c4 v13_65)) + (own_c3 v13_68))), .second, .val (.int v13_68)] [(.int (1 : Int32))]))
    refine Goes.via (fun _ kk_ => XS.iloadN X69.here hx rfl (hb hby at_126) rfl  kk_) ?_
    show Goes p e below _ (T69.setTop (mkF m 127 #[.val (.int x0), .val (.int x1), .val (.int x2), .val (.int x3), .val (.int x4), .val (.int x5), .val (.int (4 : Int32)), .val (.int v7_63), .val (.int v13_68), .val (.long (((0 : Int64) ||| ((1 : Int64) <<< (v13_65 &&& 0x3f).toInt64)) ||| ((1 : Int64) <<< (v13_68 &&& 0x3f).toInt64))), .second, .val (.long (((0 : Int64) + (own_c4 v13_65)) + (own_c3 v13_68))), .second, .val (.int v13_68)] [(.int x3), (.int (1 : Int32))]))
    refine Goes.via (X69.ldcInt hx hown (mvT hZ (hw _ (List.mem_of_getElem? (i := 0) rfl))) (g := (mkF m 127 #[.val (.int x0), .val (.int x1), .val (.int x2), .val (.int x3), .val (.int x4), .val (.int x5), .val (.int (4 : Int32)), .val (.int v7_63), .val (.int v13_68), .val (.long (((0 : Int64) ||| ((1 : Int64) <<< (v13_65 &&& 0x3f).toInt64)) ||| ((1 : Int64) <<< (v13_68 &&& 0x3f).toInt64))), .second, .val (.long (((0 : Int64) + (own_c4 v13_65)) + (own_c3 v13_68))), .second, .val (.int v13_68)] [(.int x3), (.int (1 : Int32))])) rfl (hb hby at_127)) ?_
    show Goes p e below _ (T69.setTop (mkF m 129 #[.val (.int x0), .val (.int x1), .val (.int x2), .val (.int x3), .val (.int x4), .val (.int x5), .val (.int (4 : Int32)), .val (.int v7_63), .val (.int v13_68), .val (.long (((0 : Int64) ||| ((1 : Int64) <<< (v13_65 &&& 0x3f).toInt64)) ||| ((1 : Int64) <<< (v13_68 &&& 0x3f).toInt64))), .second, .val (.long (((0 : Int64) + (own_c4 v13_65)) + (own_c3 v13_68))), .second, .val (.int v13_68)] [(.int (2147483647 : Int32)), (.int x3), (.int (1 : Int32))]))
    refine Goes.via (fun _ kk_ => XS.iand X69.here hx rfl (hb hby at_129) rfl kk_) ?_
    show Goes p e below _ (T69.setTop (mkF m 130 #[.val (.int x0), .val (.int x1), .val (.int x2), .val (.int x3), .val (.int x4), .val (.int x5), .val (.int (4 : Int32)), .val (.int v7_63), .val (.int v13_68), .val (.long (((0 : Int64) ||| ((1 : Int64) <<< (v13_65 &&& 0x3f).toInt64)) ||| ((1 : Int64) <<< (v13_68 &&& 0x3f).toInt64))), .second, .val (.long (((0 : Int64) + (own_c4 v13_65)) + (own_c3 v13_68))), .second, .val (.int v13_68)] [(.int (x3 &&& (2147483647 : Int32))), (.int (1 : Int32))]))
    refine Goes.via (fun _ kk_ => XS.iload X69.here hx rfl (hb hby at_130) rfl  kk_) ?_
    show Goes p e below _ (T69.setTop (mkF m 132 #[.val (.int x0), .val (.int x1), .val (.int x2), .val (.int x3), .val (.int x4), .val (.int x5), .val (.int (4 : Int32)), .val (.int v7_63), .val (.int v13_68), .val (.long (((0 : Int64) ||| ((1 : Int64) <<< (v13_65 &&& 0x3f).toInt64)) ||| ((1 : Int64) <<< (v13_68 &&& 0x3f).toInt64))), .second, .val (.long (((0 : Int64) + (own_c4 v13_65)) + (own_c3 v13_68))), .second, .val (.int v13_68)] [(.int v13_68), (.int (x3 &&& (2147483647 : Int32))), (.int (1 : Int32))]))
    refine Goes.via (fun _ kk_ => XS.iconst X69.here hx rfl (hb hby at_132) kk_) ?_
    show Goes p e below _ (T69.setTop (mkF m 133 #[.val (.int x0), .val (.int x1), .val (.int x2), .val (.int x3), .val (.int x4), .val (.int x5), .val (.int (4 : Int32)), .val (.int v7_63), .val (.int v13_68), .val (.long (((0 : Int64) ||| ((1 : Int64) <<< (v13_65 &&& 0x3f).toInt64)) ||| ((1 : Int64) <<< (v13_68 &&& 0x3f).toInt64))), .second, .val (.long (((0 : Int64) + (own_c4 v13_65)) + (own_c3 v13_68))), .second, .val (.int v13_68)] [(.int (1 : Int32)), (.int v13_68), (.int (x3 &&& (2147483647 : Int32))), (.int (1 : Int32))]))
    refine Goes.via (fun _ kk_ => XS.isub X69.here hx rfl (hb hby at_133) rfl kk_) ?_
    show Goes p e below _ (T69.setTop (mkF m 134 #[.val (.int x0), .val (.int x1), .val (.int x2), .val (.int x3), .val (.int x4), .val (.int x5), .val (.int (4 : Int32)), .val (.int v7_63), .val (.int v13_68), .val (.long (((0 : Int64) ||| ((1 : Int64) <<< (v13_65 &&& 0x3f).toInt64)) ||| ((1 : Int64) <<< (v13_68 &&& 0x3f).toInt64))), .second, .val (.long (((0 : Int64) + (own_c4 v13_65)) + (own_c3 v13_68))), .second, .val (.int v13_68)] [(.int (v13_68 - (1 : Int32))), (.int (x3 &&& (2147483647 : Int32))), (.int (1 : Int32))]))
    refine Goes.via (fun _ kk_ => iremM X69 hx rfl (hb hby at_134) rfl (own_nz0 (own_dk (k := 1) hnu2 (by decide) (by omega)) (by omega)) kk_) ?_
    show Goes p e below _ (T69.setTop (mkF m 135 #[.val (.int x0), .val (.int x1), .val (.int x2), .val (.int x3), .val (.int x4), .val (.int x5), .val (.int (4 : Int32)), .val (.int v7_63), .val (.int v13_68), .val (.long (((0 : Int64) ||| ((1 : Int64) <<< (v13_65 &&& 0x3f).toInt64)) ||| ((1 : Int64) <<< (v13_68 &&& 0x3f).toInt64))), .second, .val (.long (((0 : Int64) + (own_c4 v13_65)) + (own_c3 v13_68))), .second, .val (.int v13_68)] [(.int ((x3 &&& (2147483647 : Int32)) % (v13_68 - (1 : Int32)))), (.int (1 : Int32))]))
    refine Goes.via (fun _ kk_ => XS.iadd X69.here hx rfl (hb hby at_135) rfl kk_) ?_
    show Goes p e below _ (T69.setTop (mkF m 136 #[.val (.int x0), .val (.int x1), .val (.int x2), .val (.int x3), .val (.int x4), .val (.int x5), .val (.int (4 : Int32)), .val (.int v7_63), .val (.int v13_68), .val (.long (((0 : Int64) ||| ((1 : Int64) <<< (v13_65 &&& 0x3f).toInt64)) ||| ((1 : Int64) <<< (v13_68 &&& 0x3f).toInt64))), .second, .val (.long (((0 : Int64) + (own_c4 v13_65)) + (own_c3 v13_68))), .second, .val (.int v13_68)] [(.int ((1 : Int32) + ((x3 &&& (2147483647 : Int32)) % (v13_68 - (1 : Int32)))))]))
    refine Goes.via (fun _ kk_ => XS.istore X69.here hx rfl (hb hby at_136) rfl (l' := #[.val (.int x0), .val (.int x1), .val (.int x2), .val (.int x3), .val (.int x4), .val (.int x5), .val (.int (4 : Int32)), .val (.int v7_63), .val (.int v13_68), .val (.long (((0 : Int64) ||| ((1 : Int64) <<< (v13_65 &&& 0x3f).toInt64)) ||| ((1 : Int64) <<< (v13_68 &&& 0x3f).toInt64))), .second, .val (.long (((0 : Int64) + (own_c4 v13_65)) + (own_c3 v13_68))), .second, .val (.int ((1 : Int32) + ((x3 &&& (2147483647 : Int32)) % (v13_68 - (1 : Int32)))))]) rfl kk_) ?_
    show Goes p e below _ (T69.setTop (mkF m 138 #[.val (.int x0), .val (.int x1), .val (.int x2), .val (.int x3), .val (.int x4), .val (.int x5), .val (.int (4 : Int32)), .val (.int v7_63), .val (.int v13_68), .val (.long (((0 : Int64) ||| ((1 : Int64) <<< (v13_65 &&& 0x3f).toInt64)) ||| ((1 : Int64) <<< (v13_68 &&& 0x3f).toInt64))), .second, .val (.long (((0 : Int64) + (own_c4 v13_65)) + (own_c3 v13_68))), .second, .val (.int ((1 : Int32) + ((x3 &&& (2147483647 : Int32)) % (v13_68 - (1 : Int32)))))] []))
    generalize hv_v13_71 : ((1 : Int32) + ((x3 &&& (2147483647 : Int32)) % (v13_68 - (1 : Int32)))) = v13_71
    show Goes p e below _ (T69.setTop (mkF m 138 #[.val (.int x0), .val (.int x1), .val (.int x2), .val (.int x3), .val (.int x4), .val (.int x5), .val (.int (4 : Int32)), .val (.int v7_63), .val (.int v13_68), .val (.long (((0 : Int64) ||| ((1 : Int64) <<< (v13_65 &&& 0x3f).toInt64)) ||| ((1 : Int64) <<< (v13_68 &&& 0x3f).toInt64))), .second, .val (.long (((0 : Int64) + (own_c4 v13_65)) + (own_c3 v13_68))), .second, .val (.int v13_71)] []))
    obtain ⟨nu1, hnu1, hnu1a, hnu1b⟩ := own_pick (k := 1) (c := (1 : Int32)) hnu2 (by omega) (by decide) (by omega) hv_v13_71
    refine Goes.via (fun _ kk_ => XS.lload X69.here hx rfl (hb hby at_138) rfl  kk_) ?_
    show Goes p e below _ (T69.setTop (mkF m 140 #[.val (.int x0), .val (.int x1), .val (.int x2), .val (.int x3), .val (.int x4), .val (.int x5), .val (.int (4 : Int32)), .val (.int v7_63), .val (.int v13_68), .val (.long (((0 : Int64) ||| ((1 : Int64) <<< (v13_65 &&& 0x3f).toInt64)) ||| ((1 : Int64) <<< (v13_68 &&& 0x3f).toInt64))), .second, .val (.long (((0 : Int64) + (own_c4 v13_65)) + (own_c3 v13_68))), .second, .val (.int v13_71)] [(.long (((0 : Int64) ||| ((1 : Int64) <<< (v13_65 &&& 0x3f).toInt64)) ||| ((1 : Int64) <<< (v13_68 &&& 0x3f).toInt64)))]))
    refine Goes.via (fun _ kk_ => XS.lconst X69.here hx rfl (hb hby at_140) kk_) ?_
    show Goes p e below _ (T69.setTop (mkF m 141 #[.val (.int x0), .val (.int x1), .val (.int x2), .val (.int x3), .val (.int x4), .val (.int x5), .val (.int (4 : Int32)), .val (.int v7_63), .val (.int v13_68), .val (.long (((0 : Int64) ||| ((1 : Int64) <<< (v13_65 &&& 0x3f).toInt64)) ||| ((1 : Int64) <<< (v13_68 &&& 0x3f).toInt64))), .second, .val (.long (((0 : Int64) + (own_c4 v13_65)) + (own_c3 v13_68))), .second, .val (.int v13_71)] [(.long (1 : Int64)), (.long (((0 : Int64) ||| ((1 : Int64) <<< (v13_65 &&& 0x3f).toInt64)) ||| ((1 : Int64) <<< (v13_68 &&& 0x3f).toInt64)))]))
    refine Goes.via (fun _ kk_ => XS.iload X69.here hx rfl (hb hby at_141) rfl  kk_) ?_
    show Goes p e below _ (T69.setTop (mkF m 143 #[.val (.int x0), .val (.int x1), .val (.int x2), .val (.int x3), .val (.int x4), .val (.int x5), .val (.int (4 : Int32)), .val (.int v7_63), .val (.int v13_68), .val (.long (((0 : Int64) ||| ((1 : Int64) <<< (v13_65 &&& 0x3f).toInt64)) ||| ((1 : Int64) <<< (v13_68 &&& 0x3f).toInt64))), .second, .val (.long (((0 : Int64) + (own_c4 v13_65)) + (own_c3 v13_68))), .second, .val (.int v13_71)] [(.int v13_71), (.long (1 : Int64)), (.long (((0 : Int64) ||| ((1 : Int64) <<< (v13_65 &&& 0x3f).toInt64)) ||| ((1 : Int64) <<< (v13_68 &&& 0x3f).toInt64)))]))
    refine Goes.via (fun _ kk_ => XS.lshl X69.here hx rfl (hb hby at_143) rfl kk_) ?_
    show Goes p e below _ (T69.setTop (mkF m 144 #[.val (.int x0), .val (.int x1), .val (.int x2), .val (.int x3), .val (.int x4), .val (.int x5), .val (.int (4 : Int32)), .val (.int v7_63), .val (.int v13_68), .val (.long (((0 : Int64) ||| ((1 : Int64) <<< (v13_65 &&& 0x3f).toInt64)) ||| ((1 : Int64) <<< (v13_68 &&& 0x3f).toInt64))), .second, .val (.long (((0 : Int64) + (own_c4 v13_65)) + (own_c3 v13_68))), .second, .val (.int v13_71)] [(.long ((1 : Int64) <<< (v13_71 &&& 0x3f).toInt64)), (.long (((0 : Int64) ||| ((1 : Int64) <<< (v13_65 &&& 0x3f).toInt64)) ||| ((1 : Int64) <<< (v13_68 &&& 0x3f).toInt64)))]))
    refine Goes.via (fun _ kk_ => XS.lor X69.here hx rfl (hb hby at_144) rfl kk_) ?_
    show Goes p e below _ (T69.setTop (mkF m 145 #[.val (.int x0), .val (.int x1), .val (.int x2), .val (.int x3), .val (.int x4), .val (.int x5), .val (.int (4 : Int32)), .val (.int v7_63), .val (.int v13_68), .val (.long (((0 : Int64) ||| ((1 : Int64) <<< (v13_65 &&& 0x3f).toInt64)) ||| ((1 : Int64) <<< (v13_68 &&& 0x3f).toInt64))), .second, .val (.long (((0 : Int64) + (own_c4 v13_65)) + (own_c3 v13_68))), .second, .val (.int v13_71)] [(.long ((((0 : Int64) ||| ((1 : Int64) <<< (v13_65 &&& 0x3f).toInt64)) ||| ((1 : Int64) <<< (v13_68 &&& 0x3f).toInt64)) ||| ((1 : Int64) <<< (v13_71 &&& 0x3f).toInt64)))]))
    refine Goes.via (fun _ kk_ => XS.lstore X69.here hx rfl (hb hby at_145) rfl (l' := #[.val (.int x0), .val (.int x1), .val (.int x2), .val (.int x3), .val (.int x4), .val (.int x5), .val (.int (4 : Int32)), .val (.int v7_63), .val (.int v13_68), .val (.long ((((0 : Int64) ||| ((1 : Int64) <<< (v13_65 &&& 0x3f).toInt64)) ||| ((1 : Int64) <<< (v13_68 &&& 0x3f).toInt64)) ||| ((1 : Int64) <<< (v13_71 &&& 0x3f).toInt64))), .second, .val (.long (((0 : Int64) + (own_c4 v13_65)) + (own_c3 v13_68))), .second, .val (.int v13_71)]) rfl kk_) ?_
    show Goes p e below _ (T69.setTop (mkF m 147 #[.val (.int x0), .val (.int x1), .val (.int x2), .val (.int x3), .val (.int x4), .val (.int x5), .val (.int (4 : Int32)), .val (.int v7_63), .val (.int v13_68), .val (.long ((((0 : Int64) ||| ((1 : Int64) <<< (v13_65 &&& 0x3f).toInt64)) ||| ((1 : Int64) <<< (v13_68 &&& 0x3f).toInt64)) ||| ((1 : Int64) <<< (v13_71 &&& 0x3f).toInt64))), .second, .val (.long (((0 : Int64) + (own_c4 v13_65)) + (own_c3 v13_68))), .second, .val (.int v13_71)] []))
    refine Goes.via (fun _ kk_ => XS.lload X69.here hx rfl (hb hby at_147) rfl  kk_) ?_
    show Goes p e below _ (T69.setTop (mkF m 149 #[.val (.int x0), .val (.int x1), .val (.int x2), .val (.int x3), .val (.int x4), .val (.int x5), .val (.int (4 : Int32)), .val (.int v7_63), .val (.int v13_68), .val (.long ((((0 : Int64) ||| ((1 : Int64) <<< (v13_65 &&& 0x3f).toInt64)) ||| ((1 : Int64) <<< (v13_68 &&& 0x3f).toInt64)) ||| ((1 : Int64) <<< (v13_71 &&& 0x3f).toInt64))), .second, .val (.long (((0 : Int64) + (own_c4 v13_65)) + (own_c3 v13_68))), .second, .val (.int v13_71)] [(.long (((0 : Int64) + (own_c4 v13_65)) + (own_c3 v13_68)))]))
    refine Goes.via (fun _ kk_ => XS.iload X69.here hx rfl (hb hby at_149) rfl  kk_) ?_
    show Goes p e below _ (T69.setTop (mkF m 151 #[.val (.int x0), .val (.int x1), .val (.int x2), .val (.int x3), .val (.int x4), .val (.int x5), .val (.int (4 : Int32)), .val (.int v7_63), .val (.int v13_68), .val (.long ((((0 : Int64) ||| ((1 : Int64) <<< (v13_65 &&& 0x3f).toInt64)) ||| ((1 : Int64) <<< (v13_68 &&& 0x3f).toInt64)) ||| ((1 : Int64) <<< (v13_71 &&& 0x3f).toInt64))), .second, .val (.long (((0 : Int64) + (own_c4 v13_65)) + (own_c3 v13_68))), .second, .val (.int v13_71)] [(.int v13_71), (.long (((0 : Int64) + (own_c4 v13_65)) + (own_c3 v13_68)))]))
    obtain ⟨_, _, ⟨T72, L72, k72, n72⟩, -, X72, ⟨Lc72, hQ72, l72, y72, z72⟩, st72⟩ := Jvm.LawKit.callS X69 hx (y := (⟨"com/example/checks_on_duty/checksonduty/engine/RankedSetsSetPinLaw", "c2", "(I)J"⟩ : MethodName)) hown (mvT hZ (hw _ (List.mem_of_getElem? (i := 37) rfl))) (mvT hZ (hw _ (List.mem_of_getElem? (i := 38) rfl))) (mvT hZ (hw _ (List.mem_of_getElem? (i := 28) rfl))) (mvT hZ (hw _ (List.mem_of_getElem? (i := 39) rfl))) (by decide) (backOf (W := 2) (rm7 l Z a0 hw [] v13_71 h0 n0 (Nat.le_trans Z0 (Nat.le_refl _)) ) hZ (hw _ (List.mem_of_getElem? (i := 39) rfl)) (hw _ (List.mem_of_getElem? (i := 28) rfl)) (by decide) (by decide)) (g := (mkF m 151 #[.val (.int x0), .val (.int x1), .val (.int x2), .val (.int x3), .val (.int x4), .val (.int x5), .val (.int (4 : Int32)), .val (.int v7_63), .val (.int v13_68), .val (.long ((((0 : Int64) ||| ((1 : Int64) <<< (v13_65 &&& 0x3f).toInt64)) ||| ((1 : Int64) <<< (v13_68 &&& 0x3f).toInt64)) ||| ((1 : Int64) <<< (v13_71 &&& 0x3f).toInt64))), .second, .val (.long (((0 : Int64) + (own_c4 v13_65)) + (own_c3 v13_68))), .second, .val (.int v13_71)] [(.int v13_71), (.long (((0 : Int64) + (own_c4 v13_65)) + (own_c3 v13_68)))])) rfl (by rw [hml]; rfl) (argsL := [(.int v13_71)]) (rest := [(.long (((0 : Int64) + (own_c4 v13_65)) + (own_c3 v13_68)))]) (lenOf pd_3 rfl) rfl (by show 2 * 0 + _ ≤ _; exact Nat.le_of_eq rfl) (hb hby at_151) (fun _ _ => ⟨rfl, e69', (by first | decide | omega | (dsimp only; omega) : 0 + 0 ≤ _), (by first | decide | omega | (dsimp only; omega) : 0 + 0 ≤ _)⟩)
    dsimp only [Pt.U, Pt.locs, Pt.cells, Pt.slots] at X72 l72 y72 z72 st72 hQ72
    subst l72 y72 z72
    obtain ⟨rfl, N72q, e72⟩ := hQ72
    have N72 := Fr.app N69 N72q
    refine Goes.via st72 ?_
    have e72' : T72.heap = h0 := e72
    show Goes p e below _ (T72.setTop (mkF m 154 #[.val (.int x0), .val (.int x1), .val (.int x2), .val (.int x3), .val (.int x4), .val (.int x5), .val (.int (4 : Int32)), .val (.int v7_63), .val (.int v13_68), .val (.long ((((0 : Int64) ||| ((1 : Int64) <<< (v13_65 &&& 0x3f).toInt64)) ||| ((1 : Int64) <<< (v13_68 &&& 0x3f).toInt64)) ||| ((1 : Int64) <<< (v13_71 &&& 0x3f).toInt64))), .second, .val (.long (((0 : Int64) + (own_c4 v13_65)) + (own_c3 v13_68))), .second, .val (.int v13_71)] [(.long (own_c2 v13_71)), (.long (((0 : Int64) + (own_c4 v13_65)) + (own_c3 v13_68)))]))
    refine Goes.via (fun _ kk_ => XS.ladd X72.here hx rfl (hb hby at_154) rfl kk_) ?_
    show Goes p e below _ (T72.setTop (mkF m 155 #[.val (.int x0), .val (.int x1), .val (.int x2), .val (.int x3), .val (.int x4), .val (.int x5), .val (.int (4 : Int32)), .val (.int v7_63), .val (.int v13_68), .val (.long ((((0 : Int64) ||| ((1 : Int64) <<< (v13_65 &&& 0x3f).toInt64)) ||| ((1 : Int64) <<< (v13_68 &&& 0x3f).toInt64)) ||| ((1 : Int64) <<< (v13_71 &&& 0x3f).toInt64))), .second, .val (.long (((0 : Int64) + (own_c4 v13_65)) + (own_c3 v13_68))), .second, .val (.int v13_71)] [(.long ((((0 : Int64) + (own_c4 v13_65)) + (own_c3 v13_68)) + (own_c2 v13_71)))]))
    refine Goes.via (fun _ kk_ => XS.lstore X72.here hx rfl (hb hby at_155) rfl (l' := #[.val (.int x0), .val (.int x1), .val (.int x2), .val (.int x3), .val (.int x4), .val (.int x5), .val (.int (4 : Int32)), .val (.int v7_63), .val (.int v13_68), .val (.long ((((0 : Int64) ||| ((1 : Int64) <<< (v13_65 &&& 0x3f).toInt64)) ||| ((1 : Int64) <<< (v13_68 &&& 0x3f).toInt64)) ||| ((1 : Int64) <<< (v13_71 &&& 0x3f).toInt64))), .second, .val (.long ((((0 : Int64) + (own_c4 v13_65)) + (own_c3 v13_68)) + (own_c2 v13_71))), .second, .val (.int v13_71)]) rfl kk_) ?_
    show Goes p e below _ (T72.setTop (mkF m 157 #[.val (.int x0), .val (.int x1), .val (.int x2), .val (.int x3), .val (.int x4), .val (.int x5), .val (.int (4 : Int32)), .val (.int v7_63), .val (.int v13_68), .val (.long ((((0 : Int64) ||| ((1 : Int64) <<< (v13_65 &&& 0x3f).toInt64)) ||| ((1 : Int64) <<< (v13_68 &&& 0x3f).toInt64)) ||| ((1 : Int64) <<< (v13_71 &&& 0x3f).toInt64))), .second, .val (.long ((((0 : Int64) + (own_c4 v13_65)) + (own_c3 v13_68)) + (own_c2 v13_71))), .second, .val (.int v13_71)] []))
    refine Goes.via (fun _ kk_ => XS.iload X72.here hx rfl (hb hby at_157) rfl  kk_) ?_
    show Goes p e below _ (T72.setTop (mkF m 159 #[.val (.int x0), .val (.int x1), .val (.int x2), .val (.int x3), .val (.int x4), .val (.int x5), .val (.int (4 : Int32)), .val (.int v7_63), .val (.int v13_68), .val (.long ((((0 : Int64) ||| ((1 : Int64) <<< (v13_65 &&& 0x3f).toInt64)) ||| ((1 : Int64) <<< (v13_68 &&& 0x3f).toInt64)) ||| ((1 : Int64) <<< (v13_71 &&& 0x3f).toInt64))), .second, .val (.long ((((0 : Int64) + (own_c4 v13_65)) + (own_c3 v13_68)) + (own_c2 v13_71))), .second, .val (.int v13_71)] [(.int v13_71)]))
    refine Goes.via (fun _ kk_ => XS.istore X72.here hx rfl (hb hby at_159) rfl (l' := #[.val (.int x0), .val (.int x1), .val (.int x2), .val (.int x3), .val (.int x4), .val (.int x5), .val (.int (4 : Int32)), .val (.int v7_63), .val (.int v13_71), .val (.long ((((0 : Int64) ||| ((1 : Int64) <<< (v13_65 &&& 0x3f).toInt64)) ||| ((1 : Int64) <<< (v13_68 &&& 0x3f).toInt64)) ||| ((1 : Int64) <<< (v13_71 &&& 0x3f).toInt64))), .second, .val (.long ((((0 : Int64) + (own_c4 v13_65)) + (own_c3 v13_68)) + (own_c2 v13_71))), .second, .val (.int v13_71)]) rfl kk_) ?_
    show Goes p e below _ (T72.setTop (mkF m 161 #[.val (.int x0), .val (.int x1), .val (.int x2), .val (.int x3), .val (.int x4), .val (.int x5), .val (.int (4 : Int32)), .val (.int v7_63), .val (.int v13_71), .val (.long ((((0 : Int64) ||| ((1 : Int64) <<< (v13_65 &&& 0x3f).toInt64)) ||| ((1 : Int64) <<< (v13_68 &&& 0x3f).toInt64)) ||| ((1 : Int64) <<< (v13_71 &&& 0x3f).toInt64))), .second, .val (.long ((((0 : Int64) + (own_c4 v13_65)) + (own_c3 v13_68)) + (own_c2 v13_71))), .second, .val (.int v13_71)] []))
    refine Goes.via (fun _ kk_ => XS.iload X72.here hx rfl (hb hby at_161) rfl  kk_) ?_
    show Goes p e below _ (T72.setTop (mkF m 163 #[.val (.int x0), .val (.int x1), .val (.int x2), .val (.int x3), .val (.int x4), .val (.int x5), .val (.int (4 : Int32)), .val (.int v7_63), .val (.int v13_71), .val (.long ((((0 : Int64) ||| ((1 : Int64) <<< (v13_65 &&& 0x3f).toInt64)) ||| ((1 : Int64) <<< (v13_68 &&& 0x3f).toInt64)) ||| ((1 : Int64) <<< (v13_71 &&& 0x3f).toInt64))), .second, .val (.long ((((0 : Int64) + (own_c4 v13_65)) + (own_c3 v13_68)) + (own_c2 v13_71))), .second, .val (.int v13_71)] [(.int (4 : Int32))]))
    refine Goes.via (fun _ kk_ => XS.iconst X72.here hx rfl (hb hby at_163) kk_) ?_
    show Goes p e below _ (T72.setTop (mkF m 164 #[.val (.int x0), .val (.int x1), .val (.int x2), .val (.int x3), .val (.int x4), .val (.int x5), .val (.int (4 : Int32)), .val (.int v7_63), .val (.int v13_71), .val (.long ((((0 : Int64) ||| ((1 : Int64) <<< (v13_65 &&& 0x3f).toInt64)) ||| ((1 : Int64) <<< (v13_68 &&& 0x3f).toInt64)) ||| ((1 : Int64) <<< (v13_71 &&& 0x3f).toInt64))), .second, .val (.long ((((0 : Int64) + (own_c4 v13_65)) + (own_c3 v13_68)) + (own_c2 v13_71))), .second, .val (.int v13_71)] [(.int (1 : Int32)), (.int (4 : Int32))]))
    have hc164_73 : ¬ ((4 : Int32) < (1 : Int32)) := (by decide)
    refine Goes.via (fun _ kk_ => XS.icmpNo X72.here hx rfl (hb hby at_164) rfl (flt hc164_73).1 kk_) ?_
    show Goes p e below _ (T72.setTop (mkF m 167 #[.val (.int x0), .val (.int x1), .val (.int x2), .val (.int x3), .val (.int x4), .val (.int x5), .val (.int (4 : Int32)), .val (.int v7_63), .val (.int v13_71), .val (.long ((((0 : Int64) ||| ((1 : Int64) <<< (v13_65 &&& 0x3f).toInt64)) ||| ((1 : Int64) <<< (v13_68 &&& 0x3f).toInt64)) ||| ((1 : Int64) <<< (v13_71 &&& 0x3f).toInt64))), .second, .val (.long ((((0 : Int64) + (own_c4 v13_65)) + (own_c3 v13_68)) + (own_c2 v13_71))), .second, .val (.int v13_71)] []))
    refine Goes.via (fun _ kk_ => XS.iloadN X72.here hx rfl (hb hby at_167) rfl  kk_) ?_
    show Goes p e below _ (T72.setTop (mkF m 168 #[.val (.int x0), .val (.int x1), .val (.int x2), .val (.int x3), .val (.int x4), .val (.int x5), .val (.int (4 : Int32)), .val (.int v7_63), .val (.int v13_71), .val (.long ((((0 : Int64) ||| ((1 : Int64) <<< (v13_65 &&& 0x3f).toInt64)) ||| ((1 : Int64) <<< (v13_68 &&& 0x3f).toInt64)) ||| ((1 : Int64) <<< (v13_71 &&& 0x3f).toInt64))), .second, .val (.long ((((0 : Int64) + (own_c4 v13_65)) + (own_c3 v13_68)) + (own_c2 v13_71))), .second, .val (.int v13_71)] [(.int x2)]))
    refine Goes.via (X72.ldcInt hx hown (mvT hZ (hw _ (List.mem_of_getElem? (i := 0) rfl))) (g := (mkF m 168 #[.val (.int x0), .val (.int x1), .val (.int x2), .val (.int x3), .val (.int x4), .val (.int x5), .val (.int (4 : Int32)), .val (.int v7_63), .val (.int v13_71), .val (.long ((((0 : Int64) ||| ((1 : Int64) <<< (v13_65 &&& 0x3f).toInt64)) ||| ((1 : Int64) <<< (v13_68 &&& 0x3f).toInt64)) ||| ((1 : Int64) <<< (v13_71 &&& 0x3f).toInt64))), .second, .val (.long ((((0 : Int64) + (own_c4 v13_65)) + (own_c3 v13_68)) + (own_c2 v13_71))), .second, .val (.int v13_71)] [(.int x2)])) rfl (hb hby at_168)) ?_
    show Goes p e below _ (T72.setTop (mkF m 170 #[.val (.int x0), .val (.int x1), .val (.int x2), .val (.int x3), .val (.int x4), .val (.int x5), .val (.int (4 : Int32)), .val (.int v7_63), .val (.int v13_71), .val (.long ((((0 : Int64) ||| ((1 : Int64) <<< (v13_65 &&& 0x3f).toInt64)) ||| ((1 : Int64) <<< (v13_68 &&& 0x3f).toInt64)) ||| ((1 : Int64) <<< (v13_71 &&& 0x3f).toInt64))), .second, .val (.long ((((0 : Int64) + (own_c4 v13_65)) + (own_c3 v13_68)) + (own_c2 v13_71))), .second, .val (.int v13_71)] [(.int (2147483647 : Int32)), (.int x2)]))
    refine Goes.via (fun _ kk_ => XS.iand X72.here hx rfl (hb hby at_170) rfl kk_) ?_
    show Goes p e below _ (T72.setTop (mkF m 171 #[.val (.int x0), .val (.int x1), .val (.int x2), .val (.int x3), .val (.int x4), .val (.int x5), .val (.int (4 : Int32)), .val (.int v7_63), .val (.int v13_71), .val (.long ((((0 : Int64) ||| ((1 : Int64) <<< (v13_65 &&& 0x3f).toInt64)) ||| ((1 : Int64) <<< (v13_68 &&& 0x3f).toInt64)) ||| ((1 : Int64) <<< (v13_71 &&& 0x3f).toInt64))), .second, .val (.long ((((0 : Int64) + (own_c4 v13_65)) + (own_c3 v13_68)) + (own_c2 v13_71))), .second, .val (.int v13_71)] [(.int (x2 &&& (2147483647 : Int32)))]))
    refine Goes.via (fun _ kk_ => XS.iload X72.here hx rfl (hb hby at_171) rfl  kk_) ?_
    show Goes p e below _ (T72.setTop (mkF m 173 #[.val (.int x0), .val (.int x1), .val (.int x2), .val (.int x3), .val (.int x4), .val (.int x5), .val (.int (4 : Int32)), .val (.int v7_63), .val (.int v13_71), .val (.long ((((0 : Int64) ||| ((1 : Int64) <<< (v13_65 &&& 0x3f).toInt64)) ||| ((1 : Int64) <<< (v13_68 &&& 0x3f).toInt64)) ||| ((1 : Int64) <<< (v13_71 &&& 0x3f).toInt64))), .second, .val (.long ((((0 : Int64) + (own_c4 v13_65)) + (own_c3 v13_68)) + (own_c2 v13_71))), .second, .val (.int v13_71)] [(.int v13_71), (.int (x2 &&& (2147483647 : Int32)))]))
    refine Goes.via (fun _ kk_ => iremM X72 hx rfl (hb hby at_173) rfl (own_nz0 hnu1 (by omega)) kk_) ?_
    show Goes p e below _ (T72.setTop (mkF m 174 #[.val (.int x0), .val (.int x1), .val (.int x2), .val (.int x3), .val (.int x4), .val (.int x5), .val (.int (4 : Int32)), .val (.int v7_63), .val (.int v13_71), .val (.long ((((0 : Int64) ||| ((1 : Int64) <<< (v13_65 &&& 0x3f).toInt64)) ||| ((1 : Int64) <<< (v13_68 &&& 0x3f).toInt64)) ||| ((1 : Int64) <<< (v13_71 &&& 0x3f).toInt64))), .second, .val (.long ((((0 : Int64) + (own_c4 v13_65)) + (own_c3 v13_68)) + (own_c2 v13_71))), .second, .val (.int v13_71)] [(.int ((x2 &&& (2147483647 : Int32)) % v13_71))]))
    refine Goes.via (fun _ kk_ => XS.istore X72.here hx rfl (hb hby at_174) rfl (l' := #[.val (.int x0), .val (.int x1), .val (.int x2), .val (.int x3), .val (.int x4), .val (.int x5), .val (.int (4 : Int32)), .val (.int v7_63), .val (.int v13_71), .val (.long ((((0 : Int64) ||| ((1 : Int64) <<< (v13_65 &&& 0x3f).toInt64)) ||| ((1 : Int64) <<< (v13_68 &&& 0x3f).toInt64)) ||| ((1 : Int64) <<< (v13_71 &&& 0x3f).toInt64))), .second, .val (.long ((((0 : Int64) + (own_c4 v13_65)) + (own_c3 v13_68)) + (own_c2 v13_71))), .second, .val (.int ((x2 &&& (2147483647 : Int32)) % v13_71))]) rfl kk_) ?_
    show Goes p e below _ (T72.setTop (mkF m 176 #[.val (.int x0), .val (.int x1), .val (.int x2), .val (.int x3), .val (.int x4), .val (.int x5), .val (.int (4 : Int32)), .val (.int v7_63), .val (.int v13_71), .val (.long ((((0 : Int64) ||| ((1 : Int64) <<< (v13_65 &&& 0x3f).toInt64)) ||| ((1 : Int64) <<< (v13_68 &&& 0x3f).toInt64)) ||| ((1 : Int64) <<< (v13_71 &&& 0x3f).toInt64))), .second, .val (.long ((((0 : Int64) + (own_c4 v13_65)) + (own_c3 v13_68)) + (own_c2 v13_71))), .second, .val (.int ((x2 &&& (2147483647 : Int32)) % v13_71))] []))
    generalize hv_v13_74 : ((x2 &&& (2147483647 : Int32)) % v13_71) = v13_74
    show Goes p e below _ (T72.setTop (mkF m 176 #[.val (.int x0), .val (.int x1), .val (.int x2), .val (.int x3), .val (.int x4), .val (.int x5), .val (.int (4 : Int32)), .val (.int v7_63), .val (.int v13_71), .val (.long ((((0 : Int64) ||| ((1 : Int64) <<< (v13_65 &&& 0x3f).toInt64)) ||| ((1 : Int64) <<< (v13_68 &&& 0x3f).toInt64)) ||| ((1 : Int64) <<< (v13_71 &&& 0x3f).toInt64))), .second, .val (.long ((((0 : Int64) + (own_c4 v13_65)) + (own_c3 v13_68)) + (own_c2 v13_71))), .second, .val (.int v13_74)] []))
    obtain ⟨nu0, hnu0, hnu0b⟩ := own_pick0 hnu1 (by omega) hv_v13_74
    refine Goes.via (fun _ kk_ => XS.lload X72.here hx rfl (hb hby at_176) rfl  kk_) ?_
    show Goes p e below _ (T72.setTop (mkF m 178 #[.val (.int x0), .val (.int x1), .val (.int x2), .val (.int x3), .val (.int x4), .val (.int x5), .val (.int (4 : Int32)), .val (.int v7_63), .val (.int v13_71), .val (.long ((((0 : Int64) ||| ((1 : Int64) <<< (v13_65 &&& 0x3f).toInt64)) ||| ((1 : Int64) <<< (v13_68 &&& 0x3f).toInt64)) ||| ((1 : Int64) <<< (v13_71 &&& 0x3f).toInt64))), .second, .val (.long ((((0 : Int64) + (own_c4 v13_65)) + (own_c3 v13_68)) + (own_c2 v13_71))), .second, .val (.int v13_74)] [(.long ((((0 : Int64) ||| ((1 : Int64) <<< (v13_65 &&& 0x3f).toInt64)) ||| ((1 : Int64) <<< (v13_68 &&& 0x3f).toInt64)) ||| ((1 : Int64) <<< (v13_71 &&& 0x3f).toInt64)))]))
    refine Goes.via (fun _ kk_ => XS.lconst X72.here hx rfl (hb hby at_178) kk_) ?_
    show Goes p e below _ (T72.setTop (mkF m 179 #[.val (.int x0), .val (.int x1), .val (.int x2), .val (.int x3), .val (.int x4), .val (.int x5), .val (.int (4 : Int32)), .val (.int v7_63), .val (.int v13_71), .val (.long ((((0 : Int64) ||| ((1 : Int64) <<< (v13_65 &&& 0x3f).toInt64)) ||| ((1 : Int64) <<< (v13_68 &&& 0x3f).toInt64)) ||| ((1 : Int64) <<< (v13_71 &&& 0x3f).toInt64))), .second, .val (.long ((((0 : Int64) + (own_c4 v13_65)) + (own_c3 v13_68)) + (own_c2 v13_71))), .second, .val (.int v13_74)] [(.long (1 : Int64)), (.long ((((0 : Int64) ||| ((1 : Int64) <<< (v13_65 &&& 0x3f).toInt64)) ||| ((1 : Int64) <<< (v13_68 &&& 0x3f).toInt64)) ||| ((1 : Int64) <<< (v13_71 &&& 0x3f).toInt64)))]))
    refine Goes.via (fun _ kk_ => XS.iload X72.here hx rfl (hb hby at_179) rfl  kk_) ?_
    show Goes p e below _ (T72.setTop (mkF m 181 #[.val (.int x0), .val (.int x1), .val (.int x2), .val (.int x3), .val (.int x4), .val (.int x5), .val (.int (4 : Int32)), .val (.int v7_63), .val (.int v13_71), .val (.long ((((0 : Int64) ||| ((1 : Int64) <<< (v13_65 &&& 0x3f).toInt64)) ||| ((1 : Int64) <<< (v13_68 &&& 0x3f).toInt64)) ||| ((1 : Int64) <<< (v13_71 &&& 0x3f).toInt64))), .second, .val (.long ((((0 : Int64) + (own_c4 v13_65)) + (own_c3 v13_68)) + (own_c2 v13_71))), .second, .val (.int v13_74)] [(.int v13_74), (.long (1 : Int64)), (.long ((((0 : Int64) ||| ((1 : Int64) <<< (v13_65 &&& 0x3f).toInt64)) ||| ((1 : Int64) <<< (v13_68 &&& 0x3f).toInt64)) ||| ((1 : Int64) <<< (v13_71 &&& 0x3f).toInt64)))]))
    refine Goes.via (fun _ kk_ => XS.lshl X72.here hx rfl (hb hby at_181) rfl kk_) ?_
    show Goes p e below _ (T72.setTop (mkF m 182 #[.val (.int x0), .val (.int x1), .val (.int x2), .val (.int x3), .val (.int x4), .val (.int x5), .val (.int (4 : Int32)), .val (.int v7_63), .val (.int v13_71), .val (.long ((((0 : Int64) ||| ((1 : Int64) <<< (v13_65 &&& 0x3f).toInt64)) ||| ((1 : Int64) <<< (v13_68 &&& 0x3f).toInt64)) ||| ((1 : Int64) <<< (v13_71 &&& 0x3f).toInt64))), .second, .val (.long ((((0 : Int64) + (own_c4 v13_65)) + (own_c3 v13_68)) + (own_c2 v13_71))), .second, .val (.int v13_74)] [(.long ((1 : Int64) <<< (v13_74 &&& 0x3f).toInt64)), (.long ((((0 : Int64) ||| ((1 : Int64) <<< (v13_65 &&& 0x3f).toInt64)) ||| ((1 : Int64) <<< (v13_68 &&& 0x3f).toInt64)) ||| ((1 : Int64) <<< (v13_71 &&& 0x3f).toInt64)))]))
    refine Goes.via (fun _ kk_ => XS.lor X72.here hx rfl (hb hby at_182) rfl kk_) ?_
    show Goes p e below _ (T72.setTop (mkF m 183 #[.val (.int x0), .val (.int x1), .val (.int x2), .val (.int x3), .val (.int x4), .val (.int x5), .val (.int (4 : Int32)), .val (.int v7_63), .val (.int v13_71), .val (.long ((((0 : Int64) ||| ((1 : Int64) <<< (v13_65 &&& 0x3f).toInt64)) ||| ((1 : Int64) <<< (v13_68 &&& 0x3f).toInt64)) ||| ((1 : Int64) <<< (v13_71 &&& 0x3f).toInt64))), .second, .val (.long ((((0 : Int64) + (own_c4 v13_65)) + (own_c3 v13_68)) + (own_c2 v13_71))), .second, .val (.int v13_74)] [(.long (((((0 : Int64) ||| ((1 : Int64) <<< (v13_65 &&& 0x3f).toInt64)) ||| ((1 : Int64) <<< (v13_68 &&& 0x3f).toInt64)) ||| ((1 : Int64) <<< (v13_71 &&& 0x3f).toInt64)) ||| ((1 : Int64) <<< (v13_74 &&& 0x3f).toInt64)))]))
    refine Goes.via (fun _ kk_ => XS.lstore X72.here hx rfl (hb hby at_183) rfl (l' := #[.val (.int x0), .val (.int x1), .val (.int x2), .val (.int x3), .val (.int x4), .val (.int x5), .val (.int (4 : Int32)), .val (.int v7_63), .val (.int v13_71), .val (.long (((((0 : Int64) ||| ((1 : Int64) <<< (v13_65 &&& 0x3f).toInt64)) ||| ((1 : Int64) <<< (v13_68 &&& 0x3f).toInt64)) ||| ((1 : Int64) <<< (v13_71 &&& 0x3f).toInt64)) ||| ((1 : Int64) <<< (v13_74 &&& 0x3f).toInt64))), .second, .val (.long ((((0 : Int64) + (own_c4 v13_65)) + (own_c3 v13_68)) + (own_c2 v13_71))), .second, .val (.int v13_74)]) rfl kk_) ?_
    show Goes p e below _ (T72.setTop (mkF m 185 #[.val (.int x0), .val (.int x1), .val (.int x2), .val (.int x3), .val (.int x4), .val (.int x5), .val (.int (4 : Int32)), .val (.int v7_63), .val (.int v13_71), .val (.long (((((0 : Int64) ||| ((1 : Int64) <<< (v13_65 &&& 0x3f).toInt64)) ||| ((1 : Int64) <<< (v13_68 &&& 0x3f).toInt64)) ||| ((1 : Int64) <<< (v13_71 &&& 0x3f).toInt64)) ||| ((1 : Int64) <<< (v13_74 &&& 0x3f).toInt64))), .second, .val (.long ((((0 : Int64) + (own_c4 v13_65)) + (own_c3 v13_68)) + (own_c2 v13_71))), .second, .val (.int v13_74)] []))
    refine Goes.via (fun _ kk_ => XS.lload X72.here hx rfl (hb hby at_185) rfl  kk_) ?_
    show Goes p e below _ (T72.setTop (mkF m 187 #[.val (.int x0), .val (.int x1), .val (.int x2), .val (.int x3), .val (.int x4), .val (.int x5), .val (.int (4 : Int32)), .val (.int v7_63), .val (.int v13_71), .val (.long (((((0 : Int64) ||| ((1 : Int64) <<< (v13_65 &&& 0x3f).toInt64)) ||| ((1 : Int64) <<< (v13_68 &&& 0x3f).toInt64)) ||| ((1 : Int64) <<< (v13_71 &&& 0x3f).toInt64)) ||| ((1 : Int64) <<< (v13_74 &&& 0x3f).toInt64))), .second, .val (.long ((((0 : Int64) + (own_c4 v13_65)) + (own_c3 v13_68)) + (own_c2 v13_71))), .second, .val (.int v13_74)] [(.long ((((0 : Int64) + (own_c4 v13_65)) + (own_c3 v13_68)) + (own_c2 v13_71)))]))
    refine Goes.via (fun _ kk_ => XS.iload X72.here hx rfl (hb hby at_187) rfl  kk_) ?_
    show Goes p e below _ (T72.setTop (mkF m 189 #[.val (.int x0), .val (.int x1), .val (.int x2), .val (.int x3), .val (.int x4), .val (.int x5), .val (.int (4 : Int32)), .val (.int v7_63), .val (.int v13_71), .val (.long (((((0 : Int64) ||| ((1 : Int64) <<< (v13_65 &&& 0x3f).toInt64)) ||| ((1 : Int64) <<< (v13_68 &&& 0x3f).toInt64)) ||| ((1 : Int64) <<< (v13_71 &&& 0x3f).toInt64)) ||| ((1 : Int64) <<< (v13_74 &&& 0x3f).toInt64))), .second, .val (.long ((((0 : Int64) + (own_c4 v13_65)) + (own_c3 v13_68)) + (own_c2 v13_71))), .second, .val (.int v13_74)] [(.int v13_74), (.long ((((0 : Int64) + (own_c4 v13_65)) + (own_c3 v13_68)) + (own_c2 v13_71)))]))
    refine Goes.via (fun _ kk_ => XS.i2l X72.here hx rfl (hb hby at_189) rfl kk_) ?_
    show Goes p e below _ (T72.setTop (mkF m 190 #[.val (.int x0), .val (.int x1), .val (.int x2), .val (.int x3), .val (.int x4), .val (.int x5), .val (.int (4 : Int32)), .val (.int v7_63), .val (.int v13_71), .val (.long (((((0 : Int64) ||| ((1 : Int64) <<< (v13_65 &&& 0x3f).toInt64)) ||| ((1 : Int64) <<< (v13_68 &&& 0x3f).toInt64)) ||| ((1 : Int64) <<< (v13_71 &&& 0x3f).toInt64)) ||| ((1 : Int64) <<< (v13_74 &&& 0x3f).toInt64))), .second, .val (.long ((((0 : Int64) + (own_c4 v13_65)) + (own_c3 v13_68)) + (own_c2 v13_71))), .second, .val (.int v13_74)] [(.long (v13_74.toInt64)), (.long ((((0 : Int64) + (own_c4 v13_65)) + (own_c3 v13_68)) + (own_c2 v13_71)))]))
    refine Goes.via (fun _ kk_ => XS.ladd X72.here hx rfl (hb hby at_190) rfl kk_) ?_
    show Goes p e below _ (T72.setTop (mkF m 191 #[.val (.int x0), .val (.int x1), .val (.int x2), .val (.int x3), .val (.int x4), .val (.int x5), .val (.int (4 : Int32)), .val (.int v7_63), .val (.int v13_71), .val (.long (((((0 : Int64) ||| ((1 : Int64) <<< (v13_65 &&& 0x3f).toInt64)) ||| ((1 : Int64) <<< (v13_68 &&& 0x3f).toInt64)) ||| ((1 : Int64) <<< (v13_71 &&& 0x3f).toInt64)) ||| ((1 : Int64) <<< (v13_74 &&& 0x3f).toInt64))), .second, .val (.long ((((0 : Int64) + (own_c4 v13_65)) + (own_c3 v13_68)) + (own_c2 v13_71))), .second, .val (.int v13_74)] [(.long (((((0 : Int64) + (own_c4 v13_65)) + (own_c3 v13_68)) + (own_c2 v13_71)) + (v13_74.toInt64)))]))
    refine Goes.via (fun _ kk_ => XS.lstore X72.here hx rfl (hb hby at_191) rfl (l' := #[.val (.int x0), .val (.int x1), .val (.int x2), .val (.int x3), .val (.int x4), .val (.int x5), .val (.int (4 : Int32)), .val (.int v7_63), .val (.int v13_71), .val (.long (((((0 : Int64) ||| ((1 : Int64) <<< (v13_65 &&& 0x3f).toInt64)) ||| ((1 : Int64) <<< (v13_68 &&& 0x3f).toInt64)) ||| ((1 : Int64) <<< (v13_71 &&& 0x3f).toInt64)) ||| ((1 : Int64) <<< (v13_74 &&& 0x3f).toInt64))), .second, .val (.long (((((0 : Int64) + (own_c4 v13_65)) + (own_c3 v13_68)) + (own_c2 v13_71)) + (v13_74.toInt64))), .second, .val (.int v13_74)]) rfl kk_) ?_
    show Goes p e below _ (T72.setTop (mkF m 193 #[.val (.int x0), .val (.int x1), .val (.int x2), .val (.int x3), .val (.int x4), .val (.int x5), .val (.int (4 : Int32)), .val (.int v7_63), .val (.int v13_71), .val (.long (((((0 : Int64) ||| ((1 : Int64) <<< (v13_65 &&& 0x3f).toInt64)) ||| ((1 : Int64) <<< (v13_68 &&& 0x3f).toInt64)) ||| ((1 : Int64) <<< (v13_71 &&& 0x3f).toInt64)) ||| ((1 : Int64) <<< (v13_74 &&& 0x3f).toInt64))), .second, .val (.long (((((0 : Int64) + (own_c4 v13_65)) + (own_c3 v13_68)) + (own_c2 v13_71)) + (v13_74.toInt64))), .second, .val (.int v13_74)] []))
    have hxs : own_dn nm [nu3, nu2, nu1, nu0] := ⟨(by omega), (by omega), (by omega), (by omega), trivial⟩
    have hrkE : own_rk [nu3, nu2, nu1, nu0] = (own_B nu3 4 + (own_B nu2 3 + (own_B nu1 2 + (own_B nu0 1 + 0)))) := rfl
    have hB4 := own_B_le (i := nu3) (j := 4) (by omega) (by decide)
    have hB3 := own_B_le (i := nu2) (j := 3) (by omega) (by decide)
    have hB2 := own_B_le (i := nu1) (j := 2) (by omega) (by decide)
    have hB1 := own_B_le (i := nu0) (j := 1) (by omega) (by decide)
    have hrk : ((((((0 : Int64) + (own_c4 v13_65)) + (own_c3 v13_68)) + (own_c2 v13_71)) + (v13_74.toInt64))).toInt = ((own_rk [nu3, nu2, nu1, nu0] : Nat) : Int) := by
      have z0 : (0 : Int64).toInt = ((0 : Nat) : Int) := by decide
      have z1 := own_addL z0 (own_c4B hnu3 (by omega)) (by omega) rfl
      have z2 := own_addL z1 (own_c3B hnu2 (by omega)) (by omega) rfl
      have z3 := own_addL z2 (own_c2B hnu1 (by omega)) (by omega) rfl
      have z4 := own_addL z3 (by rw [c_i2l, own_c1B (by omega)]; exact hnu0 : (v13_74.toInt64).toInt = ((own_B nu0 1 : Nat) : Int)) (by omega) rfl
      have zz := z4
      rw [hrkE]
      omega
    have hrkb : own_rk [nu3, nu2, nu1, nu0] ≤ 9000000 := by rw [hrkE]; omega
    obtain ⟨T75, h75, X75, e75, E75, A75, D75, -, st75⟩ := newO X72 hx hZ hown (hw _ (List.mem_of_getElem? (i := 1) rfl)) (hw _ (List.mem_of_getElem? (i := 2) rfl)) (hw _ (List.mem_of_getElem? (i := 3) rfl)) e72' (g := (mkF m 193 #[.val (.int x0), .val (.int x1), .val (.int x2), .val (.int x3), .val (.int x4), .val (.int x5), .val (.int (4 : Int32)), .val (.int v7_63), .val (.int v13_71), .val (.long (((((0 : Int64) ||| ((1 : Int64) <<< (v13_65 &&& 0x3f).toInt64)) ||| ((1 : Int64) <<< (v13_68 &&& 0x3f).toInt64)) ||| ((1 : Int64) <<< (v13_71 &&& 0x3f).toInt64)) ||| ((1 : Int64) <<< (v13_74 &&& 0x3f).toInt64))), .second, .val (.long (((((0 : Int64) + (own_c4 v13_65)) + (own_c3 v13_68)) + (own_c2 v13_71)) + (v13_74.toInt64))), .second, .val (.int v13_74)] [])) rfl (hb hby at_193) (by first | decide | omega | (dsimp only; omega)) (by first | decide | omega | (dsimp only; omega))
    obtain ⟨b75, g75⟩ : ∃ z, z = (h0).size := ⟨_, rfl⟩
    rw [← g75] at A75 D75 st75
    have sz_b75 : h0.size ≤ b75 := Nat.le_trans (Nat.le_refl _) (Nat.le_of_eq g75.symm)
    have gn_b75 : n0 ≤ b75 := Nat.le_trans Z0 sz_b75
    have F_users_b75 : Fld Z h75 b75 "com/example/checks_on_duty/checksonduty/engine/RankedSets" "users" "I" (.int (0 : Int32)) := D75 (Or.inr (hw _ (List.mem_of_getElem? (i := 11) rfl))) (ty := .int) (by decide)
    have F_binomial_b75 : Fld Z h75 b75 "com/example/checks_on_duty/checksonduty/engine/RankedSets" "binomial" "[[J" .null := D75 (Or.inr (hw _ (List.mem_of_getElem? (i := 16) rfl))) (ty := (.array (.array .long))) (by decide)
    refine Goes.via st75 ?_
    show Goes p e below _ (T75.setTop (mkF m 196 #[.val (.int x0), .val (.int x1), .val (.int x2), .val (.int x3), .val (.int x4), .val (.int x5), .val (.int (4 : Int32)), .val (.int v7_63), .val (.int v13_71), .val (.long (((((0 : Int64) ||| ((1 : Int64) <<< (v13_65 &&& 0x3f).toInt64)) ||| ((1 : Int64) <<< (v13_68 &&& 0x3f).toInt64)) ||| ((1 : Int64) <<< (v13_71 &&& 0x3f).toInt64)) ||| ((1 : Int64) <<< (v13_74 &&& 0x3f).toInt64))), .second, .val (.long (((((0 : Int64) + (own_c4 v13_65)) + (own_c3 v13_68)) + (own_c2 v13_71)) + (v13_74.toInt64))), .second, .val (.int v13_74)] [(.ref b75)]))
    refine Goes.via (fun _ kk_ => XS.dup X75.here hx rfl (hb hby at_196) rfl rfl kk_) ?_
    show Goes p e below _ (T75.setTop (mkF m 197 #[.val (.int x0), .val (.int x1), .val (.int x2), .val (.int x3), .val (.int x4), .val (.int x5), .val (.int (4 : Int32)), .val (.int v7_63), .val (.int v13_71), .val (.long (((((0 : Int64) ||| ((1 : Int64) <<< (v13_65 &&& 0x3f).toInt64)) ||| ((1 : Int64) <<< (v13_68 &&& 0x3f).toInt64)) ||| ((1 : Int64) <<< (v13_71 &&& 0x3f).toInt64)) ||| ((1 : Int64) <<< (v13_74 &&& 0x3f).toInt64))), .second, .val (.long (((((0 : Int64) + (own_c4 v13_65)) + (own_c3 v13_68)) + (own_c2 v13_71)) + (v13_74.toInt64))), .second, .val (.int v13_74)] [(.ref b75), (.ref b75)]))
    refine Goes.via (fun _ kk_ => XS.iload X75.here hx rfl (hb hby at_197) rfl  kk_) ?_
    show Goes p e below _ (T75.setTop (mkF m 199 #[.val (.int x0), .val (.int x1), .val (.int x2), .val (.int x3), .val (.int x4), .val (.int x5), .val (.int (4 : Int32)), .val (.int v7_63), .val (.int v13_71), .val (.long (((((0 : Int64) ||| ((1 : Int64) <<< (v13_65 &&& 0x3f).toInt64)) ||| ((1 : Int64) <<< (v13_68 &&& 0x3f).toInt64)) ||| ((1 : Int64) <<< (v13_71 &&& 0x3f).toInt64)) ||| ((1 : Int64) <<< (v13_74 &&& 0x3f).toInt64))), .second, .val (.long (((((0 : Int64) + (own_c4 v13_65)) + (own_c3 v13_68)) + (own_c2 v13_71)) + (v13_74.toInt64))), .second, .val (.int v13_74)] [(.int v7_63), (.ref b75), (.ref b75)]))
    refine Goes.via (fun _ kk_ => XS.iconst X75.here hx rfl (hb hby at_199) kk_) ?_
    show Goes p e below _ (T75.setTop (mkF m 200 #[.val (.int x0), .val (.int x1), .val (.int x2), .val (.int x3), .val (.int x4), .val (.int x5), .val (.int (4 : Int32)), .val (.int v7_63), .val (.int v13_71), .val (.long (((((0 : Int64) ||| ((1 : Int64) <<< (v13_65 &&& 0x3f).toInt64)) ||| ((1 : Int64) <<< (v13_68 &&& 0x3f).toInt64)) ||| ((1 : Int64) <<< (v13_71 &&& 0x3f).toInt64)) ||| ((1 : Int64) <<< (v13_74 &&& 0x3f).toInt64))), .second, .val (.long (((((0 : Int64) + (own_c4 v13_65)) + (own_c3 v13_68)) + (own_c2 v13_71)) + (v13_74.toInt64))), .second, .val (.int v13_74)] [(.int (4 : Int32)), (.int v7_63), (.ref b75), (.ref b75)]))
    have z77 : h0.size ≤ (h75).size := (Nat.le_trans (Nat.le_refl _) E75.1)
    obtain ⟨_, _, ⟨T76, L76, k76, n76⟩, -, X76, ⟨Lc76, hQ76, l76, y76, z76⟩, st76⟩ := X75.specialBack hx (y := (⟨"com/example/checks_on_duty/checksonduty/engine/RankedSets", "<init>", "(II)V"⟩ : MethodName)) rfl hown (mvT hZ (hw _ (List.mem_of_getElem? (i := 4) rfl))) (mvT hZ (hw _ (List.mem_of_getElem? (i := 5) rfl))) (mvT hZ (hw _ (List.mem_of_getElem? (i := 6) rfl))) (by decide) (backOf (W := 1) (rm1 l Z a0 hw [] b75 v7_63 (4 : Int32) nm 4 h75 n0 (Nat.le_trans Z0 z77) A75 F_users_b75 F_binomial_b75 gn_b75 hnm (by first | rfl | decide | assumption | omega | (simp; done)) (by first | rfl | decide | assumption | omega | (simp; done)) (by first | rfl | decide | assumption | omega | (simp; done))) hZ (hw _ (List.mem_of_getElem? (i := 6) rfl)) (hw _ (List.mem_of_getElem? (i := 3) rfl)) (by decide) (by decide)) (g := (mkF m 200 #[.val (.int x0), .val (.int x1), .val (.int x2), .val (.int x3), .val (.int x4), .val (.int x5), .val (.int (4 : Int32)), .val (.int v7_63), .val (.int v13_71), .val (.long (((((0 : Int64) ||| ((1 : Int64) <<< (v13_65 &&& 0x3f).toInt64)) ||| ((1 : Int64) <<< (v13_68 &&& 0x3f).toInt64)) ||| ((1 : Int64) <<< (v13_71 &&& 0x3f).toInt64)) ||| ((1 : Int64) <<< (v13_74 &&& 0x3f).toInt64))), .second, .val (.long (((((0 : Int64) + (own_c4 v13_65)) + (own_c3 v13_68)) + (own_c2 v13_71)) + (v13_74.toInt64))), .second, .val (.int v13_74)] [(.int (4 : Int32)), (.int v7_63), (.ref b75), (.ref b75)])) rfl (by rw [hml]; rfl) (Steps.refl _) (a := b75) (argsL := [(.int v7_63), (.int (4 : Int32))]) (rest := [(.ref b75)]) (lenOf pd_1 rfl) rfl (by show 2 * 0 + _ ≤ _; exact Nat.le_of_eq rfl) (hb hby at_200) (fun _ _ => ⟨rfl, e75, (by first | decide | omega | (dsimp only; omega) : 1 + 66 ≤ _), (by first | decide | omega | (dsimp only; omega) : 2 + 400 ≤ _)⟩)
    dsimp only [Pt.U, Pt.locs, Pt.cells, Pt.slots] at X76 l76 y76 z76 st76 hQ76
    subst l76 y76 z76
    obtain ⟨g76, kA76, kB76, rfl, N76q, K76, u76_0, u76_1, u76_2, u76_3, u76_4⟩ := hQ76
    have N76 := Fr.app N72 N76q
    refine Goes.tr st76 ?_
    have ne78 : b75 ≠ g76 := Nat.ne_of_lt (Nat.lt_of_lt_of_le A75.lt u76_0)
    have sz_g76 : h0.size ≤ g76 := Nat.le_trans z77 u76_0
    have gn_g76 : n0 ≤ g76 := Nat.le_trans Z0 sz_g76
    -- u76_0 : h0.size ≤ g76
    show Goes p e below _ (T76.setTop (mkF m 203 #[.val (.int x0), .val (.int x1), .val (.int x2), .val (.int x3), .val (.int x4), .val (.int x5), .val (.int (4 : Int32)), .val (.int v7_63), .val (.int v13_71), .val (.long (((((0 : Int64) ||| ((1 : Int64) <<< (v13_65 &&& 0x3f).toInt64)) ||| ((1 : Int64) <<< (v13_68 &&& 0x3f).toInt64)) ||| ((1 : Int64) <<< (v13_71 &&& 0x3f).toInt64)) ||| ((1 : Int64) <<< (v13_74 &&& 0x3f).toInt64))), .second, .val (.long (((((0 : Int64) + (own_c4 v13_65)) + (own_c3 v13_68)) + (own_c2 v13_71)) + (v13_74.toInt64))), .second, .val (.int v13_74)] [(.ref b75)]))
    refine Goes.via (fun _ kk_ => XS.astore X76.here hx rfl (hb hby at_203) rfl rfl (l' := #[.val (.int x0), .val (.int x1), .val (.int x2), .val (.int x3), .val (.int x4), .val (.int x5), .val (.int (4 : Int32)), .val (.int v7_63), .val (.int v13_71), .val (.long (((((0 : Int64) ||| ((1 : Int64) <<< (v13_65 &&& 0x3f).toInt64)) ||| ((1 : Int64) <<< (v13_68 &&& 0x3f).toInt64)) ||| ((1 : Int64) <<< (v13_71 &&& 0x3f).toInt64)) ||| ((1 : Int64) <<< (v13_74 &&& 0x3f).toInt64))), .second, .val (.long (((((0 : Int64) + (own_c4 v13_65)) + (own_c3 v13_68)) + (own_c2 v13_71)) + (v13_74.toInt64))), .second, .val (.ref b75)]) rfl kk_) ?_
    show Goes p e below _ (T76.setTop (mkF m 205 #[.val (.int x0), .val (.int x1), .val (.int x2), .val (.int x3), .val (.int x4), .val (.int x5), .val (.int (4 : Int32)), .val (.int v7_63), .val (.int v13_71), .val (.long (((((0 : Int64) ||| ((1 : Int64) <<< (v13_65 &&& 0x3f).toInt64)) ||| ((1 : Int64) <<< (v13_68 &&& 0x3f).toInt64)) ||| ((1 : Int64) <<< (v13_71 &&& 0x3f).toInt64)) ||| ((1 : Int64) <<< (v13_74 &&& 0x3f).toInt64))), .second, .val (.long (((((0 : Int64) + (own_c4 v13_65)) + (own_c3 v13_68)) + (own_c2 v13_71)) + (v13_74.toInt64))), .second, .val (.ref b75)] []))
    refine Goes.via (fun _ kk_ => XS.aload X76.here hx rfl (hb hby at_205) rfl rfl  kk_) ?_
    show Goes p e below _ (T76.setTop (mkF m 207 #[.val (.int x0), .val (.int x1), .val (.int x2), .val (.int x3), .val (.int x4), .val (.int x5), .val (.int (4 : Int32)), .val (.int v7_63), .val (.int v13_71), .val (.long (((((0 : Int64) ||| ((1 : Int64) <<< (v13_65 &&& 0x3f).toInt64)) ||| ((1 : Int64) <<< (v13_68 &&& 0x3f).toInt64)) ||| ((1 : Int64) <<< (v13_71 &&& 0x3f).toInt64)) ||| ((1 : Int64) <<< (v13_74 &&& 0x3f).toInt64))), .second, .val (.long (((((0 : Int64) + (own_c4 v13_65)) + (own_c3 v13_68)) + (own_c2 v13_71)) + (v13_74.toInt64))), .second, .val (.ref b75)] [(.ref b75)]))
    refine Goes.via (fun _ kk_ => XS.lload X76.here hx rfl (hb hby at_207) rfl  kk_) ?_
    show Goes p e below _ (T76.setTop (mkF m 209 #[.val (.int x0), .val (.int x1), .val (.int x2), .val (.int x3), .val (.int x4), .val (.int x5), .val (.int (4 : Int32)), .val (.int v7_63), .val (.int v13_71), .val (.long (((((0 : Int64) ||| ((1 : Int64) <<< (v13_65 &&& 0x3f).toInt64)) ||| ((1 : Int64) <<< (v13_68 &&& 0x3f).toInt64)) ||| ((1 : Int64) <<< (v13_71 &&& 0x3f).toInt64)) ||| ((1 : Int64) <<< (v13_74 &&& 0x3f).toInt64))), .second, .val (.long (((((0 : Int64) + (own_c4 v13_65)) + (own_c3 v13_68)) + (own_c2 v13_71)) + (v13_74.toInt64))), .second, .val (.ref b75)] [(.long (((((0 : Int64) + (own_c4 v13_65)) + (own_c3 v13_68)) + (own_c2 v13_71)) + (v13_74.toInt64))), (.ref b75)]))
    refine Goes.via (fun _ kk_ => XS.l2i X76.here hx rfl (hb hby at_209) rfl kk_) ?_
    show Goes p e below _ (T76.setTop (mkF m 210 #[.val (.int x0), .val (.int x1), .val (.int x2), .val (.int x3), .val (.int x4), .val (.int x5), .val (.int (4 : Int32)), .val (.int v7_63), .val (.int v13_71), .val (.long (((((0 : Int64) ||| ((1 : Int64) <<< (v13_65 &&& 0x3f).toInt64)) ||| ((1 : Int64) <<< (v13_68 &&& 0x3f).toInt64)) ||| ((1 : Int64) <<< (v13_71 &&& 0x3f).toInt64)) ||| ((1 : Int64) <<< (v13_74 &&& 0x3f).toInt64))), .second, .val (.long (((((0 : Int64) + (own_c4 v13_65)) + (own_c3 v13_68)) + (own_c2 v13_71)) + (v13_74.toInt64))), .second, .val (.ref b75)] [(.int ((((((0 : Int64) + (own_c4 v13_65)) + (own_c3 v13_68)) + (own_c2 v13_71)) + (v13_74.toInt64)).toInt32)), (.ref b75)]))
    refine Goes.via (fun _ kk_ => XS.iload X76.here hx rfl (hb hby at_210) rfl  kk_) ?_
    show Goes p e below _ (T76.setTop (mkF m 212 #[.val (.int x0), .val (.int x1), .val (.int x2), .val (.int x3), .val (.int x4), .val (.int x5), .val (.int (4 : Int32)), .val (.int v7_63), .val (.int v13_71), .val (.long (((((0 : Int64) ||| ((1 : Int64) <<< (v13_65 &&& 0x3f).toInt64)) ||| ((1 : Int64) <<< (v13_68 &&& 0x3f).toInt64)) ||| ((1 : Int64) <<< (v13_71 &&& 0x3f).toInt64)) ||| ((1 : Int64) <<< (v13_74 &&& 0x3f).toInt64))), .second, .val (.long (((((0 : Int64) + (own_c4 v13_65)) + (own_c3 v13_68)) + (own_c2 v13_71)) + (v13_74.toInt64))), .second, .val (.ref b75)] [(.int (4 : Int32)), (.int ((((((0 : Int64) + (own_c4 v13_65)) + (own_c3 v13_68)) + (own_c2 v13_71)) + (v13_74.toInt64)).toInt32)), (.ref b75)]))
    have z80 : h0.size ≤ (T76.heap).size := (Nat.le_trans z77 K76.1)
    obtain ⟨cq79, kq79, q79a, q79b, q79c⟩ := isOf hZ rfl u76_1
    obtain ⟨_, _, ⟨T79, L79, k79, n79⟩, -, X79, ⟨Lc79, hQ79, l79, y79, z79⟩, st79⟩ := X76.virtualBack hx (y := (⟨"com/example/checks_on_duty/checksonduty/engine/RankedSets", "set", "(II)J"⟩ : MethodName)) (z := (⟨"com/example/checks_on_duty/checksonduty/engine/RankedSets", "set", "(II)J"⟩ : MethodName)) hown (mvT hZ (hw _ (List.mem_of_getElem? (i := 21) rfl))) (mvT hZ (hw _ (List.mem_of_getElem? (i := 22) rfl))) (notFace_of_selects (args := #[]) (mvT hZ (hw _ (List.mem_of_getElem? (i := 24) rfl)))) (mvT hZ (hw _ (List.mem_of_getElem? (i := 24) rfl))) (mvT hZ (hw _ (List.mem_of_getElem? (i := 23) rfl))) (by decide) (backOf (W := 0) (rm4 l Z a0 hw [] b75 ((((((0 : Int64) + (own_c4 v13_65)) + (own_c3 v13_68)) + (own_c2 v13_71)) + (v13_74.toInt64)).toInt32) (4 : Int32) v7_63 g76 kA76 kB76 nm ([nu3, nu2, nu1, nu0]) T76.heap n0 (Nat.le_trans Z0 z80) u76_2 u76_3 u76_4 hnm (by first | rfl | decide | assumption | omega | (simp; done)) (own_l2i hrk hrkb) rfl (by simp) hxs) hZ (hw _ (List.mem_of_getElem? (i := 25) rfl)) (hw _ (List.mem_of_getElem? (i := 3) rfl)) (by decide) (by decide)) q79a q79c (g := (mkF m 212 #[.val (.int x0), .val (.int x1), .val (.int x2), .val (.int x3), .val (.int x4), .val (.int x5), .val (.int (4 : Int32)), .val (.int v7_63), .val (.int v13_71), .val (.long (((((0 : Int64) ||| ((1 : Int64) <<< (v13_65 &&& 0x3f).toInt64)) ||| ((1 : Int64) <<< (v13_68 &&& 0x3f).toInt64)) ||| ((1 : Int64) <<< (v13_71 &&& 0x3f).toInt64)) ||| ((1 : Int64) <<< (v13_74 &&& 0x3f).toInt64))), .second, .val (.long (((((0 : Int64) + (own_c4 v13_65)) + (own_c3 v13_68)) + (own_c2 v13_71)) + (v13_74.toInt64))), .second, .val (.ref b75)] [(.int (4 : Int32)), (.int ((((((0 : Int64) + (own_c4 v13_65)) + (own_c3 v13_68)) + (own_c2 v13_71)) + (v13_74.toInt64)).toInt32)), (.ref b75)])) rfl (by rw [hml]; rfl) (Steps.refl _) (argsL := [(.int ((((((0 : Int64) + (own_c4 v13_65)) + (own_c3 v13_68)) + (own_c2 v13_71)) + (v13_74.toInt64)).toInt32)), (.int (4 : Int32))]) (rest := []) (lenOf pd_2 rfl) rfl (by show 2 * 0 + _ ≤ _; exact Nat.le_of_eq rfl) (hb hby at_212) (fun _ _ => ⟨rfl, rfl, (by first | decide | omega | (dsimp only; omega) : 67 + 0 ≤ _), (by first | decide | omega | (dsimp only; omega) : 402 + 0 ≤ _)⟩)
    dsimp only [Pt.U, Pt.locs, Pt.cells, Pt.slots] at X79 l79 y79 z79 st79 hQ79
    subst l79 y79 z79
    obtain ⟨rfl, N79q, e79⟩ := hQ79
    have N79 := Fr.app N76 N79q
    refine Goes.tr st79 ?_
    have e79' : T79.heap = T76.heap := e79
    show Goes p e below _ (T79.setTop (mkF m 215 #[.val (.int x0), .val (.int x1), .val (.int x2), .val (.int x3), .val (.int x4), .val (.int x5), .val (.int (4 : Int32)), .val (.int v7_63), .val (.int v13_71), .val (.long (((((0 : Int64) ||| ((1 : Int64) <<< (v13_65 &&& 0x3f).toInt64)) ||| ((1 : Int64) <<< (v13_68 &&& 0x3f).toInt64)) ||| ((1 : Int64) <<< (v13_71 &&& 0x3f).toInt64)) ||| ((1 : Int64) <<< (v13_74 &&& 0x3f).toInt64))), .second, .val (.long (((((0 : Int64) + (own_c4 v13_65)) + (own_c3 v13_68)) + (own_c2 v13_71)) + (v13_74.toInt64))), .second, .val (.ref b75)] [(.long (own_or (0 : Int64) [nu3, nu2, nu1, nu0]))]))
    refine Goes.via (fun _ kk_ => XS.lload X79.here hx rfl (hb hby at_215) rfl  kk_) ?_
    show Goes p e below _ (T79.setTop (mkF m 217 #[.val (.int x0), .val (.int x1), .val (.int x2), .val (.int x3), .val (.int x4), .val (.int x5), .val (.int (4 : Int32)), .val (.int v7_63), .val (.int v13_71), .val (.long (((((0 : Int64) ||| ((1 : Int64) <<< (v13_65 &&& 0x3f).toInt64)) ||| ((1 : Int64) <<< (v13_68 &&& 0x3f).toInt64)) ||| ((1 : Int64) <<< (v13_71 &&& 0x3f).toInt64)) ||| ((1 : Int64) <<< (v13_74 &&& 0x3f).toInt64))), .second, .val (.long (((((0 : Int64) + (own_c4 v13_65)) + (own_c3 v13_68)) + (own_c2 v13_71)) + (v13_74.toInt64))), .second, .val (.ref b75)] [(.long (((((0 : Int64) ||| ((1 : Int64) <<< (v13_65 &&& 0x3f).toInt64)) ||| ((1 : Int64) <<< (v13_68 &&& 0x3f).toInt64)) ||| ((1 : Int64) <<< (v13_71 &&& 0x3f).toInt64)) ||| ((1 : Int64) <<< (v13_74 &&& 0x3f).toInt64))), (.long (own_or (0 : Int64) [nu3, nu2, nu1, nu0]))]))
    refine Goes.via (fun _ kk_ => XS.lcmp X79.here hx rfl (hb hby at_217) rfl kk_) ?_
    show Goes p e below _ (T79.setTop (mkF m 218 #[.val (.int x0), .val (.int x1), .val (.int x2), .val (.int x3), .val (.int x4), .val (.int x5), .val (.int (4 : Int32)), .val (.int v7_63), .val (.int v13_71), .val (.long (((((0 : Int64) ||| ((1 : Int64) <<< (v13_65 &&& 0x3f).toInt64)) ||| ((1 : Int64) <<< (v13_68 &&& 0x3f).toInt64)) ||| ((1 : Int64) <<< (v13_71 &&& 0x3f).toInt64)) ||| ((1 : Int64) <<< (v13_74 &&& 0x3f).toInt64))), .second, .val (.long (((((0 : Int64) + (own_c4 v13_65)) + (own_c3 v13_68)) + (own_c2 v13_71)) + (v13_74.toInt64))), .second, .val (.ref b75)] [(.int (lcmpW (own_or (0 : Int64) [nu3, nu2, nu1, nu0]) (((((0 : Int64) ||| ((1 : Int64) <<< (v13_65 &&& 0x3f).toInt64)) ||| ((1 : Int64) <<< (v13_68 &&& 0x3f).toInt64)) ||| ((1 : Int64) <<< (v13_71 &&& 0x3f).toInt64)) ||| ((1 : Int64) <<< (v13_74 &&& 0x3f).toInt64))))]))
    have hc218_81 : (own_or (0 : Int64) [nu3, nu2, nu1, nu0]) = (((((0 : Int64) ||| ((1 : Int64) <<< (v13_65 &&& 0x3f).toInt64)) ||| ((1 : Int64) <<< (v13_68 &&& 0x3f).toInt64)) ||| ((1 : Int64) <<< (v13_71 &&& 0x3f).toInt64)) ||| ((1 : Int64) <<< (v13_74 &&& 0x3f).toInt64)) := (by simp only [own_or, ← own_ofn hnu3 (by omega), ← own_ofn hnu2 (by omega), ← own_ofn hnu1 (by omega), ← own_ofn hnu0 (by omega)])
    refine Goes.via (fun _ kk_ => XS.ifNo X79.here hx rfl (hb hby at_218) rfl ((if0 _ _).trans (teq ((lw_eq (own_or (0 : Int64) [nu3, nu2, nu1, nu0]) (((((0 : Int64) ||| ((1 : Int64) <<< (v13_65 &&& 0x3f).toInt64)) ||| ((1 : Int64) <<< (v13_68 &&& 0x3f).toInt64)) ||| ((1 : Int64) <<< (v13_71 &&& 0x3f).toInt64)) ||| ((1 : Int64) <<< (v13_74 &&& 0x3f).toInt64))).mpr hc218_81)).2) kk_) ?_
    show Goes p e below _ (T79.setTop (mkF m 221 #[.val (.int x0), .val (.int x1), .val (.int x2), .val (.int x3), .val (.int x4), .val (.int x5), .val (.int (4 : Int32)), .val (.int v7_63), .val (.int v13_71), .val (.long (((((0 : Int64) ||| ((1 : Int64) <<< (v13_65 &&& 0x3f).toInt64)) ||| ((1 : Int64) <<< (v13_68 &&& 0x3f).toInt64)) ||| ((1 : Int64) <<< (v13_71 &&& 0x3f).toInt64)) ||| ((1 : Int64) <<< (v13_74 &&& 0x3f).toInt64))), .second, .val (.long (((((0 : Int64) + (own_c4 v13_65)) + (own_c3 v13_68)) + (own_c2 v13_71)) + (v13_74.toInt64))), .second, .val (.ref b75)] []))
    refine Goes.via (fun _ kk_ => XS.iconst X79.here hx rfl (hb hby at_221) kk_) ?_
    show Goes p e below _ (T79.setTop (mkF m 222 #[.val (.int x0), .val (.int x1), .val (.int x2), .val (.int x3), .val (.int x4), .val (.int x5), .val (.int (4 : Int32)), .val (.int v7_63), .val (.int v13_71), .val (.long (((((0 : Int64) ||| ((1 : Int64) <<< (v13_65 &&& 0x3f).toInt64)) ||| ((1 : Int64) <<< (v13_68 &&& 0x3f).toInt64)) ||| ((1 : Int64) <<< (v13_71 &&& 0x3f).toInt64)) ||| ((1 : Int64) <<< (v13_74 &&& 0x3f).toInt64))), .second, .val (.long (((((0 : Int64) + (own_c4 v13_65)) + (own_c3 v13_68)) + (own_c2 v13_71)) + (v13_74.toInt64))), .second, .val (.ref b75)] [(.int (1 : Int32))]))
    refine Goes.via (fun _ kk_ => XS.goto X79.here hx rfl (pc0 := 222) (pc' := 226) rfl (hb hby at_222) (by decide) (by decide) kk_) ?_
    show Goes p e below _ (T79.setTop (mkF m 226 #[.val (.int x0), .val (.int x1), .val (.int x2), .val (.int x3), .val (.int x4), .val (.int x5), .val (.int (4 : Int32)), .val (.int v7_63), .val (.int v13_71), .val (.long (((((0 : Int64) ||| ((1 : Int64) <<< (v13_65 &&& 0x3f).toInt64)) ||| ((1 : Int64) <<< (v13_68 &&& 0x3f).toInt64)) ||| ((1 : Int64) <<< (v13_71 &&& 0x3f).toInt64)) ||| ((1 : Int64) <<< (v13_74 &&& 0x3f).toInt64))), .second, .val (.long (((((0 : Int64) + (own_c4 v13_65)) + (own_c3 v13_68)) + (own_c2 v13_71)) + (v13_74.toInt64))), .second, .val (.ref b75)] [(.int (1 : Int32))]))
    have K82 : Keep h0 T76.heap [] := (((Keep.refl h0 []).ext E75).trans K76 (allS (Or.inr sz_b75) all0))
    exact own_finN X79 hx hlk hret (by simp) (hb hby at_226) (by rw [e79']; exact ⟨rfl, N79, K82⟩) (by first | decide | omega | (dsimp only; omega)) (by first | decide | omega | (dsimp only; omega))
set_option maxRecDepth 65536 in
set_option maxHeartbeats 40000000 in
theorem comes_1 {Post : Tables → Env → Array Value → State → Outcome → State → Prop} (hpost : ∀ tb e args s v u, (limb_1_1.after args s (.returned v) u = true ∧ limb_1_2.after args s (.returned v) u = true ∧ True) → FrameEnd s (.returned v) u (Jvm.fieldLocs frame_1_writes args s ++ Jvm.arrayLocs frame_1_arrays args s ++ Jvm.staticLocs frame_1_statics s) 144 896 → Post tb e args s (.returned v) u) :
    ArmFor flags0 classFile x code maxLocals ret World_1 tables_1 room_1 Calls_1 rest_1 Pre_1 Post := by
  intro l hfl _ _ p e ha hc hk s m args below hf hA hF happ hP
  obtain ⟨hcalls, hrest, hpre⟩ := hP
  obtain ⟨-, -, -, hnamed, -, -, -, hat⟩ := (Spec.applies_iff hf).mp happ
  obtain ⟨hg, hn⟩ := and_e (Cond.before_iff.mp (show (Jvm.Cond.and given_1 narrow_1).before args s = true from hpre))
  obtain ⟨gg1, gg2⟩ := and_e hg
  obtain ⟨gg3, gg4⟩ := and_e gg2
  obtain ⟨gg5, gg6⟩ := and_e gg4
  obtain ⟨gg7, gg8⟩ := and_e gg6
  obtain ⟨gg9, gg10⟩ := and_e gg8
  obtain ⟨gg11, gg12⟩ := and_e gg10
  obtain ⟨w0, w1, w2, w3, w4, w5, rfl⟩ : ∃ w0 w1 w2 w3 w4 w5 : Value, args = #[w0, w1, w2, w3, w4, w5] := by
    have hs : args.size = 6 := by simpa [Cond.value, given_1] using gg1
    obtain ⟨L⟩ := args
    match L, hs with
    | [w0, w1, w2, w3, w4, w5], _ => exact ⟨w0, w1, w2, w3, w4, w5, rfl⟩
  have hw := fun d (hd : d ∈ tables_1) => atoms_spec (ws := Jvm.Cond.code x code maxLocals ret :: tables_1) hat d (List.mem_cons_of_mem _ hd)
  have hfit : Fit s := fun {y c} hc i hi => by
    obtain ⟨ha, rfl⟩ := Array.getElem?_eq_some_iff.mp hc
    have q := List.all_eq_true.mp ((Array.all_eq_true_iff_forall_mem.mp hF) _ (Array.getElem_mem ha)) i (List.mem_range.mpr hi)
    simpa [Array.getElem?_eq_getElem hi] using q
  obtain ⟨i0, ei0⟩ := is_v gg3
  obtain rfl : w0 = (.int i0) := Option.some.inj ei0
  obtain ⟨i1, ei1⟩ := is_v gg5
  obtain rfl : w1 = (.int i1) := Option.some.inj ei1
  obtain ⟨i2, ei2⟩ := is_v gg7
  obtain rfl : w2 = (.int i2) := Option.some.inj ei2
  obtain ⟨i3, ei3⟩ := is_v gg9
  obtain rfl : w3 = (.int i3) := Option.some.inj ei3
  obtain ⟨i4, ei4⟩ := is_v gg11
  obtain rfl : w4 = (.int i4) := Option.some.inj ei4
  obtain ⟨i5, ei5⟩ := is_v gg12
  obtain rfl : w5 = (.int i5) := Option.some.inj ei5
  obtain ⟨n, o, h1, h2, h3, _, L, rfl, ⟨rfl, N, -⟩, hq⟩ := rm0 l s _ hw tables_1 i0 i1 i2 i3 i4 i5 s.heap s.heap.size (Nat.le_refl _)  p e ha hc hk s m _ below hf ((Spec.applies_iff_loose hf).mp happ).1 ⟨rfl, State.Warmed39.refl s, rfl⟩ trivial
  refine ⟨n, _, h1, h2, h3, hpost _ _ _ _ _ _ ⟨Cond.after_iff.mpr rfl, Cond.after_iff.mpr (eq_i res_at (Term.int_eval (1)) rfl), trivial⟩ ⟨hq.1, hq.2.1, (hq.2.2.sift fun y hy => Or.inr (N y hy)).mono (by decide) (by decide)⟩⟩
theorem main_1_1 : Claimed_1_1 := comes_1 fun _ _ _ _ _ _ h hF => ⟨h.1, hF⟩
theorem main_1_2 : Claimed_1_2 := comes_1 fun _ _ _ _ _ _ h hF => ⟨h.2.1, hF⟩
end Jvm.Pilot.@@N@@
namespace Jvm.Pilot.@@N@@
open Jvm Jvm.ClassFile Sem Op Lib Jvm.Free Jvm.Stand Jvm.Pilot.@@N@@.Jvm.D
/-! MADE BY PROGRAM (witnessworld.py) out of the Statement's table words and the real class files: 12 classes; the members and pool entries that the words name. The judged class is class 1, her method 4. -/
namespace start1
open Jvm.ClassFile
def u (s : String) : CpInfo := .utf8 (stringToUtf16 s)
/-- a pool by its gaps: so many unusable entries, then the entry; so many at the end -/
def gap : Nat → List CpInfo → List CpInfo
  | 0, r => r
  | n + 1, r => .unusable :: gap n r
def poolList (es : List (Nat × CpInfo)) (last : Nat) : List CpInfo := es.foldr (fun e r => gap e.1 (e.2 :: r)) (gap last [])
def pool (es : List (Nat × CpInfo)) (last : Nat) : Array CpInfo := ⟨poolList es last⟩
def fileOf (pool : Array CpInfo) (this : Nat) (attrs : Array Attribute := #[]) (ms : Array MethodInfo := #[]) (fl : Nat := 33) (sup : Nat := 0) (ifs : Array Nat := #[]) (fds : Array FieldInfo := #[]) : ClassFile where
  minorVersion := 0
  majorVersion := 65
  constantPool := pool
  accessFlags := fl
  thisClass := this
  superClass := sup
  interfaces := ifs
  fields := fds
  methods := ms
  attributes := attrs
def plain (name : String) (sup : Option ClassId) : Class where
  name := name
  kind := .ordinary
  loader := none
  accessFlags := 33
  super := sup
  interfaces := #[]
  cf := none
  fields := #[]
  methods := #[]
  instanceTypes := #[]
  staticTypes := #[]
  resolved := #[]
  callSites := []
  init := .initialized
  statics := none
  mirror := none

def pool0 : Array CpInfo := pool [(5, u "<init>"), (0, u "()V"), (1, .class_ 10), (1, u "java/lang/Object")] 113

def k0c0 : Code := { maxStack := 0, maxLocals := 1, code := object_method_1_code, exceptionTable := #[], attributes := #[] }
def k0m0 : Method := { name := "<init>", desc := "()V", sig := { parameters := [], returnType := none }, accessFlags := 1, code := some k0c0 }
/-- java/lang/Object -/
def k0 : Class := { plain "java/lang/Object" none with
  accessFlags := 33
  interfaces := #[]
  cf := some (fileOf pool0 8 #[] #[{ accessFlags := 1, nameIndex := 5, descriptorIndex := 6, attributes := #[] }] 33 0 #[] #[])
  fields := #[]
  methods := #[k0m0]
  instanceTypes := #[]
  staticTypes := #[]
  resolved := Array.replicate 124 none
  statics := none }

def pool1 : Array CpInfo := pool [(2, .class_ 4), (1, u "java/lang/Object"), (0, u "<init>"), (0, u "()V"), (0, .long 2), (1, .long 6), (1, .long 3), (1, .long 24), (1, .integer 2147483647), (0, .methodref 17 18), (0, .class_ 19), (0, .nameAndType 20 21), (0, u "com/example/checks_on_duty/checksonduty/engine/RankedSetsSetPinLaw"), (0, u "c4"), (0, u "(I)J"), (0, .methodref 17 23), (0, .nameAndType 24 21), (0, u "c3"), (0, .methodref 17 26), (0, .nameAndType 27 21), (0, u "c2"), (0, .class_ 29), (0, u "com/example/checks_on_duty/checksonduty/engine/RankedSets"), (0, .methodref 28 31), (0, .nameAndType 5 32), (0, u "(II)V"), (0, .methodref 28 34), (0, .nameAndType 35 36), (0, u "set"), (0, u "(II)J"), (2, u "law"), (0, u "(IIIIII)Z")] 3

def k1m0 : Method := { name := "<init>", desc := "()V", sig := { parameters := [], returnType := none }, accessFlags := 1, code := none }
def k1c1 : Code := { maxStack := 6, maxLocals := 3, code := method_2_code, exceptionTable := #[], attributes := #[] }
def k1m1 : Method := { name := "c2", desc := "(I)J", sig := { parameters := [.int], returnType := some .long }, accessFlags := 10, code := some k1c1 }
def k1c2 : Code := { maxStack := 6, maxLocals := 3, code := method_3_code, exceptionTable := #[], attributes := #[] }
def k1m2 : Method := { name := "c3", desc := "(I)J", sig := { parameters := [.int], returnType := some .long }, accessFlags := 10, code := some k1c2 }
def k1c3 : Code := { maxStack := 6, maxLocals := 3, code := method_4_code, exceptionTable := #[], attributes := #[] }
def k1m3 : Method := { name := "c4", desc := "(I)J", sig := { parameters := [.int], returnType := some .long }, accessFlags := 10, code := some k1c3 }
def k1c4 : Code := { maxStack := 5, maxLocals := 14, code := code, exceptionTable := #[], attributes := #[] }
def k1m4 : Method := { name := "law", desc := "(IIIIII)Z", sig := { parameters := [.int, .int, .int, .int, .int, .int], returnType := some .boolean }, accessFlags := 9, code := some k1c4 }
/-- com/example/checks_on_duty/checksonduty/engine/RankedSetsSetPinLaw -/
def k1 : Class := { plain "com/example/checks_on_duty/checksonduty/engine/RankedSetsSetPinLaw" (some 0) with
  accessFlags := 49
  interfaces := #[]
  cf := some (fileOf pool1 17 #[] #[{ accessFlags := 1, nameIndex := 5, descriptorIndex := 6, attributes := #[] }, { accessFlags := 10, nameIndex := 27, descriptorIndex := 21, attributes := #[] }, { accessFlags := 10, nameIndex := 24, descriptorIndex := 21, attributes := #[] }, { accessFlags := 10, nameIndex := 20, descriptorIndex := 21, attributes := #[] }, { accessFlags := 9, nameIndex := 39, descriptorIndex := 40, attributes := #[] }] 49 2 #[] #[])
  fields := #[]
  methods := #[k1m0, k1m1, k1m2, k1m3, k1m4]
  instanceTypes := #[]
  staticTypes := #[]
  resolved := Array.replicate 44 none
  statics := none }

def pool2 : Array CpInfo := pool [(1, .methodref 2 3), (0, .class_ 4), (0, .nameAndType 5 6), (0, u "java/lang/Object"), (0, u "<init>"), (0, u "()V"), (0, .fieldref 8 9), (0, .class_ 10), (0, .nameAndType 11 12), (0, u "com/example/checks_on_duty/checksonduty/engine/RankedSets"), (0, u "users"), (0, u "I"), (0, .class_ 14), (0, u "[[J"), (0, .fieldref 8 16), (0, .nameAndType 17 14), (0, u "binomial"), (0, .methodref 19 20), (0, .class_ 21), (0, .nameAndType 22 23), (0, u "java/lang/Math"), (0, u "min"), (0, u "(II)I"), (28, u "(II)V"), (8, u "(II)J"), (1, u "set")] 5

def k2c0 : Code := { maxStack := 7, maxLocals := 5, code := prog_44_method_1_code, exceptionTable := #[], attributes := #[] }
def k2m0 : Method := { name := "<init>", desc := "(II)V", sig := { parameters := [.int, .int], returnType := none }, accessFlags := 0, code := some k2c0 }
def k2c1 : Code := { maxStack := 5, maxLocals := 9, code := prog_44_method_8_code, exceptionTable := #[], attributes := #[] }
def k2m1 : Method := { name := "set", desc := "(II)J", sig := { parameters := [.int, .int], returnType := some .long }, accessFlags := 0, code := some k2c1 }
/-- com/example/checks_on_duty/checksonduty/engine/RankedSets -/
def k2 : Class := { plain "com/example/checks_on_duty/checksonduty/engine/RankedSets" (some 0) with
  accessFlags := 48
  interfaces := #[]
  cf := some (fileOf pool2 8 #[] #[{ accessFlags := 0, nameIndex := 5, descriptorIndex := 52, attributes := #[] }, { accessFlags := 0, nameIndex := 63, descriptorIndex := 61, attributes := #[] }] 48 2 #[] #[{ accessFlags := 18, nameIndex := 11, descriptorIndex := 12, attributes := #[] }, { accessFlags := 18, nameIndex := 17, descriptorIndex := 14, attributes := #[] }])
  fields := #[{ name := "users", type := .int, accessFlags := 18, slot := 0, constantValue := 0 }, { name := "binomial", type := (.array (.array .long)), accessFlags := 18, slot := 1, constantValue := 0 }]
  methods := #[k2m0, k2m1]
  instanceTypes := #[.int, (.array (.array .long))]
  staticTypes := #[]
  resolved := Array.replicate 69 none
  statics := none }

def pool3 : Array CpInfo := pool [(1, .class_ 2), (0, u "java/lang/Math"), (1, .class_ 6), (1, u "java/lang/Object"), (0, u "<init>"), (0, u "()V"), (89, .class_ 100), (1, u "java/lang/Math$RandomNumberGeneratorHolder"), (71, u "negativeZeroFloatBits"), (0, u "J"), (2, u "negativeZeroDoubleBits"), (24, u "min"), (43, u "$assertionsDisabled"), (0, u "Z"), (88, u "(II)I"), (2, u "twoToTheDoubleScaleDown"), (0, u "D"), (4, u "twoToTheDoubleScaleUp"), (9, u "E"), (3, u "PI"), (2, u "TAU"), (2, u "DEGREES_TO_RADIANS"), (0, u "RADIANS_TO_DEGREES")] 94

def k3m0 : Method := { name := "<init>", desc := "()V", sig := { parameters := [], returnType := none }, accessFlags := 2, code := none }
def k3c1 : Code := { maxStack := 2, maxLocals := 2, code := jdk_29_method_69_code, exceptionTable := #[], attributes := #[] }
def k3m1 : Method := { name := "min", desc := "(II)I", sig := { parameters := [.int, .int], returnType := some .int }, accessFlags := 9, code := some k3c1 }
/-- java/lang/Math -/
def k3 : Class := { plain "java/lang/Math" (some 0) with
  accessFlags := 49
  interfaces := #[]
  cf := some (fileOf pool3 1 #[.nestMembers #[98]] #[{ accessFlags := 2, nameIndex := 7, descriptorIndex := 8, attributes := #[] }, { accessFlags := 9, nameIndex := 201, descriptorIndex := 335, attributes := #[] }] 49 4 #[] #[{ accessFlags := 25, nameIndex := 354, descriptorIndex := 339, attributes := #[] }, { accessFlags := 25, nameIndex := 358, descriptorIndex := 339, attributes := #[] }, { accessFlags := 25, nameIndex := 361, descriptorIndex := 339, attributes := #[] }, { accessFlags := 26, nameIndex := 364, descriptorIndex := 339, attributes := #[] }, { accessFlags := 26, nameIndex := 365, descriptorIndex := 339, attributes := #[] }, { accessFlags := 26, nameIndex := 172, descriptorIndex := 173, attributes := #[] }, { accessFlags := 26, nameIndex := 176, descriptorIndex := 173, attributes := #[] }, { accessFlags := 8, nameIndex := 344, descriptorIndex := 339, attributes := #[] }, { accessFlags := 8, nameIndex := 338, descriptorIndex := 339, attributes := #[] }, { accessFlags := 4120, nameIndex := 245, descriptorIndex := 246, attributes := #[] }])
  fields := #[{ name := "E", type := .double, accessFlags := 25, slot := 0, constantValue := 0 }, { name := "PI", type := .double, accessFlags := 25, slot := 1, constantValue := 0 }, { name := "TAU", type := .double, accessFlags := 25, slot := 2, constantValue := 0 }, { name := "DEGREES_TO_RADIANS", type := .double, accessFlags := 26, slot := 3, constantValue := 0 }, { name := "RADIANS_TO_DEGREES", type := .double, accessFlags := 26, slot := 4, constantValue := 0 }, { name := "negativeZeroFloatBits", type := .long, accessFlags := 26, slot := 5, constantValue := 0 }, { name := "negativeZeroDoubleBits", type := .long, accessFlags := 26, slot := 6, constantValue := 0 }, { name := "twoToTheDoubleScaleUp", type := .double, accessFlags := 8, slot := 7, constantValue := 0 }, { name := "twoToTheDoubleScaleDown", type := .double, accessFlags := 8, slot := 8, constantValue := 0 }, { name := "$assertionsDisabled", type := .boolean, accessFlags := 4120, slot := 9, constantValue := 0 }]
  methods := #[k3m0, k3m1]
  instanceTypes := #[]
  staticTypes := #[.double, .double, .double, .double, .double, .long, .long, .double, .double, .boolean]
  resolved := Array.replicate 460 none
  statics := none }

def pool4 : Array CpInfo := pool [(1, u "java/lang/Cloneable"), (0, .class_ 1), (0, u "java/lang/Object"), (0, .class_ 3)] 3

/-- java/lang/Cloneable -/
def k4 : Class := { plain "java/lang/Cloneable" (some 0) with
  accessFlags := 1537
  interfaces := #[]
  cf := some (fileOf pool4 2 #[] #[] 1537 4 #[] #[])
  fields := #[]
  methods := #[]
  instanceTypes := #[]
  staticTypes := #[]
  resolved := Array.replicate 8 none
  statics := none }

def pool5 : Array CpInfo := pool [(1, u "java/io/Serializable"), (0, .class_ 1), (0, u "java/lang/Object"), (0, .class_ 3)] 3

/-- java/io/Serializable -/
def k5 : Class := { plain "java/io/Serializable" (some 0) with
  accessFlags := 1537
  interfaces := #[]
  cf := some (fileOf pool5 2 #[] #[] 1537 4 #[] #[])
  fields := #[]
  methods := #[]
  instanceTypes := #[]
  staticTypes := #[]
  resolved := Array.replicate 8 none
  statics := none }

/-- the primitive byte -/
def k6 : Class := { plain "byte" none with kind := .primitive 'B', accessFlags := 0x411 }
/-- [B -/
def k7 : Class := { plain "[B" (some 0) with kind := .array 6 .byte, interfaces := #[4, 5], accessFlags := 1041 }

/-- the primitive int -/
def k8 : Class := { plain "int" none with kind := .primitive 'I', accessFlags := 0x411 }
/-- [I -/
def k9 : Class := { plain "[I" (some 0) with kind := .array 8 .int, interfaces := #[4, 5], accessFlags := 1041 }

/-- the primitive long -/
def k10 : Class := { plain "long" none with kind := .primitive 'J', accessFlags := 0x411 }
/-- [J -/
def k11 : Class := { plain "[J" (some 0) with kind := .array 10 .long, interfaces := #[4, 5], accessFlags := 1041 }

def heap : Heap := #[]
def k12 : Class := { plain "[[J" (some 0) with kind := .array 11 (.array .long), interfaces := #[4, 5], accessFlags := 1041 }
def classes : Array Class := #[k0, k1, k2, k3, k4, k5, k6, k7, k8, k9, k10, k11, k12]
def interned : List (Array UInt16 × Addr) := []
def slotsUsed : Nat := 0
def theMethod : MethodId := ⟨1, 4⟩
def args0 : Array Value := #[.int 5, .int 6, .int 1, .int 4, .int 3, .int 2]
def aboutOver (below : List Frame) : State where
  vm := { classes := classes, interned := interned.toArray }
  heap := heap
  slotsUsed := slotsUsed
  threads := #[{ frames := .invoking theMethod args0 :: below }]
def below0 : List Frame := [.native { method := ⟨0, 0⟩, args := #[] }]
def about1 : State := aboutOver below0
def p0 : Program := .bare "" "" ""
def e0 : Env := launch0.env 0 0 0
theorem w_frames : about1.frames = Frame.invoking theMethod args0 :: below0 := rfl
set_option maxRecDepth 65536 in
theorem w_args : argsFit about1.vm theMethod args0 = true := by decide +kernel
set_option maxRecDepth 65536 in
theorem w_heap : heapFits about1 = true := by decide +kernel
set_option maxRecDepth 65536 in
theorem w_runnable : about1.curStatus? = some .runnable := by decide +kernel
set_option maxRecDepth 65536 in
theorem w_alone : about1.alone = true := by decide +kernel
set_option maxRecDepth 65536 in
theorem w_named : about1.methodNamed? x = some theMethod := by decide +kernel
set_option maxRecDepth 65536 in
theorem w_hears : about1.hears theMethod below0 = true := by decide +kernel
set_option maxRecDepth 65536 in
theorem w_ripe : about1.ripe theMethod args0 below0 = true := by decide +kernel
theorem w_running : about1.status = .running := rfl
set_option maxRecDepth 65536 in
theorem w_room : about1.hasRoom e0.platform room_1 = true :=
  launch0.hasRoom_least _ room_1 (by decide +kernel) (by decide +kernel) (by decide +kernel) (by decide +kernel) (by decide +kernel) (by decide +kernel)
theorem allAtoms_all (ts : List Jvm.Cond) (a : Array Jvm.Value) (st : Jvm.State) : (allAtoms ts).before a st = ts.all (fun c => c.before a st) := by
  induction ts with
  | nil => rfl
  | cons c t ih =>
    show (Jvm.Cond.and c (allAtoms t)).before a st = _
    rw [Jvm.Cond.before_and, ih, List.all_cons]
def words1 : List Jvm.Cond := Jvm.Cond.code x code maxLocals ret :: tables_1
/-- a 'code' word, met by the world's own term for the bytes: nothing is compared byte by byte -/
theorem code_word {y : MethodName} {bytes : ByteArray} {mx : Nat} {rt : Option FieldType} {a : Array Value} {s : State} {m : MethodId} {meth : Method} {c : Code} (h1 : s.methodNamed? y = some m) (h2 : s.vm.method? m = some meth) (h3 : meth.code = some c) (h4 : c.code = bytes)
    (h5 : (c.maxLocals == mx && c.exceptionTable.isEmpty && decide (c.maxStack ≤ mostOperands) && decide (meth.sig.returnType = rt) && !meth.locks && decide (parseMethodDescriptor y.desc = some meth.sig)) = true) : (Jvm.Cond.code y bytes mx rt).before a s = true := by
  simp only [Bool.and_eq_true, beq_iff_eq, Bool.not_eq_true', decide_eq_true_eq] at h5
  obtain ⟨⟨⟨⟨⟨g1, g2⟩, g3⟩, g4⟩, g5⟩, g6⟩ := h5
  simp [Cond.before, Cond.holds, Cond.value, h1, h2, h3, h4, g1, g2, g3, g4, g5, g6]
def isCode : Jvm.Cond → Bool
  | .code _ _ _ _ => true
  | _ => false
theorem all_split {L : List Jvm.Cond} {P : Jvm.Cond → Bool} (h1 : L.all (fun c => isCode c || P c) = true) (h2 : ∀ c ∈ L.filter isCode, P c = true) : L.all P = true := by
  refine List.all_eq_true.mpr fun c hc => ?_
  have h := List.all_eq_true.mp h1 c hc
  rcases Bool.eq_false_or_eq_true (isCode c) with hi | hi
  · exact h2 c (List.mem_filter.mpr ⟨hc, hi⟩)
  · simpa [hi] using h
set_option maxRecDepth 65536 in
theorem w_c0 : (Jvm.Cond.code x code maxLocals ret).before args0 about1 = true := code_word (m := ⟨1, 4⟩) (meth := k1m4) (c := k1c4) (by decide +kernel) rfl rfl rfl (by decide +kernel)
set_option maxRecDepth 65536 in
theorem w_c1 : (Jvm.Cond.code ({ cls := "com/example/checks_on_duty/checksonduty/engine/RankedSets", name := "<init>", desc := "(II)V" } : Jvm.MethodName) prog_44_method_1_code (5 : Nat) (Option.none : Option Jvm.ClassFile.FieldType)).before args0 about1 = true := code_word (m := ⟨2, 0⟩) (meth := k2m0) (c := k2c0) (by decide +kernel) rfl rfl rfl (by decide +kernel)
set_option maxRecDepth 65536 in
theorem w_c2 : (Jvm.Cond.code ({ cls := "java/lang/Object", name := "<init>", desc := "()V" } : Jvm.MethodName) object_method_1_code (1 : Nat) (Option.none : Option Jvm.ClassFile.FieldType)).before args0 about1 = true := code_word (m := ⟨0, 0⟩) (meth := k0m0) (c := k0c0) (by decide +kernel) rfl rfl rfl (by decide +kernel)
set_option maxRecDepth 65536 in
theorem w_c3 : (Jvm.Cond.code ({ cls := "java/lang/Math", name := "min", desc := "(II)I" } : Jvm.MethodName) jdk_29_method_69_code (2 : Nat) (Option.some Jvm.ClassFile.FieldType.int)).before args0 about1 = true := code_word (m := ⟨3, 1⟩) (meth := k3m1) (c := k3c1) (by decide +kernel) rfl rfl rfl (by decide +kernel)
set_option maxRecDepth 65536 in
theorem w_c4 : (Jvm.Cond.code ({ cls := "com/example/checks_on_duty/checksonduty/engine/RankedSets", name := "set", desc := "(II)J" } : Jvm.MethodName) prog_44_method_8_code (9 : Nat) (Option.some Jvm.ClassFile.FieldType.long)).before args0 about1 = true := code_word (m := ⟨2, 1⟩) (meth := k2m1) (c := k2c1) (by decide +kernel) rfl rfl rfl (by decide +kernel)
set_option maxRecDepth 65536 in
theorem w_c5 : (Jvm.Cond.code ({ cls := "com/example/checks_on_duty/checksonduty/engine/RankedSetsSetPinLaw", name := "c4", desc := "(I)J" } : Jvm.MethodName) method_4_code (3 : Nat) (Option.some Jvm.ClassFile.FieldType.long)).before args0 about1 = true := code_word (m := ⟨1, 3⟩) (meth := k1m3) (c := k1c3) (by decide +kernel) rfl rfl rfl (by decide +kernel)
set_option maxRecDepth 65536 in
theorem w_c6 : (Jvm.Cond.code ({ cls := "com/example/checks_on_duty/checksonduty/engine/RankedSetsSetPinLaw", name := "c3", desc := "(I)J" } : Jvm.MethodName) method_3_code (3 : Nat) (Option.some Jvm.ClassFile.FieldType.long)).before args0 about1 = true := code_word (m := ⟨1, 2⟩) (meth := k1m2) (c := k1c2) (by decide +kernel) rfl rfl rfl (by decide +kernel)
set_option maxRecDepth 65536 in
theorem w_c7 : (Jvm.Cond.code ({ cls := "com/example/checks_on_duty/checksonduty/engine/RankedSetsSetPinLaw", name := "c2", desc := "(I)J" } : Jvm.MethodName) method_2_code (3 : Nat) (Option.some Jvm.ClassFile.FieldType.long)).before args0 about1 = true := code_word (m := ⟨1, 1⟩) (meth := k1m1) (c := k1c1) (by decide +kernel) rfl rfl rfl (by decide +kernel)
def codes1 : List Jvm.Cond := [Jvm.Cond.code x code maxLocals ret, Jvm.Cond.code ({ cls := "com/example/checks_on_duty/checksonduty/engine/RankedSets", name := "<init>", desc := "(II)V" } : Jvm.MethodName) prog_44_method_1_code (5 : Nat) (Option.none : Option Jvm.ClassFile.FieldType), Jvm.Cond.code ({ cls := "java/lang/Object", name := "<init>", desc := "()V" } : Jvm.MethodName) object_method_1_code (1 : Nat) (Option.none : Option Jvm.ClassFile.FieldType), Jvm.Cond.code ({ cls := "java/lang/Math", name := "min", desc := "(II)I" } : Jvm.MethodName) jdk_29_method_69_code (2 : Nat) (Option.some Jvm.ClassFile.FieldType.int), Jvm.Cond.code ({ cls := "com/example/checks_on_duty/checksonduty/engine/RankedSets", name := "set", desc := "(II)J" } : Jvm.MethodName) prog_44_method_8_code (9 : Nat) (Option.some Jvm.ClassFile.FieldType.long), Jvm.Cond.code ({ cls := "com/example/checks_on_duty/checksonduty/engine/RankedSetsSetPinLaw", name := "c4", desc := "(I)J" } : Jvm.MethodName) method_4_code (3 : Nat) (Option.some Jvm.ClassFile.FieldType.long), Jvm.Cond.code ({ cls := "com/example/checks_on_duty/checksonduty/engine/RankedSetsSetPinLaw", name := "c3", desc := "(I)J" } : Jvm.MethodName) method_3_code (3 : Nat) (Option.some Jvm.ClassFile.FieldType.long), Jvm.Cond.code ({ cls := "com/example/checks_on_duty/checksonduty/engine/RankedSetsSetPinLaw", name := "c2", desc := "(I)J" } : Jvm.MethodName) method_2_code (3 : Nat) (Option.some Jvm.ClassFile.FieldType.long)]
set_option maxRecDepth 65536 in
theorem codes_eq : words1.filter isCode = codes1 := rfl
theorem w_codes : ∀ c ∈ words1.filter isCode, c.before args0 about1 = true := by
  rw [codes_eq]
  intro c hc
  simp only [codes1, List.mem_cons, List.not_mem_nil, or_false] at hc
  rcases hc with rfl | rfl | rfl | rfl | rfl | rfl | rfl | rfl
  · exact w_c0
  · exact w_c1
  · exact w_c2
  · exact w_c3
  · exact w_c4
  · exact w_c5
  · exact w_c6
  · exact w_c7
set_option maxRecDepth 65536 in
theorem w_t1 : (words1.take 24).all (fun c => isCode c || c.before args0 about1) = true := by decide +kernel
set_option maxRecDepth 65536 in
theorem w_t2 : (words1.drop 24).all (fun c => isCode c || c.before args0 about1) = true := by decide +kernel
theorem w_tables : (allAtoms (Jvm.Cond.code x code maxLocals ret :: tables_1)).before args0 about1 = true := by
  rw [allAtoms_all]
  show words1.all (fun c => c.before args0 about1) = true
  refine all_split ?_ w_codes
  rw [← List.take_append_drop 24 words1, List.all_append, w_t1, w_t2]
  rfl
set_option maxRecDepth 65536 in
theorem w_case : (Jvm.Cond.and given_1 narrow_1).before args0 about1 = true := by decide +kernel
theorem w_applies : (headSpec (Jvm.Cond.code x code maxLocals ret :: tables_1) room_1).applies x e0.platform about1 = true :=
  (Spec.applies_iff w_frames).mpr ⟨w_running, w_runnable, w_alone, w_named, w_hears, w_ripe, w_room, w_tables⟩
theorem atStart : AtStart classFile x code maxLocals ret World_1 tables_1 room_1 Calls_1 rest_1 Pre_1 launch0 p0 e0 about1 theMethod args0 below0 :=
  ⟨lists_1, trivial, launch0.admits_env _ _ _, launch0.least_env, fairChoices_fair.cas, fairChoices_fair.clock, w_frames, w_args, w_heap, w_applies, trivial, trivial, w_case⟩
end start1
theorem witness_1 : WitnessClaimed_1 := ⟨start1.p0, start1.e0, start1.about1, start1.theMethod, start1.args0, start1.below0, start1.atStart⟩
end Jvm.Pilot.@@N@@
