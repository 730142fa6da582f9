import JvmDerived
import JvmDerived.Pilot.@@N@@Statement
import JvmDerived.Pilot.@@N@@Code
set_option linter.unusedVariables false
set_option linter.unusedSimpArgs false
namespace Jvm.Pilot.@@N@@
open Jvm Jvm.ClassFile Sem Op Lib Jvm.Free Jvm.Stand Jvm.LawKit Jvm.RoadKit Bundle Jvm.Pilot.@@N@@.Jvm.D
section Own
variable {p : Program} {l : Launch} {e : Env} {R : Room} {s : State} {m : MethodId} {args : Array Value} {below : List Frame} {meth : Method} {c : Code} {T : State} {locs : List Loc} {cells slots : Nat} {Q : Option Value → Heap → List Loc → Prop} {C S : Nat}
def Goes (p : Program) (e : Env) (below : List Frame) (P : Outcome → State → Prop) (A : State) : Prop :=
  ∃ s₂ o, Steps p.tables e below A s₂ ∧ s₂.status = .running ∧ Ended s₂ below o ∧ P o s₂
def Fin_ (s : State) (Q : Option Value → Heap → List Loc → Prop) (C S : Nat) (o : Outcome) (U' : State) : Prop :=
  ∃ v L, o = .returned v ∧ Q v U'.heap L ∧ FrameEnd s o U' L C S
theorem Goes.via {P : Outcome → State → Prop} {A B : State} (st : ∀ t, Steps p.tables e below B t → Steps p.tables e below A t) (k : Goes p e below P B) : Goes p e below P A := by
  obtain ⟨s₂, o, h1, h2⟩ := k
  exact ⟨s₂, o, st _ h1, h2⟩
theorem Goes.tr {P : Outcome → State → Prop} {A B : State} (st : Steps p.tables e below A B) (k : Goes p e below P B) : Goes p e below P A := by
  obtain ⟨s₂, o, h1, h2⟩ := k
  exact ⟨s₂, o, st.trans h1, h2⟩
theorem own_fin {pc : Nat} {Ls : Array Slot} {st : List Value} (X : Stand p l e R s m args below meth c T locs cells slots) (hlk : meth.locks = false) {v : Option Value} (hv : meth.sig.returnType = none → v = none)
    (hstep : ∀ fs, (∀ (f : JFrame) (acts : List Action), f.method = m → f.locked = none → f.entered = [] → (doReturn e (T.setTop f) acts v).1 = T.setFrames fs) → Steps p.tables e below (T.setTop (mkF m pc Ls st)) (T.setFrames fs))
    (hQ : Q v T.heap locs) (hC : cells ≤ C) (hS : slots ≤ S) : Goes p e below (Fin_ s Q C S) (T.setTop (mkF m pc Ls st)) := by
  obtain ⟨fs, hr, hrun, hended, hW, hsame⟩ := X.leave (v := v) hv hlk
  exact ⟨_, _, hstep fs hr, hrun, hended, _, _, rfl, hQ, ⟨_, rfl⟩, hW, hsame.mono hC hS⟩
theorem own_finV {pc : Nat} {Ls : Array Slot} (X : Stand p l e R s m args below meth c T locs cells slots) (hx : p.tables.exec = Jvm.exec) (hlk : meth.locks = false) (hret : meth.sig.returnType = none)
    (hd : decode c.code pc = .ok (.return_, 1)) (hQ : Q none T.heap locs) (hC : cells ≤ C) (hS : slots ≤ S) : Goes p e below (Fin_ s Q C S) (T.setTop (mkF m pc Ls [])) :=
  own_fin X hlk (fun _ => rfl) (fun _ hr => X.returnOut hx hret hd hr) hQ hC hS
theorem own_finI {pc : Nat} {Ls : Array Slot} {z : Int32} {rest : List Value} (X : Stand p l e R s m args below meth c T locs cells slots) (hx : p.tables.exec = Jvm.exec) (hlk : meth.locks = false) (hret : meth.sig.returnType = some .int)
    (hd : decode c.code pc = .ok (.ireturn, 1)) (hQ : Q (some (.int z)) T.heap locs) (hC : cells ≤ C) (hS : slots ≤ S) : Goes p e below (Fin_ s Q C S) (T.setTop (mkF m pc Ls (.int z :: rest))) :=
  own_fin X hlk (fun h => by rw [hret] at h; cases h) (fun _ hr => retOut X hx hret rfl (Or.inl ⟨rfl, Or.inl rfl, _, rfl⟩) hd hr) hQ hC hS
theorem own_finN {pc : Nat} {Ls : Array Slot} {z : Int32} {rest : List Value} (X : Stand p l e R s m args below meth c T locs cells slots) (hx : p.tables.exec = Jvm.exec) (hlk : meth.locks = false) {t : FieldType} (hret : meth.sig.returnType = some t)
    (ht : t = .boolean ∨ t = .byte ∨ t = .char ∨ t = .short) (hd : decode c.code pc = .ok (.ireturn, 1)) (hQ : Q (some (.int (nar t z))) T.heap locs) (hC : cells ≤ C) (hS : slots ≤ S) : Goes p e below (Fin_ s Q C S) (T.setTop (mkF m pc Ls (.int z :: rest))) :=
  own_fin X hlk (fun h => by rw [hret] at h; cases h) (fun _ hr => retN X hx hret ht hd hr) hQ hC hS
theorem own_finJ {pc : Nat} {Ls : Array Slot} {z : Int64} {rest : List Value} (X : Stand p l e R s m args below meth c T locs cells slots) (hx : p.tables.exec = Jvm.exec) (hlk : meth.locks = false) (hret : meth.sig.returnType = some .long)
    (hd : decode c.code pc = .ok (.lreturn, 1)) (hQ : Q (some (.long z)) T.heap locs) (hC : cells ≤ C) (hS : slots ≤ S) : Goes p e below (Fin_ s Q C S) (T.setTop (mkF m pc Ls (.long z :: rest))) :=
  own_fin X hlk (fun h => by rw [hret] at h; cases h) (fun _ hr => retOut X hx hret rfl (Or.inr (Or.inl ⟨rfl, rfl, _, rfl⟩)) hd hr) hQ hC hS
theorem own_finR {pc : Nat} {Ls : Array Slot} {w : Value} {rest : List Value} (X : Stand p l e R s m args below meth c T locs cells slots) (hx : p.tables.exec = Jvm.exec) (hlk : meth.locks = false) {t : FieldType} (hret : meth.sig.returnType = some t) (ht : t.isReference = true) (hw : w.isRef = true) (hn : narrow t w = w)
    (hd : decode c.code pc = .ok (.areturn, 1)) (hQ : Q (some w) T.heap locs) (hC : cells ≤ C) (hS : slots ≤ S) : Goes p e below (Fin_ s Q C S) (T.setTop (mkF m pc Ls (w :: rest))) :=
  own_fin X hlk (fun h => by rw [hret] at h; cases h) (fun _ hr => retOut X hx hret hn (Or.inr (Or.inr (Or.inr (Or.inr ⟨rfl, ht, hw⟩)))) hd hr) hQ hC hS
theorem own_sta_keep {Z : State} {h h' : Heap} {C n d : String} {v : Value} (F : Sta Z h C n d v) (K : Keep h h' []) : Sta Z h' C n d v := by
  obtain ⟨cf, i, k, f, st, cell, h1, h2, h3, h4, h5, h6⟩ := F
  exact ⟨cf, i, k, f, st, cell, h1, h2, h3, h4, K.2.1 _ _ h5 nin0, h6⟩
theorem own_mask (x : Int32) : ¬ (x &&& (2147483647 : Int32)) < (0 : Int32) := by
  intro q
  have q1 := (c_and x 2147483647 (by decide)).1
  have q2 := Int32.lt_iff_toInt_lt.mp q
  have q3 : (0 : Int32).toInt = 0 := by decide
  omega
theorem own_and255 (x : Int32) : ¬ (x &&& (255 : Int32)) < 0 ∧ ¬ (255 : Int32) < (x &&& (255 : Int32)) := by
  have q1 := c_and x 255 (by decide)
  have q3 : (0 : Int32).toInt = 0 := by decide
  have q4 : (255 : Int32).toInt = 255 := by decide
  constructor
  · intro q
    have q2 := Int32.lt_iff_toInt_lt.mp q
    omega
  · intro q
    have q2 := Int32.lt_iff_toInt_lt.mp q
    omega
end Own
section Arrays
variable {p : Program} {l : Launch} {e : Env} {R : Room} {s : State} {m : MethodId} {args : Array Value} {below : List Frame} {meth : Method} {c : Code} {T : State} {locs : List Loc} {cells slots : Nat} {Z : State} {a0 : Array Value} {h h' : Heap} {a b : Addr} {k : ClassId} {ty : FieldType} {n : Nat} {f : Nat → Value} {ws : List Addr}
def Arw (Z : State) (h : Heap) (a : Addr) (k : ClassId) (ty : FieldType) (n : Nat) (f : Nat → Value) : Prop :=
  ∃ c : Cell, Arr Z h a c ty ∧ c.cls = k ∧ c.slots.size = n ∧ n < 2147483648 ∧ (∀ i, i < n → c.slots[i]? = some (f i)) ∧ ∀ i, i < n → fits ty (f i) = true
def own_upd (f : Nat → Value) (i : Nat) (v : Value) : Nat → Value := fun q => if q = i then v else f q
theorem own_upd_same (f : Nat → Value) (i : Nat) (v : Value) : own_upd f i v i = v := if_pos rfl
theorem own_upd_ne (f : Nat → Value) {i j : Nat} (v : Value) (q : j ≠ i) : own_upd f i v j = f j := if_neg q
theorem Arw.lt (F : Arw Z h a k ty n f) : a < h.size := by
  obtain ⟨c, A, -⟩ := F
  exact A.lt
theorem Arw.ext (F : Arw Z h a k ty n f) (E : Ext h h') : Arw Z h' a k ty n f := by
  obtain ⟨c, A, r⟩ := F
  exact ⟨c, A.ext E, r⟩
theorem Arw.other {sl : Nat} {v : Value} (F : Arw Z h b k ty n f) (W : Wr h h' a sl v) (q : b ≠ a) : Arw Z h' b k ty n f := by
  obtain ⟨c, A, r⟩ := F
  exact ⟨c, A.other W q, r⟩
theorem Arw.keep (F : Arw Z h a k ty n f) (K : Keep h h' ws) (q : a ∉ ws) : Arw Z h' a k ty n f := by
  obtain ⟨c, A, r⟩ := F
  exact ⟨c, ⟨K.2.1 _ _ A.1 q, A.2⟩, r⟩
theorem Arw.to {f' : Nat → Value} (F : Arw Z h a k ty n f) (q : ∀ i, i < n → f' i = f i) : Arw Z h a k ty n f' := by
  obtain ⟨c, A, h1, h2, h3, h4, h5⟩ := F
  exact ⟨c, A, h1, h2, h3, fun i hi => by rw [q i hi]; exact h4 i hi, fun i hi => by rw [q i hi]; exact h5 i hi⟩
theorem own_ne_arr {C : String} {kk : Nat} (F : Exa Z h a C) (wi : (Cond.instantiable C kk).before a0 Z = true) (G : Arw Z h b k ty n f) : a ≠ b := by
  obtain ⟨c, A, -⟩ := G
  exact ne_arr F wi A
theorem own_newP (X : Stand p l e R s m args below meth c T locs cells slots) (hx : p.tables.exec = Jvm.exec) (hZ : Z.Warmed39 s.vm) {aty : ArrayType} (w : (Cond.arrayClass (newarray.typeOf aty)).before a0 Z = true) (eT : T.heap = h) {g : JFrame} (hg : g.method = m)
    (hd : decode c.code g.pc = .ok (.newarray aty, 2)) {n : Int32} {rest : List Value} (hs : g.stack = .int n :: rest) {N : Nat} (hn : ¬ n < 0) (hN : n.toNatClampNeg = N) {cap : Nat} (hcap : N ≤ cap) (hb : cap * 8 ≤ 536870912) (hc : cells + 1 ≤ R.cells) (hl : slots + cap ≤ R.slots) :
    ∃ T' h' cA, Stand p l e R s m args below meth c T' locs (cells + 1) (slots + cap) ∧ T'.heap = h' ∧ Ext h h' ∧ Arw Z h' h.size cA (newarray.typeOf aty) N (fun _ => defaultValue (newarray.typeOf aty)) ∧
      ∀ target, Steps p.tables e below (T'.setTop { g with pc := g.pc + 2, stack := .ref h.size :: rest }) target → Steps p.tables e below (T.setTop g) target := by
  obtain ⟨T', h', cA, X', e', E', A', st⟩ := newP X hx hZ w eT hg hd hs hn (cap := cap) (by omega) hb hc hl
  refine ⟨T', h', cA, X', e', E', ⟨_, A', rfl, (sz_new _ _ _).trans hN, by omega, fun i hi => ?_, fun i hi => ?_⟩, st⟩
  · subst hN
    simp [newA, hi]
  · cases aty <;> rfl
theorem own_alen (X : Stand p l e R s m args below meth c T locs cells slots) (hx : p.tables.exec = Jvm.exec) (hZ : Z.Warmed39 s.vm) (eT : T.heap = h) (A : Arw Z h a k ty n f) {g : JFrame} (hg : g.method = m) {rest : List Value} (hs : g.stack = .ref a :: rest) (hd : decode c.code g.pc = .ok (.arraylength, 1)) :
    ∀ target, Steps p.tables e below (T.setTop { g with pc := g.pc + 1, stack := .int n.toInt32 :: rest }) target → Steps p.tables e below (T.setTop g) target := by
  obtain ⟨c, A, h1, h2, h3, h4, h5⟩ := A
  intro target kk
  refine X.arraylength hx (by rw [eT]; exact A.1) (State.isArrayOf_alike hZ.alike A.2.1) hg hs hd target ?_
  rw [h2]
  exact kk
theorem own_in {cl : Cell} {j : Int32} {i : Nat} (h2 : cl.slots.size = n) (hj : ¬ j < 0) (hji : j.toNatClampNeg = i) (hi : i < n) : ¬ (j < 0 ∨ cl.slots.size ≤ j.toNatClampNeg) := by
  rintro (q | q)
  · exact hj q
  · omega
theorem own_iaload (X : Stand p l e R s m args below meth c T locs cells slots) (hx : p.tables.exec = Jvm.exec) (hZ : Z.Warmed39 s.vm) (eT : T.heap = h) (A : Arw Z h a k .int n f) {j : Int32} {i : Nat} (hj : ¬ j < 0) (hji : j.toNatClampNeg = i) (hi : i < n) {v : Int32} (hv : f i = .int v)
    {g : JFrame} (hg : g.method = m) {rest : List Value} (hs : g.stack = .int j :: .ref a :: rest) (hd : decode c.code g.pc = .ok (.iaload, 1)) :
    ∀ target, Steps p.tables e below (T.setTop { g with pc := g.pc + 1, stack := .int v :: rest }) target → Steps p.tables e below (T.setTop g) target := by
  obtain ⟨cl, A, h1, h2, h3, h4, h5⟩ := A
  intro target kk
  exact X.iaload hx (by rw [eT]; exact A.1) (State.isArrayOf_alike hZ.alike A.2.1) A.2.2 (own_in h2 hj hji hi) (by rw [hji, h4 i hi, hv]) hg hs hd target kk
theorem own_laload (X : Stand p l e R s m args below meth c T locs cells slots) (hx : p.tables.exec = Jvm.exec) (hZ : Z.Warmed39 s.vm) (eT : T.heap = h) (A : Arw Z h a k .long n f) {j : Int32} {i : Nat} (hj : ¬ j < 0) (hji : j.toNatClampNeg = i) (hi : i < n) {v : Int64} (hv : f i = .long v)
    {g : JFrame} (hg : g.method = m) {rest : List Value} (hs : g.stack = .int j :: .ref a :: rest) (hd : decode c.code g.pc = .ok (.laload, 1)) :
    ∀ target, Steps p.tables e below (T.setTop { g with pc := g.pc + 1, stack := .long v :: rest }) target → Steps p.tables e below (T.setTop g) target := by
  obtain ⟨cl, A, h1, h2, h3, h4, h5⟩ := A
  intro target kk
  exact X.laload hx (by rw [eT]; exact A.1) (State.isArrayOf_alike hZ.alike A.2.1) A.2.2 (own_in h2 hj hji hi) (by rw [hji, h4 i hi, hv]) hg hs hd target kk
theorem own_aaload (X : Stand p l e R s m args below meth c T locs cells slots) (hx : p.tables.exec = Jvm.exec) (hZ : Z.Warmed39 s.vm) (eT : T.heap = h) (A : Arw Z h a k ty n f) (hty : ty.isReference = true) {j : Int32} {i : Nat} (hj : ¬ j < 0) (hji : j.toNatClampNeg = i) (hi : i < n) {v : Value} (hv : f i = v)
    {g : JFrame} (hg : g.method = m) {rest : List Value} (hs : g.stack = .int j :: .ref a :: rest) (hd : decode c.code g.pc = .ok (.aaload, 1)) :
    ∀ target, Steps p.tables e below (T.setTop { g with pc := g.pc + 1, stack := v :: rest }) target → Steps p.tables e below (T.setTop g) target := by
  obtain ⟨cl, A, h1, h2, h3, h4, h5⟩ := A
  intro target kk
  exact X.aaload hx (by rw [eT]; exact A.1) (State.isArrayOf_alike hZ.alike A.2.1) hty A.2.2 (own_in h2 hj hji hi) (by rw [hji, h4 i hi, hv]) hg hs hd target kk
theorem own_ix {j : Int32} {i : Nat} (h : j.toInt = i) : ¬ j < 0 ∧ j.toNatClampNeg = i := by
  constructor
  · intro q
    have q1 := Int32.lt_iff_toInt_lt.mp q
    have q3 : (0 : Int32).toInt = 0 := by decide
    omega
  · show j.toInt.toNat = i
    omega
theorem own_lti {x y : Int32} : x < y ↔ x.toInt < y.toInt := Int32.lt_iff_toInt_lt
theorem Arw.ofArv {z : Int32} {vs : List Value} {dv : Value} (F : Arv Z h a k ty z vs dv) (hn : z.toNatClampNeg = n) (q : ∀ i, i < n → vs.getD i dv = f i) : Arw Z h a k ty n f := by
  obtain ⟨c, A, h1, h2, h3, h4, h5⟩ := F
  have hb := (back32 h3).2
  refine ⟨c, A, h1, h2.trans hn, by omega, fun i hi => ?_, fun i hi => ?_⟩
  · rw [h4 i (by omega), q i hi]
  · rw [← q i hi]
    exact h5 i (by omega)
theorem own_set {cl : Cell} {j : Int32} {i : Nat} {v : Value} (A : Arr Z h a cl ty) (h1 : cl.cls = k) (h2 : cl.slots.size = n) (h3 : n < 2147483648) (h4 : ∀ i, i < n → cl.slots[i]? = some (f i)) (h5 : ∀ i, i < n → fits ty (f i) = true) (hv : fits ty v = true) (W : Wr h h' a j.toNatClampNeg v) (hji : j.toNatClampNeg = i) (hi : i < n) :
    Arw Z h' a k ty n (own_upd f i v) := by
  subst hji
  refine ⟨_, A.same W, h1, by rw [sz_set]; exact h2, h3, fun q hq => ?_, fun q hq => ?_⟩
  · by_cases e : q = j.toNatClampNeg
    · subst e
      rw [own_upd_same]
      simp [Cell.setSlot, h2, hq]
    · rw [own_upd_ne _ _ e, ← h4 q hq]
      simp [Cell.setSlot, Array.getElem?_setIfInBounds, Ne.symm e]
  · by_cases e : q = j.toNatClampNeg
    · subst e
      rw [own_upd_same]
      exact hv
    · rw [own_upd_ne _ _ e]
      exact h5 q hq
theorem own_iastore (X : Stand p l e R s m args below meth c T locs cells slots) (hx : p.tables.exec = Jvm.exec) (hZ : Z.Warmed39 s.vm) (eT : T.heap = h) (A : Arw Z h a k .int n f) {j : Int32} {i : Nat} (hj : ¬ j < 0) (hji : j.toNatClampNeg = i) (hi : i < n)
    {g : JFrame} (hg : g.method = m) {x : Int32} {rest : List Value} (hs : g.stack = .int x :: .int j :: .ref a :: rest) (hd : decode c.code g.pc = .ok (.iastore, 1)) :
    ∃ T' h', Stand p l e R s m args below meth c T' (locs ++ [⟨a, j.toNatClampNeg⟩]) cells slots ∧ T'.heap = h' ∧ Wr h h' a j.toNatClampNeg (.int x) ∧ Arw Z h' a k .int n (own_upd f i (.int x)) ∧
      ∀ target, Steps p.tables e below (T'.setTop { g with pc := g.pc + 1, stack := rest }) target → Steps p.tables e below (T.setTop g) target := by
  obtain ⟨cl, A, h1, h2, h3, h4, h5⟩ := A
  obtain ⟨T', h', X', e', W, st⟩ := stI X hx hZ eT A (j := j) (own_in h2 hj hji hi) hg hs hd
  exact ⟨T', h', X', e', W, own_set A h1 h2 h3 h4 h5 rfl W hji hi, st⟩
theorem own_lastore (X : Stand p l e R s m args below meth c T locs cells slots) (hx : p.tables.exec = Jvm.exec) (hZ : Z.Warmed39 s.vm) (eT : T.heap = h) (A : Arw Z h a k .long n f) {j : Int32} {i : Nat} (hj : ¬ j < 0) (hji : j.toNatClampNeg = i) (hi : i < n)
    {g : JFrame} (hg : g.method = m) {x : Int64} {rest : List Value} (hs : g.stack = .long x :: .int j :: .ref a :: rest) (hd : decode c.code g.pc = .ok (.lastore, 1)) :
    ∃ T' h', Stand p l e R s m args below meth c T' (locs ++ [⟨a, j.toNatClampNeg⟩]) cells slots ∧ T'.heap = h' ∧ Wr h h' a j.toNatClampNeg (.long x) ∧ Arw Z h' a k .long n (own_upd f i (.long x)) ∧
      ∀ target, Steps p.tables e below (T'.setTop { g with pc := g.pc + 1, stack := rest }) target → Steps p.tables e below (T.setTop g) target := by
  obtain ⟨cl, A, h1, h2, h3, h4, h5⟩ := A
  obtain ⟨T', h', X', e', W, st⟩ := stJ X hx hZ eT A (j := j) (own_in h2 hj hji hi) hg hs hd
  exact ⟨T', h', X', e', W, own_set A h1 h2 h3 h4 h5 rfl W hji hi, st⟩
theorem own_castore (X : Stand p l e R s m args below meth c T locs cells slots) (hx : p.tables.exec = Jvm.exec) (hZ : Z.Warmed39 s.vm) (eT : T.heap = h) (A : Arw Z h a k .char n f) {j : Int32} {i : Nat} (hj : ¬ j < 0) (hji : j.toNatClampNeg = i) (hi : i < n)
    {g : JFrame} (hg : g.method = m) {x : Int32} {rest : List Value} (hs : g.stack = .int x :: .int j :: .ref a :: rest) (hd : decode c.code g.pc = .ok (.castore, 1)) :
    ∃ T' h', Stand p l e R s m args below meth c T' (locs ++ [⟨a, j.toNatClampNeg⟩]) cells slots ∧ T'.heap = h' ∧ Wr h h' a j.toNatClampNeg (.int (nar .char x)) ∧ Arw Z h' a k .char n (own_upd f i (.int (nar .char x))) ∧
      ∀ target, Steps p.tables e below (T'.setTop { g with pc := g.pc + 1, stack := rest }) target → Steps p.tables e below (T.setTop g) target := by
  obtain ⟨cl, A, h1, h2, h3, h4, h5⟩ := A
  obtain ⟨T', h', X', e', W, st⟩ := stC X hx hZ eT A (j := j) (own_in h2 hj hji hi) hg hs hd
  exact ⟨T', h', X', e', W, own_set A h1 h2 h3 h4 h5 (fits_nar_char _) W hji hi, st⟩
theorem own_caload (X : Stand p l e R s m args below meth c T locs cells slots) (hx : p.tables.exec = Jvm.exec) (hZ : Z.Warmed39 s.vm) (eT : T.heap = h) (A : Arw Z h a k .char n f) {j : Int32} {i : Nat} (hj : ¬ j < 0) (hji : j.toNatClampNeg = i) (hi : i < n) {v : Int32} (hv : f i = .int v)
    {g : JFrame} (hg : g.method = m) {rest : List Value} (hs : g.stack = .int j :: .ref a :: rest) (hd : decode c.code g.pc = .ok (.caload, 1)) :
    ∀ target, Steps p.tables e below (T.setTop { g with pc := g.pc + 1, stack := .int v :: rest }) target → Steps p.tables e below (T.setTop g) target := by
  obtain ⟨cl, A, h1, h2, h3, h4, h5⟩ := A
  intro target kk
  exact X.caload hx (by rw [eT]; exact A.1) (State.isArrayOf_alike hZ.alike A.2.1) A.2.2 (own_in h2 hj hji hi) (by rw [hji, h4 i hi, hv]) hg hs hd target kk
theorem Arw.toArv {vs : List Value} {dv : Value} {z : Int32} (F : Arw Z h a k ty n f) (hz : z.toInt = (n : Int)) (q : ∀ i, i < n → vs.getD i dv = f i) : Arv Z h a k ty z vs dv := by
  obtain ⟨c, A, h1, h2, h3, h4, h5⟩ := F
  obtain ⟨z0, zn⟩ := own_ix hz
  exact ⟨c, A, h1, h2.trans zn.symm, z0, fun i hi => by rw [h4 i (by omega), q i (by omega)], fun i hi => by rw [q i (by omega)]; exact h5 i (by omega)⟩
end Arrays
theorem own_r1 {k g : Nat} (i : Nat) (q : k ≤ g) : k ≤ g + 1 + i := by omega
theorem own_r2 {a g : Nat} (i : Nat) (q : a < g) : a ≠ g + 1 + i := by omega
theorem own_r3 (g i : Nat) : g ≠ g + 1 + i := by omega
theorem own_r4 {g u i : Nat} (q : ¬ u = i) : g + 1 + u ≠ g + 1 + i := by omega
section Grid
variable {p : Program} {l : Launch} {e : Env} {R : Room} {s : State} {m : MethodId} {args : Array Value} {below : List Frame} {meth : Method} {c : Code} {T : State} {locs : List Loc} {cells slots : Nat} {Z : State} {a0 : Array Value} {h h' : Heap} {a b g0 : Addr} {kA kB : ClassId} {N M : Nat} {f : Nat → Nat → Int64} {ws : List Addr}
def Grd (Z : State) (h : Heap) (g : Addr) (kA kB : ClassId) (N M : Nat) (f : Nat → Nat → Int64) : Prop :=
  Arw Z h g kA (.array .long) N (fun i => .ref (g + 1 + i)) ∧ ∀ i, i < N → Arw Z h (g + 1 + i) kB .long M (fun j => .long (f i j))
theorem Grd.lt (G : Grd Z h g0 kA kB N M f) : g0 < h.size := G.1.lt
theorem Grd.ext (G : Grd Z h g0 kA kB N M f) (E : Ext h h') : Grd Z h' g0 kA kB N M f := ⟨G.1.ext E, fun i hi => (G.2 i hi).ext E⟩
theorem Grd.low {sl : Nat} {v : Value} (G : Grd Z h g0 kA kB N M f) (W : Wr h h' a sl v) (q : a < g0) : Grd Z h' g0 kA kB N M f :=
  ⟨G.1.other W (Nat.ne_of_gt q), fun i hi => (G.2 i hi).other W (Ne.symm (own_r2 i q))⟩
theorem Grd.to {f' : Nat → Nat → Int64} (G : Grd Z h g0 kA kB N M f) (q : ∀ i j, i < N → j < M → f' i j = f i j) : Grd Z h g0 kA kB N M f' :=
  ⟨G.1, fun i hi => (G.2 i hi).to fun j hj => by rw [q i j hi hj]⟩
theorem own_grid (X : Stand p l e R s m args below meth c T locs cells slots) (hx : p.tables.exec = Jvm.exec) (hZ : Z.Warmed39 s.vm) {own : String} {index : Nat} (hown : s.vm.findClass own = some m.cls)
    (w1 : (Cond.classLink own index "[[J").before a0 Z = true) (w2 : (Cond.arrayOver (.array .long)).before a0 Z = true) (w3 : (Cond.arrayClass .long).before a0 Z = true) (eT : T.heap = h) {g : JFrame} (hg : g.method = m) (hd : decode c.code g.pc = .ok (.multianewarray index 2, 4)) {n k : Int32} {rest : List Value} (hs : g.stack = .int k :: .int n :: rest)
    (hn : n.toInt = N) (hk : k.toInt = M) {cap : Nat} (hcap : M ≤ cap) (hb : cap * 8 ≤ 536870912) (hb1 : N ≤ 1000) (hc : cells + (1 + N) ≤ R.cells) (hl : slots + (N + N * cap) ≤ R.slots) :
    ∃ (T' : State) (h' : Heap) (kA kB : ClassId), Stand p l e R s m args below meth c T' locs (cells + (1 + N)) (slots + (N + N * cap)) ∧ T'.heap = h' ∧ Ext h h' ∧ Grd Z h' h.size kA kB N M (fun _ _ => 0) ∧
      ∀ target, Steps p.tables e below (T'.setTop { g with pc := g.pc + 4, stack := .ref h.size :: rest }) target → Steps p.tables e below (T.setTop g) target := by
  obtain ⟨hn0, hnN⟩ := own_ix hn
  obtain ⟨hk0, hkM⟩ := own_ix hk
  obtain ⟨T', h', cA, cB, X', e', E', A', O', -, rows, st⟩ := gridM X hx hZ hown (C := "[J") (ad := "[[J") (by decide) (by decide) w1 w2 w3 eT hg hd hs hn0 hk0 hnN rfl (cap := cap) (by omega) hb hb1 rfl rfl hc hl
  refine ⟨T', h', cA, cB, X', e', E', ⟨Arw.ofArv A' hnN ?_, fun i hi => ?_⟩, st⟩
  · intro i hi
    simp [hi]
  · obtain ⟨A1, -⟩ := rows i (h.size + 1 + i) (by simp [hi])
    have hz := (back32 hk0).2
    refine ⟨_, A1, rfl, (sz_new _ _ _).trans hkM, by omega, fun j hj => ?_, fun j hj => rfl⟩
    subst hkM
    simp [newA, hj]
    rfl
theorem own_glaload (X : Stand p l e R s m args below meth c T locs cells slots) (hx : p.tables.exec = Jvm.exec) (hZ : Z.Warmed39 s.vm) (eT : T.heap = h) (G : Grd Z h g0 kA kB N M f) {i j : Nat} {jj : Int32} (hi : i < N) (hjj : jj.toInt = j) (hj : j < M)
    {g : JFrame} (hg : g.method = m) {rest : List Value} (hs : g.stack = .int jj :: .ref (g0 + 1 + i) :: rest) (hd : decode c.code g.pc = .ok (.laload, 1)) :
    ∀ target, Steps p.tables e below (T.setTop { g with pc := g.pc + 1, stack := .long (f i j) :: rest }) target → Steps p.tables e below (T.setTop g) target :=
  own_laload X hx hZ eT (G.2 i hi) (own_ix hjj).1 (own_ix hjj).2 hj rfl hg hs hd
theorem own_gaaload (X : Stand p l e R s m args below meth c T locs cells slots) (hx : p.tables.exec = Jvm.exec) (hZ : Z.Warmed39 s.vm) (eT : T.heap = h) (G : Grd Z h g0 kA kB N M f) {i : Nat} {ii : Int32} (hii : ii.toInt = i) (hi : i < N)
    {g : JFrame} (hg : g.method = m) {rest : List Value} (hs : g.stack = .int ii :: .ref g0 :: rest) (hd : decode c.code g.pc = .ok (.aaload, 1)) :
    ∀ target, Steps p.tables e below (T.setTop { g with pc := g.pc + 1, stack := .ref (g0 + 1 + i) :: rest }) target → Steps p.tables e below (T.setTop g) target :=
  own_aaload X hx hZ eT G.1 rfl (own_ix hii).1 (own_ix hii).2 hi rfl hg hs hd
theorem own_glastore (X : Stand p l e R s m args below meth c T locs cells slots) (hx : p.tables.exec = Jvm.exec) (hZ : Z.Warmed39 s.vm) (eT : T.heap = h) (G : Grd Z h g0 kA kB N M f) {i j : Nat} {jj : Int32} (hi : i < N) (hjj : jj.toInt = j) (hj : j < M)
    {g : JFrame} (hg : g.method = m) {x : Int64} {rest : List Value} (hs : g.stack = .long x :: .int jj :: .ref (g0 + 1 + i) :: rest) (hd : decode c.code g.pc = .ok (.lastore, 1)) :
    ∃ T' h', Stand p l e R s m args below meth c T' (locs ++ [⟨g0 + 1 + i, jj.toNatClampNeg⟩]) cells slots ∧ T'.heap = h' ∧ Wr h h' (g0 + 1 + i) jj.toNatClampNeg (.long x) ∧ Grd Z h' g0 kA kB N M (fun u v => if u = i ∧ v = j then x else f u v) ∧
      ∀ target, Steps p.tables e below (T'.setTop { g with pc := g.pc + 1, stack := rest }) target → Steps p.tables e below (T.setTop g) target := by
  obtain ⟨T', h', X', e', W, A, st⟩ := own_lastore X hx hZ eT (G.2 i hi) (own_ix hjj).1 (own_ix hjj).2 hj hg hs hd
  refine ⟨T', h', X', e', W, ⟨G.1.other W (own_r3 g0 i), fun u hu => ?_⟩, st⟩
  by_cases q : u = i
  · subst q
    refine A.to fun v hv => ?_
    by_cases q2 : v = j
    · subst q2
      simp [own_upd]
    · simp [own_upd, q2]
  · refine ((G.2 u hu).other W (own_r4 q)).to fun v hv => ?_
    simp [q]
end Grid
theorem own_enum {x : Int32} {n : Nat} (h0 : 0 ≤ x.toInt) (h1 : x.toInt < n) : ∃ k, k < n ∧ x = Int32.ofNat k := by
  refine ⟨x.toInt.toNat, by omega, ?_⟩
  have := rng32 x
  apply Int32.toInt_inj.mp
  rw [Int32.toInt_ofNat_of_lt (by omega)]
  omega
theorem own_s1 {x : Int32} {n : Nat} (h : x.toInt = (n : Int)) (hn : n < 1000) : (x + (1 : Int32)).toInt = ((n + 1 : Nat) : Int) := by
  have q1 := c_iadd x 1
  have q2 := rng32 (x + 1)
  have q3 : (1 : Int32).toInt = 1 := by decide
  omega
theorem own_d1 {x : Int32} {n : Nat} (h : x.toInt = (n : Int)) (h1 : 1 ≤ n) : (x - (1 : Int32)).toInt = ((n - 1 : Nat) : Int) := by
  have q1 := c_isub x 1
  have q2 := rng32 (x - 1)
  have q3 : (1 : Int32).toInt = 1 := by decide
  have q4 := rng32 x
  omega
def own_C : Nat → Nat → Int64
  | _, 0 => 1
  | 0, _ + 1 => 0
  | i + 1, j + 1 => own_C i j + own_C i (j + 1)
theorem own_C_0 : ∀ (i j : Nat), i < j → own_C i j = 0
  | 0, j + 1, _ => rfl
  | i + 1, j + 1, h => by
    rw [own_C, own_C_0 i j (by omega), own_C_0 i (j + 1) (by omega)]
    rfl
theorem own_C_00 (i : Nat) : own_C i 0 = 1 := by cases i <;> rfl
theorem own_C_ss (i j : Nat) (hi : 1 ≤ i) (hj : 1 ≤ j) : own_C i j = own_C (i - 1) (j - 1) + own_C (i - 1) j := by
  obtain ⟨i', rfl⟩ : ∃ i', i = i' + 1 := ⟨i - 1, by omega⟩
  obtain ⟨j', rfl⟩ : ∃ j', j = j' + 1 := ⟨j - 1, by omega⟩
  rfl
def own_in_ (a b : Nat) : Nat → Nat → Int64 := fun u v => if u < a ∨ (u = a ∧ v < b) then own_C u v else 0
theorem own_in_0 (u v : Nat) : own_in_ 0 0 u v = 0 := by
  unfold own_in_
  rw [if_neg (by omega)]
theorem own_in_1 (a u v : Nat) : own_in_ a 1 u v = (if u = a ∧ v = 0 then (1 : Int64) else own_in_ a 0 u v) := by
  unfold own_in_
  by_cases q : u = a ∧ v = 0
  · obtain ⟨rfl, rfl⟩ := q
    rw [if_pos (by omega), if_pos ⟨rfl, rfl⟩, own_C_00]
  · rw [if_neg q]
    by_cases q2 : u < a
    · rw [if_pos (Or.inl q2), if_pos (Or.inl q2)]
    · rw [if_neg (by omega), if_neg (by omega)]
theorem own_in_2 (a b u v : Nat) (ha : 1 ≤ a) (hb : 1 ≤ b) : own_in_ a (b + 1) u v = (if u = a ∧ v = b then (own_in_ a b (a - 1) (b - 1) + own_in_ a b (a - 1) b) else own_in_ a b u v) := by
  by_cases q : u = a ∧ v = b
  · obtain ⟨rfl, rfl⟩ := q
    rw [if_pos ⟨rfl, rfl⟩]
    unfold own_in_
    rw [if_pos (by omega), if_pos (by omega), if_pos (by omega), own_C_ss _ _ ha hb]
  · rw [if_neg q]
    unfold own_in_
    by_cases q2 : u < a ∨ (u = a ∧ v < b)
    · rw [if_pos q2, if_pos (by omega)]
    · rw [if_neg q2, if_neg (by omega)]
theorem own_in_3 (a b mm u v : Nat) (hb : min a mm < b) (hv : v < mm + 1) : own_in_ (a + 1) 0 u v = own_in_ a b u v := by
  unfold own_in_
  by_cases q : u = a
  · subst q
    rw [if_pos (by omega)]
    by_cases q2 : v < b
    · rw [if_pos (by omega)]
    · rw [if_neg (by omega), own_C_0 _ _ (by omega)]
  · by_cases q2 : u < a
    · rw [if_pos (by omega), if_pos (by omega)]
    · rw [if_neg (by omega), if_neg (by omega)]
theorem own_in_4 (n u v : Nat) (hu : u < n) : own_C u v = own_in_ n 0 u v := by
  unfold own_in_
  rw [if_pos (Or.inl hu)]
theorem own_min {x y : Int32} : (if y < x then y else x).toInt = min x.toInt y.toInt := by
  by_cases h : y < x
  · rw [if_pos h]
    have := own_lti.mp h
    omega
  · rw [if_neg h]
    have : ¬ y.toInt < x.toInt := fun q => h (own_lti.mpr q)
    omega
def own_A (m : Int32) : Int64 := if m = (64 : Int32) then (-1 : Int64) else (((1 : Int64) <<< (m &&& 0x3f).toInt64) - (1 : Int64))
theorem own_bits : ∀ m < 65, ∀ u < 64, ((((own_A (Int32.ofNat m)).toUInt64 >>> ((Int32.ofNat u) &&& 0x3f).toInt64.toUInt64).toInt64 &&& (1 : Int64)) = (0 : Int64)) ↔ ¬ Int32.ofNat u < Int32.ofNat m := by decide +kernel
theorem own_run : ∀ m < 65, ((own_A (Int32.ofNat m)) &&& ((own_A (Int32.ofNat m)) + (1 : Int64))) = (0 : Int64) := by decide +kernel
theorem own_top : ∀ m < 65, ¬ Int32.ofNat m = (0 : Int32) → ((((own_A (Int32.ofNat m)).toUInt64 >>> (((Int32.ofNat m) - (1 : Int32)) &&& 0x3f).toInt64.toUInt64).toInt64 &&& (1 : Int64)) = (1 : Int64)) := by decide +kernel
theorem own_over : ∀ m < 65, Int32.ofNat m < (64 : Int32) → ((own_A (Int32.ofNat m)).toUInt64 >>> ((Int32.ofNat m) &&& 0x3f).toInt64.toUInt64).toInt64 = (0 : Int64) := by decide +kernel
theorem own_m65 (x : Int32) : 0 ≤ ((x &&& (2147483647 : Int32)) % (65 : Int32)).toInt ∧ ((x &&& (2147483647 : Int32)) % (65 : Int32)).toInt < 65 := by
  have q1 := (c_and x 2147483647 (by decide)).1
  have q2 := (c_irem (x &&& 2147483647) 65 65 (by decide)).1 q1
  omega
theorem ef_rm3 (m : MethodId) (x : Int32) (y : Int32) : entryFrame m #[(.int x), (.int y)] 2 = mkF m 0 #[.val (.int x), .val (.int y)] [] := by first | (simp [entryFrame, mkF, argsToLocals, Value.category]; done) | rfl
def Qrm3 (Z : State) (x : Int32) (y : Int32) (h0 : Heap) (n0 : Nat) (v_ : Option Value) (h_ : Heap) (L_ : List Loc) : Prop := v_ = some (.int (if y < x then y else x)) ∧ Fr n0 L_ ∧ h_ = h0
theorem d3_0 : decode jdk_29_method_69_code 0 = .ok (.iload_n 0, 1) := by decide +kernel
theorem d3_1 : decode jdk_29_method_69_code 1 = .ok (.iload_n 1, 1) := by decide +kernel
theorem d3_2 : decode jdk_29_method_69_code 2 = .ok (.if_icmp .gt 7, 3) := by decide +kernel
theorem d3_9 : decode jdk_29_method_69_code 9 = .ok (.iload_n 1, 1) := by decide +kernel
theorem d3_10 : decode jdk_29_method_69_code 10 = .ok (.ireturn, 1) := by decide +kernel
theorem d3_5 : decode jdk_29_method_69_code 5 = .ok (.iload_n 0, 1) := by decide +kernel
theorem d3_6 : decode jdk_29_method_69_code 6 = .ok (.goto 4, 3) := by decide +kernel
set_option maxRecDepth 65536 in
set_option maxHeartbeats 40000000 in
theorem rm3 (l : Launch) (Z : State) (a0 : Array Value) (hw : ∀ d ∈ tables_1, d.before a0 Z = true) (ws : List Jvm.Cond) (x : Int32) (y : Int32) (h0 : Heap) (n0 : Nat) (Z0 : n0 ≤ h0.size) :
    MetFree l (⟨"java/lang/Math", "min", "(II)I"⟩ : MethodName) (head1 (Jvm.Cond.code (⟨"java/lang/Math", "min", "(II)I"⟩ : MethodName) jdk_29_method_69_code 2 (some .int) :: ws) ({ frames := 0, cells := 0, slots := 0, locals := 0 } : Room)) (fun as_ U_ => as_ = #[(.int x), (.int y)] ∧ Z.Warmed39 U_.vm ∧ U_.heap = h0) (fun _ _ _ _ _ => True) (fun _ U_ o_ V_ => ∃ v_ L_, o_ = .returned v_ ∧ Qrm3 Z x y h0 n0 v_ V_.heap L_ ∧ FrameEnd U_ o_ V_ L_ ({ frames := 0, cells := 0, slots := 0, locals := 0 } : Room).cells ({ frames := 0, cells := 0, slots := 0, locals := 0 } : Room).slots) := by
  refine MetFree.of_bodySF (Jvm.Free.JP.mathPlain rfl (by decide +kernel)) hisR ?_
  intro p e s m args below meth c s₁ Bd hml0 hP hK
  obtain ⟨rfl, hZ, hh⟩ := hP
  have hx := Bd.exec
  have hby := Bd.bytes
  have hlk : meth.locks = false := BodyLoose.notSynchronized Bd
  have hret := Bd.returns
  have hml : c.maxLocals = 2 := hml0
  have hown : s.vm.findClass "java/lang/Math" = some m.cls := findClass_of_methodNamed Bd.named
  have hnm := (name_of_methodNamed Bd.named Bd.method).1
  have X0 : Stand p l e ({ frames := 0, cells := 0, slots := 0, locals := 0 } : Room) s m #[(.int x), (.int y)] below meth c s₁ [] 0 0 := Stand.of_body Bd
  have e0 : s₁.heap = h0 := by rw [← hh, Bd.state]; rfl
  have N0 := Fr.nil n0
  show Goes p e below (Fin_ s (Qrm3 Z x y h0 n0) ({ frames := 0, cells := 0, slots := 0, locals := 0 } : Room).cells ({ frames := 0, cells := 0, slots := 0, locals := 0 } : Room).slots) (s₁.setTop (entryFrame m #[(.int x), (.int y)] 2))
  rw [ef_rm3 m x y]
  refine Goes.via (fun _ kk_ => XS.iloadN X0.here hx rfl (hb hby d3_0) rfl  kk_) ?_
  show Goes p e below _ (s₁.setTop (mkF m 1 #[.val (.int x), .val (.int y)] [(.int x)]))
  refine Goes.via (fun _ kk_ => XS.iloadN X0.here hx rfl (hb hby d3_1) rfl  kk_) ?_
  show Goes p e below _ (s₁.setTop (mkF m 2 #[.val (.int x), .val (.int y)] [(.int y), (.int x)]))
  by_cases hc2 : y < x
  · skip
    refine Goes.via (fun _ kk_ => XS.icmpYes X0.here hx rfl (pc0 := 2) (pc' := 9) rfl (hb hby d3_2) rfl (tlt hc2).2.2.1 (by decide) (by decide) kk_) ?_
    show Goes p e below _ (s₁.setTop (mkF m 9 #[.val (.int x), .val (.int y)] []))
    refine Goes.via (fun _ kk_ => XS.iloadN X0.here hx rfl (hb hby d3_9) rfl  kk_) ?_
    show Goes p e below _ (s₁.setTop (mkF m 10 #[.val (.int x), .val (.int y)] [(.int y)]))
    exact own_finI X0 hx hlk hret (hb hby d3_10) (by rw [e0]; exact ⟨(by rw [if_pos hc2]), N0, rfl⟩) (by first | decide | omega | (dsimp only; omega)) (by first | decide | omega | (dsimp only; omega))
  · skip
    refine Goes.via (fun _ kk_ => XS.icmpNo X0.here hx rfl (hb hby d3_2) rfl (flt hc2).2.2.1 kk_) ?_
    show Goes p e below _ (s₁.setTop (mkF m 5 #[.val (.int x), .val (.int y)] []))
    refine Goes.via (fun _ kk_ => XS.iloadN X0.here hx rfl (hb hby d3_5) rfl  kk_) ?_
    show Goes p e below _ (s₁.setTop (mkF m 6 #[.val (.int x), .val (.int y)] [(.int x)]))
    refine Goes.via (fun _ kk_ => XS.goto X0.here hx rfl (pc0 := 6) (pc' := 10) rfl (hb hby d3_6) (by decide) (by decide) kk_) ?_
    show Goes p e below _ (s₁.setTop (mkF m 10 #[.val (.int x), .val (.int y)] [(.int x)]))
    exact own_finI X0 hx hlk hret (hb hby d3_10) (by rw [e0]; exact ⟨(by rw [if_neg hc2]), N0, rfl⟩) (by first | decide | omega | (dsimp only; omega)) (by first | decide | omega | (dsimp only; omega))
theorem ef_rm1 (m : MethodId) (a : Addr) (us : Int32) (la : Int32) : entryFrame m #[(.ref a), (.int us), (.int la)] 5 = mkF m 0 #[.val (.ref a), .val (.int us), .val (.int la), .unset, .unset] [] := by first | (simp [entryFrame, mkF, argsToLocals, Value.category]; done) | rfl
def Qrm1 (Z : State) (a : Addr) (us : Int32) (la : Int32) (n : Nat) (mm : Nat) (h0 : Heap) (n0 : Nat) (v_ : Option Value) (h_ : Heap) (L_ : List Loc) : Prop := ∃ g : Addr, ∃ kA : ClassId, ∃ kB : ClassId, v_ = none ∧ Fr n0 L_ ∧ Keep h0 h_ [a] ∧ h0.size ≤ g ∧ Exa Z h_ a "com/example/checks_on_duty/checksonduty/engine/RankedSets" ∧ Fld Z h_ a "com/example/checks_on_duty/checksonduty/engine/RankedSets" "users" "I" (.int us) ∧ Fld Z h_ a "com/example/checks_on_duty/checksonduty/engine/RankedSets" "binomial" "[[J" (.ref g) ∧ Grd Z h_ g kA kB (n + 1) (mm + 1) own_C
theorem pn_com_example_checks_on_duty_checksonduty_engine_RankedSets : plainName "com/example/checks_on_duty/checksonduty/engine/RankedSets" = true := by first | (simp [plainName, overriddenIn]; done) | decide +kernel
theorem d1_0 : decode prog_44_method_1_code 0 = .ok (.aload_n 0, 1) := by decide +kernel
theorem d1_1 : decode prog_44_method_1_code 1 = .ok (.invokespecial 1, 3) := by decide +kernel
theorem d1_4 : decode prog_44_method_1_code 4 = .ok (.aload_n 0, 1) := by decide +kernel
theorem d1_5 : decode prog_44_method_1_code 5 = .ok (.iload_n 1, 1) := by decide +kernel
theorem d1_6 : decode prog_44_method_1_code 6 = .ok (.putfield 7, 3) := by decide +kernel
theorem d1_9 : decode prog_44_method_1_code 9 = .ok (.aload_n 0, 1) := by decide +kernel
theorem d1_10 : decode prog_44_method_1_code 10 = .ok (.iload_n 1, 1) := by decide +kernel
theorem d1_11 : decode prog_44_method_1_code 11 = .ok (.iconst 1, 1) := by decide +kernel
theorem d1_12 : decode prog_44_method_1_code 12 = .ok (.iadd, 1) := by decide +kernel
theorem d1_13 : decode prog_44_method_1_code 13 = .ok (.iload_n 2, 1) := by decide +kernel
theorem d1_14 : decode prog_44_method_1_code 14 = .ok (.iconst 1, 1) := by decide +kernel
theorem d1_15 : decode prog_44_method_1_code 15 = .ok (.iadd, 1) := by decide +kernel
theorem d1_16 : decode prog_44_method_1_code 16 = .ok (.multianewarray 13 2, 4) := by decide +kernel
theorem d1_20 : decode prog_44_method_1_code 20 = .ok (.putfield 15, 3) := by decide +kernel
theorem d1_23 : decode prog_44_method_1_code 23 = .ok (.iconst 0, 1) := by decide +kernel
theorem d1_24 : decode prog_44_method_1_code 24 = .ok (.istore_n 3, 1) := by decide +kernel
theorem d1_25 : decode prog_44_method_1_code 25 = .ok (.iload_n 3, 1) := by decide +kernel
theorem d1_26 : decode prog_44_method_1_code 26 = .ok (.iload_n 1, 1) := by decide +kernel
theorem d1_27 : decode prog_44_method_1_code 27 = .ok (.if_icmp .gt 71, 3) := by decide +kernel
theorem d1_98 : decode prog_44_method_1_code 98 = .ok (.return_, 1) := by decide +kernel
theorem d1_30 : decode prog_44_method_1_code 30 = .ok (.aload_n 0, 1) := by decide +kernel
theorem d1_31 : decode prog_44_method_1_code 31 = .ok (.getfield 15, 3) := by decide +kernel
theorem d1_34 : decode prog_44_method_1_code 34 = .ok (.iload_n 3, 1) := by decide +kernel
theorem d1_35 : decode prog_44_method_1_code 35 = .ok (.aaload, 1) := by decide +kernel
theorem d1_36 : decode prog_44_method_1_code 36 = .ok (.iconst 0, 1) := by decide +kernel
theorem d1_37 : decode prog_44_method_1_code 37 = .ok (.lconst 1, 1) := by decide +kernel
theorem d1_38 : decode prog_44_method_1_code 38 = .ok (.lastore, 1) := by decide +kernel
theorem d1_39 : decode prog_44_method_1_code 39 = .ok (.iconst 1, 1) := by decide +kernel
theorem os_rm1_40_17 {z0 : Value} {z1 : Value} {z2 : Value} {z3 : Value} {s4 : Slot} {v : Int32} (h : One s4) : storeLocals #[.val z0, .val z1, .val z2, .val z3, s4] 4 (.int v) = some #[.val z0, .val z1, .val z2, .val z3, .val (.int v)] := by
  rcases h with rfl | ⟨w, rfl, hw⟩
  · rfl
  · cases w <;> first | rfl | (simp [Value.category] at hw)
theorem d1_40 : decode prog_44_method_1_code 40 = .ok (.istore 4, 2) := by decide +kernel
theorem d1_42 : decode prog_44_method_1_code 42 = .ok (.iload 4, 2) := by decide +kernel
theorem d1_44 : decode prog_44_method_1_code 44 = .ok (.iload_n 3, 1) := by decide +kernel
theorem d1_45 : decode prog_44_method_1_code 45 = .ok (.iload_n 2, 1) := by decide +kernel
theorem pd_0 : parseMethodDescriptor "(II)I" = some ⟨[.int, .int], some .int⟩ := by decide +kernel
theorem d1_46 : decode prog_44_method_1_code 46 = .ok (.invokestatic 18, 3) := by decide +kernel
theorem d1_49 : decode prog_44_method_1_code 49 = .ok (.if_icmp .gt 43, 3) := by decide +kernel
theorem d1_92 : decode prog_44_method_1_code 92 = .ok (.iinc 3 1, 3) := by decide +kernel
theorem d1_95 : decode prog_44_method_1_code 95 = .ok (.goto (-70), 3) := by decide +kernel
theorem d1_52 : decode prog_44_method_1_code 52 = .ok (.aload_n 0, 1) := by decide +kernel
theorem d1_53 : decode prog_44_method_1_code 53 = .ok (.getfield 15, 3) := by decide +kernel
theorem d1_56 : decode prog_44_method_1_code 56 = .ok (.iload_n 3, 1) := by decide +kernel
theorem d1_57 : decode prog_44_method_1_code 57 = .ok (.aaload, 1) := by decide +kernel
theorem d1_58 : decode prog_44_method_1_code 58 = .ok (.iload 4, 2) := by decide +kernel
theorem d1_60 : decode prog_44_method_1_code 60 = .ok (.aload_n 0, 1) := by decide +kernel
theorem d1_61 : decode prog_44_method_1_code 61 = .ok (.getfield 15, 3) := by decide +kernel
theorem d1_64 : decode prog_44_method_1_code 64 = .ok (.iload_n 3, 1) := by decide +kernel
theorem d1_65 : decode prog_44_method_1_code 65 = .ok (.iconst 1, 1) := by decide +kernel
theorem d1_66 : decode prog_44_method_1_code 66 = .ok (.isub, 1) := by decide +kernel
theorem d1_67 : decode prog_44_method_1_code 67 = .ok (.aaload, 1) := by decide +kernel
theorem d1_68 : decode prog_44_method_1_code 68 = .ok (.iload 4, 2) := by decide +kernel
theorem d1_70 : decode prog_44_method_1_code 70 = .ok (.iconst 1, 1) := by decide +kernel
theorem d1_71 : decode prog_44_method_1_code 71 = .ok (.isub, 1) := by decide +kernel
theorem d1_72 : decode prog_44_method_1_code 72 = .ok (.laload, 1) := by decide +kernel
theorem d1_73 : decode prog_44_method_1_code 73 = .ok (.aload_n 0, 1) := by decide +kernel
theorem d1_74 : decode prog_44_method_1_code 74 = .ok (.getfield 15, 3) := by decide +kernel
theorem d1_77 : decode prog_44_method_1_code 77 = .ok (.iload_n 3, 1) := by decide +kernel
theorem d1_78 : decode prog_44_method_1_code 78 = .ok (.iconst 1, 1) := by decide +kernel
theorem d1_79 : decode prog_44_method_1_code 79 = .ok (.isub, 1) := by decide +kernel
theorem d1_80 : decode prog_44_method_1_code 80 = .ok (.aaload, 1) := by decide +kernel
theorem d1_81 : decode prog_44_method_1_code 81 = .ok (.iload 4, 2) := by decide +kernel
theorem d1_83 : decode prog_44_method_1_code 83 = .ok (.laload, 1) := by decide +kernel
theorem d1_84 : decode prog_44_method_1_code 84 = .ok (.ladd, 1) := by decide +kernel
theorem d1_85 : decode prog_44_method_1_code 85 = .ok (.lastore, 1) := by decide +kernel
theorem d1_86 : decode prog_44_method_1_code 86 = .ok (.iinc 4 1, 3) := by decide +kernel
theorem d1_89 : decode prog_44_method_1_code 89 = .ok (.goto (-47), 3) := by decide +kernel
set_option maxRecDepth 65536 in
set_option maxHeartbeats 40000000 in
theorem rm1 (l : Launch) (Z : State) (a0 : Array Value) (hw : ∀ d ∈ tables_1, d.before a0 Z = true) (ws : List Jvm.Cond) (a : Addr) (us : Int32) (la : Int32) (n : Nat) (mm : Nat) (h0 : Heap) (n0 : Nat) (Z0 : n0 ≤ h0.size) (E0_a : Exa Z h0 a "com/example/checks_on_duty/checksonduty/engine/RankedSets") (F1_a_users : Fld Z h0 a "com/example/checks_on_duty/checksonduty/engine/RankedSets" "users" "I" (.int (0 : Int32))) (F2_a_binomial : Fld Z h0 a "com/example/checks_on_duty/checksonduty/engine/RankedSets" "binomial" "[[J" .null) (H3 : n0 ≤ a) (Hn : us.toInt = (n : Int)) (Hm : la.toInt = (mm : Int)) (Hn1 : n ≤ 64) (Hm1 : mm ≤ 4) :
    MetFree l (⟨"com/example/checks_on_duty/checksonduty/engine/RankedSets", "<init>", "(II)V"⟩ : MethodName) (head1 (Jvm.Cond.code (⟨"com/example/checks_on_duty/checksonduty/engine/RankedSets", "<init>", "(II)V"⟩ : MethodName) prog_44_method_1_code 5 none :: ws) ({ frames := 1, cells := 66, slots := 400, locals := 40 } : Room)) (fun as_ U_ => as_ = #[(.ref a), (.int us), (.int la)] ∧ Z.Warmed39 U_.vm ∧ U_.heap = h0) (fun _ _ _ _ _ => True) (fun _ U_ o_ V_ => ∃ v_ L_, o_ = .returned v_ ∧ Qrm1 Z a us la n mm h0 n0 v_ V_.heap L_ ∧ FrameEnd U_ o_ V_ L_ ({ frames := 1, cells := 66, slots := 400, locals := 40 } : Room).cells ({ frames := 1, cells := 66, slots := 400, locals := 40 } : Room).slots) := by
  refine MetFree.of_bodySF (plainFor_of_name pn_com_example_checks_on_duty_checksonduty_engine_RankedSets) hisR ?_
  intro p e s m args below meth c s₁ Bd hml0 hP hK
  obtain ⟨rfl, hZ, hh⟩ := hP
  have hx := Bd.exec
  have hby := Bd.bytes
  have hlk : meth.locks = false := BodyLoose.notSynchronized Bd
  have hret := Bd.returns
  have hml : c.maxLocals = 5 := hml0
  have hown : s.vm.findClass "com/example/checks_on_duty/checksonduty/engine/RankedSets" = some m.cls := findClass_of_methodNamed Bd.named
  have hnm := (name_of_methodNamed Bd.named Bd.method).1
  have X0 : Stand p l e ({ frames := 1, cells := 66, slots := 400, locals := 40 } : Room) s m #[(.ref a), (.int us), (.int la)] below meth c s₁ [] 0 0 := Stand.of_body Bd
  have e0 : s₁.heap = h0 := by rw [← hh, Bd.state]; rfl
  have N0 := Fr.nil n0
  show Goes p e below (Fin_ s (Qrm1 Z a us la n mm h0 n0) ({ frames := 1, cells := 66, slots := 400, locals := 40 } : Room).cells ({ frames := 1, cells := 66, slots := 400, locals := 40 } : Room).slots) (s₁.setTop (entryFrame m #[(.ref a), (.int us), (.int la)] 5))
  rw [ef_rm1 m a us la]
  refine Goes.via (fun _ kk_ => XS.aloadN X0.here hx rfl (hb hby d1_0) rfl rfl  kk_) ?_
  show Goes p e below _ (s₁.setTop (mkF m 1 #[.val (.ref a), .val (.int us), .val (.int la), .unset, .unset] [(.ref a)]))
  obtain ⟨T1, X1, e1, st1⟩ := initO X0 hx hZ hown (hw _ (List.mem_of_getElem? (i := 7) rfl)) (hw _ (List.mem_of_getElem? (i := 8) rfl)) (hw _ (List.mem_of_getElem? (i := 9) rfl)) e0 (g := (mkF m 1 #[.val (.ref a), .val (.int us), .val (.int la), .unset, .unset] [(.ref a)])) rfl (by rw [hml]; rfl) rfl (hb hby d1_1) (by decide) (W := 0) (by show 2 * 0 + _ ≤ _; exact Nat.le_of_eq rfl) (by decide)
  refine Goes.via st1 ?_
  show Goes p e below _ (T1.setTop (mkF m 4 #[.val (.ref a), .val (.int us), .val (.int la), .unset, .unset] []))
  refine Goes.via (fun _ kk_ => XS.aloadN X1.here hx rfl (hb hby d1_4) rfl rfl  kk_) ?_
  show Goes p e below _ (T1.setTop (mkF m 5 #[.val (.ref a), .val (.int us), .val (.int la), .unset, .unset] [(.ref a)]))
  refine Goes.via (fun _ kk_ => XS.iloadN X1.here hx rfl (hb hby d1_5) rfl  kk_) ?_
  show Goes p e below _ (T1.setTop (mkF m 6 #[.val (.ref a), .val (.int us), .val (.int la), .unset, .unset] [(.int us), (.ref a)]))
  obtain ⟨T2, h2, X2, e2, W2, st2⟩ := putF X1 hx hZ hown (host := "") (Or.inl (hw _ (List.mem_of_getElem? (i := 10) rfl))) Via.refl e1 F1_a_users E0_a (Or.inr ⟨(hw _ (List.mem_of_getElem? (i := 11) rfl)), rfl, hnm⟩) (hw _ (List.mem_of_getElem? (i := 2) rfl)) (ty := .int) (by decide) rfl rfl (g := (mkF m 6 #[.val (.ref a), .val (.int us), .val (.int la), .unset, .unset] [(.int us), (.ref a)])) rfl rfl (hb hby d1_6)
  refine Goes.via st2 ?_
  have N2 := Fr.snoc X2 N0 H3
  have Fw2 : Fld Z h2 a "com/example/checks_on_duty/checksonduty/engine/RankedSets" "users" "I" (.int us) := F1_a_users.same W2
  show Goes p e below _ (T2.setTop (mkF m 9 #[.val (.ref a), .val (.int us), .val (.int la), .unset, .unset] []))
  refine Goes.via (fun _ kk_ => XS.aloadN X2.here hx rfl (hb hby d1_9) rfl rfl  kk_) ?_
  show Goes p e below _ (T2.setTop (mkF m 10 #[.val (.ref a), .val (.int us), .val (.int la), .unset, .unset] [(.ref a)]))
  refine Goes.via (fun _ kk_ => XS.iloadN X2.here hx rfl (hb hby d1_10) rfl  kk_) ?_
  show Goes p e below _ (T2.setTop (mkF m 11 #[.val (.ref a), .val (.int us), .val (.int la), .unset, .unset] [(.int us), (.ref a)]))
  refine Goes.via (fun _ kk_ => XS.iconst X2.here hx rfl (hb hby d1_11) kk_) ?_
  show Goes p e below _ (T2.setTop (mkF m 12 #[.val (.ref a), .val (.int us), .val (.int la), .unset, .unset] [(.int (1 : Int32)), (.int us), (.ref a)]))
  refine Goes.via (fun _ kk_ => XS.iadd X2.here hx rfl (hb hby d1_12) rfl kk_) ?_
  show Goes p e below _ (T2.setTop (mkF m 13 #[.val (.ref a), .val (.int us), .val (.int la), .unset, .unset] [(.int (us + (1 : Int32))), (.ref a)]))
  refine Goes.via (fun _ kk_ => XS.iloadN X2.here hx rfl (hb hby d1_13) rfl  kk_) ?_
  show Goes p e below _ (T2.setTop (mkF m 14 #[.val (.ref a), .val (.int us), .val (.int la), .unset, .unset] [(.int la), (.int (us + (1 : Int32))), (.ref a)]))
  refine Goes.via (fun _ kk_ => XS.iconst X2.here hx rfl (hb hby d1_14) kk_) ?_
  show Goes p e below _ (T2.setTop (mkF m 15 #[.val (.ref a), .val (.int us), .val (.int la), .unset, .unset] [(.int (1 : Int32)), (.int la), (.int (us + (1 : Int32))), (.ref a)]))
  refine Goes.via (fun _ kk_ => XS.iadd X2.here hx rfl (hb hby d1_15) rfl kk_) ?_
  show Goes p e below _ (T2.setTop (mkF m 16 #[.val (.ref a), .val (.int us), .val (.int la), .unset, .unset] [(.int (la + (1 : Int32))), (.int (us + (1 : Int32))), (.ref a)]))
  have hN : (us + (1 : Int32)).toInt = ((n + 1 : Nat) : Int) := own_s1 Hn (by omega)
  have hM : (la + (1 : Int32)).toInt = ((mm + 1 : Nat) : Int) := own_s1 Hm (by omega)
  obtain ⟨T3, h3, kA, kB, X3, e3, E3, A3, st3⟩ := own_grid X2 hx hZ hown (hw _ (List.mem_of_getElem? (i := 12) rfl)) (hw _ (List.mem_of_getElem? (i := 13) rfl)) (hw _ (List.mem_of_getElem? (i := 14) rfl)) e2 (g := (mkF m 16 #[.val (.ref a), .val (.int us), .val (.int la), .unset, .unset] [(.int (la + (1 : Int32))), (.int (us + (1 : Int32))), (.ref a)])) rfl (hb hby d1_16) rfl hN hM (cap := 5) (by omega) (by decide) (by omega) (by show 0 + (1 + (n + 1)) ≤ 66; omega) (by show 0 + ((n + 1) + (n + 1) * 5) ≤ 400; omega)
  obtain ⟨b3, g3⟩ : ∃ z, z = (h2).size := ⟨_, rfl⟩
  rw [← g3] at A3 st3
  have f4 : Exa Z h2 a "com/example/checks_on_duty/checksonduty/engine/RankedSets" := (E0_a.wr W2)
  have lne5 : a < b3 := Nat.lt_of_lt_of_le f4.lt (Nat.le_of_eq g3.symm)
  have ne5 : a ≠ b3 := Nat.ne_of_lt lne5
  have z6 : h0.size ≤ (h2).size := (Nat.le_trans (Nat.le_refl _) (Nat.le_of_eq W2.size.symm))
  have sz_b3 : h0.size ≤ b3 := Nat.le_trans z6 (Nat.le_of_eq g3.symm)
  have gn_b3 : n0 ≤ b3 := Nat.le_trans Z0 sz_b3
  refine Goes.via st3 ?_
  show Goes p e below _ (T3.setTop (mkF m 20 #[.val (.ref a), .val (.int us), .val (.int la), .unset, .unset] [(.ref b3), (.ref a)]))
  have f7 : Fld Z h3 a "com/example/checks_on_duty/checksonduty/engine/RankedSets" "binomial" "[[J" .null := ((F2_a_binomial.other W2 (Or.inr (slot_ne (Or.inr (hw _ (List.mem_of_getElem? (i := 16) rfl))) (Or.inr (hw _ (List.mem_of_getElem? (i := 11) rfl))) (by decide) (t := (.array (.array .long))) (t' := .int) (by decide) (by decide)))).ext E3)
  have f8 : Exa Z h3 a "com/example/checks_on_duty/checksonduty/engine/RankedSets" := (f4.ext E3)
  obtain ⟨T9, h9, X9, e9, W9, st9⟩ := putF X3 hx hZ hown (host := "") (Or.inl (hw _ (List.mem_of_getElem? (i := 15) rfl))) Via.refl e3 f7 f8 (Or.inr ⟨(hw _ (List.mem_of_getElem? (i := 16) rfl)), rfl, hnm⟩) (hw _ (List.mem_of_getElem? (i := 2) rfl)) (ty := (.array (.array .long))) (by decide) rfl rfl (g := (mkF m 20 #[.val (.ref a), .val (.int us), .val (.int la), .unset, .unset] [(.ref b3), (.ref a)])) rfl rfl (hb hby d1_20)
  refine Goes.via st9 ?_
  have N9 := Fr.snoc X9 N2 H3
  have Fw9 : Fld Z h9 a "com/example/checks_on_duty/checksonduty/engine/RankedSets" "binomial" "[[J" (.ref b3) := f7.same W9
  show Goes p e below _ (T9.setTop (mkF m 23 #[.val (.ref a), .val (.int us), .val (.int la), .unset, .unset] []))
  refine Goes.via (fun _ kk_ => XS.iconst X9.here hx rfl (hb hby d1_23) kk_) ?_
  show Goes p e below _ (T9.setTop (mkF m 24 #[.val (.ref a), .val (.int us), .val (.int la), .unset, .unset] [(.int (0 : Int32))]))
  refine Goes.via (fun _ kk_ => XS.istoreN X9.here hx rfl (hb hby d1_24) rfl (l' := #[.val (.ref a), .val (.int us), .val (.int la), .val (.int (0 : Int32)), .unset]) rfl kk_) ?_
  show Goes p e below _ (T9.setTop (mkF m 25 #[.val (.ref a), .val (.int us), .val (.int la), .val (.int (0 : Int32)), .unset] []))
  have f10 : Grd Z h9 b3 kA kB (n + 1) (mm + 1) (fun _ _ => 0) := (A3.low W9 lne5)
  have G0 : Grd Z h9 b3 kA kB (n + 1) (mm + 1) (own_in_ 0 0) := f10.to (fun i j _ _ => own_in_0 i j)
  have f12 : Exa Z h9 a "com/example/checks_on_duty/checksonduty/engine/RankedSets" := (f8.wr W9)
  have f13 : Fld Z h9 a "com/example/checks_on_duty/checksonduty/engine/RankedSets" "users" "I" (.int us) := ((Fw2.ext E3).other W9 (Or.inr (slot_ne (Or.inr (hw _ (List.mem_of_getElem? (i := 11) rfl))) (Or.inr (hw _ (List.mem_of_getElem? (i := 16) rfl))) (by decide) (t := .int) (t' := (.array (.array .long))) (by decide) (by decide))))
  have K14 : Keep h0 h9 [a] := ((((Keep.refl h0 [a]).wr W2 (Or.inl (List.mem_of_getElem? (i := 0) rfl))).ext E3).wr W9 (Or.inl (List.mem_of_getElem? (i := 0) rfl)))
  have lp11 : ∀ (fu11 : Nat) (i : Int32) (na : Nat) (s4 : Slot) (T11 : State) (lc11 : List Loc) (H11 : Heap), (Stand p l e ({ frames := 1, cells := 66, slots := 400, locals := 40 } : Room) s m #[(.ref a), (.int us), (.int la)] below meth c T11 lc11 (0 + (1 + (n + 1))) (0 + ((n + 1) + (n + 1) * 5))) → (T11.heap = H11) → (Fr n0 lc11) → (Keep h0 H11 [a]) → (Exa Z H11 a "com/example/checks_on_duty/checksonduty/engine/RankedSets") → (Fld Z H11 a "com/example/checks_on_duty/checksonduty/engine/RankedSets" "users" "I" (.int us)) → (Fld Z H11 a "com/example/checks_on_duty/checksonduty/engine/RankedSets" "binomial" "[[J" (.ref b3)) → (Grd Z H11 b3 kA kB (n + 1) (mm + 1) (own_in_ na 0)) → (i.toInt = (na : Int)) → (na ≤ n + 1) → (n + 2 ≤ na + fu11) → (One s4) → Goes p e below (Fin_ s (Qrm1 Z a us la n mm h0 n0) ({ frames := 1, cells := 66, slots := 400, locals := 40 } : Room).cells ({ frames := 1, cells := 66, slots := 400, locals := 40 } : Room).slots) (T11.setTop (mkF m 25 #[.val (.ref a), .val (.int us), .val (.int la), .val (.int i), s4] [])) := by
    intro fu11
    induction fu11 with
    | zero =>
      intro i na s4 T11 lc11 H11 X11 e11 N11 K11 g11_0 g11_1 g11_2 g11_3 hi hle hfu hs4
      omega
    | succ fu11 ih11 =>
      intro i na s4 T11 lc11 H11 X11 e11 N11 K11 g11_0 g11_1 g11_2 g11_3 hi hle hfu hs4
      refine Goes.via (fun _ kk_ => XS.iloadN X11.here hx rfl (hb hby d1_25) rfl  kk_) ?_
      show Goes p e below _ (T11.setTop (mkF m 26 #[.val (.ref a), .val (.int us), .val (.int la), .val (.int i), s4] [(.int i)]))
      refine Goes.via (fun _ kk_ => XS.iloadN X11.here hx rfl (hb hby d1_26) rfl  kk_) ?_
      show Goes p e below _ (T11.setTop (mkF m 27 #[.val (.ref a), .val (.int us), .val (.int la), .val (.int i), s4] [(.int us), (.int i)]))
      by_cases hc27 : us < i
      · skip
        refine Goes.via (fun _ kk_ => XS.icmpYes X11.here hx rfl (pc0 := 27) (pc' := 98) rfl (hb hby d1_27) rfl (tlt hc27).2.2.1 (by decide) (by decide) kk_) ?_
        show Goes p e below _ (T11.setTop (mkF m 98 #[.val (.ref a), .val (.int us), .val (.int la), .val (.int i), s4] []))
        have hfull : na = n + 1 := by have := own_lti.mp hc27; omega
        subst hfull
        have Gx : Grd Z H11 b3 kA kB (n + 1) (mm + 1) own_C := g11_3.to (fun i j hi hj => own_in_4 (n + 1) i j hi)
        exact own_finV X11 hx hlk hret (hb hby d1_98) (by rw [e11]; exact ⟨b3, kA, kB, rfl, N11, K11, sz_b3, g11_0, g11_1, g11_2, Gx⟩) (by first | decide | omega | (dsimp only; omega)) (by first | decide | omega | (dsimp only; omega))
      · skip
        refine Goes.via (fun _ kk_ => XS.icmpNo X11.here hx rfl (hb hby d1_27) rfl (flt hc27).2.2.1 kk_) ?_
        show Goes p e below _ (T11.setTop (mkF m 30 #[.val (.ref a), .val (.int us), .val (.int la), .val (.int i), s4] []))
        have hna : na ≤ n := by have q : ¬ us.toInt < i.toInt := fun q => hc27 (own_lti.mpr q); omega
        refine Goes.via (fun _ kk_ => XS.aloadN X11.here hx rfl (hb hby d1_30) rfl rfl  kk_) ?_
        show Goes p e below _ (T11.setTop (mkF m 31 #[.val (.ref a), .val (.int us), .val (.int la), .val (.int i), s4] [(.ref a)]))
        obtain ⟨T15, X15, e15, st15⟩ := getF X11 hx hZ hown (host := "") (Or.inl (hw _ (List.mem_of_getElem? (i := 15) rfl))) Via.refl e11 g11_2 (g := (mkF m 31 #[.val (.ref a), .val (.int us), .val (.int la), .val (.int i), s4] [(.ref a)])) rfl rfl (hb hby d1_31)
        refine Goes.via st15 ?_
        show Goes p e below _ (T15.setTop (mkF m 34 #[.val (.ref a), .val (.int us), .val (.int la), .val (.int i), s4] [(.ref b3)]))
        refine Goes.via (fun _ kk_ => XS.iloadN X15.here hx rfl (hb hby d1_34) rfl  kk_) ?_
        show Goes p e below _ (T15.setTop (mkF m 35 #[.val (.ref a), .val (.int us), .val (.int la), .val (.int i), s4] [(.int i), (.ref b3)]))
        refine Goes.via (own_gaaload X15 hx hZ e15 g11_3 (i := na) hi (by omega) (g := (mkF m 35 #[.val (.ref a), .val (.int us), .val (.int la), .val (.int i), s4] [(.int i), (.ref b3)])) rfl rfl (hb hby d1_35)) ?_
        show Goes p e below _ (T15.setTop (mkF m 36 #[.val (.ref a), .val (.int us), .val (.int la), .val (.int i), s4] [(.ref (b3 + 1 + na))]))
        refine Goes.via (fun _ kk_ => XS.iconst X15.here hx rfl (hb hby d1_36) kk_) ?_
        show Goes p e below _ (T15.setTop (mkF m 37 #[.val (.ref a), .val (.int us), .val (.int la), .val (.int i), s4] [(.int (0 : Int32)), (.ref (b3 + 1 + na))]))
        refine Goes.via (fun _ kk_ => XS.lconst X15.here hx rfl (hb hby d1_37) kk_) ?_
        show Goes p e below _ (T15.setTop (mkF m 38 #[.val (.ref a), .val (.int us), .val (.int la), .val (.int i), s4] [(.long (1 : Int64)), (.int (0 : Int32)), (.ref (b3 + 1 + na))]))
        obtain ⟨T16, h16, X16, e16, W16, A16, st16⟩ := own_glastore X15 hx hZ e15 g11_3 (i := na) (j := 0) (by omega) (by decide) (by omega) (g := (mkF m 38 #[.val (.ref a), .val (.int us), .val (.int la), .val (.int i), s4] [(.long (1 : Int64)), (.int (0 : Int32)), (.ref (b3 + 1 + na))])) rfl rfl (hb hby d1_38)
        refine Goes.via st16 ?_
        have gr16 : n0 ≤ (b3 + 1 + na) := own_r1 _ gn_b3
        have sr16 : h0.size ≤ (b3 + 1 + na) := own_r1 _ sz_b3
        have nr16 : a ≠ (b3 + 1 + na) := own_r2 _ lne5
        have N16 := Fr.snoc X16 N11 gr16
        have G16 : Grd Z h16 b3 kA kB (n + 1) (mm + 1) (own_in_ na 1) := A16.to (fun i j hi hj => own_in_1 na i j)
        show Goes p e below _ (T16.setTop (mkF m 39 #[.val (.ref a), .val (.int us), .val (.int la), .val (.int i), s4] []))
        refine Goes.via (fun _ kk_ => XS.iconst X16.here hx rfl (hb hby d1_39) kk_) ?_
        show Goes p e below _ (T16.setTop (mkF m 40 #[.val (.ref a), .val (.int us), .val (.int la), .val (.int i), s4] [(.int (1 : Int32))]))
        refine Goes.via (fun _ kk_ => XS.istore X16.here hx rfl (hb hby d1_40) rfl (l' := #[.val (.ref a), .val (.int us), .val (.int la), .val (.int i), .val (.int (1 : Int32))]) (os_rm1_40_17 hs4) kk_) ?_
        show Goes p e below _ (T16.setTop (mkF m 42 #[.val (.ref a), .val (.int us), .val (.int la), .val (.int i), .val (.int (1 : Int32))] []))
        have f19 : Exa Z h16 a "com/example/checks_on_duty/checksonduty/engine/RankedSets" := (g11_0.wr W16)
        have f20 : Fld Z h16 a "com/example/checks_on_duty/checksonduty/engine/RankedSets" "users" "I" (.int us) := (g11_1.other W16 (Or.inl nr16))
        have f21 : Fld Z h16 a "com/example/checks_on_duty/checksonduty/engine/RankedSets" "binomial" "[[J" (.ref b3) := (g11_2.other W16 (Or.inl nr16))
        have K22 : Keep h0 h16 [a] := (K11.wr W16 (Or.inr sr16))
        have lp18 : ∀ (fu18 : Nat) (j : Int32) (nb : Nat) (T18 : State) (lc18 : List Loc) (H18 : Heap), (Stand p l e ({ frames := 1, cells := 66, slots := 400, locals := 40 } : Room) s m #[(.ref a), (.int us), (.int la)] below meth c T18 lc18 (0 + (1 + (n + 1))) (0 + ((n + 1) + (n + 1) * 5))) → (T18.heap = H18) → (Fr n0 lc18) → (Keep h0 H18 [a]) → (Exa Z H18 a "com/example/checks_on_duty/checksonduty/engine/RankedSets") → (Fld Z H18 a "com/example/checks_on_duty/checksonduty/engine/RankedSets" "users" "I" (.int us)) → (Fld Z H18 a "com/example/checks_on_duty/checksonduty/engine/RankedSets" "binomial" "[[J" (.ref b3)) → (Grd Z H18 b3 kA kB (n + 1) (mm + 1) (own_in_ na nb)) → (j.toInt = (nb : Int)) → (1 ≤ nb) → (nb ≤ mm + 1) → (mm + 2 ≤ nb + fu18) → Goes p e below (Fin_ s (Qrm1 Z a us la n mm h0 n0) ({ frames := 1, cells := 66, slots := 400, locals := 40 } : Room).cells ({ frames := 1, cells := 66, slots := 400, locals := 40 } : Room).slots) (T18.setTop (mkF m 42 #[.val (.ref a), .val (.int us), .val (.int la), .val (.int i), .val (.int j)] [])) := by
          intro fu18
          induction fu18 with
          | zero =>
            intro j nb T18 lc18 H18 X18 e18 N18 K18 g18_0 g18_1 g18_2 g18_3 hj hb1 hb2 hfv
            omega
          | succ fu18 ih18 =>
            intro j nb T18 lc18 H18 X18 e18 N18 K18 g18_0 g18_1 g18_2 g18_3 hj hb1 hb2 hfv
            refine Goes.via (fun _ kk_ => XS.iload X18.here hx rfl (hb hby d1_42) rfl  kk_) ?_
            show Goes p e below _ (T18.setTop (mkF m 44 #[.val (.ref a), .val (.int us), .val (.int la), .val (.int i), .val (.int j)] [(.int j)]))
            refine Goes.via (fun _ kk_ => XS.iloadN X18.here hx rfl (hb hby d1_44) rfl  kk_) ?_
            show Goes p e below _ (T18.setTop (mkF m 45 #[.val (.ref a), .val (.int us), .val (.int la), .val (.int i), .val (.int j)] [(.int i), (.int j)]))
            refine Goes.via (fun _ kk_ => XS.iloadN X18.here hx rfl (hb hby d1_45) rfl  kk_) ?_
            show Goes p e below _ (T18.setTop (mkF m 46 #[.val (.ref a), .val (.int us), .val (.int la), .val (.int i), .val (.int j)] [(.int la), (.int i), (.int j)]))
            obtain ⟨_, _, ⟨T23, L23, k23, n23⟩, -, X23, ⟨Lc23, hQ23, l23, y23, z23⟩, st23⟩ := Jvm.LawKit.callS X18 hx (y := (⟨"java/lang/Math", "min", "(II)I"⟩ : MethodName)) hown (mvT hZ (hw _ (List.mem_of_getElem? (i := 17) rfl))) (mvT hZ (hw _ (List.mem_of_getElem? (i := 18) rfl))) (mvT hZ (hw _ (List.mem_of_getElem? (i := 19) rfl))) (mvT hZ (hw _ (List.mem_of_getElem? (i := 20) rfl))) (by decide) (backOf (W := 1) (rm3 l Z a0 hw [] i la H18 n0 (Nat.le_trans Z0 K18.1) ) hZ (hw _ (List.mem_of_getElem? (i := 20) rfl)) (hw _ (List.mem_of_getElem? (i := 19) rfl)) (by decide) (by decide)) (g := (mkF m 46 #[.val (.ref a), .val (.int us), .val (.int la), .val (.int i), .val (.int j)] [(.int la), (.int i), (.int j)])) rfl (by rw [hml]; rfl) (argsL := [(.int i), (.int la)]) (rest := [(.int j)]) (lenOf pd_0 rfl) rfl (by show 2 * 0 + _ ≤ _; exact Nat.le_of_eq rfl) (hb hby d1_46) (fun _ _ => ⟨rfl, e18, (by first | decide | omega | (dsimp only; omega) : (0 + (1 + (n + 1))) + 0 ≤ _), (by first | decide | omega | (dsimp only; omega) : (0 + ((n + 1) + (n + 1) * 5)) + 0 ≤ _)⟩)
            dsimp only [Pt.U, Pt.locs, Pt.cells, Pt.slots] at X23 l23 y23 z23 st23 hQ23
            subst l23 y23 z23
            obtain ⟨rfl, N23q, e23⟩ := hQ23
            have N23 := Fr.app N18 N23q
            refine Goes.via st23 ?_
            have e23' : T23.heap = H18 := e23
            show Goes p e below _ (T23.setTop (mkF m 49 #[.val (.ref a), .val (.int us), .val (.int la), .val (.int i), .val (.int j)] [(.int (if la < i then la else i)), (.int j)]))
            by_cases hc49 : (if la < i then la else i) < j
            · skip
              refine Goes.via (fun _ kk_ => XS.icmpYes X23.here hx rfl (pc0 := 49) (pc' := 92) rfl (hb hby d1_49) rfl (tlt hc49).2.2.1 (by decide) (by decide) kk_) ?_
              show Goes p e below _ (T23.setTop (mkF m 92 #[.val (.ref a), .val (.int us), .val (.int la), .val (.int i), .val (.int j)] []))
              have hmb : min (na : Int) (mm : Int) < (nb : Int) := by have q := own_lti.mp hc49; rw [own_min, hi, Hm, hj] at q; exact q
              have Gx : Grd Z H18 b3 kA kB (n + 1) (mm + 1) (own_in_ (na + 1) 0) := g18_3.to (fun i j hi hj => own_in_3 na nb mm i j (by omega) hj)
              refine Goes.via (fun _ kk_ => XS.iinc X23.here hx rfl (hb hby d1_92) rfl (l' := #[.val (.ref a), .val (.int us), .val (.int la), .val (.int (i + (1 : Int32))), .val (.int j)]) rfl kk_) ?_
              show Goes p e below _ (T23.setTop (mkF m 95 #[.val (.ref a), .val (.int us), .val (.int la), .val (.int (i + (1 : Int32))), .val (.int j)] []))
              refine Goes.via (fun _ kk_ => XS.goto X23.here hx rfl (pc0 := 95) (pc' := 25) rfl (hb hby d1_95) (by decide) (by decide) kk_) ?_
              show Goes p e below _ (T23.setTop (mkF m 25 #[.val (.ref a), .val (.int us), .val (.int la), .val (.int (i + (1 : Int32))), .val (.int j)] []))
              exact ih11 ((i + (1 : Int32))) (na + 1) (.val (.int j)) _ _ _ X23 e23' N23 K18 g18_0 g18_1 g18_2 Gx (own_s1 hi (by omega)) (by omega) (by omega) (One.val rfl)
            · skip
              refine Goes.via (fun _ kk_ => XS.icmpNo X23.here hx rfl (hb hby d1_49) rfl (flt hc49).2.2.1 kk_) ?_
              show Goes p e below _ (T23.setTop (mkF m 52 #[.val (.ref a), .val (.int us), .val (.int la), .val (.int i), .val (.int j)] []))
              have hmb : ¬ min (na : Int) (mm : Int) < (nb : Int) := by have q : ¬ _ := fun q => hc49 (own_lti.mpr q); rw [own_min, hi, Hm, hj] at q; exact q
              refine Goes.via (fun _ kk_ => XS.aloadN X23.here hx rfl (hb hby d1_52) rfl rfl  kk_) ?_
              show Goes p e below _ (T23.setTop (mkF m 53 #[.val (.ref a), .val (.int us), .val (.int la), .val (.int i), .val (.int j)] [(.ref a)]))
              obtain ⟨T24, X24, e24, st24⟩ := getF X23 hx hZ hown (host := "") (Or.inl (hw _ (List.mem_of_getElem? (i := 15) rfl))) Via.refl e23' g18_2 (g := (mkF m 53 #[.val (.ref a), .val (.int us), .val (.int la), .val (.int i), .val (.int j)] [(.ref a)])) rfl rfl (hb hby d1_53)
              refine Goes.via st24 ?_
              show Goes p e below _ (T24.setTop (mkF m 56 #[.val (.ref a), .val (.int us), .val (.int la), .val (.int i), .val (.int j)] [(.ref b3)]))
              refine Goes.via (fun _ kk_ => XS.iloadN X24.here hx rfl (hb hby d1_56) rfl  kk_) ?_
              show Goes p e below _ (T24.setTop (mkF m 57 #[.val (.ref a), .val (.int us), .val (.int la), .val (.int i), .val (.int j)] [(.int i), (.ref b3)]))
              refine Goes.via (own_gaaload X24 hx hZ e24 g18_3 (i := na) hi (by omega) (g := (mkF m 57 #[.val (.ref a), .val (.int us), .val (.int la), .val (.int i), .val (.int j)] [(.int i), (.ref b3)])) rfl rfl (hb hby d1_57)) ?_
              show Goes p e below _ (T24.setTop (mkF m 58 #[.val (.ref a), .val (.int us), .val (.int la), .val (.int i), .val (.int j)] [(.ref (b3 + 1 + na))]))
              refine Goes.via (fun _ kk_ => XS.iload X24.here hx rfl (hb hby d1_58) rfl  kk_) ?_
              show Goes p e below _ (T24.setTop (mkF m 60 #[.val (.ref a), .val (.int us), .val (.int la), .val (.int i), .val (.int j)] [(.int j), (.ref (b3 + 1 + na))]))
              refine Goes.via (fun _ kk_ => XS.aloadN X24.here hx rfl (hb hby d1_60) rfl rfl  kk_) ?_
              show Goes p e below _ (T24.setTop (mkF m 61 #[.val (.ref a), .val (.int us), .val (.int la), .val (.int i), .val (.int j)] [(.ref a), (.int j), (.ref (b3 + 1 + na))]))
              obtain ⟨T25, X25, e25, st25⟩ := getF X24 hx hZ hown (host := "") (Or.inl (hw _ (List.mem_of_getElem? (i := 15) rfl))) Via.refl e24 g18_2 (g := (mkF m 61 #[.val (.ref a), .val (.int us), .val (.int la), .val (.int i), .val (.int j)] [(.ref a), (.int j), (.ref (b3 + 1 + na))])) rfl rfl (hb hby d1_61)
              refine Goes.via st25 ?_
              show Goes p e below _ (T25.setTop (mkF m 64 #[.val (.ref a), .val (.int us), .val (.int la), .val (.int i), .val (.int j)] [(.ref b3), (.int j), (.ref (b3 + 1 + na))]))
              refine Goes.via (fun _ kk_ => XS.iloadN X25.here hx rfl (hb hby d1_64) rfl  kk_) ?_
              show Goes p e below _ (T25.setTop (mkF m 65 #[.val (.ref a), .val (.int us), .val (.int la), .val (.int i), .val (.int j)] [(.int i), (.ref b3), (.int j), (.ref (b3 + 1 + na))]))
              refine Goes.via (fun _ kk_ => XS.iconst X25.here hx rfl (hb hby d1_65) kk_) ?_
              show Goes p e below _ (T25.setTop (mkF m 66 #[.val (.ref a), .val (.int us), .val (.int la), .val (.int i), .val (.int j)] [(.int (1 : Int32)), (.int i), (.ref b3), (.int j), (.ref (b3 + 1 + na))]))
              refine Goes.via (fun _ kk_ => XS.isub X25.here hx rfl (hb hby d1_66) rfl kk_) ?_
              show Goes p e below _ (T25.setTop (mkF m 67 #[.val (.ref a), .val (.int us), .val (.int la), .val (.int i), .val (.int j)] [(.int (i - (1 : Int32))), (.ref b3), (.int j), (.ref (b3 + 1 + na))]))
              refine Goes.via (own_gaaload X25 hx hZ e25 g18_3 (i := (na - 1)) (own_d1 hi (by omega)) (by omega) (g := (mkF m 67 #[.val (.ref a), .val (.int us), .val (.int la), .val (.int i), .val (.int j)] [(.int (i - (1 : Int32))), (.ref b3), (.int j), (.ref (b3 + 1 + na))])) rfl rfl (hb hby d1_67)) ?_
              show Goes p e below _ (T25.setTop (mkF m 68 #[.val (.ref a), .val (.int us), .val (.int la), .val (.int i), .val (.int j)] [(.ref (b3 + 1 + (na - 1))), (.int j), (.ref (b3 + 1 + na))]))
              refine Goes.via (fun _ kk_ => XS.iload X25.here hx rfl (hb hby d1_68) rfl  kk_) ?_
              show Goes p e below _ (T25.setTop (mkF m 70 #[.val (.ref a), .val (.int us), .val (.int la), .val (.int i), .val (.int j)] [(.int j), (.ref (b3 + 1 + (na - 1))), (.int j), (.ref (b3 + 1 + na))]))
              refine Goes.via (fun _ kk_ => XS.iconst X25.here hx rfl (hb hby d1_70) kk_) ?_
              show Goes p e below _ (T25.setTop (mkF m 71 #[.val (.ref a), .val (.int us), .val (.int la), .val (.int i), .val (.int j)] [(.int (1 : Int32)), (.int j), (.ref (b3 + 1 + (na - 1))), (.int j), (.ref (b3 + 1 + na))]))
              refine Goes.via (fun _ kk_ => XS.isub X25.here hx rfl (hb hby d1_71) rfl kk_) ?_
              show Goes p e below _ (T25.setTop (mkF m 72 #[.val (.ref a), .val (.int us), .val (.int la), .val (.int i), .val (.int j)] [(.int (j - (1 : Int32))), (.ref (b3 + 1 + (na - 1))), (.int j), (.ref (b3 + 1 + na))]))
              refine Goes.via (own_glaload X25 hx hZ e25 g18_3 (i := (na - 1)) (j := (nb - 1)) (by omega) (own_d1 hj (by omega)) (by omega) (g := (mkF m 72 #[.val (.ref a), .val (.int us), .val (.int la), .val (.int i), .val (.int j)] [(.int (j - (1 : Int32))), (.ref (b3 + 1 + (na - 1))), (.int j), (.ref (b3 + 1 + na))])) rfl rfl (hb hby d1_72)) ?_
              show Goes p e below _ (T25.setTop (mkF m 73 #[.val (.ref a), .val (.int us), .val (.int la), .val (.int i), .val (.int j)] [(.long ((own_in_ na nb) (na - 1) (nb - 1))), (.int j), (.ref (b3 + 1 + na))]))
              refine Goes.via (fun _ kk_ => XS.aloadN X25.here hx rfl (hb hby d1_73) rfl rfl  kk_) ?_
              show Goes p e below _ (T25.setTop (mkF m 74 #[.val (.ref a), .val (.int us), .val (.int la), .val (.int i), .val (.int j)] [(.ref a), (.long ((own_in_ na nb) (na - 1) (nb - 1))), (.int j), (.ref (b3 + 1 + na))]))
              obtain ⟨T26, X26, e26, st26⟩ := getF X25 hx hZ hown (host := "") (Or.inl (hw _ (List.mem_of_getElem? (i := 15) rfl))) Via.refl e25 g18_2 (g := (mkF m 74 #[.val (.ref a), .val (.int us), .val (.int la), .val (.int i), .val (.int j)] [(.ref a), (.long ((own_in_ na nb) (na - 1) (nb - 1))), (.int j), (.ref (b3 + 1 + na))])) rfl rfl (hb hby d1_74)
              refine Goes.via st26 ?_
              show Goes p e below _ (T26.setTop (mkF m 77 #[.val (.ref a), .val (.int us), .val (.int la), .val (.int i), .val (.int j)] [(.ref b3), (.long ((own_in_ na nb) (na - 1) (nb - 1))), (.int j), (.ref (b3 + 1 + na))]))
              refine Goes.via (fun _ kk_ => XS.iloadN X26.here hx rfl (hb hby d1_77) rfl  kk_) ?_
              show Goes p e below _ (T26.setTop (mkF m 78 #[.val (.ref a), .val (.int us), .val (.int la), .val (.int i), .val (.int j)] [(.int i), (.ref b3), (.long ((own_in_ na nb) (na - 1) (nb - 1))), (.int j), (.ref (b3 + 1 + na))]))
              refine Goes.via (fun _ kk_ => XS.iconst X26.here hx rfl (hb hby d1_78) kk_) ?_
              show Goes p e below _ (T26.setTop (mkF m 79 #[.val (.ref a), .val (.int us), .val (.int la), .val (.int i), .val (.int j)] [(.int (1 : Int32)), (.int i), (.ref b3), (.long ((own_in_ na nb) (na - 1) (nb - 1))), (.int j), (.ref (b3 + 1 + na))]))
              refine Goes.via (fun _ kk_ => XS.isub X26.here hx rfl (hb hby d1_79) rfl kk_) ?_
              show Goes p e below _ (T26.setTop (mkF m 80 #[.val (.ref a), .val (.int us), .val (.int la), .val (.int i), .val (.int j)] [(.int (i - (1 : Int32))), (.ref b3), (.long ((own_in_ na nb) (na - 1) (nb - 1))), (.int j), (.ref (b3 + 1 + na))]))
              refine Goes.via (own_gaaload X26 hx hZ e26 g18_3 (i := (na - 1)) (own_d1 hi (by omega)) (by omega) (g := (mkF m 80 #[.val (.ref a), .val (.int us), .val (.int la), .val (.int i), .val (.int j)] [(.int (i - (1 : Int32))), (.ref b3), (.long ((own_in_ na nb) (na - 1) (nb - 1))), (.int j), (.ref (b3 + 1 + na))])) rfl rfl (hb hby d1_80)) ?_
              show Goes p e below _ (T26.setTop (mkF m 81 #[.val (.ref a), .val (.int us), .val (.int la), .val (.int i), .val (.int j)] [(.ref (b3 + 1 + (na - 1))), (.long ((own_in_ na nb) (na - 1) (nb - 1))), (.int j), (.ref (b3 + 1 + na))]))
              refine Goes.via (fun _ kk_ => XS.iload X26.here hx rfl (hb hby d1_81) rfl  kk_) ?_
              show Goes p e below _ (T26.setTop (mkF m 83 #[.val (.ref a), .val (.int us), .val (.int la), .val (.int i), .val (.int j)] [(.int j), (.ref (b3 + 1 + (na - 1))), (.long ((own_in_ na nb) (na - 1) (nb - 1))), (.int j), (.ref (b3 + 1 + na))]))
              refine Goes.via (own_glaload X26 hx hZ e26 g18_3 (i := (na - 1)) (j := nb) (by omega) hj (by omega) (g := (mkF m 83 #[.val (.ref a), .val (.int us), .val (.int la), .val (.int i), .val (.int j)] [(.int j), (.ref (b3 + 1 + (na - 1))), (.long ((own_in_ na nb) (na - 1) (nb - 1))), (.int j), (.ref (b3 + 1 + na))])) rfl rfl (hb hby d1_83)) ?_
              show Goes p e below _ (T26.setTop (mkF m 84 #[.val (.ref a), .val (.int us), .val (.int la), .val (.int i), .val (.int j)] [(.long ((own_in_ na nb) (na - 1) nb)), (.long ((own_in_ na nb) (na - 1) (nb - 1))), (.int j), (.ref (b3 + 1 + na))]))
              refine Goes.via (fun _ kk_ => XS.ladd X26.here hx rfl (hb hby d1_84) rfl kk_) ?_
              show Goes p e below _ (T26.setTop (mkF m 85 #[.val (.ref a), .val (.int us), .val (.int la), .val (.int i), .val (.int j)] [(.long (((own_in_ na nb) (na - 1) (nb - 1)) + ((own_in_ na nb) (na - 1) nb))), (.int j), (.ref (b3 + 1 + na))]))
              obtain ⟨T27, h27, X27, e27, W27, A27, st27⟩ := own_glastore X26 hx hZ e26 g18_3 (i := na) (j := nb) (by omega) hj (by omega) (g := (mkF m 85 #[.val (.ref a), .val (.int us), .val (.int la), .val (.int i), .val (.int j)] [(.long (((own_in_ na nb) (na - 1) (nb - 1)) + ((own_in_ na nb) (na - 1) nb))), (.int j), (.ref (b3 + 1 + na))])) rfl rfl (hb hby d1_85)
              refine Goes.via st27 ?_
              have gr27 : n0 ≤ (b3 + 1 + na) := own_r1 _ gn_b3
              have sr27 : h0.size ≤ (b3 + 1 + na) := own_r1 _ sz_b3
              have nr27 : a ≠ (b3 + 1 + na) := own_r2 _ lne5
              have N27 := Fr.snoc X27 N23 gr27
              have G27 : Grd Z h27 b3 kA kB (n + 1) (mm + 1) (own_in_ na (nb + 1)) := A27.to (fun i j hi hj => own_in_2 na nb i j (by omega) (by omega))
              show Goes p e below _ (T27.setTop (mkF m 86 #[.val (.ref a), .val (.int us), .val (.int la), .val (.int i), .val (.int j)] []))
              refine Goes.via (fun _ kk_ => XS.iinc X27.here hx rfl (hb hby d1_86) rfl (l' := #[.val (.ref a), .val (.int us), .val (.int la), .val (.int i), .val (.int (j + (1 : Int32)))]) rfl kk_) ?_
              show Goes p e below _ (T27.setTop (mkF m 89 #[.val (.ref a), .val (.int us), .val (.int la), .val (.int i), .val (.int (j + (1 : Int32)))] []))
              refine Goes.via (fun _ kk_ => XS.goto X27.here hx rfl (pc0 := 89) (pc' := 42) rfl (hb hby d1_89) (by decide) (by decide) kk_) ?_
              show Goes p e below _ (T27.setTop (mkF m 42 #[.val (.ref a), .val (.int us), .val (.int la), .val (.int i), .val (.int (j + (1 : Int32)))] []))
              have f28 : Exa Z h27 a "com/example/checks_on_duty/checksonduty/engine/RankedSets" := (g18_0.wr W27)
              have f29 : Fld Z h27 a "com/example/checks_on_duty/checksonduty/engine/RankedSets" "users" "I" (.int us) := (g18_1.other W27 (Or.inl nr27))
              have f30 : Fld Z h27 a "com/example/checks_on_duty/checksonduty/engine/RankedSets" "binomial" "[[J" (.ref b3) := (g18_2.other W27 (Or.inl nr27))
              have K31 : Keep h0 h27 [a] := (K18.wr W27 (Or.inr sr27))
              exact ih18 ((j + (1 : Int32))) (nb + 1) _ _ _ X27 e27 N27 K31 f28 f29 f30 G27 (own_s1 hj (by omega)) (by omega) (by omega) (by omega)
        exact lp18 (mm + 2) ((1 : Int32)) (1) _ _ _ X16 e16 N16 K22 f19 f20 f21 G16 (by decide) (by omega) (by omega) (by omega)
  exact lp11 (n + 2) ((0 : Int32)) (0) (.unset) _ _ _ X9 e9 N9 K14 f12 f13 Fw9 G0 (by decide) (by omega) (by omega) One.u
theorem ef_rm4 (m : MethodId) (a : Addr) : entryFrame m #[(.ref a)] 1 = mkF m 0 #[.val (.ref a)] [] := by first | (simp [entryFrame, mkF, argsToLocals, Value.category]; done) | rfl
def Qrm4 (Z : State) (a : Addr) (us : Int32) (h0 : Heap) (n0 : Nat) (v_ : Option Value) (h_ : Heap) (L_ : List Loc) : Prop := v_ = some (.long (own_A us)) ∧ Fr n0 L_ ∧ h_ = h0
theorem d4_0 : decode prog_44_method_5_code 0 = .ok (.aload_n 0, 1) := by decide +kernel
theorem d4_1 : decode prog_44_method_5_code 1 = .ok (.getfield 7, 3) := by decide +kernel
theorem d4_4 : decode prog_44_method_5_code 4 = .ok (.bipush 64, 2) := by decide +kernel
theorem d4_6 : decode prog_44_method_5_code 6 = .ok (.if_icmp .ne 9, 3) := by decide +kernel
theorem d4_9 : decode prog_44_method_5_code 9 = .ok (.ldc2_w 29, 3) := by decide +kernel
theorem d4_12 : decode prog_44_method_5_code 12 = .ok (.goto 11, 3) := by decide +kernel
theorem d4_23 : decode prog_44_method_5_code 23 = .ok (.lreturn, 1) := by decide +kernel
theorem d4_15 : decode prog_44_method_5_code 15 = .ok (.lconst 1, 1) := by decide +kernel
theorem d4_16 : decode prog_44_method_5_code 16 = .ok (.aload_n 0, 1) := by decide +kernel
theorem d4_17 : decode prog_44_method_5_code 17 = .ok (.getfield 7, 3) := by decide +kernel
theorem d4_20 : decode prog_44_method_5_code 20 = .ok (.lshl, 1) := by decide +kernel
theorem d4_21 : decode prog_44_method_5_code 21 = .ok (.lconst 1, 1) := by decide +kernel
theorem d4_22 : decode prog_44_method_5_code 22 = .ok (.lsub, 1) := by decide +kernel
set_option maxRecDepth 65536 in
set_option maxHeartbeats 40000000 in
theorem rm4 (l : Launch) (Z : State) (a0 : Array Value) (hw : ∀ d ∈ tables_1, d.before a0 Z = true) (ws : List Jvm.Cond) (a : Addr) (us : Int32) (h0 : Heap) (n0 : Nat) (Z0 : n0 ≤ h0.size) (F0_a_users : Fld Z h0 a "com/example/checks_on_duty/checksonduty/engine/RankedSets" "users" "I" (.int us)) :
    MetFree l (⟨"com/example/checks_on_duty/checksonduty/engine/RankedSets", "all", "()J"⟩ : MethodName) (head1 (Jvm.Cond.code (⟨"com/example/checks_on_duty/checksonduty/engine/RankedSets", "all", "()J"⟩ : MethodName) prog_44_method_5_code 1 (some .long) :: ws) ({ frames := 0, cells := 0, slots := 0, locals := 0 } : Room)) (fun as_ U_ => as_ = #[(.ref a)] ∧ Z.Warmed39 U_.vm ∧ U_.heap = h0) (fun _ _ _ _ _ => True) (fun _ U_ o_ V_ => ∃ v_ L_, o_ = .returned v_ ∧ Qrm4 Z a us h0 n0 v_ V_.heap L_ ∧ FrameEnd U_ o_ V_ L_ ({ frames := 0, cells := 0, slots := 0, locals := 0 } : Room).cells ({ frames := 0, cells := 0, slots := 0, locals := 0 } : Room).slots) := by
  refine MetFree.of_bodySF (plainFor_of_name pn_com_example_checks_on_duty_checksonduty_engine_RankedSets) hisR ?_
  intro p e s m args below meth c s₁ Bd hml0 hP hK
  obtain ⟨rfl, hZ, hh⟩ := hP
  have hx := Bd.exec
  have hby := Bd.bytes
  have hlk : meth.locks = false := BodyLoose.notSynchronized Bd
  have hret := Bd.returns
  have hml : c.maxLocals = 1 := hml0
  have hown : s.vm.findClass "com/example/checks_on_duty/checksonduty/engine/RankedSets" = some m.cls := findClass_of_methodNamed Bd.named
  have hnm := (name_of_methodNamed Bd.named Bd.method).1
  have X0 : Stand p l e ({ frames := 0, cells := 0, slots := 0, locals := 0 } : Room) s m #[(.ref a)] below meth c s₁ [] 0 0 := Stand.of_body Bd
  have e0 : s₁.heap = h0 := by rw [← hh, Bd.state]; rfl
  have N0 := Fr.nil n0
  show Goes p e below (Fin_ s (Qrm4 Z a us h0 n0) ({ frames := 0, cells := 0, slots := 0, locals := 0 } : Room).cells ({ frames := 0, cells := 0, slots := 0, locals := 0 } : Room).slots) (s₁.setTop (entryFrame m #[(.ref a)] 1))
  rw [ef_rm4 m a]
  refine Goes.via (fun _ kk_ => XS.aloadN X0.here hx rfl (hb hby d4_0) rfl rfl  kk_) ?_
  show Goes p e below _ (s₁.setTop (mkF m 1 #[.val (.ref a)] [(.ref a)]))
  obtain ⟨T1, X1, e1, st1⟩ := getF X0 hx hZ hown (host := "") (Or.inl (hw _ (List.mem_of_getElem? (i := 10) rfl))) Via.refl e0 F0_a_users (g := (mkF m 1 #[.val (.ref a)] [(.ref a)])) rfl rfl (hb hby d4_1)
  refine Goes.via st1 ?_
  show Goes p e below _ (T1.setTop (mkF m 4 #[.val (.ref a)] [(.int us)]))
  refine Goes.via (fun _ kk_ => XS.bipush X1.here hx rfl (hb hby d4_4) kk_) ?_
  show Goes p e below _ (T1.setTop (mkF m 6 #[.val (.ref a)] [(.int (64 : Int32)), (.int us)]))
  by_cases hc6 : us = (64 : Int32)
  · skip
    refine Goes.via (fun _ kk_ => XS.icmpNo X1.here hx rfl (hb hby d4_6) rfl (teq hc6).2 kk_) ?_
    show Goes p e below _ (T1.setTop (mkF m 9 #[.val (.ref a)] []))
    refine Goes.via (X1.ldc2Long hx hown (mvT hZ (hw _ (List.mem_of_getElem? (i := 26) rfl))) (g := (mkF m 9 #[.val (.ref a)] [])) rfl (hb hby d4_9)) ?_
    show Goes p e below _ (T1.setTop (mkF m 12 #[.val (.ref a)] [(.long (-1 : Int64))]))
    refine Goes.via (fun _ kk_ => XS.goto X1.here hx rfl (pc0 := 12) (pc' := 23) rfl (hb hby d4_12) (by decide) (by decide) kk_) ?_
    show Goes p e below _ (T1.setTop (mkF m 23 #[.val (.ref a)] [(.long (-1 : Int64))]))
    exact own_finJ X1 hx hlk hret (hb hby d4_23) (by rw [e1]; exact ⟨(by rw [own_A, if_pos hc6]), N0, rfl⟩) (by first | decide | omega | (dsimp only; omega)) (by first | decide | omega | (dsimp only; omega))
  · skip
    refine Goes.via (fun _ kk_ => XS.icmpYes X1.here hx rfl (pc0 := 6) (pc' := 15) rfl (hb hby d4_6) rfl (feq hc6).2 (by decide) (by decide) kk_) ?_
    show Goes p e below _ (T1.setTop (mkF m 15 #[.val (.ref a)] []))
    refine Goes.via (fun _ kk_ => XS.lconst X1.here hx rfl (hb hby d4_15) kk_) ?_
    show Goes p e below _ (T1.setTop (mkF m 16 #[.val (.ref a)] [(.long (1 : Int64))]))
    refine Goes.via (fun _ kk_ => XS.aloadN X1.here hx rfl (hb hby d4_16) rfl rfl  kk_) ?_
    show Goes p e below _ (T1.setTop (mkF m 17 #[.val (.ref a)] [(.ref a), (.long (1 : Int64))]))
    obtain ⟨T2, X2, e2, st2⟩ := getF X1 hx hZ hown (host := "") (Or.inl (hw _ (List.mem_of_getElem? (i := 10) rfl))) Via.refl e1 F0_a_users (g := (mkF m 17 #[.val (.ref a)] [(.ref a), (.long (1 : Int64))])) rfl rfl (hb hby d4_17)
    refine Goes.via st2 ?_
    show Goes p e below _ (T2.setTop (mkF m 20 #[.val (.ref a)] [(.int us), (.long (1 : Int64))]))
    refine Goes.via (fun _ kk_ => XS.lshl X2.here hx rfl (hb hby d4_20) rfl kk_) ?_
    show Goes p e below _ (T2.setTop (mkF m 21 #[.val (.ref a)] [(.long ((1 : Int64) <<< (us &&& 0x3f).toInt64))]))
    refine Goes.via (fun _ kk_ => XS.lconst X2.here hx rfl (hb hby d4_21) kk_) ?_
    show Goes p e below _ (T2.setTop (mkF m 22 #[.val (.ref a)] [(.long (1 : Int64)), (.long ((1 : Int64) <<< (us &&& 0x3f).toInt64))]))
    refine Goes.via (fun _ kk_ => XS.lsub X2.here hx rfl (hb hby d4_22) rfl kk_) ?_
    show Goes p e below _ (T2.setTop (mkF m 23 #[.val (.ref a)] [(.long (((1 : Int64) <<< (us &&& 0x3f).toInt64) - (1 : Int64)))]))
    exact own_finJ X2 hx hlk hret (hb hby d4_23) (by rw [e2]; exact ⟨(by rw [own_A, if_neg hc6]), N0, rfl⟩) (by first | decide | omega | (dsimp only; omega)) (by first | decide | omega | (dsimp only; omega))
theorem ef_rm0 (m : MethodId) (x1 : Int32) (x2 : Int32) (x3 : Int32) : entryFrame m #[(.int x1), (.int x2), (.int x3)] maxLocals = mkF m 0 #[.val (.int x1), .val (.int x2), .val (.int x3), .unset, .unset, .unset, .unset, .unset, .unset, .unset] [] := by first | (simp [entryFrame, mkF, argsToLocals, Value.category, maxLocals]; done) | rfl
def Qrm0 (Z : State) (x1 : Int32) (x2 : Int32) (x3 : Int32) (h0 : Heap) (n0 : Nat) (v_ : Option Value) (h_ : Heap) (L_ : List Loc) : Prop := v_ = some (.int (1 : Int32)) ∧ Fr n0 L_ ∧ Keep h0 h_ []
theorem pn_com_example_checks_on_duty_checksonduty_engine_RankedSetsAllPinLaw : plainName "com/example/checks_on_duty/checksonduty/engine/RankedSetsAllPinLaw" = true := by first | (simp [plainName, overriddenIn]; done) | decide +kernel
theorem pd_1 : parseMethodDescriptor "(II)V" = some ⟨[.int, .int], none⟩ := by decide +kernel
theorem pd_2 : parseMethodDescriptor "()J" = some ⟨[], some .long⟩ := by decide +kernel
set_option maxRecDepth 65536 in
set_option maxHeartbeats 40000000 in
theorem rm0 (l : Launch) (Z : State) (a0 : Array Value) (hw : ∀ d ∈ tables_1, d.before a0 Z = true) (ws : List Jvm.Cond) (x1 : Int32) (x2 : Int32) (x3 : Int32) (h0 : Heap) (n0 : Nat) (Z0 : n0 ≤ h0.size) :
    MetFree l x (head1 (Jvm.Cond.code x code maxLocals ret :: ws) room_1) (fun as_ U_ => as_ = #[(.int x1), (.int x2), (.int x3)] ∧ Z.Warmed39 U_.vm ∧ U_.heap = h0) (fun _ _ _ _ _ => True) (fun _ U_ o_ V_ => ∃ v_ L_, o_ = .returned v_ ∧ Qrm0 Z x1 x2 x3 h0 n0 v_ V_.heap L_ ∧ FrameEnd U_ o_ V_ L_ room_1.cells room_1.slots) := by
  refine MetFree.of_bodySF (plainFor_of_name pn_com_example_checks_on_duty_checksonduty_engine_RankedSetsAllPinLaw) hisR ?_
  intro p e s m args below meth c s₁ Bd hml0 hP hK
  obtain ⟨rfl, hZ, hh⟩ := hP
  have hx := Bd.exec
  have hby := Bd.bytes
  have hlk : meth.locks = false := BodyLoose.notSynchronized Bd
  have hret := Bd.returns
  have hml : c.maxLocals = 10 := hml0
  have hown : s.vm.findClass "com/example/checks_on_duty/checksonduty/engine/RankedSetsAllPinLaw" = some m.cls := findClass_of_methodNamed Bd.named
  have hnm := (name_of_methodNamed Bd.named Bd.method).1
  have X0 : Stand p l e room_1 s m #[(.int x1), (.int x2), (.int x3)] below meth c s₁ [] 0 0 := Stand.of_body Bd
  have e0 : s₁.heap = h0 := by rw [← hh, Bd.state]; rfl
  have N0 := Fr.nil n0
  show Goes p e below (Fin_ s (Qrm0 Z x1 x2 x3 h0 n0) room_1.cells room_1.slots) (s₁.setTop (entryFrame m #[(.int x1), (.int x2), (.int x3)] maxLocals))
  rw [ef_rm0 m x1 x2 x3]
  refine Goes.via (fun _ kk_ => XS.iloadN X0.here hx rfl (hb hby at_0) rfl  kk_) ?_
  show Goes p e below _ (s₁.setTop (mkF m 1 #[.val (.int x1), .val (.int x2), .val (.int x3), .unset, .unset, .unset, .unset, .unset, .unset, .unset] [(.int x1)]))
  refine Goes.via (X0.ldcInt hx hown (mvT hZ (hw _ (List.mem_of_getElem? (i := 0) rfl))) (g := (mkF m 1 #[.val (.int x1), .val (.int x2), .val (.int x3), .unset, .unset, .unset, .unset, .unset, .unset, .unset] [(.int x1)])) rfl (hb hby at_1)) ?_
  show Goes p e below _ (s₁.setTop (mkF m 3 #[.val (.int x1), .val (.int x2), .val (.int x3), .unset, .unset, .unset, .unset, .unset, .unset, .unset] [(.int (2147483647 : Int32)), (.int x1)]))
  refine Goes.via (fun _ kk_ => XS.iand X0.here hx rfl (hb hby at_3) rfl kk_) ?_
  show Goes p e below _ (s₁.setTop (mkF m 4 #[.val (.int x1), .val (.int x2), .val (.int x3), .unset, .unset, .unset, .unset, .unset, .unset, .unset] [(.int (x1 &&& (2147483647 : Int32)))]))
  refine Goes.via (fun _ kk_ => XS.bipush X0.here hx rfl (hb hby at_4) kk_) ?_
  show Goes p e below _ (s₁.setTop (mkF m 6 #[.val (.int x1), .val (.int x2), .val (.int x3), .unset, .unset, .unset, .unset, .unset, .unset, .unset] [(.int (65 : Int32)), (.int (x1 &&& (2147483647 : Int32)))]))
  refine Goes.via (fun _ kk_ => iremM X0 hx rfl (hb hby at_6) rfl (by decide) kk_) ?_
  show Goes p e below _ (s₁.setTop (mkF m 7 #[.val (.int x1), .val (.int x2), .val (.int x3), .unset, .unset, .unset, .unset, .unset, .unset, .unset] [(.int ((x1 &&& (2147483647 : Int32)) % (65 : Int32)))]))
  refine Goes.via (fun _ kk_ => XS.istoreN X0.here hx rfl (hb hby at_7) rfl (l' := #[.val (.int x1), .val (.int x2), .val (.int x3), .val (.int ((x1 &&& (2147483647 : Int32)) % (65 : Int32))), .unset, .unset, .unset, .unset, .unset, .unset]) rfl kk_) ?_
  show Goes p e below _ (s₁.setTop (mkF m 8 #[.val (.int x1), .val (.int x2), .val (.int x3), .val (.int ((x1 &&& (2147483647 : Int32)) % (65 : Int32))), .unset, .unset, .unset, .unset, .unset, .unset] []))
  generalize hv_v3_1 : ((x1 &&& (2147483647 : Int32)) % (65 : Int32)) = v3_1
  show Goes p e below _ (s₁.setTop (mkF m 8 #[.val (.int x1), .val (.int x2), .val (.int x3), .val (.int v3_1), .unset, .unset, .unset, .unset, .unset, .unset] []))
  refine Goes.via (fun _ kk_ => XS.iloadN X0.here hx rfl (hb hby at_8) rfl  kk_) ?_
  show Goes p e below _ (s₁.setTop (mkF m 9 #[.val (.int x1), .val (.int x2), .val (.int x3), .val (.int v3_1), .unset, .unset, .unset, .unset, .unset, .unset] [(.int x2)]))
  refine Goes.via (fun _ kk_ => XS.iconst X0.here hx rfl (hb hby at_9) kk_) ?_
  show Goes p e below _ (s₁.setTop (mkF m 10 #[.val (.int x1), .val (.int x2), .val (.int x3), .val (.int v3_1), .unset, .unset, .unset, .unset, .unset, .unset] [(.int (3 : Int32)), (.int x2)]))
  refine Goes.via (fun _ kk_ => XS.iand X0.here hx rfl (hb hby at_10) rfl kk_) ?_
  show Goes p e below _ (s₁.setTop (mkF m 11 #[.val (.int x1), .val (.int x2), .val (.int x3), .val (.int v3_1), .unset, .unset, .unset, .unset, .unset, .unset] [(.int (x2 &&& (3 : Int32)))]))
  refine Goes.via (fun _ kk_ => XS.istore X0.here hx rfl (hb hby at_11) rfl (l' := #[.val (.int x1), .val (.int x2), .val (.int x3), .val (.int v3_1), .val (.int (x2 &&& (3 : Int32))), .unset, .unset, .unset, .unset, .unset]) rfl kk_) ?_
  show Goes p e below _ (s₁.setTop (mkF m 13 #[.val (.int x1), .val (.int x2), .val (.int x3), .val (.int v3_1), .val (.int (x2 &&& (3 : Int32))), .unset, .unset, .unset, .unset, .unset] []))
  generalize hv_v4_2 : (x2 &&& (3 : Int32)) = v4_2
  show Goes p e below _ (s₁.setTop (mkF m 13 #[.val (.int x1), .val (.int x2), .val (.int x3), .val (.int v3_1), .val (.int v4_2), .unset, .unset, .unset, .unset, .unset] []))
  refine Goes.via (fun _ kk_ => XS.iloadN X0.here hx rfl (hb hby at_13) rfl  kk_) ?_
  show Goes p e below _ (s₁.setTop (mkF m 14 #[.val (.int x1), .val (.int x2), .val (.int x3), .val (.int v3_1), .val (.int v4_2), .unset, .unset, .unset, .unset, .unset] [(.int x3)]))
  refine Goes.via (fun _ kk_ => XS.bipush X0.here hx rfl (hb hby at_14) kk_) ?_
  show Goes p e below _ (s₁.setTop (mkF m 16 #[.val (.int x1), .val (.int x2), .val (.int x3), .val (.int v3_1), .val (.int v4_2), .unset, .unset, .unset, .unset, .unset] [(.int (63 : Int32)), (.int x3)]))
  refine Goes.via (fun _ kk_ => XS.iand X0.here hx rfl (hb hby at_16) rfl kk_) ?_
  show Goes p e below _ (s₁.setTop (mkF m 17 #[.val (.int x1), .val (.int x2), .val (.int x3), .val (.int v3_1), .val (.int v4_2), .unset, .unset, .unset, .unset, .unset] [(.int (x3 &&& (63 : Int32)))]))
  refine Goes.via (fun _ kk_ => XS.istore X0.here hx rfl (hb hby at_17) rfl (l' := #[.val (.int x1), .val (.int x2), .val (.int x3), .val (.int v3_1), .val (.int v4_2), .val (.int (x3 &&& (63 : Int32))), .unset, .unset, .unset, .unset]) rfl kk_) ?_
  show Goes p e below _ (s₁.setTop (mkF m 19 #[.val (.int x1), .val (.int x2), .val (.int x3), .val (.int v3_1), .val (.int v4_2), .val (.int (x3 &&& (63 : Int32))), .unset, .unset, .unset, .unset] []))
  generalize hv_v5_3 : (x3 &&& (63 : Int32)) = v5_3
  show Goes p e below _ (s₁.setTop (mkF m 19 #[.val (.int x1), .val (.int x2), .val (.int x3), .val (.int v3_1), .val (.int v4_2), .val (.int v5_3), .unset, .unset, .unset, .unset] []))
  obtain ⟨nm, hnm1, hnm2⟩ := own_enum (x := v3_1) (n := 65) (by rw [← hv_v3_1]; exact (own_m65 _).1) (by rw [← hv_v3_1]; exact (own_m65 _).2)
  obtain ⟨nl, hnl1, hnl2⟩ := own_enum (x := v4_2) (n := 5) (by rw [← hv_v4_2]; exact (c_and _ 3 (by decide)).1) (by rw [← hv_v4_2]; have := (c_and x2 3 (by decide)).2; have h3 : (3 : Int32).toInt = 3 := (by decide); omega)
  obtain ⟨nu, hnu1, hnu2⟩ := own_enum (x := v5_3) (n := 64) (by rw [← hv_v5_3]; exact (c_and _ 63 (by decide)).1) (by rw [← hv_v5_3]; have := (c_and x3 63 (by decide)).2; have h3 : (63 : Int32).toInt = 63 := (by decide); omega)
  have hmi : (v3_1).toInt = (nm : Int) := by rw [hnm2]; exact Int32.toInt_ofNat_of_lt (by omega)
  have hli : (v4_2).toInt = (nl : Int) := by rw [hnl2]; exact Int32.toInt_ofNat_of_lt (by omega)
  obtain ⟨T4, h4, X4, e4, E4, A4, D4, -, st4⟩ := newO X0 hx hZ hown (hw _ (List.mem_of_getElem? (i := 1) rfl)) (hw _ (List.mem_of_getElem? (i := 2) rfl)) (hw _ (List.mem_of_getElem? (i := 3) rfl)) e0 (g := (mkF m 19 #[.val (.int x1), .val (.int x2), .val (.int x3), .val (.int v3_1), .val (.int v4_2), .val (.int v5_3), .unset, .unset, .unset, .unset] [])) rfl (hb hby at_19) (by first | decide | omega | (dsimp only; omega)) (by first | decide | omega | (dsimp only; omega))
  obtain ⟨b4, g4⟩ : ∃ z, z = (h0).size := ⟨_, rfl⟩
  rw [← g4] at A4 D4 st4
  have sz_b4 : h0.size ≤ b4 := Nat.le_trans (Nat.le_refl _) (Nat.le_of_eq g4.symm)
  have gn_b4 : n0 ≤ b4 := Nat.le_trans Z0 sz_b4
  have F_users_b4 : Fld Z h4 b4 "com/example/checks_on_duty/checksonduty/engine/RankedSets" "users" "I" (.int (0 : Int32)) := D4 (Or.inr (hw _ (List.mem_of_getElem? (i := 11) rfl))) (ty := .int) (by decide)
  have F_binomial_b4 : Fld Z h4 b4 "com/example/checks_on_duty/checksonduty/engine/RankedSets" "binomial" "[[J" .null := D4 (Or.inr (hw _ (List.mem_of_getElem? (i := 16) rfl))) (ty := (.array (.array .long))) (by decide)
  refine Goes.via st4 ?_
  show Goes p e below _ (T4.setTop (mkF m 22 #[.val (.int x1), .val (.int x2), .val (.int x3), .val (.int v3_1), .val (.int v4_2), .val (.int v5_3), .unset, .unset, .unset, .unset] [(.ref b4)]))
  refine Goes.via (fun _ kk_ => XS.dup X4.here hx rfl (hb hby at_22) rfl rfl kk_) ?_
  show Goes p e below _ (T4.setTop (mkF m 23 #[.val (.int x1), .val (.int x2), .val (.int x3), .val (.int v3_1), .val (.int v4_2), .val (.int v5_3), .unset, .unset, .unset, .unset] [(.ref b4), (.ref b4)]))
  refine Goes.via (fun _ kk_ => XS.iloadN X4.here hx rfl (hb hby at_23) rfl  kk_) ?_
  show Goes p e below _ (T4.setTop (mkF m 24 #[.val (.int x1), .val (.int x2), .val (.int x3), .val (.int v3_1), .val (.int v4_2), .val (.int v5_3), .unset, .unset, .unset, .unset] [(.int v3_1), (.ref b4), (.ref b4)]))
  refine Goes.via (fun _ kk_ => XS.iload X4.here hx rfl (hb hby at_24) rfl  kk_) ?_
  show Goes p e below _ (T4.setTop (mkF m 26 #[.val (.int x1), .val (.int x2), .val (.int x3), .val (.int v3_1), .val (.int v4_2), .val (.int v5_3), .unset, .unset, .unset, .unset] [(.int v4_2), (.int v3_1), (.ref b4), (.ref b4)]))
  have z6 : h0.size ≤ (h4).size := (Nat.le_trans (Nat.le_refl _) E4.1)
  obtain ⟨_, _, ⟨T5, L5, k5, n5⟩, -, X5, ⟨Lc5, hQ5, l5, y5, z5⟩, st5⟩ := X4.specialBack hx (y := (⟨"com/example/checks_on_duty/checksonduty/engine/RankedSets", "<init>", "(II)V"⟩ : MethodName)) rfl hown (mvT hZ (hw _ (List.mem_of_getElem? (i := 4) rfl))) (mvT hZ (hw _ (List.mem_of_getElem? (i := 5) rfl))) (mvT hZ (hw _ (List.mem_of_getElem? (i := 6) rfl))) (by decide) (backOf (W := 1) (rm1 l Z a0 hw [] b4 v3_1 v4_2 nm nl h4 n0 (Nat.le_trans Z0 z6) A4 F_users_b4 F_binomial_b4 gn_b4 hmi hli (by first | rfl | decide | assumption | omega | (simp; done)) (by first | rfl | decide | assumption | omega | (simp; done))) hZ (hw _ (List.mem_of_getElem? (i := 6) rfl)) (hw _ (List.mem_of_getElem? (i := 3) rfl)) (by decide) (by decide)) (g := (mkF m 26 #[.val (.int x1), .val (.int x2), .val (.int x3), .val (.int v3_1), .val (.int v4_2), .val (.int v5_3), .unset, .unset, .unset, .unset] [(.int v4_2), (.int v3_1), (.ref b4), (.ref b4)])) rfl (by rw [hml]; rfl) (Steps.refl _) (a := b4) (argsL := [(.int v3_1), (.int v4_2)]) (rest := [(.ref b4)]) (lenOf pd_1 rfl) rfl (by show 2 * 0 + _ ≤ _; exact Nat.le_of_eq rfl) (hb hby at_26) (fun _ _ => ⟨rfl, e4, (by first | decide | omega | (dsimp only; omega) : 1 + 66 ≤ _), (by first | decide | omega | (dsimp only; omega) : 2 + 400 ≤ _)⟩)
  dsimp only [Pt.U, Pt.locs, Pt.cells, Pt.slots] at X5 l5 y5 z5 st5 hQ5
  subst l5 y5 z5
  obtain ⟨g5, kA5, kB5, rfl, N5q, K5, u5_0, u5_1, u5_2, u5_3, u5_4⟩ := hQ5
  have N5 := Fr.app N0 N5q
  refine Goes.tr st5 ?_
  have ne7 : b4 ≠ g5 := Nat.ne_of_lt (Nat.lt_of_lt_of_le A4.lt u5_0)
  have sz_g5 : h0.size ≤ g5 := Nat.le_trans z6 u5_0
  have gn_g5 : n0 ≤ g5 := Nat.le_trans Z0 sz_g5
  -- u5_0 : h0.size ≤ g5
  show Goes p e below _ (T5.setTop (mkF m 29 #[.val (.int x1), .val (.int x2), .val (.int x3), .val (.int v3_1), .val (.int v4_2), .val (.int v5_3), .unset, .unset, .unset, .unset] [(.ref b4)]))
  refine Goes.via (fun _ kk_ => XS.astore X5.here hx rfl (hb hby at_29) rfl rfl (l' := #[.val (.int x1), .val (.int x2), .val (.int x3), .val (.int v3_1), .val (.int v4_2), .val (.int v5_3), .val (.ref b4), .unset, .unset, .unset]) rfl kk_) ?_
  show Goes p e below _ (T5.setTop (mkF m 31 #[.val (.int x1), .val (.int x2), .val (.int x3), .val (.int v3_1), .val (.int v4_2), .val (.int v5_3), .val (.ref b4), .unset, .unset, .unset] []))
  refine Goes.via (fun _ kk_ => XS.aload X5.here hx rfl (hb hby at_31) rfl rfl  kk_) ?_
  show Goes p e below _ (T5.setTop (mkF m 33 #[.val (.int x1), .val (.int x2), .val (.int x3), .val (.int v3_1), .val (.int v4_2), .val (.int v5_3), .val (.ref b4), .unset, .unset, .unset] [(.ref b4)]))
  have z9 : h0.size ≤ (T5.heap).size := (Nat.le_trans z6 K5.1)
  obtain ⟨cq8, kq8, q8a, q8b, q8c⟩ := isOf hZ rfl u5_1
  obtain ⟨_, _, ⟨T8, L8, k8, n8⟩, -, X8, ⟨Lc8, hQ8, l8, y8, z8⟩, st8⟩ := X5.virtualBack hx (y := (⟨"com/example/checks_on_duty/checksonduty/engine/RankedSets", "all", "()J"⟩ : MethodName)) (z := (⟨"com/example/checks_on_duty/checksonduty/engine/RankedSets", "all", "()J"⟩ : MethodName)) hown (mvT hZ (hw _ (List.mem_of_getElem? (i := 21) rfl))) (mvT hZ (hw _ (List.mem_of_getElem? (i := 22) rfl))) (notFace_of_selects (args := #[]) (mvT hZ (hw _ (List.mem_of_getElem? (i := 24) rfl)))) (mvT hZ (hw _ (List.mem_of_getElem? (i := 24) rfl))) (mvT hZ (hw _ (List.mem_of_getElem? (i := 23) rfl))) (by decide) (backOf (W := 0) (rm4 l Z a0 hw [] b4 v3_1 T5.heap n0 (Nat.le_trans Z0 z9) u5_2) hZ (hw _ (List.mem_of_getElem? (i := 25) rfl)) (hw _ (List.mem_of_getElem? (i := 3) rfl)) (by decide) (by decide)) q8a q8c (g := (mkF m 33 #[.val (.int x1), .val (.int x2), .val (.int x3), .val (.int v3_1), .val (.int v4_2), .val (.int v5_3), .val (.ref b4), .unset, .unset, .unset] [(.ref b4)])) rfl (by rw [hml]; rfl) (Steps.refl _) (argsL := []) (rest := []) (lenOf pd_2 rfl) rfl (by show 2 * 0 + _ ≤ _; exact Nat.le_of_eq rfl) (hb hby at_33) (fun _ _ => ⟨rfl, rfl, (by first | decide | omega | (dsimp only; omega) : 67 + 0 ≤ _), (by first | decide | omega | (dsimp only; omega) : 402 + 0 ≤ _)⟩)
  dsimp only [Pt.U, Pt.locs, Pt.cells, Pt.slots] at X8 l8 y8 z8 st8 hQ8
  subst l8 y8 z8
  obtain ⟨rfl, N8q, e8⟩ := hQ8
  have N8 := Fr.app N5 N8q
  refine Goes.tr st8 ?_
  have e8' : T8.heap = T5.heap := e8
  show Goes p e below _ (T8.setTop (mkF m 36 #[.val (.int x1), .val (.int x2), .val (.int x3), .val (.int v3_1), .val (.int v4_2), .val (.int v5_3), .val (.ref b4), .unset, .unset, .unset] [(.long (own_A v3_1))]))
  refine Goes.via (fun _ kk_ => XS.lstore X8.here hx rfl (hb hby at_36) rfl (l' := #[.val (.int x1), .val (.int x2), .val (.int x3), .val (.int v3_1), .val (.int v4_2), .val (.int v5_3), .val (.ref b4), .val (.long (own_A v3_1)), .second, .unset]) rfl kk_) ?_
  show Goes p e below _ (T8.setTop (mkF m 38 #[.val (.int x1), .val (.int x2), .val (.int x3), .val (.int v3_1), .val (.int v4_2), .val (.int v5_3), .val (.ref b4), .val (.long (own_A v3_1)), .second, .unset] []))
  have hbit := own_bits nm hnm1 nu hnu1
  rw [← hnm2, ← hnu2] at hbit
  have hrun := own_run nm hnm1
  rw [← hnm2] at hrun
  have htop := own_top nm hnm1
  rw [← hnm2] at htop
  have hover := own_over nm hnm1
  rw [← hnm2] at hover
  by_cases hum : v5_3 < v3_1
  · skip
    show Goes p e below _ (T8.setTop (mkF m 38 #[.val (.int x1), .val (.int x2), .val (.int x3), .val (.int v3_1), .val (.int v4_2), .val (.int v5_3), .val (.ref b4), .val (.long (own_A v3_1)), .second, .unset] []))
    refine Goes.via (fun _ kk_ => XS.lload X8.here hx rfl (hb hby at_38) rfl  kk_) ?_
    show Goes p e below _ (T8.setTop (mkF m 40 #[.val (.int x1), .val (.int x2), .val (.int x3), .val (.int v3_1), .val (.int v4_2), .val (.int v5_3), .val (.ref b4), .val (.long (own_A v3_1)), .second, .unset] [(.long (own_A v3_1))]))
    refine Goes.via (fun _ kk_ => XS.iload X8.here hx rfl (hb hby at_40) rfl  kk_) ?_
    show Goes p e below _ (T8.setTop (mkF m 42 #[.val (.int x1), .val (.int x2), .val (.int x3), .val (.int v3_1), .val (.int v4_2), .val (.int v5_3), .val (.ref b4), .val (.long (own_A v3_1)), .second, .unset] [(.int v5_3), (.long (own_A v3_1))]))
    refine Goes.via (fun _ kk_ => XS.lushr X8.here hx rfl (hb hby at_42) rfl kk_) ?_
    show Goes p e below _ (T8.setTop (mkF m 43 #[.val (.int x1), .val (.int x2), .val (.int x3), .val (.int v3_1), .val (.int v4_2), .val (.int v5_3), .val (.ref b4), .val (.long (own_A v3_1)), .second, .unset] [(.long (((own_A v3_1).toUInt64 >>> (v5_3 &&& 0x3f).toInt64.toUInt64).toInt64))]))
    refine Goes.via (fun _ kk_ => XS.lconst X8.here hx rfl (hb hby at_43) kk_) ?_
    show Goes p e below _ (T8.setTop (mkF m 44 #[.val (.int x1), .val (.int x2), .val (.int x3), .val (.int v3_1), .val (.int v4_2), .val (.int v5_3), .val (.ref b4), .val (.long (own_A v3_1)), .second, .unset] [(.long (1 : Int64)), (.long (((own_A v3_1).toUInt64 >>> (v5_3 &&& 0x3f).toInt64.toUInt64).toInt64))]))
    refine Goes.via (fun _ kk_ => XS.land X8.here hx rfl (hb hby at_44) rfl kk_) ?_
    show Goes p e below _ (T8.setTop (mkF m 45 #[.val (.int x1), .val (.int x2), .val (.int x3), .val (.int v3_1), .val (.int v4_2), .val (.int v5_3), .val (.ref b4), .val (.long (own_A v3_1)), .second, .unset] [(.long ((((own_A v3_1).toUInt64 >>> (v5_3 &&& 0x3f).toInt64.toUInt64).toInt64) &&& (1 : Int64)))]))
    refine Goes.via (fun _ kk_ => XS.lconst X8.here hx rfl (hb hby at_45) kk_) ?_
    show Goes p e below _ (T8.setTop (mkF m 46 #[.val (.int x1), .val (.int x2), .val (.int x3), .val (.int v3_1), .val (.int v4_2), .val (.int v5_3), .val (.ref b4), .val (.long (own_A v3_1)), .second, .unset] [(.long (0 : Int64)), (.long ((((own_A v3_1).toUInt64 >>> (v5_3 &&& 0x3f).toInt64.toUInt64).toInt64) &&& (1 : Int64)))]))
    refine Goes.via (fun _ kk_ => XS.lcmp X8.here hx rfl (hb hby at_46) rfl kk_) ?_
    show Goes p e below _ (T8.setTop (mkF m 47 #[.val (.int x1), .val (.int x2), .val (.int x3), .val (.int v3_1), .val (.int v4_2), .val (.int v5_3), .val (.ref b4), .val (.long (own_A v3_1)), .second, .unset] [(.int (lcmpW ((((own_A v3_1).toUInt64 >>> (v5_3 &&& 0x3f).toInt64.toUInt64).toInt64) &&& (1 : Int64)) (0 : Int64)))]))
    have hc47_10 : ¬ (((((own_A v3_1).toUInt64 >>> (v5_3 &&& 0x3f).toInt64.toUInt64).toInt64) &&& (1 : Int64)) = (0 : Int64)) := (fun q => hbit.mp q hum)
    refine Goes.via (fun _ kk_ => XS.ifNo X8.here hx rfl (hb hby at_47) rfl ((if0 _ _).trans (feq (fun q => hc47_10 ((lw_eq ((((own_A v3_1).toUInt64 >>> (v5_3 &&& 0x3f).toInt64.toUInt64).toInt64) &&& (1 : Int64)) (0 : Int64)).mp q))).1) kk_) ?_
    show Goes p e below _ (T8.setTop (mkF m 50 #[.val (.int x1), .val (.int x2), .val (.int x3), .val (.int v3_1), .val (.int v4_2), .val (.int v5_3), .val (.ref b4), .val (.long (own_A v3_1)), .second, .unset] []))
    refine Goes.via (fun _ kk_ => XS.iconst X8.here hx rfl (hb hby at_50) kk_) ?_
    show Goes p e below _ (T8.setTop (mkF m 51 #[.val (.int x1), .val (.int x2), .val (.int x3), .val (.int v3_1), .val (.int v4_2), .val (.int v5_3), .val (.ref b4), .val (.long (own_A v3_1)), .second, .unset] [(.int (1 : Int32))]))
    refine Goes.via (fun _ kk_ => XS.goto X8.here hx rfl (pc0 := 51) (pc' := 55) rfl (hb hby at_51) (by decide) (by decide) kk_) ?_
    show Goes p e below _ (T8.setTop (mkF m 55 #[.val (.int x1), .val (.int x2), .val (.int x3), .val (.int v3_1), .val (.int v4_2), .val (.int v5_3), .val (.ref b4), .val (.long (own_A v3_1)), .second, .unset] [(.int (1 : Int32))]))
    refine Goes.via (fun _ kk_ => XS.iload X8.here hx rfl (hb hby at_55) rfl  kk_) ?_
    show Goes p e below _ (T8.setTop (mkF m 57 #[.val (.int x1), .val (.int x2), .val (.int x3), .val (.int v3_1), .val (.int v4_2), .val (.int v5_3), .val (.ref b4), .val (.long (own_A v3_1)), .second, .unset] [(.int v5_3), (.int (1 : Int32))]))
    refine Goes.via (fun _ kk_ => XS.iloadN X8.here hx rfl (hb hby at_57) rfl  kk_) ?_
    show Goes p e below _ (T8.setTop (mkF m 58 #[.val (.int x1), .val (.int x2), .val (.int x3), .val (.int v3_1), .val (.int v4_2), .val (.int v5_3), .val (.ref b4), .val (.long (own_A v3_1)), .second, .unset] [(.int v3_1), (.int v5_3), (.int (1 : Int32))]))
    have hc58_11 : v5_3 < v3_1 := hum
    refine Goes.via (fun _ kk_ => XS.icmpNo X8.here hx rfl (hb hby at_58) rfl (tlt hc58_11).2.1 kk_) ?_
    show Goes p e below _ (T8.setTop (mkF m 61 #[.val (.int x1), .val (.int x2), .val (.int x3), .val (.int v3_1), .val (.int v4_2), .val (.int v5_3), .val (.ref b4), .val (.long (own_A v3_1)), .second, .unset] [(.int (1 : Int32))]))
    refine Goes.via (fun _ kk_ => XS.iconst X8.here hx rfl (hb hby at_61) kk_) ?_
    show Goes p e below _ (T8.setTop (mkF m 62 #[.val (.int x1), .val (.int x2), .val (.int x3), .val (.int v3_1), .val (.int v4_2), .val (.int v5_3), .val (.ref b4), .val (.long (own_A v3_1)), .second, .unset] [(.int (1 : Int32)), (.int (1 : Int32))]))
    refine Goes.via (fun _ kk_ => XS.goto X8.here hx rfl (pc0 := 62) (pc' := 66) rfl (hb hby at_62) (by decide) (by decide) kk_) ?_
    show Goes p e below _ (T8.setTop (mkF m 66 #[.val (.int x1), .val (.int x2), .val (.int x3), .val (.int v3_1), .val (.int v4_2), .val (.int v5_3), .val (.ref b4), .val (.long (own_A v3_1)), .second, .unset] [(.int (1 : Int32)), (.int (1 : Int32))]))
    have hc66_12 : (1 : Int32) = (1 : Int32) := (by decide)
    refine Goes.via (fun _ kk_ => XS.icmpNo X8.here hx rfl (hb hby at_66) rfl (teq hc66_12).2 kk_) ?_
    show Goes p e below _ (T8.setTop (mkF m 69 #[.val (.int x1), .val (.int x2), .val (.int x3), .val (.int v3_1), .val (.int v4_2), .val (.int v5_3), .val (.ref b4), .val (.long (own_A v3_1)), .second, .unset] []))
    refine Goes.via (fun _ kk_ => XS.iconst X8.here hx rfl (hb hby at_69) kk_) ?_
    show Goes p e below _ (T8.setTop (mkF m 70 #[.val (.int x1), .val (.int x2), .val (.int x3), .val (.int v3_1), .val (.int v4_2), .val (.int v5_3), .val (.ref b4), .val (.long (own_A v3_1)), .second, .unset] [(.int (1 : Int32))]))
    refine Goes.via (fun _ kk_ => XS.goto X8.here hx rfl (pc0 := 70) (pc' := 74) rfl (hb hby at_70) (by decide) (by decide) kk_) ?_
    show Goes p e below _ (T8.setTop (mkF m 74 #[.val (.int x1), .val (.int x2), .val (.int x3), .val (.int v3_1), .val (.int v4_2), .val (.int v5_3), .val (.ref b4), .val (.long (own_A v3_1)), .second, .unset] [(.int (1 : Int32))]))
    refine Goes.via (fun _ kk_ => XS.istore X8.here hx rfl (hb hby at_74) rfl (l' := #[.val (.int x1), .val (.int x2), .val (.int x3), .val (.int v3_1), .val (.int v4_2), .val (.int v5_3), .val (.ref b4), .val (.long (own_A v3_1)), .second, .val (.int (1 : Int32))]) rfl kk_) ?_
    show Goes p e below _ (T8.setTop (mkF m 76 #[.val (.int x1), .val (.int x2), .val (.int x3), .val (.int v3_1), .val (.int v4_2), .val (.int v5_3), .val (.ref b4), .val (.long (own_A v3_1)), .second, .val (.int (1 : Int32))] []))
    refine Goes.via (fun _ kk_ => XS.iload X8.here hx rfl (hb hby at_76) rfl  kk_) ?_
    show Goes p e below _ (T8.setTop (mkF m 78 #[.val (.int x1), .val (.int x2), .val (.int x3), .val (.int v3_1), .val (.int v4_2), .val (.int v5_3), .val (.ref b4), .val (.long (own_A v3_1)), .second, .val (.int (1 : Int32))] [(.int (1 : Int32))]))
    have hc78_13 : ¬ ((1 : Int32) = (0 : Int32)) := (by decide)
    refine Goes.via (fun _ kk_ => XS.ifNo X8.here hx rfl (hb hby at_78) rfl ((if0 _ _).trans (feq hc78_13).1) kk_) ?_
    show Goes p e below _ (T8.setTop (mkF m 81 #[.val (.int x1), .val (.int x2), .val (.int x3), .val (.int v3_1), .val (.int v4_2), .val (.int v5_3), .val (.ref b4), .val (.long (own_A v3_1)), .second, .val (.int (1 : Int32))] []))
    refine Goes.via (fun _ kk_ => XS.lload X8.here hx rfl (hb hby at_81) rfl  kk_) ?_
    show Goes p e below _ (T8.setTop (mkF m 83 #[.val (.int x1), .val (.int x2), .val (.int x3), .val (.int v3_1), .val (.int v4_2), .val (.int v5_3), .val (.ref b4), .val (.long (own_A v3_1)), .second, .val (.int (1 : Int32))] [(.long (own_A v3_1))]))
    refine Goes.via (fun _ kk_ => XS.lload X8.here hx rfl (hb hby at_83) rfl  kk_) ?_
    show Goes p e below _ (T8.setTop (mkF m 85 #[.val (.int x1), .val (.int x2), .val (.int x3), .val (.int v3_1), .val (.int v4_2), .val (.int v5_3), .val (.ref b4), .val (.long (own_A v3_1)), .second, .val (.int (1 : Int32))] [(.long (own_A v3_1)), (.long (own_A v3_1))]))
    refine Goes.via (fun _ kk_ => XS.lconst X8.here hx rfl (hb hby at_85) kk_) ?_
    show Goes p e below _ (T8.setTop (mkF m 86 #[.val (.int x1), .val (.int x2), .val (.int x3), .val (.int v3_1), .val (.int v4_2), .val (.int v5_3), .val (.ref b4), .val (.long (own_A v3_1)), .second, .val (.int (1 : Int32))] [(.long (1 : Int64)), (.long (own_A v3_1)), (.long (own_A v3_1))]))
    refine Goes.via (fun _ kk_ => XS.ladd X8.here hx rfl (hb hby at_86) rfl kk_) ?_
    show Goes p e below _ (T8.setTop (mkF m 87 #[.val (.int x1), .val (.int x2), .val (.int x3), .val (.int v3_1), .val (.int v4_2), .val (.int v5_3), .val (.ref b4), .val (.long (own_A v3_1)), .second, .val (.int (1 : Int32))] [(.long ((own_A v3_1) + (1 : Int64))), (.long (own_A v3_1))]))
    refine Goes.via (fun _ kk_ => XS.land X8.here hx rfl (hb hby at_87) rfl kk_) ?_
    show Goes p e below _ (T8.setTop (mkF m 88 #[.val (.int x1), .val (.int x2), .val (.int x3), .val (.int v3_1), .val (.int v4_2), .val (.int v5_3), .val (.ref b4), .val (.long (own_A v3_1)), .second, .val (.int (1 : Int32))] [(.long ((own_A v3_1) &&& ((own_A v3_1) + (1 : Int64))))]))
    refine Goes.via (fun _ kk_ => XS.lconst X8.here hx rfl (hb hby at_88) kk_) ?_
    show Goes p e below _ (T8.setTop (mkF m 89 #[.val (.int x1), .val (.int x2), .val (.int x3), .val (.int v3_1), .val (.int v4_2), .val (.int v5_3), .val (.ref b4), .val (.long (own_A v3_1)), .second, .val (.int (1 : Int32))] [(.long (0 : Int64)), (.long ((own_A v3_1) &&& ((own_A v3_1) + (1 : Int64))))]))
    refine Goes.via (fun _ kk_ => XS.lcmp X8.here hx rfl (hb hby at_89) rfl kk_) ?_
    show Goes p e below _ (T8.setTop (mkF m 90 #[.val (.int x1), .val (.int x2), .val (.int x3), .val (.int v3_1), .val (.int v4_2), .val (.int v5_3), .val (.ref b4), .val (.long (own_A v3_1)), .second, .val (.int (1 : Int32))] [(.int (lcmpW ((own_A v3_1) &&& ((own_A v3_1) + (1 : Int64))) (0 : Int64)))]))
    have hc90_14 : ((own_A v3_1) &&& ((own_A v3_1) + (1 : Int64))) = (0 : Int64) := hrun
    refine Goes.via (fun _ kk_ => XS.ifNo X8.here hx rfl (hb hby at_90) rfl ((if0 _ _).trans (teq ((lw_eq ((own_A v3_1) &&& ((own_A v3_1) + (1 : Int64))) (0 : Int64)).mpr hc90_14)).2) kk_) ?_
    show Goes p e below _ (T8.setTop (mkF m 93 #[.val (.int x1), .val (.int x2), .val (.int x3), .val (.int v3_1), .val (.int v4_2), .val (.int v5_3), .val (.ref b4), .val (.long (own_A v3_1)), .second, .val (.int (1 : Int32))] []))
    refine Goes.via (fun _ kk_ => XS.iconst X8.here hx rfl (hb hby at_93) kk_) ?_
    show Goes p e below _ (T8.setTop (mkF m 94 #[.val (.int x1), .val (.int x2), .val (.int x3), .val (.int v3_1), .val (.int v4_2), .val (.int v5_3), .val (.ref b4), .val (.long (own_A v3_1)), .second, .val (.int (1 : Int32))] [(.int (1 : Int32))]))
    refine Goes.via (fun _ kk_ => XS.goto X8.here hx rfl (pc0 := 94) (pc' := 98) rfl (hb hby at_94) (by decide) (by decide) kk_) ?_
    show Goes p e below _ (T8.setTop (mkF m 98 #[.val (.int x1), .val (.int x2), .val (.int x3), .val (.int v3_1), .val (.int v4_2), .val (.int v5_3), .val (.ref b4), .val (.long (own_A v3_1)), .second, .val (.int (1 : Int32))] [(.int (1 : Int32))]))
    refine Goes.via (fun _ kk_ => XS.istore X8.here hx rfl (hb hby at_98) rfl (l' := #[.val (.int x1), .val (.int x2), .val (.int x3), .val (.int v3_1), .val (.int v4_2), .val (.int v5_3), .val (.ref b4), .val (.long (own_A v3_1)), .second, .val (.int (1 : Int32))]) rfl kk_) ?_
    show Goes p e below _ (T8.setTop (mkF m 100 #[.val (.int x1), .val (.int x2), .val (.int x3), .val (.int v3_1), .val (.int v4_2), .val (.int v5_3), .val (.ref b4), .val (.long (own_A v3_1)), .second, .val (.int (1 : Int32))] []))
    refine Goes.via (fun _ kk_ => XS.iloadN X8.here hx rfl (hb hby at_100) rfl  kk_) ?_
    show Goes p e below _ (T8.setTop (mkF m 101 #[.val (.int x1), .val (.int x2), .val (.int x3), .val (.int v3_1), .val (.int v4_2), .val (.int v5_3), .val (.ref b4), .val (.long (own_A v3_1)), .second, .val (.int (1 : Int32))] [(.int v3_1)]))
    by_cases hc101 : v3_1 = (0 : Int32)
    · skip
      refine Goes.via (fun _ kk_ => XS.ifNo X8.here hx rfl (hb hby at_101) rfl ((if0 _ _).trans (teq hc101).2) kk_) ?_
      show Goes p e below _ (T8.setTop (mkF m 104 #[.val (.int x1), .val (.int x2), .val (.int x3), .val (.int v3_1), .val (.int v4_2), .val (.int v5_3), .val (.ref b4), .val (.long (own_A v3_1)), .second, .val (.int (1 : Int32))] []))
      refine Goes.via (fun _ kk_ => XS.iload X8.here hx rfl (hb hby at_104) rfl  kk_) ?_
      show Goes p e below _ (T8.setTop (mkF m 106 #[.val (.int x1), .val (.int x2), .val (.int x3), .val (.int v3_1), .val (.int v4_2), .val (.int v5_3), .val (.ref b4), .val (.long (own_A v3_1)), .second, .val (.int (1 : Int32))] [(.int (1 : Int32))]))
      have hc106_15 : ¬ ((1 : Int32) = (0 : Int32)) := (by decide)
      refine Goes.via (fun _ kk_ => XS.ifNo X8.here hx rfl (hb hby at_106) rfl ((if0 _ _).trans (feq hc106_15).1) kk_) ?_
      show Goes p e below _ (T8.setTop (mkF m 109 #[.val (.int x1), .val (.int x2), .val (.int x3), .val (.int v3_1), .val (.int v4_2), .val (.int v5_3), .val (.ref b4), .val (.long (own_A v3_1)), .second, .val (.int (1 : Int32))] []))
      refine Goes.via (fun _ kk_ => XS.lload X8.here hx rfl (hb hby at_109) rfl  kk_) ?_
      show Goes p e below _ (T8.setTop (mkF m 111 #[.val (.int x1), .val (.int x2), .val (.int x3), .val (.int v3_1), .val (.int v4_2), .val (.int v5_3), .val (.ref b4), .val (.long (own_A v3_1)), .second, .val (.int (1 : Int32))] [(.long (own_A v3_1))]))
      refine Goes.via (fun _ kk_ => XS.lconst X8.here hx rfl (hb hby at_111) kk_) ?_
      show Goes p e below _ (T8.setTop (mkF m 112 #[.val (.int x1), .val (.int x2), .val (.int x3), .val (.int v3_1), .val (.int v4_2), .val (.int v5_3), .val (.ref b4), .val (.long (own_A v3_1)), .second, .val (.int (1 : Int32))] [(.long (0 : Int64)), (.long (own_A v3_1))]))
      refine Goes.via (fun _ kk_ => XS.lcmp X8.here hx rfl (hb hby at_112) rfl kk_) ?_
      show Goes p e below _ (T8.setTop (mkF m 113 #[.val (.int x1), .val (.int x2), .val (.int x3), .val (.int v3_1), .val (.int v4_2), .val (.int v5_3), .val (.ref b4), .val (.long (own_A v3_1)), .second, .val (.int (1 : Int32))] [(.int (lcmpW (own_A v3_1) (0 : Int64)))]))
      have hc113_16 : (own_A v3_1) = (0 : Int64) := (by rw [hc101]; decide)
      refine Goes.via (fun _ kk_ => XS.ifNo X8.here hx rfl (hb hby at_113) rfl ((if0 _ _).trans (teq ((lw_eq (own_A v3_1) (0 : Int64)).mpr hc113_16)).2) kk_) ?_
      show Goes p e below _ (T8.setTop (mkF m 116 #[.val (.int x1), .val (.int x2), .val (.int x3), .val (.int v3_1), .val (.int v4_2), .val (.int v5_3), .val (.ref b4), .val (.long (own_A v3_1)), .second, .val (.int (1 : Int32))] []))
      refine Goes.via (fun _ kk_ => XS.iconst X8.here hx rfl (hb hby at_116) kk_) ?_
      show Goes p e below _ (T8.setTop (mkF m 117 #[.val (.int x1), .val (.int x2), .val (.int x3), .val (.int v3_1), .val (.int v4_2), .val (.int v5_3), .val (.ref b4), .val (.long (own_A v3_1)), .second, .val (.int (1 : Int32))] [(.int (1 : Int32))]))
      refine Goes.via (fun _ kk_ => XS.goto X8.here hx rfl (pc0 := 117) (pc' := 121) rfl (hb hby at_117) (by decide) (by decide) kk_) ?_
      show Goes p e below _ (T8.setTop (mkF m 121 #[.val (.int x1), .val (.int x2), .val (.int x3), .val (.int v3_1), .val (.int v4_2), .val (.int v5_3), .val (.ref b4), .val (.long (own_A v3_1)), .second, .val (.int (1 : Int32))] [(.int (1 : Int32))]))
      refine Goes.via (fun _ kk_ => XS.istore X8.here hx rfl (hb hby at_121) rfl (l' := #[.val (.int x1), .val (.int x2), .val (.int x3), .val (.int v3_1), .val (.int v4_2), .val (.int v5_3), .val (.ref b4), .val (.long (own_A v3_1)), .second, .val (.int (1 : Int32))]) rfl kk_) ?_
      show Goes p e below _ (T8.setTop (mkF m 123 #[.val (.int x1), .val (.int x2), .val (.int x3), .val (.int v3_1), .val (.int v4_2), .val (.int v5_3), .val (.ref b4), .val (.long (own_A v3_1)), .second, .val (.int (1 : Int32))] []))
      refine Goes.via (fun _ kk_ => XS.goto X8.here hx rfl (pc0 := 123) (pc' := 151) rfl (hb hby at_123) (by decide) (by decide) kk_) ?_
      show Goes p e below _ (T8.setTop (mkF m 151 #[.val (.int x1), .val (.int x2), .val (.int x3), .val (.int v3_1), .val (.int v4_2), .val (.int v5_3), .val (.ref b4), .val (.long (own_A v3_1)), .second, .val (.int (1 : Int32))] []))
      refine Goes.via (fun _ kk_ => XS.iloadN X8.here hx rfl (hb hby at_151) rfl  kk_) ?_
      show Goes p e below _ (T8.setTop (mkF m 152 #[.val (.int x1), .val (.int x2), .val (.int x3), .val (.int v3_1), .val (.int v4_2), .val (.int v5_3), .val (.ref b4), .val (.long (own_A v3_1)), .second, .val (.int (1 : Int32))] [(.int v3_1)]))
      refine Goes.via (fun _ kk_ => XS.bipush X8.here hx rfl (hb hby at_152) kk_) ?_
      show Goes p e below _ (T8.setTop (mkF m 154 #[.val (.int x1), .val (.int x2), .val (.int x3), .val (.int v3_1), .val (.int v4_2), .val (.int v5_3), .val (.ref b4), .val (.long (own_A v3_1)), .second, .val (.int (1 : Int32))] [(.int (64 : Int32)), (.int v3_1)]))
      by_cases hc154 : v3_1 < (64 : Int32)
      · skip
        refine Goes.via (fun _ kk_ => XS.icmpNo X8.here hx rfl (hb hby at_154) rfl (tlt hc154).2.1 kk_) ?_
        show Goes p e below _ (T8.setTop (mkF m 157 #[.val (.int x1), .val (.int x2), .val (.int x3), .val (.int v3_1), .val (.int v4_2), .val (.int v5_3), .val (.ref b4), .val (.long (own_A v3_1)), .second, .val (.int (1 : Int32))] []))
        refine Goes.via (fun _ kk_ => XS.iload X8.here hx rfl (hb hby at_157) rfl  kk_) ?_
        show Goes p e below _ (T8.setTop (mkF m 159 #[.val (.int x1), .val (.int x2), .val (.int x3), .val (.int v3_1), .val (.int v4_2), .val (.int v5_3), .val (.ref b4), .val (.long (own_A v3_1)), .second, .val (.int (1 : Int32))] [(.int (1 : Int32))]))
        have hc159_17 : ¬ ((1 : Int32) = (0 : Int32)) := (by decide)
        refine Goes.via (fun _ kk_ => XS.ifNo X8.here hx rfl (hb hby at_159) rfl ((if0 _ _).trans (feq hc159_17).1) kk_) ?_
        show Goes p e below _ (T8.setTop (mkF m 162 #[.val (.int x1), .val (.int x2), .val (.int x3), .val (.int v3_1), .val (.int v4_2), .val (.int v5_3), .val (.ref b4), .val (.long (own_A v3_1)), .second, .val (.int (1 : Int32))] []))
        refine Goes.via (fun _ kk_ => XS.lload X8.here hx rfl (hb hby at_162) rfl  kk_) ?_
        show Goes p e below _ (T8.setTop (mkF m 164 #[.val (.int x1), .val (.int x2), .val (.int x3), .val (.int v3_1), .val (.int v4_2), .val (.int v5_3), .val (.ref b4), .val (.long (own_A v3_1)), .second, .val (.int (1 : Int32))] [(.long (own_A v3_1))]))
        refine Goes.via (fun _ kk_ => XS.iloadN X8.here hx rfl (hb hby at_164) rfl  kk_) ?_
        show Goes p e below _ (T8.setTop (mkF m 165 #[.val (.int x1), .val (.int x2), .val (.int x3), .val (.int v3_1), .val (.int v4_2), .val (.int v5_3), .val (.ref b4), .val (.long (own_A v3_1)), .second, .val (.int (1 : Int32))] [(.int v3_1), (.long (own_A v3_1))]))
        refine Goes.via (fun _ kk_ => XS.lushr X8.here hx rfl (hb hby at_165) rfl kk_) ?_
        show Goes p e below _ (T8.setTop (mkF m 166 #[.val (.int x1), .val (.int x2), .val (.int x3), .val (.int v3_1), .val (.int v4_2), .val (.int v5_3), .val (.ref b4), .val (.long (own_A v3_1)), .second, .val (.int (1 : Int32))] [(.long (((own_A v3_1).toUInt64 >>> (v3_1 &&& 0x3f).toInt64.toUInt64).toInt64))]))
        refine Goes.via (fun _ kk_ => XS.lconst X8.here hx rfl (hb hby at_166) kk_) ?_
        show Goes p e below _ (T8.setTop (mkF m 167 #[.val (.int x1), .val (.int x2), .val (.int x3), .val (.int v3_1), .val (.int v4_2), .val (.int v5_3), .val (.ref b4), .val (.long (own_A v3_1)), .second, .val (.int (1 : Int32))] [(.long (0 : Int64)), (.long (((own_A v3_1).toUInt64 >>> (v3_1 &&& 0x3f).toInt64.toUInt64).toInt64))]))
        refine Goes.via (fun _ kk_ => XS.lcmp X8.here hx rfl (hb hby at_167) rfl kk_) ?_
        show Goes p e below _ (T8.setTop (mkF m 168 #[.val (.int x1), .val (.int x2), .val (.int x3), .val (.int v3_1), .val (.int v4_2), .val (.int v5_3), .val (.ref b4), .val (.long (own_A v3_1)), .second, .val (.int (1 : Int32))] [(.int (lcmpW (((own_A v3_1).toUInt64 >>> (v3_1 &&& 0x3f).toInt64.toUInt64).toInt64) (0 : Int64)))]))
        have hc168_18 : (((own_A v3_1).toUInt64 >>> (v3_1 &&& 0x3f).toInt64.toUInt64).toInt64) = (0 : Int64) := (hover hc154)
        refine Goes.via (fun _ kk_ => XS.ifNo X8.here hx rfl (hb hby at_168) rfl ((if0 _ _).trans (teq ((lw_eq (((own_A v3_1).toUInt64 >>> (v3_1 &&& 0x3f).toInt64.toUInt64).toInt64) (0 : Int64)).mpr hc168_18)).2) kk_) ?_
        show Goes p e below _ (T8.setTop (mkF m 171 #[.val (.int x1), .val (.int x2), .val (.int x3), .val (.int v3_1), .val (.int v4_2), .val (.int v5_3), .val (.ref b4), .val (.long (own_A v3_1)), .second, .val (.int (1 : Int32))] []))
        refine Goes.via (fun _ kk_ => XS.iconst X8.here hx rfl (hb hby at_171) kk_) ?_
        show Goes p e below _ (T8.setTop (mkF m 172 #[.val (.int x1), .val (.int x2), .val (.int x3), .val (.int v3_1), .val (.int v4_2), .val (.int v5_3), .val (.ref b4), .val (.long (own_A v3_1)), .second, .val (.int (1 : Int32))] [(.int (1 : Int32))]))
        refine Goes.via (fun _ kk_ => XS.goto X8.here hx rfl (pc0 := 172) (pc' := 176) rfl (hb hby at_172) (by decide) (by decide) kk_) ?_
        show Goes p e below _ (T8.setTop (mkF m 176 #[.val (.int x1), .val (.int x2), .val (.int x3), .val (.int v3_1), .val (.int v4_2), .val (.int v5_3), .val (.ref b4), .val (.long (own_A v3_1)), .second, .val (.int (1 : Int32))] [(.int (1 : Int32))]))
        refine Goes.via (fun _ kk_ => XS.istore X8.here hx rfl (hb hby at_176) rfl (l' := #[.val (.int x1), .val (.int x2), .val (.int x3), .val (.int v3_1), .val (.int v4_2), .val (.int v5_3), .val (.ref b4), .val (.long (own_A v3_1)), .second, .val (.int (1 : Int32))]) rfl kk_) ?_
        show Goes p e below _ (T8.setTop (mkF m 178 #[.val (.int x1), .val (.int x2), .val (.int x3), .val (.int v3_1), .val (.int v4_2), .val (.int v5_3), .val (.ref b4), .val (.long (own_A v3_1)), .second, .val (.int (1 : Int32))] []))
        refine Goes.via (fun _ kk_ => XS.iload X8.here hx rfl (hb hby at_178) rfl  kk_) ?_
        show Goes p e below _ (T8.setTop (mkF m 180 #[.val (.int x1), .val (.int x2), .val (.int x3), .val (.int v3_1), .val (.int v4_2), .val (.int v5_3), .val (.ref b4), .val (.long (own_A v3_1)), .second, .val (.int (1 : Int32))] [(.int (1 : Int32))]))
        have K19 : Keep h0 T5.heap [] := (((Keep.refl h0 []).ext E4).trans K5 (allS (Or.inr sz_b4) all0))
        exact own_finN X8 hx hlk hret (by simp) (hb hby at_180) (by rw [e8']; exact ⟨rfl, N8, K19⟩) (by first | decide | omega | (dsimp only; omega)) (by first | decide | omega | (dsimp only; omega))
      · skip
        refine Goes.via (fun _ kk_ => XS.icmpYes X8.here hx rfl (pc0 := 154) (pc' := 178) rfl (hb hby at_154) rfl (flt hc154).2.1 (by decide) (by decide) kk_) ?_
        show Goes p e below _ (T8.setTop (mkF m 178 #[.val (.int x1), .val (.int x2), .val (.int x3), .val (.int v3_1), .val (.int v4_2), .val (.int v5_3), .val (.ref b4), .val (.long (own_A v3_1)), .second, .val (.int (1 : Int32))] []))
        refine Goes.via (fun _ kk_ => XS.iload X8.here hx rfl (hb hby at_178) rfl  kk_) ?_
        show Goes p e below _ (T8.setTop (mkF m 180 #[.val (.int x1), .val (.int x2), .val (.int x3), .val (.int v3_1), .val (.int v4_2), .val (.int v5_3), .val (.ref b4), .val (.long (own_A v3_1)), .second, .val (.int (1 : Int32))] [(.int (1 : Int32))]))
        have K20 : Keep h0 T5.heap [] := (((Keep.refl h0 []).ext E4).trans K5 (allS (Or.inr sz_b4) all0))
        exact own_finN X8 hx hlk hret (by simp) (hb hby at_180) (by rw [e8']; exact ⟨rfl, N8, K20⟩) (by first | decide | omega | (dsimp only; omega)) (by first | decide | omega | (dsimp only; omega))
    · skip
      refine Goes.via (fun _ kk_ => XS.ifYes X8.here hx rfl (pc0 := 101) (pc' := 126) rfl (hb hby at_101) rfl ((if0 _ _).trans (feq hc101).2) (by decide) (by decide) kk_) ?_
      show Goes p e below _ (T8.setTop (mkF m 126 #[.val (.int x1), .val (.int x2), .val (.int x3), .val (.int v3_1), .val (.int v4_2), .val (.int v5_3), .val (.ref b4), .val (.long (own_A v3_1)), .second, .val (.int (1 : Int32))] []))
      refine Goes.via (fun _ kk_ => XS.iload X8.here hx rfl (hb hby at_126) rfl  kk_) ?_
      show Goes p e below _ (T8.setTop (mkF m 128 #[.val (.int x1), .val (.int x2), .val (.int x3), .val (.int v3_1), .val (.int v4_2), .val (.int v5_3), .val (.ref b4), .val (.long (own_A v3_1)), .second, .val (.int (1 : Int32))] [(.int (1 : Int32))]))
      have hc128_21 : ¬ ((1 : Int32) = (0 : Int32)) := (by decide)
      refine Goes.via (fun _ kk_ => XS.ifNo X8.here hx rfl (hb hby at_128) rfl ((if0 _ _).trans (feq hc128_21).1) kk_) ?_
      show Goes p e below _ (T8.setTop (mkF m 131 #[.val (.int x1), .val (.int x2), .val (.int x3), .val (.int v3_1), .val (.int v4_2), .val (.int v5_3), .val (.ref b4), .val (.long (own_A v3_1)), .second, .val (.int (1 : Int32))] []))
      refine Goes.via (fun _ kk_ => XS.lload X8.here hx rfl (hb hby at_131) rfl  kk_) ?_
      show Goes p e below _ (T8.setTop (mkF m 133 #[.val (.int x1), .val (.int x2), .val (.int x3), .val (.int v3_1), .val (.int v4_2), .val (.int v5_3), .val (.ref b4), .val (.long (own_A v3_1)), .second, .val (.int (1 : Int32))] [(.long (own_A v3_1))]))
      refine Goes.via (fun _ kk_ => XS.iloadN X8.here hx rfl (hb hby at_133) rfl  kk_) ?_
      show Goes p e below _ (T8.setTop (mkF m 134 #[.val (.int x1), .val (.int x2), .val (.int x3), .val (.int v3_1), .val (.int v4_2), .val (.int v5_3), .val (.ref b4), .val (.long (own_A v3_1)), .second, .val (.int (1 : Int32))] [(.int v3_1), (.long (own_A v3_1))]))
      refine Goes.via (fun _ kk_ => XS.iconst X8.here hx rfl (hb hby at_134) kk_) ?_
      show Goes p e below _ (T8.setTop (mkF m 135 #[.val (.int x1), .val (.int x2), .val (.int x3), .val (.int v3_1), .val (.int v4_2), .val (.int v5_3), .val (.ref b4), .val (.long (own_A v3_1)), .second, .val (.int (1 : Int32))] [(.int (1 : Int32)), (.int v3_1), (.long (own_A v3_1))]))
      refine Goes.via (fun _ kk_ => XS.isub X8.here hx rfl (hb hby at_135) rfl kk_) ?_
      show Goes p e below _ (T8.setTop (mkF m 136 #[.val (.int x1), .val (.int x2), .val (.int x3), .val (.int v3_1), .val (.int v4_2), .val (.int v5_3), .val (.ref b4), .val (.long (own_A v3_1)), .second, .val (.int (1 : Int32))] [(.int (v3_1 - (1 : Int32))), (.long (own_A v3_1))]))
      refine Goes.via (fun _ kk_ => XS.lushr X8.here hx rfl (hb hby at_136) rfl kk_) ?_
      show Goes p e below _ (T8.setTop (mkF m 137 #[.val (.int x1), .val (.int x2), .val (.int x3), .val (.int v3_1), .val (.int v4_2), .val (.int v5_3), .val (.ref b4), .val (.long (own_A v3_1)), .second, .val (.int (1 : Int32))] [(.long (((own_A v3_1).toUInt64 >>> ((v3_1 - (1 : Int32)) &&& 0x3f).toInt64.toUInt64).toInt64))]))
      refine Goes.via (fun _ kk_ => XS.lconst X8.here hx rfl (hb hby at_137) kk_) ?_
      show Goes p e below _ (T8.setTop (mkF m 138 #[.val (.int x1), .val (.int x2), .val (.int x3), .val (.int v3_1), .val (.int v4_2), .val (.int v5_3), .val (.ref b4), .val (.long (own_A v3_1)), .second, .val (.int (1 : Int32))] [(.long (1 : Int64)), (.long (((own_A v3_1).toUInt64 >>> ((v3_1 - (1 : Int32)) &&& 0x3f).toInt64.toUInt64).toInt64))]))
      refine Goes.via (fun _ kk_ => XS.land X8.here hx rfl (hb hby at_138) rfl kk_) ?_
      show Goes p e below _ (T8.setTop (mkF m 139 #[.val (.int x1), .val (.int x2), .val (.int x3), .val (.int v3_1), .val (.int v4_2), .val (.int v5_3), .val (.ref b4), .val (.long (own_A v3_1)), .second, .val (.int (1 : Int32))] [(.long ((((own_A v3_1).toUInt64 >>> ((v3_1 - (1 : Int32)) &&& 0x3f).toInt64.toUInt64).toInt64) &&& (1 : Int64)))]))
      refine Goes.via (fun _ kk_ => XS.lconst X8.here hx rfl (hb hby at_139) kk_) ?_
      show Goes p e below _ (T8.setTop (mkF m 140 #[.val (.int x1), .val (.int x2), .val (.int x3), .val (.int v3_1), .val (.int v4_2), .val (.int v5_3), .val (.ref b4), .val (.long (own_A v3_1)), .second, .val (.int (1 : Int32))] [(.long (1 : Int64)), (.long ((((own_A v3_1).toUInt64 >>> ((v3_1 - (1 : Int32)) &&& 0x3f).toInt64.toUInt64).toInt64) &&& (1 : Int64)))]))
      refine Goes.via (fun _ kk_ => XS.lcmp X8.here hx rfl (hb hby at_140) rfl kk_) ?_
      show Goes p e below _ (T8.setTop (mkF m 141 #[.val (.int x1), .val (.int x2), .val (.int x3), .val (.int v3_1), .val (.int v4_2), .val (.int v5_3), .val (.ref b4), .val (.long (own_A v3_1)), .second, .val (.int (1 : Int32))] [(.int (lcmpW ((((own_A v3_1).toUInt64 >>> ((v3_1 - (1 : Int32)) &&& 0x3f).toInt64.toUInt64).toInt64) &&& (1 : Int64)) (1 : Int64)))]))
      have hc141_22 : ((((own_A v3_1).toUInt64 >>> ((v3_1 - (1 : Int32)) &&& 0x3f).toInt64.toUInt64).toInt64) &&& (1 : Int64)) = (1 : Int64) := (htop hc101)
      refine Goes.via (fun _ kk_ => XS.ifNo X8.here hx rfl (hb hby at_141) rfl ((if0 _ _).trans (teq ((lw_eq ((((own_A v3_1).toUInt64 >>> ((v3_1 - (1 : Int32)) &&& 0x3f).toInt64.toUInt64).toInt64) &&& (1 : Int64)) (1 : Int64)).mpr hc141_22)).2) kk_) ?_
      show Goes p e below _ (T8.setTop (mkF m 144 #[.val (.int x1), .val (.int x2), .val (.int x3), .val (.int v3_1), .val (.int v4_2), .val (.int v5_3), .val (.ref b4), .val (.long (own_A v3_1)), .second, .val (.int (1 : Int32))] []))
      refine Goes.via (fun _ kk_ => XS.iconst X8.here hx rfl (hb hby at_144) kk_) ?_
      show Goes p e below _ (T8.setTop (mkF m 145 #[.val (.int x1), .val (.int x2), .val (.int x3), .val (.int v3_1), .val (.int v4_2), .val (.int v5_3), .val (.ref b4), .val (.long (own_A v3_1)), .second, .val (.int (1 : Int32))] [(.int (1 : Int32))]))
      refine Goes.via (fun _ kk_ => XS.goto X8.here hx rfl (pc0 := 145) (pc' := 149) rfl (hb hby at_145) (by decide) (by decide) kk_) ?_
      show Goes p e below _ (T8.setTop (mkF m 149 #[.val (.int x1), .val (.int x2), .val (.int x3), .val (.int v3_1), .val (.int v4_2), .val (.int v5_3), .val (.ref b4), .val (.long (own_A v3_1)), .second, .val (.int (1 : Int32))] [(.int (1 : Int32))]))
      refine Goes.via (fun _ kk_ => XS.istore X8.here hx rfl (hb hby at_149) rfl (l' := #[.val (.int x1), .val (.int x2), .val (.int x3), .val (.int v3_1), .val (.int v4_2), .val (.int v5_3), .val (.ref b4), .val (.long (own_A v3_1)), .second, .val (.int (1 : Int32))]) rfl kk_) ?_
      show Goes p e below _ (T8.setTop (mkF m 151 #[.val (.int x1), .val (.int x2), .val (.int x3), .val (.int v3_1), .val (.int v4_2), .val (.int v5_3), .val (.ref b4), .val (.long (own_A v3_1)), .second, .val (.int (1 : Int32))] []))
      refine Goes.via (fun _ kk_ => XS.iloadN X8.here hx rfl (hb hby at_151) rfl  kk_) ?_
      show Goes p e below _ (T8.setTop (mkF m 152 #[.val (.int x1), .val (.int x2), .val (.int x3), .val (.int v3_1), .val (.int v4_2), .val (.int v5_3), .val (.ref b4), .val (.long (own_A v3_1)), .second, .val (.int (1 : Int32))] [(.int v3_1)]))
      refine Goes.via (fun _ kk_ => XS.bipush X8.here hx rfl (hb hby at_152) kk_) ?_
      show Goes p e below _ (T8.setTop (mkF m 154 #[.val (.int x1), .val (.int x2), .val (.int x3), .val (.int v3_1), .val (.int v4_2), .val (.int v5_3), .val (.ref b4), .val (.long (own_A v3_1)), .second, .val (.int (1 : Int32))] [(.int (64 : Int32)), (.int v3_1)]))
      by_cases hc154 : v3_1 < (64 : Int32)
      · skip
        refine Goes.via (fun _ kk_ => XS.icmpNo X8.here hx rfl (hb hby at_154) rfl (tlt hc154).2.1 kk_) ?_
        show Goes p e below _ (T8.setTop (mkF m 157 #[.val (.int x1), .val (.int x2), .val (.int x3), .val (.int v3_1), .val (.int v4_2), .val (.int v5_3), .val (.ref b4), .val (.long (own_A v3_1)), .second, .val (.int (1 : Int32))] []))
        refine Goes.via (fun _ kk_ => XS.iload X8.here hx rfl (hb hby at_157) rfl  kk_) ?_
        show Goes p e below _ (T8.setTop (mkF m 159 #[.val (.int x1), .val (.int x2), .val (.int x3), .val (.int v3_1), .val (.int v4_2), .val (.int v5_3), .val (.ref b4), .val (.long (own_A v3_1)), .second, .val (.int (1 : Int32))] [(.int (1 : Int32))]))
        have hc159_23 : ¬ ((1 : Int32) = (0 : Int32)) := (by decide)
        refine Goes.via (fun _ kk_ => XS.ifNo X8.here hx rfl (hb hby at_159) rfl ((if0 _ _).trans (feq hc159_23).1) kk_) ?_
        show Goes p e below _ (T8.setTop (mkF m 162 #[.val (.int x1), .val (.int x2), .val (.int x3), .val (.int v3_1), .val (.int v4_2), .val (.int v5_3), .val (.ref b4), .val (.long (own_A v3_1)), .second, .val (.int (1 : Int32))] []))
        refine Goes.via (fun _ kk_ => XS.lload X8.here hx rfl (hb hby at_162) rfl  kk_) ?_
        show Goes p e below _ (T8.setTop (mkF m 164 #[.val (.int x1), .val (.int x2), .val (.int x3), .val (.int v3_1), .val (.int v4_2), .val (.int v5_3), .val (.ref b4), .val (.long (own_A v3_1)), .second, .val (.int (1 : Int32))] [(.long (own_A v3_1))]))
        refine Goes.via (fun _ kk_ => XS.iloadN X8.here hx rfl (hb hby at_164) rfl  kk_) ?_
        show Goes p e below _ (T8.setTop (mkF m 165 #[.val (.int x1), .val (.int x2), .val (.int x3), .val (.int v3_1), .val (.int v4_2), .val (.int v5_3), .val (.ref b4), .val (.long (own_A v3_1)), .second, .val (.int (1 : Int32))] [(.int v3_1), (.long (own_A v3_1))]))
        refine Goes.via (fun _ kk_ => XS.lushr X8.here hx rfl (hb hby at_165) rfl kk_) ?_
        show Goes p e below _ (T8.setTop (mkF m 166 #[.val (.int x1), .val (.int x2), .val (.int x3), .val (.int v3_1), .val (.int v4_2), .val (.int v5_3), .val (.ref b4), .val (.long (own_A v3_1)), .second, .val (.int (1 : Int32))] [(.long (((own_A v3_1).toUInt64 >>> (v3_1 &&& 0x3f).toInt64.toUInt64).toInt64))]))
        refine Goes.via (fun _ kk_ => XS.lconst X8.here hx rfl (hb hby at_166) kk_) ?_
        show Goes p e below _ (T8.setTop (mkF m 167 #[.val (.int x1), .val (.int x2), .val (.int x3), .val (.int v3_1), .val (.int v4_2), .val (.int v5_3), .val (.ref b4), .val (.long (own_A v3_1)), .second, .val (.int (1 : Int32))] [(.long (0 : Int64)), (.long (((own_A v3_1).toUInt64 >>> (v3_1 &&& 0x3f).toInt64.toUInt64).toInt64))]))
        refine Goes.via (fun _ kk_ => XS.lcmp X8.here hx rfl (hb hby at_167) rfl kk_) ?_
        show Goes p e below _ (T8.setTop (mkF m 168 #[.val (.int x1), .val (.int x2), .val (.int x3), .val (.int v3_1), .val (.int v4_2), .val (.int v5_3), .val (.ref b4), .val (.long (own_A v3_1)), .second, .val (.int (1 : Int32))] [(.int (lcmpW (((own_A v3_1).toUInt64 >>> (v3_1 &&& 0x3f).toInt64.toUInt64).toInt64) (0 : Int64)))]))
        have hc168_24 : (((own_A v3_1).toUInt64 >>> (v3_1 &&& 0x3f).toInt64.toUInt64).toInt64) = (0 : Int64) := (hover hc154)
        refine Goes.via (fun _ kk_ => XS.ifNo X8.here hx rfl (hb hby at_168) rfl ((if0 _ _).trans (teq ((lw_eq (((own_A v3_1).toUInt64 >>> (v3_1 &&& 0x3f).toInt64.toUInt64).toInt64) (0 : Int64)).mpr hc168_24)).2) kk_) ?_
        show Goes p e below _ (T8.setTop (mkF m 171 #[.val (.int x1), .val (.int x2), .val (.int x3), .val (.int v3_1), .val (.int v4_2), .val (.int v5_3), .val (.ref b4), .val (.long (own_A v3_1)), .second, .val (.int (1 : Int32))] []))
        refine Goes.via (fun _ kk_ => XS.iconst X8.here hx rfl (hb hby at_171) kk_) ?_
        show Goes p e below _ (T8.setTop (mkF m 172 #[.val (.int x1), .val (.int x2), .val (.int x3), .val (.int v3_1), .val (.int v4_2), .val (.int v5_3), .val (.ref b4), .val (.long (own_A v3_1)), .second, .val (.int (1 : Int32))] [(.int (1 : Int32))]))
        refine Goes.via (fun _ kk_ => XS.goto X8.here hx rfl (pc0 := 172) (pc' := 176) rfl (hb hby at_172) (by decide) (by decide) kk_) ?_
        show Goes p e below _ (T8.setTop (mkF m 176 #[.val (.int x1), .val (.int x2), .val (.int x3), .val (.int v3_1), .val (.int v4_2), .val (.int v5_3), .val (.ref b4), .val (.long (own_A v3_1)), .second, .val (.int (1 : Int32))] [(.int (1 : Int32))]))
        refine Goes.via (fun _ kk_ => XS.istore X8.here hx rfl (hb hby at_176) rfl (l' := #[.val (.int x1), .val (.int x2), .val (.int x3), .val (.int v3_1), .val (.int v4_2), .val (.int v5_3), .val (.ref b4), .val (.long (own_A v3_1)), .second, .val (.int (1 : Int32))]) rfl kk_) ?_
        show Goes p e below _ (T8.setTop (mkF m 178 #[.val (.int x1), .val (.int x2), .val (.int x3), .val (.int v3_1), .val (.int v4_2), .val (.int v5_3), .val (.ref b4), .val (.long (own_A v3_1)), .second, .val (.int (1 : Int32))] []))
        refine Goes.via (fun _ kk_ => XS.iload X8.here hx rfl (hb hby at_178) rfl  kk_) ?_
        show Goes p e below _ (T8.setTop (mkF m 180 #[.val (.int x1), .val (.int x2), .val (.int x3), .val (.int v3_1), .val (.int v4_2), .val (.int v5_3), .val (.ref b4), .val (.long (own_A v3_1)), .second, .val (.int (1 : Int32))] [(.int (1 : Int32))]))
        have K25 : Keep h0 T5.heap [] := (((Keep.refl h0 []).ext E4).trans K5 (allS (Or.inr sz_b4) all0))
        exact own_finN X8 hx hlk hret (by simp) (hb hby at_180) (by rw [e8']; exact ⟨rfl, N8, K25⟩) (by first | decide | omega | (dsimp only; omega)) (by first | decide | omega | (dsimp only; omega))
      · skip
        refine Goes.via (fun _ kk_ => XS.icmpYes X8.here hx rfl (pc0 := 154) (pc' := 178) rfl (hb hby at_154) rfl (flt hc154).2.1 (by decide) (by decide) kk_) ?_
        show Goes p e below _ (T8.setTop (mkF m 178 #[.val (.int x1), .val (.int x2), .val (.int x3), .val (.int v3_1), .val (.int v4_2), .val (.int v5_3), .val (.ref b4), .val (.long (own_A v3_1)), .second, .val (.int (1 : Int32))] []))
        refine Goes.via (fun _ kk_ => XS.iload X8.here hx rfl (hb hby at_178) rfl  kk_) ?_
        show Goes p e below _ (T8.setTop (mkF m 180 #[.val (.int x1), .val (.int x2), .val (.int x3), .val (.int v3_1), .val (.int v4_2), .val (.int v5_3), .val (.ref b4), .val (.long (own_A v3_1)), .second, .val (.int (1 : Int32))] [(.int (1 : Int32))]))
        have K26 : Keep h0 T5.heap [] := (((Keep.refl h0 []).ext E4).trans K5 (allS (Or.inr sz_b4) all0))
        exact own_finN X8 hx hlk hret (by simp) (hb hby at_180) (by rw [e8']; exact ⟨rfl, N8, K26⟩) (by first | decide | omega | (dsimp only; omega)) (by first | decide | omega | (dsimp only; omega))
  · skip
    show Goes p e below _ (T8.setTop (mkF m 38 #[.val (.int x1), .val (.int x2), .val (.int x3), .val (.int v3_1), .val (.int v4_2), .val (.int v5_3), .val (.ref b4), .val (.long (own_A v3_1)), .second, .unset] []))
    refine Goes.via (fun _ kk_ => XS.lload X8.here hx rfl (hb hby at_38) rfl  kk_) ?_
    show Goes p e below _ (T8.setTop (mkF m 40 #[.val (.int x1), .val (.int x2), .val (.int x3), .val (.int v3_1), .val (.int v4_2), .val (.int v5_3), .val (.ref b4), .val (.long (own_A v3_1)), .second, .unset] [(.long (own_A v3_1))]))
    refine Goes.via (fun _ kk_ => XS.iload X8.here hx rfl (hb hby at_40) rfl  kk_) ?_
    show Goes p e below _ (T8.setTop (mkF m 42 #[.val (.int x1), .val (.int x2), .val (.int x3), .val (.int v3_1), .val (.int v4_2), .val (.int v5_3), .val (.ref b4), .val (.long (own_A v3_1)), .second, .unset] [(.int v5_3), (.long (own_A v3_1))]))
    refine Goes.via (fun _ kk_ => XS.lushr X8.here hx rfl (hb hby at_42) rfl kk_) ?_
    show Goes p e below _ (T8.setTop (mkF m 43 #[.val (.int x1), .val (.int x2), .val (.int x3), .val (.int v3_1), .val (.int v4_2), .val (.int v5_3), .val (.ref b4), .val (.long (own_A v3_1)), .second, .unset] [(.long (((own_A v3_1).toUInt64 >>> (v5_3 &&& 0x3f).toInt64.toUInt64).toInt64))]))
    refine Goes.via (fun _ kk_ => XS.lconst X8.here hx rfl (hb hby at_43) kk_) ?_
    show Goes p e below _ (T8.setTop (mkF m 44 #[.val (.int x1), .val (.int x2), .val (.int x3), .val (.int v3_1), .val (.int v4_2), .val (.int v5_3), .val (.ref b4), .val (.long (own_A v3_1)), .second, .unset] [(.long (1 : Int64)), (.long (((own_A v3_1).toUInt64 >>> (v5_3 &&& 0x3f).toInt64.toUInt64).toInt64))]))
    refine Goes.via (fun _ kk_ => XS.land X8.here hx rfl (hb hby at_44) rfl kk_) ?_
    show Goes p e below _ (T8.setTop (mkF m 45 #[.val (.int x1), .val (.int x2), .val (.int x3), .val (.int v3_1), .val (.int v4_2), .val (.int v5_3), .val (.ref b4), .val (.long (own_A v3_1)), .second, .unset] [(.long ((((own_A v3_1).toUInt64 >>> (v5_3 &&& 0x3f).toInt64.toUInt64).toInt64) &&& (1 : Int64)))]))
    refine Goes.via (fun _ kk_ => XS.lconst X8.here hx rfl (hb hby at_45) kk_) ?_
    show Goes p e below _ (T8.setTop (mkF m 46 #[.val (.int x1), .val (.int x2), .val (.int x3), .val (.int v3_1), .val (.int v4_2), .val (.int v5_3), .val (.ref b4), .val (.long (own_A v3_1)), .second, .unset] [(.long (0 : Int64)), (.long ((((own_A v3_1).toUInt64 >>> (v5_3 &&& 0x3f).toInt64.toUInt64).toInt64) &&& (1 : Int64)))]))
    refine Goes.via (fun _ kk_ => XS.lcmp X8.here hx rfl (hb hby at_46) rfl kk_) ?_
    show Goes p e below _ (T8.setTop (mkF m 47 #[.val (.int x1), .val (.int x2), .val (.int x3), .val (.int v3_1), .val (.int v4_2), .val (.int v5_3), .val (.ref b4), .val (.long (own_A v3_1)), .second, .unset] [(.int (lcmpW ((((own_A v3_1).toUInt64 >>> (v5_3 &&& 0x3f).toInt64.toUInt64).toInt64) &&& (1 : Int64)) (0 : Int64)))]))
    have hc47_27 : ((((own_A v3_1).toUInt64 >>> (v5_3 &&& 0x3f).toInt64.toUInt64).toInt64) &&& (1 : Int64)) = (0 : Int64) := (hbit.mpr hum)
    refine Goes.via (fun _ kk_ => XS.ifYes X8.here hx rfl (pc0 := 47) (pc' := 54) rfl (hb hby at_47) rfl ((if0 _ _).trans (teq ((lw_eq ((((own_A v3_1).toUInt64 >>> (v5_3 &&& 0x3f).toInt64.toUInt64).toInt64) &&& (1 : Int64)) (0 : Int64)).mpr hc47_27)).1) (by decide) (by decide) kk_) ?_
    show Goes p e below _ (T8.setTop (mkF m 54 #[.val (.int x1), .val (.int x2), .val (.int x3), .val (.int v3_1), .val (.int v4_2), .val (.int v5_3), .val (.ref b4), .val (.long (own_A v3_1)), .second, .unset] []))
    refine Goes.via (fun _ kk_ => XS.iconst X8.here hx rfl (hb hby at_54) kk_) ?_
    show Goes p e below _ (T8.setTop (mkF m 55 #[.val (.int x1), .val (.int x2), .val (.int x3), .val (.int v3_1), .val (.int v4_2), .val (.int v5_3), .val (.ref b4), .val (.long (own_A v3_1)), .second, .unset] [(.int (0 : Int32))]))
    refine Goes.via (fun _ kk_ => XS.iload X8.here hx rfl (hb hby at_55) rfl  kk_) ?_
    show Goes p e below _ (T8.setTop (mkF m 57 #[.val (.int x1), .val (.int x2), .val (.int x3), .val (.int v3_1), .val (.int v4_2), .val (.int v5_3), .val (.ref b4), .val (.long (own_A v3_1)), .second, .unset] [(.int v5_3), (.int (0 : Int32))]))
    refine Goes.via (fun _ kk_ => XS.iloadN X8.here hx rfl (hb hby at_57) rfl  kk_) ?_
    show Goes p e below _ (T8.setTop (mkF m 58 #[.val (.int x1), .val (.int x2), .val (.int x3), .val (.int v3_1), .val (.int v4_2), .val (.int v5_3), .val (.ref b4), .val (.long (own_A v3_1)), .second, .unset] [(.int v3_1), (.int v5_3), (.int (0 : Int32))]))
    have hc58_28 : ¬ (v5_3 < v3_1) := hum
    refine Goes.via (fun _ kk_ => XS.icmpYes X8.here hx rfl (pc0 := 58) (pc' := 65) rfl (hb hby at_58) rfl (flt hc58_28).2.1 (by decide) (by decide) kk_) ?_
    show Goes p e below _ (T8.setTop (mkF m 65 #[.val (.int x1), .val (.int x2), .val (.int x3), .val (.int v3_1), .val (.int v4_2), .val (.int v5_3), .val (.ref b4), .val (.long (own_A v3_1)), .second, .unset] [(.int (0 : Int32))]))
    refine Goes.via (fun _ kk_ => XS.iconst X8.here hx rfl (hb hby at_65) kk_) ?_
    show Goes p e below _ (T8.setTop (mkF m 66 #[.val (.int x1), .val (.int x2), .val (.int x3), .val (.int v3_1), .val (.int v4_2), .val (.int v5_3), .val (.ref b4), .val (.long (own_A v3_1)), .second, .unset] [(.int (0 : Int32)), (.int (0 : Int32))]))
    have hc66_29 : (0 : Int32) = (0 : Int32) := (by decide)
    refine Goes.via (fun _ kk_ => XS.icmpNo X8.here hx rfl (hb hby at_66) rfl (teq hc66_29).2 kk_) ?_
    show Goes p e below _ (T8.setTop (mkF m 69 #[.val (.int x1), .val (.int x2), .val (.int x3), .val (.int v3_1), .val (.int v4_2), .val (.int v5_3), .val (.ref b4), .val (.long (own_A v3_1)), .second, .unset] []))
    refine Goes.via (fun _ kk_ => XS.iconst X8.here hx rfl (hb hby at_69) kk_) ?_
    show Goes p e below _ (T8.setTop (mkF m 70 #[.val (.int x1), .val (.int x2), .val (.int x3), .val (.int v3_1), .val (.int v4_2), .val (.int v5_3), .val (.ref b4), .val (.long (own_A v3_1)), .second, .unset] [(.int (1 : Int32))]))
    refine Goes.via (fun _ kk_ => XS.goto X8.here hx rfl (pc0 := 70) (pc' := 74) rfl (hb hby at_70) (by decide) (by decide) kk_) ?_
    show Goes p e below _ (T8.setTop (mkF m 74 #[.val (.int x1), .val (.int x2), .val (.int x3), .val (.int v3_1), .val (.int v4_2), .val (.int v5_3), .val (.ref b4), .val (.long (own_A v3_1)), .second, .unset] [(.int (1 : Int32))]))
    refine Goes.via (fun _ kk_ => XS.istore X8.here hx rfl (hb hby at_74) rfl (l' := #[.val (.int x1), .val (.int x2), .val (.int x3), .val (.int v3_1), .val (.int v4_2), .val (.int v5_3), .val (.ref b4), .val (.long (own_A v3_1)), .second, .val (.int (1 : Int32))]) rfl kk_) ?_
    show Goes p e below _ (T8.setTop (mkF m 76 #[.val (.int x1), .val (.int x2), .val (.int x3), .val (.int v3_1), .val (.int v4_2), .val (.int v5_3), .val (.ref b4), .val (.long (own_A v3_1)), .second, .val (.int (1 : Int32))] []))
    refine Goes.via (fun _ kk_ => XS.iload X8.here hx rfl (hb hby at_76) rfl  kk_) ?_
    show Goes p e below _ (T8.setTop (mkF m 78 #[.val (.int x1), .val (.int x2), .val (.int x3), .val (.int v3_1), .val (.int v4_2), .val (.int v5_3), .val (.ref b4), .val (.long (own_A v3_1)), .second, .val (.int (1 : Int32))] [(.int (1 : Int32))]))
    have hc78_30 : ¬ ((1 : Int32) = (0 : Int32)) := (by decide)
    refine Goes.via (fun _ kk_ => XS.ifNo X8.here hx rfl (hb hby at_78) rfl ((if0 _ _).trans (feq hc78_30).1) kk_) ?_
    show Goes p e below _ (T8.setTop (mkF m 81 #[.val (.int x1), .val (.int x2), .val (.int x3), .val (.int v3_1), .val (.int v4_2), .val (.int v5_3), .val (.ref b4), .val (.long (own_A v3_1)), .second, .val (.int (1 : Int32))] []))
    refine Goes.via (fun _ kk_ => XS.lload X8.here hx rfl (hb hby at_81) rfl  kk_) ?_
    show Goes p e below _ (T8.setTop (mkF m 83 #[.val (.int x1), .val (.int x2), .val (.int x3), .val (.int v3_1), .val (.int v4_2), .val (.int v5_3), .val (.ref b4), .val (.long (own_A v3_1)), .second, .val (.int (1 : Int32))] [(.long (own_A v3_1))]))
    refine Goes.via (fun _ kk_ => XS.lload X8.here hx rfl (hb hby at_83) rfl  kk_) ?_
    show Goes p e below _ (T8.setTop (mkF m 85 #[.val (.int x1), .val (.int x2), .val (.int x3), .val (.int v3_1), .val (.int v4_2), .val (.int v5_3), .val (.ref b4), .val (.long (own_A v3_1)), .second, .val (.int (1 : Int32))] [(.long (own_A v3_1)), (.long (own_A v3_1))]))
    refine Goes.via (fun _ kk_ => XS.lconst X8.here hx rfl (hb hby at_85) kk_) ?_
    show Goes p e below _ (T8.setTop (mkF m 86 #[.val (.int x1), .val (.int x2), .val (.int x3), .val (.int v3_1), .val (.int v4_2), .val (.int v5_3), .val (.ref b4), .val (.long (own_A v3_1)), .second, .val (.int (1 : Int32))] [(.long (1 : Int64)), (.long (own_A v3_1)), (.long (own_A v3_1))]))
    refine Goes.via (fun _ kk_ => XS.ladd X8.here hx rfl (hb hby at_86) rfl kk_) ?_
    show Goes p e below _ (T8.setTop (mkF m 87 #[.val (.int x1), .val (.int x2), .val (.int x3), .val (.int v3_1), .val (.int v4_2), .val (.int v5_3), .val (.ref b4), .val (.long (own_A v3_1)), .second, .val (.int (1 : Int32))] [(.long ((own_A v3_1) + (1 : Int64))), (.long (own_A v3_1))]))
    refine Goes.via (fun _ kk_ => XS.land X8.here hx rfl (hb hby at_87) rfl kk_) ?_
    show Goes p e below _ (T8.setTop (mkF m 88 #[.val (.int x1), .val (.int x2), .val (.int x3), .val (.int v3_1), .val (.int v4_2), .val (.int v5_3), .val (.ref b4), .val (.long (own_A v3_1)), .second, .val (.int (1 : Int32))] [(.long ((own_A v3_1) &&& ((own_A v3_1) + (1 : Int64))))]))
    refine Goes.via (fun _ kk_ => XS.lconst X8.here hx rfl (hb hby at_88) kk_) ?_
    show Goes p e below _ (T8.setTop (mkF m 89 #[.val (.int x1), .val (.int x2), .val (.int x3), .val (.int v3_1), .val (.int v4_2), .val (.int v5_3), .val (.ref b4), .val (.long (own_A v3_1)), .second, .val (.int (1 : Int32))] [(.long (0 : Int64)), (.long ((own_A v3_1) &&& ((own_A v3_1) + (1 : Int64))))]))
    refine Goes.via (fun _ kk_ => XS.lcmp X8.here hx rfl (hb hby at_89) rfl kk_) ?_
    show Goes p e below _ (T8.setTop (mkF m 90 #[.val (.int x1), .val (.int x2), .val (.int x3), .val (.int v3_1), .val (.int v4_2), .val (.int v5_3), .val (.ref b4), .val (.long (own_A v3_1)), .second, .val (.int (1 : Int32))] [(.int (lcmpW ((own_A v3_1) &&& ((own_A v3_1) + (1 : Int64))) (0 : Int64)))]))
    have hc90_31 : ((own_A v3_1) &&& ((own_A v3_1) + (1 : Int64))) = (0 : Int64) := hrun
    refine Goes.via (fun _ kk_ => XS.ifNo X8.here hx rfl (hb hby at_90) rfl ((if0 _ _).trans (teq ((lw_eq ((own_A v3_1) &&& ((own_A v3_1) + (1 : Int64))) (0 : Int64)).mpr hc90_31)).2) kk_) ?_
    show Goes p e below _ (T8.setTop (mkF m 93 #[.val (.int x1), .val (.int x2), .val (.int x3), .val (.int v3_1), .val (.int v4_2), .val (.int v5_3), .val (.ref b4), .val (.long (own_A v3_1)), .second, .val (.int (1 : Int32))] []))
    refine Goes.via (fun _ kk_ => XS.iconst X8.here hx rfl (hb hby at_93) kk_) ?_
    show Goes p e below _ (T8.setTop (mkF m 94 #[.val (.int x1), .val (.int x2), .val (.int x3), .val (.int v3_1), .val (.int v4_2), .val (.int v5_3), .val (.ref b4), .val (.long (own_A v3_1)), .second, .val (.int (1 : Int32))] [(.int (1 : Int32))]))
    refine Goes.via (fun _ kk_ => XS.goto X8.here hx rfl (pc0 := 94) (pc' := 98) rfl (hb hby at_94) (by decide) (by decide) kk_) ?_
    show Goes p e below _ (T8.setTop (mkF m 98 #[.val (.int x1), .val (.int x2), .val (.int x3), .val (.int v3_1), .val (.int v4_2), .val (.int v5_3), .val (.ref b4), .val (.long (own_A v3_1)), .second, .val (.int (1 : Int32))] [(.int (1 : Int32))]))
    refine Goes.via (fun _ kk_ => XS.istore X8.here hx rfl (hb hby at_98) rfl (l' := #[.val (.int x1), .val (.int x2), .val (.int x3), .val (.int v3_1), .val (.int v4_2), .val (.int v5_3), .val (.ref b4), .val (.long (own_A v3_1)), .second, .val (.int (1 : Int32))]) rfl kk_) ?_
    show Goes p e below _ (T8.setTop (mkF m 100 #[.val (.int x1), .val (.int x2), .val (.int x3), .val (.int v3_1), .val (.int v4_2), .val (.int v5_3), .val (.ref b4), .val (.long (own_A v3_1)), .second, .val (.int (1 : Int32))] []))
    refine Goes.via (fun _ kk_ => XS.iloadN X8.here hx rfl (hb hby at_100) rfl  kk_) ?_
    show Goes p e below _ (T8.setTop (mkF m 101 #[.val (.int x1), .val (.int x2), .val (.int x3), .val (.int v3_1), .val (.int v4_2), .val (.int v5_3), .val (.ref b4), .val (.long (own_A v3_1)), .second, .val (.int (1 : Int32))] [(.int v3_1)]))
    by_cases hc101 : v3_1 = (0 : Int32)
    · skip
      refine Goes.via (fun _ kk_ => XS.ifNo X8.here hx rfl (hb hby at_101) rfl ((if0 _ _).trans (teq hc101).2) kk_) ?_
      show Goes p e below _ (T8.setTop (mkF m 104 #[.val (.int x1), .val (.int x2), .val (.int x3), .val (.int v3_1), .val (.int v4_2), .val (.int v5_3), .val (.ref b4), .val (.long (own_A v3_1)), .second, .val (.int (1 : Int32))] []))
      refine Goes.via (fun _ kk_ => XS.iload X8.here hx rfl (hb hby at_104) rfl  kk_) ?_
      show Goes p e below _ (T8.setTop (mkF m 106 #[.val (.int x1), .val (.int x2), .val (.int x3), .val (.int v3_1), .val (.int v4_2), .val (.int v5_3), .val (.ref b4), .val (.long (own_A v3_1)), .second, .val (.int (1 : Int32))] [(.int (1 : Int32))]))
      have hc106_32 : ¬ ((1 : Int32) = (0 : Int32)) := (by decide)
      refine Goes.via (fun _ kk_ => XS.ifNo X8.here hx rfl (hb hby at_106) rfl ((if0 _ _).trans (feq hc106_32).1) kk_) ?_
      show Goes p e below _ (T8.setTop (mkF m 109 #[.val (.int x1), .val (.int x2), .val (.int x3), .val (.int v3_1), .val (.int v4_2), .val (.int v5_3), .val (.ref b4), .val (.long (own_A v3_1)), .second, .val (.int (1 : Int32))] []))
      refine Goes.via (fun _ kk_ => XS.lload X8.here hx rfl (hb hby at_109) rfl  kk_) ?_
      show Goes p e below _ (T8.setTop (mkF m 111 #[.val (.int x1), .val (.int x2), .val (.int x3), .val (.int v3_1), .val (.int v4_2), .val (.int v5_3), .val (.ref b4), .val (.long (own_A v3_1)), .second, .val (.int (1 : Int32))] [(.long (own_A v3_1))]))
      refine Goes.via (fun _ kk_ => XS.lconst X8.here hx rfl (hb hby at_111) kk_) ?_
      show Goes p e below _ (T8.setTop (mkF m 112 #[.val (.int x1), .val (.int x2), .val (.int x3), .val (.int v3_1), .val (.int v4_2), .val (.int v5_3), .val (.ref b4), .val (.long (own_A v3_1)), .second, .val (.int (1 : Int32))] [(.long (0 : Int64)), (.long (own_A v3_1))]))
      refine Goes.via (fun _ kk_ => XS.lcmp X8.here hx rfl (hb hby at_112) rfl kk_) ?_
      show Goes p e below _ (T8.setTop (mkF m 113 #[.val (.int x1), .val (.int x2), .val (.int x3), .val (.int v3_1), .val (.int v4_2), .val (.int v5_3), .val (.ref b4), .val (.long (own_A v3_1)), .second, .val (.int (1 : Int32))] [(.int (lcmpW (own_A v3_1) (0 : Int64)))]))
      have hc113_33 : (own_A v3_1) = (0 : Int64) := (by rw [hc101]; decide)
      refine Goes.via (fun _ kk_ => XS.ifNo X8.here hx rfl (hb hby at_113) rfl ((if0 _ _).trans (teq ((lw_eq (own_A v3_1) (0 : Int64)).mpr hc113_33)).2) kk_) ?_
      show Goes p e below _ (T8.setTop (mkF m 116 #[.val (.int x1), .val (.int x2), .val (.int x3), .val (.int v3_1), .val (.int v4_2), .val (.int v5_3), .val (.ref b4), .val (.long (own_A v3_1)), .second, .val (.int (1 : Int32))] []))
      refine Goes.via (fun _ kk_ => XS.iconst X8.here hx rfl (hb hby at_116) kk_) ?_
      show Goes p e below _ (T8.setTop (mkF m 117 #[.val (.int x1), .val (.int x2), .val (.int x3), .val (.int v3_1), .val (.int v4_2), .val (.int v5_3), .val (.ref b4), .val (.long (own_A v3_1)), .second, .val (.int (1 : Int32))] [(.int (1 : Int32))]))
      refine Goes.via (fun _ kk_ => XS.goto X8.here hx rfl (pc0 := 117) (pc' := 121) rfl (hb hby at_117) (by decide) (by decide) kk_) ?_
      show Goes p e below _ (T8.setTop (mkF m 121 #[.val (.int x1), .val (.int x2), .val (.int x3), .val (.int v3_1), .val (.int v4_2), .val (.int v5_3), .val (.ref b4), .val (.long (own_A v3_1)), .second, .val (.int (1 : Int32))] [(.int (1 : Int32))]))
      refine Goes.via (fun _ kk_ => XS.istore X8.here hx rfl (hb hby at_121) rfl (l' := #[.val (.int x1), .val (.int x2), .val (.int x3), .val (.int v3_1), .val (.int v4_2), .val (.int v5_3), .val (.ref b4), .val (.long (own_A v3_1)), .second, .val (.int (1 : Int32))]) rfl kk_) ?_
      show Goes p e below _ (T8.setTop (mkF m 123 #[.val (.int x1), .val (.int x2), .val (.int x3), .val (.int v3_1), .val (.int v4_2), .val (.int v5_3), .val (.ref b4), .val (.long (own_A v3_1)), .second, .val (.int (1 : Int32))] []))
      refine Goes.via (fun _ kk_ => XS.goto X8.here hx rfl (pc0 := 123) (pc' := 151) rfl (hb hby at_123) (by decide) (by decide) kk_) ?_
      show Goes p e below _ (T8.setTop (mkF m 151 #[.val (.int x1), .val (.int x2), .val (.int x3), .val (.int v3_1), .val (.int v4_2), .val (.int v5_3), .val (.ref b4), .val (.long (own_A v3_1)), .second, .val (.int (1 : Int32))] []))
      refine Goes.via (fun _ kk_ => XS.iloadN X8.here hx rfl (hb hby at_151) rfl  kk_) ?_
      show Goes p e below _ (T8.setTop (mkF m 152 #[.val (.int x1), .val (.int x2), .val (.int x3), .val (.int v3_1), .val (.int v4_2), .val (.int v5_3), .val (.ref b4), .val (.long (own_A v3_1)), .second, .val (.int (1 : Int32))] [(.int v3_1)]))
      refine Goes.via (fun _ kk_ => XS.bipush X8.here hx rfl (hb hby at_152) kk_) ?_
      show Goes p e below _ (T8.setTop (mkF m 154 #[.val (.int x1), .val (.int x2), .val (.int x3), .val (.int v3_1), .val (.int v4_2), .val (.int v5_3), .val (.ref b4), .val (.long (own_A v3_1)), .second, .val (.int (1 : Int32))] [(.int (64 : Int32)), (.int v3_1)]))
      by_cases hc154 : v3_1 < (64 : Int32)
      · skip
        refine Goes.via (fun _ kk_ => XS.icmpNo X8.here hx rfl (hb hby at_154) rfl (tlt hc154).2.1 kk_) ?_
        show Goes p e below _ (T8.setTop (mkF m 157 #[.val (.int x1), .val (.int x2), .val (.int x3), .val (.int v3_1), .val (.int v4_2), .val (.int v5_3), .val (.ref b4), .val (.long (own_A v3_1)), .second, .val (.int (1 : Int32))] []))
        refine Goes.via (fun _ kk_ => XS.iload X8.here hx rfl (hb hby at_157) rfl  kk_) ?_
        show Goes p e below _ (T8.setTop (mkF m 159 #[.val (.int x1), .val (.int x2), .val (.int x3), .val (.int v3_1), .val (.int v4_2), .val (.int v5_3), .val (.ref b4), .val (.long (own_A v3_1)), .second, .val (.int (1 : Int32))] [(.int (1 : Int32))]))
        have hc159_34 : ¬ ((1 : Int32) = (0 : Int32)) := (by decide)
        refine Goes.via (fun _ kk_ => XS.ifNo X8.here hx rfl (hb hby at_159) rfl ((if0 _ _).trans (feq hc159_34).1) kk_) ?_
        show Goes p e below _ (T8.setTop (mkF m 162 #[.val (.int x1), .val (.int x2), .val (.int x3), .val (.int v3_1), .val (.int v4_2), .val (.int v5_3), .val (.ref b4), .val (.long (own_A v3_1)), .second, .val (.int (1 : Int32))] []))
        refine Goes.via (fun _ kk_ => XS.lload X8.here hx rfl (hb hby at_162) rfl  kk_) ?_
        show Goes p e below _ (T8.setTop (mkF m 164 #[.val (.int x1), .val (.int x2), .val (.int x3), .val (.int v3_1), .val (.int v4_2), .val (.int v5_3), .val (.ref b4), .val (.long (own_A v3_1)), .second, .val (.int (1 : Int32))] [(.long (own_A v3_1))]))
        refine Goes.via (fun _ kk_ => XS.iloadN X8.here hx rfl (hb hby at_164) rfl  kk_) ?_
        show Goes p e below _ (T8.setTop (mkF m 165 #[.val (.int x1), .val (.int x2), .val (.int x3), .val (.int v3_1), .val (.int v4_2), .val (.int v5_3), .val (.ref b4), .val (.long (own_A v3_1)), .second, .val (.int (1 : Int32))] [(.int v3_1), (.long (own_A v3_1))]))
        refine Goes.via (fun _ kk_ => XS.lushr X8.here hx rfl (hb hby at_165) rfl kk_) ?_
        show Goes p e below _ (T8.setTop (mkF m 166 #[.val (.int x1), .val (.int x2), .val (.int x3), .val (.int v3_1), .val (.int v4_2), .val (.int v5_3), .val (.ref b4), .val (.long (own_A v3_1)), .second, .val (.int (1 : Int32))] [(.long (((own_A v3_1).toUInt64 >>> (v3_1 &&& 0x3f).toInt64.toUInt64).toInt64))]))
        refine Goes.via (fun _ kk_ => XS.lconst X8.here hx rfl (hb hby at_166) kk_) ?_
        show Goes p e below _ (T8.setTop (mkF m 167 #[.val (.int x1), .val (.int x2), .val (.int x3), .val (.int v3_1), .val (.int v4_2), .val (.int v5_3), .val (.ref b4), .val (.long (own_A v3_1)), .second, .val (.int (1 : Int32))] [(.long (0 : Int64)), (.long (((own_A v3_1).toUInt64 >>> (v3_1 &&& 0x3f).toInt64.toUInt64).toInt64))]))
        refine Goes.via (fun _ kk_ => XS.lcmp X8.here hx rfl (hb hby at_167) rfl kk_) ?_
        show Goes p e below _ (T8.setTop (mkF m 168 #[.val (.int x1), .val (.int x2), .val (.int x3), .val (.int v3_1), .val (.int v4_2), .val (.int v5_3), .val (.ref b4), .val (.long (own_A v3_1)), .second, .val (.int (1 : Int32))] [(.int (lcmpW (((own_A v3_1).toUInt64 >>> (v3_1 &&& 0x3f).toInt64.toUInt64).toInt64) (0 : Int64)))]))
        have hc168_35 : (((own_A v3_1).toUInt64 >>> (v3_1 &&& 0x3f).toInt64.toUInt64).toInt64) = (0 : Int64) := (hover hc154)
        refine Goes.via (fun _ kk_ => XS.ifNo X8.here hx rfl (hb hby at_168) rfl ((if0 _ _).trans (teq ((lw_eq (((own_A v3_1).toUInt64 >>> (v3_1 &&& 0x3f).toInt64.toUInt64).toInt64) (0 : Int64)).mpr hc168_35)).2) kk_) ?_
        show Goes p e below _ (T8.setTop (mkF m 171 #[.val (.int x1), .val (.int x2), .val (.int x3), .val (.int v3_1), .val (.int v4_2), .val (.int v5_3), .val (.ref b4), .val (.long (own_A v3_1)), .second, .val (.int (1 : Int32))] []))
        refine Goes.via (fun _ kk_ => XS.iconst X8.here hx rfl (hb hby at_171) kk_) ?_
        show Goes p e below _ (T8.setTop (mkF m 172 #[.val (.int x1), .val (.int x2), .val (.int x3), .val (.int v3_1), .val (.int v4_2), .val (.int v5_3), .val (.ref b4), .val (.long (own_A v3_1)), .second, .val (.int (1 : Int32))] [(.int (1 : Int32))]))
        refine Goes.via (fun _ kk_ => XS.goto X8.here hx rfl (pc0 := 172) (pc' := 176) rfl (hb hby at_172) (by decide) (by decide) kk_) ?_
        show Goes p e below _ (T8.setTop (mkF m 176 #[.val (.int x1), .val (.int x2), .val (.int x3), .val (.int v3_1), .val (.int v4_2), .val (.int v5_3), .val (.ref b4), .val (.long (own_A v3_1)), .second, .val (.int (1 : Int32))] [(.int (1 : Int32))]))
        refine Goes.via (fun _ kk_ => XS.istore X8.here hx rfl (hb hby at_176) rfl (l' := #[.val (.int x1), .val (.int x2), .val (.int x3), .val (.int v3_1), .val (.int v4_2), .val (.int v5_3), .val (.ref b4), .val (.long (own_A v3_1)), .second, .val (.int (1 : Int32))]) rfl kk_) ?_
        show Goes p e below _ (T8.setTop (mkF m 178 #[.val (.int x1), .val (.int x2), .val (.int x3), .val (.int v3_1), .val (.int v4_2), .val (.int v5_3), .val (.ref b4), .val (.long (own_A v3_1)), .second, .val (.int (1 : Int32))] []))
        refine Goes.via (fun _ kk_ => XS.iload X8.here hx rfl (hb hby at_178) rfl  kk_) ?_
        show Goes p e below _ (T8.setTop (mkF m 180 #[.val (.int x1), .val (.int x2), .val (.int x3), .val (.int v3_1), .val (.int v4_2), .val (.int v5_3), .val (.ref b4), .val (.long (own_A v3_1)), .second, .val (.int (1 : Int32))] [(.int (1 : Int32))]))
        have K36 : Keep h0 T5.heap [] := (((Keep.refl h0 []).ext E4).trans K5 (allS (Or.inr sz_b4) all0))
        exact own_finN X8 hx hlk hret (by simp) (hb hby at_180) (by rw [e8']; exact ⟨rfl, N8, K36⟩) (by first | decide | omega | (dsimp only; omega)) (by first | decide | omega | (dsimp only; omega))
      · skip
        refine Goes.via (fun _ kk_ => XS.icmpYes X8.here hx rfl (pc0 := 154) (pc' := 178) rfl (hb hby at_154) rfl (flt hc154).2.1 (by decide) (by decide) kk_) ?_
        show Goes p e below _ (T8.setTop (mkF m 178 #[.val (.int x1), .val (.int x2), .val (.int x3), .val (.int v3_1), .val (.int v4_2), .val (.int v5_3), .val (.ref b4), .val (.long (own_A v3_1)), .second, .val (.int (1 : Int32))] []))
        refine Goes.via (fun _ kk_ => XS.iload X8.here hx rfl (hb hby at_178) rfl  kk_) ?_
        show Goes p e below _ (T8.setTop (mkF m 180 #[.val (.int x1), .val (.int x2), .val (.int x3), .val (.int v3_1), .val (.int v4_2), .val (.int v5_3), .val (.ref b4), .val (.long (own_A v3_1)), .second, .val (.int (1 : Int32))] [(.int (1 : Int32))]))
        have K37 : Keep h0 T5.heap [] := (((Keep.refl h0 []).ext E4).trans K5 (allS (Or.inr sz_b4) all0))
        exact own_finN X8 hx hlk hret (by simp) (hb hby at_180) (by rw [e8']; exact ⟨rfl, N8, K37⟩) (by first | decide | omega | (dsimp only; omega)) (by first | decide | omega | (dsimp only; omega))
    · skip
      refine Goes.via (fun _ kk_ => XS.ifYes X8.here hx rfl (pc0 := 101) (pc' := 126) rfl (hb hby at_101) rfl ((if0 _ _).trans (feq hc101).2) (by decide) (by decide) kk_) ?_
      show Goes p e below _ (T8.setTop (mkF m 126 #[.val (.int x1), .val (.int x2), .val (.int x3), .val (.int v3_1), .val (.int v4_2), .val (.int v5_3), .val (.ref b4), .val (.long (own_A v3_1)), .second, .val (.int (1 : Int32))] []))
      refine Goes.via (fun _ kk_ => XS.iload X8.here hx rfl (hb hby at_126) rfl  kk_) ?_
      show Goes p e below _ (T8.setTop (mkF m 128 #[.val (.int x1), .val (.int x2), .val (.int x3), .val (.int v3_1), .val (.int v4_2), .val (.int v5_3), .val (.ref b4), .val (.long (own_A v3_1)), .second, .val (.int (1 : Int32))] [(.int (1 : Int32))]))
      have hc128_38 : ¬ ((1 : Int32) = (0 : Int32)) := (by decide)
      refine Goes.via (fun _ kk_ => XS.ifNo X8.here hx rfl (hb hby at_128) rfl ((if0 _ _).trans (feq hc128_38).1) kk_) ?_
      show Goes p e below _ (T8.setTop (mkF m 131 #[.val (.int x1), .val (.int x2), .val (.int x3), .val (.int v3_1), .val (.int v4_2), .val (.int v5_3), .val (.ref b4), .val (.long (own_A v3_1)), .second, .val (.int (1 : Int32))] []))
      refine Goes.via (fun _ kk_ => XS.lload X8.here hx rfl (hb hby at_131) rfl  kk_) ?_
      show Goes p e below _ (T8.setTop (mkF m 133 #[.val (.int x1), .val (.int x2), .val (.int x3), .val (.int v3_1), .val (.int v4_2), .val (.int v5_3), .val (.ref b4), .val (.long (own_A v3_1)), .second, .val (.int (1 : Int32))] [(.long (own_A v3_1))]))
      refine Goes.via (fun _ kk_ => XS.iloadN X8.here hx rfl (hb hby at_133) rfl  kk_) ?_
      show Goes p e below _ (T8.setTop (mkF m 134 #[.val (.int x1), .val (.int x2), .val (.int x3), .val (.int v3_1), .val (.int v4_2), .val (.int v5_3), .val (.ref b4), .val (.long (own_A v3_1)), .second, .val (.int (1 : Int32))] [(.int v3_1), (.long (own_A v3_1))]))
      refine Goes.via (fun _ kk_ => XS.iconst X8.here hx rfl (hb hby at_134) kk_) ?_
      show Goes p e below _ (T8.setTop (mkF m 135 #[.val (.int x1), .val (.int x2), .val (.int x3), .val (.int v3_1), .val (.int v4_2), .val (.int v5_3), .val (.ref b4), .val (.long (own_A v3_1)), .second, .val (.int (1 : Int32))] [(.int (1 : Int32)), (.int v3_1), (.long (own_A v3_1))]))
      refine Goes.via (fun _ kk_ => XS.isub X8.here hx rfl (hb hby at_135) rfl kk_) ?_
      show Goes p e below _ (T8.setTop (mkF m 136 #[.val (.int x1), .val (.int x2), .val (.int x3), .val (.int v3_1), .val (.int v4_2), .val (.int v5_3), .val (.ref b4), .val (.long (own_A v3_1)), .second, .val (.int (1 : Int32))] [(.int (v3_1 - (1 : Int32))), (.long (own_A v3_1))]))
      refine Goes.via (fun _ kk_ => XS.lushr X8.here hx rfl (hb hby at_136) rfl kk_) ?_
      show Goes p e below _ (T8.setTop (mkF m 137 #[.val (.int x1), .val (.int x2), .val (.int x3), .val (.int v3_1), .val (.int v4_2), .val (.int v5_3), .val (.ref b4), .val (.long (own_A v3_1)), .second, .val (.int (1 : Int32))] [(.long (((own_A v3_1).toUInt64 >>> ((v3_1 - (1 : Int32)) &&& 0x3f).toInt64.toUInt64).toInt64))]))
      refine Goes.via (fun _ kk_ => XS.lconst X8.here hx rfl (hb hby at_137) kk_) ?_
      show Goes p e below _ (T8.setTop (mkF m 138 #[.val (.int x1), .val (.int x2), .val (.int x3), .val (.int v3_1), .val (.int v4_2), .val (.int v5_3), .val (.ref b4), .val (.long (own_A v3_1)), .second, .val (.int (1 : Int32))] [(.long (1 : Int64)), (.long (((own_A v3_1).toUInt64 >>> ((v3_1 - (1 : Int32)) &&& 0x3f).toInt64.toUInt64).toInt64))]))
      refine Goes.via (fun _ kk_ => XS.land X8.here hx rfl (hb hby at_138) rfl kk_) ?_
      show Goes p e below _ (T8.setTop (mkF m 139 #[.val (.int x1), .val (.int x2), .val (.int x3), .val (.int v3_1), .val (.int v4_2), .val (.int v5_3), .val (.ref b4), .val (.long (own_A v3_1)), .second, .val (.int (1 : Int32))] [(.long ((((own_A v3_1).toUInt64 >>> ((v3_1 - (1 : Int32)) &&& 0x3f).toInt64.toUInt64).toInt64) &&& (1 : Int64)))]))
      refine Goes.via (fun _ kk_ => XS.lconst X8.here hx rfl (hb hby at_139) kk_) ?_
      show Goes p e below _ (T8.setTop (mkF m 140 #[.val (.int x1), .val (.int x2), .val (.int x3), .val (.int v3_1), .val (.int v4_2), .val (.int v5_3), .val (.ref b4), .val (.long (own_A v3_1)), .second, .val (.int (1 : Int32))] [(.long (1 : Int64)), (.long ((((own_A v3_1).toUInt64 >>> ((v3_1 - (1 : Int32)) &&& 0x3f).toInt64.toUInt64).toInt64) &&& (1 : Int64)))]))
      refine Goes.via (fun _ kk_ => XS.lcmp X8.here hx rfl (hb hby at_140) rfl kk_) ?_
      show Goes p e below _ (T8.setTop (mkF m 141 #[.val (.int x1), .val (.int x2), .val (.int x3), .val (.int v3_1), .val (.int v4_2), .val (.int v5_3), .val (.ref b4), .val (.long (own_A v3_1)), .second, .val (.int (1 : Int32))] [(.int (lcmpW ((((own_A v3_1).toUInt64 >>> ((v3_1 - (1 : Int32)) &&& 0x3f).toInt64.toUInt64).toInt64) &&& (1 : Int64)) (1 : Int64)))]))
      have hc141_39 : ((((own_A v3_1).toUInt64 >>> ((v3_1 - (1 : Int32)) &&& 0x3f).toInt64.toUInt64).toInt64) &&& (1 : Int64)) = (1 : Int64) := (htop hc101)
      refine Goes.via (fun _ kk_ => XS.ifNo X8.here hx rfl (hb hby at_141) rfl ((if0 _ _).trans (teq ((lw_eq ((((own_A v3_1).toUInt64 >>> ((v3_1 - (1 : Int32)) &&& 0x3f).toInt64.toUInt64).toInt64) &&& (1 : Int64)) (1 : Int64)).mpr hc141_39)).2) kk_) ?_
      show Goes p e below _ (T8.setTop (mkF m 144 #[.val (.int x1), .val (.int x2), .val (.int x3), .val (.int v3_1), .val (.int v4_2), .val (.int v5_3), .val (.ref b4), .val (.long (own_A v3_1)), .second, .val (.int (1 : Int32))] []))
      refine Goes.via (fun _ kk_ => XS.iconst X8.here hx rfl (hb hby at_144) kk_) ?_
      show Goes p e below _ (T8.setTop (mkF m 145 #[.val (.int x1), .val (.int x2), .val (.int x3), .val (.int v3_1), .val (.int v4_2), .val (.int v5_3), .val (.ref b4), .val (.long (own_A v3_1)), .second, .val (.int (1 : Int32))] [(.int (1 : Int32))]))
      refine Goes.via (fun _ kk_ => XS.goto X8.here hx rfl (pc0 := 145) (pc' := 149) rfl (hb hby at_145) (by decide) (by decide) kk_) ?_
      show Goes p e below _ (T8.setTop (mkF m 149 #[.val (.int x1), .val (.int x2), .val (.int x3), .val (.int v3_1), .val (.int v4_2), .val (.int v5_3), .val (.ref b4), .val (.long (own_A v3_1)), .second, .val (.int (1 : Int32))] [(.int (1 : Int32))]))
      refine Goes.via (fun _ kk_ => XS.istore X8.here hx rfl (hb hby at_149) rfl (l' := #[.val (.int x1), .val (.int x2), .val (.int x3), .val (.int v3_1), .val (.int v4_2), .val (.int v5_3), .val (.ref b4), .val (.long (own_A v3_1)), .second, .val (.int (1 : Int32))]) rfl kk_) ?_
      show Goes p e below _ (T8.setTop (mkF m 151 #[.val (.int x1), .val (.int x2), .val (.int x3), .val (.int v3_1), .val (.int v4_2), .val (.int v5_3), .val (.ref b4), .val (.long (own_A v3_1)), .second, .val (.int (1 : Int32))] []))
      refine Goes.via (fun _ kk_ => XS.iloadN X8.here hx rfl (hb hby at_151) rfl  kk_) ?_
      show Goes p e below _ (T8.setTop (mkF m 152 #[.val (.int x1), .val (.int x2), .val (.int x3), .val (.int v3_1), .val (.int v4_2), .val (.int v5_3), .val (.ref b4), .val (.long (own_A v3_1)), .second, .val (.int (1 : Int32))] [(.int v3_1)]))
      refine Goes.via (fun _ kk_ => XS.bipush X8.here hx rfl (hb hby at_152) kk_) ?_
      show Goes p e below _ (T8.setTop (mkF m 154 #[.val (.int x1), .val (.int x2), .val (.int x3), .val (.int v3_1), .val (.int v4_2), .val (.int v5_3), .val (.ref b4), .val (.long (own_A v3_1)), .second, .val (.int (1 : Int32))] [(.int (64 : Int32)), (.int v3_1)]))
      by_cases hc154 : v3_1 < (64 : Int32)
      · skip
        refine Goes.via (fun _ kk_ => XS.icmpNo X8.here hx rfl (hb hby at_154) rfl (tlt hc154).2.1 kk_) ?_
        show Goes p e below _ (T8.setTop (mkF m 157 #[.val (.int x1), .val (.int x2), .val (.int x3), .val (.int v3_1), .val (.int v4_2), .val (.int v5_3), .val (.ref b4), .val (.long (own_A v3_1)), .second, .val (.int (1 : Int32))] []))
        refine Goes.via (fun _ kk_ => XS.iload X8.here hx rfl (hb hby at_157) rfl  kk_) ?_
        show Goes p e below _ (T8.setTop (mkF m 159 #[.val (.int x1), .val (.int x2), .val (.int x3), .val (.int v3_1), .val (.int v4_2), .val (.int v5_3), .val (.ref b4), .val (.long (own_A v3_1)), .second, .val (.int (1 : Int32))] [(.int (1 : Int32))]))
        have hc159_40 : ¬ ((1 : Int32) = (0 : Int32)) := (by decide)
        refine Goes.via (fun _ kk_ => XS.ifNo X8.here hx rfl (hb hby at_159) rfl ((if0 _ _).trans (feq hc159_40).1) kk_) ?_
        show Goes p e below _ (T8.setTop (mkF m 162 #[.val (.int x1), .val (.int x2), .val (.int x3), .val (.int v3_1), .val (.int v4_2), .val (.int v5_3), .val (.ref b4), .val (.long (own_A v3_1)), .second, .val (.int (1 : Int32))] []))
        refine Goes.via (fun _ kk_ => XS.lload X8.here hx rfl (hb hby at_162) rfl  kk_) ?_
        show Goes p e below _ (T8.setTop (mkF m 164 #[.val (.int x1), .val (.int x2), .val (.int x3), .val (.int v3_1), .val (.int v4_2), .val (.int v5_3), .val (.ref b4), .val (.long (own_A v3_1)), .second, .val (.int (1 : Int32))] [(.long (own_A v3_1))]))
        refine Goes.via (fun _ kk_ => XS.iloadN X8.here hx rfl (hb hby at_164) rfl  kk_) ?_
        show Goes p e below _ (T8.setTop (mkF m 165 #[.val (.int x1), .val (.int x2), .val (.int x3), .val (.int v3_1), .val (.int v4_2), .val (.int v5_3), .val (.ref b4), .val (.long (own_A v3_1)), .second, .val (.int (1 : Int32))] [(.int v3_1), (.long (own_A v3_1))]))
        refine Goes.via (fun _ kk_ => XS.lushr X8.here hx rfl (hb hby at_165) rfl kk_) ?_
        show Goes p e below _ (T8.setTop (mkF m 166 #[.val (.int x1), .val (.int x2), .val (.int x3), .val (.int v3_1), .val (.int v4_2), .val (.int v5_3), .val (.ref b4), .val (.long (own_A v3_1)), .second, .val (.int (1 : Int32))] [(.long (((own_A v3_1).toUInt64 >>> (v3_1 &&& 0x3f).toInt64.toUInt64).toInt64))]))
        refine Goes.via (fun _ kk_ => XS.lconst X8.here hx rfl (hb hby at_166) kk_) ?_
        show Goes p e below _ (T8.setTop (mkF m 167 #[.val (.int x1), .val (.int x2), .val (.int x3), .val (.int v3_1), .val (.int v4_2), .val (.int v5_3), .val (.ref b4), .val (.long (own_A v3_1)), .second, .val (.int (1 : Int32))] [(.long (0 : Int64)), (.long (((own_A v3_1).toUInt64 >>> (v3_1 &&& 0x3f).toInt64.toUInt64).toInt64))]))
        refine Goes.via (fun _ kk_ => XS.lcmp X8.here hx rfl (hb hby at_167) rfl kk_) ?_
        show Goes p e below _ (T8.setTop (mkF m 168 #[.val (.int x1), .val (.int x2), .val (.int x3), .val (.int v3_1), .val (.int v4_2), .val (.int v5_3), .val (.ref b4), .val (.long (own_A v3_1)), .second, .val (.int (1 : Int32))] [(.int (lcmpW (((own_A v3_1).toUInt64 >>> (v3_1 &&& 0x3f).toInt64.toUInt64).toInt64) (0 : Int64)))]))
        have hc168_41 : (((own_A v3_1).toUInt64 >>> (v3_1 &&& 0x3f).toInt64.toUInt64).toInt64) = (0 : Int64) := (hover hc154)
        refine Goes.via (fun _ kk_ => XS.ifNo X8.here hx rfl (hb hby at_168) rfl ((if0 _ _).trans (teq ((lw_eq (((own_A v3_1).toUInt64 >>> (v3_1 &&& 0x3f).toInt64.toUInt64).toInt64) (0 : Int64)).mpr hc168_41)).2) kk_) ?_
        show Goes p e below _ (T8.setTop (mkF m 171 #[.val (.int x1), .val (.int x2), .val (.int x3), .val (.int v3_1), .val (.int v4_2), .val (.int v5_3), .val (.ref b4), .val (.long (own_A v3_1)), .second, .val (.int (1 : Int32))] []))
        refine Goes.via (fun _ kk_ => XS.iconst X8.here hx rfl (hb hby at_171) kk_) ?_
        show Goes p e below _ (T8.setTop (mkF m 172 #[.val (.int x1), .val (.int x2), .val (.int x3), .val (.int v3_1), .val (.int v4_2), .val (.int v5_3), .val (.ref b4), .val (.long (own_A v3_1)), .second, .val (.int (1 : Int32))] [(.int (1 : Int32))]))
        refine Goes.via (fun _ kk_ => XS.goto X8.here hx rfl (pc0 := 172) (pc' := 176) rfl (hb hby at_172) (by decide) (by decide) kk_) ?_
        show Goes p e below _ (T8.setTop (mkF m 176 #[.val (.int x1), .val (.int x2), .val (.int x3), .val (.int v3_1), .val (.int v4_2), .val (.int v5_3), .val (.ref b4), .val (.long (own_A v3_1)), .second, .val (.int (1 : Int32))] [(.int (1 : Int32))]))
        refine Goes.via (fun _ kk_ => XS.istore X8.here hx rfl (hb hby at_176) rfl (l' := #[.val (.int x1), .val (.int x2), .val (.int x3), .val (.int v3_1), .val (.int v4_2), .val (.int v5_3), .val (.ref b4), .val (.long (own_A v3_1)), .second, .val (.int (1 : Int32))]) rfl kk_) ?_
        show Goes p e below _ (T8.setTop (mkF m 178 #[.val (.int x1), .val (.int x2), .val (.int x3), .val (.int v3_1), .val (.int v4_2), .val (.int v5_3), .val (.ref b4), .val (.long (own_A v3_1)), .second, .val (.int (1 : Int32))] []))
        refine Goes.via (fun _ kk_ => XS.iload X8.here hx rfl (hb hby at_178) rfl  kk_) ?_
        show Goes p e below _ (T8.setTop (mkF m 180 #[.val (.int x1), .val (.int x2), .val (.int x3), .val (.int v3_1), .val (.int v4_2), .val (.int v5_3), .val (.ref b4), .val (.long (own_A v3_1)), .second, .val (.int (1 : Int32))] [(.int (1 : Int32))]))
        have K42 : Keep h0 T5.heap [] := (((Keep.refl h0 []).ext E4).trans K5 (allS (Or.inr sz_b4) all0))
        exact own_finN X8 hx hlk hret (by simp) (hb hby at_180) (by rw [e8']; exact ⟨rfl, N8, K42⟩) (by first | decide | omega | (dsimp only; omega)) (by first | decide | omega | (dsimp only; omega))
      · skip
        refine Goes.via (fun _ kk_ => XS.icmpYes X8.here hx rfl (pc0 := 154) (pc' := 178) rfl (hb hby at_154) rfl (flt hc154).2.1 (by decide) (by decide) kk_) ?_
        show Goes p e below _ (T8.setTop (mkF m 178 #[.val (.int x1), .val (.int x2), .val (.int x3), .val (.int v3_1), .val (.int v4_2), .val (.int v5_3), .val (.ref b4), .val (.long (own_A v3_1)), .second, .val (.int (1 : Int32))] []))
        refine Goes.via (fun _ kk_ => XS.iload X8.here hx rfl (hb hby at_178) rfl  kk_) ?_
        show Goes p e below _ (T8.setTop (mkF m 180 #[.val (.int x1), .val (.int x2), .val (.int x3), .val (.int v3_1), .val (.int v4_2), .val (.int v5_3), .val (.ref b4), .val (.long (own_A v3_1)), .second, .val (.int (1 : Int32))] [(.int (1 : Int32))]))
        have K43 : Keep h0 T5.heap [] := (((Keep.refl h0 []).ext E4).trans K5 (allS (Or.inr sz_b4) all0))
        exact own_finN X8 hx hlk hret (by simp) (hb hby at_180) (by rw [e8']; exact ⟨rfl, N8, K43⟩) (by first | decide | omega | (dsimp only; omega)) (by first | decide | omega | (dsimp only; omega))
set_option maxRecDepth 65536 in
set_option maxHeartbeats 40000000 in
theorem comes_1 {Post : Tables → Env → Array Value → State → Outcome → State → Prop} (hpost : ∀ tb e args s v u, (limb_1_1.after args s (.returned v) u = true ∧ limb_1_2.after args s (.returned v) u = true ∧ True) → FrameEnd s (.returned v) u (Jvm.fieldLocs frame_1_writes args s ++ Jvm.arrayLocs frame_1_arrays args s ++ Jvm.staticLocs frame_1_statics s) 144 768 → Post tb e args s (.returned v) u) :
    ArmFor flags0 classFile x code maxLocals ret World_1 tables_1 room_1 Calls_1 rest_1 Pre_1 Post := by
  intro l hfl _ _ p e ha hc hk s m args below hf hA hF happ hP
  obtain ⟨hcalls, hrest, hpre⟩ := hP
  obtain ⟨-, -, -, hnamed, -, -, -, hat⟩ := (Spec.applies_iff hf).mp happ
  obtain ⟨hg, hn⟩ := and_e (Cond.before_iff.mp (show (Jvm.Cond.and given_1 narrow_1).before args s = true from hpre))
  obtain ⟨gg1, gg2⟩ := and_e hg
  obtain ⟨gg3, gg4⟩ := and_e gg2
  obtain ⟨gg5, gg6⟩ := and_e gg4
  obtain ⟨w0, w1, w2, rfl⟩ : ∃ w0 w1 w2 : Value, args = #[w0, w1, w2] := by
    have hs : args.size = 3 := by simpa [Cond.value, given_1] using gg1
    obtain ⟨L⟩ := args
    match L, hs with
    | [w0, w1, w2], _ => exact ⟨w0, w1, w2, rfl⟩
  have hw := fun d (hd : d ∈ tables_1) => atoms_spec (ws := Jvm.Cond.code x code maxLocals ret :: tables_1) hat d (List.mem_cons_of_mem _ hd)
  have hfit : Fit s := fun {y c} hc i hi => by
    obtain ⟨ha, rfl⟩ := Array.getElem?_eq_some_iff.mp hc
    have q := List.all_eq_true.mp ((Array.all_eq_true_iff_forall_mem.mp hF) _ (Array.getElem_mem ha)) i (List.mem_range.mpr hi)
    simpa [Array.getElem?_eq_getElem hi] using q
  obtain ⟨i0, ei0⟩ := is_v gg3
  obtain rfl : w0 = (.int i0) := Option.some.inj ei0
  obtain ⟨i1, ei1⟩ := is_v gg5
  obtain rfl : w1 = (.int i1) := Option.some.inj ei1
  obtain ⟨i2, ei2⟩ := is_v gg6
  obtain rfl : w2 = (.int i2) := Option.some.inj ei2
  obtain ⟨n, o, h1, h2, h3, _, L, rfl, ⟨rfl, N, -⟩, hq⟩ := rm0 l s _ hw tables_1 i0 i1 i2 s.heap s.heap.size (Nat.le_refl _)  p e ha hc hk s m _ below hf ((Spec.applies_iff_loose hf).mp happ).1 ⟨rfl, State.Warmed39.refl s, rfl⟩ trivial
  refine ⟨n, _, h1, h2, h3, hpost _ _ _ _ _ _ ⟨Cond.after_iff.mpr rfl, Cond.after_iff.mpr (eq_i res_at (Term.int_eval (1)) rfl), trivial⟩ ⟨hq.1, hq.2.1, (hq.2.2.sift fun y hy => Or.inr (N y hy)).mono (by decide) (by decide)⟩⟩
theorem main_1_1 : Claimed_1_1 := comes_1 fun _ _ _ _ _ _ h hF => ⟨h.1, hF⟩
theorem main_1_2 : Claimed_1_2 := comes_1 fun _ _ _ _ _ _ h hF => ⟨h.2.1, hF⟩
end Jvm.Pilot.@@N@@
namespace Jvm.Pilot.@@N@@
open Jvm Jvm.ClassFile Sem Op Lib Jvm.Free Jvm.Stand Jvm.Pilot.@@N@@.Jvm.D
/-! MADE BY PROGRAM (witnessworld.py) out of the Statement's table words and the real class files: 12 classes; the members and pool entries that the words name. The judged class is class 1, her method 1. -/
namespace start1
open Jvm.ClassFile
def u (s : String) : CpInfo := .utf8 (stringToUtf16 s)
/-- a pool by its gaps: so many unusable entries, then the entry; so many at the end -/
def gap : Nat → List CpInfo → List CpInfo
  | 0, r => r
  | n + 1, r => .unusable :: gap n r
def poolList (es : List (Nat × CpInfo)) (last : Nat) : List CpInfo := es.foldr (fun e r => gap e.1 (e.2 :: r)) (gap last [])
def pool (es : List (Nat × CpInfo)) (last : Nat) : Array CpInfo := ⟨poolList es last⟩
def fileOf (pool : Array CpInfo) (this : Nat) (attrs : Array Attribute := #[]) (ms : Array MethodInfo := #[]) (fl : Nat := 33) (sup : Nat := 0) (ifs : Array Nat := #[]) (fds : Array FieldInfo := #[]) : ClassFile where
  minorVersion := 0
  majorVersion := 65
  constantPool := pool
  accessFlags := fl
  thisClass := this
  superClass := sup
  interfaces := ifs
  fields := fds
  methods := ms
  attributes := attrs
def plain (name : String) (sup : Option ClassId) : Class where
  name := name
  kind := .ordinary
  loader := none
  accessFlags := 33
  super := sup
  interfaces := #[]
  cf := none
  fields := #[]
  methods := #[]
  instanceTypes := #[]
  staticTypes := #[]
  resolved := #[]
  callSites := []
  init := .initialized
  statics := none
  mirror := none

def pool0 : Array CpInfo := pool [(5, u "<init>"), (0, u "()V"), (1, .class_ 10), (1, u "java/lang/Object")] 113

def k0c0 : Code := { maxStack := 0, maxLocals := 1, code := object_method_1_code, exceptionTable := #[], attributes := #[] }
def k0m0 : Method := { name := "<init>", desc := "()V", sig := { parameters := [], returnType := none }, accessFlags := 1, code := some k0c0 }
/-- java/lang/Object -/
def k0 : Class := { plain "java/lang/Object" none with
  accessFlags := 33
  interfaces := #[]
  cf := some (fileOf pool0 8 #[] #[{ accessFlags := 1, nameIndex := 5, descriptorIndex := 6, attributes := #[] }] 33 0 #[] #[])
  fields := #[]
  methods := #[k0m0]
  instanceTypes := #[]
  staticTypes := #[]
  resolved := Array.replicate 124 none
  statics := none }

def pool1 : Array CpInfo := pool [(2, .class_ 4), (1, u "java/lang/Object"), (0, u "<init>"), (0, u "()V"), (0, .integer 2147483647), (0, .class_ 9), (0, u "com/example/checks_on_duty/checksonduty/engine/RankedSets"), (0, .methodref 8 11), (0, .nameAndType 5 12), (0, u "(II)V"), (0, .methodref 8 14), (0, .nameAndType 15 16), (0, u "all"), (0, u "()J"), (0, .class_ 18), (0, u "com/example/checks_on_duty/checksonduty/engine/RankedSetsAllPinLaw"), (2, u "law"), (0, u "(III)Z")] 3

def k1m0 : Method := { name := "<init>", desc := "()V", sig := { parameters := [], returnType := none }, accessFlags := 1, code := none }
def k1c1 : Code := { maxStack := 6, maxLocals := 10, code := code, exceptionTable := #[], attributes := #[] }
def k1m1 : Method := { name := "law", desc := "(III)Z", sig := { parameters := [.int, .int, .int], returnType := some .boolean }, accessFlags := 9, code := some k1c1 }
/-- com/example/checks_on_duty/checksonduty/engine/RankedSetsAllPinLaw -/
def k1 : Class := { plain "com/example/checks_on_duty/checksonduty/engine/RankedSetsAllPinLaw" (some 0) with
  accessFlags := 49
  interfaces := #[]
  cf := some (fileOf pool1 17 #[] #[{ accessFlags := 1, nameIndex := 5, descriptorIndex := 6, attributes := #[] }, { accessFlags := 9, nameIndex := 21, descriptorIndex := 22, attributes := #[] }] 49 2 #[] #[])
  fields := #[]
  methods := #[k1m0, k1m1]
  instanceTypes := #[]
  staticTypes := #[]
  resolved := Array.replicate 26 none
  statics := none }

def pool2 : Array CpInfo := pool [(1, .methodref 2 3), (0, .class_ 4), (0, .nameAndType 5 6), (0, u "java/lang/Object"), (0, u "<init>"), (0, u "()V"), (0, .fieldref 8 9), (0, .class_ 10), (0, .nameAndType 11 12), (0, u "com/example/checks_on_duty/checksonduty/engine/RankedSets"), (0, u "users"), (0, u "I"), (0, .class_ 14), (0, u "[[J"), (0, .fieldref 8 16), (0, .nameAndType 17 14), (0, u "binomial"), (0, .methodref 19 20), (0, .class_ 21), (0, .nameAndType 22 23), (0, u "java/lang/Math"), (0, u "min"), (0, u "(II)I"), (5, .long 18446744073709551615), (22, u "(II)V"), (6, u "all"), (0, u "()J")] 8

def k2c0 : Code := { maxStack := 7, maxLocals := 5, code := prog_44_method_1_code, exceptionTable := #[], attributes := #[] }
def k2m0 : Method := { name := "<init>", desc := "(II)V", sig := { parameters := [.int, .int], returnType := none }, accessFlags := 0, code := some k2c0 }
def k2c1 : Code := { maxStack := 4, maxLocals := 1, code := prog_44_method_5_code, exceptionTable := #[], attributes := #[] }
def k2m1 : Method := { name := "all", desc := "()J", sig := { parameters := [], returnType := some .long }, accessFlags := 0, code := some k2c1 }
/-- com/example/checks_on_duty/checksonduty/engine/RankedSets -/
def k2 : Class := { plain "com/example/checks_on_duty/checksonduty/engine/RankedSets" (some 0) with
  accessFlags := 48
  interfaces := #[]
  cf := some (fileOf pool2 8 #[] #[{ accessFlags := 0, nameIndex := 5, descriptorIndex := 52, attributes := #[] }, { accessFlags := 0, nameIndex := 59, descriptorIndex := 60, attributes := #[] }] 48 2 #[] #[{ accessFlags := 18, nameIndex := 11, descriptorIndex := 12, attributes := #[] }, { accessFlags := 18, nameIndex := 17, descriptorIndex := 14, attributes := #[] }])
  fields := #[{ name := "users", type := .int, accessFlags := 18, slot := 0, constantValue := 0 }, { name := "binomial", type := (.array (.array .long)), accessFlags := 18, slot := 1, constantValue := 0 }]
  methods := #[k2m0, k2m1]
  instanceTypes := #[.int, (.array (.array .long))]
  staticTypes := #[]
  resolved := Array.replicate 69 none
  statics := none }

def pool3 : Array CpInfo := pool [(1, .class_ 2), (0, u "java/lang/Math"), (1, .class_ 6), (1, u "java/lang/Object"), (0, u "<init>"), (0, u "()V"), (89, .class_ 100), (1, u "java/lang/Math$RandomNumberGeneratorHolder"), (71, u "negativeZeroFloatBits"), (0, u "J"), (2, u "negativeZeroDoubleBits"), (24, u "min"), (43, u "$assertionsDisabled"), (0, u "Z"), (88, u "(II)I"), (2, u "twoToTheDoubleScaleDown"), (0, u "D"), (4, u "twoToTheDoubleScaleUp"), (9, u "E"), (3, u "PI"), (2, u "TAU"), (2, u "DEGREES_TO_RADIANS"), (0, u "RADIANS_TO_DEGREES")] 94

def k3m0 : Method := { name := "<init>", desc := "()V", sig := { parameters := [], returnType := none }, accessFlags := 2, code := none }
def k3c1 : Code := { maxStack := 2, maxLocals := 2, code := jdk_29_method_69_code, exceptionTable := #[], attributes := #[] }
def k3m1 : Method := { name := "min", desc := "(II)I", sig := { parameters := [.int, .int], returnType := some .int }, accessFlags := 9, code := some k3c1 }
/-- java/lang/Math -/
def k3 : Class := { plain "java/lang/Math" (some 0) with
  accessFlags := 49
  interfaces := #[]
  cf := some (fileOf pool3 1 #[.nestMembers #[98]] #[{ accessFlags := 2, nameIndex := 7, descriptorIndex := 8, attributes := #[] }, { accessFlags := 9, nameIndex := 201, descriptorIndex := 335, attributes := #[] }] 49 4 #[] #[{ accessFlags := 25, nameIndex := 354, descriptorIndex := 339, attributes := #[] }, { accessFlags := 25, nameIndex := 358, descriptorIndex := 339, attributes := #[] }, { accessFlags := 25, nameIndex := 361, descriptorIndex := 339, attributes := #[] }, { accessFlags := 26, nameIndex := 364, descriptorIndex := 339, attributes := #[] }, { accessFlags := 26, nameIndex := 365, descriptorIndex := 339, attributes := #[] }, { accessFlags := 26, nameIndex := 172, descriptorIndex := 173, attributes := #[] }, { accessFlags := 26, nameIndex := 176, descriptorIndex := 173, attributes := #[] }, { accessFlags := 8, nameIndex := 344, descriptorIndex := 339, attributes := #[] }, { accessFlags := 8, nameIndex := 338, descriptorIndex := 339, attributes := #[] }, { accessFlags := 4120, nameIndex := 245, descriptorIndex := 246, attributes := #[] }])
  fields := #[{ name := "E", type := .double, accessFlags := 25, slot := 0, constantValue := 0 }, { name := "PI", type := .double, accessFlags := 25, slot := 1, constantValue := 0 }, { name := "TAU", type := .double, accessFlags := 25, slot := 2, constantValue := 0 }, { name := "DEGREES_TO_RADIANS", type := .double, accessFlags := 26, slot := 3, constantValue := 0 }, { name := "RADIANS_TO_DEGREES", type := .double, accessFlags := 26, slot := 4, constantValue := 0 }, { name := "negativeZeroFloatBits", type := .long, accessFlags := 26, slot := 5, constantValue := 0 }, { name := "negativeZeroDoubleBits", type := .long, accessFlags := 26, slot := 6, constantValue := 0 }, { name := "twoToTheDoubleScaleUp", type := .double, accessFlags := 8, slot := 7, constantValue := 0 }, { name := "twoToTheDoubleScaleDown", type := .double, accessFlags := 8, slot := 8, constantValue := 0 }, { name := "$assertionsDisabled", type := .boolean, accessFlags := 4120, slot := 9, constantValue := 0 }]
  methods := #[k3m0, k3m1]
  instanceTypes := #[]
  staticTypes := #[.double, .double, .double, .double, .double, .long, .long, .double, .double, .boolean]
  resolved := Array.replicate 460 none
  statics := none }

def pool4 : Array CpInfo := pool [(1, u "java/lang/Cloneable"), (0, .class_ 1), (0, u "java/lang/Object"), (0, .class_ 3)] 3

/-- java/lang/Cloneable -/
def k4 : Class := { plain "java/lang/Cloneable" (some 0) with
  accessFlags := 1537
  interfaces := #[]
  cf := some (fileOf pool4 2 #[] #[] 1537 4 #[] #[])
  fields := #[]
  methods := #[]
  instanceTypes := #[]
  staticTypes := #[]
  resolved := Array.replicate 8 none
  statics := none }

def pool5 : Array CpInfo := pool [(1, u "java/io/Serializable"), (0, .class_ 1), (0, u "java/lang/Object"), (0, .class_ 3)] 3

/-- java/io/Serializable -/
def k5 : Class := { plain "java/io/Serializable" (some 0) with
  accessFlags := 1537
  interfaces := #[]
  cf := some (fileOf pool5 2 #[] #[] 1537 4 #[] #[])
  fields := #[]
  methods := #[]
  instanceTypes := #[]
  staticTypes := #[]
  resolved := Array.replicate 8 none
  statics := none }

/-- the primitive byte -/
def k6 : Class := { plain "byte" none with kind := .primitive 'B', accessFlags := 0x411 }
/-- [B -/
def k7 : Class := { plain "[B" (some 0) with kind := .array 6 .byte, interfaces := #[4, 5], accessFlags := 1041 }

/-- the primitive int -/
def k8 : Class := { plain "int" none with kind := .primitive 'I', accessFlags := 0x411 }
/-- [I -/
def k9 : Class := { plain "[I" (some 0) with kind := .array 8 .int, interfaces := #[4, 5], accessFlags := 1041 }

/-- the primitive long -/
def k10 : Class := { plain "long" none with kind := .primitive 'J', accessFlags := 0x411 }
/-- [J -/
def k11 : Class := { plain "[J" (some 0) with kind := .array 10 .long, interfaces := #[4, 5], accessFlags := 1041 }

def heap : Heap := #[]
def k12 : Class := { plain "[[J" (some 0) with kind := .array 11 (.array .long), interfaces := #[4, 5], accessFlags := 1041 }
def classes : Array Class := #[k0, k1, k2, k3, k4, k5, k6, k7, k8, k9, k10, k11, k12]
def interned : List (Array UInt16 × Addr) := []
def slotsUsed : Nat := 0
def theMethod : MethodId := ⟨1, 1⟩
def args0 : Array Value := #[.int 5, .int 6, .int 1]
def aboutOver (below : List Frame) : State where
  vm := { classes := classes, interned := interned.toArray }
  heap := heap
  slotsUsed := slotsUsed
  threads := #[{ frames := .invoking theMethod args0 :: below }]
def below0 : List Frame := [.native { method := ⟨0, 0⟩, args := #[] }]
def about1 : State := aboutOver below0
def p0 : Program := .bare "" "" ""
def e0 : Env := launch0.env 0 0 0
theorem w_frames : about1.frames = Frame.invoking theMethod args0 :: below0 := rfl
set_option maxRecDepth 65536 in
theorem w_args : argsFit about1.vm theMethod args0 = true := by decide +kernel
set_option maxRecDepth 65536 in
theorem w_heap : heapFits about1 = true := by decide +kernel
set_option maxRecDepth 65536 in
theorem w_runnable : about1.curStatus? = some .runnable := by decide +kernel
set_option maxRecDepth 65536 in
theorem w_alone : about1.alone = true := by decide +kernel
set_option maxRecDepth 65536 in
theorem w_named : about1.methodNamed? x = some theMethod := by decide +kernel
set_option maxRecDepth 65536 in
theorem w_hears : about1.hears theMethod below0 = true := by decide +kernel
set_option maxRecDepth 65536 in
theorem w_ripe : about1.ripe theMethod args0 below0 = true := by decide +kernel
theorem w_running : about1.status = .running := rfl
set_option maxRecDepth 65536 in
theorem w_room : about1.hasRoom e0.platform room_1 = true :=
  launch0.hasRoom_least _ room_1 (by decide +kernel) (by decide +kernel) (by decide +kernel) (by decide +kernel) (by decide +kernel) (by decide +kernel)
theorem allAtoms_all (ts : List Jvm.Cond) (a : Array Jvm.Value) (st : Jvm.State) : (allAtoms ts).before a st = ts.all (fun c => c.before a st) := by
  induction ts with
  | nil => rfl
  | cons c t ih =>
    show (Jvm.Cond.and c (allAtoms t)).before a st = _
    rw [Jvm.Cond.before_and, ih, List.all_cons]
def words1 : List Jvm.Cond := Jvm.Cond.code x code maxLocals ret :: tables_1
/-- a 'code' word, met by the world's own term for the bytes: nothing is compared byte by byte -/
theorem code_word {y : MethodName} {bytes : ByteArray} {mx : Nat} {rt : Option FieldType} {a : Array Value} {s : State} {m : MethodId} {meth : Method} {c : Code} (h1 : s.methodNamed? y = some m) (h2 : s.vm.method? m = some meth) (h3 : meth.code = some c) (h4 : c.code = bytes)
    (h5 : (c.maxLocals == mx && c.exceptionTable.isEmpty && decide (c.maxStack ≤ mostOperands) && decide (meth.sig.returnType = rt) && !meth.locks && decide (parseMethodDescriptor y.desc = some meth.sig)) = true) : (Jvm.Cond.code y bytes mx rt).before a s = true := by
  simp only [Bool.and_eq_true, beq_iff_eq, Bool.not_eq_true', decide_eq_true_eq] at h5
  obtain ⟨⟨⟨⟨⟨g1, g2⟩, g3⟩, g4⟩, g5⟩, g6⟩ := h5
  simp [Cond.before, Cond.holds, Cond.value, h1, h2, h3, h4, g1, g2, g3, g4, g5, g6]
def isCode : Jvm.Cond → Bool
  | .code _ _ _ _ => true
  | _ => false
theorem all_split {L : List Jvm.Cond} {P : Jvm.Cond → Bool} (h1 : L.all (fun c => isCode c || P c) = true) (h2 : ∀ c ∈ L.filter isCode, P c = true) : L.all P = true := by
  refine List.all_eq_true.mpr fun c hc => ?_
  have h := List.all_eq_true.mp h1 c hc
  rcases Bool.eq_false_or_eq_true (isCode c) with hi | hi
  · exact h2 c (List.mem_filter.mpr ⟨hc, hi⟩)
  · simpa [hi] using h
set_option maxRecDepth 65536 in
theorem w_c0 : (Jvm.Cond.code x code maxLocals ret).before args0 about1 = true := code_word (m := ⟨1, 1⟩) (meth := k1m1) (c := k1c1) (by decide +kernel) rfl rfl rfl (by decide +kernel)
set_option maxRecDepth 65536 in
theorem w_c1 : (Jvm.Cond.code ({ cls := "com/example/checks_on_duty/checksonduty/engine/RankedSets", name := "<init>", desc := "(II)V" } : Jvm.MethodName) prog_44_method_1_code (5 : Nat) (Option.none : Option Jvm.ClassFile.FieldType)).before args0 about1 = true := code_word (m := ⟨2, 0⟩) (meth := k2m0) (c := k2c0) (by decide +kernel) rfl rfl rfl (by decide +kernel)
set_option maxRecDepth 65536 in
theorem w_c2 : (Jvm.Cond.code ({ cls := "java/lang/Object", name := "<init>", desc := "()V" } : Jvm.MethodName) object_method_1_code (1 : Nat) (Option.none : Option Jvm.ClassFile.FieldType)).before args0 about1 = true := code_word (m := ⟨0, 0⟩) (meth := k0m0) (c := k0c0) (by decide +kernel) rfl rfl rfl (by decide +kernel)
set_option maxRecDepth 65536 in
theorem w_c3 : (Jvm.Cond.code ({ cls := "java/lang/Math", name := "min", desc := "(II)I" } : Jvm.MethodName) jdk_29_method_69_code (2 : Nat) (Option.some Jvm.ClassFile.FieldType.int)).before args0 about1 = true := code_word (m := ⟨3, 1⟩) (meth := k3m1) (c := k3c1) (by decide +kernel) rfl rfl rfl (by decide +kernel)
set_option maxRecDepth 65536 in
theorem w_c4 : (Jvm.Cond.code ({ cls := "com/example/checks_on_duty/checksonduty/engine/RankedSets", name := "all", desc := "()J" } : Jvm.MethodName) prog_44_method_5_code (1 : Nat) (Option.some Jvm.ClassFile.FieldType.long)).before args0 about1 = true := code_word (m := ⟨2, 1⟩) (meth := k2m1) (c := k2c1) (by decide +kernel) rfl rfl rfl (by decide +kernel)
def codes1 : List Jvm.Cond := [Jvm.Cond.code x code maxLocals ret, Jvm.Cond.code ({ cls := "com/example/checks_on_duty/checksonduty/engine/RankedSets", name := "<init>", desc := "(II)V" } : Jvm.MethodName) prog_44_method_1_code (5 : Nat) (Option.none : Option Jvm.ClassFile.FieldType), Jvm.Cond.code ({ cls := "java/lang/Object", name := "<init>", desc := "()V" } : Jvm.MethodName) object_method_1_code (1 : Nat) (Option.none : Option Jvm.ClassFile.FieldType), Jvm.Cond.code ({ cls := "java/lang/Math", name := "min", desc := "(II)I" } : Jvm.MethodName) jdk_29_method_69_code (2 : Nat) (Option.some Jvm.ClassFile.FieldType.int), Jvm.Cond.code ({ cls := "com/example/checks_on_duty/checksonduty/engine/RankedSets", name := "all", desc := "()J" } : Jvm.MethodName) prog_44_method_5_code (1 : Nat) (Option.some Jvm.ClassFile.FieldType.long)]
set_option maxRecDepth 65536 in
theorem codes_eq : words1.filter isCode = codes1 := rfl
theorem w_codes : ∀ c ∈ words1.filter isCode, c.before args0 about1 = true := by
  rw [codes_eq]
  intro c hc
  simp only [codes1, List.mem_cons, List.not_mem_nil, or_false] at hc
  rcases hc with rfl | rfl | rfl | rfl | rfl
  · exact w_c0
  · exact w_c1
  · exact w_c2
  · exact w_c3
  · exact w_c4
set_option maxRecDepth 65536 in
theorem w_t1 : (words1.take 24).all (fun c => isCode c || c.before args0 about1) = true := by decide +kernel
set_option maxRecDepth 65536 in
theorem w_t2 : (words1.drop 24).all (fun c => isCode c || c.before args0 about1) = true := by decide +kernel
theorem w_tables : (allAtoms (Jvm.Cond.code x code maxLocals ret :: tables_1)).before args0 about1 = true := by
  rw [allAtoms_all]
  show words1.all (fun c => c.before args0 about1) = true
  refine all_split ?_ w_codes
  rw [← List.take_append_drop 24 words1, List.all_append, w_t1, w_t2]
  rfl
set_option maxRecDepth 65536 in
theorem w_case : (Jvm.Cond.and given_1 narrow_1).before args0 about1 = true := by decide +kernel
theorem w_applies : (headSpec (Jvm.Cond.code x code maxLocals ret :: tables_1) room_1).applies x e0.platform about1 = true :=
  (Spec.applies_iff w_frames).mpr ⟨w_running, w_runnable, w_alone, w_named, w_hears, w_ripe, w_room, w_tables⟩
theorem atStart : AtStart classFile x code maxLocals ret World_1 tables_1 room_1 Calls_1 rest_1 Pre_1 launch0 p0 e0 about1 theMethod args0 below0 :=
  ⟨lists_1, trivial, launch0.admits_env _ _ _, launch0.least_env, fairChoices_fair.cas, fairChoices_fair.clock, w_frames, w_args, w_heap, w_applies, trivial, trivial, w_case⟩
end start1
theorem witness_1 : WitnessClaimed_1 := ⟨start1.p0, start1.e0, start1.about1, start1.theMethod, start1.args0, start1.below0, start1.atStart⟩
end Jvm.Pilot.@@N@@
