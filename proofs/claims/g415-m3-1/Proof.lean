import JvmDerived
import JvmDerived.Pilot.@@N@@Statement
import JvmDerived.Pilot.@@N@@Code
set_option linter.unusedVariables false
set_option linter.unusedSimpArgs false
namespace Jvm.Pilot.@@N@@
open Jvm Jvm.ClassFile Sem Op Lib Jvm.Free Jvm.Stand Jvm.LawKit Jvm.RoadKit Bundle Jvm.Pilot.@@N@@.Jvm.D
section Own
variable {p : Program} {l : Launch} {e : Env} {R : Room} {s : State} {m : MethodId} {args : Array Value} {below : List Frame} {meth : Method} {c : Code} {T : State} {locs : List Loc} {cells slots : Nat} {Q : Option Value → Heap → List Loc → Prop} {C S : Nat}
def Goes (p : Program) (e : Env) (below : List Frame) (P : Outcome → State → Prop) (A : State) : Prop :=
  ∃ s₂ o, Steps p.tables e below A s₂ ∧ s₂.status = .running ∧ Ended s₂ below o ∧ P o s₂
def Fin_ (s : State) (Q : Option Value → Heap → List Loc → Prop) (C S : Nat) (o : Outcome) (U' : State) : Prop :=
  ∃ v L, o = .returned v ∧ Q v U'.heap L ∧ FrameEnd s o U' L C S
theorem Goes.via {P : Outcome → State → Prop} {A B : State} (st : ∀ t, Steps p.tables e below B t → Steps p.tables e below A t) (k : Goes p e below P B) : Goes p e below P A := by
  obtain ⟨s₂, o, h1, h2⟩ := k
  exact ⟨s₂, o, st _ h1, h2⟩
theorem Goes.tr {P : Outcome → State → Prop} {A B : State} (st : Steps p.tables e below A B) (k : Goes p e below P B) : Goes p e below P A := by
  obtain ⟨s₂, o, h1, h2⟩ := k
  exact ⟨s₂, o, st.trans h1, h2⟩
theorem own_fin {pc : Nat} {Ls : Array Slot} {st : List Value} (X : Stand p l e R s m args below meth c T locs cells slots) (hlk : meth.locks = false) {v : Option Value} (hv : meth.sig.returnType = none → v = none)
    (hstep : ∀ fs, (∀ (f : JFrame) (acts : List Action), f.method = m → f.locked = none → f.entered = [] → (doReturn e (T.setTop f) acts v).1 = T.setFrames fs) → Steps p.tables e below (T.setTop (mkF m pc Ls st)) (T.setFrames fs))
    (hQ : Q v T.heap locs) (hC : cells ≤ C) (hS : slots ≤ S) : Goes p e below (Fin_ s Q C S) (T.setTop (mkF m pc Ls st)) := by
  obtain ⟨fs, hr, hrun, hended, hW, hsame⟩ := X.leave (v := v) hv hlk
  exact ⟨_, _, hstep fs hr, hrun, hended, _, _, rfl, hQ, ⟨_, rfl⟩, hW, hsame.mono hC hS⟩
theorem own_finV {pc : Nat} {Ls : Array Slot} (X : Stand p l e R s m args below meth c T locs cells slots) (hx : p.tables.exec = Jvm.exec) (hlk : meth.locks = false) (hret : meth.sig.returnType = none)
    (hd : decode c.code pc = .ok (.return_, 1)) (hQ : Q none T.heap locs) (hC : cells ≤ C) (hS : slots ≤ S) : Goes p e below (Fin_ s Q C S) (T.setTop (mkF m pc Ls [])) :=
  own_fin X hlk (fun _ => rfl) (fun _ hr => X.returnOut hx hret hd hr) hQ hC hS
theorem own_finI {pc : Nat} {Ls : Array Slot} {z : Int32} {rest : List Value} (X : Stand p l e R s m args below meth c T locs cells slots) (hx : p.tables.exec = Jvm.exec) (hlk : meth.locks = false) (hret : meth.sig.returnType = some .int)
    (hd : decode c.code pc = .ok (.ireturn, 1)) (hQ : Q (some (.int z)) T.heap locs) (hC : cells ≤ C) (hS : slots ≤ S) : Goes p e below (Fin_ s Q C S) (T.setTop (mkF m pc Ls (.int z :: rest))) :=
  own_fin X hlk (fun h => by rw [hret] at h; cases h) (fun _ hr => retOut X hx hret rfl (Or.inl ⟨rfl, Or.inl rfl, _, rfl⟩) hd hr) hQ hC hS
theorem own_finN {pc : Nat} {Ls : Array Slot} {z : Int32} {rest : List Value} (X : Stand p l e R s m args below meth c T locs cells slots) (hx : p.tables.exec = Jvm.exec) (hlk : meth.locks = false) {t : FieldType} (hret : meth.sig.returnType = some t)
    (ht : t = .boolean ∨ t = .byte ∨ t = .char ∨ t = .short) (hd : decode c.code pc = .ok (.ireturn, 1)) (hQ : Q (some (.int (nar t z))) T.heap locs) (hC : cells ≤ C) (hS : slots ≤ S) : Goes p e below (Fin_ s Q C S) (T.setTop (mkF m pc Ls (.int z :: rest))) :=
  own_fin X hlk (fun h => by rw [hret] at h; cases h) (fun _ hr => retN X hx hret ht hd hr) hQ hC hS
theorem own_finJ {pc : Nat} {Ls : Array Slot} {z : Int64} {rest : List Value} (X : Stand p l e R s m args below meth c T locs cells slots) (hx : p.tables.exec = Jvm.exec) (hlk : meth.locks = false) (hret : meth.sig.returnType = some .long)
    (hd : decode c.code pc = .ok (.lreturn, 1)) (hQ : Q (some (.long z)) T.heap locs) (hC : cells ≤ C) (hS : slots ≤ S) : Goes p e below (Fin_ s Q C S) (T.setTop (mkF m pc Ls (.long z :: rest))) :=
  own_fin X hlk (fun h => by rw [hret] at h; cases h) (fun _ hr => retOut X hx hret rfl (Or.inr (Or.inl ⟨rfl, rfl, _, rfl⟩)) hd hr) hQ hC hS
theorem own_finR {pc : Nat} {Ls : Array Slot} {w : Value} {rest : List Value} (X : Stand p l e R s m args below meth c T locs cells slots) (hx : p.tables.exec = Jvm.exec) (hlk : meth.locks = false) {t : FieldType} (hret : meth.sig.returnType = some t) (ht : t.isReference = true) (hw : w.isRef = true) (hn : narrow t w = w)
    (hd : decode c.code pc = .ok (.areturn, 1)) (hQ : Q (some w) T.heap locs) (hC : cells ≤ C) (hS : slots ≤ S) : Goes p e below (Fin_ s Q C S) (T.setTop (mkF m pc Ls (w :: rest))) :=
  own_fin X hlk (fun h => by rw [hret] at h; cases h) (fun _ hr => retOut X hx hret hn (Or.inr (Or.inr (Or.inr (Or.inr ⟨rfl, ht, hw⟩)))) hd hr) hQ hC hS
theorem own_sta_keep {Z : State} {h h' : Heap} {C n d : String} {v : Value} (F : Sta Z h C n d v) (K : Keep h h' []) : Sta Z h' C n d v := by
  obtain ⟨cf, i, k, f, st, cell, h1, h2, h3, h4, h5, h6⟩ := F
  exact ⟨cf, i, k, f, st, cell, h1, h2, h3, h4, K.2.1 _ _ h5 nin0, h6⟩
theorem own_mask (x : Int32) : ¬ (x &&& (2147483647 : Int32)) < (0 : Int32) := by
  intro q
  have q1 := (c_and x 2147483647 (by decide)).1
  have q2 := Int32.lt_iff_toInt_lt.mp q
  have q3 : (0 : Int32).toInt = 0 := by decide
  omega
end Own
section Arrays
variable {p : Program} {l : Launch} {e : Env} {R : Room} {s : State} {m : MethodId} {args : Array Value} {below : List Frame} {meth : Method} {c : Code} {T : State} {locs : List Loc} {cells slots : Nat} {Z : State} {a0 : Array Value} {h h' : Heap} {a b : Addr} {k : ClassId} {ty : FieldType} {n : Nat} {f : Nat → Value} {ws : List Addr}
def Arw (Z : State) (h : Heap) (a : Addr) (k : ClassId) (ty : FieldType) (n : Nat) (f : Nat → Value) : Prop :=
  ∃ c : Cell, Arr Z h a c ty ∧ c.cls = k ∧ c.slots.size = n ∧ n < 2147483648 ∧ (∀ i, i < n → c.slots[i]? = some (f i)) ∧ ∀ i, i < n → fits ty (f i) = true
def own_upd (f : Nat → Value) (i : Nat) (v : Value) : Nat → Value := fun q => if q = i then v else f q
theorem own_upd_same (f : Nat → Value) (i : Nat) (v : Value) : own_upd f i v i = v := if_pos rfl
theorem own_upd_ne (f : Nat → Value) {i j : Nat} (v : Value) (q : j ≠ i) : own_upd f i v j = f j := if_neg q
theorem Arw.lt (F : Arw Z h a k ty n f) : a < h.size := by
  obtain ⟨c, A, -⟩ := F
  exact A.lt
theorem Arw.ext (F : Arw Z h a k ty n f) (E : Ext h h') : Arw Z h' a k ty n f := by
  obtain ⟨c, A, r⟩ := F
  exact ⟨c, A.ext E, r⟩
theorem Arw.other {sl : Nat} {v : Value} (F : Arw Z h b k ty n f) (W : Wr h h' a sl v) (q : b ≠ a) : Arw Z h' b k ty n f := by
  obtain ⟨c, A, r⟩ := F
  exact ⟨c, A.other W q, r⟩
theorem Arw.keep (F : Arw Z h a k ty n f) (K : Keep h h' ws) (q : a ∉ ws) : Arw Z h' a k ty n f := by
  obtain ⟨c, A, r⟩ := F
  exact ⟨c, ⟨K.2.1 _ _ A.1 q, A.2⟩, r⟩
theorem Arw.to {f' : Nat → Value} (F : Arw Z h a k ty n f) (q : ∀ i, i < n → f' i = f i) : Arw Z h a k ty n f' := by
  obtain ⟨c, A, h1, h2, h3, h4, h5⟩ := F
  exact ⟨c, A, h1, h2, h3, fun i hi => by rw [q i hi]; exact h4 i hi, fun i hi => by rw [q i hi]; exact h5 i hi⟩
theorem own_ne_arr {C : String} {kk : Nat} (F : Exa Z h a C) (wi : (Cond.instantiable C kk).before a0 Z = true) (G : Arw Z h b k ty n f) : a ≠ b := by
  obtain ⟨c, A, -⟩ := G
  exact ne_arr F wi A
theorem own_newP (X : Stand p l e R s m args below meth c T locs cells slots) (hx : p.tables.exec = Jvm.exec) (hZ : Z.Warmed39 s.vm) {aty : ArrayType} (w : (Cond.arrayClass (newarray.typeOf aty)).before a0 Z = true) (eT : T.heap = h) {g : JFrame} (hg : g.method = m)
    (hd : decode c.code g.pc = .ok (.newarray aty, 2)) {n : Int32} {rest : List Value} (hs : g.stack = .int n :: rest) {N : Nat} (hn : ¬ n < 0) (hN : n.toNatClampNeg = N) {cap : Nat} (hcap : N ≤ cap) (hb : cap * 8 ≤ 536870912) (hc : cells + 1 ≤ R.cells) (hl : slots + cap ≤ R.slots) :
    ∃ T' h' cA, Stand p l e R s m args below meth c T' locs (cells + 1) (slots + cap) ∧ T'.heap = h' ∧ Ext h h' ∧ Arw Z h' h.size cA (newarray.typeOf aty) N (fun _ => defaultValue (newarray.typeOf aty)) ∧
      ∀ target, Steps p.tables e below (T'.setTop { g with pc := g.pc + 2, stack := .ref h.size :: rest }) target → Steps p.tables e below (T.setTop g) target := by
  obtain ⟨T', h', cA, X', e', E', A', st⟩ := newP X hx hZ w eT hg hd hs hn (cap := cap) (by omega) hb hc hl
  refine ⟨T', h', cA, X', e', E', ⟨_, A', rfl, (sz_new _ _ _).trans hN, by omega, fun i hi => ?_, fun i hi => ?_⟩, st⟩
  · subst hN
    simp [newA, hi]
  · cases aty <;> rfl
theorem own_alen (X : Stand p l e R s m args below meth c T locs cells slots) (hx : p.tables.exec = Jvm.exec) (hZ : Z.Warmed39 s.vm) (eT : T.heap = h) (A : Arw Z h a k ty n f) {g : JFrame} (hg : g.method = m) {rest : List Value} (hs : g.stack = .ref a :: rest) (hd : decode c.code g.pc = .ok (.arraylength, 1)) :
    ∀ target, Steps p.tables e below (T.setTop { g with pc := g.pc + 1, stack := .int n.toInt32 :: rest }) target → Steps p.tables e below (T.setTop g) target := by
  obtain ⟨c, A, h1, h2, h3, h4, h5⟩ := A
  intro target kk
  refine X.arraylength hx (by rw [eT]; exact A.1) (State.isArrayOf_alike hZ.alike A.2.1) hg hs hd target ?_
  rw [h2]
  exact kk
theorem own_in {cl : Cell} {j : Int32} {i : Nat} (h2 : cl.slots.size = n) (hj : ¬ j < 0) (hji : j.toNatClampNeg = i) (hi : i < n) : ¬ (j < 0 ∨ cl.slots.size ≤ j.toNatClampNeg) := by
  rintro (q | q)
  · exact hj q
  · omega
theorem own_iaload (X : Stand p l e R s m args below meth c T locs cells slots) (hx : p.tables.exec = Jvm.exec) (hZ : Z.Warmed39 s.vm) (eT : T.heap = h) (A : Arw Z h a k .int n f) {j : Int32} {i : Nat} (hj : ¬ j < 0) (hji : j.toNatClampNeg = i) (hi : i < n) {v : Int32} (hv : f i = .int v)
    {g : JFrame} (hg : g.method = m) {rest : List Value} (hs : g.stack = .int j :: .ref a :: rest) (hd : decode c.code g.pc = .ok (.iaload, 1)) :
    ∀ target, Steps p.tables e below (T.setTop { g with pc := g.pc + 1, stack := .int v :: rest }) target → Steps p.tables e below (T.setTop g) target := by
  obtain ⟨cl, A, h1, h2, h3, h4, h5⟩ := A
  intro target kk
  exact X.iaload hx (by rw [eT]; exact A.1) (State.isArrayOf_alike hZ.alike A.2.1) A.2.2 (own_in h2 hj hji hi) (by rw [hji, h4 i hi, hv]) hg hs hd target kk
theorem own_laload (X : Stand p l e R s m args below meth c T locs cells slots) (hx : p.tables.exec = Jvm.exec) (hZ : Z.Warmed39 s.vm) (eT : T.heap = h) (A : Arw Z h a k .long n f) {j : Int32} {i : Nat} (hj : ¬ j < 0) (hji : j.toNatClampNeg = i) (hi : i < n) {v : Int64} (hv : f i = .long v)
    {g : JFrame} (hg : g.method = m) {rest : List Value} (hs : g.stack = .int j :: .ref a :: rest) (hd : decode c.code g.pc = .ok (.laload, 1)) :
    ∀ target, Steps p.tables e below (T.setTop { g with pc := g.pc + 1, stack := .long v :: rest }) target → Steps p.tables e below (T.setTop g) target := by
  obtain ⟨cl, A, h1, h2, h3, h4, h5⟩ := A
  intro target kk
  exact X.laload hx (by rw [eT]; exact A.1) (State.isArrayOf_alike hZ.alike A.2.1) A.2.2 (own_in h2 hj hji hi) (by rw [hji, h4 i hi, hv]) hg hs hd target kk
theorem own_aaload (X : Stand p l e R s m args below meth c T locs cells slots) (hx : p.tables.exec = Jvm.exec) (hZ : Z.Warmed39 s.vm) (eT : T.heap = h) (A : Arw Z h a k ty n f) (hty : ty.isReference = true) {j : Int32} {i : Nat} (hj : ¬ j < 0) (hji : j.toNatClampNeg = i) (hi : i < n) {v : Value} (hv : f i = v)
    {g : JFrame} (hg : g.method = m) {rest : List Value} (hs : g.stack = .int j :: .ref a :: rest) (hd : decode c.code g.pc = .ok (.aaload, 1)) :
    ∀ target, Steps p.tables e below (T.setTop { g with pc := g.pc + 1, stack := v :: rest }) target → Steps p.tables e below (T.setTop g) target := by
  obtain ⟨cl, A, h1, h2, h3, h4, h5⟩ := A
  intro target kk
  exact X.aaload hx (by rw [eT]; exact A.1) (State.isArrayOf_alike hZ.alike A.2.1) hty A.2.2 (own_in h2 hj hji hi) (by rw [hji, h4 i hi, hv]) hg hs hd target kk
theorem own_ix {j : Int32} {i : Nat} (h : j.toInt = i) : ¬ j < 0 ∧ j.toNatClampNeg = i := by
  constructor
  · intro q
    have q1 := Int32.lt_iff_toInt_lt.mp q
    have q3 : (0 : Int32).toInt = 0 := by decide
    omega
  · show j.toInt.toNat = i
    omega
theorem own_lti {x y : Int32} : x < y ↔ x.toInt < y.toInt := Int32.lt_iff_toInt_lt
theorem Arw.ofArv {z : Int32} {vs : List Value} {dv : Value} (F : Arv Z h a k ty z vs dv) (hn : z.toNatClampNeg = n) (q : ∀ i, i < n → vs.getD i dv = f i) : Arw Z h a k ty n f := by
  obtain ⟨c, A, h1, h2, h3, h4, h5⟩ := F
  have hb := (back32 h3).2
  refine ⟨c, A, h1, h2.trans hn, by omega, fun i hi => ?_, fun i hi => ?_⟩
  · rw [h4 i (by omega), q i hi]
  · rw [← q i hi]
    exact h5 i (by omega)
theorem own_set {cl : Cell} {j : Int32} {i : Nat} {v : Value} (A : Arr Z h a cl ty) (h1 : cl.cls = k) (h2 : cl.slots.size = n) (h3 : n < 2147483648) (h4 : ∀ i, i < n → cl.slots[i]? = some (f i)) (h5 : ∀ i, i < n → fits ty (f i) = true) (hv : fits ty v = true) (W : Wr h h' a j.toNatClampNeg v) (hji : j.toNatClampNeg = i) (hi : i < n) :
    Arw Z h' a k ty n (own_upd f i v) := by
  subst hji
  refine ⟨_, A.same W, h1, by rw [sz_set]; exact h2, h3, fun q hq => ?_, fun q hq => ?_⟩
  · by_cases e : q = j.toNatClampNeg
    · subst e
      rw [own_upd_same]
      simp [Cell.setSlot, h2, hq]
    · rw [own_upd_ne _ _ e, ← h4 q hq]
      simp [Cell.setSlot, Array.getElem?_setIfInBounds, Ne.symm e]
  · by_cases e : q = j.toNatClampNeg
    · subst e
      rw [own_upd_same]
      exact hv
    · rw [own_upd_ne _ _ e]
      exact h5 q hq
theorem own_iastore (X : Stand p l e R s m args below meth c T locs cells slots) (hx : p.tables.exec = Jvm.exec) (hZ : Z.Warmed39 s.vm) (eT : T.heap = h) (A : Arw Z h a k .int n f) {j : Int32} {i : Nat} (hj : ¬ j < 0) (hji : j.toNatClampNeg = i) (hi : i < n)
    {g : JFrame} (hg : g.method = m) {x : Int32} {rest : List Value} (hs : g.stack = .int x :: .int j :: .ref a :: rest) (hd : decode c.code g.pc = .ok (.iastore, 1)) :
    ∃ T' h', Stand p l e R s m args below meth c T' (locs ++ [⟨a, j.toNatClampNeg⟩]) cells slots ∧ T'.heap = h' ∧ Wr h h' a j.toNatClampNeg (.int x) ∧ Arw Z h' a k .int n (own_upd f i (.int x)) ∧
      ∀ target, Steps p.tables e below (T'.setTop { g with pc := g.pc + 1, stack := rest }) target → Steps p.tables e below (T.setTop g) target := by
  obtain ⟨cl, A, h1, h2, h3, h4, h5⟩ := A
  obtain ⟨T', h', X', e', W, st⟩ := stI X hx hZ eT A (j := j) (own_in h2 hj hji hi) hg hs hd
  exact ⟨T', h', X', e', W, own_set A h1 h2 h3 h4 h5 rfl W hji hi, st⟩
theorem own_lastore (X : Stand p l e R s m args below meth c T locs cells slots) (hx : p.tables.exec = Jvm.exec) (hZ : Z.Warmed39 s.vm) (eT : T.heap = h) (A : Arw Z h a k .long n f) {j : Int32} {i : Nat} (hj : ¬ j < 0) (hji : j.toNatClampNeg = i) (hi : i < n)
    {g : JFrame} (hg : g.method = m) {x : Int64} {rest : List Value} (hs : g.stack = .long x :: .int j :: .ref a :: rest) (hd : decode c.code g.pc = .ok (.lastore, 1)) :
    ∃ T' h', Stand p l e R s m args below meth c T' (locs ++ [⟨a, j.toNatClampNeg⟩]) cells slots ∧ T'.heap = h' ∧ Wr h h' a j.toNatClampNeg (.long x) ∧ Arw Z h' a k .long n (own_upd f i (.long x)) ∧
      ∀ target, Steps p.tables e below (T'.setTop { g with pc := g.pc + 1, stack := rest }) target → Steps p.tables e below (T.setTop g) target := by
  obtain ⟨cl, A, h1, h2, h3, h4, h5⟩ := A
  obtain ⟨T', h', X', e', W, st⟩ := stJ X hx hZ eT A (j := j) (own_in h2 hj hji hi) hg hs hd
  exact ⟨T', h', X', e', W, own_set A h1 h2 h3 h4 h5 rfl W hji hi, st⟩
theorem own_castore (X : Stand p l e R s m args below meth c T locs cells slots) (hx : p.tables.exec = Jvm.exec) (hZ : Z.Warmed39 s.vm) (eT : T.heap = h) (A : Arw Z h a k .char n f) {j : Int32} {i : Nat} (hj : ¬ j < 0) (hji : j.toNatClampNeg = i) (hi : i < n)
    {g : JFrame} (hg : g.method = m) {x : Int32} {rest : List Value} (hs : g.stack = .int x :: .int j :: .ref a :: rest) (hd : decode c.code g.pc = .ok (.castore, 1)) :
    ∃ T' h', Stand p l e R s m args below meth c T' (locs ++ [⟨a, j.toNatClampNeg⟩]) cells slots ∧ T'.heap = h' ∧ Wr h h' a j.toNatClampNeg (.int (nar .char x)) ∧ Arw Z h' a k .char n (own_upd f i (.int (nar .char x))) ∧
      ∀ target, Steps p.tables e below (T'.setTop { g with pc := g.pc + 1, stack := rest }) target → Steps p.tables e below (T.setTop g) target := by
  obtain ⟨cl, A, h1, h2, h3, h4, h5⟩ := A
  obtain ⟨T', h', X', e', W, st⟩ := stC X hx hZ eT A (j := j) (own_in h2 hj hji hi) hg hs hd
  exact ⟨T', h', X', e', W, own_set A h1 h2 h3 h4 h5 (fits_nar_char _) W hji hi, st⟩
theorem own_caload (X : Stand p l e R s m args below meth c T locs cells slots) (hx : p.tables.exec = Jvm.exec) (hZ : Z.Warmed39 s.vm) (eT : T.heap = h) (A : Arw Z h a k .char n f) {j : Int32} {i : Nat} (hj : ¬ j < 0) (hji : j.toNatClampNeg = i) (hi : i < n) {v : Int32} (hv : f i = .int v)
    {g : JFrame} (hg : g.method = m) {rest : List Value} (hs : g.stack = .int j :: .ref a :: rest) (hd : decode c.code g.pc = .ok (.caload, 1)) :
    ∀ target, Steps p.tables e below (T.setTop { g with pc := g.pc + 1, stack := .int v :: rest }) target → Steps p.tables e below (T.setTop g) target := by
  obtain ⟨cl, A, h1, h2, h3, h4, h5⟩ := A
  intro target kk
  exact X.caload hx (by rw [eT]; exact A.1) (State.isArrayOf_alike hZ.alike A.2.1) A.2.2 (own_in h2 hj hji hi) (by rw [hji, h4 i hi, hv]) hg hs hd target kk
theorem Arw.toArv {vs : List Value} {dv : Value} {z : Int32} (F : Arw Z h a k ty n f) (hz : z.toInt = (n : Int)) (q : ∀ i, i < n → vs.getD i dv = f i) : Arv Z h a k ty z vs dv := by
  obtain ⟨c, A, h1, h2, h3, h4, h5⟩ := F
  obtain ⟨z0, zn⟩ := own_ix hz
  exact ⟨c, A, h1, h2.trans zn.symm, z0, fun i hi => by rw [h4 i (by omega), q i (by omega)], fun i hi => by rw [q i (by omega)]; exact h5 i (by omega)⟩
end Arrays
theorem ef_rm1 (m : MethodId) (a : Addr) : entryFrame m #[(.ref a)] 1 = mkF m 0 #[.val (.ref a)] [] := by first | (simp [entryFrame, mkF, argsToLocals, Value.category]; done) | rfl
def Qrm1 (Z : State) (a : Addr) (h0 : Heap) (n0 : Nat) (v_ : Option Value) (h_ : Heap) (L_ : List Loc) : Prop := ∃ b : Addr, ∃ k : ClassId, v_ = none ∧ Fr n0 L_ ∧ Keep h0 h_ [a] ∧ h0.size ≤ b ∧ Exa Z h_ a "com/example/graphsmith/graphsmith/conformance/IntStack" ∧ Fld Z h_ a "com/example/graphsmith/graphsmith/conformance/IntStack" "values" "[I" (.ref b) ∧ Fld Z h_ a "com/example/graphsmith/graphsmith/conformance/IntStack" "size" "I" (.int (0 : Int32)) ∧ Arw Z h_ b k .int 32 (fun _ => (.int 0))
theorem pn_com_example_graphsmith_graphsmith_conformance_IntStack : plainName "com/example/graphsmith/graphsmith/conformance/IntStack" = true := by first | (simp [plainName, overriddenIn]; done) | decide +kernel
theorem d1_0 : decode prog_18_method_1_code 0 = .ok (.aload_n 0, 1) := by decide +kernel
theorem d1_1 : decode prog_18_method_1_code 1 = .ok (.invokespecial 1, 3) := by decide +kernel
theorem d1_4 : decode prog_18_method_1_code 4 = .ok (.aload_n 0, 1) := by decide +kernel
theorem d1_5 : decode prog_18_method_1_code 5 = .ok (.bipush 32, 2) := by decide +kernel
theorem d1_7 : decode prog_18_method_1_code 7 = .ok (.newarray .int, 2) := by decide +kernel
theorem d1_9 : decode prog_18_method_1_code 9 = .ok (.putfield 7, 3) := by decide +kernel
theorem d1_12 : decode prog_18_method_1_code 12 = .ok (.return_, 1) := by decide +kernel
set_option maxRecDepth 65536 in
set_option maxHeartbeats 40000000 in
theorem rm1 (l : Launch) (Z : State) (a0 : Array Value) (hw : ∀ d ∈ tables_1, d.before a0 Z = true) (ws : List Jvm.Cond) (a : Addr) (h0 : Heap) (n0 : Nat) (Z0 : n0 ≤ h0.size) (E0_a : Exa Z h0 a "com/example/graphsmith/graphsmith/conformance/IntStack") (F1_a_values : Fld Z h0 a "com/example/graphsmith/graphsmith/conformance/IntStack" "values" "[I" .null) (F2_a_size : Fld Z h0 a "com/example/graphsmith/graphsmith/conformance/IntStack" "size" "I" (.int (0 : Int32))) (H3 : n0 ≤ a) :
    MetFree l (⟨"com/example/graphsmith/graphsmith/conformance/IntStack", "<init>", "()V"⟩ : MethodName) (head1 (Jvm.Cond.code (⟨"com/example/graphsmith/graphsmith/conformance/IntStack", "<init>", "()V"⟩ : MethodName) prog_18_method_1_code 1 none :: ws) ({ frames := 1, cells := 1, slots := 32, locals := 12 } : Room)) (fun as_ U_ => as_ = #[(.ref a)] ∧ Z.Warmed39 U_.vm ∧ U_.heap = h0) (fun _ _ _ _ _ => True) (fun _ U_ o_ V_ => ∃ v_ L_, o_ = .returned v_ ∧ Qrm1 Z a h0 n0 v_ V_.heap L_ ∧ FrameEnd U_ o_ V_ L_ ({ frames := 1, cells := 1, slots := 32, locals := 12 } : Room).cells ({ frames := 1, cells := 1, slots := 32, locals := 12 } : Room).slots) := by
  refine MetFree.of_bodySF (plainFor_of_name pn_com_example_graphsmith_graphsmith_conformance_IntStack) hisR ?_
  intro p e s m args below meth c s₁ Bd hml0 hP hK
  obtain ⟨rfl, hZ, hh⟩ := hP
  have hx := Bd.exec
  have hby := Bd.bytes
  have hlk : meth.locks = false := BodyLoose.notSynchronized Bd
  have hret := Bd.returns
  have hml : c.maxLocals = 1 := hml0
  have hown : s.vm.findClass "com/example/graphsmith/graphsmith/conformance/IntStack" = some m.cls := findClass_of_methodNamed Bd.named
  have hnm := (name_of_methodNamed Bd.named Bd.method).1
  have X0 : Stand p l e ({ frames := 1, cells := 1, slots := 32, locals := 12 } : Room) s m #[(.ref a)] below meth c s₁ [] 0 0 := Stand.of_body Bd
  have e0 : s₁.heap = h0 := by rw [← hh, Bd.state]; rfl
  have N0 := Fr.nil n0
  show Goes p e below (Fin_ s (Qrm1 Z a h0 n0) ({ frames := 1, cells := 1, slots := 32, locals := 12 } : Room).cells ({ frames := 1, cells := 1, slots := 32, locals := 12 } : Room).slots) (s₁.setTop (entryFrame m #[(.ref a)] 1))
  rw [ef_rm1 m a]
  refine Goes.via (fun _ k => XS.aloadN X0.here hx rfl (hb hby d1_0) rfl rfl  k) ?_
  show Goes p e below _ (s₁.setTop (mkF m 1 #[.val (.ref a)] [(.ref a)]))
  obtain ⟨T1, X1, e1, st1⟩ := initO X0 hx hZ hown (hw _ (List.mem_of_getElem? (i := 6) rfl)) (hw _ (List.mem_of_getElem? (i := 7) rfl)) (hw _ (List.mem_of_getElem? (i := 8) rfl)) e0 (g := (mkF m 1 #[.val (.ref a)] [(.ref a)])) rfl (by rw [hml]; rfl) rfl (hb hby d1_1) (by decide) (W := 0) (by show 2 * 0 + _ ≤ _; exact Nat.le_of_eq rfl) (by decide)
  refine Goes.via st1 ?_
  show Goes p e below _ (T1.setTop (mkF m 4 #[.val (.ref a)] []))
  refine Goes.via (fun _ k => XS.aloadN X1.here hx rfl (hb hby d1_4) rfl rfl  k) ?_
  show Goes p e below _ (T1.setTop (mkF m 5 #[.val (.ref a)] [(.ref a)]))
  refine Goes.via (fun _ k => XS.bipush X1.here hx rfl (hb hby d1_5) k) ?_
  show Goes p e below _ (T1.setTop (mkF m 7 #[.val (.ref a)] [(.int (32 : Int32)), (.ref a)]))
  obtain ⟨T2, h2, k2, X2, e2, E2, A2, st2⟩ := own_newP X1 hx hZ (hw _ (List.mem_of_getElem? (i := 9) rfl)) e1 (g := (mkF m 7 #[.val (.ref a)] [(.int (32 : Int32)), (.ref a)])) rfl (hb hby d1_7) rfl (n := (32 : Int32)) (N := 32) (by decide) (by decide) (cap := 32) (by first | decide | omega) (by first | decide | omega) (by first | decide | omega) (by first | decide | omega)
  obtain ⟨b2, g2⟩ : ∃ z, z = (h0).size := ⟨_, rfl⟩
  rw [← g2] at A2 st2
  have lne3 : a < b2 := Nat.lt_of_lt_of_le E0_a.lt (Nat.le_of_eq g2.symm)
  have ne3 : a ≠ b2 := Nat.ne_of_lt lne3
  have sz_b2 : h0.size ≤ b2 := Nat.le_trans (Nat.le_refl _) (Nat.le_of_eq g2.symm)
  have gn_b2 : n0 ≤ b2 := Nat.le_trans Z0 sz_b2
  refine Goes.via st2 ?_
  show Goes p e below _ (T2.setTop (mkF m 9 #[.val (.ref a)] [(.ref b2), (.ref a)]))
  have f4 : Fld Z h2 a "com/example/graphsmith/graphsmith/conformance/IntStack" "values" "[I" .null := (F1_a_values.ext E2)
  have f5 : Exa Z h2 a "com/example/graphsmith/graphsmith/conformance/IntStack" := (E0_a.ext E2)
  obtain ⟨T6, h6, X6, e6, W6, st6⟩ := putF X2 hx hZ hown (host := "") (Or.inl (hw _ (List.mem_of_getElem? (i := 10) rfl))) Via.refl e2 f4 f5 (Or.inl (hw _ (List.mem_of_getElem? (i := 11) rfl))) (hw _ (List.mem_of_getElem? (i := 1) rfl)) (ty := (.array .int)) (by decide) rfl rfl (g := (mkF m 9 #[.val (.ref a)] [(.ref b2), (.ref a)])) rfl rfl (hb hby d1_9)
  refine Goes.via st6 ?_
  have N6 := Fr.snoc X6 N0 H3
  have Fw6 : Fld Z h6 a "com/example/graphsmith/graphsmith/conformance/IntStack" "values" "[I" (.ref b2) := f4.same W6
  show Goes p e below _ (T6.setTop (mkF m 12 #[.val (.ref a)] []))
  have K7 : Keep h0 h6 [a] := (((Keep.refl h0 [a]).ext E2).wr W6 (Or.inl (List.mem_of_getElem? (i := 0) rfl)))
  have f8 : Exa Z h6 a "com/example/graphsmith/graphsmith/conformance/IntStack" := (f5.wr W6)
  have f9 : Fld Z h6 a "com/example/graphsmith/graphsmith/conformance/IntStack" "size" "I" (.int (0 : Int32)) := ((F2_a_size.ext E2).other W6 (Or.inr (slot_ne (Or.inl (hw _ (List.mem_of_getElem? (i := 18) rfl))) (Or.inl (hw _ (List.mem_of_getElem? (i := 11) rfl))) (by decide) (t := .int) (t' := (.array .int)) (by decide) (by decide))))
  have f10 : Arw Z h6 b2 k2 .int 32 (fun _ => (.int 0)) := (A2.other W6 (Ne.symm ne3))
  exact own_finV X6 hx hlk hret (hb hby d1_12) (by rw [e6]; exact ⟨b2, k2, rfl, N6, K7, sz_b2, f8, Fw6, f9, f10⟩) (by first | decide | omega) (by first | decide | omega)
theorem ef_rm3 (m : MethodId) (a : Addr) (x : Int32) : entryFrame m #[(.ref a), (.int x)] 2 = mkF m 0 #[.val (.ref a), .val (.int x)] [] := by first | (simp [entryFrame, mkF, argsToLocals, Value.category]; done) | rfl
def Qrm3 (Z : State) (a : Addr) (x : Int32) (b : Addr) (k : ClassId) (sz : Int32) (i : Nat) (f : Nat → Value) (h0 : Heap) (n0 : Nat) (v_ : Option Value) (h_ : Heap) (L_ : List Loc) : Prop := v_ = none ∧ Fr n0 L_ ∧ Keep h0 h_ [a, b] ∧ Exa Z h_ a "com/example/graphsmith/graphsmith/conformance/IntStack" ∧ Fld Z h_ a "com/example/graphsmith/graphsmith/conformance/IntStack" "size" "I" (.int (sz + (1 : Int32))) ∧ Fld Z h_ a "com/example/graphsmith/graphsmith/conformance/IntStack" "values" "[I" (.ref b) ∧ Arw Z h_ b k .int 32 (own_upd f i (.int x))
theorem d3_0 : decode prog_18_method_3_code 0 = .ok (.aload_n 0, 1) := by decide +kernel
theorem d3_1 : decode prog_18_method_3_code 1 = .ok (.getfield 13, 3) := by decide +kernel
theorem d3_4 : decode prog_18_method_3_code 4 = .ok (.aload_n 0, 1) := by decide +kernel
theorem d3_5 : decode prog_18_method_3_code 5 = .ok (.getfield 7, 3) := by decide +kernel
theorem d3_8 : decode prog_18_method_3_code 8 = .ok (.arraylength, 1) := by decide +kernel
theorem d3_9 : decode prog_18_method_3_code 9 = .ok (.if_icmp .ne 20, 3) := by decide +kernel
theorem d3_29 : decode prog_18_method_3_code 29 = .ok (.aload_n 0, 1) := by decide +kernel
theorem d3_30 : decode prog_18_method_3_code 30 = .ok (.getfield 7, 3) := by decide +kernel
theorem d3_33 : decode prog_18_method_3_code 33 = .ok (.aload_n 0, 1) := by decide +kernel
theorem d3_34 : decode prog_18_method_3_code 34 = .ok (.dup, 1) := by decide +kernel
theorem d3_35 : decode prog_18_method_3_code 35 = .ok (.getfield 13, 3) := by decide +kernel
theorem d3_38 : decode prog_18_method_3_code 38 = .ok (.dup_x1, 1) := by decide +kernel
theorem d3_39 : decode prog_18_method_3_code 39 = .ok (.iconst 1, 1) := by decide +kernel
theorem d3_40 : decode prog_18_method_3_code 40 = .ok (.iadd, 1) := by decide +kernel
theorem d3_41 : decode prog_18_method_3_code 41 = .ok (.putfield 13, 3) := by decide +kernel
theorem d3_44 : decode prog_18_method_3_code 44 = .ok (.iload_n 1, 1) := by decide +kernel
theorem d3_45 : decode prog_18_method_3_code 45 = .ok (.iastore, 1) := by decide +kernel
theorem d3_46 : decode prog_18_method_3_code 46 = .ok (.return_, 1) := by decide +kernel
set_option maxRecDepth 65536 in
set_option maxHeartbeats 40000000 in
theorem rm3 (l : Launch) (Z : State) (a0 : Array Value) (hw : ∀ d ∈ tables_1, d.before a0 Z = true) (ws : List Jvm.Cond) (a : Addr) (x : Int32) (b : Addr) (k : ClassId) (sz : Int32) (i : Nat) (f : Nat → Value) (h0 : Heap) (n0 : Nat) (Z0 : n0 ≤ h0.size) (E0_a : Exa Z h0 a "com/example/graphsmith/graphsmith/conformance/IntStack") (F1_a_size : Fld Z h0 a "com/example/graphsmith/graphsmith/conformance/IntStack" "size" "I" (.int sz)) (F2_a_values : Fld Z h0 a "com/example/graphsmith/graphsmith/conformance/IntStack" "values" "[I" (.ref b)) (A3_b : Arw Z h0 b k .int 32 f) (H4 : n0 ≤ a) (H5 : n0 ≤ b) (Hn : ¬ sz < (0 : Int32)) (Hi : (sz).toNatClampNeg = i) (Hl : i < 32) :
    MetFree l (⟨"com/example/graphsmith/graphsmith/conformance/IntStack", "push", "(I)V"⟩ : MethodName) (head1 (Jvm.Cond.code (⟨"com/example/graphsmith/graphsmith/conformance/IntStack", "push", "(I)V"⟩ : MethodName) prog_18_method_3_code 2 none :: ws) ({ frames := 0, cells := 0, slots := 0, locals := 0 } : Room)) (fun as_ U_ => as_ = #[(.ref a), (.int x)] ∧ Z.Warmed39 U_.vm ∧ U_.heap = h0) (fun _ _ _ _ _ => True) (fun _ U_ o_ V_ => ∃ v_ L_, o_ = .returned v_ ∧ Qrm3 Z a x b k sz i f h0 n0 v_ V_.heap L_ ∧ FrameEnd U_ o_ V_ L_ ({ frames := 0, cells := 0, slots := 0, locals := 0 } : Room).cells ({ frames := 0, cells := 0, slots := 0, locals := 0 } : Room).slots) := by
  refine MetFree.of_bodySF (plainFor_of_name pn_com_example_graphsmith_graphsmith_conformance_IntStack) hisR ?_
  intro p e s m args below meth c s₁ Bd hml0 hP hK
  obtain ⟨rfl, hZ, hh⟩ := hP
  have hx := Bd.exec
  have hby := Bd.bytes
  have hlk : meth.locks = false := BodyLoose.notSynchronized Bd
  have hret := Bd.returns
  have hml : c.maxLocals = 2 := hml0
  have hown : s.vm.findClass "com/example/graphsmith/graphsmith/conformance/IntStack" = some m.cls := findClass_of_methodNamed Bd.named
  have hnm := (name_of_methodNamed Bd.named Bd.method).1
  have X0 : Stand p l e ({ frames := 0, cells := 0, slots := 0, locals := 0 } : Room) s m #[(.ref a), (.int x)] below meth c s₁ [] 0 0 := Stand.of_body Bd
  have e0 : s₁.heap = h0 := by rw [← hh, Bd.state]; rfl
  have N0 := Fr.nil n0
  show Goes p e below (Fin_ s (Qrm3 Z a x b k sz i f h0 n0) ({ frames := 0, cells := 0, slots := 0, locals := 0 } : Room).cells ({ frames := 0, cells := 0, slots := 0, locals := 0 } : Room).slots) (s₁.setTop (entryFrame m #[(.ref a), (.int x)] 2))
  rw [ef_rm3 m a x]
  have ne1 : a ≠ b := own_ne_arr E0_a (hw _ (List.mem_of_getElem? (i := 1) rfl)) A3_b
  refine Goes.via (fun _ k => XS.aloadN X0.here hx rfl (hb hby d3_0) rfl rfl  k) ?_
  show Goes p e below _ (s₁.setTop (mkF m 1 #[.val (.ref a), .val (.int x)] [(.ref a)]))
  obtain ⟨T2, X2, e2, st2⟩ := getF X0 hx hZ hown (host := "") (Or.inl (hw _ (List.mem_of_getElem? (i := 17) rfl))) Via.refl e0 F1_a_size (g := (mkF m 1 #[.val (.ref a), .val (.int x)] [(.ref a)])) rfl rfl (hb hby d3_1)
  refine Goes.via st2 ?_
  show Goes p e below _ (T2.setTop (mkF m 4 #[.val (.ref a), .val (.int x)] [(.int sz)]))
  refine Goes.via (fun _ k => XS.aloadN X2.here hx rfl (hb hby d3_4) rfl rfl  k) ?_
  show Goes p e below _ (T2.setTop (mkF m 5 #[.val (.ref a), .val (.int x)] [(.ref a), (.int sz)]))
  obtain ⟨T3, X3, e3, st3⟩ := getF X2 hx hZ hown (host := "") (Or.inl (hw _ (List.mem_of_getElem? (i := 10) rfl))) Via.refl e2 F2_a_values (g := (mkF m 5 #[.val (.ref a), .val (.int x)] [(.ref a), (.int sz)])) rfl rfl (hb hby d3_5)
  refine Goes.via st3 ?_
  show Goes p e below _ (T3.setTop (mkF m 8 #[.val (.ref a), .val (.int x)] [(.ref b), (.int sz)]))
  refine Goes.via (own_alen X3 hx hZ e3 A3_b (g := (mkF m 8 #[.val (.ref a), .val (.int x)] [(.ref b), (.int sz)])) rfl rfl (hb hby d3_8)) ?_
  show Goes p e below _ (T3.setTop (mkF m 9 #[.val (.ref a), .val (.int x)] [(.int (32 : Int32)), (.int sz)]))
  have hc9_4 : ¬ (sz = (32 : Int32)) := (fun q => by subst q; have q32 : (32 : Int32).toNatClampNeg = 32 := (by decide); omega)
  refine Goes.via (fun _ k => XS.icmpYes X3.here hx rfl (pc0 := 9) (pc' := 29) rfl (hb hby d3_9) rfl (feq hc9_4).2 (by decide) (by decide) k) ?_
  show Goes p e below _ (T3.setTop (mkF m 29 #[.val (.ref a), .val (.int x)] []))
  refine Goes.via (fun _ k => XS.aloadN X3.here hx rfl (hb hby d3_29) rfl rfl  k) ?_
  show Goes p e below _ (T3.setTop (mkF m 30 #[.val (.ref a), .val (.int x)] [(.ref a)]))
  obtain ⟨T5, X5, e5, st5⟩ := getF X3 hx hZ hown (host := "") (Or.inl (hw _ (List.mem_of_getElem? (i := 10) rfl))) Via.refl e3 F2_a_values (g := (mkF m 30 #[.val (.ref a), .val (.int x)] [(.ref a)])) rfl rfl (hb hby d3_30)
  refine Goes.via st5 ?_
  show Goes p e below _ (T5.setTop (mkF m 33 #[.val (.ref a), .val (.int x)] [(.ref b)]))
  refine Goes.via (fun _ k => XS.aloadN X5.here hx rfl (hb hby d3_33) rfl rfl  k) ?_
  show Goes p e below _ (T5.setTop (mkF m 34 #[.val (.ref a), .val (.int x)] [(.ref a), (.ref b)]))
  refine Goes.via (fun _ k => XS.dup X5.here hx rfl (hb hby d3_34) rfl rfl k) ?_
  show Goes p e below _ (T5.setTop (mkF m 35 #[.val (.ref a), .val (.int x)] [(.ref a), (.ref a), (.ref b)]))
  obtain ⟨T6, X6, e6, st6⟩ := getF X5 hx hZ hown (host := "") (Or.inl (hw _ (List.mem_of_getElem? (i := 17) rfl))) Via.refl e5 F1_a_size (g := (mkF m 35 #[.val (.ref a), .val (.int x)] [(.ref a), (.ref a), (.ref b)])) rfl rfl (hb hby d3_35)
  refine Goes.via st6 ?_
  show Goes p e below _ (T6.setTop (mkF m 38 #[.val (.ref a), .val (.int x)] [(.int sz), (.ref a), (.ref b)]))
  refine Goes.via (fun _ k => XS.dupX1 X6.here hx rfl (hb hby d3_38) rfl rfl rfl k) ?_
  show Goes p e below _ (T6.setTop (mkF m 39 #[.val (.ref a), .val (.int x)] [(.int sz), (.ref a), (.int sz), (.ref b)]))
  refine Goes.via (fun _ k => XS.iconst X6.here hx rfl (hb hby d3_39) k) ?_
  show Goes p e below _ (T6.setTop (mkF m 40 #[.val (.ref a), .val (.int x)] [(.int (1 : Int32)), (.int sz), (.ref a), (.int sz), (.ref b)]))
  refine Goes.via (fun _ k => XS.iadd X6.here hx rfl (hb hby d3_40) rfl k) ?_
  show Goes p e below _ (T6.setTop (mkF m 41 #[.val (.ref a), .val (.int x)] [(.int (sz + (1 : Int32))), (.ref a), (.int sz), (.ref b)]))
  obtain ⟨T7, h7, X7, e7, W7, st7⟩ := putF X6 hx hZ hown (host := "") (Or.inl (hw _ (List.mem_of_getElem? (i := 17) rfl))) Via.refl e6 F1_a_size E0_a (Or.inl (hw _ (List.mem_of_getElem? (i := 18) rfl))) (hw _ (List.mem_of_getElem? (i := 1) rfl)) (ty := .int) (by decide) rfl rfl (g := (mkF m 41 #[.val (.ref a), .val (.int x)] [(.int (sz + (1 : Int32))), (.ref a), (.int sz), (.ref b)])) rfl rfl (hb hby d3_41)
  refine Goes.via st7 ?_
  have N7 := Fr.snoc X7 N0 H4
  have Fw7 : Fld Z h7 a "com/example/graphsmith/graphsmith/conformance/IntStack" "size" "I" (.int (sz + (1 : Int32))) := F1_a_size.same W7
  show Goes p e below _ (T7.setTop (mkF m 44 #[.val (.ref a), .val (.int x)] [(.int sz), (.ref b)]))
  refine Goes.via (fun _ k => XS.iloadN X7.here hx rfl (hb hby d3_44) rfl  k) ?_
  show Goes p e below _ (T7.setTop (mkF m 45 #[.val (.ref a), .val (.int x)] [(.int x), (.int sz), (.ref b)]))
  have f8 : Arw Z h7 b k .int 32 f := (A3_b.other W7 (Ne.symm ne1))
  obtain ⟨T9, h9, X9, e9, W9, A9, st9⟩ := own_iastore X7 hx hZ e7 f8 (j := sz) (i := i) Hn Hi Hl (g := (mkF m 45 #[.val (.ref a), .val (.int x)] [(.int x), (.int sz), (.ref b)])) rfl rfl (hb hby d3_45)
  refine Goes.via st9 ?_
  have N9 := Fr.snoc X9 N7 H5
  show Goes p e below _ (T9.setTop (mkF m 46 #[.val (.ref a), .val (.int x)] []))
  have K10 : Keep h0 h9 [a, b] := (((Keep.refl h0 [a, b]).wr W7 (Or.inl (List.mem_of_getElem? (i := 0) rfl))).wr W9 (Or.inl (List.mem_of_getElem? (i := 1) rfl)))
  have f11 : Exa Z h9 a "com/example/graphsmith/graphsmith/conformance/IntStack" := ((E0_a.wr W7).wr W9)
  have f12 : Fld Z h9 a "com/example/graphsmith/graphsmith/conformance/IntStack" "size" "I" (.int (sz + (1 : Int32))) := (Fw7.other W9 (Or.inl ne1))
  have f13 : Fld Z h9 a "com/example/graphsmith/graphsmith/conformance/IntStack" "values" "[I" (.ref b) := ((F2_a_values.other W7 (Or.inr (slot_ne (Or.inl (hw _ (List.mem_of_getElem? (i := 11) rfl))) (Or.inl (hw _ (List.mem_of_getElem? (i := 18) rfl))) (by decide) (t := (.array .int)) (t' := .int) (by decide) (by decide)))).other W9 (Or.inl ne1))
  exact own_finV X9 hx hlk hret (hb hby d3_46) (by rw [e9]; exact ⟨rfl, N9, K10, f11, f12, f13, A9⟩) (by first | decide | omega) (by first | decide | omega)
theorem ef_rm4 (m : MethodId) (a : Addr) : entryFrame m #[(.ref a)] 1 = mkF m 0 #[.val (.ref a)] [] := by first | (simp [entryFrame, mkF, argsToLocals, Value.category]; done) | rfl
def Qrm4 (Z : State) (a : Addr) (b : Addr) (k : ClassId) (sz : Int32) (i : Nat) (f : Nat → Value) (x : Int32) (h0 : Heap) (n0 : Nat) (v_ : Option Value) (h_ : Heap) (L_ : List Loc) : Prop := v_ = some (.int x) ∧ Fr n0 L_ ∧ Keep h0 h_ [a] ∧ Exa Z h_ a "com/example/graphsmith/graphsmith/conformance/IntStack" ∧ Fld Z h_ a "com/example/graphsmith/graphsmith/conformance/IntStack" "size" "I" (.int (sz - (1 : Int32))) ∧ Fld Z h_ a "com/example/graphsmith/graphsmith/conformance/IntStack" "values" "[I" (.ref b) ∧ Arw Z h_ b k .int 32 f
theorem d4_0 : decode prog_18_method_4_code 0 = .ok (.aload_n 0, 1) := by decide +kernel
theorem d4_1 : decode prog_18_method_4_code 1 = .ok (.getfield 7, 3) := by decide +kernel
theorem d4_4 : decode prog_18_method_4_code 4 = .ok (.aload_n 0, 1) := by decide +kernel
theorem d4_5 : decode prog_18_method_4_code 5 = .ok (.dup, 1) := by decide +kernel
theorem d4_6 : decode prog_18_method_4_code 6 = .ok (.getfield 13, 3) := by decide +kernel
theorem d4_9 : decode prog_18_method_4_code 9 = .ok (.iconst 1, 1) := by decide +kernel
theorem d4_10 : decode prog_18_method_4_code 10 = .ok (.isub, 1) := by decide +kernel
theorem d4_11 : decode prog_18_method_4_code 11 = .ok (.dup_x1, 1) := by decide +kernel
theorem d4_12 : decode prog_18_method_4_code 12 = .ok (.putfield 13, 3) := by decide +kernel
theorem d4_15 : decode prog_18_method_4_code 15 = .ok (.iaload, 1) := by decide +kernel
theorem d4_16 : decode prog_18_method_4_code 16 = .ok (.ireturn, 1) := by decide +kernel
set_option maxRecDepth 65536 in
set_option maxHeartbeats 40000000 in
theorem rm4 (l : Launch) (Z : State) (a0 : Array Value) (hw : ∀ d ∈ tables_1, d.before a0 Z = true) (ws : List Jvm.Cond) (a : Addr) (b : Addr) (k : ClassId) (sz : Int32) (i : Nat) (f : Nat → Value) (x : Int32) (h0 : Heap) (n0 : Nat) (Z0 : n0 ≤ h0.size) (E0_a : Exa Z h0 a "com/example/graphsmith/graphsmith/conformance/IntStack") (F1_a_size : Fld Z h0 a "com/example/graphsmith/graphsmith/conformance/IntStack" "size" "I" (.int sz)) (F2_a_values : Fld Z h0 a "com/example/graphsmith/graphsmith/conformance/IntStack" "values" "[I" (.ref b)) (A3_b : Arw Z h0 b k .int 32 f) (H4 : n0 ≤ a) (H5 : n0 ≤ b) (Hn : ¬ (sz - (1 : Int32)) < (0 : Int32)) (Hi : ((sz - (1 : Int32))).toNatClampNeg = i) (Hl : i < 32) (Hv : f i = .int x) :
    MetFree l (⟨"com/example/graphsmith/graphsmith/conformance/IntStack", "pop", "()I"⟩ : MethodName) (head1 (Jvm.Cond.code (⟨"com/example/graphsmith/graphsmith/conformance/IntStack", "pop", "()I"⟩ : MethodName) prog_18_method_4_code 1 (some .int) :: ws) ({ frames := 0, cells := 0, slots := 0, locals := 0 } : Room)) (fun as_ U_ => as_ = #[(.ref a)] ∧ Z.Warmed39 U_.vm ∧ U_.heap = h0) (fun _ _ _ _ _ => True) (fun _ U_ o_ V_ => ∃ v_ L_, o_ = .returned v_ ∧ Qrm4 Z a b k sz i f x h0 n0 v_ V_.heap L_ ∧ FrameEnd U_ o_ V_ L_ ({ frames := 0, cells := 0, slots := 0, locals := 0 } : Room).cells ({ frames := 0, cells := 0, slots := 0, locals := 0 } : Room).slots) := by
  refine MetFree.of_bodySF (plainFor_of_name pn_com_example_graphsmith_graphsmith_conformance_IntStack) hisR ?_
  intro p e s m args below meth c s₁ Bd hml0 hP hK
  obtain ⟨rfl, hZ, hh⟩ := hP
  have hx := Bd.exec
  have hby := Bd.bytes
  have hlk : meth.locks = false := BodyLoose.notSynchronized Bd
  have hret := Bd.returns
  have hml : c.maxLocals = 1 := hml0
  have hown : s.vm.findClass "com/example/graphsmith/graphsmith/conformance/IntStack" = some m.cls := findClass_of_methodNamed Bd.named
  have hnm := (name_of_methodNamed Bd.named Bd.method).1
  have X0 : Stand p l e ({ frames := 0, cells := 0, slots := 0, locals := 0 } : Room) s m #[(.ref a)] below meth c s₁ [] 0 0 := Stand.of_body Bd
  have e0 : s₁.heap = h0 := by rw [← hh, Bd.state]; rfl
  have N0 := Fr.nil n0
  show Goes p e below (Fin_ s (Qrm4 Z a b k sz i f x h0 n0) ({ frames := 0, cells := 0, slots := 0, locals := 0 } : Room).cells ({ frames := 0, cells := 0, slots := 0, locals := 0 } : Room).slots) (s₁.setTop (entryFrame m #[(.ref a)] 1))
  rw [ef_rm4 m a]
  have ne1 : a ≠ b := own_ne_arr E0_a (hw _ (List.mem_of_getElem? (i := 1) rfl)) A3_b
  refine Goes.via (fun _ k => XS.aloadN X0.here hx rfl (hb hby d4_0) rfl rfl  k) ?_
  show Goes p e below _ (s₁.setTop (mkF m 1 #[.val (.ref a)] [(.ref a)]))
  obtain ⟨T2, X2, e2, st2⟩ := getF X0 hx hZ hown (host := "") (Or.inl (hw _ (List.mem_of_getElem? (i := 10) rfl))) Via.refl e0 F2_a_values (g := (mkF m 1 #[.val (.ref a)] [(.ref a)])) rfl rfl (hb hby d4_1)
  refine Goes.via st2 ?_
  show Goes p e below _ (T2.setTop (mkF m 4 #[.val (.ref a)] [(.ref b)]))
  refine Goes.via (fun _ k => XS.aloadN X2.here hx rfl (hb hby d4_4) rfl rfl  k) ?_
  show Goes p e below _ (T2.setTop (mkF m 5 #[.val (.ref a)] [(.ref a), (.ref b)]))
  refine Goes.via (fun _ k => XS.dup X2.here hx rfl (hb hby d4_5) rfl rfl k) ?_
  show Goes p e below _ (T2.setTop (mkF m 6 #[.val (.ref a)] [(.ref a), (.ref a), (.ref b)]))
  obtain ⟨T3, X3, e3, st3⟩ := getF X2 hx hZ hown (host := "") (Or.inl (hw _ (List.mem_of_getElem? (i := 17) rfl))) Via.refl e2 F1_a_size (g := (mkF m 6 #[.val (.ref a)] [(.ref a), (.ref a), (.ref b)])) rfl rfl (hb hby d4_6)
  refine Goes.via st3 ?_
  show Goes p e below _ (T3.setTop (mkF m 9 #[.val (.ref a)] [(.int sz), (.ref a), (.ref b)]))
  refine Goes.via (fun _ k => XS.iconst X3.here hx rfl (hb hby d4_9) k) ?_
  show Goes p e below _ (T3.setTop (mkF m 10 #[.val (.ref a)] [(.int (1 : Int32)), (.int sz), (.ref a), (.ref b)]))
  refine Goes.via (fun _ k => XS.isub X3.here hx rfl (hb hby d4_10) rfl k) ?_
  show Goes p e below _ (T3.setTop (mkF m 11 #[.val (.ref a)] [(.int (sz - (1 : Int32))), (.ref a), (.ref b)]))
  refine Goes.via (fun _ k => XS.dupX1 X3.here hx rfl (hb hby d4_11) rfl rfl rfl k) ?_
  show Goes p e below _ (T3.setTop (mkF m 12 #[.val (.ref a)] [(.int (sz - (1 : Int32))), (.ref a), (.int (sz - (1 : Int32))), (.ref b)]))
  obtain ⟨T4, h4, X4, e4, W4, st4⟩ := putF X3 hx hZ hown (host := "") (Or.inl (hw _ (List.mem_of_getElem? (i := 17) rfl))) Via.refl e3 F1_a_size E0_a (Or.inl (hw _ (List.mem_of_getElem? (i := 18) rfl))) (hw _ (List.mem_of_getElem? (i := 1) rfl)) (ty := .int) (by decide) rfl rfl (g := (mkF m 12 #[.val (.ref a)] [(.int (sz - (1 : Int32))), (.ref a), (.int (sz - (1 : Int32))), (.ref b)])) rfl rfl (hb hby d4_12)
  refine Goes.via st4 ?_
  have N4 := Fr.snoc X4 N0 H4
  have Fw4 : Fld Z h4 a "com/example/graphsmith/graphsmith/conformance/IntStack" "size" "I" (.int (sz - (1 : Int32))) := F1_a_size.same W4
  show Goes p e below _ (T4.setTop (mkF m 15 #[.val (.ref a)] [(.int (sz - (1 : Int32))), (.ref b)]))
  have f5 : Arw Z h4 b k .int 32 f := (A3_b.other W4 (Ne.symm ne1))
  refine Goes.via (own_iaload X4 hx hZ e4 f5 (j := (sz - (1 : Int32))) (i := i) Hn Hi Hl (v := x) Hv (g := (mkF m 15 #[.val (.ref a)] [(.int (sz - (1 : Int32))), (.ref b)])) rfl rfl (hb hby d4_15)) ?_
  show Goes p e below _ (T4.setTop (mkF m 16 #[.val (.ref a)] [(.int x)]))
  have K6 : Keep h0 h4 [a] := ((Keep.refl h0 [a]).wr W4 (Or.inl (List.mem_of_getElem? (i := 0) rfl)))
  have f7 : Exa Z h4 a "com/example/graphsmith/graphsmith/conformance/IntStack" := (E0_a.wr W4)
  have f8 : Fld Z h4 a "com/example/graphsmith/graphsmith/conformance/IntStack" "values" "[I" (.ref b) := (F2_a_values.other W4 (Or.inr (slot_ne (Or.inl (hw _ (List.mem_of_getElem? (i := 11) rfl))) (Or.inl (hw _ (List.mem_of_getElem? (i := 18) rfl))) (by decide) (t := (.array .int)) (t' := .int) (by decide) (by decide))))
  exact own_finI X4 hx hlk hret (hb hby d4_16) (by rw [e4]; exact ⟨rfl, N4, K6, f7, Fw4, f8, f5⟩) (by first | decide | omega) (by first | decide | omega)
theorem ef_rm5 (m : MethodId) (a : Addr) : entryFrame m #[(.ref a)] 1 = mkF m 0 #[.val (.ref a)] [] := by first | (simp [entryFrame, mkF, argsToLocals, Value.category]; done) | rfl
def Qrm5 (Z : State) (a : Addr) (sz : Int32) (h0 : Heap) (n0 : Nat) (v_ : Option Value) (h_ : Heap) (L_ : List Loc) : Prop := v_ = some (.int (if sz = (0 : Int32) then (1 : Int32) else (0 : Int32))) ∧ Fr n0 L_ ∧ h_ = h0
theorem d5_0 : decode prog_18_method_2_code 0 = .ok (.aload_n 0, 1) := by decide +kernel
theorem d5_1 : decode prog_18_method_2_code 1 = .ok (.getfield 13, 3) := by decide +kernel
theorem d5_4 : decode prog_18_method_2_code 4 = .ok (.ifCond .ne 7, 3) := by decide +kernel
theorem d5_7 : decode prog_18_method_2_code 7 = .ok (.iconst 1, 1) := by decide +kernel
theorem d5_8 : decode prog_18_method_2_code 8 = .ok (.goto 4, 3) := by decide +kernel
theorem d5_12 : decode prog_18_method_2_code 12 = .ok (.ireturn, 1) := by decide +kernel
theorem d5_11 : decode prog_18_method_2_code 11 = .ok (.iconst 0, 1) := by decide +kernel
set_option maxRecDepth 65536 in
set_option maxHeartbeats 40000000 in
theorem rm5 (l : Launch) (Z : State) (a0 : Array Value) (hw : ∀ d ∈ tables_1, d.before a0 Z = true) (ws : List Jvm.Cond) (a : Addr) (sz : Int32) (h0 : Heap) (n0 : Nat) (Z0 : n0 ≤ h0.size) (F0_a_size : Fld Z h0 a "com/example/graphsmith/graphsmith/conformance/IntStack" "size" "I" (.int sz)) :
    MetFree l (⟨"com/example/graphsmith/graphsmith/conformance/IntStack", "isEmpty", "()Z"⟩ : MethodName) (head1 (Jvm.Cond.code (⟨"com/example/graphsmith/graphsmith/conformance/IntStack", "isEmpty", "()Z"⟩ : MethodName) prog_18_method_2_code 1 (some .boolean) :: ws) ({ frames := 0, cells := 0, slots := 0, locals := 0 } : Room)) (fun as_ U_ => as_ = #[(.ref a)] ∧ Z.Warmed39 U_.vm ∧ U_.heap = h0) (fun _ _ _ _ _ => True) (fun _ U_ o_ V_ => ∃ v_ L_, o_ = .returned v_ ∧ Qrm5 Z a sz h0 n0 v_ V_.heap L_ ∧ FrameEnd U_ o_ V_ L_ ({ frames := 0, cells := 0, slots := 0, locals := 0 } : Room).cells ({ frames := 0, cells := 0, slots := 0, locals := 0 } : Room).slots) := by
  refine MetFree.of_bodySF (plainFor_of_name pn_com_example_graphsmith_graphsmith_conformance_IntStack) hisR ?_
  intro p e s m args below meth c s₁ Bd hml0 hP hK
  obtain ⟨rfl, hZ, hh⟩ := hP
  have hx := Bd.exec
  have hby := Bd.bytes
  have hlk : meth.locks = false := BodyLoose.notSynchronized Bd
  have hret := Bd.returns
  have hml : c.maxLocals = 1 := hml0
  have hown : s.vm.findClass "com/example/graphsmith/graphsmith/conformance/IntStack" = some m.cls := findClass_of_methodNamed Bd.named
  have hnm := (name_of_methodNamed Bd.named Bd.method).1
  have X0 : Stand p l e ({ frames := 0, cells := 0, slots := 0, locals := 0 } : Room) s m #[(.ref a)] below meth c s₁ [] 0 0 := Stand.of_body Bd
  have e0 : s₁.heap = h0 := by rw [← hh, Bd.state]; rfl
  have N0 := Fr.nil n0
  show Goes p e below (Fin_ s (Qrm5 Z a sz h0 n0) ({ frames := 0, cells := 0, slots := 0, locals := 0 } : Room).cells ({ frames := 0, cells := 0, slots := 0, locals := 0 } : Room).slots) (s₁.setTop (entryFrame m #[(.ref a)] 1))
  rw [ef_rm5 m a]
  refine Goes.via (fun _ k => XS.aloadN X0.here hx rfl (hb hby d5_0) rfl rfl  k) ?_
  show Goes p e below _ (s₁.setTop (mkF m 1 #[.val (.ref a)] [(.ref a)]))
  obtain ⟨T1, X1, e1, st1⟩ := getF X0 hx hZ hown (host := "") (Or.inl (hw _ (List.mem_of_getElem? (i := 17) rfl))) Via.refl e0 F0_a_size (g := (mkF m 1 #[.val (.ref a)] [(.ref a)])) rfl rfl (hb hby d5_1)
  refine Goes.via st1 ?_
  show Goes p e below _ (T1.setTop (mkF m 4 #[.val (.ref a)] [(.int sz)]))
  by_cases hc4 : sz = (0 : Int32)
  · skip
    refine Goes.via (fun _ k => XS.ifNo X1.here hx rfl (hb hby d5_4) rfl ((if0 _ _).trans (teq hc4).2) k) ?_
    show Goes p e below _ (T1.setTop (mkF m 7 #[.val (.ref a)] []))
    refine Goes.via (fun _ k => XS.iconst X1.here hx rfl (hb hby d5_7) k) ?_
    show Goes p e below _ (T1.setTop (mkF m 8 #[.val (.ref a)] [(.int (1 : Int32))]))
    refine Goes.via (fun _ k => XS.goto X1.here hx rfl (pc0 := 8) (pc' := 12) rfl (hb hby d5_8) (by decide) (by decide) k) ?_
    show Goes p e below _ (T1.setTop (mkF m 12 #[.val (.ref a)] [(.int (1 : Int32))]))
    exact own_finN X1 hx hlk hret (by simp) (hb hby d5_12) (by rw [e1]; exact ⟨(by rw [if_pos hc4]; rfl), N0, rfl⟩) (by first | decide | omega) (by first | decide | omega)
  · skip
    refine Goes.via (fun _ k => XS.ifYes X1.here hx rfl (pc0 := 4) (pc' := 11) rfl (hb hby d5_4) rfl ((if0 _ _).trans (feq hc4).2) (by decide) (by decide) k) ?_
    show Goes p e below _ (T1.setTop (mkF m 11 #[.val (.ref a)] []))
    refine Goes.via (fun _ k => XS.iconst X1.here hx rfl (hb hby d5_11) k) ?_
    show Goes p e below _ (T1.setTop (mkF m 12 #[.val (.ref a)] [(.int (0 : Int32))]))
    exact own_finN X1 hx hlk hret (by simp) (hb hby d5_12) (by rw [e1]; exact ⟨(by rw [if_neg hc4]; rfl), N0, rfl⟩) (by first | decide | omega) (by first | decide | omega)
theorem ef_rm0 (m : MethodId) (p1 : Int32) (p2 : Int32) (p3 : Int32) : entryFrame m #[(.int p1), (.int p2), (.int p3)] maxLocals = mkF m 0 #[.val (.int p1), .val (.int p2), .val (.int p3), .unset, .unset, .unset, .unset, .unset, .unset] [] := by first | (simp [entryFrame, mkF, argsToLocals, Value.category, maxLocals]; done) | rfl
def Qrm0 (Z : State) (p1 : Int32) (p2 : Int32) (p3 : Int32) (h0 : Heap) (n0 : Nat) (v_ : Option Value) (h_ : Heap) (L_ : List Loc) : Prop := v_ = some (.int (1 : Int32)) ∧ Fr n0 L_ ∧ Keep h0 h_ []
theorem pn_com_example_graphsmith_graphsmith_conformance_IntStackPopPinLaw : plainName "com/example/graphsmith/graphsmith/conformance/IntStackPopPinLaw" = true := by first | (simp [plainName, overriddenIn]; done) | decide +kernel
theorem pd_0 : parseMethodDescriptor "()V" = some ⟨[], none⟩ := by decide +kernel
theorem pd_1 : parseMethodDescriptor "(I)V" = some ⟨[.int], none⟩ := by decide +kernel
theorem pd_2 : parseMethodDescriptor "()I" = some ⟨[], some .int⟩ := by decide +kernel
theorem pd_3 : parseMethodDescriptor "()Z" = some ⟨[], some .boolean⟩ := by decide +kernel
set_option maxRecDepth 65536 in
set_option maxHeartbeats 40000000 in
theorem rm0 (l : Launch) (Z : State) (a0 : Array Value) (hw : ∀ d ∈ tables_1, d.before a0 Z = true) (ws : List Jvm.Cond) (p1 : Int32) (p2 : Int32) (p3 : Int32) (h0 : Heap) (n0 : Nat) (Z0 : n0 ≤ h0.size) :
    MetFree l x (head1 (Jvm.Cond.code x code maxLocals ret :: ws) room_1) (fun as_ U_ => as_ = #[(.int p1), (.int p2), (.int p3)] ∧ Z.Warmed39 U_.vm ∧ U_.heap = h0) (fun _ _ _ _ _ => True) (fun _ U_ o_ V_ => ∃ v_ L_, o_ = .returned v_ ∧ Qrm0 Z p1 p2 p3 h0 n0 v_ V_.heap L_ ∧ FrameEnd U_ o_ V_ L_ room_1.cells room_1.slots) := by
  refine MetFree.of_bodySF (plainFor_of_name pn_com_example_graphsmith_graphsmith_conformance_IntStackPopPinLaw) hisR ?_
  intro p e s m args below meth c s₁ Bd hml0 hP hK
  obtain ⟨rfl, hZ, hh⟩ := hP
  have hx := Bd.exec
  have hby := Bd.bytes
  have hlk : meth.locks = false := BodyLoose.notSynchronized Bd
  have hret := Bd.returns
  have hml : c.maxLocals = 9 := hml0
  have hown : s.vm.findClass "com/example/graphsmith/graphsmith/conformance/IntStackPopPinLaw" = some m.cls := findClass_of_methodNamed Bd.named
  have hnm := (name_of_methodNamed Bd.named Bd.method).1
  have X0 : Stand p l e room_1 s m #[(.int p1), (.int p2), (.int p3)] below meth c s₁ [] 0 0 := Stand.of_body Bd
  have e0 : s₁.heap = h0 := by rw [← hh, Bd.state]; rfl
  have N0 := Fr.nil n0
  show Goes p e below (Fin_ s (Qrm0 Z p1 p2 p3 h0 n0) room_1.cells room_1.slots) (s₁.setTop (entryFrame m #[(.int p1), (.int p2), (.int p3)] maxLocals))
  rw [ef_rm0 m p1 p2 p3]
  obtain ⟨T1, h1, X1, e1, E1, A1, D1, -, st1⟩ := newO X0 hx hZ hown (hw _ (List.mem_of_getElem? (i := 0) rfl)) (hw _ (List.mem_of_getElem? (i := 1) rfl)) (hw _ (List.mem_of_getElem? (i := 2) rfl)) e0 (g := (mkF m 0 #[.val (.int p1), .val (.int p2), .val (.int p3), .unset, .unset, .unset, .unset, .unset, .unset] [])) rfl (hb hby at_0) (by first | decide | omega) (by first | decide | omega)
  obtain ⟨b1, g1⟩ : ∃ z, z = (h0).size := ⟨_, rfl⟩
  rw [← g1] at A1 D1 st1
  have sz_b1 : h0.size ≤ b1 := Nat.le_trans (Nat.le_refl _) (Nat.le_of_eq g1.symm)
  have gn_b1 : n0 ≤ b1 := Nat.le_trans Z0 sz_b1
  have F_values_b1 : Fld Z h1 b1 "com/example/graphsmith/graphsmith/conformance/IntStack" "values" "[I" .null := D1 (Or.inl (hw _ (List.mem_of_getElem? (i := 11) rfl))) (ty := (.array .int)) (by decide)
  have F_size_b1 : Fld Z h1 b1 "com/example/graphsmith/graphsmith/conformance/IntStack" "size" "I" (.int (0 : Int32)) := D1 (Or.inl (hw _ (List.mem_of_getElem? (i := 18) rfl))) (ty := .int) (by decide)
  refine Goes.via st1 ?_
  show Goes p e below _ (T1.setTop (mkF m 3 #[.val (.int p1), .val (.int p2), .val (.int p3), .unset, .unset, .unset, .unset, .unset, .unset] [(.ref b1)]))
  refine Goes.via (fun _ k => XS.dup X1.here hx rfl (hb hby at_3) rfl rfl k) ?_
  show Goes p e below _ (T1.setTop (mkF m 4 #[.val (.int p1), .val (.int p2), .val (.int p3), .unset, .unset, .unset, .unset, .unset, .unset] [(.ref b1), (.ref b1)]))
  have z3 : h0.size ≤ (h1).size := (Nat.le_trans (Nat.le_refl _) E1.1)
  obtain ⟨_, _, ⟨T2, L2, k2, n2⟩, -, X2, ⟨Lc2, hQ2, l2, y2, z2⟩, st2⟩ := X1.specialBack hx (y := (⟨"com/example/graphsmith/graphsmith/conformance/IntStack", "<init>", "()V"⟩ : MethodName)) rfl hown (mvT hZ (hw _ (List.mem_of_getElem? (i := 3) rfl))) (mvT hZ (hw _ (List.mem_of_getElem? (i := 4) rfl))) (mvT hZ (hw _ (List.mem_of_getElem? (i := 5) rfl))) (by decide) (backOf (W := 1) (rm1 l Z a0 hw [] b1 h1 n0 (Nat.le_trans Z0 z3) A1 F_values_b1 F_size_b1 gn_b1) hZ (hw _ (List.mem_of_getElem? (i := 5) rfl)) (hw _ (List.mem_of_getElem? (i := 2) rfl)) (by decide) (by decide)) (g := (mkF m 4 #[.val (.int p1), .val (.int p2), .val (.int p3), .unset, .unset, .unset, .unset, .unset, .unset] [(.ref b1), (.ref b1)])) rfl (by rw [hml]; rfl) (Steps.refl _) (a := b1) (argsL := []) (rest := [(.ref b1)]) (lenOf pd_0 rfl) rfl (by show 2 * 0 + _ ≤ _; exact Nat.le_of_eq rfl) (hb hby at_4) (fun _ _ => ⟨rfl, e1, (by first | decide | omega : 1 + 1 ≤ _), (by first | decide | omega : 2 + 32 ≤ _)⟩)
  dsimp only [Pt.U, Pt.locs, Pt.cells, Pt.slots] at X2 l2 y2 z2 st2 hQ2
  subst l2 y2 z2
  obtain ⟨b2, k2, rfl, N2q, K2, u2_0, u2_1, u2_2, u2_3, u2_4⟩ := hQ2
  have N2 := Fr.app N0 N2q
  refine Goes.tr st2 ?_
  have ne4 : b1 ≠ b2 := Nat.ne_of_lt (Nat.lt_of_lt_of_le A1.lt u2_0)
  have sz_b2 : h0.size ≤ b2 := Nat.le_trans z3 u2_0
  have gn_b2 : n0 ≤ b2 := Nat.le_trans Z0 sz_b2
  -- u2_0 : h0.size ≤ b2
  show Goes p e below _ (T2.setTop (mkF m 7 #[.val (.int p1), .val (.int p2), .val (.int p3), .unset, .unset, .unset, .unset, .unset, .unset] [(.ref b1)]))
  refine Goes.via (fun _ k => XS.astoreN X2.here hx rfl (hb hby at_7) rfl rfl (l' := #[.val (.int p1), .val (.int p2), .val (.int p3), .val (.ref b1), .unset, .unset, .unset, .unset, .unset]) rfl k) ?_
  show Goes p e below _ (T2.setTop (mkF m 8 #[.val (.int p1), .val (.int p2), .val (.int p3), .val (.ref b1), .unset, .unset, .unset, .unset, .unset] []))
  refine Goes.via (fun _ k => XS.aloadN X2.here hx rfl (hb hby at_8) rfl rfl  k) ?_
  show Goes p e below _ (T2.setTop (mkF m 9 #[.val (.int p1), .val (.int p2), .val (.int p3), .val (.ref b1), .unset, .unset, .unset, .unset, .unset] [(.ref b1)]))
  refine Goes.via (fun _ k => XS.iloadN X2.here hx rfl (hb hby at_9) rfl  k) ?_
  show Goes p e below _ (T2.setTop (mkF m 10 #[.val (.int p1), .val (.int p2), .val (.int p3), .val (.ref b1), .unset, .unset, .unset, .unset, .unset] [(.int p1), (.ref b1)]))
  have z6 : h0.size ≤ (T2.heap).size := (Nat.le_trans z3 K2.1)
  obtain ⟨cq5, kq5, q5a, q5b, q5c⟩ := isOf hZ rfl u2_1
  obtain ⟨_, _, ⟨T5, L5, k5, n5⟩, -, X5, ⟨Lc5, hQ5, l5, y5, z5⟩, st5⟩ := X2.virtualBack hx (y := (⟨"com/example/graphsmith/graphsmith/conformance/IntStack", "push", "(I)V"⟩ : MethodName)) (z := (⟨"com/example/graphsmith/graphsmith/conformance/IntStack", "push", "(I)V"⟩ : MethodName)) hown (mvT hZ (hw _ (List.mem_of_getElem? (i := 12) rfl))) (mvT hZ (hw _ (List.mem_of_getElem? (i := 13) rfl))) (notFace_of_selects (args := #[]) (mvT hZ (hw _ (List.mem_of_getElem? (i := 15) rfl)))) (mvT hZ (hw _ (List.mem_of_getElem? (i := 15) rfl))) (mvT hZ (hw _ (List.mem_of_getElem? (i := 14) rfl))) (by decide) (backOf (W := 0) (rm3 l Z a0 hw [] b1 p1 b2 k2 (0 : Int32) 0 (fun _ => (.int 0)) T2.heap n0 (Nat.le_trans Z0 z6) u2_1 u2_3 u2_2 u2_4 gn_b1 gn_b2 (by first | rfl | decide | assumption | omega | (simp; done)) (by first | rfl | decide | assumption | omega | (simp; done)) (by first | rfl | decide | assumption | omega | (simp; done))) hZ (hw _ (List.mem_of_getElem? (i := 16) rfl)) (hw _ (List.mem_of_getElem? (i := 2) rfl)) (by decide) (by decide)) q5a q5c (g := (mkF m 10 #[.val (.int p1), .val (.int p2), .val (.int p3), .val (.ref b1), .unset, .unset, .unset, .unset, .unset] [(.int p1), (.ref b1)])) rfl (by rw [hml]; rfl) (Steps.refl _) (argsL := [(.int p1)]) (rest := []) (lenOf pd_1 rfl) rfl (by show 2 * 0 + _ ≤ _; exact Nat.le_of_eq rfl) (hb hby at_10) (fun _ _ => ⟨rfl, rfl, (by first | decide | omega : 2 + 0 ≤ _), (by first | decide | omega : 34 + 0 ≤ _)⟩)
  dsimp only [Pt.U, Pt.locs, Pt.cells, Pt.slots] at X5 l5 y5 z5 st5 hQ5
  subst l5 y5 z5
  obtain ⟨rfl, N5q, K5, u5_0, u5_1, u5_2, u5_3⟩ := hQ5
  have N5 := Fr.app N2 N5q
  refine Goes.tr st5 ?_
  show Goes p e below _ (T5.setTop (mkF m 13 #[.val (.int p1), .val (.int p2), .val (.int p3), .val (.ref b1), .unset, .unset, .unset, .unset, .unset] []))
  refine Goes.via (fun _ k => XS.aloadN X5.here hx rfl (hb hby at_13) rfl rfl  k) ?_
  show Goes p e below _ (T5.setTop (mkF m 14 #[.val (.int p1), .val (.int p2), .val (.int p3), .val (.ref b1), .unset, .unset, .unset, .unset, .unset] [(.ref b1)]))
  refine Goes.via (fun _ k => XS.iloadN X5.here hx rfl (hb hby at_14) rfl  k) ?_
  show Goes p e below _ (T5.setTop (mkF m 15 #[.val (.int p1), .val (.int p2), .val (.int p3), .val (.ref b1), .unset, .unset, .unset, .unset, .unset] [(.int p2), (.ref b1)]))
  have z8 : h0.size ≤ (T5.heap).size := (Nat.le_trans z6 K5.1)
  obtain ⟨cq7, kq7, q7a, q7b, q7c⟩ := isOf hZ rfl u5_0
  obtain ⟨_, _, ⟨T7, L7, k7, n7⟩, -, X7, ⟨Lc7, hQ7, l7, y7, z7⟩, st7⟩ := X5.virtualBack hx (y := (⟨"com/example/graphsmith/graphsmith/conformance/IntStack", "push", "(I)V"⟩ : MethodName)) (z := (⟨"com/example/graphsmith/graphsmith/conformance/IntStack", "push", "(I)V"⟩ : MethodName)) hown (mvT hZ (hw _ (List.mem_of_getElem? (i := 12) rfl))) (mvT hZ (hw _ (List.mem_of_getElem? (i := 13) rfl))) (notFace_of_selects (args := #[]) (mvT hZ (hw _ (List.mem_of_getElem? (i := 15) rfl)))) (mvT hZ (hw _ (List.mem_of_getElem? (i := 15) rfl))) (mvT hZ (hw _ (List.mem_of_getElem? (i := 14) rfl))) (by decide) (backOf (W := 0) (rm3 l Z a0 hw [] b1 p2 b2 k2 ((0 : Int32) + (1 : Int32)) 1 (own_upd (fun _ => (.int 0)) 0 (.int p1)) T5.heap n0 (Nat.le_trans Z0 z8) u5_0 u5_1 u5_2 u5_3 gn_b1 gn_b2 (by first | rfl | decide | assumption | omega | (simp; done)) (by first | rfl | decide | assumption | omega | (simp; done)) (by first | rfl | decide | assumption | omega | (simp; done))) hZ (hw _ (List.mem_of_getElem? (i := 16) rfl)) (hw _ (List.mem_of_getElem? (i := 2) rfl)) (by decide) (by decide)) q7a q7c (g := (mkF m 15 #[.val (.int p1), .val (.int p2), .val (.int p3), .val (.ref b1), .unset, .unset, .unset, .unset, .unset] [(.int p2), (.ref b1)])) rfl (by rw [hml]; rfl) (Steps.refl _) (argsL := [(.int p2)]) (rest := []) (lenOf pd_1 rfl) rfl (by show 2 * 0 + _ ≤ _; exact Nat.le_of_eq rfl) (hb hby at_15) (fun _ _ => ⟨rfl, rfl, (by first | decide | omega : 2 + 0 ≤ _), (by first | decide | omega : 34 + 0 ≤ _)⟩)
  dsimp only [Pt.U, Pt.locs, Pt.cells, Pt.slots] at X7 l7 y7 z7 st7 hQ7
  subst l7 y7 z7
  obtain ⟨rfl, N7q, K7, u7_0, u7_1, u7_2, u7_3⟩ := hQ7
  have N7 := Fr.app N5 N7q
  refine Goes.tr st7 ?_
  show Goes p e below _ (T7.setTop (mkF m 18 #[.val (.int p1), .val (.int p2), .val (.int p3), .val (.ref b1), .unset, .unset, .unset, .unset, .unset] []))
  refine Goes.via (fun _ k => XS.aloadN X7.here hx rfl (hb hby at_18) rfl rfl  k) ?_
  show Goes p e below _ (T7.setTop (mkF m 19 #[.val (.int p1), .val (.int p2), .val (.int p3), .val (.ref b1), .unset, .unset, .unset, .unset, .unset] [(.ref b1)]))
  have z10 : h0.size ≤ (T7.heap).size := (Nat.le_trans z8 K7.1)
  obtain ⟨cq9, kq9, q9a, q9b, q9c⟩ := isOf hZ rfl u7_0
  obtain ⟨_, _, ⟨T9, L9, k9, n9⟩, -, X9, ⟨Lc9, hQ9, l9, y9, z9⟩, st9⟩ := X7.virtualBack hx (y := (⟨"com/example/graphsmith/graphsmith/conformance/IntStack", "pop", "()I"⟩ : MethodName)) (z := (⟨"com/example/graphsmith/graphsmith/conformance/IntStack", "pop", "()I"⟩ : MethodName)) hown (mvT hZ (hw _ (List.mem_of_getElem? (i := 19) rfl))) (mvT hZ (hw _ (List.mem_of_getElem? (i := 20) rfl))) (notFace_of_selects (args := #[]) (mvT hZ (hw _ (List.mem_of_getElem? (i := 22) rfl)))) (mvT hZ (hw _ (List.mem_of_getElem? (i := 22) rfl))) (mvT hZ (hw _ (List.mem_of_getElem? (i := 21) rfl))) (by decide) (backOf (W := 0) (rm4 l Z a0 hw [] b1 b2 k2 (((0 : Int32) + (1 : Int32)) + (1 : Int32)) 1 (own_upd (own_upd (fun _ => (.int 0)) 0 (.int p1)) 1 (.int p2)) p2 T7.heap n0 (Nat.le_trans Z0 z10) u7_0 u7_1 u7_2 u7_3 gn_b1 gn_b2 (by first | rfl | decide | assumption | omega | (simp; done)) (by first | rfl | decide | assumption | omega | (simp; done)) (by first | rfl | decide | assumption | omega | (simp; done)) (by first | rfl | decide | assumption | omega | (simp; done))) hZ (hw _ (List.mem_of_getElem? (i := 23) rfl)) (hw _ (List.mem_of_getElem? (i := 2) rfl)) (by decide) (by decide)) q9a q9c (g := (mkF m 19 #[.val (.int p1), .val (.int p2), .val (.int p3), .val (.ref b1), .unset, .unset, .unset, .unset, .unset] [(.ref b1)])) rfl (by rw [hml]; rfl) (Steps.refl _) (argsL := []) (rest := []) (lenOf pd_2 rfl) rfl (by show 2 * 0 + _ ≤ _; exact Nat.le_of_eq rfl) (hb hby at_19) (fun _ _ => ⟨rfl, rfl, (by first | decide | omega : 2 + 0 ≤ _), (by first | decide | omega : 34 + 0 ≤ _)⟩)
  dsimp only [Pt.U, Pt.locs, Pt.cells, Pt.slots] at X9 l9 y9 z9 st9 hQ9
  subst l9 y9 z9
  obtain ⟨rfl, N9q, K9, u9_0, u9_1, u9_2, u9_3⟩ := hQ9
  have N9 := Fr.app N7 N9q
  refine Goes.tr st9 ?_
  show Goes p e below _ (T9.setTop (mkF m 22 #[.val (.int p1), .val (.int p2), .val (.int p3), .val (.ref b1), .unset, .unset, .unset, .unset, .unset] [(.int p2)]))
  refine Goes.via (fun _ k => XS.istore X9.here hx rfl (hb hby at_22) rfl (l' := #[.val (.int p1), .val (.int p2), .val (.int p3), .val (.ref b1), .val (.int p2), .unset, .unset, .unset, .unset]) rfl k) ?_
  show Goes p e below _ (T9.setTop (mkF m 24 #[.val (.int p1), .val (.int p2), .val (.int p3), .val (.ref b1), .val (.int p2), .unset, .unset, .unset, .unset] []))
  refine Goes.via (fun _ k => XS.aloadN X9.here hx rfl (hb hby at_24) rfl rfl  k) ?_
  show Goes p e below _ (T9.setTop (mkF m 25 #[.val (.int p1), .val (.int p2), .val (.int p3), .val (.ref b1), .val (.int p2), .unset, .unset, .unset, .unset] [(.ref b1)]))
  have z12 : h0.size ≤ (T9.heap).size := (Nat.le_trans z10 K9.1)
  obtain ⟨cq11, kq11, q11a, q11b, q11c⟩ := isOf hZ rfl u9_0
  obtain ⟨_, _, ⟨T11, L11, k11, n11⟩, -, X11, ⟨Lc11, hQ11, l11, y11, z11⟩, st11⟩ := X9.virtualBack hx (y := (⟨"com/example/graphsmith/graphsmith/conformance/IntStack", "isEmpty", "()Z"⟩ : MethodName)) (z := (⟨"com/example/graphsmith/graphsmith/conformance/IntStack", "isEmpty", "()Z"⟩ : MethodName)) hown (mvT hZ (hw _ (List.mem_of_getElem? (i := 24) rfl))) (mvT hZ (hw _ (List.mem_of_getElem? (i := 25) rfl))) (notFace_of_selects (args := #[]) (mvT hZ (hw _ (List.mem_of_getElem? (i := 27) rfl)))) (mvT hZ (hw _ (List.mem_of_getElem? (i := 27) rfl))) (mvT hZ (hw _ (List.mem_of_getElem? (i := 26) rfl))) (by decide) (backOf (W := 0) (rm5 l Z a0 hw [] b1 ((((0 : Int32) + (1 : Int32)) + (1 : Int32)) - (1 : Int32)) T9.heap n0 (Nat.le_trans Z0 z12) u9_1) hZ (hw _ (List.mem_of_getElem? (i := 28) rfl)) (hw _ (List.mem_of_getElem? (i := 2) rfl)) (by decide) (by decide)) q11a q11c (g := (mkF m 25 #[.val (.int p1), .val (.int p2), .val (.int p3), .val (.ref b1), .val (.int p2), .unset, .unset, .unset, .unset] [(.ref b1)])) rfl (by rw [hml]; rfl) (Steps.refl _) (argsL := []) (rest := []) (lenOf pd_3 rfl) rfl (by show 2 * 0 + _ ≤ _; exact Nat.le_of_eq rfl) (hb hby at_25) (fun _ _ => ⟨rfl, rfl, (by first | decide | omega : 2 + 0 ≤ _), (by first | decide | omega : 34 + 0 ≤ _)⟩)
  dsimp only [Pt.U, Pt.locs, Pt.cells, Pt.slots] at X11 l11 y11 z11 st11 hQ11
  subst l11 y11 z11
  obtain ⟨rfl, N11q, e11⟩ := hQ11
  have N11 := Fr.app N9 N11q
  refine Goes.tr st11 ?_
  have e11' : T11.heap = T9.heap := e11
  show Goes p e below _ (T11.setTop (mkF m 28 #[.val (.int p1), .val (.int p2), .val (.int p3), .val (.ref b1), .val (.int p2), .unset, .unset, .unset, .unset] [(.int (if ((((0 : Int32) + (1 : Int32)) + (1 : Int32)) - (1 : Int32)) = (0 : Int32) then (1 : Int32) else (0 : Int32)))]))
  refine Goes.via (fun _ k => XS.istore X11.here hx rfl (hb hby at_28) rfl (l' := #[.val (.int p1), .val (.int p2), .val (.int p3), .val (.ref b1), .val (.int p2), .val (.int (if ((((0 : Int32) + (1 : Int32)) + (1 : Int32)) - (1 : Int32)) = (0 : Int32) then (1 : Int32) else (0 : Int32))), .unset, .unset, .unset]) rfl k) ?_
  show Goes p e below _ (T11.setTop (mkF m 30 #[.val (.int p1), .val (.int p2), .val (.int p3), .val (.ref b1), .val (.int p2), .val (.int (if ((((0 : Int32) + (1 : Int32)) + (1 : Int32)) - (1 : Int32)) = (0 : Int32) then (1 : Int32) else (0 : Int32))), .unset, .unset, .unset] []))
  refine Goes.via (fun _ k => XS.aloadN X11.here hx rfl (hb hby at_30) rfl rfl  k) ?_
  show Goes p e below _ (T11.setTop (mkF m 31 #[.val (.int p1), .val (.int p2), .val (.int p3), .val (.ref b1), .val (.int p2), .val (.int (if ((((0 : Int32) + (1 : Int32)) + (1 : Int32)) - (1 : Int32)) = (0 : Int32) then (1 : Int32) else (0 : Int32))), .unset, .unset, .unset] [(.ref b1)]))
  refine Goes.via (fun _ k => XS.iloadN X11.here hx rfl (hb hby at_31) rfl  k) ?_
  show Goes p e below _ (T11.setTop (mkF m 32 #[.val (.int p1), .val (.int p2), .val (.int p3), .val (.ref b1), .val (.int p2), .val (.int (if ((((0 : Int32) + (1 : Int32)) + (1 : Int32)) - (1 : Int32)) = (0 : Int32) then (1 : Int32) else (0 : Int32))), .unset, .unset, .unset] [(.int p3), (.ref b1)]))
  obtain ⟨cq13, kq13, q13a, q13b, q13c⟩ := isOf hZ e11' u9_0
  obtain ⟨_, _, ⟨T13, L13, k13, n13⟩, -, X13, ⟨Lc13, hQ13, l13, y13, z13⟩, st13⟩ := X11.virtualBack hx (y := (⟨"com/example/graphsmith/graphsmith/conformance/IntStack", "push", "(I)V"⟩ : MethodName)) (z := (⟨"com/example/graphsmith/graphsmith/conformance/IntStack", "push", "(I)V"⟩ : MethodName)) hown (mvT hZ (hw _ (List.mem_of_getElem? (i := 12) rfl))) (mvT hZ (hw _ (List.mem_of_getElem? (i := 13) rfl))) (notFace_of_selects (args := #[]) (mvT hZ (hw _ (List.mem_of_getElem? (i := 15) rfl)))) (mvT hZ (hw _ (List.mem_of_getElem? (i := 15) rfl))) (mvT hZ (hw _ (List.mem_of_getElem? (i := 14) rfl))) (by decide) (backOf (W := 0) (rm3 l Z a0 hw [] b1 p3 b2 k2 ((((0 : Int32) + (1 : Int32)) + (1 : Int32)) - (1 : Int32)) 1 (own_upd (own_upd (fun _ => (.int 0)) 0 (.int p1)) 1 (.int p2)) T9.heap n0 (Nat.le_trans Z0 z12) u9_0 u9_1 u9_2 u9_3 gn_b1 gn_b2 (by first | rfl | decide | assumption | omega | (simp; done)) (by first | rfl | decide | assumption | omega | (simp; done)) (by first | rfl | decide | assumption | omega | (simp; done))) hZ (hw _ (List.mem_of_getElem? (i := 16) rfl)) (hw _ (List.mem_of_getElem? (i := 2) rfl)) (by decide) (by decide)) q13a q13c (g := (mkF m 32 #[.val (.int p1), .val (.int p2), .val (.int p3), .val (.ref b1), .val (.int p2), .val (.int (if ((((0 : Int32) + (1 : Int32)) + (1 : Int32)) - (1 : Int32)) = (0 : Int32) then (1 : Int32) else (0 : Int32))), .unset, .unset, .unset] [(.int p3), (.ref b1)])) rfl (by rw [hml]; rfl) (Steps.refl _) (argsL := [(.int p3)]) (rest := []) (lenOf pd_1 rfl) rfl (by show 2 * 0 + _ ≤ _; exact Nat.le_of_eq rfl) (hb hby at_32) (fun _ _ => ⟨rfl, e11', (by first | decide | omega : 2 + 0 ≤ _), (by first | decide | omega : 34 + 0 ≤ _)⟩)
  dsimp only [Pt.U, Pt.locs, Pt.cells, Pt.slots] at X13 l13 y13 z13 st13 hQ13
  subst l13 y13 z13
  obtain ⟨rfl, N13q, K13, u13_0, u13_1, u13_2, u13_3⟩ := hQ13
  have N13 := Fr.app N11 N13q
  refine Goes.tr st13 ?_
  show Goes p e below _ (T13.setTop (mkF m 35 #[.val (.int p1), .val (.int p2), .val (.int p3), .val (.ref b1), .val (.int p2), .val (.int (if ((((0 : Int32) + (1 : Int32)) + (1 : Int32)) - (1 : Int32)) = (0 : Int32) then (1 : Int32) else (0 : Int32))), .unset, .unset, .unset] []))
  refine Goes.via (fun _ k => XS.aloadN X13.here hx rfl (hb hby at_35) rfl rfl  k) ?_
  show Goes p e below _ (T13.setTop (mkF m 36 #[.val (.int p1), .val (.int p2), .val (.int p3), .val (.ref b1), .val (.int p2), .val (.int (if ((((0 : Int32) + (1 : Int32)) + (1 : Int32)) - (1 : Int32)) = (0 : Int32) then (1 : Int32) else (0 : Int32))), .unset, .unset, .unset] [(.ref b1)]))
  have z15 : h0.size ≤ (T13.heap).size := (Nat.le_trans z12 K13.1)
  obtain ⟨cq14, kq14, q14a, q14b, q14c⟩ := isOf hZ rfl u13_0
  obtain ⟨_, _, ⟨T14, L14, k14, n14⟩, -, X14, ⟨Lc14, hQ14, l14, y14, z14⟩, st14⟩ := X13.virtualBack hx (y := (⟨"com/example/graphsmith/graphsmith/conformance/IntStack", "pop", "()I"⟩ : MethodName)) (z := (⟨"com/example/graphsmith/graphsmith/conformance/IntStack", "pop", "()I"⟩ : MethodName)) hown (mvT hZ (hw _ (List.mem_of_getElem? (i := 19) rfl))) (mvT hZ (hw _ (List.mem_of_getElem? (i := 20) rfl))) (notFace_of_selects (args := #[]) (mvT hZ (hw _ (List.mem_of_getElem? (i := 22) rfl)))) (mvT hZ (hw _ (List.mem_of_getElem? (i := 22) rfl))) (mvT hZ (hw _ (List.mem_of_getElem? (i := 21) rfl))) (by decide) (backOf (W := 0) (rm4 l Z a0 hw [] b1 b2 k2 (((((0 : Int32) + (1 : Int32)) + (1 : Int32)) - (1 : Int32)) + (1 : Int32)) 1 (own_upd (own_upd (own_upd (fun _ => (.int 0)) 0 (.int p1)) 1 (.int p2)) 1 (.int p3)) p3 T13.heap n0 (Nat.le_trans Z0 z15) u13_0 u13_1 u13_2 u13_3 gn_b1 gn_b2 (by first | rfl | decide | assumption | omega | (simp; done)) (by first | rfl | decide | assumption | omega | (simp; done)) (by first | rfl | decide | assumption | omega | (simp; done)) (by first | rfl | decide | assumption | omega | (simp; done))) hZ (hw _ (List.mem_of_getElem? (i := 23) rfl)) (hw _ (List.mem_of_getElem? (i := 2) rfl)) (by decide) (by decide)) q14a q14c (g := (mkF m 36 #[.val (.int p1), .val (.int p2), .val (.int p3), .val (.ref b1), .val (.int p2), .val (.int (if ((((0 : Int32) + (1 : Int32)) + (1 : Int32)) - (1 : Int32)) = (0 : Int32) then (1 : Int32) else (0 : Int32))), .unset, .unset, .unset] [(.ref b1)])) rfl (by rw [hml]; rfl) (Steps.refl _) (argsL := []) (rest := []) (lenOf pd_2 rfl) rfl (by show 2 * 0 + _ ≤ _; exact Nat.le_of_eq rfl) (hb hby at_36) (fun _ _ => ⟨rfl, rfl, (by first | decide | omega : 2 + 0 ≤ _), (by first | decide | omega : 34 + 0 ≤ _)⟩)
  dsimp only [Pt.U, Pt.locs, Pt.cells, Pt.slots] at X14 l14 y14 z14 st14 hQ14
  subst l14 y14 z14
  obtain ⟨rfl, N14q, K14, u14_0, u14_1, u14_2, u14_3⟩ := hQ14
  have N14 := Fr.app N13 N14q
  refine Goes.tr st14 ?_
  show Goes p e below _ (T14.setTop (mkF m 39 #[.val (.int p1), .val (.int p2), .val (.int p3), .val (.ref b1), .val (.int p2), .val (.int (if ((((0 : Int32) + (1 : Int32)) + (1 : Int32)) - (1 : Int32)) = (0 : Int32) then (1 : Int32) else (0 : Int32))), .unset, .unset, .unset] [(.int p3)]))
  refine Goes.via (fun _ k => XS.istore X14.here hx rfl (hb hby at_39) rfl (l' := #[.val (.int p1), .val (.int p2), .val (.int p3), .val (.ref b1), .val (.int p2), .val (.int (if ((((0 : Int32) + (1 : Int32)) + (1 : Int32)) - (1 : Int32)) = (0 : Int32) then (1 : Int32) else (0 : Int32))), .val (.int p3), .unset, .unset]) rfl k) ?_
  show Goes p e below _ (T14.setTop (mkF m 41 #[.val (.int p1), .val (.int p2), .val (.int p3), .val (.ref b1), .val (.int p2), .val (.int (if ((((0 : Int32) + (1 : Int32)) + (1 : Int32)) - (1 : Int32)) = (0 : Int32) then (1 : Int32) else (0 : Int32))), .val (.int p3), .unset, .unset] []))
  refine Goes.via (fun _ k => XS.aloadN X14.here hx rfl (hb hby at_41) rfl rfl  k) ?_
  show Goes p e below _ (T14.setTop (mkF m 42 #[.val (.int p1), .val (.int p2), .val (.int p3), .val (.ref b1), .val (.int p2), .val (.int (if ((((0 : Int32) + (1 : Int32)) + (1 : Int32)) - (1 : Int32)) = (0 : Int32) then (1 : Int32) else (0 : Int32))), .val (.int p3), .unset, .unset] [(.ref b1)]))
  have z17 : h0.size ≤ (T14.heap).size := (Nat.le_trans z15 K14.1)
  obtain ⟨cq16, kq16, q16a, q16b, q16c⟩ := isOf hZ rfl u14_0
  obtain ⟨_, _, ⟨T16, L16, k16, n16⟩, -, X16, ⟨Lc16, hQ16, l16, y16, z16⟩, st16⟩ := X14.virtualBack hx (y := (⟨"com/example/graphsmith/graphsmith/conformance/IntStack", "pop", "()I"⟩ : MethodName)) (z := (⟨"com/example/graphsmith/graphsmith/conformance/IntStack", "pop", "()I"⟩ : MethodName)) hown (mvT hZ (hw _ (List.mem_of_getElem? (i := 19) rfl))) (mvT hZ (hw _ (List.mem_of_getElem? (i := 20) rfl))) (notFace_of_selects (args := #[]) (mvT hZ (hw _ (List.mem_of_getElem? (i := 22) rfl)))) (mvT hZ (hw _ (List.mem_of_getElem? (i := 22) rfl))) (mvT hZ (hw _ (List.mem_of_getElem? (i := 21) rfl))) (by decide) (backOf (W := 0) (rm4 l Z a0 hw [] b1 b2 k2 ((((((0 : Int32) + (1 : Int32)) + (1 : Int32)) - (1 : Int32)) + (1 : Int32)) - (1 : Int32)) 0 (own_upd (own_upd (own_upd (fun _ => (.int 0)) 0 (.int p1)) 1 (.int p2)) 1 (.int p3)) p1 T14.heap n0 (Nat.le_trans Z0 z17) u14_0 u14_1 u14_2 u14_3 gn_b1 gn_b2 (by first | rfl | decide | assumption | omega | (simp; done)) (by first | rfl | decide | assumption | omega | (simp; done)) (by first | rfl | decide | assumption | omega | (simp; done)) (by first | rfl | decide | assumption | omega | (simp; done))) hZ (hw _ (List.mem_of_getElem? (i := 23) rfl)) (hw _ (List.mem_of_getElem? (i := 2) rfl)) (by decide) (by decide)) q16a q16c (g := (mkF m 42 #[.val (.int p1), .val (.int p2), .val (.int p3), .val (.ref b1), .val (.int p2), .val (.int (if ((((0 : Int32) + (1 : Int32)) + (1 : Int32)) - (1 : Int32)) = (0 : Int32) then (1 : Int32) else (0 : Int32))), .val (.int p3), .unset, .unset] [(.ref b1)])) rfl (by rw [hml]; rfl) (Steps.refl _) (argsL := []) (rest := []) (lenOf pd_2 rfl) rfl (by show 2 * 0 + _ ≤ _; exact Nat.le_of_eq rfl) (hb hby at_42) (fun _ _ => ⟨rfl, rfl, (by first | decide | omega : 2 + 0 ≤ _), (by first | decide | omega : 34 + 0 ≤ _)⟩)
  dsimp only [Pt.U, Pt.locs, Pt.cells, Pt.slots] at X16 l16 y16 z16 st16 hQ16
  subst l16 y16 z16
  obtain ⟨rfl, N16q, K16, u16_0, u16_1, u16_2, u16_3⟩ := hQ16
  have N16 := Fr.app N14 N16q
  refine Goes.tr st16 ?_
  show Goes p e below _ (T16.setTop (mkF m 45 #[.val (.int p1), .val (.int p2), .val (.int p3), .val (.ref b1), .val (.int p2), .val (.int (if ((((0 : Int32) + (1 : Int32)) + (1 : Int32)) - (1 : Int32)) = (0 : Int32) then (1 : Int32) else (0 : Int32))), .val (.int p3), .unset, .unset] [(.int p1)]))
  refine Goes.via (fun _ k => XS.istore X16.here hx rfl (hb hby at_45) rfl (l' := #[.val (.int p1), .val (.int p2), .val (.int p3), .val (.ref b1), .val (.int p2), .val (.int (if ((((0 : Int32) + (1 : Int32)) + (1 : Int32)) - (1 : Int32)) = (0 : Int32) then (1 : Int32) else (0 : Int32))), .val (.int p3), .val (.int p1), .unset]) rfl k) ?_
  show Goes p e below _ (T16.setTop (mkF m 47 #[.val (.int p1), .val (.int p2), .val (.int p3), .val (.ref b1), .val (.int p2), .val (.int (if ((((0 : Int32) + (1 : Int32)) + (1 : Int32)) - (1 : Int32)) = (0 : Int32) then (1 : Int32) else (0 : Int32))), .val (.int p3), .val (.int p1), .unset] []))
  refine Goes.via (fun _ k => XS.aloadN X16.here hx rfl (hb hby at_47) rfl rfl  k) ?_
  show Goes p e below _ (T16.setTop (mkF m 48 #[.val (.int p1), .val (.int p2), .val (.int p3), .val (.ref b1), .val (.int p2), .val (.int (if ((((0 : Int32) + (1 : Int32)) + (1 : Int32)) - (1 : Int32)) = (0 : Int32) then (1 : Int32) else (0 : Int32))), .val (.int p3), .val (.int p1), .unset] [(.ref b1)]))
  have z19 : h0.size ≤ (T16.heap).size := (Nat.le_trans z17 K16.1)
  obtain ⟨cq18, kq18, q18a, q18b, q18c⟩ := isOf hZ rfl u16_0
  obtain ⟨_, _, ⟨T18, L18, k18, n18⟩, -, X18, ⟨Lc18, hQ18, l18, y18, z18⟩, st18⟩ := X16.virtualBack hx (y := (⟨"com/example/graphsmith/graphsmith/conformance/IntStack", "isEmpty", "()Z"⟩ : MethodName)) (z := (⟨"com/example/graphsmith/graphsmith/conformance/IntStack", "isEmpty", "()Z"⟩ : MethodName)) hown (mvT hZ (hw _ (List.mem_of_getElem? (i := 24) rfl))) (mvT hZ (hw _ (List.mem_of_getElem? (i := 25) rfl))) (notFace_of_selects (args := #[]) (mvT hZ (hw _ (List.mem_of_getElem? (i := 27) rfl)))) (mvT hZ (hw _ (List.mem_of_getElem? (i := 27) rfl))) (mvT hZ (hw _ (List.mem_of_getElem? (i := 26) rfl))) (by decide) (backOf (W := 0) (rm5 l Z a0 hw [] b1 (((((((0 : Int32) + (1 : Int32)) + (1 : Int32)) - (1 : Int32)) + (1 : Int32)) - (1 : Int32)) - (1 : Int32)) T16.heap n0 (Nat.le_trans Z0 z19) u16_1) hZ (hw _ (List.mem_of_getElem? (i := 28) rfl)) (hw _ (List.mem_of_getElem? (i := 2) rfl)) (by decide) (by decide)) q18a q18c (g := (mkF m 48 #[.val (.int p1), .val (.int p2), .val (.int p3), .val (.ref b1), .val (.int p2), .val (.int (if ((((0 : Int32) + (1 : Int32)) + (1 : Int32)) - (1 : Int32)) = (0 : Int32) then (1 : Int32) else (0 : Int32))), .val (.int p3), .val (.int p1), .unset] [(.ref b1)])) rfl (by rw [hml]; rfl) (Steps.refl _) (argsL := []) (rest := []) (lenOf pd_3 rfl) rfl (by show 2 * 0 + _ ≤ _; exact Nat.le_of_eq rfl) (hb hby at_48) (fun _ _ => ⟨rfl, rfl, (by first | decide | omega : 2 + 0 ≤ _), (by first | decide | omega : 34 + 0 ≤ _)⟩)
  dsimp only [Pt.U, Pt.locs, Pt.cells, Pt.slots] at X18 l18 y18 z18 st18 hQ18
  subst l18 y18 z18
  obtain ⟨rfl, N18q, e18⟩ := hQ18
  have N18 := Fr.app N16 N18q
  refine Goes.tr st18 ?_
  have e18' : T18.heap = T16.heap := e18
  show Goes p e below _ (T18.setTop (mkF m 51 #[.val (.int p1), .val (.int p2), .val (.int p3), .val (.ref b1), .val (.int p2), .val (.int (if ((((0 : Int32) + (1 : Int32)) + (1 : Int32)) - (1 : Int32)) = (0 : Int32) then (1 : Int32) else (0 : Int32))), .val (.int p3), .val (.int p1), .unset] [(.int (if (((((((0 : Int32) + (1 : Int32)) + (1 : Int32)) - (1 : Int32)) + (1 : Int32)) - (1 : Int32)) - (1 : Int32)) = (0 : Int32) then (1 : Int32) else (0 : Int32)))]))
  refine Goes.via (fun _ k => XS.istore X18.here hx rfl (hb hby at_51) rfl (l' := #[.val (.int p1), .val (.int p2), .val (.int p3), .val (.ref b1), .val (.int p2), .val (.int (if ((((0 : Int32) + (1 : Int32)) + (1 : Int32)) - (1 : Int32)) = (0 : Int32) then (1 : Int32) else (0 : Int32))), .val (.int p3), .val (.int p1), .val (.int (if (((((((0 : Int32) + (1 : Int32)) + (1 : Int32)) - (1 : Int32)) + (1 : Int32)) - (1 : Int32)) - (1 : Int32)) = (0 : Int32) then (1 : Int32) else (0 : Int32)))]) rfl k) ?_
  show Goes p e below _ (T18.setTop (mkF m 53 #[.val (.int p1), .val (.int p2), .val (.int p3), .val (.ref b1), .val (.int p2), .val (.int (if ((((0 : Int32) + (1 : Int32)) + (1 : Int32)) - (1 : Int32)) = (0 : Int32) then (1 : Int32) else (0 : Int32))), .val (.int p3), .val (.int p1), .val (.int (if (((((((0 : Int32) + (1 : Int32)) + (1 : Int32)) - (1 : Int32)) + (1 : Int32)) - (1 : Int32)) - (1 : Int32)) = (0 : Int32) then (1 : Int32) else (0 : Int32)))] []))
  refine Goes.via (fun _ k => XS.iload X18.here hx rfl (hb hby at_53) rfl  k) ?_
  show Goes p e below _ (T18.setTop (mkF m 55 #[.val (.int p1), .val (.int p2), .val (.int p3), .val (.ref b1), .val (.int p2), .val (.int (if ((((0 : Int32) + (1 : Int32)) + (1 : Int32)) - (1 : Int32)) = (0 : Int32) then (1 : Int32) else (0 : Int32))), .val (.int p3), .val (.int p1), .val (.int (if (((((((0 : Int32) + (1 : Int32)) + (1 : Int32)) - (1 : Int32)) + (1 : Int32)) - (1 : Int32)) - (1 : Int32)) = (0 : Int32) then (1 : Int32) else (0 : Int32)))] [(.int p2)]))
  refine Goes.via (fun _ k => XS.iloadN X18.here hx rfl (hb hby at_55) rfl  k) ?_
  show Goes p e below _ (T18.setTop (mkF m 56 #[.val (.int p1), .val (.int p2), .val (.int p3), .val (.ref b1), .val (.int p2), .val (.int (if ((((0 : Int32) + (1 : Int32)) + (1 : Int32)) - (1 : Int32)) = (0 : Int32) then (1 : Int32) else (0 : Int32))), .val (.int p3), .val (.int p1), .val (.int (if (((((((0 : Int32) + (1 : Int32)) + (1 : Int32)) - (1 : Int32)) + (1 : Int32)) - (1 : Int32)) - (1 : Int32)) = (0 : Int32) then (1 : Int32) else (0 : Int32)))] [(.int p2), (.int p2)]))
  have hc56_20 : p2 = p2 := rfl
  refine Goes.via (fun _ k => XS.icmpNo X18.here hx rfl (hb hby at_56) rfl (teq hc56_20).2 k) ?_
  show Goes p e below _ (T18.setTop (mkF m 59 #[.val (.int p1), .val (.int p2), .val (.int p3), .val (.ref b1), .val (.int p2), .val (.int (if ((((0 : Int32) + (1 : Int32)) + (1 : Int32)) - (1 : Int32)) = (0 : Int32) then (1 : Int32) else (0 : Int32))), .val (.int p3), .val (.int p1), .val (.int (if (((((((0 : Int32) + (1 : Int32)) + (1 : Int32)) - (1 : Int32)) + (1 : Int32)) - (1 : Int32)) - (1 : Int32)) = (0 : Int32) then (1 : Int32) else (0 : Int32)))] []))
  refine Goes.via (fun _ k => XS.iload X18.here hx rfl (hb hby at_59) rfl  k) ?_
  show Goes p e below _ (T18.setTop (mkF m 61 #[.val (.int p1), .val (.int p2), .val (.int p3), .val (.ref b1), .val (.int p2), .val (.int (if ((((0 : Int32) + (1 : Int32)) + (1 : Int32)) - (1 : Int32)) = (0 : Int32) then (1 : Int32) else (0 : Int32))), .val (.int p3), .val (.int p1), .val (.int (if (((((((0 : Int32) + (1 : Int32)) + (1 : Int32)) - (1 : Int32)) + (1 : Int32)) - (1 : Int32)) - (1 : Int32)) = (0 : Int32) then (1 : Int32) else (0 : Int32)))] [(.int (if ((((0 : Int32) + (1 : Int32)) + (1 : Int32)) - (1 : Int32)) = (0 : Int32) then (1 : Int32) else (0 : Int32)))]))
  have hc61_21 : (if ((((0 : Int32) + (1 : Int32)) + (1 : Int32)) - (1 : Int32)) = (0 : Int32) then (1 : Int32) else (0 : Int32)) = (0 : Int32) := (by decide)
  refine Goes.via (fun _ k => XS.ifNo X18.here hx rfl (hb hby at_61) rfl ((if0 _ _).trans (teq hc61_21).2) k) ?_
  show Goes p e below _ (T18.setTop (mkF m 64 #[.val (.int p1), .val (.int p2), .val (.int p3), .val (.ref b1), .val (.int p2), .val (.int (if ((((0 : Int32) + (1 : Int32)) + (1 : Int32)) - (1 : Int32)) = (0 : Int32) then (1 : Int32) else (0 : Int32))), .val (.int p3), .val (.int p1), .val (.int (if (((((((0 : Int32) + (1 : Int32)) + (1 : Int32)) - (1 : Int32)) + (1 : Int32)) - (1 : Int32)) - (1 : Int32)) = (0 : Int32) then (1 : Int32) else (0 : Int32)))] []))
  refine Goes.via (fun _ k => XS.iload X18.here hx rfl (hb hby at_64) rfl  k) ?_
  show Goes p e below _ (T18.setTop (mkF m 66 #[.val (.int p1), .val (.int p2), .val (.int p3), .val (.ref b1), .val (.int p2), .val (.int (if ((((0 : Int32) + (1 : Int32)) + (1 : Int32)) - (1 : Int32)) = (0 : Int32) then (1 : Int32) else (0 : Int32))), .val (.int p3), .val (.int p1), .val (.int (if (((((((0 : Int32) + (1 : Int32)) + (1 : Int32)) - (1 : Int32)) + (1 : Int32)) - (1 : Int32)) - (1 : Int32)) = (0 : Int32) then (1 : Int32) else (0 : Int32)))] [(.int p3)]))
  refine Goes.via (fun _ k => XS.iloadN X18.here hx rfl (hb hby at_66) rfl  k) ?_
  show Goes p e below _ (T18.setTop (mkF m 67 #[.val (.int p1), .val (.int p2), .val (.int p3), .val (.ref b1), .val (.int p2), .val (.int (if ((((0 : Int32) + (1 : Int32)) + (1 : Int32)) - (1 : Int32)) = (0 : Int32) then (1 : Int32) else (0 : Int32))), .val (.int p3), .val (.int p1), .val (.int (if (((((((0 : Int32) + (1 : Int32)) + (1 : Int32)) - (1 : Int32)) + (1 : Int32)) - (1 : Int32)) - (1 : Int32)) = (0 : Int32) then (1 : Int32) else (0 : Int32)))] [(.int p3), (.int p3)]))
  have hc67_22 : p3 = p3 := rfl
  refine Goes.via (fun _ k => XS.icmpNo X18.here hx rfl (hb hby at_67) rfl (teq hc67_22).2 k) ?_
  show Goes p e below _ (T18.setTop (mkF m 70 #[.val (.int p1), .val (.int p2), .val (.int p3), .val (.ref b1), .val (.int p2), .val (.int (if ((((0 : Int32) + (1 : Int32)) + (1 : Int32)) - (1 : Int32)) = (0 : Int32) then (1 : Int32) else (0 : Int32))), .val (.int p3), .val (.int p1), .val (.int (if (((((((0 : Int32) + (1 : Int32)) + (1 : Int32)) - (1 : Int32)) + (1 : Int32)) - (1 : Int32)) - (1 : Int32)) = (0 : Int32) then (1 : Int32) else (0 : Int32)))] []))
  refine Goes.via (fun _ k => XS.iload X18.here hx rfl (hb hby at_70) rfl  k) ?_
  show Goes p e below _ (T18.setTop (mkF m 72 #[.val (.int p1), .val (.int p2), .val (.int p3), .val (.ref b1), .val (.int p2), .val (.int (if ((((0 : Int32) + (1 : Int32)) + (1 : Int32)) - (1 : Int32)) = (0 : Int32) then (1 : Int32) else (0 : Int32))), .val (.int p3), .val (.int p1), .val (.int (if (((((((0 : Int32) + (1 : Int32)) + (1 : Int32)) - (1 : Int32)) + (1 : Int32)) - (1 : Int32)) - (1 : Int32)) = (0 : Int32) then (1 : Int32) else (0 : Int32)))] [(.int p1)]))
  refine Goes.via (fun _ k => XS.iloadN X18.here hx rfl (hb hby at_72) rfl  k) ?_
  show Goes p e below _ (T18.setTop (mkF m 73 #[.val (.int p1), .val (.int p2), .val (.int p3), .val (.ref b1), .val (.int p2), .val (.int (if ((((0 : Int32) + (1 : Int32)) + (1 : Int32)) - (1 : Int32)) = (0 : Int32) then (1 : Int32) else (0 : Int32))), .val (.int p3), .val (.int p1), .val (.int (if (((((((0 : Int32) + (1 : Int32)) + (1 : Int32)) - (1 : Int32)) + (1 : Int32)) - (1 : Int32)) - (1 : Int32)) = (0 : Int32) then (1 : Int32) else (0 : Int32)))] [(.int p1), (.int p1)]))
  have hc73_23 : p1 = p1 := rfl
  refine Goes.via (fun _ k => XS.icmpNo X18.here hx rfl (hb hby at_73) rfl (teq hc73_23).2 k) ?_
  show Goes p e below _ (T18.setTop (mkF m 76 #[.val (.int p1), .val (.int p2), .val (.int p3), .val (.ref b1), .val (.int p2), .val (.int (if ((((0 : Int32) + (1 : Int32)) + (1 : Int32)) - (1 : Int32)) = (0 : Int32) then (1 : Int32) else (0 : Int32))), .val (.int p3), .val (.int p1), .val (.int (if (((((((0 : Int32) + (1 : Int32)) + (1 : Int32)) - (1 : Int32)) + (1 : Int32)) - (1 : Int32)) - (1 : Int32)) = (0 : Int32) then (1 : Int32) else (0 : Int32)))] []))
  refine Goes.via (fun _ k => XS.iload X18.here hx rfl (hb hby at_76) rfl  k) ?_
  show Goes p e below _ (T18.setTop (mkF m 78 #[.val (.int p1), .val (.int p2), .val (.int p3), .val (.ref b1), .val (.int p2), .val (.int (if ((((0 : Int32) + (1 : Int32)) + (1 : Int32)) - (1 : Int32)) = (0 : Int32) then (1 : Int32) else (0 : Int32))), .val (.int p3), .val (.int p1), .val (.int (if (((((((0 : Int32) + (1 : Int32)) + (1 : Int32)) - (1 : Int32)) + (1 : Int32)) - (1 : Int32)) - (1 : Int32)) = (0 : Int32) then (1 : Int32) else (0 : Int32)))] [(.int (if (((((((0 : Int32) + (1 : Int32)) + (1 : Int32)) - (1 : Int32)) + (1 : Int32)) - (1 : Int32)) - (1 : Int32)) = (0 : Int32) then (1 : Int32) else (0 : Int32)))]))
  have hc78_24 : ¬ ((if (((((((0 : Int32) + (1 : Int32)) + (1 : Int32)) - (1 : Int32)) + (1 : Int32)) - (1 : Int32)) - (1 : Int32)) = (0 : Int32) then (1 : Int32) else (0 : Int32)) = (0 : Int32)) := (by decide)
  refine Goes.via (fun _ k => XS.ifNo X18.here hx rfl (hb hby at_78) rfl ((if0 _ _).trans (feq hc78_24).1) k) ?_
  show Goes p e below _ (T18.setTop (mkF m 81 #[.val (.int p1), .val (.int p2), .val (.int p3), .val (.ref b1), .val (.int p2), .val (.int (if ((((0 : Int32) + (1 : Int32)) + (1 : Int32)) - (1 : Int32)) = (0 : Int32) then (1 : Int32) else (0 : Int32))), .val (.int p3), .val (.int p1), .val (.int (if (((((((0 : Int32) + (1 : Int32)) + (1 : Int32)) - (1 : Int32)) + (1 : Int32)) - (1 : Int32)) - (1 : Int32)) = (0 : Int32) then (1 : Int32) else (0 : Int32)))] []))
  refine Goes.via (fun _ k => XS.iconst X18.here hx rfl (hb hby at_81) k) ?_
  show Goes p e below _ (T18.setTop (mkF m 82 #[.val (.int p1), .val (.int p2), .val (.int p3), .val (.ref b1), .val (.int p2), .val (.int (if ((((0 : Int32) + (1 : Int32)) + (1 : Int32)) - (1 : Int32)) = (0 : Int32) then (1 : Int32) else (0 : Int32))), .val (.int p3), .val (.int p1), .val (.int (if (((((((0 : Int32) + (1 : Int32)) + (1 : Int32)) - (1 : Int32)) + (1 : Int32)) - (1 : Int32)) - (1 : Int32)) = (0 : Int32) then (1 : Int32) else (0 : Int32)))] [(.int (1 : Int32))]))
  refine Goes.via (fun _ k => XS.goto X18.here hx rfl (pc0 := 82) (pc' := 86) rfl (hb hby at_82) (by decide) (by decide) k) ?_
  show Goes p e below _ (T18.setTop (mkF m 86 #[.val (.int p1), .val (.int p2), .val (.int p3), .val (.ref b1), .val (.int p2), .val (.int (if ((((0 : Int32) + (1 : Int32)) + (1 : Int32)) - (1 : Int32)) = (0 : Int32) then (1 : Int32) else (0 : Int32))), .val (.int p3), .val (.int p1), .val (.int (if (((((((0 : Int32) + (1 : Int32)) + (1 : Int32)) - (1 : Int32)) + (1 : Int32)) - (1 : Int32)) - (1 : Int32)) = (0 : Int32) then (1 : Int32) else (0 : Int32)))] [(.int (1 : Int32))]))
  have K25 : Keep h0 T16.heap [] := (((((((((Keep.refl h0 []).ext E1).trans K2 (allS (Or.inr sz_b1) all0)).trans K5 (allS (Or.inr sz_b1) (allS (Or.inr sz_b2) all0))).trans K7 (allS (Or.inr sz_b1) (allS (Or.inr sz_b2) all0))).trans K9 (allS (Or.inr sz_b1) all0)).trans K13 (allS (Or.inr sz_b1) (allS (Or.inr sz_b2) all0))).trans K14 (allS (Or.inr sz_b1) all0)).trans K16 (allS (Or.inr sz_b1) all0))
  exact own_finN X18 hx hlk hret (by simp) (hb hby at_86) (by rw [e18']; exact ⟨rfl, N18, K25⟩) (by first | decide | omega) (by first | decide | omega)
set_option maxRecDepth 65536 in
set_option maxHeartbeats 40000000 in
theorem comes_1 {Post : Tables → Env → Array Value → State → Outcome → State → Prop} (hpost : ∀ tb e args s v u, (limb_1_1.after args s (.returned v) u = true ∧ limb_1_2.after args s (.returned v) u = true ∧ True) → FrameEnd s (.returned v) u (Jvm.fieldLocs frame_1_writes args s ++ Jvm.arrayLocs frame_1_arrays args s ++ Jvm.staticLocs frame_1_statics s) 16 192 → Post tb e args s (.returned v) u) :
    ArmFor flags0 classFile x code maxLocals ret World_1 tables_1 room_1 Calls_1 rest_1 Pre_1 Post := by
  intro l hfl _ _ p e ha hc hk s m args below hf hA hF happ hP
  obtain ⟨hcalls, hrest, hpre⟩ := hP
  obtain ⟨-, -, -, hnamed, -, -, -, hat⟩ := (Spec.applies_iff hf).mp happ
  obtain ⟨hg, hn⟩ := and_e (Cond.before_iff.mp (show (Jvm.Cond.and given_1 narrow_1).before args s = true from hpre))
  obtain ⟨gg1, gg2⟩ := and_e hg
  obtain ⟨gg3, gg4⟩ := and_e gg2
  obtain ⟨gg5, gg6⟩ := and_e gg4
  obtain ⟨w0, w1, w2, rfl⟩ : ∃ w0 w1 w2 : Value, args = #[w0, w1, w2] := by
    have hs : args.size = 3 := by simpa [Cond.value, given_1] using gg1
    obtain ⟨L⟩ := args
    match L, hs with
    | [w0, w1, w2], _ => exact ⟨w0, w1, w2, rfl⟩
  have hw := fun d (hd : d ∈ tables_1) => atoms_spec (ws := Jvm.Cond.code x code maxLocals ret :: tables_1) hat d (List.mem_cons_of_mem _ hd)
  have hfit : Fit s := fun {y c} hc i hi => by
    obtain ⟨ha, rfl⟩ := Array.getElem?_eq_some_iff.mp hc
    have q := List.all_eq_true.mp ((Array.all_eq_true_iff_forall_mem.mp hF) _ (Array.getElem_mem ha)) i (List.mem_range.mpr hi)
    simpa [Array.getElem?_eq_getElem hi] using q
  obtain ⟨i0, ei0⟩ := is_v gg3
  obtain rfl : w0 = (.int i0) := Option.some.inj ei0
  obtain ⟨i1, ei1⟩ := is_v gg5
  obtain rfl : w1 = (.int i1) := Option.some.inj ei1
  obtain ⟨i2, ei2⟩ := is_v gg6
  obtain rfl : w2 = (.int i2) := Option.some.inj ei2
  obtain ⟨n, o, h1, h2, h3, _, L, rfl, ⟨rfl, N, -⟩, hq⟩ := rm0 l s _ hw tables_1 i0 i1 i2 s.heap s.heap.size (Nat.le_refl _)  p e ha hc hk s m _ below hf ((Spec.applies_iff_loose hf).mp happ).1 ⟨rfl, State.Warmed39.refl s, rfl⟩ trivial
  refine ⟨n, _, h1, h2, h3, hpost _ _ _ _ _ _ ⟨Cond.after_iff.mpr rfl, Cond.after_iff.mpr (eq_i res_at (Term.int_eval (1)) rfl), trivial⟩ ⟨hq.1, hq.2.1, (hq.2.2.sift fun y hy => Or.inr (N y hy)).mono (by decide) (by decide)⟩⟩
theorem main_1_1 : Claimed_1_1 := comes_1 fun _ _ _ _ _ _ h hF => ⟨h.1, hF⟩
theorem main_1_2 : Claimed_1_2 := comes_1 fun _ _ _ _ _ _ h hF => ⟨h.2.1, hF⟩
end Jvm.Pilot.@@N@@
namespace Jvm.Pilot.@@N@@
open Jvm Jvm.ClassFile Sem Op Lib Jvm.Free Jvm.Stand Jvm.Pilot.@@N@@.Jvm.D
/-! MADE BY PROGRAM (witnessworld.py) out of the Statement's table words and the real class files: 9 classes; the members and pool entries that the words name. The judged class is class 1, her method 1. -/
namespace start1
open Jvm.ClassFile
def u (s : String) : CpInfo := .utf8 (stringToUtf16 s)
/-- a pool by its gaps: so many unusable entries, then the entry; so many at the end -/
def gap : Nat → List CpInfo → List CpInfo
  | 0, r => r
  | n + 1, r => .unusable :: gap n r
def poolList (es : List (Nat × CpInfo)) (last : Nat) : List CpInfo := es.foldr (fun e r => gap e.1 (e.2 :: r)) (gap last [])
def pool (es : List (Nat × CpInfo)) (last : Nat) : Array CpInfo := ⟨poolList es last⟩
def fileOf (pool : Array CpInfo) (this : Nat) (attrs : Array Attribute := #[]) (ms : Array MethodInfo := #[]) (fl : Nat := 33) (sup : Nat := 0) (ifs : Array Nat := #[]) (fds : Array FieldInfo := #[]) : ClassFile where
  minorVersion := 0
  majorVersion := 65
  constantPool := pool
  accessFlags := fl
  thisClass := this
  superClass := sup
  interfaces := ifs
  fields := fds
  methods := ms
  attributes := attrs
def plain (name : String) (sup : Option ClassId) : Class where
  name := name
  kind := .ordinary
  loader := none
  accessFlags := 33
  super := sup
  interfaces := #[]
  cf := none
  fields := #[]
  methods := #[]
  instanceTypes := #[]
  staticTypes := #[]
  resolved := #[]
  callSites := []
  init := .initialized
  statics := none
  mirror := none

def pool0 : Array CpInfo := pool [(5, u "<init>"), (0, u "()V"), (1, .class_ 10), (1, u "java/lang/Object")] 113

def k0c0 : Code := { maxStack := 0, maxLocals := 1, code := object_method_1_code, exceptionTable := #[], attributes := #[] }
def k0m0 : Method := { name := "<init>", desc := "()V", sig := { parameters := [], returnType := none }, accessFlags := 1, code := some k0c0 }
/-- java/lang/Object -/
def k0 : Class := { plain "java/lang/Object" none with
  accessFlags := 33
  interfaces := #[]
  cf := some (fileOf pool0 8 #[] #[{ accessFlags := 1, nameIndex := 5, descriptorIndex := 6, attributes := #[] }] 33 0 #[] #[])
  fields := #[]
  methods := #[k0m0]
  instanceTypes := #[]
  staticTypes := #[]
  resolved := Array.replicate 124 none
  statics := none }

def pool1 : Array CpInfo := pool [(2, .class_ 4), (0, .nameAndType 5 6), (0, u "java/lang/Object"), (0, u "<init>"), (0, u "()V"), (0, .class_ 8), (0, u "com/example/graphsmith/graphsmith/conformance/IntStack"), (0, .methodref 7 3), (0, .methodref 7 11), (0, .nameAndType 12 13), (0, u "push"), (0, u "(I)V"), (0, .methodref 7 15), (0, .nameAndType 16 17), (0, u "pop"), (0, u "()I"), (0, .methodref 7 19), (0, .nameAndType 20 21), (0, u "isEmpty"), (0, u "()Z"), (0, .class_ 23), (0, u "com/example/graphsmith/graphsmith/conformance/IntStackPopPinLaw"), (2, u "law"), (0, u "(III)Z")] 3

def k1m0 : Method := { name := "<init>", desc := "()V", sig := { parameters := [], returnType := none }, accessFlags := 1, code := none }
def k1c1 : Code := { maxStack := 2, maxLocals := 9, code := code, exceptionTable := #[], attributes := #[] }
def k1m1 : Method := { name := "law", desc := "(III)Z", sig := { parameters := [.int, .int, .int], returnType := some .boolean }, accessFlags := 9, code := some k1c1 }
/-- com/example/graphsmith/graphsmith/conformance/IntStackPopPinLaw -/
def k1 : Class := { plain "com/example/graphsmith/graphsmith/conformance/IntStackPopPinLaw" (some 0) with
  accessFlags := 49
  interfaces := #[]
  cf := some (fileOf pool1 22 #[] #[{ accessFlags := 1, nameIndex := 5, descriptorIndex := 6, attributes := #[] }, { accessFlags := 9, nameIndex := 26, descriptorIndex := 27, attributes := #[] }] 49 2 #[] #[])
  fields := #[]
  methods := #[k1m0, k1m1]
  instanceTypes := #[]
  staticTypes := #[]
  resolved := Array.replicate 31 none
  statics := none }

def pool2 : Array CpInfo := pool [(1, .methodref 2 3), (0, .class_ 4), (0, .nameAndType 5 6), (0, u "java/lang/Object"), (0, u "<init>"), (0, u "()V"), (0, .fieldref 8 9), (0, .class_ 10), (0, .nameAndType 11 12), (0, u "com/example/graphsmith/graphsmith/conformance/IntStack"), (0, u "values"), (0, u "[I"), (0, .fieldref 8 14), (0, .nameAndType 15 16), (0, u "size"), (0, u "I"), (8, u "isEmpty"), (0, u "()Z"), (1, u "push"), (0, u "(I)V"), (0, u "pop"), (0, u "()I")] 3

def k2c0 : Code := { maxStack := 2, maxLocals := 1, code := prog_18_method_1_code, exceptionTable := #[], attributes := #[] }
def k2m0 : Method := { name := "<init>", desc := "()V", sig := { parameters := [], returnType := none }, accessFlags := 0, code := some k2c0 }
def k2c1 : Code := { maxStack := 1, maxLocals := 1, code := prog_18_method_2_code, exceptionTable := #[], attributes := #[] }
def k2m1 : Method := { name := "isEmpty", desc := "()Z", sig := { parameters := [], returnType := some .boolean }, accessFlags := 0, code := some k2c1 }
def k2c2 : Code := { maxStack := 5, maxLocals := 2, code := prog_18_method_3_code, exceptionTable := #[], attributes := #[] }
def k2m2 : Method := { name := "push", desc := "(I)V", sig := { parameters := [.int], returnType := none }, accessFlags := 0, code := some k2c2 }
def k2c3 : Code := { maxStack := 4, maxLocals := 1, code := prog_18_method_4_code, exceptionTable := #[], attributes := #[] }
def k2m3 : Method := { name := "pop", desc := "()I", sig := { parameters := [], returnType := some .int }, accessFlags := 0, code := some k2c3 }
/-- com/example/graphsmith/graphsmith/conformance/IntStack -/
def k2 : Class := { plain "com/example/graphsmith/graphsmith/conformance/IntStack" (some 0) with
  accessFlags := 48
  interfaces := #[]
  cf := some (fileOf pool2 8 #[] #[{ accessFlags := 0, nameIndex := 5, descriptorIndex := 6, attributes := #[] }, { accessFlags := 0, nameIndex := 25, descriptorIndex := 26, attributes := #[] }, { accessFlags := 0, nameIndex := 28, descriptorIndex := 29, attributes := #[] }, { accessFlags := 0, nameIndex := 30, descriptorIndex := 31, attributes := #[] }] 48 2 #[] #[{ accessFlags := 2, nameIndex := 11, descriptorIndex := 12, attributes := #[] }, { accessFlags := 2, nameIndex := 15, descriptorIndex := 16, attributes := #[] }])
  fields := #[{ name := "values", type := (.array .int), accessFlags := 2, slot := 0, constantValue := 0 }, { name := "size", type := .int, accessFlags := 2, slot := 1, constantValue := 0 }]
  methods := #[k2m0, k2m1, k2m2, k2m3]
  instanceTypes := #[(.array .int), .int]
  staticTypes := #[]
  resolved := Array.replicate 35 none
  statics := none }

def pool3 : Array CpInfo := pool [(1, u "java/lang/Cloneable"), (0, .class_ 1), (0, u "java/lang/Object"), (0, .class_ 3)] 3

/-- java/lang/Cloneable -/
def k3 : Class := { plain "java/lang/Cloneable" (some 0) with
  accessFlags := 1537
  interfaces := #[]
  cf := some (fileOf pool3 2 #[] #[] 1537 4 #[] #[])
  fields := #[]
  methods := #[]
  instanceTypes := #[]
  staticTypes := #[]
  resolved := Array.replicate 8 none
  statics := none }

def pool4 : Array CpInfo := pool [(1, u "java/io/Serializable"), (0, .class_ 1), (0, u "java/lang/Object"), (0, .class_ 3)] 3

/-- java/io/Serializable -/
def k4 : Class := { plain "java/io/Serializable" (some 0) with
  accessFlags := 1537
  interfaces := #[]
  cf := some (fileOf pool4 2 #[] #[] 1537 4 #[] #[])
  fields := #[]
  methods := #[]
  instanceTypes := #[]
  staticTypes := #[]
  resolved := Array.replicate 8 none
  statics := none }

/-- the primitive byte -/
def k5 : Class := { plain "byte" none with kind := .primitive 'B', accessFlags := 0x411 }
/-- [B -/
def k6 : Class := { plain "[B" (some 0) with kind := .array 5 .byte, interfaces := #[3, 4], accessFlags := 1041 }

/-- the primitive int -/
def k7 : Class := { plain "int" none with kind := .primitive 'I', accessFlags := 0x411 }
/-- [I -/
def k8 : Class := { plain "[I" (some 0) with kind := .array 7 .int, interfaces := #[3, 4], accessFlags := 1041 }

def heap : Heap := #[]
def classes : Array Class := #[k0, k1, k2, k3, k4, k5, k6, k7, k8]
def interned : List (Array UInt16 × Addr) := []
def slotsUsed : Nat := 0
def theMethod : MethodId := ⟨1, 1⟩
def args0 : Array Value := #[.int 5, .int 6, .int 1]
def aboutOver (below : List Frame) : State where
  vm := { classes := classes, interned := interned.toArray }
  heap := heap
  slotsUsed := slotsUsed
  threads := #[{ frames := .invoking theMethod args0 :: below }]
def below0 : List Frame := [.native { method := ⟨0, 0⟩, args := #[] }]
def about1 : State := aboutOver below0
def p0 : Program := .bare "" "" ""
def e0 : Env := launch0.env 0 0 0
theorem w_frames : about1.frames = Frame.invoking theMethod args0 :: below0 := rfl
set_option maxRecDepth 65536 in
theorem w_args : argsFit about1.vm theMethod args0 = true := by decide +kernel
set_option maxRecDepth 65536 in
theorem w_heap : heapFits about1 = true := by decide +kernel
set_option maxRecDepth 65536 in
theorem w_runnable : about1.curStatus? = some .runnable := by decide +kernel
set_option maxRecDepth 65536 in
theorem w_alone : about1.alone = true := by decide +kernel
set_option maxRecDepth 65536 in
theorem w_named : about1.methodNamed? x = some theMethod := by decide +kernel
set_option maxRecDepth 65536 in
theorem w_hears : about1.hears theMethod below0 = true := by decide +kernel
set_option maxRecDepth 65536 in
theorem w_ripe : about1.ripe theMethod args0 below0 = true := by decide +kernel
theorem w_running : about1.status = .running := rfl
set_option maxRecDepth 65536 in
theorem w_room : about1.hasRoom e0.platform room_1 = true :=
  launch0.hasRoom_least _ room_1 (by decide +kernel) (by decide +kernel) (by decide +kernel) (by decide +kernel) (by decide +kernel) (by decide +kernel)
theorem allAtoms_all (ts : List Jvm.Cond) (a : Array Jvm.Value) (st : Jvm.State) : (allAtoms ts).before a st = ts.all (fun c => c.before a st) := by
  induction ts with
  | nil => rfl
  | cons c t ih =>
    show (Jvm.Cond.and c (allAtoms t)).before a st = _
    rw [Jvm.Cond.before_and, ih, List.all_cons]
def words1 : List Jvm.Cond := Jvm.Cond.code x code maxLocals ret :: tables_1
/-- a 'code' word, met by the world's own term for the bytes: nothing is compared byte by byte -/
theorem code_word {y : MethodName} {bytes : ByteArray} {mx : Nat} {rt : Option FieldType} {a : Array Value} {s : State} {m : MethodId} {meth : Method} {c : Code} (h1 : s.methodNamed? y = some m) (h2 : s.vm.method? m = some meth) (h3 : meth.code = some c) (h4 : c.code = bytes)
    (h5 : (c.maxLocals == mx && c.exceptionTable.isEmpty && decide (c.maxStack ≤ mostOperands) && decide (meth.sig.returnType = rt) && !meth.locks && decide (parseMethodDescriptor y.desc = some meth.sig)) = true) : (Jvm.Cond.code y bytes mx rt).before a s = true := by
  simp only [Bool.and_eq_true, beq_iff_eq, Bool.not_eq_true', decide_eq_true_eq] at h5
  obtain ⟨⟨⟨⟨⟨g1, g2⟩, g3⟩, g4⟩, g5⟩, g6⟩ := h5
  simp [Cond.before, Cond.holds, Cond.value, h1, h2, h3, h4, g1, g2, g3, g4, g5, g6]
def isCode : Jvm.Cond → Bool
  | .code _ _ _ _ => true
  | _ => false
theorem all_split {L : List Jvm.Cond} {P : Jvm.Cond → Bool} (h1 : L.all (fun c => isCode c || P c) = true) (h2 : ∀ c ∈ L.filter isCode, P c = true) : L.all P = true := by
  refine List.all_eq_true.mpr fun c hc => ?_
  have h := List.all_eq_true.mp h1 c hc
  rcases Bool.eq_false_or_eq_true (isCode c) with hi | hi
  · exact h2 c (List.mem_filter.mpr ⟨hc, hi⟩)
  · simpa [hi] using h
set_option maxRecDepth 65536 in
theorem w_c0 : (Jvm.Cond.code x code maxLocals ret).before args0 about1 = true := code_word (m := ⟨1, 1⟩) (meth := k1m1) (c := k1c1) (by decide +kernel) rfl rfl rfl (by decide +kernel)
set_option maxRecDepth 65536 in
theorem w_c1 : (Jvm.Cond.code ({ cls := "com/example/graphsmith/graphsmith/conformance/IntStack", name := "<init>", desc := "()V" } : Jvm.MethodName) prog_18_method_1_code (1 : Nat) (Option.none : Option Jvm.ClassFile.FieldType)).before args0 about1 = true := code_word (m := ⟨2, 0⟩) (meth := k2m0) (c := k2c0) (by decide +kernel) rfl rfl rfl (by decide +kernel)
set_option maxRecDepth 65536 in
theorem w_c2 : (Jvm.Cond.code ({ cls := "java/lang/Object", name := "<init>", desc := "()V" } : Jvm.MethodName) object_method_1_code (1 : Nat) (Option.none : Option Jvm.ClassFile.FieldType)).before args0 about1 = true := code_word (m := ⟨0, 0⟩) (meth := k0m0) (c := k0c0) (by decide +kernel) rfl rfl rfl (by decide +kernel)
set_option maxRecDepth 65536 in
theorem w_c3 : (Jvm.Cond.code ({ cls := "com/example/graphsmith/graphsmith/conformance/IntStack", name := "push", desc := "(I)V" } : Jvm.MethodName) prog_18_method_3_code (2 : Nat) (Option.none : Option Jvm.ClassFile.FieldType)).before args0 about1 = true := code_word (m := ⟨2, 2⟩) (meth := k2m2) (c := k2c2) (by decide +kernel) rfl rfl rfl (by decide +kernel)
set_option maxRecDepth 65536 in
theorem w_c4 : (Jvm.Cond.code ({ cls := "com/example/graphsmith/graphsmith/conformance/IntStack", name := "pop", desc := "()I" } : Jvm.MethodName) prog_18_method_4_code (1 : Nat) (Option.some Jvm.ClassFile.FieldType.int)).before args0 about1 = true := code_word (m := ⟨2, 3⟩) (meth := k2m3) (c := k2c3) (by decide +kernel) rfl rfl rfl (by decide +kernel)
set_option maxRecDepth 65536 in
theorem w_c5 : (Jvm.Cond.code ({ cls := "com/example/graphsmith/graphsmith/conformance/IntStack", name := "isEmpty", desc := "()Z" } : Jvm.MethodName) prog_18_method_2_code (1 : Nat) (Option.some Jvm.ClassFile.FieldType.boolean)).before args0 about1 = true := code_word (m := ⟨2, 1⟩) (meth := k2m1) (c := k2c1) (by decide +kernel) rfl rfl rfl (by decide +kernel)
def codes1 : List Jvm.Cond := [Jvm.Cond.code x code maxLocals ret, Jvm.Cond.code ({ cls := "com/example/graphsmith/graphsmith/conformance/IntStack", name := "<init>", desc := "()V" } : Jvm.MethodName) prog_18_method_1_code (1 : Nat) (Option.none : Option Jvm.ClassFile.FieldType), Jvm.Cond.code ({ cls := "java/lang/Object", name := "<init>", desc := "()V" } : Jvm.MethodName) object_method_1_code (1 : Nat) (Option.none : Option Jvm.ClassFile.FieldType), Jvm.Cond.code ({ cls := "com/example/graphsmith/graphsmith/conformance/IntStack", name := "push", desc := "(I)V" } : Jvm.MethodName) prog_18_method_3_code (2 : Nat) (Option.none : Option Jvm.ClassFile.FieldType), Jvm.Cond.code ({ cls := "com/example/graphsmith/graphsmith/conformance/IntStack", name := "pop", desc := "()I" } : Jvm.MethodName) prog_18_method_4_code (1 : Nat) (Option.some Jvm.ClassFile.FieldType.int), Jvm.Cond.code ({ cls := "com/example/graphsmith/graphsmith/conformance/IntStack", name := "isEmpty", desc := "()Z" } : Jvm.MethodName) prog_18_method_2_code (1 : Nat) (Option.some Jvm.ClassFile.FieldType.boolean)]
set_option maxRecDepth 65536 in
theorem codes_eq : words1.filter isCode = codes1 := rfl
theorem w_codes : ∀ c ∈ words1.filter isCode, c.before args0 about1 = true := by
  rw [codes_eq]
  intro c hc
  simp only [codes1, List.mem_cons, List.not_mem_nil, or_false] at hc
  rcases hc with rfl | rfl | rfl | rfl | rfl | rfl
  · exact w_c0
  · exact w_c1
  · exact w_c2
  · exact w_c3
  · exact w_c4
  · exact w_c5
set_option maxRecDepth 65536 in
theorem w_t1 : (words1.take 24).all (fun c => isCode c || c.before args0 about1) = true := by decide +kernel
set_option maxRecDepth 65536 in
theorem w_t2 : (words1.drop 24).all (fun c => isCode c || c.before args0 about1) = true := by decide +kernel
theorem w_tables : (allAtoms (Jvm.Cond.code x code maxLocals ret :: tables_1)).before args0 about1 = true := by
  rw [allAtoms_all]
  show words1.all (fun c => c.before args0 about1) = true
  refine all_split ?_ w_codes
  rw [← List.take_append_drop 24 words1, List.all_append, w_t1, w_t2]
  rfl
set_option maxRecDepth 65536 in
theorem w_case : (Jvm.Cond.and given_1 narrow_1).before args0 about1 = true := by decide +kernel
theorem w_applies : (headSpec (Jvm.Cond.code x code maxLocals ret :: tables_1) room_1).applies x e0.platform about1 = true :=
  (Spec.applies_iff w_frames).mpr ⟨w_running, w_runnable, w_alone, w_named, w_hears, w_ripe, w_room, w_tables⟩
theorem atStart : AtStart classFile x code maxLocals ret World_1 tables_1 room_1 Calls_1 rest_1 Pre_1 launch0 p0 e0 about1 theMethod args0 below0 :=
  ⟨lists_1, trivial, launch0.admits_env _ _ _, launch0.least_env, fairChoices_fair.cas, fairChoices_fair.clock, w_frames, w_args, w_heap, w_applies, trivial, trivial, w_case⟩
end start1
theorem witness_1 : WitnessClaimed_1 := ⟨start1.p0, start1.e0, start1.about1, start1.theMethod, start1.args0, start1.below0, start1.atStart⟩
end Jvm.Pilot.@@N@@
