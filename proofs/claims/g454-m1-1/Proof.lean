import JvmDerived
import JvmDerived.Pilot.@@N@@Statement
import JvmDerived.Pilot.@@N@@Code
set_option linter.unusedVariables false
set_option linter.unusedSimpArgs false
namespace Jvm.Pilot.@@N@@
open Jvm Jvm.ClassFile Sem Op Lib Jvm.Free Jvm.Stand Jvm.LawKit Jvm.RoadKit Bundle Jvm.Pilot.@@N@@.Jvm.D
section Own
variable {p : Program} {l : Launch} {e : Env} {R : Room} {s : State} {m : MethodId} {args : Array Value} {below : List Frame} {meth : Method} {c : Code} {T : State} {locs : List Loc} {cells slots : Nat} {Q : Option Value → Heap → List Loc → Prop} {C S : Nat}
def Goes (p : Program) (e : Env) (below : List Frame) (P : Outcome → State → Prop) (A : State) : Prop :=
  ∃ s₂ o, Steps p.tables e below A s₂ ∧ s₂.status = .running ∧ Ended s₂ below o ∧ P o s₂
def Fin_ (s : State) (Q : Option Value → Heap → List Loc → Prop) (C S : Nat) (o : Outcome) (U' : State) : Prop :=
  ∃ v L, o = .returned v ∧ Q v U'.heap L ∧ FrameEnd s o U' L C S
theorem Goes.via {P : Outcome → State → Prop} {A B : State} (st : ∀ t, Steps p.tables e below B t → Steps p.tables e below A t) (k : Goes p e below P B) : Goes p e below P A := by
  obtain ⟨s₂, o, h1, h2⟩ := k
  exact ⟨s₂, o, st _ h1, h2⟩
theorem Goes.tr {P : Outcome → State → Prop} {A B : State} (st : Steps p.tables e below A B) (k : Goes p e below P B) : Goes p e below P A := by
  obtain ⟨s₂, o, h1, h2⟩ := k
  exact ⟨s₂, o, st.trans h1, h2⟩
theorem own_fin {pc : Nat} {Ls : Array Slot} {st : List Value} (X : Stand p l e R s m args below meth c T locs cells slots) (hlk : meth.locks = false) {v : Option Value} (hv : meth.sig.returnType = none → v = none)
    (hstep : ∀ fs, (∀ (f : JFrame) (acts : List Action), f.method = m → f.locked = none → f.entered = [] → (doReturn e (T.setTop f) acts v).1 = T.setFrames fs) → Steps p.tables e below (T.setTop (mkF m pc Ls st)) (T.setFrames fs))
    (hQ : Q v T.heap locs) (hC : cells ≤ C) (hS : slots ≤ S) : Goes p e below (Fin_ s Q C S) (T.setTop (mkF m pc Ls st)) := by
  obtain ⟨fs, hr, hrun, hended, hW, hsame⟩ := X.leave (v := v) hv hlk
  exact ⟨_, _, hstep fs hr, hrun, hended, _, _, rfl, hQ, ⟨_, rfl⟩, hW, hsame.mono hC hS⟩
theorem own_finV {pc : Nat} {Ls : Array Slot} (X : Stand p l e R s m args below meth c T locs cells slots) (hx : p.tables.exec = Jvm.exec) (hlk : meth.locks = false) (hret : meth.sig.returnType = none)
    (hd : decode c.code pc = .ok (.return_, 1)) (hQ : Q none T.heap locs) (hC : cells ≤ C) (hS : slots ≤ S) : Goes p e below (Fin_ s Q C S) (T.setTop (mkF m pc Ls [])) :=
  own_fin X hlk (fun _ => rfl) (fun _ hr => X.returnOut hx hret hd hr) hQ hC hS
theorem own_finI {pc : Nat} {Ls : Array Slot} {z : Int32} {rest : List Value} (X : Stand p l e R s m args below meth c T locs cells slots) (hx : p.tables.exec = Jvm.exec) (hlk : meth.locks = false) (hret : meth.sig.returnType = some .int)
    (hd : decode c.code pc = .ok (.ireturn, 1)) (hQ : Q (some (.int z)) T.heap locs) (hC : cells ≤ C) (hS : slots ≤ S) : Goes p e below (Fin_ s Q C S) (T.setTop (mkF m pc Ls (.int z :: rest))) :=
  own_fin X hlk (fun h => by rw [hret] at h; cases h) (fun _ hr => retOut X hx hret rfl (Or.inl ⟨rfl, Or.inl rfl, _, rfl⟩) hd hr) hQ hC hS
theorem own_finN {pc : Nat} {Ls : Array Slot} {z : Int32} {rest : List Value} (X : Stand p l e R s m args below meth c T locs cells slots) (hx : p.tables.exec = Jvm.exec) (hlk : meth.locks = false) {t : FieldType} (hret : meth.sig.returnType = some t)
    (ht : t = .boolean ∨ t = .byte ∨ t = .char ∨ t = .short) (hd : decode c.code pc = .ok (.ireturn, 1)) (hQ : Q (some (.int (nar t z))) T.heap locs) (hC : cells ≤ C) (hS : slots ≤ S) : Goes p e below (Fin_ s Q C S) (T.setTop (mkF m pc Ls (.int z :: rest))) :=
  own_fin X hlk (fun h => by rw [hret] at h; cases h) (fun _ hr => retN X hx hret ht hd hr) hQ hC hS
theorem own_finJ {pc : Nat} {Ls : Array Slot} {z : Int64} {rest : List Value} (X : Stand p l e R s m args below meth c T locs cells slots) (hx : p.tables.exec = Jvm.exec) (hlk : meth.locks = false) (hret : meth.sig.returnType = some .long)
    (hd : decode c.code pc = .ok (.lreturn, 1)) (hQ : Q (some (.long z)) T.heap locs) (hC : cells ≤ C) (hS : slots ≤ S) : Goes p e below (Fin_ s Q C S) (T.setTop (mkF m pc Ls (.long z :: rest))) :=
  own_fin X hlk (fun h => by rw [hret] at h; cases h) (fun _ hr => retOut X hx hret rfl (Or.inr (Or.inl ⟨rfl, rfl, _, rfl⟩)) hd hr) hQ hC hS
theorem own_finR {pc : Nat} {Ls : Array Slot} {w : Value} {rest : List Value} (X : Stand p l e R s m args below meth c T locs cells slots) (hx : p.tables.exec = Jvm.exec) (hlk : meth.locks = false) {t : FieldType} (hret : meth.sig.returnType = some t) (ht : t.isReference = true) (hw : w.isRef = true) (hn : narrow t w = w)
    (hd : decode c.code pc = .ok (.areturn, 1)) (hQ : Q (some w) T.heap locs) (hC : cells ≤ C) (hS : slots ≤ S) : Goes p e below (Fin_ s Q C S) (T.setTop (mkF m pc Ls (w :: rest))) :=
  own_fin X hlk (fun h => by rw [hret] at h; cases h) (fun _ hr => retOut X hx hret hn (Or.inr (Or.inr (Or.inr (Or.inr ⟨rfl, ht, hw⟩)))) hd hr) hQ hC hS
theorem own_sta_keep {Z : State} {h h' : Heap} {C n d : String} {v : Value} (F : Sta Z h C n d v) (K : Keep h h' []) : Sta Z h' C n d v := by
  obtain ⟨cf, i, k, f, st, cell, h1, h2, h3, h4, h5, h6⟩ := F
  exact ⟨cf, i, k, f, st, cell, h1, h2, h3, h4, K.2.1 _ _ h5 nin0, h6⟩
theorem own_mask (x : Int32) : ¬ (x &&& (2147483647 : Int32)) < (0 : Int32) := by
  intro q
  have q1 := (c_and x 2147483647 (by decide)).1
  have q2 := Int32.lt_iff_toInt_lt.mp q
  have q3 : (0 : Int32).toInt = 0 := by decide
  omega
theorem own_and255 (x : Int32) : ¬ (x &&& (255 : Int32)) < 0 ∧ ¬ (255 : Int32) < (x &&& (255 : Int32)) := by
  have q1 := c_and x 255 (by decide)
  have q3 : (0 : Int32).toInt = 0 := by decide
  have q4 : (255 : Int32).toInt = 255 := by decide
  constructor
  · intro q
    have q2 := Int32.lt_iff_toInt_lt.mp q
    omega
  · intro q
    have q2 := Int32.lt_iff_toInt_lt.mp q
    omega
end Own
section Arrays
variable {p : Program} {l : Launch} {e : Env} {R : Room} {s : State} {m : MethodId} {args : Array Value} {below : List Frame} {meth : Method} {c : Code} {T : State} {locs : List Loc} {cells slots : Nat} {Z : State} {a0 : Array Value} {h h' : Heap} {a b : Addr} {k : ClassId} {ty : FieldType} {n : Nat} {f : Nat → Value} {ws : List Addr}
def Arw (Z : State) (h : Heap) (a : Addr) (k : ClassId) (ty : FieldType) (n : Nat) (f : Nat → Value) : Prop :=
  ∃ c : Cell, Arr Z h a c ty ∧ c.cls = k ∧ c.slots.size = n ∧ n < 2147483648 ∧ (∀ i, i < n → c.slots[i]? = some (f i)) ∧ ∀ i, i < n → fits ty (f i) = true
def own_upd (f : Nat → Value) (i : Nat) (v : Value) : Nat → Value := fun q => if q = i then v else f q
theorem own_upd_same (f : Nat → Value) (i : Nat) (v : Value) : own_upd f i v i = v := if_pos rfl
theorem own_upd_ne (f : Nat → Value) {i j : Nat} (v : Value) (q : j ≠ i) : own_upd f i v j = f j := if_neg q
theorem Arw.lt (F : Arw Z h a k ty n f) : a < h.size := by
  obtain ⟨c, A, -⟩ := F
  exact A.lt
theorem Arw.ext (F : Arw Z h a k ty n f) (E : Ext h h') : Arw Z h' a k ty n f := by
  obtain ⟨c, A, r⟩ := F
  exact ⟨c, A.ext E, r⟩
theorem Arw.other {sl : Nat} {v : Value} (F : Arw Z h b k ty n f) (W : Wr h h' a sl v) (q : b ≠ a) : Arw Z h' b k ty n f := by
  obtain ⟨c, A, r⟩ := F
  exact ⟨c, A.other W q, r⟩
theorem Arw.keep (F : Arw Z h a k ty n f) (K : Keep h h' ws) (q : a ∉ ws) : Arw Z h' a k ty n f := by
  obtain ⟨c, A, r⟩ := F
  exact ⟨c, ⟨K.2.1 _ _ A.1 q, A.2⟩, r⟩
theorem Arw.to {f' : Nat → Value} (F : Arw Z h a k ty n f) (q : ∀ i, i < n → f' i = f i) : Arw Z h a k ty n f' := by
  obtain ⟨c, A, h1, h2, h3, h4, h5⟩ := F
  exact ⟨c, A, h1, h2, h3, fun i hi => by rw [q i hi]; exact h4 i hi, fun i hi => by rw [q i hi]; exact h5 i hi⟩
theorem own_ne_arr {C : String} {kk : Nat} (F : Exa Z h a C) (wi : (Cond.instantiable C kk).before a0 Z = true) (G : Arw Z h b k ty n f) : a ≠ b := by
  obtain ⟨c, A, -⟩ := G
  exact ne_arr F wi A
theorem own_newP (X : Stand p l e R s m args below meth c T locs cells slots) (hx : p.tables.exec = Jvm.exec) (hZ : Z.Warmed39 s.vm) {aty : ArrayType} (w : (Cond.arrayClass (newarray.typeOf aty)).before a0 Z = true) (eT : T.heap = h) {g : JFrame} (hg : g.method = m)
    (hd : decode c.code g.pc = .ok (.newarray aty, 2)) {n : Int32} {rest : List Value} (hs : g.stack = .int n :: rest) {N : Nat} (hn : ¬ n < 0) (hN : n.toNatClampNeg = N) {cap : Nat} (hcap : N ≤ cap) (hb : cap * 8 ≤ 536870912) (hc : cells + 1 ≤ R.cells) (hl : slots + cap ≤ R.slots) :
    ∃ T' h' cA, Stand p l e R s m args below meth c T' locs (cells + 1) (slots + cap) ∧ T'.heap = h' ∧ Ext h h' ∧ Arw Z h' h.size cA (newarray.typeOf aty) N (fun _ => defaultValue (newarray.typeOf aty)) ∧
      ∀ target, Steps p.tables e below (T'.setTop { g with pc := g.pc + 2, stack := .ref h.size :: rest }) target → Steps p.tables e below (T.setTop g) target := by
  obtain ⟨T', h', cA, X', e', E', A', st⟩ := newP X hx hZ w eT hg hd hs hn (cap := cap) (by omega) hb hc hl
  refine ⟨T', h', cA, X', e', E', ⟨_, A', rfl, (sz_new _ _ _).trans hN, by omega, fun i hi => ?_, fun i hi => ?_⟩, st⟩
  · subst hN
    simp [newA, hi]
  · cases aty <;> rfl
theorem own_alen (X : Stand p l e R s m args below meth c T locs cells slots) (hx : p.tables.exec = Jvm.exec) (hZ : Z.Warmed39 s.vm) (eT : T.heap = h) (A : Arw Z h a k ty n f) {g : JFrame} (hg : g.method = m) {rest : List Value} (hs : g.stack = .ref a :: rest) (hd : decode c.code g.pc = .ok (.arraylength, 1)) :
    ∀ target, Steps p.tables e below (T.setTop { g with pc := g.pc + 1, stack := .int n.toInt32 :: rest }) target → Steps p.tables e below (T.setTop g) target := by
  obtain ⟨c, A, h1, h2, h3, h4, h5⟩ := A
  intro target kk
  refine X.arraylength hx (by rw [eT]; exact A.1) (State.isArrayOf_alike hZ.alike A.2.1) hg hs hd target ?_
  rw [h2]
  exact kk
theorem own_in {cl : Cell} {j : Int32} {i : Nat} (h2 : cl.slots.size = n) (hj : ¬ j < 0) (hji : j.toNatClampNeg = i) (hi : i < n) : ¬ (j < 0 ∨ cl.slots.size ≤ j.toNatClampNeg) := by
  rintro (q | q)
  · exact hj q
  · omega
theorem own_iaload (X : Stand p l e R s m args below meth c T locs cells slots) (hx : p.tables.exec = Jvm.exec) (hZ : Z.Warmed39 s.vm) (eT : T.heap = h) (A : Arw Z h a k .int n f) {j : Int32} {i : Nat} (hj : ¬ j < 0) (hji : j.toNatClampNeg = i) (hi : i < n) {v : Int32} (hv : f i = .int v)
    {g : JFrame} (hg : g.method = m) {rest : List Value} (hs : g.stack = .int j :: .ref a :: rest) (hd : decode c.code g.pc = .ok (.iaload, 1)) :
    ∀ target, Steps p.tables e below (T.setTop { g with pc := g.pc + 1, stack := .int v :: rest }) target → Steps p.tables e below (T.setTop g) target := by
  obtain ⟨cl, A, h1, h2, h3, h4, h5⟩ := A
  intro target kk
  exact X.iaload hx (by rw [eT]; exact A.1) (State.isArrayOf_alike hZ.alike A.2.1) A.2.2 (own_in h2 hj hji hi) (by rw [hji, h4 i hi, hv]) hg hs hd target kk
theorem own_laload (X : Stand p l e R s m args below meth c T locs cells slots) (hx : p.tables.exec = Jvm.exec) (hZ : Z.Warmed39 s.vm) (eT : T.heap = h) (A : Arw Z h a k .long n f) {j : Int32} {i : Nat} (hj : ¬ j < 0) (hji : j.toNatClampNeg = i) (hi : i < n) {v : Int64} (hv : f i = .long v)
    {g : JFrame} (hg : g.method = m) {rest : List Value} (hs : g.stack = .int j :: .ref a :: rest) (hd : decode c.code g.pc = .ok (.laload, 1)) :
    ∀ target, Steps p.tables e below (T.setTop { g with pc := g.pc + 1, stack := .long v :: rest }) target → Steps p.tables e below (T.setTop g) target := by
  obtain ⟨cl, A, h1, h2, h3, h4, h5⟩ := A
  intro target kk
  exact X.laload hx (by rw [eT]; exact A.1) (State.isArrayOf_alike hZ.alike A.2.1) A.2.2 (own_in h2 hj hji hi) (by rw [hji, h4 i hi, hv]) hg hs hd target kk
theorem own_aaload (X : Stand p l e R s m args below meth c T locs cells slots) (hx : p.tables.exec = Jvm.exec) (hZ : Z.Warmed39 s.vm) (eT : T.heap = h) (A : Arw Z h a k ty n f) (hty : ty.isReference = true) {j : Int32} {i : Nat} (hj : ¬ j < 0) (hji : j.toNatClampNeg = i) (hi : i < n) {v : Value} (hv : f i = v)
    {g : JFrame} (hg : g.method = m) {rest : List Value} (hs : g.stack = .int j :: .ref a :: rest) (hd : decode c.code g.pc = .ok (.aaload, 1)) :
    ∀ target, Steps p.tables e below (T.setTop { g with pc := g.pc + 1, stack := v :: rest }) target → Steps p.tables e below (T.setTop g) target := by
  obtain ⟨cl, A, h1, h2, h3, h4, h5⟩ := A
  intro target kk
  exact X.aaload hx (by rw [eT]; exact A.1) (State.isArrayOf_alike hZ.alike A.2.1) hty A.2.2 (own_in h2 hj hji hi) (by rw [hji, h4 i hi, hv]) hg hs hd target kk
theorem own_ix {j : Int32} {i : Nat} (h : j.toInt = i) : ¬ j < 0 ∧ j.toNatClampNeg = i := by
  constructor
  · intro q
    have q1 := Int32.lt_iff_toInt_lt.mp q
    have q3 : (0 : Int32).toInt = 0 := by decide
    omega
  · show j.toInt.toNat = i
    omega
theorem own_lti {x y : Int32} : x < y ↔ x.toInt < y.toInt := Int32.lt_iff_toInt_lt
theorem Arw.ofArv {z : Int32} {vs : List Value} {dv : Value} (F : Arv Z h a k ty z vs dv) (hn : z.toNatClampNeg = n) (q : ∀ i, i < n → vs.getD i dv = f i) : Arw Z h a k ty n f := by
  obtain ⟨c, A, h1, h2, h3, h4, h5⟩ := F
  have hb := (back32 h3).2
  refine ⟨c, A, h1, h2.trans hn, by omega, fun i hi => ?_, fun i hi => ?_⟩
  · rw [h4 i (by omega), q i hi]
  · rw [← q i hi]
    exact h5 i (by omega)
theorem own_set {cl : Cell} {j : Int32} {i : Nat} {v : Value} (A : Arr Z h a cl ty) (h1 : cl.cls = k) (h2 : cl.slots.size = n) (h3 : n < 2147483648) (h4 : ∀ i, i < n → cl.slots[i]? = some (f i)) (h5 : ∀ i, i < n → fits ty (f i) = true) (hv : fits ty v = true) (W : Wr h h' a j.toNatClampNeg v) (hji : j.toNatClampNeg = i) (hi : i < n) :
    Arw Z h' a k ty n (own_upd f i v) := by
  subst hji
  refine ⟨_, A.same W, h1, by rw [sz_set]; exact h2, h3, fun q hq => ?_, fun q hq => ?_⟩
  · by_cases e : q = j.toNatClampNeg
    · subst e
      rw [own_upd_same]
      simp [Cell.setSlot, h2, hq]
    · rw [own_upd_ne _ _ e, ← h4 q hq]
      simp [Cell.setSlot, Array.getElem?_setIfInBounds, Ne.symm e]
  · by_cases e : q = j.toNatClampNeg
    · subst e
      rw [own_upd_same]
      exact hv
    · rw [own_upd_ne _ _ e]
      exact h5 q hq
theorem own_iastore (X : Stand p l e R s m args below meth c T locs cells slots) (hx : p.tables.exec = Jvm.exec) (hZ : Z.Warmed39 s.vm) (eT : T.heap = h) (A : Arw Z h a k .int n f) {j : Int32} {i : Nat} (hj : ¬ j < 0) (hji : j.toNatClampNeg = i) (hi : i < n)
    {g : JFrame} (hg : g.method = m) {x : Int32} {rest : List Value} (hs : g.stack = .int x :: .int j :: .ref a :: rest) (hd : decode c.code g.pc = .ok (.iastore, 1)) :
    ∃ T' h', Stand p l e R s m args below meth c T' (locs ++ [⟨a, j.toNatClampNeg⟩]) cells slots ∧ T'.heap = h' ∧ Wr h h' a j.toNatClampNeg (.int x) ∧ Arw Z h' a k .int n (own_upd f i (.int x)) ∧
      ∀ target, Steps p.tables e below (T'.setTop { g with pc := g.pc + 1, stack := rest }) target → Steps p.tables e below (T.setTop g) target := by
  obtain ⟨cl, A, h1, h2, h3, h4, h5⟩ := A
  obtain ⟨T', h', X', e', W, st⟩ := stI X hx hZ eT A (j := j) (own_in h2 hj hji hi) hg hs hd
  exact ⟨T', h', X', e', W, own_set A h1 h2 h3 h4 h5 rfl W hji hi, st⟩
theorem own_lastore (X : Stand p l e R s m args below meth c T locs cells slots) (hx : p.tables.exec = Jvm.exec) (hZ : Z.Warmed39 s.vm) (eT : T.heap = h) (A : Arw Z h a k .long n f) {j : Int32} {i : Nat} (hj : ¬ j < 0) (hji : j.toNatClampNeg = i) (hi : i < n)
    {g : JFrame} (hg : g.method = m) {x : Int64} {rest : List Value} (hs : g.stack = .long x :: .int j :: .ref a :: rest) (hd : decode c.code g.pc = .ok (.lastore, 1)) :
    ∃ T' h', Stand p l e R s m args below meth c T' (locs ++ [⟨a, j.toNatClampNeg⟩]) cells slots ∧ T'.heap = h' ∧ Wr h h' a j.toNatClampNeg (.long x) ∧ Arw Z h' a k .long n (own_upd f i (.long x)) ∧
      ∀ target, Steps p.tables e below (T'.setTop { g with pc := g.pc + 1, stack := rest }) target → Steps p.tables e below (T.setTop g) target := by
  obtain ⟨cl, A, h1, h2, h3, h4, h5⟩ := A
  obtain ⟨T', h', X', e', W, st⟩ := stJ X hx hZ eT A (j := j) (own_in h2 hj hji hi) hg hs hd
  exact ⟨T', h', X', e', W, own_set A h1 h2 h3 h4 h5 rfl W hji hi, st⟩
theorem own_castore (X : Stand p l e R s m args below meth c T locs cells slots) (hx : p.tables.exec = Jvm.exec) (hZ : Z.Warmed39 s.vm) (eT : T.heap = h) (A : Arw Z h a k .char n f) {j : Int32} {i : Nat} (hj : ¬ j < 0) (hji : j.toNatClampNeg = i) (hi : i < n)
    {g : JFrame} (hg : g.method = m) {x : Int32} {rest : List Value} (hs : g.stack = .int x :: .int j :: .ref a :: rest) (hd : decode c.code g.pc = .ok (.castore, 1)) :
    ∃ T' h', Stand p l e R s m args below meth c T' (locs ++ [⟨a, j.toNatClampNeg⟩]) cells slots ∧ T'.heap = h' ∧ Wr h h' a j.toNatClampNeg (.int (nar .char x)) ∧ Arw Z h' a k .char n (own_upd f i (.int (nar .char x))) ∧
      ∀ target, Steps p.tables e below (T'.setTop { g with pc := g.pc + 1, stack := rest }) target → Steps p.tables e below (T.setTop g) target := by
  obtain ⟨cl, A, h1, h2, h3, h4, h5⟩ := A
  obtain ⟨T', h', X', e', W, st⟩ := stC X hx hZ eT A (j := j) (own_in h2 hj hji hi) hg hs hd
  exact ⟨T', h', X', e', W, own_set A h1 h2 h3 h4 h5 (fits_nar_char _) W hji hi, st⟩
theorem own_caload (X : Stand p l e R s m args below meth c T locs cells slots) (hx : p.tables.exec = Jvm.exec) (hZ : Z.Warmed39 s.vm) (eT : T.heap = h) (A : Arw Z h a k .char n f) {j : Int32} {i : Nat} (hj : ¬ j < 0) (hji : j.toNatClampNeg = i) (hi : i < n) {v : Int32} (hv : f i = .int v)
    {g : JFrame} (hg : g.method = m) {rest : List Value} (hs : g.stack = .int j :: .ref a :: rest) (hd : decode c.code g.pc = .ok (.caload, 1)) :
    ∀ target, Steps p.tables e below (T.setTop { g with pc := g.pc + 1, stack := .int v :: rest }) target → Steps p.tables e below (T.setTop g) target := by
  obtain ⟨cl, A, h1, h2, h3, h4, h5⟩ := A
  intro target kk
  exact X.caload hx (by rw [eT]; exact A.1) (State.isArrayOf_alike hZ.alike A.2.1) A.2.2 (own_in h2 hj hji hi) (by rw [hji, h4 i hi, hv]) hg hs hd target kk
theorem Arw.toArv {vs : List Value} {dv : Value} {z : Int32} (F : Arw Z h a k ty n f) (hz : z.toInt = (n : Int)) (q : ∀ i, i < n → vs.getD i dv = f i) : Arv Z h a k ty z vs dv := by
  obtain ⟨c, A, h1, h2, h3, h4, h5⟩ := F
  obtain ⟨z0, zn⟩ := own_ix hz
  exact ⟨c, A, h1, h2.trans zn.symm, z0, fun i hi => by rw [h4 i (by omega), q i (by omega)], fun i hi => by rw [q i (by omega)]; exact h5 i (by omega)⟩
end Arrays
def own_draw (a t : Int32) : Int32 := if a &&& (1 : Int32) = (0 : Int32) then (0 : Int32) else (((a.toUInt32 >>> ((1 : Int32) &&& 31).toUInt32).toInt32).toInt64 % (t.toInt64 + (1 : Int64))).toInt32
def own_a3 (u v w : Int32) : Nat → Value := fun i => if i = 0 then .int u else if i = 1 then .int v else .int w
def own_r (x y z : Int32) : Int32 := if z = (0 : Int32) then (if y = (0 : Int32) then (if x = (0 : Int32) then (0 : Int32) else (1 : Int32)) else (1 : Int32)) else (1 : Int32)
def own_e2 (z w : Int32) : Int32 := if z = (0 : Int32) then w else z - (1 : Int32)
def own_e1 (y z v : Int32) : Int32 := if z = (0 : Int32) then (if y = (0 : Int32) then v else y - (1 : Int32)) else y
def own_e0 (x y z u : Int32) : Int32 := if z = (0 : Int32) then (if y = (0 : Int32) then (if x = (0 : Int32) then u else x - (1 : Int32)) else x) else x
theorem own_t1 {t : Int32} (h : ¬ t < (0 : Int32)) : (t.toInt64 + (1 : Int64)).toInt = t.toInt + 1 := by
  have q1 := c_ladd t.toInt64 1
  have q2 := c_i2l t
  have q3 := rng32 t
  have q4 := rng64 (t.toInt64 + 1)
  have q5 : (1 : Int64).toInt = 1 := by decide
  omega
theorem own_nn {t : Int32} (h : ¬ t < (0 : Int32)) : 0 ≤ t.toInt := by
  have q3 : (0 : Int32).toInt = 0 := by decide
  have q : ¬ t.toInt < (0 : Int32).toInt := fun q => h (Int32.lt_iff_toInt_lt.mpr q)
  omega
theorem own_of_nn {t : Int32} (h : 0 ≤ t.toInt) : ¬ t < (0 : Int32) := by
  intro q
  have q3 : (0 : Int32).toInt = 0 := by decide
  have := Int32.lt_iff_toInt_lt.mp q
  omega
theorem own_t2 {t : Int32} (h : ¬ t < (0 : Int32)) : t.toInt64 + (1 : Int64) ≠ (0 : Int64) := by
  intro q
  have q1 := own_t1 h
  rw [q] at q1
  have q2 := own_nn h
  have q3 : (0 : Int64).toInt = 0 := by decide
  omega
theorem own_draw_nn (a : Int32) {t : Int32} (h : ¬ t < (0 : Int32)) : ¬ own_draw a t < (0 : Int32) := by
  unfold own_draw
  split
  · decide
  · have q1 := c_iushr a 1 1 (by decide) (by decide)
    have q2 := own_t1 h
    have q3 := own_nn h
    have q4 := c_i2l ((a.toUInt32 >>> ((1 : Int32) &&& 31).toUInt32).toInt32)
    have q5 := rng32 a
    generalize ((a.toUInt32 >>> ((1 : Int32) &&& 31).toUInt32).toInt32).toInt64 = x at q4 ⊢
    generalize ((a.toUInt32 >>> ((1 : Int32) &&& 31).toUInt32).toInt32) = x' at q1 q4
    have q6 := (c_lrem x (t.toInt64 + 1) (t.toInt + 1) q2).1 (by omega)
    rw [lrem_mod] at q6
    have q7 := c_l2i (x % (t.toInt64 + 1))
    apply own_of_nn
    have q8 : 0 ≤ x.toInt % (t.toInt + 1) := Int.emod_nonneg _ (by omega)
    have q9 : x.toInt % (t.toInt + 1) < t.toInt + 1 := Int.emod_lt_of_pos _ (by omega)
    have q11 := rng32 t
    have q10 := rng32 (x % (t.toInt64 + 1)).toInt32
    omega
theorem own_z {t : Int32} (h : ¬ t < (0 : Int32)) (h2 : ¬ (0 : Int32) < t) : t = (0 : Int32) := by
  have q := own_nn h
  have q2 : ¬ (0 : Int32).toInt < t.toInt := fun q => h2 (Int32.lt_iff_toInt_lt.mpr q)
  have q3 : (0 : Int32).toInt = 0 := by decide
  exact Int32.toInt_inj.mp (by omega)
theorem own_nz {t : Int32} (h : (0 : Int32) < t) : ¬ t = (0 : Int32) := by
  intro q
  subst q
  exact absurd h (by decide)
theorem own_lt3 {i : Nat} (h : i < 3) : i = 0 ∨ i = 1 ∨ i = 2 := by omega
theorem ef_rm1 (m : MethodId) (a : Int32) (t : Int32) : entryFrame m #[(.int a), (.int t)] 2 = mkF m 0 #[.val (.int a), .val (.int t)] [] := by first | (simp [entryFrame, mkF, argsToLocals, Value.category]; done) | rfl
def Qrm1 (Z : State) (a : Int32) (t : Int32) (h0 : Heap) (n0 : Nat) (v_ : Option Value) (h_ : Heap) (L_ : List Loc) : Prop := v_ = some (.int (own_draw a t)) ∧ Fr n0 L_ ∧ h_ = h0
theorem pn_com_example_earnest_nets_earnestnets_ChoicesCountDownPinLaw : plainName "com/example/earnest_nets/earnestnets/ChoicesCountDownPinLaw" = true := by first | (simp [plainName, overriddenIn]; done) | decide +kernel
theorem d1_0 : decode method_2_code 0 = .ok (.iload_n 0, 1) := by decide +kernel
theorem d1_1 : decode method_2_code 1 = .ok (.iconst 1, 1) := by decide +kernel
theorem d1_2 : decode method_2_code 2 = .ok (.iand, 1) := by decide +kernel
theorem d1_3 : decode method_2_code 3 = .ok (.ifCond .ne 5, 3) := by decide +kernel
theorem d1_6 : decode method_2_code 6 = .ok (.iconst 0, 1) := by decide +kernel
theorem d1_7 : decode method_2_code 7 = .ok (.ireturn, 1) := by decide +kernel
theorem d1_8 : decode method_2_code 8 = .ok (.iload_n 0, 1) := by decide +kernel
theorem d1_9 : decode method_2_code 9 = .ok (.iconst 1, 1) := by decide +kernel
theorem d1_10 : decode method_2_code 10 = .ok (.iushr, 1) := by decide +kernel
theorem d1_11 : decode method_2_code 11 = .ok (.i2l, 1) := by decide +kernel
theorem d1_12 : decode method_2_code 12 = .ok (.iload_n 1, 1) := by decide +kernel
theorem d1_13 : decode method_2_code 13 = .ok (.i2l, 1) := by decide +kernel
theorem d1_14 : decode method_2_code 14 = .ok (.lconst 1, 1) := by decide +kernel
theorem d1_15 : decode method_2_code 15 = .ok (.ladd, 1) := by decide +kernel
theorem d1_16 : decode method_2_code 16 = .ok (.lrem, 1) := by decide +kernel
theorem d1_17 : decode method_2_code 17 = .ok (.l2i, 1) := by decide +kernel
theorem d1_18 : decode method_2_code 18 = .ok (.ireturn, 1) := by decide +kernel
set_option maxRecDepth 65536 in
set_option maxHeartbeats 40000000 in
theorem rm1 (l : Launch) (Z : State) (a0 : Array Value) (hw : ∀ d ∈ tables_1, d.before a0 Z = true) (ws : List Jvm.Cond) (a : Int32) (t : Int32) (h0 : Heap) (n0 : Nat) (Z0 : n0 ≤ h0.size) (Ht : ¬ t < (0 : Int32)) :
    MetFree l (⟨"com/example/earnest_nets/earnestnets/ChoicesCountDownPinLaw", "draw", "(II)I"⟩ : MethodName) (head1 (Jvm.Cond.code (⟨"com/example/earnest_nets/earnestnets/ChoicesCountDownPinLaw", "draw", "(II)I"⟩ : MethodName) method_2_code 2 (some .int) :: ws) ({ frames := 0, cells := 0, slots := 0, locals := 0 } : Room)) (fun as_ U_ => as_ = #[(.int a), (.int t)] ∧ Z.Warmed39 U_.vm ∧ U_.heap = h0) (fun _ _ _ _ _ => True) (fun _ U_ o_ V_ => ∃ v_ L_, o_ = .returned v_ ∧ Qrm1 Z a t h0 n0 v_ V_.heap L_ ∧ FrameEnd U_ o_ V_ L_ ({ frames := 0, cells := 0, slots := 0, locals := 0 } : Room).cells ({ frames := 0, cells := 0, slots := 0, locals := 0 } : Room).slots) := by
  refine MetFree.of_bodySF (plainFor_of_name pn_com_example_earnest_nets_earnestnets_ChoicesCountDownPinLaw) hisR ?_
  intro p e s m args below meth c s₁ Bd hml0 hP hK
  obtain ⟨rfl, hZ, hh⟩ := hP
  have hx := Bd.exec
  have hby := Bd.bytes
  have hlk : meth.locks = false := BodyLoose.notSynchronized Bd
  have hret := Bd.returns
  have hml : c.maxLocals = 2 := hml0
  have hown : s.vm.findClass "com/example/earnest_nets/earnestnets/ChoicesCountDownPinLaw" = some m.cls := findClass_of_methodNamed Bd.named
  have hnm := (name_of_methodNamed Bd.named Bd.method).1
  have X0 : Stand p l e ({ frames := 0, cells := 0, slots := 0, locals := 0 } : Room) s m #[(.int a), (.int t)] below meth c s₁ [] 0 0 := Stand.of_body Bd
  have e0 : s₁.heap = h0 := by rw [← hh, Bd.state]; rfl
  have N0 := Fr.nil n0
  show Goes p e below (Fin_ s (Qrm1 Z a t h0 n0) ({ frames := 0, cells := 0, slots := 0, locals := 0 } : Room).cells ({ frames := 0, cells := 0, slots := 0, locals := 0 } : Room).slots) (s₁.setTop (entryFrame m #[(.int a), (.int t)] 2))
  rw [ef_rm1 m a t]
  refine Goes.via (fun _ kk_ => XS.iloadN X0.here hx rfl (hb hby d1_0) rfl  kk_) ?_
  show Goes p e below _ (s₁.setTop (mkF m 1 #[.val (.int a), .val (.int t)] [(.int a)]))
  refine Goes.via (fun _ kk_ => XS.iconst X0.here hx rfl (hb hby d1_1) kk_) ?_
  show Goes p e below _ (s₁.setTop (mkF m 2 #[.val (.int a), .val (.int t)] [(.int (1 : Int32)), (.int a)]))
  refine Goes.via (fun _ kk_ => XS.iand X0.here hx rfl (hb hby d1_2) rfl kk_) ?_
  show Goes p e below _ (s₁.setTop (mkF m 3 #[.val (.int a), .val (.int t)] [(.int (a &&& (1 : Int32)))]))
  by_cases hc3 : (a &&& (1 : Int32)) = (0 : Int32)
  · skip
    refine Goes.via (fun _ kk_ => XS.ifNo X0.here hx rfl (hb hby d1_3) rfl ((if0 _ _).trans (teq hc3).2) kk_) ?_
    show Goes p e below _ (s₁.setTop (mkF m 6 #[.val (.int a), .val (.int t)] []))
    refine Goes.via (fun _ kk_ => XS.iconst X0.here hx rfl (hb hby d1_6) kk_) ?_
    show Goes p e below _ (s₁.setTop (mkF m 7 #[.val (.int a), .val (.int t)] [(.int (0 : Int32))]))
    exact own_finI X0 hx hlk hret (hb hby d1_7) (by rw [e0]; exact ⟨(by rw [own_draw, if_pos hc3]), N0, rfl⟩) (by first | decide | omega) (by first | decide | omega)
  · skip
    refine Goes.via (fun _ kk_ => XS.ifYes X0.here hx rfl (pc0 := 3) (pc' := 8) rfl (hb hby d1_3) rfl ((if0 _ _).trans (feq hc3).2) (by decide) (by decide) kk_) ?_
    show Goes p e below _ (s₁.setTop (mkF m 8 #[.val (.int a), .val (.int t)] []))
    refine Goes.via (fun _ kk_ => XS.iloadN X0.here hx rfl (hb hby d1_8) rfl  kk_) ?_
    show Goes p e below _ (s₁.setTop (mkF m 9 #[.val (.int a), .val (.int t)] [(.int a)]))
    refine Goes.via (fun _ kk_ => XS.iconst X0.here hx rfl (hb hby d1_9) kk_) ?_
    show Goes p e below _ (s₁.setTop (mkF m 10 #[.val (.int a), .val (.int t)] [(.int (1 : Int32)), (.int a)]))
    refine Goes.via (fun _ kk_ => XS.iushr X0.here hx rfl (hb hby d1_10) rfl kk_) ?_
    show Goes p e below _ (s₁.setTop (mkF m 11 #[.val (.int a), .val (.int t)] [(.int ((a.toUInt32 >>> ((1 : Int32) &&& 31).toUInt32).toInt32))]))
    refine Goes.via (fun _ kk_ => XS.i2l X0.here hx rfl (hb hby d1_11) rfl kk_) ?_
    show Goes p e below _ (s₁.setTop (mkF m 12 #[.val (.int a), .val (.int t)] [(.long (((a.toUInt32 >>> ((1 : Int32) &&& 31).toUInt32).toInt32).toInt64))]))
    refine Goes.via (fun _ kk_ => XS.iloadN X0.here hx rfl (hb hby d1_12) rfl  kk_) ?_
    show Goes p e below _ (s₁.setTop (mkF m 13 #[.val (.int a), .val (.int t)] [(.int t), (.long (((a.toUInt32 >>> ((1 : Int32) &&& 31).toUInt32).toInt32).toInt64))]))
    refine Goes.via (fun _ kk_ => XS.i2l X0.here hx rfl (hb hby d1_13) rfl kk_) ?_
    show Goes p e below _ (s₁.setTop (mkF m 14 #[.val (.int a), .val (.int t)] [(.long (t.toInt64)), (.long (((a.toUInt32 >>> ((1 : Int32) &&& 31).toUInt32).toInt32).toInt64))]))
    refine Goes.via (fun _ kk_ => XS.lconst X0.here hx rfl (hb hby d1_14) kk_) ?_
    show Goes p e below _ (s₁.setTop (mkF m 15 #[.val (.int a), .val (.int t)] [(.long (1 : Int64)), (.long (t.toInt64)), (.long (((a.toUInt32 >>> ((1 : Int32) &&& 31).toUInt32).toInt32).toInt64))]))
    refine Goes.via (fun _ kk_ => XS.ladd X0.here hx rfl (hb hby d1_15) rfl kk_) ?_
    show Goes p e below _ (s₁.setTop (mkF m 16 #[.val (.int a), .val (.int t)] [(.long ((t.toInt64) + (1 : Int64))), (.long (((a.toUInt32 >>> ((1 : Int32) &&& 31).toUInt32).toInt32).toInt64))]))
    refine Goes.via (fun _ kk_ => XS.lrem X0.here hx rfl (hb hby d1_16) rfl (own_t2 Ht) kk_) ?_
    rw [lrem_mod]
    show Goes p e below _ (s₁.setTop (mkF m 17 #[.val (.int a), .val (.int t)] [(.long ((((a.toUInt32 >>> ((1 : Int32) &&& 31).toUInt32).toInt32).toInt64) % ((t.toInt64) + (1 : Int64))))]))
    refine Goes.via (fun _ kk_ => XS.l2i X0.here hx rfl (hb hby d1_17) rfl kk_) ?_
    show Goes p e below _ (s₁.setTop (mkF m 18 #[.val (.int a), .val (.int t)] [(.int (((((a.toUInt32 >>> ((1 : Int32) &&& 31).toUInt32).toInt32).toInt64) % ((t.toInt64) + (1 : Int64))).toInt32))]))
    exact own_finI X0 hx hlk hret (hb hby d1_18) (by rw [e0]; exact ⟨(by rw [own_draw, if_neg hc3]), N0, rfl⟩) (by first | decide | omega) (by first | decide | omega)
theorem ef_rm2 (m : MethodId) (a : Addr) (b : Addr) : entryFrame m #[(.ref a), (.ref b)] 3 = mkF m 0 #[.val (.ref a), .val (.ref b), .unset] [] := by first | (simp [entryFrame, mkF, argsToLocals, Value.category]; done) | rfl
def Qrm2 (Z : State) (a : Addr) (b : Addr) (ka : ClassId) (kb : ClassId) (x0 : Int32) (x1 : Int32) (x2 : Int32) (y0 : Int32) (y1 : Int32) (y2 : Int32) (h0 : Heap) (n0 : Nat) (v_ : Option Value) (h_ : Heap) (L_ : List Loc) : Prop := v_ = some (.int (own_r x0 x1 x2)) ∧ Fr n0 L_ ∧ Keep h0 h_ [a] ∧ Arw Z h_ a ka .int 3 (own_a3 (own_e0 x0 x1 x2 y0) (own_e1 x1 x2 y1) (own_e2 x2 y2))
theorem pn_com_example_earnest_nets_earnestnets_Choices : plainName "com/example/earnest_nets/earnestnets/Choices" = true := by first | (simp [plainName, overriddenIn]; done) | decide +kernel
theorem d2_0 : decode prog_2_method_2_code 0 = .ok (.aload_n 0, 1) := by decide +kernel
theorem d2_1 : decode prog_2_method_2_code 1 = .ok (.arraylength, 1) := by decide +kernel
theorem d2_2 : decode prog_2_method_2_code 2 = .ok (.iconst 1, 1) := by decide +kernel
theorem d2_3 : decode prog_2_method_2_code 3 = .ok (.isub, 1) := by decide +kernel
theorem d2_4 : decode prog_2_method_2_code 4 = .ok (.istore_n 2, 1) := by decide +kernel
theorem d2_5 : decode prog_2_method_2_code 5 = .ok (.iload_n 2, 1) := by decide +kernel
theorem d2_6 : decode prog_2_method_2_code 6 = .ok (.ifCond .lt 21, 3) := by decide +kernel
theorem d2_9 : decode prog_2_method_2_code 9 = .ok (.aload_n 0, 1) := by decide +kernel
theorem d2_10 : decode prog_2_method_2_code 10 = .ok (.iload_n 2, 1) := by decide +kernel
theorem d2_11 : decode prog_2_method_2_code 11 = .ok (.iaload, 1) := by decide +kernel
theorem d2_12 : decode prog_2_method_2_code 12 = .ok (.ifCond .ne 15, 3) := by decide +kernel
theorem d2_15 : decode prog_2_method_2_code 15 = .ok (.aload_n 0, 1) := by decide +kernel
theorem d2_16 : decode prog_2_method_2_code 16 = .ok (.iload_n 2, 1) := by decide +kernel
theorem d2_17 : decode prog_2_method_2_code 17 = .ok (.aload_n 1, 1) := by decide +kernel
theorem d2_18 : decode prog_2_method_2_code 18 = .ok (.iload_n 2, 1) := by decide +kernel
theorem d2_19 : decode prog_2_method_2_code 19 = .ok (.iaload, 1) := by decide +kernel
theorem d2_20 : decode prog_2_method_2_code 20 = .ok (.iastore, 1) := by decide +kernel
theorem d2_21 : decode prog_2_method_2_code 21 = .ok (.iinc 2 (-1), 3) := by decide +kernel
theorem d2_24 : decode prog_2_method_2_code 24 = .ok (.goto (-19), 3) := by decide +kernel
theorem d2_27 : decode prog_2_method_2_code 27 = .ok (.iload_n 2, 1) := by decide +kernel
theorem d2_28 : decode prog_2_method_2_code 28 = .ok (.ifCond .lt 10, 3) := by decide +kernel
theorem d2_38 : decode prog_2_method_2_code 38 = .ok (.iload_n 2, 1) := by decide +kernel
theorem d2_39 : decode prog_2_method_2_code 39 = .ok (.ifCond .lt 7, 3) := by decide +kernel
theorem d2_46 : decode prog_2_method_2_code 46 = .ok (.iconst 0, 1) := by decide +kernel
theorem d2_47 : decode prog_2_method_2_code 47 = .ok (.ireturn, 1) := by decide +kernel
theorem d2_31 : decode prog_2_method_2_code 31 = .ok (.aload_n 0, 1) := by decide +kernel
theorem d2_32 : decode prog_2_method_2_code 32 = .ok (.iload_n 2, 1) := by decide +kernel
theorem d2_33 : decode prog_2_method_2_code 33 = .ok (.dup2, 1) := by decide +kernel
theorem d2_34 : decode prog_2_method_2_code 34 = .ok (.iaload, 1) := by decide +kernel
theorem d2_35 : decode prog_2_method_2_code 35 = .ok (.iconst 1, 1) := by decide +kernel
theorem d2_36 : decode prog_2_method_2_code 36 = .ok (.isub, 1) := by decide +kernel
theorem d2_37 : decode prog_2_method_2_code 37 = .ok (.iastore, 1) := by decide +kernel
theorem d2_42 : decode prog_2_method_2_code 42 = .ok (.iconst 1, 1) := by decide +kernel
theorem d2_43 : decode prog_2_method_2_code 43 = .ok (.goto 4, 3) := by decide +kernel
set_option maxRecDepth 65536 in
set_option maxHeartbeats 40000000 in
theorem rm2 (l : Launch) (Z : State) (a0 : Array Value) (hw : ∀ d ∈ tables_1, d.before a0 Z = true) (ws : List Jvm.Cond) (a : Addr) (b : Addr) (ka : ClassId) (kb : ClassId) (x0 : Int32) (x1 : Int32) (x2 : Int32) (y0 : Int32) (y1 : Int32) (y2 : Int32) (h0 : Heap) (n0 : Nat) (Z0 : n0 ≤ h0.size) (A0_a : Arw Z h0 a ka .int 3 (own_a3 x0 x1 x2)) (A1_b : Arw Z h0 b kb .int 3 (own_a3 y0 y1 y2)) (Hne : a ≠ b) (Hg : n0 ≤ a) :
    MetFree l (⟨"com/example/earnest_nets/earnestnets/Choices", "countDown", "([I[I)Z"⟩ : MethodName) (head1 (Jvm.Cond.code (⟨"com/example/earnest_nets/earnestnets/Choices", "countDown", "([I[I)Z"⟩ : MethodName) prog_2_method_2_code 3 (some .boolean) :: ws) ({ frames := 0, cells := 0, slots := 0, locals := 0 } : Room)) (fun as_ U_ => as_ = #[(.ref a), (.ref b)] ∧ Z.Warmed39 U_.vm ∧ U_.heap = h0) (fun _ _ _ _ _ => True) (fun _ U_ o_ V_ => ∃ v_ L_, o_ = .returned v_ ∧ Qrm2 Z a b ka kb x0 x1 x2 y0 y1 y2 h0 n0 v_ V_.heap L_ ∧ FrameEnd U_ o_ V_ L_ ({ frames := 0, cells := 0, slots := 0, locals := 0 } : Room).cells ({ frames := 0, cells := 0, slots := 0, locals := 0 } : Room).slots) := by
  refine MetFree.of_bodySF (plainFor_of_name pn_com_example_earnest_nets_earnestnets_Choices) hisR ?_
  intro p e s m args below meth c s₁ Bd hml0 hP hK
  obtain ⟨rfl, hZ, hh⟩ := hP
  have hx := Bd.exec
  have hby := Bd.bytes
  have hlk : meth.locks = false := BodyLoose.notSynchronized Bd
  have hret := Bd.returns
  have hml : c.maxLocals = 3 := hml0
  have hown : s.vm.findClass "com/example/earnest_nets/earnestnets/Choices" = some m.cls := findClass_of_methodNamed Bd.named
  have hnm := (name_of_methodNamed Bd.named Bd.method).1
  have X0 : Stand p l e ({ frames := 0, cells := 0, slots := 0, locals := 0 } : Room) s m #[(.ref a), (.ref b)] below meth c s₁ [] 0 0 := Stand.of_body Bd
  have e0 : s₁.heap = h0 := by rw [← hh, Bd.state]; rfl
  have N0 := Fr.nil n0
  show Goes p e below (Fin_ s (Qrm2 Z a b ka kb x0 x1 x2 y0 y1 y2 h0 n0) ({ frames := 0, cells := 0, slots := 0, locals := 0 } : Room).cells ({ frames := 0, cells := 0, slots := 0, locals := 0 } : Room).slots) (s₁.setTop (entryFrame m #[(.ref a), (.ref b)] 3))
  rw [ef_rm2 m a b]
  refine Goes.via (fun _ kk_ => XS.aloadN X0.here hx rfl (hb hby d2_0) rfl rfl  kk_) ?_
  show Goes p e below _ (s₁.setTop (mkF m 1 #[.val (.ref a), .val (.ref b), .unset] [(.ref a)]))
  refine Goes.via (own_alen X0 hx hZ e0 A0_a (g := (mkF m 1 #[.val (.ref a), .val (.ref b), .unset] [(.ref a)])) rfl rfl (hb hby d2_1)) ?_
  show Goes p e below _ (s₁.setTop (mkF m 2 #[.val (.ref a), .val (.ref b), .unset] [(.int (3 : Int32))]))
  refine Goes.via (fun _ kk_ => XS.iconst X0.here hx rfl (hb hby d2_2) kk_) ?_
  show Goes p e below _ (s₁.setTop (mkF m 3 #[.val (.ref a), .val (.ref b), .unset] [(.int (1 : Int32)), (.int (3 : Int32))]))
  refine Goes.via (fun _ kk_ => XS.isub X0.here hx rfl (hb hby d2_3) rfl kk_) ?_
  show Goes p e below _ (s₁.setTop (mkF m 4 #[.val (.ref a), .val (.ref b), .unset] [(.int ((3 : Int32) - (1 : Int32)))]))
  rw [show ((3 : Int32) - (1 : Int32)) = (2 : Int32) from by decide]
  show Goes p e below _ (s₁.setTop (mkF m 4 #[.val (.ref a), .val (.ref b), .unset] [(.int (2 : Int32))]))
  refine Goes.via (fun _ kk_ => XS.istoreN X0.here hx rfl (hb hby d2_4) rfl (l' := #[.val (.ref a), .val (.ref b), .val (.int (2 : Int32))]) rfl kk_) ?_
  show Goes p e below _ (s₁.setTop (mkF m 5 #[.val (.ref a), .val (.ref b), .val (.int (2 : Int32))] []))
  refine Goes.via (fun _ kk_ => XS.iloadN X0.here hx rfl (hb hby d2_5) rfl  kk_) ?_
  show Goes p e below _ (s₁.setTop (mkF m 6 #[.val (.ref a), .val (.ref b), .val (.int (2 : Int32))] [(.int (2 : Int32))]))
  have hc6_1 : ¬ ((2 : Int32) < (0 : Int32)) := (by decide)
  refine Goes.via (fun _ kk_ => XS.ifNo X0.here hx rfl (hb hby d2_6) rfl ((if0 _ _).trans (flt hc6_1).1) kk_) ?_
  show Goes p e below _ (s₁.setTop (mkF m 9 #[.val (.ref a), .val (.ref b), .val (.int (2 : Int32))] []))
  refine Goes.via (fun _ kk_ => XS.aloadN X0.here hx rfl (hb hby d2_9) rfl rfl  kk_) ?_
  show Goes p e below _ (s₁.setTop (mkF m 10 #[.val (.ref a), .val (.ref b), .val (.int (2 : Int32))] [(.ref a)]))
  refine Goes.via (fun _ kk_ => XS.iloadN X0.here hx rfl (hb hby d2_10) rfl  kk_) ?_
  show Goes p e below _ (s₁.setTop (mkF m 11 #[.val (.ref a), .val (.ref b), .val (.int (2 : Int32))] [(.int (2 : Int32)), (.ref a)]))
  refine Goes.via (own_iaload X0 hx hZ e0 A0_a (j := (2 : Int32)) (i := 2) (by decide) (by decide) (by decide) (v := x2) (by simp [own_upd, own_a3]) (g := (mkF m 11 #[.val (.ref a), .val (.ref b), .val (.int (2 : Int32))] [(.int (2 : Int32)), (.ref a)])) rfl rfl (hb hby d2_11)) ?_
  show Goes p e below _ (s₁.setTop (mkF m 12 #[.val (.ref a), .val (.ref b), .val (.int (2 : Int32))] [(.int x2)]))
  by_cases hc12 : x2 = (0 : Int32)
  · skip
    refine Goes.via (fun _ kk_ => XS.ifNo X0.here hx rfl (hb hby d2_12) rfl ((if0 _ _).trans (teq hc12).2) kk_) ?_
    show Goes p e below _ (s₁.setTop (mkF m 15 #[.val (.ref a), .val (.ref b), .val (.int (2 : Int32))] []))
    refine Goes.via (fun _ kk_ => XS.aloadN X0.here hx rfl (hb hby d2_15) rfl rfl  kk_) ?_
    show Goes p e below _ (s₁.setTop (mkF m 16 #[.val (.ref a), .val (.ref b), .val (.int (2 : Int32))] [(.ref a)]))
    refine Goes.via (fun _ kk_ => XS.iloadN X0.here hx rfl (hb hby d2_16) rfl  kk_) ?_
    show Goes p e below _ (s₁.setTop (mkF m 17 #[.val (.ref a), .val (.ref b), .val (.int (2 : Int32))] [(.int (2 : Int32)), (.ref a)]))
    refine Goes.via (fun _ kk_ => XS.aloadN X0.here hx rfl (hb hby d2_17) rfl rfl  kk_) ?_
    show Goes p e below _ (s₁.setTop (mkF m 18 #[.val (.ref a), .val (.ref b), .val (.int (2 : Int32))] [(.ref b), (.int (2 : Int32)), (.ref a)]))
    refine Goes.via (fun _ kk_ => XS.iloadN X0.here hx rfl (hb hby d2_18) rfl  kk_) ?_
    show Goes p e below _ (s₁.setTop (mkF m 19 #[.val (.ref a), .val (.ref b), .val (.int (2 : Int32))] [(.int (2 : Int32)), (.ref b), (.int (2 : Int32)), (.ref a)]))
    refine Goes.via (own_iaload X0 hx hZ e0 A1_b (j := (2 : Int32)) (i := 2) (by decide) (by decide) (by decide) (v := y2) (by simp [own_upd, own_a3]) (g := (mkF m 19 #[.val (.ref a), .val (.ref b), .val (.int (2 : Int32))] [(.int (2 : Int32)), (.ref b), (.int (2 : Int32)), (.ref a)])) rfl rfl (hb hby d2_19)) ?_
    show Goes p e below _ (s₁.setTop (mkF m 20 #[.val (.ref a), .val (.ref b), .val (.int (2 : Int32))] [(.int y2), (.int (2 : Int32)), (.ref a)]))
    obtain ⟨T2, h2, X2, e2, W2, A2, st2⟩ := own_iastore X0 hx hZ e0 A0_a (j := (2 : Int32)) (i := 2) (by decide) (by decide) (by decide) (g := (mkF m 20 #[.val (.ref a), .val (.ref b), .val (.int (2 : Int32))] [(.int y2), (.int (2 : Int32)), (.ref a)])) rfl rfl (hb hby d2_20)
    refine Goes.via st2 ?_
    have N2 := Fr.snoc X2 N0 Hg
    show Goes p e below _ (T2.setTop (mkF m 21 #[.val (.ref a), .val (.ref b), .val (.int (2 : Int32))] []))
    refine Goes.via (fun _ kk_ => XS.iinc X2.here hx rfl (hb hby d2_21) rfl (l' := #[.val (.ref a), .val (.ref b), .val (.int ((2 : Int32) + (-1 : Int32)))]) rfl kk_) ?_
    show Goes p e below _ (T2.setTop (mkF m 24 #[.val (.ref a), .val (.ref b), .val (.int ((2 : Int32) + (-1 : Int32)))] []))
    rw [show ((2 : Int32) + (-1 : Int32)) = (1 : Int32) from by decide]
    show Goes p e below _ (T2.setTop (mkF m 24 #[.val (.ref a), .val (.ref b), .val (.int (1 : Int32))] []))
    refine Goes.via (fun _ kk_ => XS.goto X2.here hx rfl (pc0 := 24) (pc' := 5) rfl (hb hby d2_24) (by decide) (by decide) kk_) ?_
    show Goes p e below _ (T2.setTop (mkF m 5 #[.val (.ref a), .val (.ref b), .val (.int (1 : Int32))] []))
    refine Goes.via (fun _ kk_ => XS.iloadN X2.here hx rfl (hb hby d2_5) rfl  kk_) ?_
    show Goes p e below _ (T2.setTop (mkF m 6 #[.val (.ref a), .val (.ref b), .val (.int (1 : Int32))] [(.int (1 : Int32))]))
    have hc6_3 : ¬ ((1 : Int32) < (0 : Int32)) := (by decide)
    refine Goes.via (fun _ kk_ => XS.ifNo X2.here hx rfl (hb hby d2_6) rfl ((if0 _ _).trans (flt hc6_3).1) kk_) ?_
    show Goes p e below _ (T2.setTop (mkF m 9 #[.val (.ref a), .val (.ref b), .val (.int (1 : Int32))] []))
    refine Goes.via (fun _ kk_ => XS.aloadN X2.here hx rfl (hb hby d2_9) rfl rfl  kk_) ?_
    show Goes p e below _ (T2.setTop (mkF m 10 #[.val (.ref a), .val (.ref b), .val (.int (1 : Int32))] [(.ref a)]))
    refine Goes.via (fun _ kk_ => XS.iloadN X2.here hx rfl (hb hby d2_10) rfl  kk_) ?_
    show Goes p e below _ (T2.setTop (mkF m 11 #[.val (.ref a), .val (.ref b), .val (.int (1 : Int32))] [(.int (1 : Int32)), (.ref a)]))
    refine Goes.via (own_iaload X2 hx hZ e2 A2 (j := (1 : Int32)) (i := 1) (by decide) (by decide) (by decide) (v := x1) (by simp [own_upd, own_a3]) (g := (mkF m 11 #[.val (.ref a), .val (.ref b), .val (.int (1 : Int32))] [(.int (1 : Int32)), (.ref a)])) rfl rfl (hb hby d2_11)) ?_
    show Goes p e below _ (T2.setTop (mkF m 12 #[.val (.ref a), .val (.ref b), .val (.int (1 : Int32))] [(.int x1)]))
    by_cases hc12_2 : x1 = (0 : Int32)
    · skip
      refine Goes.via (fun _ kk_ => XS.ifNo X2.here hx rfl (hb hby d2_12) rfl ((if0 _ _).trans (teq hc12_2).2) kk_) ?_
      show Goes p e below _ (T2.setTop (mkF m 15 #[.val (.ref a), .val (.ref b), .val (.int (1 : Int32))] []))
      refine Goes.via (fun _ kk_ => XS.aloadN X2.here hx rfl (hb hby d2_15) rfl rfl  kk_) ?_
      show Goes p e below _ (T2.setTop (mkF m 16 #[.val (.ref a), .val (.ref b), .val (.int (1 : Int32))] [(.ref a)]))
      refine Goes.via (fun _ kk_ => XS.iloadN X2.here hx rfl (hb hby d2_16) rfl  kk_) ?_
      show Goes p e below _ (T2.setTop (mkF m 17 #[.val (.ref a), .val (.ref b), .val (.int (1 : Int32))] [(.int (1 : Int32)), (.ref a)]))
      refine Goes.via (fun _ kk_ => XS.aloadN X2.here hx rfl (hb hby d2_17) rfl rfl  kk_) ?_
      show Goes p e below _ (T2.setTop (mkF m 18 #[.val (.ref a), .val (.ref b), .val (.int (1 : Int32))] [(.ref b), (.int (1 : Int32)), (.ref a)]))
      refine Goes.via (fun _ kk_ => XS.iloadN X2.here hx rfl (hb hby d2_18) rfl  kk_) ?_
      show Goes p e below _ (T2.setTop (mkF m 19 #[.val (.ref a), .val (.ref b), .val (.int (1 : Int32))] [(.int (1 : Int32)), (.ref b), (.int (1 : Int32)), (.ref a)]))
      have f4 : Arw Z h2 b kb .int 3 (own_a3 y0 y1 y2) := (A1_b.other W2 (Ne.symm Hne))
      refine Goes.via (own_iaload X2 hx hZ e2 f4 (j := (1 : Int32)) (i := 1) (by decide) (by decide) (by decide) (v := y1) (by simp [own_upd, own_a3]) (g := (mkF m 19 #[.val (.ref a), .val (.ref b), .val (.int (1 : Int32))] [(.int (1 : Int32)), (.ref b), (.int (1 : Int32)), (.ref a)])) rfl rfl (hb hby d2_19)) ?_
      show Goes p e below _ (T2.setTop (mkF m 20 #[.val (.ref a), .val (.ref b), .val (.int (1 : Int32))] [(.int y1), (.int (1 : Int32)), (.ref a)]))
      obtain ⟨T5, h5, X5, e5, W5, A5, st5⟩ := own_iastore X2 hx hZ e2 A2 (j := (1 : Int32)) (i := 1) (by decide) (by decide) (by decide) (g := (mkF m 20 #[.val (.ref a), .val (.ref b), .val (.int (1 : Int32))] [(.int y1), (.int (1 : Int32)), (.ref a)])) rfl rfl (hb hby d2_20)
      refine Goes.via st5 ?_
      have N5 := Fr.snoc X5 N2 Hg
      show Goes p e below _ (T5.setTop (mkF m 21 #[.val (.ref a), .val (.ref b), .val (.int (1 : Int32))] []))
      refine Goes.via (fun _ kk_ => XS.iinc X5.here hx rfl (hb hby d2_21) rfl (l' := #[.val (.ref a), .val (.ref b), .val (.int ((1 : Int32) + (-1 : Int32)))]) rfl kk_) ?_
      show Goes p e below _ (T5.setTop (mkF m 24 #[.val (.ref a), .val (.ref b), .val (.int ((1 : Int32) + (-1 : Int32)))] []))
      rw [show ((1 : Int32) + (-1 : Int32)) = (0 : Int32) from by decide]
      show Goes p e below _ (T5.setTop (mkF m 24 #[.val (.ref a), .val (.ref b), .val (.int (0 : Int32))] []))
      refine Goes.via (fun _ kk_ => XS.goto X5.here hx rfl (pc0 := 24) (pc' := 5) rfl (hb hby d2_24) (by decide) (by decide) kk_) ?_
      show Goes p e below _ (T5.setTop (mkF m 5 #[.val (.ref a), .val (.ref b), .val (.int (0 : Int32))] []))
      refine Goes.via (fun _ kk_ => XS.iloadN X5.here hx rfl (hb hby d2_5) rfl  kk_) ?_
      show Goes p e below _ (T5.setTop (mkF m 6 #[.val (.ref a), .val (.ref b), .val (.int (0 : Int32))] [(.int (0 : Int32))]))
      have hc6_6 : ¬ ((0 : Int32) < (0 : Int32)) := (by decide)
      refine Goes.via (fun _ kk_ => XS.ifNo X5.here hx rfl (hb hby d2_6) rfl ((if0 _ _).trans (flt hc6_6).1) kk_) ?_
      show Goes p e below _ (T5.setTop (mkF m 9 #[.val (.ref a), .val (.ref b), .val (.int (0 : Int32))] []))
      refine Goes.via (fun _ kk_ => XS.aloadN X5.here hx rfl (hb hby d2_9) rfl rfl  kk_) ?_
      show Goes p e below _ (T5.setTop (mkF m 10 #[.val (.ref a), .val (.ref b), .val (.int (0 : Int32))] [(.ref a)]))
      refine Goes.via (fun _ kk_ => XS.iloadN X5.here hx rfl (hb hby d2_10) rfl  kk_) ?_
      show Goes p e below _ (T5.setTop (mkF m 11 #[.val (.ref a), .val (.ref b), .val (.int (0 : Int32))] [(.int (0 : Int32)), (.ref a)]))
      refine Goes.via (own_iaload X5 hx hZ e5 A5 (j := (0 : Int32)) (i := 0) (by decide) (by decide) (by decide) (v := x0) (by simp [own_upd, own_a3]) (g := (mkF m 11 #[.val (.ref a), .val (.ref b), .val (.int (0 : Int32))] [(.int (0 : Int32)), (.ref a)])) rfl rfl (hb hby d2_11)) ?_
      show Goes p e below _ (T5.setTop (mkF m 12 #[.val (.ref a), .val (.ref b), .val (.int (0 : Int32))] [(.int x0)]))
      by_cases hc12_3 : x0 = (0 : Int32)
      · skip
        refine Goes.via (fun _ kk_ => XS.ifNo X5.here hx rfl (hb hby d2_12) rfl ((if0 _ _).trans (teq hc12_3).2) kk_) ?_
        show Goes p e below _ (T5.setTop (mkF m 15 #[.val (.ref a), .val (.ref b), .val (.int (0 : Int32))] []))
        refine Goes.via (fun _ kk_ => XS.aloadN X5.here hx rfl (hb hby d2_15) rfl rfl  kk_) ?_
        show Goes p e below _ (T5.setTop (mkF m 16 #[.val (.ref a), .val (.ref b), .val (.int (0 : Int32))] [(.ref a)]))
        refine Goes.via (fun _ kk_ => XS.iloadN X5.here hx rfl (hb hby d2_16) rfl  kk_) ?_
        show Goes p e below _ (T5.setTop (mkF m 17 #[.val (.ref a), .val (.ref b), .val (.int (0 : Int32))] [(.int (0 : Int32)), (.ref a)]))
        refine Goes.via (fun _ kk_ => XS.aloadN X5.here hx rfl (hb hby d2_17) rfl rfl  kk_) ?_
        show Goes p e below _ (T5.setTop (mkF m 18 #[.val (.ref a), .val (.ref b), .val (.int (0 : Int32))] [(.ref b), (.int (0 : Int32)), (.ref a)]))
        refine Goes.via (fun _ kk_ => XS.iloadN X5.here hx rfl (hb hby d2_18) rfl  kk_) ?_
        show Goes p e below _ (T5.setTop (mkF m 19 #[.val (.ref a), .val (.ref b), .val (.int (0 : Int32))] [(.int (0 : Int32)), (.ref b), (.int (0 : Int32)), (.ref a)]))
        have f7 : Arw Z h5 b kb .int 3 (own_a3 y0 y1 y2) := (f4.other W5 (Ne.symm Hne))
        refine Goes.via (own_iaload X5 hx hZ e5 f7 (j := (0 : Int32)) (i := 0) (by decide) (by decide) (by decide) (v := y0) (by simp [own_upd, own_a3]) (g := (mkF m 19 #[.val (.ref a), .val (.ref b), .val (.int (0 : Int32))] [(.int (0 : Int32)), (.ref b), (.int (0 : Int32)), (.ref a)])) rfl rfl (hb hby d2_19)) ?_
        show Goes p e below _ (T5.setTop (mkF m 20 #[.val (.ref a), .val (.ref b), .val (.int (0 : Int32))] [(.int y0), (.int (0 : Int32)), (.ref a)]))
        obtain ⟨T8, h8, X8, e8, W8, A8, st8⟩ := own_iastore X5 hx hZ e5 A5 (j := (0 : Int32)) (i := 0) (by decide) (by decide) (by decide) (g := (mkF m 20 #[.val (.ref a), .val (.ref b), .val (.int (0 : Int32))] [(.int y0), (.int (0 : Int32)), (.ref a)])) rfl rfl (hb hby d2_20)
        refine Goes.via st8 ?_
        have N8 := Fr.snoc X8 N5 Hg
        show Goes p e below _ (T8.setTop (mkF m 21 #[.val (.ref a), .val (.ref b), .val (.int (0 : Int32))] []))
        refine Goes.via (fun _ kk_ => XS.iinc X8.here hx rfl (hb hby d2_21) rfl (l' := #[.val (.ref a), .val (.ref b), .val (.int ((0 : Int32) + (-1 : Int32)))]) rfl kk_) ?_
        show Goes p e below _ (T8.setTop (mkF m 24 #[.val (.ref a), .val (.ref b), .val (.int ((0 : Int32) + (-1 : Int32)))] []))
        rw [show ((0 : Int32) + (-1 : Int32)) = (-1 : Int32) from by decide]
        show Goes p e below _ (T8.setTop (mkF m 24 #[.val (.ref a), .val (.ref b), .val (.int (-1 : Int32))] []))
        refine Goes.via (fun _ kk_ => XS.goto X8.here hx rfl (pc0 := 24) (pc' := 5) rfl (hb hby d2_24) (by decide) (by decide) kk_) ?_
        show Goes p e below _ (T8.setTop (mkF m 5 #[.val (.ref a), .val (.ref b), .val (.int (-1 : Int32))] []))
        refine Goes.via (fun _ kk_ => XS.iloadN X8.here hx rfl (hb hby d2_5) rfl  kk_) ?_
        show Goes p e below _ (T8.setTop (mkF m 6 #[.val (.ref a), .val (.ref b), .val (.int (-1 : Int32))] [(.int (-1 : Int32))]))
        have hc6_9 : (-1 : Int32) < (0 : Int32) := (by decide)
        refine Goes.via (fun _ kk_ => XS.ifYes X8.here hx rfl (pc0 := 6) (pc' := 27) rfl (hb hby d2_6) rfl ((if0 _ _).trans (tlt hc6_9).1) (by decide) (by decide) kk_) ?_
        show Goes p e below _ (T8.setTop (mkF m 27 #[.val (.ref a), .val (.ref b), .val (.int (-1 : Int32))] []))
        refine Goes.via (fun _ kk_ => XS.iloadN X8.here hx rfl (hb hby d2_27) rfl  kk_) ?_
        show Goes p e below _ (T8.setTop (mkF m 28 #[.val (.ref a), .val (.ref b), .val (.int (-1 : Int32))] [(.int (-1 : Int32))]))
        have hc28_10 : (-1 : Int32) < (0 : Int32) := (by decide)
        refine Goes.via (fun _ kk_ => XS.ifYes X8.here hx rfl (pc0 := 28) (pc' := 38) rfl (hb hby d2_28) rfl ((if0 _ _).trans (tlt hc28_10).1) (by decide) (by decide) kk_) ?_
        show Goes p e below _ (T8.setTop (mkF m 38 #[.val (.ref a), .val (.ref b), .val (.int (-1 : Int32))] []))
        refine Goes.via (fun _ kk_ => XS.iloadN X8.here hx rfl (hb hby d2_38) rfl  kk_) ?_
        show Goes p e below _ (T8.setTop (mkF m 39 #[.val (.ref a), .val (.ref b), .val (.int (-1 : Int32))] [(.int (-1 : Int32))]))
        have hc39_11 : (-1 : Int32) < (0 : Int32) := (by decide)
        refine Goes.via (fun _ kk_ => XS.ifYes X8.here hx rfl (pc0 := 39) (pc' := 46) rfl (hb hby d2_39) rfl ((if0 _ _).trans (tlt hc39_11).1) (by decide) (by decide) kk_) ?_
        show Goes p e below _ (T8.setTop (mkF m 46 #[.val (.ref a), .val (.ref b), .val (.int (-1 : Int32))] []))
        refine Goes.via (fun _ kk_ => XS.iconst X8.here hx rfl (hb hby d2_46) kk_) ?_
        show Goes p e below _ (T8.setTop (mkF m 47 #[.val (.ref a), .val (.ref b), .val (.int (-1 : Int32))] [(.int (0 : Int32))]))
        have Af : Arw Z h8 a ka .int 3 (own_a3 (own_e0 x0 x1 x2 y0) (own_e1 x1 x2 y1) (own_e2 x2 y2)) := A8.to (fun i hi => by rcases own_lt3 hi with rfl | rfl | rfl <;> simp [own_upd, own_a3, own_e0, own_e1, own_e2, hc12, hc12_2, hc12_3])
        have K12 : Keep h0 h8 [a] := ((((Keep.refl h0 [a]).wr W2 (Or.inl (List.mem_of_getElem? (i := 0) rfl))).wr W5 (Or.inl (List.mem_of_getElem? (i := 0) rfl))).wr W8 (Or.inl (List.mem_of_getElem? (i := 0) rfl)))
        exact own_finN X8 hx hlk hret (by simp) (hb hby d2_47) (by rw [e8]; exact ⟨(by simp [own_r, nar, hc12, hc12_2, hc12_3]), N8, K12, Af⟩) (by first | decide | omega) (by first | decide | omega)
      · skip
        refine Goes.via (fun _ kk_ => XS.ifYes X5.here hx rfl (pc0 := 12) (pc' := 27) rfl (hb hby d2_12) rfl ((if0 _ _).trans (feq hc12_3).2) (by decide) (by decide) kk_) ?_
        show Goes p e below _ (T5.setTop (mkF m 27 #[.val (.ref a), .val (.ref b), .val (.int (0 : Int32))] []))
        refine Goes.via (fun _ kk_ => XS.iloadN X5.here hx rfl (hb hby d2_27) rfl  kk_) ?_
        show Goes p e below _ (T5.setTop (mkF m 28 #[.val (.ref a), .val (.ref b), .val (.int (0 : Int32))] [(.int (0 : Int32))]))
        have hc28_13 : ¬ ((0 : Int32) < (0 : Int32)) := (by decide)
        refine Goes.via (fun _ kk_ => XS.ifNo X5.here hx rfl (hb hby d2_28) rfl ((if0 _ _).trans (flt hc28_13).1) kk_) ?_
        show Goes p e below _ (T5.setTop (mkF m 31 #[.val (.ref a), .val (.ref b), .val (.int (0 : Int32))] []))
        refine Goes.via (fun _ kk_ => XS.aloadN X5.here hx rfl (hb hby d2_31) rfl rfl  kk_) ?_
        show Goes p e below _ (T5.setTop (mkF m 32 #[.val (.ref a), .val (.ref b), .val (.int (0 : Int32))] [(.ref a)]))
        refine Goes.via (fun _ kk_ => XS.iloadN X5.here hx rfl (hb hby d2_32) rfl  kk_) ?_
        show Goes p e below _ (T5.setTop (mkF m 33 #[.val (.ref a), .val (.ref b), .val (.int (0 : Int32))] [(.int (0 : Int32)), (.ref a)]))
        refine Goes.via (fun _ kk_ => XT.dup2 X5.here hx rfl (hb hby d2_33) rfl rfl rfl kk_) ?_
        show Goes p e below _ (T5.setTop (mkF m 34 #[.val (.ref a), .val (.ref b), .val (.int (0 : Int32))] [(.int (0 : Int32)), (.ref a), (.int (0 : Int32)), (.ref a)]))
        refine Goes.via (own_iaload X5 hx hZ e5 A5 (j := (0 : Int32)) (i := 0) (by decide) (by decide) (by decide) (v := x0) (by simp [own_upd, own_a3]) (g := (mkF m 34 #[.val (.ref a), .val (.ref b), .val (.int (0 : Int32))] [(.int (0 : Int32)), (.ref a), (.int (0 : Int32)), (.ref a)])) rfl rfl (hb hby d2_34)) ?_
        show Goes p e below _ (T5.setTop (mkF m 35 #[.val (.ref a), .val (.ref b), .val (.int (0 : Int32))] [(.int x0), (.int (0 : Int32)), (.ref a)]))
        refine Goes.via (fun _ kk_ => XS.iconst X5.here hx rfl (hb hby d2_35) kk_) ?_
        show Goes p e below _ (T5.setTop (mkF m 36 #[.val (.ref a), .val (.ref b), .val (.int (0 : Int32))] [(.int (1 : Int32)), (.int x0), (.int (0 : Int32)), (.ref a)]))
        refine Goes.via (fun _ kk_ => XS.isub X5.here hx rfl (hb hby d2_36) rfl kk_) ?_
        show Goes p e below _ (T5.setTop (mkF m 37 #[.val (.ref a), .val (.ref b), .val (.int (0 : Int32))] [(.int (x0 - (1 : Int32))), (.int (0 : Int32)), (.ref a)]))
        obtain ⟨T14, h14, X14, e14, W14, A14, st14⟩ := own_iastore X5 hx hZ e5 A5 (j := (0 : Int32)) (i := 0) (by decide) (by decide) (by decide) (g := (mkF m 37 #[.val (.ref a), .val (.ref b), .val (.int (0 : Int32))] [(.int (x0 - (1 : Int32))), (.int (0 : Int32)), (.ref a)])) rfl rfl (hb hby d2_37)
        refine Goes.via st14 ?_
        have N14 := Fr.snoc X14 N5 Hg
        show Goes p e below _ (T14.setTop (mkF m 38 #[.val (.ref a), .val (.ref b), .val (.int (0 : Int32))] []))
        refine Goes.via (fun _ kk_ => XS.iloadN X14.here hx rfl (hb hby d2_38) rfl  kk_) ?_
        show Goes p e below _ (T14.setTop (mkF m 39 #[.val (.ref a), .val (.ref b), .val (.int (0 : Int32))] [(.int (0 : Int32))]))
        have hc39_15 : ¬ ((0 : Int32) < (0 : Int32)) := (by decide)
        refine Goes.via (fun _ kk_ => XS.ifNo X14.here hx rfl (hb hby d2_39) rfl ((if0 _ _).trans (flt hc39_15).1) kk_) ?_
        show Goes p e below _ (T14.setTop (mkF m 42 #[.val (.ref a), .val (.ref b), .val (.int (0 : Int32))] []))
        refine Goes.via (fun _ kk_ => XS.iconst X14.here hx rfl (hb hby d2_42) kk_) ?_
        show Goes p e below _ (T14.setTop (mkF m 43 #[.val (.ref a), .val (.ref b), .val (.int (0 : Int32))] [(.int (1 : Int32))]))
        refine Goes.via (fun _ kk_ => XS.goto X14.here hx rfl (pc0 := 43) (pc' := 47) rfl (hb hby d2_43) (by decide) (by decide) kk_) ?_
        show Goes p e below _ (T14.setTop (mkF m 47 #[.val (.ref a), .val (.ref b), .val (.int (0 : Int32))] [(.int (1 : Int32))]))
        have Af : Arw Z h14 a ka .int 3 (own_a3 (own_e0 x0 x1 x2 y0) (own_e1 x1 x2 y1) (own_e2 x2 y2)) := A14.to (fun i hi => by rcases own_lt3 hi with rfl | rfl | rfl <;> simp [own_upd, own_a3, own_e0, own_e1, own_e2, hc12, hc12_2, hc12_3])
        have K16 : Keep h0 h14 [a] := ((((Keep.refl h0 [a]).wr W2 (Or.inl (List.mem_of_getElem? (i := 0) rfl))).wr W5 (Or.inl (List.mem_of_getElem? (i := 0) rfl))).wr W14 (Or.inl (List.mem_of_getElem? (i := 0) rfl)))
        exact own_finN X14 hx hlk hret (by simp) (hb hby d2_47) (by rw [e14]; exact ⟨(by simp [own_r, nar, hc12, hc12_2, hc12_3]), N14, K16, Af⟩) (by first | decide | omega) (by first | decide | omega)
    · skip
      refine Goes.via (fun _ kk_ => XS.ifYes X2.here hx rfl (pc0 := 12) (pc' := 27) rfl (hb hby d2_12) rfl ((if0 _ _).trans (feq hc12_2).2) (by decide) (by decide) kk_) ?_
      show Goes p e below _ (T2.setTop (mkF m 27 #[.val (.ref a), .val (.ref b), .val (.int (1 : Int32))] []))
      refine Goes.via (fun _ kk_ => XS.iloadN X2.here hx rfl (hb hby d2_27) rfl  kk_) ?_
      show Goes p e below _ (T2.setTop (mkF m 28 #[.val (.ref a), .val (.ref b), .val (.int (1 : Int32))] [(.int (1 : Int32))]))
      have hc28_17 : ¬ ((1 : Int32) < (0 : Int32)) := (by decide)
      refine Goes.via (fun _ kk_ => XS.ifNo X2.here hx rfl (hb hby d2_28) rfl ((if0 _ _).trans (flt hc28_17).1) kk_) ?_
      show Goes p e below _ (T2.setTop (mkF m 31 #[.val (.ref a), .val (.ref b), .val (.int (1 : Int32))] []))
      refine Goes.via (fun _ kk_ => XS.aloadN X2.here hx rfl (hb hby d2_31) rfl rfl  kk_) ?_
      show Goes p e below _ (T2.setTop (mkF m 32 #[.val (.ref a), .val (.ref b), .val (.int (1 : Int32))] [(.ref a)]))
      refine Goes.via (fun _ kk_ => XS.iloadN X2.here hx rfl (hb hby d2_32) rfl  kk_) ?_
      show Goes p e below _ (T2.setTop (mkF m 33 #[.val (.ref a), .val (.ref b), .val (.int (1 : Int32))] [(.int (1 : Int32)), (.ref a)]))
      refine Goes.via (fun _ kk_ => XT.dup2 X2.here hx rfl (hb hby d2_33) rfl rfl rfl kk_) ?_
      show Goes p e below _ (T2.setTop (mkF m 34 #[.val (.ref a), .val (.ref b), .val (.int (1 : Int32))] [(.int (1 : Int32)), (.ref a), (.int (1 : Int32)), (.ref a)]))
      refine Goes.via (own_iaload X2 hx hZ e2 A2 (j := (1 : Int32)) (i := 1) (by decide) (by decide) (by decide) (v := x1) (by simp [own_upd, own_a3]) (g := (mkF m 34 #[.val (.ref a), .val (.ref b), .val (.int (1 : Int32))] [(.int (1 : Int32)), (.ref a), (.int (1 : Int32)), (.ref a)])) rfl rfl (hb hby d2_34)) ?_
      show Goes p e below _ (T2.setTop (mkF m 35 #[.val (.ref a), .val (.ref b), .val (.int (1 : Int32))] [(.int x1), (.int (1 : Int32)), (.ref a)]))
      refine Goes.via (fun _ kk_ => XS.iconst X2.here hx rfl (hb hby d2_35) kk_) ?_
      show Goes p e below _ (T2.setTop (mkF m 36 #[.val (.ref a), .val (.ref b), .val (.int (1 : Int32))] [(.int (1 : Int32)), (.int x1), (.int (1 : Int32)), (.ref a)]))
      refine Goes.via (fun _ kk_ => XS.isub X2.here hx rfl (hb hby d2_36) rfl kk_) ?_
      show Goes p e below _ (T2.setTop (mkF m 37 #[.val (.ref a), .val (.ref b), .val (.int (1 : Int32))] [(.int (x1 - (1 : Int32))), (.int (1 : Int32)), (.ref a)]))
      obtain ⟨T18, h18, X18, e18, W18, A18, st18⟩ := own_iastore X2 hx hZ e2 A2 (j := (1 : Int32)) (i := 1) (by decide) (by decide) (by decide) (g := (mkF m 37 #[.val (.ref a), .val (.ref b), .val (.int (1 : Int32))] [(.int (x1 - (1 : Int32))), (.int (1 : Int32)), (.ref a)])) rfl rfl (hb hby d2_37)
      refine Goes.via st18 ?_
      have N18 := Fr.snoc X18 N2 Hg
      show Goes p e below _ (T18.setTop (mkF m 38 #[.val (.ref a), .val (.ref b), .val (.int (1 : Int32))] []))
      refine Goes.via (fun _ kk_ => XS.iloadN X18.here hx rfl (hb hby d2_38) rfl  kk_) ?_
      show Goes p e below _ (T18.setTop (mkF m 39 #[.val (.ref a), .val (.ref b), .val (.int (1 : Int32))] [(.int (1 : Int32))]))
      have hc39_19 : ¬ ((1 : Int32) < (0 : Int32)) := (by decide)
      refine Goes.via (fun _ kk_ => XS.ifNo X18.here hx rfl (hb hby d2_39) rfl ((if0 _ _).trans (flt hc39_19).1) kk_) ?_
      show Goes p e below _ (T18.setTop (mkF m 42 #[.val (.ref a), .val (.ref b), .val (.int (1 : Int32))] []))
      refine Goes.via (fun _ kk_ => XS.iconst X18.here hx rfl (hb hby d2_42) kk_) ?_
      show Goes p e below _ (T18.setTop (mkF m 43 #[.val (.ref a), .val (.ref b), .val (.int (1 : Int32))] [(.int (1 : Int32))]))
      refine Goes.via (fun _ kk_ => XS.goto X18.here hx rfl (pc0 := 43) (pc' := 47) rfl (hb hby d2_43) (by decide) (by decide) kk_) ?_
      show Goes p e below _ (T18.setTop (mkF m 47 #[.val (.ref a), .val (.ref b), .val (.int (1 : Int32))] [(.int (1 : Int32))]))
      have Af : Arw Z h18 a ka .int 3 (own_a3 (own_e0 x0 x1 x2 y0) (own_e1 x1 x2 y1) (own_e2 x2 y2)) := A18.to (fun i hi => by rcases own_lt3 hi with rfl | rfl | rfl <;> simp [own_upd, own_a3, own_e0, own_e1, own_e2, hc12, hc12_2])
      have K20 : Keep h0 h18 [a] := (((Keep.refl h0 [a]).wr W2 (Or.inl (List.mem_of_getElem? (i := 0) rfl))).wr W18 (Or.inl (List.mem_of_getElem? (i := 0) rfl)))
      exact own_finN X18 hx hlk hret (by simp) (hb hby d2_47) (by rw [e18]; exact ⟨(by simp [own_r, nar, hc12, hc12_2]), N18, K20, Af⟩) (by first | decide | omega) (by first | decide | omega)
  · skip
    refine Goes.via (fun _ kk_ => XS.ifYes X0.here hx rfl (pc0 := 12) (pc' := 27) rfl (hb hby d2_12) rfl ((if0 _ _).trans (feq hc12).2) (by decide) (by decide) kk_) ?_
    show Goes p e below _ (s₁.setTop (mkF m 27 #[.val (.ref a), .val (.ref b), .val (.int (2 : Int32))] []))
    refine Goes.via (fun _ kk_ => XS.iloadN X0.here hx rfl (hb hby d2_27) rfl  kk_) ?_
    show Goes p e below _ (s₁.setTop (mkF m 28 #[.val (.ref a), .val (.ref b), .val (.int (2 : Int32))] [(.int (2 : Int32))]))
    have hc28_21 : ¬ ((2 : Int32) < (0 : Int32)) := (by decide)
    refine Goes.via (fun _ kk_ => XS.ifNo X0.here hx rfl (hb hby d2_28) rfl ((if0 _ _).trans (flt hc28_21).1) kk_) ?_
    show Goes p e below _ (s₁.setTop (mkF m 31 #[.val (.ref a), .val (.ref b), .val (.int (2 : Int32))] []))
    refine Goes.via (fun _ kk_ => XS.aloadN X0.here hx rfl (hb hby d2_31) rfl rfl  kk_) ?_
    show Goes p e below _ (s₁.setTop (mkF m 32 #[.val (.ref a), .val (.ref b), .val (.int (2 : Int32))] [(.ref a)]))
    refine Goes.via (fun _ kk_ => XS.iloadN X0.here hx rfl (hb hby d2_32) rfl  kk_) ?_
    show Goes p e below _ (s₁.setTop (mkF m 33 #[.val (.ref a), .val (.ref b), .val (.int (2 : Int32))] [(.int (2 : Int32)), (.ref a)]))
    refine Goes.via (fun _ kk_ => XT.dup2 X0.here hx rfl (hb hby d2_33) rfl rfl rfl kk_) ?_
    show Goes p e below _ (s₁.setTop (mkF m 34 #[.val (.ref a), .val (.ref b), .val (.int (2 : Int32))] [(.int (2 : Int32)), (.ref a), (.int (2 : Int32)), (.ref a)]))
    refine Goes.via (own_iaload X0 hx hZ e0 A0_a (j := (2 : Int32)) (i := 2) (by decide) (by decide) (by decide) (v := x2) (by simp [own_upd, own_a3]) (g := (mkF m 34 #[.val (.ref a), .val (.ref b), .val (.int (2 : Int32))] [(.int (2 : Int32)), (.ref a), (.int (2 : Int32)), (.ref a)])) rfl rfl (hb hby d2_34)) ?_
    show Goes p e below _ (s₁.setTop (mkF m 35 #[.val (.ref a), .val (.ref b), .val (.int (2 : Int32))] [(.int x2), (.int (2 : Int32)), (.ref a)]))
    refine Goes.via (fun _ kk_ => XS.iconst X0.here hx rfl (hb hby d2_35) kk_) ?_
    show Goes p e below _ (s₁.setTop (mkF m 36 #[.val (.ref a), .val (.ref b), .val (.int (2 : Int32))] [(.int (1 : Int32)), (.int x2), (.int (2 : Int32)), (.ref a)]))
    refine Goes.via (fun _ kk_ => XS.isub X0.here hx rfl (hb hby d2_36) rfl kk_) ?_
    show Goes p e below _ (s₁.setTop (mkF m 37 #[.val (.ref a), .val (.ref b), .val (.int (2 : Int32))] [(.int (x2 - (1 : Int32))), (.int (2 : Int32)), (.ref a)]))
    obtain ⟨T22, h22, X22, e22, W22, A22, st22⟩ := own_iastore X0 hx hZ e0 A0_a (j := (2 : Int32)) (i := 2) (by decide) (by decide) (by decide) (g := (mkF m 37 #[.val (.ref a), .val (.ref b), .val (.int (2 : Int32))] [(.int (x2 - (1 : Int32))), (.int (2 : Int32)), (.ref a)])) rfl rfl (hb hby d2_37)
    refine Goes.via st22 ?_
    have N22 := Fr.snoc X22 N0 Hg
    show Goes p e below _ (T22.setTop (mkF m 38 #[.val (.ref a), .val (.ref b), .val (.int (2 : Int32))] []))
    refine Goes.via (fun _ kk_ => XS.iloadN X22.here hx rfl (hb hby d2_38) rfl  kk_) ?_
    show Goes p e below _ (T22.setTop (mkF m 39 #[.val (.ref a), .val (.ref b), .val (.int (2 : Int32))] [(.int (2 : Int32))]))
    have hc39_23 : ¬ ((2 : Int32) < (0 : Int32)) := (by decide)
    refine Goes.via (fun _ kk_ => XS.ifNo X22.here hx rfl (hb hby d2_39) rfl ((if0 _ _).trans (flt hc39_23).1) kk_) ?_
    show Goes p e below _ (T22.setTop (mkF m 42 #[.val (.ref a), .val (.ref b), .val (.int (2 : Int32))] []))
    refine Goes.via (fun _ kk_ => XS.iconst X22.here hx rfl (hb hby d2_42) kk_) ?_
    show Goes p e below _ (T22.setTop (mkF m 43 #[.val (.ref a), .val (.ref b), .val (.int (2 : Int32))] [(.int (1 : Int32))]))
    refine Goes.via (fun _ kk_ => XS.goto X22.here hx rfl (pc0 := 43) (pc' := 47) rfl (hb hby d2_43) (by decide) (by decide) kk_) ?_
    show Goes p e below _ (T22.setTop (mkF m 47 #[.val (.ref a), .val (.ref b), .val (.int (2 : Int32))] [(.int (1 : Int32))]))
    have Af : Arw Z h22 a ka .int 3 (own_a3 (own_e0 x0 x1 x2 y0) (own_e1 x1 x2 y1) (own_e2 x2 y2)) := A22.to (fun i hi => by rcases own_lt3 hi with rfl | rfl | rfl <;> simp [own_upd, own_a3, own_e0, own_e1, own_e2, hc12])
    have K24 : Keep h0 h22 [a] := ((Keep.refl h0 [a]).wr W22 (Or.inl (List.mem_of_getElem? (i := 0) rfl)))
    exact own_finN X22 hx hlk hret (by simp) (hb hby d2_47) (by rw [e22]; exact ⟨(by simp [own_r, nar, hc12]), N22, K24, Af⟩) (by first | decide | omega) (by first | decide | omega)
theorem ef_rm0 (m : MethodId) (t0 : Int32) (t1 : Int32) (t2 : Int32) (d0 : Int32) (d1 : Int32) (d2 : Int32) : entryFrame m #[(.int t0), (.int t1), (.int t2), (.int d0), (.int d1), (.int d2)] maxLocals = mkF m 0 #[.val (.int t0), .val (.int t1), .val (.int t2), .val (.int d0), .val (.int d1), .val (.int d2), .unset, .unset, .unset, .unset, .unset, .unset, .unset, .unset, .unset, .unset, .unset, .unset, .unset] [] := by first | (simp [entryFrame, mkF, argsToLocals, Value.category, maxLocals]; done) | rfl
def Qrm0 (Z : State) (t0 : Int32) (t1 : Int32) (t2 : Int32) (d0 : Int32) (d1 : Int32) (d2 : Int32) (h0 : Heap) (n0 : Nat) (v_ : Option Value) (h_ : Heap) (L_ : List Loc) : Prop := v_ = some (.int (1 : Int32)) ∧ Fr n0 L_ ∧ Keep h0 h_ []
theorem pd_0 : parseMethodDescriptor "(II)I" = some ⟨[.int, .int], some .int⟩ := by decide +kernel
theorem pd_1 : parseMethodDescriptor "([I[I)Z" = some ⟨[(.array .int), (.array .int)], some .boolean⟩ := by decide +kernel
set_option maxRecDepth 65536 in
set_option maxHeartbeats 40000000 in
theorem rm0 (l : Launch) (Z : State) (a0 : Array Value) (hw : ∀ d ∈ tables_1, d.before a0 Z = true) (ws : List Jvm.Cond) (t0 : Int32) (t1 : Int32) (t2 : Int32) (d0 : Int32) (d1 : Int32) (d2 : Int32) (h0 : Heap) (n0 : Nat) (Z0 : n0 ≤ h0.size) :
    MetFree l x (head1 (Jvm.Cond.code x code maxLocals ret :: ws) room_1) (fun as_ U_ => as_ = #[(.int t0), (.int t1), (.int t2), (.int d0), (.int d1), (.int d2)] ∧ Z.Warmed39 U_.vm ∧ U_.heap = h0) (fun _ _ _ _ _ => True) (fun _ U_ o_ V_ => ∃ v_ L_, o_ = .returned v_ ∧ Qrm0 Z t0 t1 t2 d0 d1 d2 h0 n0 v_ V_.heap L_ ∧ FrameEnd U_ o_ V_ L_ room_1.cells room_1.slots) := by
  refine MetFree.of_bodySF (plainFor_of_name pn_com_example_earnest_nets_earnestnets_ChoicesCountDownPinLaw) hisR ?_
  intro p e s m args below meth c s₁ Bd hml0 hP hK
  obtain ⟨rfl, hZ, hh⟩ := hP
  have hx := Bd.exec
  have hby := Bd.bytes
  have hlk : meth.locks = false := BodyLoose.notSynchronized Bd
  have hret := Bd.returns
  have hml : c.maxLocals = 19 := hml0
  have hown : s.vm.findClass "com/example/earnest_nets/earnestnets/ChoicesCountDownPinLaw" = some m.cls := findClass_of_methodNamed Bd.named
  have hnm := (name_of_methodNamed Bd.named Bd.method).1
  have X0 : Stand p l e room_1 s m #[(.int t0), (.int t1), (.int t2), (.int d0), (.int d1), (.int d2)] below meth c s₁ [] 0 0 := Stand.of_body Bd
  have e0 : s₁.heap = h0 := by rw [← hh, Bd.state]; rfl
  have N0 := Fr.nil n0
  show Goes p e below (Fin_ s (Qrm0 Z t0 t1 t2 d0 d1 d2 h0 n0) room_1.cells room_1.slots) (s₁.setTop (entryFrame m #[(.int t0), (.int t1), (.int t2), (.int d0), (.int d1), (.int d2)] maxLocals))
  rw [ef_rm0 m t0 t1 t2 d0 d1 d2]
  refine Goes.via (fun _ kk_ => XS.iloadN X0.here hx rfl (hb hby at_0) rfl  kk_) ?_
  show Goes p e below _ (s₁.setTop (mkF m 1 #[.val (.int t0), .val (.int t1), .val (.int t2), .val (.int d0), .val (.int d1), .val (.int d2), .unset, .unset, .unset, .unset, .unset, .unset, .unset, .unset, .unset, .unset, .unset, .unset, .unset] [(.int t0)]))
  refine Goes.via (X0.ldcInt hx hown (mvT hZ (hw _ (List.mem_of_getElem? (i := 0) rfl))) (g := (mkF m 1 #[.val (.int t0), .val (.int t1), .val (.int t2), .val (.int d0), .val (.int d1), .val (.int d2), .unset, .unset, .unset, .unset, .unset, .unset, .unset, .unset, .unset, .unset, .unset, .unset, .unset] [(.int t0)])) rfl (hb hby at_1)) ?_
  show Goes p e below _ (s₁.setTop (mkF m 3 #[.val (.int t0), .val (.int t1), .val (.int t2), .val (.int d0), .val (.int d1), .val (.int d2), .unset, .unset, .unset, .unset, .unset, .unset, .unset, .unset, .unset, .unset, .unset, .unset, .unset] [(.int (2147483647 : Int32)), (.int t0)]))
  refine Goes.via (fun _ kk_ => XS.iand X0.here hx rfl (hb hby at_3) rfl kk_) ?_
  show Goes p e below _ (s₁.setTop (mkF m 4 #[.val (.int t0), .val (.int t1), .val (.int t2), .val (.int d0), .val (.int d1), .val (.int d2), .unset, .unset, .unset, .unset, .unset, .unset, .unset, .unset, .unset, .unset, .unset, .unset, .unset] [(.int (t0 &&& (2147483647 : Int32)))]))
  refine Goes.via (fun _ kk_ => XS.istore X0.here hx rfl (hb hby at_4) rfl (l' := #[.val (.int t0), .val (.int t1), .val (.int t2), .val (.int d0), .val (.int d1), .val (.int d2), .val (.int (t0 &&& (2147483647 : Int32))), .unset, .unset, .unset, .unset, .unset, .unset, .unset, .unset, .unset, .unset, .unset, .unset]) rfl kk_) ?_
  show Goes p e below _ (s₁.setTop (mkF m 6 #[.val (.int t0), .val (.int t1), .val (.int t2), .val (.int d0), .val (.int d1), .val (.int d2), .val (.int (t0 &&& (2147483647 : Int32))), .unset, .unset, .unset, .unset, .unset, .unset, .unset, .unset, .unset, .unset, .unset, .unset] []))
  generalize hv_v6_1 : (t0 &&& (2147483647 : Int32)) = v6_1
  show Goes p e below _ (s₁.setTop (mkF m 6 #[.val (.int t0), .val (.int t1), .val (.int t2), .val (.int d0), .val (.int d1), .val (.int d2), .val (.int v6_1), .unset, .unset, .unset, .unset, .unset, .unset, .unset, .unset, .unset, .unset, .unset, .unset] []))
  refine Goes.via (fun _ kk_ => XS.iloadN X0.here hx rfl (hb hby at_6) rfl  kk_) ?_
  show Goes p e below _ (s₁.setTop (mkF m 7 #[.val (.int t0), .val (.int t1), .val (.int t2), .val (.int d0), .val (.int d1), .val (.int d2), .val (.int v6_1), .unset, .unset, .unset, .unset, .unset, .unset, .unset, .unset, .unset, .unset, .unset, .unset] [(.int t1)]))
  refine Goes.via (X0.ldcInt hx hown (mvT hZ (hw _ (List.mem_of_getElem? (i := 0) rfl))) (g := (mkF m 7 #[.val (.int t0), .val (.int t1), .val (.int t2), .val (.int d0), .val (.int d1), .val (.int d2), .val (.int v6_1), .unset, .unset, .unset, .unset, .unset, .unset, .unset, .unset, .unset, .unset, .unset, .unset] [(.int t1)])) rfl (hb hby at_7)) ?_
  show Goes p e below _ (s₁.setTop (mkF m 9 #[.val (.int t0), .val (.int t1), .val (.int t2), .val (.int d0), .val (.int d1), .val (.int d2), .val (.int v6_1), .unset, .unset, .unset, .unset, .unset, .unset, .unset, .unset, .unset, .unset, .unset, .unset] [(.int (2147483647 : Int32)), (.int t1)]))
  refine Goes.via (fun _ kk_ => XS.iand X0.here hx rfl (hb hby at_9) rfl kk_) ?_
  show Goes p e below _ (s₁.setTop (mkF m 10 #[.val (.int t0), .val (.int t1), .val (.int t2), .val (.int d0), .val (.int d1), .val (.int d2), .val (.int v6_1), .unset, .unset, .unset, .unset, .unset, .unset, .unset, .unset, .unset, .unset, .unset, .unset] [(.int (t1 &&& (2147483647 : Int32)))]))
  refine Goes.via (fun _ kk_ => XS.istore X0.here hx rfl (hb hby at_10) rfl (l' := #[.val (.int t0), .val (.int t1), .val (.int t2), .val (.int d0), .val (.int d1), .val (.int d2), .val (.int v6_1), .val (.int (t1 &&& (2147483647 : Int32))), .unset, .unset, .unset, .unset, .unset, .unset, .unset, .unset, .unset, .unset, .unset]) rfl kk_) ?_
  show Goes p e below _ (s₁.setTop (mkF m 12 #[.val (.int t0), .val (.int t1), .val (.int t2), .val (.int d0), .val (.int d1), .val (.int d2), .val (.int v6_1), .val (.int (t1 &&& (2147483647 : Int32))), .unset, .unset, .unset, .unset, .unset, .unset, .unset, .unset, .unset, .unset, .unset] []))
  generalize hv_v7_2 : (t1 &&& (2147483647 : Int32)) = v7_2
  show Goes p e below _ (s₁.setTop (mkF m 12 #[.val (.int t0), .val (.int t1), .val (.int t2), .val (.int d0), .val (.int d1), .val (.int d2), .val (.int v6_1), .val (.int v7_2), .unset, .unset, .unset, .unset, .unset, .unset, .unset, .unset, .unset, .unset, .unset] []))
  refine Goes.via (fun _ kk_ => XS.iloadN X0.here hx rfl (hb hby at_12) rfl  kk_) ?_
  show Goes p e below _ (s₁.setTop (mkF m 13 #[.val (.int t0), .val (.int t1), .val (.int t2), .val (.int d0), .val (.int d1), .val (.int d2), .val (.int v6_1), .val (.int v7_2), .unset, .unset, .unset, .unset, .unset, .unset, .unset, .unset, .unset, .unset, .unset] [(.int t2)]))
  refine Goes.via (X0.ldcInt hx hown (mvT hZ (hw _ (List.mem_of_getElem? (i := 0) rfl))) (g := (mkF m 13 #[.val (.int t0), .val (.int t1), .val (.int t2), .val (.int d0), .val (.int d1), .val (.int d2), .val (.int v6_1), .val (.int v7_2), .unset, .unset, .unset, .unset, .unset, .unset, .unset, .unset, .unset, .unset, .unset] [(.int t2)])) rfl (hb hby at_13)) ?_
  show Goes p e below _ (s₁.setTop (mkF m 15 #[.val (.int t0), .val (.int t1), .val (.int t2), .val (.int d0), .val (.int d1), .val (.int d2), .val (.int v6_1), .val (.int v7_2), .unset, .unset, .unset, .unset, .unset, .unset, .unset, .unset, .unset, .unset, .unset] [(.int (2147483647 : Int32)), (.int t2)]))
  refine Goes.via (fun _ kk_ => XS.iand X0.here hx rfl (hb hby at_15) rfl kk_) ?_
  show Goes p e below _ (s₁.setTop (mkF m 16 #[.val (.int t0), .val (.int t1), .val (.int t2), .val (.int d0), .val (.int d1), .val (.int d2), .val (.int v6_1), .val (.int v7_2), .unset, .unset, .unset, .unset, .unset, .unset, .unset, .unset, .unset, .unset, .unset] [(.int (t2 &&& (2147483647 : Int32)))]))
  refine Goes.via (fun _ kk_ => XS.istore X0.here hx rfl (hb hby at_16) rfl (l' := #[.val (.int t0), .val (.int t1), .val (.int t2), .val (.int d0), .val (.int d1), .val (.int d2), .val (.int v6_1), .val (.int v7_2), .val (.int (t2 &&& (2147483647 : Int32))), .unset, .unset, .unset, .unset, .unset, .unset, .unset, .unset, .unset, .unset]) rfl kk_) ?_
  show Goes p e below _ (s₁.setTop (mkF m 18 #[.val (.int t0), .val (.int t1), .val (.int t2), .val (.int d0), .val (.int d1), .val (.int d2), .val (.int v6_1), .val (.int v7_2), .val (.int (t2 &&& (2147483647 : Int32))), .unset, .unset, .unset, .unset, .unset, .unset, .unset, .unset, .unset, .unset] []))
  generalize hv_v8_3 : (t2 &&& (2147483647 : Int32)) = v8_3
  show Goes p e below _ (s₁.setTop (mkF m 18 #[.val (.int t0), .val (.int t1), .val (.int t2), .val (.int d0), .val (.int d1), .val (.int d2), .val (.int v6_1), .val (.int v7_2), .val (.int v8_3), .unset, .unset, .unset, .unset, .unset, .unset, .unset, .unset, .unset, .unset] []))
  have hu6 : ¬ v6_1 < (0 : Int32) := by rw [← hv_v6_1]; exact own_mask _
  have hu7 : ¬ v7_2 < (0 : Int32) := by rw [← hv_v7_2]; exact own_mask _
  have hu8 : ¬ v8_3 < (0 : Int32) := by rw [← hv_v8_3]; exact own_mask _
  refine Goes.via (fun _ kk_ => XS.iloadN X0.here hx rfl (hb hby at_18) rfl  kk_) ?_
  show Goes p e below _ (s₁.setTop (mkF m 19 #[.val (.int t0), .val (.int t1), .val (.int t2), .val (.int d0), .val (.int d1), .val (.int d2), .val (.int v6_1), .val (.int v7_2), .val (.int v8_3), .unset, .unset, .unset, .unset, .unset, .unset, .unset, .unset, .unset, .unset] [(.int d0)]))
  refine Goes.via (fun _ kk_ => XS.iload X0.here hx rfl (hb hby at_19) rfl  kk_) ?_
  show Goes p e below _ (s₁.setTop (mkF m 21 #[.val (.int t0), .val (.int t1), .val (.int t2), .val (.int d0), .val (.int d1), .val (.int d2), .val (.int v6_1), .val (.int v7_2), .val (.int v8_3), .unset, .unset, .unset, .unset, .unset, .unset, .unset, .unset, .unset, .unset] [(.int v6_1), (.int d0)]))
  obtain ⟨_, _, ⟨T4, L4, k4, n4⟩, -, X4, ⟨Lc4, hQ4, l4, y4, z4⟩, st4⟩ := Jvm.LawKit.callS X0 hx (y := (⟨"com/example/earnest_nets/earnestnets/ChoicesCountDownPinLaw", "draw", "(II)I"⟩ : MethodName)) hown (mvT hZ (hw _ (List.mem_of_getElem? (i := 1) rfl))) (mvT hZ (hw _ (List.mem_of_getElem? (i := 2) rfl))) (mvT hZ (hw _ (List.mem_of_getElem? (i := 3) rfl))) (mvT hZ (hw _ (List.mem_of_getElem? (i := 4) rfl))) (by decide) (backOf (W := 0) (rm1 l Z a0 hw [] d0 v6_1 h0 n0 (Nat.le_trans Z0 (Nat.le_refl _)) hu6) hZ (hw _ (List.mem_of_getElem? (i := 4) rfl)) (hw _ (List.mem_of_getElem? (i := 3) rfl)) (by decide) (by decide)) (g := (mkF m 21 #[.val (.int t0), .val (.int t1), .val (.int t2), .val (.int d0), .val (.int d1), .val (.int d2), .val (.int v6_1), .val (.int v7_2), .val (.int v8_3), .unset, .unset, .unset, .unset, .unset, .unset, .unset, .unset, .unset, .unset] [(.int v6_1), (.int d0)])) rfl (by rw [hml]; rfl) (argsL := [(.int d0), (.int v6_1)]) (rest := []) (lenOf pd_0 rfl) rfl (by show 2 * 0 + _ ≤ _; exact Nat.le_of_eq rfl) (hb hby at_21) (fun _ _ => ⟨rfl, e0, (by first | decide | omega : 0 + 0 ≤ _), (by first | decide | omega : 0 + 0 ≤ _)⟩)
  dsimp only [Pt.U, Pt.locs, Pt.cells, Pt.slots] at X4 l4 y4 z4 st4 hQ4
  subst l4 y4 z4
  obtain ⟨rfl, N4q, e4⟩ := hQ4
  have N4 := Fr.app N0 N4q
  refine Goes.via st4 ?_
  have e4' : T4.heap = h0 := e4
  show Goes p e below _ (T4.setTop (mkF m 24 #[.val (.int t0), .val (.int t1), .val (.int t2), .val (.int d0), .val (.int d1), .val (.int d2), .val (.int v6_1), .val (.int v7_2), .val (.int v8_3), .unset, .unset, .unset, .unset, .unset, .unset, .unset, .unset, .unset, .unset] [(.int (own_draw d0 v6_1))]))
  refine Goes.via (fun _ kk_ => XS.istore X4.here hx rfl (hb hby at_24) rfl (l' := #[.val (.int t0), .val (.int t1), .val (.int t2), .val (.int d0), .val (.int d1), .val (.int d2), .val (.int v6_1), .val (.int v7_2), .val (.int v8_3), .val (.int (own_draw d0 v6_1)), .unset, .unset, .unset, .unset, .unset, .unset, .unset, .unset, .unset]) rfl kk_) ?_
  show Goes p e below _ (T4.setTop (mkF m 26 #[.val (.int t0), .val (.int t1), .val (.int t2), .val (.int d0), .val (.int d1), .val (.int d2), .val (.int v6_1), .val (.int v7_2), .val (.int v8_3), .val (.int (own_draw d0 v6_1)), .unset, .unset, .unset, .unset, .unset, .unset, .unset, .unset, .unset] []))
  generalize hv_v9_5 : (own_draw d0 v6_1) = v9_5
  show Goes p e below _ (T4.setTop (mkF m 26 #[.val (.int t0), .val (.int t1), .val (.int t2), .val (.int d0), .val (.int d1), .val (.int d2), .val (.int v6_1), .val (.int v7_2), .val (.int v8_3), .val (.int v9_5), .unset, .unset, .unset, .unset, .unset, .unset, .unset, .unset, .unset] []))
  refine Goes.via (fun _ kk_ => XS.iload X4.here hx rfl (hb hby at_26) rfl  kk_) ?_
  show Goes p e below _ (T4.setTop (mkF m 28 #[.val (.int t0), .val (.int t1), .val (.int t2), .val (.int d0), .val (.int d1), .val (.int d2), .val (.int v6_1), .val (.int v7_2), .val (.int v8_3), .val (.int v9_5), .unset, .unset, .unset, .unset, .unset, .unset, .unset, .unset, .unset] [(.int d1)]))
  refine Goes.via (fun _ kk_ => XS.iload X4.here hx rfl (hb hby at_28) rfl  kk_) ?_
  show Goes p e below _ (T4.setTop (mkF m 30 #[.val (.int t0), .val (.int t1), .val (.int t2), .val (.int d0), .val (.int d1), .val (.int d2), .val (.int v6_1), .val (.int v7_2), .val (.int v8_3), .val (.int v9_5), .unset, .unset, .unset, .unset, .unset, .unset, .unset, .unset, .unset] [(.int v7_2), (.int d1)]))
  obtain ⟨_, _, ⟨T6, L6, k6, n6⟩, -, X6, ⟨Lc6, hQ6, l6, y6, z6⟩, st6⟩ := Jvm.LawKit.callS X4 hx (y := (⟨"com/example/earnest_nets/earnestnets/ChoicesCountDownPinLaw", "draw", "(II)I"⟩ : MethodName)) hown (mvT hZ (hw _ (List.mem_of_getElem? (i := 1) rfl))) (mvT hZ (hw _ (List.mem_of_getElem? (i := 2) rfl))) (mvT hZ (hw _ (List.mem_of_getElem? (i := 3) rfl))) (mvT hZ (hw _ (List.mem_of_getElem? (i := 4) rfl))) (by decide) (backOf (W := 0) (rm1 l Z a0 hw [] d1 v7_2 h0 n0 (Nat.le_trans Z0 (Nat.le_refl _)) hu7) hZ (hw _ (List.mem_of_getElem? (i := 4) rfl)) (hw _ (List.mem_of_getElem? (i := 3) rfl)) (by decide) (by decide)) (g := (mkF m 30 #[.val (.int t0), .val (.int t1), .val (.int t2), .val (.int d0), .val (.int d1), .val (.int d2), .val (.int v6_1), .val (.int v7_2), .val (.int v8_3), .val (.int v9_5), .unset, .unset, .unset, .unset, .unset, .unset, .unset, .unset, .unset] [(.int v7_2), (.int d1)])) rfl (by rw [hml]; rfl) (argsL := [(.int d1), (.int v7_2)]) (rest := []) (lenOf pd_0 rfl) rfl (by show 2 * 0 + _ ≤ _; exact Nat.le_of_eq rfl) (hb hby at_30) (fun _ _ => ⟨rfl, e4', (by first | decide | omega : 0 + 0 ≤ _), (by first | decide | omega : 0 + 0 ≤ _)⟩)
  dsimp only [Pt.U, Pt.locs, Pt.cells, Pt.slots] at X6 l6 y6 z6 st6 hQ6
  subst l6 y6 z6
  obtain ⟨rfl, N6q, e6⟩ := hQ6
  have N6 := Fr.app N4 N6q
  refine Goes.via st6 ?_
  have e6' : T6.heap = h0 := e6
  show Goes p e below _ (T6.setTop (mkF m 33 #[.val (.int t0), .val (.int t1), .val (.int t2), .val (.int d0), .val (.int d1), .val (.int d2), .val (.int v6_1), .val (.int v7_2), .val (.int v8_3), .val (.int v9_5), .unset, .unset, .unset, .unset, .unset, .unset, .unset, .unset, .unset] [(.int (own_draw d1 v7_2))]))
  refine Goes.via (fun _ kk_ => XS.istore X6.here hx rfl (hb hby at_33) rfl (l' := #[.val (.int t0), .val (.int t1), .val (.int t2), .val (.int d0), .val (.int d1), .val (.int d2), .val (.int v6_1), .val (.int v7_2), .val (.int v8_3), .val (.int v9_5), .val (.int (own_draw d1 v7_2)), .unset, .unset, .unset, .unset, .unset, .unset, .unset, .unset]) rfl kk_) ?_
  show Goes p e below _ (T6.setTop (mkF m 35 #[.val (.int t0), .val (.int t1), .val (.int t2), .val (.int d0), .val (.int d1), .val (.int d2), .val (.int v6_1), .val (.int v7_2), .val (.int v8_3), .val (.int v9_5), .val (.int (own_draw d1 v7_2)), .unset, .unset, .unset, .unset, .unset, .unset, .unset, .unset] []))
  generalize hv_v10_7 : (own_draw d1 v7_2) = v10_7
  show Goes p e below _ (T6.setTop (mkF m 35 #[.val (.int t0), .val (.int t1), .val (.int t2), .val (.int d0), .val (.int d1), .val (.int d2), .val (.int v6_1), .val (.int v7_2), .val (.int v8_3), .val (.int v9_5), .val (.int v10_7), .unset, .unset, .unset, .unset, .unset, .unset, .unset, .unset] []))
  refine Goes.via (fun _ kk_ => XS.iload X6.here hx rfl (hb hby at_35) rfl  kk_) ?_
  show Goes p e below _ (T6.setTop (mkF m 37 #[.val (.int t0), .val (.int t1), .val (.int t2), .val (.int d0), .val (.int d1), .val (.int d2), .val (.int v6_1), .val (.int v7_2), .val (.int v8_3), .val (.int v9_5), .val (.int v10_7), .unset, .unset, .unset, .unset, .unset, .unset, .unset, .unset] [(.int d2)]))
  refine Goes.via (fun _ kk_ => XS.iload X6.here hx rfl (hb hby at_37) rfl  kk_) ?_
  show Goes p e below _ (T6.setTop (mkF m 39 #[.val (.int t0), .val (.int t1), .val (.int t2), .val (.int d0), .val (.int d1), .val (.int d2), .val (.int v6_1), .val (.int v7_2), .val (.int v8_3), .val (.int v9_5), .val (.int v10_7), .unset, .unset, .unset, .unset, .unset, .unset, .unset, .unset] [(.int v8_3), (.int d2)]))
  obtain ⟨_, _, ⟨T8, L8, k8, n8⟩, -, X8, ⟨Lc8, hQ8, l8, y8, z8⟩, st8⟩ := Jvm.LawKit.callS X6 hx (y := (⟨"com/example/earnest_nets/earnestnets/ChoicesCountDownPinLaw", "draw", "(II)I"⟩ : MethodName)) hown (mvT hZ (hw _ (List.mem_of_getElem? (i := 1) rfl))) (mvT hZ (hw _ (List.mem_of_getElem? (i := 2) rfl))) (mvT hZ (hw _ (List.mem_of_getElem? (i := 3) rfl))) (mvT hZ (hw _ (List.mem_of_getElem? (i := 4) rfl))) (by decide) (backOf (W := 0) (rm1 l Z a0 hw [] d2 v8_3 h0 n0 (Nat.le_trans Z0 (Nat.le_refl _)) hu8) hZ (hw _ (List.mem_of_getElem? (i := 4) rfl)) (hw _ (List.mem_of_getElem? (i := 3) rfl)) (by decide) (by decide)) (g := (mkF m 39 #[.val (.int t0), .val (.int t1), .val (.int t2), .val (.int d0), .val (.int d1), .val (.int d2), .val (.int v6_1), .val (.int v7_2), .val (.int v8_3), .val (.int v9_5), .val (.int v10_7), .unset, .unset, .unset, .unset, .unset, .unset, .unset, .unset] [(.int v8_3), (.int d2)])) rfl (by rw [hml]; rfl) (argsL := [(.int d2), (.int v8_3)]) (rest := []) (lenOf pd_0 rfl) rfl (by show 2 * 0 + _ ≤ _; exact Nat.le_of_eq rfl) (hb hby at_39) (fun _ _ => ⟨rfl, e6', (by first | decide | omega : 0 + 0 ≤ _), (by first | decide | omega : 0 + 0 ≤ _)⟩)
  dsimp only [Pt.U, Pt.locs, Pt.cells, Pt.slots] at X8 l8 y8 z8 st8 hQ8
  subst l8 y8 z8
  obtain ⟨rfl, N8q, e8⟩ := hQ8
  have N8 := Fr.app N6 N8q
  refine Goes.via st8 ?_
  have e8' : T8.heap = h0 := e8
  show Goes p e below _ (T8.setTop (mkF m 42 #[.val (.int t0), .val (.int t1), .val (.int t2), .val (.int d0), .val (.int d1), .val (.int d2), .val (.int v6_1), .val (.int v7_2), .val (.int v8_3), .val (.int v9_5), .val (.int v10_7), .unset, .unset, .unset, .unset, .unset, .unset, .unset, .unset] [(.int (own_draw d2 v8_3))]))
  refine Goes.via (fun _ kk_ => XS.istore X8.here hx rfl (hb hby at_42) rfl (l' := #[.val (.int t0), .val (.int t1), .val (.int t2), .val (.int d0), .val (.int d1), .val (.int d2), .val (.int v6_1), .val (.int v7_2), .val (.int v8_3), .val (.int v9_5), .val (.int v10_7), .val (.int (own_draw d2 v8_3)), .unset, .unset, .unset, .unset, .unset, .unset, .unset]) rfl kk_) ?_
  show Goes p e below _ (T8.setTop (mkF m 44 #[.val (.int t0), .val (.int t1), .val (.int t2), .val (.int d0), .val (.int d1), .val (.int d2), .val (.int v6_1), .val (.int v7_2), .val (.int v8_3), .val (.int v9_5), .val (.int v10_7), .val (.int (own_draw d2 v8_3)), .unset, .unset, .unset, .unset, .unset, .unset, .unset] []))
  generalize hv_v11_9 : (own_draw d2 v8_3) = v11_9
  show Goes p e below _ (T8.setTop (mkF m 44 #[.val (.int t0), .val (.int t1), .val (.int t2), .val (.int d0), .val (.int d1), .val (.int d2), .val (.int v6_1), .val (.int v7_2), .val (.int v8_3), .val (.int v9_5), .val (.int v10_7), .val (.int v11_9), .unset, .unset, .unset, .unset, .unset, .unset, .unset] []))
  have hp9 : ¬ v9_5 < (0 : Int32) := by rw [← hv_v9_5]; exact own_draw_nn _ hu6
  have hp10 : ¬ v10_7 < (0 : Int32) := by rw [← hv_v10_7]; exact own_draw_nn _ hu7
  have hp11 : ¬ v11_9 < (0 : Int32) := by rw [← hv_v11_9]; exact own_draw_nn _ hu8
  refine Goes.via (fun _ kk_ => XS.iconst X8.here hx rfl (hb hby at_44) kk_) ?_
  show Goes p e below _ (T8.setTop (mkF m 45 #[.val (.int t0), .val (.int t1), .val (.int t2), .val (.int d0), .val (.int d1), .val (.int d2), .val (.int v6_1), .val (.int v7_2), .val (.int v8_3), .val (.int v9_5), .val (.int v10_7), .val (.int v11_9), .unset, .unset, .unset, .unset, .unset, .unset, .unset] [(.int (3 : Int32))]))
  obtain ⟨T10, h10, k10, X10, e10, E10, A10, st10⟩ := own_newP X8 hx hZ (hw _ (List.mem_of_getElem? (i := 5) rfl)) e8' (g := (mkF m 45 #[.val (.int t0), .val (.int t1), .val (.int t2), .val (.int d0), .val (.int d1), .val (.int d2), .val (.int v6_1), .val (.int v7_2), .val (.int v8_3), .val (.int v9_5), .val (.int v10_7), .val (.int v11_9), .unset, .unset, .unset, .unset, .unset, .unset, .unset] [(.int (3 : Int32))])) rfl (hb hby at_45) rfl (n := (3 : Int32)) (N := 3) (by decide) (by decide) (cap := 3) (by first | decide | omega) (by first | decide | omega) (by first | decide | omega) (by first | decide | omega)
  obtain ⟨b10, g10⟩ : ∃ z, z = (h0).size := ⟨_, rfl⟩
  rw [← g10] at A10 st10
  have sz_b10 : h0.size ≤ b10 := Nat.le_trans (Nat.le_refl _) (Nat.le_of_eq g10.symm)
  have gn_b10 : n0 ≤ b10 := Nat.le_trans Z0 sz_b10
  refine Goes.via st10 ?_
  show Goes p e below _ (T10.setTop (mkF m 47 #[.val (.int t0), .val (.int t1), .val (.int t2), .val (.int d0), .val (.int d1), .val (.int d2), .val (.int v6_1), .val (.int v7_2), .val (.int v8_3), .val (.int v9_5), .val (.int v10_7), .val (.int v11_9), .unset, .unset, .unset, .unset, .unset, .unset, .unset] [(.ref b10)]))
  refine Goes.via (fun _ kk_ => XS.dup X10.here hx rfl (hb hby at_47) rfl rfl kk_) ?_
  show Goes p e below _ (T10.setTop (mkF m 48 #[.val (.int t0), .val (.int t1), .val (.int t2), .val (.int d0), .val (.int d1), .val (.int d2), .val (.int v6_1), .val (.int v7_2), .val (.int v8_3), .val (.int v9_5), .val (.int v10_7), .val (.int v11_9), .unset, .unset, .unset, .unset, .unset, .unset, .unset] [(.ref b10), (.ref b10)]))
  refine Goes.via (fun _ kk_ => XS.iconst X10.here hx rfl (hb hby at_48) kk_) ?_
  show Goes p e below _ (T10.setTop (mkF m 49 #[.val (.int t0), .val (.int t1), .val (.int t2), .val (.int d0), .val (.int d1), .val (.int d2), .val (.int v6_1), .val (.int v7_2), .val (.int v8_3), .val (.int v9_5), .val (.int v10_7), .val (.int v11_9), .unset, .unset, .unset, .unset, .unset, .unset, .unset] [(.int (0 : Int32)), (.ref b10), (.ref b10)]))
  refine Goes.via (fun _ kk_ => XS.iload X10.here hx rfl (hb hby at_49) rfl  kk_) ?_
  show Goes p e below _ (T10.setTop (mkF m 51 #[.val (.int t0), .val (.int t1), .val (.int t2), .val (.int d0), .val (.int d1), .val (.int d2), .val (.int v6_1), .val (.int v7_2), .val (.int v8_3), .val (.int v9_5), .val (.int v10_7), .val (.int v11_9), .unset, .unset, .unset, .unset, .unset, .unset, .unset] [(.int v9_5), (.int (0 : Int32)), (.ref b10), (.ref b10)]))
  obtain ⟨T11, h11, X11, e11, W11, A11, st11⟩ := own_iastore X10 hx hZ e10 A10 (j := (0 : Int32)) (i := 0) (by decide) (by decide) (by first | decide | omega) (g := (mkF m 51 #[.val (.int t0), .val (.int t1), .val (.int t2), .val (.int d0), .val (.int d1), .val (.int d2), .val (.int v6_1), .val (.int v7_2), .val (.int v8_3), .val (.int v9_5), .val (.int v10_7), .val (.int v11_9), .unset, .unset, .unset, .unset, .unset, .unset, .unset] [(.int v9_5), (.int (0 : Int32)), (.ref b10), (.ref b10)])) rfl rfl (hb hby at_51)
  refine Goes.via st11 ?_
  have N11 := Fr.snoc X11 N8 gn_b10
  show Goes p e below _ (T11.setTop (mkF m 52 #[.val (.int t0), .val (.int t1), .val (.int t2), .val (.int d0), .val (.int d1), .val (.int d2), .val (.int v6_1), .val (.int v7_2), .val (.int v8_3), .val (.int v9_5), .val (.int v10_7), .val (.int v11_9), .unset, .unset, .unset, .unset, .unset, .unset, .unset] [(.ref b10)]))
  refine Goes.via (fun _ kk_ => XS.dup X11.here hx rfl (hb hby at_52) rfl rfl kk_) ?_
  show Goes p e below _ (T11.setTop (mkF m 53 #[.val (.int t0), .val (.int t1), .val (.int t2), .val (.int d0), .val (.int d1), .val (.int d2), .val (.int v6_1), .val (.int v7_2), .val (.int v8_3), .val (.int v9_5), .val (.int v10_7), .val (.int v11_9), .unset, .unset, .unset, .unset, .unset, .unset, .unset] [(.ref b10), (.ref b10)]))
  refine Goes.via (fun _ kk_ => XS.iconst X11.here hx rfl (hb hby at_53) kk_) ?_
  show Goes p e below _ (T11.setTop (mkF m 54 #[.val (.int t0), .val (.int t1), .val (.int t2), .val (.int d0), .val (.int d1), .val (.int d2), .val (.int v6_1), .val (.int v7_2), .val (.int v8_3), .val (.int v9_5), .val (.int v10_7), .val (.int v11_9), .unset, .unset, .unset, .unset, .unset, .unset, .unset] [(.int (1 : Int32)), (.ref b10), (.ref b10)]))
  refine Goes.via (fun _ kk_ => XS.iload X11.here hx rfl (hb hby at_54) rfl  kk_) ?_
  show Goes p e below _ (T11.setTop (mkF m 56 #[.val (.int t0), .val (.int t1), .val (.int t2), .val (.int d0), .val (.int d1), .val (.int d2), .val (.int v6_1), .val (.int v7_2), .val (.int v8_3), .val (.int v9_5), .val (.int v10_7), .val (.int v11_9), .unset, .unset, .unset, .unset, .unset, .unset, .unset] [(.int v10_7), (.int (1 : Int32)), (.ref b10), (.ref b10)]))
  obtain ⟨T12, h12, X12, e12, W12, A12, st12⟩ := own_iastore X11 hx hZ e11 A11 (j := (1 : Int32)) (i := 1) (by decide) (by decide) (by first | decide | omega) (g := (mkF m 56 #[.val (.int t0), .val (.int t1), .val (.int t2), .val (.int d0), .val (.int d1), .val (.int d2), .val (.int v6_1), .val (.int v7_2), .val (.int v8_3), .val (.int v9_5), .val (.int v10_7), .val (.int v11_9), .unset, .unset, .unset, .unset, .unset, .unset, .unset] [(.int v10_7), (.int (1 : Int32)), (.ref b10), (.ref b10)])) rfl rfl (hb hby at_56)
  refine Goes.via st12 ?_
  have N12 := Fr.snoc X12 N11 gn_b10
  show Goes p e below _ (T12.setTop (mkF m 57 #[.val (.int t0), .val (.int t1), .val (.int t2), .val (.int d0), .val (.int d1), .val (.int d2), .val (.int v6_1), .val (.int v7_2), .val (.int v8_3), .val (.int v9_5), .val (.int v10_7), .val (.int v11_9), .unset, .unset, .unset, .unset, .unset, .unset, .unset] [(.ref b10)]))
  refine Goes.via (fun _ kk_ => XS.dup X12.here hx rfl (hb hby at_57) rfl rfl kk_) ?_
  show Goes p e below _ (T12.setTop (mkF m 58 #[.val (.int t0), .val (.int t1), .val (.int t2), .val (.int d0), .val (.int d1), .val (.int d2), .val (.int v6_1), .val (.int v7_2), .val (.int v8_3), .val (.int v9_5), .val (.int v10_7), .val (.int v11_9), .unset, .unset, .unset, .unset, .unset, .unset, .unset] [(.ref b10), (.ref b10)]))
  refine Goes.via (fun _ kk_ => XS.iconst X12.here hx rfl (hb hby at_58) kk_) ?_
  show Goes p e below _ (T12.setTop (mkF m 59 #[.val (.int t0), .val (.int t1), .val (.int t2), .val (.int d0), .val (.int d1), .val (.int d2), .val (.int v6_1), .val (.int v7_2), .val (.int v8_3), .val (.int v9_5), .val (.int v10_7), .val (.int v11_9), .unset, .unset, .unset, .unset, .unset, .unset, .unset] [(.int (2 : Int32)), (.ref b10), (.ref b10)]))
  refine Goes.via (fun _ kk_ => XS.iload X12.here hx rfl (hb hby at_59) rfl  kk_) ?_
  show Goes p e below _ (T12.setTop (mkF m 61 #[.val (.int t0), .val (.int t1), .val (.int t2), .val (.int d0), .val (.int d1), .val (.int d2), .val (.int v6_1), .val (.int v7_2), .val (.int v8_3), .val (.int v9_5), .val (.int v10_7), .val (.int v11_9), .unset, .unset, .unset, .unset, .unset, .unset, .unset] [(.int v11_9), (.int (2 : Int32)), (.ref b10), (.ref b10)]))
  obtain ⟨T13, h13, X13, e13, W13, A13, st13⟩ := own_iastore X12 hx hZ e12 A12 (j := (2 : Int32)) (i := 2) (by decide) (by decide) (by first | decide | omega) (g := (mkF m 61 #[.val (.int t0), .val (.int t1), .val (.int t2), .val (.int d0), .val (.int d1), .val (.int d2), .val (.int v6_1), .val (.int v7_2), .val (.int v8_3), .val (.int v9_5), .val (.int v10_7), .val (.int v11_9), .unset, .unset, .unset, .unset, .unset, .unset, .unset] [(.int v11_9), (.int (2 : Int32)), (.ref b10), (.ref b10)])) rfl rfl (hb hby at_61)
  refine Goes.via st13 ?_
  have N13 := Fr.snoc X13 N12 gn_b10
  show Goes p e below _ (T13.setTop (mkF m 62 #[.val (.int t0), .val (.int t1), .val (.int t2), .val (.int d0), .val (.int d1), .val (.int d2), .val (.int v6_1), .val (.int v7_2), .val (.int v8_3), .val (.int v9_5), .val (.int v10_7), .val (.int v11_9), .unset, .unset, .unset, .unset, .unset, .unset, .unset] [(.ref b10)]))
  have Ag0 : Arw Z h13 b10 k10 .int 3 (own_a3 v9_5 v10_7 v11_9) := A13.to (fun i hi => by rcases own_lt3 hi with rfl | rfl | rfl <;> simp [own_upd, own_a3])
  refine Goes.via (fun _ kk_ => XS.astore X13.here hx rfl (hb hby at_62) rfl rfl (l' := #[.val (.int t0), .val (.int t1), .val (.int t2), .val (.int d0), .val (.int d1), .val (.int d2), .val (.int v6_1), .val (.int v7_2), .val (.int v8_3), .val (.int v9_5), .val (.int v10_7), .val (.int v11_9), .val (.ref b10), .unset, .unset, .unset, .unset, .unset, .unset]) rfl kk_) ?_
  show Goes p e below _ (T13.setTop (mkF m 64 #[.val (.int t0), .val (.int t1), .val (.int t2), .val (.int d0), .val (.int d1), .val (.int d2), .val (.int v6_1), .val (.int v7_2), .val (.int v8_3), .val (.int v9_5), .val (.int v10_7), .val (.int v11_9), .val (.ref b10), .unset, .unset, .unset, .unset, .unset, .unset] []))
  refine Goes.via (fun _ kk_ => XS.iconst X13.here hx rfl (hb hby at_64) kk_) ?_
  show Goes p e below _ (T13.setTop (mkF m 65 #[.val (.int t0), .val (.int t1), .val (.int t2), .val (.int d0), .val (.int d1), .val (.int d2), .val (.int v6_1), .val (.int v7_2), .val (.int v8_3), .val (.int v9_5), .val (.int v10_7), .val (.int v11_9), .val (.ref b10), .unset, .unset, .unset, .unset, .unset, .unset] [(.int (3 : Int32))]))
  obtain ⟨T14, h14, k14, X14, e14, E14, A14, st14⟩ := own_newP X13 hx hZ (hw _ (List.mem_of_getElem? (i := 5) rfl)) e13 (g := (mkF m 65 #[.val (.int t0), .val (.int t1), .val (.int t2), .val (.int d0), .val (.int d1), .val (.int d2), .val (.int v6_1), .val (.int v7_2), .val (.int v8_3), .val (.int v9_5), .val (.int v10_7), .val (.int v11_9), .val (.ref b10), .unset, .unset, .unset, .unset, .unset, .unset] [(.int (3 : Int32))])) rfl (hb hby at_65) rfl (n := (3 : Int32)) (N := 3) (by decide) (by decide) (cap := 3) (by first | decide | omega) (by first | decide | omega) (by first | decide | omega) (by first | decide | omega)
  obtain ⟨b14, g14⟩ : ∃ z, z = (h13).size := ⟨_, rfl⟩
  rw [← g14] at A14 st14
  have lne15 : b10 < b14 := Nat.lt_of_lt_of_le Ag0.lt (Nat.le_of_eq g14.symm)
  have ne15 : b10 ≠ b14 := Nat.ne_of_lt lne15
  have z16 : h0.size ≤ (h13).size := (Nat.le_trans (Nat.le_trans (Nat.le_trans (Nat.le_trans (Nat.le_refl _) E10.1) (Nat.le_of_eq W11.size.symm)) (Nat.le_of_eq W12.size.symm)) (Nat.le_of_eq W13.size.symm))
  have sz_b14 : h0.size ≤ b14 := Nat.le_trans z16 (Nat.le_of_eq g14.symm)
  have gn_b14 : n0 ≤ b14 := Nat.le_trans Z0 sz_b14
  refine Goes.via st14 ?_
  show Goes p e below _ (T14.setTop (mkF m 67 #[.val (.int t0), .val (.int t1), .val (.int t2), .val (.int d0), .val (.int d1), .val (.int d2), .val (.int v6_1), .val (.int v7_2), .val (.int v8_3), .val (.int v9_5), .val (.int v10_7), .val (.int v11_9), .val (.ref b10), .unset, .unset, .unset, .unset, .unset, .unset] [(.ref b14)]))
  refine Goes.via (fun _ kk_ => XS.dup X14.here hx rfl (hb hby at_67) rfl rfl kk_) ?_
  show Goes p e below _ (T14.setTop (mkF m 68 #[.val (.int t0), .val (.int t1), .val (.int t2), .val (.int d0), .val (.int d1), .val (.int d2), .val (.int v6_1), .val (.int v7_2), .val (.int v8_3), .val (.int v9_5), .val (.int v10_7), .val (.int v11_9), .val (.ref b10), .unset, .unset, .unset, .unset, .unset, .unset] [(.ref b14), (.ref b14)]))
  refine Goes.via (fun _ kk_ => XS.iconst X14.here hx rfl (hb hby at_68) kk_) ?_
  show Goes p e below _ (T14.setTop (mkF m 69 #[.val (.int t0), .val (.int t1), .val (.int t2), .val (.int d0), .val (.int d1), .val (.int d2), .val (.int v6_1), .val (.int v7_2), .val (.int v8_3), .val (.int v9_5), .val (.int v10_7), .val (.int v11_9), .val (.ref b10), .unset, .unset, .unset, .unset, .unset, .unset] [(.int (0 : Int32)), (.ref b14), (.ref b14)]))
  refine Goes.via (fun _ kk_ => XS.iload X14.here hx rfl (hb hby at_69) rfl  kk_) ?_
  show Goes p e below _ (T14.setTop (mkF m 71 #[.val (.int t0), .val (.int t1), .val (.int t2), .val (.int d0), .val (.int d1), .val (.int d2), .val (.int v6_1), .val (.int v7_2), .val (.int v8_3), .val (.int v9_5), .val (.int v10_7), .val (.int v11_9), .val (.ref b10), .unset, .unset, .unset, .unset, .unset, .unset] [(.int v6_1), (.int (0 : Int32)), (.ref b14), (.ref b14)]))
  obtain ⟨T17, h17, X17, e17, W17, A17, st17⟩ := own_iastore X14 hx hZ e14 A14 (j := (0 : Int32)) (i := 0) (by decide) (by decide) (by first | decide | omega) (g := (mkF m 71 #[.val (.int t0), .val (.int t1), .val (.int t2), .val (.int d0), .val (.int d1), .val (.int d2), .val (.int v6_1), .val (.int v7_2), .val (.int v8_3), .val (.int v9_5), .val (.int v10_7), .val (.int v11_9), .val (.ref b10), .unset, .unset, .unset, .unset, .unset, .unset] [(.int v6_1), (.int (0 : Int32)), (.ref b14), (.ref b14)])) rfl rfl (hb hby at_71)
  refine Goes.via st17 ?_
  have N17 := Fr.snoc X17 N13 gn_b14
  show Goes p e below _ (T17.setTop (mkF m 72 #[.val (.int t0), .val (.int t1), .val (.int t2), .val (.int d0), .val (.int d1), .val (.int d2), .val (.int v6_1), .val (.int v7_2), .val (.int v8_3), .val (.int v9_5), .val (.int v10_7), .val (.int v11_9), .val (.ref b10), .unset, .unset, .unset, .unset, .unset, .unset] [(.ref b14)]))
  refine Goes.via (fun _ kk_ => XS.dup X17.here hx rfl (hb hby at_72) rfl rfl kk_) ?_
  show Goes p e below _ (T17.setTop (mkF m 73 #[.val (.int t0), .val (.int t1), .val (.int t2), .val (.int d0), .val (.int d1), .val (.int d2), .val (.int v6_1), .val (.int v7_2), .val (.int v8_3), .val (.int v9_5), .val (.int v10_7), .val (.int v11_9), .val (.ref b10), .unset, .unset, .unset, .unset, .unset, .unset] [(.ref b14), (.ref b14)]))
  refine Goes.via (fun _ kk_ => XS.iconst X17.here hx rfl (hb hby at_73) kk_) ?_
  show Goes p e below _ (T17.setTop (mkF m 74 #[.val (.int t0), .val (.int t1), .val (.int t2), .val (.int d0), .val (.int d1), .val (.int d2), .val (.int v6_1), .val (.int v7_2), .val (.int v8_3), .val (.int v9_5), .val (.int v10_7), .val (.int v11_9), .val (.ref b10), .unset, .unset, .unset, .unset, .unset, .unset] [(.int (1 : Int32)), (.ref b14), (.ref b14)]))
  refine Goes.via (fun _ kk_ => XS.iload X17.here hx rfl (hb hby at_74) rfl  kk_) ?_
  show Goes p e below _ (T17.setTop (mkF m 76 #[.val (.int t0), .val (.int t1), .val (.int t2), .val (.int d0), .val (.int d1), .val (.int d2), .val (.int v6_1), .val (.int v7_2), .val (.int v8_3), .val (.int v9_5), .val (.int v10_7), .val (.int v11_9), .val (.ref b10), .unset, .unset, .unset, .unset, .unset, .unset] [(.int v7_2), (.int (1 : Int32)), (.ref b14), (.ref b14)]))
  obtain ⟨T18, h18, X18, e18, W18, A18, st18⟩ := own_iastore X17 hx hZ e17 A17 (j := (1 : Int32)) (i := 1) (by decide) (by decide) (by first | decide | omega) (g := (mkF m 76 #[.val (.int t0), .val (.int t1), .val (.int t2), .val (.int d0), .val (.int d1), .val (.int d2), .val (.int v6_1), .val (.int v7_2), .val (.int v8_3), .val (.int v9_5), .val (.int v10_7), .val (.int v11_9), .val (.ref b10), .unset, .unset, .unset, .unset, .unset, .unset] [(.int v7_2), (.int (1 : Int32)), (.ref b14), (.ref b14)])) rfl rfl (hb hby at_76)
  refine Goes.via st18 ?_
  have N18 := Fr.snoc X18 N17 gn_b14
  show Goes p e below _ (T18.setTop (mkF m 77 #[.val (.int t0), .val (.int t1), .val (.int t2), .val (.int d0), .val (.int d1), .val (.int d2), .val (.int v6_1), .val (.int v7_2), .val (.int v8_3), .val (.int v9_5), .val (.int v10_7), .val (.int v11_9), .val (.ref b10), .unset, .unset, .unset, .unset, .unset, .unset] [(.ref b14)]))
  refine Goes.via (fun _ kk_ => XS.dup X18.here hx rfl (hb hby at_77) rfl rfl kk_) ?_
  show Goes p e below _ (T18.setTop (mkF m 78 #[.val (.int t0), .val (.int t1), .val (.int t2), .val (.int d0), .val (.int d1), .val (.int d2), .val (.int v6_1), .val (.int v7_2), .val (.int v8_3), .val (.int v9_5), .val (.int v10_7), .val (.int v11_9), .val (.ref b10), .unset, .unset, .unset, .unset, .unset, .unset] [(.ref b14), (.ref b14)]))
  refine Goes.via (fun _ kk_ => XS.iconst X18.here hx rfl (hb hby at_78) kk_) ?_
  show Goes p e below _ (T18.setTop (mkF m 79 #[.val (.int t0), .val (.int t1), .val (.int t2), .val (.int d0), .val (.int d1), .val (.int d2), .val (.int v6_1), .val (.int v7_2), .val (.int v8_3), .val (.int v9_5), .val (.int v10_7), .val (.int v11_9), .val (.ref b10), .unset, .unset, .unset, .unset, .unset, .unset] [(.int (2 : Int32)), (.ref b14), (.ref b14)]))
  refine Goes.via (fun _ kk_ => XS.iload X18.here hx rfl (hb hby at_79) rfl  kk_) ?_
  show Goes p e below _ (T18.setTop (mkF m 81 #[.val (.int t0), .val (.int t1), .val (.int t2), .val (.int d0), .val (.int d1), .val (.int d2), .val (.int v6_1), .val (.int v7_2), .val (.int v8_3), .val (.int v9_5), .val (.int v10_7), .val (.int v11_9), .val (.ref b10), .unset, .unset, .unset, .unset, .unset, .unset] [(.int v8_3), (.int (2 : Int32)), (.ref b14), (.ref b14)]))
  obtain ⟨T19, h19, X19, e19, W19, A19, st19⟩ := own_iastore X18 hx hZ e18 A18 (j := (2 : Int32)) (i := 2) (by decide) (by decide) (by first | decide | omega) (g := (mkF m 81 #[.val (.int t0), .val (.int t1), .val (.int t2), .val (.int d0), .val (.int d1), .val (.int d2), .val (.int v6_1), .val (.int v7_2), .val (.int v8_3), .val (.int v9_5), .val (.int v10_7), .val (.int v11_9), .val (.ref b10), .unset, .unset, .unset, .unset, .unset, .unset] [(.int v8_3), (.int (2 : Int32)), (.ref b14), (.ref b14)])) rfl rfl (hb hby at_81)
  refine Goes.via st19 ?_
  have N19 := Fr.snoc X19 N18 gn_b14
  show Goes p e below _ (T19.setTop (mkF m 82 #[.val (.int t0), .val (.int t1), .val (.int t2), .val (.int d0), .val (.int d1), .val (.int d2), .val (.int v6_1), .val (.int v7_2), .val (.int v8_3), .val (.int v9_5), .val (.int v10_7), .val (.int v11_9), .val (.ref b10), .unset, .unset, .unset, .unset, .unset, .unset] [(.ref b14)]))
  have Ag1 : Arw Z h19 b14 k14 .int 3 (own_a3 v6_1 v7_2 v8_3) := A19.to (fun i hi => by rcases own_lt3 hi with rfl | rfl | rfl <;> simp [own_upd, own_a3])
  refine Goes.via (fun _ kk_ => XS.astore X19.here hx rfl (hb hby at_82) rfl rfl (l' := #[.val (.int t0), .val (.int t1), .val (.int t2), .val (.int d0), .val (.int d1), .val (.int d2), .val (.int v6_1), .val (.int v7_2), .val (.int v8_3), .val (.int v9_5), .val (.int v10_7), .val (.int v11_9), .val (.ref b10), .val (.ref b14), .unset, .unset, .unset, .unset, .unset]) rfl kk_) ?_
  show Goes p e below _ (T19.setTop (mkF m 84 #[.val (.int t0), .val (.int t1), .val (.int t2), .val (.int d0), .val (.int d1), .val (.int d2), .val (.int v6_1), .val (.int v7_2), .val (.int v8_3), .val (.int v9_5), .val (.int v10_7), .val (.int v11_9), .val (.ref b10), .val (.ref b14), .unset, .unset, .unset, .unset, .unset] []))
  refine Goes.via (fun _ kk_ => XS.aload X19.here hx rfl (hb hby at_84) rfl rfl  kk_) ?_
  show Goes p e below _ (T19.setTop (mkF m 86 #[.val (.int t0), .val (.int t1), .val (.int t2), .val (.int d0), .val (.int d1), .val (.int d2), .val (.int v6_1), .val (.int v7_2), .val (.int v8_3), .val (.int v9_5), .val (.int v10_7), .val (.int v11_9), .val (.ref b10), .val (.ref b14), .unset, .unset, .unset, .unset, .unset] [(.ref b10)]))
  refine Goes.via (fun _ kk_ => XS.aload X19.here hx rfl (hb hby at_86) rfl rfl  kk_) ?_
  show Goes p e below _ (T19.setTop (mkF m 88 #[.val (.int t0), .val (.int t1), .val (.int t2), .val (.int d0), .val (.int d1), .val (.int d2), .val (.int v6_1), .val (.int v7_2), .val (.int v8_3), .val (.int v9_5), .val (.int v10_7), .val (.int v11_9), .val (.ref b10), .val (.ref b14), .unset, .unset, .unset, .unset, .unset] [(.ref b14), (.ref b10)]))
  have f20 : Arw Z h19 b10 k10 .int 3 (own_a3 v9_5 v10_7 v11_9) := ((((Ag0.ext E14).other W17 ne15).other W18 ne15).other W19 ne15)
  have z22 : h0.size ≤ (h19).size := (Nat.le_trans (Nat.le_trans (Nat.le_trans (Nat.le_trans z16 E14.1) (Nat.le_of_eq W17.size.symm)) (Nat.le_of_eq W18.size.symm)) (Nat.le_of_eq W19.size.symm))
  obtain ⟨_, _, ⟨T21, L21, k21, n21⟩, -, X21, ⟨Lc21, hQ21, l21, y21, z21⟩, st21⟩ := Jvm.LawKit.callS X19 hx (y := (⟨"com/example/earnest_nets/earnestnets/Choices", "countDown", "([I[I)Z"⟩ : MethodName)) hown (mvT hZ (hw _ (List.mem_of_getElem? (i := 6) rfl))) (mvT hZ (hw _ (List.mem_of_getElem? (i := 7) rfl))) (mvT hZ (hw _ (List.mem_of_getElem? (i := 8) rfl))) (mvT hZ (hw _ (List.mem_of_getElem? (i := 9) rfl))) (by decide) (backOf (W := 0) (rm2 l Z a0 hw [] b10 b14 k10 k14 v9_5 v10_7 v11_9 v6_1 v7_2 v8_3 h19 n0 (Nat.le_trans Z0 z22) f20 Ag1 ne15 gn_b10) hZ (hw _ (List.mem_of_getElem? (i := 9) rfl)) (hw _ (List.mem_of_getElem? (i := 8) rfl)) (by decide) (by decide)) (g := (mkF m 88 #[.val (.int t0), .val (.int t1), .val (.int t2), .val (.int d0), .val (.int d1), .val (.int d2), .val (.int v6_1), .val (.int v7_2), .val (.int v8_3), .val (.int v9_5), .val (.int v10_7), .val (.int v11_9), .val (.ref b10), .val (.ref b14), .unset, .unset, .unset, .unset, .unset] [(.ref b14), (.ref b10)])) rfl (by rw [hml]; rfl) (argsL := [(.ref b10), (.ref b14)]) (rest := []) (lenOf pd_1 rfl) rfl (by show 2 * 0 + _ ≤ _; exact Nat.le_of_eq rfl) (hb hby at_88) (fun _ _ => ⟨rfl, e19, (by first | decide | omega : 2 + 0 ≤ _), (by first | decide | omega : 6 + 0 ≤ _)⟩)
  dsimp only [Pt.U, Pt.locs, Pt.cells, Pt.slots] at X21 l21 y21 z21 st21 hQ21
  subst l21 y21 z21
  obtain ⟨rfl, N21q, K21, u21_0⟩ := hQ21
  have N21 := Fr.app N19 N21q
  refine Goes.via st21 ?_
  show Goes p e below _ (T21.setTop (mkF m 91 #[.val (.int t0), .val (.int t1), .val (.int t2), .val (.int d0), .val (.int d1), .val (.int d2), .val (.int v6_1), .val (.int v7_2), .val (.int v8_3), .val (.int v9_5), .val (.int v10_7), .val (.int v11_9), .val (.ref b10), .val (.ref b14), .unset, .unset, .unset, .unset, .unset] [(.int (own_r v9_5 v10_7 v11_9))]))
  refine Goes.via (fun _ kk_ => XS.istore X21.here hx rfl (hb hby at_91) rfl (l' := #[.val (.int t0), .val (.int t1), .val (.int t2), .val (.int d0), .val (.int d1), .val (.int d2), .val (.int v6_1), .val (.int v7_2), .val (.int v8_3), .val (.int v9_5), .val (.int v10_7), .val (.int v11_9), .val (.ref b10), .val (.ref b14), .val (.int (own_r v9_5 v10_7 v11_9)), .unset, .unset, .unset, .unset]) rfl kk_) ?_
  show Goes p e below _ (T21.setTop (mkF m 93 #[.val (.int t0), .val (.int t1), .val (.int t2), .val (.int d0), .val (.int d1), .val (.int d2), .val (.int v6_1), .val (.int v7_2), .val (.int v8_3), .val (.int v9_5), .val (.int v10_7), .val (.int v11_9), .val (.ref b10), .val (.ref b14), .val (.int (own_r v9_5 v10_7 v11_9)), .unset, .unset, .unset, .unset] []))
  refine Goes.via (fun _ kk_ => XS.iload X21.here hx rfl (hb hby at_93) rfl  kk_) ?_
  show Goes p e below _ (T21.setTop (mkF m 95 #[.val (.int t0), .val (.int t1), .val (.int t2), .val (.int d0), .val (.int d1), .val (.int d2), .val (.int v6_1), .val (.int v7_2), .val (.int v8_3), .val (.int v9_5), .val (.int v10_7), .val (.int v11_9), .val (.ref b10), .val (.ref b14), .val (.int (own_r v9_5 v10_7 v11_9)), .unset, .unset, .unset, .unset] [(.int v11_9)]))
  by_cases hc95 : (0 : Int32) < v11_9
  · skip
    refine Goes.via (fun _ kk_ => XS.ifNo X21.here hx rfl (hb hby at_95) rfl ((if0 _ _).trans (tlt hc95).2.2.2) kk_) ?_
    show Goes p e below _ (T21.setTop (mkF m 98 #[.val (.int t0), .val (.int t1), .val (.int t2), .val (.int d0), .val (.int d1), .val (.int d2), .val (.int v6_1), .val (.int v7_2), .val (.int v8_3), .val (.int v9_5), .val (.int v10_7), .val (.int v11_9), .val (.ref b10), .val (.ref b14), .val (.int (own_r v9_5 v10_7 v11_9)), .unset, .unset, .unset, .unset] []))
    refine Goes.via (fun _ kk_ => XS.iload X21.here hx rfl (hb hby at_98) rfl  kk_) ?_
    show Goes p e below _ (T21.setTop (mkF m 100 #[.val (.int t0), .val (.int t1), .val (.int t2), .val (.int d0), .val (.int d1), .val (.int d2), .val (.int v6_1), .val (.int v7_2), .val (.int v8_3), .val (.int v9_5), .val (.int v10_7), .val (.int v11_9), .val (.ref b10), .val (.ref b14), .val (.int (own_r v9_5 v10_7 v11_9)), .unset, .unset, .unset, .unset] [(.int v9_5)]))
    refine Goes.via (fun _ kk_ => XS.istore X21.here hx rfl (hb hby at_100) rfl (l' := #[.val (.int t0), .val (.int t1), .val (.int t2), .val (.int d0), .val (.int d1), .val (.int d2), .val (.int v6_1), .val (.int v7_2), .val (.int v8_3), .val (.int v9_5), .val (.int v10_7), .val (.int v11_9), .val (.ref b10), .val (.ref b14), .val (.int (own_r v9_5 v10_7 v11_9)), .val (.int v9_5), .unset, .unset, .unset]) rfl kk_) ?_
    show Goes p e below _ (T21.setTop (mkF m 102 #[.val (.int t0), .val (.int t1), .val (.int t2), .val (.int d0), .val (.int d1), .val (.int d2), .val (.int v6_1), .val (.int v7_2), .val (.int v8_3), .val (.int v9_5), .val (.int v10_7), .val (.int v11_9), .val (.ref b10), .val (.ref b14), .val (.int (own_r v9_5 v10_7 v11_9)), .val (.int v9_5), .unset, .unset, .unset] []))
    refine Goes.via (fun _ kk_ => XS.iload X21.here hx rfl (hb hby at_102) rfl  kk_) ?_
    show Goes p e below _ (T21.setTop (mkF m 104 #[.val (.int t0), .val (.int t1), .val (.int t2), .val (.int d0), .val (.int d1), .val (.int d2), .val (.int v6_1), .val (.int v7_2), .val (.int v8_3), .val (.int v9_5), .val (.int v10_7), .val (.int v11_9), .val (.ref b10), .val (.ref b14), .val (.int (own_r v9_5 v10_7 v11_9)), .val (.int v9_5), .unset, .unset, .unset] [(.int v10_7)]))
    refine Goes.via (fun _ kk_ => XS.istore X21.here hx rfl (hb hby at_104) rfl (l' := #[.val (.int t0), .val (.int t1), .val (.int t2), .val (.int d0), .val (.int d1), .val (.int d2), .val (.int v6_1), .val (.int v7_2), .val (.int v8_3), .val (.int v9_5), .val (.int v10_7), .val (.int v11_9), .val (.ref b10), .val (.ref b14), .val (.int (own_r v9_5 v10_7 v11_9)), .val (.int v9_5), .val (.int v10_7), .unset, .unset]) rfl kk_) ?_
    show Goes p e below _ (T21.setTop (mkF m 106 #[.val (.int t0), .val (.int t1), .val (.int t2), .val (.int d0), .val (.int d1), .val (.int d2), .val (.int v6_1), .val (.int v7_2), .val (.int v8_3), .val (.int v9_5), .val (.int v10_7), .val (.int v11_9), .val (.ref b10), .val (.ref b14), .val (.int (own_r v9_5 v10_7 v11_9)), .val (.int v9_5), .val (.int v10_7), .unset, .unset] []))
    refine Goes.via (fun _ kk_ => XS.iload X21.here hx rfl (hb hby at_106) rfl  kk_) ?_
    show Goes p e below _ (T21.setTop (mkF m 108 #[.val (.int t0), .val (.int t1), .val (.int t2), .val (.int d0), .val (.int d1), .val (.int d2), .val (.int v6_1), .val (.int v7_2), .val (.int v8_3), .val (.int v9_5), .val (.int v10_7), .val (.int v11_9), .val (.ref b10), .val (.ref b14), .val (.int (own_r v9_5 v10_7 v11_9)), .val (.int v9_5), .val (.int v10_7), .unset, .unset] [(.int v11_9)]))
    refine Goes.via (fun _ kk_ => XS.iconst X21.here hx rfl (hb hby at_108) kk_) ?_
    show Goes p e below _ (T21.setTop (mkF m 109 #[.val (.int t0), .val (.int t1), .val (.int t2), .val (.int d0), .val (.int d1), .val (.int d2), .val (.int v6_1), .val (.int v7_2), .val (.int v8_3), .val (.int v9_5), .val (.int v10_7), .val (.int v11_9), .val (.ref b10), .val (.ref b14), .val (.int (own_r v9_5 v10_7 v11_9)), .val (.int v9_5), .val (.int v10_7), .unset, .unset] [(.int (1 : Int32)), (.int v11_9)]))
    refine Goes.via (fun _ kk_ => XS.isub X21.here hx rfl (hb hby at_109) rfl kk_) ?_
    show Goes p e below _ (T21.setTop (mkF m 110 #[.val (.int t0), .val (.int t1), .val (.int t2), .val (.int d0), .val (.int d1), .val (.int d2), .val (.int v6_1), .val (.int v7_2), .val (.int v8_3), .val (.int v9_5), .val (.int v10_7), .val (.int v11_9), .val (.ref b10), .val (.ref b14), .val (.int (own_r v9_5 v10_7 v11_9)), .val (.int v9_5), .val (.int v10_7), .unset, .unset] [(.int (v11_9 - (1 : Int32)))]))
    refine Goes.via (fun _ kk_ => XS.istore X21.here hx rfl (hb hby at_110) rfl (l' := #[.val (.int t0), .val (.int t1), .val (.int t2), .val (.int d0), .val (.int d1), .val (.int d2), .val (.int v6_1), .val (.int v7_2), .val (.int v8_3), .val (.int v9_5), .val (.int v10_7), .val (.int v11_9), .val (.ref b10), .val (.ref b14), .val (.int (own_r v9_5 v10_7 v11_9)), .val (.int v9_5), .val (.int v10_7), .val (.int (v11_9 - (1 : Int32))), .unset]) rfl kk_) ?_
    show Goes p e below _ (T21.setTop (mkF m 112 #[.val (.int t0), .val (.int t1), .val (.int t2), .val (.int d0), .val (.int d1), .val (.int d2), .val (.int v6_1), .val (.int v7_2), .val (.int v8_3), .val (.int v9_5), .val (.int v10_7), .val (.int v11_9), .val (.ref b10), .val (.ref b14), .val (.int (own_r v9_5 v10_7 v11_9)), .val (.int v9_5), .val (.int v10_7), .val (.int (v11_9 - (1 : Int32))), .unset] []))
    refine Goes.via (fun _ kk_ => XS.iconst X21.here hx rfl (hb hby at_112) kk_) ?_
    show Goes p e below _ (T21.setTop (mkF m 113 #[.val (.int t0), .val (.int t1), .val (.int t2), .val (.int d0), .val (.int d1), .val (.int d2), .val (.int v6_1), .val (.int v7_2), .val (.int v8_3), .val (.int v9_5), .val (.int v10_7), .val (.int v11_9), .val (.ref b10), .val (.ref b14), .val (.int (own_r v9_5 v10_7 v11_9)), .val (.int v9_5), .val (.int v10_7), .val (.int (v11_9 - (1 : Int32))), .unset] [(.int (1 : Int32))]))
    refine Goes.via (fun _ kk_ => XS.istore X21.here hx rfl (hb hby at_113) rfl (l' := #[.val (.int t0), .val (.int t1), .val (.int t2), .val (.int d0), .val (.int d1), .val (.int d2), .val (.int v6_1), .val (.int v7_2), .val (.int v8_3), .val (.int v9_5), .val (.int v10_7), .val (.int v11_9), .val (.ref b10), .val (.ref b14), .val (.int (own_r v9_5 v10_7 v11_9)), .val (.int v9_5), .val (.int v10_7), .val (.int (v11_9 - (1 : Int32))), .val (.int (1 : Int32))]) rfl kk_) ?_
    show Goes p e below _ (T21.setTop (mkF m 115 #[.val (.int t0), .val (.int t1), .val (.int t2), .val (.int d0), .val (.int d1), .val (.int d2), .val (.int v6_1), .val (.int v7_2), .val (.int v8_3), .val (.int v9_5), .val (.int v10_7), .val (.int v11_9), .val (.ref b10), .val (.ref b14), .val (.int (own_r v9_5 v10_7 v11_9)), .val (.int v9_5), .val (.int v10_7), .val (.int (v11_9 - (1 : Int32))), .val (.int (1 : Int32))] []))
    refine Goes.via (fun _ kk_ => XS.goto X21.here hx rfl (pc0 := 115) (pc' := 183) rfl (hb hby at_115) (by decide) (by decide) kk_) ?_
    show Goes p e below _ (T21.setTop (mkF m 183 #[.val (.int t0), .val (.int t1), .val (.int t2), .val (.int d0), .val (.int d1), .val (.int d2), .val (.int v6_1), .val (.int v7_2), .val (.int v8_3), .val (.int v9_5), .val (.int v10_7), .val (.int v11_9), .val (.ref b10), .val (.ref b14), .val (.int (own_r v9_5 v10_7 v11_9)), .val (.int v9_5), .val (.int v10_7), .val (.int (v11_9 - (1 : Int32))), .val (.int (1 : Int32))] []))
    have hz2 := own_nz hc95
    refine Goes.via (fun _ kk_ => XS.iload X21.here hx rfl (hb hby at_183) rfl  kk_) ?_
    show Goes p e below _ (T21.setTop (mkF m 185 #[.val (.int t0), .val (.int t1), .val (.int t2), .val (.int d0), .val (.int d1), .val (.int d2), .val (.int v6_1), .val (.int v7_2), .val (.int v8_3), .val (.int v9_5), .val (.int v10_7), .val (.int v11_9), .val (.ref b10), .val (.ref b14), .val (.int (own_r v9_5 v10_7 v11_9)), .val (.int v9_5), .val (.int v10_7), .val (.int (v11_9 - (1 : Int32))), .val (.int (1 : Int32))] [(.int (own_r v9_5 v10_7 v11_9))]))
    refine Goes.via (fun _ kk_ => XS.iload X21.here hx rfl (hb hby at_185) rfl  kk_) ?_
    show Goes p e below _ (T21.setTop (mkF m 187 #[.val (.int t0), .val (.int t1), .val (.int t2), .val (.int d0), .val (.int d1), .val (.int d2), .val (.int v6_1), .val (.int v7_2), .val (.int v8_3), .val (.int v9_5), .val (.int v10_7), .val (.int v11_9), .val (.ref b10), .val (.ref b14), .val (.int (own_r v9_5 v10_7 v11_9)), .val (.int v9_5), .val (.int v10_7), .val (.int (v11_9 - (1 : Int32))), .val (.int (1 : Int32))] [(.int (1 : Int32)), (.int (own_r v9_5 v10_7 v11_9))]))
    have hc187_23 : (own_r v9_5 v10_7 v11_9) = (1 : Int32) := (by simp [own_r, hz2])
    refine Goes.via (fun _ kk_ => XS.icmpNo X21.here hx rfl (hb hby at_187) rfl (teq hc187_23).2 kk_) ?_
    show Goes p e below _ (T21.setTop (mkF m 190 #[.val (.int t0), .val (.int t1), .val (.int t2), .val (.int d0), .val (.int d1), .val (.int d2), .val (.int v6_1), .val (.int v7_2), .val (.int v8_3), .val (.int v9_5), .val (.int v10_7), .val (.int v11_9), .val (.ref b10), .val (.ref b14), .val (.int (own_r v9_5 v10_7 v11_9)), .val (.int v9_5), .val (.int v10_7), .val (.int (v11_9 - (1 : Int32))), .val (.int (1 : Int32))] []))
    refine Goes.via (fun _ kk_ => XS.aload X21.here hx rfl (hb hby at_190) rfl rfl  kk_) ?_
    show Goes p e below _ (T21.setTop (mkF m 192 #[.val (.int t0), .val (.int t1), .val (.int t2), .val (.int d0), .val (.int d1), .val (.int d2), .val (.int v6_1), .val (.int v7_2), .val (.int v8_3), .val (.int v9_5), .val (.int v10_7), .val (.int v11_9), .val (.ref b10), .val (.ref b14), .val (.int (own_r v9_5 v10_7 v11_9)), .val (.int v9_5), .val (.int v10_7), .val (.int (v11_9 - (1 : Int32))), .val (.int (1 : Int32))] [(.ref b10)]))
    refine Goes.via (fun _ kk_ => XS.iconst X21.here hx rfl (hb hby at_192) kk_) ?_
    show Goes p e below _ (T21.setTop (mkF m 193 #[.val (.int t0), .val (.int t1), .val (.int t2), .val (.int d0), .val (.int d1), .val (.int d2), .val (.int v6_1), .val (.int v7_2), .val (.int v8_3), .val (.int v9_5), .val (.int v10_7), .val (.int v11_9), .val (.ref b10), .val (.ref b14), .val (.int (own_r v9_5 v10_7 v11_9)), .val (.int v9_5), .val (.int v10_7), .val (.int (v11_9 - (1 : Int32))), .val (.int (1 : Int32))] [(.int (0 : Int32)), (.ref b10)]))
    refine Goes.via (own_iaload X21 hx hZ rfl u21_0 (j := (0 : Int32)) (i := 0) (by decide) (by decide) (by decide) (v := (own_e0 v9_5 v10_7 v11_9 v6_1)) rfl (g := (mkF m 193 #[.val (.int t0), .val (.int t1), .val (.int t2), .val (.int d0), .val (.int d1), .val (.int d2), .val (.int v6_1), .val (.int v7_2), .val (.int v8_3), .val (.int v9_5), .val (.int v10_7), .val (.int v11_9), .val (.ref b10), .val (.ref b14), .val (.int (own_r v9_5 v10_7 v11_9)), .val (.int v9_5), .val (.int v10_7), .val (.int (v11_9 - (1 : Int32))), .val (.int (1 : Int32))] [(.int (0 : Int32)), (.ref b10)])) rfl rfl (hb hby at_193)) ?_
    show Goes p e below _ (T21.setTop (mkF m 194 #[.val (.int t0), .val (.int t1), .val (.int t2), .val (.int d0), .val (.int d1), .val (.int d2), .val (.int v6_1), .val (.int v7_2), .val (.int v8_3), .val (.int v9_5), .val (.int v10_7), .val (.int v11_9), .val (.ref b10), .val (.ref b14), .val (.int (own_r v9_5 v10_7 v11_9)), .val (.int v9_5), .val (.int v10_7), .val (.int (v11_9 - (1 : Int32))), .val (.int (1 : Int32))] [(.int (own_e0 v9_5 v10_7 v11_9 v6_1))]))
    refine Goes.via (fun _ kk_ => XS.iload X21.here hx rfl (hb hby at_194) rfl  kk_) ?_
    show Goes p e below _ (T21.setTop (mkF m 196 #[.val (.int t0), .val (.int t1), .val (.int t2), .val (.int d0), .val (.int d1), .val (.int d2), .val (.int v6_1), .val (.int v7_2), .val (.int v8_3), .val (.int v9_5), .val (.int v10_7), .val (.int v11_9), .val (.ref b10), .val (.ref b14), .val (.int (own_r v9_5 v10_7 v11_9)), .val (.int v9_5), .val (.int v10_7), .val (.int (v11_9 - (1 : Int32))), .val (.int (1 : Int32))] [(.int v9_5), (.int (own_e0 v9_5 v10_7 v11_9 v6_1))]))
    have hc196_24 : (own_e0 v9_5 v10_7 v11_9 v6_1) = v9_5 := (by simp [own_e0, hz2])
    refine Goes.via (fun _ kk_ => XS.icmpNo X21.here hx rfl (hb hby at_196) rfl (teq hc196_24).2 kk_) ?_
    show Goes p e below _ (T21.setTop (mkF m 199 #[.val (.int t0), .val (.int t1), .val (.int t2), .val (.int d0), .val (.int d1), .val (.int d2), .val (.int v6_1), .val (.int v7_2), .val (.int v8_3), .val (.int v9_5), .val (.int v10_7), .val (.int v11_9), .val (.ref b10), .val (.ref b14), .val (.int (own_r v9_5 v10_7 v11_9)), .val (.int v9_5), .val (.int v10_7), .val (.int (v11_9 - (1 : Int32))), .val (.int (1 : Int32))] []))
    refine Goes.via (fun _ kk_ => XS.aload X21.here hx rfl (hb hby at_199) rfl rfl  kk_) ?_
    show Goes p e below _ (T21.setTop (mkF m 201 #[.val (.int t0), .val (.int t1), .val (.int t2), .val (.int d0), .val (.int d1), .val (.int d2), .val (.int v6_1), .val (.int v7_2), .val (.int v8_3), .val (.int v9_5), .val (.int v10_7), .val (.int v11_9), .val (.ref b10), .val (.ref b14), .val (.int (own_r v9_5 v10_7 v11_9)), .val (.int v9_5), .val (.int v10_7), .val (.int (v11_9 - (1 : Int32))), .val (.int (1 : Int32))] [(.ref b10)]))
    refine Goes.via (fun _ kk_ => XS.iconst X21.here hx rfl (hb hby at_201) kk_) ?_
    show Goes p e below _ (T21.setTop (mkF m 202 #[.val (.int t0), .val (.int t1), .val (.int t2), .val (.int d0), .val (.int d1), .val (.int d2), .val (.int v6_1), .val (.int v7_2), .val (.int v8_3), .val (.int v9_5), .val (.int v10_7), .val (.int v11_9), .val (.ref b10), .val (.ref b14), .val (.int (own_r v9_5 v10_7 v11_9)), .val (.int v9_5), .val (.int v10_7), .val (.int (v11_9 - (1 : Int32))), .val (.int (1 : Int32))] [(.int (1 : Int32)), (.ref b10)]))
    refine Goes.via (own_iaload X21 hx hZ rfl u21_0 (j := (1 : Int32)) (i := 1) (by decide) (by decide) (by decide) (v := (own_e1 v10_7 v11_9 v7_2)) rfl (g := (mkF m 202 #[.val (.int t0), .val (.int t1), .val (.int t2), .val (.int d0), .val (.int d1), .val (.int d2), .val (.int v6_1), .val (.int v7_2), .val (.int v8_3), .val (.int v9_5), .val (.int v10_7), .val (.int v11_9), .val (.ref b10), .val (.ref b14), .val (.int (own_r v9_5 v10_7 v11_9)), .val (.int v9_5), .val (.int v10_7), .val (.int (v11_9 - (1 : Int32))), .val (.int (1 : Int32))] [(.int (1 : Int32)), (.ref b10)])) rfl rfl (hb hby at_202)) ?_
    show Goes p e below _ (T21.setTop (mkF m 203 #[.val (.int t0), .val (.int t1), .val (.int t2), .val (.int d0), .val (.int d1), .val (.int d2), .val (.int v6_1), .val (.int v7_2), .val (.int v8_3), .val (.int v9_5), .val (.int v10_7), .val (.int v11_9), .val (.ref b10), .val (.ref b14), .val (.int (own_r v9_5 v10_7 v11_9)), .val (.int v9_5), .val (.int v10_7), .val (.int (v11_9 - (1 : Int32))), .val (.int (1 : Int32))] [(.int (own_e1 v10_7 v11_9 v7_2))]))
    refine Goes.via (fun _ kk_ => XS.iload X21.here hx rfl (hb hby at_203) rfl  kk_) ?_
    show Goes p e below _ (T21.setTop (mkF m 205 #[.val (.int t0), .val (.int t1), .val (.int t2), .val (.int d0), .val (.int d1), .val (.int d2), .val (.int v6_1), .val (.int v7_2), .val (.int v8_3), .val (.int v9_5), .val (.int v10_7), .val (.int v11_9), .val (.ref b10), .val (.ref b14), .val (.int (own_r v9_5 v10_7 v11_9)), .val (.int v9_5), .val (.int v10_7), .val (.int (v11_9 - (1 : Int32))), .val (.int (1 : Int32))] [(.int v10_7), (.int (own_e1 v10_7 v11_9 v7_2))]))
    have hc205_25 : (own_e1 v10_7 v11_9 v7_2) = v10_7 := (by simp [own_e1, hz2])
    refine Goes.via (fun _ kk_ => XS.icmpNo X21.here hx rfl (hb hby at_205) rfl (teq hc205_25).2 kk_) ?_
    show Goes p e below _ (T21.setTop (mkF m 208 #[.val (.int t0), .val (.int t1), .val (.int t2), .val (.int d0), .val (.int d1), .val (.int d2), .val (.int v6_1), .val (.int v7_2), .val (.int v8_3), .val (.int v9_5), .val (.int v10_7), .val (.int v11_9), .val (.ref b10), .val (.ref b14), .val (.int (own_r v9_5 v10_7 v11_9)), .val (.int v9_5), .val (.int v10_7), .val (.int (v11_9 - (1 : Int32))), .val (.int (1 : Int32))] []))
    refine Goes.via (fun _ kk_ => XS.aload X21.here hx rfl (hb hby at_208) rfl rfl  kk_) ?_
    show Goes p e below _ (T21.setTop (mkF m 210 #[.val (.int t0), .val (.int t1), .val (.int t2), .val (.int d0), .val (.int d1), .val (.int d2), .val (.int v6_1), .val (.int v7_2), .val (.int v8_3), .val (.int v9_5), .val (.int v10_7), .val (.int v11_9), .val (.ref b10), .val (.ref b14), .val (.int (own_r v9_5 v10_7 v11_9)), .val (.int v9_5), .val (.int v10_7), .val (.int (v11_9 - (1 : Int32))), .val (.int (1 : Int32))] [(.ref b10)]))
    refine Goes.via (fun _ kk_ => XS.iconst X21.here hx rfl (hb hby at_210) kk_) ?_
    show Goes p e below _ (T21.setTop (mkF m 211 #[.val (.int t0), .val (.int t1), .val (.int t2), .val (.int d0), .val (.int d1), .val (.int d2), .val (.int v6_1), .val (.int v7_2), .val (.int v8_3), .val (.int v9_5), .val (.int v10_7), .val (.int v11_9), .val (.ref b10), .val (.ref b14), .val (.int (own_r v9_5 v10_7 v11_9)), .val (.int v9_5), .val (.int v10_7), .val (.int (v11_9 - (1 : Int32))), .val (.int (1 : Int32))] [(.int (2 : Int32)), (.ref b10)]))
    refine Goes.via (own_iaload X21 hx hZ rfl u21_0 (j := (2 : Int32)) (i := 2) (by decide) (by decide) (by decide) (v := (own_e2 v11_9 v8_3)) rfl (g := (mkF m 211 #[.val (.int t0), .val (.int t1), .val (.int t2), .val (.int d0), .val (.int d1), .val (.int d2), .val (.int v6_1), .val (.int v7_2), .val (.int v8_3), .val (.int v9_5), .val (.int v10_7), .val (.int v11_9), .val (.ref b10), .val (.ref b14), .val (.int (own_r v9_5 v10_7 v11_9)), .val (.int v9_5), .val (.int v10_7), .val (.int (v11_9 - (1 : Int32))), .val (.int (1 : Int32))] [(.int (2 : Int32)), (.ref b10)])) rfl rfl (hb hby at_211)) ?_
    show Goes p e below _ (T21.setTop (mkF m 212 #[.val (.int t0), .val (.int t1), .val (.int t2), .val (.int d0), .val (.int d1), .val (.int d2), .val (.int v6_1), .val (.int v7_2), .val (.int v8_3), .val (.int v9_5), .val (.int v10_7), .val (.int v11_9), .val (.ref b10), .val (.ref b14), .val (.int (own_r v9_5 v10_7 v11_9)), .val (.int v9_5), .val (.int v10_7), .val (.int (v11_9 - (1 : Int32))), .val (.int (1 : Int32))] [(.int (own_e2 v11_9 v8_3))]))
    refine Goes.via (fun _ kk_ => XS.iload X21.here hx rfl (hb hby at_212) rfl  kk_) ?_
    show Goes p e below _ (T21.setTop (mkF m 214 #[.val (.int t0), .val (.int t1), .val (.int t2), .val (.int d0), .val (.int d1), .val (.int d2), .val (.int v6_1), .val (.int v7_2), .val (.int v8_3), .val (.int v9_5), .val (.int v10_7), .val (.int v11_9), .val (.ref b10), .val (.ref b14), .val (.int (own_r v9_5 v10_7 v11_9)), .val (.int v9_5), .val (.int v10_7), .val (.int (v11_9 - (1 : Int32))), .val (.int (1 : Int32))] [(.int (v11_9 - (1 : Int32))), (.int (own_e2 v11_9 v8_3))]))
    have hc214_26 : (own_e2 v11_9 v8_3) = (v11_9 - (1 : Int32)) := (by simp [own_e2, hz2])
    refine Goes.via (fun _ kk_ => XS.icmpNo X21.here hx rfl (hb hby at_214) rfl (teq hc214_26).2 kk_) ?_
    show Goes p e below _ (T21.setTop (mkF m 217 #[.val (.int t0), .val (.int t1), .val (.int t2), .val (.int d0), .val (.int d1), .val (.int d2), .val (.int v6_1), .val (.int v7_2), .val (.int v8_3), .val (.int v9_5), .val (.int v10_7), .val (.int v11_9), .val (.ref b10), .val (.ref b14), .val (.int (own_r v9_5 v10_7 v11_9)), .val (.int v9_5), .val (.int v10_7), .val (.int (v11_9 - (1 : Int32))), .val (.int (1 : Int32))] []))
    refine Goes.via (fun _ kk_ => XS.aload X21.here hx rfl (hb hby at_217) rfl rfl  kk_) ?_
    show Goes p e below _ (T21.setTop (mkF m 219 #[.val (.int t0), .val (.int t1), .val (.int t2), .val (.int d0), .val (.int d1), .val (.int d2), .val (.int v6_1), .val (.int v7_2), .val (.int v8_3), .val (.int v9_5), .val (.int v10_7), .val (.int v11_9), .val (.ref b10), .val (.ref b14), .val (.int (own_r v9_5 v10_7 v11_9)), .val (.int v9_5), .val (.int v10_7), .val (.int (v11_9 - (1 : Int32))), .val (.int (1 : Int32))] [(.ref b14)]))
    refine Goes.via (fun _ kk_ => XS.iconst X21.here hx rfl (hb hby at_219) kk_) ?_
    show Goes p e below _ (T21.setTop (mkF m 220 #[.val (.int t0), .val (.int t1), .val (.int t2), .val (.int d0), .val (.int d1), .val (.int d2), .val (.int v6_1), .val (.int v7_2), .val (.int v8_3), .val (.int v9_5), .val (.int v10_7), .val (.int v11_9), .val (.ref b10), .val (.ref b14), .val (.int (own_r v9_5 v10_7 v11_9)), .val (.int v9_5), .val (.int v10_7), .val (.int (v11_9 - (1 : Int32))), .val (.int (1 : Int32))] [(.int (0 : Int32)), (.ref b14)]))
    have f27 : Arw Z T21.heap b14 k14 .int 3 (own_a3 v6_1 v7_2 v8_3) := (Ag1.keep K21 (ninS (Ne.symm ne15) nin0))
    refine Goes.via (own_iaload X21 hx hZ rfl f27 (j := (0 : Int32)) (i := 0) (by decide) (by decide) (by decide) (v := v6_1) rfl (g := (mkF m 220 #[.val (.int t0), .val (.int t1), .val (.int t2), .val (.int d0), .val (.int d1), .val (.int d2), .val (.int v6_1), .val (.int v7_2), .val (.int v8_3), .val (.int v9_5), .val (.int v10_7), .val (.int v11_9), .val (.ref b10), .val (.ref b14), .val (.int (own_r v9_5 v10_7 v11_9)), .val (.int v9_5), .val (.int v10_7), .val (.int (v11_9 - (1 : Int32))), .val (.int (1 : Int32))] [(.int (0 : Int32)), (.ref b14)])) rfl rfl (hb hby at_220)) ?_
    show Goes p e below _ (T21.setTop (mkF m 221 #[.val (.int t0), .val (.int t1), .val (.int t2), .val (.int d0), .val (.int d1), .val (.int d2), .val (.int v6_1), .val (.int v7_2), .val (.int v8_3), .val (.int v9_5), .val (.int v10_7), .val (.int v11_9), .val (.ref b10), .val (.ref b14), .val (.int (own_r v9_5 v10_7 v11_9)), .val (.int v9_5), .val (.int v10_7), .val (.int (v11_9 - (1 : Int32))), .val (.int (1 : Int32))] [(.int v6_1)]))
    refine Goes.via (fun _ kk_ => XS.iload X21.here hx rfl (hb hby at_221) rfl  kk_) ?_
    show Goes p e below _ (T21.setTop (mkF m 223 #[.val (.int t0), .val (.int t1), .val (.int t2), .val (.int d0), .val (.int d1), .val (.int d2), .val (.int v6_1), .val (.int v7_2), .val (.int v8_3), .val (.int v9_5), .val (.int v10_7), .val (.int v11_9), .val (.ref b10), .val (.ref b14), .val (.int (own_r v9_5 v10_7 v11_9)), .val (.int v9_5), .val (.int v10_7), .val (.int (v11_9 - (1 : Int32))), .val (.int (1 : Int32))] [(.int v6_1), (.int v6_1)]))
    have hc223_28 : v6_1 = v6_1 := rfl
    refine Goes.via (fun _ kk_ => XS.icmpNo X21.here hx rfl (hb hby at_223) rfl (teq hc223_28).2 kk_) ?_
    show Goes p e below _ (T21.setTop (mkF m 226 #[.val (.int t0), .val (.int t1), .val (.int t2), .val (.int d0), .val (.int d1), .val (.int d2), .val (.int v6_1), .val (.int v7_2), .val (.int v8_3), .val (.int v9_5), .val (.int v10_7), .val (.int v11_9), .val (.ref b10), .val (.ref b14), .val (.int (own_r v9_5 v10_7 v11_9)), .val (.int v9_5), .val (.int v10_7), .val (.int (v11_9 - (1 : Int32))), .val (.int (1 : Int32))] []))
    refine Goes.via (fun _ kk_ => XS.aload X21.here hx rfl (hb hby at_226) rfl rfl  kk_) ?_
    show Goes p e below _ (T21.setTop (mkF m 228 #[.val (.int t0), .val (.int t1), .val (.int t2), .val (.int d0), .val (.int d1), .val (.int d2), .val (.int v6_1), .val (.int v7_2), .val (.int v8_3), .val (.int v9_5), .val (.int v10_7), .val (.int v11_9), .val (.ref b10), .val (.ref b14), .val (.int (own_r v9_5 v10_7 v11_9)), .val (.int v9_5), .val (.int v10_7), .val (.int (v11_9 - (1 : Int32))), .val (.int (1 : Int32))] [(.ref b14)]))
    refine Goes.via (fun _ kk_ => XS.iconst X21.here hx rfl (hb hby at_228) kk_) ?_
    show Goes p e below _ (T21.setTop (mkF m 229 #[.val (.int t0), .val (.int t1), .val (.int t2), .val (.int d0), .val (.int d1), .val (.int d2), .val (.int v6_1), .val (.int v7_2), .val (.int v8_3), .val (.int v9_5), .val (.int v10_7), .val (.int v11_9), .val (.ref b10), .val (.ref b14), .val (.int (own_r v9_5 v10_7 v11_9)), .val (.int v9_5), .val (.int v10_7), .val (.int (v11_9 - (1 : Int32))), .val (.int (1 : Int32))] [(.int (1 : Int32)), (.ref b14)]))
    refine Goes.via (own_iaload X21 hx hZ rfl f27 (j := (1 : Int32)) (i := 1) (by decide) (by decide) (by decide) (v := v7_2) rfl (g := (mkF m 229 #[.val (.int t0), .val (.int t1), .val (.int t2), .val (.int d0), .val (.int d1), .val (.int d2), .val (.int v6_1), .val (.int v7_2), .val (.int v8_3), .val (.int v9_5), .val (.int v10_7), .val (.int v11_9), .val (.ref b10), .val (.ref b14), .val (.int (own_r v9_5 v10_7 v11_9)), .val (.int v9_5), .val (.int v10_7), .val (.int (v11_9 - (1 : Int32))), .val (.int (1 : Int32))] [(.int (1 : Int32)), (.ref b14)])) rfl rfl (hb hby at_229)) ?_
    show Goes p e below _ (T21.setTop (mkF m 230 #[.val (.int t0), .val (.int t1), .val (.int t2), .val (.int d0), .val (.int d1), .val (.int d2), .val (.int v6_1), .val (.int v7_2), .val (.int v8_3), .val (.int v9_5), .val (.int v10_7), .val (.int v11_9), .val (.ref b10), .val (.ref b14), .val (.int (own_r v9_5 v10_7 v11_9)), .val (.int v9_5), .val (.int v10_7), .val (.int (v11_9 - (1 : Int32))), .val (.int (1 : Int32))] [(.int v7_2)]))
    refine Goes.via (fun _ kk_ => XS.iload X21.here hx rfl (hb hby at_230) rfl  kk_) ?_
    show Goes p e below _ (T21.setTop (mkF m 232 #[.val (.int t0), .val (.int t1), .val (.int t2), .val (.int d0), .val (.int d1), .val (.int d2), .val (.int v6_1), .val (.int v7_2), .val (.int v8_3), .val (.int v9_5), .val (.int v10_7), .val (.int v11_9), .val (.ref b10), .val (.ref b14), .val (.int (own_r v9_5 v10_7 v11_9)), .val (.int v9_5), .val (.int v10_7), .val (.int (v11_9 - (1 : Int32))), .val (.int (1 : Int32))] [(.int v7_2), (.int v7_2)]))
    have hc232_29 : v7_2 = v7_2 := rfl
    refine Goes.via (fun _ kk_ => XS.icmpNo X21.here hx rfl (hb hby at_232) rfl (teq hc232_29).2 kk_) ?_
    show Goes p e below _ (T21.setTop (mkF m 235 #[.val (.int t0), .val (.int t1), .val (.int t2), .val (.int d0), .val (.int d1), .val (.int d2), .val (.int v6_1), .val (.int v7_2), .val (.int v8_3), .val (.int v9_5), .val (.int v10_7), .val (.int v11_9), .val (.ref b10), .val (.ref b14), .val (.int (own_r v9_5 v10_7 v11_9)), .val (.int v9_5), .val (.int v10_7), .val (.int (v11_9 - (1 : Int32))), .val (.int (1 : Int32))] []))
    refine Goes.via (fun _ kk_ => XS.aload X21.here hx rfl (hb hby at_235) rfl rfl  kk_) ?_
    show Goes p e below _ (T21.setTop (mkF m 237 #[.val (.int t0), .val (.int t1), .val (.int t2), .val (.int d0), .val (.int d1), .val (.int d2), .val (.int v6_1), .val (.int v7_2), .val (.int v8_3), .val (.int v9_5), .val (.int v10_7), .val (.int v11_9), .val (.ref b10), .val (.ref b14), .val (.int (own_r v9_5 v10_7 v11_9)), .val (.int v9_5), .val (.int v10_7), .val (.int (v11_9 - (1 : Int32))), .val (.int (1 : Int32))] [(.ref b14)]))
    refine Goes.via (fun _ kk_ => XS.iconst X21.here hx rfl (hb hby at_237) kk_) ?_
    show Goes p e below _ (T21.setTop (mkF m 238 #[.val (.int t0), .val (.int t1), .val (.int t2), .val (.int d0), .val (.int d1), .val (.int d2), .val (.int v6_1), .val (.int v7_2), .val (.int v8_3), .val (.int v9_5), .val (.int v10_7), .val (.int v11_9), .val (.ref b10), .val (.ref b14), .val (.int (own_r v9_5 v10_7 v11_9)), .val (.int v9_5), .val (.int v10_7), .val (.int (v11_9 - (1 : Int32))), .val (.int (1 : Int32))] [(.int (2 : Int32)), (.ref b14)]))
    refine Goes.via (own_iaload X21 hx hZ rfl f27 (j := (2 : Int32)) (i := 2) (by decide) (by decide) (by decide) (v := v8_3) rfl (g := (mkF m 238 #[.val (.int t0), .val (.int t1), .val (.int t2), .val (.int d0), .val (.int d1), .val (.int d2), .val (.int v6_1), .val (.int v7_2), .val (.int v8_3), .val (.int v9_5), .val (.int v10_7), .val (.int v11_9), .val (.ref b10), .val (.ref b14), .val (.int (own_r v9_5 v10_7 v11_9)), .val (.int v9_5), .val (.int v10_7), .val (.int (v11_9 - (1 : Int32))), .val (.int (1 : Int32))] [(.int (2 : Int32)), (.ref b14)])) rfl rfl (hb hby at_238)) ?_
    show Goes p e below _ (T21.setTop (mkF m 239 #[.val (.int t0), .val (.int t1), .val (.int t2), .val (.int d0), .val (.int d1), .val (.int d2), .val (.int v6_1), .val (.int v7_2), .val (.int v8_3), .val (.int v9_5), .val (.int v10_7), .val (.int v11_9), .val (.ref b10), .val (.ref b14), .val (.int (own_r v9_5 v10_7 v11_9)), .val (.int v9_5), .val (.int v10_7), .val (.int (v11_9 - (1 : Int32))), .val (.int (1 : Int32))] [(.int v8_3)]))
    refine Goes.via (fun _ kk_ => XS.iload X21.here hx rfl (hb hby at_239) rfl  kk_) ?_
    show Goes p e below _ (T21.setTop (mkF m 241 #[.val (.int t0), .val (.int t1), .val (.int t2), .val (.int d0), .val (.int d1), .val (.int d2), .val (.int v6_1), .val (.int v7_2), .val (.int v8_3), .val (.int v9_5), .val (.int v10_7), .val (.int v11_9), .val (.ref b10), .val (.ref b14), .val (.int (own_r v9_5 v10_7 v11_9)), .val (.int v9_5), .val (.int v10_7), .val (.int (v11_9 - (1 : Int32))), .val (.int (1 : Int32))] [(.int v8_3), (.int v8_3)]))
    have hc241_30 : v8_3 = v8_3 := rfl
    refine Goes.via (fun _ kk_ => XS.icmpNo X21.here hx rfl (hb hby at_241) rfl (teq hc241_30).2 kk_) ?_
    show Goes p e below _ (T21.setTop (mkF m 244 #[.val (.int t0), .val (.int t1), .val (.int t2), .val (.int d0), .val (.int d1), .val (.int d2), .val (.int v6_1), .val (.int v7_2), .val (.int v8_3), .val (.int v9_5), .val (.int v10_7), .val (.int v11_9), .val (.ref b10), .val (.ref b14), .val (.int (own_r v9_5 v10_7 v11_9)), .val (.int v9_5), .val (.int v10_7), .val (.int (v11_9 - (1 : Int32))), .val (.int (1 : Int32))] []))
    refine Goes.via (fun _ kk_ => XS.iconst X21.here hx rfl (hb hby at_244) kk_) ?_
    show Goes p e below _ (T21.setTop (mkF m 245 #[.val (.int t0), .val (.int t1), .val (.int t2), .val (.int d0), .val (.int d1), .val (.int d2), .val (.int v6_1), .val (.int v7_2), .val (.int v8_3), .val (.int v9_5), .val (.int v10_7), .val (.int v11_9), .val (.ref b10), .val (.ref b14), .val (.int (own_r v9_5 v10_7 v11_9)), .val (.int v9_5), .val (.int v10_7), .val (.int (v11_9 - (1 : Int32))), .val (.int (1 : Int32))] [(.int (1 : Int32))]))
    refine Goes.via (fun _ kk_ => XS.goto X21.here hx rfl (pc0 := 245) (pc' := 249) rfl (hb hby at_245) (by decide) (by decide) kk_) ?_
    show Goes p e below _ (T21.setTop (mkF m 249 #[.val (.int t0), .val (.int t1), .val (.int t2), .val (.int d0), .val (.int d1), .val (.int d2), .val (.int v6_1), .val (.int v7_2), .val (.int v8_3), .val (.int v9_5), .val (.int v10_7), .val (.int v11_9), .val (.ref b10), .val (.ref b14), .val (.int (own_r v9_5 v10_7 v11_9)), .val (.int v9_5), .val (.int v10_7), .val (.int (v11_9 - (1 : Int32))), .val (.int (1 : Int32))] [(.int (1 : Int32))]))
    have K31 : Keep h0 T21.heap [] := ((((((((((Keep.refl h0 []).ext E10).wr W11 (Or.inr sz_b10)).wr W12 (Or.inr sz_b10)).wr W13 (Or.inr sz_b10)).ext E14).wr W17 (Or.inr sz_b14)).wr W18 (Or.inr sz_b14)).wr W19 (Or.inr sz_b14)).trans K21 (allS (Or.inr sz_b10) all0))
    exact own_finN X21 hx hlk hret (by simp) (hb hby at_249) (by exact ⟨rfl, N21, K31⟩) (by first | decide | omega) (by first | decide | omega)
  · skip
    refine Goes.via (fun _ kk_ => XS.ifYes X21.here hx rfl (pc0 := 95) (pc' := 118) rfl (hb hby at_95) rfl ((if0 _ _).trans (flt hc95).2.2.2) (by decide) (by decide) kk_) ?_
    show Goes p e below _ (T21.setTop (mkF m 118 #[.val (.int t0), .val (.int t1), .val (.int t2), .val (.int d0), .val (.int d1), .val (.int d2), .val (.int v6_1), .val (.int v7_2), .val (.int v8_3), .val (.int v9_5), .val (.int v10_7), .val (.int v11_9), .val (.ref b10), .val (.ref b14), .val (.int (own_r v9_5 v10_7 v11_9)), .unset, .unset, .unset, .unset] []))
    refine Goes.via (fun _ kk_ => XS.iload X21.here hx rfl (hb hby at_118) rfl  kk_) ?_
    show Goes p e below _ (T21.setTop (mkF m 120 #[.val (.int t0), .val (.int t1), .val (.int t2), .val (.int d0), .val (.int d1), .val (.int d2), .val (.int v6_1), .val (.int v7_2), .val (.int v8_3), .val (.int v9_5), .val (.int v10_7), .val (.int v11_9), .val (.ref b10), .val (.ref b14), .val (.int (own_r v9_5 v10_7 v11_9)), .unset, .unset, .unset, .unset] [(.int v10_7)]))
    by_cases hc120 : (0 : Int32) < v10_7
    · skip
      refine Goes.via (fun _ kk_ => XS.ifNo X21.here hx rfl (hb hby at_120) rfl ((if0 _ _).trans (tlt hc120).2.2.2) kk_) ?_
      show Goes p e below _ (T21.setTop (mkF m 123 #[.val (.int t0), .val (.int t1), .val (.int t2), .val (.int d0), .val (.int d1), .val (.int d2), .val (.int v6_1), .val (.int v7_2), .val (.int v8_3), .val (.int v9_5), .val (.int v10_7), .val (.int v11_9), .val (.ref b10), .val (.ref b14), .val (.int (own_r v9_5 v10_7 v11_9)), .unset, .unset, .unset, .unset] []))
      refine Goes.via (fun _ kk_ => XS.iload X21.here hx rfl (hb hby at_123) rfl  kk_) ?_
      show Goes p e below _ (T21.setTop (mkF m 125 #[.val (.int t0), .val (.int t1), .val (.int t2), .val (.int d0), .val (.int d1), .val (.int d2), .val (.int v6_1), .val (.int v7_2), .val (.int v8_3), .val (.int v9_5), .val (.int v10_7), .val (.int v11_9), .val (.ref b10), .val (.ref b14), .val (.int (own_r v9_5 v10_7 v11_9)), .unset, .unset, .unset, .unset] [(.int v9_5)]))
      refine Goes.via (fun _ kk_ => XS.istore X21.here hx rfl (hb hby at_125) rfl (l' := #[.val (.int t0), .val (.int t1), .val (.int t2), .val (.int d0), .val (.int d1), .val (.int d2), .val (.int v6_1), .val (.int v7_2), .val (.int v8_3), .val (.int v9_5), .val (.int v10_7), .val (.int v11_9), .val (.ref b10), .val (.ref b14), .val (.int (own_r v9_5 v10_7 v11_9)), .val (.int v9_5), .unset, .unset, .unset]) rfl kk_) ?_
      show Goes p e below _ (T21.setTop (mkF m 127 #[.val (.int t0), .val (.int t1), .val (.int t2), .val (.int d0), .val (.int d1), .val (.int d2), .val (.int v6_1), .val (.int v7_2), .val (.int v8_3), .val (.int v9_5), .val (.int v10_7), .val (.int v11_9), .val (.ref b10), .val (.ref b14), .val (.int (own_r v9_5 v10_7 v11_9)), .val (.int v9_5), .unset, .unset, .unset] []))
      refine Goes.via (fun _ kk_ => XS.iload X21.here hx rfl (hb hby at_127) rfl  kk_) ?_
      show Goes p e below _ (T21.setTop (mkF m 129 #[.val (.int t0), .val (.int t1), .val (.int t2), .val (.int d0), .val (.int d1), .val (.int d2), .val (.int v6_1), .val (.int v7_2), .val (.int v8_3), .val (.int v9_5), .val (.int v10_7), .val (.int v11_9), .val (.ref b10), .val (.ref b14), .val (.int (own_r v9_5 v10_7 v11_9)), .val (.int v9_5), .unset, .unset, .unset] [(.int v10_7)]))
      refine Goes.via (fun _ kk_ => XS.iconst X21.here hx rfl (hb hby at_129) kk_) ?_
      show Goes p e below _ (T21.setTop (mkF m 130 #[.val (.int t0), .val (.int t1), .val (.int t2), .val (.int d0), .val (.int d1), .val (.int d2), .val (.int v6_1), .val (.int v7_2), .val (.int v8_3), .val (.int v9_5), .val (.int v10_7), .val (.int v11_9), .val (.ref b10), .val (.ref b14), .val (.int (own_r v9_5 v10_7 v11_9)), .val (.int v9_5), .unset, .unset, .unset] [(.int (1 : Int32)), (.int v10_7)]))
      refine Goes.via (fun _ kk_ => XS.isub X21.here hx rfl (hb hby at_130) rfl kk_) ?_
      show Goes p e below _ (T21.setTop (mkF m 131 #[.val (.int t0), .val (.int t1), .val (.int t2), .val (.int d0), .val (.int d1), .val (.int d2), .val (.int v6_1), .val (.int v7_2), .val (.int v8_3), .val (.int v9_5), .val (.int v10_7), .val (.int v11_9), .val (.ref b10), .val (.ref b14), .val (.int (own_r v9_5 v10_7 v11_9)), .val (.int v9_5), .unset, .unset, .unset] [(.int (v10_7 - (1 : Int32)))]))
      refine Goes.via (fun _ kk_ => XS.istore X21.here hx rfl (hb hby at_131) rfl (l' := #[.val (.int t0), .val (.int t1), .val (.int t2), .val (.int d0), .val (.int d1), .val (.int d2), .val (.int v6_1), .val (.int v7_2), .val (.int v8_3), .val (.int v9_5), .val (.int v10_7), .val (.int v11_9), .val (.ref b10), .val (.ref b14), .val (.int (own_r v9_5 v10_7 v11_9)), .val (.int v9_5), .val (.int (v10_7 - (1 : Int32))), .unset, .unset]) rfl kk_) ?_
      show Goes p e below _ (T21.setTop (mkF m 133 #[.val (.int t0), .val (.int t1), .val (.int t2), .val (.int d0), .val (.int d1), .val (.int d2), .val (.int v6_1), .val (.int v7_2), .val (.int v8_3), .val (.int v9_5), .val (.int v10_7), .val (.int v11_9), .val (.ref b10), .val (.ref b14), .val (.int (own_r v9_5 v10_7 v11_9)), .val (.int v9_5), .val (.int (v10_7 - (1 : Int32))), .unset, .unset] []))
      refine Goes.via (fun _ kk_ => XS.iload X21.here hx rfl (hb hby at_133) rfl  kk_) ?_
      show Goes p e below _ (T21.setTop (mkF m 135 #[.val (.int t0), .val (.int t1), .val (.int t2), .val (.int d0), .val (.int d1), .val (.int d2), .val (.int v6_1), .val (.int v7_2), .val (.int v8_3), .val (.int v9_5), .val (.int v10_7), .val (.int v11_9), .val (.ref b10), .val (.ref b14), .val (.int (own_r v9_5 v10_7 v11_9)), .val (.int v9_5), .val (.int (v10_7 - (1 : Int32))), .unset, .unset] [(.int v8_3)]))
      refine Goes.via (fun _ kk_ => XS.istore X21.here hx rfl (hb hby at_135) rfl (l' := #[.val (.int t0), .val (.int t1), .val (.int t2), .val (.int d0), .val (.int d1), .val (.int d2), .val (.int v6_1), .val (.int v7_2), .val (.int v8_3), .val (.int v9_5), .val (.int v10_7), .val (.int v11_9), .val (.ref b10), .val (.ref b14), .val (.int (own_r v9_5 v10_7 v11_9)), .val (.int v9_5), .val (.int (v10_7 - (1 : Int32))), .val (.int v8_3), .unset]) rfl kk_) ?_
      show Goes p e below _ (T21.setTop (mkF m 137 #[.val (.int t0), .val (.int t1), .val (.int t2), .val (.int d0), .val (.int d1), .val (.int d2), .val (.int v6_1), .val (.int v7_2), .val (.int v8_3), .val (.int v9_5), .val (.int v10_7), .val (.int v11_9), .val (.ref b10), .val (.ref b14), .val (.int (own_r v9_5 v10_7 v11_9)), .val (.int v9_5), .val (.int (v10_7 - (1 : Int32))), .val (.int v8_3), .unset] []))
      refine Goes.via (fun _ kk_ => XS.iconst X21.here hx rfl (hb hby at_137) kk_) ?_
      show Goes p e below _ (T21.setTop (mkF m 138 #[.val (.int t0), .val (.int t1), .val (.int t2), .val (.int d0), .val (.int d1), .val (.int d2), .val (.int v6_1), .val (.int v7_2), .val (.int v8_3), .val (.int v9_5), .val (.int v10_7), .val (.int v11_9), .val (.ref b10), .val (.ref b14), .val (.int (own_r v9_5 v10_7 v11_9)), .val (.int v9_5), .val (.int (v10_7 - (1 : Int32))), .val (.int v8_3), .unset] [(.int (1 : Int32))]))
      refine Goes.via (fun _ kk_ => XS.istore X21.here hx rfl (hb hby at_138) rfl (l' := #[.val (.int t0), .val (.int t1), .val (.int t2), .val (.int d0), .val (.int d1), .val (.int d2), .val (.int v6_1), .val (.int v7_2), .val (.int v8_3), .val (.int v9_5), .val (.int v10_7), .val (.int v11_9), .val (.ref b10), .val (.ref b14), .val (.int (own_r v9_5 v10_7 v11_9)), .val (.int v9_5), .val (.int (v10_7 - (1 : Int32))), .val (.int v8_3), .val (.int (1 : Int32))]) rfl kk_) ?_
      show Goes p e below _ (T21.setTop (mkF m 140 #[.val (.int t0), .val (.int t1), .val (.int t2), .val (.int d0), .val (.int d1), .val (.int d2), .val (.int v6_1), .val (.int v7_2), .val (.int v8_3), .val (.int v9_5), .val (.int v10_7), .val (.int v11_9), .val (.ref b10), .val (.ref b14), .val (.int (own_r v9_5 v10_7 v11_9)), .val (.int v9_5), .val (.int (v10_7 - (1 : Int32))), .val (.int v8_3), .val (.int (1 : Int32))] []))
      refine Goes.via (fun _ kk_ => XS.goto X21.here hx rfl (pc0 := 140) (pc' := 183) rfl (hb hby at_140) (by decide) (by decide) kk_) ?_
      show Goes p e below _ (T21.setTop (mkF m 183 #[.val (.int t0), .val (.int t1), .val (.int t2), .val (.int d0), .val (.int d1), .val (.int d2), .val (.int v6_1), .val (.int v7_2), .val (.int v8_3), .val (.int v9_5), .val (.int v10_7), .val (.int v11_9), .val (.ref b10), .val (.ref b14), .val (.int (own_r v9_5 v10_7 v11_9)), .val (.int v9_5), .val (.int (v10_7 - (1 : Int32))), .val (.int v8_3), .val (.int (1 : Int32))] []))
      have hz2 := own_z hp11 hc95
      have hz1 := own_nz hc120
      refine Goes.via (fun _ kk_ => XS.iload X21.here hx rfl (hb hby at_183) rfl  kk_) ?_
      show Goes p e below _ (T21.setTop (mkF m 185 #[.val (.int t0), .val (.int t1), .val (.int t2), .val (.int d0), .val (.int d1), .val (.int d2), .val (.int v6_1), .val (.int v7_2), .val (.int v8_3), .val (.int v9_5), .val (.int v10_7), .val (.int v11_9), .val (.ref b10), .val (.ref b14), .val (.int (own_r v9_5 v10_7 v11_9)), .val (.int v9_5), .val (.int (v10_7 - (1 : Int32))), .val (.int v8_3), .val (.int (1 : Int32))] [(.int (own_r v9_5 v10_7 v11_9))]))
      refine Goes.via (fun _ kk_ => XS.iload X21.here hx rfl (hb hby at_185) rfl  kk_) ?_
      show Goes p e below _ (T21.setTop (mkF m 187 #[.val (.int t0), .val (.int t1), .val (.int t2), .val (.int d0), .val (.int d1), .val (.int d2), .val (.int v6_1), .val (.int v7_2), .val (.int v8_3), .val (.int v9_5), .val (.int v10_7), .val (.int v11_9), .val (.ref b10), .val (.ref b14), .val (.int (own_r v9_5 v10_7 v11_9)), .val (.int v9_5), .val (.int (v10_7 - (1 : Int32))), .val (.int v8_3), .val (.int (1 : Int32))] [(.int (1 : Int32)), (.int (own_r v9_5 v10_7 v11_9))]))
      have hc187_32 : (own_r v9_5 v10_7 v11_9) = (1 : Int32) := (by simp [own_r, hz2, hz1])
      refine Goes.via (fun _ kk_ => XS.icmpNo X21.here hx rfl (hb hby at_187) rfl (teq hc187_32).2 kk_) ?_
      show Goes p e below _ (T21.setTop (mkF m 190 #[.val (.int t0), .val (.int t1), .val (.int t2), .val (.int d0), .val (.int d1), .val (.int d2), .val (.int v6_1), .val (.int v7_2), .val (.int v8_3), .val (.int v9_5), .val (.int v10_7), .val (.int v11_9), .val (.ref b10), .val (.ref b14), .val (.int (own_r v9_5 v10_7 v11_9)), .val (.int v9_5), .val (.int (v10_7 - (1 : Int32))), .val (.int v8_3), .val (.int (1 : Int32))] []))
      refine Goes.via (fun _ kk_ => XS.aload X21.here hx rfl (hb hby at_190) rfl rfl  kk_) ?_
      show Goes p e below _ (T21.setTop (mkF m 192 #[.val (.int t0), .val (.int t1), .val (.int t2), .val (.int d0), .val (.int d1), .val (.int d2), .val (.int v6_1), .val (.int v7_2), .val (.int v8_3), .val (.int v9_5), .val (.int v10_7), .val (.int v11_9), .val (.ref b10), .val (.ref b14), .val (.int (own_r v9_5 v10_7 v11_9)), .val (.int v9_5), .val (.int (v10_7 - (1 : Int32))), .val (.int v8_3), .val (.int (1 : Int32))] [(.ref b10)]))
      refine Goes.via (fun _ kk_ => XS.iconst X21.here hx rfl (hb hby at_192) kk_) ?_
      show Goes p e below _ (T21.setTop (mkF m 193 #[.val (.int t0), .val (.int t1), .val (.int t2), .val (.int d0), .val (.int d1), .val (.int d2), .val (.int v6_1), .val (.int v7_2), .val (.int v8_3), .val (.int v9_5), .val (.int v10_7), .val (.int v11_9), .val (.ref b10), .val (.ref b14), .val (.int (own_r v9_5 v10_7 v11_9)), .val (.int v9_5), .val (.int (v10_7 - (1 : Int32))), .val (.int v8_3), .val (.int (1 : Int32))] [(.int (0 : Int32)), (.ref b10)]))
      refine Goes.via (own_iaload X21 hx hZ rfl u21_0 (j := (0 : Int32)) (i := 0) (by decide) (by decide) (by decide) (v := (own_e0 v9_5 v10_7 v11_9 v6_1)) rfl (g := (mkF m 193 #[.val (.int t0), .val (.int t1), .val (.int t2), .val (.int d0), .val (.int d1), .val (.int d2), .val (.int v6_1), .val (.int v7_2), .val (.int v8_3), .val (.int v9_5), .val (.int v10_7), .val (.int v11_9), .val (.ref b10), .val (.ref b14), .val (.int (own_r v9_5 v10_7 v11_9)), .val (.int v9_5), .val (.int (v10_7 - (1 : Int32))), .val (.int v8_3), .val (.int (1 : Int32))] [(.int (0 : Int32)), (.ref b10)])) rfl rfl (hb hby at_193)) ?_
      show Goes p e below _ (T21.setTop (mkF m 194 #[.val (.int t0), .val (.int t1), .val (.int t2), .val (.int d0), .val (.int d1), .val (.int d2), .val (.int v6_1), .val (.int v7_2), .val (.int v8_3), .val (.int v9_5), .val (.int v10_7), .val (.int v11_9), .val (.ref b10), .val (.ref b14), .val (.int (own_r v9_5 v10_7 v11_9)), .val (.int v9_5), .val (.int (v10_7 - (1 : Int32))), .val (.int v8_3), .val (.int (1 : Int32))] [(.int (own_e0 v9_5 v10_7 v11_9 v6_1))]))
      refine Goes.via (fun _ kk_ => XS.iload X21.here hx rfl (hb hby at_194) rfl  kk_) ?_
      show Goes p e below _ (T21.setTop (mkF m 196 #[.val (.int t0), .val (.int t1), .val (.int t2), .val (.int d0), .val (.int d1), .val (.int d2), .val (.int v6_1), .val (.int v7_2), .val (.int v8_3), .val (.int v9_5), .val (.int v10_7), .val (.int v11_9), .val (.ref b10), .val (.ref b14), .val (.int (own_r v9_5 v10_7 v11_9)), .val (.int v9_5), .val (.int (v10_7 - (1 : Int32))), .val (.int v8_3), .val (.int (1 : Int32))] [(.int v9_5), (.int (own_e0 v9_5 v10_7 v11_9 v6_1))]))
      have hc196_33 : (own_e0 v9_5 v10_7 v11_9 v6_1) = v9_5 := (by simp [own_e0, hz2, hz1])
      refine Goes.via (fun _ kk_ => XS.icmpNo X21.here hx rfl (hb hby at_196) rfl (teq hc196_33).2 kk_) ?_
      show Goes p e below _ (T21.setTop (mkF m 199 #[.val (.int t0), .val (.int t1), .val (.int t2), .val (.int d0), .val (.int d1), .val (.int d2), .val (.int v6_1), .val (.int v7_2), .val (.int v8_3), .val (.int v9_5), .val (.int v10_7), .val (.int v11_9), .val (.ref b10), .val (.ref b14), .val (.int (own_r v9_5 v10_7 v11_9)), .val (.int v9_5), .val (.int (v10_7 - (1 : Int32))), .val (.int v8_3), .val (.int (1 : Int32))] []))
      refine Goes.via (fun _ kk_ => XS.aload X21.here hx rfl (hb hby at_199) rfl rfl  kk_) ?_
      show Goes p e below _ (T21.setTop (mkF m 201 #[.val (.int t0), .val (.int t1), .val (.int t2), .val (.int d0), .val (.int d1), .val (.int d2), .val (.int v6_1), .val (.int v7_2), .val (.int v8_3), .val (.int v9_5), .val (.int v10_7), .val (.int v11_9), .val (.ref b10), .val (.ref b14), .val (.int (own_r v9_5 v10_7 v11_9)), .val (.int v9_5), .val (.int (v10_7 - (1 : Int32))), .val (.int v8_3), .val (.int (1 : Int32))] [(.ref b10)]))
      refine Goes.via (fun _ kk_ => XS.iconst X21.here hx rfl (hb hby at_201) kk_) ?_
      show Goes p e below _ (T21.setTop (mkF m 202 #[.val (.int t0), .val (.int t1), .val (.int t2), .val (.int d0), .val (.int d1), .val (.int d2), .val (.int v6_1), .val (.int v7_2), .val (.int v8_3), .val (.int v9_5), .val (.int v10_7), .val (.int v11_9), .val (.ref b10), .val (.ref b14), .val (.int (own_r v9_5 v10_7 v11_9)), .val (.int v9_5), .val (.int (v10_7 - (1 : Int32))), .val (.int v8_3), .val (.int (1 : Int32))] [(.int (1 : Int32)), (.ref b10)]))
      refine Goes.via (own_iaload X21 hx hZ rfl u21_0 (j := (1 : Int32)) (i := 1) (by decide) (by decide) (by decide) (v := (own_e1 v10_7 v11_9 v7_2)) rfl (g := (mkF m 202 #[.val (.int t0), .val (.int t1), .val (.int t2), .val (.int d0), .val (.int d1), .val (.int d2), .val (.int v6_1), .val (.int v7_2), .val (.int v8_3), .val (.int v9_5), .val (.int v10_7), .val (.int v11_9), .val (.ref b10), .val (.ref b14), .val (.int (own_r v9_5 v10_7 v11_9)), .val (.int v9_5), .val (.int (v10_7 - (1 : Int32))), .val (.int v8_3), .val (.int (1 : Int32))] [(.int (1 : Int32)), (.ref b10)])) rfl rfl (hb hby at_202)) ?_
      show Goes p e below _ (T21.setTop (mkF m 203 #[.val (.int t0), .val (.int t1), .val (.int t2), .val (.int d0), .val (.int d1), .val (.int d2), .val (.int v6_1), .val (.int v7_2), .val (.int v8_3), .val (.int v9_5), .val (.int v10_7), .val (.int v11_9), .val (.ref b10), .val (.ref b14), .val (.int (own_r v9_5 v10_7 v11_9)), .val (.int v9_5), .val (.int (v10_7 - (1 : Int32))), .val (.int v8_3), .val (.int (1 : Int32))] [(.int (own_e1 v10_7 v11_9 v7_2))]))
      refine Goes.via (fun _ kk_ => XS.iload X21.here hx rfl (hb hby at_203) rfl  kk_) ?_
      show Goes p e below _ (T21.setTop (mkF m 205 #[.val (.int t0), .val (.int t1), .val (.int t2), .val (.int d0), .val (.int d1), .val (.int d2), .val (.int v6_1), .val (.int v7_2), .val (.int v8_3), .val (.int v9_5), .val (.int v10_7), .val (.int v11_9), .val (.ref b10), .val (.ref b14), .val (.int (own_r v9_5 v10_7 v11_9)), .val (.int v9_5), .val (.int (v10_7 - (1 : Int32))), .val (.int v8_3), .val (.int (1 : Int32))] [(.int (v10_7 - (1 : Int32))), (.int (own_e1 v10_7 v11_9 v7_2))]))
      have hc205_34 : (own_e1 v10_7 v11_9 v7_2) = (v10_7 - (1 : Int32)) := (by simp [own_e1, hz2, hz1])
      refine Goes.via (fun _ kk_ => XS.icmpNo X21.here hx rfl (hb hby at_205) rfl (teq hc205_34).2 kk_) ?_
      show Goes p e below _ (T21.setTop (mkF m 208 #[.val (.int t0), .val (.int t1), .val (.int t2), .val (.int d0), .val (.int d1), .val (.int d2), .val (.int v6_1), .val (.int v7_2), .val (.int v8_3), .val (.int v9_5), .val (.int v10_7), .val (.int v11_9), .val (.ref b10), .val (.ref b14), .val (.int (own_r v9_5 v10_7 v11_9)), .val (.int v9_5), .val (.int (v10_7 - (1 : Int32))), .val (.int v8_3), .val (.int (1 : Int32))] []))
      refine Goes.via (fun _ kk_ => XS.aload X21.here hx rfl (hb hby at_208) rfl rfl  kk_) ?_
      show Goes p e below _ (T21.setTop (mkF m 210 #[.val (.int t0), .val (.int t1), .val (.int t2), .val (.int d0), .val (.int d1), .val (.int d2), .val (.int v6_1), .val (.int v7_2), .val (.int v8_3), .val (.int v9_5), .val (.int v10_7), .val (.int v11_9), .val (.ref b10), .val (.ref b14), .val (.int (own_r v9_5 v10_7 v11_9)), .val (.int v9_5), .val (.int (v10_7 - (1 : Int32))), .val (.int v8_3), .val (.int (1 : Int32))] [(.ref b10)]))
      refine Goes.via (fun _ kk_ => XS.iconst X21.here hx rfl (hb hby at_210) kk_) ?_
      show Goes p e below _ (T21.setTop (mkF m 211 #[.val (.int t0), .val (.int t1), .val (.int t2), .val (.int d0), .val (.int d1), .val (.int d2), .val (.int v6_1), .val (.int v7_2), .val (.int v8_3), .val (.int v9_5), .val (.int v10_7), .val (.int v11_9), .val (.ref b10), .val (.ref b14), .val (.int (own_r v9_5 v10_7 v11_9)), .val (.int v9_5), .val (.int (v10_7 - (1 : Int32))), .val (.int v8_3), .val (.int (1 : Int32))] [(.int (2 : Int32)), (.ref b10)]))
      refine Goes.via (own_iaload X21 hx hZ rfl u21_0 (j := (2 : Int32)) (i := 2) (by decide) (by decide) (by decide) (v := (own_e2 v11_9 v8_3)) rfl (g := (mkF m 211 #[.val (.int t0), .val (.int t1), .val (.int t2), .val (.int d0), .val (.int d1), .val (.int d2), .val (.int v6_1), .val (.int v7_2), .val (.int v8_3), .val (.int v9_5), .val (.int v10_7), .val (.int v11_9), .val (.ref b10), .val (.ref b14), .val (.int (own_r v9_5 v10_7 v11_9)), .val (.int v9_5), .val (.int (v10_7 - (1 : Int32))), .val (.int v8_3), .val (.int (1 : Int32))] [(.int (2 : Int32)), (.ref b10)])) rfl rfl (hb hby at_211)) ?_
      show Goes p e below _ (T21.setTop (mkF m 212 #[.val (.int t0), .val (.int t1), .val (.int t2), .val (.int d0), .val (.int d1), .val (.int d2), .val (.int v6_1), .val (.int v7_2), .val (.int v8_3), .val (.int v9_5), .val (.int v10_7), .val (.int v11_9), .val (.ref b10), .val (.ref b14), .val (.int (own_r v9_5 v10_7 v11_9)), .val (.int v9_5), .val (.int (v10_7 - (1 : Int32))), .val (.int v8_3), .val (.int (1 : Int32))] [(.int (own_e2 v11_9 v8_3))]))
      refine Goes.via (fun _ kk_ => XS.iload X21.here hx rfl (hb hby at_212) rfl  kk_) ?_
      show Goes p e below _ (T21.setTop (mkF m 214 #[.val (.int t0), .val (.int t1), .val (.int t2), .val (.int d0), .val (.int d1), .val (.int d2), .val (.int v6_1), .val (.int v7_2), .val (.int v8_3), .val (.int v9_5), .val (.int v10_7), .val (.int v11_9), .val (.ref b10), .val (.ref b14), .val (.int (own_r v9_5 v10_7 v11_9)), .val (.int v9_5), .val (.int (v10_7 - (1 : Int32))), .val (.int v8_3), .val (.int (1 : Int32))] [(.int v8_3), (.int (own_e2 v11_9 v8_3))]))
      have hc214_35 : (own_e2 v11_9 v8_3) = v8_3 := (by simp [own_e2, hz2, hz1])
      refine Goes.via (fun _ kk_ => XS.icmpNo X21.here hx rfl (hb hby at_214) rfl (teq hc214_35).2 kk_) ?_
      show Goes p e below _ (T21.setTop (mkF m 217 #[.val (.int t0), .val (.int t1), .val (.int t2), .val (.int d0), .val (.int d1), .val (.int d2), .val (.int v6_1), .val (.int v7_2), .val (.int v8_3), .val (.int v9_5), .val (.int v10_7), .val (.int v11_9), .val (.ref b10), .val (.ref b14), .val (.int (own_r v9_5 v10_7 v11_9)), .val (.int v9_5), .val (.int (v10_7 - (1 : Int32))), .val (.int v8_3), .val (.int (1 : Int32))] []))
      refine Goes.via (fun _ kk_ => XS.aload X21.here hx rfl (hb hby at_217) rfl rfl  kk_) ?_
      show Goes p e below _ (T21.setTop (mkF m 219 #[.val (.int t0), .val (.int t1), .val (.int t2), .val (.int d0), .val (.int d1), .val (.int d2), .val (.int v6_1), .val (.int v7_2), .val (.int v8_3), .val (.int v9_5), .val (.int v10_7), .val (.int v11_9), .val (.ref b10), .val (.ref b14), .val (.int (own_r v9_5 v10_7 v11_9)), .val (.int v9_5), .val (.int (v10_7 - (1 : Int32))), .val (.int v8_3), .val (.int (1 : Int32))] [(.ref b14)]))
      refine Goes.via (fun _ kk_ => XS.iconst X21.here hx rfl (hb hby at_219) kk_) ?_
      show Goes p e below _ (T21.setTop (mkF m 220 #[.val (.int t0), .val (.int t1), .val (.int t2), .val (.int d0), .val (.int d1), .val (.int d2), .val (.int v6_1), .val (.int v7_2), .val (.int v8_3), .val (.int v9_5), .val (.int v10_7), .val (.int v11_9), .val (.ref b10), .val (.ref b14), .val (.int (own_r v9_5 v10_7 v11_9)), .val (.int v9_5), .val (.int (v10_7 - (1 : Int32))), .val (.int v8_3), .val (.int (1 : Int32))] [(.int (0 : Int32)), (.ref b14)]))
      have f36 : Arw Z T21.heap b14 k14 .int 3 (own_a3 v6_1 v7_2 v8_3) := (Ag1.keep K21 (ninS (Ne.symm ne15) nin0))
      refine Goes.via (own_iaload X21 hx hZ rfl f36 (j := (0 : Int32)) (i := 0) (by decide) (by decide) (by decide) (v := v6_1) rfl (g := (mkF m 220 #[.val (.int t0), .val (.int t1), .val (.int t2), .val (.int d0), .val (.int d1), .val (.int d2), .val (.int v6_1), .val (.int v7_2), .val (.int v8_3), .val (.int v9_5), .val (.int v10_7), .val (.int v11_9), .val (.ref b10), .val (.ref b14), .val (.int (own_r v9_5 v10_7 v11_9)), .val (.int v9_5), .val (.int (v10_7 - (1 : Int32))), .val (.int v8_3), .val (.int (1 : Int32))] [(.int (0 : Int32)), (.ref b14)])) rfl rfl (hb hby at_220)) ?_
      show Goes p e below _ (T21.setTop (mkF m 221 #[.val (.int t0), .val (.int t1), .val (.int t2), .val (.int d0), .val (.int d1), .val (.int d2), .val (.int v6_1), .val (.int v7_2), .val (.int v8_3), .val (.int v9_5), .val (.int v10_7), .val (.int v11_9), .val (.ref b10), .val (.ref b14), .val (.int (own_r v9_5 v10_7 v11_9)), .val (.int v9_5), .val (.int (v10_7 - (1 : Int32))), .val (.int v8_3), .val (.int (1 : Int32))] [(.int v6_1)]))
      refine Goes.via (fun _ kk_ => XS.iload X21.here hx rfl (hb hby at_221) rfl  kk_) ?_
      show Goes p e below _ (T21.setTop (mkF m 223 #[.val (.int t0), .val (.int t1), .val (.int t2), .val (.int d0), .val (.int d1), .val (.int d2), .val (.int v6_1), .val (.int v7_2), .val (.int v8_3), .val (.int v9_5), .val (.int v10_7), .val (.int v11_9), .val (.ref b10), .val (.ref b14), .val (.int (own_r v9_5 v10_7 v11_9)), .val (.int v9_5), .val (.int (v10_7 - (1 : Int32))), .val (.int v8_3), .val (.int (1 : Int32))] [(.int v6_1), (.int v6_1)]))
      have hc223_37 : v6_1 = v6_1 := rfl
      refine Goes.via (fun _ kk_ => XS.icmpNo X21.here hx rfl (hb hby at_223) rfl (teq hc223_37).2 kk_) ?_
      show Goes p e below _ (T21.setTop (mkF m 226 #[.val (.int t0), .val (.int t1), .val (.int t2), .val (.int d0), .val (.int d1), .val (.int d2), .val (.int v6_1), .val (.int v7_2), .val (.int v8_3), .val (.int v9_5), .val (.int v10_7), .val (.int v11_9), .val (.ref b10), .val (.ref b14), .val (.int (own_r v9_5 v10_7 v11_9)), .val (.int v9_5), .val (.int (v10_7 - (1 : Int32))), .val (.int v8_3), .val (.int (1 : Int32))] []))
      refine Goes.via (fun _ kk_ => XS.aload X21.here hx rfl (hb hby at_226) rfl rfl  kk_) ?_
      show Goes p e below _ (T21.setTop (mkF m 228 #[.val (.int t0), .val (.int t1), .val (.int t2), .val (.int d0), .val (.int d1), .val (.int d2), .val (.int v6_1), .val (.int v7_2), .val (.int v8_3), .val (.int v9_5), .val (.int v10_7), .val (.int v11_9), .val (.ref b10), .val (.ref b14), .val (.int (own_r v9_5 v10_7 v11_9)), .val (.int v9_5), .val (.int (v10_7 - (1 : Int32))), .val (.int v8_3), .val (.int (1 : Int32))] [(.ref b14)]))
      refine Goes.via (fun _ kk_ => XS.iconst X21.here hx rfl (hb hby at_228) kk_) ?_
      show Goes p e below _ (T21.setTop (mkF m 229 #[.val (.int t0), .val (.int t1), .val (.int t2), .val (.int d0), .val (.int d1), .val (.int d2), .val (.int v6_1), .val (.int v7_2), .val (.int v8_3), .val (.int v9_5), .val (.int v10_7), .val (.int v11_9), .val (.ref b10), .val (.ref b14), .val (.int (own_r v9_5 v10_7 v11_9)), .val (.int v9_5), .val (.int (v10_7 - (1 : Int32))), .val (.int v8_3), .val (.int (1 : Int32))] [(.int (1 : Int32)), (.ref b14)]))
      refine Goes.via (own_iaload X21 hx hZ rfl f36 (j := (1 : Int32)) (i := 1) (by decide) (by decide) (by decide) (v := v7_2) rfl (g := (mkF m 229 #[.val (.int t0), .val (.int t1), .val (.int t2), .val (.int d0), .val (.int d1), .val (.int d2), .val (.int v6_1), .val (.int v7_2), .val (.int v8_3), .val (.int v9_5), .val (.int v10_7), .val (.int v11_9), .val (.ref b10), .val (.ref b14), .val (.int (own_r v9_5 v10_7 v11_9)), .val (.int v9_5), .val (.int (v10_7 - (1 : Int32))), .val (.int v8_3), .val (.int (1 : Int32))] [(.int (1 : Int32)), (.ref b14)])) rfl rfl (hb hby at_229)) ?_
      show Goes p e below _ (T21.setTop (mkF m 230 #[.val (.int t0), .val (.int t1), .val (.int t2), .val (.int d0), .val (.int d1), .val (.int d2), .val (.int v6_1), .val (.int v7_2), .val (.int v8_3), .val (.int v9_5), .val (.int v10_7), .val (.int v11_9), .val (.ref b10), .val (.ref b14), .val (.int (own_r v9_5 v10_7 v11_9)), .val (.int v9_5), .val (.int (v10_7 - (1 : Int32))), .val (.int v8_3), .val (.int (1 : Int32))] [(.int v7_2)]))
      refine Goes.via (fun _ kk_ => XS.iload X21.here hx rfl (hb hby at_230) rfl  kk_) ?_
      show Goes p e below _ (T21.setTop (mkF m 232 #[.val (.int t0), .val (.int t1), .val (.int t2), .val (.int d0), .val (.int d1), .val (.int d2), .val (.int v6_1), .val (.int v7_2), .val (.int v8_3), .val (.int v9_5), .val (.int v10_7), .val (.int v11_9), .val (.ref b10), .val (.ref b14), .val (.int (own_r v9_5 v10_7 v11_9)), .val (.int v9_5), .val (.int (v10_7 - (1 : Int32))), .val (.int v8_3), .val (.int (1 : Int32))] [(.int v7_2), (.int v7_2)]))
      have hc232_38 : v7_2 = v7_2 := rfl
      refine Goes.via (fun _ kk_ => XS.icmpNo X21.here hx rfl (hb hby at_232) rfl (teq hc232_38).2 kk_) ?_
      show Goes p e below _ (T21.setTop (mkF m 235 #[.val (.int t0), .val (.int t1), .val (.int t2), .val (.int d0), .val (.int d1), .val (.int d2), .val (.int v6_1), .val (.int v7_2), .val (.int v8_3), .val (.int v9_5), .val (.int v10_7), .val (.int v11_9), .val (.ref b10), .val (.ref b14), .val (.int (own_r v9_5 v10_7 v11_9)), .val (.int v9_5), .val (.int (v10_7 - (1 : Int32))), .val (.int v8_3), .val (.int (1 : Int32))] []))
      refine Goes.via (fun _ kk_ => XS.aload X21.here hx rfl (hb hby at_235) rfl rfl  kk_) ?_
      show Goes p e below _ (T21.setTop (mkF m 237 #[.val (.int t0), .val (.int t1), .val (.int t2), .val (.int d0), .val (.int d1), .val (.int d2), .val (.int v6_1), .val (.int v7_2), .val (.int v8_3), .val (.int v9_5), .val (.int v10_7), .val (.int v11_9), .val (.ref b10), .val (.ref b14), .val (.int (own_r v9_5 v10_7 v11_9)), .val (.int v9_5), .val (.int (v10_7 - (1 : Int32))), .val (.int v8_3), .val (.int (1 : Int32))] [(.ref b14)]))
      refine Goes.via (fun _ kk_ => XS.iconst X21.here hx rfl (hb hby at_237) kk_) ?_
      show Goes p e below _ (T21.setTop (mkF m 238 #[.val (.int t0), .val (.int t1), .val (.int t2), .val (.int d0), .val (.int d1), .val (.int d2), .val (.int v6_1), .val (.int v7_2), .val (.int v8_3), .val (.int v9_5), .val (.int v10_7), .val (.int v11_9), .val (.ref b10), .val (.ref b14), .val (.int (own_r v9_5 v10_7 v11_9)), .val (.int v9_5), .val (.int (v10_7 - (1 : Int32))), .val (.int v8_3), .val (.int (1 : Int32))] [(.int (2 : Int32)), (.ref b14)]))
      refine Goes.via (own_iaload X21 hx hZ rfl f36 (j := (2 : Int32)) (i := 2) (by decide) (by decide) (by decide) (v := v8_3) rfl (g := (mkF m 238 #[.val (.int t0), .val (.int t1), .val (.int t2), .val (.int d0), .val (.int d1), .val (.int d2), .val (.int v6_1), .val (.int v7_2), .val (.int v8_3), .val (.int v9_5), .val (.int v10_7), .val (.int v11_9), .val (.ref b10), .val (.ref b14), .val (.int (own_r v9_5 v10_7 v11_9)), .val (.int v9_5), .val (.int (v10_7 - (1 : Int32))), .val (.int v8_3), .val (.int (1 : Int32))] [(.int (2 : Int32)), (.ref b14)])) rfl rfl (hb hby at_238)) ?_
      show Goes p e below _ (T21.setTop (mkF m 239 #[.val (.int t0), .val (.int t1), .val (.int t2), .val (.int d0), .val (.int d1), .val (.int d2), .val (.int v6_1), .val (.int v7_2), .val (.int v8_3), .val (.int v9_5), .val (.int v10_7), .val (.int v11_9), .val (.ref b10), .val (.ref b14), .val (.int (own_r v9_5 v10_7 v11_9)), .val (.int v9_5), .val (.int (v10_7 - (1 : Int32))), .val (.int v8_3), .val (.int (1 : Int32))] [(.int v8_3)]))
      refine Goes.via (fun _ kk_ => XS.iload X21.here hx rfl (hb hby at_239) rfl  kk_) ?_
      show Goes p e below _ (T21.setTop (mkF m 241 #[.val (.int t0), .val (.int t1), .val (.int t2), .val (.int d0), .val (.int d1), .val (.int d2), .val (.int v6_1), .val (.int v7_2), .val (.int v8_3), .val (.int v9_5), .val (.int v10_7), .val (.int v11_9), .val (.ref b10), .val (.ref b14), .val (.int (own_r v9_5 v10_7 v11_9)), .val (.int v9_5), .val (.int (v10_7 - (1 : Int32))), .val (.int v8_3), .val (.int (1 : Int32))] [(.int v8_3), (.int v8_3)]))
      have hc241_39 : v8_3 = v8_3 := rfl
      refine Goes.via (fun _ kk_ => XS.icmpNo X21.here hx rfl (hb hby at_241) rfl (teq hc241_39).2 kk_) ?_
      show Goes p e below _ (T21.setTop (mkF m 244 #[.val (.int t0), .val (.int t1), .val (.int t2), .val (.int d0), .val (.int d1), .val (.int d2), .val (.int v6_1), .val (.int v7_2), .val (.int v8_3), .val (.int v9_5), .val (.int v10_7), .val (.int v11_9), .val (.ref b10), .val (.ref b14), .val (.int (own_r v9_5 v10_7 v11_9)), .val (.int v9_5), .val (.int (v10_7 - (1 : Int32))), .val (.int v8_3), .val (.int (1 : Int32))] []))
      refine Goes.via (fun _ kk_ => XS.iconst X21.here hx rfl (hb hby at_244) kk_) ?_
      show Goes p e below _ (T21.setTop (mkF m 245 #[.val (.int t0), .val (.int t1), .val (.int t2), .val (.int d0), .val (.int d1), .val (.int d2), .val (.int v6_1), .val (.int v7_2), .val (.int v8_3), .val (.int v9_5), .val (.int v10_7), .val (.int v11_9), .val (.ref b10), .val (.ref b14), .val (.int (own_r v9_5 v10_7 v11_9)), .val (.int v9_5), .val (.int (v10_7 - (1 : Int32))), .val (.int v8_3), .val (.int (1 : Int32))] [(.int (1 : Int32))]))
      refine Goes.via (fun _ kk_ => XS.goto X21.here hx rfl (pc0 := 245) (pc' := 249) rfl (hb hby at_245) (by decide) (by decide) kk_) ?_
      show Goes p e below _ (T21.setTop (mkF m 249 #[.val (.int t0), .val (.int t1), .val (.int t2), .val (.int d0), .val (.int d1), .val (.int d2), .val (.int v6_1), .val (.int v7_2), .val (.int v8_3), .val (.int v9_5), .val (.int v10_7), .val (.int v11_9), .val (.ref b10), .val (.ref b14), .val (.int (own_r v9_5 v10_7 v11_9)), .val (.int v9_5), .val (.int (v10_7 - (1 : Int32))), .val (.int v8_3), .val (.int (1 : Int32))] [(.int (1 : Int32))]))
      have K40 : Keep h0 T21.heap [] := ((((((((((Keep.refl h0 []).ext E10).wr W11 (Or.inr sz_b10)).wr W12 (Or.inr sz_b10)).wr W13 (Or.inr sz_b10)).ext E14).wr W17 (Or.inr sz_b14)).wr W18 (Or.inr sz_b14)).wr W19 (Or.inr sz_b14)).trans K21 (allS (Or.inr sz_b10) all0))
      exact own_finN X21 hx hlk hret (by simp) (hb hby at_249) (by exact ⟨rfl, N21, K40⟩) (by first | decide | omega) (by first | decide | omega)
    · skip
      refine Goes.via (fun _ kk_ => XS.ifYes X21.here hx rfl (pc0 := 120) (pc' := 143) rfl (hb hby at_120) rfl ((if0 _ _).trans (flt hc120).2.2.2) (by decide) (by decide) kk_) ?_
      show Goes p e below _ (T21.setTop (mkF m 143 #[.val (.int t0), .val (.int t1), .val (.int t2), .val (.int d0), .val (.int d1), .val (.int d2), .val (.int v6_1), .val (.int v7_2), .val (.int v8_3), .val (.int v9_5), .val (.int v10_7), .val (.int v11_9), .val (.ref b10), .val (.ref b14), .val (.int (own_r v9_5 v10_7 v11_9)), .unset, .unset, .unset, .unset] []))
      refine Goes.via (fun _ kk_ => XS.iload X21.here hx rfl (hb hby at_143) rfl  kk_) ?_
      show Goes p e below _ (T21.setTop (mkF m 145 #[.val (.int t0), .val (.int t1), .val (.int t2), .val (.int d0), .val (.int d1), .val (.int d2), .val (.int v6_1), .val (.int v7_2), .val (.int v8_3), .val (.int v9_5), .val (.int v10_7), .val (.int v11_9), .val (.ref b10), .val (.ref b14), .val (.int (own_r v9_5 v10_7 v11_9)), .unset, .unset, .unset, .unset] [(.int v9_5)]))
      by_cases hc145 : (0 : Int32) < v9_5
      · skip
        refine Goes.via (fun _ kk_ => XS.ifNo X21.here hx rfl (hb hby at_145) rfl ((if0 _ _).trans (tlt hc145).2.2.2) kk_) ?_
        show Goes p e below _ (T21.setTop (mkF m 148 #[.val (.int t0), .val (.int t1), .val (.int t2), .val (.int d0), .val (.int d1), .val (.int d2), .val (.int v6_1), .val (.int v7_2), .val (.int v8_3), .val (.int v9_5), .val (.int v10_7), .val (.int v11_9), .val (.ref b10), .val (.ref b14), .val (.int (own_r v9_5 v10_7 v11_9)), .unset, .unset, .unset, .unset] []))
        refine Goes.via (fun _ kk_ => XS.iload X21.here hx rfl (hb hby at_148) rfl  kk_) ?_
        show Goes p e below _ (T21.setTop (mkF m 150 #[.val (.int t0), .val (.int t1), .val (.int t2), .val (.int d0), .val (.int d1), .val (.int d2), .val (.int v6_1), .val (.int v7_2), .val (.int v8_3), .val (.int v9_5), .val (.int v10_7), .val (.int v11_9), .val (.ref b10), .val (.ref b14), .val (.int (own_r v9_5 v10_7 v11_9)), .unset, .unset, .unset, .unset] [(.int v9_5)]))
        refine Goes.via (fun _ kk_ => XS.iconst X21.here hx rfl (hb hby at_150) kk_) ?_
        show Goes p e below _ (T21.setTop (mkF m 151 #[.val (.int t0), .val (.int t1), .val (.int t2), .val (.int d0), .val (.int d1), .val (.int d2), .val (.int v6_1), .val (.int v7_2), .val (.int v8_3), .val (.int v9_5), .val (.int v10_7), .val (.int v11_9), .val (.ref b10), .val (.ref b14), .val (.int (own_r v9_5 v10_7 v11_9)), .unset, .unset, .unset, .unset] [(.int (1 : Int32)), (.int v9_5)]))
        refine Goes.via (fun _ kk_ => XS.isub X21.here hx rfl (hb hby at_151) rfl kk_) ?_
        show Goes p e below _ (T21.setTop (mkF m 152 #[.val (.int t0), .val (.int t1), .val (.int t2), .val (.int d0), .val (.int d1), .val (.int d2), .val (.int v6_1), .val (.int v7_2), .val (.int v8_3), .val (.int v9_5), .val (.int v10_7), .val (.int v11_9), .val (.ref b10), .val (.ref b14), .val (.int (own_r v9_5 v10_7 v11_9)), .unset, .unset, .unset, .unset] [(.int (v9_5 - (1 : Int32)))]))
        refine Goes.via (fun _ kk_ => XS.istore X21.here hx rfl (hb hby at_152) rfl (l' := #[.val (.int t0), .val (.int t1), .val (.int t2), .val (.int d0), .val (.int d1), .val (.int d2), .val (.int v6_1), .val (.int v7_2), .val (.int v8_3), .val (.int v9_5), .val (.int v10_7), .val (.int v11_9), .val (.ref b10), .val (.ref b14), .val (.int (own_r v9_5 v10_7 v11_9)), .val (.int (v9_5 - (1 : Int32))), .unset, .unset, .unset]) rfl kk_) ?_
        show Goes p e below _ (T21.setTop (mkF m 154 #[.val (.int t0), .val (.int t1), .val (.int t2), .val (.int d0), .val (.int d1), .val (.int d2), .val (.int v6_1), .val (.int v7_2), .val (.int v8_3), .val (.int v9_5), .val (.int v10_7), .val (.int v11_9), .val (.ref b10), .val (.ref b14), .val (.int (own_r v9_5 v10_7 v11_9)), .val (.int (v9_5 - (1 : Int32))), .unset, .unset, .unset] []))
        refine Goes.via (fun _ kk_ => XS.iload X21.here hx rfl (hb hby at_154) rfl  kk_) ?_
        show Goes p e below _ (T21.setTop (mkF m 156 #[.val (.int t0), .val (.int t1), .val (.int t2), .val (.int d0), .val (.int d1), .val (.int d2), .val (.int v6_1), .val (.int v7_2), .val (.int v8_3), .val (.int v9_5), .val (.int v10_7), .val (.int v11_9), .val (.ref b10), .val (.ref b14), .val (.int (own_r v9_5 v10_7 v11_9)), .val (.int (v9_5 - (1 : Int32))), .unset, .unset, .unset] [(.int v7_2)]))
        refine Goes.via (fun _ kk_ => XS.istore X21.here hx rfl (hb hby at_156) rfl (l' := #[.val (.int t0), .val (.int t1), .val (.int t2), .val (.int d0), .val (.int d1), .val (.int d2), .val (.int v6_1), .val (.int v7_2), .val (.int v8_3), .val (.int v9_5), .val (.int v10_7), .val (.int v11_9), .val (.ref b10), .val (.ref b14), .val (.int (own_r v9_5 v10_7 v11_9)), .val (.int (v9_5 - (1 : Int32))), .val (.int v7_2), .unset, .unset]) rfl kk_) ?_
        show Goes p e below _ (T21.setTop (mkF m 158 #[.val (.int t0), .val (.int t1), .val (.int t2), .val (.int d0), .val (.int d1), .val (.int d2), .val (.int v6_1), .val (.int v7_2), .val (.int v8_3), .val (.int v9_5), .val (.int v10_7), .val (.int v11_9), .val (.ref b10), .val (.ref b14), .val (.int (own_r v9_5 v10_7 v11_9)), .val (.int (v9_5 - (1 : Int32))), .val (.int v7_2), .unset, .unset] []))
        refine Goes.via (fun _ kk_ => XS.iload X21.here hx rfl (hb hby at_158) rfl  kk_) ?_
        show Goes p e below _ (T21.setTop (mkF m 160 #[.val (.int t0), .val (.int t1), .val (.int t2), .val (.int d0), .val (.int d1), .val (.int d2), .val (.int v6_1), .val (.int v7_2), .val (.int v8_3), .val (.int v9_5), .val (.int v10_7), .val (.int v11_9), .val (.ref b10), .val (.ref b14), .val (.int (own_r v9_5 v10_7 v11_9)), .val (.int (v9_5 - (1 : Int32))), .val (.int v7_2), .unset, .unset] [(.int v8_3)]))
        refine Goes.via (fun _ kk_ => XS.istore X21.here hx rfl (hb hby at_160) rfl (l' := #[.val (.int t0), .val (.int t1), .val (.int t2), .val (.int d0), .val (.int d1), .val (.int d2), .val (.int v6_1), .val (.int v7_2), .val (.int v8_3), .val (.int v9_5), .val (.int v10_7), .val (.int v11_9), .val (.ref b10), .val (.ref b14), .val (.int (own_r v9_5 v10_7 v11_9)), .val (.int (v9_5 - (1 : Int32))), .val (.int v7_2), .val (.int v8_3), .unset]) rfl kk_) ?_
        show Goes p e below _ (T21.setTop (mkF m 162 #[.val (.int t0), .val (.int t1), .val (.int t2), .val (.int d0), .val (.int d1), .val (.int d2), .val (.int v6_1), .val (.int v7_2), .val (.int v8_3), .val (.int v9_5), .val (.int v10_7), .val (.int v11_9), .val (.ref b10), .val (.ref b14), .val (.int (own_r v9_5 v10_7 v11_9)), .val (.int (v9_5 - (1 : Int32))), .val (.int v7_2), .val (.int v8_3), .unset] []))
        refine Goes.via (fun _ kk_ => XS.iconst X21.here hx rfl (hb hby at_162) kk_) ?_
        show Goes p e below _ (T21.setTop (mkF m 163 #[.val (.int t0), .val (.int t1), .val (.int t2), .val (.int d0), .val (.int d1), .val (.int d2), .val (.int v6_1), .val (.int v7_2), .val (.int v8_3), .val (.int v9_5), .val (.int v10_7), .val (.int v11_9), .val (.ref b10), .val (.ref b14), .val (.int (own_r v9_5 v10_7 v11_9)), .val (.int (v9_5 - (1 : Int32))), .val (.int v7_2), .val (.int v8_3), .unset] [(.int (1 : Int32))]))
        refine Goes.via (fun _ kk_ => XS.istore X21.here hx rfl (hb hby at_163) rfl (l' := #[.val (.int t0), .val (.int t1), .val (.int t2), .val (.int d0), .val (.int d1), .val (.int d2), .val (.int v6_1), .val (.int v7_2), .val (.int v8_3), .val (.int v9_5), .val (.int v10_7), .val (.int v11_9), .val (.ref b10), .val (.ref b14), .val (.int (own_r v9_5 v10_7 v11_9)), .val (.int (v9_5 - (1 : Int32))), .val (.int v7_2), .val (.int v8_3), .val (.int (1 : Int32))]) rfl kk_) ?_
        show Goes p e below _ (T21.setTop (mkF m 165 #[.val (.int t0), .val (.int t1), .val (.int t2), .val (.int d0), .val (.int d1), .val (.int d2), .val (.int v6_1), .val (.int v7_2), .val (.int v8_3), .val (.int v9_5), .val (.int v10_7), .val (.int v11_9), .val (.ref b10), .val (.ref b14), .val (.int (own_r v9_5 v10_7 v11_9)), .val (.int (v9_5 - (1 : Int32))), .val (.int v7_2), .val (.int v8_3), .val (.int (1 : Int32))] []))
        refine Goes.via (fun _ kk_ => XS.goto X21.here hx rfl (pc0 := 165) (pc' := 183) rfl (hb hby at_165) (by decide) (by decide) kk_) ?_
        show Goes p e below _ (T21.setTop (mkF m 183 #[.val (.int t0), .val (.int t1), .val (.int t2), .val (.int d0), .val (.int d1), .val (.int d2), .val (.int v6_1), .val (.int v7_2), .val (.int v8_3), .val (.int v9_5), .val (.int v10_7), .val (.int v11_9), .val (.ref b10), .val (.ref b14), .val (.int (own_r v9_5 v10_7 v11_9)), .val (.int (v9_5 - (1 : Int32))), .val (.int v7_2), .val (.int v8_3), .val (.int (1 : Int32))] []))
        have hz2 := own_z hp11 hc95
        have hz1 := own_z hp10 hc120
        have hz0 := own_nz hc145
        refine Goes.via (fun _ kk_ => XS.iload X21.here hx rfl (hb hby at_183) rfl  kk_) ?_
        show Goes p e below _ (T21.setTop (mkF m 185 #[.val (.int t0), .val (.int t1), .val (.int t2), .val (.int d0), .val (.int d1), .val (.int d2), .val (.int v6_1), .val (.int v7_2), .val (.int v8_3), .val (.int v9_5), .val (.int v10_7), .val (.int v11_9), .val (.ref b10), .val (.ref b14), .val (.int (own_r v9_5 v10_7 v11_9)), .val (.int (v9_5 - (1 : Int32))), .val (.int v7_2), .val (.int v8_3), .val (.int (1 : Int32))] [(.int (own_r v9_5 v10_7 v11_9))]))
        refine Goes.via (fun _ kk_ => XS.iload X21.here hx rfl (hb hby at_185) rfl  kk_) ?_
        show Goes p e below _ (T21.setTop (mkF m 187 #[.val (.int t0), .val (.int t1), .val (.int t2), .val (.int d0), .val (.int d1), .val (.int d2), .val (.int v6_1), .val (.int v7_2), .val (.int v8_3), .val (.int v9_5), .val (.int v10_7), .val (.int v11_9), .val (.ref b10), .val (.ref b14), .val (.int (own_r v9_5 v10_7 v11_9)), .val (.int (v9_5 - (1 : Int32))), .val (.int v7_2), .val (.int v8_3), .val (.int (1 : Int32))] [(.int (1 : Int32)), (.int (own_r v9_5 v10_7 v11_9))]))
        have hc187_41 : (own_r v9_5 v10_7 v11_9) = (1 : Int32) := (by simp [own_r, hz2, hz1, hz0])
        refine Goes.via (fun _ kk_ => XS.icmpNo X21.here hx rfl (hb hby at_187) rfl (teq hc187_41).2 kk_) ?_
        show Goes p e below _ (T21.setTop (mkF m 190 #[.val (.int t0), .val (.int t1), .val (.int t2), .val (.int d0), .val (.int d1), .val (.int d2), .val (.int v6_1), .val (.int v7_2), .val (.int v8_3), .val (.int v9_5), .val (.int v10_7), .val (.int v11_9), .val (.ref b10), .val (.ref b14), .val (.int (own_r v9_5 v10_7 v11_9)), .val (.int (v9_5 - (1 : Int32))), .val (.int v7_2), .val (.int v8_3), .val (.int (1 : Int32))] []))
        refine Goes.via (fun _ kk_ => XS.aload X21.here hx rfl (hb hby at_190) rfl rfl  kk_) ?_
        show Goes p e below _ (T21.setTop (mkF m 192 #[.val (.int t0), .val (.int t1), .val (.int t2), .val (.int d0), .val (.int d1), .val (.int d2), .val (.int v6_1), .val (.int v7_2), .val (.int v8_3), .val (.int v9_5), .val (.int v10_7), .val (.int v11_9), .val (.ref b10), .val (.ref b14), .val (.int (own_r v9_5 v10_7 v11_9)), .val (.int (v9_5 - (1 : Int32))), .val (.int v7_2), .val (.int v8_3), .val (.int (1 : Int32))] [(.ref b10)]))
        refine Goes.via (fun _ kk_ => XS.iconst X21.here hx rfl (hb hby at_192) kk_) ?_
        show Goes p e below _ (T21.setTop (mkF m 193 #[.val (.int t0), .val (.int t1), .val (.int t2), .val (.int d0), .val (.int d1), .val (.int d2), .val (.int v6_1), .val (.int v7_2), .val (.int v8_3), .val (.int v9_5), .val (.int v10_7), .val (.int v11_9), .val (.ref b10), .val (.ref b14), .val (.int (own_r v9_5 v10_7 v11_9)), .val (.int (v9_5 - (1 : Int32))), .val (.int v7_2), .val (.int v8_3), .val (.int (1 : Int32))] [(.int (0 : Int32)), (.ref b10)]))
        refine Goes.via (own_iaload X21 hx hZ rfl u21_0 (j := (0 : Int32)) (i := 0) (by decide) (by decide) (by decide) (v := (own_e0 v9_5 v10_7 v11_9 v6_1)) rfl (g := (mkF m 193 #[.val (.int t0), .val (.int t1), .val (.int t2), .val (.int d0), .val (.int d1), .val (.int d2), .val (.int v6_1), .val (.int v7_2), .val (.int v8_3), .val (.int v9_5), .val (.int v10_7), .val (.int v11_9), .val (.ref b10), .val (.ref b14), .val (.int (own_r v9_5 v10_7 v11_9)), .val (.int (v9_5 - (1 : Int32))), .val (.int v7_2), .val (.int v8_3), .val (.int (1 : Int32))] [(.int (0 : Int32)), (.ref b10)])) rfl rfl (hb hby at_193)) ?_
        show Goes p e below _ (T21.setTop (mkF m 194 #[.val (.int t0), .val (.int t1), .val (.int t2), .val (.int d0), .val (.int d1), .val (.int d2), .val (.int v6_1), .val (.int v7_2), .val (.int v8_3), .val (.int v9_5), .val (.int v10_7), .val (.int v11_9), .val (.ref b10), .val (.ref b14), .val (.int (own_r v9_5 v10_7 v11_9)), .val (.int (v9_5 - (1 : Int32))), .val (.int v7_2), .val (.int v8_3), .val (.int (1 : Int32))] [(.int (own_e0 v9_5 v10_7 v11_9 v6_1))]))
        refine Goes.via (fun _ kk_ => XS.iload X21.here hx rfl (hb hby at_194) rfl  kk_) ?_
        show Goes p e below _ (T21.setTop (mkF m 196 #[.val (.int t0), .val (.int t1), .val (.int t2), .val (.int d0), .val (.int d1), .val (.int d2), .val (.int v6_1), .val (.int v7_2), .val (.int v8_3), .val (.int v9_5), .val (.int v10_7), .val (.int v11_9), .val (.ref b10), .val (.ref b14), .val (.int (own_r v9_5 v10_7 v11_9)), .val (.int (v9_5 - (1 : Int32))), .val (.int v7_2), .val (.int v8_3), .val (.int (1 : Int32))] [(.int (v9_5 - (1 : Int32))), (.int (own_e0 v9_5 v10_7 v11_9 v6_1))]))
        have hc196_42 : (own_e0 v9_5 v10_7 v11_9 v6_1) = (v9_5 - (1 : Int32)) := (by simp [own_e0, hz2, hz1, hz0])
        refine Goes.via (fun _ kk_ => XS.icmpNo X21.here hx rfl (hb hby at_196) rfl (teq hc196_42).2 kk_) ?_
        show Goes p e below _ (T21.setTop (mkF m 199 #[.val (.int t0), .val (.int t1), .val (.int t2), .val (.int d0), .val (.int d1), .val (.int d2), .val (.int v6_1), .val (.int v7_2), .val (.int v8_3), .val (.int v9_5), .val (.int v10_7), .val (.int v11_9), .val (.ref b10), .val (.ref b14), .val (.int (own_r v9_5 v10_7 v11_9)), .val (.int (v9_5 - (1 : Int32))), .val (.int v7_2), .val (.int v8_3), .val (.int (1 : Int32))] []))
        refine Goes.via (fun _ kk_ => XS.aload X21.here hx rfl (hb hby at_199) rfl rfl  kk_) ?_
        show Goes p e below _ (T21.setTop (mkF m 201 #[.val (.int t0), .val (.int t1), .val (.int t2), .val (.int d0), .val (.int d1), .val (.int d2), .val (.int v6_1), .val (.int v7_2), .val (.int v8_3), .val (.int v9_5), .val (.int v10_7), .val (.int v11_9), .val (.ref b10), .val (.ref b14), .val (.int (own_r v9_5 v10_7 v11_9)), .val (.int (v9_5 - (1 : Int32))), .val (.int v7_2), .val (.int v8_3), .val (.int (1 : Int32))] [(.ref b10)]))
        refine Goes.via (fun _ kk_ => XS.iconst X21.here hx rfl (hb hby at_201) kk_) ?_
        show Goes p e below _ (T21.setTop (mkF m 202 #[.val (.int t0), .val (.int t1), .val (.int t2), .val (.int d0), .val (.int d1), .val (.int d2), .val (.int v6_1), .val (.int v7_2), .val (.int v8_3), .val (.int v9_5), .val (.int v10_7), .val (.int v11_9), .val (.ref b10), .val (.ref b14), .val (.int (own_r v9_5 v10_7 v11_9)), .val (.int (v9_5 - (1 : Int32))), .val (.int v7_2), .val (.int v8_3), .val (.int (1 : Int32))] [(.int (1 : Int32)), (.ref b10)]))
        refine Goes.via (own_iaload X21 hx hZ rfl u21_0 (j := (1 : Int32)) (i := 1) (by decide) (by decide) (by decide) (v := (own_e1 v10_7 v11_9 v7_2)) rfl (g := (mkF m 202 #[.val (.int t0), .val (.int t1), .val (.int t2), .val (.int d0), .val (.int d1), .val (.int d2), .val (.int v6_1), .val (.int v7_2), .val (.int v8_3), .val (.int v9_5), .val (.int v10_7), .val (.int v11_9), .val (.ref b10), .val (.ref b14), .val (.int (own_r v9_5 v10_7 v11_9)), .val (.int (v9_5 - (1 : Int32))), .val (.int v7_2), .val (.int v8_3), .val (.int (1 : Int32))] [(.int (1 : Int32)), (.ref b10)])) rfl rfl (hb hby at_202)) ?_
        show Goes p e below _ (T21.setTop (mkF m 203 #[.val (.int t0), .val (.int t1), .val (.int t2), .val (.int d0), .val (.int d1), .val (.int d2), .val (.int v6_1), .val (.int v7_2), .val (.int v8_3), .val (.int v9_5), .val (.int v10_7), .val (.int v11_9), .val (.ref b10), .val (.ref b14), .val (.int (own_r v9_5 v10_7 v11_9)), .val (.int (v9_5 - (1 : Int32))), .val (.int v7_2), .val (.int v8_3), .val (.int (1 : Int32))] [(.int (own_e1 v10_7 v11_9 v7_2))]))
        refine Goes.via (fun _ kk_ => XS.iload X21.here hx rfl (hb hby at_203) rfl  kk_) ?_
        show Goes p e below _ (T21.setTop (mkF m 205 #[.val (.int t0), .val (.int t1), .val (.int t2), .val (.int d0), .val (.int d1), .val (.int d2), .val (.int v6_1), .val (.int v7_2), .val (.int v8_3), .val (.int v9_5), .val (.int v10_7), .val (.int v11_9), .val (.ref b10), .val (.ref b14), .val (.int (own_r v9_5 v10_7 v11_9)), .val (.int (v9_5 - (1 : Int32))), .val (.int v7_2), .val (.int v8_3), .val (.int (1 : Int32))] [(.int v7_2), (.int (own_e1 v10_7 v11_9 v7_2))]))
        have hc205_43 : (own_e1 v10_7 v11_9 v7_2) = v7_2 := (by simp [own_e1, hz2, hz1, hz0])
        refine Goes.via (fun _ kk_ => XS.icmpNo X21.here hx rfl (hb hby at_205) rfl (teq hc205_43).2 kk_) ?_
        show Goes p e below _ (T21.setTop (mkF m 208 #[.val (.int t0), .val (.int t1), .val (.int t2), .val (.int d0), .val (.int d1), .val (.int d2), .val (.int v6_1), .val (.int v7_2), .val (.int v8_3), .val (.int v9_5), .val (.int v10_7), .val (.int v11_9), .val (.ref b10), .val (.ref b14), .val (.int (own_r v9_5 v10_7 v11_9)), .val (.int (v9_5 - (1 : Int32))), .val (.int v7_2), .val (.int v8_3), .val (.int (1 : Int32))] []))
        refine Goes.via (fun _ kk_ => XS.aload X21.here hx rfl (hb hby at_208) rfl rfl  kk_) ?_
        show Goes p e below _ (T21.setTop (mkF m 210 #[.val (.int t0), .val (.int t1), .val (.int t2), .val (.int d0), .val (.int d1), .val (.int d2), .val (.int v6_1), .val (.int v7_2), .val (.int v8_3), .val (.int v9_5), .val (.int v10_7), .val (.int v11_9), .val (.ref b10), .val (.ref b14), .val (.int (own_r v9_5 v10_7 v11_9)), .val (.int (v9_5 - (1 : Int32))), .val (.int v7_2), .val (.int v8_3), .val (.int (1 : Int32))] [(.ref b10)]))
        refine Goes.via (fun _ kk_ => XS.iconst X21.here hx rfl (hb hby at_210) kk_) ?_
        show Goes p e below _ (T21.setTop (mkF m 211 #[.val (.int t0), .val (.int t1), .val (.int t2), .val (.int d0), .val (.int d1), .val (.int d2), .val (.int v6_1), .val (.int v7_2), .val (.int v8_3), .val (.int v9_5), .val (.int v10_7), .val (.int v11_9), .val (.ref b10), .val (.ref b14), .val (.int (own_r v9_5 v10_7 v11_9)), .val (.int (v9_5 - (1 : Int32))), .val (.int v7_2), .val (.int v8_3), .val (.int (1 : Int32))] [(.int (2 : Int32)), (.ref b10)]))
        refine Goes.via (own_iaload X21 hx hZ rfl u21_0 (j := (2 : Int32)) (i := 2) (by decide) (by decide) (by decide) (v := (own_e2 v11_9 v8_3)) rfl (g := (mkF m 211 #[.val (.int t0), .val (.int t1), .val (.int t2), .val (.int d0), .val (.int d1), .val (.int d2), .val (.int v6_1), .val (.int v7_2), .val (.int v8_3), .val (.int v9_5), .val (.int v10_7), .val (.int v11_9), .val (.ref b10), .val (.ref b14), .val (.int (own_r v9_5 v10_7 v11_9)), .val (.int (v9_5 - (1 : Int32))), .val (.int v7_2), .val (.int v8_3), .val (.int (1 : Int32))] [(.int (2 : Int32)), (.ref b10)])) rfl rfl (hb hby at_211)) ?_
        show Goes p e below _ (T21.setTop (mkF m 212 #[.val (.int t0), .val (.int t1), .val (.int t2), .val (.int d0), .val (.int d1), .val (.int d2), .val (.int v6_1), .val (.int v7_2), .val (.int v8_3), .val (.int v9_5), .val (.int v10_7), .val (.int v11_9), .val (.ref b10), .val (.ref b14), .val (.int (own_r v9_5 v10_7 v11_9)), .val (.int (v9_5 - (1 : Int32))), .val (.int v7_2), .val (.int v8_3), .val (.int (1 : Int32))] [(.int (own_e2 v11_9 v8_3))]))
        refine Goes.via (fun _ kk_ => XS.iload X21.here hx rfl (hb hby at_212) rfl  kk_) ?_
        show Goes p e below _ (T21.setTop (mkF m 214 #[.val (.int t0), .val (.int t1), .val (.int t2), .val (.int d0), .val (.int d1), .val (.int d2), .val (.int v6_1), .val (.int v7_2), .val (.int v8_3), .val (.int v9_5), .val (.int v10_7), .val (.int v11_9), .val (.ref b10), .val (.ref b14), .val (.int (own_r v9_5 v10_7 v11_9)), .val (.int (v9_5 - (1 : Int32))), .val (.int v7_2), .val (.int v8_3), .val (.int (1 : Int32))] [(.int v8_3), (.int (own_e2 v11_9 v8_3))]))
        have hc214_44 : (own_e2 v11_9 v8_3) = v8_3 := (by simp [own_e2, hz2, hz1, hz0])
        refine Goes.via (fun _ kk_ => XS.icmpNo X21.here hx rfl (hb hby at_214) rfl (teq hc214_44).2 kk_) ?_
        show Goes p e below _ (T21.setTop (mkF m 217 #[.val (.int t0), .val (.int t1), .val (.int t2), .val (.int d0), .val (.int d1), .val (.int d2), .val (.int v6_1), .val (.int v7_2), .val (.int v8_3), .val (.int v9_5), .val (.int v10_7), .val (.int v11_9), .val (.ref b10), .val (.ref b14), .val (.int (own_r v9_5 v10_7 v11_9)), .val (.int (v9_5 - (1 : Int32))), .val (.int v7_2), .val (.int v8_3), .val (.int (1 : Int32))] []))
        refine Goes.via (fun _ kk_ => XS.aload X21.here hx rfl (hb hby at_217) rfl rfl  kk_) ?_
        show Goes p e below _ (T21.setTop (mkF m 219 #[.val (.int t0), .val (.int t1), .val (.int t2), .val (.int d0), .val (.int d1), .val (.int d2), .val (.int v6_1), .val (.int v7_2), .val (.int v8_3), .val (.int v9_5), .val (.int v10_7), .val (.int v11_9), .val (.ref b10), .val (.ref b14), .val (.int (own_r v9_5 v10_7 v11_9)), .val (.int (v9_5 - (1 : Int32))), .val (.int v7_2), .val (.int v8_3), .val (.int (1 : Int32))] [(.ref b14)]))
        refine Goes.via (fun _ kk_ => XS.iconst X21.here hx rfl (hb hby at_219) kk_) ?_
        show Goes p e below _ (T21.setTop (mkF m 220 #[.val (.int t0), .val (.int t1), .val (.int t2), .val (.int d0), .val (.int d1), .val (.int d2), .val (.int v6_1), .val (.int v7_2), .val (.int v8_3), .val (.int v9_5), .val (.int v10_7), .val (.int v11_9), .val (.ref b10), .val (.ref b14), .val (.int (own_r v9_5 v10_7 v11_9)), .val (.int (v9_5 - (1 : Int32))), .val (.int v7_2), .val (.int v8_3), .val (.int (1 : Int32))] [(.int (0 : Int32)), (.ref b14)]))
        have f45 : Arw Z T21.heap b14 k14 .int 3 (own_a3 v6_1 v7_2 v8_3) := (Ag1.keep K21 (ninS (Ne.symm ne15) nin0))
        refine Goes.via (own_iaload X21 hx hZ rfl f45 (j := (0 : Int32)) (i := 0) (by decide) (by decide) (by decide) (v := v6_1) rfl (g := (mkF m 220 #[.val (.int t0), .val (.int t1), .val (.int t2), .val (.int d0), .val (.int d1), .val (.int d2), .val (.int v6_1), .val (.int v7_2), .val (.int v8_3), .val (.int v9_5), .val (.int v10_7), .val (.int v11_9), .val (.ref b10), .val (.ref b14), .val (.int (own_r v9_5 v10_7 v11_9)), .val (.int (v9_5 - (1 : Int32))), .val (.int v7_2), .val (.int v8_3), .val (.int (1 : Int32))] [(.int (0 : Int32)), (.ref b14)])) rfl rfl (hb hby at_220)) ?_
        show Goes p e below _ (T21.setTop (mkF m 221 #[.val (.int t0), .val (.int t1), .val (.int t2), .val (.int d0), .val (.int d1), .val (.int d2), .val (.int v6_1), .val (.int v7_2), .val (.int v8_3), .val (.int v9_5), .val (.int v10_7), .val (.int v11_9), .val (.ref b10), .val (.ref b14), .val (.int (own_r v9_5 v10_7 v11_9)), .val (.int (v9_5 - (1 : Int32))), .val (.int v7_2), .val (.int v8_3), .val (.int (1 : Int32))] [(.int v6_1)]))
        refine Goes.via (fun _ kk_ => XS.iload X21.here hx rfl (hb hby at_221) rfl  kk_) ?_
        show Goes p e below _ (T21.setTop (mkF m 223 #[.val (.int t0), .val (.int t1), .val (.int t2), .val (.int d0), .val (.int d1), .val (.int d2), .val (.int v6_1), .val (.int v7_2), .val (.int v8_3), .val (.int v9_5), .val (.int v10_7), .val (.int v11_9), .val (.ref b10), .val (.ref b14), .val (.int (own_r v9_5 v10_7 v11_9)), .val (.int (v9_5 - (1 : Int32))), .val (.int v7_2), .val (.int v8_3), .val (.int (1 : Int32))] [(.int v6_1), (.int v6_1)]))
        have hc223_46 : v6_1 = v6_1 := rfl
        refine Goes.via (fun _ kk_ => XS.icmpNo X21.here hx rfl (hb hby at_223) rfl (teq hc223_46).2 kk_) ?_
        show Goes p e below _ (T21.setTop (mkF m 226 #[.val (.int t0), .val (.int t1), .val (.int t2), .val (.int d0), .val (.int d1), .val (.int d2), .val (.int v6_1), .val (.int v7_2), .val (.int v8_3), .val (.int v9_5), .val (.int v10_7), .val (.int v11_9), .val (.ref b10), .val (.ref b14), .val (.int (own_r v9_5 v10_7 v11_9)), .val (.int (v9_5 - (1 : Int32))), .val (.int v7_2), .val (.int v8_3), .val (.int (1 : Int32))] []))
        refine Goes.via (fun _ kk_ => XS.aload X21.here hx rfl (hb hby at_226) rfl rfl  kk_) ?_
        show Goes p e below _ (T21.setTop (mkF m 228 #[.val (.int t0), .val (.int t1), .val (.int t2), .val (.int d0), .val (.int d1), .val (.int d2), .val (.int v6_1), .val (.int v7_2), .val (.int v8_3), .val (.int v9_5), .val (.int v10_7), .val (.int v11_9), .val (.ref b10), .val (.ref b14), .val (.int (own_r v9_5 v10_7 v11_9)), .val (.int (v9_5 - (1 : Int32))), .val (.int v7_2), .val (.int v8_3), .val (.int (1 : Int32))] [(.ref b14)]))
        refine Goes.via (fun _ kk_ => XS.iconst X21.here hx rfl (hb hby at_228) kk_) ?_
        show Goes p e below _ (T21.setTop (mkF m 229 #[.val (.int t0), .val (.int t1), .val (.int t2), .val (.int d0), .val (.int d1), .val (.int d2), .val (.int v6_1), .val (.int v7_2), .val (.int v8_3), .val (.int v9_5), .val (.int v10_7), .val (.int v11_9), .val (.ref b10), .val (.ref b14), .val (.int (own_r v9_5 v10_7 v11_9)), .val (.int (v9_5 - (1 : Int32))), .val (.int v7_2), .val (.int v8_3), .val (.int (1 : Int32))] [(.int (1 : Int32)), (.ref b14)]))
        refine Goes.via (own_iaload X21 hx hZ rfl f45 (j := (1 : Int32)) (i := 1) (by decide) (by decide) (by decide) (v := v7_2) rfl (g := (mkF m 229 #[.val (.int t0), .val (.int t1), .val (.int t2), .val (.int d0), .val (.int d1), .val (.int d2), .val (.int v6_1), .val (.int v7_2), .val (.int v8_3), .val (.int v9_5), .val (.int v10_7), .val (.int v11_9), .val (.ref b10), .val (.ref b14), .val (.int (own_r v9_5 v10_7 v11_9)), .val (.int (v9_5 - (1 : Int32))), .val (.int v7_2), .val (.int v8_3), .val (.int (1 : Int32))] [(.int (1 : Int32)), (.ref b14)])) rfl rfl (hb hby at_229)) ?_
        show Goes p e below _ (T21.setTop (mkF m 230 #[.val (.int t0), .val (.int t1), .val (.int t2), .val (.int d0), .val (.int d1), .val (.int d2), .val (.int v6_1), .val (.int v7_2), .val (.int v8_3), .val (.int v9_5), .val (.int v10_7), .val (.int v11_9), .val (.ref b10), .val (.ref b14), .val (.int (own_r v9_5 v10_7 v11_9)), .val (.int (v9_5 - (1 : Int32))), .val (.int v7_2), .val (.int v8_3), .val (.int (1 : Int32))] [(.int v7_2)]))
        refine Goes.via (fun _ kk_ => XS.iload X21.here hx rfl (hb hby at_230) rfl  kk_) ?_
        show Goes p e below _ (T21.setTop (mkF m 232 #[.val (.int t0), .val (.int t1), .val (.int t2), .val (.int d0), .val (.int d1), .val (.int d2), .val (.int v6_1), .val (.int v7_2), .val (.int v8_3), .val (.int v9_5), .val (.int v10_7), .val (.int v11_9), .val (.ref b10), .val (.ref b14), .val (.int (own_r v9_5 v10_7 v11_9)), .val (.int (v9_5 - (1 : Int32))), .val (.int v7_2), .val (.int v8_3), .val (.int (1 : Int32))] [(.int v7_2), (.int v7_2)]))
        have hc232_47 : v7_2 = v7_2 := rfl
        refine Goes.via (fun _ kk_ => XS.icmpNo X21.here hx rfl (hb hby at_232) rfl (teq hc232_47).2 kk_) ?_
        show Goes p e below _ (T21.setTop (mkF m 235 #[.val (.int t0), .val (.int t1), .val (.int t2), .val (.int d0), .val (.int d1), .val (.int d2), .val (.int v6_1), .val (.int v7_2), .val (.int v8_3), .val (.int v9_5), .val (.int v10_7), .val (.int v11_9), .val (.ref b10), .val (.ref b14), .val (.int (own_r v9_5 v10_7 v11_9)), .val (.int (v9_5 - (1 : Int32))), .val (.int v7_2), .val (.int v8_3), .val (.int (1 : Int32))] []))
        refine Goes.via (fun _ kk_ => XS.aload X21.here hx rfl (hb hby at_235) rfl rfl  kk_) ?_
        show Goes p e below _ (T21.setTop (mkF m 237 #[.val (.int t0), .val (.int t1), .val (.int t2), .val (.int d0), .val (.int d1), .val (.int d2), .val (.int v6_1), .val (.int v7_2), .val (.int v8_3), .val (.int v9_5), .val (.int v10_7), .val (.int v11_9), .val (.ref b10), .val (.ref b14), .val (.int (own_r v9_5 v10_7 v11_9)), .val (.int (v9_5 - (1 : Int32))), .val (.int v7_2), .val (.int v8_3), .val (.int (1 : Int32))] [(.ref b14)]))
        refine Goes.via (fun _ kk_ => XS.iconst X21.here hx rfl (hb hby at_237) kk_) ?_
        show Goes p e below _ (T21.setTop (mkF m 238 #[.val (.int t0), .val (.int t1), .val (.int t2), .val (.int d0), .val (.int d1), .val (.int d2), .val (.int v6_1), .val (.int v7_2), .val (.int v8_3), .val (.int v9_5), .val (.int v10_7), .val (.int v11_9), .val (.ref b10), .val (.ref b14), .val (.int (own_r v9_5 v10_7 v11_9)), .val (.int (v9_5 - (1 : Int32))), .val (.int v7_2), .val (.int v8_3), .val (.int (1 : Int32))] [(.int (2 : Int32)), (.ref b14)]))
        refine Goes.via (own_iaload X21 hx hZ rfl f45 (j := (2 : Int32)) (i := 2) (by decide) (by decide) (by decide) (v := v8_3) rfl (g := (mkF m 238 #[.val (.int t0), .val (.int t1), .val (.int t2), .val (.int d0), .val (.int d1), .val (.int d2), .val (.int v6_1), .val (.int v7_2), .val (.int v8_3), .val (.int v9_5), .val (.int v10_7), .val (.int v11_9), .val (.ref b10), .val (.ref b14), .val (.int (own_r v9_5 v10_7 v11_9)), .val (.int (v9_5 - (1 : Int32))), .val (.int v7_2), .val (.int v8_3), .val (.int (1 : Int32))] [(.int (2 : Int32)), (.ref b14)])) rfl rfl (hb hby at_238)) ?_
        show Goes p e below _ (T21.setTop (mkF m 239 #[.val (.int t0), .val (.int t1), .val (.int t2), .val (.int d0), .val (.int d1), .val (.int d2), .val (.int v6_1), .val (.int v7_2), .val (.int v8_3), .val (.int v9_5), .val (.int v10_7), .val (.int v11_9), .val (.ref b10), .val (.ref b14), .val (.int (own_r v9_5 v10_7 v11_9)), .val (.int (v9_5 - (1 : Int32))), .val (.int v7_2), .val (.int v8_3), .val (.int (1 : Int32))] [(.int v8_3)]))
        refine Goes.via (fun _ kk_ => XS.iload X21.here hx rfl (hb hby at_239) rfl  kk_) ?_
        show Goes p e below _ (T21.setTop (mkF m 241 #[.val (.int t0), .val (.int t1), .val (.int t2), .val (.int d0), .val (.int d1), .val (.int d2), .val (.int v6_1), .val (.int v7_2), .val (.int v8_3), .val (.int v9_5), .val (.int v10_7), .val (.int v11_9), .val (.ref b10), .val (.ref b14), .val (.int (own_r v9_5 v10_7 v11_9)), .val (.int (v9_5 - (1 : Int32))), .val (.int v7_2), .val (.int v8_3), .val (.int (1 : Int32))] [(.int v8_3), (.int v8_3)]))
        have hc241_48 : v8_3 = v8_3 := rfl
        refine Goes.via (fun _ kk_ => XS.icmpNo X21.here hx rfl (hb hby at_241) rfl (teq hc241_48).2 kk_) ?_
        show Goes p e below _ (T21.setTop (mkF m 244 #[.val (.int t0), .val (.int t1), .val (.int t2), .val (.int d0), .val (.int d1), .val (.int d2), .val (.int v6_1), .val (.int v7_2), .val (.int v8_3), .val (.int v9_5), .val (.int v10_7), .val (.int v11_9), .val (.ref b10), .val (.ref b14), .val (.int (own_r v9_5 v10_7 v11_9)), .val (.int (v9_5 - (1 : Int32))), .val (.int v7_2), .val (.int v8_3), .val (.int (1 : Int32))] []))
        refine Goes.via (fun _ kk_ => XS.iconst X21.here hx rfl (hb hby at_244) kk_) ?_
        show Goes p e below _ (T21.setTop (mkF m 245 #[.val (.int t0), .val (.int t1), .val (.int t2), .val (.int d0), .val (.int d1), .val (.int d2), .val (.int v6_1), .val (.int v7_2), .val (.int v8_3), .val (.int v9_5), .val (.int v10_7), .val (.int v11_9), .val (.ref b10), .val (.ref b14), .val (.int (own_r v9_5 v10_7 v11_9)), .val (.int (v9_5 - (1 : Int32))), .val (.int v7_2), .val (.int v8_3), .val (.int (1 : Int32))] [(.int (1 : Int32))]))
        refine Goes.via (fun _ kk_ => XS.goto X21.here hx rfl (pc0 := 245) (pc' := 249) rfl (hb hby at_245) (by decide) (by decide) kk_) ?_
        show Goes p e below _ (T21.setTop (mkF m 249 #[.val (.int t0), .val (.int t1), .val (.int t2), .val (.int d0), .val (.int d1), .val (.int d2), .val (.int v6_1), .val (.int v7_2), .val (.int v8_3), .val (.int v9_5), .val (.int v10_7), .val (.int v11_9), .val (.ref b10), .val (.ref b14), .val (.int (own_r v9_5 v10_7 v11_9)), .val (.int (v9_5 - (1 : Int32))), .val (.int v7_2), .val (.int v8_3), .val (.int (1 : Int32))] [(.int (1 : Int32))]))
        have K49 : Keep h0 T21.heap [] := ((((((((((Keep.refl h0 []).ext E10).wr W11 (Or.inr sz_b10)).wr W12 (Or.inr sz_b10)).wr W13 (Or.inr sz_b10)).ext E14).wr W17 (Or.inr sz_b14)).wr W18 (Or.inr sz_b14)).wr W19 (Or.inr sz_b14)).trans K21 (allS (Or.inr sz_b10) all0))
        exact own_finN X21 hx hlk hret (by simp) (hb hby at_249) (by exact ⟨rfl, N21, K49⟩) (by first | decide | omega) (by first | decide | omega)
      · skip
        refine Goes.via (fun _ kk_ => XS.ifYes X21.here hx rfl (pc0 := 145) (pc' := 168) rfl (hb hby at_145) rfl ((if0 _ _).trans (flt hc145).2.2.2) (by decide) (by decide) kk_) ?_
        show Goes p e below _ (T21.setTop (mkF m 168 #[.val (.int t0), .val (.int t1), .val (.int t2), .val (.int d0), .val (.int d1), .val (.int d2), .val (.int v6_1), .val (.int v7_2), .val (.int v8_3), .val (.int v9_5), .val (.int v10_7), .val (.int v11_9), .val (.ref b10), .val (.ref b14), .val (.int (own_r v9_5 v10_7 v11_9)), .unset, .unset, .unset, .unset] []))
        refine Goes.via (fun _ kk_ => XS.iload X21.here hx rfl (hb hby at_168) rfl  kk_) ?_
        show Goes p e below _ (T21.setTop (mkF m 170 #[.val (.int t0), .val (.int t1), .val (.int t2), .val (.int d0), .val (.int d1), .val (.int d2), .val (.int v6_1), .val (.int v7_2), .val (.int v8_3), .val (.int v9_5), .val (.int v10_7), .val (.int v11_9), .val (.ref b10), .val (.ref b14), .val (.int (own_r v9_5 v10_7 v11_9)), .unset, .unset, .unset, .unset] [(.int v6_1)]))
        refine Goes.via (fun _ kk_ => XS.istore X21.here hx rfl (hb hby at_170) rfl (l' := #[.val (.int t0), .val (.int t1), .val (.int t2), .val (.int d0), .val (.int d1), .val (.int d2), .val (.int v6_1), .val (.int v7_2), .val (.int v8_3), .val (.int v9_5), .val (.int v10_7), .val (.int v11_9), .val (.ref b10), .val (.ref b14), .val (.int (own_r v9_5 v10_7 v11_9)), .val (.int v6_1), .unset, .unset, .unset]) rfl kk_) ?_
        show Goes p e below _ (T21.setTop (mkF m 172 #[.val (.int t0), .val (.int t1), .val (.int t2), .val (.int d0), .val (.int d1), .val (.int d2), .val (.int v6_1), .val (.int v7_2), .val (.int v8_3), .val (.int v9_5), .val (.int v10_7), .val (.int v11_9), .val (.ref b10), .val (.ref b14), .val (.int (own_r v9_5 v10_7 v11_9)), .val (.int v6_1), .unset, .unset, .unset] []))
        refine Goes.via (fun _ kk_ => XS.iload X21.here hx rfl (hb hby at_172) rfl  kk_) ?_
        show Goes p e below _ (T21.setTop (mkF m 174 #[.val (.int t0), .val (.int t1), .val (.int t2), .val (.int d0), .val (.int d1), .val (.int d2), .val (.int v6_1), .val (.int v7_2), .val (.int v8_3), .val (.int v9_5), .val (.int v10_7), .val (.int v11_9), .val (.ref b10), .val (.ref b14), .val (.int (own_r v9_5 v10_7 v11_9)), .val (.int v6_1), .unset, .unset, .unset] [(.int v7_2)]))
        refine Goes.via (fun _ kk_ => XS.istore X21.here hx rfl (hb hby at_174) rfl (l' := #[.val (.int t0), .val (.int t1), .val (.int t2), .val (.int d0), .val (.int d1), .val (.int d2), .val (.int v6_1), .val (.int v7_2), .val (.int v8_3), .val (.int v9_5), .val (.int v10_7), .val (.int v11_9), .val (.ref b10), .val (.ref b14), .val (.int (own_r v9_5 v10_7 v11_9)), .val (.int v6_1), .val (.int v7_2), .unset, .unset]) rfl kk_) ?_
        show Goes p e below _ (T21.setTop (mkF m 176 #[.val (.int t0), .val (.int t1), .val (.int t2), .val (.int d0), .val (.int d1), .val (.int d2), .val (.int v6_1), .val (.int v7_2), .val (.int v8_3), .val (.int v9_5), .val (.int v10_7), .val (.int v11_9), .val (.ref b10), .val (.ref b14), .val (.int (own_r v9_5 v10_7 v11_9)), .val (.int v6_1), .val (.int v7_2), .unset, .unset] []))
        refine Goes.via (fun _ kk_ => XS.iload X21.here hx rfl (hb hby at_176) rfl  kk_) ?_
        show Goes p e below _ (T21.setTop (mkF m 178 #[.val (.int t0), .val (.int t1), .val (.int t2), .val (.int d0), .val (.int d1), .val (.int d2), .val (.int v6_1), .val (.int v7_2), .val (.int v8_3), .val (.int v9_5), .val (.int v10_7), .val (.int v11_9), .val (.ref b10), .val (.ref b14), .val (.int (own_r v9_5 v10_7 v11_9)), .val (.int v6_1), .val (.int v7_2), .unset, .unset] [(.int v8_3)]))
        refine Goes.via (fun _ kk_ => XS.istore X21.here hx rfl (hb hby at_178) rfl (l' := #[.val (.int t0), .val (.int t1), .val (.int t2), .val (.int d0), .val (.int d1), .val (.int d2), .val (.int v6_1), .val (.int v7_2), .val (.int v8_3), .val (.int v9_5), .val (.int v10_7), .val (.int v11_9), .val (.ref b10), .val (.ref b14), .val (.int (own_r v9_5 v10_7 v11_9)), .val (.int v6_1), .val (.int v7_2), .val (.int v8_3), .unset]) rfl kk_) ?_
        show Goes p e below _ (T21.setTop (mkF m 180 #[.val (.int t0), .val (.int t1), .val (.int t2), .val (.int d0), .val (.int d1), .val (.int d2), .val (.int v6_1), .val (.int v7_2), .val (.int v8_3), .val (.int v9_5), .val (.int v10_7), .val (.int v11_9), .val (.ref b10), .val (.ref b14), .val (.int (own_r v9_5 v10_7 v11_9)), .val (.int v6_1), .val (.int v7_2), .val (.int v8_3), .unset] []))
        refine Goes.via (fun _ kk_ => XS.iconst X21.here hx rfl (hb hby at_180) kk_) ?_
        show Goes p e below _ (T21.setTop (mkF m 181 #[.val (.int t0), .val (.int t1), .val (.int t2), .val (.int d0), .val (.int d1), .val (.int d2), .val (.int v6_1), .val (.int v7_2), .val (.int v8_3), .val (.int v9_5), .val (.int v10_7), .val (.int v11_9), .val (.ref b10), .val (.ref b14), .val (.int (own_r v9_5 v10_7 v11_9)), .val (.int v6_1), .val (.int v7_2), .val (.int v8_3), .unset] [(.int (0 : Int32))]))
        refine Goes.via (fun _ kk_ => XS.istore X21.here hx rfl (hb hby at_181) rfl (l' := #[.val (.int t0), .val (.int t1), .val (.int t2), .val (.int d0), .val (.int d1), .val (.int d2), .val (.int v6_1), .val (.int v7_2), .val (.int v8_3), .val (.int v9_5), .val (.int v10_7), .val (.int v11_9), .val (.ref b10), .val (.ref b14), .val (.int (own_r v9_5 v10_7 v11_9)), .val (.int v6_1), .val (.int v7_2), .val (.int v8_3), .val (.int (0 : Int32))]) rfl kk_) ?_
        show Goes p e below _ (T21.setTop (mkF m 183 #[.val (.int t0), .val (.int t1), .val (.int t2), .val (.int d0), .val (.int d1), .val (.int d2), .val (.int v6_1), .val (.int v7_2), .val (.int v8_3), .val (.int v9_5), .val (.int v10_7), .val (.int v11_9), .val (.ref b10), .val (.ref b14), .val (.int (own_r v9_5 v10_7 v11_9)), .val (.int v6_1), .val (.int v7_2), .val (.int v8_3), .val (.int (0 : Int32))] []))
        have hz2 := own_z hp11 hc95
        have hz1 := own_z hp10 hc120
        have hz0 := own_z hp9 hc145
        refine Goes.via (fun _ kk_ => XS.iload X21.here hx rfl (hb hby at_183) rfl  kk_) ?_
        show Goes p e below _ (T21.setTop (mkF m 185 #[.val (.int t0), .val (.int t1), .val (.int t2), .val (.int d0), .val (.int d1), .val (.int d2), .val (.int v6_1), .val (.int v7_2), .val (.int v8_3), .val (.int v9_5), .val (.int v10_7), .val (.int v11_9), .val (.ref b10), .val (.ref b14), .val (.int (own_r v9_5 v10_7 v11_9)), .val (.int v6_1), .val (.int v7_2), .val (.int v8_3), .val (.int (0 : Int32))] [(.int (own_r v9_5 v10_7 v11_9))]))
        refine Goes.via (fun _ kk_ => XS.iload X21.here hx rfl (hb hby at_185) rfl  kk_) ?_
        show Goes p e below _ (T21.setTop (mkF m 187 #[.val (.int t0), .val (.int t1), .val (.int t2), .val (.int d0), .val (.int d1), .val (.int d2), .val (.int v6_1), .val (.int v7_2), .val (.int v8_3), .val (.int v9_5), .val (.int v10_7), .val (.int v11_9), .val (.ref b10), .val (.ref b14), .val (.int (own_r v9_5 v10_7 v11_9)), .val (.int v6_1), .val (.int v7_2), .val (.int v8_3), .val (.int (0 : Int32))] [(.int (0 : Int32)), (.int (own_r v9_5 v10_7 v11_9))]))
        have hc187_50 : (own_r v9_5 v10_7 v11_9) = (0 : Int32) := (by simp [own_r, hz2, hz1, hz0])
        refine Goes.via (fun _ kk_ => XS.icmpNo X21.here hx rfl (hb hby at_187) rfl (teq hc187_50).2 kk_) ?_
        show Goes p e below _ (T21.setTop (mkF m 190 #[.val (.int t0), .val (.int t1), .val (.int t2), .val (.int d0), .val (.int d1), .val (.int d2), .val (.int v6_1), .val (.int v7_2), .val (.int v8_3), .val (.int v9_5), .val (.int v10_7), .val (.int v11_9), .val (.ref b10), .val (.ref b14), .val (.int (own_r v9_5 v10_7 v11_9)), .val (.int v6_1), .val (.int v7_2), .val (.int v8_3), .val (.int (0 : Int32))] []))
        refine Goes.via (fun _ kk_ => XS.aload X21.here hx rfl (hb hby at_190) rfl rfl  kk_) ?_
        show Goes p e below _ (T21.setTop (mkF m 192 #[.val (.int t0), .val (.int t1), .val (.int t2), .val (.int d0), .val (.int d1), .val (.int d2), .val (.int v6_1), .val (.int v7_2), .val (.int v8_3), .val (.int v9_5), .val (.int v10_7), .val (.int v11_9), .val (.ref b10), .val (.ref b14), .val (.int (own_r v9_5 v10_7 v11_9)), .val (.int v6_1), .val (.int v7_2), .val (.int v8_3), .val (.int (0 : Int32))] [(.ref b10)]))
        refine Goes.via (fun _ kk_ => XS.iconst X21.here hx rfl (hb hby at_192) kk_) ?_
        show Goes p e below _ (T21.setTop (mkF m 193 #[.val (.int t0), .val (.int t1), .val (.int t2), .val (.int d0), .val (.int d1), .val (.int d2), .val (.int v6_1), .val (.int v7_2), .val (.int v8_3), .val (.int v9_5), .val (.int v10_7), .val (.int v11_9), .val (.ref b10), .val (.ref b14), .val (.int (own_r v9_5 v10_7 v11_9)), .val (.int v6_1), .val (.int v7_2), .val (.int v8_3), .val (.int (0 : Int32))] [(.int (0 : Int32)), (.ref b10)]))
        refine Goes.via (own_iaload X21 hx hZ rfl u21_0 (j := (0 : Int32)) (i := 0) (by decide) (by decide) (by decide) (v := (own_e0 v9_5 v10_7 v11_9 v6_1)) rfl (g := (mkF m 193 #[.val (.int t0), .val (.int t1), .val (.int t2), .val (.int d0), .val (.int d1), .val (.int d2), .val (.int v6_1), .val (.int v7_2), .val (.int v8_3), .val (.int v9_5), .val (.int v10_7), .val (.int v11_9), .val (.ref b10), .val (.ref b14), .val (.int (own_r v9_5 v10_7 v11_9)), .val (.int v6_1), .val (.int v7_2), .val (.int v8_3), .val (.int (0 : Int32))] [(.int (0 : Int32)), (.ref b10)])) rfl rfl (hb hby at_193)) ?_
        show Goes p e below _ (T21.setTop (mkF m 194 #[.val (.int t0), .val (.int t1), .val (.int t2), .val (.int d0), .val (.int d1), .val (.int d2), .val (.int v6_1), .val (.int v7_2), .val (.int v8_3), .val (.int v9_5), .val (.int v10_7), .val (.int v11_9), .val (.ref b10), .val (.ref b14), .val (.int (own_r v9_5 v10_7 v11_9)), .val (.int v6_1), .val (.int v7_2), .val (.int v8_3), .val (.int (0 : Int32))] [(.int (own_e0 v9_5 v10_7 v11_9 v6_1))]))
        refine Goes.via (fun _ kk_ => XS.iload X21.here hx rfl (hb hby at_194) rfl  kk_) ?_
        show Goes p e below _ (T21.setTop (mkF m 196 #[.val (.int t0), .val (.int t1), .val (.int t2), .val (.int d0), .val (.int d1), .val (.int d2), .val (.int v6_1), .val (.int v7_2), .val (.int v8_3), .val (.int v9_5), .val (.int v10_7), .val (.int v11_9), .val (.ref b10), .val (.ref b14), .val (.int (own_r v9_5 v10_7 v11_9)), .val (.int v6_1), .val (.int v7_2), .val (.int v8_3), .val (.int (0 : Int32))] [(.int v6_1), (.int (own_e0 v9_5 v10_7 v11_9 v6_1))]))
        have hc196_51 : (own_e0 v9_5 v10_7 v11_9 v6_1) = v6_1 := (by simp [own_e0, hz2, hz1, hz0])
        refine Goes.via (fun _ kk_ => XS.icmpNo X21.here hx rfl (hb hby at_196) rfl (teq hc196_51).2 kk_) ?_
        show Goes p e below _ (T21.setTop (mkF m 199 #[.val (.int t0), .val (.int t1), .val (.int t2), .val (.int d0), .val (.int d1), .val (.int d2), .val (.int v6_1), .val (.int v7_2), .val (.int v8_3), .val (.int v9_5), .val (.int v10_7), .val (.int v11_9), .val (.ref b10), .val (.ref b14), .val (.int (own_r v9_5 v10_7 v11_9)), .val (.int v6_1), .val (.int v7_2), .val (.int v8_3), .val (.int (0 : Int32))] []))
        refine Goes.via (fun _ kk_ => XS.aload X21.here hx rfl (hb hby at_199) rfl rfl  kk_) ?_
        show Goes p e below _ (T21.setTop (mkF m 201 #[.val (.int t0), .val (.int t1), .val (.int t2), .val (.int d0), .val (.int d1), .val (.int d2), .val (.int v6_1), .val (.int v7_2), .val (.int v8_3), .val (.int v9_5), .val (.int v10_7), .val (.int v11_9), .val (.ref b10), .val (.ref b14), .val (.int (own_r v9_5 v10_7 v11_9)), .val (.int v6_1), .val (.int v7_2), .val (.int v8_3), .val (.int (0 : Int32))] [(.ref b10)]))
        refine Goes.via (fun _ kk_ => XS.iconst X21.here hx rfl (hb hby at_201) kk_) ?_
        show Goes p e below _ (T21.setTop (mkF m 202 #[.val (.int t0), .val (.int t1), .val (.int t2), .val (.int d0), .val (.int d1), .val (.int d2), .val (.int v6_1), .val (.int v7_2), .val (.int v8_3), .val (.int v9_5), .val (.int v10_7), .val (.int v11_9), .val (.ref b10), .val (.ref b14), .val (.int (own_r v9_5 v10_7 v11_9)), .val (.int v6_1), .val (.int v7_2), .val (.int v8_3), .val (.int (0 : Int32))] [(.int (1 : Int32)), (.ref b10)]))
        refine Goes.via (own_iaload X21 hx hZ rfl u21_0 (j := (1 : Int32)) (i := 1) (by decide) (by decide) (by decide) (v := (own_e1 v10_7 v11_9 v7_2)) rfl (g := (mkF m 202 #[.val (.int t0), .val (.int t1), .val (.int t2), .val (.int d0), .val (.int d1), .val (.int d2), .val (.int v6_1), .val (.int v7_2), .val (.int v8_3), .val (.int v9_5), .val (.int v10_7), .val (.int v11_9), .val (.ref b10), .val (.ref b14), .val (.int (own_r v9_5 v10_7 v11_9)), .val (.int v6_1), .val (.int v7_2), .val (.int v8_3), .val (.int (0 : Int32))] [(.int (1 : Int32)), (.ref b10)])) rfl rfl (hb hby at_202)) ?_
        show Goes p e below _ (T21.setTop (mkF m 203 #[.val (.int t0), .val (.int t1), .val (.int t2), .val (.int d0), .val (.int d1), .val (.int d2), .val (.int v6_1), .val (.int v7_2), .val (.int v8_3), .val (.int v9_5), .val (.int v10_7), .val (.int v11_9), .val (.ref b10), .val (.ref b14), .val (.int (own_r v9_5 v10_7 v11_9)), .val (.int v6_1), .val (.int v7_2), .val (.int v8_3), .val (.int (0 : Int32))] [(.int (own_e1 v10_7 v11_9 v7_2))]))
        refine Goes.via (fun _ kk_ => XS.iload X21.here hx rfl (hb hby at_203) rfl  kk_) ?_
        show Goes p e below _ (T21.setTop (mkF m 205 #[.val (.int t0), .val (.int t1), .val (.int t2), .val (.int d0), .val (.int d1), .val (.int d2), .val (.int v6_1), .val (.int v7_2), .val (.int v8_3), .val (.int v9_5), .val (.int v10_7), .val (.int v11_9), .val (.ref b10), .val (.ref b14), .val (.int (own_r v9_5 v10_7 v11_9)), .val (.int v6_1), .val (.int v7_2), .val (.int v8_3), .val (.int (0 : Int32))] [(.int v7_2), (.int (own_e1 v10_7 v11_9 v7_2))]))
        have hc205_52 : (own_e1 v10_7 v11_9 v7_2) = v7_2 := (by simp [own_e1, hz2, hz1, hz0])
        refine Goes.via (fun _ kk_ => XS.icmpNo X21.here hx rfl (hb hby at_205) rfl (teq hc205_52).2 kk_) ?_
        show Goes p e below _ (T21.setTop (mkF m 208 #[.val (.int t0), .val (.int t1), .val (.int t2), .val (.int d0), .val (.int d1), .val (.int d2), .val (.int v6_1), .val (.int v7_2), .val (.int v8_3), .val (.int v9_5), .val (.int v10_7), .val (.int v11_9), .val (.ref b10), .val (.ref b14), .val (.int (own_r v9_5 v10_7 v11_9)), .val (.int v6_1), .val (.int v7_2), .val (.int v8_3), .val (.int (0 : Int32))] []))
        refine Goes.via (fun _ kk_ => XS.aload X21.here hx rfl (hb hby at_208) rfl rfl  kk_) ?_
        show Goes p e below _ (T21.setTop (mkF m 210 #[.val (.int t0), .val (.int t1), .val (.int t2), .val (.int d0), .val (.int d1), .val (.int d2), .val (.int v6_1), .val (.int v7_2), .val (.int v8_3), .val (.int v9_5), .val (.int v10_7), .val (.int v11_9), .val (.ref b10), .val (.ref b14), .val (.int (own_r v9_5 v10_7 v11_9)), .val (.int v6_1), .val (.int v7_2), .val (.int v8_3), .val (.int (0 : Int32))] [(.ref b10)]))
        refine Goes.via (fun _ kk_ => XS.iconst X21.here hx rfl (hb hby at_210) kk_) ?_
        show Goes p e below _ (T21.setTop (mkF m 211 #[.val (.int t0), .val (.int t1), .val (.int t2), .val (.int d0), .val (.int d1), .val (.int d2), .val (.int v6_1), .val (.int v7_2), .val (.int v8_3), .val (.int v9_5), .val (.int v10_7), .val (.int v11_9), .val (.ref b10), .val (.ref b14), .val (.int (own_r v9_5 v10_7 v11_9)), .val (.int v6_1), .val (.int v7_2), .val (.int v8_3), .val (.int (0 : Int32))] [(.int (2 : Int32)), (.ref b10)]))
        refine Goes.via (own_iaload X21 hx hZ rfl u21_0 (j := (2 : Int32)) (i := 2) (by decide) (by decide) (by decide) (v := (own_e2 v11_9 v8_3)) rfl (g := (mkF m 211 #[.val (.int t0), .val (.int t1), .val (.int t2), .val (.int d0), .val (.int d1), .val (.int d2), .val (.int v6_1), .val (.int v7_2), .val (.int v8_3), .val (.int v9_5), .val (.int v10_7), .val (.int v11_9), .val (.ref b10), .val (.ref b14), .val (.int (own_r v9_5 v10_7 v11_9)), .val (.int v6_1), .val (.int v7_2), .val (.int v8_3), .val (.int (0 : Int32))] [(.int (2 : Int32)), (.ref b10)])) rfl rfl (hb hby at_211)) ?_
        show Goes p e below _ (T21.setTop (mkF m 212 #[.val (.int t0), .val (.int t1), .val (.int t2), .val (.int d0), .val (.int d1), .val (.int d2), .val (.int v6_1), .val (.int v7_2), .val (.int v8_3), .val (.int v9_5), .val (.int v10_7), .val (.int v11_9), .val (.ref b10), .val (.ref b14), .val (.int (own_r v9_5 v10_7 v11_9)), .val (.int v6_1), .val (.int v7_2), .val (.int v8_3), .val (.int (0 : Int32))] [(.int (own_e2 v11_9 v8_3))]))
        refine Goes.via (fun _ kk_ => XS.iload X21.here hx rfl (hb hby at_212) rfl  kk_) ?_
        show Goes p e below _ (T21.setTop (mkF m 214 #[.val (.int t0), .val (.int t1), .val (.int t2), .val (.int d0), .val (.int d1), .val (.int d2), .val (.int v6_1), .val (.int v7_2), .val (.int v8_3), .val (.int v9_5), .val (.int v10_7), .val (.int v11_9), .val (.ref b10), .val (.ref b14), .val (.int (own_r v9_5 v10_7 v11_9)), .val (.int v6_1), .val (.int v7_2), .val (.int v8_3), .val (.int (0 : Int32))] [(.int v8_3), (.int (own_e2 v11_9 v8_3))]))
        have hc214_53 : (own_e2 v11_9 v8_3) = v8_3 := (by simp [own_e2, hz2, hz1, hz0])
        refine Goes.via (fun _ kk_ => XS.icmpNo X21.here hx rfl (hb hby at_214) rfl (teq hc214_53).2 kk_) ?_
        show Goes p e below _ (T21.setTop (mkF m 217 #[.val (.int t0), .val (.int t1), .val (.int t2), .val (.int d0), .val (.int d1), .val (.int d2), .val (.int v6_1), .val (.int v7_2), .val (.int v8_3), .val (.int v9_5), .val (.int v10_7), .val (.int v11_9), .val (.ref b10), .val (.ref b14), .val (.int (own_r v9_5 v10_7 v11_9)), .val (.int v6_1), .val (.int v7_2), .val (.int v8_3), .val (.int (0 : Int32))] []))
        refine Goes.via (fun _ kk_ => XS.aload X21.here hx rfl (hb hby at_217) rfl rfl  kk_) ?_
        show Goes p e below _ (T21.setTop (mkF m 219 #[.val (.int t0), .val (.int t1), .val (.int t2), .val (.int d0), .val (.int d1), .val (.int d2), .val (.int v6_1), .val (.int v7_2), .val (.int v8_3), .val (.int v9_5), .val (.int v10_7), .val (.int v11_9), .val (.ref b10), .val (.ref b14), .val (.int (own_r v9_5 v10_7 v11_9)), .val (.int v6_1), .val (.int v7_2), .val (.int v8_3), .val (.int (0 : Int32))] [(.ref b14)]))
        refine Goes.via (fun _ kk_ => XS.iconst X21.here hx rfl (hb hby at_219) kk_) ?_
        show Goes p e below _ (T21.setTop (mkF m 220 #[.val (.int t0), .val (.int t1), .val (.int t2), .val (.int d0), .val (.int d1), .val (.int d2), .val (.int v6_1), .val (.int v7_2), .val (.int v8_3), .val (.int v9_5), .val (.int v10_7), .val (.int v11_9), .val (.ref b10), .val (.ref b14), .val (.int (own_r v9_5 v10_7 v11_9)), .val (.int v6_1), .val (.int v7_2), .val (.int v8_3), .val (.int (0 : Int32))] [(.int (0 : Int32)), (.ref b14)]))
        have f54 : Arw Z T21.heap b14 k14 .int 3 (own_a3 v6_1 v7_2 v8_3) := (Ag1.keep K21 (ninS (Ne.symm ne15) nin0))
        refine Goes.via (own_iaload X21 hx hZ rfl f54 (j := (0 : Int32)) (i := 0) (by decide) (by decide) (by decide) (v := v6_1) rfl (g := (mkF m 220 #[.val (.int t0), .val (.int t1), .val (.int t2), .val (.int d0), .val (.int d1), .val (.int d2), .val (.int v6_1), .val (.int v7_2), .val (.int v8_3), .val (.int v9_5), .val (.int v10_7), .val (.int v11_9), .val (.ref b10), .val (.ref b14), .val (.int (own_r v9_5 v10_7 v11_9)), .val (.int v6_1), .val (.int v7_2), .val (.int v8_3), .val (.int (0 : Int32))] [(.int (0 : Int32)), (.ref b14)])) rfl rfl (hb hby at_220)) ?_
        show Goes p e below _ (T21.setTop (mkF m 221 #[.val (.int t0), .val (.int t1), .val (.int t2), .val (.int d0), .val (.int d1), .val (.int d2), .val (.int v6_1), .val (.int v7_2), .val (.int v8_3), .val (.int v9_5), .val (.int v10_7), .val (.int v11_9), .val (.ref b10), .val (.ref b14), .val (.int (own_r v9_5 v10_7 v11_9)), .val (.int v6_1), .val (.int v7_2), .val (.int v8_3), .val (.int (0 : Int32))] [(.int v6_1)]))
        refine Goes.via (fun _ kk_ => XS.iload X21.here hx rfl (hb hby at_221) rfl  kk_) ?_
        show Goes p e below _ (T21.setTop (mkF m 223 #[.val (.int t0), .val (.int t1), .val (.int t2), .val (.int d0), .val (.int d1), .val (.int d2), .val (.int v6_1), .val (.int v7_2), .val (.int v8_3), .val (.int v9_5), .val (.int v10_7), .val (.int v11_9), .val (.ref b10), .val (.ref b14), .val (.int (own_r v9_5 v10_7 v11_9)), .val (.int v6_1), .val (.int v7_2), .val (.int v8_3), .val (.int (0 : Int32))] [(.int v6_1), (.int v6_1)]))
        have hc223_55 : v6_1 = v6_1 := rfl
        refine Goes.via (fun _ kk_ => XS.icmpNo X21.here hx rfl (hb hby at_223) rfl (teq hc223_55).2 kk_) ?_
        show Goes p e below _ (T21.setTop (mkF m 226 #[.val (.int t0), .val (.int t1), .val (.int t2), .val (.int d0), .val (.int d1), .val (.int d2), .val (.int v6_1), .val (.int v7_2), .val (.int v8_3), .val (.int v9_5), .val (.int v10_7), .val (.int v11_9), .val (.ref b10), .val (.ref b14), .val (.int (own_r v9_5 v10_7 v11_9)), .val (.int v6_1), .val (.int v7_2), .val (.int v8_3), .val (.int (0 : Int32))] []))
        refine Goes.via (fun _ kk_ => XS.aload X21.here hx rfl (hb hby at_226) rfl rfl  kk_) ?_
        show Goes p e below _ (T21.setTop (mkF m 228 #[.val (.int t0), .val (.int t1), .val (.int t2), .val (.int d0), .val (.int d1), .val (.int d2), .val (.int v6_1), .val (.int v7_2), .val (.int v8_3), .val (.int v9_5), .val (.int v10_7), .val (.int v11_9), .val (.ref b10), .val (.ref b14), .val (.int (own_r v9_5 v10_7 v11_9)), .val (.int v6_1), .val (.int v7_2), .val (.int v8_3), .val (.int (0 : Int32))] [(.ref b14)]))
        refine Goes.via (fun _ kk_ => XS.iconst X21.here hx rfl (hb hby at_228) kk_) ?_
        show Goes p e below _ (T21.setTop (mkF m 229 #[.val (.int t0), .val (.int t1), .val (.int t2), .val (.int d0), .val (.int d1), .val (.int d2), .val (.int v6_1), .val (.int v7_2), .val (.int v8_3), .val (.int v9_5), .val (.int v10_7), .val (.int v11_9), .val (.ref b10), .val (.ref b14), .val (.int (own_r v9_5 v10_7 v11_9)), .val (.int v6_1), .val (.int v7_2), .val (.int v8_3), .val (.int (0 : Int32))] [(.int (1 : Int32)), (.ref b14)]))
        refine Goes.via (own_iaload X21 hx hZ rfl f54 (j := (1 : Int32)) (i := 1) (by decide) (by decide) (by decide) (v := v7_2) rfl (g := (mkF m 229 #[.val (.int t0), .val (.int t1), .val (.int t2), .val (.int d0), .val (.int d1), .val (.int d2), .val (.int v6_1), .val (.int v7_2), .val (.int v8_3), .val (.int v9_5), .val (.int v10_7), .val (.int v11_9), .val (.ref b10), .val (.ref b14), .val (.int (own_r v9_5 v10_7 v11_9)), .val (.int v6_1), .val (.int v7_2), .val (.int v8_3), .val (.int (0 : Int32))] [(.int (1 : Int32)), (.ref b14)])) rfl rfl (hb hby at_229)) ?_
        show Goes p e below _ (T21.setTop (mkF m 230 #[.val (.int t0), .val (.int t1), .val (.int t2), .val (.int d0), .val (.int d1), .val (.int d2), .val (.int v6_1), .val (.int v7_2), .val (.int v8_3), .val (.int v9_5), .val (.int v10_7), .val (.int v11_9), .val (.ref b10), .val (.ref b14), .val (.int (own_r v9_5 v10_7 v11_9)), .val (.int v6_1), .val (.int v7_2), .val (.int v8_3), .val (.int (0 : Int32))] [(.int v7_2)]))
        refine Goes.via (fun _ kk_ => XS.iload X21.here hx rfl (hb hby at_230) rfl  kk_) ?_
        show Goes p e below _ (T21.setTop (mkF m 232 #[.val (.int t0), .val (.int t1), .val (.int t2), .val (.int d0), .val (.int d1), .val (.int d2), .val (.int v6_1), .val (.int v7_2), .val (.int v8_3), .val (.int v9_5), .val (.int v10_7), .val (.int v11_9), .val (.ref b10), .val (.ref b14), .val (.int (own_r v9_5 v10_7 v11_9)), .val (.int v6_1), .val (.int v7_2), .val (.int v8_3), .val (.int (0 : Int32))] [(.int v7_2), (.int v7_2)]))
        have hc232_56 : v7_2 = v7_2 := rfl
        refine Goes.via (fun _ kk_ => XS.icmpNo X21.here hx rfl (hb hby at_232) rfl (teq hc232_56).2 kk_) ?_
        show Goes p e below _ (T21.setTop (mkF m 235 #[.val (.int t0), .val (.int t1), .val (.int t2), .val (.int d0), .val (.int d1), .val (.int d2), .val (.int v6_1), .val (.int v7_2), .val (.int v8_3), .val (.int v9_5), .val (.int v10_7), .val (.int v11_9), .val (.ref b10), .val (.ref b14), .val (.int (own_r v9_5 v10_7 v11_9)), .val (.int v6_1), .val (.int v7_2), .val (.int v8_3), .val (.int (0 : Int32))] []))
        refine Goes.via (fun _ kk_ => XS.aload X21.here hx rfl (hb hby at_235) rfl rfl  kk_) ?_
        show Goes p e below _ (T21.setTop (mkF m 237 #[.val (.int t0), .val (.int t1), .val (.int t2), .val (.int d0), .val (.int d1), .val (.int d2), .val (.int v6_1), .val (.int v7_2), .val (.int v8_3), .val (.int v9_5), .val (.int v10_7), .val (.int v11_9), .val (.ref b10), .val (.ref b14), .val (.int (own_r v9_5 v10_7 v11_9)), .val (.int v6_1), .val (.int v7_2), .val (.int v8_3), .val (.int (0 : Int32))] [(.ref b14)]))
        refine Goes.via (fun _ kk_ => XS.iconst X21.here hx rfl (hb hby at_237) kk_) ?_
        show Goes p e below _ (T21.setTop (mkF m 238 #[.val (.int t0), .val (.int t1), .val (.int t2), .val (.int d0), .val (.int d1), .val (.int d2), .val (.int v6_1), .val (.int v7_2), .val (.int v8_3), .val (.int v9_5), .val (.int v10_7), .val (.int v11_9), .val (.ref b10), .val (.ref b14), .val (.int (own_r v9_5 v10_7 v11_9)), .val (.int v6_1), .val (.int v7_2), .val (.int v8_3), .val (.int (0 : Int32))] [(.int (2 : Int32)), (.ref b14)]))
        refine Goes.via (own_iaload X21 hx hZ rfl f54 (j := (2 : Int32)) (i := 2) (by decide) (by decide) (by decide) (v := v8_3) rfl (g := (mkF m 238 #[.val (.int t0), .val (.int t1), .val (.int t2), .val (.int d0), .val (.int d1), .val (.int d2), .val (.int v6_1), .val (.int v7_2), .val (.int v8_3), .val (.int v9_5), .val (.int v10_7), .val (.int v11_9), .val (.ref b10), .val (.ref b14), .val (.int (own_r v9_5 v10_7 v11_9)), .val (.int v6_1), .val (.int v7_2), .val (.int v8_3), .val (.int (0 : Int32))] [(.int (2 : Int32)), (.ref b14)])) rfl rfl (hb hby at_238)) ?_
        show Goes p e below _ (T21.setTop (mkF m 239 #[.val (.int t0), .val (.int t1), .val (.int t2), .val (.int d0), .val (.int d1), .val (.int d2), .val (.int v6_1), .val (.int v7_2), .val (.int v8_3), .val (.int v9_5), .val (.int v10_7), .val (.int v11_9), .val (.ref b10), .val (.ref b14), .val (.int (own_r v9_5 v10_7 v11_9)), .val (.int v6_1), .val (.int v7_2), .val (.int v8_3), .val (.int (0 : Int32))] [(.int v8_3)]))
        refine Goes.via (fun _ kk_ => XS.iload X21.here hx rfl (hb hby at_239) rfl  kk_) ?_
        show Goes p e below _ (T21.setTop (mkF m 241 #[.val (.int t0), .val (.int t1), .val (.int t2), .val (.int d0), .val (.int d1), .val (.int d2), .val (.int v6_1), .val (.int v7_2), .val (.int v8_3), .val (.int v9_5), .val (.int v10_7), .val (.int v11_9), .val (.ref b10), .val (.ref b14), .val (.int (own_r v9_5 v10_7 v11_9)), .val (.int v6_1), .val (.int v7_2), .val (.int v8_3), .val (.int (0 : Int32))] [(.int v8_3), (.int v8_3)]))
        have hc241_57 : v8_3 = v8_3 := rfl
        refine Goes.via (fun _ kk_ => XS.icmpNo X21.here hx rfl (hb hby at_241) rfl (teq hc241_57).2 kk_) ?_
        show Goes p e below _ (T21.setTop (mkF m 244 #[.val (.int t0), .val (.int t1), .val (.int t2), .val (.int d0), .val (.int d1), .val (.int d2), .val (.int v6_1), .val (.int v7_2), .val (.int v8_3), .val (.int v9_5), .val (.int v10_7), .val (.int v11_9), .val (.ref b10), .val (.ref b14), .val (.int (own_r v9_5 v10_7 v11_9)), .val (.int v6_1), .val (.int v7_2), .val (.int v8_3), .val (.int (0 : Int32))] []))
        refine Goes.via (fun _ kk_ => XS.iconst X21.here hx rfl (hb hby at_244) kk_) ?_
        show Goes p e below _ (T21.setTop (mkF m 245 #[.val (.int t0), .val (.int t1), .val (.int t2), .val (.int d0), .val (.int d1), .val (.int d2), .val (.int v6_1), .val (.int v7_2), .val (.int v8_3), .val (.int v9_5), .val (.int v10_7), .val (.int v11_9), .val (.ref b10), .val (.ref b14), .val (.int (own_r v9_5 v10_7 v11_9)), .val (.int v6_1), .val (.int v7_2), .val (.int v8_3), .val (.int (0 : Int32))] [(.int (1 : Int32))]))
        refine Goes.via (fun _ kk_ => XS.goto X21.here hx rfl (pc0 := 245) (pc' := 249) rfl (hb hby at_245) (by decide) (by decide) kk_) ?_
        show Goes p e below _ (T21.setTop (mkF m 249 #[.val (.int t0), .val (.int t1), .val (.int t2), .val (.int d0), .val (.int d1), .val (.int d2), .val (.int v6_1), .val (.int v7_2), .val (.int v8_3), .val (.int v9_5), .val (.int v10_7), .val (.int v11_9), .val (.ref b10), .val (.ref b14), .val (.int (own_r v9_5 v10_7 v11_9)), .val (.int v6_1), .val (.int v7_2), .val (.int v8_3), .val (.int (0 : Int32))] [(.int (1 : Int32))]))
        have K58 : Keep h0 T21.heap [] := ((((((((((Keep.refl h0 []).ext E10).wr W11 (Or.inr sz_b10)).wr W12 (Or.inr sz_b10)).wr W13 (Or.inr sz_b10)).ext E14).wr W17 (Or.inr sz_b14)).wr W18 (Or.inr sz_b14)).wr W19 (Or.inr sz_b14)).trans K21 (allS (Or.inr sz_b10) all0))
        exact own_finN X21 hx hlk hret (by simp) (hb hby at_249) (by exact ⟨rfl, N21, K58⟩) (by first | decide | omega) (by first | decide | omega)
set_option maxRecDepth 65536 in
set_option maxHeartbeats 40000000 in
theorem comes_1 {Post : Tables → Env → Array Value → State → Outcome → State → Prop} (hpost : ∀ tb e args s v u, (limb_1_1.after args s (.returned v) u = true ∧ limb_1_2.after args s (.returned v) u = true ∧ True) → FrameEnd s (.returned v) u (Jvm.fieldLocs frame_1_writes args s ++ Jvm.arrayLocs frame_1_arrays args s ++ Jvm.staticLocs frame_1_statics s) 16 128 → Post tb e args s (.returned v) u) :
    ArmFor flags0 classFile x code maxLocals ret World_1 tables_1 room_1 Calls_1 rest_1 Pre_1 Post := by
  intro l hfl _ _ p e ha hc hk s m args below hf hA hF happ hP
  obtain ⟨hcalls, hrest, hpre⟩ := hP
  obtain ⟨-, -, -, hnamed, -, -, -, hat⟩ := (Spec.applies_iff hf).mp happ
  obtain ⟨hg, hn⟩ := and_e (Cond.before_iff.mp (show (Jvm.Cond.and given_1 narrow_1).before args s = true from hpre))
  obtain ⟨gg1, gg2⟩ := and_e hg
  obtain ⟨gg3, gg4⟩ := and_e gg2
  obtain ⟨gg5, gg6⟩ := and_e gg4
  obtain ⟨gg7, gg8⟩ := and_e gg6
  obtain ⟨gg9, gg10⟩ := and_e gg8
  obtain ⟨gg11, gg12⟩ := and_e gg10
  obtain ⟨w0, w1, w2, w3, w4, w5, rfl⟩ : ∃ w0 w1 w2 w3 w4 w5 : Value, args = #[w0, w1, w2, w3, w4, w5] := by
    have hs : args.size = 6 := by simpa [Cond.value, given_1] using gg1
    obtain ⟨L⟩ := args
    match L, hs with
    | [w0, w1, w2, w3, w4, w5], _ => exact ⟨w0, w1, w2, w3, w4, w5, rfl⟩
  have hw := fun d (hd : d ∈ tables_1) => atoms_spec (ws := Jvm.Cond.code x code maxLocals ret :: tables_1) hat d (List.mem_cons_of_mem _ hd)
  have hfit : Fit s := fun {y c} hc i hi => by
    obtain ⟨ha, rfl⟩ := Array.getElem?_eq_some_iff.mp hc
    have q := List.all_eq_true.mp ((Array.all_eq_true_iff_forall_mem.mp hF) _ (Array.getElem_mem ha)) i (List.mem_range.mpr hi)
    simpa [Array.getElem?_eq_getElem hi] using q
  obtain ⟨i0, ei0⟩ := is_v gg3
  obtain rfl : w0 = (.int i0) := Option.some.inj ei0
  obtain ⟨i1, ei1⟩ := is_v gg5
  obtain rfl : w1 = (.int i1) := Option.some.inj ei1
  obtain ⟨i2, ei2⟩ := is_v gg7
  obtain rfl : w2 = (.int i2) := Option.some.inj ei2
  obtain ⟨i3, ei3⟩ := is_v gg9
  obtain rfl : w3 = (.int i3) := Option.some.inj ei3
  obtain ⟨i4, ei4⟩ := is_v gg11
  obtain rfl : w4 = (.int i4) := Option.some.inj ei4
  obtain ⟨i5, ei5⟩ := is_v gg12
  obtain rfl : w5 = (.int i5) := Option.some.inj ei5
  obtain ⟨n, o, h1, h2, h3, _, L, rfl, ⟨rfl, N, -⟩, hq⟩ := rm0 l s _ hw tables_1 i0 i1 i2 i3 i4 i5 s.heap s.heap.size (Nat.le_refl _)  p e ha hc hk s m _ below hf ((Spec.applies_iff_loose hf).mp happ).1 ⟨rfl, State.Warmed39.refl s, rfl⟩ trivial
  refine ⟨n, _, h1, h2, h3, hpost _ _ _ _ _ _ ⟨Cond.after_iff.mpr rfl, Cond.after_iff.mpr (eq_i res_at (Term.int_eval (1)) rfl), trivial⟩ ⟨hq.1, hq.2.1, (hq.2.2.sift fun y hy => Or.inr (N y hy)).mono (by decide) (by decide)⟩⟩
theorem main_1_1 : Claimed_1_1 := comes_1 fun _ _ _ _ _ _ h hF => ⟨h.1, hF⟩
theorem main_1_2 : Claimed_1_2 := comes_1 fun _ _ _ _ _ _ h hF => ⟨h.2.1, hF⟩
end Jvm.Pilot.@@N@@
namespace Jvm.Pilot.@@N@@
open Jvm Jvm.ClassFile Sem Op Lib Jvm.Free Jvm.Stand Jvm.Pilot.@@N@@.Jvm.D
/-! MADE BY PROGRAM (witnessworld.py) out of the Statement's table words and the real class files: 9 classes; the members and pool entries that the words name. The judged class is class 1, her method 2. -/
namespace start1
open Jvm.ClassFile
def u (s : String) : CpInfo := .utf8 (stringToUtf16 s)
/-- a pool by its gaps: so many unusable entries, then the entry; so many at the end -/
def gap : Nat → List CpInfo → List CpInfo
  | 0, r => r
  | n + 1, r => .unusable :: gap n r
def poolList (es : List (Nat × CpInfo)) (last : Nat) : List CpInfo := es.foldr (fun e r => gap e.1 (e.2 :: r)) (gap last [])
def pool (es : List (Nat × CpInfo)) (last : Nat) : Array CpInfo := ⟨poolList es last⟩
def fileOf (pool : Array CpInfo) (this : Nat) (attrs : Array Attribute := #[]) (ms : Array MethodInfo := #[]) (fl : Nat := 33) (sup : Nat := 0) (ifs : Array Nat := #[]) (fds : Array FieldInfo := #[]) : ClassFile where
  minorVersion := 0
  majorVersion := 65
  constantPool := pool
  accessFlags := fl
  thisClass := this
  superClass := sup
  interfaces := ifs
  fields := fds
  methods := ms
  attributes := attrs
def plain (name : String) (sup : Option ClassId) : Class where
  name := name
  kind := .ordinary
  loader := none
  accessFlags := 33
  super := sup
  interfaces := #[]
  cf := none
  fields := #[]
  methods := #[]
  instanceTypes := #[]
  staticTypes := #[]
  resolved := #[]
  callSites := []
  init := .initialized
  statics := none
  mirror := none

def pool0 : Array CpInfo := pool [(5, u "<init>"), (0, u "()V"), (1, .class_ 10), (1, u "java/lang/Object")] 113

def k0m0 : Method := { name := "<init>", desc := "()V", sig := { parameters := [], returnType := none }, accessFlags := 1, code := none }
/-- java/lang/Object -/
def k0 : Class := { plain "java/lang/Object" none with
  accessFlags := 33
  interfaces := #[]
  cf := some (fileOf pool0 8 #[] #[{ accessFlags := 1, nameIndex := 5, descriptorIndex := 6, attributes := #[] }] 33 0 #[] #[])
  fields := #[]
  methods := #[k0m0]
  instanceTypes := #[]
  staticTypes := #[]
  resolved := Array.replicate 124 none
  statics := none }

def pool1 : Array CpInfo := pool [(2, .class_ 4), (1, u "java/lang/Object"), (0, u "<init>"), (0, u "()V"), (0, .integer 2147483647), (0, .methodref 9 10), (0, .class_ 11), (0, .nameAndType 12 13), (0, u "com/example/earnest_nets/earnestnets/ChoicesCountDownPinLaw"), (0, u "draw"), (0, u "(II)I"), (0, .methodref 15 16), (0, .class_ 17), (0, .nameAndType 18 19), (0, u "com/example/earnest_nets/earnestnets/Choices"), (0, u "countDown"), (0, u "([I[I)Z"), (3, u "law"), (0, u "(IIIIII)Z")] 4

def k1m0 : Method := { name := "<init>", desc := "()V", sig := { parameters := [], returnType := none }, accessFlags := 2, code := none }
def k1c1 : Code := { maxStack := 6, maxLocals := 2, code := method_2_code, exceptionTable := #[], attributes := #[] }
def k1m1 : Method := { name := "draw", desc := "(II)I", sig := { parameters := [.int, .int], returnType := some .int }, accessFlags := 10, code := some k1c1 }
def k1c2 : Code := { maxStack := 4, maxLocals := 19, code := code, exceptionTable := #[], attributes := #[] }
def k1m2 : Method := { name := "law", desc := "(IIIIII)Z", sig := { parameters := [.int, .int, .int, .int, .int, .int], returnType := some .boolean }, accessFlags := 9, code := some k1c2 }
/-- com/example/earnest_nets/earnestnets/ChoicesCountDownPinLaw -/
def k1 : Class := { plain "com/example/earnest_nets/earnestnets/ChoicesCountDownPinLaw" (some 0) with
  accessFlags := 49
  interfaces := #[]
  cf := some (fileOf pool1 9 #[] #[{ accessFlags := 2, nameIndex := 5, descriptorIndex := 6, attributes := #[] }, { accessFlags := 10, nameIndex := 12, descriptorIndex := 13, attributes := #[] }, { accessFlags := 9, nameIndex := 23, descriptorIndex := 24, attributes := #[] }] 49 2 #[] #[])
  fields := #[]
  methods := #[k1m0, k1m1, k1m2]
  instanceTypes := #[]
  staticTypes := #[]
  resolved := Array.replicate 29 none
  statics := none }

def pool2 : Array CpInfo := pool [(2, .class_ 4), (1, u "java/lang/Object"), (0, u "<init>"), (0, u "()V"), (4, .class_ 13), (1, u "com/example/earnest_nets/earnestnets/Choices"), (91, u "countDown"), (0, u "([I[I)Z")] 34

def k2m0 : Method := { name := "<init>", desc := "()V", sig := { parameters := [], returnType := none }, accessFlags := 2, code := none }
def k2c1 : Code := { maxStack := 4, maxLocals := 3, code := prog_2_method_2_code, exceptionTable := #[], attributes := #[] }
def k2m1 : Method := { name := "countDown", desc := "([I[I)Z", sig := { parameters := [(.array .int), (.array .int)], returnType := some .boolean }, accessFlags := 8, code := some k2c1 }
/-- com/example/earnest_nets/earnestnets/Choices -/
def k2 : Class := { plain "com/example/earnest_nets/earnestnets/Choices" (some 0) with
  accessFlags := 32
  interfaces := #[]
  cf := some (fileOf pool2 11 #[] #[{ accessFlags := 2, nameIndex := 5, descriptorIndex := 6, attributes := #[] }, { accessFlags := 8, nameIndex := 105, descriptorIndex := 106, attributes := #[] }] 32 2 #[] #[])
  fields := #[]
  methods := #[k2m0, k2m1]
  instanceTypes := #[]
  staticTypes := #[]
  resolved := Array.replicate 141 none
  statics := none }

def pool3 : Array CpInfo := pool [(1, u "java/lang/Cloneable"), (0, .class_ 1), (0, u "java/lang/Object"), (0, .class_ 3)] 3

/-- java/lang/Cloneable -/
def k3 : Class := { plain "java/lang/Cloneable" (some 0) with
  accessFlags := 1537
  interfaces := #[]
  cf := some (fileOf pool3 2 #[] #[] 1537 4 #[] #[])
  fields := #[]
  methods := #[]
  instanceTypes := #[]
  staticTypes := #[]
  resolved := Array.replicate 8 none
  statics := none }

def pool4 : Array CpInfo := pool [(1, u "java/io/Serializable"), (0, .class_ 1), (0, u "java/lang/Object"), (0, .class_ 3)] 3

/-- java/io/Serializable -/
def k4 : Class := { plain "java/io/Serializable" (some 0) with
  accessFlags := 1537
  interfaces := #[]
  cf := some (fileOf pool4 2 #[] #[] 1537 4 #[] #[])
  fields := #[]
  methods := #[]
  instanceTypes := #[]
  staticTypes := #[]
  resolved := Array.replicate 8 none
  statics := none }

/-- the primitive byte -/
def k5 : Class := { plain "byte" none with kind := .primitive 'B', accessFlags := 0x411 }
/-- [B -/
def k6 : Class := { plain "[B" (some 0) with kind := .array 5 .byte, interfaces := #[3, 4], accessFlags := 1041 }

/-- the primitive int -/
def k7 : Class := { plain "int" none with kind := .primitive 'I', accessFlags := 0x411 }
/-- [I -/
def k8 : Class := { plain "[I" (some 0) with kind := .array 7 .int, interfaces := #[3, 4], accessFlags := 1041 }

def heap : Heap := #[]
def classes : Array Class := #[k0, k1, k2, k3, k4, k5, k6, k7, k8]
def interned : List (Array UInt16 × Addr) := []
def slotsUsed : Nat := 0
def theMethod : MethodId := ⟨1, 2⟩
def args0 : Array Value := #[.int 5, .int 6, .int 1, .int 3, .int 4, .int 9]
def aboutOver (below : List Frame) : State where
  vm := { classes := classes, interned := interned.toArray }
  heap := heap
  slotsUsed := slotsUsed
  threads := #[{ frames := .invoking theMethod args0 :: below }]
def below0 : List Frame := [.native { method := ⟨0, 0⟩, args := #[] }]
def about1 : State := aboutOver below0
def p0 : Program := .bare "" "" ""
def e0 : Env := launch0.env 0 0 0
theorem w_frames : about1.frames = Frame.invoking theMethod args0 :: below0 := rfl
set_option maxRecDepth 65536 in
theorem w_args : argsFit about1.vm theMethod args0 = true := by decide +kernel
set_option maxRecDepth 65536 in
theorem w_heap : heapFits about1 = true := by decide +kernel
set_option maxRecDepth 65536 in
theorem w_runnable : about1.curStatus? = some .runnable := by decide +kernel
set_option maxRecDepth 65536 in
theorem w_alone : about1.alone = true := by decide +kernel
set_option maxRecDepth 65536 in
theorem w_named : about1.methodNamed? x = some theMethod := by decide +kernel
set_option maxRecDepth 65536 in
theorem w_hears : about1.hears theMethod below0 = true := by decide +kernel
set_option maxRecDepth 65536 in
theorem w_ripe : about1.ripe theMethod args0 below0 = true := by decide +kernel
theorem w_running : about1.status = .running := rfl
set_option maxRecDepth 65536 in
theorem w_room : about1.hasRoom e0.platform room_1 = true :=
  launch0.hasRoom_least _ room_1 (by decide +kernel) (by decide +kernel) (by decide +kernel) (by decide +kernel) (by decide +kernel) (by decide +kernel)
theorem allAtoms_all (ts : List Jvm.Cond) (a : Array Jvm.Value) (st : Jvm.State) : (allAtoms ts).before a st = ts.all (fun c => c.before a st) := by
  induction ts with
  | nil => rfl
  | cons c t ih =>
    show (Jvm.Cond.and c (allAtoms t)).before a st = _
    rw [Jvm.Cond.before_and, ih, List.all_cons]
def words1 : List Jvm.Cond := Jvm.Cond.code x code maxLocals ret :: tables_1
/-- a 'code' word, met by the world's own term for the bytes: nothing is compared byte by byte -/
theorem code_word {y : MethodName} {bytes : ByteArray} {mx : Nat} {rt : Option FieldType} {a : Array Value} {s : State} {m : MethodId} {meth : Method} {c : Code} (h1 : s.methodNamed? y = some m) (h2 : s.vm.method? m = some meth) (h3 : meth.code = some c) (h4 : c.code = bytes)
    (h5 : (c.maxLocals == mx && c.exceptionTable.isEmpty && decide (c.maxStack ≤ mostOperands) && decide (meth.sig.returnType = rt) && !meth.locks && decide (parseMethodDescriptor y.desc = some meth.sig)) = true) : (Jvm.Cond.code y bytes mx rt).before a s = true := by
  simp only [Bool.and_eq_true, beq_iff_eq, Bool.not_eq_true', decide_eq_true_eq] at h5
  obtain ⟨⟨⟨⟨⟨g1, g2⟩, g3⟩, g4⟩, g5⟩, g6⟩ := h5
  simp [Cond.before, Cond.holds, Cond.value, h1, h2, h3, h4, g1, g2, g3, g4, g5, g6]
def isCode : Jvm.Cond → Bool
  | .code _ _ _ _ => true
  | _ => false
theorem all_split {L : List Jvm.Cond} {P : Jvm.Cond → Bool} (h1 : L.all (fun c => isCode c || P c) = true) (h2 : ∀ c ∈ L.filter isCode, P c = true) : L.all P = true := by
  refine List.all_eq_true.mpr fun c hc => ?_
  have h := List.all_eq_true.mp h1 c hc
  rcases Bool.eq_false_or_eq_true (isCode c) with hi | hi
  · exact h2 c (List.mem_filter.mpr ⟨hc, hi⟩)
  · simpa [hi] using h
set_option maxRecDepth 65536 in
theorem w_c0 : (Jvm.Cond.code x code maxLocals ret).before args0 about1 = true := code_word (m := ⟨1, 2⟩) (meth := k1m2) (c := k1c2) (by decide +kernel) rfl rfl rfl (by decide +kernel)
set_option maxRecDepth 65536 in
theorem w_c1 : (Jvm.Cond.code ({ cls := "com/example/earnest_nets/earnestnets/ChoicesCountDownPinLaw", name := "draw", desc := "(II)I" } : Jvm.MethodName) method_2_code (2 : Nat) (Option.some Jvm.ClassFile.FieldType.int)).before args0 about1 = true := code_word (m := ⟨1, 1⟩) (meth := k1m1) (c := k1c1) (by decide +kernel) rfl rfl rfl (by decide +kernel)
set_option maxRecDepth 65536 in
theorem w_c2 : (Jvm.Cond.code ({ cls := "com/example/earnest_nets/earnestnets/Choices", name := "countDown", desc := "([I[I)Z" } : Jvm.MethodName) prog_2_method_2_code (3 : Nat) (Option.some Jvm.ClassFile.FieldType.boolean)).before args0 about1 = true := code_word (m := ⟨2, 1⟩) (meth := k2m1) (c := k2c1) (by decide +kernel) rfl rfl rfl (by decide +kernel)
def codes1 : List Jvm.Cond := [Jvm.Cond.code x code maxLocals ret, Jvm.Cond.code ({ cls := "com/example/earnest_nets/earnestnets/ChoicesCountDownPinLaw", name := "draw", desc := "(II)I" } : Jvm.MethodName) method_2_code (2 : Nat) (Option.some Jvm.ClassFile.FieldType.int), Jvm.Cond.code ({ cls := "com/example/earnest_nets/earnestnets/Choices", name := "countDown", desc := "([I[I)Z" } : Jvm.MethodName) prog_2_method_2_code (3 : Nat) (Option.some Jvm.ClassFile.FieldType.boolean)]
set_option maxRecDepth 65536 in
theorem codes_eq : words1.filter isCode = codes1 := rfl
theorem w_codes : ∀ c ∈ words1.filter isCode, c.before args0 about1 = true := by
  rw [codes_eq]
  intro c hc
  simp only [codes1, List.mem_cons, List.not_mem_nil, or_false] at hc
  rcases hc with rfl | rfl | rfl
  · exact w_c0
  · exact w_c1
  · exact w_c2
set_option maxRecDepth 65536 in
theorem w_t1 : words1.all (fun c => isCode c || c.before args0 about1) = true := by decide +kernel
theorem w_tables : (allAtoms (Jvm.Cond.code x code maxLocals ret :: tables_1)).before args0 about1 = true := by
  rw [allAtoms_all]
  show words1.all (fun c => c.before args0 about1) = true
  refine all_split ?_ w_codes
  rw [w_t1]
set_option maxRecDepth 65536 in
theorem w_case : (Jvm.Cond.and given_1 narrow_1).before args0 about1 = true := by decide +kernel
theorem w_applies : (headSpec (Jvm.Cond.code x code maxLocals ret :: tables_1) room_1).applies x e0.platform about1 = true :=
  (Spec.applies_iff w_frames).mpr ⟨w_running, w_runnable, w_alone, w_named, w_hears, w_ripe, w_room, w_tables⟩
theorem atStart : AtStart classFile x code maxLocals ret World_1 tables_1 room_1 Calls_1 rest_1 Pre_1 launch0 p0 e0 about1 theMethod args0 below0 :=
  ⟨lists_1, trivial, launch0.admits_env _ _ _, launch0.least_env, fairChoices_fair.cas, fairChoices_fair.clock, w_frames, w_args, w_heap, w_applies, trivial, trivial, w_case⟩
end start1
theorem witness_1 : WitnessClaimed_1 := ⟨start1.p0, start1.e0, start1.about1, start1.theMethod, start1.args0, start1.below0, start1.atStart⟩
end Jvm.Pilot.@@N@@
