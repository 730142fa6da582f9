import JvmDerived
import JvmDerived.Pilot.@@N@@Statement
import JvmDerived.Pilot.@@N@@Code
set_option linter.unusedVariables false
set_option linter.unusedSimpArgs false
namespace Jvm.Pilot.@@N@@
open Jvm Jvm.ClassFile Sem Op Lib Jvm.Free Jvm.Stand Jvm.LawKit Jvm.RoadKit Bundle Jvm.Pilot.@@N@@.Jvm.D
section Own
variable {p : Program} {l : Launch} {e : Env} {R : Room} {s : State} {m : MethodId} {args : Array Value} {below : List Frame} {meth : Method} {c : Code} {T : State} {locs : List Loc} {cells slots : Nat} {Q : Option Value → Heap → List Loc → Prop} {C S : Nat}
def Goes (p : Program) (e : Env) (below : List Frame) (P : Outcome → State → Prop) (A : State) : Prop :=
  ∃ s₂ o, Steps p.tables e below A s₂ ∧ s₂.status = .running ∧ Ended s₂ below o ∧ P o s₂
def Fin_ (s : State) (Q : Option Value → Heap → List Loc → Prop) (C S : Nat) (o : Outcome) (U' : State) : Prop :=
  ∃ v L, o = .returned v ∧ Q v U'.heap L ∧ FrameEnd s o U' L C S
theorem Goes.via {P : Outcome → State → Prop} {A B : State} (st : ∀ t, Steps p.tables e below B t → Steps p.tables e below A t) (k : Goes p e below P B) : Goes p e below P A := by
  obtain ⟨s₂, o, h1, h2⟩ := k
  exact ⟨s₂, o, st _ h1, h2⟩
theorem Goes.tr {P : Outcome → State → Prop} {A B : State} (st : Steps p.tables e below A B) (k : Goes p e below P B) : Goes p e below P A := by
  obtain ⟨s₂, o, h1, h2⟩ := k
  exact ⟨s₂, o, st.trans h1, h2⟩
theorem own_fin {pc : Nat} {Ls : Array Slot} {st : List Value} (X : Stand p l e R s m args below meth c T locs cells slots) (hlk : meth.locks = false) {v : Option Value} (hv : meth.sig.returnType = none → v = none)
    (hstep : ∀ fs, (∀ (f : JFrame) (acts : List Action), f.method = m → f.locked = none → f.entered = [] → (doReturn e (T.setTop f) acts v).1 = T.setFrames fs) → Steps p.tables e below (T.setTop (mkF m pc Ls st)) (T.setFrames fs))
    (hQ : Q v T.heap locs) (hC : cells ≤ C) (hS : slots ≤ S) : Goes p e below (Fin_ s Q C S) (T.setTop (mkF m pc Ls st)) := by
  obtain ⟨fs, hr, hrun, hended, hW, hsame⟩ := X.leave (v := v) hv hlk
  exact ⟨_, _, hstep fs hr, hrun, hended, _, _, rfl, hQ, ⟨_, rfl⟩, hW, hsame.mono hC hS⟩
theorem own_finV {pc : Nat} {Ls : Array Slot} (X : Stand p l e R s m args below meth c T locs cells slots) (hx : p.tables.exec = Jvm.exec) (hlk : meth.locks = false) (hret : meth.sig.returnType = none)
    (hd : decode c.code pc = .ok (.return_, 1)) (hQ : Q none T.heap locs) (hC : cells ≤ C) (hS : slots ≤ S) : Goes p e below (Fin_ s Q C S) (T.setTop (mkF m pc Ls [])) :=
  own_fin X hlk (fun _ => rfl) (fun _ hr => X.returnOut hx hret hd hr) hQ hC hS
theorem own_finI {pc : Nat} {Ls : Array Slot} {z : Int32} {rest : List Value} (X : Stand p l e R s m args below meth c T locs cells slots) (hx : p.tables.exec = Jvm.exec) (hlk : meth.locks = false) (hret : meth.sig.returnType = some .int)
    (hd : decode c.code pc = .ok (.ireturn, 1)) (hQ : Q (some (.int z)) T.heap locs) (hC : cells ≤ C) (hS : slots ≤ S) : Goes p e below (Fin_ s Q C S) (T.setTop (mkF m pc Ls (.int z :: rest))) :=
  own_fin X hlk (fun h => by rw [hret] at h; cases h) (fun _ hr => retOut X hx hret rfl (Or.inl ⟨rfl, Or.inl rfl, _, rfl⟩) hd hr) hQ hC hS
theorem own_finN {pc : Nat} {Ls : Array Slot} {z : Int32} {rest : List Value} (X : Stand p l e R s m args below meth c T locs cells slots) (hx : p.tables.exec = Jvm.exec) (hlk : meth.locks = false) {t : FieldType} (hret : meth.sig.returnType = some t)
    (ht : t = .boolean ∨ t = .byte ∨ t = .char ∨ t = .short) (hd : decode c.code pc = .ok (.ireturn, 1)) (hQ : Q (some (.int (nar t z))) T.heap locs) (hC : cells ≤ C) (hS : slots ≤ S) : Goes p e below (Fin_ s Q C S) (T.setTop (mkF m pc Ls (.int z :: rest))) :=
  own_fin X hlk (fun h => by rw [hret] at h; cases h) (fun _ hr => retN X hx hret ht hd hr) hQ hC hS
theorem own_finJ {pc : Nat} {Ls : Array Slot} {z : Int64} {rest : List Value} (X : Stand p l e R s m args below meth c T locs cells slots) (hx : p.tables.exec = Jvm.exec) (hlk : meth.locks = false) (hret : meth.sig.returnType = some .long)
    (hd : decode c.code pc = .ok (.lreturn, 1)) (hQ : Q (some (.long z)) T.heap locs) (hC : cells ≤ C) (hS : slots ≤ S) : Goes p e below (Fin_ s Q C S) (T.setTop (mkF m pc Ls (.long z :: rest))) :=
  own_fin X hlk (fun h => by rw [hret] at h; cases h) (fun _ hr => retOut X hx hret rfl (Or.inr (Or.inl ⟨rfl, rfl, _, rfl⟩)) hd hr) hQ hC hS
theorem own_finR {pc : Nat} {Ls : Array Slot} {w : Value} {rest : List Value} (X : Stand p l e R s m args below meth c T locs cells slots) (hx : p.tables.exec = Jvm.exec) (hlk : meth.locks = false) {t : FieldType} (hret : meth.sig.returnType = some t) (ht : t.isReference = true) (hw : w.isRef = true) (hn : narrow t w = w)
    (hd : decode c.code pc = .ok (.areturn, 1)) (hQ : Q (some w) T.heap locs) (hC : cells ≤ C) (hS : slots ≤ S) : Goes p e below (Fin_ s Q C S) (T.setTop (mkF m pc Ls (w :: rest))) :=
  own_fin X hlk (fun h => by rw [hret] at h; cases h) (fun _ hr => retOut X hx hret hn (Or.inr (Or.inr (Or.inr (Or.inr ⟨rfl, ht, hw⟩)))) hd hr) hQ hC hS
theorem own_sta_keep {Z : State} {h h' : Heap} {C n d : String} {v : Value} (F : Sta Z h C n d v) (K : Keep h h' []) : Sta Z h' C n d v := by
  obtain ⟨cf, i, k, f, st, cell, h1, h2, h3, h4, h5, h6⟩ := F
  exact ⟨cf, i, k, f, st, cell, h1, h2, h3, h4, K.2.1 _ _ h5 nin0, h6⟩
theorem own_mask (x : Int32) : ¬ (x &&& (2147483647 : Int32)) < (0 : Int32) := by
  intro q
  have q1 := (c_and x 2147483647 (by decide)).1
  have q2 := Int32.lt_iff_toInt_lt.mp q
  have q3 : (0 : Int32).toInt = 0 := by decide
  omega
theorem own_and255 (x : Int32) : ¬ (x &&& (255 : Int32)) < 0 ∧ ¬ (255 : Int32) < (x &&& (255 : Int32)) := by
  have q1 := c_and x 255 (by decide)
  have q3 : (0 : Int32).toInt = 0 := by decide
  have q4 : (255 : Int32).toInt = 255 := by decide
  constructor
  · intro q
    have q2 := Int32.lt_iff_toInt_lt.mp q
    omega
  · intro q
    have q2 := Int32.lt_iff_toInt_lt.mp q
    omega
end Own
section Arrays
variable {p : Program} {l : Launch} {e : Env} {R : Room} {s : State} {m : MethodId} {args : Array Value} {below : List Frame} {meth : Method} {c : Code} {T : State} {locs : List Loc} {cells slots : Nat} {Z : State} {a0 : Array Value} {h h' : Heap} {a b : Addr} {k : ClassId} {ty : FieldType} {n : Nat} {f : Nat → Value} {ws : List Addr}
def Arw (Z : State) (h : Heap) (a : Addr) (k : ClassId) (ty : FieldType) (n : Nat) (f : Nat → Value) : Prop :=
  ∃ c : Cell, Arr Z h a c ty ∧ c.cls = k ∧ c.slots.size = n ∧ n < 2147483648 ∧ (∀ i, i < n → c.slots[i]? = some (f i)) ∧ ∀ i, i < n → fits ty (f i) = true
def own_upd (f : Nat → Value) (i : Nat) (v : Value) : Nat → Value := fun q => if q = i then v else f q
theorem own_upd_same (f : Nat → Value) (i : Nat) (v : Value) : own_upd f i v i = v := if_pos rfl
theorem own_upd_ne (f : Nat → Value) {i j : Nat} (v : Value) (q : j ≠ i) : own_upd f i v j = f j := if_neg q
theorem Arw.lt (F : Arw Z h a k ty n f) : a < h.size := by
  obtain ⟨c, A, -⟩ := F
  exact A.lt
theorem Arw.ext (F : Arw Z h a k ty n f) (E : Ext h h') : Arw Z h' a k ty n f := by
  obtain ⟨c, A, r⟩ := F
  exact ⟨c, A.ext E, r⟩
theorem Arw.other {sl : Nat} {v : Value} (F : Arw Z h b k ty n f) (W : Wr h h' a sl v) (q : b ≠ a) : Arw Z h' b k ty n f := by
  obtain ⟨c, A, r⟩ := F
  exact ⟨c, A.other W q, r⟩
theorem Arw.keep (F : Arw Z h a k ty n f) (K : Keep h h' ws) (q : a ∉ ws) : Arw Z h' a k ty n f := by
  obtain ⟨c, A, r⟩ := F
  exact ⟨c, ⟨K.2.1 _ _ A.1 q, A.2⟩, r⟩
theorem Arw.to {f' : Nat → Value} (F : Arw Z h a k ty n f) (q : ∀ i, i < n → f' i = f i) : Arw Z h a k ty n f' := by
  obtain ⟨c, A, h1, h2, h3, h4, h5⟩ := F
  exact ⟨c, A, h1, h2, h3, fun i hi => by rw [q i hi]; exact h4 i hi, fun i hi => by rw [q i hi]; exact h5 i hi⟩
theorem own_ne_arr {C : String} {kk : Nat} (F : Exa Z h a C) (wi : (Cond.instantiable C kk).before a0 Z = true) (G : Arw Z h b k ty n f) : a ≠ b := by
  obtain ⟨c, A, -⟩ := G
  exact ne_arr F wi A
theorem own_newP (X : Stand p l e R s m args below meth c T locs cells slots) (hx : p.tables.exec = Jvm.exec) (hZ : Z.Warmed39 s.vm) {aty : ArrayType} (w : (Cond.arrayClass (newarray.typeOf aty)).before a0 Z = true) (eT : T.heap = h) {g : JFrame} (hg : g.method = m)
    (hd : decode c.code g.pc = .ok (.newarray aty, 2)) {n : Int32} {rest : List Value} (hs : g.stack = .int n :: rest) {N : Nat} (hn : ¬ n < 0) (hN : n.toNatClampNeg = N) {cap : Nat} (hcap : N ≤ cap) (hb : cap * 8 ≤ 536870912) (hc : cells + 1 ≤ R.cells) (hl : slots + cap ≤ R.slots) :
    ∃ T' h' cA, Stand p l e R s m args below meth c T' locs (cells + 1) (slots + cap) ∧ T'.heap = h' ∧ Ext h h' ∧ Arw Z h' h.size cA (newarray.typeOf aty) N (fun _ => defaultValue (newarray.typeOf aty)) ∧
      ∀ target, Steps p.tables e below (T'.setTop { g with pc := g.pc + 2, stack := .ref h.size :: rest }) target → Steps p.tables e below (T.setTop g) target := by
  obtain ⟨T', h', cA, X', e', E', A', st⟩ := newP X hx hZ w eT hg hd hs hn (cap := cap) (by omega) hb hc hl
  refine ⟨T', h', cA, X', e', E', ⟨_, A', rfl, (sz_new _ _ _).trans hN, by omega, fun i hi => ?_, fun i hi => ?_⟩, st⟩
  · subst hN
    simp [newA, hi]
  · cases aty <;> rfl
theorem own_alen (X : Stand p l e R s m args below meth c T locs cells slots) (hx : p.tables.exec = Jvm.exec) (hZ : Z.Warmed39 s.vm) (eT : T.heap = h) (A : Arw Z h a k ty n f) {g : JFrame} (hg : g.method = m) {rest : List Value} (hs : g.stack = .ref a :: rest) (hd : decode c.code g.pc = .ok (.arraylength, 1)) :
    ∀ target, Steps p.tables e below (T.setTop { g with pc := g.pc + 1, stack := .int n.toInt32 :: rest }) target → Steps p.tables e below (T.setTop g) target := by
  obtain ⟨c, A, h1, h2, h3, h4, h5⟩ := A
  intro target kk
  refine X.arraylength hx (by rw [eT]; exact A.1) (State.isArrayOf_alike hZ.alike A.2.1) hg hs hd target ?_
  rw [h2]
  exact kk
theorem own_in {cl : Cell} {j : Int32} {i : Nat} (h2 : cl.slots.size = n) (hj : ¬ j < 0) (hji : j.toNatClampNeg = i) (hi : i < n) : ¬ (j < 0 ∨ cl.slots.size ≤ j.toNatClampNeg) := by
  rintro (q | q)
  · exact hj q
  · omega
theorem own_iaload (X : Stand p l e R s m args below meth c T locs cells slots) (hx : p.tables.exec = Jvm.exec) (hZ : Z.Warmed39 s.vm) (eT : T.heap = h) (A : Arw Z h a k .int n f) {j : Int32} {i : Nat} (hj : ¬ j < 0) (hji : j.toNatClampNeg = i) (hi : i < n) {v : Int32} (hv : f i = .int v)
    {g : JFrame} (hg : g.method = m) {rest : List Value} (hs : g.stack = .int j :: .ref a :: rest) (hd : decode c.code g.pc = .ok (.iaload, 1)) :
    ∀ target, Steps p.tables e below (T.setTop { g with pc := g.pc + 1, stack := .int v :: rest }) target → Steps p.tables e below (T.setTop g) target := by
  obtain ⟨cl, A, h1, h2, h3, h4, h5⟩ := A
  intro target kk
  exact X.iaload hx (by rw [eT]; exact A.1) (State.isArrayOf_alike hZ.alike A.2.1) A.2.2 (own_in h2 hj hji hi) (by rw [hji, h4 i hi, hv]) hg hs hd target kk
theorem own_laload (X : Stand p l e R s m args below meth c T locs cells slots) (hx : p.tables.exec = Jvm.exec) (hZ : Z.Warmed39 s.vm) (eT : T.heap = h) (A : Arw Z h a k .long n f) {j : Int32} {i : Nat} (hj : ¬ j < 0) (hji : j.toNatClampNeg = i) (hi : i < n) {v : Int64} (hv : f i = .long v)
    {g : JFrame} (hg : g.method = m) {rest : List Value} (hs : g.stack = .int j :: .ref a :: rest) (hd : decode c.code g.pc = .ok (.laload, 1)) :
    ∀ target, Steps p.tables e below (T.setTop { g with pc := g.pc + 1, stack := .long v :: rest }) target → Steps p.tables e below (T.setTop g) target := by
  obtain ⟨cl, A, h1, h2, h3, h4, h5⟩ := A
  intro target kk
  exact X.laload hx (by rw [eT]; exact A.1) (State.isArrayOf_alike hZ.alike A.2.1) A.2.2 (own_in h2 hj hji hi) (by rw [hji, h4 i hi, hv]) hg hs hd target kk
theorem own_aaload (X : Stand p l e R s m args below meth c T locs cells slots) (hx : p.tables.exec = Jvm.exec) (hZ : Z.Warmed39 s.vm) (eT : T.heap = h) (A : Arw Z h a k ty n f) (hty : ty.isReference = true) {j : Int32} {i : Nat} (hj : ¬ j < 0) (hji : j.toNatClampNeg = i) (hi : i < n) {v : Value} (hv : f i = v)
    {g : JFrame} (hg : g.method = m) {rest : List Value} (hs : g.stack = .int j :: .ref a :: rest) (hd : decode c.code g.pc = .ok (.aaload, 1)) :
    ∀ target, Steps p.tables e below (T.setTop { g with pc := g.pc + 1, stack := v :: rest }) target → Steps p.tables e below (T.setTop g) target := by
  obtain ⟨cl, A, h1, h2, h3, h4, h5⟩ := A
  intro target kk
  exact X.aaload hx (by rw [eT]; exact A.1) (State.isArrayOf_alike hZ.alike A.2.1) hty A.2.2 (own_in h2 hj hji hi) (by rw [hji, h4 i hi, hv]) hg hs hd target kk
theorem own_ix {j : Int32} {i : Nat} (h : j.toInt = i) : ¬ j < 0 ∧ j.toNatClampNeg = i := by
  constructor
  · intro q
    have q1 := Int32.lt_iff_toInt_lt.mp q
    have q3 : (0 : Int32).toInt = 0 := by decide
    omega
  · show j.toInt.toNat = i
    omega
theorem own_lti {x y : Int32} : x < y ↔ x.toInt < y.toInt := Int32.lt_iff_toInt_lt
theorem Arw.ofArv {z : Int32} {vs : List Value} {dv : Value} (F : Arv Z h a k ty z vs dv) (hn : z.toNatClampNeg = n) (q : ∀ i, i < n → vs.getD i dv = f i) : Arw Z h a k ty n f := by
  obtain ⟨c, A, h1, h2, h3, h4, h5⟩ := F
  have hb := (back32 h3).2
  refine ⟨c, A, h1, h2.trans hn, by omega, fun i hi => ?_, fun i hi => ?_⟩
  · rw [h4 i (by omega), q i hi]
  · rw [← q i hi]
    exact h5 i (by omega)
theorem own_set {cl : Cell} {j : Int32} {i : Nat} {v : Value} (A : Arr Z h a cl ty) (h1 : cl.cls = k) (h2 : cl.slots.size = n) (h3 : n < 2147483648) (h4 : ∀ i, i < n → cl.slots[i]? = some (f i)) (h5 : ∀ i, i < n → fits ty (f i) = true) (hv : fits ty v = true) (W : Wr h h' a j.toNatClampNeg v) (hji : j.toNatClampNeg = i) (hi : i < n) :
    Arw Z h' a k ty n (own_upd f i v) := by
  subst hji
  refine ⟨_, A.same W, h1, by rw [sz_set]; exact h2, h3, fun q hq => ?_, fun q hq => ?_⟩
  · by_cases e : q = j.toNatClampNeg
    · subst e
      rw [own_upd_same]
      simp [Cell.setSlot, h2, hq]
    · rw [own_upd_ne _ _ e, ← h4 q hq]
      simp [Cell.setSlot, Array.getElem?_setIfInBounds, Ne.symm e]
  · by_cases e : q = j.toNatClampNeg
    · subst e
      rw [own_upd_same]
      exact hv
    · rw [own_upd_ne _ _ e]
      exact h5 q hq
theorem own_iastore (X : Stand p l e R s m args below meth c T locs cells slots) (hx : p.tables.exec = Jvm.exec) (hZ : Z.Warmed39 s.vm) (eT : T.heap = h) (A : Arw Z h a k .int n f) {j : Int32} {i : Nat} (hj : ¬ j < 0) (hji : j.toNatClampNeg = i) (hi : i < n)
    {g : JFrame} (hg : g.method = m) {x : Int32} {rest : List Value} (hs : g.stack = .int x :: .int j :: .ref a :: rest) (hd : decode c.code g.pc = .ok (.iastore, 1)) :
    ∃ T' h', Stand p l e R s m args below meth c T' (locs ++ [⟨a, j.toNatClampNeg⟩]) cells slots ∧ T'.heap = h' ∧ Wr h h' a j.toNatClampNeg (.int x) ∧ Arw Z h' a k .int n (own_upd f i (.int x)) ∧
      ∀ target, Steps p.tables e below (T'.setTop { g with pc := g.pc + 1, stack := rest }) target → Steps p.tables e below (T.setTop g) target := by
  obtain ⟨cl, A, h1, h2, h3, h4, h5⟩ := A
  obtain ⟨T', h', X', e', W, st⟩ := stI X hx hZ eT A (j := j) (own_in h2 hj hji hi) hg hs hd
  exact ⟨T', h', X', e', W, own_set A h1 h2 h3 h4 h5 rfl W hji hi, st⟩
theorem own_lastore (X : Stand p l e R s m args below meth c T locs cells slots) (hx : p.tables.exec = Jvm.exec) (hZ : Z.Warmed39 s.vm) (eT : T.heap = h) (A : Arw Z h a k .long n f) {j : Int32} {i : Nat} (hj : ¬ j < 0) (hji : j.toNatClampNeg = i) (hi : i < n)
    {g : JFrame} (hg : g.method = m) {x : Int64} {rest : List Value} (hs : g.stack = .long x :: .int j :: .ref a :: rest) (hd : decode c.code g.pc = .ok (.lastore, 1)) :
    ∃ T' h', Stand p l e R s m args below meth c T' (locs ++ [⟨a, j.toNatClampNeg⟩]) cells slots ∧ T'.heap = h' ∧ Wr h h' a j.toNatClampNeg (.long x) ∧ Arw Z h' a k .long n (own_upd f i (.long x)) ∧
      ∀ target, Steps p.tables e below (T'.setTop { g with pc := g.pc + 1, stack := rest }) target → Steps p.tables e below (T.setTop g) target := by
  obtain ⟨cl, A, h1, h2, h3, h4, h5⟩ := A
  obtain ⟨T', h', X', e', W, st⟩ := stJ X hx hZ eT A (j := j) (own_in h2 hj hji hi) hg hs hd
  exact ⟨T', h', X', e', W, own_set A h1 h2 h3 h4 h5 rfl W hji hi, st⟩
theorem own_castore (X : Stand p l e R s m args below meth c T locs cells slots) (hx : p.tables.exec = Jvm.exec) (hZ : Z.Warmed39 s.vm) (eT : T.heap = h) (A : Arw Z h a k .char n f) {j : Int32} {i : Nat} (hj : ¬ j < 0) (hji : j.toNatClampNeg = i) (hi : i < n)
    {g : JFrame} (hg : g.method = m) {x : Int32} {rest : List Value} (hs : g.stack = .int x :: .int j :: .ref a :: rest) (hd : decode c.code g.pc = .ok (.castore, 1)) :
    ∃ T' h', Stand p l e R s m args below meth c T' (locs ++ [⟨a, j.toNatClampNeg⟩]) cells slots ∧ T'.heap = h' ∧ Wr h h' a j.toNatClampNeg (.int (nar .char x)) ∧ Arw Z h' a k .char n (own_upd f i (.int (nar .char x))) ∧
      ∀ target, Steps p.tables e below (T'.setTop { g with pc := g.pc + 1, stack := rest }) target → Steps p.tables e below (T.setTop g) target := by
  obtain ⟨cl, A, h1, h2, h3, h4, h5⟩ := A
  obtain ⟨T', h', X', e', W, st⟩ := stC X hx hZ eT A (j := j) (own_in h2 hj hji hi) hg hs hd
  exact ⟨T', h', X', e', W, own_set A h1 h2 h3 h4 h5 (fits_nar_char _) W hji hi, st⟩
theorem own_caload (X : Stand p l e R s m args below meth c T locs cells slots) (hx : p.tables.exec = Jvm.exec) (hZ : Z.Warmed39 s.vm) (eT : T.heap = h) (A : Arw Z h a k .char n f) {j : Int32} {i : Nat} (hj : ¬ j < 0) (hji : j.toNatClampNeg = i) (hi : i < n) {v : Int32} (hv : f i = .int v)
    {g : JFrame} (hg : g.method = m) {rest : List Value} (hs : g.stack = .int j :: .ref a :: rest) (hd : decode c.code g.pc = .ok (.caload, 1)) :
    ∀ target, Steps p.tables e below (T.setTop { g with pc := g.pc + 1, stack := .int v :: rest }) target → Steps p.tables e below (T.setTop g) target := by
  obtain ⟨cl, A, h1, h2, h3, h4, h5⟩ := A
  intro target kk
  exact X.caload hx (by rw [eT]; exact A.1) (State.isArrayOf_alike hZ.alike A.2.1) A.2.2 (own_in h2 hj hji hi) (by rw [hji, h4 i hi, hv]) hg hs hd target kk
theorem Arw.toArv {vs : List Value} {dv : Value} {z : Int32} (F : Arw Z h a k ty n f) (hz : z.toInt = (n : Int)) (q : ∀ i, i < n → vs.getD i dv = f i) : Arv Z h a k ty z vs dv := by
  obtain ⟨c, A, h1, h2, h3, h4, h5⟩ := F
  obtain ⟨z0, zn⟩ := own_ix hz
  exact ⟨c, A, h1, h2.trans zn.symm, z0, fun i hi => by rw [h4 i (by omega), q i (by omega)], fun i hi => by rw [q i (by omega)]; exact h5 i (by omega)⟩
end Arrays
theorem own_p0 {x : Int32} (h : (0 : Int32) < x) : (x - (1 : Int32)).toInt = x.toInt - 1 := by
  have q1 := c_isub x 1
  have q2 := Int32.lt_iff_toInt_lt.mp h
  have q3 : (0 : Int32).toInt = 0 := by decide
  have q4 : (1 : Int32).toInt = 1 := by decide
  have q5 := rng32 x
  have q6 := rng32 (x - 1)
  omega
theorem own_p2 {x : Int32} (h : (0 : Int32) < x) : ¬ (if x - (1 : Int32) < x then (1 : Int32) else (0 : Int32)) = (0 : Int32) := by
  rw [if_pos (Int32.lt_iff_toInt_lt.mpr (by rw [own_p0 h]; omega))]
  decide
theorem own_p3 {x : Int32} (h : (0 : Int32) < x) : ¬ (x - (1 : Int32)) < (0 : Int32) := by
  intro q
  have q1 := Int32.lt_iff_toInt_lt.mp q
  have q2 := Int32.lt_iff_toInt_lt.mp h
  have q3 : (0 : Int32).toInt = 0 := by decide
  rw [own_p0 h] at q1
  omega
theorem own_fld {s : State} {args : Array Value} {t : Term} {x : Addr} {C n d : String} {z : Int32} (ht : t.eval args s none [] s = some (.ref x)) (h : (Cond.eq (Term.field t C n d) (Term.int z)).value args s none s [] = some true) : Fld s s.heap x C n d (.int z) := by
  obtain ⟨u, v, h1, h2, h3, h4⟩ := cmp_v (Or.inl h)
  rw [Term.int_eval] at h2
  cases h2
  obtain ⟨w, rfl⟩ := h4
  have q := gotT (Cond.eq_ints h1 (Term.int_eval z)) h
  subst q
  exact Fld.start ((fld_at ht).symm.trans h1)
theorem ef_rm2 (m : MethodId) (a : Addr) (u : Int32) (lm : Int32) : entryFrame m #[(.ref a), (.int u), (.int lm)] 3 = mkF m 0 #[.val (.ref a), .val (.int u), .val (.int lm)] [] := by first | (simp [entryFrame, mkF, argsToLocals, Value.category]; done) | rfl
def Qrm2 (Z : State) (a : Addr) (u : Int32) (lm : Int32) (h0 : Heap) (n0 : Nat) (v_ : Option Value) (h_ : Heap) (L_ : List Loc) : Prop := v_ = none ∧ Fr n0 L_ ∧ Keep h0 h_ [a] ∧ Exa Z h_ a "com/example/earnest_nets/earnestnets/LossBudget" ∧ Fld Z h_ a "com/example/earnest_nets/earnestnets/LossBudget" "unlimited" "Z" (.int (0 : Int32)) ∧ Fld Z h_ a "com/example/earnest_nets/earnestnets/LossBudget" "limit" "I" (.int lm)
theorem pn_com_example_earnest_nets_earnestnets_LossBudget : plainName "com/example/earnest_nets/earnestnets/LossBudget" = true := by first | (simp [plainName, overriddenIn]; done) | decide +kernel
theorem d2_0 : decode prog_7_method_1_code 0 = .ok (.aload_n 0, 1) := by decide +kernel
theorem d2_1 : decode prog_7_method_1_code 1 = .ok (.invokespecial 1, 3) := by decide +kernel
theorem d2_4 : decode prog_7_method_1_code 4 = .ok (.aload_n 0, 1) := by decide +kernel
theorem d2_5 : decode prog_7_method_1_code 5 = .ok (.iload_n 1, 1) := by decide +kernel
theorem d2_6 : decode prog_7_method_1_code 6 = .ok (.putfield 7, 3) := by decide +kernel
theorem d2_9 : decode prog_7_method_1_code 9 = .ok (.aload_n 0, 1) := by decide +kernel
theorem d2_10 : decode prog_7_method_1_code 10 = .ok (.iload_n 2, 1) := by decide +kernel
theorem d2_11 : decode prog_7_method_1_code 11 = .ok (.putfield 13, 3) := by decide +kernel
theorem d2_14 : decode prog_7_method_1_code 14 = .ok (.return_, 1) := by decide +kernel
set_option maxRecDepth 65536 in
set_option maxHeartbeats 40000000 in
theorem rm2 (l : Launch) (Z : State) (a0 : Array Value) (hw : ∀ d ∈ tables_1, d.before a0 Z = true) (ws : List Jvm.Cond) (a : Addr) (u : Int32) (lm : Int32) (h0 : Heap) (n0 : Nat) (Z0 : n0 ≤ h0.size) (E0_a : Exa Z h0 a "com/example/earnest_nets/earnestnets/LossBudget") (F1_a_unlimited : Fld Z h0 a "com/example/earnest_nets/earnestnets/LossBudget" "unlimited" "Z" (.int (0 : Int32))) (F2_a_limit : Fld Z h0 a "com/example/earnest_nets/earnestnets/LossBudget" "limit" "I" (.int (0 : Int32))) (H3 : n0 ≤ a) (Hu : u = (0 : Int32)) :
    MetFree l (⟨"com/example/earnest_nets/earnestnets/LossBudget", "<init>", "(ZI)V"⟩ : MethodName) (head1 (Jvm.Cond.code (⟨"com/example/earnest_nets/earnestnets/LossBudget", "<init>", "(ZI)V"⟩ : MethodName) prog_7_method_1_code 3 none :: ws) ({ frames := 1, cells := 0, slots := 0, locals := 12 } : Room)) (fun as_ U_ => as_ = #[(.ref a), (.int u), (.int lm)] ∧ Z.Warmed39 U_.vm ∧ U_.heap = h0) (fun _ _ _ _ _ => True) (fun _ U_ o_ V_ => ∃ v_ L_, o_ = .returned v_ ∧ Qrm2 Z a u lm h0 n0 v_ V_.heap L_ ∧ FrameEnd U_ o_ V_ L_ ({ frames := 1, cells := 0, slots := 0, locals := 12 } : Room).cells ({ frames := 1, cells := 0, slots := 0, locals := 12 } : Room).slots) := by
  refine MetFree.of_bodySF (plainFor_of_name pn_com_example_earnest_nets_earnestnets_LossBudget) hisR ?_
  intro p e s m args below meth c s₁ Bd hml0 hP hK
  obtain ⟨rfl, hZ, hh⟩ := hP
  have hx := Bd.exec
  have hby := Bd.bytes
  have hlk : meth.locks = false := BodyLoose.notSynchronized Bd
  have hret := Bd.returns
  have hml : c.maxLocals = 3 := hml0
  have hown : s.vm.findClass "com/example/earnest_nets/earnestnets/LossBudget" = some m.cls := findClass_of_methodNamed Bd.named
  have hnm := (name_of_methodNamed Bd.named Bd.method).1
  have X0 : Stand p l e ({ frames := 1, cells := 0, slots := 0, locals := 12 } : Room) s m #[(.ref a), (.int u), (.int lm)] below meth c s₁ [] 0 0 := Stand.of_body Bd
  have e0 : s₁.heap = h0 := by rw [← hh, Bd.state]; rfl
  have N0 := Fr.nil n0
  show Goes p e below (Fin_ s (Qrm2 Z a u lm h0 n0) ({ frames := 1, cells := 0, slots := 0, locals := 12 } : Room).cells ({ frames := 1, cells := 0, slots := 0, locals := 12 } : Room).slots) (s₁.setTop (entryFrame m #[(.ref a), (.int u), (.int lm)] 3))
  rw [ef_rm2 m a u lm]
  refine Goes.via (fun _ kk_ => XS.aloadN X0.here hx rfl (hb hby d2_0) rfl rfl  kk_) ?_
  show Goes p e below _ (s₁.setTop (mkF m 1 #[.val (.ref a), .val (.int u), .val (.int lm)] [(.ref a)]))
  obtain ⟨T1, X1, e1, st1⟩ := initO X0 hx hZ hown (hw _ (List.mem_of_getElem? (i := 10) rfl)) (hw _ (List.mem_of_getElem? (i := 11) rfl)) (hw _ (List.mem_of_getElem? (i := 12) rfl)) e0 (g := (mkF m 1 #[.val (.ref a), .val (.int u), .val (.int lm)] [(.ref a)])) rfl (by rw [hml]; rfl) rfl (hb hby d2_1) (by decide) (W := 0) (by show 2 * 0 + _ ≤ _; exact Nat.le_of_eq rfl) (by decide)
  refine Goes.via st1 ?_
  show Goes p e below _ (T1.setTop (mkF m 4 #[.val (.ref a), .val (.int u), .val (.int lm)] []))
  refine Goes.via (fun _ kk_ => XS.aloadN X1.here hx rfl (hb hby d2_4) rfl rfl  kk_) ?_
  show Goes p e below _ (T1.setTop (mkF m 5 #[.val (.ref a), .val (.int u), .val (.int lm)] [(.ref a)]))
  refine Goes.via (fun _ kk_ => XS.iloadN X1.here hx rfl (hb hby d2_5) rfl  kk_) ?_
  show Goes p e below _ (T1.setTop (mkF m 6 #[.val (.ref a), .val (.int u), .val (.int lm)] [(.int u), (.ref a)]))
  obtain ⟨T2, h2, X2, e2, W2, st2⟩ := putFN X1 hx hZ hown (hw _ (List.mem_of_getElem? (i := 13) rfl)) Via.refl e1 F1_a_unlimited E0_a (Or.inr ⟨(hw _ (List.mem_of_getElem? (i := 14) rfl)), rfl, hnm⟩) (hw _ (List.mem_of_getElem? (i := 6) rfl)) (ty := .boolean) (v' := (.int (0 : Int32))) (by decide) (by subst Hu; rfl) (by first | exact fits_nar_bool _ | decide) (g := (mkF m 6 #[.val (.ref a), .val (.int u), .val (.int lm)] [(.int u), (.ref a)])) rfl rfl (hb hby d2_6)
  refine Goes.via st2 ?_
  have N2 := Fr.snoc X2 N0 H3
  have Fw2 : Fld Z h2 a "com/example/earnest_nets/earnestnets/LossBudget" "unlimited" "Z" (.int (0 : Int32)) := F1_a_unlimited.same W2
  show Goes p e below _ (T2.setTop (mkF m 9 #[.val (.ref a), .val (.int u), .val (.int lm)] []))
  refine Goes.via (fun _ kk_ => XS.aloadN X2.here hx rfl (hb hby d2_9) rfl rfl  kk_) ?_
  show Goes p e below _ (T2.setTop (mkF m 10 #[.val (.ref a), .val (.int u), .val (.int lm)] [(.ref a)]))
  refine Goes.via (fun _ kk_ => XS.iloadN X2.here hx rfl (hb hby d2_10) rfl  kk_) ?_
  show Goes p e below _ (T2.setTop (mkF m 11 #[.val (.ref a), .val (.int u), .val (.int lm)] [(.int lm), (.ref a)]))
  have f3 : Fld Z h2 a "com/example/earnest_nets/earnestnets/LossBudget" "limit" "I" (.int (0 : Int32)) := (F2_a_limit.other W2 (Or.inr (slot_ne (Or.inr (hw _ (List.mem_of_getElem? (i := 16) rfl))) (Or.inr (hw _ (List.mem_of_getElem? (i := 14) rfl))) (by decide) (t := .int) (t' := .boolean) (by decide) (by decide))))
  have f4 : Exa Z h2 a "com/example/earnest_nets/earnestnets/LossBudget" := (E0_a.wr W2)
  obtain ⟨T5, h5, X5, e5, W5, st5⟩ := putF X2 hx hZ hown (host := "") (Or.inl (hw _ (List.mem_of_getElem? (i := 15) rfl))) Via.refl e2 f3 f4 (Or.inr ⟨(hw _ (List.mem_of_getElem? (i := 16) rfl)), rfl, hnm⟩) (hw _ (List.mem_of_getElem? (i := 6) rfl)) (ty := .int) (by decide) rfl rfl (g := (mkF m 11 #[.val (.ref a), .val (.int u), .val (.int lm)] [(.int lm), (.ref a)])) rfl rfl (hb hby d2_11)
  refine Goes.via st5 ?_
  have N5 := Fr.snoc X5 N2 H3
  have Fw5 : Fld Z h5 a "com/example/earnest_nets/earnestnets/LossBudget" "limit" "I" (.int lm) := f3.same W5
  show Goes p e below _ (T5.setTop (mkF m 14 #[.val (.ref a), .val (.int u), .val (.int lm)] []))
  have K6 : Keep h0 h5 [a] := (((Keep.refl h0 [a]).wr W2 (Or.inl (List.mem_of_getElem? (i := 0) rfl))).wr W5 (Or.inl (List.mem_of_getElem? (i := 0) rfl)))
  have f7 : Exa Z h5 a "com/example/earnest_nets/earnestnets/LossBudget" := (f4.wr W5)
  have f8 : Fld Z h5 a "com/example/earnest_nets/earnestnets/LossBudget" "unlimited" "Z" (.int (0 : Int32)) := (Fw2.other W5 (Or.inr (slot_ne (Or.inr (hw _ (List.mem_of_getElem? (i := 14) rfl))) (Or.inr (hw _ (List.mem_of_getElem? (i := 16) rfl))) (by decide) (t := .boolean) (t' := .int) (by decide) (by decide))))
  exact own_finV X5 hx hlk hret (hb hby d2_14) (by rw [e5]; exact ⟨rfl, N5, K6, f7, f8, Fw5⟩) (by first | decide | omega) (by first | decide | omega)
theorem ef_rm1 (m : MethodId) (lm : Int32) : entryFrame m #[(.int lm)] 1 = mkF m 0 #[.val (.int lm)] [] := by first | (simp [entryFrame, mkF, argsToLocals, Value.category]; done) | rfl
def Qrm1 (Z : State) (lm : Int32) (h0 : Heap) (n0 : Nat) (v_ : Option Value) (h_ : Heap) (L_ : List Loc) : Prop := ∃ nb : Addr, v_ = some (.ref nb) ∧ Fr n0 L_ ∧ Keep h0 h_ [] ∧ h0.size ≤ nb ∧ Exa Z h_ nb "com/example/earnest_nets/earnestnets/LossBudget" ∧ Fld Z h_ nb "com/example/earnest_nets/earnestnets/LossBudget" "unlimited" "Z" (.int (0 : Int32)) ∧ Fld Z h_ nb "com/example/earnest_nets/earnestnets/LossBudget" "limit" "I" (.int lm)
theorem d1_0 : decode prog_7_method_2_code 0 = .ok (.iload_n 0, 1) := by decide +kernel
theorem d1_1 : decode prog_7_method_2_code 1 = .ok (.ifCond .ge 17, 3) := by decide +kernel
theorem d1_18 : decode prog_7_method_2_code 18 = .ok (.new 8, 3) := by decide +kernel
theorem d1_21 : decode prog_7_method_2_code 21 = .ok (.dup, 1) := by decide +kernel
theorem d1_22 : decode prog_7_method_2_code 22 = .ok (.iconst 0, 1) := by decide +kernel
theorem d1_23 : decode prog_7_method_2_code 23 = .ok (.iload_n 0, 1) := by decide +kernel
theorem pd_0 : parseMethodDescriptor "(ZI)V" = some ⟨[.boolean, .int], none⟩ := by decide +kernel
theorem d1_24 : decode prog_7_method_2_code 24 = .ok (.invokespecial 26, 3) := by decide +kernel
theorem d1_27 : decode prog_7_method_2_code 27 = .ok (.areturn, 1) := by decide +kernel
set_option maxRecDepth 65536 in
set_option maxHeartbeats 40000000 in
theorem rm1 (l : Launch) (Z : State) (a0 : Array Value) (hw : ∀ d ∈ tables_1, d.before a0 Z = true) (ws : List Jvm.Cond) (lm : Int32) (h0 : Heap) (n0 : Nat) (Z0 : n0 ≤ h0.size) (Hl : ¬ lm < (0 : Int32)) :
    MetFree l (⟨"com/example/earnest_nets/earnestnets/LossBudget", "atMost", "(I)Lcom/example/earnest_nets/earnestnets/LossBudget;"⟩ : MethodName) (head1 (Jvm.Cond.code (⟨"com/example/earnest_nets/earnestnets/LossBudget", "atMost", "(I)Lcom/example/earnest_nets/earnestnets/LossBudget;"⟩ : MethodName) prog_7_method_2_code 1 (some (.object "com/example/earnest_nets/earnestnets/LossBudget")) :: ws) ({ frames := 2, cells := 1, slots := 2, locals := 27 } : Room)) (fun as_ U_ => as_ = #[(.int lm)] ∧ Z.Warmed39 U_.vm ∧ U_.heap = h0) (fun _ _ _ _ _ => True) (fun _ U_ o_ V_ => ∃ v_ L_, o_ = .returned v_ ∧ Qrm1 Z lm h0 n0 v_ V_.heap L_ ∧ FrameEnd U_ o_ V_ L_ ({ frames := 2, cells := 1, slots := 2, locals := 27 } : Room).cells ({ frames := 2, cells := 1, slots := 2, locals := 27 } : Room).slots) := by
  refine MetFree.of_bodySF (plainFor_of_name pn_com_example_earnest_nets_earnestnets_LossBudget) hisR ?_
  intro p e s m args below meth c s₁ Bd hml0 hP hK
  obtain ⟨rfl, hZ, hh⟩ := hP
  have hx := Bd.exec
  have hby := Bd.bytes
  have hlk : meth.locks = false := BodyLoose.notSynchronized Bd
  have hret := Bd.returns
  have hml : c.maxLocals = 1 := hml0
  have hown : s.vm.findClass "com/example/earnest_nets/earnestnets/LossBudget" = some m.cls := findClass_of_methodNamed Bd.named
  have hnm := (name_of_methodNamed Bd.named Bd.method).1
  have X0 : Stand p l e ({ frames := 2, cells := 1, slots := 2, locals := 27 } : Room) s m #[(.int lm)] below meth c s₁ [] 0 0 := Stand.of_body Bd
  have e0 : s₁.heap = h0 := by rw [← hh, Bd.state]; rfl
  have N0 := Fr.nil n0
  show Goes p e below (Fin_ s (Qrm1 Z lm h0 n0) ({ frames := 2, cells := 1, slots := 2, locals := 27 } : Room).cells ({ frames := 2, cells := 1, slots := 2, locals := 27 } : Room).slots) (s₁.setTop (entryFrame m #[(.int lm)] 1))
  rw [ef_rm1 m lm]
  refine Goes.via (fun _ kk_ => XS.iloadN X0.here hx rfl (hb hby d1_0) rfl  kk_) ?_
  show Goes p e below _ (s₁.setTop (mkF m 1 #[.val (.int lm)] [(.int lm)]))
  have hc1_1 : ¬ (lm < (0 : Int32)) := Hl
  refine Goes.via (fun _ kk_ => XS.ifYes X0.here hx rfl (pc0 := 1) (pc' := 18) rfl (hb hby d1_1) rfl ((if0 _ _).trans (flt hc1_1).2.1) (by decide) (by decide) kk_) ?_
  show Goes p e below _ (s₁.setTop (mkF m 18 #[.val (.int lm)] []))
  obtain ⟨T2, h2, X2, e2, E2, A2, D2, -, st2⟩ := newO X0 hx hZ hown (hw _ (List.mem_of_getElem? (i := 5) rfl)) (hw _ (List.mem_of_getElem? (i := 6) rfl)) (hw _ (List.mem_of_getElem? (i := 3) rfl)) e0 (g := (mkF m 18 #[.val (.int lm)] [])) rfl (hb hby d1_18) (by first | decide | omega) (by first | decide | omega)
  obtain ⟨b2, g2⟩ : ∃ z, z = (h0).size := ⟨_, rfl⟩
  rw [← g2] at A2 D2 st2
  have sz_b2 : h0.size ≤ b2 := Nat.le_trans (Nat.le_refl _) (Nat.le_of_eq g2.symm)
  have gn_b2 : n0 ≤ b2 := Nat.le_trans Z0 sz_b2
  have F_unlimited_b2 : Fld Z h2 b2 "com/example/earnest_nets/earnestnets/LossBudget" "unlimited" "Z" (.int (0 : Int32)) := D2 (Or.inr (hw _ (List.mem_of_getElem? (i := 14) rfl))) (ty := .boolean) (by decide)
  have F_limit_b2 : Fld Z h2 b2 "com/example/earnest_nets/earnestnets/LossBudget" "limit" "I" (.int (0 : Int32)) := D2 (Or.inr (hw _ (List.mem_of_getElem? (i := 16) rfl))) (ty := .int) (by decide)
  refine Goes.via st2 ?_
  show Goes p e below _ (T2.setTop (mkF m 21 #[.val (.int lm)] [(.ref b2)]))
  refine Goes.via (fun _ kk_ => XS.dup X2.here hx rfl (hb hby d1_21) rfl rfl kk_) ?_
  show Goes p e below _ (T2.setTop (mkF m 22 #[.val (.int lm)] [(.ref b2), (.ref b2)]))
  refine Goes.via (fun _ kk_ => XS.iconst X2.here hx rfl (hb hby d1_22) kk_) ?_
  show Goes p e below _ (T2.setTop (mkF m 23 #[.val (.int lm)] [(.int (0 : Int32)), (.ref b2), (.ref b2)]))
  refine Goes.via (fun _ kk_ => XS.iloadN X2.here hx rfl (hb hby d1_23) rfl  kk_) ?_
  show Goes p e below _ (T2.setTop (mkF m 24 #[.val (.int lm)] [(.int lm), (.int (0 : Int32)), (.ref b2), (.ref b2)]))
  have z4 : h0.size ≤ (h2).size := (Nat.le_trans (Nat.le_refl _) E2.1)
  obtain ⟨_, _, ⟨T3, L3, k3, n3⟩, -, X3, ⟨Lc3, hQ3, l3, y3, z3⟩, st3⟩ := X2.specialBack hx (y := (⟨"com/example/earnest_nets/earnestnets/LossBudget", "<init>", "(ZI)V"⟩ : MethodName)) rfl hown (mvT hZ (hw _ (List.mem_of_getElem? (i := 7) rfl))) (mvT hZ (hw _ (List.mem_of_getElem? (i := 8) rfl))) (mvT hZ (hw _ (List.mem_of_getElem? (i := 9) rfl))) (by decide) (backOf (W := 1) (rm2 l Z a0 hw [] b2 (0 : Int32) lm h2 n0 (Nat.le_trans Z0 z4) A2 F_unlimited_b2 F_limit_b2 gn_b2 (by first | rfl | decide | assumption | omega | (simp; done))) hZ (hw _ (List.mem_of_getElem? (i := 9) rfl)) (hw _ (List.mem_of_getElem? (i := 3) rfl)) (by decide) (by decide)) (g := (mkF m 24 #[.val (.int lm)] [(.int lm), (.int (0 : Int32)), (.ref b2), (.ref b2)])) rfl (by rw [hml]; rfl) (Steps.refl _) (a := b2) (argsL := [(.int (0 : Int32)), (.int lm)]) (rest := [(.ref b2)]) (lenOf pd_0 rfl) rfl (by show 2 * 0 + _ ≤ _; exact Nat.le_of_eq rfl) (hb hby d1_24) (fun _ _ => ⟨rfl, e2, (by first | decide | omega : 1 + 0 ≤ _), (by first | decide | omega : 2 + 0 ≤ _)⟩)
  dsimp only [Pt.U, Pt.locs, Pt.cells, Pt.slots] at X3 l3 y3 z3 st3 hQ3
  subst l3 y3 z3
  obtain ⟨rfl, N3q, K3, u3_0, u3_1, u3_2⟩ := hQ3
  have N3 := Fr.app N0 N3q
  refine Goes.tr st3 ?_
  show Goes p e below _ (T3.setTop (mkF m 27 #[.val (.int lm)] [(.ref b2)]))
  have K5 : Keep h0 T3.heap [] := (((Keep.refl h0 []).ext E2).trans K3 (allS (Or.inr sz_b2) all0))
  exact own_finR X3 hx hlk hret rfl rfl rfl (hb hby d1_27) (by exact ⟨b2, rfl, N3, K5, sz_b2, u3_0, u3_1, u3_2⟩) (by first | decide | omega) (by first | decide | omega)
theorem ef_rm4 (m : MethodId) (a : Addr) : entryFrame m #[(.ref a)] 1 = mkF m 0 #[.val (.ref a)] [] := by first | (simp [entryFrame, mkF, argsToLocals, Value.category]; done) | rfl
def Qrm4 (Z : State) (a : Addr) (h0 : Heap) (n0 : Nat) (v_ : Option Value) (h_ : Heap) (L_ : List Loc) : Prop := v_ = some (.int (0 : Int32)) ∧ Fr n0 L_ ∧ h_ = h0
theorem d4_0 : decode prog_7_method_4_code 0 = .ok (.aload_n 0, 1) := by decide +kernel
theorem d4_1 : decode prog_7_method_4_code 1 = .ok (.getfield 7, 3) := by decide +kernel
theorem d4_4 : decode prog_7_method_4_code 4 = .ok (.ireturn, 1) := by decide +kernel
set_option maxRecDepth 65536 in
set_option maxHeartbeats 40000000 in
theorem rm4 (l : Launch) (Z : State) (a0 : Array Value) (hw : ∀ d ∈ tables_1, d.before a0 Z = true) (ws : List Jvm.Cond) (a : Addr) (h0 : Heap) (n0 : Nat) (Z0 : n0 ≤ h0.size) (F0_a_unlimited : Fld Z h0 a "com/example/earnest_nets/earnestnets/LossBudget" "unlimited" "Z" (.int (0 : Int32))) :
    MetFree l (⟨"com/example/earnest_nets/earnestnets/LossBudget", "isUnlimited", "()Z"⟩ : MethodName) (head1 (Jvm.Cond.code (⟨"com/example/earnest_nets/earnestnets/LossBudget", "isUnlimited", "()Z"⟩ : MethodName) prog_7_method_4_code 1 (some .boolean) :: ws) ({ frames := 0, cells := 0, slots := 0, locals := 0 } : Room)) (fun as_ U_ => as_ = #[(.ref a)] ∧ Z.Warmed39 U_.vm ∧ U_.heap = h0) (fun _ _ _ _ _ => True) (fun _ U_ o_ V_ => ∃ v_ L_, o_ = .returned v_ ∧ Qrm4 Z a h0 n0 v_ V_.heap L_ ∧ FrameEnd U_ o_ V_ L_ ({ frames := 0, cells := 0, slots := 0, locals := 0 } : Room).cells ({ frames := 0, cells := 0, slots := 0, locals := 0 } : Room).slots) := by
  refine MetFree.of_bodySF (plainFor_of_name pn_com_example_earnest_nets_earnestnets_LossBudget) hisR ?_
  intro p e s m args below meth c s₁ Bd hml0 hP hK
  obtain ⟨rfl, hZ, hh⟩ := hP
  have hx := Bd.exec
  have hby := Bd.bytes
  have hlk : meth.locks = false := BodyLoose.notSynchronized Bd
  have hret := Bd.returns
  have hml : c.maxLocals = 1 := hml0
  have hown : s.vm.findClass "com/example/earnest_nets/earnestnets/LossBudget" = some m.cls := findClass_of_methodNamed Bd.named
  have hnm := (name_of_methodNamed Bd.named Bd.method).1
  have X0 : Stand p l e ({ frames := 0, cells := 0, slots := 0, locals := 0 } : Room) s m #[(.ref a)] below meth c s₁ [] 0 0 := Stand.of_body Bd
  have e0 : s₁.heap = h0 := by rw [← hh, Bd.state]; rfl
  have N0 := Fr.nil n0
  show Goes p e below (Fin_ s (Qrm4 Z a h0 n0) ({ frames := 0, cells := 0, slots := 0, locals := 0 } : Room).cells ({ frames := 0, cells := 0, slots := 0, locals := 0 } : Room).slots) (s₁.setTop (entryFrame m #[(.ref a)] 1))
  rw [ef_rm4 m a]
  refine Goes.via (fun _ kk_ => XS.aloadN X0.here hx rfl (hb hby d4_0) rfl rfl  kk_) ?_
  show Goes p e below _ (s₁.setTop (mkF m 1 #[.val (.ref a)] [(.ref a)]))
  obtain ⟨T1, X1, e1, st1⟩ := getF X0 hx hZ hown (host := "") (Or.inl (hw _ (List.mem_of_getElem? (i := 13) rfl))) Via.refl e0 F0_a_unlimited (g := (mkF m 1 #[.val (.ref a)] [(.ref a)])) rfl rfl (hb hby d4_1)
  refine Goes.via st1 ?_
  show Goes p e below _ (T1.setTop (mkF m 4 #[.val (.ref a)] [(.int (0 : Int32))]))
  exact own_finN X1 hx hlk hret (by simp) (hb hby d4_4) (by rw [e1]; exact ⟨rfl, N0, rfl⟩) (by first | decide | omega) (by first | decide | omega)
theorem ef_rm5 (m : MethodId) (a : Addr) (k : Int32) : entryFrame m #[(.ref a), (.int k)] 2 = mkF m 0 #[.val (.ref a), .val (.int k)] [] := by first | (simp [entryFrame, mkF, argsToLocals, Value.category]; done) | rfl
def Qrm5 (Z : State) (a : Addr) (k : Int32) (lm : Int32) (h0 : Heap) (n0 : Nat) (v_ : Option Value) (h_ : Heap) (L_ : List Loc) : Prop := v_ = some (.int (if k < lm then (1 : Int32) else (0 : Int32))) ∧ Fr n0 L_ ∧ h_ = h0
theorem d5_0 : decode prog_7_method_5_code 0 = .ok (.iload_n 1, 1) := by decide +kernel
theorem d5_1 : decode prog_7_method_5_code 1 = .ok (.ifCond .ge 17, 3) := by decide +kernel
theorem d5_18 : decode prog_7_method_5_code 18 = .ok (.aload_n 0, 1) := by decide +kernel
theorem d5_19 : decode prog_7_method_5_code 19 = .ok (.getfield 7, 3) := by decide +kernel
theorem d5_22 : decode prog_7_method_5_code 22 = .ok (.ifCond .ne 11, 3) := by decide +kernel
theorem d5_25 : decode prog_7_method_5_code 25 = .ok (.iload_n 1, 1) := by decide +kernel
theorem d5_26 : decode prog_7_method_5_code 26 = .ok (.aload_n 0, 1) := by decide +kernel
theorem d5_27 : decode prog_7_method_5_code 27 = .ok (.getfield 13, 3) := by decide +kernel
theorem d5_30 : decode prog_7_method_5_code 30 = .ok (.if_icmp .ge 7, 3) := by decide +kernel
theorem d5_33 : decode prog_7_method_5_code 33 = .ok (.iconst 1, 1) := by decide +kernel
theorem d5_34 : decode prog_7_method_5_code 34 = .ok (.goto 4, 3) := by decide +kernel
theorem d5_38 : decode prog_7_method_5_code 38 = .ok (.ireturn, 1) := by decide +kernel
theorem d5_37 : decode prog_7_method_5_code 37 = .ok (.iconst 0, 1) := by decide +kernel
set_option maxRecDepth 65536 in
set_option maxHeartbeats 40000000 in
theorem rm5 (l : Launch) (Z : State) (a0 : Array Value) (hw : ∀ d ∈ tables_1, d.before a0 Z = true) (ws : List Jvm.Cond) (a : Addr) (k : Int32) (lm : Int32) (h0 : Heap) (n0 : Nat) (Z0 : n0 ≤ h0.size) (F0_a_unlimited : Fld Z h0 a "com/example/earnest_nets/earnestnets/LossBudget" "unlimited" "Z" (.int (0 : Int32))) (F1_a_limit : Fld Z h0 a "com/example/earnest_nets/earnestnets/LossBudget" "limit" "I" (.int lm)) (Hk : ¬ k < (0 : Int32)) :
    MetFree l (⟨"com/example/earnest_nets/earnestnets/LossBudget", "allowsAnother", "(I)Z"⟩ : MethodName) (head1 (Jvm.Cond.code (⟨"com/example/earnest_nets/earnestnets/LossBudget", "allowsAnother", "(I)Z"⟩ : MethodName) prog_7_method_5_code 2 (some .boolean) :: ws) ({ frames := 0, cells := 0, slots := 0, locals := 0 } : Room)) (fun as_ U_ => as_ = #[(.ref a), (.int k)] ∧ Z.Warmed39 U_.vm ∧ U_.heap = h0) (fun _ _ _ _ _ => True) (fun _ U_ o_ V_ => ∃ v_ L_, o_ = .returned v_ ∧ Qrm5 Z a k lm h0 n0 v_ V_.heap L_ ∧ FrameEnd U_ o_ V_ L_ ({ frames := 0, cells := 0, slots := 0, locals := 0 } : Room).cells ({ frames := 0, cells := 0, slots := 0, locals := 0 } : Room).slots) := by
  refine MetFree.of_bodySF (plainFor_of_name pn_com_example_earnest_nets_earnestnets_LossBudget) hisR ?_
  intro p e s m args below meth c s₁ Bd hml0 hP hK
  obtain ⟨rfl, hZ, hh⟩ := hP
  have hx := Bd.exec
  have hby := Bd.bytes
  have hlk : meth.locks = false := BodyLoose.notSynchronized Bd
  have hret := Bd.returns
  have hml : c.maxLocals = 2 := hml0
  have hown : s.vm.findClass "com/example/earnest_nets/earnestnets/LossBudget" = some m.cls := findClass_of_methodNamed Bd.named
  have hnm := (name_of_methodNamed Bd.named Bd.method).1
  have X0 : Stand p l e ({ frames := 0, cells := 0, slots := 0, locals := 0 } : Room) s m #[(.ref a), (.int k)] below meth c s₁ [] 0 0 := Stand.of_body Bd
  have e0 : s₁.heap = h0 := by rw [← hh, Bd.state]; rfl
  have N0 := Fr.nil n0
  show Goes p e below (Fin_ s (Qrm5 Z a k lm h0 n0) ({ frames := 0, cells := 0, slots := 0, locals := 0 } : Room).cells ({ frames := 0, cells := 0, slots := 0, locals := 0 } : Room).slots) (s₁.setTop (entryFrame m #[(.ref a), (.int k)] 2))
  rw [ef_rm5 m a k]
  refine Goes.via (fun _ kk_ => XS.iloadN X0.here hx rfl (hb hby d5_0) rfl  kk_) ?_
  show Goes p e below _ (s₁.setTop (mkF m 1 #[.val (.ref a), .val (.int k)] [(.int k)]))
  have hc1_1 : ¬ (k < (0 : Int32)) := Hk
  refine Goes.via (fun _ kk_ => XS.ifYes X0.here hx rfl (pc0 := 1) (pc' := 18) rfl (hb hby d5_1) rfl ((if0 _ _).trans (flt hc1_1).2.1) (by decide) (by decide) kk_) ?_
  show Goes p e below _ (s₁.setTop (mkF m 18 #[.val (.ref a), .val (.int k)] []))
  refine Goes.via (fun _ kk_ => XS.aloadN X0.here hx rfl (hb hby d5_18) rfl rfl  kk_) ?_
  show Goes p e below _ (s₁.setTop (mkF m 19 #[.val (.ref a), .val (.int k)] [(.ref a)]))
  obtain ⟨T2, X2, e2, st2⟩ := getF X0 hx hZ hown (host := "") (Or.inl (hw _ (List.mem_of_getElem? (i := 13) rfl))) Via.refl e0 F0_a_unlimited (g := (mkF m 19 #[.val (.ref a), .val (.int k)] [(.ref a)])) rfl rfl (hb hby d5_19)
  refine Goes.via st2 ?_
  show Goes p e below _ (T2.setTop (mkF m 22 #[.val (.ref a), .val (.int k)] [(.int (0 : Int32))]))
  have hc22_3 : (0 : Int32) = (0 : Int32) := (by decide)
  refine Goes.via (fun _ kk_ => XS.ifNo X2.here hx rfl (hb hby d5_22) rfl ((if0 _ _).trans (teq hc22_3).2) kk_) ?_
  show Goes p e below _ (T2.setTop (mkF m 25 #[.val (.ref a), .val (.int k)] []))
  refine Goes.via (fun _ kk_ => XS.iloadN X2.here hx rfl (hb hby d5_25) rfl  kk_) ?_
  show Goes p e below _ (T2.setTop (mkF m 26 #[.val (.ref a), .val (.int k)] [(.int k)]))
  refine Goes.via (fun _ kk_ => XS.aloadN X2.here hx rfl (hb hby d5_26) rfl rfl  kk_) ?_
  show Goes p e below _ (T2.setTop (mkF m 27 #[.val (.ref a), .val (.int k)] [(.ref a), (.int k)]))
  obtain ⟨T4, X4, e4, st4⟩ := getF X2 hx hZ hown (host := "") (Or.inl (hw _ (List.mem_of_getElem? (i := 15) rfl))) Via.refl e2 F1_a_limit (g := (mkF m 27 #[.val (.ref a), .val (.int k)] [(.ref a), (.int k)])) rfl rfl (hb hby d5_27)
  refine Goes.via st4 ?_
  show Goes p e below _ (T4.setTop (mkF m 30 #[.val (.ref a), .val (.int k)] [(.int lm), (.int k)]))
  by_cases hc30 : k < lm
  · skip
    refine Goes.via (fun _ kk_ => XS.icmpNo X4.here hx rfl (hb hby d5_30) rfl (tlt hc30).2.1 kk_) ?_
    show Goes p e below _ (T4.setTop (mkF m 33 #[.val (.ref a), .val (.int k)] []))
    refine Goes.via (fun _ kk_ => XS.iconst X4.here hx rfl (hb hby d5_33) kk_) ?_
    show Goes p e below _ (T4.setTop (mkF m 34 #[.val (.ref a), .val (.int k)] [(.int (1 : Int32))]))
    refine Goes.via (fun _ kk_ => XS.goto X4.here hx rfl (pc0 := 34) (pc' := 38) rfl (hb hby d5_34) (by decide) (by decide) kk_) ?_
    show Goes p e below _ (T4.setTop (mkF m 38 #[.val (.ref a), .val (.int k)] [(.int (1 : Int32))]))
    exact own_finN X4 hx hlk hret (by simp) (hb hby d5_38) (by rw [e4]; exact ⟨(by rw [if_pos hc30]; rfl), N0, rfl⟩) (by first | decide | omega) (by first | decide | omega)
  · skip
    refine Goes.via (fun _ kk_ => XS.icmpYes X4.here hx rfl (pc0 := 30) (pc' := 37) rfl (hb hby d5_30) rfl (flt hc30).2.1 (by decide) (by decide) kk_) ?_
    show Goes p e below _ (T4.setTop (mkF m 37 #[.val (.ref a), .val (.int k)] []))
    refine Goes.via (fun _ kk_ => XS.iconst X4.here hx rfl (hb hby d5_37) kk_) ?_
    show Goes p e below _ (T4.setTop (mkF m 38 #[.val (.ref a), .val (.int k)] [(.int (0 : Int32))]))
    exact own_finN X4 hx hlk hret (by simp) (hb hby d5_38) (by rw [e4]; exact ⟨(by rw [if_neg hc30]; rfl), N0, rfl⟩) (by first | decide | omega) (by first | decide | omega)
theorem ef_rm6 (m : MethodId) (a : Addr) (b : Addr) : entryFrame m #[(.ref a), (.ref b)] 3 = mkF m 0 #[.val (.ref a), .val (.ref b), .unset] [] := by first | (simp [entryFrame, mkF, argsToLocals, Value.category]; done) | rfl
def Qrm6 (Z : State) (a : Addr) (b : Addr) (lm : Int32) (ln : Int32) (h0 : Heap) (n0 : Nat) (v_ : Option Value) (h_ : Heap) (L_ : List Loc) : Prop := v_ = some (.int (if lm = ln then (1 : Int32) else (0 : Int32))) ∧ Fr n0 L_ ∧ h_ = h0
theorem d6_0 : decode prog_7_method_6_code 0 = .ok (.aload_n 1, 1) := by decide +kernel
theorem d6_1 : decode prog_7_method_6_code 1 = .ok (.instanceof 8, 3) := by decide +kernel
theorem d6_4 : decode prog_7_method_6_code 4 = .ok (.ifCond .eq 34, 3) := by decide +kernel
theorem d6_7 : decode prog_7_method_6_code 7 = .ok (.aload_n 1, 1) := by decide +kernel
theorem d6_8 : decode prog_7_method_6_code 8 = .ok (.checkcast 8, 3) := by decide +kernel
theorem d6_11 : decode prog_7_method_6_code 11 = .ok (.astore_n 2, 1) := by decide +kernel
theorem d6_12 : decode prog_7_method_6_code 12 = .ok (.aload_n 0, 1) := by decide +kernel
theorem d6_13 : decode prog_7_method_6_code 13 = .ok (.getfield 7, 3) := by decide +kernel
theorem d6_16 : decode prog_7_method_6_code 16 = .ok (.aload_n 2, 1) := by decide +kernel
theorem d6_17 : decode prog_7_method_6_code 17 = .ok (.getfield 7, 3) := by decide +kernel
theorem d6_20 : decode prog_7_method_6_code 20 = .ok (.if_icmp .ne 18, 3) := by decide +kernel
theorem d6_23 : decode prog_7_method_6_code 23 = .ok (.aload_n 0, 1) := by decide +kernel
theorem d6_24 : decode prog_7_method_6_code 24 = .ok (.getfield 13, 3) := by decide +kernel
theorem d6_27 : decode prog_7_method_6_code 27 = .ok (.aload_n 2, 1) := by decide +kernel
theorem d6_28 : decode prog_7_method_6_code 28 = .ok (.getfield 13, 3) := by decide +kernel
theorem d6_31 : decode prog_7_method_6_code 31 = .ok (.if_icmp .ne 7, 3) := by decide +kernel
theorem d6_34 : decode prog_7_method_6_code 34 = .ok (.iconst 1, 1) := by decide +kernel
theorem d6_35 : decode prog_7_method_6_code 35 = .ok (.goto 4, 3) := by decide +kernel
theorem d6_39 : decode prog_7_method_6_code 39 = .ok (.ireturn, 1) := by decide +kernel
theorem d6_38 : decode prog_7_method_6_code 38 = .ok (.iconst 0, 1) := by decide +kernel
set_option maxRecDepth 65536 in
set_option maxHeartbeats 40000000 in
theorem rm6 (l : Launch) (Z : State) (a0 : Array Value) (hw : ∀ d ∈ tables_1, d.before a0 Z = true) (ws : List Jvm.Cond) (a : Addr) (b : Addr) (lm : Int32) (ln : Int32) (h0 : Heap) (n0 : Nat) (Z0 : n0 ≤ h0.size) (E0_b : Exa Z h0 b "com/example/earnest_nets/earnestnets/LossBudget") (F1_a_unlimited : Fld Z h0 a "com/example/earnest_nets/earnestnets/LossBudget" "unlimited" "Z" (.int (0 : Int32))) (F2_a_limit : Fld Z h0 a "com/example/earnest_nets/earnestnets/LossBudget" "limit" "I" (.int lm)) (F3_b_unlimited : Fld Z h0 b "com/example/earnest_nets/earnestnets/LossBudget" "unlimited" "Z" (.int (0 : Int32))) (F4_b_limit : Fld Z h0 b "com/example/earnest_nets/earnestnets/LossBudget" "limit" "I" (.int ln)) :
    MetFree l (⟨"com/example/earnest_nets/earnestnets/LossBudget", "equals", "(Ljava/lang/Object;)Z"⟩ : MethodName) (head1 (Jvm.Cond.code (⟨"com/example/earnest_nets/earnestnets/LossBudget", "equals", "(Ljava/lang/Object;)Z"⟩ : MethodName) prog_7_method_6_code 3 (some .boolean) :: ws) ({ frames := 0, cells := 0, slots := 0, locals := 0 } : Room)) (fun as_ U_ => as_ = #[(.ref a), (.ref b)] ∧ Z.Warmed39 U_.vm ∧ U_.heap = h0) (fun _ _ _ _ _ => True) (fun _ U_ o_ V_ => ∃ v_ L_, o_ = .returned v_ ∧ Qrm6 Z a b lm ln h0 n0 v_ V_.heap L_ ∧ FrameEnd U_ o_ V_ L_ ({ frames := 0, cells := 0, slots := 0, locals := 0 } : Room).cells ({ frames := 0, cells := 0, slots := 0, locals := 0 } : Room).slots) := by
  refine MetFree.of_bodySF (plainFor_of_name pn_com_example_earnest_nets_earnestnets_LossBudget) hisR ?_
  intro p e s m args below meth c s₁ Bd hml0 hP hK
  obtain ⟨rfl, hZ, hh⟩ := hP
  have hx := Bd.exec
  have hby := Bd.bytes
  have hlk : meth.locks = false := BodyLoose.notSynchronized Bd
  have hret := Bd.returns
  have hml : c.maxLocals = 3 := hml0
  have hown : s.vm.findClass "com/example/earnest_nets/earnestnets/LossBudget" = some m.cls := findClass_of_methodNamed Bd.named
  have hnm := (name_of_methodNamed Bd.named Bd.method).1
  have X0 : Stand p l e ({ frames := 0, cells := 0, slots := 0, locals := 0 } : Room) s m #[(.ref a), (.ref b)] below meth c s₁ [] 0 0 := Stand.of_body Bd
  have e0 : s₁.heap = h0 := by rw [← hh, Bd.state]; rfl
  have N0 := Fr.nil n0
  show Goes p e below (Fin_ s (Qrm6 Z a b lm ln h0 n0) ({ frames := 0, cells := 0, slots := 0, locals := 0 } : Room).cells ({ frames := 0, cells := 0, slots := 0, locals := 0 } : Room).slots) (s₁.setTop (entryFrame m #[(.ref a), (.ref b)] 3))
  rw [ef_rm6 m a b]
  refine Goes.via (fun _ kk_ => XS.aloadN X0.here hx rfl (hb hby d6_0) rfl rfl  kk_) ?_
  show Goes p e below _ (s₁.setTop (mkF m 1 #[.val (.ref a), .val (.ref b), .unset] [(.ref b)]))
  obtain ⟨T1, X1, e1, st1⟩ := instY X0 hx hZ hown (hw _ (List.mem_of_getElem? (i := 5) rfl)) e0 (Ins.self E0_b) (g := (mkF m 1 #[.val (.ref a), .val (.ref b), .unset] [(.ref b)])) rfl rfl (hb hby d6_1)
  refine Goes.via st1 ?_
  show Goes p e below _ (T1.setTop (mkF m 4 #[.val (.ref a), .val (.ref b), .unset] [(.int (1 : Int32))]))
  have hc4_2 : ¬ ((1 : Int32) = (0 : Int32)) := (by decide)
  refine Goes.via (fun _ kk_ => XS.ifNo X1.here hx rfl (hb hby d6_4) rfl ((if0 _ _).trans (feq hc4_2).1) kk_) ?_
  show Goes p e below _ (T1.setTop (mkF m 7 #[.val (.ref a), .val (.ref b), .unset] []))
  refine Goes.via (fun _ kk_ => XS.aloadN X1.here hx rfl (hb hby d6_7) rfl rfl  kk_) ?_
  show Goes p e below _ (T1.setTop (mkF m 8 #[.val (.ref a), .val (.ref b), .unset] [(.ref b)]))
  obtain ⟨T3, X3, e3, st3⟩ := castY X1 hx hZ hown (hw _ (List.mem_of_getElem? (i := 5) rfl)) e1 (Ins.self E0_b) (g := (mkF m 8 #[.val (.ref a), .val (.ref b), .unset] [(.ref b)])) rfl rfl (hb hby d6_8)
  refine Goes.via st3 ?_
  show Goes p e below _ (T3.setTop (mkF m 11 #[.val (.ref a), .val (.ref b), .unset] [(.ref b)]))
  refine Goes.via (fun _ kk_ => XS.astoreN X3.here hx rfl (hb hby d6_11) rfl rfl (l' := #[.val (.ref a), .val (.ref b), .val (.ref b)]) rfl kk_) ?_
  show Goes p e below _ (T3.setTop (mkF m 12 #[.val (.ref a), .val (.ref b), .val (.ref b)] []))
  refine Goes.via (fun _ kk_ => XS.aloadN X3.here hx rfl (hb hby d6_12) rfl rfl  kk_) ?_
  show Goes p e below _ (T3.setTop (mkF m 13 #[.val (.ref a), .val (.ref b), .val (.ref b)] [(.ref a)]))
  obtain ⟨T4, X4, e4, st4⟩ := getF X3 hx hZ hown (host := "") (Or.inl (hw _ (List.mem_of_getElem? (i := 13) rfl))) Via.refl e3 F1_a_unlimited (g := (mkF m 13 #[.val (.ref a), .val (.ref b), .val (.ref b)] [(.ref a)])) rfl rfl (hb hby d6_13)
  refine Goes.via st4 ?_
  show Goes p e below _ (T4.setTop (mkF m 16 #[.val (.ref a), .val (.ref b), .val (.ref b)] [(.int (0 : Int32))]))
  refine Goes.via (fun _ kk_ => XS.aloadN X4.here hx rfl (hb hby d6_16) rfl rfl  kk_) ?_
  show Goes p e below _ (T4.setTop (mkF m 17 #[.val (.ref a), .val (.ref b), .val (.ref b)] [(.ref b), (.int (0 : Int32))]))
  obtain ⟨T5, X5, e5, st5⟩ := getF X4 hx hZ hown (host := "") (Or.inl (hw _ (List.mem_of_getElem? (i := 13) rfl))) Via.refl e4 F3_b_unlimited (g := (mkF m 17 #[.val (.ref a), .val (.ref b), .val (.ref b)] [(.ref b), (.int (0 : Int32))])) rfl rfl (hb hby d6_17)
  refine Goes.via st5 ?_
  show Goes p e below _ (T5.setTop (mkF m 20 #[.val (.ref a), .val (.ref b), .val (.ref b)] [(.int (0 : Int32)), (.int (0 : Int32))]))
  have hc20_6 : (0 : Int32) = (0 : Int32) := (by decide)
  refine Goes.via (fun _ kk_ => XS.icmpNo X5.here hx rfl (hb hby d6_20) rfl (teq hc20_6).2 kk_) ?_
  show Goes p e below _ (T5.setTop (mkF m 23 #[.val (.ref a), .val (.ref b), .val (.ref b)] []))
  refine Goes.via (fun _ kk_ => XS.aloadN X5.here hx rfl (hb hby d6_23) rfl rfl  kk_) ?_
  show Goes p e below _ (T5.setTop (mkF m 24 #[.val (.ref a), .val (.ref b), .val (.ref b)] [(.ref a)]))
  obtain ⟨T7, X7, e7, st7⟩ := getF X5 hx hZ hown (host := "") (Or.inl (hw _ (List.mem_of_getElem? (i := 15) rfl))) Via.refl e5 F2_a_limit (g := (mkF m 24 #[.val (.ref a), .val (.ref b), .val (.ref b)] [(.ref a)])) rfl rfl (hb hby d6_24)
  refine Goes.via st7 ?_
  show Goes p e below _ (T7.setTop (mkF m 27 #[.val (.ref a), .val (.ref b), .val (.ref b)] [(.int lm)]))
  refine Goes.via (fun _ kk_ => XS.aloadN X7.here hx rfl (hb hby d6_27) rfl rfl  kk_) ?_
  show Goes p e below _ (T7.setTop (mkF m 28 #[.val (.ref a), .val (.ref b), .val (.ref b)] [(.ref b), (.int lm)]))
  obtain ⟨T8, X8, e8, st8⟩ := getF X7 hx hZ hown (host := "") (Or.inl (hw _ (List.mem_of_getElem? (i := 15) rfl))) Via.refl e7 F4_b_limit (g := (mkF m 28 #[.val (.ref a), .val (.ref b), .val (.ref b)] [(.ref b), (.int lm)])) rfl rfl (hb hby d6_28)
  refine Goes.via st8 ?_
  show Goes p e below _ (T8.setTop (mkF m 31 #[.val (.ref a), .val (.ref b), .val (.ref b)] [(.int ln), (.int lm)]))
  by_cases hc31 : lm = ln
  · skip
    refine Goes.via (fun _ kk_ => XS.icmpNo X8.here hx rfl (hb hby d6_31) rfl (teq hc31).2 kk_) ?_
    show Goes p e below _ (T8.setTop (mkF m 34 #[.val (.ref a), .val (.ref b), .val (.ref b)] []))
    refine Goes.via (fun _ kk_ => XS.iconst X8.here hx rfl (hb hby d6_34) kk_) ?_
    show Goes p e below _ (T8.setTop (mkF m 35 #[.val (.ref a), .val (.ref b), .val (.ref b)] [(.int (1 : Int32))]))
    refine Goes.via (fun _ kk_ => XS.goto X8.here hx rfl (pc0 := 35) (pc' := 39) rfl (hb hby d6_35) (by decide) (by decide) kk_) ?_
    show Goes p e below _ (T8.setTop (mkF m 39 #[.val (.ref a), .val (.ref b), .val (.ref b)] [(.int (1 : Int32))]))
    exact own_finN X8 hx hlk hret (by simp) (hb hby d6_39) (by rw [e8]; exact ⟨(by rw [if_pos hc31]; rfl), N0, rfl⟩) (by first | decide | omega) (by first | decide | omega)
  · skip
    refine Goes.via (fun _ kk_ => XS.icmpYes X8.here hx rfl (pc0 := 31) (pc' := 38) rfl (hb hby d6_31) rfl (feq hc31).2 (by decide) (by decide) kk_) ?_
    show Goes p e below _ (T8.setTop (mkF m 38 #[.val (.ref a), .val (.ref b), .val (.ref b)] []))
    refine Goes.via (fun _ kk_ => XS.iconst X8.here hx rfl (hb hby d6_38) kk_) ?_
    show Goes p e below _ (T8.setTop (mkF m 39 #[.val (.ref a), .val (.ref b), .val (.ref b)] [(.int (0 : Int32))]))
    exact own_finN X8 hx hlk hret (by simp) (hb hby d6_39) (by rw [e8]; exact ⟨(by rw [if_neg hc31]; rfl), N0, rfl⟩) (by first | decide | omega) (by first | decide | omega)
theorem ef_rm6b (m : MethodId) (a : Addr) (b : Addr) : entryFrame m #[(.ref a), (.ref b)] 3 = mkF m 0 #[.val (.ref a), .val (.ref b), .unset] [] := by first | (simp [entryFrame, mkF, argsToLocals, Value.category]; done) | rfl
def Qrm6b (Z : State) (a : Addr) (b : Addr) (h0 : Heap) (n0 : Nat) (v_ : Option Value) (h_ : Heap) (L_ : List Loc) : Prop := v_ = some (.int (0 : Int32)) ∧ Fr n0 L_ ∧ h_ = h0
set_option maxRecDepth 65536 in
set_option maxHeartbeats 40000000 in
theorem rm6b (l : Launch) (Z : State) (a0 : Array Value) (hw : ∀ d ∈ tables_1, d.before a0 Z = true) (ws : List Jvm.Cond) (a : Addr) (b : Addr) (h0 : Heap) (n0 : Nat) (Z0 : n0 ≤ h0.size) (E0_b : Exa Z h0 b "com/example/earnest_nets/earnestnets/LossBudget") (F1_a_unlimited : Fld Z h0 a "com/example/earnest_nets/earnestnets/LossBudget" "unlimited" "Z" (.int (0 : Int32))) (F2_b_unlimited : Fld Z h0 b "com/example/earnest_nets/earnestnets/LossBudget" "unlimited" "Z" (.int (1 : Int32))) :
    MetFree l (⟨"com/example/earnest_nets/earnestnets/LossBudget", "equals", "(Ljava/lang/Object;)Z"⟩ : MethodName) (head1 (Jvm.Cond.code (⟨"com/example/earnest_nets/earnestnets/LossBudget", "equals", "(Ljava/lang/Object;)Z"⟩ : MethodName) prog_7_method_6_code 3 (some .boolean) :: ws) ({ frames := 0, cells := 0, slots := 0, locals := 0 } : Room)) (fun as_ U_ => as_ = #[(.ref a), (.ref b)] ∧ Z.Warmed39 U_.vm ∧ U_.heap = h0) (fun _ _ _ _ _ => True) (fun _ U_ o_ V_ => ∃ v_ L_, o_ = .returned v_ ∧ Qrm6b Z a b h0 n0 v_ V_.heap L_ ∧ FrameEnd U_ o_ V_ L_ ({ frames := 0, cells := 0, slots := 0, locals := 0 } : Room).cells ({ frames := 0, cells := 0, slots := 0, locals := 0 } : Room).slots) := by
  refine MetFree.of_bodySF (plainFor_of_name pn_com_example_earnest_nets_earnestnets_LossBudget) hisR ?_
  intro p e s m args below meth c s₁ Bd hml0 hP hK
  obtain ⟨rfl, hZ, hh⟩ := hP
  have hx := Bd.exec
  have hby := Bd.bytes
  have hlk : meth.locks = false := BodyLoose.notSynchronized Bd
  have hret := Bd.returns
  have hml : c.maxLocals = 3 := hml0
  have hown : s.vm.findClass "com/example/earnest_nets/earnestnets/LossBudget" = some m.cls := findClass_of_methodNamed Bd.named
  have hnm := (name_of_methodNamed Bd.named Bd.method).1
  have X0 : Stand p l e ({ frames := 0, cells := 0, slots := 0, locals := 0 } : Room) s m #[(.ref a), (.ref b)] below meth c s₁ [] 0 0 := Stand.of_body Bd
  have e0 : s₁.heap = h0 := by rw [← hh, Bd.state]; rfl
  have N0 := Fr.nil n0
  show Goes p e below (Fin_ s (Qrm6b Z a b h0 n0) ({ frames := 0, cells := 0, slots := 0, locals := 0 } : Room).cells ({ frames := 0, cells := 0, slots := 0, locals := 0 } : Room).slots) (s₁.setTop (entryFrame m #[(.ref a), (.ref b)] 3))
  rw [ef_rm6b m a b]
  refine Goes.via (fun _ kk_ => XS.aloadN X0.here hx rfl (hb hby d6_0) rfl rfl  kk_) ?_
  show Goes p e below _ (s₁.setTop (mkF m 1 #[.val (.ref a), .val (.ref b), .unset] [(.ref b)]))
  obtain ⟨T1, X1, e1, st1⟩ := instY X0 hx hZ hown (hw _ (List.mem_of_getElem? (i := 5) rfl)) e0 (Ins.self E0_b) (g := (mkF m 1 #[.val (.ref a), .val (.ref b), .unset] [(.ref b)])) rfl rfl (hb hby d6_1)
  refine Goes.via st1 ?_
  show Goes p e below _ (T1.setTop (mkF m 4 #[.val (.ref a), .val (.ref b), .unset] [(.int (1 : Int32))]))
  have hc4_2 : ¬ ((1 : Int32) = (0 : Int32)) := (by decide)
  refine Goes.via (fun _ kk_ => XS.ifNo X1.here hx rfl (hb hby d6_4) rfl ((if0 _ _).trans (feq hc4_2).1) kk_) ?_
  show Goes p e below _ (T1.setTop (mkF m 7 #[.val (.ref a), .val (.ref b), .unset] []))
  refine Goes.via (fun _ kk_ => XS.aloadN X1.here hx rfl (hb hby d6_7) rfl rfl  kk_) ?_
  show Goes p e below _ (T1.setTop (mkF m 8 #[.val (.ref a), .val (.ref b), .unset] [(.ref b)]))
  obtain ⟨T3, X3, e3, st3⟩ := castY X1 hx hZ hown (hw _ (List.mem_of_getElem? (i := 5) rfl)) e1 (Ins.self E0_b) (g := (mkF m 8 #[.val (.ref a), .val (.ref b), .unset] [(.ref b)])) rfl rfl (hb hby d6_8)
  refine Goes.via st3 ?_
  show Goes p e below _ (T3.setTop (mkF m 11 #[.val (.ref a), .val (.ref b), .unset] [(.ref b)]))
  refine Goes.via (fun _ kk_ => XS.astoreN X3.here hx rfl (hb hby d6_11) rfl rfl (l' := #[.val (.ref a), .val (.ref b), .val (.ref b)]) rfl kk_) ?_
  show Goes p e below _ (T3.setTop (mkF m 12 #[.val (.ref a), .val (.ref b), .val (.ref b)] []))
  refine Goes.via (fun _ kk_ => XS.aloadN X3.here hx rfl (hb hby d6_12) rfl rfl  kk_) ?_
  show Goes p e below _ (T3.setTop (mkF m 13 #[.val (.ref a), .val (.ref b), .val (.ref b)] [(.ref a)]))
  obtain ⟨T4, X4, e4, st4⟩ := getF X3 hx hZ hown (host := "") (Or.inl (hw _ (List.mem_of_getElem? (i := 13) rfl))) Via.refl e3 F1_a_unlimited (g := (mkF m 13 #[.val (.ref a), .val (.ref b), .val (.ref b)] [(.ref a)])) rfl rfl (hb hby d6_13)
  refine Goes.via st4 ?_
  show Goes p e below _ (T4.setTop (mkF m 16 #[.val (.ref a), .val (.ref b), .val (.ref b)] [(.int (0 : Int32))]))
  refine Goes.via (fun _ kk_ => XS.aloadN X4.here hx rfl (hb hby d6_16) rfl rfl  kk_) ?_
  show Goes p e below _ (T4.setTop (mkF m 17 #[.val (.ref a), .val (.ref b), .val (.ref b)] [(.ref b), (.int (0 : Int32))]))
  obtain ⟨T5, X5, e5, st5⟩ := getF X4 hx hZ hown (host := "") (Or.inl (hw _ (List.mem_of_getElem? (i := 13) rfl))) Via.refl e4 F2_b_unlimited (g := (mkF m 17 #[.val (.ref a), .val (.ref b), .val (.ref b)] [(.ref b), (.int (0 : Int32))])) rfl rfl (hb hby d6_17)
  refine Goes.via st5 ?_
  show Goes p e below _ (T5.setTop (mkF m 20 #[.val (.ref a), .val (.ref b), .val (.ref b)] [(.int (1 : Int32)), (.int (0 : Int32))]))
  have hc20_6 : ¬ ((0 : Int32) = (1 : Int32)) := (by decide)
  refine Goes.via (fun _ kk_ => XS.icmpYes X5.here hx rfl (pc0 := 20) (pc' := 38) rfl (hb hby d6_20) rfl (feq hc20_6).2 (by decide) (by decide) kk_) ?_
  show Goes p e below _ (T5.setTop (mkF m 38 #[.val (.ref a), .val (.ref b), .val (.ref b)] []))
  refine Goes.via (fun _ kk_ => XS.iconst X5.here hx rfl (hb hby d6_38) kk_) ?_
  show Goes p e below _ (T5.setTop (mkF m 39 #[.val (.ref a), .val (.ref b), .val (.ref b)] [(.int (0 : Int32))]))
  exact own_finN X5 hx hlk hret (by simp) (hb hby d6_39) (by rw [e5]; exact ⟨rfl, N0, rfl⟩) (by first | decide | omega) (by first | decide | omega)
theorem ef_rm0 (m : MethodId) (p1 : Int32) (p2 : Int32) : entryFrame m #[(.int p1), (.int p2)] maxLocals = mkF m 0 #[.val (.int p1), .val (.int p2), .unset, .unset, .unset] [] := by first | (simp [entryFrame, mkF, argsToLocals, Value.category, maxLocals]; done) | rfl
def Qrm0 (Z : State) (p1 : Int32) (p2 : Int32) (aN : Addr) (aA : Addr) (h0 : Heap) (n0 : Nat) (v_ : Option Value) (h_ : Heap) (L_ : List Loc) : Prop := v_ = some (.int (1 : Int32)) ∧ Fr n0 L_ ∧ Keep h0 h_ []
theorem pn_com_example_earnest_nets_earnestnets_LossBudgetAtMostPinLaw : plainName "com/example/earnest_nets/earnestnets/LossBudgetAtMostPinLaw" = true := by first | (simp [plainName, overriddenIn]; done) | decide +kernel
theorem pd_1 : parseMethodDescriptor "(I)Lcom/example/earnest_nets/earnestnets/LossBudget;" = some ⟨[.int], some (.object "com/example/earnest_nets/earnestnets/LossBudget")⟩ := by decide +kernel
theorem pd_2 : parseMethodDescriptor "()Z" = some ⟨[], some .boolean⟩ := by decide +kernel
theorem pd_3 : parseMethodDescriptor "(I)Z" = some ⟨[.int], some .boolean⟩ := by decide +kernel
theorem pd_4 : parseMethodDescriptor "(Ljava/lang/Object;)Z" = some ⟨[(.object "java/lang/Object")], some .boolean⟩ := by decide +kernel
set_option maxRecDepth 65536 in
set_option maxHeartbeats 40000000 in
theorem rm0 (l : Launch) (Z : State) (a0 : Array Value) (hw : ∀ d ∈ tables_1, d.before a0 Z = true) (ws : List Jvm.Cond) (p1 : Int32) (p2 : Int32) (aN : Addr) (aA : Addr) (h0 : Heap) (n0 : Nat) (Z0 : n0 ≤ h0.size) (OE1 : Exa Z h0 aN "com/example/earnest_nets/earnestnets/LossBudget") (OU1 : Fld Z h0 aN "com/example/earnest_nets/earnestnets/LossBudget" "unlimited" "Z" (.int (0 : Int32))) (OL1 : Fld Z h0 aN "com/example/earnest_nets/earnestnets/LossBudget" "limit" "I" (.int (0 : Int32))) (OE2 : Exa Z h0 aA "com/example/earnest_nets/earnestnets/LossBudget") (OU2 : Fld Z h0 aA "com/example/earnest_nets/earnestnets/LossBudget" "unlimited" "Z" (.int (1 : Int32))) (OS1 : Sta Z h0 "com/example/earnest_nets/earnestnets/LossBudget" "NONE" "Lcom/example/earnest_nets/earnestnets/LossBudget;" (.ref aN)) (OS2 : Sta Z h0 "com/example/earnest_nets/earnestnets/LossBudget" "ANY" "Lcom/example/earnest_nets/earnestnets/LossBudget;" (.ref aA)) :
    MetFree l x (head1 (Jvm.Cond.code x code maxLocals ret :: ws) room_1) (fun as_ U_ => as_ = #[(.int p1), (.int p2)] ∧ Z.Warmed39 U_.vm ∧ U_.heap = h0) (fun _ _ _ _ _ => True) (fun _ U_ o_ V_ => ∃ v_ L_, o_ = .returned v_ ∧ Qrm0 Z p1 p2 aN aA h0 n0 v_ V_.heap L_ ∧ FrameEnd U_ o_ V_ L_ room_1.cells room_1.slots) := by
  refine MetFree.of_bodySF (plainFor_of_name pn_com_example_earnest_nets_earnestnets_LossBudgetAtMostPinLaw) hisR ?_
  intro p e s m args below meth c s₁ Bd hml0 hP hK
  obtain ⟨rfl, hZ, hh⟩ := hP
  have hx := Bd.exec
  have hby := Bd.bytes
  have hlk : meth.locks = false := BodyLoose.notSynchronized Bd
  have hret := Bd.returns
  have hml : c.maxLocals = 5 := hml0
  have hown : s.vm.findClass "com/example/earnest_nets/earnestnets/LossBudgetAtMostPinLaw" = some m.cls := findClass_of_methodNamed Bd.named
  have hnm := (name_of_methodNamed Bd.named Bd.method).1
  have X0 : Stand p l e room_1 s m #[(.int p1), (.int p2)] below meth c s₁ [] 0 0 := Stand.of_body Bd
  have e0 : s₁.heap = h0 := by rw [← hh, Bd.state]; rfl
  have N0 := Fr.nil n0
  show Goes p e below (Fin_ s (Qrm0 Z p1 p2 aN aA h0 n0) room_1.cells room_1.slots) (s₁.setTop (entryFrame m #[(.int p1), (.int p2)] maxLocals))
  rw [ef_rm0 m p1 p2]
  refine Goes.via (fun _ kk_ => XS.iloadN X0.here hx rfl (hb hby at_0) rfl  kk_) ?_
  show Goes p e below _ (s₁.setTop (mkF m 1 #[.val (.int p1), .val (.int p2), .unset, .unset, .unset] [(.int p1)]))
  refine Goes.via (X0.ldcInt hx hown (mvT hZ (hw _ (List.mem_of_getElem? (i := 0) rfl))) (g := (mkF m 1 #[.val (.int p1), .val (.int p2), .unset, .unset, .unset] [(.int p1)])) rfl (hb hby at_1)) ?_
  show Goes p e below _ (s₁.setTop (mkF m 3 #[.val (.int p1), .val (.int p2), .unset, .unset, .unset] [(.int (2147483647 : Int32)), (.int p1)]))
  refine Goes.via (fun _ kk_ => XS.iand X0.here hx rfl (hb hby at_3) rfl kk_) ?_
  show Goes p e below _ (s₁.setTop (mkF m 4 #[.val (.int p1), .val (.int p2), .unset, .unset, .unset] [(.int (p1 &&& (2147483647 : Int32)))]))
  refine Goes.via (fun _ kk_ => XS.istoreN X0.here hx rfl (hb hby at_4) rfl (l' := #[.val (.int p1), .val (.int p2), .val (.int (p1 &&& (2147483647 : Int32))), .unset, .unset]) rfl kk_) ?_
  show Goes p e below _ (s₁.setTop (mkF m 5 #[.val (.int p1), .val (.int p2), .val (.int (p1 &&& (2147483647 : Int32))), .unset, .unset] []))
  generalize hv_v2_1 : (p1 &&& (2147483647 : Int32)) = v2_1
  show Goes p e below _ (s₁.setTop (mkF m 5 #[.val (.int p1), .val (.int p2), .val (.int v2_1), .unset, .unset] []))
  refine Goes.via (fun _ kk_ => XS.iloadN X0.here hx rfl (hb hby at_5) rfl  kk_) ?_
  show Goes p e below _ (s₁.setTop (mkF m 6 #[.val (.int p1), .val (.int p2), .val (.int v2_1), .unset, .unset] [(.int p2)]))
  refine Goes.via (X0.ldcInt hx hown (mvT hZ (hw _ (List.mem_of_getElem? (i := 0) rfl))) (g := (mkF m 6 #[.val (.int p1), .val (.int p2), .val (.int v2_1), .unset, .unset] [(.int p2)])) rfl (hb hby at_6)) ?_
  show Goes p e below _ (s₁.setTop (mkF m 8 #[.val (.int p1), .val (.int p2), .val (.int v2_1), .unset, .unset] [(.int (2147483647 : Int32)), (.int p2)]))
  refine Goes.via (fun _ kk_ => XS.iand X0.here hx rfl (hb hby at_8) rfl kk_) ?_
  show Goes p e below _ (s₁.setTop (mkF m 9 #[.val (.int p1), .val (.int p2), .val (.int v2_1), .unset, .unset] [(.int (p2 &&& (2147483647 : Int32)))]))
  refine Goes.via (fun _ kk_ => XS.istoreN X0.here hx rfl (hb hby at_9) rfl (l' := #[.val (.int p1), .val (.int p2), .val (.int v2_1), .val (.int (p2 &&& (2147483647 : Int32))), .unset]) rfl kk_) ?_
  show Goes p e below _ (s₁.setTop (mkF m 10 #[.val (.int p1), .val (.int p2), .val (.int v2_1), .val (.int (p2 &&& (2147483647 : Int32))), .unset] []))
  generalize hv_v3_2 : (p2 &&& (2147483647 : Int32)) = v3_2
  show Goes p e below _ (s₁.setTop (mkF m 10 #[.val (.int p1), .val (.int p2), .val (.int v2_1), .val (.int v3_2), .unset] []))
  have hL : ¬ v2_1 < (0 : Int32) := by rw [← hv_v2_1]; exact own_mask _
  have hK : ¬ v3_2 < (0 : Int32) := by rw [← hv_v3_2]; exact own_mask _
  refine Goes.via (fun _ kk_ => XS.iloadN X0.here hx rfl (hb hby at_10) rfl  kk_) ?_
  show Goes p e below _ (s₁.setTop (mkF m 11 #[.val (.int p1), .val (.int p2), .val (.int v2_1), .val (.int v3_2), .unset] [(.int v2_1)]))
  obtain ⟨_, _, ⟨T3, L3, k3, n3⟩, -, X3, ⟨Lc3, hQ3, l3, y3, z3⟩, st3⟩ := Jvm.LawKit.callS X0 hx (y := (⟨"com/example/earnest_nets/earnestnets/LossBudget", "atMost", "(I)Lcom/example/earnest_nets/earnestnets/LossBudget;"⟩ : MethodName)) hown (mvT hZ (hw _ (List.mem_of_getElem? (i := 1) rfl))) (mvT hZ (hw _ (List.mem_of_getElem? (i := 2) rfl))) (mvT hZ (hw _ (List.mem_of_getElem? (i := 3) rfl))) (mvT hZ (hw _ (List.mem_of_getElem? (i := 4) rfl))) (by decide) (backOf (W := 0) (rm1 l Z a0 hw [] v2_1 h0 n0 (Nat.le_trans Z0 (Nat.le_refl _)) hL) hZ (hw _ (List.mem_of_getElem? (i := 4) rfl)) (hw _ (List.mem_of_getElem? (i := 3) rfl)) (by decide) (by decide)) (g := (mkF m 11 #[.val (.int p1), .val (.int p2), .val (.int v2_1), .val (.int v3_2), .unset] [(.int v2_1)])) rfl (by rw [hml]; rfl) (argsL := [(.int v2_1)]) (rest := []) (lenOf pd_1 rfl) rfl (by show 2 * 0 + _ ≤ _; exact Nat.le_of_eq rfl) (hb hby at_11) (fun _ _ => ⟨rfl, e0, (by first | decide | omega : 0 + 1 ≤ _), (by first | decide | omega : 0 + 2 ≤ _)⟩)
  dsimp only [Pt.U, Pt.locs, Pt.cells, Pt.slots] at X3 l3 y3 z3 st3 hQ3
  subst l3 y3 z3
  obtain ⟨nb3, rfl, N3q, K3, u3_0, u3_1, u3_2, u3_3⟩ := hQ3
  have N3 := Fr.app N0 N3q
  refine Goes.via st3 ?_
  have ne4 : aN ≠ nb3 := Nat.ne_of_lt (Nat.lt_of_lt_of_le OE1.lt u3_0)
  have ne5 : aA ≠ nb3 := Nat.ne_of_lt (Nat.lt_of_lt_of_le OE2.lt u3_0)
  have sz_nb3 : h0.size ≤ nb3 := Nat.le_trans (Nat.le_refl _) u3_0
  have gn_nb3 : n0 ≤ nb3 := Nat.le_trans Z0 sz_nb3
  -- u3_0 : h0.size ≤ nb3
  show Goes p e below _ (T3.setTop (mkF m 14 #[.val (.int p1), .val (.int p2), .val (.int v2_1), .val (.int v3_2), .unset] [(.ref nb3)]))
  refine Goes.via (fun _ kk_ => XS.astore X3.here hx rfl (hb hby at_14) rfl rfl (l' := #[.val (.int p1), .val (.int p2), .val (.int v2_1), .val (.int v3_2), .val (.ref nb3)]) rfl kk_) ?_
  show Goes p e below _ (T3.setTop (mkF m 16 #[.val (.int p1), .val (.int p2), .val (.int v2_1), .val (.int v3_2), .val (.ref nb3)] []))
  refine Goes.via (fun _ kk_ => XS.aload X3.here hx rfl (hb hby at_16) rfl rfl  kk_) ?_
  show Goes p e below _ (T3.setTop (mkF m 18 #[.val (.int p1), .val (.int p2), .val (.int v2_1), .val (.int v3_2), .val (.ref nb3)] [(.ref nb3)]))
  have z7 : h0.size ≤ (T3.heap).size := (Nat.le_trans (Nat.le_refl _) K3.1)
  obtain ⟨cq6, kq6, q6a, q6b, q6c⟩ := isOf hZ rfl u3_1
  obtain ⟨_, _, ⟨T6, L6, k6, n6⟩, -, X6, ⟨Lc6, hQ6, l6, y6, z6⟩, st6⟩ := X3.virtualBack hx (y := (⟨"com/example/earnest_nets/earnestnets/LossBudget", "isUnlimited", "()Z"⟩ : MethodName)) (z := (⟨"com/example/earnest_nets/earnestnets/LossBudget", "isUnlimited", "()Z"⟩ : MethodName)) hown (mvT hZ (hw _ (List.mem_of_getElem? (i := 17) rfl))) (mvT hZ (hw _ (List.mem_of_getElem? (i := 18) rfl))) (notFace_of_selects (args := #[]) (mvT hZ (hw _ (List.mem_of_getElem? (i := 20) rfl)))) (mvT hZ (hw _ (List.mem_of_getElem? (i := 20) rfl))) (mvT hZ (hw _ (List.mem_of_getElem? (i := 19) rfl))) (by decide) (backOf (W := 0) (rm4 l Z a0 hw [] nb3 T3.heap n0 (Nat.le_trans Z0 z7) u3_2) hZ (hw _ (List.mem_of_getElem? (i := 21) rfl)) (hw _ (List.mem_of_getElem? (i := 3) rfl)) (by decide) (by decide)) q6a q6c (g := (mkF m 18 #[.val (.int p1), .val (.int p2), .val (.int v2_1), .val (.int v3_2), .val (.ref nb3)] [(.ref nb3)])) rfl (by rw [hml]; rfl) (Steps.refl _) (argsL := []) (rest := []) (lenOf pd_2 rfl) rfl (by show 2 * 0 + _ ≤ _; exact Nat.le_of_eq rfl) (hb hby at_18) (fun _ _ => ⟨rfl, rfl, (by first | decide | omega : 1 + 0 ≤ _), (by first | decide | omega : 2 + 0 ≤ _)⟩)
  dsimp only [Pt.U, Pt.locs, Pt.cells, Pt.slots] at X6 l6 y6 z6 st6 hQ6
  subst l6 y6 z6
  obtain ⟨rfl, N6q, e6⟩ := hQ6
  have N6 := Fr.app N3 N6q
  refine Goes.tr st6 ?_
  have e6' : T6.heap = T3.heap := e6
  show Goes p e below _ (T6.setTop (mkF m 21 #[.val (.int p1), .val (.int p2), .val (.int v2_1), .val (.int v3_2), .val (.ref nb3)] [(.int (0 : Int32))]))
  have hc21_8 : (0 : Int32) = (0 : Int32) := (by decide)
  refine Goes.via (fun _ kk_ => XS.ifYes X6.here hx rfl (pc0 := 21) (pc' := 26) rfl (hb hby at_21) rfl ((if0 _ _).trans (teq hc21_8).1) (by decide) (by decide) kk_) ?_
  show Goes p e below _ (T6.setTop (mkF m 26 #[.val (.int p1), .val (.int p2), .val (.int v2_1), .val (.int v3_2), .val (.ref nb3)] []))
  refine Goes.via (fun _ kk_ => XS.aload X6.here hx rfl (hb hby at_26) rfl rfl  kk_) ?_
  show Goes p e below _ (T6.setTop (mkF m 28 #[.val (.int p1), .val (.int p2), .val (.int v2_1), .val (.int v3_2), .val (.ref nb3)] [(.ref nb3)]))
  refine Goes.via (fun _ kk_ => XS.iloadN X6.here hx rfl (hb hby at_28) rfl  kk_) ?_
  show Goes p e below _ (T6.setTop (mkF m 29 #[.val (.int p1), .val (.int p2), .val (.int v2_1), .val (.int v3_2), .val (.ref nb3)] [(.int v3_2), (.ref nb3)]))
  obtain ⟨cq9, kq9, q9a, q9b, q9c⟩ := isOf hZ e6' u3_1
  obtain ⟨_, _, ⟨T9, L9, k9, n9⟩, -, X9, ⟨Lc9, hQ9, l9, y9, z9⟩, st9⟩ := X6.virtualBack hx (y := (⟨"com/example/earnest_nets/earnestnets/LossBudget", "allowsAnother", "(I)Z"⟩ : MethodName)) (z := (⟨"com/example/earnest_nets/earnestnets/LossBudget", "allowsAnother", "(I)Z"⟩ : MethodName)) hown (mvT hZ (hw _ (List.mem_of_getElem? (i := 22) rfl))) (mvT hZ (hw _ (List.mem_of_getElem? (i := 23) rfl))) (notFace_of_selects (args := #[]) (mvT hZ (hw _ (List.mem_of_getElem? (i := 25) rfl)))) (mvT hZ (hw _ (List.mem_of_getElem? (i := 25) rfl))) (mvT hZ (hw _ (List.mem_of_getElem? (i := 24) rfl))) (by decide) (backOf (W := 0) (rm5 l Z a0 hw [] nb3 v3_2 v2_1 T3.heap n0 (Nat.le_trans Z0 z7) u3_2 u3_3 hK) hZ (hw _ (List.mem_of_getElem? (i := 26) rfl)) (hw _ (List.mem_of_getElem? (i := 3) rfl)) (by decide) (by decide)) q9a q9c (g := (mkF m 29 #[.val (.int p1), .val (.int p2), .val (.int v2_1), .val (.int v3_2), .val (.ref nb3)] [(.int v3_2), (.ref nb3)])) rfl (by rw [hml]; rfl) (Steps.refl _) (argsL := [(.int v3_2)]) (rest := []) (lenOf pd_3 rfl) rfl (by show 2 * 0 + _ ≤ _; exact Nat.le_of_eq rfl) (hb hby at_29) (fun _ _ => ⟨rfl, e6', (by first | decide | omega : 1 + 0 ≤ _), (by first | decide | omega : 2 + 0 ≤ _)⟩)
  dsimp only [Pt.U, Pt.locs, Pt.cells, Pt.slots] at X9 l9 y9 z9 st9 hQ9
  subst l9 y9 z9
  obtain ⟨rfl, N9q, e9⟩ := hQ9
  have N9 := Fr.app N6 N9q
  refine Goes.tr st9 ?_
  have e9' : T9.heap = T3.heap := e9
  show Goes p e below _ (T9.setTop (mkF m 32 #[.val (.int p1), .val (.int p2), .val (.int v2_1), .val (.int v3_2), .val (.ref nb3)] [(.int (if v3_2 < v2_1 then (1 : Int32) else (0 : Int32)))]))
  refine Goes.via (fun _ kk_ => XS.iloadN X9.here hx rfl (hb hby at_32) rfl  kk_) ?_
  show Goes p e below _ (T9.setTop (mkF m 33 #[.val (.int p1), .val (.int p2), .val (.int v2_1), .val (.int v3_2), .val (.ref nb3)] [(.int v3_2), (.int (if v3_2 < v2_1 then (1 : Int32) else (0 : Int32)))]))
  refine Goes.via (fun _ kk_ => XS.iloadN X9.here hx rfl (hb hby at_33) rfl  kk_) ?_
  show Goes p e below _ (T9.setTop (mkF m 34 #[.val (.int p1), .val (.int p2), .val (.int v2_1), .val (.int v3_2), .val (.ref nb3)] [(.int v2_1), (.int v3_2), (.int (if v3_2 < v2_1 then (1 : Int32) else (0 : Int32)))]))
  obtain ⟨jj10, hv_jj10⟩ : ∃ z : Int32, z = (if v3_2 < v2_1 then (1 : Int32) else (0 : Int32)) := ⟨_, rfl⟩
  suffices J : Goes p e below (Fin_ s (Qrm0 Z p1 p2 aN aA h0 n0) room_1.cells room_1.slots) (T9.setTop (mkF m 42 #[.val (.int p1), .val (.int p2), .val (.int v2_1), .val (.int v3_2), .val (.ref nb3)] [(.int jj10), (.int (if v3_2 < v2_1 then (1 : Int32) else (0 : Int32)))])) by
    by_cases hc34 : v3_2 < v2_1
    · skip
      rw [show jj10 = (1 : Int32) from hv_jj10.trans (if_pos hc34)] at J
      refine Goes.via (fun _ kk_ => XS.icmpNo X9.here hx rfl (hb hby at_34) rfl (tlt hc34).2.1 kk_) ?_
      show Goes p e below _ (T9.setTop (mkF m 37 #[.val (.int p1), .val (.int p2), .val (.int v2_1), .val (.int v3_2), .val (.ref nb3)] [(.int (if v3_2 < v2_1 then (1 : Int32) else (0 : Int32)))]))
      refine Goes.via (fun _ kk_ => XS.iconst X9.here hx rfl (hb hby at_37) kk_) ?_
      show Goes p e below _ (T9.setTop (mkF m 38 #[.val (.int p1), .val (.int p2), .val (.int v2_1), .val (.int v3_2), .val (.ref nb3)] [(.int (1 : Int32)), (.int (if v3_2 < v2_1 then (1 : Int32) else (0 : Int32)))]))
      refine Goes.via (fun _ kk_ => XS.goto X9.here hx rfl (pc0 := 38) (pc' := 42) rfl (hb hby at_38) (by decide) (by decide) kk_) ?_
      show Goes p e below _ (T9.setTop (mkF m 42 #[.val (.int p1), .val (.int p2), .val (.int v2_1), .val (.int v3_2), .val (.ref nb3)] [(.int (1 : Int32)), (.int (if v3_2 < v2_1 then (1 : Int32) else (0 : Int32)))]))
      exact J
    · skip
      rw [show jj10 = (0 : Int32) from hv_jj10.trans (if_neg hc34)] at J
      refine Goes.via (fun _ kk_ => XS.icmpYes X9.here hx rfl (pc0 := 34) (pc' := 41) rfl (hb hby at_34) rfl (flt hc34).2.1 (by decide) (by decide) kk_) ?_
      show Goes p e below _ (T9.setTop (mkF m 41 #[.val (.int p1), .val (.int p2), .val (.int v2_1), .val (.int v3_2), .val (.ref nb3)] [(.int (if v3_2 < v2_1 then (1 : Int32) else (0 : Int32)))]))
      refine Goes.via (fun _ kk_ => XS.iconst X9.here hx rfl (hb hby at_41) kk_) ?_
      show Goes p e below _ (T9.setTop (mkF m 42 #[.val (.int p1), .val (.int p2), .val (.int v2_1), .val (.int v3_2), .val (.ref nb3)] [(.int (0 : Int32)), (.int (if v3_2 < v2_1 then (1 : Int32) else (0 : Int32)))]))
      exact J
  subst hv_jj10
  show Goes p e below _ (T9.setTop (mkF m 42 #[.val (.int p1), .val (.int p2), .val (.int v2_1), .val (.int v3_2), .val (.ref nb3)] [(.int (if v3_2 < v2_1 then (1 : Int32) else (0 : Int32))), (.int (if v3_2 < v2_1 then (1 : Int32) else (0 : Int32)))]))
  have hc42_11 : (if v3_2 < v2_1 then (1 : Int32) else (0 : Int32)) = (if v3_2 < v2_1 then (1 : Int32) else (0 : Int32)) := rfl
  refine Goes.via (fun _ kk_ => XS.icmpYes X9.here hx rfl (pc0 := 42) (pc' := 47) rfl (hb hby at_42) rfl (teq hc42_11).1 (by decide) (by decide) kk_) ?_
  show Goes p e below _ (T9.setTop (mkF m 47 #[.val (.int p1), .val (.int p2), .val (.int v2_1), .val (.int v3_2), .val (.ref nb3)] []))
  refine Goes.via (fun _ kk_ => XS.iloadN X9.here hx rfl (hb hby at_47) rfl  kk_) ?_
  show Goes p e below _ (T9.setTop (mkF m 48 #[.val (.int p1), .val (.int p2), .val (.int v2_1), .val (.int v3_2), .val (.ref nb3)] [(.int v2_1)]))
  by_cases hc48 : (0 : Int32) < v2_1
  · skip
    refine Goes.via (fun _ kk_ => XS.ifNo X9.here hx rfl (hb hby at_48) rfl ((if0 _ _).trans (tlt hc48).2.2.2) kk_) ?_
    show Goes p e below _ (T9.setTop (mkF m 51 #[.val (.int p1), .val (.int p2), .val (.int v2_1), .val (.int v3_2), .val (.ref nb3)] []))
    refine Goes.via (fun _ kk_ => XS.aload X9.here hx rfl (hb hby at_51) rfl rfl  kk_) ?_
    show Goes p e below _ (T9.setTop (mkF m 53 #[.val (.int p1), .val (.int p2), .val (.int v2_1), .val (.int v3_2), .val (.ref nb3)] [(.ref nb3)]))
    refine Goes.via (fun _ kk_ => XS.iloadN X9.here hx rfl (hb hby at_53) rfl  kk_) ?_
    show Goes p e below _ (T9.setTop (mkF m 54 #[.val (.int p1), .val (.int p2), .val (.int v2_1), .val (.int v3_2), .val (.ref nb3)] [(.int v2_1), (.ref nb3)]))
    refine Goes.via (fun _ kk_ => XS.iconst X9.here hx rfl (hb hby at_54) kk_) ?_
    show Goes p e below _ (T9.setTop (mkF m 55 #[.val (.int p1), .val (.int p2), .val (.int v2_1), .val (.int v3_2), .val (.ref nb3)] [(.int (1 : Int32)), (.int v2_1), (.ref nb3)]))
    refine Goes.via (fun _ kk_ => XS.isub X9.here hx rfl (hb hby at_55) rfl kk_) ?_
    show Goes p e below _ (T9.setTop (mkF m 56 #[.val (.int p1), .val (.int p2), .val (.int v2_1), .val (.int v3_2), .val (.ref nb3)] [(.int (v2_1 - (1 : Int32))), (.ref nb3)]))
    obtain ⟨cq12, kq12, q12a, q12b, q12c⟩ := isOf hZ e9' u3_1
    obtain ⟨_, _, ⟨T12, L12, k12, n12⟩, -, X12, ⟨Lc12, hQ12, l12, y12, z12⟩, st12⟩ := X9.virtualBack hx (y := (⟨"com/example/earnest_nets/earnestnets/LossBudget", "allowsAnother", "(I)Z"⟩ : MethodName)) (z := (⟨"com/example/earnest_nets/earnestnets/LossBudget", "allowsAnother", "(I)Z"⟩ : MethodName)) hown (mvT hZ (hw _ (List.mem_of_getElem? (i := 22) rfl))) (mvT hZ (hw _ (List.mem_of_getElem? (i := 23) rfl))) (notFace_of_selects (args := #[]) (mvT hZ (hw _ (List.mem_of_getElem? (i := 25) rfl)))) (mvT hZ (hw _ (List.mem_of_getElem? (i := 25) rfl))) (mvT hZ (hw _ (List.mem_of_getElem? (i := 24) rfl))) (by decide) (backOf (W := 0) (rm5 l Z a0 hw [] nb3 (v2_1 - (1 : Int32)) v2_1 T3.heap n0 (Nat.le_trans Z0 z7) u3_2 u3_3 (own_p3 hc48)) hZ (hw _ (List.mem_of_getElem? (i := 26) rfl)) (hw _ (List.mem_of_getElem? (i := 3) rfl)) (by decide) (by decide)) q12a q12c (g := (mkF m 56 #[.val (.int p1), .val (.int p2), .val (.int v2_1), .val (.int v3_2), .val (.ref nb3)] [(.int (v2_1 - (1 : Int32))), (.ref nb3)])) rfl (by rw [hml]; rfl) (Steps.refl _) (argsL := [(.int (v2_1 - (1 : Int32)))]) (rest := []) (lenOf pd_3 rfl) rfl (by show 2 * 0 + _ ≤ _; exact Nat.le_of_eq rfl) (hb hby at_56) (fun _ _ => ⟨rfl, e9', (by first | decide | omega : 1 + 0 ≤ _), (by first | decide | omega : 2 + 0 ≤ _)⟩)
    dsimp only [Pt.U, Pt.locs, Pt.cells, Pt.slots] at X12 l12 y12 z12 st12 hQ12
    subst l12 y12 z12
    obtain ⟨rfl, N12q, e12⟩ := hQ12
    have N12 := Fr.app N9 N12q
    refine Goes.tr st12 ?_
    have e12' : T12.heap = T3.heap := e12
    show Goes p e below _ (T12.setTop (mkF m 59 #[.val (.int p1), .val (.int p2), .val (.int v2_1), .val (.int v3_2), .val (.ref nb3)] [(.int (if (v2_1 - (1 : Int32)) < v2_1 then (1 : Int32) else (0 : Int32)))]))
    have hc59_13 : ¬ ((if (v2_1 - (1 : Int32)) < v2_1 then (1 : Int32) else (0 : Int32)) = (0 : Int32)) := own_p2 hc48
    refine Goes.via (fun _ kk_ => XS.ifYes X12.here hx rfl (pc0 := 59) (pc' := 64) rfl (hb hby at_59) rfl ((if0 _ _).trans (feq hc59_13).2) (by decide) (by decide) kk_) ?_
    show Goes p e below _ (T12.setTop (mkF m 64 #[.val (.int p1), .val (.int p2), .val (.int v2_1), .val (.int v3_2), .val (.ref nb3)] []))
    refine Goes.via (fun _ kk_ => XS.aload X12.here hx rfl (hb hby at_64) rfl rfl  kk_) ?_
    show Goes p e below _ (T12.setTop (mkF m 66 #[.val (.int p1), .val (.int p2), .val (.int v2_1), .val (.int v3_2), .val (.ref nb3)] [(.ref nb3)]))
    refine Goes.via (fun _ kk_ => XS.iloadN X12.here hx rfl (hb hby at_66) rfl  kk_) ?_
    show Goes p e below _ (T12.setTop (mkF m 67 #[.val (.int p1), .val (.int p2), .val (.int v2_1), .val (.int v3_2), .val (.ref nb3)] [(.int v2_1), (.ref nb3)]))
    obtain ⟨cq14, kq14, q14a, q14b, q14c⟩ := isOf hZ e12' u3_1
    obtain ⟨_, _, ⟨T14, L14, k14, n14⟩, -, X14, ⟨Lc14, hQ14, l14, y14, z14⟩, st14⟩ := X12.virtualBack hx (y := (⟨"com/example/earnest_nets/earnestnets/LossBudget", "allowsAnother", "(I)Z"⟩ : MethodName)) (z := (⟨"com/example/earnest_nets/earnestnets/LossBudget", "allowsAnother", "(I)Z"⟩ : MethodName)) hown (mvT hZ (hw _ (List.mem_of_getElem? (i := 22) rfl))) (mvT hZ (hw _ (List.mem_of_getElem? (i := 23) rfl))) (notFace_of_selects (args := #[]) (mvT hZ (hw _ (List.mem_of_getElem? (i := 25) rfl)))) (mvT hZ (hw _ (List.mem_of_getElem? (i := 25) rfl))) (mvT hZ (hw _ (List.mem_of_getElem? (i := 24) rfl))) (by decide) (backOf (W := 0) (rm5 l Z a0 hw [] nb3 v2_1 v2_1 T3.heap n0 (Nat.le_trans Z0 z7) u3_2 u3_3 hL) hZ (hw _ (List.mem_of_getElem? (i := 26) rfl)) (hw _ (List.mem_of_getElem? (i := 3) rfl)) (by decide) (by decide)) q14a q14c (g := (mkF m 67 #[.val (.int p1), .val (.int p2), .val (.int v2_1), .val (.int v3_2), .val (.ref nb3)] [(.int v2_1), (.ref nb3)])) rfl (by rw [hml]; rfl) (Steps.refl _) (argsL := [(.int v2_1)]) (rest := []) (lenOf pd_3 rfl) rfl (by show 2 * 0 + _ ≤ _; exact Nat.le_of_eq rfl) (hb hby at_67) (fun _ _ => ⟨rfl, e12', (by first | decide | omega : 1 + 0 ≤ _), (by first | decide | omega : 2 + 0 ≤ _)⟩)
    dsimp only [Pt.U, Pt.locs, Pt.cells, Pt.slots] at X14 l14 y14 z14 st14 hQ14
    subst l14 y14 z14
    obtain ⟨rfl, N14q, e14⟩ := hQ14
    have N14 := Fr.app N12 N14q
    refine Goes.tr st14 ?_
    have e14' : T14.heap = T3.heap := e14
    show Goes p e below _ (T14.setTop (mkF m 70 #[.val (.int p1), .val (.int p2), .val (.int v2_1), .val (.int v3_2), .val (.ref nb3)] [(.int (if v2_1 < v2_1 then (1 : Int32) else (0 : Int32)))]))
    have hc70_15 : (if v2_1 < v2_1 then (1 : Int32) else (0 : Int32)) = (0 : Int32) := (if_neg (fun q => Int32.lt_irrefl q))
    refine Goes.via (fun _ kk_ => XS.ifYes X14.here hx rfl (pc0 := 70) (pc' := 75) rfl (hb hby at_70) rfl ((if0 _ _).trans (teq hc70_15).1) (by decide) (by decide) kk_) ?_
    show Goes p e below _ (T14.setTop (mkF m 75 #[.val (.int p1), .val (.int p2), .val (.int v2_1), .val (.int v3_2), .val (.ref nb3)] []))
    refine Goes.via (fun _ kk_ => XS.aload X14.here hx rfl (hb hby at_75) rfl rfl  kk_) ?_
    show Goes p e below _ (T14.setTop (mkF m 77 #[.val (.int p1), .val (.int p2), .val (.int v2_1), .val (.int v3_2), .val (.ref nb3)] [(.ref nb3)]))
    have K16 : Keep h0 T3.heap [] := ((Keep.refl h0 []).trans K3 all0)
    have f17 : Sta Z T3.heap "com/example/earnest_nets/earnestnets/LossBudget" "NONE" "Lcom/example/earnest_nets/earnestnets/LossBudget;" (.ref aN) := own_sta_keep OS1 K16
    obtain ⟨T18, X18, e18, st18⟩ := getS2 X14 hx hZ hown (host := "") (Or.inl (hw _ (List.mem_of_getElem? (i := 27) rfl))) Via.refl e14' f17 (g := (mkF m 77 #[.val (.int p1), .val (.int p2), .val (.int v2_1), .val (.int v3_2), .val (.ref nb3)] [(.ref nb3)])) rfl (hb hby at_77)
    refine Goes.via st18 ?_
    show Goes p e below _ (T18.setTop (mkF m 80 #[.val (.int p1), .val (.int p2), .val (.int v2_1), .val (.int v3_2), .val (.ref nb3)] [(.ref aN), (.ref nb3)]))
    have f19 : Exa Z T3.heap aN "com/example/earnest_nets/earnestnets/LossBudget" := OE1.keep K16
    have f20 : Fld Z T3.heap aN "com/example/earnest_nets/earnestnets/LossBudget" "unlimited" "Z" (.int (0 : Int32)) := OU1.keep K16 nin0
    have f21 : Fld Z T3.heap aN "com/example/earnest_nets/earnestnets/LossBudget" "limit" "I" (.int (0 : Int32)) := OL1.keep K16 nin0
    obtain ⟨cq22, kq22, q22a, q22b, q22c⟩ := isOf hZ e18 u3_1
    obtain ⟨_, _, ⟨T22, L22, k22, n22⟩, -, X22, ⟨Lc22, hQ22, l22, y22, z22⟩, st22⟩ := X18.virtualBack hx (y := (⟨"com/example/earnest_nets/earnestnets/LossBudget", "equals", "(Ljava/lang/Object;)Z"⟩ : MethodName)) (z := (⟨"com/example/earnest_nets/earnestnets/LossBudget", "equals", "(Ljava/lang/Object;)Z"⟩ : MethodName)) hown (mvT hZ (hw _ (List.mem_of_getElem? (i := 29) rfl))) (mvT hZ (hw _ (List.mem_of_getElem? (i := 30) rfl))) (notFace_of_selects (args := #[]) (mvT hZ (hw _ (List.mem_of_getElem? (i := 32) rfl)))) (mvT hZ (hw _ (List.mem_of_getElem? (i := 32) rfl))) (mvT hZ (hw _ (List.mem_of_getElem? (i := 31) rfl))) (by decide) (backOf (W := 0) (rm6 l Z a0 hw [] nb3 aN v2_1 (0 : Int32) T3.heap n0 (Nat.le_trans Z0 z7) f19 u3_2 u3_3 f20 f21) hZ (hw _ (List.mem_of_getElem? (i := 33) rfl)) (hw _ (List.mem_of_getElem? (i := 3) rfl)) (by decide) (by decide)) q22a q22c (g := (mkF m 80 #[.val (.int p1), .val (.int p2), .val (.int v2_1), .val (.int v3_2), .val (.ref nb3)] [(.ref aN), (.ref nb3)])) rfl (by rw [hml]; rfl) (Steps.refl _) (argsL := [(.ref aN)]) (rest := []) (lenOf pd_4 rfl) rfl (by show 2 * 0 + _ ≤ _; exact Nat.le_of_eq rfl) (hb hby at_80) (fun _ _ => ⟨rfl, e18, (by first | decide | omega : 1 + 0 ≤ _), (by first | decide | omega : 2 + 0 ≤ _)⟩)
    dsimp only [Pt.U, Pt.locs, Pt.cells, Pt.slots] at X22 l22 y22 z22 st22 hQ22
    subst l22 y22 z22
    obtain ⟨rfl, N22q, e22⟩ := hQ22
    have N22 := Fr.app N14 N22q
    refine Goes.tr st22 ?_
    have e22' : T22.heap = T3.heap := e22
    show Goes p e below _ (T22.setTop (mkF m 83 #[.val (.int p1), .val (.int p2), .val (.int v2_1), .val (.int v3_2), .val (.ref nb3)] [(.int (if v2_1 = (0 : Int32) then (1 : Int32) else (0 : Int32)))]))
    refine Goes.via (fun _ kk_ => XS.iloadN X22.here hx rfl (hb hby at_83) rfl  kk_) ?_
    show Goes p e below _ (T22.setTop (mkF m 84 #[.val (.int p1), .val (.int p2), .val (.int v2_1), .val (.int v3_2), .val (.ref nb3)] [(.int v2_1), (.int (if v2_1 = (0 : Int32) then (1 : Int32) else (0 : Int32)))]))
    obtain ⟨jj23, hv_jj23⟩ : ∃ z : Int32, z = (if v2_1 = (0 : Int32) then (1 : Int32) else (0 : Int32)) := ⟨_, rfl⟩
    suffices J : Goes p e below (Fin_ s (Qrm0 Z p1 p2 aN aA h0 n0) room_1.cells room_1.slots) (T22.setTop (mkF m 92 #[.val (.int p1), .val (.int p2), .val (.int v2_1), .val (.int v3_2), .val (.ref nb3)] [(.int jj23), (.int (if v2_1 = (0 : Int32) then (1 : Int32) else (0 : Int32)))])) by
      by_cases hc84 : v2_1 = (0 : Int32)
      · skip
        rw [show jj23 = (1 : Int32) from hv_jj23.trans (if_pos hc84)] at J
        refine Goes.via (fun _ kk_ => XS.ifNo X22.here hx rfl (hb hby at_84) rfl ((if0 _ _).trans (teq hc84).2) kk_) ?_
        show Goes p e below _ (T22.setTop (mkF m 87 #[.val (.int p1), .val (.int p2), .val (.int v2_1), .val (.int v3_2), .val (.ref nb3)] [(.int (if v2_1 = (0 : Int32) then (1 : Int32) else (0 : Int32)))]))
        refine Goes.via (fun _ kk_ => XS.iconst X22.here hx rfl (hb hby at_87) kk_) ?_
        show Goes p e below _ (T22.setTop (mkF m 88 #[.val (.int p1), .val (.int p2), .val (.int v2_1), .val (.int v3_2), .val (.ref nb3)] [(.int (1 : Int32)), (.int (if v2_1 = (0 : Int32) then (1 : Int32) else (0 : Int32)))]))
        refine Goes.via (fun _ kk_ => XS.goto X22.here hx rfl (pc0 := 88) (pc' := 92) rfl (hb hby at_88) (by decide) (by decide) kk_) ?_
        show Goes p e below _ (T22.setTop (mkF m 92 #[.val (.int p1), .val (.int p2), .val (.int v2_1), .val (.int v3_2), .val (.ref nb3)] [(.int (1 : Int32)), (.int (if v2_1 = (0 : Int32) then (1 : Int32) else (0 : Int32)))]))
        exact J
      · skip
        rw [show jj23 = (0 : Int32) from hv_jj23.trans (if_neg hc84)] at J
        refine Goes.via (fun _ kk_ => XS.ifYes X22.here hx rfl (pc0 := 84) (pc' := 91) rfl (hb hby at_84) rfl ((if0 _ _).trans (feq hc84).2) (by decide) (by decide) kk_) ?_
        show Goes p e below _ (T22.setTop (mkF m 91 #[.val (.int p1), .val (.int p2), .val (.int v2_1), .val (.int v3_2), .val (.ref nb3)] [(.int (if v2_1 = (0 : Int32) then (1 : Int32) else (0 : Int32)))]))
        refine Goes.via (fun _ kk_ => XS.iconst X22.here hx rfl (hb hby at_91) kk_) ?_
        show Goes p e below _ (T22.setTop (mkF m 92 #[.val (.int p1), .val (.int p2), .val (.int v2_1), .val (.int v3_2), .val (.ref nb3)] [(.int (0 : Int32)), (.int (if v2_1 = (0 : Int32) then (1 : Int32) else (0 : Int32)))]))
        exact J
    subst hv_jj23
    show Goes p e below _ (T22.setTop (mkF m 92 #[.val (.int p1), .val (.int p2), .val (.int v2_1), .val (.int v3_2), .val (.ref nb3)] [(.int (if v2_1 = (0 : Int32) then (1 : Int32) else (0 : Int32))), (.int (if v2_1 = (0 : Int32) then (1 : Int32) else (0 : Int32)))]))
    have hc92_24 : (if v2_1 = (0 : Int32) then (1 : Int32) else (0 : Int32)) = (if v2_1 = (0 : Int32) then (1 : Int32) else (0 : Int32)) := rfl
    refine Goes.via (fun _ kk_ => XS.icmpYes X22.here hx rfl (pc0 := 92) (pc' := 97) rfl (hb hby at_92) rfl (teq hc92_24).1 (by decide) (by decide) kk_) ?_
    show Goes p e below _ (T22.setTop (mkF m 97 #[.val (.int p1), .val (.int p2), .val (.int v2_1), .val (.int v3_2), .val (.ref nb3)] []))
    refine Goes.via (fun _ kk_ => XS.aload X22.here hx rfl (hb hby at_97) rfl rfl  kk_) ?_
    show Goes p e below _ (T22.setTop (mkF m 99 #[.val (.int p1), .val (.int p2), .val (.int v2_1), .val (.int v3_2), .val (.ref nb3)] [(.ref nb3)]))
    have f25 : Sta Z T3.heap "com/example/earnest_nets/earnestnets/LossBudget" "ANY" "Lcom/example/earnest_nets/earnestnets/LossBudget;" (.ref aA) := own_sta_keep OS2 K16
    obtain ⟨T26, X26, e26, st26⟩ := getS2 X22 hx hZ hown (host := "") (Or.inl (hw _ (List.mem_of_getElem? (i := 35) rfl))) Via.refl e22' f25 (g := (mkF m 99 #[.val (.int p1), .val (.int p2), .val (.int v2_1), .val (.int v3_2), .val (.ref nb3)] [(.ref nb3)])) rfl (hb hby at_99)
    refine Goes.via st26 ?_
    show Goes p e below _ (T26.setTop (mkF m 102 #[.val (.int p1), .val (.int p2), .val (.int v2_1), .val (.int v3_2), .val (.ref nb3)] [(.ref aA), (.ref nb3)]))
    have f27 : Exa Z T3.heap aA "com/example/earnest_nets/earnestnets/LossBudget" := OE2.keep K16
    have f28 : Fld Z T3.heap aA "com/example/earnest_nets/earnestnets/LossBudget" "unlimited" "Z" (.int (1 : Int32)) := OU2.keep K16 nin0
    obtain ⟨cq29, kq29, q29a, q29b, q29c⟩ := isOf hZ e26 u3_1
    obtain ⟨_, _, ⟨T29, L29, k29, n29⟩, -, X29, ⟨Lc29, hQ29, l29, y29, z29⟩, st29⟩ := X26.virtualBack hx (y := (⟨"com/example/earnest_nets/earnestnets/LossBudget", "equals", "(Ljava/lang/Object;)Z"⟩ : MethodName)) (z := (⟨"com/example/earnest_nets/earnestnets/LossBudget", "equals", "(Ljava/lang/Object;)Z"⟩ : MethodName)) hown (mvT hZ (hw _ (List.mem_of_getElem? (i := 29) rfl))) (mvT hZ (hw _ (List.mem_of_getElem? (i := 30) rfl))) (notFace_of_selects (args := #[]) (mvT hZ (hw _ (List.mem_of_getElem? (i := 32) rfl)))) (mvT hZ (hw _ (List.mem_of_getElem? (i := 32) rfl))) (mvT hZ (hw _ (List.mem_of_getElem? (i := 31) rfl))) (by decide) (backOf (W := 0) (rm6b l Z a0 hw [] nb3 aA T3.heap n0 (Nat.le_trans Z0 z7) f27 u3_2 f28) hZ (hw _ (List.mem_of_getElem? (i := 33) rfl)) (hw _ (List.mem_of_getElem? (i := 3) rfl)) (by decide) (by decide)) q29a q29c (g := (mkF m 102 #[.val (.int p1), .val (.int p2), .val (.int v2_1), .val (.int v3_2), .val (.ref nb3)] [(.ref aA), (.ref nb3)])) rfl (by rw [hml]; rfl) (Steps.refl _) (argsL := [(.ref aA)]) (rest := []) (lenOf pd_4 rfl) rfl (by show 2 * 0 + _ ≤ _; exact Nat.le_of_eq rfl) (hb hby at_102) (fun _ _ => ⟨rfl, e26, (by first | decide | omega : 1 + 0 ≤ _), (by first | decide | omega : 2 + 0 ≤ _)⟩)
    dsimp only [Pt.U, Pt.locs, Pt.cells, Pt.slots] at X29 l29 y29 z29 st29 hQ29
    subst l29 y29 z29
    obtain ⟨rfl, N29q, e29⟩ := hQ29
    have N29 := Fr.app N22 N29q
    refine Goes.tr st29 ?_
    have e29' : T29.heap = T3.heap := e29
    show Goes p e below _ (T29.setTop (mkF m 105 #[.val (.int p1), .val (.int p2), .val (.int v2_1), .val (.int v3_2), .val (.ref nb3)] [(.int (0 : Int32))]))
    have hc105_30 : (0 : Int32) = (0 : Int32) := (by decide)
    refine Goes.via (fun _ kk_ => XS.ifYes X29.here hx rfl (pc0 := 105) (pc' := 110) rfl (hb hby at_105) rfl ((if0 _ _).trans (teq hc105_30).1) (by decide) (by decide) kk_) ?_
    show Goes p e below _ (T29.setTop (mkF m 110 #[.val (.int p1), .val (.int p2), .val (.int v2_1), .val (.int v3_2), .val (.ref nb3)] []))
    refine Goes.via (fun _ kk_ => XS.iconst X29.here hx rfl (hb hby at_110) kk_) ?_
    show Goes p e below _ (T29.setTop (mkF m 111 #[.val (.int p1), .val (.int p2), .val (.int v2_1), .val (.int v3_2), .val (.ref nb3)] [(.int (1 : Int32))]))
    exact own_finN X29 hx hlk hret (by simp) (hb hby at_111) (by rw [e29']; exact ⟨rfl, N29, K16⟩) (by first | decide | omega) (by first | decide | omega)
  · skip
    refine Goes.via (fun _ kk_ => XS.ifYes X9.here hx rfl (pc0 := 48) (pc' := 64) rfl (hb hby at_48) rfl ((if0 _ _).trans (flt hc48).2.2.2) (by decide) (by decide) kk_) ?_
    show Goes p e below _ (T9.setTop (mkF m 64 #[.val (.int p1), .val (.int p2), .val (.int v2_1), .val (.int v3_2), .val (.ref nb3)] []))
    refine Goes.via (fun _ kk_ => XS.aload X9.here hx rfl (hb hby at_64) rfl rfl  kk_) ?_
    show Goes p e below _ (T9.setTop (mkF m 66 #[.val (.int p1), .val (.int p2), .val (.int v2_1), .val (.int v3_2), .val (.ref nb3)] [(.ref nb3)]))
    refine Goes.via (fun _ kk_ => XS.iloadN X9.here hx rfl (hb hby at_66) rfl  kk_) ?_
    show Goes p e below _ (T9.setTop (mkF m 67 #[.val (.int p1), .val (.int p2), .val (.int v2_1), .val (.int v3_2), .val (.ref nb3)] [(.int v2_1), (.ref nb3)]))
    obtain ⟨cq31, kq31, q31a, q31b, q31c⟩ := isOf hZ e9' u3_1
    obtain ⟨_, _, ⟨T31, L31, k31, n31⟩, -, X31, ⟨Lc31, hQ31, l31, y31, z31⟩, st31⟩ := X9.virtualBack hx (y := (⟨"com/example/earnest_nets/earnestnets/LossBudget", "allowsAnother", "(I)Z"⟩ : MethodName)) (z := (⟨"com/example/earnest_nets/earnestnets/LossBudget", "allowsAnother", "(I)Z"⟩ : MethodName)) hown (mvT hZ (hw _ (List.mem_of_getElem? (i := 22) rfl))) (mvT hZ (hw _ (List.mem_of_getElem? (i := 23) rfl))) (notFace_of_selects (args := #[]) (mvT hZ (hw _ (List.mem_of_getElem? (i := 25) rfl)))) (mvT hZ (hw _ (List.mem_of_getElem? (i := 25) rfl))) (mvT hZ (hw _ (List.mem_of_getElem? (i := 24) rfl))) (by decide) (backOf (W := 0) (rm5 l Z a0 hw [] nb3 v2_1 v2_1 T3.heap n0 (Nat.le_trans Z0 z7) u3_2 u3_3 hL) hZ (hw _ (List.mem_of_getElem? (i := 26) rfl)) (hw _ (List.mem_of_getElem? (i := 3) rfl)) (by decide) (by decide)) q31a q31c (g := (mkF m 67 #[.val (.int p1), .val (.int p2), .val (.int v2_1), .val (.int v3_2), .val (.ref nb3)] [(.int v2_1), (.ref nb3)])) rfl (by rw [hml]; rfl) (Steps.refl _) (argsL := [(.int v2_1)]) (rest := []) (lenOf pd_3 rfl) rfl (by show 2 * 0 + _ ≤ _; exact Nat.le_of_eq rfl) (hb hby at_67) (fun _ _ => ⟨rfl, e9', (by first | decide | omega : 1 + 0 ≤ _), (by first | decide | omega : 2 + 0 ≤ _)⟩)
    dsimp only [Pt.U, Pt.locs, Pt.cells, Pt.slots] at X31 l31 y31 z31 st31 hQ31
    subst l31 y31 z31
    obtain ⟨rfl, N31q, e31⟩ := hQ31
    have N31 := Fr.app N9 N31q
    refine Goes.tr st31 ?_
    have e31' : T31.heap = T3.heap := e31
    show Goes p e below _ (T31.setTop (mkF m 70 #[.val (.int p1), .val (.int p2), .val (.int v2_1), .val (.int v3_2), .val (.ref nb3)] [(.int (if v2_1 < v2_1 then (1 : Int32) else (0 : Int32)))]))
    have hc70_32 : (if v2_1 < v2_1 then (1 : Int32) else (0 : Int32)) = (0 : Int32) := (if_neg (fun q => Int32.lt_irrefl q))
    refine Goes.via (fun _ kk_ => XS.ifYes X31.here hx rfl (pc0 := 70) (pc' := 75) rfl (hb hby at_70) rfl ((if0 _ _).trans (teq hc70_32).1) (by decide) (by decide) kk_) ?_
    show Goes p e below _ (T31.setTop (mkF m 75 #[.val (.int p1), .val (.int p2), .val (.int v2_1), .val (.int v3_2), .val (.ref nb3)] []))
    refine Goes.via (fun _ kk_ => XS.aload X31.here hx rfl (hb hby at_75) rfl rfl  kk_) ?_
    show Goes p e below _ (T31.setTop (mkF m 77 #[.val (.int p1), .val (.int p2), .val (.int v2_1), .val (.int v3_2), .val (.ref nb3)] [(.ref nb3)]))
    have K33 : Keep h0 T3.heap [] := ((Keep.refl h0 []).trans K3 all0)
    have f34 : Sta Z T3.heap "com/example/earnest_nets/earnestnets/LossBudget" "NONE" "Lcom/example/earnest_nets/earnestnets/LossBudget;" (.ref aN) := own_sta_keep OS1 K33
    obtain ⟨T35, X35, e35, st35⟩ := getS2 X31 hx hZ hown (host := "") (Or.inl (hw _ (List.mem_of_getElem? (i := 27) rfl))) Via.refl e31' f34 (g := (mkF m 77 #[.val (.int p1), .val (.int p2), .val (.int v2_1), .val (.int v3_2), .val (.ref nb3)] [(.ref nb3)])) rfl (hb hby at_77)
    refine Goes.via st35 ?_
    show Goes p e below _ (T35.setTop (mkF m 80 #[.val (.int p1), .val (.int p2), .val (.int v2_1), .val (.int v3_2), .val (.ref nb3)] [(.ref aN), (.ref nb3)]))
    have f36 : Exa Z T3.heap aN "com/example/earnest_nets/earnestnets/LossBudget" := OE1.keep K33
    have f37 : Fld Z T3.heap aN "com/example/earnest_nets/earnestnets/LossBudget" "unlimited" "Z" (.int (0 : Int32)) := OU1.keep K33 nin0
    have f38 : Fld Z T3.heap aN "com/example/earnest_nets/earnestnets/LossBudget" "limit" "I" (.int (0 : Int32)) := OL1.keep K33 nin0
    obtain ⟨cq39, kq39, q39a, q39b, q39c⟩ := isOf hZ e35 u3_1
    obtain ⟨_, _, ⟨T39, L39, k39, n39⟩, -, X39, ⟨Lc39, hQ39, l39, y39, z39⟩, st39⟩ := X35.virtualBack hx (y := (⟨"com/example/earnest_nets/earnestnets/LossBudget", "equals", "(Ljava/lang/Object;)Z"⟩ : MethodName)) (z := (⟨"com/example/earnest_nets/earnestnets/LossBudget", "equals", "(Ljava/lang/Object;)Z"⟩ : MethodName)) hown (mvT hZ (hw _ (List.mem_of_getElem? (i := 29) rfl))) (mvT hZ (hw _ (List.mem_of_getElem? (i := 30) rfl))) (notFace_of_selects (args := #[]) (mvT hZ (hw _ (List.mem_of_getElem? (i := 32) rfl)))) (mvT hZ (hw _ (List.mem_of_getElem? (i := 32) rfl))) (mvT hZ (hw _ (List.mem_of_getElem? (i := 31) rfl))) (by decide) (backOf (W := 0) (rm6 l Z a0 hw [] nb3 aN v2_1 (0 : Int32) T3.heap n0 (Nat.le_trans Z0 z7) f36 u3_2 u3_3 f37 f38) hZ (hw _ (List.mem_of_getElem? (i := 33) rfl)) (hw _ (List.mem_of_getElem? (i := 3) rfl)) (by decide) (by decide)) q39a q39c (g := (mkF m 80 #[.val (.int p1), .val (.int p2), .val (.int v2_1), .val (.int v3_2), .val (.ref nb3)] [(.ref aN), (.ref nb3)])) rfl (by rw [hml]; rfl) (Steps.refl _) (argsL := [(.ref aN)]) (rest := []) (lenOf pd_4 rfl) rfl (by show 2 * 0 + _ ≤ _; exact Nat.le_of_eq rfl) (hb hby at_80) (fun _ _ => ⟨rfl, e35, (by first | decide | omega : 1 + 0 ≤ _), (by first | decide | omega : 2 + 0 ≤ _)⟩)
    dsimp only [Pt.U, Pt.locs, Pt.cells, Pt.slots] at X39 l39 y39 z39 st39 hQ39
    subst l39 y39 z39
    obtain ⟨rfl, N39q, e39⟩ := hQ39
    have N39 := Fr.app N31 N39q
    refine Goes.tr st39 ?_
    have e39' : T39.heap = T3.heap := e39
    show Goes p e below _ (T39.setTop (mkF m 83 #[.val (.int p1), .val (.int p2), .val (.int v2_1), .val (.int v3_2), .val (.ref nb3)] [(.int (if v2_1 = (0 : Int32) then (1 : Int32) else (0 : Int32)))]))
    refine Goes.via (fun _ kk_ => XS.iloadN X39.here hx rfl (hb hby at_83) rfl  kk_) ?_
    show Goes p e below _ (T39.setTop (mkF m 84 #[.val (.int p1), .val (.int p2), .val (.int v2_1), .val (.int v3_2), .val (.ref nb3)] [(.int v2_1), (.int (if v2_1 = (0 : Int32) then (1 : Int32) else (0 : Int32)))]))
    obtain ⟨jj40, hv_jj40⟩ : ∃ z : Int32, z = (if v2_1 = (0 : Int32) then (1 : Int32) else (0 : Int32)) := ⟨_, rfl⟩
    suffices J : Goes p e below (Fin_ s (Qrm0 Z p1 p2 aN aA h0 n0) room_1.cells room_1.slots) (T39.setTop (mkF m 92 #[.val (.int p1), .val (.int p2), .val (.int v2_1), .val (.int v3_2), .val (.ref nb3)] [(.int jj40), (.int (if v2_1 = (0 : Int32) then (1 : Int32) else (0 : Int32)))])) by
      by_cases hc84 : v2_1 = (0 : Int32)
      · skip
        rw [show jj40 = (1 : Int32) from hv_jj40.trans (if_pos hc84)] at J
        refine Goes.via (fun _ kk_ => XS.ifNo X39.here hx rfl (hb hby at_84) rfl ((if0 _ _).trans (teq hc84).2) kk_) ?_
        show Goes p e below _ (T39.setTop (mkF m 87 #[.val (.int p1), .val (.int p2), .val (.int v2_1), .val (.int v3_2), .val (.ref nb3)] [(.int (if v2_1 = (0 : Int32) then (1 : Int32) else (0 : Int32)))]))
        refine Goes.via (fun _ kk_ => XS.iconst X39.here hx rfl (hb hby at_87) kk_) ?_
        show Goes p e below _ (T39.setTop (mkF m 88 #[.val (.int p1), .val (.int p2), .val (.int v2_1), .val (.int v3_2), .val (.ref nb3)] [(.int (1 : Int32)), (.int (if v2_1 = (0 : Int32) then (1 : Int32) else (0 : Int32)))]))
        refine Goes.via (fun _ kk_ => XS.goto X39.here hx rfl (pc0 := 88) (pc' := 92) rfl (hb hby at_88) (by decide) (by decide) kk_) ?_
        show Goes p e below _ (T39.setTop (mkF m 92 #[.val (.int p1), .val (.int p2), .val (.int v2_1), .val (.int v3_2), .val (.ref nb3)] [(.int (1 : Int32)), (.int (if v2_1 = (0 : Int32) then (1 : Int32) else (0 : Int32)))]))
        exact J
      · skip
        rw [show jj40 = (0 : Int32) from hv_jj40.trans (if_neg hc84)] at J
        refine Goes.via (fun _ kk_ => XS.ifYes X39.here hx rfl (pc0 := 84) (pc' := 91) rfl (hb hby at_84) rfl ((if0 _ _).trans (feq hc84).2) (by decide) (by decide) kk_) ?_
        show Goes p e below _ (T39.setTop (mkF m 91 #[.val (.int p1), .val (.int p2), .val (.int v2_1), .val (.int v3_2), .val (.ref nb3)] [(.int (if v2_1 = (0 : Int32) then (1 : Int32) else (0 : Int32)))]))
        refine Goes.via (fun _ kk_ => XS.iconst X39.here hx rfl (hb hby at_91) kk_) ?_
        show Goes p e below _ (T39.setTop (mkF m 92 #[.val (.int p1), .val (.int p2), .val (.int v2_1), .val (.int v3_2), .val (.ref nb3)] [(.int (0 : Int32)), (.int (if v2_1 = (0 : Int32) then (1 : Int32) else (0 : Int32)))]))
        exact J
    subst hv_jj40
    show Goes p e below _ (T39.setTop (mkF m 92 #[.val (.int p1), .val (.int p2), .val (.int v2_1), .val (.int v3_2), .val (.ref nb3)] [(.int (if v2_1 = (0 : Int32) then (1 : Int32) else (0 : Int32))), (.int (if v2_1 = (0 : Int32) then (1 : Int32) else (0 : Int32)))]))
    have hc92_41 : (if v2_1 = (0 : Int32) then (1 : Int32) else (0 : Int32)) = (if v2_1 = (0 : Int32) then (1 : Int32) else (0 : Int32)) := rfl
    refine Goes.via (fun _ kk_ => XS.icmpYes X39.here hx rfl (pc0 := 92) (pc' := 97) rfl (hb hby at_92) rfl (teq hc92_41).1 (by decide) (by decide) kk_) ?_
    show Goes p e below _ (T39.setTop (mkF m 97 #[.val (.int p1), .val (.int p2), .val (.int v2_1), .val (.int v3_2), .val (.ref nb3)] []))
    refine Goes.via (fun _ kk_ => XS.aload X39.here hx rfl (hb hby at_97) rfl rfl  kk_) ?_
    show Goes p e below _ (T39.setTop (mkF m 99 #[.val (.int p1), .val (.int p2), .val (.int v2_1), .val (.int v3_2), .val (.ref nb3)] [(.ref nb3)]))
    have f42 : Sta Z T3.heap "com/example/earnest_nets/earnestnets/LossBudget" "ANY" "Lcom/example/earnest_nets/earnestnets/LossBudget;" (.ref aA) := own_sta_keep OS2 K33
    obtain ⟨T43, X43, e43, st43⟩ := getS2 X39 hx hZ hown (host := "") (Or.inl (hw _ (List.mem_of_getElem? (i := 35) rfl))) Via.refl e39' f42 (g := (mkF m 99 #[.val (.int p1), .val (.int p2), .val (.int v2_1), .val (.int v3_2), .val (.ref nb3)] [(.ref nb3)])) rfl (hb hby at_99)
    refine Goes.via st43 ?_
    show Goes p e below _ (T43.setTop (mkF m 102 #[.val (.int p1), .val (.int p2), .val (.int v2_1), .val (.int v3_2), .val (.ref nb3)] [(.ref aA), (.ref nb3)]))
    have f44 : Exa Z T3.heap aA "com/example/earnest_nets/earnestnets/LossBudget" := OE2.keep K33
    have f45 : Fld Z T3.heap aA "com/example/earnest_nets/earnestnets/LossBudget" "unlimited" "Z" (.int (1 : Int32)) := OU2.keep K33 nin0
    obtain ⟨cq46, kq46, q46a, q46b, q46c⟩ := isOf hZ e43 u3_1
    obtain ⟨_, _, ⟨T46, L46, k46, n46⟩, -, X46, ⟨Lc46, hQ46, l46, y46, z46⟩, st46⟩ := X43.virtualBack hx (y := (⟨"com/example/earnest_nets/earnestnets/LossBudget", "equals", "(Ljava/lang/Object;)Z"⟩ : MethodName)) (z := (⟨"com/example/earnest_nets/earnestnets/LossBudget", "equals", "(Ljava/lang/Object;)Z"⟩ : MethodName)) hown (mvT hZ (hw _ (List.mem_of_getElem? (i := 29) rfl))) (mvT hZ (hw _ (List.mem_of_getElem? (i := 30) rfl))) (notFace_of_selects (args := #[]) (mvT hZ (hw _ (List.mem_of_getElem? (i := 32) rfl)))) (mvT hZ (hw _ (List.mem_of_getElem? (i := 32) rfl))) (mvT hZ (hw _ (List.mem_of_getElem? (i := 31) rfl))) (by decide) (backOf (W := 0) (rm6b l Z a0 hw [] nb3 aA T3.heap n0 (Nat.le_trans Z0 z7) f44 u3_2 f45) hZ (hw _ (List.mem_of_getElem? (i := 33) rfl)) (hw _ (List.mem_of_getElem? (i := 3) rfl)) (by decide) (by decide)) q46a q46c (g := (mkF m 102 #[.val (.int p1), .val (.int p2), .val (.int v2_1), .val (.int v3_2), .val (.ref nb3)] [(.ref aA), (.ref nb3)])) rfl (by rw [hml]; rfl) (Steps.refl _) (argsL := [(.ref aA)]) (rest := []) (lenOf pd_4 rfl) rfl (by show 2 * 0 + _ ≤ _; exact Nat.le_of_eq rfl) (hb hby at_102) (fun _ _ => ⟨rfl, e43, (by first | decide | omega : 1 + 0 ≤ _), (by first | decide | omega : 2 + 0 ≤ _)⟩)
    dsimp only [Pt.U, Pt.locs, Pt.cells, Pt.slots] at X46 l46 y46 z46 st46 hQ46
    subst l46 y46 z46
    obtain ⟨rfl, N46q, e46⟩ := hQ46
    have N46 := Fr.app N39 N46q
    refine Goes.tr st46 ?_
    have e46' : T46.heap = T3.heap := e46
    show Goes p e below _ (T46.setTop (mkF m 105 #[.val (.int p1), .val (.int p2), .val (.int v2_1), .val (.int v3_2), .val (.ref nb3)] [(.int (0 : Int32))]))
    have hc105_47 : (0 : Int32) = (0 : Int32) := (by decide)
    refine Goes.via (fun _ kk_ => XS.ifYes X46.here hx rfl (pc0 := 105) (pc' := 110) rfl (hb hby at_105) rfl ((if0 _ _).trans (teq hc105_47).1) (by decide) (by decide) kk_) ?_
    show Goes p e below _ (T46.setTop (mkF m 110 #[.val (.int p1), .val (.int p2), .val (.int v2_1), .val (.int v3_2), .val (.ref nb3)] []))
    refine Goes.via (fun _ kk_ => XS.iconst X46.here hx rfl (hb hby at_110) kk_) ?_
    show Goes p e below _ (T46.setTop (mkF m 111 #[.val (.int p1), .val (.int p2), .val (.int v2_1), .val (.int v3_2), .val (.ref nb3)] [(.int (1 : Int32))]))
    exact own_finN X46 hx hlk hret (by simp) (hb hby at_111) (by rw [e46']; exact ⟨rfl, N46, K33⟩) (by first | decide | omega) (by first | decide | omega)
set_option maxRecDepth 65536 in
set_option maxHeartbeats 40000000 in
theorem comes_1 {Post : Tables → Env → Array Value → State → Outcome → State → Prop} (hpost : ∀ tb e args s v u, (limb_1_1.after args s (.returned v) u = true ∧ limb_1_2.after args s (.returned v) u = true ∧ True) → FrameEnd s (.returned v) u (Jvm.fieldLocs frame_1_writes args s ++ Jvm.arrayLocs frame_1_arrays args s ++ Jvm.staticLocs frame_1_statics s) 16 128 → Post tb e args s (.returned v) u) :
    ArmFor flags0 classFile x code maxLocals ret World_1 tables_1 room_1 Calls_1 rest_1 Pre_1 Post := by
  intro l hfl _ _ p e ha hc hk s m args below hf hA hF happ hP
  obtain ⟨hcalls, hrest, hpre⟩ := hP
  obtain ⟨-, -, -, hnamed, -, -, -, hat⟩ := (Spec.applies_iff hf).mp happ
  obtain ⟨hg, hn⟩ := and_e (Cond.before_iff.mp (show (Jvm.Cond.and given_1 narrow_1).before args s = true from hpre))
  obtain ⟨gg1, gg2⟩ := and_e hg
  obtain ⟨gg3, gg4⟩ := and_e gg2
  obtain ⟨w0, w1, rfl⟩ : ∃ w0 w1 : Value, args = #[w0, w1] := by
    have hs : args.size = 2 := by simpa [Cond.value, given_1] using gg1
    obtain ⟨L⟩ := args
    match L, hs with
    | [w0, w1], _ => exact ⟨w0, w1, rfl⟩
  have hw := fun d (hd : d ∈ tables_1) => atoms_spec (ws := Jvm.Cond.code x code maxLocals ret :: tables_1) hat d (List.mem_cons_of_mem _ hd)
  have hfit : Fit s := fun {y c} hc i hi => by
    obtain ⟨ha, rfl⟩ := Array.getElem?_eq_some_iff.mp hc
    have q := List.all_eq_true.mp ((Array.all_eq_true_iff_forall_mem.mp hF) _ (Array.getElem_mem ha)) i (List.mem_range.mpr hi)
    simpa [Array.getElem?_eq_getElem hi] using q
  obtain ⟨i0, ei0⟩ := is_v gg3
  obtain rfl : w0 = (.int i0) := Option.some.inj ei0
  obtain ⟨i1, ei1⟩ := is_v gg4
  obtain rfl : w1 = (.int i1) := Option.some.inj ei1
  obtain ⟨n1, n2⟩ := and_e hn
  obtain ⟨n2, n3⟩ := and_e n2
  obtain ⟨n3, n4⟩ := and_e n3
  obtain ⟨n4, n5⟩ := and_e n4
  obtain ⟨aN, v1⟩ := exa_v n1
  obtain ⟨aA, v2⟩ := exa_v n4
  have OE1 := Exa.start v1 n1
  have OE2 := Exa.start v2 n4
  have OS1 := Sta.start v1 (Or.inr ⟨(hw _ (List.mem_of_getElem? (i := 3) rfl)), (hw _ (List.mem_of_getElem? (i := 28) rfl))⟩)
  have OS2 := Sta.start v2 (Or.inr ⟨(hw _ (List.mem_of_getElem? (i := 3) rfl)), (hw _ (List.mem_of_getElem? (i := 36) rfl))⟩)
  have OU1 := own_fld v1 n2
  have OL1 := own_fld v1 n3
  have OU2 := own_fld v2 n5
  obtain ⟨n, o, h1, h2, h3, _, L, rfl, ⟨rfl, N, -⟩, hq⟩ := rm0 l s _ hw tables_1 i0 i1 aN aA s.heap s.heap.size (Nat.le_refl _) OE1 OU1 OL1 OE2 OU2 OS1 OS2 p e ha hc hk s m _ below hf ((Spec.applies_iff_loose hf).mp happ).1 ⟨rfl, State.Warmed39.refl s, rfl⟩ trivial
  refine ⟨n, _, h1, h2, h3, hpost _ _ _ _ _ _ ⟨Cond.after_iff.mpr rfl, Cond.after_iff.mpr (eq_i res_at (Term.int_eval (1)) rfl), trivial⟩ ⟨hq.1, hq.2.1, (hq.2.2.sift fun y hy => Or.inr (N y hy)).mono (by decide) (by decide)⟩⟩
theorem main_1_1 : Claimed_1_1 := comes_1 fun _ _ _ _ _ _ h hF => ⟨h.1, hF⟩
theorem main_1_2 : Claimed_1_2 := comes_1 fun _ _ _ _ _ _ h hF => ⟨h.2.1, hF⟩
end Jvm.Pilot.@@N@@
namespace Jvm.Pilot.@@N@@
open Jvm Jvm.ClassFile Sem Op Lib Jvm.Free Jvm.Stand Jvm.Pilot.@@N@@.Jvm.D
/-! MADE BY PROGRAM (witnessworld.py) out of the Statement's table words and the real class files: 9 classes; the members and pool entries that the words name. The judged class is class 1, her method 1. -/
namespace start1
open Jvm.ClassFile
def u (s : String) : CpInfo := .utf8 (stringToUtf16 s)
/-- a pool by its gaps: so many unusable entries, then the entry; so many at the end -/
def gap : Nat → List CpInfo → List CpInfo
  | 0, r => r
  | n + 1, r => .unusable :: gap n r
def poolList (es : List (Nat × CpInfo)) (last : Nat) : List CpInfo := es.foldr (fun e r => gap e.1 (e.2 :: r)) (gap last [])
def pool (es : List (Nat × CpInfo)) (last : Nat) : Array CpInfo := ⟨poolList es last⟩
def fileOf (pool : Array CpInfo) (this : Nat) (attrs : Array Attribute := #[]) (ms : Array MethodInfo := #[]) (fl : Nat := 33) (sup : Nat := 0) (ifs : Array Nat := #[]) (fds : Array FieldInfo := #[]) : ClassFile where
  minorVersion := 0
  majorVersion := 65
  constantPool := pool
  accessFlags := fl
  thisClass := this
  superClass := sup
  interfaces := ifs
  fields := fds
  methods := ms
  attributes := attrs
def plain (name : String) (sup : Option ClassId) : Class where
  name := name
  kind := .ordinary
  loader := none
  accessFlags := 33
  super := sup
  interfaces := #[]
  cf := none
  fields := #[]
  methods := #[]
  instanceTypes := #[]
  staticTypes := #[]
  resolved := #[]
  callSites := []
  init := .initialized
  statics := none
  mirror := none

def pool0 : Array CpInfo := pool [(5, u "<init>"), (0, u "()V"), (1, .class_ 10), (1, u "java/lang/Object")] 113

def k0c0 : Code := { maxStack := 0, maxLocals := 1, code := object_method_1_code, exceptionTable := #[], attributes := #[] }
def k0m0 : Method := { name := "<init>", desc := "()V", sig := { parameters := [], returnType := none }, accessFlags := 1, code := some k0c0 }
/-- java/lang/Object -/
def k0 : Class := { plain "java/lang/Object" none with
  accessFlags := 33
  interfaces := #[]
  cf := some (fileOf pool0 8 #[] #[{ accessFlags := 1, nameIndex := 5, descriptorIndex := 6, attributes := #[] }] 33 0 #[] #[])
  fields := #[]
  methods := #[k0m0]
  instanceTypes := #[]
  staticTypes := #[]
  resolved := Array.replicate 124 none
  statics := none }

def pool1 : Array CpInfo := pool [(2, .class_ 4), (1, u "java/lang/Object"), (0, u "<init>"), (0, u "()V"), (0, .integer 2147483647), (0, .methodref 9 10), (0, .class_ 11), (0, .nameAndType 12 13), (0, u "com/example/earnest_nets/earnestnets/LossBudget"), (0, u "atMost"), (0, u "(I)Lcom/example/earnest_nets/earnestnets/LossBudget;"), (0, .methodref 9 15), (0, .nameAndType 16 17), (0, u "isUnlimited"), (0, u "()Z"), (0, .methodref 9 19), (0, .nameAndType 20 21), (0, u "allowsAnother"), (0, u "(I)Z"), (0, .fieldref 9 23), (0, .nameAndType 24 25), (0, u "NONE"), (0, u "Lcom/example/earnest_nets/earnestnets/LossBudget;"), (0, .methodref 9 27), (0, .nameAndType 28 29), (0, u "equals"), (0, u "(Ljava/lang/Object;)Z"), (0, .fieldref 9 31), (0, .nameAndType 32 25), (0, u "ANY"), (0, .class_ 34), (0, u "com/example/earnest_nets/earnestnets/LossBudgetAtMostPinLaw"), (2, u "law"), (0, u "(II)Z")] 3

def k1m0 : Method := { name := "<init>", desc := "()V", sig := { parameters := [], returnType := none }, accessFlags := 2, code := none }
def k1c1 : Code := { maxStack := 3, maxLocals := 5, code := code, exceptionTable := #[], attributes := #[] }
def k1m1 : Method := { name := "law", desc := "(II)Z", sig := { parameters := [.int, .int], returnType := some .boolean }, accessFlags := 9, code := some k1c1 }
/-- com/example/earnest_nets/earnestnets/LossBudgetAtMostPinLaw -/
def k1 : Class := { plain "com/example/earnest_nets/earnestnets/LossBudgetAtMostPinLaw" (some 0) with
  accessFlags := 49
  interfaces := #[]
  cf := some (fileOf pool1 33 #[] #[{ accessFlags := 2, nameIndex := 5, descriptorIndex := 6, attributes := #[] }, { accessFlags := 9, nameIndex := 37, descriptorIndex := 38, attributes := #[] }] 49 2 #[] #[])
  fields := #[]
  methods := #[k1m0, k1m1]
  instanceTypes := #[]
  staticTypes := #[]
  resolved := Array.replicate 42 none
  statics := none }

def pool2 : Array CpInfo := pool [(1, .methodref 2 3), (0, .class_ 4), (0, .nameAndType 5 6), (0, u "java/lang/Object"), (0, u "<init>"), (0, u "()V"), (0, .fieldref 8 9), (0, .class_ 10), (0, .nameAndType 11 12), (0, u "com/example/earnest_nets/earnestnets/LossBudget"), (0, u "unlimited"), (0, u "Z"), (0, .fieldref 8 14), (0, .nameAndType 15 16), (0, u "limit"), (0, u "I"), (9, .methodref 8 27), (0, .nameAndType 5 28), (0, u "(ZI)V"), (14, u "equals"), (0, u "(Ljava/lang/Object;)Z"), (2, u "ANY"), (0, u "Lcom/example/earnest_nets/earnestnets/LossBudget;"), (22, u "atMost"), (0, u "(I)Lcom/example/earnest_nets/earnestnets/LossBudget;"), (28, u "NONE"), (0, u "ANY_WORD"), (0, u "Ljava/lang/String;"), (6, u "isUnlimited"), (0, u "()Z"), (0, u "allowsAnother"), (0, u "(I)Z")] 42

def k2c0 : Code := { maxStack := 2, maxLocals := 3, code := prog_7_method_1_code, exceptionTable := #[], attributes := #[] }
def k2m0 : Method := { name := "<init>", desc := "(ZI)V", sig := { parameters := [.boolean, .int], returnType := none }, accessFlags := 2, code := some k2c0 }
def k2c1 : Code := { maxStack := 4, maxLocals := 1, code := prog_7_method_2_code, exceptionTable := #[], attributes := #[] }
def k2m1 : Method := { name := "atMost", desc := "(I)Lcom/example/earnest_nets/earnestnets/LossBudget;", sig := { parameters := [.int], returnType := some (.object "com/example/earnest_nets/earnestnets/LossBudget") }, accessFlags := 9, code := some k2c1 }
def k2c2 : Code := { maxStack := 1, maxLocals := 1, code := prog_7_method_4_code, exceptionTable := #[], attributes := #[] }
def k2m2 : Method := { name := "isUnlimited", desc := "()Z", sig := { parameters := [], returnType := some .boolean }, accessFlags := 1, code := some k2c2 }
def k2c3 : Code := { maxStack := 3, maxLocals := 2, code := prog_7_method_5_code, exceptionTable := #[], attributes := #[] }
def k2m3 : Method := { name := "allowsAnother", desc := "(I)Z", sig := { parameters := [.int], returnType := some .boolean }, accessFlags := 1, code := some k2c3 }
def k2c4 : Code := { maxStack := 2, maxLocals := 3, code := prog_7_method_6_code, exceptionTable := #[], attributes := #[] }
def k2m4 : Method := { name := "equals", desc := "(Ljava/lang/Object;)Z", sig := { parameters := [(.object "java/lang/Object")], returnType := some .boolean }, accessFlags := 1, code := some k2c4 }
/-- com/example/earnest_nets/earnestnets/LossBudget -/
def k2 : Class := { plain "com/example/earnest_nets/earnestnets/LossBudget" (some 0) with
  accessFlags := 33
  interfaces := #[]
  cf := some (fileOf pool2 8 #[] #[{ accessFlags := 2, nameIndex := 5, descriptorIndex := 28, attributes := #[] }, { accessFlags := 9, nameIndex := 71, descriptorIndex := 72, attributes := #[] }, { accessFlags := 1, nameIndex := 110, descriptorIndex := 111, attributes := #[] }, { accessFlags := 1, nameIndex := 112, descriptorIndex := 113, attributes := #[] }, { accessFlags := 1, nameIndex := 43, descriptorIndex := 44, attributes := #[] }] 33 2 #[] #[{ accessFlags := 25, nameIndex := 101, descriptorIndex := 48, attributes := #[] }, { accessFlags := 25, nameIndex := 47, descriptorIndex := 48, attributes := #[] }, { accessFlags := 26, nameIndex := 102, descriptorIndex := 103, attributes := #[] }, { accessFlags := 18, nameIndex := 11, descriptorIndex := 12, attributes := #[] }, { accessFlags := 18, nameIndex := 15, descriptorIndex := 16, attributes := #[] }])
  fields := #[{ name := "NONE", type := (.object "com/example/earnest_nets/earnestnets/LossBudget"), accessFlags := 25, slot := 0, constantValue := 0 }, { name := "ANY", type := (.object "com/example/earnest_nets/earnestnets/LossBudget"), accessFlags := 25, slot := 1, constantValue := 0 }, { name := "ANY_WORD", type := (.object "java/lang/String"), accessFlags := 26, slot := 2, constantValue := 0 }, { name := "unlimited", type := .boolean, accessFlags := 18, slot := 0, constantValue := 0 }, { name := "limit", type := .int, accessFlags := 18, slot := 1, constantValue := 0 }]
  methods := #[k2m0, k2m1, k2m2, k2m3, k2m4]
  instanceTypes := #[.boolean, .int]
  staticTypes := #[(.object "com/example/earnest_nets/earnestnets/LossBudget"), (.object "com/example/earnest_nets/earnestnets/LossBudget"), (.object "java/lang/String")]
  resolved := Array.replicate 156 none
  statics := some 0 }

def pool3 : Array CpInfo := pool [(1, u "java/lang/Cloneable"), (0, .class_ 1), (0, u "java/lang/Object"), (0, .class_ 3)] 3

/-- java/lang/Cloneable -/
def k3 : Class := { plain "java/lang/Cloneable" (some 0) with
  accessFlags := 1537
  interfaces := #[]
  cf := some (fileOf pool3 2 #[] #[] 1537 4 #[] #[])
  fields := #[]
  methods := #[]
  instanceTypes := #[]
  staticTypes := #[]
  resolved := Array.replicate 8 none
  statics := none }

def pool4 : Array CpInfo := pool [(1, u "java/io/Serializable"), (0, .class_ 1), (0, u "java/lang/Object"), (0, .class_ 3)] 3

/-- java/io/Serializable -/
def k4 : Class := { plain "java/io/Serializable" (some 0) with
  accessFlags := 1537
  interfaces := #[]
  cf := some (fileOf pool4 2 #[] #[] 1537 4 #[] #[])
  fields := #[]
  methods := #[]
  instanceTypes := #[]
  staticTypes := #[]
  resolved := Array.replicate 8 none
  statics := none }

/-- the primitive byte -/
def k5 : Class := { plain "byte" none with kind := .primitive 'B', accessFlags := 0x411 }
/-- [B -/
def k6 : Class := { plain "[B" (some 0) with kind := .array 5 .byte, interfaces := #[3, 4], accessFlags := 1041 }

/-- the primitive int -/
def k7 : Class := { plain "int" none with kind := .primitive 'I', accessFlags := 0x411 }
/-- [I -/
def k8 : Class := { plain "[I" (some 0) with kind := .array 7 .int, interfaces := #[3, 4], accessFlags := 1041 }

def heap : Heap := #[{ cls := 2, slots := #[.ref 1, .ref 2, .null], vm := .statics 2 },
  { cls := 2, slots := #[.int 0, .int 0], vm := .none },
  { cls := 2, slots := #[.int 1, .int 3], vm := .none }]
def classes : Array Class := #[k0, k1, k2, k3, k4, k5, k6, k7, k8]
def interned : List (Array UInt16 × Addr) := []
def slotsUsed : Nat := 7
def theMethod : MethodId := ⟨1, 1⟩
def args0 : Array Value := #[.int 5, .int 6]
def aboutOver (below : List Frame) : State where
  vm := { classes := classes, interned := interned.toArray }
  heap := heap
  slotsUsed := slotsUsed
  threads := #[{ frames := .invoking theMethod args0 :: below }]
def below0 : List Frame := [.native { method := ⟨0, 0⟩, args := #[] }]
def about1 : State := aboutOver below0
def p0 : Program := .bare "" "" ""
def e0 : Env := launch0.env 0 0 0
theorem w_frames : about1.frames = Frame.invoking theMethod args0 :: below0 := rfl
set_option maxRecDepth 65536 in
theorem w_args : argsFit about1.vm theMethod args0 = true := by decide +kernel
set_option maxRecDepth 65536 in
theorem w_heap : heapFits about1 = true := by decide +kernel
set_option maxRecDepth 65536 in
theorem w_runnable : about1.curStatus? = some .runnable := by decide +kernel
set_option maxRecDepth 65536 in
theorem w_alone : about1.alone = true := by decide +kernel
set_option maxRecDepth 65536 in
theorem w_named : about1.methodNamed? x = some theMethod := by decide +kernel
set_option maxRecDepth 65536 in
theorem w_hears : about1.hears theMethod below0 = true := by decide +kernel
set_option maxRecDepth 65536 in
theorem w_ripe : about1.ripe theMethod args0 below0 = true := by decide +kernel
theorem w_running : about1.status = .running := rfl
set_option maxRecDepth 65536 in
theorem w_room : about1.hasRoom e0.platform room_1 = true :=
  launch0.hasRoom_least _ room_1 (by decide +kernel) (by decide +kernel) (by decide +kernel) (by decide +kernel) (by decide +kernel) (by decide +kernel)
theorem allAtoms_all (ts : List Jvm.Cond) (a : Array Jvm.Value) (st : Jvm.State) : (allAtoms ts).before a st = ts.all (fun c => c.before a st) := by
  induction ts with
  | nil => rfl
  | cons c t ih =>
    show (Jvm.Cond.and c (allAtoms t)).before a st = _
    rw [Jvm.Cond.before_and, ih, List.all_cons]
def words1 : List Jvm.Cond := Jvm.Cond.code x code maxLocals ret :: tables_1
/-- a 'code' word, met by the world's own term for the bytes: nothing is compared byte by byte -/
theorem code_word {y : MethodName} {bytes : ByteArray} {mx : Nat} {rt : Option FieldType} {a : Array Value} {s : State} {m : MethodId} {meth : Method} {c : Code} (h1 : s.methodNamed? y = some m) (h2 : s.vm.method? m = some meth) (h3 : meth.code = some c) (h4 : c.code = bytes)
    (h5 : (c.maxLocals == mx && c.exceptionTable.isEmpty && decide (c.maxStack ≤ mostOperands) && decide (meth.sig.returnType = rt) && !meth.locks && decide (parseMethodDescriptor y.desc = some meth.sig)) = true) : (Jvm.Cond.code y bytes mx rt).before a s = true := by
  simp only [Bool.and_eq_true, beq_iff_eq, Bool.not_eq_true', decide_eq_true_eq] at h5
  obtain ⟨⟨⟨⟨⟨g1, g2⟩, g3⟩, g4⟩, g5⟩, g6⟩ := h5
  simp [Cond.before, Cond.holds, Cond.value, h1, h2, h3, h4, g1, g2, g3, g4, g5, g6]
def isCode : Jvm.Cond → Bool
  | .code _ _ _ _ => true
  | _ => false
theorem all_split {L : List Jvm.Cond} {P : Jvm.Cond → Bool} (h1 : L.all (fun c => isCode c || P c) = true) (h2 : ∀ c ∈ L.filter isCode, P c = true) : L.all P = true := by
  refine List.all_eq_true.mpr fun c hc => ?_
  have h := List.all_eq_true.mp h1 c hc
  rcases Bool.eq_false_or_eq_true (isCode c) with hi | hi
  · exact h2 c (List.mem_filter.mpr ⟨hc, hi⟩)
  · simpa [hi] using h
set_option maxRecDepth 65536 in
theorem w_c0 : (Jvm.Cond.code x code maxLocals ret).before args0 about1 = true := code_word (m := ⟨1, 1⟩) (meth := k1m1) (c := k1c1) (by decide +kernel) rfl rfl rfl (by decide +kernel)
set_option maxRecDepth 65536 in
theorem w_c1 : (Jvm.Cond.code ({ cls := "com/example/earnest_nets/earnestnets/LossBudget", name := "atMost", desc := "(I)Lcom/example/earnest_nets/earnestnets/LossBudget;" } : Jvm.MethodName) prog_7_method_2_code (1 : Nat) (Option.some (Jvm.ClassFile.FieldType.object "com/example/earnest_nets/earnestnets/LossBudget"))).before args0 about1 = true := code_word (m := ⟨2, 1⟩) (meth := k2m1) (c := k2c1) (by decide +kernel) rfl rfl rfl (by decide +kernel)
set_option maxRecDepth 65536 in
theorem w_c2 : (Jvm.Cond.code ({ cls := "com/example/earnest_nets/earnestnets/LossBudget", name := "<init>", desc := "(ZI)V" } : Jvm.MethodName) prog_7_method_1_code (3 : Nat) (Option.none : Option Jvm.ClassFile.FieldType)).before args0 about1 = true := code_word (m := ⟨2, 0⟩) (meth := k2m0) (c := k2c0) (by decide +kernel) rfl rfl rfl (by decide +kernel)
set_option maxRecDepth 65536 in
theorem w_c3 : (Jvm.Cond.code ({ cls := "java/lang/Object", name := "<init>", desc := "()V" } : Jvm.MethodName) object_method_1_code (1 : Nat) (Option.none : Option Jvm.ClassFile.FieldType)).before args0 about1 = true := code_word (m := ⟨0, 0⟩) (meth := k0m0) (c := k0c0) (by decide +kernel) rfl rfl rfl (by decide +kernel)
set_option maxRecDepth 65536 in
theorem w_c4 : (Jvm.Cond.code ({ cls := "com/example/earnest_nets/earnestnets/LossBudget", name := "isUnlimited", desc := "()Z" } : Jvm.MethodName) prog_7_method_4_code (1 : Nat) (Option.some Jvm.ClassFile.FieldType.boolean)).before args0 about1 = true := code_word (m := ⟨2, 2⟩) (meth := k2m2) (c := k2c2) (by decide +kernel) rfl rfl rfl (by decide +kernel)
set_option maxRecDepth 65536 in
theorem w_c5 : (Jvm.Cond.code ({ cls := "com/example/earnest_nets/earnestnets/LossBudget", name := "allowsAnother", desc := "(I)Z" } : Jvm.MethodName) prog_7_method_5_code (2 : Nat) (Option.some Jvm.ClassFile.FieldType.boolean)).before args0 about1 = true := code_word (m := ⟨2, 3⟩) (meth := k2m3) (c := k2c3) (by decide +kernel) rfl rfl rfl (by decide +kernel)
set_option maxRecDepth 65536 in
theorem w_c6 : (Jvm.Cond.code ({ cls := "com/example/earnest_nets/earnestnets/LossBudget", name := "equals", desc := "(Ljava/lang/Object;)Z" } : Jvm.MethodName) prog_7_method_6_code (3 : Nat) (Option.some Jvm.ClassFile.FieldType.boolean)).before args0 about1 = true := code_word (m := ⟨2, 4⟩) (meth := k2m4) (c := k2c4) (by decide +kernel) rfl rfl rfl (by decide +kernel)
def codes1 : List Jvm.Cond := [Jvm.Cond.code x code maxLocals ret, Jvm.Cond.code ({ cls := "com/example/earnest_nets/earnestnets/LossBudget", name := "atMost", desc := "(I)Lcom/example/earnest_nets/earnestnets/LossBudget;" } : Jvm.MethodName) prog_7_method_2_code (1 : Nat) (Option.some (Jvm.ClassFile.FieldType.object "com/example/earnest_nets/earnestnets/LossBudget")), Jvm.Cond.code ({ cls := "com/example/earnest_nets/earnestnets/LossBudget", name := "<init>", desc := "(ZI)V" } : Jvm.MethodName) prog_7_method_1_code (3 : Nat) (Option.none : Option Jvm.ClassFile.FieldType), Jvm.Cond.code ({ cls := "java/lang/Object", name := "<init>", desc := "()V" } : Jvm.MethodName) object_method_1_code (1 : Nat) (Option.none : Option Jvm.ClassFile.FieldType), Jvm.Cond.code ({ cls := "com/example/earnest_nets/earnestnets/LossBudget", name := "isUnlimited", desc := "()Z" } : Jvm.MethodName) prog_7_method_4_code (1 : Nat) (Option.some Jvm.ClassFile.FieldType.boolean), Jvm.Cond.code ({ cls := "com/example/earnest_nets/earnestnets/LossBudget", name := "allowsAnother", desc := "(I)Z" } : Jvm.MethodName) prog_7_method_5_code (2 : Nat) (Option.some Jvm.ClassFile.FieldType.boolean), Jvm.Cond.code ({ cls := "com/example/earnest_nets/earnestnets/LossBudget", name := "equals", desc := "(Ljava/lang/Object;)Z" } : Jvm.MethodName) prog_7_method_6_code (3 : Nat) (Option.some Jvm.ClassFile.FieldType.boolean)]
set_option maxRecDepth 65536 in
theorem codes_eq : words1.filter isCode = codes1 := rfl
theorem w_codes : ∀ c ∈ words1.filter isCode, c.before args0 about1 = true := by
  rw [codes_eq]
  intro c hc
  simp only [codes1, List.mem_cons, List.not_mem_nil, or_false] at hc
  rcases hc with rfl | rfl | rfl | rfl | rfl | rfl | rfl
  · exact w_c0
  · exact w_c1
  · exact w_c2
  · exact w_c3
  · exact w_c4
  · exact w_c5
  · exact w_c6
set_option maxRecDepth 65536 in
theorem w_t1 : (words1.take 24).all (fun c => isCode c || c.before args0 about1) = true := by decide +kernel
set_option maxRecDepth 65536 in
theorem w_t2 : (words1.drop 24).all (fun c => isCode c || c.before args0 about1) = true := by decide +kernel
theorem w_tables : (allAtoms (Jvm.Cond.code x code maxLocals ret :: tables_1)).before args0 about1 = true := by
  rw [allAtoms_all]
  show words1.all (fun c => c.before args0 about1) = true
  refine all_split ?_ w_codes
  rw [← List.take_append_drop 24 words1, List.all_append, w_t1, w_t2]
  rfl
set_option maxRecDepth 65536 in
theorem w_case : (Jvm.Cond.and given_1 narrow_1).before args0 about1 = true := by decide +kernel
theorem w_applies : (headSpec (Jvm.Cond.code x code maxLocals ret :: tables_1) room_1).applies x e0.platform about1 = true :=
  (Spec.applies_iff w_frames).mpr ⟨w_running, w_runnable, w_alone, w_named, w_hears, w_ripe, w_room, w_tables⟩
theorem atStart : AtStart classFile x code maxLocals ret World_1 tables_1 room_1 Calls_1 rest_1 Pre_1 launch0 p0 e0 about1 theMethod args0 below0 :=
  ⟨lists_1, trivial, launch0.admits_env _ _ _, launch0.least_env, fairChoices_fair.cas, fairChoices_fair.clock, w_frames, w_args, w_heap, w_applies, trivial, trivial, w_case⟩
end start1
theorem witness_1 : WitnessClaimed_1 := ⟨start1.p0, start1.e0, start1.about1, start1.theMethod, start1.args0, start1.below0, start1.atStart⟩
end Jvm.Pilot.@@N@@
