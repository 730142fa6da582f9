import JvmDerived
import JvmDerived.Pilot.@@N@@Statement
import JvmDerived.Pilot.@@N@@Code
set_option linter.unusedVariables false
set_option linter.unusedSimpArgs false
namespace Jvm.Pilot.@@N@@
open Jvm Jvm.ClassFile Sem Op Lib Jvm.Free Jvm.Stand Jvm.LawKit Jvm.RoadKit Bundle Jvm.Pilot.@@N@@.Jvm.D
section Own
variable {p : Program} {l : Launch} {e : Env} {R : Room} {s : State} {m : MethodId} {args : Array Value} {below : List Frame} {meth : Method} {c : Code} {T : State} {locs : List Loc} {cells slots : Nat} {Q : Option Value → Heap → List Loc → Prop} {C S : Nat}
def Goes (p : Program) (e : Env) (below : List Frame) (P : Outcome → State → Prop) (A : State) : Prop :=
  ∃ s₂ o, Steps p.tables e below A s₂ ∧ s₂.status = .running ∧ Ended s₂ below o ∧ P o s₂
def Fin_ (s : State) (Q : Option Value → Heap → List Loc → Prop) (C S : Nat) (o : Outcome) (U' : State) : Prop :=
  ∃ v L, o = .returned v ∧ Q v U'.heap L ∧ FrameEnd s o U' L C S
theorem Goes.via {P : Outcome → State → Prop} {A B : State} (st : ∀ t, Steps p.tables e below B t → Steps p.tables e below A t) (k : Goes p e below P B) : Goes p e below P A := by
  obtain ⟨s₂, o, h1, h2⟩ := k
  exact ⟨s₂, o, st _ h1, h2⟩
theorem Goes.tr {P : Outcome → State → Prop} {A B : State} (st : Steps p.tables e below A B) (k : Goes p e below P B) : Goes p e below P A := by
  obtain ⟨s₂, o, h1, h2⟩ := k
  exact ⟨s₂, o, st.trans h1, h2⟩
theorem own_fin {pc : Nat} {Ls : Array Slot} {st : List Value} (X : Stand p l e R s m args below meth c T locs cells slots) (hlk : meth.locks = false) {v : Option Value} (hv : meth.sig.returnType = none → v = none)
    (hstep : ∀ fs, (∀ (f : JFrame) (acts : List Action), f.method = m → f.locked = none → f.entered = [] → (doReturn e (T.setTop f) acts v).1 = T.setFrames fs) → Steps p.tables e below (T.setTop (mkF m pc Ls st)) (T.setFrames fs))
    (hQ : Q v T.heap locs) (hC : cells ≤ C) (hS : slots ≤ S) : Goes p e below (Fin_ s Q C S) (T.setTop (mkF m pc Ls st)) := by
  obtain ⟨fs, hr, hrun, hended, hW, hsame⟩ := X.leave (v := v) hv hlk
  exact ⟨_, _, hstep fs hr, hrun, hended, _, _, rfl, hQ, ⟨_, rfl⟩, hW, hsame.mono hC hS⟩
theorem own_finV {pc : Nat} {Ls : Array Slot} (X : Stand p l e R s m args below meth c T locs cells slots) (hx : p.tables.exec = Jvm.exec) (hlk : meth.locks = false) (hret : meth.sig.returnType = none)
    (hd : decode c.code pc = .ok (.return_, 1)) (hQ : Q none T.heap locs) (hC : cells ≤ C) (hS : slots ≤ S) : Goes p e below (Fin_ s Q C S) (T.setTop (mkF m pc Ls [])) :=
  own_fin X hlk (fun _ => rfl) (fun _ hr => X.returnOut hx hret hd hr) hQ hC hS
theorem own_finI {pc : Nat} {Ls : Array Slot} {z : Int32} {rest : List Value} (X : Stand p l e R s m args below meth c T locs cells slots) (hx : p.tables.exec = Jvm.exec) (hlk : meth.locks = false) (hret : meth.sig.returnType = some .int)
    (hd : decode c.code pc = .ok (.ireturn, 1)) (hQ : Q (some (.int z)) T.heap locs) (hC : cells ≤ C) (hS : slots ≤ S) : Goes p e below (Fin_ s Q C S) (T.setTop (mkF m pc Ls (.int z :: rest))) :=
  own_fin X hlk (fun h => by rw [hret] at h; cases h) (fun _ hr => retOut X hx hret rfl (Or.inl ⟨rfl, Or.inl rfl, _, rfl⟩) hd hr) hQ hC hS
theorem own_finN {pc : Nat} {Ls : Array Slot} {z : Int32} {rest : List Value} (X : Stand p l e R s m args below meth c T locs cells slots) (hx : p.tables.exec = Jvm.exec) (hlk : meth.locks = false) {t : FieldType} (hret : meth.sig.returnType = some t)
    (ht : t = .boolean ∨ t = .byte ∨ t = .char ∨ t = .short) (hd : decode c.code pc = .ok (.ireturn, 1)) (hQ : Q (some (.int (nar t z))) T.heap locs) (hC : cells ≤ C) (hS : slots ≤ S) : Goes p e below (Fin_ s Q C S) (T.setTop (mkF m pc Ls (.int z :: rest))) :=
  own_fin X hlk (fun h => by rw [hret] at h; cases h) (fun _ hr => retN X hx hret ht hd hr) hQ hC hS
theorem own_finJ {pc : Nat} {Ls : Array Slot} {z : Int64} {rest : List Value} (X : Stand p l e R s m args below meth c T locs cells slots) (hx : p.tables.exec = Jvm.exec) (hlk : meth.locks = false) (hret : meth.sig.returnType = some .long)
    (hd : decode c.code pc = .ok (.lreturn, 1)) (hQ : Q (some (.long z)) T.heap locs) (hC : cells ≤ C) (hS : slots ≤ S) : Goes p e below (Fin_ s Q C S) (T.setTop (mkF m pc Ls (.long z :: rest))) :=
  own_fin X hlk (fun h => by rw [hret] at h; cases h) (fun _ hr => retOut X hx hret rfl (Or.inr (Or.inl ⟨rfl, rfl, _, rfl⟩)) hd hr) hQ hC hS
theorem own_finR {pc : Nat} {Ls : Array Slot} {w : Value} {rest : List Value} (X : Stand p l e R s m args below meth c T locs cells slots) (hx : p.tables.exec = Jvm.exec) (hlk : meth.locks = false) {t : FieldType} (hret : meth.sig.returnType = some t) (ht : t.isReference = true) (hw : w.isRef = true) (hn : narrow t w = w)
    (hd : decode c.code pc = .ok (.areturn, 1)) (hQ : Q (some w) T.heap locs) (hC : cells ≤ C) (hS : slots ≤ S) : Goes p e below (Fin_ s Q C S) (T.setTop (mkF m pc Ls (w :: rest))) :=
  own_fin X hlk (fun h => by rw [hret] at h; cases h) (fun _ hr => retOut X hx hret hn (Or.inr (Or.inr (Or.inr (Or.inr ⟨rfl, ht, hw⟩)))) hd hr) hQ hC hS
theorem own_sta_keep {Z : State} {h h' : Heap} {C n d : String} {v : Value} (F : Sta Z h C n d v) (K : Keep h h' []) : Sta Z h' C n d v := by
  obtain ⟨cf, i, k, f, st, cell, h1, h2, h3, h4, h5, h6⟩ := F
  exact ⟨cf, i, k, f, st, cell, h1, h2, h3, h4, K.2.1 _ _ h5 nin0, h6⟩
theorem own_mask (x : Int32) : ¬ (x &&& (2147483647 : Int32)) < (0 : Int32) := by
  intro q
  have q1 := (c_and x 2147483647 (by decide)).1
  have q2 := Int32.lt_iff_toInt_lt.mp q
  have q3 : (0 : Int32).toInt = 0 := by decide
  omega
theorem own_and255 (x : Int32) : ¬ (x &&& (255 : Int32)) < 0 ∧ ¬ (255 : Int32) < (x &&& (255 : Int32)) := by
  have q1 := c_and x 255 (by decide)
  have q3 : (0 : Int32).toInt = 0 := by decide
  have q4 : (255 : Int32).toInt = 255 := by decide
  constructor
  · intro q
    have q2 := Int32.lt_iff_toInt_lt.mp q
    omega
  · intro q
    have q2 := Int32.lt_iff_toInt_lt.mp q
    omega
end Own
section Arrays
variable {p : Program} {l : Launch} {e : Env} {R : Room} {s : State} {m : MethodId} {args : Array Value} {below : List Frame} {meth : Method} {c : Code} {T : State} {locs : List Loc} {cells slots : Nat} {Z : State} {a0 : Array Value} {h h' : Heap} {a b : Addr} {k : ClassId} {ty : FieldType} {n : Nat} {f : Nat → Value} {ws : List Addr}
def Arw (Z : State) (h : Heap) (a : Addr) (k : ClassId) (ty : FieldType) (n : Nat) (f : Nat → Value) : Prop :=
  ∃ c : Cell, Arr Z h a c ty ∧ c.cls = k ∧ c.slots.size = n ∧ n < 2147483648 ∧ (∀ i, i < n → c.slots[i]? = some (f i)) ∧ ∀ i, i < n → fits ty (f i) = true
def own_upd (f : Nat → Value) (i : Nat) (v : Value) : Nat → Value := fun q => if q = i then v else f q
theorem own_upd_same (f : Nat → Value) (i : Nat) (v : Value) : own_upd f i v i = v := if_pos rfl
theorem own_upd_ne (f : Nat → Value) {i j : Nat} (v : Value) (q : j ≠ i) : own_upd f i v j = f j := if_neg q
theorem Arw.lt (F : Arw Z h a k ty n f) : a < h.size := by
  obtain ⟨c, A, -⟩ := F
  exact A.lt
theorem Arw.ext (F : Arw Z h a k ty n f) (E : Ext h h') : Arw Z h' a k ty n f := by
  obtain ⟨c, A, r⟩ := F
  exact ⟨c, A.ext E, r⟩
theorem Arw.other {sl : Nat} {v : Value} (F : Arw Z h b k ty n f) (W : Wr h h' a sl v) (q : b ≠ a) : Arw Z h' b k ty n f := by
  obtain ⟨c, A, r⟩ := F
  exact ⟨c, A.other W q, r⟩
theorem Arw.keep (F : Arw Z h a k ty n f) (K : Keep h h' ws) (q : a ∉ ws) : Arw Z h' a k ty n f := by
  obtain ⟨c, A, r⟩ := F
  exact ⟨c, ⟨K.2.1 _ _ A.1 q, A.2⟩, r⟩
theorem Arw.to {f' : Nat → Value} (F : Arw Z h a k ty n f) (q : ∀ i, i < n → f' i = f i) : Arw Z h a k ty n f' := by
  obtain ⟨c, A, h1, h2, h3, h4, h5⟩ := F
  exact ⟨c, A, h1, h2, h3, fun i hi => by rw [q i hi]; exact h4 i hi, fun i hi => by rw [q i hi]; exact h5 i hi⟩
theorem own_ne_arr {C : String} {kk : Nat} (F : Exa Z h a C) (wi : (Cond.instantiable C kk).before a0 Z = true) (G : Arw Z h b k ty n f) : a ≠ b := by
  obtain ⟨c, A, -⟩ := G
  exact ne_arr F wi A
theorem own_newP (X : Stand p l e R s m args below meth c T locs cells slots) (hx : p.tables.exec = Jvm.exec) (hZ : Z.Warmed39 s.vm) {aty : ArrayType} (w : (Cond.arrayClass (newarray.typeOf aty)).before a0 Z = true) (eT : T.heap = h) {g : JFrame} (hg : g.method = m)
    (hd : decode c.code g.pc = .ok (.newarray aty, 2)) {n : Int32} {rest : List Value} (hs : g.stack = .int n :: rest) {N : Nat} (hn : ¬ n < 0) (hN : n.toNatClampNeg = N) {cap : Nat} (hcap : N ≤ cap) (hb : cap * 8 ≤ 536870912) (hc : cells + 1 ≤ R.cells) (hl : slots + cap ≤ R.slots) :
    ∃ T' h' cA, Stand p l e R s m args below meth c T' locs (cells + 1) (slots + cap) ∧ T'.heap = h' ∧ Ext h h' ∧ Arw Z h' h.size cA (newarray.typeOf aty) N (fun _ => defaultValue (newarray.typeOf aty)) ∧
      ∀ target, Steps p.tables e below (T'.setTop { g with pc := g.pc + 2, stack := .ref h.size :: rest }) target → Steps p.tables e below (T.setTop g) target := by
  obtain ⟨T', h', cA, X', e', E', A', st⟩ := newP X hx hZ w eT hg hd hs hn (cap := cap) (by omega) hb hc hl
  refine ⟨T', h', cA, X', e', E', ⟨_, A', rfl, (sz_new _ _ _).trans hN, by omega, fun i hi => ?_, fun i hi => ?_⟩, st⟩
  · subst hN
    simp [newA, hi]
  · cases aty <;> rfl
theorem own_alen (X : Stand p l e R s m args below meth c T locs cells slots) (hx : p.tables.exec = Jvm.exec) (hZ : Z.Warmed39 s.vm) (eT : T.heap = h) (A : Arw Z h a k ty n f) {g : JFrame} (hg : g.method = m) {rest : List Value} (hs : g.stack = .ref a :: rest) (hd : decode c.code g.pc = .ok (.arraylength, 1)) :
    ∀ target, Steps p.tables e below (T.setTop { g with pc := g.pc + 1, stack := .int n.toInt32 :: rest }) target → Steps p.tables e below (T.setTop g) target := by
  obtain ⟨c, A, h1, h2, h3, h4, h5⟩ := A
  intro target kk
  refine X.arraylength hx (by rw [eT]; exact A.1) (State.isArrayOf_alike hZ.alike A.2.1) hg hs hd target ?_
  rw [h2]
  exact kk
theorem own_in {cl : Cell} {j : Int32} {i : Nat} (h2 : cl.slots.size = n) (hj : ¬ j < 0) (hji : j.toNatClampNeg = i) (hi : i < n) : ¬ (j < 0 ∨ cl.slots.size ≤ j.toNatClampNeg) := by
  rintro (q | q)
  · exact hj q
  · omega
theorem own_iaload (X : Stand p l e R s m args below meth c T locs cells slots) (hx : p.tables.exec = Jvm.exec) (hZ : Z.Warmed39 s.vm) (eT : T.heap = h) (A : Arw Z h a k .int n f) {j : Int32} {i : Nat} (hj : ¬ j < 0) (hji : j.toNatClampNeg = i) (hi : i < n) {v : Int32} (hv : f i = .int v)
    {g : JFrame} (hg : g.method = m) {rest : List Value} (hs : g.stack = .int j :: .ref a :: rest) (hd : decode c.code g.pc = .ok (.iaload, 1)) :
    ∀ target, Steps p.tables e below (T.setTop { g with pc := g.pc + 1, stack := .int v :: rest }) target → Steps p.tables e below (T.setTop g) target := by
  obtain ⟨cl, A, h1, h2, h3, h4, h5⟩ := A
  intro target kk
  exact X.iaload hx (by rw [eT]; exact A.1) (State.isArrayOf_alike hZ.alike A.2.1) A.2.2 (own_in h2 hj hji hi) (by rw [hji, h4 i hi, hv]) hg hs hd target kk
theorem own_laload (X : Stand p l e R s m args below meth c T locs cells slots) (hx : p.tables.exec = Jvm.exec) (hZ : Z.Warmed39 s.vm) (eT : T.heap = h) (A : Arw Z h a k .long n f) {j : Int32} {i : Nat} (hj : ¬ j < 0) (hji : j.toNatClampNeg = i) (hi : i < n) {v : Int64} (hv : f i = .long v)
    {g : JFrame} (hg : g.method = m) {rest : List Value} (hs : g.stack = .int j :: .ref a :: rest) (hd : decode c.code g.pc = .ok (.laload, 1)) :
    ∀ target, Steps p.tables e below (T.setTop { g with pc := g.pc + 1, stack := .long v :: rest }) target → Steps p.tables e below (T.setTop g) target := by
  obtain ⟨cl, A, h1, h2, h3, h4, h5⟩ := A
  intro target kk
  exact X.laload hx (by rw [eT]; exact A.1) (State.isArrayOf_alike hZ.alike A.2.1) A.2.2 (own_in h2 hj hji hi) (by rw [hji, h4 i hi, hv]) hg hs hd target kk
theorem own_aaload (X : Stand p l e R s m args below meth c T locs cells slots) (hx : p.tables.exec = Jvm.exec) (hZ : Z.Warmed39 s.vm) (eT : T.heap = h) (A : Arw Z h a k ty n f) (hty : ty.isReference = true) {j : Int32} {i : Nat} (hj : ¬ j < 0) (hji : j.toNatClampNeg = i) (hi : i < n) {v : Value} (hv : f i = v)
    {g : JFrame} (hg : g.method = m) {rest : List Value} (hs : g.stack = .int j :: .ref a :: rest) (hd : decode c.code g.pc = .ok (.aaload, 1)) :
    ∀ target, Steps p.tables e below (T.setTop { g with pc := g.pc + 1, stack := v :: rest }) target → Steps p.tables e below (T.setTop g) target := by
  obtain ⟨cl, A, h1, h2, h3, h4, h5⟩ := A
  intro target kk
  exact X.aaload hx (by rw [eT]; exact A.1) (State.isArrayOf_alike hZ.alike A.2.1) hty A.2.2 (own_in h2 hj hji hi) (by rw [hji, h4 i hi, hv]) hg hs hd target kk
theorem own_ix {j : Int32} {i : Nat} (h : j.toInt = i) : ¬ j < 0 ∧ j.toNatClampNeg = i := by
  constructor
  · intro q
    have q1 := Int32.lt_iff_toInt_lt.mp q
    have q3 : (0 : Int32).toInt = 0 := by decide
    omega
  · show j.toInt.toNat = i
    omega
theorem own_lti {x y : Int32} : x < y ↔ x.toInt < y.toInt := Int32.lt_iff_toInt_lt
theorem Arw.ofArv {z : Int32} {vs : List Value} {dv : Value} (F : Arv Z h a k ty z vs dv) (hn : z.toNatClampNeg = n) (q : ∀ i, i < n → vs.getD i dv = f i) : Arw Z h a k ty n f := by
  obtain ⟨c, A, h1, h2, h3, h4, h5⟩ := F
  have hb := (back32 h3).2
  refine ⟨c, A, h1, h2.trans hn, by omega, fun i hi => ?_, fun i hi => ?_⟩
  · rw [h4 i (by omega), q i hi]
  · rw [← q i hi]
    exact h5 i (by omega)
theorem own_set {cl : Cell} {j : Int32} {i : Nat} {v : Value} (A : Arr Z h a cl ty) (h1 : cl.cls = k) (h2 : cl.slots.size = n) (h3 : n < 2147483648) (h4 : ∀ i, i < n → cl.slots[i]? = some (f i)) (h5 : ∀ i, i < n → fits ty (f i) = true) (hv : fits ty v = true) (W : Wr h h' a j.toNatClampNeg v) (hji : j.toNatClampNeg = i) (hi : i < n) :
    Arw Z h' a k ty n (own_upd f i v) := by
  subst hji
  refine ⟨_, A.same W, h1, by rw [sz_set]; exact h2, h3, fun q hq => ?_, fun q hq => ?_⟩
  · by_cases e : q = j.toNatClampNeg
    · subst e
      rw [own_upd_same]
      simp [Cell.setSlot, h2, hq]
    · rw [own_upd_ne _ _ e, ← h4 q hq]
      simp [Cell.setSlot, Array.getElem?_setIfInBounds, Ne.symm e]
  · by_cases e : q = j.toNatClampNeg
    · subst e
      rw [own_upd_same]
      exact hv
    · rw [own_upd_ne _ _ e]
      exact h5 q hq
theorem own_iastore (X : Stand p l e R s m args below meth c T locs cells slots) (hx : p.tables.exec = Jvm.exec) (hZ : Z.Warmed39 s.vm) (eT : T.heap = h) (A : Arw Z h a k .int n f) {j : Int32} {i : Nat} (hj : ¬ j < 0) (hji : j.toNatClampNeg = i) (hi : i < n)
    {g : JFrame} (hg : g.method = m) {x : Int32} {rest : List Value} (hs : g.stack = .int x :: .int j :: .ref a :: rest) (hd : decode c.code g.pc = .ok (.iastore, 1)) :
    ∃ T' h', Stand p l e R s m args below meth c T' (locs ++ [⟨a, j.toNatClampNeg⟩]) cells slots ∧ T'.heap = h' ∧ Wr h h' a j.toNatClampNeg (.int x) ∧ Arw Z h' a k .int n (own_upd f i (.int x)) ∧
      ∀ target, Steps p.tables e below (T'.setTop { g with pc := g.pc + 1, stack := rest }) target → Steps p.tables e below (T.setTop g) target := by
  obtain ⟨cl, A, h1, h2, h3, h4, h5⟩ := A
  obtain ⟨T', h', X', e', W, st⟩ := stI X hx hZ eT A (j := j) (own_in h2 hj hji hi) hg hs hd
  exact ⟨T', h', X', e', W, own_set A h1 h2 h3 h4 h5 rfl W hji hi, st⟩
theorem own_lastore (X : Stand p l e R s m args below meth c T locs cells slots) (hx : p.tables.exec = Jvm.exec) (hZ : Z.Warmed39 s.vm) (eT : T.heap = h) (A : Arw Z h a k .long n f) {j : Int32} {i : Nat} (hj : ¬ j < 0) (hji : j.toNatClampNeg = i) (hi : i < n)
    {g : JFrame} (hg : g.method = m) {x : Int64} {rest : List Value} (hs : g.stack = .long x :: .int j :: .ref a :: rest) (hd : decode c.code g.pc = .ok (.lastore, 1)) :
    ∃ T' h', Stand p l e R s m args below meth c T' (locs ++ [⟨a, j.toNatClampNeg⟩]) cells slots ∧ T'.heap = h' ∧ Wr h h' a j.toNatClampNeg (.long x) ∧ Arw Z h' a k .long n (own_upd f i (.long x)) ∧
      ∀ target, Steps p.tables e below (T'.setTop { g with pc := g.pc + 1, stack := rest }) target → Steps p.tables e below (T.setTop g) target := by
  obtain ⟨cl, A, h1, h2, h3, h4, h5⟩ := A
  obtain ⟨T', h', X', e', W, st⟩ := stJ X hx hZ eT A (j := j) (own_in h2 hj hji hi) hg hs hd
  exact ⟨T', h', X', e', W, own_set A h1 h2 h3 h4 h5 rfl W hji hi, st⟩
theorem own_castore (X : Stand p l e R s m args below meth c T locs cells slots) (hx : p.tables.exec = Jvm.exec) (hZ : Z.Warmed39 s.vm) (eT : T.heap = h) (A : Arw Z h a k .char n f) {j : Int32} {i : Nat} (hj : ¬ j < 0) (hji : j.toNatClampNeg = i) (hi : i < n)
    {g : JFrame} (hg : g.method = m) {x : Int32} {rest : List Value} (hs : g.stack = .int x :: .int j :: .ref a :: rest) (hd : decode c.code g.pc = .ok (.castore, 1)) :
    ∃ T' h', Stand p l e R s m args below meth c T' (locs ++ [⟨a, j.toNatClampNeg⟩]) cells slots ∧ T'.heap = h' ∧ Wr h h' a j.toNatClampNeg (.int (nar .char x)) ∧ Arw Z h' a k .char n (own_upd f i (.int (nar .char x))) ∧
      ∀ target, Steps p.tables e below (T'.setTop { g with pc := g.pc + 1, stack := rest }) target → Steps p.tables e below (T.setTop g) target := by
  obtain ⟨cl, A, h1, h2, h3, h4, h5⟩ := A
  obtain ⟨T', h', X', e', W, st⟩ := stC X hx hZ eT A (j := j) (own_in h2 hj hji hi) hg hs hd
  exact ⟨T', h', X', e', W, own_set A h1 h2 h3 h4 h5 (fits_nar_char _) W hji hi, st⟩
theorem own_caload (X : Stand p l e R s m args below meth c T locs cells slots) (hx : p.tables.exec = Jvm.exec) (hZ : Z.Warmed39 s.vm) (eT : T.heap = h) (A : Arw Z h a k .char n f) {j : Int32} {i : Nat} (hj : ¬ j < 0) (hji : j.toNatClampNeg = i) (hi : i < n) {v : Int32} (hv : f i = .int v)
    {g : JFrame} (hg : g.method = m) {rest : List Value} (hs : g.stack = .int j :: .ref a :: rest) (hd : decode c.code g.pc = .ok (.caload, 1)) :
    ∀ target, Steps p.tables e below (T.setTop { g with pc := g.pc + 1, stack := .int v :: rest }) target → Steps p.tables e below (T.setTop g) target := by
  obtain ⟨cl, A, h1, h2, h3, h4, h5⟩ := A
  intro target kk
  exact X.caload hx (by rw [eT]; exact A.1) (State.isArrayOf_alike hZ.alike A.2.1) A.2.2 (own_in h2 hj hji hi) (by rw [hji, h4 i hi, hv]) hg hs hd target kk
theorem own_baload (X : Stand p l e R s m args below meth c T locs cells slots) (hx : p.tables.exec = Jvm.exec) (hZ : Z.Warmed39 s.vm) (eT : T.heap = h) (A : Arw Z h a k .byte n f) {j : Int32} {i : Nat} (hj : ¬ j < 0) (hji : j.toNatClampNeg = i) (hi : i < n) {v : Int32} (hv : f i = .int v)
    {g : JFrame} (hg : g.method = m) {rest : List Value} (hs : g.stack = .int j :: .ref a :: rest) (hd : decode c.code g.pc = .ok (.baload, 1)) :
    ∀ target, Steps p.tables e below (T.setTop { g with pc := g.pc + 1, stack := .int v :: rest }) target → Steps p.tables e below (T.setTop g) target := by
  obtain ⟨cl, A, h1, h2, h3, h4, h5⟩ := A
  intro target kk
  exact X.baloadBytes hx (by rw [eT]; exact A.1) (State.isArrayOf_alike hZ.alike A.2.1) A.2.2 (own_in h2 hj hji hi) (by rw [hji, h4 i hi, hv]) hg hs hd target kk
theorem Arw.toArv {vs : List Value} {dv : Value} {z : Int32} (F : Arw Z h a k ty n f) (hz : z.toInt = (n : Int)) (q : ∀ i, i < n → vs.getD i dv = f i) : Arv Z h a k ty z vs dv := by
  obtain ⟨c, A, h1, h2, h3, h4, h5⟩ := F
  obtain ⟨z0, zn⟩ := own_ix hz
  exact ⟨c, A, h1, h2.trans zn.symm, z0, fun i hi => by rw [h4 i (by omega), q i (by omega)], fun i hi => by rw [q i (by omega)]; exact h5 i (by omega)⟩
end Arrays
section Wide
variable {p : Program} {l : Launch} {e : Env} {R : Room} {s : State} {m : MethodId} {args : Array Value} {below : List Frame} {meth : Method} {c : Code} {T : State} {locs : List Loc} {cells slots : Nat} {Q : Option Value → Heap → List Loc → Prop} {K : State → Prop} {C S : Nat} {Z : State} {a0 : Array Value} {h h' : Heap} {vm1 : Vm} {n1 : Nat}
def Fin_W (s : State) (Q : Option Value → Heap → List Loc → Prop) (K : State → Prop) (C S : Nat) (o : Outcome) (U' : State) : Prop :=
  ∃ v L, o = .returned v ∧ Q v U'.heap L ∧ K U' ∧ ReturnedEndW s o U' L C S
theorem own_wfin {pc : Nat} {Ls : Array Slot} {st : List Value} (X : Stand p l e R (s.setVm vm1) m args below meth c T locs cells slots) (hSi : s.Since vm1 n1) (hn1 : n1 ≤ T.heap.size) (hlk : meth.locks = false) {v : Option Value} (hv : meth.sig.returnType = none → v = none)
    (hstep : ∀ fs, (∀ (f : JFrame) (acts : List Action), f.method = m → f.locked = none → f.entered = [] → (doReturn e (T.setTop f) acts v).1 = T.setFrames fs) → Steps p.tables e below (T.setTop (mkF m pc Ls st)) (T.setFrames fs))
    (hK : ∀ U : State, U.vm = T.vm → U.heap = T.heap → K U) (hQ : Q v T.heap locs) (hC : cells ≤ C) (hS : slots ≤ S) : Goes p e below (Fin_W s Q K C S) (T.setTop (mkF m pc Ls st)) := by
  obtain ⟨fs, hr, hrun, hended, hW, h1, h2, hsame⟩ := X.leaveW hSi hn1 (v := v) hv hlk
  exact ⟨_, _, hstep fs hr, hrun, hended, _, _, rfl, hQ, hK _ rfl rfl, hW, h1, h2, hsame.mono hC hS⟩
theorem own_wfinV {pc : Nat} {Ls : Array Slot} (X : Stand p l e R (s.setVm vm1) m args below meth c T locs cells slots) (hSi : s.Since vm1 n1) (hn1 : n1 ≤ T.heap.size) (hK : ∀ U : State, U.vm = T.vm → U.heap = T.heap → K U) (hx : p.tables.exec = Jvm.exec) (hlk : meth.locks = false) (hret : meth.sig.returnType = none)
    (hd : decode c.code pc = .ok (.return_, 1)) (hQ : Q none T.heap locs) (hC : cells ≤ C) (hS : slots ≤ S) : Goes p e below (Fin_W s Q K C S) (T.setTop (mkF m pc Ls [])) :=
  own_wfin X hSi hn1 hlk (fun _ => rfl) (fun _ hr => X.returnOut hx hret hd hr) hK hQ hC hS
theorem own_wfinI {pc : Nat} {Ls : Array Slot} {z : Int32} {rest : List Value} (X : Stand p l e R (s.setVm vm1) m args below meth c T locs cells slots) (hSi : s.Since vm1 n1) (hn1 : n1 ≤ T.heap.size) (hK : ∀ U : State, U.vm = T.vm → U.heap = T.heap → K U) (hx : p.tables.exec = Jvm.exec) (hlk : meth.locks = false) (hret : meth.sig.returnType = some .int)
    (hd : decode c.code pc = .ok (.ireturn, 1)) (hQ : Q (some (.int z)) T.heap locs) (hC : cells ≤ C) (hS : slots ≤ S) : Goes p e below (Fin_W s Q K C S) (T.setTop (mkF m pc Ls (.int z :: rest))) :=
  own_wfin X hSi hn1 hlk (fun h => by rw [hret] at h; cases h) (fun _ hr => retOut X hx hret rfl (Or.inl ⟨rfl, Or.inl rfl, _, rfl⟩) hd hr) hK hQ hC hS
theorem own_wfinN {pc : Nat} {Ls : Array Slot} {z : Int32} {rest : List Value} (X : Stand p l e R (s.setVm vm1) m args below meth c T locs cells slots) (hSi : s.Since vm1 n1) (hn1 : n1 ≤ T.heap.size) (hK : ∀ U : State, U.vm = T.vm → U.heap = T.heap → K U) (hx : p.tables.exec = Jvm.exec) (hlk : meth.locks = false) {t : FieldType} (hret : meth.sig.returnType = some t)
    (ht : t = .boolean ∨ t = .byte ∨ t = .char ∨ t = .short) (hd : decode c.code pc = .ok (.ireturn, 1)) (hQ : Q (some (.int (nar t z))) T.heap locs) (hC : cells ≤ C) (hS : slots ≤ S) : Goes p e below (Fin_W s Q K C S) (T.setTop (mkF m pc Ls (.int z :: rest))) :=
  own_wfin X hSi hn1 hlk (fun h => by rw [hret] at h; cases h) (fun _ hr => retN X hx hret ht hd hr) hK hQ hC hS
theorem own_wfinR {pc : Nat} {Ls : Array Slot} {w : Value} {rest : List Value} (X : Stand p l e R (s.setVm vm1) m args below meth c T locs cells slots) (hSi : s.Since vm1 n1) (hn1 : n1 ≤ T.heap.size) (hK : ∀ U : State, U.vm = T.vm → U.heap = T.heap → K U) (hx : p.tables.exec = Jvm.exec) (hlk : meth.locks = false) {t : FieldType} (hret : meth.sig.returnType = some t) (ht : t.isReference = true) (hw : w.isRef = true) (hn : narrow t w = w)
    (hd : decode c.code pc = .ok (.areturn, 1)) (hQ : Q (some w) T.heap locs) (hC : cells ≤ C) (hS : slots ≤ S) : Goes p e below (Fin_W s Q K C S) (T.setTop (mkF m pc Ls (w :: rest))) :=
  own_wfin X hSi hn1 hlk (fun h => by rw [hret] at h; cases h) (fun _ hr => retOut X hx hret hn (Or.inr (Or.inr (Or.inr (Or.inr ⟨rfl, ht, hw⟩)))) hd hr) hK hQ hC hS
/-- a callee that may intern, by its contract -/
def BackW (l : Launch) (R : Room) (p : Program) (e : Env) (below : List Frame) (s : State) (sargs : Array Value) (y : MethodName) (len W : Nat)
    (Pre : Pt → Array Value → Prop) (Post : Pt → Array Value → Option Value → Pt → Prop) : Prop :=
  ∀ (m : MethodId) (meth : Method) (c : Code) (A : Pt) (g : JFrame) (ig : Instr) (mk : MethodId) (a : Array Value),
    Stand p l e R s m sargs below meth c A.U A.locs A.cells A.slots → g.method = m → g.locals.size = c.maxLocals → decode c.code g.pc = .ok (ig, len) →
    2 * g.monitorRoom + (g.stack.map fun v => v.category).sum ≤ W → A.U.methodNamed? y = some mk → Pre A a →
    ∃ (v : Option Value) (B : Pt), Stand p l e R (s.setVm B.U.vm) m sargs below meth c B.U B.locs B.cells B.slots ∧ s.Since B.U.vm B.U.heap.size ∧ Post A a v B ∧
      Steps p.tables e below (doInvoke e (A.U.setTop g) [] mk a).1 (B.U.setTop { g with pc := g.pc + len, stack := v.toList ++ g.stack })
theorem own_backOfW {y : MethodName} {bytes : ByteArray} {maxL : Nat} {ret : Option FieldType} {rm : Room} {len W : Nat} {as' : Array Value} {KP : State → Prop}
    (hM : MetFree l y (head1 [Cond.code y bytes maxL ret] rm) (fun a U => a = as' ∧ Z.Warmed39 U.vm ∧ U.heap = h ∧ KP U) (fun _ _ _ _ _ => True) (fun _ U o U' => ∃ v L, o = .returned v ∧ Q v U'.heap L ∧ K U' ∧ ReturnedEndW U o U' L rm.cells rm.slots))
    (hZ : Z.Warmed39 s.vm) (wc : (Cond.code y bytes maxL ret).before a0 Z = true) (wz : (Cond.initialized y.cls).before a0 Z = true) (hf : rm.frames + 1 ≤ R.frames) (hl : W + (maxL + 11) + rm.locals ≤ R.locals)
    (hKP : ∀ V : State, s.WarmedH V.vm → V.heap = h → KP V) :
    BackW l R p e below s args y len W (fun A a => a = as' ∧ A.U.heap = h ∧ A.cells + rm.cells ≤ R.cells ∧ A.slots + rm.slots ≤ R.slots)
      (fun A _ v B => ∃ L, (Q v B.U.heap L ∧ ∃ t : State, K t ∧ t.vm = B.U.vm ∧ t.heap = B.U.heap) ∧ B.locs = A.locs ++ L ∧ B.cells = A.cells + rm.cells ∧ B.slots = A.slots + rm.slots) := by
  intro m meth c A g ig mk a X hg hsize hdg hW hn hp
  obtain ⟨U, Ls, c0, s0⟩ := A
  dsimp only [Pt.U, Pt.locs, Pt.cells, Pt.slots] at X hn hp ⊢
  obtain ⟨rfl, hheap, hcl, hsl⟩ := hp
  have hU : Z.Warmed39 U.vm := wtrans hZ X.warmed
  have h1 : (head1 [Cond.code y bytes maxL ret] rm).pre.before a U = true := by show (Cond.and _ .tt).before a U = true; rw [Cond.before_and, mv hU wc]; rfl
  have h2 : (Cond.code y bytes maxL ret).before a U = true := mv hU wc
  have h3 : (Cond.initialized y.cls).before a U = true := mv hU wz
  obtain ⟨methY, cY, hmY, hcY, -, hlY, -, -, -, -⟩ := Cond.code_spec hn h2
  obtain ⟨kY, hkY, -⟩ := className_of_methodNamed hn
  have hinitY : kY.init = .initialized := Cond.initialized_spec (findClass_of_methodNamed hn) hkY h3
  have hAt : At U g.method c below := by rw [hg]; exact X.here
  have happ : (head1 [Cond.code y bytes maxL ret] rm).appliesLoose y e.platform (U.calling g mk a) = true :=
    Spec.appliesLoose_calling (g := g) hAt hdg hn hkY hinitY (X.room_calling (g := g) (R' := rm) hsize hmY hcY hf (by rw [hlY]; omega) hcl hsl) h1
  obtain ⟨mid, hmid⟩ := hAt.above
  have hfr : (U.setTop g).frames = (.java g :: mid) ++ below := by rw [State.frames_setTop' g hAt.top, hmid]; rfl
  obtain ⟨o, s₂, hsteps, -, hend, v, L, rfl, hq, hk, hfe⟩ := Steps.callFree hM p X.admits X.cas X.clock (acts := []) hfr happ ⟨rfl, hU, hheap, hKP _ X.warmed hheap⟩ trivial
  rw [State.frames_setTop' g hAt.top] at hend
  have hfe' : ReturnedEndW (U.calling g mk a) (.returned v) s₂ L rm.cells rm.slots := hfe
  obtain ⟨-, hW₂, hB₂, e2, q2, q3, q4, q5, q6⟩ := id hfe'
  have hW' : U.Warmed39 s₂.vm := hW₂
  have hB' : U.Booked s₂.vm s₂.heap.size := hB₂
  have e3 : s₂ = ({ (U.calling g mk a).setFrames s₂.frames with heap := s₂.heap, slotsUsed := s₂.slotsUsed } : State).setVm s₂.vm := by
    have : s₂ = ({ s₂ with vm := (U.calling g mk a).vm } : State).setVm s₂.vm := rfl
    rw [e2] at this
    exact this
  obtain ⟨c₂, i₂, len₂, hc₂, hd₂, hf₂⟩ := hend
  have hcc : c₂ = c := by
    have h1 : s₂.code? g.method = U.code? g.method := by rw [State.code?_eq, State.code?_eq, hW'.alike.method?]
    exact Option.some.inj (hc₂.symm.trans (h1.trans hAt.code))
  subst hcc
  have hlen : len₂ = len := by rw [hdg] at hd₂; cases hd₂; rfl
  subst hlen
  obtain ⟨g₀, hg0⟩ := Option.isSome_iff_exists.mp hAt.top
  obtain ⟨r, hr⟩ := State.topJava?_eq_some.mp hg0
  have hs₂ : s₂ = (({ U with heap := s₂.heap, slotsUsed := s₂.slotsUsed } : State).setVm s₂.vm).setTop { g with pc := g.pc + len₂, stack := v.toList ++ g.stack } := by
    have hr' : (({ U with heap := s₂.heap, slotsUsed := s₂.slotsUsed } : State).setVm s₂.vm).frames = .java g₀ :: r := hr
    refine e3.trans ?_
    rw [hf₂, State.calling_eq hAt.top, State.setFrames_setFrames, State.setTop_of_frames _ hr', hr]
    rfl
  have hsame : U.sameButNew ({ U with heap := s₂.heap, slotsUsed := s₂.slotsUsed } : State) L rm.cells rm.slots := by
    refine ⟨?_, q2, q3, q4, q5, q6⟩
    obtain ⟨t, ht, -⟩ := State.frames_cons hr
    show ({ U with heap := s₂.heap, slotsUsed := s₂.slotsUsed } : State) = { U.setFrames U.frames with heap := s₂.heap, slotsUsed := s₂.slotsUsed }
    rw [State.setFrames_self ht]
  subst hg
  obtain ⟨X', hSi⟩ := X.movedW (T₂ := (({ U with heap := s₂.heap, slotsUsed := s₂.slotsUsed } : State).setVm s₂.vm)) ((X.here.setHeapUsed s₂.heap s₂.slotsUsed).setVm hW'.alike) X.tail rfl rfl hW' hB' hsame
  refine ⟨v, ⟨(({ U with heap := s₂.heap, slotsUsed := s₂.slotsUsed } : State).setVm s₂.vm), Ls ++ L, c0 + rm.cells, s0 + rm.slots⟩, X', hSi, ⟨L, ⟨hq, s₂, hk, rfl, rfl⟩, rfl, rfl, rfl⟩, ?_⟩
  show Steps p.tables e below _ ((({ U with heap := s₂.heap, slotsUsed := s₂.slotsUsed } : State).setVm s₂.vm).setTop { g with pc := g.pc + len₂, stack := v.toList ++ g.stack })
  rw [← hs₂]
  exact hsteps
theorem own_callSW (X : Stand p l e R s m args below meth c T locs cells slots) (hexec : p.tables.exec = Jvm.exec) {own : String} {index : Nat} {y : MethodName} {bytes : ByteArray} {maxL : Nat} {ret : Option FieldType}
    (hown : s.vm.findClass own = some m.cls) (hlink : (Cond.methodLink own index y).before args s = true) (hstat : (Cond.static y).before args s = true) (hinit : (Cond.initialized y.cls).before args s = true)
    (hcode : (Cond.code y bytes maxL ret).before args s = true) (hy : y.cls ≠ "java/lang/invoke/MethodHandle" ∧ y.cls ≠ "java/lang/invoke/VarHandle")
    {W : Nat} {Pre : Pt → Array Value → Prop} {Post : Pt → Array Value → Option Value → Pt → Prop} (hK : BackW l R p e below s args y 3 W Pre Post)
    {g : JFrame} (hg : g.method = m) (hsize : g.locals.size = c.maxLocals) {argsL rest : List Value} (hlen : ∀ sig, parseMethodDescriptor y.desc = some sig → argsL.length = sig.parameters.length)
    (hstack : g.stack = argsL.reverse ++ rest) (hW : 2 * g.monitorRoom + (rest.map fun v => v.category).sum ≤ W) (hdg : decode c.code g.pc = .ok (.invokestatic index, 3))
    (hpre : ∀ vm₁, s.WarmedH vm₁ → Pre ⟨T.setVm vm₁, locs, cells, slots⟩ argsL.toArray) :
    ∃ (v : Option Value) (vm₁ : Vm) (B : Pt), s.WarmedH vm₁ ∧ (Stand p l e R (s.setVm B.U.vm) m args below meth c B.U B.locs B.cells B.slots ∧ s.Since B.U.vm B.U.heap.size) ∧ Post ⟨T.setVm vm₁, locs, cells, slots⟩ argsL.toArray v B ∧
      ∀ target, Steps p.tables e below (B.U.setTop { g with pc := g.pc + 3, stack := v.toList ++ rest }) target → Steps p.tables e below (T.setTop g) target := by
  obtain ⟨mk, hnamed⟩ := Cond.code_named hcode
  obtain ⟨methM, cM, hmethM, -, -, -, -, -, -, hsigM⟩ := Cond.code_spec hnamed hcode
  have hstatic : methM.isStatic = true := Cond.static_spec hnamed hmethM hstat
  obtain ⟨kP, hkP, -⟩ := className_of_methodNamed hnamed
  have hinitP : kP.init = .initialized := Cond.initialized_spec (findClass_of_methodNamed hnamed) hkP hinit
  obtain ⟨vm₁, X₁, hstep₁⟩ := X.invokestatic hexec hown hlink hnamed hmethM hstatic hkP hinitP hy (g := g) hg (argsL := argsL) (rest := rest) (hlen _ hsigM) hstack hdg
  obtain ⟨v, B, X', hSi, hpost, hsteps⟩ := hK m meth c ⟨T.setVm vm₁, locs, cells, slots⟩ { g with stack := rest } (.invokestatic index) mk argsL.toArray X₁ hg hsize hdg hW (X₁.named hnamed) (hpre vm₁ X₁.warmed)
  exact ⟨v, vm₁, B, X₁.warmed, ⟨X', hSi⟩, hpost, fun target hh => hstep₁ _ fun acts => by rw [doInvoke_state]; exact hsteps.trans hh⟩
theorem own_specialW (X : Stand p l e R s m args below meth c T locs cells slots) (hexec : p.tables.exec = Jvm.exec) {own : String} {index : Nat} {y : MethodName} (hy1 : y.name = "<init>")
    (hown : s.vm.findClass own = some m.cls) (hlink : (Cond.methodLink own index y).before args s = true) (hinst : (Cond.instanceMethod y).before args s = true)
    {bytes : ByteArray} {maxL : Nat} (hcode : (Cond.code y bytes maxL none).before args s = true) (hy : y.cls ≠ "java/lang/invoke/MethodHandle" ∧ y.cls ≠ "java/lang/invoke/VarHandle")
    {W : Nat} {Pre : Pt → Array Value → Prop} {Post : Pt → Array Value → Option Value → Pt → Prop} (hK : BackW l R p e below s args y 3 W Pre Post)
    {g : JFrame} (hg : g.method = m) (hsize : g.locals.size = c.maxLocals) {a : Addr} {argsL rest : List Value}
    (hlen : ∀ sig, parseMethodDescriptor y.desc = some sig → argsL.length = sig.parameters.length) (hstack : g.stack = argsL.reverse ++ .ref a :: rest) (hW : 2 * g.monitorRoom + (rest.map fun v => v.category).sum ≤ W)
    (hdg : decode c.code g.pc = .ok (.invokespecial index, 3)) (hpre : ∀ vm₁, s.WarmedH vm₁ → Pre ⟨T.setVm vm₁, locs, cells, slots⟩ (.ref a :: argsL).toArray) :
    ∃ (v : Option Value) (vm₁ : Vm) (B : Pt), s.WarmedH vm₁ ∧ (Stand p l e R (s.setVm B.U.vm) m args below meth c B.U B.locs B.cells B.slots ∧ s.Since B.U.vm B.U.heap.size) ∧ Post ⟨T.setVm vm₁, locs, cells, slots⟩ (.ref a :: argsL).toArray v B ∧
      ∀ target, Steps p.tables e below (B.U.setTop { g with pc := g.pc + 3, stack := v.toList ++ rest }) target → Steps p.tables e below (T.setTop g) target := by
  have hpl : e.platform.magicAccessors = ({} : Platform).magicAccessors := by rw [X.admits.platform]
  obtain ⟨mk, methM, cM, kP, vm₁, hnamed, hmethM, -, -, -, -, hkP, -, hW₁, hstep₁⟩ :=
    Steps.initColdArgs (e := e) X.here hexec X.warmed hpl hown hy1 hy hlink hinst hcode (f := g) hg hlen hstack hdg
  have X₁ := X.noted hW₁
  obtain ⟨v, B, X', hSi, hpost, hsteps⟩ := hK m meth c ⟨T.setVm vm₁, locs, cells, slots⟩ { g with stack := rest } (.invokespecial index) mk (.ref a :: argsL).toArray X₁ hg hsize hdg hW (X₁.named hnamed) (hpre vm₁ hW₁)
  exact ⟨v, vm₁, B, hW₁, ⟨X', hSi⟩, hpost, fun target hh => (hstep₁ _ fun acts => by rw [doInvoke_state]; exact Steps.refl _).trans (hsteps.trans hh)⟩
theorem own_virtualW (X : Stand p l e R s m args below meth c T locs cells slots) (hexec : p.tables.exec = Jvm.exec) {own C : String} {index : Nat} {y z : MethodName}
    (hown : s.vm.findClass own = some m.cls) (hlink : (Cond.methodLink own index y).before args s = true) (hdecl : (Cond.declares y).before args s = true) (hnf : NotFace s y)
    (hsel : (Cond.selects C y z).before args s = true) (hinst : (Cond.instanceMethod z).before args s = true)
    (hy : y.cls ≠ "java/lang/invoke/MethodHandle" ∧ y.cls ≠ "java/lang/invoke/VarHandle")
    {W : Nat} {Pre : Pt → Array Value → Prop} {Post : Pt → Array Value → Option Value → Pt → Prop} (hK : BackW l R p e below s args z 3 W Pre Post)
    {b : Addr} {cB : ClassId} (hcB : s.vm.findClass C = some cB) (hrecv : IsOf cB T b)
    {g : JFrame} (hg : g.method = m) (hsize : g.locals.size = c.maxLocals) {argsL rest : List Value}
    (hlen : ∀ sig, parseMethodDescriptor y.desc = some sig → argsL.length = sig.parameters.length) (hstack : g.stack = argsL.reverse ++ .ref b :: rest) (hW : 2 * g.monitorRoom + (rest.map fun v => v.category).sum ≤ W)
    (hdg : decode c.code g.pc = .ok (.invokevirtual index, 3)) (hpre : ∀ vm₁, s.WarmedH vm₁ → Pre ⟨T.setVm vm₁, locs, cells, slots⟩ (.ref b :: argsL).toArray) :
    ∃ (v : Option Value) (vm₁ : Vm) (B : Pt), s.WarmedH vm₁ ∧ (Stand p l e R (s.setVm B.U.vm) m args below meth c B.U B.locs B.cells B.slots ∧ s.Since B.U.vm B.U.heap.size) ∧ Post ⟨T.setVm vm₁, locs, cells, slots⟩ (.ref b :: argsL).toArray v B ∧
      ∀ target, Steps p.tables e below (B.U.setTop { g with pc := g.pc + 3, stack := v.toList ++ rest }) target → Steps p.tables e below (T.setTop g) target := by
  obtain ⟨cellB, hcellT, hclsB, hstatB⟩ := hrecv
  obtain ⟨r0, r, hn, hrm, hstR, hsigR⟩ := Cond.declares_spec hdecl
  obtain ⟨mk, methM, hnamed, hmethM, -, habM⟩ := Cond.instanceMethod_spec hinst
  obtain ⟨c2, r2, m2, q1, q2, q3, q4, kP, hkP, hkPi⟩ := Cond.selects_spec hsel
  cases hcB.symm.trans q1
  cases (State.methodFound?_of_named hn hy).symm.trans q2
  cases hnamed.symm.trans q3
  have hselP : selectMethod e.platform s.vm cellB.cls r0 = .method mk := by rw [Launch.admits_selectMethod X.admits, hclsB]; exact q4
  obtain ⟨kr, hkr, hni⟩ := hnf r0 hn
  obtain ⟨vm₁, X₁, hstep₁⟩ := X.invokevirtual hexec hown hlink hn hrm hstR hkr hni hy (a := b) (cell := cellB) hcellT
    (fun z h => by rw [h] at hstatB; cases hstatB) hselP hmethM habM hkP hkPi (g := g) hg (argsL := argsL) (rest := rest) (hlen _ hsigR) hstack hdg
  obtain ⟨v, B, X', hSi, hpost, hsteps⟩ := hK m meth c ⟨T.setVm vm₁, locs, cells, slots⟩ { g with stack := rest } (.invokevirtual index) mk (.ref b :: argsL).toArray X₁ hg hsize hdg hW (X₁.named hnamed) (hpre vm₁ X₁.warmed)
  exact ⟨v, vm₁, B, X₁.warmed, ⟨X', hSi⟩, hpost, fun target hh => hstep₁ _ fun acts => by rw [doInvoke_state]; exact hsteps.trans hh⟩
end Wide
section Konst
variable {p : Program} {l : Launch} {e : Env} {R : Room} {s : State} {m : MethodId} {args : Array Value} {below : List Frame} {meth : Method} {c : Code} {T : State} {locs : List Loc} {cells slots : Nat} {Z : State} {a0 : Array Value} {h h' : Heap} {vm0 vm1 : Vm} {own text : String} {index : Nat} {z : Int32} {vs : List Value} {w : Addr} {KL : List (String × Nat × String × Int32 × List Value)}
/-- a String constant whose entry is resolved, and its object known -/
def KC (Z : State) (x : String × Nat × String × Int32 × List Value) (vm : Vm) (h : Heap) : Prop :=
  ∃ (a b : Addr) (k : ClassId), Lit (Z.setVm vm) x.1 x.2.1 a ∧ Exa Z h a "java/lang/String" ∧ Fld Z h a "java/lang/String" "coder" "B" (.int 0) ∧ Fld Z h a "java/lang/String" "value" "[B" (.ref b) ∧ Arv Z h b k .byte x.2.2.2.1 x.2.2.2.2 (.int 0)
/-- of each String constant: our run has not interned its text yet, or it is known -/
def KS (Z : State) (KL : List (String × Nat × String × Int32 × List Value)) (vm : Vm) (h : Heap) : Prop := ∃ Ts, IB Z vm Ts ∧ ∀ x ∈ KL, x.2.2.1 ∉ Ts ∨ KC Z x vm h
theorem KS.ext (K : KS Z KL vm0 h) (E : Ext h h') : KS Z KL vm0 h' := by
  obtain ⟨Ts, I, H⟩ := K
  refine ⟨Ts, I, fun x hx => (H x hx).imp id ?_⟩
  rintro ⟨a, b, k, L, A, C, V, B⟩
  exact ⟨a, b, k, L, A.ext E, C.ext E, V.ext E, B.ext E⟩
def NoS (Z : State) (h : Heap) (w : Addr) : Prop := ∀ (a b : Addr) (k : ClassId) (z : Int32) (vs : List Value), Exa Z h a "java/lang/String" → Fld Z h a "java/lang/String" "value" "[B" (.ref b) → Arv Z h b k .byte z vs (.int 0) → a ≠ w ∧ b ≠ w
theorem NoS.obj {C : String} {kk : Nat} (E : Exa Z h w C) (wi : (Cond.instantiable C kk).before a0 Z = true) (hC : C ≠ "java/lang/String") : NoS Z h w := fun a b k z vs A V B => ⟨fun q => ne_exa E A hC q.symm, fun q => E.neArv B wi q.symm⟩
theorem NoS.str {kk : Nat} (E : Exa Z h w "java/lang/String") (wi : (Cond.instantiable "java/lang/String" kk).before a0 Z = true) (F : Fld Z h w "java/lang/String" "value" "[B" .null) : NoS Z h w := fun a b k z vs A V B => ⟨fun q => Fld.ne F V (by intro q; cases q) q.symm, fun q => E.neArv B wi q.symm⟩
theorem NoS.arr {kk : Nat} {k0 : ClassId} {ty : FieldType} {n : Nat} {f : Nat → Value} (A0 : Arw Z h w k0 ty n f) (wi : (Cond.instantiable "java/lang/String" kk).before a0 Z = true) (ht : ty ≠ .byte) : NoS Z h w := fun a b k z vs A V B => ⟨fun q => own_ne_arr A wi A0 q, fun q => by
  subst q
  obtain ⟨c1, ⟨e1, ⟨-, k1, hk1, comp1, hd1⟩, -⟩, -⟩ := A0
  obtain ⟨c2, ⟨e2, ⟨-, k2, hk2, comp2, hd2⟩, -⟩, -⟩ := B
  cases e1.symm.trans e2
  cases hk1.symm.trans hk2
  rw [hd1] at hd2
  cases hd2
  exact ht rfl⟩
theorem KS.wr {sl : Nat} {v : Value} (K : KS Z KL vm0 h) (W : Wr h h' w sl v) (q : NoS Z h w) : KS Z KL vm0 h' := by
  obtain ⟨Ts, I, H⟩ := K
  refine ⟨Ts, I, fun x hx => (H x hx).imp id ?_⟩
  rintro ⟨a, b, k, L, A, C, V, B⟩
  obtain ⟨q1, q2⟩ := q a b k _ _ A V B
  exact ⟨a, b, k, L, A.wr W, C.other W (Or.inl q1), V.other W (Or.inl q1), B.other W q2⟩
theorem KS.keep {ws : List Addr} (K : KS Z KL vm0 h) (P : Keep h h' ws) (q : ∀ w ∈ ws, NoS Z h w) : KS Z KL vm0 h' := by
  obtain ⟨Ts, I, H⟩ := K
  refine ⟨Ts, I, fun x hx => (H x hx).imp id ?_⟩
  rintro ⟨a, b, k, L, A, C, V, B⟩
  have q1 : a ∉ ws := fun hm => (q a hm a b k _ _ A V B).1 rfl
  have q2 : b ∉ ws := fun hm => (q b hm a b k _ _ A V B).2 rfl
  exact ⟨a, b, k, L, A.keep P, C.keep P q1, V.keep P q1, B.keep P q2⟩
theorem KS.at_ (K : KS Z KL vm0 h) (hW : (s.setVm vm0).WarmedH vm1) : KS Z KL vm1 h := by
  obtain ⟨Ts, ⟨more, e1, e2⟩, H⟩ := K
  refine ⟨Ts, ⟨more, by rw [← e1]; exact hW.interned_eq, e2⟩, fun x hx => (H x hx).imp id ?_⟩
  rintro ⟨a, b, k, L, r⟩
  exact ⟨a, b, k, Lit.stays (s := s) L hW.wide, r⟩
theorem KS.start : KS Z KL Z.vm h := ⟨[], IB.start, fun x hx => Or.inl (by simp)⟩
theorem own_ldcK (X : Stand p l e R (s.setVm vm0) m args below meth c T locs cells slots) (hx : p.tables.exec = Jvm.exec) (hZ : Z.Warmed39 vm0) (hown : vm0.findClass own = some m.cls) (w : (Cond.stringLink own index text).before a0 Z = true) (wS : ∀ a ∈ Bundle.stringAtoms, a.before a0 Z = true)
    (eT : T.heap = h) {k0 : Nat} (hS : s.Since vm0 k0) (hk : k0 ≤ h.size) (N : Fr s.heap.size locs) (hkeep : ∀ (b : Addr) (cl : Cell), Z.heap[b]? = some cl → s.heap[b]? = some cl) (K : KS Z KL vm0 h) (hm : (own, index, text, z, vs) ∈ KL) (hdis : ∀ y ∈ KL, y.2.2.1 = text → y = (own, index, text, z, vs)) (hh : Jvm.Lit.constHeld Z own index) (hcw : Jvm.Lit.compactW.before a0 Z = true)
    (ht : (∀ c ∈ text.toList, c.toNat < 256) ∧ text.toList.map (fun c => Value.int (Jvm.Lit.byteI c.toNat.toUInt16)) = vs) (hz : ¬ z < 0) (hl : z.toNatClampNeg = vs.length)
    {g : JFrame} (hg : g.method = m) (hd : decode c.code g.pc = .ok (.ldc index, 2)) {n : Nat} (hn : 4 * text.toList.length ≤ n) (hbig : n ≤ 536870912) (hc : cells + 2 ≤ R.cells) (hl' : slots + (n + 4) ≤ R.slots) :
    ∃ (a : Addr) (T' : State) (h' : Heap) (vm1 : Vm) (k1 : Nat) (b : Addr) (k : ClassId), Stand p l e R (s.setVm vm1) m args below meth c T' locs (cells + 2) (slots + (n + 4)) ∧ T'.heap = h' ∧ Ext h h' ∧ s.Since vm1 k1 ∧ k1 ≤ h'.size ∧ Z.Warmed39 (s.setVm vm1).vm ∧ (s.setVm vm1).vm.findClass own = some m.cls ∧
      Exa Z h' a "java/lang/String" ∧ Fld Z h' a "java/lang/String" "coder" "B" (.int 0) ∧ Fld Z h' a "java/lang/String" "value" "[B" (.ref b) ∧ Arv Z h' b k .byte z vs (.int 0) ∧ Lit (Z.setVm vm1) own index a ∧ KS Z KL vm1 h' ∧
      ∀ target, Steps p.tables e below (T'.setTop { g with pc := g.pc + 2, stack := .ref a :: g.stack }) target → Steps p.tables e below (T.setTop g) target := by
  obtain ⟨Ts, I, H⟩ := K
  rcases H _ hm with hnot | ⟨a, b, k, L, A, C, V, B⟩
  · obtain ⟨a, T', h', k1, b, k, X', e', E', S', hk', hZ', hown', A, C, V, B, -, -, I', L', st⟩ := ldcSVL (s := s.setVm vm0) X hx hZ hown w wS eT ((State.WarmedH.refl (s.setVm vm0)).since 0) (Nat.zero_le _) N hkeep I hnot hh hcw ht hz hl hg hd hn hbig hc hl'
    refine ⟨a, T', h', T'.vm, h'.size, b, k, X', e', E', hS.trans ⟨S'.1, S'.2.mono hk'⟩ (Nat.le_trans hk E'.1), Nat.le_refl _, hZ', hown', A, C, V, B, L', ⟨text :: Ts, I', fun y hy => ?_⟩, st⟩
    by_cases hte : y.2.2.1 = text
    · obtain rfl := hdis y hy hte
      exact Or.inr ⟨a, b, k, L', A, C, V, B⟩
    · rcases H y hy with q | ⟨a2, b2, k2, L2, r1, r2, r3, r4⟩
      · exact Or.inl (by simp [hte, q])
      · exact Or.inr ⟨a2, b2, k2, Lit.stays (s := s) L2 S'.1, r1.ext E', r2.ext E', r3.ext E', r4.ext E'⟩
  · exact ⟨a, T, h, vm0, k0, b, k, X.mono (by omega) (by omega), eT, ⟨Nat.le_refl _, fun _ _ q => q⟩, hS, hk, hZ, hown, A, C, V, B, L, ⟨Ts, I, H⟩, ldcAgain X hx hZ hown w L hg hd⟩
end Konst
def own_KL : List (String × Nat × String × Int32 × List Value) := [("com/example/map_rewriter/maprewriter/core/Symbol", 76, "~!@$%^&*_-+=<>.?/", (17 : Int32), [(.int 126), (.int 33), (.int 64), (.int 36), (.int 37), (.int 94), (.int 38), (.int 42), (.int 95), (.int 45), (.int 43), (.int 61), (.int 60), (.int 62), (.int 46), (.int 63), (.int 47)])]
def own_by : Nat → Value := fun i => ([(.int 126), (.int 33), (.int 64), (.int 36), (.int 37), (.int 94), (.int 38), (.int 42), (.int 95), (.int 45), (.int 43), (.int 61), (.int 60), (.int 62), (.int 46), (.int 63), (.int 47)] : List Value).getD i (.int 0)
def own_dig (c_ : Int32) : Int32 := (if c_ < (48 : Int32) then (0 : Int32) else (if (57 : Int32) < c_ then (0 : Int32) else (1 : Int32)))
theorem ef_rm3 (m : MethodId) (c_ : Int32) : entryFrame m #[(.int c_)] 1 = mkF m 0 #[.val (.int c_)] [] := by first | (simp [entryFrame, mkF, argsToLocals, Value.category]; done) | rfl
def Qrm3 (Z : State) (c_ : Int32) (h0 : Heap) (n0 : Nat) (v_ : Option Value) (h_ : Heap) (L_ : List Loc) : Prop := v_ = some (.int (own_dig c_)) ∧ L_ = [] ∧ h_ = h0
theorem pn_com_example_map_rewriter_maprewriter_core_Symbol : plainName "com/example/map_rewriter/maprewriter/core/Symbol" = true := by first | (simp [plainName, overriddenIn]; done) | decide +kernel
theorem d3_0 : decode prog_35_method_6_code 0 = .ok (.iload_n 0, 1) := by decide +kernel
theorem d3_1 : decode prog_35_method_6_code 1 = .ok (.bipush 48, 2) := by decide +kernel
theorem d3_3 : decode prog_35_method_6_code 3 = .ok (.if_icmp .lt 13, 3) := by decide +kernel
theorem d3_16 : decode prog_35_method_6_code 16 = .ok (.iconst 0, 1) := by decide +kernel
theorem d3_17 : decode prog_35_method_6_code 17 = .ok (.ireturn, 1) := by decide +kernel
theorem d3_6 : decode prog_35_method_6_code 6 = .ok (.iload_n 0, 1) := by decide +kernel
theorem d3_7 : decode prog_35_method_6_code 7 = .ok (.bipush 57, 2) := by decide +kernel
theorem d3_9 : decode prog_35_method_6_code 9 = .ok (.if_icmp .gt 7, 3) := by decide +kernel
theorem d3_12 : decode prog_35_method_6_code 12 = .ok (.iconst 1, 1) := by decide +kernel
theorem d3_13 : decode prog_35_method_6_code 13 = .ok (.goto 4, 3) := by decide +kernel
set_option maxRecDepth 65536 in
set_option maxHeartbeats 40000000 in
theorem rm3 (l : Launch) (Z : State) (a0 : Array Value) (hw : ∀ d ∈ tables_1, d.before a0 Z = true) (ws : List Jvm.Cond) (c_ : Int32) (h0 : Heap) (n0 : Nat) (Z0 : n0 ≤ h0.size) :
    MetFree l (⟨"com/example/map_rewriter/maprewriter/core/Symbol", "isDigit", "(I)Z"⟩ : MethodName) (head1 (Jvm.Cond.code (⟨"com/example/map_rewriter/maprewriter/core/Symbol", "isDigit", "(I)Z"⟩ : MethodName) prog_35_method_6_code 1 (some .boolean) :: ws) ({ frames := 0, cells := 0, slots := 0, locals := 0 } : Room)) (fun as_ U_ => as_ = #[(.int c_)] ∧ Z.Warmed39 U_.vm ∧ U_.heap = h0) (fun _ _ _ _ _ => True) (fun _ U_ o_ V_ => ∃ v_ L_, o_ = .returned v_ ∧ Qrm3 Z c_ h0 n0 v_ V_.heap L_ ∧ FrameEnd U_ o_ V_ L_ ({ frames := 0, cells := 0, slots := 0, locals := 0 } : Room).cells ({ frames := 0, cells := 0, slots := 0, locals := 0 } : Room).slots) := by
  refine MetFree.of_bodySF (plainFor_of_name pn_com_example_map_rewriter_maprewriter_core_Symbol) hisR ?_
  intro p e s m args below meth c s₁ Bd hml0 hP hK
  obtain ⟨rfl, hZ, hh⟩ := hP
  have hx := Bd.exec
  have hby := Bd.bytes
  have hlk : meth.locks = false := BodyLoose.notSynchronized Bd
  have hret := Bd.returns
  have hml : c.maxLocals = 1 := hml0
  have hown : s.vm.findClass "com/example/map_rewriter/maprewriter/core/Symbol" = some m.cls := findClass_of_methodNamed Bd.named
  have hnm := (name_of_methodNamed Bd.named Bd.method).1
  have X0 : Stand p l e ({ frames := 0, cells := 0, slots := 0, locals := 0 } : Room) s m #[(.int c_)] below meth c s₁ [] 0 0 := Stand.of_body Bd
  have e0 : s₁.heap = h0 := by rw [← hh, Bd.state]; rfl
  have N0 := Fr.nil n0
  show Goes p e below (Fin_ s (Qrm3 Z c_ h0 n0) ({ frames := 0, cells := 0, slots := 0, locals := 0 } : Room).cells ({ frames := 0, cells := 0, slots := 0, locals := 0 } : Room).slots) (s₁.setTop (entryFrame m #[(.int c_)] 1))
  rw [ef_rm3 m c_]
  refine Goes.via (fun _ kk_ => XS.iloadN X0.here hx rfl (hb hby d3_0) rfl  kk_) ?_
  show Goes p e below _ (s₁.setTop (mkF m 1 #[.val (.int c_)] [(.int c_)]))
  refine Goes.via (fun _ kk_ => XS.bipush X0.here hx rfl (hb hby d3_1) kk_) ?_
  show Goes p e below _ (s₁.setTop (mkF m 3 #[.val (.int c_)] [(.int (48 : Int32)), (.int c_)]))
  by_cases hc3 : c_ < (48 : Int32)
  · skip
    refine Goes.via (fun _ kk_ => XS.icmpYes X0.here hx rfl (pc0 := 3) (pc' := 16) rfl (hb hby d3_3) rfl (tlt hc3).1 (by decide) (by decide) kk_) ?_
    show Goes p e below _ (s₁.setTop (mkF m 16 #[.val (.int c_)] []))
    refine Goes.via (fun _ kk_ => XS.iconst X0.here hx rfl (hb hby d3_16) kk_) ?_
    show Goes p e below _ (s₁.setTop (mkF m 17 #[.val (.int c_)] [(.int (0 : Int32))]))
    exact own_finN X0 hx hlk hret (by simp) (hb hby d3_17) (by rw [e0]; exact ⟨(by first | (rw [own_dig, if_pos hc3]; done) | (rw [own_dig, if_pos hc3]; rfl)), rfl, rfl⟩) (by first | decide | omega | (dsimp only; omega)) (by first | decide | omega | (dsimp only; omega))
  · skip
    refine Goes.via (fun _ kk_ => XS.icmpNo X0.here hx rfl (hb hby d3_3) rfl (flt hc3).1 kk_) ?_
    show Goes p e below _ (s₁.setTop (mkF m 6 #[.val (.int c_)] []))
    refine Goes.via (fun _ kk_ => XS.iloadN X0.here hx rfl (hb hby d3_6) rfl  kk_) ?_
    show Goes p e below _ (s₁.setTop (mkF m 7 #[.val (.int c_)] [(.int c_)]))
    refine Goes.via (fun _ kk_ => XS.bipush X0.here hx rfl (hb hby d3_7) kk_) ?_
    show Goes p e below _ (s₁.setTop (mkF m 9 #[.val (.int c_)] [(.int (57 : Int32)), (.int c_)]))
    by_cases hc9 : (57 : Int32) < c_
    · skip
      refine Goes.via (fun _ kk_ => XS.icmpYes X0.here hx rfl (pc0 := 9) (pc' := 16) rfl (hb hby d3_9) rfl (tlt hc9).2.2.1 (by decide) (by decide) kk_) ?_
      show Goes p e below _ (s₁.setTop (mkF m 16 #[.val (.int c_)] []))
      refine Goes.via (fun _ kk_ => XS.iconst X0.here hx rfl (hb hby d3_16) kk_) ?_
      show Goes p e below _ (s₁.setTop (mkF m 17 #[.val (.int c_)] [(.int (0 : Int32))]))
      exact own_finN X0 hx hlk hret (by simp) (hb hby d3_17) (by rw [e0]; exact ⟨(by first | (rw [own_dig, if_neg hc3, if_pos hc9]; done) | (rw [own_dig, if_neg hc3, if_pos hc9]; rfl)), rfl, rfl⟩) (by first | decide | omega | (dsimp only; omega)) (by first | decide | omega | (dsimp only; omega))
    · skip
      refine Goes.via (fun _ kk_ => XS.icmpNo X0.here hx rfl (hb hby d3_9) rfl (flt hc9).2.2.1 kk_) ?_
      show Goes p e below _ (s₁.setTop (mkF m 12 #[.val (.int c_)] []))
      refine Goes.via (fun _ kk_ => XS.iconst X0.here hx rfl (hb hby d3_12) kk_) ?_
      show Goes p e below _ (s₁.setTop (mkF m 13 #[.val (.int c_)] [(.int (1 : Int32))]))
      refine Goes.via (fun _ kk_ => XS.goto X0.here hx rfl (pc0 := 13) (pc' := 17) rfl (hb hby d3_13) (by decide) (by decide) kk_) ?_
      show Goes p e below _ (s₁.setTop (mkF m 17 #[.val (.int c_)] [(.int (1 : Int32))]))
      exact own_finN X0 hx hlk hret (by simp) (hb hby d3_17) (by rw [e0]; exact ⟨(by first | (rw [own_dig, if_neg hc3, if_neg hc9]; done) | (rw [own_dig, if_neg hc3, if_neg hc9]; rfl)), rfl, rfl⟩) (by first | decide | omega | (dsimp only; omega)) (by first | decide | omega | (dsimp only; omega))
def own_max (x : Int32) (y : Int32) : Int32 := (if x < y then y else x)
theorem ef_rm11 (m : MethodId) (x : Int32) (y : Int32) : entryFrame m #[(.int x), (.int y)] 2 = mkF m 0 #[.val (.int x), .val (.int y)] [] := by first | (simp [entryFrame, mkF, argsToLocals, Value.category]; done) | rfl
def Qrm11 (Z : State) (x : Int32) (y : Int32) (h0 : Heap) (n0 : Nat) (v_ : Option Value) (h_ : Heap) (L_ : List Loc) : Prop := v_ = some (.int (own_max x y)) ∧ L_ = [] ∧ h_ = h0
theorem d11_0 : decode jdk_29_method_65_code 0 = .ok (.iload_n 0, 1) := by decide +kernel
theorem d11_1 : decode jdk_29_method_65_code 1 = .ok (.iload_n 1, 1) := by decide +kernel
theorem d11_2 : decode jdk_29_method_65_code 2 = .ok (.if_icmp .lt 7, 3) := by decide +kernel
theorem d11_9 : decode jdk_29_method_65_code 9 = .ok (.iload_n 1, 1) := by decide +kernel
theorem d11_10 : decode jdk_29_method_65_code 10 = .ok (.ireturn, 1) := by decide +kernel
theorem d11_5 : decode jdk_29_method_65_code 5 = .ok (.iload_n 0, 1) := by decide +kernel
theorem d11_6 : decode jdk_29_method_65_code 6 = .ok (.goto 4, 3) := by decide +kernel
set_option maxRecDepth 65536 in
set_option maxHeartbeats 40000000 in
theorem rm11 (l : Launch) (Z : State) (a0 : Array Value) (hw : ∀ d ∈ tables_1, d.before a0 Z = true) (ws : List Jvm.Cond) (x : Int32) (y : Int32) (h0 : Heap) (n0 : Nat) (Z0 : n0 ≤ h0.size) :
    MetFree l (⟨"java/lang/Math", "max", "(II)I"⟩ : MethodName) (head1 (Jvm.Cond.code (⟨"java/lang/Math", "max", "(II)I"⟩ : MethodName) jdk_29_method_65_code 2 (some .int) :: ws) ({ frames := 0, cells := 0, slots := 0, locals := 0 } : Room)) (fun as_ U_ => as_ = #[(.int x), (.int y)] ∧ Z.Warmed39 U_.vm ∧ U_.heap = h0) (fun _ _ _ _ _ => True) (fun _ U_ o_ V_ => ∃ v_ L_, o_ = .returned v_ ∧ Qrm11 Z x y h0 n0 v_ V_.heap L_ ∧ FrameEnd U_ o_ V_ L_ ({ frames := 0, cells := 0, slots := 0, locals := 0 } : Room).cells ({ frames := 0, cells := 0, slots := 0, locals := 0 } : Room).slots) := by
  refine MetFree.of_bodySF (Jvm.Free.JP.mathPlain rfl (by decide +kernel)) hisR ?_
  intro p e s m args below meth c s₁ Bd hml0 hP hK
  obtain ⟨rfl, hZ, hh⟩ := hP
  have hx := Bd.exec
  have hby := Bd.bytes
  have hlk : meth.locks = false := BodyLoose.notSynchronized Bd
  have hret := Bd.returns
  have hml : c.maxLocals = 2 := hml0
  have hown : s.vm.findClass "java/lang/Math" = some m.cls := findClass_of_methodNamed Bd.named
  have hnm := (name_of_methodNamed Bd.named Bd.method).1
  have X0 : Stand p l e ({ frames := 0, cells := 0, slots := 0, locals := 0 } : Room) s m #[(.int x), (.int y)] below meth c s₁ [] 0 0 := Stand.of_body Bd
  have e0 : s₁.heap = h0 := by rw [← hh, Bd.state]; rfl
  have N0 := Fr.nil n0
  show Goes p e below (Fin_ s (Qrm11 Z x y h0 n0) ({ frames := 0, cells := 0, slots := 0, locals := 0 } : Room).cells ({ frames := 0, cells := 0, slots := 0, locals := 0 } : Room).slots) (s₁.setTop (entryFrame m #[(.int x), (.int y)] 2))
  rw [ef_rm11 m x y]
  refine Goes.via (fun _ kk_ => XS.iloadN X0.here hx rfl (hb hby d11_0) rfl  kk_) ?_
  show Goes p e below _ (s₁.setTop (mkF m 1 #[.val (.int x), .val (.int y)] [(.int x)]))
  refine Goes.via (fun _ kk_ => XS.iloadN X0.here hx rfl (hb hby d11_1) rfl  kk_) ?_
  show Goes p e below _ (s₁.setTop (mkF m 2 #[.val (.int x), .val (.int y)] [(.int y), (.int x)]))
  by_cases hc2 : x < y
  · skip
    refine Goes.via (fun _ kk_ => XS.icmpYes X0.here hx rfl (pc0 := 2) (pc' := 9) rfl (hb hby d11_2) rfl (tlt hc2).1 (by decide) (by decide) kk_) ?_
    show Goes p e below _ (s₁.setTop (mkF m 9 #[.val (.int x), .val (.int y)] []))
    refine Goes.via (fun _ kk_ => XS.iloadN X0.here hx rfl (hb hby d11_9) rfl  kk_) ?_
    show Goes p e below _ (s₁.setTop (mkF m 10 #[.val (.int x), .val (.int y)] [(.int y)]))
    exact own_finI X0 hx hlk hret (hb hby d11_10) (by rw [e0]; exact ⟨(by first | (rw [own_max, if_pos hc2]; done) | (rw [own_max, if_pos hc2]; rfl)), rfl, rfl⟩) (by first | decide | omega | (dsimp only; omega)) (by first | decide | omega | (dsimp only; omega))
  · skip
    refine Goes.via (fun _ kk_ => XS.icmpNo X0.here hx rfl (hb hby d11_2) rfl (flt hc2).1 kk_) ?_
    show Goes p e below _ (s₁.setTop (mkF m 5 #[.val (.int x), .val (.int y)] []))
    refine Goes.via (fun _ kk_ => XS.iloadN X0.here hx rfl (hb hby d11_5) rfl  kk_) ?_
    show Goes p e below _ (s₁.setTop (mkF m 6 #[.val (.int x), .val (.int y)] [(.int x)]))
    refine Goes.via (fun _ kk_ => XS.goto X0.here hx rfl (pc0 := 6) (pc' := 10) rfl (hb hby d11_6) (by decide) (by decide) kk_) ?_
    show Goes p e below _ (s₁.setTop (mkF m 10 #[.val (.int x), .val (.int y)] [(.int x)]))
    exact own_finI X0 hx hlk hret (hb hby d11_10) (by rw [e0]; exact ⟨(by first | (rw [own_max, if_neg hc2]; done) | (rw [own_max, if_neg hc2]; rfl)), rfl, rfl⟩) (by first | decide | omega | (dsimp only; omega)) (by first | decide | omega | (dsimp only; omega))
def own_min (x : Int32) (y : Int32) : Int32 := (if y < x then y else x)
theorem ef_rm12 (m : MethodId) (x : Int32) (y : Int32) : entryFrame m #[(.int x), (.int y)] 2 = mkF m 0 #[.val (.int x), .val (.int y)] [] := by first | (simp [entryFrame, mkF, argsToLocals, Value.category]; done) | rfl
def Qrm12 (Z : State) (x : Int32) (y : Int32) (h0 : Heap) (n0 : Nat) (v_ : Option Value) (h_ : Heap) (L_ : List Loc) : Prop := v_ = some (.int (own_min x y)) ∧ L_ = [] ∧ h_ = h0
theorem d12_0 : decode jdk_29_method_69_code 0 = .ok (.iload_n 0, 1) := by decide +kernel
theorem d12_1 : decode jdk_29_method_69_code 1 = .ok (.iload_n 1, 1) := by decide +kernel
theorem d12_2 : decode jdk_29_method_69_code 2 = .ok (.if_icmp .gt 7, 3) := by decide +kernel
theorem d12_9 : decode jdk_29_method_69_code 9 = .ok (.iload_n 1, 1) := by decide +kernel
theorem d12_10 : decode jdk_29_method_69_code 10 = .ok (.ireturn, 1) := by decide +kernel
theorem d12_5 : decode jdk_29_method_69_code 5 = .ok (.iload_n 0, 1) := by decide +kernel
theorem d12_6 : decode jdk_29_method_69_code 6 = .ok (.goto 4, 3) := by decide +kernel
set_option maxRecDepth 65536 in
set_option maxHeartbeats 40000000 in
theorem rm12 (l : Launch) (Z : State) (a0 : Array Value) (hw : ∀ d ∈ tables_1, d.before a0 Z = true) (ws : List Jvm.Cond) (x : Int32) (y : Int32) (h0 : Heap) (n0 : Nat) (Z0 : n0 ≤ h0.size) :
    MetFree l (⟨"java/lang/Math", "min", "(II)I"⟩ : MethodName) (head1 (Jvm.Cond.code (⟨"java/lang/Math", "min", "(II)I"⟩ : MethodName) jdk_29_method_69_code 2 (some .int) :: ws) ({ frames := 0, cells := 0, slots := 0, locals := 0 } : Room)) (fun as_ U_ => as_ = #[(.int x), (.int y)] ∧ Z.Warmed39 U_.vm ∧ U_.heap = h0) (fun _ _ _ _ _ => True) (fun _ U_ o_ V_ => ∃ v_ L_, o_ = .returned v_ ∧ Qrm12 Z x y h0 n0 v_ V_.heap L_ ∧ FrameEnd U_ o_ V_ L_ ({ frames := 0, cells := 0, slots := 0, locals := 0 } : Room).cells ({ frames := 0, cells := 0, slots := 0, locals := 0 } : Room).slots) := by
  refine MetFree.of_bodySF (Jvm.Free.JP.mathPlain rfl (by decide +kernel)) hisR ?_
  intro p e s m args below meth c s₁ Bd hml0 hP hK
  obtain ⟨rfl, hZ, hh⟩ := hP
  have hx := Bd.exec
  have hby := Bd.bytes
  have hlk : meth.locks = false := BodyLoose.notSynchronized Bd
  have hret := Bd.returns
  have hml : c.maxLocals = 2 := hml0
  have hown : s.vm.findClass "java/lang/Math" = some m.cls := findClass_of_methodNamed Bd.named
  have hnm := (name_of_methodNamed Bd.named Bd.method).1
  have X0 : Stand p l e ({ frames := 0, cells := 0, slots := 0, locals := 0 } : Room) s m #[(.int x), (.int y)] below meth c s₁ [] 0 0 := Stand.of_body Bd
  have e0 : s₁.heap = h0 := by rw [← hh, Bd.state]; rfl
  have N0 := Fr.nil n0
  show Goes p e below (Fin_ s (Qrm12 Z x y h0 n0) ({ frames := 0, cells := 0, slots := 0, locals := 0 } : Room).cells ({ frames := 0, cells := 0, slots := 0, locals := 0 } : Room).slots) (s₁.setTop (entryFrame m #[(.int x), (.int y)] 2))
  rw [ef_rm12 m x y]
  refine Goes.via (fun _ kk_ => XS.iloadN X0.here hx rfl (hb hby d12_0) rfl  kk_) ?_
  show Goes p e below _ (s₁.setTop (mkF m 1 #[.val (.int x), .val (.int y)] [(.int x)]))
  refine Goes.via (fun _ kk_ => XS.iloadN X0.here hx rfl (hb hby d12_1) rfl  kk_) ?_
  show Goes p e below _ (s₁.setTop (mkF m 2 #[.val (.int x), .val (.int y)] [(.int y), (.int x)]))
  by_cases hc2 : y < x
  · skip
    refine Goes.via (fun _ kk_ => XS.icmpYes X0.here hx rfl (pc0 := 2) (pc' := 9) rfl (hb hby d12_2) rfl (tlt hc2).2.2.1 (by decide) (by decide) kk_) ?_
    show Goes p e below _ (s₁.setTop (mkF m 9 #[.val (.int x), .val (.int y)] []))
    refine Goes.via (fun _ kk_ => XS.iloadN X0.here hx rfl (hb hby d12_9) rfl  kk_) ?_
    show Goes p e below _ (s₁.setTop (mkF m 10 #[.val (.int x), .val (.int y)] [(.int y)]))
    exact own_finI X0 hx hlk hret (hb hby d12_10) (by rw [e0]; exact ⟨(by first | (rw [own_min, if_pos hc2]; done) | (rw [own_min, if_pos hc2]; rfl)), rfl, rfl⟩) (by first | decide | omega | (dsimp only; omega)) (by first | decide | omega | (dsimp only; omega))
  · skip
    refine Goes.via (fun _ kk_ => XS.icmpNo X0.here hx rfl (hb hby d12_2) rfl (flt hc2).2.2.1 kk_) ?_
    show Goes p e below _ (s₁.setTop (mkF m 5 #[.val (.int x), .val (.int y)] []))
    refine Goes.via (fun _ kk_ => XS.iloadN X0.here hx rfl (hb hby d12_5) rfl  kk_) ?_
    show Goes p e below _ (s₁.setTop (mkF m 6 #[.val (.int x), .val (.int y)] [(.int x)]))
    refine Goes.via (fun _ kk_ => XS.goto X0.here hx rfl (pc0 := 6) (pc' := 10) rfl (hb hby d12_6) (by decide) (by decide) kk_) ?_
    show Goes p e below _ (s₁.setTop (mkF m 10 #[.val (.int x), .val (.int y)] [(.int x)]))
    exact own_finI X0 hx hlk hret (hb hby d12_10) (by rw [e0]; exact ⟨(by first | (rw [own_min, if_neg hc2]; done) | (rw [own_min, if_neg hc2]; rfl)), rfl, rfl⟩) (by first | decide | omega | (dsimp only; omega)) (by first | decide | omega | (dsimp only; omega))
def own_enc (c_ : Int32) : Int32 := (if c_ < (0 : Int32) then (0 : Int32) else (if (255 : Int32) < c_ then (0 : Int32) else (1 : Int32)))
theorem ef_rm10 (m : MethodId) (c_ : Int32) : entryFrame m #[(.int c_)] 1 = mkF m 0 #[.val (.int c_)] [] := by first | (simp [entryFrame, mkF, argsToLocals, Value.category]; done) | rfl
def Qrm10 (Z : State) (c_ : Int32) (h0 : Heap) (n0 : Nat) (v_ : Option Value) (h_ : Heap) (L_ : List Loc) : Prop := v_ = some (.int (own_enc c_)) ∧ L_ = [] ∧ h_ = h0
theorem pn_java_lang_StringLatin1 : plainName "java/lang/StringLatin1" = true := by first | (simp [plainName, overriddenIn]; done) | decide +kernel
theorem d10_0 : decode jdk_43_method_4_code 0 = .ok (.iload_n 0, 1) := by decide +kernel
theorem d10_1 : decode jdk_43_method_4_code 1 = .ok (.ifCond .lt 14, 3) := by decide +kernel
theorem d10_15 : decode jdk_43_method_4_code 15 = .ok (.iconst 0, 1) := by decide +kernel
theorem d10_16 : decode jdk_43_method_4_code 16 = .ok (.ireturn, 1) := by decide +kernel
theorem d10_4 : decode jdk_43_method_4_code 4 = .ok (.iload_n 0, 1) := by decide +kernel
theorem d10_5 : decode jdk_43_method_4_code 5 = .ok (.sipush 255, 3) := by decide +kernel
theorem d10_8 : decode jdk_43_method_4_code 8 = .ok (.if_icmp .gt 7, 3) := by decide +kernel
theorem d10_11 : decode jdk_43_method_4_code 11 = .ok (.iconst 1, 1) := by decide +kernel
theorem d10_12 : decode jdk_43_method_4_code 12 = .ok (.goto 4, 3) := by decide +kernel
set_option maxRecDepth 65536 in
set_option maxHeartbeats 40000000 in
theorem rm10 (l : Launch) (Z : State) (a0 : Array Value) (hw : ∀ d ∈ tables_1, d.before a0 Z = true) (ws : List Jvm.Cond) (c_ : Int32) (h0 : Heap) (n0 : Nat) (Z0 : n0 ≤ h0.size) :
    MetFree l (⟨"java/lang/StringLatin1", "canEncode", "(I)Z"⟩ : MethodName) (head1 (Jvm.Cond.code (⟨"java/lang/StringLatin1", "canEncode", "(I)Z"⟩ : MethodName) jdk_43_method_4_code 1 (some .boolean) :: ws) ({ frames := 0, cells := 0, slots := 0, locals := 0 } : Room)) (fun as_ U_ => as_ = #[(.int c_)] ∧ Z.Warmed39 U_.vm ∧ U_.heap = h0) (fun _ _ _ _ _ => True) (fun _ U_ o_ V_ => ∃ v_ L_, o_ = .returned v_ ∧ Qrm10 Z c_ h0 n0 v_ V_.heap L_ ∧ FrameEnd U_ o_ V_ L_ ({ frames := 0, cells := 0, slots := 0, locals := 0 } : Room).cells ({ frames := 0, cells := 0, slots := 0, locals := 0 } : Room).slots) := by
  refine MetFree.of_bodySF (plainFor_of_name pn_java_lang_StringLatin1) hisR ?_
  intro p e s m args below meth c s₁ Bd hml0 hP hK
  obtain ⟨rfl, hZ, hh⟩ := hP
  have hx := Bd.exec
  have hby := Bd.bytes
  have hlk : meth.locks = false := BodyLoose.notSynchronized Bd
  have hret := Bd.returns
  have hml : c.maxLocals = 1 := hml0
  have hown : s.vm.findClass "java/lang/StringLatin1" = some m.cls := findClass_of_methodNamed Bd.named
  have hnm := (name_of_methodNamed Bd.named Bd.method).1
  have X0 : Stand p l e ({ frames := 0, cells := 0, slots := 0, locals := 0 } : Room) s m #[(.int c_)] below meth c s₁ [] 0 0 := Stand.of_body Bd
  have e0 : s₁.heap = h0 := by rw [← hh, Bd.state]; rfl
  have N0 := Fr.nil n0
  show Goes p e below (Fin_ s (Qrm10 Z c_ h0 n0) ({ frames := 0, cells := 0, slots := 0, locals := 0 } : Room).cells ({ frames := 0, cells := 0, slots := 0, locals := 0 } : Room).slots) (s₁.setTop (entryFrame m #[(.int c_)] 1))
  rw [ef_rm10 m c_]
  refine Goes.via (fun _ kk_ => XS.iloadN X0.here hx rfl (hb hby d10_0) rfl  kk_) ?_
  show Goes p e below _ (s₁.setTop (mkF m 1 #[.val (.int c_)] [(.int c_)]))
  by_cases hc1 : c_ < (0 : Int32)
  · skip
    refine Goes.via (fun _ kk_ => XS.ifYes X0.here hx rfl (pc0 := 1) (pc' := 15) rfl (hb hby d10_1) rfl ((if0 _ _).trans (tlt hc1).1) (by decide) (by decide) kk_) ?_
    show Goes p e below _ (s₁.setTop (mkF m 15 #[.val (.int c_)] []))
    refine Goes.via (fun _ kk_ => XS.iconst X0.here hx rfl (hb hby d10_15) kk_) ?_
    show Goes p e below _ (s₁.setTop (mkF m 16 #[.val (.int c_)] [(.int (0 : Int32))]))
    exact own_finN X0 hx hlk hret (by simp) (hb hby d10_16) (by rw [e0]; exact ⟨(by first | (rw [own_enc, if_pos hc1]; done) | (rw [own_enc, if_pos hc1]; rfl)), rfl, rfl⟩) (by first | decide | omega | (dsimp only; omega)) (by first | decide | omega | (dsimp only; omega))
  · skip
    refine Goes.via (fun _ kk_ => XS.ifNo X0.here hx rfl (hb hby d10_1) rfl ((if0 _ _).trans (flt hc1).1) kk_) ?_
    show Goes p e below _ (s₁.setTop (mkF m 4 #[.val (.int c_)] []))
    refine Goes.via (fun _ kk_ => XS.iloadN X0.here hx rfl (hb hby d10_4) rfl  kk_) ?_
    show Goes p e below _ (s₁.setTop (mkF m 5 #[.val (.int c_)] [(.int c_)]))
    refine Goes.via (fun _ kk_ => XS.sipush X0.here hx rfl (hb hby d10_5) kk_) ?_
    show Goes p e below _ (s₁.setTop (mkF m 8 #[.val (.int c_)] [(.int (255 : Int32)), (.int c_)]))
    by_cases hc8 : (255 : Int32) < c_
    · skip
      refine Goes.via (fun _ kk_ => XS.icmpYes X0.here hx rfl (pc0 := 8) (pc' := 15) rfl (hb hby d10_8) rfl (tlt hc8).2.2.1 (by decide) (by decide) kk_) ?_
      show Goes p e below _ (s₁.setTop (mkF m 15 #[.val (.int c_)] []))
      refine Goes.via (fun _ kk_ => XS.iconst X0.here hx rfl (hb hby d10_15) kk_) ?_
      show Goes p e below _ (s₁.setTop (mkF m 16 #[.val (.int c_)] [(.int (0 : Int32))]))
      exact own_finN X0 hx hlk hret (by simp) (hb hby d10_16) (by rw [e0]; exact ⟨(by first | (rw [own_enc, if_neg hc1, if_pos hc8]; done) | (rw [own_enc, if_neg hc1, if_pos hc8]; rfl)), rfl, rfl⟩) (by first | decide | omega | (dsimp only; omega)) (by first | decide | omega | (dsimp only; omega))
    · skip
      refine Goes.via (fun _ kk_ => XS.icmpNo X0.here hx rfl (hb hby d10_8) rfl (flt hc8).2.2.1 kk_) ?_
      show Goes p e below _ (s₁.setTop (mkF m 11 #[.val (.int c_)] []))
      refine Goes.via (fun _ kk_ => XS.iconst X0.here hx rfl (hb hby d10_11) kk_) ?_
      show Goes p e below _ (s₁.setTop (mkF m 12 #[.val (.int c_)] [(.int (1 : Int32))]))
      refine Goes.via (fun _ kk_ => XS.goto X0.here hx rfl (pc0 := 12) (pc' := 16) rfl (hb hby d10_12) (by decide) (by decide) kk_) ?_
      show Goes p e below _ (s₁.setTop (mkF m 16 #[.val (.int c_)] [(.int (1 : Int32))]))
      exact own_finN X0 hx hlk hret (by simp) (hb hby d10_16) (by rw [e0]; exact ⟨(by first | (rw [own_enc, if_neg hc1, if_neg hc8]; done) | (rw [own_enc, if_neg hc1, if_neg hc8]; rfl)), rfl, rfl⟩) (by first | decide | omega | (dsimp only; omega)) (by first | decide | omega | (dsimp only; omega))
def own_exp (c_ : Int32) : Int32 := (if c_ < (97 : Int32) then (if c_ < (65 : Int32) then (if c_ < (48 : Int32) then (if c_ = (126 : Int32) then (1 : Int32) else (if c_ = (33 : Int32) then (1 : Int32) else (if c_ = (64 : Int32) then (1 : Int32) else (if c_ = (36 : Int32) then (1 : Int32) else (if c_ = (37 : Int32) then (1 : Int32) else (if c_ = (94 : Int32) then (1 : Int32) else (if c_ = (38 : Int32) then (1 : Int32) else (if c_ = (42 : Int32) then (1 : Int32) else (if c_ = (95 : Int32) then (1 : Int32) else (if c_ = (45 : Int32) then (1 : Int32) else (if c_ = (43 : Int32) then (1 : Int32) else (if c_ = (61 : Int32) then (1 : Int32) else (if c_ = (60 : Int32) then (1 : Int32) else (if c_ = (62 : Int32) then (1 : Int32) else (if c_ = (46 : Int32) then (1 : Int32) else (if c_ = (63 : Int32) then (1 : Int32) else (if c_ = (47 : Int32) then (1 : Int32) else (0 : Int32)))))))))))))))))) else (if (57 : Int32) < c_ then (if c_ = (126 : Int32) then (1 : Int32) else (if c_ = (33 : Int32) then (1 : Int32) else (if c_ = (64 : Int32) then (1 : Int32) else (if c_ = (36 : Int32) then (1 : Int32) else (if c_ = (37 : Int32) then (1 : Int32) else (if c_ = (94 : Int32) then (1 : Int32) else (if c_ = (38 : Int32) then (1 : Int32) else (if c_ = (42 : Int32) then (1 : Int32) else (if c_ = (95 : Int32) then (1 : Int32) else (if c_ = (45 : Int32) then (1 : Int32) else (if c_ = (43 : Int32) then (1 : Int32) else (if c_ = (61 : Int32) then (1 : Int32) else (if c_ = (60 : Int32) then (1 : Int32) else (if c_ = (62 : Int32) then (1 : Int32) else (if c_ = (46 : Int32) then (1 : Int32) else (if c_ = (63 : Int32) then (1 : Int32) else (if c_ = (47 : Int32) then (1 : Int32) else (0 : Int32)))))))))))))))))) else (1 : Int32))) else (if (90 : Int32) < c_ then (if c_ < (48 : Int32) then (if c_ = (126 : Int32) then (1 : Int32) else (if c_ = (33 : Int32) then (1 : Int32) else (if c_ = (64 : Int32) then (1 : Int32) else (if c_ = (36 : Int32) then (1 : Int32) else (if c_ = (37 : Int32) then (1 : Int32) else (if c_ = (94 : Int32) then (1 : Int32) else (if c_ = (38 : Int32) then (1 : Int32) else (if c_ = (42 : Int32) then (1 : Int32) else (if c_ = (95 : Int32) then (1 : Int32) else (if c_ = (45 : Int32) then (1 : Int32) else (if c_ = (43 : Int32) then (1 : Int32) else (if c_ = (61 : Int32) then (1 : Int32) else (if c_ = (60 : Int32) then (1 : Int32) else (if c_ = (62 : Int32) then (1 : Int32) else (if c_ = (46 : Int32) then (1 : Int32) else (if c_ = (63 : Int32) then (1 : Int32) else (if c_ = (47 : Int32) then (1 : Int32) else (0 : Int32)))))))))))))))))) else (if (57 : Int32) < c_ then (if c_ = (126 : Int32) then (1 : Int32) else (if c_ = (33 : Int32) then (1 : Int32) else (if c_ = (64 : Int32) then (1 : Int32) else (if c_ = (36 : Int32) then (1 : Int32) else (if c_ = (37 : Int32) then (1 : Int32) else (if c_ = (94 : Int32) then (1 : Int32) else (if c_ = (38 : Int32) then (1 : Int32) else (if c_ = (42 : Int32) then (1 : Int32) else (if c_ = (95 : Int32) then (1 : Int32) else (if c_ = (45 : Int32) then (1 : Int32) else (if c_ = (43 : Int32) then (1 : Int32) else (if c_ = (61 : Int32) then (1 : Int32) else (if c_ = (60 : Int32) then (1 : Int32) else (if c_ = (62 : Int32) then (1 : Int32) else (if c_ = (46 : Int32) then (1 : Int32) else (if c_ = (63 : Int32) then (1 : Int32) else (if c_ = (47 : Int32) then (1 : Int32) else (0 : Int32)))))))))))))))))) else (1 : Int32))) else (1 : Int32))) else (if (122 : Int32) < c_ then (if c_ < (65 : Int32) then (if c_ < (48 : Int32) then (if c_ = (126 : Int32) then (1 : Int32) else (if c_ = (33 : Int32) then (1 : Int32) else (if c_ = (64 : Int32) then (1 : Int32) else (if c_ = (36 : Int32) then (1 : Int32) else (if c_ = (37 : Int32) then (1 : Int32) else (if c_ = (94 : Int32) then (1 : Int32) else (if c_ = (38 : Int32) then (1 : Int32) else (if c_ = (42 : Int32) then (1 : Int32) else (if c_ = (95 : Int32) then (1 : Int32) else (if c_ = (45 : Int32) then (1 : Int32) else (if c_ = (43 : Int32) then (1 : Int32) else (if c_ = (61 : Int32) then (1 : Int32) else (if c_ = (60 : Int32) then (1 : Int32) else (if c_ = (62 : Int32) then (1 : Int32) else (if c_ = (46 : Int32) then (1 : Int32) else (if c_ = (63 : Int32) then (1 : Int32) else (if c_ = (47 : Int32) then (1 : Int32) else (0 : Int32)))))))))))))))))) else (if (57 : Int32) < c_ then (if c_ = (126 : Int32) then (1 : Int32) else (if c_ = (33 : Int32) then (1 : Int32) else (if c_ = (64 : Int32) then (1 : Int32) else (if c_ = (36 : Int32) then (1 : Int32) else (if c_ = (37 : Int32) then (1 : Int32) else (if c_ = (94 : Int32) then (1 : Int32) else (if c_ = (38 : Int32) then (1 : Int32) else (if c_ = (42 : Int32) then (1 : Int32) else (if c_ = (95 : Int32) then (1 : Int32) else (if c_ = (45 : Int32) then (1 : Int32) else (if c_ = (43 : Int32) then (1 : Int32) else (if c_ = (61 : Int32) then (1 : Int32) else (if c_ = (60 : Int32) then (1 : Int32) else (if c_ = (62 : Int32) then (1 : Int32) else (if c_ = (46 : Int32) then (1 : Int32) else (if c_ = (63 : Int32) then (1 : Int32) else (if c_ = (47 : Int32) then (1 : Int32) else (0 : Int32)))))))))))))))))) else (1 : Int32))) else (if (90 : Int32) < c_ then (if c_ < (48 : Int32) then (if c_ = (126 : Int32) then (1 : Int32) else (if c_ = (33 : Int32) then (1 : Int32) else (if c_ = (64 : Int32) then (1 : Int32) else (if c_ = (36 : Int32) then (1 : Int32) else (if c_ = (37 : Int32) then (1 : Int32) else (if c_ = (94 : Int32) then (1 : Int32) else (if c_ = (38 : Int32) then (1 : Int32) else (if c_ = (42 : Int32) then (1 : Int32) else (if c_ = (95 : Int32) then (1 : Int32) else (if c_ = (45 : Int32) then (1 : Int32) else (if c_ = (43 : Int32) then (1 : Int32) else (if c_ = (61 : Int32) then (1 : Int32) else (if c_ = (60 : Int32) then (1 : Int32) else (if c_ = (62 : Int32) then (1 : Int32) else (if c_ = (46 : Int32) then (1 : Int32) else (if c_ = (63 : Int32) then (1 : Int32) else (if c_ = (47 : Int32) then (1 : Int32) else (0 : Int32)))))))))))))))))) else (if (57 : Int32) < c_ then (if c_ = (126 : Int32) then (1 : Int32) else (if c_ = (33 : Int32) then (1 : Int32) else (if c_ = (64 : Int32) then (1 : Int32) else (if c_ = (36 : Int32) then (1 : Int32) else (if c_ = (37 : Int32) then (1 : Int32) else (if c_ = (94 : Int32) then (1 : Int32) else (if c_ = (38 : Int32) then (1 : Int32) else (if c_ = (42 : Int32) then (1 : Int32) else (if c_ = (95 : Int32) then (1 : Int32) else (if c_ = (45 : Int32) then (1 : Int32) else (if c_ = (43 : Int32) then (1 : Int32) else (if c_ = (61 : Int32) then (1 : Int32) else (if c_ = (60 : Int32) then (1 : Int32) else (if c_ = (62 : Int32) then (1 : Int32) else (if c_ = (46 : Int32) then (1 : Int32) else (if c_ = (63 : Int32) then (1 : Int32) else (if c_ = (47 : Int32) then (1 : Int32) else (0 : Int32)))))))))))))))))) else (1 : Int32))) else (1 : Int32))) else (1 : Int32)))
theorem ef_rm14 (m : MethodId) (c_ : Int32) : entryFrame m #[(.int c_)] 1 = mkF m 0 #[.val (.int c_)] [] := by first | (simp [entryFrame, mkF, argsToLocals, Value.category]; done) | rfl
def Qrm14 (Z : State) (c_ : Int32) (h0 : Heap) (n0 : Nat) (v_ : Option Value) (h_ : Heap) (L_ : List Loc) : Prop := v_ = some (.int (own_exp c_)) ∧ L_ = [] ∧ h_ = h0
theorem pn_com_example_map_rewriter_maprewriter_core_SymbolIsSymbolCharacterPinLaw : plainName "com/example/map_rewriter/maprewriter/core/SymbolIsSymbolCharacterPinLaw" = true := by first | (simp [plainName, overriddenIn]; done) | decide +kernel
theorem d14_0 : decode method_2_code 0 = .ok (.iload_n 0, 1) := by decide +kernel
theorem d14_1 : decode method_2_code 1 = .ok (.bipush 97, 2) := by decide +kernel
theorem d14_3 : decode method_2_code 3 = .ok (.if_icmp .lt 11, 3) := by decide +kernel
theorem d14_14 : decode method_2_code 14 = .ok (.iload_n 0, 1) := by decide +kernel
theorem d14_15 : decode method_2_code 15 = .ok (.bipush 65, 2) := by decide +kernel
theorem d14_17 : decode method_2_code 17 = .ok (.if_icmp .lt 11, 3) := by decide +kernel
theorem d14_28 : decode method_2_code 28 = .ok (.iload_n 0, 1) := by decide +kernel
theorem d14_29 : decode method_2_code 29 = .ok (.bipush 48, 2) := by decide +kernel
theorem d14_31 : decode method_2_code 31 = .ok (.if_icmp .lt 11, 3) := by decide +kernel
theorem d14_42 : decode method_2_code 42 = .ok (.iload_n 0, 1) := by decide +kernel
theorem d14_43 : decode method_2_code 43 = .ok (.bipush 126, 2) := by decide +kernel
theorem d14_45 : decode method_2_code 45 = .ok (.if_icmp .eq 99, 3) := by decide +kernel
theorem d14_144 : decode method_2_code 144 = .ok (.iconst 1, 1) := by decide +kernel
theorem d14_145 : decode method_2_code 145 = .ok (.goto 4, 3) := by decide +kernel
theorem d14_149 : decode method_2_code 149 = .ok (.ireturn, 1) := by decide +kernel
theorem d14_48 : decode method_2_code 48 = .ok (.iload_n 0, 1) := by decide +kernel
theorem d14_49 : decode method_2_code 49 = .ok (.bipush 33, 2) := by decide +kernel
theorem d14_51 : decode method_2_code 51 = .ok (.if_icmp .eq 93, 3) := by decide +kernel
theorem d14_54 : decode method_2_code 54 = .ok (.iload_n 0, 1) := by decide +kernel
theorem d14_55 : decode method_2_code 55 = .ok (.bipush 64, 2) := by decide +kernel
theorem d14_57 : decode method_2_code 57 = .ok (.if_icmp .eq 87, 3) := by decide +kernel
theorem d14_60 : decode method_2_code 60 = .ok (.iload_n 0, 1) := by decide +kernel
theorem d14_61 : decode method_2_code 61 = .ok (.bipush 36, 2) := by decide +kernel
theorem d14_63 : decode method_2_code 63 = .ok (.if_icmp .eq 81, 3) := by decide +kernel
theorem d14_66 : decode method_2_code 66 = .ok (.iload_n 0, 1) := by decide +kernel
theorem d14_67 : decode method_2_code 67 = .ok (.bipush 37, 2) := by decide +kernel
theorem d14_69 : decode method_2_code 69 = .ok (.if_icmp .eq 75, 3) := by decide +kernel
theorem d14_72 : decode method_2_code 72 = .ok (.iload_n 0, 1) := by decide +kernel
theorem d14_73 : decode method_2_code 73 = .ok (.bipush 94, 2) := by decide +kernel
theorem d14_75 : decode method_2_code 75 = .ok (.if_icmp .eq 69, 3) := by decide +kernel
theorem d14_78 : decode method_2_code 78 = .ok (.iload_n 0, 1) := by decide +kernel
theorem d14_79 : decode method_2_code 79 = .ok (.bipush 38, 2) := by decide +kernel
theorem d14_81 : decode method_2_code 81 = .ok (.if_icmp .eq 63, 3) := by decide +kernel
theorem d14_84 : decode method_2_code 84 = .ok (.iload_n 0, 1) := by decide +kernel
theorem d14_85 : decode method_2_code 85 = .ok (.bipush 42, 2) := by decide +kernel
theorem d14_87 : decode method_2_code 87 = .ok (.if_icmp .eq 57, 3) := by decide +kernel
theorem d14_90 : decode method_2_code 90 = .ok (.iload_n 0, 1) := by decide +kernel
theorem d14_91 : decode method_2_code 91 = .ok (.bipush 95, 2) := by decide +kernel
theorem d14_93 : decode method_2_code 93 = .ok (.if_icmp .eq 51, 3) := by decide +kernel
theorem d14_96 : decode method_2_code 96 = .ok (.iload_n 0, 1) := by decide +kernel
theorem d14_97 : decode method_2_code 97 = .ok (.bipush 45, 2) := by decide +kernel
theorem d14_99 : decode method_2_code 99 = .ok (.if_icmp .eq 45, 3) := by decide +kernel
theorem d14_102 : decode method_2_code 102 = .ok (.iload_n 0, 1) := by decide +kernel
theorem d14_103 : decode method_2_code 103 = .ok (.bipush 43, 2) := by decide +kernel
theorem d14_105 : decode method_2_code 105 = .ok (.if_icmp .eq 39, 3) := by decide +kernel
theorem d14_108 : decode method_2_code 108 = .ok (.iload_n 0, 1) := by decide +kernel
theorem d14_109 : decode method_2_code 109 = .ok (.bipush 61, 2) := by decide +kernel
theorem d14_111 : decode method_2_code 111 = .ok (.if_icmp .eq 33, 3) := by decide +kernel
theorem d14_114 : decode method_2_code 114 = .ok (.iload_n 0, 1) := by decide +kernel
theorem d14_115 : decode method_2_code 115 = .ok (.bipush 60, 2) := by decide +kernel
theorem d14_117 : decode method_2_code 117 = .ok (.if_icmp .eq 27, 3) := by decide +kernel
theorem d14_120 : decode method_2_code 120 = .ok (.iload_n 0, 1) := by decide +kernel
theorem d14_121 : decode method_2_code 121 = .ok (.bipush 62, 2) := by decide +kernel
theorem d14_123 : decode method_2_code 123 = .ok (.if_icmp .eq 21, 3) := by decide +kernel
theorem d14_126 : decode method_2_code 126 = .ok (.iload_n 0, 1) := by decide +kernel
theorem d14_127 : decode method_2_code 127 = .ok (.bipush 46, 2) := by decide +kernel
theorem d14_129 : decode method_2_code 129 = .ok (.if_icmp .eq 15, 3) := by decide +kernel
theorem d14_132 : decode method_2_code 132 = .ok (.iload_n 0, 1) := by decide +kernel
theorem d14_133 : decode method_2_code 133 = .ok (.bipush 63, 2) := by decide +kernel
theorem d14_135 : decode method_2_code 135 = .ok (.if_icmp .eq 9, 3) := by decide +kernel
theorem d14_138 : decode method_2_code 138 = .ok (.iload_n 0, 1) := by decide +kernel
theorem d14_139 : decode method_2_code 139 = .ok (.bipush 47, 2) := by decide +kernel
theorem d14_141 : decode method_2_code 141 = .ok (.if_icmp .ne 7, 3) := by decide +kernel
theorem d14_148 : decode method_2_code 148 = .ok (.iconst 0, 1) := by decide +kernel
theorem d14_34 : decode method_2_code 34 = .ok (.iload_n 0, 1) := by decide +kernel
theorem d14_35 : decode method_2_code 35 = .ok (.bipush 57, 2) := by decide +kernel
theorem d14_37 : decode method_2_code 37 = .ok (.if_icmp .gt 5, 3) := by decide +kernel
theorem d14_40 : decode method_2_code 40 = .ok (.iconst 1, 1) := by decide +kernel
theorem d14_41 : decode method_2_code 41 = .ok (.ireturn, 1) := by decide +kernel
theorem d14_20 : decode method_2_code 20 = .ok (.iload_n 0, 1) := by decide +kernel
theorem d14_21 : decode method_2_code 21 = .ok (.bipush 90, 2) := by decide +kernel
theorem d14_23 : decode method_2_code 23 = .ok (.if_icmp .gt 5, 3) := by decide +kernel
theorem d14_26 : decode method_2_code 26 = .ok (.iconst 1, 1) := by decide +kernel
theorem d14_27 : decode method_2_code 27 = .ok (.ireturn, 1) := by decide +kernel
theorem d14_6 : decode method_2_code 6 = .ok (.iload_n 0, 1) := by decide +kernel
theorem d14_7 : decode method_2_code 7 = .ok (.bipush 122, 2) := by decide +kernel
theorem d14_9 : decode method_2_code 9 = .ok (.if_icmp .gt 5, 3) := by decide +kernel
theorem d14_12 : decode method_2_code 12 = .ok (.iconst 1, 1) := by decide +kernel
theorem d14_13 : decode method_2_code 13 = .ok (.ireturn, 1) := by decide +kernel
set_option maxRecDepth 65536 in
set_option maxHeartbeats 40000000 in
theorem rm14 (l : Launch) (Z : State) (a0 : Array Value) (hw : ∀ d ∈ tables_1, d.before a0 Z = true) (ws : List Jvm.Cond) (c_ : Int32) (h0 : Heap) (n0 : Nat) (Z0 : n0 ≤ h0.size) :
    MetFree l (⟨"com/example/map_rewriter/maprewriter/core/SymbolIsSymbolCharacterPinLaw", "expected", "(I)Z"⟩ : MethodName) (head1 (Jvm.Cond.code (⟨"com/example/map_rewriter/maprewriter/core/SymbolIsSymbolCharacterPinLaw", "expected", "(I)Z"⟩ : MethodName) method_2_code 1 (some .boolean) :: ws) ({ frames := 0, cells := 0, slots := 0, locals := 0 } : Room)) (fun as_ U_ => as_ = #[(.int c_)] ∧ Z.Warmed39 U_.vm ∧ U_.heap = h0) (fun _ _ _ _ _ => True) (fun _ U_ o_ V_ => ∃ v_ L_, o_ = .returned v_ ∧ Qrm14 Z c_ h0 n0 v_ V_.heap L_ ∧ FrameEnd U_ o_ V_ L_ ({ frames := 0, cells := 0, slots := 0, locals := 0 } : Room).cells ({ frames := 0, cells := 0, slots := 0, locals := 0 } : Room).slots) := by
  refine MetFree.of_bodySF (plainFor_of_name pn_com_example_map_rewriter_maprewriter_core_SymbolIsSymbolCharacterPinLaw) hisR ?_
  intro p e s m args below meth c s₁ Bd hml0 hP hK
  obtain ⟨rfl, hZ, hh⟩ := hP
  have hx := Bd.exec
  have hby := Bd.bytes
  have hlk : meth.locks = false := BodyLoose.notSynchronized Bd
  have hret := Bd.returns
  have hml : c.maxLocals = 1 := hml0
  have hown : s.vm.findClass "com/example/map_rewriter/maprewriter/core/SymbolIsSymbolCharacterPinLaw" = some m.cls := findClass_of_methodNamed Bd.named
  have hnm := (name_of_methodNamed Bd.named Bd.method).1
  have X0 : Stand p l e ({ frames := 0, cells := 0, slots := 0, locals := 0 } : Room) s m #[(.int c_)] below meth c s₁ [] 0 0 := Stand.of_body Bd
  have e0 : s₁.heap = h0 := by rw [← hh, Bd.state]; rfl
  have N0 := Fr.nil n0
  show Goes p e below (Fin_ s (Qrm14 Z c_ h0 n0) ({ frames := 0, cells := 0, slots := 0, locals := 0 } : Room).cells ({ frames := 0, cells := 0, slots := 0, locals := 0 } : Room).slots) (s₁.setTop (entryFrame m #[(.int c_)] 1))
  rw [ef_rm14 m c_]
  refine Goes.via (fun _ kk_ => XS.iloadN X0.here hx rfl (hb hby d14_0) rfl  kk_) ?_
  show Goes p e below _ (s₁.setTop (mkF m 1 #[.val (.int c_)] [(.int c_)]))
  refine Goes.via (fun _ kk_ => XS.bipush X0.here hx rfl (hb hby d14_1) kk_) ?_
  show Goes p e below _ (s₁.setTop (mkF m 3 #[.val (.int c_)] [(.int (97 : Int32)), (.int c_)]))
  by_cases hc3 : c_ < (97 : Int32)
  · skip
    refine Goes.via (fun _ kk_ => XS.icmpYes X0.here hx rfl (pc0 := 3) (pc' := 14) rfl (hb hby d14_3) rfl (tlt hc3).1 (by decide) (by decide) kk_) ?_
    show Goes p e below _ (s₁.setTop (mkF m 14 #[.val (.int c_)] []))
    refine Goes.via (fun _ kk_ => XS.iloadN X0.here hx rfl (hb hby d14_14) rfl  kk_) ?_
    show Goes p e below _ (s₁.setTop (mkF m 15 #[.val (.int c_)] [(.int c_)]))
    refine Goes.via (fun _ kk_ => XS.bipush X0.here hx rfl (hb hby d14_15) kk_) ?_
    show Goes p e below _ (s₁.setTop (mkF m 17 #[.val (.int c_)] [(.int (65 : Int32)), (.int c_)]))
    by_cases hc17 : c_ < (65 : Int32)
    · skip
      refine Goes.via (fun _ kk_ => XS.icmpYes X0.here hx rfl (pc0 := 17) (pc' := 28) rfl (hb hby d14_17) rfl (tlt hc17).1 (by decide) (by decide) kk_) ?_
      show Goes p e below _ (s₁.setTop (mkF m 28 #[.val (.int c_)] []))
      refine Goes.via (fun _ kk_ => XS.iloadN X0.here hx rfl (hb hby d14_28) rfl  kk_) ?_
      show Goes p e below _ (s₁.setTop (mkF m 29 #[.val (.int c_)] [(.int c_)]))
      refine Goes.via (fun _ kk_ => XS.bipush X0.here hx rfl (hb hby d14_29) kk_) ?_
      show Goes p e below _ (s₁.setTop (mkF m 31 #[.val (.int c_)] [(.int (48 : Int32)), (.int c_)]))
      by_cases hc31 : c_ < (48 : Int32)
      · skip
        refine Goes.via (fun _ kk_ => XS.icmpYes X0.here hx rfl (pc0 := 31) (pc' := 42) rfl (hb hby d14_31) rfl (tlt hc31).1 (by decide) (by decide) kk_) ?_
        show Goes p e below _ (s₁.setTop (mkF m 42 #[.val (.int c_)] []))
        refine Goes.via (fun _ kk_ => XS.iloadN X0.here hx rfl (hb hby d14_42) rfl  kk_) ?_
        show Goes p e below _ (s₁.setTop (mkF m 43 #[.val (.int c_)] [(.int c_)]))
        refine Goes.via (fun _ kk_ => XS.bipush X0.here hx rfl (hb hby d14_43) kk_) ?_
        show Goes p e below _ (s₁.setTop (mkF m 45 #[.val (.int c_)] [(.int (126 : Int32)), (.int c_)]))
        by_cases hc45 : c_ = (126 : Int32)
        · skip
          refine Goes.via (fun _ kk_ => XS.icmpYes X0.here hx rfl (pc0 := 45) (pc' := 144) rfl (hb hby d14_45) rfl (teq hc45).1 (by decide) (by decide) kk_) ?_
          show Goes p e below _ (s₁.setTop (mkF m 144 #[.val (.int c_)] []))
          refine Goes.via (fun _ kk_ => XS.iconst X0.here hx rfl (hb hby d14_144) kk_) ?_
          show Goes p e below _ (s₁.setTop (mkF m 145 #[.val (.int c_)] [(.int (1 : Int32))]))
          refine Goes.via (fun _ kk_ => XS.goto X0.here hx rfl (pc0 := 145) (pc' := 149) rfl (hb hby d14_145) (by decide) (by decide) kk_) ?_
          show Goes p e below _ (s₁.setTop (mkF m 149 #[.val (.int c_)] [(.int (1 : Int32))]))
          exact own_finN X0 hx hlk hret (by simp) (hb hby d14_149) (by rw [e0]; exact ⟨(by first | (rw [own_exp, if_pos hc3, if_pos hc17, if_pos hc31, if_pos hc45]; done) | (rw [own_exp, if_pos hc3, if_pos hc17, if_pos hc31, if_pos hc45]; rfl)), rfl, rfl⟩) (by first | decide | omega | (dsimp only; omega)) (by first | decide | omega | (dsimp only; omega))
        · skip
          refine Goes.via (fun _ kk_ => XS.icmpNo X0.here hx rfl (hb hby d14_45) rfl (feq hc45).1 kk_) ?_
          show Goes p e below _ (s₁.setTop (mkF m 48 #[.val (.int c_)] []))
          refine Goes.via (fun _ kk_ => XS.iloadN X0.here hx rfl (hb hby d14_48) rfl  kk_) ?_
          show Goes p e below _ (s₁.setTop (mkF m 49 #[.val (.int c_)] [(.int c_)]))
          refine Goes.via (fun _ kk_ => XS.bipush X0.here hx rfl (hb hby d14_49) kk_) ?_
          show Goes p e below _ (s₁.setTop (mkF m 51 #[.val (.int c_)] [(.int (33 : Int32)), (.int c_)]))
          by_cases hc51 : c_ = (33 : Int32)
          · skip
            refine Goes.via (fun _ kk_ => XS.icmpYes X0.here hx rfl (pc0 := 51) (pc' := 144) rfl (hb hby d14_51) rfl (teq hc51).1 (by decide) (by decide) kk_) ?_
            show Goes p e below _ (s₁.setTop (mkF m 144 #[.val (.int c_)] []))
            refine Goes.via (fun _ kk_ => XS.iconst X0.here hx rfl (hb hby d14_144) kk_) ?_
            show Goes p e below _ (s₁.setTop (mkF m 145 #[.val (.int c_)] [(.int (1 : Int32))]))
            refine Goes.via (fun _ kk_ => XS.goto X0.here hx rfl (pc0 := 145) (pc' := 149) rfl (hb hby d14_145) (by decide) (by decide) kk_) ?_
            show Goes p e below _ (s₁.setTop (mkF m 149 #[.val (.int c_)] [(.int (1 : Int32))]))
            exact own_finN X0 hx hlk hret (by simp) (hb hby d14_149) (by rw [e0]; exact ⟨(by first | (rw [own_exp, if_pos hc3, if_pos hc17, if_pos hc31, if_neg hc45, if_pos hc51]; done) | (rw [own_exp, if_pos hc3, if_pos hc17, if_pos hc31, if_neg hc45, if_pos hc51]; rfl)), rfl, rfl⟩) (by first | decide | omega | (dsimp only; omega)) (by first | decide | omega | (dsimp only; omega))
          · skip
            refine Goes.via (fun _ kk_ => XS.icmpNo X0.here hx rfl (hb hby d14_51) rfl (feq hc51).1 kk_) ?_
            show Goes p e below _ (s₁.setTop (mkF m 54 #[.val (.int c_)] []))
            refine Goes.via (fun _ kk_ => XS.iloadN X0.here hx rfl (hb hby d14_54) rfl  kk_) ?_
            show Goes p e below _ (s₁.setTop (mkF m 55 #[.val (.int c_)] [(.int c_)]))
            refine Goes.via (fun _ kk_ => XS.bipush X0.here hx rfl (hb hby d14_55) kk_) ?_
            show Goes p e below _ (s₁.setTop (mkF m 57 #[.val (.int c_)] [(.int (64 : Int32)), (.int c_)]))
            by_cases hc57 : c_ = (64 : Int32)
            · skip
              refine Goes.via (fun _ kk_ => XS.icmpYes X0.here hx rfl (pc0 := 57) (pc' := 144) rfl (hb hby d14_57) rfl (teq hc57).1 (by decide) (by decide) kk_) ?_
              show Goes p e below _ (s₁.setTop (mkF m 144 #[.val (.int c_)] []))
              refine Goes.via (fun _ kk_ => XS.iconst X0.here hx rfl (hb hby d14_144) kk_) ?_
              show Goes p e below _ (s₁.setTop (mkF m 145 #[.val (.int c_)] [(.int (1 : Int32))]))
              refine Goes.via (fun _ kk_ => XS.goto X0.here hx rfl (pc0 := 145) (pc' := 149) rfl (hb hby d14_145) (by decide) (by decide) kk_) ?_
              show Goes p e below _ (s₁.setTop (mkF m 149 #[.val (.int c_)] [(.int (1 : Int32))]))
              exact own_finN X0 hx hlk hret (by simp) (hb hby d14_149) (by rw [e0]; exact ⟨(by first | (rw [own_exp, if_pos hc3, if_pos hc17, if_pos hc31, if_neg hc45, if_neg hc51, if_pos hc57]; done) | (rw [own_exp, if_pos hc3, if_pos hc17, if_pos hc31, if_neg hc45, if_neg hc51, if_pos hc57]; rfl)), rfl, rfl⟩) (by first | decide | omega | (dsimp only; omega)) (by first | decide | omega | (dsimp only; omega))
            · skip
              refine Goes.via (fun _ kk_ => XS.icmpNo X0.here hx rfl (hb hby d14_57) rfl (feq hc57).1 kk_) ?_
              show Goes p e below _ (s₁.setTop (mkF m 60 #[.val (.int c_)] []))
              refine Goes.via (fun _ kk_ => XS.iloadN X0.here hx rfl (hb hby d14_60) rfl  kk_) ?_
              show Goes p e below _ (s₁.setTop (mkF m 61 #[.val (.int c_)] [(.int c_)]))
              refine Goes.via (fun _ kk_ => XS.bipush X0.here hx rfl (hb hby d14_61) kk_) ?_
              show Goes p e below _ (s₁.setTop (mkF m 63 #[.val (.int c_)] [(.int (36 : Int32)), (.int c_)]))
              by_cases hc63 : c_ = (36 : Int32)
              · skip
                refine Goes.via (fun _ kk_ => XS.icmpYes X0.here hx rfl (pc0 := 63) (pc' := 144) rfl (hb hby d14_63) rfl (teq hc63).1 (by decide) (by decide) kk_) ?_
                show Goes p e below _ (s₁.setTop (mkF m 144 #[.val (.int c_)] []))
                refine Goes.via (fun _ kk_ => XS.iconst X0.here hx rfl (hb hby d14_144) kk_) ?_
                show Goes p e below _ (s₁.setTop (mkF m 145 #[.val (.int c_)] [(.int (1 : Int32))]))
                refine Goes.via (fun _ kk_ => XS.goto X0.here hx rfl (pc0 := 145) (pc' := 149) rfl (hb hby d14_145) (by decide) (by decide) kk_) ?_
                show Goes p e below _ (s₁.setTop (mkF m 149 #[.val (.int c_)] [(.int (1 : Int32))]))
                exact own_finN X0 hx hlk hret (by simp) (hb hby d14_149) (by rw [e0]; exact ⟨(by first | (rw [own_exp, if_pos hc3, if_pos hc17, if_pos hc31, if_neg hc45, if_neg hc51, if_neg hc57, if_pos hc63]; done) | (rw [own_exp, if_pos hc3, if_pos hc17, if_pos hc31, if_neg hc45, if_neg hc51, if_neg hc57, if_pos hc63]; rfl)), rfl, rfl⟩) (by first | decide | omega | (dsimp only; omega)) (by first | decide | omega | (dsimp only; omega))
              · skip
                refine Goes.via (fun _ kk_ => XS.icmpNo X0.here hx rfl (hb hby d14_63) rfl (feq hc63).1 kk_) ?_
                show Goes p e below _ (s₁.setTop (mkF m 66 #[.val (.int c_)] []))
                refine Goes.via (fun _ kk_ => XS.iloadN X0.here hx rfl (hb hby d14_66) rfl  kk_) ?_
                show Goes p e below _ (s₁.setTop (mkF m 67 #[.val (.int c_)] [(.int c_)]))
                refine Goes.via (fun _ kk_ => XS.bipush X0.here hx rfl (hb hby d14_67) kk_) ?_
                show Goes p e below _ (s₁.setTop (mkF m 69 #[.val (.int c_)] [(.int (37 : Int32)), (.int c_)]))
                by_cases hc69 : c_ = (37 : Int32)
                · skip
                  refine Goes.via (fun _ kk_ => XS.icmpYes X0.here hx rfl (pc0 := 69) (pc' := 144) rfl (hb hby d14_69) rfl (teq hc69).1 (by decide) (by decide) kk_) ?_
                  show Goes p e below _ (s₁.setTop (mkF m 144 #[.val (.int c_)] []))
                  refine Goes.via (fun _ kk_ => XS.iconst X0.here hx rfl (hb hby d14_144) kk_) ?_
                  show Goes p e below _ (s₁.setTop (mkF m 145 #[.val (.int c_)] [(.int (1 : Int32))]))
                  refine Goes.via (fun _ kk_ => XS.goto X0.here hx rfl (pc0 := 145) (pc' := 149) rfl (hb hby d14_145) (by decide) (by decide) kk_) ?_
                  show Goes p e below _ (s₁.setTop (mkF m 149 #[.val (.int c_)] [(.int (1 : Int32))]))
                  exact own_finN X0 hx hlk hret (by simp) (hb hby d14_149) (by rw [e0]; exact ⟨(by first | (rw [own_exp, if_pos hc3, if_pos hc17, if_pos hc31, if_neg hc45, if_neg hc51, if_neg hc57, if_neg hc63, if_pos hc69]; done) | (rw [own_exp, if_pos hc3, if_pos hc17, if_pos hc31, if_neg hc45, if_neg hc51, if_neg hc57, if_neg hc63, if_pos hc69]; rfl)), rfl, rfl⟩) (by first | decide | omega | (dsimp only; omega)) (by first | decide | omega | (dsimp only; omega))
                · skip
                  refine Goes.via (fun _ kk_ => XS.icmpNo X0.here hx rfl (hb hby d14_69) rfl (feq hc69).1 kk_) ?_
                  show Goes p e below _ (s₁.setTop (mkF m 72 #[.val (.int c_)] []))
                  refine Goes.via (fun _ kk_ => XS.iloadN X0.here hx rfl (hb hby d14_72) rfl  kk_) ?_
                  show Goes p e below _ (s₁.setTop (mkF m 73 #[.val (.int c_)] [(.int c_)]))
                  refine Goes.via (fun _ kk_ => XS.bipush X0.here hx rfl (hb hby d14_73) kk_) ?_
                  show Goes p e below _ (s₁.setTop (mkF m 75 #[.val (.int c_)] [(.int (94 : Int32)), (.int c_)]))
                  by_cases hc75 : c_ = (94 : Int32)
                  · skip
                    refine Goes.via (fun _ kk_ => XS.icmpYes X0.here hx rfl (pc0 := 75) (pc' := 144) rfl (hb hby d14_75) rfl (teq hc75).1 (by decide) (by decide) kk_) ?_
                    show Goes p e below _ (s₁.setTop (mkF m 144 #[.val (.int c_)] []))
                    refine Goes.via (fun _ kk_ => XS.iconst X0.here hx rfl (hb hby d14_144) kk_) ?_
                    show Goes p e below _ (s₁.setTop (mkF m 145 #[.val (.int c_)] [(.int (1 : Int32))]))
                    refine Goes.via (fun _ kk_ => XS.goto X0.here hx rfl (pc0 := 145) (pc' := 149) rfl (hb hby d14_145) (by decide) (by decide) kk_) ?_
                    show Goes p e below _ (s₁.setTop (mkF m 149 #[.val (.int c_)] [(.int (1 : Int32))]))
                    exact own_finN X0 hx hlk hret (by simp) (hb hby d14_149) (by rw [e0]; exact ⟨(by first | (rw [own_exp, if_pos hc3, if_pos hc17, if_pos hc31, if_neg hc45, if_neg hc51, if_neg hc57, if_neg hc63, if_neg hc69, if_pos hc75]; done) | (rw [own_exp, if_pos hc3, if_pos hc17, if_pos hc31, if_neg hc45, if_neg hc51, if_neg hc57, if_neg hc63, if_neg hc69, if_pos hc75]; rfl)), rfl, rfl⟩) (by first | decide | omega | (dsimp only; omega)) (by first | decide | omega | (dsimp only; omega))
                  · skip
                    refine Goes.via (fun _ kk_ => XS.icmpNo X0.here hx rfl (hb hby d14_75) rfl (feq hc75).1 kk_) ?_
                    show Goes p e below _ (s₁.setTop (mkF m 78 #[.val (.int c_)] []))
                    refine Goes.via (fun _ kk_ => XS.iloadN X0.here hx rfl (hb hby d14_78) rfl  kk_) ?_
                    show Goes p e below _ (s₁.setTop (mkF m 79 #[.val (.int c_)] [(.int c_)]))
                    refine Goes.via (fun _ kk_ => XS.bipush X0.here hx rfl (hb hby d14_79) kk_) ?_
                    show Goes p e below _ (s₁.setTop (mkF m 81 #[.val (.int c_)] [(.int (38 : Int32)), (.int c_)]))
                    by_cases hc81 : c_ = (38 : Int32)
                    · skip
                      refine Goes.via (fun _ kk_ => XS.icmpYes X0.here hx rfl (pc0 := 81) (pc' := 144) rfl (hb hby d14_81) rfl (teq hc81).1 (by decide) (by decide) kk_) ?_
                      show Goes p e below _ (s₁.setTop (mkF m 144 #[.val (.int c_)] []))
                      refine Goes.via (fun _ kk_ => XS.iconst X0.here hx rfl (hb hby d14_144) kk_) ?_
                      show Goes p e below _ (s₁.setTop (mkF m 145 #[.val (.int c_)] [(.int (1 : Int32))]))
                      refine Goes.via (fun _ kk_ => XS.goto X0.here hx rfl (pc0 := 145) (pc' := 149) rfl (hb hby d14_145) (by decide) (by decide) kk_) ?_
                      show Goes p e below _ (s₁.setTop (mkF m 149 #[.val (.int c_)] [(.int (1 : Int32))]))
                      exact own_finN X0 hx hlk hret (by simp) (hb hby d14_149) (by rw [e0]; exact ⟨(by first | (rw [own_exp, if_pos hc3, if_pos hc17, if_pos hc31, if_neg hc45, if_neg hc51, if_neg hc57, if_neg hc63, if_neg hc69, if_neg hc75, if_pos hc81]; done) | (rw [own_exp, if_pos hc3, if_pos hc17, if_pos hc31, if_neg hc45, if_neg hc51, if_neg hc57, if_neg hc63, if_neg hc69, if_neg hc75, if_pos hc81]; rfl)), rfl, rfl⟩) (by first | decide | omega | (dsimp only; omega)) (by first | decide | omega | (dsimp only; omega))
                    · skip
                      refine Goes.via (fun _ kk_ => XS.icmpNo X0.here hx rfl (hb hby d14_81) rfl (feq hc81).1 kk_) ?_
                      show Goes p e below _ (s₁.setTop (mkF m 84 #[.val (.int c_)] []))
                      refine Goes.via (fun _ kk_ => XS.iloadN X0.here hx rfl (hb hby d14_84) rfl  kk_) ?_
                      show Goes p e below _ (s₁.setTop (mkF m 85 #[.val (.int c_)] [(.int c_)]))
                      refine Goes.via (fun _ kk_ => XS.bipush X0.here hx rfl (hb hby d14_85) kk_) ?_
                      show Goes p e below _ (s₁.setTop (mkF m 87 #[.val (.int c_)] [(.int (42 : Int32)), (.int c_)]))
                      by_cases hc87 : c_ = (42 : Int32)
                      · skip
                        refine Goes.via (fun _ kk_ => XS.icmpYes X0.here hx rfl (pc0 := 87) (pc' := 144) rfl (hb hby d14_87) rfl (teq hc87).1 (by decide) (by decide) kk_) ?_
                        show Goes p e below _ (s₁.setTop (mkF m 144 #[.val (.int c_)] []))
                        refine Goes.via (fun _ kk_ => XS.iconst X0.here hx rfl (hb hby d14_144) kk_) ?_
                        show Goes p e below _ (s₁.setTop (mkF m 145 #[.val (.int c_)] [(.int (1 : Int32))]))
                        refine Goes.via (fun _ kk_ => XS.goto X0.here hx rfl (pc0 := 145) (pc' := 149) rfl (hb hby d14_145) (by decide) (by decide) kk_) ?_
                        show Goes p e below _ (s₁.setTop (mkF m 149 #[.val (.int c_)] [(.int (1 : Int32))]))
                        exact own_finN X0 hx hlk hret (by simp) (hb hby d14_149) (by rw [e0]; exact ⟨(by first | (rw [own_exp, if_pos hc3, if_pos hc17, if_pos hc31, if_neg hc45, if_neg hc51, if_neg hc57, if_neg hc63, if_neg hc69, if_neg hc75, if_neg hc81, if_pos hc87]; done) | (rw [own_exp, if_pos hc3, if_pos hc17, if_pos hc31, if_neg hc45, if_neg hc51, if_neg hc57, if_neg hc63, if_neg hc69, if_neg hc75, if_neg hc81, if_pos hc87]; rfl)), rfl, rfl⟩) (by first | decide | omega | (dsimp only; omega)) (by first | decide | omega | (dsimp only; omega))
                      · skip
                        refine Goes.via (fun _ kk_ => XS.icmpNo X0.here hx rfl (hb hby d14_87) rfl (feq hc87).1 kk_) ?_
                        show Goes p e below _ (s₁.setTop (mkF m 90 #[.val (.int c_)] []))
                        refine Goes.via (fun _ kk_ => XS.iloadN X0.here hx rfl (hb hby d14_90) rfl  kk_) ?_
                        show Goes p e below _ (s₁.setTop (mkF m 91 #[.val (.int c_)] [(.int c_)]))
                        refine Goes.via (fun _ kk_ => XS.bipush X0.here hx rfl (hb hby d14_91) kk_) ?_
                        show Goes p e below _ (s₁.setTop (mkF m 93 #[.val (.int c_)] [(.int (95 : Int32)), (.int c_)]))
                        by_cases hc93 : c_ = (95 : Int32)
                        · skip
                          refine Goes.via (fun _ kk_ => XS.icmpYes X0.here hx rfl (pc0 := 93) (pc' := 144) rfl (hb hby d14_93) rfl (teq hc93).1 (by decide) (by decide) kk_) ?_
                          show Goes p e below _ (s₁.setTop (mkF m 144 #[.val (.int c_)] []))
                          refine Goes.via (fun _ kk_ => XS.iconst X0.here hx rfl (hb hby d14_144) kk_) ?_
                          show Goes p e below _ (s₁.setTop (mkF m 145 #[.val (.int c_)] [(.int (1 : Int32))]))
                          refine Goes.via (fun _ kk_ => XS.goto X0.here hx rfl (pc0 := 145) (pc' := 149) rfl (hb hby d14_145) (by decide) (by decide) kk_) ?_
                          show Goes p e below _ (s₁.setTop (mkF m 149 #[.val (.int c_)] [(.int (1 : Int32))]))
                          exact own_finN X0 hx hlk hret (by simp) (hb hby d14_149) (by rw [e0]; exact ⟨(by first | (rw [own_exp, if_pos hc3, if_pos hc17, if_pos hc31, if_neg hc45, if_neg hc51, if_neg hc57, if_neg hc63, if_neg hc69, if_neg hc75, if_neg hc81, if_neg hc87, if_pos hc93]; done) | (rw [own_exp, if_pos hc3, if_pos hc17, if_pos hc31, if_neg hc45, if_neg hc51, if_neg hc57, if_neg hc63, if_neg hc69, if_neg hc75, if_neg hc81, if_neg hc87, if_pos hc93]; rfl)), rfl, rfl⟩) (by first | decide | omega | (dsimp only; omega)) (by first | decide | omega | (dsimp only; omega))
                        · skip
                          refine Goes.via (fun _ kk_ => XS.icmpNo X0.here hx rfl (hb hby d14_93) rfl (feq hc93).1 kk_) ?_
                          show Goes p e below _ (s₁.setTop (mkF m 96 #[.val (.int c_)] []))
                          refine Goes.via (fun _ kk_ => XS.iloadN X0.here hx rfl (hb hby d14_96) rfl  kk_) ?_
                          show Goes p e below _ (s₁.setTop (mkF m 97 #[.val (.int c_)] [(.int c_)]))
                          refine Goes.via (fun _ kk_ => XS.bipush X0.here hx rfl (hb hby d14_97) kk_) ?_
                          show Goes p e below _ (s₁.setTop (mkF m 99 #[.val (.int c_)] [(.int (45 : Int32)), (.int c_)]))
                          by_cases hc99 : c_ = (45 : Int32)
                          · skip
                            refine Goes.via (fun _ kk_ => XS.icmpYes X0.here hx rfl (pc0 := 99) (pc' := 144) rfl (hb hby d14_99) rfl (teq hc99).1 (by decide) (by decide) kk_) ?_
                            show Goes p e below _ (s₁.setTop (mkF m 144 #[.val (.int c_)] []))
                            refine Goes.via (fun _ kk_ => XS.iconst X0.here hx rfl (hb hby d14_144) kk_) ?_
                            show Goes p e below _ (s₁.setTop (mkF m 145 #[.val (.int c_)] [(.int (1 : Int32))]))
                            refine Goes.via (fun _ kk_ => XS.goto X0.here hx rfl (pc0 := 145) (pc' := 149) rfl (hb hby d14_145) (by decide) (by decide) kk_) ?_
                            show Goes p e below _ (s₁.setTop (mkF m 149 #[.val (.int c_)] [(.int (1 : Int32))]))
                            exact own_finN X0 hx hlk hret (by simp) (hb hby d14_149) (by rw [e0]; exact ⟨(by first | (rw [own_exp, if_pos hc3, if_pos hc17, if_pos hc31, if_neg hc45, if_neg hc51, if_neg hc57, if_neg hc63, if_neg hc69, if_neg hc75, if_neg hc81, if_neg hc87, if_neg hc93, if_pos hc99]; done) | (rw [own_exp, if_pos hc3, if_pos hc17, if_pos hc31, if_neg hc45, if_neg hc51, if_neg hc57, if_neg hc63, if_neg hc69, if_neg hc75, if_neg hc81, if_neg hc87, if_neg hc93, if_pos hc99]; rfl)), rfl, rfl⟩) (by first | decide | omega | (dsimp only; omega)) (by first | decide | omega | (dsimp only; omega))
                          · skip
                            refine Goes.via (fun _ kk_ => XS.icmpNo X0.here hx rfl (hb hby d14_99) rfl (feq hc99).1 kk_) ?_
                            show Goes p e below _ (s₁.setTop (mkF m 102 #[.val (.int c_)] []))
                            refine Goes.via (fun _ kk_ => XS.iloadN X0.here hx rfl (hb hby d14_102) rfl  kk_) ?_
                            show Goes p e below _ (s₁.setTop (mkF m 103 #[.val (.int c_)] [(.int c_)]))
                            refine Goes.via (fun _ kk_ => XS.bipush X0.here hx rfl (hb hby d14_103) kk_) ?_
                            show Goes p e below _ (s₁.setTop (mkF m 105 #[.val (.int c_)] [(.int (43 : Int32)), (.int c_)]))
                            by_cases hc105 : c_ = (43 : Int32)
                            · skip
                              refine Goes.via (fun _ kk_ => XS.icmpYes X0.here hx rfl (pc0 := 105) (pc' := 144) rfl (hb hby d14_105) rfl (teq hc105).1 (by decide) (by decide) kk_) ?_
                              show Goes p e below _ (s₁.setTop (mkF m 144 #[.val (.int c_)] []))
                              refine Goes.via (fun _ kk_ => XS.iconst X0.here hx rfl (hb hby d14_144) kk_) ?_
                              show Goes p e below _ (s₁.setTop (mkF m 145 #[.val (.int c_)] [(.int (1 : Int32))]))
                              refine Goes.via (fun _ kk_ => XS.goto X0.here hx rfl (pc0 := 145) (pc' := 149) rfl (hb hby d14_145) (by decide) (by decide) kk_) ?_
                              show Goes p e below _ (s₁.setTop (mkF m 149 #[.val (.int c_)] [(.int (1 : Int32))]))
                              exact own_finN X0 hx hlk hret (by simp) (hb hby d14_149) (by rw [e0]; exact ⟨(by first | (rw [own_exp, if_pos hc3, if_pos hc17, if_pos hc31, if_neg hc45, if_neg hc51, if_neg hc57, if_neg hc63, if_neg hc69, if_neg hc75, if_neg hc81, if_neg hc87, if_neg hc93, if_neg hc99, if_pos hc105]; done) | (rw [own_exp, if_pos hc3, if_pos hc17, if_pos hc31, if_neg hc45, if_neg hc51, if_neg hc57, if_neg hc63, if_neg hc69, if_neg hc75, if_neg hc81, if_neg hc87, if_neg hc93, if_neg hc99, if_pos hc105]; rfl)), rfl, rfl⟩) (by first | decide | omega | (dsimp only; omega)) (by first | decide | omega | (dsimp only; omega))
                            · skip
                              refine Goes.via (fun _ kk_ => XS.icmpNo X0.here hx rfl (hb hby d14_105) rfl (feq hc105).1 kk_) ?_
                              show Goes p e below _ (s₁.setTop (mkF m 108 #[.val (.int c_)] []))
                              refine Goes.via (fun _ kk_ => XS.iloadN X0.here hx rfl (hb hby d14_108) rfl  kk_) ?_
                              show Goes p e below _ (s₁.setTop (mkF m 109 #[.val (.int c_)] [(.int c_)]))
                              refine Goes.via (fun _ kk_ => XS.bipush X0.here hx rfl (hb hby d14_109) kk_) ?_
                              show Goes p e below _ (s₁.setTop (mkF m 111 #[.val (.int c_)] [(.int (61 : Int32)), (.int c_)]))
                              by_cases hc111 : c_ = (61 : Int32)
                              · skip
                                refine Goes.via (fun _ kk_ => XS.icmpYes X0.here hx rfl (pc0 := 111) (pc' := 144) rfl (hb hby d14_111) rfl (teq hc111).1 (by decide) (by decide) kk_) ?_
                                show Goes p e below _ (s₁.setTop (mkF m 144 #[.val (.int c_)] []))
                                refine Goes.via (fun _ kk_ => XS.iconst X0.here hx rfl (hb hby d14_144) kk_) ?_
                                show Goes p e below _ (s₁.setTop (mkF m 145 #[.val (.int c_)] [(.int (1 : Int32))]))
                                refine Goes.via (fun _ kk_ => XS.goto X0.here hx rfl (pc0 := 145) (pc' := 149) rfl (hb hby d14_145) (by decide) (by decide) kk_) ?_
                                show Goes p e below _ (s₁.setTop (mkF m 149 #[.val (.int c_)] [(.int (1 : Int32))]))
                                exact own_finN X0 hx hlk hret (by simp) (hb hby d14_149) (by rw [e0]; exact ⟨(by first | (rw [own_exp, if_pos hc3, if_pos hc17, if_pos hc31, if_neg hc45, if_neg hc51, if_neg hc57, if_neg hc63, if_neg hc69, if_neg hc75, if_neg hc81, if_neg hc87, if_neg hc93, if_neg hc99, if_neg hc105, if_pos hc111]; done) | (rw [own_exp, if_pos hc3, if_pos hc17, if_pos hc31, if_neg hc45, if_neg hc51, if_neg hc57, if_neg hc63, if_neg hc69, if_neg hc75, if_neg hc81, if_neg hc87, if_neg hc93, if_neg hc99, if_neg hc105, if_pos hc111]; rfl)), rfl, rfl⟩) (by first | decide | omega | (dsimp only; omega)) (by first | decide | omega | (dsimp only; omega))
                              · skip
                                refine Goes.via (fun _ kk_ => XS.icmpNo X0.here hx rfl (hb hby d14_111) rfl (feq hc111).1 kk_) ?_
                                show Goes p e below _ (s₁.setTop (mkF m 114 #[.val (.int c_)] []))
                                refine Goes.via (fun _ kk_ => XS.iloadN X0.here hx rfl (hb hby d14_114) rfl  kk_) ?_
                                show Goes p e below _ (s₁.setTop (mkF m 115 #[.val (.int c_)] [(.int c_)]))
                                refine Goes.via (fun _ kk_ => XS.bipush X0.here hx rfl (hb hby d14_115) kk_) ?_
                                show Goes p e below _ (s₁.setTop (mkF m 117 #[.val (.int c_)] [(.int (60 : Int32)), (.int c_)]))
                                by_cases hc117 : c_ = (60 : Int32)
                                · skip
                                  refine Goes.via (fun _ kk_ => XS.icmpYes X0.here hx rfl (pc0 := 117) (pc' := 144) rfl (hb hby d14_117) rfl (teq hc117).1 (by decide) (by decide) kk_) ?_
                                  show Goes p e below _ (s₁.setTop (mkF m 144 #[.val (.int c_)] []))
                                  refine Goes.via (fun _ kk_ => XS.iconst X0.here hx rfl (hb hby d14_144) kk_) ?_
                                  show Goes p e below _ (s₁.setTop (mkF m 145 #[.val (.int c_)] [(.int (1 : Int32))]))
                                  refine Goes.via (fun _ kk_ => XS.goto X0.here hx rfl (pc0 := 145) (pc' := 149) rfl (hb hby d14_145) (by decide) (by decide) kk_) ?_
                                  show Goes p e below _ (s₁.setTop (mkF m 149 #[.val (.int c_)] [(.int (1 : Int32))]))
                                  exact own_finN X0 hx hlk hret (by simp) (hb hby d14_149) (by rw [e0]; exact ⟨(by first | (rw [own_exp, if_pos hc3, if_pos hc17, if_pos hc31, if_neg hc45, if_neg hc51, if_neg hc57, if_neg hc63, if_neg hc69, if_neg hc75, if_neg hc81, if_neg hc87, if_neg hc93, if_neg hc99, if_neg hc105, if_neg hc111, if_pos hc117]; done) | (rw [own_exp, if_pos hc3, if_pos hc17, if_pos hc31, if_neg hc45, if_neg hc51, if_neg hc57, if_neg hc63, if_neg hc69, if_neg hc75, if_neg hc81, if_neg hc87, if_neg hc93, if_neg hc99, if_neg hc105, if_neg hc111, if_pos hc117]; rfl)), rfl, rfl⟩) (by first | decide | omega | (dsimp only; omega)) (by first | decide | omega | (dsimp only; omega))
                                · skip
                                  refine Goes.via (fun _ kk_ => XS.icmpNo X0.here hx rfl (hb hby d14_117) rfl (feq hc117).1 kk_) ?_
                                  show Goes p e below _ (s₁.setTop (mkF m 120 #[.val (.int c_)] []))
                                  refine Goes.via (fun _ kk_ => XS.iloadN X0.here hx rfl (hb hby d14_120) rfl  kk_) ?_
                                  show Goes p e below _ (s₁.setTop (mkF m 121 #[.val (.int c_)] [(.int c_)]))
                                  refine Goes.via (fun _ kk_ => XS.bipush X0.here hx rfl (hb hby d14_121) kk_) ?_
                                  show Goes p e below _ (s₁.setTop (mkF m 123 #[.val (.int c_)] [(.int (62 : Int32)), (.int c_)]))
                                  by_cases hc123 : c_ = (62 : Int32)
                                  · skip
                                    refine Goes.via (fun _ kk_ => XS.icmpYes X0.here hx rfl (pc0 := 123) (pc' := 144) rfl (hb hby d14_123) rfl (teq hc123).1 (by decide) (by decide) kk_) ?_
                                    show Goes p e below _ (s₁.setTop (mkF m 144 #[.val (.int c_)] []))
                                    refine Goes.via (fun _ kk_ => XS.iconst X0.here hx rfl (hb hby d14_144) kk_) ?_
                                    show Goes p e below _ (s₁.setTop (mkF m 145 #[.val (.int c_)] [(.int (1 : Int32))]))
                                    refine Goes.via (fun _ kk_ => XS.goto X0.here hx rfl (pc0 := 145) (pc' := 149) rfl (hb hby d14_145) (by decide) (by decide) kk_) ?_
                                    show Goes p e below _ (s₁.setTop (mkF m 149 #[.val (.int c_)] [(.int (1 : Int32))]))
                                    exact own_finN X0 hx hlk hret (by simp) (hb hby d14_149) (by rw [e0]; exact ⟨(by first | (rw [own_exp, if_pos hc3, if_pos hc17, if_pos hc31, if_neg hc45, if_neg hc51, if_neg hc57, if_neg hc63, if_neg hc69, if_neg hc75, if_neg hc81, if_neg hc87, if_neg hc93, if_neg hc99, if_neg hc105, if_neg hc111, if_neg hc117, if_pos hc123]; done) | (rw [own_exp, if_pos hc3, if_pos hc17, if_pos hc31, if_neg hc45, if_neg hc51, if_neg hc57, if_neg hc63, if_neg hc69, if_neg hc75, if_neg hc81, if_neg hc87, if_neg hc93, if_neg hc99, if_neg hc105, if_neg hc111, if_neg hc117, if_pos hc123]; rfl)), rfl, rfl⟩) (by first | decide | omega | (dsimp only; omega)) (by first | decide | omega | (dsimp only; omega))
                                  · skip
                                    refine Goes.via (fun _ kk_ => XS.icmpNo X0.here hx rfl (hb hby d14_123) rfl (feq hc123).1 kk_) ?_
                                    show Goes p e below _ (s₁.setTop (mkF m 126 #[.val (.int c_)] []))
                                    refine Goes.via (fun _ kk_ => XS.iloadN X0.here hx rfl (hb hby d14_126) rfl  kk_) ?_
                                    show Goes p e below _ (s₁.setTop (mkF m 127 #[.val (.int c_)] [(.int c_)]))
                                    refine Goes.via (fun _ kk_ => XS.bipush X0.here hx rfl (hb hby d14_127) kk_) ?_
                                    show Goes p e below _ (s₁.setTop (mkF m 129 #[.val (.int c_)] [(.int (46 : Int32)), (.int c_)]))
                                    by_cases hc129 : c_ = (46 : Int32)
                                    · skip
                                      refine Goes.via (fun _ kk_ => XS.icmpYes X0.here hx rfl (pc0 := 129) (pc' := 144) rfl (hb hby d14_129) rfl (teq hc129).1 (by decide) (by decide) kk_) ?_
                                      show Goes p e below _ (s₁.setTop (mkF m 144 #[.val (.int c_)] []))
                                      refine Goes.via (fun _ kk_ => XS.iconst X0.here hx rfl (hb hby d14_144) kk_) ?_
                                      show Goes p e below _ (s₁.setTop (mkF m 145 #[.val (.int c_)] [(.int (1 : Int32))]))
                                      refine Goes.via (fun _ kk_ => XS.goto X0.here hx rfl (pc0 := 145) (pc' := 149) rfl (hb hby d14_145) (by decide) (by decide) kk_) ?_
                                      show Goes p e below _ (s₁.setTop (mkF m 149 #[.val (.int c_)] [(.int (1 : Int32))]))
                                      exact own_finN X0 hx hlk hret (by simp) (hb hby d14_149) (by rw [e0]; exact ⟨(by first | (rw [own_exp, if_pos hc3, if_pos hc17, if_pos hc31, if_neg hc45, if_neg hc51, if_neg hc57, if_neg hc63, if_neg hc69, if_neg hc75, if_neg hc81, if_neg hc87, if_neg hc93, if_neg hc99, if_neg hc105, if_neg hc111, if_neg hc117, if_neg hc123, if_pos hc129]; done) | (rw [own_exp, if_pos hc3, if_pos hc17, if_pos hc31, if_neg hc45, if_neg hc51, if_neg hc57, if_neg hc63, if_neg hc69, if_neg hc75, if_neg hc81, if_neg hc87, if_neg hc93, if_neg hc99, if_neg hc105, if_neg hc111, if_neg hc117, if_neg hc123, if_pos hc129]; rfl)), rfl, rfl⟩) (by first | decide | omega | (dsimp only; omega)) (by first | decide | omega | (dsimp only; omega))
                                    · skip
                                      refine Goes.via (fun _ kk_ => XS.icmpNo X0.here hx rfl (hb hby d14_129) rfl (feq hc129).1 kk_) ?_
                                      show Goes p e below _ (s₁.setTop (mkF m 132 #[.val (.int c_)] []))
                                      refine Goes.via (fun _ kk_ => XS.iloadN X0.here hx rfl (hb hby d14_132) rfl  kk_) ?_
                                      show Goes p e below _ (s₁.setTop (mkF m 133 #[.val (.int c_)] [(.int c_)]))
                                      refine Goes.via (fun _ kk_ => XS.bipush X0.here hx rfl (hb hby d14_133) kk_) ?_
                                      show Goes p e below _ (s₁.setTop (mkF m 135 #[.val (.int c_)] [(.int (63 : Int32)), (.int c_)]))
                                      by_cases hc135 : c_ = (63 : Int32)
                                      · skip
                                        refine Goes.via (fun _ kk_ => XS.icmpYes X0.here hx rfl (pc0 := 135) (pc' := 144) rfl (hb hby d14_135) rfl (teq hc135).1 (by decide) (by decide) kk_) ?_
                                        show Goes p e below _ (s₁.setTop (mkF m 144 #[.val (.int c_)] []))
                                        refine Goes.via (fun _ kk_ => XS.iconst X0.here hx rfl (hb hby d14_144) kk_) ?_
                                        show Goes p e below _ (s₁.setTop (mkF m 145 #[.val (.int c_)] [(.int (1 : Int32))]))
                                        refine Goes.via (fun _ kk_ => XS.goto X0.here hx rfl (pc0 := 145) (pc' := 149) rfl (hb hby d14_145) (by decide) (by decide) kk_) ?_
                                        show Goes p e below _ (s₁.setTop (mkF m 149 #[.val (.int c_)] [(.int (1 : Int32))]))
                                        exact own_finN X0 hx hlk hret (by simp) (hb hby d14_149) (by rw [e0]; exact ⟨(by first | (rw [own_exp, if_pos hc3, if_pos hc17, if_pos hc31, if_neg hc45, if_neg hc51, if_neg hc57, if_neg hc63, if_neg hc69, if_neg hc75, if_neg hc81, if_neg hc87, if_neg hc93, if_neg hc99, if_neg hc105, if_neg hc111, if_neg hc117, if_neg hc123, if_neg hc129, if_pos hc135]; done) | (rw [own_exp, if_pos hc3, if_pos hc17, if_pos hc31, if_neg hc45, if_neg hc51, if_neg hc57, if_neg hc63, if_neg hc69, if_neg hc75, if_neg hc81, if_neg hc87, if_neg hc93, if_neg hc99, if_neg hc105, if_neg hc111, if_neg hc117, if_neg hc123, if_neg hc129, if_pos hc135]; rfl)), rfl, rfl⟩) (by first | decide | omega | (dsimp only; omega)) (by first | decide | omega | (dsimp only; omega))
                                      · skip
                                        refine Goes.via (fun _ kk_ => XS.icmpNo X0.here hx rfl (hb hby d14_135) rfl (feq hc135).1 kk_) ?_
                                        show Goes p e below _ (s₁.setTop (mkF m 138 #[.val (.int c_)] []))
                                        refine Goes.via (fun _ kk_ => XS.iloadN X0.here hx rfl (hb hby d14_138) rfl  kk_) ?_
                                        show Goes p e below _ (s₁.setTop (mkF m 139 #[.val (.int c_)] [(.int c_)]))
                                        refine Goes.via (fun _ kk_ => XS.bipush X0.here hx rfl (hb hby d14_139) kk_) ?_
                                        show Goes p e below _ (s₁.setTop (mkF m 141 #[.val (.int c_)] [(.int (47 : Int32)), (.int c_)]))
                                        by_cases hc141 : c_ = (47 : Int32)
                                        · skip
                                          refine Goes.via (fun _ kk_ => XS.icmpNo X0.here hx rfl (hb hby d14_141) rfl (teq hc141).2 kk_) ?_
                                          show Goes p e below _ (s₁.setTop (mkF m 144 #[.val (.int c_)] []))
                                          refine Goes.via (fun _ kk_ => XS.iconst X0.here hx rfl (hb hby d14_144) kk_) ?_
                                          show Goes p e below _ (s₁.setTop (mkF m 145 #[.val (.int c_)] [(.int (1 : Int32))]))
                                          refine Goes.via (fun _ kk_ => XS.goto X0.here hx rfl (pc0 := 145) (pc' := 149) rfl (hb hby d14_145) (by decide) (by decide) kk_) ?_
                                          show Goes p e below _ (s₁.setTop (mkF m 149 #[.val (.int c_)] [(.int (1 : Int32))]))
                                          exact own_finN X0 hx hlk hret (by simp) (hb hby d14_149) (by rw [e0]; exact ⟨(by first | (rw [own_exp, if_pos hc3, if_pos hc17, if_pos hc31, if_neg hc45, if_neg hc51, if_neg hc57, if_neg hc63, if_neg hc69, if_neg hc75, if_neg hc81, if_neg hc87, if_neg hc93, if_neg hc99, if_neg hc105, if_neg hc111, if_neg hc117, if_neg hc123, if_neg hc129, if_neg hc135, if_pos hc141]; done) | (rw [own_exp, if_pos hc3, if_pos hc17, if_pos hc31, if_neg hc45, if_neg hc51, if_neg hc57, if_neg hc63, if_neg hc69, if_neg hc75, if_neg hc81, if_neg hc87, if_neg hc93, if_neg hc99, if_neg hc105, if_neg hc111, if_neg hc117, if_neg hc123, if_neg hc129, if_neg hc135, if_pos hc141]; rfl)), rfl, rfl⟩) (by first | decide | omega | (dsimp only; omega)) (by first | decide | omega | (dsimp only; omega))
                                        · skip
                                          refine Goes.via (fun _ kk_ => XS.icmpYes X0.here hx rfl (pc0 := 141) (pc' := 148) rfl (hb hby d14_141) rfl (feq hc141).2 (by decide) (by decide) kk_) ?_
                                          show Goes p e below _ (s₁.setTop (mkF m 148 #[.val (.int c_)] []))
                                          refine Goes.via (fun _ kk_ => XS.iconst X0.here hx rfl (hb hby d14_148) kk_) ?_
                                          show Goes p e below _ (s₁.setTop (mkF m 149 #[.val (.int c_)] [(.int (0 : Int32))]))
                                          exact own_finN X0 hx hlk hret (by simp) (hb hby d14_149) (by rw [e0]; exact ⟨(by first | (rw [own_exp, if_pos hc3, if_pos hc17, if_pos hc31, if_neg hc45, if_neg hc51, if_neg hc57, if_neg hc63, if_neg hc69, if_neg hc75, if_neg hc81, if_neg hc87, if_neg hc93, if_neg hc99, if_neg hc105, if_neg hc111, if_neg hc117, if_neg hc123, if_neg hc129, if_neg hc135, if_neg hc141]; done) | (rw [own_exp, if_pos hc3, if_pos hc17, if_pos hc31, if_neg hc45, if_neg hc51, if_neg hc57, if_neg hc63, if_neg hc69, if_neg hc75, if_neg hc81, if_neg hc87, if_neg hc93, if_neg hc99, if_neg hc105, if_neg hc111, if_neg hc117, if_neg hc123, if_neg hc129, if_neg hc135, if_neg hc141]; rfl)), rfl, rfl⟩) (by first | decide | omega | (dsimp only; omega)) (by first | decide | omega | (dsimp only; omega))
      · skip
        refine Goes.via (fun _ kk_ => XS.icmpNo X0.here hx rfl (hb hby d14_31) rfl (flt hc31).1 kk_) ?_
        show Goes p e below _ (s₁.setTop (mkF m 34 #[.val (.int c_)] []))
        refine Goes.via (fun _ kk_ => XS.iloadN X0.here hx rfl (hb hby d14_34) rfl  kk_) ?_
        show Goes p e below _ (s₁.setTop (mkF m 35 #[.val (.int c_)] [(.int c_)]))
        refine Goes.via (fun _ kk_ => XS.bipush X0.here hx rfl (hb hby d14_35) kk_) ?_
        show Goes p e below _ (s₁.setTop (mkF m 37 #[.val (.int c_)] [(.int (57 : Int32)), (.int c_)]))
        by_cases hc37 : (57 : Int32) < c_
        · skip
          refine Goes.via (fun _ kk_ => XS.icmpYes X0.here hx rfl (pc0 := 37) (pc' := 42) rfl (hb hby d14_37) rfl (tlt hc37).2.2.1 (by decide) (by decide) kk_) ?_
          show Goes p e below _ (s₁.setTop (mkF m 42 #[.val (.int c_)] []))
          refine Goes.via (fun _ kk_ => XS.iloadN X0.here hx rfl (hb hby d14_42) rfl  kk_) ?_
          show Goes p e below _ (s₁.setTop (mkF m 43 #[.val (.int c_)] [(.int c_)]))
          refine Goes.via (fun _ kk_ => XS.bipush X0.here hx rfl (hb hby d14_43) kk_) ?_
          show Goes p e below _ (s₁.setTop (mkF m 45 #[.val (.int c_)] [(.int (126 : Int32)), (.int c_)]))
          by_cases hc45 : c_ = (126 : Int32)
          · skip
            refine Goes.via (fun _ kk_ => XS.icmpYes X0.here hx rfl (pc0 := 45) (pc' := 144) rfl (hb hby d14_45) rfl (teq hc45).1 (by decide) (by decide) kk_) ?_
            show Goes p e below _ (s₁.setTop (mkF m 144 #[.val (.int c_)] []))
            refine Goes.via (fun _ kk_ => XS.iconst X0.here hx rfl (hb hby d14_144) kk_) ?_
            show Goes p e below _ (s₁.setTop (mkF m 145 #[.val (.int c_)] [(.int (1 : Int32))]))
            refine Goes.via (fun _ kk_ => XS.goto X0.here hx rfl (pc0 := 145) (pc' := 149) rfl (hb hby d14_145) (by decide) (by decide) kk_) ?_
            show Goes p e below _ (s₁.setTop (mkF m 149 #[.val (.int c_)] [(.int (1 : Int32))]))
            exact own_finN X0 hx hlk hret (by simp) (hb hby d14_149) (by rw [e0]; exact ⟨(by first | (rw [own_exp, if_pos hc3, if_pos hc17, if_neg hc31, if_pos hc37, if_pos hc45]; done) | (rw [own_exp, if_pos hc3, if_pos hc17, if_neg hc31, if_pos hc37, if_pos hc45]; rfl)), rfl, rfl⟩) (by first | decide | omega | (dsimp only; omega)) (by first | decide | omega | (dsimp only; omega))
          · skip
            refine Goes.via (fun _ kk_ => XS.icmpNo X0.here hx rfl (hb hby d14_45) rfl (feq hc45).1 kk_) ?_
            show Goes p e below _ (s₁.setTop (mkF m 48 #[.val (.int c_)] []))
            refine Goes.via (fun _ kk_ => XS.iloadN X0.here hx rfl (hb hby d14_48) rfl  kk_) ?_
            show Goes p e below _ (s₁.setTop (mkF m 49 #[.val (.int c_)] [(.int c_)]))
            refine Goes.via (fun _ kk_ => XS.bipush X0.here hx rfl (hb hby d14_49) kk_) ?_
            show Goes p e below _ (s₁.setTop (mkF m 51 #[.val (.int c_)] [(.int (33 : Int32)), (.int c_)]))
            by_cases hc51 : c_ = (33 : Int32)
            · skip
              refine Goes.via (fun _ kk_ => XS.icmpYes X0.here hx rfl (pc0 := 51) (pc' := 144) rfl (hb hby d14_51) rfl (teq hc51).1 (by decide) (by decide) kk_) ?_
              show Goes p e below _ (s₁.setTop (mkF m 144 #[.val (.int c_)] []))
              refine Goes.via (fun _ kk_ => XS.iconst X0.here hx rfl (hb hby d14_144) kk_) ?_
              show Goes p e below _ (s₁.setTop (mkF m 145 #[.val (.int c_)] [(.int (1 : Int32))]))
              refine Goes.via (fun _ kk_ => XS.goto X0.here hx rfl (pc0 := 145) (pc' := 149) rfl (hb hby d14_145) (by decide) (by decide) kk_) ?_
              show Goes p e below _ (s₁.setTop (mkF m 149 #[.val (.int c_)] [(.int (1 : Int32))]))
              exact own_finN X0 hx hlk hret (by simp) (hb hby d14_149) (by rw [e0]; exact ⟨(by first | (rw [own_exp, if_pos hc3, if_pos hc17, if_neg hc31, if_pos hc37, if_neg hc45, if_pos hc51]; done) | (rw [own_exp, if_pos hc3, if_pos hc17, if_neg hc31, if_pos hc37, if_neg hc45, if_pos hc51]; rfl)), rfl, rfl⟩) (by first | decide | omega | (dsimp only; omega)) (by first | decide | omega | (dsimp only; omega))
            · skip
              refine Goes.via (fun _ kk_ => XS.icmpNo X0.here hx rfl (hb hby d14_51) rfl (feq hc51).1 kk_) ?_
              show Goes p e below _ (s₁.setTop (mkF m 54 #[.val (.int c_)] []))
              refine Goes.via (fun _ kk_ => XS.iloadN X0.here hx rfl (hb hby d14_54) rfl  kk_) ?_
              show Goes p e below _ (s₁.setTop (mkF m 55 #[.val (.int c_)] [(.int c_)]))
              refine Goes.via (fun _ kk_ => XS.bipush X0.here hx rfl (hb hby d14_55) kk_) ?_
              show Goes p e below _ (s₁.setTop (mkF m 57 #[.val (.int c_)] [(.int (64 : Int32)), (.int c_)]))
              by_cases hc57 : c_ = (64 : Int32)
              · skip
                refine Goes.via (fun _ kk_ => XS.icmpYes X0.here hx rfl (pc0 := 57) (pc' := 144) rfl (hb hby d14_57) rfl (teq hc57).1 (by decide) (by decide) kk_) ?_
                show Goes p e below _ (s₁.setTop (mkF m 144 #[.val (.int c_)] []))
                refine Goes.via (fun _ kk_ => XS.iconst X0.here hx rfl (hb hby d14_144) kk_) ?_
                show Goes p e below _ (s₁.setTop (mkF m 145 #[.val (.int c_)] [(.int (1 : Int32))]))
                refine Goes.via (fun _ kk_ => XS.goto X0.here hx rfl (pc0 := 145) (pc' := 149) rfl (hb hby d14_145) (by decide) (by decide) kk_) ?_
                show Goes p e below _ (s₁.setTop (mkF m 149 #[.val (.int c_)] [(.int (1 : Int32))]))
                exact own_finN X0 hx hlk hret (by simp) (hb hby d14_149) (by rw [e0]; exact ⟨(by first | (rw [own_exp, if_pos hc3, if_pos hc17, if_neg hc31, if_pos hc37, if_neg hc45, if_neg hc51, if_pos hc57]; done) | (rw [own_exp, if_pos hc3, if_pos hc17, if_neg hc31, if_pos hc37, if_neg hc45, if_neg hc51, if_pos hc57]; rfl)), rfl, rfl⟩) (by first | decide | omega | (dsimp only; omega)) (by first | decide | omega | (dsimp only; omega))
              · skip
                refine Goes.via (fun _ kk_ => XS.icmpNo X0.here hx rfl (hb hby d14_57) rfl (feq hc57).1 kk_) ?_
                show Goes p e below _ (s₁.setTop (mkF m 60 #[.val (.int c_)] []))
                refine Goes.via (fun _ kk_ => XS.iloadN X0.here hx rfl (hb hby d14_60) rfl  kk_) ?_
                show Goes p e below _ (s₁.setTop (mkF m 61 #[.val (.int c_)] [(.int c_)]))
                refine Goes.via (fun _ kk_ => XS.bipush X0.here hx rfl (hb hby d14_61) kk_) ?_
                show Goes p e below _ (s₁.setTop (mkF m 63 #[.val (.int c_)] [(.int (36 : Int32)), (.int c_)]))
                by_cases hc63 : c_ = (36 : Int32)
                · skip
                  refine Goes.via (fun _ kk_ => XS.icmpYes X0.here hx rfl (pc0 := 63) (pc' := 144) rfl (hb hby d14_63) rfl (teq hc63).1 (by decide) (by decide) kk_) ?_
                  show Goes p e below _ (s₁.setTop (mkF m 144 #[.val (.int c_)] []))
                  refine Goes.via (fun _ kk_ => XS.iconst X0.here hx rfl (hb hby d14_144) kk_) ?_
                  show Goes p e below _ (s₁.setTop (mkF m 145 #[.val (.int c_)] [(.int (1 : Int32))]))
                  refine Goes.via (fun _ kk_ => XS.goto X0.here hx rfl (pc0 := 145) (pc' := 149) rfl (hb hby d14_145) (by decide) (by decide) kk_) ?_
                  show Goes p e below _ (s₁.setTop (mkF m 149 #[.val (.int c_)] [(.int (1 : Int32))]))
                  exact own_finN X0 hx hlk hret (by simp) (hb hby d14_149) (by rw [e0]; exact ⟨(by first | (rw [own_exp, if_pos hc3, if_pos hc17, if_neg hc31, if_pos hc37, if_neg hc45, if_neg hc51, if_neg hc57, if_pos hc63]; done) | (rw [own_exp, if_pos hc3, if_pos hc17, if_neg hc31, if_pos hc37, if_neg hc45, if_neg hc51, if_neg hc57, if_pos hc63]; rfl)), rfl, rfl⟩) (by first | decide | omega | (dsimp only; omega)) (by first | decide | omega | (dsimp only; omega))
                · skip
                  refine Goes.via (fun _ kk_ => XS.icmpNo X0.here hx rfl (hb hby d14_63) rfl (feq hc63).1 kk_) ?_
                  show Goes p e below _ (s₁.setTop (mkF m 66 #[.val (.int c_)] []))
                  refine Goes.via (fun _ kk_ => XS.iloadN X0.here hx rfl (hb hby d14_66) rfl  kk_) ?_
                  show Goes p e below _ (s₁.setTop (mkF m 67 #[.val (.int c_)] [(.int c_)]))
                  refine Goes.via (fun _ kk_ => XS.bipush X0.here hx rfl (hb hby d14_67) kk_) ?_
                  show Goes p e below _ (s₁.setTop (mkF m 69 #[.val (.int c_)] [(.int (37 : Int32)), (.int c_)]))
                  by_cases hc69 : c_ = (37 : Int32)
                  · skip
                    refine Goes.via (fun _ kk_ => XS.icmpYes X0.here hx rfl (pc0 := 69) (pc' := 144) rfl (hb hby d14_69) rfl (teq hc69).1 (by decide) (by decide) kk_) ?_
                    show Goes p e below _ (s₁.setTop (mkF m 144 #[.val (.int c_)] []))
                    refine Goes.via (fun _ kk_ => XS.iconst X0.here hx rfl (hb hby d14_144) kk_) ?_
                    show Goes p e below _ (s₁.setTop (mkF m 145 #[.val (.int c_)] [(.int (1 : Int32))]))
                    refine Goes.via (fun _ kk_ => XS.goto X0.here hx rfl (pc0 := 145) (pc' := 149) rfl (hb hby d14_145) (by decide) (by decide) kk_) ?_
                    show Goes p e below _ (s₁.setTop (mkF m 149 #[.val (.int c_)] [(.int (1 : Int32))]))
                    exact own_finN X0 hx hlk hret (by simp) (hb hby d14_149) (by rw [e0]; exact ⟨(by first | (rw [own_exp, if_pos hc3, if_pos hc17, if_neg hc31, if_pos hc37, if_neg hc45, if_neg hc51, if_neg hc57, if_neg hc63, if_pos hc69]; done) | (rw [own_exp, if_pos hc3, if_pos hc17, if_neg hc31, if_pos hc37, if_neg hc45, if_neg hc51, if_neg hc57, if_neg hc63, if_pos hc69]; rfl)), rfl, rfl⟩) (by first | decide | omega | (dsimp only; omega)) (by first | decide | omega | (dsimp only; omega))
                  · skip
                    refine Goes.via (fun _ kk_ => XS.icmpNo X0.here hx rfl (hb hby d14_69) rfl (feq hc69).1 kk_) ?_
                    show Goes p e below _ (s₁.setTop (mkF m 72 #[.val (.int c_)] []))
                    refine Goes.via (fun _ kk_ => XS.iloadN X0.here hx rfl (hb hby d14_72) rfl  kk_) ?_
                    show Goes p e below _ (s₁.setTop (mkF m 73 #[.val (.int c_)] [(.int c_)]))
                    refine Goes.via (fun _ kk_ => XS.bipush X0.here hx rfl (hb hby d14_73) kk_) ?_
                    show Goes p e below _ (s₁.setTop (mkF m 75 #[.val (.int c_)] [(.int (94 : Int32)), (.int c_)]))
                    by_cases hc75 : c_ = (94 : Int32)
                    · skip
                      refine Goes.via (fun _ kk_ => XS.icmpYes X0.here hx rfl (pc0 := 75) (pc' := 144) rfl (hb hby d14_75) rfl (teq hc75).1 (by decide) (by decide) kk_) ?_
                      show Goes p e below _ (s₁.setTop (mkF m 144 #[.val (.int c_)] []))
                      refine Goes.via (fun _ kk_ => XS.iconst X0.here hx rfl (hb hby d14_144) kk_) ?_
                      show Goes p e below _ (s₁.setTop (mkF m 145 #[.val (.int c_)] [(.int (1 : Int32))]))
                      refine Goes.via (fun _ kk_ => XS.goto X0.here hx rfl (pc0 := 145) (pc' := 149) rfl (hb hby d14_145) (by decide) (by decide) kk_) ?_
                      show Goes p e below _ (s₁.setTop (mkF m 149 #[.val (.int c_)] [(.int (1 : Int32))]))
                      exact own_finN X0 hx hlk hret (by simp) (hb hby d14_149) (by rw [e0]; exact ⟨(by first | (rw [own_exp, if_pos hc3, if_pos hc17, if_neg hc31, if_pos hc37, if_neg hc45, if_neg hc51, if_neg hc57, if_neg hc63, if_neg hc69, if_pos hc75]; done) | (rw [own_exp, if_pos hc3, if_pos hc17, if_neg hc31, if_pos hc37, if_neg hc45, if_neg hc51, if_neg hc57, if_neg hc63, if_neg hc69, if_pos hc75]; rfl)), rfl, rfl⟩) (by first | decide | omega | (dsimp only; omega)) (by first | decide | omega | (dsimp only; omega))
                    · skip
                      refine Goes.via (fun _ kk_ => XS.icmpNo X0.here hx rfl (hb hby d14_75) rfl (feq hc75).1 kk_) ?_
                      show Goes p e below _ (s₁.setTop (mkF m 78 #[.val (.int c_)] []))
                      refine Goes.via (fun _ kk_ => XS.iloadN X0.here hx rfl (hb hby d14_78) rfl  kk_) ?_
                      show Goes p e below _ (s₁.setTop (mkF m 79 #[.val (.int c_)] [(.int c_)]))
                      refine Goes.via (fun _ kk_ => XS.bipush X0.here hx rfl (hb hby d14_79) kk_) ?_
                      show Goes p e below _ (s₁.setTop (mkF m 81 #[.val (.int c_)] [(.int (38 : Int32)), (.int c_)]))
                      by_cases hc81 : c_ = (38 : Int32)
                      · skip
                        refine Goes.via (fun _ kk_ => XS.icmpYes X0.here hx rfl (pc0 := 81) (pc' := 144) rfl (hb hby d14_81) rfl (teq hc81).1 (by decide) (by decide) kk_) ?_
                        show Goes p e below _ (s₁.setTop (mkF m 144 #[.val (.int c_)] []))
                        refine Goes.via (fun _ kk_ => XS.iconst X0.here hx rfl (hb hby d14_144) kk_) ?_
                        show Goes p e below _ (s₁.setTop (mkF m 145 #[.val (.int c_)] [(.int (1 : Int32))]))
                        refine Goes.via (fun _ kk_ => XS.goto X0.here hx rfl (pc0 := 145) (pc' := 149) rfl (hb hby d14_145) (by decide) (by decide) kk_) ?_
                        show Goes p e below _ (s₁.setTop (mkF m 149 #[.val (.int c_)] [(.int (1 : Int32))]))
                        exact own_finN X0 hx hlk hret (by simp) (hb hby d14_149) (by rw [e0]; exact ⟨(by first | (rw [own_exp, if_pos hc3, if_pos hc17, if_neg hc31, if_pos hc37, if_neg hc45, if_neg hc51, if_neg hc57, if_neg hc63, if_neg hc69, if_neg hc75, if_pos hc81]; done) | (rw [own_exp, if_pos hc3, if_pos hc17, if_neg hc31, if_pos hc37, if_neg hc45, if_neg hc51, if_neg hc57, if_neg hc63, if_neg hc69, if_neg hc75, if_pos hc81]; rfl)), rfl, rfl⟩) (by first | decide | omega | (dsimp only; omega)) (by first | decide | omega | (dsimp only; omega))
                      · skip
                        refine Goes.via (fun _ kk_ => XS.icmpNo X0.here hx rfl (hb hby d14_81) rfl (feq hc81).1 kk_) ?_
                        show Goes p e below _ (s₁.setTop (mkF m 84 #[.val (.int c_)] []))
                        refine Goes.via (fun _ kk_ => XS.iloadN X0.here hx rfl (hb hby d14_84) rfl  kk_) ?_
                        show Goes p e below _ (s₁.setTop (mkF m 85 #[.val (.int c_)] [(.int c_)]))
                        refine Goes.via (fun _ kk_ => XS.bipush X0.here hx rfl (hb hby d14_85) kk_) ?_
                        show Goes p e below _ (s₁.setTop (mkF m 87 #[.val (.int c_)] [(.int (42 : Int32)), (.int c_)]))
                        by_cases hc87 : c_ = (42 : Int32)
                        · skip
                          refine Goes.via (fun _ kk_ => XS.icmpYes X0.here hx rfl (pc0 := 87) (pc' := 144) rfl (hb hby d14_87) rfl (teq hc87).1 (by decide) (by decide) kk_) ?_
                          show Goes p e below _ (s₁.setTop (mkF m 144 #[.val (.int c_)] []))
                          refine Goes.via (fun _ kk_ => XS.iconst X0.here hx rfl (hb hby d14_144) kk_) ?_
                          show Goes p e below _ (s₁.setTop (mkF m 145 #[.val (.int c_)] [(.int (1 : Int32))]))
                          refine Goes.via (fun _ kk_ => XS.goto X0.here hx rfl (pc0 := 145) (pc' := 149) rfl (hb hby d14_145) (by decide) (by decide) kk_) ?_
                          show Goes p e below _ (s₁.setTop (mkF m 149 #[.val (.int c_)] [(.int (1 : Int32))]))
                          exact own_finN X0 hx hlk hret (by simp) (hb hby d14_149) (by rw [e0]; exact ⟨(by first | (rw [own_exp, if_pos hc3, if_pos hc17, if_neg hc31, if_pos hc37, if_neg hc45, if_neg hc51, if_neg hc57, if_neg hc63, if_neg hc69, if_neg hc75, if_neg hc81, if_pos hc87]; done) | (rw [own_exp, if_pos hc3, if_pos hc17, if_neg hc31, if_pos hc37, if_neg hc45, if_neg hc51, if_neg hc57, if_neg hc63, if_neg hc69, if_neg hc75, if_neg hc81, if_pos hc87]; rfl)), rfl, rfl⟩) (by first | decide | omega | (dsimp only; omega)) (by first | decide | omega | (dsimp only; omega))
                        · skip
                          refine Goes.via (fun _ kk_ => XS.icmpNo X0.here hx rfl (hb hby d14_87) rfl (feq hc87).1 kk_) ?_
                          show Goes p e below _ (s₁.setTop (mkF m 90 #[.val (.int c_)] []))
                          refine Goes.via (fun _ kk_ => XS.iloadN X0.here hx rfl (hb hby d14_90) rfl  kk_) ?_
                          show Goes p e below _ (s₁.setTop (mkF m 91 #[.val (.int c_)] [(.int c_)]))
                          refine Goes.via (fun _ kk_ => XS.bipush X0.here hx rfl (hb hby d14_91) kk_) ?_
                          show Goes p e below _ (s₁.setTop (mkF m 93 #[.val (.int c_)] [(.int (95 : Int32)), (.int c_)]))
                          by_cases hc93 : c_ = (95 : Int32)
                          · skip
                            refine Goes.via (fun _ kk_ => XS.icmpYes X0.here hx rfl (pc0 := 93) (pc' := 144) rfl (hb hby d14_93) rfl (teq hc93).1 (by decide) (by decide) kk_) ?_
                            show Goes p e below _ (s₁.setTop (mkF m 144 #[.val (.int c_)] []))
                            refine Goes.via (fun _ kk_ => XS.iconst X0.here hx rfl (hb hby d14_144) kk_) ?_
                            show Goes p e below _ (s₁.setTop (mkF m 145 #[.val (.int c_)] [(.int (1 : Int32))]))
                            refine Goes.via (fun _ kk_ => XS.goto X0.here hx rfl (pc0 := 145) (pc' := 149) rfl (hb hby d14_145) (by decide) (by decide) kk_) ?_
                            show Goes p e below _ (s₁.setTop (mkF m 149 #[.val (.int c_)] [(.int (1 : Int32))]))
                            exact own_finN X0 hx hlk hret (by simp) (hb hby d14_149) (by rw [e0]; exact ⟨(by first | (rw [own_exp, if_pos hc3, if_pos hc17, if_neg hc31, if_pos hc37, if_neg hc45, if_neg hc51, if_neg hc57, if_neg hc63, if_neg hc69, if_neg hc75, if_neg hc81, if_neg hc87, if_pos hc93]; done) | (rw [own_exp, if_pos hc3, if_pos hc17, if_neg hc31, if_pos hc37, if_neg hc45, if_neg hc51, if_neg hc57, if_neg hc63, if_neg hc69, if_neg hc75, if_neg hc81, if_neg hc87, if_pos hc93]; rfl)), rfl, rfl⟩) (by first | decide | omega | (dsimp only; omega)) (by first | decide | omega | (dsimp only; omega))
                          · skip
                            refine Goes.via (fun _ kk_ => XS.icmpNo X0.here hx rfl (hb hby d14_93) rfl (feq hc93).1 kk_) ?_
                            show Goes p e below _ (s₁.setTop (mkF m 96 #[.val (.int c_)] []))
                            refine Goes.via (fun _ kk_ => XS.iloadN X0.here hx rfl (hb hby d14_96) rfl  kk_) ?_
                            show Goes p e below _ (s₁.setTop (mkF m 97 #[.val (.int c_)] [(.int c_)]))
                            refine Goes.via (fun _ kk_ => XS.bipush X0.here hx rfl (hb hby d14_97) kk_) ?_
                            show Goes p e below _ (s₁.setTop (mkF m 99 #[.val (.int c_)] [(.int (45 : Int32)), (.int c_)]))
                            by_cases hc99 : c_ = (45 : Int32)
                            · skip
                              refine Goes.via (fun _ kk_ => XS.icmpYes X0.here hx rfl (pc0 := 99) (pc' := 144) rfl (hb hby d14_99) rfl (teq hc99).1 (by decide) (by decide) kk_) ?_
                              show Goes p e below _ (s₁.setTop (mkF m 144 #[.val (.int c_)] []))
                              refine Goes.via (fun _ kk_ => XS.iconst X0.here hx rfl (hb hby d14_144) kk_) ?_
                              show Goes p e below _ (s₁.setTop (mkF m 145 #[.val (.int c_)] [(.int (1 : Int32))]))
                              refine Goes.via (fun _ kk_ => XS.goto X0.here hx rfl (pc0 := 145) (pc' := 149) rfl (hb hby d14_145) (by decide) (by decide) kk_) ?_
                              show Goes p e below _ (s₁.setTop (mkF m 149 #[.val (.int c_)] [(.int (1 : Int32))]))
                              exact own_finN X0 hx hlk hret (by simp) (hb hby d14_149) (by rw [e0]; exact ⟨(by first | (rw [own_exp, if_pos hc3, if_pos hc17, if_neg hc31, if_pos hc37, if_neg hc45, if_neg hc51, if_neg hc57, if_neg hc63, if_neg hc69, if_neg hc75, if_neg hc81, if_neg hc87, if_neg hc93, if_pos hc99]; done) | (rw [own_exp, if_pos hc3, if_pos hc17, if_neg hc31, if_pos hc37, if_neg hc45, if_neg hc51, if_neg hc57, if_neg hc63, if_neg hc69, if_neg hc75, if_neg hc81, if_neg hc87, if_neg hc93, if_pos hc99]; rfl)), rfl, rfl⟩) (by first | decide | omega | (dsimp only; omega)) (by first | decide | omega | (dsimp only; omega))
                            · skip
                              refine Goes.via (fun _ kk_ => XS.icmpNo X0.here hx rfl (hb hby d14_99) rfl (feq hc99).1 kk_) ?_
                              show Goes p e below _ (s₁.setTop (mkF m 102 #[.val (.int c_)] []))
                              refine Goes.via (fun _ kk_ => XS.iloadN X0.here hx rfl (hb hby d14_102) rfl  kk_) ?_
                              show Goes p e below _ (s₁.setTop (mkF m 103 #[.val (.int c_)] [(.int c_)]))
                              refine Goes.via (fun _ kk_ => XS.bipush X0.here hx rfl (hb hby d14_103) kk_) ?_
                              show Goes p e below _ (s₁.setTop (mkF m 105 #[.val (.int c_)] [(.int (43 : Int32)), (.int c_)]))
                              by_cases hc105 : c_ = (43 : Int32)
                              · skip
                                refine Goes.via (fun _ kk_ => XS.icmpYes X0.here hx rfl (pc0 := 105) (pc' := 144) rfl (hb hby d14_105) rfl (teq hc105).1 (by decide) (by decide) kk_) ?_
                                show Goes p e below _ (s₁.setTop (mkF m 144 #[.val (.int c_)] []))
                                refine Goes.via (fun _ kk_ => XS.iconst X0.here hx rfl (hb hby d14_144) kk_) ?_
                                show Goes p e below _ (s₁.setTop (mkF m 145 #[.val (.int c_)] [(.int (1 : Int32))]))
                                refine Goes.via (fun _ kk_ => XS.goto X0.here hx rfl (pc0 := 145) (pc' := 149) rfl (hb hby d14_145) (by decide) (by decide) kk_) ?_
                                show Goes p e below _ (s₁.setTop (mkF m 149 #[.val (.int c_)] [(.int (1 : Int32))]))
                                exact own_finN X0 hx hlk hret (by simp) (hb hby d14_149) (by rw [e0]; exact ⟨(by first | (rw [own_exp, if_pos hc3, if_pos hc17, if_neg hc31, if_pos hc37, if_neg hc45, if_neg hc51, if_neg hc57, if_neg hc63, if_neg hc69, if_neg hc75, if_neg hc81, if_neg hc87, if_neg hc93, if_neg hc99, if_pos hc105]; done) | (rw [own_exp, if_pos hc3, if_pos hc17, if_neg hc31, if_pos hc37, if_neg hc45, if_neg hc51, if_neg hc57, if_neg hc63, if_neg hc69, if_neg hc75, if_neg hc81, if_neg hc87, if_neg hc93, if_neg hc99, if_pos hc105]; rfl)), rfl, rfl⟩) (by first | decide | omega | (dsimp only; omega)) (by first | decide | omega | (dsimp only; omega))
                              · skip
                                refine Goes.via (fun _ kk_ => XS.icmpNo X0.here hx rfl (hb hby d14_105) rfl (feq hc105).1 kk_) ?_
                                show Goes p e below _ (s₁.setTop (mkF m 108 #[.val (.int c_)] []))
                                refine Goes.via (fun _ kk_ => XS.iloadN X0.here hx rfl (hb hby d14_108) rfl  kk_) ?_
                                show Goes p e below _ (s₁.setTop (mkF m 109 #[.val (.int c_)] [(.int c_)]))
                                refine Goes.via (fun _ kk_ => XS.bipush X0.here hx rfl (hb hby d14_109) kk_) ?_
                                show Goes p e below _ (s₁.setTop (mkF m 111 #[.val (.int c_)] [(.int (61 : Int32)), (.int c_)]))
                                by_cases hc111 : c_ = (61 : Int32)
                                · skip
                                  refine Goes.via (fun _ kk_ => XS.icmpYes X0.here hx rfl (pc0 := 111) (pc' := 144) rfl (hb hby d14_111) rfl (teq hc111).1 (by decide) (by decide) kk_) ?_
                                  show Goes p e below _ (s₁.setTop (mkF m 144 #[.val (.int c_)] []))
                                  refine Goes.via (fun _ kk_ => XS.iconst X0.here hx rfl (hb hby d14_144) kk_) ?_
                                  show Goes p e below _ (s₁.setTop (mkF m 145 #[.val (.int c_)] [(.int (1 : Int32))]))
                                  refine Goes.via (fun _ kk_ => XS.goto X0.here hx rfl (pc0 := 145) (pc' := 149) rfl (hb hby d14_145) (by decide) (by decide) kk_) ?_
                                  show Goes p e below _ (s₁.setTop (mkF m 149 #[.val (.int c_)] [(.int (1 : Int32))]))
                                  exact own_finN X0 hx hlk hret (by simp) (hb hby d14_149) (by rw [e0]; exact ⟨(by first | (rw [own_exp, if_pos hc3, if_pos hc17, if_neg hc31, if_pos hc37, if_neg hc45, if_neg hc51, if_neg hc57, if_neg hc63, if_neg hc69, if_neg hc75, if_neg hc81, if_neg hc87, if_neg hc93, if_neg hc99, if_neg hc105, if_pos hc111]; done) | (rw [own_exp, if_pos hc3, if_pos hc17, if_neg hc31, if_pos hc37, if_neg hc45, if_neg hc51, if_neg hc57, if_neg hc63, if_neg hc69, if_neg hc75, if_neg hc81, if_neg hc87, if_neg hc93, if_neg hc99, if_neg hc105, if_pos hc111]; rfl)), rfl, rfl⟩) (by first | decide | omega | (dsimp only; omega)) (by first | decide | omega | (dsimp only; omega))
                                · skip
                                  refine Goes.via (fun _ kk_ => XS.icmpNo X0.here hx rfl (hb hby d14_111) rfl (feq hc111).1 kk_) ?_
                                  show Goes p e below _ (s₁.setTop (mkF m 114 #[.val (.int c_)] []))
                                  refine Goes.via (fun _ kk_ => XS.iloadN X0.here hx rfl (hb hby d14_114) rfl  kk_) ?_
                                  show Goes p e below _ (s₁.setTop (mkF m 115 #[.val (.int c_)] [(.int c_)]))
                                  refine Goes.via (fun _ kk_ => XS.bipush X0.here hx rfl (hb hby d14_115) kk_) ?_
                                  show Goes p e below _ (s₁.setTop (mkF m 117 #[.val (.int c_)] [(.int (60 : Int32)), (.int c_)]))
                                  by_cases hc117 : c_ = (60 : Int32)
                                  · skip
                                    refine Goes.via (fun _ kk_ => XS.icmpYes X0.here hx rfl (pc0 := 117) (pc' := 144) rfl (hb hby d14_117) rfl (teq hc117).1 (by decide) (by decide) kk_) ?_
                                    show Goes p e below _ (s₁.setTop (mkF m 144 #[.val (.int c_)] []))
                                    refine Goes.via (fun _ kk_ => XS.iconst X0.here hx rfl (hb hby d14_144) kk_) ?_
                                    show Goes p e below _ (s₁.setTop (mkF m 145 #[.val (.int c_)] [(.int (1 : Int32))]))
                                    refine Goes.via (fun _ kk_ => XS.goto X0.here hx rfl (pc0 := 145) (pc' := 149) rfl (hb hby d14_145) (by decide) (by decide) kk_) ?_
                                    show Goes p e below _ (s₁.setTop (mkF m 149 #[.val (.int c_)] [(.int (1 : Int32))]))
                                    exact own_finN X0 hx hlk hret (by simp) (hb hby d14_149) (by rw [e0]; exact ⟨(by first | (rw [own_exp, if_pos hc3, if_pos hc17, if_neg hc31, if_pos hc37, if_neg hc45, if_neg hc51, if_neg hc57, if_neg hc63, if_neg hc69, if_neg hc75, if_neg hc81, if_neg hc87, if_neg hc93, if_neg hc99, if_neg hc105, if_neg hc111, if_pos hc117]; done) | (rw [own_exp, if_pos hc3, if_pos hc17, if_neg hc31, if_pos hc37, if_neg hc45, if_neg hc51, if_neg hc57, if_neg hc63, if_neg hc69, if_neg hc75, if_neg hc81, if_neg hc87, if_neg hc93, if_neg hc99, if_neg hc105, if_neg hc111, if_pos hc117]; rfl)), rfl, rfl⟩) (by first | decide | omega | (dsimp only; omega)) (by first | decide | omega | (dsimp only; omega))
                                  · skip
                                    refine Goes.via (fun _ kk_ => XS.icmpNo X0.here hx rfl (hb hby d14_117) rfl (feq hc117).1 kk_) ?_
                                    show Goes p e below _ (s₁.setTop (mkF m 120 #[.val (.int c_)] []))
                                    refine Goes.via (fun _ kk_ => XS.iloadN X0.here hx rfl (hb hby d14_120) rfl  kk_) ?_
                                    show Goes p e below _ (s₁.setTop (mkF m 121 #[.val (.int c_)] [(.int c_)]))
                                    refine Goes.via (fun _ kk_ => XS.bipush X0.here hx rfl (hb hby d14_121) kk_) ?_
                                    show Goes p e below _ (s₁.setTop (mkF m 123 #[.val (.int c_)] [(.int (62 : Int32)), (.int c_)]))
                                    by_cases hc123 : c_ = (62 : Int32)
                                    · skip
                                      refine Goes.via (fun _ kk_ => XS.icmpYes X0.here hx rfl (pc0 := 123) (pc' := 144) rfl (hb hby d14_123) rfl (teq hc123).1 (by decide) (by decide) kk_) ?_
                                      show Goes p e below _ (s₁.setTop (mkF m 144 #[.val (.int c_)] []))
                                      refine Goes.via (fun _ kk_ => XS.iconst X0.here hx rfl (hb hby d14_144) kk_) ?_
                                      show Goes p e below _ (s₁.setTop (mkF m 145 #[.val (.int c_)] [(.int (1 : Int32))]))
                                      refine Goes.via (fun _ kk_ => XS.goto X0.here hx rfl (pc0 := 145) (pc' := 149) rfl (hb hby d14_145) (by decide) (by decide) kk_) ?_
                                      show Goes p e below _ (s₁.setTop (mkF m 149 #[.val (.int c_)] [(.int (1 : Int32))]))
                                      exact own_finN X0 hx hlk hret (by simp) (hb hby d14_149) (by rw [e0]; exact ⟨(by first | (rw [own_exp, if_pos hc3, if_pos hc17, if_neg hc31, if_pos hc37, if_neg hc45, if_neg hc51, if_neg hc57, if_neg hc63, if_neg hc69, if_neg hc75, if_neg hc81, if_neg hc87, if_neg hc93, if_neg hc99, if_neg hc105, if_neg hc111, if_neg hc117, if_pos hc123]; done) | (rw [own_exp, if_pos hc3, if_pos hc17, if_neg hc31, if_pos hc37, if_neg hc45, if_neg hc51, if_neg hc57, if_neg hc63, if_neg hc69, if_neg hc75, if_neg hc81, if_neg hc87, if_neg hc93, if_neg hc99, if_neg hc105, if_neg hc111, if_neg hc117, if_pos hc123]; rfl)), rfl, rfl⟩) (by first | decide | omega | (dsimp only; omega)) (by first | decide | omega | (dsimp only; omega))
                                    · skip
                                      refine Goes.via (fun _ kk_ => XS.icmpNo X0.here hx rfl (hb hby d14_123) rfl (feq hc123).1 kk_) ?_
                                      show Goes p e below _ (s₁.setTop (mkF m 126 #[.val (.int c_)] []))
                                      refine Goes.via (fun _ kk_ => XS.iloadN X0.here hx rfl (hb hby d14_126) rfl  kk_) ?_
                                      show Goes p e below _ (s₁.setTop (mkF m 127 #[.val (.int c_)] [(.int c_)]))
                                      refine Goes.via (fun _ kk_ => XS.bipush X0.here hx rfl (hb hby d14_127) kk_) ?_
                                      show Goes p e below _ (s₁.setTop (mkF m 129 #[.val (.int c_)] [(.int (46 : Int32)), (.int c_)]))
                                      by_cases hc129 : c_ = (46 : Int32)
                                      · skip
                                        refine Goes.via (fun _ kk_ => XS.icmpYes X0.here hx rfl (pc0 := 129) (pc' := 144) rfl (hb hby d14_129) rfl (teq hc129).1 (by decide) (by decide) kk_) ?_
                                        show Goes p e below _ (s₁.setTop (mkF m 144 #[.val (.int c_)] []))
                                        refine Goes.via (fun _ kk_ => XS.iconst X0.here hx rfl (hb hby d14_144) kk_) ?_
                                        show Goes p e below _ (s₁.setTop (mkF m 145 #[.val (.int c_)] [(.int (1 : Int32))]))
                                        refine Goes.via (fun _ kk_ => XS.goto X0.here hx rfl (pc0 := 145) (pc' := 149) rfl (hb hby d14_145) (by decide) (by decide) kk_) ?_
                                        show Goes p e below _ (s₁.setTop (mkF m 149 #[.val (.int c_)] [(.int (1 : Int32))]))
                                        exact own_finN X0 hx hlk hret (by simp) (hb hby d14_149) (by rw [e0]; exact ⟨(by first | (rw [own_exp, if_pos hc3, if_pos hc17, if_neg hc31, if_pos hc37, if_neg hc45, if_neg hc51, if_neg hc57, if_neg hc63, if_neg hc69, if_neg hc75, if_neg hc81, if_neg hc87, if_neg hc93, if_neg hc99, if_neg hc105, if_neg hc111, if_neg hc117, if_neg hc123, if_pos hc129]; done) | (rw [own_exp, if_pos hc3, if_pos hc17, if_neg hc31, if_pos hc37, if_neg hc45, if_neg hc51, if_neg hc57, if_neg hc63, if_neg hc69, if_neg hc75, if_neg hc81, if_neg hc87, if_neg hc93, if_neg hc99, if_neg hc105, if_neg hc111, if_neg hc117, if_neg hc123, if_pos hc129]; rfl)), rfl, rfl⟩) (by first | decide | omega | (dsimp only; omega)) (by first | decide | omega | (dsimp only; omega))
                                      · skip
                                        refine Goes.via (fun _ kk_ => XS.icmpNo X0.here hx rfl (hb hby d14_129) rfl (feq hc129).1 kk_) ?_
                                        show Goes p e below _ (s₁.setTop (mkF m 132 #[.val (.int c_)] []))
                                        refine Goes.via (fun _ kk_ => XS.iloadN X0.here hx rfl (hb hby d14_132) rfl  kk_) ?_
                                        show Goes p e below _ (s₁.setTop (mkF m 133 #[.val (.int c_)] [(.int c_)]))
                                        refine Goes.via (fun _ kk_ => XS.bipush X0.here hx rfl (hb hby d14_133) kk_) ?_
                                        show Goes p e below _ (s₁.setTop (mkF m 135 #[.val (.int c_)] [(.int (63 : Int32)), (.int c_)]))
                                        by_cases hc135 : c_ = (63 : Int32)
                                        · skip
                                          refine Goes.via (fun _ kk_ => XS.icmpYes X0.here hx rfl (pc0 := 135) (pc' := 144) rfl (hb hby d14_135) rfl (teq hc135).1 (by decide) (by decide) kk_) ?_
                                          show Goes p e below _ (s₁.setTop (mkF m 144 #[.val (.int c_)] []))
                                          refine Goes.via (fun _ kk_ => XS.iconst X0.here hx rfl (hb hby d14_144) kk_) ?_
                                          show Goes p e below _ (s₁.setTop (mkF m 145 #[.val (.int c_)] [(.int (1 : Int32))]))
                                          refine Goes.via (fun _ kk_ => XS.goto X0.here hx rfl (pc0 := 145) (pc' := 149) rfl (hb hby d14_145) (by decide) (by decide) kk_) ?_
                                          show Goes p e below _ (s₁.setTop (mkF m 149 #[.val (.int c_)] [(.int (1 : Int32))]))
                                          exact own_finN X0 hx hlk hret (by simp) (hb hby d14_149) (by rw [e0]; exact ⟨(by first | (rw [own_exp, if_pos hc3, if_pos hc17, if_neg hc31, if_pos hc37, if_neg hc45, if_neg hc51, if_neg hc57, if_neg hc63, if_neg hc69, if_neg hc75, if_neg hc81, if_neg hc87, if_neg hc93, if_neg hc99, if_neg hc105, if_neg hc111, if_neg hc117, if_neg hc123, if_neg hc129, if_pos hc135]; done) | (rw [own_exp, if_pos hc3, if_pos hc17, if_neg hc31, if_pos hc37, if_neg hc45, if_neg hc51, if_neg hc57, if_neg hc63, if_neg hc69, if_neg hc75, if_neg hc81, if_neg hc87, if_neg hc93, if_neg hc99, if_neg hc105, if_neg hc111, if_neg hc117, if_neg hc123, if_neg hc129, if_pos hc135]; rfl)), rfl, rfl⟩) (by first | decide | omega | (dsimp only; omega)) (by first | decide | omega | (dsimp only; omega))
                                        · skip
                                          refine Goes.via (fun _ kk_ => XS.icmpNo X0.here hx rfl (hb hby d14_135) rfl (feq hc135).1 kk_) ?_
                                          show Goes p e below _ (s₁.setTop (mkF m 138 #[.val (.int c_)] []))
                                          refine Goes.via (fun _ kk_ => XS.iloadN X0.here hx rfl (hb hby d14_138) rfl  kk_) ?_
                                          show Goes p e below _ (s₁.setTop (mkF m 139 #[.val (.int c_)] [(.int c_)]))
                                          refine Goes.via (fun _ kk_ => XS.bipush X0.here hx rfl (hb hby d14_139) kk_) ?_
                                          show Goes p e below _ (s₁.setTop (mkF m 141 #[.val (.int c_)] [(.int (47 : Int32)), (.int c_)]))
                                          by_cases hc141 : c_ = (47 : Int32)
                                          · skip
                                            refine Goes.via (fun _ kk_ => XS.icmpNo X0.here hx rfl (hb hby d14_141) rfl (teq hc141).2 kk_) ?_
                                            show Goes p e below _ (s₁.setTop (mkF m 144 #[.val (.int c_)] []))
                                            refine Goes.via (fun _ kk_ => XS.iconst X0.here hx rfl (hb hby d14_144) kk_) ?_
                                            show Goes p e below _ (s₁.setTop (mkF m 145 #[.val (.int c_)] [(.int (1 : Int32))]))
                                            refine Goes.via (fun _ kk_ => XS.goto X0.here hx rfl (pc0 := 145) (pc' := 149) rfl (hb hby d14_145) (by decide) (by decide) kk_) ?_
                                            show Goes p e below _ (s₁.setTop (mkF m 149 #[.val (.int c_)] [(.int (1 : Int32))]))
                                            exact own_finN X0 hx hlk hret (by simp) (hb hby d14_149) (by rw [e0]; exact ⟨(by first | (rw [own_exp, if_pos hc3, if_pos hc17, if_neg hc31, if_pos hc37, if_neg hc45, if_neg hc51, if_neg hc57, if_neg hc63, if_neg hc69, if_neg hc75, if_neg hc81, if_neg hc87, if_neg hc93, if_neg hc99, if_neg hc105, if_neg hc111, if_neg hc117, if_neg hc123, if_neg hc129, if_neg hc135, if_pos hc141]; done) | (rw [own_exp, if_pos hc3, if_pos hc17, if_neg hc31, if_pos hc37, if_neg hc45, if_neg hc51, if_neg hc57, if_neg hc63, if_neg hc69, if_neg hc75, if_neg hc81, if_neg hc87, if_neg hc93, if_neg hc99, if_neg hc105, if_neg hc111, if_neg hc117, if_neg hc123, if_neg hc129, if_neg hc135, if_pos hc141]; rfl)), rfl, rfl⟩) (by first | decide | omega | (dsimp only; omega)) (by first | decide | omega | (dsimp only; omega))
                                          · skip
                                            refine Goes.via (fun _ kk_ => XS.icmpYes X0.here hx rfl (pc0 := 141) (pc' := 148) rfl (hb hby d14_141) rfl (feq hc141).2 (by decide) (by decide) kk_) ?_
                                            show Goes p e below _ (s₁.setTop (mkF m 148 #[.val (.int c_)] []))
                                            refine Goes.via (fun _ kk_ => XS.iconst X0.here hx rfl (hb hby d14_148) kk_) ?_
                                            show Goes p e below _ (s₁.setTop (mkF m 149 #[.val (.int c_)] [(.int (0 : Int32))]))
                                            exact own_finN X0 hx hlk hret (by simp) (hb hby d14_149) (by rw [e0]; exact ⟨(by first | (rw [own_exp, if_pos hc3, if_pos hc17, if_neg hc31, if_pos hc37, if_neg hc45, if_neg hc51, if_neg hc57, if_neg hc63, if_neg hc69, if_neg hc75, if_neg hc81, if_neg hc87, if_neg hc93, if_neg hc99, if_neg hc105, if_neg hc111, if_neg hc117, if_neg hc123, if_neg hc129, if_neg hc135, if_neg hc141]; done) | (rw [own_exp, if_pos hc3, if_pos hc17, if_neg hc31, if_pos hc37, if_neg hc45, if_neg hc51, if_neg hc57, if_neg hc63, if_neg hc69, if_neg hc75, if_neg hc81, if_neg hc87, if_neg hc93, if_neg hc99, if_neg hc105, if_neg hc111, if_neg hc117, if_neg hc123, if_neg hc129, if_neg hc135, if_neg hc141]; rfl)), rfl, rfl⟩) (by first | decide | omega | (dsimp only; omega)) (by first | decide | omega | (dsimp only; omega))
        · skip
          refine Goes.via (fun _ kk_ => XS.icmpNo X0.here hx rfl (hb hby d14_37) rfl (flt hc37).2.2.1 kk_) ?_
          show Goes p e below _ (s₁.setTop (mkF m 40 #[.val (.int c_)] []))
          refine Goes.via (fun _ kk_ => XS.iconst X0.here hx rfl (hb hby d14_40) kk_) ?_
          show Goes p e below _ (s₁.setTop (mkF m 41 #[.val (.int c_)] [(.int (1 : Int32))]))
          exact own_finN X0 hx hlk hret (by simp) (hb hby d14_41) (by rw [e0]; exact ⟨(by first | (rw [own_exp, if_pos hc3, if_pos hc17, if_neg hc31, if_neg hc37]; done) | (rw [own_exp, if_pos hc3, if_pos hc17, if_neg hc31, if_neg hc37]; rfl)), rfl, rfl⟩) (by first | decide | omega | (dsimp only; omega)) (by first | decide | omega | (dsimp only; omega))
    · skip
      refine Goes.via (fun _ kk_ => XS.icmpNo X0.here hx rfl (hb hby d14_17) rfl (flt hc17).1 kk_) ?_
      show Goes p e below _ (s₁.setTop (mkF m 20 #[.val (.int c_)] []))
      refine Goes.via (fun _ kk_ => XS.iloadN X0.here hx rfl (hb hby d14_20) rfl  kk_) ?_
      show Goes p e below _ (s₁.setTop (mkF m 21 #[.val (.int c_)] [(.int c_)]))
      refine Goes.via (fun _ kk_ => XS.bipush X0.here hx rfl (hb hby d14_21) kk_) ?_
      show Goes p e below _ (s₁.setTop (mkF m 23 #[.val (.int c_)] [(.int (90 : Int32)), (.int c_)]))
      by_cases hc23 : (90 : Int32) < c_
      · skip
        refine Goes.via (fun _ kk_ => XS.icmpYes X0.here hx rfl (pc0 := 23) (pc' := 28) rfl (hb hby d14_23) rfl (tlt hc23).2.2.1 (by decide) (by decide) kk_) ?_
        show Goes p e below _ (s₁.setTop (mkF m 28 #[.val (.int c_)] []))
        refine Goes.via (fun _ kk_ => XS.iloadN X0.here hx rfl (hb hby d14_28) rfl  kk_) ?_
        show Goes p e below _ (s₁.setTop (mkF m 29 #[.val (.int c_)] [(.int c_)]))
        refine Goes.via (fun _ kk_ => XS.bipush X0.here hx rfl (hb hby d14_29) kk_) ?_
        show Goes p e below _ (s₁.setTop (mkF m 31 #[.val (.int c_)] [(.int (48 : Int32)), (.int c_)]))
        by_cases hc31 : c_ < (48 : Int32)
        · skip
          refine Goes.via (fun _ kk_ => XS.icmpYes X0.here hx rfl (pc0 := 31) (pc' := 42) rfl (hb hby d14_31) rfl (tlt hc31).1 (by decide) (by decide) kk_) ?_
          show Goes p e below _ (s₁.setTop (mkF m 42 #[.val (.int c_)] []))
          refine Goes.via (fun _ kk_ => XS.iloadN X0.here hx rfl (hb hby d14_42) rfl  kk_) ?_
          show Goes p e below _ (s₁.setTop (mkF m 43 #[.val (.int c_)] [(.int c_)]))
          refine Goes.via (fun _ kk_ => XS.bipush X0.here hx rfl (hb hby d14_43) kk_) ?_
          show Goes p e below _ (s₁.setTop (mkF m 45 #[.val (.int c_)] [(.int (126 : Int32)), (.int c_)]))
          by_cases hc45 : c_ = (126 : Int32)
          · skip
            refine Goes.via (fun _ kk_ => XS.icmpYes X0.here hx rfl (pc0 := 45) (pc' := 144) rfl (hb hby d14_45) rfl (teq hc45).1 (by decide) (by decide) kk_) ?_
            show Goes p e below _ (s₁.setTop (mkF m 144 #[.val (.int c_)] []))
            refine Goes.via (fun _ kk_ => XS.iconst X0.here hx rfl (hb hby d14_144) kk_) ?_
            show Goes p e below _ (s₁.setTop (mkF m 145 #[.val (.int c_)] [(.int (1 : Int32))]))
            refine Goes.via (fun _ kk_ => XS.goto X0.here hx rfl (pc0 := 145) (pc' := 149) rfl (hb hby d14_145) (by decide) (by decide) kk_) ?_
            show Goes p e below _ (s₁.setTop (mkF m 149 #[.val (.int c_)] [(.int (1 : Int32))]))
            exact own_finN X0 hx hlk hret (by simp) (hb hby d14_149) (by rw [e0]; exact ⟨(by first | (rw [own_exp, if_pos hc3, if_neg hc17, if_pos hc23, if_pos hc31, if_pos hc45]; done) | (rw [own_exp, if_pos hc3, if_neg hc17, if_pos hc23, if_pos hc31, if_pos hc45]; rfl)), rfl, rfl⟩) (by first | decide | omega | (dsimp only; omega)) (by first | decide | omega | (dsimp only; omega))
          · skip
            refine Goes.via (fun _ kk_ => XS.icmpNo X0.here hx rfl (hb hby d14_45) rfl (feq hc45).1 kk_) ?_
            show Goes p e below _ (s₁.setTop (mkF m 48 #[.val (.int c_)] []))
            refine Goes.via (fun _ kk_ => XS.iloadN X0.here hx rfl (hb hby d14_48) rfl  kk_) ?_
            show Goes p e below _ (s₁.setTop (mkF m 49 #[.val (.int c_)] [(.int c_)]))
            refine Goes.via (fun _ kk_ => XS.bipush X0.here hx rfl (hb hby d14_49) kk_) ?_
            show Goes p e below _ (s₁.setTop (mkF m 51 #[.val (.int c_)] [(.int (33 : Int32)), (.int c_)]))
            by_cases hc51 : c_ = (33 : Int32)
            · skip
              refine Goes.via (fun _ kk_ => XS.icmpYes X0.here hx rfl (pc0 := 51) (pc' := 144) rfl (hb hby d14_51) rfl (teq hc51).1 (by decide) (by decide) kk_) ?_
              show Goes p e below _ (s₁.setTop (mkF m 144 #[.val (.int c_)] []))
              refine Goes.via (fun _ kk_ => XS.iconst X0.here hx rfl (hb hby d14_144) kk_) ?_
              show Goes p e below _ (s₁.setTop (mkF m 145 #[.val (.int c_)] [(.int (1 : Int32))]))
              refine Goes.via (fun _ kk_ => XS.goto X0.here hx rfl (pc0 := 145) (pc' := 149) rfl (hb hby d14_145) (by decide) (by decide) kk_) ?_
              show Goes p e below _ (s₁.setTop (mkF m 149 #[.val (.int c_)] [(.int (1 : Int32))]))
              exact own_finN X0 hx hlk hret (by simp) (hb hby d14_149) (by rw [e0]; exact ⟨(by first | (rw [own_exp, if_pos hc3, if_neg hc17, if_pos hc23, if_pos hc31, if_neg hc45, if_pos hc51]; done) | (rw [own_exp, if_pos hc3, if_neg hc17, if_pos hc23, if_pos hc31, if_neg hc45, if_pos hc51]; rfl)), rfl, rfl⟩) (by first | decide | omega | (dsimp only; omega)) (by first | decide | omega | (dsimp only; omega))
            · skip
              refine Goes.via (fun _ kk_ => XS.icmpNo X0.here hx rfl (hb hby d14_51) rfl (feq hc51).1 kk_) ?_
              show Goes p e below _ (s₁.setTop (mkF m 54 #[.val (.int c_)] []))
              refine Goes.via (fun _ kk_ => XS.iloadN X0.here hx rfl (hb hby d14_54) rfl  kk_) ?_
              show Goes p e below _ (s₁.setTop (mkF m 55 #[.val (.int c_)] [(.int c_)]))
              refine Goes.via (fun _ kk_ => XS.bipush X0.here hx rfl (hb hby d14_55) kk_) ?_
              show Goes p e below _ (s₁.setTop (mkF m 57 #[.val (.int c_)] [(.int (64 : Int32)), (.int c_)]))
              by_cases hc57 : c_ = (64 : Int32)
              · skip
                refine Goes.via (fun _ kk_ => XS.icmpYes X0.here hx rfl (pc0 := 57) (pc' := 144) rfl (hb hby d14_57) rfl (teq hc57).1 (by decide) (by decide) kk_) ?_
                show Goes p e below _ (s₁.setTop (mkF m 144 #[.val (.int c_)] []))
                refine Goes.via (fun _ kk_ => XS.iconst X0.here hx rfl (hb hby d14_144) kk_) ?_
                show Goes p e below _ (s₁.setTop (mkF m 145 #[.val (.int c_)] [(.int (1 : Int32))]))
                refine Goes.via (fun _ kk_ => XS.goto X0.here hx rfl (pc0 := 145) (pc' := 149) rfl (hb hby d14_145) (by decide) (by decide) kk_) ?_
                show Goes p e below _ (s₁.setTop (mkF m 149 #[.val (.int c_)] [(.int (1 : Int32))]))
                exact own_finN X0 hx hlk hret (by simp) (hb hby d14_149) (by rw [e0]; exact ⟨(by first | (rw [own_exp, if_pos hc3, if_neg hc17, if_pos hc23, if_pos hc31, if_neg hc45, if_neg hc51, if_pos hc57]; done) | (rw [own_exp, if_pos hc3, if_neg hc17, if_pos hc23, if_pos hc31, if_neg hc45, if_neg hc51, if_pos hc57]; rfl)), rfl, rfl⟩) (by first | decide | omega | (dsimp only; omega)) (by first | decide | omega | (dsimp only; omega))
              · skip
                refine Goes.via (fun _ kk_ => XS.icmpNo X0.here hx rfl (hb hby d14_57) rfl (feq hc57).1 kk_) ?_
                show Goes p e below _ (s₁.setTop (mkF m 60 #[.val (.int c_)] []))
                refine Goes.via (fun _ kk_ => XS.iloadN X0.here hx rfl (hb hby d14_60) rfl  kk_) ?_
                show Goes p e below _ (s₁.setTop (mkF m 61 #[.val (.int c_)] [(.int c_)]))
                refine Goes.via (fun _ kk_ => XS.bipush X0.here hx rfl (hb hby d14_61) kk_) ?_
                show Goes p e below _ (s₁.setTop (mkF m 63 #[.val (.int c_)] [(.int (36 : Int32)), (.int c_)]))
                by_cases hc63 : c_ = (36 : Int32)
                · skip
                  refine Goes.via (fun _ kk_ => XS.icmpYes X0.here hx rfl (pc0 := 63) (pc' := 144) rfl (hb hby d14_63) rfl (teq hc63).1 (by decide) (by decide) kk_) ?_
                  show Goes p e below _ (s₁.setTop (mkF m 144 #[.val (.int c_)] []))
                  refine Goes.via (fun _ kk_ => XS.iconst X0.here hx rfl (hb hby d14_144) kk_) ?_
                  show Goes p e below _ (s₁.setTop (mkF m 145 #[.val (.int c_)] [(.int (1 : Int32))]))
                  refine Goes.via (fun _ kk_ => XS.goto X0.here hx rfl (pc0 := 145) (pc' := 149) rfl (hb hby d14_145) (by decide) (by decide) kk_) ?_
                  show Goes p e below _ (s₁.setTop (mkF m 149 #[.val (.int c_)] [(.int (1 : Int32))]))
                  exact own_finN X0 hx hlk hret (by simp) (hb hby d14_149) (by rw [e0]; exact ⟨(by first | (rw [own_exp, if_pos hc3, if_neg hc17, if_pos hc23, if_pos hc31, if_neg hc45, if_neg hc51, if_neg hc57, if_pos hc63]; done) | (rw [own_exp, if_pos hc3, if_neg hc17, if_pos hc23, if_pos hc31, if_neg hc45, if_neg hc51, if_neg hc57, if_pos hc63]; rfl)), rfl, rfl⟩) (by first | decide | omega | (dsimp only; omega)) (by first | decide | omega | (dsimp only; omega))
                · skip
                  refine Goes.via (fun _ kk_ => XS.icmpNo X0.here hx rfl (hb hby d14_63) rfl (feq hc63).1 kk_) ?_
                  show Goes p e below _ (s₁.setTop (mkF m 66 #[.val (.int c_)] []))
                  refine Goes.via (fun _ kk_ => XS.iloadN X0.here hx rfl (hb hby d14_66) rfl  kk_) ?_
                  show Goes p e below _ (s₁.setTop (mkF m 67 #[.val (.int c_)] [(.int c_)]))
                  refine Goes.via (fun _ kk_ => XS.bipush X0.here hx rfl (hb hby d14_67) kk_) ?_
                  show Goes p e below _ (s₁.setTop (mkF m 69 #[.val (.int c_)] [(.int (37 : Int32)), (.int c_)]))
                  by_cases hc69 : c_ = (37 : Int32)
                  · skip
                    refine Goes.via (fun _ kk_ => XS.icmpYes X0.here hx rfl (pc0 := 69) (pc' := 144) rfl (hb hby d14_69) rfl (teq hc69).1 (by decide) (by decide) kk_) ?_
                    show Goes p e below _ (s₁.setTop (mkF m 144 #[.val (.int c_)] []))
                    refine Goes.via (fun _ kk_ => XS.iconst X0.here hx rfl (hb hby d14_144) kk_) ?_
                    show Goes p e below _ (s₁.setTop (mkF m 145 #[.val (.int c_)] [(.int (1 : Int32))]))
                    refine Goes.via (fun _ kk_ => XS.goto X0.here hx rfl (pc0 := 145) (pc' := 149) rfl (hb hby d14_145) (by decide) (by decide) kk_) ?_
                    show Goes p e below _ (s₁.setTop (mkF m 149 #[.val (.int c_)] [(.int (1 : Int32))]))
                    exact own_finN X0 hx hlk hret (by simp) (hb hby d14_149) (by rw [e0]; exact ⟨(by first | (rw [own_exp, if_pos hc3, if_neg hc17, if_pos hc23, if_pos hc31, if_neg hc45, if_neg hc51, if_neg hc57, if_neg hc63, if_pos hc69]; done) | (rw [own_exp, if_pos hc3, if_neg hc17, if_pos hc23, if_pos hc31, if_neg hc45, if_neg hc51, if_neg hc57, if_neg hc63, if_pos hc69]; rfl)), rfl, rfl⟩) (by first | decide | omega | (dsimp only; omega)) (by first | decide | omega | (dsimp only; omega))
                  · skip
                    refine Goes.via (fun _ kk_ => XS.icmpNo X0.here hx rfl (hb hby d14_69) rfl (feq hc69).1 kk_) ?_
                    show Goes p e below _ (s₁.setTop (mkF m 72 #[.val (.int c_)] []))
                    refine Goes.via (fun _ kk_ => XS.iloadN X0.here hx rfl (hb hby d14_72) rfl  kk_) ?_
                    show Goes p e below _ (s₁.setTop (mkF m 73 #[.val (.int c_)] [(.int c_)]))
                    refine Goes.via (fun _ kk_ => XS.bipush X0.here hx rfl (hb hby d14_73) kk_) ?_
                    show Goes p e below _ (s₁.setTop (mkF m 75 #[.val (.int c_)] [(.int (94 : Int32)), (.int c_)]))
                    by_cases hc75 : c_ = (94 : Int32)
                    · skip
                      refine Goes.via (fun _ kk_ => XS.icmpYes X0.here hx rfl (pc0 := 75) (pc' := 144) rfl (hb hby d14_75) rfl (teq hc75).1 (by decide) (by decide) kk_) ?_
                      show Goes p e below _ (s₁.setTop (mkF m 144 #[.val (.int c_)] []))
                      refine Goes.via (fun _ kk_ => XS.iconst X0.here hx rfl (hb hby d14_144) kk_) ?_
                      show Goes p e below _ (s₁.setTop (mkF m 145 #[.val (.int c_)] [(.int (1 : Int32))]))
                      refine Goes.via (fun _ kk_ => XS.goto X0.here hx rfl (pc0 := 145) (pc' := 149) rfl (hb hby d14_145) (by decide) (by decide) kk_) ?_
                      show Goes p e below _ (s₁.setTop (mkF m 149 #[.val (.int c_)] [(.int (1 : Int32))]))
                      exact own_finN X0 hx hlk hret (by simp) (hb hby d14_149) (by rw [e0]; exact ⟨(by first | (rw [own_exp, if_pos hc3, if_neg hc17, if_pos hc23, if_pos hc31, if_neg hc45, if_neg hc51, if_neg hc57, if_neg hc63, if_neg hc69, if_pos hc75]; done) | (rw [own_exp, if_pos hc3, if_neg hc17, if_pos hc23, if_pos hc31, if_neg hc45, if_neg hc51, if_neg hc57, if_neg hc63, if_neg hc69, if_pos hc75]; rfl)), rfl, rfl⟩) (by first | decide | omega | (dsimp only; omega)) (by first | decide | omega | (dsimp only; omega))
                    · skip
                      refine Goes.via (fun _ kk_ => XS.icmpNo X0.here hx rfl (hb hby d14_75) rfl (feq hc75).1 kk_) ?_
                      show Goes p e below _ (s₁.setTop (mkF m 78 #[.val (.int c_)] []))
                      refine Goes.via (fun _ kk_ => XS.iloadN X0.here hx rfl (hb hby d14_78) rfl  kk_) ?_
                      show Goes p e below _ (s₁.setTop (mkF m 79 #[.val (.int c_)] [(.int c_)]))
                      refine Goes.via (fun _ kk_ => XS.bipush X0.here hx rfl (hb hby d14_79) kk_) ?_
                      show Goes p e below _ (s₁.setTop (mkF m 81 #[.val (.int c_)] [(.int (38 : Int32)), (.int c_)]))
                      by_cases hc81 : c_ = (38 : Int32)
                      · skip
                        refine Goes.via (fun _ kk_ => XS.icmpYes X0.here hx rfl (pc0 := 81) (pc' := 144) rfl (hb hby d14_81) rfl (teq hc81).1 (by decide) (by decide) kk_) ?_
                        show Goes p e below _ (s₁.setTop (mkF m 144 #[.val (.int c_)] []))
                        refine Goes.via (fun _ kk_ => XS.iconst X0.here hx rfl (hb hby d14_144) kk_) ?_
                        show Goes p e below _ (s₁.setTop (mkF m 145 #[.val (.int c_)] [(.int (1 : Int32))]))
                        refine Goes.via (fun _ kk_ => XS.goto X0.here hx rfl (pc0 := 145) (pc' := 149) rfl (hb hby d14_145) (by decide) (by decide) kk_) ?_
                        show Goes p e below _ (s₁.setTop (mkF m 149 #[.val (.int c_)] [(.int (1 : Int32))]))
                        exact own_finN X0 hx hlk hret (by simp) (hb hby d14_149) (by rw [e0]; exact ⟨(by first | (rw [own_exp, if_pos hc3, if_neg hc17, if_pos hc23, if_pos hc31, if_neg hc45, if_neg hc51, if_neg hc57, if_neg hc63, if_neg hc69, if_neg hc75, if_pos hc81]; done) | (rw [own_exp, if_pos hc3, if_neg hc17, if_pos hc23, if_pos hc31, if_neg hc45, if_neg hc51, if_neg hc57, if_neg hc63, if_neg hc69, if_neg hc75, if_pos hc81]; rfl)), rfl, rfl⟩) (by first | decide | omega | (dsimp only; omega)) (by first | decide | omega | (dsimp only; omega))
                      · skip
                        refine Goes.via (fun _ kk_ => XS.icmpNo X0.here hx rfl (hb hby d14_81) rfl (feq hc81).1 kk_) ?_
                        show Goes p e below _ (s₁.setTop (mkF m 84 #[.val (.int c_)] []))
                        refine Goes.via (fun _ kk_ => XS.iloadN X0.here hx rfl (hb hby d14_84) rfl  kk_) ?_
                        show Goes p e below _ (s₁.setTop (mkF m 85 #[.val (.int c_)] [(.int c_)]))
                        refine Goes.via (fun _ kk_ => XS.bipush X0.here hx rfl (hb hby d14_85) kk_) ?_
                        show Goes p e below _ (s₁.setTop (mkF m 87 #[.val (.int c_)] [(.int (42 : Int32)), (.int c_)]))
                        by_cases hc87 : c_ = (42 : Int32)
                        · skip
                          refine Goes.via (fun _ kk_ => XS.icmpYes X0.here hx rfl (pc0 := 87) (pc' := 144) rfl (hb hby d14_87) rfl (teq hc87).1 (by decide) (by decide) kk_) ?_
                          show Goes p e below _ (s₁.setTop (mkF m 144 #[.val (.int c_)] []))
                          refine Goes.via (fun _ kk_ => XS.iconst X0.here hx rfl (hb hby d14_144) kk_) ?_
                          show Goes p e below _ (s₁.setTop (mkF m 145 #[.val (.int c_)] [(.int (1 : Int32))]))
                          refine Goes.via (fun _ kk_ => XS.goto X0.here hx rfl (pc0 := 145) (pc' := 149) rfl (hb hby d14_145) (by decide) (by decide) kk_) ?_
                          show Goes p e below _ (s₁.setTop (mkF m 149 #[.val (.int c_)] [(.int (1 : Int32))]))
                          exact own_finN X0 hx hlk hret (by simp) (hb hby d14_149) (by rw [e0]; exact ⟨(by first | (rw [own_exp, if_pos hc3, if_neg hc17, if_pos hc23, if_pos hc31, if_neg hc45, if_neg hc51, if_neg hc57, if_neg hc63, if_neg hc69, if_neg hc75, if_neg hc81, if_pos hc87]; done) | (rw [own_exp, if_pos hc3, if_neg hc17, if_pos hc23, if_pos hc31, if_neg hc45, if_neg hc51, if_neg hc57, if_neg hc63, if_neg hc69, if_neg hc75, if_neg hc81, if_pos hc87]; rfl)), rfl, rfl⟩) (by first | decide | omega | (dsimp only; omega)) (by first | decide | omega | (dsimp only; omega))
                        · skip
                          refine Goes.via (fun _ kk_ => XS.icmpNo X0.here hx rfl (hb hby d14_87) rfl (feq hc87).1 kk_) ?_
                          show Goes p e below _ (s₁.setTop (mkF m 90 #[.val (.int c_)] []))
                          refine Goes.via (fun _ kk_ => XS.iloadN X0.here hx rfl (hb hby d14_90) rfl  kk_) ?_
                          show Goes p e below _ (s₁.setTop (mkF m 91 #[.val (.int c_)] [(.int c_)]))
                          refine Goes.via (fun _ kk_ => XS.bipush X0.here hx rfl (hb hby d14_91) kk_) ?_
                          show Goes p e below _ (s₁.setTop (mkF m 93 #[.val (.int c_)] [(.int (95 : Int32)), (.int c_)]))
                          by_cases hc93 : c_ = (95 : Int32)
                          · skip
                            refine Goes.via (fun _ kk_ => XS.icmpYes X0.here hx rfl (pc0 := 93) (pc' := 144) rfl (hb hby d14_93) rfl (teq hc93).1 (by decide) (by decide) kk_) ?_
                            show Goes p e below _ (s₁.setTop (mkF m 144 #[.val (.int c_)] []))
                            refine Goes.via (fun _ kk_ => XS.iconst X0.here hx rfl (hb hby d14_144) kk_) ?_
                            show Goes p e below _ (s₁.setTop (mkF m 145 #[.val (.int c_)] [(.int (1 : Int32))]))
                            refine Goes.via (fun _ kk_ => XS.goto X0.here hx rfl (pc0 := 145) (pc' := 149) rfl (hb hby d14_145) (by decide) (by decide) kk_) ?_
                            show Goes p e below _ (s₁.setTop (mkF m 149 #[.val (.int c_)] [(.int (1 : Int32))]))
                            exact own_finN X0 hx hlk hret (by simp) (hb hby d14_149) (by rw [e0]; exact ⟨(by first | (rw [own_exp, if_pos hc3, if_neg hc17, if_pos hc23, if_pos hc31, if_neg hc45, if_neg hc51, if_neg hc57, if_neg hc63, if_neg hc69, if_neg hc75, if_neg hc81, if_neg hc87, if_pos hc93]; done) | (rw [own_exp, if_pos hc3, if_neg hc17, if_pos hc23, if_pos hc31, if_neg hc45, if_neg hc51, if_neg hc57, if_neg hc63, if_neg hc69, if_neg hc75, if_neg hc81, if_neg hc87, if_pos hc93]; rfl)), rfl, rfl⟩) (by first | decide | omega | (dsimp only; omega)) (by first | decide | omega | (dsimp only; omega))
                          · skip
                            refine Goes.via (fun _ kk_ => XS.icmpNo X0.here hx rfl (hb hby d14_93) rfl (feq hc93).1 kk_) ?_
                            show Goes p e below _ (s₁.setTop (mkF m 96 #[.val (.int c_)] []))
                            refine Goes.via (fun _ kk_ => XS.iloadN X0.here hx rfl (hb hby d14_96) rfl  kk_) ?_
                            show Goes p e below _ (s₁.setTop (mkF m 97 #[.val (.int c_)] [(.int c_)]))
                            refine Goes.via (fun _ kk_ => XS.bipush X0.here hx rfl (hb hby d14_97) kk_) ?_
                            show Goes p e below _ (s₁.setTop (mkF m 99 #[.val (.int c_)] [(.int (45 : Int32)), (.int c_)]))
                            by_cases hc99 : c_ = (45 : Int32)
                            · skip
                              refine Goes.via (fun _ kk_ => XS.icmpYes X0.here hx rfl (pc0 := 99) (pc' := 144) rfl (hb hby d14_99) rfl (teq hc99).1 (by decide) (by decide) kk_) ?_
                              show Goes p e below _ (s₁.setTop (mkF m 144 #[.val (.int c_)] []))
                              refine Goes.via (fun _ kk_ => XS.iconst X0.here hx rfl (hb hby d14_144) kk_) ?_
                              show Goes p e below _ (s₁.setTop (mkF m 145 #[.val (.int c_)] [(.int (1 : Int32))]))
                              refine Goes.via (fun _ kk_ => XS.goto X0.here hx rfl (pc0 := 145) (pc' := 149) rfl (hb hby d14_145) (by decide) (by decide) kk_) ?_
                              show Goes p e below _ (s₁.setTop (mkF m 149 #[.val (.int c_)] [(.int (1 : Int32))]))
                              exact own_finN X0 hx hlk hret (by simp) (hb hby d14_149) (by rw [e0]; exact ⟨(by first | (rw [own_exp, if_pos hc3, if_neg hc17, if_pos hc23, if_pos hc31, if_neg hc45, if_neg hc51, if_neg hc57, if_neg hc63, if_neg hc69, if_neg hc75, if_neg hc81, if_neg hc87, if_neg hc93, if_pos hc99]; done) | (rw [own_exp, if_pos hc3, if_neg hc17, if_pos hc23, if_pos hc31, if_neg hc45, if_neg hc51, if_neg hc57, if_neg hc63, if_neg hc69, if_neg hc75, if_neg hc81, if_neg hc87, if_neg hc93, if_pos hc99]; rfl)), rfl, rfl⟩) (by first | decide | omega | (dsimp only; omega)) (by first | decide | omega | (dsimp only; omega))
                            · skip
                              refine Goes.via (fun _ kk_ => XS.icmpNo X0.here hx rfl (hb hby d14_99) rfl (feq hc99).1 kk_) ?_
                              show Goes p e below _ (s₁.setTop (mkF m 102 #[.val (.int c_)] []))
                              refine Goes.via (fun _ kk_ => XS.iloadN X0.here hx rfl (hb hby d14_102) rfl  kk_) ?_
                              show Goes p e below _ (s₁.setTop (mkF m 103 #[.val (.int c_)] [(.int c_)]))
                              refine Goes.via (fun _ kk_ => XS.bipush X0.here hx rfl (hb hby d14_103) kk_) ?_
                              show Goes p e below _ (s₁.setTop (mkF m 105 #[.val (.int c_)] [(.int (43 : Int32)), (.int c_)]))
                              by_cases hc105 : c_ = (43 : Int32)
                              · skip
                                refine Goes.via (fun _ kk_ => XS.icmpYes X0.here hx rfl (pc0 := 105) (pc' := 144) rfl (hb hby d14_105) rfl (teq hc105).1 (by decide) (by decide) kk_) ?_
                                show Goes p e below _ (s₁.setTop (mkF m 144 #[.val (.int c_)] []))
                                refine Goes.via (fun _ kk_ => XS.iconst X0.here hx rfl (hb hby d14_144) kk_) ?_
                                show Goes p e below _ (s₁.setTop (mkF m 145 #[.val (.int c_)] [(.int (1 : Int32))]))
                                refine Goes.via (fun _ kk_ => XS.goto X0.here hx rfl (pc0 := 145) (pc' := 149) rfl (hb hby d14_145) (by decide) (by decide) kk_) ?_
                                show Goes p e below _ (s₁.setTop (mkF m 149 #[.val (.int c_)] [(.int (1 : Int32))]))
                                exact own_finN X0 hx hlk hret (by simp) (hb hby d14_149) (by rw [e0]; exact ⟨(by first | (rw [own_exp, if_pos hc3, if_neg hc17, if_pos hc23, if_pos hc31, if_neg hc45, if_neg hc51, if_neg hc57, if_neg hc63, if_neg hc69, if_neg hc75, if_neg hc81, if_neg hc87, if_neg hc93, if_neg hc99, if_pos hc105]; done) | (rw [own_exp, if_pos hc3, if_neg hc17, if_pos hc23, if_pos hc31, if_neg hc45, if_neg hc51, if_neg hc57, if_neg hc63, if_neg hc69, if_neg hc75, if_neg hc81, if_neg hc87, if_neg hc93, if_neg hc99, if_pos hc105]; rfl)), rfl, rfl⟩) (by first | decide | omega | (dsimp only; omega)) (by first | decide | omega | (dsimp only; omega))
                              · skip
                                refine Goes.via (fun _ kk_ => XS.icmpNo X0.here hx rfl (hb hby d14_105) rfl (feq hc105).1 kk_) ?_
                                show Goes p e below _ (s₁.setTop (mkF m 108 #[.val (.int c_)] []))
                                refine Goes.via (fun _ kk_ => XS.iloadN X0.here hx rfl (hb hby d14_108) rfl  kk_) ?_
                                show Goes p e below _ (s₁.setTop (mkF m 109 #[.val (.int c_)] [(.int c_)]))
                                refine Goes.via (fun _ kk_ => XS.bipush X0.here hx rfl (hb hby d14_109) kk_) ?_
                                show Goes p e below _ (s₁.setTop (mkF m 111 #[.val (.int c_)] [(.int (61 : Int32)), (.int c_)]))
                                by_cases hc111 : c_ = (61 : Int32)
                                · skip
                                  refine Goes.via (fun _ kk_ => XS.icmpYes X0.here hx rfl (pc0 := 111) (pc' := 144) rfl (hb hby d14_111) rfl (teq hc111).1 (by decide) (by decide) kk_) ?_
                                  show Goes p e below _ (s₁.setTop (mkF m 144 #[.val (.int c_)] []))
                                  refine Goes.via (fun _ kk_ => XS.iconst X0.here hx rfl (hb hby d14_144) kk_) ?_
                                  show Goes p e below _ (s₁.setTop (mkF m 145 #[.val (.int c_)] [(.int (1 : Int32))]))
                                  refine Goes.via (fun _ kk_ => XS.goto X0.here hx rfl (pc0 := 145) (pc' := 149) rfl (hb hby d14_145) (by decide) (by decide) kk_) ?_
                                  show Goes p e below _ (s₁.setTop (mkF m 149 #[.val (.int c_)] [(.int (1 : Int32))]))
                                  exact own_finN X0 hx hlk hret (by simp) (hb hby d14_149) (by rw [e0]; exact ⟨(by first | (rw [own_exp, if_pos hc3, if_neg hc17, if_pos hc23, if_pos hc31, if_neg hc45, if_neg hc51, if_neg hc57, if_neg hc63, if_neg hc69, if_neg hc75, if_neg hc81, if_neg hc87, if_neg hc93, if_neg hc99, if_neg hc105, if_pos hc111]; done) | (rw [own_exp, if_pos hc3, if_neg hc17, if_pos hc23, if_pos hc31, if_neg hc45, if_neg hc51, if_neg hc57, if_neg hc63, if_neg hc69, if_neg hc75, if_neg hc81, if_neg hc87, if_neg hc93, if_neg hc99, if_neg hc105, if_pos hc111]; rfl)), rfl, rfl⟩) (by first | decide | omega | (dsimp only; omega)) (by first | decide | omega | (dsimp only; omega))
                                · skip
                                  refine Goes.via (fun _ kk_ => XS.icmpNo X0.here hx rfl (hb hby d14_111) rfl (feq hc111).1 kk_) ?_
                                  show Goes p e below _ (s₁.setTop (mkF m 114 #[.val (.int c_)] []))
                                  refine Goes.via (fun _ kk_ => XS.iloadN X0.here hx rfl (hb hby d14_114) rfl  kk_) ?_
                                  show Goes p e below _ (s₁.setTop (mkF m 115 #[.val (.int c_)] [(.int c_)]))
                                  refine Goes.via (fun _ kk_ => XS.bipush X0.here hx rfl (hb hby d14_115) kk_) ?_
                                  show Goes p e below _ (s₁.setTop (mkF m 117 #[.val (.int c_)] [(.int (60 : Int32)), (.int c_)]))
                                  by_cases hc117 : c_ = (60 : Int32)
                                  · skip
                                    refine Goes.via (fun _ kk_ => XS.icmpYes X0.here hx rfl (pc0 := 117) (pc' := 144) rfl (hb hby d14_117) rfl (teq hc117).1 (by decide) (by decide) kk_) ?_
                                    show Goes p e below _ (s₁.setTop (mkF m 144 #[.val (.int c_)] []))
                                    refine Goes.via (fun _ kk_ => XS.iconst X0.here hx rfl (hb hby d14_144) kk_) ?_
                                    show Goes p e below _ (s₁.setTop (mkF m 145 #[.val (.int c_)] [(.int (1 : Int32))]))
                                    refine Goes.via (fun _ kk_ => XS.goto X0.here hx rfl (pc0 := 145) (pc' := 149) rfl (hb hby d14_145) (by decide) (by decide) kk_) ?_
                                    show Goes p e below _ (s₁.setTop (mkF m 149 #[.val (.int c_)] [(.int (1 : Int32))]))
                                    exact own_finN X0 hx hlk hret (by simp) (hb hby d14_149) (by rw [e0]; exact ⟨(by first | (rw [own_exp, if_pos hc3, if_neg hc17, if_pos hc23, if_pos hc31, if_neg hc45, if_neg hc51, if_neg hc57, if_neg hc63, if_neg hc69, if_neg hc75, if_neg hc81, if_neg hc87, if_neg hc93, if_neg hc99, if_neg hc105, if_neg hc111, if_pos hc117]; done) | (rw [own_exp, if_pos hc3, if_neg hc17, if_pos hc23, if_pos hc31, if_neg hc45, if_neg hc51, if_neg hc57, if_neg hc63, if_neg hc69, if_neg hc75, if_neg hc81, if_neg hc87, if_neg hc93, if_neg hc99, if_neg hc105, if_neg hc111, if_pos hc117]; rfl)), rfl, rfl⟩) (by first | decide | omega | (dsimp only; omega)) (by first | decide | omega | (dsimp only; omega))
                                  · skip
                                    refine Goes.via (fun _ kk_ => XS.icmpNo X0.here hx rfl (hb hby d14_117) rfl (feq hc117).1 kk_) ?_
                                    show Goes p e below _ (s₁.setTop (mkF m 120 #[.val (.int c_)] []))
                                    refine Goes.via (fun _ kk_ => XS.iloadN X0.here hx rfl (hb hby d14_120) rfl  kk_) ?_
                                    show Goes p e below _ (s₁.setTop (mkF m 121 #[.val (.int c_)] [(.int c_)]))
                                    refine Goes.via (fun _ kk_ => XS.bipush X0.here hx rfl (hb hby d14_121) kk_) ?_
                                    show Goes p e below _ (s₁.setTop (mkF m 123 #[.val (.int c_)] [(.int (62 : Int32)), (.int c_)]))
                                    by_cases hc123 : c_ = (62 : Int32)
                                    · skip
                                      refine Goes.via (fun _ kk_ => XS.icmpYes X0.here hx rfl (pc0 := 123) (pc' := 144) rfl (hb hby d14_123) rfl (teq hc123).1 (by decide) (by decide) kk_) ?_
                                      show Goes p e below _ (s₁.setTop (mkF m 144 #[.val (.int c_)] []))
                                      refine Goes.via (fun _ kk_ => XS.iconst X0.here hx rfl (hb hby d14_144) kk_) ?_
                                      show Goes p e below _ (s₁.setTop (mkF m 145 #[.val (.int c_)] [(.int (1 : Int32))]))
                                      refine Goes.via (fun _ kk_ => XS.goto X0.here hx rfl (pc0 := 145) (pc' := 149) rfl (hb hby d14_145) (by decide) (by decide) kk_) ?_
                                      show Goes p e below _ (s₁.setTop (mkF m 149 #[.val (.int c_)] [(.int (1 : Int32))]))
                                      exact own_finN X0 hx hlk hret (by simp) (hb hby d14_149) (by rw [e0]; exact ⟨(by first | (rw [own_exp, if_pos hc3, if_neg hc17, if_pos hc23, if_pos hc31, if_neg hc45, if_neg hc51, if_neg hc57, if_neg hc63, if_neg hc69, if_neg hc75, if_neg hc81, if_neg hc87, if_neg hc93, if_neg hc99, if_neg hc105, if_neg hc111, if_neg hc117, if_pos hc123]; done) | (rw [own_exp, if_pos hc3, if_neg hc17, if_pos hc23, if_pos hc31, if_neg hc45, if_neg hc51, if_neg hc57, if_neg hc63, if_neg hc69, if_neg hc75, if_neg hc81, if_neg hc87, if_neg hc93, if_neg hc99, if_neg hc105, if_neg hc111, if_neg hc117, if_pos hc123]; rfl)), rfl, rfl⟩) (by first | decide | omega | (dsimp only; omega)) (by first | decide | omega | (dsimp only; omega))
                                    · skip
                                      refine Goes.via (fun _ kk_ => XS.icmpNo X0.here hx rfl (hb hby d14_123) rfl (feq hc123).1 kk_) ?_
                                      show Goes p e below _ (s₁.setTop (mkF m 126 #[.val (.int c_)] []))
                                      refine Goes.via (fun _ kk_ => XS.iloadN X0.here hx rfl (hb hby d14_126) rfl  kk_) ?_
                                      show Goes p e below _ (s₁.setTop (mkF m 127 #[.val (.int c_)] [(.int c_)]))
                                      refine Goes.via (fun _ kk_ => XS.bipush X0.here hx rfl (hb hby d14_127) kk_) ?_
                                      show Goes p e below _ (s₁.setTop (mkF m 129 #[.val (.int c_)] [(.int (46 : Int32)), (.int c_)]))
                                      by_cases hc129 : c_ = (46 : Int32)
                                      · skip
                                        refine Goes.via (fun _ kk_ => XS.icmpYes X0.here hx rfl (pc0 := 129) (pc' := 144) rfl (hb hby d14_129) rfl (teq hc129).1 (by decide) (by decide) kk_) ?_
                                        show Goes p e below _ (s₁.setTop (mkF m 144 #[.val (.int c_)] []))
                                        refine Goes.via (fun _ kk_ => XS.iconst X0.here hx rfl (hb hby d14_144) kk_) ?_
                                        show Goes p e below _ (s₁.setTop (mkF m 145 #[.val (.int c_)] [(.int (1 : Int32))]))
                                        refine Goes.via (fun _ kk_ => XS.goto X0.here hx rfl (pc0 := 145) (pc' := 149) rfl (hb hby d14_145) (by decide) (by decide) kk_) ?_
                                        show Goes p e below _ (s₁.setTop (mkF m 149 #[.val (.int c_)] [(.int (1 : Int32))]))
                                        exact own_finN X0 hx hlk hret (by simp) (hb hby d14_149) (by rw [e0]; exact ⟨(by first | (rw [own_exp, if_pos hc3, if_neg hc17, if_pos hc23, if_pos hc31, if_neg hc45, if_neg hc51, if_neg hc57, if_neg hc63, if_neg hc69, if_neg hc75, if_neg hc81, if_neg hc87, if_neg hc93, if_neg hc99, if_neg hc105, if_neg hc111, if_neg hc117, if_neg hc123, if_pos hc129]; done) | (rw [own_exp, if_pos hc3, if_neg hc17, if_pos hc23, if_pos hc31, if_neg hc45, if_neg hc51, if_neg hc57, if_neg hc63, if_neg hc69, if_neg hc75, if_neg hc81, if_neg hc87, if_neg hc93, if_neg hc99, if_neg hc105, if_neg hc111, if_neg hc117, if_neg hc123, if_pos hc129]; rfl)), rfl, rfl⟩) (by first | decide | omega | (dsimp only; omega)) (by first | decide | omega | (dsimp only; omega))
                                      · skip
                                        refine Goes.via (fun _ kk_ => XS.icmpNo X0.here hx rfl (hb hby d14_129) rfl (feq hc129).1 kk_) ?_
                                        show Goes p e below _ (s₁.setTop (mkF m 132 #[.val (.int c_)] []))
                                        refine Goes.via (fun _ kk_ => XS.iloadN X0.here hx rfl (hb hby d14_132) rfl  kk_) ?_
                                        show Goes p e below _ (s₁.setTop (mkF m 133 #[.val (.int c_)] [(.int c_)]))
                                        refine Goes.via (fun _ kk_ => XS.bipush X0.here hx rfl (hb hby d14_133) kk_) ?_
                                        show Goes p e below _ (s₁.setTop (mkF m 135 #[.val (.int c_)] [(.int (63 : Int32)), (.int c_)]))
                                        by_cases hc135 : c_ = (63 : Int32)
                                        · skip
                                          refine Goes.via (fun _ kk_ => XS.icmpYes X0.here hx rfl (pc0 := 135) (pc' := 144) rfl (hb hby d14_135) rfl (teq hc135).1 (by decide) (by decide) kk_) ?_
                                          show Goes p e below _ (s₁.setTop (mkF m 144 #[.val (.int c_)] []))
                                          refine Goes.via (fun _ kk_ => XS.iconst X0.here hx rfl (hb hby d14_144) kk_) ?_
                                          show Goes p e below _ (s₁.setTop (mkF m 145 #[.val (.int c_)] [(.int (1 : Int32))]))
                                          refine Goes.via (fun _ kk_ => XS.goto X0.here hx rfl (pc0 := 145) (pc' := 149) rfl (hb hby d14_145) (by decide) (by decide) kk_) ?_
                                          show Goes p e below _ (s₁.setTop (mkF m 149 #[.val (.int c_)] [(.int (1 : Int32))]))
                                          exact own_finN X0 hx hlk hret (by simp) (hb hby d14_149) (by rw [e0]; exact ⟨(by first | (rw [own_exp, if_pos hc3, if_neg hc17, if_pos hc23, if_pos hc31, if_neg hc45, if_neg hc51, if_neg hc57, if_neg hc63, if_neg hc69, if_neg hc75, if_neg hc81, if_neg hc87, if_neg hc93, if_neg hc99, if_neg hc105, if_neg hc111, if_neg hc117, if_neg hc123, if_neg hc129, if_pos hc135]; done) | (rw [own_exp, if_pos hc3, if_neg hc17, if_pos hc23, if_pos hc31, if_neg hc45, if_neg hc51, if_neg hc57, if_neg hc63, if_neg hc69, if_neg hc75, if_neg hc81, if_neg hc87, if_neg hc93, if_neg hc99, if_neg hc105, if_neg hc111, if_neg hc117, if_neg hc123, if_neg hc129, if_pos hc135]; rfl)), rfl, rfl⟩) (by first | decide | omega | (dsimp only; omega)) (by first | decide | omega | (dsimp only; omega))
                                        · skip
                                          refine Goes.via (fun _ kk_ => XS.icmpNo X0.here hx rfl (hb hby d14_135) rfl (feq hc135).1 kk_) ?_
                                          show Goes p e below _ (s₁.setTop (mkF m 138 #[.val (.int c_)] []))
                                          refine Goes.via (fun _ kk_ => XS.iloadN X0.here hx rfl (hb hby d14_138) rfl  kk_) ?_
                                          show Goes p e below _ (s₁.setTop (mkF m 139 #[.val (.int c_)] [(.int c_)]))
                                          refine Goes.via (fun _ kk_ => XS.bipush X0.here hx rfl (hb hby d14_139) kk_) ?_
                                          show Goes p e below _ (s₁.setTop (mkF m 141 #[.val (.int c_)] [(.int (47 : Int32)), (.int c_)]))
                                          by_cases hc141 : c_ = (47 : Int32)
                                          · skip
                                            refine Goes.via (fun _ kk_ => XS.icmpNo X0.here hx rfl (hb hby d14_141) rfl (teq hc141).2 kk_) ?_
                                            show Goes p e below _ (s₁.setTop (mkF m 144 #[.val (.int c_)] []))
                                            refine Goes.via (fun _ kk_ => XS.iconst X0.here hx rfl (hb hby d14_144) kk_) ?_
                                            show Goes p e below _ (s₁.setTop (mkF m 145 #[.val (.int c_)] [(.int (1 : Int32))]))
                                            refine Goes.via (fun _ kk_ => XS.goto X0.here hx rfl (pc0 := 145) (pc' := 149) rfl (hb hby d14_145) (by decide) (by decide) kk_) ?_
                                            show Goes p e below _ (s₁.setTop (mkF m 149 #[.val (.int c_)] [(.int (1 : Int32))]))
                                            exact own_finN X0 hx hlk hret (by simp) (hb hby d14_149) (by rw [e0]; exact ⟨(by first | (rw [own_exp, if_pos hc3, if_neg hc17, if_pos hc23, if_pos hc31, if_neg hc45, if_neg hc51, if_neg hc57, if_neg hc63, if_neg hc69, if_neg hc75, if_neg hc81, if_neg hc87, if_neg hc93, if_neg hc99, if_neg hc105, if_neg hc111, if_neg hc117, if_neg hc123, if_neg hc129, if_neg hc135, if_pos hc141]; done) | (rw [own_exp, if_pos hc3, if_neg hc17, if_pos hc23, if_pos hc31, if_neg hc45, if_neg hc51, if_neg hc57, if_neg hc63, if_neg hc69, if_neg hc75, if_neg hc81, if_neg hc87, if_neg hc93, if_neg hc99, if_neg hc105, if_neg hc111, if_neg hc117, if_neg hc123, if_neg hc129, if_neg hc135, if_pos hc141]; rfl)), rfl, rfl⟩) (by first | decide | omega | (dsimp only; omega)) (by first | decide | omega | (dsimp only; omega))
                                          · skip
                                            refine Goes.via (fun _ kk_ => XS.icmpYes X0.here hx rfl (pc0 := 141) (pc' := 148) rfl (hb hby d14_141) rfl (feq hc141).2 (by decide) (by decide) kk_) ?_
                                            show Goes p e below _ (s₁.setTop (mkF m 148 #[.val (.int c_)] []))
                                            refine Goes.via (fun _ kk_ => XS.iconst X0.here hx rfl (hb hby d14_148) kk_) ?_
                                            show Goes p e below _ (s₁.setTop (mkF m 149 #[.val (.int c_)] [(.int (0 : Int32))]))
                                            exact own_finN X0 hx hlk hret (by simp) (hb hby d14_149) (by rw [e0]; exact ⟨(by first | (rw [own_exp, if_pos hc3, if_neg hc17, if_pos hc23, if_pos hc31, if_neg hc45, if_neg hc51, if_neg hc57, if_neg hc63, if_neg hc69, if_neg hc75, if_neg hc81, if_neg hc87, if_neg hc93, if_neg hc99, if_neg hc105, if_neg hc111, if_neg hc117, if_neg hc123, if_neg hc129, if_neg hc135, if_neg hc141]; done) | (rw [own_exp, if_pos hc3, if_neg hc17, if_pos hc23, if_pos hc31, if_neg hc45, if_neg hc51, if_neg hc57, if_neg hc63, if_neg hc69, if_neg hc75, if_neg hc81, if_neg hc87, if_neg hc93, if_neg hc99, if_neg hc105, if_neg hc111, if_neg hc117, if_neg hc123, if_neg hc129, if_neg hc135, if_neg hc141]; rfl)), rfl, rfl⟩) (by first | decide | omega | (dsimp only; omega)) (by first | decide | omega | (dsimp only; omega))
        · skip
          refine Goes.via (fun _ kk_ => XS.icmpNo X0.here hx rfl (hb hby d14_31) rfl (flt hc31).1 kk_) ?_
          show Goes p e below _ (s₁.setTop (mkF m 34 #[.val (.int c_)] []))
          refine Goes.via (fun _ kk_ => XS.iloadN X0.here hx rfl (hb hby d14_34) rfl  kk_) ?_
          show Goes p e below _ (s₁.setTop (mkF m 35 #[.val (.int c_)] [(.int c_)]))
          refine Goes.via (fun _ kk_ => XS.bipush X0.here hx rfl (hb hby d14_35) kk_) ?_
          show Goes p e below _ (s₁.setTop (mkF m 37 #[.val (.int c_)] [(.int (57 : Int32)), (.int c_)]))
          by_cases hc37 : (57 : Int32) < c_
          · skip
            refine Goes.via (fun _ kk_ => XS.icmpYes X0.here hx rfl (pc0 := 37) (pc' := 42) rfl (hb hby d14_37) rfl (tlt hc37).2.2.1 (by decide) (by decide) kk_) ?_
            show Goes p e below _ (s₁.setTop (mkF m 42 #[.val (.int c_)] []))
            refine Goes.via (fun _ kk_ => XS.iloadN X0.here hx rfl (hb hby d14_42) rfl  kk_) ?_
            show Goes p e below _ (s₁.setTop (mkF m 43 #[.val (.int c_)] [(.int c_)]))
            refine Goes.via (fun _ kk_ => XS.bipush X0.here hx rfl (hb hby d14_43) kk_) ?_
            show Goes p e below _ (s₁.setTop (mkF m 45 #[.val (.int c_)] [(.int (126 : Int32)), (.int c_)]))
            by_cases hc45 : c_ = (126 : Int32)
            · skip
              refine Goes.via (fun _ kk_ => XS.icmpYes X0.here hx rfl (pc0 := 45) (pc' := 144) rfl (hb hby d14_45) rfl (teq hc45).1 (by decide) (by decide) kk_) ?_
              show Goes p e below _ (s₁.setTop (mkF m 144 #[.val (.int c_)] []))
              refine Goes.via (fun _ kk_ => XS.iconst X0.here hx rfl (hb hby d14_144) kk_) ?_
              show Goes p e below _ (s₁.setTop (mkF m 145 #[.val (.int c_)] [(.int (1 : Int32))]))
              refine Goes.via (fun _ kk_ => XS.goto X0.here hx rfl (pc0 := 145) (pc' := 149) rfl (hb hby d14_145) (by decide) (by decide) kk_) ?_
              show Goes p e below _ (s₁.setTop (mkF m 149 #[.val (.int c_)] [(.int (1 : Int32))]))
              exact own_finN X0 hx hlk hret (by simp) (hb hby d14_149) (by rw [e0]; exact ⟨(by first | (rw [own_exp, if_pos hc3, if_neg hc17, if_pos hc23, if_neg hc31, if_pos hc37, if_pos hc45]; done) | (rw [own_exp, if_pos hc3, if_neg hc17, if_pos hc23, if_neg hc31, if_pos hc37, if_pos hc45]; rfl)), rfl, rfl⟩) (by first | decide | omega | (dsimp only; omega)) (by first | decide | omega | (dsimp only; omega))
            · skip
              refine Goes.via (fun _ kk_ => XS.icmpNo X0.here hx rfl (hb hby d14_45) rfl (feq hc45).1 kk_) ?_
              show Goes p e below _ (s₁.setTop (mkF m 48 #[.val (.int c_)] []))
              refine Goes.via (fun _ kk_ => XS.iloadN X0.here hx rfl (hb hby d14_48) rfl  kk_) ?_
              show Goes p e below _ (s₁.setTop (mkF m 49 #[.val (.int c_)] [(.int c_)]))
              refine Goes.via (fun _ kk_ => XS.bipush X0.here hx rfl (hb hby d14_49) kk_) ?_
              show Goes p e below _ (s₁.setTop (mkF m 51 #[.val (.int c_)] [(.int (33 : Int32)), (.int c_)]))
              by_cases hc51 : c_ = (33 : Int32)
              · skip
                refine Goes.via (fun _ kk_ => XS.icmpYes X0.here hx rfl (pc0 := 51) (pc' := 144) rfl (hb hby d14_51) rfl (teq hc51).1 (by decide) (by decide) kk_) ?_
                show Goes p e below _ (s₁.setTop (mkF m 144 #[.val (.int c_)] []))
                refine Goes.via (fun _ kk_ => XS.iconst X0.here hx rfl (hb hby d14_144) kk_) ?_
                show Goes p e below _ (s₁.setTop (mkF m 145 #[.val (.int c_)] [(.int (1 : Int32))]))
                refine Goes.via (fun _ kk_ => XS.goto X0.here hx rfl (pc0 := 145) (pc' := 149) rfl (hb hby d14_145) (by decide) (by decide) kk_) ?_
                show Goes p e below _ (s₁.setTop (mkF m 149 #[.val (.int c_)] [(.int (1 : Int32))]))
                exact own_finN X0 hx hlk hret (by simp) (hb hby d14_149) (by rw [e0]; exact ⟨(by first | (rw [own_exp, if_pos hc3, if_neg hc17, if_pos hc23, if_neg hc31, if_pos hc37, if_neg hc45, if_pos hc51]; done) | (rw [own_exp, if_pos hc3, if_neg hc17, if_pos hc23, if_neg hc31, if_pos hc37, if_neg hc45, if_pos hc51]; rfl)), rfl, rfl⟩) (by first | decide | omega | (dsimp only; omega)) (by first | decide | omega | (dsimp only; omega))
              · skip
                refine Goes.via (fun _ kk_ => XS.icmpNo X0.here hx rfl (hb hby d14_51) rfl (feq hc51).1 kk_) ?_
                show Goes p e below _ (s₁.setTop (mkF m 54 #[.val (.int c_)] []))
                refine Goes.via (fun _ kk_ => XS.iloadN X0.here hx rfl (hb hby d14_54) rfl  kk_) ?_
                show Goes p e below _ (s₁.setTop (mkF m 55 #[.val (.int c_)] [(.int c_)]))
                refine Goes.via (fun _ kk_ => XS.bipush X0.here hx rfl (hb hby d14_55) kk_) ?_
                show Goes p e below _ (s₁.setTop (mkF m 57 #[.val (.int c_)] [(.int (64 : Int32)), (.int c_)]))
                by_cases hc57 : c_ = (64 : Int32)
                · skip
                  refine Goes.via (fun _ kk_ => XS.icmpYes X0.here hx rfl (pc0 := 57) (pc' := 144) rfl (hb hby d14_57) rfl (teq hc57).1 (by decide) (by decide) kk_) ?_
                  show Goes p e below _ (s₁.setTop (mkF m 144 #[.val (.int c_)] []))
                  refine Goes.via (fun _ kk_ => XS.iconst X0.here hx rfl (hb hby d14_144) kk_) ?_
                  show Goes p e below _ (s₁.setTop (mkF m 145 #[.val (.int c_)] [(.int (1 : Int32))]))
                  refine Goes.via (fun _ kk_ => XS.goto X0.here hx rfl (pc0 := 145) (pc' := 149) rfl (hb hby d14_145) (by decide) (by decide) kk_) ?_
                  show Goes p e below _ (s₁.setTop (mkF m 149 #[.val (.int c_)] [(.int (1 : Int32))]))
                  exact own_finN X0 hx hlk hret (by simp) (hb hby d14_149) (by rw [e0]; exact ⟨(by first | (rw [own_exp, if_pos hc3, if_neg hc17, if_pos hc23, if_neg hc31, if_pos hc37, if_neg hc45, if_neg hc51, if_pos hc57]; done) | (rw [own_exp, if_pos hc3, if_neg hc17, if_pos hc23, if_neg hc31, if_pos hc37, if_neg hc45, if_neg hc51, if_pos hc57]; rfl)), rfl, rfl⟩) (by first | decide | omega | (dsimp only; omega)) (by first | decide | omega | (dsimp only; omega))
                · skip
                  refine Goes.via (fun _ kk_ => XS.icmpNo X0.here hx rfl (hb hby d14_57) rfl (feq hc57).1 kk_) ?_
                  show Goes p e below _ (s₁.setTop (mkF m 60 #[.val (.int c_)] []))
                  refine Goes.via (fun _ kk_ => XS.iloadN X0.here hx rfl (hb hby d14_60) rfl  kk_) ?_
                  show Goes p e below _ (s₁.setTop (mkF m 61 #[.val (.int c_)] [(.int c_)]))
                  refine Goes.via (fun _ kk_ => XS.bipush X0.here hx rfl (hb hby d14_61) kk_) ?_
                  show Goes p e below _ (s₁.setTop (mkF m 63 #[.val (.int c_)] [(.int (36 : Int32)), (.int c_)]))
                  by_cases hc63 : c_ = (36 : Int32)
                  · skip
                    refine Goes.via (fun _ kk_ => XS.icmpYes X0.here hx rfl (pc0 := 63) (pc' := 144) rfl (hb hby d14_63) rfl (teq hc63).1 (by decide) (by decide) kk_) ?_
                    show Goes p e below _ (s₁.setTop (mkF m 144 #[.val (.int c_)] []))
                    refine Goes.via (fun _ kk_ => XS.iconst X0.here hx rfl (hb hby d14_144) kk_) ?_
                    show Goes p e below _ (s₁.setTop (mkF m 145 #[.val (.int c_)] [(.int (1 : Int32))]))
                    refine Goes.via (fun _ kk_ => XS.goto X0.here hx rfl (pc0 := 145) (pc' := 149) rfl (hb hby d14_145) (by decide) (by decide) kk_) ?_
                    show Goes p e below _ (s₁.setTop (mkF m 149 #[.val (.int c_)] [(.int (1 : Int32))]))
                    exact own_finN X0 hx hlk hret (by simp) (hb hby d14_149) (by rw [e0]; exact ⟨(by first | (rw [own_exp, if_pos hc3, if_neg hc17, if_pos hc23, if_neg hc31, if_pos hc37, if_neg hc45, if_neg hc51, if_neg hc57, if_pos hc63]; done) | (rw [own_exp, if_pos hc3, if_neg hc17, if_pos hc23, if_neg hc31, if_pos hc37, if_neg hc45, if_neg hc51, if_neg hc57, if_pos hc63]; rfl)), rfl, rfl⟩) (by first | decide | omega | (dsimp only; omega)) (by first | decide | omega | (dsimp only; omega))
                  · skip
                    refine Goes.via (fun _ kk_ => XS.icmpNo X0.here hx rfl (hb hby d14_63) rfl (feq hc63).1 kk_) ?_
                    show Goes p e below _ (s₁.setTop (mkF m 66 #[.val (.int c_)] []))
                    refine Goes.via (fun _ kk_ => XS.iloadN X0.here hx rfl (hb hby d14_66) rfl  kk_) ?_
                    show Goes p e below _ (s₁.setTop (mkF m 67 #[.val (.int c_)] [(.int c_)]))
                    refine Goes.via (fun _ kk_ => XS.bipush X0.here hx rfl (hb hby d14_67) kk_) ?_
                    show Goes p e below _ (s₁.setTop (mkF m 69 #[.val (.int c_)] [(.int (37 : Int32)), (.int c_)]))
                    by_cases hc69 : c_ = (37 : Int32)
                    · skip
                      refine Goes.via (fun _ kk_ => XS.icmpYes X0.here hx rfl (pc0 := 69) (pc' := 144) rfl (hb hby d14_69) rfl (teq hc69).1 (by decide) (by decide) kk_) ?_
                      show Goes p e below _ (s₁.setTop (mkF m 144 #[.val (.int c_)] []))
                      refine Goes.via (fun _ kk_ => XS.iconst X0.here hx rfl (hb hby d14_144) kk_) ?_
                      show Goes p e below _ (s₁.setTop (mkF m 145 #[.val (.int c_)] [(.int (1 : Int32))]))
                      refine Goes.via (fun _ kk_ => XS.goto X0.here hx rfl (pc0 := 145) (pc' := 149) rfl (hb hby d14_145) (by decide) (by decide) kk_) ?_
                      show Goes p e below _ (s₁.setTop (mkF m 149 #[.val (.int c_)] [(.int (1 : Int32))]))
                      exact own_finN X0 hx hlk hret (by simp) (hb hby d14_149) (by rw [e0]; exact ⟨(by first | (rw [own_exp, if_pos hc3, if_neg hc17, if_pos hc23, if_neg hc31, if_pos hc37, if_neg hc45, if_neg hc51, if_neg hc57, if_neg hc63, if_pos hc69]; done) | (rw [own_exp, if_pos hc3, if_neg hc17, if_pos hc23, if_neg hc31, if_pos hc37, if_neg hc45, if_neg hc51, if_neg hc57, if_neg hc63, if_pos hc69]; rfl)), rfl, rfl⟩) (by first | decide | omega | (dsimp only; omega)) (by first | decide | omega | (dsimp only; omega))
                    · skip
                      refine Goes.via (fun _ kk_ => XS.icmpNo X0.here hx rfl (hb hby d14_69) rfl (feq hc69).1 kk_) ?_
                      show Goes p e below _ (s₁.setTop (mkF m 72 #[.val (.int c_)] []))
                      refine Goes.via (fun _ kk_ => XS.iloadN X0.here hx rfl (hb hby d14_72) rfl  kk_) ?_
                      show Goes p e below _ (s₁.setTop (mkF m 73 #[.val (.int c_)] [(.int c_)]))
                      refine Goes.via (fun _ kk_ => XS.bipush X0.here hx rfl (hb hby d14_73) kk_) ?_
                      show Goes p e below _ (s₁.setTop (mkF m 75 #[.val (.int c_)] [(.int (94 : Int32)), (.int c_)]))
                      by_cases hc75 : c_ = (94 : Int32)
                      · skip
                        refine Goes.via (fun _ kk_ => XS.icmpYes X0.here hx rfl (pc0 := 75) (pc' := 144) rfl (hb hby d14_75) rfl (teq hc75).1 (by decide) (by decide) kk_) ?_
                        show Goes p e below _ (s₁.setTop (mkF m 144 #[.val (.int c_)] []))
                        refine Goes.via (fun _ kk_ => XS.iconst X0.here hx rfl (hb hby d14_144) kk_) ?_
                        show Goes p e below _ (s₁.setTop (mkF m 145 #[.val (.int c_)] [(.int (1 : Int32))]))
                        refine Goes.via (fun _ kk_ => XS.goto X0.here hx rfl (pc0 := 145) (pc' := 149) rfl (hb hby d14_145) (by decide) (by decide) kk_) ?_
                        show Goes p e below _ (s₁.setTop (mkF m 149 #[.val (.int c_)] [(.int (1 : Int32))]))
                        exact own_finN X0 hx hlk hret (by simp) (hb hby d14_149) (by rw [e0]; exact ⟨(by first | (rw [own_exp, if_pos hc3, if_neg hc17, if_pos hc23, if_neg hc31, if_pos hc37, if_neg hc45, if_neg hc51, if_neg hc57, if_neg hc63, if_neg hc69, if_pos hc75]; done) | (rw [own_exp, if_pos hc3, if_neg hc17, if_pos hc23, if_neg hc31, if_pos hc37, if_neg hc45, if_neg hc51, if_neg hc57, if_neg hc63, if_neg hc69, if_pos hc75]; rfl)), rfl, rfl⟩) (by first | decide | omega | (dsimp only; omega)) (by first | decide | omega | (dsimp only; omega))
                      · skip
                        refine Goes.via (fun _ kk_ => XS.icmpNo X0.here hx rfl (hb hby d14_75) rfl (feq hc75).1 kk_) ?_
                        show Goes p e below _ (s₁.setTop (mkF m 78 #[.val (.int c_)] []))
                        refine Goes.via (fun _ kk_ => XS.iloadN X0.here hx rfl (hb hby d14_78) rfl  kk_) ?_
                        show Goes p e below _ (s₁.setTop (mkF m 79 #[.val (.int c_)] [(.int c_)]))
                        refine Goes.via (fun _ kk_ => XS.bipush X0.here hx rfl (hb hby d14_79) kk_) ?_
                        show Goes p e below _ (s₁.setTop (mkF m 81 #[.val (.int c_)] [(.int (38 : Int32)), (.int c_)]))
                        by_cases hc81 : c_ = (38 : Int32)
                        · skip
                          refine Goes.via (fun _ kk_ => XS.icmpYes X0.here hx rfl (pc0 := 81) (pc' := 144) rfl (hb hby d14_81) rfl (teq hc81).1 (by decide) (by decide) kk_) ?_
                          show Goes p e below _ (s₁.setTop (mkF m 144 #[.val (.int c_)] []))
                          refine Goes.via (fun _ kk_ => XS.iconst X0.here hx rfl (hb hby d14_144) kk_) ?_
                          show Goes p e below _ (s₁.setTop (mkF m 145 #[.val (.int c_)] [(.int (1 : Int32))]))
                          refine Goes.via (fun _ kk_ => XS.goto X0.here hx rfl (pc0 := 145) (pc' := 149) rfl (hb hby d14_145) (by decide) (by decide) kk_) ?_
                          show Goes p e below _ (s₁.setTop (mkF m 149 #[.val (.int c_)] [(.int (1 : Int32))]))
                          exact own_finN X0 hx hlk hret (by simp) (hb hby d14_149) (by rw [e0]; exact ⟨(by first | (rw [own_exp, if_pos hc3, if_neg hc17, if_pos hc23, if_neg hc31, if_pos hc37, if_neg hc45, if_neg hc51, if_neg hc57, if_neg hc63, if_neg hc69, if_neg hc75, if_pos hc81]; done) | (rw [own_exp, if_pos hc3, if_neg hc17, if_pos hc23, if_neg hc31, if_pos hc37, if_neg hc45, if_neg hc51, if_neg hc57, if_neg hc63, if_neg hc69, if_neg hc75, if_pos hc81]; rfl)), rfl, rfl⟩) (by first | decide | omega | (dsimp only; omega)) (by first | decide | omega | (dsimp only; omega))
                        · skip
                          refine Goes.via (fun _ kk_ => XS.icmpNo X0.here hx rfl (hb hby d14_81) rfl (feq hc81).1 kk_) ?_
                          show Goes p e below _ (s₁.setTop (mkF m 84 #[.val (.int c_)] []))
                          refine Goes.via (fun _ kk_ => XS.iloadN X0.here hx rfl (hb hby d14_84) rfl  kk_) ?_
                          show Goes p e below _ (s₁.setTop (mkF m 85 #[.val (.int c_)] [(.int c_)]))
                          refine Goes.via (fun _ kk_ => XS.bipush X0.here hx rfl (hb hby d14_85) kk_) ?_
                          show Goes p e below _ (s₁.setTop (mkF m 87 #[.val (.int c_)] [(.int (42 : Int32)), (.int c_)]))
                          by_cases hc87 : c_ = (42 : Int32)
                          · skip
                            refine Goes.via (fun _ kk_ => XS.icmpYes X0.here hx rfl (pc0 := 87) (pc' := 144) rfl (hb hby d14_87) rfl (teq hc87).1 (by decide) (by decide) kk_) ?_
                            show Goes p e below _ (s₁.setTop (mkF m 144 #[.val (.int c_)] []))
                            refine Goes.via (fun _ kk_ => XS.iconst X0.here hx rfl (hb hby d14_144) kk_) ?_
                            show Goes p e below _ (s₁.setTop (mkF m 145 #[.val (.int c_)] [(.int (1 : Int32))]))
                            refine Goes.via (fun _ kk_ => XS.goto X0.here hx rfl (pc0 := 145) (pc' := 149) rfl (hb hby d14_145) (by decide) (by decide) kk_) ?_
                            show Goes p e below _ (s₁.setTop (mkF m 149 #[.val (.int c_)] [(.int (1 : Int32))]))
                            exact own_finN X0 hx hlk hret (by simp) (hb hby d14_149) (by rw [e0]; exact ⟨(by first | (rw [own_exp, if_pos hc3, if_neg hc17, if_pos hc23, if_neg hc31, if_pos hc37, if_neg hc45, if_neg hc51, if_neg hc57, if_neg hc63, if_neg hc69, if_neg hc75, if_neg hc81, if_pos hc87]; done) | (rw [own_exp, if_pos hc3, if_neg hc17, if_pos hc23, if_neg hc31, if_pos hc37, if_neg hc45, if_neg hc51, if_neg hc57, if_neg hc63, if_neg hc69, if_neg hc75, if_neg hc81, if_pos hc87]; rfl)), rfl, rfl⟩) (by first | decide | omega | (dsimp only; omega)) (by first | decide | omega | (dsimp only; omega))
                          · skip
                            refine Goes.via (fun _ kk_ => XS.icmpNo X0.here hx rfl (hb hby d14_87) rfl (feq hc87).1 kk_) ?_
                            show Goes p e below _ (s₁.setTop (mkF m 90 #[.val (.int c_)] []))
                            refine Goes.via (fun _ kk_ => XS.iloadN X0.here hx rfl (hb hby d14_90) rfl  kk_) ?_
                            show Goes p e below _ (s₁.setTop (mkF m 91 #[.val (.int c_)] [(.int c_)]))
                            refine Goes.via (fun _ kk_ => XS.bipush X0.here hx rfl (hb hby d14_91) kk_) ?_
                            show Goes p e below _ (s₁.setTop (mkF m 93 #[.val (.int c_)] [(.int (95 : Int32)), (.int c_)]))
                            by_cases hc93 : c_ = (95 : Int32)
                            · skip
                              refine Goes.via (fun _ kk_ => XS.icmpYes X0.here hx rfl (pc0 := 93) (pc' := 144) rfl (hb hby d14_93) rfl (teq hc93).1 (by decide) (by decide) kk_) ?_
                              show Goes p e below _ (s₁.setTop (mkF m 144 #[.val (.int c_)] []))
                              refine Goes.via (fun _ kk_ => XS.iconst X0.here hx rfl (hb hby d14_144) kk_) ?_
                              show Goes p e below _ (s₁.setTop (mkF m 145 #[.val (.int c_)] [(.int (1 : Int32))]))
                              refine Goes.via (fun _ kk_ => XS.goto X0.here hx rfl (pc0 := 145) (pc' := 149) rfl (hb hby d14_145) (by decide) (by decide) kk_) ?_
                              show Goes p e below _ (s₁.setTop (mkF m 149 #[.val (.int c_)] [(.int (1 : Int32))]))
                              exact own_finN X0 hx hlk hret (by simp) (hb hby d14_149) (by rw [e0]; exact ⟨(by first | (rw [own_exp, if_pos hc3, if_neg hc17, if_pos hc23, if_neg hc31, if_pos hc37, if_neg hc45, if_neg hc51, if_neg hc57, if_neg hc63, if_neg hc69, if_neg hc75, if_neg hc81, if_neg hc87, if_pos hc93]; done) | (rw [own_exp, if_pos hc3, if_neg hc17, if_pos hc23, if_neg hc31, if_pos hc37, if_neg hc45, if_neg hc51, if_neg hc57, if_neg hc63, if_neg hc69, if_neg hc75, if_neg hc81, if_neg hc87, if_pos hc93]; rfl)), rfl, rfl⟩) (by first | decide | omega | (dsimp only; omega)) (by first | decide | omega | (dsimp only; omega))
                            · skip
                              refine Goes.via (fun _ kk_ => XS.icmpNo X0.here hx rfl (hb hby d14_93) rfl (feq hc93).1 kk_) ?_
                              show Goes p e below _ (s₁.setTop (mkF m 96 #[.val (.int c_)] []))
                              refine Goes.via (fun _ kk_ => XS.iloadN X0.here hx rfl (hb hby d14_96) rfl  kk_) ?_
                              show Goes p e below _ (s₁.setTop (mkF m 97 #[.val (.int c_)] [(.int c_)]))
                              refine Goes.via (fun _ kk_ => XS.bipush X0.here hx rfl (hb hby d14_97) kk_) ?_
                              show Goes p e below _ (s₁.setTop (mkF m 99 #[.val (.int c_)] [(.int (45 : Int32)), (.int c_)]))
                              by_cases hc99 : c_ = (45 : Int32)
                              · skip
                                refine Goes.via (fun _ kk_ => XS.icmpYes X0.here hx rfl (pc0 := 99) (pc' := 144) rfl (hb hby d14_99) rfl (teq hc99).1 (by decide) (by decide) kk_) ?_
                                show Goes p e below _ (s₁.setTop (mkF m 144 #[.val (.int c_)] []))
                                refine Goes.via (fun _ kk_ => XS.iconst X0.here hx rfl (hb hby d14_144) kk_) ?_
                                show Goes p e below _ (s₁.setTop (mkF m 145 #[.val (.int c_)] [(.int (1 : Int32))]))
                                refine Goes.via (fun _ kk_ => XS.goto X0.here hx rfl (pc0 := 145) (pc' := 149) rfl (hb hby d14_145) (by decide) (by decide) kk_) ?_
                                show Goes p e below _ (s₁.setTop (mkF m 149 #[.val (.int c_)] [(.int (1 : Int32))]))
                                exact own_finN X0 hx hlk hret (by simp) (hb hby d14_149) (by rw [e0]; exact ⟨(by first | (rw [own_exp, if_pos hc3, if_neg hc17, if_pos hc23, if_neg hc31, if_pos hc37, if_neg hc45, if_neg hc51, if_neg hc57, if_neg hc63, if_neg hc69, if_neg hc75, if_neg hc81, if_neg hc87, if_neg hc93, if_pos hc99]; done) | (rw [own_exp, if_pos hc3, if_neg hc17, if_pos hc23, if_neg hc31, if_pos hc37, if_neg hc45, if_neg hc51, if_neg hc57, if_neg hc63, if_neg hc69, if_neg hc75, if_neg hc81, if_neg hc87, if_neg hc93, if_pos hc99]; rfl)), rfl, rfl⟩) (by first | decide | omega | (dsimp only; omega)) (by first | decide | omega | (dsimp only; omega))
                              · skip
                                refine Goes.via (fun _ kk_ => XS.icmpNo X0.here hx rfl (hb hby d14_99) rfl (feq hc99).1 kk_) ?_
                                show Goes p e below _ (s₁.setTop (mkF m 102 #[.val (.int c_)] []))
                                refine Goes.via (fun _ kk_ => XS.iloadN X0.here hx rfl (hb hby d14_102) rfl  kk_) ?_
                                show Goes p e below _ (s₁.setTop (mkF m 103 #[.val (.int c_)] [(.int c_)]))
                                refine Goes.via (fun _ kk_ => XS.bipush X0.here hx rfl (hb hby d14_103) kk_) ?_
                                show Goes p e below _ (s₁.setTop (mkF m 105 #[.val (.int c_)] [(.int (43 : Int32)), (.int c_)]))
                                by_cases hc105 : c_ = (43 : Int32)
                                · skip
                                  refine Goes.via (fun _ kk_ => XS.icmpYes X0.here hx rfl (pc0 := 105) (pc' := 144) rfl (hb hby d14_105) rfl (teq hc105).1 (by decide) (by decide) kk_) ?_
                                  show Goes p e below _ (s₁.setTop (mkF m 144 #[.val (.int c_)] []))
                                  refine Goes.via (fun _ kk_ => XS.iconst X0.here hx rfl (hb hby d14_144) kk_) ?_
                                  show Goes p e below _ (s₁.setTop (mkF m 145 #[.val (.int c_)] [(.int (1 : Int32))]))
                                  refine Goes.via (fun _ kk_ => XS.goto X0.here hx rfl (pc0 := 145) (pc' := 149) rfl (hb hby d14_145) (by decide) (by decide) kk_) ?_
                                  show Goes p e below _ (s₁.setTop (mkF m 149 #[.val (.int c_)] [(.int (1 : Int32))]))
                                  exact own_finN X0 hx hlk hret (by simp) (hb hby d14_149) (by rw [e0]; exact ⟨(by first | (rw [own_exp, if_pos hc3, if_neg hc17, if_pos hc23, if_neg hc31, if_pos hc37, if_neg hc45, if_neg hc51, if_neg hc57, if_neg hc63, if_neg hc69, if_neg hc75, if_neg hc81, if_neg hc87, if_neg hc93, if_neg hc99, if_pos hc105]; done) | (rw [own_exp, if_pos hc3, if_neg hc17, if_pos hc23, if_neg hc31, if_pos hc37, if_neg hc45, if_neg hc51, if_neg hc57, if_neg hc63, if_neg hc69, if_neg hc75, if_neg hc81, if_neg hc87, if_neg hc93, if_neg hc99, if_pos hc105]; rfl)), rfl, rfl⟩) (by first | decide | omega | (dsimp only; omega)) (by first | decide | omega | (dsimp only; omega))
                                · skip
                                  refine Goes.via (fun _ kk_ => XS.icmpNo X0.here hx rfl (hb hby d14_105) rfl (feq hc105).1 kk_) ?_
                                  show Goes p e below _ (s₁.setTop (mkF m 108 #[.val (.int c_)] []))
                                  refine Goes.via (fun _ kk_ => XS.iloadN X0.here hx rfl (hb hby d14_108) rfl  kk_) ?_
                                  show Goes p e below _ (s₁.setTop (mkF m 109 #[.val (.int c_)] [(.int c_)]))
                                  refine Goes.via (fun _ kk_ => XS.bipush X0.here hx rfl (hb hby d14_109) kk_) ?_
                                  show Goes p e below _ (s₁.setTop (mkF m 111 #[.val (.int c_)] [(.int (61 : Int32)), (.int c_)]))
                                  by_cases hc111 : c_ = (61 : Int32)
                                  · skip
                                    refine Goes.via (fun _ kk_ => XS.icmpYes X0.here hx rfl (pc0 := 111) (pc' := 144) rfl (hb hby d14_111) rfl (teq hc111).1 (by decide) (by decide) kk_) ?_
                                    show Goes p e below _ (s₁.setTop (mkF m 144 #[.val (.int c_)] []))
                                    refine Goes.via (fun _ kk_ => XS.iconst X0.here hx rfl (hb hby d14_144) kk_) ?_
                                    show Goes p e below _ (s₁.setTop (mkF m 145 #[.val (.int c_)] [(.int (1 : Int32))]))
                                    refine Goes.via (fun _ kk_ => XS.goto X0.here hx rfl (pc0 := 145) (pc' := 149) rfl (hb hby d14_145) (by decide) (by decide) kk_) ?_
                                    show Goes p e below _ (s₁.setTop (mkF m 149 #[.val (.int c_)] [(.int (1 : Int32))]))
                                    exact own_finN X0 hx hlk hret (by simp) (hb hby d14_149) (by rw [e0]; exact ⟨(by first | (rw [own_exp, if_pos hc3, if_neg hc17, if_pos hc23, if_neg hc31, if_pos hc37, if_neg hc45, if_neg hc51, if_neg hc57, if_neg hc63, if_neg hc69, if_neg hc75, if_neg hc81, if_neg hc87, if_neg hc93, if_neg hc99, if_neg hc105, if_pos hc111]; done) | (rw [own_exp, if_pos hc3, if_neg hc17, if_pos hc23, if_neg hc31, if_pos hc37, if_neg hc45, if_neg hc51, if_neg hc57, if_neg hc63, if_neg hc69, if_neg hc75, if_neg hc81, if_neg hc87, if_neg hc93, if_neg hc99, if_neg hc105, if_pos hc111]; rfl)), rfl, rfl⟩) (by first | decide | omega | (dsimp only; omega)) (by first | decide | omega | (dsimp only; omega))
                                  · skip
                                    refine Goes.via (fun _ kk_ => XS.icmpNo X0.here hx rfl (hb hby d14_111) rfl (feq hc111).1 kk_) ?_
                                    show Goes p e below _ (s₁.setTop (mkF m 114 #[.val (.int c_)] []))
                                    refine Goes.via (fun _ kk_ => XS.iloadN X0.here hx rfl (hb hby d14_114) rfl  kk_) ?_
                                    show Goes p e below _ (s₁.setTop (mkF m 115 #[.val (.int c_)] [(.int c_)]))
                                    refine Goes.via (fun _ kk_ => XS.bipush X0.here hx rfl (hb hby d14_115) kk_) ?_
                                    show Goes p e below _ (s₁.setTop (mkF m 117 #[.val (.int c_)] [(.int (60 : Int32)), (.int c_)]))
                                    by_cases hc117 : c_ = (60 : Int32)
                                    · skip
                                      refine Goes.via (fun _ kk_ => XS.icmpYes X0.here hx rfl (pc0 := 117) (pc' := 144) rfl (hb hby d14_117) rfl (teq hc117).1 (by decide) (by decide) kk_) ?_
                                      show Goes p e below _ (s₁.setTop (mkF m 144 #[.val (.int c_)] []))
                                      refine Goes.via (fun _ kk_ => XS.iconst X0.here hx rfl (hb hby d14_144) kk_) ?_
                                      show Goes p e below _ (s₁.setTop (mkF m 145 #[.val (.int c_)] [(.int (1 : Int32))]))
                                      refine Goes.via (fun _ kk_ => XS.goto X0.here hx rfl (pc0 := 145) (pc' := 149) rfl (hb hby d14_145) (by decide) (by decide) kk_) ?_
                                      show Goes p e below _ (s₁.setTop (mkF m 149 #[.val (.int c_)] [(.int (1 : Int32))]))
                                      exact own_finN X0 hx hlk hret (by simp) (hb hby d14_149) (by rw [e0]; exact ⟨(by first | (rw [own_exp, if_pos hc3, if_neg hc17, if_pos hc23, if_neg hc31, if_pos hc37, if_neg hc45, if_neg hc51, if_neg hc57, if_neg hc63, if_neg hc69, if_neg hc75, if_neg hc81, if_neg hc87, if_neg hc93, if_neg hc99, if_neg hc105, if_neg hc111, if_pos hc117]; done) | (rw [own_exp, if_pos hc3, if_neg hc17, if_pos hc23, if_neg hc31, if_pos hc37, if_neg hc45, if_neg hc51, if_neg hc57, if_neg hc63, if_neg hc69, if_neg hc75, if_neg hc81, if_neg hc87, if_neg hc93, if_neg hc99, if_neg hc105, if_neg hc111, if_pos hc117]; rfl)), rfl, rfl⟩) (by first | decide | omega | (dsimp only; omega)) (by first | decide | omega | (dsimp only; omega))
                                    · skip
                                      refine Goes.via (fun _ kk_ => XS.icmpNo X0.here hx rfl (hb hby d14_117) rfl (feq hc117).1 kk_) ?_
                                      show Goes p e below _ (s₁.setTop (mkF m 120 #[.val (.int c_)] []))
                                      refine Goes.via (fun _ kk_ => XS.iloadN X0.here hx rfl (hb hby d14_120) rfl  kk_) ?_
                                      show Goes p e below _ (s₁.setTop (mkF m 121 #[.val (.int c_)] [(.int c_)]))
                                      refine Goes.via (fun _ kk_ => XS.bipush X0.here hx rfl (hb hby d14_121) kk_) ?_
                                      show Goes p e below _ (s₁.setTop (mkF m 123 #[.val (.int c_)] [(.int (62 : Int32)), (.int c_)]))
                                      by_cases hc123 : c_ = (62 : Int32)
                                      · skip
                                        refine Goes.via (fun _ kk_ => XS.icmpYes X0.here hx rfl (pc0 := 123) (pc' := 144) rfl (hb hby d14_123) rfl (teq hc123).1 (by decide) (by decide) kk_) ?_
                                        show Goes p e below _ (s₁.setTop (mkF m 144 #[.val (.int c_)] []))
                                        refine Goes.via (fun _ kk_ => XS.iconst X0.here hx rfl (hb hby d14_144) kk_) ?_
                                        show Goes p e below _ (s₁.setTop (mkF m 145 #[.val (.int c_)] [(.int (1 : Int32))]))
                                        refine Goes.via (fun _ kk_ => XS.goto X0.here hx rfl (pc0 := 145) (pc' := 149) rfl (hb hby d14_145) (by decide) (by decide) kk_) ?_
                                        show Goes p e below _ (s₁.setTop (mkF m 149 #[.val (.int c_)] [(.int (1 : Int32))]))
                                        exact own_finN X0 hx hlk hret (by simp) (hb hby d14_149) (by rw [e0]; exact ⟨(by first | (rw [own_exp, if_pos hc3, if_neg hc17, if_pos hc23, if_neg hc31, if_pos hc37, if_neg hc45, if_neg hc51, if_neg hc57, if_neg hc63, if_neg hc69, if_neg hc75, if_neg hc81, if_neg hc87, if_neg hc93, if_neg hc99, if_neg hc105, if_neg hc111, if_neg hc117, if_pos hc123]; done) | (rw [own_exp, if_pos hc3, if_neg hc17, if_pos hc23, if_neg hc31, if_pos hc37, if_neg hc45, if_neg hc51, if_neg hc57, if_neg hc63, if_neg hc69, if_neg hc75, if_neg hc81, if_neg hc87, if_neg hc93, if_neg hc99, if_neg hc105, if_neg hc111, if_neg hc117, if_pos hc123]; rfl)), rfl, rfl⟩) (by first | decide | omega | (dsimp only; omega)) (by first | decide | omega | (dsimp only; omega))
                                      · skip
                                        refine Goes.via (fun _ kk_ => XS.icmpNo X0.here hx rfl (hb hby d14_123) rfl (feq hc123).1 kk_) ?_
                                        show Goes p e below _ (s₁.setTop (mkF m 126 #[.val (.int c_)] []))
                                        refine Goes.via (fun _ kk_ => XS.iloadN X0.here hx rfl (hb hby d14_126) rfl  kk_) ?_
                                        show Goes p e below _ (s₁.setTop (mkF m 127 #[.val (.int c_)] [(.int c_)]))
                                        refine Goes.via (fun _ kk_ => XS.bipush X0.here hx rfl (hb hby d14_127) kk_) ?_
                                        show Goes p e below _ (s₁.setTop (mkF m 129 #[.val (.int c_)] [(.int (46 : Int32)), (.int c_)]))
                                        by_cases hc129 : c_ = (46 : Int32)
                                        · skip
                                          refine Goes.via (fun _ kk_ => XS.icmpYes X0.here hx rfl (pc0 := 129) (pc' := 144) rfl (hb hby d14_129) rfl (teq hc129).1 (by decide) (by decide) kk_) ?_
                                          show Goes p e below _ (s₁.setTop (mkF m 144 #[.val (.int c_)] []))
                                          refine Goes.via (fun _ kk_ => XS.iconst X0.here hx rfl (hb hby d14_144) kk_) ?_
                                          show Goes p e below _ (s₁.setTop (mkF m 145 #[.val (.int c_)] [(.int (1 : Int32))]))
                                          refine Goes.via (fun _ kk_ => XS.goto X0.here hx rfl (pc0 := 145) (pc' := 149) rfl (hb hby d14_145) (by decide) (by decide) kk_) ?_
                                          show Goes p e below _ (s₁.setTop (mkF m 149 #[.val (.int c_)] [(.int (1 : Int32))]))
                                          exact own_finN X0 hx hlk hret (by simp) (hb hby d14_149) (by rw [e0]; exact ⟨(by first | (rw [own_exp, if_pos hc3, if_neg hc17, if_pos hc23, if_neg hc31, if_pos hc37, if_neg hc45, if_neg hc51, if_neg hc57, if_neg hc63, if_neg hc69, if_neg hc75, if_neg hc81, if_neg hc87, if_neg hc93, if_neg hc99, if_neg hc105, if_neg hc111, if_neg hc117, if_neg hc123, if_pos hc129]; done) | (rw [own_exp, if_pos hc3, if_neg hc17, if_pos hc23, if_neg hc31, if_pos hc37, if_neg hc45, if_neg hc51, if_neg hc57, if_neg hc63, if_neg hc69, if_neg hc75, if_neg hc81, if_neg hc87, if_neg hc93, if_neg hc99, if_neg hc105, if_neg hc111, if_neg hc117, if_neg hc123, if_pos hc129]; rfl)), rfl, rfl⟩) (by first | decide | omega | (dsimp only; omega)) (by first | decide | omega | (dsimp only; omega))
                                        · skip
                                          refine Goes.via (fun _ kk_ => XS.icmpNo X0.here hx rfl (hb hby d14_129) rfl (feq hc129).1 kk_) ?_
                                          show Goes p e below _ (s₁.setTop (mkF m 132 #[.val (.int c_)] []))
                                          refine Goes.via (fun _ kk_ => XS.iloadN X0.here hx rfl (hb hby d14_132) rfl  kk_) ?_
                                          show Goes p e below _ (s₁.setTop (mkF m 133 #[.val (.int c_)] [(.int c_)]))
                                          refine Goes.via (fun _ kk_ => XS.bipush X0.here hx rfl (hb hby d14_133) kk_) ?_
                                          show Goes p e below _ (s₁.setTop (mkF m 135 #[.val (.int c_)] [(.int (63 : Int32)), (.int c_)]))
                                          by_cases hc135 : c_ = (63 : Int32)
                                          · skip
                                            refine Goes.via (fun _ kk_ => XS.icmpYes X0.here hx rfl (pc0 := 135) (pc' := 144) rfl (hb hby d14_135) rfl (teq hc135).1 (by decide) (by decide) kk_) ?_
                                            show Goes p e below _ (s₁.setTop (mkF m 144 #[.val (.int c_)] []))
                                            refine Goes.via (fun _ kk_ => XS.iconst X0.here hx rfl (hb hby d14_144) kk_) ?_
                                            show Goes p e below _ (s₁.setTop (mkF m 145 #[.val (.int c_)] [(.int (1 : Int32))]))
                                            refine Goes.via (fun _ kk_ => XS.goto X0.here hx rfl (pc0 := 145) (pc' := 149) rfl (hb hby d14_145) (by decide) (by decide) kk_) ?_
                                            show Goes p e below _ (s₁.setTop (mkF m 149 #[.val (.int c_)] [(.int (1 : Int32))]))
                                            exact own_finN X0 hx hlk hret (by simp) (hb hby d14_149) (by rw [e0]; exact ⟨(by first | (rw [own_exp, if_pos hc3, if_neg hc17, if_pos hc23, if_neg hc31, if_pos hc37, if_neg hc45, if_neg hc51, if_neg hc57, if_neg hc63, if_neg hc69, if_neg hc75, if_neg hc81, if_neg hc87, if_neg hc93, if_neg hc99, if_neg hc105, if_neg hc111, if_neg hc117, if_neg hc123, if_neg hc129, if_pos hc135]; done) | (rw [own_exp, if_pos hc3, if_neg hc17, if_pos hc23, if_neg hc31, if_pos hc37, if_neg hc45, if_neg hc51, if_neg hc57, if_neg hc63, if_neg hc69, if_neg hc75, if_neg hc81, if_neg hc87, if_neg hc93, if_neg hc99, if_neg hc105, if_neg hc111, if_neg hc117, if_neg hc123, if_neg hc129, if_pos hc135]; rfl)), rfl, rfl⟩) (by first | decide | omega | (dsimp only; omega)) (by first | decide | omega | (dsimp only; omega))
                                          · skip
                                            refine Goes.via (fun _ kk_ => XS.icmpNo X0.here hx rfl (hb hby d14_135) rfl (feq hc135).1 kk_) ?_
                                            show Goes p e below _ (s₁.setTop (mkF m 138 #[.val (.int c_)] []))
                                            refine Goes.via (fun _ kk_ => XS.iloadN X0.here hx rfl (hb hby d14_138) rfl  kk_) ?_
                                            show Goes p e below _ (s₁.setTop (mkF m 139 #[.val (.int c_)] [(.int c_)]))
                                            refine Goes.via (fun _ kk_ => XS.bipush X0.here hx rfl (hb hby d14_139) kk_) ?_
                                            show Goes p e below _ (s₁.setTop (mkF m 141 #[.val (.int c_)] [(.int (47 : Int32)), (.int c_)]))
                                            by_cases hc141 : c_ = (47 : Int32)
                                            · skip
                                              refine Goes.via (fun _ kk_ => XS.icmpNo X0.here hx rfl (hb hby d14_141) rfl (teq hc141).2 kk_) ?_
                                              show Goes p e below _ (s₁.setTop (mkF m 144 #[.val (.int c_)] []))
                                              refine Goes.via (fun _ kk_ => XS.iconst X0.here hx rfl (hb hby d14_144) kk_) ?_
                                              show Goes p e below _ (s₁.setTop (mkF m 145 #[.val (.int c_)] [(.int (1 : Int32))]))
                                              refine Goes.via (fun _ kk_ => XS.goto X0.here hx rfl (pc0 := 145) (pc' := 149) rfl (hb hby d14_145) (by decide) (by decide) kk_) ?_
                                              show Goes p e below _ (s₁.setTop (mkF m 149 #[.val (.int c_)] [(.int (1 : Int32))]))
                                              exact own_finN X0 hx hlk hret (by simp) (hb hby d14_149) (by rw [e0]; exact ⟨(by first | (rw [own_exp, if_pos hc3, if_neg hc17, if_pos hc23, if_neg hc31, if_pos hc37, if_neg hc45, if_neg hc51, if_neg hc57, if_neg hc63, if_neg hc69, if_neg hc75, if_neg hc81, if_neg hc87, if_neg hc93, if_neg hc99, if_neg hc105, if_neg hc111, if_neg hc117, if_neg hc123, if_neg hc129, if_neg hc135, if_pos hc141]; done) | (rw [own_exp, if_pos hc3, if_neg hc17, if_pos hc23, if_neg hc31, if_pos hc37, if_neg hc45, if_neg hc51, if_neg hc57, if_neg hc63, if_neg hc69, if_neg hc75, if_neg hc81, if_neg hc87, if_neg hc93, if_neg hc99, if_neg hc105, if_neg hc111, if_neg hc117, if_neg hc123, if_neg hc129, if_neg hc135, if_pos hc141]; rfl)), rfl, rfl⟩) (by first | decide | omega | (dsimp only; omega)) (by first | decide | omega | (dsimp only; omega))
                                            · skip
                                              refine Goes.via (fun _ kk_ => XS.icmpYes X0.here hx rfl (pc0 := 141) (pc' := 148) rfl (hb hby d14_141) rfl (feq hc141).2 (by decide) (by decide) kk_) ?_
                                              show Goes p e below _ (s₁.setTop (mkF m 148 #[.val (.int c_)] []))
                                              refine Goes.via (fun _ kk_ => XS.iconst X0.here hx rfl (hb hby d14_148) kk_) ?_
                                              show Goes p e below _ (s₁.setTop (mkF m 149 #[.val (.int c_)] [(.int (0 : Int32))]))
                                              exact own_finN X0 hx hlk hret (by simp) (hb hby d14_149) (by rw [e0]; exact ⟨(by first | (rw [own_exp, if_pos hc3, if_neg hc17, if_pos hc23, if_neg hc31, if_pos hc37, if_neg hc45, if_neg hc51, if_neg hc57, if_neg hc63, if_neg hc69, if_neg hc75, if_neg hc81, if_neg hc87, if_neg hc93, if_neg hc99, if_neg hc105, if_neg hc111, if_neg hc117, if_neg hc123, if_neg hc129, if_neg hc135, if_neg hc141]; done) | (rw [own_exp, if_pos hc3, if_neg hc17, if_pos hc23, if_neg hc31, if_pos hc37, if_neg hc45, if_neg hc51, if_neg hc57, if_neg hc63, if_neg hc69, if_neg hc75, if_neg hc81, if_neg hc87, if_neg hc93, if_neg hc99, if_neg hc105, if_neg hc111, if_neg hc117, if_neg hc123, if_neg hc129, if_neg hc135, if_neg hc141]; rfl)), rfl, rfl⟩) (by first | decide | omega | (dsimp only; omega)) (by first | decide | omega | (dsimp only; omega))
          · skip
            refine Goes.via (fun _ kk_ => XS.icmpNo X0.here hx rfl (hb hby d14_37) rfl (flt hc37).2.2.1 kk_) ?_
            show Goes p e below _ (s₁.setTop (mkF m 40 #[.val (.int c_)] []))
            refine Goes.via (fun _ kk_ => XS.iconst X0.here hx rfl (hb hby d14_40) kk_) ?_
            show Goes p e below _ (s₁.setTop (mkF m 41 #[.val (.int c_)] [(.int (1 : Int32))]))
            exact own_finN X0 hx hlk hret (by simp) (hb hby d14_41) (by rw [e0]; exact ⟨(by first | (rw [own_exp, if_pos hc3, if_neg hc17, if_pos hc23, if_neg hc31, if_neg hc37]; done) | (rw [own_exp, if_pos hc3, if_neg hc17, if_pos hc23, if_neg hc31, if_neg hc37]; rfl)), rfl, rfl⟩) (by first | decide | omega | (dsimp only; omega)) (by first | decide | omega | (dsimp only; omega))
      · skip
        refine Goes.via (fun _ kk_ => XS.icmpNo X0.here hx rfl (hb hby d14_23) rfl (flt hc23).2.2.1 kk_) ?_
        show Goes p e below _ (s₁.setTop (mkF m 26 #[.val (.int c_)] []))
        refine Goes.via (fun _ kk_ => XS.iconst X0.here hx rfl (hb hby d14_26) kk_) ?_
        show Goes p e below _ (s₁.setTop (mkF m 27 #[.val (.int c_)] [(.int (1 : Int32))]))
        exact own_finN X0 hx hlk hret (by simp) (hb hby d14_27) (by rw [e0]; exact ⟨(by first | (rw [own_exp, if_pos hc3, if_neg hc17, if_neg hc23]; done) | (rw [own_exp, if_pos hc3, if_neg hc17, if_neg hc23]; rfl)), rfl, rfl⟩) (by first | decide | omega | (dsimp only; omega)) (by first | decide | omega | (dsimp only; omega))
  · skip
    refine Goes.via (fun _ kk_ => XS.icmpNo X0.here hx rfl (hb hby d14_3) rfl (flt hc3).1 kk_) ?_
    show Goes p e below _ (s₁.setTop (mkF m 6 #[.val (.int c_)] []))
    refine Goes.via (fun _ kk_ => XS.iloadN X0.here hx rfl (hb hby d14_6) rfl  kk_) ?_
    show Goes p e below _ (s₁.setTop (mkF m 7 #[.val (.int c_)] [(.int c_)]))
    refine Goes.via (fun _ kk_ => XS.bipush X0.here hx rfl (hb hby d14_7) kk_) ?_
    show Goes p e below _ (s₁.setTop (mkF m 9 #[.val (.int c_)] [(.int (122 : Int32)), (.int c_)]))
    by_cases hc9 : (122 : Int32) < c_
    · skip
      refine Goes.via (fun _ kk_ => XS.icmpYes X0.here hx rfl (pc0 := 9) (pc' := 14) rfl (hb hby d14_9) rfl (tlt hc9).2.2.1 (by decide) (by decide) kk_) ?_
      show Goes p e below _ (s₁.setTop (mkF m 14 #[.val (.int c_)] []))
      refine Goes.via (fun _ kk_ => XS.iloadN X0.here hx rfl (hb hby d14_14) rfl  kk_) ?_
      show Goes p e below _ (s₁.setTop (mkF m 15 #[.val (.int c_)] [(.int c_)]))
      refine Goes.via (fun _ kk_ => XS.bipush X0.here hx rfl (hb hby d14_15) kk_) ?_
      show Goes p e below _ (s₁.setTop (mkF m 17 #[.val (.int c_)] [(.int (65 : Int32)), (.int c_)]))
      by_cases hc17 : c_ < (65 : Int32)
      · skip
        refine Goes.via (fun _ kk_ => XS.icmpYes X0.here hx rfl (pc0 := 17) (pc' := 28) rfl (hb hby d14_17) rfl (tlt hc17).1 (by decide) (by decide) kk_) ?_
        show Goes p e below _ (s₁.setTop (mkF m 28 #[.val (.int c_)] []))
        refine Goes.via (fun _ kk_ => XS.iloadN X0.here hx rfl (hb hby d14_28) rfl  kk_) ?_
        show Goes p e below _ (s₁.setTop (mkF m 29 #[.val (.int c_)] [(.int c_)]))
        refine Goes.via (fun _ kk_ => XS.bipush X0.here hx rfl (hb hby d14_29) kk_) ?_
        show Goes p e below _ (s₁.setTop (mkF m 31 #[.val (.int c_)] [(.int (48 : Int32)), (.int c_)]))
        by_cases hc31 : c_ < (48 : Int32)
        · skip
          refine Goes.via (fun _ kk_ => XS.icmpYes X0.here hx rfl (pc0 := 31) (pc' := 42) rfl (hb hby d14_31) rfl (tlt hc31).1 (by decide) (by decide) kk_) ?_
          show Goes p e below _ (s₁.setTop (mkF m 42 #[.val (.int c_)] []))
          refine Goes.via (fun _ kk_ => XS.iloadN X0.here hx rfl (hb hby d14_42) rfl  kk_) ?_
          show Goes p e below _ (s₁.setTop (mkF m 43 #[.val (.int c_)] [(.int c_)]))
          refine Goes.via (fun _ kk_ => XS.bipush X0.here hx rfl (hb hby d14_43) kk_) ?_
          show Goes p e below _ (s₁.setTop (mkF m 45 #[.val (.int c_)] [(.int (126 : Int32)), (.int c_)]))
          by_cases hc45 : c_ = (126 : Int32)
          · skip
            refine Goes.via (fun _ kk_ => XS.icmpYes X0.here hx rfl (pc0 := 45) (pc' := 144) rfl (hb hby d14_45) rfl (teq hc45).1 (by decide) (by decide) kk_) ?_
            show Goes p e below _ (s₁.setTop (mkF m 144 #[.val (.int c_)] []))
            refine Goes.via (fun _ kk_ => XS.iconst X0.here hx rfl (hb hby d14_144) kk_) ?_
            show Goes p e below _ (s₁.setTop (mkF m 145 #[.val (.int c_)] [(.int (1 : Int32))]))
            refine Goes.via (fun _ kk_ => XS.goto X0.here hx rfl (pc0 := 145) (pc' := 149) rfl (hb hby d14_145) (by decide) (by decide) kk_) ?_
            show Goes p e below _ (s₁.setTop (mkF m 149 #[.val (.int c_)] [(.int (1 : Int32))]))
            exact own_finN X0 hx hlk hret (by simp) (hb hby d14_149) (by rw [e0]; exact ⟨(by first | (rw [own_exp, if_neg hc3, if_pos hc9, if_pos hc17, if_pos hc31, if_pos hc45]; done) | (rw [own_exp, if_neg hc3, if_pos hc9, if_pos hc17, if_pos hc31, if_pos hc45]; rfl)), rfl, rfl⟩) (by first | decide | omega | (dsimp only; omega)) (by first | decide | omega | (dsimp only; omega))
          · skip
            refine Goes.via (fun _ kk_ => XS.icmpNo X0.here hx rfl (hb hby d14_45) rfl (feq hc45).1 kk_) ?_
            show Goes p e below _ (s₁.setTop (mkF m 48 #[.val (.int c_)] []))
            refine Goes.via (fun _ kk_ => XS.iloadN X0.here hx rfl (hb hby d14_48) rfl  kk_) ?_
            show Goes p e below _ (s₁.setTop (mkF m 49 #[.val (.int c_)] [(.int c_)]))
            refine Goes.via (fun _ kk_ => XS.bipush X0.here hx rfl (hb hby d14_49) kk_) ?_
            show Goes p e below _ (s₁.setTop (mkF m 51 #[.val (.int c_)] [(.int (33 : Int32)), (.int c_)]))
            by_cases hc51 : c_ = (33 : Int32)
            · skip
              refine Goes.via (fun _ kk_ => XS.icmpYes X0.here hx rfl (pc0 := 51) (pc' := 144) rfl (hb hby d14_51) rfl (teq hc51).1 (by decide) (by decide) kk_) ?_
              show Goes p e below _ (s₁.setTop (mkF m 144 #[.val (.int c_)] []))
              refine Goes.via (fun _ kk_ => XS.iconst X0.here hx rfl (hb hby d14_144) kk_) ?_
              show Goes p e below _ (s₁.setTop (mkF m 145 #[.val (.int c_)] [(.int (1 : Int32))]))
              refine Goes.via (fun _ kk_ => XS.goto X0.here hx rfl (pc0 := 145) (pc' := 149) rfl (hb hby d14_145) (by decide) (by decide) kk_) ?_
              show Goes p e below _ (s₁.setTop (mkF m 149 #[.val (.int c_)] [(.int (1 : Int32))]))
              exact own_finN X0 hx hlk hret (by simp) (hb hby d14_149) (by rw [e0]; exact ⟨(by first | (rw [own_exp, if_neg hc3, if_pos hc9, if_pos hc17, if_pos hc31, if_neg hc45, if_pos hc51]; done) | (rw [own_exp, if_neg hc3, if_pos hc9, if_pos hc17, if_pos hc31, if_neg hc45, if_pos hc51]; rfl)), rfl, rfl⟩) (by first | decide | omega | (dsimp only; omega)) (by first | decide | omega | (dsimp only; omega))
            · skip
              refine Goes.via (fun _ kk_ => XS.icmpNo X0.here hx rfl (hb hby d14_51) rfl (feq hc51).1 kk_) ?_
              show Goes p e below _ (s₁.setTop (mkF m 54 #[.val (.int c_)] []))
              refine Goes.via (fun _ kk_ => XS.iloadN X0.here hx rfl (hb hby d14_54) rfl  kk_) ?_
              show Goes p e below _ (s₁.setTop (mkF m 55 #[.val (.int c_)] [(.int c_)]))
              refine Goes.via (fun _ kk_ => XS.bipush X0.here hx rfl (hb hby d14_55) kk_) ?_
              show Goes p e below _ (s₁.setTop (mkF m 57 #[.val (.int c_)] [(.int (64 : Int32)), (.int c_)]))
              by_cases hc57 : c_ = (64 : Int32)
              · skip
                refine Goes.via (fun _ kk_ => XS.icmpYes X0.here hx rfl (pc0 := 57) (pc' := 144) rfl (hb hby d14_57) rfl (teq hc57).1 (by decide) (by decide) kk_) ?_
                show Goes p e below _ (s₁.setTop (mkF m 144 #[.val (.int c_)] []))
                refine Goes.via (fun _ kk_ => XS.iconst X0.here hx rfl (hb hby d14_144) kk_) ?_
                show Goes p e below _ (s₁.setTop (mkF m 145 #[.val (.int c_)] [(.int (1 : Int32))]))
                refine Goes.via (fun _ kk_ => XS.goto X0.here hx rfl (pc0 := 145) (pc' := 149) rfl (hb hby d14_145) (by decide) (by decide) kk_) ?_
                show Goes p e below _ (s₁.setTop (mkF m 149 #[.val (.int c_)] [(.int (1 : Int32))]))
                exact own_finN X0 hx hlk hret (by simp) (hb hby d14_149) (by rw [e0]; exact ⟨(by first | (rw [own_exp, if_neg hc3, if_pos hc9, if_pos hc17, if_pos hc31, if_neg hc45, if_neg hc51, if_pos hc57]; done) | (rw [own_exp, if_neg hc3, if_pos hc9, if_pos hc17, if_pos hc31, if_neg hc45, if_neg hc51, if_pos hc57]; rfl)), rfl, rfl⟩) (by first | decide | omega | (dsimp only; omega)) (by first | decide | omega | (dsimp only; omega))
              · skip
                refine Goes.via (fun _ kk_ => XS.icmpNo X0.here hx rfl (hb hby d14_57) rfl (feq hc57).1 kk_) ?_
                show Goes p e below _ (s₁.setTop (mkF m 60 #[.val (.int c_)] []))
                refine Goes.via (fun _ kk_ => XS.iloadN X0.here hx rfl (hb hby d14_60) rfl  kk_) ?_
                show Goes p e below _ (s₁.setTop (mkF m 61 #[.val (.int c_)] [(.int c_)]))
                refine Goes.via (fun _ kk_ => XS.bipush X0.here hx rfl (hb hby d14_61) kk_) ?_
                show Goes p e below _ (s₁.setTop (mkF m 63 #[.val (.int c_)] [(.int (36 : Int32)), (.int c_)]))
                by_cases hc63 : c_ = (36 : Int32)
                · skip
                  refine Goes.via (fun _ kk_ => XS.icmpYes X0.here hx rfl (pc0 := 63) (pc' := 144) rfl (hb hby d14_63) rfl (teq hc63).1 (by decide) (by decide) kk_) ?_
                  show Goes p e below _ (s₁.setTop (mkF m 144 #[.val (.int c_)] []))
                  refine Goes.via (fun _ kk_ => XS.iconst X0.here hx rfl (hb hby d14_144) kk_) ?_
                  show Goes p e below _ (s₁.setTop (mkF m 145 #[.val (.int c_)] [(.int (1 : Int32))]))
                  refine Goes.via (fun _ kk_ => XS.goto X0.here hx rfl (pc0 := 145) (pc' := 149) rfl (hb hby d14_145) (by decide) (by decide) kk_) ?_
                  show Goes p e below _ (s₁.setTop (mkF m 149 #[.val (.int c_)] [(.int (1 : Int32))]))
                  exact own_finN X0 hx hlk hret (by simp) (hb hby d14_149) (by rw [e0]; exact ⟨(by first | (rw [own_exp, if_neg hc3, if_pos hc9, if_pos hc17, if_pos hc31, if_neg hc45, if_neg hc51, if_neg hc57, if_pos hc63]; done) | (rw [own_exp, if_neg hc3, if_pos hc9, if_pos hc17, if_pos hc31, if_neg hc45, if_neg hc51, if_neg hc57, if_pos hc63]; rfl)), rfl, rfl⟩) (by first | decide | omega | (dsimp only; omega)) (by first | decide | omega | (dsimp only; omega))
                · skip
                  refine Goes.via (fun _ kk_ => XS.icmpNo X0.here hx rfl (hb hby d14_63) rfl (feq hc63).1 kk_) ?_
                  show Goes p e below _ (s₁.setTop (mkF m 66 #[.val (.int c_)] []))
                  refine Goes.via (fun _ kk_ => XS.iloadN X0.here hx rfl (hb hby d14_66) rfl  kk_) ?_
                  show Goes p e below _ (s₁.setTop (mkF m 67 #[.val (.int c_)] [(.int c_)]))
                  refine Goes.via (fun _ kk_ => XS.bipush X0.here hx rfl (hb hby d14_67) kk_) ?_
                  show Goes p e below _ (s₁.setTop (mkF m 69 #[.val (.int c_)] [(.int (37 : Int32)), (.int c_)]))
                  by_cases hc69 : c_ = (37 : Int32)
                  · skip
                    refine Goes.via (fun _ kk_ => XS.icmpYes X0.here hx rfl (pc0 := 69) (pc' := 144) rfl (hb hby d14_69) rfl (teq hc69).1 (by decide) (by decide) kk_) ?_
                    show Goes p e below _ (s₁.setTop (mkF m 144 #[.val (.int c_)] []))
                    refine Goes.via (fun _ kk_ => XS.iconst X0.here hx rfl (hb hby d14_144) kk_) ?_
                    show Goes p e below _ (s₁.setTop (mkF m 145 #[.val (.int c_)] [(.int (1 : Int32))]))
                    refine Goes.via (fun _ kk_ => XS.goto X0.here hx rfl (pc0 := 145) (pc' := 149) rfl (hb hby d14_145) (by decide) (by decide) kk_) ?_
                    show Goes p e below _ (s₁.setTop (mkF m 149 #[.val (.int c_)] [(.int (1 : Int32))]))
                    exact own_finN X0 hx hlk hret (by simp) (hb hby d14_149) (by rw [e0]; exact ⟨(by first | (rw [own_exp, if_neg hc3, if_pos hc9, if_pos hc17, if_pos hc31, if_neg hc45, if_neg hc51, if_neg hc57, if_neg hc63, if_pos hc69]; done) | (rw [own_exp, if_neg hc3, if_pos hc9, if_pos hc17, if_pos hc31, if_neg hc45, if_neg hc51, if_neg hc57, if_neg hc63, if_pos hc69]; rfl)), rfl, rfl⟩) (by first | decide | omega | (dsimp only; omega)) (by first | decide | omega | (dsimp only; omega))
                  · skip
                    refine Goes.via (fun _ kk_ => XS.icmpNo X0.here hx rfl (hb hby d14_69) rfl (feq hc69).1 kk_) ?_
                    show Goes p e below _ (s₁.setTop (mkF m 72 #[.val (.int c_)] []))
                    refine Goes.via (fun _ kk_ => XS.iloadN X0.here hx rfl (hb hby d14_72) rfl  kk_) ?_
                    show Goes p e below _ (s₁.setTop (mkF m 73 #[.val (.int c_)] [(.int c_)]))
                    refine Goes.via (fun _ kk_ => XS.bipush X0.here hx rfl (hb hby d14_73) kk_) ?_
                    show Goes p e below _ (s₁.setTop (mkF m 75 #[.val (.int c_)] [(.int (94 : Int32)), (.int c_)]))
                    by_cases hc75 : c_ = (94 : Int32)
                    · skip
                      refine Goes.via (fun _ kk_ => XS.icmpYes X0.here hx rfl (pc0 := 75) (pc' := 144) rfl (hb hby d14_75) rfl (teq hc75).1 (by decide) (by decide) kk_) ?_
                      show Goes p e below _ (s₁.setTop (mkF m 144 #[.val (.int c_)] []))
                      refine Goes.via (fun _ kk_ => XS.iconst X0.here hx rfl (hb hby d14_144) kk_) ?_
                      show Goes p e below _ (s₁.setTop (mkF m 145 #[.val (.int c_)] [(.int (1 : Int32))]))
                      refine Goes.via (fun _ kk_ => XS.goto X0.here hx rfl (pc0 := 145) (pc' := 149) rfl (hb hby d14_145) (by decide) (by decide) kk_) ?_
                      show Goes p e below _ (s₁.setTop (mkF m 149 #[.val (.int c_)] [(.int (1 : Int32))]))
                      exact own_finN X0 hx hlk hret (by simp) (hb hby d14_149) (by rw [e0]; exact ⟨(by first | (rw [own_exp, if_neg hc3, if_pos hc9, if_pos hc17, if_pos hc31, if_neg hc45, if_neg hc51, if_neg hc57, if_neg hc63, if_neg hc69, if_pos hc75]; done) | (rw [own_exp, if_neg hc3, if_pos hc9, if_pos hc17, if_pos hc31, if_neg hc45, if_neg hc51, if_neg hc57, if_neg hc63, if_neg hc69, if_pos hc75]; rfl)), rfl, rfl⟩) (by first | decide | omega | (dsimp only; omega)) (by first | decide | omega | (dsimp only; omega))
                    · skip
                      refine Goes.via (fun _ kk_ => XS.icmpNo X0.here hx rfl (hb hby d14_75) rfl (feq hc75).1 kk_) ?_
                      show Goes p e below _ (s₁.setTop (mkF m 78 #[.val (.int c_)] []))
                      refine Goes.via (fun _ kk_ => XS.iloadN X0.here hx rfl (hb hby d14_78) rfl  kk_) ?_
                      show Goes p e below _ (s₁.setTop (mkF m 79 #[.val (.int c_)] [(.int c_)]))
                      refine Goes.via (fun _ kk_ => XS.bipush X0.here hx rfl (hb hby d14_79) kk_) ?_
                      show Goes p e below _ (s₁.setTop (mkF m 81 #[.val (.int c_)] [(.int (38 : Int32)), (.int c_)]))
                      by_cases hc81 : c_ = (38 : Int32)
                      · skip
                        refine Goes.via (fun _ kk_ => XS.icmpYes X0.here hx rfl (pc0 := 81) (pc' := 144) rfl (hb hby d14_81) rfl (teq hc81).1 (by decide) (by decide) kk_) ?_
                        show Goes p e below _ (s₁.setTop (mkF m 144 #[.val (.int c_)] []))
                        refine Goes.via (fun _ kk_ => XS.iconst X0.here hx rfl (hb hby d14_144) kk_) ?_
                        show Goes p e below _ (s₁.setTop (mkF m 145 #[.val (.int c_)] [(.int (1 : Int32))]))
                        refine Goes.via (fun _ kk_ => XS.goto X0.here hx rfl (pc0 := 145) (pc' := 149) rfl (hb hby d14_145) (by decide) (by decide) kk_) ?_
                        show Goes p e below _ (s₁.setTop (mkF m 149 #[.val (.int c_)] [(.int (1 : Int32))]))
                        exact own_finN X0 hx hlk hret (by simp) (hb hby d14_149) (by rw [e0]; exact ⟨(by first | (rw [own_exp, if_neg hc3, if_pos hc9, if_pos hc17, if_pos hc31, if_neg hc45, if_neg hc51, if_neg hc57, if_neg hc63, if_neg hc69, if_neg hc75, if_pos hc81]; done) | (rw [own_exp, if_neg hc3, if_pos hc9, if_pos hc17, if_pos hc31, if_neg hc45, if_neg hc51, if_neg hc57, if_neg hc63, if_neg hc69, if_neg hc75, if_pos hc81]; rfl)), rfl, rfl⟩) (by first | decide | omega | (dsimp only; omega)) (by first | decide | omega | (dsimp only; omega))
                      · skip
                        refine Goes.via (fun _ kk_ => XS.icmpNo X0.here hx rfl (hb hby d14_81) rfl (feq hc81).1 kk_) ?_
                        show Goes p e below _ (s₁.setTop (mkF m 84 #[.val (.int c_)] []))
                        refine Goes.via (fun _ kk_ => XS.iloadN X0.here hx rfl (hb hby d14_84) rfl  kk_) ?_
                        show Goes p e below _ (s₁.setTop (mkF m 85 #[.val (.int c_)] [(.int c_)]))
                        refine Goes.via (fun _ kk_ => XS.bipush X0.here hx rfl (hb hby d14_85) kk_) ?_
                        show Goes p e below _ (s₁.setTop (mkF m 87 #[.val (.int c_)] [(.int (42 : Int32)), (.int c_)]))
                        by_cases hc87 : c_ = (42 : Int32)
                        · skip
                          refine Goes.via (fun _ kk_ => XS.icmpYes X0.here hx rfl (pc0 := 87) (pc' := 144) rfl (hb hby d14_87) rfl (teq hc87).1 (by decide) (by decide) kk_) ?_
                          show Goes p e below _ (s₁.setTop (mkF m 144 #[.val (.int c_)] []))
                          refine Goes.via (fun _ kk_ => XS.iconst X0.here hx rfl (hb hby d14_144) kk_) ?_
                          show Goes p e below _ (s₁.setTop (mkF m 145 #[.val (.int c_)] [(.int (1 : Int32))]))
                          refine Goes.via (fun _ kk_ => XS.goto X0.here hx rfl (pc0 := 145) (pc' := 149) rfl (hb hby d14_145) (by decide) (by decide) kk_) ?_
                          show Goes p e below _ (s₁.setTop (mkF m 149 #[.val (.int c_)] [(.int (1 : Int32))]))
                          exact own_finN X0 hx hlk hret (by simp) (hb hby d14_149) (by rw [e0]; exact ⟨(by first | (rw [own_exp, if_neg hc3, if_pos hc9, if_pos hc17, if_pos hc31, if_neg hc45, if_neg hc51, if_neg hc57, if_neg hc63, if_neg hc69, if_neg hc75, if_neg hc81, if_pos hc87]; done) | (rw [own_exp, if_neg hc3, if_pos hc9, if_pos hc17, if_pos hc31, if_neg hc45, if_neg hc51, if_neg hc57, if_neg hc63, if_neg hc69, if_neg hc75, if_neg hc81, if_pos hc87]; rfl)), rfl, rfl⟩) (by first | decide | omega | (dsimp only; omega)) (by first | decide | omega | (dsimp only; omega))
                        · skip
                          refine Goes.via (fun _ kk_ => XS.icmpNo X0.here hx rfl (hb hby d14_87) rfl (feq hc87).1 kk_) ?_
                          show Goes p e below _ (s₁.setTop (mkF m 90 #[.val (.int c_)] []))
                          refine Goes.via (fun _ kk_ => XS.iloadN X0.here hx rfl (hb hby d14_90) rfl  kk_) ?_
                          show Goes p e below _ (s₁.setTop (mkF m 91 #[.val (.int c_)] [(.int c_)]))
                          refine Goes.via (fun _ kk_ => XS.bipush X0.here hx rfl (hb hby d14_91) kk_) ?_
                          show Goes p e below _ (s₁.setTop (mkF m 93 #[.val (.int c_)] [(.int (95 : Int32)), (.int c_)]))
                          by_cases hc93 : c_ = (95 : Int32)
                          · skip
                            refine Goes.via (fun _ kk_ => XS.icmpYes X0.here hx rfl (pc0 := 93) (pc' := 144) rfl (hb hby d14_93) rfl (teq hc93).1 (by decide) (by decide) kk_) ?_
                            show Goes p e below _ (s₁.setTop (mkF m 144 #[.val (.int c_)] []))
                            refine Goes.via (fun _ kk_ => XS.iconst X0.here hx rfl (hb hby d14_144) kk_) ?_
                            show Goes p e below _ (s₁.setTop (mkF m 145 #[.val (.int c_)] [(.int (1 : Int32))]))
                            refine Goes.via (fun _ kk_ => XS.goto X0.here hx rfl (pc0 := 145) (pc' := 149) rfl (hb hby d14_145) (by decide) (by decide) kk_) ?_
                            show Goes p e below _ (s₁.setTop (mkF m 149 #[.val (.int c_)] [(.int (1 : Int32))]))
                            exact own_finN X0 hx hlk hret (by simp) (hb hby d14_149) (by rw [e0]; exact ⟨(by first | (rw [own_exp, if_neg hc3, if_pos hc9, if_pos hc17, if_pos hc31, if_neg hc45, if_neg hc51, if_neg hc57, if_neg hc63, if_neg hc69, if_neg hc75, if_neg hc81, if_neg hc87, if_pos hc93]; done) | (rw [own_exp, if_neg hc3, if_pos hc9, if_pos hc17, if_pos hc31, if_neg hc45, if_neg hc51, if_neg hc57, if_neg hc63, if_neg hc69, if_neg hc75, if_neg hc81, if_neg hc87, if_pos hc93]; rfl)), rfl, rfl⟩) (by first | decide | omega | (dsimp only; omega)) (by first | decide | omega | (dsimp only; omega))
                          · skip
                            refine Goes.via (fun _ kk_ => XS.icmpNo X0.here hx rfl (hb hby d14_93) rfl (feq hc93).1 kk_) ?_
                            show Goes p e below _ (s₁.setTop (mkF m 96 #[.val (.int c_)] []))
                            refine Goes.via (fun _ kk_ => XS.iloadN X0.here hx rfl (hb hby d14_96) rfl  kk_) ?_
                            show Goes p e below _ (s₁.setTop (mkF m 97 #[.val (.int c_)] [(.int c_)]))
                            refine Goes.via (fun _ kk_ => XS.bipush X0.here hx rfl (hb hby d14_97) kk_) ?_
                            show Goes p e below _ (s₁.setTop (mkF m 99 #[.val (.int c_)] [(.int (45 : Int32)), (.int c_)]))
                            by_cases hc99 : c_ = (45 : Int32)
                            · skip
                              refine Goes.via (fun _ kk_ => XS.icmpYes X0.here hx rfl (pc0 := 99) (pc' := 144) rfl (hb hby d14_99) rfl (teq hc99).1 (by decide) (by decide) kk_) ?_
                              show Goes p e below _ (s₁.setTop (mkF m 144 #[.val (.int c_)] []))
                              refine Goes.via (fun _ kk_ => XS.iconst X0.here hx rfl (hb hby d14_144) kk_) ?_
                              show Goes p e below _ (s₁.setTop (mkF m 145 #[.val (.int c_)] [(.int (1 : Int32))]))
                              refine Goes.via (fun _ kk_ => XS.goto X0.here hx rfl (pc0 := 145) (pc' := 149) rfl (hb hby d14_145) (by decide) (by decide) kk_) ?_
                              show Goes p e below _ (s₁.setTop (mkF m 149 #[.val (.int c_)] [(.int (1 : Int32))]))
                              exact own_finN X0 hx hlk hret (by simp) (hb hby d14_149) (by rw [e0]; exact ⟨(by first | (rw [own_exp, if_neg hc3, if_pos hc9, if_pos hc17, if_pos hc31, if_neg hc45, if_neg hc51, if_neg hc57, if_neg hc63, if_neg hc69, if_neg hc75, if_neg hc81, if_neg hc87, if_neg hc93, if_pos hc99]; done) | (rw [own_exp, if_neg hc3, if_pos hc9, if_pos hc17, if_pos hc31, if_neg hc45, if_neg hc51, if_neg hc57, if_neg hc63, if_neg hc69, if_neg hc75, if_neg hc81, if_neg hc87, if_neg hc93, if_pos hc99]; rfl)), rfl, rfl⟩) (by first | decide | omega | (dsimp only; omega)) (by first | decide | omega | (dsimp only; omega))
                            · skip
                              refine Goes.via (fun _ kk_ => XS.icmpNo X0.here hx rfl (hb hby d14_99) rfl (feq hc99).1 kk_) ?_
                              show Goes p e below _ (s₁.setTop (mkF m 102 #[.val (.int c_)] []))
                              refine Goes.via (fun _ kk_ => XS.iloadN X0.here hx rfl (hb hby d14_102) rfl  kk_) ?_
                              show Goes p e below _ (s₁.setTop (mkF m 103 #[.val (.int c_)] [(.int c_)]))
                              refine Goes.via (fun _ kk_ => XS.bipush X0.here hx rfl (hb hby d14_103) kk_) ?_
                              show Goes p e below _ (s₁.setTop (mkF m 105 #[.val (.int c_)] [(.int (43 : Int32)), (.int c_)]))
                              by_cases hc105 : c_ = (43 : Int32)
                              · skip
                                refine Goes.via (fun _ kk_ => XS.icmpYes X0.here hx rfl (pc0 := 105) (pc' := 144) rfl (hb hby d14_105) rfl (teq hc105).1 (by decide) (by decide) kk_) ?_
                                show Goes p e below _ (s₁.setTop (mkF m 144 #[.val (.int c_)] []))
                                refine Goes.via (fun _ kk_ => XS.iconst X0.here hx rfl (hb hby d14_144) kk_) ?_
                                show Goes p e below _ (s₁.setTop (mkF m 145 #[.val (.int c_)] [(.int (1 : Int32))]))
                                refine Goes.via (fun _ kk_ => XS.goto X0.here hx rfl (pc0 := 145) (pc' := 149) rfl (hb hby d14_145) (by decide) (by decide) kk_) ?_
                                show Goes p e below _ (s₁.setTop (mkF m 149 #[.val (.int c_)] [(.int (1 : Int32))]))
                                exact own_finN X0 hx hlk hret (by simp) (hb hby d14_149) (by rw [e0]; exact ⟨(by first | (rw [own_exp, if_neg hc3, if_pos hc9, if_pos hc17, if_pos hc31, if_neg hc45, if_neg hc51, if_neg hc57, if_neg hc63, if_neg hc69, if_neg hc75, if_neg hc81, if_neg hc87, if_neg hc93, if_neg hc99, if_pos hc105]; done) | (rw [own_exp, if_neg hc3, if_pos hc9, if_pos hc17, if_pos hc31, if_neg hc45, if_neg hc51, if_neg hc57, if_neg hc63, if_neg hc69, if_neg hc75, if_neg hc81, if_neg hc87, if_neg hc93, if_neg hc99, if_pos hc105]; rfl)), rfl, rfl⟩) (by first | decide | omega | (dsimp only; omega)) (by first | decide | omega | (dsimp only; omega))
                              · skip
                                refine Goes.via (fun _ kk_ => XS.icmpNo X0.here hx rfl (hb hby d14_105) rfl (feq hc105).1 kk_) ?_
                                show Goes p e below _ (s₁.setTop (mkF m 108 #[.val (.int c_)] []))
                                refine Goes.via (fun _ kk_ => XS.iloadN X0.here hx rfl (hb hby d14_108) rfl  kk_) ?_
                                show Goes p e below _ (s₁.setTop (mkF m 109 #[.val (.int c_)] [(.int c_)]))
                                refine Goes.via (fun _ kk_ => XS.bipush X0.here hx rfl (hb hby d14_109) kk_) ?_
                                show Goes p e below _ (s₁.setTop (mkF m 111 #[.val (.int c_)] [(.int (61 : Int32)), (.int c_)]))
                                by_cases hc111 : c_ = (61 : Int32)
                                · skip
                                  refine Goes.via (fun _ kk_ => XS.icmpYes X0.here hx rfl (pc0 := 111) (pc' := 144) rfl (hb hby d14_111) rfl (teq hc111).1 (by decide) (by decide) kk_) ?_
                                  show Goes p e below _ (s₁.setTop (mkF m 144 #[.val (.int c_)] []))
                                  refine Goes.via (fun _ kk_ => XS.iconst X0.here hx rfl (hb hby d14_144) kk_) ?_
                                  show Goes p e below _ (s₁.setTop (mkF m 145 #[.val (.int c_)] [(.int (1 : Int32))]))
                                  refine Goes.via (fun _ kk_ => XS.goto X0.here hx rfl (pc0 := 145) (pc' := 149) rfl (hb hby d14_145) (by decide) (by decide) kk_) ?_
                                  show Goes p e below _ (s₁.setTop (mkF m 149 #[.val (.int c_)] [(.int (1 : Int32))]))
                                  exact own_finN X0 hx hlk hret (by simp) (hb hby d14_149) (by rw [e0]; exact ⟨(by first | (rw [own_exp, if_neg hc3, if_pos hc9, if_pos hc17, if_pos hc31, if_neg hc45, if_neg hc51, if_neg hc57, if_neg hc63, if_neg hc69, if_neg hc75, if_neg hc81, if_neg hc87, if_neg hc93, if_neg hc99, if_neg hc105, if_pos hc111]; done) | (rw [own_exp, if_neg hc3, if_pos hc9, if_pos hc17, if_pos hc31, if_neg hc45, if_neg hc51, if_neg hc57, if_neg hc63, if_neg hc69, if_neg hc75, if_neg hc81, if_neg hc87, if_neg hc93, if_neg hc99, if_neg hc105, if_pos hc111]; rfl)), rfl, rfl⟩) (by first | decide | omega | (dsimp only; omega)) (by first | decide | omega | (dsimp only; omega))
                                · skip
                                  refine Goes.via (fun _ kk_ => XS.icmpNo X0.here hx rfl (hb hby d14_111) rfl (feq hc111).1 kk_) ?_
                                  show Goes p e below _ (s₁.setTop (mkF m 114 #[.val (.int c_)] []))
                                  refine Goes.via (fun _ kk_ => XS.iloadN X0.here hx rfl (hb hby d14_114) rfl  kk_) ?_
                                  show Goes p e below _ (s₁.setTop (mkF m 115 #[.val (.int c_)] [(.int c_)]))
                                  refine Goes.via (fun _ kk_ => XS.bipush X0.here hx rfl (hb hby d14_115) kk_) ?_
                                  show Goes p e below _ (s₁.setTop (mkF m 117 #[.val (.int c_)] [(.int (60 : Int32)), (.int c_)]))
                                  by_cases hc117 : c_ = (60 : Int32)
                                  · skip
                                    refine Goes.via (fun _ kk_ => XS.icmpYes X0.here hx rfl (pc0 := 117) (pc' := 144) rfl (hb hby d14_117) rfl (teq hc117).1 (by decide) (by decide) kk_) ?_
                                    show Goes p e below _ (s₁.setTop (mkF m 144 #[.val (.int c_)] []))
                                    refine Goes.via (fun _ kk_ => XS.iconst X0.here hx rfl (hb hby d14_144) kk_) ?_
                                    show Goes p e below _ (s₁.setTop (mkF m 145 #[.val (.int c_)] [(.int (1 : Int32))]))
                                    refine Goes.via (fun _ kk_ => XS.goto X0.here hx rfl (pc0 := 145) (pc' := 149) rfl (hb hby d14_145) (by decide) (by decide) kk_) ?_
                                    show Goes p e below _ (s₁.setTop (mkF m 149 #[.val (.int c_)] [(.int (1 : Int32))]))
                                    exact own_finN X0 hx hlk hret (by simp) (hb hby d14_149) (by rw [e0]; exact ⟨(by first | (rw [own_exp, if_neg hc3, if_pos hc9, if_pos hc17, if_pos hc31, if_neg hc45, if_neg hc51, if_neg hc57, if_neg hc63, if_neg hc69, if_neg hc75, if_neg hc81, if_neg hc87, if_neg hc93, if_neg hc99, if_neg hc105, if_neg hc111, if_pos hc117]; done) | (rw [own_exp, if_neg hc3, if_pos hc9, if_pos hc17, if_pos hc31, if_neg hc45, if_neg hc51, if_neg hc57, if_neg hc63, if_neg hc69, if_neg hc75, if_neg hc81, if_neg hc87, if_neg hc93, if_neg hc99, if_neg hc105, if_neg hc111, if_pos hc117]; rfl)), rfl, rfl⟩) (by first | decide | omega | (dsimp only; omega)) (by first | decide | omega | (dsimp only; omega))
                                  · skip
                                    refine Goes.via (fun _ kk_ => XS.icmpNo X0.here hx rfl (hb hby d14_117) rfl (feq hc117).1 kk_) ?_
                                    show Goes p e below _ (s₁.setTop (mkF m 120 #[.val (.int c_)] []))
                                    refine Goes.via (fun _ kk_ => XS.iloadN X0.here hx rfl (hb hby d14_120) rfl  kk_) ?_
                                    show Goes p e below _ (s₁.setTop (mkF m 121 #[.val (.int c_)] [(.int c_)]))
                                    refine Goes.via (fun _ kk_ => XS.bipush X0.here hx rfl (hb hby d14_121) kk_) ?_
                                    show Goes p e below _ (s₁.setTop (mkF m 123 #[.val (.int c_)] [(.int (62 : Int32)), (.int c_)]))
                                    by_cases hc123 : c_ = (62 : Int32)
                                    · skip
                                      refine Goes.via (fun _ kk_ => XS.icmpYes X0.here hx rfl (pc0 := 123) (pc' := 144) rfl (hb hby d14_123) rfl (teq hc123).1 (by decide) (by decide) kk_) ?_
                                      show Goes p e below _ (s₁.setTop (mkF m 144 #[.val (.int c_)] []))
                                      refine Goes.via (fun _ kk_ => XS.iconst X0.here hx rfl (hb hby d14_144) kk_) ?_
                                      show Goes p e below _ (s₁.setTop (mkF m 145 #[.val (.int c_)] [(.int (1 : Int32))]))
                                      refine Goes.via (fun _ kk_ => XS.goto X0.here hx rfl (pc0 := 145) (pc' := 149) rfl (hb hby d14_145) (by decide) (by decide) kk_) ?_
                                      show Goes p e below _ (s₁.setTop (mkF m 149 #[.val (.int c_)] [(.int (1 : Int32))]))
                                      exact own_finN X0 hx hlk hret (by simp) (hb hby d14_149) (by rw [e0]; exact ⟨(by first | (rw [own_exp, if_neg hc3, if_pos hc9, if_pos hc17, if_pos hc31, if_neg hc45, if_neg hc51, if_neg hc57, if_neg hc63, if_neg hc69, if_neg hc75, if_neg hc81, if_neg hc87, if_neg hc93, if_neg hc99, if_neg hc105, if_neg hc111, if_neg hc117, if_pos hc123]; done) | (rw [own_exp, if_neg hc3, if_pos hc9, if_pos hc17, if_pos hc31, if_neg hc45, if_neg hc51, if_neg hc57, if_neg hc63, if_neg hc69, if_neg hc75, if_neg hc81, if_neg hc87, if_neg hc93, if_neg hc99, if_neg hc105, if_neg hc111, if_neg hc117, if_pos hc123]; rfl)), rfl, rfl⟩) (by first | decide | omega | (dsimp only; omega)) (by first | decide | omega | (dsimp only; omega))
                                    · skip
                                      refine Goes.via (fun _ kk_ => XS.icmpNo X0.here hx rfl (hb hby d14_123) rfl (feq hc123).1 kk_) ?_
                                      show Goes p e below _ (s₁.setTop (mkF m 126 #[.val (.int c_)] []))
                                      refine Goes.via (fun _ kk_ => XS.iloadN X0.here hx rfl (hb hby d14_126) rfl  kk_) ?_
                                      show Goes p e below _ (s₁.setTop (mkF m 127 #[.val (.int c_)] [(.int c_)]))
                                      refine Goes.via (fun _ kk_ => XS.bipush X0.here hx rfl (hb hby d14_127) kk_) ?_
                                      show Goes p e below _ (s₁.setTop (mkF m 129 #[.val (.int c_)] [(.int (46 : Int32)), (.int c_)]))
                                      by_cases hc129 : c_ = (46 : Int32)
                                      · skip
                                        refine Goes.via (fun _ kk_ => XS.icmpYes X0.here hx rfl (pc0 := 129) (pc' := 144) rfl (hb hby d14_129) rfl (teq hc129).1 (by decide) (by decide) kk_) ?_
                                        show Goes p e below _ (s₁.setTop (mkF m 144 #[.val (.int c_)] []))
                                        refine Goes.via (fun _ kk_ => XS.iconst X0.here hx rfl (hb hby d14_144) kk_) ?_
                                        show Goes p e below _ (s₁.setTop (mkF m 145 #[.val (.int c_)] [(.int (1 : Int32))]))
                                        refine Goes.via (fun _ kk_ => XS.goto X0.here hx rfl (pc0 := 145) (pc' := 149) rfl (hb hby d14_145) (by decide) (by decide) kk_) ?_
                                        show Goes p e below _ (s₁.setTop (mkF m 149 #[.val (.int c_)] [(.int (1 : Int32))]))
                                        exact own_finN X0 hx hlk hret (by simp) (hb hby d14_149) (by rw [e0]; exact ⟨(by first | (rw [own_exp, if_neg hc3, if_pos hc9, if_pos hc17, if_pos hc31, if_neg hc45, if_neg hc51, if_neg hc57, if_neg hc63, if_neg hc69, if_neg hc75, if_neg hc81, if_neg hc87, if_neg hc93, if_neg hc99, if_neg hc105, if_neg hc111, if_neg hc117, if_neg hc123, if_pos hc129]; done) | (rw [own_exp, if_neg hc3, if_pos hc9, if_pos hc17, if_pos hc31, if_neg hc45, if_neg hc51, if_neg hc57, if_neg hc63, if_neg hc69, if_neg hc75, if_neg hc81, if_neg hc87, if_neg hc93, if_neg hc99, if_neg hc105, if_neg hc111, if_neg hc117, if_neg hc123, if_pos hc129]; rfl)), rfl, rfl⟩) (by first | decide | omega | (dsimp only; omega)) (by first | decide | omega | (dsimp only; omega))
                                      · skip
                                        refine Goes.via (fun _ kk_ => XS.icmpNo X0.here hx rfl (hb hby d14_129) rfl (feq hc129).1 kk_) ?_
                                        show Goes p e below _ (s₁.setTop (mkF m 132 #[.val (.int c_)] []))
                                        refine Goes.via (fun _ kk_ => XS.iloadN X0.here hx rfl (hb hby d14_132) rfl  kk_) ?_
                                        show Goes p e below _ (s₁.setTop (mkF m 133 #[.val (.int c_)] [(.int c_)]))
                                        refine Goes.via (fun _ kk_ => XS.bipush X0.here hx rfl (hb hby d14_133) kk_) ?_
                                        show Goes p e below _ (s₁.setTop (mkF m 135 #[.val (.int c_)] [(.int (63 : Int32)), (.int c_)]))
                                        by_cases hc135 : c_ = (63 : Int32)
                                        · skip
                                          refine Goes.via (fun _ kk_ => XS.icmpYes X0.here hx rfl (pc0 := 135) (pc' := 144) rfl (hb hby d14_135) rfl (teq hc135).1 (by decide) (by decide) kk_) ?_
                                          show Goes p e below _ (s₁.setTop (mkF m 144 #[.val (.int c_)] []))
                                          refine Goes.via (fun _ kk_ => XS.iconst X0.here hx rfl (hb hby d14_144) kk_) ?_
                                          show Goes p e below _ (s₁.setTop (mkF m 145 #[.val (.int c_)] [(.int (1 : Int32))]))
                                          refine Goes.via (fun _ kk_ => XS.goto X0.here hx rfl (pc0 := 145) (pc' := 149) rfl (hb hby d14_145) (by decide) (by decide) kk_) ?_
                                          show Goes p e below _ (s₁.setTop (mkF m 149 #[.val (.int c_)] [(.int (1 : Int32))]))
                                          exact own_finN X0 hx hlk hret (by simp) (hb hby d14_149) (by rw [e0]; exact ⟨(by first | (rw [own_exp, if_neg hc3, if_pos hc9, if_pos hc17, if_pos hc31, if_neg hc45, if_neg hc51, if_neg hc57, if_neg hc63, if_neg hc69, if_neg hc75, if_neg hc81, if_neg hc87, if_neg hc93, if_neg hc99, if_neg hc105, if_neg hc111, if_neg hc117, if_neg hc123, if_neg hc129, if_pos hc135]; done) | (rw [own_exp, if_neg hc3, if_pos hc9, if_pos hc17, if_pos hc31, if_neg hc45, if_neg hc51, if_neg hc57, if_neg hc63, if_neg hc69, if_neg hc75, if_neg hc81, if_neg hc87, if_neg hc93, if_neg hc99, if_neg hc105, if_neg hc111, if_neg hc117, if_neg hc123, if_neg hc129, if_pos hc135]; rfl)), rfl, rfl⟩) (by first | decide | omega | (dsimp only; omega)) (by first | decide | omega | (dsimp only; omega))
                                        · skip
                                          refine Goes.via (fun _ kk_ => XS.icmpNo X0.here hx rfl (hb hby d14_135) rfl (feq hc135).1 kk_) ?_
                                          show Goes p e below _ (s₁.setTop (mkF m 138 #[.val (.int c_)] []))
                                          refine Goes.via (fun _ kk_ => XS.iloadN X0.here hx rfl (hb hby d14_138) rfl  kk_) ?_
                                          show Goes p e below _ (s₁.setTop (mkF m 139 #[.val (.int c_)] [(.int c_)]))
                                          refine Goes.via (fun _ kk_ => XS.bipush X0.here hx rfl (hb hby d14_139) kk_) ?_
                                          show Goes p e below _ (s₁.setTop (mkF m 141 #[.val (.int c_)] [(.int (47 : Int32)), (.int c_)]))
                                          by_cases hc141 : c_ = (47 : Int32)
                                          · skip
                                            refine Goes.via (fun _ kk_ => XS.icmpNo X0.here hx rfl (hb hby d14_141) rfl (teq hc141).2 kk_) ?_
                                            show Goes p e below _ (s₁.setTop (mkF m 144 #[.val (.int c_)] []))
                                            refine Goes.via (fun _ kk_ => XS.iconst X0.here hx rfl (hb hby d14_144) kk_) ?_
                                            show Goes p e below _ (s₁.setTop (mkF m 145 #[.val (.int c_)] [(.int (1 : Int32))]))
                                            refine Goes.via (fun _ kk_ => XS.goto X0.here hx rfl (pc0 := 145) (pc' := 149) rfl (hb hby d14_145) (by decide) (by decide) kk_) ?_
                                            show Goes p e below _ (s₁.setTop (mkF m 149 #[.val (.int c_)] [(.int (1 : Int32))]))
                                            exact own_finN X0 hx hlk hret (by simp) (hb hby d14_149) (by rw [e0]; exact ⟨(by first | (rw [own_exp, if_neg hc3, if_pos hc9, if_pos hc17, if_pos hc31, if_neg hc45, if_neg hc51, if_neg hc57, if_neg hc63, if_neg hc69, if_neg hc75, if_neg hc81, if_neg hc87, if_neg hc93, if_neg hc99, if_neg hc105, if_neg hc111, if_neg hc117, if_neg hc123, if_neg hc129, if_neg hc135, if_pos hc141]; done) | (rw [own_exp, if_neg hc3, if_pos hc9, if_pos hc17, if_pos hc31, if_neg hc45, if_neg hc51, if_neg hc57, if_neg hc63, if_neg hc69, if_neg hc75, if_neg hc81, if_neg hc87, if_neg hc93, if_neg hc99, if_neg hc105, if_neg hc111, if_neg hc117, if_neg hc123, if_neg hc129, if_neg hc135, if_pos hc141]; rfl)), rfl, rfl⟩) (by first | decide | omega | (dsimp only; omega)) (by first | decide | omega | (dsimp only; omega))
                                          · skip
                                            refine Goes.via (fun _ kk_ => XS.icmpYes X0.here hx rfl (pc0 := 141) (pc' := 148) rfl (hb hby d14_141) rfl (feq hc141).2 (by decide) (by decide) kk_) ?_
                                            show Goes p e below _ (s₁.setTop (mkF m 148 #[.val (.int c_)] []))
                                            refine Goes.via (fun _ kk_ => XS.iconst X0.here hx rfl (hb hby d14_148) kk_) ?_
                                            show Goes p e below _ (s₁.setTop (mkF m 149 #[.val (.int c_)] [(.int (0 : Int32))]))
                                            exact own_finN X0 hx hlk hret (by simp) (hb hby d14_149) (by rw [e0]; exact ⟨(by first | (rw [own_exp, if_neg hc3, if_pos hc9, if_pos hc17, if_pos hc31, if_neg hc45, if_neg hc51, if_neg hc57, if_neg hc63, if_neg hc69, if_neg hc75, if_neg hc81, if_neg hc87, if_neg hc93, if_neg hc99, if_neg hc105, if_neg hc111, if_neg hc117, if_neg hc123, if_neg hc129, if_neg hc135, if_neg hc141]; done) | (rw [own_exp, if_neg hc3, if_pos hc9, if_pos hc17, if_pos hc31, if_neg hc45, if_neg hc51, if_neg hc57, if_neg hc63, if_neg hc69, if_neg hc75, if_neg hc81, if_neg hc87, if_neg hc93, if_neg hc99, if_neg hc105, if_neg hc111, if_neg hc117, if_neg hc123, if_neg hc129, if_neg hc135, if_neg hc141]; rfl)), rfl, rfl⟩) (by first | decide | omega | (dsimp only; omega)) (by first | decide | omega | (dsimp only; omega))
        · skip
          refine Goes.via (fun _ kk_ => XS.icmpNo X0.here hx rfl (hb hby d14_31) rfl (flt hc31).1 kk_) ?_
          show Goes p e below _ (s₁.setTop (mkF m 34 #[.val (.int c_)] []))
          refine Goes.via (fun _ kk_ => XS.iloadN X0.here hx rfl (hb hby d14_34) rfl  kk_) ?_
          show Goes p e below _ (s₁.setTop (mkF m 35 #[.val (.int c_)] [(.int c_)]))
          refine Goes.via (fun _ kk_ => XS.bipush X0.here hx rfl (hb hby d14_35) kk_) ?_
          show Goes p e below _ (s₁.setTop (mkF m 37 #[.val (.int c_)] [(.int (57 : Int32)), (.int c_)]))
          by_cases hc37 : (57 : Int32) < c_
          · skip
            refine Goes.via (fun _ kk_ => XS.icmpYes X0.here hx rfl (pc0 := 37) (pc' := 42) rfl (hb hby d14_37) rfl (tlt hc37).2.2.1 (by decide) (by decide) kk_) ?_
            show Goes p e below _ (s₁.setTop (mkF m 42 #[.val (.int c_)] []))
            refine Goes.via (fun _ kk_ => XS.iloadN X0.here hx rfl (hb hby d14_42) rfl  kk_) ?_
            show Goes p e below _ (s₁.setTop (mkF m 43 #[.val (.int c_)] [(.int c_)]))
            refine Goes.via (fun _ kk_ => XS.bipush X0.here hx rfl (hb hby d14_43) kk_) ?_
            show Goes p e below _ (s₁.setTop (mkF m 45 #[.val (.int c_)] [(.int (126 : Int32)), (.int c_)]))
            by_cases hc45 : c_ = (126 : Int32)
            · skip
              refine Goes.via (fun _ kk_ => XS.icmpYes X0.here hx rfl (pc0 := 45) (pc' := 144) rfl (hb hby d14_45) rfl (teq hc45).1 (by decide) (by decide) kk_) ?_
              show Goes p e below _ (s₁.setTop (mkF m 144 #[.val (.int c_)] []))
              refine Goes.via (fun _ kk_ => XS.iconst X0.here hx rfl (hb hby d14_144) kk_) ?_
              show Goes p e below _ (s₁.setTop (mkF m 145 #[.val (.int c_)] [(.int (1 : Int32))]))
              refine Goes.via (fun _ kk_ => XS.goto X0.here hx rfl (pc0 := 145) (pc' := 149) rfl (hb hby d14_145) (by decide) (by decide) kk_) ?_
              show Goes p e below _ (s₁.setTop (mkF m 149 #[.val (.int c_)] [(.int (1 : Int32))]))
              exact own_finN X0 hx hlk hret (by simp) (hb hby d14_149) (by rw [e0]; exact ⟨(by first | (rw [own_exp, if_neg hc3, if_pos hc9, if_pos hc17, if_neg hc31, if_pos hc37, if_pos hc45]; done) | (rw [own_exp, if_neg hc3, if_pos hc9, if_pos hc17, if_neg hc31, if_pos hc37, if_pos hc45]; rfl)), rfl, rfl⟩) (by first | decide | omega | (dsimp only; omega)) (by first | decide | omega | (dsimp only; omega))
            · skip
              refine Goes.via (fun _ kk_ => XS.icmpNo X0.here hx rfl (hb hby d14_45) rfl (feq hc45).1 kk_) ?_
              show Goes p e below _ (s₁.setTop (mkF m 48 #[.val (.int c_)] []))
              refine Goes.via (fun _ kk_ => XS.iloadN X0.here hx rfl (hb hby d14_48) rfl  kk_) ?_
              show Goes p e below _ (s₁.setTop (mkF m 49 #[.val (.int c_)] [(.int c_)]))
              refine Goes.via (fun _ kk_ => XS.bipush X0.here hx rfl (hb hby d14_49) kk_) ?_
              show Goes p e below _ (s₁.setTop (mkF m 51 #[.val (.int c_)] [(.int (33 : Int32)), (.int c_)]))
              by_cases hc51 : c_ = (33 : Int32)
              · skip
                refine Goes.via (fun _ kk_ => XS.icmpYes X0.here hx rfl (pc0 := 51) (pc' := 144) rfl (hb hby d14_51) rfl (teq hc51).1 (by decide) (by decide) kk_) ?_
                show Goes p e below _ (s₁.setTop (mkF m 144 #[.val (.int c_)] []))
                refine Goes.via (fun _ kk_ => XS.iconst X0.here hx rfl (hb hby d14_144) kk_) ?_
                show Goes p e below _ (s₁.setTop (mkF m 145 #[.val (.int c_)] [(.int (1 : Int32))]))
                refine Goes.via (fun _ kk_ => XS.goto X0.here hx rfl (pc0 := 145) (pc' := 149) rfl (hb hby d14_145) (by decide) (by decide) kk_) ?_
                show Goes p e below _ (s₁.setTop (mkF m 149 #[.val (.int c_)] [(.int (1 : Int32))]))
                exact own_finN X0 hx hlk hret (by simp) (hb hby d14_149) (by rw [e0]; exact ⟨(by first | (rw [own_exp, if_neg hc3, if_pos hc9, if_pos hc17, if_neg hc31, if_pos hc37, if_neg hc45, if_pos hc51]; done) | (rw [own_exp, if_neg hc3, if_pos hc9, if_pos hc17, if_neg hc31, if_pos hc37, if_neg hc45, if_pos hc51]; rfl)), rfl, rfl⟩) (by first | decide | omega | (dsimp only; omega)) (by first | decide | omega | (dsimp only; omega))
              · skip
                refine Goes.via (fun _ kk_ => XS.icmpNo X0.here hx rfl (hb hby d14_51) rfl (feq hc51).1 kk_) ?_
                show Goes p e below _ (s₁.setTop (mkF m 54 #[.val (.int c_)] []))
                refine Goes.via (fun _ kk_ => XS.iloadN X0.here hx rfl (hb hby d14_54) rfl  kk_) ?_
                show Goes p e below _ (s₁.setTop (mkF m 55 #[.val (.int c_)] [(.int c_)]))
                refine Goes.via (fun _ kk_ => XS.bipush X0.here hx rfl (hb hby d14_55) kk_) ?_
                show Goes p e below _ (s₁.setTop (mkF m 57 #[.val (.int c_)] [(.int (64 : Int32)), (.int c_)]))
                by_cases hc57 : c_ = (64 : Int32)
                · skip
                  refine Goes.via (fun _ kk_ => XS.icmpYes X0.here hx rfl (pc0 := 57) (pc' := 144) rfl (hb hby d14_57) rfl (teq hc57).1 (by decide) (by decide) kk_) ?_
                  show Goes p e below _ (s₁.setTop (mkF m 144 #[.val (.int c_)] []))
                  refine Goes.via (fun _ kk_ => XS.iconst X0.here hx rfl (hb hby d14_144) kk_) ?_
                  show Goes p e below _ (s₁.setTop (mkF m 145 #[.val (.int c_)] [(.int (1 : Int32))]))
                  refine Goes.via (fun _ kk_ => XS.goto X0.here hx rfl (pc0 := 145) (pc' := 149) rfl (hb hby d14_145) (by decide) (by decide) kk_) ?_
                  show Goes p e below _ (s₁.setTop (mkF m 149 #[.val (.int c_)] [(.int (1 : Int32))]))
                  exact own_finN X0 hx hlk hret (by simp) (hb hby d14_149) (by rw [e0]; exact ⟨(by first | (rw [own_exp, if_neg hc3, if_pos hc9, if_pos hc17, if_neg hc31, if_pos hc37, if_neg hc45, if_neg hc51, if_pos hc57]; done) | (rw [own_exp, if_neg hc3, if_pos hc9, if_pos hc17, if_neg hc31, if_pos hc37, if_neg hc45, if_neg hc51, if_pos hc57]; rfl)), rfl, rfl⟩) (by first | decide | omega | (dsimp only; omega)) (by first | decide | omega | (dsimp only; omega))
                · skip
                  refine Goes.via (fun _ kk_ => XS.icmpNo X0.here hx rfl (hb hby d14_57) rfl (feq hc57).1 kk_) ?_
                  show Goes p e below _ (s₁.setTop (mkF m 60 #[.val (.int c_)] []))
                  refine Goes.via (fun _ kk_ => XS.iloadN X0.here hx rfl (hb hby d14_60) rfl  kk_) ?_
                  show Goes p e below _ (s₁.setTop (mkF m 61 #[.val (.int c_)] [(.int c_)]))
                  refine Goes.via (fun _ kk_ => XS.bipush X0.here hx rfl (hb hby d14_61) kk_) ?_
                  show Goes p e below _ (s₁.setTop (mkF m 63 #[.val (.int c_)] [(.int (36 : Int32)), (.int c_)]))
                  by_cases hc63 : c_ = (36 : Int32)
                  · skip
                    refine Goes.via (fun _ kk_ => XS.icmpYes X0.here hx rfl (pc0 := 63) (pc' := 144) rfl (hb hby d14_63) rfl (teq hc63).1 (by decide) (by decide) kk_) ?_
                    show Goes p e below _ (s₁.setTop (mkF m 144 #[.val (.int c_)] []))
                    refine Goes.via (fun _ kk_ => XS.iconst X0.here hx rfl (hb hby d14_144) kk_) ?_
                    show Goes p e below _ (s₁.setTop (mkF m 145 #[.val (.int c_)] [(.int (1 : Int32))]))
                    refine Goes.via (fun _ kk_ => XS.goto X0.here hx rfl (pc0 := 145) (pc' := 149) rfl (hb hby d14_145) (by decide) (by decide) kk_) ?_
                    show Goes p e below _ (s₁.setTop (mkF m 149 #[.val (.int c_)] [(.int (1 : Int32))]))
                    exact own_finN X0 hx hlk hret (by simp) (hb hby d14_149) (by rw [e0]; exact ⟨(by first | (rw [own_exp, if_neg hc3, if_pos hc9, if_pos hc17, if_neg hc31, if_pos hc37, if_neg hc45, if_neg hc51, if_neg hc57, if_pos hc63]; done) | (rw [own_exp, if_neg hc3, if_pos hc9, if_pos hc17, if_neg hc31, if_pos hc37, if_neg hc45, if_neg hc51, if_neg hc57, if_pos hc63]; rfl)), rfl, rfl⟩) (by first | decide | omega | (dsimp only; omega)) (by first | decide | omega | (dsimp only; omega))
                  · skip
                    refine Goes.via (fun _ kk_ => XS.icmpNo X0.here hx rfl (hb hby d14_63) rfl (feq hc63).1 kk_) ?_
                    show Goes p e below _ (s₁.setTop (mkF m 66 #[.val (.int c_)] []))
                    refine Goes.via (fun _ kk_ => XS.iloadN X0.here hx rfl (hb hby d14_66) rfl  kk_) ?_
                    show Goes p e below _ (s₁.setTop (mkF m 67 #[.val (.int c_)] [(.int c_)]))
                    refine Goes.via (fun _ kk_ => XS.bipush X0.here hx rfl (hb hby d14_67) kk_) ?_
                    show Goes p e below _ (s₁.setTop (mkF m 69 #[.val (.int c_)] [(.int (37 : Int32)), (.int c_)]))
                    by_cases hc69 : c_ = (37 : Int32)
                    · skip
                      refine Goes.via (fun _ kk_ => XS.icmpYes X0.here hx rfl (pc0 := 69) (pc' := 144) rfl (hb hby d14_69) rfl (teq hc69).1 (by decide) (by decide) kk_) ?_
                      show Goes p e below _ (s₁.setTop (mkF m 144 #[.val (.int c_)] []))
                      refine Goes.via (fun _ kk_ => XS.iconst X0.here hx rfl (hb hby d14_144) kk_) ?_
                      show Goes p e below _ (s₁.setTop (mkF m 145 #[.val (.int c_)] [(.int (1 : Int32))]))
                      refine Goes.via (fun _ kk_ => XS.goto X0.here hx rfl (pc0 := 145) (pc' := 149) rfl (hb hby d14_145) (by decide) (by decide) kk_) ?_
                      show Goes p e below _ (s₁.setTop (mkF m 149 #[.val (.int c_)] [(.int (1 : Int32))]))
                      exact own_finN X0 hx hlk hret (by simp) (hb hby d14_149) (by rw [e0]; exact ⟨(by first | (rw [own_exp, if_neg hc3, if_pos hc9, if_pos hc17, if_neg hc31, if_pos hc37, if_neg hc45, if_neg hc51, if_neg hc57, if_neg hc63, if_pos hc69]; done) | (rw [own_exp, if_neg hc3, if_pos hc9, if_pos hc17, if_neg hc31, if_pos hc37, if_neg hc45, if_neg hc51, if_neg hc57, if_neg hc63, if_pos hc69]; rfl)), rfl, rfl⟩) (by first | decide | omega | (dsimp only; omega)) (by first | decide | omega | (dsimp only; omega))
                    · skip
                      refine Goes.via (fun _ kk_ => XS.icmpNo X0.here hx rfl (hb hby d14_69) rfl (feq hc69).1 kk_) ?_
                      show Goes p e below _ (s₁.setTop (mkF m 72 #[.val (.int c_)] []))
                      refine Goes.via (fun _ kk_ => XS.iloadN X0.here hx rfl (hb hby d14_72) rfl  kk_) ?_
                      show Goes p e below _ (s₁.setTop (mkF m 73 #[.val (.int c_)] [(.int c_)]))
                      refine Goes.via (fun _ kk_ => XS.bipush X0.here hx rfl (hb hby d14_73) kk_) ?_
                      show Goes p e below _ (s₁.setTop (mkF m 75 #[.val (.int c_)] [(.int (94 : Int32)), (.int c_)]))
                      by_cases hc75 : c_ = (94 : Int32)
                      · skip
                        refine Goes.via (fun _ kk_ => XS.icmpYes X0.here hx rfl (pc0 := 75) (pc' := 144) rfl (hb hby d14_75) rfl (teq hc75).1 (by decide) (by decide) kk_) ?_
                        show Goes p e below _ (s₁.setTop (mkF m 144 #[.val (.int c_)] []))
                        refine Goes.via (fun _ kk_ => XS.iconst X0.here hx rfl (hb hby d14_144) kk_) ?_
                        show Goes p e below _ (s₁.setTop (mkF m 145 #[.val (.int c_)] [(.int (1 : Int32))]))
                        refine Goes.via (fun _ kk_ => XS.goto X0.here hx rfl (pc0 := 145) (pc' := 149) rfl (hb hby d14_145) (by decide) (by decide) kk_) ?_
                        show Goes p e below _ (s₁.setTop (mkF m 149 #[.val (.int c_)] [(.int (1 : Int32))]))
                        exact own_finN X0 hx hlk hret (by simp) (hb hby d14_149) (by rw [e0]; exact ⟨(by first | (rw [own_exp, if_neg hc3, if_pos hc9, if_pos hc17, if_neg hc31, if_pos hc37, if_neg hc45, if_neg hc51, if_neg hc57, if_neg hc63, if_neg hc69, if_pos hc75]; done) | (rw [own_exp, if_neg hc3, if_pos hc9, if_pos hc17, if_neg hc31, if_pos hc37, if_neg hc45, if_neg hc51, if_neg hc57, if_neg hc63, if_neg hc69, if_pos hc75]; rfl)), rfl, rfl⟩) (by first | decide | omega | (dsimp only; omega)) (by first | decide | omega | (dsimp only; omega))
                      · skip
                        refine Goes.via (fun _ kk_ => XS.icmpNo X0.here hx rfl (hb hby d14_75) rfl (feq hc75).1 kk_) ?_
                        show Goes p e below _ (s₁.setTop (mkF m 78 #[.val (.int c_)] []))
                        refine Goes.via (fun _ kk_ => XS.iloadN X0.here hx rfl (hb hby d14_78) rfl  kk_) ?_
                        show Goes p e below _ (s₁.setTop (mkF m 79 #[.val (.int c_)] [(.int c_)]))
                        refine Goes.via (fun _ kk_ => XS.bipush X0.here hx rfl (hb hby d14_79) kk_) ?_
                        show Goes p e below _ (s₁.setTop (mkF m 81 #[.val (.int c_)] [(.int (38 : Int32)), (.int c_)]))
                        by_cases hc81 : c_ = (38 : Int32)
                        · skip
                          refine Goes.via (fun _ kk_ => XS.icmpYes X0.here hx rfl (pc0 := 81) (pc' := 144) rfl (hb hby d14_81) rfl (teq hc81).1 (by decide) (by decide) kk_) ?_
                          show Goes p e below _ (s₁.setTop (mkF m 144 #[.val (.int c_)] []))
                          refine Goes.via (fun _ kk_ => XS.iconst X0.here hx rfl (hb hby d14_144) kk_) ?_
                          show Goes p e below _ (s₁.setTop (mkF m 145 #[.val (.int c_)] [(.int (1 : Int32))]))
                          refine Goes.via (fun _ kk_ => XS.goto X0.here hx rfl (pc0 := 145) (pc' := 149) rfl (hb hby d14_145) (by decide) (by decide) kk_) ?_
                          show Goes p e below _ (s₁.setTop (mkF m 149 #[.val (.int c_)] [(.int (1 : Int32))]))
                          exact own_finN X0 hx hlk hret (by simp) (hb hby d14_149) (by rw [e0]; exact ⟨(by first | (rw [own_exp, if_neg hc3, if_pos hc9, if_pos hc17, if_neg hc31, if_pos hc37, if_neg hc45, if_neg hc51, if_neg hc57, if_neg hc63, if_neg hc69, if_neg hc75, if_pos hc81]; done) | (rw [own_exp, if_neg hc3, if_pos hc9, if_pos hc17, if_neg hc31, if_pos hc37, if_neg hc45, if_neg hc51, if_neg hc57, if_neg hc63, if_neg hc69, if_neg hc75, if_pos hc81]; rfl)), rfl, rfl⟩) (by first | decide | omega | (dsimp only; omega)) (by first | decide | omega | (dsimp only; omega))
                        · skip
                          refine Goes.via (fun _ kk_ => XS.icmpNo X0.here hx rfl (hb hby d14_81) rfl (feq hc81).1 kk_) ?_
                          show Goes p e below _ (s₁.setTop (mkF m 84 #[.val (.int c_)] []))
                          refine Goes.via (fun _ kk_ => XS.iloadN X0.here hx rfl (hb hby d14_84) rfl  kk_) ?_
                          show Goes p e below _ (s₁.setTop (mkF m 85 #[.val (.int c_)] [(.int c_)]))
                          refine Goes.via (fun _ kk_ => XS.bipush X0.here hx rfl (hb hby d14_85) kk_) ?_
                          show Goes p e below _ (s₁.setTop (mkF m 87 #[.val (.int c_)] [(.int (42 : Int32)), (.int c_)]))
                          by_cases hc87 : c_ = (42 : Int32)
                          · skip
                            refine Goes.via (fun _ kk_ => XS.icmpYes X0.here hx rfl (pc0 := 87) (pc' := 144) rfl (hb hby d14_87) rfl (teq hc87).1 (by decide) (by decide) kk_) ?_
                            show Goes p e below _ (s₁.setTop (mkF m 144 #[.val (.int c_)] []))
                            refine Goes.via (fun _ kk_ => XS.iconst X0.here hx rfl (hb hby d14_144) kk_) ?_
                            show Goes p e below _ (s₁.setTop (mkF m 145 #[.val (.int c_)] [(.int (1 : Int32))]))
                            refine Goes.via (fun _ kk_ => XS.goto X0.here hx rfl (pc0 := 145) (pc' := 149) rfl (hb hby d14_145) (by decide) (by decide) kk_) ?_
                            show Goes p e below _ (s₁.setTop (mkF m 149 #[.val (.int c_)] [(.int (1 : Int32))]))
                            exact own_finN X0 hx hlk hret (by simp) (hb hby d14_149) (by rw [e0]; exact ⟨(by first | (rw [own_exp, if_neg hc3, if_pos hc9, if_pos hc17, if_neg hc31, if_pos hc37, if_neg hc45, if_neg hc51, if_neg hc57, if_neg hc63, if_neg hc69, if_neg hc75, if_neg hc81, if_pos hc87]; done) | (rw [own_exp, if_neg hc3, if_pos hc9, if_pos hc17, if_neg hc31, if_pos hc37, if_neg hc45, if_neg hc51, if_neg hc57, if_neg hc63, if_neg hc69, if_neg hc75, if_neg hc81, if_pos hc87]; rfl)), rfl, rfl⟩) (by first | decide | omega | (dsimp only; omega)) (by first | decide | omega | (dsimp only; omega))
                          · skip
                            refine Goes.via (fun _ kk_ => XS.icmpNo X0.here hx rfl (hb hby d14_87) rfl (feq hc87).1 kk_) ?_
                            show Goes p e below _ (s₁.setTop (mkF m 90 #[.val (.int c_)] []))
                            refine Goes.via (fun _ kk_ => XS.iloadN X0.here hx rfl (hb hby d14_90) rfl  kk_) ?_
                            show Goes p e below _ (s₁.setTop (mkF m 91 #[.val (.int c_)] [(.int c_)]))
                            refine Goes.via (fun _ kk_ => XS.bipush X0.here hx rfl (hb hby d14_91) kk_) ?_
                            show Goes p e below _ (s₁.setTop (mkF m 93 #[.val (.int c_)] [(.int (95 : Int32)), (.int c_)]))
                            by_cases hc93 : c_ = (95 : Int32)
                            · skip
                              refine Goes.via (fun _ kk_ => XS.icmpYes X0.here hx rfl (pc0 := 93) (pc' := 144) rfl (hb hby d14_93) rfl (teq hc93).1 (by decide) (by decide) kk_) ?_
                              show Goes p e below _ (s₁.setTop (mkF m 144 #[.val (.int c_)] []))
                              refine Goes.via (fun _ kk_ => XS.iconst X0.here hx rfl (hb hby d14_144) kk_) ?_
                              show Goes p e below _ (s₁.setTop (mkF m 145 #[.val (.int c_)] [(.int (1 : Int32))]))
                              refine Goes.via (fun _ kk_ => XS.goto X0.here hx rfl (pc0 := 145) (pc' := 149) rfl (hb hby d14_145) (by decide) (by decide) kk_) ?_
                              show Goes p e below _ (s₁.setTop (mkF m 149 #[.val (.int c_)] [(.int (1 : Int32))]))
                              exact own_finN X0 hx hlk hret (by simp) (hb hby d14_149) (by rw [e0]; exact ⟨(by first | (rw [own_exp, if_neg hc3, if_pos hc9, if_pos hc17, if_neg hc31, if_pos hc37, if_neg hc45, if_neg hc51, if_neg hc57, if_neg hc63, if_neg hc69, if_neg hc75, if_neg hc81, if_neg hc87, if_pos hc93]; done) | (rw [own_exp, if_neg hc3, if_pos hc9, if_pos hc17, if_neg hc31, if_pos hc37, if_neg hc45, if_neg hc51, if_neg hc57, if_neg hc63, if_neg hc69, if_neg hc75, if_neg hc81, if_neg hc87, if_pos hc93]; rfl)), rfl, rfl⟩) (by first | decide | omega | (dsimp only; omega)) (by first | decide | omega | (dsimp only; omega))
                            · skip
                              refine Goes.via (fun _ kk_ => XS.icmpNo X0.here hx rfl (hb hby d14_93) rfl (feq hc93).1 kk_) ?_
                              show Goes p e below _ (s₁.setTop (mkF m 96 #[.val (.int c_)] []))
                              refine Goes.via (fun _ kk_ => XS.iloadN X0.here hx rfl (hb hby d14_96) rfl  kk_) ?_
                              show Goes p e below _ (s₁.setTop (mkF m 97 #[.val (.int c_)] [(.int c_)]))
                              refine Goes.via (fun _ kk_ => XS.bipush X0.here hx rfl (hb hby d14_97) kk_) ?_
                              show Goes p e below _ (s₁.setTop (mkF m 99 #[.val (.int c_)] [(.int (45 : Int32)), (.int c_)]))
                              by_cases hc99 : c_ = (45 : Int32)
                              · skip
                                refine Goes.via (fun _ kk_ => XS.icmpYes X0.here hx rfl (pc0 := 99) (pc' := 144) rfl (hb hby d14_99) rfl (teq hc99).1 (by decide) (by decide) kk_) ?_
                                show Goes p e below _ (s₁.setTop (mkF m 144 #[.val (.int c_)] []))
                                refine Goes.via (fun _ kk_ => XS.iconst X0.here hx rfl (hb hby d14_144) kk_) ?_
                                show Goes p e below _ (s₁.setTop (mkF m 145 #[.val (.int c_)] [(.int (1 : Int32))]))
                                refine Goes.via (fun _ kk_ => XS.goto X0.here hx rfl (pc0 := 145) (pc' := 149) rfl (hb hby d14_145) (by decide) (by decide) kk_) ?_
                                show Goes p e below _ (s₁.setTop (mkF m 149 #[.val (.int c_)] [(.int (1 : Int32))]))
                                exact own_finN X0 hx hlk hret (by simp) (hb hby d14_149) (by rw [e0]; exact ⟨(by first | (rw [own_exp, if_neg hc3, if_pos hc9, if_pos hc17, if_neg hc31, if_pos hc37, if_neg hc45, if_neg hc51, if_neg hc57, if_neg hc63, if_neg hc69, if_neg hc75, if_neg hc81, if_neg hc87, if_neg hc93, if_pos hc99]; done) | (rw [own_exp, if_neg hc3, if_pos hc9, if_pos hc17, if_neg hc31, if_pos hc37, if_neg hc45, if_neg hc51, if_neg hc57, if_neg hc63, if_neg hc69, if_neg hc75, if_neg hc81, if_neg hc87, if_neg hc93, if_pos hc99]; rfl)), rfl, rfl⟩) (by first | decide | omega | (dsimp only; omega)) (by first | decide | omega | (dsimp only; omega))
                              · skip
                                refine Goes.via (fun _ kk_ => XS.icmpNo X0.here hx rfl (hb hby d14_99) rfl (feq hc99).1 kk_) ?_
                                show Goes p e below _ (s₁.setTop (mkF m 102 #[.val (.int c_)] []))
                                refine Goes.via (fun _ kk_ => XS.iloadN X0.here hx rfl (hb hby d14_102) rfl  kk_) ?_
                                show Goes p e below _ (s₁.setTop (mkF m 103 #[.val (.int c_)] [(.int c_)]))
                                refine Goes.via (fun _ kk_ => XS.bipush X0.here hx rfl (hb hby d14_103) kk_) ?_
                                show Goes p e below _ (s₁.setTop (mkF m 105 #[.val (.int c_)] [(.int (43 : Int32)), (.int c_)]))
                                by_cases hc105 : c_ = (43 : Int32)
                                · skip
                                  refine Goes.via (fun _ kk_ => XS.icmpYes X0.here hx rfl (pc0 := 105) (pc' := 144) rfl (hb hby d14_105) rfl (teq hc105).1 (by decide) (by decide) kk_) ?_
                                  show Goes p e below _ (s₁.setTop (mkF m 144 #[.val (.int c_)] []))
                                  refine Goes.via (fun _ kk_ => XS.iconst X0.here hx rfl (hb hby d14_144) kk_) ?_
                                  show Goes p e below _ (s₁.setTop (mkF m 145 #[.val (.int c_)] [(.int (1 : Int32))]))
                                  refine Goes.via (fun _ kk_ => XS.goto X0.here hx rfl (pc0 := 145) (pc' := 149) rfl (hb hby d14_145) (by decide) (by decide) kk_) ?_
                                  show Goes p e below _ (s₁.setTop (mkF m 149 #[.val (.int c_)] [(.int (1 : Int32))]))
                                  exact own_finN X0 hx hlk hret (by simp) (hb hby d14_149) (by rw [e0]; exact ⟨(by first | (rw [own_exp, if_neg hc3, if_pos hc9, if_pos hc17, if_neg hc31, if_pos hc37, if_neg hc45, if_neg hc51, if_neg hc57, if_neg hc63, if_neg hc69, if_neg hc75, if_neg hc81, if_neg hc87, if_neg hc93, if_neg hc99, if_pos hc105]; done) | (rw [own_exp, if_neg hc3, if_pos hc9, if_pos hc17, if_neg hc31, if_pos hc37, if_neg hc45, if_neg hc51, if_neg hc57, if_neg hc63, if_neg hc69, if_neg hc75, if_neg hc81, if_neg hc87, if_neg hc93, if_neg hc99, if_pos hc105]; rfl)), rfl, rfl⟩) (by first | decide | omega | (dsimp only; omega)) (by first | decide | omega | (dsimp only; omega))
                                · skip
                                  refine Goes.via (fun _ kk_ => XS.icmpNo X0.here hx rfl (hb hby d14_105) rfl (feq hc105).1 kk_) ?_
                                  show Goes p e below _ (s₁.setTop (mkF m 108 #[.val (.int c_)] []))
                                  refine Goes.via (fun _ kk_ => XS.iloadN X0.here hx rfl (hb hby d14_108) rfl  kk_) ?_
                                  show Goes p e below _ (s₁.setTop (mkF m 109 #[.val (.int c_)] [(.int c_)]))
                                  refine Goes.via (fun _ kk_ => XS.bipush X0.here hx rfl (hb hby d14_109) kk_) ?_
                                  show Goes p e below _ (s₁.setTop (mkF m 111 #[.val (.int c_)] [(.int (61 : Int32)), (.int c_)]))
                                  by_cases hc111 : c_ = (61 : Int32)
                                  · skip
                                    refine Goes.via (fun _ kk_ => XS.icmpYes X0.here hx rfl (pc0 := 111) (pc' := 144) rfl (hb hby d14_111) rfl (teq hc111).1 (by decide) (by decide) kk_) ?_
                                    show Goes p e below _ (s₁.setTop (mkF m 144 #[.val (.int c_)] []))
                                    refine Goes.via (fun _ kk_ => XS.iconst X0.here hx rfl (hb hby d14_144) kk_) ?_
                                    show Goes p e below _ (s₁.setTop (mkF m 145 #[.val (.int c_)] [(.int (1 : Int32))]))
                                    refine Goes.via (fun _ kk_ => XS.goto X0.here hx rfl (pc0 := 145) (pc' := 149) rfl (hb hby d14_145) (by decide) (by decide) kk_) ?_
                                    show Goes p e below _ (s₁.setTop (mkF m 149 #[.val (.int c_)] [(.int (1 : Int32))]))
                                    exact own_finN X0 hx hlk hret (by simp) (hb hby d14_149) (by rw [e0]; exact ⟨(by first | (rw [own_exp, if_neg hc3, if_pos hc9, if_pos hc17, if_neg hc31, if_pos hc37, if_neg hc45, if_neg hc51, if_neg hc57, if_neg hc63, if_neg hc69, if_neg hc75, if_neg hc81, if_neg hc87, if_neg hc93, if_neg hc99, if_neg hc105, if_pos hc111]; done) | (rw [own_exp, if_neg hc3, if_pos hc9, if_pos hc17, if_neg hc31, if_pos hc37, if_neg hc45, if_neg hc51, if_neg hc57, if_neg hc63, if_neg hc69, if_neg hc75, if_neg hc81, if_neg hc87, if_neg hc93, if_neg hc99, if_neg hc105, if_pos hc111]; rfl)), rfl, rfl⟩) (by first | decide | omega | (dsimp only; omega)) (by first | decide | omega | (dsimp only; omega))
                                  · skip
                                    refine Goes.via (fun _ kk_ => XS.icmpNo X0.here hx rfl (hb hby d14_111) rfl (feq hc111).1 kk_) ?_
                                    show Goes p e below _ (s₁.setTop (mkF m 114 #[.val (.int c_)] []))
                                    refine Goes.via (fun _ kk_ => XS.iloadN X0.here hx rfl (hb hby d14_114) rfl  kk_) ?_
                                    show Goes p e below _ (s₁.setTop (mkF m 115 #[.val (.int c_)] [(.int c_)]))
                                    refine Goes.via (fun _ kk_ => XS.bipush X0.here hx rfl (hb hby d14_115) kk_) ?_
                                    show Goes p e below _ (s₁.setTop (mkF m 117 #[.val (.int c_)] [(.int (60 : Int32)), (.int c_)]))
                                    by_cases hc117 : c_ = (60 : Int32)
                                    · skip
                                      refine Goes.via (fun _ kk_ => XS.icmpYes X0.here hx rfl (pc0 := 117) (pc' := 144) rfl (hb hby d14_117) rfl (teq hc117).1 (by decide) (by decide) kk_) ?_
                                      show Goes p e below _ (s₁.setTop (mkF m 144 #[.val (.int c_)] []))
                                      refine Goes.via (fun _ kk_ => XS.iconst X0.here hx rfl (hb hby d14_144) kk_) ?_
                                      show Goes p e below _ (s₁.setTop (mkF m 145 #[.val (.int c_)] [(.int (1 : Int32))]))
                                      refine Goes.via (fun _ kk_ => XS.goto X0.here hx rfl (pc0 := 145) (pc' := 149) rfl (hb hby d14_145) (by decide) (by decide) kk_) ?_
                                      show Goes p e below _ (s₁.setTop (mkF m 149 #[.val (.int c_)] [(.int (1 : Int32))]))
                                      exact own_finN X0 hx hlk hret (by simp) (hb hby d14_149) (by rw [e0]; exact ⟨(by first | (rw [own_exp, if_neg hc3, if_pos hc9, if_pos hc17, if_neg hc31, if_pos hc37, if_neg hc45, if_neg hc51, if_neg hc57, if_neg hc63, if_neg hc69, if_neg hc75, if_neg hc81, if_neg hc87, if_neg hc93, if_neg hc99, if_neg hc105, if_neg hc111, if_pos hc117]; done) | (rw [own_exp, if_neg hc3, if_pos hc9, if_pos hc17, if_neg hc31, if_pos hc37, if_neg hc45, if_neg hc51, if_neg hc57, if_neg hc63, if_neg hc69, if_neg hc75, if_neg hc81, if_neg hc87, if_neg hc93, if_neg hc99, if_neg hc105, if_neg hc111, if_pos hc117]; rfl)), rfl, rfl⟩) (by first | decide | omega | (dsimp only; omega)) (by first | decide | omega | (dsimp only; omega))
                                    · skip
                                      refine Goes.via (fun _ kk_ => XS.icmpNo X0.here hx rfl (hb hby d14_117) rfl (feq hc117).1 kk_) ?_
                                      show Goes p e below _ (s₁.setTop (mkF m 120 #[.val (.int c_)] []))
                                      refine Goes.via (fun _ kk_ => XS.iloadN X0.here hx rfl (hb hby d14_120) rfl  kk_) ?_
                                      show Goes p e below _ (s₁.setTop (mkF m 121 #[.val (.int c_)] [(.int c_)]))
                                      refine Goes.via (fun _ kk_ => XS.bipush X0.here hx rfl (hb hby d14_121) kk_) ?_
                                      show Goes p e below _ (s₁.setTop (mkF m 123 #[.val (.int c_)] [(.int (62 : Int32)), (.int c_)]))
                                      by_cases hc123 : c_ = (62 : Int32)
                                      · skip
                                        refine Goes.via (fun _ kk_ => XS.icmpYes X0.here hx rfl (pc0 := 123) (pc' := 144) rfl (hb hby d14_123) rfl (teq hc123).1 (by decide) (by decide) kk_) ?_
                                        show Goes p e below _ (s₁.setTop (mkF m 144 #[.val (.int c_)] []))
                                        refine Goes.via (fun _ kk_ => XS.iconst X0.here hx rfl (hb hby d14_144) kk_) ?_
                                        show Goes p e below _ (s₁.setTop (mkF m 145 #[.val (.int c_)] [(.int (1 : Int32))]))
                                        refine Goes.via (fun _ kk_ => XS.goto X0.here hx rfl (pc0 := 145) (pc' := 149) rfl (hb hby d14_145) (by decide) (by decide) kk_) ?_
                                        show Goes p e below _ (s₁.setTop (mkF m 149 #[.val (.int c_)] [(.int (1 : Int32))]))
                                        exact own_finN X0 hx hlk hret (by simp) (hb hby d14_149) (by rw [e0]; exact ⟨(by first | (rw [own_exp, if_neg hc3, if_pos hc9, if_pos hc17, if_neg hc31, if_pos hc37, if_neg hc45, if_neg hc51, if_neg hc57, if_neg hc63, if_neg hc69, if_neg hc75, if_neg hc81, if_neg hc87, if_neg hc93, if_neg hc99, if_neg hc105, if_neg hc111, if_neg hc117, if_pos hc123]; done) | (rw [own_exp, if_neg hc3, if_pos hc9, if_pos hc17, if_neg hc31, if_pos hc37, if_neg hc45, if_neg hc51, if_neg hc57, if_neg hc63, if_neg hc69, if_neg hc75, if_neg hc81, if_neg hc87, if_neg hc93, if_neg hc99, if_neg hc105, if_neg hc111, if_neg hc117, if_pos hc123]; rfl)), rfl, rfl⟩) (by first | decide | omega | (dsimp only; omega)) (by first | decide | omega | (dsimp only; omega))
                                      · skip
                                        refine Goes.via (fun _ kk_ => XS.icmpNo X0.here hx rfl (hb hby d14_123) rfl (feq hc123).1 kk_) ?_
                                        show Goes p e below _ (s₁.setTop (mkF m 126 #[.val (.int c_)] []))
                                        refine Goes.via (fun _ kk_ => XS.iloadN X0.here hx rfl (hb hby d14_126) rfl  kk_) ?_
                                        show Goes p e below _ (s₁.setTop (mkF m 127 #[.val (.int c_)] [(.int c_)]))
                                        refine Goes.via (fun _ kk_ => XS.bipush X0.here hx rfl (hb hby d14_127) kk_) ?_
                                        show Goes p e below _ (s₁.setTop (mkF m 129 #[.val (.int c_)] [(.int (46 : Int32)), (.int c_)]))
                                        by_cases hc129 : c_ = (46 : Int32)
                                        · skip
                                          refine Goes.via (fun _ kk_ => XS.icmpYes X0.here hx rfl (pc0 := 129) (pc' := 144) rfl (hb hby d14_129) rfl (teq hc129).1 (by decide) (by decide) kk_) ?_
                                          show Goes p e below _ (s₁.setTop (mkF m 144 #[.val (.int c_)] []))
                                          refine Goes.via (fun _ kk_ => XS.iconst X0.here hx rfl (hb hby d14_144) kk_) ?_
                                          show Goes p e below _ (s₁.setTop (mkF m 145 #[.val (.int c_)] [(.int (1 : Int32))]))
                                          refine Goes.via (fun _ kk_ => XS.goto X0.here hx rfl (pc0 := 145) (pc' := 149) rfl (hb hby d14_145) (by decide) (by decide) kk_) ?_
                                          show Goes p e below _ (s₁.setTop (mkF m 149 #[.val (.int c_)] [(.int (1 : Int32))]))
                                          exact own_finN X0 hx hlk hret (by simp) (hb hby d14_149) (by rw [e0]; exact ⟨(by first | (rw [own_exp, if_neg hc3, if_pos hc9, if_pos hc17, if_neg hc31, if_pos hc37, if_neg hc45, if_neg hc51, if_neg hc57, if_neg hc63, if_neg hc69, if_neg hc75, if_neg hc81, if_neg hc87, if_neg hc93, if_neg hc99, if_neg hc105, if_neg hc111, if_neg hc117, if_neg hc123, if_pos hc129]; done) | (rw [own_exp, if_neg hc3, if_pos hc9, if_pos hc17, if_neg hc31, if_pos hc37, if_neg hc45, if_neg hc51, if_neg hc57, if_neg hc63, if_neg hc69, if_neg hc75, if_neg hc81, if_neg hc87, if_neg hc93, if_neg hc99, if_neg hc105, if_neg hc111, if_neg hc117, if_neg hc123, if_pos hc129]; rfl)), rfl, rfl⟩) (by first | decide | omega | (dsimp only; omega)) (by first | decide | omega | (dsimp only; omega))
                                        · skip
                                          refine Goes.via (fun _ kk_ => XS.icmpNo X0.here hx rfl (hb hby d14_129) rfl (feq hc129).1 kk_) ?_
                                          show Goes p e below _ (s₁.setTop (mkF m 132 #[.val (.int c_)] []))
                                          refine Goes.via (fun _ kk_ => XS.iloadN X0.here hx rfl (hb hby d14_132) rfl  kk_) ?_
                                          show Goes p e below _ (s₁.setTop (mkF m 133 #[.val (.int c_)] [(.int c_)]))
                                          refine Goes.via (fun _ kk_ => XS.bipush X0.here hx rfl (hb hby d14_133) kk_) ?_
                                          show Goes p e below _ (s₁.setTop (mkF m 135 #[.val (.int c_)] [(.int (63 : Int32)), (.int c_)]))
                                          by_cases hc135 : c_ = (63 : Int32)
                                          · skip
                                            refine Goes.via (fun _ kk_ => XS.icmpYes X0.here hx rfl (pc0 := 135) (pc' := 144) rfl (hb hby d14_135) rfl (teq hc135).1 (by decide) (by decide) kk_) ?_
                                            show Goes p e below _ (s₁.setTop (mkF m 144 #[.val (.int c_)] []))
                                            refine Goes.via (fun _ kk_ => XS.iconst X0.here hx rfl (hb hby d14_144) kk_) ?_
                                            show Goes p e below _ (s₁.setTop (mkF m 145 #[.val (.int c_)] [(.int (1 : Int32))]))
                                            refine Goes.via (fun _ kk_ => XS.goto X0.here hx rfl (pc0 := 145) (pc' := 149) rfl (hb hby d14_145) (by decide) (by decide) kk_) ?_
                                            show Goes p e below _ (s₁.setTop (mkF m 149 #[.val (.int c_)] [(.int (1 : Int32))]))
                                            exact own_finN X0 hx hlk hret (by simp) (hb hby d14_149) (by rw [e0]; exact ⟨(by first | (rw [own_exp, if_neg hc3, if_pos hc9, if_pos hc17, if_neg hc31, if_pos hc37, if_neg hc45, if_neg hc51, if_neg hc57, if_neg hc63, if_neg hc69, if_neg hc75, if_neg hc81, if_neg hc87, if_neg hc93, if_neg hc99, if_neg hc105, if_neg hc111, if_neg hc117, if_neg hc123, if_neg hc129, if_pos hc135]; done) | (rw [own_exp, if_neg hc3, if_pos hc9, if_pos hc17, if_neg hc31, if_pos hc37, if_neg hc45, if_neg hc51, if_neg hc57, if_neg hc63, if_neg hc69, if_neg hc75, if_neg hc81, if_neg hc87, if_neg hc93, if_neg hc99, if_neg hc105, if_neg hc111, if_neg hc117, if_neg hc123, if_neg hc129, if_pos hc135]; rfl)), rfl, rfl⟩) (by first | decide | omega | (dsimp only; omega)) (by first | decide | omega | (dsimp only; omega))
                                          · skip
                                            refine Goes.via (fun _ kk_ => XS.icmpNo X0.here hx rfl (hb hby d14_135) rfl (feq hc135).1 kk_) ?_
                                            show Goes p e below _ (s₁.setTop (mkF m 138 #[.val (.int c_)] []))
                                            refine Goes.via (fun _ kk_ => XS.iloadN X0.here hx rfl (hb hby d14_138) rfl  kk_) ?_
                                            show Goes p e below _ (s₁.setTop (mkF m 139 #[.val (.int c_)] [(.int c_)]))
                                            refine Goes.via (fun _ kk_ => XS.bipush X0.here hx rfl (hb hby d14_139) kk_) ?_
                                            show Goes p e below _ (s₁.setTop (mkF m 141 #[.val (.int c_)] [(.int (47 : Int32)), (.int c_)]))
                                            by_cases hc141 : c_ = (47 : Int32)
                                            · skip
                                              refine Goes.via (fun _ kk_ => XS.icmpNo X0.here hx rfl (hb hby d14_141) rfl (teq hc141).2 kk_) ?_
                                              show Goes p e below _ (s₁.setTop (mkF m 144 #[.val (.int c_)] []))
                                              refine Goes.via (fun _ kk_ => XS.iconst X0.here hx rfl (hb hby d14_144) kk_) ?_
                                              show Goes p e below _ (s₁.setTop (mkF m 145 #[.val (.int c_)] [(.int (1 : Int32))]))
                                              refine Goes.via (fun _ kk_ => XS.goto X0.here hx rfl (pc0 := 145) (pc' := 149) rfl (hb hby d14_145) (by decide) (by decide) kk_) ?_
                                              show Goes p e below _ (s₁.setTop (mkF m 149 #[.val (.int c_)] [(.int (1 : Int32))]))
                                              exact own_finN X0 hx hlk hret (by simp) (hb hby d14_149) (by rw [e0]; exact ⟨(by first | (rw [own_exp, if_neg hc3, if_pos hc9, if_pos hc17, if_neg hc31, if_pos hc37, if_neg hc45, if_neg hc51, if_neg hc57, if_neg hc63, if_neg hc69, if_neg hc75, if_neg hc81, if_neg hc87, if_neg hc93, if_neg hc99, if_neg hc105, if_neg hc111, if_neg hc117, if_neg hc123, if_neg hc129, if_neg hc135, if_pos hc141]; done) | (rw [own_exp, if_neg hc3, if_pos hc9, if_pos hc17, if_neg hc31, if_pos hc37, if_neg hc45, if_neg hc51, if_neg hc57, if_neg hc63, if_neg hc69, if_neg hc75, if_neg hc81, if_neg hc87, if_neg hc93, if_neg hc99, if_neg hc105, if_neg hc111, if_neg hc117, if_neg hc123, if_neg hc129, if_neg hc135, if_pos hc141]; rfl)), rfl, rfl⟩) (by first | decide | omega | (dsimp only; omega)) (by first | decide | omega | (dsimp only; omega))
                                            · skip
                                              refine Goes.via (fun _ kk_ => XS.icmpYes X0.here hx rfl (pc0 := 141) (pc' := 148) rfl (hb hby d14_141) rfl (feq hc141).2 (by decide) (by decide) kk_) ?_
                                              show Goes p e below _ (s₁.setTop (mkF m 148 #[.val (.int c_)] []))
                                              refine Goes.via (fun _ kk_ => XS.iconst X0.here hx rfl (hb hby d14_148) kk_) ?_
                                              show Goes p e below _ (s₁.setTop (mkF m 149 #[.val (.int c_)] [(.int (0 : Int32))]))
                                              exact own_finN X0 hx hlk hret (by simp) (hb hby d14_149) (by rw [e0]; exact ⟨(by first | (rw [own_exp, if_neg hc3, if_pos hc9, if_pos hc17, if_neg hc31, if_pos hc37, if_neg hc45, if_neg hc51, if_neg hc57, if_neg hc63, if_neg hc69, if_neg hc75, if_neg hc81, if_neg hc87, if_neg hc93, if_neg hc99, if_neg hc105, if_neg hc111, if_neg hc117, if_neg hc123, if_neg hc129, if_neg hc135, if_neg hc141]; done) | (rw [own_exp, if_neg hc3, if_pos hc9, if_pos hc17, if_neg hc31, if_pos hc37, if_neg hc45, if_neg hc51, if_neg hc57, if_neg hc63, if_neg hc69, if_neg hc75, if_neg hc81, if_neg hc87, if_neg hc93, if_neg hc99, if_neg hc105, if_neg hc111, if_neg hc117, if_neg hc123, if_neg hc129, if_neg hc135, if_neg hc141]; rfl)), rfl, rfl⟩) (by first | decide | omega | (dsimp only; omega)) (by first | decide | omega | (dsimp only; omega))
          · skip
            refine Goes.via (fun _ kk_ => XS.icmpNo X0.here hx rfl (hb hby d14_37) rfl (flt hc37).2.2.1 kk_) ?_
            show Goes p e below _ (s₁.setTop (mkF m 40 #[.val (.int c_)] []))
            refine Goes.via (fun _ kk_ => XS.iconst X0.here hx rfl (hb hby d14_40) kk_) ?_
            show Goes p e below _ (s₁.setTop (mkF m 41 #[.val (.int c_)] [(.int (1 : Int32))]))
            exact own_finN X0 hx hlk hret (by simp) (hb hby d14_41) (by rw [e0]; exact ⟨(by first | (rw [own_exp, if_neg hc3, if_pos hc9, if_pos hc17, if_neg hc31, if_neg hc37]; done) | (rw [own_exp, if_neg hc3, if_pos hc9, if_pos hc17, if_neg hc31, if_neg hc37]; rfl)), rfl, rfl⟩) (by first | decide | omega | (dsimp only; omega)) (by first | decide | omega | (dsimp only; omega))
      · skip
        refine Goes.via (fun _ kk_ => XS.icmpNo X0.here hx rfl (hb hby d14_17) rfl (flt hc17).1 kk_) ?_
        show Goes p e below _ (s₁.setTop (mkF m 20 #[.val (.int c_)] []))
        refine Goes.via (fun _ kk_ => XS.iloadN X0.here hx rfl (hb hby d14_20) rfl  kk_) ?_
        show Goes p e below _ (s₁.setTop (mkF m 21 #[.val (.int c_)] [(.int c_)]))
        refine Goes.via (fun _ kk_ => XS.bipush X0.here hx rfl (hb hby d14_21) kk_) ?_
        show Goes p e below _ (s₁.setTop (mkF m 23 #[.val (.int c_)] [(.int (90 : Int32)), (.int c_)]))
        by_cases hc23 : (90 : Int32) < c_
        · skip
          refine Goes.via (fun _ kk_ => XS.icmpYes X0.here hx rfl (pc0 := 23) (pc' := 28) rfl (hb hby d14_23) rfl (tlt hc23).2.2.1 (by decide) (by decide) kk_) ?_
          show Goes p e below _ (s₁.setTop (mkF m 28 #[.val (.int c_)] []))
          refine Goes.via (fun _ kk_ => XS.iloadN X0.here hx rfl (hb hby d14_28) rfl  kk_) ?_
          show Goes p e below _ (s₁.setTop (mkF m 29 #[.val (.int c_)] [(.int c_)]))
          refine Goes.via (fun _ kk_ => XS.bipush X0.here hx rfl (hb hby d14_29) kk_) ?_
          show Goes p e below _ (s₁.setTop (mkF m 31 #[.val (.int c_)] [(.int (48 : Int32)), (.int c_)]))
          by_cases hc31 : c_ < (48 : Int32)
          · skip
            refine Goes.via (fun _ kk_ => XS.icmpYes X0.here hx rfl (pc0 := 31) (pc' := 42) rfl (hb hby d14_31) rfl (tlt hc31).1 (by decide) (by decide) kk_) ?_
            show Goes p e below _ (s₁.setTop (mkF m 42 #[.val (.int c_)] []))
            refine Goes.via (fun _ kk_ => XS.iloadN X0.here hx rfl (hb hby d14_42) rfl  kk_) ?_
            show Goes p e below _ (s₁.setTop (mkF m 43 #[.val (.int c_)] [(.int c_)]))
            refine Goes.via (fun _ kk_ => XS.bipush X0.here hx rfl (hb hby d14_43) kk_) ?_
            show Goes p e below _ (s₁.setTop (mkF m 45 #[.val (.int c_)] [(.int (126 : Int32)), (.int c_)]))
            by_cases hc45 : c_ = (126 : Int32)
            · skip
              refine Goes.via (fun _ kk_ => XS.icmpYes X0.here hx rfl (pc0 := 45) (pc' := 144) rfl (hb hby d14_45) rfl (teq hc45).1 (by decide) (by decide) kk_) ?_
              show Goes p e below _ (s₁.setTop (mkF m 144 #[.val (.int c_)] []))
              refine Goes.via (fun _ kk_ => XS.iconst X0.here hx rfl (hb hby d14_144) kk_) ?_
              show Goes p e below _ (s₁.setTop (mkF m 145 #[.val (.int c_)] [(.int (1 : Int32))]))
              refine Goes.via (fun _ kk_ => XS.goto X0.here hx rfl (pc0 := 145) (pc' := 149) rfl (hb hby d14_145) (by decide) (by decide) kk_) ?_
              show Goes p e below _ (s₁.setTop (mkF m 149 #[.val (.int c_)] [(.int (1 : Int32))]))
              exact own_finN X0 hx hlk hret (by simp) (hb hby d14_149) (by rw [e0]; exact ⟨(by first | (rw [own_exp, if_neg hc3, if_pos hc9, if_neg hc17, if_pos hc23, if_pos hc31, if_pos hc45]; done) | (rw [own_exp, if_neg hc3, if_pos hc9, if_neg hc17, if_pos hc23, if_pos hc31, if_pos hc45]; rfl)), rfl, rfl⟩) (by first | decide | omega | (dsimp only; omega)) (by first | decide | omega | (dsimp only; omega))
            · skip
              refine Goes.via (fun _ kk_ => XS.icmpNo X0.here hx rfl (hb hby d14_45) rfl (feq hc45).1 kk_) ?_
              show Goes p e below _ (s₁.setTop (mkF m 48 #[.val (.int c_)] []))
              refine Goes.via (fun _ kk_ => XS.iloadN X0.here hx rfl (hb hby d14_48) rfl  kk_) ?_
              show Goes p e below _ (s₁.setTop (mkF m 49 #[.val (.int c_)] [(.int c_)]))
              refine Goes.via (fun _ kk_ => XS.bipush X0.here hx rfl (hb hby d14_49) kk_) ?_
              show Goes p e below _ (s₁.setTop (mkF m 51 #[.val (.int c_)] [(.int (33 : Int32)), (.int c_)]))
              by_cases hc51 : c_ = (33 : Int32)
              · skip
                refine Goes.via (fun _ kk_ => XS.icmpYes X0.here hx rfl (pc0 := 51) (pc' := 144) rfl (hb hby d14_51) rfl (teq hc51).1 (by decide) (by decide) kk_) ?_
                show Goes p e below _ (s₁.setTop (mkF m 144 #[.val (.int c_)] []))
                refine Goes.via (fun _ kk_ => XS.iconst X0.here hx rfl (hb hby d14_144) kk_) ?_
                show Goes p e below _ (s₁.setTop (mkF m 145 #[.val (.int c_)] [(.int (1 : Int32))]))
                refine Goes.via (fun _ kk_ => XS.goto X0.here hx rfl (pc0 := 145) (pc' := 149) rfl (hb hby d14_145) (by decide) (by decide) kk_) ?_
                show Goes p e below _ (s₁.setTop (mkF m 149 #[.val (.int c_)] [(.int (1 : Int32))]))
                exact own_finN X0 hx hlk hret (by simp) (hb hby d14_149) (by rw [e0]; exact ⟨(by first | (rw [own_exp, if_neg hc3, if_pos hc9, if_neg hc17, if_pos hc23, if_pos hc31, if_neg hc45, if_pos hc51]; done) | (rw [own_exp, if_neg hc3, if_pos hc9, if_neg hc17, if_pos hc23, if_pos hc31, if_neg hc45, if_pos hc51]; rfl)), rfl, rfl⟩) (by first | decide | omega | (dsimp only; omega)) (by first | decide | omega | (dsimp only; omega))
              · skip
                refine Goes.via (fun _ kk_ => XS.icmpNo X0.here hx rfl (hb hby d14_51) rfl (feq hc51).1 kk_) ?_
                show Goes p e below _ (s₁.setTop (mkF m 54 #[.val (.int c_)] []))
                refine Goes.via (fun _ kk_ => XS.iloadN X0.here hx rfl (hb hby d14_54) rfl  kk_) ?_
                show Goes p e below _ (s₁.setTop (mkF m 55 #[.val (.int c_)] [(.int c_)]))
                refine Goes.via (fun _ kk_ => XS.bipush X0.here hx rfl (hb hby d14_55) kk_) ?_
                show Goes p e below _ (s₁.setTop (mkF m 57 #[.val (.int c_)] [(.int (64 : Int32)), (.int c_)]))
                by_cases hc57 : c_ = (64 : Int32)
                · skip
                  refine Goes.via (fun _ kk_ => XS.icmpYes X0.here hx rfl (pc0 := 57) (pc' := 144) rfl (hb hby d14_57) rfl (teq hc57).1 (by decide) (by decide) kk_) ?_
                  show Goes p e below _ (s₁.setTop (mkF m 144 #[.val (.int c_)] []))
                  refine Goes.via (fun _ kk_ => XS.iconst X0.here hx rfl (hb hby d14_144) kk_) ?_
                  show Goes p e below _ (s₁.setTop (mkF m 145 #[.val (.int c_)] [(.int (1 : Int32))]))
                  refine Goes.via (fun _ kk_ => XS.goto X0.here hx rfl (pc0 := 145) (pc' := 149) rfl (hb hby d14_145) (by decide) (by decide) kk_) ?_
                  show Goes p e below _ (s₁.setTop (mkF m 149 #[.val (.int c_)] [(.int (1 : Int32))]))
                  exact own_finN X0 hx hlk hret (by simp) (hb hby d14_149) (by rw [e0]; exact ⟨(by first | (rw [own_exp, if_neg hc3, if_pos hc9, if_neg hc17, if_pos hc23, if_pos hc31, if_neg hc45, if_neg hc51, if_pos hc57]; done) | (rw [own_exp, if_neg hc3, if_pos hc9, if_neg hc17, if_pos hc23, if_pos hc31, if_neg hc45, if_neg hc51, if_pos hc57]; rfl)), rfl, rfl⟩) (by first | decide | omega | (dsimp only; omega)) (by first | decide | omega | (dsimp only; omega))
                · skip
                  refine Goes.via (fun _ kk_ => XS.icmpNo X0.here hx rfl (hb hby d14_57) rfl (feq hc57).1 kk_) ?_
                  show Goes p e below _ (s₁.setTop (mkF m 60 #[.val (.int c_)] []))
                  refine Goes.via (fun _ kk_ => XS.iloadN X0.here hx rfl (hb hby d14_60) rfl  kk_) ?_
                  show Goes p e below _ (s₁.setTop (mkF m 61 #[.val (.int c_)] [(.int c_)]))
                  refine Goes.via (fun _ kk_ => XS.bipush X0.here hx rfl (hb hby d14_61) kk_) ?_
                  show Goes p e below _ (s₁.setTop (mkF m 63 #[.val (.int c_)] [(.int (36 : Int32)), (.int c_)]))
                  by_cases hc63 : c_ = (36 : Int32)
                  · skip
                    refine Goes.via (fun _ kk_ => XS.icmpYes X0.here hx rfl (pc0 := 63) (pc' := 144) rfl (hb hby d14_63) rfl (teq hc63).1 (by decide) (by decide) kk_) ?_
                    show Goes p e below _ (s₁.setTop (mkF m 144 #[.val (.int c_)] []))
                    refine Goes.via (fun _ kk_ => XS.iconst X0.here hx rfl (hb hby d14_144) kk_) ?_
                    show Goes p e below _ (s₁.setTop (mkF m 145 #[.val (.int c_)] [(.int (1 : Int32))]))
                    refine Goes.via (fun _ kk_ => XS.goto X0.here hx rfl (pc0 := 145) (pc' := 149) rfl (hb hby d14_145) (by decide) (by decide) kk_) ?_
                    show Goes p e below _ (s₁.setTop (mkF m 149 #[.val (.int c_)] [(.int (1 : Int32))]))
                    exact own_finN X0 hx hlk hret (by simp) (hb hby d14_149) (by rw [e0]; exact ⟨(by first | (rw [own_exp, if_neg hc3, if_pos hc9, if_neg hc17, if_pos hc23, if_pos hc31, if_neg hc45, if_neg hc51, if_neg hc57, if_pos hc63]; done) | (rw [own_exp, if_neg hc3, if_pos hc9, if_neg hc17, if_pos hc23, if_pos hc31, if_neg hc45, if_neg hc51, if_neg hc57, if_pos hc63]; rfl)), rfl, rfl⟩) (by first | decide | omega | (dsimp only; omega)) (by first | decide | omega | (dsimp only; omega))
                  · skip
                    refine Goes.via (fun _ kk_ => XS.icmpNo X0.here hx rfl (hb hby d14_63) rfl (feq hc63).1 kk_) ?_
                    show Goes p e below _ (s₁.setTop (mkF m 66 #[.val (.int c_)] []))
                    refine Goes.via (fun _ kk_ => XS.iloadN X0.here hx rfl (hb hby d14_66) rfl  kk_) ?_
                    show Goes p e below _ (s₁.setTop (mkF m 67 #[.val (.int c_)] [(.int c_)]))
                    refine Goes.via (fun _ kk_ => XS.bipush X0.here hx rfl (hb hby d14_67) kk_) ?_
                    show Goes p e below _ (s₁.setTop (mkF m 69 #[.val (.int c_)] [(.int (37 : Int32)), (.int c_)]))
                    by_cases hc69 : c_ = (37 : Int32)
                    · skip
                      refine Goes.via (fun _ kk_ => XS.icmpYes X0.here hx rfl (pc0 := 69) (pc' := 144) rfl (hb hby d14_69) rfl (teq hc69).1 (by decide) (by decide) kk_) ?_
                      show Goes p e below _ (s₁.setTop (mkF m 144 #[.val (.int c_)] []))
                      refine Goes.via (fun _ kk_ => XS.iconst X0.here hx rfl (hb hby d14_144) kk_) ?_
                      show Goes p e below _ (s₁.setTop (mkF m 145 #[.val (.int c_)] [(.int (1 : Int32))]))
                      refine Goes.via (fun _ kk_ => XS.goto X0.here hx rfl (pc0 := 145) (pc' := 149) rfl (hb hby d14_145) (by decide) (by decide) kk_) ?_
                      show Goes p e below _ (s₁.setTop (mkF m 149 #[.val (.int c_)] [(.int (1 : Int32))]))
                      exact own_finN X0 hx hlk hret (by simp) (hb hby d14_149) (by rw [e0]; exact ⟨(by first | (rw [own_exp, if_neg hc3, if_pos hc9, if_neg hc17, if_pos hc23, if_pos hc31, if_neg hc45, if_neg hc51, if_neg hc57, if_neg hc63, if_pos hc69]; done) | (rw [own_exp, if_neg hc3, if_pos hc9, if_neg hc17, if_pos hc23, if_pos hc31, if_neg hc45, if_neg hc51, if_neg hc57, if_neg hc63, if_pos hc69]; rfl)), rfl, rfl⟩) (by first | decide | omega | (dsimp only; omega)) (by first | decide | omega | (dsimp only; omega))
                    · skip
                      refine Goes.via (fun _ kk_ => XS.icmpNo X0.here hx rfl (hb hby d14_69) rfl (feq hc69).1 kk_) ?_
                      show Goes p e below _ (s₁.setTop (mkF m 72 #[.val (.int c_)] []))
                      refine Goes.via (fun _ kk_ => XS.iloadN X0.here hx rfl (hb hby d14_72) rfl  kk_) ?_
                      show Goes p e below _ (s₁.setTop (mkF m 73 #[.val (.int c_)] [(.int c_)]))
                      refine Goes.via (fun _ kk_ => XS.bipush X0.here hx rfl (hb hby d14_73) kk_) ?_
                      show Goes p e below _ (s₁.setTop (mkF m 75 #[.val (.int c_)] [(.int (94 : Int32)), (.int c_)]))
                      by_cases hc75 : c_ = (94 : Int32)
                      · skip
                        refine Goes.via (fun _ kk_ => XS.icmpYes X0.here hx rfl (pc0 := 75) (pc' := 144) rfl (hb hby d14_75) rfl (teq hc75).1 (by decide) (by decide) kk_) ?_
                        show Goes p e below _ (s₁.setTop (mkF m 144 #[.val (.int c_)] []))
                        refine Goes.via (fun _ kk_ => XS.iconst X0.here hx rfl (hb hby d14_144) kk_) ?_
                        show Goes p e below _ (s₁.setTop (mkF m 145 #[.val (.int c_)] [(.int (1 : Int32))]))
                        refine Goes.via (fun _ kk_ => XS.goto X0.here hx rfl (pc0 := 145) (pc' := 149) rfl (hb hby d14_145) (by decide) (by decide) kk_) ?_
                        show Goes p e below _ (s₁.setTop (mkF m 149 #[.val (.int c_)] [(.int (1 : Int32))]))
                        exact own_finN X0 hx hlk hret (by simp) (hb hby d14_149) (by rw [e0]; exact ⟨(by first | (rw [own_exp, if_neg hc3, if_pos hc9, if_neg hc17, if_pos hc23, if_pos hc31, if_neg hc45, if_neg hc51, if_neg hc57, if_neg hc63, if_neg hc69, if_pos hc75]; done) | (rw [own_exp, if_neg hc3, if_pos hc9, if_neg hc17, if_pos hc23, if_pos hc31, if_neg hc45, if_neg hc51, if_neg hc57, if_neg hc63, if_neg hc69, if_pos hc75]; rfl)), rfl, rfl⟩) (by first | decide | omega | (dsimp only; omega)) (by first | decide | omega | (dsimp only; omega))
                      · skip
                        refine Goes.via (fun _ kk_ => XS.icmpNo X0.here hx rfl (hb hby d14_75) rfl (feq hc75).1 kk_) ?_
                        show Goes p e below _ (s₁.setTop (mkF m 78 #[.val (.int c_)] []))
                        refine Goes.via (fun _ kk_ => XS.iloadN X0.here hx rfl (hb hby d14_78) rfl  kk_) ?_
                        show Goes p e below _ (s₁.setTop (mkF m 79 #[.val (.int c_)] [(.int c_)]))
                        refine Goes.via (fun _ kk_ => XS.bipush X0.here hx rfl (hb hby d14_79) kk_) ?_
                        show Goes p e below _ (s₁.setTop (mkF m 81 #[.val (.int c_)] [(.int (38 : Int32)), (.int c_)]))
                        by_cases hc81 : c_ = (38 : Int32)
                        · skip
                          refine Goes.via (fun _ kk_ => XS.icmpYes X0.here hx rfl (pc0 := 81) (pc' := 144) rfl (hb hby d14_81) rfl (teq hc81).1 (by decide) (by decide) kk_) ?_
                          show Goes p e below _ (s₁.setTop (mkF m 144 #[.val (.int c_)] []))
                          refine Goes.via (fun _ kk_ => XS.iconst X0.here hx rfl (hb hby d14_144) kk_) ?_
                          show Goes p e below _ (s₁.setTop (mkF m 145 #[.val (.int c_)] [(.int (1 : Int32))]))
                          refine Goes.via (fun _ kk_ => XS.goto X0.here hx rfl (pc0 := 145) (pc' := 149) rfl (hb hby d14_145) (by decide) (by decide) kk_) ?_
                          show Goes p e below _ (s₁.setTop (mkF m 149 #[.val (.int c_)] [(.int (1 : Int32))]))
                          exact own_finN X0 hx hlk hret (by simp) (hb hby d14_149) (by rw [e0]; exact ⟨(by first | (rw [own_exp, if_neg hc3, if_pos hc9, if_neg hc17, if_pos hc23, if_pos hc31, if_neg hc45, if_neg hc51, if_neg hc57, if_neg hc63, if_neg hc69, if_neg hc75, if_pos hc81]; done) | (rw [own_exp, if_neg hc3, if_pos hc9, if_neg hc17, if_pos hc23, if_pos hc31, if_neg hc45, if_neg hc51, if_neg hc57, if_neg hc63, if_neg hc69, if_neg hc75, if_pos hc81]; rfl)), rfl, rfl⟩) (by first | decide | omega | (dsimp only; omega)) (by first | decide | omega | (dsimp only; omega))
                        · skip
                          refine Goes.via (fun _ kk_ => XS.icmpNo X0.here hx rfl (hb hby d14_81) rfl (feq hc81).1 kk_) ?_
                          show Goes p e below _ (s₁.setTop (mkF m 84 #[.val (.int c_)] []))
                          refine Goes.via (fun _ kk_ => XS.iloadN X0.here hx rfl (hb hby d14_84) rfl  kk_) ?_
                          show Goes p e below _ (s₁.setTop (mkF m 85 #[.val (.int c_)] [(.int c_)]))
                          refine Goes.via (fun _ kk_ => XS.bipush X0.here hx rfl (hb hby d14_85) kk_) ?_
                          show Goes p e below _ (s₁.setTop (mkF m 87 #[.val (.int c_)] [(.int (42 : Int32)), (.int c_)]))
                          by_cases hc87 : c_ = (42 : Int32)
                          · skip
                            refine Goes.via (fun _ kk_ => XS.icmpYes X0.here hx rfl (pc0 := 87) (pc' := 144) rfl (hb hby d14_87) rfl (teq hc87).1 (by decide) (by decide) kk_) ?_
                            show Goes p e below _ (s₁.setTop (mkF m 144 #[.val (.int c_)] []))
                            refine Goes.via (fun _ kk_ => XS.iconst X0.here hx rfl (hb hby d14_144) kk_) ?_
                            show Goes p e below _ (s₁.setTop (mkF m 145 #[.val (.int c_)] [(.int (1 : Int32))]))
                            refine Goes.via (fun _ kk_ => XS.goto X0.here hx rfl (pc0 := 145) (pc' := 149) rfl (hb hby d14_145) (by decide) (by decide) kk_) ?_
                            show Goes p e below _ (s₁.setTop (mkF m 149 #[.val (.int c_)] [(.int (1 : Int32))]))
                            exact own_finN X0 hx hlk hret (by simp) (hb hby d14_149) (by rw [e0]; exact ⟨(by first | (rw [own_exp, if_neg hc3, if_pos hc9, if_neg hc17, if_pos hc23, if_pos hc31, if_neg hc45, if_neg hc51, if_neg hc57, if_neg hc63, if_neg hc69, if_neg hc75, if_neg hc81, if_pos hc87]; done) | (rw [own_exp, if_neg hc3, if_pos hc9, if_neg hc17, if_pos hc23, if_pos hc31, if_neg hc45, if_neg hc51, if_neg hc57, if_neg hc63, if_neg hc69, if_neg hc75, if_neg hc81, if_pos hc87]; rfl)), rfl, rfl⟩) (by first | decide | omega | (dsimp only; omega)) (by first | decide | omega | (dsimp only; omega))
                          · skip
                            refine Goes.via (fun _ kk_ => XS.icmpNo X0.here hx rfl (hb hby d14_87) rfl (feq hc87).1 kk_) ?_
                            show Goes p e below _ (s₁.setTop (mkF m 90 #[.val (.int c_)] []))
                            refine Goes.via (fun _ kk_ => XS.iloadN X0.here hx rfl (hb hby d14_90) rfl  kk_) ?_
                            show Goes p e below _ (s₁.setTop (mkF m 91 #[.val (.int c_)] [(.int c_)]))
                            refine Goes.via (fun _ kk_ => XS.bipush X0.here hx rfl (hb hby d14_91) kk_) ?_
                            show Goes p e below _ (s₁.setTop (mkF m 93 #[.val (.int c_)] [(.int (95 : Int32)), (.int c_)]))
                            by_cases hc93 : c_ = (95 : Int32)
                            · skip
                              refine Goes.via (fun _ kk_ => XS.icmpYes X0.here hx rfl (pc0 := 93) (pc' := 144) rfl (hb hby d14_93) rfl (teq hc93).1 (by decide) (by decide) kk_) ?_
                              show Goes p e below _ (s₁.setTop (mkF m 144 #[.val (.int c_)] []))
                              refine Goes.via (fun _ kk_ => XS.iconst X0.here hx rfl (hb hby d14_144) kk_) ?_
                              show Goes p e below _ (s₁.setTop (mkF m 145 #[.val (.int c_)] [(.int (1 : Int32))]))
                              refine Goes.via (fun _ kk_ => XS.goto X0.here hx rfl (pc0 := 145) (pc' := 149) rfl (hb hby d14_145) (by decide) (by decide) kk_) ?_
                              show Goes p e below _ (s₁.setTop (mkF m 149 #[.val (.int c_)] [(.int (1 : Int32))]))
                              exact own_finN X0 hx hlk hret (by simp) (hb hby d14_149) (by rw [e0]; exact ⟨(by first | (rw [own_exp, if_neg hc3, if_pos hc9, if_neg hc17, if_pos hc23, if_pos hc31, if_neg hc45, if_neg hc51, if_neg hc57, if_neg hc63, if_neg hc69, if_neg hc75, if_neg hc81, if_neg hc87, if_pos hc93]; done) | (rw [own_exp, if_neg hc3, if_pos hc9, if_neg hc17, if_pos hc23, if_pos hc31, if_neg hc45, if_neg hc51, if_neg hc57, if_neg hc63, if_neg hc69, if_neg hc75, if_neg hc81, if_neg hc87, if_pos hc93]; rfl)), rfl, rfl⟩) (by first | decide | omega | (dsimp only; omega)) (by first | decide | omega | (dsimp only; omega))
                            · skip
                              refine Goes.via (fun _ kk_ => XS.icmpNo X0.here hx rfl (hb hby d14_93) rfl (feq hc93).1 kk_) ?_
                              show Goes p e below _ (s₁.setTop (mkF m 96 #[.val (.int c_)] []))
                              refine Goes.via (fun _ kk_ => XS.iloadN X0.here hx rfl (hb hby d14_96) rfl  kk_) ?_
                              show Goes p e below _ (s₁.setTop (mkF m 97 #[.val (.int c_)] [(.int c_)]))
                              refine Goes.via (fun _ kk_ => XS.bipush X0.here hx rfl (hb hby d14_97) kk_) ?_
                              show Goes p e below _ (s₁.setTop (mkF m 99 #[.val (.int c_)] [(.int (45 : Int32)), (.int c_)]))
                              by_cases hc99 : c_ = (45 : Int32)
                              · skip
                                refine Goes.via (fun _ kk_ => XS.icmpYes X0.here hx rfl (pc0 := 99) (pc' := 144) rfl (hb hby d14_99) rfl (teq hc99).1 (by decide) (by decide) kk_) ?_
                                show Goes p e below _ (s₁.setTop (mkF m 144 #[.val (.int c_)] []))
                                refine Goes.via (fun _ kk_ => XS.iconst X0.here hx rfl (hb hby d14_144) kk_) ?_
                                show Goes p e below _ (s₁.setTop (mkF m 145 #[.val (.int c_)] [(.int (1 : Int32))]))
                                refine Goes.via (fun _ kk_ => XS.goto X0.here hx rfl (pc0 := 145) (pc' := 149) rfl (hb hby d14_145) (by decide) (by decide) kk_) ?_
                                show Goes p e below _ (s₁.setTop (mkF m 149 #[.val (.int c_)] [(.int (1 : Int32))]))
                                exact own_finN X0 hx hlk hret (by simp) (hb hby d14_149) (by rw [e0]; exact ⟨(by first | (rw [own_exp, if_neg hc3, if_pos hc9, if_neg hc17, if_pos hc23, if_pos hc31, if_neg hc45, if_neg hc51, if_neg hc57, if_neg hc63, if_neg hc69, if_neg hc75, if_neg hc81, if_neg hc87, if_neg hc93, if_pos hc99]; done) | (rw [own_exp, if_neg hc3, if_pos hc9, if_neg hc17, if_pos hc23, if_pos hc31, if_neg hc45, if_neg hc51, if_neg hc57, if_neg hc63, if_neg hc69, if_neg hc75, if_neg hc81, if_neg hc87, if_neg hc93, if_pos hc99]; rfl)), rfl, rfl⟩) (by first | decide | omega | (dsimp only; omega)) (by first | decide | omega | (dsimp only; omega))
                              · skip
                                refine Goes.via (fun _ kk_ => XS.icmpNo X0.here hx rfl (hb hby d14_99) rfl (feq hc99).1 kk_) ?_
                                show Goes p e below _ (s₁.setTop (mkF m 102 #[.val (.int c_)] []))
                                refine Goes.via (fun _ kk_ => XS.iloadN X0.here hx rfl (hb hby d14_102) rfl  kk_) ?_
                                show Goes p e below _ (s₁.setTop (mkF m 103 #[.val (.int c_)] [(.int c_)]))
                                refine Goes.via (fun _ kk_ => XS.bipush X0.here hx rfl (hb hby d14_103) kk_) ?_
                                show Goes p e below _ (s₁.setTop (mkF m 105 #[.val (.int c_)] [(.int (43 : Int32)), (.int c_)]))
                                by_cases hc105 : c_ = (43 : Int32)
                                · skip
                                  refine Goes.via (fun _ kk_ => XS.icmpYes X0.here hx rfl (pc0 := 105) (pc' := 144) rfl (hb hby d14_105) rfl (teq hc105).1 (by decide) (by decide) kk_) ?_
                                  show Goes p e below _ (s₁.setTop (mkF m 144 #[.val (.int c_)] []))
                                  refine Goes.via (fun _ kk_ => XS.iconst X0.here hx rfl (hb hby d14_144) kk_) ?_
                                  show Goes p e below _ (s₁.setTop (mkF m 145 #[.val (.int c_)] [(.int (1 : Int32))]))
                                  refine Goes.via (fun _ kk_ => XS.goto X0.here hx rfl (pc0 := 145) (pc' := 149) rfl (hb hby d14_145) (by decide) (by decide) kk_) ?_
                                  show Goes p e below _ (s₁.setTop (mkF m 149 #[.val (.int c_)] [(.int (1 : Int32))]))
                                  exact own_finN X0 hx hlk hret (by simp) (hb hby d14_149) (by rw [e0]; exact ⟨(by first | (rw [own_exp, if_neg hc3, if_pos hc9, if_neg hc17, if_pos hc23, if_pos hc31, if_neg hc45, if_neg hc51, if_neg hc57, if_neg hc63, if_neg hc69, if_neg hc75, if_neg hc81, if_neg hc87, if_neg hc93, if_neg hc99, if_pos hc105]; done) | (rw [own_exp, if_neg hc3, if_pos hc9, if_neg hc17, if_pos hc23, if_pos hc31, if_neg hc45, if_neg hc51, if_neg hc57, if_neg hc63, if_neg hc69, if_neg hc75, if_neg hc81, if_neg hc87, if_neg hc93, if_neg hc99, if_pos hc105]; rfl)), rfl, rfl⟩) (by first | decide | omega | (dsimp only; omega)) (by first | decide | omega | (dsimp only; omega))
                                · skip
                                  refine Goes.via (fun _ kk_ => XS.icmpNo X0.here hx rfl (hb hby d14_105) rfl (feq hc105).1 kk_) ?_
                                  show Goes p e below _ (s₁.setTop (mkF m 108 #[.val (.int c_)] []))
                                  refine Goes.via (fun _ kk_ => XS.iloadN X0.here hx rfl (hb hby d14_108) rfl  kk_) ?_
                                  show Goes p e below _ (s₁.setTop (mkF m 109 #[.val (.int c_)] [(.int c_)]))
                                  refine Goes.via (fun _ kk_ => XS.bipush X0.here hx rfl (hb hby d14_109) kk_) ?_
                                  show Goes p e below _ (s₁.setTop (mkF m 111 #[.val (.int c_)] [(.int (61 : Int32)), (.int c_)]))
                                  by_cases hc111 : c_ = (61 : Int32)
                                  · skip
                                    refine Goes.via (fun _ kk_ => XS.icmpYes X0.here hx rfl (pc0 := 111) (pc' := 144) rfl (hb hby d14_111) rfl (teq hc111).1 (by decide) (by decide) kk_) ?_
                                    show Goes p e below _ (s₁.setTop (mkF m 144 #[.val (.int c_)] []))
                                    refine Goes.via (fun _ kk_ => XS.iconst X0.here hx rfl (hb hby d14_144) kk_) ?_
                                    show Goes p e below _ (s₁.setTop (mkF m 145 #[.val (.int c_)] [(.int (1 : Int32))]))
                                    refine Goes.via (fun _ kk_ => XS.goto X0.here hx rfl (pc0 := 145) (pc' := 149) rfl (hb hby d14_145) (by decide) (by decide) kk_) ?_
                                    show Goes p e below _ (s₁.setTop (mkF m 149 #[.val (.int c_)] [(.int (1 : Int32))]))
                                    exact own_finN X0 hx hlk hret (by simp) (hb hby d14_149) (by rw [e0]; exact ⟨(by first | (rw [own_exp, if_neg hc3, if_pos hc9, if_neg hc17, if_pos hc23, if_pos hc31, if_neg hc45, if_neg hc51, if_neg hc57, if_neg hc63, if_neg hc69, if_neg hc75, if_neg hc81, if_neg hc87, if_neg hc93, if_neg hc99, if_neg hc105, if_pos hc111]; done) | (rw [own_exp, if_neg hc3, if_pos hc9, if_neg hc17, if_pos hc23, if_pos hc31, if_neg hc45, if_neg hc51, if_neg hc57, if_neg hc63, if_neg hc69, if_neg hc75, if_neg hc81, if_neg hc87, if_neg hc93, if_neg hc99, if_neg hc105, if_pos hc111]; rfl)), rfl, rfl⟩) (by first | decide | omega | (dsimp only; omega)) (by first | decide | omega | (dsimp only; omega))
                                  · skip
                                    refine Goes.via (fun _ kk_ => XS.icmpNo X0.here hx rfl (hb hby d14_111) rfl (feq hc111).1 kk_) ?_
                                    show Goes p e below _ (s₁.setTop (mkF m 114 #[.val (.int c_)] []))
                                    refine Goes.via (fun _ kk_ => XS.iloadN X0.here hx rfl (hb hby d14_114) rfl  kk_) ?_
                                    show Goes p e below _ (s₁.setTop (mkF m 115 #[.val (.int c_)] [(.int c_)]))
                                    refine Goes.via (fun _ kk_ => XS.bipush X0.here hx rfl (hb hby d14_115) kk_) ?_
                                    show Goes p e below _ (s₁.setTop (mkF m 117 #[.val (.int c_)] [(.int (60 : Int32)), (.int c_)]))
                                    by_cases hc117 : c_ = (60 : Int32)
                                    · skip
                                      refine Goes.via (fun _ kk_ => XS.icmpYes X0.here hx rfl (pc0 := 117) (pc' := 144) rfl (hb hby d14_117) rfl (teq hc117).1 (by decide) (by decide) kk_) ?_
                                      show Goes p e below _ (s₁.setTop (mkF m 144 #[.val (.int c_)] []))
                                      refine Goes.via (fun _ kk_ => XS.iconst X0.here hx rfl (hb hby d14_144) kk_) ?_
                                      show Goes p e below _ (s₁.setTop (mkF m 145 #[.val (.int c_)] [(.int (1 : Int32))]))
                                      refine Goes.via (fun _ kk_ => XS.goto X0.here hx rfl (pc0 := 145) (pc' := 149) rfl (hb hby d14_145) (by decide) (by decide) kk_) ?_
                                      show Goes p e below _ (s₁.setTop (mkF m 149 #[.val (.int c_)] [(.int (1 : Int32))]))
                                      exact own_finN X0 hx hlk hret (by simp) (hb hby d14_149) (by rw [e0]; exact ⟨(by first | (rw [own_exp, if_neg hc3, if_pos hc9, if_neg hc17, if_pos hc23, if_pos hc31, if_neg hc45, if_neg hc51, if_neg hc57, if_neg hc63, if_neg hc69, if_neg hc75, if_neg hc81, if_neg hc87, if_neg hc93, if_neg hc99, if_neg hc105, if_neg hc111, if_pos hc117]; done) | (rw [own_exp, if_neg hc3, if_pos hc9, if_neg hc17, if_pos hc23, if_pos hc31, if_neg hc45, if_neg hc51, if_neg hc57, if_neg hc63, if_neg hc69, if_neg hc75, if_neg hc81, if_neg hc87, if_neg hc93, if_neg hc99, if_neg hc105, if_neg hc111, if_pos hc117]; rfl)), rfl, rfl⟩) (by first | decide | omega | (dsimp only; omega)) (by first | decide | omega | (dsimp only; omega))
                                    · skip
                                      refine Goes.via (fun _ kk_ => XS.icmpNo X0.here hx rfl (hb hby d14_117) rfl (feq hc117).1 kk_) ?_
                                      show Goes p e below _ (s₁.setTop (mkF m 120 #[.val (.int c_)] []))
                                      refine Goes.via (fun _ kk_ => XS.iloadN X0.here hx rfl (hb hby d14_120) rfl  kk_) ?_
                                      show Goes p e below _ (s₁.setTop (mkF m 121 #[.val (.int c_)] [(.int c_)]))
                                      refine Goes.via (fun _ kk_ => XS.bipush X0.here hx rfl (hb hby d14_121) kk_) ?_
                                      show Goes p e below _ (s₁.setTop (mkF m 123 #[.val (.int c_)] [(.int (62 : Int32)), (.int c_)]))
                                      by_cases hc123 : c_ = (62 : Int32)
                                      · skip
                                        refine Goes.via (fun _ kk_ => XS.icmpYes X0.here hx rfl (pc0 := 123) (pc' := 144) rfl (hb hby d14_123) rfl (teq hc123).1 (by decide) (by decide) kk_) ?_
                                        show Goes p e below _ (s₁.setTop (mkF m 144 #[.val (.int c_)] []))
                                        refine Goes.via (fun _ kk_ => XS.iconst X0.here hx rfl (hb hby d14_144) kk_) ?_
                                        show Goes p e below _ (s₁.setTop (mkF m 145 #[.val (.int c_)] [(.int (1 : Int32))]))
                                        refine Goes.via (fun _ kk_ => XS.goto X0.here hx rfl (pc0 := 145) (pc' := 149) rfl (hb hby d14_145) (by decide) (by decide) kk_) ?_
                                        show Goes p e below _ (s₁.setTop (mkF m 149 #[.val (.int c_)] [(.int (1 : Int32))]))
                                        exact own_finN X0 hx hlk hret (by simp) (hb hby d14_149) (by rw [e0]; exact ⟨(by first | (rw [own_exp, if_neg hc3, if_pos hc9, if_neg hc17, if_pos hc23, if_pos hc31, if_neg hc45, if_neg hc51, if_neg hc57, if_neg hc63, if_neg hc69, if_neg hc75, if_neg hc81, if_neg hc87, if_neg hc93, if_neg hc99, if_neg hc105, if_neg hc111, if_neg hc117, if_pos hc123]; done) | (rw [own_exp, if_neg hc3, if_pos hc9, if_neg hc17, if_pos hc23, if_pos hc31, if_neg hc45, if_neg hc51, if_neg hc57, if_neg hc63, if_neg hc69, if_neg hc75, if_neg hc81, if_neg hc87, if_neg hc93, if_neg hc99, if_neg hc105, if_neg hc111, if_neg hc117, if_pos hc123]; rfl)), rfl, rfl⟩) (by first | decide | omega | (dsimp only; omega)) (by first | decide | omega | (dsimp only; omega))
                                      · skip
                                        refine Goes.via (fun _ kk_ => XS.icmpNo X0.here hx rfl (hb hby d14_123) rfl (feq hc123).1 kk_) ?_
                                        show Goes p e below _ (s₁.setTop (mkF m 126 #[.val (.int c_)] []))
                                        refine Goes.via (fun _ kk_ => XS.iloadN X0.here hx rfl (hb hby d14_126) rfl  kk_) ?_
                                        show Goes p e below _ (s₁.setTop (mkF m 127 #[.val (.int c_)] [(.int c_)]))
                                        refine Goes.via (fun _ kk_ => XS.bipush X0.here hx rfl (hb hby d14_127) kk_) ?_
                                        show Goes p e below _ (s₁.setTop (mkF m 129 #[.val (.int c_)] [(.int (46 : Int32)), (.int c_)]))
                                        by_cases hc129 : c_ = (46 : Int32)
                                        · skip
                                          refine Goes.via (fun _ kk_ => XS.icmpYes X0.here hx rfl (pc0 := 129) (pc' := 144) rfl (hb hby d14_129) rfl (teq hc129).1 (by decide) (by decide) kk_) ?_
                                          show Goes p e below _ (s₁.setTop (mkF m 144 #[.val (.int c_)] []))
                                          refine Goes.via (fun _ kk_ => XS.iconst X0.here hx rfl (hb hby d14_144) kk_) ?_
                                          show Goes p e below _ (s₁.setTop (mkF m 145 #[.val (.int c_)] [(.int (1 : Int32))]))
                                          refine Goes.via (fun _ kk_ => XS.goto X0.here hx rfl (pc0 := 145) (pc' := 149) rfl (hb hby d14_145) (by decide) (by decide) kk_) ?_
                                          show Goes p e below _ (s₁.setTop (mkF m 149 #[.val (.int c_)] [(.int (1 : Int32))]))
                                          exact own_finN X0 hx hlk hret (by simp) (hb hby d14_149) (by rw [e0]; exact ⟨(by first | (rw [own_exp, if_neg hc3, if_pos hc9, if_neg hc17, if_pos hc23, if_pos hc31, if_neg hc45, if_neg hc51, if_neg hc57, if_neg hc63, if_neg hc69, if_neg hc75, if_neg hc81, if_neg hc87, if_neg hc93, if_neg hc99, if_neg hc105, if_neg hc111, if_neg hc117, if_neg hc123, if_pos hc129]; done) | (rw [own_exp, if_neg hc3, if_pos hc9, if_neg hc17, if_pos hc23, if_pos hc31, if_neg hc45, if_neg hc51, if_neg hc57, if_neg hc63, if_neg hc69, if_neg hc75, if_neg hc81, if_neg hc87, if_neg hc93, if_neg hc99, if_neg hc105, if_neg hc111, if_neg hc117, if_neg hc123, if_pos hc129]; rfl)), rfl, rfl⟩) (by first | decide | omega | (dsimp only; omega)) (by first | decide | omega | (dsimp only; omega))
                                        · skip
                                          refine Goes.via (fun _ kk_ => XS.icmpNo X0.here hx rfl (hb hby d14_129) rfl (feq hc129).1 kk_) ?_
                                          show Goes p e below _ (s₁.setTop (mkF m 132 #[.val (.int c_)] []))
                                          refine Goes.via (fun _ kk_ => XS.iloadN X0.here hx rfl (hb hby d14_132) rfl  kk_) ?_
                                          show Goes p e below _ (s₁.setTop (mkF m 133 #[.val (.int c_)] [(.int c_)]))
                                          refine Goes.via (fun _ kk_ => XS.bipush X0.here hx rfl (hb hby d14_133) kk_) ?_
                                          show Goes p e below _ (s₁.setTop (mkF m 135 #[.val (.int c_)] [(.int (63 : Int32)), (.int c_)]))
                                          by_cases hc135 : c_ = (63 : Int32)
                                          · skip
                                            refine Goes.via (fun _ kk_ => XS.icmpYes X0.here hx rfl (pc0 := 135) (pc' := 144) rfl (hb hby d14_135) rfl (teq hc135).1 (by decide) (by decide) kk_) ?_
                                            show Goes p e below _ (s₁.setTop (mkF m 144 #[.val (.int c_)] []))
                                            refine Goes.via (fun _ kk_ => XS.iconst X0.here hx rfl (hb hby d14_144) kk_) ?_
                                            show Goes p e below _ (s₁.setTop (mkF m 145 #[.val (.int c_)] [(.int (1 : Int32))]))
                                            refine Goes.via (fun _ kk_ => XS.goto X0.here hx rfl (pc0 := 145) (pc' := 149) rfl (hb hby d14_145) (by decide) (by decide) kk_) ?_
                                            show Goes p e below _ (s₁.setTop (mkF m 149 #[.val (.int c_)] [(.int (1 : Int32))]))
                                            exact own_finN X0 hx hlk hret (by simp) (hb hby d14_149) (by rw [e0]; exact ⟨(by first | (rw [own_exp, if_neg hc3, if_pos hc9, if_neg hc17, if_pos hc23, if_pos hc31, if_neg hc45, if_neg hc51, if_neg hc57, if_neg hc63, if_neg hc69, if_neg hc75, if_neg hc81, if_neg hc87, if_neg hc93, if_neg hc99, if_neg hc105, if_neg hc111, if_neg hc117, if_neg hc123, if_neg hc129, if_pos hc135]; done) | (rw [own_exp, if_neg hc3, if_pos hc9, if_neg hc17, if_pos hc23, if_pos hc31, if_neg hc45, if_neg hc51, if_neg hc57, if_neg hc63, if_neg hc69, if_neg hc75, if_neg hc81, if_neg hc87, if_neg hc93, if_neg hc99, if_neg hc105, if_neg hc111, if_neg hc117, if_neg hc123, if_neg hc129, if_pos hc135]; rfl)), rfl, rfl⟩) (by first | decide | omega | (dsimp only; omega)) (by first | decide | omega | (dsimp only; omega))
                                          · skip
                                            refine Goes.via (fun _ kk_ => XS.icmpNo X0.here hx rfl (hb hby d14_135) rfl (feq hc135).1 kk_) ?_
                                            show Goes p e below _ (s₁.setTop (mkF m 138 #[.val (.int c_)] []))
                                            refine Goes.via (fun _ kk_ => XS.iloadN X0.here hx rfl (hb hby d14_138) rfl  kk_) ?_
                                            show Goes p e below _ (s₁.setTop (mkF m 139 #[.val (.int c_)] [(.int c_)]))
                                            refine Goes.via (fun _ kk_ => XS.bipush X0.here hx rfl (hb hby d14_139) kk_) ?_
                                            show Goes p e below _ (s₁.setTop (mkF m 141 #[.val (.int c_)] [(.int (47 : Int32)), (.int c_)]))
                                            by_cases hc141 : c_ = (47 : Int32)
                                            · skip
                                              refine Goes.via (fun _ kk_ => XS.icmpNo X0.here hx rfl (hb hby d14_141) rfl (teq hc141).2 kk_) ?_
                                              show Goes p e below _ (s₁.setTop (mkF m 144 #[.val (.int c_)] []))
                                              refine Goes.via (fun _ kk_ => XS.iconst X0.here hx rfl (hb hby d14_144) kk_) ?_
                                              show Goes p e below _ (s₁.setTop (mkF m 145 #[.val (.int c_)] [(.int (1 : Int32))]))
                                              refine Goes.via (fun _ kk_ => XS.goto X0.here hx rfl (pc0 := 145) (pc' := 149) rfl (hb hby d14_145) (by decide) (by decide) kk_) ?_
                                              show Goes p e below _ (s₁.setTop (mkF m 149 #[.val (.int c_)] [(.int (1 : Int32))]))
                                              exact own_finN X0 hx hlk hret (by simp) (hb hby d14_149) (by rw [e0]; exact ⟨(by first | (rw [own_exp, if_neg hc3, if_pos hc9, if_neg hc17, if_pos hc23, if_pos hc31, if_neg hc45, if_neg hc51, if_neg hc57, if_neg hc63, if_neg hc69, if_neg hc75, if_neg hc81, if_neg hc87, if_neg hc93, if_neg hc99, if_neg hc105, if_neg hc111, if_neg hc117, if_neg hc123, if_neg hc129, if_neg hc135, if_pos hc141]; done) | (rw [own_exp, if_neg hc3, if_pos hc9, if_neg hc17, if_pos hc23, if_pos hc31, if_neg hc45, if_neg hc51, if_neg hc57, if_neg hc63, if_neg hc69, if_neg hc75, if_neg hc81, if_neg hc87, if_neg hc93, if_neg hc99, if_neg hc105, if_neg hc111, if_neg hc117, if_neg hc123, if_neg hc129, if_neg hc135, if_pos hc141]; rfl)), rfl, rfl⟩) (by first | decide | omega | (dsimp only; omega)) (by first | decide | omega | (dsimp only; omega))
                                            · skip
                                              refine Goes.via (fun _ kk_ => XS.icmpYes X0.here hx rfl (pc0 := 141) (pc' := 148) rfl (hb hby d14_141) rfl (feq hc141).2 (by decide) (by decide) kk_) ?_
                                              show Goes p e below _ (s₁.setTop (mkF m 148 #[.val (.int c_)] []))
                                              refine Goes.via (fun _ kk_ => XS.iconst X0.here hx rfl (hb hby d14_148) kk_) ?_
                                              show Goes p e below _ (s₁.setTop (mkF m 149 #[.val (.int c_)] [(.int (0 : Int32))]))
                                              exact own_finN X0 hx hlk hret (by simp) (hb hby d14_149) (by rw [e0]; exact ⟨(by first | (rw [own_exp, if_neg hc3, if_pos hc9, if_neg hc17, if_pos hc23, if_pos hc31, if_neg hc45, if_neg hc51, if_neg hc57, if_neg hc63, if_neg hc69, if_neg hc75, if_neg hc81, if_neg hc87, if_neg hc93, if_neg hc99, if_neg hc105, if_neg hc111, if_neg hc117, if_neg hc123, if_neg hc129, if_neg hc135, if_neg hc141]; done) | (rw [own_exp, if_neg hc3, if_pos hc9, if_neg hc17, if_pos hc23, if_pos hc31, if_neg hc45, if_neg hc51, if_neg hc57, if_neg hc63, if_neg hc69, if_neg hc75, if_neg hc81, if_neg hc87, if_neg hc93, if_neg hc99, if_neg hc105, if_neg hc111, if_neg hc117, if_neg hc123, if_neg hc129, if_neg hc135, if_neg hc141]; rfl)), rfl, rfl⟩) (by first | decide | omega | (dsimp only; omega)) (by first | decide | omega | (dsimp only; omega))
          · skip
            refine Goes.via (fun _ kk_ => XS.icmpNo X0.here hx rfl (hb hby d14_31) rfl (flt hc31).1 kk_) ?_
            show Goes p e below _ (s₁.setTop (mkF m 34 #[.val (.int c_)] []))
            refine Goes.via (fun _ kk_ => XS.iloadN X0.here hx rfl (hb hby d14_34) rfl  kk_) ?_
            show Goes p e below _ (s₁.setTop (mkF m 35 #[.val (.int c_)] [(.int c_)]))
            refine Goes.via (fun _ kk_ => XS.bipush X0.here hx rfl (hb hby d14_35) kk_) ?_
            show Goes p e below _ (s₁.setTop (mkF m 37 #[.val (.int c_)] [(.int (57 : Int32)), (.int c_)]))
            by_cases hc37 : (57 : Int32) < c_
            · skip
              refine Goes.via (fun _ kk_ => XS.icmpYes X0.here hx rfl (pc0 := 37) (pc' := 42) rfl (hb hby d14_37) rfl (tlt hc37).2.2.1 (by decide) (by decide) kk_) ?_
              show Goes p e below _ (s₁.setTop (mkF m 42 #[.val (.int c_)] []))
              refine Goes.via (fun _ kk_ => XS.iloadN X0.here hx rfl (hb hby d14_42) rfl  kk_) ?_
              show Goes p e below _ (s₁.setTop (mkF m 43 #[.val (.int c_)] [(.int c_)]))
              refine Goes.via (fun _ kk_ => XS.bipush X0.here hx rfl (hb hby d14_43) kk_) ?_
              show Goes p e below _ (s₁.setTop (mkF m 45 #[.val (.int c_)] [(.int (126 : Int32)), (.int c_)]))
              by_cases hc45 : c_ = (126 : Int32)
              · skip
                refine Goes.via (fun _ kk_ => XS.icmpYes X0.here hx rfl (pc0 := 45) (pc' := 144) rfl (hb hby d14_45) rfl (teq hc45).1 (by decide) (by decide) kk_) ?_
                show Goes p e below _ (s₁.setTop (mkF m 144 #[.val (.int c_)] []))
                refine Goes.via (fun _ kk_ => XS.iconst X0.here hx rfl (hb hby d14_144) kk_) ?_
                show Goes p e below _ (s₁.setTop (mkF m 145 #[.val (.int c_)] [(.int (1 : Int32))]))
                refine Goes.via (fun _ kk_ => XS.goto X0.here hx rfl (pc0 := 145) (pc' := 149) rfl (hb hby d14_145) (by decide) (by decide) kk_) ?_
                show Goes p e below _ (s₁.setTop (mkF m 149 #[.val (.int c_)] [(.int (1 : Int32))]))
                exact own_finN X0 hx hlk hret (by simp) (hb hby d14_149) (by rw [e0]; exact ⟨(by first | (rw [own_exp, if_neg hc3, if_pos hc9, if_neg hc17, if_pos hc23, if_neg hc31, if_pos hc37, if_pos hc45]; done) | (rw [own_exp, if_neg hc3, if_pos hc9, if_neg hc17, if_pos hc23, if_neg hc31, if_pos hc37, if_pos hc45]; rfl)), rfl, rfl⟩) (by first | decide | omega | (dsimp only; omega)) (by first | decide | omega | (dsimp only; omega))
              · skip
                refine Goes.via (fun _ kk_ => XS.icmpNo X0.here hx rfl (hb hby d14_45) rfl (feq hc45).1 kk_) ?_
                show Goes p e below _ (s₁.setTop (mkF m 48 #[.val (.int c_)] []))
                refine Goes.via (fun _ kk_ => XS.iloadN X0.here hx rfl (hb hby d14_48) rfl  kk_) ?_
                show Goes p e below _ (s₁.setTop (mkF m 49 #[.val (.int c_)] [(.int c_)]))
                refine Goes.via (fun _ kk_ => XS.bipush X0.here hx rfl (hb hby d14_49) kk_) ?_
                show Goes p e below _ (s₁.setTop (mkF m 51 #[.val (.int c_)] [(.int (33 : Int32)), (.int c_)]))
                by_cases hc51 : c_ = (33 : Int32)
                · skip
                  refine Goes.via (fun _ kk_ => XS.icmpYes X0.here hx rfl (pc0 := 51) (pc' := 144) rfl (hb hby d14_51) rfl (teq hc51).1 (by decide) (by decide) kk_) ?_
                  show Goes p e below _ (s₁.setTop (mkF m 144 #[.val (.int c_)] []))
                  refine Goes.via (fun _ kk_ => XS.iconst X0.here hx rfl (hb hby d14_144) kk_) ?_
                  show Goes p e below _ (s₁.setTop (mkF m 145 #[.val (.int c_)] [(.int (1 : Int32))]))
                  refine Goes.via (fun _ kk_ => XS.goto X0.here hx rfl (pc0 := 145) (pc' := 149) rfl (hb hby d14_145) (by decide) (by decide) kk_) ?_
                  show Goes p e below _ (s₁.setTop (mkF m 149 #[.val (.int c_)] [(.int (1 : Int32))]))
                  exact own_finN X0 hx hlk hret (by simp) (hb hby d14_149) (by rw [e0]; exact ⟨(by first | (rw [own_exp, if_neg hc3, if_pos hc9, if_neg hc17, if_pos hc23, if_neg hc31, if_pos hc37, if_neg hc45, if_pos hc51]; done) | (rw [own_exp, if_neg hc3, if_pos hc9, if_neg hc17, if_pos hc23, if_neg hc31, if_pos hc37, if_neg hc45, if_pos hc51]; rfl)), rfl, rfl⟩) (by first | decide | omega | (dsimp only; omega)) (by first | decide | omega | (dsimp only; omega))
                · skip
                  refine Goes.via (fun _ kk_ => XS.icmpNo X0.here hx rfl (hb hby d14_51) rfl (feq hc51).1 kk_) ?_
                  show Goes p e below _ (s₁.setTop (mkF m 54 #[.val (.int c_)] []))
                  refine Goes.via (fun _ kk_ => XS.iloadN X0.here hx rfl (hb hby d14_54) rfl  kk_) ?_
                  show Goes p e below _ (s₁.setTop (mkF m 55 #[.val (.int c_)] [(.int c_)]))
                  refine Goes.via (fun _ kk_ => XS.bipush X0.here hx rfl (hb hby d14_55) kk_) ?_
                  show Goes p e below _ (s₁.setTop (mkF m 57 #[.val (.int c_)] [(.int (64 : Int32)), (.int c_)]))
                  by_cases hc57 : c_ = (64 : Int32)
                  · skip
                    refine Goes.via (fun _ kk_ => XS.icmpYes X0.here hx rfl (pc0 := 57) (pc' := 144) rfl (hb hby d14_57) rfl (teq hc57).1 (by decide) (by decide) kk_) ?_
                    show Goes p e below _ (s₁.setTop (mkF m 144 #[.val (.int c_)] []))
                    refine Goes.via (fun _ kk_ => XS.iconst X0.here hx rfl (hb hby d14_144) kk_) ?_
                    show Goes p e below _ (s₁.setTop (mkF m 145 #[.val (.int c_)] [(.int (1 : Int32))]))
                    refine Goes.via (fun _ kk_ => XS.goto X0.here hx rfl (pc0 := 145) (pc' := 149) rfl (hb hby d14_145) (by decide) (by decide) kk_) ?_
                    show Goes p e below _ (s₁.setTop (mkF m 149 #[.val (.int c_)] [(.int (1 : Int32))]))
                    exact own_finN X0 hx hlk hret (by simp) (hb hby d14_149) (by rw [e0]; exact ⟨(by first | (rw [own_exp, if_neg hc3, if_pos hc9, if_neg hc17, if_pos hc23, if_neg hc31, if_pos hc37, if_neg hc45, if_neg hc51, if_pos hc57]; done) | (rw [own_exp, if_neg hc3, if_pos hc9, if_neg hc17, if_pos hc23, if_neg hc31, if_pos hc37, if_neg hc45, if_neg hc51, if_pos hc57]; rfl)), rfl, rfl⟩) (by first | decide | omega | (dsimp only; omega)) (by first | decide | omega | (dsimp only; omega))
                  · skip
                    refine Goes.via (fun _ kk_ => XS.icmpNo X0.here hx rfl (hb hby d14_57) rfl (feq hc57).1 kk_) ?_
                    show Goes p e below _ (s₁.setTop (mkF m 60 #[.val (.int c_)] []))
                    refine Goes.via (fun _ kk_ => XS.iloadN X0.here hx rfl (hb hby d14_60) rfl  kk_) ?_
                    show Goes p e below _ (s₁.setTop (mkF m 61 #[.val (.int c_)] [(.int c_)]))
                    refine Goes.via (fun _ kk_ => XS.bipush X0.here hx rfl (hb hby d14_61) kk_) ?_
                    show Goes p e below _ (s₁.setTop (mkF m 63 #[.val (.int c_)] [(.int (36 : Int32)), (.int c_)]))
                    by_cases hc63 : c_ = (36 : Int32)
                    · skip
                      refine Goes.via (fun _ kk_ => XS.icmpYes X0.here hx rfl (pc0 := 63) (pc' := 144) rfl (hb hby d14_63) rfl (teq hc63).1 (by decide) (by decide) kk_) ?_
                      show Goes p e below _ (s₁.setTop (mkF m 144 #[.val (.int c_)] []))
                      refine Goes.via (fun _ kk_ => XS.iconst X0.here hx rfl (hb hby d14_144) kk_) ?_
                      show Goes p e below _ (s₁.setTop (mkF m 145 #[.val (.int c_)] [(.int (1 : Int32))]))
                      refine Goes.via (fun _ kk_ => XS.goto X0.here hx rfl (pc0 := 145) (pc' := 149) rfl (hb hby d14_145) (by decide) (by decide) kk_) ?_
                      show Goes p e below _ (s₁.setTop (mkF m 149 #[.val (.int c_)] [(.int (1 : Int32))]))
                      exact own_finN X0 hx hlk hret (by simp) (hb hby d14_149) (by rw [e0]; exact ⟨(by first | (rw [own_exp, if_neg hc3, if_pos hc9, if_neg hc17, if_pos hc23, if_neg hc31, if_pos hc37, if_neg hc45, if_neg hc51, if_neg hc57, if_pos hc63]; done) | (rw [own_exp, if_neg hc3, if_pos hc9, if_neg hc17, if_pos hc23, if_neg hc31, if_pos hc37, if_neg hc45, if_neg hc51, if_neg hc57, if_pos hc63]; rfl)), rfl, rfl⟩) (by first | decide | omega | (dsimp only; omega)) (by first | decide | omega | (dsimp only; omega))
                    · skip
                      refine Goes.via (fun _ kk_ => XS.icmpNo X0.here hx rfl (hb hby d14_63) rfl (feq hc63).1 kk_) ?_
                      show Goes p e below _ (s₁.setTop (mkF m 66 #[.val (.int c_)] []))
                      refine Goes.via (fun _ kk_ => XS.iloadN X0.here hx rfl (hb hby d14_66) rfl  kk_) ?_
                      show Goes p e below _ (s₁.setTop (mkF m 67 #[.val (.int c_)] [(.int c_)]))
                      refine Goes.via (fun _ kk_ => XS.bipush X0.here hx rfl (hb hby d14_67) kk_) ?_
                      show Goes p e below _ (s₁.setTop (mkF m 69 #[.val (.int c_)] [(.int (37 : Int32)), (.int c_)]))
                      by_cases hc69 : c_ = (37 : Int32)
                      · skip
                        refine Goes.via (fun _ kk_ => XS.icmpYes X0.here hx rfl (pc0 := 69) (pc' := 144) rfl (hb hby d14_69) rfl (teq hc69).1 (by decide) (by decide) kk_) ?_
                        show Goes p e below _ (s₁.setTop (mkF m 144 #[.val (.int c_)] []))
                        refine Goes.via (fun _ kk_ => XS.iconst X0.here hx rfl (hb hby d14_144) kk_) ?_
                        show Goes p e below _ (s₁.setTop (mkF m 145 #[.val (.int c_)] [(.int (1 : Int32))]))
                        refine Goes.via (fun _ kk_ => XS.goto X0.here hx rfl (pc0 := 145) (pc' := 149) rfl (hb hby d14_145) (by decide) (by decide) kk_) ?_
                        show Goes p e below _ (s₁.setTop (mkF m 149 #[.val (.int c_)] [(.int (1 : Int32))]))
                        exact own_finN X0 hx hlk hret (by simp) (hb hby d14_149) (by rw [e0]; exact ⟨(by first | (rw [own_exp, if_neg hc3, if_pos hc9, if_neg hc17, if_pos hc23, if_neg hc31, if_pos hc37, if_neg hc45, if_neg hc51, if_neg hc57, if_neg hc63, if_pos hc69]; done) | (rw [own_exp, if_neg hc3, if_pos hc9, if_neg hc17, if_pos hc23, if_neg hc31, if_pos hc37, if_neg hc45, if_neg hc51, if_neg hc57, if_neg hc63, if_pos hc69]; rfl)), rfl, rfl⟩) (by first | decide | omega | (dsimp only; omega)) (by first | decide | omega | (dsimp only; omega))
                      · skip
                        refine Goes.via (fun _ kk_ => XS.icmpNo X0.here hx rfl (hb hby d14_69) rfl (feq hc69).1 kk_) ?_
                        show Goes p e below _ (s₁.setTop (mkF m 72 #[.val (.int c_)] []))
                        refine Goes.via (fun _ kk_ => XS.iloadN X0.here hx rfl (hb hby d14_72) rfl  kk_) ?_
                        show Goes p e below _ (s₁.setTop (mkF m 73 #[.val (.int c_)] [(.int c_)]))
                        refine Goes.via (fun _ kk_ => XS.bipush X0.here hx rfl (hb hby d14_73) kk_) ?_
                        show Goes p e below _ (s₁.setTop (mkF m 75 #[.val (.int c_)] [(.int (94 : Int32)), (.int c_)]))
                        by_cases hc75 : c_ = (94 : Int32)
                        · skip
                          refine Goes.via (fun _ kk_ => XS.icmpYes X0.here hx rfl (pc0 := 75) (pc' := 144) rfl (hb hby d14_75) rfl (teq hc75).1 (by decide) (by decide) kk_) ?_
                          show Goes p e below _ (s₁.setTop (mkF m 144 #[.val (.int c_)] []))
                          refine Goes.via (fun _ kk_ => XS.iconst X0.here hx rfl (hb hby d14_144) kk_) ?_
                          show Goes p e below _ (s₁.setTop (mkF m 145 #[.val (.int c_)] [(.int (1 : Int32))]))
                          refine Goes.via (fun _ kk_ => XS.goto X0.here hx rfl (pc0 := 145) (pc' := 149) rfl (hb hby d14_145) (by decide) (by decide) kk_) ?_
                          show Goes p e below _ (s₁.setTop (mkF m 149 #[.val (.int c_)] [(.int (1 : Int32))]))
                          exact own_finN X0 hx hlk hret (by simp) (hb hby d14_149) (by rw [e0]; exact ⟨(by first | (rw [own_exp, if_neg hc3, if_pos hc9, if_neg hc17, if_pos hc23, if_neg hc31, if_pos hc37, if_neg hc45, if_neg hc51, if_neg hc57, if_neg hc63, if_neg hc69, if_pos hc75]; done) | (rw [own_exp, if_neg hc3, if_pos hc9, if_neg hc17, if_pos hc23, if_neg hc31, if_pos hc37, if_neg hc45, if_neg hc51, if_neg hc57, if_neg hc63, if_neg hc69, if_pos hc75]; rfl)), rfl, rfl⟩) (by first | decide | omega | (dsimp only; omega)) (by first | decide | omega | (dsimp only; omega))
                        · skip
                          refine Goes.via (fun _ kk_ => XS.icmpNo X0.here hx rfl (hb hby d14_75) rfl (feq hc75).1 kk_) ?_
                          show Goes p e below _ (s₁.setTop (mkF m 78 #[.val (.int c_)] []))
                          refine Goes.via (fun _ kk_ => XS.iloadN X0.here hx rfl (hb hby d14_78) rfl  kk_) ?_
                          show Goes p e below _ (s₁.setTop (mkF m 79 #[.val (.int c_)] [(.int c_)]))
                          refine Goes.via (fun _ kk_ => XS.bipush X0.here hx rfl (hb hby d14_79) kk_) ?_
                          show Goes p e below _ (s₁.setTop (mkF m 81 #[.val (.int c_)] [(.int (38 : Int32)), (.int c_)]))
                          by_cases hc81 : c_ = (38 : Int32)
                          · skip
                            refine Goes.via (fun _ kk_ => XS.icmpYes X0.here hx rfl (pc0 := 81) (pc' := 144) rfl (hb hby d14_81) rfl (teq hc81).1 (by decide) (by decide) kk_) ?_
                            show Goes p e below _ (s₁.setTop (mkF m 144 #[.val (.int c_)] []))
                            refine Goes.via (fun _ kk_ => XS.iconst X0.here hx rfl (hb hby d14_144) kk_) ?_
                            show Goes p e below _ (s₁.setTop (mkF m 145 #[.val (.int c_)] [(.int (1 : Int32))]))
                            refine Goes.via (fun _ kk_ => XS.goto X0.here hx rfl (pc0 := 145) (pc' := 149) rfl (hb hby d14_145) (by decide) (by decide) kk_) ?_
                            show Goes p e below _ (s₁.setTop (mkF m 149 #[.val (.int c_)] [(.int (1 : Int32))]))
                            exact own_finN X0 hx hlk hret (by simp) (hb hby d14_149) (by rw [e0]; exact ⟨(by first | (rw [own_exp, if_neg hc3, if_pos hc9, if_neg hc17, if_pos hc23, if_neg hc31, if_pos hc37, if_neg hc45, if_neg hc51, if_neg hc57, if_neg hc63, if_neg hc69, if_neg hc75, if_pos hc81]; done) | (rw [own_exp, if_neg hc3, if_pos hc9, if_neg hc17, if_pos hc23, if_neg hc31, if_pos hc37, if_neg hc45, if_neg hc51, if_neg hc57, if_neg hc63, if_neg hc69, if_neg hc75, if_pos hc81]; rfl)), rfl, rfl⟩) (by first | decide | omega | (dsimp only; omega)) (by first | decide | omega | (dsimp only; omega))
                          · skip
                            refine Goes.via (fun _ kk_ => XS.icmpNo X0.here hx rfl (hb hby d14_81) rfl (feq hc81).1 kk_) ?_
                            show Goes p e below _ (s₁.setTop (mkF m 84 #[.val (.int c_)] []))
                            refine Goes.via (fun _ kk_ => XS.iloadN X0.here hx rfl (hb hby d14_84) rfl  kk_) ?_
                            show Goes p e below _ (s₁.setTop (mkF m 85 #[.val (.int c_)] [(.int c_)]))
                            refine Goes.via (fun _ kk_ => XS.bipush X0.here hx rfl (hb hby d14_85) kk_) ?_
                            show Goes p e below _ (s₁.setTop (mkF m 87 #[.val (.int c_)] [(.int (42 : Int32)), (.int c_)]))
                            by_cases hc87 : c_ = (42 : Int32)
                            · skip
                              refine Goes.via (fun _ kk_ => XS.icmpYes X0.here hx rfl (pc0 := 87) (pc' := 144) rfl (hb hby d14_87) rfl (teq hc87).1 (by decide) (by decide) kk_) ?_
                              show Goes p e below _ (s₁.setTop (mkF m 144 #[.val (.int c_)] []))
                              refine Goes.via (fun _ kk_ => XS.iconst X0.here hx rfl (hb hby d14_144) kk_) ?_
                              show Goes p e below _ (s₁.setTop (mkF m 145 #[.val (.int c_)] [(.int (1 : Int32))]))
                              refine Goes.via (fun _ kk_ => XS.goto X0.here hx rfl (pc0 := 145) (pc' := 149) rfl (hb hby d14_145) (by decide) (by decide) kk_) ?_
                              show Goes p e below _ (s₁.setTop (mkF m 149 #[.val (.int c_)] [(.int (1 : Int32))]))
                              exact own_finN X0 hx hlk hret (by simp) (hb hby d14_149) (by rw [e0]; exact ⟨(by first | (rw [own_exp, if_neg hc3, if_pos hc9, if_neg hc17, if_pos hc23, if_neg hc31, if_pos hc37, if_neg hc45, if_neg hc51, if_neg hc57, if_neg hc63, if_neg hc69, if_neg hc75, if_neg hc81, if_pos hc87]; done) | (rw [own_exp, if_neg hc3, if_pos hc9, if_neg hc17, if_pos hc23, if_neg hc31, if_pos hc37, if_neg hc45, if_neg hc51, if_neg hc57, if_neg hc63, if_neg hc69, if_neg hc75, if_neg hc81, if_pos hc87]; rfl)), rfl, rfl⟩) (by first | decide | omega | (dsimp only; omega)) (by first | decide | omega | (dsimp only; omega))
                            · skip
                              refine Goes.via (fun _ kk_ => XS.icmpNo X0.here hx rfl (hb hby d14_87) rfl (feq hc87).1 kk_) ?_
                              show Goes p e below _ (s₁.setTop (mkF m 90 #[.val (.int c_)] []))
                              refine Goes.via (fun _ kk_ => XS.iloadN X0.here hx rfl (hb hby d14_90) rfl  kk_) ?_
                              show Goes p e below _ (s₁.setTop (mkF m 91 #[.val (.int c_)] [(.int c_)]))
                              refine Goes.via (fun _ kk_ => XS.bipush X0.here hx rfl (hb hby d14_91) kk_) ?_
                              show Goes p e below _ (s₁.setTop (mkF m 93 #[.val (.int c_)] [(.int (95 : Int32)), (.int c_)]))
                              by_cases hc93 : c_ = (95 : Int32)
                              · skip
                                refine Goes.via (fun _ kk_ => XS.icmpYes X0.here hx rfl (pc0 := 93) (pc' := 144) rfl (hb hby d14_93) rfl (teq hc93).1 (by decide) (by decide) kk_) ?_
                                show Goes p e below _ (s₁.setTop (mkF m 144 #[.val (.int c_)] []))
                                refine Goes.via (fun _ kk_ => XS.iconst X0.here hx rfl (hb hby d14_144) kk_) ?_
                                show Goes p e below _ (s₁.setTop (mkF m 145 #[.val (.int c_)] [(.int (1 : Int32))]))
                                refine Goes.via (fun _ kk_ => XS.goto X0.here hx rfl (pc0 := 145) (pc' := 149) rfl (hb hby d14_145) (by decide) (by decide) kk_) ?_
                                show Goes p e below _ (s₁.setTop (mkF m 149 #[.val (.int c_)] [(.int (1 : Int32))]))
                                exact own_finN X0 hx hlk hret (by simp) (hb hby d14_149) (by rw [e0]; exact ⟨(by first | (rw [own_exp, if_neg hc3, if_pos hc9, if_neg hc17, if_pos hc23, if_neg hc31, if_pos hc37, if_neg hc45, if_neg hc51, if_neg hc57, if_neg hc63, if_neg hc69, if_neg hc75, if_neg hc81, if_neg hc87, if_pos hc93]; done) | (rw [own_exp, if_neg hc3, if_pos hc9, if_neg hc17, if_pos hc23, if_neg hc31, if_pos hc37, if_neg hc45, if_neg hc51, if_neg hc57, if_neg hc63, if_neg hc69, if_neg hc75, if_neg hc81, if_neg hc87, if_pos hc93]; rfl)), rfl, rfl⟩) (by first | decide | omega | (dsimp only; omega)) (by first | decide | omega | (dsimp only; omega))
                              · skip
                                refine Goes.via (fun _ kk_ => XS.icmpNo X0.here hx rfl (hb hby d14_93) rfl (feq hc93).1 kk_) ?_
                                show Goes p e below _ (s₁.setTop (mkF m 96 #[.val (.int c_)] []))
                                refine Goes.via (fun _ kk_ => XS.iloadN X0.here hx rfl (hb hby d14_96) rfl  kk_) ?_
                                show Goes p e below _ (s₁.setTop (mkF m 97 #[.val (.int c_)] [(.int c_)]))
                                refine Goes.via (fun _ kk_ => XS.bipush X0.here hx rfl (hb hby d14_97) kk_) ?_
                                show Goes p e below _ (s₁.setTop (mkF m 99 #[.val (.int c_)] [(.int (45 : Int32)), (.int c_)]))
                                by_cases hc99 : c_ = (45 : Int32)
                                · skip
                                  refine Goes.via (fun _ kk_ => XS.icmpYes X0.here hx rfl (pc0 := 99) (pc' := 144) rfl (hb hby d14_99) rfl (teq hc99).1 (by decide) (by decide) kk_) ?_
                                  show Goes p e below _ (s₁.setTop (mkF m 144 #[.val (.int c_)] []))
                                  refine Goes.via (fun _ kk_ => XS.iconst X0.here hx rfl (hb hby d14_144) kk_) ?_
                                  show Goes p e below _ (s₁.setTop (mkF m 145 #[.val (.int c_)] [(.int (1 : Int32))]))
                                  refine Goes.via (fun _ kk_ => XS.goto X0.here hx rfl (pc0 := 145) (pc' := 149) rfl (hb hby d14_145) (by decide) (by decide) kk_) ?_
                                  show Goes p e below _ (s₁.setTop (mkF m 149 #[.val (.int c_)] [(.int (1 : Int32))]))
                                  exact own_finN X0 hx hlk hret (by simp) (hb hby d14_149) (by rw [e0]; exact ⟨(by first | (rw [own_exp, if_neg hc3, if_pos hc9, if_neg hc17, if_pos hc23, if_neg hc31, if_pos hc37, if_neg hc45, if_neg hc51, if_neg hc57, if_neg hc63, if_neg hc69, if_neg hc75, if_neg hc81, if_neg hc87, if_neg hc93, if_pos hc99]; done) | (rw [own_exp, if_neg hc3, if_pos hc9, if_neg hc17, if_pos hc23, if_neg hc31, if_pos hc37, if_neg hc45, if_neg hc51, if_neg hc57, if_neg hc63, if_neg hc69, if_neg hc75, if_neg hc81, if_neg hc87, if_neg hc93, if_pos hc99]; rfl)), rfl, rfl⟩) (by first | decide | omega | (dsimp only; omega)) (by first | decide | omega | (dsimp only; omega))
                                · skip
                                  refine Goes.via (fun _ kk_ => XS.icmpNo X0.here hx rfl (hb hby d14_99) rfl (feq hc99).1 kk_) ?_
                                  show Goes p e below _ (s₁.setTop (mkF m 102 #[.val (.int c_)] []))
                                  refine Goes.via (fun _ kk_ => XS.iloadN X0.here hx rfl (hb hby d14_102) rfl  kk_) ?_
                                  show Goes p e below _ (s₁.setTop (mkF m 103 #[.val (.int c_)] [(.int c_)]))
                                  refine Goes.via (fun _ kk_ => XS.bipush X0.here hx rfl (hb hby d14_103) kk_) ?_
                                  show Goes p e below _ (s₁.setTop (mkF m 105 #[.val (.int c_)] [(.int (43 : Int32)), (.int c_)]))
                                  by_cases hc105 : c_ = (43 : Int32)
                                  · skip
                                    refine Goes.via (fun _ kk_ => XS.icmpYes X0.here hx rfl (pc0 := 105) (pc' := 144) rfl (hb hby d14_105) rfl (teq hc105).1 (by decide) (by decide) kk_) ?_
                                    show Goes p e below _ (s₁.setTop (mkF m 144 #[.val (.int c_)] []))
                                    refine Goes.via (fun _ kk_ => XS.iconst X0.here hx rfl (hb hby d14_144) kk_) ?_
                                    show Goes p e below _ (s₁.setTop (mkF m 145 #[.val (.int c_)] [(.int (1 : Int32))]))
                                    refine Goes.via (fun _ kk_ => XS.goto X0.here hx rfl (pc0 := 145) (pc' := 149) rfl (hb hby d14_145) (by decide) (by decide) kk_) ?_
                                    show Goes p e below _ (s₁.setTop (mkF m 149 #[.val (.int c_)] [(.int (1 : Int32))]))
                                    exact own_finN X0 hx hlk hret (by simp) (hb hby d14_149) (by rw [e0]; exact ⟨(by first | (rw [own_exp, if_neg hc3, if_pos hc9, if_neg hc17, if_pos hc23, if_neg hc31, if_pos hc37, if_neg hc45, if_neg hc51, if_neg hc57, if_neg hc63, if_neg hc69, if_neg hc75, if_neg hc81, if_neg hc87, if_neg hc93, if_neg hc99, if_pos hc105]; done) | (rw [own_exp, if_neg hc3, if_pos hc9, if_neg hc17, if_pos hc23, if_neg hc31, if_pos hc37, if_neg hc45, if_neg hc51, if_neg hc57, if_neg hc63, if_neg hc69, if_neg hc75, if_neg hc81, if_neg hc87, if_neg hc93, if_neg hc99, if_pos hc105]; rfl)), rfl, rfl⟩) (by first | decide | omega | (dsimp only; omega)) (by first | decide | omega | (dsimp only; omega))
                                  · skip
                                    refine Goes.via (fun _ kk_ => XS.icmpNo X0.here hx rfl (hb hby d14_105) rfl (feq hc105).1 kk_) ?_
                                    show Goes p e below _ (s₁.setTop (mkF m 108 #[.val (.int c_)] []))
                                    refine Goes.via (fun _ kk_ => XS.iloadN X0.here hx rfl (hb hby d14_108) rfl  kk_) ?_
                                    show Goes p e below _ (s₁.setTop (mkF m 109 #[.val (.int c_)] [(.int c_)]))
                                    refine Goes.via (fun _ kk_ => XS.bipush X0.here hx rfl (hb hby d14_109) kk_) ?_
                                    show Goes p e below _ (s₁.setTop (mkF m 111 #[.val (.int c_)] [(.int (61 : Int32)), (.int c_)]))
                                    by_cases hc111 : c_ = (61 : Int32)
                                    · skip
                                      refine Goes.via (fun _ kk_ => XS.icmpYes X0.here hx rfl (pc0 := 111) (pc' := 144) rfl (hb hby d14_111) rfl (teq hc111).1 (by decide) (by decide) kk_) ?_
                                      show Goes p e below _ (s₁.setTop (mkF m 144 #[.val (.int c_)] []))
                                      refine Goes.via (fun _ kk_ => XS.iconst X0.here hx rfl (hb hby d14_144) kk_) ?_
                                      show Goes p e below _ (s₁.setTop (mkF m 145 #[.val (.int c_)] [(.int (1 : Int32))]))
                                      refine Goes.via (fun _ kk_ => XS.goto X0.here hx rfl (pc0 := 145) (pc' := 149) rfl (hb hby d14_145) (by decide) (by decide) kk_) ?_
                                      show Goes p e below _ (s₁.setTop (mkF m 149 #[.val (.int c_)] [(.int (1 : Int32))]))
                                      exact own_finN X0 hx hlk hret (by simp) (hb hby d14_149) (by rw [e0]; exact ⟨(by first | (rw [own_exp, if_neg hc3, if_pos hc9, if_neg hc17, if_pos hc23, if_neg hc31, if_pos hc37, if_neg hc45, if_neg hc51, if_neg hc57, if_neg hc63, if_neg hc69, if_neg hc75, if_neg hc81, if_neg hc87, if_neg hc93, if_neg hc99, if_neg hc105, if_pos hc111]; done) | (rw [own_exp, if_neg hc3, if_pos hc9, if_neg hc17, if_pos hc23, if_neg hc31, if_pos hc37, if_neg hc45, if_neg hc51, if_neg hc57, if_neg hc63, if_neg hc69, if_neg hc75, if_neg hc81, if_neg hc87, if_neg hc93, if_neg hc99, if_neg hc105, if_pos hc111]; rfl)), rfl, rfl⟩) (by first | decide | omega | (dsimp only; omega)) (by first | decide | omega | (dsimp only; omega))
                                    · skip
                                      refine Goes.via (fun _ kk_ => XS.icmpNo X0.here hx rfl (hb hby d14_111) rfl (feq hc111).1 kk_) ?_
                                      show Goes p e below _ (s₁.setTop (mkF m 114 #[.val (.int c_)] []))
                                      refine Goes.via (fun _ kk_ => XS.iloadN X0.here hx rfl (hb hby d14_114) rfl  kk_) ?_
                                      show Goes p e below _ (s₁.setTop (mkF m 115 #[.val (.int c_)] [(.int c_)]))
                                      refine Goes.via (fun _ kk_ => XS.bipush X0.here hx rfl (hb hby d14_115) kk_) ?_
                                      show Goes p e below _ (s₁.setTop (mkF m 117 #[.val (.int c_)] [(.int (60 : Int32)), (.int c_)]))
                                      by_cases hc117 : c_ = (60 : Int32)
                                      · skip
                                        refine Goes.via (fun _ kk_ => XS.icmpYes X0.here hx rfl (pc0 := 117) (pc' := 144) rfl (hb hby d14_117) rfl (teq hc117).1 (by decide) (by decide) kk_) ?_
                                        show Goes p e below _ (s₁.setTop (mkF m 144 #[.val (.int c_)] []))
                                        refine Goes.via (fun _ kk_ => XS.iconst X0.here hx rfl (hb hby d14_144) kk_) ?_
                                        show Goes p e below _ (s₁.setTop (mkF m 145 #[.val (.int c_)] [(.int (1 : Int32))]))
                                        refine Goes.via (fun _ kk_ => XS.goto X0.here hx rfl (pc0 := 145) (pc' := 149) rfl (hb hby d14_145) (by decide) (by decide) kk_) ?_
                                        show Goes p e below _ (s₁.setTop (mkF m 149 #[.val (.int c_)] [(.int (1 : Int32))]))
                                        exact own_finN X0 hx hlk hret (by simp) (hb hby d14_149) (by rw [e0]; exact ⟨(by first | (rw [own_exp, if_neg hc3, if_pos hc9, if_neg hc17, if_pos hc23, if_neg hc31, if_pos hc37, if_neg hc45, if_neg hc51, if_neg hc57, if_neg hc63, if_neg hc69, if_neg hc75, if_neg hc81, if_neg hc87, if_neg hc93, if_neg hc99, if_neg hc105, if_neg hc111, if_pos hc117]; done) | (rw [own_exp, if_neg hc3, if_pos hc9, if_neg hc17, if_pos hc23, if_neg hc31, if_pos hc37, if_neg hc45, if_neg hc51, if_neg hc57, if_neg hc63, if_neg hc69, if_neg hc75, if_neg hc81, if_neg hc87, if_neg hc93, if_neg hc99, if_neg hc105, if_neg hc111, if_pos hc117]; rfl)), rfl, rfl⟩) (by first | decide | omega | (dsimp only; omega)) (by first | decide | omega | (dsimp only; omega))
                                      · skip
                                        refine Goes.via (fun _ kk_ => XS.icmpNo X0.here hx rfl (hb hby d14_117) rfl (feq hc117).1 kk_) ?_
                                        show Goes p e below _ (s₁.setTop (mkF m 120 #[.val (.int c_)] []))
                                        refine Goes.via (fun _ kk_ => XS.iloadN X0.here hx rfl (hb hby d14_120) rfl  kk_) ?_
                                        show Goes p e below _ (s₁.setTop (mkF m 121 #[.val (.int c_)] [(.int c_)]))
                                        refine Goes.via (fun _ kk_ => XS.bipush X0.here hx rfl (hb hby d14_121) kk_) ?_
                                        show Goes p e below _ (s₁.setTop (mkF m 123 #[.val (.int c_)] [(.int (62 : Int32)), (.int c_)]))
                                        by_cases hc123 : c_ = (62 : Int32)
                                        · skip
                                          refine Goes.via (fun _ kk_ => XS.icmpYes X0.here hx rfl (pc0 := 123) (pc' := 144) rfl (hb hby d14_123) rfl (teq hc123).1 (by decide) (by decide) kk_) ?_
                                          show Goes p e below _ (s₁.setTop (mkF m 144 #[.val (.int c_)] []))
                                          refine Goes.via (fun _ kk_ => XS.iconst X0.here hx rfl (hb hby d14_144) kk_) ?_
                                          show Goes p e below _ (s₁.setTop (mkF m 145 #[.val (.int c_)] [(.int (1 : Int32))]))
                                          refine Goes.via (fun _ kk_ => XS.goto X0.here hx rfl (pc0 := 145) (pc' := 149) rfl (hb hby d14_145) (by decide) (by decide) kk_) ?_
                                          show Goes p e below _ (s₁.setTop (mkF m 149 #[.val (.int c_)] [(.int (1 : Int32))]))
                                          exact own_finN X0 hx hlk hret (by simp) (hb hby d14_149) (by rw [e0]; exact ⟨(by first | (rw [own_exp, if_neg hc3, if_pos hc9, if_neg hc17, if_pos hc23, if_neg hc31, if_pos hc37, if_neg hc45, if_neg hc51, if_neg hc57, if_neg hc63, if_neg hc69, if_neg hc75, if_neg hc81, if_neg hc87, if_neg hc93, if_neg hc99, if_neg hc105, if_neg hc111, if_neg hc117, if_pos hc123]; done) | (rw [own_exp, if_neg hc3, if_pos hc9, if_neg hc17, if_pos hc23, if_neg hc31, if_pos hc37, if_neg hc45, if_neg hc51, if_neg hc57, if_neg hc63, if_neg hc69, if_neg hc75, if_neg hc81, if_neg hc87, if_neg hc93, if_neg hc99, if_neg hc105, if_neg hc111, if_neg hc117, if_pos hc123]; rfl)), rfl, rfl⟩) (by first | decide | omega | (dsimp only; omega)) (by first | decide | omega | (dsimp only; omega))
                                        · skip
                                          refine Goes.via (fun _ kk_ => XS.icmpNo X0.here hx rfl (hb hby d14_123) rfl (feq hc123).1 kk_) ?_
                                          show Goes p e below _ (s₁.setTop (mkF m 126 #[.val (.int c_)] []))
                                          refine Goes.via (fun _ kk_ => XS.iloadN X0.here hx rfl (hb hby d14_126) rfl  kk_) ?_
                                          show Goes p e below _ (s₁.setTop (mkF m 127 #[.val (.int c_)] [(.int c_)]))
                                          refine Goes.via (fun _ kk_ => XS.bipush X0.here hx rfl (hb hby d14_127) kk_) ?_
                                          show Goes p e below _ (s₁.setTop (mkF m 129 #[.val (.int c_)] [(.int (46 : Int32)), (.int c_)]))
                                          by_cases hc129 : c_ = (46 : Int32)
                                          · skip
                                            refine Goes.via (fun _ kk_ => XS.icmpYes X0.here hx rfl (pc0 := 129) (pc' := 144) rfl (hb hby d14_129) rfl (teq hc129).1 (by decide) (by decide) kk_) ?_
                                            show Goes p e below _ (s₁.setTop (mkF m 144 #[.val (.int c_)] []))
                                            refine Goes.via (fun _ kk_ => XS.iconst X0.here hx rfl (hb hby d14_144) kk_) ?_
                                            show Goes p e below _ (s₁.setTop (mkF m 145 #[.val (.int c_)] [(.int (1 : Int32))]))
                                            refine Goes.via (fun _ kk_ => XS.goto X0.here hx rfl (pc0 := 145) (pc' := 149) rfl (hb hby d14_145) (by decide) (by decide) kk_) ?_
                                            show Goes p e below _ (s₁.setTop (mkF m 149 #[.val (.int c_)] [(.int (1 : Int32))]))
                                            exact own_finN X0 hx hlk hret (by simp) (hb hby d14_149) (by rw [e0]; exact ⟨(by first | (rw [own_exp, if_neg hc3, if_pos hc9, if_neg hc17, if_pos hc23, if_neg hc31, if_pos hc37, if_neg hc45, if_neg hc51, if_neg hc57, if_neg hc63, if_neg hc69, if_neg hc75, if_neg hc81, if_neg hc87, if_neg hc93, if_neg hc99, if_neg hc105, if_neg hc111, if_neg hc117, if_neg hc123, if_pos hc129]; done) | (rw [own_exp, if_neg hc3, if_pos hc9, if_neg hc17, if_pos hc23, if_neg hc31, if_pos hc37, if_neg hc45, if_neg hc51, if_neg hc57, if_neg hc63, if_neg hc69, if_neg hc75, if_neg hc81, if_neg hc87, if_neg hc93, if_neg hc99, if_neg hc105, if_neg hc111, if_neg hc117, if_neg hc123, if_pos hc129]; rfl)), rfl, rfl⟩) (by first | decide | omega | (dsimp only; omega)) (by first | decide | omega | (dsimp only; omega))
                                          · skip
                                            refine Goes.via (fun _ kk_ => XS.icmpNo X0.here hx rfl (hb hby d14_129) rfl (feq hc129).1 kk_) ?_
                                            show Goes p e below _ (s₁.setTop (mkF m 132 #[.val (.int c_)] []))
                                            refine Goes.via (fun _ kk_ => XS.iloadN X0.here hx rfl (hb hby d14_132) rfl  kk_) ?_
                                            show Goes p e below _ (s₁.setTop (mkF m 133 #[.val (.int c_)] [(.int c_)]))
                                            refine Goes.via (fun _ kk_ => XS.bipush X0.here hx rfl (hb hby d14_133) kk_) ?_
                                            show Goes p e below _ (s₁.setTop (mkF m 135 #[.val (.int c_)] [(.int (63 : Int32)), (.int c_)]))
                                            by_cases hc135 : c_ = (63 : Int32)
                                            · skip
                                              refine Goes.via (fun _ kk_ => XS.icmpYes X0.here hx rfl (pc0 := 135) (pc' := 144) rfl (hb hby d14_135) rfl (teq hc135).1 (by decide) (by decide) kk_) ?_
                                              show Goes p e below _ (s₁.setTop (mkF m 144 #[.val (.int c_)] []))
                                              refine Goes.via (fun _ kk_ => XS.iconst X0.here hx rfl (hb hby d14_144) kk_) ?_
                                              show Goes p e below _ (s₁.setTop (mkF m 145 #[.val (.int c_)] [(.int (1 : Int32))]))
                                              refine Goes.via (fun _ kk_ => XS.goto X0.here hx rfl (pc0 := 145) (pc' := 149) rfl (hb hby d14_145) (by decide) (by decide) kk_) ?_
                                              show Goes p e below _ (s₁.setTop (mkF m 149 #[.val (.int c_)] [(.int (1 : Int32))]))
                                              exact own_finN X0 hx hlk hret (by simp) (hb hby d14_149) (by rw [e0]; exact ⟨(by first | (rw [own_exp, if_neg hc3, if_pos hc9, if_neg hc17, if_pos hc23, if_neg hc31, if_pos hc37, if_neg hc45, if_neg hc51, if_neg hc57, if_neg hc63, if_neg hc69, if_neg hc75, if_neg hc81, if_neg hc87, if_neg hc93, if_neg hc99, if_neg hc105, if_neg hc111, if_neg hc117, if_neg hc123, if_neg hc129, if_pos hc135]; done) | (rw [own_exp, if_neg hc3, if_pos hc9, if_neg hc17, if_pos hc23, if_neg hc31, if_pos hc37, if_neg hc45, if_neg hc51, if_neg hc57, if_neg hc63, if_neg hc69, if_neg hc75, if_neg hc81, if_neg hc87, if_neg hc93, if_neg hc99, if_neg hc105, if_neg hc111, if_neg hc117, if_neg hc123, if_neg hc129, if_pos hc135]; rfl)), rfl, rfl⟩) (by first | decide | omega | (dsimp only; omega)) (by first | decide | omega | (dsimp only; omega))
                                            · skip
                                              refine Goes.via (fun _ kk_ => XS.icmpNo X0.here hx rfl (hb hby d14_135) rfl (feq hc135).1 kk_) ?_
                                              show Goes p e below _ (s₁.setTop (mkF m 138 #[.val (.int c_)] []))
                                              refine Goes.via (fun _ kk_ => XS.iloadN X0.here hx rfl (hb hby d14_138) rfl  kk_) ?_
                                              show Goes p e below _ (s₁.setTop (mkF m 139 #[.val (.int c_)] [(.int c_)]))
                                              refine Goes.via (fun _ kk_ => XS.bipush X0.here hx rfl (hb hby d14_139) kk_) ?_
                                              show Goes p e below _ (s₁.setTop (mkF m 141 #[.val (.int c_)] [(.int (47 : Int32)), (.int c_)]))
                                              by_cases hc141 : c_ = (47 : Int32)
                                              · skip
                                                refine Goes.via (fun _ kk_ => XS.icmpNo X0.here hx rfl (hb hby d14_141) rfl (teq hc141).2 kk_) ?_
                                                show Goes p e below _ (s₁.setTop (mkF m 144 #[.val (.int c_)] []))
                                                refine Goes.via (fun _ kk_ => XS.iconst X0.here hx rfl (hb hby d14_144) kk_) ?_
                                                show Goes p e below _ (s₁.setTop (mkF m 145 #[.val (.int c_)] [(.int (1 : Int32))]))
                                                refine Goes.via (fun _ kk_ => XS.goto X0.here hx rfl (pc0 := 145) (pc' := 149) rfl (hb hby d14_145) (by decide) (by decide) kk_) ?_
                                                show Goes p e below _ (s₁.setTop (mkF m 149 #[.val (.int c_)] [(.int (1 : Int32))]))
                                                exact own_finN X0 hx hlk hret (by simp) (hb hby d14_149) (by rw [e0]; exact ⟨(by first | (rw [own_exp, if_neg hc3, if_pos hc9, if_neg hc17, if_pos hc23, if_neg hc31, if_pos hc37, if_neg hc45, if_neg hc51, if_neg hc57, if_neg hc63, if_neg hc69, if_neg hc75, if_neg hc81, if_neg hc87, if_neg hc93, if_neg hc99, if_neg hc105, if_neg hc111, if_neg hc117, if_neg hc123, if_neg hc129, if_neg hc135, if_pos hc141]; done) | (rw [own_exp, if_neg hc3, if_pos hc9, if_neg hc17, if_pos hc23, if_neg hc31, if_pos hc37, if_neg hc45, if_neg hc51, if_neg hc57, if_neg hc63, if_neg hc69, if_neg hc75, if_neg hc81, if_neg hc87, if_neg hc93, if_neg hc99, if_neg hc105, if_neg hc111, if_neg hc117, if_neg hc123, if_neg hc129, if_neg hc135, if_pos hc141]; rfl)), rfl, rfl⟩) (by first | decide | omega | (dsimp only; omega)) (by first | decide | omega | (dsimp only; omega))
                                              · skip
                                                refine Goes.via (fun _ kk_ => XS.icmpYes X0.here hx rfl (pc0 := 141) (pc' := 148) rfl (hb hby d14_141) rfl (feq hc141).2 (by decide) (by decide) kk_) ?_
                                                show Goes p e below _ (s₁.setTop (mkF m 148 #[.val (.int c_)] []))
                                                refine Goes.via (fun _ kk_ => XS.iconst X0.here hx rfl (hb hby d14_148) kk_) ?_
                                                show Goes p e below _ (s₁.setTop (mkF m 149 #[.val (.int c_)] [(.int (0 : Int32))]))
                                                exact own_finN X0 hx hlk hret (by simp) (hb hby d14_149) (by rw [e0]; exact ⟨(by first | (rw [own_exp, if_neg hc3, if_pos hc9, if_neg hc17, if_pos hc23, if_neg hc31, if_pos hc37, if_neg hc45, if_neg hc51, if_neg hc57, if_neg hc63, if_neg hc69, if_neg hc75, if_neg hc81, if_neg hc87, if_neg hc93, if_neg hc99, if_neg hc105, if_neg hc111, if_neg hc117, if_neg hc123, if_neg hc129, if_neg hc135, if_neg hc141]; done) | (rw [own_exp, if_neg hc3, if_pos hc9, if_neg hc17, if_pos hc23, if_neg hc31, if_pos hc37, if_neg hc45, if_neg hc51, if_neg hc57, if_neg hc63, if_neg hc69, if_neg hc75, if_neg hc81, if_neg hc87, if_neg hc93, if_neg hc99, if_neg hc105, if_neg hc111, if_neg hc117, if_neg hc123, if_neg hc129, if_neg hc135, if_neg hc141]; rfl)), rfl, rfl⟩) (by first | decide | omega | (dsimp only; omega)) (by first | decide | omega | (dsimp only; omega))
            · skip
              refine Goes.via (fun _ kk_ => XS.icmpNo X0.here hx rfl (hb hby d14_37) rfl (flt hc37).2.2.1 kk_) ?_
              show Goes p e below _ (s₁.setTop (mkF m 40 #[.val (.int c_)] []))
              refine Goes.via (fun _ kk_ => XS.iconst X0.here hx rfl (hb hby d14_40) kk_) ?_
              show Goes p e below _ (s₁.setTop (mkF m 41 #[.val (.int c_)] [(.int (1 : Int32))]))
              exact own_finN X0 hx hlk hret (by simp) (hb hby d14_41) (by rw [e0]; exact ⟨(by first | (rw [own_exp, if_neg hc3, if_pos hc9, if_neg hc17, if_pos hc23, if_neg hc31, if_neg hc37]; done) | (rw [own_exp, if_neg hc3, if_pos hc9, if_neg hc17, if_pos hc23, if_neg hc31, if_neg hc37]; rfl)), rfl, rfl⟩) (by first | decide | omega | (dsimp only; omega)) (by first | decide | omega | (dsimp only; omega))
        · skip
          refine Goes.via (fun _ kk_ => XS.icmpNo X0.here hx rfl (hb hby d14_23) rfl (flt hc23).2.2.1 kk_) ?_
          show Goes p e below _ (s₁.setTop (mkF m 26 #[.val (.int c_)] []))
          refine Goes.via (fun _ kk_ => XS.iconst X0.here hx rfl (hb hby d14_26) kk_) ?_
          show Goes p e below _ (s₁.setTop (mkF m 27 #[.val (.int c_)] [(.int (1 : Int32))]))
          exact own_finN X0 hx hlk hret (by simp) (hb hby d14_27) (by rw [e0]; exact ⟨(by first | (rw [own_exp, if_neg hc3, if_pos hc9, if_neg hc17, if_neg hc23]; done) | (rw [own_exp, if_neg hc3, if_pos hc9, if_neg hc17, if_neg hc23]; rfl)), rfl, rfl⟩) (by first | decide | omega | (dsimp only; omega)) (by first | decide | omega | (dsimp only; omega))
    · skip
      refine Goes.via (fun _ kk_ => XS.icmpNo X0.here hx rfl (hb hby d14_9) rfl (flt hc9).2.2.1 kk_) ?_
      show Goes p e below _ (s₁.setTop (mkF m 12 #[.val (.int c_)] []))
      refine Goes.via (fun _ kk_ => XS.iconst X0.here hx rfl (hb hby d14_12) kk_) ?_
      show Goes p e below _ (s₁.setTop (mkF m 13 #[.val (.int c_)] [(.int (1 : Int32))]))
      exact own_finN X0 hx hlk hret (by simp) (hb hby d14_13) (by rw [e0]; exact ⟨(by first | (rw [own_exp, if_neg hc3, if_neg hc9]; done) | (rw [own_exp, if_neg hc3, if_neg hc9]; rfl)), rfl, rfl⟩) (by first | decide | omega | (dsimp only; omega)) (by first | decide | omega | (dsimp only; omega))
theorem ef_rm6 (m : MethodId) (a : Addr) : entryFrame m #[(.ref a)] 1 = mkF m 0 #[.val (.ref a)] [] := by first | (simp [entryFrame, mkF, argsToLocals, Value.category]; done) | rfl
def Qrm6 (Z : State) (a : Addr) (cS : Int32) (h0 : Heap) (n0 : Nat) (v_ : Option Value) (h_ : Heap) (L_ : List Loc) : Prop := v_ = some (.int (1 : Int32)) ∧ L_ = [] ∧ h_ = h0
theorem pn_java_lang_String : plainName "java/lang/String" = true := by first | (simp [plainName, overriddenIn]; done) | decide +kernel
theorem d6_0 : decode jdk_42_method_154_code 0 = .ok (.getstatic 38, 3) := by decide +kernel
theorem d6_3 : decode jdk_42_method_154_code 3 = .ok (.ifCond .eq 14, 3) := by decide +kernel
theorem d6_6 : decode jdk_42_method_154_code 6 = .ok (.aload_n 0, 1) := by decide +kernel
theorem d6_7 : decode jdk_42_method_154_code 7 = .ok (.getfield 15, 3) := by decide +kernel
theorem d6_10 : decode jdk_42_method_154_code 10 = .ok (.ifCond .ne 7, 3) := by decide +kernel
theorem d6_13 : decode jdk_42_method_154_code 13 = .ok (.iconst 1, 1) := by decide +kernel
theorem d6_14 : decode jdk_42_method_154_code 14 = .ok (.goto 4, 3) := by decide +kernel
theorem d6_18 : decode jdk_42_method_154_code 18 = .ok (.ireturn, 1) := by decide +kernel
set_option maxRecDepth 65536 in
set_option maxHeartbeats 40000000 in
theorem rm6 (l : Launch) (Z : State) (a0 : Array Value) (hw : ∀ d ∈ tables_1, d.before a0 Z = true) (ws : List Jvm.Cond) (a : Addr) (cS : Int32) (h0 : Heap) (n0 : Nat) (Z0 : n0 ≤ h0.size) (S0_java_lang_String_COMPACT_STRINGS_COMPACT_STRINGS : Sta Z h0 "java/lang/String" "COMPACT_STRINGS" "Z" (.int cS)) (H_cs : ¬ cS = (0 : Int32)) (F2_a_coder : Fld Z h0 a "java/lang/String" "coder" "B" (.int (0 : Int32))) :
    MetFree l (⟨"java/lang/String", "isLatin1", "()Z"⟩ : MethodName) (head1 (Jvm.Cond.code (⟨"java/lang/String", "isLatin1", "()Z"⟩ : MethodName) jdk_42_method_154_code 1 (some .boolean) :: ws) ({ frames := 0, cells := 0, slots := 0, locals := 0 } : Room)) (fun as_ U_ => as_ = #[(.ref a)] ∧ Z.Warmed39 U_.vm ∧ U_.heap = h0) (fun _ _ _ _ _ => True) (fun _ U_ o_ V_ => ∃ v_ L_, o_ = .returned v_ ∧ Qrm6 Z a cS h0 n0 v_ V_.heap L_ ∧ FrameEnd U_ o_ V_ L_ ({ frames := 0, cells := 0, slots := 0, locals := 0 } : Room).cells ({ frames := 0, cells := 0, slots := 0, locals := 0 } : Room).slots) := by
  refine MetFree.of_bodySF (plainFor_of_name pn_java_lang_String) hisR ?_
  intro p e s m args below meth c s₁ Bd hml0 hP hK
  obtain ⟨rfl, hZ, hh⟩ := hP
  have hx := Bd.exec
  have hby := Bd.bytes
  have hlk : meth.locks = false := BodyLoose.notSynchronized Bd
  have hret := Bd.returns
  have hml : c.maxLocals = 1 := hml0
  have hown : s.vm.findClass "java/lang/String" = some m.cls := findClass_of_methodNamed Bd.named
  have hnm := (name_of_methodNamed Bd.named Bd.method).1
  have X0 : Stand p l e ({ frames := 0, cells := 0, slots := 0, locals := 0 } : Room) s m #[(.ref a)] below meth c s₁ [] 0 0 := Stand.of_body Bd
  have e0 : s₁.heap = h0 := by rw [← hh, Bd.state]; rfl
  have N0 := Fr.nil n0
  show Goes p e below (Fin_ s (Qrm6 Z a cS h0 n0) ({ frames := 0, cells := 0, slots := 0, locals := 0 } : Room).cells ({ frames := 0, cells := 0, slots := 0, locals := 0 } : Room).slots) (s₁.setTop (entryFrame m #[(.ref a)] 1))
  rw [ef_rm6 m a]
  obtain ⟨T1, X1, e1, st1⟩ := getS2 X0 hx hZ hown (host := "") (Or.inl (hw _ (List.mem_of_getElem? (i := 34) rfl))) Via.refl e0 S0_java_lang_String_COMPACT_STRINGS_COMPACT_STRINGS (g := (mkF m 0 #[.val (.ref a)] [])) rfl (hb hby d6_0)
  refine Goes.via st1 ?_
  show Goes p e below _ (T1.setTop (mkF m 3 #[.val (.ref a)] [(.int cS)]))
  have hc3_2 : ¬ (cS = (0 : Int32)) := H_cs
  refine Goes.via (fun _ kk_ => XS.ifNo X1.here hx rfl (hb hby d6_3) rfl ((if0 _ _).trans (feq hc3_2).1) kk_) ?_
  show Goes p e below _ (T1.setTop (mkF m 6 #[.val (.ref a)] []))
  refine Goes.via (fun _ kk_ => XS.aloadN X1.here hx rfl (hb hby d6_6) rfl rfl  kk_) ?_
  show Goes p e below _ (T1.setTop (mkF m 7 #[.val (.ref a)] [(.ref a)]))
  obtain ⟨T3, X3, e3, st3⟩ := getF X1 hx hZ hown (host := "") (Or.inl (hw _ (List.mem_of_getElem? (i := 35) rfl))) Via.refl e1 F2_a_coder (g := (mkF m 7 #[.val (.ref a)] [(.ref a)])) rfl rfl (hb hby d6_7)
  refine Goes.via st3 ?_
  show Goes p e below _ (T3.setTop (mkF m 10 #[.val (.ref a)] [(.int (0 : Int32))]))
  have hc10_4 : (0 : Int32) = (0 : Int32) := (by decide)
  refine Goes.via (fun _ kk_ => XS.ifNo X3.here hx rfl (hb hby d6_10) rfl ((if0 _ _).trans (teq hc10_4).2) kk_) ?_
  show Goes p e below _ (T3.setTop (mkF m 13 #[.val (.ref a)] []))
  refine Goes.via (fun _ kk_ => XS.iconst X3.here hx rfl (hb hby d6_13) kk_) ?_
  show Goes p e below _ (T3.setTop (mkF m 14 #[.val (.ref a)] [(.int (1 : Int32))]))
  refine Goes.via (fun _ kk_ => XS.goto X3.here hx rfl (pc0 := 14) (pc' := 18) rfl (hb hby d6_14) (by decide) (by decide) kk_) ?_
  show Goes p e below _ (T3.setTop (mkF m 18 #[.val (.ref a)] [(.int (1 : Int32))]))
  exact own_finN X3 hx hlk hret (by simp) (hb hby d6_18) (by rw [e3]; exact ⟨rfl, rfl, rfl⟩) (by first | decide | omega | (dsimp only; omega)) (by first | decide | omega | (dsimp only; omega))
theorem ef_rm8 (m : MethodId) (a : Addr) : entryFrame m #[(.ref a)] 1 = mkF m 0 #[.val (.ref a)] [] := by first | (simp [entryFrame, mkF, argsToLocals, Value.category]; done) | rfl
def Qrm8 (Z : State) (a : Addr) (cS : Int32) (h0 : Heap) (n0 : Nat) (v_ : Option Value) (h_ : Heap) (L_ : List Loc) : Prop := v_ = some (.int (0 : Int32)) ∧ L_ = [] ∧ h_ = h0
theorem d8_0 : decode jdk_42_method_152_code 0 = .ok (.getstatic 38, 3) := by decide +kernel
theorem d8_3 : decode jdk_42_method_152_code 3 = .ok (.ifCond .eq 10, 3) := by decide +kernel
theorem d8_6 : decode jdk_42_method_152_code 6 = .ok (.aload_n 0, 1) := by decide +kernel
theorem d8_7 : decode jdk_42_method_152_code 7 = .ok (.getfield 15, 3) := by decide +kernel
theorem d8_10 : decode jdk_42_method_152_code 10 = .ok (.goto 4, 3) := by decide +kernel
theorem d8_14 : decode jdk_42_method_152_code 14 = .ok (.ireturn, 1) := by decide +kernel
set_option maxRecDepth 65536 in
set_option maxHeartbeats 40000000 in
theorem rm8 (l : Launch) (Z : State) (a0 : Array Value) (hw : ∀ d ∈ tables_1, d.before a0 Z = true) (ws : List Jvm.Cond) (a : Addr) (cS : Int32) (h0 : Heap) (n0 : Nat) (Z0 : n0 ≤ h0.size) (S0_java_lang_String_COMPACT_STRINGS_COMPACT_STRINGS : Sta Z h0 "java/lang/String" "COMPACT_STRINGS" "Z" (.int cS)) (H_cs : ¬ cS = (0 : Int32)) (F2_a_coder : Fld Z h0 a "java/lang/String" "coder" "B" (.int (0 : Int32))) :
    MetFree l (⟨"java/lang/String", "coder", "()B"⟩ : MethodName) (head1 (Jvm.Cond.code (⟨"java/lang/String", "coder", "()B"⟩ : MethodName) jdk_42_method_152_code 1 (some .byte) :: ws) ({ frames := 0, cells := 0, slots := 0, locals := 0 } : Room)) (fun as_ U_ => as_ = #[(.ref a)] ∧ Z.Warmed39 U_.vm ∧ U_.heap = h0) (fun _ _ _ _ _ => True) (fun _ U_ o_ V_ => ∃ v_ L_, o_ = .returned v_ ∧ Qrm8 Z a cS h0 n0 v_ V_.heap L_ ∧ FrameEnd U_ o_ V_ L_ ({ frames := 0, cells := 0, slots := 0, locals := 0 } : Room).cells ({ frames := 0, cells := 0, slots := 0, locals := 0 } : Room).slots) := by
  refine MetFree.of_bodySF (plainFor_of_name pn_java_lang_String) hisR ?_
  intro p e s m args below meth c s₁ Bd hml0 hP hK
  obtain ⟨rfl, hZ, hh⟩ := hP
  have hx := Bd.exec
  have hby := Bd.bytes
  have hlk : meth.locks = false := BodyLoose.notSynchronized Bd
  have hret := Bd.returns
  have hml : c.maxLocals = 1 := hml0
  have hown : s.vm.findClass "java/lang/String" = some m.cls := findClass_of_methodNamed Bd.named
  have hnm := (name_of_methodNamed Bd.named Bd.method).1
  have X0 : Stand p l e ({ frames := 0, cells := 0, slots := 0, locals := 0 } : Room) s m #[(.ref a)] below meth c s₁ [] 0 0 := Stand.of_body Bd
  have e0 : s₁.heap = h0 := by rw [← hh, Bd.state]; rfl
  have N0 := Fr.nil n0
  show Goes p e below (Fin_ s (Qrm8 Z a cS h0 n0) ({ frames := 0, cells := 0, slots := 0, locals := 0 } : Room).cells ({ frames := 0, cells := 0, slots := 0, locals := 0 } : Room).slots) (s₁.setTop (entryFrame m #[(.ref a)] 1))
  rw [ef_rm8 m a]
  obtain ⟨T1, X1, e1, st1⟩ := getS2 X0 hx hZ hown (host := "") (Or.inl (hw _ (List.mem_of_getElem? (i := 34) rfl))) Via.refl e0 S0_java_lang_String_COMPACT_STRINGS_COMPACT_STRINGS (g := (mkF m 0 #[.val (.ref a)] [])) rfl (hb hby d8_0)
  refine Goes.via st1 ?_
  show Goes p e below _ (T1.setTop (mkF m 3 #[.val (.ref a)] [(.int cS)]))
  have hc3_2 : ¬ (cS = (0 : Int32)) := H_cs
  refine Goes.via (fun _ kk_ => XS.ifNo X1.here hx rfl (hb hby d8_3) rfl ((if0 _ _).trans (feq hc3_2).1) kk_) ?_
  show Goes p e below _ (T1.setTop (mkF m 6 #[.val (.ref a)] []))
  refine Goes.via (fun _ kk_ => XS.aloadN X1.here hx rfl (hb hby d8_6) rfl rfl  kk_) ?_
  show Goes p e below _ (T1.setTop (mkF m 7 #[.val (.ref a)] [(.ref a)]))
  obtain ⟨T3, X3, e3, st3⟩ := getF X1 hx hZ hown (host := "") (Or.inl (hw _ (List.mem_of_getElem? (i := 35) rfl))) Via.refl e1 F2_a_coder (g := (mkF m 7 #[.val (.ref a)] [(.ref a)])) rfl rfl (hb hby d8_7)
  refine Goes.via st3 ?_
  show Goes p e below _ (T3.setTop (mkF m 10 #[.val (.ref a)] [(.int (0 : Int32))]))
  refine Goes.via (fun _ kk_ => XS.goto X3.here hx rfl (pc0 := 10) (pc' := 14) rfl (hb hby d8_10) (by decide) (by decide) kk_) ?_
  show Goes p e below _ (T3.setTop (mkF m 14 #[.val (.ref a)] [(.int (0 : Int32))]))
  exact own_finN X3 hx hlk hret (by simp) (hb hby d8_14) (by rw [e3]; exact ⟨rfl, rfl, rfl⟩) (by first | decide | omega | (dsimp only; omega)) (by first | decide | omega | (dsimp only; omega))
theorem ef_rm7 (m : MethodId) (a : Addr) : entryFrame m #[(.ref a)] 1 = mkF m 0 #[.val (.ref a)] [] := by first | (simp [entryFrame, mkF, argsToLocals, Value.category]; done) | rfl
def Qrm7 (Z : State) (a : Addr) (b : Addr) (kb : ClassId) (cS : Int32) (h0 : Heap) (n0 : Nat) (v_ : Option Value) (h_ : Heap) (L_ : List Loc) : Prop := v_ = some (.int (17 : Int32)) ∧ L_ = [] ∧ h_ = h0
theorem d7_0 : decode jdk_42_method_54_code 0 = .ok (.aload_n 0, 1) := by decide +kernel
theorem d7_1 : decode jdk_42_method_54_code 1 = .ok (.getfield 9, 3) := by decide +kernel
theorem d7_4 : decode jdk_42_method_54_code 4 = .ok (.arraylength, 1) := by decide +kernel
theorem d7_5 : decode jdk_42_method_54_code 5 = .ok (.aload_n 0, 1) := by decide +kernel
theorem pd_0 : parseMethodDescriptor "()B" = some ⟨[], some .byte⟩ := by decide +kernel
theorem d7_6 : decode jdk_42_method_54_code 6 = .ok (.invokevirtual 335, 3) := by decide +kernel
theorem d7_9 : decode jdk_42_method_54_code 9 = .ok (.ishr, 1) := by decide +kernel
theorem d7_10 : decode jdk_42_method_54_code 10 = .ok (.ireturn, 1) := by decide +kernel
set_option maxRecDepth 65536 in
set_option maxHeartbeats 40000000 in
theorem rm7 (l : Launch) (Z : State) (a0 : Array Value) (hw : ∀ d ∈ tables_1, d.before a0 Z = true) (ws : List Jvm.Cond) (a : Addr) (b : Addr) (kb : ClassId) (cS : Int32) (h0 : Heap) (n0 : Nat) (Z0 : n0 ≤ h0.size) (E0_a : Exa Z h0 a "java/lang/String") (F1_a_value : Fld Z h0 a "java/lang/String" "value" "[B" (.ref b)) (A2_b : Arw Z h0 b kb .byte 17 own_by) (S3_java_lang_String_COMPACT_STRINGS_COMPACT_STRINGS : Sta Z h0 "java/lang/String" "COMPACT_STRINGS" "Z" (.int cS)) (H_cs : ¬ cS = (0 : Int32)) (F5_a_coder : Fld Z h0 a "java/lang/String" "coder" "B" (.int (0 : Int32))) :
    MetFree l (⟨"java/lang/String", "length", "()I"⟩ : MethodName) (head1 (Jvm.Cond.code (⟨"java/lang/String", "length", "()I"⟩ : MethodName) jdk_42_method_54_code 1 (some .int) :: ws) ({ frames := 1, cells := 0, slots := 0, locals := 13 } : Room)) (fun as_ U_ => as_ = #[(.ref a)] ∧ Z.Warmed39 U_.vm ∧ U_.heap = h0) (fun _ _ _ _ _ => True) (fun _ U_ o_ V_ => ∃ v_ L_, o_ = .returned v_ ∧ Qrm7 Z a b kb cS h0 n0 v_ V_.heap L_ ∧ FrameEnd U_ o_ V_ L_ ({ frames := 1, cells := 0, slots := 0, locals := 13 } : Room).cells ({ frames := 1, cells := 0, slots := 0, locals := 13 } : Room).slots) := by
  refine MetFree.of_bodySF (plainFor_of_name pn_java_lang_String) hisR ?_
  intro p e s m args below meth c s₁ Bd hml0 hP hK
  obtain ⟨rfl, hZ, hh⟩ := hP
  have hx := Bd.exec
  have hby := Bd.bytes
  have hlk : meth.locks = false := BodyLoose.notSynchronized Bd
  have hret := Bd.returns
  have hml : c.maxLocals = 1 := hml0
  have hown : s.vm.findClass "java/lang/String" = some m.cls := findClass_of_methodNamed Bd.named
  have hnm := (name_of_methodNamed Bd.named Bd.method).1
  have X0 : Stand p l e ({ frames := 1, cells := 0, slots := 0, locals := 13 } : Room) s m #[(.ref a)] below meth c s₁ [] 0 0 := Stand.of_body Bd
  have e0 : s₁.heap = h0 := by rw [← hh, Bd.state]; rfl
  have N0 := Fr.nil n0
  show Goes p e below (Fin_ s (Qrm7 Z a b kb cS h0 n0) ({ frames := 1, cells := 0, slots := 0, locals := 13 } : Room).cells ({ frames := 1, cells := 0, slots := 0, locals := 13 } : Room).slots) (s₁.setTop (entryFrame m #[(.ref a)] 1))
  rw [ef_rm7 m a]
  have ne1 : a ≠ b := own_ne_arr E0_a (hw _ (List.mem_of_getElem? (i := 13) rfl)) A2_b
  refine Goes.via (fun _ kk_ => XS.aloadN X0.here hx rfl (hb hby d7_0) rfl rfl  kk_) ?_
  show Goes p e below _ (s₁.setTop (mkF m 1 #[.val (.ref a)] [(.ref a)]))
  obtain ⟨T2, X2, e2, st2⟩ := getF X0 hx hZ hown (host := "") (Or.inl (hw _ (List.mem_of_getElem? (i := 36) rfl))) Via.refl e0 F1_a_value (g := (mkF m 1 #[.val (.ref a)] [(.ref a)])) rfl rfl (hb hby d7_1)
  refine Goes.via st2 ?_
  show Goes p e below _ (T2.setTop (mkF m 4 #[.val (.ref a)] [(.ref b)]))
  refine Goes.via (own_alen X2 hx hZ e2 A2_b (g := (mkF m 4 #[.val (.ref a)] [(.ref b)])) rfl rfl (hb hby d7_4)) ?_
  show Goes p e below _ (T2.setTop (mkF m 5 #[.val (.ref a)] [(.int (17 : Int32))]))
  refine Goes.via (fun _ kk_ => XS.aloadN X2.here hx rfl (hb hby d7_5) rfl rfl  kk_) ?_
  show Goes p e below _ (T2.setTop (mkF m 6 #[.val (.ref a)] [(.ref a), (.int (17 : Int32))]))
  obtain ⟨cq3, kq3, q3a, q3b, q3c⟩ := isOf hZ e2 E0_a
  obtain ⟨_, _, ⟨T3, L3, k3, n3⟩, -, X3, ⟨Lc3, hQ3, l3, y3, z3⟩, st3⟩ := X2.virtualBack hx (y := (⟨"java/lang/String", "coder", "()B"⟩ : MethodName)) (z := (⟨"java/lang/String", "coder", "()B"⟩ : MethodName)) hown (mvT hZ (hw _ (List.mem_of_getElem? (i := 42) rfl))) (mvT hZ (hw _ (List.mem_of_getElem? (i := 43) rfl))) (notFace_of_selects (args := #[]) (mvT hZ (hw _ (List.mem_of_getElem? (i := 45) rfl)))) (mvT hZ (hw _ (List.mem_of_getElem? (i := 45) rfl))) (mvT hZ (hw _ (List.mem_of_getElem? (i := 44) rfl))) (by decide) (backOf (W := 1) (rm8 l Z a0 hw [] a cS h0 n0 (Nat.le_trans Z0 (Nat.le_refl _)) S3_java_lang_String_COMPACT_STRINGS_COMPACT_STRINGS (by first | assumption | rfl | decide | omega | (simp; done)) F5_a_coder) hZ (hw _ (List.mem_of_getElem? (i := 46) rfl)) (hw _ (List.mem_of_getElem? (i := 12) rfl)) (by decide) (by decide)) q3a q3c (g := (mkF m 6 #[.val (.ref a)] [(.ref a), (.int (17 : Int32))])) rfl (by rw [hml]; rfl) (Steps.refl _) (argsL := []) (rest := [(.int (17 : Int32))]) (lenOf pd_0 rfl) rfl (by show 2 * 0 + _ ≤ _; exact Nat.le_of_eq rfl) (hb hby d7_6) (fun _ _ => ⟨rfl, e2, (by first | decide | omega | (dsimp only; omega) : 0 + 0 ≤ _), (by first | decide | omega | (dsimp only; omega) : 0 + 0 ≤ _)⟩)
  dsimp only [Pt.U, Pt.locs, Pt.cells, Pt.slots] at X3 l3 y3 z3 st3 hQ3
  subst l3 y3 z3
  obtain ⟨rfl, rfl, e3⟩ := hQ3
  first | rw [List.append_nil] at X3 | skip
  refine Goes.tr st3 ?_
  have e3' : T3.heap = h0 := e3
  show Goes p e below _ (T3.setTop (mkF m 9 #[.val (.ref a)] [(.int (0 : Int32)), (.int (17 : Int32))]))
  refine Goes.via (fun _ kk_ => XS.ishr X3.here hx rfl (hb hby d7_9) rfl kk_) ?_
  show Goes p e below _ (T3.setTop (mkF m 10 #[.val (.ref a)] [(.int ((17 : Int32) >>> ((0 : Int32) &&& 31)))]))
  exact own_finI X3 hx hlk hret (hb hby d7_10) (by rw [e3']; exact ⟨(by decide), rfl, rfl⟩) (by first | decide | omega | (dsimp only; omega)) (by first | decide | omega | (dsimp only; omega))
def own_ioc (ch : Int32) : Int32 := (if (126 : Int32) = (ch.toInt8.toInt32) then (0 : Int32) else (if (33 : Int32) = (ch.toInt8.toInt32) then (1 : Int32) else (if (64 : Int32) = (ch.toInt8.toInt32) then (2 : Int32) else (if (36 : Int32) = (ch.toInt8.toInt32) then (3 : Int32) else (if (37 : Int32) = (ch.toInt8.toInt32) then (4 : Int32) else (if (94 : Int32) = (ch.toInt8.toInt32) then (5 : Int32) else (if (38 : Int32) = (ch.toInt8.toInt32) then (6 : Int32) else (if (42 : Int32) = (ch.toInt8.toInt32) then (7 : Int32) else (if (95 : Int32) = (ch.toInt8.toInt32) then (8 : Int32) else (if (45 : Int32) = (ch.toInt8.toInt32) then (9 : Int32) else (if (43 : Int32) = (ch.toInt8.toInt32) then (10 : Int32) else (if (61 : Int32) = (ch.toInt8.toInt32) then (11 : Int32) else (if (60 : Int32) = (ch.toInt8.toInt32) then (12 : Int32) else (if (62 : Int32) = (ch.toInt8.toInt32) then (13 : Int32) else (if (46 : Int32) = (ch.toInt8.toInt32) then (14 : Int32) else (if (63 : Int32) = (ch.toInt8.toInt32) then (15 : Int32) else (if (47 : Int32) = (ch.toInt8.toInt32) then (16 : Int32) else (-1 : Int32))))))))))))))))))
theorem ef_rm13 (m : MethodId) (b : Addr) (ch : Int32) (fr : Int32) (mx : Int32) : entryFrame m #[(.ref b), (.int ch), (.int fr), (.int mx)] 6 = mkF m 0 #[.val (.ref b), .val (.int ch), .val (.int fr), .val (.int mx), .unset, .unset] [] := by first | (simp [entryFrame, mkF, argsToLocals, Value.category]; done) | rfl
def Qrm13 (Z : State) (ch : Int32) (b : Addr) (fr : Int32) (mx : Int32) (kb : ClassId) (h0 : Heap) (n0 : Nat) (v_ : Option Value) (h_ : Heap) (L_ : List Loc) : Prop := v_ = some (.int (own_ioc ch)) ∧ L_ = [] ∧ h_ = h0
theorem d13_0 : decode jdk_43_method_23_code 0 = .ok (.iload_n 1, 1) := by decide +kernel
theorem d13_1 : decode jdk_43_method_23_code 1 = .ok (.i2b, 1) := by decide +kernel
theorem d13_2 : decode jdk_43_method_23_code 2 = .ok (.istore 4, 2) := by decide +kernel
theorem d13_4 : decode jdk_43_method_23_code 4 = .ok (.iload_n 2, 1) := by decide +kernel
theorem d13_5 : decode jdk_43_method_23_code 5 = .ok (.istore 5, 2) := by decide +kernel
theorem d13_7 : decode jdk_43_method_23_code 7 = .ok (.iload 5, 2) := by decide +kernel
theorem d13_9 : decode jdk_43_method_23_code 9 = .ok (.iload_n 3, 1) := by decide +kernel
theorem d13_10 : decode jdk_43_method_23_code 10 = .ok (.if_icmp .ge 21, 3) := by decide +kernel
theorem d13_13 : decode jdk_43_method_23_code 13 = .ok (.aload_n 0, 1) := by decide +kernel
theorem d13_14 : decode jdk_43_method_23_code 14 = .ok (.iload 5, 2) := by decide +kernel
theorem d13_16 : decode jdk_43_method_23_code 16 = .ok (.baload, 1) := by decide +kernel
theorem d13_17 : decode jdk_43_method_23_code 17 = .ok (.iload 4, 2) := by decide +kernel
theorem d13_19 : decode jdk_43_method_23_code 19 = .ok (.if_icmp .ne 6, 3) := by decide +kernel
theorem d13_22 : decode jdk_43_method_23_code 22 = .ok (.iload 5, 2) := by decide +kernel
theorem d13_24 : decode jdk_43_method_23_code 24 = .ok (.ireturn, 1) := by decide +kernel
theorem d13_25 : decode jdk_43_method_23_code 25 = .ok (.iinc 5 1, 3) := by decide +kernel
theorem d13_28 : decode jdk_43_method_23_code 28 = .ok (.goto (-21), 3) := by decide +kernel
theorem d13_31 : decode jdk_43_method_23_code 31 = .ok (.iconst (-1), 1) := by decide +kernel
theorem d13_32 : decode jdk_43_method_23_code 32 = .ok (.ireturn, 1) := by decide +kernel
set_option maxRecDepth 65536 in
set_option maxHeartbeats 40000000 in
theorem rm13 (l : Launch) (Z : State) (a0 : Array Value) (hw : ∀ d ∈ tables_1, d.before a0 Z = true) (ws : List Jvm.Cond) (ch : Int32) (b : Addr) (fr : Int32) (mx : Int32) (kb : ClassId) (h0 : Heap) (n0 : Nat) (Z0 : n0 ≤ h0.size) (A0_b : Arw Z h0 b kb .byte 17 own_by) (Hfr : fr = (0 : Int32)) (Hmx : mx = (17 : Int32)) :
    MetFree l (⟨"java/lang/StringLatin1", "indexOfChar", "([BIII)I"⟩ : MethodName) (head1 (Jvm.Cond.code (⟨"java/lang/StringLatin1", "indexOfChar", "([BIII)I"⟩ : MethodName) jdk_43_method_23_code 6 (some .int) :: ws) ({ frames := 0, cells := 0, slots := 0, locals := 0 } : Room)) (fun as_ U_ => as_ = #[(.ref b), (.int ch), (.int fr), (.int mx)] ∧ Z.Warmed39 U_.vm ∧ U_.heap = h0) (fun _ _ _ _ _ => True) (fun _ U_ o_ V_ => ∃ v_ L_, o_ = .returned v_ ∧ Qrm13 Z ch b fr mx kb h0 n0 v_ V_.heap L_ ∧ FrameEnd U_ o_ V_ L_ ({ frames := 0, cells := 0, slots := 0, locals := 0 } : Room).cells ({ frames := 0, cells := 0, slots := 0, locals := 0 } : Room).slots) := by
  refine MetFree.of_bodySF (plainFor_of_name pn_java_lang_StringLatin1) hisR ?_
  intro p e s m args below meth c s₁ Bd hml0 hP hK
  obtain ⟨rfl, hZ, hh⟩ := hP
  have hx := Bd.exec
  have hby := Bd.bytes
  have hlk : meth.locks = false := BodyLoose.notSynchronized Bd
  have hret := Bd.returns
  have hml : c.maxLocals = 6 := hml0
  have hown : s.vm.findClass "java/lang/StringLatin1" = some m.cls := findClass_of_methodNamed Bd.named
  have hnm := (name_of_methodNamed Bd.named Bd.method).1
  have X0 : Stand p l e ({ frames := 0, cells := 0, slots := 0, locals := 0 } : Room) s m #[(.ref b), (.int ch), (.int fr), (.int mx)] below meth c s₁ [] 0 0 := Stand.of_body Bd
  have e0 : s₁.heap = h0 := by rw [← hh, Bd.state]; rfl
  have N0 := Fr.nil n0
  show Goes p e below (Fin_ s (Qrm13 Z ch b fr mx kb h0 n0) ({ frames := 0, cells := 0, slots := 0, locals := 0 } : Room).cells ({ frames := 0, cells := 0, slots := 0, locals := 0 } : Room).slots) (s₁.setTop (entryFrame m #[(.ref b), (.int ch), (.int fr), (.int mx)] 6))
  rw [ef_rm13 m b ch fr mx]
  subst Hfr Hmx
  show Goes p e below _ (s₁.setTop (mkF m 0 #[.val (.ref b), .val (.int ch), .val (.int (0 : Int32)), .val (.int (17 : Int32)), .unset, .unset] []))
  refine Goes.via (fun _ kk_ => XS.iloadN X0.here hx rfl (hb hby d13_0) rfl  kk_) ?_
  show Goes p e below _ (s₁.setTop (mkF m 1 #[.val (.ref b), .val (.int ch), .val (.int (0 : Int32)), .val (.int (17 : Int32)), .unset, .unset] [(.int ch)]))
  refine Goes.via (fun _ kk_ => XS.i2b X0.here hx rfl (hb hby d13_1) rfl kk_) ?_
  show Goes p e below _ (s₁.setTop (mkF m 2 #[.val (.ref b), .val (.int ch), .val (.int (0 : Int32)), .val (.int (17 : Int32)), .unset, .unset] [(.int (ch.toInt8.toInt32))]))
  refine Goes.via (fun _ kk_ => XS.istore X0.here hx rfl (hb hby d13_2) rfl (l' := #[.val (.ref b), .val (.int ch), .val (.int (0 : Int32)), .val (.int (17 : Int32)), .val (.int (ch.toInt8.toInt32)), .unset]) rfl kk_) ?_
  show Goes p e below _ (s₁.setTop (mkF m 4 #[.val (.ref b), .val (.int ch), .val (.int (0 : Int32)), .val (.int (17 : Int32)), .val (.int (ch.toInt8.toInt32)), .unset] []))
  refine Goes.via (fun _ kk_ => XS.iloadN X0.here hx rfl (hb hby d13_4) rfl  kk_) ?_
  show Goes p e below _ (s₁.setTop (mkF m 5 #[.val (.ref b), .val (.int ch), .val (.int (0 : Int32)), .val (.int (17 : Int32)), .val (.int (ch.toInt8.toInt32)), .unset] [(.int (0 : Int32))]))
  refine Goes.via (fun _ kk_ => XS.istore X0.here hx rfl (hb hby d13_5) rfl (l' := #[.val (.ref b), .val (.int ch), .val (.int (0 : Int32)), .val (.int (17 : Int32)), .val (.int (ch.toInt8.toInt32)), .val (.int (0 : Int32))]) rfl kk_) ?_
  show Goes p e below _ (s₁.setTop (mkF m 7 #[.val (.ref b), .val (.int ch), .val (.int (0 : Int32)), .val (.int (17 : Int32)), .val (.int (ch.toInt8.toInt32)), .val (.int (0 : Int32))] []))
  refine Goes.via (fun _ kk_ => XS.iload X0.here hx rfl (hb hby d13_7) rfl  kk_) ?_
  show Goes p e below _ (s₁.setTop (mkF m 9 #[.val (.ref b), .val (.int ch), .val (.int (0 : Int32)), .val (.int (17 : Int32)), .val (.int (ch.toInt8.toInt32)), .val (.int (0 : Int32))] [(.int (0 : Int32))]))
  refine Goes.via (fun _ kk_ => XS.iloadN X0.here hx rfl (hb hby d13_9) rfl  kk_) ?_
  show Goes p e below _ (s₁.setTop (mkF m 10 #[.val (.ref b), .val (.int ch), .val (.int (0 : Int32)), .val (.int (17 : Int32)), .val (.int (ch.toInt8.toInt32)), .val (.int (0 : Int32))] [(.int (17 : Int32)), (.int (0 : Int32))]))
  have hc10_1 : (0 : Int32) < (17 : Int32) := (by decide)
  refine Goes.via (fun _ kk_ => XS.icmpNo X0.here hx rfl (hb hby d13_10) rfl (tlt hc10_1).2.1 kk_) ?_
  show Goes p e below _ (s₁.setTop (mkF m 13 #[.val (.ref b), .val (.int ch), .val (.int (0 : Int32)), .val (.int (17 : Int32)), .val (.int (ch.toInt8.toInt32)), .val (.int (0 : Int32))] []))
  refine Goes.via (fun _ kk_ => XS.aloadN X0.here hx rfl (hb hby d13_13) rfl rfl  kk_) ?_
  show Goes p e below _ (s₁.setTop (mkF m 14 #[.val (.ref b), .val (.int ch), .val (.int (0 : Int32)), .val (.int (17 : Int32)), .val (.int (ch.toInt8.toInt32)), .val (.int (0 : Int32))] [(.ref b)]))
  refine Goes.via (fun _ kk_ => XS.iload X0.here hx rfl (hb hby d13_14) rfl  kk_) ?_
  show Goes p e below _ (s₁.setTop (mkF m 16 #[.val (.ref b), .val (.int ch), .val (.int (0 : Int32)), .val (.int (17 : Int32)), .val (.int (ch.toInt8.toInt32)), .val (.int (0 : Int32))] [(.int (0 : Int32)), (.ref b)]))
  refine Goes.via (own_baload X0 hx hZ e0 A0_b (j := (0 : Int32)) (i := 0) (by decide) (by decide) (by decide) (v := (126 : Int32)) rfl (g := (mkF m 16 #[.val (.ref b), .val (.int ch), .val (.int (0 : Int32)), .val (.int (17 : Int32)), .val (.int (ch.toInt8.toInt32)), .val (.int (0 : Int32))] [(.int (0 : Int32)), (.ref b)])) rfl rfl (hb hby d13_16)) ?_
  show Goes p e below _ (s₁.setTop (mkF m 17 #[.val (.ref b), .val (.int ch), .val (.int (0 : Int32)), .val (.int (17 : Int32)), .val (.int (ch.toInt8.toInt32)), .val (.int (0 : Int32))] [(.int (126 : Int32))]))
  refine Goes.via (fun _ kk_ => XS.iload X0.here hx rfl (hb hby d13_17) rfl  kk_) ?_
  show Goes p e below _ (s₁.setTop (mkF m 19 #[.val (.ref b), .val (.int ch), .val (.int (0 : Int32)), .val (.int (17 : Int32)), .val (.int (ch.toInt8.toInt32)), .val (.int (0 : Int32))] [(.int (ch.toInt8.toInt32)), (.int (126 : Int32))]))
  by_cases hc19 : (126 : Int32) = (ch.toInt8.toInt32)
  · skip
    refine Goes.via (fun _ kk_ => XS.icmpNo X0.here hx rfl (hb hby d13_19) rfl (teq hc19).2 kk_) ?_
    show Goes p e below _ (s₁.setTop (mkF m 22 #[.val (.ref b), .val (.int ch), .val (.int (0 : Int32)), .val (.int (17 : Int32)), .val (.int (ch.toInt8.toInt32)), .val (.int (0 : Int32))] []))
    refine Goes.via (fun _ kk_ => XS.iload X0.here hx rfl (hb hby d13_22) rfl  kk_) ?_
    show Goes p e below _ (s₁.setTop (mkF m 24 #[.val (.ref b), .val (.int ch), .val (.int (0 : Int32)), .val (.int (17 : Int32)), .val (.int (ch.toInt8.toInt32)), .val (.int (0 : Int32))] [(.int (0 : Int32))]))
    exact own_finI X0 hx hlk hret (hb hby d13_24) (by rw [e0]; exact ⟨(by first | (rw [own_ioc, if_pos hc19]; done) | (rw [own_ioc, if_pos hc19]; rfl)), rfl, rfl⟩) (by first | decide | omega | (dsimp only; omega)) (by first | decide | omega | (dsimp only; omega))
  · skip
    refine Goes.via (fun _ kk_ => XS.icmpYes X0.here hx rfl (pc0 := 19) (pc' := 25) rfl (hb hby d13_19) rfl (feq hc19).2 (by decide) (by decide) kk_) ?_
    show Goes p e below _ (s₁.setTop (mkF m 25 #[.val (.ref b), .val (.int ch), .val (.int (0 : Int32)), .val (.int (17 : Int32)), .val (.int (ch.toInt8.toInt32)), .val (.int (0 : Int32))] []))
    refine Goes.via (fun _ kk_ => XS.iinc X0.here hx rfl (hb hby d13_25) rfl (l' := #[.val (.ref b), .val (.int ch), .val (.int (0 : Int32)), .val (.int (17 : Int32)), .val (.int (ch.toInt8.toInt32)), .val (.int ((0 : Int32) + (1 : Int32)))]) rfl kk_) ?_
    show Goes p e below _ (s₁.setTop (mkF m 28 #[.val (.ref b), .val (.int ch), .val (.int (0 : Int32)), .val (.int (17 : Int32)), .val (.int (ch.toInt8.toInt32)), .val (.int ((0 : Int32) + (1 : Int32)))] []))
    rw [show ((0 : Int32) + (1 : Int32)) = (1 : Int32) from by decide]
    show Goes p e below _ (s₁.setTop (mkF m 28 #[.val (.ref b), .val (.int ch), .val (.int (0 : Int32)), .val (.int (17 : Int32)), .val (.int (ch.toInt8.toInt32)), .val (.int (1 : Int32))] []))
    refine Goes.via (fun _ kk_ => XS.goto X0.here hx rfl (pc0 := 28) (pc' := 7) rfl (hb hby d13_28) (by decide) (by decide) kk_) ?_
    show Goes p e below _ (s₁.setTop (mkF m 7 #[.val (.ref b), .val (.int ch), .val (.int (0 : Int32)), .val (.int (17 : Int32)), .val (.int (ch.toInt8.toInt32)), .val (.int (1 : Int32))] []))
    refine Goes.via (fun _ kk_ => XS.iload X0.here hx rfl (hb hby d13_7) rfl  kk_) ?_
    show Goes p e below _ (s₁.setTop (mkF m 9 #[.val (.ref b), .val (.int ch), .val (.int (0 : Int32)), .val (.int (17 : Int32)), .val (.int (ch.toInt8.toInt32)), .val (.int (1 : Int32))] [(.int (1 : Int32))]))
    refine Goes.via (fun _ kk_ => XS.iloadN X0.here hx rfl (hb hby d13_9) rfl  kk_) ?_
    show Goes p e below _ (s₁.setTop (mkF m 10 #[.val (.ref b), .val (.int ch), .val (.int (0 : Int32)), .val (.int (17 : Int32)), .val (.int (ch.toInt8.toInt32)), .val (.int (1 : Int32))] [(.int (17 : Int32)), (.int (1 : Int32))]))
    have hc10_2 : (1 : Int32) < (17 : Int32) := (by decide)
    refine Goes.via (fun _ kk_ => XS.icmpNo X0.here hx rfl (hb hby d13_10) rfl (tlt hc10_2).2.1 kk_) ?_
    show Goes p e below _ (s₁.setTop (mkF m 13 #[.val (.ref b), .val (.int ch), .val (.int (0 : Int32)), .val (.int (17 : Int32)), .val (.int (ch.toInt8.toInt32)), .val (.int (1 : Int32))] []))
    refine Goes.via (fun _ kk_ => XS.aloadN X0.here hx rfl (hb hby d13_13) rfl rfl  kk_) ?_
    show Goes p e below _ (s₁.setTop (mkF m 14 #[.val (.ref b), .val (.int ch), .val (.int (0 : Int32)), .val (.int (17 : Int32)), .val (.int (ch.toInt8.toInt32)), .val (.int (1 : Int32))] [(.ref b)]))
    refine Goes.via (fun _ kk_ => XS.iload X0.here hx rfl (hb hby d13_14) rfl  kk_) ?_
    show Goes p e below _ (s₁.setTop (mkF m 16 #[.val (.ref b), .val (.int ch), .val (.int (0 : Int32)), .val (.int (17 : Int32)), .val (.int (ch.toInt8.toInt32)), .val (.int (1 : Int32))] [(.int (1 : Int32)), (.ref b)]))
    refine Goes.via (own_baload X0 hx hZ e0 A0_b (j := (1 : Int32)) (i := 1) (by decide) (by decide) (by decide) (v := (33 : Int32)) rfl (g := (mkF m 16 #[.val (.ref b), .val (.int ch), .val (.int (0 : Int32)), .val (.int (17 : Int32)), .val (.int (ch.toInt8.toInt32)), .val (.int (1 : Int32))] [(.int (1 : Int32)), (.ref b)])) rfl rfl (hb hby d13_16)) ?_
    show Goes p e below _ (s₁.setTop (mkF m 17 #[.val (.ref b), .val (.int ch), .val (.int (0 : Int32)), .val (.int (17 : Int32)), .val (.int (ch.toInt8.toInt32)), .val (.int (1 : Int32))] [(.int (33 : Int32))]))
    refine Goes.via (fun _ kk_ => XS.iload X0.here hx rfl (hb hby d13_17) rfl  kk_) ?_
    show Goes p e below _ (s₁.setTop (mkF m 19 #[.val (.ref b), .val (.int ch), .val (.int (0 : Int32)), .val (.int (17 : Int32)), .val (.int (ch.toInt8.toInt32)), .val (.int (1 : Int32))] [(.int (ch.toInt8.toInt32)), (.int (33 : Int32))]))
    by_cases hc19_2 : (33 : Int32) = (ch.toInt8.toInt32)
    · skip
      refine Goes.via (fun _ kk_ => XS.icmpNo X0.here hx rfl (hb hby d13_19) rfl (teq hc19_2).2 kk_) ?_
      show Goes p e below _ (s₁.setTop (mkF m 22 #[.val (.ref b), .val (.int ch), .val (.int (0 : Int32)), .val (.int (17 : Int32)), .val (.int (ch.toInt8.toInt32)), .val (.int (1 : Int32))] []))
      refine Goes.via (fun _ kk_ => XS.iload X0.here hx rfl (hb hby d13_22) rfl  kk_) ?_
      show Goes p e below _ (s₁.setTop (mkF m 24 #[.val (.ref b), .val (.int ch), .val (.int (0 : Int32)), .val (.int (17 : Int32)), .val (.int (ch.toInt8.toInt32)), .val (.int (1 : Int32))] [(.int (1 : Int32))]))
      exact own_finI X0 hx hlk hret (hb hby d13_24) (by rw [e0]; exact ⟨(by first | (rw [own_ioc, if_neg hc19, if_pos hc19_2]; done) | (rw [own_ioc, if_neg hc19, if_pos hc19_2]; rfl)), rfl, rfl⟩) (by first | decide | omega | (dsimp only; omega)) (by first | decide | omega | (dsimp only; omega))
    · skip
      refine Goes.via (fun _ kk_ => XS.icmpYes X0.here hx rfl (pc0 := 19) (pc' := 25) rfl (hb hby d13_19) rfl (feq hc19_2).2 (by decide) (by decide) kk_) ?_
      show Goes p e below _ (s₁.setTop (mkF m 25 #[.val (.ref b), .val (.int ch), .val (.int (0 : Int32)), .val (.int (17 : Int32)), .val (.int (ch.toInt8.toInt32)), .val (.int (1 : Int32))] []))
      refine Goes.via (fun _ kk_ => XS.iinc X0.here hx rfl (hb hby d13_25) rfl (l' := #[.val (.ref b), .val (.int ch), .val (.int (0 : Int32)), .val (.int (17 : Int32)), .val (.int (ch.toInt8.toInt32)), .val (.int ((1 : Int32) + (1 : Int32)))]) rfl kk_) ?_
      show Goes p e below _ (s₁.setTop (mkF m 28 #[.val (.ref b), .val (.int ch), .val (.int (0 : Int32)), .val (.int (17 : Int32)), .val (.int (ch.toInt8.toInt32)), .val (.int ((1 : Int32) + (1 : Int32)))] []))
      rw [show ((1 : Int32) + (1 : Int32)) = (2 : Int32) from by decide]
      show Goes p e below _ (s₁.setTop (mkF m 28 #[.val (.ref b), .val (.int ch), .val (.int (0 : Int32)), .val (.int (17 : Int32)), .val (.int (ch.toInt8.toInt32)), .val (.int (2 : Int32))] []))
      refine Goes.via (fun _ kk_ => XS.goto X0.here hx rfl (pc0 := 28) (pc' := 7) rfl (hb hby d13_28) (by decide) (by decide) kk_) ?_
      show Goes p e below _ (s₁.setTop (mkF m 7 #[.val (.ref b), .val (.int ch), .val (.int (0 : Int32)), .val (.int (17 : Int32)), .val (.int (ch.toInt8.toInt32)), .val (.int (2 : Int32))] []))
      refine Goes.via (fun _ kk_ => XS.iload X0.here hx rfl (hb hby d13_7) rfl  kk_) ?_
      show Goes p e below _ (s₁.setTop (mkF m 9 #[.val (.ref b), .val (.int ch), .val (.int (0 : Int32)), .val (.int (17 : Int32)), .val (.int (ch.toInt8.toInt32)), .val (.int (2 : Int32))] [(.int (2 : Int32))]))
      refine Goes.via (fun _ kk_ => XS.iloadN X0.here hx rfl (hb hby d13_9) rfl  kk_) ?_
      show Goes p e below _ (s₁.setTop (mkF m 10 #[.val (.ref b), .val (.int ch), .val (.int (0 : Int32)), .val (.int (17 : Int32)), .val (.int (ch.toInt8.toInt32)), .val (.int (2 : Int32))] [(.int (17 : Int32)), (.int (2 : Int32))]))
      have hc10_3 : (2 : Int32) < (17 : Int32) := (by decide)
      refine Goes.via (fun _ kk_ => XS.icmpNo X0.here hx rfl (hb hby d13_10) rfl (tlt hc10_3).2.1 kk_) ?_
      show Goes p e below _ (s₁.setTop (mkF m 13 #[.val (.ref b), .val (.int ch), .val (.int (0 : Int32)), .val (.int (17 : Int32)), .val (.int (ch.toInt8.toInt32)), .val (.int (2 : Int32))] []))
      refine Goes.via (fun _ kk_ => XS.aloadN X0.here hx rfl (hb hby d13_13) rfl rfl  kk_) ?_
      show Goes p e below _ (s₁.setTop (mkF m 14 #[.val (.ref b), .val (.int ch), .val (.int (0 : Int32)), .val (.int (17 : Int32)), .val (.int (ch.toInt8.toInt32)), .val (.int (2 : Int32))] [(.ref b)]))
      refine Goes.via (fun _ kk_ => XS.iload X0.here hx rfl (hb hby d13_14) rfl  kk_) ?_
      show Goes p e below _ (s₁.setTop (mkF m 16 #[.val (.ref b), .val (.int ch), .val (.int (0 : Int32)), .val (.int (17 : Int32)), .val (.int (ch.toInt8.toInt32)), .val (.int (2 : Int32))] [(.int (2 : Int32)), (.ref b)]))
      refine Goes.via (own_baload X0 hx hZ e0 A0_b (j := (2 : Int32)) (i := 2) (by decide) (by decide) (by decide) (v := (64 : Int32)) rfl (g := (mkF m 16 #[.val (.ref b), .val (.int ch), .val (.int (0 : Int32)), .val (.int (17 : Int32)), .val (.int (ch.toInt8.toInt32)), .val (.int (2 : Int32))] [(.int (2 : Int32)), (.ref b)])) rfl rfl (hb hby d13_16)) ?_
      show Goes p e below _ (s₁.setTop (mkF m 17 #[.val (.ref b), .val (.int ch), .val (.int (0 : Int32)), .val (.int (17 : Int32)), .val (.int (ch.toInt8.toInt32)), .val (.int (2 : Int32))] [(.int (64 : Int32))]))
      refine Goes.via (fun _ kk_ => XS.iload X0.here hx rfl (hb hby d13_17) rfl  kk_) ?_
      show Goes p e below _ (s₁.setTop (mkF m 19 #[.val (.ref b), .val (.int ch), .val (.int (0 : Int32)), .val (.int (17 : Int32)), .val (.int (ch.toInt8.toInt32)), .val (.int (2 : Int32))] [(.int (ch.toInt8.toInt32)), (.int (64 : Int32))]))
      by_cases hc19_3 : (64 : Int32) = (ch.toInt8.toInt32)
      · skip
        refine Goes.via (fun _ kk_ => XS.icmpNo X0.here hx rfl (hb hby d13_19) rfl (teq hc19_3).2 kk_) ?_
        show Goes p e below _ (s₁.setTop (mkF m 22 #[.val (.ref b), .val (.int ch), .val (.int (0 : Int32)), .val (.int (17 : Int32)), .val (.int (ch.toInt8.toInt32)), .val (.int (2 : Int32))] []))
        refine Goes.via (fun _ kk_ => XS.iload X0.here hx rfl (hb hby d13_22) rfl  kk_) ?_
        show Goes p e below _ (s₁.setTop (mkF m 24 #[.val (.ref b), .val (.int ch), .val (.int (0 : Int32)), .val (.int (17 : Int32)), .val (.int (ch.toInt8.toInt32)), .val (.int (2 : Int32))] [(.int (2 : Int32))]))
        exact own_finI X0 hx hlk hret (hb hby d13_24) (by rw [e0]; exact ⟨(by first | (rw [own_ioc, if_neg hc19, if_neg hc19_2, if_pos hc19_3]; done) | (rw [own_ioc, if_neg hc19, if_neg hc19_2, if_pos hc19_3]; rfl)), rfl, rfl⟩) (by first | decide | omega | (dsimp only; omega)) (by first | decide | omega | (dsimp only; omega))
      · skip
        refine Goes.via (fun _ kk_ => XS.icmpYes X0.here hx rfl (pc0 := 19) (pc' := 25) rfl (hb hby d13_19) rfl (feq hc19_3).2 (by decide) (by decide) kk_) ?_
        show Goes p e below _ (s₁.setTop (mkF m 25 #[.val (.ref b), .val (.int ch), .val (.int (0 : Int32)), .val (.int (17 : Int32)), .val (.int (ch.toInt8.toInt32)), .val (.int (2 : Int32))] []))
        refine Goes.via (fun _ kk_ => XS.iinc X0.here hx rfl (hb hby d13_25) rfl (l' := #[.val (.ref b), .val (.int ch), .val (.int (0 : Int32)), .val (.int (17 : Int32)), .val (.int (ch.toInt8.toInt32)), .val (.int ((2 : Int32) + (1 : Int32)))]) rfl kk_) ?_
        show Goes p e below _ (s₁.setTop (mkF m 28 #[.val (.ref b), .val (.int ch), .val (.int (0 : Int32)), .val (.int (17 : Int32)), .val (.int (ch.toInt8.toInt32)), .val (.int ((2 : Int32) + (1 : Int32)))] []))
        rw [show ((2 : Int32) + (1 : Int32)) = (3 : Int32) from by decide]
        show Goes p e below _ (s₁.setTop (mkF m 28 #[.val (.ref b), .val (.int ch), .val (.int (0 : Int32)), .val (.int (17 : Int32)), .val (.int (ch.toInt8.toInt32)), .val (.int (3 : Int32))] []))
        refine Goes.via (fun _ kk_ => XS.goto X0.here hx rfl (pc0 := 28) (pc' := 7) rfl (hb hby d13_28) (by decide) (by decide) kk_) ?_
        show Goes p e below _ (s₁.setTop (mkF m 7 #[.val (.ref b), .val (.int ch), .val (.int (0 : Int32)), .val (.int (17 : Int32)), .val (.int (ch.toInt8.toInt32)), .val (.int (3 : Int32))] []))
        refine Goes.via (fun _ kk_ => XS.iload X0.here hx rfl (hb hby d13_7) rfl  kk_) ?_
        show Goes p e below _ (s₁.setTop (mkF m 9 #[.val (.ref b), .val (.int ch), .val (.int (0 : Int32)), .val (.int (17 : Int32)), .val (.int (ch.toInt8.toInt32)), .val (.int (3 : Int32))] [(.int (3 : Int32))]))
        refine Goes.via (fun _ kk_ => XS.iloadN X0.here hx rfl (hb hby d13_9) rfl  kk_) ?_
        show Goes p e below _ (s₁.setTop (mkF m 10 #[.val (.ref b), .val (.int ch), .val (.int (0 : Int32)), .val (.int (17 : Int32)), .val (.int (ch.toInt8.toInt32)), .val (.int (3 : Int32))] [(.int (17 : Int32)), (.int (3 : Int32))]))
        have hc10_4 : (3 : Int32) < (17 : Int32) := (by decide)
        refine Goes.via (fun _ kk_ => XS.icmpNo X0.here hx rfl (hb hby d13_10) rfl (tlt hc10_4).2.1 kk_) ?_
        show Goes p e below _ (s₁.setTop (mkF m 13 #[.val (.ref b), .val (.int ch), .val (.int (0 : Int32)), .val (.int (17 : Int32)), .val (.int (ch.toInt8.toInt32)), .val (.int (3 : Int32))] []))
        refine Goes.via (fun _ kk_ => XS.aloadN X0.here hx rfl (hb hby d13_13) rfl rfl  kk_) ?_
        show Goes p e below _ (s₁.setTop (mkF m 14 #[.val (.ref b), .val (.int ch), .val (.int (0 : Int32)), .val (.int (17 : Int32)), .val (.int (ch.toInt8.toInt32)), .val (.int (3 : Int32))] [(.ref b)]))
        refine Goes.via (fun _ kk_ => XS.iload X0.here hx rfl (hb hby d13_14) rfl  kk_) ?_
        show Goes p e below _ (s₁.setTop (mkF m 16 #[.val (.ref b), .val (.int ch), .val (.int (0 : Int32)), .val (.int (17 : Int32)), .val (.int (ch.toInt8.toInt32)), .val (.int (3 : Int32))] [(.int (3 : Int32)), (.ref b)]))
        refine Goes.via (own_baload X0 hx hZ e0 A0_b (j := (3 : Int32)) (i := 3) (by decide) (by decide) (by decide) (v := (36 : Int32)) rfl (g := (mkF m 16 #[.val (.ref b), .val (.int ch), .val (.int (0 : Int32)), .val (.int (17 : Int32)), .val (.int (ch.toInt8.toInt32)), .val (.int (3 : Int32))] [(.int (3 : Int32)), (.ref b)])) rfl rfl (hb hby d13_16)) ?_
        show Goes p e below _ (s₁.setTop (mkF m 17 #[.val (.ref b), .val (.int ch), .val (.int (0 : Int32)), .val (.int (17 : Int32)), .val (.int (ch.toInt8.toInt32)), .val (.int (3 : Int32))] [(.int (36 : Int32))]))
        refine Goes.via (fun _ kk_ => XS.iload X0.here hx rfl (hb hby d13_17) rfl  kk_) ?_
        show Goes p e below _ (s₁.setTop (mkF m 19 #[.val (.ref b), .val (.int ch), .val (.int (0 : Int32)), .val (.int (17 : Int32)), .val (.int (ch.toInt8.toInt32)), .val (.int (3 : Int32))] [(.int (ch.toInt8.toInt32)), (.int (36 : Int32))]))
        by_cases hc19_4 : (36 : Int32) = (ch.toInt8.toInt32)
        · skip
          refine Goes.via (fun _ kk_ => XS.icmpNo X0.here hx rfl (hb hby d13_19) rfl (teq hc19_4).2 kk_) ?_
          show Goes p e below _ (s₁.setTop (mkF m 22 #[.val (.ref b), .val (.int ch), .val (.int (0 : Int32)), .val (.int (17 : Int32)), .val (.int (ch.toInt8.toInt32)), .val (.int (3 : Int32))] []))
          refine Goes.via (fun _ kk_ => XS.iload X0.here hx rfl (hb hby d13_22) rfl  kk_) ?_
          show Goes p e below _ (s₁.setTop (mkF m 24 #[.val (.ref b), .val (.int ch), .val (.int (0 : Int32)), .val (.int (17 : Int32)), .val (.int (ch.toInt8.toInt32)), .val (.int (3 : Int32))] [(.int (3 : Int32))]))
          exact own_finI X0 hx hlk hret (hb hby d13_24) (by rw [e0]; exact ⟨(by first | (rw [own_ioc, if_neg hc19, if_neg hc19_2, if_neg hc19_3, if_pos hc19_4]; done) | (rw [own_ioc, if_neg hc19, if_neg hc19_2, if_neg hc19_3, if_pos hc19_4]; rfl)), rfl, rfl⟩) (by first | decide | omega | (dsimp only; omega)) (by first | decide | omega | (dsimp only; omega))
        · skip
          refine Goes.via (fun _ kk_ => XS.icmpYes X0.here hx rfl (pc0 := 19) (pc' := 25) rfl (hb hby d13_19) rfl (feq hc19_4).2 (by decide) (by decide) kk_) ?_
          show Goes p e below _ (s₁.setTop (mkF m 25 #[.val (.ref b), .val (.int ch), .val (.int (0 : Int32)), .val (.int (17 : Int32)), .val (.int (ch.toInt8.toInt32)), .val (.int (3 : Int32))] []))
          refine Goes.via (fun _ kk_ => XS.iinc X0.here hx rfl (hb hby d13_25) rfl (l' := #[.val (.ref b), .val (.int ch), .val (.int (0 : Int32)), .val (.int (17 : Int32)), .val (.int (ch.toInt8.toInt32)), .val (.int ((3 : Int32) + (1 : Int32)))]) rfl kk_) ?_
          show Goes p e below _ (s₁.setTop (mkF m 28 #[.val (.ref b), .val (.int ch), .val (.int (0 : Int32)), .val (.int (17 : Int32)), .val (.int (ch.toInt8.toInt32)), .val (.int ((3 : Int32) + (1 : Int32)))] []))
          rw [show ((3 : Int32) + (1 : Int32)) = (4 : Int32) from by decide]
          show Goes p e below _ (s₁.setTop (mkF m 28 #[.val (.ref b), .val (.int ch), .val (.int (0 : Int32)), .val (.int (17 : Int32)), .val (.int (ch.toInt8.toInt32)), .val (.int (4 : Int32))] []))
          refine Goes.via (fun _ kk_ => XS.goto X0.here hx rfl (pc0 := 28) (pc' := 7) rfl (hb hby d13_28) (by decide) (by decide) kk_) ?_
          show Goes p e below _ (s₁.setTop (mkF m 7 #[.val (.ref b), .val (.int ch), .val (.int (0 : Int32)), .val (.int (17 : Int32)), .val (.int (ch.toInt8.toInt32)), .val (.int (4 : Int32))] []))
          refine Goes.via (fun _ kk_ => XS.iload X0.here hx rfl (hb hby d13_7) rfl  kk_) ?_
          show Goes p e below _ (s₁.setTop (mkF m 9 #[.val (.ref b), .val (.int ch), .val (.int (0 : Int32)), .val (.int (17 : Int32)), .val (.int (ch.toInt8.toInt32)), .val (.int (4 : Int32))] [(.int (4 : Int32))]))
          refine Goes.via (fun _ kk_ => XS.iloadN X0.here hx rfl (hb hby d13_9) rfl  kk_) ?_
          show Goes p e below _ (s₁.setTop (mkF m 10 #[.val (.ref b), .val (.int ch), .val (.int (0 : Int32)), .val (.int (17 : Int32)), .val (.int (ch.toInt8.toInt32)), .val (.int (4 : Int32))] [(.int (17 : Int32)), (.int (4 : Int32))]))
          have hc10_5 : (4 : Int32) < (17 : Int32) := (by decide)
          refine Goes.via (fun _ kk_ => XS.icmpNo X0.here hx rfl (hb hby d13_10) rfl (tlt hc10_5).2.1 kk_) ?_
          show Goes p e below _ (s₁.setTop (mkF m 13 #[.val (.ref b), .val (.int ch), .val (.int (0 : Int32)), .val (.int (17 : Int32)), .val (.int (ch.toInt8.toInt32)), .val (.int (4 : Int32))] []))
          refine Goes.via (fun _ kk_ => XS.aloadN X0.here hx rfl (hb hby d13_13) rfl rfl  kk_) ?_
          show Goes p e below _ (s₁.setTop (mkF m 14 #[.val (.ref b), .val (.int ch), .val (.int (0 : Int32)), .val (.int (17 : Int32)), .val (.int (ch.toInt8.toInt32)), .val (.int (4 : Int32))] [(.ref b)]))
          refine Goes.via (fun _ kk_ => XS.iload X0.here hx rfl (hb hby d13_14) rfl  kk_) ?_
          show Goes p e below _ (s₁.setTop (mkF m 16 #[.val (.ref b), .val (.int ch), .val (.int (0 : Int32)), .val (.int (17 : Int32)), .val (.int (ch.toInt8.toInt32)), .val (.int (4 : Int32))] [(.int (4 : Int32)), (.ref b)]))
          refine Goes.via (own_baload X0 hx hZ e0 A0_b (j := (4 : Int32)) (i := 4) (by decide) (by decide) (by decide) (v := (37 : Int32)) rfl (g := (mkF m 16 #[.val (.ref b), .val (.int ch), .val (.int (0 : Int32)), .val (.int (17 : Int32)), .val (.int (ch.toInt8.toInt32)), .val (.int (4 : Int32))] [(.int (4 : Int32)), (.ref b)])) rfl rfl (hb hby d13_16)) ?_
          show Goes p e below _ (s₁.setTop (mkF m 17 #[.val (.ref b), .val (.int ch), .val (.int (0 : Int32)), .val (.int (17 : Int32)), .val (.int (ch.toInt8.toInt32)), .val (.int (4 : Int32))] [(.int (37 : Int32))]))
          refine Goes.via (fun _ kk_ => XS.iload X0.here hx rfl (hb hby d13_17) rfl  kk_) ?_
          show Goes p e below _ (s₁.setTop (mkF m 19 #[.val (.ref b), .val (.int ch), .val (.int (0 : Int32)), .val (.int (17 : Int32)), .val (.int (ch.toInt8.toInt32)), .val (.int (4 : Int32))] [(.int (ch.toInt8.toInt32)), (.int (37 : Int32))]))
          by_cases hc19_5 : (37 : Int32) = (ch.toInt8.toInt32)
          · skip
            refine Goes.via (fun _ kk_ => XS.icmpNo X0.here hx rfl (hb hby d13_19) rfl (teq hc19_5).2 kk_) ?_
            show Goes p e below _ (s₁.setTop (mkF m 22 #[.val (.ref b), .val (.int ch), .val (.int (0 : Int32)), .val (.int (17 : Int32)), .val (.int (ch.toInt8.toInt32)), .val (.int (4 : Int32))] []))
            refine Goes.via (fun _ kk_ => XS.iload X0.here hx rfl (hb hby d13_22) rfl  kk_) ?_
            show Goes p e below _ (s₁.setTop (mkF m 24 #[.val (.ref b), .val (.int ch), .val (.int (0 : Int32)), .val (.int (17 : Int32)), .val (.int (ch.toInt8.toInt32)), .val (.int (4 : Int32))] [(.int (4 : Int32))]))
            exact own_finI X0 hx hlk hret (hb hby d13_24) (by rw [e0]; exact ⟨(by first | (rw [own_ioc, if_neg hc19, if_neg hc19_2, if_neg hc19_3, if_neg hc19_4, if_pos hc19_5]; done) | (rw [own_ioc, if_neg hc19, if_neg hc19_2, if_neg hc19_3, if_neg hc19_4, if_pos hc19_5]; rfl)), rfl, rfl⟩) (by first | decide | omega | (dsimp only; omega)) (by first | decide | omega | (dsimp only; omega))
          · skip
            refine Goes.via (fun _ kk_ => XS.icmpYes X0.here hx rfl (pc0 := 19) (pc' := 25) rfl (hb hby d13_19) rfl (feq hc19_5).2 (by decide) (by decide) kk_) ?_
            show Goes p e below _ (s₁.setTop (mkF m 25 #[.val (.ref b), .val (.int ch), .val (.int (0 : Int32)), .val (.int (17 : Int32)), .val (.int (ch.toInt8.toInt32)), .val (.int (4 : Int32))] []))
            refine Goes.via (fun _ kk_ => XS.iinc X0.here hx rfl (hb hby d13_25) rfl (l' := #[.val (.ref b), .val (.int ch), .val (.int (0 : Int32)), .val (.int (17 : Int32)), .val (.int (ch.toInt8.toInt32)), .val (.int ((4 : Int32) + (1 : Int32)))]) rfl kk_) ?_
            show Goes p e below _ (s₁.setTop (mkF m 28 #[.val (.ref b), .val (.int ch), .val (.int (0 : Int32)), .val (.int (17 : Int32)), .val (.int (ch.toInt8.toInt32)), .val (.int ((4 : Int32) + (1 : Int32)))] []))
            rw [show ((4 : Int32) + (1 : Int32)) = (5 : Int32) from by decide]
            show Goes p e below _ (s₁.setTop (mkF m 28 #[.val (.ref b), .val (.int ch), .val (.int (0 : Int32)), .val (.int (17 : Int32)), .val (.int (ch.toInt8.toInt32)), .val (.int (5 : Int32))] []))
            refine Goes.via (fun _ kk_ => XS.goto X0.here hx rfl (pc0 := 28) (pc' := 7) rfl (hb hby d13_28) (by decide) (by decide) kk_) ?_
            show Goes p e below _ (s₁.setTop (mkF m 7 #[.val (.ref b), .val (.int ch), .val (.int (0 : Int32)), .val (.int (17 : Int32)), .val (.int (ch.toInt8.toInt32)), .val (.int (5 : Int32))] []))
            refine Goes.via (fun _ kk_ => XS.iload X0.here hx rfl (hb hby d13_7) rfl  kk_) ?_
            show Goes p e below _ (s₁.setTop (mkF m 9 #[.val (.ref b), .val (.int ch), .val (.int (0 : Int32)), .val (.int (17 : Int32)), .val (.int (ch.toInt8.toInt32)), .val (.int (5 : Int32))] [(.int (5 : Int32))]))
            refine Goes.via (fun _ kk_ => XS.iloadN X0.here hx rfl (hb hby d13_9) rfl  kk_) ?_
            show Goes p e below _ (s₁.setTop (mkF m 10 #[.val (.ref b), .val (.int ch), .val (.int (0 : Int32)), .val (.int (17 : Int32)), .val (.int (ch.toInt8.toInt32)), .val (.int (5 : Int32))] [(.int (17 : Int32)), (.int (5 : Int32))]))
            have hc10_6 : (5 : Int32) < (17 : Int32) := (by decide)
            refine Goes.via (fun _ kk_ => XS.icmpNo X0.here hx rfl (hb hby d13_10) rfl (tlt hc10_6).2.1 kk_) ?_
            show Goes p e below _ (s₁.setTop (mkF m 13 #[.val (.ref b), .val (.int ch), .val (.int (0 : Int32)), .val (.int (17 : Int32)), .val (.int (ch.toInt8.toInt32)), .val (.int (5 : Int32))] []))
            refine Goes.via (fun _ kk_ => XS.aloadN X0.here hx rfl (hb hby d13_13) rfl rfl  kk_) ?_
            show Goes p e below _ (s₁.setTop (mkF m 14 #[.val (.ref b), .val (.int ch), .val (.int (0 : Int32)), .val (.int (17 : Int32)), .val (.int (ch.toInt8.toInt32)), .val (.int (5 : Int32))] [(.ref b)]))
            refine Goes.via (fun _ kk_ => XS.iload X0.here hx rfl (hb hby d13_14) rfl  kk_) ?_
            show Goes p e below _ (s₁.setTop (mkF m 16 #[.val (.ref b), .val (.int ch), .val (.int (0 : Int32)), .val (.int (17 : Int32)), .val (.int (ch.toInt8.toInt32)), .val (.int (5 : Int32))] [(.int (5 : Int32)), (.ref b)]))
            refine Goes.via (own_baload X0 hx hZ e0 A0_b (j := (5 : Int32)) (i := 5) (by decide) (by decide) (by decide) (v := (94 : Int32)) rfl (g := (mkF m 16 #[.val (.ref b), .val (.int ch), .val (.int (0 : Int32)), .val (.int (17 : Int32)), .val (.int (ch.toInt8.toInt32)), .val (.int (5 : Int32))] [(.int (5 : Int32)), (.ref b)])) rfl rfl (hb hby d13_16)) ?_
            show Goes p e below _ (s₁.setTop (mkF m 17 #[.val (.ref b), .val (.int ch), .val (.int (0 : Int32)), .val (.int (17 : Int32)), .val (.int (ch.toInt8.toInt32)), .val (.int (5 : Int32))] [(.int (94 : Int32))]))
            refine Goes.via (fun _ kk_ => XS.iload X0.here hx rfl (hb hby d13_17) rfl  kk_) ?_
            show Goes p e below _ (s₁.setTop (mkF m 19 #[.val (.ref b), .val (.int ch), .val (.int (0 : Int32)), .val (.int (17 : Int32)), .val (.int (ch.toInt8.toInt32)), .val (.int (5 : Int32))] [(.int (ch.toInt8.toInt32)), (.int (94 : Int32))]))
            by_cases hc19_6 : (94 : Int32) = (ch.toInt8.toInt32)
            · skip
              refine Goes.via (fun _ kk_ => XS.icmpNo X0.here hx rfl (hb hby d13_19) rfl (teq hc19_6).2 kk_) ?_
              show Goes p e below _ (s₁.setTop (mkF m 22 #[.val (.ref b), .val (.int ch), .val (.int (0 : Int32)), .val (.int (17 : Int32)), .val (.int (ch.toInt8.toInt32)), .val (.int (5 : Int32))] []))
              refine Goes.via (fun _ kk_ => XS.iload X0.here hx rfl (hb hby d13_22) rfl  kk_) ?_
              show Goes p e below _ (s₁.setTop (mkF m 24 #[.val (.ref b), .val (.int ch), .val (.int (0 : Int32)), .val (.int (17 : Int32)), .val (.int (ch.toInt8.toInt32)), .val (.int (5 : Int32))] [(.int (5 : Int32))]))
              exact own_finI X0 hx hlk hret (hb hby d13_24) (by rw [e0]; exact ⟨(by first | (rw [own_ioc, if_neg hc19, if_neg hc19_2, if_neg hc19_3, if_neg hc19_4, if_neg hc19_5, if_pos hc19_6]; done) | (rw [own_ioc, if_neg hc19, if_neg hc19_2, if_neg hc19_3, if_neg hc19_4, if_neg hc19_5, if_pos hc19_6]; rfl)), rfl, rfl⟩) (by first | decide | omega | (dsimp only; omega)) (by first | decide | omega | (dsimp only; omega))
            · skip
              refine Goes.via (fun _ kk_ => XS.icmpYes X0.here hx rfl (pc0 := 19) (pc' := 25) rfl (hb hby d13_19) rfl (feq hc19_6).2 (by decide) (by decide) kk_) ?_
              show Goes p e below _ (s₁.setTop (mkF m 25 #[.val (.ref b), .val (.int ch), .val (.int (0 : Int32)), .val (.int (17 : Int32)), .val (.int (ch.toInt8.toInt32)), .val (.int (5 : Int32))] []))
              refine Goes.via (fun _ kk_ => XS.iinc X0.here hx rfl (hb hby d13_25) rfl (l' := #[.val (.ref b), .val (.int ch), .val (.int (0 : Int32)), .val (.int (17 : Int32)), .val (.int (ch.toInt8.toInt32)), .val (.int ((5 : Int32) + (1 : Int32)))]) rfl kk_) ?_
              show Goes p e below _ (s₁.setTop (mkF m 28 #[.val (.ref b), .val (.int ch), .val (.int (0 : Int32)), .val (.int (17 : Int32)), .val (.int (ch.toInt8.toInt32)), .val (.int ((5 : Int32) + (1 : Int32)))] []))
              rw [show ((5 : Int32) + (1 : Int32)) = (6 : Int32) from by decide]
              show Goes p e below _ (s₁.setTop (mkF m 28 #[.val (.ref b), .val (.int ch), .val (.int (0 : Int32)), .val (.int (17 : Int32)), .val (.int (ch.toInt8.toInt32)), .val (.int (6 : Int32))] []))
              refine Goes.via (fun _ kk_ => XS.goto X0.here hx rfl (pc0 := 28) (pc' := 7) rfl (hb hby d13_28) (by decide) (by decide) kk_) ?_
              show Goes p e below _ (s₁.setTop (mkF m 7 #[.val (.ref b), .val (.int ch), .val (.int (0 : Int32)), .val (.int (17 : Int32)), .val (.int (ch.toInt8.toInt32)), .val (.int (6 : Int32))] []))
              refine Goes.via (fun _ kk_ => XS.iload X0.here hx rfl (hb hby d13_7) rfl  kk_) ?_
              show Goes p e below _ (s₁.setTop (mkF m 9 #[.val (.ref b), .val (.int ch), .val (.int (0 : Int32)), .val (.int (17 : Int32)), .val (.int (ch.toInt8.toInt32)), .val (.int (6 : Int32))] [(.int (6 : Int32))]))
              refine Goes.via (fun _ kk_ => XS.iloadN X0.here hx rfl (hb hby d13_9) rfl  kk_) ?_
              show Goes p e below _ (s₁.setTop (mkF m 10 #[.val (.ref b), .val (.int ch), .val (.int (0 : Int32)), .val (.int (17 : Int32)), .val (.int (ch.toInt8.toInt32)), .val (.int (6 : Int32))] [(.int (17 : Int32)), (.int (6 : Int32))]))
              have hc10_7 : (6 : Int32) < (17 : Int32) := (by decide)
              refine Goes.via (fun _ kk_ => XS.icmpNo X0.here hx rfl (hb hby d13_10) rfl (tlt hc10_7).2.1 kk_) ?_
              show Goes p e below _ (s₁.setTop (mkF m 13 #[.val (.ref b), .val (.int ch), .val (.int (0 : Int32)), .val (.int (17 : Int32)), .val (.int (ch.toInt8.toInt32)), .val (.int (6 : Int32))] []))
              refine Goes.via (fun _ kk_ => XS.aloadN X0.here hx rfl (hb hby d13_13) rfl rfl  kk_) ?_
              show Goes p e below _ (s₁.setTop (mkF m 14 #[.val (.ref b), .val (.int ch), .val (.int (0 : Int32)), .val (.int (17 : Int32)), .val (.int (ch.toInt8.toInt32)), .val (.int (6 : Int32))] [(.ref b)]))
              refine Goes.via (fun _ kk_ => XS.iload X0.here hx rfl (hb hby d13_14) rfl  kk_) ?_
              show Goes p e below _ (s₁.setTop (mkF m 16 #[.val (.ref b), .val (.int ch), .val (.int (0 : Int32)), .val (.int (17 : Int32)), .val (.int (ch.toInt8.toInt32)), .val (.int (6 : Int32))] [(.int (6 : Int32)), (.ref b)]))
              refine Goes.via (own_baload X0 hx hZ e0 A0_b (j := (6 : Int32)) (i := 6) (by decide) (by decide) (by decide) (v := (38 : Int32)) rfl (g := (mkF m 16 #[.val (.ref b), .val (.int ch), .val (.int (0 : Int32)), .val (.int (17 : Int32)), .val (.int (ch.toInt8.toInt32)), .val (.int (6 : Int32))] [(.int (6 : Int32)), (.ref b)])) rfl rfl (hb hby d13_16)) ?_
              show Goes p e below _ (s₁.setTop (mkF m 17 #[.val (.ref b), .val (.int ch), .val (.int (0 : Int32)), .val (.int (17 : Int32)), .val (.int (ch.toInt8.toInt32)), .val (.int (6 : Int32))] [(.int (38 : Int32))]))
              refine Goes.via (fun _ kk_ => XS.iload X0.here hx rfl (hb hby d13_17) rfl  kk_) ?_
              show Goes p e below _ (s₁.setTop (mkF m 19 #[.val (.ref b), .val (.int ch), .val (.int (0 : Int32)), .val (.int (17 : Int32)), .val (.int (ch.toInt8.toInt32)), .val (.int (6 : Int32))] [(.int (ch.toInt8.toInt32)), (.int (38 : Int32))]))
              by_cases hc19_7 : (38 : Int32) = (ch.toInt8.toInt32)
              · skip
                refine Goes.via (fun _ kk_ => XS.icmpNo X0.here hx rfl (hb hby d13_19) rfl (teq hc19_7).2 kk_) ?_
                show Goes p e below _ (s₁.setTop (mkF m 22 #[.val (.ref b), .val (.int ch), .val (.int (0 : Int32)), .val (.int (17 : Int32)), .val (.int (ch.toInt8.toInt32)), .val (.int (6 : Int32))] []))
                refine Goes.via (fun _ kk_ => XS.iload X0.here hx rfl (hb hby d13_22) rfl  kk_) ?_
                show Goes p e below _ (s₁.setTop (mkF m 24 #[.val (.ref b), .val (.int ch), .val (.int (0 : Int32)), .val (.int (17 : Int32)), .val (.int (ch.toInt8.toInt32)), .val (.int (6 : Int32))] [(.int (6 : Int32))]))
                exact own_finI X0 hx hlk hret (hb hby d13_24) (by rw [e0]; exact ⟨(by first | (rw [own_ioc, if_neg hc19, if_neg hc19_2, if_neg hc19_3, if_neg hc19_4, if_neg hc19_5, if_neg hc19_6, if_pos hc19_7]; done) | (rw [own_ioc, if_neg hc19, if_neg hc19_2, if_neg hc19_3, if_neg hc19_4, if_neg hc19_5, if_neg hc19_6, if_pos hc19_7]; rfl)), rfl, rfl⟩) (by first | decide | omega | (dsimp only; omega)) (by first | decide | omega | (dsimp only; omega))
              · skip
                refine Goes.via (fun _ kk_ => XS.icmpYes X0.here hx rfl (pc0 := 19) (pc' := 25) rfl (hb hby d13_19) rfl (feq hc19_7).2 (by decide) (by decide) kk_) ?_
                show Goes p e below _ (s₁.setTop (mkF m 25 #[.val (.ref b), .val (.int ch), .val (.int (0 : Int32)), .val (.int (17 : Int32)), .val (.int (ch.toInt8.toInt32)), .val (.int (6 : Int32))] []))
                refine Goes.via (fun _ kk_ => XS.iinc X0.here hx rfl (hb hby d13_25) rfl (l' := #[.val (.ref b), .val (.int ch), .val (.int (0 : Int32)), .val (.int (17 : Int32)), .val (.int (ch.toInt8.toInt32)), .val (.int ((6 : Int32) + (1 : Int32)))]) rfl kk_) ?_
                show Goes p e below _ (s₁.setTop (mkF m 28 #[.val (.ref b), .val (.int ch), .val (.int (0 : Int32)), .val (.int (17 : Int32)), .val (.int (ch.toInt8.toInt32)), .val (.int ((6 : Int32) + (1 : Int32)))] []))
                rw [show ((6 : Int32) + (1 : Int32)) = (7 : Int32) from by decide]
                show Goes p e below _ (s₁.setTop (mkF m 28 #[.val (.ref b), .val (.int ch), .val (.int (0 : Int32)), .val (.int (17 : Int32)), .val (.int (ch.toInt8.toInt32)), .val (.int (7 : Int32))] []))
                refine Goes.via (fun _ kk_ => XS.goto X0.here hx rfl (pc0 := 28) (pc' := 7) rfl (hb hby d13_28) (by decide) (by decide) kk_) ?_
                show Goes p e below _ (s₁.setTop (mkF m 7 #[.val (.ref b), .val (.int ch), .val (.int (0 : Int32)), .val (.int (17 : Int32)), .val (.int (ch.toInt8.toInt32)), .val (.int (7 : Int32))] []))
                refine Goes.via (fun _ kk_ => XS.iload X0.here hx rfl (hb hby d13_7) rfl  kk_) ?_
                show Goes p e below _ (s₁.setTop (mkF m 9 #[.val (.ref b), .val (.int ch), .val (.int (0 : Int32)), .val (.int (17 : Int32)), .val (.int (ch.toInt8.toInt32)), .val (.int (7 : Int32))] [(.int (7 : Int32))]))
                refine Goes.via (fun _ kk_ => XS.iloadN X0.here hx rfl (hb hby d13_9) rfl  kk_) ?_
                show Goes p e below _ (s₁.setTop (mkF m 10 #[.val (.ref b), .val (.int ch), .val (.int (0 : Int32)), .val (.int (17 : Int32)), .val (.int (ch.toInt8.toInt32)), .val (.int (7 : Int32))] [(.int (17 : Int32)), (.int (7 : Int32))]))
                have hc10_8 : (7 : Int32) < (17 : Int32) := (by decide)
                refine Goes.via (fun _ kk_ => XS.icmpNo X0.here hx rfl (hb hby d13_10) rfl (tlt hc10_8).2.1 kk_) ?_
                show Goes p e below _ (s₁.setTop (mkF m 13 #[.val (.ref b), .val (.int ch), .val (.int (0 : Int32)), .val (.int (17 : Int32)), .val (.int (ch.toInt8.toInt32)), .val (.int (7 : Int32))] []))
                refine Goes.via (fun _ kk_ => XS.aloadN X0.here hx rfl (hb hby d13_13) rfl rfl  kk_) ?_
                show Goes p e below _ (s₁.setTop (mkF m 14 #[.val (.ref b), .val (.int ch), .val (.int (0 : Int32)), .val (.int (17 : Int32)), .val (.int (ch.toInt8.toInt32)), .val (.int (7 : Int32))] [(.ref b)]))
                refine Goes.via (fun _ kk_ => XS.iload X0.here hx rfl (hb hby d13_14) rfl  kk_) ?_
                show Goes p e below _ (s₁.setTop (mkF m 16 #[.val (.ref b), .val (.int ch), .val (.int (0 : Int32)), .val (.int (17 : Int32)), .val (.int (ch.toInt8.toInt32)), .val (.int (7 : Int32))] [(.int (7 : Int32)), (.ref b)]))
                refine Goes.via (own_baload X0 hx hZ e0 A0_b (j := (7 : Int32)) (i := 7) (by decide) (by decide) (by decide) (v := (42 : Int32)) rfl (g := (mkF m 16 #[.val (.ref b), .val (.int ch), .val (.int (0 : Int32)), .val (.int (17 : Int32)), .val (.int (ch.toInt8.toInt32)), .val (.int (7 : Int32))] [(.int (7 : Int32)), (.ref b)])) rfl rfl (hb hby d13_16)) ?_
                show Goes p e below _ (s₁.setTop (mkF m 17 #[.val (.ref b), .val (.int ch), .val (.int (0 : Int32)), .val (.int (17 : Int32)), .val (.int (ch.toInt8.toInt32)), .val (.int (7 : Int32))] [(.int (42 : Int32))]))
                refine Goes.via (fun _ kk_ => XS.iload X0.here hx rfl (hb hby d13_17) rfl  kk_) ?_
                show Goes p e below _ (s₁.setTop (mkF m 19 #[.val (.ref b), .val (.int ch), .val (.int (0 : Int32)), .val (.int (17 : Int32)), .val (.int (ch.toInt8.toInt32)), .val (.int (7 : Int32))] [(.int (ch.toInt8.toInt32)), (.int (42 : Int32))]))
                by_cases hc19_8 : (42 : Int32) = (ch.toInt8.toInt32)
                · skip
                  refine Goes.via (fun _ kk_ => XS.icmpNo X0.here hx rfl (hb hby d13_19) rfl (teq hc19_8).2 kk_) ?_
                  show Goes p e below _ (s₁.setTop (mkF m 22 #[.val (.ref b), .val (.int ch), .val (.int (0 : Int32)), .val (.int (17 : Int32)), .val (.int (ch.toInt8.toInt32)), .val (.int (7 : Int32))] []))
                  refine Goes.via (fun _ kk_ => XS.iload X0.here hx rfl (hb hby d13_22) rfl  kk_) ?_
                  show Goes p e below _ (s₁.setTop (mkF m 24 #[.val (.ref b), .val (.int ch), .val (.int (0 : Int32)), .val (.int (17 : Int32)), .val (.int (ch.toInt8.toInt32)), .val (.int (7 : Int32))] [(.int (7 : Int32))]))
                  exact own_finI X0 hx hlk hret (hb hby d13_24) (by rw [e0]; exact ⟨(by first | (rw [own_ioc, if_neg hc19, if_neg hc19_2, if_neg hc19_3, if_neg hc19_4, if_neg hc19_5, if_neg hc19_6, if_neg hc19_7, if_pos hc19_8]; done) | (rw [own_ioc, if_neg hc19, if_neg hc19_2, if_neg hc19_3, if_neg hc19_4, if_neg hc19_5, if_neg hc19_6, if_neg hc19_7, if_pos hc19_8]; rfl)), rfl, rfl⟩) (by first | decide | omega | (dsimp only; omega)) (by first | decide | omega | (dsimp only; omega))
                · skip
                  refine Goes.via (fun _ kk_ => XS.icmpYes X0.here hx rfl (pc0 := 19) (pc' := 25) rfl (hb hby d13_19) rfl (feq hc19_8).2 (by decide) (by decide) kk_) ?_
                  show Goes p e below _ (s₁.setTop (mkF m 25 #[.val (.ref b), .val (.int ch), .val (.int (0 : Int32)), .val (.int (17 : Int32)), .val (.int (ch.toInt8.toInt32)), .val (.int (7 : Int32))] []))
                  refine Goes.via (fun _ kk_ => XS.iinc X0.here hx rfl (hb hby d13_25) rfl (l' := #[.val (.ref b), .val (.int ch), .val (.int (0 : Int32)), .val (.int (17 : Int32)), .val (.int (ch.toInt8.toInt32)), .val (.int ((7 : Int32) + (1 : Int32)))]) rfl kk_) ?_
                  show Goes p e below _ (s₁.setTop (mkF m 28 #[.val (.ref b), .val (.int ch), .val (.int (0 : Int32)), .val (.int (17 : Int32)), .val (.int (ch.toInt8.toInt32)), .val (.int ((7 : Int32) + (1 : Int32)))] []))
                  rw [show ((7 : Int32) + (1 : Int32)) = (8 : Int32) from by decide]
                  show Goes p e below _ (s₁.setTop (mkF m 28 #[.val (.ref b), .val (.int ch), .val (.int (0 : Int32)), .val (.int (17 : Int32)), .val (.int (ch.toInt8.toInt32)), .val (.int (8 : Int32))] []))
                  refine Goes.via (fun _ kk_ => XS.goto X0.here hx rfl (pc0 := 28) (pc' := 7) rfl (hb hby d13_28) (by decide) (by decide) kk_) ?_
                  show Goes p e below _ (s₁.setTop (mkF m 7 #[.val (.ref b), .val (.int ch), .val (.int (0 : Int32)), .val (.int (17 : Int32)), .val (.int (ch.toInt8.toInt32)), .val (.int (8 : Int32))] []))
                  refine Goes.via (fun _ kk_ => XS.iload X0.here hx rfl (hb hby d13_7) rfl  kk_) ?_
                  show Goes p e below _ (s₁.setTop (mkF m 9 #[.val (.ref b), .val (.int ch), .val (.int (0 : Int32)), .val (.int (17 : Int32)), .val (.int (ch.toInt8.toInt32)), .val (.int (8 : Int32))] [(.int (8 : Int32))]))
                  refine Goes.via (fun _ kk_ => XS.iloadN X0.here hx rfl (hb hby d13_9) rfl  kk_) ?_
                  show Goes p e below _ (s₁.setTop (mkF m 10 #[.val (.ref b), .val (.int ch), .val (.int (0 : Int32)), .val (.int (17 : Int32)), .val (.int (ch.toInt8.toInt32)), .val (.int (8 : Int32))] [(.int (17 : Int32)), (.int (8 : Int32))]))
                  have hc10_9 : (8 : Int32) < (17 : Int32) := (by decide)
                  refine Goes.via (fun _ kk_ => XS.icmpNo X0.here hx rfl (hb hby d13_10) rfl (tlt hc10_9).2.1 kk_) ?_
                  show Goes p e below _ (s₁.setTop (mkF m 13 #[.val (.ref b), .val (.int ch), .val (.int (0 : Int32)), .val (.int (17 : Int32)), .val (.int (ch.toInt8.toInt32)), .val (.int (8 : Int32))] []))
                  refine Goes.via (fun _ kk_ => XS.aloadN X0.here hx rfl (hb hby d13_13) rfl rfl  kk_) ?_
                  show Goes p e below _ (s₁.setTop (mkF m 14 #[.val (.ref b), .val (.int ch), .val (.int (0 : Int32)), .val (.int (17 : Int32)), .val (.int (ch.toInt8.toInt32)), .val (.int (8 : Int32))] [(.ref b)]))
                  refine Goes.via (fun _ kk_ => XS.iload X0.here hx rfl (hb hby d13_14) rfl  kk_) ?_
                  show Goes p e below _ (s₁.setTop (mkF m 16 #[.val (.ref b), .val (.int ch), .val (.int (0 : Int32)), .val (.int (17 : Int32)), .val (.int (ch.toInt8.toInt32)), .val (.int (8 : Int32))] [(.int (8 : Int32)), (.ref b)]))
                  refine Goes.via (own_baload X0 hx hZ e0 A0_b (j := (8 : Int32)) (i := 8) (by decide) (by decide) (by decide) (v := (95 : Int32)) rfl (g := (mkF m 16 #[.val (.ref b), .val (.int ch), .val (.int (0 : Int32)), .val (.int (17 : Int32)), .val (.int (ch.toInt8.toInt32)), .val (.int (8 : Int32))] [(.int (8 : Int32)), (.ref b)])) rfl rfl (hb hby d13_16)) ?_
                  show Goes p e below _ (s₁.setTop (mkF m 17 #[.val (.ref b), .val (.int ch), .val (.int (0 : Int32)), .val (.int (17 : Int32)), .val (.int (ch.toInt8.toInt32)), .val (.int (8 : Int32))] [(.int (95 : Int32))]))
                  refine Goes.via (fun _ kk_ => XS.iload X0.here hx rfl (hb hby d13_17) rfl  kk_) ?_
                  show Goes p e below _ (s₁.setTop (mkF m 19 #[.val (.ref b), .val (.int ch), .val (.int (0 : Int32)), .val (.int (17 : Int32)), .val (.int (ch.toInt8.toInt32)), .val (.int (8 : Int32))] [(.int (ch.toInt8.toInt32)), (.int (95 : Int32))]))
                  by_cases hc19_9 : (95 : Int32) = (ch.toInt8.toInt32)
                  · skip
                    refine Goes.via (fun _ kk_ => XS.icmpNo X0.here hx rfl (hb hby d13_19) rfl (teq hc19_9).2 kk_) ?_
                    show Goes p e below _ (s₁.setTop (mkF m 22 #[.val (.ref b), .val (.int ch), .val (.int (0 : Int32)), .val (.int (17 : Int32)), .val (.int (ch.toInt8.toInt32)), .val (.int (8 : Int32))] []))
                    refine Goes.via (fun _ kk_ => XS.iload X0.here hx rfl (hb hby d13_22) rfl  kk_) ?_
                    show Goes p e below _ (s₁.setTop (mkF m 24 #[.val (.ref b), .val (.int ch), .val (.int (0 : Int32)), .val (.int (17 : Int32)), .val (.int (ch.toInt8.toInt32)), .val (.int (8 : Int32))] [(.int (8 : Int32))]))
                    exact own_finI X0 hx hlk hret (hb hby d13_24) (by rw [e0]; exact ⟨(by first | (rw [own_ioc, if_neg hc19, if_neg hc19_2, if_neg hc19_3, if_neg hc19_4, if_neg hc19_5, if_neg hc19_6, if_neg hc19_7, if_neg hc19_8, if_pos hc19_9]; done) | (rw [own_ioc, if_neg hc19, if_neg hc19_2, if_neg hc19_3, if_neg hc19_4, if_neg hc19_5, if_neg hc19_6, if_neg hc19_7, if_neg hc19_8, if_pos hc19_9]; rfl)), rfl, rfl⟩) (by first | decide | omega | (dsimp only; omega)) (by first | decide | omega | (dsimp only; omega))
                  · skip
                    refine Goes.via (fun _ kk_ => XS.icmpYes X0.here hx rfl (pc0 := 19) (pc' := 25) rfl (hb hby d13_19) rfl (feq hc19_9).2 (by decide) (by decide) kk_) ?_
                    show Goes p e below _ (s₁.setTop (mkF m 25 #[.val (.ref b), .val (.int ch), .val (.int (0 : Int32)), .val (.int (17 : Int32)), .val (.int (ch.toInt8.toInt32)), .val (.int (8 : Int32))] []))
                    refine Goes.via (fun _ kk_ => XS.iinc X0.here hx rfl (hb hby d13_25) rfl (l' := #[.val (.ref b), .val (.int ch), .val (.int (0 : Int32)), .val (.int (17 : Int32)), .val (.int (ch.toInt8.toInt32)), .val (.int ((8 : Int32) + (1 : Int32)))]) rfl kk_) ?_
                    show Goes p e below _ (s₁.setTop (mkF m 28 #[.val (.ref b), .val (.int ch), .val (.int (0 : Int32)), .val (.int (17 : Int32)), .val (.int (ch.toInt8.toInt32)), .val (.int ((8 : Int32) + (1 : Int32)))] []))
                    rw [show ((8 : Int32) + (1 : Int32)) = (9 : Int32) from by decide]
                    show Goes p e below _ (s₁.setTop (mkF m 28 #[.val (.ref b), .val (.int ch), .val (.int (0 : Int32)), .val (.int (17 : Int32)), .val (.int (ch.toInt8.toInt32)), .val (.int (9 : Int32))] []))
                    refine Goes.via (fun _ kk_ => XS.goto X0.here hx rfl (pc0 := 28) (pc' := 7) rfl (hb hby d13_28) (by decide) (by decide) kk_) ?_
                    show Goes p e below _ (s₁.setTop (mkF m 7 #[.val (.ref b), .val (.int ch), .val (.int (0 : Int32)), .val (.int (17 : Int32)), .val (.int (ch.toInt8.toInt32)), .val (.int (9 : Int32))] []))
                    refine Goes.via (fun _ kk_ => XS.iload X0.here hx rfl (hb hby d13_7) rfl  kk_) ?_
                    show Goes p e below _ (s₁.setTop (mkF m 9 #[.val (.ref b), .val (.int ch), .val (.int (0 : Int32)), .val (.int (17 : Int32)), .val (.int (ch.toInt8.toInt32)), .val (.int (9 : Int32))] [(.int (9 : Int32))]))
                    refine Goes.via (fun _ kk_ => XS.iloadN X0.here hx rfl (hb hby d13_9) rfl  kk_) ?_
                    show Goes p e below _ (s₁.setTop (mkF m 10 #[.val (.ref b), .val (.int ch), .val (.int (0 : Int32)), .val (.int (17 : Int32)), .val (.int (ch.toInt8.toInt32)), .val (.int (9 : Int32))] [(.int (17 : Int32)), (.int (9 : Int32))]))
                    have hc10_10 : (9 : Int32) < (17 : Int32) := (by decide)
                    refine Goes.via (fun _ kk_ => XS.icmpNo X0.here hx rfl (hb hby d13_10) rfl (tlt hc10_10).2.1 kk_) ?_
                    show Goes p e below _ (s₁.setTop (mkF m 13 #[.val (.ref b), .val (.int ch), .val (.int (0 : Int32)), .val (.int (17 : Int32)), .val (.int (ch.toInt8.toInt32)), .val (.int (9 : Int32))] []))
                    refine Goes.via (fun _ kk_ => XS.aloadN X0.here hx rfl (hb hby d13_13) rfl rfl  kk_) ?_
                    show Goes p e below _ (s₁.setTop (mkF m 14 #[.val (.ref b), .val (.int ch), .val (.int (0 : Int32)), .val (.int (17 : Int32)), .val (.int (ch.toInt8.toInt32)), .val (.int (9 : Int32))] [(.ref b)]))
                    refine Goes.via (fun _ kk_ => XS.iload X0.here hx rfl (hb hby d13_14) rfl  kk_) ?_
                    show Goes p e below _ (s₁.setTop (mkF m 16 #[.val (.ref b), .val (.int ch), .val (.int (0 : Int32)), .val (.int (17 : Int32)), .val (.int (ch.toInt8.toInt32)), .val (.int (9 : Int32))] [(.int (9 : Int32)), (.ref b)]))
                    refine Goes.via (own_baload X0 hx hZ e0 A0_b (j := (9 : Int32)) (i := 9) (by decide) (by decide) (by decide) (v := (45 : Int32)) rfl (g := (mkF m 16 #[.val (.ref b), .val (.int ch), .val (.int (0 : Int32)), .val (.int (17 : Int32)), .val (.int (ch.toInt8.toInt32)), .val (.int (9 : Int32))] [(.int (9 : Int32)), (.ref b)])) rfl rfl (hb hby d13_16)) ?_
                    show Goes p e below _ (s₁.setTop (mkF m 17 #[.val (.ref b), .val (.int ch), .val (.int (0 : Int32)), .val (.int (17 : Int32)), .val (.int (ch.toInt8.toInt32)), .val (.int (9 : Int32))] [(.int (45 : Int32))]))
                    refine Goes.via (fun _ kk_ => XS.iload X0.here hx rfl (hb hby d13_17) rfl  kk_) ?_
                    show Goes p e below _ (s₁.setTop (mkF m 19 #[.val (.ref b), .val (.int ch), .val (.int (0 : Int32)), .val (.int (17 : Int32)), .val (.int (ch.toInt8.toInt32)), .val (.int (9 : Int32))] [(.int (ch.toInt8.toInt32)), (.int (45 : Int32))]))
                    by_cases hc19_10 : (45 : Int32) = (ch.toInt8.toInt32)
                    · skip
                      refine Goes.via (fun _ kk_ => XS.icmpNo X0.here hx rfl (hb hby d13_19) rfl (teq hc19_10).2 kk_) ?_
                      show Goes p e below _ (s₁.setTop (mkF m 22 #[.val (.ref b), .val (.int ch), .val (.int (0 : Int32)), .val (.int (17 : Int32)), .val (.int (ch.toInt8.toInt32)), .val (.int (9 : Int32))] []))
                      refine Goes.via (fun _ kk_ => XS.iload X0.here hx rfl (hb hby d13_22) rfl  kk_) ?_
                      show Goes p e below _ (s₁.setTop (mkF m 24 #[.val (.ref b), .val (.int ch), .val (.int (0 : Int32)), .val (.int (17 : Int32)), .val (.int (ch.toInt8.toInt32)), .val (.int (9 : Int32))] [(.int (9 : Int32))]))
                      exact own_finI X0 hx hlk hret (hb hby d13_24) (by rw [e0]; exact ⟨(by first | (rw [own_ioc, if_neg hc19, if_neg hc19_2, if_neg hc19_3, if_neg hc19_4, if_neg hc19_5, if_neg hc19_6, if_neg hc19_7, if_neg hc19_8, if_neg hc19_9, if_pos hc19_10]; done) | (rw [own_ioc, if_neg hc19, if_neg hc19_2, if_neg hc19_3, if_neg hc19_4, if_neg hc19_5, if_neg hc19_6, if_neg hc19_7, if_neg hc19_8, if_neg hc19_9, if_pos hc19_10]; rfl)), rfl, rfl⟩) (by first | decide | omega | (dsimp only; omega)) (by first | decide | omega | (dsimp only; omega))
                    · skip
                      refine Goes.via (fun _ kk_ => XS.icmpYes X0.here hx rfl (pc0 := 19) (pc' := 25) rfl (hb hby d13_19) rfl (feq hc19_10).2 (by decide) (by decide) kk_) ?_
                      show Goes p e below _ (s₁.setTop (mkF m 25 #[.val (.ref b), .val (.int ch), .val (.int (0 : Int32)), .val (.int (17 : Int32)), .val (.int (ch.toInt8.toInt32)), .val (.int (9 : Int32))] []))
                      refine Goes.via (fun _ kk_ => XS.iinc X0.here hx rfl (hb hby d13_25) rfl (l' := #[.val (.ref b), .val (.int ch), .val (.int (0 : Int32)), .val (.int (17 : Int32)), .val (.int (ch.toInt8.toInt32)), .val (.int ((9 : Int32) + (1 : Int32)))]) rfl kk_) ?_
                      show Goes p e below _ (s₁.setTop (mkF m 28 #[.val (.ref b), .val (.int ch), .val (.int (0 : Int32)), .val (.int (17 : Int32)), .val (.int (ch.toInt8.toInt32)), .val (.int ((9 : Int32) + (1 : Int32)))] []))
                      rw [show ((9 : Int32) + (1 : Int32)) = (10 : Int32) from by decide]
                      show Goes p e below _ (s₁.setTop (mkF m 28 #[.val (.ref b), .val (.int ch), .val (.int (0 : Int32)), .val (.int (17 : Int32)), .val (.int (ch.toInt8.toInt32)), .val (.int (10 : Int32))] []))
                      refine Goes.via (fun _ kk_ => XS.goto X0.here hx rfl (pc0 := 28) (pc' := 7) rfl (hb hby d13_28) (by decide) (by decide) kk_) ?_
                      show Goes p e below _ (s₁.setTop (mkF m 7 #[.val (.ref b), .val (.int ch), .val (.int (0 : Int32)), .val (.int (17 : Int32)), .val (.int (ch.toInt8.toInt32)), .val (.int (10 : Int32))] []))
                      refine Goes.via (fun _ kk_ => XS.iload X0.here hx rfl (hb hby d13_7) rfl  kk_) ?_
                      show Goes p e below _ (s₁.setTop (mkF m 9 #[.val (.ref b), .val (.int ch), .val (.int (0 : Int32)), .val (.int (17 : Int32)), .val (.int (ch.toInt8.toInt32)), .val (.int (10 : Int32))] [(.int (10 : Int32))]))
                      refine Goes.via (fun _ kk_ => XS.iloadN X0.here hx rfl (hb hby d13_9) rfl  kk_) ?_
                      show Goes p e below _ (s₁.setTop (mkF m 10 #[.val (.ref b), .val (.int ch), .val (.int (0 : Int32)), .val (.int (17 : Int32)), .val (.int (ch.toInt8.toInt32)), .val (.int (10 : Int32))] [(.int (17 : Int32)), (.int (10 : Int32))]))
                      have hc10_11 : (10 : Int32) < (17 : Int32) := (by decide)
                      refine Goes.via (fun _ kk_ => XS.icmpNo X0.here hx rfl (hb hby d13_10) rfl (tlt hc10_11).2.1 kk_) ?_
                      show Goes p e below _ (s₁.setTop (mkF m 13 #[.val (.ref b), .val (.int ch), .val (.int (0 : Int32)), .val (.int (17 : Int32)), .val (.int (ch.toInt8.toInt32)), .val (.int (10 : Int32))] []))
                      refine Goes.via (fun _ kk_ => XS.aloadN X0.here hx rfl (hb hby d13_13) rfl rfl  kk_) ?_
                      show Goes p e below _ (s₁.setTop (mkF m 14 #[.val (.ref b), .val (.int ch), .val (.int (0 : Int32)), .val (.int (17 : Int32)), .val (.int (ch.toInt8.toInt32)), .val (.int (10 : Int32))] [(.ref b)]))
                      refine Goes.via (fun _ kk_ => XS.iload X0.here hx rfl (hb hby d13_14) rfl  kk_) ?_
                      show Goes p e below _ (s₁.setTop (mkF m 16 #[.val (.ref b), .val (.int ch), .val (.int (0 : Int32)), .val (.int (17 : Int32)), .val (.int (ch.toInt8.toInt32)), .val (.int (10 : Int32))] [(.int (10 : Int32)), (.ref b)]))
                      refine Goes.via (own_baload X0 hx hZ e0 A0_b (j := (10 : Int32)) (i := 10) (by decide) (by decide) (by decide) (v := (43 : Int32)) rfl (g := (mkF m 16 #[.val (.ref b), .val (.int ch), .val (.int (0 : Int32)), .val (.int (17 : Int32)), .val (.int (ch.toInt8.toInt32)), .val (.int (10 : Int32))] [(.int (10 : Int32)), (.ref b)])) rfl rfl (hb hby d13_16)) ?_
                      show Goes p e below _ (s₁.setTop (mkF m 17 #[.val (.ref b), .val (.int ch), .val (.int (0 : Int32)), .val (.int (17 : Int32)), .val (.int (ch.toInt8.toInt32)), .val (.int (10 : Int32))] [(.int (43 : Int32))]))
                      refine Goes.via (fun _ kk_ => XS.iload X0.here hx rfl (hb hby d13_17) rfl  kk_) ?_
                      show Goes p e below _ (s₁.setTop (mkF m 19 #[.val (.ref b), .val (.int ch), .val (.int (0 : Int32)), .val (.int (17 : Int32)), .val (.int (ch.toInt8.toInt32)), .val (.int (10 : Int32))] [(.int (ch.toInt8.toInt32)), (.int (43 : Int32))]))
                      by_cases hc19_11 : (43 : Int32) = (ch.toInt8.toInt32)
                      · skip
                        refine Goes.via (fun _ kk_ => XS.icmpNo X0.here hx rfl (hb hby d13_19) rfl (teq hc19_11).2 kk_) ?_
                        show Goes p e below _ (s₁.setTop (mkF m 22 #[.val (.ref b), .val (.int ch), .val (.int (0 : Int32)), .val (.int (17 : Int32)), .val (.int (ch.toInt8.toInt32)), .val (.int (10 : Int32))] []))
                        refine Goes.via (fun _ kk_ => XS.iload X0.here hx rfl (hb hby d13_22) rfl  kk_) ?_
                        show Goes p e below _ (s₁.setTop (mkF m 24 #[.val (.ref b), .val (.int ch), .val (.int (0 : Int32)), .val (.int (17 : Int32)), .val (.int (ch.toInt8.toInt32)), .val (.int (10 : Int32))] [(.int (10 : Int32))]))
                        exact own_finI X0 hx hlk hret (hb hby d13_24) (by rw [e0]; exact ⟨(by first | (rw [own_ioc, if_neg hc19, if_neg hc19_2, if_neg hc19_3, if_neg hc19_4, if_neg hc19_5, if_neg hc19_6, if_neg hc19_7, if_neg hc19_8, if_neg hc19_9, if_neg hc19_10, if_pos hc19_11]; done) | (rw [own_ioc, if_neg hc19, if_neg hc19_2, if_neg hc19_3, if_neg hc19_4, if_neg hc19_5, if_neg hc19_6, if_neg hc19_7, if_neg hc19_8, if_neg hc19_9, if_neg hc19_10, if_pos hc19_11]; rfl)), rfl, rfl⟩) (by first | decide | omega | (dsimp only; omega)) (by first | decide | omega | (dsimp only; omega))
                      · skip
                        refine Goes.via (fun _ kk_ => XS.icmpYes X0.here hx rfl (pc0 := 19) (pc' := 25) rfl (hb hby d13_19) rfl (feq hc19_11).2 (by decide) (by decide) kk_) ?_
                        show Goes p e below _ (s₁.setTop (mkF m 25 #[.val (.ref b), .val (.int ch), .val (.int (0 : Int32)), .val (.int (17 : Int32)), .val (.int (ch.toInt8.toInt32)), .val (.int (10 : Int32))] []))
                        refine Goes.via (fun _ kk_ => XS.iinc X0.here hx rfl (hb hby d13_25) rfl (l' := #[.val (.ref b), .val (.int ch), .val (.int (0 : Int32)), .val (.int (17 : Int32)), .val (.int (ch.toInt8.toInt32)), .val (.int ((10 : Int32) + (1 : Int32)))]) rfl kk_) ?_
                        show Goes p e below _ (s₁.setTop (mkF m 28 #[.val (.ref b), .val (.int ch), .val (.int (0 : Int32)), .val (.int (17 : Int32)), .val (.int (ch.toInt8.toInt32)), .val (.int ((10 : Int32) + (1 : Int32)))] []))
                        rw [show ((10 : Int32) + (1 : Int32)) = (11 : Int32) from by decide]
                        show Goes p e below _ (s₁.setTop (mkF m 28 #[.val (.ref b), .val (.int ch), .val (.int (0 : Int32)), .val (.int (17 : Int32)), .val (.int (ch.toInt8.toInt32)), .val (.int (11 : Int32))] []))
                        refine Goes.via (fun _ kk_ => XS.goto X0.here hx rfl (pc0 := 28) (pc' := 7) rfl (hb hby d13_28) (by decide) (by decide) kk_) ?_
                        show Goes p e below _ (s₁.setTop (mkF m 7 #[.val (.ref b), .val (.int ch), .val (.int (0 : Int32)), .val (.int (17 : Int32)), .val (.int (ch.toInt8.toInt32)), .val (.int (11 : Int32))] []))
                        refine Goes.via (fun _ kk_ => XS.iload X0.here hx rfl (hb hby d13_7) rfl  kk_) ?_
                        show Goes p e below _ (s₁.setTop (mkF m 9 #[.val (.ref b), .val (.int ch), .val (.int (0 : Int32)), .val (.int (17 : Int32)), .val (.int (ch.toInt8.toInt32)), .val (.int (11 : Int32))] [(.int (11 : Int32))]))
                        refine Goes.via (fun _ kk_ => XS.iloadN X0.here hx rfl (hb hby d13_9) rfl  kk_) ?_
                        show Goes p e below _ (s₁.setTop (mkF m 10 #[.val (.ref b), .val (.int ch), .val (.int (0 : Int32)), .val (.int (17 : Int32)), .val (.int (ch.toInt8.toInt32)), .val (.int (11 : Int32))] [(.int (17 : Int32)), (.int (11 : Int32))]))
                        have hc10_12 : (11 : Int32) < (17 : Int32) := (by decide)
                        refine Goes.via (fun _ kk_ => XS.icmpNo X0.here hx rfl (hb hby d13_10) rfl (tlt hc10_12).2.1 kk_) ?_
                        show Goes p e below _ (s₁.setTop (mkF m 13 #[.val (.ref b), .val (.int ch), .val (.int (0 : Int32)), .val (.int (17 : Int32)), .val (.int (ch.toInt8.toInt32)), .val (.int (11 : Int32))] []))
                        refine Goes.via (fun _ kk_ => XS.aloadN X0.here hx rfl (hb hby d13_13) rfl rfl  kk_) ?_
                        show Goes p e below _ (s₁.setTop (mkF m 14 #[.val (.ref b), .val (.int ch), .val (.int (0 : Int32)), .val (.int (17 : Int32)), .val (.int (ch.toInt8.toInt32)), .val (.int (11 : Int32))] [(.ref b)]))
                        refine Goes.via (fun _ kk_ => XS.iload X0.here hx rfl (hb hby d13_14) rfl  kk_) ?_
                        show Goes p e below _ (s₁.setTop (mkF m 16 #[.val (.ref b), .val (.int ch), .val (.int (0 : Int32)), .val (.int (17 : Int32)), .val (.int (ch.toInt8.toInt32)), .val (.int (11 : Int32))] [(.int (11 : Int32)), (.ref b)]))
                        refine Goes.via (own_baload X0 hx hZ e0 A0_b (j := (11 : Int32)) (i := 11) (by decide) (by decide) (by decide) (v := (61 : Int32)) rfl (g := (mkF m 16 #[.val (.ref b), .val (.int ch), .val (.int (0 : Int32)), .val (.int (17 : Int32)), .val (.int (ch.toInt8.toInt32)), .val (.int (11 : Int32))] [(.int (11 : Int32)), (.ref b)])) rfl rfl (hb hby d13_16)) ?_
                        show Goes p e below _ (s₁.setTop (mkF m 17 #[.val (.ref b), .val (.int ch), .val (.int (0 : Int32)), .val (.int (17 : Int32)), .val (.int (ch.toInt8.toInt32)), .val (.int (11 : Int32))] [(.int (61 : Int32))]))
                        refine Goes.via (fun _ kk_ => XS.iload X0.here hx rfl (hb hby d13_17) rfl  kk_) ?_
                        show Goes p e below _ (s₁.setTop (mkF m 19 #[.val (.ref b), .val (.int ch), .val (.int (0 : Int32)), .val (.int (17 : Int32)), .val (.int (ch.toInt8.toInt32)), .val (.int (11 : Int32))] [(.int (ch.toInt8.toInt32)), (.int (61 : Int32))]))
                        by_cases hc19_12 : (61 : Int32) = (ch.toInt8.toInt32)
                        · skip
                          refine Goes.via (fun _ kk_ => XS.icmpNo X0.here hx rfl (hb hby d13_19) rfl (teq hc19_12).2 kk_) ?_
                          show Goes p e below _ (s₁.setTop (mkF m 22 #[.val (.ref b), .val (.int ch), .val (.int (0 : Int32)), .val (.int (17 : Int32)), .val (.int (ch.toInt8.toInt32)), .val (.int (11 : Int32))] []))
                          refine Goes.via (fun _ kk_ => XS.iload X0.here hx rfl (hb hby d13_22) rfl  kk_) ?_
                          show Goes p e below _ (s₁.setTop (mkF m 24 #[.val (.ref b), .val (.int ch), .val (.int (0 : Int32)), .val (.int (17 : Int32)), .val (.int (ch.toInt8.toInt32)), .val (.int (11 : Int32))] [(.int (11 : Int32))]))
                          exact own_finI X0 hx hlk hret (hb hby d13_24) (by rw [e0]; exact ⟨(by first | (rw [own_ioc, if_neg hc19, if_neg hc19_2, if_neg hc19_3, if_neg hc19_4, if_neg hc19_5, if_neg hc19_6, if_neg hc19_7, if_neg hc19_8, if_neg hc19_9, if_neg hc19_10, if_neg hc19_11, if_pos hc19_12]; done) | (rw [own_ioc, if_neg hc19, if_neg hc19_2, if_neg hc19_3, if_neg hc19_4, if_neg hc19_5, if_neg hc19_6, if_neg hc19_7, if_neg hc19_8, if_neg hc19_9, if_neg hc19_10, if_neg hc19_11, if_pos hc19_12]; rfl)), rfl, rfl⟩) (by first | decide | omega | (dsimp only; omega)) (by first | decide | omega | (dsimp only; omega))
                        · skip
                          refine Goes.via (fun _ kk_ => XS.icmpYes X0.here hx rfl (pc0 := 19) (pc' := 25) rfl (hb hby d13_19) rfl (feq hc19_12).2 (by decide) (by decide) kk_) ?_
                          show Goes p e below _ (s₁.setTop (mkF m 25 #[.val (.ref b), .val (.int ch), .val (.int (0 : Int32)), .val (.int (17 : Int32)), .val (.int (ch.toInt8.toInt32)), .val (.int (11 : Int32))] []))
                          refine Goes.via (fun _ kk_ => XS.iinc X0.here hx rfl (hb hby d13_25) rfl (l' := #[.val (.ref b), .val (.int ch), .val (.int (0 : Int32)), .val (.int (17 : Int32)), .val (.int (ch.toInt8.toInt32)), .val (.int ((11 : Int32) + (1 : Int32)))]) rfl kk_) ?_
                          show Goes p e below _ (s₁.setTop (mkF m 28 #[.val (.ref b), .val (.int ch), .val (.int (0 : Int32)), .val (.int (17 : Int32)), .val (.int (ch.toInt8.toInt32)), .val (.int ((11 : Int32) + (1 : Int32)))] []))
                          rw [show ((11 : Int32) + (1 : Int32)) = (12 : Int32) from by decide]
                          show Goes p e below _ (s₁.setTop (mkF m 28 #[.val (.ref b), .val (.int ch), .val (.int (0 : Int32)), .val (.int (17 : Int32)), .val (.int (ch.toInt8.toInt32)), .val (.int (12 : Int32))] []))
                          refine Goes.via (fun _ kk_ => XS.goto X0.here hx rfl (pc0 := 28) (pc' := 7) rfl (hb hby d13_28) (by decide) (by decide) kk_) ?_
                          show Goes p e below _ (s₁.setTop (mkF m 7 #[.val (.ref b), .val (.int ch), .val (.int (0 : Int32)), .val (.int (17 : Int32)), .val (.int (ch.toInt8.toInt32)), .val (.int (12 : Int32))] []))
                          refine Goes.via (fun _ kk_ => XS.iload X0.here hx rfl (hb hby d13_7) rfl  kk_) ?_
                          show Goes p e below _ (s₁.setTop (mkF m 9 #[.val (.ref b), .val (.int ch), .val (.int (0 : Int32)), .val (.int (17 : Int32)), .val (.int (ch.toInt8.toInt32)), .val (.int (12 : Int32))] [(.int (12 : Int32))]))
                          refine Goes.via (fun _ kk_ => XS.iloadN X0.here hx rfl (hb hby d13_9) rfl  kk_) ?_
                          show Goes p e below _ (s₁.setTop (mkF m 10 #[.val (.ref b), .val (.int ch), .val (.int (0 : Int32)), .val (.int (17 : Int32)), .val (.int (ch.toInt8.toInt32)), .val (.int (12 : Int32))] [(.int (17 : Int32)), (.int (12 : Int32))]))
                          have hc10_13 : (12 : Int32) < (17 : Int32) := (by decide)
                          refine Goes.via (fun _ kk_ => XS.icmpNo X0.here hx rfl (hb hby d13_10) rfl (tlt hc10_13).2.1 kk_) ?_
                          show Goes p e below _ (s₁.setTop (mkF m 13 #[.val (.ref b), .val (.int ch), .val (.int (0 : Int32)), .val (.int (17 : Int32)), .val (.int (ch.toInt8.toInt32)), .val (.int (12 : Int32))] []))
                          refine Goes.via (fun _ kk_ => XS.aloadN X0.here hx rfl (hb hby d13_13) rfl rfl  kk_) ?_
                          show Goes p e below _ (s₁.setTop (mkF m 14 #[.val (.ref b), .val (.int ch), .val (.int (0 : Int32)), .val (.int (17 : Int32)), .val (.int (ch.toInt8.toInt32)), .val (.int (12 : Int32))] [(.ref b)]))
                          refine Goes.via (fun _ kk_ => XS.iload X0.here hx rfl (hb hby d13_14) rfl  kk_) ?_
                          show Goes p e below _ (s₁.setTop (mkF m 16 #[.val (.ref b), .val (.int ch), .val (.int (0 : Int32)), .val (.int (17 : Int32)), .val (.int (ch.toInt8.toInt32)), .val (.int (12 : Int32))] [(.int (12 : Int32)), (.ref b)]))
                          refine Goes.via (own_baload X0 hx hZ e0 A0_b (j := (12 : Int32)) (i := 12) (by decide) (by decide) (by decide) (v := (60 : Int32)) rfl (g := (mkF m 16 #[.val (.ref b), .val (.int ch), .val (.int (0 : Int32)), .val (.int (17 : Int32)), .val (.int (ch.toInt8.toInt32)), .val (.int (12 : Int32))] [(.int (12 : Int32)), (.ref b)])) rfl rfl (hb hby d13_16)) ?_
                          show Goes p e below _ (s₁.setTop (mkF m 17 #[.val (.ref b), .val (.int ch), .val (.int (0 : Int32)), .val (.int (17 : Int32)), .val (.int (ch.toInt8.toInt32)), .val (.int (12 : Int32))] [(.int (60 : Int32))]))
                          refine Goes.via (fun _ kk_ => XS.iload X0.here hx rfl (hb hby d13_17) rfl  kk_) ?_
                          show Goes p e below _ (s₁.setTop (mkF m 19 #[.val (.ref b), .val (.int ch), .val (.int (0 : Int32)), .val (.int (17 : Int32)), .val (.int (ch.toInt8.toInt32)), .val (.int (12 : Int32))] [(.int (ch.toInt8.toInt32)), (.int (60 : Int32))]))
                          by_cases hc19_13 : (60 : Int32) = (ch.toInt8.toInt32)
                          · skip
                            refine Goes.via (fun _ kk_ => XS.icmpNo X0.here hx rfl (hb hby d13_19) rfl (teq hc19_13).2 kk_) ?_
                            show Goes p e below _ (s₁.setTop (mkF m 22 #[.val (.ref b), .val (.int ch), .val (.int (0 : Int32)), .val (.int (17 : Int32)), .val (.int (ch.toInt8.toInt32)), .val (.int (12 : Int32))] []))
                            refine Goes.via (fun _ kk_ => XS.iload X0.here hx rfl (hb hby d13_22) rfl  kk_) ?_
                            show Goes p e below _ (s₁.setTop (mkF m 24 #[.val (.ref b), .val (.int ch), .val (.int (0 : Int32)), .val (.int (17 : Int32)), .val (.int (ch.toInt8.toInt32)), .val (.int (12 : Int32))] [(.int (12 : Int32))]))
                            exact own_finI X0 hx hlk hret (hb hby d13_24) (by rw [e0]; exact ⟨(by first | (rw [own_ioc, if_neg hc19, if_neg hc19_2, if_neg hc19_3, if_neg hc19_4, if_neg hc19_5, if_neg hc19_6, if_neg hc19_7, if_neg hc19_8, if_neg hc19_9, if_neg hc19_10, if_neg hc19_11, if_neg hc19_12, if_pos hc19_13]; done) | (rw [own_ioc, if_neg hc19, if_neg hc19_2, if_neg hc19_3, if_neg hc19_4, if_neg hc19_5, if_neg hc19_6, if_neg hc19_7, if_neg hc19_8, if_neg hc19_9, if_neg hc19_10, if_neg hc19_11, if_neg hc19_12, if_pos hc19_13]; rfl)), rfl, rfl⟩) (by first | decide | omega | (dsimp only; omega)) (by first | decide | omega | (dsimp only; omega))
                          · skip
                            refine Goes.via (fun _ kk_ => XS.icmpYes X0.here hx rfl (pc0 := 19) (pc' := 25) rfl (hb hby d13_19) rfl (feq hc19_13).2 (by decide) (by decide) kk_) ?_
                            show Goes p e below _ (s₁.setTop (mkF m 25 #[.val (.ref b), .val (.int ch), .val (.int (0 : Int32)), .val (.int (17 : Int32)), .val (.int (ch.toInt8.toInt32)), .val (.int (12 : Int32))] []))
                            refine Goes.via (fun _ kk_ => XS.iinc X0.here hx rfl (hb hby d13_25) rfl (l' := #[.val (.ref b), .val (.int ch), .val (.int (0 : Int32)), .val (.int (17 : Int32)), .val (.int (ch.toInt8.toInt32)), .val (.int ((12 : Int32) + (1 : Int32)))]) rfl kk_) ?_
                            show Goes p e below _ (s₁.setTop (mkF m 28 #[.val (.ref b), .val (.int ch), .val (.int (0 : Int32)), .val (.int (17 : Int32)), .val (.int (ch.toInt8.toInt32)), .val (.int ((12 : Int32) + (1 : Int32)))] []))
                            rw [show ((12 : Int32) + (1 : Int32)) = (13 : Int32) from by decide]
                            show Goes p e below _ (s₁.setTop (mkF m 28 #[.val (.ref b), .val (.int ch), .val (.int (0 : Int32)), .val (.int (17 : Int32)), .val (.int (ch.toInt8.toInt32)), .val (.int (13 : Int32))] []))
                            refine Goes.via (fun _ kk_ => XS.goto X0.here hx rfl (pc0 := 28) (pc' := 7) rfl (hb hby d13_28) (by decide) (by decide) kk_) ?_
                            show Goes p e below _ (s₁.setTop (mkF m 7 #[.val (.ref b), .val (.int ch), .val (.int (0 : Int32)), .val (.int (17 : Int32)), .val (.int (ch.toInt8.toInt32)), .val (.int (13 : Int32))] []))
                            refine Goes.via (fun _ kk_ => XS.iload X0.here hx rfl (hb hby d13_7) rfl  kk_) ?_
                            show Goes p e below _ (s₁.setTop (mkF m 9 #[.val (.ref b), .val (.int ch), .val (.int (0 : Int32)), .val (.int (17 : Int32)), .val (.int (ch.toInt8.toInt32)), .val (.int (13 : Int32))] [(.int (13 : Int32))]))
                            refine Goes.via (fun _ kk_ => XS.iloadN X0.here hx rfl (hb hby d13_9) rfl  kk_) ?_
                            show Goes p e below _ (s₁.setTop (mkF m 10 #[.val (.ref b), .val (.int ch), .val (.int (0 : Int32)), .val (.int (17 : Int32)), .val (.int (ch.toInt8.toInt32)), .val (.int (13 : Int32))] [(.int (17 : Int32)), (.int (13 : Int32))]))
                            have hc10_14 : (13 : Int32) < (17 : Int32) := (by decide)
                            refine Goes.via (fun _ kk_ => XS.icmpNo X0.here hx rfl (hb hby d13_10) rfl (tlt hc10_14).2.1 kk_) ?_
                            show Goes p e below _ (s₁.setTop (mkF m 13 #[.val (.ref b), .val (.int ch), .val (.int (0 : Int32)), .val (.int (17 : Int32)), .val (.int (ch.toInt8.toInt32)), .val (.int (13 : Int32))] []))
                            refine Goes.via (fun _ kk_ => XS.aloadN X0.here hx rfl (hb hby d13_13) rfl rfl  kk_) ?_
                            show Goes p e below _ (s₁.setTop (mkF m 14 #[.val (.ref b), .val (.int ch), .val (.int (0 : Int32)), .val (.int (17 : Int32)), .val (.int (ch.toInt8.toInt32)), .val (.int (13 : Int32))] [(.ref b)]))
                            refine Goes.via (fun _ kk_ => XS.iload X0.here hx rfl (hb hby d13_14) rfl  kk_) ?_
                            show Goes p e below _ (s₁.setTop (mkF m 16 #[.val (.ref b), .val (.int ch), .val (.int (0 : Int32)), .val (.int (17 : Int32)), .val (.int (ch.toInt8.toInt32)), .val (.int (13 : Int32))] [(.int (13 : Int32)), (.ref b)]))
                            refine Goes.via (own_baload X0 hx hZ e0 A0_b (j := (13 : Int32)) (i := 13) (by decide) (by decide) (by decide) (v := (62 : Int32)) rfl (g := (mkF m 16 #[.val (.ref b), .val (.int ch), .val (.int (0 : Int32)), .val (.int (17 : Int32)), .val (.int (ch.toInt8.toInt32)), .val (.int (13 : Int32))] [(.int (13 : Int32)), (.ref b)])) rfl rfl (hb hby d13_16)) ?_
                            show Goes p e below _ (s₁.setTop (mkF m 17 #[.val (.ref b), .val (.int ch), .val (.int (0 : Int32)), .val (.int (17 : Int32)), .val (.int (ch.toInt8.toInt32)), .val (.int (13 : Int32))] [(.int (62 : Int32))]))
                            refine Goes.via (fun _ kk_ => XS.iload X0.here hx rfl (hb hby d13_17) rfl  kk_) ?_
                            show Goes p e below _ (s₁.setTop (mkF m 19 #[.val (.ref b), .val (.int ch), .val (.int (0 : Int32)), .val (.int (17 : Int32)), .val (.int (ch.toInt8.toInt32)), .val (.int (13 : Int32))] [(.int (ch.toInt8.toInt32)), (.int (62 : Int32))]))
                            by_cases hc19_14 : (62 : Int32) = (ch.toInt8.toInt32)
                            · skip
                              refine Goes.via (fun _ kk_ => XS.icmpNo X0.here hx rfl (hb hby d13_19) rfl (teq hc19_14).2 kk_) ?_
                              show Goes p e below _ (s₁.setTop (mkF m 22 #[.val (.ref b), .val (.int ch), .val (.int (0 : Int32)), .val (.int (17 : Int32)), .val (.int (ch.toInt8.toInt32)), .val (.int (13 : Int32))] []))
                              refine Goes.via (fun _ kk_ => XS.iload X0.here hx rfl (hb hby d13_22) rfl  kk_) ?_
                              show Goes p e below _ (s₁.setTop (mkF m 24 #[.val (.ref b), .val (.int ch), .val (.int (0 : Int32)), .val (.int (17 : Int32)), .val (.int (ch.toInt8.toInt32)), .val (.int (13 : Int32))] [(.int (13 : Int32))]))
                              exact own_finI X0 hx hlk hret (hb hby d13_24) (by rw [e0]; exact ⟨(by first | (rw [own_ioc, if_neg hc19, if_neg hc19_2, if_neg hc19_3, if_neg hc19_4, if_neg hc19_5, if_neg hc19_6, if_neg hc19_7, if_neg hc19_8, if_neg hc19_9, if_neg hc19_10, if_neg hc19_11, if_neg hc19_12, if_neg hc19_13, if_pos hc19_14]; done) | (rw [own_ioc, if_neg hc19, if_neg hc19_2, if_neg hc19_3, if_neg hc19_4, if_neg hc19_5, if_neg hc19_6, if_neg hc19_7, if_neg hc19_8, if_neg hc19_9, if_neg hc19_10, if_neg hc19_11, if_neg hc19_12, if_neg hc19_13, if_pos hc19_14]; rfl)), rfl, rfl⟩) (by first | decide | omega | (dsimp only; omega)) (by first | decide | omega | (dsimp only; omega))
                            · skip
                              refine Goes.via (fun _ kk_ => XS.icmpYes X0.here hx rfl (pc0 := 19) (pc' := 25) rfl (hb hby d13_19) rfl (feq hc19_14).2 (by decide) (by decide) kk_) ?_
                              show Goes p e below _ (s₁.setTop (mkF m 25 #[.val (.ref b), .val (.int ch), .val (.int (0 : Int32)), .val (.int (17 : Int32)), .val (.int (ch.toInt8.toInt32)), .val (.int (13 : Int32))] []))
                              refine Goes.via (fun _ kk_ => XS.iinc X0.here hx rfl (hb hby d13_25) rfl (l' := #[.val (.ref b), .val (.int ch), .val (.int (0 : Int32)), .val (.int (17 : Int32)), .val (.int (ch.toInt8.toInt32)), .val (.int ((13 : Int32) + (1 : Int32)))]) rfl kk_) ?_
                              show Goes p e below _ (s₁.setTop (mkF m 28 #[.val (.ref b), .val (.int ch), .val (.int (0 : Int32)), .val (.int (17 : Int32)), .val (.int (ch.toInt8.toInt32)), .val (.int ((13 : Int32) + (1 : Int32)))] []))
                              rw [show ((13 : Int32) + (1 : Int32)) = (14 : Int32) from by decide]
                              show Goes p e below _ (s₁.setTop (mkF m 28 #[.val (.ref b), .val (.int ch), .val (.int (0 : Int32)), .val (.int (17 : Int32)), .val (.int (ch.toInt8.toInt32)), .val (.int (14 : Int32))] []))
                              refine Goes.via (fun _ kk_ => XS.goto X0.here hx rfl (pc0 := 28) (pc' := 7) rfl (hb hby d13_28) (by decide) (by decide) kk_) ?_
                              show Goes p e below _ (s₁.setTop (mkF m 7 #[.val (.ref b), .val (.int ch), .val (.int (0 : Int32)), .val (.int (17 : Int32)), .val (.int (ch.toInt8.toInt32)), .val (.int (14 : Int32))] []))
                              refine Goes.via (fun _ kk_ => XS.iload X0.here hx rfl (hb hby d13_7) rfl  kk_) ?_
                              show Goes p e below _ (s₁.setTop (mkF m 9 #[.val (.ref b), .val (.int ch), .val (.int (0 : Int32)), .val (.int (17 : Int32)), .val (.int (ch.toInt8.toInt32)), .val (.int (14 : Int32))] [(.int (14 : Int32))]))
                              refine Goes.via (fun _ kk_ => XS.iloadN X0.here hx rfl (hb hby d13_9) rfl  kk_) ?_
                              show Goes p e below _ (s₁.setTop (mkF m 10 #[.val (.ref b), .val (.int ch), .val (.int (0 : Int32)), .val (.int (17 : Int32)), .val (.int (ch.toInt8.toInt32)), .val (.int (14 : Int32))] [(.int (17 : Int32)), (.int (14 : Int32))]))
                              have hc10_15 : (14 : Int32) < (17 : Int32) := (by decide)
                              refine Goes.via (fun _ kk_ => XS.icmpNo X0.here hx rfl (hb hby d13_10) rfl (tlt hc10_15).2.1 kk_) ?_
                              show Goes p e below _ (s₁.setTop (mkF m 13 #[.val (.ref b), .val (.int ch), .val (.int (0 : Int32)), .val (.int (17 : Int32)), .val (.int (ch.toInt8.toInt32)), .val (.int (14 : Int32))] []))
                              refine Goes.via (fun _ kk_ => XS.aloadN X0.here hx rfl (hb hby d13_13) rfl rfl  kk_) ?_
                              show Goes p e below _ (s₁.setTop (mkF m 14 #[.val (.ref b), .val (.int ch), .val (.int (0 : Int32)), .val (.int (17 : Int32)), .val (.int (ch.toInt8.toInt32)), .val (.int (14 : Int32))] [(.ref b)]))
                              refine Goes.via (fun _ kk_ => XS.iload X0.here hx rfl (hb hby d13_14) rfl  kk_) ?_
                              show Goes p e below _ (s₁.setTop (mkF m 16 #[.val (.ref b), .val (.int ch), .val (.int (0 : Int32)), .val (.int (17 : Int32)), .val (.int (ch.toInt8.toInt32)), .val (.int (14 : Int32))] [(.int (14 : Int32)), (.ref b)]))
                              refine Goes.via (own_baload X0 hx hZ e0 A0_b (j := (14 : Int32)) (i := 14) (by decide) (by decide) (by decide) (v := (46 : Int32)) rfl (g := (mkF m 16 #[.val (.ref b), .val (.int ch), .val (.int (0 : Int32)), .val (.int (17 : Int32)), .val (.int (ch.toInt8.toInt32)), .val (.int (14 : Int32))] [(.int (14 : Int32)), (.ref b)])) rfl rfl (hb hby d13_16)) ?_
                              show Goes p e below _ (s₁.setTop (mkF m 17 #[.val (.ref b), .val (.int ch), .val (.int (0 : Int32)), .val (.int (17 : Int32)), .val (.int (ch.toInt8.toInt32)), .val (.int (14 : Int32))] [(.int (46 : Int32))]))
                              refine Goes.via (fun _ kk_ => XS.iload X0.here hx rfl (hb hby d13_17) rfl  kk_) ?_
                              show Goes p e below _ (s₁.setTop (mkF m 19 #[.val (.ref b), .val (.int ch), .val (.int (0 : Int32)), .val (.int (17 : Int32)), .val (.int (ch.toInt8.toInt32)), .val (.int (14 : Int32))] [(.int (ch.toInt8.toInt32)), (.int (46 : Int32))]))
                              by_cases hc19_15 : (46 : Int32) = (ch.toInt8.toInt32)
                              · skip
                                refine Goes.via (fun _ kk_ => XS.icmpNo X0.here hx rfl (hb hby d13_19) rfl (teq hc19_15).2 kk_) ?_
                                show Goes p e below _ (s₁.setTop (mkF m 22 #[.val (.ref b), .val (.int ch), .val (.int (0 : Int32)), .val (.int (17 : Int32)), .val (.int (ch.toInt8.toInt32)), .val (.int (14 : Int32))] []))
                                refine Goes.via (fun _ kk_ => XS.iload X0.here hx rfl (hb hby d13_22) rfl  kk_) ?_
                                show Goes p e below _ (s₁.setTop (mkF m 24 #[.val (.ref b), .val (.int ch), .val (.int (0 : Int32)), .val (.int (17 : Int32)), .val (.int (ch.toInt8.toInt32)), .val (.int (14 : Int32))] [(.int (14 : Int32))]))
                                exact own_finI X0 hx hlk hret (hb hby d13_24) (by rw [e0]; exact ⟨(by first | (rw [own_ioc, if_neg hc19, if_neg hc19_2, if_neg hc19_3, if_neg hc19_4, if_neg hc19_5, if_neg hc19_6, if_neg hc19_7, if_neg hc19_8, if_neg hc19_9, if_neg hc19_10, if_neg hc19_11, if_neg hc19_12, if_neg hc19_13, if_neg hc19_14, if_pos hc19_15]; done) | (rw [own_ioc, if_neg hc19, if_neg hc19_2, if_neg hc19_3, if_neg hc19_4, if_neg hc19_5, if_neg hc19_6, if_neg hc19_7, if_neg hc19_8, if_neg hc19_9, if_neg hc19_10, if_neg hc19_11, if_neg hc19_12, if_neg hc19_13, if_neg hc19_14, if_pos hc19_15]; rfl)), rfl, rfl⟩) (by first | decide | omega | (dsimp only; omega)) (by first | decide | omega | (dsimp only; omega))
                              · skip
                                refine Goes.via (fun _ kk_ => XS.icmpYes X0.here hx rfl (pc0 := 19) (pc' := 25) rfl (hb hby d13_19) rfl (feq hc19_15).2 (by decide) (by decide) kk_) ?_
                                show Goes p e below _ (s₁.setTop (mkF m 25 #[.val (.ref b), .val (.int ch), .val (.int (0 : Int32)), .val (.int (17 : Int32)), .val (.int (ch.toInt8.toInt32)), .val (.int (14 : Int32))] []))
                                refine Goes.via (fun _ kk_ => XS.iinc X0.here hx rfl (hb hby d13_25) rfl (l' := #[.val (.ref b), .val (.int ch), .val (.int (0 : Int32)), .val (.int (17 : Int32)), .val (.int (ch.toInt8.toInt32)), .val (.int ((14 : Int32) + (1 : Int32)))]) rfl kk_) ?_
                                show Goes p e below _ (s₁.setTop (mkF m 28 #[.val (.ref b), .val (.int ch), .val (.int (0 : Int32)), .val (.int (17 : Int32)), .val (.int (ch.toInt8.toInt32)), .val (.int ((14 : Int32) + (1 : Int32)))] []))
                                rw [show ((14 : Int32) + (1 : Int32)) = (15 : Int32) from by decide]
                                show Goes p e below _ (s₁.setTop (mkF m 28 #[.val (.ref b), .val (.int ch), .val (.int (0 : Int32)), .val (.int (17 : Int32)), .val (.int (ch.toInt8.toInt32)), .val (.int (15 : Int32))] []))
                                refine Goes.via (fun _ kk_ => XS.goto X0.here hx rfl (pc0 := 28) (pc' := 7) rfl (hb hby d13_28) (by decide) (by decide) kk_) ?_
                                show Goes p e below _ (s₁.setTop (mkF m 7 #[.val (.ref b), .val (.int ch), .val (.int (0 : Int32)), .val (.int (17 : Int32)), .val (.int (ch.toInt8.toInt32)), .val (.int (15 : Int32))] []))
                                refine Goes.via (fun _ kk_ => XS.iload X0.here hx rfl (hb hby d13_7) rfl  kk_) ?_
                                show Goes p e below _ (s₁.setTop (mkF m 9 #[.val (.ref b), .val (.int ch), .val (.int (0 : Int32)), .val (.int (17 : Int32)), .val (.int (ch.toInt8.toInt32)), .val (.int (15 : Int32))] [(.int (15 : Int32))]))
                                refine Goes.via (fun _ kk_ => XS.iloadN X0.here hx rfl (hb hby d13_9) rfl  kk_) ?_
                                show Goes p e below _ (s₁.setTop (mkF m 10 #[.val (.ref b), .val (.int ch), .val (.int (0 : Int32)), .val (.int (17 : Int32)), .val (.int (ch.toInt8.toInt32)), .val (.int (15 : Int32))] [(.int (17 : Int32)), (.int (15 : Int32))]))
                                have hc10_16 : (15 : Int32) < (17 : Int32) := (by decide)
                                refine Goes.via (fun _ kk_ => XS.icmpNo X0.here hx rfl (hb hby d13_10) rfl (tlt hc10_16).2.1 kk_) ?_
                                show Goes p e below _ (s₁.setTop (mkF m 13 #[.val (.ref b), .val (.int ch), .val (.int (0 : Int32)), .val (.int (17 : Int32)), .val (.int (ch.toInt8.toInt32)), .val (.int (15 : Int32))] []))
                                refine Goes.via (fun _ kk_ => XS.aloadN X0.here hx rfl (hb hby d13_13) rfl rfl  kk_) ?_
                                show Goes p e below _ (s₁.setTop (mkF m 14 #[.val (.ref b), .val (.int ch), .val (.int (0 : Int32)), .val (.int (17 : Int32)), .val (.int (ch.toInt8.toInt32)), .val (.int (15 : Int32))] [(.ref b)]))
                                refine Goes.via (fun _ kk_ => XS.iload X0.here hx rfl (hb hby d13_14) rfl  kk_) ?_
                                show Goes p e below _ (s₁.setTop (mkF m 16 #[.val (.ref b), .val (.int ch), .val (.int (0 : Int32)), .val (.int (17 : Int32)), .val (.int (ch.toInt8.toInt32)), .val (.int (15 : Int32))] [(.int (15 : Int32)), (.ref b)]))
                                refine Goes.via (own_baload X0 hx hZ e0 A0_b (j := (15 : Int32)) (i := 15) (by decide) (by decide) (by decide) (v := (63 : Int32)) rfl (g := (mkF m 16 #[.val (.ref b), .val (.int ch), .val (.int (0 : Int32)), .val (.int (17 : Int32)), .val (.int (ch.toInt8.toInt32)), .val (.int (15 : Int32))] [(.int (15 : Int32)), (.ref b)])) rfl rfl (hb hby d13_16)) ?_
                                show Goes p e below _ (s₁.setTop (mkF m 17 #[.val (.ref b), .val (.int ch), .val (.int (0 : Int32)), .val (.int (17 : Int32)), .val (.int (ch.toInt8.toInt32)), .val (.int (15 : Int32))] [(.int (63 : Int32))]))
                                refine Goes.via (fun _ kk_ => XS.iload X0.here hx rfl (hb hby d13_17) rfl  kk_) ?_
                                show Goes p e below _ (s₁.setTop (mkF m 19 #[.val (.ref b), .val (.int ch), .val (.int (0 : Int32)), .val (.int (17 : Int32)), .val (.int (ch.toInt8.toInt32)), .val (.int (15 : Int32))] [(.int (ch.toInt8.toInt32)), (.int (63 : Int32))]))
                                by_cases hc19_16 : (63 : Int32) = (ch.toInt8.toInt32)
                                · skip
                                  refine Goes.via (fun _ kk_ => XS.icmpNo X0.here hx rfl (hb hby d13_19) rfl (teq hc19_16).2 kk_) ?_
                                  show Goes p e below _ (s₁.setTop (mkF m 22 #[.val (.ref b), .val (.int ch), .val (.int (0 : Int32)), .val (.int (17 : Int32)), .val (.int (ch.toInt8.toInt32)), .val (.int (15 : Int32))] []))
                                  refine Goes.via (fun _ kk_ => XS.iload X0.here hx rfl (hb hby d13_22) rfl  kk_) ?_
                                  show Goes p e below _ (s₁.setTop (mkF m 24 #[.val (.ref b), .val (.int ch), .val (.int (0 : Int32)), .val (.int (17 : Int32)), .val (.int (ch.toInt8.toInt32)), .val (.int (15 : Int32))] [(.int (15 : Int32))]))
                                  exact own_finI X0 hx hlk hret (hb hby d13_24) (by rw [e0]; exact ⟨(by first | (rw [own_ioc, if_neg hc19, if_neg hc19_2, if_neg hc19_3, if_neg hc19_4, if_neg hc19_5, if_neg hc19_6, if_neg hc19_7, if_neg hc19_8, if_neg hc19_9, if_neg hc19_10, if_neg hc19_11, if_neg hc19_12, if_neg hc19_13, if_neg hc19_14, if_neg hc19_15, if_pos hc19_16]; done) | (rw [own_ioc, if_neg hc19, if_neg hc19_2, if_neg hc19_3, if_neg hc19_4, if_neg hc19_5, if_neg hc19_6, if_neg hc19_7, if_neg hc19_8, if_neg hc19_9, if_neg hc19_10, if_neg hc19_11, if_neg hc19_12, if_neg hc19_13, if_neg hc19_14, if_neg hc19_15, if_pos hc19_16]; rfl)), rfl, rfl⟩) (by first | decide | omega | (dsimp only; omega)) (by first | decide | omega | (dsimp only; omega))
                                · skip
                                  refine Goes.via (fun _ kk_ => XS.icmpYes X0.here hx rfl (pc0 := 19) (pc' := 25) rfl (hb hby d13_19) rfl (feq hc19_16).2 (by decide) (by decide) kk_) ?_
                                  show Goes p e below _ (s₁.setTop (mkF m 25 #[.val (.ref b), .val (.int ch), .val (.int (0 : Int32)), .val (.int (17 : Int32)), .val (.int (ch.toInt8.toInt32)), .val (.int (15 : Int32))] []))
                                  refine Goes.via (fun _ kk_ => XS.iinc X0.here hx rfl (hb hby d13_25) rfl (l' := #[.val (.ref b), .val (.int ch), .val (.int (0 : Int32)), .val (.int (17 : Int32)), .val (.int (ch.toInt8.toInt32)), .val (.int ((15 : Int32) + (1 : Int32)))]) rfl kk_) ?_
                                  show Goes p e below _ (s₁.setTop (mkF m 28 #[.val (.ref b), .val (.int ch), .val (.int (0 : Int32)), .val (.int (17 : Int32)), .val (.int (ch.toInt8.toInt32)), .val (.int ((15 : Int32) + (1 : Int32)))] []))
                                  rw [show ((15 : Int32) + (1 : Int32)) = (16 : Int32) from by decide]
                                  show Goes p e below _ (s₁.setTop (mkF m 28 #[.val (.ref b), .val (.int ch), .val (.int (0 : Int32)), .val (.int (17 : Int32)), .val (.int (ch.toInt8.toInt32)), .val (.int (16 : Int32))] []))
                                  refine Goes.via (fun _ kk_ => XS.goto X0.here hx rfl (pc0 := 28) (pc' := 7) rfl (hb hby d13_28) (by decide) (by decide) kk_) ?_
                                  show Goes p e below _ (s₁.setTop (mkF m 7 #[.val (.ref b), .val (.int ch), .val (.int (0 : Int32)), .val (.int (17 : Int32)), .val (.int (ch.toInt8.toInt32)), .val (.int (16 : Int32))] []))
                                  refine Goes.via (fun _ kk_ => XS.iload X0.here hx rfl (hb hby d13_7) rfl  kk_) ?_
                                  show Goes p e below _ (s₁.setTop (mkF m 9 #[.val (.ref b), .val (.int ch), .val (.int (0 : Int32)), .val (.int (17 : Int32)), .val (.int (ch.toInt8.toInt32)), .val (.int (16 : Int32))] [(.int (16 : Int32))]))
                                  refine Goes.via (fun _ kk_ => XS.iloadN X0.here hx rfl (hb hby d13_9) rfl  kk_) ?_
                                  show Goes p e below _ (s₁.setTop (mkF m 10 #[.val (.ref b), .val (.int ch), .val (.int (0 : Int32)), .val (.int (17 : Int32)), .val (.int (ch.toInt8.toInt32)), .val (.int (16 : Int32))] [(.int (17 : Int32)), (.int (16 : Int32))]))
                                  have hc10_17 : (16 : Int32) < (17 : Int32) := (by decide)
                                  refine Goes.via (fun _ kk_ => XS.icmpNo X0.here hx rfl (hb hby d13_10) rfl (tlt hc10_17).2.1 kk_) ?_
                                  show Goes p e below _ (s₁.setTop (mkF m 13 #[.val (.ref b), .val (.int ch), .val (.int (0 : Int32)), .val (.int (17 : Int32)), .val (.int (ch.toInt8.toInt32)), .val (.int (16 : Int32))] []))
                                  refine Goes.via (fun _ kk_ => XS.aloadN X0.here hx rfl (hb hby d13_13) rfl rfl  kk_) ?_
                                  show Goes p e below _ (s₁.setTop (mkF m 14 #[.val (.ref b), .val (.int ch), .val (.int (0 : Int32)), .val (.int (17 : Int32)), .val (.int (ch.toInt8.toInt32)), .val (.int (16 : Int32))] [(.ref b)]))
                                  refine Goes.via (fun _ kk_ => XS.iload X0.here hx rfl (hb hby d13_14) rfl  kk_) ?_
                                  show Goes p e below _ (s₁.setTop (mkF m 16 #[.val (.ref b), .val (.int ch), .val (.int (0 : Int32)), .val (.int (17 : Int32)), .val (.int (ch.toInt8.toInt32)), .val (.int (16 : Int32))] [(.int (16 : Int32)), (.ref b)]))
                                  refine Goes.via (own_baload X0 hx hZ e0 A0_b (j := (16 : Int32)) (i := 16) (by decide) (by decide) (by decide) (v := (47 : Int32)) rfl (g := (mkF m 16 #[.val (.ref b), .val (.int ch), .val (.int (0 : Int32)), .val (.int (17 : Int32)), .val (.int (ch.toInt8.toInt32)), .val (.int (16 : Int32))] [(.int (16 : Int32)), (.ref b)])) rfl rfl (hb hby d13_16)) ?_
                                  show Goes p e below _ (s₁.setTop (mkF m 17 #[.val (.ref b), .val (.int ch), .val (.int (0 : Int32)), .val (.int (17 : Int32)), .val (.int (ch.toInt8.toInt32)), .val (.int (16 : Int32))] [(.int (47 : Int32))]))
                                  refine Goes.via (fun _ kk_ => XS.iload X0.here hx rfl (hb hby d13_17) rfl  kk_) ?_
                                  show Goes p e below _ (s₁.setTop (mkF m 19 #[.val (.ref b), .val (.int ch), .val (.int (0 : Int32)), .val (.int (17 : Int32)), .val (.int (ch.toInt8.toInt32)), .val (.int (16 : Int32))] [(.int (ch.toInt8.toInt32)), (.int (47 : Int32))]))
                                  by_cases hc19_17 : (47 : Int32) = (ch.toInt8.toInt32)
                                  · skip
                                    refine Goes.via (fun _ kk_ => XS.icmpNo X0.here hx rfl (hb hby d13_19) rfl (teq hc19_17).2 kk_) ?_
                                    show Goes p e below _ (s₁.setTop (mkF m 22 #[.val (.ref b), .val (.int ch), .val (.int (0 : Int32)), .val (.int (17 : Int32)), .val (.int (ch.toInt8.toInt32)), .val (.int (16 : Int32))] []))
                                    refine Goes.via (fun _ kk_ => XS.iload X0.here hx rfl (hb hby d13_22) rfl  kk_) ?_
                                    show Goes p e below _ (s₁.setTop (mkF m 24 #[.val (.ref b), .val (.int ch), .val (.int (0 : Int32)), .val (.int (17 : Int32)), .val (.int (ch.toInt8.toInt32)), .val (.int (16 : Int32))] [(.int (16 : Int32))]))
                                    exact own_finI X0 hx hlk hret (hb hby d13_24) (by rw [e0]; exact ⟨(by first | (rw [own_ioc, if_neg hc19, if_neg hc19_2, if_neg hc19_3, if_neg hc19_4, if_neg hc19_5, if_neg hc19_6, if_neg hc19_7, if_neg hc19_8, if_neg hc19_9, if_neg hc19_10, if_neg hc19_11, if_neg hc19_12, if_neg hc19_13, if_neg hc19_14, if_neg hc19_15, if_neg hc19_16, if_pos hc19_17]; done) | (rw [own_ioc, if_neg hc19, if_neg hc19_2, if_neg hc19_3, if_neg hc19_4, if_neg hc19_5, if_neg hc19_6, if_neg hc19_7, if_neg hc19_8, if_neg hc19_9, if_neg hc19_10, if_neg hc19_11, if_neg hc19_12, if_neg hc19_13, if_neg hc19_14, if_neg hc19_15, if_neg hc19_16, if_pos hc19_17]; rfl)), rfl, rfl⟩) (by first | decide | omega | (dsimp only; omega)) (by first | decide | omega | (dsimp only; omega))
                                  · skip
                                    refine Goes.via (fun _ kk_ => XS.icmpYes X0.here hx rfl (pc0 := 19) (pc' := 25) rfl (hb hby d13_19) rfl (feq hc19_17).2 (by decide) (by decide) kk_) ?_
                                    show Goes p e below _ (s₁.setTop (mkF m 25 #[.val (.ref b), .val (.int ch), .val (.int (0 : Int32)), .val (.int (17 : Int32)), .val (.int (ch.toInt8.toInt32)), .val (.int (16 : Int32))] []))
                                    refine Goes.via (fun _ kk_ => XS.iinc X0.here hx rfl (hb hby d13_25) rfl (l' := #[.val (.ref b), .val (.int ch), .val (.int (0 : Int32)), .val (.int (17 : Int32)), .val (.int (ch.toInt8.toInt32)), .val (.int ((16 : Int32) + (1 : Int32)))]) rfl kk_) ?_
                                    show Goes p e below _ (s₁.setTop (mkF m 28 #[.val (.ref b), .val (.int ch), .val (.int (0 : Int32)), .val (.int (17 : Int32)), .val (.int (ch.toInt8.toInt32)), .val (.int ((16 : Int32) + (1 : Int32)))] []))
                                    rw [show ((16 : Int32) + (1 : Int32)) = (17 : Int32) from by decide]
                                    show Goes p e below _ (s₁.setTop (mkF m 28 #[.val (.ref b), .val (.int ch), .val (.int (0 : Int32)), .val (.int (17 : Int32)), .val (.int (ch.toInt8.toInt32)), .val (.int (17 : Int32))] []))
                                    refine Goes.via (fun _ kk_ => XS.goto X0.here hx rfl (pc0 := 28) (pc' := 7) rfl (hb hby d13_28) (by decide) (by decide) kk_) ?_
                                    show Goes p e below _ (s₁.setTop (mkF m 7 #[.val (.ref b), .val (.int ch), .val (.int (0 : Int32)), .val (.int (17 : Int32)), .val (.int (ch.toInt8.toInt32)), .val (.int (17 : Int32))] []))
                                    refine Goes.via (fun _ kk_ => XS.iload X0.here hx rfl (hb hby d13_7) rfl  kk_) ?_
                                    show Goes p e below _ (s₁.setTop (mkF m 9 #[.val (.ref b), .val (.int ch), .val (.int (0 : Int32)), .val (.int (17 : Int32)), .val (.int (ch.toInt8.toInt32)), .val (.int (17 : Int32))] [(.int (17 : Int32))]))
                                    refine Goes.via (fun _ kk_ => XS.iloadN X0.here hx rfl (hb hby d13_9) rfl  kk_) ?_
                                    show Goes p e below _ (s₁.setTop (mkF m 10 #[.val (.ref b), .val (.int ch), .val (.int (0 : Int32)), .val (.int (17 : Int32)), .val (.int (ch.toInt8.toInt32)), .val (.int (17 : Int32))] [(.int (17 : Int32)), (.int (17 : Int32))]))
                                    have hc10_18 : ¬ ((17 : Int32) < (17 : Int32)) := (by decide)
                                    refine Goes.via (fun _ kk_ => XS.icmpYes X0.here hx rfl (pc0 := 10) (pc' := 31) rfl (hb hby d13_10) rfl (flt hc10_18).2.1 (by decide) (by decide) kk_) ?_
                                    show Goes p e below _ (s₁.setTop (mkF m 31 #[.val (.ref b), .val (.int ch), .val (.int (0 : Int32)), .val (.int (17 : Int32)), .val (.int (ch.toInt8.toInt32)), .val (.int (17 : Int32))] []))
                                    refine Goes.via (fun _ kk_ => XS.iconst X0.here hx rfl (hb hby d13_31) kk_) ?_
                                    show Goes p e below _ (s₁.setTop (mkF m 32 #[.val (.ref b), .val (.int ch), .val (.int (0 : Int32)), .val (.int (17 : Int32)), .val (.int (ch.toInt8.toInt32)), .val (.int (17 : Int32))] [(.int (-1 : Int32))]))
                                    exact own_finI X0 hx hlk hret (hb hby d13_32) (by rw [e0]; exact ⟨(by first | (rw [own_ioc, if_neg hc19, if_neg hc19_2, if_neg hc19_3, if_neg hc19_4, if_neg hc19_5, if_neg hc19_6, if_neg hc19_7, if_neg hc19_8, if_neg hc19_9, if_neg hc19_10, if_neg hc19_11, if_neg hc19_12, if_neg hc19_13, if_neg hc19_14, if_neg hc19_15, if_neg hc19_16, if_neg hc19_17]; done) | (rw [own_ioc, if_neg hc19, if_neg hc19_2, if_neg hc19_3, if_neg hc19_4, if_neg hc19_5, if_neg hc19_6, if_neg hc19_7, if_neg hc19_8, if_neg hc19_9, if_neg hc19_10, if_neg hc19_11, if_neg hc19_12, if_neg hc19_13, if_neg hc19_14, if_neg hc19_15, if_neg hc19_16, if_neg hc19_17]; rfl)), rfl, rfl⟩) (by first | decide | omega | (dsimp only; omega)) (by first | decide | omega | (dsimp only; omega))
def own_lio (ch : Int32) : Int32 := (if (own_enc ch) = (0 : Int32) then (-1 : Int32) else (own_ioc ch))
theorem ef_rm9 (m : MethodId) (b : Addr) (ch : Int32) (fr : Int32) (mx : Int32) : entryFrame m #[(.ref b), (.int ch), (.int fr), (.int mx)] 4 = mkF m 0 #[.val (.ref b), .val (.int ch), .val (.int fr), .val (.int mx)] [] := by first | (simp [entryFrame, mkF, argsToLocals, Value.category]; done) | rfl
def Qrm9 (Z : State) (ch : Int32) (b : Addr) (fr : Int32) (mx : Int32) (kb : ClassId) (h0 : Heap) (n0 : Nat) (v_ : Option Value) (h_ : Heap) (L_ : List Loc) : Prop := v_ = some (.int (own_lio ch)) ∧ L_ = [] ∧ h_ = h0
theorem d9_0 : decode jdk_43_method_22_code 0 = .ok (.iload_n 1, 1) := by decide +kernel
theorem pd_1 : parseMethodDescriptor "(I)Z" = some ⟨[.int], some .boolean⟩ := by decide +kernel
theorem d9_1 : decode jdk_43_method_22_code 1 = .ok (.invokestatic 88, 3) := by decide +kernel
theorem d9_4 : decode jdk_43_method_22_code 4 = .ok (.ifCond .ne 5, 3) := by decide +kernel
theorem d9_7 : decode jdk_43_method_22_code 7 = .ok (.iconst (-1), 1) := by decide +kernel
theorem d9_8 : decode jdk_43_method_22_code 8 = .ok (.ireturn, 1) := by decide +kernel
theorem d9_9 : decode jdk_43_method_22_code 9 = .ok (.iload_n 2, 1) := by decide +kernel
theorem d9_10 : decode jdk_43_method_22_code 10 = .ok (.iconst 0, 1) := by decide +kernel
theorem pd_2 : parseMethodDescriptor "(II)I" = some ⟨[.int, .int], some .int⟩ := by decide +kernel
theorem d9_11 : decode jdk_43_method_22_code 11 = .ok (.invokestatic 92, 3) := by decide +kernel
theorem d9_14 : decode jdk_43_method_22_code 14 = .ok (.istore_n 2, 1) := by decide +kernel
theorem d9_15 : decode jdk_43_method_22_code 15 = .ok (.iload_n 3, 1) := by decide +kernel
theorem d9_16 : decode jdk_43_method_22_code 16 = .ok (.aload_n 0, 1) := by decide +kernel
theorem d9_17 : decode jdk_43_method_22_code 17 = .ok (.arraylength, 1) := by decide +kernel
theorem d9_18 : decode jdk_43_method_22_code 18 = .ok (.invokestatic 38, 3) := by decide +kernel
theorem d9_21 : decode jdk_43_method_22_code 21 = .ok (.istore_n 3, 1) := by decide +kernel
theorem d9_22 : decode jdk_43_method_22_code 22 = .ok (.iload_n 2, 1) := by decide +kernel
theorem d9_23 : decode jdk_43_method_22_code 23 = .ok (.iload_n 3, 1) := by decide +kernel
theorem d9_24 : decode jdk_43_method_22_code 24 = .ok (.if_icmp .lt 5, 3) := by decide +kernel
theorem d9_29 : decode jdk_43_method_22_code 29 = .ok (.aload_n 0, 1) := by decide +kernel
theorem d9_30 : decode jdk_43_method_22_code 30 = .ok (.iload_n 1, 1) := by decide +kernel
theorem d9_31 : decode jdk_43_method_22_code 31 = .ok (.iload_n 2, 1) := by decide +kernel
theorem d9_32 : decode jdk_43_method_22_code 32 = .ok (.iload_n 3, 1) := by decide +kernel
theorem pd_3 : parseMethodDescriptor "([BIII)I" = some ⟨[(.array .byte), .int, .int, .int], some .int⟩ := by decide +kernel
theorem d9_33 : decode jdk_43_method_22_code 33 = .ok (.invokestatic 95, 3) := by decide +kernel
theorem d9_36 : decode jdk_43_method_22_code 36 = .ok (.ireturn, 1) := by decide +kernel
set_option maxRecDepth 65536 in
set_option maxHeartbeats 40000000 in
theorem rm9 (l : Launch) (Z : State) (a0 : Array Value) (hw : ∀ d ∈ tables_1, d.before a0 Z = true) (ws : List Jvm.Cond) (ch : Int32) (b : Addr) (fr : Int32) (mx : Int32) (kb : ClassId) (h0 : Heap) (n0 : Nat) (Z0 : n0 ≤ h0.size) (A0_b : Arw Z h0 b kb .byte 17 own_by) (Hfr : fr = (0 : Int32)) (Hmx : mx = (17 : Int32)) :
    MetFree l (⟨"java/lang/StringLatin1", "indexOf", "([BIII)I"⟩ : MethodName) (head1 (Jvm.Cond.code (⟨"java/lang/StringLatin1", "indexOf", "([BIII)I"⟩ : MethodName) jdk_43_method_22_code 4 (some .int) :: ws) ({ frames := 1, cells := 0, slots := 0, locals := 17 } : Room)) (fun as_ U_ => as_ = #[(.ref b), (.int ch), (.int fr), (.int mx)] ∧ Z.Warmed39 U_.vm ∧ U_.heap = h0) (fun _ _ _ _ _ => True) (fun _ U_ o_ V_ => ∃ v_ L_, o_ = .returned v_ ∧ Qrm9 Z ch b fr mx kb h0 n0 v_ V_.heap L_ ∧ FrameEnd U_ o_ V_ L_ ({ frames := 1, cells := 0, slots := 0, locals := 17 } : Room).cells ({ frames := 1, cells := 0, slots := 0, locals := 17 } : Room).slots) := by
  refine MetFree.of_bodySF (plainFor_of_name pn_java_lang_StringLatin1) hisR ?_
  intro p e s m args below meth c s₁ Bd hml0 hP hK
  obtain ⟨rfl, hZ, hh⟩ := hP
  have hx := Bd.exec
  have hby := Bd.bytes
  have hlk : meth.locks = false := BodyLoose.notSynchronized Bd
  have hret := Bd.returns
  have hml : c.maxLocals = 4 := hml0
  have hown : s.vm.findClass "java/lang/StringLatin1" = some m.cls := findClass_of_methodNamed Bd.named
  have hnm := (name_of_methodNamed Bd.named Bd.method).1
  have X0 : Stand p l e ({ frames := 1, cells := 0, slots := 0, locals := 17 } : Room) s m #[(.ref b), (.int ch), (.int fr), (.int mx)] below meth c s₁ [] 0 0 := Stand.of_body Bd
  have e0 : s₁.heap = h0 := by rw [← hh, Bd.state]; rfl
  have N0 := Fr.nil n0
  show Goes p e below (Fin_ s (Qrm9 Z ch b fr mx kb h0 n0) ({ frames := 1, cells := 0, slots := 0, locals := 17 } : Room).cells ({ frames := 1, cells := 0, slots := 0, locals := 17 } : Room).slots) (s₁.setTop (entryFrame m #[(.ref b), (.int ch), (.int fr), (.int mx)] 4))
  rw [ef_rm9 m b ch fr mx]
  subst Hfr Hmx
  show Goes p e below _ (s₁.setTop (mkF m 0 #[.val (.ref b), .val (.int ch), .val (.int (0 : Int32)), .val (.int (17 : Int32))] []))
  refine Goes.via (fun _ kk_ => XS.iloadN X0.here hx rfl (hb hby d9_0) rfl  kk_) ?_
  show Goes p e below _ (s₁.setTop (mkF m 1 #[.val (.ref b), .val (.int ch), .val (.int (0 : Int32)), .val (.int (17 : Int32))] [(.int ch)]))
  obtain ⟨_, _, ⟨T1, L1, k1, n1⟩, -, X1, ⟨Lc1, hQ1, l1, y1, z1⟩, st1⟩ := Jvm.LawKit.callS X0 hx (y := (⟨"java/lang/StringLatin1", "canEncode", "(I)Z"⟩ : MethodName)) hown (mvT hZ (hw _ (List.mem_of_getElem? (i := 51) rfl))) (mvT hZ (hw _ (List.mem_of_getElem? (i := 52) rfl))) (mvT hZ (hw _ (List.mem_of_getElem? (i := 49) rfl))) (mvT hZ (hw _ (List.mem_of_getElem? (i := 53) rfl))) (by decide) (backOf (W := 0) (rm10 l Z a0 hw [] ch h0 n0 (Nat.le_trans Z0 (Nat.le_refl _)) ) hZ (hw _ (List.mem_of_getElem? (i := 53) rfl)) (hw _ (List.mem_of_getElem? (i := 49) rfl)) (by decide) (by decide)) (g := (mkF m 1 #[.val (.ref b), .val (.int ch), .val (.int (0 : Int32)), .val (.int (17 : Int32))] [(.int ch)])) rfl (by rw [hml]; rfl) (argsL := [(.int ch)]) (rest := []) (lenOf pd_1 rfl) rfl (by show 2 * 0 + _ ≤ _; exact Nat.le_of_eq rfl) (hb hby d9_1) (fun _ _ => ⟨rfl, e0, (by first | decide | omega | (dsimp only; omega) : 0 + 0 ≤ _), (by first | decide | omega | (dsimp only; omega) : 0 + 0 ≤ _)⟩)
  dsimp only [Pt.U, Pt.locs, Pt.cells, Pt.slots] at X1 l1 y1 z1 st1 hQ1
  subst l1 y1 z1
  obtain ⟨rfl, rfl, e1⟩ := hQ1
  first | rw [List.append_nil] at X1 | skip
  refine Goes.via st1 ?_
  have e1' : T1.heap = h0 := e1
  show Goes p e below _ (T1.setTop (mkF m 4 #[.val (.ref b), .val (.int ch), .val (.int (0 : Int32)), .val (.int (17 : Int32))] [(.int (own_enc ch))]))
  by_cases hc4 : (own_enc ch) = (0 : Int32)
  · skip
    refine Goes.via (fun _ kk_ => XS.ifNo X1.here hx rfl (hb hby d9_4) rfl ((if0 _ _).trans (teq hc4).2) kk_) ?_
    show Goes p e below _ (T1.setTop (mkF m 7 #[.val (.ref b), .val (.int ch), .val (.int (0 : Int32)), .val (.int (17 : Int32))] []))
    refine Goes.via (fun _ kk_ => XS.iconst X1.here hx rfl (hb hby d9_7) kk_) ?_
    show Goes p e below _ (T1.setTop (mkF m 8 #[.val (.ref b), .val (.int ch), .val (.int (0 : Int32)), .val (.int (17 : Int32))] [(.int (-1 : Int32))]))
    exact own_finI X1 hx hlk hret (hb hby d9_8) (by rw [e1']; exact ⟨(by first | (rw [own_lio, if_pos hc4]; done) | (rw [own_lio, if_pos hc4]; rfl)), rfl, rfl⟩) (by first | decide | omega | (dsimp only; omega)) (by first | decide | omega | (dsimp only; omega))
  · skip
    refine Goes.via (fun _ kk_ => XS.ifYes X1.here hx rfl (pc0 := 4) (pc' := 9) rfl (hb hby d9_4) rfl ((if0 _ _).trans (feq hc4).2) (by decide) (by decide) kk_) ?_
    show Goes p e below _ (T1.setTop (mkF m 9 #[.val (.ref b), .val (.int ch), .val (.int (0 : Int32)), .val (.int (17 : Int32))] []))
    refine Goes.via (fun _ kk_ => XS.iloadN X1.here hx rfl (hb hby d9_9) rfl  kk_) ?_
    show Goes p e below _ (T1.setTop (mkF m 10 #[.val (.ref b), .val (.int ch), .val (.int (0 : Int32)), .val (.int (17 : Int32))] [(.int (0 : Int32))]))
    refine Goes.via (fun _ kk_ => XS.iconst X1.here hx rfl (hb hby d9_10) kk_) ?_
    show Goes p e below _ (T1.setTop (mkF m 11 #[.val (.ref b), .val (.int ch), .val (.int (0 : Int32)), .val (.int (17 : Int32))] [(.int (0 : Int32)), (.int (0 : Int32))]))
    obtain ⟨_, _, ⟨T2, L2, k2, n2⟩, -, X2, ⟨Lc2, hQ2, l2, y2, z2⟩, st2⟩ := Jvm.LawKit.callS X1 hx (y := (⟨"java/lang/Math", "max", "(II)I"⟩ : MethodName)) hown (mvT hZ (hw _ (List.mem_of_getElem? (i := 54) rfl))) (mvT hZ (hw _ (List.mem_of_getElem? (i := 55) rfl))) (mvT hZ (hw _ (List.mem_of_getElem? (i := 56) rfl))) (mvT hZ (hw _ (List.mem_of_getElem? (i := 57) rfl))) (by decide) (backOf (W := 0) (rm11 l Z a0 hw [] (0 : Int32) (0 : Int32) h0 n0 (Nat.le_trans Z0 (Nat.le_refl _)) ) hZ (hw _ (List.mem_of_getElem? (i := 57) rfl)) (hw _ (List.mem_of_getElem? (i := 56) rfl)) (by decide) (by decide)) (g := (mkF m 11 #[.val (.ref b), .val (.int ch), .val (.int (0 : Int32)), .val (.int (17 : Int32))] [(.int (0 : Int32)), (.int (0 : Int32))])) rfl (by rw [hml]; rfl) (argsL := [(.int (0 : Int32)), (.int (0 : Int32))]) (rest := []) (lenOf pd_2 rfl) rfl (by show 2 * 0 + _ ≤ _; exact Nat.le_of_eq rfl) (hb hby d9_11) (fun _ _ => ⟨rfl, e1', (by first | decide | omega | (dsimp only; omega) : 0 + 0 ≤ _), (by first | decide | omega | (dsimp only; omega) : 0 + 0 ≤ _)⟩)
    dsimp only [Pt.U, Pt.locs, Pt.cells, Pt.slots] at X2 l2 y2 z2 st2 hQ2
    subst l2 y2 z2
    obtain ⟨rfl, rfl, e2⟩ := hQ2
    first | rw [List.append_nil] at X2 | skip
    refine Goes.via st2 ?_
    have e2' : T2.heap = h0 := e2
    show Goes p e below _ (T2.setTop (mkF m 14 #[.val (.ref b), .val (.int ch), .val (.int (0 : Int32)), .val (.int (17 : Int32))] [(.int (own_max (0 : Int32) (0 : Int32)))]))
    refine Goes.via (fun _ kk_ => XS.istoreN X2.here hx rfl (hb hby d9_14) rfl (l' := #[.val (.ref b), .val (.int ch), .val (.int (own_max (0 : Int32) (0 : Int32))), .val (.int (17 : Int32))]) rfl kk_) ?_
    show Goes p e below _ (T2.setTop (mkF m 15 #[.val (.ref b), .val (.int ch), .val (.int (own_max (0 : Int32) (0 : Int32))), .val (.int (17 : Int32))] []))
    refine Goes.via (fun _ kk_ => XS.iloadN X2.here hx rfl (hb hby d9_15) rfl  kk_) ?_
    show Goes p e below _ (T2.setTop (mkF m 16 #[.val (.ref b), .val (.int ch), .val (.int (own_max (0 : Int32) (0 : Int32))), .val (.int (17 : Int32))] [(.int (17 : Int32))]))
    refine Goes.via (fun _ kk_ => XS.aloadN X2.here hx rfl (hb hby d9_16) rfl rfl  kk_) ?_
    show Goes p e below _ (T2.setTop (mkF m 17 #[.val (.ref b), .val (.int ch), .val (.int (own_max (0 : Int32) (0 : Int32))), .val (.int (17 : Int32))] [(.ref b), (.int (17 : Int32))]))
    refine Goes.via (own_alen X2 hx hZ e2' A0_b (g := (mkF m 17 #[.val (.ref b), .val (.int ch), .val (.int (own_max (0 : Int32) (0 : Int32))), .val (.int (17 : Int32))] [(.ref b), (.int (17 : Int32))])) rfl rfl (hb hby d9_17)) ?_
    show Goes p e below _ (T2.setTop (mkF m 18 #[.val (.ref b), .val (.int ch), .val (.int (own_max (0 : Int32) (0 : Int32))), .val (.int (17 : Int32))] [(.int (17 : Int32)), (.int (17 : Int32))]))
    obtain ⟨_, _, ⟨T3, L3, k3, n3⟩, -, X3, ⟨Lc3, hQ3, l3, y3, z3⟩, st3⟩ := Jvm.LawKit.callS X2 hx (y := (⟨"java/lang/Math", "min", "(II)I"⟩ : MethodName)) hown (mvT hZ (hw _ (List.mem_of_getElem? (i := 58) rfl))) (mvT hZ (hw _ (List.mem_of_getElem? (i := 59) rfl))) (mvT hZ (hw _ (List.mem_of_getElem? (i := 56) rfl))) (mvT hZ (hw _ (List.mem_of_getElem? (i := 60) rfl))) (by decide) (backOf (W := 0) (rm12 l Z a0 hw [] (17 : Int32) (17 : Int32) h0 n0 (Nat.le_trans Z0 (Nat.le_refl _)) ) hZ (hw _ (List.mem_of_getElem? (i := 60) rfl)) (hw _ (List.mem_of_getElem? (i := 56) rfl)) (by decide) (by decide)) (g := (mkF m 18 #[.val (.ref b), .val (.int ch), .val (.int (own_max (0 : Int32) (0 : Int32))), .val (.int (17 : Int32))] [(.int (17 : Int32)), (.int (17 : Int32))])) rfl (by rw [hml]; rfl) (argsL := [(.int (17 : Int32)), (.int (17 : Int32))]) (rest := []) (lenOf pd_2 rfl) rfl (by show 2 * 0 + _ ≤ _; exact Nat.le_of_eq rfl) (hb hby d9_18) (fun _ _ => ⟨rfl, e2', (by first | decide | omega | (dsimp only; omega) : 0 + 0 ≤ _), (by first | decide | omega | (dsimp only; omega) : 0 + 0 ≤ _)⟩)
    dsimp only [Pt.U, Pt.locs, Pt.cells, Pt.slots] at X3 l3 y3 z3 st3 hQ3
    subst l3 y3 z3
    obtain ⟨rfl, rfl, e3⟩ := hQ3
    first | rw [List.append_nil] at X3 | skip
    refine Goes.via st3 ?_
    have e3' : T3.heap = h0 := e3
    show Goes p e below _ (T3.setTop (mkF m 21 #[.val (.ref b), .val (.int ch), .val (.int (own_max (0 : Int32) (0 : Int32))), .val (.int (17 : Int32))] [(.int (own_min (17 : Int32) (17 : Int32)))]))
    refine Goes.via (fun _ kk_ => XS.istoreN X3.here hx rfl (hb hby d9_21) rfl (l' := #[.val (.ref b), .val (.int ch), .val (.int (own_max (0 : Int32) (0 : Int32))), .val (.int (own_min (17 : Int32) (17 : Int32)))]) rfl kk_) ?_
    show Goes p e below _ (T3.setTop (mkF m 22 #[.val (.ref b), .val (.int ch), .val (.int (own_max (0 : Int32) (0 : Int32))), .val (.int (own_min (17 : Int32) (17 : Int32)))] []))
    refine Goes.via (fun _ kk_ => XS.iloadN X3.here hx rfl (hb hby d9_22) rfl  kk_) ?_
    show Goes p e below _ (T3.setTop (mkF m 23 #[.val (.ref b), .val (.int ch), .val (.int (own_max (0 : Int32) (0 : Int32))), .val (.int (own_min (17 : Int32) (17 : Int32)))] [(.int (own_max (0 : Int32) (0 : Int32)))]))
    refine Goes.via (fun _ kk_ => XS.iloadN X3.here hx rfl (hb hby d9_23) rfl  kk_) ?_
    show Goes p e below _ (T3.setTop (mkF m 24 #[.val (.ref b), .val (.int ch), .val (.int (own_max (0 : Int32) (0 : Int32))), .val (.int (own_min (17 : Int32) (17 : Int32)))] [(.int (own_min (17 : Int32) (17 : Int32))), (.int (own_max (0 : Int32) (0 : Int32)))]))
    have hc24_4 : (own_max (0 : Int32) (0 : Int32)) < (own_min (17 : Int32) (17 : Int32)) := (by decide)
    refine Goes.via (fun _ kk_ => XS.icmpYes X3.here hx rfl (pc0 := 24) (pc' := 29) rfl (hb hby d9_24) rfl (tlt hc24_4).1 (by decide) (by decide) kk_) ?_
    show Goes p e below _ (T3.setTop (mkF m 29 #[.val (.ref b), .val (.int ch), .val (.int (own_max (0 : Int32) (0 : Int32))), .val (.int (own_min (17 : Int32) (17 : Int32)))] []))
    rw [show (own_max (0 : Int32) (0 : Int32)) = (0 : Int32) from by decide]
    rw [show (own_min (17 : Int32) (17 : Int32)) = (17 : Int32) from by decide]
    show Goes p e below _ (T3.setTop (mkF m 29 #[.val (.ref b), .val (.int ch), .val (.int (0 : Int32)), .val (.int (17 : Int32))] []))
    refine Goes.via (fun _ kk_ => XS.aloadN X3.here hx rfl (hb hby d9_29) rfl rfl  kk_) ?_
    show Goes p e below _ (T3.setTop (mkF m 30 #[.val (.ref b), .val (.int ch), .val (.int (0 : Int32)), .val (.int (17 : Int32))] [(.ref b)]))
    refine Goes.via (fun _ kk_ => XS.iloadN X3.here hx rfl (hb hby d9_30) rfl  kk_) ?_
    show Goes p e below _ (T3.setTop (mkF m 31 #[.val (.ref b), .val (.int ch), .val (.int (0 : Int32)), .val (.int (17 : Int32))] [(.int ch), (.ref b)]))
    refine Goes.via (fun _ kk_ => XS.iloadN X3.here hx rfl (hb hby d9_31) rfl  kk_) ?_
    show Goes p e below _ (T3.setTop (mkF m 32 #[.val (.ref b), .val (.int ch), .val (.int (0 : Int32)), .val (.int (17 : Int32))] [(.int (0 : Int32)), (.int ch), (.ref b)]))
    refine Goes.via (fun _ kk_ => XS.iloadN X3.here hx rfl (hb hby d9_32) rfl  kk_) ?_
    show Goes p e below _ (T3.setTop (mkF m 33 #[.val (.ref b), .val (.int ch), .val (.int (0 : Int32)), .val (.int (17 : Int32))] [(.int (17 : Int32)), (.int (0 : Int32)), (.int ch), (.ref b)]))
    obtain ⟨_, _, ⟨T5, L5, k5, n5⟩, -, X5, ⟨Lc5, hQ5, l5, y5, z5⟩, st5⟩ := Jvm.LawKit.callS X3 hx (y := (⟨"java/lang/StringLatin1", "indexOfChar", "([BIII)I"⟩ : MethodName)) hown (mvT hZ (hw _ (List.mem_of_getElem? (i := 61) rfl))) (mvT hZ (hw _ (List.mem_of_getElem? (i := 62) rfl))) (mvT hZ (hw _ (List.mem_of_getElem? (i := 49) rfl))) (mvT hZ (hw _ (List.mem_of_getElem? (i := 63) rfl))) (by decide) (backOf (W := 0) (rm13 l Z a0 hw [] ch b (0 : Int32) (17 : Int32) kb h0 n0 (Nat.le_trans Z0 (Nat.le_refl _)) A0_b (by first | assumption | rfl | decide | omega | (simp; done)) (by first | assumption | rfl | decide | omega | (simp; done))) hZ (hw _ (List.mem_of_getElem? (i := 63) rfl)) (hw _ (List.mem_of_getElem? (i := 49) rfl)) (by decide) (by decide)) (g := (mkF m 33 #[.val (.ref b), .val (.int ch), .val (.int (0 : Int32)), .val (.int (17 : Int32))] [(.int (17 : Int32)), (.int (0 : Int32)), (.int ch), (.ref b)])) rfl (by rw [hml]; rfl) (argsL := [(.ref b), (.int ch), (.int (0 : Int32)), (.int (17 : Int32))]) (rest := []) (lenOf pd_3 rfl) rfl (by show 2 * 0 + _ ≤ _; exact Nat.le_of_eq rfl) (hb hby d9_33) (fun _ _ => ⟨rfl, e3', (by first | decide | omega | (dsimp only; omega) : 0 + 0 ≤ _), (by first | decide | omega | (dsimp only; omega) : 0 + 0 ≤ _)⟩)
    dsimp only [Pt.U, Pt.locs, Pt.cells, Pt.slots] at X5 l5 y5 z5 st5 hQ5
    subst l5 y5 z5
    obtain ⟨rfl, rfl, e5⟩ := hQ5
    first | rw [List.append_nil] at X5 | skip
    refine Goes.via st5 ?_
    have e5' : T5.heap = h0 := e5
    show Goes p e below _ (T5.setTop (mkF m 36 #[.val (.ref b), .val (.int ch), .val (.int (0 : Int32)), .val (.int (17 : Int32))] [(.int (own_ioc ch))]))
    exact own_finI X5 hx hlk hret (hb hby d9_36) (by rw [e5']; exact ⟨(by first | (rw [own_lio, if_neg hc4]; done) | (rw [own_lio, if_neg hc4]; rfl)), rfl, rfl⟩) (by first | decide | omega | (dsimp only; omega)) (by first | decide | omega | (dsimp only; omega))
def own_sio (ch : Int32) : Int32 := (own_lio ch)
theorem ef_rm5 (m : MethodId) (a : Addr) (ch : Int32) (fr : Int32) : entryFrame m #[(.ref a), (.int ch), (.int fr)] 3 = mkF m 0 #[.val (.ref a), .val (.int ch), .val (.int fr)] [] := by first | (simp [entryFrame, mkF, argsToLocals, Value.category]; done) | rfl
def Qrm5 (Z : State) (ch : Int32) (a : Addr) (fr : Int32) (b : Addr) (kb : ClassId) (cS : Int32) (h0 : Heap) (n0 : Nat) (v_ : Option Value) (h_ : Heap) (L_ : List Loc) : Prop := v_ = some (.int (own_sio ch)) ∧ L_ = [] ∧ h_ = h0
theorem d5_0 : decode jdk_42_method_80_code 0 = .ok (.aload_n 0, 1) := by decide +kernel
theorem pd_4 : parseMethodDescriptor "()Z" = some ⟨[], some .boolean⟩ := by decide +kernel
theorem d5_1 : decode jdk_42_method_80_code 1 = .ok (.invokevirtual 492, 3) := by decide +kernel
theorem d5_4 : decode jdk_42_method_80_code 4 = .ok (.ifCond .eq 19, 3) := by decide +kernel
theorem d5_7 : decode jdk_42_method_80_code 7 = .ok (.aload_n 0, 1) := by decide +kernel
theorem d5_8 : decode jdk_42_method_80_code 8 = .ok (.getfield 9, 3) := by decide +kernel
theorem d5_11 : decode jdk_42_method_80_code 11 = .ok (.iload_n 1, 1) := by decide +kernel
theorem d5_12 : decode jdk_42_method_80_code 12 = .ok (.iload_n 2, 1) := by decide +kernel
theorem d5_13 : decode jdk_42_method_80_code 13 = .ok (.aload_n 0, 1) := by decide +kernel
theorem pd_5 : parseMethodDescriptor "()I" = some ⟨[], some .int⟩ := by decide +kernel
theorem d5_14 : decode jdk_42_method_80_code 14 = .ok (.invokevirtual 505, 3) := by decide +kernel
theorem d5_17 : decode jdk_42_method_80_code 17 = .ok (.invokestatic 637, 3) := by decide +kernel
theorem d5_20 : decode jdk_42_method_80_code 20 = .ok (.goto 16, 3) := by decide +kernel
theorem d5_36 : decode jdk_42_method_80_code 36 = .ok (.ireturn, 1) := by decide +kernel
set_option maxRecDepth 65536 in
set_option maxHeartbeats 40000000 in
theorem rm5 (l : Launch) (Z : State) (a0 : Array Value) (hw : ∀ d ∈ tables_1, d.before a0 Z = true) (ws : List Jvm.Cond) (ch : Int32) (a : Addr) (fr : Int32) (b : Addr) (kb : ClassId) (cS : Int32) (h0 : Heap) (n0 : Nat) (Z0 : n0 ≤ h0.size) (E0_a : Exa Z h0 a "java/lang/String") (F1_a_value : Fld Z h0 a "java/lang/String" "value" "[B" (.ref b)) (A2_b : Arw Z h0 b kb .byte 17 own_by) (S3_java_lang_String_COMPACT_STRINGS_COMPACT_STRINGS : Sta Z h0 "java/lang/String" "COMPACT_STRINGS" "Z" (.int cS)) (H_cs : ¬ cS = (0 : Int32)) (F5_a_coder : Fld Z h0 a "java/lang/String" "coder" "B" (.int (0 : Int32))) (Hfr : fr = (0 : Int32)) :
    MetFree l (⟨"java/lang/String", "indexOf", "(II)I"⟩ : MethodName) (head1 (Jvm.Cond.code (⟨"java/lang/String", "indexOf", "(II)I"⟩ : MethodName) jdk_42_method_80_code 3 (some .int) :: ws) ({ frames := 2, cells := 0, slots := 0, locals := 32 } : Room)) (fun as_ U_ => as_ = #[(.ref a), (.int ch), (.int fr)] ∧ Z.Warmed39 U_.vm ∧ U_.heap = h0) (fun _ _ _ _ _ => True) (fun _ U_ o_ V_ => ∃ v_ L_, o_ = .returned v_ ∧ Qrm5 Z ch a fr b kb cS h0 n0 v_ V_.heap L_ ∧ FrameEnd U_ o_ V_ L_ ({ frames := 2, cells := 0, slots := 0, locals := 32 } : Room).cells ({ frames := 2, cells := 0, slots := 0, locals := 32 } : Room).slots) := by
  refine MetFree.of_bodySF (plainFor_of_name pn_java_lang_String) hisR ?_
  intro p e s m args below meth c s₁ Bd hml0 hP hK
  obtain ⟨rfl, hZ, hh⟩ := hP
  have hx := Bd.exec
  have hby := Bd.bytes
  have hlk : meth.locks = false := BodyLoose.notSynchronized Bd
  have hret := Bd.returns
  have hml : c.maxLocals = 3 := hml0
  have hown : s.vm.findClass "java/lang/String" = some m.cls := findClass_of_methodNamed Bd.named
  have hnm := (name_of_methodNamed Bd.named Bd.method).1
  have X0 : Stand p l e ({ frames := 2, cells := 0, slots := 0, locals := 32 } : Room) s m #[(.ref a), (.int ch), (.int fr)] below meth c s₁ [] 0 0 := Stand.of_body Bd
  have e0 : s₁.heap = h0 := by rw [← hh, Bd.state]; rfl
  have N0 := Fr.nil n0
  show Goes p e below (Fin_ s (Qrm5 Z ch a fr b kb cS h0 n0) ({ frames := 2, cells := 0, slots := 0, locals := 32 } : Room).cells ({ frames := 2, cells := 0, slots := 0, locals := 32 } : Room).slots) (s₁.setTop (entryFrame m #[(.ref a), (.int ch), (.int fr)] 3))
  rw [ef_rm5 m a ch fr]
  have ne1 : a ≠ b := own_ne_arr E0_a (hw _ (List.mem_of_getElem? (i := 13) rfl)) A2_b
  subst Hfr
  show Goes p e below _ (s₁.setTop (mkF m 0 #[.val (.ref a), .val (.int ch), .val (.int (0 : Int32))] []))
  refine Goes.via (fun _ kk_ => XS.aloadN X0.here hx rfl (hb hby d5_0) rfl rfl  kk_) ?_
  show Goes p e below _ (s₁.setTop (mkF m 1 #[.val (.ref a), .val (.int ch), .val (.int (0 : Int32))] [(.ref a)]))
  obtain ⟨cq2, kq2, q2a, q2b, q2c⟩ := isOf hZ e0 E0_a
  obtain ⟨_, _, ⟨T2, L2, k2, n2⟩, -, X2, ⟨Lc2, hQ2, l2, y2, z2⟩, st2⟩ := X0.virtualBack hx (y := (⟨"java/lang/String", "isLatin1", "()Z"⟩ : MethodName)) (z := (⟨"java/lang/String", "isLatin1", "()Z"⟩ : MethodName)) hown (mvT hZ (hw _ (List.mem_of_getElem? (i := 29) rfl))) (mvT hZ (hw _ (List.mem_of_getElem? (i := 30) rfl))) (notFace_of_selects (args := #[]) (mvT hZ (hw _ (List.mem_of_getElem? (i := 32) rfl)))) (mvT hZ (hw _ (List.mem_of_getElem? (i := 32) rfl))) (mvT hZ (hw _ (List.mem_of_getElem? (i := 31) rfl))) (by decide) (backOf (W := 0) (rm6 l Z a0 hw [] a cS h0 n0 (Nat.le_trans Z0 (Nat.le_refl _)) S3_java_lang_String_COMPACT_STRINGS_COMPACT_STRINGS (by first | assumption | rfl | decide | omega | (simp; done)) F5_a_coder) hZ (hw _ (List.mem_of_getElem? (i := 33) rfl)) (hw _ (List.mem_of_getElem? (i := 12) rfl)) (by decide) (by decide)) q2a q2c (g := (mkF m 1 #[.val (.ref a), .val (.int ch), .val (.int (0 : Int32))] [(.ref a)])) rfl (by rw [hml]; rfl) (Steps.refl _) (argsL := []) (rest := []) (lenOf pd_4 rfl) rfl (by show 2 * 0 + _ ≤ _; exact Nat.le_of_eq rfl) (hb hby d5_1) (fun _ _ => ⟨rfl, e0, (by first | decide | omega | (dsimp only; omega) : 0 + 0 ≤ _), (by first | decide | omega | (dsimp only; omega) : 0 + 0 ≤ _)⟩)
  dsimp only [Pt.U, Pt.locs, Pt.cells, Pt.slots] at X2 l2 y2 z2 st2 hQ2
  subst l2 y2 z2
  obtain ⟨rfl, rfl, e2⟩ := hQ2
  first | rw [List.append_nil] at X2 | skip
  refine Goes.tr st2 ?_
  have e2' : T2.heap = h0 := e2
  show Goes p e below _ (T2.setTop (mkF m 4 #[.val (.ref a), .val (.int ch), .val (.int (0 : Int32))] [(.int (1 : Int32))]))
  have hc4_3 : ¬ ((1 : Int32) = (0 : Int32)) := (by decide)
  refine Goes.via (fun _ kk_ => XS.ifNo X2.here hx rfl (hb hby d5_4) rfl ((if0 _ _).trans (feq hc4_3).1) kk_) ?_
  show Goes p e below _ (T2.setTop (mkF m 7 #[.val (.ref a), .val (.int ch), .val (.int (0 : Int32))] []))
  refine Goes.via (fun _ kk_ => XS.aloadN X2.here hx rfl (hb hby d5_7) rfl rfl  kk_) ?_
  show Goes p e below _ (T2.setTop (mkF m 8 #[.val (.ref a), .val (.int ch), .val (.int (0 : Int32))] [(.ref a)]))
  obtain ⟨T4, X4, e4, st4⟩ := getF X2 hx hZ hown (host := "") (Or.inl (hw _ (List.mem_of_getElem? (i := 36) rfl))) Via.refl e2' F1_a_value (g := (mkF m 8 #[.val (.ref a), .val (.int ch), .val (.int (0 : Int32))] [(.ref a)])) rfl rfl (hb hby d5_8)
  refine Goes.via st4 ?_
  show Goes p e below _ (T4.setTop (mkF m 11 #[.val (.ref a), .val (.int ch), .val (.int (0 : Int32))] [(.ref b)]))
  refine Goes.via (fun _ kk_ => XS.iloadN X4.here hx rfl (hb hby d5_11) rfl  kk_) ?_
  show Goes p e below _ (T4.setTop (mkF m 12 #[.val (.ref a), .val (.int ch), .val (.int (0 : Int32))] [(.int ch), (.ref b)]))
  refine Goes.via (fun _ kk_ => XS.iloadN X4.here hx rfl (hb hby d5_12) rfl  kk_) ?_
  show Goes p e below _ (T4.setTop (mkF m 13 #[.val (.ref a), .val (.int ch), .val (.int (0 : Int32))] [(.int (0 : Int32)), (.int ch), (.ref b)]))
  refine Goes.via (fun _ kk_ => XS.aloadN X4.here hx rfl (hb hby d5_13) rfl rfl  kk_) ?_
  show Goes p e below _ (T4.setTop (mkF m 14 #[.val (.ref a), .val (.int ch), .val (.int (0 : Int32))] [(.ref a), (.int (0 : Int32)), (.int ch), (.ref b)]))
  obtain ⟨cq5, kq5, q5a, q5b, q5c⟩ := isOf hZ e4 E0_a
  obtain ⟨_, _, ⟨T5, L5, k5, n5⟩, -, X5, ⟨Lc5, hQ5, l5, y5, z5⟩, st5⟩ := X4.virtualBack hx (y := (⟨"java/lang/String", "length", "()I"⟩ : MethodName)) (z := (⟨"java/lang/String", "length", "()I"⟩ : MethodName)) hown (mvT hZ (hw _ (List.mem_of_getElem? (i := 37) rfl))) (mvT hZ (hw _ (List.mem_of_getElem? (i := 38) rfl))) (notFace_of_selects (args := #[]) (mvT hZ (hw _ (List.mem_of_getElem? (i := 40) rfl)))) (mvT hZ (hw _ (List.mem_of_getElem? (i := 40) rfl))) (mvT hZ (hw _ (List.mem_of_getElem? (i := 39) rfl))) (by decide) (backOf (W := 3) (rm7 l Z a0 hw [] a b kb cS h0 n0 (Nat.le_trans Z0 (Nat.le_refl _)) E0_a F1_a_value A2_b S3_java_lang_String_COMPACT_STRINGS_COMPACT_STRINGS (by first | assumption | rfl | decide | omega | (simp; done)) F5_a_coder) hZ (hw _ (List.mem_of_getElem? (i := 41) rfl)) (hw _ (List.mem_of_getElem? (i := 12) rfl)) (by decide) (by decide)) q5a q5c (g := (mkF m 14 #[.val (.ref a), .val (.int ch), .val (.int (0 : Int32))] [(.ref a), (.int (0 : Int32)), (.int ch), (.ref b)])) rfl (by rw [hml]; rfl) (Steps.refl _) (argsL := []) (rest := [(.int (0 : Int32)), (.int ch), (.ref b)]) (lenOf pd_5 rfl) rfl (by show 2 * 0 + _ ≤ _; exact Nat.le_of_eq rfl) (hb hby d5_14) (fun _ _ => ⟨rfl, e4, (by first | decide | omega | (dsimp only; omega) : 0 + 0 ≤ _), (by first | decide | omega | (dsimp only; omega) : 0 + 0 ≤ _)⟩)
  dsimp only [Pt.U, Pt.locs, Pt.cells, Pt.slots] at X5 l5 y5 z5 st5 hQ5
  subst l5 y5 z5
  obtain ⟨rfl, rfl, e5⟩ := hQ5
  first | rw [List.append_nil] at X5 | skip
  refine Goes.tr st5 ?_
  have e5' : T5.heap = h0 := e5
  show Goes p e below _ (T5.setTop (mkF m 17 #[.val (.ref a), .val (.int ch), .val (.int (0 : Int32))] [(.int (17 : Int32)), (.int (0 : Int32)), (.int ch), (.ref b)]))
  obtain ⟨_, _, ⟨T6, L6, k6, n6⟩, -, X6, ⟨Lc6, hQ6, l6, y6, z6⟩, st6⟩ := Jvm.LawKit.callS X5 hx (y := (⟨"java/lang/StringLatin1", "indexOf", "([BIII)I"⟩ : MethodName)) hown (mvT hZ (hw _ (List.mem_of_getElem? (i := 47) rfl))) (mvT hZ (hw _ (List.mem_of_getElem? (i := 48) rfl))) (mvT hZ (hw _ (List.mem_of_getElem? (i := 49) rfl))) (mvT hZ (hw _ (List.mem_of_getElem? (i := 50) rfl))) (by decide) (backOf (W := 0) (rm9 l Z a0 hw [] ch b (0 : Int32) (17 : Int32) kb h0 n0 (Nat.le_trans Z0 (Nat.le_refl _)) A2_b (by first | assumption | rfl | decide | omega | (simp; done)) (by first | assumption | rfl | decide | omega | (simp; done))) hZ (hw _ (List.mem_of_getElem? (i := 50) rfl)) (hw _ (List.mem_of_getElem? (i := 49) rfl)) (by decide) (by decide)) (g := (mkF m 17 #[.val (.ref a), .val (.int ch), .val (.int (0 : Int32))] [(.int (17 : Int32)), (.int (0 : Int32)), (.int ch), (.ref b)])) rfl (by rw [hml]; rfl) (argsL := [(.ref b), (.int ch), (.int (0 : Int32)), (.int (17 : Int32))]) (rest := []) (lenOf pd_3 rfl) rfl (by show 2 * 0 + _ ≤ _; exact Nat.le_of_eq rfl) (hb hby d5_17) (fun _ _ => ⟨rfl, e5', (by first | decide | omega | (dsimp only; omega) : 0 + 0 ≤ _), (by first | decide | omega | (dsimp only; omega) : 0 + 0 ≤ _)⟩)
  dsimp only [Pt.U, Pt.locs, Pt.cells, Pt.slots] at X6 l6 y6 z6 st6 hQ6
  subst l6 y6 z6
  obtain ⟨rfl, rfl, e6⟩ := hQ6
  first | rw [List.append_nil] at X6 | skip
  refine Goes.via st6 ?_
  have e6' : T6.heap = h0 := e6
  show Goes p e below _ (T6.setTop (mkF m 20 #[.val (.ref a), .val (.int ch), .val (.int (0 : Int32))] [(.int (own_lio ch))]))
  refine Goes.via (fun _ kk_ => XS.goto X6.here hx rfl (pc0 := 20) (pc' := 36) rfl (hb hby d5_20) (by decide) (by decide) kk_) ?_
  show Goes p e below _ (T6.setTop (mkF m 36 #[.val (.ref a), .val (.int ch), .val (.int (0 : Int32))] [(.int (own_lio ch))]))
  exact own_finI X6 hx hlk hret (hb hby d5_36) (by rw [e6']; exact ⟨(by first | (rw [own_sio]; done) | (rw [own_sio]; rfl)), rfl, rfl⟩) (by first | decide | omega | (dsimp only; omega)) (by first | decide | omega | (dsimp only; omega))
def own_io (ch : Int32) : Int32 := (own_sio ch)
theorem ef_rm4 (m : MethodId) (a : Addr) (ch : Int32) : entryFrame m #[(.ref a), (.int ch)] 2 = mkF m 0 #[.val (.ref a), .val (.int ch)] [] := by first | (simp [entryFrame, mkF, argsToLocals, Value.category]; done) | rfl
def Qrm4 (Z : State) (ch : Int32) (a : Addr) (b : Addr) (kb : ClassId) (cS : Int32) (h0 : Heap) (n0 : Nat) (v_ : Option Value) (h_ : Heap) (L_ : List Loc) : Prop := v_ = some (.int (own_io ch)) ∧ L_ = [] ∧ h_ = h0
theorem d4_0 : decode jdk_42_method_79_code 0 = .ok (.aload_n 0, 1) := by decide +kernel
theorem d4_1 : decode jdk_42_method_79_code 1 = .ok (.iload_n 1, 1) := by decide +kernel
theorem d4_2 : decode jdk_42_method_79_code 2 = .ok (.iconst 0, 1) := by decide +kernel
theorem d4_3 : decode jdk_42_method_79_code 3 = .ok (.invokevirtual 633, 3) := by decide +kernel
theorem d4_6 : decode jdk_42_method_79_code 6 = .ok (.ireturn, 1) := by decide +kernel
set_option maxRecDepth 65536 in
set_option maxHeartbeats 40000000 in
theorem rm4 (l : Launch) (Z : State) (a0 : Array Value) (hw : ∀ d ∈ tables_1, d.before a0 Z = true) (ws : List Jvm.Cond) (ch : Int32) (a : Addr) (b : Addr) (kb : ClassId) (cS : Int32) (h0 : Heap) (n0 : Nat) (Z0 : n0 ≤ h0.size) (E0_a : Exa Z h0 a "java/lang/String") (F1_a_value : Fld Z h0 a "java/lang/String" "value" "[B" (.ref b)) (A2_b : Arw Z h0 b kb .byte 17 own_by) (S3_java_lang_String_COMPACT_STRINGS_COMPACT_STRINGS : Sta Z h0 "java/lang/String" "COMPACT_STRINGS" "Z" (.int cS)) (H_cs : ¬ cS = (0 : Int32)) (F5_a_coder : Fld Z h0 a "java/lang/String" "coder" "B" (.int (0 : Int32))) :
    MetFree l (⟨"java/lang/String", "indexOf", "(I)I"⟩ : MethodName) (head1 (Jvm.Cond.code (⟨"java/lang/String", "indexOf", "(I)I"⟩ : MethodName) jdk_42_method_79_code 2 (some .int) :: ws) ({ frames := 3, cells := 0, slots := 0, locals := 46 } : Room)) (fun as_ U_ => as_ = #[(.ref a), (.int ch)] ∧ Z.Warmed39 U_.vm ∧ U_.heap = h0) (fun _ _ _ _ _ => True) (fun _ U_ o_ V_ => ∃ v_ L_, o_ = .returned v_ ∧ Qrm4 Z ch a b kb cS h0 n0 v_ V_.heap L_ ∧ FrameEnd U_ o_ V_ L_ ({ frames := 3, cells := 0, slots := 0, locals := 46 } : Room).cells ({ frames := 3, cells := 0, slots := 0, locals := 46 } : Room).slots) := by
  refine MetFree.of_bodySF (plainFor_of_name pn_java_lang_String) hisR ?_
  intro p e s m args below meth c s₁ Bd hml0 hP hK
  obtain ⟨rfl, hZ, hh⟩ := hP
  have hx := Bd.exec
  have hby := Bd.bytes
  have hlk : meth.locks = false := BodyLoose.notSynchronized Bd
  have hret := Bd.returns
  have hml : c.maxLocals = 2 := hml0
  have hown : s.vm.findClass "java/lang/String" = some m.cls := findClass_of_methodNamed Bd.named
  have hnm := (name_of_methodNamed Bd.named Bd.method).1
  have X0 : Stand p l e ({ frames := 3, cells := 0, slots := 0, locals := 46 } : Room) s m #[(.ref a), (.int ch)] below meth c s₁ [] 0 0 := Stand.of_body Bd
  have e0 : s₁.heap = h0 := by rw [← hh, Bd.state]; rfl
  have N0 := Fr.nil n0
  show Goes p e below (Fin_ s (Qrm4 Z ch a b kb cS h0 n0) ({ frames := 3, cells := 0, slots := 0, locals := 46 } : Room).cells ({ frames := 3, cells := 0, slots := 0, locals := 46 } : Room).slots) (s₁.setTop (entryFrame m #[(.ref a), (.int ch)] 2))
  rw [ef_rm4 m a ch]
  have ne1 : a ≠ b := own_ne_arr E0_a (hw _ (List.mem_of_getElem? (i := 13) rfl)) A2_b
  refine Goes.via (fun _ kk_ => XS.aloadN X0.here hx rfl (hb hby d4_0) rfl rfl  kk_) ?_
  show Goes p e below _ (s₁.setTop (mkF m 1 #[.val (.ref a), .val (.int ch)] [(.ref a)]))
  refine Goes.via (fun _ kk_ => XS.iloadN X0.here hx rfl (hb hby d4_1) rfl  kk_) ?_
  show Goes p e below _ (s₁.setTop (mkF m 2 #[.val (.ref a), .val (.int ch)] [(.int ch), (.ref a)]))
  refine Goes.via (fun _ kk_ => XS.iconst X0.here hx rfl (hb hby d4_2) kk_) ?_
  show Goes p e below _ (s₁.setTop (mkF m 3 #[.val (.ref a), .val (.int ch)] [(.int (0 : Int32)), (.int ch), (.ref a)]))
  obtain ⟨cq2, kq2, q2a, q2b, q2c⟩ := isOf hZ e0 E0_a
  obtain ⟨_, _, ⟨T2, L2, k2, n2⟩, -, X2, ⟨Lc2, hQ2, l2, y2, z2⟩, st2⟩ := X0.virtualBack hx (y := (⟨"java/lang/String", "indexOf", "(II)I"⟩ : MethodName)) (z := (⟨"java/lang/String", "indexOf", "(II)I"⟩ : MethodName)) hown (mvT hZ (hw _ (List.mem_of_getElem? (i := 24) rfl))) (mvT hZ (hw _ (List.mem_of_getElem? (i := 25) rfl))) (notFace_of_selects (args := #[]) (mvT hZ (hw _ (List.mem_of_getElem? (i := 27) rfl)))) (mvT hZ (hw _ (List.mem_of_getElem? (i := 27) rfl))) (mvT hZ (hw _ (List.mem_of_getElem? (i := 26) rfl))) (by decide) (backOf (W := 0) (rm5 l Z a0 hw [] ch a (0 : Int32) b kb cS h0 n0 (Nat.le_trans Z0 (Nat.le_refl _)) E0_a F1_a_value A2_b S3_java_lang_String_COMPACT_STRINGS_COMPACT_STRINGS (by first | assumption | rfl | decide | omega | (simp; done)) F5_a_coder (by first | assumption | rfl | decide | omega | (simp; done))) hZ (hw _ (List.mem_of_getElem? (i := 28) rfl)) (hw _ (List.mem_of_getElem? (i := 12) rfl)) (by decide) (by decide)) q2a q2c (g := (mkF m 3 #[.val (.ref a), .val (.int ch)] [(.int (0 : Int32)), (.int ch), (.ref a)])) rfl (by rw [hml]; rfl) (Steps.refl _) (argsL := [(.int ch), (.int (0 : Int32))]) (rest := []) (lenOf pd_2 rfl) rfl (by show 2 * 0 + _ ≤ _; exact Nat.le_of_eq rfl) (hb hby d4_3) (fun _ _ => ⟨rfl, e0, (by first | decide | omega | (dsimp only; omega) : 0 + 0 ≤ _), (by first | decide | omega | (dsimp only; omega) : 0 + 0 ≤ _)⟩)
  dsimp only [Pt.U, Pt.locs, Pt.cells, Pt.slots] at X2 l2 y2 z2 st2 hQ2
  subst l2 y2 z2
  obtain ⟨rfl, rfl, e2⟩ := hQ2
  first | rw [List.append_nil] at X2 | skip
  refine Goes.tr st2 ?_
  have e2' : T2.heap = h0 := e2
  show Goes p e below _ (T2.setTop (mkF m 6 #[.val (.ref a), .val (.int ch)] [(.int (own_sio ch))]))
  exact own_finI X2 hx hlk hret (hb hby d4_6) (by rw [e2']; exact ⟨(by first | (rw [own_io]; done) | (rw [own_io]; rfl)), rfl, rfl⟩) (by first | decide | omega | (dsimp only; omega)) (by first | decide | omega | (dsimp only; omega))
-- @TREE@
def own_sym (c_ : Int32) : Int32 := (if c_ < (97 : Int32) then (if c_ < (65 : Int32) then (if (own_dig c_) = (0 : Int32) then (if (own_io c_) < (0 : Int32) then (0 : Int32) else (1 : Int32)) else (1 : Int32)) else (if (90 : Int32) < c_ then (if (own_dig c_) = (0 : Int32) then (if (own_io c_) < (0 : Int32) then (0 : Int32) else (1 : Int32)) else (1 : Int32)) else (1 : Int32))) else (if (122 : Int32) < c_ then (if c_ < (65 : Int32) then (if (own_dig c_) = (0 : Int32) then (if (own_io c_) < (0 : Int32) then (0 : Int32) else (1 : Int32)) else (1 : Int32)) else (if (90 : Int32) < c_ then (if (own_dig c_) = (0 : Int32) then (if (own_io c_) < (0 : Int32) then (0 : Int32) else (1 : Int32)) else (1 : Int32)) else (1 : Int32))) else (1 : Int32)))
theorem ef_rm2 (m : MethodId) (c_ : Int32) : entryFrame m #[(.int c_)] 1 = mkF m 0 #[.val (.int c_)] [] := by first | (simp [entryFrame, mkF, argsToLocals, Value.category]; done) | rfl
def Qrm2 (Z : State) (c_ : Int32) (cS : Int32) (h0 : Heap) (n0 : Nat) (v_ : Option Value) (h_ : Heap) (L_ : List Loc) : Prop := v_ = some (.int (own_sym c_)) ∧ Fr n0 L_ ∧ Keep h0 h_ []
theorem d2_0 : decode prog_35_method_5_code 0 = .ok (.iload_n 0, 1) := by decide +kernel
theorem d2_1 : decode prog_35_method_5_code 1 = .ok (.bipush 97, 2) := by decide +kernel
theorem d2_3 : decode prog_35_method_5_code 3 = .ok (.if_icmp .lt 9, 3) := by decide +kernel
theorem d2_12 : decode prog_35_method_5_code 12 = .ok (.iload_n 0, 1) := by decide +kernel
theorem d2_13 : decode prog_35_method_5_code 13 = .ok (.bipush 65, 2) := by decide +kernel
theorem d2_15 : decode prog_35_method_5_code 15 = .ok (.if_icmp .lt 9, 3) := by decide +kernel
theorem d2_24 : decode prog_35_method_5_code 24 = .ok (.iload_n 0, 1) := by decide +kernel
theorem d2_25 : decode prog_35_method_5_code 25 = .ok (.invokestatic 65, 3) := by decide +kernel
theorem d2_28 : decode prog_35_method_5_code 28 = .ok (.ifCond .ne 12, 3) := by decide +kernel
theorem d2_31 : decode prog_35_method_5_code 31 = .ok (.ldc 76, 2) := by decide +kernel
theorem d2_33 : decode prog_35_method_5_code 33 = .ok (.iload_n 0, 1) := by decide +kernel
theorem pd_6 : parseMethodDescriptor "(I)I" = some ⟨[.int], some .int⟩ := by decide +kernel
theorem d2_34 : decode prog_35_method_5_code 34 = .ok (.invokevirtual 15, 3) := by decide +kernel
theorem d2_37 : decode prog_35_method_5_code 37 = .ok (.ifCond .lt 7, 3) := by decide +kernel
theorem d2_44 : decode prog_35_method_5_code 44 = .ok (.iconst 0, 1) := by decide +kernel
theorem d2_45 : decode prog_35_method_5_code 45 = .ok (.ireturn, 1) := by decide +kernel
theorem d2_40 : decode prog_35_method_5_code 40 = .ok (.iconst 1, 1) := by decide +kernel
theorem d2_41 : decode prog_35_method_5_code 41 = .ok (.goto 4, 3) := by decide +kernel
theorem d2_18 : decode prog_35_method_5_code 18 = .ok (.iload_n 0, 1) := by decide +kernel
theorem d2_19 : decode prog_35_method_5_code 19 = .ok (.bipush 90, 2) := by decide +kernel
theorem d2_21 : decode prog_35_method_5_code 21 = .ok (.if_icmp .le 19, 3) := by decide +kernel
theorem d2_6 : decode prog_35_method_5_code 6 = .ok (.iload_n 0, 1) := by decide +kernel
theorem d2_7 : decode prog_35_method_5_code 7 = .ok (.bipush 122, 2) := by decide +kernel
theorem d2_9 : decode prog_35_method_5_code 9 = .ok (.if_icmp .le 31, 3) := by decide +kernel
set_option maxRecDepth 65536 in
set_option maxHeartbeats 40000000 in
theorem rm2 (l : Launch) (Z : State) (a0 : Array Value) (hw : ∀ d ∈ tables_1, d.before a0 Z = true) (ws : List Jvm.Cond) (c_ : Int32) (cS : Int32) (h0 : Heap) (n0 : Nat) (Z0 : n0 ≤ h0.size) (HO : Old Z n0 h0) (HC : Jvm.Lit.constHeld Z "com/example/map_rewriter/maprewriter/core/Symbol" 76) (HW : Jvm.Lit.compactW.before a0 Z = true) (S3_java_lang_String_COMPACT_STRINGS_COMPACT_STRINGS : Sta Z h0 "java/lang/String" "COMPACT_STRINGS" "Z" (.int cS)) (H_cs : ¬ cS = (0 : Int32)) :
    MetFree l (⟨"com/example/map_rewriter/maprewriter/core/Symbol", "isSymbolCharacter", "(I)Z"⟩ : MethodName) (head1 (Jvm.Cond.code (⟨"com/example/map_rewriter/maprewriter/core/Symbol", "isSymbolCharacter", "(I)Z"⟩ : MethodName) prog_35_method_5_code 1 (some .boolean) :: ws) ({ frames := 4, cells := 2, slots := 72, locals := 59 } : Room)) (fun as_ U_ => as_ = #[(.int c_)] ∧ Z.Warmed39 U_.vm ∧ U_.heap = h0 ∧ KS Z own_KL U_.vm U_.heap) (fun _ _ _ _ _ => True) (fun _ U_ o_ V_ => ∃ v_ L_, o_ = .returned v_ ∧ Qrm2 Z c_ cS h0 n0 v_ V_.heap L_ ∧ KS Z own_KL V_.vm V_.heap ∧ ReturnedEndW U_ o_ V_ L_ ({ frames := 4, cells := 2, slots := 72, locals := 59 } : Room).cells ({ frames := 4, cells := 2, slots := 72, locals := 59 } : Room).slots) := by
  refine MetFree.of_bodySF (plainFor_of_name pn_com_example_map_rewriter_maprewriter_core_Symbol) hisR ?_
  intro p e s m args below meth c s₁ Bd hml0 hP hK
  obtain ⟨rfl, hZ, hh, hKs⟩ := hP
  have hx := Bd.exec
  have hby := Bd.bytes
  have hlk : meth.locks = false := BodyLoose.notSynchronized Bd
  have hret := Bd.returns
  have hml : c.maxLocals = 1 := hml0
  have hown : s.vm.findClass "com/example/map_rewriter/maprewriter/core/Symbol" = some m.cls := findClass_of_methodNamed Bd.named
  have hnm := (name_of_methodNamed Bd.named Bd.method).1
  have X0 : Stand p l e ({ frames := 4, cells := 2, slots := 72, locals := 59 } : Room) (s.setVm s.vm) m #[(.int c_)] below meth c s₁ [] 0 0 := Stand.of_body Bd
  have e0 : s₁.heap = h0 := by rw [← hh, Bd.state]; rfl
  have N0 := Fr.nil n0
  show Goes p e below (Fin_W s (Qrm2 Z c_ cS h0 n0) (fun U_ => KS Z own_KL U_.vm U_.heap) ({ frames := 4, cells := 2, slots := 72, locals := 59 } : Room).cells ({ frames := 4, cells := 2, slots := 72, locals := 59 } : Room).slots) (s₁.setTop (entryFrame m #[(.int c_)] 1))
  rw [ef_rm2 m c_]
  have SI0 : s.Since s.vm 0 := (State.WarmedH.refl s).since 0
  have Ks0 : KS Z own_KL s.vm h0 := hh ▸ hKs
  refine Goes.via (fun _ kk_ => XS.iloadN X0.here hx rfl (hb hby d2_0) rfl  kk_) ?_
  show Goes p e below _ (s₁.setTop (mkF m 1 #[.val (.int c_)] [(.int c_)]))
  refine Goes.via (fun _ kk_ => XS.bipush X0.here hx rfl (hb hby d2_1) kk_) ?_
  show Goes p e below _ (s₁.setTop (mkF m 3 #[.val (.int c_)] [(.int (97 : Int32)), (.int c_)]))
  by_cases hc3 : c_ < (97 : Int32)
  · skip
    refine Goes.via (fun _ kk_ => XS.icmpYes X0.here hx rfl (pc0 := 3) (pc' := 12) rfl (hb hby d2_3) rfl (tlt hc3).1 (by decide) (by decide) kk_) ?_
    show Goes p e below _ (s₁.setTop (mkF m 12 #[.val (.int c_)] []))
    refine Goes.via (fun _ kk_ => XS.iloadN X0.here hx rfl (hb hby d2_12) rfl  kk_) ?_
    show Goes p e below _ (s₁.setTop (mkF m 13 #[.val (.int c_)] [(.int c_)]))
    refine Goes.via (fun _ kk_ => XS.bipush X0.here hx rfl (hb hby d2_13) kk_) ?_
    show Goes p e below _ (s₁.setTop (mkF m 15 #[.val (.int c_)] [(.int (65 : Int32)), (.int c_)]))
    by_cases hc15 : c_ < (65 : Int32)
    · skip
      refine Goes.via (fun _ kk_ => XS.icmpYes X0.here hx rfl (pc0 := 15) (pc' := 24) rfl (hb hby d2_15) rfl (tlt hc15).1 (by decide) (by decide) kk_) ?_
      show Goes p e below _ (s₁.setTop (mkF m 24 #[.val (.int c_)] []))
      refine Goes.via (fun _ kk_ => XS.iloadN X0.here hx rfl (hb hby d2_24) rfl  kk_) ?_
      show Goes p e below _ (s₁.setTop (mkF m 25 #[.val (.int c_)] [(.int c_)]))
      obtain ⟨_, _, ⟨T1, L1, k1, n1⟩, -, X1, ⟨Lc1, hQ1, l1, y1, z1⟩, st1⟩ := Jvm.LawKit.callS X0 hx (y := (⟨"com/example/map_rewriter/maprewriter/core/Symbol", "isDigit", "(I)Z"⟩ : MethodName)) hown (mvT hZ (hw _ (List.mem_of_getElem? (i := 8) rfl))) (mvT hZ (hw _ (List.mem_of_getElem? (i := 9) rfl))) (mvT hZ (hw _ (List.mem_of_getElem? (i := 6) rfl))) (mvT hZ (hw _ (List.mem_of_getElem? (i := 10) rfl))) (by decide) (backOf (W := 0) (rm3 l Z a0 hw [] c_ h0 n0 (Nat.le_trans Z0 (Nat.le_refl _)) ) hZ (hw _ (List.mem_of_getElem? (i := 10) rfl)) (hw _ (List.mem_of_getElem? (i := 6) rfl)) (by decide) (by decide)) (g := (mkF m 25 #[.val (.int c_)] [(.int c_)])) rfl (by rw [hml]; rfl) (argsL := [(.int c_)]) (rest := []) (lenOf pd_1 rfl) rfl (by show 2 * 0 + _ ≤ _; exact Nat.le_of_eq rfl) (hb hby d2_25) (fun _ _ => ⟨rfl, e0, (by first | decide | omega | (dsimp only; omega) : 0 + 0 ≤ _), (by first | decide | omega | (dsimp only; omega) : 0 + 0 ≤ _)⟩)
      dsimp only [Pt.U, Pt.locs, Pt.cells, Pt.slots] at X1 l1 y1 z1 st1 hQ1
      subst l1 y1 z1
      obtain ⟨rfl, rfl, e1⟩ := hQ1
      first | rw [List.append_nil] at X1 | skip
      refine Goes.via st1 ?_
      have e1' : T1.heap = h0 := e1
      show Goes p e below _ (T1.setTop (mkF m 28 #[.val (.int c_)] [(.int (own_dig c_))]))
      by_cases hc28 : (own_dig c_) = (0 : Int32)
      · skip
        refine Goes.via (fun _ kk_ => XS.ifNo X1.here hx rfl (hb hby d2_28) rfl ((if0 _ _).trans (teq hc28).2) kk_) ?_
        show Goes p e below _ (T1.setTop (mkF m 31 #[.val (.int c_)] []))
        obtain ⟨ka2, T2, h2, vm2, k12, kb2, kc2, X2, e2, E2, SI2, sk2, hZ, hown, kE2, kC2, kV2, kA2, kL2, Ks2, st2⟩ := own_ldcK (KL := own_KL) (z := (17 : Int32)) (vs := [(.int 126), (.int 33), (.int 64), (.int 36), (.int 37), (.int 94), (.int 38), (.int 42), (.int 95), (.int 45), (.int 43), (.int 61), (.int 60), (.int 62), (.int 46), (.int 63), (.int 47)]) X1 hx hZ hown (hw _ (List.mem_of_getElem? (i := 11) rfl)) (fun d hd => hw d ((by decide +kernel : ∀ d ∈ Bundle.stringAtoms, d ∈ tables_1) d hd)) e1' SI0 (Nat.zero_le _) (Fr.nil _) (by rw [hh]; exact HO.2.2) Ks0 (by simp [own_KL]) (by decide +kernel) HC HW (by decide +kernel) (by decide) (by decide) (g := (mkF m 31 #[.val (.int c_)] [])) rfl (hb hby d2_31) (n := 68) (by decide +kernel) (by decide) (by first | decide | omega | (dsimp only; omega)) (by first | decide | omega | (dsimp only; omega))
        refine Goes.via st2 ?_
        show Goes p e below _ (T2.setTop (mkF m 33 #[.val (.int c_)] [(.ref ka2)]))
        have kW : Arw Z h2 kb2 kc2 .byte 17 own_by := Arw.ofArv kA2 (by decide) (fun _ _ => rfl)
        refine Goes.via (fun _ kk_ => XS.iloadN X2.here hx rfl (hb hby d2_33) rfl  kk_) ?_
        show Goes p e below _ (T2.setTop (mkF m 34 #[.val (.int c_)] [(.int c_), (.ref ka2)]))
        have f3 : Sta Z h2 "java/lang/String" "COMPACT_STRINGS" "Z" (.int cS) := (S3_java_lang_String_COMPACT_STRINGS_COMPACT_STRINGS.ext E2)
        have z5 : h0.size ≤ (h2).size := (Nat.le_trans (Nat.le_refl _) E2.1)
        obtain ⟨cq4, kq4, q4a, q4b, q4c⟩ := isOf hZ e2 kE2
        obtain ⟨_, _, ⟨T4, L4, k4, n4⟩, -, X4, ⟨Lc4, hQ4, l4, y4, z4⟩, st4⟩ := X2.virtualBack hx (y := (⟨"java/lang/String", "indexOf", "(I)I"⟩ : MethodName)) (z := (⟨"java/lang/String", "indexOf", "(I)I"⟩ : MethodName)) hown (mvT hZ (hw _ (List.mem_of_getElem? (i := 19) rfl))) (mvT hZ (hw _ (List.mem_of_getElem? (i := 20) rfl))) (notFace_of_selects (args := #[]) (mvT hZ (hw _ (List.mem_of_getElem? (i := 22) rfl)))) (mvT hZ (hw _ (List.mem_of_getElem? (i := 22) rfl))) (mvT hZ (hw _ (List.mem_of_getElem? (i := 21) rfl))) (by decide) (backOf (W := 0) (rm4 l Z a0 hw [] c_ ka2 kb2 kc2 cS h2 n0 (Nat.le_trans Z0 z5) kE2 kV2 kW f3 (by first | assumption | rfl | decide | omega | (simp; done)) kC2) hZ (hw _ (List.mem_of_getElem? (i := 23) rfl)) (hw _ (List.mem_of_getElem? (i := 12) rfl)) (by decide) (by decide)) q4a q4c (g := (mkF m 34 #[.val (.int c_)] [(.int c_), (.ref ka2)])) rfl (by rw [hml]; rfl) (Steps.refl _) (argsL := [(.int c_)]) (rest := []) (lenOf pd_6 rfl) rfl (by show 2 * 0 + _ ≤ _; exact Nat.le_of_eq rfl) (hb hby d2_34) (fun _ _ => ⟨rfl, e2, (by first | decide | omega | (dsimp only; omega) : 2 + 0 ≤ _), (by first | decide | omega | (dsimp only; omega) : 72 + 0 ≤ _)⟩)
        dsimp only [Pt.U, Pt.locs, Pt.cells, Pt.slots] at X4 l4 y4 z4 st4 hQ4
        subst l4 y4 z4
        obtain ⟨rfl, rfl, e4⟩ := hQ4
        first | rw [List.append_nil] at X4 | skip
        refine Goes.tr st4 ?_
        have e4' : T4.heap = h2 := e4
        have ne6 : ka2 ≠ kb2 := own_ne_arr kE2 (hw _ (List.mem_of_getElem? (i := 13) rfl)) kW
        show Goes p e below _ (T4.setTop (mkF m 37 #[.val (.int c_)] [(.int (own_io c_))]))
        by_cases hc37 : (own_io c_) < (0 : Int32)
        · skip
          refine Goes.via (fun _ kk_ => XS.ifYes X4.here hx rfl (pc0 := 37) (pc' := 44) rfl (hb hby d2_37) rfl ((if0 _ _).trans (tlt hc37).1) (by decide) (by decide) kk_) ?_
          show Goes p e below _ (T4.setTop (mkF m 44 #[.val (.int c_)] []))
          refine Goes.via (fun _ kk_ => XS.iconst X4.here hx rfl (hb hby d2_44) kk_) ?_
          show Goes p e below _ (T4.setTop (mkF m 45 #[.val (.int c_)] [(.int (0 : Int32))]))
          have K7 : Keep h0 h2 [] := ((Keep.refl h0 []).ext E2)
          have hKe : KS Z own_KL T4.vm T4.heap := by rw [e4']; exact Ks2.at_ (s := s) X4.warmed
          exact own_wfinN X4 SI2 (by rw [e4']; exact sk2) (fun U_ hv hh_ => by show KS Z own_KL U_.vm U_.heap; rw [hv, hh_]; exact hKe) hx hlk hret (by simp) (hb hby d2_45) (by rw [e4']; exact ⟨(by first | (rw [own_sym, if_pos hc3, if_pos hc15, if_pos hc28, if_pos hc37]; done) | (rw [own_sym, if_pos hc3, if_pos hc15, if_pos hc28, if_pos hc37]; rfl)), N0, K7⟩) (by first | decide | omega | (dsimp only; omega)) (by first | decide | omega | (dsimp only; omega))
        · skip
          refine Goes.via (fun _ kk_ => XS.ifNo X4.here hx rfl (hb hby d2_37) rfl ((if0 _ _).trans (flt hc37).1) kk_) ?_
          show Goes p e below _ (T4.setTop (mkF m 40 #[.val (.int c_)] []))
          refine Goes.via (fun _ kk_ => XS.iconst X4.here hx rfl (hb hby d2_40) kk_) ?_
          show Goes p e below _ (T4.setTop (mkF m 41 #[.val (.int c_)] [(.int (1 : Int32))]))
          refine Goes.via (fun _ kk_ => XS.goto X4.here hx rfl (pc0 := 41) (pc' := 45) rfl (hb hby d2_41) (by decide) (by decide) kk_) ?_
          show Goes p e below _ (T4.setTop (mkF m 45 #[.val (.int c_)] [(.int (1 : Int32))]))
          have K8 : Keep h0 h2 [] := ((Keep.refl h0 []).ext E2)
          have hKe : KS Z own_KL T4.vm T4.heap := by rw [e4']; exact Ks2.at_ (s := s) X4.warmed
          exact own_wfinN X4 SI2 (by rw [e4']; exact sk2) (fun U_ hv hh_ => by show KS Z own_KL U_.vm U_.heap; rw [hv, hh_]; exact hKe) hx hlk hret (by simp) (hb hby d2_45) (by rw [e4']; exact ⟨(by first | (rw [own_sym, if_pos hc3, if_pos hc15, if_pos hc28, if_neg hc37]; done) | (rw [own_sym, if_pos hc3, if_pos hc15, if_pos hc28, if_neg hc37]; rfl)), N0, K8⟩) (by first | decide | omega | (dsimp only; omega)) (by first | decide | omega | (dsimp only; omega))
      · skip
        refine Goes.via (fun _ kk_ => XS.ifYes X1.here hx rfl (pc0 := 28) (pc' := 40) rfl (hb hby d2_28) rfl ((if0 _ _).trans (feq hc28).2) (by decide) (by decide) kk_) ?_
        show Goes p e below _ (T1.setTop (mkF m 40 #[.val (.int c_)] []))
        refine Goes.via (fun _ kk_ => XS.iconst X1.here hx rfl (hb hby d2_40) kk_) ?_
        show Goes p e below _ (T1.setTop (mkF m 41 #[.val (.int c_)] [(.int (1 : Int32))]))
        refine Goes.via (fun _ kk_ => XS.goto X1.here hx rfl (pc0 := 41) (pc' := 45) rfl (hb hby d2_41) (by decide) (by decide) kk_) ?_
        show Goes p e below _ (T1.setTop (mkF m 45 #[.val (.int c_)] [(.int (1 : Int32))]))
        have hKe : KS Z own_KL T1.vm T1.heap := by rw [e1']; exact Ks0.at_ (s := s) X1.warmed
        exact own_wfinN X1 SI0 (by rw [e1']; exact (Nat.zero_le _)) (fun U_ hv hh_ => by show KS Z own_KL U_.vm U_.heap; rw [hv, hh_]; exact hKe) hx hlk hret (by simp) (hb hby d2_45) (by rw [e1']; exact ⟨(by first | (rw [own_sym, if_pos hc3, if_pos hc15, if_neg hc28]; done) | (rw [own_sym, if_pos hc3, if_pos hc15, if_neg hc28]; rfl)), N0, (Keep.refl h0 [])⟩) (by first | decide | omega | (dsimp only; omega)) (by first | decide | omega | (dsimp only; omega))
    · skip
      refine Goes.via (fun _ kk_ => XS.icmpNo X0.here hx rfl (hb hby d2_15) rfl (flt hc15).1 kk_) ?_
      show Goes p e below _ (s₁.setTop (mkF m 18 #[.val (.int c_)] []))
      refine Goes.via (fun _ kk_ => XS.iloadN X0.here hx rfl (hb hby d2_18) rfl  kk_) ?_
      show Goes p e below _ (s₁.setTop (mkF m 19 #[.val (.int c_)] [(.int c_)]))
      refine Goes.via (fun _ kk_ => XS.bipush X0.here hx rfl (hb hby d2_19) kk_) ?_
      show Goes p e below _ (s₁.setTop (mkF m 21 #[.val (.int c_)] [(.int (90 : Int32)), (.int c_)]))
      by_cases hc21 : (90 : Int32) < c_
      · skip
        refine Goes.via (fun _ kk_ => XS.icmpNo X0.here hx rfl (hb hby d2_21) rfl (tlt hc21).2.2.2 kk_) ?_
        show Goes p e below _ (s₁.setTop (mkF m 24 #[.val (.int c_)] []))
        refine Goes.via (fun _ kk_ => XS.iloadN X0.here hx rfl (hb hby d2_24) rfl  kk_) ?_
        show Goes p e below _ (s₁.setTop (mkF m 25 #[.val (.int c_)] [(.int c_)]))
        obtain ⟨_, _, ⟨T9, L9, k9, n9⟩, -, X9, ⟨Lc9, hQ9, l9, y9, z9⟩, st9⟩ := Jvm.LawKit.callS X0 hx (y := (⟨"com/example/map_rewriter/maprewriter/core/Symbol", "isDigit", "(I)Z"⟩ : MethodName)) hown (mvT hZ (hw _ (List.mem_of_getElem? (i := 8) rfl))) (mvT hZ (hw _ (List.mem_of_getElem? (i := 9) rfl))) (mvT hZ (hw _ (List.mem_of_getElem? (i := 6) rfl))) (mvT hZ (hw _ (List.mem_of_getElem? (i := 10) rfl))) (by decide) (backOf (W := 0) (rm3 l Z a0 hw [] c_ h0 n0 (Nat.le_trans Z0 (Nat.le_refl _)) ) hZ (hw _ (List.mem_of_getElem? (i := 10) rfl)) (hw _ (List.mem_of_getElem? (i := 6) rfl)) (by decide) (by decide)) (g := (mkF m 25 #[.val (.int c_)] [(.int c_)])) rfl (by rw [hml]; rfl) (argsL := [(.int c_)]) (rest := []) (lenOf pd_1 rfl) rfl (by show 2 * 0 + _ ≤ _; exact Nat.le_of_eq rfl) (hb hby d2_25) (fun _ _ => ⟨rfl, e0, (by first | decide | omega | (dsimp only; omega) : 0 + 0 ≤ _), (by first | decide | omega | (dsimp only; omega) : 0 + 0 ≤ _)⟩)
        dsimp only [Pt.U, Pt.locs, Pt.cells, Pt.slots] at X9 l9 y9 z9 st9 hQ9
        subst l9 y9 z9
        obtain ⟨rfl, rfl, e9⟩ := hQ9
        first | rw [List.append_nil] at X9 | skip
        refine Goes.via st9 ?_
        have e9' : T9.heap = h0 := e9
        show Goes p e below _ (T9.setTop (mkF m 28 #[.val (.int c_)] [(.int (own_dig c_))]))
        by_cases hc28 : (own_dig c_) = (0 : Int32)
        · skip
          refine Goes.via (fun _ kk_ => XS.ifNo X9.here hx rfl (hb hby d2_28) rfl ((if0 _ _).trans (teq hc28).2) kk_) ?_
          show Goes p e below _ (T9.setTop (mkF m 31 #[.val (.int c_)] []))
          obtain ⟨ka10, T10, h10, vm10, k110, kb10, kc10, X10, e10, E10, SI10, sk10, hZ, hown, kE10, kC10, kV10, kA10, kL10, Ks10, st10⟩ := own_ldcK (KL := own_KL) (z := (17 : Int32)) (vs := [(.int 126), (.int 33), (.int 64), (.int 36), (.int 37), (.int 94), (.int 38), (.int 42), (.int 95), (.int 45), (.int 43), (.int 61), (.int 60), (.int 62), (.int 46), (.int 63), (.int 47)]) X9 hx hZ hown (hw _ (List.mem_of_getElem? (i := 11) rfl)) (fun d hd => hw d ((by decide +kernel : ∀ d ∈ Bundle.stringAtoms, d ∈ tables_1) d hd)) e9' SI0 (Nat.zero_le _) (Fr.nil _) (by rw [hh]; exact HO.2.2) Ks0 (by simp [own_KL]) (by decide +kernel) HC HW (by decide +kernel) (by decide) (by decide) (g := (mkF m 31 #[.val (.int c_)] [])) rfl (hb hby d2_31) (n := 68) (by decide +kernel) (by decide) (by first | decide | omega | (dsimp only; omega)) (by first | decide | omega | (dsimp only; omega))
          refine Goes.via st10 ?_
          show Goes p e below _ (T10.setTop (mkF m 33 #[.val (.int c_)] [(.ref ka10)]))
          have kW : Arw Z h10 kb10 kc10 .byte 17 own_by := Arw.ofArv kA10 (by decide) (fun _ _ => rfl)
          refine Goes.via (fun _ kk_ => XS.iloadN X10.here hx rfl (hb hby d2_33) rfl  kk_) ?_
          show Goes p e below _ (T10.setTop (mkF m 34 #[.val (.int c_)] [(.int c_), (.ref ka10)]))
          have f11 : Sta Z h10 "java/lang/String" "COMPACT_STRINGS" "Z" (.int cS) := (S3_java_lang_String_COMPACT_STRINGS_COMPACT_STRINGS.ext E10)
          have z13 : h0.size ≤ (h10).size := (Nat.le_trans (Nat.le_refl _) E10.1)
          obtain ⟨cq12, kq12, q12a, q12b, q12c⟩ := isOf hZ e10 kE10
          obtain ⟨_, _, ⟨T12, L12, k12, n12⟩, -, X12, ⟨Lc12, hQ12, l12, y12, z12⟩, st12⟩ := X10.virtualBack hx (y := (⟨"java/lang/String", "indexOf", "(I)I"⟩ : MethodName)) (z := (⟨"java/lang/String", "indexOf", "(I)I"⟩ : MethodName)) hown (mvT hZ (hw _ (List.mem_of_getElem? (i := 19) rfl))) (mvT hZ (hw _ (List.mem_of_getElem? (i := 20) rfl))) (notFace_of_selects (args := #[]) (mvT hZ (hw _ (List.mem_of_getElem? (i := 22) rfl)))) (mvT hZ (hw _ (List.mem_of_getElem? (i := 22) rfl))) (mvT hZ (hw _ (List.mem_of_getElem? (i := 21) rfl))) (by decide) (backOf (W := 0) (rm4 l Z a0 hw [] c_ ka10 kb10 kc10 cS h10 n0 (Nat.le_trans Z0 z13) kE10 kV10 kW f11 (by first | assumption | rfl | decide | omega | (simp; done)) kC10) hZ (hw _ (List.mem_of_getElem? (i := 23) rfl)) (hw _ (List.mem_of_getElem? (i := 12) rfl)) (by decide) (by decide)) q12a q12c (g := (mkF m 34 #[.val (.int c_)] [(.int c_), (.ref ka10)])) rfl (by rw [hml]; rfl) (Steps.refl _) (argsL := [(.int c_)]) (rest := []) (lenOf pd_6 rfl) rfl (by show 2 * 0 + _ ≤ _; exact Nat.le_of_eq rfl) (hb hby d2_34) (fun _ _ => ⟨rfl, e10, (by first | decide | omega | (dsimp only; omega) : 2 + 0 ≤ _), (by first | decide | omega | (dsimp only; omega) : 72 + 0 ≤ _)⟩)
          dsimp only [Pt.U, Pt.locs, Pt.cells, Pt.slots] at X12 l12 y12 z12 st12 hQ12
          subst l12 y12 z12
          obtain ⟨rfl, rfl, e12⟩ := hQ12
          first | rw [List.append_nil] at X12 | skip
          refine Goes.tr st12 ?_
          have e12' : T12.heap = h10 := e12
          have ne14 : ka10 ≠ kb10 := own_ne_arr kE10 (hw _ (List.mem_of_getElem? (i := 13) rfl)) kW
          show Goes p e below _ (T12.setTop (mkF m 37 #[.val (.int c_)] [(.int (own_io c_))]))
          by_cases hc37 : (own_io c_) < (0 : Int32)
          · skip
            refine Goes.via (fun _ kk_ => XS.ifYes X12.here hx rfl (pc0 := 37) (pc' := 44) rfl (hb hby d2_37) rfl ((if0 _ _).trans (tlt hc37).1) (by decide) (by decide) kk_) ?_
            show Goes p e below _ (T12.setTop (mkF m 44 #[.val (.int c_)] []))
            refine Goes.via (fun _ kk_ => XS.iconst X12.here hx rfl (hb hby d2_44) kk_) ?_
            show Goes p e below _ (T12.setTop (mkF m 45 #[.val (.int c_)] [(.int (0 : Int32))]))
            have K15 : Keep h0 h10 [] := ((Keep.refl h0 []).ext E10)
            have hKe : KS Z own_KL T12.vm T12.heap := by rw [e12']; exact Ks10.at_ (s := s) X12.warmed
            exact own_wfinN X12 SI10 (by rw [e12']; exact sk10) (fun U_ hv hh_ => by show KS Z own_KL U_.vm U_.heap; rw [hv, hh_]; exact hKe) hx hlk hret (by simp) (hb hby d2_45) (by rw [e12']; exact ⟨(by first | (rw [own_sym, if_pos hc3, if_neg hc15, if_pos hc21, if_pos hc28, if_pos hc37]; done) | (rw [own_sym, if_pos hc3, if_neg hc15, if_pos hc21, if_pos hc28, if_pos hc37]; rfl)), N0, K15⟩) (by first | decide | omega | (dsimp only; omega)) (by first | decide | omega | (dsimp only; omega))
          · skip
            refine Goes.via (fun _ kk_ => XS.ifNo X12.here hx rfl (hb hby d2_37) rfl ((if0 _ _).trans (flt hc37).1) kk_) ?_
            show Goes p e below _ (T12.setTop (mkF m 40 #[.val (.int c_)] []))
            refine Goes.via (fun _ kk_ => XS.iconst X12.here hx rfl (hb hby d2_40) kk_) ?_
            show Goes p e below _ (T12.setTop (mkF m 41 #[.val (.int c_)] [(.int (1 : Int32))]))
            refine Goes.via (fun _ kk_ => XS.goto X12.here hx rfl (pc0 := 41) (pc' := 45) rfl (hb hby d2_41) (by decide) (by decide) kk_) ?_
            show Goes p e below _ (T12.setTop (mkF m 45 #[.val (.int c_)] [(.int (1 : Int32))]))
            have K16 : Keep h0 h10 [] := ((Keep.refl h0 []).ext E10)
            have hKe : KS Z own_KL T12.vm T12.heap := by rw [e12']; exact Ks10.at_ (s := s) X12.warmed
            exact own_wfinN X12 SI10 (by rw [e12']; exact sk10) (fun U_ hv hh_ => by show KS Z own_KL U_.vm U_.heap; rw [hv, hh_]; exact hKe) hx hlk hret (by simp) (hb hby d2_45) (by rw [e12']; exact ⟨(by first | (rw [own_sym, if_pos hc3, if_neg hc15, if_pos hc21, if_pos hc28, if_neg hc37]; done) | (rw [own_sym, if_pos hc3, if_neg hc15, if_pos hc21, if_pos hc28, if_neg hc37]; rfl)), N0, K16⟩) (by first | decide | omega | (dsimp only; omega)) (by first | decide | omega | (dsimp only; omega))
        · skip
          refine Goes.via (fun _ kk_ => XS.ifYes X9.here hx rfl (pc0 := 28) (pc' := 40) rfl (hb hby d2_28) rfl ((if0 _ _).trans (feq hc28).2) (by decide) (by decide) kk_) ?_
          show Goes p e below _ (T9.setTop (mkF m 40 #[.val (.int c_)] []))
          refine Goes.via (fun _ kk_ => XS.iconst X9.here hx rfl (hb hby d2_40) kk_) ?_
          show Goes p e below _ (T9.setTop (mkF m 41 #[.val (.int c_)] [(.int (1 : Int32))]))
          refine Goes.via (fun _ kk_ => XS.goto X9.here hx rfl (pc0 := 41) (pc' := 45) rfl (hb hby d2_41) (by decide) (by decide) kk_) ?_
          show Goes p e below _ (T9.setTop (mkF m 45 #[.val (.int c_)] [(.int (1 : Int32))]))
          have hKe : KS Z own_KL T9.vm T9.heap := by rw [e9']; exact Ks0.at_ (s := s) X9.warmed
          exact own_wfinN X9 SI0 (by rw [e9']; exact (Nat.zero_le _)) (fun U_ hv hh_ => by show KS Z own_KL U_.vm U_.heap; rw [hv, hh_]; exact hKe) hx hlk hret (by simp) (hb hby d2_45) (by rw [e9']; exact ⟨(by first | (rw [own_sym, if_pos hc3, if_neg hc15, if_pos hc21, if_neg hc28]; done) | (rw [own_sym, if_pos hc3, if_neg hc15, if_pos hc21, if_neg hc28]; rfl)), N0, (Keep.refl h0 [])⟩) (by first | decide | omega | (dsimp only; omega)) (by first | decide | omega | (dsimp only; omega))
      · skip
        refine Goes.via (fun _ kk_ => XS.icmpYes X0.here hx rfl (pc0 := 21) (pc' := 40) rfl (hb hby d2_21) rfl (flt hc21).2.2.2 (by decide) (by decide) kk_) ?_
        show Goes p e below _ (s₁.setTop (mkF m 40 #[.val (.int c_)] []))
        refine Goes.via (fun _ kk_ => XS.iconst X0.here hx rfl (hb hby d2_40) kk_) ?_
        show Goes p e below _ (s₁.setTop (mkF m 41 #[.val (.int c_)] [(.int (1 : Int32))]))
        refine Goes.via (fun _ kk_ => XS.goto X0.here hx rfl (pc0 := 41) (pc' := 45) rfl (hb hby d2_41) (by decide) (by decide) kk_) ?_
        show Goes p e below _ (s₁.setTop (mkF m 45 #[.val (.int c_)] [(.int (1 : Int32))]))
        have hKe : KS Z own_KL s₁.vm s₁.heap := by rw [e0]; exact Ks0.at_ (s := s) X0.warmed
        exact own_wfinN X0 SI0 (by rw [e0]; exact (Nat.zero_le _)) (fun U_ hv hh_ => by show KS Z own_KL U_.vm U_.heap; rw [hv, hh_]; exact hKe) hx hlk hret (by simp) (hb hby d2_45) (by rw [e0]; exact ⟨(by first | (rw [own_sym, if_pos hc3, if_neg hc15, if_neg hc21]; done) | (rw [own_sym, if_pos hc3, if_neg hc15, if_neg hc21]; rfl)), N0, (Keep.refl h0 [])⟩) (by first | decide | omega | (dsimp only; omega)) (by first | decide | omega | (dsimp only; omega))
  · skip
    refine Goes.via (fun _ kk_ => XS.icmpNo X0.here hx rfl (hb hby d2_3) rfl (flt hc3).1 kk_) ?_
    show Goes p e below _ (s₁.setTop (mkF m 6 #[.val (.int c_)] []))
    refine Goes.via (fun _ kk_ => XS.iloadN X0.here hx rfl (hb hby d2_6) rfl  kk_) ?_
    show Goes p e below _ (s₁.setTop (mkF m 7 #[.val (.int c_)] [(.int c_)]))
    refine Goes.via (fun _ kk_ => XS.bipush X0.here hx rfl (hb hby d2_7) kk_) ?_
    show Goes p e below _ (s₁.setTop (mkF m 9 #[.val (.int c_)] [(.int (122 : Int32)), (.int c_)]))
    by_cases hc9 : (122 : Int32) < c_
    · skip
      refine Goes.via (fun _ kk_ => XS.icmpNo X0.here hx rfl (hb hby d2_9) rfl (tlt hc9).2.2.2 kk_) ?_
      show Goes p e below _ (s₁.setTop (mkF m 12 #[.val (.int c_)] []))
      refine Goes.via (fun _ kk_ => XS.iloadN X0.here hx rfl (hb hby d2_12) rfl  kk_) ?_
      show Goes p e below _ (s₁.setTop (mkF m 13 #[.val (.int c_)] [(.int c_)]))
      refine Goes.via (fun _ kk_ => XS.bipush X0.here hx rfl (hb hby d2_13) kk_) ?_
      show Goes p e below _ (s₁.setTop (mkF m 15 #[.val (.int c_)] [(.int (65 : Int32)), (.int c_)]))
      by_cases hc15 : c_ < (65 : Int32)
      · skip
        refine Goes.via (fun _ kk_ => XS.icmpYes X0.here hx rfl (pc0 := 15) (pc' := 24) rfl (hb hby d2_15) rfl (tlt hc15).1 (by decide) (by decide) kk_) ?_
        show Goes p e below _ (s₁.setTop (mkF m 24 #[.val (.int c_)] []))
        refine Goes.via (fun _ kk_ => XS.iloadN X0.here hx rfl (hb hby d2_24) rfl  kk_) ?_
        show Goes p e below _ (s₁.setTop (mkF m 25 #[.val (.int c_)] [(.int c_)]))
        obtain ⟨_, _, ⟨T17, L17, k17, n17⟩, -, X17, ⟨Lc17, hQ17, l17, y17, z17⟩, st17⟩ := Jvm.LawKit.callS X0 hx (y := (⟨"com/example/map_rewriter/maprewriter/core/Symbol", "isDigit", "(I)Z"⟩ : MethodName)) hown (mvT hZ (hw _ (List.mem_of_getElem? (i := 8) rfl))) (mvT hZ (hw _ (List.mem_of_getElem? (i := 9) rfl))) (mvT hZ (hw _ (List.mem_of_getElem? (i := 6) rfl))) (mvT hZ (hw _ (List.mem_of_getElem? (i := 10) rfl))) (by decide) (backOf (W := 0) (rm3 l Z a0 hw [] c_ h0 n0 (Nat.le_trans Z0 (Nat.le_refl _)) ) hZ (hw _ (List.mem_of_getElem? (i := 10) rfl)) (hw _ (List.mem_of_getElem? (i := 6) rfl)) (by decide) (by decide)) (g := (mkF m 25 #[.val (.int c_)] [(.int c_)])) rfl (by rw [hml]; rfl) (argsL := [(.int c_)]) (rest := []) (lenOf pd_1 rfl) rfl (by show 2 * 0 + _ ≤ _; exact Nat.le_of_eq rfl) (hb hby d2_25) (fun _ _ => ⟨rfl, e0, (by first | decide | omega | (dsimp only; omega) : 0 + 0 ≤ _), (by first | decide | omega | (dsimp only; omega) : 0 + 0 ≤ _)⟩)
        dsimp only [Pt.U, Pt.locs, Pt.cells, Pt.slots] at X17 l17 y17 z17 st17 hQ17
        subst l17 y17 z17
        obtain ⟨rfl, rfl, e17⟩ := hQ17
        first | rw [List.append_nil] at X17 | skip
        refine Goes.via st17 ?_
        have e17' : T17.heap = h0 := e17
        show Goes p e below _ (T17.setTop (mkF m 28 #[.val (.int c_)] [(.int (own_dig c_))]))
        by_cases hc28 : (own_dig c_) = (0 : Int32)
        · skip
          refine Goes.via (fun _ kk_ => XS.ifNo X17.here hx rfl (hb hby d2_28) rfl ((if0 _ _).trans (teq hc28).2) kk_) ?_
          show Goes p e below _ (T17.setTop (mkF m 31 #[.val (.int c_)] []))
          obtain ⟨ka18, T18, h18, vm18, k118, kb18, kc18, X18, e18, E18, SI18, sk18, hZ, hown, kE18, kC18, kV18, kA18, kL18, Ks18, st18⟩ := own_ldcK (KL := own_KL) (z := (17 : Int32)) (vs := [(.int 126), (.int 33), (.int 64), (.int 36), (.int 37), (.int 94), (.int 38), (.int 42), (.int 95), (.int 45), (.int 43), (.int 61), (.int 60), (.int 62), (.int 46), (.int 63), (.int 47)]) X17 hx hZ hown (hw _ (List.mem_of_getElem? (i := 11) rfl)) (fun d hd => hw d ((by decide +kernel : ∀ d ∈ Bundle.stringAtoms, d ∈ tables_1) d hd)) e17' SI0 (Nat.zero_le _) (Fr.nil _) (by rw [hh]; exact HO.2.2) Ks0 (by simp [own_KL]) (by decide +kernel) HC HW (by decide +kernel) (by decide) (by decide) (g := (mkF m 31 #[.val (.int c_)] [])) rfl (hb hby d2_31) (n := 68) (by decide +kernel) (by decide) (by first | decide | omega | (dsimp only; omega)) (by first | decide | omega | (dsimp only; omega))
          refine Goes.via st18 ?_
          show Goes p e below _ (T18.setTop (mkF m 33 #[.val (.int c_)] [(.ref ka18)]))
          have kW : Arw Z h18 kb18 kc18 .byte 17 own_by := Arw.ofArv kA18 (by decide) (fun _ _ => rfl)
          refine Goes.via (fun _ kk_ => XS.iloadN X18.here hx rfl (hb hby d2_33) rfl  kk_) ?_
          show Goes p e below _ (T18.setTop (mkF m 34 #[.val (.int c_)] [(.int c_), (.ref ka18)]))
          have f19 : Sta Z h18 "java/lang/String" "COMPACT_STRINGS" "Z" (.int cS) := (S3_java_lang_String_COMPACT_STRINGS_COMPACT_STRINGS.ext E18)
          have z21 : h0.size ≤ (h18).size := (Nat.le_trans (Nat.le_refl _) E18.1)
          obtain ⟨cq20, kq20, q20a, q20b, q20c⟩ := isOf hZ e18 kE18
          obtain ⟨_, _, ⟨T20, L20, k20, n20⟩, -, X20, ⟨Lc20, hQ20, l20, y20, z20⟩, st20⟩ := X18.virtualBack hx (y := (⟨"java/lang/String", "indexOf", "(I)I"⟩ : MethodName)) (z := (⟨"java/lang/String", "indexOf", "(I)I"⟩ : MethodName)) hown (mvT hZ (hw _ (List.mem_of_getElem? (i := 19) rfl))) (mvT hZ (hw _ (List.mem_of_getElem? (i := 20) rfl))) (notFace_of_selects (args := #[]) (mvT hZ (hw _ (List.mem_of_getElem? (i := 22) rfl)))) (mvT hZ (hw _ (List.mem_of_getElem? (i := 22) rfl))) (mvT hZ (hw _ (List.mem_of_getElem? (i := 21) rfl))) (by decide) (backOf (W := 0) (rm4 l Z a0 hw [] c_ ka18 kb18 kc18 cS h18 n0 (Nat.le_trans Z0 z21) kE18 kV18 kW f19 (by first | assumption | rfl | decide | omega | (simp; done)) kC18) hZ (hw _ (List.mem_of_getElem? (i := 23) rfl)) (hw _ (List.mem_of_getElem? (i := 12) rfl)) (by decide) (by decide)) q20a q20c (g := (mkF m 34 #[.val (.int c_)] [(.int c_), (.ref ka18)])) rfl (by rw [hml]; rfl) (Steps.refl _) (argsL := [(.int c_)]) (rest := []) (lenOf pd_6 rfl) rfl (by show 2 * 0 + _ ≤ _; exact Nat.le_of_eq rfl) (hb hby d2_34) (fun _ _ => ⟨rfl, e18, (by first | decide | omega | (dsimp only; omega) : 2 + 0 ≤ _), (by first | decide | omega | (dsimp only; omega) : 72 + 0 ≤ _)⟩)
          dsimp only [Pt.U, Pt.locs, Pt.cells, Pt.slots] at X20 l20 y20 z20 st20 hQ20
          subst l20 y20 z20
          obtain ⟨rfl, rfl, e20⟩ := hQ20
          first | rw [List.append_nil] at X20 | skip
          refine Goes.tr st20 ?_
          have e20' : T20.heap = h18 := e20
          have ne22 : ka18 ≠ kb18 := own_ne_arr kE18 (hw _ (List.mem_of_getElem? (i := 13) rfl)) kW
          show Goes p e below _ (T20.setTop (mkF m 37 #[.val (.int c_)] [(.int (own_io c_))]))
          by_cases hc37 : (own_io c_) < (0 : Int32)
          · skip
            refine Goes.via (fun _ kk_ => XS.ifYes X20.here hx rfl (pc0 := 37) (pc' := 44) rfl (hb hby d2_37) rfl ((if0 _ _).trans (tlt hc37).1) (by decide) (by decide) kk_) ?_
            show Goes p e below _ (T20.setTop (mkF m 44 #[.val (.int c_)] []))
            refine Goes.via (fun _ kk_ => XS.iconst X20.here hx rfl (hb hby d2_44) kk_) ?_
            show Goes p e below _ (T20.setTop (mkF m 45 #[.val (.int c_)] [(.int (0 : Int32))]))
            have K23 : Keep h0 h18 [] := ((Keep.refl h0 []).ext E18)
            have hKe : KS Z own_KL T20.vm T20.heap := by rw [e20']; exact Ks18.at_ (s := s) X20.warmed
            exact own_wfinN X20 SI18 (by rw [e20']; exact sk18) (fun U_ hv hh_ => by show KS Z own_KL U_.vm U_.heap; rw [hv, hh_]; exact hKe) hx hlk hret (by simp) (hb hby d2_45) (by rw [e20']; exact ⟨(by first | (rw [own_sym, if_neg hc3, if_pos hc9, if_pos hc15, if_pos hc28, if_pos hc37]; done) | (rw [own_sym, if_neg hc3, if_pos hc9, if_pos hc15, if_pos hc28, if_pos hc37]; rfl)), N0, K23⟩) (by first | decide | omega | (dsimp only; omega)) (by first | decide | omega | (dsimp only; omega))
          · skip
            refine Goes.via (fun _ kk_ => XS.ifNo X20.here hx rfl (hb hby d2_37) rfl ((if0 _ _).trans (flt hc37).1) kk_) ?_
            show Goes p e below _ (T20.setTop (mkF m 40 #[.val (.int c_)] []))
            refine Goes.via (fun _ kk_ => XS.iconst X20.here hx rfl (hb hby d2_40) kk_) ?_
            show Goes p e below _ (T20.setTop (mkF m 41 #[.val (.int c_)] [(.int (1 : Int32))]))
            refine Goes.via (fun _ kk_ => XS.goto X20.here hx rfl (pc0 := 41) (pc' := 45) rfl (hb hby d2_41) (by decide) (by decide) kk_) ?_
            show Goes p e below _ (T20.setTop (mkF m 45 #[.val (.int c_)] [(.int (1 : Int32))]))
            have K24 : Keep h0 h18 [] := ((Keep.refl h0 []).ext E18)
            have hKe : KS Z own_KL T20.vm T20.heap := by rw [e20']; exact Ks18.at_ (s := s) X20.warmed
            exact own_wfinN X20 SI18 (by rw [e20']; exact sk18) (fun U_ hv hh_ => by show KS Z own_KL U_.vm U_.heap; rw [hv, hh_]; exact hKe) hx hlk hret (by simp) (hb hby d2_45) (by rw [e20']; exact ⟨(by first | (rw [own_sym, if_neg hc3, if_pos hc9, if_pos hc15, if_pos hc28, if_neg hc37]; done) | (rw [own_sym, if_neg hc3, if_pos hc9, if_pos hc15, if_pos hc28, if_neg hc37]; rfl)), N0, K24⟩) (by first | decide | omega | (dsimp only; omega)) (by first | decide | omega | (dsimp only; omega))
        · skip
          refine Goes.via (fun _ kk_ => XS.ifYes X17.here hx rfl (pc0 := 28) (pc' := 40) rfl (hb hby d2_28) rfl ((if0 _ _).trans (feq hc28).2) (by decide) (by decide) kk_) ?_
          show Goes p e below _ (T17.setTop (mkF m 40 #[.val (.int c_)] []))
          refine Goes.via (fun _ kk_ => XS.iconst X17.here hx rfl (hb hby d2_40) kk_) ?_
          show Goes p e below _ (T17.setTop (mkF m 41 #[.val (.int c_)] [(.int (1 : Int32))]))
          refine Goes.via (fun _ kk_ => XS.goto X17.here hx rfl (pc0 := 41) (pc' := 45) rfl (hb hby d2_41) (by decide) (by decide) kk_) ?_
          show Goes p e below _ (T17.setTop (mkF m 45 #[.val (.int c_)] [(.int (1 : Int32))]))
          have hKe : KS Z own_KL T17.vm T17.heap := by rw [e17']; exact Ks0.at_ (s := s) X17.warmed
          exact own_wfinN X17 SI0 (by rw [e17']; exact (Nat.zero_le _)) (fun U_ hv hh_ => by show KS Z own_KL U_.vm U_.heap; rw [hv, hh_]; exact hKe) hx hlk hret (by simp) (hb hby d2_45) (by rw [e17']; exact ⟨(by first | (rw [own_sym, if_neg hc3, if_pos hc9, if_pos hc15, if_neg hc28]; done) | (rw [own_sym, if_neg hc3, if_pos hc9, if_pos hc15, if_neg hc28]; rfl)), N0, (Keep.refl h0 [])⟩) (by first | decide | omega | (dsimp only; omega)) (by first | decide | omega | (dsimp only; omega))
      · skip
        refine Goes.via (fun _ kk_ => XS.icmpNo X0.here hx rfl (hb hby d2_15) rfl (flt hc15).1 kk_) ?_
        show Goes p e below _ (s₁.setTop (mkF m 18 #[.val (.int c_)] []))
        refine Goes.via (fun _ kk_ => XS.iloadN X0.here hx rfl (hb hby d2_18) rfl  kk_) ?_
        show Goes p e below _ (s₁.setTop (mkF m 19 #[.val (.int c_)] [(.int c_)]))
        refine Goes.via (fun _ kk_ => XS.bipush X0.here hx rfl (hb hby d2_19) kk_) ?_
        show Goes p e below _ (s₁.setTop (mkF m 21 #[.val (.int c_)] [(.int (90 : Int32)), (.int c_)]))
        by_cases hc21 : (90 : Int32) < c_
        · skip
          refine Goes.via (fun _ kk_ => XS.icmpNo X0.here hx rfl (hb hby d2_21) rfl (tlt hc21).2.2.2 kk_) ?_
          show Goes p e below _ (s₁.setTop (mkF m 24 #[.val (.int c_)] []))
          refine Goes.via (fun _ kk_ => XS.iloadN X0.here hx rfl (hb hby d2_24) rfl  kk_) ?_
          show Goes p e below _ (s₁.setTop (mkF m 25 #[.val (.int c_)] [(.int c_)]))
          obtain ⟨_, _, ⟨T25, L25, k25, n25⟩, -, X25, ⟨Lc25, hQ25, l25, y25, z25⟩, st25⟩ := Jvm.LawKit.callS X0 hx (y := (⟨"com/example/map_rewriter/maprewriter/core/Symbol", "isDigit", "(I)Z"⟩ : MethodName)) hown (mvT hZ (hw _ (List.mem_of_getElem? (i := 8) rfl))) (mvT hZ (hw _ (List.mem_of_getElem? (i := 9) rfl))) (mvT hZ (hw _ (List.mem_of_getElem? (i := 6) rfl))) (mvT hZ (hw _ (List.mem_of_getElem? (i := 10) rfl))) (by decide) (backOf (W := 0) (rm3 l Z a0 hw [] c_ h0 n0 (Nat.le_trans Z0 (Nat.le_refl _)) ) hZ (hw _ (List.mem_of_getElem? (i := 10) rfl)) (hw _ (List.mem_of_getElem? (i := 6) rfl)) (by decide) (by decide)) (g := (mkF m 25 #[.val (.int c_)] [(.int c_)])) rfl (by rw [hml]; rfl) (argsL := [(.int c_)]) (rest := []) (lenOf pd_1 rfl) rfl (by show 2 * 0 + _ ≤ _; exact Nat.le_of_eq rfl) (hb hby d2_25) (fun _ _ => ⟨rfl, e0, (by first | decide | omega | (dsimp only; omega) : 0 + 0 ≤ _), (by first | decide | omega | (dsimp only; omega) : 0 + 0 ≤ _)⟩)
          dsimp only [Pt.U, Pt.locs, Pt.cells, Pt.slots] at X25 l25 y25 z25 st25 hQ25
          subst l25 y25 z25
          obtain ⟨rfl, rfl, e25⟩ := hQ25
          first | rw [List.append_nil] at X25 | skip
          refine Goes.via st25 ?_
          have e25' : T25.heap = h0 := e25
          show Goes p e below _ (T25.setTop (mkF m 28 #[.val (.int c_)] [(.int (own_dig c_))]))
          by_cases hc28 : (own_dig c_) = (0 : Int32)
          · skip
            refine Goes.via (fun _ kk_ => XS.ifNo X25.here hx rfl (hb hby d2_28) rfl ((if0 _ _).trans (teq hc28).2) kk_) ?_
            show Goes p e below _ (T25.setTop (mkF m 31 #[.val (.int c_)] []))
            obtain ⟨ka26, T26, h26, vm26, k126, kb26, kc26, X26, e26, E26, SI26, sk26, hZ, hown, kE26, kC26, kV26, kA26, kL26, Ks26, st26⟩ := own_ldcK (KL := own_KL) (z := (17 : Int32)) (vs := [(.int 126), (.int 33), (.int 64), (.int 36), (.int 37), (.int 94), (.int 38), (.int 42), (.int 95), (.int 45), (.int 43), (.int 61), (.int 60), (.int 62), (.int 46), (.int 63), (.int 47)]) X25 hx hZ hown (hw _ (List.mem_of_getElem? (i := 11) rfl)) (fun d hd => hw d ((by decide +kernel : ∀ d ∈ Bundle.stringAtoms, d ∈ tables_1) d hd)) e25' SI0 (Nat.zero_le _) (Fr.nil _) (by rw [hh]; exact HO.2.2) Ks0 (by simp [own_KL]) (by decide +kernel) HC HW (by decide +kernel) (by decide) (by decide) (g := (mkF m 31 #[.val (.int c_)] [])) rfl (hb hby d2_31) (n := 68) (by decide +kernel) (by decide) (by first | decide | omega | (dsimp only; omega)) (by first | decide | omega | (dsimp only; omega))
            refine Goes.via st26 ?_
            show Goes p e below _ (T26.setTop (mkF m 33 #[.val (.int c_)] [(.ref ka26)]))
            have kW : Arw Z h26 kb26 kc26 .byte 17 own_by := Arw.ofArv kA26 (by decide) (fun _ _ => rfl)
            refine Goes.via (fun _ kk_ => XS.iloadN X26.here hx rfl (hb hby d2_33) rfl  kk_) ?_
            show Goes p e below _ (T26.setTop (mkF m 34 #[.val (.int c_)] [(.int c_), (.ref ka26)]))
            have f27 : Sta Z h26 "java/lang/String" "COMPACT_STRINGS" "Z" (.int cS) := (S3_java_lang_String_COMPACT_STRINGS_COMPACT_STRINGS.ext E26)
            have z29 : h0.size ≤ (h26).size := (Nat.le_trans (Nat.le_refl _) E26.1)
            obtain ⟨cq28, kq28, q28a, q28b, q28c⟩ := isOf hZ e26 kE26
            obtain ⟨_, _, ⟨T28, L28, k28, n28⟩, -, X28, ⟨Lc28, hQ28, l28, y28, z28⟩, st28⟩ := X26.virtualBack hx (y := (⟨"java/lang/String", "indexOf", "(I)I"⟩ : MethodName)) (z := (⟨"java/lang/String", "indexOf", "(I)I"⟩ : MethodName)) hown (mvT hZ (hw _ (List.mem_of_getElem? (i := 19) rfl))) (mvT hZ (hw _ (List.mem_of_getElem? (i := 20) rfl))) (notFace_of_selects (args := #[]) (mvT hZ (hw _ (List.mem_of_getElem? (i := 22) rfl)))) (mvT hZ (hw _ (List.mem_of_getElem? (i := 22) rfl))) (mvT hZ (hw _ (List.mem_of_getElem? (i := 21) rfl))) (by decide) (backOf (W := 0) (rm4 l Z a0 hw [] c_ ka26 kb26 kc26 cS h26 n0 (Nat.le_trans Z0 z29) kE26 kV26 kW f27 (by first | assumption | rfl | decide | omega | (simp; done)) kC26) hZ (hw _ (List.mem_of_getElem? (i := 23) rfl)) (hw _ (List.mem_of_getElem? (i := 12) rfl)) (by decide) (by decide)) q28a q28c (g := (mkF m 34 #[.val (.int c_)] [(.int c_), (.ref ka26)])) rfl (by rw [hml]; rfl) (Steps.refl _) (argsL := [(.int c_)]) (rest := []) (lenOf pd_6 rfl) rfl (by show 2 * 0 + _ ≤ _; exact Nat.le_of_eq rfl) (hb hby d2_34) (fun _ _ => ⟨rfl, e26, (by first | decide | omega | (dsimp only; omega) : 2 + 0 ≤ _), (by first | decide | omega | (dsimp only; omega) : 72 + 0 ≤ _)⟩)
            dsimp only [Pt.U, Pt.locs, Pt.cells, Pt.slots] at X28 l28 y28 z28 st28 hQ28
            subst l28 y28 z28
            obtain ⟨rfl, rfl, e28⟩ := hQ28
            first | rw [List.append_nil] at X28 | skip
            refine Goes.tr st28 ?_
            have e28' : T28.heap = h26 := e28
            have ne30 : ka26 ≠ kb26 := own_ne_arr kE26 (hw _ (List.mem_of_getElem? (i := 13) rfl)) kW
            show Goes p e below _ (T28.setTop (mkF m 37 #[.val (.int c_)] [(.int (own_io c_))]))
            by_cases hc37 : (own_io c_) < (0 : Int32)
            · skip
              refine Goes.via (fun _ kk_ => XS.ifYes X28.here hx rfl (pc0 := 37) (pc' := 44) rfl (hb hby d2_37) rfl ((if0 _ _).trans (tlt hc37).1) (by decide) (by decide) kk_) ?_
              show Goes p e below _ (T28.setTop (mkF m 44 #[.val (.int c_)] []))
              refine Goes.via (fun _ kk_ => XS.iconst X28.here hx rfl (hb hby d2_44) kk_) ?_
              show Goes p e below _ (T28.setTop (mkF m 45 #[.val (.int c_)] [(.int (0 : Int32))]))
              have K31 : Keep h0 h26 [] := ((Keep.refl h0 []).ext E26)
              have hKe : KS Z own_KL T28.vm T28.heap := by rw [e28']; exact Ks26.at_ (s := s) X28.warmed
              exact own_wfinN X28 SI26 (by rw [e28']; exact sk26) (fun U_ hv hh_ => by show KS Z own_KL U_.vm U_.heap; rw [hv, hh_]; exact hKe) hx hlk hret (by simp) (hb hby d2_45) (by rw [e28']; exact ⟨(by first | (rw [own_sym, if_neg hc3, if_pos hc9, if_neg hc15, if_pos hc21, if_pos hc28, if_pos hc37]; done) | (rw [own_sym, if_neg hc3, if_pos hc9, if_neg hc15, if_pos hc21, if_pos hc28, if_pos hc37]; rfl)), N0, K31⟩) (by first | decide | omega | (dsimp only; omega)) (by first | decide | omega | (dsimp only; omega))
            · skip
              refine Goes.via (fun _ kk_ => XS.ifNo X28.here hx rfl (hb hby d2_37) rfl ((if0 _ _).trans (flt hc37).1) kk_) ?_
              show Goes p e below _ (T28.setTop (mkF m 40 #[.val (.int c_)] []))
              refine Goes.via (fun _ kk_ => XS.iconst X28.here hx rfl (hb hby d2_40) kk_) ?_
              show Goes p e below _ (T28.setTop (mkF m 41 #[.val (.int c_)] [(.int (1 : Int32))]))
              refine Goes.via (fun _ kk_ => XS.goto X28.here hx rfl (pc0 := 41) (pc' := 45) rfl (hb hby d2_41) (by decide) (by decide) kk_) ?_
              show Goes p e below _ (T28.setTop (mkF m 45 #[.val (.int c_)] [(.int (1 : Int32))]))
              have K32 : Keep h0 h26 [] := ((Keep.refl h0 []).ext E26)
              have hKe : KS Z own_KL T28.vm T28.heap := by rw [e28']; exact Ks26.at_ (s := s) X28.warmed
              exact own_wfinN X28 SI26 (by rw [e28']; exact sk26) (fun U_ hv hh_ => by show KS Z own_KL U_.vm U_.heap; rw [hv, hh_]; exact hKe) hx hlk hret (by simp) (hb hby d2_45) (by rw [e28']; exact ⟨(by first | (rw [own_sym, if_neg hc3, if_pos hc9, if_neg hc15, if_pos hc21, if_pos hc28, if_neg hc37]; done) | (rw [own_sym, if_neg hc3, if_pos hc9, if_neg hc15, if_pos hc21, if_pos hc28, if_neg hc37]; rfl)), N0, K32⟩) (by first | decide | omega | (dsimp only; omega)) (by first | decide | omega | (dsimp only; omega))
          · skip
            refine Goes.via (fun _ kk_ => XS.ifYes X25.here hx rfl (pc0 := 28) (pc' := 40) rfl (hb hby d2_28) rfl ((if0 _ _).trans (feq hc28).2) (by decide) (by decide) kk_) ?_
            show Goes p e below _ (T25.setTop (mkF m 40 #[.val (.int c_)] []))
            refine Goes.via (fun _ kk_ => XS.iconst X25.here hx rfl (hb hby d2_40) kk_) ?_
            show Goes p e below _ (T25.setTop (mkF m 41 #[.val (.int c_)] [(.int (1 : Int32))]))
            refine Goes.via (fun _ kk_ => XS.goto X25.here hx rfl (pc0 := 41) (pc' := 45) rfl (hb hby d2_41) (by decide) (by decide) kk_) ?_
            show Goes p e below _ (T25.setTop (mkF m 45 #[.val (.int c_)] [(.int (1 : Int32))]))
            have hKe : KS Z own_KL T25.vm T25.heap := by rw [e25']; exact Ks0.at_ (s := s) X25.warmed
            exact own_wfinN X25 SI0 (by rw [e25']; exact (Nat.zero_le _)) (fun U_ hv hh_ => by show KS Z own_KL U_.vm U_.heap; rw [hv, hh_]; exact hKe) hx hlk hret (by simp) (hb hby d2_45) (by rw [e25']; exact ⟨(by first | (rw [own_sym, if_neg hc3, if_pos hc9, if_neg hc15, if_pos hc21, if_neg hc28]; done) | (rw [own_sym, if_neg hc3, if_pos hc9, if_neg hc15, if_pos hc21, if_neg hc28]; rfl)), N0, (Keep.refl h0 [])⟩) (by first | decide | omega | (dsimp only; omega)) (by first | decide | omega | (dsimp only; omega))
        · skip
          refine Goes.via (fun _ kk_ => XS.icmpYes X0.here hx rfl (pc0 := 21) (pc' := 40) rfl (hb hby d2_21) rfl (flt hc21).2.2.2 (by decide) (by decide) kk_) ?_
          show Goes p e below _ (s₁.setTop (mkF m 40 #[.val (.int c_)] []))
          refine Goes.via (fun _ kk_ => XS.iconst X0.here hx rfl (hb hby d2_40) kk_) ?_
          show Goes p e below _ (s₁.setTop (mkF m 41 #[.val (.int c_)] [(.int (1 : Int32))]))
          refine Goes.via (fun _ kk_ => XS.goto X0.here hx rfl (pc0 := 41) (pc' := 45) rfl (hb hby d2_41) (by decide) (by decide) kk_) ?_
          show Goes p e below _ (s₁.setTop (mkF m 45 #[.val (.int c_)] [(.int (1 : Int32))]))
          have hKe : KS Z own_KL s₁.vm s₁.heap := by rw [e0]; exact Ks0.at_ (s := s) X0.warmed
          exact own_wfinN X0 SI0 (by rw [e0]; exact (Nat.zero_le _)) (fun U_ hv hh_ => by show KS Z own_KL U_.vm U_.heap; rw [hv, hh_]; exact hKe) hx hlk hret (by simp) (hb hby d2_45) (by rw [e0]; exact ⟨(by first | (rw [own_sym, if_neg hc3, if_pos hc9, if_neg hc15, if_neg hc21]; done) | (rw [own_sym, if_neg hc3, if_pos hc9, if_neg hc15, if_neg hc21]; rfl)), N0, (Keep.refl h0 [])⟩) (by first | decide | omega | (dsimp only; omega)) (by first | decide | omega | (dsimp only; omega))
    · skip
      refine Goes.via (fun _ kk_ => XS.icmpYes X0.here hx rfl (pc0 := 9) (pc' := 40) rfl (hb hby d2_9) rfl (flt hc9).2.2.2 (by decide) (by decide) kk_) ?_
      show Goes p e below _ (s₁.setTop (mkF m 40 #[.val (.int c_)] []))
      refine Goes.via (fun _ kk_ => XS.iconst X0.here hx rfl (hb hby d2_40) kk_) ?_
      show Goes p e below _ (s₁.setTop (mkF m 41 #[.val (.int c_)] [(.int (1 : Int32))]))
      refine Goes.via (fun _ kk_ => XS.goto X0.here hx rfl (pc0 := 41) (pc' := 45) rfl (hb hby d2_41) (by decide) (by decide) kk_) ?_
      show Goes p e below _ (s₁.setTop (mkF m 45 #[.val (.int c_)] [(.int (1 : Int32))]))
      have hKe : KS Z own_KL s₁.vm s₁.heap := by rw [e0]; exact Ks0.at_ (s := s) X0.warmed
      exact own_wfinN X0 SI0 (by rw [e0]; exact (Nat.zero_le _)) (fun U_ hv hh_ => by show KS Z own_KL U_.vm U_.heap; rw [hv, hh_]; exact hKe) hx hlk hret (by simp) (hb hby d2_45) (by rw [e0]; exact ⟨(by first | (rw [own_sym, if_neg hc3, if_neg hc9]; done) | (rw [own_sym, if_neg hc3, if_neg hc9]; rfl)), N0, (Keep.refl h0 [])⟩) (by first | decide | omega | (dsimp only; omega)) (by first | decide | omega | (dsimp only; omega))
def own_agr (c_ : Int32) : Int32 := (if (own_sym c_) = (own_exp c_) then (1 : Int32) else (0 : Int32))
theorem ef_rm1 (m : MethodId) (c_ : Int32) : entryFrame m #[(.int c_)] 1 = mkF m 0 #[.val (.int c_)] [] := by first | (simp [entryFrame, mkF, argsToLocals, Value.category]; done) | rfl
def Qrm1 (Z : State) (c_ : Int32) (cS : Int32) (h0 : Heap) (n0 : Nat) (v_ : Option Value) (h_ : Heap) (L_ : List Loc) : Prop := v_ = some (.int (own_agr c_)) ∧ Fr n0 L_ ∧ Keep h0 h_ []
theorem d1_0 : decode method_3_code 0 = .ok (.iload_n 0, 1) := by decide +kernel
theorem d1_1 : decode method_3_code 1 = .ok (.invokestatic 7, 3) := by decide +kernel
theorem d1_4 : decode method_3_code 4 = .ok (.iload_n 0, 1) := by decide +kernel
theorem d1_5 : decode method_3_code 5 = .ok (.invokestatic 13, 3) := by decide +kernel
theorem d1_8 : decode method_3_code 8 = .ok (.if_icmp .ne 7, 3) := by decide +kernel
theorem d1_11 : decode method_3_code 11 = .ok (.iconst 1, 1) := by decide +kernel
theorem d1_12 : decode method_3_code 12 = .ok (.goto 4, 3) := by decide +kernel
theorem d1_16 : decode method_3_code 16 = .ok (.ireturn, 1) := by decide +kernel
theorem d1_15 : decode method_3_code 15 = .ok (.iconst 0, 1) := by decide +kernel
set_option maxRecDepth 65536 in
set_option maxHeartbeats 40000000 in
theorem rm1 (l : Launch) (Z : State) (a0 : Array Value) (hw : ∀ d ∈ tables_1, d.before a0 Z = true) (ws : List Jvm.Cond) (c_ : Int32) (cS : Int32) (h0 : Heap) (n0 : Nat) (Z0 : n0 ≤ h0.size) (HO : Old Z n0 h0) (HC : Jvm.Lit.constHeld Z "com/example/map_rewriter/maprewriter/core/Symbol" 76) (HW : Jvm.Lit.compactW.before a0 Z = true) (S3_java_lang_String_COMPACT_STRINGS_COMPACT_STRINGS : Sta Z h0 "java/lang/String" "COMPACT_STRINGS" "Z" (.int cS)) (H_cs : ¬ cS = (0 : Int32)) :
    MetFree l (⟨"com/example/map_rewriter/maprewriter/core/SymbolIsSymbolCharacterPinLaw", "agrees", "(I)Z"⟩ : MethodName) (head1 (Jvm.Cond.code (⟨"com/example/map_rewriter/maprewriter/core/SymbolIsSymbolCharacterPinLaw", "agrees", "(I)Z"⟩ : MethodName) method_3_code 1 (some .boolean) :: ws) ({ frames := 5, cells := 2, slots := 72, locals := 71 } : Room)) (fun as_ U_ => as_ = #[(.int c_)] ∧ Z.Warmed39 U_.vm ∧ U_.heap = h0 ∧ KS Z own_KL U_.vm U_.heap) (fun _ _ _ _ _ => True) (fun _ U_ o_ V_ => ∃ v_ L_, o_ = .returned v_ ∧ Qrm1 Z c_ cS h0 n0 v_ V_.heap L_ ∧ KS Z own_KL V_.vm V_.heap ∧ ReturnedEndW U_ o_ V_ L_ ({ frames := 5, cells := 2, slots := 72, locals := 71 } : Room).cells ({ frames := 5, cells := 2, slots := 72, locals := 71 } : Room).slots) := by
  refine MetFree.of_bodySF (plainFor_of_name pn_com_example_map_rewriter_maprewriter_core_SymbolIsSymbolCharacterPinLaw) hisR ?_
  intro p e s m args below meth c s₁ Bd hml0 hP hK
  obtain ⟨rfl, hZ, hh, hKs⟩ := hP
  have hx := Bd.exec
  have hby := Bd.bytes
  have hlk : meth.locks = false := BodyLoose.notSynchronized Bd
  have hret := Bd.returns
  have hml : c.maxLocals = 1 := hml0
  have hown : s.vm.findClass "com/example/map_rewriter/maprewriter/core/SymbolIsSymbolCharacterPinLaw" = some m.cls := findClass_of_methodNamed Bd.named
  have hnm := (name_of_methodNamed Bd.named Bd.method).1
  have X0 : Stand p l e ({ frames := 5, cells := 2, slots := 72, locals := 71 } : Room) (s.setVm s.vm) m #[(.int c_)] below meth c s₁ [] 0 0 := Stand.of_body Bd
  have e0 : s₁.heap = h0 := by rw [← hh, Bd.state]; rfl
  have N0 := Fr.nil n0
  show Goes p e below (Fin_W s (Qrm1 Z c_ cS h0 n0) (fun U_ => KS Z own_KL U_.vm U_.heap) ({ frames := 5, cells := 2, slots := 72, locals := 71 } : Room).cells ({ frames := 5, cells := 2, slots := 72, locals := 71 } : Room).slots) (s₁.setTop (entryFrame m #[(.int c_)] 1))
  rw [ef_rm1 m c_]
  have SI0 : s.Since s.vm 0 := (State.WarmedH.refl s).since 0
  have Ks0 : KS Z own_KL s.vm h0 := hh ▸ hKs
  refine Goes.via (fun _ kk_ => XS.iloadN X0.here hx rfl (hb hby d1_0) rfl  kk_) ?_
  show Goes p e below _ (s₁.setTop (mkF m 1 #[.val (.int c_)] [(.int c_)]))
  obtain ⟨_, _, ⟨T1, L1, k1, n1⟩, -, ⟨X1, Si1⟩, ⟨Lc1, ⟨hQ1, tK1, hK1, hKv1, hKh1⟩, l1, y1, z1⟩, st1⟩ := own_callSW X0 hx (y := (⟨"com/example/map_rewriter/maprewriter/core/Symbol", "isSymbolCharacter", "(I)Z"⟩ : MethodName)) hown (mvT hZ (hw _ (List.mem_of_getElem? (i := 4) rfl))) (mvT hZ (hw _ (List.mem_of_getElem? (i := 5) rfl))) (mvT hZ (hw _ (List.mem_of_getElem? (i := 6) rfl))) (mvT hZ (hw _ (List.mem_of_getElem? (i := 7) rfl))) (by decide) (own_backOfW (W := 0) (K := (fun U_ => KS Z own_KL U_.vm U_.heap)) (KP := (fun U_ => KS Z own_KL U_.vm U_.heap)) (rm2 l Z a0 hw [] c_ cS h0 n0 (Nat.le_trans Z0 (Nat.le_refl _)) HO (by first | assumption | rfl | decide | omega | (simp; done)) (by first | assumption | rfl | decide | omega | (simp; done)) S3_java_lang_String_COMPACT_STRINGS_COMPACT_STRINGS (by first | assumption | rfl | decide | omega | (simp; done))) hZ (hw _ (List.mem_of_getElem? (i := 7) rfl)) (hw _ (List.mem_of_getElem? (i := 6) rfl)) (by decide) (by decide) (fun V_ hV hVh => by show KS Z own_KL V_.vm V_.heap; rw [hVh]; exact Ks0.at_ (s := s) hV)) (g := (mkF m 1 #[.val (.int c_)] [(.int c_)])) rfl (by rw [hml]; rfl) (argsL := [(.int c_)]) (rest := []) (lenOf pd_1 rfl) rfl (by show 2 * 0 + _ ≤ _; exact Nat.le_of_eq rfl) (hb hby d1_1) (fun _ _ => ⟨rfl, e0, (by first | decide | omega | (dsimp only; omega) : 0 + 2 ≤ _), (by first | decide | omega | (dsimp only; omega) : 0 + 72 ≤ _)⟩)
  dsimp only [Pt.U, Pt.locs, Pt.cells, Pt.slots] at X1 l1 y1 z1 st1 hQ1 Si1 hKv1 hKh1
  subst l1 y1 z1
  obtain ⟨rfl, N1q, K1⟩ := hQ1
  have N1 := Fr.app N0 N1q
  refine Goes.via st1 ?_
  obtain ⟨X1', SI1, hZ, hown⟩ := rebS SI0 (Nat.zero_le _) X1 Si1 K1.1 hZ hown
  have Ks1 : KS Z own_KL T1.vm T1.heap := by rw [← hKv1, ← hKh1]; exact hK1
  show Goes p e below _ (T1.setTop (mkF m 4 #[.val (.int c_)] [(.int (own_sym c_))]))
  refine Goes.via (fun _ kk_ => XS.iloadN X1'.here hx rfl (hb hby d1_4) rfl  kk_) ?_
  show Goes p e below _ (T1.setTop (mkF m 5 #[.val (.int c_)] [(.int c_), (.int (own_sym c_))]))
  have z3 : h0.size ≤ (T1.heap).size := (Nat.le_trans (Nat.le_refl _) K1.1)
  obtain ⟨_, _, ⟨T2, L2, k2, n2⟩, -, X2, ⟨Lc2, hQ2, l2, y2, z2⟩, st2⟩ := Jvm.LawKit.callS X1' hx (y := (⟨"com/example/map_rewriter/maprewriter/core/SymbolIsSymbolCharacterPinLaw", "expected", "(I)Z"⟩ : MethodName)) hown (mvT hZ (hw _ (List.mem_of_getElem? (i := 64) rfl))) (mvT hZ (hw _ (List.mem_of_getElem? (i := 65) rfl))) (mvT hZ (hw _ (List.mem_of_getElem? (i := 2) rfl))) (mvT hZ (hw _ (List.mem_of_getElem? (i := 66) rfl))) (by decide) (backOf (W := 1) (rm14 l Z a0 hw [] c_ T1.heap n0 (Nat.le_trans Z0 z3) ) hZ (hw _ (List.mem_of_getElem? (i := 66) rfl)) (hw _ (List.mem_of_getElem? (i := 2) rfl)) (by decide) (by decide)) (g := (mkF m 5 #[.val (.int c_)] [(.int c_), (.int (own_sym c_))])) rfl (by rw [hml]; rfl) (argsL := [(.int c_)]) (rest := [(.int (own_sym c_))]) (lenOf pd_1 rfl) rfl (by show 2 * 0 + _ ≤ _; exact Nat.le_of_eq rfl) (hb hby d1_5) (fun _ _ => ⟨rfl, rfl, (by first | decide | omega | (dsimp only; omega) : 2 + 0 ≤ _), (by first | decide | omega | (dsimp only; omega) : 72 + 0 ≤ _)⟩)
  dsimp only [Pt.U, Pt.locs, Pt.cells, Pt.slots] at X2 l2 y2 z2 st2 hQ2
  subst l2 y2 z2
  obtain ⟨rfl, rfl, e2⟩ := hQ2
  first | rw [List.append_nil] at X2 | skip
  refine Goes.via st2 ?_
  have e2' : T2.heap = T1.heap := e2
  show Goes p e below _ (T2.setTop (mkF m 8 #[.val (.int c_)] [(.int (own_exp c_)), (.int (own_sym c_))]))
  by_cases hc8 : (own_sym c_) = (own_exp c_)
  · skip
    refine Goes.via (fun _ kk_ => XS.icmpNo X2.here hx rfl (hb hby d1_8) rfl (teq hc8).2 kk_) ?_
    show Goes p e below _ (T2.setTop (mkF m 11 #[.val (.int c_)] []))
    refine Goes.via (fun _ kk_ => XS.iconst X2.here hx rfl (hb hby d1_11) kk_) ?_
    show Goes p e below _ (T2.setTop (mkF m 12 #[.val (.int c_)] [(.int (1 : Int32))]))
    refine Goes.via (fun _ kk_ => XS.goto X2.here hx rfl (pc0 := 12) (pc' := 16) rfl (hb hby d1_12) (by decide) (by decide) kk_) ?_
    show Goes p e below _ (T2.setTop (mkF m 16 #[.val (.int c_)] [(.int (1 : Int32))]))
    have K4 : Keep h0 T1.heap [] := ((Keep.refl h0 []).trans K1 all0)
    have hKe : KS Z own_KL T2.vm T2.heap := by rw [e2']; exact Ks1.at_ (s := s) X2.warmed
    exact own_wfinN X2 SI1 (by rw [e2']; exact (Nat.le_refl _)) (fun U_ hv hh_ => by show KS Z own_KL U_.vm U_.heap; rw [hv, hh_]; exact hKe) hx hlk hret (by simp) (hb hby d1_16) (by rw [e2']; exact ⟨(by first | (rw [own_agr, if_pos hc8]; done) | (rw [own_agr, if_pos hc8]; rfl)), N1, K4⟩) (by first | decide | omega | (dsimp only; omega)) (by first | decide | omega | (dsimp only; omega))
  · skip
    refine Goes.via (fun _ kk_ => XS.icmpYes X2.here hx rfl (pc0 := 8) (pc' := 15) rfl (hb hby d1_8) rfl (feq hc8).2 (by decide) (by decide) kk_) ?_
    show Goes p e below _ (T2.setTop (mkF m 15 #[.val (.int c_)] []))
    refine Goes.via (fun _ kk_ => XS.iconst X2.here hx rfl (hb hby d1_15) kk_) ?_
    show Goes p e below _ (T2.setTop (mkF m 16 #[.val (.int c_)] [(.int (0 : Int32))]))
    have K5 : Keep h0 T1.heap [] := ((Keep.refl h0 []).trans K1 all0)
    have hKe : KS Z own_KL T2.vm T2.heap := by rw [e2']; exact Ks1.at_ (s := s) X2.warmed
    exact own_wfinN X2 SI1 (by rw [e2']; exact (Nat.le_refl _)) (fun U_ hv hh_ => by show KS Z own_KL U_.vm U_.heap; rw [hv, hh_]; exact hKe) hx hlk hret (by simp) (hb hby d1_16) (by rw [e2']; exact ⟨(by first | (rw [own_agr, if_neg hc8]; done) | (rw [own_agr, if_neg hc8]; rfl)), N1, K5⟩) (by first | decide | omega | (dsimp only; omega)) (by first | decide | omega | (dsimp only; omega))
theorem own_same_in : ∀ k < 256, own_sym (Int32.ofNat k) = own_exp (Int32.ofNat k) := by decide +kernel
theorem own_lo {c k : Int32} (h : c.toInt < 0) (hk : 0 ≤ k.toInt) : c < k := Int32.lt_iff_toInt_lt.mpr (by omega)
theorem own_nhi {c k : Int32} (h : c.toInt < 0) (hk : 0 ≤ k.toInt) : ¬ k < c := fun q => by have := Int32.lt_iff_toInt_lt.mp q; omega
theorem own_ne {c k : Int32} (h : c.toInt < 0) (hk : 0 ≤ k.toInt) : ¬ c = k := fun q => by subst q; omega
theorem own_nlo {c k : Int32} (h : 255 < c.toInt) (hk : k.toInt ≤ 255) : ¬ c < k := fun q => by have := Int32.lt_iff_toInt_lt.mp q; omega
theorem own_hi {c k : Int32} (h : 255 < c.toInt) (hk : k.toInt ≤ 255) : k < c := Int32.lt_iff_toInt_lt.mpr (by omega)
theorem own_ne2 {c k : Int32} (h : 255 < c.toInt) (hk : k.toInt ≤ 255) : ¬ c = k := fun q => by subst q; omega
theorem own_dig_o1 (c : Int32) (h : c.toInt < 0) : own_dig c = (0 : Int32) := by
  rw [own_dig, if_pos (by exact own_lo h (by decide))]
theorem own_dig_o2 (c : Int32) (h : 255 < c.toInt) : own_dig c = (0 : Int32) := by
  rw [own_dig, if_neg (by exact own_nlo h (by decide)), if_pos (by exact own_hi h (by decide))]
theorem own_dig_out (c : Int32) (h : c.toInt < 0 ∨ 255 < c.toInt) : own_dig c = (0 : Int32) := h.elim (own_dig_o1 c) (own_dig_o2 c)
theorem own_enc_o1 (c : Int32) (h : c.toInt < 0) : own_enc c = (0 : Int32) := by
  rw [own_enc, if_pos (by exact own_lo h (by decide))]
theorem own_enc_o2 (c : Int32) (h : 255 < c.toInt) : own_enc c = (0 : Int32) := by
  rw [own_enc, if_neg (by exact own_nlo h (by decide)), if_pos (by exact own_hi h (by decide))]
theorem own_enc_out (c : Int32) (h : c.toInt < 0 ∨ 255 < c.toInt) : own_enc c = (0 : Int32) := h.elim (own_enc_o1 c) (own_enc_o2 c)
theorem own_lio_o1 (c : Int32) (h : c.toInt < 0) : own_lio c = (-1 : Int32) := by
  rw [own_lio, if_pos (own_enc_o1 c h)]
theorem own_lio_o2 (c : Int32) (h : 255 < c.toInt) : own_lio c = (-1 : Int32) := by
  rw [own_lio, if_pos (own_enc_o2 c h)]
theorem own_lio_out (c : Int32) (h : c.toInt < 0 ∨ 255 < c.toInt) : own_lio c = (-1 : Int32) := h.elim (own_lio_o1 c) (own_lio_o2 c)
theorem own_io_o1 (c : Int32) (h : c.toInt < 0) : own_io c < (0 : Int32) := by rw [own_io, own_sio, own_lio_o1 c h]; decide
theorem own_io_o2 (c : Int32) (h : 255 < c.toInt) : own_io c < (0 : Int32) := by rw [own_io, own_sio, own_lio_o2 c h]; decide
theorem own_sym_o1 (c : Int32) (h : c.toInt < 0) : own_sym c = (0 : Int32) := by
  rw [own_sym, if_pos (by exact own_lo h (by decide)), if_pos (by exact own_lo h (by decide)), if_pos (own_dig_o1 c h), if_pos (own_io_o1 c h)]
theorem own_sym_o2 (c : Int32) (h : 255 < c.toInt) : own_sym c = (0 : Int32) := by
  rw [own_sym, if_neg (by exact own_nlo h (by decide)), if_pos (by exact own_hi h (by decide)), if_neg (by exact own_nlo h (by decide)), if_pos (by exact own_hi h (by decide)), if_pos (own_dig_o2 c h), if_pos (own_io_o2 c h)]
theorem own_sym_out (c : Int32) (h : c.toInt < 0 ∨ 255 < c.toInt) : own_sym c = (0 : Int32) := h.elim (own_sym_o1 c) (own_sym_o2 c)
theorem own_exp_o1 (c : Int32) (h : c.toInt < 0) : own_exp c = (0 : Int32) := by
  rw [own_exp, if_pos (by exact own_lo h (by decide)), if_pos (by exact own_lo h (by decide)), if_pos (by exact own_lo h (by decide)), if_neg (by exact own_ne h (by decide)), if_neg (by exact own_ne h (by decide)), if_neg (by exact own_ne h (by decide)), if_neg (by exact own_ne h (by decide)), if_neg (by exact own_ne h (by decide)), if_neg (by exact own_ne h (by decide)), if_neg (by exact own_ne h (by decide)), if_neg (by exact own_ne h (by decide)), if_neg (by exact own_ne h (by decide)), if_neg (by exact own_ne h (by decide)), if_neg (by exact own_ne h (by decide)), if_neg (by exact own_ne h (by decide)), if_neg (by exact own_ne h (by decide)), if_neg (by exact own_ne h (by decide)), if_neg (by exact own_ne h (by decide)), if_neg (by exact own_ne h (by decide)), if_neg (by exact own_ne h (by decide))]
theorem own_exp_o2 (c : Int32) (h : 255 < c.toInt) : own_exp c = (0 : Int32) := by
  rw [own_exp, if_neg (by exact own_nlo h (by decide)), if_pos (by exact own_hi h (by decide)), if_neg (by exact own_nlo h (by decide)), if_pos (by exact own_hi h (by decide)), if_neg (by exact own_nlo h (by decide)), if_pos (by exact own_hi h (by decide)), if_neg (by exact own_ne2 h (by decide)), if_neg (by exact own_ne2 h (by decide)), if_neg (by exact own_ne2 h (by decide)), if_neg (by exact own_ne2 h (by decide)), if_neg (by exact own_ne2 h (by decide)), if_neg (by exact own_ne2 h (by decide)), if_neg (by exact own_ne2 h (by decide)), if_neg (by exact own_ne2 h (by decide)), if_neg (by exact own_ne2 h (by decide)), if_neg (by exact own_ne2 h (by decide)), if_neg (by exact own_ne2 h (by decide)), if_neg (by exact own_ne2 h (by decide)), if_neg (by exact own_ne2 h (by decide)), if_neg (by exact own_ne2 h (by decide)), if_neg (by exact own_ne2 h (by decide)), if_neg (by exact own_ne2 h (by decide)), if_neg (by exact own_ne2 h (by decide))]
theorem own_exp_out (c : Int32) (h : c.toInt < 0 ∨ 255 < c.toInt) : own_exp c = (0 : Int32) := h.elim (own_exp_o1 c) (own_exp_o2 c)
theorem own_same_out (c : Int32) (h : c.toInt < 0 ∨ 255 < c.toInt) : own_sym c = own_exp c := by
  rw [own_sym_out c h, own_exp_out c h]
theorem own_agrees (c : Int32) : ¬ own_agr c = (0 : Int32) := by
  have q : own_sym c = own_exp c := by
    by_cases h : c.toInt < 0 ∨ 255 < c.toInt
    · exact own_same_out c h
    · have e : c = Int32.ofNat c.toInt.toNat := by
        apply Int32.toInt_inj.mp
        rw [Int32.toInt_ofNat_of_lt (by omega)]
        omega
      rw [e]
      exact own_same_in _ (by omega)
  rw [own_agr, if_pos q]
  decide

theorem ef_rm0 (m : MethodId) (c_ : Int32) : entryFrame m #[(.int c_)] maxLocals = mkF m 0 #[.val (.int c_)] [] := by first | (simp [entryFrame, mkF, argsToLocals, Value.category, maxLocals]; done) | rfl
def Qrm0 (Z : State) (c_ : Int32) (cS : Int32) (h0 : Heap) (n0 : Nat) (v_ : Option Value) (h_ : Heap) (L_ : List Loc) : Prop := v_ = some (.int (1 : Int32)) ∧ Fr n0 L_ ∧ Keep h0 h_ []
set_option maxRecDepth 65536 in
set_option maxHeartbeats 40000000 in
theorem rm0 (l : Launch) (Z : State) (a0 : Array Value) (hw : ∀ d ∈ tables_1, d.before a0 Z = true) (ws : List Jvm.Cond) (c_ : Int32) (cS : Int32) (h0 : Heap) (n0 : Nat) (Z0 : n0 ≤ h0.size) (OS : Sta Z h0 "java/lang/String" "COMPACT_STRINGS" "Z" (.int cS)) (H_cs : ¬ cS = (0 : Int32)) (HO : Old Z n0 h0) (HC : Jvm.Lit.constHeld Z "com/example/map_rewriter/maprewriter/core/Symbol" 76) (HW : Jvm.Lit.compactW.before a0 Z = true) :
    MetFree l x (head1 (Jvm.Cond.code x code maxLocals ret :: ws) room_1) (fun as_ U_ => as_ = #[(.int c_)] ∧ Z.Warmed39 U_.vm ∧ U_.heap = h0 ∧ KS Z own_KL U_.vm U_.heap) (fun _ _ _ _ _ => True) (fun _ U_ o_ V_ => ∃ v_ L_, o_ = .returned v_ ∧ Qrm0 Z c_ cS h0 n0 v_ V_.heap L_ ∧ KS Z own_KL V_.vm V_.heap ∧ ReturnedEndW U_ o_ V_ L_ room_1.cells room_1.slots) := by
  refine MetFree.of_bodySF (plainFor_of_name pn_com_example_map_rewriter_maprewriter_core_SymbolIsSymbolCharacterPinLaw) hisR ?_
  intro p e s m args below meth c s₁ Bd hml0 hP hK
  obtain ⟨rfl, hZ, hh, hKs⟩ := hP
  have hx := Bd.exec
  have hby := Bd.bytes
  have hlk : meth.locks = false := BodyLoose.notSynchronized Bd
  have hret := Bd.returns
  have hml : c.maxLocals = 1 := hml0
  have hown : s.vm.findClass "com/example/map_rewriter/maprewriter/core/SymbolIsSymbolCharacterPinLaw" = some m.cls := findClass_of_methodNamed Bd.named
  have hnm := (name_of_methodNamed Bd.named Bd.method).1
  have X0 : Stand p l e room_1 (s.setVm s.vm) m #[(.int c_)] below meth c s₁ [] 0 0 := Stand.of_body Bd
  have e0 : s₁.heap = h0 := by rw [← hh, Bd.state]; rfl
  have N0 := Fr.nil n0
  show Goes p e below (Fin_W s (Qrm0 Z c_ cS h0 n0) (fun U_ => KS Z own_KL U_.vm U_.heap) room_1.cells room_1.slots) (s₁.setTop (entryFrame m #[(.int c_)] maxLocals))
  rw [ef_rm0 m c_]
  have SI0 : s.Since s.vm 0 := (State.WarmedH.refl s).since 0
  have Ks0 : KS Z own_KL s.vm h0 := hh ▸ hKs
  refine Goes.via (fun _ kk_ => XS.iloadN X0.here hx rfl (hb hby at_0) rfl  kk_) ?_
  show Goes p e below _ (s₁.setTop (mkF m 1 #[.val (.int c_)] [(.int c_)]))
  obtain ⟨_, _, ⟨T1, L1, k1, n1⟩, -, ⟨X1, Si1⟩, ⟨Lc1, ⟨hQ1, tK1, hK1, hKv1, hKh1⟩, l1, y1, z1⟩, st1⟩ := own_callSW X0 hx (y := (⟨"com/example/map_rewriter/maprewriter/core/SymbolIsSymbolCharacterPinLaw", "agrees", "(I)Z"⟩ : MethodName)) hown (mvT hZ (hw _ (List.mem_of_getElem? (i := 0) rfl))) (mvT hZ (hw _ (List.mem_of_getElem? (i := 1) rfl))) (mvT hZ (hw _ (List.mem_of_getElem? (i := 2) rfl))) (mvT hZ (hw _ (List.mem_of_getElem? (i := 3) rfl))) (by decide) (own_backOfW (W := 0) (K := (fun U_ => KS Z own_KL U_.vm U_.heap)) (KP := (fun U_ => KS Z own_KL U_.vm U_.heap)) (rm1 l Z a0 hw [] c_ cS h0 n0 (Nat.le_trans Z0 (Nat.le_refl _)) HO (by first | assumption | rfl | decide | omega | (simp; done)) (by first | assumption | rfl | decide | omega | (simp; done)) OS (by first | assumption | rfl | decide | omega | (simp; done))) hZ (hw _ (List.mem_of_getElem? (i := 3) rfl)) (hw _ (List.mem_of_getElem? (i := 2) rfl)) (by decide) (by decide) (fun V_ hV hVh => by show KS Z own_KL V_.vm V_.heap; rw [hVh]; exact Ks0.at_ (s := s) hV)) (g := (mkF m 1 #[.val (.int c_)] [(.int c_)])) rfl (by rw [hml]; rfl) (argsL := [(.int c_)]) (rest := []) (lenOf pd_1 rfl) rfl (by show 2 * 0 + _ ≤ _; exact Nat.le_of_eq rfl) (hb hby at_1) (fun _ _ => ⟨rfl, e0, (by first | decide | omega | (dsimp only; omega) : 0 + 2 ≤ _), (by first | decide | omega | (dsimp only; omega) : 0 + 72 ≤ _)⟩)
  dsimp only [Pt.U, Pt.locs, Pt.cells, Pt.slots] at X1 l1 y1 z1 st1 hQ1 Si1 hKv1 hKh1
  subst l1 y1 z1
  obtain ⟨rfl, N1q, K1⟩ := hQ1
  have N1 := Fr.app N0 N1q
  refine Goes.via st1 ?_
  obtain ⟨X1', SI1, hZ, hown⟩ := rebS SI0 (Nat.zero_le _) X1 Si1 K1.1 hZ hown
  have Ks1 : KS Z own_KL T1.vm T1.heap := by rw [← hKv1, ← hKh1]; exact hK1
  show Goes p e below _ (T1.setTop (mkF m 4 #[.val (.int c_)] [(.int (own_agr c_))]))
  have hc4_2 : ¬ ((own_agr c_) = (0 : Int32)) := own_agrees _
  refine Goes.via (fun _ kk_ => XS.ifNo X1'.here hx rfl (hb hby at_4) rfl ((if0 _ _).trans (feq hc4_2).1) kk_) ?_
  show Goes p e below _ (T1.setTop (mkF m 7 #[.val (.int c_)] []))
  refine Goes.via (fun _ kk_ => XS.iloadN X1'.here hx rfl (hb hby at_7) rfl  kk_) ?_
  show Goes p e below _ (T1.setTop (mkF m 8 #[.val (.int c_)] [(.int c_)]))
  refine Goes.via (fun _ kk_ => XS.sipush X1'.here hx rfl (hb hby at_8) kk_) ?_
  show Goes p e below _ (T1.setTop (mkF m 11 #[.val (.int c_)] [(.int (255 : Int32)), (.int c_)]))
  refine Goes.via (fun _ kk_ => XS.iand X1'.here hx rfl (hb hby at_11) rfl kk_) ?_
  show Goes p e below _ (T1.setTop (mkF m 12 #[.val (.int c_)] [(.int (c_ &&& (255 : Int32)))]))
  have ol3 : Old Z n0 (T1.heap) := (HO.keep K1 all0)
  have K4 : Keep h0 T1.heap [] := ((Keep.refl h0 []).trans K1 all0)
  have f5 : Sta Z T1.heap "java/lang/String" "COMPACT_STRINGS" "Z" (.int cS) := own_sta_keep OS K4
  have z7 : h0.size ≤ (T1.heap).size := (Nat.le_trans (Nat.le_refl _) K1.1)
  obtain ⟨_, _, ⟨T6, L6, k6, n6⟩, -, ⟨X6, Si6⟩, ⟨Lc6, ⟨hQ6, tK6, hK6, hKv6, hKh6⟩, l6, y6, z6⟩, st6⟩ := own_callSW X1' hx (y := (⟨"com/example/map_rewriter/maprewriter/core/SymbolIsSymbolCharacterPinLaw", "agrees", "(I)Z"⟩ : MethodName)) hown (mvT hZ (hw _ (List.mem_of_getElem? (i := 0) rfl))) (mvT hZ (hw _ (List.mem_of_getElem? (i := 1) rfl))) (mvT hZ (hw _ (List.mem_of_getElem? (i := 2) rfl))) (mvT hZ (hw _ (List.mem_of_getElem? (i := 3) rfl))) (by decide) (own_backOfW (W := 0) (K := (fun U_ => KS Z own_KL U_.vm U_.heap)) (KP := (fun U_ => KS Z own_KL U_.vm U_.heap)) (rm1 l Z a0 hw [] (c_ &&& (255 : Int32)) cS T1.heap n0 (Nat.le_trans Z0 z7) ol3 (by first | assumption | rfl | decide | omega | (simp; done)) (by first | assumption | rfl | decide | omega | (simp; done)) f5 (by first | assumption | rfl | decide | omega | (simp; done))) hZ (hw _ (List.mem_of_getElem? (i := 3) rfl)) (hw _ (List.mem_of_getElem? (i := 2) rfl)) (by decide) (by decide) (fun V_ hV hVh => by show KS Z own_KL V_.vm V_.heap; rw [hVh]; exact Ks1.at_ (s := s) hV)) (g := (mkF m 12 #[.val (.int c_)] [(.int (c_ &&& (255 : Int32)))])) rfl (by rw [hml]; rfl) (argsL := [(.int (c_ &&& (255 : Int32)))]) (rest := []) (lenOf pd_1 rfl) rfl (by show 2 * 0 + _ ≤ _; exact Nat.le_of_eq rfl) (hb hby at_12) (fun _ _ => ⟨rfl, rfl, (by first | decide | omega | (dsimp only; omega) : 2 + 2 ≤ _), (by first | decide | omega | (dsimp only; omega) : 72 + 72 ≤ _)⟩)
  dsimp only [Pt.U, Pt.locs, Pt.cells, Pt.slots] at X6 l6 y6 z6 st6 hQ6 Si6 hKv6 hKh6
  subst l6 y6 z6
  obtain ⟨rfl, N6q, K6⟩ := hQ6
  have N6 := Fr.app N1 N6q
  refine Goes.via st6 ?_
  obtain ⟨X6', SI6, hZ, hown⟩ := rebS SI1 (Nat.le_refl _) X6 Si6 K6.1 hZ hown
  have Ks6 : KS Z own_KL T6.vm T6.heap := by rw [← hKv6, ← hKh6]; exact hK6
  show Goes p e below _ (T6.setTop (mkF m 15 #[.val (.int c_)] [(.int (own_agr (c_ &&& (255 : Int32))))]))
  have hc15_8 : ¬ ((own_agr (c_ &&& (255 : Int32))) = (0 : Int32)) := own_agrees _
  refine Goes.via (fun _ kk_ => XS.ifNo X6'.here hx rfl (hb hby at_15) rfl ((if0 _ _).trans (feq hc15_8).1) kk_) ?_
  show Goes p e below _ (T6.setTop (mkF m 18 #[.val (.int c_)] []))
  refine Goes.via (fun _ kk_ => XS.iloadN X6'.here hx rfl (hb hby at_18) rfl  kk_) ?_
  show Goes p e below _ (T6.setTop (mkF m 19 #[.val (.int c_)] [(.int c_)]))
  refine Goes.via (fun _ kk_ => XS.bipush X6'.here hx rfl (hb hby at_19) kk_) ?_
  show Goes p e below _ (T6.setTop (mkF m 21 #[.val (.int c_)] [(.int (127 : Int32)), (.int c_)]))
  refine Goes.via (fun _ kk_ => XS.iand X6'.here hx rfl (hb hby at_21) rfl kk_) ?_
  show Goes p e below _ (T6.setTop (mkF m 22 #[.val (.int c_)] [(.int (c_ &&& (127 : Int32)))]))
  have ol9 : Old Z n0 (T6.heap) := (ol3.keep K6 all0)
  have K10 : Keep h0 T6.heap [] := (K4.trans K6 all0)
  have f11 : Sta Z T6.heap "java/lang/String" "COMPACT_STRINGS" "Z" (.int cS) := own_sta_keep OS K10
  have z13 : h0.size ≤ (T6.heap).size := (Nat.le_trans z7 K6.1)
  obtain ⟨_, _, ⟨T12, L12, k12, n12⟩, -, ⟨X12, Si12⟩, ⟨Lc12, ⟨hQ12, tK12, hK12, hKv12, hKh12⟩, l12, y12, z12⟩, st12⟩ := own_callSW X6' hx (y := (⟨"com/example/map_rewriter/maprewriter/core/SymbolIsSymbolCharacterPinLaw", "agrees", "(I)Z"⟩ : MethodName)) hown (mvT hZ (hw _ (List.mem_of_getElem? (i := 0) rfl))) (mvT hZ (hw _ (List.mem_of_getElem? (i := 1) rfl))) (mvT hZ (hw _ (List.mem_of_getElem? (i := 2) rfl))) (mvT hZ (hw _ (List.mem_of_getElem? (i := 3) rfl))) (by decide) (own_backOfW (W := 0) (K := (fun U_ => KS Z own_KL U_.vm U_.heap)) (KP := (fun U_ => KS Z own_KL U_.vm U_.heap)) (rm1 l Z a0 hw [] (c_ &&& (127 : Int32)) cS T6.heap n0 (Nat.le_trans Z0 z13) ol9 (by first | assumption | rfl | decide | omega | (simp; done)) (by first | assumption | rfl | decide | omega | (simp; done)) f11 (by first | assumption | rfl | decide | omega | (simp; done))) hZ (hw _ (List.mem_of_getElem? (i := 3) rfl)) (hw _ (List.mem_of_getElem? (i := 2) rfl)) (by decide) (by decide) (fun V_ hV hVh => by show KS Z own_KL V_.vm V_.heap; rw [hVh]; exact Ks6.at_ (s := s) hV)) (g := (mkF m 22 #[.val (.int c_)] [(.int (c_ &&& (127 : Int32)))])) rfl (by rw [hml]; rfl) (argsL := [(.int (c_ &&& (127 : Int32)))]) (rest := []) (lenOf pd_1 rfl) rfl (by show 2 * 0 + _ ≤ _; exact Nat.le_of_eq rfl) (hb hby at_22) (fun _ _ => ⟨rfl, rfl, (by first | decide | omega | (dsimp only; omega) : 4 + 2 ≤ _), (by first | decide | omega | (dsimp only; omega) : 144 + 72 ≤ _)⟩)
  dsimp only [Pt.U, Pt.locs, Pt.cells, Pt.slots] at X12 l12 y12 z12 st12 hQ12 Si12 hKv12 hKh12
  subst l12 y12 z12
  obtain ⟨rfl, N12q, K12⟩ := hQ12
  have N12 := Fr.app N6 N12q
  refine Goes.via st12 ?_
  obtain ⟨X12', SI12, hZ, hown⟩ := rebS SI6 (Nat.le_refl _) X12 Si12 K12.1 hZ hown
  have Ks12 : KS Z own_KL T12.vm T12.heap := by rw [← hKv12, ← hKh12]; exact hK12
  show Goes p e below _ (T12.setTop (mkF m 25 #[.val (.int c_)] [(.int (own_agr (c_ &&& (127 : Int32))))]))
  have hc25_14 : ¬ ((own_agr (c_ &&& (127 : Int32))) = (0 : Int32)) := own_agrees _
  refine Goes.via (fun _ kk_ => XS.ifNo X12'.here hx rfl (hb hby at_25) rfl ((if0 _ _).trans (feq hc25_14).1) kk_) ?_
  show Goes p e below _ (T12.setTop (mkF m 28 #[.val (.int c_)] []))
  refine Goes.via (fun _ kk_ => XS.iconst X12'.here hx rfl (hb hby at_28) kk_) ?_
  show Goes p e below _ (T12.setTop (mkF m 29 #[.val (.int c_)] [(.int (1 : Int32))]))
  refine Goes.via (fun _ kk_ => XS.goto X12'.here hx rfl (pc0 := 29) (pc' := 33) rfl (hb hby at_29) (by decide) (by decide) kk_) ?_
  show Goes p e below _ (T12.setTop (mkF m 33 #[.val (.int c_)] [(.int (1 : Int32))]))
  have K15 : Keep h0 T12.heap [] := (K10.trans K12 all0)
  have hKe : KS Z own_KL T12.vm T12.heap := by rw [show T12.heap = T12.heap from rfl]; exact Ks12.at_ (s := s) X12'.warmed
  exact own_wfinN X12' SI12 (Nat.le_refl _) (fun U_ hv hh_ => by show KS Z own_KL U_.vm U_.heap; rw [hv, hh_]; exact hKe) hx hlk hret (by simp) (hb hby at_33) (by exact ⟨rfl, N12, K15⟩) (by first | decide | omega | (dsimp only; omega)) (by first | decide | omega | (dsimp only; omega))
-- end
set_option maxRecDepth 65536 in
set_option maxHeartbeats 40000000 in
theorem comes_1 {Post : Tables → Env → Array Value → State → Outcome → State → Prop} (hpost : ∀ tb e args s v u, (limb_1_1.after args s (.returned v) u = true ∧ limb_1_2.after args s (.returned v) u = true ∧ True) → ReturnedEndW s (.returned v) u (Jvm.fieldLocs frame_1_writes args s ++ Jvm.arrayLocs frame_1_arrays args s ++ Jvm.staticLocs frame_1_statics s) 8 1088 → Post tb e args s (.returned v) u) :
    ArmFor flags0 classFile x code maxLocals ret World_1 tables_1 room_1 Calls_1 rest_1 Pre_1 Post := by
  intro l hfl _ _ p e ha hc hk s m args below hf hA hF happ hP
  obtain ⟨hcalls, hrest, hpre⟩ := hP
  obtain ⟨-, -, -, hnamed, -, -, -, hat⟩ := (Spec.applies_iff hf).mp happ
  obtain ⟨hg, hn⟩ := and_e (Cond.before_iff.mp (show (Jvm.Cond.and given_1 narrow_1).before args s = true from hpre))
  obtain ⟨gg1, gg2⟩ := and_e hg
  obtain ⟨w0, rfl⟩ : ∃ w0 : Value, args = #[w0] := by
    have hs : args.size = 1 := by simpa [Cond.value, given_1] using gg1
    obtain ⟨L⟩ := args
    match L, hs with
    | [w0], _ => exact ⟨w0, rfl⟩
  have hw := fun d (hd : d ∈ tables_1) => atoms_spec (ws := Jvm.Cond.code x code maxLocals ret :: tables_1) hat d (List.mem_cons_of_mem _ hd)
  have hfit : Fit s := fun {y c} hc i hi => by
    obtain ⟨ha, rfl⟩ := Array.getElem?_eq_some_iff.mp hc
    have q := List.all_eq_true.mp ((Array.all_eq_true_iff_forall_mem.mp hF) _ (Array.getElem_mem ha)) i (List.mem_range.mpr hi)
    simpa [Array.getElem?_eq_getElem hi] using q
  obtain ⟨hsets, hown0⟩ := atoms_of _ (rest_1_c_eq ▸ (show rest_1_c.before _ s = true from hrest))
  have hr0 := Cond.before_iff.mp hown0
  obtain ⟨i0, ei0⟩ := is_v gg2
  obtain rfl : w0 = (.int i0) := Option.some.inj ei0
  obtain ⟨cS, eS⟩ := is_v (Cond.before_iff.mp (hsets _ (List.mem_of_getElem? (i := 1) rfl)))
  have OS : Sta s s.heap "java/lang/String" "COMPACT_STRINGS" "Z" (.int cS) := Sta.start eS (Or.inl (hsets _ (List.mem_of_getElem? (i := 0) rfl)))
  have HS : ¬ cS = (0 : Int32) := gotF (Cond.eq_ints eS (Term.int_eval (0))) (not_v (Cond.before_iff.mp (hsets _ (List.mem_of_getElem? (i := 2) rfl))))
  have HW : Jvm.Lit.compactW.before _ s = true := hsets _ (List.mem_of_getElem? (i := 2) rfl)
  have HC : Jvm.Lit.constHeld s "com/example/map_rewriter/maprewriter/core/Symbol" 76 := hcalls.1 ("com/example/map_rewriter/maprewriter/core/Symbol", 76) (by simp [consts_1])
  obtain ⟨n, o, h1, h2, h3, _, L, rfl, ⟨rfl, N, -⟩, -, hq⟩ := rm0 l s _ hw tables_1 i0 cS s.heap s.heap.size (Nat.le_refl _) OS HS (Old.start s) HC HW p e ha hc hk s m _ below hf ((Spec.applies_iff_loose hf).mp happ).1 ⟨rfl, State.Warmed39.refl s, rfl, KS.start⟩ trivial
  refine ⟨n, _, h1, h2, h3, hpost _ _ _ _ _ _ ⟨Cond.after_iff.mpr rfl, Cond.after_iff.mpr (eq_i res_at (Term.int_eval (1)) rfl), trivial⟩ ⟨hq.1, hq.2.1, hq.2.2.1, (hq.2.2.2.sift fun y hy => Or.inr (N y hy)).mono (by decide) (by decide)⟩⟩
theorem main_1_1 : Claimed_1_1 := comes_1 fun _ _ _ _ _ _ h hF => ⟨h.1, hF⟩
theorem main_1_2 : Claimed_1_2 := comes_1 fun _ _ _ _ _ _ h hF => ⟨h.2.1, hF⟩
end Jvm.Pilot.@@N@@
namespace Jvm.Pilot.@@N@@
open Jvm Jvm.ClassFile Sem Op Lib Jvm.Free Jvm.Stand Jvm.Pilot.@@N@@.Jvm.D
/-! MADE BY PROGRAM (witnessworld.py) out of the Statement's table words and the real class files: 18 classes; the members and pool entries that the words name. The judged class is class 1, her method 3. -/
namespace start1
open Jvm.ClassFile
def u (s : String) : CpInfo := .utf8 (stringToUtf16 s)
/-- a pool by its gaps: so many unusable entries, then the entry; so many at the end -/
def gap : Nat → List CpInfo → List CpInfo
  | 0, r => r
  | n + 1, r => .unusable :: gap n r
def poolList (es : List (Nat × CpInfo)) (last : Nat) : List CpInfo := es.foldr (fun e r => gap e.1 (e.2 :: r)) (gap last [])
def pool (es : List (Nat × CpInfo)) (last : Nat) : Array CpInfo := ⟨poolList es last⟩
def fileOf (pool : Array CpInfo) (this : Nat) (attrs : Array Attribute := #[]) (ms : Array MethodInfo := #[]) (fl : Nat := 33) (sup : Nat := 0) (ifs : Array Nat := #[]) (fds : Array FieldInfo := #[]) : ClassFile where
  minorVersion := 0
  majorVersion := 65
  constantPool := pool
  accessFlags := fl
  thisClass := this
  superClass := sup
  interfaces := ifs
  fields := fds
  methods := ms
  attributes := attrs
def plain (name : String) (sup : Option ClassId) : Class where
  name := name
  kind := .ordinary
  loader := none
  accessFlags := 33
  super := sup
  interfaces := #[]
  cf := none
  fields := #[]
  methods := #[]
  instanceTypes := #[]
  staticTypes := #[]
  resolved := #[]
  callSites := []
  init := .initialized
  statics := none
  mirror := none

def pool0 : Array CpInfo := pool [(5, u "<init>"), (0, u "()V"), (1, .class_ 10), (1, u "java/lang/Object")] 113

def k0m0 : Method := { name := "<init>", desc := "()V", sig := { parameters := [], returnType := none }, accessFlags := 1, code := none }
/-- java/lang/Object -/
def k0 : Class := { plain "java/lang/Object" none with
  accessFlags := 33
  interfaces := #[]
  cf := some (fileOf pool0 8 #[] #[{ accessFlags := 1, nameIndex := 5, descriptorIndex := 6, attributes := #[] }] 33 0 #[] #[])
  fields := #[]
  methods := #[k0m0]
  instanceTypes := #[]
  staticTypes := #[]
  resolved := Array.replicate 124 none
  statics := none }

def pool1 : Array CpInfo := pool [(2, .class_ 4), (1, u "java/lang/Object"), (0, u "<init>"), (0, u "()V"), (0, .methodref 8 9), (0, .class_ 10), (0, .nameAndType 11 12), (0, u "com/example/map_rewriter/maprewriter/core/Symbol"), (0, u "isSymbolCharacter"), (0, u "(I)Z"), (0, .methodref 14 15), (0, .class_ 16), (0, .nameAndType 17 12), (0, u "com/example/map_rewriter/maprewriter/core/SymbolIsSymbolCharacterPinLaw"), (0, u "expected"), (0, .methodref 14 19), (0, .nameAndType 20 12), (0, u "agrees"), (3, u "law")] 2

def k1m0 : Method := { name := "<init>", desc := "()V", sig := { parameters := [], returnType := none }, accessFlags := 1, code := none }
def k1c1 : Code := { maxStack := 2, maxLocals := 1, code := method_2_code, exceptionTable := #[], attributes := #[] }
def k1m1 : Method := { name := "expected", desc := "(I)Z", sig := { parameters := [.int], returnType := some .boolean }, accessFlags := 10, code := some k1c1 }
def k1c2 : Code := { maxStack := 2, maxLocals := 1, code := method_3_code, exceptionTable := #[], attributes := #[] }
def k1m2 : Method := { name := "agrees", desc := "(I)Z", sig := { parameters := [.int], returnType := some .boolean }, accessFlags := 10, code := some k1c2 }
def k1c3 : Code := { maxStack := 2, maxLocals := 1, code := code, exceptionTable := #[], attributes := #[] }
def k1m3 : Method := { name := "law", desc := "(I)Z", sig := { parameters := [.int], returnType := some .boolean }, accessFlags := 9, code := some k1c3 }
/-- com/example/map_rewriter/maprewriter/core/SymbolIsSymbolCharacterPinLaw -/
def k1 : Class := { plain "com/example/map_rewriter/maprewriter/core/SymbolIsSymbolCharacterPinLaw" (some 0) with
  accessFlags := 49
  interfaces := #[]
  cf := some (fileOf pool1 14 #[] #[{ accessFlags := 1, nameIndex := 5, descriptorIndex := 6, attributes := #[] }, { accessFlags := 10, nameIndex := 17, descriptorIndex := 12, attributes := #[] }, { accessFlags := 10, nameIndex := 20, descriptorIndex := 12, attributes := #[] }, { accessFlags := 9, nameIndex := 24, descriptorIndex := 12, attributes := #[] }] 49 2 #[] #[])
  fields := #[]
  methods := #[k1m0, k1m1, k1m2, k1m3]
  instanceTypes := #[]
  staticTypes := #[]
  resolved := Array.replicate 27 none
  statics := none }

def pool2 : Array CpInfo := pool [(2, .class_ 4), (1, u "java/lang/Object"), (3, u "content"), (6, .methodref 16 17), (0, .class_ 18), (0, .nameAndType 19 20), (0, u "java/lang/String"), (0, u "indexOf"), (0, u "(I)I"), (10, .class_ 33), (1, u "com/example/map_rewriter/maprewriter/core/Symbol"), (5, u "Ljava/lang/String;"), (2, u "quoted"), (0, u "Z"), (2, u "RESERVED"), (0, u "Ljava/util/Set;"), (17, .methodref 31 66), (0, .nameAndType 67 68), (0, u "isDigit"), (0, u "(I)Z"), (6, u "isSymbolCharacter"), (0, .string 77), (0, u "~!@$%^&*_-+=<>.?/"), (39, u "SYMBOL_PUNCTUATION")] 29

def k2c0 : Code := { maxStack := 2, maxLocals := 1, code := prog_35_method_5_code, exceptionTable := #[], attributes := #[] }
def k2m0 : Method := { name := "isSymbolCharacter", desc := "(I)Z", sig := { parameters := [.int], returnType := some .boolean }, accessFlags := 8, code := some k2c0 }
def k2c1 : Code := { maxStack := 2, maxLocals := 1, code := prog_35_method_6_code, exceptionTable := #[], attributes := #[] }
def k2m1 : Method := { name := "isDigit", desc := "(I)Z", sig := { parameters := [.int], returnType := some .boolean }, accessFlags := 10, code := some k2c1 }
/-- com/example/map_rewriter/maprewriter/core/Symbol -/
def k2 : Class := { plain "com/example/map_rewriter/maprewriter/core/Symbol" (some 0) with
  accessFlags := 49
  interfaces := #[]
  cf := some (fileOf pool2 31 #[] #[{ accessFlags := 8, nameIndex := 75, descriptorIndex := 68, attributes := #[] }, { accessFlags := 10, nameIndex := 67, descriptorIndex := 68, attributes := #[] }] 49 2 #[] #[{ accessFlags := 24, nameIndex := 46, descriptorIndex := 47, attributes := #[] }, { accessFlags := 26, nameIndex := 117, descriptorIndex := 39, attributes := #[] }, { accessFlags := 18, nameIndex := 8, descriptorIndex := 39, attributes := #[] }, { accessFlags := 18, nameIndex := 42, descriptorIndex := 43, attributes := #[] }])
  fields := #[{ name := "RESERVED", type := (.object "java/util/Set"), accessFlags := 24, slot := 0, constantValue := 0 }, { name := "SYMBOL_PUNCTUATION", type := (.object "java/lang/String"), accessFlags := 26, slot := 1, constantValue := 0 }, { name := "content", type := (.object "java/lang/String"), accessFlags := 18, slot := 0, constantValue := 0 }, { name := "quoted", type := .boolean, accessFlags := 18, slot := 1, constantValue := 0 }]
  methods := #[k2m0, k2m1]
  instanceTypes := #[(.object "java/lang/String"), .boolean]
  staticTypes := #[(.object "java/util/Set"), (.object "java/lang/String")]
  resolved := Array.replicate 147 none
  statics := none }

def pool3 : Array CpInfo := pool [(1, .class_ 2), (0, u "java/io/Serializable"), (0, .class_ 4), (0, u "java/lang/Object")] 2

/-- java/io/Serializable -/
def k3 : Class := { plain "java/io/Serializable" (some 0) with
  accessFlags := 1537
  interfaces := #[]
  cf := some (fileOf pool3 1 #[] #[] 1537 3 #[] #[])
  fields := #[]
  methods := #[]
  instanceTypes := #[]
  staticTypes := #[]
  resolved := Array.replicate 7 none
  statics := none }

def pool4 : Array CpInfo := pool [(1, .class_ 2), (0, u "java/lang/Comparable"), (0, .class_ 4), (0, u "java/lang/Object")] 7

/-- java/lang/Comparable -/
def k4 : Class := { plain "java/lang/Comparable" (some 0) with
  accessFlags := 1537
  interfaces := #[]
  cf := some (fileOf pool4 1 #[] #[] 1537 3 #[] #[])
  fields := #[]
  methods := #[]
  instanceTypes := #[]
  staticTypes := #[]
  resolved := Array.replicate 12 none
  statics := none }

def pool5 : Array CpInfo := pool [(2, .class_ 4), (1, u "java/lang/CharSequence"), (42, .class_ 48), (0, u "java/lang/CharSequence$1CodePointIterator"), (10, .class_ 60), (0, u "java/lang/CharSequence$1CharIterator"), (5, .class_ 67), (0, u "java/lang/Object")] 63

/-- java/lang/CharSequence -/
def k5 : Class := { plain "java/lang/CharSequence" (some 0) with
  accessFlags := 1537
  interfaces := #[]
  cf := some (fileOf pool5 2 #[.nestMembers #[47, 59]] #[] 1537 66 #[] #[])
  fields := #[]
  methods := #[]
  instanceTypes := #[]
  staticTypes := #[]
  resolved := Array.replicate 131 none
  statics := none }

def pool6 : Array CpInfo := pool [(1, .class_ 2), (0, u "java/lang/constant/Constable"), (0, .class_ 4), (0, u "java/lang/Object")] 6

/-- java/lang/constant/Constable -/
def k6 : Class := { plain "java/lang/constant/Constable" (some 0) with
  accessFlags := 1537
  interfaces := #[]
  cf := some (fileOf pool6 1 #[] #[] 1537 3 #[] #[])
  fields := #[]
  methods := #[]
  instanceTypes := #[]
  staticTypes := #[]
  resolved := Array.replicate 11 none
  statics := none }

def pool7 : Array CpInfo := pool [(1, .class_ 2), (0, u "java/lang/constant/ConstantDesc"), (0, .class_ 4), (0, u "java/lang/Object")] 32

/-- java/lang/constant/ConstantDesc -/
def k7 : Class := { plain "java/lang/constant/ConstantDesc" (some 0) with
  accessFlags := 1537
  interfaces := #[]
  cf := some (fileOf pool7 1 #[] #[] 1537 3 #[] #[])
  fields := #[]
  methods := #[]
  instanceTypes := #[]
  staticTypes := #[]
  resolved := Array.replicate 37 none
  statics := none }

def pool8 : Array CpInfo := pool [(2, .class_ 4), (1, u "java/lang/Object"), (0, u "<init>"), (0, u "()V"), (2, .fieldref 10 11), (0, .class_ 12), (0, .nameAndType 13 14), (0, u "java/lang/String"), (0, u "value"), (0, u "[B"), (0, .fieldref 10 16), (0, .nameAndType 17 18), (0, u "coder"), (0, u "B"), (2, u "hash"), (0, u "I"), (2, u "hashIsZero"), (0, u "Z"), (11, .fieldref 10 39), (0, .nameAndType 40 26), (0, u "COMPACT_STRINGS"), (66, .class_ 109), (1, u "java/lang/StringLatin1"), (32, u "()Z"), (191, u "()I"), (0, .methodref 10 336), (0, .nameAndType 17 337), (0, u "()B"), (154, .methodref 10 493), (0, .nameAndType 494 142), (0, u "isLatin1"), (10, .methodref 10 506), (0, .nameAndType 507 334), (0, u "length"), (67, .class_ 576), (0, u "java/lang/CharSequence"), (22, u "CASE_INSENSITIVE_ORDER"), (0, u "Ljava/util/Comparator;"), (32, .methodref 10 634), (0, .nameAndType 635 636), (0, u "indexOf"), (0, u "(II)I"), (0, .methodref 107 638), (0, .nameAndType 635 639), (0, u "([BIII)I"), (125, u "(I)I"), (335, u "serialPersistentFields"), (0, u "[Ljava/io/ObjectStreamField;"), (0, .class_ 1104), (0, u "java/lang/String$CaseInsensitiveComparator"), (1, .class_ 1107), (0, u "java/io/Serializable"), (0, .class_ 1109), (0, u "java/lang/Comparable"), (0, .class_ 1111), (0, u "java/lang/constant/Constable"), (0, .class_ 1113), (0, u "java/lang/constant/ConstantDesc"), (2, u "serialVersionUID"), (0, u "J"), (3, u "REPL"), (0, u "C"), (2, u "LATIN1"), (1, u "UTF16")] 323

def k8m0 : Method := { name := "<init>", desc := "()V", sig := { parameters := [], returnType := none }, accessFlags := 1, code := none }
def k8c1 : Code := { maxStack := 2, maxLocals := 1, code := jdk_42_method_54_code, exceptionTable := #[], attributes := #[] }
def k8m1 : Method := { name := "length", desc := "()I", sig := { parameters := [], returnType := some .int }, accessFlags := 1, code := some k8c1 }
def k8c2 : Code := { maxStack := 3, maxLocals := 2, code := jdk_42_method_79_code, exceptionTable := #[], attributes := #[] }
def k8m2 : Method := { name := "indexOf", desc := "(I)I", sig := { parameters := [.int], returnType := some .int }, accessFlags := 1, code := some k8c2 }
def k8c3 : Code := { maxStack := 4, maxLocals := 3, code := jdk_42_method_80_code, exceptionTable := #[], attributes := #[] }
def k8m3 : Method := { name := "indexOf", desc := "(II)I", sig := { parameters := [.int, .int], returnType := some .int }, accessFlags := 1, code := some k8c3 }
def k8c4 : Code := { maxStack := 1, maxLocals := 1, code := jdk_42_method_152_code, exceptionTable := #[], attributes := #[] }
def k8m4 : Method := { name := "coder", desc := "()B", sig := { parameters := [], returnType := some .byte }, accessFlags := 0, code := some k8c4 }
def k8c5 : Code := { maxStack := 1, maxLocals := 1, code := jdk_42_method_154_code, exceptionTable := #[], attributes := #[] }
def k8m5 : Method := { name := "isLatin1", desc := "()Z", sig := { parameters := [], returnType := some .boolean }, accessFlags := 0, code := some k8c5 }
/-- java/lang/String -/
def k8 : Class := { plain "java/lang/String" (some 0) with
  accessFlags := 49
  interfaces := #[3, 4, 5, 6, 7]
  cf := some (fileOf pool8 10 #[.nestMembers #[1103]] #[{ accessFlags := 1, nameIndex := 5, descriptorIndex := 6, attributes := #[] }, { accessFlags := 1, nameIndex := 507, descriptorIndex := 334, attributes := #[] }, { accessFlags := 1, nameIndex := 635, descriptorIndex := 765, attributes := #[] }, { accessFlags := 1, nameIndex := 635, descriptorIndex := 636, attributes := #[] }, { accessFlags := 0, nameIndex := 17, descriptorIndex := 337, attributes := #[] }, { accessFlags := 0, nameIndex := 494, descriptorIndex := 142, attributes := #[] }] 49 2 #[1106, 1108, 575, 1110, 1112] #[{ accessFlags := 18, nameIndex := 13, descriptorIndex := 14, attributes := #[] }, { accessFlags := 18, nameIndex := 17, descriptorIndex := 18, attributes := #[] }, { accessFlags := 2, nameIndex := 21, descriptorIndex := 22, attributes := #[] }, { accessFlags := 2, nameIndex := 25, descriptorIndex := 26, attributes := #[] }, { accessFlags := 26, nameIndex := 1116, descriptorIndex := 1117, attributes := #[] }, { accessFlags := 24, nameIndex := 40, descriptorIndex := 26, attributes := #[] }, { accessFlags := 26, nameIndex := 1101, descriptorIndex := 1102, attributes := #[] }, { accessFlags := 26, nameIndex := 1121, descriptorIndex := 1122, attributes := #[] }, { accessFlags := 25, nameIndex := 599, descriptorIndex := 600, attributes := #[] }, { accessFlags := 24, nameIndex := 1125, descriptorIndex := 18, attributes := #[] }, { accessFlags := 24, nameIndex := 1127, descriptorIndex := 18, attributes := #[] }])
  fields := #[{ name := "value", type := (.array .byte), accessFlags := 18, slot := 0, constantValue := 0 }, { name := "coder", type := .byte, accessFlags := 18, slot := 1, constantValue := 0 }, { name := "hash", type := .int, accessFlags := 2, slot := 2, constantValue := 0 }, { name := "hashIsZero", type := .boolean, accessFlags := 2, slot := 3, constantValue := 0 }, { name := "serialVersionUID", type := .long, accessFlags := 26, slot := 0, constantValue := 0 }, { name := "COMPACT_STRINGS", type := .boolean, accessFlags := 24, slot := 1, constantValue := 0 }, { name := "serialPersistentFields", type := (.array (.object "java/io/ObjectStreamField")), accessFlags := 26, slot := 2, constantValue := 0 }, { name := "REPL", type := .char, accessFlags := 26, slot := 3, constantValue := 0 }, { name := "CASE_INSENSITIVE_ORDER", type := (.object "java/util/Comparator"), accessFlags := 25, slot := 4, constantValue := 0 }, { name := "LATIN1", type := .byte, accessFlags := 24, slot := 5, constantValue := 0 }, { name := "UTF16", type := .byte, accessFlags := 24, slot := 6, constantValue := 0 }]
  methods := #[k8m0, k8m1, k8m2, k8m3, k8m4, k8m5]
  instanceTypes := #[(.array .byte), .byte, .int, .boolean]
  staticTypes := #[.long, .boolean, (.array (.object "java/io/ObjectStreamField")), .char, (.object "java/util/Comparator"), .byte, .byte]
  resolved := Array.replicate 1451 none
  statics := some 0 }

def pool9 : Array CpInfo := pool [(4, .class_ 6), (1, u "java/lang/Object"), (0, u "<init>"), (0, u "()V"), (5, .class_ 16), (1, u "java/lang/StringLatin1"), (21, .methodref 39 40), (0, .class_ 41), (0, .nameAndType 42 43), (0, u "java/lang/Math"), (0, u "min"), (0, u "(II)I"), (44, .methodref 14 89), (0, .nameAndType 90 91), (0, u "canEncode"), (0, u "(I)Z"), (0, .methodref 39 93), (0, .nameAndType 94 43), (0, u "max"), (0, .methodref 14 96), (0, .nameAndType 97 98), (0, u "indexOfChar"), (0, u "([BIII)I"), (2, u "indexOf"), (19, u "$assertionsDisabled"), (0, u "Z"), (98, .class_ 223), (1, u "java/lang/StringLatin1$LinesSpliterator"), (166, .class_ 391), (0, u "java/lang/StringLatin1$CharsSpliterator")] 3

def k9m0 : Method := { name := "<init>", desc := "()V", sig := { parameters := [], returnType := none }, accessFlags := 0, code := none }
def k9c1 : Code := { maxStack := 2, maxLocals := 1, code := jdk_43_method_4_code, exceptionTable := #[], attributes := #[] }
def k9m1 : Method := { name := "canEncode", desc := "(I)Z", sig := { parameters := [.int], returnType := some .boolean }, accessFlags := 9, code := some k9c1 }
def k9c2 : Code := { maxStack := 4, maxLocals := 4, code := jdk_43_method_22_code, exceptionTable := #[], attributes := #[] }
def k9m2 : Method := { name := "indexOf", desc := "([BIII)I", sig := { parameters := [(.array .byte), .int, .int, .int], returnType := some .int }, accessFlags := 9, code := some k9c2 }
def k9c3 : Code := { maxStack := 2, maxLocals := 6, code := jdk_43_method_23_code, exceptionTable := #[], attributes := #[] }
def k9m3 : Method := { name := "indexOfChar", desc := "([BIII)I", sig := { parameters := [(.array .byte), .int, .int, .int], returnType := some .int }, accessFlags := 10, code := some k9c3 }
/-- java/lang/StringLatin1 -/
def k9 : Class := { plain "java/lang/StringLatin1" (some 0) with
  accessFlags := 48
  interfaces := #[]
  cf := some (fileOf pool9 14 #[.nestMembers #[390, 221]] #[{ accessFlags := 0, nameIndex := 7, descriptorIndex := 8, attributes := #[] }, { accessFlags := 9, nameIndex := 90, descriptorIndex := 91, attributes := #[] }, { accessFlags := 9, nameIndex := 101, descriptorIndex := 98, attributes := #[] }, { accessFlags := 10, nameIndex := 97, descriptorIndex := 98, attributes := #[] }] 48 4 #[] #[{ accessFlags := 4120, nameIndex := 121, descriptorIndex := 122, attributes := #[] }])
  fields := #[{ name := "$assertionsDisabled", type := .boolean, accessFlags := 4120, slot := 0, constantValue := 0 }]
  methods := #[k9m0, k9m1, k9m2, k9m3]
  instanceTypes := #[]
  staticTypes := #[.boolean]
  resolved := Array.replicate 395 none
  statics := none }

def pool10 : Array CpInfo := pool [(1, .class_ 2), (0, u "java/lang/Math"), (1, .class_ 6), (1, u "java/lang/Object"), (0, u "<init>"), (0, u "()V"), (89, .class_ 100), (1, u "java/lang/Math$RandomNumberGeneratorHolder"), (71, u "negativeZeroFloatBits"), (0, u "J"), (2, u "negativeZeroDoubleBits"), (21, u "max"), (2, u "min"), (43, u "$assertionsDisabled"), (0, u "Z"), (88, u "(II)I"), (2, u "twoToTheDoubleScaleDown"), (0, u "D"), (4, u "twoToTheDoubleScaleUp"), (9, u "E"), (3, u "PI"), (2, u "TAU"), (2, u "DEGREES_TO_RADIANS"), (0, u "RADIANS_TO_DEGREES")] 94

def k10m0 : Method := { name := "<init>", desc := "()V", sig := { parameters := [], returnType := none }, accessFlags := 2, code := none }
def k10c1 : Code := { maxStack := 2, maxLocals := 2, code := jdk_29_method_65_code, exceptionTable := #[], attributes := #[] }
def k10m1 : Method := { name := "max", desc := "(II)I", sig := { parameters := [.int, .int], returnType := some .int }, accessFlags := 9, code := some k10c1 }
def k10c2 : Code := { maxStack := 2, maxLocals := 2, code := jdk_29_method_69_code, exceptionTable := #[], attributes := #[] }
def k10m2 : Method := { name := "min", desc := "(II)I", sig := { parameters := [.int, .int], returnType := some .int }, accessFlags := 9, code := some k10c2 }
/-- java/lang/Math -/
def k10 : Class := { plain "java/lang/Math" (some 0) with
  accessFlags := 49
  interfaces := #[]
  cf := some (fileOf pool10 1 #[.nestMembers #[98]] #[{ accessFlags := 2, nameIndex := 7, descriptorIndex := 8, attributes := #[] }, { accessFlags := 9, nameIndex := 198, descriptorIndex := 335, attributes := #[] }, { accessFlags := 9, nameIndex := 201, descriptorIndex := 335, attributes := #[] }] 49 4 #[] #[{ accessFlags := 25, nameIndex := 354, descriptorIndex := 339, attributes := #[] }, { accessFlags := 25, nameIndex := 358, descriptorIndex := 339, attributes := #[] }, { accessFlags := 25, nameIndex := 361, descriptorIndex := 339, attributes := #[] }, { accessFlags := 26, nameIndex := 364, descriptorIndex := 339, attributes := #[] }, { accessFlags := 26, nameIndex := 365, descriptorIndex := 339, attributes := #[] }, { accessFlags := 26, nameIndex := 172, descriptorIndex := 173, attributes := #[] }, { accessFlags := 26, nameIndex := 176, descriptorIndex := 173, attributes := #[] }, { accessFlags := 8, nameIndex := 344, descriptorIndex := 339, attributes := #[] }, { accessFlags := 8, nameIndex := 338, descriptorIndex := 339, attributes := #[] }, { accessFlags := 4120, nameIndex := 245, descriptorIndex := 246, attributes := #[] }])
  fields := #[{ name := "E", type := .double, accessFlags := 25, slot := 0, constantValue := 0 }, { name := "PI", type := .double, accessFlags := 25, slot := 1, constantValue := 0 }, { name := "TAU", type := .double, accessFlags := 25, slot := 2, constantValue := 0 }, { name := "DEGREES_TO_RADIANS", type := .double, accessFlags := 26, slot := 3, constantValue := 0 }, { name := "RADIANS_TO_DEGREES", type := .double, accessFlags := 26, slot := 4, constantValue := 0 }, { name := "negativeZeroFloatBits", type := .long, accessFlags := 26, slot := 5, constantValue := 0 }, { name := "negativeZeroDoubleBits", type := .long, accessFlags := 26, slot := 6, constantValue := 0 }, { name := "twoToTheDoubleScaleUp", type := .double, accessFlags := 8, slot := 7, constantValue := 0 }, { name := "twoToTheDoubleScaleDown", type := .double, accessFlags := 8, slot := 8, constantValue := 0 }, { name := "$assertionsDisabled", type := .boolean, accessFlags := 4120, slot := 9, constantValue := 0 }]
  methods := #[k10m0, k10m1, k10m2]
  instanceTypes := #[]
  staticTypes := #[.double, .double, .double, .double, .double, .long, .long, .double, .double, .boolean]
  resolved := Array.replicate 460 none
  statics := none }

def pool11 : Array CpInfo := pool [(2, .class_ 4), (1, u "java/lang/Object"), (0, u "<init>"), (0, u "()V"), (17, .class_ 26), (1, u "jdk/internal/util/Preconditions"), (28, .class_ 56), (0, u "jdk/internal/util/Preconditions$4"), (57, .class_ 115), (0, u "jdk/internal/util/Preconditions$1"), (7, u "SIOOBE_FORMATTER"), (0, u "Ljava/util/function/BiFunction;"), (0, .class_ 126), (0, u "jdk/internal/util/Preconditions$2"), (3, u "AIOOBE_FORMATTER"), (0, .class_ 132), (0, u "jdk/internal/util/Preconditions$3"), (3, u "IOOBE_FORMATTER")] 57

def k11m0 : Method := { name := "<init>", desc := "()V", sig := { parameters := [], returnType := none }, accessFlags := 1, code := none }
/-- jdk/internal/util/Preconditions -/
def k11 : Class := { plain "jdk/internal/util/Preconditions" (some 0) with
  accessFlags := 33
  interfaces := #[]
  cf := some (fileOf pool11 24 #[.nestMembers #[55, 131, 125, 114]] #[{ accessFlags := 1, nameIndex := 5, descriptorIndex := 6, attributes := #[] }] 33 2 #[] #[{ accessFlags := 25, nameIndex := 123, descriptorIndex := 124, attributes := #[] }, { accessFlags := 25, nameIndex := 130, descriptorIndex := 124, attributes := #[] }, { accessFlags := 25, nameIndex := 136, descriptorIndex := 124, attributes := #[] }])
  fields := #[{ name := "SIOOBE_FORMATTER", type := (.object "java/util/function/BiFunction"), accessFlags := 25, slot := 0, constantValue := 0 }, { name := "AIOOBE_FORMATTER", type := (.object "java/util/function/BiFunction"), accessFlags := 25, slot := 1, constantValue := 0 }, { name := "IOOBE_FORMATTER", type := (.object "java/util/function/BiFunction"), accessFlags := 25, slot := 2, constantValue := 0 }]
  methods := #[k11m0]
  instanceTypes := #[]
  staticTypes := #[(.object "java/util/function/BiFunction"), (.object "java/util/function/BiFunction"), (.object "java/util/function/BiFunction")]
  resolved := Array.replicate 194 none
  statics := some 1 }

def pool12 : Array CpInfo := pool [(9, u "<init>"), (6, .class_ 18), (1, u "java/lang/Object"), (0, u "()V"), (1, .class_ 23), (1, u "jdk/internal/util/ArraysSupport"), (0, u "LOG2_ARRAY_LONG_INDEX_SCALE"), (0, u "I"), (2, u "U"), (0, u "Ljdk/internal/misc/Unsafe;"), (8, u "BIG_ENDIAN"), (0, u "Z"), (8, u "LOG2_BYTE_BIT_SIZE"), (4, u "LOG2_ARRAY_INT_INDEX_SCALE"), (54, u "JLA"), (0, u "Ljdk/internal/access/JavaLangAccess;"), (11, u "LOG2_ARRAY_BOOLEAN_INDEX_SCALE"), (9, u "LOG2_ARRAY_BYTE_INDEX_SCALE"), (5, u "LOG2_ARRAY_CHAR_INDEX_SCALE"), (5, u "LOG2_ARRAY_SHORT_INDEX_SCALE"), (18, u "LOG2_ARRAY_FLOAT_INDEX_SCALE"), (24, u "LOG2_ARRAY_DOUBLE_INDEX_SCALE"), (89, u "T_BOOLEAN"), (2, u "T_CHAR"), (1, u "T_FLOAT"), (1, u "T_DOUBLE"), (1, u "T_BYTE"), (1, u "T_SHORT"), (1, u "T_INT"), (1, u "T_LONG"), (1, u "SOFT_MAX_ARRAY_LENGTH")] 83

def k12m0 : Method := { name := "<init>", desc := "()V", sig := { parameters := [], returnType := none }, accessFlags := 2, code := none }
/-- jdk/internal/util/ArraysSupport -/
def k12 : Class := { plain "jdk/internal/util/ArraysSupport" (some 0) with
  accessFlags := 33
  interfaces := #[]
  cf := some (fileOf pool12 21 #[] #[{ accessFlags := 2, nameIndex := 9, descriptorIndex := 19, attributes := #[] }] 33 16 #[] #[{ accessFlags := 24, nameIndex := 28, descriptorIndex := 29, attributes := #[] }, { accessFlags := 26, nameIndex := 38, descriptorIndex := 39, attributes := #[] }, { accessFlags := 25, nameIndex := 121, descriptorIndex := 25, attributes := #[] }, { accessFlags := 25, nameIndex := 131, descriptorIndex := 25, attributes := #[] }, { accessFlags := 25, nameIndex := 137, descriptorIndex := 25, attributes := #[] }, { accessFlags := 25, nameIndex := 143, descriptorIndex := 25, attributes := #[] }, { accessFlags := 25, nameIndex := 53, descriptorIndex := 25, attributes := #[] }, { accessFlags := 25, nameIndex := 24, descriptorIndex := 25, attributes := #[] }, { accessFlags := 25, nameIndex := 162, descriptorIndex := 25, attributes := #[] }, { accessFlags := 25, nameIndex := 187, descriptorIndex := 25, attributes := #[] }, { accessFlags := 26, nameIndex := 48, descriptorIndex := 25, attributes := #[] }, { accessFlags := 25, nameIndex := 277, descriptorIndex := 25, attributes := #[] }, { accessFlags := 25, nameIndex := 280, descriptorIndex := 25, attributes := #[] }, { accessFlags := 25, nameIndex := 282, descriptorIndex := 25, attributes := #[] }, { accessFlags := 25, nameIndex := 284, descriptorIndex := 25, attributes := #[] }, { accessFlags := 25, nameIndex := 286, descriptorIndex := 25, attributes := #[] }, { accessFlags := 25, nameIndex := 288, descriptorIndex := 25, attributes := #[] }, { accessFlags := 25, nameIndex := 290, descriptorIndex := 25, attributes := #[] }, { accessFlags := 25, nameIndex := 292, descriptorIndex := 25, attributes := #[] }, { accessFlags := 26, nameIndex := 108, descriptorIndex := 109, attributes := #[] }, { accessFlags := 25, nameIndex := 294, descriptorIndex := 25, attributes := #[] }])
  fields := #[{ name := "U", type := (.object "jdk/internal/misc/Unsafe"), accessFlags := 24, slot := 0, constantValue := 0 }, { name := "BIG_ENDIAN", type := .boolean, accessFlags := 26, slot := 1, constantValue := 0 }, { name := "LOG2_ARRAY_BOOLEAN_INDEX_SCALE", type := .int, accessFlags := 25, slot := 2, constantValue := 0 }, { name := "LOG2_ARRAY_BYTE_INDEX_SCALE", type := .int, accessFlags := 25, slot := 3, constantValue := 0 }, { name := "LOG2_ARRAY_CHAR_INDEX_SCALE", type := .int, accessFlags := 25, slot := 4, constantValue := 0 }, { name := "LOG2_ARRAY_SHORT_INDEX_SCALE", type := .int, accessFlags := 25, slot := 5, constantValue := 0 }, { name := "LOG2_ARRAY_INT_INDEX_SCALE", type := .int, accessFlags := 25, slot := 6, constantValue := 0 }, { name := "LOG2_ARRAY_LONG_INDEX_SCALE", type := .int, accessFlags := 25, slot := 7, constantValue := 0 }, { name := "LOG2_ARRAY_FLOAT_INDEX_SCALE", type := .int, accessFlags := 25, slot := 8, constantValue := 0 }, { name := "LOG2_ARRAY_DOUBLE_INDEX_SCALE", type := .int, accessFlags := 25, slot := 9, constantValue := 0 }, { name := "LOG2_BYTE_BIT_SIZE", type := .int, accessFlags := 26, slot := 10, constantValue := 0 }, { name := "T_BOOLEAN", type := .int, accessFlags := 25, slot := 11, constantValue := 0 }, { name := "T_CHAR", type := .int, accessFlags := 25, slot := 12, constantValue := 0 }, { name := "T_FLOAT", type := .int, accessFlags := 25, slot := 13, constantValue := 0 }, { name := "T_DOUBLE", type := .int, accessFlags := 25, slot := 14, constantValue := 0 }, { name := "T_BYTE", type := .int, accessFlags := 25, slot := 15, constantValue := 0 }, { name := "T_SHORT", type := .int, accessFlags := 25, slot := 16, constantValue := 0 }, { name := "T_INT", type := .int, accessFlags := 25, slot := 17, constantValue := 0 }, { name := "T_LONG", type := .int, accessFlags := 25, slot := 18, constantValue := 0 }, { name := "JLA", type := (.object "jdk/internal/access/JavaLangAccess"), accessFlags := 26, slot := 19, constantValue := 0 }, { name := "SOFT_MAX_ARRAY_LENGTH", type := .int, accessFlags := 25, slot := 20, constantValue := 0 }]
  methods := #[k12m0]
  instanceTypes := #[]
  staticTypes := #[(.object "jdk/internal/misc/Unsafe"), .boolean, .int, .int, .int, .int, .int, .int, .int, .int, .int, .int, .int, .int, .int, .int, .int, .int, .int, (.object "jdk/internal/access/JavaLangAccess"), .int]
  resolved := Array.replicate 378 none
  statics := none }

def pool13 : Array CpInfo := pool [(1, u "java/lang/Cloneable"), (0, .class_ 1), (0, u "java/lang/Object"), (0, .class_ 3)] 3

/-- java/lang/Cloneable -/
def k13 : Class := { plain "java/lang/Cloneable" (some 0) with
  accessFlags := 1537
  interfaces := #[]
  cf := some (fileOf pool13 2 #[] #[] 1537 4 #[] #[])
  fields := #[]
  methods := #[]
  instanceTypes := #[]
  staticTypes := #[]
  resolved := Array.replicate 8 none
  statics := none }

/-- the primitive byte -/
def k14 : Class := { plain "byte" none with kind := .primitive 'B', accessFlags := 0x411 }
/-- [B -/
def k15 : Class := { plain "[B" (some 0) with kind := .array 14 .byte, interfaces := #[13, 3], accessFlags := 1041 }

/-- the primitive int -/
def k16 : Class := { plain "int" none with kind := .primitive 'I', accessFlags := 0x411 }
/-- [I -/
def k17 : Class := { plain "[I" (some 0) with kind := .array 16 .int, interfaces := #[13, 3], accessFlags := 1041 }

def heap : Heap := #[{ cls := 8, slots := #[.long 0, .int 1, .null, .int 0, .null, .int 0, .int 0], vm := .statics 8 },
  { cls := 11, slots := #[.null, .null, .null], vm := .statics 11 }]
def classes : Array Class := #[k0, k1, k2, k3, k4, k5, k6, k7, k8, k9, k10, k11, k12, k13, k14, k15, k16, k17]
def interned : List (Array UInt16 × Addr) := []
def slotsUsed : Nat := 10
def theMethod : MethodId := ⟨1, 3⟩
def args0 : Array Value := #[.int 65]
def aboutOver (below : List Frame) : State where
  vm := { classes := classes, interned := interned.toArray }
  heap := heap
  slotsUsed := slotsUsed
  threads := #[{ frames := .invoking theMethod args0 :: below }]
def below0 : List Frame := [.native { method := ⟨0, 0⟩, args := #[] }]
def about1 : State := aboutOver below0
def p0 : Program := .bare "" "" ""
def e0 : Env := launch0.env 0 0 0
theorem w_frames : about1.frames = Frame.invoking theMethod args0 :: below0 := rfl
set_option maxRecDepth 65536 in
theorem w_args : argsFit about1.vm theMethod args0 = true := by decide +kernel
set_option maxRecDepth 65536 in
theorem w_heap : heapFits about1 = true := by decide +kernel
set_option maxRecDepth 65536 in
theorem w_runnable : about1.curStatus? = some .runnable := by decide +kernel
set_option maxRecDepth 65536 in
theorem w_alone : about1.alone = true := by decide +kernel
set_option maxRecDepth 65536 in
theorem w_named : about1.methodNamed? x = some theMethod := by decide +kernel
set_option maxRecDepth 65536 in
theorem w_hears : about1.hears theMethod below0 = true := by decide +kernel
set_option maxRecDepth 65536 in
theorem w_ripe : about1.ripe theMethod args0 below0 = true := by decide +kernel
theorem w_running : about1.status = .running := rfl
set_option maxRecDepth 65536 in
theorem w_room : about1.hasRoom e0.platform room_1 = true :=
  launch0.hasRoom_least _ room_1 (by decide +kernel) (by decide +kernel) (by decide +kernel) (by decide +kernel) (by decide +kernel) (by decide +kernel)
theorem allAtoms_all (ts : List Jvm.Cond) (a : Array Jvm.Value) (st : Jvm.State) : (allAtoms ts).before a st = ts.all (fun c => c.before a st) := by
  induction ts with
  | nil => rfl
  | cons c t ih =>
    show (Jvm.Cond.and c (allAtoms t)).before a st = _
    rw [Jvm.Cond.before_and, ih, List.all_cons]
def words1 : List Jvm.Cond := Jvm.Cond.code x code maxLocals ret :: tables_1
/-- a 'code' word, met by the world's own term for the bytes: nothing is compared byte by byte -/
theorem code_word {y : MethodName} {bytes : ByteArray} {mx : Nat} {rt : Option FieldType} {a : Array Value} {s : State} {m : MethodId} {meth : Method} {c : Code} (h1 : s.methodNamed? y = some m) (h2 : s.vm.method? m = some meth) (h3 : meth.code = some c) (h4 : c.code = bytes)
    (h5 : (c.maxLocals == mx && c.exceptionTable.isEmpty && decide (c.maxStack ≤ mostOperands) && decide (meth.sig.returnType = rt) && !meth.locks && decide (parseMethodDescriptor y.desc = some meth.sig)) = true) : (Jvm.Cond.code y bytes mx rt).before a s = true := by
  simp only [Bool.and_eq_true, beq_iff_eq, Bool.not_eq_true', decide_eq_true_eq] at h5
  obtain ⟨⟨⟨⟨⟨g1, g2⟩, g3⟩, g4⟩, g5⟩, g6⟩ := h5
  simp [Cond.before, Cond.holds, Cond.value, h1, h2, h3, h4, g1, g2, g3, g4, g5, g6]
def isCode : Jvm.Cond → Bool
  | .code _ _ _ _ => true
  | _ => false
theorem all_split {L : List Jvm.Cond} {P : Jvm.Cond → Bool} (h1 : L.all (fun c => isCode c || P c) = true) (h2 : ∀ c ∈ L.filter isCode, P c = true) : L.all P = true := by
  refine List.all_eq_true.mpr fun c hc => ?_
  have h := List.all_eq_true.mp h1 c hc
  rcases Bool.eq_false_or_eq_true (isCode c) with hi | hi
  · exact h2 c (List.mem_filter.mpr ⟨hc, hi⟩)
  · simpa [hi] using h
set_option maxRecDepth 65536 in
theorem w_c0 : (Jvm.Cond.code x code maxLocals ret).before args0 about1 = true := code_word (m := ⟨1, 3⟩) (meth := k1m3) (c := k1c3) (by decide +kernel) rfl rfl rfl (by decide +kernel)
set_option maxRecDepth 65536 in
theorem w_c1 : (Jvm.Cond.code ({ cls := "com/example/map_rewriter/maprewriter/core/SymbolIsSymbolCharacterPinLaw", name := "agrees", desc := "(I)Z" } : Jvm.MethodName) method_3_code (1 : Nat) (Option.some Jvm.ClassFile.FieldType.boolean)).before args0 about1 = true := code_word (m := ⟨1, 2⟩) (meth := k1m2) (c := k1c2) (by decide +kernel) rfl rfl rfl (by decide +kernel)
set_option maxRecDepth 65536 in
theorem w_c2 : (Jvm.Cond.code ({ cls := "com/example/map_rewriter/maprewriter/core/Symbol", name := "isSymbolCharacter", desc := "(I)Z" } : Jvm.MethodName) prog_35_method_5_code (1 : Nat) (Option.some Jvm.ClassFile.FieldType.boolean)).before args0 about1 = true := code_word (m := ⟨2, 0⟩) (meth := k2m0) (c := k2c0) (by decide +kernel) rfl rfl rfl (by decide +kernel)
set_option maxRecDepth 65536 in
theorem w_c3 : (Jvm.Cond.code ({ cls := "com/example/map_rewriter/maprewriter/core/Symbol", name := "isDigit", desc := "(I)Z" } : Jvm.MethodName) prog_35_method_6_code (1 : Nat) (Option.some Jvm.ClassFile.FieldType.boolean)).before args0 about1 = true := code_word (m := ⟨2, 1⟩) (meth := k2m1) (c := k2c1) (by decide +kernel) rfl rfl rfl (by decide +kernel)
set_option maxRecDepth 65536 in
theorem w_c4 : (Jvm.Cond.code ({ cls := "java/lang/String", name := "indexOf", desc := "(I)I" } : Jvm.MethodName) jdk_42_method_79_code (2 : Nat) (Option.some Jvm.ClassFile.FieldType.int)).before args0 about1 = true := code_word (m := ⟨8, 2⟩) (meth := k8m2) (c := k8c2) (by decide +kernel) rfl rfl rfl (by decide +kernel)
set_option maxRecDepth 65536 in
theorem w_c5 : (Jvm.Cond.code ({ cls := "java/lang/String", name := "indexOf", desc := "(II)I" } : Jvm.MethodName) jdk_42_method_80_code (3 : Nat) (Option.some Jvm.ClassFile.FieldType.int)).before args0 about1 = true := code_word (m := ⟨8, 3⟩) (meth := k8m3) (c := k8c3) (by decide +kernel) rfl rfl rfl (by decide +kernel)
set_option maxRecDepth 65536 in
theorem w_c6 : (Jvm.Cond.code ({ cls := "java/lang/String", name := "isLatin1", desc := "()Z" } : Jvm.MethodName) jdk_42_method_154_code (1 : Nat) (Option.some Jvm.ClassFile.FieldType.boolean)).before args0 about1 = true := code_word (m := ⟨8, 5⟩) (meth := k8m5) (c := k8c5) (by decide +kernel) rfl rfl rfl (by decide +kernel)
set_option maxRecDepth 65536 in
theorem w_c7 : (Jvm.Cond.code ({ cls := "java/lang/String", name := "length", desc := "()I" } : Jvm.MethodName) jdk_42_method_54_code (1 : Nat) (Option.some Jvm.ClassFile.FieldType.int)).before args0 about1 = true := code_word (m := ⟨8, 1⟩) (meth := k8m1) (c := k8c1) (by decide +kernel) rfl rfl rfl (by decide +kernel)
set_option maxRecDepth 65536 in
theorem w_c8 : (Jvm.Cond.code ({ cls := "java/lang/String", name := "coder", desc := "()B" } : Jvm.MethodName) jdk_42_method_152_code (1 : Nat) (Option.some Jvm.ClassFile.FieldType.byte)).before args0 about1 = true := code_word (m := ⟨8, 4⟩) (meth := k8m4) (c := k8c4) (by decide +kernel) rfl rfl rfl (by decide +kernel)
set_option maxRecDepth 65536 in
theorem w_c9 : (Jvm.Cond.code ({ cls := "java/lang/StringLatin1", name := "indexOf", desc := "([BIII)I" } : Jvm.MethodName) jdk_43_method_22_code (4 : Nat) (Option.some Jvm.ClassFile.FieldType.int)).before args0 about1 = true := code_word (m := ⟨9, 2⟩) (meth := k9m2) (c := k9c2) (by decide +kernel) rfl rfl rfl (by decide +kernel)
set_option maxRecDepth 65536 in
theorem w_c10 : (Jvm.Cond.code ({ cls := "java/lang/StringLatin1", name := "canEncode", desc := "(I)Z" } : Jvm.MethodName) jdk_43_method_4_code (1 : Nat) (Option.some Jvm.ClassFile.FieldType.boolean)).before args0 about1 = true := code_word (m := ⟨9, 1⟩) (meth := k9m1) (c := k9c1) (by decide +kernel) rfl rfl rfl (by decide +kernel)
set_option maxRecDepth 65536 in
theorem w_c11 : (Jvm.Cond.code ({ cls := "java/lang/Math", name := "max", desc := "(II)I" } : Jvm.MethodName) jdk_29_method_65_code (2 : Nat) (Option.some Jvm.ClassFile.FieldType.int)).before args0 about1 = true := code_word (m := ⟨10, 1⟩) (meth := k10m1) (c := k10c1) (by decide +kernel) rfl rfl rfl (by decide +kernel)
set_option maxRecDepth 65536 in
theorem w_c12 : (Jvm.Cond.code ({ cls := "java/lang/Math", name := "min", desc := "(II)I" } : Jvm.MethodName) jdk_29_method_69_code (2 : Nat) (Option.some Jvm.ClassFile.FieldType.int)).before args0 about1 = true := code_word (m := ⟨10, 2⟩) (meth := k10m2) (c := k10c2) (by decide +kernel) rfl rfl rfl (by decide +kernel)
set_option maxRecDepth 65536 in
theorem w_c13 : (Jvm.Cond.code ({ cls := "java/lang/StringLatin1", name := "indexOfChar", desc := "([BIII)I" } : Jvm.MethodName) jdk_43_method_23_code (6 : Nat) (Option.some Jvm.ClassFile.FieldType.int)).before args0 about1 = true := code_word (m := ⟨9, 3⟩) (meth := k9m3) (c := k9c3) (by decide +kernel) rfl rfl rfl (by decide +kernel)
set_option maxRecDepth 65536 in
theorem w_c14 : (Jvm.Cond.code ({ cls := "com/example/map_rewriter/maprewriter/core/SymbolIsSymbolCharacterPinLaw", name := "expected", desc := "(I)Z" } : Jvm.MethodName) method_2_code (1 : Nat) (Option.some Jvm.ClassFile.FieldType.boolean)).before args0 about1 = true := code_word (m := ⟨1, 1⟩) (meth := k1m1) (c := k1c1) (by decide +kernel) rfl rfl rfl (by decide +kernel)
def codes1 : List Jvm.Cond := [Jvm.Cond.code x code maxLocals ret, Jvm.Cond.code ({ cls := "com/example/map_rewriter/maprewriter/core/SymbolIsSymbolCharacterPinLaw", name := "agrees", desc := "(I)Z" } : Jvm.MethodName) method_3_code (1 : Nat) (Option.some Jvm.ClassFile.FieldType.boolean), Jvm.Cond.code ({ cls := "com/example/map_rewriter/maprewriter/core/Symbol", name := "isSymbolCharacter", desc := "(I)Z" } : Jvm.MethodName) prog_35_method_5_code (1 : Nat) (Option.some Jvm.ClassFile.FieldType.boolean), Jvm.Cond.code ({ cls := "com/example/map_rewriter/maprewriter/core/Symbol", name := "isDigit", desc := "(I)Z" } : Jvm.MethodName) prog_35_method_6_code (1 : Nat) (Option.some Jvm.ClassFile.FieldType.boolean), Jvm.Cond.code ({ cls := "java/lang/String", name := "indexOf", desc := "(I)I" } : Jvm.MethodName) jdk_42_method_79_code (2 : Nat) (Option.some Jvm.ClassFile.FieldType.int), Jvm.Cond.code ({ cls := "java/lang/String", name := "indexOf", desc := "(II)I" } : Jvm.MethodName) jdk_42_method_80_code (3 : Nat) (Option.some Jvm.ClassFile.FieldType.int), Jvm.Cond.code ({ cls := "java/lang/String", name := "isLatin1", desc := "()Z" } : Jvm.MethodName) jdk_42_method_154_code (1 : Nat) (Option.some Jvm.ClassFile.FieldType.boolean), Jvm.Cond.code ({ cls := "java/lang/String", name := "length", desc := "()I" } : Jvm.MethodName) jdk_42_method_54_code (1 : Nat) (Option.some Jvm.ClassFile.FieldType.int), Jvm.Cond.code ({ cls := "java/lang/String", name := "coder", desc := "()B" } : Jvm.MethodName) jdk_42_method_152_code (1 : Nat) (Option.some Jvm.ClassFile.FieldType.byte), Jvm.Cond.code ({ cls := "java/lang/StringLatin1", name := "indexOf", desc := "([BIII)I" } : Jvm.MethodName) jdk_43_method_22_code (4 : Nat) (Option.some Jvm.ClassFile.FieldType.int), Jvm.Cond.code ({ cls := "java/lang/StringLatin1", name := "canEncode", desc := "(I)Z" } : Jvm.MethodName) jdk_43_method_4_code (1 : Nat) (Option.some Jvm.ClassFile.FieldType.boolean), Jvm.Cond.code ({ cls := "java/lang/Math", name := "max", desc := "(II)I" } : Jvm.MethodName) jdk_29_method_65_code (2 : Nat) (Option.some Jvm.ClassFile.FieldType.int), Jvm.Cond.code ({ cls := "java/lang/Math", name := "min", desc := "(II)I" } : Jvm.MethodName) jdk_29_method_69_code (2 : Nat) (Option.some Jvm.ClassFile.FieldType.int), Jvm.Cond.code ({ cls := "java/lang/StringLatin1", name := "indexOfChar", desc := "([BIII)I" } : Jvm.MethodName) jdk_43_method_23_code (6 : Nat) (Option.some Jvm.ClassFile.FieldType.int), Jvm.Cond.code ({ cls := "com/example/map_rewriter/maprewriter/core/SymbolIsSymbolCharacterPinLaw", name := "expected", desc := "(I)Z" } : Jvm.MethodName) method_2_code (1 : Nat) (Option.some Jvm.ClassFile.FieldType.boolean)]
set_option maxRecDepth 65536 in
theorem codes_eq : words1.filter isCode = codes1 := rfl
theorem w_codes : ∀ c ∈ words1.filter isCode, c.before args0 about1 = true := by
  rw [codes_eq]
  intro c hc
  simp only [codes1, List.mem_cons, List.not_mem_nil, or_false] at hc
  rcases hc with rfl | rfl | rfl | rfl | rfl | rfl | rfl | rfl | rfl | rfl | rfl | rfl | rfl | rfl | rfl
  · exact w_c0
  · exact w_c1
  · exact w_c2
  · exact w_c3
  · exact w_c4
  · exact w_c5
  · exact w_c6
  · exact w_c7
  · exact w_c8
  · exact w_c9
  · exact w_c10
  · exact w_c11
  · exact w_c12
  · exact w_c13
  · exact w_c14
set_option maxRecDepth 65536 in
theorem w_t1 : (words1.take 24).all (fun c => isCode c || c.before args0 about1) = true := by decide +kernel
set_option maxRecDepth 65536 in
theorem w_t2 : ((words1.drop 24).take 24).all (fun c => isCode c || c.before args0 about1) = true := by decide +kernel
set_option maxRecDepth 65536 in
theorem w_t3 : ((words1.drop 24).drop 24).all (fun c => isCode c || c.before args0 about1) = true := by decide +kernel
theorem w_tables : (allAtoms (Jvm.Cond.code x code maxLocals ret :: tables_1)).before args0 about1 = true := by
  rw [allAtoms_all]
  show words1.all (fun c => c.before args0 about1) = true
  refine all_split ?_ w_codes
  rw [← List.take_append_drop 24 words1, List.all_append, w_t1, ← List.take_append_drop 24 (words1.drop 24), List.all_append, w_t2, w_t3]
  rfl
set_option maxRecDepth 65536 in
theorem w_rest : rest_1_c.before args0 about1 = true := by decide +kernel
set_option maxRecDepth 65536 in
theorem w_case : (Jvm.Cond.and given_1 narrow_1).before args0 about1 = true := by decide +kernel
set_option maxRecDepth 65536 in
theorem w_consts : constsHeld consts_1 about1 := Jvm.Lit.constsHeldB_iff.mp (by decide +kernel)
theorem w_applies : (headSpec (Jvm.Cond.code x code maxLocals ret :: tables_1) room_1).applies x e0.platform about1 = true :=
  (Spec.applies_iff w_frames).mpr ⟨w_running, w_runnable, w_alone, w_named, w_hears, w_ripe, w_room, w_tables⟩
theorem atStart : AtStart classFile x code maxLocals ret World_1 tables_1 room_1 Calls_1 rest_1 Pre_1 launch0 p0 e0 about1 theMethod args0 below0 :=
  ⟨lists_1, trivial, launch0.admits_env _ _ _, launch0.least_env, fairChoices_fair.cas, fairChoices_fair.clock, w_frames, w_args, w_heap, w_applies, ⟨w_consts, trivial⟩, w_rest, w_case⟩
end start1
theorem witness_1 : WitnessClaimed_1 := ⟨start1.p0, start1.e0, start1.about1, start1.theMethod, start1.args0, start1.below0, start1.atStart⟩
end Jvm.Pilot.@@N@@
