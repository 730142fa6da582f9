import JvmDerived
import JvmDerived.Pilot.@@N@@Statement
import JvmDerived.Pilot.@@N@@Code
set_option linter.unusedVariables false
set_option linter.unusedSimpArgs false
namespace Jvm.Pilot.@@N@@
open Jvm Jvm.ClassFile Sem Op Lib Jvm.Free Jvm.Stand Jvm.LawKit Jvm.RoadKit Bundle Jvm.Pilot.@@N@@.Jvm.D
section Own
variable {p : Program} {l : Launch} {e : Env} {R : Room} {s : State} {m : MethodId} {args : Array Value} {below : List Frame} {meth : Method} {c : Code} {T : State} {locs : List Loc} {cells slots : Nat} {Q : Option Value → Heap → List Loc → Prop} {C S : Nat}
def Goes (p : Program) (e : Env) (below : List Frame) (P : Outcome → State → Prop) (A : State) : Prop :=
  ∃ s₂ o, Steps p.tables e below A s₂ ∧ s₂.status = .running ∧ Ended s₂ below o ∧ P o s₂
def Fin_ (s : State) (Q : Option Value → Heap → List Loc → Prop) (C S : Nat) (o : Outcome) (U' : State) : Prop :=
  ∃ v L, o = .returned v ∧ Q v U'.heap L ∧ FrameEnd s o U' L C S
theorem Goes.via {P : Outcome → State → Prop} {A B : State} (st : ∀ t, Steps p.tables e below B t → Steps p.tables e below A t) (k : Goes p e below P B) : Goes p e below P A := by
  obtain ⟨s₂, o, h1, h2⟩ := k
  exact ⟨s₂, o, st _ h1, h2⟩
theorem Goes.tr {P : Outcome → State → Prop} {A B : State} (st : Steps p.tables e below A B) (k : Goes p e below P B) : Goes p e below P A := by
  obtain ⟨s₂, o, h1, h2⟩ := k
  exact ⟨s₂, o, st.trans h1, h2⟩
theorem own_fin {pc : Nat} {Ls : Array Slot} {st : List Value} (X : Stand p l e R s m args below meth c T locs cells slots) (hlk : meth.locks = false) {v : Option Value} (hv : meth.sig.returnType = none → v = none)
    (hstep : ∀ fs, (∀ (f : JFrame) (acts : List Action), f.method = m → f.locked = none → f.entered = [] → (doReturn e (T.setTop f) acts v).1 = T.setFrames fs) → Steps p.tables e below (T.setTop (mkF m pc Ls st)) (T.setFrames fs))
    (hQ : Q v T.heap locs) (hC : cells ≤ C) (hS : slots ≤ S) : Goes p e below (Fin_ s Q C S) (T.setTop (mkF m pc Ls st)) := by
  obtain ⟨fs, hr, hrun, hended, hW, hsame⟩ := X.leave (v := v) hv hlk
  exact ⟨_, _, hstep fs hr, hrun, hended, _, _, rfl, hQ, ⟨_, rfl⟩, hW, hsame.mono hC hS⟩
theorem own_finV {pc : Nat} {Ls : Array Slot} (X : Stand p l e R s m args below meth c T locs cells slots) (hx : p.tables.exec = Jvm.exec) (hlk : meth.locks = false) (hret : meth.sig.returnType = none)
    (hd : decode c.code pc = .ok (.return_, 1)) (hQ : Q none T.heap locs) (hC : cells ≤ C) (hS : slots ≤ S) : Goes p e below (Fin_ s Q C S) (T.setTop (mkF m pc Ls [])) :=
  own_fin X hlk (fun _ => rfl) (fun _ hr => X.returnOut hx hret hd hr) hQ hC hS
theorem own_finI {pc : Nat} {Ls : Array Slot} {z : Int32} {rest : List Value} (X : Stand p l e R s m args below meth c T locs cells slots) (hx : p.tables.exec = Jvm.exec) (hlk : meth.locks = false) (hret : meth.sig.returnType = some .int)
    (hd : decode c.code pc = .ok (.ireturn, 1)) (hQ : Q (some (.int z)) T.heap locs) (hC : cells ≤ C) (hS : slots ≤ S) : Goes p e below (Fin_ s Q C S) (T.setTop (mkF m pc Ls (.int z :: rest))) :=
  own_fin X hlk (fun h => by rw [hret] at h; cases h) (fun _ hr => retOut X hx hret rfl (Or.inl ⟨rfl, Or.inl rfl, _, rfl⟩) hd hr) hQ hC hS
theorem own_finN {pc : Nat} {Ls : Array Slot} {z : Int32} {rest : List Value} (X : Stand p l e R s m args below meth c T locs cells slots) (hx : p.tables.exec = Jvm.exec) (hlk : meth.locks = false) {t : FieldType} (hret : meth.sig.returnType = some t)
    (ht : t = .boolean ∨ t = .byte ∨ t = .char ∨ t = .short) (hd : decode c.code pc = .ok (.ireturn, 1)) (hQ : Q (some (.int (nar t z))) T.heap locs) (hC : cells ≤ C) (hS : slots ≤ S) : Goes p e below (Fin_ s Q C S) (T.setTop (mkF m pc Ls (.int z :: rest))) :=
  own_fin X hlk (fun h => by rw [hret] at h; cases h) (fun _ hr => retN X hx hret ht hd hr) hQ hC hS
theorem own_finJ {pc : Nat} {Ls : Array Slot} {z : Int64} {rest : List Value} (X : Stand p l e R s m args below meth c T locs cells slots) (hx : p.tables.exec = Jvm.exec) (hlk : meth.locks = false) (hret : meth.sig.returnType = some .long)
    (hd : decode c.code pc = .ok (.lreturn, 1)) (hQ : Q (some (.long z)) T.heap locs) (hC : cells ≤ C) (hS : slots ≤ S) : Goes p e below (Fin_ s Q C S) (T.setTop (mkF m pc Ls (.long z :: rest))) :=
  own_fin X hlk (fun h => by rw [hret] at h; cases h) (fun _ hr => retOut X hx hret rfl (Or.inr (Or.inl ⟨rfl, rfl, _, rfl⟩)) hd hr) hQ hC hS
theorem own_finR {pc : Nat} {Ls : Array Slot} {w : Value} {rest : List Value} (X : Stand p l e R s m args below meth c T locs cells slots) (hx : p.tables.exec = Jvm.exec) (hlk : meth.locks = false) {t : FieldType} (hret : meth.sig.returnType = some t) (ht : t.isReference = true) (hw : w.isRef = true) (hn : narrow t w = w)
    (hd : decode c.code pc = .ok (.areturn, 1)) (hQ : Q (some w) T.heap locs) (hC : cells ≤ C) (hS : slots ≤ S) : Goes p e below (Fin_ s Q C S) (T.setTop (mkF m pc Ls (w :: rest))) :=
  own_fin X hlk (fun h => by rw [hret] at h; cases h) (fun _ hr => retOut X hx hret hn (Or.inr (Or.inr (Or.inr (Or.inr ⟨rfl, ht, hw⟩)))) hd hr) hQ hC hS
theorem own_sta_keep {Z : State} {h h' : Heap} {C n d : String} {v : Value} (F : Sta Z h C n d v) (K : Keep h h' []) : Sta Z h' C n d v := by
  obtain ⟨cf, i, k, f, st, cell, h1, h2, h3, h4, h5, h6⟩ := F
  exact ⟨cf, i, k, f, st, cell, h1, h2, h3, h4, K.2.1 _ _ h5 nin0, h6⟩
theorem own_mask (x : Int32) : ¬ (x &&& (2147483647 : Int32)) < (0 : Int32) := by
  intro q
  have q1 := (c_and x 2147483647 (by decide)).1
  have q2 := Int32.lt_iff_toInt_lt.mp q
  have q3 : (0 : Int32).toInt = 0 := by decide
  omega
end Own
theorem own_ac (x c : Int32) : x + c - x = c := by rw [Int32.add_comm]; exact Int32.add_sub_cancel c x
theorem own_ac1 (x c : Int32) {d : Int32} (h : c = d) : x + c - x = d := by rw [own_ac, h]
theorem own_ac0 (x c : Int32) {d : Int32} (h : c = d) : x + c - x = d := by rw [own_ac, h]
theorem ef_rm2 (m : MethodId) (a : Addr) : entryFrame m #[(.ref a)] 1 = mkF m 0 #[.val (.ref a)] [] := by first | (simp [entryFrame, mkF, argsToLocals, Value.category]; done) | rfl
def Qrm2 (Z : State) (a : Addr) (h0 : Heap) (n0 : Nat) (v_ : Option Value) (h_ : Heap) (L_ : List Loc) : Prop := v_ = none ∧ Fr n0 L_ ∧ h_ = h0
theorem pn_java_lang_Record : plainName "java/lang/Record" = true := by first | (simp [plainName, overriddenIn]; done) | decide +kernel
theorem d2_0 : decode jdk_30_method_1_code 0 = .ok (.aload_n 0, 1) := by decide +kernel
theorem d2_1 : decode jdk_30_method_1_code 1 = .ok (.invokespecial 1, 3) := by decide +kernel
theorem d2_4 : decode jdk_30_method_1_code 4 = .ok (.return_, 1) := by decide +kernel
set_option maxRecDepth 65536 in
set_option maxHeartbeats 40000000 in
theorem rm2 (l : Launch) (Z : State) (a0 : Array Value) (hw : ∀ d ∈ tables_1, d.before a0 Z = true) (ws : List Jvm.Cond) (a : Addr) (h0 : Heap) (n0 : Nat) (Z0 : n0 ≤ h0.size) :
    MetFree l (⟨"java/lang/Record", "<init>", "()V"⟩ : MethodName) (head1 (Jvm.Cond.code (⟨"java/lang/Record", "<init>", "()V"⟩ : MethodName) jdk_30_method_1_code 1 none :: ws) ({ frames := 1, cells := 0, slots := 0, locals := 12 } : Room)) (fun as_ U_ => as_ = #[(.ref a)] ∧ Z.Warmed39 U_.vm ∧ U_.heap = h0) (fun _ _ _ _ _ => True) (fun _ U_ o_ V_ => ∃ v_ L_, o_ = .returned v_ ∧ Qrm2 Z a h0 n0 v_ V_.heap L_ ∧ FrameEnd U_ o_ V_ L_ ({ frames := 1, cells := 0, slots := 0, locals := 12 } : Room).cells ({ frames := 1, cells := 0, slots := 0, locals := 12 } : Room).slots) := by
  refine MetFree.of_bodySF (plainFor_of_name pn_java_lang_Record) hisR ?_
  intro p e s m args below meth c s₁ Bd hml0 hP hK
  obtain ⟨rfl, hZ, hh⟩ := hP
  have hx := Bd.exec
  have hby := Bd.bytes
  have hlk : meth.locks = false := BodyLoose.notSynchronized Bd
  have hret := Bd.returns
  have hml : c.maxLocals = 1 := hml0
  have hown : s.vm.findClass "java/lang/Record" = some m.cls := findClass_of_methodNamed Bd.named
  have hnm := (name_of_methodNamed Bd.named Bd.method).1
  have X0 : Stand p l e ({ frames := 1, cells := 0, slots := 0, locals := 12 } : Room) s m #[(.ref a)] below meth c s₁ [] 0 0 := Stand.of_body Bd
  have e0 : s₁.heap = h0 := by rw [← hh, Bd.state]; rfl
  have N0 := Fr.nil n0
  show Goes p e below (Fin_ s (Qrm2 Z a h0 n0) ({ frames := 1, cells := 0, slots := 0, locals := 12 } : Room).cells ({ frames := 1, cells := 0, slots := 0, locals := 12 } : Room).slots) (s₁.setTop (entryFrame m #[(.ref a)] 1))
  rw [ef_rm2 m a]
  refine Goes.via (fun _ k => XS.aloadN X0.here hx rfl (hb hby d2_0) rfl rfl  k) ?_
  show Goes p e below _ (s₁.setTop (mkF m 1 #[.val (.ref a)] [(.ref a)]))
  obtain ⟨T1, X1, e1, st1⟩ := initO X0 hx hZ hown (hw _ (List.mem_of_getElem? (i := 11) rfl)) (hw _ (List.mem_of_getElem? (i := 12) rfl)) (hw _ (List.mem_of_getElem? (i := 13) rfl)) e0 (g := (mkF m 1 #[.val (.ref a)] [(.ref a)])) rfl (by rw [hml]; rfl) rfl (hb hby d2_1) (by decide) (W := 0) (by show 2 * 0 + _ ≤ _; exact Nat.le_of_eq rfl) (by decide)
  refine Goes.via st1 ?_
  show Goes p e below _ (T1.setTop (mkF m 4 #[.val (.ref a)] []))
  exact own_finV X1 hx hlk hret (hb hby d2_4) (by rw [e1]; exact ⟨rfl, N0, rfl⟩) (by first | decide | omega) (by first | decide | omega)
theorem ef_rm1 (m : MethodId) (a : Addr) (f : Int32) (r : Int32) : entryFrame m #[(.ref a), (.int f), (.int r)] 3 = mkF m 0 #[.val (.ref a), .val (.int f), .val (.int r)] [] := by first | (simp [entryFrame, mkF, argsToLocals, Value.category]; done) | rfl
def Qrm1 (Z : State) (a : Addr) (f : Int32) (r : Int32) (h0 : Heap) (n0 : Nat) (v_ : Option Value) (h_ : Heap) (L_ : List Loc) : Prop := v_ = none ∧ Fr n0 L_ ∧ Keep h0 h_ [a] ∧ Exa Z h_ a "com/example/lincra/lincra/Tally" ∧ Fld Z h_ a "com/example/lincra/lincra/Tally" "fetched" "I" (.int f) ∧ Fld Z h_ a "com/example/lincra/lincra/Tally" "relevant" "I" (.int r)
theorem pn_com_example_lincra_lincra_Tally : plainName "com/example/lincra/lincra/Tally" = true := by first | (simp [plainName, overriddenIn]; done) | decide +kernel
theorem d1_0 : decode prog_14_method_1_code 0 = .ok (.aload_n 0, 1) := by decide +kernel
theorem pd_0 : parseMethodDescriptor "()V" = some ⟨[], none⟩ := by decide +kernel
theorem d1_1 : decode prog_14_method_1_code 1 = .ok (.invokespecial 1, 3) := by decide +kernel
theorem d1_4 : decode prog_14_method_1_code 4 = .ok (.aload_n 0, 1) := by decide +kernel
theorem d1_5 : decode prog_14_method_1_code 5 = .ok (.iload_n 1, 1) := by decide +kernel
theorem d1_6 : decode prog_14_method_1_code 6 = .ok (.putfield 7, 3) := by decide +kernel
theorem d1_9 : decode prog_14_method_1_code 9 = .ok (.aload_n 0, 1) := by decide +kernel
theorem d1_10 : decode prog_14_method_1_code 10 = .ok (.iload_n 2, 1) := by decide +kernel
theorem d1_11 : decode prog_14_method_1_code 11 = .ok (.putfield 13, 3) := by decide +kernel
theorem d1_14 : decode prog_14_method_1_code 14 = .ok (.return_, 1) := by decide +kernel
set_option maxRecDepth 65536 in
set_option maxHeartbeats 40000000 in
theorem rm1 (l : Launch) (Z : State) (a0 : Array Value) (hw : ∀ d ∈ tables_1, d.before a0 Z = true) (ws : List Jvm.Cond) (a : Addr) (f : Int32) (r : Int32) (h0 : Heap) (n0 : Nat) (Z0 : n0 ≤ h0.size) (E0_a : Exa Z h0 a "com/example/lincra/lincra/Tally") (F1_a_fetched : Fld Z h0 a "com/example/lincra/lincra/Tally" "fetched" "I" (.int (0 : Int32))) (F2_a_relevant : Fld Z h0 a "com/example/lincra/lincra/Tally" "relevant" "I" (.int (0 : Int32))) (H3 : n0 ≤ a) :
    MetFree l (⟨"com/example/lincra/lincra/Tally", "<init>", "(II)V"⟩ : MethodName) (head1 (Jvm.Cond.code (⟨"com/example/lincra/lincra/Tally", "<init>", "(II)V"⟩ : MethodName) prog_14_method_1_code 3 none :: ws) ({ frames := 2, cells := 0, slots := 0, locals := 24 } : Room)) (fun as_ U_ => as_ = #[(.ref a), (.int f), (.int r)] ∧ Z.Warmed39 U_.vm ∧ U_.heap = h0) (fun _ _ _ _ _ => True) (fun _ U_ o_ V_ => ∃ v_ L_, o_ = .returned v_ ∧ Qrm1 Z a f r h0 n0 v_ V_.heap L_ ∧ FrameEnd U_ o_ V_ L_ ({ frames := 2, cells := 0, slots := 0, locals := 24 } : Room).cells ({ frames := 2, cells := 0, slots := 0, locals := 24 } : Room).slots) := by
  refine MetFree.of_bodySF (plainFor_of_name pn_com_example_lincra_lincra_Tally) hisR ?_
  intro p e s m args below meth c s₁ Bd hml0 hP hK
  obtain ⟨rfl, hZ, hh⟩ := hP
  have hx := Bd.exec
  have hby := Bd.bytes
  have hlk : meth.locks = false := BodyLoose.notSynchronized Bd
  have hret := Bd.returns
  have hml : c.maxLocals = 3 := hml0
  have hown : s.vm.findClass "com/example/lincra/lincra/Tally" = some m.cls := findClass_of_methodNamed Bd.named
  have hnm := (name_of_methodNamed Bd.named Bd.method).1
  have X0 : Stand p l e ({ frames := 2, cells := 0, slots := 0, locals := 24 } : Room) s m #[(.ref a), (.int f), (.int r)] below meth c s₁ [] 0 0 := Stand.of_body Bd
  have e0 : s₁.heap = h0 := by rw [← hh, Bd.state]; rfl
  have N0 := Fr.nil n0
  show Goes p e below (Fin_ s (Qrm1 Z a f r h0 n0) ({ frames := 2, cells := 0, slots := 0, locals := 24 } : Room).cells ({ frames := 2, cells := 0, slots := 0, locals := 24 } : Room).slots) (s₁.setTop (entryFrame m #[(.ref a), (.int f), (.int r)] 3))
  rw [ef_rm1 m a f r]
  refine Goes.via (fun _ k => XS.aloadN X0.here hx rfl (hb hby d1_0) rfl rfl  k) ?_
  show Goes p e below _ (s₁.setTop (mkF m 1 #[.val (.ref a), .val (.int f), .val (.int r)] [(.ref a)]))
  obtain ⟨_, _, ⟨T1, L1, k1, n1⟩, -, X1, ⟨Lc1, hQ1, l1, y1, z1⟩, st1⟩ := X0.specialBack hx (y := (⟨"java/lang/Record", "<init>", "()V"⟩ : MethodName)) rfl hown (mvT hZ (hw _ (List.mem_of_getElem? (i := 6) rfl))) (mvT hZ (hw _ (List.mem_of_getElem? (i := 7) rfl))) (mvT hZ (hw _ (List.mem_of_getElem? (i := 10) rfl))) (by decide) (backOf (W := 0) (rm2 l Z a0 hw [] a h0 n0 (Nat.le_trans Z0 (Nat.le_refl _)) ) hZ (hw _ (List.mem_of_getElem? (i := 10) rfl)) (hw _ (List.mem_of_getElem? (i := 9) rfl)) (by decide) (by decide)) (g := (mkF m 1 #[.val (.ref a), .val (.int f), .val (.int r)] [(.ref a)])) rfl (by rw [hml]; rfl) (Steps.refl _) (a := a) (argsL := []) (rest := []) (lenOf pd_0 rfl) rfl (by show 2 * 0 + _ ≤ _; exact Nat.le_of_eq rfl) (hb hby d1_1) (fun _ _ => ⟨rfl, e0, (by first | decide | omega : 0 + 0 ≤ _), (by first | decide | omega : 0 + 0 ≤ _)⟩)
  dsimp only [Pt.U, Pt.locs, Pt.cells, Pt.slots] at X1 l1 y1 z1 st1 hQ1
  subst l1 y1 z1
  obtain ⟨rfl, N1q, e1⟩ := hQ1
  have N1 := Fr.app N0 N1q
  refine Goes.tr st1 ?_
  have e1' : T1.heap = h0 := e1
  show Goes p e below _ (T1.setTop (mkF m 4 #[.val (.ref a), .val (.int f), .val (.int r)] []))
  refine Goes.via (fun _ k => XS.aloadN X1.here hx rfl (hb hby d1_4) rfl rfl  k) ?_
  show Goes p e below _ (T1.setTop (mkF m 5 #[.val (.ref a), .val (.int f), .val (.int r)] [(.ref a)]))
  refine Goes.via (fun _ k => XS.iloadN X1.here hx rfl (hb hby d1_5) rfl  k) ?_
  show Goes p e below _ (T1.setTop (mkF m 6 #[.val (.ref a), .val (.int f), .val (.int r)] [(.int f), (.ref a)]))
  obtain ⟨T2, h2, X2, e2, W2, st2⟩ := putF X1 hx hZ hown (host := "") (Or.inl (hw _ (List.mem_of_getElem? (i := 14) rfl))) Via.refl e1' F1_a_fetched E0_a (Or.inr ⟨(hw _ (List.mem_of_getElem? (i := 15) rfl)), rfl, hnm⟩) (hw _ (List.mem_of_getElem? (i := 1) rfl)) (ty := .int) (by decide) rfl rfl (g := (mkF m 6 #[.val (.ref a), .val (.int f), .val (.int r)] [(.int f), (.ref a)])) rfl rfl (hb hby d1_6)
  refine Goes.via st2 ?_
  have N2 := Fr.snoc X2 N1 H3
  have Fw2 : Fld Z h2 a "com/example/lincra/lincra/Tally" "fetched" "I" (.int f) := F1_a_fetched.same W2
  show Goes p e below _ (T2.setTop (mkF m 9 #[.val (.ref a), .val (.int f), .val (.int r)] []))
  refine Goes.via (fun _ k => XS.aloadN X2.here hx rfl (hb hby d1_9) rfl rfl  k) ?_
  show Goes p e below _ (T2.setTop (mkF m 10 #[.val (.ref a), .val (.int f), .val (.int r)] [(.ref a)]))
  refine Goes.via (fun _ k => XS.iloadN X2.here hx rfl (hb hby d1_10) rfl  k) ?_
  show Goes p e below _ (T2.setTop (mkF m 11 #[.val (.ref a), .val (.int f), .val (.int r)] [(.int r), (.ref a)]))
  have f3 : Fld Z h2 a "com/example/lincra/lincra/Tally" "relevant" "I" (.int (0 : Int32)) := (F2_a_relevant.other W2 (Or.inr (slot_ne (Or.inr (hw _ (List.mem_of_getElem? (i := 17) rfl))) (Or.inr (hw _ (List.mem_of_getElem? (i := 15) rfl))) (by decide) (t := .int) (t' := .int) (by decide) (by decide))))
  have f4 : Exa Z h2 a "com/example/lincra/lincra/Tally" := (E0_a.wr W2)
  obtain ⟨T5, h5, X5, e5, W5, st5⟩ := putF X2 hx hZ hown (host := "") (Or.inl (hw _ (List.mem_of_getElem? (i := 16) rfl))) Via.refl e2 f3 f4 (Or.inr ⟨(hw _ (List.mem_of_getElem? (i := 17) rfl)), rfl, hnm⟩) (hw _ (List.mem_of_getElem? (i := 1) rfl)) (ty := .int) (by decide) rfl rfl (g := (mkF m 11 #[.val (.ref a), .val (.int f), .val (.int r)] [(.int r), (.ref a)])) rfl rfl (hb hby d1_11)
  refine Goes.via st5 ?_
  have N5 := Fr.snoc X5 N2 H3
  have Fw5 : Fld Z h5 a "com/example/lincra/lincra/Tally" "relevant" "I" (.int r) := f3.same W5
  show Goes p e below _ (T5.setTop (mkF m 14 #[.val (.ref a), .val (.int f), .val (.int r)] []))
  have K6 : Keep h0 h5 [a] := (((Keep.refl h0 [a]).wr W2 (Or.inl (List.mem_of_getElem? (i := 0) rfl))).wr W5 (Or.inl (List.mem_of_getElem? (i := 0) rfl)))
  have f7 : Exa Z h5 a "com/example/lincra/lincra/Tally" := (f4.wr W5)
  have f8 : Fld Z h5 a "com/example/lincra/lincra/Tally" "fetched" "I" (.int f) := (Fw2.other W5 (Or.inr (slot_ne (Or.inr (hw _ (List.mem_of_getElem? (i := 15) rfl))) (Or.inr (hw _ (List.mem_of_getElem? (i := 17) rfl))) (by decide) (t := .int) (t' := .int) (by decide) (by decide))))
  exact own_finV X5 hx hlk hret (hb hby d1_14) (by rw [e5]; exact ⟨rfl, N5, K6, f7, f8, Fw5⟩) (by first | decide | omega) (by first | decide | omega)
theorem ef_rm4 (m : MethodId) (a : Addr) (b : Int32) : entryFrame m #[(.ref a), (.int b)] 2 = mkF m 0 #[.val (.ref a), .val (.int b)] [] := by first | (simp [entryFrame, mkF, argsToLocals, Value.category]; done) | rfl
def Qrm4 (Z : State) (a : Addr) (b : Int32) (u : Int32) (w : Int32) (h0 : Heap) (n0 : Nat) (v_ : Option Value) (h_ : Heap) (L_ : List Loc) : Prop := ∃ nb : Addr, v_ = some (.ref nb) ∧ Fr n0 L_ ∧ Keep h0 h_ [] ∧ h0.size ≤ nb ∧ Exa Z h_ nb "com/example/lincra/lincra/Tally" ∧ Fld Z h_ nb "com/example/lincra/lincra/Tally" "fetched" "I" (.int (u + (1 : Int32))) ∧ Fld Z h_ nb "com/example/lincra/lincra/Tally" "relevant" "I" (.int (w + (if b = (0 : Int32) then (0 : Int32) else (1 : Int32))))
theorem d4_0 : decode prog_14_method_2_code 0 = .ok (.new 8, 3) := by decide +kernel
theorem d4_3 : decode prog_14_method_2_code 3 = .ok (.dup, 1) := by decide +kernel
theorem d4_4 : decode prog_14_method_2_code 4 = .ok (.aload_n 0, 1) := by decide +kernel
theorem d4_5 : decode prog_14_method_2_code 5 = .ok (.getfield 7, 3) := by decide +kernel
theorem d4_8 : decode prog_14_method_2_code 8 = .ok (.iconst 1, 1) := by decide +kernel
theorem d4_9 : decode prog_14_method_2_code 9 = .ok (.iadd, 1) := by decide +kernel
theorem d4_10 : decode prog_14_method_2_code 10 = .ok (.aload_n 0, 1) := by decide +kernel
theorem d4_11 : decode prog_14_method_2_code 11 = .ok (.getfield 13, 3) := by decide +kernel
theorem d4_14 : decode prog_14_method_2_code 14 = .ok (.iload_n 1, 1) := by decide +kernel
theorem d4_15 : decode prog_14_method_2_code 15 = .ok (.ifCond .eq 7, 3) := by decide +kernel
theorem d4_22 : decode prog_14_method_2_code 22 = .ok (.iconst 0, 1) := by decide +kernel
theorem d4_18 : decode prog_14_method_2_code 18 = .ok (.iconst 1, 1) := by decide +kernel
theorem d4_19 : decode prog_14_method_2_code 19 = .ok (.goto 4, 3) := by decide +kernel
theorem d4_23 : decode prog_14_method_2_code 23 = .ok (.iadd, 1) := by decide +kernel
theorem pd_1 : parseMethodDescriptor "(II)V" = some ⟨[.int, .int], none⟩ := by decide +kernel
theorem d4_24 : decode prog_14_method_2_code 24 = .ok (.invokespecial 16, 3) := by decide +kernel
theorem d4_27 : decode prog_14_method_2_code 27 = .ok (.areturn, 1) := by decide +kernel
set_option maxRecDepth 65536 in
set_option maxHeartbeats 40000000 in
theorem rm4 (l : Launch) (Z : State) (a0 : Array Value) (hw : ∀ d ∈ tables_1, d.before a0 Z = true) (ws : List Jvm.Cond) (a : Addr) (b : Int32) (u : Int32) (w : Int32) (h0 : Heap) (n0 : Nat) (Z0 : n0 ≤ h0.size) (F0_a_fetched : Fld Z h0 a "com/example/lincra/lincra/Tally" "fetched" "I" (.int u)) (F1_a_relevant : Fld Z h0 a "com/example/lincra/lincra/Tally" "relevant" "I" (.int w)) :
    MetFree l (⟨"com/example/lincra/lincra/Tally", "counting", "(Z)Lcom/example/lincra/lincra/Tally;"⟩ : MethodName) (head1 (Jvm.Cond.code (⟨"com/example/lincra/lincra/Tally", "counting", "(Z)Lcom/example/lincra/lincra/Tally;"⟩ : MethodName) prog_14_method_2_code 2 (some (.object "com/example/lincra/lincra/Tally")) :: ws) ({ frames := 3, cells := 1, slots := 2, locals := 39 } : Room)) (fun as_ U_ => as_ = #[(.ref a), (.int b)] ∧ Z.Warmed39 U_.vm ∧ U_.heap = h0) (fun _ _ _ _ _ => True) (fun _ U_ o_ V_ => ∃ v_ L_, o_ = .returned v_ ∧ Qrm4 Z a b u w h0 n0 v_ V_.heap L_ ∧ FrameEnd U_ o_ V_ L_ ({ frames := 3, cells := 1, slots := 2, locals := 39 } : Room).cells ({ frames := 3, cells := 1, slots := 2, locals := 39 } : Room).slots) := by
  refine MetFree.of_bodySF (plainFor_of_name pn_com_example_lincra_lincra_Tally) hisR ?_
  intro p e s m args below meth c s₁ Bd hml0 hP hK
  obtain ⟨rfl, hZ, hh⟩ := hP
  have hx := Bd.exec
  have hby := Bd.bytes
  have hlk : meth.locks = false := BodyLoose.notSynchronized Bd
  have hret := Bd.returns
  have hml : c.maxLocals = 2 := hml0
  have hown : s.vm.findClass "com/example/lincra/lincra/Tally" = some m.cls := findClass_of_methodNamed Bd.named
  have hnm := (name_of_methodNamed Bd.named Bd.method).1
  have X0 : Stand p l e ({ frames := 3, cells := 1, slots := 2, locals := 39 } : Room) s m #[(.ref a), (.int b)] below meth c s₁ [] 0 0 := Stand.of_body Bd
  have e0 : s₁.heap = h0 := by rw [← hh, Bd.state]; rfl
  have N0 := Fr.nil n0
  show Goes p e below (Fin_ s (Qrm4 Z a b u w h0 n0) ({ frames := 3, cells := 1, slots := 2, locals := 39 } : Room).cells ({ frames := 3, cells := 1, slots := 2, locals := 39 } : Room).slots) (s₁.setTop (entryFrame m #[(.ref a), (.int b)] 2))
  rw [ef_rm4 m a b]
  obtain ⟨T1, h1, X1, e1, E1, A1, D1, -, st1⟩ := newO X0 hx hZ hown (hw _ (List.mem_of_getElem? (i := 23) rfl)) (hw _ (List.mem_of_getElem? (i := 1) rfl)) (hw _ (List.mem_of_getElem? (i := 2) rfl)) e0 (g := (mkF m 0 #[.val (.ref a), .val (.int b)] [])) rfl (hb hby d4_0) (by first | decide | omega) (by first | decide | omega)
  obtain ⟨b1, g1⟩ : ∃ z, z = (h0).size := ⟨_, rfl⟩
  rw [← g1] at A1 D1 st1
  have lne2 : a < b1 := Nat.lt_of_lt_of_le F0_a_fetched.lt (Nat.le_of_eq g1.symm)
  have ne2 : a ≠ b1 := Nat.ne_of_lt lne2
  have sz_b1 : h0.size ≤ b1 := Nat.le_trans (Nat.le_refl _) (Nat.le_of_eq g1.symm)
  have gn_b1 : n0 ≤ b1 := Nat.le_trans Z0 sz_b1
  have F_fetched_b1 : Fld Z h1 b1 "com/example/lincra/lincra/Tally" "fetched" "I" (.int (0 : Int32)) := D1 (Or.inr (hw _ (List.mem_of_getElem? (i := 15) rfl))) (ty := .int) (by decide)
  have F_relevant_b1 : Fld Z h1 b1 "com/example/lincra/lincra/Tally" "relevant" "I" (.int (0 : Int32)) := D1 (Or.inr (hw _ (List.mem_of_getElem? (i := 17) rfl))) (ty := .int) (by decide)
  refine Goes.via st1 ?_
  show Goes p e below _ (T1.setTop (mkF m 3 #[.val (.ref a), .val (.int b)] [(.ref b1)]))
  refine Goes.via (fun _ k => XS.dup X1.here hx rfl (hb hby d4_3) rfl rfl k) ?_
  show Goes p e below _ (T1.setTop (mkF m 4 #[.val (.ref a), .val (.int b)] [(.ref b1), (.ref b1)]))
  refine Goes.via (fun _ k => XS.aloadN X1.here hx rfl (hb hby d4_4) rfl rfl  k) ?_
  show Goes p e below _ (T1.setTop (mkF m 5 #[.val (.ref a), .val (.int b)] [(.ref a), (.ref b1), (.ref b1)]))
  have f3 : Fld Z h1 a "com/example/lincra/lincra/Tally" "fetched" "I" (.int u) := (F0_a_fetched.ext E1)
  obtain ⟨T4, X4, e4, st4⟩ := getF X1 hx hZ hown (host := "") (Or.inl (hw _ (List.mem_of_getElem? (i := 14) rfl))) Via.refl e1 f3 (g := (mkF m 5 #[.val (.ref a), .val (.int b)] [(.ref a), (.ref b1), (.ref b1)])) rfl rfl (hb hby d4_5)
  refine Goes.via st4 ?_
  show Goes p e below _ (T4.setTop (mkF m 8 #[.val (.ref a), .val (.int b)] [(.int u), (.ref b1), (.ref b1)]))
  refine Goes.via (fun _ k => XS.iconst X4.here hx rfl (hb hby d4_8) k) ?_
  show Goes p e below _ (T4.setTop (mkF m 9 #[.val (.ref a), .val (.int b)] [(.int (1 : Int32)), (.int u), (.ref b1), (.ref b1)]))
  refine Goes.via (fun _ k => XS.iadd X4.here hx rfl (hb hby d4_9) rfl k) ?_
  show Goes p e below _ (T4.setTop (mkF m 10 #[.val (.ref a), .val (.int b)] [(.int (u + (1 : Int32))), (.ref b1), (.ref b1)]))
  refine Goes.via (fun _ k => XS.aloadN X4.here hx rfl (hb hby d4_10) rfl rfl  k) ?_
  show Goes p e below _ (T4.setTop (mkF m 11 #[.val (.ref a), .val (.int b)] [(.ref a), (.int (u + (1 : Int32))), (.ref b1), (.ref b1)]))
  have f5 : Fld Z h1 a "com/example/lincra/lincra/Tally" "relevant" "I" (.int w) := (F1_a_relevant.ext E1)
  obtain ⟨T6, X6, e6, st6⟩ := getF X4 hx hZ hown (host := "") (Or.inl (hw _ (List.mem_of_getElem? (i := 16) rfl))) Via.refl e4 f5 (g := (mkF m 11 #[.val (.ref a), .val (.int b)] [(.ref a), (.int (u + (1 : Int32))), (.ref b1), (.ref b1)])) rfl rfl (hb hby d4_11)
  refine Goes.via st6 ?_
  show Goes p e below _ (T6.setTop (mkF m 14 #[.val (.ref a), .val (.int b)] [(.int w), (.int (u + (1 : Int32))), (.ref b1), (.ref b1)]))
  refine Goes.via (fun _ k => XS.iloadN X6.here hx rfl (hb hby d4_14) rfl  k) ?_
  show Goes p e below _ (T6.setTop (mkF m 15 #[.val (.ref a), .val (.int b)] [(.int b), (.int w), (.int (u + (1 : Int32))), (.ref b1), (.ref b1)]))
  suffices J : Goes p e below (Fin_ s (Qrm4 Z a b u w h0 n0) ({ frames := 3, cells := 1, slots := 2, locals := 39 } : Room).cells ({ frames := 3, cells := 1, slots := 2, locals := 39 } : Room).slots) (T6.setTop (mkF m 23 #[.val (.ref a), .val (.int b)] [(.int (if b = (0 : Int32) then (0 : Int32) else (1 : Int32))), (.int w), (.int (u + (1 : Int32))), (.ref b1), (.ref b1)])) by
    by_cases hc15 : b = (0 : Int32)
    · skip
      rw [show (if b = (0 : Int32) then (0 : Int32) else (1 : Int32)) = (0 : Int32) from if_pos hc15] at J
      refine Goes.via (fun _ k => XS.ifYes X6.here hx rfl (pc0 := 15) (pc' := 22) rfl (hb hby d4_15) rfl ((if0 _ _).trans (teq hc15).1) (by decide) (by decide) k) ?_
      show Goes p e below _ (T6.setTop (mkF m 22 #[.val (.ref a), .val (.int b)] [(.int w), (.int (u + (1 : Int32))), (.ref b1), (.ref b1)]))
      refine Goes.via (fun _ k => XS.iconst X6.here hx rfl (hb hby d4_22) k) ?_
      show Goes p e below _ (T6.setTop (mkF m 23 #[.val (.ref a), .val (.int b)] [(.int (0 : Int32)), (.int w), (.int (u + (1 : Int32))), (.ref b1), (.ref b1)]))
      exact J
    · skip
      rw [show (if b = (0 : Int32) then (0 : Int32) else (1 : Int32)) = (1 : Int32) from if_neg hc15] at J
      refine Goes.via (fun _ k => XS.ifNo X6.here hx rfl (hb hby d4_15) rfl ((if0 _ _).trans (feq hc15).1) k) ?_
      show Goes p e below _ (T6.setTop (mkF m 18 #[.val (.ref a), .val (.int b)] [(.int w), (.int (u + (1 : Int32))), (.ref b1), (.ref b1)]))
      refine Goes.via (fun _ k => XS.iconst X6.here hx rfl (hb hby d4_18) k) ?_
      show Goes p e below _ (T6.setTop (mkF m 19 #[.val (.ref a), .val (.int b)] [(.int (1 : Int32)), (.int w), (.int (u + (1 : Int32))), (.ref b1), (.ref b1)]))
      refine Goes.via (fun _ k => XS.goto X6.here hx rfl (pc0 := 19) (pc' := 23) rfl (hb hby d4_19) (by decide) (by decide) k) ?_
      show Goes p e below _ (T6.setTop (mkF m 23 #[.val (.ref a), .val (.int b)] [(.int (1 : Int32)), (.int w), (.int (u + (1 : Int32))), (.ref b1), (.ref b1)]))
      exact J
  show Goes p e below _ (T6.setTop (mkF m 23 #[.val (.ref a), .val (.int b)] [(.int (if b = (0 : Int32) then (0 : Int32) else (1 : Int32))), (.int w), (.int (u + (1 : Int32))), (.ref b1), (.ref b1)]))
  refine Goes.via (fun _ k => XS.iadd X6.here hx rfl (hb hby d4_23) rfl k) ?_
  show Goes p e below _ (T6.setTop (mkF m 24 #[.val (.ref a), .val (.int b)] [(.int (w + (if b = (0 : Int32) then (0 : Int32) else (1 : Int32)))), (.int (u + (1 : Int32))), (.ref b1), (.ref b1)]))
  have z8 : h0.size ≤ (h1).size := (Nat.le_trans (Nat.le_refl _) E1.1)
  obtain ⟨_, _, ⟨T7, L7, k7, n7⟩, -, X7, ⟨Lc7, hQ7, l7, y7, z7⟩, st7⟩ := X6.specialBack hx (y := (⟨"com/example/lincra/lincra/Tally", "<init>", "(II)V"⟩ : MethodName)) rfl hown (mvT hZ (hw _ (List.mem_of_getElem? (i := 24) rfl))) (mvT hZ (hw _ (List.mem_of_getElem? (i := 4) rfl))) (mvT hZ (hw _ (List.mem_of_getElem? (i := 5) rfl))) (by decide) (backOf (W := 1) (rm1 l Z a0 hw [] b1 (u + (1 : Int32)) (w + (if b = (0 : Int32) then (0 : Int32) else (1 : Int32))) h1 n0 (Nat.le_trans Z0 z8) A1 F_fetched_b1 F_relevant_b1 gn_b1) hZ (hw _ (List.mem_of_getElem? (i := 5) rfl)) (hw _ (List.mem_of_getElem? (i := 2) rfl)) (by decide) (by decide)) (g := (mkF m 24 #[.val (.ref a), .val (.int b)] [(.int (w + (if b = (0 : Int32) then (0 : Int32) else (1 : Int32)))), (.int (u + (1 : Int32))), (.ref b1), (.ref b1)])) rfl (by rw [hml]; rfl) (Steps.refl _) (a := b1) (argsL := [(.int (u + (1 : Int32))), (.int (w + (if b = (0 : Int32) then (0 : Int32) else (1 : Int32))))]) (rest := [(.ref b1)]) (lenOf pd_1 rfl) rfl (by show 2 * 0 + _ ≤ _; exact Nat.le_of_eq rfl) (hb hby d4_24) (fun _ _ => ⟨rfl, e6, (by first | decide | omega : 1 + 0 ≤ _), (by first | decide | omega : 2 + 0 ≤ _)⟩)
  dsimp only [Pt.U, Pt.locs, Pt.cells, Pt.slots] at X7 l7 y7 z7 st7 hQ7
  subst l7 y7 z7
  obtain ⟨rfl, N7q, K7, u7_0, u7_1, u7_2⟩ := hQ7
  have N7 := Fr.app N0 N7q
  refine Goes.tr st7 ?_
  show Goes p e below _ (T7.setTop (mkF m 27 #[.val (.ref a), .val (.int b)] [(.ref b1)]))
  have K9 : Keep h0 T7.heap [] := (((Keep.refl h0 []).ext E1).trans K7 (allS (Or.inr sz_b1) all0))
  exact own_finR X7 hx hlk hret rfl rfl rfl (hb hby d4_27) (by exact ⟨b1, rfl, N7, K9, sz_b1, u7_0, u7_1, u7_2⟩) (by first | decide | omega) (by first | decide | omega)
theorem ef_rm5 (m : MethodId) (a : Addr) : entryFrame m #[(.ref a)] 1 = mkF m 0 #[.val (.ref a)] [] := by first | (simp [entryFrame, mkF, argsToLocals, Value.category]; done) | rfl
def Qrm5 (Z : State) (a : Addr) (w : Int32) (h0 : Heap) (n0 : Nat) (v_ : Option Value) (h_ : Heap) (L_ : List Loc) : Prop := v_ = some (.int w) ∧ Fr n0 L_ ∧ h_ = h0
theorem d5_0 : decode prog_14_method_9_code 0 = .ok (.aload_n 0, 1) := by decide +kernel
theorem d5_1 : decode prog_14_method_9_code 1 = .ok (.getfield 7, 3) := by decide +kernel
theorem d5_4 : decode prog_14_method_9_code 4 = .ok (.ireturn, 1) := by decide +kernel
set_option maxRecDepth 65536 in
set_option maxHeartbeats 40000000 in
theorem rm5 (l : Launch) (Z : State) (a0 : Array Value) (hw : ∀ d ∈ tables_1, d.before a0 Z = true) (ws : List Jvm.Cond) (a : Addr) (w : Int32) (h0 : Heap) (n0 : Nat) (Z0 : n0 ≤ h0.size) (F0_a_fetched : Fld Z h0 a "com/example/lincra/lincra/Tally" "fetched" "I" (.int w)) :
    MetFree l (⟨"com/example/lincra/lincra/Tally", "fetched", "()I"⟩ : MethodName) (head1 (Jvm.Cond.code (⟨"com/example/lincra/lincra/Tally", "fetched", "()I"⟩ : MethodName) prog_14_method_9_code 1 (some .int) :: ws) ({ frames := 0, cells := 0, slots := 0, locals := 0 } : Room)) (fun as_ U_ => as_ = #[(.ref a)] ∧ Z.Warmed39 U_.vm ∧ U_.heap = h0) (fun _ _ _ _ _ => True) (fun _ U_ o_ V_ => ∃ v_ L_, o_ = .returned v_ ∧ Qrm5 Z a w h0 n0 v_ V_.heap L_ ∧ FrameEnd U_ o_ V_ L_ ({ frames := 0, cells := 0, slots := 0, locals := 0 } : Room).cells ({ frames := 0, cells := 0, slots := 0, locals := 0 } : Room).slots) := by
  refine MetFree.of_bodySF (plainFor_of_name pn_com_example_lincra_lincra_Tally) hisR ?_
  intro p e s m args below meth c s₁ Bd hml0 hP hK
  obtain ⟨rfl, hZ, hh⟩ := hP
  have hx := Bd.exec
  have hby := Bd.bytes
  have hlk : meth.locks = false := BodyLoose.notSynchronized Bd
  have hret := Bd.returns
  have hml : c.maxLocals = 1 := hml0
  have hown : s.vm.findClass "com/example/lincra/lincra/Tally" = some m.cls := findClass_of_methodNamed Bd.named
  have hnm := (name_of_methodNamed Bd.named Bd.method).1
  have X0 : Stand p l e ({ frames := 0, cells := 0, slots := 0, locals := 0 } : Room) s m #[(.ref a)] below meth c s₁ [] 0 0 := Stand.of_body Bd
  have e0 : s₁.heap = h0 := by rw [← hh, Bd.state]; rfl
  have N0 := Fr.nil n0
  show Goes p e below (Fin_ s (Qrm5 Z a w h0 n0) ({ frames := 0, cells := 0, slots := 0, locals := 0 } : Room).cells ({ frames := 0, cells := 0, slots := 0, locals := 0 } : Room).slots) (s₁.setTop (entryFrame m #[(.ref a)] 1))
  rw [ef_rm5 m a]
  refine Goes.via (fun _ k => XS.aloadN X0.here hx rfl (hb hby d5_0) rfl rfl  k) ?_
  show Goes p e below _ (s₁.setTop (mkF m 1 #[.val (.ref a)] [(.ref a)]))
  obtain ⟨T1, X1, e1, st1⟩ := getF X0 hx hZ hown (host := "") (Or.inl (hw _ (List.mem_of_getElem? (i := 14) rfl))) Via.refl e0 F0_a_fetched (g := (mkF m 1 #[.val (.ref a)] [(.ref a)])) rfl rfl (hb hby d5_1)
  refine Goes.via st1 ?_
  show Goes p e below _ (T1.setTop (mkF m 4 #[.val (.ref a)] [(.int w)]))
  exact own_finI X1 hx hlk hret (hb hby d5_4) (by rw [e1]; exact ⟨rfl, N0, rfl⟩) (by first | decide | omega) (by first | decide | omega)
theorem ef_rm6 (m : MethodId) (a : Addr) : entryFrame m #[(.ref a)] 1 = mkF m 0 #[.val (.ref a)] [] := by first | (simp [entryFrame, mkF, argsToLocals, Value.category]; done) | rfl
def Qrm6 (Z : State) (a : Addr) (w : Int32) (h0 : Heap) (n0 : Nat) (v_ : Option Value) (h_ : Heap) (L_ : List Loc) : Prop := v_ = some (.int w) ∧ Fr n0 L_ ∧ h_ = h0
theorem d6_0 : decode prog_14_method_10_code 0 = .ok (.aload_n 0, 1) := by decide +kernel
theorem d6_1 : decode prog_14_method_10_code 1 = .ok (.getfield 13, 3) := by decide +kernel
theorem d6_4 : decode prog_14_method_10_code 4 = .ok (.ireturn, 1) := by decide +kernel
set_option maxRecDepth 65536 in
set_option maxHeartbeats 40000000 in
theorem rm6 (l : Launch) (Z : State) (a0 : Array Value) (hw : ∀ d ∈ tables_1, d.before a0 Z = true) (ws : List Jvm.Cond) (a : Addr) (w : Int32) (h0 : Heap) (n0 : Nat) (Z0 : n0 ≤ h0.size) (F0_a_relevant : Fld Z h0 a "com/example/lincra/lincra/Tally" "relevant" "I" (.int w)) :
    MetFree l (⟨"com/example/lincra/lincra/Tally", "relevant", "()I"⟩ : MethodName) (head1 (Jvm.Cond.code (⟨"com/example/lincra/lincra/Tally", "relevant", "()I"⟩ : MethodName) prog_14_method_10_code 1 (some .int) :: ws) ({ frames := 0, cells := 0, slots := 0, locals := 0 } : Room)) (fun as_ U_ => as_ = #[(.ref a)] ∧ Z.Warmed39 U_.vm ∧ U_.heap = h0) (fun _ _ _ _ _ => True) (fun _ U_ o_ V_ => ∃ v_ L_, o_ = .returned v_ ∧ Qrm6 Z a w h0 n0 v_ V_.heap L_ ∧ FrameEnd U_ o_ V_ L_ ({ frames := 0, cells := 0, slots := 0, locals := 0 } : Room).cells ({ frames := 0, cells := 0, slots := 0, locals := 0 } : Room).slots) := by
  refine MetFree.of_bodySF (plainFor_of_name pn_com_example_lincra_lincra_Tally) hisR ?_
  intro p e s m args below meth c s₁ Bd hml0 hP hK
  obtain ⟨rfl, hZ, hh⟩ := hP
  have hx := Bd.exec
  have hby := Bd.bytes
  have hlk : meth.locks = false := BodyLoose.notSynchronized Bd
  have hret := Bd.returns
  have hml : c.maxLocals = 1 := hml0
  have hown : s.vm.findClass "com/example/lincra/lincra/Tally" = some m.cls := findClass_of_methodNamed Bd.named
  have hnm := (name_of_methodNamed Bd.named Bd.method).1
  have X0 : Stand p l e ({ frames := 0, cells := 0, slots := 0, locals := 0 } : Room) s m #[(.ref a)] below meth c s₁ [] 0 0 := Stand.of_body Bd
  have e0 : s₁.heap = h0 := by rw [← hh, Bd.state]; rfl
  have N0 := Fr.nil n0
  show Goes p e below (Fin_ s (Qrm6 Z a w h0 n0) ({ frames := 0, cells := 0, slots := 0, locals := 0 } : Room).cells ({ frames := 0, cells := 0, slots := 0, locals := 0 } : Room).slots) (s₁.setTop (entryFrame m #[(.ref a)] 1))
  rw [ef_rm6 m a]
  refine Goes.via (fun _ k => XS.aloadN X0.here hx rfl (hb hby d6_0) rfl rfl  k) ?_
  show Goes p e below _ (s₁.setTop (mkF m 1 #[.val (.ref a)] [(.ref a)]))
  obtain ⟨T1, X1, e1, st1⟩ := getF X0 hx hZ hown (host := "") (Or.inl (hw _ (List.mem_of_getElem? (i := 16) rfl))) Via.refl e0 F0_a_relevant (g := (mkF m 1 #[.val (.ref a)] [(.ref a)])) rfl rfl (hb hby d6_1)
  refine Goes.via st1 ?_
  show Goes p e below _ (T1.setTop (mkF m 4 #[.val (.ref a)] [(.int w)]))
  exact own_finI X1 hx hlk hret (hb hby d6_4) (by rw [e1]; exact ⟨rfl, N0, rfl⟩) (by first | decide | omega) (by first | decide | omega)
theorem ef_rm0 (m : MethodId) (p1 : Int32) (p2 : Int32) (p3 : Int32) : entryFrame m #[(.int p1), (.int p2), (.int p3)] maxLocals = mkF m 0 #[.val (.int p1), .val (.int p2), .val (.int p3), .unset, .unset, .unset, .unset, .unset, .unset, .unset, .unset] [] := by first | (simp [entryFrame, mkF, argsToLocals, Value.category, maxLocals]; done) | rfl
def Qrm0 (Z : State) (p1 : Int32) (p2 : Int32) (p3 : Int32) (h0 : Heap) (n0 : Nat) (v_ : Option Value) (h_ : Heap) (L_ : List Loc) : Prop := v_ = some (.int (1 : Int32)) ∧ Fr n0 L_ ∧ Keep h0 h_ []
theorem pn_com_example_lincra_lincra_TallyCountingPinLaw : plainName "com/example/lincra/lincra/TallyCountingPinLaw" = true := by first | (simp [plainName, overriddenIn]; done) | decide +kernel
theorem pd_2 : parseMethodDescriptor "(Z)Lcom/example/lincra/lincra/Tally;" = some ⟨[.boolean], some (.object "com/example/lincra/lincra/Tally")⟩ := by decide +kernel
theorem pd_3 : parseMethodDescriptor "()I" = some ⟨[], some .int⟩ := by decide +kernel
set_option maxRecDepth 65536 in
set_option maxHeartbeats 40000000 in
theorem rm0 (l : Launch) (Z : State) (a0 : Array Value) (hw : ∀ d ∈ tables_1, d.before a0 Z = true) (ws : List Jvm.Cond) (p1 : Int32) (p2 : Int32) (p3 : Int32) (h0 : Heap) (n0 : Nat) (Z0 : n0 ≤ h0.size) :
    MetFree l x (head1 (Jvm.Cond.code x code maxLocals ret :: ws) room_1) (fun as_ U_ => as_ = #[(.int p1), (.int p2), (.int p3)] ∧ Z.Warmed39 U_.vm ∧ U_.heap = h0) (fun _ _ _ _ _ => True) (fun _ U_ o_ V_ => ∃ v_ L_, o_ = .returned v_ ∧ Qrm0 Z p1 p2 p3 h0 n0 v_ V_.heap L_ ∧ FrameEnd U_ o_ V_ L_ room_1.cells room_1.slots) := by
  refine MetFree.of_bodySF (plainFor_of_name pn_com_example_lincra_lincra_TallyCountingPinLaw) hisR ?_
  intro p e s m args below meth c s₁ Bd hml0 hP hK
  obtain ⟨rfl, hZ, hh⟩ := hP
  have hx := Bd.exec
  have hby := Bd.bytes
  have hlk : meth.locks = false := BodyLoose.notSynchronized Bd
  have hret := Bd.returns
  have hml : c.maxLocals = 11 := hml0
  have hown : s.vm.findClass "com/example/lincra/lincra/TallyCountingPinLaw" = some m.cls := findClass_of_methodNamed Bd.named
  have hnm := (name_of_methodNamed Bd.named Bd.method).1
  have X0 : Stand p l e room_1 s m #[(.int p1), (.int p2), (.int p3)] below meth c s₁ [] 0 0 := Stand.of_body Bd
  have e0 : s₁.heap = h0 := by rw [← hh, Bd.state]; rfl
  have N0 := Fr.nil n0
  show Goes p e below (Fin_ s (Qrm0 Z p1 p2 p3 h0 n0) room_1.cells room_1.slots) (s₁.setTop (entryFrame m #[(.int p1), (.int p2), (.int p3)] maxLocals))
  rw [ef_rm0 m p1 p2 p3]
  refine Goes.via (fun _ k => XS.iloadN X0.here hx rfl (hb hby at_0) rfl  k) ?_
  show Goes p e below _ (s₁.setTop (mkF m 1 #[.val (.int p1), .val (.int p2), .val (.int p3), .unset, .unset, .unset, .unset, .unset, .unset, .unset, .unset] [(.int p3)]))
  refine Goes.via (fun _ k => XS.iconst X0.here hx rfl (hb hby at_1) k) ?_
  show Goes p e below _ (s₁.setTop (mkF m 2 #[.val (.int p1), .val (.int p2), .val (.int p3), .unset, .unset, .unset, .unset, .unset, .unset, .unset, .unset] [(.int (1 : Int32)), (.int p3)]))
  refine Goes.via (fun _ k => XS.iand X0.here hx rfl (hb hby at_2) rfl k) ?_
  show Goes p e below _ (s₁.setTop (mkF m 3 #[.val (.int p1), .val (.int p2), .val (.int p3), .unset, .unset, .unset, .unset, .unset, .unset, .unset, .unset] [(.int (p3 &&& (1 : Int32)))]))
  by_cases hc3 : (p3 &&& (1 : Int32)) = (0 : Int32)
  · skip
    refine Goes.via (fun _ k => XS.ifYes X0.here hx rfl (pc0 := 3) (pc' := 10) rfl (hb hby at_3) rfl ((if0 _ _).trans (teq hc3).1) (by decide) (by decide) k) ?_
    show Goes p e below _ (s₁.setTop (mkF m 10 #[.val (.int p1), .val (.int p2), .val (.int p3), .unset, .unset, .unset, .unset, .unset, .unset, .unset, .unset] []))
    refine Goes.via (fun _ k => XS.iconst X0.here hx rfl (hb hby at_10) k) ?_
    show Goes p e below _ (s₁.setTop (mkF m 11 #[.val (.int p1), .val (.int p2), .val (.int p3), .unset, .unset, .unset, .unset, .unset, .unset, .unset, .unset] [(.int (0 : Int32))]))
    refine Goes.via (fun _ k => XS.istoreN X0.here hx rfl (hb hby at_11) rfl (l' := #[.val (.int p1), .val (.int p2), .val (.int p3), .val (.int (0 : Int32)), .unset, .unset, .unset, .unset, .unset, .unset, .unset]) rfl k) ?_
    show Goes p e below _ (s₁.setTop (mkF m 12 #[.val (.int p1), .val (.int p2), .val (.int p3), .val (.int (0 : Int32)), .unset, .unset, .unset, .unset, .unset, .unset, .unset] []))
    obtain ⟨T1, h1, X1, e1, E1, A1, D1, -, st1⟩ := newO X0 hx hZ hown (hw _ (List.mem_of_getElem? (i := 0) rfl)) (hw _ (List.mem_of_getElem? (i := 1) rfl)) (hw _ (List.mem_of_getElem? (i := 2) rfl)) e0 (g := (mkF m 12 #[.val (.int p1), .val (.int p2), .val (.int p3), .val (.int (0 : Int32)), .unset, .unset, .unset, .unset, .unset, .unset, .unset] [])) rfl (hb hby at_12) (by first | decide | omega) (by first | decide | omega)
    obtain ⟨b1, g1⟩ : ∃ z, z = (h0).size := ⟨_, rfl⟩
    rw [← g1] at A1 D1 st1
    have sz_b1 : h0.size ≤ b1 := Nat.le_trans (Nat.le_refl _) (Nat.le_of_eq g1.symm)
    have gn_b1 : n0 ≤ b1 := Nat.le_trans Z0 sz_b1
    have F_fetched_b1 : Fld Z h1 b1 "com/example/lincra/lincra/Tally" "fetched" "I" (.int (0 : Int32)) := D1 (Or.inr (hw _ (List.mem_of_getElem? (i := 15) rfl))) (ty := .int) (by decide)
    have F_relevant_b1 : Fld Z h1 b1 "com/example/lincra/lincra/Tally" "relevant" "I" (.int (0 : Int32)) := D1 (Or.inr (hw _ (List.mem_of_getElem? (i := 17) rfl))) (ty := .int) (by decide)
    refine Goes.via st1 ?_
    show Goes p e below _ (T1.setTop (mkF m 15 #[.val (.int p1), .val (.int p2), .val (.int p3), .val (.int (0 : Int32)), .unset, .unset, .unset, .unset, .unset, .unset, .unset] [(.ref b1)]))
    refine Goes.via (fun _ k => XS.dup X1.here hx rfl (hb hby at_15) rfl rfl k) ?_
    show Goes p e below _ (T1.setTop (mkF m 16 #[.val (.int p1), .val (.int p2), .val (.int p3), .val (.int (0 : Int32)), .unset, .unset, .unset, .unset, .unset, .unset, .unset] [(.ref b1), (.ref b1)]))
    refine Goes.via (fun _ k => XS.iloadN X1.here hx rfl (hb hby at_16) rfl  k) ?_
    show Goes p e below _ (T1.setTop (mkF m 17 #[.val (.int p1), .val (.int p2), .val (.int p3), .val (.int (0 : Int32)), .unset, .unset, .unset, .unset, .unset, .unset, .unset] [(.int p1), (.ref b1), (.ref b1)]))
    refine Goes.via (fun _ k => XS.iloadN X1.here hx rfl (hb hby at_17) rfl  k) ?_
    show Goes p e below _ (T1.setTop (mkF m 18 #[.val (.int p1), .val (.int p2), .val (.int p3), .val (.int (0 : Int32)), .unset, .unset, .unset, .unset, .unset, .unset, .unset] [(.int p2), (.int p1), (.ref b1), (.ref b1)]))
    have z3 : h0.size ≤ (h1).size := (Nat.le_trans (Nat.le_refl _) E1.1)
    obtain ⟨_, _, ⟨T2, L2, k2, n2⟩, -, X2, ⟨Lc2, hQ2, l2, y2, z2⟩, st2⟩ := X1.specialBack hx (y := (⟨"com/example/lincra/lincra/Tally", "<init>", "(II)V"⟩ : MethodName)) rfl hown (mvT hZ (hw _ (List.mem_of_getElem? (i := 3) rfl))) (mvT hZ (hw _ (List.mem_of_getElem? (i := 4) rfl))) (mvT hZ (hw _ (List.mem_of_getElem? (i := 5) rfl))) (by decide) (backOf (W := 1) (rm1 l Z a0 hw [] b1 p1 p2 h1 n0 (Nat.le_trans Z0 z3) A1 F_fetched_b1 F_relevant_b1 gn_b1) hZ (hw _ (List.mem_of_getElem? (i := 5) rfl)) (hw _ (List.mem_of_getElem? (i := 2) rfl)) (by decide) (by decide)) (g := (mkF m 18 #[.val (.int p1), .val (.int p2), .val (.int p3), .val (.int (0 : Int32)), .unset, .unset, .unset, .unset, .unset, .unset, .unset] [(.int p2), (.int p1), (.ref b1), (.ref b1)])) rfl (by rw [hml]; rfl) (Steps.refl _) (a := b1) (argsL := [(.int p1), (.int p2)]) (rest := [(.ref b1)]) (lenOf pd_1 rfl) rfl (by show 2 * 0 + _ ≤ _; exact Nat.le_of_eq rfl) (hb hby at_18) (fun _ _ => ⟨rfl, e1, (by first | decide | omega : 1 + 0 ≤ _), (by first | decide | omega : 2 + 0 ≤ _)⟩)
    dsimp only [Pt.U, Pt.locs, Pt.cells, Pt.slots] at X2 l2 y2 z2 st2 hQ2
    subst l2 y2 z2
    obtain ⟨rfl, N2q, K2, u2_0, u2_1, u2_2⟩ := hQ2
    have N2 := Fr.app N0 N2q
    refine Goes.tr st2 ?_
    show Goes p e below _ (T2.setTop (mkF m 21 #[.val (.int p1), .val (.int p2), .val (.int p3), .val (.int (0 : Int32)), .unset, .unset, .unset, .unset, .unset, .unset, .unset] [(.ref b1)]))
    refine Goes.via (fun _ k => XS.astore X2.here hx rfl (hb hby at_21) rfl rfl (l' := #[.val (.int p1), .val (.int p2), .val (.int p3), .val (.int (0 : Int32)), .val (.ref b1), .unset, .unset, .unset, .unset, .unset, .unset]) rfl k) ?_
    show Goes p e below _ (T2.setTop (mkF m 23 #[.val (.int p1), .val (.int p2), .val (.int p3), .val (.int (0 : Int32)), .val (.ref b1), .unset, .unset, .unset, .unset, .unset, .unset] []))
    refine Goes.via (fun _ k => XS.aload X2.here hx rfl (hb hby at_23) rfl rfl  k) ?_
    show Goes p e below _ (T2.setTop (mkF m 25 #[.val (.int p1), .val (.int p2), .val (.int p3), .val (.int (0 : Int32)), .val (.ref b1), .unset, .unset, .unset, .unset, .unset, .unset] [(.ref b1)]))
    refine Goes.via (fun _ k => XS.iloadN X2.here hx rfl (hb hby at_25) rfl  k) ?_
    show Goes p e below _ (T2.setTop (mkF m 26 #[.val (.int p1), .val (.int p2), .val (.int p3), .val (.int (0 : Int32)), .val (.ref b1), .unset, .unset, .unset, .unset, .unset, .unset] [(.int (0 : Int32)), (.ref b1)]))
    have z5 : h0.size ≤ (T2.heap).size := (Nat.le_trans z3 K2.1)
    obtain ⟨cq4, kq4, q4a, q4b, q4c⟩ := isOf hZ rfl u2_0
    obtain ⟨_, _, ⟨T4, L4, k4, n4⟩, -, X4, ⟨Lc4, hQ4, l4, y4, z4⟩, st4⟩ := X2.virtualBack hx (y := (⟨"com/example/lincra/lincra/Tally", "counting", "(Z)Lcom/example/lincra/lincra/Tally;"⟩ : MethodName)) (z := (⟨"com/example/lincra/lincra/Tally", "counting", "(Z)Lcom/example/lincra/lincra/Tally;"⟩ : MethodName)) hown (mvT hZ (hw _ (List.mem_of_getElem? (i := 18) rfl))) (mvT hZ (hw _ (List.mem_of_getElem? (i := 19) rfl))) (notFace_of_selects (args := #[]) (mvT hZ (hw _ (List.mem_of_getElem? (i := 21) rfl)))) (mvT hZ (hw _ (List.mem_of_getElem? (i := 21) rfl))) (mvT hZ (hw _ (List.mem_of_getElem? (i := 20) rfl))) (by decide) (backOf (W := 0) (rm4 l Z a0 hw [] b1 (0 : Int32) p1 p2 T2.heap n0 (Nat.le_trans Z0 z5) u2_1 u2_2) hZ (hw _ (List.mem_of_getElem? (i := 22) rfl)) (hw _ (List.mem_of_getElem? (i := 2) rfl)) (by decide) (by decide)) q4a q4c (g := (mkF m 26 #[.val (.int p1), .val (.int p2), .val (.int p3), .val (.int (0 : Int32)), .val (.ref b1), .unset, .unset, .unset, .unset, .unset, .unset] [(.int (0 : Int32)), (.ref b1)])) rfl (by rw [hml]; rfl) (Steps.refl _) (argsL := [(.int (0 : Int32))]) (rest := []) (lenOf pd_2 rfl) rfl (by show 2 * 0 + _ ≤ _; exact Nat.le_of_eq rfl) (hb hby at_26) (fun _ _ => ⟨rfl, rfl, (by first | decide | omega : 1 + 1 ≤ _), (by first | decide | omega : 2 + 2 ≤ _)⟩)
    dsimp only [Pt.U, Pt.locs, Pt.cells, Pt.slots] at X4 l4 y4 z4 st4 hQ4
    subst l4 y4 z4
    obtain ⟨nb4, rfl, N4q, K4, u4_0, u4_1, u4_2, u4_3⟩ := hQ4
    have N4 := Fr.app N2 N4q
    refine Goes.tr st4 ?_
    have ne6 : b1 ≠ nb4 := Nat.ne_of_lt (Nat.lt_of_lt_of_le u2_0.lt u4_0)
    have sz_nb4 : h0.size ≤ nb4 := Nat.le_trans z5 u4_0
    have gn_nb4 : n0 ≤ nb4 := Nat.le_trans Z0 sz_nb4
    -- u4_0 : h0.size ≤ nb4
    show Goes p e below _ (T4.setTop (mkF m 29 #[.val (.int p1), .val (.int p2), .val (.int p3), .val (.int (0 : Int32)), .val (.ref b1), .unset, .unset, .unset, .unset, .unset, .unset] [(.ref nb4)]))
    refine Goes.via (fun _ k => XS.astore X4.here hx rfl (hb hby at_29) rfl rfl (l' := #[.val (.int p1), .val (.int p2), .val (.int p3), .val (.int (0 : Int32)), .val (.ref b1), .val (.ref nb4), .unset, .unset, .unset, .unset, .unset]) rfl k) ?_
    show Goes p e below _ (T4.setTop (mkF m 31 #[.val (.int p1), .val (.int p2), .val (.int p3), .val (.int (0 : Int32)), .val (.ref b1), .val (.ref nb4), .unset, .unset, .unset, .unset, .unset] []))
    refine Goes.via (fun _ k => XS.aload X4.here hx rfl (hb hby at_31) rfl rfl  k) ?_
    show Goes p e below _ (T4.setTop (mkF m 33 #[.val (.int p1), .val (.int p2), .val (.int p3), .val (.int (0 : Int32)), .val (.ref b1), .val (.ref nb4), .unset, .unset, .unset, .unset, .unset] [(.ref nb4)]))
    have z8 : h0.size ≤ (T4.heap).size := (Nat.le_trans z5 K4.1)
    obtain ⟨cq7, kq7, q7a, q7b, q7c⟩ := isOf hZ rfl u4_1
    obtain ⟨_, _, ⟨T7, L7, k7, n7⟩, -, X7, ⟨Lc7, hQ7, l7, y7, z7⟩, st7⟩ := X4.virtualBack hx (y := (⟨"com/example/lincra/lincra/Tally", "fetched", "()I"⟩ : MethodName)) (z := (⟨"com/example/lincra/lincra/Tally", "fetched", "()I"⟩ : MethodName)) hown (mvT hZ (hw _ (List.mem_of_getElem? (i := 25) rfl))) (mvT hZ (hw _ (List.mem_of_getElem? (i := 26) rfl))) (notFace_of_selects (args := #[]) (mvT hZ (hw _ (List.mem_of_getElem? (i := 28) rfl)))) (mvT hZ (hw _ (List.mem_of_getElem? (i := 28) rfl))) (mvT hZ (hw _ (List.mem_of_getElem? (i := 27) rfl))) (by decide) (backOf (W := 0) (rm5 l Z a0 hw [] nb4 (p1 + (1 : Int32)) T4.heap n0 (Nat.le_trans Z0 z8) u4_2) hZ (hw _ (List.mem_of_getElem? (i := 29) rfl)) (hw _ (List.mem_of_getElem? (i := 2) rfl)) (by decide) (by decide)) q7a q7c (g := (mkF m 33 #[.val (.int p1), .val (.int p2), .val (.int p3), .val (.int (0 : Int32)), .val (.ref b1), .val (.ref nb4), .unset, .unset, .unset, .unset, .unset] [(.ref nb4)])) rfl (by rw [hml]; rfl) (Steps.refl _) (argsL := []) (rest := []) (lenOf pd_3 rfl) rfl (by show 2 * 0 + _ ≤ _; exact Nat.le_of_eq rfl) (hb hby at_33) (fun _ _ => ⟨rfl, rfl, (by first | decide | omega : 2 + 0 ≤ _), (by first | decide | omega : 4 + 0 ≤ _)⟩)
    dsimp only [Pt.U, Pt.locs, Pt.cells, Pt.slots] at X7 l7 y7 z7 st7 hQ7
    subst l7 y7 z7
    obtain ⟨rfl, N7q, e7⟩ := hQ7
    have N7 := Fr.app N4 N7q
    refine Goes.tr st7 ?_
    have e7' : T7.heap = T4.heap := e7
    show Goes p e below _ (T7.setTop (mkF m 36 #[.val (.int p1), .val (.int p2), .val (.int p3), .val (.int (0 : Int32)), .val (.ref b1), .val (.ref nb4), .unset, .unset, .unset, .unset, .unset] [(.int (p1 + (1 : Int32)))]))
    refine Goes.via (fun _ k => XS.iloadN X7.here hx rfl (hb hby at_36) rfl  k) ?_
    show Goes p e below _ (T7.setTop (mkF m 37 #[.val (.int p1), .val (.int p2), .val (.int p3), .val (.int (0 : Int32)), .val (.ref b1), .val (.ref nb4), .unset, .unset, .unset, .unset, .unset] [(.int p1), (.int (p1 + (1 : Int32)))]))
    refine Goes.via (fun _ k => XS.isub X7.here hx rfl (hb hby at_37) rfl k) ?_
    show Goes p e below _ (T7.setTop (mkF m 38 #[.val (.int p1), .val (.int p2), .val (.int p3), .val (.int (0 : Int32)), .val (.ref b1), .val (.ref nb4), .unset, .unset, .unset, .unset, .unset] [(.int ((p1 + (1 : Int32)) - p1))]))
    refine Goes.via (fun _ k => XS.istore X7.here hx rfl (hb hby at_38) rfl (l' := #[.val (.int p1), .val (.int p2), .val (.int p3), .val (.int (0 : Int32)), .val (.ref b1), .val (.ref nb4), .val (.int ((p1 + (1 : Int32)) - p1)), .unset, .unset, .unset, .unset]) rfl k) ?_
    show Goes p e below _ (T7.setTop (mkF m 40 #[.val (.int p1), .val (.int p2), .val (.int p3), .val (.int (0 : Int32)), .val (.ref b1), .val (.ref nb4), .val (.int ((p1 + (1 : Int32)) - p1)), .unset, .unset, .unset, .unset] []))
    refine Goes.via (fun _ k => XS.aload X7.here hx rfl (hb hby at_40) rfl rfl  k) ?_
    show Goes p e below _ (T7.setTop (mkF m 42 #[.val (.int p1), .val (.int p2), .val (.int p3), .val (.int (0 : Int32)), .val (.ref b1), .val (.ref nb4), .val (.int ((p1 + (1 : Int32)) - p1)), .unset, .unset, .unset, .unset] [(.ref nb4)]))
    obtain ⟨cq9, kq9, q9a, q9b, q9c⟩ := isOf hZ e7' u4_1
    obtain ⟨_, _, ⟨T9, L9, k9, n9⟩, -, X9, ⟨Lc9, hQ9, l9, y9, z9⟩, st9⟩ := X7.virtualBack hx (y := (⟨"com/example/lincra/lincra/Tally", "relevant", "()I"⟩ : MethodName)) (z := (⟨"com/example/lincra/lincra/Tally", "relevant", "()I"⟩ : MethodName)) hown (mvT hZ (hw _ (List.mem_of_getElem? (i := 30) rfl))) (mvT hZ (hw _ (List.mem_of_getElem? (i := 31) rfl))) (notFace_of_selects (args := #[]) (mvT hZ (hw _ (List.mem_of_getElem? (i := 33) rfl)))) (mvT hZ (hw _ (List.mem_of_getElem? (i := 33) rfl))) (mvT hZ (hw _ (List.mem_of_getElem? (i := 32) rfl))) (by decide) (backOf (W := 0) (rm6 l Z a0 hw [] nb4 (p2 + (if (0 : Int32) = (0 : Int32) then (0 : Int32) else (1 : Int32))) T4.heap n0 (Nat.le_trans Z0 z8) u4_3) hZ (hw _ (List.mem_of_getElem? (i := 34) rfl)) (hw _ (List.mem_of_getElem? (i := 2) rfl)) (by decide) (by decide)) q9a q9c (g := (mkF m 42 #[.val (.int p1), .val (.int p2), .val (.int p3), .val (.int (0 : Int32)), .val (.ref b1), .val (.ref nb4), .val (.int ((p1 + (1 : Int32)) - p1)), .unset, .unset, .unset, .unset] [(.ref nb4)])) rfl (by rw [hml]; rfl) (Steps.refl _) (argsL := []) (rest := []) (lenOf pd_3 rfl) rfl (by show 2 * 0 + _ ≤ _; exact Nat.le_of_eq rfl) (hb hby at_42) (fun _ _ => ⟨rfl, e7', (by first | decide | omega : 2 + 0 ≤ _), (by first | decide | omega : 4 + 0 ≤ _)⟩)
    dsimp only [Pt.U, Pt.locs, Pt.cells, Pt.slots] at X9 l9 y9 z9 st9 hQ9
    subst l9 y9 z9
    obtain ⟨rfl, N9q, e9⟩ := hQ9
    have N9 := Fr.app N7 N9q
    refine Goes.tr st9 ?_
    have e9' : T9.heap = T4.heap := e9
    show Goes p e below _ (T9.setTop (mkF m 45 #[.val (.int p1), .val (.int p2), .val (.int p3), .val (.int (0 : Int32)), .val (.ref b1), .val (.ref nb4), .val (.int ((p1 + (1 : Int32)) - p1)), .unset, .unset, .unset, .unset] [(.int (p2 + (if (0 : Int32) = (0 : Int32) then (0 : Int32) else (1 : Int32))))]))
    refine Goes.via (fun _ k => XS.iloadN X9.here hx rfl (hb hby at_45) rfl  k) ?_
    show Goes p e below _ (T9.setTop (mkF m 46 #[.val (.int p1), .val (.int p2), .val (.int p3), .val (.int (0 : Int32)), .val (.ref b1), .val (.ref nb4), .val (.int ((p1 + (1 : Int32)) - p1)), .unset, .unset, .unset, .unset] [(.int p2), (.int (p2 + (if (0 : Int32) = (0 : Int32) then (0 : Int32) else (1 : Int32))))]))
    refine Goes.via (fun _ k => XS.isub X9.here hx rfl (hb hby at_46) rfl k) ?_
    show Goes p e below _ (T9.setTop (mkF m 47 #[.val (.int p1), .val (.int p2), .val (.int p3), .val (.int (0 : Int32)), .val (.ref b1), .val (.ref nb4), .val (.int ((p1 + (1 : Int32)) - p1)), .unset, .unset, .unset, .unset] [(.int ((p2 + (if (0 : Int32) = (0 : Int32) then (0 : Int32) else (1 : Int32))) - p2))]))
    refine Goes.via (fun _ k => XS.istore X9.here hx rfl (hb hby at_47) rfl (l' := #[.val (.int p1), .val (.int p2), .val (.int p3), .val (.int (0 : Int32)), .val (.ref b1), .val (.ref nb4), .val (.int ((p1 + (1 : Int32)) - p1)), .val (.int ((p2 + (if (0 : Int32) = (0 : Int32) then (0 : Int32) else (1 : Int32))) - p2)), .unset, .unset, .unset]) rfl k) ?_
    show Goes p e below _ (T9.setTop (mkF m 49 #[.val (.int p1), .val (.int p2), .val (.int p3), .val (.int (0 : Int32)), .val (.ref b1), .val (.ref nb4), .val (.int ((p1 + (1 : Int32)) - p1)), .val (.int ((p2 + (if (0 : Int32) = (0 : Int32) then (0 : Int32) else (1 : Int32))) - p2)), .unset, .unset, .unset] []))
    refine Goes.via (fun _ k => XS.iload X9.here hx rfl (hb hby at_49) rfl  k) ?_
    show Goes p e below _ (T9.setTop (mkF m 51 #[.val (.int p1), .val (.int p2), .val (.int p3), .val (.int (0 : Int32)), .val (.ref b1), .val (.ref nb4), .val (.int ((p1 + (1 : Int32)) - p1)), .val (.int ((p2 + (if (0 : Int32) = (0 : Int32) then (0 : Int32) else (1 : Int32))) - p2)), .unset, .unset, .unset] [(.int ((p1 + (1 : Int32)) - p1))]))
    refine Goes.via (fun _ k => XS.iconst X9.here hx rfl (hb hby at_51) k) ?_
    show Goes p e below _ (T9.setTop (mkF m 52 #[.val (.int p1), .val (.int p2), .val (.int p3), .val (.int (0 : Int32)), .val (.ref b1), .val (.ref nb4), .val (.int ((p1 + (1 : Int32)) - p1)), .val (.int ((p2 + (if (0 : Int32) = (0 : Int32) then (0 : Int32) else (1 : Int32))) - p2)), .unset, .unset, .unset] [(.int (1 : Int32)), (.int ((p1 + (1 : Int32)) - p1))]))
    have hc52_10 : ((p1 + (1 : Int32)) - p1) = (1 : Int32) := own_ac _ _
    refine Goes.via (fun _ k => XS.icmpNo X9.here hx rfl (hb hby at_52) rfl (teq hc52_10).2 k) ?_
    show Goes p e below _ (T9.setTop (mkF m 55 #[.val (.int p1), .val (.int p2), .val (.int p3), .val (.int (0 : Int32)), .val (.ref b1), .val (.ref nb4), .val (.int ((p1 + (1 : Int32)) - p1)), .val (.int ((p2 + (if (0 : Int32) = (0 : Int32) then (0 : Int32) else (1 : Int32))) - p2)), .unset, .unset, .unset] []))
    refine Goes.via (fun _ k => XS.iconst X9.here hx rfl (hb hby at_55) k) ?_
    show Goes p e below _ (T9.setTop (mkF m 56 #[.val (.int p1), .val (.int p2), .val (.int p3), .val (.int (0 : Int32)), .val (.ref b1), .val (.ref nb4), .val (.int ((p1 + (1 : Int32)) - p1)), .val (.int ((p2 + (if (0 : Int32) = (0 : Int32) then (0 : Int32) else (1 : Int32))) - p2)), .unset, .unset, .unset] [(.int (1 : Int32))]))
    refine Goes.via (fun _ k => XS.goto X9.here hx rfl (pc0 := 56) (pc' := 60) rfl (hb hby at_56) (by decide) (by decide) k) ?_
    show Goes p e below _ (T9.setTop (mkF m 60 #[.val (.int p1), .val (.int p2), .val (.int p3), .val (.int (0 : Int32)), .val (.ref b1), .val (.ref nb4), .val (.int ((p1 + (1 : Int32)) - p1)), .val (.int ((p2 + (if (0 : Int32) = (0 : Int32) then (0 : Int32) else (1 : Int32))) - p2)), .unset, .unset, .unset] [(.int (1 : Int32))]))
    refine Goes.via (fun _ k => XS.istore X9.here hx rfl (hb hby at_60) rfl (l' := #[.val (.int p1), .val (.int p2), .val (.int p3), .val (.int (0 : Int32)), .val (.ref b1), .val (.ref nb4), .val (.int ((p1 + (1 : Int32)) - p1)), .val (.int ((p2 + (if (0 : Int32) = (0 : Int32) then (0 : Int32) else (1 : Int32))) - p2)), .val (.int (1 : Int32)), .unset, .unset]) rfl k) ?_
    show Goes p e below _ (T9.setTop (mkF m 62 #[.val (.int p1), .val (.int p2), .val (.int p3), .val (.int (0 : Int32)), .val (.ref b1), .val (.ref nb4), .val (.int ((p1 + (1 : Int32)) - p1)), .val (.int ((p2 + (if (0 : Int32) = (0 : Int32) then (0 : Int32) else (1 : Int32))) - p2)), .val (.int (1 : Int32)), .unset, .unset] []))
    refine Goes.via (fun _ k => XS.iloadN X9.here hx rfl (hb hby at_62) rfl  k) ?_
    show Goes p e below _ (T9.setTop (mkF m 63 #[.val (.int p1), .val (.int p2), .val (.int p3), .val (.int (0 : Int32)), .val (.ref b1), .val (.ref nb4), .val (.int ((p1 + (1 : Int32)) - p1)), .val (.int ((p2 + (if (0 : Int32) = (0 : Int32) then (0 : Int32) else (1 : Int32))) - p2)), .val (.int (1 : Int32)), .unset, .unset] [(.int (0 : Int32))]))
    have hc63_11 : (0 : Int32) = (0 : Int32) := (by decide)
    refine Goes.via (fun _ k => XS.ifYes X9.here hx rfl (pc0 := 63) (pc' := 82) rfl (hb hby at_63) rfl ((if0 _ _).trans (teq hc63_11).1) (by decide) (by decide) k) ?_
    show Goes p e below _ (T9.setTop (mkF m 82 #[.val (.int p1), .val (.int p2), .val (.int p3), .val (.int (0 : Int32)), .val (.ref b1), .val (.ref nb4), .val (.int ((p1 + (1 : Int32)) - p1)), .val (.int ((p2 + (if (0 : Int32) = (0 : Int32) then (0 : Int32) else (1 : Int32))) - p2)), .val (.int (1 : Int32)), .unset, .unset] []))
    refine Goes.via (fun _ k => XS.iload X9.here hx rfl (hb hby at_82) rfl  k) ?_
    show Goes p e below _ (T9.setTop (mkF m 84 #[.val (.int p1), .val (.int p2), .val (.int p3), .val (.int (0 : Int32)), .val (.ref b1), .val (.ref nb4), .val (.int ((p1 + (1 : Int32)) - p1)), .val (.int ((p2 + (if (0 : Int32) = (0 : Int32) then (0 : Int32) else (1 : Int32))) - p2)), .val (.int (1 : Int32)), .unset, .unset] [(.int ((p2 + (if (0 : Int32) = (0 : Int32) then (0 : Int32) else (1 : Int32))) - p2))]))
    have hc84_12 : ((p2 + (if (0 : Int32) = (0 : Int32) then (0 : Int32) else (1 : Int32))) - p2) = (0 : Int32) := own_ac0 _ _ (by decide)
    refine Goes.via (fun _ k => XS.ifNo X9.here hx rfl (hb hby at_84) rfl ((if0 _ _).trans (teq hc84_12).2) k) ?_
    show Goes p e below _ (T9.setTop (mkF m 87 #[.val (.int p1), .val (.int p2), .val (.int p3), .val (.int (0 : Int32)), .val (.ref b1), .val (.ref nb4), .val (.int ((p1 + (1 : Int32)) - p1)), .val (.int ((p2 + (if (0 : Int32) = (0 : Int32) then (0 : Int32) else (1 : Int32))) - p2)), .val (.int (1 : Int32)), .unset, .unset] []))
    refine Goes.via (fun _ k => XS.iconst X9.here hx rfl (hb hby at_87) k) ?_
    show Goes p e below _ (T9.setTop (mkF m 88 #[.val (.int p1), .val (.int p2), .val (.int p3), .val (.int (0 : Int32)), .val (.ref b1), .val (.ref nb4), .val (.int ((p1 + (1 : Int32)) - p1)), .val (.int ((p2 + (if (0 : Int32) = (0 : Int32) then (0 : Int32) else (1 : Int32))) - p2)), .val (.int (1 : Int32)), .unset, .unset] [(.int (1 : Int32))]))
    refine Goes.via (fun _ k => XS.goto X9.here hx rfl (pc0 := 88) (pc' := 92) rfl (hb hby at_88) (by decide) (by decide) k) ?_
    show Goes p e below _ (T9.setTop (mkF m 92 #[.val (.int p1), .val (.int p2), .val (.int p3), .val (.int (0 : Int32)), .val (.ref b1), .val (.ref nb4), .val (.int ((p1 + (1 : Int32)) - p1)), .val (.int ((p2 + (if (0 : Int32) = (0 : Int32) then (0 : Int32) else (1 : Int32))) - p2)), .val (.int (1 : Int32)), .unset, .unset] [(.int (1 : Int32))]))
    refine Goes.via (fun _ k => XS.istore X9.here hx rfl (hb hby at_92) rfl (l' := #[.val (.int p1), .val (.int p2), .val (.int p3), .val (.int (0 : Int32)), .val (.ref b1), .val (.ref nb4), .val (.int ((p1 + (1 : Int32)) - p1)), .val (.int ((p2 + (if (0 : Int32) = (0 : Int32) then (0 : Int32) else (1 : Int32))) - p2)), .val (.int (1 : Int32)), .val (.int (1 : Int32)), .unset]) rfl k) ?_
    show Goes p e below _ (T9.setTop (mkF m 94 #[.val (.int p1), .val (.int p2), .val (.int p3), .val (.int (0 : Int32)), .val (.ref b1), .val (.ref nb4), .val (.int ((p1 + (1 : Int32)) - p1)), .val (.int ((p2 + (if (0 : Int32) = (0 : Int32) then (0 : Int32) else (1 : Int32))) - p2)), .val (.int (1 : Int32)), .val (.int (1 : Int32)), .unset] []))
    refine Goes.via (fun _ k => XS.aload X9.here hx rfl (hb hby at_94) rfl rfl  k) ?_
    show Goes p e below _ (T9.setTop (mkF m 96 #[.val (.int p1), .val (.int p2), .val (.int p3), .val (.int (0 : Int32)), .val (.ref b1), .val (.ref nb4), .val (.int ((p1 + (1 : Int32)) - p1)), .val (.int ((p2 + (if (0 : Int32) = (0 : Int32) then (0 : Int32) else (1 : Int32))) - p2)), .val (.int (1 : Int32)), .val (.int (1 : Int32)), .unset] [(.ref b1)]))
    have f13 : Fld Z T4.heap b1 "com/example/lincra/lincra/Tally" "fetched" "I" (.int p1) := (u2_1.keep K4 nin0)
    have f15 : Exa Z T4.heap b1 "com/example/lincra/lincra/Tally" := (u2_0.keep K4)
    obtain ⟨cq14, kq14, q14a, q14b, q14c⟩ := isOf hZ e9' f15
    obtain ⟨_, _, ⟨T14, L14, k14, n14⟩, -, X14, ⟨Lc14, hQ14, l14, y14, z14⟩, st14⟩ := X9.virtualBack hx (y := (⟨"com/example/lincra/lincra/Tally", "fetched", "()I"⟩ : MethodName)) (z := (⟨"com/example/lincra/lincra/Tally", "fetched", "()I"⟩ : MethodName)) hown (mvT hZ (hw _ (List.mem_of_getElem? (i := 25) rfl))) (mvT hZ (hw _ (List.mem_of_getElem? (i := 26) rfl))) (notFace_of_selects (args := #[]) (mvT hZ (hw _ (List.mem_of_getElem? (i := 28) rfl)))) (mvT hZ (hw _ (List.mem_of_getElem? (i := 28) rfl))) (mvT hZ (hw _ (List.mem_of_getElem? (i := 27) rfl))) (by decide) (backOf (W := 0) (rm5 l Z a0 hw [] b1 p1 T4.heap n0 (Nat.le_trans Z0 z8) f13) hZ (hw _ (List.mem_of_getElem? (i := 29) rfl)) (hw _ (List.mem_of_getElem? (i := 2) rfl)) (by decide) (by decide)) q14a q14c (g := (mkF m 96 #[.val (.int p1), .val (.int p2), .val (.int p3), .val (.int (0 : Int32)), .val (.ref b1), .val (.ref nb4), .val (.int ((p1 + (1 : Int32)) - p1)), .val (.int ((p2 + (if (0 : Int32) = (0 : Int32) then (0 : Int32) else (1 : Int32))) - p2)), .val (.int (1 : Int32)), .val (.int (1 : Int32)), .unset] [(.ref b1)])) rfl (by rw [hml]; rfl) (Steps.refl _) (argsL := []) (rest := []) (lenOf pd_3 rfl) rfl (by show 2 * 0 + _ ≤ _; exact Nat.le_of_eq rfl) (hb hby at_96) (fun _ _ => ⟨rfl, e9', (by first | decide | omega : 2 + 0 ≤ _), (by first | decide | omega : 4 + 0 ≤ _)⟩)
    dsimp only [Pt.U, Pt.locs, Pt.cells, Pt.slots] at X14 l14 y14 z14 st14 hQ14
    subst l14 y14 z14
    obtain ⟨rfl, N14q, e14⟩ := hQ14
    have N14 := Fr.app N9 N14q
    refine Goes.tr st14 ?_
    have e14' : T14.heap = T4.heap := e14
    show Goes p e below _ (T14.setTop (mkF m 99 #[.val (.int p1), .val (.int p2), .val (.int p3), .val (.int (0 : Int32)), .val (.ref b1), .val (.ref nb4), .val (.int ((p1 + (1 : Int32)) - p1)), .val (.int ((p2 + (if (0 : Int32) = (0 : Int32) then (0 : Int32) else (1 : Int32))) - p2)), .val (.int (1 : Int32)), .val (.int (1 : Int32)), .unset] [(.int p1)]))
    refine Goes.via (fun _ k => XS.iloadN X14.here hx rfl (hb hby at_99) rfl  k) ?_
    show Goes p e below _ (T14.setTop (mkF m 100 #[.val (.int p1), .val (.int p2), .val (.int p3), .val (.int (0 : Int32)), .val (.ref b1), .val (.ref nb4), .val (.int ((p1 + (1 : Int32)) - p1)), .val (.int ((p2 + (if (0 : Int32) = (0 : Int32) then (0 : Int32) else (1 : Int32))) - p2)), .val (.int (1 : Int32)), .val (.int (1 : Int32)), .unset] [(.int p1), (.int p1)]))
    have hc100_16 : p1 = p1 := rfl
    refine Goes.via (fun _ k => XS.icmpNo X14.here hx rfl (hb hby at_100) rfl (teq hc100_16).2 k) ?_
    show Goes p e below _ (T14.setTop (mkF m 103 #[.val (.int p1), .val (.int p2), .val (.int p3), .val (.int (0 : Int32)), .val (.ref b1), .val (.ref nb4), .val (.int ((p1 + (1 : Int32)) - p1)), .val (.int ((p2 + (if (0 : Int32) = (0 : Int32) then (0 : Int32) else (1 : Int32))) - p2)), .val (.int (1 : Int32)), .val (.int (1 : Int32)), .unset] []))
    refine Goes.via (fun _ k => XS.aload X14.here hx rfl (hb hby at_103) rfl rfl  k) ?_
    show Goes p e below _ (T14.setTop (mkF m 105 #[.val (.int p1), .val (.int p2), .val (.int p3), .val (.int (0 : Int32)), .val (.ref b1), .val (.ref nb4), .val (.int ((p1 + (1 : Int32)) - p1)), .val (.int ((p2 + (if (0 : Int32) = (0 : Int32) then (0 : Int32) else (1 : Int32))) - p2)), .val (.int (1 : Int32)), .val (.int (1 : Int32)), .unset] [(.ref b1)]))
    have f17 : Fld Z T4.heap b1 "com/example/lincra/lincra/Tally" "relevant" "I" (.int p2) := (u2_2.keep K4 nin0)
    obtain ⟨cq18, kq18, q18a, q18b, q18c⟩ := isOf hZ e14' f15
    obtain ⟨_, _, ⟨T18, L18, k18, n18⟩, -, X18, ⟨Lc18, hQ18, l18, y18, z18⟩, st18⟩ := X14.virtualBack hx (y := (⟨"com/example/lincra/lincra/Tally", "relevant", "()I"⟩ : MethodName)) (z := (⟨"com/example/lincra/lincra/Tally", "relevant", "()I"⟩ : MethodName)) hown (mvT hZ (hw _ (List.mem_of_getElem? (i := 30) rfl))) (mvT hZ (hw _ (List.mem_of_getElem? (i := 31) rfl))) (notFace_of_selects (args := #[]) (mvT hZ (hw _ (List.mem_of_getElem? (i := 33) rfl)))) (mvT hZ (hw _ (List.mem_of_getElem? (i := 33) rfl))) (mvT hZ (hw _ (List.mem_of_getElem? (i := 32) rfl))) (by decide) (backOf (W := 0) (rm6 l Z a0 hw [] b1 p2 T4.heap n0 (Nat.le_trans Z0 z8) f17) hZ (hw _ (List.mem_of_getElem? (i := 34) rfl)) (hw _ (List.mem_of_getElem? (i := 2) rfl)) (by decide) (by decide)) q18a q18c (g := (mkF m 105 #[.val (.int p1), .val (.int p2), .val (.int p3), .val (.int (0 : Int32)), .val (.ref b1), .val (.ref nb4), .val (.int ((p1 + (1 : Int32)) - p1)), .val (.int ((p2 + (if (0 : Int32) = (0 : Int32) then (0 : Int32) else (1 : Int32))) - p2)), .val (.int (1 : Int32)), .val (.int (1 : Int32)), .unset] [(.ref b1)])) rfl (by rw [hml]; rfl) (Steps.refl _) (argsL := []) (rest := []) (lenOf pd_3 rfl) rfl (by show 2 * 0 + _ ≤ _; exact Nat.le_of_eq rfl) (hb hby at_105) (fun _ _ => ⟨rfl, e14', (by first | decide | omega : 2 + 0 ≤ _), (by first | decide | omega : 4 + 0 ≤ _)⟩)
    dsimp only [Pt.U, Pt.locs, Pt.cells, Pt.slots] at X18 l18 y18 z18 st18 hQ18
    subst l18 y18 z18
    obtain ⟨rfl, N18q, e18⟩ := hQ18
    have N18 := Fr.app N14 N18q
    refine Goes.tr st18 ?_
    have e18' : T18.heap = T4.heap := e18
    show Goes p e below _ (T18.setTop (mkF m 108 #[.val (.int p1), .val (.int p2), .val (.int p3), .val (.int (0 : Int32)), .val (.ref b1), .val (.ref nb4), .val (.int ((p1 + (1 : Int32)) - p1)), .val (.int ((p2 + (if (0 : Int32) = (0 : Int32) then (0 : Int32) else (1 : Int32))) - p2)), .val (.int (1 : Int32)), .val (.int (1 : Int32)), .unset] [(.int p2)]))
    refine Goes.via (fun _ k => XS.iloadN X18.here hx rfl (hb hby at_108) rfl  k) ?_
    show Goes p e below _ (T18.setTop (mkF m 109 #[.val (.int p1), .val (.int p2), .val (.int p3), .val (.int (0 : Int32)), .val (.ref b1), .val (.ref nb4), .val (.int ((p1 + (1 : Int32)) - p1)), .val (.int ((p2 + (if (0 : Int32) = (0 : Int32) then (0 : Int32) else (1 : Int32))) - p2)), .val (.int (1 : Int32)), .val (.int (1 : Int32)), .unset] [(.int p2), (.int p2)]))
    have hc109_19 : p2 = p2 := rfl
    refine Goes.via (fun _ k => XS.icmpNo X18.here hx rfl (hb hby at_109) rfl (teq hc109_19).2 k) ?_
    show Goes p e below _ (T18.setTop (mkF m 112 #[.val (.int p1), .val (.int p2), .val (.int p3), .val (.int (0 : Int32)), .val (.ref b1), .val (.ref nb4), .val (.int ((p1 + (1 : Int32)) - p1)), .val (.int ((p2 + (if (0 : Int32) = (0 : Int32) then (0 : Int32) else (1 : Int32))) - p2)), .val (.int (1 : Int32)), .val (.int (1 : Int32)), .unset] []))
    refine Goes.via (fun _ k => XS.iconst X18.here hx rfl (hb hby at_112) k) ?_
    show Goes p e below _ (T18.setTop (mkF m 113 #[.val (.int p1), .val (.int p2), .val (.int p3), .val (.int (0 : Int32)), .val (.ref b1), .val (.ref nb4), .val (.int ((p1 + (1 : Int32)) - p1)), .val (.int ((p2 + (if (0 : Int32) = (0 : Int32) then (0 : Int32) else (1 : Int32))) - p2)), .val (.int (1 : Int32)), .val (.int (1 : Int32)), .unset] [(.int (1 : Int32))]))
    refine Goes.via (fun _ k => XS.goto X18.here hx rfl (pc0 := 113) (pc' := 117) rfl (hb hby at_113) (by decide) (by decide) k) ?_
    show Goes p e below _ (T18.setTop (mkF m 117 #[.val (.int p1), .val (.int p2), .val (.int p3), .val (.int (0 : Int32)), .val (.ref b1), .val (.ref nb4), .val (.int ((p1 + (1 : Int32)) - p1)), .val (.int ((p2 + (if (0 : Int32) = (0 : Int32) then (0 : Int32) else (1 : Int32))) - p2)), .val (.int (1 : Int32)), .val (.int (1 : Int32)), .unset] [(.int (1 : Int32))]))
    refine Goes.via (fun _ k => XS.istore X18.here hx rfl (hb hby at_117) rfl (l' := #[.val (.int p1), .val (.int p2), .val (.int p3), .val (.int (0 : Int32)), .val (.ref b1), .val (.ref nb4), .val (.int ((p1 + (1 : Int32)) - p1)), .val (.int ((p2 + (if (0 : Int32) = (0 : Int32) then (0 : Int32) else (1 : Int32))) - p2)), .val (.int (1 : Int32)), .val (.int (1 : Int32)), .val (.int (1 : Int32))]) rfl k) ?_
    show Goes p e below _ (T18.setTop (mkF m 119 #[.val (.int p1), .val (.int p2), .val (.int p3), .val (.int (0 : Int32)), .val (.ref b1), .val (.ref nb4), .val (.int ((p1 + (1 : Int32)) - p1)), .val (.int ((p2 + (if (0 : Int32) = (0 : Int32) then (0 : Int32) else (1 : Int32))) - p2)), .val (.int (1 : Int32)), .val (.int (1 : Int32)), .val (.int (1 : Int32))] []))
    refine Goes.via (fun _ k => XS.iload X18.here hx rfl (hb hby at_119) rfl  k) ?_
    show Goes p e below _ (T18.setTop (mkF m 121 #[.val (.int p1), .val (.int p2), .val (.int p3), .val (.int (0 : Int32)), .val (.ref b1), .val (.ref nb4), .val (.int ((p1 + (1 : Int32)) - p1)), .val (.int ((p2 + (if (0 : Int32) = (0 : Int32) then (0 : Int32) else (1 : Int32))) - p2)), .val (.int (1 : Int32)), .val (.int (1 : Int32)), .val (.int (1 : Int32))] [(.int (1 : Int32))]))
    have hc121_20 : ¬ ((1 : Int32) = (0 : Int32)) := (by decide)
    refine Goes.via (fun _ k => XS.ifNo X18.here hx rfl (hb hby at_121) rfl ((if0 _ _).trans (feq hc121_20).1) k) ?_
    show Goes p e below _ (T18.setTop (mkF m 124 #[.val (.int p1), .val (.int p2), .val (.int p3), .val (.int (0 : Int32)), .val (.ref b1), .val (.ref nb4), .val (.int ((p1 + (1 : Int32)) - p1)), .val (.int ((p2 + (if (0 : Int32) = (0 : Int32) then (0 : Int32) else (1 : Int32))) - p2)), .val (.int (1 : Int32)), .val (.int (1 : Int32)), .val (.int (1 : Int32))] []))
    refine Goes.via (fun _ k => XS.iload X18.here hx rfl (hb hby at_124) rfl  k) ?_
    show Goes p e below _ (T18.setTop (mkF m 126 #[.val (.int p1), .val (.int p2), .val (.int p3), .val (.int (0 : Int32)), .val (.ref b1), .val (.ref nb4), .val (.int ((p1 + (1 : Int32)) - p1)), .val (.int ((p2 + (if (0 : Int32) = (0 : Int32) then (0 : Int32) else (1 : Int32))) - p2)), .val (.int (1 : Int32)), .val (.int (1 : Int32)), .val (.int (1 : Int32))] [(.int (1 : Int32))]))
    have hc126_21 : ¬ ((1 : Int32) = (0 : Int32)) := (by decide)
    refine Goes.via (fun _ k => XS.ifNo X18.here hx rfl (hb hby at_126) rfl ((if0 _ _).trans (feq hc126_21).1) k) ?_
    show Goes p e below _ (T18.setTop (mkF m 129 #[.val (.int p1), .val (.int p2), .val (.int p3), .val (.int (0 : Int32)), .val (.ref b1), .val (.ref nb4), .val (.int ((p1 + (1 : Int32)) - p1)), .val (.int ((p2 + (if (0 : Int32) = (0 : Int32) then (0 : Int32) else (1 : Int32))) - p2)), .val (.int (1 : Int32)), .val (.int (1 : Int32)), .val (.int (1 : Int32))] []))
    refine Goes.via (fun _ k => XS.iload X18.here hx rfl (hb hby at_129) rfl  k) ?_
    show Goes p e below _ (T18.setTop (mkF m 131 #[.val (.int p1), .val (.int p2), .val (.int p3), .val (.int (0 : Int32)), .val (.ref b1), .val (.ref nb4), .val (.int ((p1 + (1 : Int32)) - p1)), .val (.int ((p2 + (if (0 : Int32) = (0 : Int32) then (0 : Int32) else (1 : Int32))) - p2)), .val (.int (1 : Int32)), .val (.int (1 : Int32)), .val (.int (1 : Int32))] [(.int (1 : Int32))]))
    have hc131_22 : ¬ ((1 : Int32) = (0 : Int32)) := (by decide)
    refine Goes.via (fun _ k => XS.ifNo X18.here hx rfl (hb hby at_131) rfl ((if0 _ _).trans (feq hc131_22).1) k) ?_
    show Goes p e below _ (T18.setTop (mkF m 134 #[.val (.int p1), .val (.int p2), .val (.int p3), .val (.int (0 : Int32)), .val (.ref b1), .val (.ref nb4), .val (.int ((p1 + (1 : Int32)) - p1)), .val (.int ((p2 + (if (0 : Int32) = (0 : Int32) then (0 : Int32) else (1 : Int32))) - p2)), .val (.int (1 : Int32)), .val (.int (1 : Int32)), .val (.int (1 : Int32))] []))
    refine Goes.via (fun _ k => XS.iconst X18.here hx rfl (hb hby at_134) k) ?_
    show Goes p e below _ (T18.setTop (mkF m 135 #[.val (.int p1), .val (.int p2), .val (.int p3), .val (.int (0 : Int32)), .val (.ref b1), .val (.ref nb4), .val (.int ((p1 + (1 : Int32)) - p1)), .val (.int ((p2 + (if (0 : Int32) = (0 : Int32) then (0 : Int32) else (1 : Int32))) - p2)), .val (.int (1 : Int32)), .val (.int (1 : Int32)), .val (.int (1 : Int32))] [(.int (1 : Int32))]))
    refine Goes.via (fun _ k => XS.goto X18.here hx rfl (pc0 := 135) (pc' := 139) rfl (hb hby at_135) (by decide) (by decide) k) ?_
    show Goes p e below _ (T18.setTop (mkF m 139 #[.val (.int p1), .val (.int p2), .val (.int p3), .val (.int (0 : Int32)), .val (.ref b1), .val (.ref nb4), .val (.int ((p1 + (1 : Int32)) - p1)), .val (.int ((p2 + (if (0 : Int32) = (0 : Int32) then (0 : Int32) else (1 : Int32))) - p2)), .val (.int (1 : Int32)), .val (.int (1 : Int32)), .val (.int (1 : Int32))] [(.int (1 : Int32))]))
    have K23 : Keep h0 T4.heap [] := ((((Keep.refl h0 []).ext E1).trans K2 (allS (Or.inr sz_b1) all0)).trans K4 all0)
    exact own_finN X18 hx hlk hret (by simp) (hb hby at_139) (by rw [e18']; exact ⟨rfl, N18, K23⟩) (by first | decide | omega) (by first | decide | omega)
  · skip
    refine Goes.via (fun _ k => XS.ifNo X0.here hx rfl (hb hby at_3) rfl ((if0 _ _).trans (feq hc3).1) k) ?_
    show Goes p e below _ (s₁.setTop (mkF m 6 #[.val (.int p1), .val (.int p2), .val (.int p3), .unset, .unset, .unset, .unset, .unset, .unset, .unset, .unset] []))
    refine Goes.via (fun _ k => XS.iconst X0.here hx rfl (hb hby at_6) k) ?_
    show Goes p e below _ (s₁.setTop (mkF m 7 #[.val (.int p1), .val (.int p2), .val (.int p3), .unset, .unset, .unset, .unset, .unset, .unset, .unset, .unset] [(.int (1 : Int32))]))
    refine Goes.via (fun _ k => XS.goto X0.here hx rfl (pc0 := 7) (pc' := 11) rfl (hb hby at_7) (by decide) (by decide) k) ?_
    show Goes p e below _ (s₁.setTop (mkF m 11 #[.val (.int p1), .val (.int p2), .val (.int p3), .unset, .unset, .unset, .unset, .unset, .unset, .unset, .unset] [(.int (1 : Int32))]))
    refine Goes.via (fun _ k => XS.istoreN X0.here hx rfl (hb hby at_11) rfl (l' := #[.val (.int p1), .val (.int p2), .val (.int p3), .val (.int (1 : Int32)), .unset, .unset, .unset, .unset, .unset, .unset, .unset]) rfl k) ?_
    show Goes p e below _ (s₁.setTop (mkF m 12 #[.val (.int p1), .val (.int p2), .val (.int p3), .val (.int (1 : Int32)), .unset, .unset, .unset, .unset, .unset, .unset, .unset] []))
    obtain ⟨T24, h24, X24, e24, E24, A24, D24, -, st24⟩ := newO X0 hx hZ hown (hw _ (List.mem_of_getElem? (i := 0) rfl)) (hw _ (List.mem_of_getElem? (i := 1) rfl)) (hw _ (List.mem_of_getElem? (i := 2) rfl)) e0 (g := (mkF m 12 #[.val (.int p1), .val (.int p2), .val (.int p3), .val (.int (1 : Int32)), .unset, .unset, .unset, .unset, .unset, .unset, .unset] [])) rfl (hb hby at_12) (by first | decide | omega) (by first | decide | omega)
    obtain ⟨b24, g24⟩ : ∃ z, z = (h0).size := ⟨_, rfl⟩
    rw [← g24] at A24 D24 st24
    have sz_b24 : h0.size ≤ b24 := Nat.le_trans (Nat.le_refl _) (Nat.le_of_eq g24.symm)
    have gn_b24 : n0 ≤ b24 := Nat.le_trans Z0 sz_b24
    have F_fetched_b24 : Fld Z h24 b24 "com/example/lincra/lincra/Tally" "fetched" "I" (.int (0 : Int32)) := D24 (Or.inr (hw _ (List.mem_of_getElem? (i := 15) rfl))) (ty := .int) (by decide)
    have F_relevant_b24 : Fld Z h24 b24 "com/example/lincra/lincra/Tally" "relevant" "I" (.int (0 : Int32)) := D24 (Or.inr (hw _ (List.mem_of_getElem? (i := 17) rfl))) (ty := .int) (by decide)
    refine Goes.via st24 ?_
    show Goes p e below _ (T24.setTop (mkF m 15 #[.val (.int p1), .val (.int p2), .val (.int p3), .val (.int (1 : Int32)), .unset, .unset, .unset, .unset, .unset, .unset, .unset] [(.ref b24)]))
    refine Goes.via (fun _ k => XS.dup X24.here hx rfl (hb hby at_15) rfl rfl k) ?_
    show Goes p e below _ (T24.setTop (mkF m 16 #[.val (.int p1), .val (.int p2), .val (.int p3), .val (.int (1 : Int32)), .unset, .unset, .unset, .unset, .unset, .unset, .unset] [(.ref b24), (.ref b24)]))
    refine Goes.via (fun _ k => XS.iloadN X24.here hx rfl (hb hby at_16) rfl  k) ?_
    show Goes p e below _ (T24.setTop (mkF m 17 #[.val (.int p1), .val (.int p2), .val (.int p3), .val (.int (1 : Int32)), .unset, .unset, .unset, .unset, .unset, .unset, .unset] [(.int p1), (.ref b24), (.ref b24)]))
    refine Goes.via (fun _ k => XS.iloadN X24.here hx rfl (hb hby at_17) rfl  k) ?_
    show Goes p e below _ (T24.setTop (mkF m 18 #[.val (.int p1), .val (.int p2), .val (.int p3), .val (.int (1 : Int32)), .unset, .unset, .unset, .unset, .unset, .unset, .unset] [(.int p2), (.int p1), (.ref b24), (.ref b24)]))
    have z26 : h0.size ≤ (h24).size := (Nat.le_trans (Nat.le_refl _) E24.1)
    obtain ⟨_, _, ⟨T25, L25, k25, n25⟩, -, X25, ⟨Lc25, hQ25, l25, y25, z25⟩, st25⟩ := X24.specialBack hx (y := (⟨"com/example/lincra/lincra/Tally", "<init>", "(II)V"⟩ : MethodName)) rfl hown (mvT hZ (hw _ (List.mem_of_getElem? (i := 3) rfl))) (mvT hZ (hw _ (List.mem_of_getElem? (i := 4) rfl))) (mvT hZ (hw _ (List.mem_of_getElem? (i := 5) rfl))) (by decide) (backOf (W := 1) (rm1 l Z a0 hw [] b24 p1 p2 h24 n0 (Nat.le_trans Z0 z26) A24 F_fetched_b24 F_relevant_b24 gn_b24) hZ (hw _ (List.mem_of_getElem? (i := 5) rfl)) (hw _ (List.mem_of_getElem? (i := 2) rfl)) (by decide) (by decide)) (g := (mkF m 18 #[.val (.int p1), .val (.int p2), .val (.int p3), .val (.int (1 : Int32)), .unset, .unset, .unset, .unset, .unset, .unset, .unset] [(.int p2), (.int p1), (.ref b24), (.ref b24)])) rfl (by rw [hml]; rfl) (Steps.refl _) (a := b24) (argsL := [(.int p1), (.int p2)]) (rest := [(.ref b24)]) (lenOf pd_1 rfl) rfl (by show 2 * 0 + _ ≤ _; exact Nat.le_of_eq rfl) (hb hby at_18) (fun _ _ => ⟨rfl, e24, (by first | decide | omega : 1 + 0 ≤ _), (by first | decide | omega : 2 + 0 ≤ _)⟩)
    dsimp only [Pt.U, Pt.locs, Pt.cells, Pt.slots] at X25 l25 y25 z25 st25 hQ25
    subst l25 y25 z25
    obtain ⟨rfl, N25q, K25, u25_0, u25_1, u25_2⟩ := hQ25
    have N25 := Fr.app N0 N25q
    refine Goes.tr st25 ?_
    show Goes p e below _ (T25.setTop (mkF m 21 #[.val (.int p1), .val (.int p2), .val (.int p3), .val (.int (1 : Int32)), .unset, .unset, .unset, .unset, .unset, .unset, .unset] [(.ref b24)]))
    refine Goes.via (fun _ k => XS.astore X25.here hx rfl (hb hby at_21) rfl rfl (l' := #[.val (.int p1), .val (.int p2), .val (.int p3), .val (.int (1 : Int32)), .val (.ref b24), .unset, .unset, .unset, .unset, .unset, .unset]) rfl k) ?_
    show Goes p e below _ (T25.setTop (mkF m 23 #[.val (.int p1), .val (.int p2), .val (.int p3), .val (.int (1 : Int32)), .val (.ref b24), .unset, .unset, .unset, .unset, .unset, .unset] []))
    refine Goes.via (fun _ k => XS.aload X25.here hx rfl (hb hby at_23) rfl rfl  k) ?_
    show Goes p e below _ (T25.setTop (mkF m 25 #[.val (.int p1), .val (.int p2), .val (.int p3), .val (.int (1 : Int32)), .val (.ref b24), .unset, .unset, .unset, .unset, .unset, .unset] [(.ref b24)]))
    refine Goes.via (fun _ k => XS.iloadN X25.here hx rfl (hb hby at_25) rfl  k) ?_
    show Goes p e below _ (T25.setTop (mkF m 26 #[.val (.int p1), .val (.int p2), .val (.int p3), .val (.int (1 : Int32)), .val (.ref b24), .unset, .unset, .unset, .unset, .unset, .unset] [(.int (1 : Int32)), (.ref b24)]))
    have z28 : h0.size ≤ (T25.heap).size := (Nat.le_trans z26 K25.1)
    obtain ⟨cq27, kq27, q27a, q27b, q27c⟩ := isOf hZ rfl u25_0
    obtain ⟨_, _, ⟨T27, L27, k27, n27⟩, -, X27, ⟨Lc27, hQ27, l27, y27, z27⟩, st27⟩ := X25.virtualBack hx (y := (⟨"com/example/lincra/lincra/Tally", "counting", "(Z)Lcom/example/lincra/lincra/Tally;"⟩ : MethodName)) (z := (⟨"com/example/lincra/lincra/Tally", "counting", "(Z)Lcom/example/lincra/lincra/Tally;"⟩ : MethodName)) hown (mvT hZ (hw _ (List.mem_of_getElem? (i := 18) rfl))) (mvT hZ (hw _ (List.mem_of_getElem? (i := 19) rfl))) (notFace_of_selects (args := #[]) (mvT hZ (hw _ (List.mem_of_getElem? (i := 21) rfl)))) (mvT hZ (hw _ (List.mem_of_getElem? (i := 21) rfl))) (mvT hZ (hw _ (List.mem_of_getElem? (i := 20) rfl))) (by decide) (backOf (W := 0) (rm4 l Z a0 hw [] b24 (1 : Int32) p1 p2 T25.heap n0 (Nat.le_trans Z0 z28) u25_1 u25_2) hZ (hw _ (List.mem_of_getElem? (i := 22) rfl)) (hw _ (List.mem_of_getElem? (i := 2) rfl)) (by decide) (by decide)) q27a q27c (g := (mkF m 26 #[.val (.int p1), .val (.int p2), .val (.int p3), .val (.int (1 : Int32)), .val (.ref b24), .unset, .unset, .unset, .unset, .unset, .unset] [(.int (1 : Int32)), (.ref b24)])) rfl (by rw [hml]; rfl) (Steps.refl _) (argsL := [(.int (1 : Int32))]) (rest := []) (lenOf pd_2 rfl) rfl (by show 2 * 0 + _ ≤ _; exact Nat.le_of_eq rfl) (hb hby at_26) (fun _ _ => ⟨rfl, rfl, (by first | decide | omega : 1 + 1 ≤ _), (by first | decide | omega : 2 + 2 ≤ _)⟩)
    dsimp only [Pt.U, Pt.locs, Pt.cells, Pt.slots] at X27 l27 y27 z27 st27 hQ27
    subst l27 y27 z27
    obtain ⟨nb27, rfl, N27q, K27, u27_0, u27_1, u27_2, u27_3⟩ := hQ27
    have N27 := Fr.app N25 N27q
    refine Goes.tr st27 ?_
    have ne29 : b24 ≠ nb27 := Nat.ne_of_lt (Nat.lt_of_lt_of_le u25_0.lt u27_0)
    have sz_nb27 : h0.size ≤ nb27 := Nat.le_trans z28 u27_0
    have gn_nb27 : n0 ≤ nb27 := Nat.le_trans Z0 sz_nb27
    -- u27_0 : h0.size ≤ nb27
    show Goes p e below _ (T27.setTop (mkF m 29 #[.val (.int p1), .val (.int p2), .val (.int p3), .val (.int (1 : Int32)), .val (.ref b24), .unset, .unset, .unset, .unset, .unset, .unset] [(.ref nb27)]))
    refine Goes.via (fun _ k => XS.astore X27.here hx rfl (hb hby at_29) rfl rfl (l' := #[.val (.int p1), .val (.int p2), .val (.int p3), .val (.int (1 : Int32)), .val (.ref b24), .val (.ref nb27), .unset, .unset, .unset, .unset, .unset]) rfl k) ?_
    show Goes p e below _ (T27.setTop (mkF m 31 #[.val (.int p1), .val (.int p2), .val (.int p3), .val (.int (1 : Int32)), .val (.ref b24), .val (.ref nb27), .unset, .unset, .unset, .unset, .unset] []))
    refine Goes.via (fun _ k => XS.aload X27.here hx rfl (hb hby at_31) rfl rfl  k) ?_
    show Goes p e below _ (T27.setTop (mkF m 33 #[.val (.int p1), .val (.int p2), .val (.int p3), .val (.int (1 : Int32)), .val (.ref b24), .val (.ref nb27), .unset, .unset, .unset, .unset, .unset] [(.ref nb27)]))
    have z31 : h0.size ≤ (T27.heap).size := (Nat.le_trans z28 K27.1)
    obtain ⟨cq30, kq30, q30a, q30b, q30c⟩ := isOf hZ rfl u27_1
    obtain ⟨_, _, ⟨T30, L30, k30, n30⟩, -, X30, ⟨Lc30, hQ30, l30, y30, z30⟩, st30⟩ := X27.virtualBack hx (y := (⟨"com/example/lincra/lincra/Tally", "fetched", "()I"⟩ : MethodName)) (z := (⟨"com/example/lincra/lincra/Tally", "fetched", "()I"⟩ : MethodName)) hown (mvT hZ (hw _ (List.mem_of_getElem? (i := 25) rfl))) (mvT hZ (hw _ (List.mem_of_getElem? (i := 26) rfl))) (notFace_of_selects (args := #[]) (mvT hZ (hw _ (List.mem_of_getElem? (i := 28) rfl)))) (mvT hZ (hw _ (List.mem_of_getElem? (i := 28) rfl))) (mvT hZ (hw _ (List.mem_of_getElem? (i := 27) rfl))) (by decide) (backOf (W := 0) (rm5 l Z a0 hw [] nb27 (p1 + (1 : Int32)) T27.heap n0 (Nat.le_trans Z0 z31) u27_2) hZ (hw _ (List.mem_of_getElem? (i := 29) rfl)) (hw _ (List.mem_of_getElem? (i := 2) rfl)) (by decide) (by decide)) q30a q30c (g := (mkF m 33 #[.val (.int p1), .val (.int p2), .val (.int p3), .val (.int (1 : Int32)), .val (.ref b24), .val (.ref nb27), .unset, .unset, .unset, .unset, .unset] [(.ref nb27)])) rfl (by rw [hml]; rfl) (Steps.refl _) (argsL := []) (rest := []) (lenOf pd_3 rfl) rfl (by show 2 * 0 + _ ≤ _; exact Nat.le_of_eq rfl) (hb hby at_33) (fun _ _ => ⟨rfl, rfl, (by first | decide | omega : 2 + 0 ≤ _), (by first | decide | omega : 4 + 0 ≤ _)⟩)
    dsimp only [Pt.U, Pt.locs, Pt.cells, Pt.slots] at X30 l30 y30 z30 st30 hQ30
    subst l30 y30 z30
    obtain ⟨rfl, N30q, e30⟩ := hQ30
    have N30 := Fr.app N27 N30q
    refine Goes.tr st30 ?_
    have e30' : T30.heap = T27.heap := e30
    show Goes p e below _ (T30.setTop (mkF m 36 #[.val (.int p1), .val (.int p2), .val (.int p3), .val (.int (1 : Int32)), .val (.ref b24), .val (.ref nb27), .unset, .unset, .unset, .unset, .unset] [(.int (p1 + (1 : Int32)))]))
    refine Goes.via (fun _ k => XS.iloadN X30.here hx rfl (hb hby at_36) rfl  k) ?_
    show Goes p e below _ (T30.setTop (mkF m 37 #[.val (.int p1), .val (.int p2), .val (.int p3), .val (.int (1 : Int32)), .val (.ref b24), .val (.ref nb27), .unset, .unset, .unset, .unset, .unset] [(.int p1), (.int (p1 + (1 : Int32)))]))
    refine Goes.via (fun _ k => XS.isub X30.here hx rfl (hb hby at_37) rfl k) ?_
    show Goes p e below _ (T30.setTop (mkF m 38 #[.val (.int p1), .val (.int p2), .val (.int p3), .val (.int (1 : Int32)), .val (.ref b24), .val (.ref nb27), .unset, .unset, .unset, .unset, .unset] [(.int ((p1 + (1 : Int32)) - p1))]))
    refine Goes.via (fun _ k => XS.istore X30.here hx rfl (hb hby at_38) rfl (l' := #[.val (.int p1), .val (.int p2), .val (.int p3), .val (.int (1 : Int32)), .val (.ref b24), .val (.ref nb27), .val (.int ((p1 + (1 : Int32)) - p1)), .unset, .unset, .unset, .unset]) rfl k) ?_
    show Goes p e below _ (T30.setTop (mkF m 40 #[.val (.int p1), .val (.int p2), .val (.int p3), .val (.int (1 : Int32)), .val (.ref b24), .val (.ref nb27), .val (.int ((p1 + (1 : Int32)) - p1)), .unset, .unset, .unset, .unset] []))
    refine Goes.via (fun _ k => XS.aload X30.here hx rfl (hb hby at_40) rfl rfl  k) ?_
    show Goes p e below _ (T30.setTop (mkF m 42 #[.val (.int p1), .val (.int p2), .val (.int p3), .val (.int (1 : Int32)), .val (.ref b24), .val (.ref nb27), .val (.int ((p1 + (1 : Int32)) - p1)), .unset, .unset, .unset, .unset] [(.ref nb27)]))
    obtain ⟨cq32, kq32, q32a, q32b, q32c⟩ := isOf hZ e30' u27_1
    obtain ⟨_, _, ⟨T32, L32, k32, n32⟩, -, X32, ⟨Lc32, hQ32, l32, y32, z32⟩, st32⟩ := X30.virtualBack hx (y := (⟨"com/example/lincra/lincra/Tally", "relevant", "()I"⟩ : MethodName)) (z := (⟨"com/example/lincra/lincra/Tally", "relevant", "()I"⟩ : MethodName)) hown (mvT hZ (hw _ (List.mem_of_getElem? (i := 30) rfl))) (mvT hZ (hw _ (List.mem_of_getElem? (i := 31) rfl))) (notFace_of_selects (args := #[]) (mvT hZ (hw _ (List.mem_of_getElem? (i := 33) rfl)))) (mvT hZ (hw _ (List.mem_of_getElem? (i := 33) rfl))) (mvT hZ (hw _ (List.mem_of_getElem? (i := 32) rfl))) (by decide) (backOf (W := 0) (rm6 l Z a0 hw [] nb27 (p2 + (if (1 : Int32) = (0 : Int32) then (0 : Int32) else (1 : Int32))) T27.heap n0 (Nat.le_trans Z0 z31) u27_3) hZ (hw _ (List.mem_of_getElem? (i := 34) rfl)) (hw _ (List.mem_of_getElem? (i := 2) rfl)) (by decide) (by decide)) q32a q32c (g := (mkF m 42 #[.val (.int p1), .val (.int p2), .val (.int p3), .val (.int (1 : Int32)), .val (.ref b24), .val (.ref nb27), .val (.int ((p1 + (1 : Int32)) - p1)), .unset, .unset, .unset, .unset] [(.ref nb27)])) rfl (by rw [hml]; rfl) (Steps.refl _) (argsL := []) (rest := []) (lenOf pd_3 rfl) rfl (by show 2 * 0 + _ ≤ _; exact Nat.le_of_eq rfl) (hb hby at_42) (fun _ _ => ⟨rfl, e30', (by first | decide | omega : 2 + 0 ≤ _), (by first | decide | omega : 4 + 0 ≤ _)⟩)
    dsimp only [Pt.U, Pt.locs, Pt.cells, Pt.slots] at X32 l32 y32 z32 st32 hQ32
    subst l32 y32 z32
    obtain ⟨rfl, N32q, e32⟩ := hQ32
    have N32 := Fr.app N30 N32q
    refine Goes.tr st32 ?_
    have e32' : T32.heap = T27.heap := e32
    show Goes p e below _ (T32.setTop (mkF m 45 #[.val (.int p1), .val (.int p2), .val (.int p3), .val (.int (1 : Int32)), .val (.ref b24), .val (.ref nb27), .val (.int ((p1 + (1 : Int32)) - p1)), .unset, .unset, .unset, .unset] [(.int (p2 + (if (1 : Int32) = (0 : Int32) then (0 : Int32) else (1 : Int32))))]))
    refine Goes.via (fun _ k => XS.iloadN X32.here hx rfl (hb hby at_45) rfl  k) ?_
    show Goes p e below _ (T32.setTop (mkF m 46 #[.val (.int p1), .val (.int p2), .val (.int p3), .val (.int (1 : Int32)), .val (.ref b24), .val (.ref nb27), .val (.int ((p1 + (1 : Int32)) - p1)), .unset, .unset, .unset, .unset] [(.int p2), (.int (p2 + (if (1 : Int32) = (0 : Int32) then (0 : Int32) else (1 : Int32))))]))
    refine Goes.via (fun _ k => XS.isub X32.here hx rfl (hb hby at_46) rfl k) ?_
    show Goes p e below _ (T32.setTop (mkF m 47 #[.val (.int p1), .val (.int p2), .val (.int p3), .val (.int (1 : Int32)), .val (.ref b24), .val (.ref nb27), .val (.int ((p1 + (1 : Int32)) - p1)), .unset, .unset, .unset, .unset] [(.int ((p2 + (if (1 : Int32) = (0 : Int32) then (0 : Int32) else (1 : Int32))) - p2))]))
    refine Goes.via (fun _ k => XS.istore X32.here hx rfl (hb hby at_47) rfl (l' := #[.val (.int p1), .val (.int p2), .val (.int p3), .val (.int (1 : Int32)), .val (.ref b24), .val (.ref nb27), .val (.int ((p1 + (1 : Int32)) - p1)), .val (.int ((p2 + (if (1 : Int32) = (0 : Int32) then (0 : Int32) else (1 : Int32))) - p2)), .unset, .unset, .unset]) rfl k) ?_
    show Goes p e below _ (T32.setTop (mkF m 49 #[.val (.int p1), .val (.int p2), .val (.int p3), .val (.int (1 : Int32)), .val (.ref b24), .val (.ref nb27), .val (.int ((p1 + (1 : Int32)) - p1)), .val (.int ((p2 + (if (1 : Int32) = (0 : Int32) then (0 : Int32) else (1 : Int32))) - p2)), .unset, .unset, .unset] []))
    refine Goes.via (fun _ k => XS.iload X32.here hx rfl (hb hby at_49) rfl  k) ?_
    show Goes p e below _ (T32.setTop (mkF m 51 #[.val (.int p1), .val (.int p2), .val (.int p3), .val (.int (1 : Int32)), .val (.ref b24), .val (.ref nb27), .val (.int ((p1 + (1 : Int32)) - p1)), .val (.int ((p2 + (if (1 : Int32) = (0 : Int32) then (0 : Int32) else (1 : Int32))) - p2)), .unset, .unset, .unset] [(.int ((p1 + (1 : Int32)) - p1))]))
    refine Goes.via (fun _ k => XS.iconst X32.here hx rfl (hb hby at_51) k) ?_
    show Goes p e below _ (T32.setTop (mkF m 52 #[.val (.int p1), .val (.int p2), .val (.int p3), .val (.int (1 : Int32)), .val (.ref b24), .val (.ref nb27), .val (.int ((p1 + (1 : Int32)) - p1)), .val (.int ((p2 + (if (1 : Int32) = (0 : Int32) then (0 : Int32) else (1 : Int32))) - p2)), .unset, .unset, .unset] [(.int (1 : Int32)), (.int ((p1 + (1 : Int32)) - p1))]))
    have hc52_33 : ((p1 + (1 : Int32)) - p1) = (1 : Int32) := own_ac _ _
    refine Goes.via (fun _ k => XS.icmpNo X32.here hx rfl (hb hby at_52) rfl (teq hc52_33).2 k) ?_
    show Goes p e below _ (T32.setTop (mkF m 55 #[.val (.int p1), .val (.int p2), .val (.int p3), .val (.int (1 : Int32)), .val (.ref b24), .val (.ref nb27), .val (.int ((p1 + (1 : Int32)) - p1)), .val (.int ((p2 + (if (1 : Int32) = (0 : Int32) then (0 : Int32) else (1 : Int32))) - p2)), .unset, .unset, .unset] []))
    refine Goes.via (fun _ k => XS.iconst X32.here hx rfl (hb hby at_55) k) ?_
    show Goes p e below _ (T32.setTop (mkF m 56 #[.val (.int p1), .val (.int p2), .val (.int p3), .val (.int (1 : Int32)), .val (.ref b24), .val (.ref nb27), .val (.int ((p1 + (1 : Int32)) - p1)), .val (.int ((p2 + (if (1 : Int32) = (0 : Int32) then (0 : Int32) else (1 : Int32))) - p2)), .unset, .unset, .unset] [(.int (1 : Int32))]))
    refine Goes.via (fun _ k => XS.goto X32.here hx rfl (pc0 := 56) (pc' := 60) rfl (hb hby at_56) (by decide) (by decide) k) ?_
    show Goes p e below _ (T32.setTop (mkF m 60 #[.val (.int p1), .val (.int p2), .val (.int p3), .val (.int (1 : Int32)), .val (.ref b24), .val (.ref nb27), .val (.int ((p1 + (1 : Int32)) - p1)), .val (.int ((p2 + (if (1 : Int32) = (0 : Int32) then (0 : Int32) else (1 : Int32))) - p2)), .unset, .unset, .unset] [(.int (1 : Int32))]))
    refine Goes.via (fun _ k => XS.istore X32.here hx rfl (hb hby at_60) rfl (l' := #[.val (.int p1), .val (.int p2), .val (.int p3), .val (.int (1 : Int32)), .val (.ref b24), .val (.ref nb27), .val (.int ((p1 + (1 : Int32)) - p1)), .val (.int ((p2 + (if (1 : Int32) = (0 : Int32) then (0 : Int32) else (1 : Int32))) - p2)), .val (.int (1 : Int32)), .unset, .unset]) rfl k) ?_
    show Goes p e below _ (T32.setTop (mkF m 62 #[.val (.int p1), .val (.int p2), .val (.int p3), .val (.int (1 : Int32)), .val (.ref b24), .val (.ref nb27), .val (.int ((p1 + (1 : Int32)) - p1)), .val (.int ((p2 + (if (1 : Int32) = (0 : Int32) then (0 : Int32) else (1 : Int32))) - p2)), .val (.int (1 : Int32)), .unset, .unset] []))
    refine Goes.via (fun _ k => XS.iloadN X32.here hx rfl (hb hby at_62) rfl  k) ?_
    show Goes p e below _ (T32.setTop (mkF m 63 #[.val (.int p1), .val (.int p2), .val (.int p3), .val (.int (1 : Int32)), .val (.ref b24), .val (.ref nb27), .val (.int ((p1 + (1 : Int32)) - p1)), .val (.int ((p2 + (if (1 : Int32) = (0 : Int32) then (0 : Int32) else (1 : Int32))) - p2)), .val (.int (1 : Int32)), .unset, .unset] [(.int (1 : Int32))]))
    have hc63_34 : ¬ ((1 : Int32) = (0 : Int32)) := (by decide)
    refine Goes.via (fun _ k => XS.ifNo X32.here hx rfl (hb hby at_63) rfl ((if0 _ _).trans (feq hc63_34).1) k) ?_
    show Goes p e below _ (T32.setTop (mkF m 66 #[.val (.int p1), .val (.int p2), .val (.int p3), .val (.int (1 : Int32)), .val (.ref b24), .val (.ref nb27), .val (.int ((p1 + (1 : Int32)) - p1)), .val (.int ((p2 + (if (1 : Int32) = (0 : Int32) then (0 : Int32) else (1 : Int32))) - p2)), .val (.int (1 : Int32)), .unset, .unset] []))
    refine Goes.via (fun _ k => XS.iload X32.here hx rfl (hb hby at_66) rfl  k) ?_
    show Goes p e below _ (T32.setTop (mkF m 68 #[.val (.int p1), .val (.int p2), .val (.int p3), .val (.int (1 : Int32)), .val (.ref b24), .val (.ref nb27), .val (.int ((p1 + (1 : Int32)) - p1)), .val (.int ((p2 + (if (1 : Int32) = (0 : Int32) then (0 : Int32) else (1 : Int32))) - p2)), .val (.int (1 : Int32)), .unset, .unset] [(.int ((p2 + (if (1 : Int32) = (0 : Int32) then (0 : Int32) else (1 : Int32))) - p2))]))
    refine Goes.via (fun _ k => XS.iconst X32.here hx rfl (hb hby at_68) k) ?_
    show Goes p e below _ (T32.setTop (mkF m 69 #[.val (.int p1), .val (.int p2), .val (.int p3), .val (.int (1 : Int32)), .val (.ref b24), .val (.ref nb27), .val (.int ((p1 + (1 : Int32)) - p1)), .val (.int ((p2 + (if (1 : Int32) = (0 : Int32) then (0 : Int32) else (1 : Int32))) - p2)), .val (.int (1 : Int32)), .unset, .unset] [(.int (1 : Int32)), (.int ((p2 + (if (1 : Int32) = (0 : Int32) then (0 : Int32) else (1 : Int32))) - p2))]))
    have hc69_35 : ((p2 + (if (1 : Int32) = (0 : Int32) then (0 : Int32) else (1 : Int32))) - p2) = (1 : Int32) := own_ac1 _ _ (by decide)
    refine Goes.via (fun _ k => XS.icmpNo X32.here hx rfl (hb hby at_69) rfl (teq hc69_35).2 k) ?_
    show Goes p e below _ (T32.setTop (mkF m 72 #[.val (.int p1), .val (.int p2), .val (.int p3), .val (.int (1 : Int32)), .val (.ref b24), .val (.ref nb27), .val (.int ((p1 + (1 : Int32)) - p1)), .val (.int ((p2 + (if (1 : Int32) = (0 : Int32) then (0 : Int32) else (1 : Int32))) - p2)), .val (.int (1 : Int32)), .unset, .unset] []))
    refine Goes.via (fun _ k => XS.iconst X32.here hx rfl (hb hby at_72) k) ?_
    show Goes p e below _ (T32.setTop (mkF m 73 #[.val (.int p1), .val (.int p2), .val (.int p3), .val (.int (1 : Int32)), .val (.ref b24), .val (.ref nb27), .val (.int ((p1 + (1 : Int32)) - p1)), .val (.int ((p2 + (if (1 : Int32) = (0 : Int32) then (0 : Int32) else (1 : Int32))) - p2)), .val (.int (1 : Int32)), .unset, .unset] [(.int (1 : Int32))]))
    refine Goes.via (fun _ k => XS.goto X32.here hx rfl (pc0 := 73) (pc' := 77) rfl (hb hby at_73) (by decide) (by decide) k) ?_
    show Goes p e below _ (T32.setTop (mkF m 77 #[.val (.int p1), .val (.int p2), .val (.int p3), .val (.int (1 : Int32)), .val (.ref b24), .val (.ref nb27), .val (.int ((p1 + (1 : Int32)) - p1)), .val (.int ((p2 + (if (1 : Int32) = (0 : Int32) then (0 : Int32) else (1 : Int32))) - p2)), .val (.int (1 : Int32)), .unset, .unset] [(.int (1 : Int32))]))
    refine Goes.via (fun _ k => XS.istore X32.here hx rfl (hb hby at_77) rfl (l' := #[.val (.int p1), .val (.int p2), .val (.int p3), .val (.int (1 : Int32)), .val (.ref b24), .val (.ref nb27), .val (.int ((p1 + (1 : Int32)) - p1)), .val (.int ((p2 + (if (1 : Int32) = (0 : Int32) then (0 : Int32) else (1 : Int32))) - p2)), .val (.int (1 : Int32)), .val (.int (1 : Int32)), .unset]) rfl k) ?_
    show Goes p e below _ (T32.setTop (mkF m 79 #[.val (.int p1), .val (.int p2), .val (.int p3), .val (.int (1 : Int32)), .val (.ref b24), .val (.ref nb27), .val (.int ((p1 + (1 : Int32)) - p1)), .val (.int ((p2 + (if (1 : Int32) = (0 : Int32) then (0 : Int32) else (1 : Int32))) - p2)), .val (.int (1 : Int32)), .val (.int (1 : Int32)), .unset] []))
    refine Goes.via (fun _ k => XS.goto X32.here hx rfl (pc0 := 79) (pc' := 94) rfl (hb hby at_79) (by decide) (by decide) k) ?_
    show Goes p e below _ (T32.setTop (mkF m 94 #[.val (.int p1), .val (.int p2), .val (.int p3), .val (.int (1 : Int32)), .val (.ref b24), .val (.ref nb27), .val (.int ((p1 + (1 : Int32)) - p1)), .val (.int ((p2 + (if (1 : Int32) = (0 : Int32) then (0 : Int32) else (1 : Int32))) - p2)), .val (.int (1 : Int32)), .val (.int (1 : Int32)), .unset] []))
    refine Goes.via (fun _ k => XS.aload X32.here hx rfl (hb hby at_94) rfl rfl  k) ?_
    show Goes p e below _ (T32.setTop (mkF m 96 #[.val (.int p1), .val (.int p2), .val (.int p3), .val (.int (1 : Int32)), .val (.ref b24), .val (.ref nb27), .val (.int ((p1 + (1 : Int32)) - p1)), .val (.int ((p2 + (if (1 : Int32) = (0 : Int32) then (0 : Int32) else (1 : Int32))) - p2)), .val (.int (1 : Int32)), .val (.int (1 : Int32)), .unset] [(.ref b24)]))
    have f36 : Fld Z T27.heap b24 "com/example/lincra/lincra/Tally" "fetched" "I" (.int p1) := (u25_1.keep K27 nin0)
    have f38 : Exa Z T27.heap b24 "com/example/lincra/lincra/Tally" := (u25_0.keep K27)
    obtain ⟨cq37, kq37, q37a, q37b, q37c⟩ := isOf hZ e32' f38
    obtain ⟨_, _, ⟨T37, L37, k37, n37⟩, -, X37, ⟨Lc37, hQ37, l37, y37, z37⟩, st37⟩ := X32.virtualBack hx (y := (⟨"com/example/lincra/lincra/Tally", "fetched", "()I"⟩ : MethodName)) (z := (⟨"com/example/lincra/lincra/Tally", "fetched", "()I"⟩ : MethodName)) hown (mvT hZ (hw _ (List.mem_of_getElem? (i := 25) rfl))) (mvT hZ (hw _ (List.mem_of_getElem? (i := 26) rfl))) (notFace_of_selects (args := #[]) (mvT hZ (hw _ (List.mem_of_getElem? (i := 28) rfl)))) (mvT hZ (hw _ (List.mem_of_getElem? (i := 28) rfl))) (mvT hZ (hw _ (List.mem_of_getElem? (i := 27) rfl))) (by decide) (backOf (W := 0) (rm5 l Z a0 hw [] b24 p1 T27.heap n0 (Nat.le_trans Z0 z31) f36) hZ (hw _ (List.mem_of_getElem? (i := 29) rfl)) (hw _ (List.mem_of_getElem? (i := 2) rfl)) (by decide) (by decide)) q37a q37c (g := (mkF m 96 #[.val (.int p1), .val (.int p2), .val (.int p3), .val (.int (1 : Int32)), .val (.ref b24), .val (.ref nb27), .val (.int ((p1 + (1 : Int32)) - p1)), .val (.int ((p2 + (if (1 : Int32) = (0 : Int32) then (0 : Int32) else (1 : Int32))) - p2)), .val (.int (1 : Int32)), .val (.int (1 : Int32)), .unset] [(.ref b24)])) rfl (by rw [hml]; rfl) (Steps.refl _) (argsL := []) (rest := []) (lenOf pd_3 rfl) rfl (by show 2 * 0 + _ ≤ _; exact Nat.le_of_eq rfl) (hb hby at_96) (fun _ _ => ⟨rfl, e32', (by first | decide | omega : 2 + 0 ≤ _), (by first | decide | omega : 4 + 0 ≤ _)⟩)
    dsimp only [Pt.U, Pt.locs, Pt.cells, Pt.slots] at X37 l37 y37 z37 st37 hQ37
    subst l37 y37 z37
    obtain ⟨rfl, N37q, e37⟩ := hQ37
    have N37 := Fr.app N32 N37q
    refine Goes.tr st37 ?_
    have e37' : T37.heap = T27.heap := e37
    show Goes p e below _ (T37.setTop (mkF m 99 #[.val (.int p1), .val (.int p2), .val (.int p3), .val (.int (1 : Int32)), .val (.ref b24), .val (.ref nb27), .val (.int ((p1 + (1 : Int32)) - p1)), .val (.int ((p2 + (if (1 : Int32) = (0 : Int32) then (0 : Int32) else (1 : Int32))) - p2)), .val (.int (1 : Int32)), .val (.int (1 : Int32)), .unset] [(.int p1)]))
    refine Goes.via (fun _ k => XS.iloadN X37.here hx rfl (hb hby at_99) rfl  k) ?_
    show Goes p e below _ (T37.setTop (mkF m 100 #[.val (.int p1), .val (.int p2), .val (.int p3), .val (.int (1 : Int32)), .val (.ref b24), .val (.ref nb27), .val (.int ((p1 + (1 : Int32)) - p1)), .val (.int ((p2 + (if (1 : Int32) = (0 : Int32) then (0 : Int32) else (1 : Int32))) - p2)), .val (.int (1 : Int32)), .val (.int (1 : Int32)), .unset] [(.int p1), (.int p1)]))
    have hc100_39 : p1 = p1 := rfl
    refine Goes.via (fun _ k => XS.icmpNo X37.here hx rfl (hb hby at_100) rfl (teq hc100_39).2 k) ?_
    show Goes p e below _ (T37.setTop (mkF m 103 #[.val (.int p1), .val (.int p2), .val (.int p3), .val (.int (1 : Int32)), .val (.ref b24), .val (.ref nb27), .val (.int ((p1 + (1 : Int32)) - p1)), .val (.int ((p2 + (if (1 : Int32) = (0 : Int32) then (0 : Int32) else (1 : Int32))) - p2)), .val (.int (1 : Int32)), .val (.int (1 : Int32)), .unset] []))
    refine Goes.via (fun _ k => XS.aload X37.here hx rfl (hb hby at_103) rfl rfl  k) ?_
    show Goes p e below _ (T37.setTop (mkF m 105 #[.val (.int p1), .val (.int p2), .val (.int p3), .val (.int (1 : Int32)), .val (.ref b24), .val (.ref nb27), .val (.int ((p1 + (1 : Int32)) - p1)), .val (.int ((p2 + (if (1 : Int32) = (0 : Int32) then (0 : Int32) else (1 : Int32))) - p2)), .val (.int (1 : Int32)), .val (.int (1 : Int32)), .unset] [(.ref b24)]))
    have f40 : Fld Z T27.heap b24 "com/example/lincra/lincra/Tally" "relevant" "I" (.int p2) := (u25_2.keep K27 nin0)
    obtain ⟨cq41, kq41, q41a, q41b, q41c⟩ := isOf hZ e37' f38
    obtain ⟨_, _, ⟨T41, L41, k41, n41⟩, -, X41, ⟨Lc41, hQ41, l41, y41, z41⟩, st41⟩ := X37.virtualBack hx (y := (⟨"com/example/lincra/lincra/Tally", "relevant", "()I"⟩ : MethodName)) (z := (⟨"com/example/lincra/lincra/Tally", "relevant", "()I"⟩ : MethodName)) hown (mvT hZ (hw _ (List.mem_of_getElem? (i := 30) rfl))) (mvT hZ (hw _ (List.mem_of_getElem? (i := 31) rfl))) (notFace_of_selects (args := #[]) (mvT hZ (hw _ (List.mem_of_getElem? (i := 33) rfl)))) (mvT hZ (hw _ (List.mem_of_getElem? (i := 33) rfl))) (mvT hZ (hw _ (List.mem_of_getElem? (i := 32) rfl))) (by decide) (backOf (W := 0) (rm6 l Z a0 hw [] b24 p2 T27.heap n0 (Nat.le_trans Z0 z31) f40) hZ (hw _ (List.mem_of_getElem? (i := 34) rfl)) (hw _ (List.mem_of_getElem? (i := 2) rfl)) (by decide) (by decide)) q41a q41c (g := (mkF m 105 #[.val (.int p1), .val (.int p2), .val (.int p3), .val (.int (1 : Int32)), .val (.ref b24), .val (.ref nb27), .val (.int ((p1 + (1 : Int32)) - p1)), .val (.int ((p2 + (if (1 : Int32) = (0 : Int32) then (0 : Int32) else (1 : Int32))) - p2)), .val (.int (1 : Int32)), .val (.int (1 : Int32)), .unset] [(.ref b24)])) rfl (by rw [hml]; rfl) (Steps.refl _) (argsL := []) (rest := []) (lenOf pd_3 rfl) rfl (by show 2 * 0 + _ ≤ _; exact Nat.le_of_eq rfl) (hb hby at_105) (fun _ _ => ⟨rfl, e37', (by first | decide | omega : 2 + 0 ≤ _), (by first | decide | omega : 4 + 0 ≤ _)⟩)
    dsimp only [Pt.U, Pt.locs, Pt.cells, Pt.slots] at X41 l41 y41 z41 st41 hQ41
    subst l41 y41 z41
    obtain ⟨rfl, N41q, e41⟩ := hQ41
    have N41 := Fr.app N37 N41q
    refine Goes.tr st41 ?_
    have e41' : T41.heap = T27.heap := e41
    show Goes p e below _ (T41.setTop (mkF m 108 #[.val (.int p1), .val (.int p2), .val (.int p3), .val (.int (1 : Int32)), .val (.ref b24), .val (.ref nb27), .val (.int ((p1 + (1 : Int32)) - p1)), .val (.int ((p2 + (if (1 : Int32) = (0 : Int32) then (0 : Int32) else (1 : Int32))) - p2)), .val (.int (1 : Int32)), .val (.int (1 : Int32)), .unset] [(.int p2)]))
    refine Goes.via (fun _ k => XS.iloadN X41.here hx rfl (hb hby at_108) rfl  k) ?_
    show Goes p e below _ (T41.setTop (mkF m 109 #[.val (.int p1), .val (.int p2), .val (.int p3), .val (.int (1 : Int32)), .val (.ref b24), .val (.ref nb27), .val (.int ((p1 + (1 : Int32)) - p1)), .val (.int ((p2 + (if (1 : Int32) = (0 : Int32) then (0 : Int32) else (1 : Int32))) - p2)), .val (.int (1 : Int32)), .val (.int (1 : Int32)), .unset] [(.int p2), (.int p2)]))
    have hc109_42 : p2 = p2 := rfl
    refine Goes.via (fun _ k => XS.icmpNo X41.here hx rfl (hb hby at_109) rfl (teq hc109_42).2 k) ?_
    show Goes p e below _ (T41.setTop (mkF m 112 #[.val (.int p1), .val (.int p2), .val (.int p3), .val (.int (1 : Int32)), .val (.ref b24), .val (.ref nb27), .val (.int ((p1 + (1 : Int32)) - p1)), .val (.int ((p2 + (if (1 : Int32) = (0 : Int32) then (0 : Int32) else (1 : Int32))) - p2)), .val (.int (1 : Int32)), .val (.int (1 : Int32)), .unset] []))
    refine Goes.via (fun _ k => XS.iconst X41.here hx rfl (hb hby at_112) k) ?_
    show Goes p e below _ (T41.setTop (mkF m 113 #[.val (.int p1), .val (.int p2), .val (.int p3), .val (.int (1 : Int32)), .val (.ref b24), .val (.ref nb27), .val (.int ((p1 + (1 : Int32)) - p1)), .val (.int ((p2 + (if (1 : Int32) = (0 : Int32) then (0 : Int32) else (1 : Int32))) - p2)), .val (.int (1 : Int32)), .val (.int (1 : Int32)), .unset] [(.int (1 : Int32))]))
    refine Goes.via (fun _ k => XS.goto X41.here hx rfl (pc0 := 113) (pc' := 117) rfl (hb hby at_113) (by decide) (by decide) k) ?_
    show Goes p e below _ (T41.setTop (mkF m 117 #[.val (.int p1), .val (.int p2), .val (.int p3), .val (.int (1 : Int32)), .val (.ref b24), .val (.ref nb27), .val (.int ((p1 + (1 : Int32)) - p1)), .val (.int ((p2 + (if (1 : Int32) = (0 : Int32) then (0 : Int32) else (1 : Int32))) - p2)), .val (.int (1 : Int32)), .val (.int (1 : Int32)), .unset] [(.int (1 : Int32))]))
    refine Goes.via (fun _ k => XS.istore X41.here hx rfl (hb hby at_117) rfl (l' := #[.val (.int p1), .val (.int p2), .val (.int p3), .val (.int (1 : Int32)), .val (.ref b24), .val (.ref nb27), .val (.int ((p1 + (1 : Int32)) - p1)), .val (.int ((p2 + (if (1 : Int32) = (0 : Int32) then (0 : Int32) else (1 : Int32))) - p2)), .val (.int (1 : Int32)), .val (.int (1 : Int32)), .val (.int (1 : Int32))]) rfl k) ?_
    show Goes p e below _ (T41.setTop (mkF m 119 #[.val (.int p1), .val (.int p2), .val (.int p3), .val (.int (1 : Int32)), .val (.ref b24), .val (.ref nb27), .val (.int ((p1 + (1 : Int32)) - p1)), .val (.int ((p2 + (if (1 : Int32) = (0 : Int32) then (0 : Int32) else (1 : Int32))) - p2)), .val (.int (1 : Int32)), .val (.int (1 : Int32)), .val (.int (1 : Int32))] []))
    refine Goes.via (fun _ k => XS.iload X41.here hx rfl (hb hby at_119) rfl  k) ?_
    show Goes p e below _ (T41.setTop (mkF m 121 #[.val (.int p1), .val (.int p2), .val (.int p3), .val (.int (1 : Int32)), .val (.ref b24), .val (.ref nb27), .val (.int ((p1 + (1 : Int32)) - p1)), .val (.int ((p2 + (if (1 : Int32) = (0 : Int32) then (0 : Int32) else (1 : Int32))) - p2)), .val (.int (1 : Int32)), .val (.int (1 : Int32)), .val (.int (1 : Int32))] [(.int (1 : Int32))]))
    have hc121_43 : ¬ ((1 : Int32) = (0 : Int32)) := (by decide)
    refine Goes.via (fun _ k => XS.ifNo X41.here hx rfl (hb hby at_121) rfl ((if0 _ _).trans (feq hc121_43).1) k) ?_
    show Goes p e below _ (T41.setTop (mkF m 124 #[.val (.int p1), .val (.int p2), .val (.int p3), .val (.int (1 : Int32)), .val (.ref b24), .val (.ref nb27), .val (.int ((p1 + (1 : Int32)) - p1)), .val (.int ((p2 + (if (1 : Int32) = (0 : Int32) then (0 : Int32) else (1 : Int32))) - p2)), .val (.int (1 : Int32)), .val (.int (1 : Int32)), .val (.int (1 : Int32))] []))
    refine Goes.via (fun _ k => XS.iload X41.here hx rfl (hb hby at_124) rfl  k) ?_
    show Goes p e below _ (T41.setTop (mkF m 126 #[.val (.int p1), .val (.int p2), .val (.int p3), .val (.int (1 : Int32)), .val (.ref b24), .val (.ref nb27), .val (.int ((p1 + (1 : Int32)) - p1)), .val (.int ((p2 + (if (1 : Int32) = (0 : Int32) then (0 : Int32) else (1 : Int32))) - p2)), .val (.int (1 : Int32)), .val (.int (1 : Int32)), .val (.int (1 : Int32))] [(.int (1 : Int32))]))
    have hc126_44 : ¬ ((1 : Int32) = (0 : Int32)) := (by decide)
    refine Goes.via (fun _ k => XS.ifNo X41.here hx rfl (hb hby at_126) rfl ((if0 _ _).trans (feq hc126_44).1) k) ?_
    show Goes p e below _ (T41.setTop (mkF m 129 #[.val (.int p1), .val (.int p2), .val (.int p3), .val (.int (1 : Int32)), .val (.ref b24), .val (.ref nb27), .val (.int ((p1 + (1 : Int32)) - p1)), .val (.int ((p2 + (if (1 : Int32) = (0 : Int32) then (0 : Int32) else (1 : Int32))) - p2)), .val (.int (1 : Int32)), .val (.int (1 : Int32)), .val (.int (1 : Int32))] []))
    refine Goes.via (fun _ k => XS.iload X41.here hx rfl (hb hby at_129) rfl  k) ?_
    show Goes p e below _ (T41.setTop (mkF m 131 #[.val (.int p1), .val (.int p2), .val (.int p3), .val (.int (1 : Int32)), .val (.ref b24), .val (.ref nb27), .val (.int ((p1 + (1 : Int32)) - p1)), .val (.int ((p2 + (if (1 : Int32) = (0 : Int32) then (0 : Int32) else (1 : Int32))) - p2)), .val (.int (1 : Int32)), .val (.int (1 : Int32)), .val (.int (1 : Int32))] [(.int (1 : Int32))]))
    have hc131_45 : ¬ ((1 : Int32) = (0 : Int32)) := (by decide)
    refine Goes.via (fun _ k => XS.ifNo X41.here hx rfl (hb hby at_131) rfl ((if0 _ _).trans (feq hc131_45).1) k) ?_
    show Goes p e below _ (T41.setTop (mkF m 134 #[.val (.int p1), .val (.int p2), .val (.int p3), .val (.int (1 : Int32)), .val (.ref b24), .val (.ref nb27), .val (.int ((p1 + (1 : Int32)) - p1)), .val (.int ((p2 + (if (1 : Int32) = (0 : Int32) then (0 : Int32) else (1 : Int32))) - p2)), .val (.int (1 : Int32)), .val (.int (1 : Int32)), .val (.int (1 : Int32))] []))
    refine Goes.via (fun _ k => XS.iconst X41.here hx rfl (hb hby at_134) k) ?_
    show Goes p e below _ (T41.setTop (mkF m 135 #[.val (.int p1), .val (.int p2), .val (.int p3), .val (.int (1 : Int32)), .val (.ref b24), .val (.ref nb27), .val (.int ((p1 + (1 : Int32)) - p1)), .val (.int ((p2 + (if (1 : Int32) = (0 : Int32) then (0 : Int32) else (1 : Int32))) - p2)), .val (.int (1 : Int32)), .val (.int (1 : Int32)), .val (.int (1 : Int32))] [(.int (1 : Int32))]))
    refine Goes.via (fun _ k => XS.goto X41.here hx rfl (pc0 := 135) (pc' := 139) rfl (hb hby at_135) (by decide) (by decide) k) ?_
    show Goes p e below _ (T41.setTop (mkF m 139 #[.val (.int p1), .val (.int p2), .val (.int p3), .val (.int (1 : Int32)), .val (.ref b24), .val (.ref nb27), .val (.int ((p1 + (1 : Int32)) - p1)), .val (.int ((p2 + (if (1 : Int32) = (0 : Int32) then (0 : Int32) else (1 : Int32))) - p2)), .val (.int (1 : Int32)), .val (.int (1 : Int32)), .val (.int (1 : Int32))] [(.int (1 : Int32))]))
    have K46 : Keep h0 T27.heap [] := ((((Keep.refl h0 []).ext E24).trans K25 (allS (Or.inr sz_b24) all0)).trans K27 all0)
    exact own_finN X41 hx hlk hret (by simp) (hb hby at_139) (by rw [e41']; exact ⟨rfl, N41, K46⟩) (by first | decide | omega) (by first | decide | omega)
set_option maxRecDepth 65536 in
set_option maxHeartbeats 40000000 in
theorem comes_1 {Post : Tables → Env → Array Value → State → Outcome → State → Prop} (hpost : ∀ tb e args s v u, (limb_1_1.after args s (.returned v) u = true ∧ limb_1_2.after args s (.returned v) u = true ∧ True) → FrameEnd s (.returned v) u (Jvm.fieldLocs frame_1_writes args s ++ Jvm.arrayLocs frame_1_arrays args s ++ Jvm.staticLocs frame_1_statics s) 16 128 → Post tb e args s (.returned v) u) :
    ArmFor flags0 classFile x code maxLocals ret World_1 tables_1 room_1 Calls_1 rest_1 Pre_1 Post := by
  intro l hfl _ _ p e ha hc hk s m args below hf hA hF happ hP
  obtain ⟨hcalls, hrest, hpre⟩ := hP
  obtain ⟨-, -, -, hnamed, -, -, -, hat⟩ := (Spec.applies_iff hf).mp happ
  obtain ⟨hg, hn⟩ := and_e (Cond.before_iff.mp (show (Jvm.Cond.and given_1 narrow_1).before args s = true from hpre))
  obtain ⟨gg1, gg2⟩ := and_e hg
  obtain ⟨gg3, gg4⟩ := and_e gg2
  obtain ⟨gg5, gg6⟩ := and_e gg4
  obtain ⟨w0, w1, w2, rfl⟩ : ∃ w0 w1 w2 : Value, args = #[w0, w1, w2] := by
    have hs : args.size = 3 := by simpa [Cond.value, given_1] using gg1
    obtain ⟨L⟩ := args
    match L, hs with
    | [w0, w1, w2], _ => exact ⟨w0, w1, w2, rfl⟩
  have hw := fun d (hd : d ∈ tables_1) => atoms_spec (ws := Jvm.Cond.code x code maxLocals ret :: tables_1) hat d (List.mem_cons_of_mem _ hd)
  have hfit : Fit s := fun {y c} hc i hi => by
    obtain ⟨ha, rfl⟩ := Array.getElem?_eq_some_iff.mp hc
    have q := List.all_eq_true.mp ((Array.all_eq_true_iff_forall_mem.mp hF) _ (Array.getElem_mem ha)) i (List.mem_range.mpr hi)
    simpa [Array.getElem?_eq_getElem hi] using q
  obtain ⟨i0, ei0⟩ := is_v gg3
  obtain rfl : w0 = (.int i0) := Option.some.inj ei0
  obtain ⟨i1, ei1⟩ := is_v gg5
  obtain rfl : w1 = (.int i1) := Option.some.inj ei1
  obtain ⟨i2, ei2⟩ := is_v gg6
  obtain rfl : w2 = (.int i2) := Option.some.inj ei2
  obtain ⟨n, o, h1, h2, h3, _, L, rfl, ⟨rfl, N, -⟩, hq⟩ := rm0 l s _ hw tables_1 i0 i1 i2 s.heap s.heap.size (Nat.le_refl _)  p e ha hc hk s m _ below hf ((Spec.applies_iff_loose hf).mp happ).1 ⟨rfl, State.Warmed39.refl s, rfl⟩ trivial
  refine ⟨n, _, h1, h2, h3, hpost _ _ _ _ _ _ ⟨Cond.after_iff.mpr rfl, Cond.after_iff.mpr (eq_i res_at (Term.int_eval (1)) rfl), trivial⟩ ⟨hq.1, hq.2.1, (hq.2.2.sift fun y hy => Or.inr (N y hy)).mono (by decide) (by decide)⟩⟩
theorem main_1_1 : Claimed_1_1 := comes_1 fun _ _ _ _ _ _ h hF => ⟨h.1, hF⟩
theorem main_1_2 : Claimed_1_2 := comes_1 fun _ _ _ _ _ _ h hF => ⟨h.2.1, hF⟩
end Jvm.Pilot.@@N@@
namespace Jvm.Pilot.@@N@@
open Jvm Jvm.ClassFile Sem Op Lib Jvm.Free Jvm.Stand Jvm.Pilot.@@N@@.Jvm.D
/-! MADE BY PROGRAM (witnessworld.py) out of the Statement's table words and the real class files: 10 classes; the members and pool entries that the words name. The judged class is class 1, her method 1. -/
namespace start1
open Jvm.ClassFile
def u (s : String) : CpInfo := .utf8 (stringToUtf16 s)
/-- a pool by its gaps: so many unusable entries, then the entry; so many at the end -/
def gap : Nat → List CpInfo → List CpInfo
  | 0, r => r
  | n + 1, r => .unusable :: gap n r
def poolList (es : List (Nat × CpInfo)) (last : Nat) : List CpInfo := es.foldr (fun e r => gap e.1 (e.2 :: r)) (gap last [])
def pool (es : List (Nat × CpInfo)) (last : Nat) : Array CpInfo := ⟨poolList es last⟩
def fileOf (pool : Array CpInfo) (this : Nat) (attrs : Array Attribute := #[]) (ms : Array MethodInfo := #[]) (fl : Nat := 33) (sup : Nat := 0) (ifs : Array Nat := #[]) (fds : Array FieldInfo := #[]) : ClassFile where
  minorVersion := 0
  majorVersion := 65
  constantPool := pool
  accessFlags := fl
  thisClass := this
  superClass := sup
  interfaces := ifs
  fields := fds
  methods := ms
  attributes := attrs
def plain (name : String) (sup : Option ClassId) : Class where
  name := name
  kind := .ordinary
  loader := none
  accessFlags := 33
  super := sup
  interfaces := #[]
  cf := none
  fields := #[]
  methods := #[]
  instanceTypes := #[]
  staticTypes := #[]
  resolved := #[]
  callSites := []
  init := .initialized
  statics := none
  mirror := none

def pool0 : Array CpInfo := pool [(5, u "<init>"), (0, u "()V"), (1, .class_ 10), (1, u "java/lang/Object")] 113

def k0c0 : Code := { maxStack := 0, maxLocals := 1, code := object_method_1_code, exceptionTable := #[], attributes := #[] }
def k0m0 : Method := { name := "<init>", desc := "()V", sig := { parameters := [], returnType := none }, accessFlags := 1, code := some k0c0 }
/-- java/lang/Object -/
def k0 : Class := { plain "java/lang/Object" none with
  accessFlags := 33
  interfaces := #[]
  cf := some (fileOf pool0 8 #[] #[{ accessFlags := 1, nameIndex := 5, descriptorIndex := 6, attributes := #[] }] 33 0 #[] #[])
  fields := #[]
  methods := #[k0m0]
  instanceTypes := #[]
  staticTypes := #[]
  resolved := Array.replicate 124 none
  statics := none }

def pool1 : Array CpInfo := pool [(2, .class_ 4), (1, u "java/lang/Object"), (0, u "<init>"), (0, u "()V"), (0, .class_ 8), (0, u "com/example/lincra/lincra/Tally"), (0, .methodref 7 10), (0, .nameAndType 5 11), (0, u "(II)V"), (0, .methodref 7 13), (0, .nameAndType 14 15), (0, u "counting"), (0, u "(Z)Lcom/example/lincra/lincra/Tally;"), (0, .methodref 7 17), (0, .nameAndType 18 19), (0, u "fetched"), (0, u "()I"), (0, .methodref 7 21), (0, .nameAndType 22 19), (0, u "relevant"), (0, .class_ 24), (0, u "com/example/lincra/lincra/TallyCountingPinLaw"), (2, u "law"), (0, u "(III)Z")] 3

def k1m0 : Method := { name := "<init>", desc := "()V", sig := { parameters := [], returnType := none }, accessFlags := 1, code := none }
def k1c1 : Code := { maxStack := 4, maxLocals := 11, code := code, exceptionTable := #[], attributes := #[] }
def k1m1 : Method := { name := "law", desc := "(III)Z", sig := { parameters := [.int, .int, .int], returnType := some .boolean }, accessFlags := 9, code := some k1c1 }
/-- com/example/lincra/lincra/TallyCountingPinLaw -/
def k1 : Class := { plain "com/example/lincra/lincra/TallyCountingPinLaw" (some 0) with
  accessFlags := 49
  interfaces := #[]
  cf := some (fileOf pool1 23 #[] #[{ accessFlags := 1, nameIndex := 5, descriptorIndex := 6, attributes := #[] }, { accessFlags := 9, nameIndex := 27, descriptorIndex := 28, attributes := #[] }] 49 2 #[] #[])
  fields := #[]
  methods := #[k1m0, k1m1]
  instanceTypes := #[]
  staticTypes := #[]
  resolved := Array.replicate 32 none
  statics := none }

def pool2 : Array CpInfo := pool [(1, .methodref 2 3), (0, .class_ 4), (0, .nameAndType 5 6), (0, u "java/lang/Object"), (0, u "<init>"), (0, u "()V"), (0, .class_ 8), (0, u "java/lang/Record")] 13

def k2c0 : Code := { maxStack := 1, maxLocals := 1, code := jdk_30_method_1_code, exceptionTable := #[], attributes := #[] }
def k2m0 : Method := { name := "<init>", desc := "()V", sig := { parameters := [], returnType := none }, accessFlags := 4, code := some k2c0 }
/-- java/lang/Record -/
def k2 : Class := { plain "java/lang/Record" (some 0) with
  accessFlags := 1057
  interfaces := #[]
  cf := some (fileOf pool2 7 #[] #[{ accessFlags := 4, nameIndex := 5, descriptorIndex := 6, attributes := #[] }] 1057 2 #[] #[])
  fields := #[]
  methods := #[k2m0]
  instanceTypes := #[]
  staticTypes := #[]
  resolved := Array.replicate 22 none
  statics := none }

def pool3 : Array CpInfo := pool [(1, .methodref 2 3), (0, .class_ 4), (0, .nameAndType 5 6), (0, u "java/lang/Record"), (0, u "<init>"), (0, u "()V"), (0, .fieldref 8 9), (0, .class_ 10), (0, .nameAndType 11 12), (0, u "com/example/lincra/lincra/Tally"), (0, u "fetched"), (0, u "I"), (0, .fieldref 8 14), (0, .nameAndType 15 12), (0, u "relevant"), (0, .methodref 8 17), (0, .nameAndType 5 18), (0, u "(II)V"), (40, u "NONE"), (0, u "Lcom/example/lincra/lincra/Tally;"), (3, u "counting"), (0, u "(Z)Lcom/example/lincra/lincra/Tally;"), (4, u "()I")] 23

def k3c0 : Code := { maxStack := 2, maxLocals := 3, code := prog_14_method_1_code, exceptionTable := #[], attributes := #[] }
def k3m0 : Method := { name := "<init>", desc := "(II)V", sig := { parameters := [.int, .int], returnType := none }, accessFlags := 0, code := some k3c0 }
def k3c1 : Code := { maxStack := 5, maxLocals := 2, code := prog_14_method_2_code, exceptionTable := #[], attributes := #[] }
def k3m1 : Method := { name := "counting", desc := "(Z)Lcom/example/lincra/lincra/Tally;", sig := { parameters := [.boolean], returnType := some (.object "com/example/lincra/lincra/Tally") }, accessFlags := 0, code := some k3c1 }
def k3c2 : Code := { maxStack := 1, maxLocals := 1, code := prog_14_method_9_code, exceptionTable := #[], attributes := #[] }
def k3m2 : Method := { name := "fetched", desc := "()I", sig := { parameters := [], returnType := some .int }, accessFlags := 1, code := some k3c2 }
def k3c3 : Code := { maxStack := 1, maxLocals := 1, code := prog_14_method_10_code, exceptionTable := #[], attributes := #[] }
def k3m3 : Method := { name := "relevant", desc := "()I", sig := { parameters := [], returnType := some .int }, accessFlags := 1, code := some k3c3 }
/-- com/example/lincra/lincra/Tally -/
def k3 : Class := { plain "com/example/lincra/lincra/Tally" (some 2) with
  accessFlags := 48
  interfaces := #[]
  cf := some (fileOf pool3 8 #[] #[{ accessFlags := 0, nameIndex := 5, descriptorIndex := 18, attributes := #[] }, { accessFlags := 0, nameIndex := 64, descriptorIndex := 65, attributes := #[] }, { accessFlags := 1, nameIndex := 11, descriptorIndex := 70, attributes := #[] }, { accessFlags := 1, nameIndex := 15, descriptorIndex := 70, attributes := #[] }] 48 2 #[] #[{ accessFlags := 18, nameIndex := 11, descriptorIndex := 12, attributes := #[] }, { accessFlags := 18, nameIndex := 15, descriptorIndex := 12, attributes := #[] }, { accessFlags := 24, nameIndex := 59, descriptorIndex := 60, attributes := #[] }])
  fields := #[{ name := "fetched", type := .int, accessFlags := 18, slot := 0, constantValue := 0 }, { name := "relevant", type := .int, accessFlags := 18, slot := 1, constantValue := 0 }, { name := "NONE", type := (.object "com/example/lincra/lincra/Tally"), accessFlags := 24, slot := 0, constantValue := 0 }]
  methods := #[k3m0, k3m1, k3m2, k3m3]
  instanceTypes := #[.int, .int]
  staticTypes := #[(.object "com/example/lincra/lincra/Tally")]
  resolved := Array.replicate 94 none
  statics := none }

def pool4 : Array CpInfo := pool [(1, u "java/lang/Cloneable"), (0, .class_ 1), (0, u "java/lang/Object"), (0, .class_ 3)] 3

/-- java/lang/Cloneable -/
def k4 : Class := { plain "java/lang/Cloneable" (some 0) with
  accessFlags := 1537
  interfaces := #[]
  cf := some (fileOf pool4 2 #[] #[] 1537 4 #[] #[])
  fields := #[]
  methods := #[]
  instanceTypes := #[]
  staticTypes := #[]
  resolved := Array.replicate 8 none
  statics := none }

def pool5 : Array CpInfo := pool [(1, u "java/io/Serializable"), (0, .class_ 1), (0, u "java/lang/Object"), (0, .class_ 3)] 3

/-- java/io/Serializable -/
def k5 : Class := { plain "java/io/Serializable" (some 0) with
  accessFlags := 1537
  interfaces := #[]
  cf := some (fileOf pool5 2 #[] #[] 1537 4 #[] #[])
  fields := #[]
  methods := #[]
  instanceTypes := #[]
  staticTypes := #[]
  resolved := Array.replicate 8 none
  statics := none }

/-- the primitive byte -/
def k6 : Class := { plain "byte" none with kind := .primitive 'B', accessFlags := 0x411 }
/-- [B -/
def k7 : Class := { plain "[B" (some 0) with kind := .array 6 .byte, interfaces := #[4, 5], accessFlags := 1041 }

/-- the primitive int -/
def k8 : Class := { plain "int" none with kind := .primitive 'I', accessFlags := 0x411 }
/-- [I -/
def k9 : Class := { plain "[I" (some 0) with kind := .array 8 .int, interfaces := #[4, 5], accessFlags := 1041 }

def heap : Heap := #[]
def classes : Array Class := #[k0, k1, k2, k3, k4, k5, k6, k7, k8, k9]
def interned : List (Array UInt16 × Addr) := []
def slotsUsed : Nat := 0
def theMethod : MethodId := ⟨1, 1⟩
def args0 : Array Value := #[.int 5, .int 6, .int 1]
def aboutOver (below : List Frame) : State where
  vm := { classes := classes, interned := interned.toArray }
  heap := heap
  slotsUsed := slotsUsed
  threads := #[{ frames := .invoking theMethod args0 :: below }]
def below0 : List Frame := [.native { method := ⟨0, 0⟩, args := #[] }]
def about1 : State := aboutOver below0
def p0 : Program := .bare "" "" ""
def e0 : Env := launch0.env 0 0 0
theorem w_frames : about1.frames = Frame.invoking theMethod args0 :: below0 := rfl
set_option maxRecDepth 65536 in
theorem w_args : argsFit about1.vm theMethod args0 = true := by decide +kernel
set_option maxRecDepth 65536 in
theorem w_heap : heapFits about1 = true := by decide +kernel
set_option maxRecDepth 65536 in
theorem w_runnable : about1.curStatus? = some .runnable := by decide +kernel
set_option maxRecDepth 65536 in
theorem w_alone : about1.alone = true := by decide +kernel
set_option maxRecDepth 65536 in
theorem w_named : about1.methodNamed? x = some theMethod := by decide +kernel
set_option maxRecDepth 65536 in
theorem w_hears : about1.hears theMethod below0 = true := by decide +kernel
set_option maxRecDepth 65536 in
theorem w_ripe : about1.ripe theMethod args0 below0 = true := by decide +kernel
theorem w_running : about1.status = .running := rfl
set_option maxRecDepth 65536 in
theorem w_room : about1.hasRoom e0.platform room_1 = true :=
  launch0.hasRoom_least _ room_1 (by decide +kernel) (by decide +kernel) (by decide +kernel) (by decide +kernel) (by decide +kernel) (by decide +kernel)
theorem allAtoms_all (ts : List Jvm.Cond) (a : Array Jvm.Value) (st : Jvm.State) : (allAtoms ts).before a st = ts.all (fun c => c.before a st) := by
  induction ts with
  | nil => rfl
  | cons c t ih =>
    show (Jvm.Cond.and c (allAtoms t)).before a st = _
    rw [Jvm.Cond.before_and, ih, List.all_cons]
def words1 : List Jvm.Cond := Jvm.Cond.code x code maxLocals ret :: tables_1
/-- a 'code' word, met by the world's own term for the bytes: nothing is compared byte by byte -/
theorem code_word {y : MethodName} {bytes : ByteArray} {mx : Nat} {rt : Option FieldType} {a : Array Value} {s : State} {m : MethodId} {meth : Method} {c : Code} (h1 : s.methodNamed? y = some m) (h2 : s.vm.method? m = some meth) (h3 : meth.code = some c) (h4 : c.code = bytes)
    (h5 : (c.maxLocals == mx && c.exceptionTable.isEmpty && decide (c.maxStack ≤ mostOperands) && decide (meth.sig.returnType = rt) && !meth.locks && decide (parseMethodDescriptor y.desc = some meth.sig)) = true) : (Jvm.Cond.code y bytes mx rt).before a s = true := by
  simp only [Bool.and_eq_true, beq_iff_eq, Bool.not_eq_true', decide_eq_true_eq] at h5
  obtain ⟨⟨⟨⟨⟨g1, g2⟩, g3⟩, g4⟩, g5⟩, g6⟩ := h5
  simp [Cond.before, Cond.holds, Cond.value, h1, h2, h3, h4, g1, g2, g3, g4, g5, g6]
def isCode : Jvm.Cond → Bool
  | .code _ _ _ _ => true
  | _ => false
theorem all_split {L : List Jvm.Cond} {P : Jvm.Cond → Bool} (h1 : L.all (fun c => isCode c || P c) = true) (h2 : ∀ c ∈ L.filter isCode, P c = true) : L.all P = true := by
  refine List.all_eq_true.mpr fun c hc => ?_
  have h := List.all_eq_true.mp h1 c hc
  rcases Bool.eq_false_or_eq_true (isCode c) with hi | hi
  · exact h2 c (List.mem_filter.mpr ⟨hc, hi⟩)
  · simpa [hi] using h
set_option maxRecDepth 65536 in
theorem w_c0 : (Jvm.Cond.code x code maxLocals ret).before args0 about1 = true := code_word (m := ⟨1, 1⟩) (meth := k1m1) (c := k1c1) (by decide +kernel) rfl rfl rfl (by decide +kernel)
set_option maxRecDepth 65536 in
theorem w_c1 : (Jvm.Cond.code ({ cls := "com/example/lincra/lincra/Tally", name := "<init>", desc := "(II)V" } : Jvm.MethodName) prog_14_method_1_code (3 : Nat) (Option.none : Option Jvm.ClassFile.FieldType)).before args0 about1 = true := code_word (m := ⟨3, 0⟩) (meth := k3m0) (c := k3c0) (by decide +kernel) rfl rfl rfl (by decide +kernel)
set_option maxRecDepth 65536 in
theorem w_c2 : (Jvm.Cond.code ({ cls := "java/lang/Record", name := "<init>", desc := "()V" } : Jvm.MethodName) jdk_30_method_1_code (1 : Nat) (Option.none : Option Jvm.ClassFile.FieldType)).before args0 about1 = true := code_word (m := ⟨2, 0⟩) (meth := k2m0) (c := k2c0) (by decide +kernel) rfl rfl rfl (by decide +kernel)
set_option maxRecDepth 65536 in
theorem w_c3 : (Jvm.Cond.code ({ cls := "java/lang/Object", name := "<init>", desc := "()V" } : Jvm.MethodName) object_method_1_code (1 : Nat) (Option.none : Option Jvm.ClassFile.FieldType)).before args0 about1 = true := code_word (m := ⟨0, 0⟩) (meth := k0m0) (c := k0c0) (by decide +kernel) rfl rfl rfl (by decide +kernel)
set_option maxRecDepth 65536 in
theorem w_c4 : (Jvm.Cond.code ({ cls := "com/example/lincra/lincra/Tally", name := "counting", desc := "(Z)Lcom/example/lincra/lincra/Tally;" } : Jvm.MethodName) prog_14_method_2_code (2 : Nat) (Option.some (Jvm.ClassFile.FieldType.object "com/example/lincra/lincra/Tally"))).before args0 about1 = true := code_word (m := ⟨3, 1⟩) (meth := k3m1) (c := k3c1) (by decide +kernel) rfl rfl rfl (by decide +kernel)
set_option maxRecDepth 65536 in
theorem w_c5 : (Jvm.Cond.code ({ cls := "com/example/lincra/lincra/Tally", name := "fetched", desc := "()I" } : Jvm.MethodName) prog_14_method_9_code (1 : Nat) (Option.some Jvm.ClassFile.FieldType.int)).before args0 about1 = true := code_word (m := ⟨3, 2⟩) (meth := k3m2) (c := k3c2) (by decide +kernel) rfl rfl rfl (by decide +kernel)
set_option maxRecDepth 65536 in
theorem w_c6 : (Jvm.Cond.code ({ cls := "com/example/lincra/lincra/Tally", name := "relevant", desc := "()I" } : Jvm.MethodName) prog_14_method_10_code (1 : Nat) (Option.some Jvm.ClassFile.FieldType.int)).before args0 about1 = true := code_word (m := ⟨3, 3⟩) (meth := k3m3) (c := k3c3) (by decide +kernel) rfl rfl rfl (by decide +kernel)
def codes1 : List Jvm.Cond := [Jvm.Cond.code x code maxLocals ret, Jvm.Cond.code ({ cls := "com/example/lincra/lincra/Tally", name := "<init>", desc := "(II)V" } : Jvm.MethodName) prog_14_method_1_code (3 : Nat) (Option.none : Option Jvm.ClassFile.FieldType), Jvm.Cond.code ({ cls := "java/lang/Record", name := "<init>", desc := "()V" } : Jvm.MethodName) jdk_30_method_1_code (1 : Nat) (Option.none : Option Jvm.ClassFile.FieldType), Jvm.Cond.code ({ cls := "java/lang/Object", name := "<init>", desc := "()V" } : Jvm.MethodName) object_method_1_code (1 : Nat) (Option.none : Option Jvm.ClassFile.FieldType), Jvm.Cond.code ({ cls := "com/example/lincra/lincra/Tally", name := "counting", desc := "(Z)Lcom/example/lincra/lincra/Tally;" } : Jvm.MethodName) prog_14_method_2_code (2 : Nat) (Option.some (Jvm.ClassFile.FieldType.object "com/example/lincra/lincra/Tally")), Jvm.Cond.code ({ cls := "com/example/lincra/lincra/Tally", name := "fetched", desc := "()I" } : Jvm.MethodName) prog_14_method_9_code (1 : Nat) (Option.some Jvm.ClassFile.FieldType.int), Jvm.Cond.code ({ cls := "com/example/lincra/lincra/Tally", name := "relevant", desc := "()I" } : Jvm.MethodName) prog_14_method_10_code (1 : Nat) (Option.some Jvm.ClassFile.FieldType.int)]
set_option maxRecDepth 65536 in
theorem codes_eq : words1.filter isCode = codes1 := rfl
theorem w_codes : ∀ c ∈ words1.filter isCode, c.before args0 about1 = true := by
  rw [codes_eq]
  intro c hc
  simp only [codes1, List.mem_cons, List.not_mem_nil, or_false] at hc
  rcases hc with rfl | rfl | rfl | rfl | rfl | rfl | rfl
  · exact w_c0
  · exact w_c1
  · exact w_c2
  · exact w_c3
  · exact w_c4
  · exact w_c5
  · exact w_c6
set_option maxRecDepth 65536 in
theorem w_t1 : (words1.take 24).all (fun c => isCode c || c.before args0 about1) = true := by decide +kernel
set_option maxRecDepth 65536 in
theorem w_t2 : (words1.drop 24).all (fun c => isCode c || c.before args0 about1) = true := by decide +kernel
theorem w_tables : (allAtoms (Jvm.Cond.code x code maxLocals ret :: tables_1)).before args0 about1 = true := by
  rw [allAtoms_all]
  show words1.all (fun c => c.before args0 about1) = true
  refine all_split ?_ w_codes
  rw [← List.take_append_drop 24 words1, List.all_append, w_t1, w_t2]
  rfl
set_option maxRecDepth 65536 in
theorem w_case : (Jvm.Cond.and given_1 narrow_1).before args0 about1 = true := by decide +kernel
theorem w_applies : (headSpec (Jvm.Cond.code x code maxLocals ret :: tables_1) room_1).applies x e0.platform about1 = true :=
  (Spec.applies_iff w_frames).mpr ⟨w_running, w_runnable, w_alone, w_named, w_hears, w_ripe, w_room, w_tables⟩
theorem atStart : AtStart classFile x code maxLocals ret World_1 tables_1 room_1 Calls_1 rest_1 Pre_1 launch0 p0 e0 about1 theMethod args0 below0 :=
  ⟨lists_1, trivial, launch0.admits_env _ _ _, launch0.least_env, fairChoices_fair.cas, fairChoices_fair.clock, w_frames, w_args, w_heap, w_applies, trivial, trivial, w_case⟩
end start1
theorem witness_1 : WitnessClaimed_1 := ⟨start1.p0, start1.e0, start1.about1, start1.theMethod, start1.args0, start1.below0, start1.atStart⟩
end Jvm.Pilot.@@N@@
