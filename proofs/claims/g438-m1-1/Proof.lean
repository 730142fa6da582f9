import JvmDerived
import JvmDerived.Pilot.@@N@@Statement
import JvmDerived.Pilot.@@N@@Code
set_option linter.unusedVariables false
set_option linter.unusedSimpArgs false
namespace Jvm.Pilot.@@N@@
open Jvm Jvm.ClassFile Sem Op Lib Jvm.Free Jvm.Stand Jvm.LawKit Jvm.RoadKit Bundle Jvm.Pilot.@@N@@.Jvm.D
section Own
variable {p : Program} {l : Launch} {e : Env} {R : Room} {s : State} {m : MethodId} {args : Array Value} {below : List Frame} {meth : Method} {c : Code} {T : State} {locs : List Loc} {cells slots : Nat} {Q : Option Value → Heap → List Loc → Prop} {C S : Nat}
def Goes (p : Program) (e : Env) (below : List Frame) (P : Outcome → State → Prop) (A : State) : Prop :=
  ∃ s₂ o, Steps p.tables e below A s₂ ∧ s₂.status = .running ∧ Ended s₂ below o ∧ P o s₂
def Fin_ (s : State) (Q : Option Value → Heap → List Loc → Prop) (C S : Nat) (o : Outcome) (U' : State) : Prop :=
  ∃ v L, o = .returned v ∧ Q v U'.heap L ∧ FrameEnd s o U' L C S
theorem Goes.via {P : Outcome → State → Prop} {A B : State} (st : ∀ t, Steps p.tables e below B t → Steps p.tables e below A t) (k : Goes p e below P B) : Goes p e below P A := by
  obtain ⟨s₂, o, h1, h2⟩ := k
  exact ⟨s₂, o, st _ h1, h2⟩
theorem Goes.tr {P : Outcome → State → Prop} {A B : State} (st : Steps p.tables e below A B) (k : Goes p e below P B) : Goes p e below P A := by
  obtain ⟨s₂, o, h1, h2⟩ := k
  exact ⟨s₂, o, st.trans h1, h2⟩
theorem own_fin {pc : Nat} {Ls : Array Slot} {st : List Value} (X : Stand p l e R s m args below meth c T locs cells slots) (hlk : meth.locks = false) {v : Option Value} (hv : meth.sig.returnType = none → v = none)
    (hstep : ∀ fs, (∀ (f : JFrame) (acts : List Action), f.method = m → f.locked = none → f.entered = [] → (doReturn e (T.setTop f) acts v).1 = T.setFrames fs) → Steps p.tables e below (T.setTop (mkF m pc Ls st)) (T.setFrames fs))
    (hQ : Q v T.heap locs) (hC : cells ≤ C) (hS : slots ≤ S) : Goes p e below (Fin_ s Q C S) (T.setTop (mkF m pc Ls st)) := by
  obtain ⟨fs, hr, hrun, hended, hW, hsame⟩ := X.leave (v := v) hv hlk
  exact ⟨_, _, hstep fs hr, hrun, hended, _, _, rfl, hQ, ⟨_, rfl⟩, hW, hsame.mono hC hS⟩
theorem own_finV {pc : Nat} {Ls : Array Slot} (X : Stand p l e R s m args below meth c T locs cells slots) (hx : p.tables.exec = Jvm.exec) (hlk : meth.locks = false) (hret : meth.sig.returnType = none)
    (hd : decode c.code pc = .ok (.return_, 1)) (hQ : Q none T.heap locs) (hC : cells ≤ C) (hS : slots ≤ S) : Goes p e below (Fin_ s Q C S) (T.setTop (mkF m pc Ls [])) :=
  own_fin X hlk (fun _ => rfl) (fun _ hr => X.returnOut hx hret hd hr) hQ hC hS
theorem own_finI {pc : Nat} {Ls : Array Slot} {z : Int32} {rest : List Value} (X : Stand p l e R s m args below meth c T locs cells slots) (hx : p.tables.exec = Jvm.exec) (hlk : meth.locks = false) (hret : meth.sig.returnType = some .int)
    (hd : decode c.code pc = .ok (.ireturn, 1)) (hQ : Q (some (.int z)) T.heap locs) (hC : cells ≤ C) (hS : slots ≤ S) : Goes p e below (Fin_ s Q C S) (T.setTop (mkF m pc Ls (.int z :: rest))) :=
  own_fin X hlk (fun h => by rw [hret] at h; cases h) (fun _ hr => retOut X hx hret rfl (Or.inl ⟨rfl, Or.inl rfl, _, rfl⟩) hd hr) hQ hC hS
theorem own_finN {pc : Nat} {Ls : Array Slot} {z : Int32} {rest : List Value} (X : Stand p l e R s m args below meth c T locs cells slots) (hx : p.tables.exec = Jvm.exec) (hlk : meth.locks = false) {t : FieldType} (hret : meth.sig.returnType = some t)
    (ht : t = .boolean ∨ t = .byte ∨ t = .char ∨ t = .short) (hd : decode c.code pc = .ok (.ireturn, 1)) (hQ : Q (some (.int (nar t z))) T.heap locs) (hC : cells ≤ C) (hS : slots ≤ S) : Goes p e below (Fin_ s Q C S) (T.setTop (mkF m pc Ls (.int z :: rest))) :=
  own_fin X hlk (fun h => by rw [hret] at h; cases h) (fun _ hr => retN X hx hret ht hd hr) hQ hC hS
theorem own_finJ {pc : Nat} {Ls : Array Slot} {z : Int64} {rest : List Value} (X : Stand p l e R s m args below meth c T locs cells slots) (hx : p.tables.exec = Jvm.exec) (hlk : meth.locks = false) (hret : meth.sig.returnType = some .long)
    (hd : decode c.code pc = .ok (.lreturn, 1)) (hQ : Q (some (.long z)) T.heap locs) (hC : cells ≤ C) (hS : slots ≤ S) : Goes p e below (Fin_ s Q C S) (T.setTop (mkF m pc Ls (.long z :: rest))) :=
  own_fin X hlk (fun h => by rw [hret] at h; cases h) (fun _ hr => retOut X hx hret rfl (Or.inr (Or.inl ⟨rfl, rfl, _, rfl⟩)) hd hr) hQ hC hS
theorem own_finR {pc : Nat} {Ls : Array Slot} {w : Value} {rest : List Value} (X : Stand p l e R s m args below meth c T locs cells slots) (hx : p.tables.exec = Jvm.exec) (hlk : meth.locks = false) {t : FieldType} (hret : meth.sig.returnType = some t) (ht : t.isReference = true) (hw : w.isRef = true) (hn : narrow t w = w)
    (hd : decode c.code pc = .ok (.areturn, 1)) (hQ : Q (some w) T.heap locs) (hC : cells ≤ C) (hS : slots ≤ S) : Goes p e below (Fin_ s Q C S) (T.setTop (mkF m pc Ls (w :: rest))) :=
  own_fin X hlk (fun h => by rw [hret] at h; cases h) (fun _ hr => retOut X hx hret hn (Or.inr (Or.inr (Or.inr (Or.inr ⟨rfl, ht, hw⟩)))) hd hr) hQ hC hS
theorem own_sta_keep {Z : State} {h h' : Heap} {C n d : String} {v : Value} (F : Sta Z h C n d v) (K : Keep h h' []) : Sta Z h' C n d v := by
  obtain ⟨cf, i, k, f, st, cell, h1, h2, h3, h4, h5, h6⟩ := F
  exact ⟨cf, i, k, f, st, cell, h1, h2, h3, h4, K.2.1 _ _ h5 nin0, h6⟩
theorem own_mask (x : Int32) : ¬ (x &&& (2147483647 : Int32)) < (0 : Int32) := by
  intro q
  have q1 := (c_and x 2147483647 (by decide)).1
  have q2 := Int32.lt_iff_toInt_lt.mp q
  have q3 : (0 : Int32).toInt = 0 := by decide
  omega
theorem own_and255 (x : Int32) : ¬ (x &&& (255 : Int32)) < 0 ∧ ¬ (255 : Int32) < (x &&& (255 : Int32)) := by
  have q1 := c_and x 255 (by decide)
  have q3 : (0 : Int32).toInt = 0 := by decide
  have q4 : (255 : Int32).toInt = 255 := by decide
  constructor
  · intro q
    have q2 := Int32.lt_iff_toInt_lt.mp q
    omega
  · intro q
    have q2 := Int32.lt_iff_toInt_lt.mp q
    omega
end Own
def own_end (s : Int64) : Int32 := if (16777216 : Int64) < s then (0 : Int32) else (1 : Int32)
def own_dec (u : Int64) (k : Int32) : Nat → Int32 → Int64 → Int64 → Option Int32
  | 0, _, _, _ => none
  | f + 1, j, s, o => if j < k then (if u < j.toInt64 then some (own_end s) else if (16777216 : Int64) < s then some (own_end s) else if (j + (1 : Int32)).toInt64 = (0 : Int64) then none
      else own_dec u k f (j + (1 : Int32)) (s + o) ((o * (u - j.toInt64)) / (j + (1 : Int32)).toInt64)) else some (own_end s)
def own_decF (u : Int64) (k : Int32) : Option Int32 := if (64 : Int64) < u then some (0 : Int32) else own_dec u k 70 (0 : Int32) (0 : Int64) (1 : Int64)
theorem own_dec_1 {u : Int64} {k j : Int32} {s o : Int64} {f : Nat} {r : Int32} (h1 : ¬ j < k) (h : own_dec u k (f + 1) j s o = some r) : own_end s = r := by
  rw [own_dec, if_neg h1] at h
  exact Option.some.inj h
theorem own_dec_2 {u : Int64} {k j : Int32} {s o : Int64} {f : Nat} {r : Int32} (h1 : j < k) (h2 : u < j.toInt64) (h : own_dec u k (f + 1) j s o = some r) : own_end s = r := by
  rw [own_dec, if_pos h1, if_pos h2] at h
  exact Option.some.inj h
theorem own_dec_3 {u : Int64} {k j : Int32} {s o : Int64} {f : Nat} {r : Int32} (h1 : j < k) (h2 : ¬ u < j.toInt64) (h3 : (16777216 : Int64) < s) (h : own_dec u k (f + 1) j s o = some r) : own_end s = r := by
  rw [own_dec, if_pos h1, if_neg h2, if_pos h3] at h
  exact Option.some.inj h
theorem own_dec_4 {u : Int64} {k j : Int32} {s o : Int64} {f : Nat} {r : Int32} (h1 : j < k) (h2 : ¬ u < j.toInt64) (h3 : ¬ (16777216 : Int64) < s) (h : own_dec u k (f + 1) j s o = some r) :
    (j + (1 : Int32)).toInt64 ≠ (0 : Int64) ∧ own_dec u k f (j + (1 : Int32)) (s + o) ((o * (u - j.toInt64)) / (j + (1 : Int32)).toInt64) = some r := by
  rw [own_dec, if_pos h1, if_neg h2, if_neg h3] at h
  by_cases q : (j + (1 : Int32)).toInt64 = (0 : Int64)
  · rw [if_pos q] at h
    cases h
  · rw [if_neg q] at h
    exact ⟨q, h⟩
def own_most (m : Int32) : Int32 := if (25 : Int32) < m then (if (27 : Int32) < m then (if (29 : Int32) < m then (if (32 : Int32) < m then (if (38 : Int32) < m then (if (49 : Int32) < m then (6 : Int32) else (7 : Int32)) else (8 : Int32)) else (9 : Int32)) else (10 : Int32)) else (11 : Int32)) else (13 : Int32)
def own_exp (u : Int64) (k : Int32) : Int32 := if (64 : Int64) < u then (0 : Int32) else if (24 : Int64) < u then (if own_most u.toInt32 < k then (0 : Int32) else (1 : Int32)) else (1 : Int32)
theorem own_all : ∀ u < 65, ∀ k < 67, own_dec (Int64.ofNat u) (Int32.ofNat k) 70 (0 : Int32) (0 : Int64) (1 : Int64) = some (own_exp (Int64.ofNat u) (Int32.ofNat k)) := by decide +kernel
theorem own_big (u : Int64) (k : Int32) (hu : u.toInt ≤ 64) (hk : 66 ≤ k.toInt) : ∀ (f : Nat) (j : Int32) (s o : Int64), 0 ≤ j.toInt → j.toInt ≤ u.toInt + 1 → own_dec u k f j s o = own_dec u (66 : Int32) f j s o := by
  intro f
  have c66 : (66 : Int32).toInt = 66 := by decide
  induction f with
  | zero => intros; rfl
  | succ f ih =>
    intro j s o h0 h1
    have q1 : j < k := Int32.lt_iff_toInt_lt.mpr (by omega)
    have q2 : j < (66 : Int32) := Int32.lt_iff_toInt_lt.mpr (by omega)
    rw [own_dec, own_dec, if_pos q1, if_pos q2]
    by_cases q3 : u < j.toInt64
    · rw [if_pos q3, if_pos q3]
    · rw [if_neg q3, if_neg q3]
      have q4 : ¬ u.toInt < j.toInt := fun q => q3 (Int64.lt_iff_toInt_lt.mpr (by rw [c_i2l]; exact q))
      have q5 := c_iadd j 1
      have q6 := rng32 (j + 1)
      have q7 : (1 : Int32).toInt = 1 := by decide
      rw [ih (j + (1 : Int32)) _ _ (by omega) (by omega)]
theorem own_exp_big (u : Int64) (k : Int32) (hk : 66 ≤ k.toInt) : own_exp u k = own_exp u (66 : Int32) := by
  have c66 : (66 : Int32).toInt = 66 := by decide
  have hm : ∀ m : Int32, (own_most m).toInt ≤ 13 := by
    intro m
    unfold own_most
    repeat' split
    all_goals decide
  have q1 : own_most u.toInt32 < k := Int32.lt_iff_toInt_lt.mpr (by have := hm u.toInt32; omega)
  have q2 : own_most u.toInt32 < (66 : Int32) := Int32.lt_iff_toInt_lt.mpr (by have := hm u.toInt32; omega)
  unfold own_exp
  rw [if_pos q1, if_pos q2]
theorem own_decides (u : Int64) (k : Int32) : own_decF u k = some (own_exp u k) := by
  have c0 : (0 : Int32).toInt = 0 := by decide
  have c64 : (64 : Int64).toInt = 64 := by decide
  have c24 : (24 : Int64).toInt = 24 := by decide
  have ru := rng64 u
  have rk := rng32 k
  unfold own_decF
  by_cases hu : (64 : Int64) < u
  · rw [if_pos hu, own_exp, if_pos hu]
  · rw [if_neg hu]
    have hu' : ¬ (64 : Int64).toInt < u.toInt := fun q => hu (Int64.lt_iff_toInt_lt.mpr q)
    by_cases hk : (0 : Int32) < k
    · have hk' := Int32.lt_iff_toInt_lt.mp hk
      by_cases hn : u.toInt < 0
      · have q1 : u < (0 : Int32).toInt64 := Int64.lt_iff_toInt_lt.mpr (by rw [c_i2l]; omega)
        have q2 : ¬ (24 : Int64) < u := fun q => by have := Int64.lt_iff_toInt_lt.mp q; omega
        rw [own_dec, if_pos hk, if_pos q1, own_exp, if_neg hu, if_neg q2]
        decide
      · obtain ⟨nu, hnu, hnu2⟩ : ∃ nu : Nat, nu < 65 ∧ u = Int64.ofNat nu := by
          refine ⟨u.toInt.toNat, by omega, Int64.toInt_inj.mp ?_⟩
          rw [Int64.toInt_ofNat_of_lt (by omega)]
          omega
        by_cases hb : k.toInt < 66
        · obtain ⟨nk, hnk, hnk2⟩ : ∃ nk : Nat, nk < 67 ∧ k = Int32.ofNat nk := by
            refine ⟨k.toInt.toNat, by omega, Int32.toInt_inj.mp ?_⟩
            rw [Int32.toInt_ofNat_of_lt (by omega)]
            omega
          rw [hnu2, hnk2]
          exact own_all nu hnu nk hnk
        · rw [own_big u k (by omega) (by omega) _ _ _ _ (by omega) (by omega), own_exp_big u k (by omega), hnu2]
          exact own_all nu hnu 66 (by decide)
    · have hk' : ¬ (0 : Int32).toInt < k.toInt := fun q => hk (Int32.lt_iff_toInt_lt.mpr q)
      have hm : ∀ m : Int32, 6 ≤ (own_most m).toInt := by
        intro m
        unfold own_most
        repeat' split
        all_goals decide
      have q1 : ¬ own_most u.toInt32 < k := fun q => by have := Int32.lt_iff_toInt_lt.mp q; have := hm u.toInt32; omega
      rw [own_dec, if_neg hk, own_exp, if_neg hu, if_neg q1]
      by_cases q2 : (24 : Int64) < u
      · rw [if_pos q2]; decide
      · rw [if_neg q2]; decide
theorem ef_rm1 (m : MethodId) (u : Int64) (k : Int32) : entryFrame m #[(.long u), (.int k)] 8 = mkF m 0 #[.val (.long u), .second, .val (.int k), .unset, .unset, .unset, .unset, .unset] [] := by first | (simp [entryFrame, mkF, argsToLocals, Value.category]; done) | rfl
def Qrm1 (Z : State) (u : Int64) (k : Int32) (r : Int32) (h0 : Heap) (n0 : Nat) (v_ : Option Value) (h_ : Heap) (L_ : List Loc) : Prop := v_ = some (.int r) ∧ Fr n0 L_ ∧ h_ = h0
theorem pn_com_example_checks_on_duty_checksonduty_engine_CoveringSearch : plainName "com/example/checks_on_duty/checksonduty/engine/CoveringSearch" = true := by first | (simp [plainName, overriddenIn]; done) | decide +kernel
theorem d1_0 : decode prog_37_method_3_code 0 = .ok (.lload_n 0, 1) := by decide +kernel
theorem d1_1 : decode prog_37_method_3_code 1 = .ok (.ldc2_w 95, 3) := by decide +kernel
theorem d1_4 : decode prog_37_method_3_code 4 = .ok (.lcmp, 1) := by decide +kernel
theorem d1_5 : decode prog_37_method_3_code 5 = .ok (.ifCond .le 5, 3) := by decide +kernel
theorem d1_8 : decode prog_37_method_3_code 8 = .ok (.iconst 0, 1) := by decide +kernel
theorem d1_9 : decode prog_37_method_3_code 9 = .ok (.ireturn, 1) := by decide +kernel
theorem d1_10 : decode prog_37_method_3_code 10 = .ok (.lconst 0, 1) := by decide +kernel
theorem d1_11 : decode prog_37_method_3_code 11 = .ok (.lstore_n 3, 1) := by decide +kernel
theorem d1_12 : decode prog_37_method_3_code 12 = .ok (.lconst 1, 1) := by decide +kernel
theorem d1_13 : decode prog_37_method_3_code 13 = .ok (.lstore 5, 2) := by decide +kernel
theorem d1_15 : decode prog_37_method_3_code 15 = .ok (.iconst 0, 1) := by decide +kernel
theorem d1_16 : decode prog_37_method_3_code 16 = .ok (.istore 7, 2) := by decide +kernel
theorem d1_18 : decode prog_37_method_3_code 18 = .ok (.iload 7, 2) := by decide +kernel
theorem d1_20 : decode prog_37_method_3_code 20 = .ok (.iload_n 2, 1) := by decide +kernel
theorem d1_21 : decode prog_37_method_3_code 21 = .ok (.if_icmp .ge 46, 3) := by decide +kernel
theorem d1_24 : decode prog_37_method_3_code 24 = .ok (.iload 7, 2) := by decide +kernel
theorem d1_26 : decode prog_37_method_3_code 26 = .ok (.i2l, 1) := by decide +kernel
theorem d1_27 : decode prog_37_method_3_code 27 = .ok (.lload_n 0, 1) := by decide +kernel
theorem d1_28 : decode prog_37_method_3_code 28 = .ok (.lcmp, 1) := by decide +kernel
theorem d1_29 : decode prog_37_method_3_code 29 = .ok (.ifCond .gt 38, 3) := by decide +kernel
theorem d1_67 : decode prog_37_method_3_code 67 = .ok (.lload_n 3, 1) := by decide +kernel
theorem d1_68 : decode prog_37_method_3_code 68 = .ok (.ldc2_w 97, 3) := by decide +kernel
theorem d1_71 : decode prog_37_method_3_code 71 = .ok (.lcmp, 1) := by decide +kernel
theorem d1_72 : decode prog_37_method_3_code 72 = .ok (.ifCond .gt 7, 3) := by decide +kernel
theorem d1_79 : decode prog_37_method_3_code 79 = .ok (.iconst 0, 1) := by decide +kernel
theorem d1_80 : decode prog_37_method_3_code 80 = .ok (.ireturn, 1) := by decide +kernel
theorem d1_75 : decode prog_37_method_3_code 75 = .ok (.iconst 1, 1) := by decide +kernel
theorem d1_76 : decode prog_37_method_3_code 76 = .ok (.goto 4, 3) := by decide +kernel
theorem d1_32 : decode prog_37_method_3_code 32 = .ok (.lload_n 3, 1) := by decide +kernel
theorem d1_33 : decode prog_37_method_3_code 33 = .ok (.ldc2_w 97, 3) := by decide +kernel
theorem d1_36 : decode prog_37_method_3_code 36 = .ok (.lcmp, 1) := by decide +kernel
theorem d1_37 : decode prog_37_method_3_code 37 = .ok (.ifCond .gt 30, 3) := by decide +kernel
theorem d1_40 : decode prog_37_method_3_code 40 = .ok (.lload_n 3, 1) := by decide +kernel
theorem d1_41 : decode prog_37_method_3_code 41 = .ok (.lload 5, 2) := by decide +kernel
theorem d1_43 : decode prog_37_method_3_code 43 = .ok (.ladd, 1) := by decide +kernel
theorem d1_44 : decode prog_37_method_3_code 44 = .ok (.lstore_n 3, 1) := by decide +kernel
theorem d1_45 : decode prog_37_method_3_code 45 = .ok (.lload 5, 2) := by decide +kernel
theorem d1_47 : decode prog_37_method_3_code 47 = .ok (.lload_n 0, 1) := by decide +kernel
theorem d1_48 : decode prog_37_method_3_code 48 = .ok (.iload 7, 2) := by decide +kernel
theorem d1_50 : decode prog_37_method_3_code 50 = .ok (.i2l, 1) := by decide +kernel
theorem d1_51 : decode prog_37_method_3_code 51 = .ok (.lsub, 1) := by decide +kernel
theorem d1_52 : decode prog_37_method_3_code 52 = .ok (.lmul, 1) := by decide +kernel
theorem d1_53 : decode prog_37_method_3_code 53 = .ok (.iload 7, 2) := by decide +kernel
theorem d1_55 : decode prog_37_method_3_code 55 = .ok (.iconst 1, 1) := by decide +kernel
theorem d1_56 : decode prog_37_method_3_code 56 = .ok (.iadd, 1) := by decide +kernel
theorem d1_57 : decode prog_37_method_3_code 57 = .ok (.i2l, 1) := by decide +kernel
theorem d1_58 : decode prog_37_method_3_code 58 = .ok (.ldiv, 1) := by decide +kernel
theorem d1_59 : decode prog_37_method_3_code 59 = .ok (.lstore 5, 2) := by decide +kernel
theorem d1_61 : decode prog_37_method_3_code 61 = .ok (.iinc 7 1, 3) := by decide +kernel
theorem d1_64 : decode prog_37_method_3_code 64 = .ok (.goto (-46), 3) := by decide +kernel
set_option maxRecDepth 65536 in
set_option maxHeartbeats 40000000 in
theorem rm1 (l : Launch) (Z : State) (a0 : Array Value) (hw : ∀ d ∈ tables_1, d.before a0 Z = true) (ws : List Jvm.Cond) (u : Int64) (k : Int32) (r : Int32) (h0 : Heap) (n0 : Nat) (Z0 : n0 ≤ h0.size) (Hd : own_decF u k = some r) :
    MetFree l (⟨"com/example/checks_on_duty/checksonduty/engine/CoveringSearch", "decides", "(JI)Z"⟩ : MethodName) (head1 (Jvm.Cond.code (⟨"com/example/checks_on_duty/checksonduty/engine/CoveringSearch", "decides", "(JI)Z"⟩ : MethodName) prog_37_method_3_code 8 (some .boolean) :: ws) ({ frames := 0, cells := 0, slots := 0, locals := 0 } : Room)) (fun as_ U_ => as_ = #[(.long u), (.int k)] ∧ Z.Warmed39 U_.vm ∧ U_.heap = h0) (fun _ _ _ _ _ => True) (fun _ U_ o_ V_ => ∃ v_ L_, o_ = .returned v_ ∧ Qrm1 Z u k r h0 n0 v_ V_.heap L_ ∧ FrameEnd U_ o_ V_ L_ ({ frames := 0, cells := 0, slots := 0, locals := 0 } : Room).cells ({ frames := 0, cells := 0, slots := 0, locals := 0 } : Room).slots) := by
  refine MetFree.of_bodySF (plainFor_of_name pn_com_example_checks_on_duty_checksonduty_engine_CoveringSearch) hisR ?_
  intro p e s m args below meth c s₁ Bd hml0 hP hK
  obtain ⟨rfl, hZ, hh⟩ := hP
  have hx := Bd.exec
  have hby := Bd.bytes
  have hlk : meth.locks = false := BodyLoose.notSynchronized Bd
  have hret := Bd.returns
  have hml : c.maxLocals = 8 := hml0
  have hown : s.vm.findClass "com/example/checks_on_duty/checksonduty/engine/CoveringSearch" = some m.cls := findClass_of_methodNamed Bd.named
  have hnm := (name_of_methodNamed Bd.named Bd.method).1
  have X0 : Stand p l e ({ frames := 0, cells := 0, slots := 0, locals := 0 } : Room) s m #[(.long u), (.int k)] below meth c s₁ [] 0 0 := Stand.of_body Bd
  have e0 : s₁.heap = h0 := by rw [← hh, Bd.state]; rfl
  have N0 := Fr.nil n0
  show Goes p e below (Fin_ s (Qrm1 Z u k r h0 n0) ({ frames := 0, cells := 0, slots := 0, locals := 0 } : Room).cells ({ frames := 0, cells := 0, slots := 0, locals := 0 } : Room).slots) (s₁.setTop (entryFrame m #[(.long u), (.int k)] 8))
  rw [ef_rm1 m u k]
  refine Goes.via (fun _ kk_ => XS.lloadN X0.here hx rfl (hb hby d1_0) rfl  kk_) ?_
  show Goes p e below _ (s₁.setTop (mkF m 1 #[.val (.long u), .second, .val (.int k), .unset, .unset, .unset, .unset, .unset] [(.long u)]))
  refine Goes.via (X0.ldc2Long hx hown (mvT hZ (hw _ (List.mem_of_getElem? (i := 6) rfl))) (g := (mkF m 1 #[.val (.long u), .second, .val (.int k), .unset, .unset, .unset, .unset, .unset] [(.long u)])) rfl (hb hby d1_1)) ?_
  show Goes p e below _ (s₁.setTop (mkF m 4 #[.val (.long u), .second, .val (.int k), .unset, .unset, .unset, .unset, .unset] [(.long (64 : Int64)), (.long u)]))
  refine Goes.via (fun _ kk_ => XS.lcmp X0.here hx rfl (hb hby d1_4) rfl kk_) ?_
  show Goes p e below _ (s₁.setTop (mkF m 5 #[.val (.long u), .second, .val (.int k), .unset, .unset, .unset, .unset, .unset] [(.int (lcmpW u (64 : Int64)))]))
  by_cases hc5 : (64 : Int64) < u
  · skip
    refine Goes.via (fun _ kk_ => XS.ifNo X0.here hx rfl (hb hby d1_5) rfl ((if0 _ _).trans (tlt ((lw_gt u (64 : Int64)).mpr hc5)).2.2.2) kk_) ?_
    show Goes p e below _ (s₁.setTop (mkF m 8 #[.val (.long u), .second, .val (.int k), .unset, .unset, .unset, .unset, .unset] []))
    refine Goes.via (fun _ kk_ => XS.iconst X0.here hx rfl (hb hby d1_8) kk_) ?_
    show Goes p e below _ (s₁.setTop (mkF m 9 #[.val (.long u), .second, .val (.int k), .unset, .unset, .unset, .unset, .unset] [(.int (0 : Int32))]))
    exact own_finN X0 hx hlk hret (by simp) (hb hby d1_9) (by rw [e0]; exact ⟨(by rw [own_decF, if_pos hc5] at Hd; exact congrArg (fun z => some (Value.int z)) (Option.some.inj Hd)), N0, rfl⟩) (by first | decide | omega | (dsimp only; omega)) (by first | decide | omega | (dsimp only; omega))
  · skip
    refine Goes.via (fun _ kk_ => XS.ifYes X0.here hx rfl (pc0 := 5) (pc' := 10) rfl (hb hby d1_5) rfl ((if0 _ _).trans (flt (fun q => hc5 ((lw_gt u (64 : Int64)).mp q))).2.2.2) (by decide) (by decide) kk_) ?_
    show Goes p e below _ (s₁.setTop (mkF m 10 #[.val (.long u), .second, .val (.int k), .unset, .unset, .unset, .unset, .unset] []))
    refine Goes.via (fun _ kk_ => XS.lconst X0.here hx rfl (hb hby d1_10) kk_) ?_
    show Goes p e below _ (s₁.setTop (mkF m 11 #[.val (.long u), .second, .val (.int k), .unset, .unset, .unset, .unset, .unset] [(.long (0 : Int64))]))
    refine Goes.via (fun _ kk_ => XS.lstoreN X0.here hx rfl (hb hby d1_11) rfl (l' := #[.val (.long u), .second, .val (.int k), .val (.long (0 : Int64)), .second, .unset, .unset, .unset]) rfl kk_) ?_
    show Goes p e below _ (s₁.setTop (mkF m 12 #[.val (.long u), .second, .val (.int k), .val (.long (0 : Int64)), .second, .unset, .unset, .unset] []))
    refine Goes.via (fun _ kk_ => XS.lconst X0.here hx rfl (hb hby d1_12) kk_) ?_
    show Goes p e below _ (s₁.setTop (mkF m 13 #[.val (.long u), .second, .val (.int k), .val (.long (0 : Int64)), .second, .unset, .unset, .unset] [(.long (1 : Int64))]))
    refine Goes.via (fun _ kk_ => XS.lstore X0.here hx rfl (hb hby d1_13) rfl (l' := #[.val (.long u), .second, .val (.int k), .val (.long (0 : Int64)), .second, .val (.long (1 : Int64)), .second, .unset]) rfl kk_) ?_
    show Goes p e below _ (s₁.setTop (mkF m 15 #[.val (.long u), .second, .val (.int k), .val (.long (0 : Int64)), .second, .val (.long (1 : Int64)), .second, .unset] []))
    refine Goes.via (fun _ kk_ => XS.iconst X0.here hx rfl (hb hby d1_15) kk_) ?_
    show Goes p e below _ (s₁.setTop (mkF m 16 #[.val (.long u), .second, .val (.int k), .val (.long (0 : Int64)), .second, .val (.long (1 : Int64)), .second, .unset] [(.int (0 : Int32))]))
    refine Goes.via (fun _ kk_ => XS.istore X0.here hx rfl (hb hby d1_16) rfl (l' := #[.val (.long u), .second, .val (.int k), .val (.long (0 : Int64)), .second, .val (.long (1 : Int64)), .second, .val (.int (0 : Int32))]) rfl kk_) ?_
    show Goes p e below _ (s₁.setTop (mkF m 18 #[.val (.long u), .second, .val (.int k), .val (.long (0 : Int64)), .second, .val (.long (1 : Int64)), .second, .val (.int (0 : Int32))] []))
    have hD : own_dec u k 70 (0 : Int32) (0 : Int64) (1 : Int64) = some r := by rw [own_decF, if_neg hc5] at Hd; exact Hd
    have lp1 : ∀ (fu1 : Nat) (j : Int32) (sm : Int64) (o : Int64) (T1 : State) (lc1 : List Loc), (Stand p l e ({ frames := 0, cells := 0, slots := 0, locals := 0 } : Room) s m #[(.long u), (.int k)] below meth c T1 lc1 0 0) → (T1.heap = h0) → (Fr n0 lc1) → (own_dec u k fu1 j sm o = some r) → Goes p e below (Fin_ s (Qrm1 Z u k r h0 n0) ({ frames := 0, cells := 0, slots := 0, locals := 0 } : Room).cells ({ frames := 0, cells := 0, slots := 0, locals := 0 } : Room).slots) (T1.setTop (mkF m 18 #[.val (.long u), .second, .val (.int k), .val (.long sm), .second, .val (.long o), .second, .val (.int j)] [])) := by
      intro fu1
      induction fu1 with
      | zero =>
        intro j sm o T1 lc1 X1 e1 N1 hd
        cases hd
      | succ fu1 ih1 =>
        intro j sm o T1 lc1 X1 e1 N1 hd
        refine Goes.via (fun _ kk_ => XS.iload X1.here hx rfl (hb hby d1_18) rfl  kk_) ?_
        show Goes p e below _ (T1.setTop (mkF m 20 #[.val (.long u), .second, .val (.int k), .val (.long sm), .second, .val (.long o), .second, .val (.int j)] [(.int j)]))
        refine Goes.via (fun _ kk_ => XS.iloadN X1.here hx rfl (hb hby d1_20) rfl  kk_) ?_
        show Goes p e below _ (T1.setTop (mkF m 21 #[.val (.long u), .second, .val (.int k), .val (.long sm), .second, .val (.long o), .second, .val (.int j)] [(.int k), (.int j)]))
        by_cases hc21 : j < k
        · skip
          refine Goes.via (fun _ kk_ => XS.icmpNo X1.here hx rfl (hb hby d1_21) rfl (tlt hc21).2.1 kk_) ?_
          show Goes p e below _ (T1.setTop (mkF m 24 #[.val (.long u), .second, .val (.int k), .val (.long sm), .second, .val (.long o), .second, .val (.int j)] []))
          refine Goes.via (fun _ kk_ => XS.iload X1.here hx rfl (hb hby d1_24) rfl  kk_) ?_
          show Goes p e below _ (T1.setTop (mkF m 26 #[.val (.long u), .second, .val (.int k), .val (.long sm), .second, .val (.long o), .second, .val (.int j)] [(.int j)]))
          refine Goes.via (fun _ kk_ => XS.i2l X1.here hx rfl (hb hby d1_26) rfl kk_) ?_
          show Goes p e below _ (T1.setTop (mkF m 27 #[.val (.long u), .second, .val (.int k), .val (.long sm), .second, .val (.long o), .second, .val (.int j)] [(.long (j.toInt64))]))
          refine Goes.via (fun _ kk_ => XS.lloadN X1.here hx rfl (hb hby d1_27) rfl  kk_) ?_
          show Goes p e below _ (T1.setTop (mkF m 28 #[.val (.long u), .second, .val (.int k), .val (.long sm), .second, .val (.long o), .second, .val (.int j)] [(.long u), (.long (j.toInt64))]))
          refine Goes.via (fun _ kk_ => XS.lcmp X1.here hx rfl (hb hby d1_28) rfl kk_) ?_
          show Goes p e below _ (T1.setTop (mkF m 29 #[.val (.long u), .second, .val (.int k), .val (.long sm), .second, .val (.long o), .second, .val (.int j)] [(.int (lcmpW (j.toInt64) u))]))
          by_cases hc29 : u < (j.toInt64)
          · skip
            refine Goes.via (fun _ kk_ => XS.ifYes X1.here hx rfl (pc0 := 29) (pc' := 67) rfl (hb hby d1_29) rfl ((if0 _ _).trans (tlt ((lw_gt (j.toInt64) u).mpr hc29)).2.2.1) (by decide) (by decide) kk_) ?_
            show Goes p e below _ (T1.setTop (mkF m 67 #[.val (.long u), .second, .val (.int k), .val (.long sm), .second, .val (.long o), .second, .val (.int j)] []))
            have hr : own_end sm = r := own_dec_2 hc21 hc29 hd
            refine Goes.via (fun _ kk_ => XS.lloadN X1.here hx rfl (hb hby d1_67) rfl  kk_) ?_
            show Goes p e below _ (T1.setTop (mkF m 68 #[.val (.long u), .second, .val (.int k), .val (.long sm), .second, .val (.long o), .second, .val (.int j)] [(.long sm)]))
            refine Goes.via (X1.ldc2Long hx hown (mvT hZ (hw _ (List.mem_of_getElem? (i := 7) rfl))) (g := (mkF m 68 #[.val (.long u), .second, .val (.int k), .val (.long sm), .second, .val (.long o), .second, .val (.int j)] [(.long sm)])) rfl (hb hby d1_68)) ?_
            show Goes p e below _ (T1.setTop (mkF m 71 #[.val (.long u), .second, .val (.int k), .val (.long sm), .second, .val (.long o), .second, .val (.int j)] [(.long (16777216 : Int64)), (.long sm)]))
            refine Goes.via (fun _ kk_ => XS.lcmp X1.here hx rfl (hb hby d1_71) rfl kk_) ?_
            show Goes p e below _ (T1.setTop (mkF m 72 #[.val (.long u), .second, .val (.int k), .val (.long sm), .second, .val (.long o), .second, .val (.int j)] [(.int (lcmpW sm (16777216 : Int64)))]))
            by_cases hc72 : (16777216 : Int64) < sm
            · skip
              refine Goes.via (fun _ kk_ => XS.ifYes X1.here hx rfl (pc0 := 72) (pc' := 79) rfl (hb hby d1_72) rfl ((if0 _ _).trans (tlt ((lw_gt sm (16777216 : Int64)).mpr hc72)).2.2.1) (by decide) (by decide) kk_) ?_
              show Goes p e below _ (T1.setTop (mkF m 79 #[.val (.long u), .second, .val (.int k), .val (.long sm), .second, .val (.long o), .second, .val (.int j)] []))
              refine Goes.via (fun _ kk_ => XS.iconst X1.here hx rfl (hb hby d1_79) kk_) ?_
              show Goes p e below _ (T1.setTop (mkF m 80 #[.val (.long u), .second, .val (.int k), .val (.long sm), .second, .val (.long o), .second, .val (.int j)] [(.int (0 : Int32))]))
              exact own_finN X1 hx hlk hret (by simp) (hb hby d1_80) (by rw [e1]; exact ⟨(by rw [← hr, own_end, if_pos hc72]; rfl), N1, rfl⟩) (by first | decide | omega | (dsimp only; omega)) (by first | decide | omega | (dsimp only; omega))
            · skip
              refine Goes.via (fun _ kk_ => XS.ifNo X1.here hx rfl (hb hby d1_72) rfl ((if0 _ _).trans (flt (fun q => hc72 ((lw_gt sm (16777216 : Int64)).mp q))).2.2.1) kk_) ?_
              show Goes p e below _ (T1.setTop (mkF m 75 #[.val (.long u), .second, .val (.int k), .val (.long sm), .second, .val (.long o), .second, .val (.int j)] []))
              refine Goes.via (fun _ kk_ => XS.iconst X1.here hx rfl (hb hby d1_75) kk_) ?_
              show Goes p e below _ (T1.setTop (mkF m 76 #[.val (.long u), .second, .val (.int k), .val (.long sm), .second, .val (.long o), .second, .val (.int j)] [(.int (1 : Int32))]))
              refine Goes.via (fun _ kk_ => XS.goto X1.here hx rfl (pc0 := 76) (pc' := 80) rfl (hb hby d1_76) (by decide) (by decide) kk_) ?_
              show Goes p e below _ (T1.setTop (mkF m 80 #[.val (.long u), .second, .val (.int k), .val (.long sm), .second, .val (.long o), .second, .val (.int j)] [(.int (1 : Int32))]))
              exact own_finN X1 hx hlk hret (by simp) (hb hby d1_80) (by rw [e1]; exact ⟨(by rw [← hr, own_end, if_neg hc72]; rfl), N1, rfl⟩) (by first | decide | omega | (dsimp only; omega)) (by first | decide | omega | (dsimp only; omega))
          · skip
            refine Goes.via (fun _ kk_ => XS.ifNo X1.here hx rfl (hb hby d1_29) rfl ((if0 _ _).trans (flt (fun q => hc29 ((lw_gt (j.toInt64) u).mp q))).2.2.1) kk_) ?_
            show Goes p e below _ (T1.setTop (mkF m 32 #[.val (.long u), .second, .val (.int k), .val (.long sm), .second, .val (.long o), .second, .val (.int j)] []))
            refine Goes.via (fun _ kk_ => XS.lloadN X1.here hx rfl (hb hby d1_32) rfl  kk_) ?_
            show Goes p e below _ (T1.setTop (mkF m 33 #[.val (.long u), .second, .val (.int k), .val (.long sm), .second, .val (.long o), .second, .val (.int j)] [(.long sm)]))
            refine Goes.via (X1.ldc2Long hx hown (mvT hZ (hw _ (List.mem_of_getElem? (i := 7) rfl))) (g := (mkF m 33 #[.val (.long u), .second, .val (.int k), .val (.long sm), .second, .val (.long o), .second, .val (.int j)] [(.long sm)])) rfl (hb hby d1_33)) ?_
            show Goes p e below _ (T1.setTop (mkF m 36 #[.val (.long u), .second, .val (.int k), .val (.long sm), .second, .val (.long o), .second, .val (.int j)] [(.long (16777216 : Int64)), (.long sm)]))
            refine Goes.via (fun _ kk_ => XS.lcmp X1.here hx rfl (hb hby d1_36) rfl kk_) ?_
            show Goes p e below _ (T1.setTop (mkF m 37 #[.val (.long u), .second, .val (.int k), .val (.long sm), .second, .val (.long o), .second, .val (.int j)] [(.int (lcmpW sm (16777216 : Int64)))]))
            by_cases hc37 : (16777216 : Int64) < sm
            · skip
              refine Goes.via (fun _ kk_ => XS.ifYes X1.here hx rfl (pc0 := 37) (pc' := 67) rfl (hb hby d1_37) rfl ((if0 _ _).trans (tlt ((lw_gt sm (16777216 : Int64)).mpr hc37)).2.2.1) (by decide) (by decide) kk_) ?_
              show Goes p e below _ (T1.setTop (mkF m 67 #[.val (.long u), .second, .val (.int k), .val (.long sm), .second, .val (.long o), .second, .val (.int j)] []))
              have hr : own_end sm = r := own_dec_3 hc21 hc29 hc37 hd
              refine Goes.via (fun _ kk_ => XS.lloadN X1.here hx rfl (hb hby d1_67) rfl  kk_) ?_
              show Goes p e below _ (T1.setTop (mkF m 68 #[.val (.long u), .second, .val (.int k), .val (.long sm), .second, .val (.long o), .second, .val (.int j)] [(.long sm)]))
              refine Goes.via (X1.ldc2Long hx hown (mvT hZ (hw _ (List.mem_of_getElem? (i := 7) rfl))) (g := (mkF m 68 #[.val (.long u), .second, .val (.int k), .val (.long sm), .second, .val (.long o), .second, .val (.int j)] [(.long sm)])) rfl (hb hby d1_68)) ?_
              show Goes p e below _ (T1.setTop (mkF m 71 #[.val (.long u), .second, .val (.int k), .val (.long sm), .second, .val (.long o), .second, .val (.int j)] [(.long (16777216 : Int64)), (.long sm)]))
              refine Goes.via (fun _ kk_ => XS.lcmp X1.here hx rfl (hb hby d1_71) rfl kk_) ?_
              show Goes p e below _ (T1.setTop (mkF m 72 #[.val (.long u), .second, .val (.int k), .val (.long sm), .second, .val (.long o), .second, .val (.int j)] [(.int (lcmpW sm (16777216 : Int64)))]))
              by_cases hc72 : (16777216 : Int64) < sm
              · skip
                refine Goes.via (fun _ kk_ => XS.ifYes X1.here hx rfl (pc0 := 72) (pc' := 79) rfl (hb hby d1_72) rfl ((if0 _ _).trans (tlt ((lw_gt sm (16777216 : Int64)).mpr hc72)).2.2.1) (by decide) (by decide) kk_) ?_
                show Goes p e below _ (T1.setTop (mkF m 79 #[.val (.long u), .second, .val (.int k), .val (.long sm), .second, .val (.long o), .second, .val (.int j)] []))
                refine Goes.via (fun _ kk_ => XS.iconst X1.here hx rfl (hb hby d1_79) kk_) ?_
                show Goes p e below _ (T1.setTop (mkF m 80 #[.val (.long u), .second, .val (.int k), .val (.long sm), .second, .val (.long o), .second, .val (.int j)] [(.int (0 : Int32))]))
                exact own_finN X1 hx hlk hret (by simp) (hb hby d1_80) (by rw [e1]; exact ⟨(by rw [← hr, own_end, if_pos hc72]; rfl), N1, rfl⟩) (by first | decide | omega | (dsimp only; omega)) (by first | decide | omega | (dsimp only; omega))
              · skip
                refine Goes.via (fun _ kk_ => XS.ifNo X1.here hx rfl (hb hby d1_72) rfl ((if0 _ _).trans (flt (fun q => hc72 ((lw_gt sm (16777216 : Int64)).mp q))).2.2.1) kk_) ?_
                show Goes p e below _ (T1.setTop (mkF m 75 #[.val (.long u), .second, .val (.int k), .val (.long sm), .second, .val (.long o), .second, .val (.int j)] []))
                refine Goes.via (fun _ kk_ => XS.iconst X1.here hx rfl (hb hby d1_75) kk_) ?_
                show Goes p e below _ (T1.setTop (mkF m 76 #[.val (.long u), .second, .val (.int k), .val (.long sm), .second, .val (.long o), .second, .val (.int j)] [(.int (1 : Int32))]))
                refine Goes.via (fun _ kk_ => XS.goto X1.here hx rfl (pc0 := 76) (pc' := 80) rfl (hb hby d1_76) (by decide) (by decide) kk_) ?_
                show Goes p e below _ (T1.setTop (mkF m 80 #[.val (.long u), .second, .val (.int k), .val (.long sm), .second, .val (.long o), .second, .val (.int j)] [(.int (1 : Int32))]))
                exact own_finN X1 hx hlk hret (by simp) (hb hby d1_80) (by rw [e1]; exact ⟨(by rw [← hr, own_end, if_neg hc72]; rfl), N1, rfl⟩) (by first | decide | omega | (dsimp only; omega)) (by first | decide | omega | (dsimp only; omega))
            · skip
              refine Goes.via (fun _ kk_ => XS.ifNo X1.here hx rfl (hb hby d1_37) rfl ((if0 _ _).trans (flt (fun q => hc37 ((lw_gt sm (16777216 : Int64)).mp q))).2.2.1) kk_) ?_
              show Goes p e below _ (T1.setTop (mkF m 40 #[.val (.long u), .second, .val (.int k), .val (.long sm), .second, .val (.long o), .second, .val (.int j)] []))
              obtain ⟨hnz, hd2⟩ := own_dec_4 hc21 hc29 hc37 hd
              refine Goes.via (fun _ kk_ => XS.lloadN X1.here hx rfl (hb hby d1_40) rfl  kk_) ?_
              show Goes p e below _ (T1.setTop (mkF m 41 #[.val (.long u), .second, .val (.int k), .val (.long sm), .second, .val (.long o), .second, .val (.int j)] [(.long sm)]))
              refine Goes.via (fun _ kk_ => XS.lload X1.here hx rfl (hb hby d1_41) rfl  kk_) ?_
              show Goes p e below _ (T1.setTop (mkF m 43 #[.val (.long u), .second, .val (.int k), .val (.long sm), .second, .val (.long o), .second, .val (.int j)] [(.long o), (.long sm)]))
              refine Goes.via (fun _ kk_ => XS.ladd X1.here hx rfl (hb hby d1_43) rfl kk_) ?_
              show Goes p e below _ (T1.setTop (mkF m 44 #[.val (.long u), .second, .val (.int k), .val (.long sm), .second, .val (.long o), .second, .val (.int j)] [(.long (sm + o))]))
              refine Goes.via (fun _ kk_ => XS.lstoreN X1.here hx rfl (hb hby d1_44) rfl (l' := #[.val (.long u), .second, .val (.int k), .val (.long (sm + o)), .second, .val (.long o), .second, .val (.int j)]) rfl kk_) ?_
              show Goes p e below _ (T1.setTop (mkF m 45 #[.val (.long u), .second, .val (.int k), .val (.long (sm + o)), .second, .val (.long o), .second, .val (.int j)] []))
              refine Goes.via (fun _ kk_ => XS.lload X1.here hx rfl (hb hby d1_45) rfl  kk_) ?_
              show Goes p e below _ (T1.setTop (mkF m 47 #[.val (.long u), .second, .val (.int k), .val (.long (sm + o)), .second, .val (.long o), .second, .val (.int j)] [(.long o)]))
              refine Goes.via (fun _ kk_ => XS.lloadN X1.here hx rfl (hb hby d1_47) rfl  kk_) ?_
              show Goes p e below _ (T1.setTop (mkF m 48 #[.val (.long u), .second, .val (.int k), .val (.long (sm + o)), .second, .val (.long o), .second, .val (.int j)] [(.long u), (.long o)]))
              refine Goes.via (fun _ kk_ => XS.iload X1.here hx rfl (hb hby d1_48) rfl  kk_) ?_
              show Goes p e below _ (T1.setTop (mkF m 50 #[.val (.long u), .second, .val (.int k), .val (.long (sm + o)), .second, .val (.long o), .second, .val (.int j)] [(.int j), (.long u), (.long o)]))
              refine Goes.via (fun _ kk_ => XS.i2l X1.here hx rfl (hb hby d1_50) rfl kk_) ?_
              show Goes p e below _ (T1.setTop (mkF m 51 #[.val (.long u), .second, .val (.int k), .val (.long (sm + o)), .second, .val (.long o), .second, .val (.int j)] [(.long (j.toInt64)), (.long u), (.long o)]))
              refine Goes.via (fun _ kk_ => XS.lsub X1.here hx rfl (hb hby d1_51) rfl kk_) ?_
              show Goes p e below _ (T1.setTop (mkF m 52 #[.val (.long u), .second, .val (.int k), .val (.long (sm + o)), .second, .val (.long o), .second, .val (.int j)] [(.long (u - (j.toInt64))), (.long o)]))
              refine Goes.via (fun _ kk_ => XS.lmul X1.here hx rfl (hb hby d1_52) rfl kk_) ?_
              show Goes p e below _ (T1.setTop (mkF m 53 #[.val (.long u), .second, .val (.int k), .val (.long (sm + o)), .second, .val (.long o), .second, .val (.int j)] [(.long (o * (u - (j.toInt64))))]))
              refine Goes.via (fun _ kk_ => XS.iload X1.here hx rfl (hb hby d1_53) rfl  kk_) ?_
              show Goes p e below _ (T1.setTop (mkF m 55 #[.val (.long u), .second, .val (.int k), .val (.long (sm + o)), .second, .val (.long o), .second, .val (.int j)] [(.int j), (.long (o * (u - (j.toInt64))))]))
              refine Goes.via (fun _ kk_ => XS.iconst X1.here hx rfl (hb hby d1_55) kk_) ?_
              show Goes p e below _ (T1.setTop (mkF m 56 #[.val (.long u), .second, .val (.int k), .val (.long (sm + o)), .second, .val (.long o), .second, .val (.int j)] [(.int (1 : Int32)), (.int j), (.long (o * (u - (j.toInt64))))]))
              refine Goes.via (fun _ kk_ => XS.iadd X1.here hx rfl (hb hby d1_56) rfl kk_) ?_
              show Goes p e below _ (T1.setTop (mkF m 57 #[.val (.long u), .second, .val (.int k), .val (.long (sm + o)), .second, .val (.long o), .second, .val (.int j)] [(.int (j + (1 : Int32))), (.long (o * (u - (j.toInt64))))]))
              refine Goes.via (fun _ kk_ => XS.i2l X1.here hx rfl (hb hby d1_57) rfl kk_) ?_
              show Goes p e below _ (T1.setTop (mkF m 58 #[.val (.long u), .second, .val (.int k), .val (.long (sm + o)), .second, .val (.long o), .second, .val (.int j)] [(.long ((j + (1 : Int32)).toInt64)), (.long (o * (u - (j.toInt64))))]))
              refine Goes.via (fun _ kk_ => XS.ldiv X1.here hx rfl (hb hby d1_58) rfl hnz kk_) ?_
              show Goes p e below _ (T1.setTop (mkF m 59 #[.val (.long u), .second, .val (.int k), .val (.long (sm + o)), .second, .val (.long o), .second, .val (.int j)] [(.long ((o * (u - (j.toInt64))) / ((j + (1 : Int32)).toInt64)))]))
              refine Goes.via (fun _ kk_ => XS.lstore X1.here hx rfl (hb hby d1_59) rfl (l' := #[.val (.long u), .second, .val (.int k), .val (.long (sm + o)), .second, .val (.long ((o * (u - (j.toInt64))) / ((j + (1 : Int32)).toInt64))), .second, .val (.int j)]) rfl kk_) ?_
              show Goes p e below _ (T1.setTop (mkF m 61 #[.val (.long u), .second, .val (.int k), .val (.long (sm + o)), .second, .val (.long ((o * (u - (j.toInt64))) / ((j + (1 : Int32)).toInt64))), .second, .val (.int j)] []))
              refine Goes.via (fun _ kk_ => XS.iinc X1.here hx rfl (hb hby d1_61) rfl (l' := #[.val (.long u), .second, .val (.int k), .val (.long (sm + o)), .second, .val (.long ((o * (u - (j.toInt64))) / ((j + (1 : Int32)).toInt64))), .second, .val (.int (j + (1 : Int32)))]) rfl kk_) ?_
              show Goes p e below _ (T1.setTop (mkF m 64 #[.val (.long u), .second, .val (.int k), .val (.long (sm + o)), .second, .val (.long ((o * (u - (j.toInt64))) / ((j + (1 : Int32)).toInt64))), .second, .val (.int (j + (1 : Int32)))] []))
              refine Goes.via (fun _ kk_ => XS.goto X1.here hx rfl (pc0 := 64) (pc' := 18) rfl (hb hby d1_64) (by decide) (by decide) kk_) ?_
              show Goes p e below _ (T1.setTop (mkF m 18 #[.val (.long u), .second, .val (.int k), .val (.long (sm + o)), .second, .val (.long ((o * (u - (j.toInt64))) / ((j + (1 : Int32)).toInt64))), .second, .val (.int (j + (1 : Int32)))] []))
              exact ih1 ((j + (1 : Int32))) ((sm + o)) (((o * (u - (j.toInt64))) / ((j + (1 : Int32)).toInt64))) _ _ X1 e1 N1 hd2
        · skip
          refine Goes.via (fun _ kk_ => XS.icmpYes X1.here hx rfl (pc0 := 21) (pc' := 67) rfl (hb hby d1_21) rfl (flt hc21).2.1 (by decide) (by decide) kk_) ?_
          show Goes p e below _ (T1.setTop (mkF m 67 #[.val (.long u), .second, .val (.int k), .val (.long sm), .second, .val (.long o), .second, .val (.int j)] []))
          have hr : own_end sm = r := own_dec_1 hc21 hd
          refine Goes.via (fun _ kk_ => XS.lloadN X1.here hx rfl (hb hby d1_67) rfl  kk_) ?_
          show Goes p e below _ (T1.setTop (mkF m 68 #[.val (.long u), .second, .val (.int k), .val (.long sm), .second, .val (.long o), .second, .val (.int j)] [(.long sm)]))
          refine Goes.via (X1.ldc2Long hx hown (mvT hZ (hw _ (List.mem_of_getElem? (i := 7) rfl))) (g := (mkF m 68 #[.val (.long u), .second, .val (.int k), .val (.long sm), .second, .val (.long o), .second, .val (.int j)] [(.long sm)])) rfl (hb hby d1_68)) ?_
          show Goes p e below _ (T1.setTop (mkF m 71 #[.val (.long u), .second, .val (.int k), .val (.long sm), .second, .val (.long o), .second, .val (.int j)] [(.long (16777216 : Int64)), (.long sm)]))
          refine Goes.via (fun _ kk_ => XS.lcmp X1.here hx rfl (hb hby d1_71) rfl kk_) ?_
          show Goes p e below _ (T1.setTop (mkF m 72 #[.val (.long u), .second, .val (.int k), .val (.long sm), .second, .val (.long o), .second, .val (.int j)] [(.int (lcmpW sm (16777216 : Int64)))]))
          by_cases hc72 : (16777216 : Int64) < sm
          · skip
            refine Goes.via (fun _ kk_ => XS.ifYes X1.here hx rfl (pc0 := 72) (pc' := 79) rfl (hb hby d1_72) rfl ((if0 _ _).trans (tlt ((lw_gt sm (16777216 : Int64)).mpr hc72)).2.2.1) (by decide) (by decide) kk_) ?_
            show Goes p e below _ (T1.setTop (mkF m 79 #[.val (.long u), .second, .val (.int k), .val (.long sm), .second, .val (.long o), .second, .val (.int j)] []))
            refine Goes.via (fun _ kk_ => XS.iconst X1.here hx rfl (hb hby d1_79) kk_) ?_
            show Goes p e below _ (T1.setTop (mkF m 80 #[.val (.long u), .second, .val (.int k), .val (.long sm), .second, .val (.long o), .second, .val (.int j)] [(.int (0 : Int32))]))
            exact own_finN X1 hx hlk hret (by simp) (hb hby d1_80) (by rw [e1]; exact ⟨(by rw [← hr, own_end, if_pos hc72]; rfl), N1, rfl⟩) (by first | decide | omega | (dsimp only; omega)) (by first | decide | omega | (dsimp only; omega))
          · skip
            refine Goes.via (fun _ kk_ => XS.ifNo X1.here hx rfl (hb hby d1_72) rfl ((if0 _ _).trans (flt (fun q => hc72 ((lw_gt sm (16777216 : Int64)).mp q))).2.2.1) kk_) ?_
            show Goes p e below _ (T1.setTop (mkF m 75 #[.val (.long u), .second, .val (.int k), .val (.long sm), .second, .val (.long o), .second, .val (.int j)] []))
            refine Goes.via (fun _ kk_ => XS.iconst X1.here hx rfl (hb hby d1_75) kk_) ?_
            show Goes p e below _ (T1.setTop (mkF m 76 #[.val (.long u), .second, .val (.int k), .val (.long sm), .second, .val (.long o), .second, .val (.int j)] [(.int (1 : Int32))]))
            refine Goes.via (fun _ kk_ => XS.goto X1.here hx rfl (pc0 := 76) (pc' := 80) rfl (hb hby d1_76) (by decide) (by decide) kk_) ?_
            show Goes p e below _ (T1.setTop (mkF m 80 #[.val (.long u), .second, .val (.int k), .val (.long sm), .second, .val (.long o), .second, .val (.int j)] [(.int (1 : Int32))]))
            exact own_finN X1 hx hlk hret (by simp) (hb hby d1_80) (by rw [e1]; exact ⟨(by rw [← hr, own_end, if_neg hc72]; rfl), N1, rfl⟩) (by first | decide | omega | (dsimp only; omega)) (by first | decide | omega | (dsimp only; omega))
    exact lp1 (70) ((0 : Int32)) ((0 : Int64)) ((1 : Int64)) _ _ X0 e0 N0 hD
theorem ef_rm3 (m : MethodId) (m0 : Int32) : entryFrame m #[(.int m0)] 1 = mkF m 0 #[.val (.int m0)] [] := by first | (simp [entryFrame, mkF, argsToLocals, Value.category]; done) | rfl
def Qrm3 (Z : State) (m0 : Int32) (h0 : Heap) (n0 : Nat) (v_ : Option Value) (h_ : Heap) (L_ : List Loc) : Prop := v_ = some (.int (own_most m0)) ∧ Fr n0 L_ ∧ h_ = h0
theorem pn_com_example_checks_on_duty_checksonduty_engine_CoveringSearchDecidesPinLaw : plainName "com/example/checks_on_duty/checksonduty/engine/CoveringSearchDecidesPinLaw" = true := by first | (simp [plainName, overriddenIn]; done) | decide +kernel
theorem d3_0 : decode method_4_code 0 = .ok (.iload_n 0, 1) := by decide +kernel
theorem d3_1 : decode method_4_code 1 = .ok (.bipush 25, 2) := by decide +kernel
theorem d3_3 : decode method_4_code 3 = .ok (.if_icmp .gt 6, 3) := by decide +kernel
theorem d3_9 : decode method_4_code 9 = .ok (.iload_n 0, 1) := by decide +kernel
theorem d3_10 : decode method_4_code 10 = .ok (.bipush 27, 2) := by decide +kernel
theorem d3_12 : decode method_4_code 12 = .ok (.if_icmp .gt 6, 3) := by decide +kernel
theorem d3_18 : decode method_4_code 18 = .ok (.iload_n 0, 1) := by decide +kernel
theorem d3_19 : decode method_4_code 19 = .ok (.bipush 29, 2) := by decide +kernel
theorem d3_21 : decode method_4_code 21 = .ok (.if_icmp .gt 6, 3) := by decide +kernel
theorem d3_27 : decode method_4_code 27 = .ok (.iload_n 0, 1) := by decide +kernel
theorem d3_28 : decode method_4_code 28 = .ok (.bipush 32, 2) := by decide +kernel
theorem d3_30 : decode method_4_code 30 = .ok (.if_icmp .gt 6, 3) := by decide +kernel
theorem d3_36 : decode method_4_code 36 = .ok (.iload_n 0, 1) := by decide +kernel
theorem d3_37 : decode method_4_code 37 = .ok (.bipush 38, 2) := by decide +kernel
theorem d3_39 : decode method_4_code 39 = .ok (.if_icmp .gt 6, 3) := by decide +kernel
theorem d3_45 : decode method_4_code 45 = .ok (.iload_n 0, 1) := by decide +kernel
theorem d3_46 : decode method_4_code 46 = .ok (.bipush 49, 2) := by decide +kernel
theorem d3_48 : decode method_4_code 48 = .ok (.if_icmp .gt 6, 3) := by decide +kernel
theorem d3_54 : decode method_4_code 54 = .ok (.bipush 6, 2) := by decide +kernel
theorem d3_56 : decode method_4_code 56 = .ok (.ireturn, 1) := by decide +kernel
theorem d3_51 : decode method_4_code 51 = .ok (.bipush 7, 2) := by decide +kernel
theorem d3_53 : decode method_4_code 53 = .ok (.ireturn, 1) := by decide +kernel
theorem d3_42 : decode method_4_code 42 = .ok (.bipush 8, 2) := by decide +kernel
theorem d3_44 : decode method_4_code 44 = .ok (.ireturn, 1) := by decide +kernel
theorem d3_33 : decode method_4_code 33 = .ok (.bipush 9, 2) := by decide +kernel
theorem d3_35 : decode method_4_code 35 = .ok (.ireturn, 1) := by decide +kernel
theorem d3_24 : decode method_4_code 24 = .ok (.bipush 10, 2) := by decide +kernel
theorem d3_26 : decode method_4_code 26 = .ok (.ireturn, 1) := by decide +kernel
theorem d3_15 : decode method_4_code 15 = .ok (.bipush 11, 2) := by decide +kernel
theorem d3_17 : decode method_4_code 17 = .ok (.ireturn, 1) := by decide +kernel
theorem d3_6 : decode method_4_code 6 = .ok (.bipush 13, 2) := by decide +kernel
theorem d3_8 : decode method_4_code 8 = .ok (.ireturn, 1) := by decide +kernel
set_option maxRecDepth 65536 in
set_option maxHeartbeats 40000000 in
theorem rm3 (l : Launch) (Z : State) (a0 : Array Value) (hw : ∀ d ∈ tables_1, d.before a0 Z = true) (ws : List Jvm.Cond) (m0 : Int32) (h0 : Heap) (n0 : Nat) (Z0 : n0 ≤ h0.size) :
    MetFree l (⟨"com/example/checks_on_duty/checksonduty/engine/CoveringSearchDecidesPinLaw", "most", "(I)I"⟩ : MethodName) (head1 (Jvm.Cond.code (⟨"com/example/checks_on_duty/checksonduty/engine/CoveringSearchDecidesPinLaw", "most", "(I)I"⟩ : MethodName) method_4_code 1 (some .int) :: ws) ({ frames := 0, cells := 0, slots := 0, locals := 0 } : Room)) (fun as_ U_ => as_ = #[(.int m0)] ∧ Z.Warmed39 U_.vm ∧ U_.heap = h0) (fun _ _ _ _ _ => True) (fun _ U_ o_ V_ => ∃ v_ L_, o_ = .returned v_ ∧ Qrm3 Z m0 h0 n0 v_ V_.heap L_ ∧ FrameEnd U_ o_ V_ L_ ({ frames := 0, cells := 0, slots := 0, locals := 0 } : Room).cells ({ frames := 0, cells := 0, slots := 0, locals := 0 } : Room).slots) := by
  refine MetFree.of_bodySF (plainFor_of_name pn_com_example_checks_on_duty_checksonduty_engine_CoveringSearchDecidesPinLaw) hisR ?_
  intro p e s m args below meth c s₁ Bd hml0 hP hK
  obtain ⟨rfl, hZ, hh⟩ := hP
  have hx := Bd.exec
  have hby := Bd.bytes
  have hlk : meth.locks = false := BodyLoose.notSynchronized Bd
  have hret := Bd.returns
  have hml : c.maxLocals = 1 := hml0
  have hown : s.vm.findClass "com/example/checks_on_duty/checksonduty/engine/CoveringSearchDecidesPinLaw" = some m.cls := findClass_of_methodNamed Bd.named
  have hnm := (name_of_methodNamed Bd.named Bd.method).1
  have X0 : Stand p l e ({ frames := 0, cells := 0, slots := 0, locals := 0 } : Room) s m #[(.int m0)] below meth c s₁ [] 0 0 := Stand.of_body Bd
  have e0 : s₁.heap = h0 := by rw [← hh, Bd.state]; rfl
  have N0 := Fr.nil n0
  show Goes p e below (Fin_ s (Qrm3 Z m0 h0 n0) ({ frames := 0, cells := 0, slots := 0, locals := 0 } : Room).cells ({ frames := 0, cells := 0, slots := 0, locals := 0 } : Room).slots) (s₁.setTop (entryFrame m #[(.int m0)] 1))
  rw [ef_rm3 m m0]
  refine Goes.via (fun _ kk_ => XS.iloadN X0.here hx rfl (hb hby d3_0) rfl  kk_) ?_
  show Goes p e below _ (s₁.setTop (mkF m 1 #[.val (.int m0)] [(.int m0)]))
  refine Goes.via (fun _ kk_ => XS.bipush X0.here hx rfl (hb hby d3_1) kk_) ?_
  show Goes p e below _ (s₁.setTop (mkF m 3 #[.val (.int m0)] [(.int (25 : Int32)), (.int m0)]))
  by_cases hc3 : (25 : Int32) < m0
  · skip
    refine Goes.via (fun _ kk_ => XS.icmpYes X0.here hx rfl (pc0 := 3) (pc' := 9) rfl (hb hby d3_3) rfl (tlt hc3).2.2.1 (by decide) (by decide) kk_) ?_
    show Goes p e below _ (s₁.setTop (mkF m 9 #[.val (.int m0)] []))
    refine Goes.via (fun _ kk_ => XS.iloadN X0.here hx rfl (hb hby d3_9) rfl  kk_) ?_
    show Goes p e below _ (s₁.setTop (mkF m 10 #[.val (.int m0)] [(.int m0)]))
    refine Goes.via (fun _ kk_ => XS.bipush X0.here hx rfl (hb hby d3_10) kk_) ?_
    show Goes p e below _ (s₁.setTop (mkF m 12 #[.val (.int m0)] [(.int (27 : Int32)), (.int m0)]))
    by_cases hc12 : (27 : Int32) < m0
    · skip
      refine Goes.via (fun _ kk_ => XS.icmpYes X0.here hx rfl (pc0 := 12) (pc' := 18) rfl (hb hby d3_12) rfl (tlt hc12).2.2.1 (by decide) (by decide) kk_) ?_
      show Goes p e below _ (s₁.setTop (mkF m 18 #[.val (.int m0)] []))
      refine Goes.via (fun _ kk_ => XS.iloadN X0.here hx rfl (hb hby d3_18) rfl  kk_) ?_
      show Goes p e below _ (s₁.setTop (mkF m 19 #[.val (.int m0)] [(.int m0)]))
      refine Goes.via (fun _ kk_ => XS.bipush X0.here hx rfl (hb hby d3_19) kk_) ?_
      show Goes p e below _ (s₁.setTop (mkF m 21 #[.val (.int m0)] [(.int (29 : Int32)), (.int m0)]))
      by_cases hc21 : (29 : Int32) < m0
      · skip
        refine Goes.via (fun _ kk_ => XS.icmpYes X0.here hx rfl (pc0 := 21) (pc' := 27) rfl (hb hby d3_21) rfl (tlt hc21).2.2.1 (by decide) (by decide) kk_) ?_
        show Goes p e below _ (s₁.setTop (mkF m 27 #[.val (.int m0)] []))
        refine Goes.via (fun _ kk_ => XS.iloadN X0.here hx rfl (hb hby d3_27) rfl  kk_) ?_
        show Goes p e below _ (s₁.setTop (mkF m 28 #[.val (.int m0)] [(.int m0)]))
        refine Goes.via (fun _ kk_ => XS.bipush X0.here hx rfl (hb hby d3_28) kk_) ?_
        show Goes p e below _ (s₁.setTop (mkF m 30 #[.val (.int m0)] [(.int (32 : Int32)), (.int m0)]))
        by_cases hc30 : (32 : Int32) < m0
        · skip
          refine Goes.via (fun _ kk_ => XS.icmpYes X0.here hx rfl (pc0 := 30) (pc' := 36) rfl (hb hby d3_30) rfl (tlt hc30).2.2.1 (by decide) (by decide) kk_) ?_
          show Goes p e below _ (s₁.setTop (mkF m 36 #[.val (.int m0)] []))
          refine Goes.via (fun _ kk_ => XS.iloadN X0.here hx rfl (hb hby d3_36) rfl  kk_) ?_
          show Goes p e below _ (s₁.setTop (mkF m 37 #[.val (.int m0)] [(.int m0)]))
          refine Goes.via (fun _ kk_ => XS.bipush X0.here hx rfl (hb hby d3_37) kk_) ?_
          show Goes p e below _ (s₁.setTop (mkF m 39 #[.val (.int m0)] [(.int (38 : Int32)), (.int m0)]))
          by_cases hc39 : (38 : Int32) < m0
          · skip
            refine Goes.via (fun _ kk_ => XS.icmpYes X0.here hx rfl (pc0 := 39) (pc' := 45) rfl (hb hby d3_39) rfl (tlt hc39).2.2.1 (by decide) (by decide) kk_) ?_
            show Goes p e below _ (s₁.setTop (mkF m 45 #[.val (.int m0)] []))
            refine Goes.via (fun _ kk_ => XS.iloadN X0.here hx rfl (hb hby d3_45) rfl  kk_) ?_
            show Goes p e below _ (s₁.setTop (mkF m 46 #[.val (.int m0)] [(.int m0)]))
            refine Goes.via (fun _ kk_ => XS.bipush X0.here hx rfl (hb hby d3_46) kk_) ?_
            show Goes p e below _ (s₁.setTop (mkF m 48 #[.val (.int m0)] [(.int (49 : Int32)), (.int m0)]))
            by_cases hc48 : (49 : Int32) < m0
            · skip
              refine Goes.via (fun _ kk_ => XS.icmpYes X0.here hx rfl (pc0 := 48) (pc' := 54) rfl (hb hby d3_48) rfl (tlt hc48).2.2.1 (by decide) (by decide) kk_) ?_
              show Goes p e below _ (s₁.setTop (mkF m 54 #[.val (.int m0)] []))
              refine Goes.via (fun _ kk_ => XS.bipush X0.here hx rfl (hb hby d3_54) kk_) ?_
              show Goes p e below _ (s₁.setTop (mkF m 56 #[.val (.int m0)] [(.int (6 : Int32))]))
              exact own_finI X0 hx hlk hret (hb hby d3_56) (by rw [e0]; exact ⟨(by rw [own_most, if_pos hc3, if_pos hc12, if_pos hc21, if_pos hc30, if_pos hc39, if_pos hc48]), N0, rfl⟩) (by first | decide | omega | (dsimp only; omega)) (by first | decide | omega | (dsimp only; omega))
            · skip
              refine Goes.via (fun _ kk_ => XS.icmpNo X0.here hx rfl (hb hby d3_48) rfl (flt hc48).2.2.1 kk_) ?_
              show Goes p e below _ (s₁.setTop (mkF m 51 #[.val (.int m0)] []))
              refine Goes.via (fun _ kk_ => XS.bipush X0.here hx rfl (hb hby d3_51) kk_) ?_
              show Goes p e below _ (s₁.setTop (mkF m 53 #[.val (.int m0)] [(.int (7 : Int32))]))
              exact own_finI X0 hx hlk hret (hb hby d3_53) (by rw [e0]; exact ⟨(by rw [own_most, if_pos hc3, if_pos hc12, if_pos hc21, if_pos hc30, if_pos hc39, if_neg hc48]), N0, rfl⟩) (by first | decide | omega | (dsimp only; omega)) (by first | decide | omega | (dsimp only; omega))
          · skip
            refine Goes.via (fun _ kk_ => XS.icmpNo X0.here hx rfl (hb hby d3_39) rfl (flt hc39).2.2.1 kk_) ?_
            show Goes p e below _ (s₁.setTop (mkF m 42 #[.val (.int m0)] []))
            refine Goes.via (fun _ kk_ => XS.bipush X0.here hx rfl (hb hby d3_42) kk_) ?_
            show Goes p e below _ (s₁.setTop (mkF m 44 #[.val (.int m0)] [(.int (8 : Int32))]))
            exact own_finI X0 hx hlk hret (hb hby d3_44) (by rw [e0]; exact ⟨(by rw [own_most, if_pos hc3, if_pos hc12, if_pos hc21, if_pos hc30, if_neg hc39]), N0, rfl⟩) (by first | decide | omega | (dsimp only; omega)) (by first | decide | omega | (dsimp only; omega))
        · skip
          refine Goes.via (fun _ kk_ => XS.icmpNo X0.here hx rfl (hb hby d3_30) rfl (flt hc30).2.2.1 kk_) ?_
          show Goes p e below _ (s₁.setTop (mkF m 33 #[.val (.int m0)] []))
          refine Goes.via (fun _ kk_ => XS.bipush X0.here hx rfl (hb hby d3_33) kk_) ?_
          show Goes p e below _ (s₁.setTop (mkF m 35 #[.val (.int m0)] [(.int (9 : Int32))]))
          exact own_finI X0 hx hlk hret (hb hby d3_35) (by rw [e0]; exact ⟨(by rw [own_most, if_pos hc3, if_pos hc12, if_pos hc21, if_neg hc30]), N0, rfl⟩) (by first | decide | omega | (dsimp only; omega)) (by first | decide | omega | (dsimp only; omega))
      · skip
        refine Goes.via (fun _ kk_ => XS.icmpNo X0.here hx rfl (hb hby d3_21) rfl (flt hc21).2.2.1 kk_) ?_
        show Goes p e below _ (s₁.setTop (mkF m 24 #[.val (.int m0)] []))
        refine Goes.via (fun _ kk_ => XS.bipush X0.here hx rfl (hb hby d3_24) kk_) ?_
        show Goes p e below _ (s₁.setTop (mkF m 26 #[.val (.int m0)] [(.int (10 : Int32))]))
        exact own_finI X0 hx hlk hret (hb hby d3_26) (by rw [e0]; exact ⟨(by rw [own_most, if_pos hc3, if_pos hc12, if_neg hc21]), N0, rfl⟩) (by first | decide | omega | (dsimp only; omega)) (by first | decide | omega | (dsimp only; omega))
    · skip
      refine Goes.via (fun _ kk_ => XS.icmpNo X0.here hx rfl (hb hby d3_12) rfl (flt hc12).2.2.1 kk_) ?_
      show Goes p e below _ (s₁.setTop (mkF m 15 #[.val (.int m0)] []))
      refine Goes.via (fun _ kk_ => XS.bipush X0.here hx rfl (hb hby d3_15) kk_) ?_
      show Goes p e below _ (s₁.setTop (mkF m 17 #[.val (.int m0)] [(.int (11 : Int32))]))
      exact own_finI X0 hx hlk hret (hb hby d3_17) (by rw [e0]; exact ⟨(by rw [own_most, if_pos hc3, if_neg hc12]), N0, rfl⟩) (by first | decide | omega | (dsimp only; omega)) (by first | decide | omega | (dsimp only; omega))
  · skip
    refine Goes.via (fun _ kk_ => XS.icmpNo X0.here hx rfl (hb hby d3_3) rfl (flt hc3).2.2.1 kk_) ?_
    show Goes p e below _ (s₁.setTop (mkF m 6 #[.val (.int m0)] []))
    refine Goes.via (fun _ kk_ => XS.bipush X0.here hx rfl (hb hby d3_6) kk_) ?_
    show Goes p e below _ (s₁.setTop (mkF m 8 #[.val (.int m0)] [(.int (13 : Int32))]))
    exact own_finI X0 hx hlk hret (hb hby d3_8) (by rw [e0]; exact ⟨(by rw [own_most, if_neg hc3]), N0, rfl⟩) (by first | decide | omega | (dsimp only; omega)) (by first | decide | omega | (dsimp only; omega))
theorem ef_rm2 (m : MethodId) (u : Int64) (k : Int32) : entryFrame m #[(.long u), (.int k)] 3 = mkF m 0 #[.val (.long u), .second, .val (.int k)] [] := by first | (simp [entryFrame, mkF, argsToLocals, Value.category]; done) | rfl
def Qrm2 (Z : State) (u : Int64) (k : Int32) (h0 : Heap) (n0 : Nat) (v_ : Option Value) (h_ : Heap) (L_ : List Loc) : Prop := v_ = some (.int (own_exp u k)) ∧ Fr n0 L_ ∧ h_ = h0
theorem d2_0 : decode method_3_code 0 = .ok (.lload_n 0, 1) := by decide +kernel
theorem d2_1 : decode method_3_code 1 = .ok (.ldc2_w 28, 3) := by decide +kernel
theorem d2_4 : decode method_3_code 4 = .ok (.lcmp, 1) := by decide +kernel
theorem d2_5 : decode method_3_code 5 = .ok (.ifCond .le 5, 3) := by decide +kernel
theorem d2_8 : decode method_3_code 8 = .ok (.iconst 0, 1) := by decide +kernel
theorem d2_9 : decode method_3_code 9 = .ok (.ireturn, 1) := by decide +kernel
theorem d2_10 : decode method_3_code 10 = .ok (.lload_n 0, 1) := by decide +kernel
theorem d2_11 : decode method_3_code 11 = .ok (.ldc2_w 11, 3) := by decide +kernel
theorem d2_14 : decode method_3_code 14 = .ok (.lcmp, 1) := by decide +kernel
theorem d2_15 : decode method_3_code 15 = .ok (.ifCond .gt 5, 3) := by decide +kernel
theorem d2_20 : decode method_3_code 20 = .ok (.iload_n 2, 1) := by decide +kernel
theorem d2_21 : decode method_3_code 21 = .ok (.lload_n 0, 1) := by decide +kernel
theorem d2_22 : decode method_3_code 22 = .ok (.l2i, 1) := by decide +kernel
theorem pd_0 : parseMethodDescriptor "(I)I" = some ⟨[.int], some .int⟩ := by decide +kernel
theorem d2_23 : decode method_3_code 23 = .ok (.invokestatic 30, 3) := by decide +kernel
theorem d2_26 : decode method_3_code 26 = .ok (.if_icmp .gt 7, 3) := by decide +kernel
theorem d2_33 : decode method_3_code 33 = .ok (.iconst 0, 1) := by decide +kernel
theorem d2_34 : decode method_3_code 34 = .ok (.ireturn, 1) := by decide +kernel
theorem d2_29 : decode method_3_code 29 = .ok (.iconst 1, 1) := by decide +kernel
theorem d2_30 : decode method_3_code 30 = .ok (.goto 4, 3) := by decide +kernel
theorem d2_18 : decode method_3_code 18 = .ok (.iconst 1, 1) := by decide +kernel
theorem d2_19 : decode method_3_code 19 = .ok (.ireturn, 1) := by decide +kernel
set_option maxRecDepth 65536 in
set_option maxHeartbeats 40000000 in
theorem rm2 (l : Launch) (Z : State) (a0 : Array Value) (hw : ∀ d ∈ tables_1, d.before a0 Z = true) (ws : List Jvm.Cond) (u : Int64) (k : Int32) (h0 : Heap) (n0 : Nat) (Z0 : n0 ≤ h0.size) :
    MetFree l (⟨"com/example/checks_on_duty/checksonduty/engine/CoveringSearchDecidesPinLaw", "expected", "(JI)Z"⟩ : MethodName) (head1 (Jvm.Cond.code (⟨"com/example/checks_on_duty/checksonduty/engine/CoveringSearchDecidesPinLaw", "expected", "(JI)Z"⟩ : MethodName) method_3_code 3 (some .boolean) :: ws) ({ frames := 1, cells := 0, slots := 0, locals := 13 } : Room)) (fun as_ U_ => as_ = #[(.long u), (.int k)] ∧ Z.Warmed39 U_.vm ∧ U_.heap = h0) (fun _ _ _ _ _ => True) (fun _ U_ o_ V_ => ∃ v_ L_, o_ = .returned v_ ∧ Qrm2 Z u k h0 n0 v_ V_.heap L_ ∧ FrameEnd U_ o_ V_ L_ ({ frames := 1, cells := 0, slots := 0, locals := 13 } : Room).cells ({ frames := 1, cells := 0, slots := 0, locals := 13 } : Room).slots) := by
  refine MetFree.of_bodySF (plainFor_of_name pn_com_example_checks_on_duty_checksonduty_engine_CoveringSearchDecidesPinLaw) hisR ?_
  intro p e s m args below meth c s₁ Bd hml0 hP hK
  obtain ⟨rfl, hZ, hh⟩ := hP
  have hx := Bd.exec
  have hby := Bd.bytes
  have hlk : meth.locks = false := BodyLoose.notSynchronized Bd
  have hret := Bd.returns
  have hml : c.maxLocals = 3 := hml0
  have hown : s.vm.findClass "com/example/checks_on_duty/checksonduty/engine/CoveringSearchDecidesPinLaw" = some m.cls := findClass_of_methodNamed Bd.named
  have hnm := (name_of_methodNamed Bd.named Bd.method).1
  have X0 : Stand p l e ({ frames := 1, cells := 0, slots := 0, locals := 13 } : Room) s m #[(.long u), (.int k)] below meth c s₁ [] 0 0 := Stand.of_body Bd
  have e0 : s₁.heap = h0 := by rw [← hh, Bd.state]; rfl
  have N0 := Fr.nil n0
  show Goes p e below (Fin_ s (Qrm2 Z u k h0 n0) ({ frames := 1, cells := 0, slots := 0, locals := 13 } : Room).cells ({ frames := 1, cells := 0, slots := 0, locals := 13 } : Room).slots) (s₁.setTop (entryFrame m #[(.long u), (.int k)] 3))
  rw [ef_rm2 m u k]
  refine Goes.via (fun _ kk_ => XS.lloadN X0.here hx rfl (hb hby d2_0) rfl  kk_) ?_
  show Goes p e below _ (s₁.setTop (mkF m 1 #[.val (.long u), .second, .val (.int k)] [(.long u)]))
  refine Goes.via (X0.ldc2Long hx hown (mvT hZ (hw _ (List.mem_of_getElem? (i := 12) rfl))) (g := (mkF m 1 #[.val (.long u), .second, .val (.int k)] [(.long u)])) rfl (hb hby d2_1)) ?_
  show Goes p e below _ (s₁.setTop (mkF m 4 #[.val (.long u), .second, .val (.int k)] [(.long (64 : Int64)), (.long u)]))
  refine Goes.via (fun _ kk_ => XS.lcmp X0.here hx rfl (hb hby d2_4) rfl kk_) ?_
  show Goes p e below _ (s₁.setTop (mkF m 5 #[.val (.long u), .second, .val (.int k)] [(.int (lcmpW u (64 : Int64)))]))
  by_cases hc5 : (64 : Int64) < u
  · skip
    refine Goes.via (fun _ kk_ => XS.ifNo X0.here hx rfl (hb hby d2_5) rfl ((if0 _ _).trans (tlt ((lw_gt u (64 : Int64)).mpr hc5)).2.2.2) kk_) ?_
    show Goes p e below _ (s₁.setTop (mkF m 8 #[.val (.long u), .second, .val (.int k)] []))
    refine Goes.via (fun _ kk_ => XS.iconst X0.here hx rfl (hb hby d2_8) kk_) ?_
    show Goes p e below _ (s₁.setTop (mkF m 9 #[.val (.long u), .second, .val (.int k)] [(.int (0 : Int32))]))
    exact own_finN X0 hx hlk hret (by simp) (hb hby d2_9) (by rw [e0]; exact ⟨(by rw [own_exp, if_pos hc5]; rfl), N0, rfl⟩) (by first | decide | omega | (dsimp only; omega)) (by first | decide | omega | (dsimp only; omega))
  · skip
    refine Goes.via (fun _ kk_ => XS.ifYes X0.here hx rfl (pc0 := 5) (pc' := 10) rfl (hb hby d2_5) rfl ((if0 _ _).trans (flt (fun q => hc5 ((lw_gt u (64 : Int64)).mp q))).2.2.2) (by decide) (by decide) kk_) ?_
    show Goes p e below _ (s₁.setTop (mkF m 10 #[.val (.long u), .second, .val (.int k)] []))
    refine Goes.via (fun _ kk_ => XS.lloadN X0.here hx rfl (hb hby d2_10) rfl  kk_) ?_
    show Goes p e below _ (s₁.setTop (mkF m 11 #[.val (.long u), .second, .val (.int k)] [(.long u)]))
    refine Goes.via (X0.ldc2Long hx hown (mvT hZ (hw _ (List.mem_of_getElem? (i := 13) rfl))) (g := (mkF m 11 #[.val (.long u), .second, .val (.int k)] [(.long u)])) rfl (hb hby d2_11)) ?_
    show Goes p e below _ (s₁.setTop (mkF m 14 #[.val (.long u), .second, .val (.int k)] [(.long (24 : Int64)), (.long u)]))
    refine Goes.via (fun _ kk_ => XS.lcmp X0.here hx rfl (hb hby d2_14) rfl kk_) ?_
    show Goes p e below _ (s₁.setTop (mkF m 15 #[.val (.long u), .second, .val (.int k)] [(.int (lcmpW u (24 : Int64)))]))
    by_cases hc15 : (24 : Int64) < u
    · skip
      refine Goes.via (fun _ kk_ => XS.ifYes X0.here hx rfl (pc0 := 15) (pc' := 20) rfl (hb hby d2_15) rfl ((if0 _ _).trans (tlt ((lw_gt u (24 : Int64)).mpr hc15)).2.2.1) (by decide) (by decide) kk_) ?_
      show Goes p e below _ (s₁.setTop (mkF m 20 #[.val (.long u), .second, .val (.int k)] []))
      refine Goes.via (fun _ kk_ => XS.iloadN X0.here hx rfl (hb hby d2_20) rfl  kk_) ?_
      show Goes p e below _ (s₁.setTop (mkF m 21 #[.val (.long u), .second, .val (.int k)] [(.int k)]))
      refine Goes.via (fun _ kk_ => XS.lloadN X0.here hx rfl (hb hby d2_21) rfl  kk_) ?_
      show Goes p e below _ (s₁.setTop (mkF m 22 #[.val (.long u), .second, .val (.int k)] [(.long u), (.int k)]))
      refine Goes.via (fun _ kk_ => XS.l2i X0.here hx rfl (hb hby d2_22) rfl kk_) ?_
      show Goes p e below _ (s₁.setTop (mkF m 23 #[.val (.long u), .second, .val (.int k)] [(.int (u.toInt32)), (.int k)]))
      obtain ⟨_, _, ⟨T1, L1, k1, n1⟩, -, X1, ⟨Lc1, hQ1, l1, y1, z1⟩, st1⟩ := Jvm.LawKit.callS X0 hx (y := (⟨"com/example/checks_on_duty/checksonduty/engine/CoveringSearchDecidesPinLaw", "most", "(I)I"⟩ : MethodName)) hown (mvT hZ (hw _ (List.mem_of_getElem? (i := 16) rfl))) (mvT hZ (hw _ (List.mem_of_getElem? (i := 17) rfl))) (mvT hZ (hw _ (List.mem_of_getElem? (i := 10) rfl))) (mvT hZ (hw _ (List.mem_of_getElem? (i := 18) rfl))) (by decide) (backOf (W := 1) (rm3 l Z a0 hw [] (u.toInt32) h0 n0 (Nat.le_trans Z0 (Nat.le_refl _)) ) hZ (hw _ (List.mem_of_getElem? (i := 18) rfl)) (hw _ (List.mem_of_getElem? (i := 10) rfl)) (by decide) (by decide)) (g := (mkF m 23 #[.val (.long u), .second, .val (.int k)] [(.int (u.toInt32)), (.int k)])) rfl (by rw [hml]; rfl) (argsL := [(.int (u.toInt32))]) (rest := [(.int k)]) (lenOf pd_0 rfl) rfl (by show 2 * 0 + _ ≤ _; exact Nat.le_of_eq rfl) (hb hby d2_23) (fun _ _ => ⟨rfl, e0, (by first | decide | omega | (dsimp only; omega) : 0 + 0 ≤ _), (by first | decide | omega | (dsimp only; omega) : 0 + 0 ≤ _)⟩)
      dsimp only [Pt.U, Pt.locs, Pt.cells, Pt.slots] at X1 l1 y1 z1 st1 hQ1
      subst l1 y1 z1
      obtain ⟨rfl, N1q, e1⟩ := hQ1
      have N1 := Fr.app N0 N1q
      refine Goes.via st1 ?_
      have e1' : T1.heap = h0 := e1
      show Goes p e below _ (T1.setTop (mkF m 26 #[.val (.long u), .second, .val (.int k)] [(.int (own_most (u.toInt32))), (.int k)]))
      by_cases hc26 : (own_most (u.toInt32)) < k
      · skip
        refine Goes.via (fun _ kk_ => XS.icmpYes X1.here hx rfl (pc0 := 26) (pc' := 33) rfl (hb hby d2_26) rfl (tlt hc26).2.2.1 (by decide) (by decide) kk_) ?_
        show Goes p e below _ (T1.setTop (mkF m 33 #[.val (.long u), .second, .val (.int k)] []))
        refine Goes.via (fun _ kk_ => XS.iconst X1.here hx rfl (hb hby d2_33) kk_) ?_
        show Goes p e below _ (T1.setTop (mkF m 34 #[.val (.long u), .second, .val (.int k)] [(.int (0 : Int32))]))
        exact own_finN X1 hx hlk hret (by simp) (hb hby d2_34) (by rw [e1']; exact ⟨(by rw [own_exp, if_neg hc5, if_pos hc15, if_pos hc26]; rfl), N1, rfl⟩) (by first | decide | omega | (dsimp only; omega)) (by first | decide | omega | (dsimp only; omega))
      · skip
        refine Goes.via (fun _ kk_ => XS.icmpNo X1.here hx rfl (hb hby d2_26) rfl (flt hc26).2.2.1 kk_) ?_
        show Goes p e below _ (T1.setTop (mkF m 29 #[.val (.long u), .second, .val (.int k)] []))
        refine Goes.via (fun _ kk_ => XS.iconst X1.here hx rfl (hb hby d2_29) kk_) ?_
        show Goes p e below _ (T1.setTop (mkF m 30 #[.val (.long u), .second, .val (.int k)] [(.int (1 : Int32))]))
        refine Goes.via (fun _ kk_ => XS.goto X1.here hx rfl (pc0 := 30) (pc' := 34) rfl (hb hby d2_30) (by decide) (by decide) kk_) ?_
        show Goes p e below _ (T1.setTop (mkF m 34 #[.val (.long u), .second, .val (.int k)] [(.int (1 : Int32))]))
        exact own_finN X1 hx hlk hret (by simp) (hb hby d2_34) (by rw [e1']; exact ⟨(by rw [own_exp, if_neg hc5, if_pos hc15, if_neg hc26]; rfl), N1, rfl⟩) (by first | decide | omega | (dsimp only; omega)) (by first | decide | omega | (dsimp only; omega))
    · skip
      refine Goes.via (fun _ kk_ => XS.ifNo X0.here hx rfl (hb hby d2_15) rfl ((if0 _ _).trans (flt (fun q => hc15 ((lw_gt u (24 : Int64)).mp q))).2.2.1) kk_) ?_
      show Goes p e below _ (s₁.setTop (mkF m 18 #[.val (.long u), .second, .val (.int k)] []))
      refine Goes.via (fun _ kk_ => XS.iconst X0.here hx rfl (hb hby d2_18) kk_) ?_
      show Goes p e below _ (s₁.setTop (mkF m 19 #[.val (.long u), .second, .val (.int k)] [(.int (1 : Int32))]))
      exact own_finN X0 hx hlk hret (by simp) (hb hby d2_19) (by rw [e0]; exact ⟨(by rw [own_exp, if_neg hc5, if_neg hc15]; rfl), N0, rfl⟩) (by first | decide | omega | (dsimp only; omega)) (by first | decide | omega | (dsimp only; omega))
theorem ef_rm0 (m : MethodId) (q1 : Int64) (p2 : Int32) (p3 : Int32) : entryFrame m #[(.long q1), (.int p2), (.int p3)] maxLocals = mkF m 0 #[.val (.long q1), .second, .val (.int p2), .val (.int p3), .unset, .unset, .unset, .unset] [] := by first | (simp [entryFrame, mkF, argsToLocals, Value.category, maxLocals]; done) | rfl
def Qrm0 (Z : State) (q1 : Int64) (p2 : Int32) (p3 : Int32) (h0 : Heap) (n0 : Nat) (v_ : Option Value) (h_ : Heap) (L_ : List Loc) : Prop := v_ = some (.int (1 : Int32)) ∧ Fr n0 L_ ∧ Keep h0 h_ []
theorem pd_1 : parseMethodDescriptor "(JI)Z" = some ⟨[.long, .int], some .boolean⟩ := by decide +kernel
set_option maxRecDepth 65536 in
set_option maxHeartbeats 40000000 in
theorem rm0 (l : Launch) (Z : State) (a0 : Array Value) (hw : ∀ d ∈ tables_1, d.before a0 Z = true) (ws : List Jvm.Cond) (q1 : Int64) (p2 : Int32) (p3 : Int32) (h0 : Heap) (n0 : Nat) (Z0 : n0 ≤ h0.size) :
    MetFree l x (head1 (Jvm.Cond.code x code maxLocals ret :: ws) room_1) (fun as_ U_ => as_ = #[(.long q1), (.int p2), (.int p3)] ∧ Z.Warmed39 U_.vm ∧ U_.heap = h0) (fun _ _ _ _ _ => True) (fun _ U_ o_ V_ => ∃ v_ L_, o_ = .returned v_ ∧ Qrm0 Z q1 p2 p3 h0 n0 v_ V_.heap L_ ∧ FrameEnd U_ o_ V_ L_ room_1.cells room_1.slots) := by
  refine MetFree.of_bodySF (plainFor_of_name pn_com_example_checks_on_duty_checksonduty_engine_CoveringSearchDecidesPinLaw) hisR ?_
  intro p e s m args below meth c s₁ Bd hml0 hP hK
  obtain ⟨rfl, hZ, hh⟩ := hP
  have hx := Bd.exec
  have hby := Bd.bytes
  have hlk : meth.locks = false := BodyLoose.notSynchronized Bd
  have hret := Bd.returns
  have hml : c.maxLocals = 8 := hml0
  have hown : s.vm.findClass "com/example/checks_on_duty/checksonduty/engine/CoveringSearchDecidesPinLaw" = some m.cls := findClass_of_methodNamed Bd.named
  have hnm := (name_of_methodNamed Bd.named Bd.method).1
  have X0 : Stand p l e room_1 s m #[(.long q1), (.int p2), (.int p3)] below meth c s₁ [] 0 0 := Stand.of_body Bd
  have e0 : s₁.heap = h0 := by rw [← hh, Bd.state]; rfl
  have N0 := Fr.nil n0
  show Goes p e below (Fin_ s (Qrm0 Z q1 p2 p3 h0 n0) room_1.cells room_1.slots) (s₁.setTop (entryFrame m #[(.long q1), (.int p2), (.int p3)] maxLocals))
  rw [ef_rm0 m q1 p2 p3]
  refine Goes.via (fun _ kk_ => XS.iloadN X0.here hx rfl (hb hby at_0) rfl  kk_) ?_
  show Goes p e below _ (s₁.setTop (mkF m 1 #[.val (.long q1), .second, .val (.int p2), .val (.int p3), .unset, .unset, .unset, .unset] [(.int p3)]))
  refine Goes.via (fun _ kk_ => XS.iconst X0.here hx rfl (hb hby at_1) kk_) ?_
  show Goes p e below _ (s₁.setTop (mkF m 2 #[.val (.long q1), .second, .val (.int p2), .val (.int p3), .unset, .unset, .unset, .unset] [(.int (3 : Int32)), (.int p3)]))
  refine Goes.via (fun _ kk_ => XS.iand X0.here hx rfl (hb hby at_2) rfl kk_) ?_
  show Goes p e below _ (s₁.setTop (mkF m 3 #[.val (.long q1), .second, .val (.int p2), .val (.int p3), .unset, .unset, .unset, .unset] [(.int (p3 &&& (3 : Int32)))]))
  refine Goes.via (fun _ kk_ => XS.istore X0.here hx rfl (hb hby at_3) rfl (l' := #[.val (.long q1), .second, .val (.int p2), .val (.int p3), .unset, .unset, .val (.int (p3 &&& (3 : Int32))), .unset]) rfl kk_) ?_
  show Goes p e below _ (s₁.setTop (mkF m 5 #[.val (.long q1), .second, .val (.int p2), .val (.int p3), .unset, .unset, .val (.int (p3 &&& (3 : Int32))), .unset] []))
  generalize hv_v6_1 : (p3 &&& (3 : Int32)) = v6_1
  show Goes p e below _ (s₁.setTop (mkF m 5 #[.val (.long q1), .second, .val (.int p2), .val (.int p3), .unset, .unset, .val (.int v6_1), .unset] []))
  refine Goes.via (fun _ kk_ => XS.iload X0.here hx rfl (hb hby at_5) rfl  kk_) ?_
  show Goes p e below _ (s₁.setTop (mkF m 7 #[.val (.long q1), .second, .val (.int p2), .val (.int p3), .unset, .unset, .val (.int v6_1), .unset] [(.int v6_1)]))
  by_cases hc7 : v6_1 = (0 : Int32)
  · skip
    refine Goes.via (fun _ kk_ => XS.ifNo X0.here hx rfl (hb hby at_7) rfl ((if0 _ _).trans (teq hc7).2) kk_) ?_
    show Goes p e below _ (s₁.setTop (mkF m 10 #[.val (.long q1), .second, .val (.int p2), .val (.int p3), .unset, .unset, .val (.int v6_1), .unset] []))
    refine Goes.via (fun _ kk_ => XS.lloadN X0.here hx rfl (hb hby at_10) rfl  kk_) ?_
    show Goes p e below _ (s₁.setTop (mkF m 11 #[.val (.long q1), .second, .val (.int p2), .val (.int p3), .unset, .unset, .val (.int v6_1), .unset] [(.long q1)]))
    refine Goes.via (fun _ kk_ => XS.lstore X0.here hx rfl (hb hby at_11) rfl (l' := #[.val (.long q1), .second, .val (.int p2), .val (.int p3), .val (.long q1), .second, .val (.int v6_1), .unset]) rfl kk_) ?_
    show Goes p e below _ (s₁.setTop (mkF m 13 #[.val (.long q1), .second, .val (.int p2), .val (.int p3), .val (.long q1), .second, .val (.int v6_1), .unset] []))
    refine Goes.via (fun _ kk_ => XS.goto X0.here hx rfl (pc0 := 13) (pc' := 51) rfl (hb hby at_13) (by decide) (by decide) kk_) ?_
    show Goes p e below _ (s₁.setTop (mkF m 51 #[.val (.long q1), .second, .val (.int p2), .val (.int p3), .val (.long q1), .second, .val (.int v6_1), .unset] []))
    refine Goes.via (fun _ kk_ => XS.iloadN X0.here hx rfl (hb hby at_51) rfl  kk_) ?_
    show Goes p e below _ (s₁.setTop (mkF m 52 #[.val (.long q1), .second, .val (.int p2), .val (.int p3), .val (.long q1), .second, .val (.int v6_1), .unset] [(.int p3)]))
    refine Goes.via (fun _ kk_ => XS.iconst X0.here hx rfl (hb hby at_52) kk_) ?_
    show Goes p e below _ (s₁.setTop (mkF m 53 #[.val (.long q1), .second, .val (.int p2), .val (.int p3), .val (.long q1), .second, .val (.int v6_1), .unset] [(.int (4 : Int32)), (.int p3)]))
    refine Goes.via (fun _ kk_ => XS.iand X0.here hx rfl (hb hby at_53) rfl kk_) ?_
    show Goes p e below _ (s₁.setTop (mkF m 54 #[.val (.long q1), .second, .val (.int p2), .val (.int p3), .val (.long q1), .second, .val (.int v6_1), .unset] [(.int (p3 &&& (4 : Int32)))]))
    obtain ⟨jj2, hv_jj2⟩ : ∃ z : Int32, z = (if (p3 &&& (4 : Int32)) = (0 : Int32) then (p2 &&& (15 : Int32)) else p2) := ⟨_, rfl⟩
    suffices J : Goes p e below (Fin_ s (Qrm0 Z q1 p2 p3 h0 n0) room_1.cells room_1.slots) (s₁.setTop (mkF m 65 #[.val (.long q1), .second, .val (.int p2), .val (.int p3), .val (.long q1), .second, .val (.int v6_1), .unset] [(.int jj2)])) by
      by_cases hc54 : (p3 &&& (4 : Int32)) = (0 : Int32)
      · skip
        rw [show jj2 = (p2 &&& (15 : Int32)) from hv_jj2.trans (if_pos hc54)] at J
        refine Goes.via (fun _ kk_ => XS.ifYes X0.here hx rfl (pc0 := 54) (pc' := 61) rfl (hb hby at_54) rfl ((if0 _ _).trans (teq hc54).1) (by decide) (by decide) kk_) ?_
        show Goes p e below _ (s₁.setTop (mkF m 61 #[.val (.long q1), .second, .val (.int p2), .val (.int p3), .val (.long q1), .second, .val (.int v6_1), .unset] []))
        refine Goes.via (fun _ kk_ => XS.iloadN X0.here hx rfl (hb hby at_61) rfl  kk_) ?_
        show Goes p e below _ (s₁.setTop (mkF m 62 #[.val (.long q1), .second, .val (.int p2), .val (.int p3), .val (.long q1), .second, .val (.int v6_1), .unset] [(.int p2)]))
        refine Goes.via (fun _ kk_ => XS.bipush X0.here hx rfl (hb hby at_62) kk_) ?_
        show Goes p e below _ (s₁.setTop (mkF m 64 #[.val (.long q1), .second, .val (.int p2), .val (.int p3), .val (.long q1), .second, .val (.int v6_1), .unset] [(.int (15 : Int32)), (.int p2)]))
        refine Goes.via (fun _ kk_ => XS.iand X0.here hx rfl (hb hby at_64) rfl kk_) ?_
        show Goes p e below _ (s₁.setTop (mkF m 65 #[.val (.long q1), .second, .val (.int p2), .val (.int p3), .val (.long q1), .second, .val (.int v6_1), .unset] [(.int (p2 &&& (15 : Int32)))]))
        exact J
      · skip
        rw [show jj2 = p2 from hv_jj2.trans (if_neg hc54)] at J
        refine Goes.via (fun _ kk_ => XS.ifNo X0.here hx rfl (hb hby at_54) rfl ((if0 _ _).trans (feq hc54).1) kk_) ?_
        show Goes p e below _ (s₁.setTop (mkF m 57 #[.val (.long q1), .second, .val (.int p2), .val (.int p3), .val (.long q1), .second, .val (.int v6_1), .unset] []))
        refine Goes.via (fun _ kk_ => XS.iloadN X0.here hx rfl (hb hby at_57) rfl  kk_) ?_
        show Goes p e below _ (s₁.setTop (mkF m 58 #[.val (.long q1), .second, .val (.int p2), .val (.int p3), .val (.long q1), .second, .val (.int v6_1), .unset] [(.int p2)]))
        refine Goes.via (fun _ kk_ => XS.goto X0.here hx rfl (pc0 := 58) (pc' := 65) rfl (hb hby at_58) (by decide) (by decide) kk_) ?_
        show Goes p e below _ (s₁.setTop (mkF m 65 #[.val (.long q1), .second, .val (.int p2), .val (.int p3), .val (.long q1), .second, .val (.int v6_1), .unset] [(.int p2)]))
        exact J
    subst hv_jj2
    show Goes p e below _ (s₁.setTop (mkF m 65 #[.val (.long q1), .second, .val (.int p2), .val (.int p3), .val (.long q1), .second, .val (.int v6_1), .unset] [(.int (if (p3 &&& (4 : Int32)) = (0 : Int32) then (p2 &&& (15 : Int32)) else p2))]))
    refine Goes.via (fun _ kk_ => XS.istore X0.here hx rfl (hb hby at_65) rfl (l' := #[.val (.long q1), .second, .val (.int p2), .val (.int p3), .val (.long q1), .second, .val (.int v6_1), .val (.int (if (p3 &&& (4 : Int32)) = (0 : Int32) then (p2 &&& (15 : Int32)) else p2))]) rfl kk_) ?_
    show Goes p e below _ (s₁.setTop (mkF m 67 #[.val (.long q1), .second, .val (.int p2), .val (.int p3), .val (.long q1), .second, .val (.int v6_1), .val (.int (if (p3 &&& (4 : Int32)) = (0 : Int32) then (p2 &&& (15 : Int32)) else p2))] []))
    generalize hv_v7_3 : (if (p3 &&& (4 : Int32)) = (0 : Int32) then (p2 &&& (15 : Int32)) else p2) = v7_3
    show Goes p e below _ (s₁.setTop (mkF m 67 #[.val (.long q1), .second, .val (.int p2), .val (.int p3), .val (.long q1), .second, .val (.int v6_1), .val (.int v7_3)] []))
    refine Goes.via (fun _ kk_ => XS.lload X0.here hx rfl (hb hby at_67) rfl  kk_) ?_
    show Goes p e below _ (s₁.setTop (mkF m 69 #[.val (.long q1), .second, .val (.int p2), .val (.int p3), .val (.long q1), .second, .val (.int v6_1), .val (.int v7_3)] [(.long q1)]))
    refine Goes.via (fun _ kk_ => XS.iload X0.here hx rfl (hb hby at_69) rfl  kk_) ?_
    show Goes p e below _ (s₁.setTop (mkF m 71 #[.val (.long q1), .second, .val (.int p2), .val (.int p3), .val (.long q1), .second, .val (.int v6_1), .val (.int v7_3)] [(.int v7_3), (.long q1)]))
    obtain ⟨_, _, ⟨T4, L4, k4, n4⟩, -, X4, ⟨Lc4, hQ4, l4, y4, z4⟩, st4⟩ := Jvm.LawKit.callS X0 hx (y := (⟨"com/example/checks_on_duty/checksonduty/engine/CoveringSearch", "decides", "(JI)Z"⟩ : MethodName)) hown (mvT hZ (hw _ (List.mem_of_getElem? (i := 2) rfl))) (mvT hZ (hw _ (List.mem_of_getElem? (i := 3) rfl))) (mvT hZ (hw _ (List.mem_of_getElem? (i := 4) rfl))) (mvT hZ (hw _ (List.mem_of_getElem? (i := 5) rfl))) (by decide) (backOf (W := 0) (rm1 l Z a0 hw [] q1 v7_3 (own_exp q1 v7_3) h0 n0 (Nat.le_trans Z0 (Nat.le_refl _)) (own_decides _ _)) hZ (hw _ (List.mem_of_getElem? (i := 5) rfl)) (hw _ (List.mem_of_getElem? (i := 4) rfl)) (by decide) (by decide)) (g := (mkF m 71 #[.val (.long q1), .second, .val (.int p2), .val (.int p3), .val (.long q1), .second, .val (.int v6_1), .val (.int v7_3)] [(.int v7_3), (.long q1)])) rfl (by rw [hml]; rfl) (argsL := [(.long q1), (.int v7_3)]) (rest := []) (lenOf pd_1 rfl) rfl (by show 2 * 0 + _ ≤ _; exact Nat.le_of_eq rfl) (hb hby at_71) (fun _ _ => ⟨rfl, e0, (by first | decide | omega | (dsimp only; omega) : 0 + 0 ≤ _), (by first | decide | omega | (dsimp only; omega) : 0 + 0 ≤ _)⟩)
    dsimp only [Pt.U, Pt.locs, Pt.cells, Pt.slots] at X4 l4 y4 z4 st4 hQ4
    subst l4 y4 z4
    obtain ⟨rfl, N4q, e4⟩ := hQ4
    have N4 := Fr.app N0 N4q
    refine Goes.via st4 ?_
    have e4' : T4.heap = h0 := e4
    show Goes p e below _ (T4.setTop (mkF m 74 #[.val (.long q1), .second, .val (.int p2), .val (.int p3), .val (.long q1), .second, .val (.int v6_1), .val (.int v7_3)] [(.int (own_exp q1 v7_3))]))
    refine Goes.via (fun _ kk_ => XS.lload X4.here hx rfl (hb hby at_74) rfl  kk_) ?_
    show Goes p e below _ (T4.setTop (mkF m 76 #[.val (.long q1), .second, .val (.int p2), .val (.int p3), .val (.long q1), .second, .val (.int v6_1), .val (.int v7_3)] [(.long q1), (.int (own_exp q1 v7_3))]))
    refine Goes.via (fun _ kk_ => XS.iload X4.here hx rfl (hb hby at_76) rfl  kk_) ?_
    show Goes p e below _ (T4.setTop (mkF m 78 #[.val (.long q1), .second, .val (.int p2), .val (.int p3), .val (.long q1), .second, .val (.int v6_1), .val (.int v7_3)] [(.int v7_3), (.long q1), (.int (own_exp q1 v7_3))]))
    obtain ⟨_, _, ⟨T5, L5, k5, n5⟩, -, X5, ⟨Lc5, hQ5, l5, y5, z5⟩, st5⟩ := Jvm.LawKit.callS X4 hx (y := (⟨"com/example/checks_on_duty/checksonduty/engine/CoveringSearchDecidesPinLaw", "expected", "(JI)Z"⟩ : MethodName)) hown (mvT hZ (hw _ (List.mem_of_getElem? (i := 8) rfl))) (mvT hZ (hw _ (List.mem_of_getElem? (i := 9) rfl))) (mvT hZ (hw _ (List.mem_of_getElem? (i := 10) rfl))) (mvT hZ (hw _ (List.mem_of_getElem? (i := 11) rfl))) (by decide) (backOf (W := 1) (rm2 l Z a0 hw [] q1 v7_3 h0 n0 (Nat.le_trans Z0 (Nat.le_refl _)) ) hZ (hw _ (List.mem_of_getElem? (i := 11) rfl)) (hw _ (List.mem_of_getElem? (i := 10) rfl)) (by decide) (by decide)) (g := (mkF m 78 #[.val (.long q1), .second, .val (.int p2), .val (.int p3), .val (.long q1), .second, .val (.int v6_1), .val (.int v7_3)] [(.int v7_3), (.long q1), (.int (own_exp q1 v7_3))])) rfl (by rw [hml]; rfl) (argsL := [(.long q1), (.int v7_3)]) (rest := [(.int (own_exp q1 v7_3))]) (lenOf pd_1 rfl) rfl (by show 2 * 0 + _ ≤ _; exact Nat.le_of_eq rfl) (hb hby at_78) (fun _ _ => ⟨rfl, e4', (by first | decide | omega | (dsimp only; omega) : 0 + 0 ≤ _), (by first | decide | omega | (dsimp only; omega) : 0 + 0 ≤ _)⟩)
    dsimp only [Pt.U, Pt.locs, Pt.cells, Pt.slots] at X5 l5 y5 z5 st5 hQ5
    subst l5 y5 z5
    obtain ⟨rfl, N5q, e5⟩ := hQ5
    have N5 := Fr.app N4 N5q
    refine Goes.via st5 ?_
    have e5' : T5.heap = h0 := e5
    show Goes p e below _ (T5.setTop (mkF m 81 #[.val (.long q1), .second, .val (.int p2), .val (.int p3), .val (.long q1), .second, .val (.int v6_1), .val (.int v7_3)] [(.int (own_exp q1 v7_3)), (.int (own_exp q1 v7_3))]))
    have hc81_6 : (own_exp q1 v7_3) = (own_exp q1 v7_3) := rfl
    refine Goes.via (fun _ kk_ => XS.icmpNo X5.here hx rfl (hb hby at_81) rfl (teq hc81_6).2 kk_) ?_
    show Goes p e below _ (T5.setTop (mkF m 84 #[.val (.long q1), .second, .val (.int p2), .val (.int p3), .val (.long q1), .second, .val (.int v6_1), .val (.int v7_3)] []))
    refine Goes.via (fun _ kk_ => XS.iconst X5.here hx rfl (hb hby at_84) kk_) ?_
    show Goes p e below _ (T5.setTop (mkF m 85 #[.val (.long q1), .second, .val (.int p2), .val (.int p3), .val (.long q1), .second, .val (.int v6_1), .val (.int v7_3)] [(.int (1 : Int32))]))
    refine Goes.via (fun _ kk_ => XS.goto X5.here hx rfl (pc0 := 85) (pc' := 89) rfl (hb hby at_85) (by decide) (by decide) kk_) ?_
    show Goes p e below _ (T5.setTop (mkF m 89 #[.val (.long q1), .second, .val (.int p2), .val (.int p3), .val (.long q1), .second, .val (.int v6_1), .val (.int v7_3)] [(.int (1 : Int32))]))
    exact own_finN X5 hx hlk hret (by simp) (hb hby at_89) (by rw [e5']; exact ⟨rfl, N5, (Keep.refl h0 [])⟩) (by first | decide | omega | (dsimp only; omega)) (by first | decide | omega | (dsimp only; omega))
  · skip
    refine Goes.via (fun _ kk_ => XS.ifYes X0.here hx rfl (pc0 := 7) (pc' := 16) rfl (hb hby at_7) rfl ((if0 _ _).trans (feq hc7).2) (by decide) (by decide) kk_) ?_
    show Goes p e below _ (s₁.setTop (mkF m 16 #[.val (.long q1), .second, .val (.int p2), .val (.int p3), .unset, .unset, .val (.int v6_1), .unset] []))
    refine Goes.via (fun _ kk_ => XS.iload X0.here hx rfl (hb hby at_16) rfl  kk_) ?_
    show Goes p e below _ (s₁.setTop (mkF m 18 #[.val (.long q1), .second, .val (.int p2), .val (.int p3), .unset, .unset, .val (.int v6_1), .unset] [(.int v6_1)]))
    refine Goes.via (fun _ kk_ => XS.iconst X0.here hx rfl (hb hby at_18) kk_) ?_
    show Goes p e below _ (s₁.setTop (mkF m 19 #[.val (.long q1), .second, .val (.int p2), .val (.int p3), .unset, .unset, .val (.int v6_1), .unset] [(.int (1 : Int32)), (.int v6_1)]))
    by_cases hc19 : v6_1 = (1 : Int32)
    · skip
      refine Goes.via (fun _ kk_ => XS.icmpNo X0.here hx rfl (hb hby at_19) rfl (teq hc19).2 kk_) ?_
      show Goes p e below _ (s₁.setTop (mkF m 22 #[.val (.long q1), .second, .val (.int p2), .val (.int p3), .unset, .unset, .val (.int v6_1), .unset] []))
      refine Goes.via (fun _ kk_ => XS.lloadN X0.here hx rfl (hb hby at_22) rfl  kk_) ?_
      show Goes p e below _ (s₁.setTop (mkF m 23 #[.val (.long q1), .second, .val (.int p2), .val (.int p3), .unset, .unset, .val (.int v6_1), .unset] [(.long q1)]))
      refine Goes.via (X0.ldc2Long hx hown (mvT hZ (hw _ (List.mem_of_getElem? (i := 0) rfl))) (g := (mkF m 23 #[.val (.long q1), .second, .val (.int p2), .val (.int p3), .unset, .unset, .val (.int v6_1), .unset] [(.long q1)])) rfl (hb hby at_23)) ?_
      show Goes p e below _ (s₁.setTop (mkF m 26 #[.val (.long q1), .second, .val (.int p2), .val (.int p3), .unset, .unset, .val (.int v6_1), .unset] [(.long (127 : Int64)), (.long q1)]))
      refine Goes.via (fun _ kk_ => XS.land X0.here hx rfl (hb hby at_26) rfl kk_) ?_
      show Goes p e below _ (s₁.setTop (mkF m 27 #[.val (.long q1), .second, .val (.int p2), .val (.int p3), .unset, .unset, .val (.int v6_1), .unset] [(.long (q1 &&& (127 : Int64)))]))
      refine Goes.via (X0.ldc2Long hx hown (mvT hZ (hw _ (List.mem_of_getElem? (i := 1) rfl))) (g := (mkF m 27 #[.val (.long q1), .second, .val (.int p2), .val (.int p3), .unset, .unset, .val (.int v6_1), .unset] [(.long (q1 &&& (127 : Int64)))])) rfl (hb hby at_27)) ?_
      show Goes p e below _ (s₁.setTop (mkF m 30 #[.val (.long q1), .second, .val (.int p2), .val (.int p3), .unset, .unset, .val (.int v6_1), .unset] [(.long (20 : Int64)), (.long (q1 &&& (127 : Int64)))]))
      refine Goes.via (fun _ kk_ => XS.lsub X0.here hx rfl (hb hby at_30) rfl kk_) ?_
      show Goes p e below _ (s₁.setTop (mkF m 31 #[.val (.long q1), .second, .val (.int p2), .val (.int p3), .unset, .unset, .val (.int v6_1), .unset] [(.long ((q1 &&& (127 : Int64)) - (20 : Int64)))]))
      refine Goes.via (fun _ kk_ => XS.lstore X0.here hx rfl (hb hby at_31) rfl (l' := #[.val (.long q1), .second, .val (.int p2), .val (.int p3), .val (.long ((q1 &&& (127 : Int64)) - (20 : Int64))), .second, .val (.int v6_1), .unset]) rfl kk_) ?_
      show Goes p e below _ (s₁.setTop (mkF m 33 #[.val (.long q1), .second, .val (.int p2), .val (.int p3), .val (.long ((q1 &&& (127 : Int64)) - (20 : Int64))), .second, .val (.int v6_1), .unset] []))
      generalize hv_v4_7 : ((q1 &&& (127 : Int64)) - (20 : Int64)) = v4_7
      show Goes p e below _ (s₁.setTop (mkF m 33 #[.val (.long q1), .second, .val (.int p2), .val (.int p3), .val (.long v4_7), .second, .val (.int v6_1), .unset] []))
      refine Goes.via (fun _ kk_ => XS.goto X0.here hx rfl (pc0 := 33) (pc' := 51) rfl (hb hby at_33) (by decide) (by decide) kk_) ?_
      show Goes p e below _ (s₁.setTop (mkF m 51 #[.val (.long q1), .second, .val (.int p2), .val (.int p3), .val (.long v4_7), .second, .val (.int v6_1), .unset] []))
      refine Goes.via (fun _ kk_ => XS.iloadN X0.here hx rfl (hb hby at_51) rfl  kk_) ?_
      show Goes p e below _ (s₁.setTop (mkF m 52 #[.val (.long q1), .second, .val (.int p2), .val (.int p3), .val (.long v4_7), .second, .val (.int v6_1), .unset] [(.int p3)]))
      refine Goes.via (fun _ kk_ => XS.iconst X0.here hx rfl (hb hby at_52) kk_) ?_
      show Goes p e below _ (s₁.setTop (mkF m 53 #[.val (.long q1), .second, .val (.int p2), .val (.int p3), .val (.long v4_7), .second, .val (.int v6_1), .unset] [(.int (4 : Int32)), (.int p3)]))
      refine Goes.via (fun _ kk_ => XS.iand X0.here hx rfl (hb hby at_53) rfl kk_) ?_
      show Goes p e below _ (s₁.setTop (mkF m 54 #[.val (.long q1), .second, .val (.int p2), .val (.int p3), .val (.long v4_7), .second, .val (.int v6_1), .unset] [(.int (p3 &&& (4 : Int32)))]))
      obtain ⟨jj8, hv_jj8⟩ : ∃ z : Int32, z = (if (p3 &&& (4 : Int32)) = (0 : Int32) then (p2 &&& (15 : Int32)) else p2) := ⟨_, rfl⟩
      suffices J : Goes p e below (Fin_ s (Qrm0 Z q1 p2 p3 h0 n0) room_1.cells room_1.slots) (s₁.setTop (mkF m 65 #[.val (.long q1), .second, .val (.int p2), .val (.int p3), .val (.long v4_7), .second, .val (.int v6_1), .unset] [(.int jj8)])) by
        by_cases hc54 : (p3 &&& (4 : Int32)) = (0 : Int32)
        · skip
          rw [show jj8 = (p2 &&& (15 : Int32)) from hv_jj8.trans (if_pos hc54)] at J
          refine Goes.via (fun _ kk_ => XS.ifYes X0.here hx rfl (pc0 := 54) (pc' := 61) rfl (hb hby at_54) rfl ((if0 _ _).trans (teq hc54).1) (by decide) (by decide) kk_) ?_
          show Goes p e below _ (s₁.setTop (mkF m 61 #[.val (.long q1), .second, .val (.int p2), .val (.int p3), .val (.long v4_7), .second, .val (.int v6_1), .unset] []))
          refine Goes.via (fun _ kk_ => XS.iloadN X0.here hx rfl (hb hby at_61) rfl  kk_) ?_
          show Goes p e below _ (s₁.setTop (mkF m 62 #[.val (.long q1), .second, .val (.int p2), .val (.int p3), .val (.long v4_7), .second, .val (.int v6_1), .unset] [(.int p2)]))
          refine Goes.via (fun _ kk_ => XS.bipush X0.here hx rfl (hb hby at_62) kk_) ?_
          show Goes p e below _ (s₁.setTop (mkF m 64 #[.val (.long q1), .second, .val (.int p2), .val (.int p3), .val (.long v4_7), .second, .val (.int v6_1), .unset] [(.int (15 : Int32)), (.int p2)]))
          refine Goes.via (fun _ kk_ => XS.iand X0.here hx rfl (hb hby at_64) rfl kk_) ?_
          show Goes p e below _ (s₁.setTop (mkF m 65 #[.val (.long q1), .second, .val (.int p2), .val (.int p3), .val (.long v4_7), .second, .val (.int v6_1), .unset] [(.int (p2 &&& (15 : Int32)))]))
          exact J
        · skip
          rw [show jj8 = p2 from hv_jj8.trans (if_neg hc54)] at J
          refine Goes.via (fun _ kk_ => XS.ifNo X0.here hx rfl (hb hby at_54) rfl ((if0 _ _).trans (feq hc54).1) kk_) ?_
          show Goes p e below _ (s₁.setTop (mkF m 57 #[.val (.long q1), .second, .val (.int p2), .val (.int p3), .val (.long v4_7), .second, .val (.int v6_1), .unset] []))
          refine Goes.via (fun _ kk_ => XS.iloadN X0.here hx rfl (hb hby at_57) rfl  kk_) ?_
          show Goes p e below _ (s₁.setTop (mkF m 58 #[.val (.long q1), .second, .val (.int p2), .val (.int p3), .val (.long v4_7), .second, .val (.int v6_1), .unset] [(.int p2)]))
          refine Goes.via (fun _ kk_ => XS.goto X0.here hx rfl (pc0 := 58) (pc' := 65) rfl (hb hby at_58) (by decide) (by decide) kk_) ?_
          show Goes p e below _ (s₁.setTop (mkF m 65 #[.val (.long q1), .second, .val (.int p2), .val (.int p3), .val (.long v4_7), .second, .val (.int v6_1), .unset] [(.int p2)]))
          exact J
      subst hv_jj8
      show Goes p e below _ (s₁.setTop (mkF m 65 #[.val (.long q1), .second, .val (.int p2), .val (.int p3), .val (.long v4_7), .second, .val (.int v6_1), .unset] [(.int (if (p3 &&& (4 : Int32)) = (0 : Int32) then (p2 &&& (15 : Int32)) else p2))]))
      refine Goes.via (fun _ kk_ => XS.istore X0.here hx rfl (hb hby at_65) rfl (l' := #[.val (.long q1), .second, .val (.int p2), .val (.int p3), .val (.long v4_7), .second, .val (.int v6_1), .val (.int (if (p3 &&& (4 : Int32)) = (0 : Int32) then (p2 &&& (15 : Int32)) else p2))]) rfl kk_) ?_
      show Goes p e below _ (s₁.setTop (mkF m 67 #[.val (.long q1), .second, .val (.int p2), .val (.int p3), .val (.long v4_7), .second, .val (.int v6_1), .val (.int (if (p3 &&& (4 : Int32)) = (0 : Int32) then (p2 &&& (15 : Int32)) else p2))] []))
      generalize hv_v7_9 : (if (p3 &&& (4 : Int32)) = (0 : Int32) then (p2 &&& (15 : Int32)) else p2) = v7_9
      show Goes p e below _ (s₁.setTop (mkF m 67 #[.val (.long q1), .second, .val (.int p2), .val (.int p3), .val (.long v4_7), .second, .val (.int v6_1), .val (.int v7_9)] []))
      refine Goes.via (fun _ kk_ => XS.lload X0.here hx rfl (hb hby at_67) rfl  kk_) ?_
      show Goes p e below _ (s₁.setTop (mkF m 69 #[.val (.long q1), .second, .val (.int p2), .val (.int p3), .val (.long v4_7), .second, .val (.int v6_1), .val (.int v7_9)] [(.long v4_7)]))
      refine Goes.via (fun _ kk_ => XS.iload X0.here hx rfl (hb hby at_69) rfl  kk_) ?_
      show Goes p e below _ (s₁.setTop (mkF m 71 #[.val (.long q1), .second, .val (.int p2), .val (.int p3), .val (.long v4_7), .second, .val (.int v6_1), .val (.int v7_9)] [(.int v7_9), (.long v4_7)]))
      obtain ⟨_, _, ⟨T10, L10, k10, n10⟩, -, X10, ⟨Lc10, hQ10, l10, y10, z10⟩, st10⟩ := Jvm.LawKit.callS X0 hx (y := (⟨"com/example/checks_on_duty/checksonduty/engine/CoveringSearch", "decides", "(JI)Z"⟩ : MethodName)) hown (mvT hZ (hw _ (List.mem_of_getElem? (i := 2) rfl))) (mvT hZ (hw _ (List.mem_of_getElem? (i := 3) rfl))) (mvT hZ (hw _ (List.mem_of_getElem? (i := 4) rfl))) (mvT hZ (hw _ (List.mem_of_getElem? (i := 5) rfl))) (by decide) (backOf (W := 0) (rm1 l Z a0 hw [] v4_7 v7_9 (own_exp v4_7 v7_9) h0 n0 (Nat.le_trans Z0 (Nat.le_refl _)) (own_decides _ _)) hZ (hw _ (List.mem_of_getElem? (i := 5) rfl)) (hw _ (List.mem_of_getElem? (i := 4) rfl)) (by decide) (by decide)) (g := (mkF m 71 #[.val (.long q1), .second, .val (.int p2), .val (.int p3), .val (.long v4_7), .second, .val (.int v6_1), .val (.int v7_9)] [(.int v7_9), (.long v4_7)])) rfl (by rw [hml]; rfl) (argsL := [(.long v4_7), (.int v7_9)]) (rest := []) (lenOf pd_1 rfl) rfl (by show 2 * 0 + _ ≤ _; exact Nat.le_of_eq rfl) (hb hby at_71) (fun _ _ => ⟨rfl, e0, (by first | decide | omega | (dsimp only; omega) : 0 + 0 ≤ _), (by first | decide | omega | (dsimp only; omega) : 0 + 0 ≤ _)⟩)
      dsimp only [Pt.U, Pt.locs, Pt.cells, Pt.slots] at X10 l10 y10 z10 st10 hQ10
      subst l10 y10 z10
      obtain ⟨rfl, N10q, e10⟩ := hQ10
      have N10 := Fr.app N0 N10q
      refine Goes.via st10 ?_
      have e10' : T10.heap = h0 := e10
      show Goes p e below _ (T10.setTop (mkF m 74 #[.val (.long q1), .second, .val (.int p2), .val (.int p3), .val (.long v4_7), .second, .val (.int v6_1), .val (.int v7_9)] [(.int (own_exp v4_7 v7_9))]))
      refine Goes.via (fun _ kk_ => XS.lload X10.here hx rfl (hb hby at_74) rfl  kk_) ?_
      show Goes p e below _ (T10.setTop (mkF m 76 #[.val (.long q1), .second, .val (.int p2), .val (.int p3), .val (.long v4_7), .second, .val (.int v6_1), .val (.int v7_9)] [(.long v4_7), (.int (own_exp v4_7 v7_9))]))
      refine Goes.via (fun _ kk_ => XS.iload X10.here hx rfl (hb hby at_76) rfl  kk_) ?_
      show Goes p e below _ (T10.setTop (mkF m 78 #[.val (.long q1), .second, .val (.int p2), .val (.int p3), .val (.long v4_7), .second, .val (.int v6_1), .val (.int v7_9)] [(.int v7_9), (.long v4_7), (.int (own_exp v4_7 v7_9))]))
      obtain ⟨_, _, ⟨T11, L11, k11, n11⟩, -, X11, ⟨Lc11, hQ11, l11, y11, z11⟩, st11⟩ := Jvm.LawKit.callS X10 hx (y := (⟨"com/example/checks_on_duty/checksonduty/engine/CoveringSearchDecidesPinLaw", "expected", "(JI)Z"⟩ : MethodName)) hown (mvT hZ (hw _ (List.mem_of_getElem? (i := 8) rfl))) (mvT hZ (hw _ (List.mem_of_getElem? (i := 9) rfl))) (mvT hZ (hw _ (List.mem_of_getElem? (i := 10) rfl))) (mvT hZ (hw _ (List.mem_of_getElem? (i := 11) rfl))) (by decide) (backOf (W := 1) (rm2 l Z a0 hw [] v4_7 v7_9 h0 n0 (Nat.le_trans Z0 (Nat.le_refl _)) ) hZ (hw _ (List.mem_of_getElem? (i := 11) rfl)) (hw _ (List.mem_of_getElem? (i := 10) rfl)) (by decide) (by decide)) (g := (mkF m 78 #[.val (.long q1), .second, .val (.int p2), .val (.int p3), .val (.long v4_7), .second, .val (.int v6_1), .val (.int v7_9)] [(.int v7_9), (.long v4_7), (.int (own_exp v4_7 v7_9))])) rfl (by rw [hml]; rfl) (argsL := [(.long v4_7), (.int v7_9)]) (rest := [(.int (own_exp v4_7 v7_9))]) (lenOf pd_1 rfl) rfl (by show 2 * 0 + _ ≤ _; exact Nat.le_of_eq rfl) (hb hby at_78) (fun _ _ => ⟨rfl, e10', (by first | decide | omega | (dsimp only; omega) : 0 + 0 ≤ _), (by first | decide | omega | (dsimp only; omega) : 0 + 0 ≤ _)⟩)
      dsimp only [Pt.U, Pt.locs, Pt.cells, Pt.slots] at X11 l11 y11 z11 st11 hQ11
      subst l11 y11 z11
      obtain ⟨rfl, N11q, e11⟩ := hQ11
      have N11 := Fr.app N10 N11q
      refine Goes.via st11 ?_
      have e11' : T11.heap = h0 := e11
      show Goes p e below _ (T11.setTop (mkF m 81 #[.val (.long q1), .second, .val (.int p2), .val (.int p3), .val (.long v4_7), .second, .val (.int v6_1), .val (.int v7_9)] [(.int (own_exp v4_7 v7_9)), (.int (own_exp v4_7 v7_9))]))
      have hc81_12 : (own_exp v4_7 v7_9) = (own_exp v4_7 v7_9) := rfl
      refine Goes.via (fun _ kk_ => XS.icmpNo X11.here hx rfl (hb hby at_81) rfl (teq hc81_12).2 kk_) ?_
      show Goes p e below _ (T11.setTop (mkF m 84 #[.val (.long q1), .second, .val (.int p2), .val (.int p3), .val (.long v4_7), .second, .val (.int v6_1), .val (.int v7_9)] []))
      refine Goes.via (fun _ kk_ => XS.iconst X11.here hx rfl (hb hby at_84) kk_) ?_
      show Goes p e below _ (T11.setTop (mkF m 85 #[.val (.long q1), .second, .val (.int p2), .val (.int p3), .val (.long v4_7), .second, .val (.int v6_1), .val (.int v7_9)] [(.int (1 : Int32))]))
      refine Goes.via (fun _ kk_ => XS.goto X11.here hx rfl (pc0 := 85) (pc' := 89) rfl (hb hby at_85) (by decide) (by decide) kk_) ?_
      show Goes p e below _ (T11.setTop (mkF m 89 #[.val (.long q1), .second, .val (.int p2), .val (.int p3), .val (.long v4_7), .second, .val (.int v6_1), .val (.int v7_9)] [(.int (1 : Int32))]))
      exact own_finN X11 hx hlk hret (by simp) (hb hby at_89) (by rw [e11']; exact ⟨rfl, N11, (Keep.refl h0 [])⟩) (by first | decide | omega | (dsimp only; omega)) (by first | decide | omega | (dsimp only; omega))
    · skip
      refine Goes.via (fun _ kk_ => XS.icmpYes X0.here hx rfl (pc0 := 19) (pc' := 36) rfl (hb hby at_19) rfl (feq hc19).2 (by decide) (by decide) kk_) ?_
      show Goes p e below _ (s₁.setTop (mkF m 36 #[.val (.long q1), .second, .val (.int p2), .val (.int p3), .unset, .unset, .val (.int v6_1), .unset] []))
      refine Goes.via (X0.ldc2Long hx hown (mvT hZ (hw _ (List.mem_of_getElem? (i := 13) rfl))) (g := (mkF m 36 #[.val (.long q1), .second, .val (.int p2), .val (.int p3), .unset, .unset, .val (.int v6_1), .unset] [])) rfl (hb hby at_36)) ?_
      show Goes p e below _ (s₁.setTop (mkF m 39 #[.val (.long q1), .second, .val (.int p2), .val (.int p3), .unset, .unset, .val (.int v6_1), .unset] [(.long (24 : Int64))]))
      refine Goes.via (fun _ kk_ => XS.lloadN X0.here hx rfl (hb hby at_39) rfl  kk_) ?_
      show Goes p e below _ (s₁.setTop (mkF m 40 #[.val (.long q1), .second, .val (.int p2), .val (.int p3), .unset, .unset, .val (.int v6_1), .unset] [(.long q1), (.long (24 : Int64))]))
      refine Goes.via (X0.ldc2Long hx hown (mvT hZ (hw _ (List.mem_of_getElem? (i := 14) rfl))) (g := (mkF m 40 #[.val (.long q1), .second, .val (.int p2), .val (.int p3), .unset, .unset, .val (.int v6_1), .unset] [(.long q1), (.long (24 : Int64))])) rfl (hb hby at_40)) ?_
      show Goes p e below _ (s₁.setTop (mkF m 43 #[.val (.long q1), .second, .val (.int p2), .val (.int p3), .unset, .unset, .val (.int v6_1), .unset] [(.long (9223372036854775807 : Int64)), (.long q1), (.long (24 : Int64))]))
      refine Goes.via (fun _ kk_ => XS.land X0.here hx rfl (hb hby at_43) rfl kk_) ?_
      show Goes p e below _ (s₁.setTop (mkF m 44 #[.val (.long q1), .second, .val (.int p2), .val (.int p3), .unset, .unset, .val (.int v6_1), .unset] [(.long (q1 &&& (9223372036854775807 : Int64))), (.long (24 : Int64))]))
      refine Goes.via (X0.ldc2Long hx hown (mvT hZ (hw _ (List.mem_of_getElem? (i := 15) rfl))) (g := (mkF m 44 #[.val (.long q1), .second, .val (.int p2), .val (.int p3), .unset, .unset, .val (.int v6_1), .unset] [(.long (q1 &&& (9223372036854775807 : Int64))), (.long (24 : Int64))])) rfl (hb hby at_44)) ?_
      show Goes p e below _ (s₁.setTop (mkF m 47 #[.val (.long q1), .second, .val (.int p2), .val (.int p3), .unset, .unset, .val (.int v6_1), .unset] [(.long (42 : Int64)), (.long (q1 &&& (9223372036854775807 : Int64))), (.long (24 : Int64))]))
      refine Goes.via (fun _ kk_ => XS.lrem X0.here hx rfl (hb hby at_47) rfl (by decide) kk_) ?_
      rw [lrem_mod]
      show Goes p e below _ (s₁.setTop (mkF m 48 #[.val (.long q1), .second, .val (.int p2), .val (.int p3), .unset, .unset, .val (.int v6_1), .unset] [(.long ((q1 &&& (9223372036854775807 : Int64)) % (42 : Int64))), (.long (24 : Int64))]))
      refine Goes.via (fun _ kk_ => XS.ladd X0.here hx rfl (hb hby at_48) rfl kk_) ?_
      show Goes p e below _ (s₁.setTop (mkF m 49 #[.val (.long q1), .second, .val (.int p2), .val (.int p3), .unset, .unset, .val (.int v6_1), .unset] [(.long ((24 : Int64) + ((q1 &&& (9223372036854775807 : Int64)) % (42 : Int64))))]))
      refine Goes.via (fun _ kk_ => XS.lstore X0.here hx rfl (hb hby at_49) rfl (l' := #[.val (.long q1), .second, .val (.int p2), .val (.int p3), .val (.long ((24 : Int64) + ((q1 &&& (9223372036854775807 : Int64)) % (42 : Int64)))), .second, .val (.int v6_1), .unset]) rfl kk_) ?_
      show Goes p e below _ (s₁.setTop (mkF m 51 #[.val (.long q1), .second, .val (.int p2), .val (.int p3), .val (.long ((24 : Int64) + ((q1 &&& (9223372036854775807 : Int64)) % (42 : Int64)))), .second, .val (.int v6_1), .unset] []))
      generalize hv_v4_13 : ((24 : Int64) + ((q1 &&& (9223372036854775807 : Int64)) % (42 : Int64))) = v4_13
      show Goes p e below _ (s₁.setTop (mkF m 51 #[.val (.long q1), .second, .val (.int p2), .val (.int p3), .val (.long v4_13), .second, .val (.int v6_1), .unset] []))
      refine Goes.via (fun _ kk_ => XS.iloadN X0.here hx rfl (hb hby at_51) rfl  kk_) ?_
      show Goes p e below _ (s₁.setTop (mkF m 52 #[.val (.long q1), .second, .val (.int p2), .val (.int p3), .val (.long v4_13), .second, .val (.int v6_1), .unset] [(.int p3)]))
      refine Goes.via (fun _ kk_ => XS.iconst X0.here hx rfl (hb hby at_52) kk_) ?_
      show Goes p e below _ (s₁.setTop (mkF m 53 #[.val (.long q1), .second, .val (.int p2), .val (.int p3), .val (.long v4_13), .second, .val (.int v6_1), .unset] [(.int (4 : Int32)), (.int p3)]))
      refine Goes.via (fun _ kk_ => XS.iand X0.here hx rfl (hb hby at_53) rfl kk_) ?_
      show Goes p e below _ (s₁.setTop (mkF m 54 #[.val (.long q1), .second, .val (.int p2), .val (.int p3), .val (.long v4_13), .second, .val (.int v6_1), .unset] [(.int (p3 &&& (4 : Int32)))]))
      obtain ⟨jj14, hv_jj14⟩ : ∃ z : Int32, z = (if (p3 &&& (4 : Int32)) = (0 : Int32) then (p2 &&& (15 : Int32)) else p2) := ⟨_, rfl⟩
      suffices J : Goes p e below (Fin_ s (Qrm0 Z q1 p2 p3 h0 n0) room_1.cells room_1.slots) (s₁.setTop (mkF m 65 #[.val (.long q1), .second, .val (.int p2), .val (.int p3), .val (.long v4_13), .second, .val (.int v6_1), .unset] [(.int jj14)])) by
        by_cases hc54 : (p3 &&& (4 : Int32)) = (0 : Int32)
        · skip
          rw [show jj14 = (p2 &&& (15 : Int32)) from hv_jj14.trans (if_pos hc54)] at J
          refine Goes.via (fun _ kk_ => XS.ifYes X0.here hx rfl (pc0 := 54) (pc' := 61) rfl (hb hby at_54) rfl ((if0 _ _).trans (teq hc54).1) (by decide) (by decide) kk_) ?_
          show Goes p e below _ (s₁.setTop (mkF m 61 #[.val (.long q1), .second, .val (.int p2), .val (.int p3), .val (.long v4_13), .second, .val (.int v6_1), .unset] []))
          refine Goes.via (fun _ kk_ => XS.iloadN X0.here hx rfl (hb hby at_61) rfl  kk_) ?_
          show Goes p e below _ (s₁.setTop (mkF m 62 #[.val (.long q1), .second, .val (.int p2), .val (.int p3), .val (.long v4_13), .second, .val (.int v6_1), .unset] [(.int p2)]))
          refine Goes.via (fun _ kk_ => XS.bipush X0.here hx rfl (hb hby at_62) kk_) ?_
          show Goes p e below _ (s₁.setTop (mkF m 64 #[.val (.long q1), .second, .val (.int p2), .val (.int p3), .val (.long v4_13), .second, .val (.int v6_1), .unset] [(.int (15 : Int32)), (.int p2)]))
          refine Goes.via (fun _ kk_ => XS.iand X0.here hx rfl (hb hby at_64) rfl kk_) ?_
          show Goes p e below _ (s₁.setTop (mkF m 65 #[.val (.long q1), .second, .val (.int p2), .val (.int p3), .val (.long v4_13), .second, .val (.int v6_1), .unset] [(.int (p2 &&& (15 : Int32)))]))
          exact J
        · skip
          rw [show jj14 = p2 from hv_jj14.trans (if_neg hc54)] at J
          refine Goes.via (fun _ kk_ => XS.ifNo X0.here hx rfl (hb hby at_54) rfl ((if0 _ _).trans (feq hc54).1) kk_) ?_
          show Goes p e below _ (s₁.setTop (mkF m 57 #[.val (.long q1), .second, .val (.int p2), .val (.int p3), .val (.long v4_13), .second, .val (.int v6_1), .unset] []))
          refine Goes.via (fun _ kk_ => XS.iloadN X0.here hx rfl (hb hby at_57) rfl  kk_) ?_
          show Goes p e below _ (s₁.setTop (mkF m 58 #[.val (.long q1), .second, .val (.int p2), .val (.int p3), .val (.long v4_13), .second, .val (.int v6_1), .unset] [(.int p2)]))
          refine Goes.via (fun _ kk_ => XS.goto X0.here hx rfl (pc0 := 58) (pc' := 65) rfl (hb hby at_58) (by decide) (by decide) kk_) ?_
          show Goes p e below _ (s₁.setTop (mkF m 65 #[.val (.long q1), .second, .val (.int p2), .val (.int p3), .val (.long v4_13), .second, .val (.int v6_1), .unset] [(.int p2)]))
          exact J
      subst hv_jj14
      show Goes p e below _ (s₁.setTop (mkF m 65 #[.val (.long q1), .second, .val (.int p2), .val (.int p3), .val (.long v4_13), .second, .val (.int v6_1), .unset] [(.int (if (p3 &&& (4 : Int32)) = (0 : Int32) then (p2 &&& (15 : Int32)) else p2))]))
      refine Goes.via (fun _ kk_ => XS.istore X0.here hx rfl (hb hby at_65) rfl (l' := #[.val (.long q1), .second, .val (.int p2), .val (.int p3), .val (.long v4_13), .second, .val (.int v6_1), .val (.int (if (p3 &&& (4 : Int32)) = (0 : Int32) then (p2 &&& (15 : Int32)) else p2))]) rfl kk_) ?_
      show Goes p e below _ (s₁.setTop (mkF m 67 #[.val (.long q1), .second, .val (.int p2), .val (.int p3), .val (.long v4_13), .second, .val (.int v6_1), .val (.int (if (p3 &&& (4 : Int32)) = (0 : Int32) then (p2 &&& (15 : Int32)) else p2))] []))
      generalize hv_v7_15 : (if (p3 &&& (4 : Int32)) = (0 : Int32) then (p2 &&& (15 : Int32)) else p2) = v7_15
      show Goes p e below _ (s₁.setTop (mkF m 67 #[.val (.long q1), .second, .val (.int p2), .val (.int p3), .val (.long v4_13), .second, .val (.int v6_1), .val (.int v7_15)] []))
      refine Goes.via (fun _ kk_ => XS.lload X0.here hx rfl (hb hby at_67) rfl  kk_) ?_
      show Goes p e below _ (s₁.setTop (mkF m 69 #[.val (.long q1), .second, .val (.int p2), .val (.int p3), .val (.long v4_13), .second, .val (.int v6_1), .val (.int v7_15)] [(.long v4_13)]))
      refine Goes.via (fun _ kk_ => XS.iload X0.here hx rfl (hb hby at_69) rfl  kk_) ?_
      show Goes p e below _ (s₁.setTop (mkF m 71 #[.val (.long q1), .second, .val (.int p2), .val (.int p3), .val (.long v4_13), .second, .val (.int v6_1), .val (.int v7_15)] [(.int v7_15), (.long v4_13)]))
      obtain ⟨_, _, ⟨T16, L16, k16, n16⟩, -, X16, ⟨Lc16, hQ16, l16, y16, z16⟩, st16⟩ := Jvm.LawKit.callS X0 hx (y := (⟨"com/example/checks_on_duty/checksonduty/engine/CoveringSearch", "decides", "(JI)Z"⟩ : MethodName)) hown (mvT hZ (hw _ (List.mem_of_getElem? (i := 2) rfl))) (mvT hZ (hw _ (List.mem_of_getElem? (i := 3) rfl))) (mvT hZ (hw _ (List.mem_of_getElem? (i := 4) rfl))) (mvT hZ (hw _ (List.mem_of_getElem? (i := 5) rfl))) (by decide) (backOf (W := 0) (rm1 l Z a0 hw [] v4_13 v7_15 (own_exp v4_13 v7_15) h0 n0 (Nat.le_trans Z0 (Nat.le_refl _)) (own_decides _ _)) hZ (hw _ (List.mem_of_getElem? (i := 5) rfl)) (hw _ (List.mem_of_getElem? (i := 4) rfl)) (by decide) (by decide)) (g := (mkF m 71 #[.val (.long q1), .second, .val (.int p2), .val (.int p3), .val (.long v4_13), .second, .val (.int v6_1), .val (.int v7_15)] [(.int v7_15), (.long v4_13)])) rfl (by rw [hml]; rfl) (argsL := [(.long v4_13), (.int v7_15)]) (rest := []) (lenOf pd_1 rfl) rfl (by show 2 * 0 + _ ≤ _; exact Nat.le_of_eq rfl) (hb hby at_71) (fun _ _ => ⟨rfl, e0, (by first | decide | omega | (dsimp only; omega) : 0 + 0 ≤ _), (by first | decide | omega | (dsimp only; omega) : 0 + 0 ≤ _)⟩)
      dsimp only [Pt.U, Pt.locs, Pt.cells, Pt.slots] at X16 l16 y16 z16 st16 hQ16
      subst l16 y16 z16
      obtain ⟨rfl, N16q, e16⟩ := hQ16
      have N16 := Fr.app N0 N16q
      refine Goes.via st16 ?_
      have e16' : T16.heap = h0 := e16
      show Goes p e below _ (T16.setTop (mkF m 74 #[.val (.long q1), .second, .val (.int p2), .val (.int p3), .val (.long v4_13), .second, .val (.int v6_1), .val (.int v7_15)] [(.int (own_exp v4_13 v7_15))]))
      refine Goes.via (fun _ kk_ => XS.lload X16.here hx rfl (hb hby at_74) rfl  kk_) ?_
      show Goes p e below _ (T16.setTop (mkF m 76 #[.val (.long q1), .second, .val (.int p2), .val (.int p3), .val (.long v4_13), .second, .val (.int v6_1), .val (.int v7_15)] [(.long v4_13), (.int (own_exp v4_13 v7_15))]))
      refine Goes.via (fun _ kk_ => XS.iload X16.here hx rfl (hb hby at_76) rfl  kk_) ?_
      show Goes p e below _ (T16.setTop (mkF m 78 #[.val (.long q1), .second, .val (.int p2), .val (.int p3), .val (.long v4_13), .second, .val (.int v6_1), .val (.int v7_15)] [(.int v7_15), (.long v4_13), (.int (own_exp v4_13 v7_15))]))
      obtain ⟨_, _, ⟨T17, L17, k17, n17⟩, -, X17, ⟨Lc17, hQ17, l17, y17, z17⟩, st17⟩ := Jvm.LawKit.callS X16 hx (y := (⟨"com/example/checks_on_duty/checksonduty/engine/CoveringSearchDecidesPinLaw", "expected", "(JI)Z"⟩ : MethodName)) hown (mvT hZ (hw _ (List.mem_of_getElem? (i := 8) rfl))) (mvT hZ (hw _ (List.mem_of_getElem? (i := 9) rfl))) (mvT hZ (hw _ (List.mem_of_getElem? (i := 10) rfl))) (mvT hZ (hw _ (List.mem_of_getElem? (i := 11) rfl))) (by decide) (backOf (W := 1) (rm2 l Z a0 hw [] v4_13 v7_15 h0 n0 (Nat.le_trans Z0 (Nat.le_refl _)) ) hZ (hw _ (List.mem_of_getElem? (i := 11) rfl)) (hw _ (List.mem_of_getElem? (i := 10) rfl)) (by decide) (by decide)) (g := (mkF m 78 #[.val (.long q1), .second, .val (.int p2), .val (.int p3), .val (.long v4_13), .second, .val (.int v6_1), .val (.int v7_15)] [(.int v7_15), (.long v4_13), (.int (own_exp v4_13 v7_15))])) rfl (by rw [hml]; rfl) (argsL := [(.long v4_13), (.int v7_15)]) (rest := [(.int (own_exp v4_13 v7_15))]) (lenOf pd_1 rfl) rfl (by show 2 * 0 + _ ≤ _; exact Nat.le_of_eq rfl) (hb hby at_78) (fun _ _ => ⟨rfl, e16', (by first | decide | omega | (dsimp only; omega) : 0 + 0 ≤ _), (by first | decide | omega | (dsimp only; omega) : 0 + 0 ≤ _)⟩)
      dsimp only [Pt.U, Pt.locs, Pt.cells, Pt.slots] at X17 l17 y17 z17 st17 hQ17
      subst l17 y17 z17
      obtain ⟨rfl, N17q, e17⟩ := hQ17
      have N17 := Fr.app N16 N17q
      refine Goes.via st17 ?_
      have e17' : T17.heap = h0 := e17
      show Goes p e below _ (T17.setTop (mkF m 81 #[.val (.long q1), .second, .val (.int p2), .val (.int p3), .val (.long v4_13), .second, .val (.int v6_1), .val (.int v7_15)] [(.int (own_exp v4_13 v7_15)), (.int (own_exp v4_13 v7_15))]))
      have hc81_18 : (own_exp v4_13 v7_15) = (own_exp v4_13 v7_15) := rfl
      refine Goes.via (fun _ kk_ => XS.icmpNo X17.here hx rfl (hb hby at_81) rfl (teq hc81_18).2 kk_) ?_
      show Goes p e below _ (T17.setTop (mkF m 84 #[.val (.long q1), .second, .val (.int p2), .val (.int p3), .val (.long v4_13), .second, .val (.int v6_1), .val (.int v7_15)] []))
      refine Goes.via (fun _ kk_ => XS.iconst X17.here hx rfl (hb hby at_84) kk_) ?_
      show Goes p e below _ (T17.setTop (mkF m 85 #[.val (.long q1), .second, .val (.int p2), .val (.int p3), .val (.long v4_13), .second, .val (.int v6_1), .val (.int v7_15)] [(.int (1 : Int32))]))
      refine Goes.via (fun _ kk_ => XS.goto X17.here hx rfl (pc0 := 85) (pc' := 89) rfl (hb hby at_85) (by decide) (by decide) kk_) ?_
      show Goes p e below _ (T17.setTop (mkF m 89 #[.val (.long q1), .second, .val (.int p2), .val (.int p3), .val (.long v4_13), .second, .val (.int v6_1), .val (.int v7_15)] [(.int (1 : Int32))]))
      exact own_finN X17 hx hlk hret (by simp) (hb hby at_89) (by rw [e17']; exact ⟨rfl, N17, (Keep.refl h0 [])⟩) (by first | decide | omega | (dsimp only; omega)) (by first | decide | omega | (dsimp only; omega))
set_option maxRecDepth 65536 in
set_option maxHeartbeats 40000000 in
theorem comes_1 {Post : Tables → Env → Array Value → State → Outcome → State → Prop} (hpost : ∀ tb e args s v u, (limb_1_1.after args s (.returned v) u = true ∧ limb_1_2.after args s (.returned v) u = true ∧ True) → FrameEnd s (.returned v) u (Jvm.fieldLocs frame_1_writes args s ++ Jvm.arrayLocs frame_1_arrays args s ++ Jvm.staticLocs frame_1_statics s) 0 0 → Post tb e args s (.returned v) u) :
    ArmFor flags0 classFile x code maxLocals ret World_1 tables_1 room_1 Calls_1 rest_1 Pre_1 Post := by
  intro l hfl _ _ p e ha hc hk s m args below hf hA hF happ hP
  obtain ⟨hcalls, hrest, hpre⟩ := hP
  obtain ⟨-, -, -, hnamed, -, -, -, hat⟩ := (Spec.applies_iff hf).mp happ
  obtain ⟨hg, hn⟩ := and_e (Cond.before_iff.mp (show (Jvm.Cond.and given_1 narrow_1).before args s = true from hpre))
  obtain ⟨gg1, gg2⟩ := and_e hg
  obtain ⟨gg3, gg4⟩ := and_e gg2
  obtain ⟨gg5, gg6⟩ := and_e gg4
  obtain ⟨w0, w1, w2, rfl⟩ : ∃ w0 w1 w2 : Value, args = #[w0, w1, w2] := by
    have hs : args.size = 3 := by simpa [Cond.value, given_1] using gg1
    obtain ⟨L⟩ := args
    match L, hs with
    | [w0, w1, w2], _ => exact ⟨w0, w1, w2, rfl⟩
  have hw := fun d (hd : d ∈ tables_1) => atoms_spec (ws := Jvm.Cond.code x code maxLocals ret :: tables_1) hat d (List.mem_cons_of_mem _ hd)
  have hfit : Fit s := fun {y c} hc i hi => by
    obtain ⟨ha, rfl⟩ := Array.getElem?_eq_some_iff.mp hc
    have q := List.all_eq_true.mp ((Array.all_eq_true_iff_forall_mem.mp hF) _ (Array.getElem_mem ha)) i (List.mem_range.mpr hi)
    simpa [Array.getElem?_eq_getElem hi] using q
  obtain ⟨i0, ei0⟩ := isL_v gg3
  obtain rfl : w0 = (.long i0) := Option.some.inj ei0
  obtain ⟨i1, ei1⟩ := is_v gg5
  obtain rfl : w1 = (.int i1) := Option.some.inj ei1
  obtain ⟨i2, ei2⟩ := is_v gg6
  obtain rfl : w2 = (.int i2) := Option.some.inj ei2
  obtain ⟨n, o, h1, h2, h3, _, L, rfl, ⟨rfl, N, -⟩, hq⟩ := rm0 l s _ hw tables_1 i0 i1 i2 s.heap s.heap.size (Nat.le_refl _)  p e ha hc hk s m _ below hf ((Spec.applies_iff_loose hf).mp happ).1 ⟨rfl, State.Warmed39.refl s, rfl⟩ trivial
  refine ⟨n, _, h1, h2, h3, hpost _ _ _ _ _ _ ⟨Cond.after_iff.mpr rfl, Cond.after_iff.mpr (eq_i res_at (Term.int_eval (1)) rfl), trivial⟩ ⟨hq.1, hq.2.1, (hq.2.2.sift fun y hy => Or.inr (N y hy)).mono (by decide) (by decide)⟩⟩
theorem main_1_1 : Claimed_1_1 := comes_1 fun _ _ _ _ _ _ h hF => ⟨h.1, hF⟩
theorem main_1_2 : Claimed_1_2 := comes_1 fun _ _ _ _ _ _ h hF => ⟨h.2.1, hF⟩
end Jvm.Pilot.@@N@@
namespace Jvm.Pilot.@@N@@
open Jvm Jvm.ClassFile Sem Op Lib Jvm.Free Jvm.Stand Jvm.Pilot.@@N@@.Jvm.D
/-! MADE BY PROGRAM (witnessworld.py) out of the Statement's table words and the real class files: 9 classes; the members and pool entries that the words name. The judged class is class 1, her method 1. -/
namespace start1
open Jvm.ClassFile
def u (s : String) : CpInfo := .utf8 (stringToUtf16 s)
/-- a pool by its gaps: so many unusable entries, then the entry; so many at the end -/
def gap : Nat → List CpInfo → List CpInfo
  | 0, r => r
  | n + 1, r => .unusable :: gap n r
def poolList (es : List (Nat × CpInfo)) (last : Nat) : List CpInfo := es.foldr (fun e r => gap e.1 (e.2 :: r)) (gap last [])
def pool (es : List (Nat × CpInfo)) (last : Nat) : Array CpInfo := ⟨poolList es last⟩
def fileOf (pool : Array CpInfo) (this : Nat) (attrs : Array Attribute := #[]) (ms : Array MethodInfo := #[]) (fl : Nat := 33) (sup : Nat := 0) (ifs : Array Nat := #[]) (fds : Array FieldInfo := #[]) : ClassFile where
  minorVersion := 0
  majorVersion := 65
  constantPool := pool
  accessFlags := fl
  thisClass := this
  superClass := sup
  interfaces := ifs
  fields := fds
  methods := ms
  attributes := attrs
def plain (name : String) (sup : Option ClassId) : Class where
  name := name
  kind := .ordinary
  loader := none
  accessFlags := 33
  super := sup
  interfaces := #[]
  cf := none
  fields := #[]
  methods := #[]
  instanceTypes := #[]
  staticTypes := #[]
  resolved := #[]
  callSites := []
  init := .initialized
  statics := none
  mirror := none

def pool0 : Array CpInfo := pool [(5, u "<init>"), (0, u "()V"), (1, .class_ 10), (1, u "java/lang/Object")] 113

def k0m0 : Method := { name := "<init>", desc := "()V", sig := { parameters := [], returnType := none }, accessFlags := 1, code := none }
/-- java/lang/Object -/
def k0 : Class := { plain "java/lang/Object" none with
  accessFlags := 33
  interfaces := #[]
  cf := some (fileOf pool0 8 #[] #[{ accessFlags := 1, nameIndex := 5, descriptorIndex := 6, attributes := #[] }] 33 0 #[] #[])
  fields := #[]
  methods := #[k0m0]
  instanceTypes := #[]
  staticTypes := #[]
  resolved := Array.replicate 124 none
  statics := none }

def pool1 : Array CpInfo := pool [(2, .class_ 4), (1, u "java/lang/Object"), (0, u "<init>"), (0, u "()V"), (0, .long 127), (1, .long 20), (1, .long 24), (1, .long 9223372036854775807), (1, .long 42), (1, .methodref 18 19), (0, .class_ 20), (0, .nameAndType 21 22), (0, u "com/example/checks_on_duty/checksonduty/engine/CoveringSearch"), (0, u "decides"), (0, u "(JI)Z"), (0, .methodref 24 25), (0, .class_ 26), (0, .nameAndType 27 22), (0, u "com/example/checks_on_duty/checksonduty/engine/CoveringSearchDecidesPinLaw"), (0, u "expected"), (0, .long 64), (1, .methodref 24 31), (0, .nameAndType 32 33), (0, u "most"), (0, u "(I)I"), (2, u "law"), (0, u "(JII)Z")] 3

def k1m0 : Method := { name := "<init>", desc := "()V", sig := { parameters := [], returnType := none }, accessFlags := 1, code := none }
def k1c1 : Code := { maxStack := 6, maxLocals := 8, code := code, exceptionTable := #[], attributes := #[] }
def k1m1 : Method := { name := "law", desc := "(JII)Z", sig := { parameters := [.long, .int, .int], returnType := some .boolean }, accessFlags := 9, code := some k1c1 }
def k1c2 : Code := { maxStack := 4, maxLocals := 3, code := method_3_code, exceptionTable := #[], attributes := #[] }
def k1m2 : Method := { name := "expected", desc := "(JI)Z", sig := { parameters := [.long, .int], returnType := some .boolean }, accessFlags := 10, code := some k1c2 }
def k1c3 : Code := { maxStack := 2, maxLocals := 1, code := method_4_code, exceptionTable := #[], attributes := #[] }
def k1m3 : Method := { name := "most", desc := "(I)I", sig := { parameters := [.int], returnType := some .int }, accessFlags := 10, code := some k1c3 }
/-- com/example/checks_on_duty/checksonduty/engine/CoveringSearchDecidesPinLaw -/
def k1 : Class := { plain "com/example/checks_on_duty/checksonduty/engine/CoveringSearchDecidesPinLaw" (some 0) with
  accessFlags := 49
  interfaces := #[]
  cf := some (fileOf pool1 24 #[] #[{ accessFlags := 1, nameIndex := 5, descriptorIndex := 6, attributes := #[] }, { accessFlags := 9, nameIndex := 36, descriptorIndex := 37, attributes := #[] }, { accessFlags := 10, nameIndex := 27, descriptorIndex := 22, attributes := #[] }, { accessFlags := 10, nameIndex := 32, descriptorIndex := 33, attributes := #[] }] 49 2 #[] #[])
  fields := #[]
  methods := #[k1m0, k1m1, k1m2, k1m3]
  instanceTypes := #[]
  staticTypes := #[]
  resolved := Array.replicate 41 none
  statics := none }

def pool2 : Array CpInfo := pool [(4, .class_ 6), (1, u "java/lang/Object"), (6, u "users"), (2, .class_ 18), (1, u "com/example/checks_on_duty/checksonduty/engine/CoveringSearch"), (0, u "I"), (2, u "setSize"), (2, u "blockSize"), (2, u "sets"), (0, u "Lcom/example/checks_on_duty/checksonduty/engine/RankedSets;"), (2, u "floors"), (0, u "[I"), (6, u "uncovered"), (2, u "coveredAt"), (3, u "needs"), (0, u "[[I"), (2, u "holders"), (4, u "leading"), (0, u "[[Z"), (15, u "decides"), (0, u "(JI)Z"), (4, .class_ 80), (0, u "com/example/checks_on_duty/checksonduty/engine/CoveringSearch$Derived"), (14, .long 64), (1, .long 16777216), (7, .class_ 106), (0, u "com/example/checks_on_duty/checksonduty/engine/CoveringSearch$Descent"), (97, .class_ 205), (0, u "com/example/checks_on_duty/checksonduty/engine/CoveringSearch$Level"), (74, u "MOST_USERS"), (2, u "MOST_SETS"), (1, u "FIRST_STEPS"), (0, u "J"), (0, u "MOVES_PER_STEP")] 90

def k2c0 : Code := { maxStack := 6, maxLocals := 8, code := prog_37_method_3_code, exceptionTable := #[], attributes := #[] }
def k2m0 : Method := { name := "decides", desc := "(JI)Z", sig := { parameters := [.long, .int], returnType := some .boolean }, accessFlags := 8, code := some k2c0 }
/-- com/example/checks_on_duty/checksonduty/engine/CoveringSearch -/
def k2 : Class := { plain "com/example/checks_on_duty/checksonduty/engine/CoveringSearch" (some 0) with
  accessFlags := 48
  interfaces := #[]
  cf := some (fileOf pool2 16 #[.nestMembers #[204, 105, 79]] #[{ accessFlags := 8, nameIndex := 73, descriptorIndex := 74, attributes := #[] }] 48 4 #[] #[{ accessFlags := 24, nameIndex := 280, descriptorIndex := 19, attributes := #[] }, { accessFlags := 24, nameIndex := 283, descriptorIndex := 19, attributes := #[] }, { accessFlags := 26, nameIndex := 285, descriptorIndex := 286, attributes := #[] }, { accessFlags := 26, nameIndex := 287, descriptorIndex := 286, attributes := #[] }, { accessFlags := 18, nameIndex := 13, descriptorIndex := 19, attributes := #[] }, { accessFlags := 18, nameIndex := 22, descriptorIndex := 19, attributes := #[] }, { accessFlags := 18, nameIndex := 25, descriptorIndex := 19, attributes := #[] }, { accessFlags := 18, nameIndex := 28, descriptorIndex := 29, attributes := #[] }, { accessFlags := 18, nameIndex := 32, descriptorIndex := 33, attributes := #[] }, { accessFlags := 18, nameIndex := 43, descriptorIndex := 33, attributes := #[] }, { accessFlags := 18, nameIndex := 47, descriptorIndex := 48, attributes := #[] }, { accessFlags := 18, nameIndex := 51, descriptorIndex := 48, attributes := #[] }, { accessFlags := 18, nameIndex := 56, descriptorIndex := 57, attributes := #[] }, { accessFlags := 2, nameIndex := 40, descriptorIndex := 19, attributes := #[] }])
  fields := #[{ name := "MOST_USERS", type := .int, accessFlags := 24, slot := 0, constantValue := 0 }, { name := "MOST_SETS", type := .int, accessFlags := 24, slot := 1, constantValue := 0 }, { name := "FIRST_STEPS", type := .long, accessFlags := 26, slot := 2, constantValue := 0 }, { name := "MOVES_PER_STEP", type := .long, accessFlags := 26, slot := 3, constantValue := 0 }, { name := "users", type := .int, accessFlags := 18, slot := 0, constantValue := 0 }, { name := "setSize", type := .int, accessFlags := 18, slot := 1, constantValue := 0 }, { name := "blockSize", type := .int, accessFlags := 18, slot := 2, constantValue := 0 }, { name := "sets", type := (.object "com/example/checks_on_duty/checksonduty/engine/RankedSets"), accessFlags := 18, slot := 3, constantValue := 0 }, { name := "floors", type := (.array .int), accessFlags := 18, slot := 4, constantValue := 0 }, { name := "coveredAt", type := (.array .int), accessFlags := 18, slot := 5, constantValue := 0 }, { name := "needs", type := (.array (.array .int)), accessFlags := 18, slot := 6, constantValue := 0 }, { name := "holders", type := (.array (.array .int)), accessFlags := 18, slot := 7, constantValue := 0 }, { name := "leading", type := (.array (.array .boolean)), accessFlags := 18, slot := 8, constantValue := 0 }, { name := "uncovered", type := .int, accessFlags := 2, slot := 9, constantValue := 0 }]
  methods := #[k2m0]
  instanceTypes := #[.int, .int, .int, (.object "com/example/checks_on_duty/checksonduty/engine/RankedSets"), (.array .int), (.array .int), (.array (.array .int)), (.array (.array .int)), (.array (.array .boolean)), .int]
  staticTypes := #[.int, .int, .long, .long]
  resolved := Array.replicate 378 none
  statics := none }

def pool3 : Array CpInfo := pool [(1, u "java/lang/Cloneable"), (0, .class_ 1), (0, u "java/lang/Object"), (0, .class_ 3)] 3

/-- java/lang/Cloneable -/
def k3 : Class := { plain "java/lang/Cloneable" (some 0) with
  accessFlags := 1537
  interfaces := #[]
  cf := some (fileOf pool3 2 #[] #[] 1537 4 #[] #[])
  fields := #[]
  methods := #[]
  instanceTypes := #[]
  staticTypes := #[]
  resolved := Array.replicate 8 none
  statics := none }

def pool4 : Array CpInfo := pool [(1, u "java/io/Serializable"), (0, .class_ 1), (0, u "java/lang/Object"), (0, .class_ 3)] 3

/-- java/io/Serializable -/
def k4 : Class := { plain "java/io/Serializable" (some 0) with
  accessFlags := 1537
  interfaces := #[]
  cf := some (fileOf pool4 2 #[] #[] 1537 4 #[] #[])
  fields := #[]
  methods := #[]
  instanceTypes := #[]
  staticTypes := #[]
  resolved := Array.replicate 8 none
  statics := none }

/-- the primitive byte -/
def k5 : Class := { plain "byte" none with kind := .primitive 'B', accessFlags := 0x411 }
/-- [B -/
def k6 : Class := { plain "[B" (some 0) with kind := .array 5 .byte, interfaces := #[3, 4], accessFlags := 1041 }

/-- the primitive int -/
def k7 : Class := { plain "int" none with kind := .primitive 'I', accessFlags := 0x411 }
/-- [I -/
def k8 : Class := { plain "[I" (some 0) with kind := .array 7 .int, interfaces := #[3, 4], accessFlags := 1041 }

def heap : Heap := #[]
def classes : Array Class := #[k0, k1, k2, k3, k4, k5, k6, k7, k8]
def interned : List (Array UInt16 × Addr) := []
def slotsUsed : Nat := 0
def theMethod : MethodId := ⟨1, 1⟩
def args0 : Array Value := #[.long 5, .int 6, .int 1]
def aboutOver (below : List Frame) : State where
  vm := { classes := classes, interned := interned.toArray }
  heap := heap
  slotsUsed := slotsUsed
  threads := #[{ frames := .invoking theMethod args0 :: below }]
def below0 : List Frame := [.native { method := ⟨0, 0⟩, args := #[] }]
def about1 : State := aboutOver below0
def p0 : Program := .bare "" "" ""
def e0 : Env := launch0.env 0 0 0
theorem w_frames : about1.frames = Frame.invoking theMethod args0 :: below0 := rfl
set_option maxRecDepth 65536 in
theorem w_args : argsFit about1.vm theMethod args0 = true := by decide +kernel
set_option maxRecDepth 65536 in
theorem w_heap : heapFits about1 = true := by decide +kernel
set_option maxRecDepth 65536 in
theorem w_runnable : about1.curStatus? = some .runnable := by decide +kernel
set_option maxRecDepth 65536 in
theorem w_alone : about1.alone = true := by decide +kernel
set_option maxRecDepth 65536 in
theorem w_named : about1.methodNamed? x = some theMethod := by decide +kernel
set_option maxRecDepth 65536 in
theorem w_hears : about1.hears theMethod below0 = true := by decide +kernel
set_option maxRecDepth 65536 in
theorem w_ripe : about1.ripe theMethod args0 below0 = true := by decide +kernel
theorem w_running : about1.status = .running := rfl
set_option maxRecDepth 65536 in
theorem w_room : about1.hasRoom e0.platform room_1 = true :=
  launch0.hasRoom_least _ room_1 (by decide +kernel) (by decide +kernel) (by decide +kernel) (by decide +kernel) (by decide +kernel) (by decide +kernel)
theorem allAtoms_all (ts : List Jvm.Cond) (a : Array Jvm.Value) (st : Jvm.State) : (allAtoms ts).before a st = ts.all (fun c => c.before a st) := by
  induction ts with
  | nil => rfl
  | cons c t ih =>
    show (Jvm.Cond.and c (allAtoms t)).before a st = _
    rw [Jvm.Cond.before_and, ih, List.all_cons]
def words1 : List Jvm.Cond := Jvm.Cond.code x code maxLocals ret :: tables_1
/-- a 'code' word, met by the world's own term for the bytes: nothing is compared byte by byte -/
theorem code_word {y : MethodName} {bytes : ByteArray} {mx : Nat} {rt : Option FieldType} {a : Array Value} {s : State} {m : MethodId} {meth : Method} {c : Code} (h1 : s.methodNamed? y = some m) (h2 : s.vm.method? m = some meth) (h3 : meth.code = some c) (h4 : c.code = bytes)
    (h5 : (c.maxLocals == mx && c.exceptionTable.isEmpty && decide (c.maxStack ≤ mostOperands) && decide (meth.sig.returnType = rt) && !meth.locks && decide (parseMethodDescriptor y.desc = some meth.sig)) = true) : (Jvm.Cond.code y bytes mx rt).before a s = true := by
  simp only [Bool.and_eq_true, beq_iff_eq, Bool.not_eq_true', decide_eq_true_eq] at h5
  obtain ⟨⟨⟨⟨⟨g1, g2⟩, g3⟩, g4⟩, g5⟩, g6⟩ := h5
  simp [Cond.before, Cond.holds, Cond.value, h1, h2, h3, h4, g1, g2, g3, g4, g5, g6]
def isCode : Jvm.Cond → Bool
  | .code _ _ _ _ => true
  | _ => false
theorem all_split {L : List Jvm.Cond} {P : Jvm.Cond → Bool} (h1 : L.all (fun c => isCode c || P c) = true) (h2 : ∀ c ∈ L.filter isCode, P c = true) : L.all P = true := by
  refine List.all_eq_true.mpr fun c hc => ?_
  have h := List.all_eq_true.mp h1 c hc
  rcases Bool.eq_false_or_eq_true (isCode c) with hi | hi
  · exact h2 c (List.mem_filter.mpr ⟨hc, hi⟩)
  · simpa [hi] using h
set_option maxRecDepth 65536 in
theorem w_c0 : (Jvm.Cond.code x code maxLocals ret).before args0 about1 = true := code_word (m := ⟨1, 1⟩) (meth := k1m1) (c := k1c1) (by decide +kernel) rfl rfl rfl (by decide +kernel)
set_option maxRecDepth 65536 in
theorem w_c1 : (Jvm.Cond.code ({ cls := "com/example/checks_on_duty/checksonduty/engine/CoveringSearch", name := "decides", desc := "(JI)Z" } : Jvm.MethodName) prog_37_method_3_code (8 : Nat) (Option.some Jvm.ClassFile.FieldType.boolean)).before args0 about1 = true := code_word (m := ⟨2, 0⟩) (meth := k2m0) (c := k2c0) (by decide +kernel) rfl rfl rfl (by decide +kernel)
set_option maxRecDepth 65536 in
theorem w_c2 : (Jvm.Cond.code ({ cls := "com/example/checks_on_duty/checksonduty/engine/CoveringSearchDecidesPinLaw", name := "expected", desc := "(JI)Z" } : Jvm.MethodName) method_3_code (3 : Nat) (Option.some Jvm.ClassFile.FieldType.boolean)).before args0 about1 = true := code_word (m := ⟨1, 2⟩) (meth := k1m2) (c := k1c2) (by decide +kernel) rfl rfl rfl (by decide +kernel)
set_option maxRecDepth 65536 in
theorem w_c3 : (Jvm.Cond.code ({ cls := "com/example/checks_on_duty/checksonduty/engine/CoveringSearchDecidesPinLaw", name := "most", desc := "(I)I" } : Jvm.MethodName) method_4_code (1 : Nat) (Option.some Jvm.ClassFile.FieldType.int)).before args0 about1 = true := code_word (m := ⟨1, 3⟩) (meth := k1m3) (c := k1c3) (by decide +kernel) rfl rfl rfl (by decide +kernel)
def codes1 : List Jvm.Cond := [Jvm.Cond.code x code maxLocals ret, Jvm.Cond.code ({ cls := "com/example/checks_on_duty/checksonduty/engine/CoveringSearch", name := "decides", desc := "(JI)Z" } : Jvm.MethodName) prog_37_method_3_code (8 : Nat) (Option.some Jvm.ClassFile.FieldType.boolean), Jvm.Cond.code ({ cls := "com/example/checks_on_duty/checksonduty/engine/CoveringSearchDecidesPinLaw", name := "expected", desc := "(JI)Z" } : Jvm.MethodName) method_3_code (3 : Nat) (Option.some Jvm.ClassFile.FieldType.boolean), Jvm.Cond.code ({ cls := "com/example/checks_on_duty/checksonduty/engine/CoveringSearchDecidesPinLaw", name := "most", desc := "(I)I" } : Jvm.MethodName) method_4_code (1 : Nat) (Option.some Jvm.ClassFile.FieldType.int)]
set_option maxRecDepth 65536 in
theorem codes_eq : words1.filter isCode = codes1 := rfl
theorem w_codes : ∀ c ∈ words1.filter isCode, c.before args0 about1 = true := by
  rw [codes_eq]
  intro c hc
  simp only [codes1, List.mem_cons, List.not_mem_nil, or_false] at hc
  rcases hc with rfl | rfl | rfl | rfl
  · exact w_c0
  · exact w_c1
  · exact w_c2
  · exact w_c3
set_option maxRecDepth 65536 in
theorem w_t1 : words1.all (fun c => isCode c || c.before args0 about1) = true := by decide +kernel
theorem w_tables : (allAtoms (Jvm.Cond.code x code maxLocals ret :: tables_1)).before args0 about1 = true := by
  rw [allAtoms_all]
  show words1.all (fun c => c.before args0 about1) = true
  refine all_split ?_ w_codes
  rw [w_t1]
set_option maxRecDepth 65536 in
theorem w_case : (Jvm.Cond.and given_1 narrow_1).before args0 about1 = true := by decide +kernel
theorem w_applies : (headSpec (Jvm.Cond.code x code maxLocals ret :: tables_1) room_1).applies x e0.platform about1 = true :=
  (Spec.applies_iff w_frames).mpr ⟨w_running, w_runnable, w_alone, w_named, w_hears, w_ripe, w_room, w_tables⟩
theorem atStart : AtStart classFile x code maxLocals ret World_1 tables_1 room_1 Calls_1 rest_1 Pre_1 launch0 p0 e0 about1 theMethod args0 below0 :=
  ⟨lists_1, trivial, launch0.admits_env _ _ _, launch0.least_env, fairChoices_fair.cas, fairChoices_fair.clock, w_frames, w_args, w_heap, w_applies, trivial, trivial, w_case⟩
end start1
theorem witness_1 : WitnessClaimed_1 := ⟨start1.p0, start1.e0, start1.about1, start1.theMethod, start1.args0, start1.below0, start1.atStart⟩
end Jvm.Pilot.@@N@@
