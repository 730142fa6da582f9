import JvmDerived
import JvmDerived.Pilot.@@N@@Statement
import JvmDerived.Pilot.@@N@@Code
set_option linter.unusedVariables false
set_option linter.unusedSimpArgs false
/- laws to paste: Road.backV (cut by pick.py; bodies as the Statement names them) -/
namespace Jvm.Pilot.@@N@@
namespace StrChars
open Jvm Sem ClassFile Op Lib Jvm.Stand Jvm.Free.XT Jvm.Free.ALB Jvm.Free.JM Jvm.Free
open Jvm.Lib.Cold (StaticIs)
/-- a char array whose places are chars -/
def Ch (a : Addr) (A : Cell) (U : State) : Prop := Arr .char a A U ∧ Typed .char A
theorem Ch.mv {a : Addr} {A : Cell} {U U' : State} (h : Ch a A U) (hal : U.vm.Alike U'.vm) (hh : U'.heap = U.heap) : Ch a A U' := ⟨h.1.mv hal hh, h.2⟩
theorem Ch.keep {a : Addr} {A : Cell} {U U' : State} (h : Ch a A U) (hal : U.vm.Alike U'.vm) (hk : U'.heap[a]? = some A) : Ch a A U' := ⟨h.1.keep hal hk, h.2⟩
/-- what place i of a char[]'s cell holds -/
def cv (A : Cell) (i : Nat) : Int32 := match A.slots[i]? with | some (.int x) => x | _ => 0
theorem Ch.get {a : Addr} {A : Cell} {U : State} (h : Ch a A U) {i : Nat} (hi : i < A.slots.size) : A.slots[i]? = some (.int (cv A i)) := by
  have e := Array.getElem?_eq_getElem hi
  have f := h.2 i _ e
  unfold cv; rw [e]
  generalize A.slots[i] = v at f
  cases v <;> simp [fits] at f ⊢
/-- the byte that i2b leaves of a char -/
def lo8 (x : Int32) : Int32 := x.toInt8.toInt32
theorem fits_lo8 (y : Int32) : fits .byte (.int (lo8 y)) = true := by
  have h1 := y.toInt8.le_toInt
  have h2 := y.toInt8.toInt_lt
  simp only [lo8, fits, Bool.and_eq_true, decide_eq_true_eq, Int32.le_iff_toInt_le, Int8.toInt_toInt32, show (-128 : Int32).toInt = -128 from by decide, show (127 : Int32).toInt = 127 from by decide]
  omega
/-- A' is A but that each place j of lo .. hi - 1 holds f j -/
def Laid (A A' : Cell) (lo hi : Nat) (f : Nat → Value) : Prop := A'.cls = A.cls ∧ A'.vm = A.vm ∧ A'.slots.size = A.slots.size ∧ ∀ i, A'.slots[i]? = if lo ≤ i ∧ i < hi then some (f i) else A.slots[i]?
theorem Laid.zero (A : Cell) (lo : Nat) (f : Nat → Value) : Laid A A lo (lo + 0) f := ⟨rfl, rfl, rfl, fun i => by rw [if_neg (by omega)]⟩
theorem Laid.step {A Ak : Cell} {lo k : Nat} {f : Nat → Value} {v : Value} (h : Laid A Ak lo k f) (hlo : lo ≤ k) (hk : k < Ak.slots.size) (hv : v = f k) : Laid A (Ak.setSlot k v) lo (k + 1) f := by
  refine ⟨h.1, h.2.1, by simpa [Cell.setSlot] using h.2.2.1, fun i => ?_⟩
  by_cases e : k = i
  · subst e; rw [Cell.slots_setSlot_self v hk, if_pos (by omega), hv]
  · rw [Cell.slots_setSlot_ne v e, h.2.2.2 i]
    by_cases q : lo ≤ i ∧ i < k
    · rw [if_pos q, if_pos (by omega)]
    · rw [if_neg q, if_neg (by omega)]
def U16 : String := "java/lang/StringUTF16"
namespace Cmp5
def yN : MethodName := ⟨"java/lang/StringUTF16", "compress", "([CI[BII)I"⟩
abbrev yB : ByteArray := jdk_52_method_21_code
theorem d0 : decode yB 0 = .ok (.iconst 0, 1) := by decide +kernel
theorem d1 : decode yB 1 = .ok (.istore 5, 2) := by decide +kernel
theorem d3 : decode yB 3 = .ok (.iload 5, 2) := by decide +kernel
theorem d5 : decode yB 5 = .ok (.iload 4, 2) := by decide +kernel
theorem d7 : decode yB 7 = .ok (.if_icmp (.ge) 37, 3) := by decide +kernel
theorem d10 : decode yB 10 = .ok (.aload_n 0, 1) := by decide +kernel
theorem d11 : decode yB 11 = .ok (.iload_n 1, 1) := by decide +kernel
theorem d12 : decode yB 12 = .ok (.caload, 1) := by decide +kernel
theorem d13 : decode yB 13 = .ok (.istore 6, 2) := by decide +kernel
theorem d15 : decode yB 15 = .ok (.iload 6, 2) := by decide +kernel
theorem d17 : decode yB 17 = .ok (.sipush 255, 3) := by decide +kernel
theorem d20 : decode yB 20 = .ok (.if_icmp (.le) 6, 3) := by decide +kernel
theorem d26 : decode yB 26 = .ok (.aload_n 2, 1) := by decide +kernel
theorem d27 : decode yB 27 = .ok (.iload_n 3, 1) := by decide +kernel
theorem d28 : decode yB 28 = .ok (.iload 6, 2) := by decide +kernel
theorem d30 : decode yB 30 = .ok (.i2b, 1) := by decide +kernel
theorem d31 : decode yB 31 = .ok (.bastore, 1) := by decide +kernel
theorem d32 : decode yB 32 = .ok (.iinc 1 1, 3) := by decide +kernel
theorem d35 : decode yB 35 = .ok (.iinc 3 1, 3) := by decide +kernel
theorem d38 : decode yB 38 = .ok (.iinc 5 1, 3) := by decide +kernel
theorem d41 : decode yB 41 = .ok (.goto (-38), 3) := by decide +kernel
theorem d44 : decode yB 44 = .ok (.iload 4, 2) := by decide +kernel
theorem d46 : decode yB 46 = .ok (.ireturn, 1) := by decide +kernel
def site : List Cond := []
def tab : Cond := tabOf yN yB 7 (some .int) site
def P (b : Addr) (A : Cell) (d : Addr) (B : Cell) (o q len : Nat) (args : Array Value) (s : State) : Prop := args = #[.ref b, .int (Int32.ofNat o), .ref d, .int (Int32.ofNat q), .int (Int32.ofNat len)] ∧ Ch b A s ∧ Arr .byte d B s ∧ b ≠ d ∧ o + len ≤ A.slots.size ∧ q + len ≤ B.slots.size ∧ ∀ i, i < len → ¬ 255 < cv A (o + i)
def E (b : Addr) (A : Cell) (d : Addr) (B : Cell) (o q len : Nat) (r : Option Value) (s u : State) : Prop := r = some (.int (Int32.ofNat len)) ∧ ∃ B', Put d B' s u ∧ Laid B B' q (q + len) (fun j => Value.int (lo8 (cv A (o + (j - q)))))
/-- no char of the range above 255: len; the places written hold each char's low byte -/
theorem law (l : Launch) (b : Addr) (A : Cell) (d : Addr) (B : Cell) (o q len : Nat) : Law l yN 5 5 0 0 yB 7 (some .int) site (P b A d B o q len) (E b A d B o q len) (copyLocs d q len) 0 0 := by
  refine Law.of_walk (plainFor_of_name (by decide +kernel)) (by decide +kernel) (by decide +kernel) (by decide) (fun _ _ h => by rw [h.1]; rfl) (fun _ U U' hal hh h => ⟨h.1, h.2.1.mv hal hh, h.2.2.1.mv hal hh, h.2.2.2⟩) (fun r U U' V V' h1 hal h2 h => ⟨h.1, h.2.elim fun B' q => ⟨B', q.1.mv h1 h2, q.2⟩⟩) ?_
  intro p e s m args below meth c s₁ X0 hexec hbytes hml hret hlk hnm hown hh0 W hP
  obtain ⟨rfl, hA, hB, hne, l1, l2, hp⟩ := hP
  have c1 : Steps p.tables e below (s₁.setTop (entryFrame m #[.ref b, .int (Int32.ofNat o), .ref d, .int (Int32.ofNat q), .int (Int32.ofNat len)] 7)) (s₁.setTop (mkF m 0 #[.val (.ref b), .val (.int (Int32.ofNat o)), .val (.ref d), .val (.int (Int32.ofNat q)), .val (.int (Int32.ofNat len)), .unset, .unset] [])) := entry rfl
  have hA0 := hA.1.mv X0.warmed.alike hh0
  have hB0 := hB.mv X0.warmed.alike hh0
  have a31 := hA.1.2.2.2
  have c2 : Steps p.tables e below (s₁.setTop (entryFrame m #[.ref b, .int (Int32.ofNat o), .ref d, .int (Int32.ofNat q), .int (Int32.ofNat len)] 7)) (s₁.setTop (mkF m 3 #[.val (.ref b), .val (.int (Int32.ofNat o)), .val (.ref d), .val (.int (Int32.ofNat q)), .val (.int (Int32.ofNat len)), .val (.int 0), .unset] [])) := c1.trans (by
    refine iconstV X0.here hexec rfl 0 (hb hbytes d0) (by decide) ?_
    refine XS.istore X0.here hexec rfl (hb hbytes d1) rfl rfl ?_
    exact Steps.refl _)
  have loop : ∀ (r i : Nat), i + r = len → ∀ (z : Slot), (z = .unset ∨ ∃ w, z = .val w ∧ w.category = 1) → ∀ (Tl : State) (Bk : Cell), Stand p l e { frames := 0, locals := 0, cells := 0, slots := 0 } s m #[.ref b, .int (Int32.ofNat o), .ref d, .int (Int32.ofNat q), .int (Int32.ofNat len)] below meth c Tl ([] ++ copyLocs d q i) 0 0 → Put d Bk s₁ Tl → Laid B Bk q (q + i) (fun j => Value.int (lo8 (cv A (o + (j - q))))) →
      Steps p.tables e below (s₁.setTop (entryFrame m #[.ref b, .int (Int32.ofNat o), .ref d, .int (Int32.ofNat q), .int (Int32.ofNat len)] 7)) (Tl.setTop (mkF m 3 #[.val (.ref b), .val (.int (Int32.ofNat (o + i))), .val (.ref d), .val (.int (Int32.ofNat (q + i))), .val (.int (Int32.ofNat len)), .val (.int (Int32.ofNat i)), z] [])) → ∃ (T' : State) (B' : Cell) (z' : Slot), Stand p l e { frames := 0, locals := 0, cells := 0, slots := 0 } s m #[.ref b, .int (Int32.ofNat o), .ref d, .int (Int32.ofNat q), .int (Int32.ofNat len)] below meth c T' ([] ++ copyLocs d q len) 0 0 ∧ Put d B' s₁ T' ∧ Laid B B' q (q + len) (fun j => Value.int (lo8 (cv A (o + (j - q))))) ∧
      Steps p.tables e below (s₁.setTop (entryFrame m #[.ref b, .int (Int32.ofNat o), .ref d, .int (Int32.ofNat q), .int (Int32.ofNat len)] 7)) (T'.setTop (mkF m 3 #[.val (.ref b), .val (.int (Int32.ofNat (o + len))), .val (.ref d), .val (.int (Int32.ofNat (q + len))), .val (.int (Int32.ofNat len)), .val (.int (Int32.ofNat len)), z'] [])) := by
    intro r
    induction r with
    | zero =>
      intro i hi z hz Tl Bk Xl pl fl cl
      have hil : i = len := by omega
      rw [hil] at Xl fl cl
      exact ⟨Tl, Bk, z, Xl, pl, fl, cl⟩
    | succ r ih =>
      intro i hi z hz Tl Bk Xl pl fl cl
      have all := X0.warmed.alike.symm.trans Xl.warmed.alike
      have hAl := hA0.keep all (pl.other hne hA0.1)
      have hBk := hB0.like all pl.1 fl.1 fl.2.1 fl.2.2.1
      have hlt : q + i < Bk.slots.size := by rw [fl.2.2.1]; omega
      have c3 : Steps p.tables e below (s₁.setTop (entryFrame m #[.ref b, .int (Int32.ofNat o), .ref d, .int (Int32.ofNat q), .int (Int32.ofNat len)] 7)) (Tl.setTop (mkF m 12 #[.val (.ref b), .val (.int (Int32.ofNat (o + i))), .val (.ref d), .val (.int (Int32.ofNat (q + i))), .val (.int (Int32.ofNat len)), .val (.int (Int32.ofNat i)), z] [.int (Int32.ofNat (o + i)), .ref b])) := cl.trans (by
        refine XS.iload Xl.here hexec rfl (hb hbytes d3) rfl ?_
        refine XS.iload Xl.here hexec rfl (hb hbytes d5) rfl ?_
        refine XS.icmpNo Xl.here hexec rfl (hb hbytes d7) rfl (ii_ge_f (lt32 (by omega) (by omega))) ?_
        refine XS.aloadN Xl.here hexec rfl (hb hbytes d10) rfl rfl ?_
        refine XS.iloadN Xl.here hexec rfl (hb hbytes d11) rfl ?_
        exact Steps.refl _)
      have c4 : Steps p.tables e below (s₁.setTop (entryFrame m #[.ref b, .int (Int32.ofNat o), .ref d, .int (Int32.ofNat q), .int (Int32.ofNat len)] 7)) (Tl.setTop (mkF m 13 #[.val (.ref b), .val (.int (Int32.ofNat (o + i))), .val (.ref d), .val (.int (Int32.ofNat (q + i))), .val (.int (Int32.ofNat len)), .val (.int (Int32.ofNat i)), z] [.int (cv A (o + i))])) := c3.trans (by
        refine Xl.aget hexec hAl rfl (hA.get (i := o + i) (by omega)) rfl rfl (hb hbytes d12) ?_
        exact Steps.refl _)
      have c5 : Steps p.tables e below (s₁.setTop (entryFrame m #[.ref b, .int (Int32.ofNat o), .ref d, .int (Int32.ofNat q), .int (Int32.ofNat len)] 7)) (Tl.setTop (mkF m 15 #[.val (.ref b), .val (.int (Int32.ofNat (o + i))), .val (.ref d), .val (.int (Int32.ofNat (q + i))), .val (.int (Int32.ofNat len)), .val (.int (Int32.ofNat i)), .val (.int (cv A (o + i)))] [])) := c4.trans (by
        refine XS.istoreS Xl.here hexec rfl (hb hbytes d13) rfl rfl hz ?_
        exact Steps.refl _)
      have c6 : Steps p.tables e below (s₁.setTop (entryFrame m #[.ref b, .int (Int32.ofNat o), .ref d, .int (Int32.ofNat q), .int (Int32.ofNat len)] 7)) (Tl.setTop (mkF m 31 #[.val (.ref b), .val (.int (Int32.ofNat (o + i))), .val (.ref d), .val (.int (Int32.ofNat (q + i))), .val (.int (Int32.ofNat len)), .val (.int (Int32.ofNat i)), .val (.int (cv A (o + i)))] [.int (lo8 (cv A (o + i))), .int (Int32.ofNat (q + i)), .ref d])) := c5.trans (by
        refine XS.iload Xl.here hexec rfl (hb hbytes d15) rfl ?_
        refine sipushV Xl.here hexec rfl 255 (hb hbytes d17) (by decide) ?_
        refine XS.icmpYes Xl.here hexec rfl (pc0 := 20) rfl (hb hbytes d20) rfl (ii_le_t (hp i (by omega))) (by decide) rfl ?_
        refine XS.aloadN Xl.here hexec rfl (hb hbytes d26) rfl rfl ?_
        refine XS.iloadN Xl.here hexec rfl (hb hbytes d27) rfl ?_
        refine XS.iload Xl.here hexec rfl (hb hbytes d28) rfl ?_
        refine i2b Xl.here hexec rfl (hb hbytes d30) rfl ?_
        exact Steps.refl _)
      obtain ⟨T7, X7, p7, st7⟩ := Xl.aput hexec hBk rfl hlt rfl (fits_lo8 (cv A (o + i))) (g := (mkF m 31 #[.val (.ref b), .val (.int (Int32.ofNat (o + i))), .val (.ref d), .val (.int (Int32.ofNat (q + i))), .val (.int (Int32.ofNat len)), .val (.int (Int32.ofNat i)), .val (.int (cv A (o + i)))] [.int (lo8 (cv A (o + i))), .int (Int32.ofNat (q + i)), .ref d])) rfl (rest := []) rfl (hb hbytes d31)
      have c8 : Steps p.tables e below (s₁.setTop (entryFrame m #[.ref b, .int (Int32.ofNat o), .ref d, .int (Int32.ofNat q), .int (Int32.ofNat len)] 7)) (T7.setTop (mkF m 32 #[.val (.ref b), .val (.int (Int32.ofNat (o + i))), .val (.ref d), .val (.int (Int32.ofNat (q + i))), .val (.int (Int32.ofNat len)), .val (.int (Int32.ofNat i)), .val (.int (cv A (o + i)))] [])) := c6.trans (st7 _ (Steps.refl _))
      have c9 : Steps p.tables e below (s₁.setTop (entryFrame m #[.ref b, .int (Int32.ofNat o), .ref d, .int (Int32.ofNat q), .int (Int32.ofNat len)] 7)) (T7.setTop (mkF m 3 #[.val (.ref b), .val (.int (Int32.ofNat (o + i) + 1)), .val (.ref d), .val (.int (Int32.ofNat (q + i) + 1)), .val (.int (Int32.ofNat len)), .val (.int (Int32.ofNat i + 1)), .val (.int (cv A (o + i)))] [])) := c8.trans (by
        refine iincV X7.here hexec rfl 1 (hb hbytes d32) (by decide) rfl rfl ?_
        refine iincV X7.here hexec rfl 1 (hb hbytes d35) (by decide) rfl rfl ?_
        refine iincV X7.here hexec rfl 1 (hb hbytes d38) (by decide) rfl rfl ?_
        refine XS.goto X7.here hexec rfl (pc0 := 41) rfl (hb hbytes d41) (by decide) rfl ?_
        exact Steps.refl _)
      have c10 : Steps p.tables e below (s₁.setTop (entryFrame m #[.ref b, .int (Int32.ofNat o), .ref d, .int (Int32.ofNat q), .int (Int32.ofNat len)] 7)) (T7.setTop (mkF m 3 #[.val (.ref b), .val (.int (Int32.ofNat (o + (i + 1)))), .val (.ref d), .val (.int (Int32.ofNat (q + (i + 1)))), .val (.int (Int32.ofNat len)), .val (.int (Int32.ofNat (i + 1))), .val (.int (cv A (o + i)))] [])) := by
        have := c9
        rw [succ32, succ32, succ32] at this
        exact this
      exact ih (i + 1) (by omega) _ (Or.inr ⟨_, rfl, rfl⟩) T7 _ (by rw [copyLocs_step, ← List.append_assoc]; exact X7) (pl.trans p7) (fl.step (by omega) hlt (by simp)) c10
  obtain ⟨T9, B9, z9, X9, p9, f9, g9⟩ := loop len 0 (by omega) .unset (Or.inl rfl) s₁ B (by simpa [copyLocs] using X0) ⟨hB0.1, fun _ _ => rfl, rfl⟩ (Laid.zero _ _ _) c2
  have c11 : Steps p.tables e below (s₁.setTop (entryFrame m #[.ref b, .int (Int32.ofNat o), .ref d, .int (Int32.ofNat q), .int (Int32.ofNat len)] 7)) (T9.setTop (mkF m 46 #[.val (.ref b), .val (.int (Int32.ofNat (o + len))), .val (.ref d), .val (.int (Int32.ofNat (q + len))), .val (.int (Int32.ofNat len)), .val (.int (Int32.ofNat len)), z9] [.int (Int32.ofNat len)])) := g9.trans (by
    refine XS.iload X9.here hexec rfl (hb hbytes d3) rfl ?_
    refine XS.iload X9.here hexec rfl (hb hbytes d5) rfl ?_
    refine XS.icmpYes X9.here hexec rfl (pc0 := 7) rfl (hb hbytes d7) rfl (ii_ge_t (nlt32 (by omega) (Nat.le_refl _))) (by decide) rfl ?_
    refine XS.iload X9.here hexec rfl (hb hbytes d44) rfl ?_
    exact Steps.refl _)
  exact ⟨T9, some (.int (Int32.ofNat len)), _, _, _, X9, by simp, rfl, rfl, (fun h => by cases h), ⟨rfl, B9, p9.from hh0, f9⟩, fun fs hl => c11.trans (X9.ireturnOut hexec hret rfl (Or.inl rfl) (hb hbytes d46) hl)⟩
end Cmp5
namespace Cmp3
def yN : MethodName := ⟨"java/lang/StringUTF16", "compress", "([CII)[B"⟩
abbrev yB : ByteArray := jdk_52_method_16_code
theorem d0 : decode yB 0 = .ok (.iload_n 2, 1) := by decide +kernel
theorem d1 : decode yB 1 = .ok (.newarray .byte, 2) := by decide +kernel
theorem d3 : decode yB 3 = .ok (.astore_n 3, 1) := by decide +kernel
theorem d4 : decode yB 4 = .ok (.aload_n 0, 1) := by decide +kernel
theorem d5 : decode yB 5 = .ok (.iload_n 1, 1) := by decide +kernel
theorem d6 : decode yB 6 = .ok (.aload_n 3, 1) := by decide +kernel
theorem d7 : decode yB 7 = .ok (.iconst 0, 1) := by decide +kernel
theorem d8 : decode yB 8 = .ok (.iload_n 2, 1) := by decide +kernel
theorem d9 : decode yB 9 = .ok (.invokestatic 115, 3) := by decide +kernel
theorem d12 : decode yB 12 = .ok (.istore 4, 2) := by decide +kernel
theorem d14 : decode yB 14 = .ok (.iload 4, 2) := by decide +kernel
theorem d16 : decode yB 16 = .ok (.iload_n 2, 1) := by decide +kernel
theorem d17 : decode yB 17 = .ok (.if_icmp (.eq) 40, 3) := by decide +kernel
theorem d57 : decode yB 57 = .ok (.aload_n 3, 1) := by decide +kernel
theorem d58 : decode yB 58 = .ok (.areturn, 1) := by decide +kernel
def site : List Cond := [.arrayClass .byte, Cmp5.tab] ++ staticW U16 115 Cmp5.yN
def tab : Cond := tabOf yN yB 6 (some (.array .byte)) site
def P (b : Addr) (A : Cell) (o len : Nat) (args : Array Value) (s : State) : Prop := args = #[.ref b, .int (Int32.ofNat o), .int (Int32.ofNat len)] ∧ Ch b A s ∧ o + len ≤ A.slots.size ∧ len ≤ 536870912 ∧ ∀ i, i < len → ¬ 255 < cv A (o + i)
def E (b : Addr) (A : Cell) (o len : Nat) (r : Option Value) (s u : State) : Prop := NewArr .byte "[B" len (fun j => .int (lo8 (cv A (o + j)))) r s u ∧ u.heap.size = s.heap.size + 1
/-- no char of the range above 255: a new byte[] of their low bytes -/
theorem law (l : Launch) (b : Addr) (A : Cell) (o len : Nat) : Law l yN 3 3 1 18 yB 6 (some (.array .byte)) site (P b A o len) (E b A o len) [] 1 len := by
  refine Law.of_walk (plainFor_of_name (by decide +kernel)) (by decide +kernel) (by decide +kernel) (by decide) (fun _ _ h => by rw [h.1]; rfl) (fun _ U U' hal hh h => ⟨h.1, h.2.1.mv hal hh, h.2.2⟩) (fun r U U' V V' h1 hal h2 h => ⟨NewArr.mv r U U' V V' h1 hal h2 h.1, by rw [h1, h2]; exact h.2⟩) ?_
  intro p e s m args below meth c s₁ X0 hexec hbytes hml hret hlk hnm hown hh0 W hP
  obtain ⟨rfl, hA, l1, l2, hp⟩ := hP
  have a31 := hA.1.2.2.2
  have c1 : Steps p.tables e below (s₁.setTop (entryFrame m #[.ref b, .int (Int32.ofNat o), .int (Int32.ofNat len)] 6)) (s₁.setTop (mkF m 0 #[.val (.ref b), .val (.int (Int32.ofNat o)), .val (.int (Int32.ofNat len)), .unset, .unset, .unset] [])) := entry rfl
  have c2 : Steps p.tables e below (s₁.setTop (entryFrame m #[.ref b, .int (Int32.ofNat o), .int (Int32.ofNat len)] 6)) (s₁.setTop (mkF m 1 #[.val (.ref b), .val (.int (Int32.ofNat o)), .val (.int (Int32.ofNat len)), .unset, .unset, .unset] [.int (Int32.ofNat len)])) := c1.trans (by
    refine XS.iloadN X0.here hexec rfl (hb hbytes d0) rfl ?_
    exact Steps.refl _)
  obtain ⟨T3, B3, X3, ba3, bs3, bv3, bh3, bf3, st3⟩ := X0.anew hexec (atype := .byte) (wk W (.arrayClass .byte)) rfl (by show len * 1 ≤ _; omega) (by omega) (g := (mkF m 1 #[.val (.ref b), .val (.int (Int32.ofNat o)), .val (.int (Int32.ofNat len)), .unset, .unset, .unset] [.int (Int32.ofNat len)])) rfl (hb hbytes d1) (rest := []) rfl (Nat.le_refl _) (by show 0 + len ≤ len; omega)
  rw [hh0] at ba3 st3
  have kp3 : XT.Kept s T3 := (XT.Kept.of_eq hh0).push bh3
  have hA3 := hA.keep X3.warmed.alike (kp3 _ _ hA.1.1)
  have hne : b ≠ s.heap.size := hA.1.ne
  have c4 : Steps p.tables e below (s₁.setTop (entryFrame m #[.ref b, .int (Int32.ofNat o), .int (Int32.ofNat len)] 6)) (T3.setTop (mkF m 3 #[.val (.ref b), .val (.int (Int32.ofNat o)), .val (.int (Int32.ofNat len)), .unset, .unset, .unset] [.ref s.heap.size])) := c2.trans (st3 _ (Steps.refl _))
  have c5 : Steps p.tables e below (s₁.setTop (entryFrame m #[.ref b, .int (Int32.ofNat o), .int (Int32.ofNat len)] 6)) (T3.setTop (mkF m 9 #[.val (.ref b), .val (.int (Int32.ofNat o)), .val (.int (Int32.ofNat len)), .val (.ref s.heap.size), .unset, .unset] [.int (Int32.ofNat len), .int 0, .ref s.heap.size, .int (Int32.ofNat o), .ref b])) := c4.trans (by
    refine XS.astoreN X3.here hexec rfl (hb hbytes d3) rfl rfl rfl ?_
    refine XS.aloadN X3.here hexec rfl (hb hbytes d4) rfl rfl ?_
    refine XS.iloadN X3.here hexec rfl (hb hbytes d5) rfl ?_
    refine XS.aloadN X3.here hexec rfl (hb hbytes d6) rfl rfl ?_
    refine iconstV X3.here hexec rfl 0 (hb hbytes d7) (by decide) ?_
    refine XS.iloadN X3.here hexec rfl (hb hbytes d8) rfl ?_
    exact Steps.refl _)
  obtain ⟨v6, T6, X6, E6, g6⟩ := X3.callS hexec (Cmp5.law l b A s.heap.size B3 o 0 len) hown (wks W (staticW U16 115 Cmp5.yN)) (wk W Cmp5.tab) (W := 0) (Nat.le_of_ble_eq_true rfl) (Nat.le_of_ble_eq_true rfl) (Nat.le_refl _) (by show 0 + len + 0 ≤ len; omega) (g := (mkF m 9 #[.val (.ref b), .val (.int (Int32.ofNat o)), .val (.int (Int32.ofNat len)), .val (.ref s.heap.size), .unset, .unset] [.int (Int32.ofNat len), .int (Int32.ofNat 0), .ref s.heap.size, .int (Int32.ofNat o), .ref b])) rfl (by rw [hml]; rfl) c5 (argsL := [.ref b, .int (Int32.ofNat o), .ref s.heap.size, .int (Int32.ofNat 0), .int (Int32.ofNat len)]) (rest := []) rfl rfl (by show 2 * 0 + 0 ≤ _; decide) (hb hbytes d9) (⟨rfl, hA3, ba3, hne, l1, by rw [bs3]; simp, hp⟩)
  obtain ⟨rfl, B6, p6, f6⟩ := E6
  have c7 : Steps p.tables e below (s₁.setTop (entryFrame m #[.ref b, .int (Int32.ofNat o), .int (Int32.ofNat len)] 6)) (T6.setTop (mkF m 12 #[.val (.ref b), .val (.int (Int32.ofNat o)), .val (.int (Int32.ofNat len)), .val (.ref s.heap.size), .unset, .unset] [.int (Int32.ofNat len)])) := g6
  have c8 : Steps p.tables e below (s₁.setTop (entryFrame m #[.ref b, .int (Int32.ofNat o), .int (Int32.ofNat len)] 6)) (T6.setTop (mkF m 58 #[.val (.ref b), .val (.int (Int32.ofNat o)), .val (.int (Int32.ofNat len)), .val (.ref s.heap.size), .val (.int (Int32.ofNat len)), .unset] [.ref s.heap.size])) := c7.trans (by
    refine XS.istore X6.here hexec rfl (hb hbytes d12) rfl rfl ?_
    refine XS.iload X6.here hexec rfl (hb hbytes d14) rfl ?_
    refine XS.iloadN X6.here hexec rfl (hb hbytes d16) rfl ?_
    refine XS.icmpYes X6.here hexec rfl (pc0 := 17) rfl (hb hbytes d17) rfl (ii_eq_t rfl) (by decide) rfl ?_
    refine XS.aloadN X6.here hexec rfl (hb hbytes d57) rfl rfl ?_
    exact Steps.refl _)
  have X8 := X6.wide (L' := []) (cells' := 1) (slots' := len) (fun x hx hlt => by
    simp only [List.nil_append, copyLocs, List.mem_map, List.mem_range] at hx
    obtain ⟨i, -, rfl⟩ := hx
    exact absurd hlt (Nat.lt_irrefl _)) (Nat.le_refl _) (by omega)
  exact ⟨T6, some (.ref s.heap.size), _, _, _, X8, rfl, rfl, rfl, (fun h => by cases h), ⟨⟨rfl, B6, ba3.like (X3.warmed.alike.symm.trans X6.warmed.alike) p6.1 f6.1 f6.2.1 f6.2.2.1, f6.2.1.trans bv3, by rw [X6.warmed.alike.findClass, f6.1]; exact bf3, by rw [f6.2.2.1, bs3]; simp, fun j hj => by rw [f6.2.2.2 j, if_pos (by omega)]; rfl, kp3.put p6 (Nat.le_refl _)⟩, by rw [p6.2.2, bh3, hh0]; simp⟩, fun fs hl => c8.trans (X8.areturnOut hexec rfl hret rfl (hb hbytes d58) hl)⟩
end Cmp3
namespace CodL
def yN : MethodName := ⟨"java/lang/StringUTF16", "coderFromArrayLen", "([BI)B"⟩
abbrev yB : ByteArray := jdk_52_method_15_code
theorem d0 : decode yB 0 = .ok (.iload_n 1, 1) := by decide +kernel
theorem d1 : decode yB 1 = .ok (.aload_n 0, 1) := by decide +kernel
theorem d2 : decode yB 2 = .ok (.arraylength, 1) := by decide +kernel
theorem d3 : decode yB 3 = .ok (.isub, 1) := by decide +kernel
theorem d4 : decode yB 4 = .ok (.bipush 31, 2) := by decide +kernel
theorem d6 : decode yB 6 = .ok (.iushr, 1) := by decide +kernel
theorem d7 : decode yB 7 = .ok (.i2b, 1) := by decide +kernel
theorem d8 : decode yB 8 = .ok (.ireturn, 1) := by decide +kernel
def site : List Cond := []
def tab : Cond := tabOf yN yB 2 (some .byte) site
def P (d : Addr) (B : Cell) (args : Array Value) (s : State) : Prop := args = #[.ref d, .int (Int32.ofNat B.slots.size)] ∧ Arr .byte d B s
def E (r : Option Value) (s u : State) : Prop := XT.PureE (some (.int 0)) r s u
/-- an array as long as the number of chars: LATIN1 -/
theorem law (l : Launch) (d : Addr) (B : Cell) : Law l yN 2 2 0 0 yB 2 (some .byte) site (P d B) E [] 0 0 := by
  refine Law.of_walk (plainFor_of_name (by decide +kernel)) (by decide +kernel) (by decide +kernel) (by decide) (fun _ _ h => by rw [h.1]; rfl) (fun _ U U' hal hh h => ⟨h.1, h.2.mv hal hh⟩) (fun r U U' V V' h1 hal h2 h => XT.PureE.mv r U U' V V' h1 hal h2 h) ?_
  intro p e s m args below meth c s₁ X0 hexec hbytes hml hret hlk hnm hown hh0 W hP
  obtain ⟨rfl, hB⟩ := hP
  have hB0 := hB.mv X0.warmed.alike hh0
  have c1 : Steps p.tables e below (s₁.setTop (entryFrame m #[.ref d, .int (Int32.ofNat B.slots.size)] 2)) (s₁.setTop (mkF m 0 #[.val (.ref d), .val (.int (Int32.ofNat B.slots.size))] [])) := entry rfl
  have c2 : Steps p.tables e below (s₁.setTop (entryFrame m #[.ref d, .int (Int32.ofNat B.slots.size)] 2)) (s₁.setTop (mkF m 2 #[.val (.ref d), .val (.int (Int32.ofNat B.slots.size))] [.ref d, .int (Int32.ofNat B.slots.size)])) := c1.trans (by
    refine XS.iloadN X0.here hexec rfl (hb hbytes d0) rfl ?_
    refine XS.aloadN X0.here hexec rfl (hb hbytes d1) rfl rfl ?_
    exact Steps.refl _)
  have c3 : Steps p.tables e below (s₁.setTop (entryFrame m #[.ref d, .int (Int32.ofNat B.slots.size)] 2)) (s₁.setTop (mkF m 8 #[.val (.ref d), .val (.int (Int32.ofNat B.slots.size))] [.int (lo8 (ushr (Int32.ofNat B.slots.size - Int32.ofNat B.slots.size) 31))])) := c2.trans (by
    refine X0.alen hexec hB0 rfl rfl (hb hbytes d2) ?_
    refine XS.isub X0.here hexec rfl (hb hbytes d3) rfl ?_
    refine bipushV X0.here hexec rfl 31 (hb hbytes d4) (by decide) ?_
    refine iushr X0.here hexec rfl (hb hbytes d6) rfl ?_
    refine i2b X0.here hexec rfl (hb hbytes d7) rfl ?_
    exact Steps.refl _)
  have e0 : lo8 (ushr (Int32.ofNat B.slots.size - Int32.ofNat B.slots.size) 31) = 0 := by rw [Int32.sub_self]; decide
  rw [e0] at c3
  exact ⟨s₁, some (.int 0), _, _, _, X0, rfl, rfl, rfl, (fun h => by cases h), ⟨rfl, hh0⟩, fun fs hl => c3.trans (X0.ireturnOut hexec hret rfl (Or.inr (Or.inr (Or.inl rfl))) (hb hbytes d8) hl)⟩
end CodL
/-- the String at a is Latin-1 over a new byte[] (the heap's one new cell): the low bytes of the len chars of A from o on; every cell but a is kept -/
def Got (a : Addr) (D : Cell) (fV fC : Field) (A : Cell) (o len : Nat) (r : Option Value) (s u : State) : Prop := r = none ∧ ∃ D' V : Cell, Blank "java/lang/String" a D' u ∧ Same D D' [fV.slot, fC.slot] ∧ D'.slots[fV.slot]? = some (.ref s.heap.size) ∧ D'.slots[fC.slot]? = some (.int 0) ∧ Arr .byte s.heap.size V u ∧ V.vm = .none ∧ u.vm.findClass "[B" = some V.cls ∧ V.slots.size = len ∧ (∀ j, j < len → V.slots[j]? = some (.int (lo8 (cv A (o + j))))) ∧ (∀ (y : Addr) (c : Cell), y ≠ a → s.heap[y]? = some c → u.heap[y]? = some c) ∧ u.heap.size = s.heap.size + 1
theorem Got.mv {a : Addr} {D A : Cell} {fV fC : Field} {o len : Nat} : ∀ r (U U' V V' : State), U'.heap = U.heap → V.vm.Alike V'.vm → V'.heap = V.heap → Got a D fV fC A o len r U V → Got a D fV fC A o len r U' V' :=
  fun r U U' V V' h1 hal h2 ⟨e0, D', X, a1, a2, a3, a4, a5, a6, a7, a8, a9, a10, a11⟩ => ⟨e0, D', X, a1.mv hal h2, a2, by rw [h1]; exact a3, a4, by rw [h1]; exact a5.mv hal h2, a6, by rw [hal.findClass]; exact a7, a8, a9, by rw [h1, h2]; exact a10, by rw [h1, h2]; exact a11⟩
namespace New4
def yN : MethodName := ⟨"java/lang/String", "<init>", "([CIILjava/lang/Void;)V"⟩
abbrev yB : ByteArray := jdk_42_method_149_code
theorem d0 : decode yB 0 = .ok (.aload_n 0, 1) := by decide +kernel
theorem d1 : decode yB 1 = .ok (.invokespecial 1, 3) := by decide +kernel
theorem d4 : decode yB 4 = .ok (.iload_n 3, 1) := by decide +kernel
theorem d5 : decode yB 5 = .ok (.ifCond (.ne) 22, 3) := by decide +kernel
theorem d27 : decode yB 27 = .ok (.getstatic 38, 3) := by decide +kernel
theorem d30 : decode yB 30 = .ok (.ifCond (.eq) 28, 3) := by decide +kernel
theorem d33 : decode yB 33 = .ok (.aload_n 1, 1) := by decide +kernel
theorem d34 : decode yB 34 = .ok (.iload_n 2, 1) := by decide +kernel
theorem d35 : decode yB 35 = .ok (.iload_n 3, 1) := by decide +kernel
theorem d36 : decode yB 36 = .ok (.invokestatic 177, 3) := by decide +kernel
theorem d39 : decode yB 39 = .ok (.astore 5, 2) := by decide +kernel
theorem d41 : decode yB 41 = .ok (.aload_n 0, 1) := by decide +kernel
theorem d42 : decode yB 42 = .ok (.aload 5, 2) := by decide +kernel
theorem d44 : decode yB 44 = .ok (.iload_n 3, 1) := by decide +kernel
theorem d45 : decode yB 45 = .ok (.invokestatic 47, 3) := by decide +kernel
theorem d48 : decode yB 48 = .ok (.putfield 15, 3) := by decide +kernel
theorem d51 : decode yB 51 = .ok (.aload_n 0, 1) := by decide +kernel
theorem d52 : decode yB 52 = .ok (.aload 5, 2) := by decide +kernel
theorem d54 : decode yB 54 = .ok (.putfield 9, 3) := by decide +kernel
theorem d57 : decode yB 57 = .ok (.return_, 1) := by decide +kernel
def site : List Cond := [.fieldLink "java/lang/String" 38 "java/lang/String" "COMPACT_STRINGS" "Z", Cmp3.tab, CodL.tab, .laysFinal "java/lang/String" "java/lang/String" "value" "[B", .fieldLink "java/lang/String" 9 "java/lang/String" "value" "[B", .laysFinal "java/lang/String" "java/lang/String" "coder" "B", .fieldLink "java/lang/String" 15 "java/lang/String" "coder" "B"] ++ objW "java/lang/String" 1 ++ staticW "java/lang/String" 177 Cmp3.yN ++ staticW "java/lang/String" 47 CodL.yN
def tab : Cond := tabOf yN yB 6 none site
def P (a : Addr) (D : Cell) (fV fC : Field) (b : Addr) (A : Cell) (z : Int32) (o len : Nat) (args : Array Value) (s : State) : Prop := args = #[.ref a, .ref b, .int (Int32.ofNat o), .int (Int32.ofNat len), .null] ∧ Blank "java/lang/String" a D s ∧ Found "java/lang/String" "value" "[B" fV s ∧ Found "java/lang/String" "coder" "B" fC s ∧ Ch b A s ∧ StaticIs s "java/lang/String" "COMPACT_STRINGS" "Z" (.int z) ∧ ¬ z = 0 ∧ 0 < len ∧ o + len ≤ A.slots.size ∧ len ≤ 536870912 ∧ ∀ i, i < len → ¬ 255 < cv A (o + i)
def E (a : Addr) (D : Cell) (fV fC : Field) (A : Cell) (o len : Nat) (r : Option Value) (s u : State) : Prop := Got a D fV fC A o len r s u
/-- len > 0, no char of the range above 255: a Latin-1 String of their low bytes -/
theorem law (l : Launch) (a : Addr) (D : Cell) (fV fC : Field) (b : Addr) (A : Cell) (z : Int32) (o len : Nat) : Law l yN 5 4 2 35 yB 6 none site (P a D fV fC b A z o len) (E a D fV fC A o len) [⟨a, fC.slot⟩, ⟨a, fV.slot⟩] 1 len := by
  refine Law.of_walk (plainFor_of_name (by decide +kernel)) (by decide +kernel) (by decide +kernel) (by decide) (fun _ _ h => by rw [h.1]; rfl) (fun _ U U' hal hh h => ⟨h.1, h.2.1.mv hal hh, h.2.2.1.al hal, h.2.2.2.1.al hal, h.2.2.2.2.1.mv hal hh, h.2.2.2.2.2.1.there hal hh, h.2.2.2.2.2.2⟩) (fun r U U' V V' h1 hal h2 h => Got.mv r U U' V V' h1 hal h2 h) ?_
  intro p e s m args below meth c s₁ X0 hexec hbytes hml hret hlk hnm hown hh0 W hP
  obtain ⟨rfl, hB, f1, f2, hA, s1, hz, l0, l1, l2, hp⟩ := hP
  have a31 := hA.1.2.2.2
  have c1 : Steps p.tables e below (s₁.setTop (entryFrame m #[.ref a, .ref b, .int (Int32.ofNat o), .int (Int32.ofNat len), .null] 6)) (s₁.setTop (mkF m 0 #[.val (.ref a), .val (.ref b), .val (.int (Int32.ofNat o)), .val (.int (Int32.ofNat len)), .val .null, .unset] [])) := entry rfl
  have c2 : Steps p.tables e below (s₁.setTop (entryFrame m #[.ref a, .ref b, .int (Int32.ofNat o), .int (Int32.ofNat len), .null] 6)) (s₁.setTop (mkF m 1 #[.val (.ref a), .val (.ref b), .val (.int (Int32.ofNat o)), .val (.int (Int32.ofNat len)), .val .null, .unset] [.ref a])) := c1.trans (by
    refine XS.aloadN X0.here hexec rfl (hb hbytes d0) rfl rfl ?_
    exact Steps.refl _)
  obtain ⟨T3, X3, q3, st3⟩ := X0.oinit hexec hown (wks W (objW "java/lang/String" 1)) (g := (mkF m 1 #[.val (.ref a), .val (.ref b), .val (.int (Int32.ofNat o)), .val (.int (Int32.ofNat len)), .val .null, .unset] [.ref a])) rfl (by rw [hml]; rfl) (rest := []) rfl (hb hbytes d1) (W := 0) (by show 2 * 0 + 0 ≤ _; decide) (Nat.le_of_ble_eq_true rfl) (Nat.le_of_ble_eq_true rfl)
  have hh3 := q3.trans hh0
  have c4 : Steps p.tables e below (s₁.setTop (entryFrame m #[.ref a, .ref b, .int (Int32.ofNat o), .int (Int32.ofNat len), .null] 6)) (T3.setTop (mkF m 27 #[.val (.ref a), .val (.ref b), .val (.int (Int32.ofNat o)), .val (.int (Int32.ofNat len)), .val .null, .unset] [])) := (c2.trans (st3 _ (Steps.refl _))).trans (by
    refine XS.iloadN X3.here hexec rfl (hb hbytes d4) rfl ?_
    refine XS.ifYes X3.here hexec rfl (pc0 := 5) rfl (hb hbytes d5) rfl (i0_ne_t (nz32 (by omega) l0)) (by decide) rfl ?_
    exact Steps.refl _)
  obtain ⟨T5, X5, q5, st5⟩ := X3.sget hexec hown (wk W (.fieldLink "java/lang/String" 38 "java/lang/String" "COMPACT_STRINGS" "Z")) s1 (fun _ _ h => by rw [hh3]; exact h) (g := (mkF m 27 #[.val (.ref a), .val (.ref b), .val (.int (Int32.ofNat o)), .val (.int (Int32.ofNat len)), .val .null, .unset] [])) rfl (hb hbytes d27)
  have hh5 := q5.trans hh3
  have c6 : Steps p.tables e below (s₁.setTop (entryFrame m #[.ref a, .ref b, .int (Int32.ofNat o), .int (Int32.ofNat len), .null] 6)) (T5.setTop (mkF m 30 #[.val (.ref a), .val (.ref b), .val (.int (Int32.ofNat o)), .val (.int (Int32.ofNat len)), .val .null, .unset] [.int z])) := c4.trans (st5 _ (Steps.refl _))
  have c7 : Steps p.tables e below (s₁.setTop (entryFrame m #[.ref a, .ref b, .int (Int32.ofNat o), .int (Int32.ofNat len), .null] 6)) (T5.setTop (mkF m 36 #[.val (.ref a), .val (.ref b), .val (.int (Int32.ofNat o)), .val (.int (Int32.ofNat len)), .val .null, .unset] [.int (Int32.ofNat len), .int (Int32.ofNat o), .ref b])) := c6.trans (by
    refine XS.ifNo X5.here hexec rfl (hb hbytes d30) rfl (i0_eq_f hz) ?_
    refine XS.aloadN X5.here hexec rfl (hb hbytes d33) rfl rfl ?_
    refine XS.iloadN X5.here hexec rfl (hb hbytes d34) rfl ?_
    refine XS.iloadN X5.here hexec rfl (hb hbytes d35) rfl ?_
    exact Steps.refl _)
  obtain ⟨v8, T8, X8, E8, g8⟩ := X5.callS hexec (Cmp3.law l b A o len) hown (wks W (staticW "java/lang/String" 177 Cmp3.yN)) (wk W Cmp3.tab) (W := 0) (Nat.le_of_ble_eq_true rfl) (Nat.le_of_ble_eq_true rfl) (Nat.le_refl _) (by show 0 + len ≤ len; omega) (g := (mkF m 36 #[.val (.ref a), .val (.ref b), .val (.int (Int32.ofNat o)), .val (.int (Int32.ofNat len)), .val .null, .unset] [.int (Int32.ofNat len), .int (Int32.ofNat o), .ref b])) rfl (by rw [hml]; rfl) c7 (argsL := [.ref b, .int (Int32.ofNat o), .int (Int32.ofNat len)]) (rest := []) rfl rfl (by show 2 * 0 + 0 ≤ _; decide) (hb hbytes d36) (⟨rfl, hA.mv X5.warmed.alike hh5, l1, l2, hp⟩)
  obtain ⟨e8, z8⟩ := E8
  obtain ⟨rfl, N, n1, n2, n3, n4, n5, n6⟩ := NewArr.mv _ T5 s _ _ hh5.symm (Vm.Alike.refl _) rfl e8
  rw [hh5] at z8
  have hB1 := hB.keep X8.warmed.alike (n6 _ _ hB.1)
  have hne : s.heap.size ≠ a := (Nat.ne_of_lt (Array.getElem?_eq_some_iff.mp hB.1).1).symm
  have c9 : Steps p.tables e below (s₁.setTop (entryFrame m #[.ref a, .ref b, .int (Int32.ofNat o), .int (Int32.ofNat len), .null] 6)) (T8.setTop (mkF m 39 #[.val (.ref a), .val (.ref b), .val (.int (Int32.ofNat o)), .val (.int (Int32.ofNat len)), .val .null, .unset] [.ref s.heap.size])) := g8
  have c10 : Steps p.tables e below (s₁.setTop (entryFrame m #[.ref a, .ref b, .int (Int32.ofNat o), .int (Int32.ofNat len), .null] 6)) (T8.setTop (mkF m 45 #[.val (.ref a), .val (.ref b), .val (.int (Int32.ofNat o)), .val (.int (Int32.ofNat len)), .val .null, .val (.ref s.heap.size)] [.int (Int32.ofNat N.slots.size), .ref s.heap.size, .ref a])) := by
    have hc : Steps p.tables e below (s₁.setTop (entryFrame m #[.ref a, .ref b, .int (Int32.ofNat o), .int (Int32.ofNat len), .null] 6)) (T8.setTop (mkF m 45 #[.val (.ref a), .val (.ref b), .val (.int (Int32.ofNat o)), .val (.int (Int32.ofNat len)), .val .null, .val (.ref s.heap.size)] [.int (Int32.ofNat len), .ref s.heap.size, .ref a])) := c9.trans (by
      refine XS.astore X8.here hexec rfl (hb hbytes d39) rfl rfl rfl ?_
      refine XS.aloadN X8.here hexec rfl (hb hbytes d41) rfl rfl ?_
      refine XS.aload X8.here hexec rfl (hb hbytes d42) rfl rfl ?_
      refine XS.iloadN X8.here hexec rfl (hb hbytes d44) rfl ?_
      exact Steps.refl _)
    rw [n4]; exact hc
  obtain ⟨v11, T11, X11, E11, g11⟩ := X8.callS hexec (CodL.law l s.heap.size N) hown (wks W (staticW "java/lang/String" 47 CodL.yN)) (wk W CodL.tab) (W := 1) (Nat.le_of_ble_eq_true rfl) (Nat.le_of_ble_eq_true rfl) (Nat.le_refl _) (by show 0 + len + 0 ≤ len; omega) (g := (mkF m 45 #[.val (.ref a), .val (.ref b), .val (.int (Int32.ofNat o)), .val (.int (Int32.ofNat len)), .val .null, .val (.ref s.heap.size)] [.int (Int32.ofNat N.slots.size), .ref s.heap.size, .ref a])) rfl (by rw [hml]; rfl) c10 (argsL := [.ref s.heap.size, .int (Int32.ofNat N.slots.size)]) (rest := [.ref a]) rfl rfl (by show 2 * 0 + (1 + 0) ≤ _; decide) (hb hbytes d45) (⟨rfl, n1⟩)
  obtain ⟨rfl, q11⟩ := E11
  have hB11 := hB1.mv (X8.warmed.alike.symm.trans X11.warmed.alike) q11
  have c12 : Steps p.tables e below (s₁.setTop (entryFrame m #[.ref a, .ref b, .int (Int32.ofNat o), .int (Int32.ofNat len), .null] 6)) (T11.setTop (mkF m 48 #[.val (.ref a), .val (.ref b), .val (.int (Int32.ofNat o)), .val (.int (Int32.ofNat len)), .val .null, .val (.ref s.heap.size)] [.int 0, .ref a])) := g11
  obtain ⟨T13, X13, p13, bl13, sl13, st13⟩ := X11.finit hexec hown (wk W (.fieldLink "java/lang/String" 15 "java/lang/String" "coder" "B")) (Or.inr ⟨_, (wk W (.laysFinal "java/lang/String" "java/lang/String" "coder" "B"))⟩) (Or.inl ⟨rfl, hnm⟩) f2 (Or.inl rfl) hB11 (t := .byte) (by decide +kernel) rfl (g := (mkF m 48 #[.val (.ref a), .val (.ref b), .val (.int (Int32.ofNat o)), .val (.int (Int32.ofNat len)), .val .null, .val (.ref s.heap.size)] [.int 0, .ref a])) rfl (rest := []) rfl (hb hbytes d48)
  have c14 : Steps p.tables e below (s₁.setTop (entryFrame m #[.ref a, .ref b, .int (Int32.ofNat o), .int (Int32.ofNat len), .null] 6)) (T13.setTop (mkF m 54 #[.val (.ref a), .val (.ref b), .val (.int (Int32.ofNat o)), .val (.int (Int32.ofNat len)), .val .null, .val (.ref s.heap.size)] [.ref s.heap.size, .ref a])) := (c12.trans (st13 _ (Steps.refl _))).trans (by
    refine XS.aloadN X13.here hexec rfl (hb hbytes d51) rfl rfl ?_
    refine XS.aload X13.here hexec rfl (hb hbytes d52) rfl rfl ?_
    exact Steps.refl _)
  obtain ⟨T15, X15, p15, bl15, sl15, st15⟩ := X13.finit hexec hown (wk W (.fieldLink "java/lang/String" 9 "java/lang/String" "value" "[B")) (Or.inr ⟨_, (wk W (.laysFinal "java/lang/String" "java/lang/String" "value" "[B"))⟩) (Or.inl ⟨rfl, hnm⟩) f1 (Or.inl rfl) bl13 (t := (.array .byte)) (by decide +kernel) rfl (g := (mkF m 54 #[.val (.ref a), .val (.ref b), .val (.int (Int32.ofNat o)), .val (.int (Int32.ofNat len)), .val .null, .val (.ref s.heap.size)] [.ref s.heap.size, .ref a])) rfl (rest := []) rfl (hb hbytes d54)
  have c16 : Steps p.tables e below (s₁.setTop (entryFrame m #[.ref a, .ref b, .int (Int32.ofNat o), .int (Int32.ofNat len), .null] 6)) (T15.setTop (mkF m 57 #[.val (.ref a), .val (.ref b), .val (.int (Int32.ofNat o)), .val (.int (Int32.ofNat len)), .val .null, .val (.ref s.heap.size)] [])) := c14.trans (st15 _ (Steps.refl _))
  have ap := apart (Or.inr ⟨_, (wk W (.laysFinal "java/lang/String" "java/lang/String" "value" "[B"))⟩) (Or.inr ⟨_, (wk W (.laysFinal "java/lang/String" "java/lang/String" "coder" "B"))⟩) f1 f2 (t₁ := .array .byte) (t₂ := .byte) (by decide +kernel) (by decide +kernel) (by decide)
  have al := X8.warmed.alike.symm.trans X15.warmed.alike
  have n7 : T11.heap[s.heap.size]? = some N := by rw [q11]; exact n1.1
  exact ⟨T15, none, _, _, _, X15, by simp, rfl, by omega, (fun _ => rfl), ⟨rfl, _, N, bl15, ((Same.refl D _).set _ (by simp)).set _ (by simp), sl15, (Cell.slots_setSlot_ne _ ap).trans sl13, n1.keep al (p15.other hne (p13.other hne n7)), n2, by rw [al.findClass]; exact n3, n4, n5, fun y c h1 h2 => p15.other h1 (p13.other h1 (by rw [q11]; exact n6 y c h2)), by rw [p15.2.2, p13.2.2, q11]; exact z8⟩, fun fs hl => c16.trans (X15.returnOut hexec hret (hb hbytes d57) hl)⟩
end New4
namespace New1
def yN : MethodName := ⟨"java/lang/String", "<init>", "([C)V"⟩
abbrev yB : ByteArray := jdk_42_method_3_code
theorem d0 : decode yB 0 = .ok (.aload_n 0, 1) := by decide +kernel
theorem d1 : decode yB 1 = .ok (.aload_n 1, 1) := by decide +kernel
theorem d2 : decode yB 2 = .ok (.iconst 0, 1) := by decide +kernel
theorem d3 : decode yB 3 = .ok (.aload_n 1, 1) := by decide +kernel
theorem d4 : decode yB 4 = .ok (.arraylength, 1) := by decide +kernel
theorem d5 : decode yB 5 = .ok (.aconst_null, 1) := by decide +kernel
theorem d6 : decode yB 6 = .ok (.invokespecial 27, 3) := by decide +kernel
theorem d9 : decode yB 9 = .ok (.return_, 1) := by decide +kernel
def site : List Cond := [New4.tab] ++ initW "java/lang/String" 27 New4.yN
def tab : Cond := tabOf yN yB 2 none site
def P (a : Addr) (D : Cell) (fV fC : Field) (b : Addr) (A : Cell) (z : Int32) (args : Array Value) (s : State) : Prop := args = #[.ref a, .ref b] ∧ Blank "java/lang/String" a D s ∧ Found "java/lang/String" "value" "[B" fV s ∧ Found "java/lang/String" "coder" "B" fC s ∧ Ch b A s ∧ StaticIs s "java/lang/String" "COMPACT_STRINGS" "Z" (.int z) ∧ ¬ z = 0 ∧ 0 < A.slots.size ∧ A.slots.size ≤ 536870912 ∧ ∀ i, i < A.slots.size → ¬ 255 < cv A i
def E (a : Addr) (D : Cell) (fV fC : Field) (A : Cell) (r : Option Value) (s u : State) : Prop := Got a D fV fC A 0 A.slots.size r s u
/-- new String(chars), not empty, no char above 255: a Latin-1 String of their low bytes -/
theorem law (l : Launch) (a : Addr) (D : Cell) (fV fC : Field) (b : Addr) (A : Cell) (z : Int32) : Law l yN 2 1 3 52 yB 2 none site (P a D fV fC b A z) (E a D fV fC A) [⟨a, fC.slot⟩, ⟨a, fV.slot⟩] 1 A.slots.size := by
  refine Law.of_walk (plainFor_of_name (by decide +kernel)) (by decide +kernel) (by decide +kernel) (by decide) (fun _ _ h => by rw [h.1]; rfl) (fun _ U U' hal hh h => ⟨h.1, h.2.1.mv hal hh, h.2.2.1.al hal, h.2.2.2.1.al hal, h.2.2.2.2.1.mv hal hh, h.2.2.2.2.2.1.there hal hh, h.2.2.2.2.2.2⟩) (fun r U U' V V' h1 hal h2 h => Got.mv r U U' V V' h1 hal h2 h) ?_
  intro p e s m args below meth c s₁ X0 hexec hbytes hml hret hlk hnm hown hh0 W hP
  obtain ⟨rfl, hB, f1, f2, hA, s1, hz, l0, l2, hp⟩ := hP
  have c1 : Steps p.tables e below (s₁.setTop (entryFrame m #[.ref a, .ref b] 2)) (s₁.setTop (mkF m 0 #[.val (.ref a), .val (.ref b)] [])) := entry rfl
  have c2 : Steps p.tables e below (s₁.setTop (entryFrame m #[.ref a, .ref b] 2)) (s₁.setTop (mkF m 6 #[.val (.ref a), .val (.ref b)] [.null, .int (Int32.ofNat A.slots.size), .int 0, .ref b, .ref a])) := c1.trans (by
    refine XS.aloadN X0.here hexec rfl (hb hbytes d0) rfl rfl ?_
    refine XS.aloadN X0.here hexec rfl (hb hbytes d1) rfl rfl ?_
    refine iconstV X0.here hexec rfl 0 (hb hbytes d2) (by decide) ?_
    refine XS.aloadN X0.here hexec rfl (hb hbytes d3) rfl rfl ?_
    refine X0.alen hexec (hA.1.mv X0.warmed.alike hh0) rfl rfl (hb hbytes d4) ?_
    refine XS.aconstNull X0.here hexec rfl (hb hbytes d5) ?_
    exact Steps.refl _)
  obtain ⟨v3, T3, X3, E3, g3⟩ := X0.callN hexec (New4.law l a D fV fC b A z 0 A.slots.size) rfl hown (wks W (initW "java/lang/String" 27 New4.yN)) (W New4.tab (by simp only [site, List.mem_cons, List.mem_append, true_or, or_true])) (W := 0) (Nat.le_of_ble_eq_true rfl) (Nat.le_of_ble_eq_true rfl) (Nat.le_refl _) (by show 0 + A.slots.size ≤ A.slots.size; omega) (g := (mkF m 6 #[.val (.ref a), .val (.ref b)] [.null, .int (Int32.ofNat A.slots.size), .int (Int32.ofNat 0), .ref b, .ref a])) rfl (by rw [hml]; rfl) c2 (argsL := [.ref b, .int (Int32.ofNat 0), .int (Int32.ofNat A.slots.size), .null]) (rest := []) rfl rfl (by show 2 * 0 + 0 ≤ _; decide) (hb hbytes d6) (⟨rfl, hB.mv X0.warmed.alike hh0, f1.al X0.warmed.alike, f2.al X0.warmed.alike, hA.mv X0.warmed.alike hh0, s1.there X0.warmed.alike hh0, hz, l0, by omega, l2, fun i hi => by rw [Nat.zero_add]; exact hp i hi⟩)
  have e0 := Got.mv _ s₁ s _ _ hh0.symm (Vm.Alike.refl _) rfl E3
  obtain rfl := e0.1
  have c4 : Steps p.tables e below (s₁.setTop (entryFrame m #[.ref a, .ref b] 2)) (T3.setTop (mkF m 9 #[.val (.ref a), .val (.ref b)] [])) := g3
  exact ⟨T3, none, _, _, _, X3, by simp, rfl, by omega, (fun _ => rfl), e0, fun fs hl => c4.trans (X3.returnOut hexec hret (hb hbytes d9) hl)⟩
theorem pays {l : Launch} {R : Room} {p : Program} {e : Env} {below : List Frame} {s : State} {sargs : Array Value} {len W : Nat} (a : Addr) (D : Cell) (fV fC : Field) (b : Addr) (A : Cell) (z : Int32) (htab : tab.before sargs s = true) (hfr : 4 ≤ R.frames) (hlo : W + 65 ≤ R.locals) :
    Back l R p e below s sargs yN len W (fun A₁ a₁ => A₁.cells + 1 ≤ R.cells ∧ A₁.slots + A.slots.size ≤ R.slots ∧ P a D fV fC b A z a₁ A₁.U) (fun A₁ _ v₁ B₁ => E a D fV fC A v₁ A₁.U B₁.U ∧ B₁.locs = A₁.locs ++ [⟨a, fC.slot⟩, ⟨a, fV.slot⟩] ∧ B₁.cells = A₁.cells + 1 ∧ B₁.slots = A₁.slots + A.slots.size) :=
  (law l a D fV fC b A z).pays htab hfr (by omega)
end New1
end StrChars
namespace StrChars.Road
open Jvm Sem ClassFile Op Lib Jvm.Stand Jvm.Free Jvm.Free.XT
open Jvm.Lib.Cold (StaticIs)
abbrev ST : String := "java/lang/String"
/-- every table word that New1's law asks, flat -/
abbrev words : List Jvm.Cond := [.code New1.yN New1.yB 2 none, .initialized ST, .methodLink ST 27 New4.yN, .instanceMethod New4.yN,
  .code New4.yN New4.yB 6 none, .fieldLink ST 38 ST "COMPACT_STRINGS" "Z", .laysFinal ST ST "value" "[B", .fieldLink ST 9 ST "value" "[B", .laysFinal ST ST "coder" "B", .fieldLink ST 15 ST "coder" "B",
  .methodLink ST 1 Lib.objectInit, .instanceMethod Lib.objectInit, .code Lib.objectInit ⟨#[0xb1]⟩ 1 none, .methodLink ST 177 Cmp3.yN, .static Cmp3.yN, .methodLink ST 47 CodL.yN, .static CodL.yN,
  .code Cmp3.yN Cmp3.yB 6 (some (.array .byte)), .initialized U16, .arrayClass .byte, .methodLink U16 115 Cmp5.yN, .static Cmp5.yN, .code Cmp5.yN Cmp5.yB 7 (some .int), .code CodL.yN CodL.yB 2 (some .byte)]
theorem tab_of {a : Array Value} {s : State} (h : ∀ w ∈ words, w.before a s = true) : New1.tab.before a s = true := by
  have h5 : Cmp5.tab.before a s = true := unparts (wk h (.code Cmp5.yN Cmp5.yB 7 (some .int))) (wks h (.initialized Cmp5.yN.cls :: Cmp5.site))
  have hc : CodL.tab.before a s = true := unparts (wk h (.code CodL.yN CodL.yB 2 (some .byte))) (wks h (.initialized CodL.yN.cls :: CodL.site))
  have q5 : ∀ w ∈ Cmp5.tab :: words, w.before a s = true := fun w hw => (List.mem_cons.mp hw).elim (fun e => e ▸ h5) (h w)
  have h3 : Cmp3.tab.before a s = true := unparts (wk q5 (.code Cmp3.yN Cmp3.yB 6 (some (.array .byte)))) (wks q5 (.initialized Cmp3.yN.cls :: Cmp3.site))
  have q3 : ∀ w ∈ Cmp3.tab :: CodL.tab :: words, w.before a s = true := fun w hw => (List.mem_cons.mp hw).elim (fun e => e ▸ h3) fun hw => (List.mem_cons.mp hw).elim (fun e => e ▸ hc) (h w)
  have h4 : New4.tab.before a s = true := unparts (wk q3 (.code New4.yN New4.yB 6 none)) (wks q3 (.initialized New4.yN.cls :: New4.site))
  have q4 : ∀ w ∈ New4.tab :: words, w.before a s = true := fun w hw => (List.mem_cons.mp hw).elim (fun e => e ▸ h4) (h w)
  exact unparts (wk q4 (.code New1.yN New1.yB 2 none)) (wks q4 (.initialized New1.yN.cls :: New1.site))
/-- the words ride from the start Z to the walk's own state -/
theorem moved {Z s : State} {a0 args : Array Value} (hZ : Z.Warmed39 s.vm) (hw : ∀ d ∈ words, d.before a0 Z = true) : ∀ d ∈ words, d.before args s = true := fun d hd => by
  have q := hw d hd
  have t : ∀ d ∈ words, d = .arrayClass .byte ∨ (d.onTables && d.keepsFace) = true := by decide +kernel
  rcases t d hd with rfl | t
  · exact RoadKit.mvA hZ q
  · exact RoadKit.mv hZ q t
/-- WHAT COMES BACK, over the tables of the start Z: h the heap at the call, h' behind it -/
def Q (Z : State) (x : Addr) (A : Cell) (h : Heap) (v : Option Value) (h' : Heap) (L : List Loc) : Prop := v = none ∧ (∀ y ∈ L, y.base = x) ∧ RoadKit.Keep h h' [x] ∧ h'.size = h.size + 1 ∧ RoadKit.Exa Z h' x ST ∧ RoadKit.Fld Z h' x ST "value" "[B" (.ref h.size) ∧ RoadKit.Fld Z h' x ST "coder" "B" (.int 0) ∧
  (∃ V : Cell, RoadKit.Arr Z h' h.size V .byte ∧ V.vm = .none ∧ Z.vm.findClass "[B" = some V.cls ∧ V.slots.size = A.slots.size ∧ ∀ j, j < A.slots.size → V.slots[j]? = some (.int (lo8 (cv A j)))) ∧
  ∀ (O n d : String) (w : Value), RoadKit.Fld Z h x O n d w → RoadKit.slotOf Z O n d ≠ RoadKit.slotOf Z ST "value" "[B" → RoadKit.slotOf Z O n d ≠ RoadKit.slotOf Z ST "coder" "B" → RoadKit.Fld Z h' x O n d w
/-- **new String(chars) AT A CALL, IN THE ROAD'S FORM**: for specialBack behind newO: x the fresh String, b the char[] with the cell A -/
theorem back {p : Program} {l : Launch} {e : Env} {R : Room} {s : State} {args : Array Value} {below : List Frame} {len W : Nat} {Z : State} {a0 : Array Value} {h : Heap} (hZ : Z.Warmed39 s.vm) (hw : ∀ d ∈ words, d.before a0 Z = true) {kI : Nat} (wi : (Jvm.Cond.instantiable ST kI).before a0 Z = true)
    {x b : Addr} {A : Cell} {z : Int32} {v0 c0 : Value} (E : RoadKit.Exa Z h x ST) (V : RoadKit.Fld Z h x ST "value" "[B" v0) (C : RoadKit.Fld Z h x ST "coder" "B" c0) (K : RoadKit.Arr Z h b A .char) (hty : Typed .char A) (S : RoadKit.Sta Z h ST "COMPACT_STRINGS" "Z" (.int z)) (hz : ¬ z = 0)
    (l0 : 0 < A.slots.size) (l2 : A.slots.size ≤ 536870912) (hp : ∀ i, i < A.slots.size → ¬ 255 < cv A i) (hfr : 4 ≤ R.frames) (hlo : W + 65 ≤ R.locals) :
    Back l R p e below s args New1.yN len W (fun P a => a = #[.ref x, .ref b] ∧ P.U.heap = h ∧ P.cells + 1 ≤ R.cells ∧ P.slots + A.slots.size ≤ R.slots)
      (fun P _ v B => ∃ L, Q Z x A h v B.U.heap L ∧ B.locs = P.locs ++ L ∧ B.cells = P.cells + 1 ∧ B.slots = P.slots + A.slots.size) := by
  intro m meth c P g ig mk a X hg hsize hdg hW hn hp'
  obtain ⟨rfl, rfl, r1, r2⟩ := hp'
  have al : Z.vm.Alike P.U.vm := hZ.alike.trans X.warmed.alike
  obtain ⟨D, cfV, kV, iV, fV, hD, gV, stV, knV, obV, asV, slV⟩ := id V
  obtain ⟨D', cfC, kC, iC, fC, hD', gC, stC, -, -, asC, slC⟩ := id C
  cases hD.symm.trans hD'
  obtain ⟨D2, kD, e1, e2, e3, e4, e5⟩ := id E
  cases hD.symm.trans e1
  obtain ⟨c2, k2, i1, i2, i3, -⟩ := Cond.instantiable_spec wi
  cases e2.symm.trans i1
  cases e3.symm.trans i2
  obtain ⟨kU, u1, u2⟩ := al.2.2 _ _ e3
  have hB : Blank ST x D P.U := ⟨hD, ⟨knV, fun q hq => by rw [hq] at obV; cases obV⟩, by rw [al.findClass]; exact e2, kU, u1, by rw [u2]; exact i3, by rw [u2]; exact e5 i3⟩
  have F1 : Found ST "value" "[B" fV P.U := ⟨SBG.found_only al ⟨cfV, kV, iV, gV⟩, stV⟩
  have F2 : Found ST "coder" "B" fC P.U := ⟨SBG.found_only al ⟨cfC, kC, iC, gC⟩, stC⟩
  have hA : Ch b A P.U := ⟨⟨K.1, State.isArrayOf_alike al K.2.1, K.2.2, by omega⟩, hty⟩
  have hS : StaticIs P.U ST "COMPACT_STRINGS" "Z" (.int z) := by
    obtain ⟨cfS, iS, kS, fS, st, cS, t1, t2, t3, t4, t5, t6, t7⟩ := S
    exact StaticIs.there (s := { Z with heap := P.U.heap }) ⟨cfS, iS, kS, fS, st, cS, t1, t2, t3, t4, t5, (fun q => by rw [q] at t6; cases t6), t7⟩ al rfl
  obtain ⟨v, B, X', ⟨⟨hv, E', V', q1, q2, q3, q4, q5, q6, q7, q8, q9, q10, q11⟩, hl, hc, hs⟩, st⟩ := New1.pays x D fV fC b A z (tab_of (moved hZ hw)) hfr hlo m meth c P g ig mk _ X hg hsize hdg hW hn ⟨r1, r2, rfl, hB, F1, F2, hA, hS, hz, l0, l2, hp⟩
  have al' : Z.vm.Alike B.U.vm := hZ.alike.trans X'.warmed.alike
  have hsz : E'.slots.size = D.slots.size := by
    obtain ⟨-, -, -, kB, w1, w2, w3⟩ := q1
    obtain ⟨kB', y1, y2⟩ := al'.2.2 _ _ e3
    rw [q2.2.1] at w1
    cases w1.symm.trans y1
    rw [w3, e5 i3, y2]
  refine ⟨v, B, X', ⟨_, ⟨hv, ?_, ⟨by omega, fun y cy hy hn' => q10 y cy (by simpa using hn') hy, fun y cy hy => ?_⟩, q11, ⟨E', _, q1.1, by rw [q2.2.1]; exact e2, by rw [q2.2.1]; exact e3, by rw [q2.1]; exact obV, fun _ => by rw [hsz]; exact e5 i3⟩,
    ⟨E', cfV, kV, iV, fV, q1.1, gV, stV, by rw [q2.1]; exact knV, by rw [q2.1]; exact obV, by rw [q2.2.1]; exact asV, q3⟩, ⟨E', cfC, kC, iC, fC, q1.1, gC, stC, by rw [q2.1]; exact knV, by rw [q2.1]; exact obV, by rw [q2.2.1]; exact asC, q4⟩,
    ⟨V', ⟨q5.1, State.isArrayOf_alike al'.symm q5.2.1, q5.2.2.1⟩, q6, by rw [← al'.findClass]; exact q7, q8, fun j hj => by have := q9 j hj; rwa [Nat.zero_add] at this⟩, fun O n d w F n1 n2 => ?_⟩, hl, hc, hs⟩, st⟩
  · intro y hy
    simp only [List.mem_cons, List.not_mem_nil, or_false] at hy
    rcases hy with rfl | rfl <;> rfl
  · by_cases q : y = x
    · subst q
      cases hD.symm.trans hy
      exact ⟨E', q1.1, q2.2.1, q2.1, hsz⟩
    · exact ⟨cy, q10 y cy q hy, rfl, rfl, rfl⟩
  · obtain ⟨D3, cf, k, i, f, g1, g2, g3, g4, g5, g6, g7⟩ := F
    cases hD.symm.trans g1
    simp only [RoadKit.slotOf, g2, gV, gC, Option.map_some, Option.getD_some] at n1 n2
    exact ⟨E', cf, k, i, f, q1.1, g2, g3, by rw [q2.1]; exact g4, by rw [q2.1]; exact g5, by rw [q2.2.1]; exact g6, by rw [q2.2.2 f.slot (by simp [n1, n2])]; exact g7⟩
end StrChars.Road
namespace StrChars.Road
open Jvm Sem ClassFile Op Lib Jvm.Stand Jvm.Free Jvm.Free.XT
/-- WHAT COMES BACK, the byte[] as a list of values -/
def QA (Z : State) (x : Addr) (zn : Int32) (cs : List Int32) (h : Heap) (v : Option Value) (h' : Heap) (L : List Loc) : Prop := v = none ∧ (∀ y ∈ L, y.base = x) ∧ RoadKit.Keep h h' [x] ∧ h'.size = h.size + 1 ∧ RoadKit.Exa Z h' x ST ∧ RoadKit.Fld Z h' x ST "value" "[B" (.ref h.size) ∧ RoadKit.Fld Z h' x ST "coder" "B" (.int 0) ∧
  (∃ kb, Z.vm.findClass "[B" = some kb ∧ RoadKit.Arv Z h' h.size kb .byte zn (cs.map fun c => .int (lo8 c)) (.int 0)) ∧
  ∀ (O n d : String) (w : Value), RoadKit.Fld Z h x O n d w → RoadKit.slotOf Z O n d ≠ RoadKit.slotOf Z ST "value" "[B" → RoadKit.slotOf Z O n d ≠ RoadKit.slotOf Z ST "coder" "B" → RoadKit.Fld Z h' x O n d w
/-- **new String(chars) AT A CALL, THE ARRAYS AS LISTS**: the char[] at b holds cs, not empty, no char above 255 -/
theorem backArv {p : Program} {l : Launch} {e : Env} {R : Room} {s : State} {args : Array Value} {below : List Frame} {len W : Nat} {Z : State} {a0 : Array Value} {h : Heap} (hZ : Z.Warmed39 s.vm) (hw : ∀ d ∈ words, d.before a0 Z = true) {kI : Nat} (wi : (Jvm.Cond.instantiable ST kI).before a0 Z = true)
    {x b : Addr} {k : ClassId} {zn z : Int32} {cs : List Int32} {dv v0 c0 : Value} (E : RoadKit.Exa Z h x ST) (V : RoadKit.Fld Z h x ST "value" "[B" v0) (C : RoadKit.Fld Z h x ST "coder" "B" c0) (K : RoadKit.Arv Z h b k .char zn (cs.map Value.int) dv) (S : RoadKit.Sta Z h ST "COMPACT_STRINGS" "Z" (.int z)) (hz : ¬ z = 0)
    (hlen : zn.toNatClampNeg = cs.length) (h0 : 0 < cs.length) (hbig : cs.length ≤ 536870912) (hall : ∀ c ∈ cs, ¬ 255 < c) (hfr : 4 ≤ R.frames) (hlo : W + 65 ≤ R.locals) :
    Back l R p e below s args New1.yN len W (fun P a => a = #[.ref x, .ref b] ∧ P.U.heap = h ∧ P.cells + 1 ≤ R.cells ∧ P.slots + cs.length ≤ R.slots)
      (fun P _ v B => ∃ L, QA Z x zn cs h v B.U.heap L ∧ B.locs = P.locs ++ L ∧ B.cells = P.cells + 1 ∧ B.slots = P.slots + cs.length) := by
  obtain ⟨A, K1, K2, K3, K4, K5, K6⟩ := K
  have e : A.slots.size = cs.length := K3.trans hlen
  have hat : ∀ (i : Nat) (hi : i < cs.length), A.slots[i]? = some (.int cs[i]) := fun i hi => by rw [K5 i (by omega)]; simp [List.getD_eq_getElem?_getD, hi]
  have hcv : ∀ (i : Nat) (hi : i < cs.length), cv A i = cs[i] := fun i hi => by unfold cv; rw [hat i hi]
  have hty : Typed .char A := fun i v hv => by
    have hi : i < A.slots.size := (Array.getElem?_eq_some_iff.mp hv).1
    have q := K5 i hi
    rw [hv] at q
    rw [Option.some.inj q]
    exact K6 i hi
  refine Back.mono (back hZ hw wi E V C K1 hty S hz (by omega) (by omega) (fun i hi => by rw [hcv i (by omega)]; exact hall _ (List.getElem_mem _)) hfr hlo) (fun P a hp => ⟨hp.1, hp.2.1, hp.2.2.1, by rw [e]; exact hp.2.2.2⟩) (fun P a v B hp hq => ?_)
  obtain ⟨L, ⟨q1, q2, q3, q4, q5, q6, q7, ⟨V', v1, v2, v3, v4, v5⟩, q9⟩, hl, hc, hs⟩ := hq
  refine ⟨L, ⟨q1, q2, q3, q4, q5, q6, q7, ⟨V'.cls, v3, V', v1, rfl, by rw [v4, e, hlen], K4, fun i hi => ?_, fun i hi => ?_⟩, q9⟩, hl, hc, by rw [hs, e]⟩
  · have hi' : i < cs.length := by omega
    rw [v5 i (by omega), hcv i hi']; simp [List.getD_eq_getElem?_getD, hi']
  · have hi' : i < cs.length := by omega
    simp only [List.getD_eq_getElem?_getD, List.getElem?_map, List.getElem?_eq_getElem hi', Option.map_some, Option.getD_some]
    exact fits_lo8 _
end StrChars.Road
namespace StrChars.Road
open Jvm Sem ClassFile Op Lib Jvm.Stand Jvm.Free Jvm.Free.XT
/-- WHAT COMES BACK, in the writer's own shape -/
def QV (Z : State) (x : Addr) (N : Int32) (bs : List Int32) (h : Heap) (n0 : Nat) (v : Option Value) (h' : Heap) (L : List Loc) : Prop := v = none ∧ RoadKit.Fr n0 L ∧ RoadKit.Keep h h' [x] ∧ RoadKit.Exa Z h' x ST ∧ RoadKit.Fld Z h' x ST "coder" "B" (.int 0) ∧
  ∃ (t : Addr) (kb : ClassId), n0 ≤ t ∧ h.size ≤ t ∧ ¬ t = x ∧ RoadKit.Fld Z h' x ST "value" "[B" (.ref t) ∧ RoadKit.Arv Z h' t kb .byte N (bs.map Value.int) (.int 0)
/-- **new String(chars) AT A CALL, FOR THE WRITER**: a char[] of n known ints, each 0 to 255 -/
theorem backV {p : Program} {l : Launch} {e : Env} {R : Room} {s : State} {args : Array Value} {below : List Frame} {len W : Nat} {Z : State} {a0 : Array Value} {h : Heap} (hZ : Z.Warmed39 s.vm) (hw : ∀ d ∈ words, d.before a0 Z = true) {kI : Nat} (wi : (Jvm.Cond.instantiable ST kI).before a0 Z = true)
    {x b : Addr} {kC : ClassId} {cs bs : List Int32} {d v0 c0 : Value} {z N : Int32} {n n0 : Nat} (hx0 : n0 ≤ x) (hh0 : n0 ≤ h.size) (E : RoadKit.Exa Z h x ST) (V : RoadKit.Fld Z h x ST "value" "[B" v0) (C : RoadKit.Fld Z h x ST "coder" "B" c0) (K : RoadKit.Arv Z h b kC .char N (cs.map Value.int) d) (S : RoadKit.Sta Z h ST "COMPACT_STRINGS" "Z" (.int z)) (hz : ¬ z = 0)
    (hn : cs.length = n) (hN : N = Int32.ofNat n) (l0 : 0 < n) (l2 : n ≤ 4000) (hp : ∀ c ∈ cs, ¬ c < 0 ∧ ¬ (255 : Int32) < c) (hb : bs = cs.map (fun c => c.toInt8.toInt32)) (hfr : 4 ≤ R.frames) (hlo : W + 65 ≤ R.locals) :
    Back l R p e below s args (⟨"java/lang/String", "<init>", "([C)V"⟩ : MethodName) len W (fun P a => a = #[.ref x, .ref b] ∧ P.U.heap = h ∧ P.cells + 1 ≤ R.cells ∧ P.slots + n ≤ R.slots)
      (fun P _ v B => ∃ L, QV Z x N bs h n0 v B.U.heap L ∧ B.locs = P.locs ++ L ∧ B.cells = P.cells + 1 ∧ B.slots = P.slots + n) := by
  subst hn hN hb
  refine Back.mono (backArv hZ hw wi E V C K S hz (n32 (by omega)) l0 (by omega) (fun c hc => (hp c hc).2) hfr hlo) (fun P a hp => hp) (fun P a v B hp hq => ?_)
  obtain ⟨L, ⟨q1, q2, q3, q4, q5, q6, q7, ⟨kb, v1, v2⟩, q9⟩, hl, hc, hs⟩ := hq
  exact ⟨L, ⟨q1, fun y hy => by rw [q2 y hy]; exact hx0, q3, q5, q7, h.size, kb, hh0, Nat.le_refl _, Nat.ne_of_gt E.lt, q6, by rw [List.map_map]; exact v2⟩, hl, hc, hs⟩
end StrChars.Road
end Jvm.Pilot.@@N@@

namespace Jvm.Pilot.@@N@@
open Jvm Jvm.ClassFile Sem Op Lib Jvm.Free Jvm.Stand Jvm.LawKit Jvm.RoadKit Bundle Jvm.Pilot.@@N@@.Jvm.D
section Own
variable {p : Program} {l : Launch} {e : Env} {R : Room} {s : State} {m : MethodId} {args : Array Value} {below : List Frame} {meth : Method} {c : Code} {T : State} {locs : List Loc} {cells slots : Nat} {Q : Option Value → Heap → List Loc → Prop} {C S : Nat}
abbrev vi (x : Int32) : Slot := .val (.int x)
abbrev vr (x : Addr) : Slot := .val (.ref x)
theorem own_w {a0 : Array Value} {Z : State} (hw : ∀ d ∈ tables_1, d.before a0 Z = true) (i : Nat) {d : Cond} (h : tables_1[i]? = some d) : d.before a0 Z = true := hw d (List.mem_of_getElem? h)
def Goes (p : Program) (e : Env) (below : List Frame) (P : Outcome → State → Prop) (A : State) : Prop :=
  ∃ s₂ o, Steps p.tables e below A s₂ ∧ s₂.status = .running ∧ Ended s₂ below o ∧ P o s₂
def Fin_ (s : State) (Q : Option Value → Heap → List Loc → Prop) (C S : Nat) (o : Outcome) (U' : State) : Prop :=
  ∃ v L, o = .returned v ∧ Q v U'.heap L ∧ FrameEnd s o U' L C S
theorem Goes.via {P : Outcome → State → Prop} {A B : State} (st : ∀ t, Steps p.tables e below B t → Steps p.tables e below A t) (k : Goes p e below P B) : Goes p e below P A := by
  obtain ⟨s₂, o, h1, h2⟩ := k
  exact ⟨s₂, o, st _ h1, h2⟩
theorem Goes.tr {P : Outcome → State → Prop} {A B : State} (st : Steps p.tables e below A B) (k : Goes p e below P B) : Goes p e below P A := by
  obtain ⟨s₂, o, h1, h2⟩ := k
  exact ⟨s₂, o, st.trans h1, h2⟩
theorem gIL (X : Stand p l e R s m args below meth c T locs cells slots) (hx : p.tables.exec = Jvm.exec) {code : ByteArray} (hby : c.code = code) {pc : Nat} {Ls : Array Slot} {S : List Value} {F : Outcome → State → Prop} {k : Nat} {v : Int32} (hd : decode code pc = .ok (.iload k, 2)) (hl : Ls[k]? = some (.val (.int v))) (G : Goes p e below F (T.setTop (mkF m (pc + 2) Ls (.int v :: S)))) : Goes p e below F (T.setTop (mkF m pc Ls (S))) := Goes.via (fun _ kk_ => XS.iload X.here hx rfl (hb hby hd) hl kk_) G
theorem gILN (X : Stand p l e R s m args below meth c T locs cells slots) (hx : p.tables.exec = Jvm.exec) {code : ByteArray} (hby : c.code = code) {pc : Nat} {Ls : Array Slot} {S : List Value} {F : Outcome → State → Prop} {k : Fin 4} {v : Int32} (hd : decode code pc = .ok (.iload_n k, 1)) (hl : Ls[k.val]? = some (.val (.int v))) (G : Goes p e below F (T.setTop (mkF m (pc + 1) Ls (.int v :: S)))) : Goes p e below F (T.setTop (mkF m pc Ls (S))) := Goes.via (fun _ kk_ => XS.iloadN X.here hx rfl (hb hby hd) hl kk_) G
theorem gAL (X : Stand p l e R s m args below meth c T locs cells slots) (hx : p.tables.exec = Jvm.exec) {code : ByteArray} (hby : c.code = code) {pc : Nat} {Ls : Array Slot} {S : List Value} {F : Outcome → State → Prop} {k : Nat} {v : Value} (hd : decode code pc = .ok (.aload k, 2)) (hl : Ls[k]? = some (.val v)) (hv : v.isRef = true) (G : Goes p e below F (T.setTop (mkF m (pc + 2) Ls (v :: S)))) : Goes p e below F (T.setTop (mkF m pc Ls (S))) := Goes.via (fun _ kk_ => XS.aload X.here hx rfl (hb hby hd) hl hv kk_) G
theorem gALN (X : Stand p l e R s m args below meth c T locs cells slots) (hx : p.tables.exec = Jvm.exec) {code : ByteArray} (hby : c.code = code) {pc : Nat} {Ls : Array Slot} {S : List Value} {F : Outcome → State → Prop} {k : Fin 4} {v : Value} (hd : decode code pc = .ok (.aload_n k, 1)) (hl : Ls[k.val]? = some (.val v)) (hv : v.isRef = true) (G : Goes p e below F (T.setTop (mkF m (pc + 1) Ls (v :: S)))) : Goes p e below F (T.setTop (mkF m pc Ls (S))) := Goes.via (fun _ kk_ => XS.aloadN X.here hx rfl (hb hby hd) hl hv kk_) G
theorem gIC {z : Int32} (X : Stand p l e R s m args below meth c T locs cells slots) (hx : p.tables.exec = Jvm.exec) {code : ByteArray} (hby : c.code = code) {pc : Nat} {Ls : Array Slot} {S : List Value} {F : Outcome → State → Prop} {i : Int} (hd : decode code pc = .ok (.iconst i, 1)) (hz : Int32.ofInt i = z) (G : Goes p e below F (T.setTop (mkF m (pc + 1) Ls (.int z :: S)))) : Goes p e below F (T.setTop (mkF m pc Ls S)) := by
  subst hz
  exact Goes.via (fun _ kk_ => XS.iconst X.here hx rfl (hb hby hd) kk_) G
theorem gBI {z : Int32} (X : Stand p l e R s m args below meth c T locs cells slots) (hx : p.tables.exec = Jvm.exec) {code : ByteArray} (hby : c.code = code) {pc : Nat} {Ls : Array Slot} {S : List Value} {F : Outcome → State → Prop} {i : Int} (hd : decode code pc = .ok (.bipush i, 2)) (hz : (Int8.ofInt i).toInt32 = z) (G : Goes p e below F (T.setTop (mkF m (pc + 2) Ls (.int z :: S)))) : Goes p e below F (T.setTop (mkF m pc Ls S)) := by
  subst hz
  exact Goes.via (fun _ kk_ => XS.bipush X.here hx rfl (hb hby hd) kk_) G
theorem gSI {z : Int32} (X : Stand p l e R s m args below meth c T locs cells slots) (hx : p.tables.exec = Jvm.exec) {code : ByteArray} (hby : c.code = code) {pc : Nat} {Ls : Array Slot} {S : List Value} {F : Outcome → State → Prop} {i : Int} (hd : decode code pc = .ok (.sipush i, 3)) (hz : (Int16.ofInt i).toInt32 = z) (G : Goes p e below F (T.setTop (mkF m (pc + 3) Ls (.int z :: S)))) : Goes p e below F (T.setTop (mkF m pc Ls S)) := by
  subst hz
  exact Goes.via (fun _ kk_ => XS.sipush X.here hx rfl (hb hby hd) kk_) G
theorem gDU (X : Stand p l e R s m args below meth c T locs cells slots) (hx : p.tables.exec = Jvm.exec) {code : ByteArray} (hby : c.code = code) {pc : Nat} {Ls : Array Slot} {S : List Value} {F : Outcome → State → Prop} {v : Value} (hd : decode code pc = .ok (.dup, 1)) (hc : v.category = 1) (G : Goes p e below F (T.setTop (mkF m (pc + 1) Ls (v :: v :: S)))) : Goes p e below F (T.setTop (mkF m pc Ls (v :: S))) := Goes.via (fun _ kk_ => XS.dup X.here hx rfl (hb hby hd) rfl hc kk_) G
theorem own_fin {pc : Nat} {Ls : Array Slot} {st : List Value} (X : Stand p l e R s m args below meth c T locs cells slots) (hlk : meth.locks = false) {v : Option Value} (hv : meth.sig.returnType = none → v = none)
    (hstep : ∀ fs, (∀ (f : JFrame) (acts : List Action), f.method = m → f.locked = none → f.entered = [] → (doReturn e (T.setTop f) acts v).1 = T.setFrames fs) → Steps p.tables e below (T.setTop (mkF m pc Ls st)) (T.setFrames fs))
    (hQ : Q v T.heap locs) (hC : cells ≤ C) (hS : slots ≤ S) : Goes p e below (Fin_ s Q C S) (T.setTop (mkF m pc Ls st)) := by
  obtain ⟨fs, hr, hrun, hended, hW, hsame⟩ := X.leave (v := v) hv hlk
  exact ⟨_, _, hstep fs hr, hrun, hended, _, _, rfl, hQ, ⟨_, rfl⟩, hW, hsame.mono hC hS⟩
theorem own_finV {pc : Nat} {Ls : Array Slot} (X : Stand p l e R s m args below meth c T locs cells slots) (hx : p.tables.exec = Jvm.exec) (hlk : meth.locks = false) (hret : meth.sig.returnType = none)
    (hd : decode c.code pc = .ok (.return_, 1)) (hQ : Q none T.heap locs) (hC : cells ≤ C) (hS : slots ≤ S) : Goes p e below (Fin_ s Q C S) (T.setTop (mkF m pc Ls [])) :=
  own_fin X hlk (fun _ => rfl) (fun _ hr => X.returnOut hx hret hd hr) hQ hC hS
theorem own_finI {pc : Nat} {Ls : Array Slot} {z : Int32} {rest : List Value} (X : Stand p l e R s m args below meth c T locs cells slots) (hx : p.tables.exec = Jvm.exec) (hlk : meth.locks = false) (hret : meth.sig.returnType = some .int)
    (hd : decode c.code pc = .ok (.ireturn, 1)) (hQ : Q (some (.int z)) T.heap locs) (hC : cells ≤ C) (hS : slots ≤ S) : Goes p e below (Fin_ s Q C S) (T.setTop (mkF m pc Ls (.int z :: rest))) :=
  own_fin X hlk (fun h => by rw [hret] at h; cases h) (fun _ hr => retOut X hx hret rfl (Or.inl ⟨rfl, Or.inl rfl, _, rfl⟩) hd hr) hQ hC hS
theorem own_finN {pc : Nat} {Ls : Array Slot} {z : Int32} {rest : List Value} (X : Stand p l e R s m args below meth c T locs cells slots) (hx : p.tables.exec = Jvm.exec) (hlk : meth.locks = false) {t : FieldType} (hret : meth.sig.returnType = some t)
    (ht : t = .boolean ∨ t = .byte ∨ t = .char ∨ t = .short) (hd : decode c.code pc = .ok (.ireturn, 1)) (hQ : Q (some (.int (nar t z))) T.heap locs) (hC : cells ≤ C) (hS : slots ≤ S) : Goes p e below (Fin_ s Q C S) (T.setTop (mkF m pc Ls (.int z :: rest))) :=
  own_fin X hlk (fun h => by rw [hret] at h; cases h) (fun _ hr => retN X hx hret ht hd hr) hQ hC hS
theorem own_finJ {pc : Nat} {Ls : Array Slot} {z : Int64} {rest : List Value} (X : Stand p l e R s m args below meth c T locs cells slots) (hx : p.tables.exec = Jvm.exec) (hlk : meth.locks = false) (hret : meth.sig.returnType = some .long)
    (hd : decode c.code pc = .ok (.lreturn, 1)) (hQ : Q (some (.long z)) T.heap locs) (hC : cells ≤ C) (hS : slots ≤ S) : Goes p e below (Fin_ s Q C S) (T.setTop (mkF m pc Ls (.long z :: rest))) :=
  own_fin X hlk (fun h => by rw [hret] at h; cases h) (fun _ hr => retOut X hx hret rfl (Or.inr (Or.inl ⟨rfl, rfl, _, rfl⟩)) hd hr) hQ hC hS
theorem own_finR {pc : Nat} {Ls : Array Slot} {w : Value} {rest : List Value} (X : Stand p l e R s m args below meth c T locs cells slots) (hx : p.tables.exec = Jvm.exec) (hlk : meth.locks = false) {t : FieldType} (hret : meth.sig.returnType = some t) (ht : t.isReference = true) (hw : w.isRef = true) (hn : narrow t w = w)
    (hd : decode c.code pc = .ok (.areturn, 1)) (hQ : Q (some w) T.heap locs) (hC : cells ≤ C) (hS : slots ≤ S) : Goes p e below (Fin_ s Q C S) (T.setTop (mkF m pc Ls (w :: rest))) :=
  own_fin X hlk (fun h => by rw [hret] at h; cases h) (fun _ hr => retOut X hx hret hn (Or.inr (Or.inr (Or.inr (Or.inr ⟨rfl, ht, hw⟩)))) hd hr) hQ hC hS
theorem own_sta_keep {Z : State} {h h' : Heap} {C n d : String} {v : Value} (F : Sta Z h C n d v) (K : Keep h h' []) : Sta Z h' C n d v := by
  obtain ⟨cf, i, k, f, st, cell, h1, h2, h3, h4, h5, h6⟩ := F
  exact ⟨cf, i, k, f, st, cell, h1, h2, h3, h4, K.2.1 _ _ h5 nin0, h6⟩
theorem own_mask (x : Int32) : ¬ (x &&& (2147483647 : Int32)) < (0 : Int32) := by
  intro q
  have q1 := (c_and x 2147483647 (by decide)).1
  have q2 := Int32.lt_iff_toInt_lt.mp q
  have q3 : (0 : Int32).toInt = 0 := by decide
  omega
theorem own_and255 (x : Int32) : ¬ (x &&& (255 : Int32)) < 0 ∧ ¬ (255 : Int32) < (x &&& (255 : Int32)) := by
  have q1 := c_and x 255 (by decide)
  have q3 : (0 : Int32).toInt = 0 := by decide
  have q4 : (255 : Int32).toInt = 255 := by decide
  constructor
  · intro q
    have q2 := Int32.lt_iff_toInt_lt.mp q
    omega
  · intro q
    have q2 := Int32.lt_iff_toInt_lt.mp q
    omega
theorem own_mvM {Z : State} {a0 args' : Array Value} {own host : String} {index : Nat} {y : MethodName} (hZ : Z.Warmed39 s.vm) (w : (Jvm.Cond.methodLinkNest own index y host).before a0 Z = true) : (Jvm.Cond.methodLinkNest own index y host).before args' s = true := (Jvm.Cond.methodLinkNest_wide hZ w :)
end Own
section Arrays
variable {p : Program} {l : Launch} {e : Env} {R : Room} {s : State} {m : MethodId} {args : Array Value} {below : List Frame} {meth : Method} {c : Code} {T : State} {locs : List Loc} {cells slots : Nat} {Z : State} {a0 : Array Value} {h h' : Heap} {a b : Addr} {k : ClassId} {ty : FieldType} {n : Nat} {f : Nat → Value} {ws : List Addr}
def Arw (Z : State) (h : Heap) (a : Addr) (k : ClassId) (ty : FieldType) (n : Nat) (f : Nat → Value) : Prop :=
  ∃ c : Cell, Arr Z h a c ty ∧ c.cls = k ∧ c.slots.size = n ∧ n < 2147483648 ∧ (∀ i, i < n → c.slots[i]? = some (f i)) ∧ ∀ i, i < n → fits ty (f i) = true
def own_upd (f : Nat → Value) (i : Nat) (v : Value) : Nat → Value := fun q => if q = i then v else f q
theorem own_upd_same (f : Nat → Value) (i : Nat) (v : Value) : own_upd f i v i = v := if_pos rfl
theorem own_upd_ne (f : Nat → Value) {i j : Nat} (v : Value) (q : j ≠ i) : own_upd f i v j = f j := if_neg q
theorem Arw.lt (F : Arw Z h a k ty n f) : a < h.size := by
  obtain ⟨c, A, -⟩ := F
  exact A.lt
theorem Arw.ext (F : Arw Z h a k ty n f) (E : Ext h h') : Arw Z h' a k ty n f := by
  obtain ⟨c, A, r⟩ := F
  exact ⟨c, A.ext E, r⟩
theorem Arw.other {sl : Nat} {v : Value} (F : Arw Z h b k ty n f) (W : Wr h h' a sl v) (q : b ≠ a) : Arw Z h' b k ty n f := by
  obtain ⟨c, A, r⟩ := F
  exact ⟨c, A.other W q, r⟩
theorem Arw.keep (F : Arw Z h a k ty n f) (K : Keep h h' ws) (q : a ∉ ws) : Arw Z h' a k ty n f := by
  obtain ⟨c, A, r⟩ := F
  exact ⟨c, ⟨K.2.1 _ _ A.1 q, A.2⟩, r⟩
theorem Arw.to {f' : Nat → Value} (F : Arw Z h a k ty n f) (q : ∀ i, i < n → f' i = f i) : Arw Z h a k ty n f' := by
  obtain ⟨c, A, h1, h2, h3, h4, h5⟩ := F
  exact ⟨c, A, h1, h2, h3, fun i hi => by rw [q i hi]; exact h4 i hi, fun i hi => by rw [q i hi]; exact h5 i hi⟩
theorem own_ne_arr {C : String} {kk : Nat} (F : Exa Z h a C) (wi : (Cond.instantiable C kk).before a0 Z = true) (G : Arw Z h b k ty n f) : a ≠ b := by
  obtain ⟨c, A, -⟩ := G
  exact ne_arr F wi A
theorem own_newP (X : Stand p l e R s m args below meth c T locs cells slots) (hx : p.tables.exec = Jvm.exec) (hZ : Z.Warmed39 s.vm) {aty : ArrayType} (w : (Cond.arrayClass (newarray.typeOf aty)).before a0 Z = true) (eT : T.heap = h) {g : JFrame} (hg : g.method = m)
    (hd : decode c.code g.pc = .ok (.newarray aty, 2)) {n : Int32} {rest : List Value} (hs : g.stack = .int n :: rest) {N : Nat} (hn : ¬ n < 0) (hN : n.toNatClampNeg = N) {cap : Nat} (hcap : N ≤ cap) (hb : cap * 8 ≤ 536870912) (hc : cells + 1 ≤ R.cells) (hl : slots + cap ≤ R.slots) :
    ∃ T' h' cA, Stand p l e R s m args below meth c T' locs (cells + 1) (slots + cap) ∧ T'.heap = h' ∧ Ext h h' ∧ Arw Z h' h.size cA (newarray.typeOf aty) N (fun _ => defaultValue (newarray.typeOf aty)) ∧
      ∀ target, Steps p.tables e below (T'.setTop { g with pc := g.pc + 2, stack := .ref h.size :: rest }) target → Steps p.tables e below (T.setTop g) target := by
  obtain ⟨T', h', cA, X', e', E', A', st⟩ := newP X hx hZ w eT hg hd hs hn (cap := cap) (by omega) hb hc hl
  refine ⟨T', h', cA, X', e', E', ⟨_, A', rfl, (sz_new _ _ _).trans hN, by omega, fun i hi => ?_, fun i hi => ?_⟩, st⟩
  · subst hN
    simp [newA, hi]
  · cases aty <;> rfl
theorem own_alen (X : Stand p l e R s m args below meth c T locs cells slots) (hx : p.tables.exec = Jvm.exec) (hZ : Z.Warmed39 s.vm) (eT : T.heap = h) (A : Arw Z h a k ty n f) {g : JFrame} (hg : g.method = m) {rest : List Value} (hs : g.stack = .ref a :: rest) (hd : decode c.code g.pc = .ok (.arraylength, 1)) :
    ∀ target, Steps p.tables e below (T.setTop { g with pc := g.pc + 1, stack := .int n.toInt32 :: rest }) target → Steps p.tables e below (T.setTop g) target := by
  obtain ⟨c, A, h1, h2, h3, h4, h5⟩ := A
  intro target kk
  refine X.arraylength hx (by rw [eT]; exact A.1) (State.isArrayOf_alike hZ.alike A.2.1) hg hs hd target ?_
  rw [h2]
  exact kk
theorem own_in {cl : Cell} {j : Int32} {i : Nat} (h2 : cl.slots.size = n) (hj : ¬ j < 0) (hji : j.toNatClampNeg = i) (hi : i < n) : ¬ (j < 0 ∨ cl.slots.size ≤ j.toNatClampNeg) := by
  rintro (q | q)
  · exact hj q
  · omega
theorem own_iaload (X : Stand p l e R s m args below meth c T locs cells slots) (hx : p.tables.exec = Jvm.exec) (hZ : Z.Warmed39 s.vm) (eT : T.heap = h) (A : Arw Z h a k .int n f) {j : Int32} {i : Nat} (hj : ¬ j < 0) (hji : j.toNatClampNeg = i) (hi : i < n) {v : Int32} (hv : f i = .int v)
    {g : JFrame} (hg : g.method = m) {rest : List Value} (hs : g.stack = .int j :: .ref a :: rest) (hd : decode c.code g.pc = .ok (.iaload, 1)) :
    ∀ target, Steps p.tables e below (T.setTop { g with pc := g.pc + 1, stack := .int v :: rest }) target → Steps p.tables e below (T.setTop g) target := by
  obtain ⟨cl, A, h1, h2, h3, h4, h5⟩ := A
  intro target kk
  exact X.iaload hx (by rw [eT]; exact A.1) (State.isArrayOf_alike hZ.alike A.2.1) A.2.2 (own_in h2 hj hji hi) (by rw [hji, h4 i hi, hv]) hg hs hd target kk
theorem own_laload (X : Stand p l e R s m args below meth c T locs cells slots) (hx : p.tables.exec = Jvm.exec) (hZ : Z.Warmed39 s.vm) (eT : T.heap = h) (A : Arw Z h a k .long n f) {j : Int32} {i : Nat} (hj : ¬ j < 0) (hji : j.toNatClampNeg = i) (hi : i < n) {v : Int64} (hv : f i = .long v)
    {g : JFrame} (hg : g.method = m) {rest : List Value} (hs : g.stack = .int j :: .ref a :: rest) (hd : decode c.code g.pc = .ok (.laload, 1)) :
    ∀ target, Steps p.tables e below (T.setTop { g with pc := g.pc + 1, stack := .long v :: rest }) target → Steps p.tables e below (T.setTop g) target := by
  obtain ⟨cl, A, h1, h2, h3, h4, h5⟩ := A
  intro target kk
  exact X.laload hx (by rw [eT]; exact A.1) (State.isArrayOf_alike hZ.alike A.2.1) A.2.2 (own_in h2 hj hji hi) (by rw [hji, h4 i hi, hv]) hg hs hd target kk
theorem own_aaload (X : Stand p l e R s m args below meth c T locs cells slots) (hx : p.tables.exec = Jvm.exec) (hZ : Z.Warmed39 s.vm) (eT : T.heap = h) (A : Arw Z h a k ty n f) (hty : ty.isReference = true) {j : Int32} {i : Nat} (hj : ¬ j < 0) (hji : j.toNatClampNeg = i) (hi : i < n) {v : Value} (hv : f i = v)
    {g : JFrame} (hg : g.method = m) {rest : List Value} (hs : g.stack = .int j :: .ref a :: rest) (hd : decode c.code g.pc = .ok (.aaload, 1)) :
    ∀ target, Steps p.tables e below (T.setTop { g with pc := g.pc + 1, stack := v :: rest }) target → Steps p.tables e below (T.setTop g) target := by
  obtain ⟨cl, A, h1, h2, h3, h4, h5⟩ := A
  intro target kk
  exact X.aaload hx (by rw [eT]; exact A.1) (State.isArrayOf_alike hZ.alike A.2.1) hty A.2.2 (own_in h2 hj hji hi) (by rw [hji, h4 i hi, hv]) hg hs hd target kk
theorem own_ix {j : Int32} {i : Nat} (h : j.toInt = i) : ¬ j < 0 ∧ j.toNatClampNeg = i := by
  constructor
  · intro q
    have q1 := Int32.lt_iff_toInt_lt.mp q
    have q3 : (0 : Int32).toInt = 0 := by decide
    omega
  · show j.toInt.toNat = i
    omega
theorem own_lti {x y : Int32} : x < y ↔ x.toInt < y.toInt := Int32.lt_iff_toInt_lt
theorem Arw.ofArv {z : Int32} {vs : List Value} {dv : Value} (F : Arv Z h a k ty z vs dv) (hn : z.toNatClampNeg = n) (q : ∀ i, i < n → vs.getD i dv = f i) : Arw Z h a k ty n f := by
  obtain ⟨c, A, h1, h2, h3, h4, h5⟩ := F
  have hb := (back32 h3).2
  refine ⟨c, A, h1, h2.trans hn, by omega, fun i hi => ?_, fun i hi => ?_⟩
  · rw [h4 i (by omega), q i hi]
  · rw [← q i hi]
    exact h5 i (by omega)
theorem own_set {cl : Cell} {j : Int32} {i : Nat} {v : Value} (A : Arr Z h a cl ty) (h1 : cl.cls = k) (h2 : cl.slots.size = n) (h3 : n < 2147483648) (h4 : ∀ i, i < n → cl.slots[i]? = some (f i)) (h5 : ∀ i, i < n → fits ty (f i) = true) (hv : fits ty v = true) (W : Wr h h' a j.toNatClampNeg v) (hji : j.toNatClampNeg = i) (hi : i < n) :
    Arw Z h' a k ty n (own_upd f i v) := by
  subst hji
  refine ⟨_, A.same W, h1, by rw [sz_set]; exact h2, h3, fun q hq => ?_, fun q hq => ?_⟩
  · by_cases e : q = j.toNatClampNeg
    · subst e
      rw [own_upd_same]
      simp [Cell.setSlot, h2, hq]
    · rw [own_upd_ne _ _ e, ← h4 q hq]
      simp [Cell.setSlot, Array.getElem?_setIfInBounds, Ne.symm e]
  · by_cases e : q = j.toNatClampNeg
    · subst e
      rw [own_upd_same]
      exact hv
    · rw [own_upd_ne _ _ e]
      exact h5 q hq
theorem own_iastore (X : Stand p l e R s m args below meth c T locs cells slots) (hx : p.tables.exec = Jvm.exec) (hZ : Z.Warmed39 s.vm) (eT : T.heap = h) (A : Arw Z h a k .int n f) {j : Int32} {i : Nat} (hj : ¬ j < 0) (hji : j.toNatClampNeg = i) (hi : i < n)
    {g : JFrame} (hg : g.method = m) {x : Int32} {rest : List Value} (hs : g.stack = .int x :: .int j :: .ref a :: rest) (hd : decode c.code g.pc = .ok (.iastore, 1)) :
    ∃ T' h', Stand p l e R s m args below meth c T' (locs ++ [⟨a, j.toNatClampNeg⟩]) cells slots ∧ T'.heap = h' ∧ Wr h h' a j.toNatClampNeg (.int x) ∧ Arw Z h' a k .int n (own_upd f i (.int x)) ∧
      ∀ target, Steps p.tables e below (T'.setTop { g with pc := g.pc + 1, stack := rest }) target → Steps p.tables e below (T.setTop g) target := by
  obtain ⟨cl, A, h1, h2, h3, h4, h5⟩ := A
  obtain ⟨T', h', X', e', W, st⟩ := stI X hx hZ eT A (j := j) (own_in h2 hj hji hi) hg hs hd
  exact ⟨T', h', X', e', W, own_set A h1 h2 h3 h4 h5 rfl W hji hi, st⟩
theorem own_lastore (X : Stand p l e R s m args below meth c T locs cells slots) (hx : p.tables.exec = Jvm.exec) (hZ : Z.Warmed39 s.vm) (eT : T.heap = h) (A : Arw Z h a k .long n f) {j : Int32} {i : Nat} (hj : ¬ j < 0) (hji : j.toNatClampNeg = i) (hi : i < n)
    {g : JFrame} (hg : g.method = m) {x : Int64} {rest : List Value} (hs : g.stack = .long x :: .int j :: .ref a :: rest) (hd : decode c.code g.pc = .ok (.lastore, 1)) :
    ∃ T' h', Stand p l e R s m args below meth c T' (locs ++ [⟨a, j.toNatClampNeg⟩]) cells slots ∧ T'.heap = h' ∧ Wr h h' a j.toNatClampNeg (.long x) ∧ Arw Z h' a k .long n (own_upd f i (.long x)) ∧
      ∀ target, Steps p.tables e below (T'.setTop { g with pc := g.pc + 1, stack := rest }) target → Steps p.tables e below (T.setTop g) target := by
  obtain ⟨cl, A, h1, h2, h3, h4, h5⟩ := A
  obtain ⟨T', h', X', e', W, st⟩ := stJ X hx hZ eT A (j := j) (own_in h2 hj hji hi) hg hs hd
  exact ⟨T', h', X', e', W, own_set A h1 h2 h3 h4 h5 rfl W hji hi, st⟩
theorem own_castore (X : Stand p l e R s m args below meth c T locs cells slots) (hx : p.tables.exec = Jvm.exec) (hZ : Z.Warmed39 s.vm) (eT : T.heap = h) (A : Arw Z h a k .char n f) {j : Int32} {i : Nat} (hj : ¬ j < 0) (hji : j.toNatClampNeg = i) (hi : i < n)
    {g : JFrame} (hg : g.method = m) {x : Int32} {rest : List Value} (hs : g.stack = .int x :: .int j :: .ref a :: rest) (hd : decode c.code g.pc = .ok (.castore, 1)) :
    ∃ T' h', Stand p l e R s m args below meth c T' (locs ++ [⟨a, j.toNatClampNeg⟩]) cells slots ∧ T'.heap = h' ∧ Wr h h' a j.toNatClampNeg (.int (nar .char x)) ∧ Arw Z h' a k .char n (own_upd f i (.int (nar .char x))) ∧
      ∀ target, Steps p.tables e below (T'.setTop { g with pc := g.pc + 1, stack := rest }) target → Steps p.tables e below (T.setTop g) target := by
  obtain ⟨cl, A, h1, h2, h3, h4, h5⟩ := A
  obtain ⟨T', h', X', e', W, st⟩ := stC X hx hZ eT A (j := j) (own_in h2 hj hji hi) hg hs hd
  exact ⟨T', h', X', e', W, own_set A h1 h2 h3 h4 h5 (fits_nar_char _) W hji hi, st⟩
theorem own_caload (X : Stand p l e R s m args below meth c T locs cells slots) (hx : p.tables.exec = Jvm.exec) (hZ : Z.Warmed39 s.vm) (eT : T.heap = h) (A : Arw Z h a k .char n f) {j : Int32} {i : Nat} (hj : ¬ j < 0) (hji : j.toNatClampNeg = i) (hi : i < n) {v : Int32} (hv : f i = .int v)
    {g : JFrame} (hg : g.method = m) {rest : List Value} (hs : g.stack = .int j :: .ref a :: rest) (hd : decode c.code g.pc = .ok (.caload, 1)) :
    ∀ target, Steps p.tables e below (T.setTop { g with pc := g.pc + 1, stack := .int v :: rest }) target → Steps p.tables e below (T.setTop g) target := by
  obtain ⟨cl, A, h1, h2, h3, h4, h5⟩ := A
  intro target kk
  exact X.caload hx (by rw [eT]; exact A.1) (State.isArrayOf_alike hZ.alike A.2.1) A.2.2 (own_in h2 hj hji hi) (by rw [hji, h4 i hi, hv]) hg hs hd target kk
theorem own_baload (X : Stand p l e R s m args below meth c T locs cells slots) (hx : p.tables.exec = Jvm.exec) (hZ : Z.Warmed39 s.vm) (eT : T.heap = h) (A : Arw Z h a k .byte n f) {j : Int32} {i : Nat} (hj : ¬ j < 0) (hji : j.toNatClampNeg = i) (hi : i < n) {v : Int32} (hv : f i = .int v)
    {g : JFrame} (hg : g.method = m) {rest : List Value} (hs : g.stack = .int j :: .ref a :: rest) (hd : decode c.code g.pc = .ok (.baload, 1)) :
    ∀ target, Steps p.tables e below (T.setTop { g with pc := g.pc + 1, stack := .int v :: rest }) target → Steps p.tables e below (T.setTop g) target := by
  obtain ⟨cl, A, h1, h2, h3, h4, h5⟩ := A
  intro target kk
  exact X.baloadBytes hx (by rw [eT]; exact A.1) (State.isArrayOf_alike hZ.alike A.2.1) A.2.2 (own_in h2 hj hji hi) (by rw [hji, h4 i hi, hv]) hg hs hd target kk
theorem Arw.toArv {vs : List Value} {dv : Value} {z : Int32} (F : Arw Z h a k ty n f) (hz : z.toInt = (n : Int)) (q : ∀ i, i < n → vs.getD i dv = f i) : Arv Z h a k ty z vs dv := by
  obtain ⟨c, A, h1, h2, h3, h4, h5⟩ := F
  obtain ⟨z0, zn⟩ := own_ix hz
  exact ⟨c, A, h1, h2.trans zn.symm, z0, fun i hi => by rw [h4 i (by omega), q i (by omega)], fun i hi => by rw [q i (by omega)]; exact h5 i (by omega)⟩
end Arrays
section Wide
variable {p : Program} {l : Launch} {e : Env} {R : Room} {s : State} {m : MethodId} {args : Array Value} {below : List Frame} {meth : Method} {c : Code} {T : State} {locs : List Loc} {cells slots : Nat} {Q : Option Value → Heap → List Loc → Prop} {K : State → Prop} {C S : Nat} {Z : State} {a0 : Array Value} {h h' : Heap} {vm1 : Vm} {n1 : Nat}
def Fin_W (s : State) (Q : Option Value → Heap → List Loc → Prop) (K : State → Prop) (C S : Nat) (o : Outcome) (U' : State) : Prop :=
  ∃ v L, o = .returned v ∧ Q v U'.heap L ∧ K U' ∧ ReturnedEndW s o U' L C S
theorem own_wfin {pc : Nat} {Ls : Array Slot} {st : List Value} (X : Stand p l e R (s.setVm vm1) m args below meth c T locs cells slots) (hSi : s.Since vm1 n1) (hn1 : n1 ≤ T.heap.size) (hlk : meth.locks = false) {v : Option Value} (hv : meth.sig.returnType = none → v = none)
    (hstep : ∀ fs, (∀ (f : JFrame) (acts : List Action), f.method = m → f.locked = none → f.entered = [] → (doReturn e (T.setTop f) acts v).1 = T.setFrames fs) → Steps p.tables e below (T.setTop (mkF m pc Ls st)) (T.setFrames fs))
    (hK : ∀ U : State, U.vm = T.vm → U.heap = T.heap → K U) (hQ : Q v T.heap locs) (hC : cells ≤ C) (hS : slots ≤ S) : Goes p e below (Fin_W s Q K C S) (T.setTop (mkF m pc Ls st)) := by
  obtain ⟨fs, hr, hrun, hended, hW, h1, h2, hsame⟩ := X.leaveW hSi hn1 (v := v) hv hlk
  exact ⟨_, _, hstep fs hr, hrun, hended, _, _, rfl, hQ, hK _ rfl rfl, hW, h1, h2, hsame.mono hC hS⟩
theorem own_wfinV {pc : Nat} {Ls : Array Slot} (X : Stand p l e R (s.setVm vm1) m args below meth c T locs cells slots) (hSi : s.Since vm1 n1) (hn1 : n1 ≤ T.heap.size) (hK : ∀ U : State, U.vm = T.vm → U.heap = T.heap → K U) (hx : p.tables.exec = Jvm.exec) (hlk : meth.locks = false) (hret : meth.sig.returnType = none)
    (hd : decode c.code pc = .ok (.return_, 1)) (hQ : Q none T.heap locs) (hC : cells ≤ C) (hS : slots ≤ S) : Goes p e below (Fin_W s Q K C S) (T.setTop (mkF m pc Ls [])) :=
  own_wfin X hSi hn1 hlk (fun _ => rfl) (fun _ hr => X.returnOut hx hret hd hr) hK hQ hC hS
theorem own_wfinI {pc : Nat} {Ls : Array Slot} {z : Int32} {rest : List Value} (X : Stand p l e R (s.setVm vm1) m args below meth c T locs cells slots) (hSi : s.Since vm1 n1) (hn1 : n1 ≤ T.heap.size) (hK : ∀ U : State, U.vm = T.vm → U.heap = T.heap → K U) (hx : p.tables.exec = Jvm.exec) (hlk : meth.locks = false) (hret : meth.sig.returnType = some .int)
    (hd : decode c.code pc = .ok (.ireturn, 1)) (hQ : Q (some (.int z)) T.heap locs) (hC : cells ≤ C) (hS : slots ≤ S) : Goes p e below (Fin_W s Q K C S) (T.setTop (mkF m pc Ls (.int z :: rest))) :=
  own_wfin X hSi hn1 hlk (fun h => by rw [hret] at h; cases h) (fun _ hr => retOut X hx hret rfl (Or.inl ⟨rfl, Or.inl rfl, _, rfl⟩) hd hr) hK hQ hC hS
theorem own_wfinN {pc : Nat} {Ls : Array Slot} {z : Int32} {rest : List Value} (X : Stand p l e R (s.setVm vm1) m args below meth c T locs cells slots) (hSi : s.Since vm1 n1) (hn1 : n1 ≤ T.heap.size) (hK : ∀ U : State, U.vm = T.vm → U.heap = T.heap → K U) (hx : p.tables.exec = Jvm.exec) (hlk : meth.locks = false) {t : FieldType} (hret : meth.sig.returnType = some t)
    (ht : t = .boolean ∨ t = .byte ∨ t = .char ∨ t = .short) (hd : decode c.code pc = .ok (.ireturn, 1)) (hQ : Q (some (.int (nar t z))) T.heap locs) (hC : cells ≤ C) (hS : slots ≤ S) : Goes p e below (Fin_W s Q K C S) (T.setTop (mkF m pc Ls (.int z :: rest))) :=
  own_wfin X hSi hn1 hlk (fun h => by rw [hret] at h; cases h) (fun _ hr => retN X hx hret ht hd hr) hK hQ hC hS
theorem own_wfinR {pc : Nat} {Ls : Array Slot} {w : Value} {rest : List Value} (X : Stand p l e R (s.setVm vm1) m args below meth c T locs cells slots) (hSi : s.Since vm1 n1) (hn1 : n1 ≤ T.heap.size) (hK : ∀ U : State, U.vm = T.vm → U.heap = T.heap → K U) (hx : p.tables.exec = Jvm.exec) (hlk : meth.locks = false) {t : FieldType} (hret : meth.sig.returnType = some t) (ht : t.isReference = true) (hw : w.isRef = true) (hn : narrow t w = w)
    (hd : decode c.code pc = .ok (.areturn, 1)) (hQ : Q (some w) T.heap locs) (hC : cells ≤ C) (hS : slots ≤ S) : Goes p e below (Fin_W s Q K C S) (T.setTop (mkF m pc Ls (w :: rest))) :=
  own_wfin X hSi hn1 hlk (fun h => by rw [hret] at h; cases h) (fun _ hr => retOut X hx hret hn (Or.inr (Or.inr (Or.inr (Or.inr ⟨rfl, ht, hw⟩)))) hd hr) hK hQ hC hS
/-- a callee that may intern, by its contract -/
def BackW (l : Launch) (R : Room) (p : Program) (e : Env) (below : List Frame) (s : State) (sargs : Array Value) (y : MethodName) (len W : Nat)
    (Pre : Pt → Array Value → Prop) (Post : Pt → Array Value → Option Value → Pt → Prop) : Prop :=
  ∀ (m : MethodId) (meth : Method) (c : Code) (A : Pt) (g : JFrame) (ig : Instr) (mk : MethodId) (a : Array Value),
    Stand p l e R s m sargs below meth c A.U A.locs A.cells A.slots → g.method = m → g.locals.size = c.maxLocals → decode c.code g.pc = .ok (ig, len) →
    2 * g.monitorRoom + (g.stack.map fun v => v.category).sum ≤ W → A.U.methodNamed? y = some mk → Pre A a →
    ∃ (v : Option Value) (B : Pt), Stand p l e R (s.setVm B.U.vm) m sargs below meth c B.U B.locs B.cells B.slots ∧ s.Since B.U.vm B.U.heap.size ∧ Post A a v B ∧
      Steps p.tables e below (doInvoke e (A.U.setTop g) [] mk a).1 (B.U.setTop { g with pc := g.pc + len, stack := v.toList ++ g.stack })
theorem own_backOfW {y : MethodName} {bytes : ByteArray} {maxL : Nat} {ret : Option FieldType} {rm : Room} {len W : Nat} {as' : Array Value} {KP : State → Prop}
    (hM : MetFree l y (head1 [Cond.code y bytes maxL ret] rm) (fun a U => a = as' ∧ Z.Warmed39 U.vm ∧ U.heap = h ∧ KP U) (fun _ _ _ _ _ => True) (fun _ U o U' => ∃ v L, o = .returned v ∧ Q v U'.heap L ∧ K U' ∧ ReturnedEndW U o U' L rm.cells rm.slots))
    (hZ : Z.Warmed39 s.vm) (wc : (Cond.code y bytes maxL ret).before a0 Z = true) (wz : (Cond.initialized y.cls).before a0 Z = true) (hf : rm.frames + 1 ≤ R.frames) (hl : W + (maxL + 11) + rm.locals ≤ R.locals)
    (hKP : ∀ V : State, s.WarmedH V.vm → V.heap = h → KP V) :
    BackW l R p e below s args y len W (fun A a => a = as' ∧ A.U.heap = h ∧ A.cells + rm.cells ≤ R.cells ∧ A.slots + rm.slots ≤ R.slots)
      (fun A _ v B => ∃ L, (Q v B.U.heap L ∧ ∃ t : State, K t ∧ t.vm = B.U.vm ∧ t.heap = B.U.heap) ∧ B.locs = A.locs ++ L ∧ B.cells = A.cells + rm.cells ∧ B.slots = A.slots + rm.slots) := by
  intro m meth c A g ig mk a X hg hsize hdg hW hn hp
  obtain ⟨U, Ls, c0, s0⟩ := A
  dsimp only [Pt.U, Pt.locs, Pt.cells, Pt.slots] at X hn hp ⊢
  obtain ⟨rfl, hheap, hcl, hsl⟩ := hp
  have hU : Z.Warmed39 U.vm := wtrans hZ X.warmed
  have h1 : (head1 [Cond.code y bytes maxL ret] rm).pre.before a U = true := by show (Cond.and _ .tt).before a U = true; rw [Cond.before_and, mv hU wc]; rfl
  have h2 : (Cond.code y bytes maxL ret).before a U = true := mv hU wc
  have h3 : (Cond.initialized y.cls).before a U = true := mv hU wz
  obtain ⟨methY, cY, hmY, hcY, -, hlY, -, -, -, -⟩ := Cond.code_spec hn h2
  obtain ⟨kY, hkY, -⟩ := className_of_methodNamed hn
  have hinitY : kY.init = .initialized := Cond.initialized_spec (findClass_of_methodNamed hn) hkY h3
  have hAt : At U g.method c below := by rw [hg]; exact X.here
  have happ : (head1 [Cond.code y bytes maxL ret] rm).appliesLoose y e.platform (U.calling g mk a) = true :=
    Spec.appliesLoose_calling (g := g) hAt hdg hn hkY hinitY (X.room_calling (g := g) (R' := rm) hsize hmY hcY hf (by rw [hlY]; omega) hcl hsl) h1
  obtain ⟨mid, hmid⟩ := hAt.above
  have hfr : (U.setTop g).frames = (.java g :: mid) ++ below := by rw [State.frames_setTop' g hAt.top, hmid]; rfl
  obtain ⟨o, s₂, hsteps, -, hend, v, L, rfl, hq, hk, hfe⟩ := Steps.callFree hM p X.admits X.cas X.clock (acts := []) hfr happ ⟨rfl, hU, hheap, hKP _ X.warmed hheap⟩ trivial
  rw [State.frames_setTop' g hAt.top] at hend
  have hfe' : ReturnedEndW (U.calling g mk a) (.returned v) s₂ L rm.cells rm.slots := hfe
  obtain ⟨-, hW₂, hB₂, e2, q2, q3, q4, q5, q6⟩ := id hfe'
  have hW' : U.Warmed39 s₂.vm := hW₂
  have hB' : U.Booked s₂.vm s₂.heap.size := hB₂
  have e3 : s₂ = ({ (U.calling g mk a).setFrames s₂.frames with heap := s₂.heap, slotsUsed := s₂.slotsUsed } : State).setVm s₂.vm := by
    have : s₂ = ({ s₂ with vm := (U.calling g mk a).vm } : State).setVm s₂.vm := rfl
    rw [e2] at this
    exact this
  obtain ⟨c₂, i₂, len₂, hc₂, hd₂, hf₂⟩ := hend
  have hcc : c₂ = c := by
    have h1 : s₂.code? g.method = U.code? g.method := by rw [State.code?_eq, State.code?_eq, hW'.alike.method?]
    exact Option.some.inj (hc₂.symm.trans (h1.trans hAt.code))
  subst hcc
  have hlen : len₂ = len := by rw [hdg] at hd₂; cases hd₂; rfl
  subst hlen
  obtain ⟨g₀, hg0⟩ := Option.isSome_iff_exists.mp hAt.top
  obtain ⟨r, hr⟩ := State.topJava?_eq_some.mp hg0
  have hs₂ : s₂ = (({ U with heap := s₂.heap, slotsUsed := s₂.slotsUsed } : State).setVm s₂.vm).setTop { g with pc := g.pc + len₂, stack := v.toList ++ g.stack } := by
    have hr' : (({ U with heap := s₂.heap, slotsUsed := s₂.slotsUsed } : State).setVm s₂.vm).frames = .java g₀ :: r := hr
    refine e3.trans ?_
    rw [hf₂, State.calling_eq hAt.top, State.setFrames_setFrames, State.setTop_of_frames _ hr', hr]
    rfl
  have hsame : U.sameButNew ({ U with heap := s₂.heap, slotsUsed := s₂.slotsUsed } : State) L rm.cells rm.slots := by
    refine ⟨?_, q2, q3, q4, q5, q6⟩
    obtain ⟨t, ht, -⟩ := State.frames_cons hr
    show ({ U with heap := s₂.heap, slotsUsed := s₂.slotsUsed } : State) = { U.setFrames U.frames with heap := s₂.heap, slotsUsed := s₂.slotsUsed }
    rw [State.setFrames_self ht]
  subst hg
  obtain ⟨X', hSi⟩ := X.movedW (T₂ := (({ U with heap := s₂.heap, slotsUsed := s₂.slotsUsed } : State).setVm s₂.vm)) ((X.here.setHeapUsed s₂.heap s₂.slotsUsed).setVm hW'.alike) X.tail rfl rfl hW' hB' hsame
  refine ⟨v, ⟨(({ U with heap := s₂.heap, slotsUsed := s₂.slotsUsed } : State).setVm s₂.vm), Ls ++ L, c0 + rm.cells, s0 + rm.slots⟩, X', hSi, ⟨L, ⟨hq, s₂, hk, rfl, rfl⟩, rfl, rfl, rfl⟩, ?_⟩
  show Steps p.tables e below _ ((({ U with heap := s₂.heap, slotsUsed := s₂.slotsUsed } : State).setVm s₂.vm).setTop { g with pc := g.pc + len₂, stack := v.toList ++ g.stack })
  rw [← hs₂]
  exact hsteps
theorem own_callSW (X : Stand p l e R s m args below meth c T locs cells slots) (hexec : p.tables.exec = Jvm.exec) {own : String} {index : Nat} {y : MethodName} {bytes : ByteArray} {maxL : Nat} {ret : Option FieldType}
    (hown : s.vm.findClass own = some m.cls) (hlink : (Cond.methodLink own index y).before args s = true) (hstat : (Cond.static y).before args s = true) (hinit : (Cond.initialized y.cls).before args s = true)
    (hcode : (Cond.code y bytes maxL ret).before args s = true) (hy : y.cls ≠ "java/lang/invoke/MethodHandle" ∧ y.cls ≠ "java/lang/invoke/VarHandle")
    {W : Nat} {Pre : Pt → Array Value → Prop} {Post : Pt → Array Value → Option Value → Pt → Prop} (hK : BackW l R p e below s args y 3 W Pre Post)
    {g : JFrame} (hg : g.method = m) (hsize : g.locals.size = c.maxLocals) {argsL rest : List Value} (hlen : ∀ sig, parseMethodDescriptor y.desc = some sig → argsL.length = sig.parameters.length)
    (hstack : g.stack = argsL.reverse ++ rest) (hW : 2 * g.monitorRoom + (rest.map fun v => v.category).sum ≤ W) (hdg : decode c.code g.pc = .ok (.invokestatic index, 3))
    (hpre : ∀ vm₁, s.WarmedH vm₁ → Pre ⟨T.setVm vm₁, locs, cells, slots⟩ argsL.toArray) :
    ∃ (v : Option Value) (vm₁ : Vm) (B : Pt), s.WarmedH vm₁ ∧ (Stand p l e R (s.setVm B.U.vm) m args below meth c B.U B.locs B.cells B.slots ∧ s.Since B.U.vm B.U.heap.size) ∧ Post ⟨T.setVm vm₁, locs, cells, slots⟩ argsL.toArray v B ∧
      ∀ target, Steps p.tables e below (B.U.setTop { g with pc := g.pc + 3, stack := v.toList ++ rest }) target → Steps p.tables e below (T.setTop g) target := by
  obtain ⟨mk, hnamed⟩ := Cond.code_named hcode
  obtain ⟨methM, cM, hmethM, -, -, -, -, -, -, hsigM⟩ := Cond.code_spec hnamed hcode
  have hstatic : methM.isStatic = true := Cond.static_spec hnamed hmethM hstat
  obtain ⟨kP, hkP, -⟩ := className_of_methodNamed hnamed
  have hinitP : kP.init = .initialized := Cond.initialized_spec (findClass_of_methodNamed hnamed) hkP hinit
  obtain ⟨vm₁, X₁, hstep₁⟩ := X.invokestatic hexec hown hlink hnamed hmethM hstatic hkP hinitP hy (g := g) hg (argsL := argsL) (rest := rest) (hlen _ hsigM) hstack hdg
  obtain ⟨v, B, X', hSi, hpost, hsteps⟩ := hK m meth c ⟨T.setVm vm₁, locs, cells, slots⟩ { g with stack := rest } (.invokestatic index) mk argsL.toArray X₁ hg hsize hdg hW (X₁.named hnamed) (hpre vm₁ X₁.warmed)
  exact ⟨v, vm₁, B, X₁.warmed, ⟨X', hSi⟩, hpost, fun target hh => hstep₁ _ fun acts => by rw [doInvoke_state]; exact hsteps.trans hh⟩
theorem own_specialW (X : Stand p l e R s m args below meth c T locs cells slots) (hexec : p.tables.exec = Jvm.exec) {own : String} {index : Nat} {y : MethodName} (hy1 : y.name = "<init>")
    (hown : s.vm.findClass own = some m.cls) (hlink : (Cond.methodLink own index y).before args s = true) (hinst : (Cond.instanceMethod y).before args s = true)
    {bytes : ByteArray} {maxL : Nat} (hcode : (Cond.code y bytes maxL none).before args s = true) (hy : y.cls ≠ "java/lang/invoke/MethodHandle" ∧ y.cls ≠ "java/lang/invoke/VarHandle")
    {W : Nat} {Pre : Pt → Array Value → Prop} {Post : Pt → Array Value → Option Value → Pt → Prop} (hK : BackW l R p e below s args y 3 W Pre Post)
    {g : JFrame} (hg : g.method = m) (hsize : g.locals.size = c.maxLocals) {a : Addr} {argsL rest : List Value}
    (hlen : ∀ sig, parseMethodDescriptor y.desc = some sig → argsL.length = sig.parameters.length) (hstack : g.stack = argsL.reverse ++ .ref a :: rest) (hW : 2 * g.monitorRoom + (rest.map fun v => v.category).sum ≤ W)
    (hdg : decode c.code g.pc = .ok (.invokespecial index, 3)) (hpre : ∀ vm₁, s.WarmedH vm₁ → Pre ⟨T.setVm vm₁, locs, cells, slots⟩ (.ref a :: argsL).toArray) :
    ∃ (v : Option Value) (vm₁ : Vm) (B : Pt), s.WarmedH vm₁ ∧ (Stand p l e R (s.setVm B.U.vm) m args below meth c B.U B.locs B.cells B.slots ∧ s.Since B.U.vm B.U.heap.size) ∧ Post ⟨T.setVm vm₁, locs, cells, slots⟩ (.ref a :: argsL).toArray v B ∧
      ∀ target, Steps p.tables e below (B.U.setTop { g with pc := g.pc + 3, stack := v.toList ++ rest }) target → Steps p.tables e below (T.setTop g) target := by
  have hpl : e.platform.magicAccessors = ({} : Platform).magicAccessors := by rw [X.admits.platform]
  obtain ⟨mk, methM, cM, kP, vm₁, hnamed, hmethM, -, -, -, -, hkP, -, hW₁, hstep₁⟩ :=
    Steps.initColdArgs (e := e) X.here hexec X.warmed hpl hown hy1 hy hlink hinst hcode (f := g) hg hlen hstack hdg
  have X₁ := X.noted hW₁
  obtain ⟨v, B, X', hSi, hpost, hsteps⟩ := hK m meth c ⟨T.setVm vm₁, locs, cells, slots⟩ { g with stack := rest } (.invokespecial index) mk (.ref a :: argsL).toArray X₁ hg hsize hdg hW (X₁.named hnamed) (hpre vm₁ hW₁)
  exact ⟨v, vm₁, B, hW₁, ⟨X', hSi⟩, hpost, fun target hh => (hstep₁ _ fun acts => by rw [doInvoke_state]; exact Steps.refl _).trans (hsteps.trans hh)⟩
theorem own_virtualW (X : Stand p l e R s m args below meth c T locs cells slots) (hexec : p.tables.exec = Jvm.exec) {own C : String} {index : Nat} {y z : MethodName}
    (hown : s.vm.findClass own = some m.cls) (hlink : (Cond.methodLink own index y).before args s = true) (hdecl : (Cond.declares y).before args s = true) (hnf : NotFace s y)
    (hsel : (Cond.selects C y z).before args s = true) (hinst : (Cond.instanceMethod z).before args s = true)
    (hy : y.cls ≠ "java/lang/invoke/MethodHandle" ∧ y.cls ≠ "java/lang/invoke/VarHandle")
    {W : Nat} {Pre : Pt → Array Value → Prop} {Post : Pt → Array Value → Option Value → Pt → Prop} (hK : BackW l R p e below s args z 3 W Pre Post)
    {b : Addr} {cB : ClassId} (hcB : s.vm.findClass C = some cB) (hrecv : IsOf cB T b)
    {g : JFrame} (hg : g.method = m) (hsize : g.locals.size = c.maxLocals) {argsL rest : List Value}
    (hlen : ∀ sig, parseMethodDescriptor y.desc = some sig → argsL.length = sig.parameters.length) (hstack : g.stack = argsL.reverse ++ .ref b :: rest) (hW : 2 * g.monitorRoom + (rest.map fun v => v.category).sum ≤ W)
    (hdg : decode c.code g.pc = .ok (.invokevirtual index, 3)) (hpre : ∀ vm₁, s.WarmedH vm₁ → Pre ⟨T.setVm vm₁, locs, cells, slots⟩ (.ref b :: argsL).toArray) :
    ∃ (v : Option Value) (vm₁ : Vm) (B : Pt), s.WarmedH vm₁ ∧ (Stand p l e R (s.setVm B.U.vm) m args below meth c B.U B.locs B.cells B.slots ∧ s.Since B.U.vm B.U.heap.size) ∧ Post ⟨T.setVm vm₁, locs, cells, slots⟩ (.ref b :: argsL).toArray v B ∧
      ∀ target, Steps p.tables e below (B.U.setTop { g with pc := g.pc + 3, stack := v.toList ++ rest }) target → Steps p.tables e below (T.setTop g) target := by
  obtain ⟨cellB, hcellT, hclsB, hstatB⟩ := hrecv
  obtain ⟨r0, r, hn, hrm, hstR, hsigR⟩ := Cond.declares_spec hdecl
  obtain ⟨mk, methM, hnamed, hmethM, -, habM⟩ := Cond.instanceMethod_spec hinst
  obtain ⟨c2, r2, m2, q1, q2, q3, q4, kP, hkP, hkPi⟩ := Cond.selects_spec hsel
  cases hcB.symm.trans q1
  cases (State.methodFound?_of_named hn hy).symm.trans q2
  cases hnamed.symm.trans q3
  have hselP : selectMethod e.platform s.vm cellB.cls r0 = .method mk := by rw [Launch.admits_selectMethod X.admits, hclsB]; exact q4
  obtain ⟨kr, hkr, hni⟩ := hnf r0 hn
  obtain ⟨vm₁, X₁, hstep₁⟩ := X.invokevirtual hexec hown hlink hn hrm hstR hkr hni hy (a := b) (cell := cellB) hcellT
    (fun z h => by rw [h] at hstatB; cases hstatB) hselP hmethM habM hkP hkPi (g := g) hg (argsL := argsL) (rest := rest) (hlen _ hsigR) hstack hdg
  obtain ⟨v, B, X', hSi, hpost, hsteps⟩ := hK m meth c ⟨T.setVm vm₁, locs, cells, slots⟩ { g with stack := rest } (.invokevirtual index) mk (.ref b :: argsL).toArray X₁ hg hsize hdg hW (X₁.named hnamed) (hpre vm₁ X₁.warmed)
  exact ⟨v, vm₁, B, X₁.warmed, ⟨X', hSi⟩, hpost, fun target hh => hstep₁ _ fun acts => by rw [doInvoke_state]; exact hsteps.trans hh⟩
end Wide
section Konst
variable {p : Program} {l : Launch} {e : Env} {R : Room} {s : State} {m : MethodId} {args : Array Value} {below : List Frame} {meth : Method} {c : Code} {T : State} {locs : List Loc} {cells slots : Nat} {Z : State} {a0 : Array Value} {h h' : Heap} {vm0 vm1 : Vm} {own text : String} {index : Nat} {z : Int32} {vs : List Value} {w : Addr} {KL : List (String × Nat × String × Int32 × List Value)}
/-- a String constant whose entry is resolved, and its object known -/
def KC (Z : State) (x : String × Nat × String × Int32 × List Value) (vm : Vm) (h : Heap) : Prop :=
  ∃ (a b : Addr) (k : ClassId), Lit (Z.setVm vm) x.1 x.2.1 a ∧ Exa Z h a "java/lang/String" ∧ Fld Z h a "java/lang/String" "coder" "B" (.int 0) ∧ Fld Z h a "java/lang/String" "value" "[B" (.ref b) ∧ Arv Z h b k .byte x.2.2.2.1 x.2.2.2.2 (.int 0)
/-- of each String constant: our run has not interned its text yet, or it is known -/
def KS (Z : State) (KL : List (String × Nat × String × Int32 × List Value)) (vm : Vm) (h : Heap) : Prop := ∃ Ts, IB Z vm Ts ∧ ∀ x ∈ KL, x.2.2.1 ∉ Ts ∨ KC Z x vm h
theorem KS.ext (K : KS Z KL vm0 h) (E : Ext h h') : KS Z KL vm0 h' := by
  obtain ⟨Ts, I, H⟩ := K
  refine ⟨Ts, I, fun x hx => (H x hx).imp id ?_⟩
  rintro ⟨a, b, k, L, A, C, V, B⟩
  exact ⟨a, b, k, L, A.ext E, C.ext E, V.ext E, B.ext E⟩
def NoS (Z : State) (h : Heap) (w : Addr) : Prop := ∀ (a b : Addr) (k : ClassId) (z : Int32) (vs : List Value), Exa Z h a "java/lang/String" → Fld Z h a "java/lang/String" "value" "[B" (.ref b) → Arv Z h b k .byte z vs (.int 0) → a ≠ w ∧ b ≠ w
theorem NoS.obj {C : String} {kk : Nat} (E : Exa Z h w C) (wi : (Cond.instantiable C kk).before a0 Z = true) (hC : C ≠ "java/lang/String") : NoS Z h w := fun a b k z vs A V B => ⟨fun q => ne_exa E A hC q.symm, fun q => E.neArv B wi q.symm⟩
theorem NoS.str {kk : Nat} (E : Exa Z h w "java/lang/String") (wi : (Cond.instantiable "java/lang/String" kk).before a0 Z = true) (F : Fld Z h w "java/lang/String" "value" "[B" .null) : NoS Z h w := fun a b k z vs A V B => ⟨fun q => Fld.ne F V (by intro q; cases q) q.symm, fun q => E.neArv B wi q.symm⟩
theorem NoS.arr {kk : Nat} {k0 : ClassId} {ty : FieldType} {n : Nat} {f : Nat → Value} (A0 : Arw Z h w k0 ty n f) (wi : (Cond.instantiable "java/lang/String" kk).before a0 Z = true) (ht : ty ≠ .byte) : NoS Z h w := fun a b k z vs A V B => ⟨fun q => own_ne_arr A wi A0 q, fun q => by
  subst q
  obtain ⟨c1, ⟨e1, ⟨-, k1, hk1, comp1, hd1⟩, -⟩, -⟩ := A0
  obtain ⟨c2, ⟨e2, ⟨-, k2, hk2, comp2, hd2⟩, -⟩, -⟩ := B
  cases e1.symm.trans e2
  cases hk1.symm.trans hk2
  rw [hd1] at hd2
  cases hd2
  exact ht rfl⟩
theorem KS.wr {sl : Nat} {v : Value} (K : KS Z KL vm0 h) (W : Wr h h' w sl v) (q : NoS Z h w) : KS Z KL vm0 h' := by
  obtain ⟨Ts, I, H⟩ := K
  refine ⟨Ts, I, fun x hx => (H x hx).imp id ?_⟩
  rintro ⟨a, b, k, L, A, C, V, B⟩
  obtain ⟨q1, q2⟩ := q a b k _ _ A V B
  exact ⟨a, b, k, L, A.wr W, C.other W (Or.inl q1), V.other W (Or.inl q1), B.other W q2⟩
theorem KS.keep {ws : List Addr} (K : KS Z KL vm0 h) (P : Keep h h' ws) (q : ∀ w ∈ ws, NoS Z h w) : KS Z KL vm0 h' := by
  obtain ⟨Ts, I, H⟩ := K
  refine ⟨Ts, I, fun x hx => (H x hx).imp id ?_⟩
  rintro ⟨a, b, k, L, A, C, V, B⟩
  have q1 : a ∉ ws := fun hm => (q a hm a b k _ _ A V B).1 rfl
  have q2 : b ∉ ws := fun hm => (q b hm a b k _ _ A V B).2 rfl
  exact ⟨a, b, k, L, A.keep P, C.keep P q1, V.keep P q1, B.keep P q2⟩
theorem KS.at_ (K : KS Z KL vm0 h) (hW : (s.setVm vm0).WarmedH vm1) : KS Z KL vm1 h := by
  obtain ⟨Ts, ⟨more, e1, e2⟩, H⟩ := K
  refine ⟨Ts, ⟨more, by rw [← e1]; exact hW.interned_eq, e2⟩, fun x hx => (H x hx).imp id ?_⟩
  rintro ⟨a, b, k, L, r⟩
  exact ⟨a, b, k, Lit.stays (s := s) L hW.wide, r⟩
theorem KS.start : KS Z KL Z.vm h := ⟨[], IB.start, fun x hx => Or.inl (by simp)⟩
theorem own_ldcK (X : Stand p l e R (s.setVm vm0) m args below meth c T locs cells slots) (hx : p.tables.exec = Jvm.exec) (hZ : Z.Warmed39 vm0) (hown : vm0.findClass own = some m.cls) (w : (Cond.stringLink own index text).before a0 Z = true) (wS : ∀ a ∈ Bundle.stringAtoms, a.before a0 Z = true)
    (eT : T.heap = h) {k0 : Nat} (hS : s.Since vm0 k0) (hk : k0 ≤ h.size) (N : Fr s.heap.size locs) (hkeep : ∀ (b : Addr) (cl : Cell), Z.heap[b]? = some cl → s.heap[b]? = some cl) (K : KS Z KL vm0 h) (hm : (own, index, text, z, vs) ∈ KL) (hdis : ∀ y ∈ KL, y.2.2.1 = text → y = (own, index, text, z, vs)) (hh : Jvm.Lit.constHeld Z own index) (hcw : Jvm.Lit.compactW.before a0 Z = true)
    (ht : (∀ c ∈ text.toList, c.toNat < 256) ∧ text.toList.map (fun c => Value.int (Jvm.Lit.byteI c.toNat.toUInt16)) = vs) (hz : ¬ z < 0) (hl : z.toNatClampNeg = vs.length)
    {g : JFrame} (hg : g.method = m) (hd : decode c.code g.pc = .ok (.ldc index, 2)) {n : Nat} (hn : 4 * text.toList.length ≤ n) (hbig : n ≤ 536870912) (hc : cells + 2 ≤ R.cells) (hl' : slots + (n + 4) ≤ R.slots) :
    ∃ (a : Addr) (T' : State) (h' : Heap) (vm1 : Vm) (k1 : Nat) (b : Addr) (k : ClassId), Stand p l e R (s.setVm vm1) m args below meth c T' locs (cells + 2) (slots + (n + 4)) ∧ T'.heap = h' ∧ Ext h h' ∧ s.Since vm1 k1 ∧ k1 ≤ h'.size ∧ Z.Warmed39 (s.setVm vm1).vm ∧ (s.setVm vm1).vm.findClass own = some m.cls ∧
      Exa Z h' a "java/lang/String" ∧ Fld Z h' a "java/lang/String" "coder" "B" (.int 0) ∧ Fld Z h' a "java/lang/String" "value" "[B" (.ref b) ∧ Arv Z h' b k .byte z vs (.int 0) ∧ Lit (Z.setVm vm1) own index a ∧ KS Z KL vm1 h' ∧
      ∀ target, Steps p.tables e below (T'.setTop { g with pc := g.pc + 2, stack := .ref a :: g.stack }) target → Steps p.tables e below (T.setTop g) target := by
  obtain ⟨Ts, I, H⟩ := K
  rcases H _ hm with hnot | ⟨a, b, k, L, A, C, V, B⟩
  · obtain ⟨a, T', h', k1, b, k, X', e', E', S', hk', hZ', hown', A, C, V, B, -, -, I', L', st⟩ := ldcSVL (s := s.setVm vm0) X hx hZ hown w wS eT ((State.WarmedH.refl (s.setVm vm0)).since 0) (Nat.zero_le _) N hkeep I hnot hh hcw ht hz hl hg hd hn hbig hc hl'
    refine ⟨a, T', h', T'.vm, h'.size, b, k, X', e', E', hS.trans ⟨S'.1, S'.2.mono hk'⟩ (Nat.le_trans hk E'.1), Nat.le_refl _, hZ', hown', A, C, V, B, L', ⟨text :: Ts, I', fun y hy => ?_⟩, st⟩
    by_cases hte : y.2.2.1 = text
    · obtain rfl := hdis y hy hte
      exact Or.inr ⟨a, b, k, L', A, C, V, B⟩
    · rcases H y hy with q | ⟨a2, b2, k2, L2, r1, r2, r3, r4⟩
      · exact Or.inl (by simp [hte, q])
      · exact Or.inr ⟨a2, b2, k2, Lit.stays (s := s) L2 S'.1, r1.ext E', r2.ext E', r3.ext E', r4.ext E'⟩
  · exact ⟨a, T, h, vm0, k0, b, k, X.mono (by omega) (by omega), eT, ⟨Nat.le_refl _, fun _ _ q => q⟩, hS, hk, hZ, hown, A, C, V, B, L, ⟨Ts, I, H⟩, ldcAgain X hx hZ hown w L hg hd⟩
end Konst
section Konst2
variable {s Z : State} {h h' : Heap} {vm0 vm1 : Vm} {w : Addr} {x : String × Nat × String × Int32 × List Value} {KL KN : List (String × Nat × String × Int32 × List Value)} {K : List (String × Nat × String × Int32 × List Value) × List (String × Nat × String × Int32 × List Value)}
theorem KC.ext (q : KC Z x vm0 h) (E : Ext h h') : KC Z x vm0 h' := by
  obtain ⟨a, b, k, L, A, C, V, B⟩ := q
  exact ⟨a, b, k, L, A.ext E, C.ext E, V.ext E, B.ext E⟩
theorem KC.wr {sl : Nat} {v : Value} (q : KC Z x vm0 h) (W : Wr h h' w sl v) (n : NoS Z h w) : KC Z x vm0 h' := by
  obtain ⟨a, b, k, L, A, C, V, B⟩ := q
  obtain ⟨q1, q2⟩ := n a b k _ _ A V B
  exact ⟨a, b, k, L, A.wr W, C.other W (Or.inl q1), V.other W (Or.inl q1), B.other W q2⟩
theorem KC.keep {ws : List Addr} (q : KC Z x vm0 h) (P : Keep h h' ws) (n : ∀ w ∈ ws, NoS Z h w) : KC Z x vm0 h' := by
  obtain ⟨a, b, k, L, A, C, V, B⟩ := q
  have q1 : a ∉ ws := fun hm => (n a hm a b k _ _ A V B).1 rfl
  have q2 : b ∉ ws := fun hm => (n b hm a b k _ _ A V B).2 rfl
  exact ⟨a, b, k, L, A.keep P, C.keep P q1, V.keep P q1, B.keep P q2⟩
theorem KC.at_ (q : KC Z x vm0 h) (hW : (s.setVm vm0).WarmedH vm1) : KC Z x vm1 h := by
  obtain ⟨a, b, k, L, r⟩ := q
  exact ⟨a, b, k, Lit.stays (s := s) L hW.wide, r⟩
/-- .. and some of the constants are known -/
def KT (Z : State) (K : List (String × Nat × String × Int32 × List Value) × List (String × Nat × String × Int32 × List Value)) (vm : Vm) (h : Heap) : Prop := KS Z K.1 vm h ∧ ∀ x ∈ K.2, KC Z x vm h
theorem KT.ext (q : KT Z K vm0 h) (E : Ext h h') : KT Z K vm0 h' := ⟨q.1.ext E, fun x hx => (q.2 x hx).ext E⟩
theorem KT.wr {sl : Nat} {v : Value} (q : KT Z K vm0 h) (W : Wr h h' w sl v) (n : NoS Z h w) : KT Z K vm0 h' := ⟨q.1.wr W n, fun x hx => (q.2 x hx).wr W n⟩
theorem KT.keep {ws : List Addr} (q : KT Z K vm0 h) (P : Keep h h' ws) (n : ∀ w ∈ ws, NoS Z h w) : KT Z K vm0 h' := ⟨q.1.keep P n, fun x hx => (q.2 x hx).keep P n⟩
theorem KT.at_ (q : KT Z K vm0 h) (hW : (s.setVm vm0).WarmedH vm1) : KT Z K vm1 h := ⟨q.1.at_ hW, fun x hx => (q.2 x hx).at_ hW⟩
theorem KT.start : KT Z (KL, []) Z.vm h := ⟨KS.start, fun x hx => absurd hx (by simp)⟩
theorem KT.less (q : KT Z (KL, KN) vm0 h) : KT Z (KL, []) vm0 h := ⟨q.1, fun x hx => absurd hx (by simp)⟩
theorem KT.more (q : KT Z (KL, []) vm0 h) (k : KC Z x vm0 h) : KT Z (KL, [x]) vm0 h := ⟨q.1, fun y hy => by
  rw [List.mem_singleton] at hy
  subst hy
  exact k⟩
end Konst2
def own_KL : List (String × Nat × String × Int32 × List Value) := [("com/example/lincra/lincra/UrlNormalizerPathAndQueryPinLaw", 7, "abcdefmxyz01289-._~!$&'()*+,;=:@", (32 : Int32), [(.int 97), (.int 98), (.int 99), (.int 100), (.int 101), (.int 102), (.int 109), (.int 120), (.int 121), (.int 122), (.int 48), (.int 49), (.int 50), (.int 56), (.int 57), (.int 45), (.int 46), (.int 95), (.int 126), (.int 33), (.int 36), (.int 38), (.int 39), (.int 40), (.int 41), (.int 42), (.int 43), (.int 44), (.int 59), (.int 61), (.int 58), (.int 64)]), ("com/example/lincra/lincra/UrlNormalizerPathAndQueryPinLaw", 19, "aqzAQZ0379-._~!$&'()*+,;=:@/?/?F", (32 : Int32), [(.int 97), (.int 113), (.int 122), (.int 65), (.int 81), (.int 90), (.int 48), (.int 51), (.int 55), (.int 57), (.int 45), (.int 46), (.int 95), (.int 126), (.int 33), (.int 36), (.int 38), (.int 39), (.int 40), (.int 41), (.int 42), (.int 43), (.int 44), (.int 59), (.int 61), (.int 58), (.int 64), (.int 47), (.int 63), (.int 47), (.int 63), (.int 70)]), ("com/example/lincra/lincra/UrlNormalizer", 81, "://", (3 : Int32), [(.int 58), (.int 47), (.int 47)]), ("com/example/lincra/lincra/UrlNormalizerPathAndQueryPinLaw", 23, "http://", (7 : Int32), [(.int 104), (.int 116), (.int 116), (.int 112), (.int 58), (.int 47), (.int 47)]), ("com/example/lincra/lincra/UrlNormalizerPathAndQueryPinLaw", 21, "https://", (8 : Int32), [(.int 104), (.int 116), (.int 116), (.int 112), (.int 115), (.int 58), (.int 47), (.int 47)])]
def own_find (g : Nat → Int32) (b : Int32) : Nat → Nat → Int32 → Int32
  | 0, _, _ => -1
  | k + 1, j, i => if g j = b then i else own_find g b k (j + 1) (i + 1)
theorem own_find_end {g : Nat → Int32} {b i : Int32} {N j : Nat} (h : N ≤ j) : own_find g b (N - j) j i = -1 := by
  rw [Nat.sub_eq_zero_of_le h]
  rfl
theorem own_find_hit {g : Nat → Int32} {b i : Int32} {N j : Nat} (h : j < N) (q : g j = b) : own_find g b (N - j) j i = i := by
  obtain ⟨k, hk⟩ : ∃ k, N - j = k + 1 := ⟨N - j - 1, by omega⟩
  rw [hk]
  exact if_pos q
theorem own_find_next {g : Nat → Int32} {b i : Int32} {N j : Nat} (h : j < N) (q : ¬ g j = b) : own_find g b (N - (j + 1)) (j + 1) (i + 1) = own_find g b (N - j) j i := by
  obtain ⟨k, hk⟩ : ∃ k, N - j = k + 1 := ⟨N - j - 1, by omega⟩
  rw [hk, show N - (j + 1) = k by omega]
  exact (if_neg q).symm
theorem own_nz {N : Nat} {nz : Int32} (h : nz.toInt = (N : Int)) : (N : Nat).toInt32 = nz := by
  have q := nz.toInt_lt
  apply Int32.toInt_inj.mp
  rw [h]
  show (Int32.ofNat N).toInt = _
  rw [Int32.toInt_ofNat_of_lt (by omega)]
theorem own_p1 {i : Int32} {j : Nat} (h : i.toInt = (j : Int)) (hj : j < 2147483647) : (i + 1).toInt = ((j + 1 : Nat) : Int) := by
  have q := c_iadd i 1
  have q1 : (1 : Int32).toInt = 1 := by decide
  have q3 := rng32 (i + 1)
  omega
theorem own_shr0 (x : Int32) : x >>> ((0 : Int32) &&& 31) = x := by
  rw [show ((0 : Int32) &&& 31) = 0 by decide]
  exact Int32.shiftRight_zero
theorem own_nc (x : Int32) : some (Value.int (nar .char ((x &&& (255 : Int32)).toUInt32.toUInt16.toUInt32.toInt32))) = some (Value.int ((x &&& (255 : Int32)).toUInt32.toUInt16.toUInt32.toInt32)) := congrArg (fun z => some (Value.int z)) (((congrArg (nar .char) (i2c_mask x)).trans (i2c_mask x)).trans (i2c_mask x).symm)
theorem own_ret {x y : Int32} (h : x = y) : some (Value.int x) = some (Value.int y) := by rw [h]
theorem own_rangeD {f : Nat → Value} {n i : Nat} (h : i < n) (dv : Value) : ((List.range n).map f).getD i dv = f i := by
  simp [List.getD, h]
theorem own_cpW (X : Stand p l e R s m args below meth c T locs cells slots) (hx : p.tables.exec = Jvm.exec) (hZ : Z.Warmed39 s.vm) {a0 : Array Value} {own : String} {index : Nat} (hown : s.vm.findClass own = some m.cls)
    (w1 : (Cond.methodLink own index Jvm.Stand.acN).before a0 Z = true) (w2 : (Cond.native Jvm.Stand.acN).before a0 Z = true) (w3 : (Cond.static Jvm.Stand.acN).before a0 Z = true) (w4 : (Cond.initialized "java/lang/System").before a0 Z = true) (eT : T.heap = h)
    {k' : ClassId} {sp nn zN : Int32} {q N M : Nat} {f fb : Nat → Value} {a b : Addr} {k : ClassId} (A : Arw Z h a k .byte N f) (B : Arw Z h b k' .byte M fb) (hN : zN.toInt = (N : Int)) (hq : sp.toInt = (q : Int)) (hn : nn.toInt = (M : Int)) (hle : q + M ≤ N) {n0 : Nat} (Nf : Fr n0 locs) (ge : n0 ≤ b)
    {g : JFrame} (hg : g.method = m) (hsize : g.locals.size = c.maxLocals) {rest : List Value} (hs : g.stack = .int nn :: .int 0 :: .ref b :: .int sp :: .ref a :: rest) (hd : decode c.code g.pc = .ok (.invokestatic index, 3))
    (hf : 1 ≤ R.frames) {W : Nat} (hW : 2 * g.monitorRoom + (rest.map fun v => v.category).sum ≤ W) (hlo : W + (nativeFrameWords "java/lang/System" "arraycopy" 5 + 11) ≤ R.locals) :
    ∃ T' h' L, Stand p l e R s m args below meth c T' L cells slots ∧ T'.heap = h' ∧ Fr n0 L ∧ Keep h h' [b] ∧ Arw Z h' b k' .byte M (fun i => f (q + i)) ∧
      ∀ target, Steps p.tables e below (T'.setTop { g with pc := g.pc + 3, stack := rest }) target → Steps p.tables e below (T.setTop g) target := by
  have eN := (own_ix hN).2
  have eq := (own_ix hq).2
  have en := (own_ix hn).2
  have e0 : (0 : Int32).toNatClampNeg = 0 := by decide
  obtain ⟨T', h', L, X', eT', N', K', A', st⟩ := cpA X hx hZ hown w1 w2 w3 w4 eT (A.toArv (vs := (List.range N).map f) (dv := .int 0) (z := zN) hN (fun i hi => own_rangeD hi _)) (B.toArv (vs := (List.range M).map fb) (dv := .int 0) (z := nn) hn (fun i hi => own_rangeD hi _)) (Or.inl ⟨rfl, rfl⟩)
    (own_ix hq).1 (by decide) (own_ix hn).1 (by rw [eN, eq, en]; exact hle) (by rw [e0, en]; omega) rfl (by rw [e0, en]; simp) Nf ge hg hsize hs hd hf hW hlo
  refine ⟨T', h', L, X', eT', N', K', Arw.ofArv A' en (fun i hi => ?_), st⟩
  rw [e0, en, eq]
  have hd0 : ((List.range M).map fb).drop (0 + M) = [] := by simp
  rw [hd0]
  simp [List.getD, hi, show q + i < N by omega]
theorem own_aS {P : Int32 → Prop} {x : Int32} {xs : List Int32} (h : P x) (t : ∀ c ∈ xs, P c) : ∀ c ∈ x :: xs, P c := fun c hc => (List.mem_cons.mp hc).elim (fun q => q ▸ h) (t c)
theorem own_a0 {P : Int32 → Prop} : ∀ c ∈ ([] : List Int32), P c := fun c hc => absurd hc (by simp)
theorem own_antis {x y : Int32} (h1 : ¬ x < y) (h2 : ¬ y < x) : x = y := by
  have q1 : ¬ _ := fun q => h1 (own_lti.mpr q)
  have q2 : ¬ _ := fun q => h2 (own_lti.mpr q)
  exact Int32.toInt_inj.mp (by omega)
theorem own_sbi {x y : Int32} {a b : Nat} (hx : x.toInt = (a : Int)) (hy : y.toInt = (b : Int)) (h : b ≤ a) : (x - y).toInt = ((a - b : Nat) : Int) := by
  have q := c_isub x y
  have q3 := rng32 (x - y)
  have q4 := rng32 x
  omega
theorem own_adi {x y : Int32} {a b : Nat} (hx : x.toInt = (a : Int)) (hy : y.toInt = (b : Int)) (h : a + b < 2147483648) : (x + y).toInt = ((a + b : Nat) : Int) := by
  have q := c_iadd x y
  have q3 := rng32 (x + y)
  omega
theorem own_nlt {x y : Int32} {a b : Nat} (hx : x.toInt = (a : Int)) (hy : y.toInt = (b : Int)) (h : a ≤ b) : ¬ y < x := fun q => by
  have q1 := own_lti.mp q
  omega
theorem own_nz0 {x : Int32} {a : Nat} (hx : x.toInt = (a : Int)) (h : 0 < a) : ¬ x = (0 : Int32) := fun q => by
  rw [q] at hx
  have q1 : (0 : Int32).toInt = 0 := by decide
  omega
def own_K0 : List (String × Nat × String × Int32 × List Value) × List (String × Nat × String × Int32 × List Value) := (own_KL, [])
def own_K7 : List (String × Nat × String × Int32 × List Value) × List (String × Nat × String × Int32 × List Value) := (own_KL, [("com/example/lincra/lincra/UrlNormalizerPathAndQueryPinLaw", 23, "http://", (7 : Int32), [(.int 104), (.int 116), (.int 116), (.int 112), (.int 58), (.int 47), (.int 47)])])
def own_K8 : List (String × Nat × String × Int32 × List Value) × List (String × Nat × String × Int32 × List Value) := (own_KL, [("com/example/lincra/lincra/UrlNormalizerPathAndQueryPinLaw", 21, "https://", (8 : Int32), [(.int 104), (.int 116), (.int 116), (.int 112), (.int 115), (.int 58), (.int 47), (.int 47)])])
theorem ef_rm3 (m : MethodId) (a : Addr) : entryFrame m #[(.ref a)] 1 = mkF m 0 #[.val (.ref a)] [] := by first | (simp [entryFrame, mkF, argsToLocals, Value.category]; done) | rfl
def Qrm3 (Z : State) (a : Addr) (cS : Int32) (h0 : Heap) (n0 : Nat) (v_ : Option Value) (h_ : Heap) (L_ : List Loc) : Prop := v_ = some (.int (1 : Int32)) ∧ L_ = [] ∧ h_ = h0
theorem pn_java_lang_String : plainName "java/lang/String" = true := by first | (simp [plainName, overriddenIn]; done) | decide +kernel
theorem d3_0 : decode jdk_42_method_154_code 0 = .ok (.getstatic 38, 3) := by decide +kernel
theorem d3_3 : decode jdk_42_method_154_code 3 = .ok (.ifCond .eq 14, 3) := by decide +kernel
theorem d3_6 : decode jdk_42_method_154_code 6 = .ok (.aload_n 0, 1) := by decide +kernel
theorem d3_7 : decode jdk_42_method_154_code 7 = .ok (.getfield 15, 3) := by decide +kernel
theorem d3_10 : decode jdk_42_method_154_code 10 = .ok (.ifCond .ne 7, 3) := by decide +kernel
theorem d3_13 : decode jdk_42_method_154_code 13 = .ok (.iconst 1, 1) := by decide +kernel
theorem d3_14 : decode jdk_42_method_154_code 14 = .ok (.goto 4, 3) := by decide +kernel
theorem d3_18 : decode jdk_42_method_154_code 18 = .ok (.ireturn, 1) := by decide +kernel
set_option maxRecDepth 65536 in
set_option maxHeartbeats 40000000 in
theorem rm3 (l : Launch) (Z : State) (a0 : Array Value) (hw : ∀ d ∈ tables_1, d.before a0 Z = true) (ws : List Jvm.Cond) (a : Addr) (cS : Int32) (h0 : Heap) (n0 : Nat) (Z0 : n0 ≤ h0.size) (F0_a_coder : Fld Z h0 a "java/lang/String" "coder" "B" (.int (0 : Int32))) (S1_java_lang_String_COMPACT_STRINGS_COMPACT_STRINGS : Sta Z h0 "java/lang/String" "COMPACT_STRINGS" "Z" (.int cS)) (H_cs : ¬ cS = (0 : Int32)) :
    MetFree l (⟨"java/lang/String", "isLatin1", "()Z"⟩ : MethodName) (head1 (Jvm.Cond.code (⟨"java/lang/String", "isLatin1", "()Z"⟩ : MethodName) jdk_42_method_154_code 1 (some .boolean) :: ws) ({ frames := 0, cells := 0, slots := 0, locals := 0 } : Room)) (fun as_ U_ => as_ = #[(.ref a)] ∧ Z.Warmed39 U_.vm ∧ U_.heap = h0) (fun _ _ _ _ _ => True) (fun _ U_ o_ V_ => ∃ v_ L_, o_ = .returned v_ ∧ Qrm3 Z a cS h0 n0 v_ V_.heap L_ ∧ FrameEnd U_ o_ V_ L_ ({ frames := 0, cells := 0, slots := 0, locals := 0 } : Room).cells ({ frames := 0, cells := 0, slots := 0, locals := 0 } : Room).slots) := by
  refine MetFree.of_bodySF (plainFor_of_name pn_java_lang_String) hisR ?_
  intro p e s m args below meth c s₁ Bd hml0 hP hK
  obtain ⟨rfl, hZ, hh⟩ := hP
  have hx := Bd.exec
  have hby := Bd.bytes
  have hlk : meth.locks = false := BodyLoose.notSynchronized Bd
  have hret := Bd.returns
  have hml : c.maxLocals = 1 := hml0
  have hown : s.vm.findClass "java/lang/String" = some m.cls := findClass_of_methodNamed Bd.named
  have hnm := (name_of_methodNamed Bd.named Bd.method).1
  have X0 : Stand p l e ({ frames := 0, cells := 0, slots := 0, locals := 0 } : Room) s m #[(.ref a)] below meth c s₁ [] 0 0 := Stand.of_body Bd
  have e0 : s₁.heap = h0 := by rw [← hh, Bd.state]; rfl
  have N0 := Fr.nil n0
  show Goes p e below (Fin_ s (Qrm3 Z a cS h0 n0) ({ frames := 0, cells := 0, slots := 0, locals := 0 } : Room).cells ({ frames := 0, cells := 0, slots := 0, locals := 0 } : Room).slots) (s₁.setTop (entryFrame m #[(.ref a)] 1))
  rw [ef_rm3 m a]
  obtain ⟨T1, X1, e1, st1⟩ := getS2 X0 hx hZ hown (host := "") (Or.inl (own_w hw 23 rfl)) Via.refl e0 S1_java_lang_String_COMPACT_STRINGS_COMPACT_STRINGS (g := (mkF m 0 #[vr a] [])) rfl (hb hby d3_0)
  refine Goes.via st1 ?_
  show Goes p e below _ (T1.setTop (mkF m 3 #[vr a] [(.int cS)]))
  have hc3_2 : ¬ (cS = (0 : Int32)) := H_cs
  refine Goes.via (fun _ kk_ => XS.ifNo X1.here hx rfl (hb hby d3_3) rfl ((if0 _ _).trans (feq hc3_2).1) kk_) ?_
  show Goes p e below _ (T1.setTop (mkF m 6 #[vr a] []))
  refine gALN X1 hx hby d3_6 rfl rfl ?_
  obtain ⟨T3, X3, e3, st3⟩ := getF X1 hx hZ hown (host := "") (Or.inl (own_w hw 24 rfl)) Via.refl e1 F0_a_coder (g := (mkF m 7 #[vr a] [(.ref a)])) rfl rfl (hb hby d3_7)
  refine Goes.via st3 ?_
  show Goes p e below _ (T3.setTop (mkF m 10 #[vr a] [(.int (0 : Int32))]))
  have hc10_4 : (0 : Int32) = (0 : Int32) := (by decide)
  refine Goes.via (fun _ kk_ => XS.ifNo X3.here hx rfl (hb hby d3_10) rfl ((if0 _ _).trans (teq hc10_4).2) kk_) ?_
  show Goes p e below _ (T3.setTop (mkF m 13 #[vr a] []))
  refine gIC (z := 1) X3 hx hby d3_13 rfl ?_
  refine Goes.via (fun _ kk_ => XS.goto X3.here hx rfl (pc0 := 14) (pc' := 18) rfl (hb hby d3_14) (by decide) (by decide) kk_) ?_
  show Goes p e below _ (T3.setTop (mkF m 18 #[vr a] [(.int (1 : Int32))]))
  exact own_finN X3 hx hlk hret (by simp) (hb hby d3_18) (by rw [e3]; exact ⟨rfl, rfl, rfl⟩) (by first | decide | omega | (dsimp only; omega)) (by first | decide | omega | (dsimp only; omega))
theorem ef_rm9 (m : MethodId) (a : Addr) : entryFrame m #[(.ref a)] 1 = mkF m 0 #[.val (.ref a)] [] := by first | (simp [entryFrame, mkF, argsToLocals, Value.category]; done) | rfl
def Qrm9 (Z : State) (a : Addr) (cS : Int32) (h0 : Heap) (n0 : Nat) (v_ : Option Value) (h_ : Heap) (L_ : List Loc) : Prop := v_ = some (.int (0 : Int32)) ∧ L_ = [] ∧ h_ = h0
theorem d9_0 : decode jdk_42_method_152_code 0 = .ok (.getstatic 38, 3) := by decide +kernel
theorem d9_3 : decode jdk_42_method_152_code 3 = .ok (.ifCond .eq 10, 3) := by decide +kernel
theorem d9_6 : decode jdk_42_method_152_code 6 = .ok (.aload_n 0, 1) := by decide +kernel
theorem d9_7 : decode jdk_42_method_152_code 7 = .ok (.getfield 15, 3) := by decide +kernel
theorem d9_10 : decode jdk_42_method_152_code 10 = .ok (.goto 4, 3) := by decide +kernel
theorem d9_14 : decode jdk_42_method_152_code 14 = .ok (.ireturn, 1) := by decide +kernel
set_option maxRecDepth 65536 in
set_option maxHeartbeats 40000000 in
theorem rm9 (l : Launch) (Z : State) (a0 : Array Value) (hw : ∀ d ∈ tables_1, d.before a0 Z = true) (ws : List Jvm.Cond) (a : Addr) (cS : Int32) (h0 : Heap) (n0 : Nat) (Z0 : n0 ≤ h0.size) (F0_a_coder : Fld Z h0 a "java/lang/String" "coder" "B" (.int (0 : Int32))) (S1_java_lang_String_COMPACT_STRINGS_COMPACT_STRINGS : Sta Z h0 "java/lang/String" "COMPACT_STRINGS" "Z" (.int cS)) (H_cs : ¬ cS = (0 : Int32)) :
    MetFree l (⟨"java/lang/String", "coder", "()B"⟩ : MethodName) (head1 (Jvm.Cond.code (⟨"java/lang/String", "coder", "()B"⟩ : MethodName) jdk_42_method_152_code 1 (some .byte) :: ws) ({ frames := 0, cells := 0, slots := 0, locals := 0 } : Room)) (fun as_ U_ => as_ = #[(.ref a)] ∧ Z.Warmed39 U_.vm ∧ U_.heap = h0) (fun _ _ _ _ _ => True) (fun _ U_ o_ V_ => ∃ v_ L_, o_ = .returned v_ ∧ Qrm9 Z a cS h0 n0 v_ V_.heap L_ ∧ FrameEnd U_ o_ V_ L_ ({ frames := 0, cells := 0, slots := 0, locals := 0 } : Room).cells ({ frames := 0, cells := 0, slots := 0, locals := 0 } : Room).slots) := by
  refine MetFree.of_bodySF (plainFor_of_name pn_java_lang_String) hisR ?_
  intro p e s m args below meth c s₁ Bd hml0 hP hK
  obtain ⟨rfl, hZ, hh⟩ := hP
  have hx := Bd.exec
  have hby := Bd.bytes
  have hlk : meth.locks = false := BodyLoose.notSynchronized Bd
  have hret := Bd.returns
  have hml : c.maxLocals = 1 := hml0
  have hown : s.vm.findClass "java/lang/String" = some m.cls := findClass_of_methodNamed Bd.named
  have hnm := (name_of_methodNamed Bd.named Bd.method).1
  have X0 : Stand p l e ({ frames := 0, cells := 0, slots := 0, locals := 0 } : Room) s m #[(.ref a)] below meth c s₁ [] 0 0 := Stand.of_body Bd
  have e0 : s₁.heap = h0 := by rw [← hh, Bd.state]; rfl
  have N0 := Fr.nil n0
  show Goes p e below (Fin_ s (Qrm9 Z a cS h0 n0) ({ frames := 0, cells := 0, slots := 0, locals := 0 } : Room).cells ({ frames := 0, cells := 0, slots := 0, locals := 0 } : Room).slots) (s₁.setTop (entryFrame m #[(.ref a)] 1))
  rw [ef_rm9 m a]
  obtain ⟨T1, X1, e1, st1⟩ := getS2 X0 hx hZ hown (host := "") (Or.inl (own_w hw 23 rfl)) Via.refl e0 S1_java_lang_String_COMPACT_STRINGS_COMPACT_STRINGS (g := (mkF m 0 #[vr a] [])) rfl (hb hby d9_0)
  refine Goes.via st1 ?_
  show Goes p e below _ (T1.setTop (mkF m 3 #[vr a] [(.int cS)]))
  have hc3_2 : ¬ (cS = (0 : Int32)) := H_cs
  refine Goes.via (fun _ kk_ => XS.ifNo X1.here hx rfl (hb hby d9_3) rfl ((if0 _ _).trans (feq hc3_2).1) kk_) ?_
  show Goes p e below _ (T1.setTop (mkF m 6 #[vr a] []))
  refine gALN X1 hx hby d9_6 rfl rfl ?_
  obtain ⟨T3, X3, e3, st3⟩ := getF X1 hx hZ hown (host := "") (Or.inl (own_w hw 24 rfl)) Via.refl e1 F0_a_coder (g := (mkF m 7 #[vr a] [(.ref a)])) rfl rfl (hb hby d9_7)
  refine Goes.via st3 ?_
  show Goes p e below _ (T3.setTop (mkF m 10 #[vr a] [(.int (0 : Int32))]))
  refine Goes.via (fun _ kk_ => XS.goto X3.here hx rfl (pc0 := 10) (pc' := 14) rfl (hb hby d9_10) (by decide) (by decide) kk_) ?_
  show Goes p e below _ (T3.setTop (mkF m 14 #[vr a] [(.int (0 : Int32))]))
  exact own_finN X3 hx hlk hret (by simp) (hb hby d9_14) (by rw [e3]; exact ⟨rfl, rfl, rfl⟩) (by first | decide | omega | (dsimp only; omega)) (by first | decide | omega | (dsimp only; omega))
theorem ef_rm8 (m : MethodId) (a : Addr) : entryFrame m #[(.ref a)] 1 = mkF m 0 #[.val (.ref a)] [] := by first | (simp [entryFrame, mkF, argsToLocals, Value.category]; done) | rfl
def Qrm8 (Z : State) (a : Addr) (nz : Int32) (cS : Int32) (t : Addr) (kc : ClassId) (N : Nat) (g : Nat → Int32) (h0 : Heap) (n0 : Nat) (v_ : Option Value) (h_ : Heap) (L_ : List Loc) : Prop := v_ = some (.int nz) ∧ L_ = [] ∧ h_ = h0
theorem d8_0 : decode jdk_42_method_54_code 0 = .ok (.aload_n 0, 1) := by decide +kernel
theorem d8_1 : decode jdk_42_method_54_code 1 = .ok (.getfield 9, 3) := by decide +kernel
theorem d8_4 : decode jdk_42_method_54_code 4 = .ok (.arraylength, 1) := by decide +kernel
theorem d8_5 : decode jdk_42_method_54_code 5 = .ok (.aload_n 0, 1) := by decide +kernel
theorem pd_0 : parseMethodDescriptor "()B" = some ⟨[], some .byte⟩ := by decide +kernel
theorem d8_6 : decode jdk_42_method_54_code 6 = .ok (.invokevirtual 335, 3) := by decide +kernel
theorem d8_9 : decode jdk_42_method_54_code 9 = .ok (.ishr, 1) := by decide +kernel
theorem d8_10 : decode jdk_42_method_54_code 10 = .ok (.ireturn, 1) := by decide +kernel
set_option maxRecDepth 65536 in
set_option maxHeartbeats 40000000 in
theorem rm8 (l : Launch) (Z : State) (a0 : Array Value) (hw : ∀ d ∈ tables_1, d.before a0 Z = true) (ws : List Jvm.Cond) (a : Addr) (nz : Int32) (cS : Int32) (t : Addr) (kc : ClassId) (N : Nat) (g : Nat → Int32) (h0 : Heap) (n0 : Nat) (Z0 : n0 ≤ h0.size) (E0_a : Exa Z h0 a "java/lang/String") (F1_a_coder : Fld Z h0 a "java/lang/String" "coder" "B" (.int (0 : Int32))) (F2_a_value : Fld Z h0 a "java/lang/String" "value" "[B" (.ref t)) (A3_t : Arw Z h0 t kc .byte N (fun i => .int (g i))) (S4_java_lang_String_COMPACT_STRINGS_COMPACT_STRINGS : Sta Z h0 "java/lang/String" "COMPACT_STRINGS" "Z" (.int cS)) (H_cs : ¬ cS = (0 : Int32)) (Hnz : nz.toInt = (N : Int)) :
    MetFree l (⟨"java/lang/String", "length", "()I"⟩ : MethodName) (head1 (Jvm.Cond.code (⟨"java/lang/String", "length", "()I"⟩ : MethodName) jdk_42_method_54_code 1 (some .int) :: ws) ({ frames := 1, cells := 0, slots := 0, locals := 13 } : Room)) (fun as_ U_ => as_ = #[(.ref a)] ∧ Z.Warmed39 U_.vm ∧ U_.heap = h0) (fun _ _ _ _ _ => True) (fun _ U_ o_ V_ => ∃ v_ L_, o_ = .returned v_ ∧ Qrm8 Z a nz cS t kc N g h0 n0 v_ V_.heap L_ ∧ FrameEnd U_ o_ V_ L_ ({ frames := 1, cells := 0, slots := 0, locals := 13 } : Room).cells ({ frames := 1, cells := 0, slots := 0, locals := 13 } : Room).slots) := by
  refine MetFree.of_bodySF (plainFor_of_name pn_java_lang_String) hisR ?_
  intro p e s m args below meth c s₁ Bd hml0 hP hK
  obtain ⟨rfl, hZ, hh⟩ := hP
  have hx := Bd.exec
  have hby := Bd.bytes
  have hlk : meth.locks = false := BodyLoose.notSynchronized Bd
  have hret := Bd.returns
  have hml : c.maxLocals = 1 := hml0
  have hown : s.vm.findClass "java/lang/String" = some m.cls := findClass_of_methodNamed Bd.named
  have hnm := (name_of_methodNamed Bd.named Bd.method).1
  have X0 : Stand p l e ({ frames := 1, cells := 0, slots := 0, locals := 13 } : Room) s m #[(.ref a)] below meth c s₁ [] 0 0 := Stand.of_body Bd
  have e0 : s₁.heap = h0 := by rw [← hh, Bd.state]; rfl
  have N0 := Fr.nil n0
  show Goes p e below (Fin_ s (Qrm8 Z a nz cS t kc N g h0 n0) ({ frames := 1, cells := 0, slots := 0, locals := 13 } : Room).cells ({ frames := 1, cells := 0, slots := 0, locals := 13 } : Room).slots) (s₁.setTop (entryFrame m #[(.ref a)] 1))
  rw [ef_rm8 m a]
  have ne1 : a ≠ t := own_ne_arr E0_a (own_w hw 7 rfl) A3_t
  refine gALN X0 hx hby d8_0 rfl rfl ?_
  obtain ⟨T2, X2, e2, st2⟩ := getF X0 hx hZ hown (host := "") (Or.inl (own_w hw 25 rfl)) Via.refl e0 F2_a_value (g := (mkF m 1 #[vr a] [(.ref a)])) rfl rfl (hb hby d8_1)
  refine Goes.via st2 ?_
  show Goes p e below _ (T2.setTop (mkF m 4 #[vr a] [(.ref t)]))
  refine Goes.via (own_alen X2 hx hZ e2 A3_t (g := (mkF m 4 #[vr a] [(.ref t)])) rfl rfl (hb hby d8_4)) ?_
  rw [show (N : Nat).toInt32 = nz from (own_nz Hnz)]
  show Goes p e below _ (T2.setTop (mkF m 5 #[vr a] [(.int nz)]))
  refine gALN X2 hx hby d8_5 rfl rfl ?_
  obtain ⟨cq3, kq3, q3a, q3b, q3c⟩ := isOf hZ e2 E0_a
  obtain ⟨_, _, ⟨T3, L3, k3, n3⟩, -, X3, ⟨Lc3, hQ3, l3, y3, z3⟩, st3⟩ := X2.virtualBack hx (y := (⟨"java/lang/String", "coder", "()B"⟩ : MethodName)) (z := (⟨"java/lang/String", "coder", "()B"⟩ : MethodName)) hown (mvT hZ (own_w hw 47 rfl)) (mvT hZ (own_w hw 48 rfl)) (notFace_of_selects (args := #[]) (mvT hZ (own_w hw 50 rfl))) (mvT hZ (own_w hw 50 rfl)) (mvT hZ (own_w hw 49 rfl)) (by decide) (backOf (W := 1) (rm9 l Z a0 hw [] a cS h0 n0 (Nat.le_trans Z0 (Nat.le_refl _)) F1_a_coder S4_java_lang_String_COMPACT_STRINGS_COMPACT_STRINGS H_cs) hZ (own_w hw 51 rfl) (own_w hw 6 rfl) (by decide) (by decide)) q3a q3c (g := (mkF m 6 #[vr a] [(.ref a), (.int nz)])) rfl (by rw [hml]; rfl) (Steps.refl _) (argsL := []) (rest := [(.int nz)]) (lenOf pd_0 rfl) rfl (by show 2 * 0 + _ ≤ _; exact Nat.le_of_eq rfl) (hb hby d8_6) (fun _ _ => ⟨rfl, e2, (by decide : 0 + 0 ≤ _), (by decide : 0 + 0 ≤ _)⟩)
  dsimp only [Pt.U, Pt.locs, Pt.cells, Pt.slots] at X3 l3 y3 z3 st3 hQ3
  replace l3 := l3.symm
  subst l3 y3 z3
  obtain ⟨rfl, rfl, e3⟩ := hQ3
  first | rw [List.append_nil] at X3 | skip
  refine Goes.tr st3 ?_
  have e3' : T3.heap = h0 := e3
  show Goes p e below _ (T3.setTop (mkF m 9 #[vr a] [(.int (0 : Int32)), (.int nz)]))
  refine Goes.via (fun _ kk_ => XS.ishr X3.here hx rfl (hb hby d8_9) rfl kk_) ?_
  show Goes p e below _ (T3.setTop (mkF m 10 #[vr a] [(.int (nz >>> ((0 : Int32) &&& 31)))]))
  exact own_finI X3 hx hlk hret (hb hby d8_10) (by rw [e3']; exact ⟨(own_ret (own_shr0 _)), rfl, rfl⟩) (by first | decide | omega | (dsimp only; omega)) (by first | decide | omega | (dsimp only; omega))
theorem ef_rmPn (m : MethodId) (i_ : Int32) (nz : Int32) : entryFrame m #[(.int i_), (.int nz), .null] 3 = mkF m 0 #[.val (.int i_), .val (.int nz), .val .null] [] := by first | (simp [entryFrame, mkF, argsToLocals, Value.category]; done) | rfl
def QrmPn (Z : State) (i_ : Int32) (nz : Int32) (h0 : Heap) (n0 : Nat) (v_ : Option Value) (h_ : Heap) (L_ : List Loc) : Prop := v_ = some (.int i_) ∧ L_ = [] ∧ h_ = h0
theorem pn_jdk_internal_util_Preconditions : plainName "jdk/internal/util/Preconditions" = true := by first | (simp [plainName, overriddenIn]; done) | decide +kernel
theorem d6_0 : decode jdk_41_method_11_code 0 = .ok (.iload_n 0, 1) := by decide +kernel
theorem d6_1 : decode jdk_41_method_11_code 1 = .ok (.ifCond .lt 8, 3) := by decide +kernel
theorem d6_4 : decode jdk_41_method_11_code 4 = .ok (.iload_n 0, 1) := by decide +kernel
theorem d6_5 : decode jdk_41_method_11_code 5 = .ok (.iload_n 1, 1) := by decide +kernel
theorem d6_6 : decode jdk_41_method_11_code 6 = .ok (.if_icmp .lt 10, 3) := by decide +kernel
theorem d6_16 : decode jdk_41_method_11_code 16 = .ok (.iload_n 0, 1) := by decide +kernel
theorem d6_17 : decode jdk_41_method_11_code 17 = .ok (.ireturn, 1) := by decide +kernel
set_option maxRecDepth 65536 in
set_option maxHeartbeats 40000000 in
theorem rmPn (l : Launch) (Z : State) (a0 : Array Value) (hw : ∀ d ∈ tables_1, d.before a0 Z = true) (ws : List Jvm.Cond) (i_ : Int32) (nz : Int32) (h0 : Heap) (n0 : Nat) (Z0 : n0 ≤ h0.size) (H0 : ¬ i_ < (0 : Int32)) (H1 : i_ < nz) :
    MetFree l (⟨"jdk/internal/util/Preconditions", "checkIndex", "(IILjava/util/function/BiFunction;)I"⟩ : MethodName) (head1 (Jvm.Cond.code (⟨"jdk/internal/util/Preconditions", "checkIndex", "(IILjava/util/function/BiFunction;)I"⟩ : MethodName) jdk_41_method_11_code 3 (some .int) :: ws) ({ frames := 0, cells := 0, slots := 0, locals := 0 } : Room)) (fun as_ U_ => as_ = #[(.int i_), (.int nz), .null] ∧ Z.Warmed39 U_.vm ∧ U_.heap = h0) (fun _ _ _ _ _ => True) (fun _ U_ o_ V_ => ∃ v_ L_, o_ = .returned v_ ∧ QrmPn Z i_ nz h0 n0 v_ V_.heap L_ ∧ FrameEnd U_ o_ V_ L_ ({ frames := 0, cells := 0, slots := 0, locals := 0 } : Room).cells ({ frames := 0, cells := 0, slots := 0, locals := 0 } : Room).slots) := by
  refine MetFree.of_bodySF (plainFor_of_name pn_jdk_internal_util_Preconditions) hisR ?_
  intro p e s m args below meth c s₁ Bd hml0 hP hK
  obtain ⟨rfl, hZ, hh⟩ := hP
  have hx := Bd.exec
  have hby := Bd.bytes
  have hlk : meth.locks = false := BodyLoose.notSynchronized Bd
  have hret := Bd.returns
  have hml : c.maxLocals = 3 := hml0
  have hown : s.vm.findClass "jdk/internal/util/Preconditions" = some m.cls := findClass_of_methodNamed Bd.named
  have hnm := (name_of_methodNamed Bd.named Bd.method).1
  have X0 : Stand p l e ({ frames := 0, cells := 0, slots := 0, locals := 0 } : Room) s m #[(.int i_), (.int nz), .null] below meth c s₁ [] 0 0 := Stand.of_body Bd
  have e0 : s₁.heap = h0 := by rw [← hh, Bd.state]; rfl
  have N0 := Fr.nil n0
  show Goes p e below (Fin_ s (QrmPn Z i_ nz h0 n0) ({ frames := 0, cells := 0, slots := 0, locals := 0 } : Room).cells ({ frames := 0, cells := 0, slots := 0, locals := 0 } : Room).slots) (s₁.setTop (entryFrame m #[(.int i_), (.int nz), .null] 3))
  rw [ef_rmPn m i_ nz]
  refine gILN X0 hx hby d6_0 rfl ?_
  have hc1_1 : ¬ (i_ < (0 : Int32)) := H0
  refine Goes.via (fun _ kk_ => XS.ifNo X0.here hx rfl (hb hby d6_1) rfl ((if0 _ _).trans (flt hc1_1).1) kk_) ?_
  show Goes p e below _ (s₁.setTop (mkF m 4 #[vi i_, vi nz, .val .null] []))
  refine gILN X0 hx hby d6_4 rfl ?_
  refine gILN X0 hx hby d6_5 rfl ?_
  have hc6_2 : i_ < nz := H1
  refine Goes.via (fun _ kk_ => XS.icmpYes X0.here hx rfl (pc0 := 6) (pc' := 16) rfl (hb hby d6_6) rfl (tlt hc6_2).1 (by decide) (by decide) kk_) ?_
  show Goes p e below _ (s₁.setTop (mkF m 16 #[vi i_, vi nz, .val .null] []))
  refine gILN X0 hx hby d6_16 rfl ?_
  exact own_finI X0 hx hlk hret (hb hby d6_17) (by rw [e0]; exact ⟨rfl, rfl, rfl⟩) (by first | decide | omega | (dsimp only; omega)) (by first | decide | omega | (dsimp only; omega))
theorem ef_rmPr (m : MethodId) (i_ : Int32) (nz : Int32) (fr : Addr) : entryFrame m #[(.int i_), (.int nz), (.ref fr)] 3 = mkF m 0 #[.val (.int i_), .val (.int nz), .val (.ref fr)] [] := by first | (simp [entryFrame, mkF, argsToLocals, Value.category]; done) | rfl
def QrmPr (Z : State) (i_ : Int32) (nz : Int32) (fr : Addr) (h0 : Heap) (n0 : Nat) (v_ : Option Value) (h_ : Heap) (L_ : List Loc) : Prop := v_ = some (.int i_) ∧ L_ = [] ∧ h_ = h0
set_option maxRecDepth 65536 in
set_option maxHeartbeats 40000000 in
theorem rmPr (l : Launch) (Z : State) (a0 : Array Value) (hw : ∀ d ∈ tables_1, d.before a0 Z = true) (ws : List Jvm.Cond) (i_ : Int32) (nz : Int32) (fr : Addr) (h0 : Heap) (n0 : Nat) (Z0 : n0 ≤ h0.size) (H0 : ¬ i_ < (0 : Int32)) (H1 : i_ < nz) :
    MetFree l (⟨"jdk/internal/util/Preconditions", "checkIndex", "(IILjava/util/function/BiFunction;)I"⟩ : MethodName) (head1 (Jvm.Cond.code (⟨"jdk/internal/util/Preconditions", "checkIndex", "(IILjava/util/function/BiFunction;)I"⟩ : MethodName) jdk_41_method_11_code 3 (some .int) :: ws) ({ frames := 0, cells := 0, slots := 0, locals := 0 } : Room)) (fun as_ U_ => as_ = #[(.int i_), (.int nz), (.ref fr)] ∧ Z.Warmed39 U_.vm ∧ U_.heap = h0) (fun _ _ _ _ _ => True) (fun _ U_ o_ V_ => ∃ v_ L_, o_ = .returned v_ ∧ QrmPr Z i_ nz fr h0 n0 v_ V_.heap L_ ∧ FrameEnd U_ o_ V_ L_ ({ frames := 0, cells := 0, slots := 0, locals := 0 } : Room).cells ({ frames := 0, cells := 0, slots := 0, locals := 0 } : Room).slots) := by
  refine MetFree.of_bodySF (plainFor_of_name pn_jdk_internal_util_Preconditions) hisR ?_
  intro p e s m args below meth c s₁ Bd hml0 hP hK
  obtain ⟨rfl, hZ, hh⟩ := hP
  have hx := Bd.exec
  have hby := Bd.bytes
  have hlk : meth.locks = false := BodyLoose.notSynchronized Bd
  have hret := Bd.returns
  have hml : c.maxLocals = 3 := hml0
  have hown : s.vm.findClass "jdk/internal/util/Preconditions" = some m.cls := findClass_of_methodNamed Bd.named
  have hnm := (name_of_methodNamed Bd.named Bd.method).1
  have X0 : Stand p l e ({ frames := 0, cells := 0, slots := 0, locals := 0 } : Room) s m #[(.int i_), (.int nz), (.ref fr)] below meth c s₁ [] 0 0 := Stand.of_body Bd
  have e0 : s₁.heap = h0 := by rw [← hh, Bd.state]; rfl
  have N0 := Fr.nil n0
  show Goes p e below (Fin_ s (QrmPr Z i_ nz fr h0 n0) ({ frames := 0, cells := 0, slots := 0, locals := 0 } : Room).cells ({ frames := 0, cells := 0, slots := 0, locals := 0 } : Room).slots) (s₁.setTop (entryFrame m #[(.int i_), (.int nz), (.ref fr)] 3))
  rw [ef_rmPr m i_ nz fr]
  refine gILN X0 hx hby d6_0 rfl ?_
  have hc1_1 : ¬ (i_ < (0 : Int32)) := H0
  refine Goes.via (fun _ kk_ => XS.ifNo X0.here hx rfl (hb hby d6_1) rfl ((if0 _ _).trans (flt hc1_1).1) kk_) ?_
  show Goes p e below _ (s₁.setTop (mkF m 4 #[vi i_, vi nz, vr fr] []))
  refine gILN X0 hx hby d6_4 rfl ?_
  refine gILN X0 hx hby d6_5 rfl ?_
  have hc6_2 : i_ < nz := H1
  refine Goes.via (fun _ kk_ => XS.icmpYes X0.here hx rfl (pc0 := 6) (pc' := 16) rfl (hb hby d6_6) rfl (tlt hc6_2).1 (by decide) (by decide) kk_) ?_
  show Goes p e below _ (s₁.setTop (mkF m 16 #[vi i_, vi nz, vr fr] []))
  refine gILN X0 hx hby d6_16 rfl ?_
  exact own_finI X0 hx hlk hret (hb hby d6_17) (by rw [e0]; exact ⟨rfl, rfl, rfl⟩) (by first | decide | omega | (dsimp only; omega)) (by first | decide | omega | (dsimp only; omega))
theorem ef_rm5 (m : MethodId) (i_ : Int32) (nz : Int32) : entryFrame m #[(.int i_), (.int nz)] 2 = mkF m 0 #[.val (.int i_), .val (.int nz)] [] := by first | (simp [entryFrame, mkF, argsToLocals, Value.category]; done) | rfl
def Qrm5 (Z : State) (i_ : Int32) (nz : Int32) (fo : Value) (h0 : Heap) (n0 : Nat) (v_ : Option Value) (h_ : Heap) (L_ : List Loc) : Prop := v_ = none ∧ L_ = [] ∧ h_ = h0
theorem d5_0 : decode jdk_42_method_155_code 0 = .ok (.iload_n 0, 1) := by decide +kernel
theorem d5_1 : decode jdk_42_method_155_code 1 = .ok (.iload_n 1, 1) := by decide +kernel
theorem d5_2 : decode jdk_42_method_155_code 2 = .ok (.getstatic 1053, 3) := by decide +kernel
theorem pd_1 : parseMethodDescriptor "(IILjava/util/function/BiFunction;)I" = some ⟨[.int, .int, (.object "java/util/function/BiFunction")], some .int⟩ := by decide +kernel
theorem d5_5 : decode jdk_42_method_155_code 5 = .ok (.invokestatic 1059, 3) := by decide +kernel
theorem d5_8 : decode jdk_42_method_155_code 8 = .ok (.pop, 1) := by decide +kernel
theorem d5_9 : decode jdk_42_method_155_code 9 = .ok (.return_, 1) := by decide +kernel
set_option maxRecDepth 65536 in
set_option maxHeartbeats 40000000 in
theorem rm5 (l : Launch) (Z : State) (a0 : Array Value) (hw : ∀ d ∈ tables_1, d.before a0 Z = true) (ws : List Jvm.Cond) (i_ : Int32) (nz : Int32) (fo : Value) (h0 : Heap) (n0 : Nat) (Z0 : n0 ≤ h0.size) (S0_jdk_internal_util_Preconditions_SIOOBE_FORMATTER_SIOOBE_FORMATTER : Sta Z h0 "jdk/internal/util/Preconditions" "SIOOBE_FORMATTER" "Ljava/util/function/BiFunction;" fo) (Hfo : fo.isRef = true) (H0 : ¬ i_ < (0 : Int32)) (H1 : i_ < nz) :
    MetFree l (⟨"java/lang/String", "checkIndex", "(II)V"⟩ : MethodName) (head1 (Jvm.Cond.code (⟨"java/lang/String", "checkIndex", "(II)V"⟩ : MethodName) jdk_42_method_155_code 2 none :: ws) ({ frames := 1, cells := 0, slots := 0, locals := 14 } : Room)) (fun as_ U_ => as_ = #[(.int i_), (.int nz)] ∧ Z.Warmed39 U_.vm ∧ U_.heap = h0) (fun _ _ _ _ _ => True) (fun _ U_ o_ V_ => ∃ v_ L_, o_ = .returned v_ ∧ Qrm5 Z i_ nz fo h0 n0 v_ V_.heap L_ ∧ FrameEnd U_ o_ V_ L_ ({ frames := 1, cells := 0, slots := 0, locals := 14 } : Room).cells ({ frames := 1, cells := 0, slots := 0, locals := 14 } : Room).slots) := by
  refine MetFree.of_bodySF (plainFor_of_name pn_java_lang_String) hisR ?_
  intro p e s m args below meth c s₁ Bd hml0 hP hK
  obtain ⟨rfl, hZ, hh⟩ := hP
  have hx := Bd.exec
  have hby := Bd.bytes
  have hlk : meth.locks = false := BodyLoose.notSynchronized Bd
  have hret := Bd.returns
  have hml : c.maxLocals = 2 := hml0
  have hown : s.vm.findClass "java/lang/String" = some m.cls := findClass_of_methodNamed Bd.named
  have hnm := (name_of_methodNamed Bd.named Bd.method).1
  have X0 : Stand p l e ({ frames := 1, cells := 0, slots := 0, locals := 14 } : Room) s m #[(.int i_), (.int nz)] below meth c s₁ [] 0 0 := Stand.of_body Bd
  have e0 : s₁.heap = h0 := by rw [← hh, Bd.state]; rfl
  have N0 := Fr.nil n0
  show Goes p e below (Fin_ s (Qrm5 Z i_ nz fo h0 n0) ({ frames := 1, cells := 0, slots := 0, locals := 14 } : Room).cells ({ frames := 1, cells := 0, slots := 0, locals := 14 } : Room).slots) (s₁.setTop (entryFrame m #[(.int i_), (.int nz)] 2))
  rw [ef_rm5 m i_ nz]
  rcases ref_cases Hfo with rfl | ⟨fr, rfl⟩
  · skip
    refine gILN X0 hx hby d5_0 rfl ?_
    refine gILN X0 hx hby d5_1 rfl ?_
    obtain ⟨T1, X1, e1, st1⟩ := getS2 X0 hx hZ hown (host := "") (Or.inl (own_w hw 33 rfl)) Via.refl e0 S0_jdk_internal_util_Preconditions_SIOOBE_FORMATTER_SIOOBE_FORMATTER (g := (mkF m 2 #[vi i_, vi nz] [(.int nz), (.int i_)])) rfl (hb hby d5_2)
    refine Goes.via st1 ?_
    show Goes p e below _ (T1.setTop (mkF m 5 #[vi i_, vi nz] [.null, (.int nz), (.int i_)]))
    obtain ⟨_, _, ⟨T2, L2, k2, n2⟩, -, X2, ⟨Lc2, hQ2, l2, y2, z2⟩, st2⟩ := Jvm.LawKit.callS X1 hx (y := (⟨"jdk/internal/util/Preconditions", "checkIndex", "(IILjava/util/function/BiFunction;)I"⟩ : MethodName)) hown (mvT hZ (own_w hw 35 rfl)) (mvT hZ (own_w hw 36 rfl)) (mvT hZ (own_w hw 34 rfl)) (mvT hZ (own_w hw 37 rfl)) (by decide) (backOf (W := 0) (rmPn l Z a0 hw [] i_ nz h0 n0 (Nat.le_trans Z0 (Nat.le_refl _)) H0 H1) hZ (own_w hw 37 rfl) (own_w hw 34 rfl) (by decide) (by decide)) (g := (mkF m 5 #[vi i_, vi nz] [.null, (.int nz), (.int i_)])) rfl (by rw [hml]; rfl) (argsL := [(.int i_), (.int nz), .null]) (rest := []) (lenOf pd_1 rfl) rfl (by show 2 * 0 + _ ≤ _; exact Nat.le_of_eq rfl) (hb hby d5_5) (fun _ _ => ⟨rfl, e1, (by decide : 0 + 0 ≤ _), (by decide : 0 + 0 ≤ _)⟩)
    dsimp only [Pt.U, Pt.locs, Pt.cells, Pt.slots] at X2 l2 y2 z2 st2 hQ2
    replace l2 := l2.symm
    subst l2 y2 z2
    obtain ⟨rfl, rfl, e2⟩ := hQ2
    first | rw [List.append_nil] at X2 | skip
    refine Goes.via st2 ?_
    have e2' : T2.heap = h0 := e2
    show Goes p e below _ (T2.setTop (mkF m 8 #[vi i_, vi nz] [(.int i_)]))
    refine Goes.via (fun _ kk_ => XS.pop X2.here hx rfl (hb hby d5_8) rfl rfl kk_) ?_
    show Goes p e below _ (T2.setTop (mkF m 9 #[vi i_, vi nz] []))
    exact own_finV X2 hx hlk hret (hb hby d5_9) (by rw [e2']; exact ⟨rfl, rfl, rfl⟩) (by first | decide | omega | (dsimp only; omega)) (by first | decide | omega | (dsimp only; omega))
  · skip
    refine gILN X0 hx hby d5_0 rfl ?_
    refine gILN X0 hx hby d5_1 rfl ?_
    obtain ⟨T3, X3, e3, st3⟩ := getS2 X0 hx hZ hown (host := "") (Or.inl (own_w hw 33 rfl)) Via.refl e0 S0_jdk_internal_util_Preconditions_SIOOBE_FORMATTER_SIOOBE_FORMATTER (g := (mkF m 2 #[vi i_, vi nz] [(.int nz), (.int i_)])) rfl (hb hby d5_2)
    refine Goes.via st3 ?_
    show Goes p e below _ (T3.setTop (mkF m 5 #[vi i_, vi nz] [(.ref fr), (.int nz), (.int i_)]))
    obtain ⟨_, _, ⟨T4, L4, k4, n4⟩, -, X4, ⟨Lc4, hQ4, l4, y4, z4⟩, st4⟩ := Jvm.LawKit.callS X3 hx (y := (⟨"jdk/internal/util/Preconditions", "checkIndex", "(IILjava/util/function/BiFunction;)I"⟩ : MethodName)) hown (mvT hZ (own_w hw 35 rfl)) (mvT hZ (own_w hw 36 rfl)) (mvT hZ (own_w hw 34 rfl)) (mvT hZ (own_w hw 37 rfl)) (by decide) (backOf (W := 0) (rmPr l Z a0 hw [] i_ nz fr h0 n0 (Nat.le_trans Z0 (Nat.le_refl _)) H0 H1) hZ (own_w hw 37 rfl) (own_w hw 34 rfl) (by decide) (by decide)) (g := (mkF m 5 #[vi i_, vi nz] [(.ref fr), (.int nz), (.int i_)])) rfl (by rw [hml]; rfl) (argsL := [(.int i_), (.int nz), (.ref fr)]) (rest := []) (lenOf pd_1 rfl) rfl (by show 2 * 0 + _ ≤ _; exact Nat.le_of_eq rfl) (hb hby d5_5) (fun _ _ => ⟨rfl, e3, (by decide : 0 + 0 ≤ _), (by decide : 0 + 0 ≤ _)⟩)
    dsimp only [Pt.U, Pt.locs, Pt.cells, Pt.slots] at X4 l4 y4 z4 st4 hQ4
    replace l4 := l4.symm
    subst l4 y4 z4
    obtain ⟨rfl, rfl, e4⟩ := hQ4
    first | rw [List.append_nil] at X4 | skip
    refine Goes.via st4 ?_
    have e4' : T4.heap = h0 := e4
    show Goes p e below _ (T4.setTop (mkF m 8 #[vi i_, vi nz] [(.int i_)]))
    refine Goes.via (fun _ kk_ => XS.pop X4.here hx rfl (hb hby d5_8) rfl rfl kk_) ?_
    show Goes p e below _ (T4.setTop (mkF m 9 #[vi i_, vi nz] []))
    exact own_finV X4 hx hlk hret (hb hby d5_9) (by rw [e4']; exact ⟨rfl, rfl, rfl⟩) (by first | decide | omega | (dsimp only; omega)) (by first | decide | omega | (dsimp only; omega))
theorem ef_rm4 (m : MethodId) (b : Addr) (i_ : Int32) : entryFrame m #[(.ref b), (.int i_)] 2 = mkF m 0 #[.val (.ref b), .val (.int i_)] [] := by first | (simp [entryFrame, mkF, argsToLocals, Value.category]; done) | rfl
def Qrm4 (Z : State) (b : Addr) (i_ : Int32) (kc : ClassId) (N : Nat) (g : Nat → Int32) (nz : Int32) (j : Nat) (fo : Value) (h0 : Heap) (n0 : Nat) (v_ : Option Value) (h_ : Heap) (L_ : List Loc) : Prop := v_ = some (.int (g j &&& (255 : Int32))) ∧ L_ = [] ∧ h_ = h0
theorem pn_java_lang_StringLatin1 : plainName "java/lang/StringLatin1" = true := by first | (simp [plainName, overriddenIn]; done) | decide +kernel
theorem d4_0 : decode jdk_43_method_2_code 0 = .ok (.iload_n 1, 1) := by decide +kernel
theorem d4_1 : decode jdk_43_method_2_code 1 = .ok (.aload_n 0, 1) := by decide +kernel
theorem d4_2 : decode jdk_43_method_2_code 2 = .ok (.arraylength, 1) := by decide +kernel
theorem pd_2 : parseMethodDescriptor "(II)V" = some ⟨[.int, .int], none⟩ := by decide +kernel
theorem d4_3 : decode jdk_43_method_2_code 3 = .ok (.invokestatic 9, 3) := by decide +kernel
theorem d4_6 : decode jdk_43_method_2_code 6 = .ok (.aload_n 0, 1) := by decide +kernel
theorem d4_7 : decode jdk_43_method_2_code 7 = .ok (.iload_n 1, 1) := by decide +kernel
theorem d4_8 : decode jdk_43_method_2_code 8 = .ok (.baload, 1) := by decide +kernel
theorem d4_9 : decode jdk_43_method_2_code 9 = .ok (.sipush 255, 3) := by decide +kernel
theorem d4_12 : decode jdk_43_method_2_code 12 = .ok (.iand, 1) := by decide +kernel
theorem d4_13 : decode jdk_43_method_2_code 13 = .ok (.i2c, 1) := by decide +kernel
theorem d4_14 : decode jdk_43_method_2_code 14 = .ok (.ireturn, 1) := by decide +kernel
set_option maxRecDepth 65536 in
set_option maxHeartbeats 40000000 in
theorem rm4 (l : Launch) (Z : State) (a0 : Array Value) (hw : ∀ d ∈ tables_1, d.before a0 Z = true) (ws : List Jvm.Cond) (b : Addr) (i_ : Int32) (kc : ClassId) (N : Nat) (g : Nat → Int32) (nz : Int32) (j : Nat) (fo : Value) (h0 : Heap) (n0 : Nat) (Z0 : n0 ≤ h0.size) (A0_b : Arw Z h0 b kc .byte N (fun i => .int (g i))) (Hij : i_.toInt = (j : Int)) (HjN : j < N) (Hnz : nz.toInt = (N : Int)) (S4_jdk_internal_util_Preconditions_SIOOBE_FORMATTER_SIOOBE_FORMATTER : Sta Z h0 "jdk/internal/util/Preconditions" "SIOOBE_FORMATTER" "Ljava/util/function/BiFunction;" fo) (Hfo : fo.isRef = true) :
    MetFree l (⟨"java/lang/StringLatin1", "charAt", "([BI)C"⟩ : MethodName) (head1 (Jvm.Cond.code (⟨"java/lang/StringLatin1", "charAt", "([BI)C"⟩ : MethodName) jdk_43_method_2_code 2 (some .char) :: ws) ({ frames := 2, cells := 0, slots := 0, locals := 27 } : Room)) (fun as_ U_ => as_ = #[(.ref b), (.int i_)] ∧ Z.Warmed39 U_.vm ∧ U_.heap = h0) (fun _ _ _ _ _ => True) (fun _ U_ o_ V_ => ∃ v_ L_, o_ = .returned v_ ∧ Qrm4 Z b i_ kc N g nz j fo h0 n0 v_ V_.heap L_ ∧ FrameEnd U_ o_ V_ L_ ({ frames := 2, cells := 0, slots := 0, locals := 27 } : Room).cells ({ frames := 2, cells := 0, slots := 0, locals := 27 } : Room).slots) := by
  refine MetFree.of_bodySF (plainFor_of_name pn_java_lang_StringLatin1) hisR ?_
  intro p e s m args below meth c s₁ Bd hml0 hP hK
  obtain ⟨rfl, hZ, hh⟩ := hP
  have hx := Bd.exec
  have hby := Bd.bytes
  have hlk : meth.locks = false := BodyLoose.notSynchronized Bd
  have hret := Bd.returns
  have hml : c.maxLocals = 2 := hml0
  have hown : s.vm.findClass "java/lang/StringLatin1" = some m.cls := findClass_of_methodNamed Bd.named
  have hnm := (name_of_methodNamed Bd.named Bd.method).1
  have X0 : Stand p l e ({ frames := 2, cells := 0, slots := 0, locals := 27 } : Room) s m #[(.ref b), (.int i_)] below meth c s₁ [] 0 0 := Stand.of_body Bd
  have e0 : s₁.heap = h0 := by rw [← hh, Bd.state]; rfl
  have N0 := Fr.nil n0
  show Goes p e below (Fin_ s (Qrm4 Z b i_ kc N g nz j fo h0 n0) ({ frames := 2, cells := 0, slots := 0, locals := 27 } : Room).cells ({ frames := 2, cells := 0, slots := 0, locals := 27 } : Room).slots) (s₁.setTop (entryFrame m #[(.ref b), (.int i_)] 2))
  rw [ef_rm4 m b i_]
  refine gILN X0 hx hby d4_0 rfl ?_
  refine gALN X0 hx hby d4_1 rfl rfl ?_
  refine Goes.via (own_alen X0 hx hZ e0 A0_b (g := (mkF m 2 #[vr b, vi i_] [(.ref b), (.int i_)])) rfl rfl (hb hby d4_2)) ?_
  rw [show (N : Nat).toInt32 = nz from (own_nz Hnz)]
  show Goes p e below _ (s₁.setTop (mkF m 3 #[vr b, vi i_] [(.int nz), (.int i_)]))
  obtain ⟨_, _, ⟨T1, L1, k1, n1⟩, -, X1, ⟨Lc1, hQ1, l1, y1, z1⟩, st1⟩ := Jvm.LawKit.callS X0 hx (y := (⟨"java/lang/String", "checkIndex", "(II)V"⟩ : MethodName)) hown (mvT hZ (own_w hw 30 rfl)) (mvT hZ (own_w hw 31 rfl)) (mvT hZ (own_w hw 6 rfl)) (mvT hZ (own_w hw 32 rfl)) (by decide) (backOf (W := 0) (rm5 l Z a0 hw [] i_ nz fo h0 n0 (Nat.le_trans Z0 (Nat.le_refl _)) S4_jdk_internal_util_Preconditions_SIOOBE_FORMATTER_SIOOBE_FORMATTER Hfo (own_ix Hij).1 (own_lti.mpr (by rw [Hij, Hnz]; exact Int.ofNat_lt.mpr HjN))) hZ (own_w hw 32 rfl) (own_w hw 6 rfl) (by decide) (by decide)) (g := (mkF m 3 #[vr b, vi i_] [(.int nz), (.int i_)])) rfl (by rw [hml]; rfl) (argsL := [(.int i_), (.int nz)]) (rest := []) (lenOf pd_2 rfl) rfl (by show 2 * 0 + _ ≤ _; exact Nat.le_of_eq rfl) (hb hby d4_3) (fun _ _ => ⟨rfl, e0, (by decide : 0 + 0 ≤ _), (by decide : 0 + 0 ≤ _)⟩)
  dsimp only [Pt.U, Pt.locs, Pt.cells, Pt.slots] at X1 l1 y1 z1 st1 hQ1
  replace l1 := l1.symm
  subst l1 y1 z1
  obtain ⟨rfl, rfl, e1⟩ := hQ1
  first | rw [List.append_nil] at X1 | skip
  refine Goes.via st1 ?_
  have e1' : T1.heap = h0 := e1
  show Goes p e below _ (T1.setTop (mkF m 6 #[vr b, vi i_] []))
  refine gALN X1 hx hby d4_6 rfl rfl ?_
  refine gILN X1 hx hby d4_7 rfl ?_
  refine Goes.via (own_baload X1 hx hZ e1' A0_b (j := i_) (i := j) (own_ix Hij).1 (own_ix Hij).2 HjN (v := (g j)) rfl (g := (mkF m 8 #[vr b, vi i_] [(.int i_), (.ref b)])) rfl rfl (hb hby d4_8)) ?_
  show Goes p e below _ (T1.setTop (mkF m 9 #[vr b, vi i_] [(.int (g j))]))
  refine gSI (z := 255) X1 hx hby d4_9 rfl ?_
  refine Goes.via (fun _ kk_ => XS.iand X1.here hx rfl (hb hby d4_12) rfl kk_) ?_
  show Goes p e below _ (T1.setTop (mkF m 13 #[vr b, vi i_] [(.int ((g j) &&& (255 : Int32)))]))
  refine Goes.via (fun _ kk_ => XS.i2c X1.here hx rfl (hb hby d4_13) rfl kk_) ?_
  show Goes p e below _ (T1.setTop (mkF m 14 #[vr b, vi i_] [(.int (((g j) &&& (255 : Int32)).toUInt32.toUInt16.toUInt32.toInt32))]))
  exact own_finN X1 hx hlk hret (by simp) (hb hby d4_14) (by rw [e1']; exact ⟨(own_ret ((congrArg (nar .char) (i2c_mask _)).trans (i2c_mask _))), rfl, rfl⟩) (by first | decide | omega | (dsimp only; omega)) (by first | decide | omega | (dsimp only; omega))
theorem ef_rm2 (m : MethodId) (a : Addr) (i_ : Int32) : entryFrame m #[(.ref a), (.int i_)] 2 = mkF m 0 #[.val (.ref a), .val (.int i_)] [] := by first | (simp [entryFrame, mkF, argsToLocals, Value.category]; done) | rfl
def Qrm2 (Z : State) (a : Addr) (i_ : Int32) (cS : Int32) (t : Addr) (kc : ClassId) (N : Nat) (g : Nat → Int32) (nz : Int32) (j : Nat) (fo : Value) (h0 : Heap) (n0 : Nat) (v_ : Option Value) (h_ : Heap) (L_ : List Loc) : Prop := v_ = some (.int (g j &&& (255 : Int32))) ∧ L_ = [] ∧ h_ = h0
theorem d2_0 : decode jdk_42_method_56_code 0 = .ok (.aload_n 0, 1) := by decide +kernel
theorem pd_3 : parseMethodDescriptor "()Z" = some ⟨[], some .boolean⟩ := by decide +kernel
theorem d2_1 : decode jdk_42_method_56_code 1 = .ok (.invokevirtual 492, 3) := by decide +kernel
theorem d2_4 : decode jdk_42_method_56_code 4 = .ok (.ifCond .eq 12, 3) := by decide +kernel
theorem d2_7 : decode jdk_42_method_56_code 7 = .ok (.aload_n 0, 1) := by decide +kernel
theorem d2_8 : decode jdk_42_method_56_code 8 = .ok (.getfield 9, 3) := by decide +kernel
theorem d2_11 : decode jdk_42_method_56_code 11 = .ok (.iload_n 1, 1) := by decide +kernel
theorem pd_4 : parseMethodDescriptor "([BI)C" = some ⟨[(.array .byte), .int], some .char⟩ := by decide +kernel
theorem d2_12 : decode jdk_42_method_56_code 12 = .ok (.invokestatic 495, 3) := by decide +kernel
theorem d2_15 : decode jdk_42_method_56_code 15 = .ok (.ireturn, 1) := by decide +kernel
set_option maxRecDepth 65536 in
set_option maxHeartbeats 40000000 in
theorem rm2 (l : Launch) (Z : State) (a0 : Array Value) (hw : ∀ d ∈ tables_1, d.before a0 Z = true) (ws : List Jvm.Cond) (a : Addr) (i_ : Int32) (cS : Int32) (t : Addr) (kc : ClassId) (N : Nat) (g : Nat → Int32) (nz : Int32) (j : Nat) (fo : Value) (h0 : Heap) (n0 : Nat) (Z0 : n0 ≤ h0.size) (E0_a : Exa Z h0 a "java/lang/String") (F1_a_coder : Fld Z h0 a "java/lang/String" "coder" "B" (.int (0 : Int32))) (F2_a_value : Fld Z h0 a "java/lang/String" "value" "[B" (.ref t)) (A3_t : Arw Z h0 t kc .byte N (fun i => .int (g i))) (S4_java_lang_String_COMPACT_STRINGS_COMPACT_STRINGS : Sta Z h0 "java/lang/String" "COMPACT_STRINGS" "Z" (.int cS)) (H_cs : ¬ cS = (0 : Int32)) (Hij : i_.toInt = (j : Int)) (HjN : j < N) (Hnz : nz.toInt = (N : Int)) (S9_jdk_internal_util_Preconditions_SIOOBE_FORMATTER_SIOOBE_FORMATTER : Sta Z h0 "jdk/internal/util/Preconditions" "SIOOBE_FORMATTER" "Ljava/util/function/BiFunction;" fo) (Hfo : fo.isRef = true) :
    MetFree l (⟨"java/lang/String", "charAt", "(I)C"⟩ : MethodName) (head1 (Jvm.Cond.code (⟨"java/lang/String", "charAt", "(I)C"⟩ : MethodName) jdk_42_method_56_code 2 (some .char) :: ws) ({ frames := 3, cells := 0, slots := 0, locals := 40 } : Room)) (fun as_ U_ => as_ = #[(.ref a), (.int i_)] ∧ Z.Warmed39 U_.vm ∧ U_.heap = h0) (fun _ _ _ _ _ => True) (fun _ U_ o_ V_ => ∃ v_ L_, o_ = .returned v_ ∧ Qrm2 Z a i_ cS t kc N g nz j fo h0 n0 v_ V_.heap L_ ∧ FrameEnd U_ o_ V_ L_ ({ frames := 3, cells := 0, slots := 0, locals := 40 } : Room).cells ({ frames := 3, cells := 0, slots := 0, locals := 40 } : Room).slots) := by
  refine MetFree.of_bodySF (plainFor_of_name pn_java_lang_String) hisR ?_
  intro p e s m args below meth c s₁ Bd hml0 hP hK
  obtain ⟨rfl, hZ, hh⟩ := hP
  have hx := Bd.exec
  have hby := Bd.bytes
  have hlk : meth.locks = false := BodyLoose.notSynchronized Bd
  have hret := Bd.returns
  have hml : c.maxLocals = 2 := hml0
  have hown : s.vm.findClass "java/lang/String" = some m.cls := findClass_of_methodNamed Bd.named
  have hnm := (name_of_methodNamed Bd.named Bd.method).1
  have X0 : Stand p l e ({ frames := 3, cells := 0, slots := 0, locals := 40 } : Room) s m #[(.ref a), (.int i_)] below meth c s₁ [] 0 0 := Stand.of_body Bd
  have e0 : s₁.heap = h0 := by rw [← hh, Bd.state]; rfl
  have N0 := Fr.nil n0
  show Goes p e below (Fin_ s (Qrm2 Z a i_ cS t kc N g nz j fo h0 n0) ({ frames := 3, cells := 0, slots := 0, locals := 40 } : Room).cells ({ frames := 3, cells := 0, slots := 0, locals := 40 } : Room).slots) (s₁.setTop (entryFrame m #[(.ref a), (.int i_)] 2))
  rw [ef_rm2 m a i_]
  have ne1 : a ≠ t := own_ne_arr E0_a (own_w hw 7 rfl) A3_t
  refine gALN X0 hx hby d2_0 rfl rfl ?_
  obtain ⟨cq2, kq2, q2a, q2b, q2c⟩ := isOf hZ e0 E0_a
  obtain ⟨_, _, ⟨T2, L2, k2, n2⟩, -, X2, ⟨Lc2, hQ2, l2, y2, z2⟩, st2⟩ := X0.virtualBack hx (y := (⟨"java/lang/String", "isLatin1", "()Z"⟩ : MethodName)) (z := (⟨"java/lang/String", "isLatin1", "()Z"⟩ : MethodName)) hown (mvT hZ (own_w hw 18 rfl)) (mvT hZ (own_w hw 19 rfl)) (notFace_of_selects (args := #[]) (mvT hZ (own_w hw 21 rfl))) (mvT hZ (own_w hw 21 rfl)) (mvT hZ (own_w hw 20 rfl)) (by decide) (backOf (W := 0) (rm3 l Z a0 hw [] a cS h0 n0 (Nat.le_trans Z0 (Nat.le_refl _)) F1_a_coder S4_java_lang_String_COMPACT_STRINGS_COMPACT_STRINGS H_cs) hZ (own_w hw 22 rfl) (own_w hw 6 rfl) (by decide) (by decide)) q2a q2c (g := (mkF m 1 #[vr a, vi i_] [(.ref a)])) rfl (by rw [hml]; rfl) (Steps.refl _) (argsL := []) (rest := []) (lenOf pd_3 rfl) rfl (by show 2 * 0 + _ ≤ _; exact Nat.le_of_eq rfl) (hb hby d2_1) (fun _ _ => ⟨rfl, e0, (by decide : 0 + 0 ≤ _), (by decide : 0 + 0 ≤ _)⟩)
  dsimp only [Pt.U, Pt.locs, Pt.cells, Pt.slots] at X2 l2 y2 z2 st2 hQ2
  replace l2 := l2.symm
  subst l2 y2 z2
  obtain ⟨rfl, rfl, e2⟩ := hQ2
  first | rw [List.append_nil] at X2 | skip
  refine Goes.tr st2 ?_
  have e2' : T2.heap = h0 := e2
  show Goes p e below _ (T2.setTop (mkF m 4 #[vr a, vi i_] [(.int (1 : Int32))]))
  have hc4_3 : ¬ ((1 : Int32) = (0 : Int32)) := (by decide)
  refine Goes.via (fun _ kk_ => XS.ifNo X2.here hx rfl (hb hby d2_4) rfl ((if0 _ _).trans (feq hc4_3).1) kk_) ?_
  show Goes p e below _ (T2.setTop (mkF m 7 #[vr a, vi i_] []))
  refine gALN X2 hx hby d2_7 rfl rfl ?_
  obtain ⟨T4, X4, e4, st4⟩ := getF X2 hx hZ hown (host := "") (Or.inl (own_w hw 25 rfl)) Via.refl e2' F2_a_value (g := (mkF m 8 #[vr a, vi i_] [(.ref a)])) rfl rfl (hb hby d2_8)
  refine Goes.via st4 ?_
  show Goes p e below _ (T4.setTop (mkF m 11 #[vr a, vi i_] [(.ref t)]))
  refine gILN X4 hx hby d2_11 rfl ?_
  obtain ⟨_, _, ⟨T5, L5, k5, n5⟩, -, X5, ⟨Lc5, hQ5, l5, y5, z5⟩, st5⟩ := Jvm.LawKit.callS X4 hx (y := (⟨"java/lang/StringLatin1", "charAt", "([BI)C"⟩ : MethodName)) hown (mvT hZ (own_w hw 26 rfl)) (mvT hZ (own_w hw 27 rfl)) (mvT hZ (own_w hw 28 rfl)) (mvT hZ (own_w hw 29 rfl)) (by decide) (backOf (W := 0) (rm4 l Z a0 hw [] t i_ kc N g nz j fo h0 n0 (Nat.le_trans Z0 (Nat.le_refl _)) A3_t Hij HjN Hnz S9_jdk_internal_util_Preconditions_SIOOBE_FORMATTER_SIOOBE_FORMATTER Hfo) hZ (own_w hw 29 rfl) (own_w hw 28 rfl) (by decide) (by decide)) (g := (mkF m 12 #[vr a, vi i_] [(.int i_), (.ref t)])) rfl (by rw [hml]; rfl) (argsL := [(.ref t), (.int i_)]) (rest := []) (lenOf pd_4 rfl) rfl (by show 2 * 0 + _ ≤ _; exact Nat.le_of_eq rfl) (hb hby d2_12) (fun _ _ => ⟨rfl, e4, (by decide : 0 + 0 ≤ _), (by decide : 0 + 0 ≤ _)⟩)
  dsimp only [Pt.U, Pt.locs, Pt.cells, Pt.slots] at X5 l5 y5 z5 st5 hQ5
  replace l5 := l5.symm
  subst l5 y5 z5
  obtain ⟨rfl, rfl, e5⟩ := hQ5
  first | rw [List.append_nil] at X5 | skip
  refine Goes.via st5 ?_
  have e5' : T5.heap = h0 := e5
  show Goes p e below _ (T5.setTop (mkF m 15 #[vr a, vi i_] [(.int (g j &&& (255 : Int32)))]))
  exact own_finN X5 hx hlk hret (by simp) (hb hby d2_15) (by rw [e5']; exact ⟨(own_ret (i2c_mask _)), rfl, rfl⟩) (by first | decide | omega | (dsimp only; omega)) (by first | decide | omega | (dsimp only; omega))
theorem ef_rm22 (m : MethodId) (ch : Int32) : entryFrame m #[(.int ch)] 1 = mkF m 0 #[.val (.int ch)] [] := by first | (simp [entryFrame, mkF, argsToLocals, Value.category]; done) | rfl
def Qrm22 (Z : State) (ch : Int32) (h0 : Heap) (n0 : Nat) (v_ : Option Value) (h_ : Heap) (L_ : List Loc) : Prop := v_ = some (.int (1 : Int32)) ∧ L_ = [] ∧ h_ = h0
theorem d22_0 : decode jdk_43_method_4_code 0 = .ok (.iload_n 0, 1) := by decide +kernel
theorem d22_1 : decode jdk_43_method_4_code 1 = .ok (.ifCond .lt 14, 3) := by decide +kernel
theorem d22_4 : decode jdk_43_method_4_code 4 = .ok (.iload_n 0, 1) := by decide +kernel
theorem d22_5 : decode jdk_43_method_4_code 5 = .ok (.sipush 255, 3) := by decide +kernel
theorem d22_8 : decode jdk_43_method_4_code 8 = .ok (.if_icmp .gt 7, 3) := by decide +kernel
theorem d22_11 : decode jdk_43_method_4_code 11 = .ok (.iconst 1, 1) := by decide +kernel
theorem d22_12 : decode jdk_43_method_4_code 12 = .ok (.goto 4, 3) := by decide +kernel
theorem d22_16 : decode jdk_43_method_4_code 16 = .ok (.ireturn, 1) := by decide +kernel
set_option maxRecDepth 65536 in
set_option maxHeartbeats 40000000 in
theorem rm22 (l : Launch) (Z : State) (a0 : Array Value) (hw : ∀ d ∈ tables_1, d.before a0 Z = true) (ws : List Jvm.Cond) (ch : Int32) (h0 : Heap) (n0 : Nat) (Z0 : n0 ≤ h0.size) (H0 : ¬ ch < (0 : Int32)) (H1 : ¬ (255 : Int32) < ch) :
    MetFree l (⟨"java/lang/StringLatin1", "canEncode", "(I)Z"⟩ : MethodName) (head1 (Jvm.Cond.code (⟨"java/lang/StringLatin1", "canEncode", "(I)Z"⟩ : MethodName) jdk_43_method_4_code 1 (some .boolean) :: ws) ({ frames := 0, cells := 0, slots := 0, locals := 0 } : Room)) (fun as_ U_ => as_ = #[(.int ch)] ∧ Z.Warmed39 U_.vm ∧ U_.heap = h0) (fun _ _ _ _ _ => True) (fun _ U_ o_ V_ => ∃ v_ L_, o_ = .returned v_ ∧ Qrm22 Z ch h0 n0 v_ V_.heap L_ ∧ FrameEnd U_ o_ V_ L_ ({ frames := 0, cells := 0, slots := 0, locals := 0 } : Room).cells ({ frames := 0, cells := 0, slots := 0, locals := 0 } : Room).slots) := by
  refine MetFree.of_bodySF (plainFor_of_name pn_java_lang_StringLatin1) hisR ?_
  intro p e s m args below meth c s₁ Bd hml0 hP hK
  obtain ⟨rfl, hZ, hh⟩ := hP
  have hx := Bd.exec
  have hby := Bd.bytes
  have hlk : meth.locks = false := BodyLoose.notSynchronized Bd
  have hret := Bd.returns
  have hml : c.maxLocals = 1 := hml0
  have hown : s.vm.findClass "java/lang/StringLatin1" = some m.cls := findClass_of_methodNamed Bd.named
  have hnm := (name_of_methodNamed Bd.named Bd.method).1
  have X0 : Stand p l e ({ frames := 0, cells := 0, slots := 0, locals := 0 } : Room) s m #[(.int ch)] below meth c s₁ [] 0 0 := Stand.of_body Bd
  have e0 : s₁.heap = h0 := by rw [← hh, Bd.state]; rfl
  have N0 := Fr.nil n0
  show Goes p e below (Fin_ s (Qrm22 Z ch h0 n0) ({ frames := 0, cells := 0, slots := 0, locals := 0 } : Room).cells ({ frames := 0, cells := 0, slots := 0, locals := 0 } : Room).slots) (s₁.setTop (entryFrame m #[(.int ch)] 1))
  rw [ef_rm22 m ch]
  refine gILN X0 hx hby d22_0 rfl ?_
  have hc1_1 : ¬ (ch < (0 : Int32)) := H0
  refine Goes.via (fun _ kk_ => XS.ifNo X0.here hx rfl (hb hby d22_1) rfl ((if0 _ _).trans (flt hc1_1).1) kk_) ?_
  show Goes p e below _ (s₁.setTop (mkF m 4 #[vi ch] []))
  refine gILN X0 hx hby d22_4 rfl ?_
  refine gSI (z := 255) X0 hx hby d22_5 rfl ?_
  have hc8_2 : ¬ ((255 : Int32) < ch) := H1
  refine Goes.via (fun _ kk_ => XS.icmpNo X0.here hx rfl (hb hby d22_8) rfl (flt hc8_2).2.2.1 kk_) ?_
  show Goes p e below _ (s₁.setTop (mkF m 11 #[vi ch] []))
  refine gIC (z := 1) X0 hx hby d22_11 rfl ?_
  refine Goes.via (fun _ kk_ => XS.goto X0.here hx rfl (pc0 := 12) (pc' := 16) rfl (hb hby d22_12) (by decide) (by decide) kk_) ?_
  show Goes p e below _ (s₁.setTop (mkF m 16 #[vi ch] [(.int (1 : Int32))]))
  exact own_finN X0 hx hlk hret (by simp) (hb hby d22_16) (by rw [e0]; exact ⟨rfl, rfl, rfl⟩) (by first | decide | omega | (dsimp only; omega)) (by first | decide | omega | (dsimp only; omega))
theorem ef_rm23 (m : MethodId) (x : Int32) (y : Int32) : entryFrame m #[(.int x), (.int y)] 2 = mkF m 0 #[.val (.int x), .val (.int y)] [] := by first | (simp [entryFrame, mkF, argsToLocals, Value.category]; done) | rfl
def Qrm23 (Z : State) (x : Int32) (y : Int32) (h0 : Heap) (n0 : Nat) (v_ : Option Value) (h_ : Heap) (L_ : List Loc) : Prop := v_ = some (.int x) ∧ L_ = [] ∧ h_ = h0
theorem d23_0 : decode jdk_29_method_65_code 0 = .ok (.iload_n 0, 1) := by decide +kernel
theorem d23_1 : decode jdk_29_method_65_code 1 = .ok (.iload_n 1, 1) := by decide +kernel
theorem d23_2 : decode jdk_29_method_65_code 2 = .ok (.if_icmp .lt 7, 3) := by decide +kernel
theorem d23_5 : decode jdk_29_method_65_code 5 = .ok (.iload_n 0, 1) := by decide +kernel
theorem d23_6 : decode jdk_29_method_65_code 6 = .ok (.goto 4, 3) := by decide +kernel
theorem d23_10 : decode jdk_29_method_65_code 10 = .ok (.ireturn, 1) := by decide +kernel
set_option maxRecDepth 65536 in
set_option maxHeartbeats 40000000 in
theorem rm23 (l : Launch) (Z : State) (a0 : Array Value) (hw : ∀ d ∈ tables_1, d.before a0 Z = true) (ws : List Jvm.Cond) (x : Int32) (y : Int32) (h0 : Heap) (n0 : Nat) (Z0 : n0 ≤ h0.size) (H0 : ¬ x < y) :
    MetFree l (⟨"java/lang/Math", "max", "(II)I"⟩ : MethodName) (head1 (Jvm.Cond.code (⟨"java/lang/Math", "max", "(II)I"⟩ : MethodName) jdk_29_method_65_code 2 (some .int) :: ws) ({ frames := 0, cells := 0, slots := 0, locals := 0 } : Room)) (fun as_ U_ => as_ = #[(.int x), (.int y)] ∧ Z.Warmed39 U_.vm ∧ U_.heap = h0) (fun _ _ _ _ _ => True) (fun _ U_ o_ V_ => ∃ v_ L_, o_ = .returned v_ ∧ Qrm23 Z x y h0 n0 v_ V_.heap L_ ∧ FrameEnd U_ o_ V_ L_ ({ frames := 0, cells := 0, slots := 0, locals := 0 } : Room).cells ({ frames := 0, cells := 0, slots := 0, locals := 0 } : Room).slots) := by
  refine MetFree.of_bodySF (Jvm.Free.JP.mathPlain rfl (by decide +kernel)) hisR ?_
  intro p e s m args below meth c s₁ Bd hml0 hP hK
  obtain ⟨rfl, hZ, hh⟩ := hP
  have hx := Bd.exec
  have hby := Bd.bytes
  have hlk : meth.locks = false := BodyLoose.notSynchronized Bd
  have hret := Bd.returns
  have hml : c.maxLocals = 2 := hml0
  have hown : s.vm.findClass "java/lang/Math" = some m.cls := findClass_of_methodNamed Bd.named
  have hnm := (name_of_methodNamed Bd.named Bd.method).1
  have X0 : Stand p l e ({ frames := 0, cells := 0, slots := 0, locals := 0 } : Room) s m #[(.int x), (.int y)] below meth c s₁ [] 0 0 := Stand.of_body Bd
  have e0 : s₁.heap = h0 := by rw [← hh, Bd.state]; rfl
  have N0 := Fr.nil n0
  show Goes p e below (Fin_ s (Qrm23 Z x y h0 n0) ({ frames := 0, cells := 0, slots := 0, locals := 0 } : Room).cells ({ frames := 0, cells := 0, slots := 0, locals := 0 } : Room).slots) (s₁.setTop (entryFrame m #[(.int x), (.int y)] 2))
  rw [ef_rm23 m x y]
  refine gILN X0 hx hby d23_0 rfl ?_
  refine gILN X0 hx hby d23_1 rfl ?_
  have hc2_1 : ¬ (x < y) := H0
  refine Goes.via (fun _ kk_ => XS.icmpNo X0.here hx rfl (hb hby d23_2) rfl (flt hc2_1).1 kk_) ?_
  show Goes p e below _ (s₁.setTop (mkF m 5 #[vi x, vi y] []))
  refine gILN X0 hx hby d23_5 rfl ?_
  refine Goes.via (fun _ kk_ => XS.goto X0.here hx rfl (pc0 := 6) (pc' := 10) rfl (hb hby d23_6) (by decide) (by decide) kk_) ?_
  show Goes p e below _ (s₁.setTop (mkF m 10 #[vi x, vi y] [(.int x)]))
  exact own_finI X0 hx hlk hret (hb hby d23_10) (by rw [e0]; exact ⟨rfl, rfl, rfl⟩) (by first | decide | omega | (dsimp only; omega)) (by first | decide | omega | (dsimp only; omega))
theorem ef_rm24 (m : MethodId) (x : Int32) (y : Int32) : entryFrame m #[(.int x), (.int y)] 2 = mkF m 0 #[.val (.int x), .val (.int y)] [] := by first | (simp [entryFrame, mkF, argsToLocals, Value.category]; done) | rfl
def Qrm24 (Z : State) (x : Int32) (y : Int32) (h0 : Heap) (n0 : Nat) (v_ : Option Value) (h_ : Heap) (L_ : List Loc) : Prop := v_ = some (.int x) ∧ L_ = [] ∧ h_ = h0
theorem d24_0 : decode jdk_29_method_69_code 0 = .ok (.iload_n 0, 1) := by decide +kernel
theorem d24_1 : decode jdk_29_method_69_code 1 = .ok (.iload_n 1, 1) := by decide +kernel
theorem d24_2 : decode jdk_29_method_69_code 2 = .ok (.if_icmp .gt 7, 3) := by decide +kernel
theorem d24_5 : decode jdk_29_method_69_code 5 = .ok (.iload_n 0, 1) := by decide +kernel
theorem d24_6 : decode jdk_29_method_69_code 6 = .ok (.goto 4, 3) := by decide +kernel
theorem d24_10 : decode jdk_29_method_69_code 10 = .ok (.ireturn, 1) := by decide +kernel
set_option maxRecDepth 65536 in
set_option maxHeartbeats 40000000 in
theorem rm24 (l : Launch) (Z : State) (a0 : Array Value) (hw : ∀ d ∈ tables_1, d.before a0 Z = true) (ws : List Jvm.Cond) (x : Int32) (y : Int32) (h0 : Heap) (n0 : Nat) (Z0 : n0 ≤ h0.size) (H0 : ¬ y < x) :
    MetFree l (⟨"java/lang/Math", "min", "(II)I"⟩ : MethodName) (head1 (Jvm.Cond.code (⟨"java/lang/Math", "min", "(II)I"⟩ : MethodName) jdk_29_method_69_code 2 (some .int) :: ws) ({ frames := 0, cells := 0, slots := 0, locals := 0 } : Room)) (fun as_ U_ => as_ = #[(.int x), (.int y)] ∧ Z.Warmed39 U_.vm ∧ U_.heap = h0) (fun _ _ _ _ _ => True) (fun _ U_ o_ V_ => ∃ v_ L_, o_ = .returned v_ ∧ Qrm24 Z x y h0 n0 v_ V_.heap L_ ∧ FrameEnd U_ o_ V_ L_ ({ frames := 0, cells := 0, slots := 0, locals := 0 } : Room).cells ({ frames := 0, cells := 0, slots := 0, locals := 0 } : Room).slots) := by
  refine MetFree.of_bodySF (Jvm.Free.JP.mathPlain rfl (by decide +kernel)) hisR ?_
  intro p e s m args below meth c s₁ Bd hml0 hP hK
  obtain ⟨rfl, hZ, hh⟩ := hP
  have hx := Bd.exec
  have hby := Bd.bytes
  have hlk : meth.locks = false := BodyLoose.notSynchronized Bd
  have hret := Bd.returns
  have hml : c.maxLocals = 2 := hml0
  have hown : s.vm.findClass "java/lang/Math" = some m.cls := findClass_of_methodNamed Bd.named
  have hnm := (name_of_methodNamed Bd.named Bd.method).1
  have X0 : Stand p l e ({ frames := 0, cells := 0, slots := 0, locals := 0 } : Room) s m #[(.int x), (.int y)] below meth c s₁ [] 0 0 := Stand.of_body Bd
  have e0 : s₁.heap = h0 := by rw [← hh, Bd.state]; rfl
  have N0 := Fr.nil n0
  show Goes p e below (Fin_ s (Qrm24 Z x y h0 n0) ({ frames := 0, cells := 0, slots := 0, locals := 0 } : Room).cells ({ frames := 0, cells := 0, slots := 0, locals := 0 } : Room).slots) (s₁.setTop (entryFrame m #[(.int x), (.int y)] 2))
  rw [ef_rm24 m x y]
  refine gILN X0 hx hby d24_0 rfl ?_
  refine gILN X0 hx hby d24_1 rfl ?_
  have hc2_1 : ¬ (y < x) := H0
  refine Goes.via (fun _ kk_ => XS.icmpNo X0.here hx rfl (hb hby d24_2) rfl (flt hc2_1).2.2.1 kk_) ?_
  show Goes p e below _ (s₁.setTop (mkF m 5 #[vi x, vi y] []))
  refine gILN X0 hx hby d24_5 rfl ?_
  refine Goes.via (fun _ kk_ => XS.goto X0.here hx rfl (pc0 := 6) (pc' := 10) rfl (hb hby d24_6) (by decide) (by decide) kk_) ?_
  show Goes p e below _ (s₁.setTop (mkF m 10 #[vi x, vi y] [(.int x)]))
  exact own_finI X0 hx hlk hret (hb hby d24_10) (by rw [e0]; exact ⟨rfl, rfl, rfl⟩) (by first | decide | omega | (dsimp only; omega)) (by first | decide | omega | (dsimp only; omega))
theorem ef_rm25 (m : MethodId) (b : Addr) (ch : Int32) (i_ : Int32) (nz : Int32) : entryFrame m #[(.ref b), (.int ch), (.int i_), (.int nz)] 6 = mkF m 0 #[.val (.ref b), .val (.int ch), .val (.int i_), .val (.int nz), .unset, .unset] [] := by first | (simp [entryFrame, mkF, argsToLocals, Value.category]; done) | rfl
def Qrm25 (Z : State) (b : Addr) (ch : Int32) (i_ : Int32) (nz : Int32) (kc : ClassId) (N : Nat) (g : Nat → Int32) (j : Nat) (h0 : Heap) (n0 : Nat) (v_ : Option Value) (h_ : Heap) (L_ : List Loc) : Prop := v_ = some (.int (own_find g ch.toInt8.toInt32 (N - j) j i_)) ∧ L_ = [] ∧ h_ = h0
theorem d25_0 : decode jdk_43_method_23_code 0 = .ok (.iload_n 1, 1) := by decide +kernel
theorem d25_1 : decode jdk_43_method_23_code 1 = .ok (.i2b, 1) := by decide +kernel
theorem d25_2 : decode jdk_43_method_23_code 2 = .ok (.istore 4, 2) := by decide +kernel
theorem d25_4 : decode jdk_43_method_23_code 4 = .ok (.iload_n 2, 1) := by decide +kernel
theorem d25_5 : decode jdk_43_method_23_code 5 = .ok (.istore 5, 2) := by decide +kernel
theorem d25_7 : decode jdk_43_method_23_code 7 = .ok (.iload 5, 2) := by decide +kernel
theorem d25_9 : decode jdk_43_method_23_code 9 = .ok (.iload_n 3, 1) := by decide +kernel
theorem d25_10 : decode jdk_43_method_23_code 10 = .ok (.if_icmp .ge 21, 3) := by decide +kernel
theorem d25_13 : decode jdk_43_method_23_code 13 = .ok (.aload_n 0, 1) := by decide +kernel
theorem d25_14 : decode jdk_43_method_23_code 14 = .ok (.iload 5, 2) := by decide +kernel
theorem d25_16 : decode jdk_43_method_23_code 16 = .ok (.baload, 1) := by decide +kernel
theorem d25_17 : decode jdk_43_method_23_code 17 = .ok (.iload 4, 2) := by decide +kernel
theorem d25_19 : decode jdk_43_method_23_code 19 = .ok (.if_icmp .ne 6, 3) := by decide +kernel
theorem d25_22 : decode jdk_43_method_23_code 22 = .ok (.iload 5, 2) := by decide +kernel
theorem d25_24 : decode jdk_43_method_23_code 24 = .ok (.ireturn, 1) := by decide +kernel
theorem d25_25 : decode jdk_43_method_23_code 25 = .ok (.iinc 5 1, 3) := by decide +kernel
theorem d25_28 : decode jdk_43_method_23_code 28 = .ok (.goto (-21), 3) := by decide +kernel
theorem d25_31 : decode jdk_43_method_23_code 31 = .ok (.iconst (-1), 1) := by decide +kernel
theorem d25_32 : decode jdk_43_method_23_code 32 = .ok (.ireturn, 1) := by decide +kernel
set_option maxRecDepth 65536 in
set_option maxHeartbeats 40000000 in
theorem rm25 (l : Launch) (Z : State) (a0 : Array Value) (hw : ∀ d ∈ tables_1, d.before a0 Z = true) (ws : List Jvm.Cond) (b : Addr) (ch : Int32) (i_ : Int32) (nz : Int32) (kc : ClassId) (N : Nat) (g : Nat → Int32) (j : Nat) (h0 : Heap) (n0 : Nat) (Z0 : n0 ≤ h0.size) (A0_b : Arw Z h0 b kc .byte N (fun i => .int (g i))) (Hij : i_.toInt = (j : Int)) (HjN : j ≤ N) (Hnz : nz.toInt = (N : Int)) :
    MetFree l (⟨"java/lang/StringLatin1", "indexOfChar", "([BIII)I"⟩ : MethodName) (head1 (Jvm.Cond.code (⟨"java/lang/StringLatin1", "indexOfChar", "([BIII)I"⟩ : MethodName) jdk_43_method_23_code 6 (some .int) :: ws) ({ frames := 0, cells := 0, slots := 0, locals := 0 } : Room)) (fun as_ U_ => as_ = #[(.ref b), (.int ch), (.int i_), (.int nz)] ∧ Z.Warmed39 U_.vm ∧ U_.heap = h0) (fun _ _ _ _ _ => True) (fun _ U_ o_ V_ => ∃ v_ L_, o_ = .returned v_ ∧ Qrm25 Z b ch i_ nz kc N g j h0 n0 v_ V_.heap L_ ∧ FrameEnd U_ o_ V_ L_ ({ frames := 0, cells := 0, slots := 0, locals := 0 } : Room).cells ({ frames := 0, cells := 0, slots := 0, locals := 0 } : Room).slots) := by
  refine MetFree.of_bodySF (plainFor_of_name pn_java_lang_StringLatin1) hisR ?_
  intro p e s m args below meth c s₁ Bd hml0 hP hK
  obtain ⟨rfl, hZ, hh⟩ := hP
  have hx := Bd.exec
  have hby := Bd.bytes
  have hlk : meth.locks = false := BodyLoose.notSynchronized Bd
  have hret := Bd.returns
  have hml : c.maxLocals = 6 := hml0
  have hown : s.vm.findClass "java/lang/StringLatin1" = some m.cls := findClass_of_methodNamed Bd.named
  have hnm := (name_of_methodNamed Bd.named Bd.method).1
  have X0 : Stand p l e ({ frames := 0, cells := 0, slots := 0, locals := 0 } : Room) s m #[(.ref b), (.int ch), (.int i_), (.int nz)] below meth c s₁ [] 0 0 := Stand.of_body Bd
  have e0 : s₁.heap = h0 := by rw [← hh, Bd.state]; rfl
  have N0 := Fr.nil n0
  show Goes p e below (Fin_ s (Qrm25 Z b ch i_ nz kc N g j h0 n0) ({ frames := 0, cells := 0, slots := 0, locals := 0 } : Room).cells ({ frames := 0, cells := 0, slots := 0, locals := 0 } : Room).slots) (s₁.setTop (entryFrame m #[(.ref b), (.int ch), (.int i_), (.int nz)] 6))
  rw [ef_rm25 m b ch i_ nz]
  refine gILN X0 hx hby d25_0 rfl ?_
  refine Goes.via (fun _ kk_ => XS.i2b X0.here hx rfl (hb hby d25_1) rfl kk_) ?_
  show Goes p e below _ (s₁.setTop (mkF m 2 #[vr b, vi ch, vi i_, vi nz, .unset, .unset] [(.int (ch.toInt8.toInt32))]))
  refine Goes.via (fun _ kk_ => XS.istore X0.here hx rfl (hb hby d25_2) rfl (l' := #[vr b, vi ch, vi i_, vi nz, vi (ch.toInt8.toInt32), .unset]) rfl kk_) ?_
  show Goes p e below _ (s₁.setTop (mkF m 4 #[vr b, vi ch, vi i_, vi nz, vi (ch.toInt8.toInt32), .unset] []))
  refine gILN X0 hx hby d25_4 rfl ?_
  refine Goes.via (fun _ kk_ => XS.istore X0.here hx rfl (hb hby d25_5) rfl (l' := #[vr b, vi ch, vi i_, vi nz, vi (ch.toInt8.toInt32), vi i_]) rfl kk_) ?_
  show Goes p e below _ (s₁.setTop (mkF m 7 #[vr b, vi ch, vi i_, vi nz, vi (ch.toInt8.toInt32), vi i_] []))
  have lp1 : ∀ (fu1 : Nat) (u : Int32) (y : Nat) (T1 : State) (lc1 : List Loc), (Stand p l e ({ frames := 0, cells := 0, slots := 0, locals := 0 } : Room) s m #[(.ref b), (.int ch), (.int i_), (.int nz)] below meth c T1 lc1 0 0) → (T1.heap = h0) → (lc1 = []) → (u.toInt = (y : Int)) → (y ≤ N) → (y + fu1 = N + 1) → (own_find g ch.toInt8.toInt32 (N - y) y u = own_find g ch.toInt8.toInt32 (N - j) j i_) → Goes p e below (Fin_ s (Qrm25 Z b ch i_ nz kc N g j h0 n0) ({ frames := 0, cells := 0, slots := 0, locals := 0 } : Room).cells ({ frames := 0, cells := 0, slots := 0, locals := 0 } : Room).slots) (T1.setTop (mkF m 7 #[vr b, vi ch, vi i_, vi nz, vi (ch.toInt8.toInt32), vi u] [])) := by
    intro fu1
    induction fu1 with
    | zero =>
      intro u y T1 lc1 X1 e1 N1 hu hyn hfu hr
      omega
    | succ fu1 ih1 =>
      intro u y T1 lc1 X1 e1 N1 hu hyn hfu hr
      subst N1
      refine gIL X1 hx hby d25_7 rfl ?_
      refine gILN X1 hx hby d25_9 rfl ?_
      by_cases hc10 : u < nz
      · skip
        refine Goes.via (fun _ kk_ => XS.icmpNo X1.here hx rfl (hb hby d25_10) rfl (tlt hc10).2.1 kk_) ?_
        show Goes p e below _ (T1.setTop (mkF m 13 #[vr b, vi ch, vi i_, vi nz, vi (ch.toInt8.toInt32), vi u] []))
        have hyN : y < N := by have q := own_lti.mp hc10; rw [hu, Hnz] at q; omega
        refine gALN X1 hx hby d25_13 rfl rfl ?_
        refine gIL X1 hx hby d25_14 rfl ?_
        refine Goes.via (own_baload X1 hx hZ e1 A0_b (j := u) (i := y) (own_ix hu).1 (own_ix hu).2 hyN (v := (g y)) rfl (g := (mkF m 16 #[vr b, vi ch, vi i_, vi nz, vi (ch.toInt8.toInt32), vi u] [(.int u), (.ref b)])) rfl rfl (hb hby d25_16)) ?_
        show Goes p e below _ (T1.setTop (mkF m 17 #[vr b, vi ch, vi i_, vi nz, vi (ch.toInt8.toInt32), vi u] [(.int (g y))]))
        refine gIL X1 hx hby d25_17 rfl ?_
        by_cases hc19 : (g y) = (ch.toInt8.toInt32)
        · skip
          refine Goes.via (fun _ kk_ => XS.icmpNo X1.here hx rfl (hb hby d25_19) rfl (teq hc19).2 kk_) ?_
          show Goes p e below _ (T1.setTop (mkF m 22 #[vr b, vi ch, vi i_, vi nz, vi (ch.toInt8.toInt32), vi u] []))
          refine gIL X1 hx hby d25_22 rfl ?_
          exact own_finI X1 hx hlk hret (hb hby d25_24) (by rw [e1]; exact ⟨(own_ret (hr.symm.trans (own_find_hit hyN hc19)).symm), rfl, rfl⟩) (by first | decide | omega | (dsimp only; omega)) (by first | decide | omega | (dsimp only; omega))
        · skip
          refine Goes.via (fun _ kk_ => XS.icmpYes X1.here hx rfl (pc0 := 19) (pc' := 25) rfl (hb hby d25_19) rfl (feq hc19).2 (by decide) (by decide) kk_) ?_
          show Goes p e below _ (T1.setTop (mkF m 25 #[vr b, vi ch, vi i_, vi nz, vi (ch.toInt8.toInt32), vi u] []))
          refine Goes.via (fun _ kk_ => XS.iinc X1.here hx rfl (hb hby d25_25) rfl (l' := #[vr b, vi ch, vi i_, vi nz, vi (ch.toInt8.toInt32), vi (u + (1 : Int32))]) rfl kk_) ?_
          show Goes p e below _ (T1.setTop (mkF m 28 #[vr b, vi ch, vi i_, vi nz, vi (ch.toInt8.toInt32), vi (u + (1 : Int32))] []))
          refine Goes.via (fun _ kk_ => XS.goto X1.here hx rfl (pc0 := 28) (pc' := 7) rfl (hb hby d25_28) (by decide) (by decide) kk_) ?_
          show Goes p e below _ (T1.setTop (mkF m 7 #[vr b, vi ch, vi i_, vi nz, vi (ch.toInt8.toInt32), vi (u + (1 : Int32))] []))
          exact ih1 ((u + (1 : Int32))) (y + 1) _ _ X1 e1 rfl (own_p1 hu (by have := nz.toInt_lt; omega)) (by omega) (by omega) ((own_find_next hyN hc19).trans hr)
      · skip
        refine Goes.via (fun _ kk_ => XS.icmpYes X1.here hx rfl (pc0 := 10) (pc' := 31) rfl (hb hby d25_10) rfl (flt hc10).2.1 (by decide) (by decide) kk_) ?_
        show Goes p e below _ (T1.setTop (mkF m 31 #[vr b, vi ch, vi i_, vi nz, vi (ch.toInt8.toInt32), vi u] []))
        refine gIC (z := -1) X1 hx hby d25_31 rfl ?_
        exact own_finI X1 hx hlk hret (hb hby d25_32) (by rw [e1]; exact ⟨(own_ret (hr.symm.trans (own_find_end (by have q : ¬ _ := fun q => hc10 (own_lti.mpr q); rw [hu, Hnz] at q; omega))).symm), rfl, rfl⟩) (by first | decide | omega | (dsimp only; omega)) (by first | decide | omega | (dsimp only; omega))
  exact lp1 (N + 1 - j) (i_) (j) _ _ X0 e0 rfl Hij HjN (by omega) rfl
theorem ef_rm21 (m : MethodId) (b : Addr) (ch : Int32) (i_ : Int32) (nz : Int32) : entryFrame m #[(.ref b), (.int ch), (.int i_), (.int nz)] 4 = mkF m 0 #[.val (.ref b), .val (.int ch), .val (.int i_), .val (.int nz)] [] := by first | (simp [entryFrame, mkF, argsToLocals, Value.category]; done) | rfl
def Qrm21 (Z : State) (b : Addr) (ch : Int32) (i_ : Int32) (nz : Int32) (kc : ClassId) (N : Nat) (g : Nat → Int32) (j : Nat) (h0 : Heap) (n0 : Nat) (v_ : Option Value) (h_ : Heap) (L_ : List Loc) : Prop := v_ = some (.int (own_find g ch.toInt8.toInt32 (N - j) j i_)) ∧ L_ = [] ∧ h_ = h0
theorem d21_0 : decode jdk_43_method_22_code 0 = .ok (.iload_n 1, 1) := by decide +kernel
theorem pd_5 : parseMethodDescriptor "(I)Z" = some ⟨[.int], some .boolean⟩ := by decide +kernel
theorem d21_1 : decode jdk_43_method_22_code 1 = .ok (.invokestatic 88, 3) := by decide +kernel
theorem d21_4 : decode jdk_43_method_22_code 4 = .ok (.ifCond .ne 5, 3) := by decide +kernel
theorem d21_9 : decode jdk_43_method_22_code 9 = .ok (.iload_n 2, 1) := by decide +kernel
theorem d21_10 : decode jdk_43_method_22_code 10 = .ok (.iconst 0, 1) := by decide +kernel
theorem pd_6 : parseMethodDescriptor "(II)I" = some ⟨[.int, .int], some .int⟩ := by decide +kernel
theorem d21_11 : decode jdk_43_method_22_code 11 = .ok (.invokestatic 92, 3) := by decide +kernel
theorem d21_14 : decode jdk_43_method_22_code 14 = .ok (.istore_n 2, 1) := by decide +kernel
theorem d21_15 : decode jdk_43_method_22_code 15 = .ok (.iload_n 3, 1) := by decide +kernel
theorem d21_16 : decode jdk_43_method_22_code 16 = .ok (.aload_n 0, 1) := by decide +kernel
theorem d21_17 : decode jdk_43_method_22_code 17 = .ok (.arraylength, 1) := by decide +kernel
theorem d21_18 : decode jdk_43_method_22_code 18 = .ok (.invokestatic 38, 3) := by decide +kernel
theorem d21_21 : decode jdk_43_method_22_code 21 = .ok (.istore_n 3, 1) := by decide +kernel
theorem d21_22 : decode jdk_43_method_22_code 22 = .ok (.iload_n 2, 1) := by decide +kernel
theorem d21_23 : decode jdk_43_method_22_code 23 = .ok (.iload_n 3, 1) := by decide +kernel
theorem d21_24 : decode jdk_43_method_22_code 24 = .ok (.if_icmp .lt 5, 3) := by decide +kernel
theorem d21_29 : decode jdk_43_method_22_code 29 = .ok (.aload_n 0, 1) := by decide +kernel
theorem d21_30 : decode jdk_43_method_22_code 30 = .ok (.iload_n 1, 1) := by decide +kernel
theorem d21_31 : decode jdk_43_method_22_code 31 = .ok (.iload_n 2, 1) := by decide +kernel
theorem d21_32 : decode jdk_43_method_22_code 32 = .ok (.iload_n 3, 1) := by decide +kernel
theorem pd_7 : parseMethodDescriptor "([BIII)I" = some ⟨[(.array .byte), .int, .int, .int], some .int⟩ := by decide +kernel
theorem d21_33 : decode jdk_43_method_22_code 33 = .ok (.invokestatic 95, 3) := by decide +kernel
theorem d21_36 : decode jdk_43_method_22_code 36 = .ok (.ireturn, 1) := by decide +kernel
theorem d21_27 : decode jdk_43_method_22_code 27 = .ok (.iconst (-1), 1) := by decide +kernel
theorem d21_28 : decode jdk_43_method_22_code 28 = .ok (.ireturn, 1) := by decide +kernel
set_option maxRecDepth 65536 in
set_option maxHeartbeats 40000000 in
theorem rm21 (l : Launch) (Z : State) (a0 : Array Value) (hw : ∀ d ∈ tables_1, d.before a0 Z = true) (ws : List Jvm.Cond) (b : Addr) (ch : Int32) (i_ : Int32) (nz : Int32) (kc : ClassId) (N : Nat) (g : Nat → Int32) (j : Nat) (h0 : Heap) (n0 : Nat) (Z0 : n0 ≤ h0.size) (A0_b : Arw Z h0 b kc .byte N (fun i => .int (g i))) (Hij : i_.toInt = (j : Int)) (HjN : j ≤ N) (Hnz : nz.toInt = (N : Int)) (H0 : ¬ ch < (0 : Int32)) (H1 : ¬ (255 : Int32) < ch) :
    MetFree l (⟨"java/lang/StringLatin1", "indexOf", "([BIII)I"⟩ : MethodName) (head1 (Jvm.Cond.code (⟨"java/lang/StringLatin1", "indexOf", "([BIII)I"⟩ : MethodName) jdk_43_method_22_code 4 (some .int) :: ws) ({ frames := 1, cells := 0, slots := 0, locals := 17 } : Room)) (fun as_ U_ => as_ = #[(.ref b), (.int ch), (.int i_), (.int nz)] ∧ Z.Warmed39 U_.vm ∧ U_.heap = h0) (fun _ _ _ _ _ => True) (fun _ U_ o_ V_ => ∃ v_ L_, o_ = .returned v_ ∧ Qrm21 Z b ch i_ nz kc N g j h0 n0 v_ V_.heap L_ ∧ FrameEnd U_ o_ V_ L_ ({ frames := 1, cells := 0, slots := 0, locals := 17 } : Room).cells ({ frames := 1, cells := 0, slots := 0, locals := 17 } : Room).slots) := by
  refine MetFree.of_bodySF (plainFor_of_name pn_java_lang_StringLatin1) hisR ?_
  intro p e s m args below meth c s₁ Bd hml0 hP hK
  obtain ⟨rfl, hZ, hh⟩ := hP
  have hx := Bd.exec
  have hby := Bd.bytes
  have hlk : meth.locks = false := BodyLoose.notSynchronized Bd
  have hret := Bd.returns
  have hml : c.maxLocals = 4 := hml0
  have hown : s.vm.findClass "java/lang/StringLatin1" = some m.cls := findClass_of_methodNamed Bd.named
  have hnm := (name_of_methodNamed Bd.named Bd.method).1
  have X0 : Stand p l e ({ frames := 1, cells := 0, slots := 0, locals := 17 } : Room) s m #[(.ref b), (.int ch), (.int i_), (.int nz)] below meth c s₁ [] 0 0 := Stand.of_body Bd
  have e0 : s₁.heap = h0 := by rw [← hh, Bd.state]; rfl
  have N0 := Fr.nil n0
  show Goes p e below (Fin_ s (Qrm21 Z b ch i_ nz kc N g j h0 n0) ({ frames := 1, cells := 0, slots := 0, locals := 17 } : Room).cells ({ frames := 1, cells := 0, slots := 0, locals := 17 } : Room).slots) (s₁.setTop (entryFrame m #[(.ref b), (.int ch), (.int i_), (.int nz)] 4))
  rw [ef_rm21 m b ch i_ nz]
  refine gILN X0 hx hby d21_0 rfl ?_
  obtain ⟨_, _, ⟨T1, L1, k1, n1⟩, -, X1, ⟨Lc1, hQ1, l1, y1, z1⟩, st1⟩ := Jvm.LawKit.callS X0 hx (y := (⟨"java/lang/StringLatin1", "canEncode", "(I)Z"⟩ : MethodName)) hown (mvT hZ (own_w hw 98 rfl)) (mvT hZ (own_w hw 99 rfl)) (mvT hZ (own_w hw 28 rfl)) (mvT hZ (own_w hw 100 rfl)) (by decide) (backOf (W := 0) (rm22 l Z a0 hw [] ch h0 n0 (Nat.le_trans Z0 (Nat.le_refl _)) H0 H1) hZ (own_w hw 100 rfl) (own_w hw 28 rfl) (by decide) (by decide)) (g := (mkF m 1 #[vr b, vi ch, vi i_, vi nz] [(.int ch)])) rfl (by rw [hml]; rfl) (argsL := [(.int ch)]) (rest := []) (lenOf pd_5 rfl) rfl (by show 2 * 0 + _ ≤ _; exact Nat.le_of_eq rfl) (hb hby d21_1) (fun _ _ => ⟨rfl, e0, (by decide : 0 + 0 ≤ _), (by decide : 0 + 0 ≤ _)⟩)
  dsimp only [Pt.U, Pt.locs, Pt.cells, Pt.slots] at X1 l1 y1 z1 st1 hQ1
  replace l1 := l1.symm
  subst l1 y1 z1
  obtain ⟨rfl, rfl, e1⟩ := hQ1
  first | rw [List.append_nil] at X1 | skip
  refine Goes.via st1 ?_
  have e1' : T1.heap = h0 := e1
  show Goes p e below _ (T1.setTop (mkF m 4 #[vr b, vi ch, vi i_, vi nz] [(.int (1 : Int32))]))
  have hc4_2 : ¬ ((1 : Int32) = (0 : Int32)) := (by decide)
  refine Goes.via (fun _ kk_ => XS.ifYes X1.here hx rfl (pc0 := 4) (pc' := 9) rfl (hb hby d21_4) rfl ((if0 _ _).trans (feq hc4_2).2) (by decide) (by decide) kk_) ?_
  show Goes p e below _ (T1.setTop (mkF m 9 #[vr b, vi ch, vi i_, vi nz] []))
  refine gILN X1 hx hby d21_9 rfl ?_
  refine gIC (z := 0) X1 hx hby d21_10 rfl ?_
  obtain ⟨_, _, ⟨T3, L3, k3, n3⟩, -, X3, ⟨Lc3, hQ3, l3, y3, z3⟩, st3⟩ := Jvm.LawKit.callS X1 hx (y := (⟨"java/lang/Math", "max", "(II)I"⟩ : MethodName)) hown (mvT hZ (own_w hw 101 rfl)) (mvT hZ (own_w hw 102 rfl)) (mvT hZ (own_w hw 103 rfl)) (mvT hZ (own_w hw 104 rfl)) (by decide) (backOf (W := 0) (rm23 l Z a0 hw [] i_ (0 : Int32) h0 n0 (Nat.le_trans Z0 (Nat.le_refl _)) (own_ix Hij).1) hZ (own_w hw 104 rfl) (own_w hw 103 rfl) (by decide) (by decide)) (g := (mkF m 11 #[vr b, vi ch, vi i_, vi nz] [(.int (0 : Int32)), (.int i_)])) rfl (by rw [hml]; rfl) (argsL := [(.int i_), (.int (0 : Int32))]) (rest := []) (lenOf pd_6 rfl) rfl (by show 2 * 0 + _ ≤ _; exact Nat.le_of_eq rfl) (hb hby d21_11) (fun _ _ => ⟨rfl, e1', (by decide : 0 + 0 ≤ _), (by decide : 0 + 0 ≤ _)⟩)
  dsimp only [Pt.U, Pt.locs, Pt.cells, Pt.slots] at X3 l3 y3 z3 st3 hQ3
  replace l3 := l3.symm
  subst l3 y3 z3
  obtain ⟨rfl, rfl, e3⟩ := hQ3
  first | rw [List.append_nil] at X3 | skip
  refine Goes.via st3 ?_
  have e3' : T3.heap = h0 := e3
  show Goes p e below _ (T3.setTop (mkF m 14 #[vr b, vi ch, vi i_, vi nz] [(.int i_)]))
  refine Goes.via (fun _ kk_ => XS.istoreN X3.here hx rfl (hb hby d21_14) rfl (l' := #[vr b, vi ch, vi i_, vi nz]) rfl kk_) ?_
  show Goes p e below _ (T3.setTop (mkF m 15 #[vr b, vi ch, vi i_, vi nz] []))
  refine gILN X3 hx hby d21_15 rfl ?_
  refine gALN X3 hx hby d21_16 rfl rfl ?_
  refine Goes.via (own_alen X3 hx hZ e3' A0_b (g := (mkF m 17 #[vr b, vi ch, vi i_, vi nz] [(.ref b), (.int nz)])) rfl rfl (hb hby d21_17)) ?_
  rw [show (N : Nat).toInt32 = nz from (own_nz Hnz)]
  show Goes p e below _ (T3.setTop (mkF m 18 #[vr b, vi ch, vi i_, vi nz] [(.int nz), (.int nz)]))
  obtain ⟨_, _, ⟨T4, L4, k4, n4⟩, -, X4, ⟨Lc4, hQ4, l4, y4, z4⟩, st4⟩ := Jvm.LawKit.callS X3 hx (y := (⟨"java/lang/Math", "min", "(II)I"⟩ : MethodName)) hown (mvT hZ (own_w hw 105 rfl)) (mvT hZ (own_w hw 106 rfl)) (mvT hZ (own_w hw 103 rfl)) (mvT hZ (own_w hw 107 rfl)) (by decide) (backOf (W := 0) (rm24 l Z a0 hw [] nz nz h0 n0 (Nat.le_trans Z0 (Nat.le_refl _)) (fun q => Int32.lt_irrefl q)) hZ (own_w hw 107 rfl) (own_w hw 103 rfl) (by decide) (by decide)) (g := (mkF m 18 #[vr b, vi ch, vi i_, vi nz] [(.int nz), (.int nz)])) rfl (by rw [hml]; rfl) (argsL := [(.int nz), (.int nz)]) (rest := []) (lenOf pd_6 rfl) rfl (by show 2 * 0 + _ ≤ _; exact Nat.le_of_eq rfl) (hb hby d21_18) (fun _ _ => ⟨rfl, e3', (by decide : 0 + 0 ≤ _), (by decide : 0 + 0 ≤ _)⟩)
  dsimp only [Pt.U, Pt.locs, Pt.cells, Pt.slots] at X4 l4 y4 z4 st4 hQ4
  replace l4 := l4.symm
  subst l4 y4 z4
  obtain ⟨rfl, rfl, e4⟩ := hQ4
  first | rw [List.append_nil] at X4 | skip
  refine Goes.via st4 ?_
  have e4' : T4.heap = h0 := e4
  show Goes p e below _ (T4.setTop (mkF m 21 #[vr b, vi ch, vi i_, vi nz] [(.int nz)]))
  refine Goes.via (fun _ kk_ => XS.istoreN X4.here hx rfl (hb hby d21_21) rfl (l' := #[vr b, vi ch, vi i_, vi nz]) rfl kk_) ?_
  show Goes p e below _ (T4.setTop (mkF m 22 #[vr b, vi ch, vi i_, vi nz] []))
  refine gILN X4 hx hby d21_22 rfl ?_
  refine gILN X4 hx hby d21_23 rfl ?_
  by_cases hc24 : i_ < nz
  · skip
    refine Goes.via (fun _ kk_ => XS.icmpYes X4.here hx rfl (pc0 := 24) (pc' := 29) rfl (hb hby d21_24) rfl (tlt hc24).1 (by decide) (by decide) kk_) ?_
    show Goes p e below _ (T4.setTop (mkF m 29 #[vr b, vi ch, vi i_, vi nz] []))
    refine gALN X4 hx hby d21_29 rfl rfl ?_
    refine gILN X4 hx hby d21_30 rfl ?_
    refine gILN X4 hx hby d21_31 rfl ?_
    refine gILN X4 hx hby d21_32 rfl ?_
    obtain ⟨_, _, ⟨T5, L5, k5, n5⟩, -, X5, ⟨Lc5, hQ5, l5, y5, z5⟩, st5⟩ := Jvm.LawKit.callS X4 hx (y := (⟨"java/lang/StringLatin1", "indexOfChar", "([BIII)I"⟩ : MethodName)) hown (mvT hZ (own_w hw 108 rfl)) (mvT hZ (own_w hw 109 rfl)) (mvT hZ (own_w hw 28 rfl)) (mvT hZ (own_w hw 110 rfl)) (by decide) (backOf (W := 0) (rm25 l Z a0 hw [] b ch i_ nz kc N g j h0 n0 (Nat.le_trans Z0 (Nat.le_refl _)) A0_b Hij HjN Hnz) hZ (own_w hw 110 rfl) (own_w hw 28 rfl) (by decide) (by decide)) (g := (mkF m 33 #[vr b, vi ch, vi i_, vi nz] [(.int nz), (.int i_), (.int ch), (.ref b)])) rfl (by rw [hml]; rfl) (argsL := [(.ref b), (.int ch), (.int i_), (.int nz)]) (rest := []) (lenOf pd_7 rfl) rfl (by show 2 * 0 + _ ≤ _; exact Nat.le_of_eq rfl) (hb hby d21_33) (fun _ _ => ⟨rfl, e4', (by decide : 0 + 0 ≤ _), (by decide : 0 + 0 ≤ _)⟩)
    dsimp only [Pt.U, Pt.locs, Pt.cells, Pt.slots] at X5 l5 y5 z5 st5 hQ5
    replace l5 := l5.symm
    subst l5 y5 z5
    obtain ⟨rfl, rfl, e5⟩ := hQ5
    first | rw [List.append_nil] at X5 | skip
    refine Goes.via st5 ?_
    have e5' : T5.heap = h0 := e5
    show Goes p e below _ (T5.setTop (mkF m 36 #[vr b, vi ch, vi i_, vi nz] [(.int (own_find g ch.toInt8.toInt32 (N - j) j i_))]))
    exact own_finI X5 hx hlk hret (hb hby d21_36) (by rw [e5']; exact ⟨rfl, rfl, rfl⟩) (by first | decide | omega | (dsimp only; omega)) (by first | decide | omega | (dsimp only; omega))
  · skip
    refine Goes.via (fun _ kk_ => XS.icmpNo X4.here hx rfl (hb hby d21_24) rfl (flt hc24).1 kk_) ?_
    show Goes p e below _ (T4.setTop (mkF m 27 #[vr b, vi ch, vi i_, vi nz] []))
    refine gIC (z := -1) X4 hx hby d21_27 rfl ?_
    exact own_finI X4 hx hlk hret (hb hby d21_28) (by rw [e4']; exact ⟨(own_ret (own_find_end (by have q : ¬ _ := fun q => hc24 (own_lti.mpr q); rw [Hij, Hnz] at q; omega)).symm), rfl, rfl⟩) (by first | decide | omega | (dsimp only; omega)) (by first | decide | omega | (dsimp only; omega))
theorem ef_rm20 (m : MethodId) (a : Addr) (ch : Int32) (i_ : Int32) : entryFrame m #[(.ref a), (.int ch), (.int i_)] 3 = mkF m 0 #[.val (.ref a), .val (.int ch), .val (.int i_)] [] := by first | (simp [entryFrame, mkF, argsToLocals, Value.category]; done) | rfl
def Qrm20 (Z : State) (a : Addr) (ch : Int32) (i_ : Int32) (nz : Int32) (cS : Int32) (t : Addr) (kc : ClassId) (N : Nat) (g : Nat → Int32) (j : Nat) (h0 : Heap) (n0 : Nat) (v_ : Option Value) (h_ : Heap) (L_ : List Loc) : Prop := v_ = some (.int (own_find g ch.toInt8.toInt32 (N - j) j i_)) ∧ L_ = [] ∧ h_ = h0
theorem d20_0 : decode jdk_42_method_80_code 0 = .ok (.aload_n 0, 1) := by decide +kernel
theorem d20_1 : decode jdk_42_method_80_code 1 = .ok (.invokevirtual 492, 3) := by decide +kernel
theorem d20_4 : decode jdk_42_method_80_code 4 = .ok (.ifCond .eq 19, 3) := by decide +kernel
theorem d20_7 : decode jdk_42_method_80_code 7 = .ok (.aload_n 0, 1) := by decide +kernel
theorem d20_8 : decode jdk_42_method_80_code 8 = .ok (.getfield 9, 3) := by decide +kernel
theorem d20_11 : decode jdk_42_method_80_code 11 = .ok (.iload_n 1, 1) := by decide +kernel
theorem d20_12 : decode jdk_42_method_80_code 12 = .ok (.iload_n 2, 1) := by decide +kernel
theorem d20_13 : decode jdk_42_method_80_code 13 = .ok (.aload_n 0, 1) := by decide +kernel
theorem pd_8 : parseMethodDescriptor "()I" = some ⟨[], some .int⟩ := by decide +kernel
theorem d20_14 : decode jdk_42_method_80_code 14 = .ok (.invokevirtual 505, 3) := by decide +kernel
theorem d20_17 : decode jdk_42_method_80_code 17 = .ok (.invokestatic 637, 3) := by decide +kernel
theorem d20_20 : decode jdk_42_method_80_code 20 = .ok (.goto 16, 3) := by decide +kernel
theorem d20_36 : decode jdk_42_method_80_code 36 = .ok (.ireturn, 1) := by decide +kernel
set_option maxRecDepth 65536 in
set_option maxHeartbeats 40000000 in
theorem rm20 (l : Launch) (Z : State) (a0 : Array Value) (hw : ∀ d ∈ tables_1, d.before a0 Z = true) (ws : List Jvm.Cond) (a : Addr) (ch : Int32) (i_ : Int32) (nz : Int32) (cS : Int32) (t : Addr) (kc : ClassId) (N : Nat) (g : Nat → Int32) (j : Nat) (h0 : Heap) (n0 : Nat) (Z0 : n0 ≤ h0.size) (E0_a : Exa Z h0 a "java/lang/String") (F1_a_coder : Fld Z h0 a "java/lang/String" "coder" "B" (.int (0 : Int32))) (F2_a_value : Fld Z h0 a "java/lang/String" "value" "[B" (.ref t)) (A3_t : Arw Z h0 t kc .byte N (fun i => .int (g i))) (S4_java_lang_String_COMPACT_STRINGS_COMPACT_STRINGS : Sta Z h0 "java/lang/String" "COMPACT_STRINGS" "Z" (.int cS)) (H_cs : ¬ cS = (0 : Int32)) (Hij : i_.toInt = (j : Int)) (HjN : j ≤ N) (Hnz : nz.toInt = (N : Int)) (H0 : ¬ ch < (0 : Int32)) (H1 : ¬ (255 : Int32) < ch) :
    MetFree l (⟨"java/lang/String", "indexOf", "(II)I"⟩ : MethodName) (head1 (Jvm.Cond.code (⟨"java/lang/String", "indexOf", "(II)I"⟩ : MethodName) jdk_42_method_80_code 3 (some .int) :: ws) ({ frames := 2, cells := 0, slots := 0, locals := 32 } : Room)) (fun as_ U_ => as_ = #[(.ref a), (.int ch), (.int i_)] ∧ Z.Warmed39 U_.vm ∧ U_.heap = h0) (fun _ _ _ _ _ => True) (fun _ U_ o_ V_ => ∃ v_ L_, o_ = .returned v_ ∧ Qrm20 Z a ch i_ nz cS t kc N g j h0 n0 v_ V_.heap L_ ∧ FrameEnd U_ o_ V_ L_ ({ frames := 2, cells := 0, slots := 0, locals := 32 } : Room).cells ({ frames := 2, cells := 0, slots := 0, locals := 32 } : Room).slots) := by
  refine MetFree.of_bodySF (plainFor_of_name pn_java_lang_String) hisR ?_
  intro p e s m args below meth c s₁ Bd hml0 hP hK
  obtain ⟨rfl, hZ, hh⟩ := hP
  have hx := Bd.exec
  have hby := Bd.bytes
  have hlk : meth.locks = false := BodyLoose.notSynchronized Bd
  have hret := Bd.returns
  have hml : c.maxLocals = 3 := hml0
  have hown : s.vm.findClass "java/lang/String" = some m.cls := findClass_of_methodNamed Bd.named
  have hnm := (name_of_methodNamed Bd.named Bd.method).1
  have X0 : Stand p l e ({ frames := 2, cells := 0, slots := 0, locals := 32 } : Room) s m #[(.ref a), (.int ch), (.int i_)] below meth c s₁ [] 0 0 := Stand.of_body Bd
  have e0 : s₁.heap = h0 := by rw [← hh, Bd.state]; rfl
  have N0 := Fr.nil n0
  show Goes p e below (Fin_ s (Qrm20 Z a ch i_ nz cS t kc N g j h0 n0) ({ frames := 2, cells := 0, slots := 0, locals := 32 } : Room).cells ({ frames := 2, cells := 0, slots := 0, locals := 32 } : Room).slots) (s₁.setTop (entryFrame m #[(.ref a), (.int ch), (.int i_)] 3))
  rw [ef_rm20 m a ch i_]
  have ne1 : a ≠ t := own_ne_arr E0_a (own_w hw 7 rfl) A3_t
  refine gALN X0 hx hby d20_0 rfl rfl ?_
  obtain ⟨cq2, kq2, q2a, q2b, q2c⟩ := isOf hZ e0 E0_a
  obtain ⟨_, _, ⟨T2, L2, k2, n2⟩, -, X2, ⟨Lc2, hQ2, l2, y2, z2⟩, st2⟩ := X0.virtualBack hx (y := (⟨"java/lang/String", "isLatin1", "()Z"⟩ : MethodName)) (z := (⟨"java/lang/String", "isLatin1", "()Z"⟩ : MethodName)) hown (mvT hZ (own_w hw 18 rfl)) (mvT hZ (own_w hw 19 rfl)) (notFace_of_selects (args := #[]) (mvT hZ (own_w hw 21 rfl))) (mvT hZ (own_w hw 21 rfl)) (mvT hZ (own_w hw 20 rfl)) (by decide) (backOf (W := 0) (rm3 l Z a0 hw [] a cS h0 n0 (Nat.le_trans Z0 (Nat.le_refl _)) F1_a_coder S4_java_lang_String_COMPACT_STRINGS_COMPACT_STRINGS H_cs) hZ (own_w hw 22 rfl) (own_w hw 6 rfl) (by decide) (by decide)) q2a q2c (g := (mkF m 1 #[vr a, vi ch, vi i_] [(.ref a)])) rfl (by rw [hml]; rfl) (Steps.refl _) (argsL := []) (rest := []) (lenOf pd_3 rfl) rfl (by show 2 * 0 + _ ≤ _; exact Nat.le_of_eq rfl) (hb hby d20_1) (fun _ _ => ⟨rfl, e0, (by decide : 0 + 0 ≤ _), (by decide : 0 + 0 ≤ _)⟩)
  dsimp only [Pt.U, Pt.locs, Pt.cells, Pt.slots] at X2 l2 y2 z2 st2 hQ2
  replace l2 := l2.symm
  subst l2 y2 z2
  obtain ⟨rfl, rfl, e2⟩ := hQ2
  first | rw [List.append_nil] at X2 | skip
  refine Goes.tr st2 ?_
  have e2' : T2.heap = h0 := e2
  show Goes p e below _ (T2.setTop (mkF m 4 #[vr a, vi ch, vi i_] [(.int (1 : Int32))]))
  have hc4_3 : ¬ ((1 : Int32) = (0 : Int32)) := (by decide)
  refine Goes.via (fun _ kk_ => XS.ifNo X2.here hx rfl (hb hby d20_4) rfl ((if0 _ _).trans (feq hc4_3).1) kk_) ?_
  show Goes p e below _ (T2.setTop (mkF m 7 #[vr a, vi ch, vi i_] []))
  refine gALN X2 hx hby d20_7 rfl rfl ?_
  obtain ⟨T4, X4, e4, st4⟩ := getF X2 hx hZ hown (host := "") (Or.inl (own_w hw 25 rfl)) Via.refl e2' F2_a_value (g := (mkF m 8 #[vr a, vi ch, vi i_] [(.ref a)])) rfl rfl (hb hby d20_8)
  refine Goes.via st4 ?_
  show Goes p e below _ (T4.setTop (mkF m 11 #[vr a, vi ch, vi i_] [(.ref t)]))
  refine gILN X4 hx hby d20_11 rfl ?_
  refine gILN X4 hx hby d20_12 rfl ?_
  refine gALN X4 hx hby d20_13 rfl rfl ?_
  obtain ⟨cq5, kq5, q5a, q5b, q5c⟩ := isOf hZ e4 E0_a
  obtain ⟨_, _, ⟨T5, L5, k5, n5⟩, -, X5, ⟨Lc5, hQ5, l5, y5, z5⟩, st5⟩ := X4.virtualBack hx (y := (⟨"java/lang/String", "length", "()I"⟩ : MethodName)) (z := (⟨"java/lang/String", "length", "()I"⟩ : MethodName)) hown (mvT hZ (own_w hw 94 rfl)) (mvT hZ (own_w hw 43 rfl)) (notFace_of_selects (args := #[]) (mvT hZ (own_w hw 45 rfl))) (mvT hZ (own_w hw 45 rfl)) (mvT hZ (own_w hw 44 rfl)) (by decide) (backOf (W := 3) (rm8 l Z a0 hw [] a nz cS t kc N g h0 n0 (Nat.le_trans Z0 (Nat.le_refl _)) E0_a F1_a_coder F2_a_value A3_t S4_java_lang_String_COMPACT_STRINGS_COMPACT_STRINGS H_cs Hnz) hZ (own_w hw 46 rfl) (own_w hw 6 rfl) (by decide) (by decide)) q5a q5c (g := (mkF m 14 #[vr a, vi ch, vi i_] [(.ref a), (.int i_), (.int ch), (.ref t)])) rfl (by rw [hml]; rfl) (Steps.refl _) (argsL := []) (rest := [(.int i_), (.int ch), (.ref t)]) (lenOf pd_8 rfl) rfl (by show 2 * 0 + _ ≤ _; exact Nat.le_of_eq rfl) (hb hby d20_14) (fun _ _ => ⟨rfl, e4, (by decide : 0 + 0 ≤ _), (by decide : 0 + 0 ≤ _)⟩)
  dsimp only [Pt.U, Pt.locs, Pt.cells, Pt.slots] at X5 l5 y5 z5 st5 hQ5
  replace l5 := l5.symm
  subst l5 y5 z5
  obtain ⟨rfl, rfl, e5⟩ := hQ5
  first | rw [List.append_nil] at X5 | skip
  refine Goes.tr st5 ?_
  have e5' : T5.heap = h0 := e5
  show Goes p e below _ (T5.setTop (mkF m 17 #[vr a, vi ch, vi i_] [(.int nz), (.int i_), (.int ch), (.ref t)]))
  obtain ⟨_, _, ⟨T6, L6, k6, n6⟩, -, X6, ⟨Lc6, hQ6, l6, y6, z6⟩, st6⟩ := Jvm.LawKit.callS X5 hx (y := (⟨"java/lang/StringLatin1", "indexOf", "([BIII)I"⟩ : MethodName)) hown (mvT hZ (own_w hw 95 rfl)) (mvT hZ (own_w hw 96 rfl)) (mvT hZ (own_w hw 28 rfl)) (mvT hZ (own_w hw 97 rfl)) (by decide) (backOf (W := 0) (rm21 l Z a0 hw [] t ch i_ nz kc N g j h0 n0 (Nat.le_trans Z0 (Nat.le_refl _)) A3_t Hij HjN Hnz H0 H1) hZ (own_w hw 97 rfl) (own_w hw 28 rfl) (by decide) (by decide)) (g := (mkF m 17 #[vr a, vi ch, vi i_] [(.int nz), (.int i_), (.int ch), (.ref t)])) rfl (by rw [hml]; rfl) (argsL := [(.ref t), (.int ch), (.int i_), (.int nz)]) (rest := []) (lenOf pd_7 rfl) rfl (by show 2 * 0 + _ ≤ _; exact Nat.le_of_eq rfl) (hb hby d20_17) (fun _ _ => ⟨rfl, e5', (by decide : 0 + 0 ≤ _), (by decide : 0 + 0 ≤ _)⟩)
  dsimp only [Pt.U, Pt.locs, Pt.cells, Pt.slots] at X6 l6 y6 z6 st6 hQ6
  replace l6 := l6.symm
  subst l6 y6 z6
  obtain ⟨rfl, rfl, e6⟩ := hQ6
  first | rw [List.append_nil] at X6 | skip
  refine Goes.via st6 ?_
  have e6' : T6.heap = h0 := e6
  show Goes p e below _ (T6.setTop (mkF m 20 #[vr a, vi ch, vi i_] [(.int (own_find g ch.toInt8.toInt32 (N - j) j i_))]))
  refine Goes.via (fun _ kk_ => XS.goto X6.here hx rfl (pc0 := 20) (pc' := 36) rfl (hb hby d20_20) (by decide) (by decide) kk_) ?_
  show Goes p e below _ (T6.setTop (mkF m 36 #[vr a, vi ch, vi i_] [(.int (own_find g ch.toInt8.toInt32 (N - j) j i_))]))
  exact own_finI X6 hx hlk hret (hb hby d20_36) (by rw [e6']; exact ⟨rfl, rfl, rfl⟩) (by first | decide | omega | (dsimp only; omega)) (by first | decide | omega | (dsimp only; omega))
theorem ef_rmFn (m : MethodId) (i_ : Int32) (e_ : Int32) (nz : Int32) : entryFrame m #[(.int i_), (.int e_), (.int nz), .null] 4 = mkF m 0 #[.val (.int i_), .val (.int e_), .val (.int nz), .val .null] [] := by first | (simp [entryFrame, mkF, argsToLocals, Value.category]; done) | rfl
def QrmFn (Z : State) (i_ : Int32) (e_ : Int32) (nz : Int32) (h0 : Heap) (n0 : Nat) (v_ : Option Value) (h_ : Heap) (L_ : List Loc) : Prop := v_ = some (.int i_) ∧ L_ = [] ∧ h_ = h0
theorem d29_0 : decode jdk_41_method_12_code 0 = .ok (.iload_n 0, 1) := by decide +kernel
theorem d29_1 : decode jdk_41_method_12_code 1 = .ok (.ifCond .lt 13, 3) := by decide +kernel
theorem d29_4 : decode jdk_41_method_12_code 4 = .ok (.iload_n 0, 1) := by decide +kernel
theorem d29_5 : decode jdk_41_method_12_code 5 = .ok (.iload_n 1, 1) := by decide +kernel
theorem d29_6 : decode jdk_41_method_12_code 6 = .ok (.if_icmp .gt 8, 3) := by decide +kernel
theorem d29_9 : decode jdk_41_method_12_code 9 = .ok (.iload_n 1, 1) := by decide +kernel
theorem d29_10 : decode jdk_41_method_12_code 10 = .ok (.iload_n 2, 1) := by decide +kernel
theorem d29_11 : decode jdk_41_method_12_code 11 = .ok (.if_icmp .le 11, 3) := by decide +kernel
theorem d29_22 : decode jdk_41_method_12_code 22 = .ok (.iload_n 0, 1) := by decide +kernel
theorem d29_23 : decode jdk_41_method_12_code 23 = .ok (.ireturn, 1) := by decide +kernel
set_option maxRecDepth 65536 in
set_option maxHeartbeats 40000000 in
theorem rmFn (l : Launch) (Z : State) (a0 : Array Value) (hw : ∀ d ∈ tables_1, d.before a0 Z = true) (ws : List Jvm.Cond) (i_ : Int32) (e_ : Int32) (nz : Int32) (h0 : Heap) (n0 : Nat) (Z0 : n0 ≤ h0.size) (H0 : ¬ i_ < (0 : Int32)) (H1 : ¬ e_ < i_) (H2 : ¬ nz < e_) :
    MetFree l (⟨"jdk/internal/util/Preconditions", "checkFromToIndex", "(IIILjava/util/function/BiFunction;)I"⟩ : MethodName) (head1 (Jvm.Cond.code (⟨"jdk/internal/util/Preconditions", "checkFromToIndex", "(IIILjava/util/function/BiFunction;)I"⟩ : MethodName) jdk_41_method_12_code 4 (some .int) :: ws) ({ frames := 0, cells := 0, slots := 0, locals := 0 } : Room)) (fun as_ U_ => as_ = #[(.int i_), (.int e_), (.int nz), .null] ∧ Z.Warmed39 U_.vm ∧ U_.heap = h0) (fun _ _ _ _ _ => True) (fun _ U_ o_ V_ => ∃ v_ L_, o_ = .returned v_ ∧ QrmFn Z i_ e_ nz h0 n0 v_ V_.heap L_ ∧ FrameEnd U_ o_ V_ L_ ({ frames := 0, cells := 0, slots := 0, locals := 0 } : Room).cells ({ frames := 0, cells := 0, slots := 0, locals := 0 } : Room).slots) := by
  refine MetFree.of_bodySF (plainFor_of_name pn_jdk_internal_util_Preconditions) hisR ?_
  intro p e s m args below meth c s₁ Bd hml0 hP hK
  obtain ⟨rfl, hZ, hh⟩ := hP
  have hx := Bd.exec
  have hby := Bd.bytes
  have hlk : meth.locks = false := BodyLoose.notSynchronized Bd
  have hret := Bd.returns
  have hml : c.maxLocals = 4 := hml0
  have hown : s.vm.findClass "jdk/internal/util/Preconditions" = some m.cls := findClass_of_methodNamed Bd.named
  have hnm := (name_of_methodNamed Bd.named Bd.method).1
  have X0 : Stand p l e ({ frames := 0, cells := 0, slots := 0, locals := 0 } : Room) s m #[(.int i_), (.int e_), (.int nz), .null] below meth c s₁ [] 0 0 := Stand.of_body Bd
  have e0 : s₁.heap = h0 := by rw [← hh, Bd.state]; rfl
  have N0 := Fr.nil n0
  show Goes p e below (Fin_ s (QrmFn Z i_ e_ nz h0 n0) ({ frames := 0, cells := 0, slots := 0, locals := 0 } : Room).cells ({ frames := 0, cells := 0, slots := 0, locals := 0 } : Room).slots) (s₁.setTop (entryFrame m #[(.int i_), (.int e_), (.int nz), .null] 4))
  rw [ef_rmFn m i_ e_ nz]
  refine gILN X0 hx hby d29_0 rfl ?_
  have hc1_1 : ¬ (i_ < (0 : Int32)) := H0
  refine Goes.via (fun _ kk_ => XS.ifNo X0.here hx rfl (hb hby d29_1) rfl ((if0 _ _).trans (flt hc1_1).1) kk_) ?_
  show Goes p e below _ (s₁.setTop (mkF m 4 #[vi i_, vi e_, vi nz, .val .null] []))
  refine gILN X0 hx hby d29_4 rfl ?_
  refine gILN X0 hx hby d29_5 rfl ?_
  have hc6_2 : ¬ (e_ < i_) := H1
  refine Goes.via (fun _ kk_ => XS.icmpNo X0.here hx rfl (hb hby d29_6) rfl (flt hc6_2).2.2.1 kk_) ?_
  show Goes p e below _ (s₁.setTop (mkF m 9 #[vi i_, vi e_, vi nz, .val .null] []))
  refine gILN X0 hx hby d29_9 rfl ?_
  refine gILN X0 hx hby d29_10 rfl ?_
  have hc11_3 : ¬ (nz < e_) := H2
  refine Goes.via (fun _ kk_ => XS.icmpYes X0.here hx rfl (pc0 := 11) (pc' := 22) rfl (hb hby d29_11) rfl (flt hc11_3).2.2.2 (by decide) (by decide) kk_) ?_
  show Goes p e below _ (s₁.setTop (mkF m 22 #[vi i_, vi e_, vi nz, .val .null] []))
  refine gILN X0 hx hby d29_22 rfl ?_
  exact own_finI X0 hx hlk hret (hb hby d29_23) (by rw [e0]; exact ⟨rfl, rfl, rfl⟩) (by first | decide | omega | (dsimp only; omega)) (by first | decide | omega | (dsimp only; omega))
theorem ef_rmFr (m : MethodId) (i_ : Int32) (e_ : Int32) (nz : Int32) (fr : Addr) : entryFrame m #[(.int i_), (.int e_), (.int nz), (.ref fr)] 4 = mkF m 0 #[.val (.int i_), .val (.int e_), .val (.int nz), .val (.ref fr)] [] := by first | (simp [entryFrame, mkF, argsToLocals, Value.category]; done) | rfl
def QrmFr (Z : State) (i_ : Int32) (e_ : Int32) (nz : Int32) (fr : Addr) (h0 : Heap) (n0 : Nat) (v_ : Option Value) (h_ : Heap) (L_ : List Loc) : Prop := v_ = some (.int i_) ∧ L_ = [] ∧ h_ = h0
set_option maxRecDepth 65536 in
set_option maxHeartbeats 40000000 in
theorem rmFr (l : Launch) (Z : State) (a0 : Array Value) (hw : ∀ d ∈ tables_1, d.before a0 Z = true) (ws : List Jvm.Cond) (i_ : Int32) (e_ : Int32) (nz : Int32) (fr : Addr) (h0 : Heap) (n0 : Nat) (Z0 : n0 ≤ h0.size) (H0 : ¬ i_ < (0 : Int32)) (H1 : ¬ e_ < i_) (H2 : ¬ nz < e_) :
    MetFree l (⟨"jdk/internal/util/Preconditions", "checkFromToIndex", "(IIILjava/util/function/BiFunction;)I"⟩ : MethodName) (head1 (Jvm.Cond.code (⟨"jdk/internal/util/Preconditions", "checkFromToIndex", "(IIILjava/util/function/BiFunction;)I"⟩ : MethodName) jdk_41_method_12_code 4 (some .int) :: ws) ({ frames := 0, cells := 0, slots := 0, locals := 0 } : Room)) (fun as_ U_ => as_ = #[(.int i_), (.int e_), (.int nz), (.ref fr)] ∧ Z.Warmed39 U_.vm ∧ U_.heap = h0) (fun _ _ _ _ _ => True) (fun _ U_ o_ V_ => ∃ v_ L_, o_ = .returned v_ ∧ QrmFr Z i_ e_ nz fr h0 n0 v_ V_.heap L_ ∧ FrameEnd U_ o_ V_ L_ ({ frames := 0, cells := 0, slots := 0, locals := 0 } : Room).cells ({ frames := 0, cells := 0, slots := 0, locals := 0 } : Room).slots) := by
  refine MetFree.of_bodySF (plainFor_of_name pn_jdk_internal_util_Preconditions) hisR ?_
  intro p e s m args below meth c s₁ Bd hml0 hP hK
  obtain ⟨rfl, hZ, hh⟩ := hP
  have hx := Bd.exec
  have hby := Bd.bytes
  have hlk : meth.locks = false := BodyLoose.notSynchronized Bd
  have hret := Bd.returns
  have hml : c.maxLocals = 4 := hml0
  have hown : s.vm.findClass "jdk/internal/util/Preconditions" = some m.cls := findClass_of_methodNamed Bd.named
  have hnm := (name_of_methodNamed Bd.named Bd.method).1
  have X0 : Stand p l e ({ frames := 0, cells := 0, slots := 0, locals := 0 } : Room) s m #[(.int i_), (.int e_), (.int nz), (.ref fr)] below meth c s₁ [] 0 0 := Stand.of_body Bd
  have e0 : s₁.heap = h0 := by rw [← hh, Bd.state]; rfl
  have N0 := Fr.nil n0
  show Goes p e below (Fin_ s (QrmFr Z i_ e_ nz fr h0 n0) ({ frames := 0, cells := 0, slots := 0, locals := 0 } : Room).cells ({ frames := 0, cells := 0, slots := 0, locals := 0 } : Room).slots) (s₁.setTop (entryFrame m #[(.int i_), (.int e_), (.int nz), (.ref fr)] 4))
  rw [ef_rmFr m i_ e_ nz fr]
  refine gILN X0 hx hby d29_0 rfl ?_
  have hc1_1 : ¬ (i_ < (0 : Int32)) := H0
  refine Goes.via (fun _ kk_ => XS.ifNo X0.here hx rfl (hb hby d29_1) rfl ((if0 _ _).trans (flt hc1_1).1) kk_) ?_
  show Goes p e below _ (s₁.setTop (mkF m 4 #[vi i_, vi e_, vi nz, vr fr] []))
  refine gILN X0 hx hby d29_4 rfl ?_
  refine gILN X0 hx hby d29_5 rfl ?_
  have hc6_2 : ¬ (e_ < i_) := H1
  refine Goes.via (fun _ kk_ => XS.icmpNo X0.here hx rfl (hb hby d29_6) rfl (flt hc6_2).2.2.1 kk_) ?_
  show Goes p e below _ (s₁.setTop (mkF m 9 #[vi i_, vi e_, vi nz, vr fr] []))
  refine gILN X0 hx hby d29_9 rfl ?_
  refine gILN X0 hx hby d29_10 rfl ?_
  have hc11_3 : ¬ (nz < e_) := H2
  refine Goes.via (fun _ kk_ => XS.icmpYes X0.here hx rfl (pc0 := 11) (pc' := 22) rfl (hb hby d29_11) rfl (flt hc11_3).2.2.2 (by decide) (by decide) kk_) ?_
  show Goes p e below _ (s₁.setTop (mkF m 22 #[vi i_, vi e_, vi nz, vr fr] []))
  refine gILN X0 hx hby d29_22 rfl ?_
  exact own_finI X0 hx hlk hret (hb hby d29_23) (by rw [e0]; exact ⟨rfl, rfl, rfl⟩) (by first | decide | omega | (dsimp only; omega)) (by first | decide | omega | (dsimp only; omega))
theorem ef_rm28 (m : MethodId) (i_ : Int32) (e_ : Int32) (nz : Int32) : entryFrame m #[(.int i_), (.int e_), (.int nz)] 3 = mkF m 0 #[.val (.int i_), .val (.int e_), .val (.int nz)] [] := by first | (simp [entryFrame, mkF, argsToLocals, Value.category]; done) | rfl
def Qrm28 (Z : State) (i_ : Int32) (e_ : Int32) (nz : Int32) (fo : Value) (h0 : Heap) (n0 : Nat) (v_ : Option Value) (h_ : Heap) (L_ : List Loc) : Prop := v_ = none ∧ L_ = [] ∧ h_ = h0
theorem d28_0 : decode jdk_42_method_158_code 0 = .ok (.iload_n 0, 1) := by decide +kernel
theorem d28_1 : decode jdk_42_method_158_code 1 = .ok (.iload_n 1, 1) := by decide +kernel
theorem d28_2 : decode jdk_42_method_158_code 2 = .ok (.iload_n 2, 1) := by decide +kernel
theorem d28_3 : decode jdk_42_method_158_code 3 = .ok (.getstatic 1053, 3) := by decide +kernel
theorem pd_9 : parseMethodDescriptor "(IIILjava/util/function/BiFunction;)I" = some ⟨[.int, .int, .int, (.object "java/util/function/BiFunction")], some .int⟩ := by decide +kernel
theorem d28_6 : decode jdk_42_method_158_code 6 = .ok (.invokestatic 1062, 3) := by decide +kernel
theorem d28_9 : decode jdk_42_method_158_code 9 = .ok (.pop, 1) := by decide +kernel
theorem d28_10 : decode jdk_42_method_158_code 10 = .ok (.return_, 1) := by decide +kernel
set_option maxRecDepth 65536 in
set_option maxHeartbeats 40000000 in
theorem rm28 (l : Launch) (Z : State) (a0 : Array Value) (hw : ∀ d ∈ tables_1, d.before a0 Z = true) (ws : List Jvm.Cond) (i_ : Int32) (e_ : Int32) (nz : Int32) (fo : Value) (h0 : Heap) (n0 : Nat) (Z0 : n0 ≤ h0.size) (S0_jdk_internal_util_Preconditions_SIOOBE_FORMATTER_SIOOBE_FORMATTER : Sta Z h0 "jdk/internal/util/Preconditions" "SIOOBE_FORMATTER" "Ljava/util/function/BiFunction;" fo) (Hfo : fo.isRef = true) (H0 : ¬ i_ < (0 : Int32)) (H1 : ¬ e_ < i_) (H2 : ¬ nz < e_) :
    MetFree l (⟨"java/lang/String", "checkBoundsBeginEnd", "(III)V"⟩ : MethodName) (head1 (Jvm.Cond.code (⟨"java/lang/String", "checkBoundsBeginEnd", "(III)V"⟩ : MethodName) jdk_42_method_158_code 3 none :: ws) ({ frames := 1, cells := 0, slots := 0, locals := 15 } : Room)) (fun as_ U_ => as_ = #[(.int i_), (.int e_), (.int nz)] ∧ Z.Warmed39 U_.vm ∧ U_.heap = h0) (fun _ _ _ _ _ => True) (fun _ U_ o_ V_ => ∃ v_ L_, o_ = .returned v_ ∧ Qrm28 Z i_ e_ nz fo h0 n0 v_ V_.heap L_ ∧ FrameEnd U_ o_ V_ L_ ({ frames := 1, cells := 0, slots := 0, locals := 15 } : Room).cells ({ frames := 1, cells := 0, slots := 0, locals := 15 } : Room).slots) := by
  refine MetFree.of_bodySF (plainFor_of_name pn_java_lang_String) hisR ?_
  intro p e s m args below meth c s₁ Bd hml0 hP hK
  obtain ⟨rfl, hZ, hh⟩ := hP
  have hx := Bd.exec
  have hby := Bd.bytes
  have hlk : meth.locks = false := BodyLoose.notSynchronized Bd
  have hret := Bd.returns
  have hml : c.maxLocals = 3 := hml0
  have hown : s.vm.findClass "java/lang/String" = some m.cls := findClass_of_methodNamed Bd.named
  have hnm := (name_of_methodNamed Bd.named Bd.method).1
  have X0 : Stand p l e ({ frames := 1, cells := 0, slots := 0, locals := 15 } : Room) s m #[(.int i_), (.int e_), (.int nz)] below meth c s₁ [] 0 0 := Stand.of_body Bd
  have e0 : s₁.heap = h0 := by rw [← hh, Bd.state]; rfl
  have N0 := Fr.nil n0
  show Goes p e below (Fin_ s (Qrm28 Z i_ e_ nz fo h0 n0) ({ frames := 1, cells := 0, slots := 0, locals := 15 } : Room).cells ({ frames := 1, cells := 0, slots := 0, locals := 15 } : Room).slots) (s₁.setTop (entryFrame m #[(.int i_), (.int e_), (.int nz)] 3))
  rw [ef_rm28 m i_ e_ nz]
  rcases ref_cases Hfo with rfl | ⟨fr, rfl⟩
  · skip
    refine gILN X0 hx hby d28_0 rfl ?_
    refine gILN X0 hx hby d28_1 rfl ?_
    refine gILN X0 hx hby d28_2 rfl ?_
    obtain ⟨T1, X1, e1, st1⟩ := getS2 X0 hx hZ hown (host := "") (Or.inl (own_w hw 33 rfl)) Via.refl e0 S0_jdk_internal_util_Preconditions_SIOOBE_FORMATTER_SIOOBE_FORMATTER (g := (mkF m 3 #[vi i_, vi e_, vi nz] [(.int nz), (.int e_), (.int i_)])) rfl (hb hby d28_3)
    refine Goes.via st1 ?_
    show Goes p e below _ (T1.setTop (mkF m 6 #[vi i_, vi e_, vi nz] [.null, (.int nz), (.int e_), (.int i_)]))
    obtain ⟨_, _, ⟨T2, L2, k2, n2⟩, -, X2, ⟨Lc2, hQ2, l2, y2, z2⟩, st2⟩ := Jvm.LawKit.callS X1 hx (y := (⟨"jdk/internal/util/Preconditions", "checkFromToIndex", "(IIILjava/util/function/BiFunction;)I"⟩ : MethodName)) hown (mvT hZ (own_w hw 124 rfl)) (mvT hZ (own_w hw 125 rfl)) (mvT hZ (own_w hw 34 rfl)) (mvT hZ (own_w hw 126 rfl)) (by decide) (backOf (W := 0) (rmFn l Z a0 hw [] i_ e_ nz h0 n0 (Nat.le_trans Z0 (Nat.le_refl _)) H0 H1 H2) hZ (own_w hw 126 rfl) (own_w hw 34 rfl) (by decide) (by decide)) (g := (mkF m 6 #[vi i_, vi e_, vi nz] [.null, (.int nz), (.int e_), (.int i_)])) rfl (by rw [hml]; rfl) (argsL := [(.int i_), (.int e_), (.int nz), .null]) (rest := []) (lenOf pd_9 rfl) rfl (by show 2 * 0 + _ ≤ _; exact Nat.le_of_eq rfl) (hb hby d28_6) (fun _ _ => ⟨rfl, e1, (by decide : 0 + 0 ≤ _), (by decide : 0 + 0 ≤ _)⟩)
    dsimp only [Pt.U, Pt.locs, Pt.cells, Pt.slots] at X2 l2 y2 z2 st2 hQ2
    replace l2 := l2.symm
    subst l2 y2 z2
    obtain ⟨rfl, rfl, e2⟩ := hQ2
    first | rw [List.append_nil] at X2 | skip
    refine Goes.via st2 ?_
    have e2' : T2.heap = h0 := e2
    show Goes p e below _ (T2.setTop (mkF m 9 #[vi i_, vi e_, vi nz] [(.int i_)]))
    refine Goes.via (fun _ kk_ => XS.pop X2.here hx rfl (hb hby d28_9) rfl rfl kk_) ?_
    show Goes p e below _ (T2.setTop (mkF m 10 #[vi i_, vi e_, vi nz] []))
    exact own_finV X2 hx hlk hret (hb hby d28_10) (by rw [e2']; exact ⟨rfl, rfl, rfl⟩) (by first | decide | omega | (dsimp only; omega)) (by first | decide | omega | (dsimp only; omega))
  · skip
    refine gILN X0 hx hby d28_0 rfl ?_
    refine gILN X0 hx hby d28_1 rfl ?_
    refine gILN X0 hx hby d28_2 rfl ?_
    obtain ⟨T3, X3, e3, st3⟩ := getS2 X0 hx hZ hown (host := "") (Or.inl (own_w hw 33 rfl)) Via.refl e0 S0_jdk_internal_util_Preconditions_SIOOBE_FORMATTER_SIOOBE_FORMATTER (g := (mkF m 3 #[vi i_, vi e_, vi nz] [(.int nz), (.int e_), (.int i_)])) rfl (hb hby d28_3)
    refine Goes.via st3 ?_
    show Goes p e below _ (T3.setTop (mkF m 6 #[vi i_, vi e_, vi nz] [(.ref fr), (.int nz), (.int e_), (.int i_)]))
    obtain ⟨_, _, ⟨T4, L4, k4, n4⟩, -, X4, ⟨Lc4, hQ4, l4, y4, z4⟩, st4⟩ := Jvm.LawKit.callS X3 hx (y := (⟨"jdk/internal/util/Preconditions", "checkFromToIndex", "(IIILjava/util/function/BiFunction;)I"⟩ : MethodName)) hown (mvT hZ (own_w hw 124 rfl)) (mvT hZ (own_w hw 125 rfl)) (mvT hZ (own_w hw 34 rfl)) (mvT hZ (own_w hw 126 rfl)) (by decide) (backOf (W := 0) (rmFr l Z a0 hw [] i_ e_ nz fr h0 n0 (Nat.le_trans Z0 (Nat.le_refl _)) H0 H1 H2) hZ (own_w hw 126 rfl) (own_w hw 34 rfl) (by decide) (by decide)) (g := (mkF m 6 #[vi i_, vi e_, vi nz] [(.ref fr), (.int nz), (.int e_), (.int i_)])) rfl (by rw [hml]; rfl) (argsL := [(.int i_), (.int e_), (.int nz), (.ref fr)]) (rest := []) (lenOf pd_9 rfl) rfl (by show 2 * 0 + _ ≤ _; exact Nat.le_of_eq rfl) (hb hby d28_6) (fun _ _ => ⟨rfl, e3, (by decide : 0 + 0 ≤ _), (by decide : 0 + 0 ≤ _)⟩)
    dsimp only [Pt.U, Pt.locs, Pt.cells, Pt.slots] at X4 l4 y4 z4 st4 hQ4
    replace l4 := l4.symm
    subst l4 y4 z4
    obtain ⟨rfl, rfl, e4⟩ := hQ4
    first | rw [List.append_nil] at X4 | skip
    refine Goes.via st4 ?_
    have e4' : T4.heap = h0 := e4
    show Goes p e below _ (T4.setTop (mkF m 9 #[vi i_, vi e_, vi nz] [(.int i_)]))
    refine Goes.via (fun _ kk_ => XS.pop X4.here hx rfl (hb hby d28_9) rfl rfl kk_) ?_
    show Goes p e below _ (T4.setTop (mkF m 10 #[vi i_, vi e_, vi nz] []))
    exact own_finV X4 hx hlk hret (hb hby d28_10) (by rw [e4']; exact ⟨rfl, rfl, rfl⟩) (by first | decide | omega | (dsimp only; omega)) (by first | decide | omega | (dsimp only; omega))
theorem ef_rmMy (m : MethodId) (x : Int32) (y : Int32) : entryFrame m #[(.int x), (.int y)] 2 = mkF m 0 #[.val (.int x), .val (.int y)] [] := by first | (simp [entryFrame, mkF, argsToLocals, Value.category]; done) | rfl
def QrmMy (Z : State) (x : Int32) (y : Int32) (h0 : Heap) (n0 : Nat) (v_ : Option Value) (h_ : Heap) (L_ : List Loc) : Prop := v_ = some (.int y) ∧ L_ = [] ∧ h_ = h0
theorem d24_9 : decode jdk_29_method_69_code 9 = .ok (.iload_n 1, 1) := by decide +kernel
set_option maxRecDepth 65536 in
set_option maxHeartbeats 40000000 in
theorem rmMy (l : Launch) (Z : State) (a0 : Array Value) (hw : ∀ d ∈ tables_1, d.before a0 Z = true) (ws : List Jvm.Cond) (x : Int32) (y : Int32) (h0 : Heap) (n0 : Nat) (Z0 : n0 ≤ h0.size) (H0 : ¬ x < y) :
    MetFree l (⟨"java/lang/Math", "min", "(II)I"⟩ : MethodName) (head1 (Jvm.Cond.code (⟨"java/lang/Math", "min", "(II)I"⟩ : MethodName) jdk_29_method_69_code 2 (some .int) :: ws) ({ frames := 0, cells := 0, slots := 0, locals := 0 } : Room)) (fun as_ U_ => as_ = #[(.int x), (.int y)] ∧ Z.Warmed39 U_.vm ∧ U_.heap = h0) (fun _ _ _ _ _ => True) (fun _ U_ o_ V_ => ∃ v_ L_, o_ = .returned v_ ∧ QrmMy Z x y h0 n0 v_ V_.heap L_ ∧ FrameEnd U_ o_ V_ L_ ({ frames := 0, cells := 0, slots := 0, locals := 0 } : Room).cells ({ frames := 0, cells := 0, slots := 0, locals := 0 } : Room).slots) := by
  refine MetFree.of_bodySF (Jvm.Free.JP.mathPlain rfl (by decide +kernel)) hisR ?_
  intro p e s m args below meth c s₁ Bd hml0 hP hK
  obtain ⟨rfl, hZ, hh⟩ := hP
  have hx := Bd.exec
  have hby := Bd.bytes
  have hlk : meth.locks = false := BodyLoose.notSynchronized Bd
  have hret := Bd.returns
  have hml : c.maxLocals = 2 := hml0
  have hown : s.vm.findClass "java/lang/Math" = some m.cls := findClass_of_methodNamed Bd.named
  have hnm := (name_of_methodNamed Bd.named Bd.method).1
  have X0 : Stand p l e ({ frames := 0, cells := 0, slots := 0, locals := 0 } : Room) s m #[(.int x), (.int y)] below meth c s₁ [] 0 0 := Stand.of_body Bd
  have e0 : s₁.heap = h0 := by rw [← hh, Bd.state]; rfl
  have N0 := Fr.nil n0
  show Goes p e below (Fin_ s (QrmMy Z x y h0 n0) ({ frames := 0, cells := 0, slots := 0, locals := 0 } : Room).cells ({ frames := 0, cells := 0, slots := 0, locals := 0 } : Room).slots) (s₁.setTop (entryFrame m #[(.int x), (.int y)] 2))
  rw [ef_rmMy m x y]
  refine gILN X0 hx hby d24_0 rfl ?_
  refine gILN X0 hx hby d24_1 rfl ?_
  by_cases hc2 : y < x
  · skip
    refine Goes.via (fun _ kk_ => XS.icmpYes X0.here hx rfl (pc0 := 2) (pc' := 9) rfl (hb hby d24_2) rfl (tlt hc2).2.2.1 (by decide) (by decide) kk_) ?_
    show Goes p e below _ (s₁.setTop (mkF m 9 #[vi x, vi y] []))
    refine gILN X0 hx hby d24_9 rfl ?_
    exact own_finI X0 hx hlk hret (hb hby d24_10) (by rw [e0]; exact ⟨rfl, rfl, rfl⟩) (by first | decide | omega | (dsimp only; omega)) (by first | decide | omega | (dsimp only; omega))
  · skip
    refine Goes.via (fun _ kk_ => XS.icmpNo X0.here hx rfl (hb hby d24_2) rfl (flt hc2).2.2.1 kk_) ?_
    show Goes p e below _ (s₁.setTop (mkF m 5 #[vi x, vi y] []))
    refine gILN X0 hx hby d24_5 rfl ?_
    refine Goes.via (fun _ kk_ => XS.goto X0.here hx rfl (pc0 := 6) (pc' := 10) rfl (hb hby d24_6) (by decide) (by decide) kk_) ?_
    show Goes p e below _ (s₁.setTop (mkF m 10 #[vi x, vi y] [(.int x)]))
    exact own_finI X0 hx hlk hret (hb hby d24_10) (by rw [e0]; exact ⟨(own_ret (own_antis H0 hc2)), rfl, rfl⟩) (by first | decide | omega | (dsimp only; omega)) (by first | decide | omega | (dsimp only; omega))
theorem ef_rm33 (m : MethodId) (i_ : Int32) (e_ : Int32) : entryFrame m #[(.int i_), (.int e_)] 2 = mkF m 0 #[.val (.int i_), .val (.int e_)] [] := by first | (simp [entryFrame, mkF, argsToLocals, Value.category]; done) | rfl
def Qrm33 (Z : State) (i_ : Int32) (e_ : Int32) (h0 : Heap) (n0 : Nat) (v_ : Option Value) (h_ : Heap) (L_ : List Loc) : Prop := v_ = none ∧ L_ = [] ∧ h_ = h0
theorem pn_java_util_Arrays : plainName "java/util/Arrays" = true := by first | (simp [plainName, overriddenIn]; done) | decide +kernel
theorem d33_0 : decode jdk_65_method_131_code 0 = .ok (.iload_n 1, 1) := by decide +kernel
theorem d33_1 : decode jdk_65_method_131_code 1 = .ok (.iload_n 0, 1) := by decide +kernel
theorem d33_2 : decode jdk_65_method_131_code 2 = .ok (.if_icmp .ge 35, 3) := by decide +kernel
theorem d33_37 : decode jdk_65_method_131_code 37 = .ok (.return_, 1) := by decide +kernel
set_option maxRecDepth 65536 in
set_option maxHeartbeats 40000000 in
theorem rm33 (l : Launch) (Z : State) (a0 : Array Value) (hw : ∀ d ∈ tables_1, d.before a0 Z = true) (ws : List Jvm.Cond) (i_ : Int32) (e_ : Int32) (h0 : Heap) (n0 : Nat) (Z0 : n0 ≤ h0.size) (H0 : ¬ e_ < i_) :
    MetFree l (⟨"java/util/Arrays", "checkLength", "(II)V"⟩ : MethodName) (head1 (Jvm.Cond.code (⟨"java/util/Arrays", "checkLength", "(II)V"⟩ : MethodName) jdk_65_method_131_code 2 none :: ws) ({ frames := 0, cells := 0, slots := 0, locals := 0 } : Room)) (fun as_ U_ => as_ = #[(.int i_), (.int e_)] ∧ Z.Warmed39 U_.vm ∧ U_.heap = h0) (fun _ _ _ _ _ => True) (fun _ U_ o_ V_ => ∃ v_ L_, o_ = .returned v_ ∧ Qrm33 Z i_ e_ h0 n0 v_ V_.heap L_ ∧ FrameEnd U_ o_ V_ L_ ({ frames := 0, cells := 0, slots := 0, locals := 0 } : Room).cells ({ frames := 0, cells := 0, slots := 0, locals := 0 } : Room).slots) := by
  refine MetFree.of_bodySF (plainFor_of_name pn_java_util_Arrays) hisR ?_
  intro p e s m args below meth c s₁ Bd hml0 hP hK
  obtain ⟨rfl, hZ, hh⟩ := hP
  have hx := Bd.exec
  have hby := Bd.bytes
  have hlk : meth.locks = false := BodyLoose.notSynchronized Bd
  have hret := Bd.returns
  have hml : c.maxLocals = 2 := hml0
  have hown : s.vm.findClass "java/util/Arrays" = some m.cls := findClass_of_methodNamed Bd.named
  have hnm := (name_of_methodNamed Bd.named Bd.method).1
  have X0 : Stand p l e ({ frames := 0, cells := 0, slots := 0, locals := 0 } : Room) s m #[(.int i_), (.int e_)] below meth c s₁ [] 0 0 := Stand.of_body Bd
  have e0 : s₁.heap = h0 := by rw [← hh, Bd.state]; rfl
  have N0 := Fr.nil n0
  show Goes p e below (Fin_ s (Qrm33 Z i_ e_ h0 n0) ({ frames := 0, cells := 0, slots := 0, locals := 0 } : Room).cells ({ frames := 0, cells := 0, slots := 0, locals := 0 } : Room).slots) (s₁.setTop (entryFrame m #[(.int i_), (.int e_)] 2))
  rw [ef_rm33 m i_ e_]
  refine gILN X0 hx hby d33_0 rfl ?_
  refine gILN X0 hx hby d33_1 rfl ?_
  have hc2_1 : ¬ (e_ < i_) := H0
  refine Goes.via (fun _ kk_ => XS.icmpYes X0.here hx rfl (pc0 := 2) (pc' := 37) rfl (hb hby d33_2) rfl (flt hc2_1).2.1 (by decide) (by decide) kk_) ?_
  show Goes p e below _ (s₁.setTop (mkF m 37 #[vi i_, vi e_] []))
  exact own_finV X0 hx hlk hret (hb hby d33_37) (by rw [e0]; exact ⟨rfl, rfl, rfl⟩) (by first | decide | omega | (dsimp only; omega)) (by first | decide | omega | (dsimp only; omega))
theorem ef_rm32 (m : MethodId) (b : Addr) (i_ : Int32) (e_ : Int32) : entryFrame m #[(.ref b), (.int i_), (.int e_)] 5 = mkF m 0 #[.val (.ref b), .val (.int i_), .val (.int e_), .unset, .unset] [] := by first | (simp [entryFrame, mkF, argsToLocals, Value.category]; done) | rfl
def Qrm32 (Z : State) (b : Addr) (i_ : Int32) (e_ : Int32) (kc : ClassId) (N : Nat) (g : Nat → Int32) (nz : Int32) (q : Nat) (M : Nat) (h0 : Heap) (n0 : Nat) (v_ : Option Value) (h_ : Heap) (L_ : List Loc) : Prop := ∃ nb : Addr, ∃ kb : ClassId, v_ = some (.ref nb) ∧ Fr n0 L_ ∧ Keep h0 h_ [] ∧ h0.size ≤ nb ∧ Arw Z h_ nb kb .byte M (fun i => .int ((fun i => g (q + i)) i))
theorem d32_0 : decode jdk_65_method_133_code 0 = .ok (.iload_n 1, 1) := by decide +kernel
theorem d32_1 : decode jdk_65_method_133_code 1 = .ok (.iload_n 2, 1) := by decide +kernel
theorem d32_2 : decode jdk_65_method_133_code 2 = .ok (.invokestatic 343, 3) := by decide +kernel
theorem d32_5 : decode jdk_65_method_133_code 5 = .ok (.iload_n 2, 1) := by decide +kernel
theorem d32_6 : decode jdk_65_method_133_code 6 = .ok (.iload_n 1, 1) := by decide +kernel
theorem d32_7 : decode jdk_65_method_133_code 7 = .ok (.isub, 1) := by decide +kernel
theorem d32_8 : decode jdk_65_method_133_code 8 = .ok (.istore_n 3, 1) := by decide +kernel
theorem d32_9 : decode jdk_65_method_133_code 9 = .ok (.iload_n 3, 1) := by decide +kernel
theorem d32_10 : decode jdk_65_method_133_code 10 = .ok (.newarray .byte, 2) := by decide +kernel
theorem d32_12 : decode jdk_65_method_133_code 12 = .ok (.astore 4, 2) := by decide +kernel
theorem d32_14 : decode jdk_65_method_133_code 14 = .ok (.aload_n 0, 1) := by decide +kernel
theorem d32_15 : decode jdk_65_method_133_code 15 = .ok (.iload_n 1, 1) := by decide +kernel
theorem d32_16 : decode jdk_65_method_133_code 16 = .ok (.aload 4, 2) := by decide +kernel
theorem d32_18 : decode jdk_65_method_133_code 18 = .ok (.iconst 0, 1) := by decide +kernel
theorem d32_19 : decode jdk_65_method_133_code 19 = .ok (.aload_n 0, 1) := by decide +kernel
theorem d32_20 : decode jdk_65_method_133_code 20 = .ok (.arraylength, 1) := by decide +kernel
theorem d32_21 : decode jdk_65_method_133_code 21 = .ok (.iload_n 1, 1) := by decide +kernel
theorem d32_22 : decode jdk_65_method_133_code 22 = .ok (.isub, 1) := by decide +kernel
theorem d32_23 : decode jdk_65_method_133_code 23 = .ok (.iload_n 3, 1) := by decide +kernel
theorem d32_24 : decode jdk_65_method_133_code 24 = .ok (.invokestatic 304, 3) := by decide +kernel
theorem d32_27 : decode jdk_65_method_133_code 27 = .ok (.invokestatic 150, 3) := by decide +kernel
theorem d32_30 : decode jdk_65_method_133_code 30 = .ok (.aload 4, 2) := by decide +kernel
theorem d32_32 : decode jdk_65_method_133_code 32 = .ok (.areturn, 1) := by decide +kernel
set_option maxRecDepth 65536 in
set_option maxHeartbeats 40000000 in
theorem rm32 (l : Launch) (Z : State) (a0 : Array Value) (hw : ∀ d ∈ tables_1, d.before a0 Z = true) (ws : List Jvm.Cond) (b : Addr) (i_ : Int32) (e_ : Int32) (kc : ClassId) (N : Nat) (g : Nat → Int32) (nz : Int32) (q : Nat) (M : Nat) (h0 : Heap) (n0 : Nat) (Z0 : n0 ≤ h0.size) (A0_b : Arw Z h0 b kc .byte N (fun i => .int (g i))) (Hnz : nz.toInt = (N : Int)) (Hq : i_.toInt = (q : Int)) (He : e_.toInt = ((q + M : Nat) : Int)) (HqM : q + M ≤ N) (Hq0 : 0 < q) (HM0 : 0 < M) (HM16 : M ≤ 16) :
    MetFree l (⟨"java/util/Arrays", "copyOfRangeByte", "([BII)[B"⟩ : MethodName) (head1 (Jvm.Cond.code (⟨"java/util/Arrays", "copyOfRangeByte", "([BII)[B"⟩ : MethodName) jdk_65_method_133_code 5 (some (.array .byte)) :: ws) ({ frames := 1, cells := 1, slots := 16, locals := 36 } : Room)) (fun as_ U_ => as_ = #[(.ref b), (.int i_), (.int e_)] ∧ Z.Warmed39 U_.vm ∧ U_.heap = h0) (fun _ _ _ _ _ => True) (fun _ U_ o_ V_ => ∃ v_ L_, o_ = .returned v_ ∧ Qrm32 Z b i_ e_ kc N g nz q M h0 n0 v_ V_.heap L_ ∧ FrameEnd U_ o_ V_ L_ ({ frames := 1, cells := 1, slots := 16, locals := 36 } : Room).cells ({ frames := 1, cells := 1, slots := 16, locals := 36 } : Room).slots) := by
  refine MetFree.of_bodySF (plainFor_of_name pn_java_util_Arrays) hisR ?_
  intro p e s m args below meth c s₁ Bd hml0 hP hK
  obtain ⟨rfl, hZ, hh⟩ := hP
  have hx := Bd.exec
  have hby := Bd.bytes
  have hlk : meth.locks = false := BodyLoose.notSynchronized Bd
  have hret := Bd.returns
  have hml : c.maxLocals = 5 := hml0
  have hown : s.vm.findClass "java/util/Arrays" = some m.cls := findClass_of_methodNamed Bd.named
  have hnm := (name_of_methodNamed Bd.named Bd.method).1
  have X0 : Stand p l e ({ frames := 1, cells := 1, slots := 16, locals := 36 } : Room) s m #[(.ref b), (.int i_), (.int e_)] below meth c s₁ [] 0 0 := Stand.of_body Bd
  have e0 : s₁.heap = h0 := by rw [← hh, Bd.state]; rfl
  have N0 := Fr.nil n0
  show Goes p e below (Fin_ s (Qrm32 Z b i_ e_ kc N g nz q M h0 n0) ({ frames := 1, cells := 1, slots := 16, locals := 36 } : Room).cells ({ frames := 1, cells := 1, slots := 16, locals := 36 } : Room).slots) (s₁.setTop (entryFrame m #[(.ref b), (.int i_), (.int e_)] 5))
  rw [ef_rm32 m b i_ e_]
  refine gILN X0 hx hby d32_0 rfl ?_
  refine gILN X0 hx hby d32_1 rfl ?_
  obtain ⟨_, _, ⟨T1, L1, k1, n1⟩, -, X1, ⟨Lc1, hQ1, l1, y1, z1⟩, st1⟩ := Jvm.LawKit.callS X0 hx (y := (⟨"java/util/Arrays", "checkLength", "(II)V"⟩ : MethodName)) hown (mvT hZ (own_w hw 138 rfl)) (mvT hZ (own_w hw 139 rfl)) (mvT hZ (own_w hw 133 rfl)) (mvT hZ (own_w hw 140 rfl)) (by decide) (backOf (W := 0) (rm33 l Z a0 hw [] i_ e_ h0 n0 (Nat.le_trans Z0 (Nat.le_refl _)) (own_nlt Hq He (Nat.le_add_right _ _))) hZ (own_w hw 140 rfl) (own_w hw 133 rfl) (by decide) (by decide)) (g := (mkF m 2 #[vr b, vi i_, vi e_, .unset, .unset] [(.int e_), (.int i_)])) rfl (by rw [hml]; rfl) (argsL := [(.int i_), (.int e_)]) (rest := []) (lenOf pd_2 rfl) rfl (by show 2 * 0 + _ ≤ _; exact Nat.le_of_eq rfl) (hb hby d32_2) (fun _ _ => ⟨rfl, e0, (by decide : 0 + 0 ≤ _), (by decide : 0 + 0 ≤ _)⟩)
  dsimp only [Pt.U, Pt.locs, Pt.cells, Pt.slots] at X1 l1 y1 z1 st1 hQ1
  replace l1 := l1.symm
  subst l1 y1 z1
  obtain ⟨rfl, rfl, e1⟩ := hQ1
  first | rw [List.append_nil] at X1 | skip
  refine Goes.via st1 ?_
  have e1' : T1.heap = h0 := e1
  show Goes p e below _ (T1.setTop (mkF m 5 #[vr b, vi i_, vi e_, .unset, .unset] []))
  refine gILN X1 hx hby d32_5 rfl ?_
  refine gILN X1 hx hby d32_6 rfl ?_
  refine Goes.via (fun _ kk_ => XS.isub X1.here hx rfl (hb hby d32_7) rfl kk_) ?_
  show Goes p e below _ (T1.setTop (mkF m 8 #[vr b, vi i_, vi e_, .unset, .unset] [(.int (e_ - i_))]))
  refine Goes.via (fun _ kk_ => XS.istoreN X1.here hx rfl (hb hby d32_8) rfl (l' := #[vr b, vi i_, vi e_, vi (e_ - i_), .unset]) rfl kk_) ?_
  show Goes p e below _ (T1.setTop (mkF m 9 #[vr b, vi i_, vi e_, vi (e_ - i_), .unset] []))
  have hM : (e_ - i_).toInt = (M : Int) := by have z := own_sbi He Hq (Nat.le_add_right _ _); rwa [Nat.add_sub_cancel_left] at z
  refine gILN X1 hx hby d32_9 rfl ?_
  obtain ⟨T2, h2, k2, X2, e2, E2, A2, st2⟩ := own_newP X1 hx hZ (own_w hw 8 rfl) e1' (g := (mkF m 10 #[vr b, vi i_, vi e_, vi (e_ - i_), .unset] [(.int (e_ - i_))])) rfl (hb hby d32_10) rfl (n := (e_ - i_)) (N := M) (own_ix hM).1 (own_ix hM).2 (cap := 16) (by first | decide | omega | (dsimp only; omega)) (by first | decide | omega | (dsimp only; omega)) (by first | decide | omega | (dsimp only; omega)) (by first | decide | omega | (dsimp only; omega))
  obtain ⟨b2, g2⟩ : ∃ z, z = (h0).size := ⟨_, rfl⟩
  rw [← g2] at A2 st2
  have lne3 : b < b2 := Nat.lt_of_lt_of_le A0_b.lt (Nat.le_of_eq g2.symm)
  have ne3 : b ≠ b2 := Nat.ne_of_lt lne3
  have sz_b2 : h0.size ≤ b2 := Nat.le_trans (Nat.le_refl _) (Nat.le_of_eq g2.symm)
  have gn_b2 : n0 ≤ b2 := Nat.le_trans Z0 sz_b2
  refine Goes.via st2 ?_
  show Goes p e below _ (T2.setTop (mkF m 12 #[vr b, vi i_, vi e_, vi (e_ - i_), .unset] [(.ref b2)]))
  refine Goes.via (fun _ kk_ => XS.astore X2.here hx rfl (hb hby d32_12) rfl rfl (l' := #[vr b, vi i_, vi e_, vi (e_ - i_), vr b2]) rfl kk_) ?_
  show Goes p e below _ (T2.setTop (mkF m 14 #[vr b, vi i_, vi e_, vi (e_ - i_), vr b2] []))
  refine gALN X2 hx hby d32_14 rfl rfl ?_
  refine gILN X2 hx hby d32_15 rfl ?_
  refine gAL X2 hx hby d32_16 rfl rfl ?_
  refine gIC (z := 0) X2 hx hby d32_18 rfl ?_
  refine gALN X2 hx hby d32_19 rfl rfl ?_
  have f4 : Arw Z h2 b kc .byte N (fun i => .int (g i)) := (A0_b.ext E2)
  refine Goes.via (own_alen X2 hx hZ e2 f4 (g := (mkF m 20 #[vr b, vi i_, vi e_, vi (e_ - i_), vr b2] [(.ref b), (.int (0 : Int32)), (.ref b2), (.int i_), (.ref b)])) rfl rfl (hb hby d32_20)) ?_
  rw [show (N : Nat).toInt32 = nz from (own_nz Hnz)]
  show Goes p e below _ (T2.setTop (mkF m 21 #[vr b, vi i_, vi e_, vi (e_ - i_), vr b2] [(.int nz), (.int (0 : Int32)), (.ref b2), (.int i_), (.ref b)]))
  refine gILN X2 hx hby d32_21 rfl ?_
  refine Goes.via (fun _ kk_ => XS.isub X2.here hx rfl (hb hby d32_22) rfl kk_) ?_
  show Goes p e below _ (T2.setTop (mkF m 23 #[vr b, vi i_, vi e_, vi (e_ - i_), vr b2] [(.int (nz - i_)), (.int (0 : Int32)), (.ref b2), (.int i_), (.ref b)]))
  refine gILN X2 hx hby d32_23 rfl ?_
  have z6 : h0.size ≤ (h2).size := (Nat.le_trans (Nat.le_refl _) E2.1)
  obtain ⟨_, _, ⟨T5, L5, k5, n5⟩, -, X5, ⟨Lc5, hQ5, l5, y5, z5⟩, st5⟩ := Jvm.LawKit.callS X2 hx (y := (⟨"java/lang/Math", "min", "(II)I"⟩ : MethodName)) hown (mvT hZ (own_w hw 141 rfl)) (mvT hZ (own_w hw 106 rfl)) (mvT hZ (own_w hw 103 rfl)) (mvT hZ (own_w hw 107 rfl)) (by decide) (backOf (W := 4) (rmMy l Z a0 hw [] (nz - i_) (e_ - i_) h2 n0 (Nat.le_trans Z0 z6) (own_nlt hM (own_sbi Hnz Hq (by omega)) (by omega))) hZ (own_w hw 107 rfl) (own_w hw 103 rfl) (by decide) (by decide)) (g := (mkF m 24 #[vr b, vi i_, vi e_, vi (e_ - i_), vr b2] [(.int (e_ - i_)), (.int (nz - i_)), (.int (0 : Int32)), (.ref b2), (.int i_), (.ref b)])) rfl (by rw [hml]; rfl) (argsL := [(.int (nz - i_)), (.int (e_ - i_))]) (rest := [(.int (0 : Int32)), (.ref b2), (.int i_), (.ref b)]) (lenOf pd_6 rfl) rfl (by show 2 * 0 + _ ≤ _; exact Nat.le_of_eq rfl) (hb hby d32_24) (fun _ _ => ⟨rfl, e2, (by decide : 1 + 0 ≤ _), (by decide : 16 + 0 ≤ _)⟩)
  dsimp only [Pt.U, Pt.locs, Pt.cells, Pt.slots] at X5 l5 y5 z5 st5 hQ5
  replace l5 := l5.symm
  subst l5 y5 z5
  obtain ⟨rfl, rfl, e5⟩ := hQ5
  first | rw [List.append_nil] at X5 | skip
  refine Goes.via st5 ?_
  have e5' : T5.heap = h2 := e5
  show Goes p e below _ (T5.setTop (mkF m 27 #[vr b, vi i_, vi e_, vi (e_ - i_), vr b2] [(.int (e_ - i_)), (.int (0 : Int32)), (.ref b2), (.int i_), (.ref b)]))
  obtain ⟨T7, h7, L7, X7, e7, N7, K7, A7, st7⟩ := own_cpW X5 hx hZ hown (own_w hw 142 rfl) (own_w hw 145 rfl) (own_w hw 143 rfl) (own_w hw 144 rfl) e5' f4 A2 Hnz Hq hM HqM N0 gn_b2 (g := (mkF m 27 #[vr b, vi i_, vi e_, vi (e_ - i_), vr b2] [(.int (e_ - i_)), (.int (0 : Int32)), (.ref b2), (.int i_), (.ref b)])) rfl (by rw [hml]; rfl) rfl (hb hby d32_27) (by decide) (W := 0) (by show 2 * 0 + _ ≤ _; exact Nat.le_of_eq rfl) (by decide)
  refine Goes.via st7 ?_
  show Goes p e below _ (T7.setTop (mkF m 30 #[vr b, vi i_, vi e_, vi (e_ - i_), vr b2] []))
  refine gAL X7 hx hby d32_30 rfl rfl ?_
  have K8 : Keep h0 h7 [] := (((Keep.refl h0 []).ext E2).trans K7 (allS (Or.inr sz_b2) all0))
  exact own_finR X7 hx hlk hret rfl rfl rfl (hb hby d32_32) (by rw [e7]; exact ⟨b2, k2, rfl, N7, K8, sz_b2, A7⟩) (by first | decide | omega | (dsimp only; omega)) (by first | decide | omega | (dsimp only; omega))
theorem ef_rm31 (m : MethodId) (b : Addr) (i_ : Int32) (e_ : Int32) : entryFrame m #[(.ref b), (.int i_), (.int e_)] 3 = mkF m 0 #[.val (.ref b), .val (.int i_), .val (.int e_)] [] := by first | (simp [entryFrame, mkF, argsToLocals, Value.category]; done) | rfl
def Qrm31 (Z : State) (b : Addr) (i_ : Int32) (e_ : Int32) (kc : ClassId) (N : Nat) (g : Nat → Int32) (nz : Int32) (q : Nat) (M : Nat) (h0 : Heap) (n0 : Nat) (v_ : Option Value) (h_ : Heap) (L_ : List Loc) : Prop := ∃ nb : Addr, ∃ kb : ClassId, v_ = some (.ref nb) ∧ Fr n0 L_ ∧ Keep h0 h_ [] ∧ h0.size ≤ nb ∧ Arw Z h_ nb kb .byte M (fun i => .int ((fun i => g (q + i)) i))
theorem d31_0 : decode jdk_65_method_132_code 0 = .ok (.iload_n 1, 1) := by decide +kernel
theorem d31_1 : decode jdk_65_method_132_code 1 = .ok (.ifCond .ne 9, 3) := by decide +kernel
theorem d31_10 : decode jdk_65_method_132_code 10 = .ok (.aload_n 0, 1) := by decide +kernel
theorem d31_11 : decode jdk_65_method_132_code 11 = .ok (.iload_n 1, 1) := by decide +kernel
theorem d31_12 : decode jdk_65_method_132_code 12 = .ok (.iload_n 2, 1) := by decide +kernel
theorem pd_10 : parseMethodDescriptor "([BII)[B" = some ⟨[(.array .byte), .int, .int], some (.array .byte)⟩ := by decide +kernel
theorem d31_13 : decode jdk_65_method_132_code 13 = .ok (.invokestatic 339, 3) := by decide +kernel
theorem d31_16 : decode jdk_65_method_132_code 16 = .ok (.areturn, 1) := by decide +kernel
set_option maxRecDepth 65536 in
set_option maxHeartbeats 40000000 in
theorem rm31 (l : Launch) (Z : State) (a0 : Array Value) (hw : ∀ d ∈ tables_1, d.before a0 Z = true) (ws : List Jvm.Cond) (b : Addr) (i_ : Int32) (e_ : Int32) (kc : ClassId) (N : Nat) (g : Nat → Int32) (nz : Int32) (q : Nat) (M : Nat) (h0 : Heap) (n0 : Nat) (Z0 : n0 ≤ h0.size) (A0_b : Arw Z h0 b kc .byte N (fun i => .int (g i))) (Hnz : nz.toInt = (N : Int)) (Hq : i_.toInt = (q : Int)) (He : e_.toInt = ((q + M : Nat) : Int)) (HqM : q + M ≤ N) (Hq0 : 0 < q) (HM0 : 0 < M) (HM16 : M ≤ 16) :
    MetFree l (⟨"java/util/Arrays", "copyOfRange", "([BII)[B"⟩ : MethodName) (head1 (Jvm.Cond.code (⟨"java/util/Arrays", "copyOfRange", "([BII)[B"⟩ : MethodName) jdk_65_method_132_code 3 (some (.array .byte)) :: ws) ({ frames := 2, cells := 1, slots := 16, locals := 52 } : Room)) (fun as_ U_ => as_ = #[(.ref b), (.int i_), (.int e_)] ∧ Z.Warmed39 U_.vm ∧ U_.heap = h0) (fun _ _ _ _ _ => True) (fun _ U_ o_ V_ => ∃ v_ L_, o_ = .returned v_ ∧ Qrm31 Z b i_ e_ kc N g nz q M h0 n0 v_ V_.heap L_ ∧ FrameEnd U_ o_ V_ L_ ({ frames := 2, cells := 1, slots := 16, locals := 52 } : Room).cells ({ frames := 2, cells := 1, slots := 16, locals := 52 } : Room).slots) := by
  refine MetFree.of_bodySF (plainFor_of_name pn_java_util_Arrays) hisR ?_
  intro p e s m args below meth c s₁ Bd hml0 hP hK
  obtain ⟨rfl, hZ, hh⟩ := hP
  have hx := Bd.exec
  have hby := Bd.bytes
  have hlk : meth.locks = false := BodyLoose.notSynchronized Bd
  have hret := Bd.returns
  have hml : c.maxLocals = 3 := hml0
  have hown : s.vm.findClass "java/util/Arrays" = some m.cls := findClass_of_methodNamed Bd.named
  have hnm := (name_of_methodNamed Bd.named Bd.method).1
  have X0 : Stand p l e ({ frames := 2, cells := 1, slots := 16, locals := 52 } : Room) s m #[(.ref b), (.int i_), (.int e_)] below meth c s₁ [] 0 0 := Stand.of_body Bd
  have e0 : s₁.heap = h0 := by rw [← hh, Bd.state]; rfl
  have N0 := Fr.nil n0
  show Goes p e below (Fin_ s (Qrm31 Z b i_ e_ kc N g nz q M h0 n0) ({ frames := 2, cells := 1, slots := 16, locals := 52 } : Room).cells ({ frames := 2, cells := 1, slots := 16, locals := 52 } : Room).slots) (s₁.setTop (entryFrame m #[(.ref b), (.int i_), (.int e_)] 3))
  rw [ef_rm31 m b i_ e_]
  refine gILN X0 hx hby d31_0 rfl ?_
  have hc1_1 : ¬ (i_ = (0 : Int32)) := (own_nz0 Hq Hq0)
  refine Goes.via (fun _ kk_ => XS.ifYes X0.here hx rfl (pc0 := 1) (pc' := 10) rfl (hb hby d31_1) rfl ((if0 _ _).trans (feq hc1_1).2) (by decide) (by decide) kk_) ?_
  show Goes p e below _ (s₁.setTop (mkF m 10 #[vr b, vi i_, vi e_] []))
  refine gALN X0 hx hby d31_10 rfl rfl ?_
  refine gILN X0 hx hby d31_11 rfl ?_
  refine gILN X0 hx hby d31_12 rfl ?_
  obtain ⟨_, _, ⟨T2, L2, k2, n2⟩, -, X2, ⟨Lc2, hQ2, l2, y2, z2⟩, st2⟩ := Jvm.LawKit.callS X0 hx (y := (⟨"java/util/Arrays", "copyOfRangeByte", "([BII)[B"⟩ : MethodName)) hown (mvT hZ (own_w hw 135 rfl)) (mvT hZ (own_w hw 136 rfl)) (mvT hZ (own_w hw 133 rfl)) (mvT hZ (own_w hw 137 rfl)) (by decide) (backOf (W := 0) (rm32 l Z a0 hw [] b i_ e_ kc N g nz q M h0 n0 (Nat.le_trans Z0 (Nat.le_refl _)) A0_b Hnz Hq He HqM Hq0 HM0 HM16) hZ (own_w hw 137 rfl) (own_w hw 133 rfl) (by decide) (by decide)) (g := (mkF m 13 #[vr b, vi i_, vi e_] [(.int e_), (.int i_), (.ref b)])) rfl (by rw [hml]; rfl) (argsL := [(.ref b), (.int i_), (.int e_)]) (rest := []) (lenOf pd_10 rfl) rfl (by show 2 * 0 + _ ≤ _; exact Nat.le_of_eq rfl) (hb hby d31_13) (fun _ _ => ⟨rfl, e0, (by decide : 0 + 1 ≤ _), (by decide : 0 + 16 ≤ _)⟩)
  dsimp only [Pt.U, Pt.locs, Pt.cells, Pt.slots] at X2 l2 y2 z2 st2 hQ2
  replace l2 := l2.symm
  subst l2 y2 z2
  obtain ⟨nb2, kb2, rfl, N2q, K2, u2_0, u2_1⟩ := hQ2
  have N2 := Fr.app N0 N2q
  refine Goes.via st2 ?_
  have ne3 : b ≠ nb2 := Nat.ne_of_lt (Nat.lt_of_lt_of_le A0_b.lt u2_0)
  have sz_nb2 : h0.size ≤ nb2 := Nat.le_trans (Nat.le_refl _) u2_0
  have gn_nb2 : n0 ≤ nb2 := Nat.le_trans Z0 sz_nb2
  -- u2_0 : h0.size ≤ nb2
  show Goes p e below _ (T2.setTop (mkF m 16 #[vr b, vi i_, vi e_] [(.ref nb2)]))
  have K4 : Keep h0 T2.heap [] := ((Keep.refl h0 []).trans K2 all0)
  exact own_finR X2 hx hlk hret rfl rfl rfl (hb hby d31_16) (by exact ⟨nb2, kb2, rfl, N2, K4, sz_nb2, u2_1⟩) (by first | decide | omega | (dsimp only; omega)) (by first | decide | omega | (dsimp only; omega))
theorem ef_rmBB (m : MethodId) (a : Addr) (b : Addr) : entryFrame m #[(.ref a), (.ref b), (.int (0 : Int32))] 3 = mkF m 0 #[.val (.ref a), .val (.ref b), .val (.int (0 : Int32))] [] := by first | (simp [entryFrame, mkF, argsToLocals, Value.category]; done) | rfl
def QrmBB (Z : State) (a : Addr) (b : Addr) (h0 : Heap) (n0 : Nat) (v_ : Option Value) (h_ : Heap) (L_ : List Loc) : Prop := v_ = none ∧ Fr n0 L_ ∧ Keep h0 h_ [a] ∧ Exa Z h_ a "java/lang/String" ∧ Fld Z h_ a "java/lang/String" "coder" "B" (.int (0 : Int32)) ∧ Fld Z h_ a "java/lang/String" "value" "[B" (.ref b)
theorem d34_0 : decode jdk_42_method_151_code 0 = .ok (.aload_n 0, 1) := by decide +kernel
theorem d34_1 : decode jdk_42_method_151_code 1 = .ok (.invokespecial 1, 3) := by decide +kernel
theorem d34_4 : decode jdk_42_method_151_code 4 = .ok (.aload_n 0, 1) := by decide +kernel
theorem d34_5 : decode jdk_42_method_151_code 5 = .ok (.aload_n 1, 1) := by decide +kernel
theorem d34_6 : decode jdk_42_method_151_code 6 = .ok (.putfield 9, 3) := by decide +kernel
theorem d34_9 : decode jdk_42_method_151_code 9 = .ok (.aload_n 0, 1) := by decide +kernel
theorem d34_10 : decode jdk_42_method_151_code 10 = .ok (.iload_n 2, 1) := by decide +kernel
theorem d34_11 : decode jdk_42_method_151_code 11 = .ok (.putfield 15, 3) := by decide +kernel
theorem d34_14 : decode jdk_42_method_151_code 14 = .ok (.return_, 1) := by decide +kernel
set_option maxRecDepth 65536 in
set_option maxHeartbeats 40000000 in
theorem rmBB (l : Launch) (Z : State) (a0 : Array Value) (hw : ∀ d ∈ tables_1, d.before a0 Z = true) (ws : List Jvm.Cond) (a : Addr) (b : Addr) (h0 : Heap) (n0 : Nat) (Z0 : n0 ≤ h0.size) (E0_a : Exa Z h0 a "java/lang/String") (F1_a_value : Fld Z h0 a "java/lang/String" "value" "[B" .null) (F2_a_coder : Fld Z h0 a "java/lang/String" "coder" "B" (.int (0 : Int32))) (H3 : n0 ≤ a) :
    MetFree l (⟨"java/lang/String", "<init>", "([BB)V"⟩ : MethodName) (head1 (Jvm.Cond.code (⟨"java/lang/String", "<init>", "([BB)V"⟩ : MethodName) jdk_42_method_151_code 3 none :: ws) ({ frames := 1, cells := 0, slots := 0, locals := 12 } : Room)) (fun as_ U_ => as_ = #[(.ref a), (.ref b), (.int (0 : Int32))] ∧ Z.Warmed39 U_.vm ∧ U_.heap = h0) (fun _ _ _ _ _ => True) (fun _ U_ o_ V_ => ∃ v_ L_, o_ = .returned v_ ∧ QrmBB Z a b h0 n0 v_ V_.heap L_ ∧ FrameEnd U_ o_ V_ L_ ({ frames := 1, cells := 0, slots := 0, locals := 12 } : Room).cells ({ frames := 1, cells := 0, slots := 0, locals := 12 } : Room).slots) := by
  refine MetFree.of_bodySF (plainFor_of_name pn_java_lang_String) hisR ?_
  intro p e s m args below meth c s₁ Bd hml0 hP hK
  obtain ⟨rfl, hZ, hh⟩ := hP
  have hx := Bd.exec
  have hby := Bd.bytes
  have hlk : meth.locks = false := BodyLoose.notSynchronized Bd
  have hret := Bd.returns
  have hml : c.maxLocals = 3 := hml0
  have hown : s.vm.findClass "java/lang/String" = some m.cls := findClass_of_methodNamed Bd.named
  have hnm := (name_of_methodNamed Bd.named Bd.method).1
  have X0 : Stand p l e ({ frames := 1, cells := 0, slots := 0, locals := 12 } : Room) s m #[(.ref a), (.ref b), (.int (0 : Int32))] below meth c s₁ [] 0 0 := Stand.of_body Bd
  have e0 : s₁.heap = h0 := by rw [← hh, Bd.state]; rfl
  have N0 := Fr.nil n0
  show Goes p e below (Fin_ s (QrmBB Z a b h0 n0) ({ frames := 1, cells := 0, slots := 0, locals := 12 } : Room).cells ({ frames := 1, cells := 0, slots := 0, locals := 12 } : Room).slots) (s₁.setTop (entryFrame m #[(.ref a), (.ref b), (.int (0 : Int32))] 3))
  rw [ef_rmBB m a b]
  refine gALN X0 hx hby d34_0 rfl rfl ?_
  obtain ⟨T1, X1, e1, st1⟩ := initO X0 hx hZ hown (own_w hw 60 rfl) (own_w hw 61 rfl) (own_w hw 62 rfl) e0 (g := (mkF m 1 #[vr a, vr b, vi (0 : Int32)] [(.ref a)])) rfl (by rw [hml]; rfl) rfl (hb hby d34_1) (by decide) (W := 0) (by show 2 * 0 + _ ≤ _; exact Nat.le_of_eq rfl) (by decide)
  refine Goes.via st1 ?_
  show Goes p e below _ (T1.setTop (mkF m 4 #[vr a, vr b, vi (0 : Int32)] []))
  refine gALN X1 hx hby d34_4 rfl rfl ?_
  refine gALN X1 hx hby d34_5 rfl rfl ?_
  obtain ⟨T2, h2, X2, e2, W2, st2⟩ := putF X1 hx hZ hown (host := "") (Or.inl (own_w hw 25 rfl)) Via.refl e1 F1_a_value E0_a (Or.inr ⟨(own_w hw 9 rfl), rfl, hnm⟩) (own_w hw 7 rfl) (ty := (.array .byte)) (by decide) rfl rfl (g := (mkF m 6 #[vr a, vr b, vi (0 : Int32)] [(.ref b), (.ref a)])) rfl rfl (hb hby d34_6)
  refine Goes.via st2 ?_
  have N2 := Fr.snoc X2 N0 H3
  have Fw2 : Fld Z h2 a "java/lang/String" "value" "[B" (.ref b) := F1_a_value.same W2
  show Goes p e below _ (T2.setTop (mkF m 9 #[vr a, vr b, vi (0 : Int32)] []))
  refine gALN X2 hx hby d34_9 rfl rfl ?_
  refine gILN X2 hx hby d34_10 rfl ?_
  have f3 : Fld Z h2 a "java/lang/String" "coder" "B" (.int (0 : Int32)) := (F2_a_coder.other W2 (Or.inr (slot_ne (Or.inr (own_w hw 10 rfl)) (Or.inr (own_w hw 9 rfl)) (by decide) (t := .byte) (t' := (.array .byte)) (by decide) (by decide))))
  have f4 : Exa Z h2 a "java/lang/String" := (E0_a.wr W2)
  obtain ⟨T5, h5, X5, e5, W5, st5⟩ := putFN X2 hx hZ hown (own_w hw 24 rfl) Via.refl e2 f3 f4 (Or.inr ⟨(own_w hw 10 rfl), rfl, hnm⟩) (own_w hw 7 rfl) (ty := .byte) (v' := (.int (0 : Int32))) (by decide) rfl (by first | exact fits_nar_byte _ | decide) (g := (mkF m 11 #[vr a, vr b, vi (0 : Int32)] [(.int (0 : Int32)), (.ref a)])) rfl rfl (hb hby d34_11)
  refine Goes.via st5 ?_
  have N5 := Fr.snoc X5 N2 H3
  have Fw5 : Fld Z h5 a "java/lang/String" "coder" "B" (.int (0 : Int32)) := f3.same W5
  show Goes p e below _ (T5.setTop (mkF m 14 #[vr a, vr b, vi (0 : Int32)] []))
  have K6 : Keep h0 h5 [a] := (((Keep.refl h0 [a]).wr W2 (Or.inl (List.mem_of_getElem? (i := 0) rfl))).wr W5 (Or.inl (List.mem_of_getElem? (i := 0) rfl)))
  have f7 : Exa Z h5 a "java/lang/String" := (f4.wr W5)
  have f8 : Fld Z h5 a "java/lang/String" "value" "[B" (.ref b) := (Fw2.other W5 (Or.inr (slot_ne (Or.inr (own_w hw 9 rfl)) (Or.inr (own_w hw 10 rfl)) (by decide) (t := (.array .byte)) (t' := .byte) (by decide) (by decide))))
  exact own_finV X5 hx hlk hret (hb hby d34_14) (by rw [e5]; exact ⟨rfl, N5, K6, f7, Fw5, f8⟩) (by first | decide | omega | (dsimp only; omega)) (by first | decide | omega | (dsimp only; omega))
theorem ef_rm30 (m : MethodId) (b : Addr) (i_ : Int32) (ln : Int32) : entryFrame m #[(.ref b), (.int i_), (.int ln)] 3 = mkF m 0 #[.val (.ref b), .val (.int i_), .val (.int ln)] [] := by first | (simp [entryFrame, mkF, argsToLocals, Value.category]; done) | rfl
def Qrm30 (Z : State) (b : Addr) (i_ : Int32) (ln : Int32) (kc : ClassId) (N : Nat) (g : Nat → Int32) (nz : Int32) (q : Nat) (M : Nat) (h0 : Heap) (n0 : Nat) (v_ : Option Value) (h_ : Heap) (L_ : List Loc) : Prop := ∃ r_ : Addr, ∃ nb : Addr, ∃ kb : ClassId, v_ = some (.ref r_) ∧ Fr n0 L_ ∧ Keep h0 h_ [] ∧ h0.size ≤ r_ ∧ Exa Z h_ r_ "java/lang/String" ∧ Fld Z h_ r_ "java/lang/String" "coder" "B" (.int (0 : Int32)) ∧ Fld Z h_ r_ "java/lang/String" "value" "[B" (.ref nb) ∧ Arw Z h_ nb kb .byte M (fun i => .int ((fun i => g (q + i)) i))
theorem d30_0 : decode jdk_43_method_47_code 0 = .ok (.iload_n 2, 1) := by decide +kernel
theorem d30_1 : decode jdk_43_method_47_code 1 = .ok (.ifCond .ne 6, 3) := by decide +kernel
theorem d30_7 : decode jdk_43_method_47_code 7 = .ok (.new 1, 3) := by decide +kernel
theorem d30_10 : decode jdk_43_method_47_code 10 = .ok (.dup, 1) := by decide +kernel
theorem d30_11 : decode jdk_43_method_47_code 11 = .ok (.aload_n 0, 1) := by decide +kernel
theorem d30_12 : decode jdk_43_method_47_code 12 = .ok (.iload_n 1, 1) := by decide +kernel
theorem d30_13 : decode jdk_43_method_47_code 13 = .ok (.iload_n 1, 1) := by decide +kernel
theorem d30_14 : decode jdk_43_method_47_code 14 = .ok (.iload_n 2, 1) := by decide +kernel
theorem d30_15 : decode jdk_43_method_47_code 15 = .ok (.iadd, 1) := by decide +kernel
theorem d30_16 : decode jdk_43_method_47_code 16 = .ok (.invokestatic 232, 3) := by decide +kernel
theorem d30_19 : decode jdk_43_method_47_code 19 = .ok (.iconst 0, 1) := by decide +kernel
theorem pd_11 : parseMethodDescriptor "([BB)V" = some ⟨[(.array .byte), .byte], none⟩ := by decide +kernel
theorem d30_20 : decode jdk_43_method_47_code 20 = .ok (.invokespecial 112, 3) := by decide +kernel
theorem d30_23 : decode jdk_43_method_47_code 23 = .ok (.areturn, 1) := by decide +kernel
set_option maxRecDepth 65536 in
set_option maxHeartbeats 40000000 in
theorem rm30 (l : Launch) (Z : State) (a0 : Array Value) (hw : ∀ d ∈ tables_1, d.before a0 Z = true) (ws : List Jvm.Cond) (b : Addr) (i_ : Int32) (ln : Int32) (kc : ClassId) (N : Nat) (g : Nat → Int32) (nz : Int32) (q : Nat) (M : Nat) (h0 : Heap) (n0 : Nat) (Z0 : n0 ≤ h0.size) (A0_b : Arw Z h0 b kc .byte N (fun i => .int (g i))) (Hnz : nz.toInt = (N : Int)) (Hq : i_.toInt = (q : Int)) (Hl : ln.toInt = (M : Int)) (HqM : q + M ≤ N) (Hq0 : 0 < q) (HM0 : 0 < M) (HM16 : M ≤ 16) :
    MetFree l (⟨"java/lang/StringLatin1", "newString", "([BII)Ljava/lang/String;"⟩ : MethodName) (head1 (Jvm.Cond.code (⟨"java/lang/StringLatin1", "newString", "([BII)Ljava/lang/String;"⟩ : MethodName) jdk_43_method_47_code 3 (some (.object "java/lang/String")) :: ws) ({ frames := 3, cells := 2, slots := 20, locals := 68 } : Room)) (fun as_ U_ => as_ = #[(.ref b), (.int i_), (.int ln)] ∧ Z.Warmed39 U_.vm ∧ U_.heap = h0) (fun _ _ _ _ _ => True) (fun _ U_ o_ V_ => ∃ v_ L_, o_ = .returned v_ ∧ Qrm30 Z b i_ ln kc N g nz q M h0 n0 v_ V_.heap L_ ∧ FrameEnd U_ o_ V_ L_ ({ frames := 3, cells := 2, slots := 20, locals := 68 } : Room).cells ({ frames := 3, cells := 2, slots := 20, locals := 68 } : Room).slots) := by
  refine MetFree.of_bodySF (plainFor_of_name pn_java_lang_StringLatin1) hisR ?_
  intro p e s m args below meth c s₁ Bd hml0 hP hK
  obtain ⟨rfl, hZ, hh⟩ := hP
  have hx := Bd.exec
  have hby := Bd.bytes
  have hlk : meth.locks = false := BodyLoose.notSynchronized Bd
  have hret := Bd.returns
  have hml : c.maxLocals = 3 := hml0
  have hown : s.vm.findClass "java/lang/StringLatin1" = some m.cls := findClass_of_methodNamed Bd.named
  have hnm := (name_of_methodNamed Bd.named Bd.method).1
  have X0 : Stand p l e ({ frames := 3, cells := 2, slots := 20, locals := 68 } : Room) s m #[(.ref b), (.int i_), (.int ln)] below meth c s₁ [] 0 0 := Stand.of_body Bd
  have e0 : s₁.heap = h0 := by rw [← hh, Bd.state]; rfl
  have N0 := Fr.nil n0
  show Goes p e below (Fin_ s (Qrm30 Z b i_ ln kc N g nz q M h0 n0) ({ frames := 3, cells := 2, slots := 20, locals := 68 } : Room).cells ({ frames := 3, cells := 2, slots := 20, locals := 68 } : Room).slots) (s₁.setTop (entryFrame m #[(.ref b), (.int i_), (.int ln)] 3))
  rw [ef_rm30 m b i_ ln]
  refine gILN X0 hx hby d30_0 rfl ?_
  have hc1_1 : ¬ (ln = (0 : Int32)) := (own_nz0 Hl HM0)
  refine Goes.via (fun _ kk_ => XS.ifYes X0.here hx rfl (pc0 := 1) (pc' := 7) rfl (hb hby d30_1) rfl ((if0 _ _).trans (feq hc1_1).2) (by decide) (by decide) kk_) ?_
  show Goes p e below _ (s₁.setTop (mkF m 7 #[vr b, vi i_, vi ln] []))
  obtain ⟨T2, h2, X2, e2, E2, A2, D2, -, st2⟩ := newO X0 hx hZ hown (own_w hw 130 rfl) (own_w hw 7 rfl) (own_w hw 6 rfl) e0 (g := (mkF m 7 #[vr b, vi i_, vi ln] [])) rfl (hb hby d30_7) (by first | decide | omega | (dsimp only; omega)) (by first | decide | omega | (dsimp only; omega))
  obtain ⟨b2, g2⟩ : ∃ z, z = (h0).size := ⟨_, rfl⟩
  rw [← g2] at A2 D2 st2
  have lne3 : b < b2 := Nat.lt_of_lt_of_le A0_b.lt (Nat.le_of_eq g2.symm)
  have ne3 : b ≠ b2 := Nat.ne_of_lt lne3
  have sz_b2 : h0.size ≤ b2 := Nat.le_trans (Nat.le_refl _) (Nat.le_of_eq g2.symm)
  have gn_b2 : n0 ≤ b2 := Nat.le_trans Z0 sz_b2
  have F_value_b2 : Fld Z h2 b2 "java/lang/String" "value" "[B" .null := D2 (Or.inr (own_w hw 9 rfl)) (ty := (.array .byte)) (by decide)
  have F_coder_b2 : Fld Z h2 b2 "java/lang/String" "coder" "B" (.int (0 : Int32)) := D2 (Or.inr (own_w hw 10 rfl)) (ty := .byte) (by decide)
  refine Goes.via st2 ?_
  show Goes p e below _ (T2.setTop (mkF m 10 #[vr b, vi i_, vi ln] [(.ref b2)]))
  refine gDU X2 hx hby d30_10 rfl ?_
  refine gALN X2 hx hby d30_11 rfl rfl ?_
  refine gILN X2 hx hby d30_12 rfl ?_
  refine gILN X2 hx hby d30_13 rfl ?_
  refine gILN X2 hx hby d30_14 rfl ?_
  refine Goes.via (fun _ kk_ => XS.iadd X2.here hx rfl (hb hby d30_15) rfl kk_) ?_
  show Goes p e below _ (T2.setTop (mkF m 16 #[vr b, vi i_, vi ln] [(.int (i_ + ln)), (.int i_), (.ref b), (.ref b2), (.ref b2)]))
  have f4 : Arw Z h2 b kc .byte N (fun i => .int (g i)) := (A0_b.ext E2)
  have z6 : h0.size ≤ (h2).size := (Nat.le_trans (Nat.le_refl _) E2.1)
  obtain ⟨_, _, ⟨T5, L5, k5, n5⟩, -, X5, ⟨Lc5, hQ5, l5, y5, z5⟩, st5⟩ := Jvm.LawKit.callS X2 hx (y := (⟨"java/util/Arrays", "copyOfRange", "([BII)[B"⟩ : MethodName)) hown (mvT hZ (own_w hw 131 rfl)) (mvT hZ (own_w hw 132 rfl)) (mvT hZ (own_w hw 133 rfl)) (mvT hZ (own_w hw 134 rfl)) (by decide) (backOf (W := 2) (rm31 l Z a0 hw [] b i_ (i_ + ln) kc N g nz q M h2 n0 (Nat.le_trans Z0 z6) f4 Hnz Hq (own_adi Hq Hl (by have := nz.toInt_lt; omega)) HqM Hq0 HM0 HM16) hZ (own_w hw 134 rfl) (own_w hw 133 rfl) (by decide) (by decide)) (g := (mkF m 16 #[vr b, vi i_, vi ln] [(.int (i_ + ln)), (.int i_), (.ref b), (.ref b2), (.ref b2)])) rfl (by rw [hml]; rfl) (argsL := [(.ref b), (.int i_), (.int (i_ + ln))]) (rest := [(.ref b2), (.ref b2)]) (lenOf pd_10 rfl) rfl (by show 2 * 0 + _ ≤ _; exact Nat.le_of_eq rfl) (hb hby d30_16) (fun _ _ => ⟨rfl, e2, (by decide : 1 + 1 ≤ _), (by decide : 4 + 16 ≤ _)⟩)
  dsimp only [Pt.U, Pt.locs, Pt.cells, Pt.slots] at X5 l5 y5 z5 st5 hQ5
  replace l5 := l5.symm
  subst l5 y5 z5
  obtain ⟨nb5, kb5, rfl, N5q, K5, u5_0, u5_1⟩ := hQ5
  have N5 := Fr.app N0 N5q
  refine Goes.via st5 ?_
  have ne7 : b ≠ nb5 := Nat.ne_of_lt (Nat.lt_of_lt_of_le f4.lt u5_0)
  have ne8 : b2 ≠ nb5 := Nat.ne_of_lt (Nat.lt_of_lt_of_le A2.lt u5_0)
  have sz_nb5 : h0.size ≤ nb5 := Nat.le_trans z6 u5_0
  have gn_nb5 : n0 ≤ nb5 := Nat.le_trans Z0 sz_nb5
  -- u5_0 : h0.size ≤ nb5
  show Goes p e below _ (T5.setTop (mkF m 19 #[vr b, vi i_, vi ln] [(.ref nb5), (.ref b2), (.ref b2)]))
  refine gIC (z := 0) X5 hx hby d30_19 rfl ?_
  have f9 : Exa Z T5.heap b2 "java/lang/String" := (A2.keep K5)
  have f10 : Fld Z T5.heap b2 "java/lang/String" "value" "[B" .null := (F_value_b2.keep K5 nin0)
  have f11 : Fld Z T5.heap b2 "java/lang/String" "coder" "B" (.int (0 : Int32)) := (F_coder_b2.keep K5 nin0)
  have z13 : h0.size ≤ (T5.heap).size := (Nat.le_trans z6 K5.1)
  obtain ⟨_, _, ⟨T12, L12, k12, n12⟩, -, X12, ⟨Lc12, hQ12, l12, y12, z12⟩, st12⟩ := X5.specialBack hx (y := (⟨"java/lang/String", "<init>", "([BB)V"⟩ : MethodName)) rfl hown (mvT hZ (own_w hw 146 rfl)) (mvT hZ (own_w hw 147 rfl)) (mvT hZ (own_w hw 148 rfl)) (by decide) (backOf (W := 1) (rmBB l Z a0 hw [] b2 nb5 T5.heap n0 (Nat.le_trans Z0 z13) f9 f10 f11 gn_b2) hZ (own_w hw 148 rfl) (own_w hw 6 rfl) (by decide) (by decide)) (g := (mkF m 20 #[vr b, vi i_, vi ln] [(.int (0 : Int32)), (.ref nb5), (.ref b2), (.ref b2)])) rfl (by rw [hml]; rfl) (Steps.refl _) (a := b2) (argsL := [(.ref nb5), (.int (0 : Int32))]) (rest := [(.ref b2)]) (lenOf pd_11 rfl) rfl (by show 2 * 0 + _ ≤ _; exact Nat.le_of_eq rfl) (hb hby d30_20) (fun _ _ => ⟨rfl, rfl, (by decide : 2 + 0 ≤ _), (by decide : 20 + 0 ≤ _)⟩)
  dsimp only [Pt.U, Pt.locs, Pt.cells, Pt.slots] at X12 l12 y12 z12 st12 hQ12
  replace l12 := l12.symm
  subst l12 y12 z12
  obtain ⟨rfl, N12q, K12, u12_0, u12_1, u12_2⟩ := hQ12
  have N12 := Fr.app N5 N12q
  refine Goes.tr st12 ?_
  show Goes p e below _ (T12.setTop (mkF m 23 #[vr b, vi i_, vi ln] [(.ref b2)]))
  have K14 : Keep h0 T12.heap [] := ((((Keep.refl h0 []).ext E2).trans K5 all0).trans K12 (allS (Or.inr sz_b2) all0))
  have f15 : Arw Z T12.heap nb5 kb5 .byte M (fun i => .int ((fun i => g (q + i)) i)) := (u5_1.keep K12 (ninS (Ne.symm ne8) nin0))
  exact own_finR X12 hx hlk hret rfl rfl rfl (hb hby d30_23) (by exact ⟨b2, nb5, kb5, rfl, N12, K14, sz_b2, u12_0, u12_1, u12_2, f15⟩) (by first | decide | omega | (dsimp only; omega)) (by first | decide | omega | (dsimp only; omega))
theorem ef_rm27 (m : MethodId) (a : Addr) (i_ : Int32) (e_ : Int32) : entryFrame m #[(.ref a), (.int i_), (.int e_)] 5 = mkF m 0 #[.val (.ref a), .val (.int i_), .val (.int e_), .unset, .unset] [] := by first | (simp [entryFrame, mkF, argsToLocals, Value.category]; done) | rfl
def Qrm27 (Z : State) (a : Addr) (i_ : Int32) (e_ : Int32) (cS : Int32) (fo : Value) (t : Addr) (kc : ClassId) (N : Nat) (g : Nat → Int32) (nz : Int32) (q : Nat) (M : Nat) (h0 : Heap) (n0 : Nat) (v_ : Option Value) (h_ : Heap) (L_ : List Loc) : Prop := ∃ r_ : Addr, ∃ nb : Addr, ∃ kb : ClassId, v_ = some (.ref r_) ∧ Fr n0 L_ ∧ Keep h0 h_ [] ∧ h0.size ≤ r_ ∧ Exa Z h_ r_ "java/lang/String" ∧ Fld Z h_ r_ "java/lang/String" "coder" "B" (.int (0 : Int32)) ∧ Fld Z h_ r_ "java/lang/String" "value" "[B" (.ref nb) ∧ Arw Z h_ nb kb .byte M (fun i => .int ((fun i => g (q + i)) i))
theorem d27_0 : decode jdk_42_method_92_code 0 = .ok (.aload_n 0, 1) := by decide +kernel
theorem d27_1 : decode jdk_42_method_92_code 1 = .ok (.invokevirtual 505, 3) := by decide +kernel
theorem d27_4 : decode jdk_42_method_92_code 4 = .ok (.istore_n 3, 1) := by decide +kernel
theorem d27_5 : decode jdk_42_method_92_code 5 = .ok (.iload_n 1, 1) := by decide +kernel
theorem d27_6 : decode jdk_42_method_92_code 6 = .ok (.iload_n 2, 1) := by decide +kernel
theorem d27_7 : decode jdk_42_method_92_code 7 = .ok (.iload_n 3, 1) := by decide +kernel
theorem pd_12 : parseMethodDescriptor "(III)V" = some ⟨[.int, .int, .int], none⟩ := by decide +kernel
theorem d27_8 : decode jdk_42_method_92_code 8 = .ok (.invokestatic 521, 3) := by decide +kernel
theorem d27_11 : decode jdk_42_method_92_code 11 = .ok (.iload_n 1, 1) := by decide +kernel
theorem d27_12 : decode jdk_42_method_92_code 12 = .ok (.ifCond .ne 10, 3) := by decide +kernel
theorem d27_22 : decode jdk_42_method_92_code 22 = .ok (.iload_n 2, 1) := by decide +kernel
theorem d27_23 : decode jdk_42_method_92_code 23 = .ok (.iload_n 1, 1) := by decide +kernel
theorem d27_24 : decode jdk_42_method_92_code 24 = .ok (.isub, 1) := by decide +kernel
theorem d27_25 : decode jdk_42_method_92_code 25 = .ok (.istore 4, 2) := by decide +kernel
theorem d27_27 : decode jdk_42_method_92_code 27 = .ok (.aload_n 0, 1) := by decide +kernel
theorem d27_28 : decode jdk_42_method_92_code 28 = .ok (.invokevirtual 492, 3) := by decide +kernel
theorem d27_31 : decode jdk_42_method_92_code 31 = .ok (.ifCond .eq 16, 3) := by decide +kernel
theorem d27_34 : decode jdk_42_method_92_code 34 = .ok (.aload_n 0, 1) := by decide +kernel
theorem d27_35 : decode jdk_42_method_92_code 35 = .ok (.getfield 9, 3) := by decide +kernel
theorem d27_38 : decode jdk_42_method_92_code 38 = .ok (.iload_n 1, 1) := by decide +kernel
theorem d27_39 : decode jdk_42_method_92_code 39 = .ok (.iload 4, 2) := by decide +kernel
theorem pd_13 : parseMethodDescriptor "([BII)Ljava/lang/String;" = some ⟨[(.array .byte), .int, .int], some (.object "java/lang/String")⟩ := by decide +kernel
theorem d27_41 : decode jdk_42_method_92_code 41 = .ok (.invokestatic 685, 3) := by decide +kernel
theorem d27_44 : decode jdk_42_method_92_code 44 = .ok (.goto 13, 3) := by decide +kernel
theorem d27_57 : decode jdk_42_method_92_code 57 = .ok (.areturn, 1) := by decide +kernel
set_option maxRecDepth 65536 in
set_option maxHeartbeats 40000000 in
theorem rm27 (l : Launch) (Z : State) (a0 : Array Value) (hw : ∀ d ∈ tables_1, d.before a0 Z = true) (ws : List Jvm.Cond) (a : Addr) (i_ : Int32) (e_ : Int32) (cS : Int32) (fo : Value) (t : Addr) (kc : ClassId) (N : Nat) (g : Nat → Int32) (nz : Int32) (q : Nat) (M : Nat) (h0 : Heap) (n0 : Nat) (Z0 : n0 ≤ h0.size) (E0_a : Exa Z h0 a "java/lang/String") (F1_a_coder : Fld Z h0 a "java/lang/String" "coder" "B" (.int (0 : Int32))) (F2_a_value : Fld Z h0 a "java/lang/String" "value" "[B" (.ref t)) (A3_t : Arw Z h0 t kc .byte N (fun i => .int (g i))) (S4_java_lang_String_COMPACT_STRINGS_COMPACT_STRINGS : Sta Z h0 "java/lang/String" "COMPACT_STRINGS" "Z" (.int cS)) (H_cs : ¬ cS = (0 : Int32)) (S6_jdk_internal_util_Preconditions_SIOOBE_FORMATTER_SIOOBE_FORMATTER : Sta Z h0 "jdk/internal/util/Preconditions" "SIOOBE_FORMATTER" "Ljava/util/function/BiFunction;" fo) (Hfo : fo.isRef = true) (Hnz : nz.toInt = (N : Int)) (Hq : i_.toInt = (q : Int)) (He : e_.toInt = ((q + M : Nat) : Int)) (HqM : q + M ≤ N) (Hq0 : 0 < q) (HM0 : 0 < M) (HM16 : M ≤ 16) :
    MetFree l (⟨"java/lang/String", "substring", "(II)Ljava/lang/String;"⟩ : MethodName) (head1 (Jvm.Cond.code (⟨"java/lang/String", "substring", "(II)Ljava/lang/String;"⟩ : MethodName) jdk_42_method_92_code 5 (some (.object "java/lang/String")) :: ws) ({ frames := 4, cells := 2, slots := 20, locals := 82 } : Room)) (fun as_ U_ => as_ = #[(.ref a), (.int i_), (.int e_)] ∧ Z.Warmed39 U_.vm ∧ U_.heap = h0) (fun _ _ _ _ _ => True) (fun _ U_ o_ V_ => ∃ v_ L_, o_ = .returned v_ ∧ Qrm27 Z a i_ e_ cS fo t kc N g nz q M h0 n0 v_ V_.heap L_ ∧ FrameEnd U_ o_ V_ L_ ({ frames := 4, cells := 2, slots := 20, locals := 82 } : Room).cells ({ frames := 4, cells := 2, slots := 20, locals := 82 } : Room).slots) := by
  refine MetFree.of_bodySF (plainFor_of_name pn_java_lang_String) hisR ?_
  intro p e s m args below meth c s₁ Bd hml0 hP hK
  obtain ⟨rfl, hZ, hh⟩ := hP
  have hx := Bd.exec
  have hby := Bd.bytes
  have hlk : meth.locks = false := BodyLoose.notSynchronized Bd
  have hret := Bd.returns
  have hml : c.maxLocals = 5 := hml0
  have hown : s.vm.findClass "java/lang/String" = some m.cls := findClass_of_methodNamed Bd.named
  have hnm := (name_of_methodNamed Bd.named Bd.method).1
  have X0 : Stand p l e ({ frames := 4, cells := 2, slots := 20, locals := 82 } : Room) s m #[(.ref a), (.int i_), (.int e_)] below meth c s₁ [] 0 0 := Stand.of_body Bd
  have e0 : s₁.heap = h0 := by rw [← hh, Bd.state]; rfl
  have N0 := Fr.nil n0
  show Goes p e below (Fin_ s (Qrm27 Z a i_ e_ cS fo t kc N g nz q M h0 n0) ({ frames := 4, cells := 2, slots := 20, locals := 82 } : Room).cells ({ frames := 4, cells := 2, slots := 20, locals := 82 } : Room).slots) (s₁.setTop (entryFrame m #[(.ref a), (.int i_), (.int e_)] 5))
  rw [ef_rm27 m a i_ e_]
  have ne1 : a ≠ t := own_ne_arr E0_a (own_w hw 7 rfl) A3_t
  refine gALN X0 hx hby d27_0 rfl rfl ?_
  obtain ⟨cq2, kq2, q2a, q2b, q2c⟩ := isOf hZ e0 E0_a
  obtain ⟨_, _, ⟨T2, L2, k2, n2⟩, -, X2, ⟨Lc2, hQ2, l2, y2, z2⟩, st2⟩ := X0.virtualBack hx (y := (⟨"java/lang/String", "length", "()I"⟩ : MethodName)) (z := (⟨"java/lang/String", "length", "()I"⟩ : MethodName)) hown (mvT hZ (own_w hw 94 rfl)) (mvT hZ (own_w hw 43 rfl)) (notFace_of_selects (args := #[]) (mvT hZ (own_w hw 45 rfl))) (mvT hZ (own_w hw 45 rfl)) (mvT hZ (own_w hw 44 rfl)) (by decide) (backOf (W := 0) (rm8 l Z a0 hw [] a nz cS t kc N g h0 n0 (Nat.le_trans Z0 (Nat.le_refl _)) E0_a F1_a_coder F2_a_value A3_t S4_java_lang_String_COMPACT_STRINGS_COMPACT_STRINGS H_cs Hnz) hZ (own_w hw 46 rfl) (own_w hw 6 rfl) (by decide) (by decide)) q2a q2c (g := (mkF m 1 #[vr a, vi i_, vi e_, .unset, .unset] [(.ref a)])) rfl (by rw [hml]; rfl) (Steps.refl _) (argsL := []) (rest := []) (lenOf pd_8 rfl) rfl (by show 2 * 0 + _ ≤ _; exact Nat.le_of_eq rfl) (hb hby d27_1) (fun _ _ => ⟨rfl, e0, (by decide : 0 + 0 ≤ _), (by decide : 0 + 0 ≤ _)⟩)
  dsimp only [Pt.U, Pt.locs, Pt.cells, Pt.slots] at X2 l2 y2 z2 st2 hQ2
  replace l2 := l2.symm
  subst l2 y2 z2
  obtain ⟨rfl, rfl, e2⟩ := hQ2
  first | rw [List.append_nil] at X2 | skip
  refine Goes.tr st2 ?_
  have e2' : T2.heap = h0 := e2
  show Goes p e below _ (T2.setTop (mkF m 4 #[vr a, vi i_, vi e_, .unset, .unset] [(.int nz)]))
  refine Goes.via (fun _ kk_ => XS.istoreN X2.here hx rfl (hb hby d27_4) rfl (l' := #[vr a, vi i_, vi e_, vi nz, .unset]) rfl kk_) ?_
  show Goes p e below _ (T2.setTop (mkF m 5 #[vr a, vi i_, vi e_, vi nz, .unset] []))
  refine gILN X2 hx hby d27_5 rfl ?_
  refine gILN X2 hx hby d27_6 rfl ?_
  refine gILN X2 hx hby d27_7 rfl ?_
  obtain ⟨_, _, ⟨T3, L3, k3, n3⟩, -, X3, ⟨Lc3, hQ3, l3, y3, z3⟩, st3⟩ := Jvm.LawKit.callS X2 hx (y := (⟨"java/lang/String", "checkBoundsBeginEnd", "(III)V"⟩ : MethodName)) hown (mvT hZ (own_w hw 121 rfl)) (mvT hZ (own_w hw 122 rfl)) (mvT hZ (own_w hw 6 rfl)) (mvT hZ (own_w hw 123 rfl)) (by decide) (backOf (W := 0) (rm28 l Z a0 hw [] i_ e_ nz fo h0 n0 (Nat.le_trans Z0 (Nat.le_refl _)) S6_jdk_internal_util_Preconditions_SIOOBE_FORMATTER_SIOOBE_FORMATTER Hfo (own_ix Hq).1 (own_nlt Hq He (Nat.le_add_right _ _)) (own_nlt He Hnz HqM)) hZ (own_w hw 123 rfl) (own_w hw 6 rfl) (by decide) (by decide)) (g := (mkF m 8 #[vr a, vi i_, vi e_, vi nz, .unset] [(.int nz), (.int e_), (.int i_)])) rfl (by rw [hml]; rfl) (argsL := [(.int i_), (.int e_), (.int nz)]) (rest := []) (lenOf pd_12 rfl) rfl (by show 2 * 0 + _ ≤ _; exact Nat.le_of_eq rfl) (hb hby d27_8) (fun _ _ => ⟨rfl, e2', (by decide : 0 + 0 ≤ _), (by decide : 0 + 0 ≤ _)⟩)
  dsimp only [Pt.U, Pt.locs, Pt.cells, Pt.slots] at X3 l3 y3 z3 st3 hQ3
  replace l3 := l3.symm
  subst l3 y3 z3
  obtain ⟨rfl, rfl, e3⟩ := hQ3
  first | rw [List.append_nil] at X3 | skip
  refine Goes.via st3 ?_
  have e3' : T3.heap = h0 := e3
  show Goes p e below _ (T3.setTop (mkF m 11 #[vr a, vi i_, vi e_, vi nz, .unset] []))
  refine gILN X3 hx hby d27_11 rfl ?_
  have hc12_4 : ¬ (i_ = (0 : Int32)) := (own_nz0 Hq Hq0)
  refine Goes.via (fun _ kk_ => XS.ifYes X3.here hx rfl (pc0 := 12) (pc' := 22) rfl (hb hby d27_12) rfl ((if0 _ _).trans (feq hc12_4).2) (by decide) (by decide) kk_) ?_
  show Goes p e below _ (T3.setTop (mkF m 22 #[vr a, vi i_, vi e_, vi nz, .unset] []))
  refine gILN X3 hx hby d27_22 rfl ?_
  refine gILN X3 hx hby d27_23 rfl ?_
  refine Goes.via (fun _ kk_ => XS.isub X3.here hx rfl (hb hby d27_24) rfl kk_) ?_
  show Goes p e below _ (T3.setTop (mkF m 25 #[vr a, vi i_, vi e_, vi nz, .unset] [(.int (e_ - i_))]))
  refine Goes.via (fun _ kk_ => XS.istore X3.here hx rfl (hb hby d27_25) rfl (l' := #[vr a, vi i_, vi e_, vi nz, vi (e_ - i_)]) rfl kk_) ?_
  show Goes p e below _ (T3.setTop (mkF m 27 #[vr a, vi i_, vi e_, vi nz, vi (e_ - i_)] []))
  refine gALN X3 hx hby d27_27 rfl rfl ?_
  obtain ⟨cq5, kq5, q5a, q5b, q5c⟩ := isOf hZ e3' E0_a
  obtain ⟨_, _, ⟨T5, L5, k5, n5⟩, -, X5, ⟨Lc5, hQ5, l5, y5, z5⟩, st5⟩ := X3.virtualBack hx (y := (⟨"java/lang/String", "isLatin1", "()Z"⟩ : MethodName)) (z := (⟨"java/lang/String", "isLatin1", "()Z"⟩ : MethodName)) hown (mvT hZ (own_w hw 18 rfl)) (mvT hZ (own_w hw 19 rfl)) (notFace_of_selects (args := #[]) (mvT hZ (own_w hw 21 rfl))) (mvT hZ (own_w hw 21 rfl)) (mvT hZ (own_w hw 20 rfl)) (by decide) (backOf (W := 0) (rm3 l Z a0 hw [] a cS h0 n0 (Nat.le_trans Z0 (Nat.le_refl _)) F1_a_coder S4_java_lang_String_COMPACT_STRINGS_COMPACT_STRINGS H_cs) hZ (own_w hw 22 rfl) (own_w hw 6 rfl) (by decide) (by decide)) q5a q5c (g := (mkF m 28 #[vr a, vi i_, vi e_, vi nz, vi (e_ - i_)] [(.ref a)])) rfl (by rw [hml]; rfl) (Steps.refl _) (argsL := []) (rest := []) (lenOf pd_3 rfl) rfl (by show 2 * 0 + _ ≤ _; exact Nat.le_of_eq rfl) (hb hby d27_28) (fun _ _ => ⟨rfl, e3', (by decide : 0 + 0 ≤ _), (by decide : 0 + 0 ≤ _)⟩)
  dsimp only [Pt.U, Pt.locs, Pt.cells, Pt.slots] at X5 l5 y5 z5 st5 hQ5
  replace l5 := l5.symm
  subst l5 y5 z5
  obtain ⟨rfl, rfl, e5⟩ := hQ5
  first | rw [List.append_nil] at X5 | skip
  refine Goes.tr st5 ?_
  have e5' : T5.heap = h0 := e5
  show Goes p e below _ (T5.setTop (mkF m 31 #[vr a, vi i_, vi e_, vi nz, vi (e_ - i_)] [(.int (1 : Int32))]))
  have hc31_6 : ¬ ((1 : Int32) = (0 : Int32)) := (by decide)
  refine Goes.via (fun _ kk_ => XS.ifNo X5.here hx rfl (hb hby d27_31) rfl ((if0 _ _).trans (feq hc31_6).1) kk_) ?_
  show Goes p e below _ (T5.setTop (mkF m 34 #[vr a, vi i_, vi e_, vi nz, vi (e_ - i_)] []))
  refine gALN X5 hx hby d27_34 rfl rfl ?_
  obtain ⟨T7, X7, e7, st7⟩ := getF X5 hx hZ hown (host := "") (Or.inl (own_w hw 25 rfl)) Via.refl e5' F2_a_value (g := (mkF m 35 #[vr a, vi i_, vi e_, vi nz, vi (e_ - i_)] [(.ref a)])) rfl rfl (hb hby d27_35)
  refine Goes.via st7 ?_
  show Goes p e below _ (T7.setTop (mkF m 38 #[vr a, vi i_, vi e_, vi nz, vi (e_ - i_)] [(.ref t)]))
  refine gILN X7 hx hby d27_38 rfl ?_
  refine gIL X7 hx hby d27_39 rfl ?_
  obtain ⟨_, _, ⟨T8, L8, k8, n8⟩, -, X8, ⟨Lc8, hQ8, l8, y8, z8⟩, st8⟩ := Jvm.LawKit.callS X7 hx (y := (⟨"java/lang/StringLatin1", "newString", "([BII)Ljava/lang/String;"⟩ : MethodName)) hown (mvT hZ (own_w hw 127 rfl)) (mvT hZ (own_w hw 128 rfl)) (mvT hZ (own_w hw 28 rfl)) (mvT hZ (own_w hw 129 rfl)) (by decide) (backOf (W := 0) (rm30 l Z a0 hw [] t i_ (e_ - i_) kc N g nz q M h0 n0 (Nat.le_trans Z0 (Nat.le_refl _)) A3_t Hnz Hq (by have z := own_sbi He Hq (Nat.le_add_right _ _); rwa [Nat.add_sub_cancel_left] at z) HqM Hq0 HM0 HM16) hZ (own_w hw 129 rfl) (own_w hw 28 rfl) (by decide) (by decide)) (g := (mkF m 41 #[vr a, vi i_, vi e_, vi nz, vi (e_ - i_)] [(.int (e_ - i_)), (.int i_), (.ref t)])) rfl (by rw [hml]; rfl) (argsL := [(.ref t), (.int i_), (.int (e_ - i_))]) (rest := []) (lenOf pd_13 rfl) rfl (by show 2 * 0 + _ ≤ _; exact Nat.le_of_eq rfl) (hb hby d27_41) (fun _ _ => ⟨rfl, e7, (by decide : 0 + 2 ≤ _), (by decide : 0 + 20 ≤ _)⟩)
  dsimp only [Pt.U, Pt.locs, Pt.cells, Pt.slots] at X8 l8 y8 z8 st8 hQ8
  replace l8 := l8.symm
  subst l8 y8 z8
  obtain ⟨r_8, nb8, kb8, rfl, N8q, K8, u8_0, u8_1, u8_2, u8_3, u8_4⟩ := hQ8
  have N8 := Fr.app N0 N8q
  refine Goes.via st8 ?_
  have ne9 : a ≠ r_8 := Nat.ne_of_lt (Nat.lt_of_lt_of_le E0_a.lt u8_0)
  have ne10 : t ≠ r_8 := Nat.ne_of_lt (Nat.lt_of_lt_of_le A3_t.lt u8_0)
  have sz_r_8 : h0.size ≤ r_8 := Nat.le_trans (Nat.le_refl _) u8_0
  have gn_r_8 : n0 ≤ r_8 := Nat.le_trans Z0 sz_r_8
  -- u8_0 : h0.size ≤ r_8
  have ne11 : r_8 ≠ nb8 := own_ne_arr u8_1 (own_w hw 7 rfl) u8_4
  show Goes p e below _ (T8.setTop (mkF m 44 #[vr a, vi i_, vi e_, vi nz, vi (e_ - i_)] [(.ref r_8)]))
  refine Goes.via (fun _ kk_ => XS.goto X8.here hx rfl (pc0 := 44) (pc' := 57) rfl (hb hby d27_44) (by decide) (by decide) kk_) ?_
  show Goes p e below _ (T8.setTop (mkF m 57 #[vr a, vi i_, vi e_, vi nz, vi (e_ - i_)] [(.ref r_8)]))
  have K12 : Keep h0 T8.heap [] := ((Keep.refl h0 []).trans K8 all0)
  exact own_finR X8 hx hlk hret rfl rfl rfl (hb hby d27_57) (by exact ⟨r_8, nb8, kb8, rfl, N8, K12, sz_r_8, u8_1, u8_2, u8_3, u8_4⟩) (by first | decide | omega | (dsimp only; omega)) (by first | decide | omega | (dsimp only; omega))
theorem ef_rm26 (m : MethodId) (a : Addr) (i_ : Int32) : entryFrame m #[(.ref a), (.int i_)] 2 = mkF m 0 #[.val (.ref a), .val (.int i_)] [] := by first | (simp [entryFrame, mkF, argsToLocals, Value.category]; done) | rfl
def Qrm26 (Z : State) (a : Addr) (i_ : Int32) (cS : Int32) (fo : Value) (t : Addr) (kc : ClassId) (N : Nat) (g : Nat → Int32) (nz : Int32) (q : Nat) (M : Nat) (h0 : Heap) (n0 : Nat) (v_ : Option Value) (h_ : Heap) (L_ : List Loc) : Prop := ∃ r_ : Addr, ∃ nb : Addr, ∃ kb : ClassId, v_ = some (.ref r_) ∧ Fr n0 L_ ∧ Keep h0 h_ [] ∧ h0.size ≤ r_ ∧ Exa Z h_ r_ "java/lang/String" ∧ Fld Z h_ r_ "java/lang/String" "coder" "B" (.int (0 : Int32)) ∧ Fld Z h_ r_ "java/lang/String" "value" "[B" (.ref nb) ∧ Arw Z h_ nb kb .byte M (fun i => .int ((fun i => g (q + i)) i))
theorem d26_0 : decode jdk_42_method_91_code 0 = .ok (.aload_n 0, 1) := by decide +kernel
theorem d26_1 : decode jdk_42_method_91_code 1 = .ok (.iload_n 1, 1) := by decide +kernel
theorem d26_2 : decode jdk_42_method_91_code 2 = .ok (.aload_n 0, 1) := by decide +kernel
theorem d26_3 : decode jdk_42_method_91_code 3 = .ok (.invokevirtual 505, 3) := by decide +kernel
theorem pd_14 : parseMethodDescriptor "(II)Ljava/lang/String;" = some ⟨[.int, .int], some (.object "java/lang/String")⟩ := by decide +kernel
theorem d26_6 : decode jdk_42_method_91_code 6 = .ok (.invokevirtual 681, 3) := by decide +kernel
theorem d26_9 : decode jdk_42_method_91_code 9 = .ok (.areturn, 1) := by decide +kernel
set_option maxRecDepth 65536 in
set_option maxHeartbeats 40000000 in
theorem rm26 (l : Launch) (Z : State) (a0 : Array Value) (hw : ∀ d ∈ tables_1, d.before a0 Z = true) (ws : List Jvm.Cond) (a : Addr) (i_ : Int32) (cS : Int32) (fo : Value) (t : Addr) (kc : ClassId) (N : Nat) (g : Nat → Int32) (nz : Int32) (q : Nat) (M : Nat) (h0 : Heap) (n0 : Nat) (Z0 : n0 ≤ h0.size) (E0_a : Exa Z h0 a "java/lang/String") (F1_a_coder : Fld Z h0 a "java/lang/String" "coder" "B" (.int (0 : Int32))) (F2_a_value : Fld Z h0 a "java/lang/String" "value" "[B" (.ref t)) (A3_t : Arw Z h0 t kc .byte N (fun i => .int (g i))) (S4_java_lang_String_COMPACT_STRINGS_COMPACT_STRINGS : Sta Z h0 "java/lang/String" "COMPACT_STRINGS" "Z" (.int cS)) (H_cs : ¬ cS = (0 : Int32)) (S6_jdk_internal_util_Preconditions_SIOOBE_FORMATTER_SIOOBE_FORMATTER : Sta Z h0 "jdk/internal/util/Preconditions" "SIOOBE_FORMATTER" "Ljava/util/function/BiFunction;" fo) (Hfo : fo.isRef = true) (Hnz : nz.toInt = (N : Int)) (Hq : i_.toInt = (q : Int)) (Hq0 : 0 < q) (HM0 : 0 < M) (HM16 : M ≤ 16) (HqM : q + M = N) :
    MetFree l (⟨"java/lang/String", "substring", "(I)Ljava/lang/String;"⟩ : MethodName) (head1 (Jvm.Cond.code (⟨"java/lang/String", "substring", "(I)Ljava/lang/String;"⟩ : MethodName) jdk_42_method_91_code 2 (some (.object "java/lang/String")) :: ws) ({ frames := 5, cells := 2, slots := 20, locals := 98 } : Room)) (fun as_ U_ => as_ = #[(.ref a), (.int i_)] ∧ Z.Warmed39 U_.vm ∧ U_.heap = h0) (fun _ _ _ _ _ => True) (fun _ U_ o_ V_ => ∃ v_ L_, o_ = .returned v_ ∧ Qrm26 Z a i_ cS fo t kc N g nz q M h0 n0 v_ V_.heap L_ ∧ FrameEnd U_ o_ V_ L_ ({ frames := 5, cells := 2, slots := 20, locals := 98 } : Room).cells ({ frames := 5, cells := 2, slots := 20, locals := 98 } : Room).slots) := by
  refine MetFree.of_bodySF (plainFor_of_name pn_java_lang_String) hisR ?_
  intro p e s m args below meth c s₁ Bd hml0 hP hK
  obtain ⟨rfl, hZ, hh⟩ := hP
  have hx := Bd.exec
  have hby := Bd.bytes
  have hlk : meth.locks = false := BodyLoose.notSynchronized Bd
  have hret := Bd.returns
  have hml : c.maxLocals = 2 := hml0
  have hown : s.vm.findClass "java/lang/String" = some m.cls := findClass_of_methodNamed Bd.named
  have hnm := (name_of_methodNamed Bd.named Bd.method).1
  have X0 : Stand p l e ({ frames := 5, cells := 2, slots := 20, locals := 98 } : Room) s m #[(.ref a), (.int i_)] below meth c s₁ [] 0 0 := Stand.of_body Bd
  have e0 : s₁.heap = h0 := by rw [← hh, Bd.state]; rfl
  have N0 := Fr.nil n0
  show Goes p e below (Fin_ s (Qrm26 Z a i_ cS fo t kc N g nz q M h0 n0) ({ frames := 5, cells := 2, slots := 20, locals := 98 } : Room).cells ({ frames := 5, cells := 2, slots := 20, locals := 98 } : Room).slots) (s₁.setTop (entryFrame m #[(.ref a), (.int i_)] 2))
  rw [ef_rm26 m a i_]
  have ne1 : a ≠ t := own_ne_arr E0_a (own_w hw 7 rfl) A3_t
  refine gALN X0 hx hby d26_0 rfl rfl ?_
  refine gILN X0 hx hby d26_1 rfl ?_
  refine gALN X0 hx hby d26_2 rfl rfl ?_
  obtain ⟨cq2, kq2, q2a, q2b, q2c⟩ := isOf hZ e0 E0_a
  obtain ⟨_, _, ⟨T2, L2, k2, n2⟩, -, X2, ⟨Lc2, hQ2, l2, y2, z2⟩, st2⟩ := X0.virtualBack hx (y := (⟨"java/lang/String", "length", "()I"⟩ : MethodName)) (z := (⟨"java/lang/String", "length", "()I"⟩ : MethodName)) hown (mvT hZ (own_w hw 94 rfl)) (mvT hZ (own_w hw 43 rfl)) (notFace_of_selects (args := #[]) (mvT hZ (own_w hw 45 rfl))) (mvT hZ (own_w hw 45 rfl)) (mvT hZ (own_w hw 44 rfl)) (by decide) (backOf (W := 2) (rm8 l Z a0 hw [] a nz cS t kc N g h0 n0 (Nat.le_trans Z0 (Nat.le_refl _)) E0_a F1_a_coder F2_a_value A3_t S4_java_lang_String_COMPACT_STRINGS_COMPACT_STRINGS H_cs Hnz) hZ (own_w hw 46 rfl) (own_w hw 6 rfl) (by decide) (by decide)) q2a q2c (g := (mkF m 3 #[vr a, vi i_] [(.ref a), (.int i_), (.ref a)])) rfl (by rw [hml]; rfl) (Steps.refl _) (argsL := []) (rest := [(.int i_), (.ref a)]) (lenOf pd_8 rfl) rfl (by show 2 * 0 + _ ≤ _; exact Nat.le_of_eq rfl) (hb hby d26_3) (fun _ _ => ⟨rfl, e0, (by decide : 0 + 0 ≤ _), (by decide : 0 + 0 ≤ _)⟩)
  dsimp only [Pt.U, Pt.locs, Pt.cells, Pt.slots] at X2 l2 y2 z2 st2 hQ2
  replace l2 := l2.symm
  subst l2 y2 z2
  obtain ⟨rfl, rfl, e2⟩ := hQ2
  first | rw [List.append_nil] at X2 | skip
  refine Goes.tr st2 ?_
  have e2' : T2.heap = h0 := e2
  show Goes p e below _ (T2.setTop (mkF m 6 #[vr a, vi i_] [(.int nz), (.int i_), (.ref a)]))
  obtain ⟨cq3, kq3, q3a, q3b, q3c⟩ := isOf hZ e2' E0_a
  obtain ⟨_, _, ⟨T3, L3, k3, n3⟩, -, X3, ⟨Lc3, hQ3, l3, y3, z3⟩, st3⟩ := X2.virtualBack hx (y := (⟨"java/lang/String", "substring", "(II)Ljava/lang/String;"⟩ : MethodName)) (z := (⟨"java/lang/String", "substring", "(II)Ljava/lang/String;"⟩ : MethodName)) hown (mvT hZ (own_w hw 116 rfl)) (mvT hZ (own_w hw 117 rfl)) (notFace_of_selects (args := #[]) (mvT hZ (own_w hw 119 rfl))) (mvT hZ (own_w hw 119 rfl)) (mvT hZ (own_w hw 118 rfl)) (by decide) (backOf (W := 0) (rm27 l Z a0 hw [] a i_ nz cS fo t kc N g nz q M h0 n0 (Nat.le_trans Z0 (Nat.le_refl _)) E0_a F1_a_coder F2_a_value A3_t S4_java_lang_String_COMPACT_STRINGS_COMPACT_STRINGS H_cs S6_jdk_internal_util_Preconditions_SIOOBE_FORMATTER_SIOOBE_FORMATTER Hfo Hnz Hq (by rw [HqM]; exact Hnz) (Nat.le_of_eq HqM) Hq0 HM0 HM16) hZ (own_w hw 120 rfl) (own_w hw 6 rfl) (by decide) (by decide)) q3a q3c (g := (mkF m 6 #[vr a, vi i_] [(.int nz), (.int i_), (.ref a)])) rfl (by rw [hml]; rfl) (Steps.refl _) (argsL := [(.int i_), (.int nz)]) (rest := []) (lenOf pd_14 rfl) rfl (by show 2 * 0 + _ ≤ _; exact Nat.le_of_eq rfl) (hb hby d26_6) (fun _ _ => ⟨rfl, e2', (by decide : 0 + 2 ≤ _), (by decide : 0 + 20 ≤ _)⟩)
  dsimp only [Pt.U, Pt.locs, Pt.cells, Pt.slots] at X3 l3 y3 z3 st3 hQ3
  replace l3 := l3.symm
  subst l3 y3 z3
  obtain ⟨r_3, nb3, kb3, rfl, N3q, K3, u3_0, u3_1, u3_2, u3_3, u3_4⟩ := hQ3
  have N3 := Fr.app N0 N3q
  refine Goes.tr st3 ?_
  have ne4 : a ≠ r_3 := Nat.ne_of_lt (Nat.lt_of_lt_of_le E0_a.lt u3_0)
  have ne5 : t ≠ r_3 := Nat.ne_of_lt (Nat.lt_of_lt_of_le A3_t.lt u3_0)
  have sz_r_3 : h0.size ≤ r_3 := Nat.le_trans (Nat.le_refl _) u3_0
  have gn_r_3 : n0 ≤ r_3 := Nat.le_trans Z0 sz_r_3
  -- u3_0 : h0.size ≤ r_3
  have ne6 : r_3 ≠ nb3 := own_ne_arr u3_1 (own_w hw 7 rfl) u3_4
  show Goes p e below _ (T3.setTop (mkF m 9 #[vr a, vi i_] [(.ref r_3)]))
  have K7 : Keep h0 T3.heap [] := ((Keep.refl h0 []).trans K3 all0)
  exact own_finR X3 hx hlk hret rfl rfl rfl (hb hby d26_9) (by exact ⟨r_3, nb3, kb3, rfl, N3, K7, sz_r_3, u3_1, u3_2, u3_3, u3_4⟩) (by first | decide | omega | (dsimp only; omega)) (by first | decide | omega | (dsimp only; omega))
def own_gP : Nat → Int32 := fun i => ([58, 47, 47] : List Int32).getD i 0
theorem ef_rmS4 (m : MethodId) (b : Addr) (b2 : Addr) : entryFrame m #[(.ref b), (.int (14 : Int32)), (.ref b2), (.int (3 : Int32)), (.int (0 : Int32))] 11 = mkF m 0 #[.val (.ref b), .val (.int (14 : Int32)), .val (.ref b2), .val (.int (3 : Int32)), .val (.int (0 : Int32)), .unset, .unset, .unset, .unset, .unset, .unset] [] := by first | (simp [entryFrame, mkF, argsToLocals, Value.category]; done) | rfl
def QrmS4 (Z : State) (b : Addr) (b2 : Addr) (kc : ClassId) (kd : ClassId) (g : Nat → Int32) (h0 : Heap) (n0 : Nat) (v_ : Option Value) (h_ : Heap) (L_ : List Loc) : Prop := v_ = some (.int (4 : Int32)) ∧ L_ = [] ∧ h_ = h0
theorem d19_0 : decode jdk_43_method_25_code 0 = .ok (.aload_n 2, 1) := by decide +kernel
theorem d19_1 : decode jdk_43_method_25_code 1 = .ok (.iconst 0, 1) := by decide +kernel
theorem d19_2 : decode jdk_43_method_25_code 2 = .ok (.baload, 1) := by decide +kernel
theorem d19_3 : decode jdk_43_method_25_code 3 = .ok (.istore 5, 2) := by decide +kernel
theorem d19_5 : decode jdk_43_method_25_code 5 = .ok (.iload_n 1, 1) := by decide +kernel
theorem d19_6 : decode jdk_43_method_25_code 6 = .ok (.iload_n 3, 1) := by decide +kernel
theorem d19_7 : decode jdk_43_method_25_code 7 = .ok (.isub, 1) := by decide +kernel
theorem d19_8 : decode jdk_43_method_25_code 8 = .ok (.istore 6, 2) := by decide +kernel
theorem d19_10 : decode jdk_43_method_25_code 10 = .ok (.iload 4, 2) := by decide +kernel
theorem d19_12 : decode jdk_43_method_25_code 12 = .ok (.istore 7, 2) := by decide +kernel
theorem d19_14 : decode jdk_43_method_25_code 14 = .ok (.iload 7, 2) := by decide +kernel
theorem d19_16 : decode jdk_43_method_25_code 16 = .ok (.iload 6, 2) := by decide +kernel
theorem d19_18 : decode jdk_43_method_25_code 18 = .ok (.if_icmp .gt 101, 3) := by decide +kernel
theorem d19_21 : decode jdk_43_method_25_code 21 = .ok (.aload_n 0, 1) := by decide +kernel
theorem d19_22 : decode jdk_43_method_25_code 22 = .ok (.iload 7, 2) := by decide +kernel
theorem d19_24 : decode jdk_43_method_25_code 24 = .ok (.baload, 1) := by decide +kernel
theorem d19_25 : decode jdk_43_method_25_code 25 = .ok (.iload 5, 2) := by decide +kernel
theorem d19_27 : decode jdk_43_method_25_code 27 = .ok (.if_icmp .eq 25, 3) := by decide +kernel
theorem d19_30 : decode jdk_43_method_25_code 30 = .ok (.iinc 7 1, 3) := by decide +kernel
theorem d19_33 : decode jdk_43_method_25_code 33 = .ok (.iload 7, 2) := by decide +kernel
theorem d19_35 : decode jdk_43_method_25_code 35 = .ok (.iload 6, 2) := by decide +kernel
theorem d19_37 : decode jdk_43_method_25_code 37 = .ok (.if_icmp .gt 15, 3) := by decide +kernel
theorem d19_40 : decode jdk_43_method_25_code 40 = .ok (.aload_n 0, 1) := by decide +kernel
theorem d19_41 : decode jdk_43_method_25_code 41 = .ok (.iload 7, 2) := by decide +kernel
theorem d19_43 : decode jdk_43_method_25_code 43 = .ok (.baload, 1) := by decide +kernel
theorem d19_44 : decode jdk_43_method_25_code 44 = .ok (.iload 5, 2) := by decide +kernel
theorem d19_46 : decode jdk_43_method_25_code 46 = .ok (.if_icmp .eq 6, 3) := by decide +kernel
theorem d19_49 : decode jdk_43_method_25_code 49 = .ok (.goto (-19), 3) := by decide +kernel
theorem d19_52 : decode jdk_43_method_25_code 52 = .ok (.iload 7, 2) := by decide +kernel
theorem d19_54 : decode jdk_43_method_25_code 54 = .ok (.iload 6, 2) := by decide +kernel
theorem d19_56 : decode jdk_43_method_25_code 56 = .ok (.if_icmp .gt 57, 3) := by decide +kernel
theorem d19_59 : decode jdk_43_method_25_code 59 = .ok (.iload 7, 2) := by decide +kernel
theorem d19_61 : decode jdk_43_method_25_code 61 = .ok (.iconst 1, 1) := by decide +kernel
theorem d19_62 : decode jdk_43_method_25_code 62 = .ok (.iadd, 1) := by decide +kernel
theorem d19_63 : decode jdk_43_method_25_code 63 = .ok (.istore 8, 2) := by decide +kernel
theorem d19_65 : decode jdk_43_method_25_code 65 = .ok (.iload 8, 2) := by decide +kernel
theorem d19_67 : decode jdk_43_method_25_code 67 = .ok (.iload_n 3, 1) := by decide +kernel
theorem d19_68 : decode jdk_43_method_25_code 68 = .ok (.iadd, 1) := by decide +kernel
theorem d19_69 : decode jdk_43_method_25_code 69 = .ok (.iconst 1, 1) := by decide +kernel
theorem d19_70 : decode jdk_43_method_25_code 70 = .ok (.isub, 1) := by decide +kernel
theorem d19_71 : decode jdk_43_method_25_code 71 = .ok (.istore 9, 2) := by decide +kernel
theorem d19_73 : decode jdk_43_method_25_code 73 = .ok (.iconst 1, 1) := by decide +kernel
theorem d19_74 : decode jdk_43_method_25_code 74 = .ok (.istore 10, 2) := by decide +kernel
theorem d19_76 : decode jdk_43_method_25_code 76 = .ok (.iload 8, 2) := by decide +kernel
theorem d19_78 : decode jdk_43_method_25_code 78 = .ok (.iload 9, 2) := by decide +kernel
theorem d19_80 : decode jdk_43_method_25_code 80 = .ok (.if_icmp .ge 23, 3) := by decide +kernel
theorem d19_83 : decode jdk_43_method_25_code 83 = .ok (.aload_n 0, 1) := by decide +kernel
theorem d19_84 : decode jdk_43_method_25_code 84 = .ok (.iload 8, 2) := by decide +kernel
theorem d19_86 : decode jdk_43_method_25_code 86 = .ok (.baload, 1) := by decide +kernel
theorem d19_87 : decode jdk_43_method_25_code 87 = .ok (.aload_n 2, 1) := by decide +kernel
theorem d19_88 : decode jdk_43_method_25_code 88 = .ok (.iload 10, 2) := by decide +kernel
theorem d19_90 : decode jdk_43_method_25_code 90 = .ok (.baload, 1) := by decide +kernel
theorem d19_91 : decode jdk_43_method_25_code 91 = .ok (.if_icmp .ne 12, 3) := by decide +kernel
theorem d19_94 : decode jdk_43_method_25_code 94 = .ok (.iinc 8 1, 3) := by decide +kernel
theorem d19_97 : decode jdk_43_method_25_code 97 = .ok (.iinc 10 1, 3) := by decide +kernel
theorem d19_100 : decode jdk_43_method_25_code 100 = .ok (.goto (-24), 3) := by decide +kernel
theorem d19_103 : decode jdk_43_method_25_code 103 = .ok (.iload 8, 2) := by decide +kernel
theorem d19_105 : decode jdk_43_method_25_code 105 = .ok (.iload 9, 2) := by decide +kernel
theorem d19_107 : decode jdk_43_method_25_code 107 = .ok (.if_icmp .ne 6, 3) := by decide +kernel
theorem d19_110 : decode jdk_43_method_25_code 110 = .ok (.iload 7, 2) := by decide +kernel
theorem d19_112 : decode jdk_43_method_25_code 112 = .ok (.ireturn, 1) := by decide +kernel
set_option maxRecDepth 65536 in
set_option maxHeartbeats 40000000 in
theorem rmS4 (l : Launch) (Z : State) (a0 : Array Value) (hw : ∀ d ∈ tables_1, d.before a0 Z = true) (ws : List Jvm.Cond) (b : Addr) (b2 : Addr) (kc : ClassId) (kd : ClassId) (g : Nat → Int32) (h0 : Heap) (n0 : Nat) (Z0 : n0 ≤ h0.size) (A0_b : Arw Z h0 b kc .byte 14 (fun i => .int (g i))) (A1_b2 : Arw Z h0 b2 kd .byte 3 (fun i => .int (own_gP i))) (Hn0 : g 0 ≠ (58 : Int32)) (Hn1 : g 1 ≠ (58 : Int32)) (Hn2 : g 2 ≠ (58 : Int32)) (Hn3 : g 3 ≠ (58 : Int32)) (Hp0 : g 4 = (58 : Int32)) (Hp1 : g 5 = (47 : Int32)) (Hp2 : g 6 = (47 : Int32)) :
    MetFree l (⟨"java/lang/StringLatin1", "indexOf", "([BI[BII)I"⟩ : MethodName) (head1 (Jvm.Cond.code (⟨"java/lang/StringLatin1", "indexOf", "([BI[BII)I"⟩ : MethodName) jdk_43_method_25_code 11 (some .int) :: ws) ({ frames := 0, cells := 0, slots := 0, locals := 0 } : Room)) (fun as_ U_ => as_ = #[(.ref b), (.int (14 : Int32)), (.ref b2), (.int (3 : Int32)), (.int (0 : Int32))] ∧ Z.Warmed39 U_.vm ∧ U_.heap = h0) (fun _ _ _ _ _ => True) (fun _ U_ o_ V_ => ∃ v_ L_, o_ = .returned v_ ∧ QrmS4 Z b b2 kc kd g h0 n0 v_ V_.heap L_ ∧ FrameEnd U_ o_ V_ L_ ({ frames := 0, cells := 0, slots := 0, locals := 0 } : Room).cells ({ frames := 0, cells := 0, slots := 0, locals := 0 } : Room).slots) := by
  refine MetFree.of_bodySF (plainFor_of_name pn_java_lang_StringLatin1) hisR ?_
  intro p e s m args below meth c s₁ Bd hml0 hP hK
  obtain ⟨rfl, hZ, hh⟩ := hP
  have hx := Bd.exec
  have hby := Bd.bytes
  have hlk : meth.locks = false := BodyLoose.notSynchronized Bd
  have hret := Bd.returns
  have hml : c.maxLocals = 11 := hml0
  have hown : s.vm.findClass "java/lang/StringLatin1" = some m.cls := findClass_of_methodNamed Bd.named
  have hnm := (name_of_methodNamed Bd.named Bd.method).1
  have X0 : Stand p l e ({ frames := 0, cells := 0, slots := 0, locals := 0 } : Room) s m #[(.ref b), (.int (14 : Int32)), (.ref b2), (.int (3 : Int32)), (.int (0 : Int32))] below meth c s₁ [] 0 0 := Stand.of_body Bd
  have e0 : s₁.heap = h0 := by rw [← hh, Bd.state]; rfl
  have N0 := Fr.nil n0
  show Goes p e below (Fin_ s (QrmS4 Z b b2 kc kd g h0 n0) ({ frames := 0, cells := 0, slots := 0, locals := 0 } : Room).cells ({ frames := 0, cells := 0, slots := 0, locals := 0 } : Room).slots) (s₁.setTop (entryFrame m #[(.ref b), (.int (14 : Int32)), (.ref b2), (.int (3 : Int32)), (.int (0 : Int32))] 11))
  rw [ef_rmS4 m b b2]
  refine gALN X0 hx hby d19_0 rfl rfl ?_
  refine gIC (z := 0) X0 hx hby d19_1 rfl ?_
  refine Goes.via (own_baload X0 hx hZ e0 A1_b2 (j := (0 : Int32)) (i := 0) (by decide) (by decide) (by decide) (v := (own_gP 0)) rfl (g := (mkF m 2 #[vr b, vi (14 : Int32), vr b2, vi (3 : Int32), vi (0 : Int32), .unset, .unset, .unset, .unset, .unset, .unset] [(.int (0 : Int32)), (.ref b2)])) rfl rfl (hb hby d19_2)) ?_
  show Goes p e below _ (s₁.setTop (mkF m 3 #[vr b, vi (14 : Int32), vr b2, vi (3 : Int32), vi (0 : Int32), .unset, .unset, .unset, .unset, .unset, .unset] [(.int (own_gP 0))]))
  refine Goes.via (fun _ kk_ => XS.istore X0.here hx rfl (hb hby d19_3) rfl (l' := #[vr b, vi (14 : Int32), vr b2, vi (3 : Int32), vi (0 : Int32), vi (own_gP 0), .unset, .unset, .unset, .unset, .unset]) rfl kk_) ?_
  show Goes p e below _ (s₁.setTop (mkF m 5 #[vr b, vi (14 : Int32), vr b2, vi (3 : Int32), vi (0 : Int32), vi (own_gP 0), .unset, .unset, .unset, .unset, .unset] []))
  refine gILN X0 hx hby d19_5 rfl ?_
  refine gILN X0 hx hby d19_6 rfl ?_
  refine Goes.via (fun _ kk_ => XS.isub X0.here hx rfl (hb hby d19_7) rfl kk_) ?_
  show Goes p e below _ (s₁.setTop (mkF m 8 #[vr b, vi (14 : Int32), vr b2, vi (3 : Int32), vi (0 : Int32), vi (own_gP 0), .unset, .unset, .unset, .unset, .unset] [(.int ((14 : Int32) - (3 : Int32)))]))
  rw [show ((14 : Int32) - (3 : Int32)) = (11 : Int32) from by decide]
  show Goes p e below _ (s₁.setTop (mkF m 8 #[vr b, vi (14 : Int32), vr b2, vi (3 : Int32), vi (0 : Int32), vi (own_gP 0), .unset, .unset, .unset, .unset, .unset] [(.int (11 : Int32))]))
  refine Goes.via (fun _ kk_ => XS.istore X0.here hx rfl (hb hby d19_8) rfl (l' := #[vr b, vi (14 : Int32), vr b2, vi (3 : Int32), vi (0 : Int32), vi (own_gP 0), vi (11 : Int32), .unset, .unset, .unset, .unset]) rfl kk_) ?_
  show Goes p e below _ (s₁.setTop (mkF m 10 #[vr b, vi (14 : Int32), vr b2, vi (3 : Int32), vi (0 : Int32), vi (own_gP 0), vi (11 : Int32), .unset, .unset, .unset, .unset] []))
  refine gIL X0 hx hby d19_10 rfl ?_
  refine Goes.via (fun _ kk_ => XS.istore X0.here hx rfl (hb hby d19_12) rfl (l' := #[vr b, vi (14 : Int32), vr b2, vi (3 : Int32), vi (0 : Int32), vi (own_gP 0), vi (11 : Int32), vi (0 : Int32), .unset, .unset, .unset]) rfl kk_) ?_
  show Goes p e below _ (s₁.setTop (mkF m 14 #[vr b, vi (14 : Int32), vr b2, vi (3 : Int32), vi (0 : Int32), vi (own_gP 0), vi (11 : Int32), vi (0 : Int32), .unset, .unset, .unset] []))
  refine gIL X0 hx hby d19_14 rfl ?_
  refine gIL X0 hx hby d19_16 rfl ?_
  have hc18_1 : ¬ ((11 : Int32) < (0 : Int32)) := (by decide)
  refine Goes.via (fun _ kk_ => XS.icmpNo X0.here hx rfl (hb hby d19_18) rfl (flt hc18_1).2.2.1 kk_) ?_
  show Goes p e below _ (s₁.setTop (mkF m 21 #[vr b, vi (14 : Int32), vr b2, vi (3 : Int32), vi (0 : Int32), vi (own_gP 0), vi (11 : Int32), vi (0 : Int32), .unset, .unset, .unset] []))
  refine gALN X0 hx hby d19_21 rfl rfl ?_
  refine gIL X0 hx hby d19_22 rfl ?_
  refine Goes.via (own_baload X0 hx hZ e0 A0_b (j := (0 : Int32)) (i := 0) (by decide) (by decide) (by decide) (v := (g 0)) rfl (g := (mkF m 24 #[vr b, vi (14 : Int32), vr b2, vi (3 : Int32), vi (0 : Int32), vi (own_gP 0), vi (11 : Int32), vi (0 : Int32), .unset, .unset, .unset] [(.int (0 : Int32)), (.ref b)])) rfl rfl (hb hby d19_24)) ?_
  show Goes p e below _ (s₁.setTop (mkF m 25 #[vr b, vi (14 : Int32), vr b2, vi (3 : Int32), vi (0 : Int32), vi (own_gP 0), vi (11 : Int32), vi (0 : Int32), .unset, .unset, .unset] [(.int (g 0))]))
  refine gIL X0 hx hby d19_25 rfl ?_
  have hc27_2 : ¬ ((g 0) = (own_gP 0)) := Hn0
  refine Goes.via (fun _ kk_ => XS.icmpNo X0.here hx rfl (hb hby d19_27) rfl (feq hc27_2).1 kk_) ?_
  show Goes p e below _ (s₁.setTop (mkF m 30 #[vr b, vi (14 : Int32), vr b2, vi (3 : Int32), vi (0 : Int32), vi (own_gP 0), vi (11 : Int32), vi (0 : Int32), .unset, .unset, .unset] []))
  refine Goes.via (fun _ kk_ => XS.iinc X0.here hx rfl (hb hby d19_30) rfl (l' := #[vr b, vi (14 : Int32), vr b2, vi (3 : Int32), vi (0 : Int32), vi (own_gP 0), vi (11 : Int32), vi ((0 : Int32) + (1 : Int32)), .unset, .unset, .unset]) rfl kk_) ?_
  show Goes p e below _ (s₁.setTop (mkF m 33 #[vr b, vi (14 : Int32), vr b2, vi (3 : Int32), vi (0 : Int32), vi (own_gP 0), vi (11 : Int32), vi ((0 : Int32) + (1 : Int32)), .unset, .unset, .unset] []))
  rw [show ((0 : Int32) + (1 : Int32)) = (1 : Int32) from by decide]
  show Goes p e below _ (s₁.setTop (mkF m 33 #[vr b, vi (14 : Int32), vr b2, vi (3 : Int32), vi (0 : Int32), vi (own_gP 0), vi (11 : Int32), vi (1 : Int32), .unset, .unset, .unset] []))
  refine gIL X0 hx hby d19_33 rfl ?_
  refine gIL X0 hx hby d19_35 rfl ?_
  have hc37_3 : ¬ ((11 : Int32) < (1 : Int32)) := (by decide)
  refine Goes.via (fun _ kk_ => XS.icmpNo X0.here hx rfl (hb hby d19_37) rfl (flt hc37_3).2.2.1 kk_) ?_
  show Goes p e below _ (s₁.setTop (mkF m 40 #[vr b, vi (14 : Int32), vr b2, vi (3 : Int32), vi (0 : Int32), vi (own_gP 0), vi (11 : Int32), vi (1 : Int32), .unset, .unset, .unset] []))
  refine gALN X0 hx hby d19_40 rfl rfl ?_
  refine gIL X0 hx hby d19_41 rfl ?_
  refine Goes.via (own_baload X0 hx hZ e0 A0_b (j := (1 : Int32)) (i := 1) (by decide) (by decide) (by decide) (v := (g 1)) rfl (g := (mkF m 43 #[vr b, vi (14 : Int32), vr b2, vi (3 : Int32), vi (0 : Int32), vi (own_gP 0), vi (11 : Int32), vi (1 : Int32), .unset, .unset, .unset] [(.int (1 : Int32)), (.ref b)])) rfl rfl (hb hby d19_43)) ?_
  show Goes p e below _ (s₁.setTop (mkF m 44 #[vr b, vi (14 : Int32), vr b2, vi (3 : Int32), vi (0 : Int32), vi (own_gP 0), vi (11 : Int32), vi (1 : Int32), .unset, .unset, .unset] [(.int (g 1))]))
  refine gIL X0 hx hby d19_44 rfl ?_
  have hc46_4 : ¬ ((g 1) = (own_gP 0)) := Hn1
  refine Goes.via (fun _ kk_ => XS.icmpNo X0.here hx rfl (hb hby d19_46) rfl (feq hc46_4).1 kk_) ?_
  show Goes p e below _ (s₁.setTop (mkF m 49 #[vr b, vi (14 : Int32), vr b2, vi (3 : Int32), vi (0 : Int32), vi (own_gP 0), vi (11 : Int32), vi (1 : Int32), .unset, .unset, .unset] []))
  refine Goes.via (fun _ kk_ => XS.goto X0.here hx rfl (pc0 := 49) (pc' := 30) rfl (hb hby d19_49) (by decide) (by decide) kk_) ?_
  show Goes p e below _ (s₁.setTop (mkF m 30 #[vr b, vi (14 : Int32), vr b2, vi (3 : Int32), vi (0 : Int32), vi (own_gP 0), vi (11 : Int32), vi (1 : Int32), .unset, .unset, .unset] []))
  refine Goes.via (fun _ kk_ => XS.iinc X0.here hx rfl (hb hby d19_30) rfl (l' := #[vr b, vi (14 : Int32), vr b2, vi (3 : Int32), vi (0 : Int32), vi (own_gP 0), vi (11 : Int32), vi ((1 : Int32) + (1 : Int32)), .unset, .unset, .unset]) rfl kk_) ?_
  show Goes p e below _ (s₁.setTop (mkF m 33 #[vr b, vi (14 : Int32), vr b2, vi (3 : Int32), vi (0 : Int32), vi (own_gP 0), vi (11 : Int32), vi ((1 : Int32) + (1 : Int32)), .unset, .unset, .unset] []))
  rw [show ((1 : Int32) + (1 : Int32)) = (2 : Int32) from by decide]
  show Goes p e below _ (s₁.setTop (mkF m 33 #[vr b, vi (14 : Int32), vr b2, vi (3 : Int32), vi (0 : Int32), vi (own_gP 0), vi (11 : Int32), vi (2 : Int32), .unset, .unset, .unset] []))
  refine gIL X0 hx hby d19_33 rfl ?_
  refine gIL X0 hx hby d19_35 rfl ?_
  have hc37_5 : ¬ ((11 : Int32) < (2 : Int32)) := (by decide)
  refine Goes.via (fun _ kk_ => XS.icmpNo X0.here hx rfl (hb hby d19_37) rfl (flt hc37_5).2.2.1 kk_) ?_
  show Goes p e below _ (s₁.setTop (mkF m 40 #[vr b, vi (14 : Int32), vr b2, vi (3 : Int32), vi (0 : Int32), vi (own_gP 0), vi (11 : Int32), vi (2 : Int32), .unset, .unset, .unset] []))
  refine gALN X0 hx hby d19_40 rfl rfl ?_
  refine gIL X0 hx hby d19_41 rfl ?_
  refine Goes.via (own_baload X0 hx hZ e0 A0_b (j := (2 : Int32)) (i := 2) (by decide) (by decide) (by decide) (v := (g 2)) rfl (g := (mkF m 43 #[vr b, vi (14 : Int32), vr b2, vi (3 : Int32), vi (0 : Int32), vi (own_gP 0), vi (11 : Int32), vi (2 : Int32), .unset, .unset, .unset] [(.int (2 : Int32)), (.ref b)])) rfl rfl (hb hby d19_43)) ?_
  show Goes p e below _ (s₁.setTop (mkF m 44 #[vr b, vi (14 : Int32), vr b2, vi (3 : Int32), vi (0 : Int32), vi (own_gP 0), vi (11 : Int32), vi (2 : Int32), .unset, .unset, .unset] [(.int (g 2))]))
  refine gIL X0 hx hby d19_44 rfl ?_
  have hc46_6 : ¬ ((g 2) = (own_gP 0)) := Hn2
  refine Goes.via (fun _ kk_ => XS.icmpNo X0.here hx rfl (hb hby d19_46) rfl (feq hc46_6).1 kk_) ?_
  show Goes p e below _ (s₁.setTop (mkF m 49 #[vr b, vi (14 : Int32), vr b2, vi (3 : Int32), vi (0 : Int32), vi (own_gP 0), vi (11 : Int32), vi (2 : Int32), .unset, .unset, .unset] []))
  refine Goes.via (fun _ kk_ => XS.goto X0.here hx rfl (pc0 := 49) (pc' := 30) rfl (hb hby d19_49) (by decide) (by decide) kk_) ?_
  show Goes p e below _ (s₁.setTop (mkF m 30 #[vr b, vi (14 : Int32), vr b2, vi (3 : Int32), vi (0 : Int32), vi (own_gP 0), vi (11 : Int32), vi (2 : Int32), .unset, .unset, .unset] []))
  refine Goes.via (fun _ kk_ => XS.iinc X0.here hx rfl (hb hby d19_30) rfl (l' := #[vr b, vi (14 : Int32), vr b2, vi (3 : Int32), vi (0 : Int32), vi (own_gP 0), vi (11 : Int32), vi ((2 : Int32) + (1 : Int32)), .unset, .unset, .unset]) rfl kk_) ?_
  show Goes p e below _ (s₁.setTop (mkF m 33 #[vr b, vi (14 : Int32), vr b2, vi (3 : Int32), vi (0 : Int32), vi (own_gP 0), vi (11 : Int32), vi ((2 : Int32) + (1 : Int32)), .unset, .unset, .unset] []))
  rw [show ((2 : Int32) + (1 : Int32)) = (3 : Int32) from by decide]
  show Goes p e below _ (s₁.setTop (mkF m 33 #[vr b, vi (14 : Int32), vr b2, vi (3 : Int32), vi (0 : Int32), vi (own_gP 0), vi (11 : Int32), vi (3 : Int32), .unset, .unset, .unset] []))
  refine gIL X0 hx hby d19_33 rfl ?_
  refine gIL X0 hx hby d19_35 rfl ?_
  have hc37_7 : ¬ ((11 : Int32) < (3 : Int32)) := (by decide)
  refine Goes.via (fun _ kk_ => XS.icmpNo X0.here hx rfl (hb hby d19_37) rfl (flt hc37_7).2.2.1 kk_) ?_
  show Goes p e below _ (s₁.setTop (mkF m 40 #[vr b, vi (14 : Int32), vr b2, vi (3 : Int32), vi (0 : Int32), vi (own_gP 0), vi (11 : Int32), vi (3 : Int32), .unset, .unset, .unset] []))
  refine gALN X0 hx hby d19_40 rfl rfl ?_
  refine gIL X0 hx hby d19_41 rfl ?_
  refine Goes.via (own_baload X0 hx hZ e0 A0_b (j := (3 : Int32)) (i := 3) (by decide) (by decide) (by decide) (v := (g 3)) rfl (g := (mkF m 43 #[vr b, vi (14 : Int32), vr b2, vi (3 : Int32), vi (0 : Int32), vi (own_gP 0), vi (11 : Int32), vi (3 : Int32), .unset, .unset, .unset] [(.int (3 : Int32)), (.ref b)])) rfl rfl (hb hby d19_43)) ?_
  show Goes p e below _ (s₁.setTop (mkF m 44 #[vr b, vi (14 : Int32), vr b2, vi (3 : Int32), vi (0 : Int32), vi (own_gP 0), vi (11 : Int32), vi (3 : Int32), .unset, .unset, .unset] [(.int (g 3))]))
  refine gIL X0 hx hby d19_44 rfl ?_
  have hc46_8 : ¬ ((g 3) = (own_gP 0)) := Hn3
  refine Goes.via (fun _ kk_ => XS.icmpNo X0.here hx rfl (hb hby d19_46) rfl (feq hc46_8).1 kk_) ?_
  show Goes p e below _ (s₁.setTop (mkF m 49 #[vr b, vi (14 : Int32), vr b2, vi (3 : Int32), vi (0 : Int32), vi (own_gP 0), vi (11 : Int32), vi (3 : Int32), .unset, .unset, .unset] []))
  refine Goes.via (fun _ kk_ => XS.goto X0.here hx rfl (pc0 := 49) (pc' := 30) rfl (hb hby d19_49) (by decide) (by decide) kk_) ?_
  show Goes p e below _ (s₁.setTop (mkF m 30 #[vr b, vi (14 : Int32), vr b2, vi (3 : Int32), vi (0 : Int32), vi (own_gP 0), vi (11 : Int32), vi (3 : Int32), .unset, .unset, .unset] []))
  refine Goes.via (fun _ kk_ => XS.iinc X0.here hx rfl (hb hby d19_30) rfl (l' := #[vr b, vi (14 : Int32), vr b2, vi (3 : Int32), vi (0 : Int32), vi (own_gP 0), vi (11 : Int32), vi ((3 : Int32) + (1 : Int32)), .unset, .unset, .unset]) rfl kk_) ?_
  show Goes p e below _ (s₁.setTop (mkF m 33 #[vr b, vi (14 : Int32), vr b2, vi (3 : Int32), vi (0 : Int32), vi (own_gP 0), vi (11 : Int32), vi ((3 : Int32) + (1 : Int32)), .unset, .unset, .unset] []))
  rw [show ((3 : Int32) + (1 : Int32)) = (4 : Int32) from by decide]
  show Goes p e below _ (s₁.setTop (mkF m 33 #[vr b, vi (14 : Int32), vr b2, vi (3 : Int32), vi (0 : Int32), vi (own_gP 0), vi (11 : Int32), vi (4 : Int32), .unset, .unset, .unset] []))
  refine gIL X0 hx hby d19_33 rfl ?_
  refine gIL X0 hx hby d19_35 rfl ?_
  have hc37_9 : ¬ ((11 : Int32) < (4 : Int32)) := (by decide)
  refine Goes.via (fun _ kk_ => XS.icmpNo X0.here hx rfl (hb hby d19_37) rfl (flt hc37_9).2.2.1 kk_) ?_
  show Goes p e below _ (s₁.setTop (mkF m 40 #[vr b, vi (14 : Int32), vr b2, vi (3 : Int32), vi (0 : Int32), vi (own_gP 0), vi (11 : Int32), vi (4 : Int32), .unset, .unset, .unset] []))
  refine gALN X0 hx hby d19_40 rfl rfl ?_
  refine gIL X0 hx hby d19_41 rfl ?_
  refine Goes.via (own_baload X0 hx hZ e0 A0_b (j := (4 : Int32)) (i := 4) (by decide) (by decide) (by decide) (v := (g 4)) rfl (g := (mkF m 43 #[vr b, vi (14 : Int32), vr b2, vi (3 : Int32), vi (0 : Int32), vi (own_gP 0), vi (11 : Int32), vi (4 : Int32), .unset, .unset, .unset] [(.int (4 : Int32)), (.ref b)])) rfl rfl (hb hby d19_43)) ?_
  show Goes p e below _ (s₁.setTop (mkF m 44 #[vr b, vi (14 : Int32), vr b2, vi (3 : Int32), vi (0 : Int32), vi (own_gP 0), vi (11 : Int32), vi (4 : Int32), .unset, .unset, .unset] [(.int (g 4))]))
  refine gIL X0 hx hby d19_44 rfl ?_
  have hc46_10 : (g 4) = (own_gP 0) := Hp0
  refine Goes.via (fun _ kk_ => XS.icmpYes X0.here hx rfl (pc0 := 46) (pc' := 52) rfl (hb hby d19_46) rfl (teq hc46_10).1 (by decide) (by decide) kk_) ?_
  show Goes p e below _ (s₁.setTop (mkF m 52 #[vr b, vi (14 : Int32), vr b2, vi (3 : Int32), vi (0 : Int32), vi (own_gP 0), vi (11 : Int32), vi (4 : Int32), .unset, .unset, .unset] []))
  refine gIL X0 hx hby d19_52 rfl ?_
  refine gIL X0 hx hby d19_54 rfl ?_
  have hc56_11 : ¬ ((11 : Int32) < (4 : Int32)) := (by decide)
  refine Goes.via (fun _ kk_ => XS.icmpNo X0.here hx rfl (hb hby d19_56) rfl (flt hc56_11).2.2.1 kk_) ?_
  show Goes p e below _ (s₁.setTop (mkF m 59 #[vr b, vi (14 : Int32), vr b2, vi (3 : Int32), vi (0 : Int32), vi (own_gP 0), vi (11 : Int32), vi (4 : Int32), .unset, .unset, .unset] []))
  refine gIL X0 hx hby d19_59 rfl ?_
  refine gIC (z := 1) X0 hx hby d19_61 rfl ?_
  refine Goes.via (fun _ kk_ => XS.iadd X0.here hx rfl (hb hby d19_62) rfl kk_) ?_
  show Goes p e below _ (s₁.setTop (mkF m 63 #[vr b, vi (14 : Int32), vr b2, vi (3 : Int32), vi (0 : Int32), vi (own_gP 0), vi (11 : Int32), vi (4 : Int32), .unset, .unset, .unset] [(.int ((4 : Int32) + (1 : Int32)))]))
  rw [show ((4 : Int32) + (1 : Int32)) = (5 : Int32) from by decide]
  show Goes p e below _ (s₁.setTop (mkF m 63 #[vr b, vi (14 : Int32), vr b2, vi (3 : Int32), vi (0 : Int32), vi (own_gP 0), vi (11 : Int32), vi (4 : Int32), .unset, .unset, .unset] [(.int (5 : Int32))]))
  refine Goes.via (fun _ kk_ => XS.istore X0.here hx rfl (hb hby d19_63) rfl (l' := #[vr b, vi (14 : Int32), vr b2, vi (3 : Int32), vi (0 : Int32), vi (own_gP 0), vi (11 : Int32), vi (4 : Int32), vi (5 : Int32), .unset, .unset]) rfl kk_) ?_
  show Goes p e below _ (s₁.setTop (mkF m 65 #[vr b, vi (14 : Int32), vr b2, vi (3 : Int32), vi (0 : Int32), vi (own_gP 0), vi (11 : Int32), vi (4 : Int32), vi (5 : Int32), .unset, .unset] []))
  refine gIL X0 hx hby d19_65 rfl ?_
  refine gILN X0 hx hby d19_67 rfl ?_
  refine Goes.via (fun _ kk_ => XS.iadd X0.here hx rfl (hb hby d19_68) rfl kk_) ?_
  show Goes p e below _ (s₁.setTop (mkF m 69 #[vr b, vi (14 : Int32), vr b2, vi (3 : Int32), vi (0 : Int32), vi (own_gP 0), vi (11 : Int32), vi (4 : Int32), vi (5 : Int32), .unset, .unset] [(.int ((5 : Int32) + (3 : Int32)))]))
  rw [show ((5 : Int32) + (3 : Int32)) = (8 : Int32) from by decide]
  show Goes p e below _ (s₁.setTop (mkF m 69 #[vr b, vi (14 : Int32), vr b2, vi (3 : Int32), vi (0 : Int32), vi (own_gP 0), vi (11 : Int32), vi (4 : Int32), vi (5 : Int32), .unset, .unset] [(.int (8 : Int32))]))
  refine gIC (z := 1) X0 hx hby d19_69 rfl ?_
  refine Goes.via (fun _ kk_ => XS.isub X0.here hx rfl (hb hby d19_70) rfl kk_) ?_
  show Goes p e below _ (s₁.setTop (mkF m 71 #[vr b, vi (14 : Int32), vr b2, vi (3 : Int32), vi (0 : Int32), vi (own_gP 0), vi (11 : Int32), vi (4 : Int32), vi (5 : Int32), .unset, .unset] [(.int ((8 : Int32) - (1 : Int32)))]))
  rw [show ((8 : Int32) - (1 : Int32)) = (7 : Int32) from by decide]
  show Goes p e below _ (s₁.setTop (mkF m 71 #[vr b, vi (14 : Int32), vr b2, vi (3 : Int32), vi (0 : Int32), vi (own_gP 0), vi (11 : Int32), vi (4 : Int32), vi (5 : Int32), .unset, .unset] [(.int (7 : Int32))]))
  refine Goes.via (fun _ kk_ => XS.istore X0.here hx rfl (hb hby d19_71) rfl (l' := #[vr b, vi (14 : Int32), vr b2, vi (3 : Int32), vi (0 : Int32), vi (own_gP 0), vi (11 : Int32), vi (4 : Int32), vi (5 : Int32), vi (7 : Int32), .unset]) rfl kk_) ?_
  show Goes p e below _ (s₁.setTop (mkF m 73 #[vr b, vi (14 : Int32), vr b2, vi (3 : Int32), vi (0 : Int32), vi (own_gP 0), vi (11 : Int32), vi (4 : Int32), vi (5 : Int32), vi (7 : Int32), .unset] []))
  refine gIC (z := 1) X0 hx hby d19_73 rfl ?_
  refine Goes.via (fun _ kk_ => XS.istore X0.here hx rfl (hb hby d19_74) rfl (l' := #[vr b, vi (14 : Int32), vr b2, vi (3 : Int32), vi (0 : Int32), vi (own_gP 0), vi (11 : Int32), vi (4 : Int32), vi (5 : Int32), vi (7 : Int32), vi (1 : Int32)]) rfl kk_) ?_
  show Goes p e below _ (s₁.setTop (mkF m 76 #[vr b, vi (14 : Int32), vr b2, vi (3 : Int32), vi (0 : Int32), vi (own_gP 0), vi (11 : Int32), vi (4 : Int32), vi (5 : Int32), vi (7 : Int32), vi (1 : Int32)] []))
  refine gIL X0 hx hby d19_76 rfl ?_
  refine gIL X0 hx hby d19_78 rfl ?_
  have hc80_12 : (5 : Int32) < (7 : Int32) := (by decide)
  refine Goes.via (fun _ kk_ => XS.icmpNo X0.here hx rfl (hb hby d19_80) rfl (tlt hc80_12).2.1 kk_) ?_
  show Goes p e below _ (s₁.setTop (mkF m 83 #[vr b, vi (14 : Int32), vr b2, vi (3 : Int32), vi (0 : Int32), vi (own_gP 0), vi (11 : Int32), vi (4 : Int32), vi (5 : Int32), vi (7 : Int32), vi (1 : Int32)] []))
  refine gALN X0 hx hby d19_83 rfl rfl ?_
  refine gIL X0 hx hby d19_84 rfl ?_
  refine Goes.via (own_baload X0 hx hZ e0 A0_b (j := (5 : Int32)) (i := 5) (by decide) (by decide) (by decide) (v := (g 5)) rfl (g := (mkF m 86 #[vr b, vi (14 : Int32), vr b2, vi (3 : Int32), vi (0 : Int32), vi (own_gP 0), vi (11 : Int32), vi (4 : Int32), vi (5 : Int32), vi (7 : Int32), vi (1 : Int32)] [(.int (5 : Int32)), (.ref b)])) rfl rfl (hb hby d19_86)) ?_
  show Goes p e below _ (s₁.setTop (mkF m 87 #[vr b, vi (14 : Int32), vr b2, vi (3 : Int32), vi (0 : Int32), vi (own_gP 0), vi (11 : Int32), vi (4 : Int32), vi (5 : Int32), vi (7 : Int32), vi (1 : Int32)] [(.int (g 5))]))
  refine gALN X0 hx hby d19_87 rfl rfl ?_
  refine gIL X0 hx hby d19_88 rfl ?_
  refine Goes.via (own_baload X0 hx hZ e0 A1_b2 (j := (1 : Int32)) (i := 1) (by decide) (by decide) (by decide) (v := (own_gP 1)) rfl (g := (mkF m 90 #[vr b, vi (14 : Int32), vr b2, vi (3 : Int32), vi (0 : Int32), vi (own_gP 0), vi (11 : Int32), vi (4 : Int32), vi (5 : Int32), vi (7 : Int32), vi (1 : Int32)] [(.int (1 : Int32)), (.ref b2), (.int (g 5))])) rfl rfl (hb hby d19_90)) ?_
  show Goes p e below _ (s₁.setTop (mkF m 91 #[vr b, vi (14 : Int32), vr b2, vi (3 : Int32), vi (0 : Int32), vi (own_gP 0), vi (11 : Int32), vi (4 : Int32), vi (5 : Int32), vi (7 : Int32), vi (1 : Int32)] [(.int (own_gP 1)), (.int (g 5))]))
  have hc91_13 : (g 5) = (own_gP 1) := Hp1
  refine Goes.via (fun _ kk_ => XS.icmpNo X0.here hx rfl (hb hby d19_91) rfl (teq hc91_13).2 kk_) ?_
  show Goes p e below _ (s₁.setTop (mkF m 94 #[vr b, vi (14 : Int32), vr b2, vi (3 : Int32), vi (0 : Int32), vi (own_gP 0), vi (11 : Int32), vi (4 : Int32), vi (5 : Int32), vi (7 : Int32), vi (1 : Int32)] []))
  refine Goes.via (fun _ kk_ => XS.iinc X0.here hx rfl (hb hby d19_94) rfl (l' := #[vr b, vi (14 : Int32), vr b2, vi (3 : Int32), vi (0 : Int32), vi (own_gP 0), vi (11 : Int32), vi (4 : Int32), vi ((5 : Int32) + (1 : Int32)), vi (7 : Int32), vi (1 : Int32)]) rfl kk_) ?_
  show Goes p e below _ (s₁.setTop (mkF m 97 #[vr b, vi (14 : Int32), vr b2, vi (3 : Int32), vi (0 : Int32), vi (own_gP 0), vi (11 : Int32), vi (4 : Int32), vi ((5 : Int32) + (1 : Int32)), vi (7 : Int32), vi (1 : Int32)] []))
  rw [show ((5 : Int32) + (1 : Int32)) = (6 : Int32) from by decide]
  show Goes p e below _ (s₁.setTop (mkF m 97 #[vr b, vi (14 : Int32), vr b2, vi (3 : Int32), vi (0 : Int32), vi (own_gP 0), vi (11 : Int32), vi (4 : Int32), vi (6 : Int32), vi (7 : Int32), vi (1 : Int32)] []))
  refine Goes.via (fun _ kk_ => XS.iinc X0.here hx rfl (hb hby d19_97) rfl (l' := #[vr b, vi (14 : Int32), vr b2, vi (3 : Int32), vi (0 : Int32), vi (own_gP 0), vi (11 : Int32), vi (4 : Int32), vi (6 : Int32), vi (7 : Int32), vi ((1 : Int32) + (1 : Int32))]) rfl kk_) ?_
  show Goes p e below _ (s₁.setTop (mkF m 100 #[vr b, vi (14 : Int32), vr b2, vi (3 : Int32), vi (0 : Int32), vi (own_gP 0), vi (11 : Int32), vi (4 : Int32), vi (6 : Int32), vi (7 : Int32), vi ((1 : Int32) + (1 : Int32))] []))
  rw [show ((1 : Int32) + (1 : Int32)) = (2 : Int32) from by decide]
  show Goes p e below _ (s₁.setTop (mkF m 100 #[vr b, vi (14 : Int32), vr b2, vi (3 : Int32), vi (0 : Int32), vi (own_gP 0), vi (11 : Int32), vi (4 : Int32), vi (6 : Int32), vi (7 : Int32), vi (2 : Int32)] []))
  refine Goes.via (fun _ kk_ => XS.goto X0.here hx rfl (pc0 := 100) (pc' := 76) rfl (hb hby d19_100) (by decide) (by decide) kk_) ?_
  show Goes p e below _ (s₁.setTop (mkF m 76 #[vr b, vi (14 : Int32), vr b2, vi (3 : Int32), vi (0 : Int32), vi (own_gP 0), vi (11 : Int32), vi (4 : Int32), vi (6 : Int32), vi (7 : Int32), vi (2 : Int32)] []))
  refine gIL X0 hx hby d19_76 rfl ?_
  refine gIL X0 hx hby d19_78 rfl ?_
  have hc80_14 : (6 : Int32) < (7 : Int32) := (by decide)
  refine Goes.via (fun _ kk_ => XS.icmpNo X0.here hx rfl (hb hby d19_80) rfl (tlt hc80_14).2.1 kk_) ?_
  show Goes p e below _ (s₁.setTop (mkF m 83 #[vr b, vi (14 : Int32), vr b2, vi (3 : Int32), vi (0 : Int32), vi (own_gP 0), vi (11 : Int32), vi (4 : Int32), vi (6 : Int32), vi (7 : Int32), vi (2 : Int32)] []))
  refine gALN X0 hx hby d19_83 rfl rfl ?_
  refine gIL X0 hx hby d19_84 rfl ?_
  refine Goes.via (own_baload X0 hx hZ e0 A0_b (j := (6 : Int32)) (i := 6) (by decide) (by decide) (by decide) (v := (g 6)) rfl (g := (mkF m 86 #[vr b, vi (14 : Int32), vr b2, vi (3 : Int32), vi (0 : Int32), vi (own_gP 0), vi (11 : Int32), vi (4 : Int32), vi (6 : Int32), vi (7 : Int32), vi (2 : Int32)] [(.int (6 : Int32)), (.ref b)])) rfl rfl (hb hby d19_86)) ?_
  show Goes p e below _ (s₁.setTop (mkF m 87 #[vr b, vi (14 : Int32), vr b2, vi (3 : Int32), vi (0 : Int32), vi (own_gP 0), vi (11 : Int32), vi (4 : Int32), vi (6 : Int32), vi (7 : Int32), vi (2 : Int32)] [(.int (g 6))]))
  refine gALN X0 hx hby d19_87 rfl rfl ?_
  refine gIL X0 hx hby d19_88 rfl ?_
  refine Goes.via (own_baload X0 hx hZ e0 A1_b2 (j := (2 : Int32)) (i := 2) (by decide) (by decide) (by decide) (v := (own_gP 2)) rfl (g := (mkF m 90 #[vr b, vi (14 : Int32), vr b2, vi (3 : Int32), vi (0 : Int32), vi (own_gP 0), vi (11 : Int32), vi (4 : Int32), vi (6 : Int32), vi (7 : Int32), vi (2 : Int32)] [(.int (2 : Int32)), (.ref b2), (.int (g 6))])) rfl rfl (hb hby d19_90)) ?_
  show Goes p e below _ (s₁.setTop (mkF m 91 #[vr b, vi (14 : Int32), vr b2, vi (3 : Int32), vi (0 : Int32), vi (own_gP 0), vi (11 : Int32), vi (4 : Int32), vi (6 : Int32), vi (7 : Int32), vi (2 : Int32)] [(.int (own_gP 2)), (.int (g 6))]))
  have hc91_15 : (g 6) = (own_gP 2) := Hp2
  refine Goes.via (fun _ kk_ => XS.icmpNo X0.here hx rfl (hb hby d19_91) rfl (teq hc91_15).2 kk_) ?_
  show Goes p e below _ (s₁.setTop (mkF m 94 #[vr b, vi (14 : Int32), vr b2, vi (3 : Int32), vi (0 : Int32), vi (own_gP 0), vi (11 : Int32), vi (4 : Int32), vi (6 : Int32), vi (7 : Int32), vi (2 : Int32)] []))
  refine Goes.via (fun _ kk_ => XS.iinc X0.here hx rfl (hb hby d19_94) rfl (l' := #[vr b, vi (14 : Int32), vr b2, vi (3 : Int32), vi (0 : Int32), vi (own_gP 0), vi (11 : Int32), vi (4 : Int32), vi ((6 : Int32) + (1 : Int32)), vi (7 : Int32), vi (2 : Int32)]) rfl kk_) ?_
  show Goes p e below _ (s₁.setTop (mkF m 97 #[vr b, vi (14 : Int32), vr b2, vi (3 : Int32), vi (0 : Int32), vi (own_gP 0), vi (11 : Int32), vi (4 : Int32), vi ((6 : Int32) + (1 : Int32)), vi (7 : Int32), vi (2 : Int32)] []))
  rw [show ((6 : Int32) + (1 : Int32)) = (7 : Int32) from by decide]
  show Goes p e below _ (s₁.setTop (mkF m 97 #[vr b, vi (14 : Int32), vr b2, vi (3 : Int32), vi (0 : Int32), vi (own_gP 0), vi (11 : Int32), vi (4 : Int32), vi (7 : Int32), vi (7 : Int32), vi (2 : Int32)] []))
  refine Goes.via (fun _ kk_ => XS.iinc X0.here hx rfl (hb hby d19_97) rfl (l' := #[vr b, vi (14 : Int32), vr b2, vi (3 : Int32), vi (0 : Int32), vi (own_gP 0), vi (11 : Int32), vi (4 : Int32), vi (7 : Int32), vi (7 : Int32), vi ((2 : Int32) + (1 : Int32))]) rfl kk_) ?_
  show Goes p e below _ (s₁.setTop (mkF m 100 #[vr b, vi (14 : Int32), vr b2, vi (3 : Int32), vi (0 : Int32), vi (own_gP 0), vi (11 : Int32), vi (4 : Int32), vi (7 : Int32), vi (7 : Int32), vi ((2 : Int32) + (1 : Int32))] []))
  rw [show ((2 : Int32) + (1 : Int32)) = (3 : Int32) from by decide]
  show Goes p e below _ (s₁.setTop (mkF m 100 #[vr b, vi (14 : Int32), vr b2, vi (3 : Int32), vi (0 : Int32), vi (own_gP 0), vi (11 : Int32), vi (4 : Int32), vi (7 : Int32), vi (7 : Int32), vi (3 : Int32)] []))
  refine Goes.via (fun _ kk_ => XS.goto X0.here hx rfl (pc0 := 100) (pc' := 76) rfl (hb hby d19_100) (by decide) (by decide) kk_) ?_
  show Goes p e below _ (s₁.setTop (mkF m 76 #[vr b, vi (14 : Int32), vr b2, vi (3 : Int32), vi (0 : Int32), vi (own_gP 0), vi (11 : Int32), vi (4 : Int32), vi (7 : Int32), vi (7 : Int32), vi (3 : Int32)] []))
  refine gIL X0 hx hby d19_76 rfl ?_
  refine gIL X0 hx hby d19_78 rfl ?_
  have hc80_16 : ¬ ((7 : Int32) < (7 : Int32)) := (by decide)
  refine Goes.via (fun _ kk_ => XS.icmpYes X0.here hx rfl (pc0 := 80) (pc' := 103) rfl (hb hby d19_80) rfl (flt hc80_16).2.1 (by decide) (by decide) kk_) ?_
  show Goes p e below _ (s₁.setTop (mkF m 103 #[vr b, vi (14 : Int32), vr b2, vi (3 : Int32), vi (0 : Int32), vi (own_gP 0), vi (11 : Int32), vi (4 : Int32), vi (7 : Int32), vi (7 : Int32), vi (3 : Int32)] []))
  refine gIL X0 hx hby d19_103 rfl ?_
  refine gIL X0 hx hby d19_105 rfl ?_
  have hc107_17 : (7 : Int32) = (7 : Int32) := (by decide)
  refine Goes.via (fun _ kk_ => XS.icmpNo X0.here hx rfl (hb hby d19_107) rfl (teq hc107_17).2 kk_) ?_
  show Goes p e below _ (s₁.setTop (mkF m 110 #[vr b, vi (14 : Int32), vr b2, vi (3 : Int32), vi (0 : Int32), vi (own_gP 0), vi (11 : Int32), vi (4 : Int32), vi (7 : Int32), vi (7 : Int32), vi (3 : Int32)] []))
  refine gIL X0 hx hby d19_110 rfl ?_
  exact own_finI X0 hx hlk hret (hb hby d19_112) (by rw [e0]; exact ⟨rfl, rfl, rfl⟩) (by first | decide | omega | (dsimp only; omega)) (by first | decide | omega | (dsimp only; omega))
theorem ef_rmT4 (m : MethodId) (b : Addr) (b2 : Addr) : entryFrame m #[(.ref b), (.ref b2)] 2 = mkF m 0 #[.val (.ref b), .val (.ref b2)] [] := by first | (simp [entryFrame, mkF, argsToLocals, Value.category]; done) | rfl
def QrmT4 (Z : State) (b : Addr) (b2 : Addr) (kc : ClassId) (kd : ClassId) (g : Nat → Int32) (h0 : Heap) (n0 : Nat) (v_ : Option Value) (h_ : Heap) (L_ : List Loc) : Prop := v_ = some (.int (4 : Int32)) ∧ L_ = [] ∧ h_ = h0
theorem d18_0 : decode jdk_43_method_24_code 0 = .ok (.aload_n 1, 1) := by decide +kernel
theorem d18_1 : decode jdk_43_method_24_code 1 = .ok (.arraylength, 1) := by decide +kernel
theorem d18_2 : decode jdk_43_method_24_code 2 = .ok (.ifCond .ne 5, 3) := by decide +kernel
theorem d18_7 : decode jdk_43_method_24_code 7 = .ok (.aload_n 0, 1) := by decide +kernel
theorem d18_8 : decode jdk_43_method_24_code 8 = .ok (.arraylength, 1) := by decide +kernel
theorem d18_9 : decode jdk_43_method_24_code 9 = .ok (.ifCond .ne 5, 3) := by decide +kernel
theorem d18_14 : decode jdk_43_method_24_code 14 = .ok (.aload_n 0, 1) := by decide +kernel
theorem d18_15 : decode jdk_43_method_24_code 15 = .ok (.aload_n 0, 1) := by decide +kernel
theorem d18_16 : decode jdk_43_method_24_code 16 = .ok (.arraylength, 1) := by decide +kernel
theorem d18_17 : decode jdk_43_method_24_code 17 = .ok (.aload_n 1, 1) := by decide +kernel
theorem d18_18 : decode jdk_43_method_24_code 18 = .ok (.aload_n 1, 1) := by decide +kernel
theorem d18_19 : decode jdk_43_method_24_code 19 = .ok (.arraylength, 1) := by decide +kernel
theorem d18_20 : decode jdk_43_method_24_code 20 = .ok (.iconst 0, 1) := by decide +kernel
theorem pd_15 : parseMethodDescriptor "([BI[BII)I" = some ⟨[(.array .byte), .int, (.array .byte), .int, .int], some .int⟩ := by decide +kernel
theorem d18_21 : decode jdk_43_method_24_code 21 = .ok (.invokestatic 99, 3) := by decide +kernel
theorem d18_24 : decode jdk_43_method_24_code 24 = .ok (.ireturn, 1) := by decide +kernel
set_option maxRecDepth 65536 in
set_option maxHeartbeats 40000000 in
theorem rmT4 (l : Launch) (Z : State) (a0 : Array Value) (hw : ∀ d ∈ tables_1, d.before a0 Z = true) (ws : List Jvm.Cond) (b : Addr) (b2 : Addr) (kc : ClassId) (kd : ClassId) (g : Nat → Int32) (h0 : Heap) (n0 : Nat) (Z0 : n0 ≤ h0.size) (A0_b : Arw Z h0 b kc .byte 14 (fun i => .int (g i))) (A1_b2 : Arw Z h0 b2 kd .byte 3 (fun i => .int (own_gP i))) (Hn0 : g 0 ≠ (58 : Int32)) (Hn1 : g 1 ≠ (58 : Int32)) (Hn2 : g 2 ≠ (58 : Int32)) (Hn3 : g 3 ≠ (58 : Int32)) (Hp0 : g 4 = (58 : Int32)) (Hp1 : g 5 = (47 : Int32)) (Hp2 : g 6 = (47 : Int32)) :
    MetFree l (⟨"java/lang/StringLatin1", "indexOf", "([B[B)I"⟩ : MethodName) (head1 (Jvm.Cond.code (⟨"java/lang/StringLatin1", "indexOf", "([B[B)I"⟩ : MethodName) jdk_43_method_24_code 2 (some .int) :: ws) ({ frames := 1, cells := 0, slots := 0, locals := 22 } : Room)) (fun as_ U_ => as_ = #[(.ref b), (.ref b2)] ∧ Z.Warmed39 U_.vm ∧ U_.heap = h0) (fun _ _ _ _ _ => True) (fun _ U_ o_ V_ => ∃ v_ L_, o_ = .returned v_ ∧ QrmT4 Z b b2 kc kd g h0 n0 v_ V_.heap L_ ∧ FrameEnd U_ o_ V_ L_ ({ frames := 1, cells := 0, slots := 0, locals := 22 } : Room).cells ({ frames := 1, cells := 0, slots := 0, locals := 22 } : Room).slots) := by
  refine MetFree.of_bodySF (plainFor_of_name pn_java_lang_StringLatin1) hisR ?_
  intro p e s m args below meth c s₁ Bd hml0 hP hK
  obtain ⟨rfl, hZ, hh⟩ := hP
  have hx := Bd.exec
  have hby := Bd.bytes
  have hlk : meth.locks = false := BodyLoose.notSynchronized Bd
  have hret := Bd.returns
  have hml : c.maxLocals = 2 := hml0
  have hown : s.vm.findClass "java/lang/StringLatin1" = some m.cls := findClass_of_methodNamed Bd.named
  have hnm := (name_of_methodNamed Bd.named Bd.method).1
  have X0 : Stand p l e ({ frames := 1, cells := 0, slots := 0, locals := 22 } : Room) s m #[(.ref b), (.ref b2)] below meth c s₁ [] 0 0 := Stand.of_body Bd
  have e0 : s₁.heap = h0 := by rw [← hh, Bd.state]; rfl
  have N0 := Fr.nil n0
  show Goes p e below (Fin_ s (QrmT4 Z b b2 kc kd g h0 n0) ({ frames := 1, cells := 0, slots := 0, locals := 22 } : Room).cells ({ frames := 1, cells := 0, slots := 0, locals := 22 } : Room).slots) (s₁.setTop (entryFrame m #[(.ref b), (.ref b2)] 2))
  rw [ef_rmT4 m b b2]
  refine gALN X0 hx hby d18_0 rfl rfl ?_
  refine Goes.via (own_alen X0 hx hZ e0 A1_b2 (g := (mkF m 1 #[vr b, vr b2] [(.ref b2)])) rfl rfl (hb hby d18_1)) ?_
  show Goes p e below _ (s₁.setTop (mkF m 2 #[vr b, vr b2] [(.int (3 : Int32))]))
  have hc2_1 : ¬ ((3 : Int32) = (0 : Int32)) := (by decide)
  refine Goes.via (fun _ kk_ => XS.ifYes X0.here hx rfl (pc0 := 2) (pc' := 7) rfl (hb hby d18_2) rfl ((if0 _ _).trans (feq hc2_1).2) (by decide) (by decide) kk_) ?_
  show Goes p e below _ (s₁.setTop (mkF m 7 #[vr b, vr b2] []))
  refine gALN X0 hx hby d18_7 rfl rfl ?_
  refine Goes.via (own_alen X0 hx hZ e0 A0_b (g := (mkF m 8 #[vr b, vr b2] [(.ref b)])) rfl rfl (hb hby d18_8)) ?_
  show Goes p e below _ (s₁.setTop (mkF m 9 #[vr b, vr b2] [(.int (14 : Int32))]))
  have hc9_2 : ¬ ((14 : Int32) = (0 : Int32)) := (by decide)
  refine Goes.via (fun _ kk_ => XS.ifYes X0.here hx rfl (pc0 := 9) (pc' := 14) rfl (hb hby d18_9) rfl ((if0 _ _).trans (feq hc9_2).2) (by decide) (by decide) kk_) ?_
  show Goes p e below _ (s₁.setTop (mkF m 14 #[vr b, vr b2] []))
  refine gALN X0 hx hby d18_14 rfl rfl ?_
  refine gALN X0 hx hby d18_15 rfl rfl ?_
  refine Goes.via (own_alen X0 hx hZ e0 A0_b (g := (mkF m 16 #[vr b, vr b2] [(.ref b), (.ref b)])) rfl rfl (hb hby d18_16)) ?_
  show Goes p e below _ (s₁.setTop (mkF m 17 #[vr b, vr b2] [(.int (14 : Int32)), (.ref b)]))
  refine gALN X0 hx hby d18_17 rfl rfl ?_
  refine gALN X0 hx hby d18_18 rfl rfl ?_
  refine Goes.via (own_alen X0 hx hZ e0 A1_b2 (g := (mkF m 19 #[vr b, vr b2] [(.ref b2), (.ref b2), (.int (14 : Int32)), (.ref b)])) rfl rfl (hb hby d18_19)) ?_
  show Goes p e below _ (s₁.setTop (mkF m 20 #[vr b, vr b2] [(.int (3 : Int32)), (.ref b2), (.int (14 : Int32)), (.ref b)]))
  refine gIC (z := 0) X0 hx hby d18_20 rfl ?_
  obtain ⟨_, _, ⟨T3, L3, k3, n3⟩, -, X3, ⟨Lc3, hQ3, l3, y3, z3⟩, st3⟩ := Jvm.LawKit.callS X0 hx (y := (⟨"java/lang/StringLatin1", "indexOf", "([BI[BII)I"⟩ : MethodName)) hown (mvT hZ (own_w hw 86 rfl)) (mvT hZ (own_w hw 87 rfl)) (mvT hZ (own_w hw 28 rfl)) (mvT hZ (own_w hw 88 rfl)) (by decide) (backOf (W := 0) (rmS4 l Z a0 hw [] b b2 kc kd g h0 n0 (Nat.le_trans Z0 (Nat.le_refl _)) A0_b A1_b2 Hn0 Hn1 Hn2 Hn3 Hp0 Hp1 Hp2) hZ (own_w hw 88 rfl) (own_w hw 28 rfl) (by decide) (by decide)) (g := (mkF m 21 #[vr b, vr b2] [(.int (0 : Int32)), (.int (3 : Int32)), (.ref b2), (.int (14 : Int32)), (.ref b)])) rfl (by rw [hml]; rfl) (argsL := [(.ref b), (.int (14 : Int32)), (.ref b2), (.int (3 : Int32)), (.int (0 : Int32))]) (rest := []) (lenOf pd_15 rfl) rfl (by show 2 * 0 + _ ≤ _; exact Nat.le_of_eq rfl) (hb hby d18_21) (fun _ _ => ⟨rfl, e0, (by decide : 0 + 0 ≤ _), (by decide : 0 + 0 ≤ _)⟩)
  dsimp only [Pt.U, Pt.locs, Pt.cells, Pt.slots] at X3 l3 y3 z3 st3 hQ3
  replace l3 := l3.symm
  subst l3 y3 z3
  obtain ⟨rfl, rfl, e3⟩ := hQ3
  first | rw [List.append_nil] at X3 | skip
  refine Goes.via st3 ?_
  have e3' : T3.heap = h0 := e3
  show Goes p e below _ (T3.setTop (mkF m 24 #[vr b, vr b2] [(.int (4 : Int32))]))
  exact own_finI X3 hx hlk hret (hb hby d18_24) (by rw [e3']; exact ⟨rfl, rfl, rfl⟩) (by first | decide | omega | (dsimp only; omega)) (by first | decide | omega | (dsimp only; omega))
theorem ef_rmU4 (m : MethodId) (a : Addr) (a2 : Addr) : entryFrame m #[(.ref a), (.ref a2)] 3 = mkF m 0 #[.val (.ref a), .val (.ref a2), .unset] [] := by first | (simp [entryFrame, mkF, argsToLocals, Value.category]; done) | rfl
def QrmU4 (Z : State) (a : Addr) (a2 : Addr) (cS : Int32) (b : Addr) (b2 : Addr) (kc : ClassId) (kd : ClassId) (g : Nat → Int32) (h0 : Heap) (n0 : Nat) (v_ : Option Value) (h_ : Heap) (L_ : List Loc) : Prop := v_ = some (.int (4 : Int32)) ∧ L_ = [] ∧ h_ = h0
theorem d17_0 : decode jdk_42_method_84_code 0 = .ok (.aload_n 0, 1) := by decide +kernel
theorem d17_1 : decode jdk_42_method_84_code 1 = .ok (.invokevirtual 335, 3) := by decide +kernel
theorem d17_4 : decode jdk_42_method_84_code 4 = .ok (.istore_n 2, 1) := by decide +kernel
theorem d17_5 : decode jdk_42_method_84_code 5 = .ok (.iload_n 2, 1) := by decide +kernel
theorem d17_6 : decode jdk_42_method_84_code 6 = .ok (.aload_n 1, 1) := by decide +kernel
theorem d17_7 : decode jdk_42_method_84_code 7 = .ok (.invokevirtual 335, 3) := by decide +kernel
theorem d17_10 : decode jdk_42_method_84_code 10 = .ok (.if_icmp .ne 36, 3) := by decide +kernel
theorem d17_13 : decode jdk_42_method_84_code 13 = .ok (.aload_n 0, 1) := by decide +kernel
theorem d17_14 : decode jdk_42_method_84_code 14 = .ok (.invokevirtual 492, 3) := by decide +kernel
theorem d17_17 : decode jdk_42_method_84_code 17 = .ok (.ifCond .eq 17, 3) := by decide +kernel
theorem d17_20 : decode jdk_42_method_84_code 20 = .ok (.aload_n 0, 1) := by decide +kernel
theorem d17_21 : decode jdk_42_method_84_code 21 = .ok (.getfield 9, 3) := by decide +kernel
theorem d17_24 : decode jdk_42_method_84_code 24 = .ok (.aload_n 1, 1) := by decide +kernel
theorem d17_25 : decode jdk_42_method_84_code 25 = .ok (.getfield 9, 3) := by decide +kernel
theorem pd_16 : parseMethodDescriptor "([B[B)I" = some ⟨[(.array .byte), (.array .byte)], some .int⟩ := by decide +kernel
theorem d17_28 : decode jdk_42_method_84_code 28 = .ok (.invokestatic 647, 3) := by decide +kernel
theorem d17_31 : decode jdk_42_method_84_code 31 = .ok (.goto 14, 3) := by decide +kernel
theorem d17_45 : decode jdk_42_method_84_code 45 = .ok (.ireturn, 1) := by decide +kernel
set_option maxRecDepth 65536 in
set_option maxHeartbeats 40000000 in
theorem rmU4 (l : Launch) (Z : State) (a0 : Array Value) (hw : ∀ d ∈ tables_1, d.before a0 Z = true) (ws : List Jvm.Cond) (a : Addr) (a2 : Addr) (cS : Int32) (b : Addr) (b2 : Addr) (kc : ClassId) (kd : ClassId) (g : Nat → Int32) (h0 : Heap) (n0 : Nat) (Z0 : n0 ≤ h0.size) (E0_a : Exa Z h0 a "java/lang/String") (F1_a_coder : Fld Z h0 a "java/lang/String" "coder" "B" (.int (0 : Int32))) (F2_a_value : Fld Z h0 a "java/lang/String" "value" "[B" (.ref b)) (A3_b : Arw Z h0 b kc .byte 14 (fun i => .int (g i))) (E4_a2 : Exa Z h0 a2 "java/lang/String") (F5_a2_coder : Fld Z h0 a2 "java/lang/String" "coder" "B" (.int (0 : Int32))) (F6_a2_value : Fld Z h0 a2 "java/lang/String" "value" "[B" (.ref b2)) (A7_b2 : Arw Z h0 b2 kd .byte 3 (fun i => .int (own_gP i))) (S8_java_lang_String_COMPACT_STRINGS_COMPACT_STRINGS : Sta Z h0 "java/lang/String" "COMPACT_STRINGS" "Z" (.int cS)) (H_cs : ¬ cS = (0 : Int32)) (Hn0 : g 0 ≠ (58 : Int32)) (Hn1 : g 1 ≠ (58 : Int32)) (Hn2 : g 2 ≠ (58 : Int32)) (Hn3 : g 3 ≠ (58 : Int32)) (Hp0 : g 4 = (58 : Int32)) (Hp1 : g 5 = (47 : Int32)) (Hp2 : g 6 = (47 : Int32)) :
    MetFree l (⟨"java/lang/String", "indexOf", "(Ljava/lang/String;)I"⟩ : MethodName) (head1 (Jvm.Cond.code (⟨"java/lang/String", "indexOf", "(Ljava/lang/String;)I"⟩ : MethodName) jdk_42_method_84_code 3 (some .int) :: ws) ({ frames := 2, cells := 0, slots := 0, locals := 35 } : Room)) (fun as_ U_ => as_ = #[(.ref a), (.ref a2)] ∧ Z.Warmed39 U_.vm ∧ U_.heap = h0) (fun _ _ _ _ _ => True) (fun _ U_ o_ V_ => ∃ v_ L_, o_ = .returned v_ ∧ QrmU4 Z a a2 cS b b2 kc kd g h0 n0 v_ V_.heap L_ ∧ FrameEnd U_ o_ V_ L_ ({ frames := 2, cells := 0, slots := 0, locals := 35 } : Room).cells ({ frames := 2, cells := 0, slots := 0, locals := 35 } : Room).slots) := by
  refine MetFree.of_bodySF (plainFor_of_name pn_java_lang_String) hisR ?_
  intro p e s m args below meth c s₁ Bd hml0 hP hK
  obtain ⟨rfl, hZ, hh⟩ := hP
  have hx := Bd.exec
  have hby := Bd.bytes
  have hlk : meth.locks = false := BodyLoose.notSynchronized Bd
  have hret := Bd.returns
  have hml : c.maxLocals = 3 := hml0
  have hown : s.vm.findClass "java/lang/String" = some m.cls := findClass_of_methodNamed Bd.named
  have hnm := (name_of_methodNamed Bd.named Bd.method).1
  have X0 : Stand p l e ({ frames := 2, cells := 0, slots := 0, locals := 35 } : Room) s m #[(.ref a), (.ref a2)] below meth c s₁ [] 0 0 := Stand.of_body Bd
  have e0 : s₁.heap = h0 := by rw [← hh, Bd.state]; rfl
  have N0 := Fr.nil n0
  show Goes p e below (Fin_ s (QrmU4 Z a a2 cS b b2 kc kd g h0 n0) ({ frames := 2, cells := 0, slots := 0, locals := 35 } : Room).cells ({ frames := 2, cells := 0, slots := 0, locals := 35 } : Room).slots) (s₁.setTop (entryFrame m #[(.ref a), (.ref a2)] 3))
  rw [ef_rmU4 m a a2]
  have ne1 : a ≠ b := own_ne_arr E0_a (own_w hw 7 rfl) A3_b
  have ne2 : a ≠ b2 := own_ne_arr E0_a (own_w hw 7 rfl) A7_b2
  have ne3 : a2 ≠ b := own_ne_arr E4_a2 (own_w hw 7 rfl) A3_b
  have ne4 : a2 ≠ b2 := own_ne_arr E4_a2 (own_w hw 7 rfl) A7_b2
  refine gALN X0 hx hby d17_0 rfl rfl ?_
  obtain ⟨cq5, kq5, q5a, q5b, q5c⟩ := isOf hZ e0 E0_a
  obtain ⟨_, _, ⟨T5, L5, k5, n5⟩, -, X5, ⟨Lc5, hQ5, l5, y5, z5⟩, st5⟩ := X0.virtualBack hx (y := (⟨"java/lang/String", "coder", "()B"⟩ : MethodName)) (z := (⟨"java/lang/String", "coder", "()B"⟩ : MethodName)) hown (mvT hZ (own_w hw 47 rfl)) (mvT hZ (own_w hw 48 rfl)) (notFace_of_selects (args := #[]) (mvT hZ (own_w hw 50 rfl))) (mvT hZ (own_w hw 50 rfl)) (mvT hZ (own_w hw 49 rfl)) (by decide) (backOf (W := 0) (rm9 l Z a0 hw [] a cS h0 n0 (Nat.le_trans Z0 (Nat.le_refl _)) F1_a_coder S8_java_lang_String_COMPACT_STRINGS_COMPACT_STRINGS H_cs) hZ (own_w hw 51 rfl) (own_w hw 6 rfl) (by decide) (by decide)) q5a q5c (g := (mkF m 1 #[vr a, vr a2, .unset] [(.ref a)])) rfl (by rw [hml]; rfl) (Steps.refl _) (argsL := []) (rest := []) (lenOf pd_0 rfl) rfl (by show 2 * 0 + _ ≤ _; exact Nat.le_of_eq rfl) (hb hby d17_1) (fun _ _ => ⟨rfl, e0, (by decide : 0 + 0 ≤ _), (by decide : 0 + 0 ≤ _)⟩)
  dsimp only [Pt.U, Pt.locs, Pt.cells, Pt.slots] at X5 l5 y5 z5 st5 hQ5
  replace l5 := l5.symm
  subst l5 y5 z5
  obtain ⟨rfl, rfl, e5⟩ := hQ5
  first | rw [List.append_nil] at X5 | skip
  refine Goes.tr st5 ?_
  have e5' : T5.heap = h0 := e5
  show Goes p e below _ (T5.setTop (mkF m 4 #[vr a, vr a2, .unset] [(.int (0 : Int32))]))
  refine Goes.via (fun _ kk_ => XS.istoreN X5.here hx rfl (hb hby d17_4) rfl (l' := #[vr a, vr a2, vi (0 : Int32)]) rfl kk_) ?_
  show Goes p e below _ (T5.setTop (mkF m 5 #[vr a, vr a2, vi (0 : Int32)] []))
  refine gILN X5 hx hby d17_5 rfl ?_
  refine gALN X5 hx hby d17_6 rfl rfl ?_
  obtain ⟨cq6, kq6, q6a, q6b, q6c⟩ := isOf hZ e5' E4_a2
  obtain ⟨_, _, ⟨T6, L6, k6, n6⟩, -, X6, ⟨Lc6, hQ6, l6, y6, z6⟩, st6⟩ := X5.virtualBack hx (y := (⟨"java/lang/String", "coder", "()B"⟩ : MethodName)) (z := (⟨"java/lang/String", "coder", "()B"⟩ : MethodName)) hown (mvT hZ (own_w hw 47 rfl)) (mvT hZ (own_w hw 48 rfl)) (notFace_of_selects (args := #[]) (mvT hZ (own_w hw 50 rfl))) (mvT hZ (own_w hw 50 rfl)) (mvT hZ (own_w hw 49 rfl)) (by decide) (backOf (W := 1) (rm9 l Z a0 hw [] a2 cS h0 n0 (Nat.le_trans Z0 (Nat.le_refl _)) F5_a2_coder S8_java_lang_String_COMPACT_STRINGS_COMPACT_STRINGS H_cs) hZ (own_w hw 51 rfl) (own_w hw 6 rfl) (by decide) (by decide)) q6a q6c (g := (mkF m 7 #[vr a, vr a2, vi (0 : Int32)] [(.ref a2), (.int (0 : Int32))])) rfl (by rw [hml]; rfl) (Steps.refl _) (argsL := []) (rest := [(.int (0 : Int32))]) (lenOf pd_0 rfl) rfl (by show 2 * 0 + _ ≤ _; exact Nat.le_of_eq rfl) (hb hby d17_7) (fun _ _ => ⟨rfl, e5', (by decide : 0 + 0 ≤ _), (by decide : 0 + 0 ≤ _)⟩)
  dsimp only [Pt.U, Pt.locs, Pt.cells, Pt.slots] at X6 l6 y6 z6 st6 hQ6
  replace l6 := l6.symm
  subst l6 y6 z6
  obtain ⟨rfl, rfl, e6⟩ := hQ6
  first | rw [List.append_nil] at X6 | skip
  refine Goes.tr st6 ?_
  have e6' : T6.heap = h0 := e6
  show Goes p e below _ (T6.setTop (mkF m 10 #[vr a, vr a2, vi (0 : Int32)] [(.int (0 : Int32)), (.int (0 : Int32))]))
  have hc10_7 : (0 : Int32) = (0 : Int32) := (by decide)
  refine Goes.via (fun _ kk_ => XS.icmpNo X6.here hx rfl (hb hby d17_10) rfl (teq hc10_7).2 kk_) ?_
  show Goes p e below _ (T6.setTop (mkF m 13 #[vr a, vr a2, vi (0 : Int32)] []))
  refine gALN X6 hx hby d17_13 rfl rfl ?_
  obtain ⟨cq8, kq8, q8a, q8b, q8c⟩ := isOf hZ e6' E0_a
  obtain ⟨_, _, ⟨T8, L8, k8, n8⟩, -, X8, ⟨Lc8, hQ8, l8, y8, z8⟩, st8⟩ := X6.virtualBack hx (y := (⟨"java/lang/String", "isLatin1", "()Z"⟩ : MethodName)) (z := (⟨"java/lang/String", "isLatin1", "()Z"⟩ : MethodName)) hown (mvT hZ (own_w hw 18 rfl)) (mvT hZ (own_w hw 19 rfl)) (notFace_of_selects (args := #[]) (mvT hZ (own_w hw 21 rfl))) (mvT hZ (own_w hw 21 rfl)) (mvT hZ (own_w hw 20 rfl)) (by decide) (backOf (W := 0) (rm3 l Z a0 hw [] a cS h0 n0 (Nat.le_trans Z0 (Nat.le_refl _)) F1_a_coder S8_java_lang_String_COMPACT_STRINGS_COMPACT_STRINGS H_cs) hZ (own_w hw 22 rfl) (own_w hw 6 rfl) (by decide) (by decide)) q8a q8c (g := (mkF m 14 #[vr a, vr a2, vi (0 : Int32)] [(.ref a)])) rfl (by rw [hml]; rfl) (Steps.refl _) (argsL := []) (rest := []) (lenOf pd_3 rfl) rfl (by show 2 * 0 + _ ≤ _; exact Nat.le_of_eq rfl) (hb hby d17_14) (fun _ _ => ⟨rfl, e6', (by decide : 0 + 0 ≤ _), (by decide : 0 + 0 ≤ _)⟩)
  dsimp only [Pt.U, Pt.locs, Pt.cells, Pt.slots] at X8 l8 y8 z8 st8 hQ8
  replace l8 := l8.symm
  subst l8 y8 z8
  obtain ⟨rfl, rfl, e8⟩ := hQ8
  first | rw [List.append_nil] at X8 | skip
  refine Goes.tr st8 ?_
  have e8' : T8.heap = h0 := e8
  show Goes p e below _ (T8.setTop (mkF m 17 #[vr a, vr a2, vi (0 : Int32)] [(.int (1 : Int32))]))
  have hc17_9 : ¬ ((1 : Int32) = (0 : Int32)) := (by decide)
  refine Goes.via (fun _ kk_ => XS.ifNo X8.here hx rfl (hb hby d17_17) rfl ((if0 _ _).trans (feq hc17_9).1) kk_) ?_
  show Goes p e below _ (T8.setTop (mkF m 20 #[vr a, vr a2, vi (0 : Int32)] []))
  refine gALN X8 hx hby d17_20 rfl rfl ?_
  obtain ⟨T10, X10, e10, st10⟩ := getF X8 hx hZ hown (host := "") (Or.inl (own_w hw 25 rfl)) Via.refl e8' F2_a_value (g := (mkF m 21 #[vr a, vr a2, vi (0 : Int32)] [(.ref a)])) rfl rfl (hb hby d17_21)
  refine Goes.via st10 ?_
  show Goes p e below _ (T10.setTop (mkF m 24 #[vr a, vr a2, vi (0 : Int32)] [(.ref b)]))
  refine gALN X10 hx hby d17_24 rfl rfl ?_
  obtain ⟨T11, X11, e11, st11⟩ := getF X10 hx hZ hown (host := "") (Or.inl (own_w hw 25 rfl)) Via.refl e10 F6_a2_value (g := (mkF m 25 #[vr a, vr a2, vi (0 : Int32)] [(.ref a2), (.ref b)])) rfl rfl (hb hby d17_25)
  refine Goes.via st11 ?_
  show Goes p e below _ (T11.setTop (mkF m 28 #[vr a, vr a2, vi (0 : Int32)] [(.ref b2), (.ref b)]))
  obtain ⟨_, _, ⟨T12, L12, k12, n12⟩, -, X12, ⟨Lc12, hQ12, l12, y12, z12⟩, st12⟩ := Jvm.LawKit.callS X11 hx (y := (⟨"java/lang/StringLatin1", "indexOf", "([B[B)I"⟩ : MethodName)) hown (mvT hZ (own_w hw 83 rfl)) (mvT hZ (own_w hw 84 rfl)) (mvT hZ (own_w hw 28 rfl)) (mvT hZ (own_w hw 85 rfl)) (by decide) (backOf (W := 0) (rmT4 l Z a0 hw [] b b2 kc kd g h0 n0 (Nat.le_trans Z0 (Nat.le_refl _)) A3_b A7_b2 Hn0 Hn1 Hn2 Hn3 Hp0 Hp1 Hp2) hZ (own_w hw 85 rfl) (own_w hw 28 rfl) (by decide) (by decide)) (g := (mkF m 28 #[vr a, vr a2, vi (0 : Int32)] [(.ref b2), (.ref b)])) rfl (by rw [hml]; rfl) (argsL := [(.ref b), (.ref b2)]) (rest := []) (lenOf pd_16 rfl) rfl (by show 2 * 0 + _ ≤ _; exact Nat.le_of_eq rfl) (hb hby d17_28) (fun _ _ => ⟨rfl, e11, (by decide : 0 + 0 ≤ _), (by decide : 0 + 0 ≤ _)⟩)
  dsimp only [Pt.U, Pt.locs, Pt.cells, Pt.slots] at X12 l12 y12 z12 st12 hQ12
  replace l12 := l12.symm
  subst l12 y12 z12
  obtain ⟨rfl, rfl, e12⟩ := hQ12
  first | rw [List.append_nil] at X12 | skip
  refine Goes.via st12 ?_
  have e12' : T12.heap = h0 := e12
  show Goes p e below _ (T12.setTop (mkF m 31 #[vr a, vr a2, vi (0 : Int32)] [(.int (4 : Int32))]))
  refine Goes.via (fun _ kk_ => XS.goto X12.here hx rfl (pc0 := 31) (pc' := 45) rfl (hb hby d17_31) (by decide) (by decide) kk_) ?_
  show Goes p e below _ (T12.setTop (mkF m 45 #[vr a, vr a2, vi (0 : Int32)] [(.int (4 : Int32))]))
  exact own_finI X12 hx hlk hret (hb hby d17_45) (by rw [e12']; exact ⟨rfl, rfl, rfl⟩) (by first | decide | omega | (dsimp only; omega)) (by first | decide | omega | (dsimp only; omega))
theorem ef_rmS5 (m : MethodId) (b : Addr) (b2 : Addr) : entryFrame m #[(.ref b), (.int (14 : Int32)), (.ref b2), (.int (3 : Int32)), (.int (0 : Int32))] 11 = mkF m 0 #[.val (.ref b), .val (.int (14 : Int32)), .val (.ref b2), .val (.int (3 : Int32)), .val (.int (0 : Int32)), .unset, .unset, .unset, .unset, .unset, .unset] [] := by first | (simp [entryFrame, mkF, argsToLocals, Value.category]; done) | rfl
def QrmS5 (Z : State) (b : Addr) (b2 : Addr) (kc : ClassId) (kd : ClassId) (g : Nat → Int32) (h0 : Heap) (n0 : Nat) (v_ : Option Value) (h_ : Heap) (L_ : List Loc) : Prop := v_ = some (.int (5 : Int32)) ∧ L_ = [] ∧ h_ = h0
set_option maxRecDepth 65536 in
set_option maxHeartbeats 40000000 in
theorem rmS5 (l : Launch) (Z : State) (a0 : Array Value) (hw : ∀ d ∈ tables_1, d.before a0 Z = true) (ws : List Jvm.Cond) (b : Addr) (b2 : Addr) (kc : ClassId) (kd : ClassId) (g : Nat → Int32) (h0 : Heap) (n0 : Nat) (Z0 : n0 ≤ h0.size) (A0_b : Arw Z h0 b kc .byte 14 (fun i => .int (g i))) (A1_b2 : Arw Z h0 b2 kd .byte 3 (fun i => .int (own_gP i))) (Hn0 : g 0 ≠ (58 : Int32)) (Hn1 : g 1 ≠ (58 : Int32)) (Hn2 : g 2 ≠ (58 : Int32)) (Hn3 : g 3 ≠ (58 : Int32)) (Hn4 : g 4 ≠ (58 : Int32)) (Hp0 : g 5 = (58 : Int32)) (Hp1 : g 6 = (47 : Int32)) (Hp2 : g 7 = (47 : Int32)) :
    MetFree l (⟨"java/lang/StringLatin1", "indexOf", "([BI[BII)I"⟩ : MethodName) (head1 (Jvm.Cond.code (⟨"java/lang/StringLatin1", "indexOf", "([BI[BII)I"⟩ : MethodName) jdk_43_method_25_code 11 (some .int) :: ws) ({ frames := 0, cells := 0, slots := 0, locals := 0 } : Room)) (fun as_ U_ => as_ = #[(.ref b), (.int (14 : Int32)), (.ref b2), (.int (3 : Int32)), (.int (0 : Int32))] ∧ Z.Warmed39 U_.vm ∧ U_.heap = h0) (fun _ _ _ _ _ => True) (fun _ U_ o_ V_ => ∃ v_ L_, o_ = .returned v_ ∧ QrmS5 Z b b2 kc kd g h0 n0 v_ V_.heap L_ ∧ FrameEnd U_ o_ V_ L_ ({ frames := 0, cells := 0, slots := 0, locals := 0 } : Room).cells ({ frames := 0, cells := 0, slots := 0, locals := 0 } : Room).slots) := by
  refine MetFree.of_bodySF (plainFor_of_name pn_java_lang_StringLatin1) hisR ?_
  intro p e s m args below meth c s₁ Bd hml0 hP hK
  obtain ⟨rfl, hZ, hh⟩ := hP
  have hx := Bd.exec
  have hby := Bd.bytes
  have hlk : meth.locks = false := BodyLoose.notSynchronized Bd
  have hret := Bd.returns
  have hml : c.maxLocals = 11 := hml0
  have hown : s.vm.findClass "java/lang/StringLatin1" = some m.cls := findClass_of_methodNamed Bd.named
  have hnm := (name_of_methodNamed Bd.named Bd.method).1
  have X0 : Stand p l e ({ frames := 0, cells := 0, slots := 0, locals := 0 } : Room) s m #[(.ref b), (.int (14 : Int32)), (.ref b2), (.int (3 : Int32)), (.int (0 : Int32))] below meth c s₁ [] 0 0 := Stand.of_body Bd
  have e0 : s₁.heap = h0 := by rw [← hh, Bd.state]; rfl
  have N0 := Fr.nil n0
  show Goes p e below (Fin_ s (QrmS5 Z b b2 kc kd g h0 n0) ({ frames := 0, cells := 0, slots := 0, locals := 0 } : Room).cells ({ frames := 0, cells := 0, slots := 0, locals := 0 } : Room).slots) (s₁.setTop (entryFrame m #[(.ref b), (.int (14 : Int32)), (.ref b2), (.int (3 : Int32)), (.int (0 : Int32))] 11))
  rw [ef_rmS5 m b b2]
  refine gALN X0 hx hby d19_0 rfl rfl ?_
  refine gIC (z := 0) X0 hx hby d19_1 rfl ?_
  refine Goes.via (own_baload X0 hx hZ e0 A1_b2 (j := (0 : Int32)) (i := 0) (by decide) (by decide) (by decide) (v := (own_gP 0)) rfl (g := (mkF m 2 #[vr b, vi (14 : Int32), vr b2, vi (3 : Int32), vi (0 : Int32), .unset, .unset, .unset, .unset, .unset, .unset] [(.int (0 : Int32)), (.ref b2)])) rfl rfl (hb hby d19_2)) ?_
  show Goes p e below _ (s₁.setTop (mkF m 3 #[vr b, vi (14 : Int32), vr b2, vi (3 : Int32), vi (0 : Int32), .unset, .unset, .unset, .unset, .unset, .unset] [(.int (own_gP 0))]))
  refine Goes.via (fun _ kk_ => XS.istore X0.here hx rfl (hb hby d19_3) rfl (l' := #[vr b, vi (14 : Int32), vr b2, vi (3 : Int32), vi (0 : Int32), vi (own_gP 0), .unset, .unset, .unset, .unset, .unset]) rfl kk_) ?_
  show Goes p e below _ (s₁.setTop (mkF m 5 #[vr b, vi (14 : Int32), vr b2, vi (3 : Int32), vi (0 : Int32), vi (own_gP 0), .unset, .unset, .unset, .unset, .unset] []))
  refine gILN X0 hx hby d19_5 rfl ?_
  refine gILN X0 hx hby d19_6 rfl ?_
  refine Goes.via (fun _ kk_ => XS.isub X0.here hx rfl (hb hby d19_7) rfl kk_) ?_
  show Goes p e below _ (s₁.setTop (mkF m 8 #[vr b, vi (14 : Int32), vr b2, vi (3 : Int32), vi (0 : Int32), vi (own_gP 0), .unset, .unset, .unset, .unset, .unset] [(.int ((14 : Int32) - (3 : Int32)))]))
  rw [show ((14 : Int32) - (3 : Int32)) = (11 : Int32) from by decide]
  show Goes p e below _ (s₁.setTop (mkF m 8 #[vr b, vi (14 : Int32), vr b2, vi (3 : Int32), vi (0 : Int32), vi (own_gP 0), .unset, .unset, .unset, .unset, .unset] [(.int (11 : Int32))]))
  refine Goes.via (fun _ kk_ => XS.istore X0.here hx rfl (hb hby d19_8) rfl (l' := #[vr b, vi (14 : Int32), vr b2, vi (3 : Int32), vi (0 : Int32), vi (own_gP 0), vi (11 : Int32), .unset, .unset, .unset, .unset]) rfl kk_) ?_
  show Goes p e below _ (s₁.setTop (mkF m 10 #[vr b, vi (14 : Int32), vr b2, vi (3 : Int32), vi (0 : Int32), vi (own_gP 0), vi (11 : Int32), .unset, .unset, .unset, .unset] []))
  refine gIL X0 hx hby d19_10 rfl ?_
  refine Goes.via (fun _ kk_ => XS.istore X0.here hx rfl (hb hby d19_12) rfl (l' := #[vr b, vi (14 : Int32), vr b2, vi (3 : Int32), vi (0 : Int32), vi (own_gP 0), vi (11 : Int32), vi (0 : Int32), .unset, .unset, .unset]) rfl kk_) ?_
  show Goes p e below _ (s₁.setTop (mkF m 14 #[vr b, vi (14 : Int32), vr b2, vi (3 : Int32), vi (0 : Int32), vi (own_gP 0), vi (11 : Int32), vi (0 : Int32), .unset, .unset, .unset] []))
  refine gIL X0 hx hby d19_14 rfl ?_
  refine gIL X0 hx hby d19_16 rfl ?_
  have hc18_1 : ¬ ((11 : Int32) < (0 : Int32)) := (by decide)
  refine Goes.via (fun _ kk_ => XS.icmpNo X0.here hx rfl (hb hby d19_18) rfl (flt hc18_1).2.2.1 kk_) ?_
  show Goes p e below _ (s₁.setTop (mkF m 21 #[vr b, vi (14 : Int32), vr b2, vi (3 : Int32), vi (0 : Int32), vi (own_gP 0), vi (11 : Int32), vi (0 : Int32), .unset, .unset, .unset] []))
  refine gALN X0 hx hby d19_21 rfl rfl ?_
  refine gIL X0 hx hby d19_22 rfl ?_
  refine Goes.via (own_baload X0 hx hZ e0 A0_b (j := (0 : Int32)) (i := 0) (by decide) (by decide) (by decide) (v := (g 0)) rfl (g := (mkF m 24 #[vr b, vi (14 : Int32), vr b2, vi (3 : Int32), vi (0 : Int32), vi (own_gP 0), vi (11 : Int32), vi (0 : Int32), .unset, .unset, .unset] [(.int (0 : Int32)), (.ref b)])) rfl rfl (hb hby d19_24)) ?_
  show Goes p e below _ (s₁.setTop (mkF m 25 #[vr b, vi (14 : Int32), vr b2, vi (3 : Int32), vi (0 : Int32), vi (own_gP 0), vi (11 : Int32), vi (0 : Int32), .unset, .unset, .unset] [(.int (g 0))]))
  refine gIL X0 hx hby d19_25 rfl ?_
  have hc27_2 : ¬ ((g 0) = (own_gP 0)) := Hn0
  refine Goes.via (fun _ kk_ => XS.icmpNo X0.here hx rfl (hb hby d19_27) rfl (feq hc27_2).1 kk_) ?_
  show Goes p e below _ (s₁.setTop (mkF m 30 #[vr b, vi (14 : Int32), vr b2, vi (3 : Int32), vi (0 : Int32), vi (own_gP 0), vi (11 : Int32), vi (0 : Int32), .unset, .unset, .unset] []))
  refine Goes.via (fun _ kk_ => XS.iinc X0.here hx rfl (hb hby d19_30) rfl (l' := #[vr b, vi (14 : Int32), vr b2, vi (3 : Int32), vi (0 : Int32), vi (own_gP 0), vi (11 : Int32), vi ((0 : Int32) + (1 : Int32)), .unset, .unset, .unset]) rfl kk_) ?_
  show Goes p e below _ (s₁.setTop (mkF m 33 #[vr b, vi (14 : Int32), vr b2, vi (3 : Int32), vi (0 : Int32), vi (own_gP 0), vi (11 : Int32), vi ((0 : Int32) + (1 : Int32)), .unset, .unset, .unset] []))
  rw [show ((0 : Int32) + (1 : Int32)) = (1 : Int32) from by decide]
  show Goes p e below _ (s₁.setTop (mkF m 33 #[vr b, vi (14 : Int32), vr b2, vi (3 : Int32), vi (0 : Int32), vi (own_gP 0), vi (11 : Int32), vi (1 : Int32), .unset, .unset, .unset] []))
  refine gIL X0 hx hby d19_33 rfl ?_
  refine gIL X0 hx hby d19_35 rfl ?_
  have hc37_3 : ¬ ((11 : Int32) < (1 : Int32)) := (by decide)
  refine Goes.via (fun _ kk_ => XS.icmpNo X0.here hx rfl (hb hby d19_37) rfl (flt hc37_3).2.2.1 kk_) ?_
  show Goes p e below _ (s₁.setTop (mkF m 40 #[vr b, vi (14 : Int32), vr b2, vi (3 : Int32), vi (0 : Int32), vi (own_gP 0), vi (11 : Int32), vi (1 : Int32), .unset, .unset, .unset] []))
  refine gALN X0 hx hby d19_40 rfl rfl ?_
  refine gIL X0 hx hby d19_41 rfl ?_
  refine Goes.via (own_baload X0 hx hZ e0 A0_b (j := (1 : Int32)) (i := 1) (by decide) (by decide) (by decide) (v := (g 1)) rfl (g := (mkF m 43 #[vr b, vi (14 : Int32), vr b2, vi (3 : Int32), vi (0 : Int32), vi (own_gP 0), vi (11 : Int32), vi (1 : Int32), .unset, .unset, .unset] [(.int (1 : Int32)), (.ref b)])) rfl rfl (hb hby d19_43)) ?_
  show Goes p e below _ (s₁.setTop (mkF m 44 #[vr b, vi (14 : Int32), vr b2, vi (3 : Int32), vi (0 : Int32), vi (own_gP 0), vi (11 : Int32), vi (1 : Int32), .unset, .unset, .unset] [(.int (g 1))]))
  refine gIL X0 hx hby d19_44 rfl ?_
  have hc46_4 : ¬ ((g 1) = (own_gP 0)) := Hn1
  refine Goes.via (fun _ kk_ => XS.icmpNo X0.here hx rfl (hb hby d19_46) rfl (feq hc46_4).1 kk_) ?_
  show Goes p e below _ (s₁.setTop (mkF m 49 #[vr b, vi (14 : Int32), vr b2, vi (3 : Int32), vi (0 : Int32), vi (own_gP 0), vi (11 : Int32), vi (1 : Int32), .unset, .unset, .unset] []))
  refine Goes.via (fun _ kk_ => XS.goto X0.here hx rfl (pc0 := 49) (pc' := 30) rfl (hb hby d19_49) (by decide) (by decide) kk_) ?_
  show Goes p e below _ (s₁.setTop (mkF m 30 #[vr b, vi (14 : Int32), vr b2, vi (3 : Int32), vi (0 : Int32), vi (own_gP 0), vi (11 : Int32), vi (1 : Int32), .unset, .unset, .unset] []))
  refine Goes.via (fun _ kk_ => XS.iinc X0.here hx rfl (hb hby d19_30) rfl (l' := #[vr b, vi (14 : Int32), vr b2, vi (3 : Int32), vi (0 : Int32), vi (own_gP 0), vi (11 : Int32), vi ((1 : Int32) + (1 : Int32)), .unset, .unset, .unset]) rfl kk_) ?_
  show Goes p e below _ (s₁.setTop (mkF m 33 #[vr b, vi (14 : Int32), vr b2, vi (3 : Int32), vi (0 : Int32), vi (own_gP 0), vi (11 : Int32), vi ((1 : Int32) + (1 : Int32)), .unset, .unset, .unset] []))
  rw [show ((1 : Int32) + (1 : Int32)) = (2 : Int32) from by decide]
  show Goes p e below _ (s₁.setTop (mkF m 33 #[vr b, vi (14 : Int32), vr b2, vi (3 : Int32), vi (0 : Int32), vi (own_gP 0), vi (11 : Int32), vi (2 : Int32), .unset, .unset, .unset] []))
  refine gIL X0 hx hby d19_33 rfl ?_
  refine gIL X0 hx hby d19_35 rfl ?_
  have hc37_5 : ¬ ((11 : Int32) < (2 : Int32)) := (by decide)
  refine Goes.via (fun _ kk_ => XS.icmpNo X0.here hx rfl (hb hby d19_37) rfl (flt hc37_5).2.2.1 kk_) ?_
  show Goes p e below _ (s₁.setTop (mkF m 40 #[vr b, vi (14 : Int32), vr b2, vi (3 : Int32), vi (0 : Int32), vi (own_gP 0), vi (11 : Int32), vi (2 : Int32), .unset, .unset, .unset] []))
  refine gALN X0 hx hby d19_40 rfl rfl ?_
  refine gIL X0 hx hby d19_41 rfl ?_
  refine Goes.via (own_baload X0 hx hZ e0 A0_b (j := (2 : Int32)) (i := 2) (by decide) (by decide) (by decide) (v := (g 2)) rfl (g := (mkF m 43 #[vr b, vi (14 : Int32), vr b2, vi (3 : Int32), vi (0 : Int32), vi (own_gP 0), vi (11 : Int32), vi (2 : Int32), .unset, .unset, .unset] [(.int (2 : Int32)), (.ref b)])) rfl rfl (hb hby d19_43)) ?_
  show Goes p e below _ (s₁.setTop (mkF m 44 #[vr b, vi (14 : Int32), vr b2, vi (3 : Int32), vi (0 : Int32), vi (own_gP 0), vi (11 : Int32), vi (2 : Int32), .unset, .unset, .unset] [(.int (g 2))]))
  refine gIL X0 hx hby d19_44 rfl ?_
  have hc46_6 : ¬ ((g 2) = (own_gP 0)) := Hn2
  refine Goes.via (fun _ kk_ => XS.icmpNo X0.here hx rfl (hb hby d19_46) rfl (feq hc46_6).1 kk_) ?_
  show Goes p e below _ (s₁.setTop (mkF m 49 #[vr b, vi (14 : Int32), vr b2, vi (3 : Int32), vi (0 : Int32), vi (own_gP 0), vi (11 : Int32), vi (2 : Int32), .unset, .unset, .unset] []))
  refine Goes.via (fun _ kk_ => XS.goto X0.here hx rfl (pc0 := 49) (pc' := 30) rfl (hb hby d19_49) (by decide) (by decide) kk_) ?_
  show Goes p e below _ (s₁.setTop (mkF m 30 #[vr b, vi (14 : Int32), vr b2, vi (3 : Int32), vi (0 : Int32), vi (own_gP 0), vi (11 : Int32), vi (2 : Int32), .unset, .unset, .unset] []))
  refine Goes.via (fun _ kk_ => XS.iinc X0.here hx rfl (hb hby d19_30) rfl (l' := #[vr b, vi (14 : Int32), vr b2, vi (3 : Int32), vi (0 : Int32), vi (own_gP 0), vi (11 : Int32), vi ((2 : Int32) + (1 : Int32)), .unset, .unset, .unset]) rfl kk_) ?_
  show Goes p e below _ (s₁.setTop (mkF m 33 #[vr b, vi (14 : Int32), vr b2, vi (3 : Int32), vi (0 : Int32), vi (own_gP 0), vi (11 : Int32), vi ((2 : Int32) + (1 : Int32)), .unset, .unset, .unset] []))
  rw [show ((2 : Int32) + (1 : Int32)) = (3 : Int32) from by decide]
  show Goes p e below _ (s₁.setTop (mkF m 33 #[vr b, vi (14 : Int32), vr b2, vi (3 : Int32), vi (0 : Int32), vi (own_gP 0), vi (11 : Int32), vi (3 : Int32), .unset, .unset, .unset] []))
  refine gIL X0 hx hby d19_33 rfl ?_
  refine gIL X0 hx hby d19_35 rfl ?_
  have hc37_7 : ¬ ((11 : Int32) < (3 : Int32)) := (by decide)
  refine Goes.via (fun _ kk_ => XS.icmpNo X0.here hx rfl (hb hby d19_37) rfl (flt hc37_7).2.2.1 kk_) ?_
  show Goes p e below _ (s₁.setTop (mkF m 40 #[vr b, vi (14 : Int32), vr b2, vi (3 : Int32), vi (0 : Int32), vi (own_gP 0), vi (11 : Int32), vi (3 : Int32), .unset, .unset, .unset] []))
  refine gALN X0 hx hby d19_40 rfl rfl ?_
  refine gIL X0 hx hby d19_41 rfl ?_
  refine Goes.via (own_baload X0 hx hZ e0 A0_b (j := (3 : Int32)) (i := 3) (by decide) (by decide) (by decide) (v := (g 3)) rfl (g := (mkF m 43 #[vr b, vi (14 : Int32), vr b2, vi (3 : Int32), vi (0 : Int32), vi (own_gP 0), vi (11 : Int32), vi (3 : Int32), .unset, .unset, .unset] [(.int (3 : Int32)), (.ref b)])) rfl rfl (hb hby d19_43)) ?_
  show Goes p e below _ (s₁.setTop (mkF m 44 #[vr b, vi (14 : Int32), vr b2, vi (3 : Int32), vi (0 : Int32), vi (own_gP 0), vi (11 : Int32), vi (3 : Int32), .unset, .unset, .unset] [(.int (g 3))]))
  refine gIL X0 hx hby d19_44 rfl ?_
  have hc46_8 : ¬ ((g 3) = (own_gP 0)) := Hn3
  refine Goes.via (fun _ kk_ => XS.icmpNo X0.here hx rfl (hb hby d19_46) rfl (feq hc46_8).1 kk_) ?_
  show Goes p e below _ (s₁.setTop (mkF m 49 #[vr b, vi (14 : Int32), vr b2, vi (3 : Int32), vi (0 : Int32), vi (own_gP 0), vi (11 : Int32), vi (3 : Int32), .unset, .unset, .unset] []))
  refine Goes.via (fun _ kk_ => XS.goto X0.here hx rfl (pc0 := 49) (pc' := 30) rfl (hb hby d19_49) (by decide) (by decide) kk_) ?_
  show Goes p e below _ (s₁.setTop (mkF m 30 #[vr b, vi (14 : Int32), vr b2, vi (3 : Int32), vi (0 : Int32), vi (own_gP 0), vi (11 : Int32), vi (3 : Int32), .unset, .unset, .unset] []))
  refine Goes.via (fun _ kk_ => XS.iinc X0.here hx rfl (hb hby d19_30) rfl (l' := #[vr b, vi (14 : Int32), vr b2, vi (3 : Int32), vi (0 : Int32), vi (own_gP 0), vi (11 : Int32), vi ((3 : Int32) + (1 : Int32)), .unset, .unset, .unset]) rfl kk_) ?_
  show Goes p e below _ (s₁.setTop (mkF m 33 #[vr b, vi (14 : Int32), vr b2, vi (3 : Int32), vi (0 : Int32), vi (own_gP 0), vi (11 : Int32), vi ((3 : Int32) + (1 : Int32)), .unset, .unset, .unset] []))
  rw [show ((3 : Int32) + (1 : Int32)) = (4 : Int32) from by decide]
  show Goes p e below _ (s₁.setTop (mkF m 33 #[vr b, vi (14 : Int32), vr b2, vi (3 : Int32), vi (0 : Int32), vi (own_gP 0), vi (11 : Int32), vi (4 : Int32), .unset, .unset, .unset] []))
  refine gIL X0 hx hby d19_33 rfl ?_
  refine gIL X0 hx hby d19_35 rfl ?_
  have hc37_9 : ¬ ((11 : Int32) < (4 : Int32)) := (by decide)
  refine Goes.via (fun _ kk_ => XS.icmpNo X0.here hx rfl (hb hby d19_37) rfl (flt hc37_9).2.2.1 kk_) ?_
  show Goes p e below _ (s₁.setTop (mkF m 40 #[vr b, vi (14 : Int32), vr b2, vi (3 : Int32), vi (0 : Int32), vi (own_gP 0), vi (11 : Int32), vi (4 : Int32), .unset, .unset, .unset] []))
  refine gALN X0 hx hby d19_40 rfl rfl ?_
  refine gIL X0 hx hby d19_41 rfl ?_
  refine Goes.via (own_baload X0 hx hZ e0 A0_b (j := (4 : Int32)) (i := 4) (by decide) (by decide) (by decide) (v := (g 4)) rfl (g := (mkF m 43 #[vr b, vi (14 : Int32), vr b2, vi (3 : Int32), vi (0 : Int32), vi (own_gP 0), vi (11 : Int32), vi (4 : Int32), .unset, .unset, .unset] [(.int (4 : Int32)), (.ref b)])) rfl rfl (hb hby d19_43)) ?_
  show Goes p e below _ (s₁.setTop (mkF m 44 #[vr b, vi (14 : Int32), vr b2, vi (3 : Int32), vi (0 : Int32), vi (own_gP 0), vi (11 : Int32), vi (4 : Int32), .unset, .unset, .unset] [(.int (g 4))]))
  refine gIL X0 hx hby d19_44 rfl ?_
  have hc46_10 : ¬ ((g 4) = (own_gP 0)) := Hn4
  refine Goes.via (fun _ kk_ => XS.icmpNo X0.here hx rfl (hb hby d19_46) rfl (feq hc46_10).1 kk_) ?_
  show Goes p e below _ (s₁.setTop (mkF m 49 #[vr b, vi (14 : Int32), vr b2, vi (3 : Int32), vi (0 : Int32), vi (own_gP 0), vi (11 : Int32), vi (4 : Int32), .unset, .unset, .unset] []))
  refine Goes.via (fun _ kk_ => XS.goto X0.here hx rfl (pc0 := 49) (pc' := 30) rfl (hb hby d19_49) (by decide) (by decide) kk_) ?_
  show Goes p e below _ (s₁.setTop (mkF m 30 #[vr b, vi (14 : Int32), vr b2, vi (3 : Int32), vi (0 : Int32), vi (own_gP 0), vi (11 : Int32), vi (4 : Int32), .unset, .unset, .unset] []))
  refine Goes.via (fun _ kk_ => XS.iinc X0.here hx rfl (hb hby d19_30) rfl (l' := #[vr b, vi (14 : Int32), vr b2, vi (3 : Int32), vi (0 : Int32), vi (own_gP 0), vi (11 : Int32), vi ((4 : Int32) + (1 : Int32)), .unset, .unset, .unset]) rfl kk_) ?_
  show Goes p e below _ (s₁.setTop (mkF m 33 #[vr b, vi (14 : Int32), vr b2, vi (3 : Int32), vi (0 : Int32), vi (own_gP 0), vi (11 : Int32), vi ((4 : Int32) + (1 : Int32)), .unset, .unset, .unset] []))
  rw [show ((4 : Int32) + (1 : Int32)) = (5 : Int32) from by decide]
  show Goes p e below _ (s₁.setTop (mkF m 33 #[vr b, vi (14 : Int32), vr b2, vi (3 : Int32), vi (0 : Int32), vi (own_gP 0), vi (11 : Int32), vi (5 : Int32), .unset, .unset, .unset] []))
  refine gIL X0 hx hby d19_33 rfl ?_
  refine gIL X0 hx hby d19_35 rfl ?_
  have hc37_11 : ¬ ((11 : Int32) < (5 : Int32)) := (by decide)
  refine Goes.via (fun _ kk_ => XS.icmpNo X0.here hx rfl (hb hby d19_37) rfl (flt hc37_11).2.2.1 kk_) ?_
  show Goes p e below _ (s₁.setTop (mkF m 40 #[vr b, vi (14 : Int32), vr b2, vi (3 : Int32), vi (0 : Int32), vi (own_gP 0), vi (11 : Int32), vi (5 : Int32), .unset, .unset, .unset] []))
  refine gALN X0 hx hby d19_40 rfl rfl ?_
  refine gIL X0 hx hby d19_41 rfl ?_
  refine Goes.via (own_baload X0 hx hZ e0 A0_b (j := (5 : Int32)) (i := 5) (by decide) (by decide) (by decide) (v := (g 5)) rfl (g := (mkF m 43 #[vr b, vi (14 : Int32), vr b2, vi (3 : Int32), vi (0 : Int32), vi (own_gP 0), vi (11 : Int32), vi (5 : Int32), .unset, .unset, .unset] [(.int (5 : Int32)), (.ref b)])) rfl rfl (hb hby d19_43)) ?_
  show Goes p e below _ (s₁.setTop (mkF m 44 #[vr b, vi (14 : Int32), vr b2, vi (3 : Int32), vi (0 : Int32), vi (own_gP 0), vi (11 : Int32), vi (5 : Int32), .unset, .unset, .unset] [(.int (g 5))]))
  refine gIL X0 hx hby d19_44 rfl ?_
  have hc46_12 : (g 5) = (own_gP 0) := Hp0
  refine Goes.via (fun _ kk_ => XS.icmpYes X0.here hx rfl (pc0 := 46) (pc' := 52) rfl (hb hby d19_46) rfl (teq hc46_12).1 (by decide) (by decide) kk_) ?_
  show Goes p e below _ (s₁.setTop (mkF m 52 #[vr b, vi (14 : Int32), vr b2, vi (3 : Int32), vi (0 : Int32), vi (own_gP 0), vi (11 : Int32), vi (5 : Int32), .unset, .unset, .unset] []))
  refine gIL X0 hx hby d19_52 rfl ?_
  refine gIL X0 hx hby d19_54 rfl ?_
  have hc56_13 : ¬ ((11 : Int32) < (5 : Int32)) := (by decide)
  refine Goes.via (fun _ kk_ => XS.icmpNo X0.here hx rfl (hb hby d19_56) rfl (flt hc56_13).2.2.1 kk_) ?_
  show Goes p e below _ (s₁.setTop (mkF m 59 #[vr b, vi (14 : Int32), vr b2, vi (3 : Int32), vi (0 : Int32), vi (own_gP 0), vi (11 : Int32), vi (5 : Int32), .unset, .unset, .unset] []))
  refine gIL X0 hx hby d19_59 rfl ?_
  refine gIC (z := 1) X0 hx hby d19_61 rfl ?_
  refine Goes.via (fun _ kk_ => XS.iadd X0.here hx rfl (hb hby d19_62) rfl kk_) ?_
  show Goes p e below _ (s₁.setTop (mkF m 63 #[vr b, vi (14 : Int32), vr b2, vi (3 : Int32), vi (0 : Int32), vi (own_gP 0), vi (11 : Int32), vi (5 : Int32), .unset, .unset, .unset] [(.int ((5 : Int32) + (1 : Int32)))]))
  rw [show ((5 : Int32) + (1 : Int32)) = (6 : Int32) from by decide]
  show Goes p e below _ (s₁.setTop (mkF m 63 #[vr b, vi (14 : Int32), vr b2, vi (3 : Int32), vi (0 : Int32), vi (own_gP 0), vi (11 : Int32), vi (5 : Int32), .unset, .unset, .unset] [(.int (6 : Int32))]))
  refine Goes.via (fun _ kk_ => XS.istore X0.here hx rfl (hb hby d19_63) rfl (l' := #[vr b, vi (14 : Int32), vr b2, vi (3 : Int32), vi (0 : Int32), vi (own_gP 0), vi (11 : Int32), vi (5 : Int32), vi (6 : Int32), .unset, .unset]) rfl kk_) ?_
  show Goes p e below _ (s₁.setTop (mkF m 65 #[vr b, vi (14 : Int32), vr b2, vi (3 : Int32), vi (0 : Int32), vi (own_gP 0), vi (11 : Int32), vi (5 : Int32), vi (6 : Int32), .unset, .unset] []))
  refine gIL X0 hx hby d19_65 rfl ?_
  refine gILN X0 hx hby d19_67 rfl ?_
  refine Goes.via (fun _ kk_ => XS.iadd X0.here hx rfl (hb hby d19_68) rfl kk_) ?_
  show Goes p e below _ (s₁.setTop (mkF m 69 #[vr b, vi (14 : Int32), vr b2, vi (3 : Int32), vi (0 : Int32), vi (own_gP 0), vi (11 : Int32), vi (5 : Int32), vi (6 : Int32), .unset, .unset] [(.int ((6 : Int32) + (3 : Int32)))]))
  rw [show ((6 : Int32) + (3 : Int32)) = (9 : Int32) from by decide]
  show Goes p e below _ (s₁.setTop (mkF m 69 #[vr b, vi (14 : Int32), vr b2, vi (3 : Int32), vi (0 : Int32), vi (own_gP 0), vi (11 : Int32), vi (5 : Int32), vi (6 : Int32), .unset, .unset] [(.int (9 : Int32))]))
  refine gIC (z := 1) X0 hx hby d19_69 rfl ?_
  refine Goes.via (fun _ kk_ => XS.isub X0.here hx rfl (hb hby d19_70) rfl kk_) ?_
  show Goes p e below _ (s₁.setTop (mkF m 71 #[vr b, vi (14 : Int32), vr b2, vi (3 : Int32), vi (0 : Int32), vi (own_gP 0), vi (11 : Int32), vi (5 : Int32), vi (6 : Int32), .unset, .unset] [(.int ((9 : Int32) - (1 : Int32)))]))
  rw [show ((9 : Int32) - (1 : Int32)) = (8 : Int32) from by decide]
  show Goes p e below _ (s₁.setTop (mkF m 71 #[vr b, vi (14 : Int32), vr b2, vi (3 : Int32), vi (0 : Int32), vi (own_gP 0), vi (11 : Int32), vi (5 : Int32), vi (6 : Int32), .unset, .unset] [(.int (8 : Int32))]))
  refine Goes.via (fun _ kk_ => XS.istore X0.here hx rfl (hb hby d19_71) rfl (l' := #[vr b, vi (14 : Int32), vr b2, vi (3 : Int32), vi (0 : Int32), vi (own_gP 0), vi (11 : Int32), vi (5 : Int32), vi (6 : Int32), vi (8 : Int32), .unset]) rfl kk_) ?_
  show Goes p e below _ (s₁.setTop (mkF m 73 #[vr b, vi (14 : Int32), vr b2, vi (3 : Int32), vi (0 : Int32), vi (own_gP 0), vi (11 : Int32), vi (5 : Int32), vi (6 : Int32), vi (8 : Int32), .unset] []))
  refine gIC (z := 1) X0 hx hby d19_73 rfl ?_
  refine Goes.via (fun _ kk_ => XS.istore X0.here hx rfl (hb hby d19_74) rfl (l' := #[vr b, vi (14 : Int32), vr b2, vi (3 : Int32), vi (0 : Int32), vi (own_gP 0), vi (11 : Int32), vi (5 : Int32), vi (6 : Int32), vi (8 : Int32), vi (1 : Int32)]) rfl kk_) ?_
  show Goes p e below _ (s₁.setTop (mkF m 76 #[vr b, vi (14 : Int32), vr b2, vi (3 : Int32), vi (0 : Int32), vi (own_gP 0), vi (11 : Int32), vi (5 : Int32), vi (6 : Int32), vi (8 : Int32), vi (1 : Int32)] []))
  refine gIL X0 hx hby d19_76 rfl ?_
  refine gIL X0 hx hby d19_78 rfl ?_
  have hc80_14 : (6 : Int32) < (8 : Int32) := (by decide)
  refine Goes.via (fun _ kk_ => XS.icmpNo X0.here hx rfl (hb hby d19_80) rfl (tlt hc80_14).2.1 kk_) ?_
  show Goes p e below _ (s₁.setTop (mkF m 83 #[vr b, vi (14 : Int32), vr b2, vi (3 : Int32), vi (0 : Int32), vi (own_gP 0), vi (11 : Int32), vi (5 : Int32), vi (6 : Int32), vi (8 : Int32), vi (1 : Int32)] []))
  refine gALN X0 hx hby d19_83 rfl rfl ?_
  refine gIL X0 hx hby d19_84 rfl ?_
  refine Goes.via (own_baload X0 hx hZ e0 A0_b (j := (6 : Int32)) (i := 6) (by decide) (by decide) (by decide) (v := (g 6)) rfl (g := (mkF m 86 #[vr b, vi (14 : Int32), vr b2, vi (3 : Int32), vi (0 : Int32), vi (own_gP 0), vi (11 : Int32), vi (5 : Int32), vi (6 : Int32), vi (8 : Int32), vi (1 : Int32)] [(.int (6 : Int32)), (.ref b)])) rfl rfl (hb hby d19_86)) ?_
  show Goes p e below _ (s₁.setTop (mkF m 87 #[vr b, vi (14 : Int32), vr b2, vi (3 : Int32), vi (0 : Int32), vi (own_gP 0), vi (11 : Int32), vi (5 : Int32), vi (6 : Int32), vi (8 : Int32), vi (1 : Int32)] [(.int (g 6))]))
  refine gALN X0 hx hby d19_87 rfl rfl ?_
  refine gIL X0 hx hby d19_88 rfl ?_
  refine Goes.via (own_baload X0 hx hZ e0 A1_b2 (j := (1 : Int32)) (i := 1) (by decide) (by decide) (by decide) (v := (own_gP 1)) rfl (g := (mkF m 90 #[vr b, vi (14 : Int32), vr b2, vi (3 : Int32), vi (0 : Int32), vi (own_gP 0), vi (11 : Int32), vi (5 : Int32), vi (6 : Int32), vi (8 : Int32), vi (1 : Int32)] [(.int (1 : Int32)), (.ref b2), (.int (g 6))])) rfl rfl (hb hby d19_90)) ?_
  show Goes p e below _ (s₁.setTop (mkF m 91 #[vr b, vi (14 : Int32), vr b2, vi (3 : Int32), vi (0 : Int32), vi (own_gP 0), vi (11 : Int32), vi (5 : Int32), vi (6 : Int32), vi (8 : Int32), vi (1 : Int32)] [(.int (own_gP 1)), (.int (g 6))]))
  have hc91_15 : (g 6) = (own_gP 1) := Hp1
  refine Goes.via (fun _ kk_ => XS.icmpNo X0.here hx rfl (hb hby d19_91) rfl (teq hc91_15).2 kk_) ?_
  show Goes p e below _ (s₁.setTop (mkF m 94 #[vr b, vi (14 : Int32), vr b2, vi (3 : Int32), vi (0 : Int32), vi (own_gP 0), vi (11 : Int32), vi (5 : Int32), vi (6 : Int32), vi (8 : Int32), vi (1 : Int32)] []))
  refine Goes.via (fun _ kk_ => XS.iinc X0.here hx rfl (hb hby d19_94) rfl (l' := #[vr b, vi (14 : Int32), vr b2, vi (3 : Int32), vi (0 : Int32), vi (own_gP 0), vi (11 : Int32), vi (5 : Int32), vi ((6 : Int32) + (1 : Int32)), vi (8 : Int32), vi (1 : Int32)]) rfl kk_) ?_
  show Goes p e below _ (s₁.setTop (mkF m 97 #[vr b, vi (14 : Int32), vr b2, vi (3 : Int32), vi (0 : Int32), vi (own_gP 0), vi (11 : Int32), vi (5 : Int32), vi ((6 : Int32) + (1 : Int32)), vi (8 : Int32), vi (1 : Int32)] []))
  rw [show ((6 : Int32) + (1 : Int32)) = (7 : Int32) from by decide]
  show Goes p e below _ (s₁.setTop (mkF m 97 #[vr b, vi (14 : Int32), vr b2, vi (3 : Int32), vi (0 : Int32), vi (own_gP 0), vi (11 : Int32), vi (5 : Int32), vi (7 : Int32), vi (8 : Int32), vi (1 : Int32)] []))
  refine Goes.via (fun _ kk_ => XS.iinc X0.here hx rfl (hb hby d19_97) rfl (l' := #[vr b, vi (14 : Int32), vr b2, vi (3 : Int32), vi (0 : Int32), vi (own_gP 0), vi (11 : Int32), vi (5 : Int32), vi (7 : Int32), vi (8 : Int32), vi ((1 : Int32) + (1 : Int32))]) rfl kk_) ?_
  show Goes p e below _ (s₁.setTop (mkF m 100 #[vr b, vi (14 : Int32), vr b2, vi (3 : Int32), vi (0 : Int32), vi (own_gP 0), vi (11 : Int32), vi (5 : Int32), vi (7 : Int32), vi (8 : Int32), vi ((1 : Int32) + (1 : Int32))] []))
  rw [show ((1 : Int32) + (1 : Int32)) = (2 : Int32) from by decide]
  show Goes p e below _ (s₁.setTop (mkF m 100 #[vr b, vi (14 : Int32), vr b2, vi (3 : Int32), vi (0 : Int32), vi (own_gP 0), vi (11 : Int32), vi (5 : Int32), vi (7 : Int32), vi (8 : Int32), vi (2 : Int32)] []))
  refine Goes.via (fun _ kk_ => XS.goto X0.here hx rfl (pc0 := 100) (pc' := 76) rfl (hb hby d19_100) (by decide) (by decide) kk_) ?_
  show Goes p e below _ (s₁.setTop (mkF m 76 #[vr b, vi (14 : Int32), vr b2, vi (3 : Int32), vi (0 : Int32), vi (own_gP 0), vi (11 : Int32), vi (5 : Int32), vi (7 : Int32), vi (8 : Int32), vi (2 : Int32)] []))
  refine gIL X0 hx hby d19_76 rfl ?_
  refine gIL X0 hx hby d19_78 rfl ?_
  have hc80_16 : (7 : Int32) < (8 : Int32) := (by decide)
  refine Goes.via (fun _ kk_ => XS.icmpNo X0.here hx rfl (hb hby d19_80) rfl (tlt hc80_16).2.1 kk_) ?_
  show Goes p e below _ (s₁.setTop (mkF m 83 #[vr b, vi (14 : Int32), vr b2, vi (3 : Int32), vi (0 : Int32), vi (own_gP 0), vi (11 : Int32), vi (5 : Int32), vi (7 : Int32), vi (8 : Int32), vi (2 : Int32)] []))
  refine gALN X0 hx hby d19_83 rfl rfl ?_
  refine gIL X0 hx hby d19_84 rfl ?_
  refine Goes.via (own_baload X0 hx hZ e0 A0_b (j := (7 : Int32)) (i := 7) (by decide) (by decide) (by decide) (v := (g 7)) rfl (g := (mkF m 86 #[vr b, vi (14 : Int32), vr b2, vi (3 : Int32), vi (0 : Int32), vi (own_gP 0), vi (11 : Int32), vi (5 : Int32), vi (7 : Int32), vi (8 : Int32), vi (2 : Int32)] [(.int (7 : Int32)), (.ref b)])) rfl rfl (hb hby d19_86)) ?_
  show Goes p e below _ (s₁.setTop (mkF m 87 #[vr b, vi (14 : Int32), vr b2, vi (3 : Int32), vi (0 : Int32), vi (own_gP 0), vi (11 : Int32), vi (5 : Int32), vi (7 : Int32), vi (8 : Int32), vi (2 : Int32)] [(.int (g 7))]))
  refine gALN X0 hx hby d19_87 rfl rfl ?_
  refine gIL X0 hx hby d19_88 rfl ?_
  refine Goes.via (own_baload X0 hx hZ e0 A1_b2 (j := (2 : Int32)) (i := 2) (by decide) (by decide) (by decide) (v := (own_gP 2)) rfl (g := (mkF m 90 #[vr b, vi (14 : Int32), vr b2, vi (3 : Int32), vi (0 : Int32), vi (own_gP 0), vi (11 : Int32), vi (5 : Int32), vi (7 : Int32), vi (8 : Int32), vi (2 : Int32)] [(.int (2 : Int32)), (.ref b2), (.int (g 7))])) rfl rfl (hb hby d19_90)) ?_
  show Goes p e below _ (s₁.setTop (mkF m 91 #[vr b, vi (14 : Int32), vr b2, vi (3 : Int32), vi (0 : Int32), vi (own_gP 0), vi (11 : Int32), vi (5 : Int32), vi (7 : Int32), vi (8 : Int32), vi (2 : Int32)] [(.int (own_gP 2)), (.int (g 7))]))
  have hc91_17 : (g 7) = (own_gP 2) := Hp2
  refine Goes.via (fun _ kk_ => XS.icmpNo X0.here hx rfl (hb hby d19_91) rfl (teq hc91_17).2 kk_) ?_
  show Goes p e below _ (s₁.setTop (mkF m 94 #[vr b, vi (14 : Int32), vr b2, vi (3 : Int32), vi (0 : Int32), vi (own_gP 0), vi (11 : Int32), vi (5 : Int32), vi (7 : Int32), vi (8 : Int32), vi (2 : Int32)] []))
  refine Goes.via (fun _ kk_ => XS.iinc X0.here hx rfl (hb hby d19_94) rfl (l' := #[vr b, vi (14 : Int32), vr b2, vi (3 : Int32), vi (0 : Int32), vi (own_gP 0), vi (11 : Int32), vi (5 : Int32), vi ((7 : Int32) + (1 : Int32)), vi (8 : Int32), vi (2 : Int32)]) rfl kk_) ?_
  show Goes p e below _ (s₁.setTop (mkF m 97 #[vr b, vi (14 : Int32), vr b2, vi (3 : Int32), vi (0 : Int32), vi (own_gP 0), vi (11 : Int32), vi (5 : Int32), vi ((7 : Int32) + (1 : Int32)), vi (8 : Int32), vi (2 : Int32)] []))
  rw [show ((7 : Int32) + (1 : Int32)) = (8 : Int32) from by decide]
  show Goes p e below _ (s₁.setTop (mkF m 97 #[vr b, vi (14 : Int32), vr b2, vi (3 : Int32), vi (0 : Int32), vi (own_gP 0), vi (11 : Int32), vi (5 : Int32), vi (8 : Int32), vi (8 : Int32), vi (2 : Int32)] []))
  refine Goes.via (fun _ kk_ => XS.iinc X0.here hx rfl (hb hby d19_97) rfl (l' := #[vr b, vi (14 : Int32), vr b2, vi (3 : Int32), vi (0 : Int32), vi (own_gP 0), vi (11 : Int32), vi (5 : Int32), vi (8 : Int32), vi (8 : Int32), vi ((2 : Int32) + (1 : Int32))]) rfl kk_) ?_
  show Goes p e below _ (s₁.setTop (mkF m 100 #[vr b, vi (14 : Int32), vr b2, vi (3 : Int32), vi (0 : Int32), vi (own_gP 0), vi (11 : Int32), vi (5 : Int32), vi (8 : Int32), vi (8 : Int32), vi ((2 : Int32) + (1 : Int32))] []))
  rw [show ((2 : Int32) + (1 : Int32)) = (3 : Int32) from by decide]
  show Goes p e below _ (s₁.setTop (mkF m 100 #[vr b, vi (14 : Int32), vr b2, vi (3 : Int32), vi (0 : Int32), vi (own_gP 0), vi (11 : Int32), vi (5 : Int32), vi (8 : Int32), vi (8 : Int32), vi (3 : Int32)] []))
  refine Goes.via (fun _ kk_ => XS.goto X0.here hx rfl (pc0 := 100) (pc' := 76) rfl (hb hby d19_100) (by decide) (by decide) kk_) ?_
  show Goes p e below _ (s₁.setTop (mkF m 76 #[vr b, vi (14 : Int32), vr b2, vi (3 : Int32), vi (0 : Int32), vi (own_gP 0), vi (11 : Int32), vi (5 : Int32), vi (8 : Int32), vi (8 : Int32), vi (3 : Int32)] []))
  refine gIL X0 hx hby d19_76 rfl ?_
  refine gIL X0 hx hby d19_78 rfl ?_
  have hc80_18 : ¬ ((8 : Int32) < (8 : Int32)) := (by decide)
  refine Goes.via (fun _ kk_ => XS.icmpYes X0.here hx rfl (pc0 := 80) (pc' := 103) rfl (hb hby d19_80) rfl (flt hc80_18).2.1 (by decide) (by decide) kk_) ?_
  show Goes p e below _ (s₁.setTop (mkF m 103 #[vr b, vi (14 : Int32), vr b2, vi (3 : Int32), vi (0 : Int32), vi (own_gP 0), vi (11 : Int32), vi (5 : Int32), vi (8 : Int32), vi (8 : Int32), vi (3 : Int32)] []))
  refine gIL X0 hx hby d19_103 rfl ?_
  refine gIL X0 hx hby d19_105 rfl ?_
  have hc107_19 : (8 : Int32) = (8 : Int32) := (by decide)
  refine Goes.via (fun _ kk_ => XS.icmpNo X0.here hx rfl (hb hby d19_107) rfl (teq hc107_19).2 kk_) ?_
  show Goes p e below _ (s₁.setTop (mkF m 110 #[vr b, vi (14 : Int32), vr b2, vi (3 : Int32), vi (0 : Int32), vi (own_gP 0), vi (11 : Int32), vi (5 : Int32), vi (8 : Int32), vi (8 : Int32), vi (3 : Int32)] []))
  refine gIL X0 hx hby d19_110 rfl ?_
  exact own_finI X0 hx hlk hret (hb hby d19_112) (by rw [e0]; exact ⟨rfl, rfl, rfl⟩) (by first | decide | omega | (dsimp only; omega)) (by first | decide | omega | (dsimp only; omega))
theorem ef_rmT5 (m : MethodId) (b : Addr) (b2 : Addr) : entryFrame m #[(.ref b), (.ref b2)] 2 = mkF m 0 #[.val (.ref b), .val (.ref b2)] [] := by first | (simp [entryFrame, mkF, argsToLocals, Value.category]; done) | rfl
def QrmT5 (Z : State) (b : Addr) (b2 : Addr) (kc : ClassId) (kd : ClassId) (g : Nat → Int32) (h0 : Heap) (n0 : Nat) (v_ : Option Value) (h_ : Heap) (L_ : List Loc) : Prop := v_ = some (.int (5 : Int32)) ∧ L_ = [] ∧ h_ = h0
set_option maxRecDepth 65536 in
set_option maxHeartbeats 40000000 in
theorem rmT5 (l : Launch) (Z : State) (a0 : Array Value) (hw : ∀ d ∈ tables_1, d.before a0 Z = true) (ws : List Jvm.Cond) (b : Addr) (b2 : Addr) (kc : ClassId) (kd : ClassId) (g : Nat → Int32) (h0 : Heap) (n0 : Nat) (Z0 : n0 ≤ h0.size) (A0_b : Arw Z h0 b kc .byte 14 (fun i => .int (g i))) (A1_b2 : Arw Z h0 b2 kd .byte 3 (fun i => .int (own_gP i))) (Hn0 : g 0 ≠ (58 : Int32)) (Hn1 : g 1 ≠ (58 : Int32)) (Hn2 : g 2 ≠ (58 : Int32)) (Hn3 : g 3 ≠ (58 : Int32)) (Hn4 : g 4 ≠ (58 : Int32)) (Hp0 : g 5 = (58 : Int32)) (Hp1 : g 6 = (47 : Int32)) (Hp2 : g 7 = (47 : Int32)) :
    MetFree l (⟨"java/lang/StringLatin1", "indexOf", "([B[B)I"⟩ : MethodName) (head1 (Jvm.Cond.code (⟨"java/lang/StringLatin1", "indexOf", "([B[B)I"⟩ : MethodName) jdk_43_method_24_code 2 (some .int) :: ws) ({ frames := 1, cells := 0, slots := 0, locals := 22 } : Room)) (fun as_ U_ => as_ = #[(.ref b), (.ref b2)] ∧ Z.Warmed39 U_.vm ∧ U_.heap = h0) (fun _ _ _ _ _ => True) (fun _ U_ o_ V_ => ∃ v_ L_, o_ = .returned v_ ∧ QrmT5 Z b b2 kc kd g h0 n0 v_ V_.heap L_ ∧ FrameEnd U_ o_ V_ L_ ({ frames := 1, cells := 0, slots := 0, locals := 22 } : Room).cells ({ frames := 1, cells := 0, slots := 0, locals := 22 } : Room).slots) := by
  refine MetFree.of_bodySF (plainFor_of_name pn_java_lang_StringLatin1) hisR ?_
  intro p e s m args below meth c s₁ Bd hml0 hP hK
  obtain ⟨rfl, hZ, hh⟩ := hP
  have hx := Bd.exec
  have hby := Bd.bytes
  have hlk : meth.locks = false := BodyLoose.notSynchronized Bd
  have hret := Bd.returns
  have hml : c.maxLocals = 2 := hml0
  have hown : s.vm.findClass "java/lang/StringLatin1" = some m.cls := findClass_of_methodNamed Bd.named
  have hnm := (name_of_methodNamed Bd.named Bd.method).1
  have X0 : Stand p l e ({ frames := 1, cells := 0, slots := 0, locals := 22 } : Room) s m #[(.ref b), (.ref b2)] below meth c s₁ [] 0 0 := Stand.of_body Bd
  have e0 : s₁.heap = h0 := by rw [← hh, Bd.state]; rfl
  have N0 := Fr.nil n0
  show Goes p e below (Fin_ s (QrmT5 Z b b2 kc kd g h0 n0) ({ frames := 1, cells := 0, slots := 0, locals := 22 } : Room).cells ({ frames := 1, cells := 0, slots := 0, locals := 22 } : Room).slots) (s₁.setTop (entryFrame m #[(.ref b), (.ref b2)] 2))
  rw [ef_rmT5 m b b2]
  refine gALN X0 hx hby d18_0 rfl rfl ?_
  refine Goes.via (own_alen X0 hx hZ e0 A1_b2 (g := (mkF m 1 #[vr b, vr b2] [(.ref b2)])) rfl rfl (hb hby d18_1)) ?_
  show Goes p e below _ (s₁.setTop (mkF m 2 #[vr b, vr b2] [(.int (3 : Int32))]))
  have hc2_1 : ¬ ((3 : Int32) = (0 : Int32)) := (by decide)
  refine Goes.via (fun _ kk_ => XS.ifYes X0.here hx rfl (pc0 := 2) (pc' := 7) rfl (hb hby d18_2) rfl ((if0 _ _).trans (feq hc2_1).2) (by decide) (by decide) kk_) ?_
  show Goes p e below _ (s₁.setTop (mkF m 7 #[vr b, vr b2] []))
  refine gALN X0 hx hby d18_7 rfl rfl ?_
  refine Goes.via (own_alen X0 hx hZ e0 A0_b (g := (mkF m 8 #[vr b, vr b2] [(.ref b)])) rfl rfl (hb hby d18_8)) ?_
  show Goes p e below _ (s₁.setTop (mkF m 9 #[vr b, vr b2] [(.int (14 : Int32))]))
  have hc9_2 : ¬ ((14 : Int32) = (0 : Int32)) := (by decide)
  refine Goes.via (fun _ kk_ => XS.ifYes X0.here hx rfl (pc0 := 9) (pc' := 14) rfl (hb hby d18_9) rfl ((if0 _ _).trans (feq hc9_2).2) (by decide) (by decide) kk_) ?_
  show Goes p e below _ (s₁.setTop (mkF m 14 #[vr b, vr b2] []))
  refine gALN X0 hx hby d18_14 rfl rfl ?_
  refine gALN X0 hx hby d18_15 rfl rfl ?_
  refine Goes.via (own_alen X0 hx hZ e0 A0_b (g := (mkF m 16 #[vr b, vr b2] [(.ref b), (.ref b)])) rfl rfl (hb hby d18_16)) ?_
  show Goes p e below _ (s₁.setTop (mkF m 17 #[vr b, vr b2] [(.int (14 : Int32)), (.ref b)]))
  refine gALN X0 hx hby d18_17 rfl rfl ?_
  refine gALN X0 hx hby d18_18 rfl rfl ?_
  refine Goes.via (own_alen X0 hx hZ e0 A1_b2 (g := (mkF m 19 #[vr b, vr b2] [(.ref b2), (.ref b2), (.int (14 : Int32)), (.ref b)])) rfl rfl (hb hby d18_19)) ?_
  show Goes p e below _ (s₁.setTop (mkF m 20 #[vr b, vr b2] [(.int (3 : Int32)), (.ref b2), (.int (14 : Int32)), (.ref b)]))
  refine gIC (z := 0) X0 hx hby d18_20 rfl ?_
  obtain ⟨_, _, ⟨T3, L3, k3, n3⟩, -, X3, ⟨Lc3, hQ3, l3, y3, z3⟩, st3⟩ := Jvm.LawKit.callS X0 hx (y := (⟨"java/lang/StringLatin1", "indexOf", "([BI[BII)I"⟩ : MethodName)) hown (mvT hZ (own_w hw 86 rfl)) (mvT hZ (own_w hw 87 rfl)) (mvT hZ (own_w hw 28 rfl)) (mvT hZ (own_w hw 88 rfl)) (by decide) (backOf (W := 0) (rmS5 l Z a0 hw [] b b2 kc kd g h0 n0 (Nat.le_trans Z0 (Nat.le_refl _)) A0_b A1_b2 Hn0 Hn1 Hn2 Hn3 Hn4 Hp0 Hp1 Hp2) hZ (own_w hw 88 rfl) (own_w hw 28 rfl) (by decide) (by decide)) (g := (mkF m 21 #[vr b, vr b2] [(.int (0 : Int32)), (.int (3 : Int32)), (.ref b2), (.int (14 : Int32)), (.ref b)])) rfl (by rw [hml]; rfl) (argsL := [(.ref b), (.int (14 : Int32)), (.ref b2), (.int (3 : Int32)), (.int (0 : Int32))]) (rest := []) (lenOf pd_15 rfl) rfl (by show 2 * 0 + _ ≤ _; exact Nat.le_of_eq rfl) (hb hby d18_21) (fun _ _ => ⟨rfl, e0, (by decide : 0 + 0 ≤ _), (by decide : 0 + 0 ≤ _)⟩)
  dsimp only [Pt.U, Pt.locs, Pt.cells, Pt.slots] at X3 l3 y3 z3 st3 hQ3
  replace l3 := l3.symm
  subst l3 y3 z3
  obtain ⟨rfl, rfl, e3⟩ := hQ3
  first | rw [List.append_nil] at X3 | skip
  refine Goes.via st3 ?_
  have e3' : T3.heap = h0 := e3
  show Goes p e below _ (T3.setTop (mkF m 24 #[vr b, vr b2] [(.int (5 : Int32))]))
  exact own_finI X3 hx hlk hret (hb hby d18_24) (by rw [e3']; exact ⟨rfl, rfl, rfl⟩) (by first | decide | omega | (dsimp only; omega)) (by first | decide | omega | (dsimp only; omega))
theorem ef_rmU5 (m : MethodId) (a : Addr) (a2 : Addr) : entryFrame m #[(.ref a), (.ref a2)] 3 = mkF m 0 #[.val (.ref a), .val (.ref a2), .unset] [] := by first | (simp [entryFrame, mkF, argsToLocals, Value.category]; done) | rfl
def QrmU5 (Z : State) (a : Addr) (a2 : Addr) (cS : Int32) (b : Addr) (b2 : Addr) (kc : ClassId) (kd : ClassId) (g : Nat → Int32) (h0 : Heap) (n0 : Nat) (v_ : Option Value) (h_ : Heap) (L_ : List Loc) : Prop := v_ = some (.int (5 : Int32)) ∧ L_ = [] ∧ h_ = h0
set_option maxRecDepth 65536 in
set_option maxHeartbeats 40000000 in
theorem rmU5 (l : Launch) (Z : State) (a0 : Array Value) (hw : ∀ d ∈ tables_1, d.before a0 Z = true) (ws : List Jvm.Cond) (a : Addr) (a2 : Addr) (cS : Int32) (b : Addr) (b2 : Addr) (kc : ClassId) (kd : ClassId) (g : Nat → Int32) (h0 : Heap) (n0 : Nat) (Z0 : n0 ≤ h0.size) (E0_a : Exa Z h0 a "java/lang/String") (F1_a_coder : Fld Z h0 a "java/lang/String" "coder" "B" (.int (0 : Int32))) (F2_a_value : Fld Z h0 a "java/lang/String" "value" "[B" (.ref b)) (A3_b : Arw Z h0 b kc .byte 14 (fun i => .int (g i))) (E4_a2 : Exa Z h0 a2 "java/lang/String") (F5_a2_coder : Fld Z h0 a2 "java/lang/String" "coder" "B" (.int (0 : Int32))) (F6_a2_value : Fld Z h0 a2 "java/lang/String" "value" "[B" (.ref b2)) (A7_b2 : Arw Z h0 b2 kd .byte 3 (fun i => .int (own_gP i))) (S8_java_lang_String_COMPACT_STRINGS_COMPACT_STRINGS : Sta Z h0 "java/lang/String" "COMPACT_STRINGS" "Z" (.int cS)) (H_cs : ¬ cS = (0 : Int32)) (Hn0 : g 0 ≠ (58 : Int32)) (Hn1 : g 1 ≠ (58 : Int32)) (Hn2 : g 2 ≠ (58 : Int32)) (Hn3 : g 3 ≠ (58 : Int32)) (Hn4 : g 4 ≠ (58 : Int32)) (Hp0 : g 5 = (58 : Int32)) (Hp1 : g 6 = (47 : Int32)) (Hp2 : g 7 = (47 : Int32)) :
    MetFree l (⟨"java/lang/String", "indexOf", "(Ljava/lang/String;)I"⟩ : MethodName) (head1 (Jvm.Cond.code (⟨"java/lang/String", "indexOf", "(Ljava/lang/String;)I"⟩ : MethodName) jdk_42_method_84_code 3 (some .int) :: ws) ({ frames := 2, cells := 0, slots := 0, locals := 35 } : Room)) (fun as_ U_ => as_ = #[(.ref a), (.ref a2)] ∧ Z.Warmed39 U_.vm ∧ U_.heap = h0) (fun _ _ _ _ _ => True) (fun _ U_ o_ V_ => ∃ v_ L_, o_ = .returned v_ ∧ QrmU5 Z a a2 cS b b2 kc kd g h0 n0 v_ V_.heap L_ ∧ FrameEnd U_ o_ V_ L_ ({ frames := 2, cells := 0, slots := 0, locals := 35 } : Room).cells ({ frames := 2, cells := 0, slots := 0, locals := 35 } : Room).slots) := by
  refine MetFree.of_bodySF (plainFor_of_name pn_java_lang_String) hisR ?_
  intro p e s m args below meth c s₁ Bd hml0 hP hK
  obtain ⟨rfl, hZ, hh⟩ := hP
  have hx := Bd.exec
  have hby := Bd.bytes
  have hlk : meth.locks = false := BodyLoose.notSynchronized Bd
  have hret := Bd.returns
  have hml : c.maxLocals = 3 := hml0
  have hown : s.vm.findClass "java/lang/String" = some m.cls := findClass_of_methodNamed Bd.named
  have hnm := (name_of_methodNamed Bd.named Bd.method).1
  have X0 : Stand p l e ({ frames := 2, cells := 0, slots := 0, locals := 35 } : Room) s m #[(.ref a), (.ref a2)] below meth c s₁ [] 0 0 := Stand.of_body Bd
  have e0 : s₁.heap = h0 := by rw [← hh, Bd.state]; rfl
  have N0 := Fr.nil n0
  show Goes p e below (Fin_ s (QrmU5 Z a a2 cS b b2 kc kd g h0 n0) ({ frames := 2, cells := 0, slots := 0, locals := 35 } : Room).cells ({ frames := 2, cells := 0, slots := 0, locals := 35 } : Room).slots) (s₁.setTop (entryFrame m #[(.ref a), (.ref a2)] 3))
  rw [ef_rmU5 m a a2]
  have ne1 : a ≠ b := own_ne_arr E0_a (own_w hw 7 rfl) A3_b
  have ne2 : a ≠ b2 := own_ne_arr E0_a (own_w hw 7 rfl) A7_b2
  have ne3 : a2 ≠ b := own_ne_arr E4_a2 (own_w hw 7 rfl) A3_b
  have ne4 : a2 ≠ b2 := own_ne_arr E4_a2 (own_w hw 7 rfl) A7_b2
  refine gALN X0 hx hby d17_0 rfl rfl ?_
  obtain ⟨cq5, kq5, q5a, q5b, q5c⟩ := isOf hZ e0 E0_a
  obtain ⟨_, _, ⟨T5, L5, k5, n5⟩, -, X5, ⟨Lc5, hQ5, l5, y5, z5⟩, st5⟩ := X0.virtualBack hx (y := (⟨"java/lang/String", "coder", "()B"⟩ : MethodName)) (z := (⟨"java/lang/String", "coder", "()B"⟩ : MethodName)) hown (mvT hZ (own_w hw 47 rfl)) (mvT hZ (own_w hw 48 rfl)) (notFace_of_selects (args := #[]) (mvT hZ (own_w hw 50 rfl))) (mvT hZ (own_w hw 50 rfl)) (mvT hZ (own_w hw 49 rfl)) (by decide) (backOf (W := 0) (rm9 l Z a0 hw [] a cS h0 n0 (Nat.le_trans Z0 (Nat.le_refl _)) F1_a_coder S8_java_lang_String_COMPACT_STRINGS_COMPACT_STRINGS H_cs) hZ (own_w hw 51 rfl) (own_w hw 6 rfl) (by decide) (by decide)) q5a q5c (g := (mkF m 1 #[vr a, vr a2, .unset] [(.ref a)])) rfl (by rw [hml]; rfl) (Steps.refl _) (argsL := []) (rest := []) (lenOf pd_0 rfl) rfl (by show 2 * 0 + _ ≤ _; exact Nat.le_of_eq rfl) (hb hby d17_1) (fun _ _ => ⟨rfl, e0, (by decide : 0 + 0 ≤ _), (by decide : 0 + 0 ≤ _)⟩)
  dsimp only [Pt.U, Pt.locs, Pt.cells, Pt.slots] at X5 l5 y5 z5 st5 hQ5
  replace l5 := l5.symm
  subst l5 y5 z5
  obtain ⟨rfl, rfl, e5⟩ := hQ5
  first | rw [List.append_nil] at X5 | skip
  refine Goes.tr st5 ?_
  have e5' : T5.heap = h0 := e5
  show Goes p e below _ (T5.setTop (mkF m 4 #[vr a, vr a2, .unset] [(.int (0 : Int32))]))
  refine Goes.via (fun _ kk_ => XS.istoreN X5.here hx rfl (hb hby d17_4) rfl (l' := #[vr a, vr a2, vi (0 : Int32)]) rfl kk_) ?_
  show Goes p e below _ (T5.setTop (mkF m 5 #[vr a, vr a2, vi (0 : Int32)] []))
  refine gILN X5 hx hby d17_5 rfl ?_
  refine gALN X5 hx hby d17_6 rfl rfl ?_
  obtain ⟨cq6, kq6, q6a, q6b, q6c⟩ := isOf hZ e5' E4_a2
  obtain ⟨_, _, ⟨T6, L6, k6, n6⟩, -, X6, ⟨Lc6, hQ6, l6, y6, z6⟩, st6⟩ := X5.virtualBack hx (y := (⟨"java/lang/String", "coder", "()B"⟩ : MethodName)) (z := (⟨"java/lang/String", "coder", "()B"⟩ : MethodName)) hown (mvT hZ (own_w hw 47 rfl)) (mvT hZ (own_w hw 48 rfl)) (notFace_of_selects (args := #[]) (mvT hZ (own_w hw 50 rfl))) (mvT hZ (own_w hw 50 rfl)) (mvT hZ (own_w hw 49 rfl)) (by decide) (backOf (W := 1) (rm9 l Z a0 hw [] a2 cS h0 n0 (Nat.le_trans Z0 (Nat.le_refl _)) F5_a2_coder S8_java_lang_String_COMPACT_STRINGS_COMPACT_STRINGS H_cs) hZ (own_w hw 51 rfl) (own_w hw 6 rfl) (by decide) (by decide)) q6a q6c (g := (mkF m 7 #[vr a, vr a2, vi (0 : Int32)] [(.ref a2), (.int (0 : Int32))])) rfl (by rw [hml]; rfl) (Steps.refl _) (argsL := []) (rest := [(.int (0 : Int32))]) (lenOf pd_0 rfl) rfl (by show 2 * 0 + _ ≤ _; exact Nat.le_of_eq rfl) (hb hby d17_7) (fun _ _ => ⟨rfl, e5', (by decide : 0 + 0 ≤ _), (by decide : 0 + 0 ≤ _)⟩)
  dsimp only [Pt.U, Pt.locs, Pt.cells, Pt.slots] at X6 l6 y6 z6 st6 hQ6
  replace l6 := l6.symm
  subst l6 y6 z6
  obtain ⟨rfl, rfl, e6⟩ := hQ6
  first | rw [List.append_nil] at X6 | skip
  refine Goes.tr st6 ?_
  have e6' : T6.heap = h0 := e6
  show Goes p e below _ (T6.setTop (mkF m 10 #[vr a, vr a2, vi (0 : Int32)] [(.int (0 : Int32)), (.int (0 : Int32))]))
  have hc10_7 : (0 : Int32) = (0 : Int32) := (by decide)
  refine Goes.via (fun _ kk_ => XS.icmpNo X6.here hx rfl (hb hby d17_10) rfl (teq hc10_7).2 kk_) ?_
  show Goes p e below _ (T6.setTop (mkF m 13 #[vr a, vr a2, vi (0 : Int32)] []))
  refine gALN X6 hx hby d17_13 rfl rfl ?_
  obtain ⟨cq8, kq8, q8a, q8b, q8c⟩ := isOf hZ e6' E0_a
  obtain ⟨_, _, ⟨T8, L8, k8, n8⟩, -, X8, ⟨Lc8, hQ8, l8, y8, z8⟩, st8⟩ := X6.virtualBack hx (y := (⟨"java/lang/String", "isLatin1", "()Z"⟩ : MethodName)) (z := (⟨"java/lang/String", "isLatin1", "()Z"⟩ : MethodName)) hown (mvT hZ (own_w hw 18 rfl)) (mvT hZ (own_w hw 19 rfl)) (notFace_of_selects (args := #[]) (mvT hZ (own_w hw 21 rfl))) (mvT hZ (own_w hw 21 rfl)) (mvT hZ (own_w hw 20 rfl)) (by decide) (backOf (W := 0) (rm3 l Z a0 hw [] a cS h0 n0 (Nat.le_trans Z0 (Nat.le_refl _)) F1_a_coder S8_java_lang_String_COMPACT_STRINGS_COMPACT_STRINGS H_cs) hZ (own_w hw 22 rfl) (own_w hw 6 rfl) (by decide) (by decide)) q8a q8c (g := (mkF m 14 #[vr a, vr a2, vi (0 : Int32)] [(.ref a)])) rfl (by rw [hml]; rfl) (Steps.refl _) (argsL := []) (rest := []) (lenOf pd_3 rfl) rfl (by show 2 * 0 + _ ≤ _; exact Nat.le_of_eq rfl) (hb hby d17_14) (fun _ _ => ⟨rfl, e6', (by decide : 0 + 0 ≤ _), (by decide : 0 + 0 ≤ _)⟩)
  dsimp only [Pt.U, Pt.locs, Pt.cells, Pt.slots] at X8 l8 y8 z8 st8 hQ8
  replace l8 := l8.symm
  subst l8 y8 z8
  obtain ⟨rfl, rfl, e8⟩ := hQ8
  first | rw [List.append_nil] at X8 | skip
  refine Goes.tr st8 ?_
  have e8' : T8.heap = h0 := e8
  show Goes p e below _ (T8.setTop (mkF m 17 #[vr a, vr a2, vi (0 : Int32)] [(.int (1 : Int32))]))
  have hc17_9 : ¬ ((1 : Int32) = (0 : Int32)) := (by decide)
  refine Goes.via (fun _ kk_ => XS.ifNo X8.here hx rfl (hb hby d17_17) rfl ((if0 _ _).trans (feq hc17_9).1) kk_) ?_
  show Goes p e below _ (T8.setTop (mkF m 20 #[vr a, vr a2, vi (0 : Int32)] []))
  refine gALN X8 hx hby d17_20 rfl rfl ?_
  obtain ⟨T10, X10, e10, st10⟩ := getF X8 hx hZ hown (host := "") (Or.inl (own_w hw 25 rfl)) Via.refl e8' F2_a_value (g := (mkF m 21 #[vr a, vr a2, vi (0 : Int32)] [(.ref a)])) rfl rfl (hb hby d17_21)
  refine Goes.via st10 ?_
  show Goes p e below _ (T10.setTop (mkF m 24 #[vr a, vr a2, vi (0 : Int32)] [(.ref b)]))
  refine gALN X10 hx hby d17_24 rfl rfl ?_
  obtain ⟨T11, X11, e11, st11⟩ := getF X10 hx hZ hown (host := "") (Or.inl (own_w hw 25 rfl)) Via.refl e10 F6_a2_value (g := (mkF m 25 #[vr a, vr a2, vi (0 : Int32)] [(.ref a2), (.ref b)])) rfl rfl (hb hby d17_25)
  refine Goes.via st11 ?_
  show Goes p e below _ (T11.setTop (mkF m 28 #[vr a, vr a2, vi (0 : Int32)] [(.ref b2), (.ref b)]))
  obtain ⟨_, _, ⟨T12, L12, k12, n12⟩, -, X12, ⟨Lc12, hQ12, l12, y12, z12⟩, st12⟩ := Jvm.LawKit.callS X11 hx (y := (⟨"java/lang/StringLatin1", "indexOf", "([B[B)I"⟩ : MethodName)) hown (mvT hZ (own_w hw 83 rfl)) (mvT hZ (own_w hw 84 rfl)) (mvT hZ (own_w hw 28 rfl)) (mvT hZ (own_w hw 85 rfl)) (by decide) (backOf (W := 0) (rmT5 l Z a0 hw [] b b2 kc kd g h0 n0 (Nat.le_trans Z0 (Nat.le_refl _)) A3_b A7_b2 Hn0 Hn1 Hn2 Hn3 Hn4 Hp0 Hp1 Hp2) hZ (own_w hw 85 rfl) (own_w hw 28 rfl) (by decide) (by decide)) (g := (mkF m 28 #[vr a, vr a2, vi (0 : Int32)] [(.ref b2), (.ref b)])) rfl (by rw [hml]; rfl) (argsL := [(.ref b), (.ref b2)]) (rest := []) (lenOf pd_16 rfl) rfl (by show 2 * 0 + _ ≤ _; exact Nat.le_of_eq rfl) (hb hby d17_28) (fun _ _ => ⟨rfl, e11, (by decide : 0 + 0 ≤ _), (by decide : 0 + 0 ≤ _)⟩)
  dsimp only [Pt.U, Pt.locs, Pt.cells, Pt.slots] at X12 l12 y12 z12 st12 hQ12
  replace l12 := l12.symm
  subst l12 y12 z12
  obtain ⟨rfl, rfl, e12⟩ := hQ12
  first | rw [List.append_nil] at X12 | skip
  refine Goes.via st12 ?_
  have e12' : T12.heap = h0 := e12
  show Goes p e below _ (T12.setTop (mkF m 31 #[vr a, vr a2, vi (0 : Int32)] [(.int (5 : Int32))]))
  refine Goes.via (fun _ kk_ => XS.goto X12.here hx rfl (pc0 := 31) (pc' := 45) rfl (hb hby d17_31) (by decide) (by decide) kk_) ?_
  show Goes p e below _ (T12.setTop (mkF m 45 #[vr a, vr a2, vi (0 : Int32)] [(.int (5 : Int32))]))
  exact own_finI X12 hx hlk hret (hb hby d17_45) (by rw [e12']; exact ⟨rfl, rfl, rfl⟩) (by first | decide | omega | (dsimp only; omega)) (by first | decide | omega | (dsimp only; omega))
def own_gH : Nat → Int32 := fun i => ([(97 : Int32), (98 : Int32), (99 : Int32), (100 : Int32), (101 : Int32), (102 : Int32), (109 : Int32), (120 : Int32), (121 : Int32), (122 : Int32), (48 : Int32), (49 : Int32), (50 : Int32), (56 : Int32), (57 : Int32), (45 : Int32), (46 : Int32), (95 : Int32), (126 : Int32), (33 : Int32), (36 : Int32), (38 : Int32), (39 : Int32), (40 : Int32), (41 : Int32), (42 : Int32), (43 : Int32), (44 : Int32), (59 : Int32), (61 : Int32), (58 : Int32), (64 : Int32)] : List Int32).getD i 0
def own_gT : Nat → Int32 := fun i => ([(97 : Int32), (113 : Int32), (122 : Int32), (65 : Int32), (81 : Int32), (90 : Int32), (48 : Int32), (51 : Int32), (55 : Int32), (57 : Int32), (45 : Int32), (46 : Int32), (95 : Int32), (126 : Int32), (33 : Int32), (36 : Int32), (38 : Int32), (39 : Int32), (40 : Int32), (41 : Int32), (42 : Int32), (43 : Int32), (44 : Int32), (59 : Int32), (61 : Int32), (58 : Int32), (64 : Int32), (47 : Int32), (63 : Int32), (47 : Int32), (63 : Int32), (70 : Int32)] : List Int32).getD i 0
def own_g7 : Nat → Int32 := fun i => ([(104 : Int32), (116 : Int32), (116 : Int32), (112 : Int32), (58 : Int32), (47 : Int32), (47 : Int32)] : List Int32).getD i 0
def own_g8 : Nat → Int32 := fun i => ([(104 : Int32), (116 : Int32), (116 : Int32), (112 : Int32), (115 : Int32), (58 : Int32), (47 : Int32), (47 : Int32)] : List Int32).getD i 0
theorem own_m31 (x : Int32) : ((x &&& (31 : Int32)) % (32 : Int32)).toInt = (((x &&& (31 : Int32)) % (32 : Int32)).toNatClampNeg : Int) ∧ ((x &&& (31 : Int32)) % (32 : Int32)).toNatClampNeg < 32 := by
  have q := c_and x 31 (by decide)
  have q1 : (31 : Int32).toInt = 31 := by decide
  have q3 : (32 : Int32).toInt = 32 := by decide
  have q4 := (c_irem (x &&& 31) 32 32 (by decide)).1 q.1
  have q2 : ((x &&& (31 : Int32)) % (32 : Int32)).toNatClampNeg = ((x &&& (31 : Int32)) % (32 : Int32)).toInt.toNat := rfl
  omega
def own_ix5 (b k : Int32) : Int32 := (((b.toUInt32 >>> (((5 : Int32) * k) &&& 31).toUInt32).toInt32) &&& (31 : Int32)) % (32 : Int32)
def own_hc (b k : Int32) : Int32 := own_gH (own_ix5 b k).toNatClampNeg &&& (255 : Int32)
def own_pc (b k : Int32) : Int32 := own_gT (own_ix5 b k).toNatClampNeg &&& (255 : Int32)
def own_C (t : Int32) : Prop := nar .char t = t ∧ t.toInt8.toInt32 = t ∧ t &&& (255 : Int32) = t ∧ (¬ t < 0 ∧ ¬ (255 : Int32) < t)
instance (t : Int32) : Decidable (own_C t) := by unfold own_C; infer_instance
theorem own_pcT : ∀ j, j < 32 → own_C (own_gT j &&& (255 : Int32)) := by decide +kernel
theorem own_hcT : ∀ j, j < 32 → (own_C (own_gH j &&& (255 : Int32)) ∧ ¬ own_gH j &&& (255 : Int32) = (47 : Int32)) := by decide +kernel
theorem own_pcP (b k : Int32) : own_C (own_pc b k) := own_pcT _ (own_m31 _).2
theorem own_hcP (b k : Int32) : own_C (own_hc b k) ∧ ¬ own_hc b k = (47 : Int32) := own_hcT _ (own_m31 _).2
theorem own_01 (x : Int32) : x &&& (1 : Int32) = (0 : Int32) ∨ x &&& (1 : Int32) = (1 : Int32) := by
  have q := c_and x 1 (by decide)
  have q1 : (1 : Int32).toInt = 1 := by decide
  have q0 : (0 : Int32).toInt = 0 := by decide
  have z : (x &&& (1 : Int32)).toInt = 0 ∨ (x &&& (1 : Int32)).toInt = 1 := by omega
  rcases z with z | z
  · exact Or.inl (Int32.toInt_inj.mp (by omega))
  · exact Or.inr (Int32.toInt_inj.mp (by omega))
theorem own_03 (x : Int32) : x &&& (3 : Int32) = (0 : Int32) ∨ x &&& (3 : Int32) = (1 : Int32) ∨ x &&& (3 : Int32) = (2 : Int32) ∨ x &&& (3 : Int32) = (3 : Int32) := by
  have q := c_and x 3 (by decide)
  have q3 : (3 : Int32).toInt = 3 := by decide
  have q2 : (2 : Int32).toInt = 2 := by decide
  have q1 : (1 : Int32).toInt = 1 := by decide
  have q0 : (0 : Int32).toInt = 0 := by decide
  have z : (x &&& (3 : Int32)).toInt = 0 ∨ (x &&& (3 : Int32)).toInt = 1 ∨ (x &&& (3 : Int32)).toInt = 2 ∨ (x &&& (3 : Int32)).toInt = 3 := by omega
  rcases z with z | z | z | z
  · exact Or.inl (Int32.toInt_inj.mp (by omega))
  · exact Or.inr (Or.inl (Int32.toInt_inj.mp (by omega)))
  · exact Or.inr (Or.inr (Or.inl (Int32.toInt_inj.mp (by omega))))
  · exact Or.inr (Or.inr (Or.inr (Int32.toInt_inj.mp (by omega))))
theorem own_fs (g : Nat → Int32) (b : Int32) (k j : Nat) (i : Int32) : own_find g b (k + 1) j i = if g j = b then i else own_find g b k (j + 1) (i + 1) := rfl
theorem own_lt_own_gH : ∀ i, i < 32 → ([(.int 97), (.int 98), (.int 99), (.int 100), (.int 101), (.int 102), (.int 109), (.int 120), (.int 121), (.int 122), (.int 48), (.int 49), (.int 50), (.int 56), (.int 57), (.int 45), (.int 46), (.int 95), (.int 126), (.int 33), (.int 36), (.int 38), (.int 39), (.int 40), (.int 41), (.int 42), (.int 43), (.int 44), (.int 59), (.int 61), (.int 58), (.int 64)] : List Value).getD i (.int 0) = .int (own_gH i) := by
  intro i hi
  match i, hi with
  | 0, _ => rfl | 1, _ => rfl | 2, _ => rfl | 3, _ => rfl | 4, _ => rfl | 5, _ => rfl | 6, _ => rfl | 7, _ => rfl | 8, _ => rfl | 9, _ => rfl | 10, _ => rfl | 11, _ => rfl | 12, _ => rfl | 13, _ => rfl | 14, _ => rfl | 15, _ => rfl | 16, _ => rfl | 17, _ => rfl | 18, _ => rfl | 19, _ => rfl | 20, _ => rfl | 21, _ => rfl | 22, _ => rfl | 23, _ => rfl | 24, _ => rfl | 25, _ => rfl | 26, _ => rfl | 27, _ => rfl | 28, _ => rfl | 29, _ => rfl | 30, _ => rfl | 31, _ => rfl | n + 32, h => exact absurd h (by omega)
theorem own_lt_own_gT : ∀ i, i < 32 → ([(.int 97), (.int 113), (.int 122), (.int 65), (.int 81), (.int 90), (.int 48), (.int 51), (.int 55), (.int 57), (.int 45), (.int 46), (.int 95), (.int 126), (.int 33), (.int 36), (.int 38), (.int 39), (.int 40), (.int 41), (.int 42), (.int 43), (.int 44), (.int 59), (.int 61), (.int 58), (.int 64), (.int 47), (.int 63), (.int 47), (.int 63), (.int 70)] : List Value).getD i (.int 0) = .int (own_gT i) := by
  intro i hi
  match i, hi with
  | 0, _ => rfl | 1, _ => rfl | 2, _ => rfl | 3, _ => rfl | 4, _ => rfl | 5, _ => rfl | 6, _ => rfl | 7, _ => rfl | 8, _ => rfl | 9, _ => rfl | 10, _ => rfl | 11, _ => rfl | 12, _ => rfl | 13, _ => rfl | 14, _ => rfl | 15, _ => rfl | 16, _ => rfl | 17, _ => rfl | 18, _ => rfl | 19, _ => rfl | 20, _ => rfl | 21, _ => rfl | 22, _ => rfl | 23, _ => rfl | 24, _ => rfl | 25, _ => rfl | 26, _ => rfl | 27, _ => rfl | 28, _ => rfl | 29, _ => rfl | 30, _ => rfl | 31, _ => rfl | n + 32, h => exact absurd h (by omega)
theorem own_lt_own_gP : ∀ i, i < 3 → ([(.int 58), (.int 47), (.int 47)] : List Value).getD i (.int 0) = .int (own_gP i) := by
  intro i hi
  match i, hi with
  | 0, _ => rfl | 1, _ => rfl | 2, _ => rfl | n + 3, h => exact absurd h (by omega)
theorem own_lt_own_g7 : ∀ i, i < 7 → ([(.int 104), (.int 116), (.int 116), (.int 112), (.int 58), (.int 47), (.int 47)] : List Value).getD i (.int 0) = .int (own_g7 i) := by
  intro i hi
  match i, hi with
  | 0, _ => rfl | 1, _ => rfl | 2, _ => rfl | 3, _ => rfl | 4, _ => rfl | 5, _ => rfl | 6, _ => rfl | n + 7, h => exact absurd h (by omega)
theorem own_lt_own_g8 : ∀ i, i < 8 → ([(.int 104), (.int 116), (.int 116), (.int 112), (.int 115), (.int 58), (.int 47), (.int 47)] : List Value).getD i (.int 0) = .int (own_g8 i) := by
  intro i hi
  match i, hi with
  | 0, _ => rfl | 1, _ => rfl | 2, _ => rfl | 3, _ => rfl | 4, _ => rfl | 5, _ => rfl | 6, _ => rfl | 7, _ => rfl | n + 8, h => exact absurd h (by omega)
theorem ef_rm7 (m : MethodId) (b_ : Int32) (k_ : Int32) : entryFrame m #[(.int b_), (.int k_)] 2 = mkF m 0 #[.val (.int b_), .val (.int k_)] [] := by first | (simp [entryFrame, mkF, argsToLocals, Value.category]; done) | rfl
def Qrm7 (Z : State) (b_ : Int32) (k_ : Int32) (cS : Int32) (fo : Value) (h0 : Heap) (n0 : Nat) (v_ : Option Value) (h_ : Heap) (L_ : List Loc) : Prop := v_ = some (.int (own_hc b_ k_)) ∧ Fr n0 L_ ∧ Keep h0 h_ []
theorem pn_com_example_lincra_lincra_UrlNormalizerPathAndQueryPinLaw : plainName "com/example/lincra/lincra/UrlNormalizerPathAndQueryPinLaw" = true := by first | (simp [plainName, overriddenIn]; done) | decide +kernel
theorem d7_0 : decode method_2_code 0 = .ok (.ldc 7, 2) := by decide +kernel
theorem d7_2 : decode method_2_code 2 = .ok (.iload_n 0, 1) := by decide +kernel
theorem d7_3 : decode method_2_code 3 = .ok (.iconst 5, 1) := by decide +kernel
theorem d7_4 : decode method_2_code 4 = .ok (.iload_n 1, 1) := by decide +kernel
theorem d7_5 : decode method_2_code 5 = .ok (.imul, 1) := by decide +kernel
theorem d7_6 : decode method_2_code 6 = .ok (.iushr, 1) := by decide +kernel
theorem d7_7 : decode method_2_code 7 = .ok (.bipush 31, 2) := by decide +kernel
theorem d7_9 : decode method_2_code 9 = .ok (.iand, 1) := by decide +kernel
theorem d7_10 : decode method_2_code 10 = .ok (.ldc 7, 2) := by decide +kernel
theorem d7_12 : decode method_2_code 12 = .ok (.invokevirtual 9, 3) := by decide +kernel
theorem d7_15 : decode method_2_code 15 = .ok (.irem, 1) := by decide +kernel
theorem pd_17 : parseMethodDescriptor "(I)C" = some ⟨[.int], some .char⟩ := by decide +kernel
theorem d7_16 : decode method_2_code 16 = .ok (.invokevirtual 15, 3) := by decide +kernel
theorem d7_19 : decode method_2_code 19 = .ok (.ireturn, 1) := by decide +kernel
set_option maxRecDepth 65536 in
set_option maxHeartbeats 40000000 in
theorem rm7 (l : Launch) (Z : State) (a0 : Array Value) (hw : ∀ d ∈ tables_1, d.before a0 Z = true) (ws : List Jvm.Cond) (b_ : Int32) (k_ : Int32) (cS : Int32) (fo : Value) (h0 : Heap) (n0 : Nat) (Z0 : n0 ≤ h0.size) (S0_java_lang_String_COMPACT_STRINGS_COMPACT_STRINGS : Sta Z h0 "java/lang/String" "COMPACT_STRINGS" "Z" (.int cS)) (H_cs : ¬ cS = (0 : Int32)) (S2_jdk_internal_util_Preconditions_SIOOBE_FORMATTER_SIOOBE_FORMATTER : Sta Z h0 "jdk/internal/util/Preconditions" "SIOOBE_FORMATTER" "Ljava/util/function/BiFunction;" fo) (Hfo : fo.isRef = true) (HO : Old Z n0 h0) (HW : Jvm.Lit.compactW.before a0 Z = true) (HC0 : Jvm.Lit.constHeld Z "com/example/lincra/lincra/UrlNormalizerPathAndQueryPinLaw" 7) (HC1 : Jvm.Lit.constHeld Z "com/example/lincra/lincra/UrlNormalizerPathAndQueryPinLaw" 19) (HC2 : Jvm.Lit.constHeld Z "com/example/lincra/lincra/UrlNormalizer" 81) (HC3 : Jvm.Lit.constHeld Z "com/example/lincra/lincra/UrlNormalizerPathAndQueryPinLaw" 23) (HC4 : Jvm.Lit.constHeld Z "com/example/lincra/lincra/UrlNormalizerPathAndQueryPinLaw" 21) :
    MetFree l (⟨"com/example/lincra/lincra/UrlNormalizerPathAndQueryPinLaw", "hostChar", "(II)C"⟩ : MethodName) (head1 (Jvm.Cond.code (⟨"com/example/lincra/lincra/UrlNormalizerPathAndQueryPinLaw", "hostChar", "(II)C"⟩ : MethodName) method_2_code 2 (some .char) :: ws) ({ frames := 4, cells := 2, slots := 132, locals := 53 } : Room)) (fun as_ U_ => as_ = #[(.int b_), (.int k_)] ∧ Z.Warmed39 U_.vm ∧ U_.heap = h0 ∧ KT Z own_K0 U_.vm U_.heap) (fun _ _ _ _ _ => True) (fun _ U_ o_ V_ => ∃ v_ L_, o_ = .returned v_ ∧ Qrm7 Z b_ k_ cS fo h0 n0 v_ V_.heap L_ ∧ KT Z own_K0 V_.vm V_.heap ∧ ReturnedEndW U_ o_ V_ L_ ({ frames := 4, cells := 2, slots := 132, locals := 53 } : Room).cells ({ frames := 4, cells := 2, slots := 132, locals := 53 } : Room).slots) := by
  refine MetFree.of_bodySF (plainFor_of_name pn_com_example_lincra_lincra_UrlNormalizerPathAndQueryPinLaw) hisR ?_
  intro p e s m args below meth c s₁ Bd hml0 hP hK
  obtain ⟨rfl, hZ, hh, hKs⟩ := hP
  have hx := Bd.exec
  have hby := Bd.bytes
  have hlk : meth.locks = false := BodyLoose.notSynchronized Bd
  have hret := Bd.returns
  have hml : c.maxLocals = 2 := hml0
  have hown : s.vm.findClass "com/example/lincra/lincra/UrlNormalizerPathAndQueryPinLaw" = some m.cls := findClass_of_methodNamed Bd.named
  have hnm := (name_of_methodNamed Bd.named Bd.method).1
  have X0 : Stand p l e ({ frames := 4, cells := 2, slots := 132, locals := 53 } : Room) (s.setVm s.vm) m #[(.int b_), (.int k_)] below meth c s₁ [] 0 0 := Stand.of_body Bd
  have e0 : s₁.heap = h0 := by rw [← hh, Bd.state]; rfl
  have N0 := Fr.nil n0
  show Goes p e below (Fin_W s (Qrm7 Z b_ k_ cS fo h0 n0) (fun U_ => KT Z own_K0 U_.vm U_.heap) ({ frames := 4, cells := 2, slots := 132, locals := 53 } : Room).cells ({ frames := 4, cells := 2, slots := 132, locals := 53 } : Room).slots) (s₁.setTop (entryFrame m #[(.int b_), (.int k_)] 2))
  rw [ef_rm7 m b_ k_]
  have SI0 : s.Since s.vm 0 := (State.WarmedH.refl s).since 0
  have Ks0 : KT Z own_K0 s.vm h0 := hh ▸ hKs
  obtain ⟨ka1, T1, h1, vm1, k11, kb1, kc1, X1, e1, E1, SI1, sk1, hZ, hown, kE1, kC1, kV1, kA1, kL1, Ks1, st1⟩ := own_ldcK (KL := own_KL) (z := (32 : Int32)) (vs := [(.int 97), (.int 98), (.int 99), (.int 100), (.int 101), (.int 102), (.int 109), (.int 120), (.int 121), (.int 122), (.int 48), (.int 49), (.int 50), (.int 56), (.int 57), (.int 45), (.int 46), (.int 95), (.int 126), (.int 33), (.int 36), (.int 38), (.int 39), (.int 40), (.int 41), (.int 42), (.int 43), (.int 44), (.int 59), (.int 61), (.int 58), (.int 64)]) X0 hx hZ hown (own_w hw 41 rfl) (fun d hd => hw d ((by decide +kernel : ∀ d ∈ Bundle.stringAtoms, d ∈ tables_1) d hd)) e0 SI0 (Nat.zero_le _) (Fr.nil _) (by rw [hh]; exact HO.2.2) Ks0.1 (by simp [own_KL]) (by decide +kernel) HC0 HW (by decide +kernel) (by decide) (by decide) (g := (mkF m 0 #[vi b_, vi k_] [])) rfl (hb hby d7_0) (n := 128) (by decide +kernel) (by decide) (by first | decide | omega | (dsimp only; omega)) (by first | decide | omega | (dsimp only; omega))
  have Ks1 : KT Z own_K0 vm1 h1 := ⟨Ks1, fun x hx => absurd hx (by simp [own_K0])⟩
  refine Goes.via st1 ?_
  have ne2 : ka1 ≠ kb1 := kE1.neArv kA1 (own_w hw 7 rfl)
  show Goes p e below _ (T1.setTop (mkF m 2 #[vi b_, vi k_] [(.ref ka1)]))
  have kW3 : Arw Z h1 kb1 kc1 .byte 32 (fun i => .int (own_gH i)) := Arw.ofArv kA1 (by decide) (fun i hi => own_lt_own_gH i hi)
  refine gILN X1 hx hby d7_2 rfl ?_
  refine gIC (z := 5) X1 hx hby d7_3 rfl ?_
  refine gILN X1 hx hby d7_4 rfl ?_
  refine Goes.via (fun _ kk_ => XS.imul X1.here hx rfl (hb hby d7_5) rfl kk_) ?_
  show Goes p e below _ (T1.setTop (mkF m 6 #[vi b_, vi k_] [(.int ((5 : Int32) * k_)), (.int b_), (.ref ka1)]))
  refine Goes.via (fun _ kk_ => XS.iushr X1.here hx rfl (hb hby d7_6) rfl kk_) ?_
  show Goes p e below _ (T1.setTop (mkF m 7 #[vi b_, vi k_] [(.int ((b_.toUInt32 >>> (((5 : Int32) * k_) &&& 31).toUInt32).toInt32)), (.ref ka1)]))
  refine gBI (z := 31) X1 hx hby d7_7 rfl ?_
  refine Goes.via (fun _ kk_ => XS.iand X1.here hx rfl (hb hby d7_9) rfl kk_) ?_
  show Goes p e below _ (T1.setTop (mkF m 10 #[vi b_, vi k_] [(.int (((b_.toUInt32 >>> (((5 : Int32) * k_) &&& 31).toUInt32).toInt32) &&& (31 : Int32))), (.ref ka1)]))
  refine Goes.via (ldcAgain X1 hx hZ hown (own_w hw 41 rfl) kL1 (g := (mkF m 10 #[vi b_, vi k_] [(.int (((b_.toUInt32 >>> (((5 : Int32) * k_) &&& 31).toUInt32).toInt32) &&& (31 : Int32))), (.ref ka1)])) rfl (hb hby d7_10)) ?_
  show Goes p e below _ (T1.setTop (mkF m 12 #[vi b_, vi k_] [(.ref ka1), (.int (((b_.toUInt32 >>> (((5 : Int32) * k_) &&& 31).toUInt32).toInt32) &&& (31 : Int32))), (.ref ka1)]))
  have f5 : Sta Z h1 "java/lang/String" "COMPACT_STRINGS" "Z" (.int cS) := (S0_java_lang_String_COMPACT_STRINGS_COMPACT_STRINGS.ext E1)
  have z7 : h0.size ≤ (h1).size := (Nat.le_trans (Nat.le_refl _) E1.1)
  obtain ⟨cq6, kq6, q6a, q6b, q6c⟩ := isOf hZ e1 kE1
  obtain ⟨_, _, ⟨T6, L6, k6, n6⟩, -, X6, ⟨Lc6, hQ6, l6, y6, z6⟩, st6⟩ := X1.virtualBack hx (y := (⟨"java/lang/String", "length", "()I"⟩ : MethodName)) (z := (⟨"java/lang/String", "length", "()I"⟩ : MethodName)) hown (mvT hZ (own_w hw 42 rfl)) (mvT hZ (own_w hw 43 rfl)) (notFace_of_selects (args := #[]) (mvT hZ (own_w hw 45 rfl))) (mvT hZ (own_w hw 45 rfl)) (mvT hZ (own_w hw 44 rfl)) (by decide) (backOf (W := 2) (rm8 l Z a0 hw [] ka1 (32 : Int32) cS kb1 kc1 32 own_gH h1 n0 (Nat.le_trans Z0 z7) kE1 kC1 kV1 kW3 f5 H_cs (by decide)) hZ (own_w hw 46 rfl) (own_w hw 6 rfl) (by decide) (by decide)) q6a q6c (g := (mkF m 12 #[vi b_, vi k_] [(.ref ka1), (.int (((b_.toUInt32 >>> (((5 : Int32) * k_) &&& 31).toUInt32).toInt32) &&& (31 : Int32))), (.ref ka1)])) rfl (by rw [hml]; rfl) (Steps.refl _) (argsL := []) (rest := [(.int (((b_.toUInt32 >>> (((5 : Int32) * k_) &&& 31).toUInt32).toInt32) &&& (31 : Int32))), (.ref ka1)]) (lenOf pd_8 rfl) rfl (by show 2 * 0 + _ ≤ _; exact Nat.le_of_eq rfl) (hb hby d7_12) (fun _ _ => ⟨rfl, e1, (by decide : 2 + 0 ≤ _), (by decide : 132 + 0 ≤ _)⟩)
  dsimp only [Pt.U, Pt.locs, Pt.cells, Pt.slots] at X6 l6 y6 z6 st6 hQ6
  replace l6 := l6.symm
  subst l6 y6 z6
  obtain ⟨rfl, rfl, e6⟩ := hQ6
  first | rw [List.append_nil] at X6 | skip
  refine Goes.tr st6 ?_
  have e6' : T6.heap = h1 := e6
  show Goes p e below _ (T6.setTop (mkF m 15 #[vi b_, vi k_] [(.int (32 : Int32)), (.int (((b_.toUInt32 >>> (((5 : Int32) * k_) &&& 31).toUInt32).toInt32) &&& (31 : Int32))), (.ref ka1)]))
  refine Goes.via (fun _ kk_ => iremM X6 hx rfl (hb hby d7_15) rfl (by decide) kk_) ?_
  show Goes p e below _ (T6.setTop (mkF m 16 #[vi b_, vi k_] [(.int ((((b_.toUInt32 >>> (((5 : Int32) * k_) &&& 31).toUInt32).toInt32) &&& (31 : Int32)) % (32 : Int32))), (.ref ka1)]))
  have f8 : Sta Z h1 "jdk/internal/util/Preconditions" "SIOOBE_FORMATTER" "Ljava/util/function/BiFunction;" fo := (S2_jdk_internal_util_Preconditions_SIOOBE_FORMATTER_SIOOBE_FORMATTER.ext E1)
  obtain ⟨cq9, kq9, q9a, q9b, q9c⟩ := isOf hZ e6' kE1
  obtain ⟨_, _, ⟨T9, L9, k9, n9⟩, -, X9, ⟨Lc9, hQ9, l9, y9, z9⟩, st9⟩ := X6.virtualBack hx (y := (⟨"java/lang/String", "charAt", "(I)C"⟩ : MethodName)) (z := (⟨"java/lang/String", "charAt", "(I)C"⟩ : MethodName)) hown (mvT hZ (own_w hw 13 rfl)) (mvT hZ (own_w hw 14 rfl)) (notFace_of_selects (args := #[]) (mvT hZ (own_w hw 16 rfl))) (mvT hZ (own_w hw 16 rfl)) (mvT hZ (own_w hw 15 rfl)) (by decide) (backOf (W := 0) (rm2 l Z a0 hw [] ka1 ((((b_.toUInt32 >>> (((5 : Int32) * k_) &&& 31).toUInt32).toInt32) &&& (31 : Int32)) % (32 : Int32)) cS kb1 kc1 32 own_gH (32 : Int32) (own_ix5 b_ k_).toNatClampNeg fo h1 n0 (Nat.le_trans Z0 z7) kE1 kC1 kV1 kW3 f5 H_cs (own_m31 _).1 (own_m31 _).2 (by decide) f8 Hfo) hZ (own_w hw 17 rfl) (own_w hw 6 rfl) (by decide) (by decide)) q9a q9c (g := (mkF m 16 #[vi b_, vi k_] [(.int ((((b_.toUInt32 >>> (((5 : Int32) * k_) &&& 31).toUInt32).toInt32) &&& (31 : Int32)) % (32 : Int32))), (.ref ka1)])) rfl (by rw [hml]; rfl) (Steps.refl _) (argsL := [(.int ((((b_.toUInt32 >>> (((5 : Int32) * k_) &&& 31).toUInt32).toInt32) &&& (31 : Int32)) % (32 : Int32)))]) (rest := []) (lenOf pd_17 rfl) rfl (by show 2 * 0 + _ ≤ _; exact Nat.le_of_eq rfl) (hb hby d7_16) (fun _ _ => ⟨rfl, e6', (by decide : 2 + 0 ≤ _), (by decide : 132 + 0 ≤ _)⟩)
  dsimp only [Pt.U, Pt.locs, Pt.cells, Pt.slots] at X9 l9 y9 z9 st9 hQ9
  replace l9 := l9.symm
  subst l9 y9 z9
  obtain ⟨rfl, rfl, e9⟩ := hQ9
  first | rw [List.append_nil] at X9 | skip
  refine Goes.tr st9 ?_
  have e9' : T9.heap = h1 := e9
  show Goes p e below _ (T9.setTop (mkF m 19 #[vi b_, vi k_] [(.int (own_gH (own_ix5 b_ k_).toNatClampNeg &&& (255 : Int32)))]))
  have K10 : Keep h0 h1 [] := ((Keep.refl h0 []).ext E1)
  have hKe : KT Z own_K0 T9.vm T9.heap := by rw [e9']; exact Ks1.at_ (s := s) X9.warmed
  exact own_wfinN X9 SI1 (by rw [e9']; exact sk1) (fun U_ hv hh_ => by show KT Z own_K0 U_.vm U_.heap; rw [hv, hh_]; exact hKe) hx hlk hret (by simp) (hb hby d7_19) (by rw [e9']; exact ⟨(own_ret (i2c_mask _)), N0, K10⟩) (by first | decide | omega | (dsimp only; omega)) (by first | decide | omega | (dsimp only; omega))
theorem ef_rm35 (m : MethodId) (b_ : Int32) (k_ : Int32) : entryFrame m #[(.int b_), (.int k_)] 2 = mkF m 0 #[.val (.int b_), .val (.int k_)] [] := by first | (simp [entryFrame, mkF, argsToLocals, Value.category]; done) | rfl
def Qrm35 (Z : State) (b_ : Int32) (k_ : Int32) (cS : Int32) (fo : Value) (h0 : Heap) (n0 : Nat) (v_ : Option Value) (h_ : Heap) (L_ : List Loc) : Prop := v_ = some (.int (own_pc b_ k_)) ∧ Fr n0 L_ ∧ Keep h0 h_ []
theorem d35_0 : decode method_3_code 0 = .ok (.ldc 19, 2) := by decide +kernel
theorem d35_2 : decode method_3_code 2 = .ok (.iload_n 0, 1) := by decide +kernel
theorem d35_3 : decode method_3_code 3 = .ok (.iconst 5, 1) := by decide +kernel
theorem d35_4 : decode method_3_code 4 = .ok (.iload_n 1, 1) := by decide +kernel
theorem d35_5 : decode method_3_code 5 = .ok (.imul, 1) := by decide +kernel
theorem d35_6 : decode method_3_code 6 = .ok (.iushr, 1) := by decide +kernel
theorem d35_7 : decode method_3_code 7 = .ok (.bipush 31, 2) := by decide +kernel
theorem d35_9 : decode method_3_code 9 = .ok (.iand, 1) := by decide +kernel
theorem d35_10 : decode method_3_code 10 = .ok (.ldc 19, 2) := by decide +kernel
theorem d35_12 : decode method_3_code 12 = .ok (.invokevirtual 9, 3) := by decide +kernel
theorem d35_15 : decode method_3_code 15 = .ok (.irem, 1) := by decide +kernel
theorem d35_16 : decode method_3_code 16 = .ok (.invokevirtual 15, 3) := by decide +kernel
theorem d35_19 : decode method_3_code 19 = .ok (.ireturn, 1) := by decide +kernel
set_option maxRecDepth 65536 in
set_option maxHeartbeats 40000000 in
theorem rm35 (l : Launch) (Z : State) (a0 : Array Value) (hw : ∀ d ∈ tables_1, d.before a0 Z = true) (ws : List Jvm.Cond) (b_ : Int32) (k_ : Int32) (cS : Int32) (fo : Value) (h0 : Heap) (n0 : Nat) (Z0 : n0 ≤ h0.size) (S0_java_lang_String_COMPACT_STRINGS_COMPACT_STRINGS : Sta Z h0 "java/lang/String" "COMPACT_STRINGS" "Z" (.int cS)) (H_cs : ¬ cS = (0 : Int32)) (S2_jdk_internal_util_Preconditions_SIOOBE_FORMATTER_SIOOBE_FORMATTER : Sta Z h0 "jdk/internal/util/Preconditions" "SIOOBE_FORMATTER" "Ljava/util/function/BiFunction;" fo) (Hfo : fo.isRef = true) (HO : Old Z n0 h0) (HW : Jvm.Lit.compactW.before a0 Z = true) (HC0 : Jvm.Lit.constHeld Z "com/example/lincra/lincra/UrlNormalizerPathAndQueryPinLaw" 7) (HC1 : Jvm.Lit.constHeld Z "com/example/lincra/lincra/UrlNormalizerPathAndQueryPinLaw" 19) (HC2 : Jvm.Lit.constHeld Z "com/example/lincra/lincra/UrlNormalizer" 81) (HC3 : Jvm.Lit.constHeld Z "com/example/lincra/lincra/UrlNormalizerPathAndQueryPinLaw" 23) (HC4 : Jvm.Lit.constHeld Z "com/example/lincra/lincra/UrlNormalizerPathAndQueryPinLaw" 21) :
    MetFree l (⟨"com/example/lincra/lincra/UrlNormalizerPathAndQueryPinLaw", "pathChar", "(II)C"⟩ : MethodName) (head1 (Jvm.Cond.code (⟨"com/example/lincra/lincra/UrlNormalizerPathAndQueryPinLaw", "pathChar", "(II)C"⟩ : MethodName) method_3_code 2 (some .char) :: ws) ({ frames := 4, cells := 2, slots := 132, locals := 53 } : Room)) (fun as_ U_ => as_ = #[(.int b_), (.int k_)] ∧ Z.Warmed39 U_.vm ∧ U_.heap = h0 ∧ KT Z own_K0 U_.vm U_.heap) (fun _ _ _ _ _ => True) (fun _ U_ o_ V_ => ∃ v_ L_, o_ = .returned v_ ∧ Qrm35 Z b_ k_ cS fo h0 n0 v_ V_.heap L_ ∧ KT Z own_K0 V_.vm V_.heap ∧ ReturnedEndW U_ o_ V_ L_ ({ frames := 4, cells := 2, slots := 132, locals := 53 } : Room).cells ({ frames := 4, cells := 2, slots := 132, locals := 53 } : Room).slots) := by
  refine MetFree.of_bodySF (plainFor_of_name pn_com_example_lincra_lincra_UrlNormalizerPathAndQueryPinLaw) hisR ?_
  intro p e s m args below meth c s₁ Bd hml0 hP hK
  obtain ⟨rfl, hZ, hh, hKs⟩ := hP
  have hx := Bd.exec
  have hby := Bd.bytes
  have hlk : meth.locks = false := BodyLoose.notSynchronized Bd
  have hret := Bd.returns
  have hml : c.maxLocals = 2 := hml0
  have hown : s.vm.findClass "com/example/lincra/lincra/UrlNormalizerPathAndQueryPinLaw" = some m.cls := findClass_of_methodNamed Bd.named
  have hnm := (name_of_methodNamed Bd.named Bd.method).1
  have X0 : Stand p l e ({ frames := 4, cells := 2, slots := 132, locals := 53 } : Room) (s.setVm s.vm) m #[(.int b_), (.int k_)] below meth c s₁ [] 0 0 := Stand.of_body Bd
  have e0 : s₁.heap = h0 := by rw [← hh, Bd.state]; rfl
  have N0 := Fr.nil n0
  show Goes p e below (Fin_W s (Qrm35 Z b_ k_ cS fo h0 n0) (fun U_ => KT Z own_K0 U_.vm U_.heap) ({ frames := 4, cells := 2, slots := 132, locals := 53 } : Room).cells ({ frames := 4, cells := 2, slots := 132, locals := 53 } : Room).slots) (s₁.setTop (entryFrame m #[(.int b_), (.int k_)] 2))
  rw [ef_rm35 m b_ k_]
  have SI0 : s.Since s.vm 0 := (State.WarmedH.refl s).since 0
  have Ks0 : KT Z own_K0 s.vm h0 := hh ▸ hKs
  obtain ⟨ka1, T1, h1, vm1, k11, kb1, kc1, X1, e1, E1, SI1, sk1, hZ, hown, kE1, kC1, kV1, kA1, kL1, Ks1, st1⟩ := own_ldcK (KL := own_KL) (z := (32 : Int32)) (vs := [(.int 97), (.int 113), (.int 122), (.int 65), (.int 81), (.int 90), (.int 48), (.int 51), (.int 55), (.int 57), (.int 45), (.int 46), (.int 95), (.int 126), (.int 33), (.int 36), (.int 38), (.int 39), (.int 40), (.int 41), (.int 42), (.int 43), (.int 44), (.int 59), (.int 61), (.int 58), (.int 64), (.int 47), (.int 63), (.int 47), (.int 63), (.int 70)]) X0 hx hZ hown (own_w hw 153 rfl) (fun d hd => hw d ((by decide +kernel : ∀ d ∈ Bundle.stringAtoms, d ∈ tables_1) d hd)) e0 SI0 (Nat.zero_le _) (Fr.nil _) (by rw [hh]; exact HO.2.2) Ks0.1 (by simp [own_KL]) (by decide +kernel) HC1 HW (by decide +kernel) (by decide) (by decide) (g := (mkF m 0 #[vi b_, vi k_] [])) rfl (hb hby d35_0) (n := 128) (by decide +kernel) (by decide) (by first | decide | omega | (dsimp only; omega)) (by first | decide | omega | (dsimp only; omega))
  have Ks1 : KT Z own_K0 vm1 h1 := ⟨Ks1, fun x hx => absurd hx (by simp [own_K0])⟩
  refine Goes.via st1 ?_
  have ne2 : ka1 ≠ kb1 := kE1.neArv kA1 (own_w hw 7 rfl)
  show Goes p e below _ (T1.setTop (mkF m 2 #[vi b_, vi k_] [(.ref ka1)]))
  have kW3 : Arw Z h1 kb1 kc1 .byte 32 (fun i => .int (own_gT i)) := Arw.ofArv kA1 (by decide) (fun i hi => own_lt_own_gT i hi)
  refine gILN X1 hx hby d35_2 rfl ?_
  refine gIC (z := 5) X1 hx hby d35_3 rfl ?_
  refine gILN X1 hx hby d35_4 rfl ?_
  refine Goes.via (fun _ kk_ => XS.imul X1.here hx rfl (hb hby d35_5) rfl kk_) ?_
  show Goes p e below _ (T1.setTop (mkF m 6 #[vi b_, vi k_] [(.int ((5 : Int32) * k_)), (.int b_), (.ref ka1)]))
  refine Goes.via (fun _ kk_ => XS.iushr X1.here hx rfl (hb hby d35_6) rfl kk_) ?_
  show Goes p e below _ (T1.setTop (mkF m 7 #[vi b_, vi k_] [(.int ((b_.toUInt32 >>> (((5 : Int32) * k_) &&& 31).toUInt32).toInt32)), (.ref ka1)]))
  refine gBI (z := 31) X1 hx hby d35_7 rfl ?_
  refine Goes.via (fun _ kk_ => XS.iand X1.here hx rfl (hb hby d35_9) rfl kk_) ?_
  show Goes p e below _ (T1.setTop (mkF m 10 #[vi b_, vi k_] [(.int (((b_.toUInt32 >>> (((5 : Int32) * k_) &&& 31).toUInt32).toInt32) &&& (31 : Int32))), (.ref ka1)]))
  refine Goes.via (ldcAgain X1 hx hZ hown (own_w hw 153 rfl) kL1 (g := (mkF m 10 #[vi b_, vi k_] [(.int (((b_.toUInt32 >>> (((5 : Int32) * k_) &&& 31).toUInt32).toInt32) &&& (31 : Int32))), (.ref ka1)])) rfl (hb hby d35_10)) ?_
  show Goes p e below _ (T1.setTop (mkF m 12 #[vi b_, vi k_] [(.ref ka1), (.int (((b_.toUInt32 >>> (((5 : Int32) * k_) &&& 31).toUInt32).toInt32) &&& (31 : Int32))), (.ref ka1)]))
  have f5 : Sta Z h1 "java/lang/String" "COMPACT_STRINGS" "Z" (.int cS) := (S0_java_lang_String_COMPACT_STRINGS_COMPACT_STRINGS.ext E1)
  have z7 : h0.size ≤ (h1).size := (Nat.le_trans (Nat.le_refl _) E1.1)
  obtain ⟨cq6, kq6, q6a, q6b, q6c⟩ := isOf hZ e1 kE1
  obtain ⟨_, _, ⟨T6, L6, k6, n6⟩, -, X6, ⟨Lc6, hQ6, l6, y6, z6⟩, st6⟩ := X1.virtualBack hx (y := (⟨"java/lang/String", "length", "()I"⟩ : MethodName)) (z := (⟨"java/lang/String", "length", "()I"⟩ : MethodName)) hown (mvT hZ (own_w hw 42 rfl)) (mvT hZ (own_w hw 43 rfl)) (notFace_of_selects (args := #[]) (mvT hZ (own_w hw 45 rfl))) (mvT hZ (own_w hw 45 rfl)) (mvT hZ (own_w hw 44 rfl)) (by decide) (backOf (W := 2) (rm8 l Z a0 hw [] ka1 (32 : Int32) cS kb1 kc1 32 own_gT h1 n0 (Nat.le_trans Z0 z7) kE1 kC1 kV1 kW3 f5 H_cs (by decide)) hZ (own_w hw 46 rfl) (own_w hw 6 rfl) (by decide) (by decide)) q6a q6c (g := (mkF m 12 #[vi b_, vi k_] [(.ref ka1), (.int (((b_.toUInt32 >>> (((5 : Int32) * k_) &&& 31).toUInt32).toInt32) &&& (31 : Int32))), (.ref ka1)])) rfl (by rw [hml]; rfl) (Steps.refl _) (argsL := []) (rest := [(.int (((b_.toUInt32 >>> (((5 : Int32) * k_) &&& 31).toUInt32).toInt32) &&& (31 : Int32))), (.ref ka1)]) (lenOf pd_8 rfl) rfl (by show 2 * 0 + _ ≤ _; exact Nat.le_of_eq rfl) (hb hby d35_12) (fun _ _ => ⟨rfl, e1, (by decide : 2 + 0 ≤ _), (by decide : 132 + 0 ≤ _)⟩)
  dsimp only [Pt.U, Pt.locs, Pt.cells, Pt.slots] at X6 l6 y6 z6 st6 hQ6
  replace l6 := l6.symm
  subst l6 y6 z6
  obtain ⟨rfl, rfl, e6⟩ := hQ6
  first | rw [List.append_nil] at X6 | skip
  refine Goes.tr st6 ?_
  have e6' : T6.heap = h1 := e6
  show Goes p e below _ (T6.setTop (mkF m 15 #[vi b_, vi k_] [(.int (32 : Int32)), (.int (((b_.toUInt32 >>> (((5 : Int32) * k_) &&& 31).toUInt32).toInt32) &&& (31 : Int32))), (.ref ka1)]))
  refine Goes.via (fun _ kk_ => iremM X6 hx rfl (hb hby d35_15) rfl (by decide) kk_) ?_
  show Goes p e below _ (T6.setTop (mkF m 16 #[vi b_, vi k_] [(.int ((((b_.toUInt32 >>> (((5 : Int32) * k_) &&& 31).toUInt32).toInt32) &&& (31 : Int32)) % (32 : Int32))), (.ref ka1)]))
  have f8 : Sta Z h1 "jdk/internal/util/Preconditions" "SIOOBE_FORMATTER" "Ljava/util/function/BiFunction;" fo := (S2_jdk_internal_util_Preconditions_SIOOBE_FORMATTER_SIOOBE_FORMATTER.ext E1)
  obtain ⟨cq9, kq9, q9a, q9b, q9c⟩ := isOf hZ e6' kE1
  obtain ⟨_, _, ⟨T9, L9, k9, n9⟩, -, X9, ⟨Lc9, hQ9, l9, y9, z9⟩, st9⟩ := X6.virtualBack hx (y := (⟨"java/lang/String", "charAt", "(I)C"⟩ : MethodName)) (z := (⟨"java/lang/String", "charAt", "(I)C"⟩ : MethodName)) hown (mvT hZ (own_w hw 13 rfl)) (mvT hZ (own_w hw 14 rfl)) (notFace_of_selects (args := #[]) (mvT hZ (own_w hw 16 rfl))) (mvT hZ (own_w hw 16 rfl)) (mvT hZ (own_w hw 15 rfl)) (by decide) (backOf (W := 0) (rm2 l Z a0 hw [] ka1 ((((b_.toUInt32 >>> (((5 : Int32) * k_) &&& 31).toUInt32).toInt32) &&& (31 : Int32)) % (32 : Int32)) cS kb1 kc1 32 own_gT (32 : Int32) (own_ix5 b_ k_).toNatClampNeg fo h1 n0 (Nat.le_trans Z0 z7) kE1 kC1 kV1 kW3 f5 H_cs (own_m31 _).1 (own_m31 _).2 (by decide) f8 Hfo) hZ (own_w hw 17 rfl) (own_w hw 6 rfl) (by decide) (by decide)) q9a q9c (g := (mkF m 16 #[vi b_, vi k_] [(.int ((((b_.toUInt32 >>> (((5 : Int32) * k_) &&& 31).toUInt32).toInt32) &&& (31 : Int32)) % (32 : Int32))), (.ref ka1)])) rfl (by rw [hml]; rfl) (Steps.refl _) (argsL := [(.int ((((b_.toUInt32 >>> (((5 : Int32) * k_) &&& 31).toUInt32).toInt32) &&& (31 : Int32)) % (32 : Int32)))]) (rest := []) (lenOf pd_17 rfl) rfl (by show 2 * 0 + _ ≤ _; exact Nat.le_of_eq rfl) (hb hby d35_16) (fun _ _ => ⟨rfl, e6', (by decide : 2 + 0 ≤ _), (by decide : 132 + 0 ≤ _)⟩)
  dsimp only [Pt.U, Pt.locs, Pt.cells, Pt.slots] at X9 l9 y9 z9 st9 hQ9
  replace l9 := l9.symm
  subst l9 y9 z9
  obtain ⟨rfl, rfl, e9⟩ := hQ9
  first | rw [List.append_nil] at X9 | skip
  refine Goes.tr st9 ?_
  have e9' : T9.heap = h1 := e9
  show Goes p e below _ (T9.setTop (mkF m 19 #[vi b_, vi k_] [(.int (own_gT (own_ix5 b_ k_).toNatClampNeg &&& (255 : Int32)))]))
  have K10 : Keep h0 h1 [] := ((Keep.refl h0 []).ext E1)
  have hKe : KT Z own_K0 T9.vm T9.heap := by rw [e9']; exact Ks1.at_ (s := s) X9.warmed
  exact own_wfinN X9 SI1 (by rw [e9']; exact sk1) (fun U_ hv hh_ => by show KT Z own_K0 U_.vm U_.heap; rw [hv, hh_]; exact hKe) hx hlk hret (by simp) (hb hby d35_19) (by rw [e9']; exact ⟨(own_ret (i2c_mask _)), N0, K10⟩) (by first | decide | omega | (dsimp only; omega)) (by first | decide | omega | (dsimp only; omega))
theorem ef_rmA7f (m : MethodId) (i_ : Int32) (z_ : Int32) (b_ : Int32) (d_ : Int32) : entryFrame m #[(.int i_), (.int (7 : Int32)), (.int z_), (.int b_), (.int d_)] 5 = mkF m 0 #[.val (.int i_), .val (.int (7 : Int32)), .val (.int z_), .val (.int b_), .val (.int d_)] [] := by first | (simp [entryFrame, mkF, argsToLocals, Value.category]; done) | rfl
def QrmA7f (Z : State) (i_ : Int32) (z_ : Int32) (b_ : Int32) (d_ : Int32) (cS : Int32) (fo : Value) (j : Nat) (h0 : Heap) (n0 : Nat) (v_ : Option Value) (h_ : Heap) (L_ : List Loc) : Prop := v_ = some (.int (own_g7 j &&& (255 : Int32))) ∧ Fr n0 L_ ∧ Keep h0 h_ []
theorem d1_0 : decode method_4_code 0 = .ok (.iload_n 0, 1) := by decide +kernel
theorem d1_1 : decode method_4_code 1 = .ok (.iload_n 1, 1) := by decide +kernel
theorem d1_2 : decode method_4_code 2 = .ok (.if_icmp .ge 25, 3) := by decide +kernel
theorem d1_5 : decode method_4_code 5 = .ok (.iload_n 1, 1) := by decide +kernel
theorem d1_6 : decode method_4_code 6 = .ok (.bipush 8, 2) := by decide +kernel
theorem d1_8 : decode method_4_code 8 = .ok (.if_icmp .ne 12, 3) := by decide +kernel
theorem d1_20 : decode method_4_code 20 = .ok (.ldc 23, 2) := by decide +kernel
theorem d1_22 : decode method_4_code 22 = .ok (.iload_n 0, 1) := by decide +kernel
theorem d1_23 : decode method_4_code 23 = .ok (.invokevirtual 15, 3) := by decide +kernel
theorem d1_26 : decode method_4_code 26 = .ok (.ireturn, 1) := by decide +kernel
set_option maxRecDepth 65536 in
set_option maxHeartbeats 40000000 in
theorem rmA7f (l : Launch) (Z : State) (a0 : Array Value) (hw : ∀ d ∈ tables_1, d.before a0 Z = true) (ws : List Jvm.Cond) (i_ : Int32) (z_ : Int32) (b_ : Int32) (d_ : Int32) (cS : Int32) (fo : Value) (j : Nat) (h0 : Heap) (n0 : Nat) (Z0 : n0 ≤ h0.size) (Hij : i_.toInt = (j : Int)) (HjN : j < 7) (Hlt : i_ < (7 : Int32)) (S3_java_lang_String_COMPACT_STRINGS_COMPACT_STRINGS : Sta Z h0 "java/lang/String" "COMPACT_STRINGS" "Z" (.int cS)) (H_cs : ¬ cS = (0 : Int32)) (S5_jdk_internal_util_Preconditions_SIOOBE_FORMATTER_SIOOBE_FORMATTER : Sta Z h0 "jdk/internal/util/Preconditions" "SIOOBE_FORMATTER" "Ljava/util/function/BiFunction;" fo) (Hfo : fo.isRef = true) (HO : Old Z n0 h0) (HW : Jvm.Lit.compactW.before a0 Z = true) (HC0 : Jvm.Lit.constHeld Z "com/example/lincra/lincra/UrlNormalizerPathAndQueryPinLaw" 7) (HC1 : Jvm.Lit.constHeld Z "com/example/lincra/lincra/UrlNormalizerPathAndQueryPinLaw" 19) (HC2 : Jvm.Lit.constHeld Z "com/example/lincra/lincra/UrlNormalizer" 81) (HC3 : Jvm.Lit.constHeld Z "com/example/lincra/lincra/UrlNormalizerPathAndQueryPinLaw" 23) (HC4 : Jvm.Lit.constHeld Z "com/example/lincra/lincra/UrlNormalizerPathAndQueryPinLaw" 21) :
    MetFree l (⟨"com/example/lincra/lincra/UrlNormalizerPathAndQueryPinLaw", "at", "(IIIII)C"⟩ : MethodName) (head1 (Jvm.Cond.code (⟨"com/example/lincra/lincra/UrlNormalizerPathAndQueryPinLaw", "at", "(IIIII)C"⟩ : MethodName) method_4_code 5 (some .char) :: ws) ({ frames := 4, cells := 2, slots := 32, locals := 53 } : Room)) (fun as_ U_ => as_ = #[(.int i_), (.int (7 : Int32)), (.int z_), (.int b_), (.int d_)] ∧ Z.Warmed39 U_.vm ∧ U_.heap = h0 ∧ KT Z own_K0 U_.vm U_.heap) (fun _ _ _ _ _ => True) (fun _ U_ o_ V_ => ∃ v_ L_, o_ = .returned v_ ∧ QrmA7f Z i_ z_ b_ d_ cS fo j h0 n0 v_ V_.heap L_ ∧ KT Z own_K7 V_.vm V_.heap ∧ ReturnedEndW U_ o_ V_ L_ ({ frames := 4, cells := 2, slots := 32, locals := 53 } : Room).cells ({ frames := 4, cells := 2, slots := 32, locals := 53 } : Room).slots) := by
  refine MetFree.of_bodySF (plainFor_of_name pn_com_example_lincra_lincra_UrlNormalizerPathAndQueryPinLaw) hisR ?_
  intro p e s m args below meth c s₁ Bd hml0 hP hK
  obtain ⟨rfl, hZ, hh, hKs⟩ := hP
  have hx := Bd.exec
  have hby := Bd.bytes
  have hlk : meth.locks = false := BodyLoose.notSynchronized Bd
  have hret := Bd.returns
  have hml : c.maxLocals = 5 := hml0
  have hown : s.vm.findClass "com/example/lincra/lincra/UrlNormalizerPathAndQueryPinLaw" = some m.cls := findClass_of_methodNamed Bd.named
  have hnm := (name_of_methodNamed Bd.named Bd.method).1
  have X0 : Stand p l e ({ frames := 4, cells := 2, slots := 32, locals := 53 } : Room) (s.setVm s.vm) m #[(.int i_), (.int (7 : Int32)), (.int z_), (.int b_), (.int d_)] below meth c s₁ [] 0 0 := Stand.of_body Bd
  have e0 : s₁.heap = h0 := by rw [← hh, Bd.state]; rfl
  have N0 := Fr.nil n0
  show Goes p e below (Fin_W s (QrmA7f Z i_ z_ b_ d_ cS fo j h0 n0) (fun U_ => KT Z own_K7 U_.vm U_.heap) ({ frames := 4, cells := 2, slots := 32, locals := 53 } : Room).cells ({ frames := 4, cells := 2, slots := 32, locals := 53 } : Room).slots) (s₁.setTop (entryFrame m #[(.int i_), (.int (7 : Int32)), (.int z_), (.int b_), (.int d_)] 5))
  rw [ef_rmA7f m i_ z_ b_ d_]
  have SI0 : s.Since s.vm 0 := (State.WarmedH.refl s).since 0
  have Ks0 : KT Z own_K0 s.vm h0 := hh ▸ hKs
  refine gILN X0 hx hby d1_0 rfl ?_
  refine gILN X0 hx hby d1_1 rfl ?_
  have hc2_1 : i_ < (7 : Int32) := Hlt
  refine Goes.via (fun _ kk_ => XS.icmpNo X0.here hx rfl (hb hby d1_2) rfl (tlt hc2_1).2.1 kk_) ?_
  show Goes p e below _ (s₁.setTop (mkF m 5 #[vi i_, vi (7 : Int32), vi z_, vi b_, vi d_] []))
  refine gILN X0 hx hby d1_5 rfl ?_
  refine gBI (z := 8) X0 hx hby d1_6 rfl ?_
  have hc8_2 : ¬ ((7 : Int32) = (8 : Int32)) := (by decide)
  refine Goes.via (fun _ kk_ => XS.icmpYes X0.here hx rfl (pc0 := 8) (pc' := 20) rfl (hb hby d1_8) rfl (feq hc8_2).2 (by decide) (by decide) kk_) ?_
  show Goes p e below _ (s₁.setTop (mkF m 20 #[vi i_, vi (7 : Int32), vi z_, vi b_, vi d_] []))
  obtain ⟨ka3, T3, h3, vm3, k13, kb3, kc3, X3, e3, E3, SI3, sk3, hZ, hown, kE3, kC3, kV3, kA3, kL3, Ks3, st3⟩ := own_ldcK (KL := own_KL) (z := (7 : Int32)) (vs := [(.int 104), (.int 116), (.int 116), (.int 112), (.int 58), (.int 47), (.int 47)]) X0 hx hZ hown (own_w hw 5 rfl) (fun d hd => hw d ((by decide +kernel : ∀ d ∈ Bundle.stringAtoms, d ∈ tables_1) d hd)) e0 SI0 (Nat.zero_le _) (Fr.nil _) (by rw [hh]; exact HO.2.2) Ks0.1 (by simp [own_KL]) (by decide +kernel) HC3 HW (by decide +kernel) (by decide) (by decide) (g := (mkF m 20 #[vi i_, vi (7 : Int32), vi z_, vi b_, vi d_] [])) rfl (hb hby d1_20) (n := 28) (by decide +kernel) (by decide) (by first | decide | omega | (dsimp only; omega)) (by first | decide | omega | (dsimp only; omega))
  have Ks3 : KT Z own_K0 vm3 h3 := ⟨Ks3, fun x hx => absurd hx (by simp [own_K0])⟩
  refine Goes.via st3 ?_
  have ne4 : ka3 ≠ kb3 := kE3.neArv kA3 (own_w hw 7 rfl)
  show Goes p e below _ (T3.setTop (mkF m 22 #[vi i_, vi (7 : Int32), vi z_, vi b_, vi d_] [(.ref ka3)]))
  have kW5 : Arw Z h3 kb3 kc3 .byte 7 (fun i => .int (own_g7 i)) := Arw.ofArv kA3 (by decide) (fun i hi => own_lt_own_g7 i hi)
  refine gILN X3 hx hby d1_22 rfl ?_
  have f6 : Sta Z h3 "java/lang/String" "COMPACT_STRINGS" "Z" (.int cS) := (S3_java_lang_String_COMPACT_STRINGS_COMPACT_STRINGS.ext E3)
  have f7 : Sta Z h3 "jdk/internal/util/Preconditions" "SIOOBE_FORMATTER" "Ljava/util/function/BiFunction;" fo := (S5_jdk_internal_util_Preconditions_SIOOBE_FORMATTER_SIOOBE_FORMATTER.ext E3)
  have z9 : h0.size ≤ (h3).size := (Nat.le_trans (Nat.le_refl _) E3.1)
  obtain ⟨cq8, kq8, q8a, q8b, q8c⟩ := isOf hZ e3 kE3
  obtain ⟨_, _, ⟨T8, L8, k8, n8⟩, -, X8, ⟨Lc8, hQ8, l8, y8, z8⟩, st8⟩ := X3.virtualBack hx (y := (⟨"java/lang/String", "charAt", "(I)C"⟩ : MethodName)) (z := (⟨"java/lang/String", "charAt", "(I)C"⟩ : MethodName)) hown (mvT hZ (own_w hw 13 rfl)) (mvT hZ (own_w hw 14 rfl)) (notFace_of_selects (args := #[]) (mvT hZ (own_w hw 16 rfl))) (mvT hZ (own_w hw 16 rfl)) (mvT hZ (own_w hw 15 rfl)) (by decide) (backOf (W := 0) (rm2 l Z a0 hw [] ka3 i_ cS kb3 kc3 7 own_g7 (7 : Int32) j fo h3 n0 (Nat.le_trans Z0 z9) kE3 kC3 kV3 kW5 f6 H_cs Hij HjN (by decide) f7 Hfo) hZ (own_w hw 17 rfl) (own_w hw 6 rfl) (by decide) (by decide)) q8a q8c (g := (mkF m 23 #[vi i_, vi (7 : Int32), vi z_, vi b_, vi d_] [(.int i_), (.ref ka3)])) rfl (by rw [hml]; rfl) (Steps.refl _) (argsL := [(.int i_)]) (rest := []) (lenOf pd_17 rfl) rfl (by show 2 * 0 + _ ≤ _; exact Nat.le_of_eq rfl) (hb hby d1_23) (fun _ _ => ⟨rfl, e3, (by decide : 2 + 0 ≤ _), (by decide : 32 + 0 ≤ _)⟩)
  dsimp only [Pt.U, Pt.locs, Pt.cells, Pt.slots] at X8 l8 y8 z8 st8 hQ8
  replace l8 := l8.symm
  subst l8 y8 z8
  obtain ⟨rfl, rfl, e8⟩ := hQ8
  first | rw [List.append_nil] at X8 | skip
  refine Goes.tr st8 ?_
  have e8' : T8.heap = h3 := e8
  show Goes p e below _ (T8.setTop (mkF m 26 #[vi i_, vi (7 : Int32), vi z_, vi b_, vi d_] [(.int (own_g7 j &&& (255 : Int32)))]))
  have K10 : Keep h0 h3 [] := ((Keep.refl h0 []).ext E3)
  have hKe : KT Z own_K7 T8.vm T8.heap := by rw [e8']; exact (KT.more Ks3 ⟨ka3, kb3, kc3, kL3, kE3, kC3, kV3, kA3⟩).at_ (s := s) X8.warmed
  exact own_wfinN X8 SI3 (by rw [e8']; exact sk3) (fun U_ hv hh_ => by show KT Z own_K7 U_.vm U_.heap; rw [hv, hh_]; exact hKe) hx hlk hret (by simp) (hb hby d1_26) (by rw [e8']; exact ⟨(own_ret (i2c_mask _)), N0, K10⟩) (by first | decide | omega | (dsimp only; omega)) (by first | decide | omega | (dsimp only; omega))
theorem ef_rmA7g (m : MethodId) (i_ : Int32) (z_ : Int32) (b_ : Int32) (d_ : Int32) : entryFrame m #[(.int i_), (.int (7 : Int32)), (.int z_), (.int b_), (.int d_)] 5 = mkF m 0 #[.val (.int i_), .val (.int (7 : Int32)), .val (.int z_), .val (.int b_), .val (.int d_)] [] := by first | (simp [entryFrame, mkF, argsToLocals, Value.category]; done) | rfl
def QrmA7g (Z : State) (i_ : Int32) (z_ : Int32) (b_ : Int32) (d_ : Int32) (cS : Int32) (fo : Value) (j : Nat) (h0 : Heap) (n0 : Nat) (v_ : Option Value) (h_ : Heap) (L_ : List Loc) : Prop := v_ = some (.int (own_g7 j &&& (255 : Int32))) ∧ Fr n0 L_ ∧ Keep h0 h_ []
set_option maxRecDepth 65536 in
set_option maxHeartbeats 40000000 in
theorem rmA7g (l : Launch) (Z : State) (a0 : Array Value) (hw : ∀ d ∈ tables_1, d.before a0 Z = true) (ws : List Jvm.Cond) (i_ : Int32) (z_ : Int32) (b_ : Int32) (d_ : Int32) (cS : Int32) (fo : Value) (j : Nat) (h0 : Heap) (n0 : Nat) (Z0 : n0 ≤ h0.size) (Hij : i_.toInt = (j : Int)) (HjN : j < 7) (Hlt : i_ < (7 : Int32)) (S3_java_lang_String_COMPACT_STRINGS_COMPACT_STRINGS : Sta Z h0 "java/lang/String" "COMPACT_STRINGS" "Z" (.int cS)) (H_cs : ¬ cS = (0 : Int32)) (S5_jdk_internal_util_Preconditions_SIOOBE_FORMATTER_SIOOBE_FORMATTER : Sta Z h0 "jdk/internal/util/Preconditions" "SIOOBE_FORMATTER" "Ljava/util/function/BiFunction;" fo) (Hfo : fo.isRef = true) (HO : Old Z n0 h0) (HW : Jvm.Lit.compactW.before a0 Z = true) (HC0 : Jvm.Lit.constHeld Z "com/example/lincra/lincra/UrlNormalizerPathAndQueryPinLaw" 7) (HC1 : Jvm.Lit.constHeld Z "com/example/lincra/lincra/UrlNormalizerPathAndQueryPinLaw" 19) (HC2 : Jvm.Lit.constHeld Z "com/example/lincra/lincra/UrlNormalizer" 81) (HC3 : Jvm.Lit.constHeld Z "com/example/lincra/lincra/UrlNormalizerPathAndQueryPinLaw" 23) (HC4 : Jvm.Lit.constHeld Z "com/example/lincra/lincra/UrlNormalizerPathAndQueryPinLaw" 21) :
    MetFree l (⟨"com/example/lincra/lincra/UrlNormalizerPathAndQueryPinLaw", "at", "(IIIII)C"⟩ : MethodName) (head1 (Jvm.Cond.code (⟨"com/example/lincra/lincra/UrlNormalizerPathAndQueryPinLaw", "at", "(IIIII)C"⟩ : MethodName) method_4_code 5 (some .char) :: ws) ({ frames := 4, cells := 0, slots := 0, locals := 53 } : Room)) (fun as_ U_ => as_ = #[(.int i_), (.int (7 : Int32)), (.int z_), (.int b_), (.int d_)] ∧ Z.Warmed39 U_.vm ∧ U_.heap = h0 ∧ KT Z own_K7 U_.vm U_.heap) (fun _ _ _ _ _ => True) (fun _ U_ o_ V_ => ∃ v_ L_, o_ = .returned v_ ∧ QrmA7g Z i_ z_ b_ d_ cS fo j h0 n0 v_ V_.heap L_ ∧ KT Z own_K7 V_.vm V_.heap ∧ ReturnedEndW U_ o_ V_ L_ ({ frames := 4, cells := 0, slots := 0, locals := 53 } : Room).cells ({ frames := 4, cells := 0, slots := 0, locals := 53 } : Room).slots) := by
  refine MetFree.of_bodySF (plainFor_of_name pn_com_example_lincra_lincra_UrlNormalizerPathAndQueryPinLaw) hisR ?_
  intro p e s m args below meth c s₁ Bd hml0 hP hK
  obtain ⟨rfl, hZ, hh, hKs⟩ := hP
  have hx := Bd.exec
  have hby := Bd.bytes
  have hlk : meth.locks = false := BodyLoose.notSynchronized Bd
  have hret := Bd.returns
  have hml : c.maxLocals = 5 := hml0
  have hown : s.vm.findClass "com/example/lincra/lincra/UrlNormalizerPathAndQueryPinLaw" = some m.cls := findClass_of_methodNamed Bd.named
  have hnm := (name_of_methodNamed Bd.named Bd.method).1
  have X0 : Stand p l e ({ frames := 4, cells := 0, slots := 0, locals := 53 } : Room) (s.setVm s.vm) m #[(.int i_), (.int (7 : Int32)), (.int z_), (.int b_), (.int d_)] below meth c s₁ [] 0 0 := Stand.of_body Bd
  have e0 : s₁.heap = h0 := by rw [← hh, Bd.state]; rfl
  have N0 := Fr.nil n0
  show Goes p e below (Fin_W s (QrmA7g Z i_ z_ b_ d_ cS fo j h0 n0) (fun U_ => KT Z own_K7 U_.vm U_.heap) ({ frames := 4, cells := 0, slots := 0, locals := 53 } : Room).cells ({ frames := 4, cells := 0, slots := 0, locals := 53 } : Room).slots) (s₁.setTop (entryFrame m #[(.int i_), (.int (7 : Int32)), (.int z_), (.int b_), (.int d_)] 5))
  rw [ef_rmA7g m i_ z_ b_ d_]
  have SI0 : s.Since s.vm 0 := (State.WarmedH.refl s).since 0
  have Ks0 : KT Z own_K7 s.vm h0 := hh ▸ hKs
  refine gILN X0 hx hby d1_0 rfl ?_
  refine gILN X0 hx hby d1_1 rfl ?_
  have hc2_1 : i_ < (7 : Int32) := Hlt
  refine Goes.via (fun _ kk_ => XS.icmpNo X0.here hx rfl (hb hby d1_2) rfl (tlt hc2_1).2.1 kk_) ?_
  show Goes p e below _ (s₁.setTop (mkF m 5 #[vi i_, vi (7 : Int32), vi z_, vi b_, vi d_] []))
  refine gILN X0 hx hby d1_5 rfl ?_
  refine gBI (z := 8) X0 hx hby d1_6 rfl ?_
  have hc8_2 : ¬ ((7 : Int32) = (8 : Int32)) := (by decide)
  refine Goes.via (fun _ kk_ => XS.icmpYes X0.here hx rfl (pc0 := 8) (pc' := 20) rfl (hb hby d1_8) rfl (feq hc8_2).2 (by decide) (by decide) kk_) ?_
  show Goes p e below _ (s₁.setTop (mkF m 20 #[vi i_, vi (7 : Int32), vi z_, vi b_, vi d_] []))
  obtain ⟨ka3, kb3, kc3, kL3, kE3, kC3, kV3, kA3⟩ := Ks0.2 ("com/example/lincra/lincra/UrlNormalizerPathAndQueryPinLaw", 23, "http://", (7 : Int32), [(.int 104), (.int 116), (.int 116), (.int 112), (.int 58), (.int 47), (.int 47)]) (by simp [own_K7])
  have kL3' : Lit (s.setVm s.vm) "com/example/lincra/lincra/UrlNormalizerPathAndQueryPinLaw" 23 ka3 := kL3
  refine Goes.via (ldcAgain X0 hx hZ hown (own_w hw 5 rfl) kL3' (g := (mkF m 20 #[vi i_, vi (7 : Int32), vi z_, vi b_, vi d_] [])) rfl (hb hby d1_20)) ?_
  show Goes p e below _ (s₁.setTop (mkF m 22 #[vi i_, vi (7 : Int32), vi z_, vi b_, vi d_] [(.ref ka3)]))
  have kW4 : Arw Z h0 kb3 kc3 .byte 7 (fun i => .int (own_g7 i)) := Arw.ofArv kA3 (by decide) (fun i hi => own_lt_own_g7 i hi)
  refine gILN X0 hx hby d1_22 rfl ?_
  obtain ⟨cq5, kq5, q5a, q5b, q5c⟩ := isOf hZ e0 kE3
  obtain ⟨_, _, ⟨T5, L5, k5, n5⟩, -, X5, ⟨Lc5, hQ5, l5, y5, z5⟩, st5⟩ := X0.virtualBack hx (y := (⟨"java/lang/String", "charAt", "(I)C"⟩ : MethodName)) (z := (⟨"java/lang/String", "charAt", "(I)C"⟩ : MethodName)) hown (mvT hZ (own_w hw 13 rfl)) (mvT hZ (own_w hw 14 rfl)) (notFace_of_selects (args := #[]) (mvT hZ (own_w hw 16 rfl))) (mvT hZ (own_w hw 16 rfl)) (mvT hZ (own_w hw 15 rfl)) (by decide) (backOf (W := 0) (rm2 l Z a0 hw [] ka3 i_ cS kb3 kc3 7 own_g7 (7 : Int32) j fo h0 n0 (Nat.le_trans Z0 (Nat.le_refl _)) kE3 kC3 kV3 kW4 S3_java_lang_String_COMPACT_STRINGS_COMPACT_STRINGS H_cs Hij HjN (by decide) S5_jdk_internal_util_Preconditions_SIOOBE_FORMATTER_SIOOBE_FORMATTER Hfo) hZ (own_w hw 17 rfl) (own_w hw 6 rfl) (by decide) (by decide)) q5a q5c (g := (mkF m 23 #[vi i_, vi (7 : Int32), vi z_, vi b_, vi d_] [(.int i_), (.ref ka3)])) rfl (by rw [hml]; rfl) (Steps.refl _) (argsL := [(.int i_)]) (rest := []) (lenOf pd_17 rfl) rfl (by show 2 * 0 + _ ≤ _; exact Nat.le_of_eq rfl) (hb hby d1_23) (fun _ _ => ⟨rfl, e0, (by decide : 0 + 0 ≤ _), (by decide : 0 + 0 ≤ _)⟩)
  dsimp only [Pt.U, Pt.locs, Pt.cells, Pt.slots] at X5 l5 y5 z5 st5 hQ5
  replace l5 := l5.symm
  subst l5 y5 z5
  obtain ⟨rfl, rfl, e5⟩ := hQ5
  first | rw [List.append_nil] at X5 | skip
  refine Goes.tr st5 ?_
  have e5' : T5.heap = h0 := e5
  have ne6 : ka3 ≠ kb3 := kE3.neArv kA3 (own_w hw 7 rfl)
  show Goes p e below _ (T5.setTop (mkF m 26 #[vi i_, vi (7 : Int32), vi z_, vi b_, vi d_] [(.int (own_g7 j &&& (255 : Int32)))]))
  have hKe : KT Z own_K7 T5.vm T5.heap := by rw [e5']; exact Ks0.at_ (s := s) X5.warmed
  exact own_wfinN X5 SI0 (by rw [e5']; exact (Nat.zero_le _)) (fun U_ hv hh_ => by show KT Z own_K7 U_.vm U_.heap; rw [hv, hh_]; exact hKe) hx hlk hret (by simp) (hb hby d1_26) (by rw [e5']; exact ⟨(own_ret (i2c_mask _)), N0, (Keep.refl h0 [])⟩) (by first | decide | omega | (dsimp only; omega)) (by first | decide | omega | (dsimp only; omega))
theorem ef_rmA7r (m : MethodId) (i_ : Int32) (z_ : Int32) (b_ : Int32) (d_ : Int32) : entryFrame m #[(.int i_), (.int (7 : Int32)), (.int z_), (.int b_), (.int d_)] 5 = mkF m 0 #[.val (.int i_), .val (.int (7 : Int32)), .val (.int z_), .val (.int b_), .val (.int d_)] [] := by first | (simp [entryFrame, mkF, argsToLocals, Value.category]; done) | rfl
def QrmA7r (Z : State) (i_ : Int32) (z_ : Int32) (b_ : Int32) (d_ : Int32) (cS : Int32) (fo : Value) (h0 : Heap) (n0 : Nat) (v_ : Option Value) (h_ : Heap) (L_ : List Loc) : Prop := v_ = some (.int (if i_ < ((7 : Int32) + z_) then own_hc b_ (i_ - (7 : Int32)) else if i_ = ((7 : Int32) + z_) then (47 : Int32) else own_pc d_ (((i_ - (7 : Int32)) - z_) - (1 : Int32)))) ∧ Fr n0 L_ ∧ Keep h0 h_ []
theorem d1_27 : decode method_4_code 27 = .ok (.iload_n 0, 1) := by decide +kernel
theorem d1_28 : decode method_4_code 28 = .ok (.iload_n 1, 1) := by decide +kernel
theorem d1_29 : decode method_4_code 29 = .ok (.iload_n 2, 1) := by decide +kernel
theorem d1_30 : decode method_4_code 30 = .ok (.iadd, 1) := by decide +kernel
theorem d1_31 : decode method_4_code 31 = .ok (.if_icmp .ge 11, 3) := by decide +kernel
theorem d1_34 : decode method_4_code 34 = .ok (.iload_n 3, 1) := by decide +kernel
theorem d1_35 : decode method_4_code 35 = .ok (.iload_n 0, 1) := by decide +kernel
theorem d1_36 : decode method_4_code 36 = .ok (.iload_n 1, 1) := by decide +kernel
theorem d1_37 : decode method_4_code 37 = .ok (.isub, 1) := by decide +kernel
theorem pd_18 : parseMethodDescriptor "(II)C" = some ⟨[.int, .int], some .char⟩ := by decide +kernel
theorem d1_38 : decode method_4_code 38 = .ok (.invokestatic 25, 3) := by decide +kernel
theorem d1_41 : decode method_4_code 41 = .ok (.ireturn, 1) := by decide +kernel
theorem d1_42 : decode method_4_code 42 = .ok (.iload_n 0, 1) := by decide +kernel
theorem d1_43 : decode method_4_code 43 = .ok (.iload_n 1, 1) := by decide +kernel
theorem d1_44 : decode method_4_code 44 = .ok (.iload_n 2, 1) := by decide +kernel
theorem d1_45 : decode method_4_code 45 = .ok (.iadd, 1) := by decide +kernel
theorem d1_46 : decode method_4_code 46 = .ok (.if_icmp .ne 6, 3) := by decide +kernel
theorem d1_49 : decode method_4_code 49 = .ok (.bipush 47, 2) := by decide +kernel
theorem d1_51 : decode method_4_code 51 = .ok (.ireturn, 1) := by decide +kernel
theorem d1_52 : decode method_4_code 52 = .ok (.iload 4, 2) := by decide +kernel
theorem d1_54 : decode method_4_code 54 = .ok (.iload_n 0, 1) := by decide +kernel
theorem d1_55 : decode method_4_code 55 = .ok (.iload_n 1, 1) := by decide +kernel
theorem d1_56 : decode method_4_code 56 = .ok (.isub, 1) := by decide +kernel
theorem d1_57 : decode method_4_code 57 = .ok (.iload_n 2, 1) := by decide +kernel
theorem d1_58 : decode method_4_code 58 = .ok (.isub, 1) := by decide +kernel
theorem d1_59 : decode method_4_code 59 = .ok (.iconst 1, 1) := by decide +kernel
theorem d1_60 : decode method_4_code 60 = .ok (.isub, 1) := by decide +kernel
theorem d1_61 : decode method_4_code 61 = .ok (.invokestatic 31, 3) := by decide +kernel
theorem d1_64 : decode method_4_code 64 = .ok (.ireturn, 1) := by decide +kernel
set_option maxRecDepth 65536 in
set_option maxHeartbeats 40000000 in
theorem rmA7r (l : Launch) (Z : State) (a0 : Array Value) (hw : ∀ d ∈ tables_1, d.before a0 Z = true) (ws : List Jvm.Cond) (i_ : Int32) (z_ : Int32) (b_ : Int32) (d_ : Int32) (cS : Int32) (fo : Value) (h0 : Heap) (n0 : Nat) (Z0 : n0 ≤ h0.size) (Hge : ¬ i_ < (7 : Int32)) (S1_java_lang_String_COMPACT_STRINGS_COMPACT_STRINGS : Sta Z h0 "java/lang/String" "COMPACT_STRINGS" "Z" (.int cS)) (H_cs : ¬ cS = (0 : Int32)) (S3_jdk_internal_util_Preconditions_SIOOBE_FORMATTER_SIOOBE_FORMATTER : Sta Z h0 "jdk/internal/util/Preconditions" "SIOOBE_FORMATTER" "Ljava/util/function/BiFunction;" fo) (Hfo : fo.isRef = true) (HO : Old Z n0 h0) (HW : Jvm.Lit.compactW.before a0 Z = true) (HC0 : Jvm.Lit.constHeld Z "com/example/lincra/lincra/UrlNormalizerPathAndQueryPinLaw" 7) (HC1 : Jvm.Lit.constHeld Z "com/example/lincra/lincra/UrlNormalizerPathAndQueryPinLaw" 19) (HC2 : Jvm.Lit.constHeld Z "com/example/lincra/lincra/UrlNormalizer" 81) (HC3 : Jvm.Lit.constHeld Z "com/example/lincra/lincra/UrlNormalizerPathAndQueryPinLaw" 23) (HC4 : Jvm.Lit.constHeld Z "com/example/lincra/lincra/UrlNormalizerPathAndQueryPinLaw" 21) :
    MetFree l (⟨"com/example/lincra/lincra/UrlNormalizerPathAndQueryPinLaw", "at", "(IIIII)C"⟩ : MethodName) (head1 (Jvm.Cond.code (⟨"com/example/lincra/lincra/UrlNormalizerPathAndQueryPinLaw", "at", "(IIIII)C"⟩ : MethodName) method_4_code 5 (some .char) :: ws) ({ frames := 5, cells := 2, slots := 132, locals := 66 } : Room)) (fun as_ U_ => as_ = #[(.int i_), (.int (7 : Int32)), (.int z_), (.int b_), (.int d_)] ∧ Z.Warmed39 U_.vm ∧ U_.heap = h0 ∧ KT Z own_K0 U_.vm U_.heap) (fun _ _ _ _ _ => True) (fun _ U_ o_ V_ => ∃ v_ L_, o_ = .returned v_ ∧ QrmA7r Z i_ z_ b_ d_ cS fo h0 n0 v_ V_.heap L_ ∧ KT Z own_K0 V_.vm V_.heap ∧ ReturnedEndW U_ o_ V_ L_ ({ frames := 5, cells := 2, slots := 132, locals := 66 } : Room).cells ({ frames := 5, cells := 2, slots := 132, locals := 66 } : Room).slots) := by
  refine MetFree.of_bodySF (plainFor_of_name pn_com_example_lincra_lincra_UrlNormalizerPathAndQueryPinLaw) hisR ?_
  intro p e s m args below meth c s₁ Bd hml0 hP hK
  obtain ⟨rfl, hZ, hh, hKs⟩ := hP
  have hx := Bd.exec
  have hby := Bd.bytes
  have hlk : meth.locks = false := BodyLoose.notSynchronized Bd
  have hret := Bd.returns
  have hml : c.maxLocals = 5 := hml0
  have hown : s.vm.findClass "com/example/lincra/lincra/UrlNormalizerPathAndQueryPinLaw" = some m.cls := findClass_of_methodNamed Bd.named
  have hnm := (name_of_methodNamed Bd.named Bd.method).1
  have X0 : Stand p l e ({ frames := 5, cells := 2, slots := 132, locals := 66 } : Room) (s.setVm s.vm) m #[(.int i_), (.int (7 : Int32)), (.int z_), (.int b_), (.int d_)] below meth c s₁ [] 0 0 := Stand.of_body Bd
  have e0 : s₁.heap = h0 := by rw [← hh, Bd.state]; rfl
  have N0 := Fr.nil n0
  show Goes p e below (Fin_W s (QrmA7r Z i_ z_ b_ d_ cS fo h0 n0) (fun U_ => KT Z own_K0 U_.vm U_.heap) ({ frames := 5, cells := 2, slots := 132, locals := 66 } : Room).cells ({ frames := 5, cells := 2, slots := 132, locals := 66 } : Room).slots) (s₁.setTop (entryFrame m #[(.int i_), (.int (7 : Int32)), (.int z_), (.int b_), (.int d_)] 5))
  rw [ef_rmA7r m i_ z_ b_ d_]
  have SI0 : s.Since s.vm 0 := (State.WarmedH.refl s).since 0
  have Ks0 : KT Z own_K0 s.vm h0 := hh ▸ hKs
  refine gILN X0 hx hby d1_0 rfl ?_
  refine gILN X0 hx hby d1_1 rfl ?_
  have hc2_1 : ¬ (i_ < (7 : Int32)) := Hge
  refine Goes.via (fun _ kk_ => XS.icmpYes X0.here hx rfl (pc0 := 2) (pc' := 27) rfl (hb hby d1_2) rfl (flt hc2_1).2.1 (by decide) (by decide) kk_) ?_
  show Goes p e below _ (s₁.setTop (mkF m 27 #[vi i_, vi (7 : Int32), vi z_, vi b_, vi d_] []))
  refine gILN X0 hx hby d1_27 rfl ?_
  refine gILN X0 hx hby d1_28 rfl ?_
  refine gILN X0 hx hby d1_29 rfl ?_
  refine Goes.via (fun _ kk_ => XS.iadd X0.here hx rfl (hb hby d1_30) rfl kk_) ?_
  show Goes p e below _ (s₁.setTop (mkF m 31 #[vi i_, vi (7 : Int32), vi z_, vi b_, vi d_] [(.int ((7 : Int32) + z_)), (.int i_)]))
  by_cases hc31 : i_ < ((7 : Int32) + z_)
  · skip
    refine Goes.via (fun _ kk_ => XS.icmpNo X0.here hx rfl (hb hby d1_31) rfl (tlt hc31).2.1 kk_) ?_
    show Goes p e below _ (s₁.setTop (mkF m 34 #[vi i_, vi (7 : Int32), vi z_, vi b_, vi d_] []))
    refine gILN X0 hx hby d1_34 rfl ?_
    refine gILN X0 hx hby d1_35 rfl ?_
    refine gILN X0 hx hby d1_36 rfl ?_
    refine Goes.via (fun _ kk_ => XS.isub X0.here hx rfl (hb hby d1_37) rfl kk_) ?_
    show Goes p e below _ (s₁.setTop (mkF m 38 #[vi i_, vi (7 : Int32), vi z_, vi b_, vi d_] [(.int (i_ - (7 : Int32))), (.int b_)]))
    obtain ⟨_, _, ⟨T2, L2, k2, n2⟩, -, ⟨X2, Si2⟩, ⟨Lc2, ⟨hQ2, tK2, hK2, hKv2, hKh2⟩, l2, y2, z2⟩, st2⟩ := own_callSW X0 hx (y := (⟨"com/example/lincra/lincra/UrlNormalizerPathAndQueryPinLaw", "hostChar", "(II)C"⟩ : MethodName)) hown (mvT hZ (own_w hw 38 rfl)) (mvT hZ (own_w hw 39 rfl)) (mvT hZ (own_w hw 3 rfl)) (mvT hZ (own_w hw 40 rfl)) (by decide) (own_backOfW (W := 0) (K := (fun U_ => KT Z own_K0 U_.vm U_.heap)) (KP := (fun U_ => KT Z own_K0 U_.vm U_.heap)) (rm7 l Z a0 hw [] b_ (i_ - (7 : Int32)) cS fo h0 n0 (Nat.le_trans Z0 (Nat.le_refl _)) S1_java_lang_String_COMPACT_STRINGS_COMPACT_STRINGS H_cs S3_jdk_internal_util_Preconditions_SIOOBE_FORMATTER_SIOOBE_FORMATTER Hfo HO HW HC0 HC1 HC2 HC3 HC4) hZ (own_w hw 40 rfl) (own_w hw 3 rfl) (by decide) (by decide) (fun V_ hV hVh => by show KT Z own_K0 V_.vm V_.heap; rw [hVh]; exact Ks0.at_ (s := s) hV)) (g := (mkF m 38 #[vi i_, vi (7 : Int32), vi z_, vi b_, vi d_] [(.int (i_ - (7 : Int32))), (.int b_)])) rfl (by rw [hml]; rfl) (argsL := [(.int b_), (.int (i_ - (7 : Int32)))]) (rest := []) (lenOf pd_18 rfl) rfl (by show 2 * 0 + _ ≤ _; exact Nat.le_of_eq rfl) (hb hby d1_38) (fun _ _ => ⟨rfl, e0, (by decide : 0 + 2 ≤ _), (by decide : 0 + 132 ≤ _)⟩)
    dsimp only [Pt.U, Pt.locs, Pt.cells, Pt.slots] at X2 l2 y2 z2 st2 hQ2 Si2 hKv2 hKh2
    replace l2 := l2.symm
    subst l2 y2 z2
    obtain ⟨rfl, N2q, K2⟩ := hQ2
    have N2 := Fr.app N0 N2q
    refine Goes.via st2 ?_
    obtain ⟨X2', SI2, hZ, hown⟩ := rebS SI0 (Nat.zero_le _) X2 Si2 K2.1 hZ hown
    have Ks2 : KT Z own_K0 T2.vm T2.heap := by rw [← hKv2, ← hKh2]; exact hK2
    show Goes p e below _ (T2.setTop (mkF m 41 #[vi i_, vi (7 : Int32), vi z_, vi b_, vi d_] [(.int (own_hc b_ (i_ - (7 : Int32))))]))
    have K3 : Keep h0 T2.heap [] := ((Keep.refl h0 []).trans K2 all0)
    have hKe : KT Z own_K0 T2.vm T2.heap := by rw [show T2.heap = T2.heap from rfl]; exact Ks2.at_ (s := s) X2'.warmed
    exact own_wfinN X2' SI2 (Nat.le_refl _) (fun U_ hv hh_ => by show KT Z own_K0 U_.vm U_.heap; rw [hv, hh_]; exact hKe) hx hlk hret (by simp) (hb hby d1_41) (by exact ⟨(by rw [if_pos hc31]; first | rfl | exact own_ret (i2c_mask _)), N2, K3⟩) (by first | decide | omega | (dsimp only; omega)) (by first | decide | omega | (dsimp only; omega))
  · skip
    refine Goes.via (fun _ kk_ => XS.icmpYes X0.here hx rfl (pc0 := 31) (pc' := 42) rfl (hb hby d1_31) rfl (flt hc31).2.1 (by decide) (by decide) kk_) ?_
    show Goes p e below _ (s₁.setTop (mkF m 42 #[vi i_, vi (7 : Int32), vi z_, vi b_, vi d_] []))
    refine gILN X0 hx hby d1_42 rfl ?_
    refine gILN X0 hx hby d1_43 rfl ?_
    refine gILN X0 hx hby d1_44 rfl ?_
    refine Goes.via (fun _ kk_ => XS.iadd X0.here hx rfl (hb hby d1_45) rfl kk_) ?_
    show Goes p e below _ (s₁.setTop (mkF m 46 #[vi i_, vi (7 : Int32), vi z_, vi b_, vi d_] [(.int ((7 : Int32) + z_)), (.int i_)]))
    by_cases hc46 : i_ = ((7 : Int32) + z_)
    · skip
      refine Goes.via (fun _ kk_ => XS.icmpNo X0.here hx rfl (hb hby d1_46) rfl (teq hc46).2 kk_) ?_
      show Goes p e below _ (s₁.setTop (mkF m 49 #[vi i_, vi (7 : Int32), vi z_, vi b_, vi d_] []))
      refine gBI (z := 47) X0 hx hby d1_49 rfl ?_
      have hKe : KT Z own_K0 s₁.vm s₁.heap := by rw [e0]; exact Ks0.at_ (s := s) X0.warmed
      exact own_wfinN X0 SI0 (by rw [e0]; exact (Nat.zero_le _)) (fun U_ hv hh_ => by show KT Z own_K0 U_.vm U_.heap; rw [hv, hh_]; exact hKe) hx hlk hret (by simp) (hb hby d1_51) (by rw [e0]; exact ⟨(by rw [if_neg hc31, if_pos hc46]; first | rfl | exact own_ret (i2c_mask _)), N0, (Keep.refl h0 [])⟩) (by first | decide | omega | (dsimp only; omega)) (by first | decide | omega | (dsimp only; omega))
    · skip
      refine Goes.via (fun _ kk_ => XS.icmpYes X0.here hx rfl (pc0 := 46) (pc' := 52) rfl (hb hby d1_46) rfl (feq hc46).2 (by decide) (by decide) kk_) ?_
      show Goes p e below _ (s₁.setTop (mkF m 52 #[vi i_, vi (7 : Int32), vi z_, vi b_, vi d_] []))
      refine gIL X0 hx hby d1_52 rfl ?_
      refine gILN X0 hx hby d1_54 rfl ?_
      refine gILN X0 hx hby d1_55 rfl ?_
      refine Goes.via (fun _ kk_ => XS.isub X0.here hx rfl (hb hby d1_56) rfl kk_) ?_
      show Goes p e below _ (s₁.setTop (mkF m 57 #[vi i_, vi (7 : Int32), vi z_, vi b_, vi d_] [(.int (i_ - (7 : Int32))), (.int d_)]))
      refine gILN X0 hx hby d1_57 rfl ?_
      refine Goes.via (fun _ kk_ => XS.isub X0.here hx rfl (hb hby d1_58) rfl kk_) ?_
      show Goes p e below _ (s₁.setTop (mkF m 59 #[vi i_, vi (7 : Int32), vi z_, vi b_, vi d_] [(.int ((i_ - (7 : Int32)) - z_)), (.int d_)]))
      refine gIC (z := 1) X0 hx hby d1_59 rfl ?_
      refine Goes.via (fun _ kk_ => XS.isub X0.here hx rfl (hb hby d1_60) rfl kk_) ?_
      show Goes p e below _ (s₁.setTop (mkF m 61 #[vi i_, vi (7 : Int32), vi z_, vi b_, vi d_] [(.int (((i_ - (7 : Int32)) - z_) - (1 : Int32))), (.int d_)]))
      obtain ⟨_, _, ⟨T4, L4, k4, n4⟩, -, ⟨X4, Si4⟩, ⟨Lc4, ⟨hQ4, tK4, hK4, hKv4, hKh4⟩, l4, y4, z4⟩, st4⟩ := own_callSW X0 hx (y := (⟨"com/example/lincra/lincra/UrlNormalizerPathAndQueryPinLaw", "pathChar", "(II)C"⟩ : MethodName)) hown (mvT hZ (own_w hw 150 rfl)) (mvT hZ (own_w hw 151 rfl)) (mvT hZ (own_w hw 3 rfl)) (mvT hZ (own_w hw 152 rfl)) (by decide) (own_backOfW (W := 0) (K := (fun U_ => KT Z own_K0 U_.vm U_.heap)) (KP := (fun U_ => KT Z own_K0 U_.vm U_.heap)) (rm35 l Z a0 hw [] d_ (((i_ - (7 : Int32)) - z_) - (1 : Int32)) cS fo h0 n0 (Nat.le_trans Z0 (Nat.le_refl _)) S1_java_lang_String_COMPACT_STRINGS_COMPACT_STRINGS H_cs S3_jdk_internal_util_Preconditions_SIOOBE_FORMATTER_SIOOBE_FORMATTER Hfo HO HW HC0 HC1 HC2 HC3 HC4) hZ (own_w hw 152 rfl) (own_w hw 3 rfl) (by decide) (by decide) (fun V_ hV hVh => by show KT Z own_K0 V_.vm V_.heap; rw [hVh]; exact Ks0.at_ (s := s) hV)) (g := (mkF m 61 #[vi i_, vi (7 : Int32), vi z_, vi b_, vi d_] [(.int (((i_ - (7 : Int32)) - z_) - (1 : Int32))), (.int d_)])) rfl (by rw [hml]; rfl) (argsL := [(.int d_), (.int (((i_ - (7 : Int32)) - z_) - (1 : Int32)))]) (rest := []) (lenOf pd_18 rfl) rfl (by show 2 * 0 + _ ≤ _; exact Nat.le_of_eq rfl) (hb hby d1_61) (fun _ _ => ⟨rfl, e0, (by decide : 0 + 2 ≤ _), (by decide : 0 + 132 ≤ _)⟩)
      dsimp only [Pt.U, Pt.locs, Pt.cells, Pt.slots] at X4 l4 y4 z4 st4 hQ4 Si4 hKv4 hKh4
      replace l4 := l4.symm
      subst l4 y4 z4
      obtain ⟨rfl, N4q, K4⟩ := hQ4
      have N4 := Fr.app N0 N4q
      refine Goes.via st4 ?_
      obtain ⟨X4', SI4, hZ, hown⟩ := rebS SI0 (Nat.zero_le _) X4 Si4 K4.1 hZ hown
      have Ks4 : KT Z own_K0 T4.vm T4.heap := by rw [← hKv4, ← hKh4]; exact hK4
      show Goes p e below _ (T4.setTop (mkF m 64 #[vi i_, vi (7 : Int32), vi z_, vi b_, vi d_] [(.int (own_pc d_ (((i_ - (7 : Int32)) - z_) - (1 : Int32))))]))
      have K5 : Keep h0 T4.heap [] := ((Keep.refl h0 []).trans K4 all0)
      have hKe : KT Z own_K0 T4.vm T4.heap := by rw [show T4.heap = T4.heap from rfl]; exact Ks4.at_ (s := s) X4'.warmed
      exact own_wfinN X4' SI4 (Nat.le_refl _) (fun U_ hv hh_ => by show KT Z own_K0 U_.vm U_.heap; rw [hv, hh_]; exact hKe) hx hlk hret (by simp) (hb hby d1_64) (by exact ⟨(by rw [if_neg hc31, if_neg hc46]; first | rfl | exact own_ret (i2c_mask _)), N4, K5⟩) (by first | decide | omega | (dsimp only; omega)) (by first | decide | omega | (dsimp only; omega))
theorem ef_rmA8f (m : MethodId) (i_ : Int32) (z_ : Int32) (b_ : Int32) (d_ : Int32) : entryFrame m #[(.int i_), (.int (8 : Int32)), (.int z_), (.int b_), (.int d_)] 5 = mkF m 0 #[.val (.int i_), .val (.int (8 : Int32)), .val (.int z_), .val (.int b_), .val (.int d_)] [] := by first | (simp [entryFrame, mkF, argsToLocals, Value.category]; done) | rfl
def QrmA8f (Z : State) (i_ : Int32) (z_ : Int32) (b_ : Int32) (d_ : Int32) (cS : Int32) (fo : Value) (j : Nat) (h0 : Heap) (n0 : Nat) (v_ : Option Value) (h_ : Heap) (L_ : List Loc) : Prop := v_ = some (.int (own_g8 j &&& (255 : Int32))) ∧ Fr n0 L_ ∧ Keep h0 h_ []
theorem d1_11 : decode method_4_code 11 = .ok (.ldc 21, 2) := by decide +kernel
theorem d1_13 : decode method_4_code 13 = .ok (.iload_n 0, 1) := by decide +kernel
theorem d1_14 : decode method_4_code 14 = .ok (.invokevirtual 15, 3) := by decide +kernel
theorem d1_17 : decode method_4_code 17 = .ok (.goto 9, 3) := by decide +kernel
set_option maxRecDepth 65536 in
set_option maxHeartbeats 40000000 in
theorem rmA8f (l : Launch) (Z : State) (a0 : Array Value) (hw : ∀ d ∈ tables_1, d.before a0 Z = true) (ws : List Jvm.Cond) (i_ : Int32) (z_ : Int32) (b_ : Int32) (d_ : Int32) (cS : Int32) (fo : Value) (j : Nat) (h0 : Heap) (n0 : Nat) (Z0 : n0 ≤ h0.size) (Hij : i_.toInt = (j : Int)) (HjN : j < 8) (Hlt : i_ < (8 : Int32)) (S3_java_lang_String_COMPACT_STRINGS_COMPACT_STRINGS : Sta Z h0 "java/lang/String" "COMPACT_STRINGS" "Z" (.int cS)) (H_cs : ¬ cS = (0 : Int32)) (S5_jdk_internal_util_Preconditions_SIOOBE_FORMATTER_SIOOBE_FORMATTER : Sta Z h0 "jdk/internal/util/Preconditions" "SIOOBE_FORMATTER" "Ljava/util/function/BiFunction;" fo) (Hfo : fo.isRef = true) (HO : Old Z n0 h0) (HW : Jvm.Lit.compactW.before a0 Z = true) (HC0 : Jvm.Lit.constHeld Z "com/example/lincra/lincra/UrlNormalizerPathAndQueryPinLaw" 7) (HC1 : Jvm.Lit.constHeld Z "com/example/lincra/lincra/UrlNormalizerPathAndQueryPinLaw" 19) (HC2 : Jvm.Lit.constHeld Z "com/example/lincra/lincra/UrlNormalizer" 81) (HC3 : Jvm.Lit.constHeld Z "com/example/lincra/lincra/UrlNormalizerPathAndQueryPinLaw" 23) (HC4 : Jvm.Lit.constHeld Z "com/example/lincra/lincra/UrlNormalizerPathAndQueryPinLaw" 21) :
    MetFree l (⟨"com/example/lincra/lincra/UrlNormalizerPathAndQueryPinLaw", "at", "(IIIII)C"⟩ : MethodName) (head1 (Jvm.Cond.code (⟨"com/example/lincra/lincra/UrlNormalizerPathAndQueryPinLaw", "at", "(IIIII)C"⟩ : MethodName) method_4_code 5 (some .char) :: ws) ({ frames := 4, cells := 2, slots := 36, locals := 53 } : Room)) (fun as_ U_ => as_ = #[(.int i_), (.int (8 : Int32)), (.int z_), (.int b_), (.int d_)] ∧ Z.Warmed39 U_.vm ∧ U_.heap = h0 ∧ KT Z own_K0 U_.vm U_.heap) (fun _ _ _ _ _ => True) (fun _ U_ o_ V_ => ∃ v_ L_, o_ = .returned v_ ∧ QrmA8f Z i_ z_ b_ d_ cS fo j h0 n0 v_ V_.heap L_ ∧ KT Z own_K8 V_.vm V_.heap ∧ ReturnedEndW U_ o_ V_ L_ ({ frames := 4, cells := 2, slots := 36, locals := 53 } : Room).cells ({ frames := 4, cells := 2, slots := 36, locals := 53 } : Room).slots) := by
  refine MetFree.of_bodySF (plainFor_of_name pn_com_example_lincra_lincra_UrlNormalizerPathAndQueryPinLaw) hisR ?_
  intro p e s m args below meth c s₁ Bd hml0 hP hK
  obtain ⟨rfl, hZ, hh, hKs⟩ := hP
  have hx := Bd.exec
  have hby := Bd.bytes
  have hlk : meth.locks = false := BodyLoose.notSynchronized Bd
  have hret := Bd.returns
  have hml : c.maxLocals = 5 := hml0
  have hown : s.vm.findClass "com/example/lincra/lincra/UrlNormalizerPathAndQueryPinLaw" = some m.cls := findClass_of_methodNamed Bd.named
  have hnm := (name_of_methodNamed Bd.named Bd.method).1
  have X0 : Stand p l e ({ frames := 4, cells := 2, slots := 36, locals := 53 } : Room) (s.setVm s.vm) m #[(.int i_), (.int (8 : Int32)), (.int z_), (.int b_), (.int d_)] below meth c s₁ [] 0 0 := Stand.of_body Bd
  have e0 : s₁.heap = h0 := by rw [← hh, Bd.state]; rfl
  have N0 := Fr.nil n0
  show Goes p e below (Fin_W s (QrmA8f Z i_ z_ b_ d_ cS fo j h0 n0) (fun U_ => KT Z own_K8 U_.vm U_.heap) ({ frames := 4, cells := 2, slots := 36, locals := 53 } : Room).cells ({ frames := 4, cells := 2, slots := 36, locals := 53 } : Room).slots) (s₁.setTop (entryFrame m #[(.int i_), (.int (8 : Int32)), (.int z_), (.int b_), (.int d_)] 5))
  rw [ef_rmA8f m i_ z_ b_ d_]
  have SI0 : s.Since s.vm 0 := (State.WarmedH.refl s).since 0
  have Ks0 : KT Z own_K0 s.vm h0 := hh ▸ hKs
  refine gILN X0 hx hby d1_0 rfl ?_
  refine gILN X0 hx hby d1_1 rfl ?_
  have hc2_1 : i_ < (8 : Int32) := Hlt
  refine Goes.via (fun _ kk_ => XS.icmpNo X0.here hx rfl (hb hby d1_2) rfl (tlt hc2_1).2.1 kk_) ?_
  show Goes p e below _ (s₁.setTop (mkF m 5 #[vi i_, vi (8 : Int32), vi z_, vi b_, vi d_] []))
  refine gILN X0 hx hby d1_5 rfl ?_
  refine gBI (z := 8) X0 hx hby d1_6 rfl ?_
  have hc8_2 : (8 : Int32) = (8 : Int32) := (by decide)
  refine Goes.via (fun _ kk_ => XS.icmpNo X0.here hx rfl (hb hby d1_8) rfl (teq hc8_2).2 kk_) ?_
  show Goes p e below _ (s₁.setTop (mkF m 11 #[vi i_, vi (8 : Int32), vi z_, vi b_, vi d_] []))
  obtain ⟨ka3, T3, h3, vm3, k13, kb3, kc3, X3, e3, E3, SI3, sk3, hZ, hown, kE3, kC3, kV3, kA3, kL3, Ks3, st3⟩ := own_ldcK (KL := own_KL) (z := (8 : Int32)) (vs := [(.int 104), (.int 116), (.int 116), (.int 112), (.int 115), (.int 58), (.int 47), (.int 47)]) X0 hx hZ hown (own_w hw 149 rfl) (fun d hd => hw d ((by decide +kernel : ∀ d ∈ Bundle.stringAtoms, d ∈ tables_1) d hd)) e0 SI0 (Nat.zero_le _) (Fr.nil _) (by rw [hh]; exact HO.2.2) Ks0.1 (by simp [own_KL]) (by decide +kernel) HC4 HW (by decide +kernel) (by decide) (by decide) (g := (mkF m 11 #[vi i_, vi (8 : Int32), vi z_, vi b_, vi d_] [])) rfl (hb hby d1_11) (n := 32) (by decide +kernel) (by decide) (by first | decide | omega | (dsimp only; omega)) (by first | decide | omega | (dsimp only; omega))
  have Ks3 : KT Z own_K0 vm3 h3 := ⟨Ks3, fun x hx => absurd hx (by simp [own_K0])⟩
  refine Goes.via st3 ?_
  have ne4 : ka3 ≠ kb3 := kE3.neArv kA3 (own_w hw 7 rfl)
  show Goes p e below _ (T3.setTop (mkF m 13 #[vi i_, vi (8 : Int32), vi z_, vi b_, vi d_] [(.ref ka3)]))
  have kW5 : Arw Z h3 kb3 kc3 .byte 8 (fun i => .int (own_g8 i)) := Arw.ofArv kA3 (by decide) (fun i hi => own_lt_own_g8 i hi)
  refine gILN X3 hx hby d1_13 rfl ?_
  have f6 : Sta Z h3 "java/lang/String" "COMPACT_STRINGS" "Z" (.int cS) := (S3_java_lang_String_COMPACT_STRINGS_COMPACT_STRINGS.ext E3)
  have f7 : Sta Z h3 "jdk/internal/util/Preconditions" "SIOOBE_FORMATTER" "Ljava/util/function/BiFunction;" fo := (S5_jdk_internal_util_Preconditions_SIOOBE_FORMATTER_SIOOBE_FORMATTER.ext E3)
  have z9 : h0.size ≤ (h3).size := (Nat.le_trans (Nat.le_refl _) E3.1)
  obtain ⟨cq8, kq8, q8a, q8b, q8c⟩ := isOf hZ e3 kE3
  obtain ⟨_, _, ⟨T8, L8, k8, n8⟩, -, X8, ⟨Lc8, hQ8, l8, y8, z8⟩, st8⟩ := X3.virtualBack hx (y := (⟨"java/lang/String", "charAt", "(I)C"⟩ : MethodName)) (z := (⟨"java/lang/String", "charAt", "(I)C"⟩ : MethodName)) hown (mvT hZ (own_w hw 13 rfl)) (mvT hZ (own_w hw 14 rfl)) (notFace_of_selects (args := #[]) (mvT hZ (own_w hw 16 rfl))) (mvT hZ (own_w hw 16 rfl)) (mvT hZ (own_w hw 15 rfl)) (by decide) (backOf (W := 0) (rm2 l Z a0 hw [] ka3 i_ cS kb3 kc3 8 own_g8 (8 : Int32) j fo h3 n0 (Nat.le_trans Z0 z9) kE3 kC3 kV3 kW5 f6 H_cs Hij HjN (by decide) f7 Hfo) hZ (own_w hw 17 rfl) (own_w hw 6 rfl) (by decide) (by decide)) q8a q8c (g := (mkF m 14 #[vi i_, vi (8 : Int32), vi z_, vi b_, vi d_] [(.int i_), (.ref ka3)])) rfl (by rw [hml]; rfl) (Steps.refl _) (argsL := [(.int i_)]) (rest := []) (lenOf pd_17 rfl) rfl (by show 2 * 0 + _ ≤ _; exact Nat.le_of_eq rfl) (hb hby d1_14) (fun _ _ => ⟨rfl, e3, (by decide : 2 + 0 ≤ _), (by decide : 36 + 0 ≤ _)⟩)
  dsimp only [Pt.U, Pt.locs, Pt.cells, Pt.slots] at X8 l8 y8 z8 st8 hQ8
  replace l8 := l8.symm
  subst l8 y8 z8
  obtain ⟨rfl, rfl, e8⟩ := hQ8
  first | rw [List.append_nil] at X8 | skip
  refine Goes.tr st8 ?_
  have e8' : T8.heap = h3 := e8
  show Goes p e below _ (T8.setTop (mkF m 17 #[vi i_, vi (8 : Int32), vi z_, vi b_, vi d_] [(.int (own_g8 j &&& (255 : Int32)))]))
  refine Goes.via (fun _ kk_ => XS.goto X8.here hx rfl (pc0 := 17) (pc' := 26) rfl (hb hby d1_17) (by decide) (by decide) kk_) ?_
  show Goes p e below _ (T8.setTop (mkF m 26 #[vi i_, vi (8 : Int32), vi z_, vi b_, vi d_] [(.int (own_g8 j &&& (255 : Int32)))]))
  have K10 : Keep h0 h3 [] := ((Keep.refl h0 []).ext E3)
  have hKe : KT Z own_K8 T8.vm T8.heap := by rw [e8']; exact (KT.more Ks3 ⟨ka3, kb3, kc3, kL3, kE3, kC3, kV3, kA3⟩).at_ (s := s) X8.warmed
  exact own_wfinN X8 SI3 (by rw [e8']; exact sk3) (fun U_ hv hh_ => by show KT Z own_K8 U_.vm U_.heap; rw [hv, hh_]; exact hKe) hx hlk hret (by simp) (hb hby d1_26) (by rw [e8']; exact ⟨(own_ret (i2c_mask _)), N0, K10⟩) (by first | decide | omega | (dsimp only; omega)) (by first | decide | omega | (dsimp only; omega))
theorem ef_rmA8g (m : MethodId) (i_ : Int32) (z_ : Int32) (b_ : Int32) (d_ : Int32) : entryFrame m #[(.int i_), (.int (8 : Int32)), (.int z_), (.int b_), (.int d_)] 5 = mkF m 0 #[.val (.int i_), .val (.int (8 : Int32)), .val (.int z_), .val (.int b_), .val (.int d_)] [] := by first | (simp [entryFrame, mkF, argsToLocals, Value.category]; done) | rfl
def QrmA8g (Z : State) (i_ : Int32) (z_ : Int32) (b_ : Int32) (d_ : Int32) (cS : Int32) (fo : Value) (j : Nat) (h0 : Heap) (n0 : Nat) (v_ : Option Value) (h_ : Heap) (L_ : List Loc) : Prop := v_ = some (.int (own_g8 j &&& (255 : Int32))) ∧ Fr n0 L_ ∧ Keep h0 h_ []
set_option maxRecDepth 65536 in
set_option maxHeartbeats 40000000 in
theorem rmA8g (l : Launch) (Z : State) (a0 : Array Value) (hw : ∀ d ∈ tables_1, d.before a0 Z = true) (ws : List Jvm.Cond) (i_ : Int32) (z_ : Int32) (b_ : Int32) (d_ : Int32) (cS : Int32) (fo : Value) (j : Nat) (h0 : Heap) (n0 : Nat) (Z0 : n0 ≤ h0.size) (Hij : i_.toInt = (j : Int)) (HjN : j < 8) (Hlt : i_ < (8 : Int32)) (S3_java_lang_String_COMPACT_STRINGS_COMPACT_STRINGS : Sta Z h0 "java/lang/String" "COMPACT_STRINGS" "Z" (.int cS)) (H_cs : ¬ cS = (0 : Int32)) (S5_jdk_internal_util_Preconditions_SIOOBE_FORMATTER_SIOOBE_FORMATTER : Sta Z h0 "jdk/internal/util/Preconditions" "SIOOBE_FORMATTER" "Ljava/util/function/BiFunction;" fo) (Hfo : fo.isRef = true) (HO : Old Z n0 h0) (HW : Jvm.Lit.compactW.before a0 Z = true) (HC0 : Jvm.Lit.constHeld Z "com/example/lincra/lincra/UrlNormalizerPathAndQueryPinLaw" 7) (HC1 : Jvm.Lit.constHeld Z "com/example/lincra/lincra/UrlNormalizerPathAndQueryPinLaw" 19) (HC2 : Jvm.Lit.constHeld Z "com/example/lincra/lincra/UrlNormalizer" 81) (HC3 : Jvm.Lit.constHeld Z "com/example/lincra/lincra/UrlNormalizerPathAndQueryPinLaw" 23) (HC4 : Jvm.Lit.constHeld Z "com/example/lincra/lincra/UrlNormalizerPathAndQueryPinLaw" 21) :
    MetFree l (⟨"com/example/lincra/lincra/UrlNormalizerPathAndQueryPinLaw", "at", "(IIIII)C"⟩ : MethodName) (head1 (Jvm.Cond.code (⟨"com/example/lincra/lincra/UrlNormalizerPathAndQueryPinLaw", "at", "(IIIII)C"⟩ : MethodName) method_4_code 5 (some .char) :: ws) ({ frames := 4, cells := 0, slots := 0, locals := 53 } : Room)) (fun as_ U_ => as_ = #[(.int i_), (.int (8 : Int32)), (.int z_), (.int b_), (.int d_)] ∧ Z.Warmed39 U_.vm ∧ U_.heap = h0 ∧ KT Z own_K8 U_.vm U_.heap) (fun _ _ _ _ _ => True) (fun _ U_ o_ V_ => ∃ v_ L_, o_ = .returned v_ ∧ QrmA8g Z i_ z_ b_ d_ cS fo j h0 n0 v_ V_.heap L_ ∧ KT Z own_K8 V_.vm V_.heap ∧ ReturnedEndW U_ o_ V_ L_ ({ frames := 4, cells := 0, slots := 0, locals := 53 } : Room).cells ({ frames := 4, cells := 0, slots := 0, locals := 53 } : Room).slots) := by
  refine MetFree.of_bodySF (plainFor_of_name pn_com_example_lincra_lincra_UrlNormalizerPathAndQueryPinLaw) hisR ?_
  intro p e s m args below meth c s₁ Bd hml0 hP hK
  obtain ⟨rfl, hZ, hh, hKs⟩ := hP
  have hx := Bd.exec
  have hby := Bd.bytes
  have hlk : meth.locks = false := BodyLoose.notSynchronized Bd
  have hret := Bd.returns
  have hml : c.maxLocals = 5 := hml0
  have hown : s.vm.findClass "com/example/lincra/lincra/UrlNormalizerPathAndQueryPinLaw" = some m.cls := findClass_of_methodNamed Bd.named
  have hnm := (name_of_methodNamed Bd.named Bd.method).1
  have X0 : Stand p l e ({ frames := 4, cells := 0, slots := 0, locals := 53 } : Room) (s.setVm s.vm) m #[(.int i_), (.int (8 : Int32)), (.int z_), (.int b_), (.int d_)] below meth c s₁ [] 0 0 := Stand.of_body Bd
  have e0 : s₁.heap = h0 := by rw [← hh, Bd.state]; rfl
  have N0 := Fr.nil n0
  show Goes p e below (Fin_W s (QrmA8g Z i_ z_ b_ d_ cS fo j h0 n0) (fun U_ => KT Z own_K8 U_.vm U_.heap) ({ frames := 4, cells := 0, slots := 0, locals := 53 } : Room).cells ({ frames := 4, cells := 0, slots := 0, locals := 53 } : Room).slots) (s₁.setTop (entryFrame m #[(.int i_), (.int (8 : Int32)), (.int z_), (.int b_), (.int d_)] 5))
  rw [ef_rmA8g m i_ z_ b_ d_]
  have SI0 : s.Since s.vm 0 := (State.WarmedH.refl s).since 0
  have Ks0 : KT Z own_K8 s.vm h0 := hh ▸ hKs
  refine gILN X0 hx hby d1_0 rfl ?_
  refine gILN X0 hx hby d1_1 rfl ?_
  have hc2_1 : i_ < (8 : Int32) := Hlt
  refine Goes.via (fun _ kk_ => XS.icmpNo X0.here hx rfl (hb hby d1_2) rfl (tlt hc2_1).2.1 kk_) ?_
  show Goes p e below _ (s₁.setTop (mkF m 5 #[vi i_, vi (8 : Int32), vi z_, vi b_, vi d_] []))
  refine gILN X0 hx hby d1_5 rfl ?_
  refine gBI (z := 8) X0 hx hby d1_6 rfl ?_
  have hc8_2 : (8 : Int32) = (8 : Int32) := (by decide)
  refine Goes.via (fun _ kk_ => XS.icmpNo X0.here hx rfl (hb hby d1_8) rfl (teq hc8_2).2 kk_) ?_
  show Goes p e below _ (s₁.setTop (mkF m 11 #[vi i_, vi (8 : Int32), vi z_, vi b_, vi d_] []))
  obtain ⟨ka3, kb3, kc3, kL3, kE3, kC3, kV3, kA3⟩ := Ks0.2 ("com/example/lincra/lincra/UrlNormalizerPathAndQueryPinLaw", 21, "https://", (8 : Int32), [(.int 104), (.int 116), (.int 116), (.int 112), (.int 115), (.int 58), (.int 47), (.int 47)]) (by simp [own_K8])
  have kL3' : Lit (s.setVm s.vm) "com/example/lincra/lincra/UrlNormalizerPathAndQueryPinLaw" 21 ka3 := kL3
  refine Goes.via (ldcAgain X0 hx hZ hown (own_w hw 149 rfl) kL3' (g := (mkF m 11 #[vi i_, vi (8 : Int32), vi z_, vi b_, vi d_] [])) rfl (hb hby d1_11)) ?_
  show Goes p e below _ (s₁.setTop (mkF m 13 #[vi i_, vi (8 : Int32), vi z_, vi b_, vi d_] [(.ref ka3)]))
  have kW4 : Arw Z h0 kb3 kc3 .byte 8 (fun i => .int (own_g8 i)) := Arw.ofArv kA3 (by decide) (fun i hi => own_lt_own_g8 i hi)
  refine gILN X0 hx hby d1_13 rfl ?_
  obtain ⟨cq5, kq5, q5a, q5b, q5c⟩ := isOf hZ e0 kE3
  obtain ⟨_, _, ⟨T5, L5, k5, n5⟩, -, X5, ⟨Lc5, hQ5, l5, y5, z5⟩, st5⟩ := X0.virtualBack hx (y := (⟨"java/lang/String", "charAt", "(I)C"⟩ : MethodName)) (z := (⟨"java/lang/String", "charAt", "(I)C"⟩ : MethodName)) hown (mvT hZ (own_w hw 13 rfl)) (mvT hZ (own_w hw 14 rfl)) (notFace_of_selects (args := #[]) (mvT hZ (own_w hw 16 rfl))) (mvT hZ (own_w hw 16 rfl)) (mvT hZ (own_w hw 15 rfl)) (by decide) (backOf (W := 0) (rm2 l Z a0 hw [] ka3 i_ cS kb3 kc3 8 own_g8 (8 : Int32) j fo h0 n0 (Nat.le_trans Z0 (Nat.le_refl _)) kE3 kC3 kV3 kW4 S3_java_lang_String_COMPACT_STRINGS_COMPACT_STRINGS H_cs Hij HjN (by decide) S5_jdk_internal_util_Preconditions_SIOOBE_FORMATTER_SIOOBE_FORMATTER Hfo) hZ (own_w hw 17 rfl) (own_w hw 6 rfl) (by decide) (by decide)) q5a q5c (g := (mkF m 14 #[vi i_, vi (8 : Int32), vi z_, vi b_, vi d_] [(.int i_), (.ref ka3)])) rfl (by rw [hml]; rfl) (Steps.refl _) (argsL := [(.int i_)]) (rest := []) (lenOf pd_17 rfl) rfl (by show 2 * 0 + _ ≤ _; exact Nat.le_of_eq rfl) (hb hby d1_14) (fun _ _ => ⟨rfl, e0, (by decide : 0 + 0 ≤ _), (by decide : 0 + 0 ≤ _)⟩)
  dsimp only [Pt.U, Pt.locs, Pt.cells, Pt.slots] at X5 l5 y5 z5 st5 hQ5
  replace l5 := l5.symm
  subst l5 y5 z5
  obtain ⟨rfl, rfl, e5⟩ := hQ5
  first | rw [List.append_nil] at X5 | skip
  refine Goes.tr st5 ?_
  have e5' : T5.heap = h0 := e5
  have ne6 : ka3 ≠ kb3 := kE3.neArv kA3 (own_w hw 7 rfl)
  show Goes p e below _ (T5.setTop (mkF m 17 #[vi i_, vi (8 : Int32), vi z_, vi b_, vi d_] [(.int (own_g8 j &&& (255 : Int32)))]))
  refine Goes.via (fun _ kk_ => XS.goto X5.here hx rfl (pc0 := 17) (pc' := 26) rfl (hb hby d1_17) (by decide) (by decide) kk_) ?_
  show Goes p e below _ (T5.setTop (mkF m 26 #[vi i_, vi (8 : Int32), vi z_, vi b_, vi d_] [(.int (own_g8 j &&& (255 : Int32)))]))
  have hKe : KT Z own_K8 T5.vm T5.heap := by rw [e5']; exact Ks0.at_ (s := s) X5.warmed
  exact own_wfinN X5 SI0 (by rw [e5']; exact (Nat.zero_le _)) (fun U_ hv hh_ => by show KT Z own_K8 U_.vm U_.heap; rw [hv, hh_]; exact hKe) hx hlk hret (by simp) (hb hby d1_26) (by rw [e5']; exact ⟨(own_ret (i2c_mask _)), N0, (Keep.refl h0 [])⟩) (by first | decide | omega | (dsimp only; omega)) (by first | decide | omega | (dsimp only; omega))
theorem ef_rmA8r (m : MethodId) (i_ : Int32) (z_ : Int32) (b_ : Int32) (d_ : Int32) : entryFrame m #[(.int i_), (.int (8 : Int32)), (.int z_), (.int b_), (.int d_)] 5 = mkF m 0 #[.val (.int i_), .val (.int (8 : Int32)), .val (.int z_), .val (.int b_), .val (.int d_)] [] := by first | (simp [entryFrame, mkF, argsToLocals, Value.category]; done) | rfl
def QrmA8r (Z : State) (i_ : Int32) (z_ : Int32) (b_ : Int32) (d_ : Int32) (cS : Int32) (fo : Value) (h0 : Heap) (n0 : Nat) (v_ : Option Value) (h_ : Heap) (L_ : List Loc) : Prop := v_ = some (.int (if i_ < ((8 : Int32) + z_) then own_hc b_ (i_ - (8 : Int32)) else if i_ = ((8 : Int32) + z_) then (47 : Int32) else own_pc d_ (((i_ - (8 : Int32)) - z_) - (1 : Int32)))) ∧ Fr n0 L_ ∧ Keep h0 h_ []
set_option maxRecDepth 65536 in
set_option maxHeartbeats 40000000 in
theorem rmA8r (l : Launch) (Z : State) (a0 : Array Value) (hw : ∀ d ∈ tables_1, d.before a0 Z = true) (ws : List Jvm.Cond) (i_ : Int32) (z_ : Int32) (b_ : Int32) (d_ : Int32) (cS : Int32) (fo : Value) (h0 : Heap) (n0 : Nat) (Z0 : n0 ≤ h0.size) (Hge : ¬ i_ < (8 : Int32)) (S1_java_lang_String_COMPACT_STRINGS_COMPACT_STRINGS : Sta Z h0 "java/lang/String" "COMPACT_STRINGS" "Z" (.int cS)) (H_cs : ¬ cS = (0 : Int32)) (S3_jdk_internal_util_Preconditions_SIOOBE_FORMATTER_SIOOBE_FORMATTER : Sta Z h0 "jdk/internal/util/Preconditions" "SIOOBE_FORMATTER" "Ljava/util/function/BiFunction;" fo) (Hfo : fo.isRef = true) (HO : Old Z n0 h0) (HW : Jvm.Lit.compactW.before a0 Z = true) (HC0 : Jvm.Lit.constHeld Z "com/example/lincra/lincra/UrlNormalizerPathAndQueryPinLaw" 7) (HC1 : Jvm.Lit.constHeld Z "com/example/lincra/lincra/UrlNormalizerPathAndQueryPinLaw" 19) (HC2 : Jvm.Lit.constHeld Z "com/example/lincra/lincra/UrlNormalizer" 81) (HC3 : Jvm.Lit.constHeld Z "com/example/lincra/lincra/UrlNormalizerPathAndQueryPinLaw" 23) (HC4 : Jvm.Lit.constHeld Z "com/example/lincra/lincra/UrlNormalizerPathAndQueryPinLaw" 21) :
    MetFree l (⟨"com/example/lincra/lincra/UrlNormalizerPathAndQueryPinLaw", "at", "(IIIII)C"⟩ : MethodName) (head1 (Jvm.Cond.code (⟨"com/example/lincra/lincra/UrlNormalizerPathAndQueryPinLaw", "at", "(IIIII)C"⟩ : MethodName) method_4_code 5 (some .char) :: ws) ({ frames := 5, cells := 2, slots := 132, locals := 66 } : Room)) (fun as_ U_ => as_ = #[(.int i_), (.int (8 : Int32)), (.int z_), (.int b_), (.int d_)] ∧ Z.Warmed39 U_.vm ∧ U_.heap = h0 ∧ KT Z own_K0 U_.vm U_.heap) (fun _ _ _ _ _ => True) (fun _ U_ o_ V_ => ∃ v_ L_, o_ = .returned v_ ∧ QrmA8r Z i_ z_ b_ d_ cS fo h0 n0 v_ V_.heap L_ ∧ KT Z own_K0 V_.vm V_.heap ∧ ReturnedEndW U_ o_ V_ L_ ({ frames := 5, cells := 2, slots := 132, locals := 66 } : Room).cells ({ frames := 5, cells := 2, slots := 132, locals := 66 } : Room).slots) := by
  refine MetFree.of_bodySF (plainFor_of_name pn_com_example_lincra_lincra_UrlNormalizerPathAndQueryPinLaw) hisR ?_
  intro p e s m args below meth c s₁ Bd hml0 hP hK
  obtain ⟨rfl, hZ, hh, hKs⟩ := hP
  have hx := Bd.exec
  have hby := Bd.bytes
  have hlk : meth.locks = false := BodyLoose.notSynchronized Bd
  have hret := Bd.returns
  have hml : c.maxLocals = 5 := hml0
  have hown : s.vm.findClass "com/example/lincra/lincra/UrlNormalizerPathAndQueryPinLaw" = some m.cls := findClass_of_methodNamed Bd.named
  have hnm := (name_of_methodNamed Bd.named Bd.method).1
  have X0 : Stand p l e ({ frames := 5, cells := 2, slots := 132, locals := 66 } : Room) (s.setVm s.vm) m #[(.int i_), (.int (8 : Int32)), (.int z_), (.int b_), (.int d_)] below meth c s₁ [] 0 0 := Stand.of_body Bd
  have e0 : s₁.heap = h0 := by rw [← hh, Bd.state]; rfl
  have N0 := Fr.nil n0
  show Goes p e below (Fin_W s (QrmA8r Z i_ z_ b_ d_ cS fo h0 n0) (fun U_ => KT Z own_K0 U_.vm U_.heap) ({ frames := 5, cells := 2, slots := 132, locals := 66 } : Room).cells ({ frames := 5, cells := 2, slots := 132, locals := 66 } : Room).slots) (s₁.setTop (entryFrame m #[(.int i_), (.int (8 : Int32)), (.int z_), (.int b_), (.int d_)] 5))
  rw [ef_rmA8r m i_ z_ b_ d_]
  have SI0 : s.Since s.vm 0 := (State.WarmedH.refl s).since 0
  have Ks0 : KT Z own_K0 s.vm h0 := hh ▸ hKs
  refine gILN X0 hx hby d1_0 rfl ?_
  refine gILN X0 hx hby d1_1 rfl ?_
  have hc2_1 : ¬ (i_ < (8 : Int32)) := Hge
  refine Goes.via (fun _ kk_ => XS.icmpYes X0.here hx rfl (pc0 := 2) (pc' := 27) rfl (hb hby d1_2) rfl (flt hc2_1).2.1 (by decide) (by decide) kk_) ?_
  show Goes p e below _ (s₁.setTop (mkF m 27 #[vi i_, vi (8 : Int32), vi z_, vi b_, vi d_] []))
  refine gILN X0 hx hby d1_27 rfl ?_
  refine gILN X0 hx hby d1_28 rfl ?_
  refine gILN X0 hx hby d1_29 rfl ?_
  refine Goes.via (fun _ kk_ => XS.iadd X0.here hx rfl (hb hby d1_30) rfl kk_) ?_
  show Goes p e below _ (s₁.setTop (mkF m 31 #[vi i_, vi (8 : Int32), vi z_, vi b_, vi d_] [(.int ((8 : Int32) + z_)), (.int i_)]))
  by_cases hc31 : i_ < ((8 : Int32) + z_)
  · skip
    refine Goes.via (fun _ kk_ => XS.icmpNo X0.here hx rfl (hb hby d1_31) rfl (tlt hc31).2.1 kk_) ?_
    show Goes p e below _ (s₁.setTop (mkF m 34 #[vi i_, vi (8 : Int32), vi z_, vi b_, vi d_] []))
    refine gILN X0 hx hby d1_34 rfl ?_
    refine gILN X0 hx hby d1_35 rfl ?_
    refine gILN X0 hx hby d1_36 rfl ?_
    refine Goes.via (fun _ kk_ => XS.isub X0.here hx rfl (hb hby d1_37) rfl kk_) ?_
    show Goes p e below _ (s₁.setTop (mkF m 38 #[vi i_, vi (8 : Int32), vi z_, vi b_, vi d_] [(.int (i_ - (8 : Int32))), (.int b_)]))
    obtain ⟨_, _, ⟨T2, L2, k2, n2⟩, -, ⟨X2, Si2⟩, ⟨Lc2, ⟨hQ2, tK2, hK2, hKv2, hKh2⟩, l2, y2, z2⟩, st2⟩ := own_callSW X0 hx (y := (⟨"com/example/lincra/lincra/UrlNormalizerPathAndQueryPinLaw", "hostChar", "(II)C"⟩ : MethodName)) hown (mvT hZ (own_w hw 38 rfl)) (mvT hZ (own_w hw 39 rfl)) (mvT hZ (own_w hw 3 rfl)) (mvT hZ (own_w hw 40 rfl)) (by decide) (own_backOfW (W := 0) (K := (fun U_ => KT Z own_K0 U_.vm U_.heap)) (KP := (fun U_ => KT Z own_K0 U_.vm U_.heap)) (rm7 l Z a0 hw [] b_ (i_ - (8 : Int32)) cS fo h0 n0 (Nat.le_trans Z0 (Nat.le_refl _)) S1_java_lang_String_COMPACT_STRINGS_COMPACT_STRINGS H_cs S3_jdk_internal_util_Preconditions_SIOOBE_FORMATTER_SIOOBE_FORMATTER Hfo HO HW HC0 HC1 HC2 HC3 HC4) hZ (own_w hw 40 rfl) (own_w hw 3 rfl) (by decide) (by decide) (fun V_ hV hVh => by show KT Z own_K0 V_.vm V_.heap; rw [hVh]; exact Ks0.at_ (s := s) hV)) (g := (mkF m 38 #[vi i_, vi (8 : Int32), vi z_, vi b_, vi d_] [(.int (i_ - (8 : Int32))), (.int b_)])) rfl (by rw [hml]; rfl) (argsL := [(.int b_), (.int (i_ - (8 : Int32)))]) (rest := []) (lenOf pd_18 rfl) rfl (by show 2 * 0 + _ ≤ _; exact Nat.le_of_eq rfl) (hb hby d1_38) (fun _ _ => ⟨rfl, e0, (by decide : 0 + 2 ≤ _), (by decide : 0 + 132 ≤ _)⟩)
    dsimp only [Pt.U, Pt.locs, Pt.cells, Pt.slots] at X2 l2 y2 z2 st2 hQ2 Si2 hKv2 hKh2
    replace l2 := l2.symm
    subst l2 y2 z2
    obtain ⟨rfl, N2q, K2⟩ := hQ2
    have N2 := Fr.app N0 N2q
    refine Goes.via st2 ?_
    obtain ⟨X2', SI2, hZ, hown⟩ := rebS SI0 (Nat.zero_le _) X2 Si2 K2.1 hZ hown
    have Ks2 : KT Z own_K0 T2.vm T2.heap := by rw [← hKv2, ← hKh2]; exact hK2
    show Goes p e below _ (T2.setTop (mkF m 41 #[vi i_, vi (8 : Int32), vi z_, vi b_, vi d_] [(.int (own_hc b_ (i_ - (8 : Int32))))]))
    have K3 : Keep h0 T2.heap [] := ((Keep.refl h0 []).trans K2 all0)
    have hKe : KT Z own_K0 T2.vm T2.heap := by rw [show T2.heap = T2.heap from rfl]; exact Ks2.at_ (s := s) X2'.warmed
    exact own_wfinN X2' SI2 (Nat.le_refl _) (fun U_ hv hh_ => by show KT Z own_K0 U_.vm U_.heap; rw [hv, hh_]; exact hKe) hx hlk hret (by simp) (hb hby d1_41) (by exact ⟨(by rw [if_pos hc31]; first | rfl | exact own_ret (i2c_mask _)), N2, K3⟩) (by first | decide | omega | (dsimp only; omega)) (by first | decide | omega | (dsimp only; omega))
  · skip
    refine Goes.via (fun _ kk_ => XS.icmpYes X0.here hx rfl (pc0 := 31) (pc' := 42) rfl (hb hby d1_31) rfl (flt hc31).2.1 (by decide) (by decide) kk_) ?_
    show Goes p e below _ (s₁.setTop (mkF m 42 #[vi i_, vi (8 : Int32), vi z_, vi b_, vi d_] []))
    refine gILN X0 hx hby d1_42 rfl ?_
    refine gILN X0 hx hby d1_43 rfl ?_
    refine gILN X0 hx hby d1_44 rfl ?_
    refine Goes.via (fun _ kk_ => XS.iadd X0.here hx rfl (hb hby d1_45) rfl kk_) ?_
    show Goes p e below _ (s₁.setTop (mkF m 46 #[vi i_, vi (8 : Int32), vi z_, vi b_, vi d_] [(.int ((8 : Int32) + z_)), (.int i_)]))
    by_cases hc46 : i_ = ((8 : Int32) + z_)
    · skip
      refine Goes.via (fun _ kk_ => XS.icmpNo X0.here hx rfl (hb hby d1_46) rfl (teq hc46).2 kk_) ?_
      show Goes p e below _ (s₁.setTop (mkF m 49 #[vi i_, vi (8 : Int32), vi z_, vi b_, vi d_] []))
      refine gBI (z := 47) X0 hx hby d1_49 rfl ?_
      have hKe : KT Z own_K0 s₁.vm s₁.heap := by rw [e0]; exact Ks0.at_ (s := s) X0.warmed
      exact own_wfinN X0 SI0 (by rw [e0]; exact (Nat.zero_le _)) (fun U_ hv hh_ => by show KT Z own_K0 U_.vm U_.heap; rw [hv, hh_]; exact hKe) hx hlk hret (by simp) (hb hby d1_51) (by rw [e0]; exact ⟨(by rw [if_neg hc31, if_pos hc46]; first | rfl | exact own_ret (i2c_mask _)), N0, (Keep.refl h0 [])⟩) (by first | decide | omega | (dsimp only; omega)) (by first | decide | omega | (dsimp only; omega))
    · skip
      refine Goes.via (fun _ kk_ => XS.icmpYes X0.here hx rfl (pc0 := 46) (pc' := 52) rfl (hb hby d1_46) rfl (feq hc46).2 (by decide) (by decide) kk_) ?_
      show Goes p e below _ (s₁.setTop (mkF m 52 #[vi i_, vi (8 : Int32), vi z_, vi b_, vi d_] []))
      refine gIL X0 hx hby d1_52 rfl ?_
      refine gILN X0 hx hby d1_54 rfl ?_
      refine gILN X0 hx hby d1_55 rfl ?_
      refine Goes.via (fun _ kk_ => XS.isub X0.here hx rfl (hb hby d1_56) rfl kk_) ?_
      show Goes p e below _ (s₁.setTop (mkF m 57 #[vi i_, vi (8 : Int32), vi z_, vi b_, vi d_] [(.int (i_ - (8 : Int32))), (.int d_)]))
      refine gILN X0 hx hby d1_57 rfl ?_
      refine Goes.via (fun _ kk_ => XS.isub X0.here hx rfl (hb hby d1_58) rfl kk_) ?_
      show Goes p e below _ (s₁.setTop (mkF m 59 #[vi i_, vi (8 : Int32), vi z_, vi b_, vi d_] [(.int ((i_ - (8 : Int32)) - z_)), (.int d_)]))
      refine gIC (z := 1) X0 hx hby d1_59 rfl ?_
      refine Goes.via (fun _ kk_ => XS.isub X0.here hx rfl (hb hby d1_60) rfl kk_) ?_
      show Goes p e below _ (s₁.setTop (mkF m 61 #[vi i_, vi (8 : Int32), vi z_, vi b_, vi d_] [(.int (((i_ - (8 : Int32)) - z_) - (1 : Int32))), (.int d_)]))
      obtain ⟨_, _, ⟨T4, L4, k4, n4⟩, -, ⟨X4, Si4⟩, ⟨Lc4, ⟨hQ4, tK4, hK4, hKv4, hKh4⟩, l4, y4, z4⟩, st4⟩ := own_callSW X0 hx (y := (⟨"com/example/lincra/lincra/UrlNormalizerPathAndQueryPinLaw", "pathChar", "(II)C"⟩ : MethodName)) hown (mvT hZ (own_w hw 150 rfl)) (mvT hZ (own_w hw 151 rfl)) (mvT hZ (own_w hw 3 rfl)) (mvT hZ (own_w hw 152 rfl)) (by decide) (own_backOfW (W := 0) (K := (fun U_ => KT Z own_K0 U_.vm U_.heap)) (KP := (fun U_ => KT Z own_K0 U_.vm U_.heap)) (rm35 l Z a0 hw [] d_ (((i_ - (8 : Int32)) - z_) - (1 : Int32)) cS fo h0 n0 (Nat.le_trans Z0 (Nat.le_refl _)) S1_java_lang_String_COMPACT_STRINGS_COMPACT_STRINGS H_cs S3_jdk_internal_util_Preconditions_SIOOBE_FORMATTER_SIOOBE_FORMATTER Hfo HO HW HC0 HC1 HC2 HC3 HC4) hZ (own_w hw 152 rfl) (own_w hw 3 rfl) (by decide) (by decide) (fun V_ hV hVh => by show KT Z own_K0 V_.vm V_.heap; rw [hVh]; exact Ks0.at_ (s := s) hV)) (g := (mkF m 61 #[vi i_, vi (8 : Int32), vi z_, vi b_, vi d_] [(.int (((i_ - (8 : Int32)) - z_) - (1 : Int32))), (.int d_)])) rfl (by rw [hml]; rfl) (argsL := [(.int d_), (.int (((i_ - (8 : Int32)) - z_) - (1 : Int32)))]) (rest := []) (lenOf pd_18 rfl) rfl (by show 2 * 0 + _ ≤ _; exact Nat.le_of_eq rfl) (hb hby d1_61) (fun _ _ => ⟨rfl, e0, (by decide : 0 + 2 ≤ _), (by decide : 0 + 132 ≤ _)⟩)
      dsimp only [Pt.U, Pt.locs, Pt.cells, Pt.slots] at X4 l4 y4 z4 st4 hQ4 Si4 hKv4 hKh4
      replace l4 := l4.symm
      subst l4 y4 z4
      obtain ⟨rfl, N4q, K4⟩ := hQ4
      have N4 := Fr.app N0 N4q
      refine Goes.via st4 ?_
      obtain ⟨X4', SI4, hZ, hown⟩ := rebS SI0 (Nat.zero_le _) X4 Si4 K4.1 hZ hown
      have Ks4 : KT Z own_K0 T4.vm T4.heap := by rw [← hKv4, ← hKh4]; exact hK4
      show Goes p e below _ (T4.setTop (mkF m 64 #[vi i_, vi (8 : Int32), vi z_, vi b_, vi d_] [(.int (own_pc d_ (((i_ - (8 : Int32)) - z_) - (1 : Int32))))]))
      have K5 : Keep h0 T4.heap [] := ((Keep.refl h0 []).trans K4 all0)
      have hKe : KT Z own_K0 T4.vm T4.heap := by rw [show T4.heap = T4.heap from rfl]; exact Ks4.at_ (s := s) X4'.warmed
      exact own_wfinN X4' SI4 (Nat.le_refl _) (fun U_ hv hh_ => by show KT Z own_K0 U_.vm U_.heap; rw [hv, hh_]; exact hKe) hx hlk hret (by simp) (hb hby d1_64) (by exact ⟨(by rw [if_neg hc31, if_neg hc46]; first | rfl | exact own_ret (i2c_mask _)), N4, K5⟩) (by first | decide | omega | (dsimp only; omega)) (by first | decide | omega | (dsimp only; omega))
theorem ef_rmQ4 (m : MethodId) (a : Addr) : entryFrame m #[(.ref a)] 1 = mkF m 0 #[.val (.ref a)] [] := by first | (simp [entryFrame, mkF, argsToLocals, Value.category]; done) | rfl
def QrmQ4 (Z : State) (a : Addr) (cS : Int32) (fo : Value) (t : Addr) (kc : ClassId) (g : Nat → Int32) (qI : Int32) (qn : Nat) (M : Nat) (h0 : Heap) (n0 : Nat) (v_ : Option Value) (h_ : Heap) (L_ : List Loc) : Prop := ∃ r_ : Addr, ∃ nb : Addr, ∃ kb : ClassId, v_ = some (.ref r_) ∧ Fr n0 L_ ∧ Keep h0 h_ [] ∧ h0.size ≤ r_ ∧ Exa Z h_ r_ "java/lang/String" ∧ Fld Z h_ r_ "java/lang/String" "coder" "B" (.int (0 : Int32)) ∧ Fld Z h_ r_ "java/lang/String" "value" "[B" (.ref nb) ∧ Arw Z h_ nb kb .byte M (fun i => .int ((fun i => g (qn + i)) i))
theorem pn_com_example_lincra_lincra_UrlNormalizer : plainName "com/example/lincra/lincra/UrlNormalizer" = true := by first | (simp [plainName, overriddenIn]; done) | decide +kernel
theorem d16_0 : decode prog_17_method_6_code 0 = .ok (.aload_n 0, 1) := by decide +kernel
theorem d16_1 : decode prog_17_method_6_code 1 = .ok (.aload_n 0, 1) := by decide +kernel
theorem d16_2 : decode prog_17_method_6_code 2 = .ok (.bipush 47, 2) := by decide +kernel
theorem d16_4 : decode prog_17_method_6_code 4 = .ok (.aload_n 0, 1) := by decide +kernel
theorem d16_5 : decode prog_17_method_6_code 5 = .ok (.ldc 81, 2) := by decide +kernel
theorem pd_19 : parseMethodDescriptor "(Ljava/lang/String;)I" = some ⟨[(.object "java/lang/String")], some .int⟩ := by decide +kernel
theorem d16_7 : decode prog_17_method_6_code 7 = .ok (.invokevirtual 100, 3) := by decide +kernel
theorem d16_10 : decode prog_17_method_6_code 10 = .ok (.iconst 3, 1) := by decide +kernel
theorem d16_11 : decode prog_17_method_6_code 11 = .ok (.iadd, 1) := by decide +kernel
theorem d16_12 : decode prog_17_method_6_code 12 = .ok (.invokevirtual 64, 3) := by decide +kernel
theorem pd_20 : parseMethodDescriptor "(I)Ljava/lang/String;" = some ⟨[.int], some (.object "java/lang/String")⟩ := by decide +kernel
theorem d16_15 : decode prog_17_method_6_code 15 = .ok (.invokevirtual 67, 3) := by decide +kernel
theorem d16_18 : decode prog_17_method_6_code 18 = .ok (.areturn, 1) := by decide +kernel
set_option maxRecDepth 65536 in
set_option maxHeartbeats 40000000 in
theorem rmQ4 (l : Launch) (Z : State) (a0 : Array Value) (hw : ∀ d ∈ tables_1, d.before a0 Z = true) (ws : List Jvm.Cond) (a : Addr) (cS : Int32) (fo : Value) (t : Addr) (kc : ClassId) (g : Nat → Int32) (qI : Int32) (qn : Nat) (M : Nat) (h0 : Heap) (n0 : Nat) (Z0 : n0 ≤ h0.size) (E0_a : Exa Z h0 a "java/lang/String") (F1_a_coder : Fld Z h0 a "java/lang/String" "coder" "B" (.int (0 : Int32))) (F2_a_value : Fld Z h0 a "java/lang/String" "value" "[B" (.ref t)) (A3_t : Arw Z h0 t kc .byte 14 (fun i => .int (g i))) (S4_java_lang_String_COMPACT_STRINGS_COMPACT_STRINGS : Sta Z h0 "java/lang/String" "COMPACT_STRINGS" "Z" (.int cS)) (H_cs : ¬ cS = (0 : Int32)) (S6_jdk_internal_util_Preconditions_SIOOBE_FORMATTER_SIOOBE_FORMATTER : Sta Z h0 "jdk/internal/util/Preconditions" "SIOOBE_FORMATTER" "Ljava/util/function/BiFunction;" fo) (Hfo : fo.isRef = true) (HO : Old Z n0 h0) (HW : Jvm.Lit.compactW.before a0 Z = true) (HC0 : Jvm.Lit.constHeld Z "com/example/lincra/lincra/UrlNormalizerPathAndQueryPinLaw" 7) (HC1 : Jvm.Lit.constHeld Z "com/example/lincra/lincra/UrlNormalizerPathAndQueryPinLaw" 19) (HC2 : Jvm.Lit.constHeld Z "com/example/lincra/lincra/UrlNormalizer" 81) (HC3 : Jvm.Lit.constHeld Z "com/example/lincra/lincra/UrlNormalizerPathAndQueryPinLaw" 23) (HC4 : Jvm.Lit.constHeld Z "com/example/lincra/lincra/UrlNormalizerPathAndQueryPinLaw" 21) (Hn0 : g 0 ≠ (58 : Int32)) (Hn1 : g 1 ≠ (58 : Int32)) (Hn2 : g 2 ≠ (58 : Int32)) (Hn3 : g 3 ≠ (58 : Int32)) (Hp0 : g 4 = (58 : Int32)) (Hp1 : g 5 = (47 : Int32)) (Hp2 : g 6 = (47 : Int32)) (HQ : own_find g (47 : Int32).toInt8.toInt32 (14 - 7) 7 (7 : Int32) = qI) (Hq : qI.toInt = (qn : Int)) (Hq0 : 0 < qn) (HqM : qn + M = 14) (HM0 : 0 < M) (HM16 : M ≤ 16) :
    MetFree l (⟨"com/example/lincra/lincra/UrlNormalizer", "pathAndQuery", "(Ljava/lang/String;)Ljava/lang/String;"⟩ : MethodName) (head1 (Jvm.Cond.code (⟨"com/example/lincra/lincra/UrlNormalizer", "pathAndQuery", "(Ljava/lang/String;)Ljava/lang/String;"⟩ : MethodName) prog_17_method_6_code 1 (some (.object "java/lang/String")) :: ws) ({ frames := 6, cells := 4, slots := 36, locals := 111 } : Room)) (fun as_ U_ => as_ = #[(.ref a)] ∧ Z.Warmed39 U_.vm ∧ U_.heap = h0 ∧ KT Z own_K0 U_.vm U_.heap) (fun _ _ _ _ _ => True) (fun _ U_ o_ V_ => ∃ v_ L_, o_ = .returned v_ ∧ QrmQ4 Z a cS fo t kc g qI qn M h0 n0 v_ V_.heap L_ ∧ KT Z own_K0 V_.vm V_.heap ∧ ReturnedEndW U_ o_ V_ L_ ({ frames := 6, cells := 4, slots := 36, locals := 111 } : Room).cells ({ frames := 6, cells := 4, slots := 36, locals := 111 } : Room).slots) := by
  refine MetFree.of_bodySF (plainFor_of_name pn_com_example_lincra_lincra_UrlNormalizer) hisR ?_
  intro p e s m args below meth c s₁ Bd hml0 hP hK
  obtain ⟨rfl, hZ, hh, hKs⟩ := hP
  have hx := Bd.exec
  have hby := Bd.bytes
  have hlk : meth.locks = false := BodyLoose.notSynchronized Bd
  have hret := Bd.returns
  have hml : c.maxLocals = 1 := hml0
  have hown : s.vm.findClass "com/example/lincra/lincra/UrlNormalizer" = some m.cls := findClass_of_methodNamed Bd.named
  have hnm := (name_of_methodNamed Bd.named Bd.method).1
  have X0 : Stand p l e ({ frames := 6, cells := 4, slots := 36, locals := 111 } : Room) (s.setVm s.vm) m #[(.ref a)] below meth c s₁ [] 0 0 := Stand.of_body Bd
  have e0 : s₁.heap = h0 := by rw [← hh, Bd.state]; rfl
  have N0 := Fr.nil n0
  show Goes p e below (Fin_W s (QrmQ4 Z a cS fo t kc g qI qn M h0 n0) (fun U_ => KT Z own_K0 U_.vm U_.heap) ({ frames := 6, cells := 4, slots := 36, locals := 111 } : Room).cells ({ frames := 6, cells := 4, slots := 36, locals := 111 } : Room).slots) (s₁.setTop (entryFrame m #[(.ref a)] 1))
  rw [ef_rmQ4 m a]
  have SI0 : s.Since s.vm 0 := (State.WarmedH.refl s).since 0
  have Ks0 : KT Z own_K0 s.vm h0 := hh ▸ hKs
  have ne1 : a ≠ t := own_ne_arr E0_a (own_w hw 7 rfl) A3_t
  refine gALN X0 hx hby d16_0 rfl rfl ?_
  refine gALN X0 hx hby d16_1 rfl rfl ?_
  refine gBI (z := 47) X0 hx hby d16_2 rfl ?_
  refine gALN X0 hx hby d16_4 rfl rfl ?_
  obtain ⟨ka2, T2, h2, vm2, k12, kb2, kc2, X2, e2, E2, SI2, sk2, hZ, hown, kE2, kC2, kV2, kA2, kL2, Ks2, st2⟩ := own_ldcK (KL := own_KL) (z := (3 : Int32)) (vs := [(.int 58), (.int 47), (.int 47)]) X0 hx hZ hown (own_w hw 77 rfl) (fun d hd => hw d ((by decide +kernel : ∀ d ∈ Bundle.stringAtoms, d ∈ tables_1) d hd)) e0 SI0 (Nat.zero_le _) (Fr.nil _) (by rw [hh]; exact HO.2.2) Ks0.1 (by simp [own_KL]) (by decide +kernel) HC2 HW (by decide +kernel) (by decide) (by decide) (g := (mkF m 5 #[vr a] [(.ref a), (.int (47 : Int32)), (.ref a), (.ref a)])) rfl (hb hby d16_5) (n := 12) (by decide +kernel) (by decide) (by first | decide | omega | (dsimp only; omega)) (by first | decide | omega | (dsimp only; omega))
  have Ks2 : KT Z own_K0 vm2 h2 := ⟨Ks2, fun x hx => absurd hx (by simp [own_K0])⟩
  refine Goes.via st2 ?_
  have f3 : Exa Z h2 a "java/lang/String" := (E0_a.ext E2)
  have f4 : Fld Z h2 a "java/lang/String" "value" "[B" (.ref t) := (F2_a_value.ext E2)
  have ne5 : a ≠ kb2 := f3.neArv kA2 (own_w hw 7 rfl)
  have ne6 : ka2 ≠ kb2 := kE2.neArv kA2 (own_w hw 7 rfl)
  show Goes p e below _ (T2.setTop (mkF m 7 #[vr a] [(.ref ka2), (.ref a), (.int (47 : Int32)), (.ref a), (.ref a)]))
  have kW7 : Arw Z h2 kb2 kc2 .byte 3 (fun i => .int (own_gP i)) := Arw.ofArv kA2 (by decide) (fun i hi => own_lt_own_gP i hi)
  have f8 : Fld Z h2 a "java/lang/String" "coder" "B" (.int (0 : Int32)) := (F1_a_coder.ext E2)
  have f9 : Arw Z h2 t kc .byte 14 (fun i => .int (g i)) := (A3_t.ext E2)
  have f10 : Sta Z h2 "java/lang/String" "COMPACT_STRINGS" "Z" (.int cS) := (S4_java_lang_String_COMPACT_STRINGS_COMPACT_STRINGS.ext E2)
  have z12 : h0.size ≤ (h2).size := (Nat.le_trans (Nat.le_refl _) E2.1)
  obtain ⟨cq11, kq11, q11a, q11b, q11c⟩ := isOf hZ e2 f3
  obtain ⟨_, _, ⟨T11, L11, k11, n11⟩, -, X11, ⟨Lc11, hQ11, l11, y11, z11⟩, st11⟩ := X2.virtualBack hx (y := (⟨"java/lang/String", "indexOf", "(Ljava/lang/String;)I"⟩ : MethodName)) (z := (⟨"java/lang/String", "indexOf", "(Ljava/lang/String;)I"⟩ : MethodName)) hown (mvT hZ (own_w hw 78 rfl)) (mvT hZ (own_w hw 79 rfl)) (notFace_of_selects (args := #[]) (mvT hZ (own_w hw 81 rfl))) (mvT hZ (own_w hw 81 rfl)) (mvT hZ (own_w hw 80 rfl)) (by decide) (backOf (W := 3) (rmU4 l Z a0 hw [] a ka2 cS t kb2 kc kc2 g h2 n0 (Nat.le_trans Z0 z12) f3 f8 f4 f9 kE2 kC2 kV2 kW7 f10 H_cs Hn0 Hn1 Hn2 Hn3 Hp0 Hp1 Hp2) hZ (own_w hw 82 rfl) (own_w hw 6 rfl) (by decide) (by decide)) q11a q11c (g := (mkF m 7 #[vr a] [(.ref ka2), (.ref a), (.int (47 : Int32)), (.ref a), (.ref a)])) rfl (by rw [hml]; rfl) (Steps.refl _) (argsL := [(.ref ka2)]) (rest := [(.int (47 : Int32)), (.ref a), (.ref a)]) (lenOf pd_19 rfl) rfl (by show 2 * 0 + _ ≤ _; exact Nat.le_of_eq rfl) (hb hby d16_7) (fun _ _ => ⟨rfl, e2, (by decide : 2 + 0 ≤ _), (by decide : 16 + 0 ≤ _)⟩)
  dsimp only [Pt.U, Pt.locs, Pt.cells, Pt.slots] at X11 l11 y11 z11 st11 hQ11
  replace l11 := l11.symm
  subst l11 y11 z11
  obtain ⟨rfl, rfl, e11⟩ := hQ11
  first | rw [List.append_nil] at X11 | skip
  refine Goes.tr st11 ?_
  have e11' : T11.heap = h2 := e11
  have ne13 : ka2 ≠ t := own_ne_arr kE2 (own_w hw 7 rfl) f9
  show Goes p e below _ (T11.setTop (mkF m 10 #[vr a] [(.int (4 : Int32)), (.int (47 : Int32)), (.ref a), (.ref a)]))
  refine gIC (z := 3) X11 hx hby d16_10 rfl ?_
  refine Goes.via (fun _ kk_ => XS.iadd X11.here hx rfl (hb hby d16_11) rfl kk_) ?_
  show Goes p e below _ (T11.setTop (mkF m 12 #[vr a] [(.int ((4 : Int32) + (3 : Int32))), (.int (47 : Int32)), (.ref a), (.ref a)]))
  rw [show ((4 : Int32) + (3 : Int32)) = (7 : Int32) from by decide]
  show Goes p e below _ (T11.setTop (mkF m 12 #[vr a] [(.int (7 : Int32)), (.int (47 : Int32)), (.ref a), (.ref a)]))
  obtain ⟨cq14, kq14, q14a, q14b, q14c⟩ := isOf hZ e11' f3
  obtain ⟨_, _, ⟨T14, L14, k14, n14⟩, -, X14, ⟨Lc14, hQ14, l14, y14, z14⟩, st14⟩ := X11.virtualBack hx (y := (⟨"java/lang/String", "indexOf", "(II)I"⟩ : MethodName)) (z := (⟨"java/lang/String", "indexOf", "(II)I"⟩ : MethodName)) hown (mvT hZ (own_w hw 89 rfl)) (mvT hZ (own_w hw 90 rfl)) (notFace_of_selects (args := #[]) (mvT hZ (own_w hw 92 rfl))) (mvT hZ (own_w hw 92 rfl)) (mvT hZ (own_w hw 91 rfl)) (by decide) (backOf (W := 1) (rm20 l Z a0 hw [] a (47 : Int32) (7 : Int32) (14 : Int32) cS t kc 14 g 7 h2 n0 (Nat.le_trans Z0 z12) f3 f8 f4 f9 f10 H_cs (by decide) (by decide) (by decide) (by first | assumption | rfl | decide | omega | (simp; done)) (by first | assumption | rfl | decide | omega | (simp; done))) hZ (own_w hw 93 rfl) (own_w hw 6 rfl) (by decide) (by decide)) q14a q14c (g := (mkF m 12 #[vr a] [(.int (7 : Int32)), (.int (47 : Int32)), (.ref a), (.ref a)])) rfl (by rw [hml]; rfl) (Steps.refl _) (argsL := [(.int (47 : Int32)), (.int (7 : Int32))]) (rest := [(.ref a)]) (lenOf pd_6 rfl) rfl (by show 2 * 0 + _ ≤ _; exact Nat.le_of_eq rfl) (hb hby d16_12) (fun _ _ => ⟨rfl, e11', (by decide : 2 + 0 ≤ _), (by decide : 16 + 0 ≤ _)⟩)
  dsimp only [Pt.U, Pt.locs, Pt.cells, Pt.slots] at X14 l14 y14 z14 st14 hQ14
  replace l14 := l14.symm
  subst l14 y14 z14
  obtain ⟨rfl, rfl, e14⟩ := hQ14
  first | rw [List.append_nil] at X14 | skip
  refine Goes.tr st14 ?_
  have e14' : T14.heap = h2 := e14
  show Goes p e below _ (T14.setTop (mkF m 15 #[vr a] [(.int (own_find g (47 : Int32).toInt8.toInt32 (14 - 7) 7 (7 : Int32))), (.ref a)]))
  rw [HQ]
  show Goes p e below _ (T14.setTop (mkF m 15 #[vr a] [(.int qI), (.ref a)]))
  have f15 : Sta Z h2 "jdk/internal/util/Preconditions" "SIOOBE_FORMATTER" "Ljava/util/function/BiFunction;" fo := (S6_jdk_internal_util_Preconditions_SIOOBE_FORMATTER_SIOOBE_FORMATTER.ext E2)
  obtain ⟨cq16, kq16, q16a, q16b, q16c⟩ := isOf hZ e14' f3
  obtain ⟨_, _, ⟨T16, L16, k16, n16⟩, -, X16, ⟨Lc16, hQ16, l16, y16, z16⟩, st16⟩ := X14.virtualBack hx (y := (⟨"java/lang/String", "substring", "(I)Ljava/lang/String;"⟩ : MethodName)) (z := (⟨"java/lang/String", "substring", "(I)Ljava/lang/String;"⟩ : MethodName)) hown (mvT hZ (own_w hw 111 rfl)) (mvT hZ (own_w hw 112 rfl)) (notFace_of_selects (args := #[]) (mvT hZ (own_w hw 114 rfl))) (mvT hZ (own_w hw 114 rfl)) (mvT hZ (own_w hw 113 rfl)) (by decide) (backOf (W := 0) (rm26 l Z a0 hw [] a qI cS fo t kc 14 g (14 : Int32) qn M h2 n0 (Nat.le_trans Z0 z12) f3 f8 f4 f9 f10 H_cs f15 Hfo (by decide) Hq Hq0 HM0 HM16 HqM) hZ (own_w hw 115 rfl) (own_w hw 6 rfl) (by decide) (by decide)) q16a q16c (g := (mkF m 15 #[vr a] [(.int qI), (.ref a)])) rfl (by rw [hml]; rfl) (Steps.refl _) (argsL := [(.int qI)]) (rest := []) (lenOf pd_20 rfl) rfl (by show 2 * 0 + _ ≤ _; exact Nat.le_of_eq rfl) (hb hby d16_15) (fun _ _ => ⟨rfl, e14', (by decide : 2 + 2 ≤ _), (by decide : 16 + 20 ≤ _)⟩)
  dsimp only [Pt.U, Pt.locs, Pt.cells, Pt.slots] at X16 l16 y16 z16 st16 hQ16
  replace l16 := l16.symm
  subst l16 y16 z16
  obtain ⟨r_16, nb16, kb16, rfl, N16q, K16, u16_0, u16_1, u16_2, u16_3, u16_4⟩ := hQ16
  have N16 := Fr.app N0 N16q
  refine Goes.tr st16 ?_
  have ne17 : a ≠ r_16 := Nat.ne_of_lt (Nat.lt_of_lt_of_le f3.lt u16_0)
  have ne18 : t ≠ r_16 := Nat.ne_of_lt (Nat.lt_of_lt_of_le f9.lt u16_0)
  have ne19 : ka2 ≠ r_16 := Nat.ne_of_lt (Nat.lt_of_lt_of_le kE2.lt u16_0)
  have ne20 : kb2 ≠ r_16 := Nat.ne_of_lt (Nat.lt_of_lt_of_le kA2.lt u16_0)
  have sz_r_16 : h0.size ≤ r_16 := Nat.le_trans z12 u16_0
  have gn_r_16 : n0 ≤ r_16 := Nat.le_trans Z0 sz_r_16
  -- u16_0 : h0.size ≤ r_16
  have ne21 : r_16 ≠ nb16 := own_ne_arr u16_1 (own_w hw 7 rfl) u16_4
  show Goes p e below _ (T16.setTop (mkF m 18 #[vr a] [(.ref r_16)]))
  have K22 : Keep h0 T16.heap [] := (((Keep.refl h0 []).ext E2).trans K16 all0)
  have Ks23 : KT Z own_K0 vm2 (T16.heap) := (Ks2.keep K16 all0)
  have hKe : KT Z own_K0 T16.vm T16.heap := by rw [show T16.heap = T16.heap from rfl]; exact Ks23.at_ (s := s) X16.warmed
  have sk24 : _ ≤ (T16.heap).size := (Nat.le_trans sk2 K16.1)
  exact own_wfinR X16 SI2 sk24 (fun U_ hv hh_ => by show KT Z own_K0 U_.vm U_.heap; rw [hv, hh_]; exact hKe) hx hlk hret rfl rfl rfl (hb hby d16_18) (by exact ⟨r_16, nb16, kb16, rfl, N16, K22, sz_r_16, u16_1, u16_2, u16_3, u16_4⟩) (by first | decide | omega | (dsimp only; omega)) (by first | decide | omega | (dsimp only; omega))
theorem ef_rmQ5 (m : MethodId) (a : Addr) : entryFrame m #[(.ref a)] 1 = mkF m 0 #[.val (.ref a)] [] := by first | (simp [entryFrame, mkF, argsToLocals, Value.category]; done) | rfl
def QrmQ5 (Z : State) (a : Addr) (cS : Int32) (fo : Value) (t : Addr) (kc : ClassId) (g : Nat → Int32) (qI : Int32) (qn : Nat) (M : Nat) (h0 : Heap) (n0 : Nat) (v_ : Option Value) (h_ : Heap) (L_ : List Loc) : Prop := ∃ r_ : Addr, ∃ nb : Addr, ∃ kb : ClassId, v_ = some (.ref r_) ∧ Fr n0 L_ ∧ Keep h0 h_ [] ∧ h0.size ≤ r_ ∧ Exa Z h_ r_ "java/lang/String" ∧ Fld Z h_ r_ "java/lang/String" "coder" "B" (.int (0 : Int32)) ∧ Fld Z h_ r_ "java/lang/String" "value" "[B" (.ref nb) ∧ Arw Z h_ nb kb .byte M (fun i => .int ((fun i => g (qn + i)) i))
set_option maxRecDepth 65536 in
set_option maxHeartbeats 40000000 in
theorem rmQ5 (l : Launch) (Z : State) (a0 : Array Value) (hw : ∀ d ∈ tables_1, d.before a0 Z = true) (ws : List Jvm.Cond) (a : Addr) (cS : Int32) (fo : Value) (t : Addr) (kc : ClassId) (g : Nat → Int32) (qI : Int32) (qn : Nat) (M : Nat) (h0 : Heap) (n0 : Nat) (Z0 : n0 ≤ h0.size) (E0_a : Exa Z h0 a "java/lang/String") (F1_a_coder : Fld Z h0 a "java/lang/String" "coder" "B" (.int (0 : Int32))) (F2_a_value : Fld Z h0 a "java/lang/String" "value" "[B" (.ref t)) (A3_t : Arw Z h0 t kc .byte 14 (fun i => .int (g i))) (S4_java_lang_String_COMPACT_STRINGS_COMPACT_STRINGS : Sta Z h0 "java/lang/String" "COMPACT_STRINGS" "Z" (.int cS)) (H_cs : ¬ cS = (0 : Int32)) (S6_jdk_internal_util_Preconditions_SIOOBE_FORMATTER_SIOOBE_FORMATTER : Sta Z h0 "jdk/internal/util/Preconditions" "SIOOBE_FORMATTER" "Ljava/util/function/BiFunction;" fo) (Hfo : fo.isRef = true) (HO : Old Z n0 h0) (HW : Jvm.Lit.compactW.before a0 Z = true) (HC0 : Jvm.Lit.constHeld Z "com/example/lincra/lincra/UrlNormalizerPathAndQueryPinLaw" 7) (HC1 : Jvm.Lit.constHeld Z "com/example/lincra/lincra/UrlNormalizerPathAndQueryPinLaw" 19) (HC2 : Jvm.Lit.constHeld Z "com/example/lincra/lincra/UrlNormalizer" 81) (HC3 : Jvm.Lit.constHeld Z "com/example/lincra/lincra/UrlNormalizerPathAndQueryPinLaw" 23) (HC4 : Jvm.Lit.constHeld Z "com/example/lincra/lincra/UrlNormalizerPathAndQueryPinLaw" 21) (Hn0 : g 0 ≠ (58 : Int32)) (Hn1 : g 1 ≠ (58 : Int32)) (Hn2 : g 2 ≠ (58 : Int32)) (Hn3 : g 3 ≠ (58 : Int32)) (Hn4 : g 4 ≠ (58 : Int32)) (Hp0 : g 5 = (58 : Int32)) (Hp1 : g 6 = (47 : Int32)) (Hp2 : g 7 = (47 : Int32)) (HQ : own_find g (47 : Int32).toInt8.toInt32 (14 - 8) 8 (8 : Int32) = qI) (Hq : qI.toInt = (qn : Int)) (Hq0 : 0 < qn) (HqM : qn + M = 14) (HM0 : 0 < M) (HM16 : M ≤ 16) :
    MetFree l (⟨"com/example/lincra/lincra/UrlNormalizer", "pathAndQuery", "(Ljava/lang/String;)Ljava/lang/String;"⟩ : MethodName) (head1 (Jvm.Cond.code (⟨"com/example/lincra/lincra/UrlNormalizer", "pathAndQuery", "(Ljava/lang/String;)Ljava/lang/String;"⟩ : MethodName) prog_17_method_6_code 1 (some (.object "java/lang/String")) :: ws) ({ frames := 6, cells := 4, slots := 36, locals := 111 } : Room)) (fun as_ U_ => as_ = #[(.ref a)] ∧ Z.Warmed39 U_.vm ∧ U_.heap = h0 ∧ KT Z own_K0 U_.vm U_.heap) (fun _ _ _ _ _ => True) (fun _ U_ o_ V_ => ∃ v_ L_, o_ = .returned v_ ∧ QrmQ5 Z a cS fo t kc g qI qn M h0 n0 v_ V_.heap L_ ∧ KT Z own_K0 V_.vm V_.heap ∧ ReturnedEndW U_ o_ V_ L_ ({ frames := 6, cells := 4, slots := 36, locals := 111 } : Room).cells ({ frames := 6, cells := 4, slots := 36, locals := 111 } : Room).slots) := by
  refine MetFree.of_bodySF (plainFor_of_name pn_com_example_lincra_lincra_UrlNormalizer) hisR ?_
  intro p e s m args below meth c s₁ Bd hml0 hP hK
  obtain ⟨rfl, hZ, hh, hKs⟩ := hP
  have hx := Bd.exec
  have hby := Bd.bytes
  have hlk : meth.locks = false := BodyLoose.notSynchronized Bd
  have hret := Bd.returns
  have hml : c.maxLocals = 1 := hml0
  have hown : s.vm.findClass "com/example/lincra/lincra/UrlNormalizer" = some m.cls := findClass_of_methodNamed Bd.named
  have hnm := (name_of_methodNamed Bd.named Bd.method).1
  have X0 : Stand p l e ({ frames := 6, cells := 4, slots := 36, locals := 111 } : Room) (s.setVm s.vm) m #[(.ref a)] below meth c s₁ [] 0 0 := Stand.of_body Bd
  have e0 : s₁.heap = h0 := by rw [← hh, Bd.state]; rfl
  have N0 := Fr.nil n0
  show Goes p e below (Fin_W s (QrmQ5 Z a cS fo t kc g qI qn M h0 n0) (fun U_ => KT Z own_K0 U_.vm U_.heap) ({ frames := 6, cells := 4, slots := 36, locals := 111 } : Room).cells ({ frames := 6, cells := 4, slots := 36, locals := 111 } : Room).slots) (s₁.setTop (entryFrame m #[(.ref a)] 1))
  rw [ef_rmQ5 m a]
  have SI0 : s.Since s.vm 0 := (State.WarmedH.refl s).since 0
  have Ks0 : KT Z own_K0 s.vm h0 := hh ▸ hKs
  have ne1 : a ≠ t := own_ne_arr E0_a (own_w hw 7 rfl) A3_t
  refine gALN X0 hx hby d16_0 rfl rfl ?_
  refine gALN X0 hx hby d16_1 rfl rfl ?_
  refine gBI (z := 47) X0 hx hby d16_2 rfl ?_
  refine gALN X0 hx hby d16_4 rfl rfl ?_
  obtain ⟨ka2, T2, h2, vm2, k12, kb2, kc2, X2, e2, E2, SI2, sk2, hZ, hown, kE2, kC2, kV2, kA2, kL2, Ks2, st2⟩ := own_ldcK (KL := own_KL) (z := (3 : Int32)) (vs := [(.int 58), (.int 47), (.int 47)]) X0 hx hZ hown (own_w hw 77 rfl) (fun d hd => hw d ((by decide +kernel : ∀ d ∈ Bundle.stringAtoms, d ∈ tables_1) d hd)) e0 SI0 (Nat.zero_le _) (Fr.nil _) (by rw [hh]; exact HO.2.2) Ks0.1 (by simp [own_KL]) (by decide +kernel) HC2 HW (by decide +kernel) (by decide) (by decide) (g := (mkF m 5 #[vr a] [(.ref a), (.int (47 : Int32)), (.ref a), (.ref a)])) rfl (hb hby d16_5) (n := 12) (by decide +kernel) (by decide) (by first | decide | omega | (dsimp only; omega)) (by first | decide | omega | (dsimp only; omega))
  have Ks2 : KT Z own_K0 vm2 h2 := ⟨Ks2, fun x hx => absurd hx (by simp [own_K0])⟩
  refine Goes.via st2 ?_
  have f3 : Exa Z h2 a "java/lang/String" := (E0_a.ext E2)
  have f4 : Fld Z h2 a "java/lang/String" "value" "[B" (.ref t) := (F2_a_value.ext E2)
  have ne5 : a ≠ kb2 := f3.neArv kA2 (own_w hw 7 rfl)
  have ne6 : ka2 ≠ kb2 := kE2.neArv kA2 (own_w hw 7 rfl)
  show Goes p e below _ (T2.setTop (mkF m 7 #[vr a] [(.ref ka2), (.ref a), (.int (47 : Int32)), (.ref a), (.ref a)]))
  have kW7 : Arw Z h2 kb2 kc2 .byte 3 (fun i => .int (own_gP i)) := Arw.ofArv kA2 (by decide) (fun i hi => own_lt_own_gP i hi)
  have f8 : Fld Z h2 a "java/lang/String" "coder" "B" (.int (0 : Int32)) := (F1_a_coder.ext E2)
  have f9 : Arw Z h2 t kc .byte 14 (fun i => .int (g i)) := (A3_t.ext E2)
  have f10 : Sta Z h2 "java/lang/String" "COMPACT_STRINGS" "Z" (.int cS) := (S4_java_lang_String_COMPACT_STRINGS_COMPACT_STRINGS.ext E2)
  have z12 : h0.size ≤ (h2).size := (Nat.le_trans (Nat.le_refl _) E2.1)
  obtain ⟨cq11, kq11, q11a, q11b, q11c⟩ := isOf hZ e2 f3
  obtain ⟨_, _, ⟨T11, L11, k11, n11⟩, -, X11, ⟨Lc11, hQ11, l11, y11, z11⟩, st11⟩ := X2.virtualBack hx (y := (⟨"java/lang/String", "indexOf", "(Ljava/lang/String;)I"⟩ : MethodName)) (z := (⟨"java/lang/String", "indexOf", "(Ljava/lang/String;)I"⟩ : MethodName)) hown (mvT hZ (own_w hw 78 rfl)) (mvT hZ (own_w hw 79 rfl)) (notFace_of_selects (args := #[]) (mvT hZ (own_w hw 81 rfl))) (mvT hZ (own_w hw 81 rfl)) (mvT hZ (own_w hw 80 rfl)) (by decide) (backOf (W := 3) (rmU5 l Z a0 hw [] a ka2 cS t kb2 kc kc2 g h2 n0 (Nat.le_trans Z0 z12) f3 f8 f4 f9 kE2 kC2 kV2 kW7 f10 H_cs Hn0 Hn1 Hn2 Hn3 Hn4 Hp0 Hp1 Hp2) hZ (own_w hw 82 rfl) (own_w hw 6 rfl) (by decide) (by decide)) q11a q11c (g := (mkF m 7 #[vr a] [(.ref ka2), (.ref a), (.int (47 : Int32)), (.ref a), (.ref a)])) rfl (by rw [hml]; rfl) (Steps.refl _) (argsL := [(.ref ka2)]) (rest := [(.int (47 : Int32)), (.ref a), (.ref a)]) (lenOf pd_19 rfl) rfl (by show 2 * 0 + _ ≤ _; exact Nat.le_of_eq rfl) (hb hby d16_7) (fun _ _ => ⟨rfl, e2, (by decide : 2 + 0 ≤ _), (by decide : 16 + 0 ≤ _)⟩)
  dsimp only [Pt.U, Pt.locs, Pt.cells, Pt.slots] at X11 l11 y11 z11 st11 hQ11
  replace l11 := l11.symm
  subst l11 y11 z11
  obtain ⟨rfl, rfl, e11⟩ := hQ11
  first | rw [List.append_nil] at X11 | skip
  refine Goes.tr st11 ?_
  have e11' : T11.heap = h2 := e11
  have ne13 : ka2 ≠ t := own_ne_arr kE2 (own_w hw 7 rfl) f9
  show Goes p e below _ (T11.setTop (mkF m 10 #[vr a] [(.int (5 : Int32)), (.int (47 : Int32)), (.ref a), (.ref a)]))
  refine gIC (z := 3) X11 hx hby d16_10 rfl ?_
  refine Goes.via (fun _ kk_ => XS.iadd X11.here hx rfl (hb hby d16_11) rfl kk_) ?_
  show Goes p e below _ (T11.setTop (mkF m 12 #[vr a] [(.int ((5 : Int32) + (3 : Int32))), (.int (47 : Int32)), (.ref a), (.ref a)]))
  rw [show ((5 : Int32) + (3 : Int32)) = (8 : Int32) from by decide]
  show Goes p e below _ (T11.setTop (mkF m 12 #[vr a] [(.int (8 : Int32)), (.int (47 : Int32)), (.ref a), (.ref a)]))
  obtain ⟨cq14, kq14, q14a, q14b, q14c⟩ := isOf hZ e11' f3
  obtain ⟨_, _, ⟨T14, L14, k14, n14⟩, -, X14, ⟨Lc14, hQ14, l14, y14, z14⟩, st14⟩ := X11.virtualBack hx (y := (⟨"java/lang/String", "indexOf", "(II)I"⟩ : MethodName)) (z := (⟨"java/lang/String", "indexOf", "(II)I"⟩ : MethodName)) hown (mvT hZ (own_w hw 89 rfl)) (mvT hZ (own_w hw 90 rfl)) (notFace_of_selects (args := #[]) (mvT hZ (own_w hw 92 rfl))) (mvT hZ (own_w hw 92 rfl)) (mvT hZ (own_w hw 91 rfl)) (by decide) (backOf (W := 1) (rm20 l Z a0 hw [] a (47 : Int32) (8 : Int32) (14 : Int32) cS t kc 14 g 8 h2 n0 (Nat.le_trans Z0 z12) f3 f8 f4 f9 f10 H_cs (by decide) (by decide) (by decide) (by first | assumption | rfl | decide | omega | (simp; done)) (by first | assumption | rfl | decide | omega | (simp; done))) hZ (own_w hw 93 rfl) (own_w hw 6 rfl) (by decide) (by decide)) q14a q14c (g := (mkF m 12 #[vr a] [(.int (8 : Int32)), (.int (47 : Int32)), (.ref a), (.ref a)])) rfl (by rw [hml]; rfl) (Steps.refl _) (argsL := [(.int (47 : Int32)), (.int (8 : Int32))]) (rest := [(.ref a)]) (lenOf pd_6 rfl) rfl (by show 2 * 0 + _ ≤ _; exact Nat.le_of_eq rfl) (hb hby d16_12) (fun _ _ => ⟨rfl, e11', (by decide : 2 + 0 ≤ _), (by decide : 16 + 0 ≤ _)⟩)
  dsimp only [Pt.U, Pt.locs, Pt.cells, Pt.slots] at X14 l14 y14 z14 st14 hQ14
  replace l14 := l14.symm
  subst l14 y14 z14
  obtain ⟨rfl, rfl, e14⟩ := hQ14
  first | rw [List.append_nil] at X14 | skip
  refine Goes.tr st14 ?_
  have e14' : T14.heap = h2 := e14
  show Goes p e below _ (T14.setTop (mkF m 15 #[vr a] [(.int (own_find g (47 : Int32).toInt8.toInt32 (14 - 8) 8 (8 : Int32))), (.ref a)]))
  rw [HQ]
  show Goes p e below _ (T14.setTop (mkF m 15 #[vr a] [(.int qI), (.ref a)]))
  have f15 : Sta Z h2 "jdk/internal/util/Preconditions" "SIOOBE_FORMATTER" "Ljava/util/function/BiFunction;" fo := (S6_jdk_internal_util_Preconditions_SIOOBE_FORMATTER_SIOOBE_FORMATTER.ext E2)
  obtain ⟨cq16, kq16, q16a, q16b, q16c⟩ := isOf hZ e14' f3
  obtain ⟨_, _, ⟨T16, L16, k16, n16⟩, -, X16, ⟨Lc16, hQ16, l16, y16, z16⟩, st16⟩ := X14.virtualBack hx (y := (⟨"java/lang/String", "substring", "(I)Ljava/lang/String;"⟩ : MethodName)) (z := (⟨"java/lang/String", "substring", "(I)Ljava/lang/String;"⟩ : MethodName)) hown (mvT hZ (own_w hw 111 rfl)) (mvT hZ (own_w hw 112 rfl)) (notFace_of_selects (args := #[]) (mvT hZ (own_w hw 114 rfl))) (mvT hZ (own_w hw 114 rfl)) (mvT hZ (own_w hw 113 rfl)) (by decide) (backOf (W := 0) (rm26 l Z a0 hw [] a qI cS fo t kc 14 g (14 : Int32) qn M h2 n0 (Nat.le_trans Z0 z12) f3 f8 f4 f9 f10 H_cs f15 Hfo (by decide) Hq Hq0 HM0 HM16 HqM) hZ (own_w hw 115 rfl) (own_w hw 6 rfl) (by decide) (by decide)) q16a q16c (g := (mkF m 15 #[vr a] [(.int qI), (.ref a)])) rfl (by rw [hml]; rfl) (Steps.refl _) (argsL := [(.int qI)]) (rest := []) (lenOf pd_20 rfl) rfl (by show 2 * 0 + _ ≤ _; exact Nat.le_of_eq rfl) (hb hby d16_15) (fun _ _ => ⟨rfl, e14', (by decide : 2 + 2 ≤ _), (by decide : 16 + 20 ≤ _)⟩)
  dsimp only [Pt.U, Pt.locs, Pt.cells, Pt.slots] at X16 l16 y16 z16 st16 hQ16
  replace l16 := l16.symm
  subst l16 y16 z16
  obtain ⟨r_16, nb16, kb16, rfl, N16q, K16, u16_0, u16_1, u16_2, u16_3, u16_4⟩ := hQ16
  have N16 := Fr.app N0 N16q
  refine Goes.tr st16 ?_
  have ne17 : a ≠ r_16 := Nat.ne_of_lt (Nat.lt_of_lt_of_le f3.lt u16_0)
  have ne18 : t ≠ r_16 := Nat.ne_of_lt (Nat.lt_of_lt_of_le f9.lt u16_0)
  have ne19 : ka2 ≠ r_16 := Nat.ne_of_lt (Nat.lt_of_lt_of_le kE2.lt u16_0)
  have ne20 : kb2 ≠ r_16 := Nat.ne_of_lt (Nat.lt_of_lt_of_le kA2.lt u16_0)
  have sz_r_16 : h0.size ≤ r_16 := Nat.le_trans z12 u16_0
  have gn_r_16 : n0 ≤ r_16 := Nat.le_trans Z0 sz_r_16
  -- u16_0 : h0.size ≤ r_16
  have ne21 : r_16 ≠ nb16 := own_ne_arr u16_1 (own_w hw 7 rfl) u16_4
  show Goes p e below _ (T16.setTop (mkF m 18 #[vr a] [(.ref r_16)]))
  have K22 : Keep h0 T16.heap [] := (((Keep.refl h0 []).ext E2).trans K16 all0)
  have Ks23 : KT Z own_K0 vm2 (T16.heap) := (Ks2.keep K16 all0)
  have hKe : KT Z own_K0 T16.vm T16.heap := by rw [show T16.heap = T16.heap from rfl]; exact Ks23.at_ (s := s) X16.warmed
  have sk24 : _ ≤ (T16.heap).size := (Nat.le_trans sk2 K16.1)
  exact own_wfinR X16 SI2 sk24 (fun U_ hv hh_ => by show KT Z own_K0 U_.vm U_.heap; rw [hv, hh_]; exact hKe) hx hlk hret rfl rfl rfl (hb hby d16_18) (by exact ⟨r_16, nb16, kb16, rfl, N16, K22, sz_r_16, u16_1, u16_2, u16_3, u16_4⟩) (by first | decide | omega | (dsimp only; omega)) (by first | decide | omega | (dsimp only; omega))
theorem ef_rm0 (m : MethodId) (x0 : Int32) (x1 : Int32) (x2 : Int32) : entryFrame m #[(.int x0), (.int x1), (.int x2)] maxLocals = mkF m 0 #[.val (.int x0), .val (.int x1), .val (.int x2), .unset, .unset, .unset, .unset, .unset] [] := by first | (simp [entryFrame, mkF, argsToLocals, Value.category, maxLocals]; done) | rfl
def Qrm0 (Z : State) (x0 : Int32) (x1 : Int32) (x2 : Int32) (cS : Int32) (fo : Value) (h0 : Heap) (n0 : Nat) (v_ : Option Value) (h_ : Heap) (L_ : List Loc) : Prop := v_ = some (.int (1 : Int32)) ∧ Fr n0 L_ ∧ Keep h0 h_ []
theorem pd_21 : parseMethodDescriptor "(IIIII)C" = some ⟨[.int, .int, .int, .int, .int], some .char⟩ := by decide +kernel
theorem pd_22 : parseMethodDescriptor "([C)V" = some ⟨[(.array .char)], none⟩ := by decide +kernel
theorem pd_23 : parseMethodDescriptor "(Ljava/lang/String;)Ljava/lang/String;" = some ⟨[(.object "java/lang/String")], some (.object "java/lang/String")⟩ := by decide +kernel
set_option maxRecDepth 65536 in
set_option maxHeartbeats 40000000 in
theorem rm0 (l : Launch) (Z : State) (a0 : Array Value) (hw : ∀ d ∈ tables_1, d.before a0 Z = true) (ws : List Jvm.Cond) (x0 : Int32) (x1 : Int32) (x2 : Int32) (cS : Int32) (fo : Value) (h0 : Heap) (n0 : Nat) (Z0 : n0 ≤ h0.size) (OS : Sta Z h0 "java/lang/String" "COMPACT_STRINGS" "Z" (.int cS)) (H_cs : ¬ cS = (0 : Int32)) (OF : Sta Z h0 "jdk/internal/util/Preconditions" "SIOOBE_FORMATTER" "Ljava/util/function/BiFunction;" fo) (Hfo : fo.isRef = true) (HO : Old Z n0 h0) (HW : Jvm.Lit.compactW.before a0 Z = true) (HC0 : Jvm.Lit.constHeld Z "com/example/lincra/lincra/UrlNormalizerPathAndQueryPinLaw" 7) (HC1 : Jvm.Lit.constHeld Z "com/example/lincra/lincra/UrlNormalizerPathAndQueryPinLaw" 19) (HC2 : Jvm.Lit.constHeld Z "com/example/lincra/lincra/UrlNormalizer" 81) (HC3 : Jvm.Lit.constHeld Z "com/example/lincra/lincra/UrlNormalizerPathAndQueryPinLaw" 23) (HC4 : Jvm.Lit.constHeld Z "com/example/lincra/lincra/UrlNormalizerPathAndQueryPinLaw" 21) :
    MetFree l x (head1 (Jvm.Cond.code x code maxLocals ret :: ws) room_1) (fun as_ U_ => as_ = #[(.int x0), (.int x1), (.int x2)] ∧ Z.Warmed39 U_.vm ∧ U_.heap = h0 ∧ KT Z own_K0 U_.vm U_.heap) (fun _ _ _ _ _ => True) (fun _ U_ o_ V_ => ∃ v_ L_, o_ = .returned v_ ∧ Qrm0 Z x0 x1 x2 cS fo h0 n0 v_ V_.heap L_ ∧ KT Z own_K0 V_.vm V_.heap ∧ ReturnedEndW U_ o_ V_ L_ room_1.cells room_1.slots) := by
  refine MetFree.of_bodySF (plainFor_of_name pn_com_example_lincra_lincra_UrlNormalizerPathAndQueryPinLaw) hisR ?_
  intro p e s m args below meth c s₁ Bd hml0 hP hK
  obtain ⟨rfl, hZ, hh, hKs⟩ := hP
  have hx := Bd.exec
  have hby := Bd.bytes
  have hlk : meth.locks = false := BodyLoose.notSynchronized Bd
  have hret := Bd.returns
  have hml : c.maxLocals = 8 := hml0
  have hown : s.vm.findClass "com/example/lincra/lincra/UrlNormalizerPathAndQueryPinLaw" = some m.cls := findClass_of_methodNamed Bd.named
  have hnm := (name_of_methodNamed Bd.named Bd.method).1
  have X0 : Stand p l e room_1 (s.setVm s.vm) m #[(.int x0), (.int x1), (.int x2)] below meth c s₁ [] 0 0 := Stand.of_body Bd
  have e0 : s₁.heap = h0 := by rw [← hh, Bd.state]; rfl
  have N0 := Fr.nil n0
  show Goes p e below (Fin_W s (Qrm0 Z x0 x1 x2 cS fo h0 n0) (fun U_ => KT Z own_K0 U_.vm U_.heap) room_1.cells room_1.slots) (s₁.setTop (entryFrame m #[(.int x0), (.int x1), (.int x2)] maxLocals))
  rw [ef_rm0 m x0 x1 x2]
  have SI0 : s.Since s.vm 0 := (State.WarmedH.refl s).since 0
  have Ks0 : KT Z own_K0 s.vm h0 := hh ▸ hKs
  refine gBI (z := 7) X0 hx hby at_0 rfl ?_
  refine gILN X0 hx hby at_2 rfl ?_
  refine gIC (z := 1) X0 hx hby at_3 rfl ?_
  refine Goes.via (fun _ kk_ => XS.iand X0.here hx rfl (hb hby at_4) rfl kk_) ?_
  show Goes p e below _ (s₁.setTop (mkF m 5 #[vi x0, vi x1, vi x2, .unset, .unset, .unset, .unset, .unset] [(.int (x0 &&& (1 : Int32))), (.int (7 : Int32))]))
  rcases own_01 x0 with ho | ho
  · rw [ho]
    show Goes p e below _ (s₁.setTop (mkF m 5 #[vi x0, vi x1, vi x2, .unset, .unset, .unset, .unset, .unset] [(.int (0 : Int32)), (.int (7 : Int32))]))
    refine Goes.via (fun _ kk_ => XS.iadd X0.here hx rfl (hb hby at_5) rfl kk_) ?_
    show Goes p e below _ (s₁.setTop (mkF m 6 #[vi x0, vi x1, vi x2, .unset, .unset, .unset, .unset, .unset] [(.int ((7 : Int32) + (0 : Int32)))]))
    rw [show ((7 : Int32) + (0 : Int32)) = (7 : Int32) from by decide]
    show Goes p e below _ (s₁.setTop (mkF m 6 #[vi x0, vi x1, vi x2, .unset, .unset, .unset, .unset, .unset] [(.int (7 : Int32))]))
    refine Goes.via (fun _ kk_ => XS.istoreN X0.here hx rfl (hb hby at_6) rfl (l' := #[vi x0, vi x1, vi x2, vi (7 : Int32), .unset, .unset, .unset, .unset]) rfl kk_) ?_
    show Goes p e below _ (s₁.setTop (mkF m 7 #[vi x0, vi x1, vi x2, vi (7 : Int32), .unset, .unset, .unset, .unset] []))
    refine gILN X0 hx hby at_7 rfl ?_
    refine gIC (z := 1) X0 hx hby at_8 rfl ?_
    refine Goes.via (fun _ kk_ => XS.iushr X0.here hx rfl (hb hby at_9) rfl kk_) ?_
    show Goes p e below _ (s₁.setTop (mkF m 10 #[vi x0, vi x1, vi x2, vi (7 : Int32), .unset, .unset, .unset, .unset] [(.int ((x0.toUInt32 >>> ((1 : Int32) &&& 31).toUInt32).toInt32))]))
    refine gIC (z := 3) X0 hx hby at_10 rfl ?_
    refine Goes.via (fun _ kk_ => XS.iand X0.here hx rfl (hb hby at_11) rfl kk_) ?_
    show Goes p e below _ (s₁.setTop (mkF m 12 #[vi x0, vi x1, vi x2, vi (7 : Int32), .unset, .unset, .unset, .unset] [(.int (((x0.toUInt32 >>> ((1 : Int32) &&& 31).toUInt32).toInt32) &&& (3 : Int32)))]))
    refine Goes.via (fun _ kk_ => XS.istore X0.here hx rfl (hb hby at_12) rfl (l' := #[vi x0, vi x1, vi x2, vi (7 : Int32), vi (((x0.toUInt32 >>> ((1 : Int32) &&& 31).toUInt32).toInt32) &&& (3 : Int32)), .unset, .unset, .unset]) rfl kk_) ?_
    show Goes p e below _ (s₁.setTop (mkF m 14 #[vi x0, vi x1, vi x2, vi (7 : Int32), vi (((x0.toUInt32 >>> ((1 : Int32) &&& 31).toUInt32).toInt32) &&& (3 : Int32)), .unset, .unset, .unset] []))
    have htv := own_03 (((x0.toUInt32 >>> ((1 : Int32) &&& 31).toUInt32).toInt32))
    generalize (((x0.toUInt32 >>> ((1 : Int32) &&& 31).toUInt32).toInt32) &&& (3 : Int32)) = tv at *
    show Goes p e below _ (s₁.setTop (mkF m 14 #[vi x0, vi x1, vi x2, vi (7 : Int32), vi tv, .unset, .unset, .unset] []))
    refine gBI (z := 13) X0 hx hby at_14 rfl ?_
    refine gILN X0 hx hby at_16 rfl ?_
    refine Goes.via (fun _ kk_ => XS.isub X0.here hx rfl (hb hby at_17) rfl kk_) ?_
    show Goes p e below _ (s₁.setTop (mkF m 18 #[vi x0, vi x1, vi x2, vi (7 : Int32), vi tv, .unset, .unset, .unset] [(.int ((13 : Int32) - (7 : Int32)))]))
    rw [show ((13 : Int32) - (7 : Int32)) = (6 : Int32) from by decide]
    show Goes p e below _ (s₁.setTop (mkF m 18 #[vi x0, vi x1, vi x2, vi (7 : Int32), vi tv, .unset, .unset, .unset] [(.int (6 : Int32))]))
    refine gIL X0 hx hby at_18 rfl ?_
    refine Goes.via (fun _ kk_ => XS.isub X0.here hx rfl (hb hby at_20) rfl kk_) ?_
    show Goes p e below _ (s₁.setTop (mkF m 21 #[vi x0, vi x1, vi x2, vi (7 : Int32), vi tv, .unset, .unset, .unset] [(.int ((6 : Int32) - tv))]))
    refine Goes.via (fun _ kk_ => XS.istore X0.here hx rfl (hb hby at_21) rfl (l' := #[vi x0, vi x1, vi x2, vi (7 : Int32), vi tv, vi ((6 : Int32) - tv), .unset, .unset]) rfl kk_) ?_
    show Goes p e below _ (s₁.setTop (mkF m 23 #[vi x0, vi x1, vi x2, vi (7 : Int32), vi tv, vi ((6 : Int32) - tv), .unset, .unset] []))
    obtain ⟨hv, hhv⟩ : ∃ z, z = ((6 : Int32) - tv) := ⟨_, rfl⟩
    rw [← hhv]
    show Goes p e below _ (s₁.setTop (mkF m 23 #[vi x0, vi x1, vi x2, vi (7 : Int32), vi tv, vi hv, .unset, .unset] []))
    refine gBI (z := 14) X0 hx hby at_23 rfl ?_
    obtain ⟨T1, h1, k1, X1, e1, E1, A1, st1⟩ := own_newP X0 hx hZ (own_w hw 0 rfl) e0 (g := (mkF m 25 #[vi x0, vi x1, vi x2, vi (7 : Int32), vi tv, vi hv, .unset, .unset] [(.int (14 : Int32))])) rfl (hb hby at_25) rfl (n := (14 : Int32)) (N := 14) (by decide) (by decide) (cap := 14) (by first | decide | omega | (dsimp only; omega)) (by first | decide | omega | (dsimp only; omega)) (by first | decide | omega | (dsimp only; omega)) (by first | decide | omega | (dsimp only; omega))
    obtain ⟨b1, g1⟩ : ∃ z, z = (h0).size := ⟨_, rfl⟩
    rw [← g1] at A1 st1
    have sz_b1 : h0.size ≤ b1 := Nat.le_trans (Nat.le_refl _) (Nat.le_of_eq g1.symm)
    have gn_b1 : n0 ≤ b1 := Nat.le_trans Z0 sz_b1
    refine Goes.via st1 ?_
    show Goes p e below _ (T1.setTop (mkF m 27 #[vi x0, vi x1, vi x2, vi (7 : Int32), vi tv, vi hv, .unset, .unset] [(.ref b1)]))
    refine Goes.via (fun _ kk_ => XS.astore X1.here hx rfl (hb hby at_27) rfl rfl (l' := #[vi x0, vi x1, vi x2, vi (7 : Int32), vi tv, vi hv, vr b1, .unset]) rfl kk_) ?_
    show Goes p e below _ (T1.setTop (mkF m 29 #[vi x0, vi x1, vi x2, vi (7 : Int32), vi tv, vi hv, vr b1, .unset] []))
    refine gAL X1 hx hby at_29 rfl rfl ?_
    refine gIC (z := 0) X1 hx hby at_31 rfl ?_
    refine gIC (z := 0) X1 hx hby at_32 rfl ?_
    refine gILN X1 hx hby at_33 rfl ?_
    refine gIL X1 hx hby at_34 rfl ?_
    refine gILN X1 hx hby at_36 rfl ?_
    refine gILN X1 hx hby at_37 rfl ?_
    have K2 : Keep h0 h1 [] := ((Keep.refl h0 []).ext E1)
    have f3 : Sta Z h1 "java/lang/String" "COMPACT_STRINGS" "Z" (.int cS) := own_sta_keep OS K2
    have f4 : Sta Z h1 "jdk/internal/util/Preconditions" "SIOOBE_FORMATTER" "Ljava/util/function/BiFunction;" fo := own_sta_keep OF K2
    have ol5 : Old Z n0 (h1) := (HO.ext E1)
    have z7 : h0.size ≤ (h1).size := (Nat.le_trans (Nat.le_refl _) E1.1)
    have Ks8 : KT Z own_K0 s.vm (h1) := (Ks0.ext E1)
    have sk9 : _ ≤ (h1).size := (Nat.le_trans (Nat.zero_le _) E1.1)
    obtain ⟨_, _, ⟨T6, L6, k6, n6⟩, -, ⟨X6, Si6⟩, ⟨Lc6, ⟨hQ6, tK6, hK6, hKv6, hKh6⟩, l6, y6, z6⟩, st6⟩ := own_callSW X1 hx (y := (⟨"com/example/lincra/lincra/UrlNormalizerPathAndQueryPinLaw", "at", "(IIIII)C"⟩ : MethodName)) hown (mvT hZ (own_w hw 1 rfl)) (mvT hZ (own_w hw 2 rfl)) (mvT hZ (own_w hw 3 rfl)) (mvT hZ (own_w hw 4 rfl)) (by decide) (own_backOfW (W := 2) (K := (fun U_ => KT Z own_K7 U_.vm U_.heap)) (KP := (fun U_ => KT Z own_K0 U_.vm U_.heap)) (rmA7f l Z a0 hw [] (0 : Int32) hv x1 x2 cS fo 0 h1 n0 (Nat.le_trans Z0 z7) (by decide) (by decide) (by decide) f3 H_cs f4 Hfo ol5 HW HC0 HC1 HC2 HC3 HC4) hZ (own_w hw 4 rfl) (own_w hw 3 rfl) (by decide) (by decide) (fun V_ hV hVh => by show KT Z own_K0 V_.vm V_.heap; rw [hVh]; exact Ks8.at_ (s := s) hV)) (g := (mkF m 38 #[vi x0, vi x1, vi x2, vi (7 : Int32), vi tv, vi hv, vr b1, .unset] [(.int x2), (.int x1), (.int hv), (.int (7 : Int32)), (.int (0 : Int32)), (.int (0 : Int32)), (.ref b1)])) rfl (by rw [hml]; rfl) (argsL := [(.int (0 : Int32)), (.int (7 : Int32)), (.int hv), (.int x1), (.int x2)]) (rest := [(.int (0 : Int32)), (.ref b1)]) (lenOf pd_21 rfl) rfl (by show 2 * 0 + _ ≤ _; exact Nat.le_of_eq rfl) (hb hby at_38) (fun _ _ => ⟨rfl, e1, (by decide : 1 + 2 ≤ _), (by decide : 14 + 32 ≤ _)⟩)
    dsimp only [Pt.U, Pt.locs, Pt.cells, Pt.slots] at X6 l6 y6 z6 st6 hQ6 Si6 hKv6 hKh6
    replace l6 := l6.symm
    subst l6 y6 z6
    obtain ⟨rfl, N6q, K6⟩ := hQ6
    have N6 := Fr.app N0 N6q
    refine Goes.via st6 ?_
    obtain ⟨X6', SI6, hZ, hown⟩ := rebS SI0 sk9 X6 Si6 K6.1 hZ hown
    have Ks6 : KT Z own_K7 T6.vm T6.heap := by rw [← hKv6, ← hKh6]; exact hK6
    show Goes p e below _ (T6.setTop (mkF m 41 #[vi x0, vi x1, vi x2, vi (7 : Int32), vi tv, vi hv, vr b1, .unset] [(.int (own_g7 0 &&& (255 : Int32))), (.int (0 : Int32)), (.ref b1)]))
    rw [show (own_g7 0 &&& (255 : Int32)) = (104 : Int32) by decide]
    show Goes p e below _ (T6.setTop (mkF m 41 #[vi x0, vi x1, vi x2, vi (7 : Int32), vi tv, vi hv, vr b1, .unset] [(.int (104 : Int32)), (.int (0 : Int32)), (.ref b1)]))
    have f10 : Arw Z T6.heap b1 k1 .char 14 (fun _ => (.int 0)) := (A1.keep K6 nin0)
    obtain ⟨T11, h11, X11, e11, W11, A11, st11⟩ := own_castore X6' hx hZ rfl f10 (j := (0 : Int32)) (i := 0) (by decide) (by decide) (by first | decide | omega | (dsimp only; omega)) (g := (mkF m 41 #[vi x0, vi x1, vi x2, vi (7 : Int32), vi tv, vi hv, vr b1, .unset] [(.int (104 : Int32)), (.int (0 : Int32)), (.ref b1)])) rfl rfl (hb hby at_41)
    refine Goes.via st11 ?_
    have N11 := Fr.snoc X11 N6 gn_b1
    show Goes p e below _ (T11.setTop (mkF m 42 #[vi x0, vi x1, vi x2, vi (7 : Int32), vi tv, vi hv, vr b1, .unset] []))
    refine gAL X11 hx hby at_42 rfl rfl ?_
    refine gIC (z := 1) X11 hx hby at_44 rfl ?_
    refine gIC (z := 1) X11 hx hby at_45 rfl ?_
    refine gILN X11 hx hby at_46 rfl ?_
    refine gIL X11 hx hby at_47 rfl ?_
    refine gILN X11 hx hby at_49 rfl ?_
    refine gILN X11 hx hby at_50 rfl ?_
    have K12 : Keep h0 h11 [] := ((K2.trans K6 all0).wr W11 (Or.inr sz_b1))
    have f13 : Sta Z h11 "java/lang/String" "COMPACT_STRINGS" "Z" (.int cS) := own_sta_keep OS K12
    have f14 : Sta Z h11 "jdk/internal/util/Preconditions" "SIOOBE_FORMATTER" "Ljava/util/function/BiFunction;" fo := own_sta_keep OF K12
    have ol15 : Old Z n0 (h11) := ((ol5.keep K6 all0).wr W11 gn_b1)
    have z17 : h0.size ≤ (h11).size := (Nat.le_trans (Nat.le_trans z7 K6.1) (Nat.le_of_eq W11.size.symm))
    have Ks18 : KT Z own_K7 T6.vm (h11) := (Ks6.wr W11 (NoS.arr f10 (own_w hw 7 rfl) (by intro q; cases q)))
    have sk19 : _ ≤ (h11).size := (Nat.le_trans (Nat.le_refl _) (Nat.le_of_eq W11.size.symm))
    obtain ⟨_, _, ⟨T16, L16, k16, n16⟩, -, ⟨X16, Si16⟩, ⟨Lc16, ⟨hQ16, tK16, hK16, hKv16, hKh16⟩, l16, y16, z16⟩, st16⟩ := own_callSW X11 hx (y := (⟨"com/example/lincra/lincra/UrlNormalizerPathAndQueryPinLaw", "at", "(IIIII)C"⟩ : MethodName)) hown (mvT hZ (own_w hw 1 rfl)) (mvT hZ (own_w hw 2 rfl)) (mvT hZ (own_w hw 3 rfl)) (mvT hZ (own_w hw 4 rfl)) (by decide) (own_backOfW (W := 2) (K := (fun U_ => KT Z own_K7 U_.vm U_.heap)) (KP := (fun U_ => KT Z own_K7 U_.vm U_.heap)) (rmA7g l Z a0 hw [] (1 : Int32) hv x1 x2 cS fo 1 h11 n0 (Nat.le_trans Z0 z17) (by decide) (by decide) (by decide) f13 H_cs f14 Hfo ol15 HW HC0 HC1 HC2 HC3 HC4) hZ (own_w hw 4 rfl) (own_w hw 3 rfl) (by decide) (by decide) (fun V_ hV hVh => by show KT Z own_K7 V_.vm V_.heap; rw [hVh]; exact Ks18.at_ (s := s) hV)) (g := (mkF m 51 #[vi x0, vi x1, vi x2, vi (7 : Int32), vi tv, vi hv, vr b1, .unset] [(.int x2), (.int x1), (.int hv), (.int (7 : Int32)), (.int (1 : Int32)), (.int (1 : Int32)), (.ref b1)])) rfl (by rw [hml]; rfl) (argsL := [(.int (1 : Int32)), (.int (7 : Int32)), (.int hv), (.int x1), (.int x2)]) (rest := [(.int (1 : Int32)), (.ref b1)]) (lenOf pd_21 rfl) rfl (by show 2 * 0 + _ ≤ _; exact Nat.le_of_eq rfl) (hb hby at_51) (fun _ _ => ⟨rfl, e11, (by decide : 3 + 0 ≤ _), (by decide : 46 + 0 ≤ _)⟩)
    dsimp only [Pt.U, Pt.locs, Pt.cells, Pt.slots] at X16 l16 y16 z16 st16 hQ16 Si16 hKv16 hKh16
    replace l16 := l16.symm
    subst l16 y16 z16
    obtain ⟨rfl, N16q, K16⟩ := hQ16
    have N16 := Fr.app N11 N16q
    refine Goes.via st16 ?_
    obtain ⟨X16', SI16, hZ, hown⟩ := rebS SI6 sk19 X16 Si16 K16.1 hZ hown
    have Ks16 : KT Z own_K7 T16.vm T16.heap := by rw [← hKv16, ← hKh16]; exact hK16
    show Goes p e below _ (T16.setTop (mkF m 54 #[vi x0, vi x1, vi x2, vi (7 : Int32), vi tv, vi hv, vr b1, .unset] [(.int (own_g7 1 &&& (255 : Int32))), (.int (1 : Int32)), (.ref b1)]))
    rw [show (own_g7 1 &&& (255 : Int32)) = (116 : Int32) by decide]
    show Goes p e below _ (T16.setTop (mkF m 54 #[vi x0, vi x1, vi x2, vi (7 : Int32), vi tv, vi hv, vr b1, .unset] [(.int (116 : Int32)), (.int (1 : Int32)), (.ref b1)]))
    have f20 : Arw Z T16.heap b1 k1 .char 14 (own_upd (fun _ => (.int 0)) 0 (.int (nar .char (104 : Int32)))) := (A11.keep K16 nin0)
    obtain ⟨T21, h21, X21, e21, W21, A21, st21⟩ := own_castore X16' hx hZ rfl f20 (j := (1 : Int32)) (i := 1) (by decide) (by decide) (by first | decide | omega | (dsimp only; omega)) (g := (mkF m 54 #[vi x0, vi x1, vi x2, vi (7 : Int32), vi tv, vi hv, vr b1, .unset] [(.int (116 : Int32)), (.int (1 : Int32)), (.ref b1)])) rfl rfl (hb hby at_54)
    refine Goes.via st21 ?_
    have N21 := Fr.snoc X21 N16 gn_b1
    show Goes p e below _ (T21.setTop (mkF m 55 #[vi x0, vi x1, vi x2, vi (7 : Int32), vi tv, vi hv, vr b1, .unset] []))
    refine gAL X21 hx hby at_55 rfl rfl ?_
    refine gIC (z := 2) X21 hx hby at_57 rfl ?_
    refine gIC (z := 2) X21 hx hby at_58 rfl ?_
    refine gILN X21 hx hby at_59 rfl ?_
    refine gIL X21 hx hby at_60 rfl ?_
    refine gILN X21 hx hby at_62 rfl ?_
    refine gILN X21 hx hby at_63 rfl ?_
    have K22 : Keep h0 h21 [] := ((K12.trans K16 all0).wr W21 (Or.inr sz_b1))
    have f23 : Sta Z h21 "java/lang/String" "COMPACT_STRINGS" "Z" (.int cS) := own_sta_keep OS K22
    have f24 : Sta Z h21 "jdk/internal/util/Preconditions" "SIOOBE_FORMATTER" "Ljava/util/function/BiFunction;" fo := own_sta_keep OF K22
    have ol25 : Old Z n0 (h21) := ((ol15.keep K16 all0).wr W21 gn_b1)
    have z27 : h0.size ≤ (h21).size := (Nat.le_trans (Nat.le_trans z17 K16.1) (Nat.le_of_eq W21.size.symm))
    have Ks28 : KT Z own_K7 T16.vm (h21) := (Ks16.wr W21 (NoS.arr f20 (own_w hw 7 rfl) (by intro q; cases q)))
    have sk29 : _ ≤ (h21).size := (Nat.le_trans (Nat.le_refl _) (Nat.le_of_eq W21.size.symm))
    obtain ⟨_, _, ⟨T26, L26, k26, n26⟩, -, ⟨X26, Si26⟩, ⟨Lc26, ⟨hQ26, tK26, hK26, hKv26, hKh26⟩, l26, y26, z26⟩, st26⟩ := own_callSW X21 hx (y := (⟨"com/example/lincra/lincra/UrlNormalizerPathAndQueryPinLaw", "at", "(IIIII)C"⟩ : MethodName)) hown (mvT hZ (own_w hw 1 rfl)) (mvT hZ (own_w hw 2 rfl)) (mvT hZ (own_w hw 3 rfl)) (mvT hZ (own_w hw 4 rfl)) (by decide) (own_backOfW (W := 2) (K := (fun U_ => KT Z own_K7 U_.vm U_.heap)) (KP := (fun U_ => KT Z own_K7 U_.vm U_.heap)) (rmA7g l Z a0 hw [] (2 : Int32) hv x1 x2 cS fo 2 h21 n0 (Nat.le_trans Z0 z27) (by decide) (by decide) (by decide) f23 H_cs f24 Hfo ol25 HW HC0 HC1 HC2 HC3 HC4) hZ (own_w hw 4 rfl) (own_w hw 3 rfl) (by decide) (by decide) (fun V_ hV hVh => by show KT Z own_K7 V_.vm V_.heap; rw [hVh]; exact Ks28.at_ (s := s) hV)) (g := (mkF m 64 #[vi x0, vi x1, vi x2, vi (7 : Int32), vi tv, vi hv, vr b1, .unset] [(.int x2), (.int x1), (.int hv), (.int (7 : Int32)), (.int (2 : Int32)), (.int (2 : Int32)), (.ref b1)])) rfl (by rw [hml]; rfl) (argsL := [(.int (2 : Int32)), (.int (7 : Int32)), (.int hv), (.int x1), (.int x2)]) (rest := [(.int (2 : Int32)), (.ref b1)]) (lenOf pd_21 rfl) rfl (by show 2 * 0 + _ ≤ _; exact Nat.le_of_eq rfl) (hb hby at_64) (fun _ _ => ⟨rfl, e21, (by decide : 3 + 0 ≤ _), (by decide : 46 + 0 ≤ _)⟩)
    dsimp only [Pt.U, Pt.locs, Pt.cells, Pt.slots] at X26 l26 y26 z26 st26 hQ26 Si26 hKv26 hKh26
    replace l26 := l26.symm
    subst l26 y26 z26
    obtain ⟨rfl, N26q, K26⟩ := hQ26
    have N26 := Fr.app N21 N26q
    refine Goes.via st26 ?_
    obtain ⟨X26', SI26, hZ, hown⟩ := rebS SI16 sk29 X26 Si26 K26.1 hZ hown
    have Ks26 : KT Z own_K7 T26.vm T26.heap := by rw [← hKv26, ← hKh26]; exact hK26
    show Goes p e below _ (T26.setTop (mkF m 67 #[vi x0, vi x1, vi x2, vi (7 : Int32), vi tv, vi hv, vr b1, .unset] [(.int (own_g7 2 &&& (255 : Int32))), (.int (2 : Int32)), (.ref b1)]))
    rw [show (own_g7 2 &&& (255 : Int32)) = (116 : Int32) by decide]
    show Goes p e below _ (T26.setTop (mkF m 67 #[vi x0, vi x1, vi x2, vi (7 : Int32), vi tv, vi hv, vr b1, .unset] [(.int (116 : Int32)), (.int (2 : Int32)), (.ref b1)]))
    have f30 : Arw Z T26.heap b1 k1 .char 14 (own_upd (own_upd (fun _ => (.int 0)) 0 (.int (nar .char (104 : Int32)))) 1 (.int (nar .char (116 : Int32)))) := (A21.keep K26 nin0)
    obtain ⟨T31, h31, X31, e31, W31, A31, st31⟩ := own_castore X26' hx hZ rfl f30 (j := (2 : Int32)) (i := 2) (by decide) (by decide) (by first | decide | omega | (dsimp only; omega)) (g := (mkF m 67 #[vi x0, vi x1, vi x2, vi (7 : Int32), vi tv, vi hv, vr b1, .unset] [(.int (116 : Int32)), (.int (2 : Int32)), (.ref b1)])) rfl rfl (hb hby at_67)
    refine Goes.via st31 ?_
    have N31 := Fr.snoc X31 N26 gn_b1
    show Goes p e below _ (T31.setTop (mkF m 68 #[vi x0, vi x1, vi x2, vi (7 : Int32), vi tv, vi hv, vr b1, .unset] []))
    refine gAL X31 hx hby at_68 rfl rfl ?_
    refine gIC (z := 3) X31 hx hby at_70 rfl ?_
    refine gIC (z := 3) X31 hx hby at_71 rfl ?_
    refine gILN X31 hx hby at_72 rfl ?_
    refine gIL X31 hx hby at_73 rfl ?_
    refine gILN X31 hx hby at_75 rfl ?_
    refine gILN X31 hx hby at_76 rfl ?_
    have K32 : Keep h0 h31 [] := ((K22.trans K26 all0).wr W31 (Or.inr sz_b1))
    have f33 : Sta Z h31 "java/lang/String" "COMPACT_STRINGS" "Z" (.int cS) := own_sta_keep OS K32
    have f34 : Sta Z h31 "jdk/internal/util/Preconditions" "SIOOBE_FORMATTER" "Ljava/util/function/BiFunction;" fo := own_sta_keep OF K32
    have ol35 : Old Z n0 (h31) := ((ol25.keep K26 all0).wr W31 gn_b1)
    have z37 : h0.size ≤ (h31).size := (Nat.le_trans (Nat.le_trans z27 K26.1) (Nat.le_of_eq W31.size.symm))
    have Ks38 : KT Z own_K7 T26.vm (h31) := (Ks26.wr W31 (NoS.arr f30 (own_w hw 7 rfl) (by intro q; cases q)))
    have sk39 : _ ≤ (h31).size := (Nat.le_trans (Nat.le_refl _) (Nat.le_of_eq W31.size.symm))
    obtain ⟨_, _, ⟨T36, L36, k36, n36⟩, -, ⟨X36, Si36⟩, ⟨Lc36, ⟨hQ36, tK36, hK36, hKv36, hKh36⟩, l36, y36, z36⟩, st36⟩ := own_callSW X31 hx (y := (⟨"com/example/lincra/lincra/UrlNormalizerPathAndQueryPinLaw", "at", "(IIIII)C"⟩ : MethodName)) hown (mvT hZ (own_w hw 1 rfl)) (mvT hZ (own_w hw 2 rfl)) (mvT hZ (own_w hw 3 rfl)) (mvT hZ (own_w hw 4 rfl)) (by decide) (own_backOfW (W := 2) (K := (fun U_ => KT Z own_K7 U_.vm U_.heap)) (KP := (fun U_ => KT Z own_K7 U_.vm U_.heap)) (rmA7g l Z a0 hw [] (3 : Int32) hv x1 x2 cS fo 3 h31 n0 (Nat.le_trans Z0 z37) (by decide) (by decide) (by decide) f33 H_cs f34 Hfo ol35 HW HC0 HC1 HC2 HC3 HC4) hZ (own_w hw 4 rfl) (own_w hw 3 rfl) (by decide) (by decide) (fun V_ hV hVh => by show KT Z own_K7 V_.vm V_.heap; rw [hVh]; exact Ks38.at_ (s := s) hV)) (g := (mkF m 77 #[vi x0, vi x1, vi x2, vi (7 : Int32), vi tv, vi hv, vr b1, .unset] [(.int x2), (.int x1), (.int hv), (.int (7 : Int32)), (.int (3 : Int32)), (.int (3 : Int32)), (.ref b1)])) rfl (by rw [hml]; rfl) (argsL := [(.int (3 : Int32)), (.int (7 : Int32)), (.int hv), (.int x1), (.int x2)]) (rest := [(.int (3 : Int32)), (.ref b1)]) (lenOf pd_21 rfl) rfl (by show 2 * 0 + _ ≤ _; exact Nat.le_of_eq rfl) (hb hby at_77) (fun _ _ => ⟨rfl, e31, (by decide : 3 + 0 ≤ _), (by decide : 46 + 0 ≤ _)⟩)
    dsimp only [Pt.U, Pt.locs, Pt.cells, Pt.slots] at X36 l36 y36 z36 st36 hQ36 Si36 hKv36 hKh36
    replace l36 := l36.symm
    subst l36 y36 z36
    obtain ⟨rfl, N36q, K36⟩ := hQ36
    have N36 := Fr.app N31 N36q
    refine Goes.via st36 ?_
    obtain ⟨X36', SI36, hZ, hown⟩ := rebS SI26 sk39 X36 Si36 K36.1 hZ hown
    have Ks36 : KT Z own_K7 T36.vm T36.heap := by rw [← hKv36, ← hKh36]; exact hK36
    show Goes p e below _ (T36.setTop (mkF m 80 #[vi x0, vi x1, vi x2, vi (7 : Int32), vi tv, vi hv, vr b1, .unset] [(.int (own_g7 3 &&& (255 : Int32))), (.int (3 : Int32)), (.ref b1)]))
    rw [show (own_g7 3 &&& (255 : Int32)) = (112 : Int32) by decide]
    show Goes p e below _ (T36.setTop (mkF m 80 #[vi x0, vi x1, vi x2, vi (7 : Int32), vi tv, vi hv, vr b1, .unset] [(.int (112 : Int32)), (.int (3 : Int32)), (.ref b1)]))
    have f40 : Arw Z T36.heap b1 k1 .char 14 (own_upd (own_upd (own_upd (fun _ => (.int 0)) 0 (.int (nar .char (104 : Int32)))) 1 (.int (nar .char (116 : Int32)))) 2 (.int (nar .char (116 : Int32)))) := (A31.keep K36 nin0)
    obtain ⟨T41, h41, X41, e41, W41, A41, st41⟩ := own_castore X36' hx hZ rfl f40 (j := (3 : Int32)) (i := 3) (by decide) (by decide) (by first | decide | omega | (dsimp only; omega)) (g := (mkF m 80 #[vi x0, vi x1, vi x2, vi (7 : Int32), vi tv, vi hv, vr b1, .unset] [(.int (112 : Int32)), (.int (3 : Int32)), (.ref b1)])) rfl rfl (hb hby at_80)
    refine Goes.via st41 ?_
    have N41 := Fr.snoc X41 N36 gn_b1
    show Goes p e below _ (T41.setTop (mkF m 81 #[vi x0, vi x1, vi x2, vi (7 : Int32), vi tv, vi hv, vr b1, .unset] []))
    refine gAL X41 hx hby at_81 rfl rfl ?_
    refine gIC (z := 4) X41 hx hby at_83 rfl ?_
    refine gIC (z := 4) X41 hx hby at_84 rfl ?_
    refine gILN X41 hx hby at_85 rfl ?_
    refine gIL X41 hx hby at_86 rfl ?_
    refine gILN X41 hx hby at_88 rfl ?_
    refine gILN X41 hx hby at_89 rfl ?_
    have K42 : Keep h0 h41 [] := ((K32.trans K36 all0).wr W41 (Or.inr sz_b1))
    have f43 : Sta Z h41 "java/lang/String" "COMPACT_STRINGS" "Z" (.int cS) := own_sta_keep OS K42
    have f44 : Sta Z h41 "jdk/internal/util/Preconditions" "SIOOBE_FORMATTER" "Ljava/util/function/BiFunction;" fo := own_sta_keep OF K42
    have ol45 : Old Z n0 (h41) := ((ol35.keep K36 all0).wr W41 gn_b1)
    have z47 : h0.size ≤ (h41).size := (Nat.le_trans (Nat.le_trans z37 K36.1) (Nat.le_of_eq W41.size.symm))
    have Ks48 : KT Z own_K7 T36.vm (h41) := (Ks36.wr W41 (NoS.arr f40 (own_w hw 7 rfl) (by intro q; cases q)))
    have sk49 : _ ≤ (h41).size := (Nat.le_trans (Nat.le_refl _) (Nat.le_of_eq W41.size.symm))
    obtain ⟨_, _, ⟨T46, L46, k46, n46⟩, -, ⟨X46, Si46⟩, ⟨Lc46, ⟨hQ46, tK46, hK46, hKv46, hKh46⟩, l46, y46, z46⟩, st46⟩ := own_callSW X41 hx (y := (⟨"com/example/lincra/lincra/UrlNormalizerPathAndQueryPinLaw", "at", "(IIIII)C"⟩ : MethodName)) hown (mvT hZ (own_w hw 1 rfl)) (mvT hZ (own_w hw 2 rfl)) (mvT hZ (own_w hw 3 rfl)) (mvT hZ (own_w hw 4 rfl)) (by decide) (own_backOfW (W := 2) (K := (fun U_ => KT Z own_K7 U_.vm U_.heap)) (KP := (fun U_ => KT Z own_K7 U_.vm U_.heap)) (rmA7g l Z a0 hw [] (4 : Int32) hv x1 x2 cS fo 4 h41 n0 (Nat.le_trans Z0 z47) (by decide) (by decide) (by decide) f43 H_cs f44 Hfo ol45 HW HC0 HC1 HC2 HC3 HC4) hZ (own_w hw 4 rfl) (own_w hw 3 rfl) (by decide) (by decide) (fun V_ hV hVh => by show KT Z own_K7 V_.vm V_.heap; rw [hVh]; exact Ks48.at_ (s := s) hV)) (g := (mkF m 90 #[vi x0, vi x1, vi x2, vi (7 : Int32), vi tv, vi hv, vr b1, .unset] [(.int x2), (.int x1), (.int hv), (.int (7 : Int32)), (.int (4 : Int32)), (.int (4 : Int32)), (.ref b1)])) rfl (by rw [hml]; rfl) (argsL := [(.int (4 : Int32)), (.int (7 : Int32)), (.int hv), (.int x1), (.int x2)]) (rest := [(.int (4 : Int32)), (.ref b1)]) (lenOf pd_21 rfl) rfl (by show 2 * 0 + _ ≤ _; exact Nat.le_of_eq rfl) (hb hby at_90) (fun _ _ => ⟨rfl, e41, (by decide : 3 + 0 ≤ _), (by decide : 46 + 0 ≤ _)⟩)
    dsimp only [Pt.U, Pt.locs, Pt.cells, Pt.slots] at X46 l46 y46 z46 st46 hQ46 Si46 hKv46 hKh46
    replace l46 := l46.symm
    subst l46 y46 z46
    obtain ⟨rfl, N46q, K46⟩ := hQ46
    have N46 := Fr.app N41 N46q
    refine Goes.via st46 ?_
    obtain ⟨X46', SI46, hZ, hown⟩ := rebS SI36 sk49 X46 Si46 K46.1 hZ hown
    have Ks46 : KT Z own_K7 T46.vm T46.heap := by rw [← hKv46, ← hKh46]; exact hK46
    show Goes p e below _ (T46.setTop (mkF m 93 #[vi x0, vi x1, vi x2, vi (7 : Int32), vi tv, vi hv, vr b1, .unset] [(.int (own_g7 4 &&& (255 : Int32))), (.int (4 : Int32)), (.ref b1)]))
    rw [show (own_g7 4 &&& (255 : Int32)) = (58 : Int32) by decide]
    show Goes p e below _ (T46.setTop (mkF m 93 #[vi x0, vi x1, vi x2, vi (7 : Int32), vi tv, vi hv, vr b1, .unset] [(.int (58 : Int32)), (.int (4 : Int32)), (.ref b1)]))
    have f50 : Arw Z T46.heap b1 k1 .char 14 (own_upd (own_upd (own_upd (own_upd (fun _ => (.int 0)) 0 (.int (nar .char (104 : Int32)))) 1 (.int (nar .char (116 : Int32)))) 2 (.int (nar .char (116 : Int32)))) 3 (.int (nar .char (112 : Int32)))) := (A41.keep K46 nin0)
    obtain ⟨T51, h51, X51, e51, W51, A51, st51⟩ := own_castore X46' hx hZ rfl f50 (j := (4 : Int32)) (i := 4) (by decide) (by decide) (by first | decide | omega | (dsimp only; omega)) (g := (mkF m 93 #[vi x0, vi x1, vi x2, vi (7 : Int32), vi tv, vi hv, vr b1, .unset] [(.int (58 : Int32)), (.int (4 : Int32)), (.ref b1)])) rfl rfl (hb hby at_93)
    refine Goes.via st51 ?_
    have N51 := Fr.snoc X51 N46 gn_b1
    show Goes p e below _ (T51.setTop (mkF m 94 #[vi x0, vi x1, vi x2, vi (7 : Int32), vi tv, vi hv, vr b1, .unset] []))
    refine gAL X51 hx hby at_94 rfl rfl ?_
    refine gIC (z := 5) X51 hx hby at_96 rfl ?_
    refine gIC (z := 5) X51 hx hby at_97 rfl ?_
    refine gILN X51 hx hby at_98 rfl ?_
    refine gIL X51 hx hby at_99 rfl ?_
    refine gILN X51 hx hby at_101 rfl ?_
    refine gILN X51 hx hby at_102 rfl ?_
    have K52 : Keep h0 h51 [] := ((K42.trans K46 all0).wr W51 (Or.inr sz_b1))
    have f53 : Sta Z h51 "java/lang/String" "COMPACT_STRINGS" "Z" (.int cS) := own_sta_keep OS K52
    have f54 : Sta Z h51 "jdk/internal/util/Preconditions" "SIOOBE_FORMATTER" "Ljava/util/function/BiFunction;" fo := own_sta_keep OF K52
    have ol55 : Old Z n0 (h51) := ((ol45.keep K46 all0).wr W51 gn_b1)
    have z57 : h0.size ≤ (h51).size := (Nat.le_trans (Nat.le_trans z47 K46.1) (Nat.le_of_eq W51.size.symm))
    have Ks58 : KT Z own_K7 T46.vm (h51) := (Ks46.wr W51 (NoS.arr f50 (own_w hw 7 rfl) (by intro q; cases q)))
    have sk59 : _ ≤ (h51).size := (Nat.le_trans (Nat.le_refl _) (Nat.le_of_eq W51.size.symm))
    obtain ⟨_, _, ⟨T56, L56, k56, n56⟩, -, ⟨X56, Si56⟩, ⟨Lc56, ⟨hQ56, tK56, hK56, hKv56, hKh56⟩, l56, y56, z56⟩, st56⟩ := own_callSW X51 hx (y := (⟨"com/example/lincra/lincra/UrlNormalizerPathAndQueryPinLaw", "at", "(IIIII)C"⟩ : MethodName)) hown (mvT hZ (own_w hw 1 rfl)) (mvT hZ (own_w hw 2 rfl)) (mvT hZ (own_w hw 3 rfl)) (mvT hZ (own_w hw 4 rfl)) (by decide) (own_backOfW (W := 2) (K := (fun U_ => KT Z own_K7 U_.vm U_.heap)) (KP := (fun U_ => KT Z own_K7 U_.vm U_.heap)) (rmA7g l Z a0 hw [] (5 : Int32) hv x1 x2 cS fo 5 h51 n0 (Nat.le_trans Z0 z57) (by decide) (by decide) (by decide) f53 H_cs f54 Hfo ol55 HW HC0 HC1 HC2 HC3 HC4) hZ (own_w hw 4 rfl) (own_w hw 3 rfl) (by decide) (by decide) (fun V_ hV hVh => by show KT Z own_K7 V_.vm V_.heap; rw [hVh]; exact Ks58.at_ (s := s) hV)) (g := (mkF m 103 #[vi x0, vi x1, vi x2, vi (7 : Int32), vi tv, vi hv, vr b1, .unset] [(.int x2), (.int x1), (.int hv), (.int (7 : Int32)), (.int (5 : Int32)), (.int (5 : Int32)), (.ref b1)])) rfl (by rw [hml]; rfl) (argsL := [(.int (5 : Int32)), (.int (7 : Int32)), (.int hv), (.int x1), (.int x2)]) (rest := [(.int (5 : Int32)), (.ref b1)]) (lenOf pd_21 rfl) rfl (by show 2 * 0 + _ ≤ _; exact Nat.le_of_eq rfl) (hb hby at_103) (fun _ _ => ⟨rfl, e51, (by decide : 3 + 0 ≤ _), (by decide : 46 + 0 ≤ _)⟩)
    dsimp only [Pt.U, Pt.locs, Pt.cells, Pt.slots] at X56 l56 y56 z56 st56 hQ56 Si56 hKv56 hKh56
    replace l56 := l56.symm
    subst l56 y56 z56
    obtain ⟨rfl, N56q, K56⟩ := hQ56
    have N56 := Fr.app N51 N56q
    refine Goes.via st56 ?_
    obtain ⟨X56', SI56, hZ, hown⟩ := rebS SI46 sk59 X56 Si56 K56.1 hZ hown
    have Ks56 : KT Z own_K7 T56.vm T56.heap := by rw [← hKv56, ← hKh56]; exact hK56
    show Goes p e below _ (T56.setTop (mkF m 106 #[vi x0, vi x1, vi x2, vi (7 : Int32), vi tv, vi hv, vr b1, .unset] [(.int (own_g7 5 &&& (255 : Int32))), (.int (5 : Int32)), (.ref b1)]))
    rw [show (own_g7 5 &&& (255 : Int32)) = (47 : Int32) by decide]
    show Goes p e below _ (T56.setTop (mkF m 106 #[vi x0, vi x1, vi x2, vi (7 : Int32), vi tv, vi hv, vr b1, .unset] [(.int (47 : Int32)), (.int (5 : Int32)), (.ref b1)]))
    have f60 : Arw Z T56.heap b1 k1 .char 14 (own_upd (own_upd (own_upd (own_upd (own_upd (fun _ => (.int 0)) 0 (.int (nar .char (104 : Int32)))) 1 (.int (nar .char (116 : Int32)))) 2 (.int (nar .char (116 : Int32)))) 3 (.int (nar .char (112 : Int32)))) 4 (.int (nar .char (58 : Int32)))) := (A51.keep K56 nin0)
    obtain ⟨T61, h61, X61, e61, W61, A61, st61⟩ := own_castore X56' hx hZ rfl f60 (j := (5 : Int32)) (i := 5) (by decide) (by decide) (by first | decide | omega | (dsimp only; omega)) (g := (mkF m 106 #[vi x0, vi x1, vi x2, vi (7 : Int32), vi tv, vi hv, vr b1, .unset] [(.int (47 : Int32)), (.int (5 : Int32)), (.ref b1)])) rfl rfl (hb hby at_106)
    refine Goes.via st61 ?_
    have N61 := Fr.snoc X61 N56 gn_b1
    show Goes p e below _ (T61.setTop (mkF m 107 #[vi x0, vi x1, vi x2, vi (7 : Int32), vi tv, vi hv, vr b1, .unset] []))
    refine gAL X61 hx hby at_107 rfl rfl ?_
    refine gBI (z := 6) X61 hx hby at_109 rfl ?_
    refine gBI (z := 6) X61 hx hby at_111 rfl ?_
    refine gILN X61 hx hby at_113 rfl ?_
    refine gIL X61 hx hby at_114 rfl ?_
    refine gILN X61 hx hby at_116 rfl ?_
    refine gILN X61 hx hby at_117 rfl ?_
    have K62 : Keep h0 h61 [] := ((K52.trans K56 all0).wr W61 (Or.inr sz_b1))
    have f63 : Sta Z h61 "java/lang/String" "COMPACT_STRINGS" "Z" (.int cS) := own_sta_keep OS K62
    have f64 : Sta Z h61 "jdk/internal/util/Preconditions" "SIOOBE_FORMATTER" "Ljava/util/function/BiFunction;" fo := own_sta_keep OF K62
    have ol65 : Old Z n0 (h61) := ((ol55.keep K56 all0).wr W61 gn_b1)
    have z67 : h0.size ≤ (h61).size := (Nat.le_trans (Nat.le_trans z57 K56.1) (Nat.le_of_eq W61.size.symm))
    have Ks68 : KT Z own_K7 T56.vm (h61) := (Ks56.wr W61 (NoS.arr f60 (own_w hw 7 rfl) (by intro q; cases q)))
    have sk69 : _ ≤ (h61).size := (Nat.le_trans (Nat.le_refl _) (Nat.le_of_eq W61.size.symm))
    obtain ⟨_, _, ⟨T66, L66, k66, n66⟩, -, ⟨X66, Si66⟩, ⟨Lc66, ⟨hQ66, tK66, hK66, hKv66, hKh66⟩, l66, y66, z66⟩, st66⟩ := own_callSW X61 hx (y := (⟨"com/example/lincra/lincra/UrlNormalizerPathAndQueryPinLaw", "at", "(IIIII)C"⟩ : MethodName)) hown (mvT hZ (own_w hw 1 rfl)) (mvT hZ (own_w hw 2 rfl)) (mvT hZ (own_w hw 3 rfl)) (mvT hZ (own_w hw 4 rfl)) (by decide) (own_backOfW (W := 2) (K := (fun U_ => KT Z own_K7 U_.vm U_.heap)) (KP := (fun U_ => KT Z own_K7 U_.vm U_.heap)) (rmA7g l Z a0 hw [] (6 : Int32) hv x1 x2 cS fo 6 h61 n0 (Nat.le_trans Z0 z67) (by decide) (by decide) (by decide) f63 H_cs f64 Hfo ol65 HW HC0 HC1 HC2 HC3 HC4) hZ (own_w hw 4 rfl) (own_w hw 3 rfl) (by decide) (by decide) (fun V_ hV hVh => by show KT Z own_K7 V_.vm V_.heap; rw [hVh]; exact Ks68.at_ (s := s) hV)) (g := (mkF m 118 #[vi x0, vi x1, vi x2, vi (7 : Int32), vi tv, vi hv, vr b1, .unset] [(.int x2), (.int x1), (.int hv), (.int (7 : Int32)), (.int (6 : Int32)), (.int (6 : Int32)), (.ref b1)])) rfl (by rw [hml]; rfl) (argsL := [(.int (6 : Int32)), (.int (7 : Int32)), (.int hv), (.int x1), (.int x2)]) (rest := [(.int (6 : Int32)), (.ref b1)]) (lenOf pd_21 rfl) rfl (by show 2 * 0 + _ ≤ _; exact Nat.le_of_eq rfl) (hb hby at_118) (fun _ _ => ⟨rfl, e61, (by decide : 3 + 0 ≤ _), (by decide : 46 + 0 ≤ _)⟩)
    dsimp only [Pt.U, Pt.locs, Pt.cells, Pt.slots] at X66 l66 y66 z66 st66 hQ66 Si66 hKv66 hKh66
    replace l66 := l66.symm
    subst l66 y66 z66
    obtain ⟨rfl, N66q, K66⟩ := hQ66
    have N66 := Fr.app N61 N66q
    refine Goes.via st66 ?_
    obtain ⟨X66', SI66, hZ, hown⟩ := rebS SI56 sk69 X66 Si66 K66.1 hZ hown
    have Ks66 : KT Z own_K7 T66.vm T66.heap := by rw [← hKv66, ← hKh66]; exact hK66
    show Goes p e below _ (T66.setTop (mkF m 121 #[vi x0, vi x1, vi x2, vi (7 : Int32), vi tv, vi hv, vr b1, .unset] [(.int (own_g7 6 &&& (255 : Int32))), (.int (6 : Int32)), (.ref b1)]))
    rw [show (own_g7 6 &&& (255 : Int32)) = (47 : Int32) by decide]
    show Goes p e below _ (T66.setTop (mkF m 121 #[vi x0, vi x1, vi x2, vi (7 : Int32), vi tv, vi hv, vr b1, .unset] [(.int (47 : Int32)), (.int (6 : Int32)), (.ref b1)]))
    have f70 : Arw Z T66.heap b1 k1 .char 14 (own_upd (own_upd (own_upd (own_upd (own_upd (own_upd (fun _ => (.int 0)) 0 (.int (nar .char (104 : Int32)))) 1 (.int (nar .char (116 : Int32)))) 2 (.int (nar .char (116 : Int32)))) 3 (.int (nar .char (112 : Int32)))) 4 (.int (nar .char (58 : Int32)))) 5 (.int (nar .char (47 : Int32)))) := (A61.keep K66 nin0)
    obtain ⟨T71, h71, X71, e71, W71, A71, st71⟩ := own_castore X66' hx hZ rfl f70 (j := (6 : Int32)) (i := 6) (by decide) (by decide) (by first | decide | omega | (dsimp only; omega)) (g := (mkF m 121 #[vi x0, vi x1, vi x2, vi (7 : Int32), vi tv, vi hv, vr b1, .unset] [(.int (47 : Int32)), (.int (6 : Int32)), (.ref b1)])) rfl rfl (hb hby at_121)
    refine Goes.via st71 ?_
    have N71 := Fr.snoc X71 N66 gn_b1
    show Goes p e below _ (T71.setTop (mkF m 122 #[vi x0, vi x1, vi x2, vi (7 : Int32), vi tv, vi hv, vr b1, .unset] []))
    refine gAL X71 hx hby at_122 rfl rfl ?_
    refine gBI (z := 7) X71 hx hby at_124 rfl ?_
    refine gBI (z := 7) X71 hx hby at_126 rfl ?_
    refine gILN X71 hx hby at_128 rfl ?_
    refine gIL X71 hx hby at_129 rfl ?_
    refine gILN X71 hx hby at_131 rfl ?_
    refine gILN X71 hx hby at_132 rfl ?_
    have K72 : Keep h0 h71 [] := ((K62.trans K66 all0).wr W71 (Or.inr sz_b1))
    have f73 : Sta Z h71 "java/lang/String" "COMPACT_STRINGS" "Z" (.int cS) := own_sta_keep OS K72
    have f74 : Sta Z h71 "jdk/internal/util/Preconditions" "SIOOBE_FORMATTER" "Ljava/util/function/BiFunction;" fo := own_sta_keep OF K72
    have ol75 : Old Z n0 (h71) := ((ol65.keep K66 all0).wr W71 gn_b1)
    have z77 : h0.size ≤ (h71).size := (Nat.le_trans (Nat.le_trans z67 K66.1) (Nat.le_of_eq W71.size.symm))
    have Ks78 : KT Z own_K7 T66.vm (h71) := (Ks66.wr W71 (NoS.arr f70 (own_w hw 7 rfl) (by intro q; cases q)))
    have sk79 : _ ≤ (h71).size := (Nat.le_trans (Nat.le_refl _) (Nat.le_of_eq W71.size.symm))
    obtain ⟨_, _, ⟨T76, L76, k76, n76⟩, -, ⟨X76, Si76⟩, ⟨Lc76, ⟨hQ76, tK76, hK76, hKv76, hKh76⟩, l76, y76, z76⟩, st76⟩ := own_callSW X71 hx (y := (⟨"com/example/lincra/lincra/UrlNormalizerPathAndQueryPinLaw", "at", "(IIIII)C"⟩ : MethodName)) hown (mvT hZ (own_w hw 1 rfl)) (mvT hZ (own_w hw 2 rfl)) (mvT hZ (own_w hw 3 rfl)) (mvT hZ (own_w hw 4 rfl)) (by decide) (own_backOfW (W := 2) (K := (fun U_ => KT Z own_K0 U_.vm U_.heap)) (KP := (fun U_ => KT Z own_K0 U_.vm U_.heap)) (rmA7r l Z a0 hw [] (7 : Int32) hv x1 x2 cS fo h71 n0 (Nat.le_trans Z0 z77) (by decide) f73 H_cs f74 Hfo ol75 HW HC0 HC1 HC2 HC3 HC4) hZ (own_w hw 4 rfl) (own_w hw 3 rfl) (by decide) (by decide) (fun V_ hV hVh => by show KT Z own_K0 V_.vm V_.heap; rw [hVh]; exact (KT.less Ks78).at_ (s := s) hV)) (g := (mkF m 133 #[vi x0, vi x1, vi x2, vi (7 : Int32), vi tv, vi hv, vr b1, .unset] [(.int x2), (.int x1), (.int hv), (.int (7 : Int32)), (.int (7 : Int32)), (.int (7 : Int32)), (.ref b1)])) rfl (by rw [hml]; rfl) (argsL := [(.int (7 : Int32)), (.int (7 : Int32)), (.int hv), (.int x1), (.int x2)]) (rest := [(.int (7 : Int32)), (.ref b1)]) (lenOf pd_21 rfl) rfl (by show 2 * 0 + _ ≤ _; exact Nat.le_of_eq rfl) (hb hby at_133) (fun _ _ => ⟨rfl, e71, (by decide : 3 + 2 ≤ _), (by decide : 46 + 132 ≤ _)⟩)
    dsimp only [Pt.U, Pt.locs, Pt.cells, Pt.slots] at X76 l76 y76 z76 st76 hQ76 Si76 hKv76 hKh76
    replace l76 := l76.symm
    subst l76 y76 z76
    obtain ⟨rfl, N76q, K76⟩ := hQ76
    have N76 := Fr.app N71 N76q
    refine Goes.via st76 ?_
    obtain ⟨X76', SI76, hZ, hown⟩ := rebS SI66 sk79 X76 Si76 K76.1 hZ hown
    have Ks76 : KT Z own_K0 T76.vm T76.heap := by rw [← hKv76, ← hKh76]; exact hK76
    show Goes p e below _ (T76.setTop (mkF m 136 #[vi x0, vi x1, vi x2, vi (7 : Int32), vi tv, vi hv, vr b1, .unset] [(.int (if (7 : Int32) < ((7 : Int32) + hv) then own_hc x1 ((7 : Int32) - (7 : Int32)) else if (7 : Int32) = ((7 : Int32) + hv) then (47 : Int32) else own_pc x2 ((((7 : Int32) - (7 : Int32)) - hv) - (1 : Int32)))), (.int (7 : Int32)), (.ref b1)]))
    obtain ⟨u7, e7⟩ : ∃ z, z = (if (7 : Int32) < ((7 : Int32) + hv) then own_hc x1 ((7 : Int32) - (7 : Int32)) else if (7 : Int32) = ((7 : Int32) + hv) then (47 : Int32) else own_pc x2 ((((7 : Int32) - (7 : Int32)) - hv) - (1 : Int32))) := ⟨_, rfl⟩
    rw [← e7]
    show Goes p e below _ (T76.setTop (mkF m 136 #[vi x0, vi x1, vi x2, vi (7 : Int32), vi tv, vi hv, vr b1, .unset] [(.int u7), (.int (7 : Int32)), (.ref b1)]))
    have f80 : Arw Z T76.heap b1 k1 .char 14 (own_upd (own_upd (own_upd (own_upd (own_upd (own_upd (own_upd (fun _ => (.int 0)) 0 (.int (nar .char (104 : Int32)))) 1 (.int (nar .char (116 : Int32)))) 2 (.int (nar .char (116 : Int32)))) 3 (.int (nar .char (112 : Int32)))) 4 (.int (nar .char (58 : Int32)))) 5 (.int (nar .char (47 : Int32)))) 6 (.int (nar .char (47 : Int32)))) := (A71.keep K76 nin0)
    obtain ⟨T81, h81, X81, e81, W81, A81, st81⟩ := own_castore X76' hx hZ rfl f80 (j := (7 : Int32)) (i := 7) (by decide) (by decide) (by first | decide | omega | (dsimp only; omega)) (g := (mkF m 136 #[vi x0, vi x1, vi x2, vi (7 : Int32), vi tv, vi hv, vr b1, .unset] [(.int u7), (.int (7 : Int32)), (.ref b1)])) rfl rfl (hb hby at_136)
    refine Goes.via st81 ?_
    have N81 := Fr.snoc X81 N76 gn_b1
    show Goes p e below _ (T81.setTop (mkF m 137 #[vi x0, vi x1, vi x2, vi (7 : Int32), vi tv, vi hv, vr b1, .unset] []))
    refine gAL X81 hx hby at_137 rfl rfl ?_
    refine gBI (z := 8) X81 hx hby at_139 rfl ?_
    refine gBI (z := 8) X81 hx hby at_141 rfl ?_
    refine gILN X81 hx hby at_143 rfl ?_
    refine gIL X81 hx hby at_144 rfl ?_
    refine gILN X81 hx hby at_146 rfl ?_
    refine gILN X81 hx hby at_147 rfl ?_
    have K82 : Keep h0 h81 [] := ((K72.trans K76 all0).wr W81 (Or.inr sz_b1))
    have f83 : Sta Z h81 "java/lang/String" "COMPACT_STRINGS" "Z" (.int cS) := own_sta_keep OS K82
    have f84 : Sta Z h81 "jdk/internal/util/Preconditions" "SIOOBE_FORMATTER" "Ljava/util/function/BiFunction;" fo := own_sta_keep OF K82
    have ol85 : Old Z n0 (h81) := ((ol75.keep K76 all0).wr W81 gn_b1)
    have z87 : h0.size ≤ (h81).size := (Nat.le_trans (Nat.le_trans z77 K76.1) (Nat.le_of_eq W81.size.symm))
    have Ks88 : KT Z own_K0 T76.vm (h81) := (Ks76.wr W81 (NoS.arr f80 (own_w hw 7 rfl) (by intro q; cases q)))
    have sk89 : _ ≤ (h81).size := (Nat.le_trans (Nat.le_refl _) (Nat.le_of_eq W81.size.symm))
    obtain ⟨_, _, ⟨T86, L86, k86, n86⟩, -, ⟨X86, Si86⟩, ⟨Lc86, ⟨hQ86, tK86, hK86, hKv86, hKh86⟩, l86, y86, z86⟩, st86⟩ := own_callSW X81 hx (y := (⟨"com/example/lincra/lincra/UrlNormalizerPathAndQueryPinLaw", "at", "(IIIII)C"⟩ : MethodName)) hown (mvT hZ (own_w hw 1 rfl)) (mvT hZ (own_w hw 2 rfl)) (mvT hZ (own_w hw 3 rfl)) (mvT hZ (own_w hw 4 rfl)) (by decide) (own_backOfW (W := 2) (K := (fun U_ => KT Z own_K0 U_.vm U_.heap)) (KP := (fun U_ => KT Z own_K0 U_.vm U_.heap)) (rmA7r l Z a0 hw [] (8 : Int32) hv x1 x2 cS fo h81 n0 (Nat.le_trans Z0 z87) (by decide) f83 H_cs f84 Hfo ol85 HW HC0 HC1 HC2 HC3 HC4) hZ (own_w hw 4 rfl) (own_w hw 3 rfl) (by decide) (by decide) (fun V_ hV hVh => by show KT Z own_K0 V_.vm V_.heap; rw [hVh]; exact Ks88.at_ (s := s) hV)) (g := (mkF m 148 #[vi x0, vi x1, vi x2, vi (7 : Int32), vi tv, vi hv, vr b1, .unset] [(.int x2), (.int x1), (.int hv), (.int (7 : Int32)), (.int (8 : Int32)), (.int (8 : Int32)), (.ref b1)])) rfl (by rw [hml]; rfl) (argsL := [(.int (8 : Int32)), (.int (7 : Int32)), (.int hv), (.int x1), (.int x2)]) (rest := [(.int (8 : Int32)), (.ref b1)]) (lenOf pd_21 rfl) rfl (by show 2 * 0 + _ ≤ _; exact Nat.le_of_eq rfl) (hb hby at_148) (fun _ _ => ⟨rfl, e81, (by decide : 5 + 2 ≤ _), (by decide : 178 + 132 ≤ _)⟩)
    dsimp only [Pt.U, Pt.locs, Pt.cells, Pt.slots] at X86 l86 y86 z86 st86 hQ86 Si86 hKv86 hKh86
    replace l86 := l86.symm
    subst l86 y86 z86
    obtain ⟨rfl, N86q, K86⟩ := hQ86
    have N86 := Fr.app N81 N86q
    refine Goes.via st86 ?_
    obtain ⟨X86', SI86, hZ, hown⟩ := rebS SI76 sk89 X86 Si86 K86.1 hZ hown
    have Ks86 : KT Z own_K0 T86.vm T86.heap := by rw [← hKv86, ← hKh86]; exact hK86
    show Goes p e below _ (T86.setTop (mkF m 151 #[vi x0, vi x1, vi x2, vi (7 : Int32), vi tv, vi hv, vr b1, .unset] [(.int (if (8 : Int32) < ((7 : Int32) + hv) then own_hc x1 ((8 : Int32) - (7 : Int32)) else if (8 : Int32) = ((7 : Int32) + hv) then (47 : Int32) else own_pc x2 ((((8 : Int32) - (7 : Int32)) - hv) - (1 : Int32)))), (.int (8 : Int32)), (.ref b1)]))
    obtain ⟨u8, e8⟩ : ∃ z, z = (if (8 : Int32) < ((7 : Int32) + hv) then own_hc x1 ((8 : Int32) - (7 : Int32)) else if (8 : Int32) = ((7 : Int32) + hv) then (47 : Int32) else own_pc x2 ((((8 : Int32) - (7 : Int32)) - hv) - (1 : Int32))) := ⟨_, rfl⟩
    rw [← e8]
    show Goes p e below _ (T86.setTop (mkF m 151 #[vi x0, vi x1, vi x2, vi (7 : Int32), vi tv, vi hv, vr b1, .unset] [(.int u8), (.int (8 : Int32)), (.ref b1)]))
    have f90 : Arw Z T86.heap b1 k1 .char 14 (own_upd (own_upd (own_upd (own_upd (own_upd (own_upd (own_upd (own_upd (fun _ => (.int 0)) 0 (.int (nar .char (104 : Int32)))) 1 (.int (nar .char (116 : Int32)))) 2 (.int (nar .char (116 : Int32)))) 3 (.int (nar .char (112 : Int32)))) 4 (.int (nar .char (58 : Int32)))) 5 (.int (nar .char (47 : Int32)))) 6 (.int (nar .char (47 : Int32)))) 7 (.int (nar .char u7))) := (A81.keep K86 nin0)
    obtain ⟨T91, h91, X91, e91, W91, A91, st91⟩ := own_castore X86' hx hZ rfl f90 (j := (8 : Int32)) (i := 8) (by decide) (by decide) (by first | decide | omega | (dsimp only; omega)) (g := (mkF m 151 #[vi x0, vi x1, vi x2, vi (7 : Int32), vi tv, vi hv, vr b1, .unset] [(.int u8), (.int (8 : Int32)), (.ref b1)])) rfl rfl (hb hby at_151)
    refine Goes.via st91 ?_
    have N91 := Fr.snoc X91 N86 gn_b1
    show Goes p e below _ (T91.setTop (mkF m 152 #[vi x0, vi x1, vi x2, vi (7 : Int32), vi tv, vi hv, vr b1, .unset] []))
    refine gAL X91 hx hby at_152 rfl rfl ?_
    refine gBI (z := 9) X91 hx hby at_154 rfl ?_
    refine gBI (z := 9) X91 hx hby at_156 rfl ?_
    refine gILN X91 hx hby at_158 rfl ?_
    refine gIL X91 hx hby at_159 rfl ?_
    refine gILN X91 hx hby at_161 rfl ?_
    refine gILN X91 hx hby at_162 rfl ?_
    have K92 : Keep h0 h91 [] := ((K82.trans K86 all0).wr W91 (Or.inr sz_b1))
    have f93 : Sta Z h91 "java/lang/String" "COMPACT_STRINGS" "Z" (.int cS) := own_sta_keep OS K92
    have f94 : Sta Z h91 "jdk/internal/util/Preconditions" "SIOOBE_FORMATTER" "Ljava/util/function/BiFunction;" fo := own_sta_keep OF K92
    have ol95 : Old Z n0 (h91) := ((ol85.keep K86 all0).wr W91 gn_b1)
    have z97 : h0.size ≤ (h91).size := (Nat.le_trans (Nat.le_trans z87 K86.1) (Nat.le_of_eq W91.size.symm))
    have Ks98 : KT Z own_K0 T86.vm (h91) := (Ks86.wr W91 (NoS.arr f90 (own_w hw 7 rfl) (by intro q; cases q)))
    have sk99 : _ ≤ (h91).size := (Nat.le_trans (Nat.le_refl _) (Nat.le_of_eq W91.size.symm))
    obtain ⟨_, _, ⟨T96, L96, k96, n96⟩, -, ⟨X96, Si96⟩, ⟨Lc96, ⟨hQ96, tK96, hK96, hKv96, hKh96⟩, l96, y96, z96⟩, st96⟩ := own_callSW X91 hx (y := (⟨"com/example/lincra/lincra/UrlNormalizerPathAndQueryPinLaw", "at", "(IIIII)C"⟩ : MethodName)) hown (mvT hZ (own_w hw 1 rfl)) (mvT hZ (own_w hw 2 rfl)) (mvT hZ (own_w hw 3 rfl)) (mvT hZ (own_w hw 4 rfl)) (by decide) (own_backOfW (W := 2) (K := (fun U_ => KT Z own_K0 U_.vm U_.heap)) (KP := (fun U_ => KT Z own_K0 U_.vm U_.heap)) (rmA7r l Z a0 hw [] (9 : Int32) hv x1 x2 cS fo h91 n0 (Nat.le_trans Z0 z97) (by decide) f93 H_cs f94 Hfo ol95 HW HC0 HC1 HC2 HC3 HC4) hZ (own_w hw 4 rfl) (own_w hw 3 rfl) (by decide) (by decide) (fun V_ hV hVh => by show KT Z own_K0 V_.vm V_.heap; rw [hVh]; exact Ks98.at_ (s := s) hV)) (g := (mkF m 163 #[vi x0, vi x1, vi x2, vi (7 : Int32), vi tv, vi hv, vr b1, .unset] [(.int x2), (.int x1), (.int hv), (.int (7 : Int32)), (.int (9 : Int32)), (.int (9 : Int32)), (.ref b1)])) rfl (by rw [hml]; rfl) (argsL := [(.int (9 : Int32)), (.int (7 : Int32)), (.int hv), (.int x1), (.int x2)]) (rest := [(.int (9 : Int32)), (.ref b1)]) (lenOf pd_21 rfl) rfl (by show 2 * 0 + _ ≤ _; exact Nat.le_of_eq rfl) (hb hby at_163) (fun _ _ => ⟨rfl, e91, (by decide : 7 + 2 ≤ _), (by decide : 310 + 132 ≤ _)⟩)
    dsimp only [Pt.U, Pt.locs, Pt.cells, Pt.slots] at X96 l96 y96 z96 st96 hQ96 Si96 hKv96 hKh96
    replace l96 := l96.symm
    subst l96 y96 z96
    obtain ⟨rfl, N96q, K96⟩ := hQ96
    have N96 := Fr.app N91 N96q
    refine Goes.via st96 ?_
    obtain ⟨X96', SI96, hZ, hown⟩ := rebS SI86 sk99 X96 Si96 K96.1 hZ hown
    have Ks96 : KT Z own_K0 T96.vm T96.heap := by rw [← hKv96, ← hKh96]; exact hK96
    show Goes p e below _ (T96.setTop (mkF m 166 #[vi x0, vi x1, vi x2, vi (7 : Int32), vi tv, vi hv, vr b1, .unset] [(.int (if (9 : Int32) < ((7 : Int32) + hv) then own_hc x1 ((9 : Int32) - (7 : Int32)) else if (9 : Int32) = ((7 : Int32) + hv) then (47 : Int32) else own_pc x2 ((((9 : Int32) - (7 : Int32)) - hv) - (1 : Int32)))), (.int (9 : Int32)), (.ref b1)]))
    obtain ⟨u9, e9⟩ : ∃ z, z = (if (9 : Int32) < ((7 : Int32) + hv) then own_hc x1 ((9 : Int32) - (7 : Int32)) else if (9 : Int32) = ((7 : Int32) + hv) then (47 : Int32) else own_pc x2 ((((9 : Int32) - (7 : Int32)) - hv) - (1 : Int32))) := ⟨_, rfl⟩
    rw [← e9]
    show Goes p e below _ (T96.setTop (mkF m 166 #[vi x0, vi x1, vi x2, vi (7 : Int32), vi tv, vi hv, vr b1, .unset] [(.int u9), (.int (9 : Int32)), (.ref b1)]))
    have f100 : Arw Z T96.heap b1 k1 .char 14 (own_upd (own_upd (own_upd (own_upd (own_upd (own_upd (own_upd (own_upd (own_upd (fun _ => (.int 0)) 0 (.int (nar .char (104 : Int32)))) 1 (.int (nar .char (116 : Int32)))) 2 (.int (nar .char (116 : Int32)))) 3 (.int (nar .char (112 : Int32)))) 4 (.int (nar .char (58 : Int32)))) 5 (.int (nar .char (47 : Int32)))) 6 (.int (nar .char (47 : Int32)))) 7 (.int (nar .char u7))) 8 (.int (nar .char u8))) := (A91.keep K96 nin0)
    obtain ⟨T101, h101, X101, e101, W101, A101, st101⟩ := own_castore X96' hx hZ rfl f100 (j := (9 : Int32)) (i := 9) (by decide) (by decide) (by first | decide | omega | (dsimp only; omega)) (g := (mkF m 166 #[vi x0, vi x1, vi x2, vi (7 : Int32), vi tv, vi hv, vr b1, .unset] [(.int u9), (.int (9 : Int32)), (.ref b1)])) rfl rfl (hb hby at_166)
    refine Goes.via st101 ?_
    have N101 := Fr.snoc X101 N96 gn_b1
    show Goes p e below _ (T101.setTop (mkF m 167 #[vi x0, vi x1, vi x2, vi (7 : Int32), vi tv, vi hv, vr b1, .unset] []))
    refine gAL X101 hx hby at_167 rfl rfl ?_
    refine gBI (z := 10) X101 hx hby at_169 rfl ?_
    refine gBI (z := 10) X101 hx hby at_171 rfl ?_
    refine gILN X101 hx hby at_173 rfl ?_
    refine gIL X101 hx hby at_174 rfl ?_
    refine gILN X101 hx hby at_176 rfl ?_
    refine gILN X101 hx hby at_177 rfl ?_
    have K102 : Keep h0 h101 [] := ((K92.trans K96 all0).wr W101 (Or.inr sz_b1))
    have f103 : Sta Z h101 "java/lang/String" "COMPACT_STRINGS" "Z" (.int cS) := own_sta_keep OS K102
    have f104 : Sta Z h101 "jdk/internal/util/Preconditions" "SIOOBE_FORMATTER" "Ljava/util/function/BiFunction;" fo := own_sta_keep OF K102
    have ol105 : Old Z n0 (h101) := ((ol95.keep K96 all0).wr W101 gn_b1)
    have z107 : h0.size ≤ (h101).size := (Nat.le_trans (Nat.le_trans z97 K96.1) (Nat.le_of_eq W101.size.symm))
    have Ks108 : KT Z own_K0 T96.vm (h101) := (Ks96.wr W101 (NoS.arr f100 (own_w hw 7 rfl) (by intro q; cases q)))
    have sk109 : _ ≤ (h101).size := (Nat.le_trans (Nat.le_refl _) (Nat.le_of_eq W101.size.symm))
    obtain ⟨_, _, ⟨T106, L106, k106, n106⟩, -, ⟨X106, Si106⟩, ⟨Lc106, ⟨hQ106, tK106, hK106, hKv106, hKh106⟩, l106, y106, z106⟩, st106⟩ := own_callSW X101 hx (y := (⟨"com/example/lincra/lincra/UrlNormalizerPathAndQueryPinLaw", "at", "(IIIII)C"⟩ : MethodName)) hown (mvT hZ (own_w hw 1 rfl)) (mvT hZ (own_w hw 2 rfl)) (mvT hZ (own_w hw 3 rfl)) (mvT hZ (own_w hw 4 rfl)) (by decide) (own_backOfW (W := 2) (K := (fun U_ => KT Z own_K0 U_.vm U_.heap)) (KP := (fun U_ => KT Z own_K0 U_.vm U_.heap)) (rmA7r l Z a0 hw [] (10 : Int32) hv x1 x2 cS fo h101 n0 (Nat.le_trans Z0 z107) (by decide) f103 H_cs f104 Hfo ol105 HW HC0 HC1 HC2 HC3 HC4) hZ (own_w hw 4 rfl) (own_w hw 3 rfl) (by decide) (by decide) (fun V_ hV hVh => by show KT Z own_K0 V_.vm V_.heap; rw [hVh]; exact Ks108.at_ (s := s) hV)) (g := (mkF m 178 #[vi x0, vi x1, vi x2, vi (7 : Int32), vi tv, vi hv, vr b1, .unset] [(.int x2), (.int x1), (.int hv), (.int (7 : Int32)), (.int (10 : Int32)), (.int (10 : Int32)), (.ref b1)])) rfl (by rw [hml]; rfl) (argsL := [(.int (10 : Int32)), (.int (7 : Int32)), (.int hv), (.int x1), (.int x2)]) (rest := [(.int (10 : Int32)), (.ref b1)]) (lenOf pd_21 rfl) rfl (by show 2 * 0 + _ ≤ _; exact Nat.le_of_eq rfl) (hb hby at_178) (fun _ _ => ⟨rfl, e101, (by decide : 9 + 2 ≤ _), (by decide : 442 + 132 ≤ _)⟩)
    dsimp only [Pt.U, Pt.locs, Pt.cells, Pt.slots] at X106 l106 y106 z106 st106 hQ106 Si106 hKv106 hKh106
    replace l106 := l106.symm
    subst l106 y106 z106
    obtain ⟨rfl, N106q, K106⟩ := hQ106
    have N106 := Fr.app N101 N106q
    refine Goes.via st106 ?_
    obtain ⟨X106', SI106, hZ, hown⟩ := rebS SI96 sk109 X106 Si106 K106.1 hZ hown
    have Ks106 : KT Z own_K0 T106.vm T106.heap := by rw [← hKv106, ← hKh106]; exact hK106
    show Goes p e below _ (T106.setTop (mkF m 181 #[vi x0, vi x1, vi x2, vi (7 : Int32), vi tv, vi hv, vr b1, .unset] [(.int (if (10 : Int32) < ((7 : Int32) + hv) then own_hc x1 ((10 : Int32) - (7 : Int32)) else if (10 : Int32) = ((7 : Int32) + hv) then (47 : Int32) else own_pc x2 ((((10 : Int32) - (7 : Int32)) - hv) - (1 : Int32)))), (.int (10 : Int32)), (.ref b1)]))
    obtain ⟨u10, e10⟩ : ∃ z, z = (if (10 : Int32) < ((7 : Int32) + hv) then own_hc x1 ((10 : Int32) - (7 : Int32)) else if (10 : Int32) = ((7 : Int32) + hv) then (47 : Int32) else own_pc x2 ((((10 : Int32) - (7 : Int32)) - hv) - (1 : Int32))) := ⟨_, rfl⟩
    rw [← e10]
    show Goes p e below _ (T106.setTop (mkF m 181 #[vi x0, vi x1, vi x2, vi (7 : Int32), vi tv, vi hv, vr b1, .unset] [(.int u10), (.int (10 : Int32)), (.ref b1)]))
    have f110 : Arw Z T106.heap b1 k1 .char 14 (own_upd (own_upd (own_upd (own_upd (own_upd (own_upd (own_upd (own_upd (own_upd (own_upd (fun _ => (.int 0)) 0 (.int (nar .char (104 : Int32)))) 1 (.int (nar .char (116 : Int32)))) 2 (.int (nar .char (116 : Int32)))) 3 (.int (nar .char (112 : Int32)))) 4 (.int (nar .char (58 : Int32)))) 5 (.int (nar .char (47 : Int32)))) 6 (.int (nar .char (47 : Int32)))) 7 (.int (nar .char u7))) 8 (.int (nar .char u8))) 9 (.int (nar .char u9))) := (A101.keep K106 nin0)
    obtain ⟨T111, h111, X111, e111, W111, A111, st111⟩ := own_castore X106' hx hZ rfl f110 (j := (10 : Int32)) (i := 10) (by decide) (by decide) (by first | decide | omega | (dsimp only; omega)) (g := (mkF m 181 #[vi x0, vi x1, vi x2, vi (7 : Int32), vi tv, vi hv, vr b1, .unset] [(.int u10), (.int (10 : Int32)), (.ref b1)])) rfl rfl (hb hby at_181)
    refine Goes.via st111 ?_
    have N111 := Fr.snoc X111 N106 gn_b1
    show Goes p e below _ (T111.setTop (mkF m 182 #[vi x0, vi x1, vi x2, vi (7 : Int32), vi tv, vi hv, vr b1, .unset] []))
    refine gAL X111 hx hby at_182 rfl rfl ?_
    refine gBI (z := 11) X111 hx hby at_184 rfl ?_
    refine gBI (z := 11) X111 hx hby at_186 rfl ?_
    refine gILN X111 hx hby at_188 rfl ?_
    refine gIL X111 hx hby at_189 rfl ?_
    refine gILN X111 hx hby at_191 rfl ?_
    refine gILN X111 hx hby at_192 rfl ?_
    have K112 : Keep h0 h111 [] := ((K102.trans K106 all0).wr W111 (Or.inr sz_b1))
    have f113 : Sta Z h111 "java/lang/String" "COMPACT_STRINGS" "Z" (.int cS) := own_sta_keep OS K112
    have f114 : Sta Z h111 "jdk/internal/util/Preconditions" "SIOOBE_FORMATTER" "Ljava/util/function/BiFunction;" fo := own_sta_keep OF K112
    have ol115 : Old Z n0 (h111) := ((ol105.keep K106 all0).wr W111 gn_b1)
    have z117 : h0.size ≤ (h111).size := (Nat.le_trans (Nat.le_trans z107 K106.1) (Nat.le_of_eq W111.size.symm))
    have Ks118 : KT Z own_K0 T106.vm (h111) := (Ks106.wr W111 (NoS.arr f110 (own_w hw 7 rfl) (by intro q; cases q)))
    have sk119 : _ ≤ (h111).size := (Nat.le_trans (Nat.le_refl _) (Nat.le_of_eq W111.size.symm))
    obtain ⟨_, _, ⟨T116, L116, k116, n116⟩, -, ⟨X116, Si116⟩, ⟨Lc116, ⟨hQ116, tK116, hK116, hKv116, hKh116⟩, l116, y116, z116⟩, st116⟩ := own_callSW X111 hx (y := (⟨"com/example/lincra/lincra/UrlNormalizerPathAndQueryPinLaw", "at", "(IIIII)C"⟩ : MethodName)) hown (mvT hZ (own_w hw 1 rfl)) (mvT hZ (own_w hw 2 rfl)) (mvT hZ (own_w hw 3 rfl)) (mvT hZ (own_w hw 4 rfl)) (by decide) (own_backOfW (W := 2) (K := (fun U_ => KT Z own_K0 U_.vm U_.heap)) (KP := (fun U_ => KT Z own_K0 U_.vm U_.heap)) (rmA7r l Z a0 hw [] (11 : Int32) hv x1 x2 cS fo h111 n0 (Nat.le_trans Z0 z117) (by decide) f113 H_cs f114 Hfo ol115 HW HC0 HC1 HC2 HC3 HC4) hZ (own_w hw 4 rfl) (own_w hw 3 rfl) (by decide) (by decide) (fun V_ hV hVh => by show KT Z own_K0 V_.vm V_.heap; rw [hVh]; exact Ks118.at_ (s := s) hV)) (g := (mkF m 193 #[vi x0, vi x1, vi x2, vi (7 : Int32), vi tv, vi hv, vr b1, .unset] [(.int x2), (.int x1), (.int hv), (.int (7 : Int32)), (.int (11 : Int32)), (.int (11 : Int32)), (.ref b1)])) rfl (by rw [hml]; rfl) (argsL := [(.int (11 : Int32)), (.int (7 : Int32)), (.int hv), (.int x1), (.int x2)]) (rest := [(.int (11 : Int32)), (.ref b1)]) (lenOf pd_21 rfl) rfl (by show 2 * 0 + _ ≤ _; exact Nat.le_of_eq rfl) (hb hby at_193) (fun _ _ => ⟨rfl, e111, (by decide : 11 + 2 ≤ _), (by decide : 574 + 132 ≤ _)⟩)
    dsimp only [Pt.U, Pt.locs, Pt.cells, Pt.slots] at X116 l116 y116 z116 st116 hQ116 Si116 hKv116 hKh116
    replace l116 := l116.symm
    subst l116 y116 z116
    obtain ⟨rfl, N116q, K116⟩ := hQ116
    have N116 := Fr.app N111 N116q
    refine Goes.via st116 ?_
    obtain ⟨X116', SI116, hZ, hown⟩ := rebS SI106 sk119 X116 Si116 K116.1 hZ hown
    have Ks116 : KT Z own_K0 T116.vm T116.heap := by rw [← hKv116, ← hKh116]; exact hK116
    show Goes p e below _ (T116.setTop (mkF m 196 #[vi x0, vi x1, vi x2, vi (7 : Int32), vi tv, vi hv, vr b1, .unset] [(.int (if (11 : Int32) < ((7 : Int32) + hv) then own_hc x1 ((11 : Int32) - (7 : Int32)) else if (11 : Int32) = ((7 : Int32) + hv) then (47 : Int32) else own_pc x2 ((((11 : Int32) - (7 : Int32)) - hv) - (1 : Int32)))), (.int (11 : Int32)), (.ref b1)]))
    obtain ⟨u11, e11⟩ : ∃ z, z = (if (11 : Int32) < ((7 : Int32) + hv) then own_hc x1 ((11 : Int32) - (7 : Int32)) else if (11 : Int32) = ((7 : Int32) + hv) then (47 : Int32) else own_pc x2 ((((11 : Int32) - (7 : Int32)) - hv) - (1 : Int32))) := ⟨_, rfl⟩
    rw [← e11]
    show Goes p e below _ (T116.setTop (mkF m 196 #[vi x0, vi x1, vi x2, vi (7 : Int32), vi tv, vi hv, vr b1, .unset] [(.int u11), (.int (11 : Int32)), (.ref b1)]))
    have f120 : Arw Z T116.heap b1 k1 .char 14 (own_upd (own_upd (own_upd (own_upd (own_upd (own_upd (own_upd (own_upd (own_upd (own_upd (own_upd (fun _ => (.int 0)) 0 (.int (nar .char (104 : Int32)))) 1 (.int (nar .char (116 : Int32)))) 2 (.int (nar .char (116 : Int32)))) 3 (.int (nar .char (112 : Int32)))) 4 (.int (nar .char (58 : Int32)))) 5 (.int (nar .char (47 : Int32)))) 6 (.int (nar .char (47 : Int32)))) 7 (.int (nar .char u7))) 8 (.int (nar .char u8))) 9 (.int (nar .char u9))) 10 (.int (nar .char u10))) := (A111.keep K116 nin0)
    obtain ⟨T121, h121, X121, e121, W121, A121, st121⟩ := own_castore X116' hx hZ rfl f120 (j := (11 : Int32)) (i := 11) (by decide) (by decide) (by first | decide | omega | (dsimp only; omega)) (g := (mkF m 196 #[vi x0, vi x1, vi x2, vi (7 : Int32), vi tv, vi hv, vr b1, .unset] [(.int u11), (.int (11 : Int32)), (.ref b1)])) rfl rfl (hb hby at_196)
    refine Goes.via st121 ?_
    have N121 := Fr.snoc X121 N116 gn_b1
    show Goes p e below _ (T121.setTop (mkF m 197 #[vi x0, vi x1, vi x2, vi (7 : Int32), vi tv, vi hv, vr b1, .unset] []))
    refine gAL X121 hx hby at_197 rfl rfl ?_
    refine gBI (z := 12) X121 hx hby at_199 rfl ?_
    refine gBI (z := 12) X121 hx hby at_201 rfl ?_
    refine gILN X121 hx hby at_203 rfl ?_
    refine gIL X121 hx hby at_204 rfl ?_
    refine gILN X121 hx hby at_206 rfl ?_
    refine gILN X121 hx hby at_207 rfl ?_
    have K122 : Keep h0 h121 [] := ((K112.trans K116 all0).wr W121 (Or.inr sz_b1))
    have f123 : Sta Z h121 "java/lang/String" "COMPACT_STRINGS" "Z" (.int cS) := own_sta_keep OS K122
    have f124 : Sta Z h121 "jdk/internal/util/Preconditions" "SIOOBE_FORMATTER" "Ljava/util/function/BiFunction;" fo := own_sta_keep OF K122
    have ol125 : Old Z n0 (h121) := ((ol115.keep K116 all0).wr W121 gn_b1)
    have z127 : h0.size ≤ (h121).size := (Nat.le_trans (Nat.le_trans z117 K116.1) (Nat.le_of_eq W121.size.symm))
    have Ks128 : KT Z own_K0 T116.vm (h121) := (Ks116.wr W121 (NoS.arr f120 (own_w hw 7 rfl) (by intro q; cases q)))
    have sk129 : _ ≤ (h121).size := (Nat.le_trans (Nat.le_refl _) (Nat.le_of_eq W121.size.symm))
    obtain ⟨_, _, ⟨T126, L126, k126, n126⟩, -, ⟨X126, Si126⟩, ⟨Lc126, ⟨hQ126, tK126, hK126, hKv126, hKh126⟩, l126, y126, z126⟩, st126⟩ := own_callSW X121 hx (y := (⟨"com/example/lincra/lincra/UrlNormalizerPathAndQueryPinLaw", "at", "(IIIII)C"⟩ : MethodName)) hown (mvT hZ (own_w hw 1 rfl)) (mvT hZ (own_w hw 2 rfl)) (mvT hZ (own_w hw 3 rfl)) (mvT hZ (own_w hw 4 rfl)) (by decide) (own_backOfW (W := 2) (K := (fun U_ => KT Z own_K0 U_.vm U_.heap)) (KP := (fun U_ => KT Z own_K0 U_.vm U_.heap)) (rmA7r l Z a0 hw [] (12 : Int32) hv x1 x2 cS fo h121 n0 (Nat.le_trans Z0 z127) (by decide) f123 H_cs f124 Hfo ol125 HW HC0 HC1 HC2 HC3 HC4) hZ (own_w hw 4 rfl) (own_w hw 3 rfl) (by decide) (by decide) (fun V_ hV hVh => by show KT Z own_K0 V_.vm V_.heap; rw [hVh]; exact Ks128.at_ (s := s) hV)) (g := (mkF m 208 #[vi x0, vi x1, vi x2, vi (7 : Int32), vi tv, vi hv, vr b1, .unset] [(.int x2), (.int x1), (.int hv), (.int (7 : Int32)), (.int (12 : Int32)), (.int (12 : Int32)), (.ref b1)])) rfl (by rw [hml]; rfl) (argsL := [(.int (12 : Int32)), (.int (7 : Int32)), (.int hv), (.int x1), (.int x2)]) (rest := [(.int (12 : Int32)), (.ref b1)]) (lenOf pd_21 rfl) rfl (by show 2 * 0 + _ ≤ _; exact Nat.le_of_eq rfl) (hb hby at_208) (fun _ _ => ⟨rfl, e121, (by decide : 13 + 2 ≤ _), (by decide : 706 + 132 ≤ _)⟩)
    dsimp only [Pt.U, Pt.locs, Pt.cells, Pt.slots] at X126 l126 y126 z126 st126 hQ126 Si126 hKv126 hKh126
    replace l126 := l126.symm
    subst l126 y126 z126
    obtain ⟨rfl, N126q, K126⟩ := hQ126
    have N126 := Fr.app N121 N126q
    refine Goes.via st126 ?_
    obtain ⟨X126', SI126, hZ, hown⟩ := rebS SI116 sk129 X126 Si126 K126.1 hZ hown
    have Ks126 : KT Z own_K0 T126.vm T126.heap := by rw [← hKv126, ← hKh126]; exact hK126
    show Goes p e below _ (T126.setTop (mkF m 211 #[vi x0, vi x1, vi x2, vi (7 : Int32), vi tv, vi hv, vr b1, .unset] [(.int (if (12 : Int32) < ((7 : Int32) + hv) then own_hc x1 ((12 : Int32) - (7 : Int32)) else if (12 : Int32) = ((7 : Int32) + hv) then (47 : Int32) else own_pc x2 ((((12 : Int32) - (7 : Int32)) - hv) - (1 : Int32)))), (.int (12 : Int32)), (.ref b1)]))
    obtain ⟨u12, e12⟩ : ∃ z, z = (if (12 : Int32) < ((7 : Int32) + hv) then own_hc x1 ((12 : Int32) - (7 : Int32)) else if (12 : Int32) = ((7 : Int32) + hv) then (47 : Int32) else own_pc x2 ((((12 : Int32) - (7 : Int32)) - hv) - (1 : Int32))) := ⟨_, rfl⟩
    rw [← e12]
    show Goes p e below _ (T126.setTop (mkF m 211 #[vi x0, vi x1, vi x2, vi (7 : Int32), vi tv, vi hv, vr b1, .unset] [(.int u12), (.int (12 : Int32)), (.ref b1)]))
    have f130 : Arw Z T126.heap b1 k1 .char 14 (own_upd (own_upd (own_upd (own_upd (own_upd (own_upd (own_upd (own_upd (own_upd (own_upd (own_upd (own_upd (fun _ => (.int 0)) 0 (.int (nar .char (104 : Int32)))) 1 (.int (nar .char (116 : Int32)))) 2 (.int (nar .char (116 : Int32)))) 3 (.int (nar .char (112 : Int32)))) 4 (.int (nar .char (58 : Int32)))) 5 (.int (nar .char (47 : Int32)))) 6 (.int (nar .char (47 : Int32)))) 7 (.int (nar .char u7))) 8 (.int (nar .char u8))) 9 (.int (nar .char u9))) 10 (.int (nar .char u10))) 11 (.int (nar .char u11))) := (A121.keep K126 nin0)
    obtain ⟨T131, h131, X131, e131, W131, A131, st131⟩ := own_castore X126' hx hZ rfl f130 (j := (12 : Int32)) (i := 12) (by decide) (by decide) (by first | decide | omega | (dsimp only; omega)) (g := (mkF m 211 #[vi x0, vi x1, vi x2, vi (7 : Int32), vi tv, vi hv, vr b1, .unset] [(.int u12), (.int (12 : Int32)), (.ref b1)])) rfl rfl (hb hby at_211)
    refine Goes.via st131 ?_
    have N131 := Fr.snoc X131 N126 gn_b1
    show Goes p e below _ (T131.setTop (mkF m 212 #[vi x0, vi x1, vi x2, vi (7 : Int32), vi tv, vi hv, vr b1, .unset] []))
    refine gAL X131 hx hby at_212 rfl rfl ?_
    refine gBI (z := 13) X131 hx hby at_214 rfl ?_
    refine gBI (z := 13) X131 hx hby at_216 rfl ?_
    refine gILN X131 hx hby at_218 rfl ?_
    refine gIL X131 hx hby at_219 rfl ?_
    refine gILN X131 hx hby at_221 rfl ?_
    refine gILN X131 hx hby at_222 rfl ?_
    have K132 : Keep h0 h131 [] := ((K122.trans K126 all0).wr W131 (Or.inr sz_b1))
    have f133 : Sta Z h131 "java/lang/String" "COMPACT_STRINGS" "Z" (.int cS) := own_sta_keep OS K132
    have f134 : Sta Z h131 "jdk/internal/util/Preconditions" "SIOOBE_FORMATTER" "Ljava/util/function/BiFunction;" fo := own_sta_keep OF K132
    have ol135 : Old Z n0 (h131) := ((ol125.keep K126 all0).wr W131 gn_b1)
    have z137 : h0.size ≤ (h131).size := (Nat.le_trans (Nat.le_trans z127 K126.1) (Nat.le_of_eq W131.size.symm))
    have Ks138 : KT Z own_K0 T126.vm (h131) := (Ks126.wr W131 (NoS.arr f130 (own_w hw 7 rfl) (by intro q; cases q)))
    have sk139 : _ ≤ (h131).size := (Nat.le_trans (Nat.le_refl _) (Nat.le_of_eq W131.size.symm))
    obtain ⟨_, _, ⟨T136, L136, k136, n136⟩, -, ⟨X136, Si136⟩, ⟨Lc136, ⟨hQ136, tK136, hK136, hKv136, hKh136⟩, l136, y136, z136⟩, st136⟩ := own_callSW X131 hx (y := (⟨"com/example/lincra/lincra/UrlNormalizerPathAndQueryPinLaw", "at", "(IIIII)C"⟩ : MethodName)) hown (mvT hZ (own_w hw 1 rfl)) (mvT hZ (own_w hw 2 rfl)) (mvT hZ (own_w hw 3 rfl)) (mvT hZ (own_w hw 4 rfl)) (by decide) (own_backOfW (W := 2) (K := (fun U_ => KT Z own_K0 U_.vm U_.heap)) (KP := (fun U_ => KT Z own_K0 U_.vm U_.heap)) (rmA7r l Z a0 hw [] (13 : Int32) hv x1 x2 cS fo h131 n0 (Nat.le_trans Z0 z137) (by decide) f133 H_cs f134 Hfo ol135 HW HC0 HC1 HC2 HC3 HC4) hZ (own_w hw 4 rfl) (own_w hw 3 rfl) (by decide) (by decide) (fun V_ hV hVh => by show KT Z own_K0 V_.vm V_.heap; rw [hVh]; exact Ks138.at_ (s := s) hV)) (g := (mkF m 223 #[vi x0, vi x1, vi x2, vi (7 : Int32), vi tv, vi hv, vr b1, .unset] [(.int x2), (.int x1), (.int hv), (.int (7 : Int32)), (.int (13 : Int32)), (.int (13 : Int32)), (.ref b1)])) rfl (by rw [hml]; rfl) (argsL := [(.int (13 : Int32)), (.int (7 : Int32)), (.int hv), (.int x1), (.int x2)]) (rest := [(.int (13 : Int32)), (.ref b1)]) (lenOf pd_21 rfl) rfl (by show 2 * 0 + _ ≤ _; exact Nat.le_of_eq rfl) (hb hby at_223) (fun _ _ => ⟨rfl, e131, (by decide : 15 + 2 ≤ _), (by decide : 838 + 132 ≤ _)⟩)
    dsimp only [Pt.U, Pt.locs, Pt.cells, Pt.slots] at X136 l136 y136 z136 st136 hQ136 Si136 hKv136 hKh136
    replace l136 := l136.symm
    subst l136 y136 z136
    obtain ⟨rfl, N136q, K136⟩ := hQ136
    have N136 := Fr.app N131 N136q
    refine Goes.via st136 ?_
    obtain ⟨X136', SI136, hZ, hown⟩ := rebS SI126 sk139 X136 Si136 K136.1 hZ hown
    have Ks136 : KT Z own_K0 T136.vm T136.heap := by rw [← hKv136, ← hKh136]; exact hK136
    show Goes p e below _ (T136.setTop (mkF m 226 #[vi x0, vi x1, vi x2, vi (7 : Int32), vi tv, vi hv, vr b1, .unset] [(.int (if (13 : Int32) < ((7 : Int32) + hv) then own_hc x1 ((13 : Int32) - (7 : Int32)) else if (13 : Int32) = ((7 : Int32) + hv) then (47 : Int32) else own_pc x2 ((((13 : Int32) - (7 : Int32)) - hv) - (1 : Int32)))), (.int (13 : Int32)), (.ref b1)]))
    obtain ⟨u13, e13⟩ : ∃ z, z = (if (13 : Int32) < ((7 : Int32) + hv) then own_hc x1 ((13 : Int32) - (7 : Int32)) else if (13 : Int32) = ((7 : Int32) + hv) then (47 : Int32) else own_pc x2 ((((13 : Int32) - (7 : Int32)) - hv) - (1 : Int32))) := ⟨_, rfl⟩
    rw [← e13]
    show Goes p e below _ (T136.setTop (mkF m 226 #[vi x0, vi x1, vi x2, vi (7 : Int32), vi tv, vi hv, vr b1, .unset] [(.int u13), (.int (13 : Int32)), (.ref b1)]))
    have f140 : Arw Z T136.heap b1 k1 .char 14 (own_upd (own_upd (own_upd (own_upd (own_upd (own_upd (own_upd (own_upd (own_upd (own_upd (own_upd (own_upd (own_upd (fun _ => (.int 0)) 0 (.int (nar .char (104 : Int32)))) 1 (.int (nar .char (116 : Int32)))) 2 (.int (nar .char (116 : Int32)))) 3 (.int (nar .char (112 : Int32)))) 4 (.int (nar .char (58 : Int32)))) 5 (.int (nar .char (47 : Int32)))) 6 (.int (nar .char (47 : Int32)))) 7 (.int (nar .char u7))) 8 (.int (nar .char u8))) 9 (.int (nar .char u9))) 10 (.int (nar .char u10))) 11 (.int (nar .char u11))) 12 (.int (nar .char u12))) := (A131.keep K136 nin0)
    obtain ⟨T141, h141, X141, e141, W141, A141, st141⟩ := own_castore X136' hx hZ rfl f140 (j := (13 : Int32)) (i := 13) (by decide) (by decide) (by first | decide | omega | (dsimp only; omega)) (g := (mkF m 226 #[vi x0, vi x1, vi x2, vi (7 : Int32), vi tv, vi hv, vr b1, .unset] [(.int u13), (.int (13 : Int32)), (.ref b1)])) rfl rfl (hb hby at_226)
    refine Goes.via st141 ?_
    have N141 := Fr.snoc X141 N136 gn_b1
    show Goes p e below _ (T141.setTop (mkF m 227 #[vi x0, vi x1, vi x2, vi (7 : Int32), vi tv, vi hv, vr b1, .unset] []))
    rcases htv with ht | ht | ht | ht
    · subst ht
      obtain rfl : hv = (6 : Int32) := hhv.trans (by decide)
      have f7 : u7 = own_hc x1 (0 : Int32) := e7.trans (if_pos (by decide))
      have c7 : own_C u7 ∧ ¬ u7 = (47 : Int32) := by rw [f7]; exact own_hcP _ _
      have f8 : u8 = own_hc x1 (1 : Int32) := e8.trans (if_pos (by decide))
      have c8 : own_C u8 ∧ ¬ u8 = (47 : Int32) := by rw [f8]; exact own_hcP _ _
      have f9 : u9 = own_hc x1 (2 : Int32) := e9.trans (if_pos (by decide))
      have c9 : own_C u9 ∧ ¬ u9 = (47 : Int32) := by rw [f9]; exact own_hcP _ _
      have f10 : u10 = own_hc x1 (3 : Int32) := e10.trans (if_pos (by decide))
      have c10 : own_C u10 ∧ ¬ u10 = (47 : Int32) := by rw [f10]; exact own_hcP _ _
      have f11 : u11 = own_hc x1 (4 : Int32) := e11.trans (if_pos (by decide))
      have c11 : own_C u11 ∧ ¬ u11 = (47 : Int32) := by rw [f11]; exact own_hcP _ _
      have f12 : u12 = own_hc x1 (5 : Int32) := e12.trans (if_pos (by decide))
      have c12 : own_C u12 ∧ ¬ u12 = (47 : Int32) := by rw [f12]; exact own_hcP _ _
      have f13 : u13 = (47 : Int32) := e13.trans ((if_neg (by decide)).trans (if_pos (by decide)))
      have c13 : own_C u13 ∧ True := ⟨by rw [f13]; decide, trivial⟩
      show Goes p e below _ (T141.setTop (mkF m 227 #[vi x0, vi x1, vi x2, vi (7 : Int32), vi (0 : Int32), vi (6 : Int32), vr b1, .unset] []))
      obtain ⟨T142, h142, X142, e142, E142, A142, D142, -, st142⟩ := newO X141 hx hZ hown (own_w hw 52 rfl) (own_w hw 7 rfl) (own_w hw 6 rfl) e141 (g := (mkF m 227 #[vi x0, vi x1, vi x2, vi (7 : Int32), vi (0 : Int32), vi (6 : Int32), vr b1, .unset] [])) rfl (hb hby at_227) (by first | decide | omega | (dsimp only; omega)) (by first | decide | omega | (dsimp only; omega))
      obtain ⟨b142, g142⟩ : ∃ z, z = (h141).size := ⟨_, rfl⟩
      rw [← g142] at A142 D142 st142
      have lne143 : b1 < b142 := Nat.lt_of_lt_of_le A141.lt (Nat.le_of_eq g142.symm)
      have ne143 : b1 ≠ b142 := Nat.ne_of_lt lne143
      have z144 : h0.size ≤ (h141).size := (Nat.le_trans (Nat.le_trans z137 K136.1) (Nat.le_of_eq W141.size.symm))
      have sz_b142 : h0.size ≤ b142 := Nat.le_trans z144 (Nat.le_of_eq g142.symm)
      have gn_b142 : n0 ≤ b142 := Nat.le_trans Z0 sz_b142
      have F_value_b142 : Fld Z h142 b142 "java/lang/String" "value" "[B" .null := D142 (Or.inr (own_w hw 9 rfl)) (ty := (.array .byte)) (by decide)
      have F_coder_b142 : Fld Z h142 b142 "java/lang/String" "coder" "B" (.int (0 : Int32)) := D142 (Or.inr (own_w hw 10 rfl)) (ty := .byte) (by decide)
      refine Goes.via st142 ?_
      show Goes p e below _ (T142.setTop (mkF m 230 #[vi x0, vi x1, vi x2, vi (7 : Int32), vi (0 : Int32), vi (6 : Int32), vr b1, .unset] [(.ref b142)]))
      refine gDU X142 hx hby at_230 rfl ?_
      refine gAL X142 hx hby at_231 rfl rfl ?_
      have f146 : Arw Z h142 b1 k1 .char 14 (own_upd (own_upd (own_upd (own_upd (own_upd (own_upd (own_upd (own_upd (own_upd (own_upd (own_upd (own_upd (own_upd (own_upd (fun _ => (.int 0)) 0 (.int (nar .char (104 : Int32)))) 1 (.int (nar .char (116 : Int32)))) 2 (.int (nar .char (116 : Int32)))) 3 (.int (nar .char (112 : Int32)))) 4 (.int (nar .char (58 : Int32)))) 5 (.int (nar .char (47 : Int32)))) 6 (.int (nar .char (47 : Int32)))) 7 (.int (nar .char u7))) 8 (.int (nar .char u8))) 9 (.int (nar .char u9))) 10 (.int (nar .char u10))) 11 (.int (nar .char u11))) 12 (.int (nar .char u12))) 13 (.int (nar .char u13))) := (A141.ext E142)
      have Va145 : Arv Z h142 b1 k1 .char (14 : Int32) ([(104 : Int32), (116 : Int32), (116 : Int32), (112 : Int32), (58 : Int32), (47 : Int32), (47 : Int32), u7, u8, u9, u10, u11, u12, u13].map Value.int) (.int (0 : Int32)) := f146.toArv (by decide) (by intro i hi; match i, hi with | 0, _ => rfl | 1, _ => rfl | 2, _ => rfl | 3, _ => rfl | 4, _ => rfl | 5, _ => rfl | 6, _ => rfl | 7, _ => exact (congrArg Value.int c7.1.1.symm).trans rfl | 8, _ => exact (congrArg Value.int c8.1.1.symm).trans rfl | 9, _ => exact (congrArg Value.int c9.1.1.symm).trans rfl | 10, _ => exact (congrArg Value.int c10.1.1.symm).trans rfl | 11, _ => exact (congrArg Value.int c11.1.1.symm).trans rfl | 12, _ => exact (congrArg Value.int c12.1.1.symm).trans rfl | 13, _ => exact (congrArg Value.int c13.1.1.symm).trans rfl | q + 14, h => exact absurd h (by omega))
      have K147 : Keep h0 h142 [] := (((K132.trans K136 all0).wr W141 (Or.inr sz_b1)).ext E142)
      have f148 : Sta Z h142 "java/lang/String" "COMPACT_STRINGS" "Z" (.int cS) := own_sta_keep OS K147
      have z149 : h0.size ≤ (h142).size := (Nat.le_trans z144 E142.1)
      have hws145 : ∀ d ∈ StrChars.Road.words, d.before a0 Z = true := fun d hd => hw d ((by decide +kernel : ∀ d ∈ StrChars.Road.words, d ∈ tables_1) d hd)
      have hlat145 : ∀ c ∈ [(104 : Int32), (116 : Int32), (116 : Int32), (112 : Int32), (58 : Int32), (47 : Int32), (47 : Int32), u7, u8, u9, u10, u11, u12, u13], ¬ c < 0 ∧ ¬ (255 : Int32) < c := (own_aS (by decide) (own_aS (by decide) (own_aS (by decide) (own_aS (by decide) (own_aS (by decide) (own_aS (by decide) (own_aS (by decide) (own_aS c7.1.2.2.2 (own_aS c8.1.2.2.2 (own_aS c9.1.2.2.2 (own_aS c10.1.2.2.2 (own_aS c11.1.2.2.2 (own_aS c12.1.2.2.2 (own_aS c13.1.2.2.2 own_a0))))))))))))))
      obtain ⟨bs145, hbs145⟩ : ∃ z : List Int32, z = [(104 : Int32), (116 : Int32), (116 : Int32), (112 : Int32), (58 : Int32), (47 : Int32), (47 : Int32), u7, u8, u9, u10, u11, u12, u13].map (fun c => c.toInt8.toInt32) := ⟨_, rfl⟩
      obtain ⟨_, _, ⟨T145, L145, k145, n145⟩, -, X145, ⟨Lc145, hQ145, l145, y145, z145⟩, st145⟩ := X142.specialBack hx (y := (⟨"java/lang/String", "<init>", "([C)V"⟩ : MethodName)) rfl hown (mvT hZ (own_w hw 53 rfl)) (mvT hZ (own_w hw 54 rfl)) (mvT hZ (own_w hw 55 rfl)) (by decide) (StrChars.Road.backV (W := 1) hZ hws145 (kI := 4) (own_w hw 7 rfl) (cs := [(104 : Int32), (116 : Int32), (116 : Int32), (112 : Int32), (58 : Int32), (47 : Int32), (47 : Int32), u7, u8, u9, u10, u11, u12, u13]) (bs := bs145) (n := 14) gn_b142 (Nat.le_trans Z0 z149) A142 F_value_b142 F_coder_b142 Va145 f148 H_cs rfl rfl (by decide) (by decide) hlat145 hbs145 (by decide) (by decide)) (g := (mkF m 233 #[vi x0, vi x1, vi x2, vi (7 : Int32), vi (0 : Int32), vi (6 : Int32), vr b1, .unset] [(.ref b1), (.ref b142), (.ref b142)])) rfl (by rw [hml]; rfl) (Steps.refl _) (a := b142) (argsL := [(.ref b1)]) (rest := [(.ref b142)]) (lenOf pd_22 rfl) rfl (by show 2 * 0 + _ ≤ _; exact Nat.le_of_eq rfl) (hb hby at_233) (fun _ _ => ⟨rfl, e142, (by first | decide | omega : 18 + 1 ≤ _), (by first | decide | omega : 974 + 14 ≤ _)⟩)
      dsimp only [Pt.U, Pt.locs, Pt.cells, Pt.slots] at X145 l145 y145 z145 st145 hQ145
      replace l145 := l145.symm
      subst l145 y145 z145
      obtain ⟨rfl, N145q, K145, uE145, uC145, sb145, kb145, ug145, uz145, un145, uV145, uA145⟩ := hQ145
      have N145 := Fr.app N141 N145q
      have ne150 : b1 ≠ sb145 := Nat.ne_of_lt (Nat.lt_of_lt_of_le f146.lt uz145)
      have ne151 : b142 ≠ sb145 := Nat.ne_of_lt (Nat.lt_of_lt_of_le A142.lt uz145)
      have sz_sb145 : h0.size ≤ sb145 := Nat.le_trans z149 uz145
      refine Goes.tr st145 ?_
      show Goes p e below _ (T145.setTop (mkF m 236 #[vi x0, vi x1, vi x2, vi (7 : Int32), vi (0 : Int32), vi (6 : Int32), vr b1, .unset] [(.ref b142)]))
      obtain ⟨g, hg⟩ : ∃ g : Nat → Int32, g = fun i => ([(104 : Int32), (116 : Int32), (116 : Int32), (112 : Int32), (58 : Int32), (47 : Int32), (47 : Int32), u7, u8, u9, u10, u11, u12, u13] : List Int32).getD i 0 := ⟨_, rfl⟩
      have g_0 : g 0 = (104 : Int32) := by rw [hg]; rfl
      have g_1 : g 1 = (116 : Int32) := by rw [hg]; rfl
      have g_2 : g 2 = (116 : Int32) := by rw [hg]; rfl
      have g_3 : g 3 = (112 : Int32) := by rw [hg]; rfl
      have g_4 : g 4 = (58 : Int32) := by rw [hg]; rfl
      have g_5 : g 5 = (47 : Int32) := by rw [hg]; rfl
      have g_6 : g 6 = (47 : Int32) := by rw [hg]; rfl
      have g_7 : g 7 = u7 := by rw [hg]; rfl
      have g_8 : g 8 = u8 := by rw [hg]; rfl
      have g_9 : g 9 = u9 := by rw [hg]; rfl
      have g_10 : g 10 = u10 := by rw [hg]; rfl
      have g_11 : g 11 = u11 := by rw [hg]; rfl
      have g_12 : g 12 = u12 := by rw [hg]; rfl
      have g_13 : g 13 = u13 := by rw [hg]; rfl
      have Vg : Arw Z T145.heap sb145 kb145 .byte 14 (fun i => .int (g i)) := Arw.ofArv uA145 (by decide) (by intro i hi; rw [hbs145]; match i, hi with | 0, _ => exact (congrArg Value.int (show (104 : Int32).toInt8.toInt32 = (104 : Int32) from by decide)).trans (congrArg Value.int g_0.symm) | 1, _ => exact (congrArg Value.int (show (116 : Int32).toInt8.toInt32 = (116 : Int32) from by decide)).trans (congrArg Value.int g_1.symm) | 2, _ => exact (congrArg Value.int (show (116 : Int32).toInt8.toInt32 = (116 : Int32) from by decide)).trans (congrArg Value.int g_2.symm) | 3, _ => exact (congrArg Value.int (show (112 : Int32).toInt8.toInt32 = (112 : Int32) from by decide)).trans (congrArg Value.int g_3.symm) | 4, _ => exact (congrArg Value.int (show (58 : Int32).toInt8.toInt32 = (58 : Int32) from by decide)).trans (congrArg Value.int g_4.symm) | 5, _ => exact (congrArg Value.int (show (47 : Int32).toInt8.toInt32 = (47 : Int32) from by decide)).trans (congrArg Value.int g_5.symm) | 6, _ => exact (congrArg Value.int (show (47 : Int32).toInt8.toInt32 = (47 : Int32) from by decide)).trans (congrArg Value.int g_6.symm) | 7, _ => exact (congrArg Value.int (show u7.toInt8.toInt32 = u7 from c7.1.2.1)).trans (congrArg Value.int g_7.symm) | 8, _ => exact (congrArg Value.int (show u8.toInt8.toInt32 = u8 from c8.1.2.1)).trans (congrArg Value.int g_8.symm) | 9, _ => exact (congrArg Value.int (show u9.toInt8.toInt32 = u9 from c9.1.2.1)).trans (congrArg Value.int g_9.symm) | 10, _ => exact (congrArg Value.int (show u10.toInt8.toInt32 = u10 from c10.1.2.1)).trans (congrArg Value.int g_10.symm) | 11, _ => exact (congrArg Value.int (show u11.toInt8.toInt32 = u11 from c11.1.2.1)).trans (congrArg Value.int g_11.symm) | 12, _ => exact (congrArg Value.int (show u12.toInt8.toInt32 = u12 from c12.1.2.1)).trans (congrArg Value.int g_12.symm) | 13, _ => exact (congrArg Value.int (show u13.toInt8.toInt32 = u13 from c13.1.2.1)).trans (congrArg Value.int g_13.symm) | n + 14, h => exact absurd h (by omega))
      have K152 : Keep h0 T145.heap [] := (K147.trans K145 (allS (Or.inr sz_b142) all0))
      have f153 : Sta Z T145.heap "java/lang/String" "COMPACT_STRINGS" "Z" (.int cS) := own_sta_keep OS K152
      have f154 : Sta Z T145.heap "jdk/internal/util/Preconditions" "SIOOBE_FORMATTER" "Ljava/util/function/BiFunction;" fo := own_sta_keep OF K152
      have ol155 : Old Z n0 (T145.heap) := ((((ol135.keep K136 all0).wr W141 gn_b1).ext E142).keep K145 (allS gn_b142 all0))
      have z157 : h0.size ≤ (T145.heap).size := (Nat.le_trans z149 K145.1)
      have Ks158 : KT Z own_K0 T136.vm (T145.heap) := (((Ks136.wr W141 (NoS.arr f140 (own_w hw 7 rfl) (by intro q; cases q))).ext E142).keep K145 (allS (NoS.str A142 (own_w hw 7 rfl) F_value_b142) all0))
      have sk159 : _ ≤ (T145.heap).size := (Nat.le_trans (Nat.le_trans (Nat.le_trans (Nat.le_refl _) (Nat.le_of_eq W141.size.symm)) E142.1) K145.1)
      obtain ⟨_, _, ⟨T156, L156, k156, n156⟩, -, ⟨X156, Si156⟩, ⟨Lc156, ⟨hQ156, tK156, hK156, hKv156, hKh156⟩, l156, y156, z156⟩, st156⟩ := own_callSW X145 hx (y := (⟨"com/example/lincra/lincra/UrlNormalizer", "pathAndQuery", "(Ljava/lang/String;)Ljava/lang/String;"⟩ : MethodName)) hown (mvT hZ (own_w hw 73 rfl)) (mvT hZ (own_w hw 74 rfl)) (mvT hZ (own_w hw 75 rfl)) (mvT hZ (own_w hw 76 rfl)) (by decide) (own_backOfW (W := 0) (K := (fun U_ => KT Z own_K0 U_.vm U_.heap)) (KP := (fun U_ => KT Z own_K0 U_.vm U_.heap)) (rmQ4 l Z a0 hw [] b142 cS fo sb145 kb145 g (13 : Int32) 13 1 T145.heap n0 (Nat.le_trans Z0 z157) uE145 uC145 uV145 Vg f153 H_cs f154 Hfo ol155 HW HC0 HC1 HC2 HC3 HC4 (by rw [g_0]; decide) (by rw [g_1]; decide) (by rw [g_2]; decide) (by rw [g_3]; decide) g_4 g_5 g_6 (by rw [show (47 : Int32).toInt8.toInt32 = (47 : Int32) by decide, show 14 - 7 = 7 by decide, own_fs, if_neg (show ¬ g 7 = (47 : Int32) by rw [g_7]; exact c7.2), own_fs, if_neg (show ¬ g 8 = (47 : Int32) by rw [g_8]; exact c8.2), own_fs, if_neg (show ¬ g 9 = (47 : Int32) by rw [g_9]; exact c9.2), own_fs, if_neg (show ¬ g 10 = (47 : Int32) by rw [g_10]; exact c10.2), own_fs, if_neg (show ¬ g 11 = (47 : Int32) by rw [g_11]; exact c11.2), own_fs, if_neg (show ¬ g 12 = (47 : Int32) by rw [g_12]; exact c12.2), own_fs, if_pos (g_13.trans f13)]; decide) (by decide) (by decide) (by decide) (by decide) (by decide)) hZ (own_w hw 76 rfl) (own_w hw 75 rfl) (by decide) (by decide) (fun V_ hV hVh => by show KT Z own_K0 V_.vm V_.heap; rw [hVh]; exact Ks158.at_ (s := s) hV)) (g := (mkF m 236 #[vi x0, vi x1, vi x2, vi (7 : Int32), vi (0 : Int32), vi (6 : Int32), vr b1, .unset] [(.ref b142)])) rfl (by rw [hml]; rfl) (argsL := [(.ref b142)]) (rest := []) (lenOf pd_23 rfl) rfl (by show 2 * 0 + _ ≤ _; exact Nat.le_of_eq rfl) (hb hby at_236) (fun _ _ => ⟨rfl, rfl, (by decide : 19 + 4 ≤ _), (by decide : 988 + 36 ≤ _)⟩)
      dsimp only [Pt.U, Pt.locs, Pt.cells, Pt.slots] at X156 l156 y156 z156 st156 hQ156 Si156 hKv156 hKh156
      replace l156 := l156.symm
      subst l156 y156 z156
      obtain ⟨r_156, nb156, kb156, rfl, N156q, K156, u156_0, u156_1, u156_2, u156_3, u156_4⟩ := hQ156
      have N156 := Fr.app N145 N156q
      refine Goes.via st156 ?_
      obtain ⟨X156', SI156, hZ, hown⟩ := rebS SI136 sk159 X156 Si156 K156.1 hZ hown
      have Ks156 : KT Z own_K0 T156.vm T156.heap := by rw [← hKv156, ← hKh156]; exact hK156
      have f160 : Arw Z T145.heap b1 k1 .char 14 (own_upd (own_upd (own_upd (own_upd (own_upd (own_upd (own_upd (own_upd (own_upd (own_upd (own_upd (own_upd (own_upd (own_upd (fun _ => (.int 0)) 0 (.int (nar .char (104 : Int32)))) 1 (.int (nar .char (116 : Int32)))) 2 (.int (nar .char (116 : Int32)))) 3 (.int (nar .char (112 : Int32)))) 4 (.int (nar .char (58 : Int32)))) 5 (.int (nar .char (47 : Int32)))) 6 (.int (nar .char (47 : Int32)))) 7 (.int (nar .char u7))) 8 (.int (nar .char u8))) 9 (.int (nar .char u9))) 10 (.int (nar .char u10))) 11 (.int (nar .char u11))) 12 (.int (nar .char u12))) 13 (.int (nar .char u13))) := (f146.keep K145 (ninS ne143 nin0))
      have ne161 : b1 ≠ r_156 := Nat.ne_of_lt (Nat.lt_of_lt_of_le f160.lt u156_0)
      have ne162 : b142 ≠ r_156 := Nat.ne_of_lt (Nat.lt_of_lt_of_le uE145.lt u156_0)
      have ne163 : sb145 ≠ r_156 := Nat.ne_of_lt (Nat.lt_of_lt_of_le uA145.lt u156_0)
      have sz_r_156 : h0.size ≤ r_156 := Nat.le_trans z157 u156_0
      have gn_r_156 : n0 ≤ r_156 := Nat.le_trans Z0 sz_r_156
      -- u156_0 : h0.size ≤ r_156
      have ne164 : r_156 ≠ nb156 := own_ne_arr u156_1 (own_w hw 7 rfl) u156_4
      show Goes p e below _ (T156.setTop (mkF m 239 #[vi x0, vi x1, vi x2, vi (7 : Int32), vi (0 : Int32), vi (6 : Int32), vr b1, .unset] [(.ref r_156)]))
      refine Goes.via (fun _ kk_ => XS.astore X156'.here hx rfl (hb hby at_239) rfl rfl (l' := #[vi x0, vi x1, vi x2, vi (7 : Int32), vi (0 : Int32), vi (6 : Int32), vr b1, vr r_156]) rfl kk_) ?_
      show Goes p e below _ (T156.setTop (mkF m 241 #[vi x0, vi x1, vi x2, vi (7 : Int32), vi (0 : Int32), vi (6 : Int32), vr b1, vr r_156] []))
      refine gAL X156' hx hby at_241 rfl rfl ?_
      have K165 : Keep h0 T156.heap [] := (K152.trans K156 all0)
      have f166 : Sta Z T156.heap "java/lang/String" "COMPACT_STRINGS" "Z" (.int cS) := own_sta_keep OS K165
      have z168 : h0.size ≤ (T156.heap).size := (Nat.le_trans z157 K156.1)
      obtain ⟨cq167, kq167, q167a, q167b, q167c⟩ := isOf hZ rfl u156_1
      obtain ⟨_, _, ⟨T167, L167, k167, n167⟩, -, X167, ⟨Lc167, hQ167, l167, y167, z167⟩, st167⟩ := X156'.virtualBack hx (y := (⟨"java/lang/String", "length", "()I"⟩ : MethodName)) (z := (⟨"java/lang/String", "length", "()I"⟩ : MethodName)) hown (mvT hZ (own_w hw 42 rfl)) (mvT hZ (own_w hw 43 rfl)) (notFace_of_selects (args := #[]) (mvT hZ (own_w hw 45 rfl))) (mvT hZ (own_w hw 45 rfl)) (mvT hZ (own_w hw 44 rfl)) (by decide) (backOf (W := 0) (rm8 l Z a0 hw [] r_156 (1 : Int32) cS nb156 kb156 1 (fun i => g (13 + i)) T156.heap n0 (Nat.le_trans Z0 z168) u156_1 u156_2 u156_3 u156_4 f166 H_cs (by decide)) hZ (own_w hw 46 rfl) (own_w hw 6 rfl) (by decide) (by decide)) q167a q167c (g := (mkF m 243 #[vi x0, vi x1, vi x2, vi (7 : Int32), vi (0 : Int32), vi (6 : Int32), vr b1, vr r_156] [(.ref r_156)])) rfl (by rw [hml]; rfl) (Steps.refl _) (argsL := []) (rest := []) (lenOf pd_8 rfl) rfl (by show 2 * 0 + _ ≤ _; exact Nat.le_of_eq rfl) (hb hby at_243) (fun _ _ => ⟨rfl, rfl, (by decide : 23 + 0 ≤ _), (by decide : 1024 + 0 ≤ _)⟩)
      dsimp only [Pt.U, Pt.locs, Pt.cells, Pt.slots] at X167 l167 y167 z167 st167 hQ167
      replace l167 := l167.symm
      subst l167 y167 z167
      obtain ⟨rfl, rfl, e167⟩ := hQ167
      first | rw [List.append_nil] at X167 | skip
      refine Goes.tr st167 ?_
      have e167' : T167.heap = T156.heap := e167
      show Goes p e below _ (T167.setTop (mkF m 246 #[vi x0, vi x1, vi x2, vi (7 : Int32), vi (0 : Int32), vi (6 : Int32), vr b1, vr r_156] [(.int (1 : Int32))]))
      refine gIL X167 hx hby at_246 rfl ?_
      refine gIC (z := 1) X167 hx hby at_248 rfl ?_
      refine Goes.via (fun _ kk_ => XS.iadd X167.here hx rfl (hb hby at_249) rfl kk_) ?_
      show Goes p e below _ (T167.setTop (mkF m 250 #[vi x0, vi x1, vi x2, vi (7 : Int32), vi (0 : Int32), vi (6 : Int32), vr b1, vr r_156] [(.int ((0 : Int32) + (1 : Int32))), (.int (1 : Int32))]))
      rw [show ((0 : Int32) + (1 : Int32)) = (1 : Int32) from by decide]
      show Goes p e below _ (T167.setTop (mkF m 250 #[vi x0, vi x1, vi x2, vi (7 : Int32), vi (0 : Int32), vi (6 : Int32), vr b1, vr r_156] [(.int (1 : Int32)), (.int (1 : Int32))]))
      have hc250_169 : (1 : Int32) = (1 : Int32) := (by decide)
      refine Goes.via (fun _ kk_ => XS.icmpNo X167.here hx rfl (hb hby at_250) rfl (teq hc250_169).2 kk_) ?_
      show Goes p e below _ (T167.setTop (mkF m 253 #[vi x0, vi x1, vi x2, vi (7 : Int32), vi (0 : Int32), vi (6 : Int32), vr b1, vr r_156] []))
      refine gAL X167 hx hby at_253 rfl rfl ?_
      refine gIC (z := 0) X167 hx hby at_255 rfl ?_
      have f170 : Sta Z T156.heap "jdk/internal/util/Preconditions" "SIOOBE_FORMATTER" "Ljava/util/function/BiFunction;" fo := own_sta_keep OF K165
      obtain ⟨cq171, kq171, q171a, q171b, q171c⟩ := isOf hZ e167' u156_1
      obtain ⟨_, _, ⟨T171, L171, k171, n171⟩, -, X171, ⟨Lc171, hQ171, l171, y171, z171⟩, st171⟩ := X167.virtualBack hx (y := (⟨"java/lang/String", "charAt", "(I)C"⟩ : MethodName)) (z := (⟨"java/lang/String", "charAt", "(I)C"⟩ : MethodName)) hown (mvT hZ (own_w hw 13 rfl)) (mvT hZ (own_w hw 14 rfl)) (notFace_of_selects (args := #[]) (mvT hZ (own_w hw 16 rfl))) (mvT hZ (own_w hw 16 rfl)) (mvT hZ (own_w hw 15 rfl)) (by decide) (backOf (W := 0) (rm2 l Z a0 hw [] r_156 (0 : Int32) cS nb156 kb156 1 (fun i => g (13 + i)) (1 : Int32) 0 fo T156.heap n0 (Nat.le_trans Z0 z168) u156_1 u156_2 u156_3 u156_4 f166 H_cs (by decide) (by decide) (by decide) f170 Hfo) hZ (own_w hw 17 rfl) (own_w hw 6 rfl) (by decide) (by decide)) q171a q171c (g := (mkF m 256 #[vi x0, vi x1, vi x2, vi (7 : Int32), vi (0 : Int32), vi (6 : Int32), vr b1, vr r_156] [(.int (0 : Int32)), (.ref r_156)])) rfl (by rw [hml]; rfl) (Steps.refl _) (argsL := [(.int (0 : Int32))]) (rest := []) (lenOf pd_17 rfl) rfl (by show 2 * 0 + _ ≤ _; exact Nat.le_of_eq rfl) (hb hby at_256) (fun _ _ => ⟨rfl, e167', (by decide : 23 + 0 ≤ _), (by decide : 1024 + 0 ≤ _)⟩)
      dsimp only [Pt.U, Pt.locs, Pt.cells, Pt.slots] at X171 l171 y171 z171 st171 hQ171
      replace l171 := l171.symm
      subst l171 y171 z171
      obtain ⟨rfl, rfl, e171⟩ := hQ171
      first | rw [List.append_nil] at X171 | skip
      refine Goes.tr st171 ?_
      have e171' : T171.heap = T156.heap := e171
      show Goes p e below _ (T171.setTop (mkF m 259 #[vi x0, vi x1, vi x2, vi (7 : Int32), vi (0 : Int32), vi (6 : Int32), vr b1, vr r_156] [(.int ((fun i => g (13 + i)) 0 &&& (255 : Int32)))]))
      refine gBI (z := 47) X171 hx hby at_259 rfl ?_
      have hc261_172 : ((fun i => g (13 + i)) 0 &&& (255 : Int32)) = (47 : Int32) := (show g 13 &&& (255 : Int32) = (47 : Int32) from by rw [g_13, f13]; decide)
      refine Goes.via (fun _ kk_ => XS.icmpNo X171.here hx rfl (hb hby at_261) rfl (teq hc261_172).2 kk_) ?_
      show Goes p e below _ (T171.setTop (mkF m 264 #[vi x0, vi x1, vi x2, vi (7 : Int32), vi (0 : Int32), vi (6 : Int32), vr b1, vr r_156] []))
      refine gIL X171 hx hby at_264 rfl ?_
      refine gIC (z := 1) X171 hx hby at_266 rfl ?_
      have hc267_173 : (0 : Int32) < (1 : Int32) := (by decide)
      refine Goes.via (fun _ kk_ => XS.icmpYes X171.here hx rfl (pc0 := 267) (pc' := 284) rfl (hb hby at_267) rfl (tlt hc267_173).1 (by decide) (by decide) kk_) ?_
      show Goes p e below _ (T171.setTop (mkF m 284 #[vi x0, vi x1, vi x2, vi (7 : Int32), vi (0 : Int32), vi (6 : Int32), vr b1, vr r_156] []))
      refine gIL X171 hx hby at_284 rfl ?_
      refine gIC (z := 2) X171 hx hby at_286 rfl ?_
      have hc287_174 : (0 : Int32) < (2 : Int32) := (by decide)
      refine Goes.via (fun _ kk_ => XS.icmpYes X171.here hx rfl (pc0 := 287) (pc' := 304) rfl (hb hby at_287) rfl (tlt hc287_174).1 (by decide) (by decide) kk_) ?_
      show Goes p e below _ (T171.setTop (mkF m 304 #[vi x0, vi x1, vi x2, vi (7 : Int32), vi (0 : Int32), vi (6 : Int32), vr b1, vr r_156] []))
      refine gIL X171 hx hby at_304 rfl ?_
      refine gIC (z := 3) X171 hx hby at_306 rfl ?_
      have hc307_175 : (0 : Int32) < (3 : Int32) := (by decide)
      refine Goes.via (fun _ kk_ => XS.icmpYes X171.here hx rfl (pc0 := 307) (pc' := 324) rfl (hb hby at_307) rfl (tlt hc307_175).1 (by decide) (by decide) kk_) ?_
      show Goes p e below _ (T171.setTop (mkF m 324 #[vi x0, vi x1, vi x2, vi (7 : Int32), vi (0 : Int32), vi (6 : Int32), vr b1, vr r_156] []))
      refine gIC (z := 1) X171 hx hby at_324 rfl ?_
      refine Goes.via (fun _ kk_ => XS.goto X171.here hx rfl (pc0 := 325) (pc' := 329) rfl (hb hby at_325) (by decide) (by decide) kk_) ?_
      show Goes p e below _ (T171.setTop (mkF m 329 #[vi x0, vi x1, vi x2, vi (7 : Int32), vi (0 : Int32), vi (6 : Int32), vr b1, vr r_156] [(.int (1 : Int32))]))
      have hKe : KT Z own_K0 T171.vm T171.heap := by rw [e171']; exact Ks156.at_ (s := s) X171.warmed
      exact own_wfinN X171 SI156 (by rw [e171']; exact (Nat.le_refl _)) (fun U_ hv hh_ => by show KT Z own_K0 U_.vm U_.heap; rw [hv, hh_]; exact hKe) hx hlk hret (by simp) (hb hby at_329) (by rw [e171']; exact ⟨rfl, N156, K165⟩) (by first | decide | omega | (dsimp only; omega)) (by first | decide | omega | (dsimp only; omega))
    · subst ht
      obtain rfl : hv = (5 : Int32) := hhv.trans (by decide)
      have f7 : u7 = own_hc x1 (0 : Int32) := e7.trans (if_pos (by decide))
      have c7 : own_C u7 ∧ ¬ u7 = (47 : Int32) := by rw [f7]; exact own_hcP _ _
      have f8 : u8 = own_hc x1 (1 : Int32) := e8.trans (if_pos (by decide))
      have c8 : own_C u8 ∧ ¬ u8 = (47 : Int32) := by rw [f8]; exact own_hcP _ _
      have f9 : u9 = own_hc x1 (2 : Int32) := e9.trans (if_pos (by decide))
      have c9 : own_C u9 ∧ ¬ u9 = (47 : Int32) := by rw [f9]; exact own_hcP _ _
      have f10 : u10 = own_hc x1 (3 : Int32) := e10.trans (if_pos (by decide))
      have c10 : own_C u10 ∧ ¬ u10 = (47 : Int32) := by rw [f10]; exact own_hcP _ _
      have f11 : u11 = own_hc x1 (4 : Int32) := e11.trans (if_pos (by decide))
      have c11 : own_C u11 ∧ ¬ u11 = (47 : Int32) := by rw [f11]; exact own_hcP _ _
      have f12 : u12 = (47 : Int32) := e12.trans ((if_neg (by decide)).trans (if_pos (by decide)))
      have c12 : own_C u12 ∧ True := ⟨by rw [f12]; decide, trivial⟩
      have f13 : u13 = own_pc x2 (0 : Int32) := e13.trans ((if_neg (by decide)).trans (if_neg (by decide)))
      have c13 : own_C u13 ∧ True := ⟨by rw [f13]; exact own_pcP _ _, trivial⟩
      show Goes p e below _ (T141.setTop (mkF m 227 #[vi x0, vi x1, vi x2, vi (7 : Int32), vi (1 : Int32), vi (5 : Int32), vr b1, .unset] []))
      obtain ⟨T176, h176, X176, e176, E176, A176, D176, -, st176⟩ := newO X141 hx hZ hown (own_w hw 52 rfl) (own_w hw 7 rfl) (own_w hw 6 rfl) e141 (g := (mkF m 227 #[vi x0, vi x1, vi x2, vi (7 : Int32), vi (1 : Int32), vi (5 : Int32), vr b1, .unset] [])) rfl (hb hby at_227) (by first | decide | omega | (dsimp only; omega)) (by first | decide | omega | (dsimp only; omega))
      obtain ⟨b176, g176⟩ : ∃ z, z = (h141).size := ⟨_, rfl⟩
      rw [← g176] at A176 D176 st176
      have lne177 : b1 < b176 := Nat.lt_of_lt_of_le A141.lt (Nat.le_of_eq g176.symm)
      have ne177 : b1 ≠ b176 := Nat.ne_of_lt lne177
      have z178 : h0.size ≤ (h141).size := (Nat.le_trans (Nat.le_trans z137 K136.1) (Nat.le_of_eq W141.size.symm))
      have sz_b176 : h0.size ≤ b176 := Nat.le_trans z178 (Nat.le_of_eq g176.symm)
      have gn_b176 : n0 ≤ b176 := Nat.le_trans Z0 sz_b176
      have F_value_b176 : Fld Z h176 b176 "java/lang/String" "value" "[B" .null := D176 (Or.inr (own_w hw 9 rfl)) (ty := (.array .byte)) (by decide)
      have F_coder_b176 : Fld Z h176 b176 "java/lang/String" "coder" "B" (.int (0 : Int32)) := D176 (Or.inr (own_w hw 10 rfl)) (ty := .byte) (by decide)
      refine Goes.via st176 ?_
      show Goes p e below _ (T176.setTop (mkF m 230 #[vi x0, vi x1, vi x2, vi (7 : Int32), vi (1 : Int32), vi (5 : Int32), vr b1, .unset] [(.ref b176)]))
      refine gDU X176 hx hby at_230 rfl ?_
      refine gAL X176 hx hby at_231 rfl rfl ?_
      have f180 : Arw Z h176 b1 k1 .char 14 (own_upd (own_upd (own_upd (own_upd (own_upd (own_upd (own_upd (own_upd (own_upd (own_upd (own_upd (own_upd (own_upd (own_upd (fun _ => (.int 0)) 0 (.int (nar .char (104 : Int32)))) 1 (.int (nar .char (116 : Int32)))) 2 (.int (nar .char (116 : Int32)))) 3 (.int (nar .char (112 : Int32)))) 4 (.int (nar .char (58 : Int32)))) 5 (.int (nar .char (47 : Int32)))) 6 (.int (nar .char (47 : Int32)))) 7 (.int (nar .char u7))) 8 (.int (nar .char u8))) 9 (.int (nar .char u9))) 10 (.int (nar .char u10))) 11 (.int (nar .char u11))) 12 (.int (nar .char u12))) 13 (.int (nar .char u13))) := (A141.ext E176)
      have Va179 : Arv Z h176 b1 k1 .char (14 : Int32) ([(104 : Int32), (116 : Int32), (116 : Int32), (112 : Int32), (58 : Int32), (47 : Int32), (47 : Int32), u7, u8, u9, u10, u11, u12, u13].map Value.int) (.int (0 : Int32)) := f180.toArv (by decide) (by intro i hi; match i, hi with | 0, _ => rfl | 1, _ => rfl | 2, _ => rfl | 3, _ => rfl | 4, _ => rfl | 5, _ => rfl | 6, _ => rfl | 7, _ => exact (congrArg Value.int c7.1.1.symm).trans rfl | 8, _ => exact (congrArg Value.int c8.1.1.symm).trans rfl | 9, _ => exact (congrArg Value.int c9.1.1.symm).trans rfl | 10, _ => exact (congrArg Value.int c10.1.1.symm).trans rfl | 11, _ => exact (congrArg Value.int c11.1.1.symm).trans rfl | 12, _ => exact (congrArg Value.int c12.1.1.symm).trans rfl | 13, _ => exact (congrArg Value.int c13.1.1.symm).trans rfl | q + 14, h => exact absurd h (by omega))
      have K181 : Keep h0 h176 [] := (((K132.trans K136 all0).wr W141 (Or.inr sz_b1)).ext E176)
      have f182 : Sta Z h176 "java/lang/String" "COMPACT_STRINGS" "Z" (.int cS) := own_sta_keep OS K181
      have z183 : h0.size ≤ (h176).size := (Nat.le_trans z178 E176.1)
      have hws179 : ∀ d ∈ StrChars.Road.words, d.before a0 Z = true := fun d hd => hw d ((by decide +kernel : ∀ d ∈ StrChars.Road.words, d ∈ tables_1) d hd)
      have hlat179 : ∀ c ∈ [(104 : Int32), (116 : Int32), (116 : Int32), (112 : Int32), (58 : Int32), (47 : Int32), (47 : Int32), u7, u8, u9, u10, u11, u12, u13], ¬ c < 0 ∧ ¬ (255 : Int32) < c := (own_aS (by decide) (own_aS (by decide) (own_aS (by decide) (own_aS (by decide) (own_aS (by decide) (own_aS (by decide) (own_aS (by decide) (own_aS c7.1.2.2.2 (own_aS c8.1.2.2.2 (own_aS c9.1.2.2.2 (own_aS c10.1.2.2.2 (own_aS c11.1.2.2.2 (own_aS c12.1.2.2.2 (own_aS c13.1.2.2.2 own_a0))))))))))))))
      obtain ⟨bs179, hbs179⟩ : ∃ z : List Int32, z = [(104 : Int32), (116 : Int32), (116 : Int32), (112 : Int32), (58 : Int32), (47 : Int32), (47 : Int32), u7, u8, u9, u10, u11, u12, u13].map (fun c => c.toInt8.toInt32) := ⟨_, rfl⟩
      obtain ⟨_, _, ⟨T179, L179, k179, n179⟩, -, X179, ⟨Lc179, hQ179, l179, y179, z179⟩, st179⟩ := X176.specialBack hx (y := (⟨"java/lang/String", "<init>", "([C)V"⟩ : MethodName)) rfl hown (mvT hZ (own_w hw 53 rfl)) (mvT hZ (own_w hw 54 rfl)) (mvT hZ (own_w hw 55 rfl)) (by decide) (StrChars.Road.backV (W := 1) hZ hws179 (kI := 4) (own_w hw 7 rfl) (cs := [(104 : Int32), (116 : Int32), (116 : Int32), (112 : Int32), (58 : Int32), (47 : Int32), (47 : Int32), u7, u8, u9, u10, u11, u12, u13]) (bs := bs179) (n := 14) gn_b176 (Nat.le_trans Z0 z183) A176 F_value_b176 F_coder_b176 Va179 f182 H_cs rfl rfl (by decide) (by decide) hlat179 hbs179 (by decide) (by decide)) (g := (mkF m 233 #[vi x0, vi x1, vi x2, vi (7 : Int32), vi (1 : Int32), vi (5 : Int32), vr b1, .unset] [(.ref b1), (.ref b176), (.ref b176)])) rfl (by rw [hml]; rfl) (Steps.refl _) (a := b176) (argsL := [(.ref b1)]) (rest := [(.ref b176)]) (lenOf pd_22 rfl) rfl (by show 2 * 0 + _ ≤ _; exact Nat.le_of_eq rfl) (hb hby at_233) (fun _ _ => ⟨rfl, e176, (by first | decide | omega : 18 + 1 ≤ _), (by first | decide | omega : 974 + 14 ≤ _)⟩)
      dsimp only [Pt.U, Pt.locs, Pt.cells, Pt.slots] at X179 l179 y179 z179 st179 hQ179
      replace l179 := l179.symm
      subst l179 y179 z179
      obtain ⟨rfl, N179q, K179, uE179, uC179, sb179, kb179, ug179, uz179, un179, uV179, uA179⟩ := hQ179
      have N179 := Fr.app N141 N179q
      have ne184 : b1 ≠ sb179 := Nat.ne_of_lt (Nat.lt_of_lt_of_le f180.lt uz179)
      have ne185 : b176 ≠ sb179 := Nat.ne_of_lt (Nat.lt_of_lt_of_le A176.lt uz179)
      have sz_sb179 : h0.size ≤ sb179 := Nat.le_trans z183 uz179
      refine Goes.tr st179 ?_
      show Goes p e below _ (T179.setTop (mkF m 236 #[vi x0, vi x1, vi x2, vi (7 : Int32), vi (1 : Int32), vi (5 : Int32), vr b1, .unset] [(.ref b176)]))
      obtain ⟨g, hg⟩ : ∃ g : Nat → Int32, g = fun i => ([(104 : Int32), (116 : Int32), (116 : Int32), (112 : Int32), (58 : Int32), (47 : Int32), (47 : Int32), u7, u8, u9, u10, u11, u12, u13] : List Int32).getD i 0 := ⟨_, rfl⟩
      have g_0 : g 0 = (104 : Int32) := by rw [hg]; rfl
      have g_1 : g 1 = (116 : Int32) := by rw [hg]; rfl
      have g_2 : g 2 = (116 : Int32) := by rw [hg]; rfl
      have g_3 : g 3 = (112 : Int32) := by rw [hg]; rfl
      have g_4 : g 4 = (58 : Int32) := by rw [hg]; rfl
      have g_5 : g 5 = (47 : Int32) := by rw [hg]; rfl
      have g_6 : g 6 = (47 : Int32) := by rw [hg]; rfl
      have g_7 : g 7 = u7 := by rw [hg]; rfl
      have g_8 : g 8 = u8 := by rw [hg]; rfl
      have g_9 : g 9 = u9 := by rw [hg]; rfl
      have g_10 : g 10 = u10 := by rw [hg]; rfl
      have g_11 : g 11 = u11 := by rw [hg]; rfl
      have g_12 : g 12 = u12 := by rw [hg]; rfl
      have g_13 : g 13 = u13 := by rw [hg]; rfl
      have Vg : Arw Z T179.heap sb179 kb179 .byte 14 (fun i => .int (g i)) := Arw.ofArv uA179 (by decide) (by intro i hi; rw [hbs179]; match i, hi with | 0, _ => exact (congrArg Value.int (show (104 : Int32).toInt8.toInt32 = (104 : Int32) from by decide)).trans (congrArg Value.int g_0.symm) | 1, _ => exact (congrArg Value.int (show (116 : Int32).toInt8.toInt32 = (116 : Int32) from by decide)).trans (congrArg Value.int g_1.symm) | 2, _ => exact (congrArg Value.int (show (116 : Int32).toInt8.toInt32 = (116 : Int32) from by decide)).trans (congrArg Value.int g_2.symm) | 3, _ => exact (congrArg Value.int (show (112 : Int32).toInt8.toInt32 = (112 : Int32) from by decide)).trans (congrArg Value.int g_3.symm) | 4, _ => exact (congrArg Value.int (show (58 : Int32).toInt8.toInt32 = (58 : Int32) from by decide)).trans (congrArg Value.int g_4.symm) | 5, _ => exact (congrArg Value.int (show (47 : Int32).toInt8.toInt32 = (47 : Int32) from by decide)).trans (congrArg Value.int g_5.symm) | 6, _ => exact (congrArg Value.int (show (47 : Int32).toInt8.toInt32 = (47 : Int32) from by decide)).trans (congrArg Value.int g_6.symm) | 7, _ => exact (congrArg Value.int (show u7.toInt8.toInt32 = u7 from c7.1.2.1)).trans (congrArg Value.int g_7.symm) | 8, _ => exact (congrArg Value.int (show u8.toInt8.toInt32 = u8 from c8.1.2.1)).trans (congrArg Value.int g_8.symm) | 9, _ => exact (congrArg Value.int (show u9.toInt8.toInt32 = u9 from c9.1.2.1)).trans (congrArg Value.int g_9.symm) | 10, _ => exact (congrArg Value.int (show u10.toInt8.toInt32 = u10 from c10.1.2.1)).trans (congrArg Value.int g_10.symm) | 11, _ => exact (congrArg Value.int (show u11.toInt8.toInt32 = u11 from c11.1.2.1)).trans (congrArg Value.int g_11.symm) | 12, _ => exact (congrArg Value.int (show u12.toInt8.toInt32 = u12 from c12.1.2.1)).trans (congrArg Value.int g_12.symm) | 13, _ => exact (congrArg Value.int (show u13.toInt8.toInt32 = u13 from c13.1.2.1)).trans (congrArg Value.int g_13.symm) | n + 14, h => exact absurd h (by omega))
      have K186 : Keep h0 T179.heap [] := (K181.trans K179 (allS (Or.inr sz_b176) all0))
      have f187 : Sta Z T179.heap "java/lang/String" "COMPACT_STRINGS" "Z" (.int cS) := own_sta_keep OS K186
      have f188 : Sta Z T179.heap "jdk/internal/util/Preconditions" "SIOOBE_FORMATTER" "Ljava/util/function/BiFunction;" fo := own_sta_keep OF K186
      have ol189 : Old Z n0 (T179.heap) := ((((ol135.keep K136 all0).wr W141 gn_b1).ext E176).keep K179 (allS gn_b176 all0))
      have z191 : h0.size ≤ (T179.heap).size := (Nat.le_trans z183 K179.1)
      have Ks192 : KT Z own_K0 T136.vm (T179.heap) := (((Ks136.wr W141 (NoS.arr f140 (own_w hw 7 rfl) (by intro q; cases q))).ext E176).keep K179 (allS (NoS.str A176 (own_w hw 7 rfl) F_value_b176) all0))
      have sk193 : _ ≤ (T179.heap).size := (Nat.le_trans (Nat.le_trans (Nat.le_trans (Nat.le_refl _) (Nat.le_of_eq W141.size.symm)) E176.1) K179.1)
      obtain ⟨_, _, ⟨T190, L190, k190, n190⟩, -, ⟨X190, Si190⟩, ⟨Lc190, ⟨hQ190, tK190, hK190, hKv190, hKh190⟩, l190, y190, z190⟩, st190⟩ := own_callSW X179 hx (y := (⟨"com/example/lincra/lincra/UrlNormalizer", "pathAndQuery", "(Ljava/lang/String;)Ljava/lang/String;"⟩ : MethodName)) hown (mvT hZ (own_w hw 73 rfl)) (mvT hZ (own_w hw 74 rfl)) (mvT hZ (own_w hw 75 rfl)) (mvT hZ (own_w hw 76 rfl)) (by decide) (own_backOfW (W := 0) (K := (fun U_ => KT Z own_K0 U_.vm U_.heap)) (KP := (fun U_ => KT Z own_K0 U_.vm U_.heap)) (rmQ4 l Z a0 hw [] b176 cS fo sb179 kb179 g (12 : Int32) 12 2 T179.heap n0 (Nat.le_trans Z0 z191) uE179 uC179 uV179 Vg f187 H_cs f188 Hfo ol189 HW HC0 HC1 HC2 HC3 HC4 (by rw [g_0]; decide) (by rw [g_1]; decide) (by rw [g_2]; decide) (by rw [g_3]; decide) g_4 g_5 g_6 (by rw [show (47 : Int32).toInt8.toInt32 = (47 : Int32) by decide, show 14 - 7 = 7 by decide, own_fs, if_neg (show ¬ g 7 = (47 : Int32) by rw [g_7]; exact c7.2), own_fs, if_neg (show ¬ g 8 = (47 : Int32) by rw [g_8]; exact c8.2), own_fs, if_neg (show ¬ g 9 = (47 : Int32) by rw [g_9]; exact c9.2), own_fs, if_neg (show ¬ g 10 = (47 : Int32) by rw [g_10]; exact c10.2), own_fs, if_neg (show ¬ g 11 = (47 : Int32) by rw [g_11]; exact c11.2), own_fs, if_pos (g_12.trans f12)]; decide) (by decide) (by decide) (by decide) (by decide) (by decide)) hZ (own_w hw 76 rfl) (own_w hw 75 rfl) (by decide) (by decide) (fun V_ hV hVh => by show KT Z own_K0 V_.vm V_.heap; rw [hVh]; exact Ks192.at_ (s := s) hV)) (g := (mkF m 236 #[vi x0, vi x1, vi x2, vi (7 : Int32), vi (1 : Int32), vi (5 : Int32), vr b1, .unset] [(.ref b176)])) rfl (by rw [hml]; rfl) (argsL := [(.ref b176)]) (rest := []) (lenOf pd_23 rfl) rfl (by show 2 * 0 + _ ≤ _; exact Nat.le_of_eq rfl) (hb hby at_236) (fun _ _ => ⟨rfl, rfl, (by decide : 19 + 4 ≤ _), (by decide : 988 + 36 ≤ _)⟩)
      dsimp only [Pt.U, Pt.locs, Pt.cells, Pt.slots] at X190 l190 y190 z190 st190 hQ190 Si190 hKv190 hKh190
      replace l190 := l190.symm
      subst l190 y190 z190
      obtain ⟨r_190, nb190, kb190, rfl, N190q, K190, u190_0, u190_1, u190_2, u190_3, u190_4⟩ := hQ190
      have N190 := Fr.app N179 N190q
      refine Goes.via st190 ?_
      obtain ⟨X190', SI190, hZ, hown⟩ := rebS SI136 sk193 X190 Si190 K190.1 hZ hown
      have Ks190 : KT Z own_K0 T190.vm T190.heap := by rw [← hKv190, ← hKh190]; exact hK190
      have f194 : Arw Z T179.heap b1 k1 .char 14 (own_upd (own_upd (own_upd (own_upd (own_upd (own_upd (own_upd (own_upd (own_upd (own_upd (own_upd (own_upd (own_upd (own_upd (fun _ => (.int 0)) 0 (.int (nar .char (104 : Int32)))) 1 (.int (nar .char (116 : Int32)))) 2 (.int (nar .char (116 : Int32)))) 3 (.int (nar .char (112 : Int32)))) 4 (.int (nar .char (58 : Int32)))) 5 (.int (nar .char (47 : Int32)))) 6 (.int (nar .char (47 : Int32)))) 7 (.int (nar .char u7))) 8 (.int (nar .char u8))) 9 (.int (nar .char u9))) 10 (.int (nar .char u10))) 11 (.int (nar .char u11))) 12 (.int (nar .char u12))) 13 (.int (nar .char u13))) := (f180.keep K179 (ninS ne177 nin0))
      have ne195 : b1 ≠ r_190 := Nat.ne_of_lt (Nat.lt_of_lt_of_le f194.lt u190_0)
      have ne196 : b176 ≠ r_190 := Nat.ne_of_lt (Nat.lt_of_lt_of_le uE179.lt u190_0)
      have ne197 : sb179 ≠ r_190 := Nat.ne_of_lt (Nat.lt_of_lt_of_le uA179.lt u190_0)
      have sz_r_190 : h0.size ≤ r_190 := Nat.le_trans z191 u190_0
      have gn_r_190 : n0 ≤ r_190 := Nat.le_trans Z0 sz_r_190
      -- u190_0 : h0.size ≤ r_190
      have ne198 : r_190 ≠ nb190 := own_ne_arr u190_1 (own_w hw 7 rfl) u190_4
      show Goes p e below _ (T190.setTop (mkF m 239 #[vi x0, vi x1, vi x2, vi (7 : Int32), vi (1 : Int32), vi (5 : Int32), vr b1, .unset] [(.ref r_190)]))
      refine Goes.via (fun _ kk_ => XS.astore X190'.here hx rfl (hb hby at_239) rfl rfl (l' := #[vi x0, vi x1, vi x2, vi (7 : Int32), vi (1 : Int32), vi (5 : Int32), vr b1, vr r_190]) rfl kk_) ?_
      show Goes p e below _ (T190.setTop (mkF m 241 #[vi x0, vi x1, vi x2, vi (7 : Int32), vi (1 : Int32), vi (5 : Int32), vr b1, vr r_190] []))
      refine gAL X190' hx hby at_241 rfl rfl ?_
      have K199 : Keep h0 T190.heap [] := (K186.trans K190 all0)
      have f200 : Sta Z T190.heap "java/lang/String" "COMPACT_STRINGS" "Z" (.int cS) := own_sta_keep OS K199
      have z202 : h0.size ≤ (T190.heap).size := (Nat.le_trans z191 K190.1)
      obtain ⟨cq201, kq201, q201a, q201b, q201c⟩ := isOf hZ rfl u190_1
      obtain ⟨_, _, ⟨T201, L201, k201, n201⟩, -, X201, ⟨Lc201, hQ201, l201, y201, z201⟩, st201⟩ := X190'.virtualBack hx (y := (⟨"java/lang/String", "length", "()I"⟩ : MethodName)) (z := (⟨"java/lang/String", "length", "()I"⟩ : MethodName)) hown (mvT hZ (own_w hw 42 rfl)) (mvT hZ (own_w hw 43 rfl)) (notFace_of_selects (args := #[]) (mvT hZ (own_w hw 45 rfl))) (mvT hZ (own_w hw 45 rfl)) (mvT hZ (own_w hw 44 rfl)) (by decide) (backOf (W := 0) (rm8 l Z a0 hw [] r_190 (2 : Int32) cS nb190 kb190 2 (fun i => g (12 + i)) T190.heap n0 (Nat.le_trans Z0 z202) u190_1 u190_2 u190_3 u190_4 f200 H_cs (by decide)) hZ (own_w hw 46 rfl) (own_w hw 6 rfl) (by decide) (by decide)) q201a q201c (g := (mkF m 243 #[vi x0, vi x1, vi x2, vi (7 : Int32), vi (1 : Int32), vi (5 : Int32), vr b1, vr r_190] [(.ref r_190)])) rfl (by rw [hml]; rfl) (Steps.refl _) (argsL := []) (rest := []) (lenOf pd_8 rfl) rfl (by show 2 * 0 + _ ≤ _; exact Nat.le_of_eq rfl) (hb hby at_243) (fun _ _ => ⟨rfl, rfl, (by decide : 23 + 0 ≤ _), (by decide : 1024 + 0 ≤ _)⟩)
      dsimp only [Pt.U, Pt.locs, Pt.cells, Pt.slots] at X201 l201 y201 z201 st201 hQ201
      replace l201 := l201.symm
      subst l201 y201 z201
      obtain ⟨rfl, rfl, e201⟩ := hQ201
      first | rw [List.append_nil] at X201 | skip
      refine Goes.tr st201 ?_
      have e201' : T201.heap = T190.heap := e201
      show Goes p e below _ (T201.setTop (mkF m 246 #[vi x0, vi x1, vi x2, vi (7 : Int32), vi (1 : Int32), vi (5 : Int32), vr b1, vr r_190] [(.int (2 : Int32))]))
      refine gIL X201 hx hby at_246 rfl ?_
      refine gIC (z := 1) X201 hx hby at_248 rfl ?_
      refine Goes.via (fun _ kk_ => XS.iadd X201.here hx rfl (hb hby at_249) rfl kk_) ?_
      show Goes p e below _ (T201.setTop (mkF m 250 #[vi x0, vi x1, vi x2, vi (7 : Int32), vi (1 : Int32), vi (5 : Int32), vr b1, vr r_190] [(.int ((1 : Int32) + (1 : Int32))), (.int (2 : Int32))]))
      rw [show ((1 : Int32) + (1 : Int32)) = (2 : Int32) from by decide]
      show Goes p e below _ (T201.setTop (mkF m 250 #[vi x0, vi x1, vi x2, vi (7 : Int32), vi (1 : Int32), vi (5 : Int32), vr b1, vr r_190] [(.int (2 : Int32)), (.int (2 : Int32))]))
      have hc250_203 : (2 : Int32) = (2 : Int32) := (by decide)
      refine Goes.via (fun _ kk_ => XS.icmpNo X201.here hx rfl (hb hby at_250) rfl (teq hc250_203).2 kk_) ?_
      show Goes p e below _ (T201.setTop (mkF m 253 #[vi x0, vi x1, vi x2, vi (7 : Int32), vi (1 : Int32), vi (5 : Int32), vr b1, vr r_190] []))
      refine gAL X201 hx hby at_253 rfl rfl ?_
      refine gIC (z := 0) X201 hx hby at_255 rfl ?_
      have f204 : Sta Z T190.heap "jdk/internal/util/Preconditions" "SIOOBE_FORMATTER" "Ljava/util/function/BiFunction;" fo := own_sta_keep OF K199
      obtain ⟨cq205, kq205, q205a, q205b, q205c⟩ := isOf hZ e201' u190_1
      obtain ⟨_, _, ⟨T205, L205, k205, n205⟩, -, X205, ⟨Lc205, hQ205, l205, y205, z205⟩, st205⟩ := X201.virtualBack hx (y := (⟨"java/lang/String", "charAt", "(I)C"⟩ : MethodName)) (z := (⟨"java/lang/String", "charAt", "(I)C"⟩ : MethodName)) hown (mvT hZ (own_w hw 13 rfl)) (mvT hZ (own_w hw 14 rfl)) (notFace_of_selects (args := #[]) (mvT hZ (own_w hw 16 rfl))) (mvT hZ (own_w hw 16 rfl)) (mvT hZ (own_w hw 15 rfl)) (by decide) (backOf (W := 0) (rm2 l Z a0 hw [] r_190 (0 : Int32) cS nb190 kb190 2 (fun i => g (12 + i)) (2 : Int32) 0 fo T190.heap n0 (Nat.le_trans Z0 z202) u190_1 u190_2 u190_3 u190_4 f200 H_cs (by decide) (by decide) (by decide) f204 Hfo) hZ (own_w hw 17 rfl) (own_w hw 6 rfl) (by decide) (by decide)) q205a q205c (g := (mkF m 256 #[vi x0, vi x1, vi x2, vi (7 : Int32), vi (1 : Int32), vi (5 : Int32), vr b1, vr r_190] [(.int (0 : Int32)), (.ref r_190)])) rfl (by rw [hml]; rfl) (Steps.refl _) (argsL := [(.int (0 : Int32))]) (rest := []) (lenOf pd_17 rfl) rfl (by show 2 * 0 + _ ≤ _; exact Nat.le_of_eq rfl) (hb hby at_256) (fun _ _ => ⟨rfl, e201', (by decide : 23 + 0 ≤ _), (by decide : 1024 + 0 ≤ _)⟩)
      dsimp only [Pt.U, Pt.locs, Pt.cells, Pt.slots] at X205 l205 y205 z205 st205 hQ205
      replace l205 := l205.symm
      subst l205 y205 z205
      obtain ⟨rfl, rfl, e205⟩ := hQ205
      first | rw [List.append_nil] at X205 | skip
      refine Goes.tr st205 ?_
      have e205' : T205.heap = T190.heap := e205
      show Goes p e below _ (T205.setTop (mkF m 259 #[vi x0, vi x1, vi x2, vi (7 : Int32), vi (1 : Int32), vi (5 : Int32), vr b1, vr r_190] [(.int ((fun i => g (12 + i)) 0 &&& (255 : Int32)))]))
      refine gBI (z := 47) X205 hx hby at_259 rfl ?_
      have hc261_206 : ((fun i => g (12 + i)) 0 &&& (255 : Int32)) = (47 : Int32) := (show g 12 &&& (255 : Int32) = (47 : Int32) from by rw [g_12, f12]; decide)
      refine Goes.via (fun _ kk_ => XS.icmpNo X205.here hx rfl (hb hby at_261) rfl (teq hc261_206).2 kk_) ?_
      show Goes p e below _ (T205.setTop (mkF m 264 #[vi x0, vi x1, vi x2, vi (7 : Int32), vi (1 : Int32), vi (5 : Int32), vr b1, vr r_190] []))
      refine gIL X205 hx hby at_264 rfl ?_
      refine gIC (z := 1) X205 hx hby at_266 rfl ?_
      have hc267_207 : ¬ ((1 : Int32) < (1 : Int32)) := (by decide)
      refine Goes.via (fun _ kk_ => XS.icmpNo X205.here hx rfl (hb hby at_267) rfl (flt hc267_207).1 kk_) ?_
      show Goes p e below _ (T205.setTop (mkF m 270 #[vi x0, vi x1, vi x2, vi (7 : Int32), vi (1 : Int32), vi (5 : Int32), vr b1, vr r_190] []))
      refine gAL X205 hx hby at_270 rfl rfl ?_
      refine gIC (z := 1) X205 hx hby at_272 rfl ?_
      obtain ⟨cq208, kq208, q208a, q208b, q208c⟩ := isOf hZ e205' u190_1
      obtain ⟨_, _, ⟨T208, L208, k208, n208⟩, -, X208, ⟨Lc208, hQ208, l208, y208, z208⟩, st208⟩ := X205.virtualBack hx (y := (⟨"java/lang/String", "charAt", "(I)C"⟩ : MethodName)) (z := (⟨"java/lang/String", "charAt", "(I)C"⟩ : MethodName)) hown (mvT hZ (own_w hw 13 rfl)) (mvT hZ (own_w hw 14 rfl)) (notFace_of_selects (args := #[]) (mvT hZ (own_w hw 16 rfl))) (mvT hZ (own_w hw 16 rfl)) (mvT hZ (own_w hw 15 rfl)) (by decide) (backOf (W := 0) (rm2 l Z a0 hw [] r_190 (1 : Int32) cS nb190 kb190 2 (fun i => g (12 + i)) (2 : Int32) 1 fo T190.heap n0 (Nat.le_trans Z0 z202) u190_1 u190_2 u190_3 u190_4 f200 H_cs (by decide) (by decide) (by decide) f204 Hfo) hZ (own_w hw 17 rfl) (own_w hw 6 rfl) (by decide) (by decide)) q208a q208c (g := (mkF m 273 #[vi x0, vi x1, vi x2, vi (7 : Int32), vi (1 : Int32), vi (5 : Int32), vr b1, vr r_190] [(.int (1 : Int32)), (.ref r_190)])) rfl (by rw [hml]; rfl) (Steps.refl _) (argsL := [(.int (1 : Int32))]) (rest := []) (lenOf pd_17 rfl) rfl (by show 2 * 0 + _ ≤ _; exact Nat.le_of_eq rfl) (hb hby at_273) (fun _ _ => ⟨rfl, e205', (by decide : 23 + 0 ≤ _), (by decide : 1024 + 0 ≤ _)⟩)
      dsimp only [Pt.U, Pt.locs, Pt.cells, Pt.slots] at X208 l208 y208 z208 st208 hQ208
      replace l208 := l208.symm
      subst l208 y208 z208
      obtain ⟨rfl, rfl, e208⟩ := hQ208
      first | rw [List.append_nil] at X208 | skip
      refine Goes.tr st208 ?_
      have e208' : T208.heap = T190.heap := e208
      show Goes p e below _ (T208.setTop (mkF m 276 #[vi x0, vi x1, vi x2, vi (7 : Int32), vi (1 : Int32), vi (5 : Int32), vr b1, vr r_190] [(.int ((fun i => g (12 + i)) 1 &&& (255 : Int32)))]))
      refine gILN X208 hx hby at_276 rfl ?_
      refine gIC (z := 0) X208 hx hby at_277 rfl ?_
      have ol209 : Old Z n0 (T190.heap) := (ol189.keep K190 all0)
      obtain ⟨_, _, ⟨T210, L210, k210, n210⟩, -, ⟨X210, Si210⟩, ⟨Lc210, ⟨hQ210, tK210, hK210, hKv210, hKh210⟩, l210, y210, z210⟩, st210⟩ := own_callSW X208 hx (y := (⟨"com/example/lincra/lincra/UrlNormalizerPathAndQueryPinLaw", "pathChar", "(II)C"⟩ : MethodName)) hown (mvT hZ (own_w hw 150 rfl)) (mvT hZ (own_w hw 151 rfl)) (mvT hZ (own_w hw 3 rfl)) (mvT hZ (own_w hw 152 rfl)) (by decide) (own_backOfW (W := 1) (K := (fun U_ => KT Z own_K0 U_.vm U_.heap)) (KP := (fun U_ => KT Z own_K0 U_.vm U_.heap)) (rm35 l Z a0 hw [] x2 (0 : Int32) cS fo T190.heap n0 (Nat.le_trans Z0 z202) f200 H_cs f204 Hfo ol209 HW HC0 HC1 HC2 HC3 HC4) hZ (own_w hw 152 rfl) (own_w hw 3 rfl) (by decide) (by decide) (fun V_ hV hVh => by show KT Z own_K0 V_.vm V_.heap; rw [hVh]; exact Ks190.at_ (s := s) hV)) (g := (mkF m 278 #[vi x0, vi x1, vi x2, vi (7 : Int32), vi (1 : Int32), vi (5 : Int32), vr b1, vr r_190] [(.int (0 : Int32)), (.int x2), (.int ((fun i => g (12 + i)) 1 &&& (255 : Int32)))])) rfl (by rw [hml]; rfl) (argsL := [(.int x2), (.int (0 : Int32))]) (rest := [(.int ((fun i => g (12 + i)) 1 &&& (255 : Int32)))]) (lenOf pd_18 rfl) rfl (by show 2 * 0 + _ ≤ _; exact Nat.le_of_eq rfl) (hb hby at_278) (fun _ _ => ⟨rfl, e208', (by decide : 23 + 2 ≤ _), (by decide : 1024 + 132 ≤ _)⟩)
      dsimp only [Pt.U, Pt.locs, Pt.cells, Pt.slots] at X210 l210 y210 z210 st210 hQ210 Si210 hKv210 hKh210
      replace l210 := l210.symm
      subst l210 y210 z210
      obtain ⟨rfl, N210q, K210⟩ := hQ210
      have N210 := Fr.app N190 N210q
      refine Goes.via st210 ?_
      obtain ⟨X210', SI210, hZ, hown⟩ := rebS SI190 (Nat.le_refl _) X210 Si210 K210.1 hZ hown
      have Ks210 : KT Z own_K0 T210.vm T210.heap := by rw [← hKv210, ← hKh210]; exact hK210
      show Goes p e below _ (T210.setTop (mkF m 281 #[vi x0, vi x1, vi x2, vi (7 : Int32), vi (1 : Int32), vi (5 : Int32), vr b1, vr r_190] [(.int (own_pc x2 (0 : Int32))), (.int ((fun i => g (12 + i)) 1 &&& (255 : Int32)))]))
      have hc281_211 : ((fun i => g (12 + i)) 1 &&& (255 : Int32)) = (own_pc x2 (0 : Int32)) := (show g 13 &&& (255 : Int32) = own_pc x2 (0 : Int32) from by rw [g_13, f13]; exact (own_pcP _ _).2.2.1)
      refine Goes.via (fun _ kk_ => XS.icmpNo X210'.here hx rfl (hb hby at_281) rfl (teq hc281_211).2 kk_) ?_
      show Goes p e below _ (T210.setTop (mkF m 284 #[vi x0, vi x1, vi x2, vi (7 : Int32), vi (1 : Int32), vi (5 : Int32), vr b1, vr r_190] []))
      refine gIL X210' hx hby at_284 rfl ?_
      refine gIC (z := 2) X210' hx hby at_286 rfl ?_
      have hc287_212 : (1 : Int32) < (2 : Int32) := (by decide)
      refine Goes.via (fun _ kk_ => XS.icmpYes X210'.here hx rfl (pc0 := 287) (pc' := 304) rfl (hb hby at_287) rfl (tlt hc287_212).1 (by decide) (by decide) kk_) ?_
      show Goes p e below _ (T210.setTop (mkF m 304 #[vi x0, vi x1, vi x2, vi (7 : Int32), vi (1 : Int32), vi (5 : Int32), vr b1, vr r_190] []))
      refine gIL X210' hx hby at_304 rfl ?_
      refine gIC (z := 3) X210' hx hby at_306 rfl ?_
      have hc307_213 : (1 : Int32) < (3 : Int32) := (by decide)
      refine Goes.via (fun _ kk_ => XS.icmpYes X210'.here hx rfl (pc0 := 307) (pc' := 324) rfl (hb hby at_307) rfl (tlt hc307_213).1 (by decide) (by decide) kk_) ?_
      show Goes p e below _ (T210.setTop (mkF m 324 #[vi x0, vi x1, vi x2, vi (7 : Int32), vi (1 : Int32), vi (5 : Int32), vr b1, vr r_190] []))
      refine gIC (z := 1) X210' hx hby at_324 rfl ?_
      refine Goes.via (fun _ kk_ => XS.goto X210'.here hx rfl (pc0 := 325) (pc' := 329) rfl (hb hby at_325) (by decide) (by decide) kk_) ?_
      show Goes p e below _ (T210.setTop (mkF m 329 #[vi x0, vi x1, vi x2, vi (7 : Int32), vi (1 : Int32), vi (5 : Int32), vr b1, vr r_190] [(.int (1 : Int32))]))
      have K214 : Keep h0 T210.heap [] := (K199.trans K210 all0)
      have hKe : KT Z own_K0 T210.vm T210.heap := by rw [show T210.heap = T210.heap from rfl]; exact Ks210.at_ (s := s) X210'.warmed
      exact own_wfinN X210' SI210 (Nat.le_refl _) (fun U_ hv hh_ => by show KT Z own_K0 U_.vm U_.heap; rw [hv, hh_]; exact hKe) hx hlk hret (by simp) (hb hby at_329) (by exact ⟨rfl, N210, K214⟩) (by first | decide | omega | (dsimp only; omega)) (by first | decide | omega | (dsimp only; omega))
    · subst ht
      obtain rfl : hv = (4 : Int32) := hhv.trans (by decide)
      have f7 : u7 = own_hc x1 (0 : Int32) := e7.trans (if_pos (by decide))
      have c7 : own_C u7 ∧ ¬ u7 = (47 : Int32) := by rw [f7]; exact own_hcP _ _
      have f8 : u8 = own_hc x1 (1 : Int32) := e8.trans (if_pos (by decide))
      have c8 : own_C u8 ∧ ¬ u8 = (47 : Int32) := by rw [f8]; exact own_hcP _ _
      have f9 : u9 = own_hc x1 (2 : Int32) := e9.trans (if_pos (by decide))
      have c9 : own_C u9 ∧ ¬ u9 = (47 : Int32) := by rw [f9]; exact own_hcP _ _
      have f10 : u10 = own_hc x1 (3 : Int32) := e10.trans (if_pos (by decide))
      have c10 : own_C u10 ∧ ¬ u10 = (47 : Int32) := by rw [f10]; exact own_hcP _ _
      have f11 : u11 = (47 : Int32) := e11.trans ((if_neg (by decide)).trans (if_pos (by decide)))
      have c11 : own_C u11 ∧ True := ⟨by rw [f11]; decide, trivial⟩
      have f12 : u12 = own_pc x2 (0 : Int32) := e12.trans ((if_neg (by decide)).trans (if_neg (by decide)))
      have c12 : own_C u12 ∧ True := ⟨by rw [f12]; exact own_pcP _ _, trivial⟩
      have f13 : u13 = own_pc x2 (1 : Int32) := e13.trans ((if_neg (by decide)).trans (if_neg (by decide)))
      have c13 : own_C u13 ∧ True := ⟨by rw [f13]; exact own_pcP _ _, trivial⟩
      show Goes p e below _ (T141.setTop (mkF m 227 #[vi x0, vi x1, vi x2, vi (7 : Int32), vi (2 : Int32), vi (4 : Int32), vr b1, .unset] []))
      obtain ⟨T215, h215, X215, e215, E215, A215, D215, -, st215⟩ := newO X141 hx hZ hown (own_w hw 52 rfl) (own_w hw 7 rfl) (own_w hw 6 rfl) e141 (g := (mkF m 227 #[vi x0, vi x1, vi x2, vi (7 : Int32), vi (2 : Int32), vi (4 : Int32), vr b1, .unset] [])) rfl (hb hby at_227) (by first | decide | omega | (dsimp only; omega)) (by first | decide | omega | (dsimp only; omega))
      obtain ⟨b215, g215⟩ : ∃ z, z = (h141).size := ⟨_, rfl⟩
      rw [← g215] at A215 D215 st215
      have lne216 : b1 < b215 := Nat.lt_of_lt_of_le A141.lt (Nat.le_of_eq g215.symm)
      have ne216 : b1 ≠ b215 := Nat.ne_of_lt lne216
      have z217 : h0.size ≤ (h141).size := (Nat.le_trans (Nat.le_trans z137 K136.1) (Nat.le_of_eq W141.size.symm))
      have sz_b215 : h0.size ≤ b215 := Nat.le_trans z217 (Nat.le_of_eq g215.symm)
      have gn_b215 : n0 ≤ b215 := Nat.le_trans Z0 sz_b215
      have F_value_b215 : Fld Z h215 b215 "java/lang/String" "value" "[B" .null := D215 (Or.inr (own_w hw 9 rfl)) (ty := (.array .byte)) (by decide)
      have F_coder_b215 : Fld Z h215 b215 "java/lang/String" "coder" "B" (.int (0 : Int32)) := D215 (Or.inr (own_w hw 10 rfl)) (ty := .byte) (by decide)
      refine Goes.via st215 ?_
      show Goes p e below _ (T215.setTop (mkF m 230 #[vi x0, vi x1, vi x2, vi (7 : Int32), vi (2 : Int32), vi (4 : Int32), vr b1, .unset] [(.ref b215)]))
      refine gDU X215 hx hby at_230 rfl ?_
      refine gAL X215 hx hby at_231 rfl rfl ?_
      have f219 : Arw Z h215 b1 k1 .char 14 (own_upd (own_upd (own_upd (own_upd (own_upd (own_upd (own_upd (own_upd (own_upd (own_upd (own_upd (own_upd (own_upd (own_upd (fun _ => (.int 0)) 0 (.int (nar .char (104 : Int32)))) 1 (.int (nar .char (116 : Int32)))) 2 (.int (nar .char (116 : Int32)))) 3 (.int (nar .char (112 : Int32)))) 4 (.int (nar .char (58 : Int32)))) 5 (.int (nar .char (47 : Int32)))) 6 (.int (nar .char (47 : Int32)))) 7 (.int (nar .char u7))) 8 (.int (nar .char u8))) 9 (.int (nar .char u9))) 10 (.int (nar .char u10))) 11 (.int (nar .char u11))) 12 (.int (nar .char u12))) 13 (.int (nar .char u13))) := (A141.ext E215)
      have Va218 : Arv Z h215 b1 k1 .char (14 : Int32) ([(104 : Int32), (116 : Int32), (116 : Int32), (112 : Int32), (58 : Int32), (47 : Int32), (47 : Int32), u7, u8, u9, u10, u11, u12, u13].map Value.int) (.int (0 : Int32)) := f219.toArv (by decide) (by intro i hi; match i, hi with | 0, _ => rfl | 1, _ => rfl | 2, _ => rfl | 3, _ => rfl | 4, _ => rfl | 5, _ => rfl | 6, _ => rfl | 7, _ => exact (congrArg Value.int c7.1.1.symm).trans rfl | 8, _ => exact (congrArg Value.int c8.1.1.symm).trans rfl | 9, _ => exact (congrArg Value.int c9.1.1.symm).trans rfl | 10, _ => exact (congrArg Value.int c10.1.1.symm).trans rfl | 11, _ => exact (congrArg Value.int c11.1.1.symm).trans rfl | 12, _ => exact (congrArg Value.int c12.1.1.symm).trans rfl | 13, _ => exact (congrArg Value.int c13.1.1.symm).trans rfl | q + 14, h => exact absurd h (by omega))
      have K220 : Keep h0 h215 [] := (((K132.trans K136 all0).wr W141 (Or.inr sz_b1)).ext E215)
      have f221 : Sta Z h215 "java/lang/String" "COMPACT_STRINGS" "Z" (.int cS) := own_sta_keep OS K220
      have z222 : h0.size ≤ (h215).size := (Nat.le_trans z217 E215.1)
      have hws218 : ∀ d ∈ StrChars.Road.words, d.before a0 Z = true := fun d hd => hw d ((by decide +kernel : ∀ d ∈ StrChars.Road.words, d ∈ tables_1) d hd)
      have hlat218 : ∀ c ∈ [(104 : Int32), (116 : Int32), (116 : Int32), (112 : Int32), (58 : Int32), (47 : Int32), (47 : Int32), u7, u8, u9, u10, u11, u12, u13], ¬ c < 0 ∧ ¬ (255 : Int32) < c := (own_aS (by decide) (own_aS (by decide) (own_aS (by decide) (own_aS (by decide) (own_aS (by decide) (own_aS (by decide) (own_aS (by decide) (own_aS c7.1.2.2.2 (own_aS c8.1.2.2.2 (own_aS c9.1.2.2.2 (own_aS c10.1.2.2.2 (own_aS c11.1.2.2.2 (own_aS c12.1.2.2.2 (own_aS c13.1.2.2.2 own_a0))))))))))))))
      obtain ⟨bs218, hbs218⟩ : ∃ z : List Int32, z = [(104 : Int32), (116 : Int32), (116 : Int32), (112 : Int32), (58 : Int32), (47 : Int32), (47 : Int32), u7, u8, u9, u10, u11, u12, u13].map (fun c => c.toInt8.toInt32) := ⟨_, rfl⟩
      obtain ⟨_, _, ⟨T218, L218, k218, n218⟩, -, X218, ⟨Lc218, hQ218, l218, y218, z218⟩, st218⟩ := X215.specialBack hx (y := (⟨"java/lang/String", "<init>", "([C)V"⟩ : MethodName)) rfl hown (mvT hZ (own_w hw 53 rfl)) (mvT hZ (own_w hw 54 rfl)) (mvT hZ (own_w hw 55 rfl)) (by decide) (StrChars.Road.backV (W := 1) hZ hws218 (kI := 4) (own_w hw 7 rfl) (cs := [(104 : Int32), (116 : Int32), (116 : Int32), (112 : Int32), (58 : Int32), (47 : Int32), (47 : Int32), u7, u8, u9, u10, u11, u12, u13]) (bs := bs218) (n := 14) gn_b215 (Nat.le_trans Z0 z222) A215 F_value_b215 F_coder_b215 Va218 f221 H_cs rfl rfl (by decide) (by decide) hlat218 hbs218 (by decide) (by decide)) (g := (mkF m 233 #[vi x0, vi x1, vi x2, vi (7 : Int32), vi (2 : Int32), vi (4 : Int32), vr b1, .unset] [(.ref b1), (.ref b215), (.ref b215)])) rfl (by rw [hml]; rfl) (Steps.refl _) (a := b215) (argsL := [(.ref b1)]) (rest := [(.ref b215)]) (lenOf pd_22 rfl) rfl (by show 2 * 0 + _ ≤ _; exact Nat.le_of_eq rfl) (hb hby at_233) (fun _ _ => ⟨rfl, e215, (by first | decide | omega : 18 + 1 ≤ _), (by first | decide | omega : 974 + 14 ≤ _)⟩)
      dsimp only [Pt.U, Pt.locs, Pt.cells, Pt.slots] at X218 l218 y218 z218 st218 hQ218
      replace l218 := l218.symm
      subst l218 y218 z218
      obtain ⟨rfl, N218q, K218, uE218, uC218, sb218, kb218, ug218, uz218, un218, uV218, uA218⟩ := hQ218
      have N218 := Fr.app N141 N218q
      have ne223 : b1 ≠ sb218 := Nat.ne_of_lt (Nat.lt_of_lt_of_le f219.lt uz218)
      have ne224 : b215 ≠ sb218 := Nat.ne_of_lt (Nat.lt_of_lt_of_le A215.lt uz218)
      have sz_sb218 : h0.size ≤ sb218 := Nat.le_trans z222 uz218
      refine Goes.tr st218 ?_
      show Goes p e below _ (T218.setTop (mkF m 236 #[vi x0, vi x1, vi x2, vi (7 : Int32), vi (2 : Int32), vi (4 : Int32), vr b1, .unset] [(.ref b215)]))
      obtain ⟨g, hg⟩ : ∃ g : Nat → Int32, g = fun i => ([(104 : Int32), (116 : Int32), (116 : Int32), (112 : Int32), (58 : Int32), (47 : Int32), (47 : Int32), u7, u8, u9, u10, u11, u12, u13] : List Int32).getD i 0 := ⟨_, rfl⟩
      have g_0 : g 0 = (104 : Int32) := by rw [hg]; rfl
      have g_1 : g 1 = (116 : Int32) := by rw [hg]; rfl
      have g_2 : g 2 = (116 : Int32) := by rw [hg]; rfl
      have g_3 : g 3 = (112 : Int32) := by rw [hg]; rfl
      have g_4 : g 4 = (58 : Int32) := by rw [hg]; rfl
      have g_5 : g 5 = (47 : Int32) := by rw [hg]; rfl
      have g_6 : g 6 = (47 : Int32) := by rw [hg]; rfl
      have g_7 : g 7 = u7 := by rw [hg]; rfl
      have g_8 : g 8 = u8 := by rw [hg]; rfl
      have g_9 : g 9 = u9 := by rw [hg]; rfl
      have g_10 : g 10 = u10 := by rw [hg]; rfl
      have g_11 : g 11 = u11 := by rw [hg]; rfl
      have g_12 : g 12 = u12 := by rw [hg]; rfl
      have g_13 : g 13 = u13 := by rw [hg]; rfl
      have Vg : Arw Z T218.heap sb218 kb218 .byte 14 (fun i => .int (g i)) := Arw.ofArv uA218 (by decide) (by intro i hi; rw [hbs218]; match i, hi with | 0, _ => exact (congrArg Value.int (show (104 : Int32).toInt8.toInt32 = (104 : Int32) from by decide)).trans (congrArg Value.int g_0.symm) | 1, _ => exact (congrArg Value.int (show (116 : Int32).toInt8.toInt32 = (116 : Int32) from by decide)).trans (congrArg Value.int g_1.symm) | 2, _ => exact (congrArg Value.int (show (116 : Int32).toInt8.toInt32 = (116 : Int32) from by decide)).trans (congrArg Value.int g_2.symm) | 3, _ => exact (congrArg Value.int (show (112 : Int32).toInt8.toInt32 = (112 : Int32) from by decide)).trans (congrArg Value.int g_3.symm) | 4, _ => exact (congrArg Value.int (show (58 : Int32).toInt8.toInt32 = (58 : Int32) from by decide)).trans (congrArg Value.int g_4.symm) | 5, _ => exact (congrArg Value.int (show (47 : Int32).toInt8.toInt32 = (47 : Int32) from by decide)).trans (congrArg Value.int g_5.symm) | 6, _ => exact (congrArg Value.int (show (47 : Int32).toInt8.toInt32 = (47 : Int32) from by decide)).trans (congrArg Value.int g_6.symm) | 7, _ => exact (congrArg Value.int (show u7.toInt8.toInt32 = u7 from c7.1.2.1)).trans (congrArg Value.int g_7.symm) | 8, _ => exact (congrArg Value.int (show u8.toInt8.toInt32 = u8 from c8.1.2.1)).trans (congrArg Value.int g_8.symm) | 9, _ => exact (congrArg Value.int (show u9.toInt8.toInt32 = u9 from c9.1.2.1)).trans (congrArg Value.int g_9.symm) | 10, _ => exact (congrArg Value.int (show u10.toInt8.toInt32 = u10 from c10.1.2.1)).trans (congrArg Value.int g_10.symm) | 11, _ => exact (congrArg Value.int (show u11.toInt8.toInt32 = u11 from c11.1.2.1)).trans (congrArg Value.int g_11.symm) | 12, _ => exact (congrArg Value.int (show u12.toInt8.toInt32 = u12 from c12.1.2.1)).trans (congrArg Value.int g_12.symm) | 13, _ => exact (congrArg Value.int (show u13.toInt8.toInt32 = u13 from c13.1.2.1)).trans (congrArg Value.int g_13.symm) | n + 14, h => exact absurd h (by omega))
      have K225 : Keep h0 T218.heap [] := (K220.trans K218 (allS (Or.inr sz_b215) all0))
      have f226 : Sta Z T218.heap "java/lang/String" "COMPACT_STRINGS" "Z" (.int cS) := own_sta_keep OS K225
      have f227 : Sta Z T218.heap "jdk/internal/util/Preconditions" "SIOOBE_FORMATTER" "Ljava/util/function/BiFunction;" fo := own_sta_keep OF K225
      have ol228 : Old Z n0 (T218.heap) := ((((ol135.keep K136 all0).wr W141 gn_b1).ext E215).keep K218 (allS gn_b215 all0))
      have z230 : h0.size ≤ (T218.heap).size := (Nat.le_trans z222 K218.1)
      have Ks231 : KT Z own_K0 T136.vm (T218.heap) := (((Ks136.wr W141 (NoS.arr f140 (own_w hw 7 rfl) (by intro q; cases q))).ext E215).keep K218 (allS (NoS.str A215 (own_w hw 7 rfl) F_value_b215) all0))
      have sk232 : _ ≤ (T218.heap).size := (Nat.le_trans (Nat.le_trans (Nat.le_trans (Nat.le_refl _) (Nat.le_of_eq W141.size.symm)) E215.1) K218.1)
      obtain ⟨_, _, ⟨T229, L229, k229, n229⟩, -, ⟨X229, Si229⟩, ⟨Lc229, ⟨hQ229, tK229, hK229, hKv229, hKh229⟩, l229, y229, z229⟩, st229⟩ := own_callSW X218 hx (y := (⟨"com/example/lincra/lincra/UrlNormalizer", "pathAndQuery", "(Ljava/lang/String;)Ljava/lang/String;"⟩ : MethodName)) hown (mvT hZ (own_w hw 73 rfl)) (mvT hZ (own_w hw 74 rfl)) (mvT hZ (own_w hw 75 rfl)) (mvT hZ (own_w hw 76 rfl)) (by decide) (own_backOfW (W := 0) (K := (fun U_ => KT Z own_K0 U_.vm U_.heap)) (KP := (fun U_ => KT Z own_K0 U_.vm U_.heap)) (rmQ4 l Z a0 hw [] b215 cS fo sb218 kb218 g (11 : Int32) 11 3 T218.heap n0 (Nat.le_trans Z0 z230) uE218 uC218 uV218 Vg f226 H_cs f227 Hfo ol228 HW HC0 HC1 HC2 HC3 HC4 (by rw [g_0]; decide) (by rw [g_1]; decide) (by rw [g_2]; decide) (by rw [g_3]; decide) g_4 g_5 g_6 (by rw [show (47 : Int32).toInt8.toInt32 = (47 : Int32) by decide, show 14 - 7 = 7 by decide, own_fs, if_neg (show ¬ g 7 = (47 : Int32) by rw [g_7]; exact c7.2), own_fs, if_neg (show ¬ g 8 = (47 : Int32) by rw [g_8]; exact c8.2), own_fs, if_neg (show ¬ g 9 = (47 : Int32) by rw [g_9]; exact c9.2), own_fs, if_neg (show ¬ g 10 = (47 : Int32) by rw [g_10]; exact c10.2), own_fs, if_pos (g_11.trans f11)]; decide) (by decide) (by decide) (by decide) (by decide) (by decide)) hZ (own_w hw 76 rfl) (own_w hw 75 rfl) (by decide) (by decide) (fun V_ hV hVh => by show KT Z own_K0 V_.vm V_.heap; rw [hVh]; exact Ks231.at_ (s := s) hV)) (g := (mkF m 236 #[vi x0, vi x1, vi x2, vi (7 : Int32), vi (2 : Int32), vi (4 : Int32), vr b1, .unset] [(.ref b215)])) rfl (by rw [hml]; rfl) (argsL := [(.ref b215)]) (rest := []) (lenOf pd_23 rfl) rfl (by show 2 * 0 + _ ≤ _; exact Nat.le_of_eq rfl) (hb hby at_236) (fun _ _ => ⟨rfl, rfl, (by decide : 19 + 4 ≤ _), (by decide : 988 + 36 ≤ _)⟩)
      dsimp only [Pt.U, Pt.locs, Pt.cells, Pt.slots] at X229 l229 y229 z229 st229 hQ229 Si229 hKv229 hKh229
      replace l229 := l229.symm
      subst l229 y229 z229
      obtain ⟨r_229, nb229, kb229, rfl, N229q, K229, u229_0, u229_1, u229_2, u229_3, u229_4⟩ := hQ229
      have N229 := Fr.app N218 N229q
      refine Goes.via st229 ?_
      obtain ⟨X229', SI229, hZ, hown⟩ := rebS SI136 sk232 X229 Si229 K229.1 hZ hown
      have Ks229 : KT Z own_K0 T229.vm T229.heap := by rw [← hKv229, ← hKh229]; exact hK229
      have f233 : Arw Z T218.heap b1 k1 .char 14 (own_upd (own_upd (own_upd (own_upd (own_upd (own_upd (own_upd (own_upd (own_upd (own_upd (own_upd (own_upd (own_upd (own_upd (fun _ => (.int 0)) 0 (.int (nar .char (104 : Int32)))) 1 (.int (nar .char (116 : Int32)))) 2 (.int (nar .char (116 : Int32)))) 3 (.int (nar .char (112 : Int32)))) 4 (.int (nar .char (58 : Int32)))) 5 (.int (nar .char (47 : Int32)))) 6 (.int (nar .char (47 : Int32)))) 7 (.int (nar .char u7))) 8 (.int (nar .char u8))) 9 (.int (nar .char u9))) 10 (.int (nar .char u10))) 11 (.int (nar .char u11))) 12 (.int (nar .char u12))) 13 (.int (nar .char u13))) := (f219.keep K218 (ninS ne216 nin0))
      have ne234 : b1 ≠ r_229 := Nat.ne_of_lt (Nat.lt_of_lt_of_le f233.lt u229_0)
      have ne235 : b215 ≠ r_229 := Nat.ne_of_lt (Nat.lt_of_lt_of_le uE218.lt u229_0)
      have ne236 : sb218 ≠ r_229 := Nat.ne_of_lt (Nat.lt_of_lt_of_le uA218.lt u229_0)
      have sz_r_229 : h0.size ≤ r_229 := Nat.le_trans z230 u229_0
      have gn_r_229 : n0 ≤ r_229 := Nat.le_trans Z0 sz_r_229
      -- u229_0 : h0.size ≤ r_229
      have ne237 : r_229 ≠ nb229 := own_ne_arr u229_1 (own_w hw 7 rfl) u229_4
      show Goes p e below _ (T229.setTop (mkF m 239 #[vi x0, vi x1, vi x2, vi (7 : Int32), vi (2 : Int32), vi (4 : Int32), vr b1, .unset] [(.ref r_229)]))
      refine Goes.via (fun _ kk_ => XS.astore X229'.here hx rfl (hb hby at_239) rfl rfl (l' := #[vi x0, vi x1, vi x2, vi (7 : Int32), vi (2 : Int32), vi (4 : Int32), vr b1, vr r_229]) rfl kk_) ?_
      show Goes p e below _ (T229.setTop (mkF m 241 #[vi x0, vi x1, vi x2, vi (7 : Int32), vi (2 : Int32), vi (4 : Int32), vr b1, vr r_229] []))
      refine gAL X229' hx hby at_241 rfl rfl ?_
      have K238 : Keep h0 T229.heap [] := (K225.trans K229 all0)
      have f239 : Sta Z T229.heap "java/lang/String" "COMPACT_STRINGS" "Z" (.int cS) := own_sta_keep OS K238
      have z241 : h0.size ≤ (T229.heap).size := (Nat.le_trans z230 K229.1)
      obtain ⟨cq240, kq240, q240a, q240b, q240c⟩ := isOf hZ rfl u229_1
      obtain ⟨_, _, ⟨T240, L240, k240, n240⟩, -, X240, ⟨Lc240, hQ240, l240, y240, z240⟩, st240⟩ := X229'.virtualBack hx (y := (⟨"java/lang/String", "length", "()I"⟩ : MethodName)) (z := (⟨"java/lang/String", "length", "()I"⟩ : MethodName)) hown (mvT hZ (own_w hw 42 rfl)) (mvT hZ (own_w hw 43 rfl)) (notFace_of_selects (args := #[]) (mvT hZ (own_w hw 45 rfl))) (mvT hZ (own_w hw 45 rfl)) (mvT hZ (own_w hw 44 rfl)) (by decide) (backOf (W := 0) (rm8 l Z a0 hw [] r_229 (3 : Int32) cS nb229 kb229 3 (fun i => g (11 + i)) T229.heap n0 (Nat.le_trans Z0 z241) u229_1 u229_2 u229_3 u229_4 f239 H_cs (by decide)) hZ (own_w hw 46 rfl) (own_w hw 6 rfl) (by decide) (by decide)) q240a q240c (g := (mkF m 243 #[vi x0, vi x1, vi x2, vi (7 : Int32), vi (2 : Int32), vi (4 : Int32), vr b1, vr r_229] [(.ref r_229)])) rfl (by rw [hml]; rfl) (Steps.refl _) (argsL := []) (rest := []) (lenOf pd_8 rfl) rfl (by show 2 * 0 + _ ≤ _; exact Nat.le_of_eq rfl) (hb hby at_243) (fun _ _ => ⟨rfl, rfl, (by decide : 23 + 0 ≤ _), (by decide : 1024 + 0 ≤ _)⟩)
      dsimp only [Pt.U, Pt.locs, Pt.cells, Pt.slots] at X240 l240 y240 z240 st240 hQ240
      replace l240 := l240.symm
      subst l240 y240 z240
      obtain ⟨rfl, rfl, e240⟩ := hQ240
      first | rw [List.append_nil] at X240 | skip
      refine Goes.tr st240 ?_
      have e240' : T240.heap = T229.heap := e240
      show Goes p e below _ (T240.setTop (mkF m 246 #[vi x0, vi x1, vi x2, vi (7 : Int32), vi (2 : Int32), vi (4 : Int32), vr b1, vr r_229] [(.int (3 : Int32))]))
      refine gIL X240 hx hby at_246 rfl ?_
      refine gIC (z := 1) X240 hx hby at_248 rfl ?_
      refine Goes.via (fun _ kk_ => XS.iadd X240.here hx rfl (hb hby at_249) rfl kk_) ?_
      show Goes p e below _ (T240.setTop (mkF m 250 #[vi x0, vi x1, vi x2, vi (7 : Int32), vi (2 : Int32), vi (4 : Int32), vr b1, vr r_229] [(.int ((2 : Int32) + (1 : Int32))), (.int (3 : Int32))]))
      rw [show ((2 : Int32) + (1 : Int32)) = (3 : Int32) from by decide]
      show Goes p e below _ (T240.setTop (mkF m 250 #[vi x0, vi x1, vi x2, vi (7 : Int32), vi (2 : Int32), vi (4 : Int32), vr b1, vr r_229] [(.int (3 : Int32)), (.int (3 : Int32))]))
      have hc250_242 : (3 : Int32) = (3 : Int32) := (by decide)
      refine Goes.via (fun _ kk_ => XS.icmpNo X240.here hx rfl (hb hby at_250) rfl (teq hc250_242).2 kk_) ?_
      show Goes p e below _ (T240.setTop (mkF m 253 #[vi x0, vi x1, vi x2, vi (7 : Int32), vi (2 : Int32), vi (4 : Int32), vr b1, vr r_229] []))
      refine gAL X240 hx hby at_253 rfl rfl ?_
      refine gIC (z := 0) X240 hx hby at_255 rfl ?_
      have f243 : Sta Z T229.heap "jdk/internal/util/Preconditions" "SIOOBE_FORMATTER" "Ljava/util/function/BiFunction;" fo := own_sta_keep OF K238
      obtain ⟨cq244, kq244, q244a, q244b, q244c⟩ := isOf hZ e240' u229_1
      obtain ⟨_, _, ⟨T244, L244, k244, n244⟩, -, X244, ⟨Lc244, hQ244, l244, y244, z244⟩, st244⟩ := X240.virtualBack hx (y := (⟨"java/lang/String", "charAt", "(I)C"⟩ : MethodName)) (z := (⟨"java/lang/String", "charAt", "(I)C"⟩ : MethodName)) hown (mvT hZ (own_w hw 13 rfl)) (mvT hZ (own_w hw 14 rfl)) (notFace_of_selects (args := #[]) (mvT hZ (own_w hw 16 rfl))) (mvT hZ (own_w hw 16 rfl)) (mvT hZ (own_w hw 15 rfl)) (by decide) (backOf (W := 0) (rm2 l Z a0 hw [] r_229 (0 : Int32) cS nb229 kb229 3 (fun i => g (11 + i)) (3 : Int32) 0 fo T229.heap n0 (Nat.le_trans Z0 z241) u229_1 u229_2 u229_3 u229_4 f239 H_cs (by decide) (by decide) (by decide) f243 Hfo) hZ (own_w hw 17 rfl) (own_w hw 6 rfl) (by decide) (by decide)) q244a q244c (g := (mkF m 256 #[vi x0, vi x1, vi x2, vi (7 : Int32), vi (2 : Int32), vi (4 : Int32), vr b1, vr r_229] [(.int (0 : Int32)), (.ref r_229)])) rfl (by rw [hml]; rfl) (Steps.refl _) (argsL := [(.int (0 : Int32))]) (rest := []) (lenOf pd_17 rfl) rfl (by show 2 * 0 + _ ≤ _; exact Nat.le_of_eq rfl) (hb hby at_256) (fun _ _ => ⟨rfl, e240', (by decide : 23 + 0 ≤ _), (by decide : 1024 + 0 ≤ _)⟩)
      dsimp only [Pt.U, Pt.locs, Pt.cells, Pt.slots] at X244 l244 y244 z244 st244 hQ244
      replace l244 := l244.symm
      subst l244 y244 z244
      obtain ⟨rfl, rfl, e244⟩ := hQ244
      first | rw [List.append_nil] at X244 | skip
      refine Goes.tr st244 ?_
      have e244' : T244.heap = T229.heap := e244
      show Goes p e below _ (T244.setTop (mkF m 259 #[vi x0, vi x1, vi x2, vi (7 : Int32), vi (2 : Int32), vi (4 : Int32), vr b1, vr r_229] [(.int ((fun i => g (11 + i)) 0 &&& (255 : Int32)))]))
      refine gBI (z := 47) X244 hx hby at_259 rfl ?_
      have hc261_245 : ((fun i => g (11 + i)) 0 &&& (255 : Int32)) = (47 : Int32) := (show g 11 &&& (255 : Int32) = (47 : Int32) from by rw [g_11, f11]; decide)
      refine Goes.via (fun _ kk_ => XS.icmpNo X244.here hx rfl (hb hby at_261) rfl (teq hc261_245).2 kk_) ?_
      show Goes p e below _ (T244.setTop (mkF m 264 #[vi x0, vi x1, vi x2, vi (7 : Int32), vi (2 : Int32), vi (4 : Int32), vr b1, vr r_229] []))
      refine gIL X244 hx hby at_264 rfl ?_
      refine gIC (z := 1) X244 hx hby at_266 rfl ?_
      have hc267_246 : ¬ ((2 : Int32) < (1 : Int32)) := (by decide)
      refine Goes.via (fun _ kk_ => XS.icmpNo X244.here hx rfl (hb hby at_267) rfl (flt hc267_246).1 kk_) ?_
      show Goes p e below _ (T244.setTop (mkF m 270 #[vi x0, vi x1, vi x2, vi (7 : Int32), vi (2 : Int32), vi (4 : Int32), vr b1, vr r_229] []))
      refine gAL X244 hx hby at_270 rfl rfl ?_
      refine gIC (z := 1) X244 hx hby at_272 rfl ?_
      obtain ⟨cq247, kq247, q247a, q247b, q247c⟩ := isOf hZ e244' u229_1
      obtain ⟨_, _, ⟨T247, L247, k247, n247⟩, -, X247, ⟨Lc247, hQ247, l247, y247, z247⟩, st247⟩ := X244.virtualBack hx (y := (⟨"java/lang/String", "charAt", "(I)C"⟩ : MethodName)) (z := (⟨"java/lang/String", "charAt", "(I)C"⟩ : MethodName)) hown (mvT hZ (own_w hw 13 rfl)) (mvT hZ (own_w hw 14 rfl)) (notFace_of_selects (args := #[]) (mvT hZ (own_w hw 16 rfl))) (mvT hZ (own_w hw 16 rfl)) (mvT hZ (own_w hw 15 rfl)) (by decide) (backOf (W := 0) (rm2 l Z a0 hw [] r_229 (1 : Int32) cS nb229 kb229 3 (fun i => g (11 + i)) (3 : Int32) 1 fo T229.heap n0 (Nat.le_trans Z0 z241) u229_1 u229_2 u229_3 u229_4 f239 H_cs (by decide) (by decide) (by decide) f243 Hfo) hZ (own_w hw 17 rfl) (own_w hw 6 rfl) (by decide) (by decide)) q247a q247c (g := (mkF m 273 #[vi x0, vi x1, vi x2, vi (7 : Int32), vi (2 : Int32), vi (4 : Int32), vr b1, vr r_229] [(.int (1 : Int32)), (.ref r_229)])) rfl (by rw [hml]; rfl) (Steps.refl _) (argsL := [(.int (1 : Int32))]) (rest := []) (lenOf pd_17 rfl) rfl (by show 2 * 0 + _ ≤ _; exact Nat.le_of_eq rfl) (hb hby at_273) (fun _ _ => ⟨rfl, e244', (by decide : 23 + 0 ≤ _), (by decide : 1024 + 0 ≤ _)⟩)
      dsimp only [Pt.U, Pt.locs, Pt.cells, Pt.slots] at X247 l247 y247 z247 st247 hQ247
      replace l247 := l247.symm
      subst l247 y247 z247
      obtain ⟨rfl, rfl, e247⟩ := hQ247
      first | rw [List.append_nil] at X247 | skip
      refine Goes.tr st247 ?_
      have e247' : T247.heap = T229.heap := e247
      show Goes p e below _ (T247.setTop (mkF m 276 #[vi x0, vi x1, vi x2, vi (7 : Int32), vi (2 : Int32), vi (4 : Int32), vr b1, vr r_229] [(.int ((fun i => g (11 + i)) 1 &&& (255 : Int32)))]))
      refine gILN X247 hx hby at_276 rfl ?_
      refine gIC (z := 0) X247 hx hby at_277 rfl ?_
      have ol248 : Old Z n0 (T229.heap) := (ol228.keep K229 all0)
      obtain ⟨_, _, ⟨T249, L249, k249, n249⟩, -, ⟨X249, Si249⟩, ⟨Lc249, ⟨hQ249, tK249, hK249, hKv249, hKh249⟩, l249, y249, z249⟩, st249⟩ := own_callSW X247 hx (y := (⟨"com/example/lincra/lincra/UrlNormalizerPathAndQueryPinLaw", "pathChar", "(II)C"⟩ : MethodName)) hown (mvT hZ (own_w hw 150 rfl)) (mvT hZ (own_w hw 151 rfl)) (mvT hZ (own_w hw 3 rfl)) (mvT hZ (own_w hw 152 rfl)) (by decide) (own_backOfW (W := 1) (K := (fun U_ => KT Z own_K0 U_.vm U_.heap)) (KP := (fun U_ => KT Z own_K0 U_.vm U_.heap)) (rm35 l Z a0 hw [] x2 (0 : Int32) cS fo T229.heap n0 (Nat.le_trans Z0 z241) f239 H_cs f243 Hfo ol248 HW HC0 HC1 HC2 HC3 HC4) hZ (own_w hw 152 rfl) (own_w hw 3 rfl) (by decide) (by decide) (fun V_ hV hVh => by show KT Z own_K0 V_.vm V_.heap; rw [hVh]; exact Ks229.at_ (s := s) hV)) (g := (mkF m 278 #[vi x0, vi x1, vi x2, vi (7 : Int32), vi (2 : Int32), vi (4 : Int32), vr b1, vr r_229] [(.int (0 : Int32)), (.int x2), (.int ((fun i => g (11 + i)) 1 &&& (255 : Int32)))])) rfl (by rw [hml]; rfl) (argsL := [(.int x2), (.int (0 : Int32))]) (rest := [(.int ((fun i => g (11 + i)) 1 &&& (255 : Int32)))]) (lenOf pd_18 rfl) rfl (by show 2 * 0 + _ ≤ _; exact Nat.le_of_eq rfl) (hb hby at_278) (fun _ _ => ⟨rfl, e247', (by decide : 23 + 2 ≤ _), (by decide : 1024 + 132 ≤ _)⟩)
      dsimp only [Pt.U, Pt.locs, Pt.cells, Pt.slots] at X249 l249 y249 z249 st249 hQ249 Si249 hKv249 hKh249
      replace l249 := l249.symm
      subst l249 y249 z249
      obtain ⟨rfl, N249q, K249⟩ := hQ249
      have N249 := Fr.app N229 N249q
      refine Goes.via st249 ?_
      obtain ⟨X249', SI249, hZ, hown⟩ := rebS SI229 (Nat.le_refl _) X249 Si249 K249.1 hZ hown
      have Ks249 : KT Z own_K0 T249.vm T249.heap := by rw [← hKv249, ← hKh249]; exact hK249
      show Goes p e below _ (T249.setTop (mkF m 281 #[vi x0, vi x1, vi x2, vi (7 : Int32), vi (2 : Int32), vi (4 : Int32), vr b1, vr r_229] [(.int (own_pc x2 (0 : Int32))), (.int ((fun i => g (11 + i)) 1 &&& (255 : Int32)))]))
      have hc281_250 : ((fun i => g (11 + i)) 1 &&& (255 : Int32)) = (own_pc x2 (0 : Int32)) := (show g 12 &&& (255 : Int32) = own_pc x2 (0 : Int32) from by rw [g_12, f12]; exact (own_pcP _ _).2.2.1)
      refine Goes.via (fun _ kk_ => XS.icmpNo X249'.here hx rfl (hb hby at_281) rfl (teq hc281_250).2 kk_) ?_
      show Goes p e below _ (T249.setTop (mkF m 284 #[vi x0, vi x1, vi x2, vi (7 : Int32), vi (2 : Int32), vi (4 : Int32), vr b1, vr r_229] []))
      refine gIL X249' hx hby at_284 rfl ?_
      refine gIC (z := 2) X249' hx hby at_286 rfl ?_
      have hc287_251 : ¬ ((2 : Int32) < (2 : Int32)) := (by decide)
      refine Goes.via (fun _ kk_ => XS.icmpNo X249'.here hx rfl (hb hby at_287) rfl (flt hc287_251).1 kk_) ?_
      show Goes p e below _ (T249.setTop (mkF m 290 #[vi x0, vi x1, vi x2, vi (7 : Int32), vi (2 : Int32), vi (4 : Int32), vr b1, vr r_229] []))
      refine gAL X249' hx hby at_290 rfl rfl ?_
      refine gIC (z := 2) X249' hx hby at_292 rfl ?_
      have f252 : Exa Z T249.heap r_229 "java/lang/String" := (u229_1.keep K249)
      have f253 : Fld Z T249.heap r_229 "java/lang/String" "coder" "B" (.int (0 : Int32)) := (u229_2.keep K249 nin0)
      have f254 : Fld Z T249.heap r_229 "java/lang/String" "value" "[B" (.ref nb229) := (u229_3.keep K249 nin0)
      have f255 : Arw Z T249.heap nb229 kb229 .byte 3 (fun i => .int ((fun i => g (11 + i)) i)) := (u229_4.keep K249 nin0)
      have K256 : Keep h0 T249.heap [] := (K238.trans K249 all0)
      have f257 : Sta Z T249.heap "java/lang/String" "COMPACT_STRINGS" "Z" (.int cS) := own_sta_keep OS K256
      have f258 : Sta Z T249.heap "jdk/internal/util/Preconditions" "SIOOBE_FORMATTER" "Ljava/util/function/BiFunction;" fo := own_sta_keep OF K256
      have z260 : h0.size ≤ (T249.heap).size := (Nat.le_trans z241 K249.1)
      obtain ⟨cq259, kq259, q259a, q259b, q259c⟩ := isOf hZ rfl f252
      obtain ⟨_, _, ⟨T259, L259, k259, n259⟩, -, X259, ⟨Lc259, hQ259, l259, y259, z259⟩, st259⟩ := X249'.virtualBack hx (y := (⟨"java/lang/String", "charAt", "(I)C"⟩ : MethodName)) (z := (⟨"java/lang/String", "charAt", "(I)C"⟩ : MethodName)) hown (mvT hZ (own_w hw 13 rfl)) (mvT hZ (own_w hw 14 rfl)) (notFace_of_selects (args := #[]) (mvT hZ (own_w hw 16 rfl))) (mvT hZ (own_w hw 16 rfl)) (mvT hZ (own_w hw 15 rfl)) (by decide) (backOf (W := 0) (rm2 l Z a0 hw [] r_229 (2 : Int32) cS nb229 kb229 3 (fun i => g (11 + i)) (3 : Int32) 2 fo T249.heap n0 (Nat.le_trans Z0 z260) f252 f253 f254 f255 f257 H_cs (by decide) (by decide) (by decide) f258 Hfo) hZ (own_w hw 17 rfl) (own_w hw 6 rfl) (by decide) (by decide)) q259a q259c (g := (mkF m 293 #[vi x0, vi x1, vi x2, vi (7 : Int32), vi (2 : Int32), vi (4 : Int32), vr b1, vr r_229] [(.int (2 : Int32)), (.ref r_229)])) rfl (by rw [hml]; rfl) (Steps.refl _) (argsL := [(.int (2 : Int32))]) (rest := []) (lenOf pd_17 rfl) rfl (by show 2 * 0 + _ ≤ _; exact Nat.le_of_eq rfl) (hb hby at_293) (fun _ _ => ⟨rfl, rfl, (by decide : 25 + 0 ≤ _), (by decide : 1156 + 0 ≤ _)⟩)
      dsimp only [Pt.U, Pt.locs, Pt.cells, Pt.slots] at X259 l259 y259 z259 st259 hQ259
      replace l259 := l259.symm
      subst l259 y259 z259
      obtain ⟨rfl, rfl, e259⟩ := hQ259
      first | rw [List.append_nil] at X259 | skip
      refine Goes.tr st259 ?_
      have e259' : T259.heap = T249.heap := e259
      show Goes p e below _ (T259.setTop (mkF m 296 #[vi x0, vi x1, vi x2, vi (7 : Int32), vi (2 : Int32), vi (4 : Int32), vr b1, vr r_229] [(.int ((fun i => g (11 + i)) 2 &&& (255 : Int32)))]))
      refine gILN X259 hx hby at_296 rfl ?_
      refine gIC (z := 1) X259 hx hby at_297 rfl ?_
      have ol261 : Old Z n0 (T249.heap) := (ol248.keep K249 all0)
      obtain ⟨_, _, ⟨T262, L262, k262, n262⟩, -, ⟨X262, Si262⟩, ⟨Lc262, ⟨hQ262, tK262, hK262, hKv262, hKh262⟩, l262, y262, z262⟩, st262⟩ := own_callSW X259 hx (y := (⟨"com/example/lincra/lincra/UrlNormalizerPathAndQueryPinLaw", "pathChar", "(II)C"⟩ : MethodName)) hown (mvT hZ (own_w hw 150 rfl)) (mvT hZ (own_w hw 151 rfl)) (mvT hZ (own_w hw 3 rfl)) (mvT hZ (own_w hw 152 rfl)) (by decide) (own_backOfW (W := 1) (K := (fun U_ => KT Z own_K0 U_.vm U_.heap)) (KP := (fun U_ => KT Z own_K0 U_.vm U_.heap)) (rm35 l Z a0 hw [] x2 (1 : Int32) cS fo T249.heap n0 (Nat.le_trans Z0 z260) f257 H_cs f258 Hfo ol261 HW HC0 HC1 HC2 HC3 HC4) hZ (own_w hw 152 rfl) (own_w hw 3 rfl) (by decide) (by decide) (fun V_ hV hVh => by show KT Z own_K0 V_.vm V_.heap; rw [hVh]; exact Ks249.at_ (s := s) hV)) (g := (mkF m 298 #[vi x0, vi x1, vi x2, vi (7 : Int32), vi (2 : Int32), vi (4 : Int32), vr b1, vr r_229] [(.int (1 : Int32)), (.int x2), (.int ((fun i => g (11 + i)) 2 &&& (255 : Int32)))])) rfl (by rw [hml]; rfl) (argsL := [(.int x2), (.int (1 : Int32))]) (rest := [(.int ((fun i => g (11 + i)) 2 &&& (255 : Int32)))]) (lenOf pd_18 rfl) rfl (by show 2 * 0 + _ ≤ _; exact Nat.le_of_eq rfl) (hb hby at_298) (fun _ _ => ⟨rfl, e259', (by decide : 25 + 2 ≤ _), (by decide : 1156 + 132 ≤ _)⟩)
      dsimp only [Pt.U, Pt.locs, Pt.cells, Pt.slots] at X262 l262 y262 z262 st262 hQ262 Si262 hKv262 hKh262
      replace l262 := l262.symm
      subst l262 y262 z262
      obtain ⟨rfl, N262q, K262⟩ := hQ262
      have N262 := Fr.app N249 N262q
      refine Goes.via st262 ?_
      obtain ⟨X262', SI262, hZ, hown⟩ := rebS SI249 (Nat.le_refl _) X262 Si262 K262.1 hZ hown
      have Ks262 : KT Z own_K0 T262.vm T262.heap := by rw [← hKv262, ← hKh262]; exact hK262
      show Goes p e below _ (T262.setTop (mkF m 301 #[vi x0, vi x1, vi x2, vi (7 : Int32), vi (2 : Int32), vi (4 : Int32), vr b1, vr r_229] [(.int (own_pc x2 (1 : Int32))), (.int ((fun i => g (11 + i)) 2 &&& (255 : Int32)))]))
      have hc301_263 : ((fun i => g (11 + i)) 2 &&& (255 : Int32)) = (own_pc x2 (1 : Int32)) := (show g 13 &&& (255 : Int32) = own_pc x2 (1 : Int32) from by rw [g_13, f13]; exact (own_pcP _ _).2.2.1)
      refine Goes.via (fun _ kk_ => XS.icmpNo X262'.here hx rfl (hb hby at_301) rfl (teq hc301_263).2 kk_) ?_
      show Goes p e below _ (T262.setTop (mkF m 304 #[vi x0, vi x1, vi x2, vi (7 : Int32), vi (2 : Int32), vi (4 : Int32), vr b1, vr r_229] []))
      refine gIL X262' hx hby at_304 rfl ?_
      refine gIC (z := 3) X262' hx hby at_306 rfl ?_
      have hc307_264 : (2 : Int32) < (3 : Int32) := (by decide)
      refine Goes.via (fun _ kk_ => XS.icmpYes X262'.here hx rfl (pc0 := 307) (pc' := 324) rfl (hb hby at_307) rfl (tlt hc307_264).1 (by decide) (by decide) kk_) ?_
      show Goes p e below _ (T262.setTop (mkF m 324 #[vi x0, vi x1, vi x2, vi (7 : Int32), vi (2 : Int32), vi (4 : Int32), vr b1, vr r_229] []))
      refine gIC (z := 1) X262' hx hby at_324 rfl ?_
      refine Goes.via (fun _ kk_ => XS.goto X262'.here hx rfl (pc0 := 325) (pc' := 329) rfl (hb hby at_325) (by decide) (by decide) kk_) ?_
      show Goes p e below _ (T262.setTop (mkF m 329 #[vi x0, vi x1, vi x2, vi (7 : Int32), vi (2 : Int32), vi (4 : Int32), vr b1, vr r_229] [(.int (1 : Int32))]))
      have K265 : Keep h0 T262.heap [] := (K256.trans K262 all0)
      have hKe : KT Z own_K0 T262.vm T262.heap := by rw [show T262.heap = T262.heap from rfl]; exact Ks262.at_ (s := s) X262'.warmed
      exact own_wfinN X262' SI262 (Nat.le_refl _) (fun U_ hv hh_ => by show KT Z own_K0 U_.vm U_.heap; rw [hv, hh_]; exact hKe) hx hlk hret (by simp) (hb hby at_329) (by exact ⟨rfl, N262, K265⟩) (by first | decide | omega | (dsimp only; omega)) (by first | decide | omega | (dsimp only; omega))
    · subst ht
      obtain rfl : hv = (3 : Int32) := hhv.trans (by decide)
      have f7 : u7 = own_hc x1 (0 : Int32) := e7.trans (if_pos (by decide))
      have c7 : own_C u7 ∧ ¬ u7 = (47 : Int32) := by rw [f7]; exact own_hcP _ _
      have f8 : u8 = own_hc x1 (1 : Int32) := e8.trans (if_pos (by decide))
      have c8 : own_C u8 ∧ ¬ u8 = (47 : Int32) := by rw [f8]; exact own_hcP _ _
      have f9 : u9 = own_hc x1 (2 : Int32) := e9.trans (if_pos (by decide))
      have c9 : own_C u9 ∧ ¬ u9 = (47 : Int32) := by rw [f9]; exact own_hcP _ _
      have f10 : u10 = (47 : Int32) := e10.trans ((if_neg (by decide)).trans (if_pos (by decide)))
      have c10 : own_C u10 ∧ True := ⟨by rw [f10]; decide, trivial⟩
      have f11 : u11 = own_pc x2 (0 : Int32) := e11.trans ((if_neg (by decide)).trans (if_neg (by decide)))
      have c11 : own_C u11 ∧ True := ⟨by rw [f11]; exact own_pcP _ _, trivial⟩
      have f12 : u12 = own_pc x2 (1 : Int32) := e12.trans ((if_neg (by decide)).trans (if_neg (by decide)))
      have c12 : own_C u12 ∧ True := ⟨by rw [f12]; exact own_pcP _ _, trivial⟩
      have f13 : u13 = own_pc x2 (2 : Int32) := e13.trans ((if_neg (by decide)).trans (if_neg (by decide)))
      have c13 : own_C u13 ∧ True := ⟨by rw [f13]; exact own_pcP _ _, trivial⟩
      show Goes p e below _ (T141.setTop (mkF m 227 #[vi x0, vi x1, vi x2, vi (7 : Int32), vi (3 : Int32), vi (3 : Int32), vr b1, .unset] []))
      obtain ⟨T266, h266, X266, e266, E266, A266, D266, -, st266⟩ := newO X141 hx hZ hown (own_w hw 52 rfl) (own_w hw 7 rfl) (own_w hw 6 rfl) e141 (g := (mkF m 227 #[vi x0, vi x1, vi x2, vi (7 : Int32), vi (3 : Int32), vi (3 : Int32), vr b1, .unset] [])) rfl (hb hby at_227) (by first | decide | omega | (dsimp only; omega)) (by first | decide | omega | (dsimp only; omega))
      obtain ⟨b266, g266⟩ : ∃ z, z = (h141).size := ⟨_, rfl⟩
      rw [← g266] at A266 D266 st266
      have lne267 : b1 < b266 := Nat.lt_of_lt_of_le A141.lt (Nat.le_of_eq g266.symm)
      have ne267 : b1 ≠ b266 := Nat.ne_of_lt lne267
      have z268 : h0.size ≤ (h141).size := (Nat.le_trans (Nat.le_trans z137 K136.1) (Nat.le_of_eq W141.size.symm))
      have sz_b266 : h0.size ≤ b266 := Nat.le_trans z268 (Nat.le_of_eq g266.symm)
      have gn_b266 : n0 ≤ b266 := Nat.le_trans Z0 sz_b266
      have F_value_b266 : Fld Z h266 b266 "java/lang/String" "value" "[B" .null := D266 (Or.inr (own_w hw 9 rfl)) (ty := (.array .byte)) (by decide)
      have F_coder_b266 : Fld Z h266 b266 "java/lang/String" "coder" "B" (.int (0 : Int32)) := D266 (Or.inr (own_w hw 10 rfl)) (ty := .byte) (by decide)
      refine Goes.via st266 ?_
      show Goes p e below _ (T266.setTop (mkF m 230 #[vi x0, vi x1, vi x2, vi (7 : Int32), vi (3 : Int32), vi (3 : Int32), vr b1, .unset] [(.ref b266)]))
      refine gDU X266 hx hby at_230 rfl ?_
      refine gAL X266 hx hby at_231 rfl rfl ?_
      have f270 : Arw Z h266 b1 k1 .char 14 (own_upd (own_upd (own_upd (own_upd (own_upd (own_upd (own_upd (own_upd (own_upd (own_upd (own_upd (own_upd (own_upd (own_upd (fun _ => (.int 0)) 0 (.int (nar .char (104 : Int32)))) 1 (.int (nar .char (116 : Int32)))) 2 (.int (nar .char (116 : Int32)))) 3 (.int (nar .char (112 : Int32)))) 4 (.int (nar .char (58 : Int32)))) 5 (.int (nar .char (47 : Int32)))) 6 (.int (nar .char (47 : Int32)))) 7 (.int (nar .char u7))) 8 (.int (nar .char u8))) 9 (.int (nar .char u9))) 10 (.int (nar .char u10))) 11 (.int (nar .char u11))) 12 (.int (nar .char u12))) 13 (.int (nar .char u13))) := (A141.ext E266)
      have Va269 : Arv Z h266 b1 k1 .char (14 : Int32) ([(104 : Int32), (116 : Int32), (116 : Int32), (112 : Int32), (58 : Int32), (47 : Int32), (47 : Int32), u7, u8, u9, u10, u11, u12, u13].map Value.int) (.int (0 : Int32)) := f270.toArv (by decide) (by intro i hi; match i, hi with | 0, _ => rfl | 1, _ => rfl | 2, _ => rfl | 3, _ => rfl | 4, _ => rfl | 5, _ => rfl | 6, _ => rfl | 7, _ => exact (congrArg Value.int c7.1.1.symm).trans rfl | 8, _ => exact (congrArg Value.int c8.1.1.symm).trans rfl | 9, _ => exact (congrArg Value.int c9.1.1.symm).trans rfl | 10, _ => exact (congrArg Value.int c10.1.1.symm).trans rfl | 11, _ => exact (congrArg Value.int c11.1.1.symm).trans rfl | 12, _ => exact (congrArg Value.int c12.1.1.symm).trans rfl | 13, _ => exact (congrArg Value.int c13.1.1.symm).trans rfl | q + 14, h => exact absurd h (by omega))
      have K271 : Keep h0 h266 [] := (((K132.trans K136 all0).wr W141 (Or.inr sz_b1)).ext E266)
      have f272 : Sta Z h266 "java/lang/String" "COMPACT_STRINGS" "Z" (.int cS) := own_sta_keep OS K271
      have z273 : h0.size ≤ (h266).size := (Nat.le_trans z268 E266.1)
      have hws269 : ∀ d ∈ StrChars.Road.words, d.before a0 Z = true := fun d hd => hw d ((by decide +kernel : ∀ d ∈ StrChars.Road.words, d ∈ tables_1) d hd)
      have hlat269 : ∀ c ∈ [(104 : Int32), (116 : Int32), (116 : Int32), (112 : Int32), (58 : Int32), (47 : Int32), (47 : Int32), u7, u8, u9, u10, u11, u12, u13], ¬ c < 0 ∧ ¬ (255 : Int32) < c := (own_aS (by decide) (own_aS (by decide) (own_aS (by decide) (own_aS (by decide) (own_aS (by decide) (own_aS (by decide) (own_aS (by decide) (own_aS c7.1.2.2.2 (own_aS c8.1.2.2.2 (own_aS c9.1.2.2.2 (own_aS c10.1.2.2.2 (own_aS c11.1.2.2.2 (own_aS c12.1.2.2.2 (own_aS c13.1.2.2.2 own_a0))))))))))))))
      obtain ⟨bs269, hbs269⟩ : ∃ z : List Int32, z = [(104 : Int32), (116 : Int32), (116 : Int32), (112 : Int32), (58 : Int32), (47 : Int32), (47 : Int32), u7, u8, u9, u10, u11, u12, u13].map (fun c => c.toInt8.toInt32) := ⟨_, rfl⟩
      obtain ⟨_, _, ⟨T269, L269, k269, n269⟩, -, X269, ⟨Lc269, hQ269, l269, y269, z269⟩, st269⟩ := X266.specialBack hx (y := (⟨"java/lang/String", "<init>", "([C)V"⟩ : MethodName)) rfl hown (mvT hZ (own_w hw 53 rfl)) (mvT hZ (own_w hw 54 rfl)) (mvT hZ (own_w hw 55 rfl)) (by decide) (StrChars.Road.backV (W := 1) hZ hws269 (kI := 4) (own_w hw 7 rfl) (cs := [(104 : Int32), (116 : Int32), (116 : Int32), (112 : Int32), (58 : Int32), (47 : Int32), (47 : Int32), u7, u8, u9, u10, u11, u12, u13]) (bs := bs269) (n := 14) gn_b266 (Nat.le_trans Z0 z273) A266 F_value_b266 F_coder_b266 Va269 f272 H_cs rfl rfl (by decide) (by decide) hlat269 hbs269 (by decide) (by decide)) (g := (mkF m 233 #[vi x0, vi x1, vi x2, vi (7 : Int32), vi (3 : Int32), vi (3 : Int32), vr b1, .unset] [(.ref b1), (.ref b266), (.ref b266)])) rfl (by rw [hml]; rfl) (Steps.refl _) (a := b266) (argsL := [(.ref b1)]) (rest := [(.ref b266)]) (lenOf pd_22 rfl) rfl (by show 2 * 0 + _ ≤ _; exact Nat.le_of_eq rfl) (hb hby at_233) (fun _ _ => ⟨rfl, e266, (by first | decide | omega : 18 + 1 ≤ _), (by first | decide | omega : 974 + 14 ≤ _)⟩)
      dsimp only [Pt.U, Pt.locs, Pt.cells, Pt.slots] at X269 l269 y269 z269 st269 hQ269
      replace l269 := l269.symm
      subst l269 y269 z269
      obtain ⟨rfl, N269q, K269, uE269, uC269, sb269, kb269, ug269, uz269, un269, uV269, uA269⟩ := hQ269
      have N269 := Fr.app N141 N269q
      have ne274 : b1 ≠ sb269 := Nat.ne_of_lt (Nat.lt_of_lt_of_le f270.lt uz269)
      have ne275 : b266 ≠ sb269 := Nat.ne_of_lt (Nat.lt_of_lt_of_le A266.lt uz269)
      have sz_sb269 : h0.size ≤ sb269 := Nat.le_trans z273 uz269
      refine Goes.tr st269 ?_
      show Goes p e below _ (T269.setTop (mkF m 236 #[vi x0, vi x1, vi x2, vi (7 : Int32), vi (3 : Int32), vi (3 : Int32), vr b1, .unset] [(.ref b266)]))
      obtain ⟨g, hg⟩ : ∃ g : Nat → Int32, g = fun i => ([(104 : Int32), (116 : Int32), (116 : Int32), (112 : Int32), (58 : Int32), (47 : Int32), (47 : Int32), u7, u8, u9, u10, u11, u12, u13] : List Int32).getD i 0 := ⟨_, rfl⟩
      have g_0 : g 0 = (104 : Int32) := by rw [hg]; rfl
      have g_1 : g 1 = (116 : Int32) := by rw [hg]; rfl
      have g_2 : g 2 = (116 : Int32) := by rw [hg]; rfl
      have g_3 : g 3 = (112 : Int32) := by rw [hg]; rfl
      have g_4 : g 4 = (58 : Int32) := by rw [hg]; rfl
      have g_5 : g 5 = (47 : Int32) := by rw [hg]; rfl
      have g_6 : g 6 = (47 : Int32) := by rw [hg]; rfl
      have g_7 : g 7 = u7 := by rw [hg]; rfl
      have g_8 : g 8 = u8 := by rw [hg]; rfl
      have g_9 : g 9 = u9 := by rw [hg]; rfl
      have g_10 : g 10 = u10 := by rw [hg]; rfl
      have g_11 : g 11 = u11 := by rw [hg]; rfl
      have g_12 : g 12 = u12 := by rw [hg]; rfl
      have g_13 : g 13 = u13 := by rw [hg]; rfl
      have Vg : Arw Z T269.heap sb269 kb269 .byte 14 (fun i => .int (g i)) := Arw.ofArv uA269 (by decide) (by intro i hi; rw [hbs269]; match i, hi with | 0, _ => exact (congrArg Value.int (show (104 : Int32).toInt8.toInt32 = (104 : Int32) from by decide)).trans (congrArg Value.int g_0.symm) | 1, _ => exact (congrArg Value.int (show (116 : Int32).toInt8.toInt32 = (116 : Int32) from by decide)).trans (congrArg Value.int g_1.symm) | 2, _ => exact (congrArg Value.int (show (116 : Int32).toInt8.toInt32 = (116 : Int32) from by decide)).trans (congrArg Value.int g_2.symm) | 3, _ => exact (congrArg Value.int (show (112 : Int32).toInt8.toInt32 = (112 : Int32) from by decide)).trans (congrArg Value.int g_3.symm) | 4, _ => exact (congrArg Value.int (show (58 : Int32).toInt8.toInt32 = (58 : Int32) from by decide)).trans (congrArg Value.int g_4.symm) | 5, _ => exact (congrArg Value.int (show (47 : Int32).toInt8.toInt32 = (47 : Int32) from by decide)).trans (congrArg Value.int g_5.symm) | 6, _ => exact (congrArg Value.int (show (47 : Int32).toInt8.toInt32 = (47 : Int32) from by decide)).trans (congrArg Value.int g_6.symm) | 7, _ => exact (congrArg Value.int (show u7.toInt8.toInt32 = u7 from c7.1.2.1)).trans (congrArg Value.int g_7.symm) | 8, _ => exact (congrArg Value.int (show u8.toInt8.toInt32 = u8 from c8.1.2.1)).trans (congrArg Value.int g_8.symm) | 9, _ => exact (congrArg Value.int (show u9.toInt8.toInt32 = u9 from c9.1.2.1)).trans (congrArg Value.int g_9.symm) | 10, _ => exact (congrArg Value.int (show u10.toInt8.toInt32 = u10 from c10.1.2.1)).trans (congrArg Value.int g_10.symm) | 11, _ => exact (congrArg Value.int (show u11.toInt8.toInt32 = u11 from c11.1.2.1)).trans (congrArg Value.int g_11.symm) | 12, _ => exact (congrArg Value.int (show u12.toInt8.toInt32 = u12 from c12.1.2.1)).trans (congrArg Value.int g_12.symm) | 13, _ => exact (congrArg Value.int (show u13.toInt8.toInt32 = u13 from c13.1.2.1)).trans (congrArg Value.int g_13.symm) | n + 14, h => exact absurd h (by omega))
      have K276 : Keep h0 T269.heap [] := (K271.trans K269 (allS (Or.inr sz_b266) all0))
      have f277 : Sta Z T269.heap "java/lang/String" "COMPACT_STRINGS" "Z" (.int cS) := own_sta_keep OS K276
      have f278 : Sta Z T269.heap "jdk/internal/util/Preconditions" "SIOOBE_FORMATTER" "Ljava/util/function/BiFunction;" fo := own_sta_keep OF K276
      have ol279 : Old Z n0 (T269.heap) := ((((ol135.keep K136 all0).wr W141 gn_b1).ext E266).keep K269 (allS gn_b266 all0))
      have z281 : h0.size ≤ (T269.heap).size := (Nat.le_trans z273 K269.1)
      have Ks282 : KT Z own_K0 T136.vm (T269.heap) := (((Ks136.wr W141 (NoS.arr f140 (own_w hw 7 rfl) (by intro q; cases q))).ext E266).keep K269 (allS (NoS.str A266 (own_w hw 7 rfl) F_value_b266) all0))
      have sk283 : _ ≤ (T269.heap).size := (Nat.le_trans (Nat.le_trans (Nat.le_trans (Nat.le_refl _) (Nat.le_of_eq W141.size.symm)) E266.1) K269.1)
      obtain ⟨_, _, ⟨T280, L280, k280, n280⟩, -, ⟨X280, Si280⟩, ⟨Lc280, ⟨hQ280, tK280, hK280, hKv280, hKh280⟩, l280, y280, z280⟩, st280⟩ := own_callSW X269 hx (y := (⟨"com/example/lincra/lincra/UrlNormalizer", "pathAndQuery", "(Ljava/lang/String;)Ljava/lang/String;"⟩ : MethodName)) hown (mvT hZ (own_w hw 73 rfl)) (mvT hZ (own_w hw 74 rfl)) (mvT hZ (own_w hw 75 rfl)) (mvT hZ (own_w hw 76 rfl)) (by decide) (own_backOfW (W := 0) (K := (fun U_ => KT Z own_K0 U_.vm U_.heap)) (KP := (fun U_ => KT Z own_K0 U_.vm U_.heap)) (rmQ4 l Z a0 hw [] b266 cS fo sb269 kb269 g (10 : Int32) 10 4 T269.heap n0 (Nat.le_trans Z0 z281) uE269 uC269 uV269 Vg f277 H_cs f278 Hfo ol279 HW HC0 HC1 HC2 HC3 HC4 (by rw [g_0]; decide) (by rw [g_1]; decide) (by rw [g_2]; decide) (by rw [g_3]; decide) g_4 g_5 g_6 (by rw [show (47 : Int32).toInt8.toInt32 = (47 : Int32) by decide, show 14 - 7 = 7 by decide, own_fs, if_neg (show ¬ g 7 = (47 : Int32) by rw [g_7]; exact c7.2), own_fs, if_neg (show ¬ g 8 = (47 : Int32) by rw [g_8]; exact c8.2), own_fs, if_neg (show ¬ g 9 = (47 : Int32) by rw [g_9]; exact c9.2), own_fs, if_pos (g_10.trans f10)]; decide) (by decide) (by decide) (by decide) (by decide) (by decide)) hZ (own_w hw 76 rfl) (own_w hw 75 rfl) (by decide) (by decide) (fun V_ hV hVh => by show KT Z own_K0 V_.vm V_.heap; rw [hVh]; exact Ks282.at_ (s := s) hV)) (g := (mkF m 236 #[vi x0, vi x1, vi x2, vi (7 : Int32), vi (3 : Int32), vi (3 : Int32), vr b1, .unset] [(.ref b266)])) rfl (by rw [hml]; rfl) (argsL := [(.ref b266)]) (rest := []) (lenOf pd_23 rfl) rfl (by show 2 * 0 + _ ≤ _; exact Nat.le_of_eq rfl) (hb hby at_236) (fun _ _ => ⟨rfl, rfl, (by decide : 19 + 4 ≤ _), (by decide : 988 + 36 ≤ _)⟩)
      dsimp only [Pt.U, Pt.locs, Pt.cells, Pt.slots] at X280 l280 y280 z280 st280 hQ280 Si280 hKv280 hKh280
      replace l280 := l280.symm
      subst l280 y280 z280
      obtain ⟨r_280, nb280, kb280, rfl, N280q, K280, u280_0, u280_1, u280_2, u280_3, u280_4⟩ := hQ280
      have N280 := Fr.app N269 N280q
      refine Goes.via st280 ?_
      obtain ⟨X280', SI280, hZ, hown⟩ := rebS SI136 sk283 X280 Si280 K280.1 hZ hown
      have Ks280 : KT Z own_K0 T280.vm T280.heap := by rw [← hKv280, ← hKh280]; exact hK280
      have f284 : Arw Z T269.heap b1 k1 .char 14 (own_upd (own_upd (own_upd (own_upd (own_upd (own_upd (own_upd (own_upd (own_upd (own_upd (own_upd (own_upd (own_upd (own_upd (fun _ => (.int 0)) 0 (.int (nar .char (104 : Int32)))) 1 (.int (nar .char (116 : Int32)))) 2 (.int (nar .char (116 : Int32)))) 3 (.int (nar .char (112 : Int32)))) 4 (.int (nar .char (58 : Int32)))) 5 (.int (nar .char (47 : Int32)))) 6 (.int (nar .char (47 : Int32)))) 7 (.int (nar .char u7))) 8 (.int (nar .char u8))) 9 (.int (nar .char u9))) 10 (.int (nar .char u10))) 11 (.int (nar .char u11))) 12 (.int (nar .char u12))) 13 (.int (nar .char u13))) := (f270.keep K269 (ninS ne267 nin0))
      have ne285 : b1 ≠ r_280 := Nat.ne_of_lt (Nat.lt_of_lt_of_le f284.lt u280_0)
      have ne286 : b266 ≠ r_280 := Nat.ne_of_lt (Nat.lt_of_lt_of_le uE269.lt u280_0)
      have ne287 : sb269 ≠ r_280 := Nat.ne_of_lt (Nat.lt_of_lt_of_le uA269.lt u280_0)
      have sz_r_280 : h0.size ≤ r_280 := Nat.le_trans z281 u280_0
      have gn_r_280 : n0 ≤ r_280 := Nat.le_trans Z0 sz_r_280
      -- u280_0 : h0.size ≤ r_280
      have ne288 : r_280 ≠ nb280 := own_ne_arr u280_1 (own_w hw 7 rfl) u280_4
      show Goes p e below _ (T280.setTop (mkF m 239 #[vi x0, vi x1, vi x2, vi (7 : Int32), vi (3 : Int32), vi (3 : Int32), vr b1, .unset] [(.ref r_280)]))
      refine Goes.via (fun _ kk_ => XS.astore X280'.here hx rfl (hb hby at_239) rfl rfl (l' := #[vi x0, vi x1, vi x2, vi (7 : Int32), vi (3 : Int32), vi (3 : Int32), vr b1, vr r_280]) rfl kk_) ?_
      show Goes p e below _ (T280.setTop (mkF m 241 #[vi x0, vi x1, vi x2, vi (7 : Int32), vi (3 : Int32), vi (3 : Int32), vr b1, vr r_280] []))
      refine gAL X280' hx hby at_241 rfl rfl ?_
      have K289 : Keep h0 T280.heap [] := (K276.trans K280 all0)
      have f290 : Sta Z T280.heap "java/lang/String" "COMPACT_STRINGS" "Z" (.int cS) := own_sta_keep OS K289
      have z292 : h0.size ≤ (T280.heap).size := (Nat.le_trans z281 K280.1)
      obtain ⟨cq291, kq291, q291a, q291b, q291c⟩ := isOf hZ rfl u280_1
      obtain ⟨_, _, ⟨T291, L291, k291, n291⟩, -, X291, ⟨Lc291, hQ291, l291, y291, z291⟩, st291⟩ := X280'.virtualBack hx (y := (⟨"java/lang/String", "length", "()I"⟩ : MethodName)) (z := (⟨"java/lang/String", "length", "()I"⟩ : MethodName)) hown (mvT hZ (own_w hw 42 rfl)) (mvT hZ (own_w hw 43 rfl)) (notFace_of_selects (args := #[]) (mvT hZ (own_w hw 45 rfl))) (mvT hZ (own_w hw 45 rfl)) (mvT hZ (own_w hw 44 rfl)) (by decide) (backOf (W := 0) (rm8 l Z a0 hw [] r_280 (4 : Int32) cS nb280 kb280 4 (fun i => g (10 + i)) T280.heap n0 (Nat.le_trans Z0 z292) u280_1 u280_2 u280_3 u280_4 f290 H_cs (by decide)) hZ (own_w hw 46 rfl) (own_w hw 6 rfl) (by decide) (by decide)) q291a q291c (g := (mkF m 243 #[vi x0, vi x1, vi x2, vi (7 : Int32), vi (3 : Int32), vi (3 : Int32), vr b1, vr r_280] [(.ref r_280)])) rfl (by rw [hml]; rfl) (Steps.refl _) (argsL := []) (rest := []) (lenOf pd_8 rfl) rfl (by show 2 * 0 + _ ≤ _; exact Nat.le_of_eq rfl) (hb hby at_243) (fun _ _ => ⟨rfl, rfl, (by decide : 23 + 0 ≤ _), (by decide : 1024 + 0 ≤ _)⟩)
      dsimp only [Pt.U, Pt.locs, Pt.cells, Pt.slots] at X291 l291 y291 z291 st291 hQ291
      replace l291 := l291.symm
      subst l291 y291 z291
      obtain ⟨rfl, rfl, e291⟩ := hQ291
      first | rw [List.append_nil] at X291 | skip
      refine Goes.tr st291 ?_
      have e291' : T291.heap = T280.heap := e291
      show Goes p e below _ (T291.setTop (mkF m 246 #[vi x0, vi x1, vi x2, vi (7 : Int32), vi (3 : Int32), vi (3 : Int32), vr b1, vr r_280] [(.int (4 : Int32))]))
      refine gIL X291 hx hby at_246 rfl ?_
      refine gIC (z := 1) X291 hx hby at_248 rfl ?_
      refine Goes.via (fun _ kk_ => XS.iadd X291.here hx rfl (hb hby at_249) rfl kk_) ?_
      show Goes p e below _ (T291.setTop (mkF m 250 #[vi x0, vi x1, vi x2, vi (7 : Int32), vi (3 : Int32), vi (3 : Int32), vr b1, vr r_280] [(.int ((3 : Int32) + (1 : Int32))), (.int (4 : Int32))]))
      rw [show ((3 : Int32) + (1 : Int32)) = (4 : Int32) from by decide]
      show Goes p e below _ (T291.setTop (mkF m 250 #[vi x0, vi x1, vi x2, vi (7 : Int32), vi (3 : Int32), vi (3 : Int32), vr b1, vr r_280] [(.int (4 : Int32)), (.int (4 : Int32))]))
      have hc250_293 : (4 : Int32) = (4 : Int32) := (by decide)
      refine Goes.via (fun _ kk_ => XS.icmpNo X291.here hx rfl (hb hby at_250) rfl (teq hc250_293).2 kk_) ?_
      show Goes p e below _ (T291.setTop (mkF m 253 #[vi x0, vi x1, vi x2, vi (7 : Int32), vi (3 : Int32), vi (3 : Int32), vr b1, vr r_280] []))
      refine gAL X291 hx hby at_253 rfl rfl ?_
      refine gIC (z := 0) X291 hx hby at_255 rfl ?_
      have f294 : Sta Z T280.heap "jdk/internal/util/Preconditions" "SIOOBE_FORMATTER" "Ljava/util/function/BiFunction;" fo := own_sta_keep OF K289
      obtain ⟨cq295, kq295, q295a, q295b, q295c⟩ := isOf hZ e291' u280_1
      obtain ⟨_, _, ⟨T295, L295, k295, n295⟩, -, X295, ⟨Lc295, hQ295, l295, y295, z295⟩, st295⟩ := X291.virtualBack hx (y := (⟨"java/lang/String", "charAt", "(I)C"⟩ : MethodName)) (z := (⟨"java/lang/String", "charAt", "(I)C"⟩ : MethodName)) hown (mvT hZ (own_w hw 13 rfl)) (mvT hZ (own_w hw 14 rfl)) (notFace_of_selects (args := #[]) (mvT hZ (own_w hw 16 rfl))) (mvT hZ (own_w hw 16 rfl)) (mvT hZ (own_w hw 15 rfl)) (by decide) (backOf (W := 0) (rm2 l Z a0 hw [] r_280 (0 : Int32) cS nb280 kb280 4 (fun i => g (10 + i)) (4 : Int32) 0 fo T280.heap n0 (Nat.le_trans Z0 z292) u280_1 u280_2 u280_3 u280_4 f290 H_cs (by decide) (by decide) (by decide) f294 Hfo) hZ (own_w hw 17 rfl) (own_w hw 6 rfl) (by decide) (by decide)) q295a q295c (g := (mkF m 256 #[vi x0, vi x1, vi x2, vi (7 : Int32), vi (3 : Int32), vi (3 : Int32), vr b1, vr r_280] [(.int (0 : Int32)), (.ref r_280)])) rfl (by rw [hml]; rfl) (Steps.refl _) (argsL := [(.int (0 : Int32))]) (rest := []) (lenOf pd_17 rfl) rfl (by show 2 * 0 + _ ≤ _; exact Nat.le_of_eq rfl) (hb hby at_256) (fun _ _ => ⟨rfl, e291', (by decide : 23 + 0 ≤ _), (by decide : 1024 + 0 ≤ _)⟩)
      dsimp only [Pt.U, Pt.locs, Pt.cells, Pt.slots] at X295 l295 y295 z295 st295 hQ295
      replace l295 := l295.symm
      subst l295 y295 z295
      obtain ⟨rfl, rfl, e295⟩ := hQ295
      first | rw [List.append_nil] at X295 | skip
      refine Goes.tr st295 ?_
      have e295' : T295.heap = T280.heap := e295
      show Goes p e below _ (T295.setTop (mkF m 259 #[vi x0, vi x1, vi x2, vi (7 : Int32), vi (3 : Int32), vi (3 : Int32), vr b1, vr r_280] [(.int ((fun i => g (10 + i)) 0 &&& (255 : Int32)))]))
      refine gBI (z := 47) X295 hx hby at_259 rfl ?_
      have hc261_296 : ((fun i => g (10 + i)) 0 &&& (255 : Int32)) = (47 : Int32) := (show g 10 &&& (255 : Int32) = (47 : Int32) from by rw [g_10, f10]; decide)
      refine Goes.via (fun _ kk_ => XS.icmpNo X295.here hx rfl (hb hby at_261) rfl (teq hc261_296).2 kk_) ?_
      show Goes p e below _ (T295.setTop (mkF m 264 #[vi x0, vi x1, vi x2, vi (7 : Int32), vi (3 : Int32), vi (3 : Int32), vr b1, vr r_280] []))
      refine gIL X295 hx hby at_264 rfl ?_
      refine gIC (z := 1) X295 hx hby at_266 rfl ?_
      have hc267_297 : ¬ ((3 : Int32) < (1 : Int32)) := (by decide)
      refine Goes.via (fun _ kk_ => XS.icmpNo X295.here hx rfl (hb hby at_267) rfl (flt hc267_297).1 kk_) ?_
      show Goes p e below _ (T295.setTop (mkF m 270 #[vi x0, vi x1, vi x2, vi (7 : Int32), vi (3 : Int32), vi (3 : Int32), vr b1, vr r_280] []))
      refine gAL X295 hx hby at_270 rfl rfl ?_
      refine gIC (z := 1) X295 hx hby at_272 rfl ?_
      obtain ⟨cq298, kq298, q298a, q298b, q298c⟩ := isOf hZ e295' u280_1
      obtain ⟨_, _, ⟨T298, L298, k298, n298⟩, -, X298, ⟨Lc298, hQ298, l298, y298, z298⟩, st298⟩ := X295.virtualBack hx (y := (⟨"java/lang/String", "charAt", "(I)C"⟩ : MethodName)) (z := (⟨"java/lang/String", "charAt", "(I)C"⟩ : MethodName)) hown (mvT hZ (own_w hw 13 rfl)) (mvT hZ (own_w hw 14 rfl)) (notFace_of_selects (args := #[]) (mvT hZ (own_w hw 16 rfl))) (mvT hZ (own_w hw 16 rfl)) (mvT hZ (own_w hw 15 rfl)) (by decide) (backOf (W := 0) (rm2 l Z a0 hw [] r_280 (1 : Int32) cS nb280 kb280 4 (fun i => g (10 + i)) (4 : Int32) 1 fo T280.heap n0 (Nat.le_trans Z0 z292) u280_1 u280_2 u280_3 u280_4 f290 H_cs (by decide) (by decide) (by decide) f294 Hfo) hZ (own_w hw 17 rfl) (own_w hw 6 rfl) (by decide) (by decide)) q298a q298c (g := (mkF m 273 #[vi x0, vi x1, vi x2, vi (7 : Int32), vi (3 : Int32), vi (3 : Int32), vr b1, vr r_280] [(.int (1 : Int32)), (.ref r_280)])) rfl (by rw [hml]; rfl) (Steps.refl _) (argsL := [(.int (1 : Int32))]) (rest := []) (lenOf pd_17 rfl) rfl (by show 2 * 0 + _ ≤ _; exact Nat.le_of_eq rfl) (hb hby at_273) (fun _ _ => ⟨rfl, e295', (by decide : 23 + 0 ≤ _), (by decide : 1024 + 0 ≤ _)⟩)
      dsimp only [Pt.U, Pt.locs, Pt.cells, Pt.slots] at X298 l298 y298 z298 st298 hQ298
      replace l298 := l298.symm
      subst l298 y298 z298
      obtain ⟨rfl, rfl, e298⟩ := hQ298
      first | rw [List.append_nil] at X298 | skip
      refine Goes.tr st298 ?_
      have e298' : T298.heap = T280.heap := e298
      show Goes p e below _ (T298.setTop (mkF m 276 #[vi x0, vi x1, vi x2, vi (7 : Int32), vi (3 : Int32), vi (3 : Int32), vr b1, vr r_280] [(.int ((fun i => g (10 + i)) 1 &&& (255 : Int32)))]))
      refine gILN X298 hx hby at_276 rfl ?_
      refine gIC (z := 0) X298 hx hby at_277 rfl ?_
      have ol299 : Old Z n0 (T280.heap) := (ol279.keep K280 all0)
      obtain ⟨_, _, ⟨T300, L300, k300, n300⟩, -, ⟨X300, Si300⟩, ⟨Lc300, ⟨hQ300, tK300, hK300, hKv300, hKh300⟩, l300, y300, z300⟩, st300⟩ := own_callSW X298 hx (y := (⟨"com/example/lincra/lincra/UrlNormalizerPathAndQueryPinLaw", "pathChar", "(II)C"⟩ : MethodName)) hown (mvT hZ (own_w hw 150 rfl)) (mvT hZ (own_w hw 151 rfl)) (mvT hZ (own_w hw 3 rfl)) (mvT hZ (own_w hw 152 rfl)) (by decide) (own_backOfW (W := 1) (K := (fun U_ => KT Z own_K0 U_.vm U_.heap)) (KP := (fun U_ => KT Z own_K0 U_.vm U_.heap)) (rm35 l Z a0 hw [] x2 (0 : Int32) cS fo T280.heap n0 (Nat.le_trans Z0 z292) f290 H_cs f294 Hfo ol299 HW HC0 HC1 HC2 HC3 HC4) hZ (own_w hw 152 rfl) (own_w hw 3 rfl) (by decide) (by decide) (fun V_ hV hVh => by show KT Z own_K0 V_.vm V_.heap; rw [hVh]; exact Ks280.at_ (s := s) hV)) (g := (mkF m 278 #[vi x0, vi x1, vi x2, vi (7 : Int32), vi (3 : Int32), vi (3 : Int32), vr b1, vr r_280] [(.int (0 : Int32)), (.int x2), (.int ((fun i => g (10 + i)) 1 &&& (255 : Int32)))])) rfl (by rw [hml]; rfl) (argsL := [(.int x2), (.int (0 : Int32))]) (rest := [(.int ((fun i => g (10 + i)) 1 &&& (255 : Int32)))]) (lenOf pd_18 rfl) rfl (by show 2 * 0 + _ ≤ _; exact Nat.le_of_eq rfl) (hb hby at_278) (fun _ _ => ⟨rfl, e298', (by decide : 23 + 2 ≤ _), (by decide : 1024 + 132 ≤ _)⟩)
      dsimp only [Pt.U, Pt.locs, Pt.cells, Pt.slots] at X300 l300 y300 z300 st300 hQ300 Si300 hKv300 hKh300
      replace l300 := l300.symm
      subst l300 y300 z300
      obtain ⟨rfl, N300q, K300⟩ := hQ300
      have N300 := Fr.app N280 N300q
      refine Goes.via st300 ?_
      obtain ⟨X300', SI300, hZ, hown⟩ := rebS SI280 (Nat.le_refl _) X300 Si300 K300.1 hZ hown
      have Ks300 : KT Z own_K0 T300.vm T300.heap := by rw [← hKv300, ← hKh300]; exact hK300
      show Goes p e below _ (T300.setTop (mkF m 281 #[vi x0, vi x1, vi x2, vi (7 : Int32), vi (3 : Int32), vi (3 : Int32), vr b1, vr r_280] [(.int (own_pc x2 (0 : Int32))), (.int ((fun i => g (10 + i)) 1 &&& (255 : Int32)))]))
      have hc281_301 : ((fun i => g (10 + i)) 1 &&& (255 : Int32)) = (own_pc x2 (0 : Int32)) := (show g 11 &&& (255 : Int32) = own_pc x2 (0 : Int32) from by rw [g_11, f11]; exact (own_pcP _ _).2.2.1)
      refine Goes.via (fun _ kk_ => XS.icmpNo X300'.here hx rfl (hb hby at_281) rfl (teq hc281_301).2 kk_) ?_
      show Goes p e below _ (T300.setTop (mkF m 284 #[vi x0, vi x1, vi x2, vi (7 : Int32), vi (3 : Int32), vi (3 : Int32), vr b1, vr r_280] []))
      refine gIL X300' hx hby at_284 rfl ?_
      refine gIC (z := 2) X300' hx hby at_286 rfl ?_
      have hc287_302 : ¬ ((3 : Int32) < (2 : Int32)) := (by decide)
      refine Goes.via (fun _ kk_ => XS.icmpNo X300'.here hx rfl (hb hby at_287) rfl (flt hc287_302).1 kk_) ?_
      show Goes p e below _ (T300.setTop (mkF m 290 #[vi x0, vi x1, vi x2, vi (7 : Int32), vi (3 : Int32), vi (3 : Int32), vr b1, vr r_280] []))
      refine gAL X300' hx hby at_290 rfl rfl ?_
      refine gIC (z := 2) X300' hx hby at_292 rfl ?_
      have f303 : Exa Z T300.heap r_280 "java/lang/String" := (u280_1.keep K300)
      have f304 : Fld Z T300.heap r_280 "java/lang/String" "coder" "B" (.int (0 : Int32)) := (u280_2.keep K300 nin0)
      have f305 : Fld Z T300.heap r_280 "java/lang/String" "value" "[B" (.ref nb280) := (u280_3.keep K300 nin0)
      have f306 : Arw Z T300.heap nb280 kb280 .byte 4 (fun i => .int ((fun i => g (10 + i)) i)) := (u280_4.keep K300 nin0)
      have K307 : Keep h0 T300.heap [] := (K289.trans K300 all0)
      have f308 : Sta Z T300.heap "java/lang/String" "COMPACT_STRINGS" "Z" (.int cS) := own_sta_keep OS K307
      have f309 : Sta Z T300.heap "jdk/internal/util/Preconditions" "SIOOBE_FORMATTER" "Ljava/util/function/BiFunction;" fo := own_sta_keep OF K307
      have z311 : h0.size ≤ (T300.heap).size := (Nat.le_trans z292 K300.1)
      obtain ⟨cq310, kq310, q310a, q310b, q310c⟩ := isOf hZ rfl f303
      obtain ⟨_, _, ⟨T310, L310, k310, n310⟩, -, X310, ⟨Lc310, hQ310, l310, y310, z310⟩, st310⟩ := X300'.virtualBack hx (y := (⟨"java/lang/String", "charAt", "(I)C"⟩ : MethodName)) (z := (⟨"java/lang/String", "charAt", "(I)C"⟩ : MethodName)) hown (mvT hZ (own_w hw 13 rfl)) (mvT hZ (own_w hw 14 rfl)) (notFace_of_selects (args := #[]) (mvT hZ (own_w hw 16 rfl))) (mvT hZ (own_w hw 16 rfl)) (mvT hZ (own_w hw 15 rfl)) (by decide) (backOf (W := 0) (rm2 l Z a0 hw [] r_280 (2 : Int32) cS nb280 kb280 4 (fun i => g (10 + i)) (4 : Int32) 2 fo T300.heap n0 (Nat.le_trans Z0 z311) f303 f304 f305 f306 f308 H_cs (by decide) (by decide) (by decide) f309 Hfo) hZ (own_w hw 17 rfl) (own_w hw 6 rfl) (by decide) (by decide)) q310a q310c (g := (mkF m 293 #[vi x0, vi x1, vi x2, vi (7 : Int32), vi (3 : Int32), vi (3 : Int32), vr b1, vr r_280] [(.int (2 : Int32)), (.ref r_280)])) rfl (by rw [hml]; rfl) (Steps.refl _) (argsL := [(.int (2 : Int32))]) (rest := []) (lenOf pd_17 rfl) rfl (by show 2 * 0 + _ ≤ _; exact Nat.le_of_eq rfl) (hb hby at_293) (fun _ _ => ⟨rfl, rfl, (by decide : 25 + 0 ≤ _), (by decide : 1156 + 0 ≤ _)⟩)
      dsimp only [Pt.U, Pt.locs, Pt.cells, Pt.slots] at X310 l310 y310 z310 st310 hQ310
      replace l310 := l310.symm
      subst l310 y310 z310
      obtain ⟨rfl, rfl, e310⟩ := hQ310
      first | rw [List.append_nil] at X310 | skip
      refine Goes.tr st310 ?_
      have e310' : T310.heap = T300.heap := e310
      show Goes p e below _ (T310.setTop (mkF m 296 #[vi x0, vi x1, vi x2, vi (7 : Int32), vi (3 : Int32), vi (3 : Int32), vr b1, vr r_280] [(.int ((fun i => g (10 + i)) 2 &&& (255 : Int32)))]))
      refine gILN X310 hx hby at_296 rfl ?_
      refine gIC (z := 1) X310 hx hby at_297 rfl ?_
      have ol312 : Old Z n0 (T300.heap) := (ol299.keep K300 all0)
      obtain ⟨_, _, ⟨T313, L313, k313, n313⟩, -, ⟨X313, Si313⟩, ⟨Lc313, ⟨hQ313, tK313, hK313, hKv313, hKh313⟩, l313, y313, z313⟩, st313⟩ := own_callSW X310 hx (y := (⟨"com/example/lincra/lincra/UrlNormalizerPathAndQueryPinLaw", "pathChar", "(II)C"⟩ : MethodName)) hown (mvT hZ (own_w hw 150 rfl)) (mvT hZ (own_w hw 151 rfl)) (mvT hZ (own_w hw 3 rfl)) (mvT hZ (own_w hw 152 rfl)) (by decide) (own_backOfW (W := 1) (K := (fun U_ => KT Z own_K0 U_.vm U_.heap)) (KP := (fun U_ => KT Z own_K0 U_.vm U_.heap)) (rm35 l Z a0 hw [] x2 (1 : Int32) cS fo T300.heap n0 (Nat.le_trans Z0 z311) f308 H_cs f309 Hfo ol312 HW HC0 HC1 HC2 HC3 HC4) hZ (own_w hw 152 rfl) (own_w hw 3 rfl) (by decide) (by decide) (fun V_ hV hVh => by show KT Z own_K0 V_.vm V_.heap; rw [hVh]; exact Ks300.at_ (s := s) hV)) (g := (mkF m 298 #[vi x0, vi x1, vi x2, vi (7 : Int32), vi (3 : Int32), vi (3 : Int32), vr b1, vr r_280] [(.int (1 : Int32)), (.int x2), (.int ((fun i => g (10 + i)) 2 &&& (255 : Int32)))])) rfl (by rw [hml]; rfl) (argsL := [(.int x2), (.int (1 : Int32))]) (rest := [(.int ((fun i => g (10 + i)) 2 &&& (255 : Int32)))]) (lenOf pd_18 rfl) rfl (by show 2 * 0 + _ ≤ _; exact Nat.le_of_eq rfl) (hb hby at_298) (fun _ _ => ⟨rfl, e310', (by decide : 25 + 2 ≤ _), (by decide : 1156 + 132 ≤ _)⟩)
      dsimp only [Pt.U, Pt.locs, Pt.cells, Pt.slots] at X313 l313 y313 z313 st313 hQ313 Si313 hKv313 hKh313
      replace l313 := l313.symm
      subst l313 y313 z313
      obtain ⟨rfl, N313q, K313⟩ := hQ313
      have N313 := Fr.app N300 N313q
      refine Goes.via st313 ?_
      obtain ⟨X313', SI313, hZ, hown⟩ := rebS SI300 (Nat.le_refl _) X313 Si313 K313.1 hZ hown
      have Ks313 : KT Z own_K0 T313.vm T313.heap := by rw [← hKv313, ← hKh313]; exact hK313
      show Goes p e below _ (T313.setTop (mkF m 301 #[vi x0, vi x1, vi x2, vi (7 : Int32), vi (3 : Int32), vi (3 : Int32), vr b1, vr r_280] [(.int (own_pc x2 (1 : Int32))), (.int ((fun i => g (10 + i)) 2 &&& (255 : Int32)))]))
      have hc301_314 : ((fun i => g (10 + i)) 2 &&& (255 : Int32)) = (own_pc x2 (1 : Int32)) := (show g 12 &&& (255 : Int32) = own_pc x2 (1 : Int32) from by rw [g_12, f12]; exact (own_pcP _ _).2.2.1)
      refine Goes.via (fun _ kk_ => XS.icmpNo X313'.here hx rfl (hb hby at_301) rfl (teq hc301_314).2 kk_) ?_
      show Goes p e below _ (T313.setTop (mkF m 304 #[vi x0, vi x1, vi x2, vi (7 : Int32), vi (3 : Int32), vi (3 : Int32), vr b1, vr r_280] []))
      refine gIL X313' hx hby at_304 rfl ?_
      refine gIC (z := 3) X313' hx hby at_306 rfl ?_
      have hc307_315 : ¬ ((3 : Int32) < (3 : Int32)) := (by decide)
      refine Goes.via (fun _ kk_ => XS.icmpNo X313'.here hx rfl (hb hby at_307) rfl (flt hc307_315).1 kk_) ?_
      show Goes p e below _ (T313.setTop (mkF m 310 #[vi x0, vi x1, vi x2, vi (7 : Int32), vi (3 : Int32), vi (3 : Int32), vr b1, vr r_280] []))
      refine gAL X313' hx hby at_310 rfl rfl ?_
      refine gIC (z := 3) X313' hx hby at_312 rfl ?_
      have f316 : Exa Z T313.heap r_280 "java/lang/String" := (f303.keep K313)
      have f317 : Fld Z T313.heap r_280 "java/lang/String" "coder" "B" (.int (0 : Int32)) := (f304.keep K313 nin0)
      have f318 : Fld Z T313.heap r_280 "java/lang/String" "value" "[B" (.ref nb280) := (f305.keep K313 nin0)
      have f319 : Arw Z T313.heap nb280 kb280 .byte 4 (fun i => .int ((fun i => g (10 + i)) i)) := (f306.keep K313 nin0)
      have K320 : Keep h0 T313.heap [] := (K307.trans K313 all0)
      have f321 : Sta Z T313.heap "java/lang/String" "COMPACT_STRINGS" "Z" (.int cS) := own_sta_keep OS K320
      have f322 : Sta Z T313.heap "jdk/internal/util/Preconditions" "SIOOBE_FORMATTER" "Ljava/util/function/BiFunction;" fo := own_sta_keep OF K320
      have z324 : h0.size ≤ (T313.heap).size := (Nat.le_trans z311 K313.1)
      obtain ⟨cq323, kq323, q323a, q323b, q323c⟩ := isOf hZ rfl f316
      obtain ⟨_, _, ⟨T323, L323, k323, n323⟩, -, X323, ⟨Lc323, hQ323, l323, y323, z323⟩, st323⟩ := X313'.virtualBack hx (y := (⟨"java/lang/String", "charAt", "(I)C"⟩ : MethodName)) (z := (⟨"java/lang/String", "charAt", "(I)C"⟩ : MethodName)) hown (mvT hZ (own_w hw 13 rfl)) (mvT hZ (own_w hw 14 rfl)) (notFace_of_selects (args := #[]) (mvT hZ (own_w hw 16 rfl))) (mvT hZ (own_w hw 16 rfl)) (mvT hZ (own_w hw 15 rfl)) (by decide) (backOf (W := 0) (rm2 l Z a0 hw [] r_280 (3 : Int32) cS nb280 kb280 4 (fun i => g (10 + i)) (4 : Int32) 3 fo T313.heap n0 (Nat.le_trans Z0 z324) f316 f317 f318 f319 f321 H_cs (by decide) (by decide) (by decide) f322 Hfo) hZ (own_w hw 17 rfl) (own_w hw 6 rfl) (by decide) (by decide)) q323a q323c (g := (mkF m 313 #[vi x0, vi x1, vi x2, vi (7 : Int32), vi (3 : Int32), vi (3 : Int32), vr b1, vr r_280] [(.int (3 : Int32)), (.ref r_280)])) rfl (by rw [hml]; rfl) (Steps.refl _) (argsL := [(.int (3 : Int32))]) (rest := []) (lenOf pd_17 rfl) rfl (by show 2 * 0 + _ ≤ _; exact Nat.le_of_eq rfl) (hb hby at_313) (fun _ _ => ⟨rfl, rfl, (by decide : 27 + 0 ≤ _), (by decide : 1288 + 0 ≤ _)⟩)
      dsimp only [Pt.U, Pt.locs, Pt.cells, Pt.slots] at X323 l323 y323 z323 st323 hQ323
      replace l323 := l323.symm
      subst l323 y323 z323
      obtain ⟨rfl, rfl, e323⟩ := hQ323
      first | rw [List.append_nil] at X323 | skip
      refine Goes.tr st323 ?_
      have e323' : T323.heap = T313.heap := e323
      show Goes p e below _ (T323.setTop (mkF m 316 #[vi x0, vi x1, vi x2, vi (7 : Int32), vi (3 : Int32), vi (3 : Int32), vr b1, vr r_280] [(.int ((fun i => g (10 + i)) 3 &&& (255 : Int32)))]))
      refine gILN X323 hx hby at_316 rfl ?_
      refine gIC (z := 2) X323 hx hby at_317 rfl ?_
      have ol325 : Old Z n0 (T313.heap) := (ol312.keep K313 all0)
      obtain ⟨_, _, ⟨T326, L326, k326, n326⟩, -, ⟨X326, Si326⟩, ⟨Lc326, ⟨hQ326, tK326, hK326, hKv326, hKh326⟩, l326, y326, z326⟩, st326⟩ := own_callSW X323 hx (y := (⟨"com/example/lincra/lincra/UrlNormalizerPathAndQueryPinLaw", "pathChar", "(II)C"⟩ : MethodName)) hown (mvT hZ (own_w hw 150 rfl)) (mvT hZ (own_w hw 151 rfl)) (mvT hZ (own_w hw 3 rfl)) (mvT hZ (own_w hw 152 rfl)) (by decide) (own_backOfW (W := 1) (K := (fun U_ => KT Z own_K0 U_.vm U_.heap)) (KP := (fun U_ => KT Z own_K0 U_.vm U_.heap)) (rm35 l Z a0 hw [] x2 (2 : Int32) cS fo T313.heap n0 (Nat.le_trans Z0 z324) f321 H_cs f322 Hfo ol325 HW HC0 HC1 HC2 HC3 HC4) hZ (own_w hw 152 rfl) (own_w hw 3 rfl) (by decide) (by decide) (fun V_ hV hVh => by show KT Z own_K0 V_.vm V_.heap; rw [hVh]; exact Ks313.at_ (s := s) hV)) (g := (mkF m 318 #[vi x0, vi x1, vi x2, vi (7 : Int32), vi (3 : Int32), vi (3 : Int32), vr b1, vr r_280] [(.int (2 : Int32)), (.int x2), (.int ((fun i => g (10 + i)) 3 &&& (255 : Int32)))])) rfl (by rw [hml]; rfl) (argsL := [(.int x2), (.int (2 : Int32))]) (rest := [(.int ((fun i => g (10 + i)) 3 &&& (255 : Int32)))]) (lenOf pd_18 rfl) rfl (by show 2 * 0 + _ ≤ _; exact Nat.le_of_eq rfl) (hb hby at_318) (fun _ _ => ⟨rfl, e323', (by decide : 27 + 2 ≤ _), (by decide : 1288 + 132 ≤ _)⟩)
      dsimp only [Pt.U, Pt.locs, Pt.cells, Pt.slots] at X326 l326 y326 z326 st326 hQ326 Si326 hKv326 hKh326
      replace l326 := l326.symm
      subst l326 y326 z326
      obtain ⟨rfl, N326q, K326⟩ := hQ326
      have N326 := Fr.app N313 N326q
      refine Goes.via st326 ?_
      obtain ⟨X326', SI326, hZ, hown⟩ := rebS SI313 (Nat.le_refl _) X326 Si326 K326.1 hZ hown
      have Ks326 : KT Z own_K0 T326.vm T326.heap := by rw [← hKv326, ← hKh326]; exact hK326
      show Goes p e below _ (T326.setTop (mkF m 321 #[vi x0, vi x1, vi x2, vi (7 : Int32), vi (3 : Int32), vi (3 : Int32), vr b1, vr r_280] [(.int (own_pc x2 (2 : Int32))), (.int ((fun i => g (10 + i)) 3 &&& (255 : Int32)))]))
      have hc321_327 : ((fun i => g (10 + i)) 3 &&& (255 : Int32)) = (own_pc x2 (2 : Int32)) := (show g 13 &&& (255 : Int32) = own_pc x2 (2 : Int32) from by rw [g_13, f13]; exact (own_pcP _ _).2.2.1)
      refine Goes.via (fun _ kk_ => XS.icmpNo X326'.here hx rfl (hb hby at_321) rfl (teq hc321_327).2 kk_) ?_
      show Goes p e below _ (T326.setTop (mkF m 324 #[vi x0, vi x1, vi x2, vi (7 : Int32), vi (3 : Int32), vi (3 : Int32), vr b1, vr r_280] []))
      refine gIC (z := 1) X326' hx hby at_324 rfl ?_
      refine Goes.via (fun _ kk_ => XS.goto X326'.here hx rfl (pc0 := 325) (pc' := 329) rfl (hb hby at_325) (by decide) (by decide) kk_) ?_
      show Goes p e below _ (T326.setTop (mkF m 329 #[vi x0, vi x1, vi x2, vi (7 : Int32), vi (3 : Int32), vi (3 : Int32), vr b1, vr r_280] [(.int (1 : Int32))]))
      have K328 : Keep h0 T326.heap [] := (K320.trans K326 all0)
      have hKe : KT Z own_K0 T326.vm T326.heap := by rw [show T326.heap = T326.heap from rfl]; exact Ks326.at_ (s := s) X326'.warmed
      exact own_wfinN X326' SI326 (Nat.le_refl _) (fun U_ hv hh_ => by show KT Z own_K0 U_.vm U_.heap; rw [hv, hh_]; exact hKe) hx hlk hret (by simp) (hb hby at_329) (by exact ⟨rfl, N326, K328⟩) (by first | decide | omega | (dsimp only; omega)) (by first | decide | omega | (dsimp only; omega))
  · rw [ho]
    show Goes p e below _ (s₁.setTop (mkF m 5 #[vi x0, vi x1, vi x2, .unset, .unset, .unset, .unset, .unset] [(.int (1 : Int32)), (.int (7 : Int32))]))
    refine Goes.via (fun _ kk_ => XS.iadd X0.here hx rfl (hb hby at_5) rfl kk_) ?_
    show Goes p e below _ (s₁.setTop (mkF m 6 #[vi x0, vi x1, vi x2, .unset, .unset, .unset, .unset, .unset] [(.int ((7 : Int32) + (1 : Int32)))]))
    rw [show ((7 : Int32) + (1 : Int32)) = (8 : Int32) from by decide]
    show Goes p e below _ (s₁.setTop (mkF m 6 #[vi x0, vi x1, vi x2, .unset, .unset, .unset, .unset, .unset] [(.int (8 : Int32))]))
    refine Goes.via (fun _ kk_ => XS.istoreN X0.here hx rfl (hb hby at_6) rfl (l' := #[vi x0, vi x1, vi x2, vi (8 : Int32), .unset, .unset, .unset, .unset]) rfl kk_) ?_
    show Goes p e below _ (s₁.setTop (mkF m 7 #[vi x0, vi x1, vi x2, vi (8 : Int32), .unset, .unset, .unset, .unset] []))
    refine gILN X0 hx hby at_7 rfl ?_
    refine gIC (z := 1) X0 hx hby at_8 rfl ?_
    refine Goes.via (fun _ kk_ => XS.iushr X0.here hx rfl (hb hby at_9) rfl kk_) ?_
    show Goes p e below _ (s₁.setTop (mkF m 10 #[vi x0, vi x1, vi x2, vi (8 : Int32), .unset, .unset, .unset, .unset] [(.int ((x0.toUInt32 >>> ((1 : Int32) &&& 31).toUInt32).toInt32))]))
    refine gIC (z := 3) X0 hx hby at_10 rfl ?_
    refine Goes.via (fun _ kk_ => XS.iand X0.here hx rfl (hb hby at_11) rfl kk_) ?_
    show Goes p e below _ (s₁.setTop (mkF m 12 #[vi x0, vi x1, vi x2, vi (8 : Int32), .unset, .unset, .unset, .unset] [(.int (((x0.toUInt32 >>> ((1 : Int32) &&& 31).toUInt32).toInt32) &&& (3 : Int32)))]))
    refine Goes.via (fun _ kk_ => XS.istore X0.here hx rfl (hb hby at_12) rfl (l' := #[vi x0, vi x1, vi x2, vi (8 : Int32), vi (((x0.toUInt32 >>> ((1 : Int32) &&& 31).toUInt32).toInt32) &&& (3 : Int32)), .unset, .unset, .unset]) rfl kk_) ?_
    show Goes p e below _ (s₁.setTop (mkF m 14 #[vi x0, vi x1, vi x2, vi (8 : Int32), vi (((x0.toUInt32 >>> ((1 : Int32) &&& 31).toUInt32).toInt32) &&& (3 : Int32)), .unset, .unset, .unset] []))
    have htv := own_03 (((x0.toUInt32 >>> ((1 : Int32) &&& 31).toUInt32).toInt32))
    generalize (((x0.toUInt32 >>> ((1 : Int32) &&& 31).toUInt32).toInt32) &&& (3 : Int32)) = tv at *
    show Goes p e below _ (s₁.setTop (mkF m 14 #[vi x0, vi x1, vi x2, vi (8 : Int32), vi tv, .unset, .unset, .unset] []))
    refine gBI (z := 13) X0 hx hby at_14 rfl ?_
    refine gILN X0 hx hby at_16 rfl ?_
    refine Goes.via (fun _ kk_ => XS.isub X0.here hx rfl (hb hby at_17) rfl kk_) ?_
    show Goes p e below _ (s₁.setTop (mkF m 18 #[vi x0, vi x1, vi x2, vi (8 : Int32), vi tv, .unset, .unset, .unset] [(.int ((13 : Int32) - (8 : Int32)))]))
    rw [show ((13 : Int32) - (8 : Int32)) = (5 : Int32) from by decide]
    show Goes p e below _ (s₁.setTop (mkF m 18 #[vi x0, vi x1, vi x2, vi (8 : Int32), vi tv, .unset, .unset, .unset] [(.int (5 : Int32))]))
    refine gIL X0 hx hby at_18 rfl ?_
    refine Goes.via (fun _ kk_ => XS.isub X0.here hx rfl (hb hby at_20) rfl kk_) ?_
    show Goes p e below _ (s₁.setTop (mkF m 21 #[vi x0, vi x1, vi x2, vi (8 : Int32), vi tv, .unset, .unset, .unset] [(.int ((5 : Int32) - tv))]))
    refine Goes.via (fun _ kk_ => XS.istore X0.here hx rfl (hb hby at_21) rfl (l' := #[vi x0, vi x1, vi x2, vi (8 : Int32), vi tv, vi ((5 : Int32) - tv), .unset, .unset]) rfl kk_) ?_
    show Goes p e below _ (s₁.setTop (mkF m 23 #[vi x0, vi x1, vi x2, vi (8 : Int32), vi tv, vi ((5 : Int32) - tv), .unset, .unset] []))
    obtain ⟨hv, hhv⟩ : ∃ z, z = ((5 : Int32) - tv) := ⟨_, rfl⟩
    rw [← hhv]
    show Goes p e below _ (s₁.setTop (mkF m 23 #[vi x0, vi x1, vi x2, vi (8 : Int32), vi tv, vi hv, .unset, .unset] []))
    refine gBI (z := 14) X0 hx hby at_23 rfl ?_
    obtain ⟨T329, h329, k329, X329, e329, E329, A329, st329⟩ := own_newP X0 hx hZ (own_w hw 0 rfl) e0 (g := (mkF m 25 #[vi x0, vi x1, vi x2, vi (8 : Int32), vi tv, vi hv, .unset, .unset] [(.int (14 : Int32))])) rfl (hb hby at_25) rfl (n := (14 : Int32)) (N := 14) (by decide) (by decide) (cap := 14) (by first | decide | omega | (dsimp only; omega)) (by first | decide | omega | (dsimp only; omega)) (by first | decide | omega | (dsimp only; omega)) (by first | decide | omega | (dsimp only; omega))
    obtain ⟨b329, g329⟩ : ∃ z, z = (h0).size := ⟨_, rfl⟩
    rw [← g329] at A329 st329
    have sz_b329 : h0.size ≤ b329 := Nat.le_trans (Nat.le_refl _) (Nat.le_of_eq g329.symm)
    have gn_b329 : n0 ≤ b329 := Nat.le_trans Z0 sz_b329
    refine Goes.via st329 ?_
    show Goes p e below _ (T329.setTop (mkF m 27 #[vi x0, vi x1, vi x2, vi (8 : Int32), vi tv, vi hv, .unset, .unset] [(.ref b329)]))
    refine Goes.via (fun _ kk_ => XS.astore X329.here hx rfl (hb hby at_27) rfl rfl (l' := #[vi x0, vi x1, vi x2, vi (8 : Int32), vi tv, vi hv, vr b329, .unset]) rfl kk_) ?_
    show Goes p e below _ (T329.setTop (mkF m 29 #[vi x0, vi x1, vi x2, vi (8 : Int32), vi tv, vi hv, vr b329, .unset] []))
    refine gAL X329 hx hby at_29 rfl rfl ?_
    refine gIC (z := 0) X329 hx hby at_31 rfl ?_
    refine gIC (z := 0) X329 hx hby at_32 rfl ?_
    refine gILN X329 hx hby at_33 rfl ?_
    refine gIL X329 hx hby at_34 rfl ?_
    refine gILN X329 hx hby at_36 rfl ?_
    refine gILN X329 hx hby at_37 rfl ?_
    have K330 : Keep h0 h329 [] := ((Keep.refl h0 []).ext E329)
    have f331 : Sta Z h329 "java/lang/String" "COMPACT_STRINGS" "Z" (.int cS) := own_sta_keep OS K330
    have f332 : Sta Z h329 "jdk/internal/util/Preconditions" "SIOOBE_FORMATTER" "Ljava/util/function/BiFunction;" fo := own_sta_keep OF K330
    have ol333 : Old Z n0 (h329) := (HO.ext E329)
    have z335 : h0.size ≤ (h329).size := (Nat.le_trans (Nat.le_refl _) E329.1)
    have Ks336 : KT Z own_K0 s.vm (h329) := (Ks0.ext E329)
    have sk337 : _ ≤ (h329).size := (Nat.le_trans (Nat.zero_le _) E329.1)
    obtain ⟨_, _, ⟨T334, L334, k334, n334⟩, -, ⟨X334, Si334⟩, ⟨Lc334, ⟨hQ334, tK334, hK334, hKv334, hKh334⟩, l334, y334, z334⟩, st334⟩ := own_callSW X329 hx (y := (⟨"com/example/lincra/lincra/UrlNormalizerPathAndQueryPinLaw", "at", "(IIIII)C"⟩ : MethodName)) hown (mvT hZ (own_w hw 1 rfl)) (mvT hZ (own_w hw 2 rfl)) (mvT hZ (own_w hw 3 rfl)) (mvT hZ (own_w hw 4 rfl)) (by decide) (own_backOfW (W := 2) (K := (fun U_ => KT Z own_K8 U_.vm U_.heap)) (KP := (fun U_ => KT Z own_K0 U_.vm U_.heap)) (rmA8f l Z a0 hw [] (0 : Int32) hv x1 x2 cS fo 0 h329 n0 (Nat.le_trans Z0 z335) (by decide) (by decide) (by decide) f331 H_cs f332 Hfo ol333 HW HC0 HC1 HC2 HC3 HC4) hZ (own_w hw 4 rfl) (own_w hw 3 rfl) (by decide) (by decide) (fun V_ hV hVh => by show KT Z own_K0 V_.vm V_.heap; rw [hVh]; exact Ks336.at_ (s := s) hV)) (g := (mkF m 38 #[vi x0, vi x1, vi x2, vi (8 : Int32), vi tv, vi hv, vr b329, .unset] [(.int x2), (.int x1), (.int hv), (.int (8 : Int32)), (.int (0 : Int32)), (.int (0 : Int32)), (.ref b329)])) rfl (by rw [hml]; rfl) (argsL := [(.int (0 : Int32)), (.int (8 : Int32)), (.int hv), (.int x1), (.int x2)]) (rest := [(.int (0 : Int32)), (.ref b329)]) (lenOf pd_21 rfl) rfl (by show 2 * 0 + _ ≤ _; exact Nat.le_of_eq rfl) (hb hby at_38) (fun _ _ => ⟨rfl, e329, (by decide : 1 + 2 ≤ _), (by decide : 14 + 36 ≤ _)⟩)
    dsimp only [Pt.U, Pt.locs, Pt.cells, Pt.slots] at X334 l334 y334 z334 st334 hQ334 Si334 hKv334 hKh334
    replace l334 := l334.symm
    subst l334 y334 z334
    obtain ⟨rfl, N334q, K334⟩ := hQ334
    have N334 := Fr.app N0 N334q
    refine Goes.via st334 ?_
    obtain ⟨X334', SI334, hZ, hown⟩ := rebS SI0 sk337 X334 Si334 K334.1 hZ hown
    have Ks334 : KT Z own_K8 T334.vm T334.heap := by rw [← hKv334, ← hKh334]; exact hK334
    show Goes p e below _ (T334.setTop (mkF m 41 #[vi x0, vi x1, vi x2, vi (8 : Int32), vi tv, vi hv, vr b329, .unset] [(.int (own_g8 0 &&& (255 : Int32))), (.int (0 : Int32)), (.ref b329)]))
    rw [show (own_g8 0 &&& (255 : Int32)) = (104 : Int32) by decide]
    show Goes p e below _ (T334.setTop (mkF m 41 #[vi x0, vi x1, vi x2, vi (8 : Int32), vi tv, vi hv, vr b329, .unset] [(.int (104 : Int32)), (.int (0 : Int32)), (.ref b329)]))
    have f338 : Arw Z T334.heap b329 k329 .char 14 (fun _ => (.int 0)) := (A329.keep K334 nin0)
    obtain ⟨T339, h339, X339, e339, W339, A339, st339⟩ := own_castore X334' hx hZ rfl f338 (j := (0 : Int32)) (i := 0) (by decide) (by decide) (by first | decide | omega | (dsimp only; omega)) (g := (mkF m 41 #[vi x0, vi x1, vi x2, vi (8 : Int32), vi tv, vi hv, vr b329, .unset] [(.int (104 : Int32)), (.int (0 : Int32)), (.ref b329)])) rfl rfl (hb hby at_41)
    refine Goes.via st339 ?_
    have N339 := Fr.snoc X339 N334 gn_b329
    show Goes p e below _ (T339.setTop (mkF m 42 #[vi x0, vi x1, vi x2, vi (8 : Int32), vi tv, vi hv, vr b329, .unset] []))
    refine gAL X339 hx hby at_42 rfl rfl ?_
    refine gIC (z := 1) X339 hx hby at_44 rfl ?_
    refine gIC (z := 1) X339 hx hby at_45 rfl ?_
    refine gILN X339 hx hby at_46 rfl ?_
    refine gIL X339 hx hby at_47 rfl ?_
    refine gILN X339 hx hby at_49 rfl ?_
    refine gILN X339 hx hby at_50 rfl ?_
    have K340 : Keep h0 h339 [] := ((K330.trans K334 all0).wr W339 (Or.inr sz_b329))
    have f341 : Sta Z h339 "java/lang/String" "COMPACT_STRINGS" "Z" (.int cS) := own_sta_keep OS K340
    have f342 : Sta Z h339 "jdk/internal/util/Preconditions" "SIOOBE_FORMATTER" "Ljava/util/function/BiFunction;" fo := own_sta_keep OF K340
    have ol343 : Old Z n0 (h339) := ((ol333.keep K334 all0).wr W339 gn_b329)
    have z345 : h0.size ≤ (h339).size := (Nat.le_trans (Nat.le_trans z335 K334.1) (Nat.le_of_eq W339.size.symm))
    have Ks346 : KT Z own_K8 T334.vm (h339) := (Ks334.wr W339 (NoS.arr f338 (own_w hw 7 rfl) (by intro q; cases q)))
    have sk347 : _ ≤ (h339).size := (Nat.le_trans (Nat.le_refl _) (Nat.le_of_eq W339.size.symm))
    obtain ⟨_, _, ⟨T344, L344, k344, n344⟩, -, ⟨X344, Si344⟩, ⟨Lc344, ⟨hQ344, tK344, hK344, hKv344, hKh344⟩, l344, y344, z344⟩, st344⟩ := own_callSW X339 hx (y := (⟨"com/example/lincra/lincra/UrlNormalizerPathAndQueryPinLaw", "at", "(IIIII)C"⟩ : MethodName)) hown (mvT hZ (own_w hw 1 rfl)) (mvT hZ (own_w hw 2 rfl)) (mvT hZ (own_w hw 3 rfl)) (mvT hZ (own_w hw 4 rfl)) (by decide) (own_backOfW (W := 2) (K := (fun U_ => KT Z own_K8 U_.vm U_.heap)) (KP := (fun U_ => KT Z own_K8 U_.vm U_.heap)) (rmA8g l Z a0 hw [] (1 : Int32) hv x1 x2 cS fo 1 h339 n0 (Nat.le_trans Z0 z345) (by decide) (by decide) (by decide) f341 H_cs f342 Hfo ol343 HW HC0 HC1 HC2 HC3 HC4) hZ (own_w hw 4 rfl) (own_w hw 3 rfl) (by decide) (by decide) (fun V_ hV hVh => by show KT Z own_K8 V_.vm V_.heap; rw [hVh]; exact Ks346.at_ (s := s) hV)) (g := (mkF m 51 #[vi x0, vi x1, vi x2, vi (8 : Int32), vi tv, vi hv, vr b329, .unset] [(.int x2), (.int x1), (.int hv), (.int (8 : Int32)), (.int (1 : Int32)), (.int (1 : Int32)), (.ref b329)])) rfl (by rw [hml]; rfl) (argsL := [(.int (1 : Int32)), (.int (8 : Int32)), (.int hv), (.int x1), (.int x2)]) (rest := [(.int (1 : Int32)), (.ref b329)]) (lenOf pd_21 rfl) rfl (by show 2 * 0 + _ ≤ _; exact Nat.le_of_eq rfl) (hb hby at_51) (fun _ _ => ⟨rfl, e339, (by decide : 3 + 0 ≤ _), (by decide : 50 + 0 ≤ _)⟩)
    dsimp only [Pt.U, Pt.locs, Pt.cells, Pt.slots] at X344 l344 y344 z344 st344 hQ344 Si344 hKv344 hKh344
    replace l344 := l344.symm
    subst l344 y344 z344
    obtain ⟨rfl, N344q, K344⟩ := hQ344
    have N344 := Fr.app N339 N344q
    refine Goes.via st344 ?_
    obtain ⟨X344', SI344, hZ, hown⟩ := rebS SI334 sk347 X344 Si344 K344.1 hZ hown
    have Ks344 : KT Z own_K8 T344.vm T344.heap := by rw [← hKv344, ← hKh344]; exact hK344
    show Goes p e below _ (T344.setTop (mkF m 54 #[vi x0, vi x1, vi x2, vi (8 : Int32), vi tv, vi hv, vr b329, .unset] [(.int (own_g8 1 &&& (255 : Int32))), (.int (1 : Int32)), (.ref b329)]))
    rw [show (own_g8 1 &&& (255 : Int32)) = (116 : Int32) by decide]
    show Goes p e below _ (T344.setTop (mkF m 54 #[vi x0, vi x1, vi x2, vi (8 : Int32), vi tv, vi hv, vr b329, .unset] [(.int (116 : Int32)), (.int (1 : Int32)), (.ref b329)]))
    have f348 : Arw Z T344.heap b329 k329 .char 14 (own_upd (fun _ => (.int 0)) 0 (.int (nar .char (104 : Int32)))) := (A339.keep K344 nin0)
    obtain ⟨T349, h349, X349, e349, W349, A349, st349⟩ := own_castore X344' hx hZ rfl f348 (j := (1 : Int32)) (i := 1) (by decide) (by decide) (by first | decide | omega | (dsimp only; omega)) (g := (mkF m 54 #[vi x0, vi x1, vi x2, vi (8 : Int32), vi tv, vi hv, vr b329, .unset] [(.int (116 : Int32)), (.int (1 : Int32)), (.ref b329)])) rfl rfl (hb hby at_54)
    refine Goes.via st349 ?_
    have N349 := Fr.snoc X349 N344 gn_b329
    show Goes p e below _ (T349.setTop (mkF m 55 #[vi x0, vi x1, vi x2, vi (8 : Int32), vi tv, vi hv, vr b329, .unset] []))
    refine gAL X349 hx hby at_55 rfl rfl ?_
    refine gIC (z := 2) X349 hx hby at_57 rfl ?_
    refine gIC (z := 2) X349 hx hby at_58 rfl ?_
    refine gILN X349 hx hby at_59 rfl ?_
    refine gIL X349 hx hby at_60 rfl ?_
    refine gILN X349 hx hby at_62 rfl ?_
    refine gILN X349 hx hby at_63 rfl ?_
    have K350 : Keep h0 h349 [] := ((K340.trans K344 all0).wr W349 (Or.inr sz_b329))
    have f351 : Sta Z h349 "java/lang/String" "COMPACT_STRINGS" "Z" (.int cS) := own_sta_keep OS K350
    have f352 : Sta Z h349 "jdk/internal/util/Preconditions" "SIOOBE_FORMATTER" "Ljava/util/function/BiFunction;" fo := own_sta_keep OF K350
    have ol353 : Old Z n0 (h349) := ((ol343.keep K344 all0).wr W349 gn_b329)
    have z355 : h0.size ≤ (h349).size := (Nat.le_trans (Nat.le_trans z345 K344.1) (Nat.le_of_eq W349.size.symm))
    have Ks356 : KT Z own_K8 T344.vm (h349) := (Ks344.wr W349 (NoS.arr f348 (own_w hw 7 rfl) (by intro q; cases q)))
    have sk357 : _ ≤ (h349).size := (Nat.le_trans (Nat.le_refl _) (Nat.le_of_eq W349.size.symm))
    obtain ⟨_, _, ⟨T354, L354, k354, n354⟩, -, ⟨X354, Si354⟩, ⟨Lc354, ⟨hQ354, tK354, hK354, hKv354, hKh354⟩, l354, y354, z354⟩, st354⟩ := own_callSW X349 hx (y := (⟨"com/example/lincra/lincra/UrlNormalizerPathAndQueryPinLaw", "at", "(IIIII)C"⟩ : MethodName)) hown (mvT hZ (own_w hw 1 rfl)) (mvT hZ (own_w hw 2 rfl)) (mvT hZ (own_w hw 3 rfl)) (mvT hZ (own_w hw 4 rfl)) (by decide) (own_backOfW (W := 2) (K := (fun U_ => KT Z own_K8 U_.vm U_.heap)) (KP := (fun U_ => KT Z own_K8 U_.vm U_.heap)) (rmA8g l Z a0 hw [] (2 : Int32) hv x1 x2 cS fo 2 h349 n0 (Nat.le_trans Z0 z355) (by decide) (by decide) (by decide) f351 H_cs f352 Hfo ol353 HW HC0 HC1 HC2 HC3 HC4) hZ (own_w hw 4 rfl) (own_w hw 3 rfl) (by decide) (by decide) (fun V_ hV hVh => by show KT Z own_K8 V_.vm V_.heap; rw [hVh]; exact Ks356.at_ (s := s) hV)) (g := (mkF m 64 #[vi x0, vi x1, vi x2, vi (8 : Int32), vi tv, vi hv, vr b329, .unset] [(.int x2), (.int x1), (.int hv), (.int (8 : Int32)), (.int (2 : Int32)), (.int (2 : Int32)), (.ref b329)])) rfl (by rw [hml]; rfl) (argsL := [(.int (2 : Int32)), (.int (8 : Int32)), (.int hv), (.int x1), (.int x2)]) (rest := [(.int (2 : Int32)), (.ref b329)]) (lenOf pd_21 rfl) rfl (by show 2 * 0 + _ ≤ _; exact Nat.le_of_eq rfl) (hb hby at_64) (fun _ _ => ⟨rfl, e349, (by decide : 3 + 0 ≤ _), (by decide : 50 + 0 ≤ _)⟩)
    dsimp only [Pt.U, Pt.locs, Pt.cells, Pt.slots] at X354 l354 y354 z354 st354 hQ354 Si354 hKv354 hKh354
    replace l354 := l354.symm
    subst l354 y354 z354
    obtain ⟨rfl, N354q, K354⟩ := hQ354
    have N354 := Fr.app N349 N354q
    refine Goes.via st354 ?_
    obtain ⟨X354', SI354, hZ, hown⟩ := rebS SI344 sk357 X354 Si354 K354.1 hZ hown
    have Ks354 : KT Z own_K8 T354.vm T354.heap := by rw [← hKv354, ← hKh354]; exact hK354
    show Goes p e below _ (T354.setTop (mkF m 67 #[vi x0, vi x1, vi x2, vi (8 : Int32), vi tv, vi hv, vr b329, .unset] [(.int (own_g8 2 &&& (255 : Int32))), (.int (2 : Int32)), (.ref b329)]))
    rw [show (own_g8 2 &&& (255 : Int32)) = (116 : Int32) by decide]
    show Goes p e below _ (T354.setTop (mkF m 67 #[vi x0, vi x1, vi x2, vi (8 : Int32), vi tv, vi hv, vr b329, .unset] [(.int (116 : Int32)), (.int (2 : Int32)), (.ref b329)]))
    have f358 : Arw Z T354.heap b329 k329 .char 14 (own_upd (own_upd (fun _ => (.int 0)) 0 (.int (nar .char (104 : Int32)))) 1 (.int (nar .char (116 : Int32)))) := (A349.keep K354 nin0)
    obtain ⟨T359, h359, X359, e359, W359, A359, st359⟩ := own_castore X354' hx hZ rfl f358 (j := (2 : Int32)) (i := 2) (by decide) (by decide) (by first | decide | omega | (dsimp only; omega)) (g := (mkF m 67 #[vi x0, vi x1, vi x2, vi (8 : Int32), vi tv, vi hv, vr b329, .unset] [(.int (116 : Int32)), (.int (2 : Int32)), (.ref b329)])) rfl rfl (hb hby at_67)
    refine Goes.via st359 ?_
    have N359 := Fr.snoc X359 N354 gn_b329
    show Goes p e below _ (T359.setTop (mkF m 68 #[vi x0, vi x1, vi x2, vi (8 : Int32), vi tv, vi hv, vr b329, .unset] []))
    refine gAL X359 hx hby at_68 rfl rfl ?_
    refine gIC (z := 3) X359 hx hby at_70 rfl ?_
    refine gIC (z := 3) X359 hx hby at_71 rfl ?_
    refine gILN X359 hx hby at_72 rfl ?_
    refine gIL X359 hx hby at_73 rfl ?_
    refine gILN X359 hx hby at_75 rfl ?_
    refine gILN X359 hx hby at_76 rfl ?_
    have K360 : Keep h0 h359 [] := ((K350.trans K354 all0).wr W359 (Or.inr sz_b329))
    have f361 : Sta Z h359 "java/lang/String" "COMPACT_STRINGS" "Z" (.int cS) := own_sta_keep OS K360
    have f362 : Sta Z h359 "jdk/internal/util/Preconditions" "SIOOBE_FORMATTER" "Ljava/util/function/BiFunction;" fo := own_sta_keep OF K360
    have ol363 : Old Z n0 (h359) := ((ol353.keep K354 all0).wr W359 gn_b329)
    have z365 : h0.size ≤ (h359).size := (Nat.le_trans (Nat.le_trans z355 K354.1) (Nat.le_of_eq W359.size.symm))
    have Ks366 : KT Z own_K8 T354.vm (h359) := (Ks354.wr W359 (NoS.arr f358 (own_w hw 7 rfl) (by intro q; cases q)))
    have sk367 : _ ≤ (h359).size := (Nat.le_trans (Nat.le_refl _) (Nat.le_of_eq W359.size.symm))
    obtain ⟨_, _, ⟨T364, L364, k364, n364⟩, -, ⟨X364, Si364⟩, ⟨Lc364, ⟨hQ364, tK364, hK364, hKv364, hKh364⟩, l364, y364, z364⟩, st364⟩ := own_callSW X359 hx (y := (⟨"com/example/lincra/lincra/UrlNormalizerPathAndQueryPinLaw", "at", "(IIIII)C"⟩ : MethodName)) hown (mvT hZ (own_w hw 1 rfl)) (mvT hZ (own_w hw 2 rfl)) (mvT hZ (own_w hw 3 rfl)) (mvT hZ (own_w hw 4 rfl)) (by decide) (own_backOfW (W := 2) (K := (fun U_ => KT Z own_K8 U_.vm U_.heap)) (KP := (fun U_ => KT Z own_K8 U_.vm U_.heap)) (rmA8g l Z a0 hw [] (3 : Int32) hv x1 x2 cS fo 3 h359 n0 (Nat.le_trans Z0 z365) (by decide) (by decide) (by decide) f361 H_cs f362 Hfo ol363 HW HC0 HC1 HC2 HC3 HC4) hZ (own_w hw 4 rfl) (own_w hw 3 rfl) (by decide) (by decide) (fun V_ hV hVh => by show KT Z own_K8 V_.vm V_.heap; rw [hVh]; exact Ks366.at_ (s := s) hV)) (g := (mkF m 77 #[vi x0, vi x1, vi x2, vi (8 : Int32), vi tv, vi hv, vr b329, .unset] [(.int x2), (.int x1), (.int hv), (.int (8 : Int32)), (.int (3 : Int32)), (.int (3 : Int32)), (.ref b329)])) rfl (by rw [hml]; rfl) (argsL := [(.int (3 : Int32)), (.int (8 : Int32)), (.int hv), (.int x1), (.int x2)]) (rest := [(.int (3 : Int32)), (.ref b329)]) (lenOf pd_21 rfl) rfl (by show 2 * 0 + _ ≤ _; exact Nat.le_of_eq rfl) (hb hby at_77) (fun _ _ => ⟨rfl, e359, (by decide : 3 + 0 ≤ _), (by decide : 50 + 0 ≤ _)⟩)
    dsimp only [Pt.U, Pt.locs, Pt.cells, Pt.slots] at X364 l364 y364 z364 st364 hQ364 Si364 hKv364 hKh364
    replace l364 := l364.symm
    subst l364 y364 z364
    obtain ⟨rfl, N364q, K364⟩ := hQ364
    have N364 := Fr.app N359 N364q
    refine Goes.via st364 ?_
    obtain ⟨X364', SI364, hZ, hown⟩ := rebS SI354 sk367 X364 Si364 K364.1 hZ hown
    have Ks364 : KT Z own_K8 T364.vm T364.heap := by rw [← hKv364, ← hKh364]; exact hK364
    show Goes p e below _ (T364.setTop (mkF m 80 #[vi x0, vi x1, vi x2, vi (8 : Int32), vi tv, vi hv, vr b329, .unset] [(.int (own_g8 3 &&& (255 : Int32))), (.int (3 : Int32)), (.ref b329)]))
    rw [show (own_g8 3 &&& (255 : Int32)) = (112 : Int32) by decide]
    show Goes p e below _ (T364.setTop (mkF m 80 #[vi x0, vi x1, vi x2, vi (8 : Int32), vi tv, vi hv, vr b329, .unset] [(.int (112 : Int32)), (.int (3 : Int32)), (.ref b329)]))
    have f368 : Arw Z T364.heap b329 k329 .char 14 (own_upd (own_upd (own_upd (fun _ => (.int 0)) 0 (.int (nar .char (104 : Int32)))) 1 (.int (nar .char (116 : Int32)))) 2 (.int (nar .char (116 : Int32)))) := (A359.keep K364 nin0)
    obtain ⟨T369, h369, X369, e369, W369, A369, st369⟩ := own_castore X364' hx hZ rfl f368 (j := (3 : Int32)) (i := 3) (by decide) (by decide) (by first | decide | omega | (dsimp only; omega)) (g := (mkF m 80 #[vi x0, vi x1, vi x2, vi (8 : Int32), vi tv, vi hv, vr b329, .unset] [(.int (112 : Int32)), (.int (3 : Int32)), (.ref b329)])) rfl rfl (hb hby at_80)
    refine Goes.via st369 ?_
    have N369 := Fr.snoc X369 N364 gn_b329
    show Goes p e below _ (T369.setTop (mkF m 81 #[vi x0, vi x1, vi x2, vi (8 : Int32), vi tv, vi hv, vr b329, .unset] []))
    refine gAL X369 hx hby at_81 rfl rfl ?_
    refine gIC (z := 4) X369 hx hby at_83 rfl ?_
    refine gIC (z := 4) X369 hx hby at_84 rfl ?_
    refine gILN X369 hx hby at_85 rfl ?_
    refine gIL X369 hx hby at_86 rfl ?_
    refine gILN X369 hx hby at_88 rfl ?_
    refine gILN X369 hx hby at_89 rfl ?_
    have K370 : Keep h0 h369 [] := ((K360.trans K364 all0).wr W369 (Or.inr sz_b329))
    have f371 : Sta Z h369 "java/lang/String" "COMPACT_STRINGS" "Z" (.int cS) := own_sta_keep OS K370
    have f372 : Sta Z h369 "jdk/internal/util/Preconditions" "SIOOBE_FORMATTER" "Ljava/util/function/BiFunction;" fo := own_sta_keep OF K370
    have ol373 : Old Z n0 (h369) := ((ol363.keep K364 all0).wr W369 gn_b329)
    have z375 : h0.size ≤ (h369).size := (Nat.le_trans (Nat.le_trans z365 K364.1) (Nat.le_of_eq W369.size.symm))
    have Ks376 : KT Z own_K8 T364.vm (h369) := (Ks364.wr W369 (NoS.arr f368 (own_w hw 7 rfl) (by intro q; cases q)))
    have sk377 : _ ≤ (h369).size := (Nat.le_trans (Nat.le_refl _) (Nat.le_of_eq W369.size.symm))
    obtain ⟨_, _, ⟨T374, L374, k374, n374⟩, -, ⟨X374, Si374⟩, ⟨Lc374, ⟨hQ374, tK374, hK374, hKv374, hKh374⟩, l374, y374, z374⟩, st374⟩ := own_callSW X369 hx (y := (⟨"com/example/lincra/lincra/UrlNormalizerPathAndQueryPinLaw", "at", "(IIIII)C"⟩ : MethodName)) hown (mvT hZ (own_w hw 1 rfl)) (mvT hZ (own_w hw 2 rfl)) (mvT hZ (own_w hw 3 rfl)) (mvT hZ (own_w hw 4 rfl)) (by decide) (own_backOfW (W := 2) (K := (fun U_ => KT Z own_K8 U_.vm U_.heap)) (KP := (fun U_ => KT Z own_K8 U_.vm U_.heap)) (rmA8g l Z a0 hw [] (4 : Int32) hv x1 x2 cS fo 4 h369 n0 (Nat.le_trans Z0 z375) (by decide) (by decide) (by decide) f371 H_cs f372 Hfo ol373 HW HC0 HC1 HC2 HC3 HC4) hZ (own_w hw 4 rfl) (own_w hw 3 rfl) (by decide) (by decide) (fun V_ hV hVh => by show KT Z own_K8 V_.vm V_.heap; rw [hVh]; exact Ks376.at_ (s := s) hV)) (g := (mkF m 90 #[vi x0, vi x1, vi x2, vi (8 : Int32), vi tv, vi hv, vr b329, .unset] [(.int x2), (.int x1), (.int hv), (.int (8 : Int32)), (.int (4 : Int32)), (.int (4 : Int32)), (.ref b329)])) rfl (by rw [hml]; rfl) (argsL := [(.int (4 : Int32)), (.int (8 : Int32)), (.int hv), (.int x1), (.int x2)]) (rest := [(.int (4 : Int32)), (.ref b329)]) (lenOf pd_21 rfl) rfl (by show 2 * 0 + _ ≤ _; exact Nat.le_of_eq rfl) (hb hby at_90) (fun _ _ => ⟨rfl, e369, (by decide : 3 + 0 ≤ _), (by decide : 50 + 0 ≤ _)⟩)
    dsimp only [Pt.U, Pt.locs, Pt.cells, Pt.slots] at X374 l374 y374 z374 st374 hQ374 Si374 hKv374 hKh374
    replace l374 := l374.symm
    subst l374 y374 z374
    obtain ⟨rfl, N374q, K374⟩ := hQ374
    have N374 := Fr.app N369 N374q
    refine Goes.via st374 ?_
    obtain ⟨X374', SI374, hZ, hown⟩ := rebS SI364 sk377 X374 Si374 K374.1 hZ hown
    have Ks374 : KT Z own_K8 T374.vm T374.heap := by rw [← hKv374, ← hKh374]; exact hK374
    show Goes p e below _ (T374.setTop (mkF m 93 #[vi x0, vi x1, vi x2, vi (8 : Int32), vi tv, vi hv, vr b329, .unset] [(.int (own_g8 4 &&& (255 : Int32))), (.int (4 : Int32)), (.ref b329)]))
    rw [show (own_g8 4 &&& (255 : Int32)) = (115 : Int32) by decide]
    show Goes p e below _ (T374.setTop (mkF m 93 #[vi x0, vi x1, vi x2, vi (8 : Int32), vi tv, vi hv, vr b329, .unset] [(.int (115 : Int32)), (.int (4 : Int32)), (.ref b329)]))
    have f378 : Arw Z T374.heap b329 k329 .char 14 (own_upd (own_upd (own_upd (own_upd (fun _ => (.int 0)) 0 (.int (nar .char (104 : Int32)))) 1 (.int (nar .char (116 : Int32)))) 2 (.int (nar .char (116 : Int32)))) 3 (.int (nar .char (112 : Int32)))) := (A369.keep K374 nin0)
    obtain ⟨T379, h379, X379, e379, W379, A379, st379⟩ := own_castore X374' hx hZ rfl f378 (j := (4 : Int32)) (i := 4) (by decide) (by decide) (by first | decide | omega | (dsimp only; omega)) (g := (mkF m 93 #[vi x0, vi x1, vi x2, vi (8 : Int32), vi tv, vi hv, vr b329, .unset] [(.int (115 : Int32)), (.int (4 : Int32)), (.ref b329)])) rfl rfl (hb hby at_93)
    refine Goes.via st379 ?_
    have N379 := Fr.snoc X379 N374 gn_b329
    show Goes p e below _ (T379.setTop (mkF m 94 #[vi x0, vi x1, vi x2, vi (8 : Int32), vi tv, vi hv, vr b329, .unset] []))
    refine gAL X379 hx hby at_94 rfl rfl ?_
    refine gIC (z := 5) X379 hx hby at_96 rfl ?_
    refine gIC (z := 5) X379 hx hby at_97 rfl ?_
    refine gILN X379 hx hby at_98 rfl ?_
    refine gIL X379 hx hby at_99 rfl ?_
    refine gILN X379 hx hby at_101 rfl ?_
    refine gILN X379 hx hby at_102 rfl ?_
    have K380 : Keep h0 h379 [] := ((K370.trans K374 all0).wr W379 (Or.inr sz_b329))
    have f381 : Sta Z h379 "java/lang/String" "COMPACT_STRINGS" "Z" (.int cS) := own_sta_keep OS K380
    have f382 : Sta Z h379 "jdk/internal/util/Preconditions" "SIOOBE_FORMATTER" "Ljava/util/function/BiFunction;" fo := own_sta_keep OF K380
    have ol383 : Old Z n0 (h379) := ((ol373.keep K374 all0).wr W379 gn_b329)
    have z385 : h0.size ≤ (h379).size := (Nat.le_trans (Nat.le_trans z375 K374.1) (Nat.le_of_eq W379.size.symm))
    have Ks386 : KT Z own_K8 T374.vm (h379) := (Ks374.wr W379 (NoS.arr f378 (own_w hw 7 rfl) (by intro q; cases q)))
    have sk387 : _ ≤ (h379).size := (Nat.le_trans (Nat.le_refl _) (Nat.le_of_eq W379.size.symm))
    obtain ⟨_, _, ⟨T384, L384, k384, n384⟩, -, ⟨X384, Si384⟩, ⟨Lc384, ⟨hQ384, tK384, hK384, hKv384, hKh384⟩, l384, y384, z384⟩, st384⟩ := own_callSW X379 hx (y := (⟨"com/example/lincra/lincra/UrlNormalizerPathAndQueryPinLaw", "at", "(IIIII)C"⟩ : MethodName)) hown (mvT hZ (own_w hw 1 rfl)) (mvT hZ (own_w hw 2 rfl)) (mvT hZ (own_w hw 3 rfl)) (mvT hZ (own_w hw 4 rfl)) (by decide) (own_backOfW (W := 2) (K := (fun U_ => KT Z own_K8 U_.vm U_.heap)) (KP := (fun U_ => KT Z own_K8 U_.vm U_.heap)) (rmA8g l Z a0 hw [] (5 : Int32) hv x1 x2 cS fo 5 h379 n0 (Nat.le_trans Z0 z385) (by decide) (by decide) (by decide) f381 H_cs f382 Hfo ol383 HW HC0 HC1 HC2 HC3 HC4) hZ (own_w hw 4 rfl) (own_w hw 3 rfl) (by decide) (by decide) (fun V_ hV hVh => by show KT Z own_K8 V_.vm V_.heap; rw [hVh]; exact Ks386.at_ (s := s) hV)) (g := (mkF m 103 #[vi x0, vi x1, vi x2, vi (8 : Int32), vi tv, vi hv, vr b329, .unset] [(.int x2), (.int x1), (.int hv), (.int (8 : Int32)), (.int (5 : Int32)), (.int (5 : Int32)), (.ref b329)])) rfl (by rw [hml]; rfl) (argsL := [(.int (5 : Int32)), (.int (8 : Int32)), (.int hv), (.int x1), (.int x2)]) (rest := [(.int (5 : Int32)), (.ref b329)]) (lenOf pd_21 rfl) rfl (by show 2 * 0 + _ ≤ _; exact Nat.le_of_eq rfl) (hb hby at_103) (fun _ _ => ⟨rfl, e379, (by decide : 3 + 0 ≤ _), (by decide : 50 + 0 ≤ _)⟩)
    dsimp only [Pt.U, Pt.locs, Pt.cells, Pt.slots] at X384 l384 y384 z384 st384 hQ384 Si384 hKv384 hKh384
    replace l384 := l384.symm
    subst l384 y384 z384
    obtain ⟨rfl, N384q, K384⟩ := hQ384
    have N384 := Fr.app N379 N384q
    refine Goes.via st384 ?_
    obtain ⟨X384', SI384, hZ, hown⟩ := rebS SI374 sk387 X384 Si384 K384.1 hZ hown
    have Ks384 : KT Z own_K8 T384.vm T384.heap := by rw [← hKv384, ← hKh384]; exact hK384
    show Goes p e below _ (T384.setTop (mkF m 106 #[vi x0, vi x1, vi x2, vi (8 : Int32), vi tv, vi hv, vr b329, .unset] [(.int (own_g8 5 &&& (255 : Int32))), (.int (5 : Int32)), (.ref b329)]))
    rw [show (own_g8 5 &&& (255 : Int32)) = (58 : Int32) by decide]
    show Goes p e below _ (T384.setTop (mkF m 106 #[vi x0, vi x1, vi x2, vi (8 : Int32), vi tv, vi hv, vr b329, .unset] [(.int (58 : Int32)), (.int (5 : Int32)), (.ref b329)]))
    have f388 : Arw Z T384.heap b329 k329 .char 14 (own_upd (own_upd (own_upd (own_upd (own_upd (fun _ => (.int 0)) 0 (.int (nar .char (104 : Int32)))) 1 (.int (nar .char (116 : Int32)))) 2 (.int (nar .char (116 : Int32)))) 3 (.int (nar .char (112 : Int32)))) 4 (.int (nar .char (115 : Int32)))) := (A379.keep K384 nin0)
    obtain ⟨T389, h389, X389, e389, W389, A389, st389⟩ := own_castore X384' hx hZ rfl f388 (j := (5 : Int32)) (i := 5) (by decide) (by decide) (by first | decide | omega | (dsimp only; omega)) (g := (mkF m 106 #[vi x0, vi x1, vi x2, vi (8 : Int32), vi tv, vi hv, vr b329, .unset] [(.int (58 : Int32)), (.int (5 : Int32)), (.ref b329)])) rfl rfl (hb hby at_106)
    refine Goes.via st389 ?_
    have N389 := Fr.snoc X389 N384 gn_b329
    show Goes p e below _ (T389.setTop (mkF m 107 #[vi x0, vi x1, vi x2, vi (8 : Int32), vi tv, vi hv, vr b329, .unset] []))
    refine gAL X389 hx hby at_107 rfl rfl ?_
    refine gBI (z := 6) X389 hx hby at_109 rfl ?_
    refine gBI (z := 6) X389 hx hby at_111 rfl ?_
    refine gILN X389 hx hby at_113 rfl ?_
    refine gIL X389 hx hby at_114 rfl ?_
    refine gILN X389 hx hby at_116 rfl ?_
    refine gILN X389 hx hby at_117 rfl ?_
    have K390 : Keep h0 h389 [] := ((K380.trans K384 all0).wr W389 (Or.inr sz_b329))
    have f391 : Sta Z h389 "java/lang/String" "COMPACT_STRINGS" "Z" (.int cS) := own_sta_keep OS K390
    have f392 : Sta Z h389 "jdk/internal/util/Preconditions" "SIOOBE_FORMATTER" "Ljava/util/function/BiFunction;" fo := own_sta_keep OF K390
    have ol393 : Old Z n0 (h389) := ((ol383.keep K384 all0).wr W389 gn_b329)
    have z395 : h0.size ≤ (h389).size := (Nat.le_trans (Nat.le_trans z385 K384.1) (Nat.le_of_eq W389.size.symm))
    have Ks396 : KT Z own_K8 T384.vm (h389) := (Ks384.wr W389 (NoS.arr f388 (own_w hw 7 rfl) (by intro q; cases q)))
    have sk397 : _ ≤ (h389).size := (Nat.le_trans (Nat.le_refl _) (Nat.le_of_eq W389.size.symm))
    obtain ⟨_, _, ⟨T394, L394, k394, n394⟩, -, ⟨X394, Si394⟩, ⟨Lc394, ⟨hQ394, tK394, hK394, hKv394, hKh394⟩, l394, y394, z394⟩, st394⟩ := own_callSW X389 hx (y := (⟨"com/example/lincra/lincra/UrlNormalizerPathAndQueryPinLaw", "at", "(IIIII)C"⟩ : MethodName)) hown (mvT hZ (own_w hw 1 rfl)) (mvT hZ (own_w hw 2 rfl)) (mvT hZ (own_w hw 3 rfl)) (mvT hZ (own_w hw 4 rfl)) (by decide) (own_backOfW (W := 2) (K := (fun U_ => KT Z own_K8 U_.vm U_.heap)) (KP := (fun U_ => KT Z own_K8 U_.vm U_.heap)) (rmA8g l Z a0 hw [] (6 : Int32) hv x1 x2 cS fo 6 h389 n0 (Nat.le_trans Z0 z395) (by decide) (by decide) (by decide) f391 H_cs f392 Hfo ol393 HW HC0 HC1 HC2 HC3 HC4) hZ (own_w hw 4 rfl) (own_w hw 3 rfl) (by decide) (by decide) (fun V_ hV hVh => by show KT Z own_K8 V_.vm V_.heap; rw [hVh]; exact Ks396.at_ (s := s) hV)) (g := (mkF m 118 #[vi x0, vi x1, vi x2, vi (8 : Int32), vi tv, vi hv, vr b329, .unset] [(.int x2), (.int x1), (.int hv), (.int (8 : Int32)), (.int (6 : Int32)), (.int (6 : Int32)), (.ref b329)])) rfl (by rw [hml]; rfl) (argsL := [(.int (6 : Int32)), (.int (8 : Int32)), (.int hv), (.int x1), (.int x2)]) (rest := [(.int (6 : Int32)), (.ref b329)]) (lenOf pd_21 rfl) rfl (by show 2 * 0 + _ ≤ _; exact Nat.le_of_eq rfl) (hb hby at_118) (fun _ _ => ⟨rfl, e389, (by decide : 3 + 0 ≤ _), (by decide : 50 + 0 ≤ _)⟩)
    dsimp only [Pt.U, Pt.locs, Pt.cells, Pt.slots] at X394 l394 y394 z394 st394 hQ394 Si394 hKv394 hKh394
    replace l394 := l394.symm
    subst l394 y394 z394
    obtain ⟨rfl, N394q, K394⟩ := hQ394
    have N394 := Fr.app N389 N394q
    refine Goes.via st394 ?_
    obtain ⟨X394', SI394, hZ, hown⟩ := rebS SI384 sk397 X394 Si394 K394.1 hZ hown
    have Ks394 : KT Z own_K8 T394.vm T394.heap := by rw [← hKv394, ← hKh394]; exact hK394
    show Goes p e below _ (T394.setTop (mkF m 121 #[vi x0, vi x1, vi x2, vi (8 : Int32), vi tv, vi hv, vr b329, .unset] [(.int (own_g8 6 &&& (255 : Int32))), (.int (6 : Int32)), (.ref b329)]))
    rw [show (own_g8 6 &&& (255 : Int32)) = (47 : Int32) by decide]
    show Goes p e below _ (T394.setTop (mkF m 121 #[vi x0, vi x1, vi x2, vi (8 : Int32), vi tv, vi hv, vr b329, .unset] [(.int (47 : Int32)), (.int (6 : Int32)), (.ref b329)]))
    have f398 : Arw Z T394.heap b329 k329 .char 14 (own_upd (own_upd (own_upd (own_upd (own_upd (own_upd (fun _ => (.int 0)) 0 (.int (nar .char (104 : Int32)))) 1 (.int (nar .char (116 : Int32)))) 2 (.int (nar .char (116 : Int32)))) 3 (.int (nar .char (112 : Int32)))) 4 (.int (nar .char (115 : Int32)))) 5 (.int (nar .char (58 : Int32)))) := (A389.keep K394 nin0)
    obtain ⟨T399, h399, X399, e399, W399, A399, st399⟩ := own_castore X394' hx hZ rfl f398 (j := (6 : Int32)) (i := 6) (by decide) (by decide) (by first | decide | omega | (dsimp only; omega)) (g := (mkF m 121 #[vi x0, vi x1, vi x2, vi (8 : Int32), vi tv, vi hv, vr b329, .unset] [(.int (47 : Int32)), (.int (6 : Int32)), (.ref b329)])) rfl rfl (hb hby at_121)
    refine Goes.via st399 ?_
    have N399 := Fr.snoc X399 N394 gn_b329
    show Goes p e below _ (T399.setTop (mkF m 122 #[vi x0, vi x1, vi x2, vi (8 : Int32), vi tv, vi hv, vr b329, .unset] []))
    refine gAL X399 hx hby at_122 rfl rfl ?_
    refine gBI (z := 7) X399 hx hby at_124 rfl ?_
    refine gBI (z := 7) X399 hx hby at_126 rfl ?_
    refine gILN X399 hx hby at_128 rfl ?_
    refine gIL X399 hx hby at_129 rfl ?_
    refine gILN X399 hx hby at_131 rfl ?_
    refine gILN X399 hx hby at_132 rfl ?_
    have K400 : Keep h0 h399 [] := ((K390.trans K394 all0).wr W399 (Or.inr sz_b329))
    have f401 : Sta Z h399 "java/lang/String" "COMPACT_STRINGS" "Z" (.int cS) := own_sta_keep OS K400
    have f402 : Sta Z h399 "jdk/internal/util/Preconditions" "SIOOBE_FORMATTER" "Ljava/util/function/BiFunction;" fo := own_sta_keep OF K400
    have ol403 : Old Z n0 (h399) := ((ol393.keep K394 all0).wr W399 gn_b329)
    have z405 : h0.size ≤ (h399).size := (Nat.le_trans (Nat.le_trans z395 K394.1) (Nat.le_of_eq W399.size.symm))
    have Ks406 : KT Z own_K8 T394.vm (h399) := (Ks394.wr W399 (NoS.arr f398 (own_w hw 7 rfl) (by intro q; cases q)))
    have sk407 : _ ≤ (h399).size := (Nat.le_trans (Nat.le_refl _) (Nat.le_of_eq W399.size.symm))
    obtain ⟨_, _, ⟨T404, L404, k404, n404⟩, -, ⟨X404, Si404⟩, ⟨Lc404, ⟨hQ404, tK404, hK404, hKv404, hKh404⟩, l404, y404, z404⟩, st404⟩ := own_callSW X399 hx (y := (⟨"com/example/lincra/lincra/UrlNormalizerPathAndQueryPinLaw", "at", "(IIIII)C"⟩ : MethodName)) hown (mvT hZ (own_w hw 1 rfl)) (mvT hZ (own_w hw 2 rfl)) (mvT hZ (own_w hw 3 rfl)) (mvT hZ (own_w hw 4 rfl)) (by decide) (own_backOfW (W := 2) (K := (fun U_ => KT Z own_K8 U_.vm U_.heap)) (KP := (fun U_ => KT Z own_K8 U_.vm U_.heap)) (rmA8g l Z a0 hw [] (7 : Int32) hv x1 x2 cS fo 7 h399 n0 (Nat.le_trans Z0 z405) (by decide) (by decide) (by decide) f401 H_cs f402 Hfo ol403 HW HC0 HC1 HC2 HC3 HC4) hZ (own_w hw 4 rfl) (own_w hw 3 rfl) (by decide) (by decide) (fun V_ hV hVh => by show KT Z own_K8 V_.vm V_.heap; rw [hVh]; exact Ks406.at_ (s := s) hV)) (g := (mkF m 133 #[vi x0, vi x1, vi x2, vi (8 : Int32), vi tv, vi hv, vr b329, .unset] [(.int x2), (.int x1), (.int hv), (.int (8 : Int32)), (.int (7 : Int32)), (.int (7 : Int32)), (.ref b329)])) rfl (by rw [hml]; rfl) (argsL := [(.int (7 : Int32)), (.int (8 : Int32)), (.int hv), (.int x1), (.int x2)]) (rest := [(.int (7 : Int32)), (.ref b329)]) (lenOf pd_21 rfl) rfl (by show 2 * 0 + _ ≤ _; exact Nat.le_of_eq rfl) (hb hby at_133) (fun _ _ => ⟨rfl, e399, (by decide : 3 + 0 ≤ _), (by decide : 50 + 0 ≤ _)⟩)
    dsimp only [Pt.U, Pt.locs, Pt.cells, Pt.slots] at X404 l404 y404 z404 st404 hQ404 Si404 hKv404 hKh404
    replace l404 := l404.symm
    subst l404 y404 z404
    obtain ⟨rfl, N404q, K404⟩ := hQ404
    have N404 := Fr.app N399 N404q
    refine Goes.via st404 ?_
    obtain ⟨X404', SI404, hZ, hown⟩ := rebS SI394 sk407 X404 Si404 K404.1 hZ hown
    have Ks404 : KT Z own_K8 T404.vm T404.heap := by rw [← hKv404, ← hKh404]; exact hK404
    show Goes p e below _ (T404.setTop (mkF m 136 #[vi x0, vi x1, vi x2, vi (8 : Int32), vi tv, vi hv, vr b329, .unset] [(.int (own_g8 7 &&& (255 : Int32))), (.int (7 : Int32)), (.ref b329)]))
    rw [show (own_g8 7 &&& (255 : Int32)) = (47 : Int32) by decide]
    show Goes p e below _ (T404.setTop (mkF m 136 #[vi x0, vi x1, vi x2, vi (8 : Int32), vi tv, vi hv, vr b329, .unset] [(.int (47 : Int32)), (.int (7 : Int32)), (.ref b329)]))
    have f408 : Arw Z T404.heap b329 k329 .char 14 (own_upd (own_upd (own_upd (own_upd (own_upd (own_upd (own_upd (fun _ => (.int 0)) 0 (.int (nar .char (104 : Int32)))) 1 (.int (nar .char (116 : Int32)))) 2 (.int (nar .char (116 : Int32)))) 3 (.int (nar .char (112 : Int32)))) 4 (.int (nar .char (115 : Int32)))) 5 (.int (nar .char (58 : Int32)))) 6 (.int (nar .char (47 : Int32)))) := (A399.keep K404 nin0)
    obtain ⟨T409, h409, X409, e409, W409, A409, st409⟩ := own_castore X404' hx hZ rfl f408 (j := (7 : Int32)) (i := 7) (by decide) (by decide) (by first | decide | omega | (dsimp only; omega)) (g := (mkF m 136 #[vi x0, vi x1, vi x2, vi (8 : Int32), vi tv, vi hv, vr b329, .unset] [(.int (47 : Int32)), (.int (7 : Int32)), (.ref b329)])) rfl rfl (hb hby at_136)
    refine Goes.via st409 ?_
    have N409 := Fr.snoc X409 N404 gn_b329
    show Goes p e below _ (T409.setTop (mkF m 137 #[vi x0, vi x1, vi x2, vi (8 : Int32), vi tv, vi hv, vr b329, .unset] []))
    refine gAL X409 hx hby at_137 rfl rfl ?_
    refine gBI (z := 8) X409 hx hby at_139 rfl ?_
    refine gBI (z := 8) X409 hx hby at_141 rfl ?_
    refine gILN X409 hx hby at_143 rfl ?_
    refine gIL X409 hx hby at_144 rfl ?_
    refine gILN X409 hx hby at_146 rfl ?_
    refine gILN X409 hx hby at_147 rfl ?_
    have K410 : Keep h0 h409 [] := ((K400.trans K404 all0).wr W409 (Or.inr sz_b329))
    have f411 : Sta Z h409 "java/lang/String" "COMPACT_STRINGS" "Z" (.int cS) := own_sta_keep OS K410
    have f412 : Sta Z h409 "jdk/internal/util/Preconditions" "SIOOBE_FORMATTER" "Ljava/util/function/BiFunction;" fo := own_sta_keep OF K410
    have ol413 : Old Z n0 (h409) := ((ol403.keep K404 all0).wr W409 gn_b329)
    have z415 : h0.size ≤ (h409).size := (Nat.le_trans (Nat.le_trans z405 K404.1) (Nat.le_of_eq W409.size.symm))
    have Ks416 : KT Z own_K8 T404.vm (h409) := (Ks404.wr W409 (NoS.arr f408 (own_w hw 7 rfl) (by intro q; cases q)))
    have sk417 : _ ≤ (h409).size := (Nat.le_trans (Nat.le_refl _) (Nat.le_of_eq W409.size.symm))
    obtain ⟨_, _, ⟨T414, L414, k414, n414⟩, -, ⟨X414, Si414⟩, ⟨Lc414, ⟨hQ414, tK414, hK414, hKv414, hKh414⟩, l414, y414, z414⟩, st414⟩ := own_callSW X409 hx (y := (⟨"com/example/lincra/lincra/UrlNormalizerPathAndQueryPinLaw", "at", "(IIIII)C"⟩ : MethodName)) hown (mvT hZ (own_w hw 1 rfl)) (mvT hZ (own_w hw 2 rfl)) (mvT hZ (own_w hw 3 rfl)) (mvT hZ (own_w hw 4 rfl)) (by decide) (own_backOfW (W := 2) (K := (fun U_ => KT Z own_K0 U_.vm U_.heap)) (KP := (fun U_ => KT Z own_K0 U_.vm U_.heap)) (rmA8r l Z a0 hw [] (8 : Int32) hv x1 x2 cS fo h409 n0 (Nat.le_trans Z0 z415) (by decide) f411 H_cs f412 Hfo ol413 HW HC0 HC1 HC2 HC3 HC4) hZ (own_w hw 4 rfl) (own_w hw 3 rfl) (by decide) (by decide) (fun V_ hV hVh => by show KT Z own_K0 V_.vm V_.heap; rw [hVh]; exact (KT.less Ks416).at_ (s := s) hV)) (g := (mkF m 148 #[vi x0, vi x1, vi x2, vi (8 : Int32), vi tv, vi hv, vr b329, .unset] [(.int x2), (.int x1), (.int hv), (.int (8 : Int32)), (.int (8 : Int32)), (.int (8 : Int32)), (.ref b329)])) rfl (by rw [hml]; rfl) (argsL := [(.int (8 : Int32)), (.int (8 : Int32)), (.int hv), (.int x1), (.int x2)]) (rest := [(.int (8 : Int32)), (.ref b329)]) (lenOf pd_21 rfl) rfl (by show 2 * 0 + _ ≤ _; exact Nat.le_of_eq rfl) (hb hby at_148) (fun _ _ => ⟨rfl, e409, (by decide : 3 + 2 ≤ _), (by decide : 50 + 132 ≤ _)⟩)
    dsimp only [Pt.U, Pt.locs, Pt.cells, Pt.slots] at X414 l414 y414 z414 st414 hQ414 Si414 hKv414 hKh414
    replace l414 := l414.symm
    subst l414 y414 z414
    obtain ⟨rfl, N414q, K414⟩ := hQ414
    have N414 := Fr.app N409 N414q
    refine Goes.via st414 ?_
    obtain ⟨X414', SI414, hZ, hown⟩ := rebS SI404 sk417 X414 Si414 K414.1 hZ hown
    have Ks414 : KT Z own_K0 T414.vm T414.heap := by rw [← hKv414, ← hKh414]; exact hK414
    show Goes p e below _ (T414.setTop (mkF m 151 #[vi x0, vi x1, vi x2, vi (8 : Int32), vi tv, vi hv, vr b329, .unset] [(.int (if (8 : Int32) < ((8 : Int32) + hv) then own_hc x1 ((8 : Int32) - (8 : Int32)) else if (8 : Int32) = ((8 : Int32) + hv) then (47 : Int32) else own_pc x2 ((((8 : Int32) - (8 : Int32)) - hv) - (1 : Int32)))), (.int (8 : Int32)), (.ref b329)]))
    obtain ⟨u8, e8⟩ : ∃ z, z = (if (8 : Int32) < ((8 : Int32) + hv) then own_hc x1 ((8 : Int32) - (8 : Int32)) else if (8 : Int32) = ((8 : Int32) + hv) then (47 : Int32) else own_pc x2 ((((8 : Int32) - (8 : Int32)) - hv) - (1 : Int32))) := ⟨_, rfl⟩
    rw [← e8]
    show Goes p e below _ (T414.setTop (mkF m 151 #[vi x0, vi x1, vi x2, vi (8 : Int32), vi tv, vi hv, vr b329, .unset] [(.int u8), (.int (8 : Int32)), (.ref b329)]))
    have f418 : Arw Z T414.heap b329 k329 .char 14 (own_upd (own_upd (own_upd (own_upd (own_upd (own_upd (own_upd (own_upd (fun _ => (.int 0)) 0 (.int (nar .char (104 : Int32)))) 1 (.int (nar .char (116 : Int32)))) 2 (.int (nar .char (116 : Int32)))) 3 (.int (nar .char (112 : Int32)))) 4 (.int (nar .char (115 : Int32)))) 5 (.int (nar .char (58 : Int32)))) 6 (.int (nar .char (47 : Int32)))) 7 (.int (nar .char (47 : Int32)))) := (A409.keep K414 nin0)
    obtain ⟨T419, h419, X419, e419, W419, A419, st419⟩ := own_castore X414' hx hZ rfl f418 (j := (8 : Int32)) (i := 8) (by decide) (by decide) (by first | decide | omega | (dsimp only; omega)) (g := (mkF m 151 #[vi x0, vi x1, vi x2, vi (8 : Int32), vi tv, vi hv, vr b329, .unset] [(.int u8), (.int (8 : Int32)), (.ref b329)])) rfl rfl (hb hby at_151)
    refine Goes.via st419 ?_
    have N419 := Fr.snoc X419 N414 gn_b329
    show Goes p e below _ (T419.setTop (mkF m 152 #[vi x0, vi x1, vi x2, vi (8 : Int32), vi tv, vi hv, vr b329, .unset] []))
    refine gAL X419 hx hby at_152 rfl rfl ?_
    refine gBI (z := 9) X419 hx hby at_154 rfl ?_
    refine gBI (z := 9) X419 hx hby at_156 rfl ?_
    refine gILN X419 hx hby at_158 rfl ?_
    refine gIL X419 hx hby at_159 rfl ?_
    refine gILN X419 hx hby at_161 rfl ?_
    refine gILN X419 hx hby at_162 rfl ?_
    have K420 : Keep h0 h419 [] := ((K410.trans K414 all0).wr W419 (Or.inr sz_b329))
    have f421 : Sta Z h419 "java/lang/String" "COMPACT_STRINGS" "Z" (.int cS) := own_sta_keep OS K420
    have f422 : Sta Z h419 "jdk/internal/util/Preconditions" "SIOOBE_FORMATTER" "Ljava/util/function/BiFunction;" fo := own_sta_keep OF K420
    have ol423 : Old Z n0 (h419) := ((ol413.keep K414 all0).wr W419 gn_b329)
    have z425 : h0.size ≤ (h419).size := (Nat.le_trans (Nat.le_trans z415 K414.1) (Nat.le_of_eq W419.size.symm))
    have Ks426 : KT Z own_K0 T414.vm (h419) := (Ks414.wr W419 (NoS.arr f418 (own_w hw 7 rfl) (by intro q; cases q)))
    have sk427 : _ ≤ (h419).size := (Nat.le_trans (Nat.le_refl _) (Nat.le_of_eq W419.size.symm))
    obtain ⟨_, _, ⟨T424, L424, k424, n424⟩, -, ⟨X424, Si424⟩, ⟨Lc424, ⟨hQ424, tK424, hK424, hKv424, hKh424⟩, l424, y424, z424⟩, st424⟩ := own_callSW X419 hx (y := (⟨"com/example/lincra/lincra/UrlNormalizerPathAndQueryPinLaw", "at", "(IIIII)C"⟩ : MethodName)) hown (mvT hZ (own_w hw 1 rfl)) (mvT hZ (own_w hw 2 rfl)) (mvT hZ (own_w hw 3 rfl)) (mvT hZ (own_w hw 4 rfl)) (by decide) (own_backOfW (W := 2) (K := (fun U_ => KT Z own_K0 U_.vm U_.heap)) (KP := (fun U_ => KT Z own_K0 U_.vm U_.heap)) (rmA8r l Z a0 hw [] (9 : Int32) hv x1 x2 cS fo h419 n0 (Nat.le_trans Z0 z425) (by decide) f421 H_cs f422 Hfo ol423 HW HC0 HC1 HC2 HC3 HC4) hZ (own_w hw 4 rfl) (own_w hw 3 rfl) (by decide) (by decide) (fun V_ hV hVh => by show KT Z own_K0 V_.vm V_.heap; rw [hVh]; exact Ks426.at_ (s := s) hV)) (g := (mkF m 163 #[vi x0, vi x1, vi x2, vi (8 : Int32), vi tv, vi hv, vr b329, .unset] [(.int x2), (.int x1), (.int hv), (.int (8 : Int32)), (.int (9 : Int32)), (.int (9 : Int32)), (.ref b329)])) rfl (by rw [hml]; rfl) (argsL := [(.int (9 : Int32)), (.int (8 : Int32)), (.int hv), (.int x1), (.int x2)]) (rest := [(.int (9 : Int32)), (.ref b329)]) (lenOf pd_21 rfl) rfl (by show 2 * 0 + _ ≤ _; exact Nat.le_of_eq rfl) (hb hby at_163) (fun _ _ => ⟨rfl, e419, (by decide : 5 + 2 ≤ _), (by decide : 182 + 132 ≤ _)⟩)
    dsimp only [Pt.U, Pt.locs, Pt.cells, Pt.slots] at X424 l424 y424 z424 st424 hQ424 Si424 hKv424 hKh424
    replace l424 := l424.symm
    subst l424 y424 z424
    obtain ⟨rfl, N424q, K424⟩ := hQ424
    have N424 := Fr.app N419 N424q
    refine Goes.via st424 ?_
    obtain ⟨X424', SI424, hZ, hown⟩ := rebS SI414 sk427 X424 Si424 K424.1 hZ hown
    have Ks424 : KT Z own_K0 T424.vm T424.heap := by rw [← hKv424, ← hKh424]; exact hK424
    show Goes p e below _ (T424.setTop (mkF m 166 #[vi x0, vi x1, vi x2, vi (8 : Int32), vi tv, vi hv, vr b329, .unset] [(.int (if (9 : Int32) < ((8 : Int32) + hv) then own_hc x1 ((9 : Int32) - (8 : Int32)) else if (9 : Int32) = ((8 : Int32) + hv) then (47 : Int32) else own_pc x2 ((((9 : Int32) - (8 : Int32)) - hv) - (1 : Int32)))), (.int (9 : Int32)), (.ref b329)]))
    obtain ⟨u9, e9⟩ : ∃ z, z = (if (9 : Int32) < ((8 : Int32) + hv) then own_hc x1 ((9 : Int32) - (8 : Int32)) else if (9 : Int32) = ((8 : Int32) + hv) then (47 : Int32) else own_pc x2 ((((9 : Int32) - (8 : Int32)) - hv) - (1 : Int32))) := ⟨_, rfl⟩
    rw [← e9]
    show Goes p e below _ (T424.setTop (mkF m 166 #[vi x0, vi x1, vi x2, vi (8 : Int32), vi tv, vi hv, vr b329, .unset] [(.int u9), (.int (9 : Int32)), (.ref b329)]))
    have f428 : Arw Z T424.heap b329 k329 .char 14 (own_upd (own_upd (own_upd (own_upd (own_upd (own_upd (own_upd (own_upd (own_upd (fun _ => (.int 0)) 0 (.int (nar .char (104 : Int32)))) 1 (.int (nar .char (116 : Int32)))) 2 (.int (nar .char (116 : Int32)))) 3 (.int (nar .char (112 : Int32)))) 4 (.int (nar .char (115 : Int32)))) 5 (.int (nar .char (58 : Int32)))) 6 (.int (nar .char (47 : Int32)))) 7 (.int (nar .char (47 : Int32)))) 8 (.int (nar .char u8))) := (A419.keep K424 nin0)
    obtain ⟨T429, h429, X429, e429, W429, A429, st429⟩ := own_castore X424' hx hZ rfl f428 (j := (9 : Int32)) (i := 9) (by decide) (by decide) (by first | decide | omega | (dsimp only; omega)) (g := (mkF m 166 #[vi x0, vi x1, vi x2, vi (8 : Int32), vi tv, vi hv, vr b329, .unset] [(.int u9), (.int (9 : Int32)), (.ref b329)])) rfl rfl (hb hby at_166)
    refine Goes.via st429 ?_
    have N429 := Fr.snoc X429 N424 gn_b329
    show Goes p e below _ (T429.setTop (mkF m 167 #[vi x0, vi x1, vi x2, vi (8 : Int32), vi tv, vi hv, vr b329, .unset] []))
    refine gAL X429 hx hby at_167 rfl rfl ?_
    refine gBI (z := 10) X429 hx hby at_169 rfl ?_
    refine gBI (z := 10) X429 hx hby at_171 rfl ?_
    refine gILN X429 hx hby at_173 rfl ?_
    refine gIL X429 hx hby at_174 rfl ?_
    refine gILN X429 hx hby at_176 rfl ?_
    refine gILN X429 hx hby at_177 rfl ?_
    have K430 : Keep h0 h429 [] := ((K420.trans K424 all0).wr W429 (Or.inr sz_b329))
    have f431 : Sta Z h429 "java/lang/String" "COMPACT_STRINGS" "Z" (.int cS) := own_sta_keep OS K430
    have f432 : Sta Z h429 "jdk/internal/util/Preconditions" "SIOOBE_FORMATTER" "Ljava/util/function/BiFunction;" fo := own_sta_keep OF K430
    have ol433 : Old Z n0 (h429) := ((ol423.keep K424 all0).wr W429 gn_b329)
    have z435 : h0.size ≤ (h429).size := (Nat.le_trans (Nat.le_trans z425 K424.1) (Nat.le_of_eq W429.size.symm))
    have Ks436 : KT Z own_K0 T424.vm (h429) := (Ks424.wr W429 (NoS.arr f428 (own_w hw 7 rfl) (by intro q; cases q)))
    have sk437 : _ ≤ (h429).size := (Nat.le_trans (Nat.le_refl _) (Nat.le_of_eq W429.size.symm))
    obtain ⟨_, _, ⟨T434, L434, k434, n434⟩, -, ⟨X434, Si434⟩, ⟨Lc434, ⟨hQ434, tK434, hK434, hKv434, hKh434⟩, l434, y434, z434⟩, st434⟩ := own_callSW X429 hx (y := (⟨"com/example/lincra/lincra/UrlNormalizerPathAndQueryPinLaw", "at", "(IIIII)C"⟩ : MethodName)) hown (mvT hZ (own_w hw 1 rfl)) (mvT hZ (own_w hw 2 rfl)) (mvT hZ (own_w hw 3 rfl)) (mvT hZ (own_w hw 4 rfl)) (by decide) (own_backOfW (W := 2) (K := (fun U_ => KT Z own_K0 U_.vm U_.heap)) (KP := (fun U_ => KT Z own_K0 U_.vm U_.heap)) (rmA8r l Z a0 hw [] (10 : Int32) hv x1 x2 cS fo h429 n0 (Nat.le_trans Z0 z435) (by decide) f431 H_cs f432 Hfo ol433 HW HC0 HC1 HC2 HC3 HC4) hZ (own_w hw 4 rfl) (own_w hw 3 rfl) (by decide) (by decide) (fun V_ hV hVh => by show KT Z own_K0 V_.vm V_.heap; rw [hVh]; exact Ks436.at_ (s := s) hV)) (g := (mkF m 178 #[vi x0, vi x1, vi x2, vi (8 : Int32), vi tv, vi hv, vr b329, .unset] [(.int x2), (.int x1), (.int hv), (.int (8 : Int32)), (.int (10 : Int32)), (.int (10 : Int32)), (.ref b329)])) rfl (by rw [hml]; rfl) (argsL := [(.int (10 : Int32)), (.int (8 : Int32)), (.int hv), (.int x1), (.int x2)]) (rest := [(.int (10 : Int32)), (.ref b329)]) (lenOf pd_21 rfl) rfl (by show 2 * 0 + _ ≤ _; exact Nat.le_of_eq rfl) (hb hby at_178) (fun _ _ => ⟨rfl, e429, (by decide : 7 + 2 ≤ _), (by decide : 314 + 132 ≤ _)⟩)
    dsimp only [Pt.U, Pt.locs, Pt.cells, Pt.slots] at X434 l434 y434 z434 st434 hQ434 Si434 hKv434 hKh434
    replace l434 := l434.symm
    subst l434 y434 z434
    obtain ⟨rfl, N434q, K434⟩ := hQ434
    have N434 := Fr.app N429 N434q
    refine Goes.via st434 ?_
    obtain ⟨X434', SI434, hZ, hown⟩ := rebS SI424 sk437 X434 Si434 K434.1 hZ hown
    have Ks434 : KT Z own_K0 T434.vm T434.heap := by rw [← hKv434, ← hKh434]; exact hK434
    show Goes p e below _ (T434.setTop (mkF m 181 #[vi x0, vi x1, vi x2, vi (8 : Int32), vi tv, vi hv, vr b329, .unset] [(.int (if (10 : Int32) < ((8 : Int32) + hv) then own_hc x1 ((10 : Int32) - (8 : Int32)) else if (10 : Int32) = ((8 : Int32) + hv) then (47 : Int32) else own_pc x2 ((((10 : Int32) - (8 : Int32)) - hv) - (1 : Int32)))), (.int (10 : Int32)), (.ref b329)]))
    obtain ⟨u10, e10⟩ : ∃ z, z = (if (10 : Int32) < ((8 : Int32) + hv) then own_hc x1 ((10 : Int32) - (8 : Int32)) else if (10 : Int32) = ((8 : Int32) + hv) then (47 : Int32) else own_pc x2 ((((10 : Int32) - (8 : Int32)) - hv) - (1 : Int32))) := ⟨_, rfl⟩
    rw [← e10]
    show Goes p e below _ (T434.setTop (mkF m 181 #[vi x0, vi x1, vi x2, vi (8 : Int32), vi tv, vi hv, vr b329, .unset] [(.int u10), (.int (10 : Int32)), (.ref b329)]))
    have f438 : Arw Z T434.heap b329 k329 .char 14 (own_upd (own_upd (own_upd (own_upd (own_upd (own_upd (own_upd (own_upd (own_upd (own_upd (fun _ => (.int 0)) 0 (.int (nar .char (104 : Int32)))) 1 (.int (nar .char (116 : Int32)))) 2 (.int (nar .char (116 : Int32)))) 3 (.int (nar .char (112 : Int32)))) 4 (.int (nar .char (115 : Int32)))) 5 (.int (nar .char (58 : Int32)))) 6 (.int (nar .char (47 : Int32)))) 7 (.int (nar .char (47 : Int32)))) 8 (.int (nar .char u8))) 9 (.int (nar .char u9))) := (A429.keep K434 nin0)
    obtain ⟨T439, h439, X439, e439, W439, A439, st439⟩ := own_castore X434' hx hZ rfl f438 (j := (10 : Int32)) (i := 10) (by decide) (by decide) (by first | decide | omega | (dsimp only; omega)) (g := (mkF m 181 #[vi x0, vi x1, vi x2, vi (8 : Int32), vi tv, vi hv, vr b329, .unset] [(.int u10), (.int (10 : Int32)), (.ref b329)])) rfl rfl (hb hby at_181)
    refine Goes.via st439 ?_
    have N439 := Fr.snoc X439 N434 gn_b329
    show Goes p e below _ (T439.setTop (mkF m 182 #[vi x0, vi x1, vi x2, vi (8 : Int32), vi tv, vi hv, vr b329, .unset] []))
    refine gAL X439 hx hby at_182 rfl rfl ?_
    refine gBI (z := 11) X439 hx hby at_184 rfl ?_
    refine gBI (z := 11) X439 hx hby at_186 rfl ?_
    refine gILN X439 hx hby at_188 rfl ?_
    refine gIL X439 hx hby at_189 rfl ?_
    refine gILN X439 hx hby at_191 rfl ?_
    refine gILN X439 hx hby at_192 rfl ?_
    have K440 : Keep h0 h439 [] := ((K430.trans K434 all0).wr W439 (Or.inr sz_b329))
    have f441 : Sta Z h439 "java/lang/String" "COMPACT_STRINGS" "Z" (.int cS) := own_sta_keep OS K440
    have f442 : Sta Z h439 "jdk/internal/util/Preconditions" "SIOOBE_FORMATTER" "Ljava/util/function/BiFunction;" fo := own_sta_keep OF K440
    have ol443 : Old Z n0 (h439) := ((ol433.keep K434 all0).wr W439 gn_b329)
    have z445 : h0.size ≤ (h439).size := (Nat.le_trans (Nat.le_trans z435 K434.1) (Nat.le_of_eq W439.size.symm))
    have Ks446 : KT Z own_K0 T434.vm (h439) := (Ks434.wr W439 (NoS.arr f438 (own_w hw 7 rfl) (by intro q; cases q)))
    have sk447 : _ ≤ (h439).size := (Nat.le_trans (Nat.le_refl _) (Nat.le_of_eq W439.size.symm))
    obtain ⟨_, _, ⟨T444, L444, k444, n444⟩, -, ⟨X444, Si444⟩, ⟨Lc444, ⟨hQ444, tK444, hK444, hKv444, hKh444⟩, l444, y444, z444⟩, st444⟩ := own_callSW X439 hx (y := (⟨"com/example/lincra/lincra/UrlNormalizerPathAndQueryPinLaw", "at", "(IIIII)C"⟩ : MethodName)) hown (mvT hZ (own_w hw 1 rfl)) (mvT hZ (own_w hw 2 rfl)) (mvT hZ (own_w hw 3 rfl)) (mvT hZ (own_w hw 4 rfl)) (by decide) (own_backOfW (W := 2) (K := (fun U_ => KT Z own_K0 U_.vm U_.heap)) (KP := (fun U_ => KT Z own_K0 U_.vm U_.heap)) (rmA8r l Z a0 hw [] (11 : Int32) hv x1 x2 cS fo h439 n0 (Nat.le_trans Z0 z445) (by decide) f441 H_cs f442 Hfo ol443 HW HC0 HC1 HC2 HC3 HC4) hZ (own_w hw 4 rfl) (own_w hw 3 rfl) (by decide) (by decide) (fun V_ hV hVh => by show KT Z own_K0 V_.vm V_.heap; rw [hVh]; exact Ks446.at_ (s := s) hV)) (g := (mkF m 193 #[vi x0, vi x1, vi x2, vi (8 : Int32), vi tv, vi hv, vr b329, .unset] [(.int x2), (.int x1), (.int hv), (.int (8 : Int32)), (.int (11 : Int32)), (.int (11 : Int32)), (.ref b329)])) rfl (by rw [hml]; rfl) (argsL := [(.int (11 : Int32)), (.int (8 : Int32)), (.int hv), (.int x1), (.int x2)]) (rest := [(.int (11 : Int32)), (.ref b329)]) (lenOf pd_21 rfl) rfl (by show 2 * 0 + _ ≤ _; exact Nat.le_of_eq rfl) (hb hby at_193) (fun _ _ => ⟨rfl, e439, (by decide : 9 + 2 ≤ _), (by decide : 446 + 132 ≤ _)⟩)
    dsimp only [Pt.U, Pt.locs, Pt.cells, Pt.slots] at X444 l444 y444 z444 st444 hQ444 Si444 hKv444 hKh444
    replace l444 := l444.symm
    subst l444 y444 z444
    obtain ⟨rfl, N444q, K444⟩ := hQ444
    have N444 := Fr.app N439 N444q
    refine Goes.via st444 ?_
    obtain ⟨X444', SI444, hZ, hown⟩ := rebS SI434 sk447 X444 Si444 K444.1 hZ hown
    have Ks444 : KT Z own_K0 T444.vm T444.heap := by rw [← hKv444, ← hKh444]; exact hK444
    show Goes p e below _ (T444.setTop (mkF m 196 #[vi x0, vi x1, vi x2, vi (8 : Int32), vi tv, vi hv, vr b329, .unset] [(.int (if (11 : Int32) < ((8 : Int32) + hv) then own_hc x1 ((11 : Int32) - (8 : Int32)) else if (11 : Int32) = ((8 : Int32) + hv) then (47 : Int32) else own_pc x2 ((((11 : Int32) - (8 : Int32)) - hv) - (1 : Int32)))), (.int (11 : Int32)), (.ref b329)]))
    obtain ⟨u11, e11⟩ : ∃ z, z = (if (11 : Int32) < ((8 : Int32) + hv) then own_hc x1 ((11 : Int32) - (8 : Int32)) else if (11 : Int32) = ((8 : Int32) + hv) then (47 : Int32) else own_pc x2 ((((11 : Int32) - (8 : Int32)) - hv) - (1 : Int32))) := ⟨_, rfl⟩
    rw [← e11]
    show Goes p e below _ (T444.setTop (mkF m 196 #[vi x0, vi x1, vi x2, vi (8 : Int32), vi tv, vi hv, vr b329, .unset] [(.int u11), (.int (11 : Int32)), (.ref b329)]))
    have f448 : Arw Z T444.heap b329 k329 .char 14 (own_upd (own_upd (own_upd (own_upd (own_upd (own_upd (own_upd (own_upd (own_upd (own_upd (own_upd (fun _ => (.int 0)) 0 (.int (nar .char (104 : Int32)))) 1 (.int (nar .char (116 : Int32)))) 2 (.int (nar .char (116 : Int32)))) 3 (.int (nar .char (112 : Int32)))) 4 (.int (nar .char (115 : Int32)))) 5 (.int (nar .char (58 : Int32)))) 6 (.int (nar .char (47 : Int32)))) 7 (.int (nar .char (47 : Int32)))) 8 (.int (nar .char u8))) 9 (.int (nar .char u9))) 10 (.int (nar .char u10))) := (A439.keep K444 nin0)
    obtain ⟨T449, h449, X449, e449, W449, A449, st449⟩ := own_castore X444' hx hZ rfl f448 (j := (11 : Int32)) (i := 11) (by decide) (by decide) (by first | decide | omega | (dsimp only; omega)) (g := (mkF m 196 #[vi x0, vi x1, vi x2, vi (8 : Int32), vi tv, vi hv, vr b329, .unset] [(.int u11), (.int (11 : Int32)), (.ref b329)])) rfl rfl (hb hby at_196)
    refine Goes.via st449 ?_
    have N449 := Fr.snoc X449 N444 gn_b329
    show Goes p e below _ (T449.setTop (mkF m 197 #[vi x0, vi x1, vi x2, vi (8 : Int32), vi tv, vi hv, vr b329, .unset] []))
    refine gAL X449 hx hby at_197 rfl rfl ?_
    refine gBI (z := 12) X449 hx hby at_199 rfl ?_
    refine gBI (z := 12) X449 hx hby at_201 rfl ?_
    refine gILN X449 hx hby at_203 rfl ?_
    refine gIL X449 hx hby at_204 rfl ?_
    refine gILN X449 hx hby at_206 rfl ?_
    refine gILN X449 hx hby at_207 rfl ?_
    have K450 : Keep h0 h449 [] := ((K440.trans K444 all0).wr W449 (Or.inr sz_b329))
    have f451 : Sta Z h449 "java/lang/String" "COMPACT_STRINGS" "Z" (.int cS) := own_sta_keep OS K450
    have f452 : Sta Z h449 "jdk/internal/util/Preconditions" "SIOOBE_FORMATTER" "Ljava/util/function/BiFunction;" fo := own_sta_keep OF K450
    have ol453 : Old Z n0 (h449) := ((ol443.keep K444 all0).wr W449 gn_b329)
    have z455 : h0.size ≤ (h449).size := (Nat.le_trans (Nat.le_trans z445 K444.1) (Nat.le_of_eq W449.size.symm))
    have Ks456 : KT Z own_K0 T444.vm (h449) := (Ks444.wr W449 (NoS.arr f448 (own_w hw 7 rfl) (by intro q; cases q)))
    have sk457 : _ ≤ (h449).size := (Nat.le_trans (Nat.le_refl _) (Nat.le_of_eq W449.size.symm))
    obtain ⟨_, _, ⟨T454, L454, k454, n454⟩, -, ⟨X454, Si454⟩, ⟨Lc454, ⟨hQ454, tK454, hK454, hKv454, hKh454⟩, l454, y454, z454⟩, st454⟩ := own_callSW X449 hx (y := (⟨"com/example/lincra/lincra/UrlNormalizerPathAndQueryPinLaw", "at", "(IIIII)C"⟩ : MethodName)) hown (mvT hZ (own_w hw 1 rfl)) (mvT hZ (own_w hw 2 rfl)) (mvT hZ (own_w hw 3 rfl)) (mvT hZ (own_w hw 4 rfl)) (by decide) (own_backOfW (W := 2) (K := (fun U_ => KT Z own_K0 U_.vm U_.heap)) (KP := (fun U_ => KT Z own_K0 U_.vm U_.heap)) (rmA8r l Z a0 hw [] (12 : Int32) hv x1 x2 cS fo h449 n0 (Nat.le_trans Z0 z455) (by decide) f451 H_cs f452 Hfo ol453 HW HC0 HC1 HC2 HC3 HC4) hZ (own_w hw 4 rfl) (own_w hw 3 rfl) (by decide) (by decide) (fun V_ hV hVh => by show KT Z own_K0 V_.vm V_.heap; rw [hVh]; exact Ks456.at_ (s := s) hV)) (g := (mkF m 208 #[vi x0, vi x1, vi x2, vi (8 : Int32), vi tv, vi hv, vr b329, .unset] [(.int x2), (.int x1), (.int hv), (.int (8 : Int32)), (.int (12 : Int32)), (.int (12 : Int32)), (.ref b329)])) rfl (by rw [hml]; rfl) (argsL := [(.int (12 : Int32)), (.int (8 : Int32)), (.int hv), (.int x1), (.int x2)]) (rest := [(.int (12 : Int32)), (.ref b329)]) (lenOf pd_21 rfl) rfl (by show 2 * 0 + _ ≤ _; exact Nat.le_of_eq rfl) (hb hby at_208) (fun _ _ => ⟨rfl, e449, (by decide : 11 + 2 ≤ _), (by decide : 578 + 132 ≤ _)⟩)
    dsimp only [Pt.U, Pt.locs, Pt.cells, Pt.slots] at X454 l454 y454 z454 st454 hQ454 Si454 hKv454 hKh454
    replace l454 := l454.symm
    subst l454 y454 z454
    obtain ⟨rfl, N454q, K454⟩ := hQ454
    have N454 := Fr.app N449 N454q
    refine Goes.via st454 ?_
    obtain ⟨X454', SI454, hZ, hown⟩ := rebS SI444 sk457 X454 Si454 K454.1 hZ hown
    have Ks454 : KT Z own_K0 T454.vm T454.heap := by rw [← hKv454, ← hKh454]; exact hK454
    show Goes p e below _ (T454.setTop (mkF m 211 #[vi x0, vi x1, vi x2, vi (8 : Int32), vi tv, vi hv, vr b329, .unset] [(.int (if (12 : Int32) < ((8 : Int32) + hv) then own_hc x1 ((12 : Int32) - (8 : Int32)) else if (12 : Int32) = ((8 : Int32) + hv) then (47 : Int32) else own_pc x2 ((((12 : Int32) - (8 : Int32)) - hv) - (1 : Int32)))), (.int (12 : Int32)), (.ref b329)]))
    obtain ⟨u12, e12⟩ : ∃ z, z = (if (12 : Int32) < ((8 : Int32) + hv) then own_hc x1 ((12 : Int32) - (8 : Int32)) else if (12 : Int32) = ((8 : Int32) + hv) then (47 : Int32) else own_pc x2 ((((12 : Int32) - (8 : Int32)) - hv) - (1 : Int32))) := ⟨_, rfl⟩
    rw [← e12]
    show Goes p e below _ (T454.setTop (mkF m 211 #[vi x0, vi x1, vi x2, vi (8 : Int32), vi tv, vi hv, vr b329, .unset] [(.int u12), (.int (12 : Int32)), (.ref b329)]))
    have f458 : Arw Z T454.heap b329 k329 .char 14 (own_upd (own_upd (own_upd (own_upd (own_upd (own_upd (own_upd (own_upd (own_upd (own_upd (own_upd (own_upd (fun _ => (.int 0)) 0 (.int (nar .char (104 : Int32)))) 1 (.int (nar .char (116 : Int32)))) 2 (.int (nar .char (116 : Int32)))) 3 (.int (nar .char (112 : Int32)))) 4 (.int (nar .char (115 : Int32)))) 5 (.int (nar .char (58 : Int32)))) 6 (.int (nar .char (47 : Int32)))) 7 (.int (nar .char (47 : Int32)))) 8 (.int (nar .char u8))) 9 (.int (nar .char u9))) 10 (.int (nar .char u10))) 11 (.int (nar .char u11))) := (A449.keep K454 nin0)
    obtain ⟨T459, h459, X459, e459, W459, A459, st459⟩ := own_castore X454' hx hZ rfl f458 (j := (12 : Int32)) (i := 12) (by decide) (by decide) (by first | decide | omega | (dsimp only; omega)) (g := (mkF m 211 #[vi x0, vi x1, vi x2, vi (8 : Int32), vi tv, vi hv, vr b329, .unset] [(.int u12), (.int (12 : Int32)), (.ref b329)])) rfl rfl (hb hby at_211)
    refine Goes.via st459 ?_
    have N459 := Fr.snoc X459 N454 gn_b329
    show Goes p e below _ (T459.setTop (mkF m 212 #[vi x0, vi x1, vi x2, vi (8 : Int32), vi tv, vi hv, vr b329, .unset] []))
    refine gAL X459 hx hby at_212 rfl rfl ?_
    refine gBI (z := 13) X459 hx hby at_214 rfl ?_
    refine gBI (z := 13) X459 hx hby at_216 rfl ?_
    refine gILN X459 hx hby at_218 rfl ?_
    refine gIL X459 hx hby at_219 rfl ?_
    refine gILN X459 hx hby at_221 rfl ?_
    refine gILN X459 hx hby at_222 rfl ?_
    have K460 : Keep h0 h459 [] := ((K450.trans K454 all0).wr W459 (Or.inr sz_b329))
    have f461 : Sta Z h459 "java/lang/String" "COMPACT_STRINGS" "Z" (.int cS) := own_sta_keep OS K460
    have f462 : Sta Z h459 "jdk/internal/util/Preconditions" "SIOOBE_FORMATTER" "Ljava/util/function/BiFunction;" fo := own_sta_keep OF K460
    have ol463 : Old Z n0 (h459) := ((ol453.keep K454 all0).wr W459 gn_b329)
    have z465 : h0.size ≤ (h459).size := (Nat.le_trans (Nat.le_trans z455 K454.1) (Nat.le_of_eq W459.size.symm))
    have Ks466 : KT Z own_K0 T454.vm (h459) := (Ks454.wr W459 (NoS.arr f458 (own_w hw 7 rfl) (by intro q; cases q)))
    have sk467 : _ ≤ (h459).size := (Nat.le_trans (Nat.le_refl _) (Nat.le_of_eq W459.size.symm))
    obtain ⟨_, _, ⟨T464, L464, k464, n464⟩, -, ⟨X464, Si464⟩, ⟨Lc464, ⟨hQ464, tK464, hK464, hKv464, hKh464⟩, l464, y464, z464⟩, st464⟩ := own_callSW X459 hx (y := (⟨"com/example/lincra/lincra/UrlNormalizerPathAndQueryPinLaw", "at", "(IIIII)C"⟩ : MethodName)) hown (mvT hZ (own_w hw 1 rfl)) (mvT hZ (own_w hw 2 rfl)) (mvT hZ (own_w hw 3 rfl)) (mvT hZ (own_w hw 4 rfl)) (by decide) (own_backOfW (W := 2) (K := (fun U_ => KT Z own_K0 U_.vm U_.heap)) (KP := (fun U_ => KT Z own_K0 U_.vm U_.heap)) (rmA8r l Z a0 hw [] (13 : Int32) hv x1 x2 cS fo h459 n0 (Nat.le_trans Z0 z465) (by decide) f461 H_cs f462 Hfo ol463 HW HC0 HC1 HC2 HC3 HC4) hZ (own_w hw 4 rfl) (own_w hw 3 rfl) (by decide) (by decide) (fun V_ hV hVh => by show KT Z own_K0 V_.vm V_.heap; rw [hVh]; exact Ks466.at_ (s := s) hV)) (g := (mkF m 223 #[vi x0, vi x1, vi x2, vi (8 : Int32), vi tv, vi hv, vr b329, .unset] [(.int x2), (.int x1), (.int hv), (.int (8 : Int32)), (.int (13 : Int32)), (.int (13 : Int32)), (.ref b329)])) rfl (by rw [hml]; rfl) (argsL := [(.int (13 : Int32)), (.int (8 : Int32)), (.int hv), (.int x1), (.int x2)]) (rest := [(.int (13 : Int32)), (.ref b329)]) (lenOf pd_21 rfl) rfl (by show 2 * 0 + _ ≤ _; exact Nat.le_of_eq rfl) (hb hby at_223) (fun _ _ => ⟨rfl, e459, (by decide : 13 + 2 ≤ _), (by decide : 710 + 132 ≤ _)⟩)
    dsimp only [Pt.U, Pt.locs, Pt.cells, Pt.slots] at X464 l464 y464 z464 st464 hQ464 Si464 hKv464 hKh464
    replace l464 := l464.symm
    subst l464 y464 z464
    obtain ⟨rfl, N464q, K464⟩ := hQ464
    have N464 := Fr.app N459 N464q
    refine Goes.via st464 ?_
    obtain ⟨X464', SI464, hZ, hown⟩ := rebS SI454 sk467 X464 Si464 K464.1 hZ hown
    have Ks464 : KT Z own_K0 T464.vm T464.heap := by rw [← hKv464, ← hKh464]; exact hK464
    show Goes p e below _ (T464.setTop (mkF m 226 #[vi x0, vi x1, vi x2, vi (8 : Int32), vi tv, vi hv, vr b329, .unset] [(.int (if (13 : Int32) < ((8 : Int32) + hv) then own_hc x1 ((13 : Int32) - (8 : Int32)) else if (13 : Int32) = ((8 : Int32) + hv) then (47 : Int32) else own_pc x2 ((((13 : Int32) - (8 : Int32)) - hv) - (1 : Int32)))), (.int (13 : Int32)), (.ref b329)]))
    obtain ⟨u13, e13⟩ : ∃ z, z = (if (13 : Int32) < ((8 : Int32) + hv) then own_hc x1 ((13 : Int32) - (8 : Int32)) else if (13 : Int32) = ((8 : Int32) + hv) then (47 : Int32) else own_pc x2 ((((13 : Int32) - (8 : Int32)) - hv) - (1 : Int32))) := ⟨_, rfl⟩
    rw [← e13]
    show Goes p e below _ (T464.setTop (mkF m 226 #[vi x0, vi x1, vi x2, vi (8 : Int32), vi tv, vi hv, vr b329, .unset] [(.int u13), (.int (13 : Int32)), (.ref b329)]))
    have f468 : Arw Z T464.heap b329 k329 .char 14 (own_upd (own_upd (own_upd (own_upd (own_upd (own_upd (own_upd (own_upd (own_upd (own_upd (own_upd (own_upd (own_upd (fun _ => (.int 0)) 0 (.int (nar .char (104 : Int32)))) 1 (.int (nar .char (116 : Int32)))) 2 (.int (nar .char (116 : Int32)))) 3 (.int (nar .char (112 : Int32)))) 4 (.int (nar .char (115 : Int32)))) 5 (.int (nar .char (58 : Int32)))) 6 (.int (nar .char (47 : Int32)))) 7 (.int (nar .char (47 : Int32)))) 8 (.int (nar .char u8))) 9 (.int (nar .char u9))) 10 (.int (nar .char u10))) 11 (.int (nar .char u11))) 12 (.int (nar .char u12))) := (A459.keep K464 nin0)
    obtain ⟨T469, h469, X469, e469, W469, A469, st469⟩ := own_castore X464' hx hZ rfl f468 (j := (13 : Int32)) (i := 13) (by decide) (by decide) (by first | decide | omega | (dsimp only; omega)) (g := (mkF m 226 #[vi x0, vi x1, vi x2, vi (8 : Int32), vi tv, vi hv, vr b329, .unset] [(.int u13), (.int (13 : Int32)), (.ref b329)])) rfl rfl (hb hby at_226)
    refine Goes.via st469 ?_
    have N469 := Fr.snoc X469 N464 gn_b329
    show Goes p e below _ (T469.setTop (mkF m 227 #[vi x0, vi x1, vi x2, vi (8 : Int32), vi tv, vi hv, vr b329, .unset] []))
    rcases htv with ht | ht | ht | ht
    · subst ht
      obtain rfl : hv = (5 : Int32) := hhv.trans (by decide)
      have f8 : u8 = own_hc x1 (0 : Int32) := e8.trans (if_pos (by decide))
      have c8 : own_C u8 ∧ ¬ u8 = (47 : Int32) := by rw [f8]; exact own_hcP _ _
      have f9 : u9 = own_hc x1 (1 : Int32) := e9.trans (if_pos (by decide))
      have c9 : own_C u9 ∧ ¬ u9 = (47 : Int32) := by rw [f9]; exact own_hcP _ _
      have f10 : u10 = own_hc x1 (2 : Int32) := e10.trans (if_pos (by decide))
      have c10 : own_C u10 ∧ ¬ u10 = (47 : Int32) := by rw [f10]; exact own_hcP _ _
      have f11 : u11 = own_hc x1 (3 : Int32) := e11.trans (if_pos (by decide))
      have c11 : own_C u11 ∧ ¬ u11 = (47 : Int32) := by rw [f11]; exact own_hcP _ _
      have f12 : u12 = own_hc x1 (4 : Int32) := e12.trans (if_pos (by decide))
      have c12 : own_C u12 ∧ ¬ u12 = (47 : Int32) := by rw [f12]; exact own_hcP _ _
      have f13 : u13 = (47 : Int32) := e13.trans ((if_neg (by decide)).trans (if_pos (by decide)))
      have c13 : own_C u13 ∧ True := ⟨by rw [f13]; decide, trivial⟩
      show Goes p e below _ (T469.setTop (mkF m 227 #[vi x0, vi x1, vi x2, vi (8 : Int32), vi (0 : Int32), vi (5 : Int32), vr b329, .unset] []))
      obtain ⟨T470, h470, X470, e470, E470, A470, D470, -, st470⟩ := newO X469 hx hZ hown (own_w hw 52 rfl) (own_w hw 7 rfl) (own_w hw 6 rfl) e469 (g := (mkF m 227 #[vi x0, vi x1, vi x2, vi (8 : Int32), vi (0 : Int32), vi (5 : Int32), vr b329, .unset] [])) rfl (hb hby at_227) (by first | decide | omega | (dsimp only; omega)) (by first | decide | omega | (dsimp only; omega))
      obtain ⟨b470, g470⟩ : ∃ z, z = (h469).size := ⟨_, rfl⟩
      rw [← g470] at A470 D470 st470
      have lne471 : b329 < b470 := Nat.lt_of_lt_of_le A469.lt (Nat.le_of_eq g470.symm)
      have ne471 : b329 ≠ b470 := Nat.ne_of_lt lne471
      have z472 : h0.size ≤ (h469).size := (Nat.le_trans (Nat.le_trans z465 K464.1) (Nat.le_of_eq W469.size.symm))
      have sz_b470 : h0.size ≤ b470 := Nat.le_trans z472 (Nat.le_of_eq g470.symm)
      have gn_b470 : n0 ≤ b470 := Nat.le_trans Z0 sz_b470
      have F_value_b470 : Fld Z h470 b470 "java/lang/String" "value" "[B" .null := D470 (Or.inr (own_w hw 9 rfl)) (ty := (.array .byte)) (by decide)
      have F_coder_b470 : Fld Z h470 b470 "java/lang/String" "coder" "B" (.int (0 : Int32)) := D470 (Or.inr (own_w hw 10 rfl)) (ty := .byte) (by decide)
      refine Goes.via st470 ?_
      show Goes p e below _ (T470.setTop (mkF m 230 #[vi x0, vi x1, vi x2, vi (8 : Int32), vi (0 : Int32), vi (5 : Int32), vr b329, .unset] [(.ref b470)]))
      refine gDU X470 hx hby at_230 rfl ?_
      refine gAL X470 hx hby at_231 rfl rfl ?_
      have f474 : Arw Z h470 b329 k329 .char 14 (own_upd (own_upd (own_upd (own_upd (own_upd (own_upd (own_upd (own_upd (own_upd (own_upd (own_upd (own_upd (own_upd (own_upd (fun _ => (.int 0)) 0 (.int (nar .char (104 : Int32)))) 1 (.int (nar .char (116 : Int32)))) 2 (.int (nar .char (116 : Int32)))) 3 (.int (nar .char (112 : Int32)))) 4 (.int (nar .char (115 : Int32)))) 5 (.int (nar .char (58 : Int32)))) 6 (.int (nar .char (47 : Int32)))) 7 (.int (nar .char (47 : Int32)))) 8 (.int (nar .char u8))) 9 (.int (nar .char u9))) 10 (.int (nar .char u10))) 11 (.int (nar .char u11))) 12 (.int (nar .char u12))) 13 (.int (nar .char u13))) := (A469.ext E470)
      have Va473 : Arv Z h470 b329 k329 .char (14 : Int32) ([(104 : Int32), (116 : Int32), (116 : Int32), (112 : Int32), (115 : Int32), (58 : Int32), (47 : Int32), (47 : Int32), u8, u9, u10, u11, u12, u13].map Value.int) (.int (0 : Int32)) := f474.toArv (by decide) (by intro i hi; match i, hi with | 0, _ => rfl | 1, _ => rfl | 2, _ => rfl | 3, _ => rfl | 4, _ => rfl | 5, _ => rfl | 6, _ => rfl | 7, _ => rfl | 8, _ => exact (congrArg Value.int c8.1.1.symm).trans rfl | 9, _ => exact (congrArg Value.int c9.1.1.symm).trans rfl | 10, _ => exact (congrArg Value.int c10.1.1.symm).trans rfl | 11, _ => exact (congrArg Value.int c11.1.1.symm).trans rfl | 12, _ => exact (congrArg Value.int c12.1.1.symm).trans rfl | 13, _ => exact (congrArg Value.int c13.1.1.symm).trans rfl | q + 14, h => exact absurd h (by omega))
      have K475 : Keep h0 h470 [] := (((K460.trans K464 all0).wr W469 (Or.inr sz_b329)).ext E470)
      have f476 : Sta Z h470 "java/lang/String" "COMPACT_STRINGS" "Z" (.int cS) := own_sta_keep OS K475
      have z477 : h0.size ≤ (h470).size := (Nat.le_trans z472 E470.1)
      have hws473 : ∀ d ∈ StrChars.Road.words, d.before a0 Z = true := fun d hd => hw d ((by decide +kernel : ∀ d ∈ StrChars.Road.words, d ∈ tables_1) d hd)
      have hlat473 : ∀ c ∈ [(104 : Int32), (116 : Int32), (116 : Int32), (112 : Int32), (115 : Int32), (58 : Int32), (47 : Int32), (47 : Int32), u8, u9, u10, u11, u12, u13], ¬ c < 0 ∧ ¬ (255 : Int32) < c := (own_aS (by decide) (own_aS (by decide) (own_aS (by decide) (own_aS (by decide) (own_aS (by decide) (own_aS (by decide) (own_aS (by decide) (own_aS (by decide) (own_aS c8.1.2.2.2 (own_aS c9.1.2.2.2 (own_aS c10.1.2.2.2 (own_aS c11.1.2.2.2 (own_aS c12.1.2.2.2 (own_aS c13.1.2.2.2 own_a0))))))))))))))
      obtain ⟨bs473, hbs473⟩ : ∃ z : List Int32, z = [(104 : Int32), (116 : Int32), (116 : Int32), (112 : Int32), (115 : Int32), (58 : Int32), (47 : Int32), (47 : Int32), u8, u9, u10, u11, u12, u13].map (fun c => c.toInt8.toInt32) := ⟨_, rfl⟩
      obtain ⟨_, _, ⟨T473, L473, k473, n473⟩, -, X473, ⟨Lc473, hQ473, l473, y473, z473⟩, st473⟩ := X470.specialBack hx (y := (⟨"java/lang/String", "<init>", "([C)V"⟩ : MethodName)) rfl hown (mvT hZ (own_w hw 53 rfl)) (mvT hZ (own_w hw 54 rfl)) (mvT hZ (own_w hw 55 rfl)) (by decide) (StrChars.Road.backV (W := 1) hZ hws473 (kI := 4) (own_w hw 7 rfl) (cs := [(104 : Int32), (116 : Int32), (116 : Int32), (112 : Int32), (115 : Int32), (58 : Int32), (47 : Int32), (47 : Int32), u8, u9, u10, u11, u12, u13]) (bs := bs473) (n := 14) gn_b470 (Nat.le_trans Z0 z477) A470 F_value_b470 F_coder_b470 Va473 f476 H_cs rfl rfl (by decide) (by decide) hlat473 hbs473 (by decide) (by decide)) (g := (mkF m 233 #[vi x0, vi x1, vi x2, vi (8 : Int32), vi (0 : Int32), vi (5 : Int32), vr b329, .unset] [(.ref b329), (.ref b470), (.ref b470)])) rfl (by rw [hml]; rfl) (Steps.refl _) (a := b470) (argsL := [(.ref b329)]) (rest := [(.ref b470)]) (lenOf pd_22 rfl) rfl (by show 2 * 0 + _ ≤ _; exact Nat.le_of_eq rfl) (hb hby at_233) (fun _ _ => ⟨rfl, e470, (by first | decide | omega : 16 + 1 ≤ _), (by first | decide | omega : 846 + 14 ≤ _)⟩)
      dsimp only [Pt.U, Pt.locs, Pt.cells, Pt.slots] at X473 l473 y473 z473 st473 hQ473
      replace l473 := l473.symm
      subst l473 y473 z473
      obtain ⟨rfl, N473q, K473, uE473, uC473, sb473, kb473, ug473, uz473, un473, uV473, uA473⟩ := hQ473
      have N473 := Fr.app N469 N473q
      have ne478 : b329 ≠ sb473 := Nat.ne_of_lt (Nat.lt_of_lt_of_le f474.lt uz473)
      have ne479 : b470 ≠ sb473 := Nat.ne_of_lt (Nat.lt_of_lt_of_le A470.lt uz473)
      have sz_sb473 : h0.size ≤ sb473 := Nat.le_trans z477 uz473
      refine Goes.tr st473 ?_
      show Goes p e below _ (T473.setTop (mkF m 236 #[vi x0, vi x1, vi x2, vi (8 : Int32), vi (0 : Int32), vi (5 : Int32), vr b329, .unset] [(.ref b470)]))
      obtain ⟨g, hg⟩ : ∃ g : Nat → Int32, g = fun i => ([(104 : Int32), (116 : Int32), (116 : Int32), (112 : Int32), (115 : Int32), (58 : Int32), (47 : Int32), (47 : Int32), u8, u9, u10, u11, u12, u13] : List Int32).getD i 0 := ⟨_, rfl⟩
      have g_0 : g 0 = (104 : Int32) := by rw [hg]; rfl
      have g_1 : g 1 = (116 : Int32) := by rw [hg]; rfl
      have g_2 : g 2 = (116 : Int32) := by rw [hg]; rfl
      have g_3 : g 3 = (112 : Int32) := by rw [hg]; rfl
      have g_4 : g 4 = (115 : Int32) := by rw [hg]; rfl
      have g_5 : g 5 = (58 : Int32) := by rw [hg]; rfl
      have g_6 : g 6 = (47 : Int32) := by rw [hg]; rfl
      have g_7 : g 7 = (47 : Int32) := by rw [hg]; rfl
      have g_8 : g 8 = u8 := by rw [hg]; rfl
      have g_9 : g 9 = u9 := by rw [hg]; rfl
      have g_10 : g 10 = u10 := by rw [hg]; rfl
      have g_11 : g 11 = u11 := by rw [hg]; rfl
      have g_12 : g 12 = u12 := by rw [hg]; rfl
      have g_13 : g 13 = u13 := by rw [hg]; rfl
      have Vg : Arw Z T473.heap sb473 kb473 .byte 14 (fun i => .int (g i)) := Arw.ofArv uA473 (by decide) (by intro i hi; rw [hbs473]; match i, hi with | 0, _ => exact (congrArg Value.int (show (104 : Int32).toInt8.toInt32 = (104 : Int32) from by decide)).trans (congrArg Value.int g_0.symm) | 1, _ => exact (congrArg Value.int (show (116 : Int32).toInt8.toInt32 = (116 : Int32) from by decide)).trans (congrArg Value.int g_1.symm) | 2, _ => exact (congrArg Value.int (show (116 : Int32).toInt8.toInt32 = (116 : Int32) from by decide)).trans (congrArg Value.int g_2.symm) | 3, _ => exact (congrArg Value.int (show (112 : Int32).toInt8.toInt32 = (112 : Int32) from by decide)).trans (congrArg Value.int g_3.symm) | 4, _ => exact (congrArg Value.int (show (115 : Int32).toInt8.toInt32 = (115 : Int32) from by decide)).trans (congrArg Value.int g_4.symm) | 5, _ => exact (congrArg Value.int (show (58 : Int32).toInt8.toInt32 = (58 : Int32) from by decide)).trans (congrArg Value.int g_5.symm) | 6, _ => exact (congrArg Value.int (show (47 : Int32).toInt8.toInt32 = (47 : Int32) from by decide)).trans (congrArg Value.int g_6.symm) | 7, _ => exact (congrArg Value.int (show (47 : Int32).toInt8.toInt32 = (47 : Int32) from by decide)).trans (congrArg Value.int g_7.symm) | 8, _ => exact (congrArg Value.int (show u8.toInt8.toInt32 = u8 from c8.1.2.1)).trans (congrArg Value.int g_8.symm) | 9, _ => exact (congrArg Value.int (show u9.toInt8.toInt32 = u9 from c9.1.2.1)).trans (congrArg Value.int g_9.symm) | 10, _ => exact (congrArg Value.int (show u10.toInt8.toInt32 = u10 from c10.1.2.1)).trans (congrArg Value.int g_10.symm) | 11, _ => exact (congrArg Value.int (show u11.toInt8.toInt32 = u11 from c11.1.2.1)).trans (congrArg Value.int g_11.symm) | 12, _ => exact (congrArg Value.int (show u12.toInt8.toInt32 = u12 from c12.1.2.1)).trans (congrArg Value.int g_12.symm) | 13, _ => exact (congrArg Value.int (show u13.toInt8.toInt32 = u13 from c13.1.2.1)).trans (congrArg Value.int g_13.symm) | n + 14, h => exact absurd h (by omega))
      have K480 : Keep h0 T473.heap [] := (K475.trans K473 (allS (Or.inr sz_b470) all0))
      have f481 : Sta Z T473.heap "java/lang/String" "COMPACT_STRINGS" "Z" (.int cS) := own_sta_keep OS K480
      have f482 : Sta Z T473.heap "jdk/internal/util/Preconditions" "SIOOBE_FORMATTER" "Ljava/util/function/BiFunction;" fo := own_sta_keep OF K480
      have ol483 : Old Z n0 (T473.heap) := ((((ol463.keep K464 all0).wr W469 gn_b329).ext E470).keep K473 (allS gn_b470 all0))
      have z485 : h0.size ≤ (T473.heap).size := (Nat.le_trans z477 K473.1)
      have Ks486 : KT Z own_K0 T464.vm (T473.heap) := (((Ks464.wr W469 (NoS.arr f468 (own_w hw 7 rfl) (by intro q; cases q))).ext E470).keep K473 (allS (NoS.str A470 (own_w hw 7 rfl) F_value_b470) all0))
      have sk487 : _ ≤ (T473.heap).size := (Nat.le_trans (Nat.le_trans (Nat.le_trans (Nat.le_refl _) (Nat.le_of_eq W469.size.symm)) E470.1) K473.1)
      obtain ⟨_, _, ⟨T484, L484, k484, n484⟩, -, ⟨X484, Si484⟩, ⟨Lc484, ⟨hQ484, tK484, hK484, hKv484, hKh484⟩, l484, y484, z484⟩, st484⟩ := own_callSW X473 hx (y := (⟨"com/example/lincra/lincra/UrlNormalizer", "pathAndQuery", "(Ljava/lang/String;)Ljava/lang/String;"⟩ : MethodName)) hown (mvT hZ (own_w hw 73 rfl)) (mvT hZ (own_w hw 74 rfl)) (mvT hZ (own_w hw 75 rfl)) (mvT hZ (own_w hw 76 rfl)) (by decide) (own_backOfW (W := 0) (K := (fun U_ => KT Z own_K0 U_.vm U_.heap)) (KP := (fun U_ => KT Z own_K0 U_.vm U_.heap)) (rmQ5 l Z a0 hw [] b470 cS fo sb473 kb473 g (13 : Int32) 13 1 T473.heap n0 (Nat.le_trans Z0 z485) uE473 uC473 uV473 Vg f481 H_cs f482 Hfo ol483 HW HC0 HC1 HC2 HC3 HC4 (by rw [g_0]; decide) (by rw [g_1]; decide) (by rw [g_2]; decide) (by rw [g_3]; decide) (by rw [g_4]; decide) g_5 g_6 g_7 (by rw [show (47 : Int32).toInt8.toInt32 = (47 : Int32) by decide, show 14 - 8 = 6 by decide, own_fs, if_neg (show ¬ g 8 = (47 : Int32) by rw [g_8]; exact c8.2), own_fs, if_neg (show ¬ g 9 = (47 : Int32) by rw [g_9]; exact c9.2), own_fs, if_neg (show ¬ g 10 = (47 : Int32) by rw [g_10]; exact c10.2), own_fs, if_neg (show ¬ g 11 = (47 : Int32) by rw [g_11]; exact c11.2), own_fs, if_neg (show ¬ g 12 = (47 : Int32) by rw [g_12]; exact c12.2), own_fs, if_pos (g_13.trans f13)]; decide) (by decide) (by decide) (by decide) (by decide) (by decide)) hZ (own_w hw 76 rfl) (own_w hw 75 rfl) (by decide) (by decide) (fun V_ hV hVh => by show KT Z own_K0 V_.vm V_.heap; rw [hVh]; exact Ks486.at_ (s := s) hV)) (g := (mkF m 236 #[vi x0, vi x1, vi x2, vi (8 : Int32), vi (0 : Int32), vi (5 : Int32), vr b329, .unset] [(.ref b470)])) rfl (by rw [hml]; rfl) (argsL := [(.ref b470)]) (rest := []) (lenOf pd_23 rfl) rfl (by show 2 * 0 + _ ≤ _; exact Nat.le_of_eq rfl) (hb hby at_236) (fun _ _ => ⟨rfl, rfl, (by decide : 17 + 4 ≤ _), (by decide : 860 + 36 ≤ _)⟩)
      dsimp only [Pt.U, Pt.locs, Pt.cells, Pt.slots] at X484 l484 y484 z484 st484 hQ484 Si484 hKv484 hKh484
      replace l484 := l484.symm
      subst l484 y484 z484
      obtain ⟨r_484, nb484, kb484, rfl, N484q, K484, u484_0, u484_1, u484_2, u484_3, u484_4⟩ := hQ484
      have N484 := Fr.app N473 N484q
      refine Goes.via st484 ?_
      obtain ⟨X484', SI484, hZ, hown⟩ := rebS SI464 sk487 X484 Si484 K484.1 hZ hown
      have Ks484 : KT Z own_K0 T484.vm T484.heap := by rw [← hKv484, ← hKh484]; exact hK484
      have f488 : Arw Z T473.heap b329 k329 .char 14 (own_upd (own_upd (own_upd (own_upd (own_upd (own_upd (own_upd (own_upd (own_upd (own_upd (own_upd (own_upd (own_upd (own_upd (fun _ => (.int 0)) 0 (.int (nar .char (104 : Int32)))) 1 (.int (nar .char (116 : Int32)))) 2 (.int (nar .char (116 : Int32)))) 3 (.int (nar .char (112 : Int32)))) 4 (.int (nar .char (115 : Int32)))) 5 (.int (nar .char (58 : Int32)))) 6 (.int (nar .char (47 : Int32)))) 7 (.int (nar .char (47 : Int32)))) 8 (.int (nar .char u8))) 9 (.int (nar .char u9))) 10 (.int (nar .char u10))) 11 (.int (nar .char u11))) 12 (.int (nar .char u12))) 13 (.int (nar .char u13))) := (f474.keep K473 (ninS ne471 nin0))
      have ne489 : b329 ≠ r_484 := Nat.ne_of_lt (Nat.lt_of_lt_of_le f488.lt u484_0)
      have ne490 : b470 ≠ r_484 := Nat.ne_of_lt (Nat.lt_of_lt_of_le uE473.lt u484_0)
      have ne491 : sb473 ≠ r_484 := Nat.ne_of_lt (Nat.lt_of_lt_of_le uA473.lt u484_0)
      have sz_r_484 : h0.size ≤ r_484 := Nat.le_trans z485 u484_0
      have gn_r_484 : n0 ≤ r_484 := Nat.le_trans Z0 sz_r_484
      -- u484_0 : h0.size ≤ r_484
      have ne492 : r_484 ≠ nb484 := own_ne_arr u484_1 (own_w hw 7 rfl) u484_4
      show Goes p e below _ (T484.setTop (mkF m 239 #[vi x0, vi x1, vi x2, vi (8 : Int32), vi (0 : Int32), vi (5 : Int32), vr b329, .unset] [(.ref r_484)]))
      refine Goes.via (fun _ kk_ => XS.astore X484'.here hx rfl (hb hby at_239) rfl rfl (l' := #[vi x0, vi x1, vi x2, vi (8 : Int32), vi (0 : Int32), vi (5 : Int32), vr b329, vr r_484]) rfl kk_) ?_
      show Goes p e below _ (T484.setTop (mkF m 241 #[vi x0, vi x1, vi x2, vi (8 : Int32), vi (0 : Int32), vi (5 : Int32), vr b329, vr r_484] []))
      refine gAL X484' hx hby at_241 rfl rfl ?_
      have K493 : Keep h0 T484.heap [] := (K480.trans K484 all0)
      have f494 : Sta Z T484.heap "java/lang/String" "COMPACT_STRINGS" "Z" (.int cS) := own_sta_keep OS K493
      have z496 : h0.size ≤ (T484.heap).size := (Nat.le_trans z485 K484.1)
      obtain ⟨cq495, kq495, q495a, q495b, q495c⟩ := isOf hZ rfl u484_1
      obtain ⟨_, _, ⟨T495, L495, k495, n495⟩, -, X495, ⟨Lc495, hQ495, l495, y495, z495⟩, st495⟩ := X484'.virtualBack hx (y := (⟨"java/lang/String", "length", "()I"⟩ : MethodName)) (z := (⟨"java/lang/String", "length", "()I"⟩ : MethodName)) hown (mvT hZ (own_w hw 42 rfl)) (mvT hZ (own_w hw 43 rfl)) (notFace_of_selects (args := #[]) (mvT hZ (own_w hw 45 rfl))) (mvT hZ (own_w hw 45 rfl)) (mvT hZ (own_w hw 44 rfl)) (by decide) (backOf (W := 0) (rm8 l Z a0 hw [] r_484 (1 : Int32) cS nb484 kb484 1 (fun i => g (13 + i)) T484.heap n0 (Nat.le_trans Z0 z496) u484_1 u484_2 u484_3 u484_4 f494 H_cs (by decide)) hZ (own_w hw 46 rfl) (own_w hw 6 rfl) (by decide) (by decide)) q495a q495c (g := (mkF m 243 #[vi x0, vi x1, vi x2, vi (8 : Int32), vi (0 : Int32), vi (5 : Int32), vr b329, vr r_484] [(.ref r_484)])) rfl (by rw [hml]; rfl) (Steps.refl _) (argsL := []) (rest := []) (lenOf pd_8 rfl) rfl (by show 2 * 0 + _ ≤ _; exact Nat.le_of_eq rfl) (hb hby at_243) (fun _ _ => ⟨rfl, rfl, (by decide : 21 + 0 ≤ _), (by decide : 896 + 0 ≤ _)⟩)
      dsimp only [Pt.U, Pt.locs, Pt.cells, Pt.slots] at X495 l495 y495 z495 st495 hQ495
      replace l495 := l495.symm
      subst l495 y495 z495
      obtain ⟨rfl, rfl, e495⟩ := hQ495
      first | rw [List.append_nil] at X495 | skip
      refine Goes.tr st495 ?_
      have e495' : T495.heap = T484.heap := e495
      show Goes p e below _ (T495.setTop (mkF m 246 #[vi x0, vi x1, vi x2, vi (8 : Int32), vi (0 : Int32), vi (5 : Int32), vr b329, vr r_484] [(.int (1 : Int32))]))
      refine gIL X495 hx hby at_246 rfl ?_
      refine gIC (z := 1) X495 hx hby at_248 rfl ?_
      refine Goes.via (fun _ kk_ => XS.iadd X495.here hx rfl (hb hby at_249) rfl kk_) ?_
      show Goes p e below _ (T495.setTop (mkF m 250 #[vi x0, vi x1, vi x2, vi (8 : Int32), vi (0 : Int32), vi (5 : Int32), vr b329, vr r_484] [(.int ((0 : Int32) + (1 : Int32))), (.int (1 : Int32))]))
      rw [show ((0 : Int32) + (1 : Int32)) = (1 : Int32) from by decide]
      show Goes p e below _ (T495.setTop (mkF m 250 #[vi x0, vi x1, vi x2, vi (8 : Int32), vi (0 : Int32), vi (5 : Int32), vr b329, vr r_484] [(.int (1 : Int32)), (.int (1 : Int32))]))
      have hc250_497 : (1 : Int32) = (1 : Int32) := (by decide)
      refine Goes.via (fun _ kk_ => XS.icmpNo X495.here hx rfl (hb hby at_250) rfl (teq hc250_497).2 kk_) ?_
      show Goes p e below _ (T495.setTop (mkF m 253 #[vi x0, vi x1, vi x2, vi (8 : Int32), vi (0 : Int32), vi (5 : Int32), vr b329, vr r_484] []))
      refine gAL X495 hx hby at_253 rfl rfl ?_
      refine gIC (z := 0) X495 hx hby at_255 rfl ?_
      have f498 : Sta Z T484.heap "jdk/internal/util/Preconditions" "SIOOBE_FORMATTER" "Ljava/util/function/BiFunction;" fo := own_sta_keep OF K493
      obtain ⟨cq499, kq499, q499a, q499b, q499c⟩ := isOf hZ e495' u484_1
      obtain ⟨_, _, ⟨T499, L499, k499, n499⟩, -, X499, ⟨Lc499, hQ499, l499, y499, z499⟩, st499⟩ := X495.virtualBack hx (y := (⟨"java/lang/String", "charAt", "(I)C"⟩ : MethodName)) (z := (⟨"java/lang/String", "charAt", "(I)C"⟩ : MethodName)) hown (mvT hZ (own_w hw 13 rfl)) (mvT hZ (own_w hw 14 rfl)) (notFace_of_selects (args := #[]) (mvT hZ (own_w hw 16 rfl))) (mvT hZ (own_w hw 16 rfl)) (mvT hZ (own_w hw 15 rfl)) (by decide) (backOf (W := 0) (rm2 l Z a0 hw [] r_484 (0 : Int32) cS nb484 kb484 1 (fun i => g (13 + i)) (1 : Int32) 0 fo T484.heap n0 (Nat.le_trans Z0 z496) u484_1 u484_2 u484_3 u484_4 f494 H_cs (by decide) (by decide) (by decide) f498 Hfo) hZ (own_w hw 17 rfl) (own_w hw 6 rfl) (by decide) (by decide)) q499a q499c (g := (mkF m 256 #[vi x0, vi x1, vi x2, vi (8 : Int32), vi (0 : Int32), vi (5 : Int32), vr b329, vr r_484] [(.int (0 : Int32)), (.ref r_484)])) rfl (by rw [hml]; rfl) (Steps.refl _) (argsL := [(.int (0 : Int32))]) (rest := []) (lenOf pd_17 rfl) rfl (by show 2 * 0 + _ ≤ _; exact Nat.le_of_eq rfl) (hb hby at_256) (fun _ _ => ⟨rfl, e495', (by decide : 21 + 0 ≤ _), (by decide : 896 + 0 ≤ _)⟩)
      dsimp only [Pt.U, Pt.locs, Pt.cells, Pt.slots] at X499 l499 y499 z499 st499 hQ499
      replace l499 := l499.symm
      subst l499 y499 z499
      obtain ⟨rfl, rfl, e499⟩ := hQ499
      first | rw [List.append_nil] at X499 | skip
      refine Goes.tr st499 ?_
      have e499' : T499.heap = T484.heap := e499
      show Goes p e below _ (T499.setTop (mkF m 259 #[vi x0, vi x1, vi x2, vi (8 : Int32), vi (0 : Int32), vi (5 : Int32), vr b329, vr r_484] [(.int ((fun i => g (13 + i)) 0 &&& (255 : Int32)))]))
      refine gBI (z := 47) X499 hx hby at_259 rfl ?_
      have hc261_500 : ((fun i => g (13 + i)) 0 &&& (255 : Int32)) = (47 : Int32) := (show g 13 &&& (255 : Int32) = (47 : Int32) from by rw [g_13, f13]; decide)
      refine Goes.via (fun _ kk_ => XS.icmpNo X499.here hx rfl (hb hby at_261) rfl (teq hc261_500).2 kk_) ?_
      show Goes p e below _ (T499.setTop (mkF m 264 #[vi x0, vi x1, vi x2, vi (8 : Int32), vi (0 : Int32), vi (5 : Int32), vr b329, vr r_484] []))
      refine gIL X499 hx hby at_264 rfl ?_
      refine gIC (z := 1) X499 hx hby at_266 rfl ?_
      have hc267_501 : (0 : Int32) < (1 : Int32) := (by decide)
      refine Goes.via (fun _ kk_ => XS.icmpYes X499.here hx rfl (pc0 := 267) (pc' := 284) rfl (hb hby at_267) rfl (tlt hc267_501).1 (by decide) (by decide) kk_) ?_
      show Goes p e below _ (T499.setTop (mkF m 284 #[vi x0, vi x1, vi x2, vi (8 : Int32), vi (0 : Int32), vi (5 : Int32), vr b329, vr r_484] []))
      refine gIL X499 hx hby at_284 rfl ?_
      refine gIC (z := 2) X499 hx hby at_286 rfl ?_
      have hc287_502 : (0 : Int32) < (2 : Int32) := (by decide)
      refine Goes.via (fun _ kk_ => XS.icmpYes X499.here hx rfl (pc0 := 287) (pc' := 304) rfl (hb hby at_287) rfl (tlt hc287_502).1 (by decide) (by decide) kk_) ?_
      show Goes p e below _ (T499.setTop (mkF m 304 #[vi x0, vi x1, vi x2, vi (8 : Int32), vi (0 : Int32), vi (5 : Int32), vr b329, vr r_484] []))
      refine gIL X499 hx hby at_304 rfl ?_
      refine gIC (z := 3) X499 hx hby at_306 rfl ?_
      have hc307_503 : (0 : Int32) < (3 : Int32) := (by decide)
      refine Goes.via (fun _ kk_ => XS.icmpYes X499.here hx rfl (pc0 := 307) (pc' := 324) rfl (hb hby at_307) rfl (tlt hc307_503).1 (by decide) (by decide) kk_) ?_
      show Goes p e below _ (T499.setTop (mkF m 324 #[vi x0, vi x1, vi x2, vi (8 : Int32), vi (0 : Int32), vi (5 : Int32), vr b329, vr r_484] []))
      refine gIC (z := 1) X499 hx hby at_324 rfl ?_
      refine Goes.via (fun _ kk_ => XS.goto X499.here hx rfl (pc0 := 325) (pc' := 329) rfl (hb hby at_325) (by decide) (by decide) kk_) ?_
      show Goes p e below _ (T499.setTop (mkF m 329 #[vi x0, vi x1, vi x2, vi (8 : Int32), vi (0 : Int32), vi (5 : Int32), vr b329, vr r_484] [(.int (1 : Int32))]))
      have hKe : KT Z own_K0 T499.vm T499.heap := by rw [e499']; exact Ks484.at_ (s := s) X499.warmed
      exact own_wfinN X499 SI484 (by rw [e499']; exact (Nat.le_refl _)) (fun U_ hv hh_ => by show KT Z own_K0 U_.vm U_.heap; rw [hv, hh_]; exact hKe) hx hlk hret (by simp) (hb hby at_329) (by rw [e499']; exact ⟨rfl, N484, K493⟩) (by first | decide | omega | (dsimp only; omega)) (by first | decide | omega | (dsimp only; omega))
    · subst ht
      obtain rfl : hv = (4 : Int32) := hhv.trans (by decide)
      have f8 : u8 = own_hc x1 (0 : Int32) := e8.trans (if_pos (by decide))
      have c8 : own_C u8 ∧ ¬ u8 = (47 : Int32) := by rw [f8]; exact own_hcP _ _
      have f9 : u9 = own_hc x1 (1 : Int32) := e9.trans (if_pos (by decide))
      have c9 : own_C u9 ∧ ¬ u9 = (47 : Int32) := by rw [f9]; exact own_hcP _ _
      have f10 : u10 = own_hc x1 (2 : Int32) := e10.trans (if_pos (by decide))
      have c10 : own_C u10 ∧ ¬ u10 = (47 : Int32) := by rw [f10]; exact own_hcP _ _
      have f11 : u11 = own_hc x1 (3 : Int32) := e11.trans (if_pos (by decide))
      have c11 : own_C u11 ∧ ¬ u11 = (47 : Int32) := by rw [f11]; exact own_hcP _ _
      have f12 : u12 = (47 : Int32) := e12.trans ((if_neg (by decide)).trans (if_pos (by decide)))
      have c12 : own_C u12 ∧ True := ⟨by rw [f12]; decide, trivial⟩
      have f13 : u13 = own_pc x2 (0 : Int32) := e13.trans ((if_neg (by decide)).trans (if_neg (by decide)))
      have c13 : own_C u13 ∧ True := ⟨by rw [f13]; exact own_pcP _ _, trivial⟩
      show Goes p e below _ (T469.setTop (mkF m 227 #[vi x0, vi x1, vi x2, vi (8 : Int32), vi (1 : Int32), vi (4 : Int32), vr b329, .unset] []))
      obtain ⟨T504, h504, X504, e504, E504, A504, D504, -, st504⟩ := newO X469 hx hZ hown (own_w hw 52 rfl) (own_w hw 7 rfl) (own_w hw 6 rfl) e469 (g := (mkF m 227 #[vi x0, vi x1, vi x2, vi (8 : Int32), vi (1 : Int32), vi (4 : Int32), vr b329, .unset] [])) rfl (hb hby at_227) (by first | decide | omega | (dsimp only; omega)) (by first | decide | omega | (dsimp only; omega))
      obtain ⟨b504, g504⟩ : ∃ z, z = (h469).size := ⟨_, rfl⟩
      rw [← g504] at A504 D504 st504
      have lne505 : b329 < b504 := Nat.lt_of_lt_of_le A469.lt (Nat.le_of_eq g504.symm)
      have ne505 : b329 ≠ b504 := Nat.ne_of_lt lne505
      have z506 : h0.size ≤ (h469).size := (Nat.le_trans (Nat.le_trans z465 K464.1) (Nat.le_of_eq W469.size.symm))
      have sz_b504 : h0.size ≤ b504 := Nat.le_trans z506 (Nat.le_of_eq g504.symm)
      have gn_b504 : n0 ≤ b504 := Nat.le_trans Z0 sz_b504
      have F_value_b504 : Fld Z h504 b504 "java/lang/String" "value" "[B" .null := D504 (Or.inr (own_w hw 9 rfl)) (ty := (.array .byte)) (by decide)
      have F_coder_b504 : Fld Z h504 b504 "java/lang/String" "coder" "B" (.int (0 : Int32)) := D504 (Or.inr (own_w hw 10 rfl)) (ty := .byte) (by decide)
      refine Goes.via st504 ?_
      show Goes p e below _ (T504.setTop (mkF m 230 #[vi x0, vi x1, vi x2, vi (8 : Int32), vi (1 : Int32), vi (4 : Int32), vr b329, .unset] [(.ref b504)]))
      refine gDU X504 hx hby at_230 rfl ?_
      refine gAL X504 hx hby at_231 rfl rfl ?_
      have f508 : Arw Z h504 b329 k329 .char 14 (own_upd (own_upd (own_upd (own_upd (own_upd (own_upd (own_upd (own_upd (own_upd (own_upd (own_upd (own_upd (own_upd (own_upd (fun _ => (.int 0)) 0 (.int (nar .char (104 : Int32)))) 1 (.int (nar .char (116 : Int32)))) 2 (.int (nar .char (116 : Int32)))) 3 (.int (nar .char (112 : Int32)))) 4 (.int (nar .char (115 : Int32)))) 5 (.int (nar .char (58 : Int32)))) 6 (.int (nar .char (47 : Int32)))) 7 (.int (nar .char (47 : Int32)))) 8 (.int (nar .char u8))) 9 (.int (nar .char u9))) 10 (.int (nar .char u10))) 11 (.int (nar .char u11))) 12 (.int (nar .char u12))) 13 (.int (nar .char u13))) := (A469.ext E504)
      have Va507 : Arv Z h504 b329 k329 .char (14 : Int32) ([(104 : Int32), (116 : Int32), (116 : Int32), (112 : Int32), (115 : Int32), (58 : Int32), (47 : Int32), (47 : Int32), u8, u9, u10, u11, u12, u13].map Value.int) (.int (0 : Int32)) := f508.toArv (by decide) (by intro i hi; match i, hi with | 0, _ => rfl | 1, _ => rfl | 2, _ => rfl | 3, _ => rfl | 4, _ => rfl | 5, _ => rfl | 6, _ => rfl | 7, _ => rfl | 8, _ => exact (congrArg Value.int c8.1.1.symm).trans rfl | 9, _ => exact (congrArg Value.int c9.1.1.symm).trans rfl | 10, _ => exact (congrArg Value.int c10.1.1.symm).trans rfl | 11, _ => exact (congrArg Value.int c11.1.1.symm).trans rfl | 12, _ => exact (congrArg Value.int c12.1.1.symm).trans rfl | 13, _ => exact (congrArg Value.int c13.1.1.symm).trans rfl | q + 14, h => exact absurd h (by omega))
      have K509 : Keep h0 h504 [] := (((K460.trans K464 all0).wr W469 (Or.inr sz_b329)).ext E504)
      have f510 : Sta Z h504 "java/lang/String" "COMPACT_STRINGS" "Z" (.int cS) := own_sta_keep OS K509
      have z511 : h0.size ≤ (h504).size := (Nat.le_trans z506 E504.1)
      have hws507 : ∀ d ∈ StrChars.Road.words, d.before a0 Z = true := fun d hd => hw d ((by decide +kernel : ∀ d ∈ StrChars.Road.words, d ∈ tables_1) d hd)
      have hlat507 : ∀ c ∈ [(104 : Int32), (116 : Int32), (116 : Int32), (112 : Int32), (115 : Int32), (58 : Int32), (47 : Int32), (47 : Int32), u8, u9, u10, u11, u12, u13], ¬ c < 0 ∧ ¬ (255 : Int32) < c := (own_aS (by decide) (own_aS (by decide) (own_aS (by decide) (own_aS (by decide) (own_aS (by decide) (own_aS (by decide) (own_aS (by decide) (own_aS (by decide) (own_aS c8.1.2.2.2 (own_aS c9.1.2.2.2 (own_aS c10.1.2.2.2 (own_aS c11.1.2.2.2 (own_aS c12.1.2.2.2 (own_aS c13.1.2.2.2 own_a0))))))))))))))
      obtain ⟨bs507, hbs507⟩ : ∃ z : List Int32, z = [(104 : Int32), (116 : Int32), (116 : Int32), (112 : Int32), (115 : Int32), (58 : Int32), (47 : Int32), (47 : Int32), u8, u9, u10, u11, u12, u13].map (fun c => c.toInt8.toInt32) := ⟨_, rfl⟩
      obtain ⟨_, _, ⟨T507, L507, k507, n507⟩, -, X507, ⟨Lc507, hQ507, l507, y507, z507⟩, st507⟩ := X504.specialBack hx (y := (⟨"java/lang/String", "<init>", "([C)V"⟩ : MethodName)) rfl hown (mvT hZ (own_w hw 53 rfl)) (mvT hZ (own_w hw 54 rfl)) (mvT hZ (own_w hw 55 rfl)) (by decide) (StrChars.Road.backV (W := 1) hZ hws507 (kI := 4) (own_w hw 7 rfl) (cs := [(104 : Int32), (116 : Int32), (116 : Int32), (112 : Int32), (115 : Int32), (58 : Int32), (47 : Int32), (47 : Int32), u8, u9, u10, u11, u12, u13]) (bs := bs507) (n := 14) gn_b504 (Nat.le_trans Z0 z511) A504 F_value_b504 F_coder_b504 Va507 f510 H_cs rfl rfl (by decide) (by decide) hlat507 hbs507 (by decide) (by decide)) (g := (mkF m 233 #[vi x0, vi x1, vi x2, vi (8 : Int32), vi (1 : Int32), vi (4 : Int32), vr b329, .unset] [(.ref b329), (.ref b504), (.ref b504)])) rfl (by rw [hml]; rfl) (Steps.refl _) (a := b504) (argsL := [(.ref b329)]) (rest := [(.ref b504)]) (lenOf pd_22 rfl) rfl (by show 2 * 0 + _ ≤ _; exact Nat.le_of_eq rfl) (hb hby at_233) (fun _ _ => ⟨rfl, e504, (by first | decide | omega : 16 + 1 ≤ _), (by first | decide | omega : 846 + 14 ≤ _)⟩)
      dsimp only [Pt.U, Pt.locs, Pt.cells, Pt.slots] at X507 l507 y507 z507 st507 hQ507
      replace l507 := l507.symm
      subst l507 y507 z507
      obtain ⟨rfl, N507q, K507, uE507, uC507, sb507, kb507, ug507, uz507, un507, uV507, uA507⟩ := hQ507
      have N507 := Fr.app N469 N507q
      have ne512 : b329 ≠ sb507 := Nat.ne_of_lt (Nat.lt_of_lt_of_le f508.lt uz507)
      have ne513 : b504 ≠ sb507 := Nat.ne_of_lt (Nat.lt_of_lt_of_le A504.lt uz507)
      have sz_sb507 : h0.size ≤ sb507 := Nat.le_trans z511 uz507
      refine Goes.tr st507 ?_
      show Goes p e below _ (T507.setTop (mkF m 236 #[vi x0, vi x1, vi x2, vi (8 : Int32), vi (1 : Int32), vi (4 : Int32), vr b329, .unset] [(.ref b504)]))
      obtain ⟨g, hg⟩ : ∃ g : Nat → Int32, g = fun i => ([(104 : Int32), (116 : Int32), (116 : Int32), (112 : Int32), (115 : Int32), (58 : Int32), (47 : Int32), (47 : Int32), u8, u9, u10, u11, u12, u13] : List Int32).getD i 0 := ⟨_, rfl⟩
      have g_0 : g 0 = (104 : Int32) := by rw [hg]; rfl
      have g_1 : g 1 = (116 : Int32) := by rw [hg]; rfl
      have g_2 : g 2 = (116 : Int32) := by rw [hg]; rfl
      have g_3 : g 3 = (112 : Int32) := by rw [hg]; rfl
      have g_4 : g 4 = (115 : Int32) := by rw [hg]; rfl
      have g_5 : g 5 = (58 : Int32) := by rw [hg]; rfl
      have g_6 : g 6 = (47 : Int32) := by rw [hg]; rfl
      have g_7 : g 7 = (47 : Int32) := by rw [hg]; rfl
      have g_8 : g 8 = u8 := by rw [hg]; rfl
      have g_9 : g 9 = u9 := by rw [hg]; rfl
      have g_10 : g 10 = u10 := by rw [hg]; rfl
      have g_11 : g 11 = u11 := by rw [hg]; rfl
      have g_12 : g 12 = u12 := by rw [hg]; rfl
      have g_13 : g 13 = u13 := by rw [hg]; rfl
      have Vg : Arw Z T507.heap sb507 kb507 .byte 14 (fun i => .int (g i)) := Arw.ofArv uA507 (by decide) (by intro i hi; rw [hbs507]; match i, hi with | 0, _ => exact (congrArg Value.int (show (104 : Int32).toInt8.toInt32 = (104 : Int32) from by decide)).trans (congrArg Value.int g_0.symm) | 1, _ => exact (congrArg Value.int (show (116 : Int32).toInt8.toInt32 = (116 : Int32) from by decide)).trans (congrArg Value.int g_1.symm) | 2, _ => exact (congrArg Value.int (show (116 : Int32).toInt8.toInt32 = (116 : Int32) from by decide)).trans (congrArg Value.int g_2.symm) | 3, _ => exact (congrArg Value.int (show (112 : Int32).toInt8.toInt32 = (112 : Int32) from by decide)).trans (congrArg Value.int g_3.symm) | 4, _ => exact (congrArg Value.int (show (115 : Int32).toInt8.toInt32 = (115 : Int32) from by decide)).trans (congrArg Value.int g_4.symm) | 5, _ => exact (congrArg Value.int (show (58 : Int32).toInt8.toInt32 = (58 : Int32) from by decide)).trans (congrArg Value.int g_5.symm) | 6, _ => exact (congrArg Value.int (show (47 : Int32).toInt8.toInt32 = (47 : Int32) from by decide)).trans (congrArg Value.int g_6.symm) | 7, _ => exact (congrArg Value.int (show (47 : Int32).toInt8.toInt32 = (47 : Int32) from by decide)).trans (congrArg Value.int g_7.symm) | 8, _ => exact (congrArg Value.int (show u8.toInt8.toInt32 = u8 from c8.1.2.1)).trans (congrArg Value.int g_8.symm) | 9, _ => exact (congrArg Value.int (show u9.toInt8.toInt32 = u9 from c9.1.2.1)).trans (congrArg Value.int g_9.symm) | 10, _ => exact (congrArg Value.int (show u10.toInt8.toInt32 = u10 from c10.1.2.1)).trans (congrArg Value.int g_10.symm) | 11, _ => exact (congrArg Value.int (show u11.toInt8.toInt32 = u11 from c11.1.2.1)).trans (congrArg Value.int g_11.symm) | 12, _ => exact (congrArg Value.int (show u12.toInt8.toInt32 = u12 from c12.1.2.1)).trans (congrArg Value.int g_12.symm) | 13, _ => exact (congrArg Value.int (show u13.toInt8.toInt32 = u13 from c13.1.2.1)).trans (congrArg Value.int g_13.symm) | n + 14, h => exact absurd h (by omega))
      have K514 : Keep h0 T507.heap [] := (K509.trans K507 (allS (Or.inr sz_b504) all0))
      have f515 : Sta Z T507.heap "java/lang/String" "COMPACT_STRINGS" "Z" (.int cS) := own_sta_keep OS K514
      have f516 : Sta Z T507.heap "jdk/internal/util/Preconditions" "SIOOBE_FORMATTER" "Ljava/util/function/BiFunction;" fo := own_sta_keep OF K514
      have ol517 : Old Z n0 (T507.heap) := ((((ol463.keep K464 all0).wr W469 gn_b329).ext E504).keep K507 (allS gn_b504 all0))
      have z519 : h0.size ≤ (T507.heap).size := (Nat.le_trans z511 K507.1)
      have Ks520 : KT Z own_K0 T464.vm (T507.heap) := (((Ks464.wr W469 (NoS.arr f468 (own_w hw 7 rfl) (by intro q; cases q))).ext E504).keep K507 (allS (NoS.str A504 (own_w hw 7 rfl) F_value_b504) all0))
      have sk521 : _ ≤ (T507.heap).size := (Nat.le_trans (Nat.le_trans (Nat.le_trans (Nat.le_refl _) (Nat.le_of_eq W469.size.symm)) E504.1) K507.1)
      obtain ⟨_, _, ⟨T518, L518, k518, n518⟩, -, ⟨X518, Si518⟩, ⟨Lc518, ⟨hQ518, tK518, hK518, hKv518, hKh518⟩, l518, y518, z518⟩, st518⟩ := own_callSW X507 hx (y := (⟨"com/example/lincra/lincra/UrlNormalizer", "pathAndQuery", "(Ljava/lang/String;)Ljava/lang/String;"⟩ : MethodName)) hown (mvT hZ (own_w hw 73 rfl)) (mvT hZ (own_w hw 74 rfl)) (mvT hZ (own_w hw 75 rfl)) (mvT hZ (own_w hw 76 rfl)) (by decide) (own_backOfW (W := 0) (K := (fun U_ => KT Z own_K0 U_.vm U_.heap)) (KP := (fun U_ => KT Z own_K0 U_.vm U_.heap)) (rmQ5 l Z a0 hw [] b504 cS fo sb507 kb507 g (12 : Int32) 12 2 T507.heap n0 (Nat.le_trans Z0 z519) uE507 uC507 uV507 Vg f515 H_cs f516 Hfo ol517 HW HC0 HC1 HC2 HC3 HC4 (by rw [g_0]; decide) (by rw [g_1]; decide) (by rw [g_2]; decide) (by rw [g_3]; decide) (by rw [g_4]; decide) g_5 g_6 g_7 (by rw [show (47 : Int32).toInt8.toInt32 = (47 : Int32) by decide, show 14 - 8 = 6 by decide, own_fs, if_neg (show ¬ g 8 = (47 : Int32) by rw [g_8]; exact c8.2), own_fs, if_neg (show ¬ g 9 = (47 : Int32) by rw [g_9]; exact c9.2), own_fs, if_neg (show ¬ g 10 = (47 : Int32) by rw [g_10]; exact c10.2), own_fs, if_neg (show ¬ g 11 = (47 : Int32) by rw [g_11]; exact c11.2), own_fs, if_pos (g_12.trans f12)]; decide) (by decide) (by decide) (by decide) (by decide) (by decide)) hZ (own_w hw 76 rfl) (own_w hw 75 rfl) (by decide) (by decide) (fun V_ hV hVh => by show KT Z own_K0 V_.vm V_.heap; rw [hVh]; exact Ks520.at_ (s := s) hV)) (g := (mkF m 236 #[vi x0, vi x1, vi x2, vi (8 : Int32), vi (1 : Int32), vi (4 : Int32), vr b329, .unset] [(.ref b504)])) rfl (by rw [hml]; rfl) (argsL := [(.ref b504)]) (rest := []) (lenOf pd_23 rfl) rfl (by show 2 * 0 + _ ≤ _; exact Nat.le_of_eq rfl) (hb hby at_236) (fun _ _ => ⟨rfl, rfl, (by decide : 17 + 4 ≤ _), (by decide : 860 + 36 ≤ _)⟩)
      dsimp only [Pt.U, Pt.locs, Pt.cells, Pt.slots] at X518 l518 y518 z518 st518 hQ518 Si518 hKv518 hKh518
      replace l518 := l518.symm
      subst l518 y518 z518
      obtain ⟨r_518, nb518, kb518, rfl, N518q, K518, u518_0, u518_1, u518_2, u518_3, u518_4⟩ := hQ518
      have N518 := Fr.app N507 N518q
      refine Goes.via st518 ?_
      obtain ⟨X518', SI518, hZ, hown⟩ := rebS SI464 sk521 X518 Si518 K518.1 hZ hown
      have Ks518 : KT Z own_K0 T518.vm T518.heap := by rw [← hKv518, ← hKh518]; exact hK518
      have f522 : Arw Z T507.heap b329 k329 .char 14 (own_upd (own_upd (own_upd (own_upd (own_upd (own_upd (own_upd (own_upd (own_upd (own_upd (own_upd (own_upd (own_upd (own_upd (fun _ => (.int 0)) 0 (.int (nar .char (104 : Int32)))) 1 (.int (nar .char (116 : Int32)))) 2 (.int (nar .char (116 : Int32)))) 3 (.int (nar .char (112 : Int32)))) 4 (.int (nar .char (115 : Int32)))) 5 (.int (nar .char (58 : Int32)))) 6 (.int (nar .char (47 : Int32)))) 7 (.int (nar .char (47 : Int32)))) 8 (.int (nar .char u8))) 9 (.int (nar .char u9))) 10 (.int (nar .char u10))) 11 (.int (nar .char u11))) 12 (.int (nar .char u12))) 13 (.int (nar .char u13))) := (f508.keep K507 (ninS ne505 nin0))
      have ne523 : b329 ≠ r_518 := Nat.ne_of_lt (Nat.lt_of_lt_of_le f522.lt u518_0)
      have ne524 : b504 ≠ r_518 := Nat.ne_of_lt (Nat.lt_of_lt_of_le uE507.lt u518_0)
      have ne525 : sb507 ≠ r_518 := Nat.ne_of_lt (Nat.lt_of_lt_of_le uA507.lt u518_0)
      have sz_r_518 : h0.size ≤ r_518 := Nat.le_trans z519 u518_0
      have gn_r_518 : n0 ≤ r_518 := Nat.le_trans Z0 sz_r_518
      -- u518_0 : h0.size ≤ r_518
      have ne526 : r_518 ≠ nb518 := own_ne_arr u518_1 (own_w hw 7 rfl) u518_4
      show Goes p e below _ (T518.setTop (mkF m 239 #[vi x0, vi x1, vi x2, vi (8 : Int32), vi (1 : Int32), vi (4 : Int32), vr b329, .unset] [(.ref r_518)]))
      refine Goes.via (fun _ kk_ => XS.astore X518'.here hx rfl (hb hby at_239) rfl rfl (l' := #[vi x0, vi x1, vi x2, vi (8 : Int32), vi (1 : Int32), vi (4 : Int32), vr b329, vr r_518]) rfl kk_) ?_
      show Goes p e below _ (T518.setTop (mkF m 241 #[vi x0, vi x1, vi x2, vi (8 : Int32), vi (1 : Int32), vi (4 : Int32), vr b329, vr r_518] []))
      refine gAL X518' hx hby at_241 rfl rfl ?_
      have K527 : Keep h0 T518.heap [] := (K514.trans K518 all0)
      have f528 : Sta Z T518.heap "java/lang/String" "COMPACT_STRINGS" "Z" (.int cS) := own_sta_keep OS K527
      have z530 : h0.size ≤ (T518.heap).size := (Nat.le_trans z519 K518.1)
      obtain ⟨cq529, kq529, q529a, q529b, q529c⟩ := isOf hZ rfl u518_1
      obtain ⟨_, _, ⟨T529, L529, k529, n529⟩, -, X529, ⟨Lc529, hQ529, l529, y529, z529⟩, st529⟩ := X518'.virtualBack hx (y := (⟨"java/lang/String", "length", "()I"⟩ : MethodName)) (z := (⟨"java/lang/String", "length", "()I"⟩ : MethodName)) hown (mvT hZ (own_w hw 42 rfl)) (mvT hZ (own_w hw 43 rfl)) (notFace_of_selects (args := #[]) (mvT hZ (own_w hw 45 rfl))) (mvT hZ (own_w hw 45 rfl)) (mvT hZ (own_w hw 44 rfl)) (by decide) (backOf (W := 0) (rm8 l Z a0 hw [] r_518 (2 : Int32) cS nb518 kb518 2 (fun i => g (12 + i)) T518.heap n0 (Nat.le_trans Z0 z530) u518_1 u518_2 u518_3 u518_4 f528 H_cs (by decide)) hZ (own_w hw 46 rfl) (own_w hw 6 rfl) (by decide) (by decide)) q529a q529c (g := (mkF m 243 #[vi x0, vi x1, vi x2, vi (8 : Int32), vi (1 : Int32), vi (4 : Int32), vr b329, vr r_518] [(.ref r_518)])) rfl (by rw [hml]; rfl) (Steps.refl _) (argsL := []) (rest := []) (lenOf pd_8 rfl) rfl (by show 2 * 0 + _ ≤ _; exact Nat.le_of_eq rfl) (hb hby at_243) (fun _ _ => ⟨rfl, rfl, (by decide : 21 + 0 ≤ _), (by decide : 896 + 0 ≤ _)⟩)
      dsimp only [Pt.U, Pt.locs, Pt.cells, Pt.slots] at X529 l529 y529 z529 st529 hQ529
      replace l529 := l529.symm
      subst l529 y529 z529
      obtain ⟨rfl, rfl, e529⟩ := hQ529
      first | rw [List.append_nil] at X529 | skip
      refine Goes.tr st529 ?_
      have e529' : T529.heap = T518.heap := e529
      show Goes p e below _ (T529.setTop (mkF m 246 #[vi x0, vi x1, vi x2, vi (8 : Int32), vi (1 : Int32), vi (4 : Int32), vr b329, vr r_518] [(.int (2 : Int32))]))
      refine gIL X529 hx hby at_246 rfl ?_
      refine gIC (z := 1) X529 hx hby at_248 rfl ?_
      refine Goes.via (fun _ kk_ => XS.iadd X529.here hx rfl (hb hby at_249) rfl kk_) ?_
      show Goes p e below _ (T529.setTop (mkF m 250 #[vi x0, vi x1, vi x2, vi (8 : Int32), vi (1 : Int32), vi (4 : Int32), vr b329, vr r_518] [(.int ((1 : Int32) + (1 : Int32))), (.int (2 : Int32))]))
      rw [show ((1 : Int32) + (1 : Int32)) = (2 : Int32) from by decide]
      show Goes p e below _ (T529.setTop (mkF m 250 #[vi x0, vi x1, vi x2, vi (8 : Int32), vi (1 : Int32), vi (4 : Int32), vr b329, vr r_518] [(.int (2 : Int32)), (.int (2 : Int32))]))
      have hc250_531 : (2 : Int32) = (2 : Int32) := (by decide)
      refine Goes.via (fun _ kk_ => XS.icmpNo X529.here hx rfl (hb hby at_250) rfl (teq hc250_531).2 kk_) ?_
      show Goes p e below _ (T529.setTop (mkF m 253 #[vi x0, vi x1, vi x2, vi (8 : Int32), vi (1 : Int32), vi (4 : Int32), vr b329, vr r_518] []))
      refine gAL X529 hx hby at_253 rfl rfl ?_
      refine gIC (z := 0) X529 hx hby at_255 rfl ?_
      have f532 : Sta Z T518.heap "jdk/internal/util/Preconditions" "SIOOBE_FORMATTER" "Ljava/util/function/BiFunction;" fo := own_sta_keep OF K527
      obtain ⟨cq533, kq533, q533a, q533b, q533c⟩ := isOf hZ e529' u518_1
      obtain ⟨_, _, ⟨T533, L533, k533, n533⟩, -, X533, ⟨Lc533, hQ533, l533, y533, z533⟩, st533⟩ := X529.virtualBack hx (y := (⟨"java/lang/String", "charAt", "(I)C"⟩ : MethodName)) (z := (⟨"java/lang/String", "charAt", "(I)C"⟩ : MethodName)) hown (mvT hZ (own_w hw 13 rfl)) (mvT hZ (own_w hw 14 rfl)) (notFace_of_selects (args := #[]) (mvT hZ (own_w hw 16 rfl))) (mvT hZ (own_w hw 16 rfl)) (mvT hZ (own_w hw 15 rfl)) (by decide) (backOf (W := 0) (rm2 l Z a0 hw [] r_518 (0 : Int32) cS nb518 kb518 2 (fun i => g (12 + i)) (2 : Int32) 0 fo T518.heap n0 (Nat.le_trans Z0 z530) u518_1 u518_2 u518_3 u518_4 f528 H_cs (by decide) (by decide) (by decide) f532 Hfo) hZ (own_w hw 17 rfl) (own_w hw 6 rfl) (by decide) (by decide)) q533a q533c (g := (mkF m 256 #[vi x0, vi x1, vi x2, vi (8 : Int32), vi (1 : Int32), vi (4 : Int32), vr b329, vr r_518] [(.int (0 : Int32)), (.ref r_518)])) rfl (by rw [hml]; rfl) (Steps.refl _) (argsL := [(.int (0 : Int32))]) (rest := []) (lenOf pd_17 rfl) rfl (by show 2 * 0 + _ ≤ _; exact Nat.le_of_eq rfl) (hb hby at_256) (fun _ _ => ⟨rfl, e529', (by decide : 21 + 0 ≤ _), (by decide : 896 + 0 ≤ _)⟩)
      dsimp only [Pt.U, Pt.locs, Pt.cells, Pt.slots] at X533 l533 y533 z533 st533 hQ533
      replace l533 := l533.symm
      subst l533 y533 z533
      obtain ⟨rfl, rfl, e533⟩ := hQ533
      first | rw [List.append_nil] at X533 | skip
      refine Goes.tr st533 ?_
      have e533' : T533.heap = T518.heap := e533
      show Goes p e below _ (T533.setTop (mkF m 259 #[vi x0, vi x1, vi x2, vi (8 : Int32), vi (1 : Int32), vi (4 : Int32), vr b329, vr r_518] [(.int ((fun i => g (12 + i)) 0 &&& (255 : Int32)))]))
      refine gBI (z := 47) X533 hx hby at_259 rfl ?_
      have hc261_534 : ((fun i => g (12 + i)) 0 &&& (255 : Int32)) = (47 : Int32) := (show g 12 &&& (255 : Int32) = (47 : Int32) from by rw [g_12, f12]; decide)
      refine Goes.via (fun _ kk_ => XS.icmpNo X533.here hx rfl (hb hby at_261) rfl (teq hc261_534).2 kk_) ?_
      show Goes p e below _ (T533.setTop (mkF m 264 #[vi x0, vi x1, vi x2, vi (8 : Int32), vi (1 : Int32), vi (4 : Int32), vr b329, vr r_518] []))
      refine gIL X533 hx hby at_264 rfl ?_
      refine gIC (z := 1) X533 hx hby at_266 rfl ?_
      have hc267_535 : ¬ ((1 : Int32) < (1 : Int32)) := (by decide)
      refine Goes.via (fun _ kk_ => XS.icmpNo X533.here hx rfl (hb hby at_267) rfl (flt hc267_535).1 kk_) ?_
      show Goes p e below _ (T533.setTop (mkF m 270 #[vi x0, vi x1, vi x2, vi (8 : Int32), vi (1 : Int32), vi (4 : Int32), vr b329, vr r_518] []))
      refine gAL X533 hx hby at_270 rfl rfl ?_
      refine gIC (z := 1) X533 hx hby at_272 rfl ?_
      obtain ⟨cq536, kq536, q536a, q536b, q536c⟩ := isOf hZ e533' u518_1
      obtain ⟨_, _, ⟨T536, L536, k536, n536⟩, -, X536, ⟨Lc536, hQ536, l536, y536, z536⟩, st536⟩ := X533.virtualBack hx (y := (⟨"java/lang/String", "charAt", "(I)C"⟩ : MethodName)) (z := (⟨"java/lang/String", "charAt", "(I)C"⟩ : MethodName)) hown (mvT hZ (own_w hw 13 rfl)) (mvT hZ (own_w hw 14 rfl)) (notFace_of_selects (args := #[]) (mvT hZ (own_w hw 16 rfl))) (mvT hZ (own_w hw 16 rfl)) (mvT hZ (own_w hw 15 rfl)) (by decide) (backOf (W := 0) (rm2 l Z a0 hw [] r_518 (1 : Int32) cS nb518 kb518 2 (fun i => g (12 + i)) (2 : Int32) 1 fo T518.heap n0 (Nat.le_trans Z0 z530) u518_1 u518_2 u518_3 u518_4 f528 H_cs (by decide) (by decide) (by decide) f532 Hfo) hZ (own_w hw 17 rfl) (own_w hw 6 rfl) (by decide) (by decide)) q536a q536c (g := (mkF m 273 #[vi x0, vi x1, vi x2, vi (8 : Int32), vi (1 : Int32), vi (4 : Int32), vr b329, vr r_518] [(.int (1 : Int32)), (.ref r_518)])) rfl (by rw [hml]; rfl) (Steps.refl _) (argsL := [(.int (1 : Int32))]) (rest := []) (lenOf pd_17 rfl) rfl (by show 2 * 0 + _ ≤ _; exact Nat.le_of_eq rfl) (hb hby at_273) (fun _ _ => ⟨rfl, e533', (by decide : 21 + 0 ≤ _), (by decide : 896 + 0 ≤ _)⟩)
      dsimp only [Pt.U, Pt.locs, Pt.cells, Pt.slots] at X536 l536 y536 z536 st536 hQ536
      replace l536 := l536.symm
      subst l536 y536 z536
      obtain ⟨rfl, rfl, e536⟩ := hQ536
      first | rw [List.append_nil] at X536 | skip
      refine Goes.tr st536 ?_
      have e536' : T536.heap = T518.heap := e536
      show Goes p e below _ (T536.setTop (mkF m 276 #[vi x0, vi x1, vi x2, vi (8 : Int32), vi (1 : Int32), vi (4 : Int32), vr b329, vr r_518] [(.int ((fun i => g (12 + i)) 1 &&& (255 : Int32)))]))
      refine gILN X536 hx hby at_276 rfl ?_
      refine gIC (z := 0) X536 hx hby at_277 rfl ?_
      have ol537 : Old Z n0 (T518.heap) := (ol517.keep K518 all0)
      obtain ⟨_, _, ⟨T538, L538, k538, n538⟩, -, ⟨X538, Si538⟩, ⟨Lc538, ⟨hQ538, tK538, hK538, hKv538, hKh538⟩, l538, y538, z538⟩, st538⟩ := own_callSW X536 hx (y := (⟨"com/example/lincra/lincra/UrlNormalizerPathAndQueryPinLaw", "pathChar", "(II)C"⟩ : MethodName)) hown (mvT hZ (own_w hw 150 rfl)) (mvT hZ (own_w hw 151 rfl)) (mvT hZ (own_w hw 3 rfl)) (mvT hZ (own_w hw 152 rfl)) (by decide) (own_backOfW (W := 1) (K := (fun U_ => KT Z own_K0 U_.vm U_.heap)) (KP := (fun U_ => KT Z own_K0 U_.vm U_.heap)) (rm35 l Z a0 hw [] x2 (0 : Int32) cS fo T518.heap n0 (Nat.le_trans Z0 z530) f528 H_cs f532 Hfo ol537 HW HC0 HC1 HC2 HC3 HC4) hZ (own_w hw 152 rfl) (own_w hw 3 rfl) (by decide) (by decide) (fun V_ hV hVh => by show KT Z own_K0 V_.vm V_.heap; rw [hVh]; exact Ks518.at_ (s := s) hV)) (g := (mkF m 278 #[vi x0, vi x1, vi x2, vi (8 : Int32), vi (1 : Int32), vi (4 : Int32), vr b329, vr r_518] [(.int (0 : Int32)), (.int x2), (.int ((fun i => g (12 + i)) 1 &&& (255 : Int32)))])) rfl (by rw [hml]; rfl) (argsL := [(.int x2), (.int (0 : Int32))]) (rest := [(.int ((fun i => g (12 + i)) 1 &&& (255 : Int32)))]) (lenOf pd_18 rfl) rfl (by show 2 * 0 + _ ≤ _; exact Nat.le_of_eq rfl) (hb hby at_278) (fun _ _ => ⟨rfl, e536', (by decide : 21 + 2 ≤ _), (by decide : 896 + 132 ≤ _)⟩)
      dsimp only [Pt.U, Pt.locs, Pt.cells, Pt.slots] at X538 l538 y538 z538 st538 hQ538 Si538 hKv538 hKh538
      replace l538 := l538.symm
      subst l538 y538 z538
      obtain ⟨rfl, N538q, K538⟩ := hQ538
      have N538 := Fr.app N518 N538q
      refine Goes.via st538 ?_
      obtain ⟨X538', SI538, hZ, hown⟩ := rebS SI518 (Nat.le_refl _) X538 Si538 K538.1 hZ hown
      have Ks538 : KT Z own_K0 T538.vm T538.heap := by rw [← hKv538, ← hKh538]; exact hK538
      show Goes p e below _ (T538.setTop (mkF m 281 #[vi x0, vi x1, vi x2, vi (8 : Int32), vi (1 : Int32), vi (4 : Int32), vr b329, vr r_518] [(.int (own_pc x2 (0 : Int32))), (.int ((fun i => g (12 + i)) 1 &&& (255 : Int32)))]))
      have hc281_539 : ((fun i => g (12 + i)) 1 &&& (255 : Int32)) = (own_pc x2 (0 : Int32)) := (show g 13 &&& (255 : Int32) = own_pc x2 (0 : Int32) from by rw [g_13, f13]; exact (own_pcP _ _).2.2.1)
      refine Goes.via (fun _ kk_ => XS.icmpNo X538'.here hx rfl (hb hby at_281) rfl (teq hc281_539).2 kk_) ?_
      show Goes p e below _ (T538.setTop (mkF m 284 #[vi x0, vi x1, vi x2, vi (8 : Int32), vi (1 : Int32), vi (4 : Int32), vr b329, vr r_518] []))
      refine gIL X538' hx hby at_284 rfl ?_
      refine gIC (z := 2) X538' hx hby at_286 rfl ?_
      have hc287_540 : (1 : Int32) < (2 : Int32) := (by decide)
      refine Goes.via (fun _ kk_ => XS.icmpYes X538'.here hx rfl (pc0 := 287) (pc' := 304) rfl (hb hby at_287) rfl (tlt hc287_540).1 (by decide) (by decide) kk_) ?_
      show Goes p e below _ (T538.setTop (mkF m 304 #[vi x0, vi x1, vi x2, vi (8 : Int32), vi (1 : Int32), vi (4 : Int32), vr b329, vr r_518] []))
      refine gIL X538' hx hby at_304 rfl ?_
      refine gIC (z := 3) X538' hx hby at_306 rfl ?_
      have hc307_541 : (1 : Int32) < (3 : Int32) := (by decide)
      refine Goes.via (fun _ kk_ => XS.icmpYes X538'.here hx rfl (pc0 := 307) (pc' := 324) rfl (hb hby at_307) rfl (tlt hc307_541).1 (by decide) (by decide) kk_) ?_
      show Goes p e below _ (T538.setTop (mkF m 324 #[vi x0, vi x1, vi x2, vi (8 : Int32), vi (1 : Int32), vi (4 : Int32), vr b329, vr r_518] []))
      refine gIC (z := 1) X538' hx hby at_324 rfl ?_
      refine Goes.via (fun _ kk_ => XS.goto X538'.here hx rfl (pc0 := 325) (pc' := 329) rfl (hb hby at_325) (by decide) (by decide) kk_) ?_
      show Goes p e below _ (T538.setTop (mkF m 329 #[vi x0, vi x1, vi x2, vi (8 : Int32), vi (1 : Int32), vi (4 : Int32), vr b329, vr r_518] [(.int (1 : Int32))]))
      have K542 : Keep h0 T538.heap [] := (K527.trans K538 all0)
      have hKe : KT Z own_K0 T538.vm T538.heap := by rw [show T538.heap = T538.heap from rfl]; exact Ks538.at_ (s := s) X538'.warmed
      exact own_wfinN X538' SI538 (Nat.le_refl _) (fun U_ hv hh_ => by show KT Z own_K0 U_.vm U_.heap; rw [hv, hh_]; exact hKe) hx hlk hret (by simp) (hb hby at_329) (by exact ⟨rfl, N538, K542⟩) (by first | decide | omega | (dsimp only; omega)) (by first | decide | omega | (dsimp only; omega))
    · subst ht
      obtain rfl : hv = (3 : Int32) := hhv.trans (by decide)
      have f8 : u8 = own_hc x1 (0 : Int32) := e8.trans (if_pos (by decide))
      have c8 : own_C u8 ∧ ¬ u8 = (47 : Int32) := by rw [f8]; exact own_hcP _ _
      have f9 : u9 = own_hc x1 (1 : Int32) := e9.trans (if_pos (by decide))
      have c9 : own_C u9 ∧ ¬ u9 = (47 : Int32) := by rw [f9]; exact own_hcP _ _
      have f10 : u10 = own_hc x1 (2 : Int32) := e10.trans (if_pos (by decide))
      have c10 : own_C u10 ∧ ¬ u10 = (47 : Int32) := by rw [f10]; exact own_hcP _ _
      have f11 : u11 = (47 : Int32) := e11.trans ((if_neg (by decide)).trans (if_pos (by decide)))
      have c11 : own_C u11 ∧ True := ⟨by rw [f11]; decide, trivial⟩
      have f12 : u12 = own_pc x2 (0 : Int32) := e12.trans ((if_neg (by decide)).trans (if_neg (by decide)))
      have c12 : own_C u12 ∧ True := ⟨by rw [f12]; exact own_pcP _ _, trivial⟩
      have f13 : u13 = own_pc x2 (1 : Int32) := e13.trans ((if_neg (by decide)).trans (if_neg (by decide)))
      have c13 : own_C u13 ∧ True := ⟨by rw [f13]; exact own_pcP _ _, trivial⟩
      show Goes p e below _ (T469.setTop (mkF m 227 #[vi x0, vi x1, vi x2, vi (8 : Int32), vi (2 : Int32), vi (3 : Int32), vr b329, .unset] []))
      obtain ⟨T543, h543, X543, e543, E543, A543, D543, -, st543⟩ := newO X469 hx hZ hown (own_w hw 52 rfl) (own_w hw 7 rfl) (own_w hw 6 rfl) e469 (g := (mkF m 227 #[vi x0, vi x1, vi x2, vi (8 : Int32), vi (2 : Int32), vi (3 : Int32), vr b329, .unset] [])) rfl (hb hby at_227) (by first | decide | omega | (dsimp only; omega)) (by first | decide | omega | (dsimp only; omega))
      obtain ⟨b543, g543⟩ : ∃ z, z = (h469).size := ⟨_, rfl⟩
      rw [← g543] at A543 D543 st543
      have lne544 : b329 < b543 := Nat.lt_of_lt_of_le A469.lt (Nat.le_of_eq g543.symm)
      have ne544 : b329 ≠ b543 := Nat.ne_of_lt lne544
      have z545 : h0.size ≤ (h469).size := (Nat.le_trans (Nat.le_trans z465 K464.1) (Nat.le_of_eq W469.size.symm))
      have sz_b543 : h0.size ≤ b543 := Nat.le_trans z545 (Nat.le_of_eq g543.symm)
      have gn_b543 : n0 ≤ b543 := Nat.le_trans Z0 sz_b543
      have F_value_b543 : Fld Z h543 b543 "java/lang/String" "value" "[B" .null := D543 (Or.inr (own_w hw 9 rfl)) (ty := (.array .byte)) (by decide)
      have F_coder_b543 : Fld Z h543 b543 "java/lang/String" "coder" "B" (.int (0 : Int32)) := D543 (Or.inr (own_w hw 10 rfl)) (ty := .byte) (by decide)
      refine Goes.via st543 ?_
      show Goes p e below _ (T543.setTop (mkF m 230 #[vi x0, vi x1, vi x2, vi (8 : Int32), vi (2 : Int32), vi (3 : Int32), vr b329, .unset] [(.ref b543)]))
      refine gDU X543 hx hby at_230 rfl ?_
      refine gAL X543 hx hby at_231 rfl rfl ?_
      have f547 : Arw Z h543 b329 k329 .char 14 (own_upd (own_upd (own_upd (own_upd (own_upd (own_upd (own_upd (own_upd (own_upd (own_upd (own_upd (own_upd (own_upd (own_upd (fun _ => (.int 0)) 0 (.int (nar .char (104 : Int32)))) 1 (.int (nar .char (116 : Int32)))) 2 (.int (nar .char (116 : Int32)))) 3 (.int (nar .char (112 : Int32)))) 4 (.int (nar .char (115 : Int32)))) 5 (.int (nar .char (58 : Int32)))) 6 (.int (nar .char (47 : Int32)))) 7 (.int (nar .char (47 : Int32)))) 8 (.int (nar .char u8))) 9 (.int (nar .char u9))) 10 (.int (nar .char u10))) 11 (.int (nar .char u11))) 12 (.int (nar .char u12))) 13 (.int (nar .char u13))) := (A469.ext E543)
      have Va546 : Arv Z h543 b329 k329 .char (14 : Int32) ([(104 : Int32), (116 : Int32), (116 : Int32), (112 : Int32), (115 : Int32), (58 : Int32), (47 : Int32), (47 : Int32), u8, u9, u10, u11, u12, u13].map Value.int) (.int (0 : Int32)) := f547.toArv (by decide) (by intro i hi; match i, hi with | 0, _ => rfl | 1, _ => rfl | 2, _ => rfl | 3, _ => rfl | 4, _ => rfl | 5, _ => rfl | 6, _ => rfl | 7, _ => rfl | 8, _ => exact (congrArg Value.int c8.1.1.symm).trans rfl | 9, _ => exact (congrArg Value.int c9.1.1.symm).trans rfl | 10, _ => exact (congrArg Value.int c10.1.1.symm).trans rfl | 11, _ => exact (congrArg Value.int c11.1.1.symm).trans rfl | 12, _ => exact (congrArg Value.int c12.1.1.symm).trans rfl | 13, _ => exact (congrArg Value.int c13.1.1.symm).trans rfl | q + 14, h => exact absurd h (by omega))
      have K548 : Keep h0 h543 [] := (((K460.trans K464 all0).wr W469 (Or.inr sz_b329)).ext E543)
      have f549 : Sta Z h543 "java/lang/String" "COMPACT_STRINGS" "Z" (.int cS) := own_sta_keep OS K548
      have z550 : h0.size ≤ (h543).size := (Nat.le_trans z545 E543.1)
      have hws546 : ∀ d ∈ StrChars.Road.words, d.before a0 Z = true := fun d hd => hw d ((by decide +kernel : ∀ d ∈ StrChars.Road.words, d ∈ tables_1) d hd)
      have hlat546 : ∀ c ∈ [(104 : Int32), (116 : Int32), (116 : Int32), (112 : Int32), (115 : Int32), (58 : Int32), (47 : Int32), (47 : Int32), u8, u9, u10, u11, u12, u13], ¬ c < 0 ∧ ¬ (255 : Int32) < c := (own_aS (by decide) (own_aS (by decide) (own_aS (by decide) (own_aS (by decide) (own_aS (by decide) (own_aS (by decide) (own_aS (by decide) (own_aS (by decide) (own_aS c8.1.2.2.2 (own_aS c9.1.2.2.2 (own_aS c10.1.2.2.2 (own_aS c11.1.2.2.2 (own_aS c12.1.2.2.2 (own_aS c13.1.2.2.2 own_a0))))))))))))))
      obtain ⟨bs546, hbs546⟩ : ∃ z : List Int32, z = [(104 : Int32), (116 : Int32), (116 : Int32), (112 : Int32), (115 : Int32), (58 : Int32), (47 : Int32), (47 : Int32), u8, u9, u10, u11, u12, u13].map (fun c => c.toInt8.toInt32) := ⟨_, rfl⟩
      obtain ⟨_, _, ⟨T546, L546, k546, n546⟩, -, X546, ⟨Lc546, hQ546, l546, y546, z546⟩, st546⟩ := X543.specialBack hx (y := (⟨"java/lang/String", "<init>", "([C)V"⟩ : MethodName)) rfl hown (mvT hZ (own_w hw 53 rfl)) (mvT hZ (own_w hw 54 rfl)) (mvT hZ (own_w hw 55 rfl)) (by decide) (StrChars.Road.backV (W := 1) hZ hws546 (kI := 4) (own_w hw 7 rfl) (cs := [(104 : Int32), (116 : Int32), (116 : Int32), (112 : Int32), (115 : Int32), (58 : Int32), (47 : Int32), (47 : Int32), u8, u9, u10, u11, u12, u13]) (bs := bs546) (n := 14) gn_b543 (Nat.le_trans Z0 z550) A543 F_value_b543 F_coder_b543 Va546 f549 H_cs rfl rfl (by decide) (by decide) hlat546 hbs546 (by decide) (by decide)) (g := (mkF m 233 #[vi x0, vi x1, vi x2, vi (8 : Int32), vi (2 : Int32), vi (3 : Int32), vr b329, .unset] [(.ref b329), (.ref b543), (.ref b543)])) rfl (by rw [hml]; rfl) (Steps.refl _) (a := b543) (argsL := [(.ref b329)]) (rest := [(.ref b543)]) (lenOf pd_22 rfl) rfl (by show 2 * 0 + _ ≤ _; exact Nat.le_of_eq rfl) (hb hby at_233) (fun _ _ => ⟨rfl, e543, (by first | decide | omega : 16 + 1 ≤ _), (by first | decide | omega : 846 + 14 ≤ _)⟩)
      dsimp only [Pt.U, Pt.locs, Pt.cells, Pt.slots] at X546 l546 y546 z546 st546 hQ546
      replace l546 := l546.symm
      subst l546 y546 z546
      obtain ⟨rfl, N546q, K546, uE546, uC546, sb546, kb546, ug546, uz546, un546, uV546, uA546⟩ := hQ546
      have N546 := Fr.app N469 N546q
      have ne551 : b329 ≠ sb546 := Nat.ne_of_lt (Nat.lt_of_lt_of_le f547.lt uz546)
      have ne552 : b543 ≠ sb546 := Nat.ne_of_lt (Nat.lt_of_lt_of_le A543.lt uz546)
      have sz_sb546 : h0.size ≤ sb546 := Nat.le_trans z550 uz546
      refine Goes.tr st546 ?_
      show Goes p e below _ (T546.setTop (mkF m 236 #[vi x0, vi x1, vi x2, vi (8 : Int32), vi (2 : Int32), vi (3 : Int32), vr b329, .unset] [(.ref b543)]))
      obtain ⟨g, hg⟩ : ∃ g : Nat → Int32, g = fun i => ([(104 : Int32), (116 : Int32), (116 : Int32), (112 : Int32), (115 : Int32), (58 : Int32), (47 : Int32), (47 : Int32), u8, u9, u10, u11, u12, u13] : List Int32).getD i 0 := ⟨_, rfl⟩
      have g_0 : g 0 = (104 : Int32) := by rw [hg]; rfl
      have g_1 : g 1 = (116 : Int32) := by rw [hg]; rfl
      have g_2 : g 2 = (116 : Int32) := by rw [hg]; rfl
      have g_3 : g 3 = (112 : Int32) := by rw [hg]; rfl
      have g_4 : g 4 = (115 : Int32) := by rw [hg]; rfl
      have g_5 : g 5 = (58 : Int32) := by rw [hg]; rfl
      have g_6 : g 6 = (47 : Int32) := by rw [hg]; rfl
      have g_7 : g 7 = (47 : Int32) := by rw [hg]; rfl
      have g_8 : g 8 = u8 := by rw [hg]; rfl
      have g_9 : g 9 = u9 := by rw [hg]; rfl
      have g_10 : g 10 = u10 := by rw [hg]; rfl
      have g_11 : g 11 = u11 := by rw [hg]; rfl
      have g_12 : g 12 = u12 := by rw [hg]; rfl
      have g_13 : g 13 = u13 := by rw [hg]; rfl
      have Vg : Arw Z T546.heap sb546 kb546 .byte 14 (fun i => .int (g i)) := Arw.ofArv uA546 (by decide) (by intro i hi; rw [hbs546]; match i, hi with | 0, _ => exact (congrArg Value.int (show (104 : Int32).toInt8.toInt32 = (104 : Int32) from by decide)).trans (congrArg Value.int g_0.symm) | 1, _ => exact (congrArg Value.int (show (116 : Int32).toInt8.toInt32 = (116 : Int32) from by decide)).trans (congrArg Value.int g_1.symm) | 2, _ => exact (congrArg Value.int (show (116 : Int32).toInt8.toInt32 = (116 : Int32) from by decide)).trans (congrArg Value.int g_2.symm) | 3, _ => exact (congrArg Value.int (show (112 : Int32).toInt8.toInt32 = (112 : Int32) from by decide)).trans (congrArg Value.int g_3.symm) | 4, _ => exact (congrArg Value.int (show (115 : Int32).toInt8.toInt32 = (115 : Int32) from by decide)).trans (congrArg Value.int g_4.symm) | 5, _ => exact (congrArg Value.int (show (58 : Int32).toInt8.toInt32 = (58 : Int32) from by decide)).trans (congrArg Value.int g_5.symm) | 6, _ => exact (congrArg Value.int (show (47 : Int32).toInt8.toInt32 = (47 : Int32) from by decide)).trans (congrArg Value.int g_6.symm) | 7, _ => exact (congrArg Value.int (show (47 : Int32).toInt8.toInt32 = (47 : Int32) from by decide)).trans (congrArg Value.int g_7.symm) | 8, _ => exact (congrArg Value.int (show u8.toInt8.toInt32 = u8 from c8.1.2.1)).trans (congrArg Value.int g_8.symm) | 9, _ => exact (congrArg Value.int (show u9.toInt8.toInt32 = u9 from c9.1.2.1)).trans (congrArg Value.int g_9.symm) | 10, _ => exact (congrArg Value.int (show u10.toInt8.toInt32 = u10 from c10.1.2.1)).trans (congrArg Value.int g_10.symm) | 11, _ => exact (congrArg Value.int (show u11.toInt8.toInt32 = u11 from c11.1.2.1)).trans (congrArg Value.int g_11.symm) | 12, _ => exact (congrArg Value.int (show u12.toInt8.toInt32 = u12 from c12.1.2.1)).trans (congrArg Value.int g_12.symm) | 13, _ => exact (congrArg Value.int (show u13.toInt8.toInt32 = u13 from c13.1.2.1)).trans (congrArg Value.int g_13.symm) | n + 14, h => exact absurd h (by omega))
      have K553 : Keep h0 T546.heap [] := (K548.trans K546 (allS (Or.inr sz_b543) all0))
      have f554 : Sta Z T546.heap "java/lang/String" "COMPACT_STRINGS" "Z" (.int cS) := own_sta_keep OS K553
      have f555 : Sta Z T546.heap "jdk/internal/util/Preconditions" "SIOOBE_FORMATTER" "Ljava/util/function/BiFunction;" fo := own_sta_keep OF K553
      have ol556 : Old Z n0 (T546.heap) := ((((ol463.keep K464 all0).wr W469 gn_b329).ext E543).keep K546 (allS gn_b543 all0))
      have z558 : h0.size ≤ (T546.heap).size := (Nat.le_trans z550 K546.1)
      have Ks559 : KT Z own_K0 T464.vm (T546.heap) := (((Ks464.wr W469 (NoS.arr f468 (own_w hw 7 rfl) (by intro q; cases q))).ext E543).keep K546 (allS (NoS.str A543 (own_w hw 7 rfl) F_value_b543) all0))
      have sk560 : _ ≤ (T546.heap).size := (Nat.le_trans (Nat.le_trans (Nat.le_trans (Nat.le_refl _) (Nat.le_of_eq W469.size.symm)) E543.1) K546.1)
      obtain ⟨_, _, ⟨T557, L557, k557, n557⟩, -, ⟨X557, Si557⟩, ⟨Lc557, ⟨hQ557, tK557, hK557, hKv557, hKh557⟩, l557, y557, z557⟩, st557⟩ := own_callSW X546 hx (y := (⟨"com/example/lincra/lincra/UrlNormalizer", "pathAndQuery", "(Ljava/lang/String;)Ljava/lang/String;"⟩ : MethodName)) hown (mvT hZ (own_w hw 73 rfl)) (mvT hZ (own_w hw 74 rfl)) (mvT hZ (own_w hw 75 rfl)) (mvT hZ (own_w hw 76 rfl)) (by decide) (own_backOfW (W := 0) (K := (fun U_ => KT Z own_K0 U_.vm U_.heap)) (KP := (fun U_ => KT Z own_K0 U_.vm U_.heap)) (rmQ5 l Z a0 hw [] b543 cS fo sb546 kb546 g (11 : Int32) 11 3 T546.heap n0 (Nat.le_trans Z0 z558) uE546 uC546 uV546 Vg f554 H_cs f555 Hfo ol556 HW HC0 HC1 HC2 HC3 HC4 (by rw [g_0]; decide) (by rw [g_1]; decide) (by rw [g_2]; decide) (by rw [g_3]; decide) (by rw [g_4]; decide) g_5 g_6 g_7 (by rw [show (47 : Int32).toInt8.toInt32 = (47 : Int32) by decide, show 14 - 8 = 6 by decide, own_fs, if_neg (show ¬ g 8 = (47 : Int32) by rw [g_8]; exact c8.2), own_fs, if_neg (show ¬ g 9 = (47 : Int32) by rw [g_9]; exact c9.2), own_fs, if_neg (show ¬ g 10 = (47 : Int32) by rw [g_10]; exact c10.2), own_fs, if_pos (g_11.trans f11)]; decide) (by decide) (by decide) (by decide) (by decide) (by decide)) hZ (own_w hw 76 rfl) (own_w hw 75 rfl) (by decide) (by decide) (fun V_ hV hVh => by show KT Z own_K0 V_.vm V_.heap; rw [hVh]; exact Ks559.at_ (s := s) hV)) (g := (mkF m 236 #[vi x0, vi x1, vi x2, vi (8 : Int32), vi (2 : Int32), vi (3 : Int32), vr b329, .unset] [(.ref b543)])) rfl (by rw [hml]; rfl) (argsL := [(.ref b543)]) (rest := []) (lenOf pd_23 rfl) rfl (by show 2 * 0 + _ ≤ _; exact Nat.le_of_eq rfl) (hb hby at_236) (fun _ _ => ⟨rfl, rfl, (by decide : 17 + 4 ≤ _), (by decide : 860 + 36 ≤ _)⟩)
      dsimp only [Pt.U, Pt.locs, Pt.cells, Pt.slots] at X557 l557 y557 z557 st557 hQ557 Si557 hKv557 hKh557
      replace l557 := l557.symm
      subst l557 y557 z557
      obtain ⟨r_557, nb557, kb557, rfl, N557q, K557, u557_0, u557_1, u557_2, u557_3, u557_4⟩ := hQ557
      have N557 := Fr.app N546 N557q
      refine Goes.via st557 ?_
      obtain ⟨X557', SI557, hZ, hown⟩ := rebS SI464 sk560 X557 Si557 K557.1 hZ hown
      have Ks557 : KT Z own_K0 T557.vm T557.heap := by rw [← hKv557, ← hKh557]; exact hK557
      have f561 : Arw Z T546.heap b329 k329 .char 14 (own_upd (own_upd (own_upd (own_upd (own_upd (own_upd (own_upd (own_upd (own_upd (own_upd (own_upd (own_upd (own_upd (own_upd (fun _ => (.int 0)) 0 (.int (nar .char (104 : Int32)))) 1 (.int (nar .char (116 : Int32)))) 2 (.int (nar .char (116 : Int32)))) 3 (.int (nar .char (112 : Int32)))) 4 (.int (nar .char (115 : Int32)))) 5 (.int (nar .char (58 : Int32)))) 6 (.int (nar .char (47 : Int32)))) 7 (.int (nar .char (47 : Int32)))) 8 (.int (nar .char u8))) 9 (.int (nar .char u9))) 10 (.int (nar .char u10))) 11 (.int (nar .char u11))) 12 (.int (nar .char u12))) 13 (.int (nar .char u13))) := (f547.keep K546 (ninS ne544 nin0))
      have ne562 : b329 ≠ r_557 := Nat.ne_of_lt (Nat.lt_of_lt_of_le f561.lt u557_0)
      have ne563 : b543 ≠ r_557 := Nat.ne_of_lt (Nat.lt_of_lt_of_le uE546.lt u557_0)
      have ne564 : sb546 ≠ r_557 := Nat.ne_of_lt (Nat.lt_of_lt_of_le uA546.lt u557_0)
      have sz_r_557 : h0.size ≤ r_557 := Nat.le_trans z558 u557_0
      have gn_r_557 : n0 ≤ r_557 := Nat.le_trans Z0 sz_r_557
      -- u557_0 : h0.size ≤ r_557
      have ne565 : r_557 ≠ nb557 := own_ne_arr u557_1 (own_w hw 7 rfl) u557_4
      show Goes p e below _ (T557.setTop (mkF m 239 #[vi x0, vi x1, vi x2, vi (8 : Int32), vi (2 : Int32), vi (3 : Int32), vr b329, .unset] [(.ref r_557)]))
      refine Goes.via (fun _ kk_ => XS.astore X557'.here hx rfl (hb hby at_239) rfl rfl (l' := #[vi x0, vi x1, vi x2, vi (8 : Int32), vi (2 : Int32), vi (3 : Int32), vr b329, vr r_557]) rfl kk_) ?_
      show Goes p e below _ (T557.setTop (mkF m 241 #[vi x0, vi x1, vi x2, vi (8 : Int32), vi (2 : Int32), vi (3 : Int32), vr b329, vr r_557] []))
      refine gAL X557' hx hby at_241 rfl rfl ?_
      have K566 : Keep h0 T557.heap [] := (K553.trans K557 all0)
      have f567 : Sta Z T557.heap "java/lang/String" "COMPACT_STRINGS" "Z" (.int cS) := own_sta_keep OS K566
      have z569 : h0.size ≤ (T557.heap).size := (Nat.le_trans z558 K557.1)
      obtain ⟨cq568, kq568, q568a, q568b, q568c⟩ := isOf hZ rfl u557_1
      obtain ⟨_, _, ⟨T568, L568, k568, n568⟩, -, X568, ⟨Lc568, hQ568, l568, y568, z568⟩, st568⟩ := X557'.virtualBack hx (y := (⟨"java/lang/String", "length", "()I"⟩ : MethodName)) (z := (⟨"java/lang/String", "length", "()I"⟩ : MethodName)) hown (mvT hZ (own_w hw 42 rfl)) (mvT hZ (own_w hw 43 rfl)) (notFace_of_selects (args := #[]) (mvT hZ (own_w hw 45 rfl))) (mvT hZ (own_w hw 45 rfl)) (mvT hZ (own_w hw 44 rfl)) (by decide) (backOf (W := 0) (rm8 l Z a0 hw [] r_557 (3 : Int32) cS nb557 kb557 3 (fun i => g (11 + i)) T557.heap n0 (Nat.le_trans Z0 z569) u557_1 u557_2 u557_3 u557_4 f567 H_cs (by decide)) hZ (own_w hw 46 rfl) (own_w hw 6 rfl) (by decide) (by decide)) q568a q568c (g := (mkF m 243 #[vi x0, vi x1, vi x2, vi (8 : Int32), vi (2 : Int32), vi (3 : Int32), vr b329, vr r_557] [(.ref r_557)])) rfl (by rw [hml]; rfl) (Steps.refl _) (argsL := []) (rest := []) (lenOf pd_8 rfl) rfl (by show 2 * 0 + _ ≤ _; exact Nat.le_of_eq rfl) (hb hby at_243) (fun _ _ => ⟨rfl, rfl, (by decide : 21 + 0 ≤ _), (by decide : 896 + 0 ≤ _)⟩)
      dsimp only [Pt.U, Pt.locs, Pt.cells, Pt.slots] at X568 l568 y568 z568 st568 hQ568
      replace l568 := l568.symm
      subst l568 y568 z568
      obtain ⟨rfl, rfl, e568⟩ := hQ568
      first | rw [List.append_nil] at X568 | skip
      refine Goes.tr st568 ?_
      have e568' : T568.heap = T557.heap := e568
      show Goes p e below _ (T568.setTop (mkF m 246 #[vi x0, vi x1, vi x2, vi (8 : Int32), vi (2 : Int32), vi (3 : Int32), vr b329, vr r_557] [(.int (3 : Int32))]))
      refine gIL X568 hx hby at_246 rfl ?_
      refine gIC (z := 1) X568 hx hby at_248 rfl ?_
      refine Goes.via (fun _ kk_ => XS.iadd X568.here hx rfl (hb hby at_249) rfl kk_) ?_
      show Goes p e below _ (T568.setTop (mkF m 250 #[vi x0, vi x1, vi x2, vi (8 : Int32), vi (2 : Int32), vi (3 : Int32), vr b329, vr r_557] [(.int ((2 : Int32) + (1 : Int32))), (.int (3 : Int32))]))
      rw [show ((2 : Int32) + (1 : Int32)) = (3 : Int32) from by decide]
      show Goes p e below _ (T568.setTop (mkF m 250 #[vi x0, vi x1, vi x2, vi (8 : Int32), vi (2 : Int32), vi (3 : Int32), vr b329, vr r_557] [(.int (3 : Int32)), (.int (3 : Int32))]))
      have hc250_570 : (3 : Int32) = (3 : Int32) := (by decide)
      refine Goes.via (fun _ kk_ => XS.icmpNo X568.here hx rfl (hb hby at_250) rfl (teq hc250_570).2 kk_) ?_
      show Goes p e below _ (T568.setTop (mkF m 253 #[vi x0, vi x1, vi x2, vi (8 : Int32), vi (2 : Int32), vi (3 : Int32), vr b329, vr r_557] []))
      refine gAL X568 hx hby at_253 rfl rfl ?_
      refine gIC (z := 0) X568 hx hby at_255 rfl ?_
      have f571 : Sta Z T557.heap "jdk/internal/util/Preconditions" "SIOOBE_FORMATTER" "Ljava/util/function/BiFunction;" fo := own_sta_keep OF K566
      obtain ⟨cq572, kq572, q572a, q572b, q572c⟩ := isOf hZ e568' u557_1
      obtain ⟨_, _, ⟨T572, L572, k572, n572⟩, -, X572, ⟨Lc572, hQ572, l572, y572, z572⟩, st572⟩ := X568.virtualBack hx (y := (⟨"java/lang/String", "charAt", "(I)C"⟩ : MethodName)) (z := (⟨"java/lang/String", "charAt", "(I)C"⟩ : MethodName)) hown (mvT hZ (own_w hw 13 rfl)) (mvT hZ (own_w hw 14 rfl)) (notFace_of_selects (args := #[]) (mvT hZ (own_w hw 16 rfl))) (mvT hZ (own_w hw 16 rfl)) (mvT hZ (own_w hw 15 rfl)) (by decide) (backOf (W := 0) (rm2 l Z a0 hw [] r_557 (0 : Int32) cS nb557 kb557 3 (fun i => g (11 + i)) (3 : Int32) 0 fo T557.heap n0 (Nat.le_trans Z0 z569) u557_1 u557_2 u557_3 u557_4 f567 H_cs (by decide) (by decide) (by decide) f571 Hfo) hZ (own_w hw 17 rfl) (own_w hw 6 rfl) (by decide) (by decide)) q572a q572c (g := (mkF m 256 #[vi x0, vi x1, vi x2, vi (8 : Int32), vi (2 : Int32), vi (3 : Int32), vr b329, vr r_557] [(.int (0 : Int32)), (.ref r_557)])) rfl (by rw [hml]; rfl) (Steps.refl _) (argsL := [(.int (0 : Int32))]) (rest := []) (lenOf pd_17 rfl) rfl (by show 2 * 0 + _ ≤ _; exact Nat.le_of_eq rfl) (hb hby at_256) (fun _ _ => ⟨rfl, e568', (by decide : 21 + 0 ≤ _), (by decide : 896 + 0 ≤ _)⟩)
      dsimp only [Pt.U, Pt.locs, Pt.cells, Pt.slots] at X572 l572 y572 z572 st572 hQ572
      replace l572 := l572.symm
      subst l572 y572 z572
      obtain ⟨rfl, rfl, e572⟩ := hQ572
      first | rw [List.append_nil] at X572 | skip
      refine Goes.tr st572 ?_
      have e572' : T572.heap = T557.heap := e572
      show Goes p e below _ (T572.setTop (mkF m 259 #[vi x0, vi x1, vi x2, vi (8 : Int32), vi (2 : Int32), vi (3 : Int32), vr b329, vr r_557] [(.int ((fun i => g (11 + i)) 0 &&& (255 : Int32)))]))
      refine gBI (z := 47) X572 hx hby at_259 rfl ?_
      have hc261_573 : ((fun i => g (11 + i)) 0 &&& (255 : Int32)) = (47 : Int32) := (show g 11 &&& (255 : Int32) = (47 : Int32) from by rw [g_11, f11]; decide)
      refine Goes.via (fun _ kk_ => XS.icmpNo X572.here hx rfl (hb hby at_261) rfl (teq hc261_573).2 kk_) ?_
      show Goes p e below _ (T572.setTop (mkF m 264 #[vi x0, vi x1, vi x2, vi (8 : Int32), vi (2 : Int32), vi (3 : Int32), vr b329, vr r_557] []))
      refine gIL X572 hx hby at_264 rfl ?_
      refine gIC (z := 1) X572 hx hby at_266 rfl ?_
      have hc267_574 : ¬ ((2 : Int32) < (1 : Int32)) := (by decide)
      refine Goes.via (fun _ kk_ => XS.icmpNo X572.here hx rfl (hb hby at_267) rfl (flt hc267_574).1 kk_) ?_
      show Goes p e below _ (T572.setTop (mkF m 270 #[vi x0, vi x1, vi x2, vi (8 : Int32), vi (2 : Int32), vi (3 : Int32), vr b329, vr r_557] []))
      refine gAL X572 hx hby at_270 rfl rfl ?_
      refine gIC (z := 1) X572 hx hby at_272 rfl ?_
      obtain ⟨cq575, kq575, q575a, q575b, q575c⟩ := isOf hZ e572' u557_1
      obtain ⟨_, _, ⟨T575, L575, k575, n575⟩, -, X575, ⟨Lc575, hQ575, l575, y575, z575⟩, st575⟩ := X572.virtualBack hx (y := (⟨"java/lang/String", "charAt", "(I)C"⟩ : MethodName)) (z := (⟨"java/lang/String", "charAt", "(I)C"⟩ : MethodName)) hown (mvT hZ (own_w hw 13 rfl)) (mvT hZ (own_w hw 14 rfl)) (notFace_of_selects (args := #[]) (mvT hZ (own_w hw 16 rfl))) (mvT hZ (own_w hw 16 rfl)) (mvT hZ (own_w hw 15 rfl)) (by decide) (backOf (W := 0) (rm2 l Z a0 hw [] r_557 (1 : Int32) cS nb557 kb557 3 (fun i => g (11 + i)) (3 : Int32) 1 fo T557.heap n0 (Nat.le_trans Z0 z569) u557_1 u557_2 u557_3 u557_4 f567 H_cs (by decide) (by decide) (by decide) f571 Hfo) hZ (own_w hw 17 rfl) (own_w hw 6 rfl) (by decide) (by decide)) q575a q575c (g := (mkF m 273 #[vi x0, vi x1, vi x2, vi (8 : Int32), vi (2 : Int32), vi (3 : Int32), vr b329, vr r_557] [(.int (1 : Int32)), (.ref r_557)])) rfl (by rw [hml]; rfl) (Steps.refl _) (argsL := [(.int (1 : Int32))]) (rest := []) (lenOf pd_17 rfl) rfl (by show 2 * 0 + _ ≤ _; exact Nat.le_of_eq rfl) (hb hby at_273) (fun _ _ => ⟨rfl, e572', (by decide : 21 + 0 ≤ _), (by decide : 896 + 0 ≤ _)⟩)
      dsimp only [Pt.U, Pt.locs, Pt.cells, Pt.slots] at X575 l575 y575 z575 st575 hQ575
      replace l575 := l575.symm
      subst l575 y575 z575
      obtain ⟨rfl, rfl, e575⟩ := hQ575
      first | rw [List.append_nil] at X575 | skip
      refine Goes.tr st575 ?_
      have e575' : T575.heap = T557.heap := e575
      show Goes p e below _ (T575.setTop (mkF m 276 #[vi x0, vi x1, vi x2, vi (8 : Int32), vi (2 : Int32), vi (3 : Int32), vr b329, vr r_557] [(.int ((fun i => g (11 + i)) 1 &&& (255 : Int32)))]))
      refine gILN X575 hx hby at_276 rfl ?_
      refine gIC (z := 0) X575 hx hby at_277 rfl ?_
      have ol576 : Old Z n0 (T557.heap) := (ol556.keep K557 all0)
      obtain ⟨_, _, ⟨T577, L577, k577, n577⟩, -, ⟨X577, Si577⟩, ⟨Lc577, ⟨hQ577, tK577, hK577, hKv577, hKh577⟩, l577, y577, z577⟩, st577⟩ := own_callSW X575 hx (y := (⟨"com/example/lincra/lincra/UrlNormalizerPathAndQueryPinLaw", "pathChar", "(II)C"⟩ : MethodName)) hown (mvT hZ (own_w hw 150 rfl)) (mvT hZ (own_w hw 151 rfl)) (mvT hZ (own_w hw 3 rfl)) (mvT hZ (own_w hw 152 rfl)) (by decide) (own_backOfW (W := 1) (K := (fun U_ => KT Z own_K0 U_.vm U_.heap)) (KP := (fun U_ => KT Z own_K0 U_.vm U_.heap)) (rm35 l Z a0 hw [] x2 (0 : Int32) cS fo T557.heap n0 (Nat.le_trans Z0 z569) f567 H_cs f571 Hfo ol576 HW HC0 HC1 HC2 HC3 HC4) hZ (own_w hw 152 rfl) (own_w hw 3 rfl) (by decide) (by decide) (fun V_ hV hVh => by show KT Z own_K0 V_.vm V_.heap; rw [hVh]; exact Ks557.at_ (s := s) hV)) (g := (mkF m 278 #[vi x0, vi x1, vi x2, vi (8 : Int32), vi (2 : Int32), vi (3 : Int32), vr b329, vr r_557] [(.int (0 : Int32)), (.int x2), (.int ((fun i => g (11 + i)) 1 &&& (255 : Int32)))])) rfl (by rw [hml]; rfl) (argsL := [(.int x2), (.int (0 : Int32))]) (rest := [(.int ((fun i => g (11 + i)) 1 &&& (255 : Int32)))]) (lenOf pd_18 rfl) rfl (by show 2 * 0 + _ ≤ _; exact Nat.le_of_eq rfl) (hb hby at_278) (fun _ _ => ⟨rfl, e575', (by decide : 21 + 2 ≤ _), (by decide : 896 + 132 ≤ _)⟩)
      dsimp only [Pt.U, Pt.locs, Pt.cells, Pt.slots] at X577 l577 y577 z577 st577 hQ577 Si577 hKv577 hKh577
      replace l577 := l577.symm
      subst l577 y577 z577
      obtain ⟨rfl, N577q, K577⟩ := hQ577
      have N577 := Fr.app N557 N577q
      refine Goes.via st577 ?_
      obtain ⟨X577', SI577, hZ, hown⟩ := rebS SI557 (Nat.le_refl _) X577 Si577 K577.1 hZ hown
      have Ks577 : KT Z own_K0 T577.vm T577.heap := by rw [← hKv577, ← hKh577]; exact hK577
      show Goes p e below _ (T577.setTop (mkF m 281 #[vi x0, vi x1, vi x2, vi (8 : Int32), vi (2 : Int32), vi (3 : Int32), vr b329, vr r_557] [(.int (own_pc x2 (0 : Int32))), (.int ((fun i => g (11 + i)) 1 &&& (255 : Int32)))]))
      have hc281_578 : ((fun i => g (11 + i)) 1 &&& (255 : Int32)) = (own_pc x2 (0 : Int32)) := (show g 12 &&& (255 : Int32) = own_pc x2 (0 : Int32) from by rw [g_12, f12]; exact (own_pcP _ _).2.2.1)
      refine Goes.via (fun _ kk_ => XS.icmpNo X577'.here hx rfl (hb hby at_281) rfl (teq hc281_578).2 kk_) ?_
      show Goes p e below _ (T577.setTop (mkF m 284 #[vi x0, vi x1, vi x2, vi (8 : Int32), vi (2 : Int32), vi (3 : Int32), vr b329, vr r_557] []))
      refine gIL X577' hx hby at_284 rfl ?_
      refine gIC (z := 2) X577' hx hby at_286 rfl ?_
      have hc287_579 : ¬ ((2 : Int32) < (2 : Int32)) := (by decide)
      refine Goes.via (fun _ kk_ => XS.icmpNo X577'.here hx rfl (hb hby at_287) rfl (flt hc287_579).1 kk_) ?_
      show Goes p e below _ (T577.setTop (mkF m 290 #[vi x0, vi x1, vi x2, vi (8 : Int32), vi (2 : Int32), vi (3 : Int32), vr b329, vr r_557] []))
      refine gAL X577' hx hby at_290 rfl rfl ?_
      refine gIC (z := 2) X577' hx hby at_292 rfl ?_
      have f580 : Exa Z T577.heap r_557 "java/lang/String" := (u557_1.keep K577)
      have f581 : Fld Z T577.heap r_557 "java/lang/String" "coder" "B" (.int (0 : Int32)) := (u557_2.keep K577 nin0)
      have f582 : Fld Z T577.heap r_557 "java/lang/String" "value" "[B" (.ref nb557) := (u557_3.keep K577 nin0)
      have f583 : Arw Z T577.heap nb557 kb557 .byte 3 (fun i => .int ((fun i => g (11 + i)) i)) := (u557_4.keep K577 nin0)
      have K584 : Keep h0 T577.heap [] := (K566.trans K577 all0)
      have f585 : Sta Z T577.heap "java/lang/String" "COMPACT_STRINGS" "Z" (.int cS) := own_sta_keep OS K584
      have f586 : Sta Z T577.heap "jdk/internal/util/Preconditions" "SIOOBE_FORMATTER" "Ljava/util/function/BiFunction;" fo := own_sta_keep OF K584
      have z588 : h0.size ≤ (T577.heap).size := (Nat.le_trans z569 K577.1)
      obtain ⟨cq587, kq587, q587a, q587b, q587c⟩ := isOf hZ rfl f580
      obtain ⟨_, _, ⟨T587, L587, k587, n587⟩, -, X587, ⟨Lc587, hQ587, l587, y587, z587⟩, st587⟩ := X577'.virtualBack hx (y := (⟨"java/lang/String", "charAt", "(I)C"⟩ : MethodName)) (z := (⟨"java/lang/String", "charAt", "(I)C"⟩ : MethodName)) hown (mvT hZ (own_w hw 13 rfl)) (mvT hZ (own_w hw 14 rfl)) (notFace_of_selects (args := #[]) (mvT hZ (own_w hw 16 rfl))) (mvT hZ (own_w hw 16 rfl)) (mvT hZ (own_w hw 15 rfl)) (by decide) (backOf (W := 0) (rm2 l Z a0 hw [] r_557 (2 : Int32) cS nb557 kb557 3 (fun i => g (11 + i)) (3 : Int32) 2 fo T577.heap n0 (Nat.le_trans Z0 z588) f580 f581 f582 f583 f585 H_cs (by decide) (by decide) (by decide) f586 Hfo) hZ (own_w hw 17 rfl) (own_w hw 6 rfl) (by decide) (by decide)) q587a q587c (g := (mkF m 293 #[vi x0, vi x1, vi x2, vi (8 : Int32), vi (2 : Int32), vi (3 : Int32), vr b329, vr r_557] [(.int (2 : Int32)), (.ref r_557)])) rfl (by rw [hml]; rfl) (Steps.refl _) (argsL := [(.int (2 : Int32))]) (rest := []) (lenOf pd_17 rfl) rfl (by show 2 * 0 + _ ≤ _; exact Nat.le_of_eq rfl) (hb hby at_293) (fun _ _ => ⟨rfl, rfl, (by decide : 23 + 0 ≤ _), (by decide : 1028 + 0 ≤ _)⟩)
      dsimp only [Pt.U, Pt.locs, Pt.cells, Pt.slots] at X587 l587 y587 z587 st587 hQ587
      replace l587 := l587.symm
      subst l587 y587 z587
      obtain ⟨rfl, rfl, e587⟩ := hQ587
      first | rw [List.append_nil] at X587 | skip
      refine Goes.tr st587 ?_
      have e587' : T587.heap = T577.heap := e587
      show Goes p e below _ (T587.setTop (mkF m 296 #[vi x0, vi x1, vi x2, vi (8 : Int32), vi (2 : Int32), vi (3 : Int32), vr b329, vr r_557] [(.int ((fun i => g (11 + i)) 2 &&& (255 : Int32)))]))
      refine gILN X587 hx hby at_296 rfl ?_
      refine gIC (z := 1) X587 hx hby at_297 rfl ?_
      have ol589 : Old Z n0 (T577.heap) := (ol576.keep K577 all0)
      obtain ⟨_, _, ⟨T590, L590, k590, n590⟩, -, ⟨X590, Si590⟩, ⟨Lc590, ⟨hQ590, tK590, hK590, hKv590, hKh590⟩, l590, y590, z590⟩, st590⟩ := own_callSW X587 hx (y := (⟨"com/example/lincra/lincra/UrlNormalizerPathAndQueryPinLaw", "pathChar", "(II)C"⟩ : MethodName)) hown (mvT hZ (own_w hw 150 rfl)) (mvT hZ (own_w hw 151 rfl)) (mvT hZ (own_w hw 3 rfl)) (mvT hZ (own_w hw 152 rfl)) (by decide) (own_backOfW (W := 1) (K := (fun U_ => KT Z own_K0 U_.vm U_.heap)) (KP := (fun U_ => KT Z own_K0 U_.vm U_.heap)) (rm35 l Z a0 hw [] x2 (1 : Int32) cS fo T577.heap n0 (Nat.le_trans Z0 z588) f585 H_cs f586 Hfo ol589 HW HC0 HC1 HC2 HC3 HC4) hZ (own_w hw 152 rfl) (own_w hw 3 rfl) (by decide) (by decide) (fun V_ hV hVh => by show KT Z own_K0 V_.vm V_.heap; rw [hVh]; exact Ks577.at_ (s := s) hV)) (g := (mkF m 298 #[vi x0, vi x1, vi x2, vi (8 : Int32), vi (2 : Int32), vi (3 : Int32), vr b329, vr r_557] [(.int (1 : Int32)), (.int x2), (.int ((fun i => g (11 + i)) 2 &&& (255 : Int32)))])) rfl (by rw [hml]; rfl) (argsL := [(.int x2), (.int (1 : Int32))]) (rest := [(.int ((fun i => g (11 + i)) 2 &&& (255 : Int32)))]) (lenOf pd_18 rfl) rfl (by show 2 * 0 + _ ≤ _; exact Nat.le_of_eq rfl) (hb hby at_298) (fun _ _ => ⟨rfl, e587', (by decide : 23 + 2 ≤ _), (by decide : 1028 + 132 ≤ _)⟩)
      dsimp only [Pt.U, Pt.locs, Pt.cells, Pt.slots] at X590 l590 y590 z590 st590 hQ590 Si590 hKv590 hKh590
      replace l590 := l590.symm
      subst l590 y590 z590
      obtain ⟨rfl, N590q, K590⟩ := hQ590
      have N590 := Fr.app N577 N590q
      refine Goes.via st590 ?_
      obtain ⟨X590', SI590, hZ, hown⟩ := rebS SI577 (Nat.le_refl _) X590 Si590 K590.1 hZ hown
      have Ks590 : KT Z own_K0 T590.vm T590.heap := by rw [← hKv590, ← hKh590]; exact hK590
      show Goes p e below _ (T590.setTop (mkF m 301 #[vi x0, vi x1, vi x2, vi (8 : Int32), vi (2 : Int32), vi (3 : Int32), vr b329, vr r_557] [(.int (own_pc x2 (1 : Int32))), (.int ((fun i => g (11 + i)) 2 &&& (255 : Int32)))]))
      have hc301_591 : ((fun i => g (11 + i)) 2 &&& (255 : Int32)) = (own_pc x2 (1 : Int32)) := (show g 13 &&& (255 : Int32) = own_pc x2 (1 : Int32) from by rw [g_13, f13]; exact (own_pcP _ _).2.2.1)
      refine Goes.via (fun _ kk_ => XS.icmpNo X590'.here hx rfl (hb hby at_301) rfl (teq hc301_591).2 kk_) ?_
      show Goes p e below _ (T590.setTop (mkF m 304 #[vi x0, vi x1, vi x2, vi (8 : Int32), vi (2 : Int32), vi (3 : Int32), vr b329, vr r_557] []))
      refine gIL X590' hx hby at_304 rfl ?_
      refine gIC (z := 3) X590' hx hby at_306 rfl ?_
      have hc307_592 : (2 : Int32) < (3 : Int32) := (by decide)
      refine Goes.via (fun _ kk_ => XS.icmpYes X590'.here hx rfl (pc0 := 307) (pc' := 324) rfl (hb hby at_307) rfl (tlt hc307_592).1 (by decide) (by decide) kk_) ?_
      show Goes p e below _ (T590.setTop (mkF m 324 #[vi x0, vi x1, vi x2, vi (8 : Int32), vi (2 : Int32), vi (3 : Int32), vr b329, vr r_557] []))
      refine gIC (z := 1) X590' hx hby at_324 rfl ?_
      refine Goes.via (fun _ kk_ => XS.goto X590'.here hx rfl (pc0 := 325) (pc' := 329) rfl (hb hby at_325) (by decide) (by decide) kk_) ?_
      show Goes p e below _ (T590.setTop (mkF m 329 #[vi x0, vi x1, vi x2, vi (8 : Int32), vi (2 : Int32), vi (3 : Int32), vr b329, vr r_557] [(.int (1 : Int32))]))
      have K593 : Keep h0 T590.heap [] := (K584.trans K590 all0)
      have hKe : KT Z own_K0 T590.vm T590.heap := by rw [show T590.heap = T590.heap from rfl]; exact Ks590.at_ (s := s) X590'.warmed
      exact own_wfinN X590' SI590 (Nat.le_refl _) (fun U_ hv hh_ => by show KT Z own_K0 U_.vm U_.heap; rw [hv, hh_]; exact hKe) hx hlk hret (by simp) (hb hby at_329) (by exact ⟨rfl, N590, K593⟩) (by first | decide | omega | (dsimp only; omega)) (by first | decide | omega | (dsimp only; omega))
    · subst ht
      obtain rfl : hv = (2 : Int32) := hhv.trans (by decide)
      have f8 : u8 = own_hc x1 (0 : Int32) := e8.trans (if_pos (by decide))
      have c8 : own_C u8 ∧ ¬ u8 = (47 : Int32) := by rw [f8]; exact own_hcP _ _
      have f9 : u9 = own_hc x1 (1 : Int32) := e9.trans (if_pos (by decide))
      have c9 : own_C u9 ∧ ¬ u9 = (47 : Int32) := by rw [f9]; exact own_hcP _ _
      have f10 : u10 = (47 : Int32) := e10.trans ((if_neg (by decide)).trans (if_pos (by decide)))
      have c10 : own_C u10 ∧ True := ⟨by rw [f10]; decide, trivial⟩
      have f11 : u11 = own_pc x2 (0 : Int32) := e11.trans ((if_neg (by decide)).trans (if_neg (by decide)))
      have c11 : own_C u11 ∧ True := ⟨by rw [f11]; exact own_pcP _ _, trivial⟩
      have f12 : u12 = own_pc x2 (1 : Int32) := e12.trans ((if_neg (by decide)).trans (if_neg (by decide)))
      have c12 : own_C u12 ∧ True := ⟨by rw [f12]; exact own_pcP _ _, trivial⟩
      have f13 : u13 = own_pc x2 (2 : Int32) := e13.trans ((if_neg (by decide)).trans (if_neg (by decide)))
      have c13 : own_C u13 ∧ True := ⟨by rw [f13]; exact own_pcP _ _, trivial⟩
      show Goes p e below _ (T469.setTop (mkF m 227 #[vi x0, vi x1, vi x2, vi (8 : Int32), vi (3 : Int32), vi (2 : Int32), vr b329, .unset] []))
      obtain ⟨T594, h594, X594, e594, E594, A594, D594, -, st594⟩ := newO X469 hx hZ hown (own_w hw 52 rfl) (own_w hw 7 rfl) (own_w hw 6 rfl) e469 (g := (mkF m 227 #[vi x0, vi x1, vi x2, vi (8 : Int32), vi (3 : Int32), vi (2 : Int32), vr b329, .unset] [])) rfl (hb hby at_227) (by first | decide | omega | (dsimp only; omega)) (by first | decide | omega | (dsimp only; omega))
      obtain ⟨b594, g594⟩ : ∃ z, z = (h469).size := ⟨_, rfl⟩
      rw [← g594] at A594 D594 st594
      have lne595 : b329 < b594 := Nat.lt_of_lt_of_le A469.lt (Nat.le_of_eq g594.symm)
      have ne595 : b329 ≠ b594 := Nat.ne_of_lt lne595
      have z596 : h0.size ≤ (h469).size := (Nat.le_trans (Nat.le_trans z465 K464.1) (Nat.le_of_eq W469.size.symm))
      have sz_b594 : h0.size ≤ b594 := Nat.le_trans z596 (Nat.le_of_eq g594.symm)
      have gn_b594 : n0 ≤ b594 := Nat.le_trans Z0 sz_b594
      have F_value_b594 : Fld Z h594 b594 "java/lang/String" "value" "[B" .null := D594 (Or.inr (own_w hw 9 rfl)) (ty := (.array .byte)) (by decide)
      have F_coder_b594 : Fld Z h594 b594 "java/lang/String" "coder" "B" (.int (0 : Int32)) := D594 (Or.inr (own_w hw 10 rfl)) (ty := .byte) (by decide)
      refine Goes.via st594 ?_
      show Goes p e below _ (T594.setTop (mkF m 230 #[vi x0, vi x1, vi x2, vi (8 : Int32), vi (3 : Int32), vi (2 : Int32), vr b329, .unset] [(.ref b594)]))
      refine gDU X594 hx hby at_230 rfl ?_
      refine gAL X594 hx hby at_231 rfl rfl ?_
      have f598 : Arw Z h594 b329 k329 .char 14 (own_upd (own_upd (own_upd (own_upd (own_upd (own_upd (own_upd (own_upd (own_upd (own_upd (own_upd (own_upd (own_upd (own_upd (fun _ => (.int 0)) 0 (.int (nar .char (104 : Int32)))) 1 (.int (nar .char (116 : Int32)))) 2 (.int (nar .char (116 : Int32)))) 3 (.int (nar .char (112 : Int32)))) 4 (.int (nar .char (115 : Int32)))) 5 (.int (nar .char (58 : Int32)))) 6 (.int (nar .char (47 : Int32)))) 7 (.int (nar .char (47 : Int32)))) 8 (.int (nar .char u8))) 9 (.int (nar .char u9))) 10 (.int (nar .char u10))) 11 (.int (nar .char u11))) 12 (.int (nar .char u12))) 13 (.int (nar .char u13))) := (A469.ext E594)
      have Va597 : Arv Z h594 b329 k329 .char (14 : Int32) ([(104 : Int32), (116 : Int32), (116 : Int32), (112 : Int32), (115 : Int32), (58 : Int32), (47 : Int32), (47 : Int32), u8, u9, u10, u11, u12, u13].map Value.int) (.int (0 : Int32)) := f598.toArv (by decide) (by intro i hi; match i, hi with | 0, _ => rfl | 1, _ => rfl | 2, _ => rfl | 3, _ => rfl | 4, _ => rfl | 5, _ => rfl | 6, _ => rfl | 7, _ => rfl | 8, _ => exact (congrArg Value.int c8.1.1.symm).trans rfl | 9, _ => exact (congrArg Value.int c9.1.1.symm).trans rfl | 10, _ => exact (congrArg Value.int c10.1.1.symm).trans rfl | 11, _ => exact (congrArg Value.int c11.1.1.symm).trans rfl | 12, _ => exact (congrArg Value.int c12.1.1.symm).trans rfl | 13, _ => exact (congrArg Value.int c13.1.1.symm).trans rfl | q + 14, h => exact absurd h (by omega))
      have K599 : Keep h0 h594 [] := (((K460.trans K464 all0).wr W469 (Or.inr sz_b329)).ext E594)
      have f600 : Sta Z h594 "java/lang/String" "COMPACT_STRINGS" "Z" (.int cS) := own_sta_keep OS K599
      have z601 : h0.size ≤ (h594).size := (Nat.le_trans z596 E594.1)
      have hws597 : ∀ d ∈ StrChars.Road.words, d.before a0 Z = true := fun d hd => hw d ((by decide +kernel : ∀ d ∈ StrChars.Road.words, d ∈ tables_1) d hd)
      have hlat597 : ∀ c ∈ [(104 : Int32), (116 : Int32), (116 : Int32), (112 : Int32), (115 : Int32), (58 : Int32), (47 : Int32), (47 : Int32), u8, u9, u10, u11, u12, u13], ¬ c < 0 ∧ ¬ (255 : Int32) < c := (own_aS (by decide) (own_aS (by decide) (own_aS (by decide) (own_aS (by decide) (own_aS (by decide) (own_aS (by decide) (own_aS (by decide) (own_aS (by decide) (own_aS c8.1.2.2.2 (own_aS c9.1.2.2.2 (own_aS c10.1.2.2.2 (own_aS c11.1.2.2.2 (own_aS c12.1.2.2.2 (own_aS c13.1.2.2.2 own_a0))))))))))))))
      obtain ⟨bs597, hbs597⟩ : ∃ z : List Int32, z = [(104 : Int32), (116 : Int32), (116 : Int32), (112 : Int32), (115 : Int32), (58 : Int32), (47 : Int32), (47 : Int32), u8, u9, u10, u11, u12, u13].map (fun c => c.toInt8.toInt32) := ⟨_, rfl⟩
      obtain ⟨_, _, ⟨T597, L597, k597, n597⟩, -, X597, ⟨Lc597, hQ597, l597, y597, z597⟩, st597⟩ := X594.specialBack hx (y := (⟨"java/lang/String", "<init>", "([C)V"⟩ : MethodName)) rfl hown (mvT hZ (own_w hw 53 rfl)) (mvT hZ (own_w hw 54 rfl)) (mvT hZ (own_w hw 55 rfl)) (by decide) (StrChars.Road.backV (W := 1) hZ hws597 (kI := 4) (own_w hw 7 rfl) (cs := [(104 : Int32), (116 : Int32), (116 : Int32), (112 : Int32), (115 : Int32), (58 : Int32), (47 : Int32), (47 : Int32), u8, u9, u10, u11, u12, u13]) (bs := bs597) (n := 14) gn_b594 (Nat.le_trans Z0 z601) A594 F_value_b594 F_coder_b594 Va597 f600 H_cs rfl rfl (by decide) (by decide) hlat597 hbs597 (by decide) (by decide)) (g := (mkF m 233 #[vi x0, vi x1, vi x2, vi (8 : Int32), vi (3 : Int32), vi (2 : Int32), vr b329, .unset] [(.ref b329), (.ref b594), (.ref b594)])) rfl (by rw [hml]; rfl) (Steps.refl _) (a := b594) (argsL := [(.ref b329)]) (rest := [(.ref b594)]) (lenOf pd_22 rfl) rfl (by show 2 * 0 + _ ≤ _; exact Nat.le_of_eq rfl) (hb hby at_233) (fun _ _ => ⟨rfl, e594, (by first | decide | omega : 16 + 1 ≤ _), (by first | decide | omega : 846 + 14 ≤ _)⟩)
      dsimp only [Pt.U, Pt.locs, Pt.cells, Pt.slots] at X597 l597 y597 z597 st597 hQ597
      replace l597 := l597.symm
      subst l597 y597 z597
      obtain ⟨rfl, N597q, K597, uE597, uC597, sb597, kb597, ug597, uz597, un597, uV597, uA597⟩ := hQ597
      have N597 := Fr.app N469 N597q
      have ne602 : b329 ≠ sb597 := Nat.ne_of_lt (Nat.lt_of_lt_of_le f598.lt uz597)
      have ne603 : b594 ≠ sb597 := Nat.ne_of_lt (Nat.lt_of_lt_of_le A594.lt uz597)
      have sz_sb597 : h0.size ≤ sb597 := Nat.le_trans z601 uz597
      refine Goes.tr st597 ?_
      show Goes p e below _ (T597.setTop (mkF m 236 #[vi x0, vi x1, vi x2, vi (8 : Int32), vi (3 : Int32), vi (2 : Int32), vr b329, .unset] [(.ref b594)]))
      obtain ⟨g, hg⟩ : ∃ g : Nat → Int32, g = fun i => ([(104 : Int32), (116 : Int32), (116 : Int32), (112 : Int32), (115 : Int32), (58 : Int32), (47 : Int32), (47 : Int32), u8, u9, u10, u11, u12, u13] : List Int32).getD i 0 := ⟨_, rfl⟩
      have g_0 : g 0 = (104 : Int32) := by rw [hg]; rfl
      have g_1 : g 1 = (116 : Int32) := by rw [hg]; rfl
      have g_2 : g 2 = (116 : Int32) := by rw [hg]; rfl
      have g_3 : g 3 = (112 : Int32) := by rw [hg]; rfl
      have g_4 : g 4 = (115 : Int32) := by rw [hg]; rfl
      have g_5 : g 5 = (58 : Int32) := by rw [hg]; rfl
      have g_6 : g 6 = (47 : Int32) := by rw [hg]; rfl
      have g_7 : g 7 = (47 : Int32) := by rw [hg]; rfl
      have g_8 : g 8 = u8 := by rw [hg]; rfl
      have g_9 : g 9 = u9 := by rw [hg]; rfl
      have g_10 : g 10 = u10 := by rw [hg]; rfl
      have g_11 : g 11 = u11 := by rw [hg]; rfl
      have g_12 : g 12 = u12 := by rw [hg]; rfl
      have g_13 : g 13 = u13 := by rw [hg]; rfl
      have Vg : Arw Z T597.heap sb597 kb597 .byte 14 (fun i => .int (g i)) := Arw.ofArv uA597 (by decide) (by intro i hi; rw [hbs597]; match i, hi with | 0, _ => exact (congrArg Value.int (show (104 : Int32).toInt8.toInt32 = (104 : Int32) from by decide)).trans (congrArg Value.int g_0.symm) | 1, _ => exact (congrArg Value.int (show (116 : Int32).toInt8.toInt32 = (116 : Int32) from by decide)).trans (congrArg Value.int g_1.symm) | 2, _ => exact (congrArg Value.int (show (116 : Int32).toInt8.toInt32 = (116 : Int32) from by decide)).trans (congrArg Value.int g_2.symm) | 3, _ => exact (congrArg Value.int (show (112 : Int32).toInt8.toInt32 = (112 : Int32) from by decide)).trans (congrArg Value.int g_3.symm) | 4, _ => exact (congrArg Value.int (show (115 : Int32).toInt8.toInt32 = (115 : Int32) from by decide)).trans (congrArg Value.int g_4.symm) | 5, _ => exact (congrArg Value.int (show (58 : Int32).toInt8.toInt32 = (58 : Int32) from by decide)).trans (congrArg Value.int g_5.symm) | 6, _ => exact (congrArg Value.int (show (47 : Int32).toInt8.toInt32 = (47 : Int32) from by decide)).trans (congrArg Value.int g_6.symm) | 7, _ => exact (congrArg Value.int (show (47 : Int32).toInt8.toInt32 = (47 : Int32) from by decide)).trans (congrArg Value.int g_7.symm) | 8, _ => exact (congrArg Value.int (show u8.toInt8.toInt32 = u8 from c8.1.2.1)).trans (congrArg Value.int g_8.symm) | 9, _ => exact (congrArg Value.int (show u9.toInt8.toInt32 = u9 from c9.1.2.1)).trans (congrArg Value.int g_9.symm) | 10, _ => exact (congrArg Value.int (show u10.toInt8.toInt32 = u10 from c10.1.2.1)).trans (congrArg Value.int g_10.symm) | 11, _ => exact (congrArg Value.int (show u11.toInt8.toInt32 = u11 from c11.1.2.1)).trans (congrArg Value.int g_11.symm) | 12, _ => exact (congrArg Value.int (show u12.toInt8.toInt32 = u12 from c12.1.2.1)).trans (congrArg Value.int g_12.symm) | 13, _ => exact (congrArg Value.int (show u13.toInt8.toInt32 = u13 from c13.1.2.1)).trans (congrArg Value.int g_13.symm) | n + 14, h => exact absurd h (by omega))
      have K604 : Keep h0 T597.heap [] := (K599.trans K597 (allS (Or.inr sz_b594) all0))
      have f605 : Sta Z T597.heap "java/lang/String" "COMPACT_STRINGS" "Z" (.int cS) := own_sta_keep OS K604
      have f606 : Sta Z T597.heap "jdk/internal/util/Preconditions" "SIOOBE_FORMATTER" "Ljava/util/function/BiFunction;" fo := own_sta_keep OF K604
      have ol607 : Old Z n0 (T597.heap) := ((((ol463.keep K464 all0).wr W469 gn_b329).ext E594).keep K597 (allS gn_b594 all0))
      have z609 : h0.size ≤ (T597.heap).size := (Nat.le_trans z601 K597.1)
      have Ks610 : KT Z own_K0 T464.vm (T597.heap) := (((Ks464.wr W469 (NoS.arr f468 (own_w hw 7 rfl) (by intro q; cases q))).ext E594).keep K597 (allS (NoS.str A594 (own_w hw 7 rfl) F_value_b594) all0))
      have sk611 : _ ≤ (T597.heap).size := (Nat.le_trans (Nat.le_trans (Nat.le_trans (Nat.le_refl _) (Nat.le_of_eq W469.size.symm)) E594.1) K597.1)
      obtain ⟨_, _, ⟨T608, L608, k608, n608⟩, -, ⟨X608, Si608⟩, ⟨Lc608, ⟨hQ608, tK608, hK608, hKv608, hKh608⟩, l608, y608, z608⟩, st608⟩ := own_callSW X597 hx (y := (⟨"com/example/lincra/lincra/UrlNormalizer", "pathAndQuery", "(Ljava/lang/String;)Ljava/lang/String;"⟩ : MethodName)) hown (mvT hZ (own_w hw 73 rfl)) (mvT hZ (own_w hw 74 rfl)) (mvT hZ (own_w hw 75 rfl)) (mvT hZ (own_w hw 76 rfl)) (by decide) (own_backOfW (W := 0) (K := (fun U_ => KT Z own_K0 U_.vm U_.heap)) (KP := (fun U_ => KT Z own_K0 U_.vm U_.heap)) (rmQ5 l Z a0 hw [] b594 cS fo sb597 kb597 g (10 : Int32) 10 4 T597.heap n0 (Nat.le_trans Z0 z609) uE597 uC597 uV597 Vg f605 H_cs f606 Hfo ol607 HW HC0 HC1 HC2 HC3 HC4 (by rw [g_0]; decide) (by rw [g_1]; decide) (by rw [g_2]; decide) (by rw [g_3]; decide) (by rw [g_4]; decide) g_5 g_6 g_7 (by rw [show (47 : Int32).toInt8.toInt32 = (47 : Int32) by decide, show 14 - 8 = 6 by decide, own_fs, if_neg (show ¬ g 8 = (47 : Int32) by rw [g_8]; exact c8.2), own_fs, if_neg (show ¬ g 9 = (47 : Int32) by rw [g_9]; exact c9.2), own_fs, if_pos (g_10.trans f10)]; decide) (by decide) (by decide) (by decide) (by decide) (by decide)) hZ (own_w hw 76 rfl) (own_w hw 75 rfl) (by decide) (by decide) (fun V_ hV hVh => by show KT Z own_K0 V_.vm V_.heap; rw [hVh]; exact Ks610.at_ (s := s) hV)) (g := (mkF m 236 #[vi x0, vi x1, vi x2, vi (8 : Int32), vi (3 : Int32), vi (2 : Int32), vr b329, .unset] [(.ref b594)])) rfl (by rw [hml]; rfl) (argsL := [(.ref b594)]) (rest := []) (lenOf pd_23 rfl) rfl (by show 2 * 0 + _ ≤ _; exact Nat.le_of_eq rfl) (hb hby at_236) (fun _ _ => ⟨rfl, rfl, (by decide : 17 + 4 ≤ _), (by decide : 860 + 36 ≤ _)⟩)
      dsimp only [Pt.U, Pt.locs, Pt.cells, Pt.slots] at X608 l608 y608 z608 st608 hQ608 Si608 hKv608 hKh608
      replace l608 := l608.symm
      subst l608 y608 z608
      obtain ⟨r_608, nb608, kb608, rfl, N608q, K608, u608_0, u608_1, u608_2, u608_3, u608_4⟩ := hQ608
      have N608 := Fr.app N597 N608q
      refine Goes.via st608 ?_
      obtain ⟨X608', SI608, hZ, hown⟩ := rebS SI464 sk611 X608 Si608 K608.1 hZ hown
      have Ks608 : KT Z own_K0 T608.vm T608.heap := by rw [← hKv608, ← hKh608]; exact hK608
      have f612 : Arw Z T597.heap b329 k329 .char 14 (own_upd (own_upd (own_upd (own_upd (own_upd (own_upd (own_upd (own_upd (own_upd (own_upd (own_upd (own_upd (own_upd (own_upd (fun _ => (.int 0)) 0 (.int (nar .char (104 : Int32)))) 1 (.int (nar .char (116 : Int32)))) 2 (.int (nar .char (116 : Int32)))) 3 (.int (nar .char (112 : Int32)))) 4 (.int (nar .char (115 : Int32)))) 5 (.int (nar .char (58 : Int32)))) 6 (.int (nar .char (47 : Int32)))) 7 (.int (nar .char (47 : Int32)))) 8 (.int (nar .char u8))) 9 (.int (nar .char u9))) 10 (.int (nar .char u10))) 11 (.int (nar .char u11))) 12 (.int (nar .char u12))) 13 (.int (nar .char u13))) := (f598.keep K597 (ninS ne595 nin0))
      have ne613 : b329 ≠ r_608 := Nat.ne_of_lt (Nat.lt_of_lt_of_le f612.lt u608_0)
      have ne614 : b594 ≠ r_608 := Nat.ne_of_lt (Nat.lt_of_lt_of_le uE597.lt u608_0)
      have ne615 : sb597 ≠ r_608 := Nat.ne_of_lt (Nat.lt_of_lt_of_le uA597.lt u608_0)
      have sz_r_608 : h0.size ≤ r_608 := Nat.le_trans z609 u608_0
      have gn_r_608 : n0 ≤ r_608 := Nat.le_trans Z0 sz_r_608
      -- u608_0 : h0.size ≤ r_608
      have ne616 : r_608 ≠ nb608 := own_ne_arr u608_1 (own_w hw 7 rfl) u608_4
      show Goes p e below _ (T608.setTop (mkF m 239 #[vi x0, vi x1, vi x2, vi (8 : Int32), vi (3 : Int32), vi (2 : Int32), vr b329, .unset] [(.ref r_608)]))
      refine Goes.via (fun _ kk_ => XS.astore X608'.here hx rfl (hb hby at_239) rfl rfl (l' := #[vi x0, vi x1, vi x2, vi (8 : Int32), vi (3 : Int32), vi (2 : Int32), vr b329, vr r_608]) rfl kk_) ?_
      show Goes p e below _ (T608.setTop (mkF m 241 #[vi x0, vi x1, vi x2, vi (8 : Int32), vi (3 : Int32), vi (2 : Int32), vr b329, vr r_608] []))
      refine gAL X608' hx hby at_241 rfl rfl ?_
      have K617 : Keep h0 T608.heap [] := (K604.trans K608 all0)
      have f618 : Sta Z T608.heap "java/lang/String" "COMPACT_STRINGS" "Z" (.int cS) := own_sta_keep OS K617
      have z620 : h0.size ≤ (T608.heap).size := (Nat.le_trans z609 K608.1)
      obtain ⟨cq619, kq619, q619a, q619b, q619c⟩ := isOf hZ rfl u608_1
      obtain ⟨_, _, ⟨T619, L619, k619, n619⟩, -, X619, ⟨Lc619, hQ619, l619, y619, z619⟩, st619⟩ := X608'.virtualBack hx (y := (⟨"java/lang/String", "length", "()I"⟩ : MethodName)) (z := (⟨"java/lang/String", "length", "()I"⟩ : MethodName)) hown (mvT hZ (own_w hw 42 rfl)) (mvT hZ (own_w hw 43 rfl)) (notFace_of_selects (args := #[]) (mvT hZ (own_w hw 45 rfl))) (mvT hZ (own_w hw 45 rfl)) (mvT hZ (own_w hw 44 rfl)) (by decide) (backOf (W := 0) (rm8 l Z a0 hw [] r_608 (4 : Int32) cS nb608 kb608 4 (fun i => g (10 + i)) T608.heap n0 (Nat.le_trans Z0 z620) u608_1 u608_2 u608_3 u608_4 f618 H_cs (by decide)) hZ (own_w hw 46 rfl) (own_w hw 6 rfl) (by decide) (by decide)) q619a q619c (g := (mkF m 243 #[vi x0, vi x1, vi x2, vi (8 : Int32), vi (3 : Int32), vi (2 : Int32), vr b329, vr r_608] [(.ref r_608)])) rfl (by rw [hml]; rfl) (Steps.refl _) (argsL := []) (rest := []) (lenOf pd_8 rfl) rfl (by show 2 * 0 + _ ≤ _; exact Nat.le_of_eq rfl) (hb hby at_243) (fun _ _ => ⟨rfl, rfl, (by decide : 21 + 0 ≤ _), (by decide : 896 + 0 ≤ _)⟩)
      dsimp only [Pt.U, Pt.locs, Pt.cells, Pt.slots] at X619 l619 y619 z619 st619 hQ619
      replace l619 := l619.symm
      subst l619 y619 z619
      obtain ⟨rfl, rfl, e619⟩ := hQ619
      first | rw [List.append_nil] at X619 | skip
      refine Goes.tr st619 ?_
      have e619' : T619.heap = T608.heap := e619
      show Goes p e below _ (T619.setTop (mkF m 246 #[vi x0, vi x1, vi x2, vi (8 : Int32), vi (3 : Int32), vi (2 : Int32), vr b329, vr r_608] [(.int (4 : Int32))]))
      refine gIL X619 hx hby at_246 rfl ?_
      refine gIC (z := 1) X619 hx hby at_248 rfl ?_
      refine Goes.via (fun _ kk_ => XS.iadd X619.here hx rfl (hb hby at_249) rfl kk_) ?_
      show Goes p e below _ (T619.setTop (mkF m 250 #[vi x0, vi x1, vi x2, vi (8 : Int32), vi (3 : Int32), vi (2 : Int32), vr b329, vr r_608] [(.int ((3 : Int32) + (1 : Int32))), (.int (4 : Int32))]))
      rw [show ((3 : Int32) + (1 : Int32)) = (4 : Int32) from by decide]
      show Goes p e below _ (T619.setTop (mkF m 250 #[vi x0, vi x1, vi x2, vi (8 : Int32), vi (3 : Int32), vi (2 : Int32), vr b329, vr r_608] [(.int (4 : Int32)), (.int (4 : Int32))]))
      have hc250_621 : (4 : Int32) = (4 : Int32) := (by decide)
      refine Goes.via (fun _ kk_ => XS.icmpNo X619.here hx rfl (hb hby at_250) rfl (teq hc250_621).2 kk_) ?_
      show Goes p e below _ (T619.setTop (mkF m 253 #[vi x0, vi x1, vi x2, vi (8 : Int32), vi (3 : Int32), vi (2 : Int32), vr b329, vr r_608] []))
      refine gAL X619 hx hby at_253 rfl rfl ?_
      refine gIC (z := 0) X619 hx hby at_255 rfl ?_
      have f622 : Sta Z T608.heap "jdk/internal/util/Preconditions" "SIOOBE_FORMATTER" "Ljava/util/function/BiFunction;" fo := own_sta_keep OF K617
      obtain ⟨cq623, kq623, q623a, q623b, q623c⟩ := isOf hZ e619' u608_1
      obtain ⟨_, _, ⟨T623, L623, k623, n623⟩, -, X623, ⟨Lc623, hQ623, l623, y623, z623⟩, st623⟩ := X619.virtualBack hx (y := (⟨"java/lang/String", "charAt", "(I)C"⟩ : MethodName)) (z := (⟨"java/lang/String", "charAt", "(I)C"⟩ : MethodName)) hown (mvT hZ (own_w hw 13 rfl)) (mvT hZ (own_w hw 14 rfl)) (notFace_of_selects (args := #[]) (mvT hZ (own_w hw 16 rfl))) (mvT hZ (own_w hw 16 rfl)) (mvT hZ (own_w hw 15 rfl)) (by decide) (backOf (W := 0) (rm2 l Z a0 hw [] r_608 (0 : Int32) cS nb608 kb608 4 (fun i => g (10 + i)) (4 : Int32) 0 fo T608.heap n0 (Nat.le_trans Z0 z620) u608_1 u608_2 u608_3 u608_4 f618 H_cs (by decide) (by decide) (by decide) f622 Hfo) hZ (own_w hw 17 rfl) (own_w hw 6 rfl) (by decide) (by decide)) q623a q623c (g := (mkF m 256 #[vi x0, vi x1, vi x2, vi (8 : Int32), vi (3 : Int32), vi (2 : Int32), vr b329, vr r_608] [(.int (0 : Int32)), (.ref r_608)])) rfl (by rw [hml]; rfl) (Steps.refl _) (argsL := [(.int (0 : Int32))]) (rest := []) (lenOf pd_17 rfl) rfl (by show 2 * 0 + _ ≤ _; exact Nat.le_of_eq rfl) (hb hby at_256) (fun _ _ => ⟨rfl, e619', (by decide : 21 + 0 ≤ _), (by decide : 896 + 0 ≤ _)⟩)
      dsimp only [Pt.U, Pt.locs, Pt.cells, Pt.slots] at X623 l623 y623 z623 st623 hQ623
      replace l623 := l623.symm
      subst l623 y623 z623
      obtain ⟨rfl, rfl, e623⟩ := hQ623
      first | rw [List.append_nil] at X623 | skip
      refine Goes.tr st623 ?_
      have e623' : T623.heap = T608.heap := e623
      show Goes p e below _ (T623.setTop (mkF m 259 #[vi x0, vi x1, vi x2, vi (8 : Int32), vi (3 : Int32), vi (2 : Int32), vr b329, vr r_608] [(.int ((fun i => g (10 + i)) 0 &&& (255 : Int32)))]))
      refine gBI (z := 47) X623 hx hby at_259 rfl ?_
      have hc261_624 : ((fun i => g (10 + i)) 0 &&& (255 : Int32)) = (47 : Int32) := (show g 10 &&& (255 : Int32) = (47 : Int32) from by rw [g_10, f10]; decide)
      refine Goes.via (fun _ kk_ => XS.icmpNo X623.here hx rfl (hb hby at_261) rfl (teq hc261_624).2 kk_) ?_
      show Goes p e below _ (T623.setTop (mkF m 264 #[vi x0, vi x1, vi x2, vi (8 : Int32), vi (3 : Int32), vi (2 : Int32), vr b329, vr r_608] []))
      refine gIL X623 hx hby at_264 rfl ?_
      refine gIC (z := 1) X623 hx hby at_266 rfl ?_
      have hc267_625 : ¬ ((3 : Int32) < (1 : Int32)) := (by decide)
      refine Goes.via (fun _ kk_ => XS.icmpNo X623.here hx rfl (hb hby at_267) rfl (flt hc267_625).1 kk_) ?_
      show Goes p e below _ (T623.setTop (mkF m 270 #[vi x0, vi x1, vi x2, vi (8 : Int32), vi (3 : Int32), vi (2 : Int32), vr b329, vr r_608] []))
      refine gAL X623 hx hby at_270 rfl rfl ?_
      refine gIC (z := 1) X623 hx hby at_272 rfl ?_
      obtain ⟨cq626, kq626, q626a, q626b, q626c⟩ := isOf hZ e623' u608_1
      obtain ⟨_, _, ⟨T626, L626, k626, n626⟩, -, X626, ⟨Lc626, hQ626, l626, y626, z626⟩, st626⟩ := X623.virtualBack hx (y := (⟨"java/lang/String", "charAt", "(I)C"⟩ : MethodName)) (z := (⟨"java/lang/String", "charAt", "(I)C"⟩ : MethodName)) hown (mvT hZ (own_w hw 13 rfl)) (mvT hZ (own_w hw 14 rfl)) (notFace_of_selects (args := #[]) (mvT hZ (own_w hw 16 rfl))) (mvT hZ (own_w hw 16 rfl)) (mvT hZ (own_w hw 15 rfl)) (by decide) (backOf (W := 0) (rm2 l Z a0 hw [] r_608 (1 : Int32) cS nb608 kb608 4 (fun i => g (10 + i)) (4 : Int32) 1 fo T608.heap n0 (Nat.le_trans Z0 z620) u608_1 u608_2 u608_3 u608_4 f618 H_cs (by decide) (by decide) (by decide) f622 Hfo) hZ (own_w hw 17 rfl) (own_w hw 6 rfl) (by decide) (by decide)) q626a q626c (g := (mkF m 273 #[vi x0, vi x1, vi x2, vi (8 : Int32), vi (3 : Int32), vi (2 : Int32), vr b329, vr r_608] [(.int (1 : Int32)), (.ref r_608)])) rfl (by rw [hml]; rfl) (Steps.refl _) (argsL := [(.int (1 : Int32))]) (rest := []) (lenOf pd_17 rfl) rfl (by show 2 * 0 + _ ≤ _; exact Nat.le_of_eq rfl) (hb hby at_273) (fun _ _ => ⟨rfl, e623', (by decide : 21 + 0 ≤ _), (by decide : 896 + 0 ≤ _)⟩)
      dsimp only [Pt.U, Pt.locs, Pt.cells, Pt.slots] at X626 l626 y626 z626 st626 hQ626
      replace l626 := l626.symm
      subst l626 y626 z626
      obtain ⟨rfl, rfl, e626⟩ := hQ626
      first | rw [List.append_nil] at X626 | skip
      refine Goes.tr st626 ?_
      have e626' : T626.heap = T608.heap := e626
      show Goes p e below _ (T626.setTop (mkF m 276 #[vi x0, vi x1, vi x2, vi (8 : Int32), vi (3 : Int32), vi (2 : Int32), vr b329, vr r_608] [(.int ((fun i => g (10 + i)) 1 &&& (255 : Int32)))]))
      refine gILN X626 hx hby at_276 rfl ?_
      refine gIC (z := 0) X626 hx hby at_277 rfl ?_
      have ol627 : Old Z n0 (T608.heap) := (ol607.keep K608 all0)
      obtain ⟨_, _, ⟨T628, L628, k628, n628⟩, -, ⟨X628, Si628⟩, ⟨Lc628, ⟨hQ628, tK628, hK628, hKv628, hKh628⟩, l628, y628, z628⟩, st628⟩ := own_callSW X626 hx (y := (⟨"com/example/lincra/lincra/UrlNormalizerPathAndQueryPinLaw", "pathChar", "(II)C"⟩ : MethodName)) hown (mvT hZ (own_w hw 150 rfl)) (mvT hZ (own_w hw 151 rfl)) (mvT hZ (own_w hw 3 rfl)) (mvT hZ (own_w hw 152 rfl)) (by decide) (own_backOfW (W := 1) (K := (fun U_ => KT Z own_K0 U_.vm U_.heap)) (KP := (fun U_ => KT Z own_K0 U_.vm U_.heap)) (rm35 l Z a0 hw [] x2 (0 : Int32) cS fo T608.heap n0 (Nat.le_trans Z0 z620) f618 H_cs f622 Hfo ol627 HW HC0 HC1 HC2 HC3 HC4) hZ (own_w hw 152 rfl) (own_w hw 3 rfl) (by decide) (by decide) (fun V_ hV hVh => by show KT Z own_K0 V_.vm V_.heap; rw [hVh]; exact Ks608.at_ (s := s) hV)) (g := (mkF m 278 #[vi x0, vi x1, vi x2, vi (8 : Int32), vi (3 : Int32), vi (2 : Int32), vr b329, vr r_608] [(.int (0 : Int32)), (.int x2), (.int ((fun i => g (10 + i)) 1 &&& (255 : Int32)))])) rfl (by rw [hml]; rfl) (argsL := [(.int x2), (.int (0 : Int32))]) (rest := [(.int ((fun i => g (10 + i)) 1 &&& (255 : Int32)))]) (lenOf pd_18 rfl) rfl (by show 2 * 0 + _ ≤ _; exact Nat.le_of_eq rfl) (hb hby at_278) (fun _ _ => ⟨rfl, e626', (by decide : 21 + 2 ≤ _), (by decide : 896 + 132 ≤ _)⟩)
      dsimp only [Pt.U, Pt.locs, Pt.cells, Pt.slots] at X628 l628 y628 z628 st628 hQ628 Si628 hKv628 hKh628
      replace l628 := l628.symm
      subst l628 y628 z628
      obtain ⟨rfl, N628q, K628⟩ := hQ628
      have N628 := Fr.app N608 N628q
      refine Goes.via st628 ?_
      obtain ⟨X628', SI628, hZ, hown⟩ := rebS SI608 (Nat.le_refl _) X628 Si628 K628.1 hZ hown
      have Ks628 : KT Z own_K0 T628.vm T628.heap := by rw [← hKv628, ← hKh628]; exact hK628
      show Goes p e below _ (T628.setTop (mkF m 281 #[vi x0, vi x1, vi x2, vi (8 : Int32), vi (3 : Int32), vi (2 : Int32), vr b329, vr r_608] [(.int (own_pc x2 (0 : Int32))), (.int ((fun i => g (10 + i)) 1 &&& (255 : Int32)))]))
      have hc281_629 : ((fun i => g (10 + i)) 1 &&& (255 : Int32)) = (own_pc x2 (0 : Int32)) := (show g 11 &&& (255 : Int32) = own_pc x2 (0 : Int32) from by rw [g_11, f11]; exact (own_pcP _ _).2.2.1)
      refine Goes.via (fun _ kk_ => XS.icmpNo X628'.here hx rfl (hb hby at_281) rfl (teq hc281_629).2 kk_) ?_
      show Goes p e below _ (T628.setTop (mkF m 284 #[vi x0, vi x1, vi x2, vi (8 : Int32), vi (3 : Int32), vi (2 : Int32), vr b329, vr r_608] []))
      refine gIL X628' hx hby at_284 rfl ?_
      refine gIC (z := 2) X628' hx hby at_286 rfl ?_
      have hc287_630 : ¬ ((3 : Int32) < (2 : Int32)) := (by decide)
      refine Goes.via (fun _ kk_ => XS.icmpNo X628'.here hx rfl (hb hby at_287) rfl (flt hc287_630).1 kk_) ?_
      show Goes p e below _ (T628.setTop (mkF m 290 #[vi x0, vi x1, vi x2, vi (8 : Int32), vi (3 : Int32), vi (2 : Int32), vr b329, vr r_608] []))
      refine gAL X628' hx hby at_290 rfl rfl ?_
      refine gIC (z := 2) X628' hx hby at_292 rfl ?_
      have f631 : Exa Z T628.heap r_608 "java/lang/String" := (u608_1.keep K628)
      have f632 : Fld Z T628.heap r_608 "java/lang/String" "coder" "B" (.int (0 : Int32)) := (u608_2.keep K628 nin0)
      have f633 : Fld Z T628.heap r_608 "java/lang/String" "value" "[B" (.ref nb608) := (u608_3.keep K628 nin0)
      have f634 : Arw Z T628.heap nb608 kb608 .byte 4 (fun i => .int ((fun i => g (10 + i)) i)) := (u608_4.keep K628 nin0)
      have K635 : Keep h0 T628.heap [] := (K617.trans K628 all0)
      have f636 : Sta Z T628.heap "java/lang/String" "COMPACT_STRINGS" "Z" (.int cS) := own_sta_keep OS K635
      have f637 : Sta Z T628.heap "jdk/internal/util/Preconditions" "SIOOBE_FORMATTER" "Ljava/util/function/BiFunction;" fo := own_sta_keep OF K635
      have z639 : h0.size ≤ (T628.heap).size := (Nat.le_trans z620 K628.1)
      obtain ⟨cq638, kq638, q638a, q638b, q638c⟩ := isOf hZ rfl f631
      obtain ⟨_, _, ⟨T638, L638, k638, n638⟩, -, X638, ⟨Lc638, hQ638, l638, y638, z638⟩, st638⟩ := X628'.virtualBack hx (y := (⟨"java/lang/String", "charAt", "(I)C"⟩ : MethodName)) (z := (⟨"java/lang/String", "charAt", "(I)C"⟩ : MethodName)) hown (mvT hZ (own_w hw 13 rfl)) (mvT hZ (own_w hw 14 rfl)) (notFace_of_selects (args := #[]) (mvT hZ (own_w hw 16 rfl))) (mvT hZ (own_w hw 16 rfl)) (mvT hZ (own_w hw 15 rfl)) (by decide) (backOf (W := 0) (rm2 l Z a0 hw [] r_608 (2 : Int32) cS nb608 kb608 4 (fun i => g (10 + i)) (4 : Int32) 2 fo T628.heap n0 (Nat.le_trans Z0 z639) f631 f632 f633 f634 f636 H_cs (by decide) (by decide) (by decide) f637 Hfo) hZ (own_w hw 17 rfl) (own_w hw 6 rfl) (by decide) (by decide)) q638a q638c (g := (mkF m 293 #[vi x0, vi x1, vi x2, vi (8 : Int32), vi (3 : Int32), vi (2 : Int32), vr b329, vr r_608] [(.int (2 : Int32)), (.ref r_608)])) rfl (by rw [hml]; rfl) (Steps.refl _) (argsL := [(.int (2 : Int32))]) (rest := []) (lenOf pd_17 rfl) rfl (by show 2 * 0 + _ ≤ _; exact Nat.le_of_eq rfl) (hb hby at_293) (fun _ _ => ⟨rfl, rfl, (by decide : 23 + 0 ≤ _), (by decide : 1028 + 0 ≤ _)⟩)
      dsimp only [Pt.U, Pt.locs, Pt.cells, Pt.slots] at X638 l638 y638 z638 st638 hQ638
      replace l638 := l638.symm
      subst l638 y638 z638
      obtain ⟨rfl, rfl, e638⟩ := hQ638
      first | rw [List.append_nil] at X638 | skip
      refine Goes.tr st638 ?_
      have e638' : T638.heap = T628.heap := e638
      show Goes p e below _ (T638.setTop (mkF m 296 #[vi x0, vi x1, vi x2, vi (8 : Int32), vi (3 : Int32), vi (2 : Int32), vr b329, vr r_608] [(.int ((fun i => g (10 + i)) 2 &&& (255 : Int32)))]))
      refine gILN X638 hx hby at_296 rfl ?_
      refine gIC (z := 1) X638 hx hby at_297 rfl ?_
      have ol640 : Old Z n0 (T628.heap) := (ol627.keep K628 all0)
      obtain ⟨_, _, ⟨T641, L641, k641, n641⟩, -, ⟨X641, Si641⟩, ⟨Lc641, ⟨hQ641, tK641, hK641, hKv641, hKh641⟩, l641, y641, z641⟩, st641⟩ := own_callSW X638 hx (y := (⟨"com/example/lincra/lincra/UrlNormalizerPathAndQueryPinLaw", "pathChar", "(II)C"⟩ : MethodName)) hown (mvT hZ (own_w hw 150 rfl)) (mvT hZ (own_w hw 151 rfl)) (mvT hZ (own_w hw 3 rfl)) (mvT hZ (own_w hw 152 rfl)) (by decide) (own_backOfW (W := 1) (K := (fun U_ => KT Z own_K0 U_.vm U_.heap)) (KP := (fun U_ => KT Z own_K0 U_.vm U_.heap)) (rm35 l Z a0 hw [] x2 (1 : Int32) cS fo T628.heap n0 (Nat.le_trans Z0 z639) f636 H_cs f637 Hfo ol640 HW HC0 HC1 HC2 HC3 HC4) hZ (own_w hw 152 rfl) (own_w hw 3 rfl) (by decide) (by decide) (fun V_ hV hVh => by show KT Z own_K0 V_.vm V_.heap; rw [hVh]; exact Ks628.at_ (s := s) hV)) (g := (mkF m 298 #[vi x0, vi x1, vi x2, vi (8 : Int32), vi (3 : Int32), vi (2 : Int32), vr b329, vr r_608] [(.int (1 : Int32)), (.int x2), (.int ((fun i => g (10 + i)) 2 &&& (255 : Int32)))])) rfl (by rw [hml]; rfl) (argsL := [(.int x2), (.int (1 : Int32))]) (rest := [(.int ((fun i => g (10 + i)) 2 &&& (255 : Int32)))]) (lenOf pd_18 rfl) rfl (by show 2 * 0 + _ ≤ _; exact Nat.le_of_eq rfl) (hb hby at_298) (fun _ _ => ⟨rfl, e638', (by decide : 23 + 2 ≤ _), (by decide : 1028 + 132 ≤ _)⟩)
      dsimp only [Pt.U, Pt.locs, Pt.cells, Pt.slots] at X641 l641 y641 z641 st641 hQ641 Si641 hKv641 hKh641
      replace l641 := l641.symm
      subst l641 y641 z641
      obtain ⟨rfl, N641q, K641⟩ := hQ641
      have N641 := Fr.app N628 N641q
      refine Goes.via st641 ?_
      obtain ⟨X641', SI641, hZ, hown⟩ := rebS SI628 (Nat.le_refl _) X641 Si641 K641.1 hZ hown
      have Ks641 : KT Z own_K0 T641.vm T641.heap := by rw [← hKv641, ← hKh641]; exact hK641
      show Goes p e below _ (T641.setTop (mkF m 301 #[vi x0, vi x1, vi x2, vi (8 : Int32), vi (3 : Int32), vi (2 : Int32), vr b329, vr r_608] [(.int (own_pc x2 (1 : Int32))), (.int ((fun i => g (10 + i)) 2 &&& (255 : Int32)))]))
      have hc301_642 : ((fun i => g (10 + i)) 2 &&& (255 : Int32)) = (own_pc x2 (1 : Int32)) := (show g 12 &&& (255 : Int32) = own_pc x2 (1 : Int32) from by rw [g_12, f12]; exact (own_pcP _ _).2.2.1)
      refine Goes.via (fun _ kk_ => XS.icmpNo X641'.here hx rfl (hb hby at_301) rfl (teq hc301_642).2 kk_) ?_
      show Goes p e below _ (T641.setTop (mkF m 304 #[vi x0, vi x1, vi x2, vi (8 : Int32), vi (3 : Int32), vi (2 : Int32), vr b329, vr r_608] []))
      refine gIL X641' hx hby at_304 rfl ?_
      refine gIC (z := 3) X641' hx hby at_306 rfl ?_
      have hc307_643 : ¬ ((3 : Int32) < (3 : Int32)) := (by decide)
      refine Goes.via (fun _ kk_ => XS.icmpNo X641'.here hx rfl (hb hby at_307) rfl (flt hc307_643).1 kk_) ?_
      show Goes p e below _ (T641.setTop (mkF m 310 #[vi x0, vi x1, vi x2, vi (8 : Int32), vi (3 : Int32), vi (2 : Int32), vr b329, vr r_608] []))
      refine gAL X641' hx hby at_310 rfl rfl ?_
      refine gIC (z := 3) X641' hx hby at_312 rfl ?_
      have f644 : Exa Z T641.heap r_608 "java/lang/String" := (f631.keep K641)
      have f645 : Fld Z T641.heap r_608 "java/lang/String" "coder" "B" (.int (0 : Int32)) := (f632.keep K641 nin0)
      have f646 : Fld Z T641.heap r_608 "java/lang/String" "value" "[B" (.ref nb608) := (f633.keep K641 nin0)
      have f647 : Arw Z T641.heap nb608 kb608 .byte 4 (fun i => .int ((fun i => g (10 + i)) i)) := (f634.keep K641 nin0)
      have K648 : Keep h0 T641.heap [] := (K635.trans K641 all0)
      have f649 : Sta Z T641.heap "java/lang/String" "COMPACT_STRINGS" "Z" (.int cS) := own_sta_keep OS K648
      have f650 : Sta Z T641.heap "jdk/internal/util/Preconditions" "SIOOBE_FORMATTER" "Ljava/util/function/BiFunction;" fo := own_sta_keep OF K648
      have z652 : h0.size ≤ (T641.heap).size := (Nat.le_trans z639 K641.1)
      obtain ⟨cq651, kq651, q651a, q651b, q651c⟩ := isOf hZ rfl f644
      obtain ⟨_, _, ⟨T651, L651, k651, n651⟩, -, X651, ⟨Lc651, hQ651, l651, y651, z651⟩, st651⟩ := X641'.virtualBack hx (y := (⟨"java/lang/String", "charAt", "(I)C"⟩ : MethodName)) (z := (⟨"java/lang/String", "charAt", "(I)C"⟩ : MethodName)) hown (mvT hZ (own_w hw 13 rfl)) (mvT hZ (own_w hw 14 rfl)) (notFace_of_selects (args := #[]) (mvT hZ (own_w hw 16 rfl))) (mvT hZ (own_w hw 16 rfl)) (mvT hZ (own_w hw 15 rfl)) (by decide) (backOf (W := 0) (rm2 l Z a0 hw [] r_608 (3 : Int32) cS nb608 kb608 4 (fun i => g (10 + i)) (4 : Int32) 3 fo T641.heap n0 (Nat.le_trans Z0 z652) f644 f645 f646 f647 f649 H_cs (by decide) (by decide) (by decide) f650 Hfo) hZ (own_w hw 17 rfl) (own_w hw 6 rfl) (by decide) (by decide)) q651a q651c (g := (mkF m 313 #[vi x0, vi x1, vi x2, vi (8 : Int32), vi (3 : Int32), vi (2 : Int32), vr b329, vr r_608] [(.int (3 : Int32)), (.ref r_608)])) rfl (by rw [hml]; rfl) (Steps.refl _) (argsL := [(.int (3 : Int32))]) (rest := []) (lenOf pd_17 rfl) rfl (by show 2 * 0 + _ ≤ _; exact Nat.le_of_eq rfl) (hb hby at_313) (fun _ _ => ⟨rfl, rfl, (by decide : 25 + 0 ≤ _), (by decide : 1160 + 0 ≤ _)⟩)
      dsimp only [Pt.U, Pt.locs, Pt.cells, Pt.slots] at X651 l651 y651 z651 st651 hQ651
      replace l651 := l651.symm
      subst l651 y651 z651
      obtain ⟨rfl, rfl, e651⟩ := hQ651
      first | rw [List.append_nil] at X651 | skip
      refine Goes.tr st651 ?_
      have e651' : T651.heap = T641.heap := e651
      show Goes p e below _ (T651.setTop (mkF m 316 #[vi x0, vi x1, vi x2, vi (8 : Int32), vi (3 : Int32), vi (2 : Int32), vr b329, vr r_608] [(.int ((fun i => g (10 + i)) 3 &&& (255 : Int32)))]))
      refine gILN X651 hx hby at_316 rfl ?_
      refine gIC (z := 2) X651 hx hby at_317 rfl ?_
      have ol653 : Old Z n0 (T641.heap) := (ol640.keep K641 all0)
      obtain ⟨_, _, ⟨T654, L654, k654, n654⟩, -, ⟨X654, Si654⟩, ⟨Lc654, ⟨hQ654, tK654, hK654, hKv654, hKh654⟩, l654, y654, z654⟩, st654⟩ := own_callSW X651 hx (y := (⟨"com/example/lincra/lincra/UrlNormalizerPathAndQueryPinLaw", "pathChar", "(II)C"⟩ : MethodName)) hown (mvT hZ (own_w hw 150 rfl)) (mvT hZ (own_w hw 151 rfl)) (mvT hZ (own_w hw 3 rfl)) (mvT hZ (own_w hw 152 rfl)) (by decide) (own_backOfW (W := 1) (K := (fun U_ => KT Z own_K0 U_.vm U_.heap)) (KP := (fun U_ => KT Z own_K0 U_.vm U_.heap)) (rm35 l Z a0 hw [] x2 (2 : Int32) cS fo T641.heap n0 (Nat.le_trans Z0 z652) f649 H_cs f650 Hfo ol653 HW HC0 HC1 HC2 HC3 HC4) hZ (own_w hw 152 rfl) (own_w hw 3 rfl) (by decide) (by decide) (fun V_ hV hVh => by show KT Z own_K0 V_.vm V_.heap; rw [hVh]; exact Ks641.at_ (s := s) hV)) (g := (mkF m 318 #[vi x0, vi x1, vi x2, vi (8 : Int32), vi (3 : Int32), vi (2 : Int32), vr b329, vr r_608] [(.int (2 : Int32)), (.int x2), (.int ((fun i => g (10 + i)) 3 &&& (255 : Int32)))])) rfl (by rw [hml]; rfl) (argsL := [(.int x2), (.int (2 : Int32))]) (rest := [(.int ((fun i => g (10 + i)) 3 &&& (255 : Int32)))]) (lenOf pd_18 rfl) rfl (by show 2 * 0 + _ ≤ _; exact Nat.le_of_eq rfl) (hb hby at_318) (fun _ _ => ⟨rfl, e651', (by decide : 25 + 2 ≤ _), (by decide : 1160 + 132 ≤ _)⟩)
      dsimp only [Pt.U, Pt.locs, Pt.cells, Pt.slots] at X654 l654 y654 z654 st654 hQ654 Si654 hKv654 hKh654
      replace l654 := l654.symm
      subst l654 y654 z654
      obtain ⟨rfl, N654q, K654⟩ := hQ654
      have N654 := Fr.app N641 N654q
      refine Goes.via st654 ?_
      obtain ⟨X654', SI654, hZ, hown⟩ := rebS SI641 (Nat.le_refl _) X654 Si654 K654.1 hZ hown
      have Ks654 : KT Z own_K0 T654.vm T654.heap := by rw [← hKv654, ← hKh654]; exact hK654
      show Goes p e below _ (T654.setTop (mkF m 321 #[vi x0, vi x1, vi x2, vi (8 : Int32), vi (3 : Int32), vi (2 : Int32), vr b329, vr r_608] [(.int (own_pc x2 (2 : Int32))), (.int ((fun i => g (10 + i)) 3 &&& (255 : Int32)))]))
      have hc321_655 : ((fun i => g (10 + i)) 3 &&& (255 : Int32)) = (own_pc x2 (2 : Int32)) := (show g 13 &&& (255 : Int32) = own_pc x2 (2 : Int32) from by rw [g_13, f13]; exact (own_pcP _ _).2.2.1)
      refine Goes.via (fun _ kk_ => XS.icmpNo X654'.here hx rfl (hb hby at_321) rfl (teq hc321_655).2 kk_) ?_
      show Goes p e below _ (T654.setTop (mkF m 324 #[vi x0, vi x1, vi x2, vi (8 : Int32), vi (3 : Int32), vi (2 : Int32), vr b329, vr r_608] []))
      refine gIC (z := 1) X654' hx hby at_324 rfl ?_
      refine Goes.via (fun _ kk_ => XS.goto X654'.here hx rfl (pc0 := 325) (pc' := 329) rfl (hb hby at_325) (by decide) (by decide) kk_) ?_
      show Goes p e below _ (T654.setTop (mkF m 329 #[vi x0, vi x1, vi x2, vi (8 : Int32), vi (3 : Int32), vi (2 : Int32), vr b329, vr r_608] [(.int (1 : Int32))]))
      have K656 : Keep h0 T654.heap [] := (K648.trans K654 all0)
      have hKe : KT Z own_K0 T654.vm T654.heap := by rw [show T654.heap = T654.heap from rfl]; exact Ks654.at_ (s := s) X654'.warmed
      exact own_wfinN X654' SI654 (Nat.le_refl _) (fun U_ hv hh_ => by show KT Z own_K0 U_.vm U_.heap; rw [hv, hh_]; exact hKe) hx hlk hret (by simp) (hb hby at_329) (by exact ⟨rfl, N654, K656⟩) (by first | decide | omega | (dsimp only; omega)) (by first | decide | omega | (dsimp only; omega))
set_option maxRecDepth 65536 in
set_option maxHeartbeats 40000000 in
theorem comes_1 {Post : Tables → Env → Array Value → State → Outcome → State → Prop} (hpost : ∀ tb e args s v u, (limb_1_1.after args s (.returned v) u = true ∧ limb_1_2.after args s (.returned v) u = true ∧ True) → ReturnedEndW s (.returned v) u (Jvm.fieldLocs frame_1_writes args s ++ Jvm.arrayLocs frame_1_arrays args s ++ Jvm.staticLocs frame_1_statics s) 32 5312 → Post tb e args s (.returned v) u) :
    ArmFor flags0 classFile x code maxLocals ret World_1 tables_1 room_1 Calls_1 rest_1 Pre_1 Post := by
  intro l hfl _ _ p e ha hc hk s m args below hf hA hF happ hP
  obtain ⟨hcalls, hrest, hpre⟩ := hP
  obtain ⟨-, -, -, hnamed, -, -, -, hat⟩ := (Spec.applies_iff hf).mp happ
  obtain ⟨hg, hn⟩ := and_e (Cond.before_iff.mp (show (Jvm.Cond.and given_1 narrow_1).before args s = true from hpre))
  obtain ⟨gg1, gg2⟩ := and_e hg
  obtain ⟨gg3, gg4⟩ := and_e gg2
  obtain ⟨gg5, gg6⟩ := and_e gg4
  obtain ⟨w0, w1, w2, rfl⟩ : ∃ w0 w1 w2 : Value, args = #[w0, w1, w2] := by
    have hs : args.size = 3 := by simpa [Cond.value, given_1] using gg1
    obtain ⟨L⟩ := args
    match L, hs with
    | [w0, w1, w2], _ => exact ⟨w0, w1, w2, rfl⟩
  have hw := fun d (hd : d ∈ tables_1) => atoms_spec (ws := Jvm.Cond.code x code maxLocals ret :: tables_1) hat d (List.mem_cons_of_mem _ hd)
  have hfit : Fit s := fun {y c} hc i hi => by
    obtain ⟨ha, rfl⟩ := Array.getElem?_eq_some_iff.mp hc
    have q := List.all_eq_true.mp ((Array.all_eq_true_iff_forall_mem.mp hF) _ (Array.getElem_mem ha)) i (List.mem_range.mpr hi)
    simpa [Array.getElem?_eq_getElem hi] using q
  obtain ⟨hsets, hown0⟩ := atoms_of _ (rest_1_c_eq ▸ (show rest_1_c.before _ s = true from hrest))
  have hr0 := Cond.before_iff.mp hown0
  obtain ⟨i0, ei0⟩ := is_v gg3
  obtain rfl : w0 = (.int i0) := Option.some.inj ei0
  obtain ⟨i1, ei1⟩ := is_v gg5
  obtain rfl : w1 = (.int i1) := Option.some.inj ei1
  obtain ⟨i2, ei2⟩ := is_v gg6
  obtain rfl : w2 = (.int i2) := Option.some.inj ei2
  obtain ⟨cS, eS⟩ := is_v (Cond.before_iff.mp (hsets _ (List.mem_of_getElem? (i := 1) rfl)))
  have OS : Sta s s.heap "java/lang/String" "COMPACT_STRINGS" "Z" (.int cS) := Sta.start eS (Or.inl (hsets _ (List.mem_of_getElem? (i := 0) rfl)))
  have HS : ¬ cS = (0 : Int32) := gotF (Cond.eq_ints eS (Term.int_eval (0))) (not_v (Cond.before_iff.mp (hsets _ (List.mem_of_getElem? (i := 2) rfl))))
  have HW : Jvm.Lit.compactW.before _ s = true := hsets _ (List.mem_of_getElem? (i := 2) rfl)
  have HC0 : Jvm.Lit.constHeld s "com/example/lincra/lincra/UrlNormalizerPathAndQueryPinLaw" 7 := hcalls.1 ("com/example/lincra/lincra/UrlNormalizerPathAndQueryPinLaw", 7) (by simp [consts_1])
  have HC1 : Jvm.Lit.constHeld s "com/example/lincra/lincra/UrlNormalizerPathAndQueryPinLaw" 19 := hcalls.1 ("com/example/lincra/lincra/UrlNormalizerPathAndQueryPinLaw", 19) (by simp [consts_1])
  have HC2 : Jvm.Lit.constHeld s "com/example/lincra/lincra/UrlNormalizer" 81 := hcalls.1 ("com/example/lincra/lincra/UrlNormalizer", 81) (by simp [consts_1])
  have HC3 : Jvm.Lit.constHeld s "com/example/lincra/lincra/UrlNormalizerPathAndQueryPinLaw" 23 := hcalls.1 ("com/example/lincra/lincra/UrlNormalizerPathAndQueryPinLaw", 23) (by simp [consts_1])
  have HC4 : Jvm.Lit.constHeld s "com/example/lincra/lincra/UrlNormalizerPathAndQueryPinLaw" 21 := hcalls.1 ("com/example/lincra/lincra/UrlNormalizerPathAndQueryPinLaw", 21) (by simp [consts_1])
  obtain ⟨fo, eF, Hfo⟩ := isR_v (Cond.before_iff.mp (hsets _ (List.mem_of_getElem? (i := 8) rfl)))
  have OF : Sta s s.heap "jdk/internal/util/Preconditions" "SIOOBE_FORMATTER" "Ljava/util/function/BiFunction;" fo := Sta.start eF (Or.inl (hsets _ (List.mem_of_getElem? (i := 7) rfl)))
  obtain ⟨n, o, h1, h2, h3, _, L, rfl, ⟨rfl, N, -⟩, -, hq⟩ := rm0 l s _ hw tables_1 i0 i1 i2 cS fo s.heap s.heap.size (Nat.le_refl _) OS HS OF Hfo (Old.start s) HW HC0 HC1 HC2 HC3 HC4 p e ha hc hk s m _ below hf ((Spec.applies_iff_loose hf).mp happ).1 ⟨rfl, State.Warmed39.refl s, rfl, KT.start⟩ trivial
  refine ⟨n, _, h1, h2, h3, hpost _ _ _ _ _ _ ⟨Cond.after_iff.mpr rfl, Cond.after_iff.mpr (eq_i res_at (Term.int_eval (1)) rfl), trivial⟩ ⟨hq.1, hq.2.1, hq.2.2.1, (hq.2.2.2.sift fun y hy => Or.inr (N y hy)).mono (by decide) (by decide)⟩⟩
theorem main_1_1 : Claimed_1_1 := comes_1 fun _ _ _ _ _ _ h hF => ⟨h.1, hF⟩
theorem main_1_2 : Claimed_1_2 := comes_1 fun _ _ _ _ _ _ h hF => ⟨h.2.1, hF⟩
end Jvm.Pilot.@@N@@
namespace Jvm.Pilot.@@N@@
open Jvm Jvm.ClassFile Sem Op Lib Jvm.Free Jvm.Stand Jvm.Pilot.@@N@@.Jvm.D
/-! MADE BY PROGRAM (witnessworld.py) out of the Statement's table words and the real class files: 23 classes; the members and pool entries that the words name. The judged class is class 1, her method 4. -/
namespace start1
open Jvm.ClassFile
def u (s : String) : CpInfo := .utf8 (stringToUtf16 s)
/-- a pool by its gaps: so many unusable entries, then the entry; so many at the end -/
def gap : Nat → List CpInfo → List CpInfo
  | 0, r => r
  | n + 1, r => .unusable :: gap n r
def poolList (es : List (Nat × CpInfo)) (last : Nat) : List CpInfo := es.foldr (fun e r => gap e.1 (e.2 :: r)) (gap last [])
def pool (es : List (Nat × CpInfo)) (last : Nat) : Array CpInfo := ⟨poolList es last⟩
def fileOf (pool : Array CpInfo) (this : Nat) (attrs : Array Attribute := #[]) (ms : Array MethodInfo := #[]) (fl : Nat := 33) (sup : Nat := 0) (ifs : Array Nat := #[]) (fds : Array FieldInfo := #[]) : ClassFile where
  minorVersion := 0
  majorVersion := 65
  constantPool := pool
  accessFlags := fl
  thisClass := this
  superClass := sup
  interfaces := ifs
  fields := fds
  methods := ms
  attributes := attrs
def plain (name : String) (sup : Option ClassId) : Class where
  name := name
  kind := .ordinary
  loader := none
  accessFlags := 33
  super := sup
  interfaces := #[]
  cf := none
  fields := #[]
  methods := #[]
  instanceTypes := #[]
  staticTypes := #[]
  resolved := #[]
  callSites := []
  init := .initialized
  statics := none
  mirror := none

def pool0 : Array CpInfo := pool [(5, u "<init>"), (0, u "()V"), (1, .class_ 10), (1, u "java/lang/Object")] 113

def k0c0 : Code := { maxStack := 0, maxLocals := 1, code := object_method_1_code, exceptionTable := #[], attributes := #[] }
def k0m0 : Method := { name := "<init>", desc := "()V", sig := { parameters := [], returnType := none }, accessFlags := 1, code := some k0c0 }
/-- java/lang/Object -/
def k0 : Class := { plain "java/lang/Object" none with
  accessFlags := 33
  interfaces := #[]
  cf := some (fileOf pool0 8 #[] #[{ accessFlags := 1, nameIndex := 5, descriptorIndex := 6, attributes := #[] }] 33 0 #[] #[])
  fields := #[]
  methods := #[k0m0]
  instanceTypes := #[]
  staticTypes := #[]
  resolved := Array.replicate 124 none
  statics := none }

def pool1 : Array CpInfo := pool [(2, .class_ 4), (1, u "java/lang/Object"), (0, u "<init>"), (0, u "()V"), (0, .string 8), (0, u "abcdefmxyz01289-._~!$&'()*+,;=:@"), (0, .methodref 10 11), (0, .class_ 12), (0, .nameAndType 13 14), (0, u "java/lang/String"), (0, u "length"), (0, u "()I"), (0, .methodref 10 16), (0, .nameAndType 17 18), (0, u "charAt"), (0, u "(I)C"), (0, .string 20), (0, u "aqzAQZ0379-._~!$&'()*+,;=:@/?/?F"), (0, .string 22), (0, u "https://"), (0, .string 24), (0, u "http://"), (0, .methodref 26 27), (0, .class_ 28), (0, .nameAndType 29 30), (0, u "com/example/lincra/lincra/UrlNormalizerPathAndQueryPinLaw"), (0, u "hostChar"), (0, u "(II)C"), (0, .methodref 26 32), (0, .nameAndType 33 30), (0, u "pathChar"), (0, .methodref 26 35), (0, .nameAndType 36 37), (0, u "at"), (0, u "(IIIII)C"), (0, .methodref 10 39), (0, .nameAndType 5 40), (0, u "([C)V"), (0, .methodref 42 43), (0, .class_ 44), (0, .nameAndType 45 46), (0, u "com/example/lincra/lincra/UrlNormalizer"), (0, u "pathAndQuery"), (0, u "(Ljava/lang/String;)Ljava/lang/String;"), (3, u "law"), (0, u "(III)Z")] 4

def k1m0 : Method := { name := "<init>", desc := "()V", sig := { parameters := [], returnType := none }, accessFlags := 2, code := none }
def k1c1 : Code := { maxStack := 4, maxLocals := 2, code := method_2_code, exceptionTable := #[], attributes := #[] }
def k1m1 : Method := { name := "hostChar", desc := "(II)C", sig := { parameters := [.int, .int], returnType := some .char }, accessFlags := 10, code := some k1c1 }
def k1c2 : Code := { maxStack := 4, maxLocals := 2, code := method_3_code, exceptionTable := #[], attributes := #[] }
def k1m2 : Method := { name := "pathChar", desc := "(II)C", sig := { parameters := [.int, .int], returnType := some .char }, accessFlags := 10, code := some k1c2 }
def k1c3 : Code := { maxStack := 3, maxLocals := 5, code := method_4_code, exceptionTable := #[], attributes := #[] }
def k1m3 : Method := { name := "at", desc := "(IIIII)C", sig := { parameters := [.int, .int, .int, .int, .int], returnType := some .char }, accessFlags := 10, code := some k1c3 }
def k1c4 : Code := { maxStack := 7, maxLocals := 8, code := code, exceptionTable := #[], attributes := #[] }
def k1m4 : Method := { name := "law", desc := "(III)Z", sig := { parameters := [.int, .int, .int], returnType := some .boolean }, accessFlags := 9, code := some k1c4 }
/-- com/example/lincra/lincra/UrlNormalizerPathAndQueryPinLaw -/
def k1 : Class := { plain "com/example/lincra/lincra/UrlNormalizerPathAndQueryPinLaw" (some 0) with
  accessFlags := 49
  interfaces := #[]
  cf := some (fileOf pool1 26 #[] #[{ accessFlags := 2, nameIndex := 5, descriptorIndex := 6, attributes := #[] }, { accessFlags := 10, nameIndex := 29, descriptorIndex := 30, attributes := #[] }, { accessFlags := 10, nameIndex := 33, descriptorIndex := 30, attributes := #[] }, { accessFlags := 10, nameIndex := 36, descriptorIndex := 37, attributes := #[] }, { accessFlags := 9, nameIndex := 50, descriptorIndex := 51, attributes := #[] }] 49 2 #[] #[])
  fields := #[]
  methods := #[k1m0, k1m1, k1m2, k1m3, k1m4]
  instanceTypes := #[]
  staticTypes := #[]
  resolved := Array.replicate 56 none
  statics := none }

def pool2 : Array CpInfo := pool [(1, .class_ 2), (0, u "java/io/Serializable"), (0, .class_ 4), (0, u "java/lang/Object")] 2

/-- java/io/Serializable -/
def k2 : Class := { plain "java/io/Serializable" (some 0) with
  accessFlags := 1537
  interfaces := #[]
  cf := some (fileOf pool2 1 #[] #[] 1537 3 #[] #[])
  fields := #[]
  methods := #[]
  instanceTypes := #[]
  staticTypes := #[]
  resolved := Array.replicate 7 none
  statics := none }

def pool3 : Array CpInfo := pool [(1, .class_ 2), (0, u "java/lang/Comparable"), (0, .class_ 4), (0, u "java/lang/Object")] 7

/-- java/lang/Comparable -/
def k3 : Class := { plain "java/lang/Comparable" (some 0) with
  accessFlags := 1537
  interfaces := #[]
  cf := some (fileOf pool3 1 #[] #[] 1537 3 #[] #[])
  fields := #[]
  methods := #[]
  instanceTypes := #[]
  staticTypes := #[]
  resolved := Array.replicate 12 none
  statics := none }

def pool4 : Array CpInfo := pool [(2, .class_ 4), (1, u "java/lang/CharSequence"), (42, .class_ 48), (0, u "java/lang/CharSequence$1CodePointIterator"), (10, .class_ 60), (0, u "java/lang/CharSequence$1CharIterator"), (5, .class_ 67), (0, u "java/lang/Object")] 63

/-- java/lang/CharSequence -/
def k4 : Class := { plain "java/lang/CharSequence" (some 0) with
  accessFlags := 1537
  interfaces := #[]
  cf := some (fileOf pool4 2 #[.nestMembers #[47, 59]] #[] 1537 66 #[] #[])
  fields := #[]
  methods := #[]
  instanceTypes := #[]
  staticTypes := #[]
  resolved := Array.replicate 131 none
  statics := none }

def pool5 : Array CpInfo := pool [(1, .class_ 2), (0, u "java/lang/constant/Constable"), (0, .class_ 4), (0, u "java/lang/Object")] 6

/-- java/lang/constant/Constable -/
def k5 : Class := { plain "java/lang/constant/Constable" (some 0) with
  accessFlags := 1537
  interfaces := #[]
  cf := some (fileOf pool5 1 #[] #[] 1537 3 #[] #[])
  fields := #[]
  methods := #[]
  instanceTypes := #[]
  staticTypes := #[]
  resolved := Array.replicate 11 none
  statics := none }

def pool6 : Array CpInfo := pool [(1, .class_ 2), (0, u "java/lang/constant/ConstantDesc"), (0, .class_ 4), (0, u "java/lang/Object")] 32

/-- java/lang/constant/ConstantDesc -/
def k6 : Class := { plain "java/lang/constant/ConstantDesc" (some 0) with
  accessFlags := 1537
  interfaces := #[]
  cf := some (fileOf pool6 1 #[] #[] 1537 3 #[] #[])
  fields := #[]
  methods := #[]
  instanceTypes := #[]
  staticTypes := #[]
  resolved := Array.replicate 37 none
  statics := none }

def pool7 : Array CpInfo := pool [(1, .methodref 2 3), (0, .class_ 4), (0, .nameAndType 5 6), (0, u "java/lang/Object"), (0, u "<init>"), (0, u "()V"), (2, .fieldref 10 11), (0, .class_ 12), (0, .nameAndType 13 14), (0, u "java/lang/String"), (0, u "value"), (0, u "[B"), (0, .fieldref 10 16), (0, .nameAndType 17 18), (0, u "coder"), (0, u "B"), (2, u "hash"), (0, u "I"), (2, u "hashIsZero"), (0, u "Z"), (0, .methodref 10 28), (0, .nameAndType 5 29), (0, u "([CIILjava/lang/Void;)V"), (8, .fieldref 10 39), (0, .nameAndType 40 26), (0, u "COMPACT_STRINGS"), (1, .class_ 44), (1, u "java/lang/StringUTF16"), (0, u "compress"), (1, .methodref 42 48), (0, .nameAndType 49 50), (0, u "coderFromArrayLen"), (0, u "([BI)B"), (56, .class_ 109), (1, u "java/lang/StringLatin1"), (32, u "()Z"), (34, .methodref 42 178), (0, .nameAndType 45 179), (0, u "([CII)[B"), (31, u "([BB)V"), (122, u "()I"), (0, .methodref 10 336), (0, .nameAndType 17 337), (0, u "()B"), (25, u "([BI)C"), (27, u "(II)V"), (35, u "(I)C"), (64, .methodref 10 493), (0, .nameAndType 494 142), (0, u "isLatin1"), (0, .methodref 107 496), (0, .nameAndType 497 363), (0, u "charAt"), (3, u "checkIndex"), (3, .methodref 10 506), (0, .nameAndType 507 334), (0, u "length"), (5, u "checkFromToIndex"), (7, .methodref 10 522), (0, .nameAndType 523 524), (0, u "checkBoundsBeginEnd"), (0, u "(III)V"), (50, .class_ 576), (0, u "java/lang/CharSequence"), (12, u "([B[B)I"), (9, u "CASE_INSENSITIVE_ORDER"), (0, u "Ljava/util/Comparator;"), (34, u "indexOf"), (0, u "(II)I"), (0, .methodref 107 638), (0, .nameAndType 635 639), (0, u "([BIII)I"), (7, .methodref 107 648), (0, .nameAndType 635 589), (32, .methodref 10 682), (0, .nameAndType 683 684), (0, u "substring"), (0, u "(II)Ljava/lang/String;"), (0, .methodref 107 686), (0, .nameAndType 687 688), (0, u "newString"), (0, u "([BII)Ljava/lang/String;"), (24, u "(Ljava/lang/String;)I"), (178, u "(I)Ljava/lang/String;"), (117, u "([C)V"), (42, .fieldref 1054 1055), (0, .class_ 1056), (0, .nameAndType 1057 1058), (0, u "jdk/internal/util/Preconditions"), (0, u "SIOOBE_FORMATTER"), (0, u "Ljava/util/function/BiFunction;"), (0, .methodref 1054 1060), (0, .nameAndType 501 1061), (0, u "(IILjava/util/function/BiFunction;)I"), (0, .methodref 1054 1063), (0, .nameAndType 513 1064), (0, u "(IIILjava/util/function/BiFunction;)I"), (36, u "serialPersistentFields"), (0, u "[Ljava/io/ObjectStreamField;"), (0, .class_ 1104), (0, u "java/lang/String$CaseInsensitiveComparator"), (1, .class_ 1107), (0, u "java/io/Serializable"), (0, .class_ 1109), (0, u "java/lang/Comparable"), (0, .class_ 1111), (0, u "java/lang/constant/Constable"), (0, .class_ 1113), (0, u "java/lang/constant/ConstantDesc"), (2, u "serialVersionUID"), (0, u "J"), (3, u "REPL"), (0, u "C"), (2, u "LATIN1"), (1, u "UTF16")] 323

def k7m0 : Method := { name := "<init>", desc := "()V", sig := { parameters := [], returnType := none }, accessFlags := 1, code := none }
def k7c1 : Code := { maxStack := 5, maxLocals := 2, code := jdk_42_method_3_code, exceptionTable := #[], attributes := #[] }
def k7m1 : Method := { name := "<init>", desc := "([C)V", sig := { parameters := [(.array .char)], returnType := none }, accessFlags := 1, code := some k7c1 }
def k7c2 : Code := { maxStack := 2, maxLocals := 1, code := jdk_42_method_54_code, exceptionTable := #[], attributes := #[] }
def k7m2 : Method := { name := "length", desc := "()I", sig := { parameters := [], returnType := some .int }, accessFlags := 1, code := some k7c2 }
def k7c3 : Code := { maxStack := 2, maxLocals := 2, code := jdk_42_method_56_code, exceptionTable := #[], attributes := #[] }
def k7m3 : Method := { name := "charAt", desc := "(I)C", sig := { parameters := [.int], returnType := some .char }, accessFlags := 1, code := some k7c3 }
def k7c4 : Code := { maxStack := 4, maxLocals := 3, code := jdk_42_method_80_code, exceptionTable := #[], attributes := #[] }
def k7m4 : Method := { name := "indexOf", desc := "(II)I", sig := { parameters := [.int, .int], returnType := some .int }, accessFlags := 1, code := some k7c4 }
def k7c5 : Code := { maxStack := 2, maxLocals := 3, code := jdk_42_method_84_code, exceptionTable := #[], attributes := #[] }
def k7m5 : Method := { name := "indexOf", desc := "(Ljava/lang/String;)I", sig := { parameters := [(.object "java/lang/String")], returnType := some .int }, accessFlags := 1, code := some k7c5 }
def k7c6 : Code := { maxStack := 3, maxLocals := 2, code := jdk_42_method_91_code, exceptionTable := #[], attributes := #[] }
def k7m6 : Method := { name := "substring", desc := "(I)Ljava/lang/String;", sig := { parameters := [.int], returnType := some (.object "java/lang/String") }, accessFlags := 1, code := some k7c6 }
def k7c7 : Code := { maxStack := 3, maxLocals := 5, code := jdk_42_method_92_code, exceptionTable := #[], attributes := #[] }
def k7m7 : Method := { name := "substring", desc := "(II)Ljava/lang/String;", sig := { parameters := [.int, .int], returnType := some (.object "java/lang/String") }, accessFlags := 1, code := some k7c7 }
def k7c8 : Code := { maxStack := 4, maxLocals := 6, code := jdk_42_method_149_code, exceptionTable := #[], attributes := #[] }
def k7m8 : Method := { name := "<init>", desc := "([CIILjava/lang/Void;)V", sig := { parameters := [(.array .char), .int, .int, (.object "java/lang/Void")], returnType := none }, accessFlags := 2, code := some k7c8 }
def k7c9 : Code := { maxStack := 2, maxLocals := 3, code := jdk_42_method_151_code, exceptionTable := #[], attributes := #[] }
def k7m9 : Method := { name := "<init>", desc := "([BB)V", sig := { parameters := [(.array .byte), .byte], returnType := none }, accessFlags := 0, code := some k7c9 }
def k7c10 : Code := { maxStack := 1, maxLocals := 1, code := jdk_42_method_152_code, exceptionTable := #[], attributes := #[] }
def k7m10 : Method := { name := "coder", desc := "()B", sig := { parameters := [], returnType := some .byte }, accessFlags := 0, code := some k7c10 }
def k7c11 : Code := { maxStack := 1, maxLocals := 1, code := jdk_42_method_154_code, exceptionTable := #[], attributes := #[] }
def k7m11 : Method := { name := "isLatin1", desc := "()Z", sig := { parameters := [], returnType := some .boolean }, accessFlags := 0, code := some k7c11 }
def k7c12 : Code := { maxStack := 3, maxLocals := 2, code := jdk_42_method_155_code, exceptionTable := #[], attributes := #[] }
def k7m12 : Method := { name := "checkIndex", desc := "(II)V", sig := { parameters := [.int, .int], returnType := none }, accessFlags := 8, code := some k7c12 }
def k7c13 : Code := { maxStack := 4, maxLocals := 3, code := jdk_42_method_158_code, exceptionTable := #[], attributes := #[] }
def k7m13 : Method := { name := "checkBoundsBeginEnd", desc := "(III)V", sig := { parameters := [.int, .int, .int], returnType := none }, accessFlags := 8, code := some k7c13 }
/-- java/lang/String -/
def k7 : Class := { plain "java/lang/String" (some 0) with
  accessFlags := 49
  interfaces := #[2, 3, 4, 5, 6]
  cf := some (fileOf pool7 10 #[.nestMembers #[1103]] #[{ accessFlags := 1, nameIndex := 5, descriptorIndex := 6, attributes := #[] }, { accessFlags := 1, nameIndex := 5, descriptorIndex := 1010, attributes := #[] }, { accessFlags := 1, nameIndex := 507, descriptorIndex := 334, attributes := #[] }, { accessFlags := 1, nameIndex := 497, descriptorIndex := 427, attributes := #[] }, { accessFlags := 1, nameIndex := 635, descriptorIndex := 636, attributes := #[] }, { accessFlags := 1, nameIndex := 635, descriptorIndex := 713, attributes := #[] }, { accessFlags := 1, nameIndex := 683, descriptorIndex := 892, attributes := #[] }, { accessFlags := 1, nameIndex := 683, descriptorIndex := 684, attributes := #[] }, { accessFlags := 2, nameIndex := 5, descriptorIndex := 29, attributes := #[] }, { accessFlags := 0, nameIndex := 5, descriptorIndex := 211, attributes := #[] }, { accessFlags := 0, nameIndex := 17, descriptorIndex := 337, attributes := #[] }, { accessFlags := 0, nameIndex := 494, descriptorIndex := 142, attributes := #[] }, { accessFlags := 8, nameIndex := 501, descriptorIndex := 391, attributes := #[] }, { accessFlags := 8, nameIndex := 523, descriptorIndex := 524, attributes := #[] }] 49 2 #[1106, 1108, 575, 1110, 1112] #[{ accessFlags := 18, nameIndex := 13, descriptorIndex := 14, attributes := #[] }, { accessFlags := 18, nameIndex := 17, descriptorIndex := 18, attributes := #[] }, { accessFlags := 2, nameIndex := 21, descriptorIndex := 22, attributes := #[] }, { accessFlags := 2, nameIndex := 25, descriptorIndex := 26, attributes := #[] }, { accessFlags := 26, nameIndex := 1116, descriptorIndex := 1117, attributes := #[] }, { accessFlags := 24, nameIndex := 40, descriptorIndex := 26, attributes := #[] }, { accessFlags := 26, nameIndex := 1101, descriptorIndex := 1102, attributes := #[] }, { accessFlags := 26, nameIndex := 1121, descriptorIndex := 1122, attributes := #[] }, { accessFlags := 25, nameIndex := 599, descriptorIndex := 600, attributes := #[] }, { accessFlags := 24, nameIndex := 1125, descriptorIndex := 18, attributes := #[] }, { accessFlags := 24, nameIndex := 1127, descriptorIndex := 18, attributes := #[] }])
  fields := #[{ name := "value", type := (.array .byte), accessFlags := 18, slot := 0, constantValue := 0 }, { name := "coder", type := .byte, accessFlags := 18, slot := 1, constantValue := 0 }, { name := "hash", type := .int, accessFlags := 2, slot := 2, constantValue := 0 }, { name := "hashIsZero", type := .boolean, accessFlags := 2, slot := 3, constantValue := 0 }, { name := "serialVersionUID", type := .long, accessFlags := 26, slot := 0, constantValue := 0 }, { name := "COMPACT_STRINGS", type := .boolean, accessFlags := 24, slot := 1, constantValue := 0 }, { name := "serialPersistentFields", type := (.array (.object "java/io/ObjectStreamField")), accessFlags := 26, slot := 2, constantValue := 0 }, { name := "REPL", type := .char, accessFlags := 26, slot := 3, constantValue := 0 }, { name := "CASE_INSENSITIVE_ORDER", type := (.object "java/util/Comparator"), accessFlags := 25, slot := 4, constantValue := 0 }, { name := "LATIN1", type := .byte, accessFlags := 24, slot := 5, constantValue := 0 }, { name := "UTF16", type := .byte, accessFlags := 24, slot := 6, constantValue := 0 }]
  methods := #[k7m0, k7m1, k7m2, k7m3, k7m4, k7m5, k7m6, k7m7, k7m8, k7m9, k7m10, k7m11, k7m12, k7m13]
  instanceTypes := #[(.array .byte), .byte, .int, .boolean]
  staticTypes := #[.long, .boolean, (.array (.object "java/io/ObjectStreamField")), .char, (.object "java/util/Comparator"), .byte, .byte]
  resolved := Array.replicate 1451 none
  statics := some 0 }

def pool8 : Array CpInfo := pool [(1, .class_ 2), (0, u "java/lang/String"), (1, .class_ 6), (1, u "java/lang/Object"), (0, u "<init>"), (0, u "()V"), (0, .methodref 1 10), (0, .nameAndType 11 12), (0, u "checkIndex"), (0, u "(II)V"), (1, .class_ 16), (1, u "java/lang/StringLatin1"), (21, .methodref 39 40), (0, .class_ 41), (0, .nameAndType 42 43), (0, u "java/lang/Math"), (0, u "min"), (0, u "(II)I"), (9, u "([BI)C"), (34, .methodref 14 89), (0, .nameAndType 90 91), (0, u "canEncode"), (0, u "(I)Z"), (0, .methodref 39 93), (0, .nameAndType 94 43), (0, u "max"), (0, .methodref 14 96), (0, .nameAndType 97 98), (0, u "indexOfChar"), (0, u "([BIII)I"), (0, .methodref 14 100), (0, .nameAndType 101 102), (0, u "indexOf"), (0, u "([BI[BII)I"), (9, .methodref 1 113), (0, .nameAndType 7 114), (0, u "([BB)V"), (6, u "$assertionsDisabled"), (0, u "Z"), (8, .class_ 133), (1, u "java/util/Arrays"), (62, u "newString"), (0, u "([BII)Ljava/lang/String;"), (23, .class_ 223), (1, u "java/lang/StringLatin1$LinesSpliterator"), (8, .methodref 131 233), (0, .nameAndType 234 235), (0, u "copyOfRange"), (0, u "([BII)[B"), (16, u "charAt"), (34, u "([B[B)I"), (102, .class_ 391), (0, u "java/lang/StringLatin1$CharsSpliterator")] 3

def k8m0 : Method := { name := "<init>", desc := "()V", sig := { parameters := [], returnType := none }, accessFlags := 0, code := none }
def k8c1 : Code := { maxStack := 2, maxLocals := 2, code := jdk_43_method_2_code, exceptionTable := #[], attributes := #[] }
def k8m1 : Method := { name := "charAt", desc := "([BI)C", sig := { parameters := [(.array .byte), .int], returnType := some .char }, accessFlags := 9, code := some k8c1 }
def k8c2 : Code := { maxStack := 2, maxLocals := 1, code := jdk_43_method_4_code, exceptionTable := #[], attributes := #[] }
def k8m2 : Method := { name := "canEncode", desc := "(I)Z", sig := { parameters := [.int], returnType := some .boolean }, accessFlags := 9, code := some k8c2 }
def k8c3 : Code := { maxStack := 4, maxLocals := 4, code := jdk_43_method_22_code, exceptionTable := #[], attributes := #[] }
def k8m3 : Method := { name := "indexOf", desc := "([BIII)I", sig := { parameters := [(.array .byte), .int, .int, .int], returnType := some .int }, accessFlags := 9, code := some k8c3 }
def k8c4 : Code := { maxStack := 2, maxLocals := 6, code := jdk_43_method_23_code, exceptionTable := #[], attributes := #[] }
def k8m4 : Method := { name := "indexOfChar", desc := "([BIII)I", sig := { parameters := [(.array .byte), .int, .int, .int], returnType := some .int }, accessFlags := 10, code := some k8c4 }
def k8c5 : Code := { maxStack := 5, maxLocals := 2, code := jdk_43_method_24_code, exceptionTable := #[], attributes := #[] }
def k8m5 : Method := { name := "indexOf", desc := "([B[B)I", sig := { parameters := [(.array .byte), (.array .byte)], returnType := some .int }, accessFlags := 9, code := some k8c5 }
def k8c6 : Code := { maxStack := 3, maxLocals := 11, code := jdk_43_method_25_code, exceptionTable := #[], attributes := #[] }
def k8m6 : Method := { name := "indexOf", desc := "([BI[BII)I", sig := { parameters := [(.array .byte), .int, (.array .byte), .int, .int], returnType := some .int }, accessFlags := 9, code := some k8c6 }
def k8c7 : Code := { maxStack := 6, maxLocals := 3, code := jdk_43_method_47_code, exceptionTable := #[], attributes := #[] }
def k8m7 : Method := { name := "newString", desc := "([BII)Ljava/lang/String;", sig := { parameters := [(.array .byte), .int, .int], returnType := some (.object "java/lang/String") }, accessFlags := 9, code := some k8c7 }
/-- java/lang/StringLatin1 -/
def k8 : Class := { plain "java/lang/StringLatin1" (some 0) with
  accessFlags := 48
  interfaces := #[]
  cf := some (fileOf pool8 14 #[.nestMembers #[390, 221]] #[{ accessFlags := 0, nameIndex := 7, descriptorIndex := 8, attributes := #[] }, { accessFlags := 9, nameIndex := 252, descriptorIndex := 53, attributes := #[] }, { accessFlags := 9, nameIndex := 90, descriptorIndex := 91, attributes := #[] }, { accessFlags := 9, nameIndex := 101, descriptorIndex := 98, attributes := #[] }, { accessFlags := 10, nameIndex := 97, descriptorIndex := 98, attributes := #[] }, { accessFlags := 9, nameIndex := 101, descriptorIndex := 287, attributes := #[] }, { accessFlags := 9, nameIndex := 101, descriptorIndex := 102, attributes := #[] }, { accessFlags := 9, nameIndex := 196, descriptorIndex := 197, attributes := #[] }] 48 4 #[] #[{ accessFlags := 4120, nameIndex := 121, descriptorIndex := 122, attributes := #[] }])
  fields := #[{ name := "$assertionsDisabled", type := .boolean, accessFlags := 4120, slot := 0, constantValue := 0 }]
  methods := #[k8m0, k8m1, k8m2, k8m3, k8m4, k8m5, k8m6, k8m7]
  instanceTypes := #[]
  staticTypes := #[.boolean]
  resolved := Array.replicate 395 none
  statics := none }

def pool9 : Array CpInfo := pool [(2, .class_ 4), (1, u "java/lang/Object"), (0, u "<init>"), (0, u "()V"), (17, .class_ 26), (1, u "jdk/internal/util/Preconditions"), (6, u "checkIndex"), (13, u "checkFromToIndex"), (7, .class_ 56), (0, u "jdk/internal/util/Preconditions$4"), (57, .class_ 115), (0, u "jdk/internal/util/Preconditions$1"), (7, u "SIOOBE_FORMATTER"), (0, u "Ljava/util/function/BiFunction;"), (0, .class_ 126), (0, u "jdk/internal/util/Preconditions$2"), (3, u "AIOOBE_FORMATTER"), (0, .class_ 132), (0, u "jdk/internal/util/Preconditions$3"), (3, u "IOOBE_FORMATTER"), (41, u "(IILjava/util/function/BiFunction;)I"), (4, u "(IIILjava/util/function/BiFunction;)I")] 10

def k9m0 : Method := { name := "<init>", desc := "()V", sig := { parameters := [], returnType := none }, accessFlags := 1, code := none }
def k9c1 : Code := { maxStack := 3, maxLocals := 3, code := jdk_41_method_11_code, exceptionTable := #[], attributes := #[] }
def k9m1 : Method := { name := "checkIndex", desc := "(IILjava/util/function/BiFunction;)I", sig := { parameters := [.int, .int, (.object "java/util/function/BiFunction")], returnType := some .int }, accessFlags := 9, code := some k9c1 }
def k9c2 : Code := { maxStack := 4, maxLocals := 4, code := jdk_41_method_12_code, exceptionTable := #[], attributes := #[] }
def k9m2 : Method := { name := "checkFromToIndex", desc := "(IIILjava/util/function/BiFunction;)I", sig := { parameters := [.int, .int, .int, (.object "java/util/function/BiFunction")], returnType := some .int }, accessFlags := 9, code := some k9c2 }
/-- jdk/internal/util/Preconditions -/
def k9 : Class := { plain "jdk/internal/util/Preconditions" (some 0) with
  accessFlags := 33
  interfaces := #[]
  cf := some (fileOf pool9 24 #[.nestMembers #[55, 131, 125, 114]] #[{ accessFlags := 1, nameIndex := 5, descriptorIndex := 6, attributes := #[] }, { accessFlags := 9, nameIndex := 33, descriptorIndex := 178, attributes := #[] }, { accessFlags := 9, nameIndex := 47, descriptorIndex := 183, attributes := #[] }] 33 2 #[] #[{ accessFlags := 25, nameIndex := 123, descriptorIndex := 124, attributes := #[] }, { accessFlags := 25, nameIndex := 130, descriptorIndex := 124, attributes := #[] }, { accessFlags := 25, nameIndex := 136, descriptorIndex := 124, attributes := #[] }])
  fields := #[{ name := "SIOOBE_FORMATTER", type := (.object "java/util/function/BiFunction"), accessFlags := 25, slot := 0, constantValue := 0 }, { name := "AIOOBE_FORMATTER", type := (.object "java/util/function/BiFunction"), accessFlags := 25, slot := 1, constantValue := 0 }, { name := "IOOBE_FORMATTER", type := (.object "java/util/function/BiFunction"), accessFlags := 25, slot := 2, constantValue := 0 }]
  methods := #[k9m0, k9m1, k9m2]
  instanceTypes := #[]
  staticTypes := #[(.object "java/util/function/BiFunction"), (.object "java/util/function/BiFunction"), (.object "java/util/function/BiFunction")]
  resolved := Array.replicate 194 none
  statics := some 1 }

def pool10 : Array CpInfo := pool [(6, .class_ 8), (1, u "java/lang/Object"), (0, u "<init>"), (0, u "()V"), (1, .class_ 14), (1, u "java/lang/StringUTF16"), (31, u "$assertionsDisabled"), (0, u "Z"), (13, u "HI_BYTE_SHIFT"), (0, u "I"), (2, u "LO_BYTE_SHIFT"), (49, .methodref 12 116), (0, .nameAndType 117 118), (0, u "compress"), (0, u "([CI[BII)I"), (3, u "([CII)[B"), (138, u "coderFromArrayLen"), (0, u "([BI)B"), (106, .class_ 371), (1, u "java/lang/StringUTF16$LinesSpliterator"), (58, u "MAX_LENGTH"), (196, .class_ 628), (0, u "java/lang/StringUTF16$CodePointsSpliterator"), (0, .class_ 630), (0, u "java/lang/StringUTF16$CharsSpliterator")] 4

def k10m0 : Method := { name := "<init>", desc := "()V", sig := { parameters := [], returnType := none }, accessFlags := 0, code := none }
def k10c1 : Code := { maxStack := 2, maxLocals := 2, code := jdk_52_method_15_code, exceptionTable := #[], attributes := #[] }
def k10m1 : Method := { name := "coderFromArrayLen", desc := "([BI)B", sig := { parameters := [(.array .byte), .int], returnType := some .byte }, accessFlags := 8, code := some k10c1 }
def k10c2 : Code := { maxStack := 5, maxLocals := 6, code := jdk_52_method_16_code, exceptionTable := #[], attributes := #[] }
def k10m2 : Method := { name := "compress", desc := "([CII)[B", sig := { parameters := [(.array .char), .int, .int], returnType := some (.array .byte) }, accessFlags := 9, code := some k10c2 }
def k10c3 : Code := { maxStack := 3, maxLocals := 7, code := jdk_52_method_21_code, exceptionTable := #[], attributes := #[] }
def k10m3 : Method := { name := "compress", desc := "([CI[BII)I", sig := { parameters := [(.array .char), .int, (.array .byte), .int, .int], returnType := some .int }, accessFlags := 9, code := some k10c3 }
/-- java/lang/StringUTF16 -/
def k10 : Class := { plain "java/lang/StringUTF16" (some 0) with
  accessFlags := 48
  interfaces := #[]
  cf := some (fileOf pool10 12 #[.nestMembers #[627, 629, 369]] #[{ accessFlags := 0, nameIndex := 9, descriptorIndex := 10, attributes := #[] }, { accessFlags := 8, nameIndex := 261, descriptorIndex := 262, attributes := #[] }, { accessFlags := 9, nameIndex := 117, descriptorIndex := 122, attributes := #[] }, { accessFlags := 9, nameIndex := 117, descriptorIndex := 118, attributes := #[] }] 48 6 #[] #[{ accessFlags := 26, nameIndex := 61, descriptorIndex := 62, attributes := #[] }, { accessFlags := 26, nameIndex := 65, descriptorIndex := 62, attributes := #[] }, { accessFlags := 24, nameIndex := 430, descriptorIndex := 62, attributes := #[] }, { accessFlags := 4120, nameIndex := 46, descriptorIndex := 47, attributes := #[] }])
  fields := #[{ name := "HI_BYTE_SHIFT", type := .int, accessFlags := 26, slot := 0, constantValue := 0 }, { name := "LO_BYTE_SHIFT", type := .int, accessFlags := 26, slot := 1, constantValue := 0 }, { name := "MAX_LENGTH", type := .int, accessFlags := 24, slot := 2, constantValue := 0 }, { name := "$assertionsDisabled", type := .boolean, accessFlags := 4120, slot := 3, constantValue := 0 }]
  methods := #[k10m0, k10m1, k10m2, k10m3]
  instanceTypes := #[]
  staticTypes := #[.int, .int, .int, .boolean]
  resolved := Array.replicate 635 none
  statics := none }

def pool11 : Array CpInfo := pool [(1, .class_ 2), (0, u "com/example/lincra/lincra/UrlNormalizer"), (1, .class_ 6), (1, u "java/lang/Object"), (0, u "<init>"), (0, u "()V"), (3, u "(Ljava/lang/String;)Ljava/lang/String;"), (4, .class_ 19), (1, u "java/lang/String"), (0, u "indexOf"), (15, u "substring"), (27, .methodref 17 65), (0, .nameAndType 20 66), (0, u "(II)I"), (0, .methodref 17 68), (0, .nameAndType 36 69), (0, u "(I)Ljava/lang/String;"), (11, .string 82), (0, u "://"), (17, .methodref 17 101), (0, .nameAndType 20 102), (0, u "(Ljava/lang/String;)I"), (141, u "HEX_DIGITS"), (0, u "[C"), (28, u "UNRESERVED_PUNCTUATION"), (0, u "Ljava/lang/String;"), (1, u "SUB_DELIMITERS"), (2, u "PATH_OR_QUERY_PUNCTUATION"), (0, u "USER_INFO_PUNCTUATION"), (0, u "HOST_PUNCTUATION"), (0, u "NOT_AN_HTTP_URL"), (0, u "PATH_WITH_QUERY"), (0, u "UNREADABLE_IPV6_ADDRESS"), (0, u "UNREADABLE_HOST_NAME"), (7, u "pathAndQuery")] 27

def k11m0 : Method := { name := "<init>", desc := "()V", sig := { parameters := [], returnType := none }, accessFlags := 2, code := none }
def k11c1 : Code := { maxStack := 5, maxLocals := 1, code := prog_17_method_6_code, exceptionTable := #[], attributes := #[] }
def k11m1 : Method := { name := "pathAndQuery", desc := "(Ljava/lang/String;)Ljava/lang/String;", sig := { parameters := [(.object "java/lang/String")], returnType := some (.object "java/lang/String") }, accessFlags := 8, code := some k11c1 }
/-- com/example/lincra/lincra/UrlNormalizer -/
def k11 : Class := { plain "com/example/lincra/lincra/UrlNormalizer" (some 0) with
  accessFlags := 49
  interfaces := #[]
  cf := some (fileOf pool11 1 #[] #[{ accessFlags := 2, nameIndex := 7, descriptorIndex := 8, attributes := #[] }, { accessFlags := 8, nameIndex := 294, descriptorIndex := 12, attributes := #[] }] 49 4 #[] #[{ accessFlags := 26, nameIndex := 274, descriptorIndex := 275, attributes := #[] }, { accessFlags := 26, nameIndex := 277, descriptorIndex := 275, attributes := #[] }, { accessFlags := 26, nameIndex := 280, descriptorIndex := 275, attributes := #[] }, { accessFlags := 26, nameIndex := 281, descriptorIndex := 275, attributes := #[] }, { accessFlags := 26, nameIndex := 282, descriptorIndex := 275, attributes := #[] }, { accessFlags := 26, nameIndex := 283, descriptorIndex := 275, attributes := #[] }, { accessFlags := 26, nameIndex := 284, descriptorIndex := 275, attributes := #[] }, { accessFlags := 26, nameIndex := 285, descriptorIndex := 275, attributes := #[] }, { accessFlags := 26, nameIndex := 286, descriptorIndex := 275, attributes := #[] }, { accessFlags := 26, nameIndex := 244, descriptorIndex := 245, attributes := #[] }])
  fields := #[{ name := "UNRESERVED_PUNCTUATION", type := (.object "java/lang/String"), accessFlags := 26, slot := 0, constantValue := 0 }, { name := "SUB_DELIMITERS", type := (.object "java/lang/String"), accessFlags := 26, slot := 1, constantValue := 0 }, { name := "PATH_OR_QUERY_PUNCTUATION", type := (.object "java/lang/String"), accessFlags := 26, slot := 2, constantValue := 0 }, { name := "USER_INFO_PUNCTUATION", type := (.object "java/lang/String"), accessFlags := 26, slot := 3, constantValue := 0 }, { name := "HOST_PUNCTUATION", type := (.object "java/lang/String"), accessFlags := 26, slot := 4, constantValue := 0 }, { name := "NOT_AN_HTTP_URL", type := (.object "java/lang/String"), accessFlags := 26, slot := 5, constantValue := 0 }, { name := "PATH_WITH_QUERY", type := (.object "java/lang/String"), accessFlags := 26, slot := 6, constantValue := 0 }, { name := "UNREADABLE_IPV6_ADDRESS", type := (.object "java/lang/String"), accessFlags := 26, slot := 7, constantValue := 0 }, { name := "UNREADABLE_HOST_NAME", type := (.object "java/lang/String"), accessFlags := 26, slot := 8, constantValue := 0 }, { name := "HEX_DIGITS", type := (.array .char), accessFlags := 26, slot := 9, constantValue := 0 }]
  methods := #[k11m0, k11m1]
  instanceTypes := #[]
  staticTypes := #[(.object "java/lang/String"), (.object "java/lang/String"), (.object "java/lang/String"), (.object "java/lang/String"), (.object "java/lang/String"), (.object "java/lang/String"), (.object "java/lang/String"), (.object "java/lang/String"), (.object "java/lang/String"), (.array .char)]
  resolved := Array.replicate 322 none
  statics := none }

def pool12 : Array CpInfo := pool [(1, .class_ 2), (0, u "java/lang/Math"), (1, .class_ 6), (1, u "java/lang/Object"), (0, u "<init>"), (0, u "()V"), (89, .class_ 100), (1, u "java/lang/Math$RandomNumberGeneratorHolder"), (71, u "negativeZeroFloatBits"), (0, u "J"), (2, u "negativeZeroDoubleBits"), (21, u "max"), (2, u "min"), (43, u "$assertionsDisabled"), (0, u "Z"), (88, u "(II)I"), (2, u "twoToTheDoubleScaleDown"), (0, u "D"), (4, u "twoToTheDoubleScaleUp"), (9, u "E"), (3, u "PI"), (2, u "TAU"), (2, u "DEGREES_TO_RADIANS"), (0, u "RADIANS_TO_DEGREES")] 94

def k12m0 : Method := { name := "<init>", desc := "()V", sig := { parameters := [], returnType := none }, accessFlags := 2, code := none }
def k12c1 : Code := { maxStack := 2, maxLocals := 2, code := jdk_29_method_65_code, exceptionTable := #[], attributes := #[] }
def k12m1 : Method := { name := "max", desc := "(II)I", sig := { parameters := [.int, .int], returnType := some .int }, accessFlags := 9, code := some k12c1 }
def k12c2 : Code := { maxStack := 2, maxLocals := 2, code := jdk_29_method_69_code, exceptionTable := #[], attributes := #[] }
def k12m2 : Method := { name := "min", desc := "(II)I", sig := { parameters := [.int, .int], returnType := some .int }, accessFlags := 9, code := some k12c2 }
/-- java/lang/Math -/
def k12 : Class := { plain "java/lang/Math" (some 0) with
  accessFlags := 49
  interfaces := #[]
  cf := some (fileOf pool12 1 #[.nestMembers #[98]] #[{ accessFlags := 2, nameIndex := 7, descriptorIndex := 8, attributes := #[] }, { accessFlags := 9, nameIndex := 198, descriptorIndex := 335, attributes := #[] }, { accessFlags := 9, nameIndex := 201, descriptorIndex := 335, attributes := #[] }] 49 4 #[] #[{ accessFlags := 25, nameIndex := 354, descriptorIndex := 339, attributes := #[] }, { accessFlags := 25, nameIndex := 358, descriptorIndex := 339, attributes := #[] }, { accessFlags := 25, nameIndex := 361, descriptorIndex := 339, attributes := #[] }, { accessFlags := 26, nameIndex := 364, descriptorIndex := 339, attributes := #[] }, { accessFlags := 26, nameIndex := 365, descriptorIndex := 339, attributes := #[] }, { accessFlags := 26, nameIndex := 172, descriptorIndex := 173, attributes := #[] }, { accessFlags := 26, nameIndex := 176, descriptorIndex := 173, attributes := #[] }, { accessFlags := 8, nameIndex := 344, descriptorIndex := 339, attributes := #[] }, { accessFlags := 8, nameIndex := 338, descriptorIndex := 339, attributes := #[] }, { accessFlags := 4120, nameIndex := 245, descriptorIndex := 246, attributes := #[] }])
  fields := #[{ name := "E", type := .double, accessFlags := 25, slot := 0, constantValue := 0 }, { name := "PI", type := .double, accessFlags := 25, slot := 1, constantValue := 0 }, { name := "TAU", type := .double, accessFlags := 25, slot := 2, constantValue := 0 }, { name := "DEGREES_TO_RADIANS", type := .double, accessFlags := 26, slot := 3, constantValue := 0 }, { name := "RADIANS_TO_DEGREES", type := .double, accessFlags := 26, slot := 4, constantValue := 0 }, { name := "negativeZeroFloatBits", type := .long, accessFlags := 26, slot := 5, constantValue := 0 }, { name := "negativeZeroDoubleBits", type := .long, accessFlags := 26, slot := 6, constantValue := 0 }, { name := "twoToTheDoubleScaleUp", type := .double, accessFlags := 8, slot := 7, constantValue := 0 }, { name := "twoToTheDoubleScaleDown", type := .double, accessFlags := 8, slot := 8, constantValue := 0 }, { name := "$assertionsDisabled", type := .boolean, accessFlags := 4120, slot := 9, constantValue := 0 }]
  methods := #[k12m0, k12m1, k12m2]
  instanceTypes := #[]
  staticTypes := #[.double, .double, .double, .double, .double, .long, .long, .double, .double, .boolean]
  resolved := Array.replicate 460 none
  statics := none }

def pool13 : Array CpInfo := pool [(2, .class_ 4), (1, u "java/lang/Object"), (0, u "<init>"), (0, u "()V"), (7, .class_ 16), (1, u "java/util/Arrays"), (57, .class_ 76), (1, u "java/util/Arrays$NaturalOrder"), (36, .class_ 115), (1, u "java/util/Arrays$LegacyMergeSort"), (1, u "Z"), (21, u "copyOfRange"), (10, .methodref 151 152), (0, .class_ 153), (0, .nameAndType 154 155), (0, u "java/lang/System"), (0, u "arraycopy"), (0, u "(Ljava/lang/Object;ILjava/lang/Object;II)V"), (148, .methodref 305 306), (0, .class_ 307), (0, .nameAndType 308 309), (0, u "java/lang/Math"), (0, u "min"), (0, u "(II)I"), (29, .methodref 14 340), (0, .nameAndType 341 342), (0, u "copyOfRangeByte"), (0, u "([BII)[B"), (0, .methodref 14 344), (0, .nameAndType 345 346), (0, u "checkLength"), (0, u "(II)V"), (28, .class_ 376), (0, u "java/util/Arrays$ArrayList"), (68, u "$assertionsDisabled"), (269, u "MIN_ARRAY_SORT_GRAN"), (0, u "I"), (2, u "INSERTIONSORT_THRESHOLD"), (255, .class_ 976), (0, u "java/util/Arrays$ArrayItr")] 52

def k13m0 : Method := { name := "<init>", desc := "()V", sig := { parameters := [], returnType := none }, accessFlags := 2, code := none }
def k13c1 : Code := { maxStack := 4, maxLocals := 2, code := jdk_65_method_131_code, exceptionTable := #[], attributes := #[] }
def k13m1 : Method := { name := "checkLength", desc := "(II)V", sig := { parameters := [.int, .int], returnType := none }, accessFlags := 10, code := some k13c1 }
def k13c2 : Code := { maxStack := 3, maxLocals := 3, code := jdk_65_method_132_code, exceptionTable := #[], attributes := #[] }
def k13m2 : Method := { name := "copyOfRange", desc := "([BII)[B", sig := { parameters := [(.array .byte), .int, .int], returnType := some (.array .byte) }, accessFlags := 9, code := some k13c2 }
def k13c3 : Code := { maxStack := 6, maxLocals := 5, code := jdk_65_method_133_code, exceptionTable := #[], attributes := #[] }
def k13m3 : Method := { name := "copyOfRangeByte", desc := "([BII)[B", sig := { parameters := [(.array .byte), .int, .int], returnType := some (.array .byte) }, accessFlags := 10, code := some k13c3 }
/-- java/util/Arrays -/
def k13 : Class := { plain "java/util/Arrays" (some 0) with
  accessFlags := 49
  interfaces := #[]
  cf := some (fileOf pool13 14 #[.nestMembers #[975, 375, 113, 74]] #[{ accessFlags := 2, nameIndex := 5, descriptorIndex := 6, attributes := #[] }, { accessFlags := 10, nameIndex := 345, descriptorIndex := 346, attributes := #[] }, { accessFlags := 9, nameIndex := 139, descriptorIndex := 342, attributes := #[] }, { accessFlags := 10, nameIndex := 341, descriptorIndex := 342, attributes := #[] }] 49 2 #[] #[{ accessFlags := 26, nameIndex := 715, descriptorIndex := 716, attributes := #[] }, { accessFlags := 26, nameIndex := 719, descriptorIndex := 716, attributes := #[] }, { accessFlags := 4120, nameIndex := 445, descriptorIndex := 117, attributes := #[] }])
  fields := #[{ name := "MIN_ARRAY_SORT_GRAN", type := .int, accessFlags := 26, slot := 0, constantValue := 0 }, { name := "INSERTIONSORT_THRESHOLD", type := .int, accessFlags := 26, slot := 1, constantValue := 0 }, { name := "$assertionsDisabled", type := .boolean, accessFlags := 4120, slot := 2, constantValue := 0 }]
  methods := #[k13m0, k13m1, k13m2, k13m3]
  instanceTypes := #[]
  staticTypes := #[.int, .int, .boolean]
  resolved := Array.replicate 1029 none
  statics := none }

def pool14 : Array CpInfo := pool [(2, .class_ 4), (1, u "java/lang/Object"), (0, u "<init>"), (0, u "()V"), (1, .class_ 10), (1, u "java/lang/System"), (0, u "allowSecurityManager"), (0, u "I"), (16, u "cons"), (0, u "Ljava/io/Console;"), (77, .class_ 110), (1, u "java/lang/System$CallersHolder"), (43, u "initialErrStream"), (0, u "Ljava/io/PrintStream;"), (19, u "security"), (0, u "Ljava/lang/SecurityManager;"), (31, .class_ 209), (0, u "java/lang/System$1"), (7, u "props"), (0, u "Ljava/util/Properties;"), (2, u "lineSeparator"), (0, u "Ljava/lang/String;"), (96, .class_ 321), (1, u "java/lang/System$LoggerFinder"), (5, .class_ 328), (0, u "java/lang/System$Logger"), (67, u "err"), (2, u "out"), (91, u "notSupportedJnuEncoding"), (15, u "in"), (17, u "initialIn"), (0, u "Ljava/io/InputStream;"), (35, u "bootLayer"), (0, u "Ljava/lang/ModuleLayer;"), (99, .class_ 664), (0, u "java/lang/System$2"), (9, u "NEVER"), (2, u "MAYBE"), (49, u "arraycopy"), (0, u "(Ljava/lang/Object;ILjava/lang/Object;II)V"), (72, .class_ 802), (0, u "java/lang/System$Logger$Level")] 31

def k14m0 : Method := { name := "<init>", desc := "()V", sig := { parameters := [], returnType := none }, accessFlags := 2, code := none }
def k14m1 : Method := { name := "arraycopy", desc := "(Ljava/lang/Object;ILjava/lang/Object;II)V", sig := { parameters := [(.object "java/lang/Object"), .int, (.object "java/lang/Object"), .int, .int], returnType := none }, accessFlags := 265, code := none }
/-- java/lang/System -/
def k14 : Class := { plain "java/lang/System" (some 0) with
  accessFlags := 49
  interfaces := #[]
  cf := some (fileOf pool14 8 #[.nestMembers #[319, 327, 801, 108, 663, 208]] #[{ accessFlags := 2, nameIndex := 5, descriptorIndex := 6, attributes := #[] }, { accessFlags := 265, nameIndex := 727, descriptorIndex := 728, attributes := #[] }] 49 2 #[] #[{ accessFlags := 25, nameIndex := 507, descriptorIndex := 526, attributes := #[] }, { accessFlags := 25, nameIndex := 399, descriptorIndex := 155, attributes := #[] }, { accessFlags := 25, nameIndex := 396, descriptorIndex := 155, attributes := #[] }, { accessFlags := 10, nameIndex := 525, descriptorIndex := 526, attributes := #[] }, { accessFlags := 26, nameIndex := 674, descriptorIndex := 12, attributes := #[] }, { accessFlags := 26, nameIndex := 677, descriptorIndex := 12, attributes := #[] }, { accessFlags := 10, nameIndex := 11, descriptorIndex := 12, attributes := #[] }, { accessFlags := 74, nameIndex := 175, descriptorIndex := 176, attributes := #[] }, { accessFlags := 10, nameIndex := 491, descriptorIndex := 222, attributes := #[] }, { accessFlags := 74, nameIndex := 29, descriptorIndex := 30, attributes := #[] }, { accessFlags := 74, nameIndex := 154, descriptorIndex := 155, attributes := #[] }, { accessFlags := 10, nameIndex := 217, descriptorIndex := 218, attributes := #[] }, { accessFlags := 10, nameIndex := 221, descriptorIndex := 222, attributes := #[] }, { accessFlags := 8, nameIndex := 562, descriptorIndex := 563, attributes := #[] }])
  fields := #[{ name := "in", type := (.object "java/io/InputStream"), accessFlags := 25, slot := 0, constantValue := 0 }, { name := "out", type := (.object "java/io/PrintStream"), accessFlags := 25, slot := 1, constantValue := 0 }, { name := "err", type := (.object "java/io/PrintStream"), accessFlags := 25, slot := 2, constantValue := 0 }, { name := "initialIn", type := (.object "java/io/InputStream"), accessFlags := 10, slot := 3, constantValue := 0 }, { name := "NEVER", type := .int, accessFlags := 26, slot := 4, constantValue := 0 }, { name := "MAYBE", type := .int, accessFlags := 26, slot := 5, constantValue := 0 }, { name := "allowSecurityManager", type := .int, accessFlags := 10, slot := 6, constantValue := 0 }, { name := "security", type := (.object "java/lang/SecurityManager"), accessFlags := 74, slot := 7, constantValue := 0 }, { name := "notSupportedJnuEncoding", type := (.object "java/lang/String"), accessFlags := 10, slot := 8, constantValue := 0 }, { name := "cons", type := (.object "java/io/Console"), accessFlags := 74, slot := 9, constantValue := 0 }, { name := "initialErrStream", type := (.object "java/io/PrintStream"), accessFlags := 74, slot := 10, constantValue := 0 }, { name := "props", type := (.object "java/util/Properties"), accessFlags := 10, slot := 11, constantValue := 0 }, { name := "lineSeparator", type := (.object "java/lang/String"), accessFlags := 10, slot := 12, constantValue := 0 }, { name := "bootLayer", type := (.object "java/lang/ModuleLayer"), accessFlags := 8, slot := 13, constantValue := 0 }]
  methods := #[k14m0, k14m1]
  instanceTypes := #[]
  staticTypes := #[(.object "java/io/InputStream"), (.object "java/io/PrintStream"), (.object "java/io/PrintStream"), (.object "java/io/InputStream"), .int, .int, .int, (.object "java/lang/SecurityManager"), (.object "java/lang/String"), (.object "java/io/Console"), (.object "java/io/PrintStream"), (.object "java/util/Properties"), (.object "java/lang/String"), (.object "java/lang/ModuleLayer")]
  resolved := Array.replicate 834 none
  statics := none }

def pool15 : Array CpInfo := pool [(9, u "<init>"), (6, .class_ 18), (1, u "java/lang/Object"), (0, u "()V"), (1, .class_ 23), (1, u "jdk/internal/util/ArraysSupport"), (0, u "LOG2_ARRAY_LONG_INDEX_SCALE"), (0, u "I"), (2, u "U"), (0, u "Ljdk/internal/misc/Unsafe;"), (8, u "BIG_ENDIAN"), (0, u "Z"), (8, u "LOG2_BYTE_BIT_SIZE"), (4, u "LOG2_ARRAY_INT_INDEX_SCALE"), (54, u "JLA"), (0, u "Ljdk/internal/access/JavaLangAccess;"), (11, u "LOG2_ARRAY_BOOLEAN_INDEX_SCALE"), (9, u "LOG2_ARRAY_BYTE_INDEX_SCALE"), (5, u "LOG2_ARRAY_CHAR_INDEX_SCALE"), (5, u "LOG2_ARRAY_SHORT_INDEX_SCALE"), (18, u "LOG2_ARRAY_FLOAT_INDEX_SCALE"), (24, u "LOG2_ARRAY_DOUBLE_INDEX_SCALE"), (89, u "T_BOOLEAN"), (2, u "T_CHAR"), (1, u "T_FLOAT"), (1, u "T_DOUBLE"), (1, u "T_BYTE"), (1, u "T_SHORT"), (1, u "T_INT"), (1, u "T_LONG"), (1, u "SOFT_MAX_ARRAY_LENGTH")] 83

def k15m0 : Method := { name := "<init>", desc := "()V", sig := { parameters := [], returnType := none }, accessFlags := 2, code := none }
/-- jdk/internal/util/ArraysSupport -/
def k15 : Class := { plain "jdk/internal/util/ArraysSupport" (some 0) with
  accessFlags := 33
  interfaces := #[]
  cf := some (fileOf pool15 21 #[] #[{ accessFlags := 2, nameIndex := 9, descriptorIndex := 19, attributes := #[] }] 33 16 #[] #[{ accessFlags := 24, nameIndex := 28, descriptorIndex := 29, attributes := #[] }, { accessFlags := 26, nameIndex := 38, descriptorIndex := 39, attributes := #[] }, { accessFlags := 25, nameIndex := 121, descriptorIndex := 25, attributes := #[] }, { accessFlags := 25, nameIndex := 131, descriptorIndex := 25, attributes := #[] }, { accessFlags := 25, nameIndex := 137, descriptorIndex := 25, attributes := #[] }, { accessFlags := 25, nameIndex := 143, descriptorIndex := 25, attributes := #[] }, { accessFlags := 25, nameIndex := 53, descriptorIndex := 25, attributes := #[] }, { accessFlags := 25, nameIndex := 24, descriptorIndex := 25, attributes := #[] }, { accessFlags := 25, nameIndex := 162, descriptorIndex := 25, attributes := #[] }, { accessFlags := 25, nameIndex := 187, descriptorIndex := 25, attributes := #[] }, { accessFlags := 26, nameIndex := 48, descriptorIndex := 25, attributes := #[] }, { accessFlags := 25, nameIndex := 277, descriptorIndex := 25, attributes := #[] }, { accessFlags := 25, nameIndex := 280, descriptorIndex := 25, attributes := #[] }, { accessFlags := 25, nameIndex := 282, descriptorIndex := 25, attributes := #[] }, { accessFlags := 25, nameIndex := 284, descriptorIndex := 25, attributes := #[] }, { accessFlags := 25, nameIndex := 286, descriptorIndex := 25, attributes := #[] }, { accessFlags := 25, nameIndex := 288, descriptorIndex := 25, attributes := #[] }, { accessFlags := 25, nameIndex := 290, descriptorIndex := 25, attributes := #[] }, { accessFlags := 25, nameIndex := 292, descriptorIndex := 25, attributes := #[] }, { accessFlags := 26, nameIndex := 108, descriptorIndex := 109, attributes := #[] }, { accessFlags := 25, nameIndex := 294, descriptorIndex := 25, attributes := #[] }])
  fields := #[{ name := "U", type := (.object "jdk/internal/misc/Unsafe"), accessFlags := 24, slot := 0, constantValue := 0 }, { name := "BIG_ENDIAN", type := .boolean, accessFlags := 26, slot := 1, constantValue := 0 }, { name := "LOG2_ARRAY_BOOLEAN_INDEX_SCALE", type := .int, accessFlags := 25, slot := 2, constantValue := 0 }, { name := "LOG2_ARRAY_BYTE_INDEX_SCALE", type := .int, accessFlags := 25, slot := 3, constantValue := 0 }, { name := "LOG2_ARRAY_CHAR_INDEX_SCALE", type := .int, accessFlags := 25, slot := 4, constantValue := 0 }, { name := "LOG2_ARRAY_SHORT_INDEX_SCALE", type := .int, accessFlags := 25, slot := 5, constantValue := 0 }, { name := "LOG2_ARRAY_INT_INDEX_SCALE", type := .int, accessFlags := 25, slot := 6, constantValue := 0 }, { name := "LOG2_ARRAY_LONG_INDEX_SCALE", type := .int, accessFlags := 25, slot := 7, constantValue := 0 }, { name := "LOG2_ARRAY_FLOAT_INDEX_SCALE", type := .int, accessFlags := 25, slot := 8, constantValue := 0 }, { name := "LOG2_ARRAY_DOUBLE_INDEX_SCALE", type := .int, accessFlags := 25, slot := 9, constantValue := 0 }, { name := "LOG2_BYTE_BIT_SIZE", type := .int, accessFlags := 26, slot := 10, constantValue := 0 }, { name := "T_BOOLEAN", type := .int, accessFlags := 25, slot := 11, constantValue := 0 }, { name := "T_CHAR", type := .int, accessFlags := 25, slot := 12, constantValue := 0 }, { name := "T_FLOAT", type := .int, accessFlags := 25, slot := 13, constantValue := 0 }, { name := "T_DOUBLE", type := .int, accessFlags := 25, slot := 14, constantValue := 0 }, { name := "T_BYTE", type := .int, accessFlags := 25, slot := 15, constantValue := 0 }, { name := "T_SHORT", type := .int, accessFlags := 25, slot := 16, constantValue := 0 }, { name := "T_INT", type := .int, accessFlags := 25, slot := 17, constantValue := 0 }, { name := "T_LONG", type := .int, accessFlags := 25, slot := 18, constantValue := 0 }, { name := "JLA", type := (.object "jdk/internal/access/JavaLangAccess"), accessFlags := 26, slot := 19, constantValue := 0 }, { name := "SOFT_MAX_ARRAY_LENGTH", type := .int, accessFlags := 25, slot := 20, constantValue := 0 }]
  methods := #[k15m0]
  instanceTypes := #[]
  staticTypes := #[(.object "jdk/internal/misc/Unsafe"), .boolean, .int, .int, .int, .int, .int, .int, .int, .int, .int, .int, .int, .int, .int, .int, .int, .int, .int, (.object "jdk/internal/access/JavaLangAccess"), .int]
  resolved := Array.replicate 378 none
  statics := none }

def pool16 : Array CpInfo := pool [(1, u "java/lang/Cloneable"), (0, .class_ 1), (0, u "java/lang/Object"), (0, .class_ 3)] 3

/-- java/lang/Cloneable -/
def k16 : Class := { plain "java/lang/Cloneable" (some 0) with
  accessFlags := 1537
  interfaces := #[]
  cf := some (fileOf pool16 2 #[] #[] 1537 4 #[] #[])
  fields := #[]
  methods := #[]
  instanceTypes := #[]
  staticTypes := #[]
  resolved := Array.replicate 8 none
  statics := none }

/-- the primitive byte -/
def k17 : Class := { plain "byte" none with kind := .primitive 'B', accessFlags := 0x411 }
/-- [B -/
def k18 : Class := { plain "[B" (some 0) with kind := .array 17 .byte, interfaces := #[16, 2], accessFlags := 1041 }

/-- the primitive char -/
def k19 : Class := { plain "char" none with kind := .primitive 'C', accessFlags := 0x411 }
/-- [C -/
def k20 : Class := { plain "[C" (some 0) with kind := .array 19 .char, interfaces := #[16, 2], accessFlags := 1041 }

/-- the primitive int -/
def k21 : Class := { plain "int" none with kind := .primitive 'I', accessFlags := 0x411 }
/-- [I -/
def k22 : Class := { plain "[I" (some 0) with kind := .array 21 .int, interfaces := #[16, 2], accessFlags := 1041 }

def heap : Heap := #[{ cls := 7, slots := #[.long 0, .int 1, .null, .int 0, .null, .int 0, .int 0], vm := .statics 7 },
  { cls := 9, slots := #[.null, .null, .null], vm := .statics 9 }]
def classes : Array Class := #[k0, k1, k2, k3, k4, k5, k6, k7, k8, k9, k10, k11, k12, k13, k14, k15, k16, k17, k18, k19, k20, k21, k22]
def interned : List (Array UInt16 × Addr) := []
def slotsUsed : Nat := 10
def theMethod : MethodId := ⟨1, 4⟩
def args0 : Array Value := #[.int 5, .int 1234, .int 777]
def aboutOver (below : List Frame) : State where
  vm := { classes := classes, interned := interned.toArray }
  heap := heap
  slotsUsed := slotsUsed
  threads := #[{ frames := .invoking theMethod args0 :: below }]
def below0 : List Frame := [.native { method := ⟨0, 0⟩, args := #[] }]
def about1 : State := aboutOver below0
def p0 : Program := .bare "" "" ""
def e0 : Env := launch0.env 0 0 0
theorem w_frames : about1.frames = Frame.invoking theMethod args0 :: below0 := rfl
set_option maxRecDepth 65536 in
theorem w_args : argsFit about1.vm theMethod args0 = true := by decide +kernel
set_option maxRecDepth 65536 in
theorem w_heap : heapFits about1 = true := by decide +kernel
set_option maxRecDepth 65536 in
theorem w_runnable : about1.curStatus? = some .runnable := by decide +kernel
set_option maxRecDepth 65536 in
theorem w_alone : about1.alone = true := by decide +kernel
set_option maxRecDepth 65536 in
theorem w_named : about1.methodNamed? x = some theMethod := by decide +kernel
set_option maxRecDepth 65536 in
theorem w_hears : about1.hears theMethod below0 = true := by decide +kernel
set_option maxRecDepth 65536 in
theorem w_ripe : about1.ripe theMethod args0 below0 = true := by decide +kernel
theorem w_running : about1.status = .running := rfl
set_option maxRecDepth 65536 in
theorem w_room : about1.hasRoom e0.platform room_1 = true :=
  launch0.hasRoom_least _ room_1 (by decide +kernel) (by decide +kernel) (by decide +kernel) (by decide +kernel) (by decide +kernel) (by decide +kernel)
theorem allAtoms_all (ts : List Jvm.Cond) (a : Array Jvm.Value) (st : Jvm.State) : (allAtoms ts).before a st = ts.all (fun c => c.before a st) := by
  induction ts with
  | nil => rfl
  | cons c t ih =>
    show (Jvm.Cond.and c (allAtoms t)).before a st = _
    rw [Jvm.Cond.before_and, ih, List.all_cons]
def words1 : List Jvm.Cond := Jvm.Cond.code x code maxLocals ret :: tables_1
/-- a 'code' word, met by the world's own term for the bytes: nothing is compared byte by byte -/
theorem code_word {y : MethodName} {bytes : ByteArray} {mx : Nat} {rt : Option FieldType} {a : Array Value} {s : State} {m : MethodId} {meth : Method} {c : Code} (h1 : s.methodNamed? y = some m) (h2 : s.vm.method? m = some meth) (h3 : meth.code = some c) (h4 : c.code = bytes)
    (h5 : (c.maxLocals == mx && c.exceptionTable.isEmpty && decide (c.maxStack ≤ mostOperands) && decide (meth.sig.returnType = rt) && !meth.locks && decide (parseMethodDescriptor y.desc = some meth.sig)) = true) : (Jvm.Cond.code y bytes mx rt).before a s = true := by
  simp only [Bool.and_eq_true, beq_iff_eq, Bool.not_eq_true', decide_eq_true_eq] at h5
  obtain ⟨⟨⟨⟨⟨g1, g2⟩, g3⟩, g4⟩, g5⟩, g6⟩ := h5
  simp [Cond.before, Cond.holds, Cond.value, h1, h2, h3, h4, g1, g2, g3, g4, g5, g6]
def isCode : Jvm.Cond → Bool
  | .code _ _ _ _ => true
  | _ => false
theorem all_split {L : List Jvm.Cond} {P : Jvm.Cond → Bool} (h1 : L.all (fun c => isCode c || P c) = true) (h2 : ∀ c ∈ L.filter isCode, P c = true) : L.all P = true := by
  refine List.all_eq_true.mpr fun c hc => ?_
  have h := List.all_eq_true.mp h1 c hc
  rcases Bool.eq_false_or_eq_true (isCode c) with hi | hi
  · exact h2 c (List.mem_filter.mpr ⟨hc, hi⟩)
  · simpa [hi] using h
set_option maxRecDepth 65536 in
theorem w_c0 : (Jvm.Cond.code x code maxLocals ret).before args0 about1 = true := code_word (m := ⟨1, 4⟩) (meth := k1m4) (c := k1c4) (by decide +kernel) rfl rfl rfl (by decide +kernel)
set_option maxRecDepth 65536 in
theorem w_c1 : (Jvm.Cond.code ({ cls := "com/example/lincra/lincra/UrlNormalizerPathAndQueryPinLaw", name := "at", desc := "(IIIII)C" } : Jvm.MethodName) method_4_code (5 : Nat) (Option.some Jvm.ClassFile.FieldType.char)).before args0 about1 = true := code_word (m := ⟨1, 3⟩) (meth := k1m3) (c := k1c3) (by decide +kernel) rfl rfl rfl (by decide +kernel)
set_option maxRecDepth 65536 in
theorem w_c2 : (Jvm.Cond.code ({ cls := "java/lang/String", name := "charAt", desc := "(I)C" } : Jvm.MethodName) jdk_42_method_56_code (2 : Nat) (Option.some Jvm.ClassFile.FieldType.char)).before args0 about1 = true := code_word (m := ⟨7, 3⟩) (meth := k7m3) (c := k7c3) (by decide +kernel) rfl rfl rfl (by decide +kernel)
set_option maxRecDepth 65536 in
theorem w_c3 : (Jvm.Cond.code ({ cls := "java/lang/String", name := "isLatin1", desc := "()Z" } : Jvm.MethodName) jdk_42_method_154_code (1 : Nat) (Option.some Jvm.ClassFile.FieldType.boolean)).before args0 about1 = true := code_word (m := ⟨7, 11⟩) (meth := k7m11) (c := k7c11) (by decide +kernel) rfl rfl rfl (by decide +kernel)
set_option maxRecDepth 65536 in
theorem w_c4 : (Jvm.Cond.code ({ cls := "java/lang/StringLatin1", name := "charAt", desc := "([BI)C" } : Jvm.MethodName) jdk_43_method_2_code (2 : Nat) (Option.some Jvm.ClassFile.FieldType.char)).before args0 about1 = true := code_word (m := ⟨8, 1⟩) (meth := k8m1) (c := k8c1) (by decide +kernel) rfl rfl rfl (by decide +kernel)
set_option maxRecDepth 65536 in
theorem w_c5 : (Jvm.Cond.code ({ cls := "java/lang/String", name := "checkIndex", desc := "(II)V" } : Jvm.MethodName) jdk_42_method_155_code (2 : Nat) (Option.none : Option Jvm.ClassFile.FieldType)).before args0 about1 = true := code_word (m := ⟨7, 12⟩) (meth := k7m12) (c := k7c12) (by decide +kernel) rfl rfl rfl (by decide +kernel)
set_option maxRecDepth 65536 in
theorem w_c6 : (Jvm.Cond.code ({ cls := "jdk/internal/util/Preconditions", name := "checkIndex", desc := "(IILjava/util/function/BiFunction;)I" } : Jvm.MethodName) jdk_41_method_11_code (3 : Nat) (Option.some Jvm.ClassFile.FieldType.int)).before args0 about1 = true := code_word (m := ⟨9, 1⟩) (meth := k9m1) (c := k9c1) (by decide +kernel) rfl rfl rfl (by decide +kernel)
set_option maxRecDepth 65536 in
theorem w_c7 : (Jvm.Cond.code ({ cls := "com/example/lincra/lincra/UrlNormalizerPathAndQueryPinLaw", name := "hostChar", desc := "(II)C" } : Jvm.MethodName) method_2_code (2 : Nat) (Option.some Jvm.ClassFile.FieldType.char)).before args0 about1 = true := code_word (m := ⟨1, 1⟩) (meth := k1m1) (c := k1c1) (by decide +kernel) rfl rfl rfl (by decide +kernel)
set_option maxRecDepth 65536 in
theorem w_c8 : (Jvm.Cond.code ({ cls := "java/lang/String", name := "length", desc := "()I" } : Jvm.MethodName) jdk_42_method_54_code (1 : Nat) (Option.some Jvm.ClassFile.FieldType.int)).before args0 about1 = true := code_word (m := ⟨7, 2⟩) (meth := k7m2) (c := k7c2) (by decide +kernel) rfl rfl rfl (by decide +kernel)
set_option maxRecDepth 65536 in
theorem w_c9 : (Jvm.Cond.code ({ cls := "java/lang/String", name := "coder", desc := "()B" } : Jvm.MethodName) jdk_42_method_152_code (1 : Nat) (Option.some Jvm.ClassFile.FieldType.byte)).before args0 about1 = true := code_word (m := ⟨7, 10⟩) (meth := k7m10) (c := k7c10) (by decide +kernel) rfl rfl rfl (by decide +kernel)
set_option maxRecDepth 65536 in
theorem w_c10 : (Jvm.Cond.code ({ cls := "java/lang/String", name := "<init>", desc := "([C)V" } : Jvm.MethodName) jdk_42_method_3_code (2 : Nat) (Option.none : Option Jvm.ClassFile.FieldType)).before args0 about1 = true := code_word (m := ⟨7, 1⟩) (meth := k7m1) (c := k7c1) (by decide +kernel) rfl rfl rfl (by decide +kernel)
set_option maxRecDepth 65536 in
theorem w_c11 : (Jvm.Cond.code ({ cls := "java/lang/String", name := "<init>", desc := "([CIILjava/lang/Void;)V" } : Jvm.MethodName) jdk_42_method_149_code (6 : Nat) (Option.none : Option Jvm.ClassFile.FieldType)).before args0 about1 = true := code_word (m := ⟨7, 8⟩) (meth := k7m8) (c := k7c8) (by decide +kernel) rfl rfl rfl (by decide +kernel)
set_option maxRecDepth 65536 in
theorem w_c12 : (Jvm.Cond.code ({ cls := "java/lang/Object", name := "<init>", desc := "()V" } : Jvm.MethodName) object_method_1_code (1 : Nat) (Option.none : Option Jvm.ClassFile.FieldType)).before args0 about1 = true := code_word (m := ⟨0, 0⟩) (meth := k0m0) (c := k0c0) (by decide +kernel) rfl rfl rfl (by decide +kernel)
set_option maxRecDepth 65536 in
theorem w_c13 : (Jvm.Cond.code ({ cls := "java/lang/StringUTF16", name := "compress", desc := "([CII)[B" } : Jvm.MethodName) jdk_52_method_16_code (6 : Nat) (Option.some (Jvm.ClassFile.FieldType.array Jvm.ClassFile.FieldType.byte))).before args0 about1 = true := code_word (m := ⟨10, 2⟩) (meth := k10m2) (c := k10c2) (by decide +kernel) rfl rfl rfl (by decide +kernel)
set_option maxRecDepth 65536 in
theorem w_c14 : (Jvm.Cond.code ({ cls := "java/lang/StringUTF16", name := "compress", desc := "([CI[BII)I" } : Jvm.MethodName) jdk_52_method_21_code (7 : Nat) (Option.some Jvm.ClassFile.FieldType.int)).before args0 about1 = true := code_word (m := ⟨10, 3⟩) (meth := k10m3) (c := k10c3) (by decide +kernel) rfl rfl rfl (by decide +kernel)
set_option maxRecDepth 65536 in
theorem w_c15 : (Jvm.Cond.code ({ cls := "java/lang/StringUTF16", name := "coderFromArrayLen", desc := "([BI)B" } : Jvm.MethodName) jdk_52_method_15_code (2 : Nat) (Option.some Jvm.ClassFile.FieldType.byte)).before args0 about1 = true := code_word (m := ⟨10, 1⟩) (meth := k10m1) (c := k10c1) (by decide +kernel) rfl rfl rfl (by decide +kernel)
set_option maxRecDepth 65536 in
theorem w_c16 : (Jvm.Cond.code ({ cls := "com/example/lincra/lincra/UrlNormalizer", name := "pathAndQuery", desc := "(Ljava/lang/String;)Ljava/lang/String;" } : Jvm.MethodName) prog_17_method_6_code (1 : Nat) (Option.some (Jvm.ClassFile.FieldType.object "java/lang/String"))).before args0 about1 = true := code_word (m := ⟨11, 1⟩) (meth := k11m1) (c := k11c1) (by decide +kernel) rfl rfl rfl (by decide +kernel)
set_option maxRecDepth 65536 in
theorem w_c17 : (Jvm.Cond.code ({ cls := "java/lang/String", name := "indexOf", desc := "(Ljava/lang/String;)I" } : Jvm.MethodName) jdk_42_method_84_code (3 : Nat) (Option.some Jvm.ClassFile.FieldType.int)).before args0 about1 = true := code_word (m := ⟨7, 5⟩) (meth := k7m5) (c := k7c5) (by decide +kernel) rfl rfl rfl (by decide +kernel)
set_option maxRecDepth 65536 in
theorem w_c18 : (Jvm.Cond.code ({ cls := "java/lang/StringLatin1", name := "indexOf", desc := "([B[B)I" } : Jvm.MethodName) jdk_43_method_24_code (2 : Nat) (Option.some Jvm.ClassFile.FieldType.int)).before args0 about1 = true := code_word (m := ⟨8, 5⟩) (meth := k8m5) (c := k8c5) (by decide +kernel) rfl rfl rfl (by decide +kernel)
set_option maxRecDepth 65536 in
theorem w_c19 : (Jvm.Cond.code ({ cls := "java/lang/StringLatin1", name := "indexOf", desc := "([BI[BII)I" } : Jvm.MethodName) jdk_43_method_25_code (11 : Nat) (Option.some Jvm.ClassFile.FieldType.int)).before args0 about1 = true := code_word (m := ⟨8, 6⟩) (meth := k8m6) (c := k8c6) (by decide +kernel) rfl rfl rfl (by decide +kernel)
set_option maxRecDepth 65536 in
theorem w_c20 : (Jvm.Cond.code ({ cls := "java/lang/String", name := "indexOf", desc := "(II)I" } : Jvm.MethodName) jdk_42_method_80_code (3 : Nat) (Option.some Jvm.ClassFile.FieldType.int)).before args0 about1 = true := code_word (m := ⟨7, 4⟩) (meth := k7m4) (c := k7c4) (by decide +kernel) rfl rfl rfl (by decide +kernel)
set_option maxRecDepth 65536 in
theorem w_c21 : (Jvm.Cond.code ({ cls := "java/lang/StringLatin1", name := "indexOf", desc := "([BIII)I" } : Jvm.MethodName) jdk_43_method_22_code (4 : Nat) (Option.some Jvm.ClassFile.FieldType.int)).before args0 about1 = true := code_word (m := ⟨8, 3⟩) (meth := k8m3) (c := k8c3) (by decide +kernel) rfl rfl rfl (by decide +kernel)
set_option maxRecDepth 65536 in
theorem w_c22 : (Jvm.Cond.code ({ cls := "java/lang/StringLatin1", name := "canEncode", desc := "(I)Z" } : Jvm.MethodName) jdk_43_method_4_code (1 : Nat) (Option.some Jvm.ClassFile.FieldType.boolean)).before args0 about1 = true := code_word (m := ⟨8, 2⟩) (meth := k8m2) (c := k8c2) (by decide +kernel) rfl rfl rfl (by decide +kernel)
set_option maxRecDepth 65536 in
theorem w_c23 : (Jvm.Cond.code ({ cls := "java/lang/Math", name := "max", desc := "(II)I" } : Jvm.MethodName) jdk_29_method_65_code (2 : Nat) (Option.some Jvm.ClassFile.FieldType.int)).before args0 about1 = true := code_word (m := ⟨12, 1⟩) (meth := k12m1) (c := k12c1) (by decide +kernel) rfl rfl rfl (by decide +kernel)
set_option maxRecDepth 65536 in
theorem w_c24 : (Jvm.Cond.code ({ cls := "java/lang/Math", name := "min", desc := "(II)I" } : Jvm.MethodName) jdk_29_method_69_code (2 : Nat) (Option.some Jvm.ClassFile.FieldType.int)).before args0 about1 = true := code_word (m := ⟨12, 2⟩) (meth := k12m2) (c := k12c2) (by decide +kernel) rfl rfl rfl (by decide +kernel)
set_option maxRecDepth 65536 in
theorem w_c25 : (Jvm.Cond.code ({ cls := "java/lang/StringLatin1", name := "indexOfChar", desc := "([BIII)I" } : Jvm.MethodName) jdk_43_method_23_code (6 : Nat) (Option.some Jvm.ClassFile.FieldType.int)).before args0 about1 = true := code_word (m := ⟨8, 4⟩) (meth := k8m4) (c := k8c4) (by decide +kernel) rfl rfl rfl (by decide +kernel)
set_option maxRecDepth 65536 in
theorem w_c26 : (Jvm.Cond.code ({ cls := "java/lang/String", name := "substring", desc := "(I)Ljava/lang/String;" } : Jvm.MethodName) jdk_42_method_91_code (2 : Nat) (Option.some (Jvm.ClassFile.FieldType.object "java/lang/String"))).before args0 about1 = true := code_word (m := ⟨7, 6⟩) (meth := k7m6) (c := k7c6) (by decide +kernel) rfl rfl rfl (by decide +kernel)
set_option maxRecDepth 65536 in
theorem w_c27 : (Jvm.Cond.code ({ cls := "java/lang/String", name := "substring", desc := "(II)Ljava/lang/String;" } : Jvm.MethodName) jdk_42_method_92_code (5 : Nat) (Option.some (Jvm.ClassFile.FieldType.object "java/lang/String"))).before args0 about1 = true := code_word (m := ⟨7, 7⟩) (meth := k7m7) (c := k7c7) (by decide +kernel) rfl rfl rfl (by decide +kernel)
set_option maxRecDepth 65536 in
theorem w_c28 : (Jvm.Cond.code ({ cls := "java/lang/String", name := "checkBoundsBeginEnd", desc := "(III)V" } : Jvm.MethodName) jdk_42_method_158_code (3 : Nat) (Option.none : Option Jvm.ClassFile.FieldType)).before args0 about1 = true := code_word (m := ⟨7, 13⟩) (meth := k7m13) (c := k7c13) (by decide +kernel) rfl rfl rfl (by decide +kernel)
set_option maxRecDepth 65536 in
theorem w_c29 : (Jvm.Cond.code ({ cls := "jdk/internal/util/Preconditions", name := "checkFromToIndex", desc := "(IIILjava/util/function/BiFunction;)I" } : Jvm.MethodName) jdk_41_method_12_code (4 : Nat) (Option.some Jvm.ClassFile.FieldType.int)).before args0 about1 = true := code_word (m := ⟨9, 2⟩) (meth := k9m2) (c := k9c2) (by decide +kernel) rfl rfl rfl (by decide +kernel)
set_option maxRecDepth 65536 in
theorem w_c30 : (Jvm.Cond.code ({ cls := "java/lang/StringLatin1", name := "newString", desc := "([BII)Ljava/lang/String;" } : Jvm.MethodName) jdk_43_method_47_code (3 : Nat) (Option.some (Jvm.ClassFile.FieldType.object "java/lang/String"))).before args0 about1 = true := code_word (m := ⟨8, 7⟩) (meth := k8m7) (c := k8c7) (by decide +kernel) rfl rfl rfl (by decide +kernel)
set_option maxRecDepth 65536 in
theorem w_c31 : (Jvm.Cond.code ({ cls := "java/util/Arrays", name := "copyOfRange", desc := "([BII)[B" } : Jvm.MethodName) jdk_65_method_132_code (3 : Nat) (Option.some (Jvm.ClassFile.FieldType.array Jvm.ClassFile.FieldType.byte))).before args0 about1 = true := code_word (m := ⟨13, 2⟩) (meth := k13m2) (c := k13c2) (by decide +kernel) rfl rfl rfl (by decide +kernel)
set_option maxRecDepth 65536 in
theorem w_c32 : (Jvm.Cond.code ({ cls := "java/util/Arrays", name := "copyOfRangeByte", desc := "([BII)[B" } : Jvm.MethodName) jdk_65_method_133_code (5 : Nat) (Option.some (Jvm.ClassFile.FieldType.array Jvm.ClassFile.FieldType.byte))).before args0 about1 = true := code_word (m := ⟨13, 3⟩) (meth := k13m3) (c := k13c3) (by decide +kernel) rfl rfl rfl (by decide +kernel)
set_option maxRecDepth 65536 in
theorem w_c33 : (Jvm.Cond.code ({ cls := "java/util/Arrays", name := "checkLength", desc := "(II)V" } : Jvm.MethodName) jdk_65_method_131_code (2 : Nat) (Option.none : Option Jvm.ClassFile.FieldType)).before args0 about1 = true := code_word (m := ⟨13, 1⟩) (meth := k13m1) (c := k13c1) (by decide +kernel) rfl rfl rfl (by decide +kernel)
set_option maxRecDepth 65536 in
theorem w_c34 : (Jvm.Cond.code ({ cls := "java/lang/String", name := "<init>", desc := "([BB)V" } : Jvm.MethodName) jdk_42_method_151_code (3 : Nat) (Option.none : Option Jvm.ClassFile.FieldType)).before args0 about1 = true := code_word (m := ⟨7, 9⟩) (meth := k7m9) (c := k7c9) (by decide +kernel) rfl rfl rfl (by decide +kernel)
set_option maxRecDepth 65536 in
theorem w_c35 : (Jvm.Cond.code ({ cls := "com/example/lincra/lincra/UrlNormalizerPathAndQueryPinLaw", name := "pathChar", desc := "(II)C" } : Jvm.MethodName) method_3_code (2 : Nat) (Option.some Jvm.ClassFile.FieldType.char)).before args0 about1 = true := code_word (m := ⟨1, 2⟩) (meth := k1m2) (c := k1c2) (by decide +kernel) rfl rfl rfl (by decide +kernel)
def codes1 : List Jvm.Cond := [Jvm.Cond.code x code maxLocals ret, Jvm.Cond.code ({ cls := "com/example/lincra/lincra/UrlNormalizerPathAndQueryPinLaw", name := "at", desc := "(IIIII)C" } : Jvm.MethodName) method_4_code (5 : Nat) (Option.some Jvm.ClassFile.FieldType.char), Jvm.Cond.code ({ cls := "java/lang/String", name := "charAt", desc := "(I)C" } : Jvm.MethodName) jdk_42_method_56_code (2 : Nat) (Option.some Jvm.ClassFile.FieldType.char), Jvm.Cond.code ({ cls := "java/lang/String", name := "isLatin1", desc := "()Z" } : Jvm.MethodName) jdk_42_method_154_code (1 : Nat) (Option.some Jvm.ClassFile.FieldType.boolean), Jvm.Cond.code ({ cls := "java/lang/StringLatin1", name := "charAt", desc := "([BI)C" } : Jvm.MethodName) jdk_43_method_2_code (2 : Nat) (Option.some Jvm.ClassFile.FieldType.char), Jvm.Cond.code ({ cls := "java/lang/String", name := "checkIndex", desc := "(II)V" } : Jvm.MethodName) jdk_42_method_155_code (2 : Nat) (Option.none : Option Jvm.ClassFile.FieldType), Jvm.Cond.code ({ cls := "jdk/internal/util/Preconditions", name := "checkIndex", desc := "(IILjava/util/function/BiFunction;)I" } : Jvm.MethodName) jdk_41_method_11_code (3 : Nat) (Option.some Jvm.ClassFile.FieldType.int), Jvm.Cond.code ({ cls := "com/example/lincra/lincra/UrlNormalizerPathAndQueryPinLaw", name := "hostChar", desc := "(II)C" } : Jvm.MethodName) method_2_code (2 : Nat) (Option.some Jvm.ClassFile.FieldType.char), Jvm.Cond.code ({ cls := "java/lang/String", name := "length", desc := "()I" } : Jvm.MethodName) jdk_42_method_54_code (1 : Nat) (Option.some Jvm.ClassFile.FieldType.int), Jvm.Cond.code ({ cls := "java/lang/String", name := "coder", desc := "()B" } : Jvm.MethodName) jdk_42_method_152_code (1 : Nat) (Option.some Jvm.ClassFile.FieldType.byte), Jvm.Cond.code ({ cls := "java/lang/String", name := "<init>", desc := "([C)V" } : Jvm.MethodName) jdk_42_method_3_code (2 : Nat) (Option.none : Option Jvm.ClassFile.FieldType), Jvm.Cond.code ({ cls := "java/lang/String", name := "<init>", desc := "([CIILjava/lang/Void;)V" } : Jvm.MethodName) jdk_42_method_149_code (6 : Nat) (Option.none : Option Jvm.ClassFile.FieldType), Jvm.Cond.code ({ cls := "java/lang/Object", name := "<init>", desc := "()V" } : Jvm.MethodName) object_method_1_code (1 : Nat) (Option.none : Option Jvm.ClassFile.FieldType), Jvm.Cond.code ({ cls := "java/lang/StringUTF16", name := "compress", desc := "([CII)[B" } : Jvm.MethodName) jdk_52_method_16_code (6 : Nat) (Option.some (Jvm.ClassFile.FieldType.array Jvm.ClassFile.FieldType.byte)), Jvm.Cond.code ({ cls := "java/lang/StringUTF16", name := "compress", desc := "([CI[BII)I" } : Jvm.MethodName) jdk_52_method_21_code (7 : Nat) (Option.some Jvm.ClassFile.FieldType.int), Jvm.Cond.code ({ cls := "java/lang/StringUTF16", name := "coderFromArrayLen", desc := "([BI)B" } : Jvm.MethodName) jdk_52_method_15_code (2 : Nat) (Option.some Jvm.ClassFile.FieldType.byte), Jvm.Cond.code ({ cls := "com/example/lincra/lincra/UrlNormalizer", name := "pathAndQuery", desc := "(Ljava/lang/String;)Ljava/lang/String;" } : Jvm.MethodName) prog_17_method_6_code (1 : Nat) (Option.some (Jvm.ClassFile.FieldType.object "java/lang/String")), Jvm.Cond.code ({ cls := "java/lang/String", name := "indexOf", desc := "(Ljava/lang/String;)I" } : Jvm.MethodName) jdk_42_method_84_code (3 : Nat) (Option.some Jvm.ClassFile.FieldType.int), Jvm.Cond.code ({ cls := "java/lang/StringLatin1", name := "indexOf", desc := "([B[B)I" } : Jvm.MethodName) jdk_43_method_24_code (2 : Nat) (Option.some Jvm.ClassFile.FieldType.int), Jvm.Cond.code ({ cls := "java/lang/StringLatin1", name := "indexOf", desc := "([BI[BII)I" } : Jvm.MethodName) jdk_43_method_25_code (11 : Nat) (Option.some Jvm.ClassFile.FieldType.int), Jvm.Cond.code ({ cls := "java/lang/String", name := "indexOf", desc := "(II)I" } : Jvm.MethodName) jdk_42_method_80_code (3 : Nat) (Option.some Jvm.ClassFile.FieldType.int), Jvm.Cond.code ({ cls := "java/lang/StringLatin1", name := "indexOf", desc := "([BIII)I" } : Jvm.MethodName) jdk_43_method_22_code (4 : Nat) (Option.some Jvm.ClassFile.FieldType.int), Jvm.Cond.code ({ cls := "java/lang/StringLatin1", name := "canEncode", desc := "(I)Z" } : Jvm.MethodName) jdk_43_method_4_code (1 : Nat) (Option.some Jvm.ClassFile.FieldType.boolean), Jvm.Cond.code ({ cls := "java/lang/Math", name := "max", desc := "(II)I" } : Jvm.MethodName) jdk_29_method_65_code (2 : Nat) (Option.some Jvm.ClassFile.FieldType.int), Jvm.Cond.code ({ cls := "java/lang/Math", name := "min", desc := "(II)I" } : Jvm.MethodName) jdk_29_method_69_code (2 : Nat) (Option.some Jvm.ClassFile.FieldType.int), Jvm.Cond.code ({ cls := "java/lang/StringLatin1", name := "indexOfChar", desc := "([BIII)I" } : Jvm.MethodName) jdk_43_method_23_code (6 : Nat) (Option.some Jvm.ClassFile.FieldType.int), Jvm.Cond.code ({ cls := "java/lang/String", name := "substring", desc := "(I)Ljava/lang/String;" } : Jvm.MethodName) jdk_42_method_91_code (2 : Nat) (Option.some (Jvm.ClassFile.FieldType.object "java/lang/String")), Jvm.Cond.code ({ cls := "java/lang/String", name := "substring", desc := "(II)Ljava/lang/String;" } : Jvm.MethodName) jdk_42_method_92_code (5 : Nat) (Option.some (Jvm.ClassFile.FieldType.object "java/lang/String")), Jvm.Cond.code ({ cls := "java/lang/String", name := "checkBoundsBeginEnd", desc := "(III)V" } : Jvm.MethodName) jdk_42_method_158_code (3 : Nat) (Option.none : Option Jvm.ClassFile.FieldType), Jvm.Cond.code ({ cls := "jdk/internal/util/Preconditions", name := "checkFromToIndex", desc := "(IIILjava/util/function/BiFunction;)I" } : Jvm.MethodName) jdk_41_method_12_code (4 : Nat) (Option.some Jvm.ClassFile.FieldType.int), Jvm.Cond.code ({ cls := "java/lang/StringLatin1", name := "newString", desc := "([BII)Ljava/lang/String;" } : Jvm.MethodName) jdk_43_method_47_code (3 : Nat) (Option.some (Jvm.ClassFile.FieldType.object "java/lang/String")), Jvm.Cond.code ({ cls := "java/util/Arrays", name := "copyOfRange", desc := "([BII)[B" } : Jvm.MethodName) jdk_65_method_132_code (3 : Nat) (Option.some (Jvm.ClassFile.FieldType.array Jvm.ClassFile.FieldType.byte)), Jvm.Cond.code ({ cls := "java/util/Arrays", name := "copyOfRangeByte", desc := "([BII)[B" } : Jvm.MethodName) jdk_65_method_133_code (5 : Nat) (Option.some (Jvm.ClassFile.FieldType.array Jvm.ClassFile.FieldType.byte)), Jvm.Cond.code ({ cls := "java/util/Arrays", name := "checkLength", desc := "(II)V" } : Jvm.MethodName) jdk_65_method_131_code (2 : Nat) (Option.none : Option Jvm.ClassFile.FieldType), Jvm.Cond.code ({ cls := "java/lang/String", name := "<init>", desc := "([BB)V" } : Jvm.MethodName) jdk_42_method_151_code (3 : Nat) (Option.none : Option Jvm.ClassFile.FieldType), Jvm.Cond.code ({ cls := "com/example/lincra/lincra/UrlNormalizerPathAndQueryPinLaw", name := "pathChar", desc := "(II)C" } : Jvm.MethodName) method_3_code (2 : Nat) (Option.some Jvm.ClassFile.FieldType.char)]
set_option maxRecDepth 65536 in
theorem codes_eq : words1.filter isCode = codes1 := rfl
theorem w_codes : ∀ c ∈ words1.filter isCode, c.before args0 about1 = true := by
  rw [codes_eq]
  intro c hc
  simp only [codes1, List.mem_cons, List.not_mem_nil, or_false] at hc
  rcases hc with rfl | rfl | rfl | rfl | rfl | rfl | rfl | rfl | rfl | rfl | rfl | rfl | rfl | rfl | rfl | rfl | rfl | rfl | rfl | rfl | rfl | rfl | rfl | rfl | rfl | rfl | rfl | rfl | rfl | rfl | rfl | rfl | rfl | rfl | rfl | rfl
  · exact w_c0
  · exact w_c1
  · exact w_c2
  · exact w_c3
  · exact w_c4
  · exact w_c5
  · exact w_c6
  · exact w_c7
  · exact w_c8
  · exact w_c9
  · exact w_c10
  · exact w_c11
  · exact w_c12
  · exact w_c13
  · exact w_c14
  · exact w_c15
  · exact w_c16
  · exact w_c17
  · exact w_c18
  · exact w_c19
  · exact w_c20
  · exact w_c21
  · exact w_c22
  · exact w_c23
  · exact w_c24
  · exact w_c25
  · exact w_c26
  · exact w_c27
  · exact w_c28
  · exact w_c29
  · exact w_c30
  · exact w_c31
  · exact w_c32
  · exact w_c33
  · exact w_c34
  · exact w_c35
set_option maxRecDepth 65536 in
theorem w_t1 : (words1.take 24).all (fun c => isCode c || c.before args0 about1) = true := by decide +kernel
set_option maxRecDepth 65536 in
theorem w_t2 : ((words1.drop 24).take 24).all (fun c => isCode c || c.before args0 about1) = true := by decide +kernel
set_option maxRecDepth 65536 in
theorem w_t3 : (((words1.drop 24).drop 24).take 24).all (fun c => isCode c || c.before args0 about1) = true := by decide +kernel
set_option maxRecDepth 65536 in
theorem w_t4 : ((((words1.drop 24).drop 24).drop 24).take 24).all (fun c => isCode c || c.before args0 about1) = true := by decide +kernel
set_option maxRecDepth 65536 in
theorem w_t5 : (((((words1.drop 24).drop 24).drop 24).drop 24).take 24).all (fun c => isCode c || c.before args0 about1) = true := by decide +kernel
set_option maxRecDepth 65536 in
theorem w_t6 : ((((((words1.drop 24).drop 24).drop 24).drop 24).drop 24).take 24).all (fun c => isCode c || c.before args0 about1) = true := by decide +kernel
set_option maxRecDepth 65536 in
theorem w_t7 : ((((((words1.drop 24).drop 24).drop 24).drop 24).drop 24).drop 24).all (fun c => isCode c || c.before args0 about1) = true := by decide +kernel
theorem w_tables : (allAtoms (Jvm.Cond.code x code maxLocals ret :: tables_1)).before args0 about1 = true := by
  rw [allAtoms_all]
  show words1.all (fun c => c.before args0 about1) = true
  refine all_split ?_ w_codes
  rw [← List.take_append_drop 24 words1, List.all_append, w_t1, ← List.take_append_drop 24 (words1.drop 24), List.all_append, w_t2, ← List.take_append_drop 24 ((words1.drop 24).drop 24), List.all_append, w_t3, ← List.take_append_drop 24 (((words1.drop 24).drop 24).drop 24), List.all_append, w_t4, ← List.take_append_drop 24 ((((words1.drop 24).drop 24).drop 24).drop 24), List.all_append, w_t5, ← List.take_append_drop 24 (((((words1.drop 24).drop 24).drop 24).drop 24).drop 24), List.all_append, w_t6, w_t7]
  rfl
set_option maxRecDepth 65536 in
theorem w_rest : rest_1_c.before args0 about1 = true := by decide +kernel
set_option maxRecDepth 65536 in
theorem w_case : (Jvm.Cond.and given_1 narrow_1).before args0 about1 = true := by decide +kernel
set_option maxRecDepth 65536 in
theorem w_consts : constsHeld consts_1 about1 := Jvm.Lit.constsHeldB_iff.mp (by decide +kernel)
theorem w_applies : (headSpec (Jvm.Cond.code x code maxLocals ret :: tables_1) room_1).applies x e0.platform about1 = true :=
  (Spec.applies_iff w_frames).mpr ⟨w_running, w_runnable, w_alone, w_named, w_hears, w_ripe, w_room, w_tables⟩
theorem atStart : AtStart classFile x code maxLocals ret World_1 tables_1 room_1 Calls_1 rest_1 Pre_1 launch0 p0 e0 about1 theMethod args0 below0 :=
  ⟨lists_1, trivial, launch0.admits_env _ _ _, launch0.least_env, fairChoices_fair.cas, fairChoices_fair.clock, w_frames, w_args, w_heap, w_applies, ⟨w_consts, trivial⟩, w_rest, w_case⟩
end start1
theorem witness_1 : WitnessClaimed_1 := ⟨start1.p0, start1.e0, start1.about1, start1.theMethod, start1.args0, start1.below0, start1.atStart⟩
end Jvm.Pilot.@@N@@
