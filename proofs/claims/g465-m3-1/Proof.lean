import JvmDerived
import JvmDerived.Pilot.@@N@@Statement
import JvmDerived.Pilot.@@N@@Code
set_option linter.unusedVariables false
set_option linter.unusedSimpArgs false
/- laws to paste: Road.backV (cut by pick.py; bodies as the Statement names them) -/
namespace Jvm.Pilot.@@N@@
namespace StrChars
open Jvm Sem ClassFile Op Lib Jvm.Stand Jvm.Free.XT Jvm.Free.ALB Jvm.Free.JM Jvm.Free
open Jvm.Lib.Cold (StaticIs)
/-- a char array whose places are chars -/
def Ch (a : Addr) (A : Cell) (U : State) : Prop := Arr .char a A U ∧ Typed .char A
theorem Ch.mv {a : Addr} {A : Cell} {U U' : State} (h : Ch a A U) (hal : U.vm.Alike U'.vm) (hh : U'.heap = U.heap) : Ch a A U' := ⟨h.1.mv hal hh, h.2⟩
theorem Ch.keep {a : Addr} {A : Cell} {U U' : State} (h : Ch a A U) (hal : U.vm.Alike U'.vm) (hk : U'.heap[a]? = some A) : Ch a A U' := ⟨h.1.keep hal hk, h.2⟩
/-- what place i of a char[]'s cell holds -/
def cv (A : Cell) (i : Nat) : Int32 := match A.slots[i]? with | some (.int x) => x | _ => 0
theorem Ch.get {a : Addr} {A : Cell} {U : State} (h : Ch a A U) {i : Nat} (hi : i < A.slots.size) : A.slots[i]? = some (.int (cv A i)) := by
  have e := Array.getElem?_eq_getElem hi
  have f := h.2 i _ e
  unfold cv; rw [e]
  generalize A.slots[i] = v at f
  cases v <;> simp [fits] at f ⊢
/-- the byte that i2b leaves of a char -/
def lo8 (x : Int32) : Int32 := x.toInt8.toInt32
theorem fits_lo8 (y : Int32) : fits .byte (.int (lo8 y)) = true := by
  have h1 := y.toInt8.le_toInt
  have h2 := y.toInt8.toInt_lt
  simp only [lo8, fits, Bool.and_eq_true, decide_eq_true_eq, Int32.le_iff_toInt_le, Int8.toInt_toInt32, show (-128 : Int32).toInt = -128 from by decide, show (127 : Int32).toInt = 127 from by decide]
  omega
/-- A' is A but that each place j of lo .. hi - 1 holds f j -/
def Laid (A A' : Cell) (lo hi : Nat) (f : Nat → Value) : Prop := A'.cls = A.cls ∧ A'.vm = A.vm ∧ A'.slots.size = A.slots.size ∧ ∀ i, A'.slots[i]? = if lo ≤ i ∧ i < hi then some (f i) else A.slots[i]?
theorem Laid.zero (A : Cell) (lo : Nat) (f : Nat → Value) : Laid A A lo (lo + 0) f := ⟨rfl, rfl, rfl, fun i => by rw [if_neg (by omega)]⟩
theorem Laid.step {A Ak : Cell} {lo k : Nat} {f : Nat → Value} {v : Value} (h : Laid A Ak lo k f) (hlo : lo ≤ k) (hk : k < Ak.slots.size) (hv : v = f k) : Laid A (Ak.setSlot k v) lo (k + 1) f := by
  refine ⟨h.1, h.2.1, by simpa [Cell.setSlot] using h.2.2.1, fun i => ?_⟩
  by_cases e : k = i
  · subst e; rw [Cell.slots_setSlot_self v hk, if_pos (by omega), hv]
  · rw [Cell.slots_setSlot_ne v e, h.2.2.2 i]
    by_cases q : lo ≤ i ∧ i < k
    · rw [if_pos q, if_pos (by omega)]
    · rw [if_neg q, if_neg (by omega)]
def U16 : String := "java/lang/StringUTF16"
namespace Cmp5
def yN : MethodName := ⟨"java/lang/StringUTF16", "compress", "([CI[BII)I"⟩
abbrev yB : ByteArray := jdk_52_method_21_code
theorem d0 : decode yB 0 = .ok (.iconst 0, 1) := by decide +kernel
theorem d1 : decode yB 1 = .ok (.istore 5, 2) := by decide +kernel
theorem d3 : decode yB 3 = .ok (.iload 5, 2) := by decide +kernel
theorem d5 : decode yB 5 = .ok (.iload 4, 2) := by decide +kernel
theorem d7 : decode yB 7 = .ok (.if_icmp (.ge) 37, 3) := by decide +kernel
theorem d10 : decode yB 10 = .ok (.aload_n 0, 1) := by decide +kernel
theorem d11 : decode yB 11 = .ok (.iload_n 1, 1) := by decide +kernel
theorem d12 : decode yB 12 = .ok (.caload, 1) := by decide +kernel
theorem d13 : decode yB 13 = .ok (.istore 6, 2) := by decide +kernel
theorem d15 : decode yB 15 = .ok (.iload 6, 2) := by decide +kernel
theorem d17 : decode yB 17 = .ok (.sipush 255, 3) := by decide +kernel
theorem d20 : decode yB 20 = .ok (.if_icmp (.le) 6, 3) := by decide +kernel
theorem d26 : decode yB 26 = .ok (.aload_n 2, 1) := by decide +kernel
theorem d27 : decode yB 27 = .ok (.iload_n 3, 1) := by decide +kernel
theorem d28 : decode yB 28 = .ok (.iload 6, 2) := by decide +kernel
theorem d30 : decode yB 30 = .ok (.i2b, 1) := by decide +kernel
theorem d31 : decode yB 31 = .ok (.bastore, 1) := by decide +kernel
theorem d32 : decode yB 32 = .ok (.iinc 1 1, 3) := by decide +kernel
theorem d35 : decode yB 35 = .ok (.iinc 3 1, 3) := by decide +kernel
theorem d38 : decode yB 38 = .ok (.iinc 5 1, 3) := by decide +kernel
theorem d41 : decode yB 41 = .ok (.goto (-38), 3) := by decide +kernel
theorem d44 : decode yB 44 = .ok (.iload 4, 2) := by decide +kernel
theorem d46 : decode yB 46 = .ok (.ireturn, 1) := by decide +kernel
def site : List Cond := []
def tab : Cond := tabOf yN yB 7 (some .int) site
def P (b : Addr) (A : Cell) (d : Addr) (B : Cell) (o q len : Nat) (args : Array Value) (s : State) : Prop := args = #[.ref b, .int (Int32.ofNat o), .ref d, .int (Int32.ofNat q), .int (Int32.ofNat len)] ∧ Ch b A s ∧ Arr .byte d B s ∧ b ≠ d ∧ o + len ≤ A.slots.size ∧ q + len ≤ B.slots.size ∧ ∀ i, i < len → ¬ 255 < cv A (o + i)
def E (b : Addr) (A : Cell) (d : Addr) (B : Cell) (o q len : Nat) (r : Option Value) (s u : State) : Prop := r = some (.int (Int32.ofNat len)) ∧ ∃ B', Put d B' s u ∧ Laid B B' q (q + len) (fun j => Value.int (lo8 (cv A (o + (j - q)))))
/-- no char of the range above 255: len; the places written hold each char's low byte -/
theorem law (l : Launch) (b : Addr) (A : Cell) (d : Addr) (B : Cell) (o q len : Nat) : Law l yN 5 5 0 0 yB 7 (some .int) site (P b A d B o q len) (E b A d B o q len) (copyLocs d q len) 0 0 := by
  refine Law.of_walk (plainFor_of_name (by decide +kernel)) (by decide +kernel) (by decide +kernel) (by decide) (fun _ _ h => by rw [h.1]; rfl) (fun _ U U' hal hh h => ⟨h.1, h.2.1.mv hal hh, h.2.2.1.mv hal hh, h.2.2.2⟩) (fun r U U' V V' h1 hal h2 h => ⟨h.1, h.2.elim fun B' q => ⟨B', q.1.mv h1 h2, q.2⟩⟩) ?_
  intro p e s m args below meth c s₁ X0 hexec hbytes hml hret hlk hnm hown hh0 W hP
  obtain ⟨rfl, hA, hB, hne, l1, l2, hp⟩ := hP
  have c1 : Steps p.tables e below (s₁.setTop (entryFrame m #[.ref b, .int (Int32.ofNat o), .ref d, .int (Int32.ofNat q), .int (Int32.ofNat len)] 7)) (s₁.setTop (mkF m 0 #[.val (.ref b), .val (.int (Int32.ofNat o)), .val (.ref d), .val (.int (Int32.ofNat q)), .val (.int (Int32.ofNat len)), .unset, .unset] [])) := entry rfl
  have hA0 := hA.1.mv X0.warmed.alike hh0
  have hB0 := hB.mv X0.warmed.alike hh0
  have a31 := hA.1.2.2.2
  have c2 : Steps p.tables e below (s₁.setTop (entryFrame m #[.ref b, .int (Int32.ofNat o), .ref d, .int (Int32.ofNat q), .int (Int32.ofNat len)] 7)) (s₁.setTop (mkF m 3 #[.val (.ref b), .val (.int (Int32.ofNat o)), .val (.ref d), .val (.int (Int32.ofNat q)), .val (.int (Int32.ofNat len)), .val (.int 0), .unset] [])) := c1.trans (by
    refine iconstV X0.here hexec rfl 0 (hb hbytes d0) (by decide) ?_
    refine XS.istore X0.here hexec rfl (hb hbytes d1) rfl rfl ?_
    exact Steps.refl _)
  have loop : ∀ (r i : Nat), i + r = len → ∀ (z : Slot), (z = .unset ∨ ∃ w, z = .val w ∧ w.category = 1) → ∀ (Tl : State) (Bk : Cell), Stand p l e { frames := 0, locals := 0, cells := 0, slots := 0 } s m #[.ref b, .int (Int32.ofNat o), .ref d, .int (Int32.ofNat q), .int (Int32.ofNat len)] below meth c Tl ([] ++ copyLocs d q i) 0 0 → Put d Bk s₁ Tl → Laid B Bk q (q + i) (fun j => Value.int (lo8 (cv A (o + (j - q))))) →
      Steps p.tables e below (s₁.setTop (entryFrame m #[.ref b, .int (Int32.ofNat o), .ref d, .int (Int32.ofNat q), .int (Int32.ofNat len)] 7)) (Tl.setTop (mkF m 3 #[.val (.ref b), .val (.int (Int32.ofNat (o + i))), .val (.ref d), .val (.int (Int32.ofNat (q + i))), .val (.int (Int32.ofNat len)), .val (.int (Int32.ofNat i)), z] [])) → ∃ (T' : State) (B' : Cell) (z' : Slot), Stand p l e { frames := 0, locals := 0, cells := 0, slots := 0 } s m #[.ref b, .int (Int32.ofNat o), .ref d, .int (Int32.ofNat q), .int (Int32.ofNat len)] below meth c T' ([] ++ copyLocs d q len) 0 0 ∧ Put d B' s₁ T' ∧ Laid B B' q (q + len) (fun j => Value.int (lo8 (cv A (o + (j - q))))) ∧
      Steps p.tables e below (s₁.setTop (entryFrame m #[.ref b, .int (Int32.ofNat o), .ref d, .int (Int32.ofNat q), .int (Int32.ofNat len)] 7)) (T'.setTop (mkF m 3 #[.val (.ref b), .val (.int (Int32.ofNat (o + len))), .val (.ref d), .val (.int (Int32.ofNat (q + len))), .val (.int (Int32.ofNat len)), .val (.int (Int32.ofNat len)), z'] [])) := by
    intro r
    induction r with
    | zero =>
      intro i hi z hz Tl Bk Xl pl fl cl
      have hil : i = len := by omega
      rw [hil] at Xl fl cl
      exact ⟨Tl, Bk, z, Xl, pl, fl, cl⟩
    | succ r ih =>
      intro i hi z hz Tl Bk Xl pl fl cl
      have all := X0.warmed.alike.symm.trans Xl.warmed.alike
      have hAl := hA0.keep all (pl.other hne hA0.1)
      have hBk := hB0.like all pl.1 fl.1 fl.2.1 fl.2.2.1
      have hlt : q + i < Bk.slots.size := by rw [fl.2.2.1]; omega
      have c3 : Steps p.tables e below (s₁.setTop (entryFrame m #[.ref b, .int (Int32.ofNat o), .ref d, .int (Int32.ofNat q), .int (Int32.ofNat len)] 7)) (Tl.setTop (mkF m 12 #[.val (.ref b), .val (.int (Int32.ofNat (o + i))), .val (.ref d), .val (.int (Int32.ofNat (q + i))), .val (.int (Int32.ofNat len)), .val (.int (Int32.ofNat i)), z] [.int (Int32.ofNat (o + i)), .ref b])) := cl.trans (by
        refine XS.iload Xl.here hexec rfl (hb hbytes d3) rfl ?_
        refine XS.iload Xl.here hexec rfl (hb hbytes d5) rfl ?_
        refine XS.icmpNo Xl.here hexec rfl (hb hbytes d7) rfl (ii_ge_f (lt32 (by omega) (by omega))) ?_
        refine XS.aloadN Xl.here hexec rfl (hb hbytes d10) rfl rfl ?_
        refine XS.iloadN Xl.here hexec rfl (hb hbytes d11) rfl ?_
        exact Steps.refl _)
      have c4 : Steps p.tables e below (s₁.setTop (entryFrame m #[.ref b, .int (Int32.ofNat o), .ref d, .int (Int32.ofNat q), .int (Int32.ofNat len)] 7)) (Tl.setTop (mkF m 13 #[.val (.ref b), .val (.int (Int32.ofNat (o + i))), .val (.ref d), .val (.int (Int32.ofNat (q + i))), .val (.int (Int32.ofNat len)), .val (.int (Int32.ofNat i)), z] [.int (cv A (o + i))])) := c3.trans (by
        refine Xl.aget hexec hAl rfl (hA.get (i := o + i) (by omega)) rfl rfl (hb hbytes d12) ?_
        exact Steps.refl _)
      have c5 : Steps p.tables e below (s₁.setTop (entryFrame m #[.ref b, .int (Int32.ofNat o), .ref d, .int (Int32.ofNat q), .int (Int32.ofNat len)] 7)) (Tl.setTop (mkF m 15 #[.val (.ref b), .val (.int (Int32.ofNat (o + i))), .val (.ref d), .val (.int (Int32.ofNat (q + i))), .val (.int (Int32.ofNat len)), .val (.int (Int32.ofNat i)), .val (.int (cv A (o + i)))] [])) := c4.trans (by
        refine XS.istoreS Xl.here hexec rfl (hb hbytes d13) rfl rfl hz ?_
        exact Steps.refl _)
      have c6 : Steps p.tables e below (s₁.setTop (entryFrame m #[.ref b, .int (Int32.ofNat o), .ref d, .int (Int32.ofNat q), .int (Int32.ofNat len)] 7)) (Tl.setTop (mkF m 31 #[.val (.ref b), .val (.int (Int32.ofNat (o + i))), .val (.ref d), .val (.int (Int32.ofNat (q + i))), .val (.int (Int32.ofNat len)), .val (.int (Int32.ofNat i)), .val (.int (cv A (o + i)))] [.int (lo8 (cv A (o + i))), .int (Int32.ofNat (q + i)), .ref d])) := c5.trans (by
        refine XS.iload Xl.here hexec rfl (hb hbytes d15) rfl ?_
        refine sipushV Xl.here hexec rfl 255 (hb hbytes d17) (by decide) ?_
        refine XS.icmpYes Xl.here hexec rfl (pc0 := 20) rfl (hb hbytes d20) rfl (ii_le_t (hp i (by omega))) (by decide) rfl ?_
        refine XS.aloadN Xl.here hexec rfl (hb hbytes d26) rfl rfl ?_
        refine XS.iloadN Xl.here hexec rfl (hb hbytes d27) rfl ?_
        refine XS.iload Xl.here hexec rfl (hb hbytes d28) rfl ?_
        refine i2b Xl.here hexec rfl (hb hbytes d30) rfl ?_
        exact Steps.refl _)
      obtain ⟨T7, X7, p7, st7⟩ := Xl.aput hexec hBk rfl hlt rfl (fits_lo8 (cv A (o + i))) (g := (mkF m 31 #[.val (.ref b), .val (.int (Int32.ofNat (o + i))), .val (.ref d), .val (.int (Int32.ofNat (q + i))), .val (.int (Int32.ofNat len)), .val (.int (Int32.ofNat i)), .val (.int (cv A (o + i)))] [.int (lo8 (cv A (o + i))), .int (Int32.ofNat (q + i)), .ref d])) rfl (rest := []) rfl (hb hbytes d31)
      have c8 : Steps p.tables e below (s₁.setTop (entryFrame m #[.ref b, .int (Int32.ofNat o), .ref d, .int (Int32.ofNat q), .int (Int32.ofNat len)] 7)) (T7.setTop (mkF m 32 #[.val (.ref b), .val (.int (Int32.ofNat (o + i))), .val (.ref d), .val (.int (Int32.ofNat (q + i))), .val (.int (Int32.ofNat len)), .val (.int (Int32.ofNat i)), .val (.int (cv A (o + i)))] [])) := c6.trans (st7 _ (Steps.refl _))
      have c9 : Steps p.tables e below (s₁.setTop (entryFrame m #[.ref b, .int (Int32.ofNat o), .ref d, .int (Int32.ofNat q), .int (Int32.ofNat len)] 7)) (T7.setTop (mkF m 3 #[.val (.ref b), .val (.int (Int32.ofNat (o + i) + 1)), .val (.ref d), .val (.int (Int32.ofNat (q + i) + 1)), .val (.int (Int32.ofNat len)), .val (.int (Int32.ofNat i + 1)), .val (.int (cv A (o + i)))] [])) := c8.trans (by
        refine iincV X7.here hexec rfl 1 (hb hbytes d32) (by decide) rfl rfl ?_
        refine iincV X7.here hexec rfl 1 (hb hbytes d35) (by decide) rfl rfl ?_
        refine iincV X7.here hexec rfl 1 (hb hbytes d38) (by decide) rfl rfl ?_
        refine XS.goto X7.here hexec rfl (pc0 := 41) rfl (hb hbytes d41) (by decide) rfl ?_
        exact Steps.refl _)
      have c10 : Steps p.tables e below (s₁.setTop (entryFrame m #[.ref b, .int (Int32.ofNat o), .ref d, .int (Int32.ofNat q), .int (Int32.ofNat len)] 7)) (T7.setTop (mkF m 3 #[.val (.ref b), .val (.int (Int32.ofNat (o + (i + 1)))), .val (.ref d), .val (.int (Int32.ofNat (q + (i + 1)))), .val (.int (Int32.ofNat len)), .val (.int (Int32.ofNat (i + 1))), .val (.int (cv A (o + i)))] [])) := by
        have := c9
        rw [succ32, succ32, succ32] at this
        exact this
      exact ih (i + 1) (by omega) _ (Or.inr ⟨_, rfl, rfl⟩) T7 _ (by rw [copyLocs_step, ← List.append_assoc]; exact X7) (pl.trans p7) (fl.step (by omega) hlt (by simp)) c10
  obtain ⟨T9, B9, z9, X9, p9, f9, g9⟩ := loop len 0 (by omega) .unset (Or.inl rfl) s₁ B (by simpa [copyLocs] using X0) ⟨hB0.1, fun _ _ => rfl, rfl⟩ (Laid.zero _ _ _) c2
  have c11 : Steps p.tables e below (s₁.setTop (entryFrame m #[.ref b, .int (Int32.ofNat o), .ref d, .int (Int32.ofNat q), .int (Int32.ofNat len)] 7)) (T9.setTop (mkF m 46 #[.val (.ref b), .val (.int (Int32.ofNat (o + len))), .val (.ref d), .val (.int (Int32.ofNat (q + len))), .val (.int (Int32.ofNat len)), .val (.int (Int32.ofNat len)), z9] [.int (Int32.ofNat len)])) := g9.trans (by
    refine XS.iload X9.here hexec rfl (hb hbytes d3) rfl ?_
    refine XS.iload X9.here hexec rfl (hb hbytes d5) rfl ?_
    refine XS.icmpYes X9.here hexec rfl (pc0 := 7) rfl (hb hbytes d7) rfl (ii_ge_t (nlt32 (by omega) (Nat.le_refl _))) (by decide) rfl ?_
    refine XS.iload X9.here hexec rfl (hb hbytes d44) rfl ?_
    exact Steps.refl _)
  exact ⟨T9, some (.int (Int32.ofNat len)), _, _, _, X9, by simp, rfl, rfl, (fun h => by cases h), ⟨rfl, B9, p9.from hh0, f9⟩, fun fs hl => c11.trans (X9.ireturnOut hexec hret rfl (Or.inl rfl) (hb hbytes d46) hl)⟩
end Cmp5
namespace Cmp3
def yN : MethodName := ⟨"java/lang/StringUTF16", "compress", "([CII)[B"⟩
abbrev yB : ByteArray := jdk_52_method_16_code
theorem d0 : decode yB 0 = .ok (.iload_n 2, 1) := by decide +kernel
theorem d1 : decode yB 1 = .ok (.newarray .byte, 2) := by decide +kernel
theorem d3 : decode yB 3 = .ok (.astore_n 3, 1) := by decide +kernel
theorem d4 : decode yB 4 = .ok (.aload_n 0, 1) := by decide +kernel
theorem d5 : decode yB 5 = .ok (.iload_n 1, 1) := by decide +kernel
theorem d6 : decode yB 6 = .ok (.aload_n 3, 1) := by decide +kernel
theorem d7 : decode yB 7 = .ok (.iconst 0, 1) := by decide +kernel
theorem d8 : decode yB 8 = .ok (.iload_n 2, 1) := by decide +kernel
theorem d9 : decode yB 9 = .ok (.invokestatic 115, 3) := by decide +kernel
theorem d12 : decode yB 12 = .ok (.istore 4, 2) := by decide +kernel
theorem d14 : decode yB 14 = .ok (.iload 4, 2) := by decide +kernel
theorem d16 : decode yB 16 = .ok (.iload_n 2, 1) := by decide +kernel
theorem d17 : decode yB 17 = .ok (.if_icmp (.eq) 40, 3) := by decide +kernel
theorem d57 : decode yB 57 = .ok (.aload_n 3, 1) := by decide +kernel
theorem d58 : decode yB 58 = .ok (.areturn, 1) := by decide +kernel
def site : List Cond := [.arrayClass .byte, Cmp5.tab] ++ staticW U16 115 Cmp5.yN
def tab : Cond := tabOf yN yB 6 (some (.array .byte)) site
def P (b : Addr) (A : Cell) (o len : Nat) (args : Array Value) (s : State) : Prop := args = #[.ref b, .int (Int32.ofNat o), .int (Int32.ofNat len)] ∧ Ch b A s ∧ o + len ≤ A.slots.size ∧ len ≤ 536870912 ∧ ∀ i, i < len → ¬ 255 < cv A (o + i)
def E (b : Addr) (A : Cell) (o len : Nat) (r : Option Value) (s u : State) : Prop := NewArr .byte "[B" len (fun j => .int (lo8 (cv A (o + j)))) r s u ∧ u.heap.size = s.heap.size + 1
/-- no char of the range above 255: a new byte[] of their low bytes -/
theorem law (l : Launch) (b : Addr) (A : Cell) (o len : Nat) : Law l yN 3 3 1 18 yB 6 (some (.array .byte)) site (P b A o len) (E b A o len) [] 1 len := by
  refine Law.of_walk (plainFor_of_name (by decide +kernel)) (by decide +kernel) (by decide +kernel) (by decide) (fun _ _ h => by rw [h.1]; rfl) (fun _ U U' hal hh h => ⟨h.1, h.2.1.mv hal hh, h.2.2⟩) (fun r U U' V V' h1 hal h2 h => ⟨NewArr.mv r U U' V V' h1 hal h2 h.1, by rw [h1, h2]; exact h.2⟩) ?_
  intro p e s m args below meth c s₁ X0 hexec hbytes hml hret hlk hnm hown hh0 W hP
  obtain ⟨rfl, hA, l1, l2, hp⟩ := hP
  have a31 := hA.1.2.2.2
  have c1 : Steps p.tables e below (s₁.setTop (entryFrame m #[.ref b, .int (Int32.ofNat o), .int (Int32.ofNat len)] 6)) (s₁.setTop (mkF m 0 #[.val (.ref b), .val (.int (Int32.ofNat o)), .val (.int (Int32.ofNat len)), .unset, .unset, .unset] [])) := entry rfl
  have c2 : Steps p.tables e below (s₁.setTop (entryFrame m #[.ref b, .int (Int32.ofNat o), .int (Int32.ofNat len)] 6)) (s₁.setTop (mkF m 1 #[.val (.ref b), .val (.int (Int32.ofNat o)), .val (.int (Int32.ofNat len)), .unset, .unset, .unset] [.int (Int32.ofNat len)])) := c1.trans (by
    refine XS.iloadN X0.here hexec rfl (hb hbytes d0) rfl ?_
    exact Steps.refl _)
  obtain ⟨T3, B3, X3, ba3, bs3, bv3, bh3, bf3, st3⟩ := X0.anew hexec (atype := .byte) (wk W (.arrayClass .byte)) rfl (by show len * 1 ≤ _; omega) (by omega) (g := (mkF m 1 #[.val (.ref b), .val (.int (Int32.ofNat o)), .val (.int (Int32.ofNat len)), .unset, .unset, .unset] [.int (Int32.ofNat len)])) rfl (hb hbytes d1) (rest := []) rfl (Nat.le_refl _) (by show 0 + len ≤ len; omega)
  rw [hh0] at ba3 st3
  have kp3 : XT.Kept s T3 := (XT.Kept.of_eq hh0).push bh3
  have hA3 := hA.keep X3.warmed.alike (kp3 _ _ hA.1.1)
  have hne : b ≠ s.heap.size := hA.1.ne
  have c4 : Steps p.tables e below (s₁.setTop (entryFrame m #[.ref b, .int (Int32.ofNat o), .int (Int32.ofNat len)] 6)) (T3.setTop (mkF m 3 #[.val (.ref b), .val (.int (Int32.ofNat o)), .val (.int (Int32.ofNat len)), .unset, .unset, .unset] [.ref s.heap.size])) := c2.trans (st3 _ (Steps.refl _))
  have c5 : Steps p.tables e below (s₁.setTop (entryFrame m #[.ref b, .int (Int32.ofNat o), .int (Int32.ofNat len)] 6)) (T3.setTop (mkF m 9 #[.val (.ref b), .val (.int (Int32.ofNat o)), .val (.int (Int32.ofNat len)), .val (.ref s.heap.size), .unset, .unset] [.int (Int32.ofNat len), .int 0, .ref s.heap.size, .int (Int32.ofNat o), .ref b])) := c4.trans (by
    refine XS.astoreN X3.here hexec rfl (hb hbytes d3) rfl rfl rfl ?_
    refine XS.aloadN X3.here hexec rfl (hb hbytes d4) rfl rfl ?_
    refine XS.iloadN X3.here hexec rfl (hb hbytes d5) rfl ?_
    refine XS.aloadN X3.here hexec rfl (hb hbytes d6) rfl rfl ?_
    refine iconstV X3.here hexec rfl 0 (hb hbytes d7) (by decide) ?_
    refine XS.iloadN X3.here hexec rfl (hb hbytes d8) rfl ?_
    exact Steps.refl _)
  obtain ⟨v6, T6, X6, E6, g6⟩ := X3.callS hexec (Cmp5.law l b A s.heap.size B3 o 0 len) hown (wks W (staticW U16 115 Cmp5.yN)) (wk W Cmp5.tab) (W := 0) (Nat.le_of_ble_eq_true rfl) (Nat.le_of_ble_eq_true rfl) (Nat.le_refl _) (by show 0 + len + 0 ≤ len; omega) (g := (mkF m 9 #[.val (.ref b), .val (.int (Int32.ofNat o)), .val (.int (Int32.ofNat len)), .val (.ref s.heap.size), .unset, .unset] [.int (Int32.ofNat len), .int (Int32.ofNat 0), .ref s.heap.size, .int (Int32.ofNat o), .ref b])) rfl (by rw [hml]; rfl) c5 (argsL := [.ref b, .int (Int32.ofNat o), .ref s.heap.size, .int (Int32.ofNat 0), .int (Int32.ofNat len)]) (rest := []) rfl rfl (by show 2 * 0 + 0 ≤ _; decide) (hb hbytes d9) (⟨rfl, hA3, ba3, hne, l1, by rw [bs3]; simp, hp⟩)
  obtain ⟨rfl, B6, p6, f6⟩ := E6
  have c7 : Steps p.tables e below (s₁.setTop (entryFrame m #[.ref b, .int (Int32.ofNat o), .int (Int32.ofNat len)] 6)) (T6.setTop (mkF m 12 #[.val (.ref b), .val (.int (Int32.ofNat o)), .val (.int (Int32.ofNat len)), .val (.ref s.heap.size), .unset, .unset] [.int (Int32.ofNat len)])) := g6
  have c8 : Steps p.tables e below (s₁.setTop (entryFrame m #[.ref b, .int (Int32.ofNat o), .int (Int32.ofNat len)] 6)) (T6.setTop (mkF m 58 #[.val (.ref b), .val (.int (Int32.ofNat o)), .val (.int (Int32.ofNat len)), .val (.ref s.heap.size), .val (.int (Int32.ofNat len)), .unset] [.ref s.heap.size])) := c7.trans (by
    refine XS.istore X6.here hexec rfl (hb hbytes d12) rfl rfl ?_
    refine XS.iload X6.here hexec rfl (hb hbytes d14) rfl ?_
    refine XS.iloadN X6.here hexec rfl (hb hbytes d16) rfl ?_
    refine XS.icmpYes X6.here hexec rfl (pc0 := 17) rfl (hb hbytes d17) rfl (ii_eq_t rfl) (by decide) rfl ?_
    refine XS.aloadN X6.here hexec rfl (hb hbytes d57) rfl rfl ?_
    exact Steps.refl _)
  have X8 := X6.wide (L' := []) (cells' := 1) (slots' := len) (fun x hx hlt => by
    simp only [List.nil_append, copyLocs, List.mem_map, List.mem_range] at hx
    obtain ⟨i, -, rfl⟩ := hx
    exact absurd hlt (Nat.lt_irrefl _)) (Nat.le_refl _) (by omega)
  exact ⟨T6, some (.ref s.heap.size), _, _, _, X8, rfl, rfl, rfl, (fun h => by cases h), ⟨⟨rfl, B6, ba3.like (X3.warmed.alike.symm.trans X6.warmed.alike) p6.1 f6.1 f6.2.1 f6.2.2.1, f6.2.1.trans bv3, by rw [X6.warmed.alike.findClass, f6.1]; exact bf3, by rw [f6.2.2.1, bs3]; simp, fun j hj => by rw [f6.2.2.2 j, if_pos (by omega)]; rfl, kp3.put p6 (Nat.le_refl _)⟩, by rw [p6.2.2, bh3, hh0]; simp⟩, fun fs hl => c8.trans (X8.areturnOut hexec rfl hret rfl (hb hbytes d58) hl)⟩
end Cmp3
namespace CodL
def yN : MethodName := ⟨"java/lang/StringUTF16", "coderFromArrayLen", "([BI)B"⟩
abbrev yB : ByteArray := jdk_52_method_15_code
theorem d0 : decode yB 0 = .ok (.iload_n 1, 1) := by decide +kernel
theorem d1 : decode yB 1 = .ok (.aload_n 0, 1) := by decide +kernel
theorem d2 : decode yB 2 = .ok (.arraylength, 1) := by decide +kernel
theorem d3 : decode yB 3 = .ok (.isub, 1) := by decide +kernel
theorem d4 : decode yB 4 = .ok (.bipush 31, 2) := by decide +kernel
theorem d6 : decode yB 6 = .ok (.iushr, 1) := by decide +kernel
theorem d7 : decode yB 7 = .ok (.i2b, 1) := by decide +kernel
theorem d8 : decode yB 8 = .ok (.ireturn, 1) := by decide +kernel
def site : List Cond := []
def tab : Cond := tabOf yN yB 2 (some .byte) site
def P (d : Addr) (B : Cell) (args : Array Value) (s : State) : Prop := args = #[.ref d, .int (Int32.ofNat B.slots.size)] ∧ Arr .byte d B s
def E (r : Option Value) (s u : State) : Prop := XT.PureE (some (.int 0)) r s u
/-- an array as long as the number of chars: LATIN1 -/
theorem law (l : Launch) (d : Addr) (B : Cell) : Law l yN 2 2 0 0 yB 2 (some .byte) site (P d B) E [] 0 0 := by
  refine Law.of_walk (plainFor_of_name (by decide +kernel)) (by decide +kernel) (by decide +kernel) (by decide) (fun _ _ h => by rw [h.1]; rfl) (fun _ U U' hal hh h => ⟨h.1, h.2.mv hal hh⟩) (fun r U U' V V' h1 hal h2 h => XT.PureE.mv r U U' V V' h1 hal h2 h) ?_
  intro p e s m args below meth c s₁ X0 hexec hbytes hml hret hlk hnm hown hh0 W hP
  obtain ⟨rfl, hB⟩ := hP
  have hB0 := hB.mv X0.warmed.alike hh0
  have c1 : Steps p.tables e below (s₁.setTop (entryFrame m #[.ref d, .int (Int32.ofNat B.slots.size)] 2)) (s₁.setTop (mkF m 0 #[.val (.ref d), .val (.int (Int32.ofNat B.slots.size))] [])) := entry rfl
  have c2 : Steps p.tables e below (s₁.setTop (entryFrame m #[.ref d, .int (Int32.ofNat B.slots.size)] 2)) (s₁.setTop (mkF m 2 #[.val (.ref d), .val (.int (Int32.ofNat B.slots.size))] [.ref d, .int (Int32.ofNat B.slots.size)])) := c1.trans (by
    refine XS.iloadN X0.here hexec rfl (hb hbytes d0) rfl ?_
    refine XS.aloadN X0.here hexec rfl (hb hbytes d1) rfl rfl ?_
    exact Steps.refl _)
  have c3 : Steps p.tables e below (s₁.setTop (entryFrame m #[.ref d, .int (Int32.ofNat B.slots.size)] 2)) (s₁.setTop (mkF m 8 #[.val (.ref d), .val (.int (Int32.ofNat B.slots.size))] [.int (lo8 (ushr (Int32.ofNat B.slots.size - Int32.ofNat B.slots.size) 31))])) := c2.trans (by
    refine X0.alen hexec hB0 rfl rfl (hb hbytes d2) ?_
    refine XS.isub X0.here hexec rfl (hb hbytes d3) rfl ?_
    refine bipushV X0.here hexec rfl 31 (hb hbytes d4) (by decide) ?_
    refine iushr X0.here hexec rfl (hb hbytes d6) rfl ?_
    refine i2b X0.here hexec rfl (hb hbytes d7) rfl ?_
    exact Steps.refl _)
  have e0 : lo8 (ushr (Int32.ofNat B.slots.size - Int32.ofNat B.slots.size) 31) = 0 := by rw [Int32.sub_self]; decide
  rw [e0] at c3
  exact ⟨s₁, some (.int 0), _, _, _, X0, rfl, rfl, rfl, (fun h => by cases h), ⟨rfl, hh0⟩, fun fs hl => c3.trans (X0.ireturnOut hexec hret rfl (Or.inr (Or.inr (Or.inl rfl))) (hb hbytes d8) hl)⟩
end CodL
/-- the String at a is Latin-1 over a new byte[] (the heap's one new cell): the low bytes of the len chars of A from o on; every cell but a is kept -/
def Got (a : Addr) (D : Cell) (fV fC : Field) (A : Cell) (o len : Nat) (r : Option Value) (s u : State) : Prop := r = none ∧ ∃ D' V : Cell, Blank "java/lang/String" a D' u ∧ Same D D' [fV.slot, fC.slot] ∧ D'.slots[fV.slot]? = some (.ref s.heap.size) ∧ D'.slots[fC.slot]? = some (.int 0) ∧ Arr .byte s.heap.size V u ∧ V.vm = .none ∧ u.vm.findClass "[B" = some V.cls ∧ V.slots.size = len ∧ (∀ j, j < len → V.slots[j]? = some (.int (lo8 (cv A (o + j))))) ∧ (∀ (y : Addr) (c : Cell), y ≠ a → s.heap[y]? = some c → u.heap[y]? = some c) ∧ u.heap.size = s.heap.size + 1
theorem Got.mv {a : Addr} {D A : Cell} {fV fC : Field} {o len : Nat} : ∀ r (U U' V V' : State), U'.heap = U.heap → V.vm.Alike V'.vm → V'.heap = V.heap → Got a D fV fC A o len r U V → Got a D fV fC A o len r U' V' :=
  fun r U U' V V' h1 hal h2 ⟨e0, D', X, a1, a2, a3, a4, a5, a6, a7, a8, a9, a10, a11⟩ => ⟨e0, D', X, a1.mv hal h2, a2, by rw [h1]; exact a3, a4, by rw [h1]; exact a5.mv hal h2, a6, by rw [hal.findClass]; exact a7, a8, a9, by rw [h1, h2]; exact a10, by rw [h1, h2]; exact a11⟩
namespace New4
def yN : MethodName := ⟨"java/lang/String", "<init>", "([CIILjava/lang/Void;)V"⟩
abbrev yB : ByteArray := jdk_42_method_149_code
theorem d0 : decode yB 0 = .ok (.aload_n 0, 1) := by decide +kernel
theorem d1 : decode yB 1 = .ok (.invokespecial 1, 3) := by decide +kernel
theorem d4 : decode yB 4 = .ok (.iload_n 3, 1) := by decide +kernel
theorem d5 : decode yB 5 = .ok (.ifCond (.ne) 22, 3) := by decide +kernel
theorem d27 : decode yB 27 = .ok (.getstatic 38, 3) := by decide +kernel
theorem d30 : decode yB 30 = .ok (.ifCond (.eq) 28, 3) := by decide +kernel
theorem d33 : decode yB 33 = .ok (.aload_n 1, 1) := by decide +kernel
theorem d34 : decode yB 34 = .ok (.iload_n 2, 1) := by decide +kernel
theorem d35 : decode yB 35 = .ok (.iload_n 3, 1) := by decide +kernel
theorem d36 : decode yB 36 = .ok (.invokestatic 177, 3) := by decide +kernel
theorem d39 : decode yB 39 = .ok (.astore 5, 2) := by decide +kernel
theorem d41 : decode yB 41 = .ok (.aload_n 0, 1) := by decide +kernel
theorem d42 : decode yB 42 = .ok (.aload 5, 2) := by decide +kernel
theorem d44 : decode yB 44 = .ok (.iload_n 3, 1) := by decide +kernel
theorem d45 : decode yB 45 = .ok (.invokestatic 47, 3) := by decide +kernel
theorem d48 : decode yB 48 = .ok (.putfield 15, 3) := by decide +kernel
theorem d51 : decode yB 51 = .ok (.aload_n 0, 1) := by decide +kernel
theorem d52 : decode yB 52 = .ok (.aload 5, 2) := by decide +kernel
theorem d54 : decode yB 54 = .ok (.putfield 9, 3) := by decide +kernel
theorem d57 : decode yB 57 = .ok (.return_, 1) := by decide +kernel
def site : List Cond := [.fieldLink "java/lang/String" 38 "java/lang/String" "COMPACT_STRINGS" "Z", Cmp3.tab, CodL.tab, .laysFinal "java/lang/String" "java/lang/String" "value" "[B", .fieldLink "java/lang/String" 9 "java/lang/String" "value" "[B", .laysFinal "java/lang/String" "java/lang/String" "coder" "B", .fieldLink "java/lang/String" 15 "java/lang/String" "coder" "B"] ++ objW "java/lang/String" 1 ++ staticW "java/lang/String" 177 Cmp3.yN ++ staticW "java/lang/String" 47 CodL.yN
def tab : Cond := tabOf yN yB 6 none site
def P (a : Addr) (D : Cell) (fV fC : Field) (b : Addr) (A : Cell) (z : Int32) (o len : Nat) (args : Array Value) (s : State) : Prop := args = #[.ref a, .ref b, .int (Int32.ofNat o), .int (Int32.ofNat len), .null] ∧ Blank "java/lang/String" a D s ∧ Found "java/lang/String" "value" "[B" fV s ∧ Found "java/lang/String" "coder" "B" fC s ∧ Ch b A s ∧ StaticIs s "java/lang/String" "COMPACT_STRINGS" "Z" (.int z) ∧ ¬ z = 0 ∧ 0 < len ∧ o + len ≤ A.slots.size ∧ len ≤ 536870912 ∧ ∀ i, i < len → ¬ 255 < cv A (o + i)
def E (a : Addr) (D : Cell) (fV fC : Field) (A : Cell) (o len : Nat) (r : Option Value) (s u : State) : Prop := Got a D fV fC A o len r s u
/-- len > 0, no char of the range above 255: a Latin-1 String of their low bytes -/
theorem law (l : Launch) (a : Addr) (D : Cell) (fV fC : Field) (b : Addr) (A : Cell) (z : Int32) (o len : Nat) : Law l yN 5 4 2 35 yB 6 none site (P a D fV fC b A z o len) (E a D fV fC A o len) [⟨a, fC.slot⟩, ⟨a, fV.slot⟩] 1 len := by
  refine Law.of_walk (plainFor_of_name (by decide +kernel)) (by decide +kernel) (by decide +kernel) (by decide) (fun _ _ h => by rw [h.1]; rfl) (fun _ U U' hal hh h => ⟨h.1, h.2.1.mv hal hh, h.2.2.1.al hal, h.2.2.2.1.al hal, h.2.2.2.2.1.mv hal hh, h.2.2.2.2.2.1.there hal hh, h.2.2.2.2.2.2⟩) (fun r U U' V V' h1 hal h2 h => Got.mv r U U' V V' h1 hal h2 h) ?_
  intro p e s m args below meth c s₁ X0 hexec hbytes hml hret hlk hnm hown hh0 W hP
  obtain ⟨rfl, hB, f1, f2, hA, s1, hz, l0, l1, l2, hp⟩ := hP
  have a31 := hA.1.2.2.2
  have c1 : Steps p.tables e below (s₁.setTop (entryFrame m #[.ref a, .ref b, .int (Int32.ofNat o), .int (Int32.ofNat len), .null] 6)) (s₁.setTop (mkF m 0 #[.val (.ref a), .val (.ref b), .val (.int (Int32.ofNat o)), .val (.int (Int32.ofNat len)), .val .null, .unset] [])) := entry rfl
  have c2 : Steps p.tables e below (s₁.setTop (entryFrame m #[.ref a, .ref b, .int (Int32.ofNat o), .int (Int32.ofNat len), .null] 6)) (s₁.setTop (mkF m 1 #[.val (.ref a), .val (.ref b), .val (.int (Int32.ofNat o)), .val (.int (Int32.ofNat len)), .val .null, .unset] [.ref a])) := c1.trans (by
    refine XS.aloadN X0.here hexec rfl (hb hbytes d0) rfl rfl ?_
    exact Steps.refl _)
  obtain ⟨T3, X3, q3, st3⟩ := X0.oinit hexec hown (wks W (objW "java/lang/String" 1)) (g := (mkF m 1 #[.val (.ref a), .val (.ref b), .val (.int (Int32.ofNat o)), .val (.int (Int32.ofNat len)), .val .null, .unset] [.ref a])) rfl (by rw [hml]; rfl) (rest := []) rfl (hb hbytes d1) (W := 0) (by show 2 * 0 + 0 ≤ _; decide) (Nat.le_of_ble_eq_true rfl) (Nat.le_of_ble_eq_true rfl)
  have hh3 := q3.trans hh0
  have c4 : Steps p.tables e below (s₁.setTop (entryFrame m #[.ref a, .ref b, .int (Int32.ofNat o), .int (Int32.ofNat len), .null] 6)) (T3.setTop (mkF m 27 #[.val (.ref a), .val (.ref b), .val (.int (Int32.ofNat o)), .val (.int (Int32.ofNat len)), .val .null, .unset] [])) := (c2.trans (st3 _ (Steps.refl _))).trans (by
    refine XS.iloadN X3.here hexec rfl (hb hbytes d4) rfl ?_
    refine XS.ifYes X3.here hexec rfl (pc0 := 5) rfl (hb hbytes d5) rfl (i0_ne_t (nz32 (by omega) l0)) (by decide) rfl ?_
    exact Steps.refl _)
  obtain ⟨T5, X5, q5, st5⟩ := X3.sget hexec hown (wk W (.fieldLink "java/lang/String" 38 "java/lang/String" "COMPACT_STRINGS" "Z")) s1 (fun _ _ h => by rw [hh3]; exact h) (g := (mkF m 27 #[.val (.ref a), .val (.ref b), .val (.int (Int32.ofNat o)), .val (.int (Int32.ofNat len)), .val .null, .unset] [])) rfl (hb hbytes d27)
  have hh5 := q5.trans hh3
  have c6 : Steps p.tables e below (s₁.setTop (entryFrame m #[.ref a, .ref b, .int (Int32.ofNat o), .int (Int32.ofNat len), .null] 6)) (T5.setTop (mkF m 30 #[.val (.ref a), .val (.ref b), .val (.int (Int32.ofNat o)), .val (.int (Int32.ofNat len)), .val .null, .unset] [.int z])) := c4.trans (st5 _ (Steps.refl _))
  have c7 : Steps p.tables e below (s₁.setTop (entryFrame m #[.ref a, .ref b, .int (Int32.ofNat o), .int (Int32.ofNat len), .null] 6)) (T5.setTop (mkF m 36 #[.val (.ref a), .val (.ref b), .val (.int (Int32.ofNat o)), .val (.int (Int32.ofNat len)), .val .null, .unset] [.int (Int32.ofNat len), .int (Int32.ofNat o), .ref b])) := c6.trans (by
    refine XS.ifNo X5.here hexec rfl (hb hbytes d30) rfl (i0_eq_f hz) ?_
    refine XS.aloadN X5.here hexec rfl (hb hbytes d33) rfl rfl ?_
    refine XS.iloadN X5.here hexec rfl (hb hbytes d34) rfl ?_
    refine XS.iloadN X5.here hexec rfl (hb hbytes d35) rfl ?_
    exact Steps.refl _)
  obtain ⟨v8, T8, X8, E8, g8⟩ := X5.callS hexec (Cmp3.law l b A o len) hown (wks W (staticW "java/lang/String" 177 Cmp3.yN)) (wk W Cmp3.tab) (W := 0) (Nat.le_of_ble_eq_true rfl) (Nat.le_of_ble_eq_true rfl) (Nat.le_refl _) (by show 0 + len ≤ len; omega) (g := (mkF m 36 #[.val (.ref a), .val (.ref b), .val (.int (Int32.ofNat o)), .val (.int (Int32.ofNat len)), .val .null, .unset] [.int (Int32.ofNat len), .int (Int32.ofNat o), .ref b])) rfl (by rw [hml]; rfl) c7 (argsL := [.ref b, .int (Int32.ofNat o), .int (Int32.ofNat len)]) (rest := []) rfl rfl (by show 2 * 0 + 0 ≤ _; decide) (hb hbytes d36) (⟨rfl, hA.mv X5.warmed.alike hh5, l1, l2, hp⟩)
  obtain ⟨e8, z8⟩ := E8
  obtain ⟨rfl, N, n1, n2, n3, n4, n5, n6⟩ := NewArr.mv _ T5 s _ _ hh5.symm (Vm.Alike.refl _) rfl e8
  rw [hh5] at z8
  have hB1 := hB.keep X8.warmed.alike (n6 _ _ hB.1)
  have hne : s.heap.size ≠ a := (Nat.ne_of_lt (Array.getElem?_eq_some_iff.mp hB.1).1).symm
  have c9 : Steps p.tables e below (s₁.setTop (entryFrame m #[.ref a, .ref b, .int (Int32.ofNat o), .int (Int32.ofNat len), .null] 6)) (T8.setTop (mkF m 39 #[.val (.ref a), .val (.ref b), .val (.int (Int32.ofNat o)), .val (.int (Int32.ofNat len)), .val .null, .unset] [.ref s.heap.size])) := g8
  have c10 : Steps p.tables e below (s₁.setTop (entryFrame m #[.ref a, .ref b, .int (Int32.ofNat o), .int (Int32.ofNat len), .null] 6)) (T8.setTop (mkF m 45 #[.val (.ref a), .val (.ref b), .val (.int (Int32.ofNat o)), .val (.int (Int32.ofNat len)), .val .null, .val (.ref s.heap.size)] [.int (Int32.ofNat N.slots.size), .ref s.heap.size, .ref a])) := by
    have hc : Steps p.tables e below (s₁.setTop (entryFrame m #[.ref a, .ref b, .int (Int32.ofNat o), .int (Int32.ofNat len), .null] 6)) (T8.setTop (mkF m 45 #[.val (.ref a), .val (.ref b), .val (.int (Int32.ofNat o)), .val (.int (Int32.ofNat len)), .val .null, .val (.ref s.heap.size)] [.int (Int32.ofNat len), .ref s.heap.size, .ref a])) := c9.trans (by
      refine XS.astore X8.here hexec rfl (hb hbytes d39) rfl rfl rfl ?_
      refine XS.aloadN X8.here hexec rfl (hb hbytes d41) rfl rfl ?_
      refine XS.aload X8.here hexec rfl (hb hbytes d42) rfl rfl ?_
      refine XS.iloadN X8.here hexec rfl (hb hbytes d44) rfl ?_
      exact Steps.refl _)
    rw [n4]; exact hc
  obtain ⟨v11, T11, X11, E11, g11⟩ := X8.callS hexec (CodL.law l s.heap.size N) hown (wks W (staticW "java/lang/String" 47 CodL.yN)) (wk W CodL.tab) (W := 1) (Nat.le_of_ble_eq_true rfl) (Nat.le_of_ble_eq_true rfl) (Nat.le_refl _) (by show 0 + len + 0 ≤ len; omega) (g := (mkF m 45 #[.val (.ref a), .val (.ref b), .val (.int (Int32.ofNat o)), .val (.int (Int32.ofNat len)), .val .null, .val (.ref s.heap.size)] [.int (Int32.ofNat N.slots.size), .ref s.heap.size, .ref a])) rfl (by rw [hml]; rfl) c10 (argsL := [.ref s.heap.size, .int (Int32.ofNat N.slots.size)]) (rest := [.ref a]) rfl rfl (by show 2 * 0 + (1 + 0) ≤ _; decide) (hb hbytes d45) (⟨rfl, n1⟩)
  obtain ⟨rfl, q11⟩ := E11
  have hB11 := hB1.mv (X8.warmed.alike.symm.trans X11.warmed.alike) q11
  have c12 : Steps p.tables e below (s₁.setTop (entryFrame m #[.ref a, .ref b, .int (Int32.ofNat o), .int (Int32.ofNat len), .null] 6)) (T11.setTop (mkF m 48 #[.val (.ref a), .val (.ref b), .val (.int (Int32.ofNat o)), .val (.int (Int32.ofNat len)), .val .null, .val (.ref s.heap.size)] [.int 0, .ref a])) := g11
  obtain ⟨T13, X13, p13, bl13, sl13, st13⟩ := X11.finit hexec hown (wk W (.fieldLink "java/lang/String" 15 "java/lang/String" "coder" "B")) (Or.inr ⟨_, (wk W (.laysFinal "java/lang/String" "java/lang/String" "coder" "B"))⟩) (Or.inl ⟨rfl, hnm⟩) f2 (Or.inl rfl) hB11 (t := .byte) (by decide +kernel) rfl (g := (mkF m 48 #[.val (.ref a), .val (.ref b), .val (.int (Int32.ofNat o)), .val (.int (Int32.ofNat len)), .val .null, .val (.ref s.heap.size)] [.int 0, .ref a])) rfl (rest := []) rfl (hb hbytes d48)
  have c14 : Steps p.tables e below (s₁.setTop (entryFrame m #[.ref a, .ref b, .int (Int32.ofNat o), .int (Int32.ofNat len), .null] 6)) (T13.setTop (mkF m 54 #[.val (.ref a), .val (.ref b), .val (.int (Int32.ofNat o)), .val (.int (Int32.ofNat len)), .val .null, .val (.ref s.heap.size)] [.ref s.heap.size, .ref a])) := (c12.trans (st13 _ (Steps.refl _))).trans (by
    refine XS.aloadN X13.here hexec rfl (hb hbytes d51) rfl rfl ?_
    refine XS.aload X13.here hexec rfl (hb hbytes d52) rfl rfl ?_
    exact Steps.refl _)
  obtain ⟨T15, X15, p15, bl15, sl15, st15⟩ := X13.finit hexec hown (wk W (.fieldLink "java/lang/String" 9 "java/lang/String" "value" "[B")) (Or.inr ⟨_, (wk W (.laysFinal "java/lang/String" "java/lang/String" "value" "[B"))⟩) (Or.inl ⟨rfl, hnm⟩) f1 (Or.inl rfl) bl13 (t := (.array .byte)) (by decide +kernel) rfl (g := (mkF m 54 #[.val (.ref a), .val (.ref b), .val (.int (Int32.ofNat o)), .val (.int (Int32.ofNat len)), .val .null, .val (.ref s.heap.size)] [.ref s.heap.size, .ref a])) rfl (rest := []) rfl (hb hbytes d54)
  have c16 : Steps p.tables e below (s₁.setTop (entryFrame m #[.ref a, .ref b, .int (Int32.ofNat o), .int (Int32.ofNat len), .null] 6)) (T15.setTop (mkF m 57 #[.val (.ref a), .val (.ref b), .val (.int (Int32.ofNat o)), .val (.int (Int32.ofNat len)), .val .null, .val (.ref s.heap.size)] [])) := c14.trans (st15 _ (Steps.refl _))
  have ap := apart (Or.inr ⟨_, (wk W (.laysFinal "java/lang/String" "java/lang/String" "value" "[B"))⟩) (Or.inr ⟨_, (wk W (.laysFinal "java/lang/String" "java/lang/String" "coder" "B"))⟩) f1 f2 (t₁ := .array .byte) (t₂ := .byte) (by decide +kernel) (by decide +kernel) (by decide)
  have al := X8.warmed.alike.symm.trans X15.warmed.alike
  have n7 : T11.heap[s.heap.size]? = some N := by rw [q11]; exact n1.1
  exact ⟨T15, none, _, _, _, X15, by simp, rfl, by omega, (fun _ => rfl), ⟨rfl, _, N, bl15, ((Same.refl D _).set _ (by simp)).set _ (by simp), sl15, (Cell.slots_setSlot_ne _ ap).trans sl13, n1.keep al (p15.other hne (p13.other hne n7)), n2, by rw [al.findClass]; exact n3, n4, n5, fun y c h1 h2 => p15.other h1 (p13.other h1 (by rw [q11]; exact n6 y c h2)), by rw [p15.2.2, p13.2.2, q11]; exact z8⟩, fun fs hl => c16.trans (X15.returnOut hexec hret (hb hbytes d57) hl)⟩
end New4
namespace New1
def yN : MethodName := ⟨"java/lang/String", "<init>", "([C)V"⟩
abbrev yB : ByteArray := jdk_42_method_3_code
theorem d0 : decode yB 0 = .ok (.aload_n 0, 1) := by decide +kernel
theorem d1 : decode yB 1 = .ok (.aload_n 1, 1) := by decide +kernel
theorem d2 : decode yB 2 = .ok (.iconst 0, 1) := by decide +kernel
theorem d3 : decode yB 3 = .ok (.aload_n 1, 1) := by decide +kernel
theorem d4 : decode yB 4 = .ok (.arraylength, 1) := by decide +kernel
theorem d5 : decode yB 5 = .ok (.aconst_null, 1) := by decide +kernel
theorem d6 : decode yB 6 = .ok (.invokespecial 27, 3) := by decide +kernel
theorem d9 : decode yB 9 = .ok (.return_, 1) := by decide +kernel
def site : List Cond := [New4.tab] ++ initW "java/lang/String" 27 New4.yN
def tab : Cond := tabOf yN yB 2 none site
def P (a : Addr) (D : Cell) (fV fC : Field) (b : Addr) (A : Cell) (z : Int32) (args : Array Value) (s : State) : Prop := args = #[.ref a, .ref b] ∧ Blank "java/lang/String" a D s ∧ Found "java/lang/String" "value" "[B" fV s ∧ Found "java/lang/String" "coder" "B" fC s ∧ Ch b A s ∧ StaticIs s "java/lang/String" "COMPACT_STRINGS" "Z" (.int z) ∧ ¬ z = 0 ∧ 0 < A.slots.size ∧ A.slots.size ≤ 536870912 ∧ ∀ i, i < A.slots.size → ¬ 255 < cv A i
def E (a : Addr) (D : Cell) (fV fC : Field) (A : Cell) (r : Option Value) (s u : State) : Prop := Got a D fV fC A 0 A.slots.size r s u
/-- new String(chars), not empty, no char above 255: a Latin-1 String of their low bytes -/
theorem law (l : Launch) (a : Addr) (D : Cell) (fV fC : Field) (b : Addr) (A : Cell) (z : Int32) : Law l yN 2 1 3 52 yB 2 none site (P a D fV fC b A z) (E a D fV fC A) [⟨a, fC.slot⟩, ⟨a, fV.slot⟩] 1 A.slots.size := by
  refine Law.of_walk (plainFor_of_name (by decide +kernel)) (by decide +kernel) (by decide +kernel) (by decide) (fun _ _ h => by rw [h.1]; rfl) (fun _ U U' hal hh h => ⟨h.1, h.2.1.mv hal hh, h.2.2.1.al hal, h.2.2.2.1.al hal, h.2.2.2.2.1.mv hal hh, h.2.2.2.2.2.1.there hal hh, h.2.2.2.2.2.2⟩) (fun r U U' V V' h1 hal h2 h => Got.mv r U U' V V' h1 hal h2 h) ?_
  intro p e s m args below meth c s₁ X0 hexec hbytes hml hret hlk hnm hown hh0 W hP
  obtain ⟨rfl, hB, f1, f2, hA, s1, hz, l0, l2, hp⟩ := hP
  have c1 : Steps p.tables e below (s₁.setTop (entryFrame m #[.ref a, .ref b] 2)) (s₁.setTop (mkF m 0 #[.val (.ref a), .val (.ref b)] [])) := entry rfl
  have c2 : Steps p.tables e below (s₁.setTop (entryFrame m #[.ref a, .ref b] 2)) (s₁.setTop (mkF m 6 #[.val (.ref a), .val (.ref b)] [.null, .int (Int32.ofNat A.slots.size), .int 0, .ref b, .ref a])) := c1.trans (by
    refine XS.aloadN X0.here hexec rfl (hb hbytes d0) rfl rfl ?_
    refine XS.aloadN X0.here hexec rfl (hb hbytes d1) rfl rfl ?_
    refine iconstV X0.here hexec rfl 0 (hb hbytes d2) (by decide) ?_
    refine XS.aloadN X0.here hexec rfl (hb hbytes d3) rfl rfl ?_
    refine X0.alen hexec (hA.1.mv X0.warmed.alike hh0) rfl rfl (hb hbytes d4) ?_
    refine XS.aconstNull X0.here hexec rfl (hb hbytes d5) ?_
    exact Steps.refl _)
  obtain ⟨v3, T3, X3, E3, g3⟩ := X0.callN hexec (New4.law l a D fV fC b A z 0 A.slots.size) rfl hown (wks W (initW "java/lang/String" 27 New4.yN)) (W New4.tab (by simp only [site, List.mem_cons, List.mem_append, true_or, or_true])) (W := 0) (Nat.le_of_ble_eq_true rfl) (Nat.le_of_ble_eq_true rfl) (Nat.le_refl _) (by show 0 + A.slots.size ≤ A.slots.size; omega) (g := (mkF m 6 #[.val (.ref a), .val (.ref b)] [.null, .int (Int32.ofNat A.slots.size), .int (Int32.ofNat 0), .ref b, .ref a])) rfl (by rw [hml]; rfl) c2 (argsL := [.ref b, .int (Int32.ofNat 0), .int (Int32.ofNat A.slots.size), .null]) (rest := []) rfl rfl (by show 2 * 0 + 0 ≤ _; decide) (hb hbytes d6) (⟨rfl, hB.mv X0.warmed.alike hh0, f1.al X0.warmed.alike, f2.al X0.warmed.alike, hA.mv X0.warmed.alike hh0, s1.there X0.warmed.alike hh0, hz, l0, by omega, l2, fun i hi => by rw [Nat.zero_add]; exact hp i hi⟩)
  have e0 := Got.mv _ s₁ s _ _ hh0.symm (Vm.Alike.refl _) rfl E3
  obtain rfl := e0.1
  have c4 : Steps p.tables e below (s₁.setTop (entryFrame m #[.ref a, .ref b] 2)) (T3.setTop (mkF m 9 #[.val (.ref a), .val (.ref b)] [])) := g3
  exact ⟨T3, none, _, _, _, X3, by simp, rfl, by omega, (fun _ => rfl), e0, fun fs hl => c4.trans (X3.returnOut hexec hret (hb hbytes d9) hl)⟩
theorem pays {l : Launch} {R : Room} {p : Program} {e : Env} {below : List Frame} {s : State} {sargs : Array Value} {len W : Nat} (a : Addr) (D : Cell) (fV fC : Field) (b : Addr) (A : Cell) (z : Int32) (htab : tab.before sargs s = true) (hfr : 4 ≤ R.frames) (hlo : W + 65 ≤ R.locals) :
    Back l R p e below s sargs yN len W (fun A₁ a₁ => A₁.cells + 1 ≤ R.cells ∧ A₁.slots + A.slots.size ≤ R.slots ∧ P a D fV fC b A z a₁ A₁.U) (fun A₁ _ v₁ B₁ => E a D fV fC A v₁ A₁.U B₁.U ∧ B₁.locs = A₁.locs ++ [⟨a, fC.slot⟩, ⟨a, fV.slot⟩] ∧ B₁.cells = A₁.cells + 1 ∧ B₁.slots = A₁.slots + A.slots.size) :=
  (law l a D fV fC b A z).pays htab hfr (by omega)
end New1
end StrChars
namespace StrChars.Road
open Jvm Sem ClassFile Op Lib Jvm.Stand Jvm.Free Jvm.Free.XT
open Jvm.Lib.Cold (StaticIs)
abbrev ST : String := "java/lang/String"
/-- every table word that New1's law asks, flat -/
abbrev words : List Jvm.Cond := [.code New1.yN New1.yB 2 none, .initialized ST, .methodLink ST 27 New4.yN, .instanceMethod New4.yN,
  .code New4.yN New4.yB 6 none, .fieldLink ST 38 ST "COMPACT_STRINGS" "Z", .laysFinal ST ST "value" "[B", .fieldLink ST 9 ST "value" "[B", .laysFinal ST ST "coder" "B", .fieldLink ST 15 ST "coder" "B",
  .methodLink ST 1 Lib.objectInit, .instanceMethod Lib.objectInit, .code Lib.objectInit ⟨#[0xb1]⟩ 1 none, .methodLink ST 177 Cmp3.yN, .static Cmp3.yN, .methodLink ST 47 CodL.yN, .static CodL.yN,
  .code Cmp3.yN Cmp3.yB 6 (some (.array .byte)), .initialized U16, .arrayClass .byte, .methodLink U16 115 Cmp5.yN, .static Cmp5.yN, .code Cmp5.yN Cmp5.yB 7 (some .int), .code CodL.yN CodL.yB 2 (some .byte)]
theorem tab_of {a : Array Value} {s : State} (h : ∀ w ∈ words, w.before a s = true) : New1.tab.before a s = true := by
  have h5 : Cmp5.tab.before a s = true := unparts (wk h (.code Cmp5.yN Cmp5.yB 7 (some .int))) (wks h (.initialized Cmp5.yN.cls :: Cmp5.site))
  have hc : CodL.tab.before a s = true := unparts (wk h (.code CodL.yN CodL.yB 2 (some .byte))) (wks h (.initialized CodL.yN.cls :: CodL.site))
  have q5 : ∀ w ∈ Cmp5.tab :: words, w.before a s = true := fun w hw => (List.mem_cons.mp hw).elim (fun e => e ▸ h5) (h w)
  have h3 : Cmp3.tab.before a s = true := unparts (wk q5 (.code Cmp3.yN Cmp3.yB 6 (some (.array .byte)))) (wks q5 (.initialized Cmp3.yN.cls :: Cmp3.site))
  have q3 : ∀ w ∈ Cmp3.tab :: CodL.tab :: words, w.before a s = true := fun w hw => (List.mem_cons.mp hw).elim (fun e => e ▸ h3) fun hw => (List.mem_cons.mp hw).elim (fun e => e ▸ hc) (h w)
  have h4 : New4.tab.before a s = true := unparts (wk q3 (.code New4.yN New4.yB 6 none)) (wks q3 (.initialized New4.yN.cls :: New4.site))
  have q4 : ∀ w ∈ New4.tab :: words, w.before a s = true := fun w hw => (List.mem_cons.mp hw).elim (fun e => e ▸ h4) (h w)
  exact unparts (wk q4 (.code New1.yN New1.yB 2 none)) (wks q4 (.initialized New1.yN.cls :: New1.site))
/-- the words ride from the start Z to the walk's own state -/
theorem moved {Z s : State} {a0 args : Array Value} (hZ : Z.Warmed39 s.vm) (hw : ∀ d ∈ words, d.before a0 Z = true) : ∀ d ∈ words, d.before args s = true := fun d hd => by
  have q := hw d hd
  have t : ∀ d ∈ words, d = .arrayClass .byte ∨ (d.onTables && d.keepsFace) = true := by decide +kernel
  rcases t d hd with rfl | t
  · exact RoadKit.mvA hZ q
  · exact RoadKit.mv hZ q t
/-- WHAT COMES BACK, over the tables of the start Z: h the heap at the call, h' behind it -/
def Q (Z : State) (x : Addr) (A : Cell) (h : Heap) (v : Option Value) (h' : Heap) (L : List Loc) : Prop := v = none ∧ (∀ y ∈ L, y.base = x) ∧ RoadKit.Keep h h' [x] ∧ h'.size = h.size + 1 ∧ RoadKit.Exa Z h' x ST ∧ RoadKit.Fld Z h' x ST "value" "[B" (.ref h.size) ∧ RoadKit.Fld Z h' x ST "coder" "B" (.int 0) ∧
  (∃ V : Cell, RoadKit.Arr Z h' h.size V .byte ∧ V.vm = .none ∧ Z.vm.findClass "[B" = some V.cls ∧ V.slots.size = A.slots.size ∧ ∀ j, j < A.slots.size → V.slots[j]? = some (.int (lo8 (cv A j)))) ∧
  ∀ (O n d : String) (w : Value), RoadKit.Fld Z h x O n d w → RoadKit.slotOf Z O n d ≠ RoadKit.slotOf Z ST "value" "[B" → RoadKit.slotOf Z O n d ≠ RoadKit.slotOf Z ST "coder" "B" → RoadKit.Fld Z h' x O n d w
/-- **new String(chars) AT A CALL, IN THE ROAD'S FORM**: for specialBack behind newO: x the fresh String, b the char[] with the cell A -/
theorem back {p : Program} {l : Launch} {e : Env} {R : Room} {s : State} {args : Array Value} {below : List Frame} {len W : Nat} {Z : State} {a0 : Array Value} {h : Heap} (hZ : Z.Warmed39 s.vm) (hw : ∀ d ∈ words, d.before a0 Z = true) {kI : Nat} (wi : (Jvm.Cond.instantiable ST kI).before a0 Z = true)
    {x b : Addr} {A : Cell} {z : Int32} {v0 c0 : Value} (E : RoadKit.Exa Z h x ST) (V : RoadKit.Fld Z h x ST "value" "[B" v0) (C : RoadKit.Fld Z h x ST "coder" "B" c0) (K : RoadKit.Arr Z h b A .char) (hty : Typed .char A) (S : RoadKit.Sta Z h ST "COMPACT_STRINGS" "Z" (.int z)) (hz : ¬ z = 0)
    (l0 : 0 < A.slots.size) (l2 : A.slots.size ≤ 536870912) (hp : ∀ i, i < A.slots.size → ¬ 255 < cv A i) (hfr : 4 ≤ R.frames) (hlo : W + 65 ≤ R.locals) :
    Back l R p e below s args New1.yN len W (fun P a => a = #[.ref x, .ref b] ∧ P.U.heap = h ∧ P.cells + 1 ≤ R.cells ∧ P.slots + A.slots.size ≤ R.slots)
      (fun P _ v B => ∃ L, Q Z x A h v B.U.heap L ∧ B.locs = P.locs ++ L ∧ B.cells = P.cells + 1 ∧ B.slots = P.slots + A.slots.size) := by
  intro m meth c P g ig mk a X hg hsize hdg hW hn hp'
  obtain ⟨rfl, rfl, r1, r2⟩ := hp'
  have al : Z.vm.Alike P.U.vm := hZ.alike.trans X.warmed.alike
  obtain ⟨D, cfV, kV, iV, fV, hD, gV, stV, knV, obV, asV, slV⟩ := id V
  obtain ⟨D', cfC, kC, iC, fC, hD', gC, stC, -, -, asC, slC⟩ := id C
  cases hD.symm.trans hD'
  obtain ⟨D2, kD, e1, e2, e3, e4, e5⟩ := id E
  cases hD.symm.trans e1
  obtain ⟨c2, k2, i1, i2, i3, -⟩ := Cond.instantiable_spec wi
  cases e2.symm.trans i1
  cases e3.symm.trans i2
  obtain ⟨kU, u1, u2⟩ := al.2.2 _ _ e3
  have hB : Blank ST x D P.U := ⟨hD, ⟨knV, fun q hq => by rw [hq] at obV; cases obV⟩, by rw [al.findClass]; exact e2, kU, u1, by rw [u2]; exact i3, by rw [u2]; exact e5 i3⟩
  have F1 : Found ST "value" "[B" fV P.U := ⟨SBG.found_only al ⟨cfV, kV, iV, gV⟩, stV⟩
  have F2 : Found ST "coder" "B" fC P.U := ⟨SBG.found_only al ⟨cfC, kC, iC, gC⟩, stC⟩
  have hA : Ch b A P.U := ⟨⟨K.1, State.isArrayOf_alike al K.2.1, K.2.2, by omega⟩, hty⟩
  have hS : StaticIs P.U ST "COMPACT_STRINGS" "Z" (.int z) := by
    obtain ⟨cfS, iS, kS, fS, st, cS, t1, t2, t3, t4, t5, t6, t7⟩ := S
    exact StaticIs.there (s := { Z with heap := P.U.heap }) ⟨cfS, iS, kS, fS, st, cS, t1, t2, t3, t4, t5, (fun q => by rw [q] at t6; cases t6), t7⟩ al rfl
  obtain ⟨v, B, X', ⟨⟨hv, E', V', q1, q2, q3, q4, q5, q6, q7, q8, q9, q10, q11⟩, hl, hc, hs⟩, st⟩ := New1.pays x D fV fC b A z (tab_of (moved hZ hw)) hfr hlo m meth c P g ig mk _ X hg hsize hdg hW hn ⟨r1, r2, rfl, hB, F1, F2, hA, hS, hz, l0, l2, hp⟩
  have al' : Z.vm.Alike B.U.vm := hZ.alike.trans X'.warmed.alike
  have hsz : E'.slots.size = D.slots.size := by
    obtain ⟨-, -, -, kB, w1, w2, w3⟩ := q1
    obtain ⟨kB', y1, y2⟩ := al'.2.2 _ _ e3
    rw [q2.2.1] at w1
    cases w1.symm.trans y1
    rw [w3, e5 i3, y2]
  refine ⟨v, B, X', ⟨_, ⟨hv, ?_, ⟨by omega, fun y cy hy hn' => q10 y cy (by simpa using hn') hy, fun y cy hy => ?_⟩, q11, ⟨E', _, q1.1, by rw [q2.2.1]; exact e2, by rw [q2.2.1]; exact e3, by rw [q2.1]; exact obV, fun _ => by rw [hsz]; exact e5 i3⟩,
    ⟨E', cfV, kV, iV, fV, q1.1, gV, stV, by rw [q2.1]; exact knV, by rw [q2.1]; exact obV, by rw [q2.2.1]; exact asV, q3⟩, ⟨E', cfC, kC, iC, fC, q1.1, gC, stC, by rw [q2.1]; exact knV, by rw [q2.1]; exact obV, by rw [q2.2.1]; exact asC, q4⟩,
    ⟨V', ⟨q5.1, State.isArrayOf_alike al'.symm q5.2.1, q5.2.2.1⟩, q6, by rw [← al'.findClass]; exact q7, q8, fun j hj => by have := q9 j hj; rwa [Nat.zero_add] at this⟩, fun O n d w F n1 n2 => ?_⟩, hl, hc, hs⟩, st⟩
  · intro y hy
    simp only [List.mem_cons, List.not_mem_nil, or_false] at hy
    rcases hy with rfl | rfl <;> rfl
  · by_cases q : y = x
    · subst q
      cases hD.symm.trans hy
      exact ⟨E', q1.1, q2.2.1, q2.1, hsz⟩
    · exact ⟨cy, q10 y cy q hy, rfl, rfl, rfl⟩
  · obtain ⟨D3, cf, k, i, f, g1, g2, g3, g4, g5, g6, g7⟩ := F
    cases hD.symm.trans g1
    simp only [RoadKit.slotOf, g2, gV, gC, Option.map_some, Option.getD_some] at n1 n2
    exact ⟨E', cf, k, i, f, q1.1, g2, g3, by rw [q2.1]; exact g4, by rw [q2.1]; exact g5, by rw [q2.2.1]; exact g6, by rw [q2.2.2 f.slot (by simp [n1, n2])]; exact g7⟩
end StrChars.Road
namespace StrChars.Road
open Jvm Sem ClassFile Op Lib Jvm.Stand Jvm.Free Jvm.Free.XT
/-- WHAT COMES BACK, the byte[] as a list of values -/
def QA (Z : State) (x : Addr) (zn : Int32) (cs : List Int32) (h : Heap) (v : Option Value) (h' : Heap) (L : List Loc) : Prop := v = none ∧ (∀ y ∈ L, y.base = x) ∧ RoadKit.Keep h h' [x] ∧ h'.size = h.size + 1 ∧ RoadKit.Exa Z h' x ST ∧ RoadKit.Fld Z h' x ST "value" "[B" (.ref h.size) ∧ RoadKit.Fld Z h' x ST "coder" "B" (.int 0) ∧
  (∃ kb, Z.vm.findClass "[B" = some kb ∧ RoadKit.Arv Z h' h.size kb .byte zn (cs.map fun c => .int (lo8 c)) (.int 0)) ∧
  ∀ (O n d : String) (w : Value), RoadKit.Fld Z h x O n d w → RoadKit.slotOf Z O n d ≠ RoadKit.slotOf Z ST "value" "[B" → RoadKit.slotOf Z O n d ≠ RoadKit.slotOf Z ST "coder" "B" → RoadKit.Fld Z h' x O n d w
/-- **new String(chars) AT A CALL, THE ARRAYS AS LISTS**: the char[] at b holds cs, not empty, no char above 255 -/
theorem backArv {p : Program} {l : Launch} {e : Env} {R : Room} {s : State} {args : Array Value} {below : List Frame} {len W : Nat} {Z : State} {a0 : Array Value} {h : Heap} (hZ : Z.Warmed39 s.vm) (hw : ∀ d ∈ words, d.before a0 Z = true) {kI : Nat} (wi : (Jvm.Cond.instantiable ST kI).before a0 Z = true)
    {x b : Addr} {k : ClassId} {zn z : Int32} {cs : List Int32} {dv v0 c0 : Value} (E : RoadKit.Exa Z h x ST) (V : RoadKit.Fld Z h x ST "value" "[B" v0) (C : RoadKit.Fld Z h x ST "coder" "B" c0) (K : RoadKit.Arv Z h b k .char zn (cs.map Value.int) dv) (S : RoadKit.Sta Z h ST "COMPACT_STRINGS" "Z" (.int z)) (hz : ¬ z = 0)
    (hlen : zn.toNatClampNeg = cs.length) (h0 : 0 < cs.length) (hbig : cs.length ≤ 536870912) (hall : ∀ c ∈ cs, ¬ 255 < c) (hfr : 4 ≤ R.frames) (hlo : W + 65 ≤ R.locals) :
    Back l R p e below s args New1.yN len W (fun P a => a = #[.ref x, .ref b] ∧ P.U.heap = h ∧ P.cells + 1 ≤ R.cells ∧ P.slots + cs.length ≤ R.slots)
      (fun P _ v B => ∃ L, QA Z x zn cs h v B.U.heap L ∧ B.locs = P.locs ++ L ∧ B.cells = P.cells + 1 ∧ B.slots = P.slots + cs.length) := by
  obtain ⟨A, K1, K2, K3, K4, K5, K6⟩ := K
  have e : A.slots.size = cs.length := K3.trans hlen
  have hat : ∀ (i : Nat) (hi : i < cs.length), A.slots[i]? = some (.int cs[i]) := fun i hi => by rw [K5 i (by omega)]; simp [List.getD_eq_getElem?_getD, hi]
  have hcv : ∀ (i : Nat) (hi : i < cs.length), cv A i = cs[i] := fun i hi => by unfold cv; rw [hat i hi]
  have hty : Typed .char A := fun i v hv => by
    have hi : i < A.slots.size := (Array.getElem?_eq_some_iff.mp hv).1
    have q := K5 i hi
    rw [hv] at q
    rw [Option.some.inj q]
    exact K6 i hi
  refine Back.mono (back hZ hw wi E V C K1 hty S hz (by omega) (by omega) (fun i hi => by rw [hcv i (by omega)]; exact hall _ (List.getElem_mem _)) hfr hlo) (fun P a hp => ⟨hp.1, hp.2.1, hp.2.2.1, by rw [e]; exact hp.2.2.2⟩) (fun P a v B hp hq => ?_)
  obtain ⟨L, ⟨q1, q2, q3, q4, q5, q6, q7, ⟨V', v1, v2, v3, v4, v5⟩, q9⟩, hl, hc, hs⟩ := hq
  refine ⟨L, ⟨q1, q2, q3, q4, q5, q6, q7, ⟨V'.cls, v3, V', v1, rfl, by rw [v4, e, hlen], K4, fun i hi => ?_, fun i hi => ?_⟩, q9⟩, hl, hc, by rw [hs, e]⟩
  · have hi' : i < cs.length := by omega
    rw [v5 i (by omega), hcv i hi']; simp [List.getD_eq_getElem?_getD, hi']
  · have hi' : i < cs.length := by omega
    simp only [List.getD_eq_getElem?_getD, List.getElem?_map, List.getElem?_eq_getElem hi', Option.map_some, Option.getD_some]
    exact fits_lo8 _
end StrChars.Road
namespace StrChars.Road
open Jvm Sem ClassFile Op Lib Jvm.Stand Jvm.Free Jvm.Free.XT
/-- WHAT COMES BACK, in the writer's own shape -/
def QV (Z : State) (x : Addr) (N : Int32) (bs : List Int32) (h : Heap) (n0 : Nat) (v : Option Value) (h' : Heap) (L : List Loc) : Prop := v = none ∧ RoadKit.Fr n0 L ∧ RoadKit.Keep h h' [x] ∧ RoadKit.Exa Z h' x ST ∧ RoadKit.Fld Z h' x ST "coder" "B" (.int 0) ∧
  ∃ (t : Addr) (kb : ClassId), n0 ≤ t ∧ h.size ≤ t ∧ ¬ t = x ∧ RoadKit.Fld Z h' x ST "value" "[B" (.ref t) ∧ RoadKit.Arv Z h' t kb .byte N (bs.map Value.int) (.int 0)
/-- **new String(chars) AT A CALL, FOR THE WRITER**: a char[] of n known ints, each 0 to 255 -/
theorem backV {p : Program} {l : Launch} {e : Env} {R : Room} {s : State} {args : Array Value} {below : List Frame} {len W : Nat} {Z : State} {a0 : Array Value} {h : Heap} (hZ : Z.Warmed39 s.vm) (hw : ∀ d ∈ words, d.before a0 Z = true) {kI : Nat} (wi : (Jvm.Cond.instantiable ST kI).before a0 Z = true)
    {x b : Addr} {kC : ClassId} {cs bs : List Int32} {d v0 c0 : Value} {z N : Int32} {n n0 : Nat} (hx0 : n0 ≤ x) (hh0 : n0 ≤ h.size) (E : RoadKit.Exa Z h x ST) (V : RoadKit.Fld Z h x ST "value" "[B" v0) (C : RoadKit.Fld Z h x ST "coder" "B" c0) (K : RoadKit.Arv Z h b kC .char N (cs.map Value.int) d) (S : RoadKit.Sta Z h ST "COMPACT_STRINGS" "Z" (.int z)) (hz : ¬ z = 0)
    (hn : cs.length = n) (hN : N = Int32.ofNat n) (l0 : 0 < n) (l2 : n ≤ 4000) (hp : ∀ c ∈ cs, ¬ c < 0 ∧ ¬ (255 : Int32) < c) (hb : bs = cs.map (fun c => c.toInt8.toInt32)) (hfr : 4 ≤ R.frames) (hlo : W + 65 ≤ R.locals) :
    Back l R p e below s args (⟨"java/lang/String", "<init>", "([C)V"⟩ : MethodName) len W (fun P a => a = #[.ref x, .ref b] ∧ P.U.heap = h ∧ P.cells + 1 ≤ R.cells ∧ P.slots + n ≤ R.slots)
      (fun P _ v B => ∃ L, QV Z x N bs h n0 v B.U.heap L ∧ B.locs = P.locs ++ L ∧ B.cells = P.cells + 1 ∧ B.slots = P.slots + n) := by
  subst hn hN hb
  refine Back.mono (backArv hZ hw wi E V C K S hz (n32 (by omega)) l0 (by omega) (fun c hc => (hp c hc).2) hfr hlo) (fun P a hp => hp) (fun P a v B hp hq => ?_)
  obtain ⟨L, ⟨q1, q2, q3, q4, q5, q6, q7, ⟨kb, v1, v2⟩, q9⟩, hl, hc, hs⟩ := hq
  exact ⟨L, ⟨q1, fun y hy => by rw [q2 y hy]; exact hx0, q3, q5, q7, h.size, kb, hh0, Nat.le_refl _, Nat.ne_of_gt E.lt, q6, by rw [List.map_map]; exact v2⟩, hl, hc, hs⟩
end StrChars.Road
end Jvm.Pilot.@@N@@

namespace Jvm.Pilot.@@N@@
open Jvm Jvm.ClassFile Sem Op Lib Jvm.Free Jvm.Stand Jvm.LawKit Jvm.RoadKit Bundle Jvm.Pilot.@@N@@.Jvm.D
section Own
variable {p : Program} {l : Launch} {e : Env} {R : Room} {s : State} {m : MethodId} {args : Array Value} {below : List Frame} {meth : Method} {c : Code} {T : State} {locs : List Loc} {cells slots : Nat} {Q : Option Value → Heap → List Loc → Prop} {C S : Nat}
abbrev vi (x : Int32) : Slot := .val (.int x)
abbrev vr (x : Addr) : Slot := .val (.ref x)
theorem own_w {a0 : Array Value} {Z : State} (hw : ∀ d ∈ tables_1, d.before a0 Z = true) (i : Nat) {d : Cond} (h : tables_1[i]? = some d) : d.before a0 Z = true := hw d (List.mem_of_getElem? h)
def Goes (p : Program) (e : Env) (below : List Frame) (P : Outcome → State → Prop) (A : State) : Prop :=
  ∃ s₂ o, Steps p.tables e below A s₂ ∧ s₂.status = .running ∧ Ended s₂ below o ∧ P o s₂
def Fin_ (s : State) (Q : Option Value → Heap → List Loc → Prop) (C S : Nat) (o : Outcome) (U' : State) : Prop :=
  ∃ v L, o = .returned v ∧ Q v U'.heap L ∧ FrameEnd s o U' L C S
theorem Goes.via {P : Outcome → State → Prop} {A B : State} (st : ∀ t, Steps p.tables e below B t → Steps p.tables e below A t) (k : Goes p e below P B) : Goes p e below P A := by
  obtain ⟨s₂, o, h1, h2⟩ := k
  exact ⟨s₂, o, st _ h1, h2⟩
theorem Goes.tr {P : Outcome → State → Prop} {A B : State} (st : Steps p.tables e below A B) (k : Goes p e below P B) : Goes p e below P A := by
  obtain ⟨s₂, o, h1, h2⟩ := k
  exact ⟨s₂, o, st.trans h1, h2⟩
theorem gIL (X : Stand p l e R s m args below meth c T locs cells slots) (hx : p.tables.exec = Jvm.exec) {code : ByteArray} (hby : c.code = code) {pc : Nat} {Ls : Array Slot} {S : List Value} {F : Outcome → State → Prop} {k : Nat} {v : Int32} (hd : decode code pc = .ok (.iload k, 2)) (hl : Ls[k]? = some (.val (.int v))) (G : Goes p e below F (T.setTop (mkF m (pc + 2) Ls (.int v :: S)))) : Goes p e below F (T.setTop (mkF m pc Ls (S))) := Goes.via (fun _ kk_ => XS.iload X.here hx rfl (hb hby hd) hl kk_) G
theorem gILN (X : Stand p l e R s m args below meth c T locs cells slots) (hx : p.tables.exec = Jvm.exec) {code : ByteArray} (hby : c.code = code) {pc : Nat} {Ls : Array Slot} {S : List Value} {F : Outcome → State → Prop} {k : Fin 4} {v : Int32} (hd : decode code pc = .ok (.iload_n k, 1)) (hl : Ls[k.val]? = some (.val (.int v))) (G : Goes p e below F (T.setTop (mkF m (pc + 1) Ls (.int v :: S)))) : Goes p e below F (T.setTop (mkF m pc Ls (S))) := Goes.via (fun _ kk_ => XS.iloadN X.here hx rfl (hb hby hd) hl kk_) G
theorem gAL (X : Stand p l e R s m args below meth c T locs cells slots) (hx : p.tables.exec = Jvm.exec) {code : ByteArray} (hby : c.code = code) {pc : Nat} {Ls : Array Slot} {S : List Value} {F : Outcome → State → Prop} {k : Nat} {v : Value} (hd : decode code pc = .ok (.aload k, 2)) (hl : Ls[k]? = some (.val v)) (hv : v.isRef = true) (G : Goes p e below F (T.setTop (mkF m (pc + 2) Ls (v :: S)))) : Goes p e below F (T.setTop (mkF m pc Ls (S))) := Goes.via (fun _ kk_ => XS.aload X.here hx rfl (hb hby hd) hl hv kk_) G
theorem gALN (X : Stand p l e R s m args below meth c T locs cells slots) (hx : p.tables.exec = Jvm.exec) {code : ByteArray} (hby : c.code = code) {pc : Nat} {Ls : Array Slot} {S : List Value} {F : Outcome → State → Prop} {k : Fin 4} {v : Value} (hd : decode code pc = .ok (.aload_n k, 1)) (hl : Ls[k.val]? = some (.val v)) (hv : v.isRef = true) (G : Goes p e below F (T.setTop (mkF m (pc + 1) Ls (v :: S)))) : Goes p e below F (T.setTop (mkF m pc Ls (S))) := Goes.via (fun _ kk_ => XS.aloadN X.here hx rfl (hb hby hd) hl hv kk_) G
theorem gIC {z : Int32} (X : Stand p l e R s m args below meth c T locs cells slots) (hx : p.tables.exec = Jvm.exec) {code : ByteArray} (hby : c.code = code) {pc : Nat} {Ls : Array Slot} {S : List Value} {F : Outcome → State → Prop} {i : Int} (hd : decode code pc = .ok (.iconst i, 1)) (hz : Int32.ofInt i = z) (G : Goes p e below F (T.setTop (mkF m (pc + 1) Ls (.int z :: S)))) : Goes p e below F (T.setTop (mkF m pc Ls S)) := by
  subst hz
  exact Goes.via (fun _ kk_ => XS.iconst X.here hx rfl (hb hby hd) kk_) G
theorem gBI {z : Int32} (X : Stand p l e R s m args below meth c T locs cells slots) (hx : p.tables.exec = Jvm.exec) {code : ByteArray} (hby : c.code = code) {pc : Nat} {Ls : Array Slot} {S : List Value} {F : Outcome → State → Prop} {i : Int} (hd : decode code pc = .ok (.bipush i, 2)) (hz : (Int8.ofInt i).toInt32 = z) (G : Goes p e below F (T.setTop (mkF m (pc + 2) Ls (.int z :: S)))) : Goes p e below F (T.setTop (mkF m pc Ls S)) := by
  subst hz
  exact Goes.via (fun _ kk_ => XS.bipush X.here hx rfl (hb hby hd) kk_) G
theorem gSI {z : Int32} (X : Stand p l e R s m args below meth c T locs cells slots) (hx : p.tables.exec = Jvm.exec) {code : ByteArray} (hby : c.code = code) {pc : Nat} {Ls : Array Slot} {S : List Value} {F : Outcome → State → Prop} {i : Int} (hd : decode code pc = .ok (.sipush i, 3)) (hz : (Int16.ofInt i).toInt32 = z) (G : Goes p e below F (T.setTop (mkF m (pc + 3) Ls (.int z :: S)))) : Goes p e below F (T.setTop (mkF m pc Ls S)) := by
  subst hz
  exact Goes.via (fun _ kk_ => XS.sipush X.here hx rfl (hb hby hd) kk_) G
theorem gDU (X : Stand p l e R s m args below meth c T locs cells slots) (hx : p.tables.exec = Jvm.exec) {code : ByteArray} (hby : c.code = code) {pc : Nat} {Ls : Array Slot} {S : List Value} {F : Outcome → State → Prop} {v : Value} (hd : decode code pc = .ok (.dup, 1)) (hc : v.category = 1) (G : Goes p e below F (T.setTop (mkF m (pc + 1) Ls (v :: v :: S)))) : Goes p e below F (T.setTop (mkF m pc Ls (v :: S))) := Goes.via (fun _ kk_ => XS.dup X.here hx rfl (hb hby hd) rfl hc kk_) G
theorem own_fin {pc : Nat} {Ls : Array Slot} {st : List Value} (X : Stand p l e R s m args below meth c T locs cells slots) (hlk : meth.locks = false) {v : Option Value} (hv : meth.sig.returnType = none → v = none)
    (hstep : ∀ fs, (∀ (f : JFrame) (acts : List Action), f.method = m → f.locked = none → f.entered = [] → (doReturn e (T.setTop f) acts v).1 = T.setFrames fs) → Steps p.tables e below (T.setTop (mkF m pc Ls st)) (T.setFrames fs))
    (hQ : Q v T.heap locs) (hC : cells ≤ C) (hS : slots ≤ S) : Goes p e below (Fin_ s Q C S) (T.setTop (mkF m pc Ls st)) := by
  obtain ⟨fs, hr, hrun, hended, hW, hsame⟩ := X.leave (v := v) hv hlk
  exact ⟨_, _, hstep fs hr, hrun, hended, _, _, rfl, hQ, ⟨_, rfl⟩, hW, hsame.mono hC hS⟩
theorem own_finV {pc : Nat} {Ls : Array Slot} (X : Stand p l e R s m args below meth c T locs cells slots) (hx : p.tables.exec = Jvm.exec) (hlk : meth.locks = false) (hret : meth.sig.returnType = none)
    (hd : decode c.code pc = .ok (.return_, 1)) (hQ : Q none T.heap locs) (hC : cells ≤ C) (hS : slots ≤ S) : Goes p e below (Fin_ s Q C S) (T.setTop (mkF m pc Ls [])) :=
  own_fin X hlk (fun _ => rfl) (fun _ hr => X.returnOut hx hret hd hr) hQ hC hS
theorem own_finI {pc : Nat} {Ls : Array Slot} {z : Int32} {rest : List Value} (X : Stand p l e R s m args below meth c T locs cells slots) (hx : p.tables.exec = Jvm.exec) (hlk : meth.locks = false) (hret : meth.sig.returnType = some .int)
    (hd : decode c.code pc = .ok (.ireturn, 1)) (hQ : Q (some (.int z)) T.heap locs) (hC : cells ≤ C) (hS : slots ≤ S) : Goes p e below (Fin_ s Q C S) (T.setTop (mkF m pc Ls (.int z :: rest))) :=
  own_fin X hlk (fun h => by rw [hret] at h; cases h) (fun _ hr => retOut X hx hret rfl (Or.inl ⟨rfl, Or.inl rfl, _, rfl⟩) hd hr) hQ hC hS
theorem own_finN {pc : Nat} {Ls : Array Slot} {z : Int32} {rest : List Value} (X : Stand p l e R s m args below meth c T locs cells slots) (hx : p.tables.exec = Jvm.exec) (hlk : meth.locks = false) {t : FieldType} (hret : meth.sig.returnType = some t)
    (ht : t = .boolean ∨ t = .byte ∨ t = .char ∨ t = .short) (hd : decode c.code pc = .ok (.ireturn, 1)) (hQ : Q (some (.int (nar t z))) T.heap locs) (hC : cells ≤ C) (hS : slots ≤ S) : Goes p e below (Fin_ s Q C S) (T.setTop (mkF m pc Ls (.int z :: rest))) :=
  own_fin X hlk (fun h => by rw [hret] at h; cases h) (fun _ hr => retN X hx hret ht hd hr) hQ hC hS
theorem own_finJ {pc : Nat} {Ls : Array Slot} {z : Int64} {rest : List Value} (X : Stand p l e R s m args below meth c T locs cells slots) (hx : p.tables.exec = Jvm.exec) (hlk : meth.locks = false) (hret : meth.sig.returnType = some .long)
    (hd : decode c.code pc = .ok (.lreturn, 1)) (hQ : Q (some (.long z)) T.heap locs) (hC : cells ≤ C) (hS : slots ≤ S) : Goes p e below (Fin_ s Q C S) (T.setTop (mkF m pc Ls (.long z :: rest))) :=
  own_fin X hlk (fun h => by rw [hret] at h; cases h) (fun _ hr => retOut X hx hret rfl (Or.inr (Or.inl ⟨rfl, rfl, _, rfl⟩)) hd hr) hQ hC hS
theorem own_finR {pc : Nat} {Ls : Array Slot} {w : Value} {rest : List Value} (X : Stand p l e R s m args below meth c T locs cells slots) (hx : p.tables.exec = Jvm.exec) (hlk : meth.locks = false) {t : FieldType} (hret : meth.sig.returnType = some t) (ht : t.isReference = true) (hw : w.isRef = true) (hn : narrow t w = w)
    (hd : decode c.code pc = .ok (.areturn, 1)) (hQ : Q (some w) T.heap locs) (hC : cells ≤ C) (hS : slots ≤ S) : Goes p e below (Fin_ s Q C S) (T.setTop (mkF m pc Ls (w :: rest))) :=
  own_fin X hlk (fun h => by rw [hret] at h; cases h) (fun _ hr => retOut X hx hret hn (Or.inr (Or.inr (Or.inr (Or.inr ⟨rfl, ht, hw⟩)))) hd hr) hQ hC hS
theorem own_sta_keep {Z : State} {h h' : Heap} {C n d : String} {v : Value} (F : Sta Z h C n d v) (K : Keep h h' []) : Sta Z h' C n d v := by
  obtain ⟨cf, i, k, f, st, cell, h1, h2, h3, h4, h5, h6⟩ := F
  exact ⟨cf, i, k, f, st, cell, h1, h2, h3, h4, K.2.1 _ _ h5 nin0, h6⟩
theorem own_mask (x : Int32) : ¬ (x &&& (2147483647 : Int32)) < (0 : Int32) := by
  intro q
  have q1 := (c_and x 2147483647 (by decide)).1
  have q2 := Int32.lt_iff_toInt_lt.mp q
  have q3 : (0 : Int32).toInt = 0 := by decide
  omega
theorem own_and255 (x : Int32) : ¬ (x &&& (255 : Int32)) < 0 ∧ ¬ (255 : Int32) < (x &&& (255 : Int32)) := by
  have q1 := c_and x 255 (by decide)
  have q3 : (0 : Int32).toInt = 0 := by decide
  have q4 : (255 : Int32).toInt = 255 := by decide
  constructor
  · intro q
    have q2 := Int32.lt_iff_toInt_lt.mp q
    omega
  · intro q
    have q2 := Int32.lt_iff_toInt_lt.mp q
    omega
theorem own_mvM {Z : State} {a0 args' : Array Value} {own host : String} {index : Nat} {y : MethodName} (hZ : Z.Warmed39 s.vm) (w : (Jvm.Cond.methodLinkNest own index y host).before a0 Z = true) : (Jvm.Cond.methodLinkNest own index y host).before args' s = true := (Jvm.Cond.methodLinkNest_wide hZ w :)
end Own
section Arrays
variable {p : Program} {l : Launch} {e : Env} {R : Room} {s : State} {m : MethodId} {args : Array Value} {below : List Frame} {meth : Method} {c : Code} {T : State} {locs : List Loc} {cells slots : Nat} {Z : State} {a0 : Array Value} {h h' : Heap} {a b : Addr} {k : ClassId} {ty : FieldType} {n : Nat} {f : Nat → Value} {ws : List Addr}
def Arw (Z : State) (h : Heap) (a : Addr) (k : ClassId) (ty : FieldType) (n : Nat) (f : Nat → Value) : Prop :=
  ∃ c : Cell, Arr Z h a c ty ∧ c.cls = k ∧ c.slots.size = n ∧ n < 2147483648 ∧ (∀ i, i < n → c.slots[i]? = some (f i)) ∧ ∀ i, i < n → fits ty (f i) = true
def own_upd (f : Nat → Value) (i : Nat) (v : Value) : Nat → Value := fun q => if q = i then v else f q
theorem own_upd_same (f : Nat → Value) (i : Nat) (v : Value) : own_upd f i v i = v := if_pos rfl
theorem own_upd_ne (f : Nat → Value) {i j : Nat} (v : Value) (q : j ≠ i) : own_upd f i v j = f j := if_neg q
theorem Arw.lt (F : Arw Z h a k ty n f) : a < h.size := by
  obtain ⟨c, A, -⟩ := F
  exact A.lt
theorem Arw.ext (F : Arw Z h a k ty n f) (E : Ext h h') : Arw Z h' a k ty n f := by
  obtain ⟨c, A, r⟩ := F
  exact ⟨c, A.ext E, r⟩
theorem Arw.other {sl : Nat} {v : Value} (F : Arw Z h b k ty n f) (W : Wr h h' a sl v) (q : b ≠ a) : Arw Z h' b k ty n f := by
  obtain ⟨c, A, r⟩ := F
  exact ⟨c, A.other W q, r⟩
theorem Arw.keep (F : Arw Z h a k ty n f) (K : Keep h h' ws) (q : a ∉ ws) : Arw Z h' a k ty n f := by
  obtain ⟨c, A, r⟩ := F
  exact ⟨c, ⟨K.2.1 _ _ A.1 q, A.2⟩, r⟩
theorem Arw.to {f' : Nat → Value} (F : Arw Z h a k ty n f) (q : ∀ i, i < n → f' i = f i) : Arw Z h a k ty n f' := by
  obtain ⟨c, A, h1, h2, h3, h4, h5⟩ := F
  exact ⟨c, A, h1, h2, h3, fun i hi => by rw [q i hi]; exact h4 i hi, fun i hi => by rw [q i hi]; exact h5 i hi⟩
theorem own_ne_arr {C : String} {kk : Nat} (F : Exa Z h a C) (wi : (Cond.instantiable C kk).before a0 Z = true) (G : Arw Z h b k ty n f) : a ≠ b := by
  obtain ⟨c, A, -⟩ := G
  exact ne_arr F wi A
theorem own_newP (X : Stand p l e R s m args below meth c T locs cells slots) (hx : p.tables.exec = Jvm.exec) (hZ : Z.Warmed39 s.vm) {aty : ArrayType} (w : (Cond.arrayClass (newarray.typeOf aty)).before a0 Z = true) (eT : T.heap = h) {g : JFrame} (hg : g.method = m)
    (hd : decode c.code g.pc = .ok (.newarray aty, 2)) {n : Int32} {rest : List Value} (hs : g.stack = .int n :: rest) {N : Nat} (hn : ¬ n < 0) (hN : n.toNatClampNeg = N) {cap : Nat} (hcap : N ≤ cap) (hb : cap * 8 ≤ 536870912) (hc : cells + 1 ≤ R.cells) (hl : slots + cap ≤ R.slots) :
    ∃ T' h' cA, Stand p l e R s m args below meth c T' locs (cells + 1) (slots + cap) ∧ T'.heap = h' ∧ Ext h h' ∧ Arw Z h' h.size cA (newarray.typeOf aty) N (fun _ => defaultValue (newarray.typeOf aty)) ∧
      ∀ target, Steps p.tables e below (T'.setTop { g with pc := g.pc + 2, stack := .ref h.size :: rest }) target → Steps p.tables e below (T.setTop g) target := by
  obtain ⟨T', h', cA, X', e', E', A', st⟩ := newP X hx hZ w eT hg hd hs hn (cap := cap) (by omega) hb hc hl
  refine ⟨T', h', cA, X', e', E', ⟨_, A', rfl, (sz_new _ _ _).trans hN, by omega, fun i hi => ?_, fun i hi => ?_⟩, st⟩
  · subst hN
    simp [newA, hi]
  · cases aty <;> rfl
theorem own_alen (X : Stand p l e R s m args below meth c T locs cells slots) (hx : p.tables.exec = Jvm.exec) (hZ : Z.Warmed39 s.vm) (eT : T.heap = h) (A : Arw Z h a k ty n f) {g : JFrame} (hg : g.method = m) {rest : List Value} (hs : g.stack = .ref a :: rest) (hd : decode c.code g.pc = .ok (.arraylength, 1)) :
    ∀ target, Steps p.tables e below (T.setTop { g with pc := g.pc + 1, stack := .int n.toInt32 :: rest }) target → Steps p.tables e below (T.setTop g) target := by
  obtain ⟨c, A, h1, h2, h3, h4, h5⟩ := A
  intro target kk
  refine X.arraylength hx (by rw [eT]; exact A.1) (State.isArrayOf_alike hZ.alike A.2.1) hg hs hd target ?_
  rw [h2]
  exact kk
theorem own_in {cl : Cell} {j : Int32} {i : Nat} (h2 : cl.slots.size = n) (hj : ¬ j < 0) (hji : j.toNatClampNeg = i) (hi : i < n) : ¬ (j < 0 ∨ cl.slots.size ≤ j.toNatClampNeg) := by
  rintro (q | q)
  · exact hj q
  · omega
theorem own_iaload (X : Stand p l e R s m args below meth c T locs cells slots) (hx : p.tables.exec = Jvm.exec) (hZ : Z.Warmed39 s.vm) (eT : T.heap = h) (A : Arw Z h a k .int n f) {j : Int32} {i : Nat} (hj : ¬ j < 0) (hji : j.toNatClampNeg = i) (hi : i < n) {v : Int32} (hv : f i = .int v)
    {g : JFrame} (hg : g.method = m) {rest : List Value} (hs : g.stack = .int j :: .ref a :: rest) (hd : decode c.code g.pc = .ok (.iaload, 1)) :
    ∀ target, Steps p.tables e below (T.setTop { g with pc := g.pc + 1, stack := .int v :: rest }) target → Steps p.tables e below (T.setTop g) target := by
  obtain ⟨cl, A, h1, h2, h3, h4, h5⟩ := A
  intro target kk
  exact X.iaload hx (by rw [eT]; exact A.1) (State.isArrayOf_alike hZ.alike A.2.1) A.2.2 (own_in h2 hj hji hi) (by rw [hji, h4 i hi, hv]) hg hs hd target kk
theorem own_laload (X : Stand p l e R s m args below meth c T locs cells slots) (hx : p.tables.exec = Jvm.exec) (hZ : Z.Warmed39 s.vm) (eT : T.heap = h) (A : Arw Z h a k .long n f) {j : Int32} {i : Nat} (hj : ¬ j < 0) (hji : j.toNatClampNeg = i) (hi : i < n) {v : Int64} (hv : f i = .long v)
    {g : JFrame} (hg : g.method = m) {rest : List Value} (hs : g.stack = .int j :: .ref a :: rest) (hd : decode c.code g.pc = .ok (.laload, 1)) :
    ∀ target, Steps p.tables e below (T.setTop { g with pc := g.pc + 1, stack := .long v :: rest }) target → Steps p.tables e below (T.setTop g) target := by
  obtain ⟨cl, A, h1, h2, h3, h4, h5⟩ := A
  intro target kk
  exact X.laload hx (by rw [eT]; exact A.1) (State.isArrayOf_alike hZ.alike A.2.1) A.2.2 (own_in h2 hj hji hi) (by rw [hji, h4 i hi, hv]) hg hs hd target kk
theorem own_aaload (X : Stand p l e R s m args below meth c T locs cells slots) (hx : p.tables.exec = Jvm.exec) (hZ : Z.Warmed39 s.vm) (eT : T.heap = h) (A : Arw Z h a k ty n f) (hty : ty.isReference = true) {j : Int32} {i : Nat} (hj : ¬ j < 0) (hji : j.toNatClampNeg = i) (hi : i < n) {v : Value} (hv : f i = v)
    {g : JFrame} (hg : g.method = m) {rest : List Value} (hs : g.stack = .int j :: .ref a :: rest) (hd : decode c.code g.pc = .ok (.aaload, 1)) :
    ∀ target, Steps p.tables e below (T.setTop { g with pc := g.pc + 1, stack := v :: rest }) target → Steps p.tables e below (T.setTop g) target := by
  obtain ⟨cl, A, h1, h2, h3, h4, h5⟩ := A
  intro target kk
  exact X.aaload hx (by rw [eT]; exact A.1) (State.isArrayOf_alike hZ.alike A.2.1) hty A.2.2 (own_in h2 hj hji hi) (by rw [hji, h4 i hi, hv]) hg hs hd target kk
theorem own_ix {j : Int32} {i : Nat} (h : j.toInt = i) : ¬ j < 0 ∧ j.toNatClampNeg = i := by
  constructor
  · intro q
    have q1 := Int32.lt_iff_toInt_lt.mp q
    have q3 : (0 : Int32).toInt = 0 := by decide
    omega
  · show j.toInt.toNat = i
    omega
theorem own_lti {x y : Int32} : x < y ↔ x.toInt < y.toInt := Int32.lt_iff_toInt_lt
theorem Arw.ofArv {z : Int32} {vs : List Value} {dv : Value} (F : Arv Z h a k ty z vs dv) (hn : z.toNatClampNeg = n) (q : ∀ i, i < n → vs.getD i dv = f i) : Arw Z h a k ty n f := by
  obtain ⟨c, A, h1, h2, h3, h4, h5⟩ := F
  have hb := (back32 h3).2
  refine ⟨c, A, h1, h2.trans hn, by omega, fun i hi => ?_, fun i hi => ?_⟩
  · rw [h4 i (by omega), q i hi]
  · rw [← q i hi]
    exact h5 i (by omega)
theorem own_set {cl : Cell} {j : Int32} {i : Nat} {v : Value} (A : Arr Z h a cl ty) (h1 : cl.cls = k) (h2 : cl.slots.size = n) (h3 : n < 2147483648) (h4 : ∀ i, i < n → cl.slots[i]? = some (f i)) (h5 : ∀ i, i < n → fits ty (f i) = true) (hv : fits ty v = true) (W : Wr h h' a j.toNatClampNeg v) (hji : j.toNatClampNeg = i) (hi : i < n) :
    Arw Z h' a k ty n (own_upd f i v) := by
  subst hji
  refine ⟨_, A.same W, h1, by rw [sz_set]; exact h2, h3, fun q hq => ?_, fun q hq => ?_⟩
  · by_cases e : q = j.toNatClampNeg
    · subst e
      rw [own_upd_same]
      simp [Cell.setSlot, h2, hq]
    · rw [own_upd_ne _ _ e, ← h4 q hq]
      simp [Cell.setSlot, Array.getElem?_setIfInBounds, Ne.symm e]
  · by_cases e : q = j.toNatClampNeg
    · subst e
      rw [own_upd_same]
      exact hv
    · rw [own_upd_ne _ _ e]
      exact h5 q hq
theorem own_iastore (X : Stand p l e R s m args below meth c T locs cells slots) (hx : p.tables.exec = Jvm.exec) (hZ : Z.Warmed39 s.vm) (eT : T.heap = h) (A : Arw Z h a k .int n f) {j : Int32} {i : Nat} (hj : ¬ j < 0) (hji : j.toNatClampNeg = i) (hi : i < n)
    {g : JFrame} (hg : g.method = m) {x : Int32} {rest : List Value} (hs : g.stack = .int x :: .int j :: .ref a :: rest) (hd : decode c.code g.pc = .ok (.iastore, 1)) :
    ∃ T' h', Stand p l e R s m args below meth c T' (locs ++ [⟨a, j.toNatClampNeg⟩]) cells slots ∧ T'.heap = h' ∧ Wr h h' a j.toNatClampNeg (.int x) ∧ Arw Z h' a k .int n (own_upd f i (.int x)) ∧
      ∀ target, Steps p.tables e below (T'.setTop { g with pc := g.pc + 1, stack := rest }) target → Steps p.tables e below (T.setTop g) target := by
  obtain ⟨cl, A, h1, h2, h3, h4, h5⟩ := A
  obtain ⟨T', h', X', e', W, st⟩ := stI X hx hZ eT A (j := j) (own_in h2 hj hji hi) hg hs hd
  exact ⟨T', h', X', e', W, own_set A h1 h2 h3 h4 h5 rfl W hji hi, st⟩
theorem own_lastore (X : Stand p l e R s m args below meth c T locs cells slots) (hx : p.tables.exec = Jvm.exec) (hZ : Z.Warmed39 s.vm) (eT : T.heap = h) (A : Arw Z h a k .long n f) {j : Int32} {i : Nat} (hj : ¬ j < 0) (hji : j.toNatClampNeg = i) (hi : i < n)
    {g : JFrame} (hg : g.method = m) {x : Int64} {rest : List Value} (hs : g.stack = .long x :: .int j :: .ref a :: rest) (hd : decode c.code g.pc = .ok (.lastore, 1)) :
    ∃ T' h', Stand p l e R s m args below meth c T' (locs ++ [⟨a, j.toNatClampNeg⟩]) cells slots ∧ T'.heap = h' ∧ Wr h h' a j.toNatClampNeg (.long x) ∧ Arw Z h' a k .long n (own_upd f i (.long x)) ∧
      ∀ target, Steps p.tables e below (T'.setTop { g with pc := g.pc + 1, stack := rest }) target → Steps p.tables e below (T.setTop g) target := by
  obtain ⟨cl, A, h1, h2, h3, h4, h5⟩ := A
  obtain ⟨T', h', X', e', W, st⟩ := stJ X hx hZ eT A (j := j) (own_in h2 hj hji hi) hg hs hd
  exact ⟨T', h', X', e', W, own_set A h1 h2 h3 h4 h5 rfl W hji hi, st⟩
theorem own_castore (X : Stand p l e R s m args below meth c T locs cells slots) (hx : p.tables.exec = Jvm.exec) (hZ : Z.Warmed39 s.vm) (eT : T.heap = h) (A : Arw Z h a k .char n f) {j : Int32} {i : Nat} (hj : ¬ j < 0) (hji : j.toNatClampNeg = i) (hi : i < n)
    {g : JFrame} (hg : g.method = m) {x : Int32} {rest : List Value} (hs : g.stack = .int x :: .int j :: .ref a :: rest) (hd : decode c.code g.pc = .ok (.castore, 1)) :
    ∃ T' h', Stand p l e R s m args below meth c T' (locs ++ [⟨a, j.toNatClampNeg⟩]) cells slots ∧ T'.heap = h' ∧ Wr h h' a j.toNatClampNeg (.int (nar .char x)) ∧ Arw Z h' a k .char n (own_upd f i (.int (nar .char x))) ∧
      ∀ target, Steps p.tables e below (T'.setTop { g with pc := g.pc + 1, stack := rest }) target → Steps p.tables e below (T.setTop g) target := by
  obtain ⟨cl, A, h1, h2, h3, h4, h5⟩ := A
  obtain ⟨T', h', X', e', W, st⟩ := stC X hx hZ eT A (j := j) (own_in h2 hj hji hi) hg hs hd
  exact ⟨T', h', X', e', W, own_set A h1 h2 h3 h4 h5 (fits_nar_char _) W hji hi, st⟩
theorem own_caload (X : Stand p l e R s m args below meth c T locs cells slots) (hx : p.tables.exec = Jvm.exec) (hZ : Z.Warmed39 s.vm) (eT : T.heap = h) (A : Arw Z h a k .char n f) {j : Int32} {i : Nat} (hj : ¬ j < 0) (hji : j.toNatClampNeg = i) (hi : i < n) {v : Int32} (hv : f i = .int v)
    {g : JFrame} (hg : g.method = m) {rest : List Value} (hs : g.stack = .int j :: .ref a :: rest) (hd : decode c.code g.pc = .ok (.caload, 1)) :
    ∀ target, Steps p.tables e below (T.setTop { g with pc := g.pc + 1, stack := .int v :: rest }) target → Steps p.tables e below (T.setTop g) target := by
  obtain ⟨cl, A, h1, h2, h3, h4, h5⟩ := A
  intro target kk
  exact X.caload hx (by rw [eT]; exact A.1) (State.isArrayOf_alike hZ.alike A.2.1) A.2.2 (own_in h2 hj hji hi) (by rw [hji, h4 i hi, hv]) hg hs hd target kk
theorem own_baload (X : Stand p l e R s m args below meth c T locs cells slots) (hx : p.tables.exec = Jvm.exec) (hZ : Z.Warmed39 s.vm) (eT : T.heap = h) (A : Arw Z h a k .byte n f) {j : Int32} {i : Nat} (hj : ¬ j < 0) (hji : j.toNatClampNeg = i) (hi : i < n) {v : Int32} (hv : f i = .int v)
    {g : JFrame} (hg : g.method = m) {rest : List Value} (hs : g.stack = .int j :: .ref a :: rest) (hd : decode c.code g.pc = .ok (.baload, 1)) :
    ∀ target, Steps p.tables e below (T.setTop { g with pc := g.pc + 1, stack := .int v :: rest }) target → Steps p.tables e below (T.setTop g) target := by
  obtain ⟨cl, A, h1, h2, h3, h4, h5⟩ := A
  intro target kk
  exact X.baloadBytes hx (by rw [eT]; exact A.1) (State.isArrayOf_alike hZ.alike A.2.1) A.2.2 (own_in h2 hj hji hi) (by rw [hji, h4 i hi, hv]) hg hs hd target kk
theorem Arw.toArv {vs : List Value} {dv : Value} {z : Int32} (F : Arw Z h a k ty n f) (hz : z.toInt = (n : Int)) (q : ∀ i, i < n → vs.getD i dv = f i) : Arv Z h a k ty z vs dv := by
  obtain ⟨c, A, h1, h2, h3, h4, h5⟩ := F
  obtain ⟨z0, zn⟩ := own_ix hz
  exact ⟨c, A, h1, h2.trans zn.symm, z0, fun i hi => by rw [h4 i (by omega), q i (by omega)], fun i hi => by rw [q i (by omega)]; exact h5 i (by omega)⟩
end Arrays
section Wide
variable {p : Program} {l : Launch} {e : Env} {R : Room} {s : State} {m : MethodId} {args : Array Value} {below : List Frame} {meth : Method} {c : Code} {T : State} {locs : List Loc} {cells slots : Nat} {Q : Option Value → Heap → List Loc → Prop} {K : State → Prop} {C S : Nat} {Z : State} {a0 : Array Value} {h h' : Heap} {vm1 : Vm} {n1 : Nat}
def Fin_W (s : State) (Q : Option Value → Heap → List Loc → Prop) (K : State → Prop) (C S : Nat) (o : Outcome) (U' : State) : Prop :=
  ∃ v L, o = .returned v ∧ Q v U'.heap L ∧ K U' ∧ ReturnedEndW s o U' L C S
theorem own_wfin {pc : Nat} {Ls : Array Slot} {st : List Value} (X : Stand p l e R (s.setVm vm1) m args below meth c T locs cells slots) (hSi : s.Since vm1 n1) (hn1 : n1 ≤ T.heap.size) (hlk : meth.locks = false) {v : Option Value} (hv : meth.sig.returnType = none → v = none)
    (hstep : ∀ fs, (∀ (f : JFrame) (acts : List Action), f.method = m → f.locked = none → f.entered = [] → (doReturn e (T.setTop f) acts v).1 = T.setFrames fs) → Steps p.tables e below (T.setTop (mkF m pc Ls st)) (T.setFrames fs))
    (hK : ∀ U : State, U.vm = T.vm → U.heap = T.heap → K U) (hQ : Q v T.heap locs) (hC : cells ≤ C) (hS : slots ≤ S) : Goes p e below (Fin_W s Q K C S) (T.setTop (mkF m pc Ls st)) := by
  obtain ⟨fs, hr, hrun, hended, hW, h1, h2, hsame⟩ := X.leaveW hSi hn1 (v := v) hv hlk
  exact ⟨_, _, hstep fs hr, hrun, hended, _, _, rfl, hQ, hK _ rfl rfl, hW, h1, h2, hsame.mono hC hS⟩
theorem own_wfinV {pc : Nat} {Ls : Array Slot} (X : Stand p l e R (s.setVm vm1) m args below meth c T locs cells slots) (hSi : s.Since vm1 n1) (hn1 : n1 ≤ T.heap.size) (hK : ∀ U : State, U.vm = T.vm → U.heap = T.heap → K U) (hx : p.tables.exec = Jvm.exec) (hlk : meth.locks = false) (hret : meth.sig.returnType = none)
    (hd : decode c.code pc = .ok (.return_, 1)) (hQ : Q none T.heap locs) (hC : cells ≤ C) (hS : slots ≤ S) : Goes p e below (Fin_W s Q K C S) (T.setTop (mkF m pc Ls [])) :=
  own_wfin X hSi hn1 hlk (fun _ => rfl) (fun _ hr => X.returnOut hx hret hd hr) hK hQ hC hS
theorem own_wfinI {pc : Nat} {Ls : Array Slot} {z : Int32} {rest : List Value} (X : Stand p l e R (s.setVm vm1) m args below meth c T locs cells slots) (hSi : s.Since vm1 n1) (hn1 : n1 ≤ T.heap.size) (hK : ∀ U : State, U.vm = T.vm → U.heap = T.heap → K U) (hx : p.tables.exec = Jvm.exec) (hlk : meth.locks = false) (hret : meth.sig.returnType = some .int)
    (hd : decode c.code pc = .ok (.ireturn, 1)) (hQ : Q (some (.int z)) T.heap locs) (hC : cells ≤ C) (hS : slots ≤ S) : Goes p e below (Fin_W s Q K C S) (T.setTop (mkF m pc Ls (.int z :: rest))) :=
  own_wfin X hSi hn1 hlk (fun h => by rw [hret] at h; cases h) (fun _ hr => retOut X hx hret rfl (Or.inl ⟨rfl, Or.inl rfl, _, rfl⟩) hd hr) hK hQ hC hS
theorem own_wfinN {pc : Nat} {Ls : Array Slot} {z : Int32} {rest : List Value} (X : Stand p l e R (s.setVm vm1) m args below meth c T locs cells slots) (hSi : s.Since vm1 n1) (hn1 : n1 ≤ T.heap.size) (hK : ∀ U : State, U.vm = T.vm → U.heap = T.heap → K U) (hx : p.tables.exec = Jvm.exec) (hlk : meth.locks = false) {t : FieldType} (hret : meth.sig.returnType = some t)
    (ht : t = .boolean ∨ t = .byte ∨ t = .char ∨ t = .short) (hd : decode c.code pc = .ok (.ireturn, 1)) (hQ : Q (some (.int (nar t z))) T.heap locs) (hC : cells ≤ C) (hS : slots ≤ S) : Goes p e below (Fin_W s Q K C S) (T.setTop (mkF m pc Ls (.int z :: rest))) :=
  own_wfin X hSi hn1 hlk (fun h => by rw [hret] at h; cases h) (fun _ hr => retN X hx hret ht hd hr) hK hQ hC hS
theorem own_wfinR {pc : Nat} {Ls : Array Slot} {w : Value} {rest : List Value} (X : Stand p l e R (s.setVm vm1) m args below meth c T locs cells slots) (hSi : s.Since vm1 n1) (hn1 : n1 ≤ T.heap.size) (hK : ∀ U : State, U.vm = T.vm → U.heap = T.heap → K U) (hx : p.tables.exec = Jvm.exec) (hlk : meth.locks = false) {t : FieldType} (hret : meth.sig.returnType = some t) (ht : t.isReference = true) (hw : w.isRef = true) (hn : narrow t w = w)
    (hd : decode c.code pc = .ok (.areturn, 1)) (hQ : Q (some w) T.heap locs) (hC : cells ≤ C) (hS : slots ≤ S) : Goes p e below (Fin_W s Q K C S) (T.setTop (mkF m pc Ls (w :: rest))) :=
  own_wfin X hSi hn1 hlk (fun h => by rw [hret] at h; cases h) (fun _ hr => retOut X hx hret hn (Or.inr (Or.inr (Or.inr (Or.inr ⟨rfl, ht, hw⟩)))) hd hr) hK hQ hC hS
/-- a callee that may intern, by its contract -/
def BackW (l : Launch) (R : Room) (p : Program) (e : Env) (below : List Frame) (s : State) (sargs : Array Value) (y : MethodName) (len W : Nat)
    (Pre : Pt → Array Value → Prop) (Post : Pt → Array Value → Option Value → Pt → Prop) : Prop :=
  ∀ (m : MethodId) (meth : Method) (c : Code) (A : Pt) (g : JFrame) (ig : Instr) (mk : MethodId) (a : Array Value),
    Stand p l e R s m sargs below meth c A.U A.locs A.cells A.slots → g.method = m → g.locals.size = c.maxLocals → decode c.code g.pc = .ok (ig, len) →
    2 * g.monitorRoom + (g.stack.map fun v => v.category).sum ≤ W → A.U.methodNamed? y = some mk → Pre A a →
    ∃ (v : Option Value) (B : Pt), Stand p l e R (s.setVm B.U.vm) m sargs below meth c B.U B.locs B.cells B.slots ∧ s.Since B.U.vm B.U.heap.size ∧ Post A a v B ∧
      Steps p.tables e below (doInvoke e (A.U.setTop g) [] mk a).1 (B.U.setTop { g with pc := g.pc + len, stack := v.toList ++ g.stack })
theorem own_backOfW {y : MethodName} {bytes : ByteArray} {maxL : Nat} {ret : Option FieldType} {rm : Room} {len W : Nat} {as' : Array Value} {KP : State → Prop}
    (hM : MetFree l y (head1 [Cond.code y bytes maxL ret] rm) (fun a U => a = as' ∧ Z.Warmed39 U.vm ∧ U.heap = h ∧ KP U) (fun _ _ _ _ _ => True) (fun _ U o U' => ∃ v L, o = .returned v ∧ Q v U'.heap L ∧ K U' ∧ ReturnedEndW U o U' L rm.cells rm.slots))
    (hZ : Z.Warmed39 s.vm) (wc : (Cond.code y bytes maxL ret).before a0 Z = true) (wz : (Cond.initialized y.cls).before a0 Z = true) (hf : rm.frames + 1 ≤ R.frames) (hl : W + (maxL + 11) + rm.locals ≤ R.locals)
    (hKP : ∀ V : State, s.WarmedH V.vm → V.heap = h → KP V) :
    BackW l R p e below s args y len W (fun A a => a = as' ∧ A.U.heap = h ∧ A.cells + rm.cells ≤ R.cells ∧ A.slots + rm.slots ≤ R.slots)
      (fun A _ v B => ∃ L, (Q v B.U.heap L ∧ ∃ t : State, K t ∧ t.vm = B.U.vm ∧ t.heap = B.U.heap) ∧ B.locs = A.locs ++ L ∧ B.cells = A.cells + rm.cells ∧ B.slots = A.slots + rm.slots) := by
  intro m meth c A g ig mk a X hg hsize hdg hW hn hp
  obtain ⟨U, Ls, c0, s0⟩ := A
  dsimp only [Pt.U, Pt.locs, Pt.cells, Pt.slots] at X hn hp ⊢
  obtain ⟨rfl, hheap, hcl, hsl⟩ := hp
  have hU : Z.Warmed39 U.vm := wtrans hZ X.warmed
  have h1 : (head1 [Cond.code y bytes maxL ret] rm).pre.before a U = true := by show (Cond.and _ .tt).before a U = true; rw [Cond.before_and, mv hU wc]; rfl
  have h2 : (Cond.code y bytes maxL ret).before a U = true := mv hU wc
  have h3 : (Cond.initialized y.cls).before a U = true := mv hU wz
  obtain ⟨methY, cY, hmY, hcY, -, hlY, -, -, -, -⟩ := Cond.code_spec hn h2
  obtain ⟨kY, hkY, -⟩ := className_of_methodNamed hn
  have hinitY : kY.init = .initialized := Cond.initialized_spec (findClass_of_methodNamed hn) hkY h3
  have hAt : At U g.method c below := by rw [hg]; exact X.here
  have happ : (head1 [Cond.code y bytes maxL ret] rm).appliesLoose y e.platform (U.calling g mk a) = true :=
    Spec.appliesLoose_calling (g := g) hAt hdg hn hkY hinitY (X.room_calling (g := g) (R' := rm) hsize hmY hcY hf (by rw [hlY]; omega) hcl hsl) h1
  obtain ⟨mid, hmid⟩ := hAt.above
  have hfr : (U.setTop g).frames = (.java g :: mid) ++ below := by rw [State.frames_setTop' g hAt.top, hmid]; rfl
  obtain ⟨o, s₂, hsteps, -, hend, v, L, rfl, hq, hk, hfe⟩ := Steps.callFree hM p X.admits X.cas X.clock (acts := []) hfr happ ⟨rfl, hU, hheap, hKP _ X.warmed hheap⟩ trivial
  rw [State.frames_setTop' g hAt.top] at hend
  have hfe' : ReturnedEndW (U.calling g mk a) (.returned v) s₂ L rm.cells rm.slots := hfe
  obtain ⟨-, hW₂, hB₂, e2, q2, q3, q4, q5, q6⟩ := id hfe'
  have hW' : U.Warmed39 s₂.vm := hW₂
  have hB' : U.Booked s₂.vm s₂.heap.size := hB₂
  have e3 : s₂ = ({ (U.calling g mk a).setFrames s₂.frames with heap := s₂.heap, slotsUsed := s₂.slotsUsed } : State).setVm s₂.vm := by
    have : s₂ = ({ s₂ with vm := (U.calling g mk a).vm } : State).setVm s₂.vm := rfl
    rw [e2] at this
    exact this
  obtain ⟨c₂, i₂, len₂, hc₂, hd₂, hf₂⟩ := hend
  have hcc : c₂ = c := by
    have h1 : s₂.code? g.method = U.code? g.method := by rw [State.code?_eq, State.code?_eq, hW'.alike.method?]
    exact Option.some.inj (hc₂.symm.trans (h1.trans hAt.code))
  subst hcc
  have hlen : len₂ = len := by rw [hdg] at hd₂; cases hd₂; rfl
  subst hlen
  obtain ⟨g₀, hg0⟩ := Option.isSome_iff_exists.mp hAt.top
  obtain ⟨r, hr⟩ := State.topJava?_eq_some.mp hg0
  have hs₂ : s₂ = (({ U with heap := s₂.heap, slotsUsed := s₂.slotsUsed } : State).setVm s₂.vm).setTop { g with pc := g.pc + len₂, stack := v.toList ++ g.stack } := by
    have hr' : (({ U with heap := s₂.heap, slotsUsed := s₂.slotsUsed } : State).setVm s₂.vm).frames = .java g₀ :: r := hr
    refine e3.trans ?_
    rw [hf₂, State.calling_eq hAt.top, State.setFrames_setFrames, State.setTop_of_frames _ hr', hr]
    rfl
  have hsame : U.sameButNew ({ U with heap := s₂.heap, slotsUsed := s₂.slotsUsed } : State) L rm.cells rm.slots := by
    refine ⟨?_, q2, q3, q4, q5, q6⟩
    obtain ⟨t, ht, -⟩ := State.frames_cons hr
    show ({ U with heap := s₂.heap, slotsUsed := s₂.slotsUsed } : State) = { U.setFrames U.frames with heap := s₂.heap, slotsUsed := s₂.slotsUsed }
    rw [State.setFrames_self ht]
  subst hg
  obtain ⟨X', hSi⟩ := X.movedW (T₂ := (({ U with heap := s₂.heap, slotsUsed := s₂.slotsUsed } : State).setVm s₂.vm)) ((X.here.setHeapUsed s₂.heap s₂.slotsUsed).setVm hW'.alike) X.tail rfl rfl hW' hB' hsame
  refine ⟨v, ⟨(({ U with heap := s₂.heap, slotsUsed := s₂.slotsUsed } : State).setVm s₂.vm), Ls ++ L, c0 + rm.cells, s0 + rm.slots⟩, X', hSi, ⟨L, ⟨hq, s₂, hk, rfl, rfl⟩, rfl, rfl, rfl⟩, ?_⟩
  show Steps p.tables e below _ ((({ U with heap := s₂.heap, slotsUsed := s₂.slotsUsed } : State).setVm s₂.vm).setTop { g with pc := g.pc + len₂, stack := v.toList ++ g.stack })
  rw [← hs₂]
  exact hsteps
theorem own_callSW (X : Stand p l e R s m args below meth c T locs cells slots) (hexec : p.tables.exec = Jvm.exec) {own : String} {index : Nat} {y : MethodName} {bytes : ByteArray} {maxL : Nat} {ret : Option FieldType}
    (hown : s.vm.findClass own = some m.cls) (hlink : (Cond.methodLink own index y).before args s = true) (hstat : (Cond.static y).before args s = true) (hinit : (Cond.initialized y.cls).before args s = true)
    (hcode : (Cond.code y bytes maxL ret).before args s = true) (hy : y.cls ≠ "java/lang/invoke/MethodHandle" ∧ y.cls ≠ "java/lang/invoke/VarHandle")
    {W : Nat} {Pre : Pt → Array Value → Prop} {Post : Pt → Array Value → Option Value → Pt → Prop} (hK : BackW l R p e below s args y 3 W Pre Post)
    {g : JFrame} (hg : g.method = m) (hsize : g.locals.size = c.maxLocals) {argsL rest : List Value} (hlen : ∀ sig, parseMethodDescriptor y.desc = some sig → argsL.length = sig.parameters.length)
    (hstack : g.stack = argsL.reverse ++ rest) (hW : 2 * g.monitorRoom + (rest.map fun v => v.category).sum ≤ W) (hdg : decode c.code g.pc = .ok (.invokestatic index, 3))
    (hpre : ∀ vm₁, s.WarmedH vm₁ → Pre ⟨T.setVm vm₁, locs, cells, slots⟩ argsL.toArray) :
    ∃ (v : Option Value) (vm₁ : Vm) (B : Pt), s.WarmedH vm₁ ∧ (Stand p l e R (s.setVm B.U.vm) m args below meth c B.U B.locs B.cells B.slots ∧ s.Since B.U.vm B.U.heap.size) ∧ Post ⟨T.setVm vm₁, locs, cells, slots⟩ argsL.toArray v B ∧
      ∀ target, Steps p.tables e below (B.U.setTop { g with pc := g.pc + 3, stack := v.toList ++ rest }) target → Steps p.tables e below (T.setTop g) target := by
  obtain ⟨mk, hnamed⟩ := Cond.code_named hcode
  obtain ⟨methM, cM, hmethM, -, -, -, -, -, -, hsigM⟩ := Cond.code_spec hnamed hcode
  have hstatic : methM.isStatic = true := Cond.static_spec hnamed hmethM hstat
  obtain ⟨kP, hkP, -⟩ := className_of_methodNamed hnamed
  have hinitP : kP.init = .initialized := Cond.initialized_spec (findClass_of_methodNamed hnamed) hkP hinit
  obtain ⟨vm₁, X₁, hstep₁⟩ := X.invokestatic hexec hown hlink hnamed hmethM hstatic hkP hinitP hy (g := g) hg (argsL := argsL) (rest := rest) (hlen _ hsigM) hstack hdg
  obtain ⟨v, B, X', hSi, hpost, hsteps⟩ := hK m meth c ⟨T.setVm vm₁, locs, cells, slots⟩ { g with stack := rest } (.invokestatic index) mk argsL.toArray X₁ hg hsize hdg hW (X₁.named hnamed) (hpre vm₁ X₁.warmed)
  exact ⟨v, vm₁, B, X₁.warmed, ⟨X', hSi⟩, hpost, fun target hh => hstep₁ _ fun acts => by rw [doInvoke_state]; exact hsteps.trans hh⟩
theorem own_specialW (X : Stand p l e R s m args below meth c T locs cells slots) (hexec : p.tables.exec = Jvm.exec) {own : String} {index : Nat} {y : MethodName} (hy1 : y.name = "<init>")
    (hown : s.vm.findClass own = some m.cls) (hlink : (Cond.methodLink own index y).before args s = true) (hinst : (Cond.instanceMethod y).before args s = true)
    {bytes : ByteArray} {maxL : Nat} (hcode : (Cond.code y bytes maxL none).before args s = true) (hy : y.cls ≠ "java/lang/invoke/MethodHandle" ∧ y.cls ≠ "java/lang/invoke/VarHandle")
    {W : Nat} {Pre : Pt → Array Value → Prop} {Post : Pt → Array Value → Option Value → Pt → Prop} (hK : BackW l R p e below s args y 3 W Pre Post)
    {g : JFrame} (hg : g.method = m) (hsize : g.locals.size = c.maxLocals) {a : Addr} {argsL rest : List Value}
    (hlen : ∀ sig, parseMethodDescriptor y.desc = some sig → argsL.length = sig.parameters.length) (hstack : g.stack = argsL.reverse ++ .ref a :: rest) (hW : 2 * g.monitorRoom + (rest.map fun v => v.category).sum ≤ W)
    (hdg : decode c.code g.pc = .ok (.invokespecial index, 3)) (hpre : ∀ vm₁, s.WarmedH vm₁ → Pre ⟨T.setVm vm₁, locs, cells, slots⟩ (.ref a :: argsL).toArray) :
    ∃ (v : Option Value) (vm₁ : Vm) (B : Pt), s.WarmedH vm₁ ∧ (Stand p l e R (s.setVm B.U.vm) m args below meth c B.U B.locs B.cells B.slots ∧ s.Since B.U.vm B.U.heap.size) ∧ Post ⟨T.setVm vm₁, locs, cells, slots⟩ (.ref a :: argsL).toArray v B ∧
      ∀ target, Steps p.tables e below (B.U.setTop { g with pc := g.pc + 3, stack := v.toList ++ rest }) target → Steps p.tables e below (T.setTop g) target := by
  have hpl : e.platform.magicAccessors = ({} : Platform).magicAccessors := by rw [X.admits.platform]
  obtain ⟨mk, methM, cM, kP, vm₁, hnamed, hmethM, -, -, -, -, hkP, -, hW₁, hstep₁⟩ :=
    Steps.initColdArgs (e := e) X.here hexec X.warmed hpl hown hy1 hy hlink hinst hcode (f := g) hg hlen hstack hdg
  have X₁ := X.noted hW₁
  obtain ⟨v, B, X', hSi, hpost, hsteps⟩ := hK m meth c ⟨T.setVm vm₁, locs, cells, slots⟩ { g with stack := rest } (.invokespecial index) mk (.ref a :: argsL).toArray X₁ hg hsize hdg hW (X₁.named hnamed) (hpre vm₁ hW₁)
  exact ⟨v, vm₁, B, hW₁, ⟨X', hSi⟩, hpost, fun target hh => (hstep₁ _ fun acts => by rw [doInvoke_state]; exact Steps.refl _).trans (hsteps.trans hh)⟩
theorem own_virtualW (X : Stand p l e R s m args below meth c T locs cells slots) (hexec : p.tables.exec = Jvm.exec) {own C : String} {index : Nat} {y z : MethodName}
    (hown : s.vm.findClass own = some m.cls) (hlink : (Cond.methodLink own index y).before args s = true) (hdecl : (Cond.declares y).before args s = true) (hnf : NotFace s y)
    (hsel : (Cond.selects C y z).before args s = true) (hinst : (Cond.instanceMethod z).before args s = true)
    (hy : y.cls ≠ "java/lang/invoke/MethodHandle" ∧ y.cls ≠ "java/lang/invoke/VarHandle")
    {W : Nat} {Pre : Pt → Array Value → Prop} {Post : Pt → Array Value → Option Value → Pt → Prop} (hK : BackW l R p e below s args z 3 W Pre Post)
    {b : Addr} {cB : ClassId} (hcB : s.vm.findClass C = some cB) (hrecv : IsOf cB T b)
    {g : JFrame} (hg : g.method = m) (hsize : g.locals.size = c.maxLocals) {argsL rest : List Value}
    (hlen : ∀ sig, parseMethodDescriptor y.desc = some sig → argsL.length = sig.parameters.length) (hstack : g.stack = argsL.reverse ++ .ref b :: rest) (hW : 2 * g.monitorRoom + (rest.map fun v => v.category).sum ≤ W)
    (hdg : decode c.code g.pc = .ok (.invokevirtual index, 3)) (hpre : ∀ vm₁, s.WarmedH vm₁ → Pre ⟨T.setVm vm₁, locs, cells, slots⟩ (.ref b :: argsL).toArray) :
    ∃ (v : Option Value) (vm₁ : Vm) (B : Pt), s.WarmedH vm₁ ∧ (Stand p l e R (s.setVm B.U.vm) m args below meth c B.U B.locs B.cells B.slots ∧ s.Since B.U.vm B.U.heap.size) ∧ Post ⟨T.setVm vm₁, locs, cells, slots⟩ (.ref b :: argsL).toArray v B ∧
      ∀ target, Steps p.tables e below (B.U.setTop { g with pc := g.pc + 3, stack := v.toList ++ rest }) target → Steps p.tables e below (T.setTop g) target := by
  obtain ⟨cellB, hcellT, hclsB, hstatB⟩ := hrecv
  obtain ⟨r0, r, hn, hrm, hstR, hsigR⟩ := Cond.declares_spec hdecl
  obtain ⟨mk, methM, hnamed, hmethM, -, habM⟩ := Cond.instanceMethod_spec hinst
  obtain ⟨c2, r2, m2, q1, q2, q3, q4, kP, hkP, hkPi⟩ := Cond.selects_spec hsel
  cases hcB.symm.trans q1
  cases (State.methodFound?_of_named hn hy).symm.trans q2
  cases hnamed.symm.trans q3
  have hselP : selectMethod e.platform s.vm cellB.cls r0 = .method mk := by rw [Launch.admits_selectMethod X.admits, hclsB]; exact q4
  obtain ⟨kr, hkr, hni⟩ := hnf r0 hn
  obtain ⟨vm₁, X₁, hstep₁⟩ := X.invokevirtual hexec hown hlink hn hrm hstR hkr hni hy (a := b) (cell := cellB) hcellT
    (fun z h => by rw [h] at hstatB; cases hstatB) hselP hmethM habM hkP hkPi (g := g) hg (argsL := argsL) (rest := rest) (hlen _ hsigR) hstack hdg
  obtain ⟨v, B, X', hSi, hpost, hsteps⟩ := hK m meth c ⟨T.setVm vm₁, locs, cells, slots⟩ { g with stack := rest } (.invokevirtual index) mk (.ref b :: argsL).toArray X₁ hg hsize hdg hW (X₁.named hnamed) (hpre vm₁ X₁.warmed)
  exact ⟨v, vm₁, B, X₁.warmed, ⟨X', hSi⟩, hpost, fun target hh => hstep₁ _ fun acts => by rw [doInvoke_state]; exact hsteps.trans hh⟩
end Wide
section Konst
variable {p : Program} {l : Launch} {e : Env} {R : Room} {s : State} {m : MethodId} {args : Array Value} {below : List Frame} {meth : Method} {c : Code} {T : State} {locs : List Loc} {cells slots : Nat} {Z : State} {a0 : Array Value} {h h' : Heap} {vm0 vm1 : Vm} {own text : String} {index : Nat} {z : Int32} {vs : List Value} {w : Addr} {KL : List (String × Nat × String × Int32 × List Value)}
/-- a String constant whose entry is resolved, and its object known -/
def KC (Z : State) (x : String × Nat × String × Int32 × List Value) (vm : Vm) (h : Heap) : Prop :=
  ∃ (a b : Addr) (k : ClassId), Lit (Z.setVm vm) x.1 x.2.1 a ∧ Exa Z h a "java/lang/String" ∧ Fld Z h a "java/lang/String" "coder" "B" (.int 0) ∧ Fld Z h a "java/lang/String" "value" "[B" (.ref b) ∧ Arv Z h b k .byte x.2.2.2.1 x.2.2.2.2 (.int 0)
/-- of each String constant: our run has not interned its text yet, or it is known -/
def KS (Z : State) (KL : List (String × Nat × String × Int32 × List Value)) (vm : Vm) (h : Heap) : Prop := ∃ Ts, IB Z vm Ts ∧ ∀ x ∈ KL, x.2.2.1 ∉ Ts ∨ KC Z x vm h
theorem KS.ext (K : KS Z KL vm0 h) (E : Ext h h') : KS Z KL vm0 h' := by
  obtain ⟨Ts, I, H⟩ := K
  refine ⟨Ts, I, fun x hx => (H x hx).imp id ?_⟩
  rintro ⟨a, b, k, L, A, C, V, B⟩
  exact ⟨a, b, k, L, A.ext E, C.ext E, V.ext E, B.ext E⟩
def NoS (Z : State) (h : Heap) (w : Addr) : Prop := ∀ (a b : Addr) (k : ClassId) (z : Int32) (vs : List Value), Exa Z h a "java/lang/String" → Fld Z h a "java/lang/String" "value" "[B" (.ref b) → Arv Z h b k .byte z vs (.int 0) → a ≠ w ∧ b ≠ w
theorem NoS.obj {C : String} {kk : Nat} (E : Exa Z h w C) (wi : (Cond.instantiable C kk).before a0 Z = true) (hC : C ≠ "java/lang/String") : NoS Z h w := fun a b k z vs A V B => ⟨fun q => ne_exa E A hC q.symm, fun q => E.neArv B wi q.symm⟩
theorem NoS.str {kk : Nat} (E : Exa Z h w "java/lang/String") (wi : (Cond.instantiable "java/lang/String" kk).before a0 Z = true) (F : Fld Z h w "java/lang/String" "value" "[B" .null) : NoS Z h w := fun a b k z vs A V B => ⟨fun q => Fld.ne F V (by intro q; cases q) q.symm, fun q => E.neArv B wi q.symm⟩
theorem NoS.arr {kk : Nat} {k0 : ClassId} {ty : FieldType} {n : Nat} {f : Nat → Value} (A0 : Arw Z h w k0 ty n f) (wi : (Cond.instantiable "java/lang/String" kk).before a0 Z = true) (ht : ty ≠ .byte) : NoS Z h w := fun a b k z vs A V B => ⟨fun q => own_ne_arr A wi A0 q, fun q => by
  subst q
  obtain ⟨c1, ⟨e1, ⟨-, k1, hk1, comp1, hd1⟩, -⟩, -⟩ := A0
  obtain ⟨c2, ⟨e2, ⟨-, k2, hk2, comp2, hd2⟩, -⟩, -⟩ := B
  cases e1.symm.trans e2
  cases hk1.symm.trans hk2
  rw [hd1] at hd2
  cases hd2
  exact ht rfl⟩
theorem KS.wr {sl : Nat} {v : Value} (K : KS Z KL vm0 h) (W : Wr h h' w sl v) (q : NoS Z h w) : KS Z KL vm0 h' := by
  obtain ⟨Ts, I, H⟩ := K
  refine ⟨Ts, I, fun x hx => (H x hx).imp id ?_⟩
  rintro ⟨a, b, k, L, A, C, V, B⟩
  obtain ⟨q1, q2⟩ := q a b k _ _ A V B
  exact ⟨a, b, k, L, A.wr W, C.other W (Or.inl q1), V.other W (Or.inl q1), B.other W q2⟩
theorem KS.keep {ws : List Addr} (K : KS Z KL vm0 h) (P : Keep h h' ws) (q : ∀ w ∈ ws, NoS Z h w) : KS Z KL vm0 h' := by
  obtain ⟨Ts, I, H⟩ := K
  refine ⟨Ts, I, fun x hx => (H x hx).imp id ?_⟩
  rintro ⟨a, b, k, L, A, C, V, B⟩
  have q1 : a ∉ ws := fun hm => (q a hm a b k _ _ A V B).1 rfl
  have q2 : b ∉ ws := fun hm => (q b hm a b k _ _ A V B).2 rfl
  exact ⟨a, b, k, L, A.keep P, C.keep P q1, V.keep P q1, B.keep P q2⟩
theorem KS.at_ (K : KS Z KL vm0 h) (hW : (s.setVm vm0).WarmedH vm1) : KS Z KL vm1 h := by
  obtain ⟨Ts, ⟨more, e1, e2⟩, H⟩ := K
  refine ⟨Ts, ⟨more, by rw [← e1]; exact hW.interned_eq, e2⟩, fun x hx => (H x hx).imp id ?_⟩
  rintro ⟨a, b, k, L, r⟩
  exact ⟨a, b, k, Lit.stays (s := s) L hW.wide, r⟩
theorem KS.start : KS Z KL Z.vm h := ⟨[], IB.start, fun x hx => Or.inl (by simp)⟩
theorem own_ldcK (X : Stand p l e R (s.setVm vm0) m args below meth c T locs cells slots) (hx : p.tables.exec = Jvm.exec) (hZ : Z.Warmed39 vm0) (hown : vm0.findClass own = some m.cls) (w : (Cond.stringLink own index text).before a0 Z = true) (wS : ∀ a ∈ Bundle.stringAtoms, a.before a0 Z = true)
    (eT : T.heap = h) {k0 : Nat} (hS : s.Since vm0 k0) (hk : k0 ≤ h.size) (N : Fr s.heap.size locs) (hkeep : ∀ (b : Addr) (cl : Cell), Z.heap[b]? = some cl → s.heap[b]? = some cl) (K : KS Z KL vm0 h) (hm : (own, index, text, z, vs) ∈ KL) (hdis : ∀ y ∈ KL, y.2.2.1 = text → y = (own, index, text, z, vs)) (hh : Jvm.Lit.constHeld Z own index) (hcw : Jvm.Lit.compactW.before a0 Z = true)
    (ht : (∀ c ∈ text.toList, c.toNat < 256) ∧ text.toList.map (fun c => Value.int (Jvm.Lit.byteI c.toNat.toUInt16)) = vs) (hz : ¬ z < 0) (hl : z.toNatClampNeg = vs.length)
    {g : JFrame} (hg : g.method = m) (hd : decode c.code g.pc = .ok (.ldc index, 2)) {n : Nat} (hn : 4 * text.toList.length ≤ n) (hbig : n ≤ 536870912) (hc : cells + 2 ≤ R.cells) (hl' : slots + (n + 4) ≤ R.slots) :
    ∃ (a : Addr) (T' : State) (h' : Heap) (vm1 : Vm) (k1 : Nat) (b : Addr) (k : ClassId), Stand p l e R (s.setVm vm1) m args below meth c T' locs (cells + 2) (slots + (n + 4)) ∧ T'.heap = h' ∧ Ext h h' ∧ s.Since vm1 k1 ∧ k1 ≤ h'.size ∧ Z.Warmed39 (s.setVm vm1).vm ∧ (s.setVm vm1).vm.findClass own = some m.cls ∧
      Exa Z h' a "java/lang/String" ∧ Fld Z h' a "java/lang/String" "coder" "B" (.int 0) ∧ Fld Z h' a "java/lang/String" "value" "[B" (.ref b) ∧ Arv Z h' b k .byte z vs (.int 0) ∧ Lit (Z.setVm vm1) own index a ∧ KS Z KL vm1 h' ∧
      ∀ target, Steps p.tables e below (T'.setTop { g with pc := g.pc + 2, stack := .ref a :: g.stack }) target → Steps p.tables e below (T.setTop g) target := by
  obtain ⟨Ts, I, H⟩ := K
  rcases H _ hm with hnot | ⟨a, b, k, L, A, C, V, B⟩
  · obtain ⟨a, T', h', k1, b, k, X', e', E', S', hk', hZ', hown', A, C, V, B, -, -, I', L', st⟩ := ldcSVL (s := s.setVm vm0) X hx hZ hown w wS eT ((State.WarmedH.refl (s.setVm vm0)).since 0) (Nat.zero_le _) N hkeep I hnot hh hcw ht hz hl hg hd hn hbig hc hl'
    refine ⟨a, T', h', T'.vm, h'.size, b, k, X', e', E', hS.trans ⟨S'.1, S'.2.mono hk'⟩ (Nat.le_trans hk E'.1), Nat.le_refl _, hZ', hown', A, C, V, B, L', ⟨text :: Ts, I', fun y hy => ?_⟩, st⟩
    by_cases hte : y.2.2.1 = text
    · obtain rfl := hdis y hy hte
      exact Or.inr ⟨a, b, k, L', A, C, V, B⟩
    · rcases H y hy with q | ⟨a2, b2, k2, L2, r1, r2, r3, r4⟩
      · exact Or.inl (by simp [hte, q])
      · exact Or.inr ⟨a2, b2, k2, Lit.stays (s := s) L2 S'.1, r1.ext E', r2.ext E', r3.ext E', r4.ext E'⟩
  · exact ⟨a, T, h, vm0, k0, b, k, X.mono (by omega) (by omega), eT, ⟨Nat.le_refl _, fun _ _ q => q⟩, hS, hk, hZ, hown, A, C, V, B, L, ⟨Ts, I, H⟩, ldcAgain X hx hZ hown w L hg hd⟩
end Konst
def own_KL : List (String × Nat × String × Int32 × List Value) := [("com/example/lincra/lincra/UrlNormalizerPathPinLaw", 7, "az09.-~_", (8 : Int32), [(.int 97), (.int 122), (.int 48), (.int 57), (.int 46), (.int 45), (.int 126), (.int 95)]), ("com/example/lincra/lincra/UrlNormalizerPathPinLaw", 15, "a/?Z9-=:", (8 : Int32), [(.int 97), (.int 47), (.int 63), (.int 90), (.int 57), (.int 45), (.int 61), (.int 58)]), ("com/example/lincra/lincra/UrlNormalizer", 81, "://", (3 : Int32), [(.int 58), (.int 47), (.int 47)])]
def own_find (g : Nat → Int32) (b : Int32) : Nat → Nat → Int32 → Int32
  | 0, _, _ => -1
  | k + 1, j, i => if g j = b then i else own_find g b k (j + 1) (i + 1)
theorem own_find_end {g : Nat → Int32} {b i : Int32} {N j : Nat} (h : N ≤ j) : own_find g b (N - j) j i = -1 := by
  rw [Nat.sub_eq_zero_of_le h]
  rfl
theorem own_find_hit {g : Nat → Int32} {b i : Int32} {N j : Nat} (h : j < N) (q : g j = b) : own_find g b (N - j) j i = i := by
  obtain ⟨k, hk⟩ : ∃ k, N - j = k + 1 := ⟨N - j - 1, by omega⟩
  rw [hk]
  exact if_pos q
theorem own_find_next {g : Nat → Int32} {b i : Int32} {N j : Nat} (h : j < N) (q : ¬ g j = b) : own_find g b (N - (j + 1)) (j + 1) (i + 1) = own_find g b (N - j) j i := by
  obtain ⟨k, hk⟩ : ∃ k, N - j = k + 1 := ⟨N - j - 1, by omega⟩
  rw [hk, show N - (j + 1) = k by omega]
  exact (if_neg q).symm
theorem own_nz {N : Nat} {nz : Int32} (h : nz.toInt = (N : Int)) : (N : Nat).toInt32 = nz := by
  have q := nz.toInt_lt
  apply Int32.toInt_inj.mp
  rw [h]
  show (Int32.ofNat N).toInt = _
  rw [Int32.toInt_ofNat_of_lt (by omega)]
theorem own_p1 {i : Int32} {j : Nat} (h : i.toInt = (j : Int)) (hj : j < 2147483647) : (i + 1).toInt = ((j + 1 : Nat) : Int) := by
  have q := c_iadd i 1
  have q1 : (1 : Int32).toInt = 1 := by decide
  have q3 := rng32 (i + 1)
  omega
theorem own_shr0 (x : Int32) : x >>> ((0 : Int32) &&& 31) = x := by
  rw [show ((0 : Int32) &&& 31) = 0 by decide]
  exact Int32.shiftRight_zero
theorem own_nc (x : Int32) : some (Value.int (nar .char ((x &&& (255 : Int32)).toUInt32.toUInt16.toUInt32.toInt32))) = some (Value.int ((x &&& (255 : Int32)).toUInt32.toUInt16.toUInt32.toInt32)) := congrArg (fun z => some (Value.int z)) (((congrArg (nar .char) (i2c_mask x)).trans (i2c_mask x)).trans (i2c_mask x).symm)
theorem own_ret {x y : Int32} (h : x = y) : some (Value.int x) = some (Value.int y) := by rw [h]
theorem own_rangeD {f : Nat → Value} {n i : Nat} (h : i < n) (dv : Value) : ((List.range n).map f).getD i dv = f i := by
  simp [List.getD, h]
theorem own_cpW (X : Stand p l e R s m args below meth c T locs cells slots) (hx : p.tables.exec = Jvm.exec) (hZ : Z.Warmed39 s.vm) {a0 : Array Value} {own : String} {index : Nat} (hown : s.vm.findClass own = some m.cls)
    (w1 : (Cond.methodLink own index Jvm.Stand.acN).before a0 Z = true) (w2 : (Cond.native Jvm.Stand.acN).before a0 Z = true) (w3 : (Cond.static Jvm.Stand.acN).before a0 Z = true) (w4 : (Cond.initialized "java/lang/System").before a0 Z = true) (eT : T.heap = h)
    {k' : ClassId} {sp nn zN : Int32} {q N M : Nat} {f fb : Nat → Value} {a b : Addr} {k : ClassId} (A : Arw Z h a k .byte N f) (B : Arw Z h b k' .byte M fb) (hN : zN.toInt = (N : Int)) (hq : sp.toInt = (q : Int)) (hn : nn.toInt = (M : Int)) (hle : q + M ≤ N) {n0 : Nat} (Nf : Fr n0 locs) (ge : n0 ≤ b)
    {g : JFrame} (hg : g.method = m) (hsize : g.locals.size = c.maxLocals) {rest : List Value} (hs : g.stack = .int nn :: .int 0 :: .ref b :: .int sp :: .ref a :: rest) (hd : decode c.code g.pc = .ok (.invokestatic index, 3))
    (hf : 1 ≤ R.frames) {W : Nat} (hW : 2 * g.monitorRoom + (rest.map fun v => v.category).sum ≤ W) (hlo : W + (nativeFrameWords "java/lang/System" "arraycopy" 5 + 11) ≤ R.locals) :
    ∃ T' h' L, Stand p l e R s m args below meth c T' L cells slots ∧ T'.heap = h' ∧ Fr n0 L ∧ Keep h h' [b] ∧ Arw Z h' b k' .byte M (fun i => f (q + i)) ∧
      ∀ target, Steps p.tables e below (T'.setTop { g with pc := g.pc + 3, stack := rest }) target → Steps p.tables e below (T.setTop g) target := by
  have eN := (own_ix hN).2
  have eq := (own_ix hq).2
  have en := (own_ix hn).2
  have e0 : (0 : Int32).toNatClampNeg = 0 := by decide
  obtain ⟨T', h', L, X', eT', N', K', A', st⟩ := cpA X hx hZ hown w1 w2 w3 w4 eT (A.toArv (vs := (List.range N).map f) (dv := .int 0) (z := zN) hN (fun i hi => own_rangeD hi _)) (B.toArv (vs := (List.range M).map fb) (dv := .int 0) (z := nn) hn (fun i hi => own_rangeD hi _)) (Or.inl ⟨rfl, rfl⟩)
    (own_ix hq).1 (by decide) (own_ix hn).1 (by rw [eN, eq, en]; exact hle) (by rw [e0, en]; omega) rfl (by rw [e0, en]; simp) Nf ge hg hsize hs hd hf hW hlo
  refine ⟨T', h', L, X', eT', N', K', Arw.ofArv A' en (fun i hi => ?_), st⟩
  rw [e0, en, eq]
  have hd0 : ((List.range M).map fb).drop (0 + M) = [] := by simp
  rw [hd0]
  simp [List.getD, hi, show q + i < N by omega]
theorem own_aS {P : Int32 → Prop} {x : Int32} {xs : List Int32} (h : P x) (t : ∀ c ∈ xs, P c) : ∀ c ∈ x :: xs, P c := fun c hc => (List.mem_cons.mp hc).elim (fun q => q ▸ h) (t c)
theorem own_a0 {P : Int32 → Prop} : ∀ c ∈ ([] : List Int32), P c := fun c hc => absurd hc (by simp)
theorem own_antis {x y : Int32} (h1 : ¬ x < y) (h2 : ¬ y < x) : x = y := by
  have q1 : ¬ _ := fun q => h1 (own_lti.mpr q)
  have q2 : ¬ _ := fun q => h2 (own_lti.mpr q)
  exact Int32.toInt_inj.mp (by omega)
theorem own_sbi {x y : Int32} {a b : Nat} (hx : x.toInt = (a : Int)) (hy : y.toInt = (b : Int)) (h : b ≤ a) : (x - y).toInt = ((a - b : Nat) : Int) := by
  have q := c_isub x y
  have q3 := rng32 (x - y)
  have q4 := rng32 x
  omega
theorem own_adi {x y : Int32} {a b : Nat} (hx : x.toInt = (a : Int)) (hy : y.toInt = (b : Int)) (h : a + b < 2147483648) : (x + y).toInt = ((a + b : Nat) : Int) := by
  have q := c_iadd x y
  have q3 := rng32 (x + y)
  omega
theorem own_nlt {x y : Int32} {a b : Nat} (hx : x.toInt = (a : Int)) (hy : y.toInt = (b : Int)) (h : a ≤ b) : ¬ y < x := fun q => by
  have q1 := own_lti.mp q
  omega
theorem own_nz0 {x : Int32} {a : Nat} (hx : x.toInt = (a : Int)) (h : 0 < a) : ¬ x = (0 : Int32) := fun q => by
  rw [q] at hx
  have q1 : (0 : Int32).toInt = 0 := by decide
  omega
theorem ef_rm3 (m : MethodId) (a : Addr) : entryFrame m #[(.ref a)] 1 = mkF m 0 #[.val (.ref a)] [] := by first | (simp [entryFrame, mkF, argsToLocals, Value.category]; done) | rfl
def Qrm3 (Z : State) (a : Addr) (cS : Int32) (h0 : Heap) (n0 : Nat) (v_ : Option Value) (h_ : Heap) (L_ : List Loc) : Prop := v_ = some (.int (1 : Int32)) ∧ L_ = [] ∧ h_ = h0
theorem pn_java_lang_String : plainName "java/lang/String" = true := by first | (simp [plainName, overriddenIn]; done) | decide +kernel
theorem d3_0 : decode jdk_42_method_154_code 0 = .ok (.getstatic 38, 3) := by decide +kernel
theorem d3_3 : decode jdk_42_method_154_code 3 = .ok (.ifCond .eq 14, 3) := by decide +kernel
theorem d3_6 : decode jdk_42_method_154_code 6 = .ok (.aload_n 0, 1) := by decide +kernel
theorem d3_7 : decode jdk_42_method_154_code 7 = .ok (.getfield 15, 3) := by decide +kernel
theorem d3_10 : decode jdk_42_method_154_code 10 = .ok (.ifCond .ne 7, 3) := by decide +kernel
theorem d3_13 : decode jdk_42_method_154_code 13 = .ok (.iconst 1, 1) := by decide +kernel
theorem d3_14 : decode jdk_42_method_154_code 14 = .ok (.goto 4, 3) := by decide +kernel
theorem d3_18 : decode jdk_42_method_154_code 18 = .ok (.ireturn, 1) := by decide +kernel
set_option maxRecDepth 65536 in
set_option maxHeartbeats 40000000 in
theorem rm3 (l : Launch) (Z : State) (a0 : Array Value) (hw : ∀ d ∈ tables_1, d.before a0 Z = true) (ws : List Jvm.Cond) (a : Addr) (cS : Int32) (h0 : Heap) (n0 : Nat) (Z0 : n0 ≤ h0.size) (F0_a_coder : Fld Z h0 a "java/lang/String" "coder" "B" (.int (0 : Int32))) (S1_java_lang_String_COMPACT_STRINGS_COMPACT_STRINGS : Sta Z h0 "java/lang/String" "COMPACT_STRINGS" "Z" (.int cS)) (H_cs : ¬ cS = (0 : Int32)) :
    MetFree l (⟨"java/lang/String", "isLatin1", "()Z"⟩ : MethodName) (head1 (Jvm.Cond.code (⟨"java/lang/String", "isLatin1", "()Z"⟩ : MethodName) jdk_42_method_154_code 1 (some .boolean) :: ws) ({ frames := 0, cells := 0, slots := 0, locals := 0 } : Room)) (fun as_ U_ => as_ = #[(.ref a)] ∧ Z.Warmed39 U_.vm ∧ U_.heap = h0) (fun _ _ _ _ _ => True) (fun _ U_ o_ V_ => ∃ v_ L_, o_ = .returned v_ ∧ Qrm3 Z a cS h0 n0 v_ V_.heap L_ ∧ FrameEnd U_ o_ V_ L_ ({ frames := 0, cells := 0, slots := 0, locals := 0 } : Room).cells ({ frames := 0, cells := 0, slots := 0, locals := 0 } : Room).slots) := by
  refine MetFree.of_bodySF (plainFor_of_name pn_java_lang_String) hisR ?_
  intro p e s m args below meth c s₁ Bd hml0 hP hK
  obtain ⟨rfl, hZ, hh⟩ := hP
  have hx := Bd.exec
  have hby := Bd.bytes
  have hlk : meth.locks = false := BodyLoose.notSynchronized Bd
  have hret := Bd.returns
  have hml : c.maxLocals = 1 := hml0
  have hown : s.vm.findClass "java/lang/String" = some m.cls := findClass_of_methodNamed Bd.named
  have hnm := (name_of_methodNamed Bd.named Bd.method).1
  have X0 : Stand p l e ({ frames := 0, cells := 0, slots := 0, locals := 0 } : Room) s m #[(.ref a)] below meth c s₁ [] 0 0 := Stand.of_body Bd
  have e0 : s₁.heap = h0 := by rw [← hh, Bd.state]; rfl
  have N0 := Fr.nil n0
  show Goes p e below (Fin_ s (Qrm3 Z a cS h0 n0) ({ frames := 0, cells := 0, slots := 0, locals := 0 } : Room).cells ({ frames := 0, cells := 0, slots := 0, locals := 0 } : Room).slots) (s₁.setTop (entryFrame m #[(.ref a)] 1))
  rw [ef_rm3 m a]
  obtain ⟨T1, X1, e1, st1⟩ := getS2 X0 hx hZ hown (host := "") (Or.inl (own_w hw 22 rfl)) Via.refl e0 S1_java_lang_String_COMPACT_STRINGS_COMPACT_STRINGS (g := (mkF m 0 #[vr a] [])) rfl (hb hby d3_0)
  refine Goes.via st1 ?_
  show Goes p e below _ (T1.setTop (mkF m 3 #[vr a] [(.int cS)]))
  have hc3_2 : ¬ (cS = (0 : Int32)) := H_cs
  refine Goes.via (fun _ kk_ => XS.ifNo X1.here hx rfl (hb hby d3_3) rfl ((if0 _ _).trans (feq hc3_2).1) kk_) ?_
  show Goes p e below _ (T1.setTop (mkF m 6 #[vr a] []))
  refine gALN X1 hx hby d3_6 rfl rfl ?_
  obtain ⟨T3, X3, e3, st3⟩ := getF X1 hx hZ hown (host := "") (Or.inl (own_w hw 23 rfl)) Via.refl e1 F0_a_coder (g := (mkF m 7 #[vr a] [(.ref a)])) rfl rfl (hb hby d3_7)
  refine Goes.via st3 ?_
  show Goes p e below _ (T3.setTop (mkF m 10 #[vr a] [(.int (0 : Int32))]))
  have hc10_4 : (0 : Int32) = (0 : Int32) := (by decide)
  refine Goes.via (fun _ kk_ => XS.ifNo X3.here hx rfl (hb hby d3_10) rfl ((if0 _ _).trans (teq hc10_4).2) kk_) ?_
  show Goes p e below _ (T3.setTop (mkF m 13 #[vr a] []))
  refine gIC (z := 1) X3 hx hby d3_13 rfl ?_
  refine Goes.via (fun _ kk_ => XS.goto X3.here hx rfl (pc0 := 14) (pc' := 18) rfl (hb hby d3_14) (by decide) (by decide) kk_) ?_
  show Goes p e below _ (T3.setTop (mkF m 18 #[vr a] [(.int (1 : Int32))]))
  exact own_finN X3 hx hlk hret (by simp) (hb hby d3_18) (by rw [e3]; exact ⟨rfl, rfl, rfl⟩) (by first | decide | omega | (dsimp only; omega)) (by first | decide | omega | (dsimp only; omega))
theorem ef_rm16 (m : MethodId) (a : Addr) : entryFrame m #[(.ref a)] 1 = mkF m 0 #[.val (.ref a)] [] := by first | (simp [entryFrame, mkF, argsToLocals, Value.category]; done) | rfl
def Qrm16 (Z : State) (a : Addr) (cS : Int32) (h0 : Heap) (n0 : Nat) (v_ : Option Value) (h_ : Heap) (L_ : List Loc) : Prop := v_ = some (.int (0 : Int32)) ∧ L_ = [] ∧ h_ = h0
theorem d16_0 : decode jdk_42_method_152_code 0 = .ok (.getstatic 38, 3) := by decide +kernel
theorem d16_3 : decode jdk_42_method_152_code 3 = .ok (.ifCond .eq 10, 3) := by decide +kernel
theorem d16_6 : decode jdk_42_method_152_code 6 = .ok (.aload_n 0, 1) := by decide +kernel
theorem d16_7 : decode jdk_42_method_152_code 7 = .ok (.getfield 15, 3) := by decide +kernel
theorem d16_10 : decode jdk_42_method_152_code 10 = .ok (.goto 4, 3) := by decide +kernel
theorem d16_14 : decode jdk_42_method_152_code 14 = .ok (.ireturn, 1) := by decide +kernel
set_option maxRecDepth 65536 in
set_option maxHeartbeats 40000000 in
theorem rm16 (l : Launch) (Z : State) (a0 : Array Value) (hw : ∀ d ∈ tables_1, d.before a0 Z = true) (ws : List Jvm.Cond) (a : Addr) (cS : Int32) (h0 : Heap) (n0 : Nat) (Z0 : n0 ≤ h0.size) (F0_a_coder : Fld Z h0 a "java/lang/String" "coder" "B" (.int (0 : Int32))) (S1_java_lang_String_COMPACT_STRINGS_COMPACT_STRINGS : Sta Z h0 "java/lang/String" "COMPACT_STRINGS" "Z" (.int cS)) (H_cs : ¬ cS = (0 : Int32)) :
    MetFree l (⟨"java/lang/String", "coder", "()B"⟩ : MethodName) (head1 (Jvm.Cond.code (⟨"java/lang/String", "coder", "()B"⟩ : MethodName) jdk_42_method_152_code 1 (some .byte) :: ws) ({ frames := 0, cells := 0, slots := 0, locals := 0 } : Room)) (fun as_ U_ => as_ = #[(.ref a)] ∧ Z.Warmed39 U_.vm ∧ U_.heap = h0) (fun _ _ _ _ _ => True) (fun _ U_ o_ V_ => ∃ v_ L_, o_ = .returned v_ ∧ Qrm16 Z a cS h0 n0 v_ V_.heap L_ ∧ FrameEnd U_ o_ V_ L_ ({ frames := 0, cells := 0, slots := 0, locals := 0 } : Room).cells ({ frames := 0, cells := 0, slots := 0, locals := 0 } : Room).slots) := by
  refine MetFree.of_bodySF (plainFor_of_name pn_java_lang_String) hisR ?_
  intro p e s m args below meth c s₁ Bd hml0 hP hK
  obtain ⟨rfl, hZ, hh⟩ := hP
  have hx := Bd.exec
  have hby := Bd.bytes
  have hlk : meth.locks = false := BodyLoose.notSynchronized Bd
  have hret := Bd.returns
  have hml : c.maxLocals = 1 := hml0
  have hown : s.vm.findClass "java/lang/String" = some m.cls := findClass_of_methodNamed Bd.named
  have hnm := (name_of_methodNamed Bd.named Bd.method).1
  have X0 : Stand p l e ({ frames := 0, cells := 0, slots := 0, locals := 0 } : Room) s m #[(.ref a)] below meth c s₁ [] 0 0 := Stand.of_body Bd
  have e0 : s₁.heap = h0 := by rw [← hh, Bd.state]; rfl
  have N0 := Fr.nil n0
  show Goes p e below (Fin_ s (Qrm16 Z a cS h0 n0) ({ frames := 0, cells := 0, slots := 0, locals := 0 } : Room).cells ({ frames := 0, cells := 0, slots := 0, locals := 0 } : Room).slots) (s₁.setTop (entryFrame m #[(.ref a)] 1))
  rw [ef_rm16 m a]
  obtain ⟨T1, X1, e1, st1⟩ := getS2 X0 hx hZ hown (host := "") (Or.inl (own_w hw 22 rfl)) Via.refl e0 S1_java_lang_String_COMPACT_STRINGS_COMPACT_STRINGS (g := (mkF m 0 #[vr a] [])) rfl (hb hby d16_0)
  refine Goes.via st1 ?_
  show Goes p e below _ (T1.setTop (mkF m 3 #[vr a] [(.int cS)]))
  have hc3_2 : ¬ (cS = (0 : Int32)) := H_cs
  refine Goes.via (fun _ kk_ => XS.ifNo X1.here hx rfl (hb hby d16_3) rfl ((if0 _ _).trans (feq hc3_2).1) kk_) ?_
  show Goes p e below _ (T1.setTop (mkF m 6 #[vr a] []))
  refine gALN X1 hx hby d16_6 rfl rfl ?_
  obtain ⟨T3, X3, e3, st3⟩ := getF X1 hx hZ hown (host := "") (Or.inl (own_w hw 23 rfl)) Via.refl e1 F0_a_coder (g := (mkF m 7 #[vr a] [(.ref a)])) rfl rfl (hb hby d16_7)
  refine Goes.via st3 ?_
  show Goes p e below _ (T3.setTop (mkF m 10 #[vr a] [(.int (0 : Int32))]))
  refine Goes.via (fun _ kk_ => XS.goto X3.here hx rfl (pc0 := 10) (pc' := 14) rfl (hb hby d16_10) (by decide) (by decide) kk_) ?_
  show Goes p e below _ (T3.setTop (mkF m 14 #[vr a] [(.int (0 : Int32))]))
  exact own_finN X3 hx hlk hret (by simp) (hb hby d16_14) (by rw [e3]; exact ⟨rfl, rfl, rfl⟩) (by first | decide | omega | (dsimp only; omega)) (by first | decide | omega | (dsimp only; omega))
theorem ef_rm20 (m : MethodId) (a : Addr) : entryFrame m #[(.ref a)] 1 = mkF m 0 #[.val (.ref a)] [] := by first | (simp [entryFrame, mkF, argsToLocals, Value.category]; done) | rfl
def Qrm20 (Z : State) (a : Addr) (nz : Int32) (cS : Int32) (t : Addr) (kc : ClassId) (N : Nat) (g : Nat → Int32) (h0 : Heap) (n0 : Nat) (v_ : Option Value) (h_ : Heap) (L_ : List Loc) : Prop := v_ = some (.int nz) ∧ L_ = [] ∧ h_ = h0
theorem d20_0 : decode jdk_42_method_54_code 0 = .ok (.aload_n 0, 1) := by decide +kernel
theorem d20_1 : decode jdk_42_method_54_code 1 = .ok (.getfield 9, 3) := by decide +kernel
theorem d20_4 : decode jdk_42_method_54_code 4 = .ok (.arraylength, 1) := by decide +kernel
theorem d20_5 : decode jdk_42_method_54_code 5 = .ok (.aload_n 0, 1) := by decide +kernel
theorem pd_0 : parseMethodDescriptor "()B" = some ⟨[], some .byte⟩ := by decide +kernel
theorem d20_6 : decode jdk_42_method_54_code 6 = .ok (.invokevirtual 335, 3) := by decide +kernel
theorem d20_9 : decode jdk_42_method_54_code 9 = .ok (.ishr, 1) := by decide +kernel
theorem d20_10 : decode jdk_42_method_54_code 10 = .ok (.ireturn, 1) := by decide +kernel
set_option maxRecDepth 65536 in
set_option maxHeartbeats 40000000 in
theorem rm20 (l : Launch) (Z : State) (a0 : Array Value) (hw : ∀ d ∈ tables_1, d.before a0 Z = true) (ws : List Jvm.Cond) (a : Addr) (nz : Int32) (cS : Int32) (t : Addr) (kc : ClassId) (N : Nat) (g : Nat → Int32) (h0 : Heap) (n0 : Nat) (Z0 : n0 ≤ h0.size) (E0_a : Exa Z h0 a "java/lang/String") (F1_a_coder : Fld Z h0 a "java/lang/String" "coder" "B" (.int (0 : Int32))) (F2_a_value : Fld Z h0 a "java/lang/String" "value" "[B" (.ref t)) (A3_t : Arw Z h0 t kc .byte N (fun i => .int (g i))) (S4_java_lang_String_COMPACT_STRINGS_COMPACT_STRINGS : Sta Z h0 "java/lang/String" "COMPACT_STRINGS" "Z" (.int cS)) (H_cs : ¬ cS = (0 : Int32)) (Hnz : nz.toInt = (N : Int)) :
    MetFree l (⟨"java/lang/String", "length", "()I"⟩ : MethodName) (head1 (Jvm.Cond.code (⟨"java/lang/String", "length", "()I"⟩ : MethodName) jdk_42_method_54_code 1 (some .int) :: ws) ({ frames := 1, cells := 0, slots := 0, locals := 13 } : Room)) (fun as_ U_ => as_ = #[(.ref a)] ∧ Z.Warmed39 U_.vm ∧ U_.heap = h0) (fun _ _ _ _ _ => True) (fun _ U_ o_ V_ => ∃ v_ L_, o_ = .returned v_ ∧ Qrm20 Z a nz cS t kc N g h0 n0 v_ V_.heap L_ ∧ FrameEnd U_ o_ V_ L_ ({ frames := 1, cells := 0, slots := 0, locals := 13 } : Room).cells ({ frames := 1, cells := 0, slots := 0, locals := 13 } : Room).slots) := by
  refine MetFree.of_bodySF (plainFor_of_name pn_java_lang_String) hisR ?_
  intro p e s m args below meth c s₁ Bd hml0 hP hK
  obtain ⟨rfl, hZ, hh⟩ := hP
  have hx := Bd.exec
  have hby := Bd.bytes
  have hlk : meth.locks = false := BodyLoose.notSynchronized Bd
  have hret := Bd.returns
  have hml : c.maxLocals = 1 := hml0
  have hown : s.vm.findClass "java/lang/String" = some m.cls := findClass_of_methodNamed Bd.named
  have hnm := (name_of_methodNamed Bd.named Bd.method).1
  have X0 : Stand p l e ({ frames := 1, cells := 0, slots := 0, locals := 13 } : Room) s m #[(.ref a)] below meth c s₁ [] 0 0 := Stand.of_body Bd
  have e0 : s₁.heap = h0 := by rw [← hh, Bd.state]; rfl
  have N0 := Fr.nil n0
  show Goes p e below (Fin_ s (Qrm20 Z a nz cS t kc N g h0 n0) ({ frames := 1, cells := 0, slots := 0, locals := 13 } : Room).cells ({ frames := 1, cells := 0, slots := 0, locals := 13 } : Room).slots) (s₁.setTop (entryFrame m #[(.ref a)] 1))
  rw [ef_rm20 m a]
  have ne1 : a ≠ t := own_ne_arr E0_a (own_w hw 6 rfl) A3_t
  refine gALN X0 hx hby d20_0 rfl rfl ?_
  obtain ⟨T2, X2, e2, st2⟩ := getF X0 hx hZ hown (host := "") (Or.inl (own_w hw 24 rfl)) Via.refl e0 F2_a_value (g := (mkF m 1 #[vr a] [(.ref a)])) rfl rfl (hb hby d20_1)
  refine Goes.via st2 ?_
  show Goes p e below _ (T2.setTop (mkF m 4 #[vr a] [(.ref t)]))
  refine Goes.via (own_alen X2 hx hZ e2 A3_t (g := (mkF m 4 #[vr a] [(.ref t)])) rfl rfl (hb hby d20_4)) ?_
  rw [show (N : Nat).toInt32 = nz from (own_nz Hnz)]
  show Goes p e below _ (T2.setTop (mkF m 5 #[vr a] [(.int nz)]))
  refine gALN X2 hx hby d20_5 rfl rfl ?_
  obtain ⟨cq3, kq3, q3a, q3b, q3c⟩ := isOf hZ e2 E0_a
  obtain ⟨_, _, ⟨T3, L3, k3, n3⟩, -, X3, ⟨Lc3, hQ3, l3, y3, z3⟩, st3⟩ := X2.virtualBack hx (y := (⟨"java/lang/String", "coder", "()B"⟩ : MethodName)) (z := (⟨"java/lang/String", "coder", "()B"⟩ : MethodName)) hown (mvT hZ (own_w hw 73 rfl)) (mvT hZ (own_w hw 74 rfl)) (notFace_of_selects (args := #[]) (mvT hZ (own_w hw 76 rfl))) (mvT hZ (own_w hw 76 rfl)) (mvT hZ (own_w hw 75 rfl)) (by decide) (backOf (W := 1) (rm16 l Z a0 hw [] a cS h0 n0 (Nat.le_trans Z0 (Nat.le_refl _)) F1_a_coder S4_java_lang_String_COMPACT_STRINGS_COMPACT_STRINGS H_cs) hZ (own_w hw 77 rfl) (own_w hw 5 rfl) (by decide) (by decide)) q3a q3c (g := (mkF m 6 #[vr a] [(.ref a), (.int nz)])) rfl (by rw [hml]; rfl) (Steps.refl _) (argsL := []) (rest := [(.int nz)]) (lenOf pd_0 rfl) rfl (by show 2 * 0 + _ ≤ _; exact Nat.le_of_eq rfl) (hb hby d20_6) (fun _ _ => ⟨rfl, e2, (by decide : 0 + 0 ≤ _), (by decide : 0 + 0 ≤ _)⟩)
  dsimp only [Pt.U, Pt.locs, Pt.cells, Pt.slots] at X3 l3 y3 z3 st3 hQ3
  replace l3 := l3.symm
  subst l3 y3 z3
  obtain ⟨rfl, rfl, e3⟩ := hQ3
  first | rw [List.append_nil] at X3 | skip
  refine Goes.tr st3 ?_
  have e3' : T3.heap = h0 := e3
  show Goes p e below _ (T3.setTop (mkF m 9 #[vr a] [(.int (0 : Int32)), (.int nz)]))
  refine Goes.via (fun _ kk_ => XS.ishr X3.here hx rfl (hb hby d20_9) rfl kk_) ?_
  show Goes p e below _ (T3.setTop (mkF m 10 #[vr a] [(.int (nz >>> ((0 : Int32) &&& 31)))]))
  exact own_finI X3 hx hlk hret (hb hby d20_10) (by rw [e3']; exact ⟨(own_ret (own_shr0 _)), rfl, rfl⟩) (by first | decide | omega | (dsimp only; omega)) (by first | decide | omega | (dsimp only; omega))
theorem ef_rmPn (m : MethodId) (i_ : Int32) (nz : Int32) : entryFrame m #[(.int i_), (.int nz), .null] 3 = mkF m 0 #[.val (.int i_), .val (.int nz), .val .null] [] := by first | (simp [entryFrame, mkF, argsToLocals, Value.category]; done) | rfl
def QrmPn (Z : State) (i_ : Int32) (nz : Int32) (h0 : Heap) (n0 : Nat) (v_ : Option Value) (h_ : Heap) (L_ : List Loc) : Prop := v_ = some (.int i_) ∧ L_ = [] ∧ h_ = h0
theorem pn_jdk_internal_util_Preconditions : plainName "jdk/internal/util/Preconditions" = true := by first | (simp [plainName, overriddenIn]; done) | decide +kernel
theorem d6_0 : decode jdk_41_method_11_code 0 = .ok (.iload_n 0, 1) := by decide +kernel
theorem d6_1 : decode jdk_41_method_11_code 1 = .ok (.ifCond .lt 8, 3) := by decide +kernel
theorem d6_4 : decode jdk_41_method_11_code 4 = .ok (.iload_n 0, 1) := by decide +kernel
theorem d6_5 : decode jdk_41_method_11_code 5 = .ok (.iload_n 1, 1) := by decide +kernel
theorem d6_6 : decode jdk_41_method_11_code 6 = .ok (.if_icmp .lt 10, 3) := by decide +kernel
theorem d6_16 : decode jdk_41_method_11_code 16 = .ok (.iload_n 0, 1) := by decide +kernel
theorem d6_17 : decode jdk_41_method_11_code 17 = .ok (.ireturn, 1) := by decide +kernel
set_option maxRecDepth 65536 in
set_option maxHeartbeats 40000000 in
theorem rmPn (l : Launch) (Z : State) (a0 : Array Value) (hw : ∀ d ∈ tables_1, d.before a0 Z = true) (ws : List Jvm.Cond) (i_ : Int32) (nz : Int32) (h0 : Heap) (n0 : Nat) (Z0 : n0 ≤ h0.size) (H0 : ¬ i_ < (0 : Int32)) (H1 : i_ < nz) :
    MetFree l (⟨"jdk/internal/util/Preconditions", "checkIndex", "(IILjava/util/function/BiFunction;)I"⟩ : MethodName) (head1 (Jvm.Cond.code (⟨"jdk/internal/util/Preconditions", "checkIndex", "(IILjava/util/function/BiFunction;)I"⟩ : MethodName) jdk_41_method_11_code 3 (some .int) :: ws) ({ frames := 0, cells := 0, slots := 0, locals := 0 } : Room)) (fun as_ U_ => as_ = #[(.int i_), (.int nz), .null] ∧ Z.Warmed39 U_.vm ∧ U_.heap = h0) (fun _ _ _ _ _ => True) (fun _ U_ o_ V_ => ∃ v_ L_, o_ = .returned v_ ∧ QrmPn Z i_ nz h0 n0 v_ V_.heap L_ ∧ FrameEnd U_ o_ V_ L_ ({ frames := 0, cells := 0, slots := 0, locals := 0 } : Room).cells ({ frames := 0, cells := 0, slots := 0, locals := 0 } : Room).slots) := by
  refine MetFree.of_bodySF (plainFor_of_name pn_jdk_internal_util_Preconditions) hisR ?_
  intro p e s m args below meth c s₁ Bd hml0 hP hK
  obtain ⟨rfl, hZ, hh⟩ := hP
  have hx := Bd.exec
  have hby := Bd.bytes
  have hlk : meth.locks = false := BodyLoose.notSynchronized Bd
  have hret := Bd.returns
  have hml : c.maxLocals = 3 := hml0
  have hown : s.vm.findClass "jdk/internal/util/Preconditions" = some m.cls := findClass_of_methodNamed Bd.named
  have hnm := (name_of_methodNamed Bd.named Bd.method).1
  have X0 : Stand p l e ({ frames := 0, cells := 0, slots := 0, locals := 0 } : Room) s m #[(.int i_), (.int nz), .null] below meth c s₁ [] 0 0 := Stand.of_body Bd
  have e0 : s₁.heap = h0 := by rw [← hh, Bd.state]; rfl
  have N0 := Fr.nil n0
  show Goes p e below (Fin_ s (QrmPn Z i_ nz h0 n0) ({ frames := 0, cells := 0, slots := 0, locals := 0 } : Room).cells ({ frames := 0, cells := 0, slots := 0, locals := 0 } : Room).slots) (s₁.setTop (entryFrame m #[(.int i_), (.int nz), .null] 3))
  rw [ef_rmPn m i_ nz]
  refine gILN X0 hx hby d6_0 rfl ?_
  have hc1_1 : ¬ (i_ < (0 : Int32)) := H0
  refine Goes.via (fun _ kk_ => XS.ifNo X0.here hx rfl (hb hby d6_1) rfl ((if0 _ _).trans (flt hc1_1).1) kk_) ?_
  show Goes p e below _ (s₁.setTop (mkF m 4 #[vi i_, vi nz, .val .null] []))
  refine gILN X0 hx hby d6_4 rfl ?_
  refine gILN X0 hx hby d6_5 rfl ?_
  have hc6_2 : i_ < nz := H1
  refine Goes.via (fun _ kk_ => XS.icmpYes X0.here hx rfl (pc0 := 6) (pc' := 16) rfl (hb hby d6_6) rfl (tlt hc6_2).1 (by decide) (by decide) kk_) ?_
  show Goes p e below _ (s₁.setTop (mkF m 16 #[vi i_, vi nz, .val .null] []))
  refine gILN X0 hx hby d6_16 rfl ?_
  exact own_finI X0 hx hlk hret (hb hby d6_17) (by rw [e0]; exact ⟨rfl, rfl, rfl⟩) (by first | decide | omega | (dsimp only; omega)) (by first | decide | omega | (dsimp only; omega))
theorem ef_rmPr (m : MethodId) (i_ : Int32) (nz : Int32) (fr : Addr) : entryFrame m #[(.int i_), (.int nz), (.ref fr)] 3 = mkF m 0 #[.val (.int i_), .val (.int nz), .val (.ref fr)] [] := by first | (simp [entryFrame, mkF, argsToLocals, Value.category]; done) | rfl
def QrmPr (Z : State) (i_ : Int32) (nz : Int32) (fr : Addr) (h0 : Heap) (n0 : Nat) (v_ : Option Value) (h_ : Heap) (L_ : List Loc) : Prop := v_ = some (.int i_) ∧ L_ = [] ∧ h_ = h0
set_option maxRecDepth 65536 in
set_option maxHeartbeats 40000000 in
theorem rmPr (l : Launch) (Z : State) (a0 : Array Value) (hw : ∀ d ∈ tables_1, d.before a0 Z = true) (ws : List Jvm.Cond) (i_ : Int32) (nz : Int32) (fr : Addr) (h0 : Heap) (n0 : Nat) (Z0 : n0 ≤ h0.size) (H0 : ¬ i_ < (0 : Int32)) (H1 : i_ < nz) :
    MetFree l (⟨"jdk/internal/util/Preconditions", "checkIndex", "(IILjava/util/function/BiFunction;)I"⟩ : MethodName) (head1 (Jvm.Cond.code (⟨"jdk/internal/util/Preconditions", "checkIndex", "(IILjava/util/function/BiFunction;)I"⟩ : MethodName) jdk_41_method_11_code 3 (some .int) :: ws) ({ frames := 0, cells := 0, slots := 0, locals := 0 } : Room)) (fun as_ U_ => as_ = #[(.int i_), (.int nz), (.ref fr)] ∧ Z.Warmed39 U_.vm ∧ U_.heap = h0) (fun _ _ _ _ _ => True) (fun _ U_ o_ V_ => ∃ v_ L_, o_ = .returned v_ ∧ QrmPr Z i_ nz fr h0 n0 v_ V_.heap L_ ∧ FrameEnd U_ o_ V_ L_ ({ frames := 0, cells := 0, slots := 0, locals := 0 } : Room).cells ({ frames := 0, cells := 0, slots := 0, locals := 0 } : Room).slots) := by
  refine MetFree.of_bodySF (plainFor_of_name pn_jdk_internal_util_Preconditions) hisR ?_
  intro p e s m args below meth c s₁ Bd hml0 hP hK
  obtain ⟨rfl, hZ, hh⟩ := hP
  have hx := Bd.exec
  have hby := Bd.bytes
  have hlk : meth.locks = false := BodyLoose.notSynchronized Bd
  have hret := Bd.returns
  have hml : c.maxLocals = 3 := hml0
  have hown : s.vm.findClass "jdk/internal/util/Preconditions" = some m.cls := findClass_of_methodNamed Bd.named
  have hnm := (name_of_methodNamed Bd.named Bd.method).1
  have X0 : Stand p l e ({ frames := 0, cells := 0, slots := 0, locals := 0 } : Room) s m #[(.int i_), (.int nz), (.ref fr)] below meth c s₁ [] 0 0 := Stand.of_body Bd
  have e0 : s₁.heap = h0 := by rw [← hh, Bd.state]; rfl
  have N0 := Fr.nil n0
  show Goes p e below (Fin_ s (QrmPr Z i_ nz fr h0 n0) ({ frames := 0, cells := 0, slots := 0, locals := 0 } : Room).cells ({ frames := 0, cells := 0, slots := 0, locals := 0 } : Room).slots) (s₁.setTop (entryFrame m #[(.int i_), (.int nz), (.ref fr)] 3))
  rw [ef_rmPr m i_ nz fr]
  refine gILN X0 hx hby d6_0 rfl ?_
  have hc1_1 : ¬ (i_ < (0 : Int32)) := H0
  refine Goes.via (fun _ kk_ => XS.ifNo X0.here hx rfl (hb hby d6_1) rfl ((if0 _ _).trans (flt hc1_1).1) kk_) ?_
  show Goes p e below _ (s₁.setTop (mkF m 4 #[vi i_, vi nz, vr fr] []))
  refine gILN X0 hx hby d6_4 rfl ?_
  refine gILN X0 hx hby d6_5 rfl ?_
  have hc6_2 : i_ < nz := H1
  refine Goes.via (fun _ kk_ => XS.icmpYes X0.here hx rfl (pc0 := 6) (pc' := 16) rfl (hb hby d6_6) rfl (tlt hc6_2).1 (by decide) (by decide) kk_) ?_
  show Goes p e below _ (s₁.setTop (mkF m 16 #[vi i_, vi nz, vr fr] []))
  refine gILN X0 hx hby d6_16 rfl ?_
  exact own_finI X0 hx hlk hret (hb hby d6_17) (by rw [e0]; exact ⟨rfl, rfl, rfl⟩) (by first | decide | omega | (dsimp only; omega)) (by first | decide | omega | (dsimp only; omega))
theorem ef_rm5 (m : MethodId) (i_ : Int32) (nz : Int32) : entryFrame m #[(.int i_), (.int nz)] 2 = mkF m 0 #[.val (.int i_), .val (.int nz)] [] := by first | (simp [entryFrame, mkF, argsToLocals, Value.category]; done) | rfl
def Qrm5 (Z : State) (i_ : Int32) (nz : Int32) (fo : Value) (h0 : Heap) (n0 : Nat) (v_ : Option Value) (h_ : Heap) (L_ : List Loc) : Prop := v_ = none ∧ L_ = [] ∧ h_ = h0
theorem d5_0 : decode jdk_42_method_155_code 0 = .ok (.iload_n 0, 1) := by decide +kernel
theorem d5_1 : decode jdk_42_method_155_code 1 = .ok (.iload_n 1, 1) := by decide +kernel
theorem d5_2 : decode jdk_42_method_155_code 2 = .ok (.getstatic 1053, 3) := by decide +kernel
theorem pd_1 : parseMethodDescriptor "(IILjava/util/function/BiFunction;)I" = some ⟨[.int, .int, (.object "java/util/function/BiFunction")], some .int⟩ := by decide +kernel
theorem d5_5 : decode jdk_42_method_155_code 5 = .ok (.invokestatic 1059, 3) := by decide +kernel
theorem d5_8 : decode jdk_42_method_155_code 8 = .ok (.pop, 1) := by decide +kernel
theorem d5_9 : decode jdk_42_method_155_code 9 = .ok (.return_, 1) := by decide +kernel
set_option maxRecDepth 65536 in
set_option maxHeartbeats 40000000 in
theorem rm5 (l : Launch) (Z : State) (a0 : Array Value) (hw : ∀ d ∈ tables_1, d.before a0 Z = true) (ws : List Jvm.Cond) (i_ : Int32) (nz : Int32) (fo : Value) (h0 : Heap) (n0 : Nat) (Z0 : n0 ≤ h0.size) (S0_jdk_internal_util_Preconditions_SIOOBE_FORMATTER_SIOOBE_FORMATTER : Sta Z h0 "jdk/internal/util/Preconditions" "SIOOBE_FORMATTER" "Ljava/util/function/BiFunction;" fo) (Hfo : fo.isRef = true) (H0 : ¬ i_ < (0 : Int32)) (H1 : i_ < nz) :
    MetFree l (⟨"java/lang/String", "checkIndex", "(II)V"⟩ : MethodName) (head1 (Jvm.Cond.code (⟨"java/lang/String", "checkIndex", "(II)V"⟩ : MethodName) jdk_42_method_155_code 2 none :: ws) ({ frames := 1, cells := 0, slots := 0, locals := 14 } : Room)) (fun as_ U_ => as_ = #[(.int i_), (.int nz)] ∧ Z.Warmed39 U_.vm ∧ U_.heap = h0) (fun _ _ _ _ _ => True) (fun _ U_ o_ V_ => ∃ v_ L_, o_ = .returned v_ ∧ Qrm5 Z i_ nz fo h0 n0 v_ V_.heap L_ ∧ FrameEnd U_ o_ V_ L_ ({ frames := 1, cells := 0, slots := 0, locals := 14 } : Room).cells ({ frames := 1, cells := 0, slots := 0, locals := 14 } : Room).slots) := by
  refine MetFree.of_bodySF (plainFor_of_name pn_java_lang_String) hisR ?_
  intro p e s m args below meth c s₁ Bd hml0 hP hK
  obtain ⟨rfl, hZ, hh⟩ := hP
  have hx := Bd.exec
  have hby := Bd.bytes
  have hlk : meth.locks = false := BodyLoose.notSynchronized Bd
  have hret := Bd.returns
  have hml : c.maxLocals = 2 := hml0
  have hown : s.vm.findClass "java/lang/String" = some m.cls := findClass_of_methodNamed Bd.named
  have hnm := (name_of_methodNamed Bd.named Bd.method).1
  have X0 : Stand p l e ({ frames := 1, cells := 0, slots := 0, locals := 14 } : Room) s m #[(.int i_), (.int nz)] below meth c s₁ [] 0 0 := Stand.of_body Bd
  have e0 : s₁.heap = h0 := by rw [← hh, Bd.state]; rfl
  have N0 := Fr.nil n0
  show Goes p e below (Fin_ s (Qrm5 Z i_ nz fo h0 n0) ({ frames := 1, cells := 0, slots := 0, locals := 14 } : Room).cells ({ frames := 1, cells := 0, slots := 0, locals := 14 } : Room).slots) (s₁.setTop (entryFrame m #[(.int i_), (.int nz)] 2))
  rw [ef_rm5 m i_ nz]
  rcases ref_cases Hfo with rfl | ⟨fr, rfl⟩
  · skip
    refine gILN X0 hx hby d5_0 rfl ?_
    refine gILN X0 hx hby d5_1 rfl ?_
    obtain ⟨T1, X1, e1, st1⟩ := getS2 X0 hx hZ hown (host := "") (Or.inl (own_w hw 32 rfl)) Via.refl e0 S0_jdk_internal_util_Preconditions_SIOOBE_FORMATTER_SIOOBE_FORMATTER (g := (mkF m 2 #[vi i_, vi nz] [(.int nz), (.int i_)])) rfl (hb hby d5_2)
    refine Goes.via st1 ?_
    show Goes p e below _ (T1.setTop (mkF m 5 #[vi i_, vi nz] [.null, (.int nz), (.int i_)]))
    obtain ⟨_, _, ⟨T2, L2, k2, n2⟩, -, X2, ⟨Lc2, hQ2, l2, y2, z2⟩, st2⟩ := Jvm.LawKit.callS X1 hx (y := (⟨"jdk/internal/util/Preconditions", "checkIndex", "(IILjava/util/function/BiFunction;)I"⟩ : MethodName)) hown (mvT hZ (own_w hw 34 rfl)) (mvT hZ (own_w hw 35 rfl)) (mvT hZ (own_w hw 33 rfl)) (mvT hZ (own_w hw 36 rfl)) (by decide) (backOf (W := 0) (rmPn l Z a0 hw [] i_ nz h0 n0 (Nat.le_trans Z0 (Nat.le_refl _)) H0 H1) hZ (own_w hw 36 rfl) (own_w hw 33 rfl) (by decide) (by decide)) (g := (mkF m 5 #[vi i_, vi nz] [.null, (.int nz), (.int i_)])) rfl (by rw [hml]; rfl) (argsL := [(.int i_), (.int nz), .null]) (rest := []) (lenOf pd_1 rfl) rfl (by show 2 * 0 + _ ≤ _; exact Nat.le_of_eq rfl) (hb hby d5_5) (fun _ _ => ⟨rfl, e1, (by decide : 0 + 0 ≤ _), (by decide : 0 + 0 ≤ _)⟩)
    dsimp only [Pt.U, Pt.locs, Pt.cells, Pt.slots] at X2 l2 y2 z2 st2 hQ2
    replace l2 := l2.symm
    subst l2 y2 z2
    obtain ⟨rfl, rfl, e2⟩ := hQ2
    first | rw [List.append_nil] at X2 | skip
    refine Goes.via st2 ?_
    have e2' : T2.heap = h0 := e2
    show Goes p e below _ (T2.setTop (mkF m 8 #[vi i_, vi nz] [(.int i_)]))
    refine Goes.via (fun _ kk_ => XS.pop X2.here hx rfl (hb hby d5_8) rfl rfl kk_) ?_
    show Goes p e below _ (T2.setTop (mkF m 9 #[vi i_, vi nz] []))
    exact own_finV X2 hx hlk hret (hb hby d5_9) (by rw [e2']; exact ⟨rfl, rfl, rfl⟩) (by first | decide | omega | (dsimp only; omega)) (by first | decide | omega | (dsimp only; omega))
  · skip
    refine gILN X0 hx hby d5_0 rfl ?_
    refine gILN X0 hx hby d5_1 rfl ?_
    obtain ⟨T3, X3, e3, st3⟩ := getS2 X0 hx hZ hown (host := "") (Or.inl (own_w hw 32 rfl)) Via.refl e0 S0_jdk_internal_util_Preconditions_SIOOBE_FORMATTER_SIOOBE_FORMATTER (g := (mkF m 2 #[vi i_, vi nz] [(.int nz), (.int i_)])) rfl (hb hby d5_2)
    refine Goes.via st3 ?_
    show Goes p e below _ (T3.setTop (mkF m 5 #[vi i_, vi nz] [(.ref fr), (.int nz), (.int i_)]))
    obtain ⟨_, _, ⟨T4, L4, k4, n4⟩, -, X4, ⟨Lc4, hQ4, l4, y4, z4⟩, st4⟩ := Jvm.LawKit.callS X3 hx (y := (⟨"jdk/internal/util/Preconditions", "checkIndex", "(IILjava/util/function/BiFunction;)I"⟩ : MethodName)) hown (mvT hZ (own_w hw 34 rfl)) (mvT hZ (own_w hw 35 rfl)) (mvT hZ (own_w hw 33 rfl)) (mvT hZ (own_w hw 36 rfl)) (by decide) (backOf (W := 0) (rmPr l Z a0 hw [] i_ nz fr h0 n0 (Nat.le_trans Z0 (Nat.le_refl _)) H0 H1) hZ (own_w hw 36 rfl) (own_w hw 33 rfl) (by decide) (by decide)) (g := (mkF m 5 #[vi i_, vi nz] [(.ref fr), (.int nz), (.int i_)])) rfl (by rw [hml]; rfl) (argsL := [(.int i_), (.int nz), (.ref fr)]) (rest := []) (lenOf pd_1 rfl) rfl (by show 2 * 0 + _ ≤ _; exact Nat.le_of_eq rfl) (hb hby d5_5) (fun _ _ => ⟨rfl, e3, (by decide : 0 + 0 ≤ _), (by decide : 0 + 0 ≤ _)⟩)
    dsimp only [Pt.U, Pt.locs, Pt.cells, Pt.slots] at X4 l4 y4 z4 st4 hQ4
    replace l4 := l4.symm
    subst l4 y4 z4
    obtain ⟨rfl, rfl, e4⟩ := hQ4
    first | rw [List.append_nil] at X4 | skip
    refine Goes.via st4 ?_
    have e4' : T4.heap = h0 := e4
    show Goes p e below _ (T4.setTop (mkF m 8 #[vi i_, vi nz] [(.int i_)]))
    refine Goes.via (fun _ kk_ => XS.pop X4.here hx rfl (hb hby d5_8) rfl rfl kk_) ?_
    show Goes p e below _ (T4.setTop (mkF m 9 #[vi i_, vi nz] []))
    exact own_finV X4 hx hlk hret (hb hby d5_9) (by rw [e4']; exact ⟨rfl, rfl, rfl⟩) (by first | decide | omega | (dsimp only; omega)) (by first | decide | omega | (dsimp only; omega))
theorem ef_rm4 (m : MethodId) (b : Addr) (i_ : Int32) : entryFrame m #[(.ref b), (.int i_)] 2 = mkF m 0 #[.val (.ref b), .val (.int i_)] [] := by first | (simp [entryFrame, mkF, argsToLocals, Value.category]; done) | rfl
def Qrm4 (Z : State) (b : Addr) (i_ : Int32) (kc : ClassId) (N : Nat) (g : Nat → Int32) (nz : Int32) (j : Nat) (fo : Value) (h0 : Heap) (n0 : Nat) (v_ : Option Value) (h_ : Heap) (L_ : List Loc) : Prop := v_ = some (.int (g j &&& (255 : Int32))) ∧ L_ = [] ∧ h_ = h0
theorem pn_java_lang_StringLatin1 : plainName "java/lang/StringLatin1" = true := by first | (simp [plainName, overriddenIn]; done) | decide +kernel
theorem d4_0 : decode jdk_43_method_2_code 0 = .ok (.iload_n 1, 1) := by decide +kernel
theorem d4_1 : decode jdk_43_method_2_code 1 = .ok (.aload_n 0, 1) := by decide +kernel
theorem d4_2 : decode jdk_43_method_2_code 2 = .ok (.arraylength, 1) := by decide +kernel
theorem pd_2 : parseMethodDescriptor "(II)V" = some ⟨[.int, .int], none⟩ := by decide +kernel
theorem d4_3 : decode jdk_43_method_2_code 3 = .ok (.invokestatic 9, 3) := by decide +kernel
theorem d4_6 : decode jdk_43_method_2_code 6 = .ok (.aload_n 0, 1) := by decide +kernel
theorem d4_7 : decode jdk_43_method_2_code 7 = .ok (.iload_n 1, 1) := by decide +kernel
theorem d4_8 : decode jdk_43_method_2_code 8 = .ok (.baload, 1) := by decide +kernel
theorem d4_9 : decode jdk_43_method_2_code 9 = .ok (.sipush 255, 3) := by decide +kernel
theorem d4_12 : decode jdk_43_method_2_code 12 = .ok (.iand, 1) := by decide +kernel
theorem d4_13 : decode jdk_43_method_2_code 13 = .ok (.i2c, 1) := by decide +kernel
theorem d4_14 : decode jdk_43_method_2_code 14 = .ok (.ireturn, 1) := by decide +kernel
set_option maxRecDepth 65536 in
set_option maxHeartbeats 40000000 in
theorem rm4 (l : Launch) (Z : State) (a0 : Array Value) (hw : ∀ d ∈ tables_1, d.before a0 Z = true) (ws : List Jvm.Cond) (b : Addr) (i_ : Int32) (kc : ClassId) (N : Nat) (g : Nat → Int32) (nz : Int32) (j : Nat) (fo : Value) (h0 : Heap) (n0 : Nat) (Z0 : n0 ≤ h0.size) (A0_b : Arw Z h0 b kc .byte N (fun i => .int (g i))) (Hij : i_.toInt = (j : Int)) (HjN : j < N) (Hnz : nz.toInt = (N : Int)) (S4_jdk_internal_util_Preconditions_SIOOBE_FORMATTER_SIOOBE_FORMATTER : Sta Z h0 "jdk/internal/util/Preconditions" "SIOOBE_FORMATTER" "Ljava/util/function/BiFunction;" fo) (Hfo : fo.isRef = true) :
    MetFree l (⟨"java/lang/StringLatin1", "charAt", "([BI)C"⟩ : MethodName) (head1 (Jvm.Cond.code (⟨"java/lang/StringLatin1", "charAt", "([BI)C"⟩ : MethodName) jdk_43_method_2_code 2 (some .char) :: ws) ({ frames := 2, cells := 0, slots := 0, locals := 27 } : Room)) (fun as_ U_ => as_ = #[(.ref b), (.int i_)] ∧ Z.Warmed39 U_.vm ∧ U_.heap = h0) (fun _ _ _ _ _ => True) (fun _ U_ o_ V_ => ∃ v_ L_, o_ = .returned v_ ∧ Qrm4 Z b i_ kc N g nz j fo h0 n0 v_ V_.heap L_ ∧ FrameEnd U_ o_ V_ L_ ({ frames := 2, cells := 0, slots := 0, locals := 27 } : Room).cells ({ frames := 2, cells := 0, slots := 0, locals := 27 } : Room).slots) := by
  refine MetFree.of_bodySF (plainFor_of_name pn_java_lang_StringLatin1) hisR ?_
  intro p e s m args below meth c s₁ Bd hml0 hP hK
  obtain ⟨rfl, hZ, hh⟩ := hP
  have hx := Bd.exec
  have hby := Bd.bytes
  have hlk : meth.locks = false := BodyLoose.notSynchronized Bd
  have hret := Bd.returns
  have hml : c.maxLocals = 2 := hml0
  have hown : s.vm.findClass "java/lang/StringLatin1" = some m.cls := findClass_of_methodNamed Bd.named
  have hnm := (name_of_methodNamed Bd.named Bd.method).1
  have X0 : Stand p l e ({ frames := 2, cells := 0, slots := 0, locals := 27 } : Room) s m #[(.ref b), (.int i_)] below meth c s₁ [] 0 0 := Stand.of_body Bd
  have e0 : s₁.heap = h0 := by rw [← hh, Bd.state]; rfl
  have N0 := Fr.nil n0
  show Goes p e below (Fin_ s (Qrm4 Z b i_ kc N g nz j fo h0 n0) ({ frames := 2, cells := 0, slots := 0, locals := 27 } : Room).cells ({ frames := 2, cells := 0, slots := 0, locals := 27 } : Room).slots) (s₁.setTop (entryFrame m #[(.ref b), (.int i_)] 2))
  rw [ef_rm4 m b i_]
  refine gILN X0 hx hby d4_0 rfl ?_
  refine gALN X0 hx hby d4_1 rfl rfl ?_
  refine Goes.via (own_alen X0 hx hZ e0 A0_b (g := (mkF m 2 #[vr b, vi i_] [(.ref b), (.int i_)])) rfl rfl (hb hby d4_2)) ?_
  rw [show (N : Nat).toInt32 = nz from (own_nz Hnz)]
  show Goes p e below _ (s₁.setTop (mkF m 3 #[vr b, vi i_] [(.int nz), (.int i_)]))
  obtain ⟨_, _, ⟨T1, L1, k1, n1⟩, -, X1, ⟨Lc1, hQ1, l1, y1, z1⟩, st1⟩ := Jvm.LawKit.callS X0 hx (y := (⟨"java/lang/String", "checkIndex", "(II)V"⟩ : MethodName)) hown (mvT hZ (own_w hw 29 rfl)) (mvT hZ (own_w hw 30 rfl)) (mvT hZ (own_w hw 5 rfl)) (mvT hZ (own_w hw 31 rfl)) (by decide) (backOf (W := 0) (rm5 l Z a0 hw [] i_ nz fo h0 n0 (Nat.le_trans Z0 (Nat.le_refl _)) S4_jdk_internal_util_Preconditions_SIOOBE_FORMATTER_SIOOBE_FORMATTER Hfo (own_ix Hij).1 (own_lti.mpr (by rw [Hij, Hnz]; exact Int.ofNat_lt.mpr HjN))) hZ (own_w hw 31 rfl) (own_w hw 5 rfl) (by decide) (by decide)) (g := (mkF m 3 #[vr b, vi i_] [(.int nz), (.int i_)])) rfl (by rw [hml]; rfl) (argsL := [(.int i_), (.int nz)]) (rest := []) (lenOf pd_2 rfl) rfl (by show 2 * 0 + _ ≤ _; exact Nat.le_of_eq rfl) (hb hby d4_3) (fun _ _ => ⟨rfl, e0, (by decide : 0 + 0 ≤ _), (by decide : 0 + 0 ≤ _)⟩)
  dsimp only [Pt.U, Pt.locs, Pt.cells, Pt.slots] at X1 l1 y1 z1 st1 hQ1
  replace l1 := l1.symm
  subst l1 y1 z1
  obtain ⟨rfl, rfl, e1⟩ := hQ1
  first | rw [List.append_nil] at X1 | skip
  refine Goes.via st1 ?_
  have e1' : T1.heap = h0 := e1
  show Goes p e below _ (T1.setTop (mkF m 6 #[vr b, vi i_] []))
  refine gALN X1 hx hby d4_6 rfl rfl ?_
  refine gILN X1 hx hby d4_7 rfl ?_
  refine Goes.via (own_baload X1 hx hZ e1' A0_b (j := i_) (i := j) (own_ix Hij).1 (own_ix Hij).2 HjN (v := (g j)) rfl (g := (mkF m 8 #[vr b, vi i_] [(.int i_), (.ref b)])) rfl rfl (hb hby d4_8)) ?_
  show Goes p e below _ (T1.setTop (mkF m 9 #[vr b, vi i_] [(.int (g j))]))
  refine gSI (z := 255) X1 hx hby d4_9 rfl ?_
  refine Goes.via (fun _ kk_ => XS.iand X1.here hx rfl (hb hby d4_12) rfl kk_) ?_
  show Goes p e below _ (T1.setTop (mkF m 13 #[vr b, vi i_] [(.int ((g j) &&& (255 : Int32)))]))
  refine Goes.via (fun _ kk_ => XS.i2c X1.here hx rfl (hb hby d4_13) rfl kk_) ?_
  show Goes p e below _ (T1.setTop (mkF m 14 #[vr b, vi i_] [(.int (((g j) &&& (255 : Int32)).toUInt32.toUInt16.toUInt32.toInt32))]))
  exact own_finN X1 hx hlk hret (by simp) (hb hby d4_14) (by rw [e1']; exact ⟨(own_ret ((congrArg (nar .char) (i2c_mask _)).trans (i2c_mask _))), rfl, rfl⟩) (by first | decide | omega | (dsimp only; omega)) (by first | decide | omega | (dsimp only; omega))
theorem ef_rm2 (m : MethodId) (a : Addr) (i_ : Int32) : entryFrame m #[(.ref a), (.int i_)] 2 = mkF m 0 #[.val (.ref a), .val (.int i_)] [] := by first | (simp [entryFrame, mkF, argsToLocals, Value.category]; done) | rfl
def Qrm2 (Z : State) (a : Addr) (i_ : Int32) (cS : Int32) (t : Addr) (kc : ClassId) (N : Nat) (g : Nat → Int32) (nz : Int32) (j : Nat) (fo : Value) (h0 : Heap) (n0 : Nat) (v_ : Option Value) (h_ : Heap) (L_ : List Loc) : Prop := v_ = some (.int (g j &&& (255 : Int32))) ∧ L_ = [] ∧ h_ = h0
theorem d2_0 : decode jdk_42_method_56_code 0 = .ok (.aload_n 0, 1) := by decide +kernel
theorem pd_3 : parseMethodDescriptor "()Z" = some ⟨[], some .boolean⟩ := by decide +kernel
theorem d2_1 : decode jdk_42_method_56_code 1 = .ok (.invokevirtual 492, 3) := by decide +kernel
theorem d2_4 : decode jdk_42_method_56_code 4 = .ok (.ifCond .eq 12, 3) := by decide +kernel
theorem d2_7 : decode jdk_42_method_56_code 7 = .ok (.aload_n 0, 1) := by decide +kernel
theorem d2_8 : decode jdk_42_method_56_code 8 = .ok (.getfield 9, 3) := by decide +kernel
theorem d2_11 : decode jdk_42_method_56_code 11 = .ok (.iload_n 1, 1) := by decide +kernel
theorem pd_4 : parseMethodDescriptor "([BI)C" = some ⟨[(.array .byte), .int], some .char⟩ := by decide +kernel
theorem d2_12 : decode jdk_42_method_56_code 12 = .ok (.invokestatic 495, 3) := by decide +kernel
theorem d2_15 : decode jdk_42_method_56_code 15 = .ok (.ireturn, 1) := by decide +kernel
set_option maxRecDepth 65536 in
set_option maxHeartbeats 40000000 in
theorem rm2 (l : Launch) (Z : State) (a0 : Array Value) (hw : ∀ d ∈ tables_1, d.before a0 Z = true) (ws : List Jvm.Cond) (a : Addr) (i_ : Int32) (cS : Int32) (t : Addr) (kc : ClassId) (N : Nat) (g : Nat → Int32) (nz : Int32) (j : Nat) (fo : Value) (h0 : Heap) (n0 : Nat) (Z0 : n0 ≤ h0.size) (E0_a : Exa Z h0 a "java/lang/String") (F1_a_coder : Fld Z h0 a "java/lang/String" "coder" "B" (.int (0 : Int32))) (F2_a_value : Fld Z h0 a "java/lang/String" "value" "[B" (.ref t)) (A3_t : Arw Z h0 t kc .byte N (fun i => .int (g i))) (S4_java_lang_String_COMPACT_STRINGS_COMPACT_STRINGS : Sta Z h0 "java/lang/String" "COMPACT_STRINGS" "Z" (.int cS)) (H_cs : ¬ cS = (0 : Int32)) (Hij : i_.toInt = (j : Int)) (HjN : j < N) (Hnz : nz.toInt = (N : Int)) (S9_jdk_internal_util_Preconditions_SIOOBE_FORMATTER_SIOOBE_FORMATTER : Sta Z h0 "jdk/internal/util/Preconditions" "SIOOBE_FORMATTER" "Ljava/util/function/BiFunction;" fo) (Hfo : fo.isRef = true) :
    MetFree l (⟨"java/lang/String", "charAt", "(I)C"⟩ : MethodName) (head1 (Jvm.Cond.code (⟨"java/lang/String", "charAt", "(I)C"⟩ : MethodName) jdk_42_method_56_code 2 (some .char) :: ws) ({ frames := 3, cells := 0, slots := 0, locals := 40 } : Room)) (fun as_ U_ => as_ = #[(.ref a), (.int i_)] ∧ Z.Warmed39 U_.vm ∧ U_.heap = h0) (fun _ _ _ _ _ => True) (fun _ U_ o_ V_ => ∃ v_ L_, o_ = .returned v_ ∧ Qrm2 Z a i_ cS t kc N g nz j fo h0 n0 v_ V_.heap L_ ∧ FrameEnd U_ o_ V_ L_ ({ frames := 3, cells := 0, slots := 0, locals := 40 } : Room).cells ({ frames := 3, cells := 0, slots := 0, locals := 40 } : Room).slots) := by
  refine MetFree.of_bodySF (plainFor_of_name pn_java_lang_String) hisR ?_
  intro p e s m args below meth c s₁ Bd hml0 hP hK
  obtain ⟨rfl, hZ, hh⟩ := hP
  have hx := Bd.exec
  have hby := Bd.bytes
  have hlk : meth.locks = false := BodyLoose.notSynchronized Bd
  have hret := Bd.returns
  have hml : c.maxLocals = 2 := hml0
  have hown : s.vm.findClass "java/lang/String" = some m.cls := findClass_of_methodNamed Bd.named
  have hnm := (name_of_methodNamed Bd.named Bd.method).1
  have X0 : Stand p l e ({ frames := 3, cells := 0, slots := 0, locals := 40 } : Room) s m #[(.ref a), (.int i_)] below meth c s₁ [] 0 0 := Stand.of_body Bd
  have e0 : s₁.heap = h0 := by rw [← hh, Bd.state]; rfl
  have N0 := Fr.nil n0
  show Goes p e below (Fin_ s (Qrm2 Z a i_ cS t kc N g nz j fo h0 n0) ({ frames := 3, cells := 0, slots := 0, locals := 40 } : Room).cells ({ frames := 3, cells := 0, slots := 0, locals := 40 } : Room).slots) (s₁.setTop (entryFrame m #[(.ref a), (.int i_)] 2))
  rw [ef_rm2 m a i_]
  have ne1 : a ≠ t := own_ne_arr E0_a (own_w hw 6 rfl) A3_t
  refine gALN X0 hx hby d2_0 rfl rfl ?_
  obtain ⟨cq2, kq2, q2a, q2b, q2c⟩ := isOf hZ e0 E0_a
  obtain ⟨_, _, ⟨T2, L2, k2, n2⟩, -, X2, ⟨Lc2, hQ2, l2, y2, z2⟩, st2⟩ := X0.virtualBack hx (y := (⟨"java/lang/String", "isLatin1", "()Z"⟩ : MethodName)) (z := (⟨"java/lang/String", "isLatin1", "()Z"⟩ : MethodName)) hown (mvT hZ (own_w hw 17 rfl)) (mvT hZ (own_w hw 18 rfl)) (notFace_of_selects (args := #[]) (mvT hZ (own_w hw 20 rfl))) (mvT hZ (own_w hw 20 rfl)) (mvT hZ (own_w hw 19 rfl)) (by decide) (backOf (W := 0) (rm3 l Z a0 hw [] a cS h0 n0 (Nat.le_trans Z0 (Nat.le_refl _)) F1_a_coder S4_java_lang_String_COMPACT_STRINGS_COMPACT_STRINGS H_cs) hZ (own_w hw 21 rfl) (own_w hw 5 rfl) (by decide) (by decide)) q2a q2c (g := (mkF m 1 #[vr a, vi i_] [(.ref a)])) rfl (by rw [hml]; rfl) (Steps.refl _) (argsL := []) (rest := []) (lenOf pd_3 rfl) rfl (by show 2 * 0 + _ ≤ _; exact Nat.le_of_eq rfl) (hb hby d2_1) (fun _ _ => ⟨rfl, e0, (by decide : 0 + 0 ≤ _), (by decide : 0 + 0 ≤ _)⟩)
  dsimp only [Pt.U, Pt.locs, Pt.cells, Pt.slots] at X2 l2 y2 z2 st2 hQ2
  replace l2 := l2.symm
  subst l2 y2 z2
  obtain ⟨rfl, rfl, e2⟩ := hQ2
  first | rw [List.append_nil] at X2 | skip
  refine Goes.tr st2 ?_
  have e2' : T2.heap = h0 := e2
  show Goes p e below _ (T2.setTop (mkF m 4 #[vr a, vi i_] [(.int (1 : Int32))]))
  have hc4_3 : ¬ ((1 : Int32) = (0 : Int32)) := (by decide)
  refine Goes.via (fun _ kk_ => XS.ifNo X2.here hx rfl (hb hby d2_4) rfl ((if0 _ _).trans (feq hc4_3).1) kk_) ?_
  show Goes p e below _ (T2.setTop (mkF m 7 #[vr a, vi i_] []))
  refine gALN X2 hx hby d2_7 rfl rfl ?_
  obtain ⟨T4, X4, e4, st4⟩ := getF X2 hx hZ hown (host := "") (Or.inl (own_w hw 24 rfl)) Via.refl e2' F2_a_value (g := (mkF m 8 #[vr a, vi i_] [(.ref a)])) rfl rfl (hb hby d2_8)
  refine Goes.via st4 ?_
  show Goes p e below _ (T4.setTop (mkF m 11 #[vr a, vi i_] [(.ref t)]))
  refine gILN X4 hx hby d2_11 rfl ?_
  obtain ⟨_, _, ⟨T5, L5, k5, n5⟩, -, X5, ⟨Lc5, hQ5, l5, y5, z5⟩, st5⟩ := Jvm.LawKit.callS X4 hx (y := (⟨"java/lang/StringLatin1", "charAt", "([BI)C"⟩ : MethodName)) hown (mvT hZ (own_w hw 25 rfl)) (mvT hZ (own_w hw 26 rfl)) (mvT hZ (own_w hw 27 rfl)) (mvT hZ (own_w hw 28 rfl)) (by decide) (backOf (W := 0) (rm4 l Z a0 hw [] t i_ kc N g nz j fo h0 n0 (Nat.le_trans Z0 (Nat.le_refl _)) A3_t Hij HjN Hnz S9_jdk_internal_util_Preconditions_SIOOBE_FORMATTER_SIOOBE_FORMATTER Hfo) hZ (own_w hw 28 rfl) (own_w hw 27 rfl) (by decide) (by decide)) (g := (mkF m 12 #[vr a, vi i_] [(.int i_), (.ref t)])) rfl (by rw [hml]; rfl) (argsL := [(.ref t), (.int i_)]) (rest := []) (lenOf pd_4 rfl) rfl (by show 2 * 0 + _ ≤ _; exact Nat.le_of_eq rfl) (hb hby d2_12) (fun _ _ => ⟨rfl, e4, (by decide : 0 + 0 ≤ _), (by decide : 0 + 0 ≤ _)⟩)
  dsimp only [Pt.U, Pt.locs, Pt.cells, Pt.slots] at X5 l5 y5 z5 st5 hQ5
  replace l5 := l5.symm
  subst l5 y5 z5
  obtain ⟨rfl, rfl, e5⟩ := hQ5
  first | rw [List.append_nil] at X5 | skip
  refine Goes.via st5 ?_
  have e5' : T5.heap = h0 := e5
  show Goes p e below _ (T5.setTop (mkF m 15 #[vr a, vi i_] [(.int (g j &&& (255 : Int32)))]))
  exact own_finN X5 hx hlk hret (by simp) (hb hby d2_15) (by rw [e5']; exact ⟨(own_ret (i2c_mask _)), rfl, rfl⟩) (by first | decide | omega | (dsimp only; omega)) (by first | decide | omega | (dsimp only; omega))
theorem ef_rm22 (m : MethodId) (ch : Int32) : entryFrame m #[(.int ch)] 1 = mkF m 0 #[.val (.int ch)] [] := by first | (simp [entryFrame, mkF, argsToLocals, Value.category]; done) | rfl
def Qrm22 (Z : State) (ch : Int32) (h0 : Heap) (n0 : Nat) (v_ : Option Value) (h_ : Heap) (L_ : List Loc) : Prop := v_ = some (.int (1 : Int32)) ∧ L_ = [] ∧ h_ = h0
theorem d22_0 : decode jdk_43_method_4_code 0 = .ok (.iload_n 0, 1) := by decide +kernel
theorem d22_1 : decode jdk_43_method_4_code 1 = .ok (.ifCond .lt 14, 3) := by decide +kernel
theorem d22_4 : decode jdk_43_method_4_code 4 = .ok (.iload_n 0, 1) := by decide +kernel
theorem d22_5 : decode jdk_43_method_4_code 5 = .ok (.sipush 255, 3) := by decide +kernel
theorem d22_8 : decode jdk_43_method_4_code 8 = .ok (.if_icmp .gt 7, 3) := by decide +kernel
theorem d22_11 : decode jdk_43_method_4_code 11 = .ok (.iconst 1, 1) := by decide +kernel
theorem d22_12 : decode jdk_43_method_4_code 12 = .ok (.goto 4, 3) := by decide +kernel
theorem d22_16 : decode jdk_43_method_4_code 16 = .ok (.ireturn, 1) := by decide +kernel
set_option maxRecDepth 65536 in
set_option maxHeartbeats 40000000 in
theorem rm22 (l : Launch) (Z : State) (a0 : Array Value) (hw : ∀ d ∈ tables_1, d.before a0 Z = true) (ws : List Jvm.Cond) (ch : Int32) (h0 : Heap) (n0 : Nat) (Z0 : n0 ≤ h0.size) (H0 : ¬ ch < (0 : Int32)) (H1 : ¬ (255 : Int32) < ch) :
    MetFree l (⟨"java/lang/StringLatin1", "canEncode", "(I)Z"⟩ : MethodName) (head1 (Jvm.Cond.code (⟨"java/lang/StringLatin1", "canEncode", "(I)Z"⟩ : MethodName) jdk_43_method_4_code 1 (some .boolean) :: ws) ({ frames := 0, cells := 0, slots := 0, locals := 0 } : Room)) (fun as_ U_ => as_ = #[(.int ch)] ∧ Z.Warmed39 U_.vm ∧ U_.heap = h0) (fun _ _ _ _ _ => True) (fun _ U_ o_ V_ => ∃ v_ L_, o_ = .returned v_ ∧ Qrm22 Z ch h0 n0 v_ V_.heap L_ ∧ FrameEnd U_ o_ V_ L_ ({ frames := 0, cells := 0, slots := 0, locals := 0 } : Room).cells ({ frames := 0, cells := 0, slots := 0, locals := 0 } : Room).slots) := by
  refine MetFree.of_bodySF (plainFor_of_name pn_java_lang_StringLatin1) hisR ?_
  intro p e s m args below meth c s₁ Bd hml0 hP hK
  obtain ⟨rfl, hZ, hh⟩ := hP
  have hx := Bd.exec
  have hby := Bd.bytes
  have hlk : meth.locks = false := BodyLoose.notSynchronized Bd
  have hret := Bd.returns
  have hml : c.maxLocals = 1 := hml0
  have hown : s.vm.findClass "java/lang/StringLatin1" = some m.cls := findClass_of_methodNamed Bd.named
  have hnm := (name_of_methodNamed Bd.named Bd.method).1
  have X0 : Stand p l e ({ frames := 0, cells := 0, slots := 0, locals := 0 } : Room) s m #[(.int ch)] below meth c s₁ [] 0 0 := Stand.of_body Bd
  have e0 : s₁.heap = h0 := by rw [← hh, Bd.state]; rfl
  have N0 := Fr.nil n0
  show Goes p e below (Fin_ s (Qrm22 Z ch h0 n0) ({ frames := 0, cells := 0, slots := 0, locals := 0 } : Room).cells ({ frames := 0, cells := 0, slots := 0, locals := 0 } : Room).slots) (s₁.setTop (entryFrame m #[(.int ch)] 1))
  rw [ef_rm22 m ch]
  refine gILN X0 hx hby d22_0 rfl ?_
  have hc1_1 : ¬ (ch < (0 : Int32)) := H0
  refine Goes.via (fun _ kk_ => XS.ifNo X0.here hx rfl (hb hby d22_1) rfl ((if0 _ _).trans (flt hc1_1).1) kk_) ?_
  show Goes p e below _ (s₁.setTop (mkF m 4 #[vi ch] []))
  refine gILN X0 hx hby d22_4 rfl ?_
  refine gSI (z := 255) X0 hx hby d22_5 rfl ?_
  have hc8_2 : ¬ ((255 : Int32) < ch) := H1
  refine Goes.via (fun _ kk_ => XS.icmpNo X0.here hx rfl (hb hby d22_8) rfl (flt hc8_2).2.2.1 kk_) ?_
  show Goes p e below _ (s₁.setTop (mkF m 11 #[vi ch] []))
  refine gIC (z := 1) X0 hx hby d22_11 rfl ?_
  refine Goes.via (fun _ kk_ => XS.goto X0.here hx rfl (pc0 := 12) (pc' := 16) rfl (hb hby d22_12) (by decide) (by decide) kk_) ?_
  show Goes p e below _ (s₁.setTop (mkF m 16 #[vi ch] [(.int (1 : Int32))]))
  exact own_finN X0 hx hlk hret (by simp) (hb hby d22_16) (by rw [e0]; exact ⟨rfl, rfl, rfl⟩) (by first | decide | omega | (dsimp only; omega)) (by first | decide | omega | (dsimp only; omega))
theorem ef_rm23 (m : MethodId) (x : Int32) (y : Int32) : entryFrame m #[(.int x), (.int y)] 2 = mkF m 0 #[.val (.int x), .val (.int y)] [] := by first | (simp [entryFrame, mkF, argsToLocals, Value.category]; done) | rfl
def Qrm23 (Z : State) (x : Int32) (y : Int32) (h0 : Heap) (n0 : Nat) (v_ : Option Value) (h_ : Heap) (L_ : List Loc) : Prop := v_ = some (.int x) ∧ L_ = [] ∧ h_ = h0
theorem d23_0 : decode jdk_29_method_65_code 0 = .ok (.iload_n 0, 1) := by decide +kernel
theorem d23_1 : decode jdk_29_method_65_code 1 = .ok (.iload_n 1, 1) := by decide +kernel
theorem d23_2 : decode jdk_29_method_65_code 2 = .ok (.if_icmp .lt 7, 3) := by decide +kernel
theorem d23_5 : decode jdk_29_method_65_code 5 = .ok (.iload_n 0, 1) := by decide +kernel
theorem d23_6 : decode jdk_29_method_65_code 6 = .ok (.goto 4, 3) := by decide +kernel
theorem d23_10 : decode jdk_29_method_65_code 10 = .ok (.ireturn, 1) := by decide +kernel
set_option maxRecDepth 65536 in
set_option maxHeartbeats 40000000 in
theorem rm23 (l : Launch) (Z : State) (a0 : Array Value) (hw : ∀ d ∈ tables_1, d.before a0 Z = true) (ws : List Jvm.Cond) (x : Int32) (y : Int32) (h0 : Heap) (n0 : Nat) (Z0 : n0 ≤ h0.size) (H0 : ¬ x < y) :
    MetFree l (⟨"java/lang/Math", "max", "(II)I"⟩ : MethodName) (head1 (Jvm.Cond.code (⟨"java/lang/Math", "max", "(II)I"⟩ : MethodName) jdk_29_method_65_code 2 (some .int) :: ws) ({ frames := 0, cells := 0, slots := 0, locals := 0 } : Room)) (fun as_ U_ => as_ = #[(.int x), (.int y)] ∧ Z.Warmed39 U_.vm ∧ U_.heap = h0) (fun _ _ _ _ _ => True) (fun _ U_ o_ V_ => ∃ v_ L_, o_ = .returned v_ ∧ Qrm23 Z x y h0 n0 v_ V_.heap L_ ∧ FrameEnd U_ o_ V_ L_ ({ frames := 0, cells := 0, slots := 0, locals := 0 } : Room).cells ({ frames := 0, cells := 0, slots := 0, locals := 0 } : Room).slots) := by
  refine MetFree.of_bodySF (Jvm.Free.JP.mathPlain rfl (by decide +kernel)) hisR ?_
  intro p e s m args below meth c s₁ Bd hml0 hP hK
  obtain ⟨rfl, hZ, hh⟩ := hP
  have hx := Bd.exec
  have hby := Bd.bytes
  have hlk : meth.locks = false := BodyLoose.notSynchronized Bd
  have hret := Bd.returns
  have hml : c.maxLocals = 2 := hml0
  have hown : s.vm.findClass "java/lang/Math" = some m.cls := findClass_of_methodNamed Bd.named
  have hnm := (name_of_methodNamed Bd.named Bd.method).1
  have X0 : Stand p l e ({ frames := 0, cells := 0, slots := 0, locals := 0 } : Room) s m #[(.int x), (.int y)] below meth c s₁ [] 0 0 := Stand.of_body Bd
  have e0 : s₁.heap = h0 := by rw [← hh, Bd.state]; rfl
  have N0 := Fr.nil n0
  show Goes p e below (Fin_ s (Qrm23 Z x y h0 n0) ({ frames := 0, cells := 0, slots := 0, locals := 0 } : Room).cells ({ frames := 0, cells := 0, slots := 0, locals := 0 } : Room).slots) (s₁.setTop (entryFrame m #[(.int x), (.int y)] 2))
  rw [ef_rm23 m x y]
  refine gILN X0 hx hby d23_0 rfl ?_
  refine gILN X0 hx hby d23_1 rfl ?_
  have hc2_1 : ¬ (x < y) := H0
  refine Goes.via (fun _ kk_ => XS.icmpNo X0.here hx rfl (hb hby d23_2) rfl (flt hc2_1).1 kk_) ?_
  show Goes p e below _ (s₁.setTop (mkF m 5 #[vi x, vi y] []))
  refine gILN X0 hx hby d23_5 rfl ?_
  refine Goes.via (fun _ kk_ => XS.goto X0.here hx rfl (pc0 := 6) (pc' := 10) rfl (hb hby d23_6) (by decide) (by decide) kk_) ?_
  show Goes p e below _ (s₁.setTop (mkF m 10 #[vi x, vi y] [(.int x)]))
  exact own_finI X0 hx hlk hret (hb hby d23_10) (by rw [e0]; exact ⟨rfl, rfl, rfl⟩) (by first | decide | omega | (dsimp only; omega)) (by first | decide | omega | (dsimp only; omega))
theorem ef_rm24 (m : MethodId) (x : Int32) (y : Int32) : entryFrame m #[(.int x), (.int y)] 2 = mkF m 0 #[.val (.int x), .val (.int y)] [] := by first | (simp [entryFrame, mkF, argsToLocals, Value.category]; done) | rfl
def Qrm24 (Z : State) (x : Int32) (y : Int32) (h0 : Heap) (n0 : Nat) (v_ : Option Value) (h_ : Heap) (L_ : List Loc) : Prop := v_ = some (.int x) ∧ L_ = [] ∧ h_ = h0
theorem d24_0 : decode jdk_29_method_69_code 0 = .ok (.iload_n 0, 1) := by decide +kernel
theorem d24_1 : decode jdk_29_method_69_code 1 = .ok (.iload_n 1, 1) := by decide +kernel
theorem d24_2 : decode jdk_29_method_69_code 2 = .ok (.if_icmp .gt 7, 3) := by decide +kernel
theorem d24_5 : decode jdk_29_method_69_code 5 = .ok (.iload_n 0, 1) := by decide +kernel
theorem d24_6 : decode jdk_29_method_69_code 6 = .ok (.goto 4, 3) := by decide +kernel
theorem d24_10 : decode jdk_29_method_69_code 10 = .ok (.ireturn, 1) := by decide +kernel
set_option maxRecDepth 65536 in
set_option maxHeartbeats 40000000 in
theorem rm24 (l : Launch) (Z : State) (a0 : Array Value) (hw : ∀ d ∈ tables_1, d.before a0 Z = true) (ws : List Jvm.Cond) (x : Int32) (y : Int32) (h0 : Heap) (n0 : Nat) (Z0 : n0 ≤ h0.size) (H0 : ¬ y < x) :
    MetFree l (⟨"java/lang/Math", "min", "(II)I"⟩ : MethodName) (head1 (Jvm.Cond.code (⟨"java/lang/Math", "min", "(II)I"⟩ : MethodName) jdk_29_method_69_code 2 (some .int) :: ws) ({ frames := 0, cells := 0, slots := 0, locals := 0 } : Room)) (fun as_ U_ => as_ = #[(.int x), (.int y)] ∧ Z.Warmed39 U_.vm ∧ U_.heap = h0) (fun _ _ _ _ _ => True) (fun _ U_ o_ V_ => ∃ v_ L_, o_ = .returned v_ ∧ Qrm24 Z x y h0 n0 v_ V_.heap L_ ∧ FrameEnd U_ o_ V_ L_ ({ frames := 0, cells := 0, slots := 0, locals := 0 } : Room).cells ({ frames := 0, cells := 0, slots := 0, locals := 0 } : Room).slots) := by
  refine MetFree.of_bodySF (Jvm.Free.JP.mathPlain rfl (by decide +kernel)) hisR ?_
  intro p e s m args below meth c s₁ Bd hml0 hP hK
  obtain ⟨rfl, hZ, hh⟩ := hP
  have hx := Bd.exec
  have hby := Bd.bytes
  have hlk : meth.locks = false := BodyLoose.notSynchronized Bd
  have hret := Bd.returns
  have hml : c.maxLocals = 2 := hml0
  have hown : s.vm.findClass "java/lang/Math" = some m.cls := findClass_of_methodNamed Bd.named
  have hnm := (name_of_methodNamed Bd.named Bd.method).1
  have X0 : Stand p l e ({ frames := 0, cells := 0, slots := 0, locals := 0 } : Room) s m #[(.int x), (.int y)] below meth c s₁ [] 0 0 := Stand.of_body Bd
  have e0 : s₁.heap = h0 := by rw [← hh, Bd.state]; rfl
  have N0 := Fr.nil n0
  show Goes p e below (Fin_ s (Qrm24 Z x y h0 n0) ({ frames := 0, cells := 0, slots := 0, locals := 0 } : Room).cells ({ frames := 0, cells := 0, slots := 0, locals := 0 } : Room).slots) (s₁.setTop (entryFrame m #[(.int x), (.int y)] 2))
  rw [ef_rm24 m x y]
  refine gILN X0 hx hby d24_0 rfl ?_
  refine gILN X0 hx hby d24_1 rfl ?_
  have hc2_1 : ¬ (y < x) := H0
  refine Goes.via (fun _ kk_ => XS.icmpNo X0.here hx rfl (hb hby d24_2) rfl (flt hc2_1).2.2.1 kk_) ?_
  show Goes p e below _ (s₁.setTop (mkF m 5 #[vi x, vi y] []))
  refine gILN X0 hx hby d24_5 rfl ?_
  refine Goes.via (fun _ kk_ => XS.goto X0.here hx rfl (pc0 := 6) (pc' := 10) rfl (hb hby d24_6) (by decide) (by decide) kk_) ?_
  show Goes p e below _ (s₁.setTop (mkF m 10 #[vi x, vi y] [(.int x)]))
  exact own_finI X0 hx hlk hret (hb hby d24_10) (by rw [e0]; exact ⟨rfl, rfl, rfl⟩) (by first | decide | omega | (dsimp only; omega)) (by first | decide | omega | (dsimp only; omega))
theorem ef_rm25 (m : MethodId) (b : Addr) (ch : Int32) (i_ : Int32) (nz : Int32) : entryFrame m #[(.ref b), (.int ch), (.int i_), (.int nz)] 6 = mkF m 0 #[.val (.ref b), .val (.int ch), .val (.int i_), .val (.int nz), .unset, .unset] [] := by first | (simp [entryFrame, mkF, argsToLocals, Value.category]; done) | rfl
def Qrm25 (Z : State) (b : Addr) (ch : Int32) (i_ : Int32) (nz : Int32) (kc : ClassId) (N : Nat) (g : Nat → Int32) (j : Nat) (h0 : Heap) (n0 : Nat) (v_ : Option Value) (h_ : Heap) (L_ : List Loc) : Prop := v_ = some (.int (own_find g ch.toInt8.toInt32 (N - j) j i_)) ∧ L_ = [] ∧ h_ = h0
theorem d25_0 : decode jdk_43_method_23_code 0 = .ok (.iload_n 1, 1) := by decide +kernel
theorem d25_1 : decode jdk_43_method_23_code 1 = .ok (.i2b, 1) := by decide +kernel
theorem d25_2 : decode jdk_43_method_23_code 2 = .ok (.istore 4, 2) := by decide +kernel
theorem d25_4 : decode jdk_43_method_23_code 4 = .ok (.iload_n 2, 1) := by decide +kernel
theorem d25_5 : decode jdk_43_method_23_code 5 = .ok (.istore 5, 2) := by decide +kernel
theorem d25_7 : decode jdk_43_method_23_code 7 = .ok (.iload 5, 2) := by decide +kernel
theorem d25_9 : decode jdk_43_method_23_code 9 = .ok (.iload_n 3, 1) := by decide +kernel
theorem d25_10 : decode jdk_43_method_23_code 10 = .ok (.if_icmp .ge 21, 3) := by decide +kernel
theorem d25_13 : decode jdk_43_method_23_code 13 = .ok (.aload_n 0, 1) := by decide +kernel
theorem d25_14 : decode jdk_43_method_23_code 14 = .ok (.iload 5, 2) := by decide +kernel
theorem d25_16 : decode jdk_43_method_23_code 16 = .ok (.baload, 1) := by decide +kernel
theorem d25_17 : decode jdk_43_method_23_code 17 = .ok (.iload 4, 2) := by decide +kernel
theorem d25_19 : decode jdk_43_method_23_code 19 = .ok (.if_icmp .ne 6, 3) := by decide +kernel
theorem d25_22 : decode jdk_43_method_23_code 22 = .ok (.iload 5, 2) := by decide +kernel
theorem d25_24 : decode jdk_43_method_23_code 24 = .ok (.ireturn, 1) := by decide +kernel
theorem d25_25 : decode jdk_43_method_23_code 25 = .ok (.iinc 5 1, 3) := by decide +kernel
theorem d25_28 : decode jdk_43_method_23_code 28 = .ok (.goto (-21), 3) := by decide +kernel
theorem d25_31 : decode jdk_43_method_23_code 31 = .ok (.iconst (-1), 1) := by decide +kernel
theorem d25_32 : decode jdk_43_method_23_code 32 = .ok (.ireturn, 1) := by decide +kernel
set_option maxRecDepth 65536 in
set_option maxHeartbeats 40000000 in
theorem rm25 (l : Launch) (Z : State) (a0 : Array Value) (hw : ∀ d ∈ tables_1, d.before a0 Z = true) (ws : List Jvm.Cond) (b : Addr) (ch : Int32) (i_ : Int32) (nz : Int32) (kc : ClassId) (N : Nat) (g : Nat → Int32) (j : Nat) (h0 : Heap) (n0 : Nat) (Z0 : n0 ≤ h0.size) (A0_b : Arw Z h0 b kc .byte N (fun i => .int (g i))) (Hij : i_.toInt = (j : Int)) (HjN : j ≤ N) (Hnz : nz.toInt = (N : Int)) :
    MetFree l (⟨"java/lang/StringLatin1", "indexOfChar", "([BIII)I"⟩ : MethodName) (head1 (Jvm.Cond.code (⟨"java/lang/StringLatin1", "indexOfChar", "([BIII)I"⟩ : MethodName) jdk_43_method_23_code 6 (some .int) :: ws) ({ frames := 0, cells := 0, slots := 0, locals := 0 } : Room)) (fun as_ U_ => as_ = #[(.ref b), (.int ch), (.int i_), (.int nz)] ∧ Z.Warmed39 U_.vm ∧ U_.heap = h0) (fun _ _ _ _ _ => True) (fun _ U_ o_ V_ => ∃ v_ L_, o_ = .returned v_ ∧ Qrm25 Z b ch i_ nz kc N g j h0 n0 v_ V_.heap L_ ∧ FrameEnd U_ o_ V_ L_ ({ frames := 0, cells := 0, slots := 0, locals := 0 } : Room).cells ({ frames := 0, cells := 0, slots := 0, locals := 0 } : Room).slots) := by
  refine MetFree.of_bodySF (plainFor_of_name pn_java_lang_StringLatin1) hisR ?_
  intro p e s m args below meth c s₁ Bd hml0 hP hK
  obtain ⟨rfl, hZ, hh⟩ := hP
  have hx := Bd.exec
  have hby := Bd.bytes
  have hlk : meth.locks = false := BodyLoose.notSynchronized Bd
  have hret := Bd.returns
  have hml : c.maxLocals = 6 := hml0
  have hown : s.vm.findClass "java/lang/StringLatin1" = some m.cls := findClass_of_methodNamed Bd.named
  have hnm := (name_of_methodNamed Bd.named Bd.method).1
  have X0 : Stand p l e ({ frames := 0, cells := 0, slots := 0, locals := 0 } : Room) s m #[(.ref b), (.int ch), (.int i_), (.int nz)] below meth c s₁ [] 0 0 := Stand.of_body Bd
  have e0 : s₁.heap = h0 := by rw [← hh, Bd.state]; rfl
  have N0 := Fr.nil n0
  show Goes p e below (Fin_ s (Qrm25 Z b ch i_ nz kc N g j h0 n0) ({ frames := 0, cells := 0, slots := 0, locals := 0 } : Room).cells ({ frames := 0, cells := 0, slots := 0, locals := 0 } : Room).slots) (s₁.setTop (entryFrame m #[(.ref b), (.int ch), (.int i_), (.int nz)] 6))
  rw [ef_rm25 m b ch i_ nz]
  refine gILN X0 hx hby d25_0 rfl ?_
  refine Goes.via (fun _ kk_ => XS.i2b X0.here hx rfl (hb hby d25_1) rfl kk_) ?_
  show Goes p e below _ (s₁.setTop (mkF m 2 #[vr b, vi ch, vi i_, vi nz, .unset, .unset] [(.int (ch.toInt8.toInt32))]))
  refine Goes.via (fun _ kk_ => XS.istore X0.here hx rfl (hb hby d25_2) rfl (l' := #[vr b, vi ch, vi i_, vi nz, vi (ch.toInt8.toInt32), .unset]) rfl kk_) ?_
  show Goes p e below _ (s₁.setTop (mkF m 4 #[vr b, vi ch, vi i_, vi nz, vi (ch.toInt8.toInt32), .unset] []))
  refine gILN X0 hx hby d25_4 rfl ?_
  refine Goes.via (fun _ kk_ => XS.istore X0.here hx rfl (hb hby d25_5) rfl (l' := #[vr b, vi ch, vi i_, vi nz, vi (ch.toInt8.toInt32), vi i_]) rfl kk_) ?_
  show Goes p e below _ (s₁.setTop (mkF m 7 #[vr b, vi ch, vi i_, vi nz, vi (ch.toInt8.toInt32), vi i_] []))
  have lp1 : ∀ (fu1 : Nat) (u : Int32) (y : Nat) (T1 : State) (lc1 : List Loc), (Stand p l e ({ frames := 0, cells := 0, slots := 0, locals := 0 } : Room) s m #[(.ref b), (.int ch), (.int i_), (.int nz)] below meth c T1 lc1 0 0) → (T1.heap = h0) → (lc1 = []) → (u.toInt = (y : Int)) → (y ≤ N) → (y + fu1 = N + 1) → (own_find g ch.toInt8.toInt32 (N - y) y u = own_find g ch.toInt8.toInt32 (N - j) j i_) → Goes p e below (Fin_ s (Qrm25 Z b ch i_ nz kc N g j h0 n0) ({ frames := 0, cells := 0, slots := 0, locals := 0 } : Room).cells ({ frames := 0, cells := 0, slots := 0, locals := 0 } : Room).slots) (T1.setTop (mkF m 7 #[vr b, vi ch, vi i_, vi nz, vi (ch.toInt8.toInt32), vi u] [])) := by
    intro fu1
    induction fu1 with
    | zero =>
      intro u y T1 lc1 X1 e1 N1 hu hyn hfu hr
      omega
    | succ fu1 ih1 =>
      intro u y T1 lc1 X1 e1 N1 hu hyn hfu hr
      subst N1
      refine gIL X1 hx hby d25_7 rfl ?_
      refine gILN X1 hx hby d25_9 rfl ?_
      by_cases hc10 : u < nz
      · skip
        refine Goes.via (fun _ kk_ => XS.icmpNo X1.here hx rfl (hb hby d25_10) rfl (tlt hc10).2.1 kk_) ?_
        show Goes p e below _ (T1.setTop (mkF m 13 #[vr b, vi ch, vi i_, vi nz, vi (ch.toInt8.toInt32), vi u] []))
        have hyN : y < N := by have q := own_lti.mp hc10; rw [hu, Hnz] at q; omega
        refine gALN X1 hx hby d25_13 rfl rfl ?_
        refine gIL X1 hx hby d25_14 rfl ?_
        refine Goes.via (own_baload X1 hx hZ e1 A0_b (j := u) (i := y) (own_ix hu).1 (own_ix hu).2 hyN (v := (g y)) rfl (g := (mkF m 16 #[vr b, vi ch, vi i_, vi nz, vi (ch.toInt8.toInt32), vi u] [(.int u), (.ref b)])) rfl rfl (hb hby d25_16)) ?_
        show Goes p e below _ (T1.setTop (mkF m 17 #[vr b, vi ch, vi i_, vi nz, vi (ch.toInt8.toInt32), vi u] [(.int (g y))]))
        refine gIL X1 hx hby d25_17 rfl ?_
        by_cases hc19 : (g y) = (ch.toInt8.toInt32)
        · skip
          refine Goes.via (fun _ kk_ => XS.icmpNo X1.here hx rfl (hb hby d25_19) rfl (teq hc19).2 kk_) ?_
          show Goes p e below _ (T1.setTop (mkF m 22 #[vr b, vi ch, vi i_, vi nz, vi (ch.toInt8.toInt32), vi u] []))
          refine gIL X1 hx hby d25_22 rfl ?_
          exact own_finI X1 hx hlk hret (hb hby d25_24) (by rw [e1]; exact ⟨(own_ret (hr.symm.trans (own_find_hit hyN hc19)).symm), rfl, rfl⟩) (by first | decide | omega | (dsimp only; omega)) (by first | decide | omega | (dsimp only; omega))
        · skip
          refine Goes.via (fun _ kk_ => XS.icmpYes X1.here hx rfl (pc0 := 19) (pc' := 25) rfl (hb hby d25_19) rfl (feq hc19).2 (by decide) (by decide) kk_) ?_
          show Goes p e below _ (T1.setTop (mkF m 25 #[vr b, vi ch, vi i_, vi nz, vi (ch.toInt8.toInt32), vi u] []))
          refine Goes.via (fun _ kk_ => XS.iinc X1.here hx rfl (hb hby d25_25) rfl (l' := #[vr b, vi ch, vi i_, vi nz, vi (ch.toInt8.toInt32), vi (u + (1 : Int32))]) rfl kk_) ?_
          show Goes p e below _ (T1.setTop (mkF m 28 #[vr b, vi ch, vi i_, vi nz, vi (ch.toInt8.toInt32), vi (u + (1 : Int32))] []))
          refine Goes.via (fun _ kk_ => XS.goto X1.here hx rfl (pc0 := 28) (pc' := 7) rfl (hb hby d25_28) (by decide) (by decide) kk_) ?_
          show Goes p e below _ (T1.setTop (mkF m 7 #[vr b, vi ch, vi i_, vi nz, vi (ch.toInt8.toInt32), vi (u + (1 : Int32))] []))
          exact ih1 ((u + (1 : Int32))) (y + 1) _ _ X1 e1 rfl (own_p1 hu (by have := nz.toInt_lt; omega)) (by omega) (by omega) ((own_find_next hyN hc19).trans hr)
      · skip
        refine Goes.via (fun _ kk_ => XS.icmpYes X1.here hx rfl (pc0 := 10) (pc' := 31) rfl (hb hby d25_10) rfl (flt hc10).2.1 (by decide) (by decide) kk_) ?_
        show Goes p e below _ (T1.setTop (mkF m 31 #[vr b, vi ch, vi i_, vi nz, vi (ch.toInt8.toInt32), vi u] []))
        refine gIC (z := -1) X1 hx hby d25_31 rfl ?_
        exact own_finI X1 hx hlk hret (hb hby d25_32) (by rw [e1]; exact ⟨(own_ret (hr.symm.trans (own_find_end (by have q : ¬ _ := fun q => hc10 (own_lti.mpr q); rw [hu, Hnz] at q; omega))).symm), rfl, rfl⟩) (by first | decide | omega | (dsimp only; omega)) (by first | decide | omega | (dsimp only; omega))
  exact lp1 (N + 1 - j) (i_) (j) _ _ X0 e0 rfl Hij HjN (by omega) rfl
theorem ef_rm21 (m : MethodId) (b : Addr) (ch : Int32) (i_ : Int32) (nz : Int32) : entryFrame m #[(.ref b), (.int ch), (.int i_), (.int nz)] 4 = mkF m 0 #[.val (.ref b), .val (.int ch), .val (.int i_), .val (.int nz)] [] := by first | (simp [entryFrame, mkF, argsToLocals, Value.category]; done) | rfl
def Qrm21 (Z : State) (b : Addr) (ch : Int32) (i_ : Int32) (nz : Int32) (kc : ClassId) (N : Nat) (g : Nat → Int32) (j : Nat) (h0 : Heap) (n0 : Nat) (v_ : Option Value) (h_ : Heap) (L_ : List Loc) : Prop := v_ = some (.int (own_find g ch.toInt8.toInt32 (N - j) j i_)) ∧ L_ = [] ∧ h_ = h0
theorem d21_0 : decode jdk_43_method_22_code 0 = .ok (.iload_n 1, 1) := by decide +kernel
theorem pd_5 : parseMethodDescriptor "(I)Z" = some ⟨[.int], some .boolean⟩ := by decide +kernel
theorem d21_1 : decode jdk_43_method_22_code 1 = .ok (.invokestatic 88, 3) := by decide +kernel
theorem d21_4 : decode jdk_43_method_22_code 4 = .ok (.ifCond .ne 5, 3) := by decide +kernel
theorem d21_9 : decode jdk_43_method_22_code 9 = .ok (.iload_n 2, 1) := by decide +kernel
theorem d21_10 : decode jdk_43_method_22_code 10 = .ok (.iconst 0, 1) := by decide +kernel
theorem pd_6 : parseMethodDescriptor "(II)I" = some ⟨[.int, .int], some .int⟩ := by decide +kernel
theorem d21_11 : decode jdk_43_method_22_code 11 = .ok (.invokestatic 92, 3) := by decide +kernel
theorem d21_14 : decode jdk_43_method_22_code 14 = .ok (.istore_n 2, 1) := by decide +kernel
theorem d21_15 : decode jdk_43_method_22_code 15 = .ok (.iload_n 3, 1) := by decide +kernel
theorem d21_16 : decode jdk_43_method_22_code 16 = .ok (.aload_n 0, 1) := by decide +kernel
theorem d21_17 : decode jdk_43_method_22_code 17 = .ok (.arraylength, 1) := by decide +kernel
theorem d21_18 : decode jdk_43_method_22_code 18 = .ok (.invokestatic 38, 3) := by decide +kernel
theorem d21_21 : decode jdk_43_method_22_code 21 = .ok (.istore_n 3, 1) := by decide +kernel
theorem d21_22 : decode jdk_43_method_22_code 22 = .ok (.iload_n 2, 1) := by decide +kernel
theorem d21_23 : decode jdk_43_method_22_code 23 = .ok (.iload_n 3, 1) := by decide +kernel
theorem d21_24 : decode jdk_43_method_22_code 24 = .ok (.if_icmp .lt 5, 3) := by decide +kernel
theorem d21_29 : decode jdk_43_method_22_code 29 = .ok (.aload_n 0, 1) := by decide +kernel
theorem d21_30 : decode jdk_43_method_22_code 30 = .ok (.iload_n 1, 1) := by decide +kernel
theorem d21_31 : decode jdk_43_method_22_code 31 = .ok (.iload_n 2, 1) := by decide +kernel
theorem d21_32 : decode jdk_43_method_22_code 32 = .ok (.iload_n 3, 1) := by decide +kernel
theorem pd_7 : parseMethodDescriptor "([BIII)I" = some ⟨[(.array .byte), .int, .int, .int], some .int⟩ := by decide +kernel
theorem d21_33 : decode jdk_43_method_22_code 33 = .ok (.invokestatic 95, 3) := by decide +kernel
theorem d21_36 : decode jdk_43_method_22_code 36 = .ok (.ireturn, 1) := by decide +kernel
theorem d21_27 : decode jdk_43_method_22_code 27 = .ok (.iconst (-1), 1) := by decide +kernel
theorem d21_28 : decode jdk_43_method_22_code 28 = .ok (.ireturn, 1) := by decide +kernel
set_option maxRecDepth 65536 in
set_option maxHeartbeats 40000000 in
theorem rm21 (l : Launch) (Z : State) (a0 : Array Value) (hw : ∀ d ∈ tables_1, d.before a0 Z = true) (ws : List Jvm.Cond) (b : Addr) (ch : Int32) (i_ : Int32) (nz : Int32) (kc : ClassId) (N : Nat) (g : Nat → Int32) (j : Nat) (h0 : Heap) (n0 : Nat) (Z0 : n0 ≤ h0.size) (A0_b : Arw Z h0 b kc .byte N (fun i => .int (g i))) (Hij : i_.toInt = (j : Int)) (HjN : j ≤ N) (Hnz : nz.toInt = (N : Int)) (H0 : ¬ ch < (0 : Int32)) (H1 : ¬ (255 : Int32) < ch) :
    MetFree l (⟨"java/lang/StringLatin1", "indexOf", "([BIII)I"⟩ : MethodName) (head1 (Jvm.Cond.code (⟨"java/lang/StringLatin1", "indexOf", "([BIII)I"⟩ : MethodName) jdk_43_method_22_code 4 (some .int) :: ws) ({ frames := 1, cells := 0, slots := 0, locals := 17 } : Room)) (fun as_ U_ => as_ = #[(.ref b), (.int ch), (.int i_), (.int nz)] ∧ Z.Warmed39 U_.vm ∧ U_.heap = h0) (fun _ _ _ _ _ => True) (fun _ U_ o_ V_ => ∃ v_ L_, o_ = .returned v_ ∧ Qrm21 Z b ch i_ nz kc N g j h0 n0 v_ V_.heap L_ ∧ FrameEnd U_ o_ V_ L_ ({ frames := 1, cells := 0, slots := 0, locals := 17 } : Room).cells ({ frames := 1, cells := 0, slots := 0, locals := 17 } : Room).slots) := by
  refine MetFree.of_bodySF (plainFor_of_name pn_java_lang_StringLatin1) hisR ?_
  intro p e s m args below meth c s₁ Bd hml0 hP hK
  obtain ⟨rfl, hZ, hh⟩ := hP
  have hx := Bd.exec
  have hby := Bd.bytes
  have hlk : meth.locks = false := BodyLoose.notSynchronized Bd
  have hret := Bd.returns
  have hml : c.maxLocals = 4 := hml0
  have hown : s.vm.findClass "java/lang/StringLatin1" = some m.cls := findClass_of_methodNamed Bd.named
  have hnm := (name_of_methodNamed Bd.named Bd.method).1
  have X0 : Stand p l e ({ frames := 1, cells := 0, slots := 0, locals := 17 } : Room) s m #[(.ref b), (.int ch), (.int i_), (.int nz)] below meth c s₁ [] 0 0 := Stand.of_body Bd
  have e0 : s₁.heap = h0 := by rw [← hh, Bd.state]; rfl
  have N0 := Fr.nil n0
  show Goes p e below (Fin_ s (Qrm21 Z b ch i_ nz kc N g j h0 n0) ({ frames := 1, cells := 0, slots := 0, locals := 17 } : Room).cells ({ frames := 1, cells := 0, slots := 0, locals := 17 } : Room).slots) (s₁.setTop (entryFrame m #[(.ref b), (.int ch), (.int i_), (.int nz)] 4))
  rw [ef_rm21 m b ch i_ nz]
  refine gILN X0 hx hby d21_0 rfl ?_
  obtain ⟨_, _, ⟨T1, L1, k1, n1⟩, -, X1, ⟨Lc1, hQ1, l1, y1, z1⟩, st1⟩ := Jvm.LawKit.callS X0 hx (y := (⟨"java/lang/StringLatin1", "canEncode", "(I)Z"⟩ : MethodName)) hown (mvT hZ (own_w hw 97 rfl)) (mvT hZ (own_w hw 98 rfl)) (mvT hZ (own_w hw 27 rfl)) (mvT hZ (own_w hw 99 rfl)) (by decide) (backOf (W := 0) (rm22 l Z a0 hw [] ch h0 n0 (Nat.le_trans Z0 (Nat.le_refl _)) H0 H1) hZ (own_w hw 99 rfl) (own_w hw 27 rfl) (by decide) (by decide)) (g := (mkF m 1 #[vr b, vi ch, vi i_, vi nz] [(.int ch)])) rfl (by rw [hml]; rfl) (argsL := [(.int ch)]) (rest := []) (lenOf pd_5 rfl) rfl (by show 2 * 0 + _ ≤ _; exact Nat.le_of_eq rfl) (hb hby d21_1) (fun _ _ => ⟨rfl, e0, (by decide : 0 + 0 ≤ _), (by decide : 0 + 0 ≤ _)⟩)
  dsimp only [Pt.U, Pt.locs, Pt.cells, Pt.slots] at X1 l1 y1 z1 st1 hQ1
  replace l1 := l1.symm
  subst l1 y1 z1
  obtain ⟨rfl, rfl, e1⟩ := hQ1
  first | rw [List.append_nil] at X1 | skip
  refine Goes.via st1 ?_
  have e1' : T1.heap = h0 := e1
  show Goes p e below _ (T1.setTop (mkF m 4 #[vr b, vi ch, vi i_, vi nz] [(.int (1 : Int32))]))
  have hc4_2 : ¬ ((1 : Int32) = (0 : Int32)) := (by decide)
  refine Goes.via (fun _ kk_ => XS.ifYes X1.here hx rfl (pc0 := 4) (pc' := 9) rfl (hb hby d21_4) rfl ((if0 _ _).trans (feq hc4_2).2) (by decide) (by decide) kk_) ?_
  show Goes p e below _ (T1.setTop (mkF m 9 #[vr b, vi ch, vi i_, vi nz] []))
  refine gILN X1 hx hby d21_9 rfl ?_
  refine gIC (z := 0) X1 hx hby d21_10 rfl ?_
  obtain ⟨_, _, ⟨T3, L3, k3, n3⟩, -, X3, ⟨Lc3, hQ3, l3, y3, z3⟩, st3⟩ := Jvm.LawKit.callS X1 hx (y := (⟨"java/lang/Math", "max", "(II)I"⟩ : MethodName)) hown (mvT hZ (own_w hw 100 rfl)) (mvT hZ (own_w hw 101 rfl)) (mvT hZ (own_w hw 102 rfl)) (mvT hZ (own_w hw 103 rfl)) (by decide) (backOf (W := 0) (rm23 l Z a0 hw [] i_ (0 : Int32) h0 n0 (Nat.le_trans Z0 (Nat.le_refl _)) (own_ix Hij).1) hZ (own_w hw 103 rfl) (own_w hw 102 rfl) (by decide) (by decide)) (g := (mkF m 11 #[vr b, vi ch, vi i_, vi nz] [(.int (0 : Int32)), (.int i_)])) rfl (by rw [hml]; rfl) (argsL := [(.int i_), (.int (0 : Int32))]) (rest := []) (lenOf pd_6 rfl) rfl (by show 2 * 0 + _ ≤ _; exact Nat.le_of_eq rfl) (hb hby d21_11) (fun _ _ => ⟨rfl, e1', (by decide : 0 + 0 ≤ _), (by decide : 0 + 0 ≤ _)⟩)
  dsimp only [Pt.U, Pt.locs, Pt.cells, Pt.slots] at X3 l3 y3 z3 st3 hQ3
  replace l3 := l3.symm
  subst l3 y3 z3
  obtain ⟨rfl, rfl, e3⟩ := hQ3
  first | rw [List.append_nil] at X3 | skip
  refine Goes.via st3 ?_
  have e3' : T3.heap = h0 := e3
  show Goes p e below _ (T3.setTop (mkF m 14 #[vr b, vi ch, vi i_, vi nz] [(.int i_)]))
  refine Goes.via (fun _ kk_ => XS.istoreN X3.here hx rfl (hb hby d21_14) rfl (l' := #[vr b, vi ch, vi i_, vi nz]) rfl kk_) ?_
  show Goes p e below _ (T3.setTop (mkF m 15 #[vr b, vi ch, vi i_, vi nz] []))
  refine gILN X3 hx hby d21_15 rfl ?_
  refine gALN X3 hx hby d21_16 rfl rfl ?_
  refine Goes.via (own_alen X3 hx hZ e3' A0_b (g := (mkF m 17 #[vr b, vi ch, vi i_, vi nz] [(.ref b), (.int nz)])) rfl rfl (hb hby d21_17)) ?_
  rw [show (N : Nat).toInt32 = nz from (own_nz Hnz)]
  show Goes p e below _ (T3.setTop (mkF m 18 #[vr b, vi ch, vi i_, vi nz] [(.int nz), (.int nz)]))
  obtain ⟨_, _, ⟨T4, L4, k4, n4⟩, -, X4, ⟨Lc4, hQ4, l4, y4, z4⟩, st4⟩ := Jvm.LawKit.callS X3 hx (y := (⟨"java/lang/Math", "min", "(II)I"⟩ : MethodName)) hown (mvT hZ (own_w hw 104 rfl)) (mvT hZ (own_w hw 105 rfl)) (mvT hZ (own_w hw 102 rfl)) (mvT hZ (own_w hw 106 rfl)) (by decide) (backOf (W := 0) (rm24 l Z a0 hw [] nz nz h0 n0 (Nat.le_trans Z0 (Nat.le_refl _)) (fun q => Int32.lt_irrefl q)) hZ (own_w hw 106 rfl) (own_w hw 102 rfl) (by decide) (by decide)) (g := (mkF m 18 #[vr b, vi ch, vi i_, vi nz] [(.int nz), (.int nz)])) rfl (by rw [hml]; rfl) (argsL := [(.int nz), (.int nz)]) (rest := []) (lenOf pd_6 rfl) rfl (by show 2 * 0 + _ ≤ _; exact Nat.le_of_eq rfl) (hb hby d21_18) (fun _ _ => ⟨rfl, e3', (by decide : 0 + 0 ≤ _), (by decide : 0 + 0 ≤ _)⟩)
  dsimp only [Pt.U, Pt.locs, Pt.cells, Pt.slots] at X4 l4 y4 z4 st4 hQ4
  replace l4 := l4.symm
  subst l4 y4 z4
  obtain ⟨rfl, rfl, e4⟩ := hQ4
  first | rw [List.append_nil] at X4 | skip
  refine Goes.via st4 ?_
  have e4' : T4.heap = h0 := e4
  show Goes p e below _ (T4.setTop (mkF m 21 #[vr b, vi ch, vi i_, vi nz] [(.int nz)]))
  refine Goes.via (fun _ kk_ => XS.istoreN X4.here hx rfl (hb hby d21_21) rfl (l' := #[vr b, vi ch, vi i_, vi nz]) rfl kk_) ?_
  show Goes p e below _ (T4.setTop (mkF m 22 #[vr b, vi ch, vi i_, vi nz] []))
  refine gILN X4 hx hby d21_22 rfl ?_
  refine gILN X4 hx hby d21_23 rfl ?_
  by_cases hc24 : i_ < nz
  · skip
    refine Goes.via (fun _ kk_ => XS.icmpYes X4.here hx rfl (pc0 := 24) (pc' := 29) rfl (hb hby d21_24) rfl (tlt hc24).1 (by decide) (by decide) kk_) ?_
    show Goes p e below _ (T4.setTop (mkF m 29 #[vr b, vi ch, vi i_, vi nz] []))
    refine gALN X4 hx hby d21_29 rfl rfl ?_
    refine gILN X4 hx hby d21_30 rfl ?_
    refine gILN X4 hx hby d21_31 rfl ?_
    refine gILN X4 hx hby d21_32 rfl ?_
    obtain ⟨_, _, ⟨T5, L5, k5, n5⟩, -, X5, ⟨Lc5, hQ5, l5, y5, z5⟩, st5⟩ := Jvm.LawKit.callS X4 hx (y := (⟨"java/lang/StringLatin1", "indexOfChar", "([BIII)I"⟩ : MethodName)) hown (mvT hZ (own_w hw 107 rfl)) (mvT hZ (own_w hw 108 rfl)) (mvT hZ (own_w hw 27 rfl)) (mvT hZ (own_w hw 109 rfl)) (by decide) (backOf (W := 0) (rm25 l Z a0 hw [] b ch i_ nz kc N g j h0 n0 (Nat.le_trans Z0 (Nat.le_refl _)) A0_b Hij HjN Hnz) hZ (own_w hw 109 rfl) (own_w hw 27 rfl) (by decide) (by decide)) (g := (mkF m 33 #[vr b, vi ch, vi i_, vi nz] [(.int nz), (.int i_), (.int ch), (.ref b)])) rfl (by rw [hml]; rfl) (argsL := [(.ref b), (.int ch), (.int i_), (.int nz)]) (rest := []) (lenOf pd_7 rfl) rfl (by show 2 * 0 + _ ≤ _; exact Nat.le_of_eq rfl) (hb hby d21_33) (fun _ _ => ⟨rfl, e4', (by decide : 0 + 0 ≤ _), (by decide : 0 + 0 ≤ _)⟩)
    dsimp only [Pt.U, Pt.locs, Pt.cells, Pt.slots] at X5 l5 y5 z5 st5 hQ5
    replace l5 := l5.symm
    subst l5 y5 z5
    obtain ⟨rfl, rfl, e5⟩ := hQ5
    first | rw [List.append_nil] at X5 | skip
    refine Goes.via st5 ?_
    have e5' : T5.heap = h0 := e5
    show Goes p e below _ (T5.setTop (mkF m 36 #[vr b, vi ch, vi i_, vi nz] [(.int (own_find g ch.toInt8.toInt32 (N - j) j i_))]))
    exact own_finI X5 hx hlk hret (hb hby d21_36) (by rw [e5']; exact ⟨rfl, rfl, rfl⟩) (by first | decide | omega | (dsimp only; omega)) (by first | decide | omega | (dsimp only; omega))
  · skip
    refine Goes.via (fun _ kk_ => XS.icmpNo X4.here hx rfl (hb hby d21_24) rfl (flt hc24).1 kk_) ?_
    show Goes p e below _ (T4.setTop (mkF m 27 #[vr b, vi ch, vi i_, vi nz] []))
    refine gIC (z := -1) X4 hx hby d21_27 rfl ?_
    exact own_finI X4 hx hlk hret (hb hby d21_28) (by rw [e4']; exact ⟨(own_ret (own_find_end (by have q : ¬ _ := fun q => hc24 (own_lti.mpr q); rw [Hij, Hnz] at q; omega)).symm), rfl, rfl⟩) (by first | decide | omega | (dsimp only; omega)) (by first | decide | omega | (dsimp only; omega))
theorem ef_rm19 (m : MethodId) (a : Addr) (ch : Int32) (i_ : Int32) : entryFrame m #[(.ref a), (.int ch), (.int i_)] 3 = mkF m 0 #[.val (.ref a), .val (.int ch), .val (.int i_)] [] := by first | (simp [entryFrame, mkF, argsToLocals, Value.category]; done) | rfl
def Qrm19 (Z : State) (a : Addr) (ch : Int32) (i_ : Int32) (nz : Int32) (cS : Int32) (t : Addr) (kc : ClassId) (N : Nat) (g : Nat → Int32) (j : Nat) (h0 : Heap) (n0 : Nat) (v_ : Option Value) (h_ : Heap) (L_ : List Loc) : Prop := v_ = some (.int (own_find g ch.toInt8.toInt32 (N - j) j i_)) ∧ L_ = [] ∧ h_ = h0
theorem d19_0 : decode jdk_42_method_80_code 0 = .ok (.aload_n 0, 1) := by decide +kernel
theorem d19_1 : decode jdk_42_method_80_code 1 = .ok (.invokevirtual 492, 3) := by decide +kernel
theorem d19_4 : decode jdk_42_method_80_code 4 = .ok (.ifCond .eq 19, 3) := by decide +kernel
theorem d19_7 : decode jdk_42_method_80_code 7 = .ok (.aload_n 0, 1) := by decide +kernel
theorem d19_8 : decode jdk_42_method_80_code 8 = .ok (.getfield 9, 3) := by decide +kernel
theorem d19_11 : decode jdk_42_method_80_code 11 = .ok (.iload_n 1, 1) := by decide +kernel
theorem d19_12 : decode jdk_42_method_80_code 12 = .ok (.iload_n 2, 1) := by decide +kernel
theorem d19_13 : decode jdk_42_method_80_code 13 = .ok (.aload_n 0, 1) := by decide +kernel
theorem pd_8 : parseMethodDescriptor "()I" = some ⟨[], some .int⟩ := by decide +kernel
theorem d19_14 : decode jdk_42_method_80_code 14 = .ok (.invokevirtual 505, 3) := by decide +kernel
theorem d19_17 : decode jdk_42_method_80_code 17 = .ok (.invokestatic 637, 3) := by decide +kernel
theorem d19_20 : decode jdk_42_method_80_code 20 = .ok (.goto 16, 3) := by decide +kernel
theorem d19_36 : decode jdk_42_method_80_code 36 = .ok (.ireturn, 1) := by decide +kernel
set_option maxRecDepth 65536 in
set_option maxHeartbeats 40000000 in
theorem rm19 (l : Launch) (Z : State) (a0 : Array Value) (hw : ∀ d ∈ tables_1, d.before a0 Z = true) (ws : List Jvm.Cond) (a : Addr) (ch : Int32) (i_ : Int32) (nz : Int32) (cS : Int32) (t : Addr) (kc : ClassId) (N : Nat) (g : Nat → Int32) (j : Nat) (h0 : Heap) (n0 : Nat) (Z0 : n0 ≤ h0.size) (E0_a : Exa Z h0 a "java/lang/String") (F1_a_coder : Fld Z h0 a "java/lang/String" "coder" "B" (.int (0 : Int32))) (F2_a_value : Fld Z h0 a "java/lang/String" "value" "[B" (.ref t)) (A3_t : Arw Z h0 t kc .byte N (fun i => .int (g i))) (S4_java_lang_String_COMPACT_STRINGS_COMPACT_STRINGS : Sta Z h0 "java/lang/String" "COMPACT_STRINGS" "Z" (.int cS)) (H_cs : ¬ cS = (0 : Int32)) (Hij : i_.toInt = (j : Int)) (HjN : j ≤ N) (Hnz : nz.toInt = (N : Int)) (H0 : ¬ ch < (0 : Int32)) (H1 : ¬ (255 : Int32) < ch) :
    MetFree l (⟨"java/lang/String", "indexOf", "(II)I"⟩ : MethodName) (head1 (Jvm.Cond.code (⟨"java/lang/String", "indexOf", "(II)I"⟩ : MethodName) jdk_42_method_80_code 3 (some .int) :: ws) ({ frames := 2, cells := 0, slots := 0, locals := 32 } : Room)) (fun as_ U_ => as_ = #[(.ref a), (.int ch), (.int i_)] ∧ Z.Warmed39 U_.vm ∧ U_.heap = h0) (fun _ _ _ _ _ => True) (fun _ U_ o_ V_ => ∃ v_ L_, o_ = .returned v_ ∧ Qrm19 Z a ch i_ nz cS t kc N g j h0 n0 v_ V_.heap L_ ∧ FrameEnd U_ o_ V_ L_ ({ frames := 2, cells := 0, slots := 0, locals := 32 } : Room).cells ({ frames := 2, cells := 0, slots := 0, locals := 32 } : Room).slots) := by
  refine MetFree.of_bodySF (plainFor_of_name pn_java_lang_String) hisR ?_
  intro p e s m args below meth c s₁ Bd hml0 hP hK
  obtain ⟨rfl, hZ, hh⟩ := hP
  have hx := Bd.exec
  have hby := Bd.bytes
  have hlk : meth.locks = false := BodyLoose.notSynchronized Bd
  have hret := Bd.returns
  have hml : c.maxLocals = 3 := hml0
  have hown : s.vm.findClass "java/lang/String" = some m.cls := findClass_of_methodNamed Bd.named
  have hnm := (name_of_methodNamed Bd.named Bd.method).1
  have X0 : Stand p l e ({ frames := 2, cells := 0, slots := 0, locals := 32 } : Room) s m #[(.ref a), (.int ch), (.int i_)] below meth c s₁ [] 0 0 := Stand.of_body Bd
  have e0 : s₁.heap = h0 := by rw [← hh, Bd.state]; rfl
  have N0 := Fr.nil n0
  show Goes p e below (Fin_ s (Qrm19 Z a ch i_ nz cS t kc N g j h0 n0) ({ frames := 2, cells := 0, slots := 0, locals := 32 } : Room).cells ({ frames := 2, cells := 0, slots := 0, locals := 32 } : Room).slots) (s₁.setTop (entryFrame m #[(.ref a), (.int ch), (.int i_)] 3))
  rw [ef_rm19 m a ch i_]
  have ne1 : a ≠ t := own_ne_arr E0_a (own_w hw 6 rfl) A3_t
  refine gALN X0 hx hby d19_0 rfl rfl ?_
  obtain ⟨cq2, kq2, q2a, q2b, q2c⟩ := isOf hZ e0 E0_a
  obtain ⟨_, _, ⟨T2, L2, k2, n2⟩, -, X2, ⟨Lc2, hQ2, l2, y2, z2⟩, st2⟩ := X0.virtualBack hx (y := (⟨"java/lang/String", "isLatin1", "()Z"⟩ : MethodName)) (z := (⟨"java/lang/String", "isLatin1", "()Z"⟩ : MethodName)) hown (mvT hZ (own_w hw 17 rfl)) (mvT hZ (own_w hw 18 rfl)) (notFace_of_selects (args := #[]) (mvT hZ (own_w hw 20 rfl))) (mvT hZ (own_w hw 20 rfl)) (mvT hZ (own_w hw 19 rfl)) (by decide) (backOf (W := 0) (rm3 l Z a0 hw [] a cS h0 n0 (Nat.le_trans Z0 (Nat.le_refl _)) F1_a_coder S4_java_lang_String_COMPACT_STRINGS_COMPACT_STRINGS H_cs) hZ (own_w hw 21 rfl) (own_w hw 5 rfl) (by decide) (by decide)) q2a q2c (g := (mkF m 1 #[vr a, vi ch, vi i_] [(.ref a)])) rfl (by rw [hml]; rfl) (Steps.refl _) (argsL := []) (rest := []) (lenOf pd_3 rfl) rfl (by show 2 * 0 + _ ≤ _; exact Nat.le_of_eq rfl) (hb hby d19_1) (fun _ _ => ⟨rfl, e0, (by decide : 0 + 0 ≤ _), (by decide : 0 + 0 ≤ _)⟩)
  dsimp only [Pt.U, Pt.locs, Pt.cells, Pt.slots] at X2 l2 y2 z2 st2 hQ2
  replace l2 := l2.symm
  subst l2 y2 z2
  obtain ⟨rfl, rfl, e2⟩ := hQ2
  first | rw [List.append_nil] at X2 | skip
  refine Goes.tr st2 ?_
  have e2' : T2.heap = h0 := e2
  show Goes p e below _ (T2.setTop (mkF m 4 #[vr a, vi ch, vi i_] [(.int (1 : Int32))]))
  have hc4_3 : ¬ ((1 : Int32) = (0 : Int32)) := (by decide)
  refine Goes.via (fun _ kk_ => XS.ifNo X2.here hx rfl (hb hby d19_4) rfl ((if0 _ _).trans (feq hc4_3).1) kk_) ?_
  show Goes p e below _ (T2.setTop (mkF m 7 #[vr a, vi ch, vi i_] []))
  refine gALN X2 hx hby d19_7 rfl rfl ?_
  obtain ⟨T4, X4, e4, st4⟩ := getF X2 hx hZ hown (host := "") (Or.inl (own_w hw 24 rfl)) Via.refl e2' F2_a_value (g := (mkF m 8 #[vr a, vi ch, vi i_] [(.ref a)])) rfl rfl (hb hby d19_8)
  refine Goes.via st4 ?_
  show Goes p e below _ (T4.setTop (mkF m 11 #[vr a, vi ch, vi i_] [(.ref t)]))
  refine gILN X4 hx hby d19_11 rfl ?_
  refine gILN X4 hx hby d19_12 rfl ?_
  refine gALN X4 hx hby d19_13 rfl rfl ?_
  obtain ⟨cq5, kq5, q5a, q5b, q5c⟩ := isOf hZ e4 E0_a
  obtain ⟨_, _, ⟨T5, L5, k5, n5⟩, -, X5, ⟨Lc5, hQ5, l5, y5, z5⟩, st5⟩ := X4.virtualBack hx (y := (⟨"java/lang/String", "length", "()I"⟩ : MethodName)) (z := (⟨"java/lang/String", "length", "()I"⟩ : MethodName)) hown (mvT hZ (own_w hw 89 rfl)) (mvT hZ (own_w hw 90 rfl)) (notFace_of_selects (args := #[]) (mvT hZ (own_w hw 92 rfl))) (mvT hZ (own_w hw 92 rfl)) (mvT hZ (own_w hw 91 rfl)) (by decide) (backOf (W := 3) (rm20 l Z a0 hw [] a nz cS t kc N g h0 n0 (Nat.le_trans Z0 (Nat.le_refl _)) E0_a F1_a_coder F2_a_value A3_t S4_java_lang_String_COMPACT_STRINGS_COMPACT_STRINGS H_cs Hnz) hZ (own_w hw 93 rfl) (own_w hw 5 rfl) (by decide) (by decide)) q5a q5c (g := (mkF m 14 #[vr a, vi ch, vi i_] [(.ref a), (.int i_), (.int ch), (.ref t)])) rfl (by rw [hml]; rfl) (Steps.refl _) (argsL := []) (rest := [(.int i_), (.int ch), (.ref t)]) (lenOf pd_8 rfl) rfl (by show 2 * 0 + _ ≤ _; exact Nat.le_of_eq rfl) (hb hby d19_14) (fun _ _ => ⟨rfl, e4, (by decide : 0 + 0 ≤ _), (by decide : 0 + 0 ≤ _)⟩)
  dsimp only [Pt.U, Pt.locs, Pt.cells, Pt.slots] at X5 l5 y5 z5 st5 hQ5
  replace l5 := l5.symm
  subst l5 y5 z5
  obtain ⟨rfl, rfl, e5⟩ := hQ5
  first | rw [List.append_nil] at X5 | skip
  refine Goes.tr st5 ?_
  have e5' : T5.heap = h0 := e5
  show Goes p e below _ (T5.setTop (mkF m 17 #[vr a, vi ch, vi i_] [(.int nz), (.int i_), (.int ch), (.ref t)]))
  obtain ⟨_, _, ⟨T6, L6, k6, n6⟩, -, X6, ⟨Lc6, hQ6, l6, y6, z6⟩, st6⟩ := Jvm.LawKit.callS X5 hx (y := (⟨"java/lang/StringLatin1", "indexOf", "([BIII)I"⟩ : MethodName)) hown (mvT hZ (own_w hw 94 rfl)) (mvT hZ (own_w hw 95 rfl)) (mvT hZ (own_w hw 27 rfl)) (mvT hZ (own_w hw 96 rfl)) (by decide) (backOf (W := 0) (rm21 l Z a0 hw [] t ch i_ nz kc N g j h0 n0 (Nat.le_trans Z0 (Nat.le_refl _)) A3_t Hij HjN Hnz H0 H1) hZ (own_w hw 96 rfl) (own_w hw 27 rfl) (by decide) (by decide)) (g := (mkF m 17 #[vr a, vi ch, vi i_] [(.int nz), (.int i_), (.int ch), (.ref t)])) rfl (by rw [hml]; rfl) (argsL := [(.ref t), (.int ch), (.int i_), (.int nz)]) (rest := []) (lenOf pd_7 rfl) rfl (by show 2 * 0 + _ ≤ _; exact Nat.le_of_eq rfl) (hb hby d19_17) (fun _ _ => ⟨rfl, e5', (by decide : 0 + 0 ≤ _), (by decide : 0 + 0 ≤ _)⟩)
  dsimp only [Pt.U, Pt.locs, Pt.cells, Pt.slots] at X6 l6 y6 z6 st6 hQ6
  replace l6 := l6.symm
  subst l6 y6 z6
  obtain ⟨rfl, rfl, e6⟩ := hQ6
  first | rw [List.append_nil] at X6 | skip
  refine Goes.via st6 ?_
  have e6' : T6.heap = h0 := e6
  show Goes p e below _ (T6.setTop (mkF m 20 #[vr a, vi ch, vi i_] [(.int (own_find g ch.toInt8.toInt32 (N - j) j i_))]))
  refine Goes.via (fun _ kk_ => XS.goto X6.here hx rfl (pc0 := 20) (pc' := 36) rfl (hb hby d19_20) (by decide) (by decide) kk_) ?_
  show Goes p e below _ (T6.setTop (mkF m 36 #[vr a, vi ch, vi i_] [(.int (own_find g ch.toInt8.toInt32 (N - j) j i_))]))
  exact own_finI X6 hx hlk hret (hb hby d19_36) (by rw [e6']; exact ⟨rfl, rfl, rfl⟩) (by first | decide | omega | (dsimp only; omega)) (by first | decide | omega | (dsimp only; omega))
theorem ef_rmFn (m : MethodId) (i_ : Int32) (e_ : Int32) (nz : Int32) : entryFrame m #[(.int i_), (.int e_), (.int nz), .null] 4 = mkF m 0 #[.val (.int i_), .val (.int e_), .val (.int nz), .val .null] [] := by first | (simp [entryFrame, mkF, argsToLocals, Value.category]; done) | rfl
def QrmFn (Z : State) (i_ : Int32) (e_ : Int32) (nz : Int32) (h0 : Heap) (n0 : Nat) (v_ : Option Value) (h_ : Heap) (L_ : List Loc) : Prop := v_ = some (.int i_) ∧ L_ = [] ∧ h_ = h0
theorem d29_0 : decode jdk_41_method_12_code 0 = .ok (.iload_n 0, 1) := by decide +kernel
theorem d29_1 : decode jdk_41_method_12_code 1 = .ok (.ifCond .lt 13, 3) := by decide +kernel
theorem d29_4 : decode jdk_41_method_12_code 4 = .ok (.iload_n 0, 1) := by decide +kernel
theorem d29_5 : decode jdk_41_method_12_code 5 = .ok (.iload_n 1, 1) := by decide +kernel
theorem d29_6 : decode jdk_41_method_12_code 6 = .ok (.if_icmp .gt 8, 3) := by decide +kernel
theorem d29_9 : decode jdk_41_method_12_code 9 = .ok (.iload_n 1, 1) := by decide +kernel
theorem d29_10 : decode jdk_41_method_12_code 10 = .ok (.iload_n 2, 1) := by decide +kernel
theorem d29_11 : decode jdk_41_method_12_code 11 = .ok (.if_icmp .le 11, 3) := by decide +kernel
theorem d29_22 : decode jdk_41_method_12_code 22 = .ok (.iload_n 0, 1) := by decide +kernel
theorem d29_23 : decode jdk_41_method_12_code 23 = .ok (.ireturn, 1) := by decide +kernel
set_option maxRecDepth 65536 in
set_option maxHeartbeats 40000000 in
theorem rmFn (l : Launch) (Z : State) (a0 : Array Value) (hw : ∀ d ∈ tables_1, d.before a0 Z = true) (ws : List Jvm.Cond) (i_ : Int32) (e_ : Int32) (nz : Int32) (h0 : Heap) (n0 : Nat) (Z0 : n0 ≤ h0.size) (H0 : ¬ i_ < (0 : Int32)) (H1 : ¬ e_ < i_) (H2 : ¬ nz < e_) :
    MetFree l (⟨"jdk/internal/util/Preconditions", "checkFromToIndex", "(IIILjava/util/function/BiFunction;)I"⟩ : MethodName) (head1 (Jvm.Cond.code (⟨"jdk/internal/util/Preconditions", "checkFromToIndex", "(IIILjava/util/function/BiFunction;)I"⟩ : MethodName) jdk_41_method_12_code 4 (some .int) :: ws) ({ frames := 0, cells := 0, slots := 0, locals := 0 } : Room)) (fun as_ U_ => as_ = #[(.int i_), (.int e_), (.int nz), .null] ∧ Z.Warmed39 U_.vm ∧ U_.heap = h0) (fun _ _ _ _ _ => True) (fun _ U_ o_ V_ => ∃ v_ L_, o_ = .returned v_ ∧ QrmFn Z i_ e_ nz h0 n0 v_ V_.heap L_ ∧ FrameEnd U_ o_ V_ L_ ({ frames := 0, cells := 0, slots := 0, locals := 0 } : Room).cells ({ frames := 0, cells := 0, slots := 0, locals := 0 } : Room).slots) := by
  refine MetFree.of_bodySF (plainFor_of_name pn_jdk_internal_util_Preconditions) hisR ?_
  intro p e s m args below meth c s₁ Bd hml0 hP hK
  obtain ⟨rfl, hZ, hh⟩ := hP
  have hx := Bd.exec
  have hby := Bd.bytes
  have hlk : meth.locks = false := BodyLoose.notSynchronized Bd
  have hret := Bd.returns
  have hml : c.maxLocals = 4 := hml0
  have hown : s.vm.findClass "jdk/internal/util/Preconditions" = some m.cls := findClass_of_methodNamed Bd.named
  have hnm := (name_of_methodNamed Bd.named Bd.method).1
  have X0 : Stand p l e ({ frames := 0, cells := 0, slots := 0, locals := 0 } : Room) s m #[(.int i_), (.int e_), (.int nz), .null] below meth c s₁ [] 0 0 := Stand.of_body Bd
  have e0 : s₁.heap = h0 := by rw [← hh, Bd.state]; rfl
  have N0 := Fr.nil n0
  show Goes p e below (Fin_ s (QrmFn Z i_ e_ nz h0 n0) ({ frames := 0, cells := 0, slots := 0, locals := 0 } : Room).cells ({ frames := 0, cells := 0, slots := 0, locals := 0 } : Room).slots) (s₁.setTop (entryFrame m #[(.int i_), (.int e_), (.int nz), .null] 4))
  rw [ef_rmFn m i_ e_ nz]
  refine gILN X0 hx hby d29_0 rfl ?_
  have hc1_1 : ¬ (i_ < (0 : Int32)) := H0
  refine Goes.via (fun _ kk_ => XS.ifNo X0.here hx rfl (hb hby d29_1) rfl ((if0 _ _).trans (flt hc1_1).1) kk_) ?_
  show Goes p e below _ (s₁.setTop (mkF m 4 #[vi i_, vi e_, vi nz, .val .null] []))
  refine gILN X0 hx hby d29_4 rfl ?_
  refine gILN X0 hx hby d29_5 rfl ?_
  have hc6_2 : ¬ (e_ < i_) := H1
  refine Goes.via (fun _ kk_ => XS.icmpNo X0.here hx rfl (hb hby d29_6) rfl (flt hc6_2).2.2.1 kk_) ?_
  show Goes p e below _ (s₁.setTop (mkF m 9 #[vi i_, vi e_, vi nz, .val .null] []))
  refine gILN X0 hx hby d29_9 rfl ?_
  refine gILN X0 hx hby d29_10 rfl ?_
  have hc11_3 : ¬ (nz < e_) := H2
  refine Goes.via (fun _ kk_ => XS.icmpYes X0.here hx rfl (pc0 := 11) (pc' := 22) rfl (hb hby d29_11) rfl (flt hc11_3).2.2.2 (by decide) (by decide) kk_) ?_
  show Goes p e below _ (s₁.setTop (mkF m 22 #[vi i_, vi e_, vi nz, .val .null] []))
  refine gILN X0 hx hby d29_22 rfl ?_
  exact own_finI X0 hx hlk hret (hb hby d29_23) (by rw [e0]; exact ⟨rfl, rfl, rfl⟩) (by first | decide | omega | (dsimp only; omega)) (by first | decide | omega | (dsimp only; omega))
theorem ef_rmFr (m : MethodId) (i_ : Int32) (e_ : Int32) (nz : Int32) (fr : Addr) : entryFrame m #[(.int i_), (.int e_), (.int nz), (.ref fr)] 4 = mkF m 0 #[.val (.int i_), .val (.int e_), .val (.int nz), .val (.ref fr)] [] := by first | (simp [entryFrame, mkF, argsToLocals, Value.category]; done) | rfl
def QrmFr (Z : State) (i_ : Int32) (e_ : Int32) (nz : Int32) (fr : Addr) (h0 : Heap) (n0 : Nat) (v_ : Option Value) (h_ : Heap) (L_ : List Loc) : Prop := v_ = some (.int i_) ∧ L_ = [] ∧ h_ = h0
set_option maxRecDepth 65536 in
set_option maxHeartbeats 40000000 in
theorem rmFr (l : Launch) (Z : State) (a0 : Array Value) (hw : ∀ d ∈ tables_1, d.before a0 Z = true) (ws : List Jvm.Cond) (i_ : Int32) (e_ : Int32) (nz : Int32) (fr : Addr) (h0 : Heap) (n0 : Nat) (Z0 : n0 ≤ h0.size) (H0 : ¬ i_ < (0 : Int32)) (H1 : ¬ e_ < i_) (H2 : ¬ nz < e_) :
    MetFree l (⟨"jdk/internal/util/Preconditions", "checkFromToIndex", "(IIILjava/util/function/BiFunction;)I"⟩ : MethodName) (head1 (Jvm.Cond.code (⟨"jdk/internal/util/Preconditions", "checkFromToIndex", "(IIILjava/util/function/BiFunction;)I"⟩ : MethodName) jdk_41_method_12_code 4 (some .int) :: ws) ({ frames := 0, cells := 0, slots := 0, locals := 0 } : Room)) (fun as_ U_ => as_ = #[(.int i_), (.int e_), (.int nz), (.ref fr)] ∧ Z.Warmed39 U_.vm ∧ U_.heap = h0) (fun _ _ _ _ _ => True) (fun _ U_ o_ V_ => ∃ v_ L_, o_ = .returned v_ ∧ QrmFr Z i_ e_ nz fr h0 n0 v_ V_.heap L_ ∧ FrameEnd U_ o_ V_ L_ ({ frames := 0, cells := 0, slots := 0, locals := 0 } : Room).cells ({ frames := 0, cells := 0, slots := 0, locals := 0 } : Room).slots) := by
  refine MetFree.of_bodySF (plainFor_of_name pn_jdk_internal_util_Preconditions) hisR ?_
  intro p e s m args below meth c s₁ Bd hml0 hP hK
  obtain ⟨rfl, hZ, hh⟩ := hP
  have hx := Bd.exec
  have hby := Bd.bytes
  have hlk : meth.locks = false := BodyLoose.notSynchronized Bd
  have hret := Bd.returns
  have hml : c.maxLocals = 4 := hml0
  have hown : s.vm.findClass "jdk/internal/util/Preconditions" = some m.cls := findClass_of_methodNamed Bd.named
  have hnm := (name_of_methodNamed Bd.named Bd.method).1
  have X0 : Stand p l e ({ frames := 0, cells := 0, slots := 0, locals := 0 } : Room) s m #[(.int i_), (.int e_), (.int nz), (.ref fr)] below meth c s₁ [] 0 0 := Stand.of_body Bd
  have e0 : s₁.heap = h0 := by rw [← hh, Bd.state]; rfl
  have N0 := Fr.nil n0
  show Goes p e below (Fin_ s (QrmFr Z i_ e_ nz fr h0 n0) ({ frames := 0, cells := 0, slots := 0, locals := 0 } : Room).cells ({ frames := 0, cells := 0, slots := 0, locals := 0 } : Room).slots) (s₁.setTop (entryFrame m #[(.int i_), (.int e_), (.int nz), (.ref fr)] 4))
  rw [ef_rmFr m i_ e_ nz fr]
  refine gILN X0 hx hby d29_0 rfl ?_
  have hc1_1 : ¬ (i_ < (0 : Int32)) := H0
  refine Goes.via (fun _ kk_ => XS.ifNo X0.here hx rfl (hb hby d29_1) rfl ((if0 _ _).trans (flt hc1_1).1) kk_) ?_
  show Goes p e below _ (s₁.setTop (mkF m 4 #[vi i_, vi e_, vi nz, vr fr] []))
  refine gILN X0 hx hby d29_4 rfl ?_
  refine gILN X0 hx hby d29_5 rfl ?_
  have hc6_2 : ¬ (e_ < i_) := H1
  refine Goes.via (fun _ kk_ => XS.icmpNo X0.here hx rfl (hb hby d29_6) rfl (flt hc6_2).2.2.1 kk_) ?_
  show Goes p e below _ (s₁.setTop (mkF m 9 #[vi i_, vi e_, vi nz, vr fr] []))
  refine gILN X0 hx hby d29_9 rfl ?_
  refine gILN X0 hx hby d29_10 rfl ?_
  have hc11_3 : ¬ (nz < e_) := H2
  refine Goes.via (fun _ kk_ => XS.icmpYes X0.here hx rfl (pc0 := 11) (pc' := 22) rfl (hb hby d29_11) rfl (flt hc11_3).2.2.2 (by decide) (by decide) kk_) ?_
  show Goes p e below _ (s₁.setTop (mkF m 22 #[vi i_, vi e_, vi nz, vr fr] []))
  refine gILN X0 hx hby d29_22 rfl ?_
  exact own_finI X0 hx hlk hret (hb hby d29_23) (by rw [e0]; exact ⟨rfl, rfl, rfl⟩) (by first | decide | omega | (dsimp only; omega)) (by first | decide | omega | (dsimp only; omega))
theorem ef_rm28 (m : MethodId) (i_ : Int32) (e_ : Int32) (nz : Int32) : entryFrame m #[(.int i_), (.int e_), (.int nz)] 3 = mkF m 0 #[.val (.int i_), .val (.int e_), .val (.int nz)] [] := by first | (simp [entryFrame, mkF, argsToLocals, Value.category]; done) | rfl
def Qrm28 (Z : State) (i_ : Int32) (e_ : Int32) (nz : Int32) (fo : Value) (h0 : Heap) (n0 : Nat) (v_ : Option Value) (h_ : Heap) (L_ : List Loc) : Prop := v_ = none ∧ L_ = [] ∧ h_ = h0
theorem d28_0 : decode jdk_42_method_158_code 0 = .ok (.iload_n 0, 1) := by decide +kernel
theorem d28_1 : decode jdk_42_method_158_code 1 = .ok (.iload_n 1, 1) := by decide +kernel
theorem d28_2 : decode jdk_42_method_158_code 2 = .ok (.iload_n 2, 1) := by decide +kernel
theorem d28_3 : decode jdk_42_method_158_code 3 = .ok (.getstatic 1053, 3) := by decide +kernel
theorem pd_9 : parseMethodDescriptor "(IIILjava/util/function/BiFunction;)I" = some ⟨[.int, .int, .int, (.object "java/util/function/BiFunction")], some .int⟩ := by decide +kernel
theorem d28_6 : decode jdk_42_method_158_code 6 = .ok (.invokestatic 1062, 3) := by decide +kernel
theorem d28_9 : decode jdk_42_method_158_code 9 = .ok (.pop, 1) := by decide +kernel
theorem d28_10 : decode jdk_42_method_158_code 10 = .ok (.return_, 1) := by decide +kernel
set_option maxRecDepth 65536 in
set_option maxHeartbeats 40000000 in
theorem rm28 (l : Launch) (Z : State) (a0 : Array Value) (hw : ∀ d ∈ tables_1, d.before a0 Z = true) (ws : List Jvm.Cond) (i_ : Int32) (e_ : Int32) (nz : Int32) (fo : Value) (h0 : Heap) (n0 : Nat) (Z0 : n0 ≤ h0.size) (S0_jdk_internal_util_Preconditions_SIOOBE_FORMATTER_SIOOBE_FORMATTER : Sta Z h0 "jdk/internal/util/Preconditions" "SIOOBE_FORMATTER" "Ljava/util/function/BiFunction;" fo) (Hfo : fo.isRef = true) (H0 : ¬ i_ < (0 : Int32)) (H1 : ¬ e_ < i_) (H2 : ¬ nz < e_) :
    MetFree l (⟨"java/lang/String", "checkBoundsBeginEnd", "(III)V"⟩ : MethodName) (head1 (Jvm.Cond.code (⟨"java/lang/String", "checkBoundsBeginEnd", "(III)V"⟩ : MethodName) jdk_42_method_158_code 3 none :: ws) ({ frames := 1, cells := 0, slots := 0, locals := 15 } : Room)) (fun as_ U_ => as_ = #[(.int i_), (.int e_), (.int nz)] ∧ Z.Warmed39 U_.vm ∧ U_.heap = h0) (fun _ _ _ _ _ => True) (fun _ U_ o_ V_ => ∃ v_ L_, o_ = .returned v_ ∧ Qrm28 Z i_ e_ nz fo h0 n0 v_ V_.heap L_ ∧ FrameEnd U_ o_ V_ L_ ({ frames := 1, cells := 0, slots := 0, locals := 15 } : Room).cells ({ frames := 1, cells := 0, slots := 0, locals := 15 } : Room).slots) := by
  refine MetFree.of_bodySF (plainFor_of_name pn_java_lang_String) hisR ?_
  intro p e s m args below meth c s₁ Bd hml0 hP hK
  obtain ⟨rfl, hZ, hh⟩ := hP
  have hx := Bd.exec
  have hby := Bd.bytes
  have hlk : meth.locks = false := BodyLoose.notSynchronized Bd
  have hret := Bd.returns
  have hml : c.maxLocals = 3 := hml0
  have hown : s.vm.findClass "java/lang/String" = some m.cls := findClass_of_methodNamed Bd.named
  have hnm := (name_of_methodNamed Bd.named Bd.method).1
  have X0 : Stand p l e ({ frames := 1, cells := 0, slots := 0, locals := 15 } : Room) s m #[(.int i_), (.int e_), (.int nz)] below meth c s₁ [] 0 0 := Stand.of_body Bd
  have e0 : s₁.heap = h0 := by rw [← hh, Bd.state]; rfl
  have N0 := Fr.nil n0
  show Goes p e below (Fin_ s (Qrm28 Z i_ e_ nz fo h0 n0) ({ frames := 1, cells := 0, slots := 0, locals := 15 } : Room).cells ({ frames := 1, cells := 0, slots := 0, locals := 15 } : Room).slots) (s₁.setTop (entryFrame m #[(.int i_), (.int e_), (.int nz)] 3))
  rw [ef_rm28 m i_ e_ nz]
  rcases ref_cases Hfo with rfl | ⟨fr, rfl⟩
  · skip
    refine gILN X0 hx hby d28_0 rfl ?_
    refine gILN X0 hx hby d28_1 rfl ?_
    refine gILN X0 hx hby d28_2 rfl ?_
    obtain ⟨T1, X1, e1, st1⟩ := getS2 X0 hx hZ hown (host := "") (Or.inl (own_w hw 32 rfl)) Via.refl e0 S0_jdk_internal_util_Preconditions_SIOOBE_FORMATTER_SIOOBE_FORMATTER (g := (mkF m 3 #[vi i_, vi e_, vi nz] [(.int nz), (.int e_), (.int i_)])) rfl (hb hby d28_3)
    refine Goes.via st1 ?_
    show Goes p e below _ (T1.setTop (mkF m 6 #[vi i_, vi e_, vi nz] [.null, (.int nz), (.int e_), (.int i_)]))
    obtain ⟨_, _, ⟨T2, L2, k2, n2⟩, -, X2, ⟨Lc2, hQ2, l2, y2, z2⟩, st2⟩ := Jvm.LawKit.callS X1 hx (y := (⟨"jdk/internal/util/Preconditions", "checkFromToIndex", "(IIILjava/util/function/BiFunction;)I"⟩ : MethodName)) hown (mvT hZ (own_w hw 123 rfl)) (mvT hZ (own_w hw 124 rfl)) (mvT hZ (own_w hw 33 rfl)) (mvT hZ (own_w hw 125 rfl)) (by decide) (backOf (W := 0) (rmFn l Z a0 hw [] i_ e_ nz h0 n0 (Nat.le_trans Z0 (Nat.le_refl _)) H0 H1 H2) hZ (own_w hw 125 rfl) (own_w hw 33 rfl) (by decide) (by decide)) (g := (mkF m 6 #[vi i_, vi e_, vi nz] [.null, (.int nz), (.int e_), (.int i_)])) rfl (by rw [hml]; rfl) (argsL := [(.int i_), (.int e_), (.int nz), .null]) (rest := []) (lenOf pd_9 rfl) rfl (by show 2 * 0 + _ ≤ _; exact Nat.le_of_eq rfl) (hb hby d28_6) (fun _ _ => ⟨rfl, e1, (by decide : 0 + 0 ≤ _), (by decide : 0 + 0 ≤ _)⟩)
    dsimp only [Pt.U, Pt.locs, Pt.cells, Pt.slots] at X2 l2 y2 z2 st2 hQ2
    replace l2 := l2.symm
    subst l2 y2 z2
    obtain ⟨rfl, rfl, e2⟩ := hQ2
    first | rw [List.append_nil] at X2 | skip
    refine Goes.via st2 ?_
    have e2' : T2.heap = h0 := e2
    show Goes p e below _ (T2.setTop (mkF m 9 #[vi i_, vi e_, vi nz] [(.int i_)]))
    refine Goes.via (fun _ kk_ => XS.pop X2.here hx rfl (hb hby d28_9) rfl rfl kk_) ?_
    show Goes p e below _ (T2.setTop (mkF m 10 #[vi i_, vi e_, vi nz] []))
    exact own_finV X2 hx hlk hret (hb hby d28_10) (by rw [e2']; exact ⟨rfl, rfl, rfl⟩) (by first | decide | omega | (dsimp only; omega)) (by first | decide | omega | (dsimp only; omega))
  · skip
    refine gILN X0 hx hby d28_0 rfl ?_
    refine gILN X0 hx hby d28_1 rfl ?_
    refine gILN X0 hx hby d28_2 rfl ?_
    obtain ⟨T3, X3, e3, st3⟩ := getS2 X0 hx hZ hown (host := "") (Or.inl (own_w hw 32 rfl)) Via.refl e0 S0_jdk_internal_util_Preconditions_SIOOBE_FORMATTER_SIOOBE_FORMATTER (g := (mkF m 3 #[vi i_, vi e_, vi nz] [(.int nz), (.int e_), (.int i_)])) rfl (hb hby d28_3)
    refine Goes.via st3 ?_
    show Goes p e below _ (T3.setTop (mkF m 6 #[vi i_, vi e_, vi nz] [(.ref fr), (.int nz), (.int e_), (.int i_)]))
    obtain ⟨_, _, ⟨T4, L4, k4, n4⟩, -, X4, ⟨Lc4, hQ4, l4, y4, z4⟩, st4⟩ := Jvm.LawKit.callS X3 hx (y := (⟨"jdk/internal/util/Preconditions", "checkFromToIndex", "(IIILjava/util/function/BiFunction;)I"⟩ : MethodName)) hown (mvT hZ (own_w hw 123 rfl)) (mvT hZ (own_w hw 124 rfl)) (mvT hZ (own_w hw 33 rfl)) (mvT hZ (own_w hw 125 rfl)) (by decide) (backOf (W := 0) (rmFr l Z a0 hw [] i_ e_ nz fr h0 n0 (Nat.le_trans Z0 (Nat.le_refl _)) H0 H1 H2) hZ (own_w hw 125 rfl) (own_w hw 33 rfl) (by decide) (by decide)) (g := (mkF m 6 #[vi i_, vi e_, vi nz] [(.ref fr), (.int nz), (.int e_), (.int i_)])) rfl (by rw [hml]; rfl) (argsL := [(.int i_), (.int e_), (.int nz), (.ref fr)]) (rest := []) (lenOf pd_9 rfl) rfl (by show 2 * 0 + _ ≤ _; exact Nat.le_of_eq rfl) (hb hby d28_6) (fun _ _ => ⟨rfl, e3, (by decide : 0 + 0 ≤ _), (by decide : 0 + 0 ≤ _)⟩)
    dsimp only [Pt.U, Pt.locs, Pt.cells, Pt.slots] at X4 l4 y4 z4 st4 hQ4
    replace l4 := l4.symm
    subst l4 y4 z4
    obtain ⟨rfl, rfl, e4⟩ := hQ4
    first | rw [List.append_nil] at X4 | skip
    refine Goes.via st4 ?_
    have e4' : T4.heap = h0 := e4
    show Goes p e below _ (T4.setTop (mkF m 9 #[vi i_, vi e_, vi nz] [(.int i_)]))
    refine Goes.via (fun _ kk_ => XS.pop X4.here hx rfl (hb hby d28_9) rfl rfl kk_) ?_
    show Goes p e below _ (T4.setTop (mkF m 10 #[vi i_, vi e_, vi nz] []))
    exact own_finV X4 hx hlk hret (hb hby d28_10) (by rw [e4']; exact ⟨rfl, rfl, rfl⟩) (by first | decide | omega | (dsimp only; omega)) (by first | decide | omega | (dsimp only; omega))
theorem ef_rmMy (m : MethodId) (x : Int32) (y : Int32) : entryFrame m #[(.int x), (.int y)] 2 = mkF m 0 #[.val (.int x), .val (.int y)] [] := by first | (simp [entryFrame, mkF, argsToLocals, Value.category]; done) | rfl
def QrmMy (Z : State) (x : Int32) (y : Int32) (h0 : Heap) (n0 : Nat) (v_ : Option Value) (h_ : Heap) (L_ : List Loc) : Prop := v_ = some (.int y) ∧ L_ = [] ∧ h_ = h0
theorem d24_9 : decode jdk_29_method_69_code 9 = .ok (.iload_n 1, 1) := by decide +kernel
set_option maxRecDepth 65536 in
set_option maxHeartbeats 40000000 in
theorem rmMy (l : Launch) (Z : State) (a0 : Array Value) (hw : ∀ d ∈ tables_1, d.before a0 Z = true) (ws : List Jvm.Cond) (x : Int32) (y : Int32) (h0 : Heap) (n0 : Nat) (Z0 : n0 ≤ h0.size) (H0 : ¬ x < y) :
    MetFree l (⟨"java/lang/Math", "min", "(II)I"⟩ : MethodName) (head1 (Jvm.Cond.code (⟨"java/lang/Math", "min", "(II)I"⟩ : MethodName) jdk_29_method_69_code 2 (some .int) :: ws) ({ frames := 0, cells := 0, slots := 0, locals := 0 } : Room)) (fun as_ U_ => as_ = #[(.int x), (.int y)] ∧ Z.Warmed39 U_.vm ∧ U_.heap = h0) (fun _ _ _ _ _ => True) (fun _ U_ o_ V_ => ∃ v_ L_, o_ = .returned v_ ∧ QrmMy Z x y h0 n0 v_ V_.heap L_ ∧ FrameEnd U_ o_ V_ L_ ({ frames := 0, cells := 0, slots := 0, locals := 0 } : Room).cells ({ frames := 0, cells := 0, slots := 0, locals := 0 } : Room).slots) := by
  refine MetFree.of_bodySF (Jvm.Free.JP.mathPlain rfl (by decide +kernel)) hisR ?_
  intro p e s m args below meth c s₁ Bd hml0 hP hK
  obtain ⟨rfl, hZ, hh⟩ := hP
  have hx := Bd.exec
  have hby := Bd.bytes
  have hlk : meth.locks = false := BodyLoose.notSynchronized Bd
  have hret := Bd.returns
  have hml : c.maxLocals = 2 := hml0
  have hown : s.vm.findClass "java/lang/Math" = some m.cls := findClass_of_methodNamed Bd.named
  have hnm := (name_of_methodNamed Bd.named Bd.method).1
  have X0 : Stand p l e ({ frames := 0, cells := 0, slots := 0, locals := 0 } : Room) s m #[(.int x), (.int y)] below meth c s₁ [] 0 0 := Stand.of_body Bd
  have e0 : s₁.heap = h0 := by rw [← hh, Bd.state]; rfl
  have N0 := Fr.nil n0
  show Goes p e below (Fin_ s (QrmMy Z x y h0 n0) ({ frames := 0, cells := 0, slots := 0, locals := 0 } : Room).cells ({ frames := 0, cells := 0, slots := 0, locals := 0 } : Room).slots) (s₁.setTop (entryFrame m #[(.int x), (.int y)] 2))
  rw [ef_rmMy m x y]
  refine gILN X0 hx hby d24_0 rfl ?_
  refine gILN X0 hx hby d24_1 rfl ?_
  by_cases hc2 : y < x
  · skip
    refine Goes.via (fun _ kk_ => XS.icmpYes X0.here hx rfl (pc0 := 2) (pc' := 9) rfl (hb hby d24_2) rfl (tlt hc2).2.2.1 (by decide) (by decide) kk_) ?_
    show Goes p e below _ (s₁.setTop (mkF m 9 #[vi x, vi y] []))
    refine gILN X0 hx hby d24_9 rfl ?_
    exact own_finI X0 hx hlk hret (hb hby d24_10) (by rw [e0]; exact ⟨rfl, rfl, rfl⟩) (by first | decide | omega | (dsimp only; omega)) (by first | decide | omega | (dsimp only; omega))
  · skip
    refine Goes.via (fun _ kk_ => XS.icmpNo X0.here hx rfl (hb hby d24_2) rfl (flt hc2).2.2.1 kk_) ?_
    show Goes p e below _ (s₁.setTop (mkF m 5 #[vi x, vi y] []))
    refine gILN X0 hx hby d24_5 rfl ?_
    refine Goes.via (fun _ kk_ => XS.goto X0.here hx rfl (pc0 := 6) (pc' := 10) rfl (hb hby d24_6) (by decide) (by decide) kk_) ?_
    show Goes p e below _ (s₁.setTop (mkF m 10 #[vi x, vi y] [(.int x)]))
    exact own_finI X0 hx hlk hret (hb hby d24_10) (by rw [e0]; exact ⟨(own_ret (own_antis H0 hc2)), rfl, rfl⟩) (by first | decide | omega | (dsimp only; omega)) (by first | decide | omega | (dsimp only; omega))
theorem ef_rm33 (m : MethodId) (i_ : Int32) (e_ : Int32) : entryFrame m #[(.int i_), (.int e_)] 2 = mkF m 0 #[.val (.int i_), .val (.int e_)] [] := by first | (simp [entryFrame, mkF, argsToLocals, Value.category]; done) | rfl
def Qrm33 (Z : State) (i_ : Int32) (e_ : Int32) (h0 : Heap) (n0 : Nat) (v_ : Option Value) (h_ : Heap) (L_ : List Loc) : Prop := v_ = none ∧ L_ = [] ∧ h_ = h0
theorem pn_java_util_Arrays : plainName "java/util/Arrays" = true := by first | (simp [plainName, overriddenIn]; done) | decide +kernel
theorem d33_0 : decode jdk_65_method_131_code 0 = .ok (.iload_n 1, 1) := by decide +kernel
theorem d33_1 : decode jdk_65_method_131_code 1 = .ok (.iload_n 0, 1) := by decide +kernel
theorem d33_2 : decode jdk_65_method_131_code 2 = .ok (.if_icmp .ge 35, 3) := by decide +kernel
theorem d33_37 : decode jdk_65_method_131_code 37 = .ok (.return_, 1) := by decide +kernel
set_option maxRecDepth 65536 in
set_option maxHeartbeats 40000000 in
theorem rm33 (l : Launch) (Z : State) (a0 : Array Value) (hw : ∀ d ∈ tables_1, d.before a0 Z = true) (ws : List Jvm.Cond) (i_ : Int32) (e_ : Int32) (h0 : Heap) (n0 : Nat) (Z0 : n0 ≤ h0.size) (H0 : ¬ e_ < i_) :
    MetFree l (⟨"java/util/Arrays", "checkLength", "(II)V"⟩ : MethodName) (head1 (Jvm.Cond.code (⟨"java/util/Arrays", "checkLength", "(II)V"⟩ : MethodName) jdk_65_method_131_code 2 none :: ws) ({ frames := 0, cells := 0, slots := 0, locals := 0 } : Room)) (fun as_ U_ => as_ = #[(.int i_), (.int e_)] ∧ Z.Warmed39 U_.vm ∧ U_.heap = h0) (fun _ _ _ _ _ => True) (fun _ U_ o_ V_ => ∃ v_ L_, o_ = .returned v_ ∧ Qrm33 Z i_ e_ h0 n0 v_ V_.heap L_ ∧ FrameEnd U_ o_ V_ L_ ({ frames := 0, cells := 0, slots := 0, locals := 0 } : Room).cells ({ frames := 0, cells := 0, slots := 0, locals := 0 } : Room).slots) := by
  refine MetFree.of_bodySF (plainFor_of_name pn_java_util_Arrays) hisR ?_
  intro p e s m args below meth c s₁ Bd hml0 hP hK
  obtain ⟨rfl, hZ, hh⟩ := hP
  have hx := Bd.exec
  have hby := Bd.bytes
  have hlk : meth.locks = false := BodyLoose.notSynchronized Bd
  have hret := Bd.returns
  have hml : c.maxLocals = 2 := hml0
  have hown : s.vm.findClass "java/util/Arrays" = some m.cls := findClass_of_methodNamed Bd.named
  have hnm := (name_of_methodNamed Bd.named Bd.method).1
  have X0 : Stand p l e ({ frames := 0, cells := 0, slots := 0, locals := 0 } : Room) s m #[(.int i_), (.int e_)] below meth c s₁ [] 0 0 := Stand.of_body Bd
  have e0 : s₁.heap = h0 := by rw [← hh, Bd.state]; rfl
  have N0 := Fr.nil n0
  show Goes p e below (Fin_ s (Qrm33 Z i_ e_ h0 n0) ({ frames := 0, cells := 0, slots := 0, locals := 0 } : Room).cells ({ frames := 0, cells := 0, slots := 0, locals := 0 } : Room).slots) (s₁.setTop (entryFrame m #[(.int i_), (.int e_)] 2))
  rw [ef_rm33 m i_ e_]
  refine gILN X0 hx hby d33_0 rfl ?_
  refine gILN X0 hx hby d33_1 rfl ?_
  have hc2_1 : ¬ (e_ < i_) := H0
  refine Goes.via (fun _ kk_ => XS.icmpYes X0.here hx rfl (pc0 := 2) (pc' := 37) rfl (hb hby d33_2) rfl (flt hc2_1).2.1 (by decide) (by decide) kk_) ?_
  show Goes p e below _ (s₁.setTop (mkF m 37 #[vi i_, vi e_] []))
  exact own_finV X0 hx hlk hret (hb hby d33_37) (by rw [e0]; exact ⟨rfl, rfl, rfl⟩) (by first | decide | omega | (dsimp only; omega)) (by first | decide | omega | (dsimp only; omega))
theorem ef_rm32 (m : MethodId) (b : Addr) (i_ : Int32) (e_ : Int32) : entryFrame m #[(.ref b), (.int i_), (.int e_)] 5 = mkF m 0 #[.val (.ref b), .val (.int i_), .val (.int e_), .unset, .unset] [] := by first | (simp [entryFrame, mkF, argsToLocals, Value.category]; done) | rfl
def Qrm32 (Z : State) (b : Addr) (i_ : Int32) (e_ : Int32) (kc : ClassId) (N : Nat) (g : Nat → Int32) (nz : Int32) (q : Nat) (M : Nat) (h0 : Heap) (n0 : Nat) (v_ : Option Value) (h_ : Heap) (L_ : List Loc) : Prop := ∃ nb : Addr, ∃ kb : ClassId, v_ = some (.ref nb) ∧ Fr n0 L_ ∧ Keep h0 h_ [] ∧ h0.size ≤ nb ∧ Arw Z h_ nb kb .byte M (fun i => .int ((fun i => g (q + i)) i))
theorem d32_0 : decode jdk_65_method_133_code 0 = .ok (.iload_n 1, 1) := by decide +kernel
theorem d32_1 : decode jdk_65_method_133_code 1 = .ok (.iload_n 2, 1) := by decide +kernel
theorem d32_2 : decode jdk_65_method_133_code 2 = .ok (.invokestatic 343, 3) := by decide +kernel
theorem d32_5 : decode jdk_65_method_133_code 5 = .ok (.iload_n 2, 1) := by decide +kernel
theorem d32_6 : decode jdk_65_method_133_code 6 = .ok (.iload_n 1, 1) := by decide +kernel
theorem d32_7 : decode jdk_65_method_133_code 7 = .ok (.isub, 1) := by decide +kernel
theorem d32_8 : decode jdk_65_method_133_code 8 = .ok (.istore_n 3, 1) := by decide +kernel
theorem d32_9 : decode jdk_65_method_133_code 9 = .ok (.iload_n 3, 1) := by decide +kernel
theorem d32_10 : decode jdk_65_method_133_code 10 = .ok (.newarray .byte, 2) := by decide +kernel
theorem d32_12 : decode jdk_65_method_133_code 12 = .ok (.astore 4, 2) := by decide +kernel
theorem d32_14 : decode jdk_65_method_133_code 14 = .ok (.aload_n 0, 1) := by decide +kernel
theorem d32_15 : decode jdk_65_method_133_code 15 = .ok (.iload_n 1, 1) := by decide +kernel
theorem d32_16 : decode jdk_65_method_133_code 16 = .ok (.aload 4, 2) := by decide +kernel
theorem d32_18 : decode jdk_65_method_133_code 18 = .ok (.iconst 0, 1) := by decide +kernel
theorem d32_19 : decode jdk_65_method_133_code 19 = .ok (.aload_n 0, 1) := by decide +kernel
theorem d32_20 : decode jdk_65_method_133_code 20 = .ok (.arraylength, 1) := by decide +kernel
theorem d32_21 : decode jdk_65_method_133_code 21 = .ok (.iload_n 1, 1) := by decide +kernel
theorem d32_22 : decode jdk_65_method_133_code 22 = .ok (.isub, 1) := by decide +kernel
theorem d32_23 : decode jdk_65_method_133_code 23 = .ok (.iload_n 3, 1) := by decide +kernel
theorem d32_24 : decode jdk_65_method_133_code 24 = .ok (.invokestatic 304, 3) := by decide +kernel
theorem d32_27 : decode jdk_65_method_133_code 27 = .ok (.invokestatic 150, 3) := by decide +kernel
theorem d32_30 : decode jdk_65_method_133_code 30 = .ok (.aload 4, 2) := by decide +kernel
theorem d32_32 : decode jdk_65_method_133_code 32 = .ok (.areturn, 1) := by decide +kernel
set_option maxRecDepth 65536 in
set_option maxHeartbeats 40000000 in
theorem rm32 (l : Launch) (Z : State) (a0 : Array Value) (hw : ∀ d ∈ tables_1, d.before a0 Z = true) (ws : List Jvm.Cond) (b : Addr) (i_ : Int32) (e_ : Int32) (kc : ClassId) (N : Nat) (g : Nat → Int32) (nz : Int32) (q : Nat) (M : Nat) (h0 : Heap) (n0 : Nat) (Z0 : n0 ≤ h0.size) (A0_b : Arw Z h0 b kc .byte N (fun i => .int (g i))) (Hnz : nz.toInt = (N : Int)) (Hq : i_.toInt = (q : Int)) (He : e_.toInt = ((q + M : Nat) : Int)) (HqM : q + M ≤ N) (Hq0 : 0 < q) (HM0 : 0 < M) (HM16 : M ≤ 16) :
    MetFree l (⟨"java/util/Arrays", "copyOfRangeByte", "([BII)[B"⟩ : MethodName) (head1 (Jvm.Cond.code (⟨"java/util/Arrays", "copyOfRangeByte", "([BII)[B"⟩ : MethodName) jdk_65_method_133_code 5 (some (.array .byte)) :: ws) ({ frames := 1, cells := 1, slots := 16, locals := 36 } : Room)) (fun as_ U_ => as_ = #[(.ref b), (.int i_), (.int e_)] ∧ Z.Warmed39 U_.vm ∧ U_.heap = h0) (fun _ _ _ _ _ => True) (fun _ U_ o_ V_ => ∃ v_ L_, o_ = .returned v_ ∧ Qrm32 Z b i_ e_ kc N g nz q M h0 n0 v_ V_.heap L_ ∧ FrameEnd U_ o_ V_ L_ ({ frames := 1, cells := 1, slots := 16, locals := 36 } : Room).cells ({ frames := 1, cells := 1, slots := 16, locals := 36 } : Room).slots) := by
  refine MetFree.of_bodySF (plainFor_of_name pn_java_util_Arrays) hisR ?_
  intro p e s m args below meth c s₁ Bd hml0 hP hK
  obtain ⟨rfl, hZ, hh⟩ := hP
  have hx := Bd.exec
  have hby := Bd.bytes
  have hlk : meth.locks = false := BodyLoose.notSynchronized Bd
  have hret := Bd.returns
  have hml : c.maxLocals = 5 := hml0
  have hown : s.vm.findClass "java/util/Arrays" = some m.cls := findClass_of_methodNamed Bd.named
  have hnm := (name_of_methodNamed Bd.named Bd.method).1
  have X0 : Stand p l e ({ frames := 1, cells := 1, slots := 16, locals := 36 } : Room) s m #[(.ref b), (.int i_), (.int e_)] below meth c s₁ [] 0 0 := Stand.of_body Bd
  have e0 : s₁.heap = h0 := by rw [← hh, Bd.state]; rfl
  have N0 := Fr.nil n0
  show Goes p e below (Fin_ s (Qrm32 Z b i_ e_ kc N g nz q M h0 n0) ({ frames := 1, cells := 1, slots := 16, locals := 36 } : Room).cells ({ frames := 1, cells := 1, slots := 16, locals := 36 } : Room).slots) (s₁.setTop (entryFrame m #[(.ref b), (.int i_), (.int e_)] 5))
  rw [ef_rm32 m b i_ e_]
  refine gILN X0 hx hby d32_0 rfl ?_
  refine gILN X0 hx hby d32_1 rfl ?_
  obtain ⟨_, _, ⟨T1, L1, k1, n1⟩, -, X1, ⟨Lc1, hQ1, l1, y1, z1⟩, st1⟩ := Jvm.LawKit.callS X0 hx (y := (⟨"java/util/Arrays", "checkLength", "(II)V"⟩ : MethodName)) hown (mvT hZ (own_w hw 137 rfl)) (mvT hZ (own_w hw 138 rfl)) (mvT hZ (own_w hw 132 rfl)) (mvT hZ (own_w hw 139 rfl)) (by decide) (backOf (W := 0) (rm33 l Z a0 hw [] i_ e_ h0 n0 (Nat.le_trans Z0 (Nat.le_refl _)) (own_nlt Hq He (Nat.le_add_right _ _))) hZ (own_w hw 139 rfl) (own_w hw 132 rfl) (by decide) (by decide)) (g := (mkF m 2 #[vr b, vi i_, vi e_, .unset, .unset] [(.int e_), (.int i_)])) rfl (by rw [hml]; rfl) (argsL := [(.int i_), (.int e_)]) (rest := []) (lenOf pd_2 rfl) rfl (by show 2 * 0 + _ ≤ _; exact Nat.le_of_eq rfl) (hb hby d32_2) (fun _ _ => ⟨rfl, e0, (by decide : 0 + 0 ≤ _), (by decide : 0 + 0 ≤ _)⟩)
  dsimp only [Pt.U, Pt.locs, Pt.cells, Pt.slots] at X1 l1 y1 z1 st1 hQ1
  replace l1 := l1.symm
  subst l1 y1 z1
  obtain ⟨rfl, rfl, e1⟩ := hQ1
  first | rw [List.append_nil] at X1 | skip
  refine Goes.via st1 ?_
  have e1' : T1.heap = h0 := e1
  show Goes p e below _ (T1.setTop (mkF m 5 #[vr b, vi i_, vi e_, .unset, .unset] []))
  refine gILN X1 hx hby d32_5 rfl ?_
  refine gILN X1 hx hby d32_6 rfl ?_
  refine Goes.via (fun _ kk_ => XS.isub X1.here hx rfl (hb hby d32_7) rfl kk_) ?_
  show Goes p e below _ (T1.setTop (mkF m 8 #[vr b, vi i_, vi e_, .unset, .unset] [(.int (e_ - i_))]))
  refine Goes.via (fun _ kk_ => XS.istoreN X1.here hx rfl (hb hby d32_8) rfl (l' := #[vr b, vi i_, vi e_, vi (e_ - i_), .unset]) rfl kk_) ?_
  show Goes p e below _ (T1.setTop (mkF m 9 #[vr b, vi i_, vi e_, vi (e_ - i_), .unset] []))
  have hM : (e_ - i_).toInt = (M : Int) := by have z := own_sbi He Hq (Nat.le_add_right _ _); rwa [Nat.add_sub_cancel_left] at z
  refine gILN X1 hx hby d32_9 rfl ?_
  obtain ⟨T2, h2, k2, X2, e2, E2, A2, st2⟩ := own_newP X1 hx hZ (own_w hw 7 rfl) e1' (g := (mkF m 10 #[vr b, vi i_, vi e_, vi (e_ - i_), .unset] [(.int (e_ - i_))])) rfl (hb hby d32_10) rfl (n := (e_ - i_)) (N := M) (own_ix hM).1 (own_ix hM).2 (cap := 16) (by first | decide | omega | (dsimp only; omega)) (by first | decide | omega | (dsimp only; omega)) (by first | decide | omega | (dsimp only; omega)) (by first | decide | omega | (dsimp only; omega))
  obtain ⟨b2, g2⟩ : ∃ z, z = (h0).size := ⟨_, rfl⟩
  rw [← g2] at A2 st2
  have lne3 : b < b2 := Nat.lt_of_lt_of_le A0_b.lt (Nat.le_of_eq g2.symm)
  have ne3 : b ≠ b2 := Nat.ne_of_lt lne3
  have sz_b2 : h0.size ≤ b2 := Nat.le_trans (Nat.le_refl _) (Nat.le_of_eq g2.symm)
  have gn_b2 : n0 ≤ b2 := Nat.le_trans Z0 sz_b2
  refine Goes.via st2 ?_
  show Goes p e below _ (T2.setTop (mkF m 12 #[vr b, vi i_, vi e_, vi (e_ - i_), .unset] [(.ref b2)]))
  refine Goes.via (fun _ kk_ => XS.astore X2.here hx rfl (hb hby d32_12) rfl rfl (l' := #[vr b, vi i_, vi e_, vi (e_ - i_), vr b2]) rfl kk_) ?_
  show Goes p e below _ (T2.setTop (mkF m 14 #[vr b, vi i_, vi e_, vi (e_ - i_), vr b2] []))
  refine gALN X2 hx hby d32_14 rfl rfl ?_
  refine gILN X2 hx hby d32_15 rfl ?_
  refine gAL X2 hx hby d32_16 rfl rfl ?_
  refine gIC (z := 0) X2 hx hby d32_18 rfl ?_
  refine gALN X2 hx hby d32_19 rfl rfl ?_
  have f4 : Arw Z h2 b kc .byte N (fun i => .int (g i)) := (A0_b.ext E2)
  refine Goes.via (own_alen X2 hx hZ e2 f4 (g := (mkF m 20 #[vr b, vi i_, vi e_, vi (e_ - i_), vr b2] [(.ref b), (.int (0 : Int32)), (.ref b2), (.int i_), (.ref b)])) rfl rfl (hb hby d32_20)) ?_
  rw [show (N : Nat).toInt32 = nz from (own_nz Hnz)]
  show Goes p e below _ (T2.setTop (mkF m 21 #[vr b, vi i_, vi e_, vi (e_ - i_), vr b2] [(.int nz), (.int (0 : Int32)), (.ref b2), (.int i_), (.ref b)]))
  refine gILN X2 hx hby d32_21 rfl ?_
  refine Goes.via (fun _ kk_ => XS.isub X2.here hx rfl (hb hby d32_22) rfl kk_) ?_
  show Goes p e below _ (T2.setTop (mkF m 23 #[vr b, vi i_, vi e_, vi (e_ - i_), vr b2] [(.int (nz - i_)), (.int (0 : Int32)), (.ref b2), (.int i_), (.ref b)]))
  refine gILN X2 hx hby d32_23 rfl ?_
  have z6 : h0.size ≤ (h2).size := (Nat.le_trans (Nat.le_refl _) E2.1)
  obtain ⟨_, _, ⟨T5, L5, k5, n5⟩, -, X5, ⟨Lc5, hQ5, l5, y5, z5⟩, st5⟩ := Jvm.LawKit.callS X2 hx (y := (⟨"java/lang/Math", "min", "(II)I"⟩ : MethodName)) hown (mvT hZ (own_w hw 140 rfl)) (mvT hZ (own_w hw 105 rfl)) (mvT hZ (own_w hw 102 rfl)) (mvT hZ (own_w hw 106 rfl)) (by decide) (backOf (W := 4) (rmMy l Z a0 hw [] (nz - i_) (e_ - i_) h2 n0 (Nat.le_trans Z0 z6) (own_nlt hM (own_sbi Hnz Hq (by omega)) (by omega))) hZ (own_w hw 106 rfl) (own_w hw 102 rfl) (by decide) (by decide)) (g := (mkF m 24 #[vr b, vi i_, vi e_, vi (e_ - i_), vr b2] [(.int (e_ - i_)), (.int (nz - i_)), (.int (0 : Int32)), (.ref b2), (.int i_), (.ref b)])) rfl (by rw [hml]; rfl) (argsL := [(.int (nz - i_)), (.int (e_ - i_))]) (rest := [(.int (0 : Int32)), (.ref b2), (.int i_), (.ref b)]) (lenOf pd_6 rfl) rfl (by show 2 * 0 + _ ≤ _; exact Nat.le_of_eq rfl) (hb hby d32_24) (fun _ _ => ⟨rfl, e2, (by decide : 1 + 0 ≤ _), (by decide : 16 + 0 ≤ _)⟩)
  dsimp only [Pt.U, Pt.locs, Pt.cells, Pt.slots] at X5 l5 y5 z5 st5 hQ5
  replace l5 := l5.symm
  subst l5 y5 z5
  obtain ⟨rfl, rfl, e5⟩ := hQ5
  first | rw [List.append_nil] at X5 | skip
  refine Goes.via st5 ?_
  have e5' : T5.heap = h2 := e5
  show Goes p e below _ (T5.setTop (mkF m 27 #[vr b, vi i_, vi e_, vi (e_ - i_), vr b2] [(.int (e_ - i_)), (.int (0 : Int32)), (.ref b2), (.int i_), (.ref b)]))
  obtain ⟨T7, h7, L7, X7, e7, N7, K7, A7, st7⟩ := own_cpW X5 hx hZ hown (own_w hw 141 rfl) (own_w hw 144 rfl) (own_w hw 142 rfl) (own_w hw 143 rfl) e5' f4 A2 Hnz Hq hM HqM N0 gn_b2 (g := (mkF m 27 #[vr b, vi i_, vi e_, vi (e_ - i_), vr b2] [(.int (e_ - i_)), (.int (0 : Int32)), (.ref b2), (.int i_), (.ref b)])) rfl (by rw [hml]; rfl) rfl (hb hby d32_27) (by decide) (W := 0) (by show 2 * 0 + _ ≤ _; exact Nat.le_of_eq rfl) (by decide)
  refine Goes.via st7 ?_
  show Goes p e below _ (T7.setTop (mkF m 30 #[vr b, vi i_, vi e_, vi (e_ - i_), vr b2] []))
  refine gAL X7 hx hby d32_30 rfl rfl ?_
  have K8 : Keep h0 h7 [] := (((Keep.refl h0 []).ext E2).trans K7 (allS (Or.inr sz_b2) all0))
  exact own_finR X7 hx hlk hret rfl rfl rfl (hb hby d32_32) (by rw [e7]; exact ⟨b2, k2, rfl, N7, K8, sz_b2, A7⟩) (by first | decide | omega | (dsimp only; omega)) (by first | decide | omega | (dsimp only; omega))
theorem ef_rm31 (m : MethodId) (b : Addr) (i_ : Int32) (e_ : Int32) : entryFrame m #[(.ref b), (.int i_), (.int e_)] 3 = mkF m 0 #[.val (.ref b), .val (.int i_), .val (.int e_)] [] := by first | (simp [entryFrame, mkF, argsToLocals, Value.category]; done) | rfl
def Qrm31 (Z : State) (b : Addr) (i_ : Int32) (e_ : Int32) (kc : ClassId) (N : Nat) (g : Nat → Int32) (nz : Int32) (q : Nat) (M : Nat) (h0 : Heap) (n0 : Nat) (v_ : Option Value) (h_ : Heap) (L_ : List Loc) : Prop := ∃ nb : Addr, ∃ kb : ClassId, v_ = some (.ref nb) ∧ Fr n0 L_ ∧ Keep h0 h_ [] ∧ h0.size ≤ nb ∧ Arw Z h_ nb kb .byte M (fun i => .int ((fun i => g (q + i)) i))
theorem d31_0 : decode jdk_65_method_132_code 0 = .ok (.iload_n 1, 1) := by decide +kernel
theorem d31_1 : decode jdk_65_method_132_code 1 = .ok (.ifCond .ne 9, 3) := by decide +kernel
theorem d31_10 : decode jdk_65_method_132_code 10 = .ok (.aload_n 0, 1) := by decide +kernel
theorem d31_11 : decode jdk_65_method_132_code 11 = .ok (.iload_n 1, 1) := by decide +kernel
theorem d31_12 : decode jdk_65_method_132_code 12 = .ok (.iload_n 2, 1) := by decide +kernel
theorem pd_10 : parseMethodDescriptor "([BII)[B" = some ⟨[(.array .byte), .int, .int], some (.array .byte)⟩ := by decide +kernel
theorem d31_13 : decode jdk_65_method_132_code 13 = .ok (.invokestatic 339, 3) := by decide +kernel
theorem d31_16 : decode jdk_65_method_132_code 16 = .ok (.areturn, 1) := by decide +kernel
set_option maxRecDepth 65536 in
set_option maxHeartbeats 40000000 in
theorem rm31 (l : Launch) (Z : State) (a0 : Array Value) (hw : ∀ d ∈ tables_1, d.before a0 Z = true) (ws : List Jvm.Cond) (b : Addr) (i_ : Int32) (e_ : Int32) (kc : ClassId) (N : Nat) (g : Nat → Int32) (nz : Int32) (q : Nat) (M : Nat) (h0 : Heap) (n0 : Nat) (Z0 : n0 ≤ h0.size) (A0_b : Arw Z h0 b kc .byte N (fun i => .int (g i))) (Hnz : nz.toInt = (N : Int)) (Hq : i_.toInt = (q : Int)) (He : e_.toInt = ((q + M : Nat) : Int)) (HqM : q + M ≤ N) (Hq0 : 0 < q) (HM0 : 0 < M) (HM16 : M ≤ 16) :
    MetFree l (⟨"java/util/Arrays", "copyOfRange", "([BII)[B"⟩ : MethodName) (head1 (Jvm.Cond.code (⟨"java/util/Arrays", "copyOfRange", "([BII)[B"⟩ : MethodName) jdk_65_method_132_code 3 (some (.array .byte)) :: ws) ({ frames := 2, cells := 1, slots := 16, locals := 52 } : Room)) (fun as_ U_ => as_ = #[(.ref b), (.int i_), (.int e_)] ∧ Z.Warmed39 U_.vm ∧ U_.heap = h0) (fun _ _ _ _ _ => True) (fun _ U_ o_ V_ => ∃ v_ L_, o_ = .returned v_ ∧ Qrm31 Z b i_ e_ kc N g nz q M h0 n0 v_ V_.heap L_ ∧ FrameEnd U_ o_ V_ L_ ({ frames := 2, cells := 1, slots := 16, locals := 52 } : Room).cells ({ frames := 2, cells := 1, slots := 16, locals := 52 } : Room).slots) := by
  refine MetFree.of_bodySF (plainFor_of_name pn_java_util_Arrays) hisR ?_
  intro p e s m args below meth c s₁ Bd hml0 hP hK
  obtain ⟨rfl, hZ, hh⟩ := hP
  have hx := Bd.exec
  have hby := Bd.bytes
  have hlk : meth.locks = false := BodyLoose.notSynchronized Bd
  have hret := Bd.returns
  have hml : c.maxLocals = 3 := hml0
  have hown : s.vm.findClass "java/util/Arrays" = some m.cls := findClass_of_methodNamed Bd.named
  have hnm := (name_of_methodNamed Bd.named Bd.method).1
  have X0 : Stand p l e ({ frames := 2, cells := 1, slots := 16, locals := 52 } : Room) s m #[(.ref b), (.int i_), (.int e_)] below meth c s₁ [] 0 0 := Stand.of_body Bd
  have e0 : s₁.heap = h0 := by rw [← hh, Bd.state]; rfl
  have N0 := Fr.nil n0
  show Goes p e below (Fin_ s (Qrm31 Z b i_ e_ kc N g nz q M h0 n0) ({ frames := 2, cells := 1, slots := 16, locals := 52 } : Room).cells ({ frames := 2, cells := 1, slots := 16, locals := 52 } : Room).slots) (s₁.setTop (entryFrame m #[(.ref b), (.int i_), (.int e_)] 3))
  rw [ef_rm31 m b i_ e_]
  refine gILN X0 hx hby d31_0 rfl ?_
  have hc1_1 : ¬ (i_ = (0 : Int32)) := (own_nz0 Hq Hq0)
  refine Goes.via (fun _ kk_ => XS.ifYes X0.here hx rfl (pc0 := 1) (pc' := 10) rfl (hb hby d31_1) rfl ((if0 _ _).trans (feq hc1_1).2) (by decide) (by decide) kk_) ?_
  show Goes p e below _ (s₁.setTop (mkF m 10 #[vr b, vi i_, vi e_] []))
  refine gALN X0 hx hby d31_10 rfl rfl ?_
  refine gILN X0 hx hby d31_11 rfl ?_
  refine gILN X0 hx hby d31_12 rfl ?_
  obtain ⟨_, _, ⟨T2, L2, k2, n2⟩, -, X2, ⟨Lc2, hQ2, l2, y2, z2⟩, st2⟩ := Jvm.LawKit.callS X0 hx (y := (⟨"java/util/Arrays", "copyOfRangeByte", "([BII)[B"⟩ : MethodName)) hown (mvT hZ (own_w hw 134 rfl)) (mvT hZ (own_w hw 135 rfl)) (mvT hZ (own_w hw 132 rfl)) (mvT hZ (own_w hw 136 rfl)) (by decide) (backOf (W := 0) (rm32 l Z a0 hw [] b i_ e_ kc N g nz q M h0 n0 (Nat.le_trans Z0 (Nat.le_refl _)) A0_b Hnz Hq He HqM Hq0 HM0 HM16) hZ (own_w hw 136 rfl) (own_w hw 132 rfl) (by decide) (by decide)) (g := (mkF m 13 #[vr b, vi i_, vi e_] [(.int e_), (.int i_), (.ref b)])) rfl (by rw [hml]; rfl) (argsL := [(.ref b), (.int i_), (.int e_)]) (rest := []) (lenOf pd_10 rfl) rfl (by show 2 * 0 + _ ≤ _; exact Nat.le_of_eq rfl) (hb hby d31_13) (fun _ _ => ⟨rfl, e0, (by decide : 0 + 1 ≤ _), (by decide : 0 + 16 ≤ _)⟩)
  dsimp only [Pt.U, Pt.locs, Pt.cells, Pt.slots] at X2 l2 y2 z2 st2 hQ2
  replace l2 := l2.symm
  subst l2 y2 z2
  obtain ⟨nb2, kb2, rfl, N2q, K2, u2_0, u2_1⟩ := hQ2
  have N2 := Fr.app N0 N2q
  refine Goes.via st2 ?_
  have ne3 : b ≠ nb2 := Nat.ne_of_lt (Nat.lt_of_lt_of_le A0_b.lt u2_0)
  have sz_nb2 : h0.size ≤ nb2 := Nat.le_trans (Nat.le_refl _) u2_0
  have gn_nb2 : n0 ≤ nb2 := Nat.le_trans Z0 sz_nb2
  -- u2_0 : h0.size ≤ nb2
  show Goes p e below _ (T2.setTop (mkF m 16 #[vr b, vi i_, vi e_] [(.ref nb2)]))
  have K4 : Keep h0 T2.heap [] := ((Keep.refl h0 []).trans K2 all0)
  exact own_finR X2 hx hlk hret rfl rfl rfl (hb hby d31_16) (by exact ⟨nb2, kb2, rfl, N2, K4, sz_nb2, u2_1⟩) (by first | decide | omega | (dsimp only; omega)) (by first | decide | omega | (dsimp only; omega))
theorem ef_rmBB (m : MethodId) (a : Addr) (b : Addr) : entryFrame m #[(.ref a), (.ref b), (.int (0 : Int32))] 3 = mkF m 0 #[.val (.ref a), .val (.ref b), .val (.int (0 : Int32))] [] := by first | (simp [entryFrame, mkF, argsToLocals, Value.category]; done) | rfl
def QrmBB (Z : State) (a : Addr) (b : Addr) (h0 : Heap) (n0 : Nat) (v_ : Option Value) (h_ : Heap) (L_ : List Loc) : Prop := v_ = none ∧ Fr n0 L_ ∧ Keep h0 h_ [a] ∧ Exa Z h_ a "java/lang/String" ∧ Fld Z h_ a "java/lang/String" "coder" "B" (.int (0 : Int32)) ∧ Fld Z h_ a "java/lang/String" "value" "[B" (.ref b)
theorem d34_0 : decode jdk_42_method_151_code 0 = .ok (.aload_n 0, 1) := by decide +kernel
theorem d34_1 : decode jdk_42_method_151_code 1 = .ok (.invokespecial 1, 3) := by decide +kernel
theorem d34_4 : decode jdk_42_method_151_code 4 = .ok (.aload_n 0, 1) := by decide +kernel
theorem d34_5 : decode jdk_42_method_151_code 5 = .ok (.aload_n 1, 1) := by decide +kernel
theorem d34_6 : decode jdk_42_method_151_code 6 = .ok (.putfield 9, 3) := by decide +kernel
theorem d34_9 : decode jdk_42_method_151_code 9 = .ok (.aload_n 0, 1) := by decide +kernel
theorem d34_10 : decode jdk_42_method_151_code 10 = .ok (.iload_n 2, 1) := by decide +kernel
theorem d34_11 : decode jdk_42_method_151_code 11 = .ok (.putfield 15, 3) := by decide +kernel
theorem d34_14 : decode jdk_42_method_151_code 14 = .ok (.return_, 1) := by decide +kernel
set_option maxRecDepth 65536 in
set_option maxHeartbeats 40000000 in
theorem rmBB (l : Launch) (Z : State) (a0 : Array Value) (hw : ∀ d ∈ tables_1, d.before a0 Z = true) (ws : List Jvm.Cond) (a : Addr) (b : Addr) (h0 : Heap) (n0 : Nat) (Z0 : n0 ≤ h0.size) (E0_a : Exa Z h0 a "java/lang/String") (F1_a_value : Fld Z h0 a "java/lang/String" "value" "[B" .null) (F2_a_coder : Fld Z h0 a "java/lang/String" "coder" "B" (.int (0 : Int32))) (H3 : n0 ≤ a) :
    MetFree l (⟨"java/lang/String", "<init>", "([BB)V"⟩ : MethodName) (head1 (Jvm.Cond.code (⟨"java/lang/String", "<init>", "([BB)V"⟩ : MethodName) jdk_42_method_151_code 3 none :: ws) ({ frames := 1, cells := 0, slots := 0, locals := 12 } : Room)) (fun as_ U_ => as_ = #[(.ref a), (.ref b), (.int (0 : Int32))] ∧ Z.Warmed39 U_.vm ∧ U_.heap = h0) (fun _ _ _ _ _ => True) (fun _ U_ o_ V_ => ∃ v_ L_, o_ = .returned v_ ∧ QrmBB Z a b h0 n0 v_ V_.heap L_ ∧ FrameEnd U_ o_ V_ L_ ({ frames := 1, cells := 0, slots := 0, locals := 12 } : Room).cells ({ frames := 1, cells := 0, slots := 0, locals := 12 } : Room).slots) := by
  refine MetFree.of_bodySF (plainFor_of_name pn_java_lang_String) hisR ?_
  intro p e s m args below meth c s₁ Bd hml0 hP hK
  obtain ⟨rfl, hZ, hh⟩ := hP
  have hx := Bd.exec
  have hby := Bd.bytes
  have hlk : meth.locks = false := BodyLoose.notSynchronized Bd
  have hret := Bd.returns
  have hml : c.maxLocals = 3 := hml0
  have hown : s.vm.findClass "java/lang/String" = some m.cls := findClass_of_methodNamed Bd.named
  have hnm := (name_of_methodNamed Bd.named Bd.method).1
  have X0 : Stand p l e ({ frames := 1, cells := 0, slots := 0, locals := 12 } : Room) s m #[(.ref a), (.ref b), (.int (0 : Int32))] below meth c s₁ [] 0 0 := Stand.of_body Bd
  have e0 : s₁.heap = h0 := by rw [← hh, Bd.state]; rfl
  have N0 := Fr.nil n0
  show Goes p e below (Fin_ s (QrmBB Z a b h0 n0) ({ frames := 1, cells := 0, slots := 0, locals := 12 } : Room).cells ({ frames := 1, cells := 0, slots := 0, locals := 12 } : Room).slots) (s₁.setTop (entryFrame m #[(.ref a), (.ref b), (.int (0 : Int32))] 3))
  rw [ef_rmBB m a b]
  refine gALN X0 hx hby d34_0 rfl rfl ?_
  obtain ⟨T1, X1, e1, st1⟩ := initO X0 hx hZ hown (own_w hw 50 rfl) (own_w hw 51 rfl) (own_w hw 52 rfl) e0 (g := (mkF m 1 #[vr a, vr b, vi (0 : Int32)] [(.ref a)])) rfl (by rw [hml]; rfl) rfl (hb hby d34_1) (by decide) (W := 0) (by show 2 * 0 + _ ≤ _; exact Nat.le_of_eq rfl) (by decide)
  refine Goes.via st1 ?_
  show Goes p e below _ (T1.setTop (mkF m 4 #[vr a, vr b, vi (0 : Int32)] []))
  refine gALN X1 hx hby d34_4 rfl rfl ?_
  refine gALN X1 hx hby d34_5 rfl rfl ?_
  obtain ⟨T2, h2, X2, e2, W2, st2⟩ := putF X1 hx hZ hown (host := "") (Or.inl (own_w hw 24 rfl)) Via.refl e1 F1_a_value E0_a (Or.inr ⟨(own_w hw 8 rfl), rfl, hnm⟩) (own_w hw 6 rfl) (ty := (.array .byte)) (by decide) rfl rfl (g := (mkF m 6 #[vr a, vr b, vi (0 : Int32)] [(.ref b), (.ref a)])) rfl rfl (hb hby d34_6)
  refine Goes.via st2 ?_
  have N2 := Fr.snoc X2 N0 H3
  have Fw2 : Fld Z h2 a "java/lang/String" "value" "[B" (.ref b) := F1_a_value.same W2
  show Goes p e below _ (T2.setTop (mkF m 9 #[vr a, vr b, vi (0 : Int32)] []))
  refine gALN X2 hx hby d34_9 rfl rfl ?_
  refine gILN X2 hx hby d34_10 rfl ?_
  have f3 : Fld Z h2 a "java/lang/String" "coder" "B" (.int (0 : Int32)) := (F2_a_coder.other W2 (Or.inr (slot_ne (Or.inr (own_w hw 9 rfl)) (Or.inr (own_w hw 8 rfl)) (by decide) (t := .byte) (t' := (.array .byte)) (by decide) (by decide))))
  have f4 : Exa Z h2 a "java/lang/String" := (E0_a.wr W2)
  obtain ⟨T5, h5, X5, e5, W5, st5⟩ := putFN X2 hx hZ hown (own_w hw 23 rfl) Via.refl e2 f3 f4 (Or.inr ⟨(own_w hw 9 rfl), rfl, hnm⟩) (own_w hw 6 rfl) (ty := .byte) (v' := (.int (0 : Int32))) (by decide) rfl (by first | exact fits_nar_byte _ | decide) (g := (mkF m 11 #[vr a, vr b, vi (0 : Int32)] [(.int (0 : Int32)), (.ref a)])) rfl rfl (hb hby d34_11)
  refine Goes.via st5 ?_
  have N5 := Fr.snoc X5 N2 H3
  have Fw5 : Fld Z h5 a "java/lang/String" "coder" "B" (.int (0 : Int32)) := f3.same W5
  show Goes p e below _ (T5.setTop (mkF m 14 #[vr a, vr b, vi (0 : Int32)] []))
  have K6 : Keep h0 h5 [a] := (((Keep.refl h0 [a]).wr W2 (Or.inl (List.mem_of_getElem? (i := 0) rfl))).wr W5 (Or.inl (List.mem_of_getElem? (i := 0) rfl)))
  have f7 : Exa Z h5 a "java/lang/String" := (f4.wr W5)
  have f8 : Fld Z h5 a "java/lang/String" "value" "[B" (.ref b) := (Fw2.other W5 (Or.inr (slot_ne (Or.inr (own_w hw 8 rfl)) (Or.inr (own_w hw 9 rfl)) (by decide) (t := (.array .byte)) (t' := .byte) (by decide) (by decide))))
  exact own_finV X5 hx hlk hret (hb hby d34_14) (by rw [e5]; exact ⟨rfl, N5, K6, f7, Fw5, f8⟩) (by first | decide | omega | (dsimp only; omega)) (by first | decide | omega | (dsimp only; omega))
theorem ef_rm30 (m : MethodId) (b : Addr) (i_ : Int32) (ln : Int32) : entryFrame m #[(.ref b), (.int i_), (.int ln)] 3 = mkF m 0 #[.val (.ref b), .val (.int i_), .val (.int ln)] [] := by first | (simp [entryFrame, mkF, argsToLocals, Value.category]; done) | rfl
def Qrm30 (Z : State) (b : Addr) (i_ : Int32) (ln : Int32) (kc : ClassId) (N : Nat) (g : Nat → Int32) (nz : Int32) (q : Nat) (M : Nat) (h0 : Heap) (n0 : Nat) (v_ : Option Value) (h_ : Heap) (L_ : List Loc) : Prop := ∃ r_ : Addr, ∃ nb : Addr, ∃ kb : ClassId, v_ = some (.ref r_) ∧ Fr n0 L_ ∧ Keep h0 h_ [] ∧ h0.size ≤ r_ ∧ Exa Z h_ r_ "java/lang/String" ∧ Fld Z h_ r_ "java/lang/String" "coder" "B" (.int (0 : Int32)) ∧ Fld Z h_ r_ "java/lang/String" "value" "[B" (.ref nb) ∧ Arw Z h_ nb kb .byte M (fun i => .int ((fun i => g (q + i)) i))
theorem d30_0 : decode jdk_43_method_47_code 0 = .ok (.iload_n 2, 1) := by decide +kernel
theorem d30_1 : decode jdk_43_method_47_code 1 = .ok (.ifCond .ne 6, 3) := by decide +kernel
theorem d30_7 : decode jdk_43_method_47_code 7 = .ok (.new 1, 3) := by decide +kernel
theorem d30_10 : decode jdk_43_method_47_code 10 = .ok (.dup, 1) := by decide +kernel
theorem d30_11 : decode jdk_43_method_47_code 11 = .ok (.aload_n 0, 1) := by decide +kernel
theorem d30_12 : decode jdk_43_method_47_code 12 = .ok (.iload_n 1, 1) := by decide +kernel
theorem d30_13 : decode jdk_43_method_47_code 13 = .ok (.iload_n 1, 1) := by decide +kernel
theorem d30_14 : decode jdk_43_method_47_code 14 = .ok (.iload_n 2, 1) := by decide +kernel
theorem d30_15 : decode jdk_43_method_47_code 15 = .ok (.iadd, 1) := by decide +kernel
theorem d30_16 : decode jdk_43_method_47_code 16 = .ok (.invokestatic 232, 3) := by decide +kernel
theorem d30_19 : decode jdk_43_method_47_code 19 = .ok (.iconst 0, 1) := by decide +kernel
theorem pd_11 : parseMethodDescriptor "([BB)V" = some ⟨[(.array .byte), .byte], none⟩ := by decide +kernel
theorem d30_20 : decode jdk_43_method_47_code 20 = .ok (.invokespecial 112, 3) := by decide +kernel
theorem d30_23 : decode jdk_43_method_47_code 23 = .ok (.areturn, 1) := by decide +kernel
set_option maxRecDepth 65536 in
set_option maxHeartbeats 40000000 in
theorem rm30 (l : Launch) (Z : State) (a0 : Array Value) (hw : ∀ d ∈ tables_1, d.before a0 Z = true) (ws : List Jvm.Cond) (b : Addr) (i_ : Int32) (ln : Int32) (kc : ClassId) (N : Nat) (g : Nat → Int32) (nz : Int32) (q : Nat) (M : Nat) (h0 : Heap) (n0 : Nat) (Z0 : n0 ≤ h0.size) (A0_b : Arw Z h0 b kc .byte N (fun i => .int (g i))) (Hnz : nz.toInt = (N : Int)) (Hq : i_.toInt = (q : Int)) (Hl : ln.toInt = (M : Int)) (HqM : q + M ≤ N) (Hq0 : 0 < q) (HM0 : 0 < M) (HM16 : M ≤ 16) :
    MetFree l (⟨"java/lang/StringLatin1", "newString", "([BII)Ljava/lang/String;"⟩ : MethodName) (head1 (Jvm.Cond.code (⟨"java/lang/StringLatin1", "newString", "([BII)Ljava/lang/String;"⟩ : MethodName) jdk_43_method_47_code 3 (some (.object "java/lang/String")) :: ws) ({ frames := 3, cells := 2, slots := 20, locals := 68 } : Room)) (fun as_ U_ => as_ = #[(.ref b), (.int i_), (.int ln)] ∧ Z.Warmed39 U_.vm ∧ U_.heap = h0) (fun _ _ _ _ _ => True) (fun _ U_ o_ V_ => ∃ v_ L_, o_ = .returned v_ ∧ Qrm30 Z b i_ ln kc N g nz q M h0 n0 v_ V_.heap L_ ∧ FrameEnd U_ o_ V_ L_ ({ frames := 3, cells := 2, slots := 20, locals := 68 } : Room).cells ({ frames := 3, cells := 2, slots := 20, locals := 68 } : Room).slots) := by
  refine MetFree.of_bodySF (plainFor_of_name pn_java_lang_StringLatin1) hisR ?_
  intro p e s m args below meth c s₁ Bd hml0 hP hK
  obtain ⟨rfl, hZ, hh⟩ := hP
  have hx := Bd.exec
  have hby := Bd.bytes
  have hlk : meth.locks = false := BodyLoose.notSynchronized Bd
  have hret := Bd.returns
  have hml : c.maxLocals = 3 := hml0
  have hown : s.vm.findClass "java/lang/StringLatin1" = some m.cls := findClass_of_methodNamed Bd.named
  have hnm := (name_of_methodNamed Bd.named Bd.method).1
  have X0 : Stand p l e ({ frames := 3, cells := 2, slots := 20, locals := 68 } : Room) s m #[(.ref b), (.int i_), (.int ln)] below meth c s₁ [] 0 0 := Stand.of_body Bd
  have e0 : s₁.heap = h0 := by rw [← hh, Bd.state]; rfl
  have N0 := Fr.nil n0
  show Goes p e below (Fin_ s (Qrm30 Z b i_ ln kc N g nz q M h0 n0) ({ frames := 3, cells := 2, slots := 20, locals := 68 } : Room).cells ({ frames := 3, cells := 2, slots := 20, locals := 68 } : Room).slots) (s₁.setTop (entryFrame m #[(.ref b), (.int i_), (.int ln)] 3))
  rw [ef_rm30 m b i_ ln]
  refine gILN X0 hx hby d30_0 rfl ?_
  have hc1_1 : ¬ (ln = (0 : Int32)) := (own_nz0 Hl HM0)
  refine Goes.via (fun _ kk_ => XS.ifYes X0.here hx rfl (pc0 := 1) (pc' := 7) rfl (hb hby d30_1) rfl ((if0 _ _).trans (feq hc1_1).2) (by decide) (by decide) kk_) ?_
  show Goes p e below _ (s₁.setTop (mkF m 7 #[vr b, vi i_, vi ln] []))
  obtain ⟨T2, h2, X2, e2, E2, A2, D2, -, st2⟩ := newO X0 hx hZ hown (own_w hw 129 rfl) (own_w hw 6 rfl) (own_w hw 5 rfl) e0 (g := (mkF m 7 #[vr b, vi i_, vi ln] [])) rfl (hb hby d30_7) (by first | decide | omega | (dsimp only; omega)) (by first | decide | omega | (dsimp only; omega))
  obtain ⟨b2, g2⟩ : ∃ z, z = (h0).size := ⟨_, rfl⟩
  rw [← g2] at A2 D2 st2
  have lne3 : b < b2 := Nat.lt_of_lt_of_le A0_b.lt (Nat.le_of_eq g2.symm)
  have ne3 : b ≠ b2 := Nat.ne_of_lt lne3
  have sz_b2 : h0.size ≤ b2 := Nat.le_trans (Nat.le_refl _) (Nat.le_of_eq g2.symm)
  have gn_b2 : n0 ≤ b2 := Nat.le_trans Z0 sz_b2
  have F_value_b2 : Fld Z h2 b2 "java/lang/String" "value" "[B" .null := D2 (Or.inr (own_w hw 8 rfl)) (ty := (.array .byte)) (by decide)
  have F_coder_b2 : Fld Z h2 b2 "java/lang/String" "coder" "B" (.int (0 : Int32)) := D2 (Or.inr (own_w hw 9 rfl)) (ty := .byte) (by decide)
  refine Goes.via st2 ?_
  show Goes p e below _ (T2.setTop (mkF m 10 #[vr b, vi i_, vi ln] [(.ref b2)]))
  refine gDU X2 hx hby d30_10 rfl ?_
  refine gALN X2 hx hby d30_11 rfl rfl ?_
  refine gILN X2 hx hby d30_12 rfl ?_
  refine gILN X2 hx hby d30_13 rfl ?_
  refine gILN X2 hx hby d30_14 rfl ?_
  refine Goes.via (fun _ kk_ => XS.iadd X2.here hx rfl (hb hby d30_15) rfl kk_) ?_
  show Goes p e below _ (T2.setTop (mkF m 16 #[vr b, vi i_, vi ln] [(.int (i_ + ln)), (.int i_), (.ref b), (.ref b2), (.ref b2)]))
  have f4 : Arw Z h2 b kc .byte N (fun i => .int (g i)) := (A0_b.ext E2)
  have z6 : h0.size ≤ (h2).size := (Nat.le_trans (Nat.le_refl _) E2.1)
  obtain ⟨_, _, ⟨T5, L5, k5, n5⟩, -, X5, ⟨Lc5, hQ5, l5, y5, z5⟩, st5⟩ := Jvm.LawKit.callS X2 hx (y := (⟨"java/util/Arrays", "copyOfRange", "([BII)[B"⟩ : MethodName)) hown (mvT hZ (own_w hw 130 rfl)) (mvT hZ (own_w hw 131 rfl)) (mvT hZ (own_w hw 132 rfl)) (mvT hZ (own_w hw 133 rfl)) (by decide) (backOf (W := 2) (rm31 l Z a0 hw [] b i_ (i_ + ln) kc N g nz q M h2 n0 (Nat.le_trans Z0 z6) f4 Hnz Hq (own_adi Hq Hl (by have := nz.toInt_lt; omega)) HqM Hq0 HM0 HM16) hZ (own_w hw 133 rfl) (own_w hw 132 rfl) (by decide) (by decide)) (g := (mkF m 16 #[vr b, vi i_, vi ln] [(.int (i_ + ln)), (.int i_), (.ref b), (.ref b2), (.ref b2)])) rfl (by rw [hml]; rfl) (argsL := [(.ref b), (.int i_), (.int (i_ + ln))]) (rest := [(.ref b2), (.ref b2)]) (lenOf pd_10 rfl) rfl (by show 2 * 0 + _ ≤ _; exact Nat.le_of_eq rfl) (hb hby d30_16) (fun _ _ => ⟨rfl, e2, (by decide : 1 + 1 ≤ _), (by decide : 4 + 16 ≤ _)⟩)
  dsimp only [Pt.U, Pt.locs, Pt.cells, Pt.slots] at X5 l5 y5 z5 st5 hQ5
  replace l5 := l5.symm
  subst l5 y5 z5
  obtain ⟨nb5, kb5, rfl, N5q, K5, u5_0, u5_1⟩ := hQ5
  have N5 := Fr.app N0 N5q
  refine Goes.via st5 ?_
  have ne7 : b ≠ nb5 := Nat.ne_of_lt (Nat.lt_of_lt_of_le f4.lt u5_0)
  have ne8 : b2 ≠ nb5 := Nat.ne_of_lt (Nat.lt_of_lt_of_le A2.lt u5_0)
  have sz_nb5 : h0.size ≤ nb5 := Nat.le_trans z6 u5_0
  have gn_nb5 : n0 ≤ nb5 := Nat.le_trans Z0 sz_nb5
  -- u5_0 : h0.size ≤ nb5
  show Goes p e below _ (T5.setTop (mkF m 19 #[vr b, vi i_, vi ln] [(.ref nb5), (.ref b2), (.ref b2)]))
  refine gIC (z := 0) X5 hx hby d30_19 rfl ?_
  have f9 : Exa Z T5.heap b2 "java/lang/String" := (A2.keep K5)
  have f10 : Fld Z T5.heap b2 "java/lang/String" "value" "[B" .null := (F_value_b2.keep K5 nin0)
  have f11 : Fld Z T5.heap b2 "java/lang/String" "coder" "B" (.int (0 : Int32)) := (F_coder_b2.keep K5 nin0)
  have z13 : h0.size ≤ (T5.heap).size := (Nat.le_trans z6 K5.1)
  obtain ⟨_, _, ⟨T12, L12, k12, n12⟩, -, X12, ⟨Lc12, hQ12, l12, y12, z12⟩, st12⟩ := X5.specialBack hx (y := (⟨"java/lang/String", "<init>", "([BB)V"⟩ : MethodName)) rfl hown (mvT hZ (own_w hw 145 rfl)) (mvT hZ (own_w hw 146 rfl)) (mvT hZ (own_w hw 147 rfl)) (by decide) (backOf (W := 1) (rmBB l Z a0 hw [] b2 nb5 T5.heap n0 (Nat.le_trans Z0 z13) f9 f10 f11 gn_b2) hZ (own_w hw 147 rfl) (own_w hw 5 rfl) (by decide) (by decide)) (g := (mkF m 20 #[vr b, vi i_, vi ln] [(.int (0 : Int32)), (.ref nb5), (.ref b2), (.ref b2)])) rfl (by rw [hml]; rfl) (Steps.refl _) (a := b2) (argsL := [(.ref nb5), (.int (0 : Int32))]) (rest := [(.ref b2)]) (lenOf pd_11 rfl) rfl (by show 2 * 0 + _ ≤ _; exact Nat.le_of_eq rfl) (hb hby d30_20) (fun _ _ => ⟨rfl, rfl, (by decide : 2 + 0 ≤ _), (by decide : 20 + 0 ≤ _)⟩)
  dsimp only [Pt.U, Pt.locs, Pt.cells, Pt.slots] at X12 l12 y12 z12 st12 hQ12
  replace l12 := l12.symm
  subst l12 y12 z12
  obtain ⟨rfl, N12q, K12, u12_0, u12_1, u12_2⟩ := hQ12
  have N12 := Fr.app N5 N12q
  refine Goes.tr st12 ?_
  show Goes p e below _ (T12.setTop (mkF m 23 #[vr b, vi i_, vi ln] [(.ref b2)]))
  have K14 : Keep h0 T12.heap [] := ((((Keep.refl h0 []).ext E2).trans K5 all0).trans K12 (allS (Or.inr sz_b2) all0))
  have f15 : Arw Z T12.heap nb5 kb5 .byte M (fun i => .int ((fun i => g (q + i)) i)) := (u5_1.keep K12 (ninS (Ne.symm ne8) nin0))
  exact own_finR X12 hx hlk hret rfl rfl rfl (hb hby d30_23) (by exact ⟨b2, nb5, kb5, rfl, N12, K14, sz_b2, u12_0, u12_1, u12_2, f15⟩) (by first | decide | omega | (dsimp only; omega)) (by first | decide | omega | (dsimp only; omega))
theorem ef_rm27 (m : MethodId) (a : Addr) (i_ : Int32) (e_ : Int32) : entryFrame m #[(.ref a), (.int i_), (.int e_)] 5 = mkF m 0 #[.val (.ref a), .val (.int i_), .val (.int e_), .unset, .unset] [] := by first | (simp [entryFrame, mkF, argsToLocals, Value.category]; done) | rfl
def Qrm27 (Z : State) (a : Addr) (i_ : Int32) (e_ : Int32) (cS : Int32) (fo : Value) (t : Addr) (kc : ClassId) (N : Nat) (g : Nat → Int32) (nz : Int32) (q : Nat) (M : Nat) (h0 : Heap) (n0 : Nat) (v_ : Option Value) (h_ : Heap) (L_ : List Loc) : Prop := ∃ r_ : Addr, ∃ nb : Addr, ∃ kb : ClassId, v_ = some (.ref r_) ∧ Fr n0 L_ ∧ Keep h0 h_ [] ∧ h0.size ≤ r_ ∧ Exa Z h_ r_ "java/lang/String" ∧ Fld Z h_ r_ "java/lang/String" "coder" "B" (.int (0 : Int32)) ∧ Fld Z h_ r_ "java/lang/String" "value" "[B" (.ref nb) ∧ Arw Z h_ nb kb .byte M (fun i => .int ((fun i => g (q + i)) i))
theorem d27_0 : decode jdk_42_method_92_code 0 = .ok (.aload_n 0, 1) := by decide +kernel
theorem d27_1 : decode jdk_42_method_92_code 1 = .ok (.invokevirtual 505, 3) := by decide +kernel
theorem d27_4 : decode jdk_42_method_92_code 4 = .ok (.istore_n 3, 1) := by decide +kernel
theorem d27_5 : decode jdk_42_method_92_code 5 = .ok (.iload_n 1, 1) := by decide +kernel
theorem d27_6 : decode jdk_42_method_92_code 6 = .ok (.iload_n 2, 1) := by decide +kernel
theorem d27_7 : decode jdk_42_method_92_code 7 = .ok (.iload_n 3, 1) := by decide +kernel
theorem pd_12 : parseMethodDescriptor "(III)V" = some ⟨[.int, .int, .int], none⟩ := by decide +kernel
theorem d27_8 : decode jdk_42_method_92_code 8 = .ok (.invokestatic 521, 3) := by decide +kernel
theorem d27_11 : decode jdk_42_method_92_code 11 = .ok (.iload_n 1, 1) := by decide +kernel
theorem d27_12 : decode jdk_42_method_92_code 12 = .ok (.ifCond .ne 10, 3) := by decide +kernel
theorem d27_22 : decode jdk_42_method_92_code 22 = .ok (.iload_n 2, 1) := by decide +kernel
theorem d27_23 : decode jdk_42_method_92_code 23 = .ok (.iload_n 1, 1) := by decide +kernel
theorem d27_24 : decode jdk_42_method_92_code 24 = .ok (.isub, 1) := by decide +kernel
theorem d27_25 : decode jdk_42_method_92_code 25 = .ok (.istore 4, 2) := by decide +kernel
theorem d27_27 : decode jdk_42_method_92_code 27 = .ok (.aload_n 0, 1) := by decide +kernel
theorem d27_28 : decode jdk_42_method_92_code 28 = .ok (.invokevirtual 492, 3) := by decide +kernel
theorem d27_31 : decode jdk_42_method_92_code 31 = .ok (.ifCond .eq 16, 3) := by decide +kernel
theorem d27_34 : decode jdk_42_method_92_code 34 = .ok (.aload_n 0, 1) := by decide +kernel
theorem d27_35 : decode jdk_42_method_92_code 35 = .ok (.getfield 9, 3) := by decide +kernel
theorem d27_38 : decode jdk_42_method_92_code 38 = .ok (.iload_n 1, 1) := by decide +kernel
theorem d27_39 : decode jdk_42_method_92_code 39 = .ok (.iload 4, 2) := by decide +kernel
theorem pd_13 : parseMethodDescriptor "([BII)Ljava/lang/String;" = some ⟨[(.array .byte), .int, .int], some (.object "java/lang/String")⟩ := by decide +kernel
theorem d27_41 : decode jdk_42_method_92_code 41 = .ok (.invokestatic 685, 3) := by decide +kernel
theorem d27_44 : decode jdk_42_method_92_code 44 = .ok (.goto 13, 3) := by decide +kernel
theorem d27_57 : decode jdk_42_method_92_code 57 = .ok (.areturn, 1) := by decide +kernel
set_option maxRecDepth 65536 in
set_option maxHeartbeats 40000000 in
theorem rm27 (l : Launch) (Z : State) (a0 : Array Value) (hw : ∀ d ∈ tables_1, d.before a0 Z = true) (ws : List Jvm.Cond) (a : Addr) (i_ : Int32) (e_ : Int32) (cS : Int32) (fo : Value) (t : Addr) (kc : ClassId) (N : Nat) (g : Nat → Int32) (nz : Int32) (q : Nat) (M : Nat) (h0 : Heap) (n0 : Nat) (Z0 : n0 ≤ h0.size) (E0_a : Exa Z h0 a "java/lang/String") (F1_a_coder : Fld Z h0 a "java/lang/String" "coder" "B" (.int (0 : Int32))) (F2_a_value : Fld Z h0 a "java/lang/String" "value" "[B" (.ref t)) (A3_t : Arw Z h0 t kc .byte N (fun i => .int (g i))) (S4_java_lang_String_COMPACT_STRINGS_COMPACT_STRINGS : Sta Z h0 "java/lang/String" "COMPACT_STRINGS" "Z" (.int cS)) (H_cs : ¬ cS = (0 : Int32)) (S6_jdk_internal_util_Preconditions_SIOOBE_FORMATTER_SIOOBE_FORMATTER : Sta Z h0 "jdk/internal/util/Preconditions" "SIOOBE_FORMATTER" "Ljava/util/function/BiFunction;" fo) (Hfo : fo.isRef = true) (Hnz : nz.toInt = (N : Int)) (Hq : i_.toInt = (q : Int)) (He : e_.toInt = ((q + M : Nat) : Int)) (HqM : q + M ≤ N) (Hq0 : 0 < q) (HM0 : 0 < M) (HM16 : M ≤ 16) :
    MetFree l (⟨"java/lang/String", "substring", "(II)Ljava/lang/String;"⟩ : MethodName) (head1 (Jvm.Cond.code (⟨"java/lang/String", "substring", "(II)Ljava/lang/String;"⟩ : MethodName) jdk_42_method_92_code 5 (some (.object "java/lang/String")) :: ws) ({ frames := 4, cells := 2, slots := 20, locals := 82 } : Room)) (fun as_ U_ => as_ = #[(.ref a), (.int i_), (.int e_)] ∧ Z.Warmed39 U_.vm ∧ U_.heap = h0) (fun _ _ _ _ _ => True) (fun _ U_ o_ V_ => ∃ v_ L_, o_ = .returned v_ ∧ Qrm27 Z a i_ e_ cS fo t kc N g nz q M h0 n0 v_ V_.heap L_ ∧ FrameEnd U_ o_ V_ L_ ({ frames := 4, cells := 2, slots := 20, locals := 82 } : Room).cells ({ frames := 4, cells := 2, slots := 20, locals := 82 } : Room).slots) := by
  refine MetFree.of_bodySF (plainFor_of_name pn_java_lang_String) hisR ?_
  intro p e s m args below meth c s₁ Bd hml0 hP hK
  obtain ⟨rfl, hZ, hh⟩ := hP
  have hx := Bd.exec
  have hby := Bd.bytes
  have hlk : meth.locks = false := BodyLoose.notSynchronized Bd
  have hret := Bd.returns
  have hml : c.maxLocals = 5 := hml0
  have hown : s.vm.findClass "java/lang/String" = some m.cls := findClass_of_methodNamed Bd.named
  have hnm := (name_of_methodNamed Bd.named Bd.method).1
  have X0 : Stand p l e ({ frames := 4, cells := 2, slots := 20, locals := 82 } : Room) s m #[(.ref a), (.int i_), (.int e_)] below meth c s₁ [] 0 0 := Stand.of_body Bd
  have e0 : s₁.heap = h0 := by rw [← hh, Bd.state]; rfl
  have N0 := Fr.nil n0
  show Goes p e below (Fin_ s (Qrm27 Z a i_ e_ cS fo t kc N g nz q M h0 n0) ({ frames := 4, cells := 2, slots := 20, locals := 82 } : Room).cells ({ frames := 4, cells := 2, slots := 20, locals := 82 } : Room).slots) (s₁.setTop (entryFrame m #[(.ref a), (.int i_), (.int e_)] 5))
  rw [ef_rm27 m a i_ e_]
  have ne1 : a ≠ t := own_ne_arr E0_a (own_w hw 6 rfl) A3_t
  refine gALN X0 hx hby d27_0 rfl rfl ?_
  obtain ⟨cq2, kq2, q2a, q2b, q2c⟩ := isOf hZ e0 E0_a
  obtain ⟨_, _, ⟨T2, L2, k2, n2⟩, -, X2, ⟨Lc2, hQ2, l2, y2, z2⟩, st2⟩ := X0.virtualBack hx (y := (⟨"java/lang/String", "length", "()I"⟩ : MethodName)) (z := (⟨"java/lang/String", "length", "()I"⟩ : MethodName)) hown (mvT hZ (own_w hw 89 rfl)) (mvT hZ (own_w hw 90 rfl)) (notFace_of_selects (args := #[]) (mvT hZ (own_w hw 92 rfl))) (mvT hZ (own_w hw 92 rfl)) (mvT hZ (own_w hw 91 rfl)) (by decide) (backOf (W := 0) (rm20 l Z a0 hw [] a nz cS t kc N g h0 n0 (Nat.le_trans Z0 (Nat.le_refl _)) E0_a F1_a_coder F2_a_value A3_t S4_java_lang_String_COMPACT_STRINGS_COMPACT_STRINGS H_cs Hnz) hZ (own_w hw 93 rfl) (own_w hw 5 rfl) (by decide) (by decide)) q2a q2c (g := (mkF m 1 #[vr a, vi i_, vi e_, .unset, .unset] [(.ref a)])) rfl (by rw [hml]; rfl) (Steps.refl _) (argsL := []) (rest := []) (lenOf pd_8 rfl) rfl (by show 2 * 0 + _ ≤ _; exact Nat.le_of_eq rfl) (hb hby d27_1) (fun _ _ => ⟨rfl, e0, (by decide : 0 + 0 ≤ _), (by decide : 0 + 0 ≤ _)⟩)
  dsimp only [Pt.U, Pt.locs, Pt.cells, Pt.slots] at X2 l2 y2 z2 st2 hQ2
  replace l2 := l2.symm
  subst l2 y2 z2
  obtain ⟨rfl, rfl, e2⟩ := hQ2
  first | rw [List.append_nil] at X2 | skip
  refine Goes.tr st2 ?_
  have e2' : T2.heap = h0 := e2
  show Goes p e below _ (T2.setTop (mkF m 4 #[vr a, vi i_, vi e_, .unset, .unset] [(.int nz)]))
  refine Goes.via (fun _ kk_ => XS.istoreN X2.here hx rfl (hb hby d27_4) rfl (l' := #[vr a, vi i_, vi e_, vi nz, .unset]) rfl kk_) ?_
  show Goes p e below _ (T2.setTop (mkF m 5 #[vr a, vi i_, vi e_, vi nz, .unset] []))
  refine gILN X2 hx hby d27_5 rfl ?_
  refine gILN X2 hx hby d27_6 rfl ?_
  refine gILN X2 hx hby d27_7 rfl ?_
  obtain ⟨_, _, ⟨T3, L3, k3, n3⟩, -, X3, ⟨Lc3, hQ3, l3, y3, z3⟩, st3⟩ := Jvm.LawKit.callS X2 hx (y := (⟨"java/lang/String", "checkBoundsBeginEnd", "(III)V"⟩ : MethodName)) hown (mvT hZ (own_w hw 120 rfl)) (mvT hZ (own_w hw 121 rfl)) (mvT hZ (own_w hw 5 rfl)) (mvT hZ (own_w hw 122 rfl)) (by decide) (backOf (W := 0) (rm28 l Z a0 hw [] i_ e_ nz fo h0 n0 (Nat.le_trans Z0 (Nat.le_refl _)) S6_jdk_internal_util_Preconditions_SIOOBE_FORMATTER_SIOOBE_FORMATTER Hfo (own_ix Hq).1 (own_nlt Hq He (Nat.le_add_right _ _)) (own_nlt He Hnz HqM)) hZ (own_w hw 122 rfl) (own_w hw 5 rfl) (by decide) (by decide)) (g := (mkF m 8 #[vr a, vi i_, vi e_, vi nz, .unset] [(.int nz), (.int e_), (.int i_)])) rfl (by rw [hml]; rfl) (argsL := [(.int i_), (.int e_), (.int nz)]) (rest := []) (lenOf pd_12 rfl) rfl (by show 2 * 0 + _ ≤ _; exact Nat.le_of_eq rfl) (hb hby d27_8) (fun _ _ => ⟨rfl, e2', (by decide : 0 + 0 ≤ _), (by decide : 0 + 0 ≤ _)⟩)
  dsimp only [Pt.U, Pt.locs, Pt.cells, Pt.slots] at X3 l3 y3 z3 st3 hQ3
  replace l3 := l3.symm
  subst l3 y3 z3
  obtain ⟨rfl, rfl, e3⟩ := hQ3
  first | rw [List.append_nil] at X3 | skip
  refine Goes.via st3 ?_
  have e3' : T3.heap = h0 := e3
  show Goes p e below _ (T3.setTop (mkF m 11 #[vr a, vi i_, vi e_, vi nz, .unset] []))
  refine gILN X3 hx hby d27_11 rfl ?_
  have hc12_4 : ¬ (i_ = (0 : Int32)) := (own_nz0 Hq Hq0)
  refine Goes.via (fun _ kk_ => XS.ifYes X3.here hx rfl (pc0 := 12) (pc' := 22) rfl (hb hby d27_12) rfl ((if0 _ _).trans (feq hc12_4).2) (by decide) (by decide) kk_) ?_
  show Goes p e below _ (T3.setTop (mkF m 22 #[vr a, vi i_, vi e_, vi nz, .unset] []))
  refine gILN X3 hx hby d27_22 rfl ?_
  refine gILN X3 hx hby d27_23 rfl ?_
  refine Goes.via (fun _ kk_ => XS.isub X3.here hx rfl (hb hby d27_24) rfl kk_) ?_
  show Goes p e below _ (T3.setTop (mkF m 25 #[vr a, vi i_, vi e_, vi nz, .unset] [(.int (e_ - i_))]))
  refine Goes.via (fun _ kk_ => XS.istore X3.here hx rfl (hb hby d27_25) rfl (l' := #[vr a, vi i_, vi e_, vi nz, vi (e_ - i_)]) rfl kk_) ?_
  show Goes p e below _ (T3.setTop (mkF m 27 #[vr a, vi i_, vi e_, vi nz, vi (e_ - i_)] []))
  refine gALN X3 hx hby d27_27 rfl rfl ?_
  obtain ⟨cq5, kq5, q5a, q5b, q5c⟩ := isOf hZ e3' E0_a
  obtain ⟨_, _, ⟨T5, L5, k5, n5⟩, -, X5, ⟨Lc5, hQ5, l5, y5, z5⟩, st5⟩ := X3.virtualBack hx (y := (⟨"java/lang/String", "isLatin1", "()Z"⟩ : MethodName)) (z := (⟨"java/lang/String", "isLatin1", "()Z"⟩ : MethodName)) hown (mvT hZ (own_w hw 17 rfl)) (mvT hZ (own_w hw 18 rfl)) (notFace_of_selects (args := #[]) (mvT hZ (own_w hw 20 rfl))) (mvT hZ (own_w hw 20 rfl)) (mvT hZ (own_w hw 19 rfl)) (by decide) (backOf (W := 0) (rm3 l Z a0 hw [] a cS h0 n0 (Nat.le_trans Z0 (Nat.le_refl _)) F1_a_coder S4_java_lang_String_COMPACT_STRINGS_COMPACT_STRINGS H_cs) hZ (own_w hw 21 rfl) (own_w hw 5 rfl) (by decide) (by decide)) q5a q5c (g := (mkF m 28 #[vr a, vi i_, vi e_, vi nz, vi (e_ - i_)] [(.ref a)])) rfl (by rw [hml]; rfl) (Steps.refl _) (argsL := []) (rest := []) (lenOf pd_3 rfl) rfl (by show 2 * 0 + _ ≤ _; exact Nat.le_of_eq rfl) (hb hby d27_28) (fun _ _ => ⟨rfl, e3', (by decide : 0 + 0 ≤ _), (by decide : 0 + 0 ≤ _)⟩)
  dsimp only [Pt.U, Pt.locs, Pt.cells, Pt.slots] at X5 l5 y5 z5 st5 hQ5
  replace l5 := l5.symm
  subst l5 y5 z5
  obtain ⟨rfl, rfl, e5⟩ := hQ5
  first | rw [List.append_nil] at X5 | skip
  refine Goes.tr st5 ?_
  have e5' : T5.heap = h0 := e5
  show Goes p e below _ (T5.setTop (mkF m 31 #[vr a, vi i_, vi e_, vi nz, vi (e_ - i_)] [(.int (1 : Int32))]))
  have hc31_6 : ¬ ((1 : Int32) = (0 : Int32)) := (by decide)
  refine Goes.via (fun _ kk_ => XS.ifNo X5.here hx rfl (hb hby d27_31) rfl ((if0 _ _).trans (feq hc31_6).1) kk_) ?_
  show Goes p e below _ (T5.setTop (mkF m 34 #[vr a, vi i_, vi e_, vi nz, vi (e_ - i_)] []))
  refine gALN X5 hx hby d27_34 rfl rfl ?_
  obtain ⟨T7, X7, e7, st7⟩ := getF X5 hx hZ hown (host := "") (Or.inl (own_w hw 24 rfl)) Via.refl e5' F2_a_value (g := (mkF m 35 #[vr a, vi i_, vi e_, vi nz, vi (e_ - i_)] [(.ref a)])) rfl rfl (hb hby d27_35)
  refine Goes.via st7 ?_
  show Goes p e below _ (T7.setTop (mkF m 38 #[vr a, vi i_, vi e_, vi nz, vi (e_ - i_)] [(.ref t)]))
  refine gILN X7 hx hby d27_38 rfl ?_
  refine gIL X7 hx hby d27_39 rfl ?_
  obtain ⟨_, _, ⟨T8, L8, k8, n8⟩, -, X8, ⟨Lc8, hQ8, l8, y8, z8⟩, st8⟩ := Jvm.LawKit.callS X7 hx (y := (⟨"java/lang/StringLatin1", "newString", "([BII)Ljava/lang/String;"⟩ : MethodName)) hown (mvT hZ (own_w hw 126 rfl)) (mvT hZ (own_w hw 127 rfl)) (mvT hZ (own_w hw 27 rfl)) (mvT hZ (own_w hw 128 rfl)) (by decide) (backOf (W := 0) (rm30 l Z a0 hw [] t i_ (e_ - i_) kc N g nz q M h0 n0 (Nat.le_trans Z0 (Nat.le_refl _)) A3_t Hnz Hq (by have z := own_sbi He Hq (Nat.le_add_right _ _); rwa [Nat.add_sub_cancel_left] at z) HqM Hq0 HM0 HM16) hZ (own_w hw 128 rfl) (own_w hw 27 rfl) (by decide) (by decide)) (g := (mkF m 41 #[vr a, vi i_, vi e_, vi nz, vi (e_ - i_)] [(.int (e_ - i_)), (.int i_), (.ref t)])) rfl (by rw [hml]; rfl) (argsL := [(.ref t), (.int i_), (.int (e_ - i_))]) (rest := []) (lenOf pd_13 rfl) rfl (by show 2 * 0 + _ ≤ _; exact Nat.le_of_eq rfl) (hb hby d27_41) (fun _ _ => ⟨rfl, e7, (by decide : 0 + 2 ≤ _), (by decide : 0 + 20 ≤ _)⟩)
  dsimp only [Pt.U, Pt.locs, Pt.cells, Pt.slots] at X8 l8 y8 z8 st8 hQ8
  replace l8 := l8.symm
  subst l8 y8 z8
  obtain ⟨r_8, nb8, kb8, rfl, N8q, K8, u8_0, u8_1, u8_2, u8_3, u8_4⟩ := hQ8
  have N8 := Fr.app N0 N8q
  refine Goes.via st8 ?_
  have ne9 : a ≠ r_8 := Nat.ne_of_lt (Nat.lt_of_lt_of_le E0_a.lt u8_0)
  have ne10 : t ≠ r_8 := Nat.ne_of_lt (Nat.lt_of_lt_of_le A3_t.lt u8_0)
  have sz_r_8 : h0.size ≤ r_8 := Nat.le_trans (Nat.le_refl _) u8_0
  have gn_r_8 : n0 ≤ r_8 := Nat.le_trans Z0 sz_r_8
  -- u8_0 : h0.size ≤ r_8
  have ne11 : r_8 ≠ nb8 := own_ne_arr u8_1 (own_w hw 6 rfl) u8_4
  show Goes p e below _ (T8.setTop (mkF m 44 #[vr a, vi i_, vi e_, vi nz, vi (e_ - i_)] [(.ref r_8)]))
  refine Goes.via (fun _ kk_ => XS.goto X8.here hx rfl (pc0 := 44) (pc' := 57) rfl (hb hby d27_44) (by decide) (by decide) kk_) ?_
  show Goes p e below _ (T8.setTop (mkF m 57 #[vr a, vi i_, vi e_, vi nz, vi (e_ - i_)] [(.ref r_8)]))
  have K12 : Keep h0 T8.heap [] := ((Keep.refl h0 []).trans K8 all0)
  exact own_finR X8 hx hlk hret rfl rfl rfl (hb hby d27_57) (by exact ⟨r_8, nb8, kb8, rfl, N8, K12, sz_r_8, u8_1, u8_2, u8_3, u8_4⟩) (by first | decide | omega | (dsimp only; omega)) (by first | decide | omega | (dsimp only; omega))
theorem ef_rm26 (m : MethodId) (a : Addr) (i_ : Int32) : entryFrame m #[(.ref a), (.int i_)] 2 = mkF m 0 #[.val (.ref a), .val (.int i_)] [] := by first | (simp [entryFrame, mkF, argsToLocals, Value.category]; done) | rfl
def Qrm26 (Z : State) (a : Addr) (i_ : Int32) (cS : Int32) (fo : Value) (t : Addr) (kc : ClassId) (N : Nat) (g : Nat → Int32) (nz : Int32) (q : Nat) (M : Nat) (h0 : Heap) (n0 : Nat) (v_ : Option Value) (h_ : Heap) (L_ : List Loc) : Prop := ∃ r_ : Addr, ∃ nb : Addr, ∃ kb : ClassId, v_ = some (.ref r_) ∧ Fr n0 L_ ∧ Keep h0 h_ [] ∧ h0.size ≤ r_ ∧ Exa Z h_ r_ "java/lang/String" ∧ Fld Z h_ r_ "java/lang/String" "coder" "B" (.int (0 : Int32)) ∧ Fld Z h_ r_ "java/lang/String" "value" "[B" (.ref nb) ∧ Arw Z h_ nb kb .byte M (fun i => .int ((fun i => g (q + i)) i))
theorem d26_0 : decode jdk_42_method_91_code 0 = .ok (.aload_n 0, 1) := by decide +kernel
theorem d26_1 : decode jdk_42_method_91_code 1 = .ok (.iload_n 1, 1) := by decide +kernel
theorem d26_2 : decode jdk_42_method_91_code 2 = .ok (.aload_n 0, 1) := by decide +kernel
theorem d26_3 : decode jdk_42_method_91_code 3 = .ok (.invokevirtual 505, 3) := by decide +kernel
theorem pd_14 : parseMethodDescriptor "(II)Ljava/lang/String;" = some ⟨[.int, .int], some (.object "java/lang/String")⟩ := by decide +kernel
theorem d26_6 : decode jdk_42_method_91_code 6 = .ok (.invokevirtual 681, 3) := by decide +kernel
theorem d26_9 : decode jdk_42_method_91_code 9 = .ok (.areturn, 1) := by decide +kernel
set_option maxRecDepth 65536 in
set_option maxHeartbeats 40000000 in
theorem rm26 (l : Launch) (Z : State) (a0 : Array Value) (hw : ∀ d ∈ tables_1, d.before a0 Z = true) (ws : List Jvm.Cond) (a : Addr) (i_ : Int32) (cS : Int32) (fo : Value) (t : Addr) (kc : ClassId) (N : Nat) (g : Nat → Int32) (nz : Int32) (q : Nat) (M : Nat) (h0 : Heap) (n0 : Nat) (Z0 : n0 ≤ h0.size) (E0_a : Exa Z h0 a "java/lang/String") (F1_a_coder : Fld Z h0 a "java/lang/String" "coder" "B" (.int (0 : Int32))) (F2_a_value : Fld Z h0 a "java/lang/String" "value" "[B" (.ref t)) (A3_t : Arw Z h0 t kc .byte N (fun i => .int (g i))) (S4_java_lang_String_COMPACT_STRINGS_COMPACT_STRINGS : Sta Z h0 "java/lang/String" "COMPACT_STRINGS" "Z" (.int cS)) (H_cs : ¬ cS = (0 : Int32)) (S6_jdk_internal_util_Preconditions_SIOOBE_FORMATTER_SIOOBE_FORMATTER : Sta Z h0 "jdk/internal/util/Preconditions" "SIOOBE_FORMATTER" "Ljava/util/function/BiFunction;" fo) (Hfo : fo.isRef = true) (Hnz : nz.toInt = (N : Int)) (Hq : i_.toInt = (q : Int)) (Hq0 : 0 < q) (HM0 : 0 < M) (HM16 : M ≤ 16) (HqM : q + M = N) :
    MetFree l (⟨"java/lang/String", "substring", "(I)Ljava/lang/String;"⟩ : MethodName) (head1 (Jvm.Cond.code (⟨"java/lang/String", "substring", "(I)Ljava/lang/String;"⟩ : MethodName) jdk_42_method_91_code 2 (some (.object "java/lang/String")) :: ws) ({ frames := 5, cells := 2, slots := 20, locals := 98 } : Room)) (fun as_ U_ => as_ = #[(.ref a), (.int i_)] ∧ Z.Warmed39 U_.vm ∧ U_.heap = h0) (fun _ _ _ _ _ => True) (fun _ U_ o_ V_ => ∃ v_ L_, o_ = .returned v_ ∧ Qrm26 Z a i_ cS fo t kc N g nz q M h0 n0 v_ V_.heap L_ ∧ FrameEnd U_ o_ V_ L_ ({ frames := 5, cells := 2, slots := 20, locals := 98 } : Room).cells ({ frames := 5, cells := 2, slots := 20, locals := 98 } : Room).slots) := by
  refine MetFree.of_bodySF (plainFor_of_name pn_java_lang_String) hisR ?_
  intro p e s m args below meth c s₁ Bd hml0 hP hK
  obtain ⟨rfl, hZ, hh⟩ := hP
  have hx := Bd.exec
  have hby := Bd.bytes
  have hlk : meth.locks = false := BodyLoose.notSynchronized Bd
  have hret := Bd.returns
  have hml : c.maxLocals = 2 := hml0
  have hown : s.vm.findClass "java/lang/String" = some m.cls := findClass_of_methodNamed Bd.named
  have hnm := (name_of_methodNamed Bd.named Bd.method).1
  have X0 : Stand p l e ({ frames := 5, cells := 2, slots := 20, locals := 98 } : Room) s m #[(.ref a), (.int i_)] below meth c s₁ [] 0 0 := Stand.of_body Bd
  have e0 : s₁.heap = h0 := by rw [← hh, Bd.state]; rfl
  have N0 := Fr.nil n0
  show Goes p e below (Fin_ s (Qrm26 Z a i_ cS fo t kc N g nz q M h0 n0) ({ frames := 5, cells := 2, slots := 20, locals := 98 } : Room).cells ({ frames := 5, cells := 2, slots := 20, locals := 98 } : Room).slots) (s₁.setTop (entryFrame m #[(.ref a), (.int i_)] 2))
  rw [ef_rm26 m a i_]
  have ne1 : a ≠ t := own_ne_arr E0_a (own_w hw 6 rfl) A3_t
  refine gALN X0 hx hby d26_0 rfl rfl ?_
  refine gILN X0 hx hby d26_1 rfl ?_
  refine gALN X0 hx hby d26_2 rfl rfl ?_
  obtain ⟨cq2, kq2, q2a, q2b, q2c⟩ := isOf hZ e0 E0_a
  obtain ⟨_, _, ⟨T2, L2, k2, n2⟩, -, X2, ⟨Lc2, hQ2, l2, y2, z2⟩, st2⟩ := X0.virtualBack hx (y := (⟨"java/lang/String", "length", "()I"⟩ : MethodName)) (z := (⟨"java/lang/String", "length", "()I"⟩ : MethodName)) hown (mvT hZ (own_w hw 89 rfl)) (mvT hZ (own_w hw 90 rfl)) (notFace_of_selects (args := #[]) (mvT hZ (own_w hw 92 rfl))) (mvT hZ (own_w hw 92 rfl)) (mvT hZ (own_w hw 91 rfl)) (by decide) (backOf (W := 2) (rm20 l Z a0 hw [] a nz cS t kc N g h0 n0 (Nat.le_trans Z0 (Nat.le_refl _)) E0_a F1_a_coder F2_a_value A3_t S4_java_lang_String_COMPACT_STRINGS_COMPACT_STRINGS H_cs Hnz) hZ (own_w hw 93 rfl) (own_w hw 5 rfl) (by decide) (by decide)) q2a q2c (g := (mkF m 3 #[vr a, vi i_] [(.ref a), (.int i_), (.ref a)])) rfl (by rw [hml]; rfl) (Steps.refl _) (argsL := []) (rest := [(.int i_), (.ref a)]) (lenOf pd_8 rfl) rfl (by show 2 * 0 + _ ≤ _; exact Nat.le_of_eq rfl) (hb hby d26_3) (fun _ _ => ⟨rfl, e0, (by decide : 0 + 0 ≤ _), (by decide : 0 + 0 ≤ _)⟩)
  dsimp only [Pt.U, Pt.locs, Pt.cells, Pt.slots] at X2 l2 y2 z2 st2 hQ2
  replace l2 := l2.symm
  subst l2 y2 z2
  obtain ⟨rfl, rfl, e2⟩ := hQ2
  first | rw [List.append_nil] at X2 | skip
  refine Goes.tr st2 ?_
  have e2' : T2.heap = h0 := e2
  show Goes p e below _ (T2.setTop (mkF m 6 #[vr a, vi i_] [(.int nz), (.int i_), (.ref a)]))
  obtain ⟨cq3, kq3, q3a, q3b, q3c⟩ := isOf hZ e2' E0_a
  obtain ⟨_, _, ⟨T3, L3, k3, n3⟩, -, X3, ⟨Lc3, hQ3, l3, y3, z3⟩, st3⟩ := X2.virtualBack hx (y := (⟨"java/lang/String", "substring", "(II)Ljava/lang/String;"⟩ : MethodName)) (z := (⟨"java/lang/String", "substring", "(II)Ljava/lang/String;"⟩ : MethodName)) hown (mvT hZ (own_w hw 115 rfl)) (mvT hZ (own_w hw 116 rfl)) (notFace_of_selects (args := #[]) (mvT hZ (own_w hw 118 rfl))) (mvT hZ (own_w hw 118 rfl)) (mvT hZ (own_w hw 117 rfl)) (by decide) (backOf (W := 0) (rm27 l Z a0 hw [] a i_ nz cS fo t kc N g nz q M h0 n0 (Nat.le_trans Z0 (Nat.le_refl _)) E0_a F1_a_coder F2_a_value A3_t S4_java_lang_String_COMPACT_STRINGS_COMPACT_STRINGS H_cs S6_jdk_internal_util_Preconditions_SIOOBE_FORMATTER_SIOOBE_FORMATTER Hfo Hnz Hq (by rw [HqM]; exact Hnz) (Nat.le_of_eq HqM) Hq0 HM0 HM16) hZ (own_w hw 119 rfl) (own_w hw 5 rfl) (by decide) (by decide)) q3a q3c (g := (mkF m 6 #[vr a, vi i_] [(.int nz), (.int i_), (.ref a)])) rfl (by rw [hml]; rfl) (Steps.refl _) (argsL := [(.int i_), (.int nz)]) (rest := []) (lenOf pd_14 rfl) rfl (by show 2 * 0 + _ ≤ _; exact Nat.le_of_eq rfl) (hb hby d26_6) (fun _ _ => ⟨rfl, e2', (by decide : 0 + 2 ≤ _), (by decide : 0 + 20 ≤ _)⟩)
  dsimp only [Pt.U, Pt.locs, Pt.cells, Pt.slots] at X3 l3 y3 z3 st3 hQ3
  replace l3 := l3.symm
  subst l3 y3 z3
  obtain ⟨r_3, nb3, kb3, rfl, N3q, K3, u3_0, u3_1, u3_2, u3_3, u3_4⟩ := hQ3
  have N3 := Fr.app N0 N3q
  refine Goes.tr st3 ?_
  have ne4 : a ≠ r_3 := Nat.ne_of_lt (Nat.lt_of_lt_of_le E0_a.lt u3_0)
  have ne5 : t ≠ r_3 := Nat.ne_of_lt (Nat.lt_of_lt_of_le A3_t.lt u3_0)
  have sz_r_3 : h0.size ≤ r_3 := Nat.le_trans (Nat.le_refl _) u3_0
  have gn_r_3 : n0 ≤ r_3 := Nat.le_trans Z0 sz_r_3
  -- u3_0 : h0.size ≤ r_3
  have ne6 : r_3 ≠ nb3 := own_ne_arr u3_1 (own_w hw 6 rfl) u3_4
  show Goes p e below _ (T3.setTop (mkF m 9 #[vr a, vi i_] [(.ref r_3)]))
  have K7 : Keep h0 T3.heap [] := ((Keep.refl h0 []).trans K3 all0)
  exact own_finR X3 hx hlk hret rfl rfl rfl (hb hby d26_9) (by exact ⟨r_3, nb3, kb3, rfl, N3, K7, sz_r_3, u3_1, u3_2, u3_3, u3_4⟩) (by first | decide | omega | (dsimp only; omega)) (by first | decide | omega | (dsimp only; omega))
def own_gP : Nat → Int32 := fun i => ([58, 47, 47] : List Int32).getD i 0
theorem ef_rmS4 (m : MethodId) (b : Addr) (b2 : Addr) : entryFrame m #[(.ref b), (.int (16 : Int32)), (.ref b2), (.int (3 : Int32)), (.int (0 : Int32))] 11 = mkF m 0 #[.val (.ref b), .val (.int (16 : Int32)), .val (.ref b2), .val (.int (3 : Int32)), .val (.int (0 : Int32)), .unset, .unset, .unset, .unset, .unset, .unset] [] := by first | (simp [entryFrame, mkF, argsToLocals, Value.category]; done) | rfl
def QrmS4 (Z : State) (b : Addr) (b2 : Addr) (kc : ClassId) (kd : ClassId) (g : Nat → Int32) (h0 : Heap) (n0 : Nat) (v_ : Option Value) (h_ : Heap) (L_ : List Loc) : Prop := v_ = some (.int (4 : Int32)) ∧ L_ = [] ∧ h_ = h0
theorem d18_0 : decode jdk_43_method_25_code 0 = .ok (.aload_n 2, 1) := by decide +kernel
theorem d18_1 : decode jdk_43_method_25_code 1 = .ok (.iconst 0, 1) := by decide +kernel
theorem d18_2 : decode jdk_43_method_25_code 2 = .ok (.baload, 1) := by decide +kernel
theorem d18_3 : decode jdk_43_method_25_code 3 = .ok (.istore 5, 2) := by decide +kernel
theorem d18_5 : decode jdk_43_method_25_code 5 = .ok (.iload_n 1, 1) := by decide +kernel
theorem d18_6 : decode jdk_43_method_25_code 6 = .ok (.iload_n 3, 1) := by decide +kernel
theorem d18_7 : decode jdk_43_method_25_code 7 = .ok (.isub, 1) := by decide +kernel
theorem d18_8 : decode jdk_43_method_25_code 8 = .ok (.istore 6, 2) := by decide +kernel
theorem d18_10 : decode jdk_43_method_25_code 10 = .ok (.iload 4, 2) := by decide +kernel
theorem d18_12 : decode jdk_43_method_25_code 12 = .ok (.istore 7, 2) := by decide +kernel
theorem d18_14 : decode jdk_43_method_25_code 14 = .ok (.iload 7, 2) := by decide +kernel
theorem d18_16 : decode jdk_43_method_25_code 16 = .ok (.iload 6, 2) := by decide +kernel
theorem d18_18 : decode jdk_43_method_25_code 18 = .ok (.if_icmp .gt 101, 3) := by decide +kernel
theorem d18_21 : decode jdk_43_method_25_code 21 = .ok (.aload_n 0, 1) := by decide +kernel
theorem d18_22 : decode jdk_43_method_25_code 22 = .ok (.iload 7, 2) := by decide +kernel
theorem d18_24 : decode jdk_43_method_25_code 24 = .ok (.baload, 1) := by decide +kernel
theorem d18_25 : decode jdk_43_method_25_code 25 = .ok (.iload 5, 2) := by decide +kernel
theorem d18_27 : decode jdk_43_method_25_code 27 = .ok (.if_icmp .eq 25, 3) := by decide +kernel
theorem d18_30 : decode jdk_43_method_25_code 30 = .ok (.iinc 7 1, 3) := by decide +kernel
theorem d18_33 : decode jdk_43_method_25_code 33 = .ok (.iload 7, 2) := by decide +kernel
theorem d18_35 : decode jdk_43_method_25_code 35 = .ok (.iload 6, 2) := by decide +kernel
theorem d18_37 : decode jdk_43_method_25_code 37 = .ok (.if_icmp .gt 15, 3) := by decide +kernel
theorem d18_40 : decode jdk_43_method_25_code 40 = .ok (.aload_n 0, 1) := by decide +kernel
theorem d18_41 : decode jdk_43_method_25_code 41 = .ok (.iload 7, 2) := by decide +kernel
theorem d18_43 : decode jdk_43_method_25_code 43 = .ok (.baload, 1) := by decide +kernel
theorem d18_44 : decode jdk_43_method_25_code 44 = .ok (.iload 5, 2) := by decide +kernel
theorem d18_46 : decode jdk_43_method_25_code 46 = .ok (.if_icmp .eq 6, 3) := by decide +kernel
theorem d18_49 : decode jdk_43_method_25_code 49 = .ok (.goto (-19), 3) := by decide +kernel
theorem d18_52 : decode jdk_43_method_25_code 52 = .ok (.iload 7, 2) := by decide +kernel
theorem d18_54 : decode jdk_43_method_25_code 54 = .ok (.iload 6, 2) := by decide +kernel
theorem d18_56 : decode jdk_43_method_25_code 56 = .ok (.if_icmp .gt 57, 3) := by decide +kernel
theorem d18_59 : decode jdk_43_method_25_code 59 = .ok (.iload 7, 2) := by decide +kernel
theorem d18_61 : decode jdk_43_method_25_code 61 = .ok (.iconst 1, 1) := by decide +kernel
theorem d18_62 : decode jdk_43_method_25_code 62 = .ok (.iadd, 1) := by decide +kernel
theorem d18_63 : decode jdk_43_method_25_code 63 = .ok (.istore 8, 2) := by decide +kernel
theorem d18_65 : decode jdk_43_method_25_code 65 = .ok (.iload 8, 2) := by decide +kernel
theorem d18_67 : decode jdk_43_method_25_code 67 = .ok (.iload_n 3, 1) := by decide +kernel
theorem d18_68 : decode jdk_43_method_25_code 68 = .ok (.iadd, 1) := by decide +kernel
theorem d18_69 : decode jdk_43_method_25_code 69 = .ok (.iconst 1, 1) := by decide +kernel
theorem d18_70 : decode jdk_43_method_25_code 70 = .ok (.isub, 1) := by decide +kernel
theorem d18_71 : decode jdk_43_method_25_code 71 = .ok (.istore 9, 2) := by decide +kernel
theorem d18_73 : decode jdk_43_method_25_code 73 = .ok (.iconst 1, 1) := by decide +kernel
theorem d18_74 : decode jdk_43_method_25_code 74 = .ok (.istore 10, 2) := by decide +kernel
theorem d18_76 : decode jdk_43_method_25_code 76 = .ok (.iload 8, 2) := by decide +kernel
theorem d18_78 : decode jdk_43_method_25_code 78 = .ok (.iload 9, 2) := by decide +kernel
theorem d18_80 : decode jdk_43_method_25_code 80 = .ok (.if_icmp .ge 23, 3) := by decide +kernel
theorem d18_83 : decode jdk_43_method_25_code 83 = .ok (.aload_n 0, 1) := by decide +kernel
theorem d18_84 : decode jdk_43_method_25_code 84 = .ok (.iload 8, 2) := by decide +kernel
theorem d18_86 : decode jdk_43_method_25_code 86 = .ok (.baload, 1) := by decide +kernel
theorem d18_87 : decode jdk_43_method_25_code 87 = .ok (.aload_n 2, 1) := by decide +kernel
theorem d18_88 : decode jdk_43_method_25_code 88 = .ok (.iload 10, 2) := by decide +kernel
theorem d18_90 : decode jdk_43_method_25_code 90 = .ok (.baload, 1) := by decide +kernel
theorem d18_91 : decode jdk_43_method_25_code 91 = .ok (.if_icmp .ne 12, 3) := by decide +kernel
theorem d18_94 : decode jdk_43_method_25_code 94 = .ok (.iinc 8 1, 3) := by decide +kernel
theorem d18_97 : decode jdk_43_method_25_code 97 = .ok (.iinc 10 1, 3) := by decide +kernel
theorem d18_100 : decode jdk_43_method_25_code 100 = .ok (.goto (-24), 3) := by decide +kernel
theorem d18_103 : decode jdk_43_method_25_code 103 = .ok (.iload 8, 2) := by decide +kernel
theorem d18_105 : decode jdk_43_method_25_code 105 = .ok (.iload 9, 2) := by decide +kernel
theorem d18_107 : decode jdk_43_method_25_code 107 = .ok (.if_icmp .ne 6, 3) := by decide +kernel
theorem d18_110 : decode jdk_43_method_25_code 110 = .ok (.iload 7, 2) := by decide +kernel
theorem d18_112 : decode jdk_43_method_25_code 112 = .ok (.ireturn, 1) := by decide +kernel
set_option maxRecDepth 65536 in
set_option maxHeartbeats 40000000 in
theorem rmS4 (l : Launch) (Z : State) (a0 : Array Value) (hw : ∀ d ∈ tables_1, d.before a0 Z = true) (ws : List Jvm.Cond) (b : Addr) (b2 : Addr) (kc : ClassId) (kd : ClassId) (g : Nat → Int32) (h0 : Heap) (n0 : Nat) (Z0 : n0 ≤ h0.size) (A0_b : Arw Z h0 b kc .byte 16 (fun i => .int (g i))) (A1_b2 : Arw Z h0 b2 kd .byte 3 (fun i => .int (own_gP i))) (Hn0 : g 0 ≠ (58 : Int32)) (Hn1 : g 1 ≠ (58 : Int32)) (Hn2 : g 2 ≠ (58 : Int32)) (Hn3 : g 3 ≠ (58 : Int32)) (Hp0 : g 4 = (58 : Int32)) (Hp1 : g 5 = (47 : Int32)) (Hp2 : g 6 = (47 : Int32)) :
    MetFree l (⟨"java/lang/StringLatin1", "indexOf", "([BI[BII)I"⟩ : MethodName) (head1 (Jvm.Cond.code (⟨"java/lang/StringLatin1", "indexOf", "([BI[BII)I"⟩ : MethodName) jdk_43_method_25_code 11 (some .int) :: ws) ({ frames := 0, cells := 0, slots := 0, locals := 0 } : Room)) (fun as_ U_ => as_ = #[(.ref b), (.int (16 : Int32)), (.ref b2), (.int (3 : Int32)), (.int (0 : Int32))] ∧ Z.Warmed39 U_.vm ∧ U_.heap = h0) (fun _ _ _ _ _ => True) (fun _ U_ o_ V_ => ∃ v_ L_, o_ = .returned v_ ∧ QrmS4 Z b b2 kc kd g h0 n0 v_ V_.heap L_ ∧ FrameEnd U_ o_ V_ L_ ({ frames := 0, cells := 0, slots := 0, locals := 0 } : Room).cells ({ frames := 0, cells := 0, slots := 0, locals := 0 } : Room).slots) := by
  refine MetFree.of_bodySF (plainFor_of_name pn_java_lang_StringLatin1) hisR ?_
  intro p e s m args below meth c s₁ Bd hml0 hP hK
  obtain ⟨rfl, hZ, hh⟩ := hP
  have hx := Bd.exec
  have hby := Bd.bytes
  have hlk : meth.locks = false := BodyLoose.notSynchronized Bd
  have hret := Bd.returns
  have hml : c.maxLocals = 11 := hml0
  have hown : s.vm.findClass "java/lang/StringLatin1" = some m.cls := findClass_of_methodNamed Bd.named
  have hnm := (name_of_methodNamed Bd.named Bd.method).1
  have X0 : Stand p l e ({ frames := 0, cells := 0, slots := 0, locals := 0 } : Room) s m #[(.ref b), (.int (16 : Int32)), (.ref b2), (.int (3 : Int32)), (.int (0 : Int32))] below meth c s₁ [] 0 0 := Stand.of_body Bd
  have e0 : s₁.heap = h0 := by rw [← hh, Bd.state]; rfl
  have N0 := Fr.nil n0
  show Goes p e below (Fin_ s (QrmS4 Z b b2 kc kd g h0 n0) ({ frames := 0, cells := 0, slots := 0, locals := 0 } : Room).cells ({ frames := 0, cells := 0, slots := 0, locals := 0 } : Room).slots) (s₁.setTop (entryFrame m #[(.ref b), (.int (16 : Int32)), (.ref b2), (.int (3 : Int32)), (.int (0 : Int32))] 11))
  rw [ef_rmS4 m b b2]
  refine gALN X0 hx hby d18_0 rfl rfl ?_
  refine gIC (z := 0) X0 hx hby d18_1 rfl ?_
  refine Goes.via (own_baload X0 hx hZ e0 A1_b2 (j := (0 : Int32)) (i := 0) (by decide) (by decide) (by decide) (v := (own_gP 0)) rfl (g := (mkF m 2 #[vr b, vi (16 : Int32), vr b2, vi (3 : Int32), vi (0 : Int32), .unset, .unset, .unset, .unset, .unset, .unset] [(.int (0 : Int32)), (.ref b2)])) rfl rfl (hb hby d18_2)) ?_
  show Goes p e below _ (s₁.setTop (mkF m 3 #[vr b, vi (16 : Int32), vr b2, vi (3 : Int32), vi (0 : Int32), .unset, .unset, .unset, .unset, .unset, .unset] [(.int (own_gP 0))]))
  refine Goes.via (fun _ kk_ => XS.istore X0.here hx rfl (hb hby d18_3) rfl (l' := #[vr b, vi (16 : Int32), vr b2, vi (3 : Int32), vi (0 : Int32), vi (own_gP 0), .unset, .unset, .unset, .unset, .unset]) rfl kk_) ?_
  show Goes p e below _ (s₁.setTop (mkF m 5 #[vr b, vi (16 : Int32), vr b2, vi (3 : Int32), vi (0 : Int32), vi (own_gP 0), .unset, .unset, .unset, .unset, .unset] []))
  refine gILN X0 hx hby d18_5 rfl ?_
  refine gILN X0 hx hby d18_6 rfl ?_
  refine Goes.via (fun _ kk_ => XS.isub X0.here hx rfl (hb hby d18_7) rfl kk_) ?_
  show Goes p e below _ (s₁.setTop (mkF m 8 #[vr b, vi (16 : Int32), vr b2, vi (3 : Int32), vi (0 : Int32), vi (own_gP 0), .unset, .unset, .unset, .unset, .unset] [(.int ((16 : Int32) - (3 : Int32)))]))
  rw [show ((16 : Int32) - (3 : Int32)) = (13 : Int32) from by decide]
  show Goes p e below _ (s₁.setTop (mkF m 8 #[vr b, vi (16 : Int32), vr b2, vi (3 : Int32), vi (0 : Int32), vi (own_gP 0), .unset, .unset, .unset, .unset, .unset] [(.int (13 : Int32))]))
  refine Goes.via (fun _ kk_ => XS.istore X0.here hx rfl (hb hby d18_8) rfl (l' := #[vr b, vi (16 : Int32), vr b2, vi (3 : Int32), vi (0 : Int32), vi (own_gP 0), vi (13 : Int32), .unset, .unset, .unset, .unset]) rfl kk_) ?_
  show Goes p e below _ (s₁.setTop (mkF m 10 #[vr b, vi (16 : Int32), vr b2, vi (3 : Int32), vi (0 : Int32), vi (own_gP 0), vi (13 : Int32), .unset, .unset, .unset, .unset] []))
  refine gIL X0 hx hby d18_10 rfl ?_
  refine Goes.via (fun _ kk_ => XS.istore X0.here hx rfl (hb hby d18_12) rfl (l' := #[vr b, vi (16 : Int32), vr b2, vi (3 : Int32), vi (0 : Int32), vi (own_gP 0), vi (13 : Int32), vi (0 : Int32), .unset, .unset, .unset]) rfl kk_) ?_
  show Goes p e below _ (s₁.setTop (mkF m 14 #[vr b, vi (16 : Int32), vr b2, vi (3 : Int32), vi (0 : Int32), vi (own_gP 0), vi (13 : Int32), vi (0 : Int32), .unset, .unset, .unset] []))
  refine gIL X0 hx hby d18_14 rfl ?_
  refine gIL X0 hx hby d18_16 rfl ?_
  have hc18_1 : ¬ ((13 : Int32) < (0 : Int32)) := (by decide)
  refine Goes.via (fun _ kk_ => XS.icmpNo X0.here hx rfl (hb hby d18_18) rfl (flt hc18_1).2.2.1 kk_) ?_
  show Goes p e below _ (s₁.setTop (mkF m 21 #[vr b, vi (16 : Int32), vr b2, vi (3 : Int32), vi (0 : Int32), vi (own_gP 0), vi (13 : Int32), vi (0 : Int32), .unset, .unset, .unset] []))
  refine gALN X0 hx hby d18_21 rfl rfl ?_
  refine gIL X0 hx hby d18_22 rfl ?_
  refine Goes.via (own_baload X0 hx hZ e0 A0_b (j := (0 : Int32)) (i := 0) (by decide) (by decide) (by decide) (v := (g 0)) rfl (g := (mkF m 24 #[vr b, vi (16 : Int32), vr b2, vi (3 : Int32), vi (0 : Int32), vi (own_gP 0), vi (13 : Int32), vi (0 : Int32), .unset, .unset, .unset] [(.int (0 : Int32)), (.ref b)])) rfl rfl (hb hby d18_24)) ?_
  show Goes p e below _ (s₁.setTop (mkF m 25 #[vr b, vi (16 : Int32), vr b2, vi (3 : Int32), vi (0 : Int32), vi (own_gP 0), vi (13 : Int32), vi (0 : Int32), .unset, .unset, .unset] [(.int (g 0))]))
  refine gIL X0 hx hby d18_25 rfl ?_
  have hc27_2 : ¬ ((g 0) = (own_gP 0)) := Hn0
  refine Goes.via (fun _ kk_ => XS.icmpNo X0.here hx rfl (hb hby d18_27) rfl (feq hc27_2).1 kk_) ?_
  show Goes p e below _ (s₁.setTop (mkF m 30 #[vr b, vi (16 : Int32), vr b2, vi (3 : Int32), vi (0 : Int32), vi (own_gP 0), vi (13 : Int32), vi (0 : Int32), .unset, .unset, .unset] []))
  refine Goes.via (fun _ kk_ => XS.iinc X0.here hx rfl (hb hby d18_30) rfl (l' := #[vr b, vi (16 : Int32), vr b2, vi (3 : Int32), vi (0 : Int32), vi (own_gP 0), vi (13 : Int32), vi ((0 : Int32) + (1 : Int32)), .unset, .unset, .unset]) rfl kk_) ?_
  show Goes p e below _ (s₁.setTop (mkF m 33 #[vr b, vi (16 : Int32), vr b2, vi (3 : Int32), vi (0 : Int32), vi (own_gP 0), vi (13 : Int32), vi ((0 : Int32) + (1 : Int32)), .unset, .unset, .unset] []))
  rw [show ((0 : Int32) + (1 : Int32)) = (1 : Int32) from by decide]
  show Goes p e below _ (s₁.setTop (mkF m 33 #[vr b, vi (16 : Int32), vr b2, vi (3 : Int32), vi (0 : Int32), vi (own_gP 0), vi (13 : Int32), vi (1 : Int32), .unset, .unset, .unset] []))
  refine gIL X0 hx hby d18_33 rfl ?_
  refine gIL X0 hx hby d18_35 rfl ?_
  have hc37_3 : ¬ ((13 : Int32) < (1 : Int32)) := (by decide)
  refine Goes.via (fun _ kk_ => XS.icmpNo X0.here hx rfl (hb hby d18_37) rfl (flt hc37_3).2.2.1 kk_) ?_
  show Goes p e below _ (s₁.setTop (mkF m 40 #[vr b, vi (16 : Int32), vr b2, vi (3 : Int32), vi (0 : Int32), vi (own_gP 0), vi (13 : Int32), vi (1 : Int32), .unset, .unset, .unset] []))
  refine gALN X0 hx hby d18_40 rfl rfl ?_
  refine gIL X0 hx hby d18_41 rfl ?_
  refine Goes.via (own_baload X0 hx hZ e0 A0_b (j := (1 : Int32)) (i := 1) (by decide) (by decide) (by decide) (v := (g 1)) rfl (g := (mkF m 43 #[vr b, vi (16 : Int32), vr b2, vi (3 : Int32), vi (0 : Int32), vi (own_gP 0), vi (13 : Int32), vi (1 : Int32), .unset, .unset, .unset] [(.int (1 : Int32)), (.ref b)])) rfl rfl (hb hby d18_43)) ?_
  show Goes p e below _ (s₁.setTop (mkF m 44 #[vr b, vi (16 : Int32), vr b2, vi (3 : Int32), vi (0 : Int32), vi (own_gP 0), vi (13 : Int32), vi (1 : Int32), .unset, .unset, .unset] [(.int (g 1))]))
  refine gIL X0 hx hby d18_44 rfl ?_
  have hc46_4 : ¬ ((g 1) = (own_gP 0)) := Hn1
  refine Goes.via (fun _ kk_ => XS.icmpNo X0.here hx rfl (hb hby d18_46) rfl (feq hc46_4).1 kk_) ?_
  show Goes p e below _ (s₁.setTop (mkF m 49 #[vr b, vi (16 : Int32), vr b2, vi (3 : Int32), vi (0 : Int32), vi (own_gP 0), vi (13 : Int32), vi (1 : Int32), .unset, .unset, .unset] []))
  refine Goes.via (fun _ kk_ => XS.goto X0.here hx rfl (pc0 := 49) (pc' := 30) rfl (hb hby d18_49) (by decide) (by decide) kk_) ?_
  show Goes p e below _ (s₁.setTop (mkF m 30 #[vr b, vi (16 : Int32), vr b2, vi (3 : Int32), vi (0 : Int32), vi (own_gP 0), vi (13 : Int32), vi (1 : Int32), .unset, .unset, .unset] []))
  refine Goes.via (fun _ kk_ => XS.iinc X0.here hx rfl (hb hby d18_30) rfl (l' := #[vr b, vi (16 : Int32), vr b2, vi (3 : Int32), vi (0 : Int32), vi (own_gP 0), vi (13 : Int32), vi ((1 : Int32) + (1 : Int32)), .unset, .unset, .unset]) rfl kk_) ?_
  show Goes p e below _ (s₁.setTop (mkF m 33 #[vr b, vi (16 : Int32), vr b2, vi (3 : Int32), vi (0 : Int32), vi (own_gP 0), vi (13 : Int32), vi ((1 : Int32) + (1 : Int32)), .unset, .unset, .unset] []))
  rw [show ((1 : Int32) + (1 : Int32)) = (2 : Int32) from by decide]
  show Goes p e below _ (s₁.setTop (mkF m 33 #[vr b, vi (16 : Int32), vr b2, vi (3 : Int32), vi (0 : Int32), vi (own_gP 0), vi (13 : Int32), vi (2 : Int32), .unset, .unset, .unset] []))
  refine gIL X0 hx hby d18_33 rfl ?_
  refine gIL X0 hx hby d18_35 rfl ?_
  have hc37_5 : ¬ ((13 : Int32) < (2 : Int32)) := (by decide)
  refine Goes.via (fun _ kk_ => XS.icmpNo X0.here hx rfl (hb hby d18_37) rfl (flt hc37_5).2.2.1 kk_) ?_
  show Goes p e below _ (s₁.setTop (mkF m 40 #[vr b, vi (16 : Int32), vr b2, vi (3 : Int32), vi (0 : Int32), vi (own_gP 0), vi (13 : Int32), vi (2 : Int32), .unset, .unset, .unset] []))
  refine gALN X0 hx hby d18_40 rfl rfl ?_
  refine gIL X0 hx hby d18_41 rfl ?_
  refine Goes.via (own_baload X0 hx hZ e0 A0_b (j := (2 : Int32)) (i := 2) (by decide) (by decide) (by decide) (v := (g 2)) rfl (g := (mkF m 43 #[vr b, vi (16 : Int32), vr b2, vi (3 : Int32), vi (0 : Int32), vi (own_gP 0), vi (13 : Int32), vi (2 : Int32), .unset, .unset, .unset] [(.int (2 : Int32)), (.ref b)])) rfl rfl (hb hby d18_43)) ?_
  show Goes p e below _ (s₁.setTop (mkF m 44 #[vr b, vi (16 : Int32), vr b2, vi (3 : Int32), vi (0 : Int32), vi (own_gP 0), vi (13 : Int32), vi (2 : Int32), .unset, .unset, .unset] [(.int (g 2))]))
  refine gIL X0 hx hby d18_44 rfl ?_
  have hc46_6 : ¬ ((g 2) = (own_gP 0)) := Hn2
  refine Goes.via (fun _ kk_ => XS.icmpNo X0.here hx rfl (hb hby d18_46) rfl (feq hc46_6).1 kk_) ?_
  show Goes p e below _ (s₁.setTop (mkF m 49 #[vr b, vi (16 : Int32), vr b2, vi (3 : Int32), vi (0 : Int32), vi (own_gP 0), vi (13 : Int32), vi (2 : Int32), .unset, .unset, .unset] []))
  refine Goes.via (fun _ kk_ => XS.goto X0.here hx rfl (pc0 := 49) (pc' := 30) rfl (hb hby d18_49) (by decide) (by decide) kk_) ?_
  show Goes p e below _ (s₁.setTop (mkF m 30 #[vr b, vi (16 : Int32), vr b2, vi (3 : Int32), vi (0 : Int32), vi (own_gP 0), vi (13 : Int32), vi (2 : Int32), .unset, .unset, .unset] []))
  refine Goes.via (fun _ kk_ => XS.iinc X0.here hx rfl (hb hby d18_30) rfl (l' := #[vr b, vi (16 : Int32), vr b2, vi (3 : Int32), vi (0 : Int32), vi (own_gP 0), vi (13 : Int32), vi ((2 : Int32) + (1 : Int32)), .unset, .unset, .unset]) rfl kk_) ?_
  show Goes p e below _ (s₁.setTop (mkF m 33 #[vr b, vi (16 : Int32), vr b2, vi (3 : Int32), vi (0 : Int32), vi (own_gP 0), vi (13 : Int32), vi ((2 : Int32) + (1 : Int32)), .unset, .unset, .unset] []))
  rw [show ((2 : Int32) + (1 : Int32)) = (3 : Int32) from by decide]
  show Goes p e below _ (s₁.setTop (mkF m 33 #[vr b, vi (16 : Int32), vr b2, vi (3 : Int32), vi (0 : Int32), vi (own_gP 0), vi (13 : Int32), vi (3 : Int32), .unset, .unset, .unset] []))
  refine gIL X0 hx hby d18_33 rfl ?_
  refine gIL X0 hx hby d18_35 rfl ?_
  have hc37_7 : ¬ ((13 : Int32) < (3 : Int32)) := (by decide)
  refine Goes.via (fun _ kk_ => XS.icmpNo X0.here hx rfl (hb hby d18_37) rfl (flt hc37_7).2.2.1 kk_) ?_
  show Goes p e below _ (s₁.setTop (mkF m 40 #[vr b, vi (16 : Int32), vr b2, vi (3 : Int32), vi (0 : Int32), vi (own_gP 0), vi (13 : Int32), vi (3 : Int32), .unset, .unset, .unset] []))
  refine gALN X0 hx hby d18_40 rfl rfl ?_
  refine gIL X0 hx hby d18_41 rfl ?_
  refine Goes.via (own_baload X0 hx hZ e0 A0_b (j := (3 : Int32)) (i := 3) (by decide) (by decide) (by decide) (v := (g 3)) rfl (g := (mkF m 43 #[vr b, vi (16 : Int32), vr b2, vi (3 : Int32), vi (0 : Int32), vi (own_gP 0), vi (13 : Int32), vi (3 : Int32), .unset, .unset, .unset] [(.int (3 : Int32)), (.ref b)])) rfl rfl (hb hby d18_43)) ?_
  show Goes p e below _ (s₁.setTop (mkF m 44 #[vr b, vi (16 : Int32), vr b2, vi (3 : Int32), vi (0 : Int32), vi (own_gP 0), vi (13 : Int32), vi (3 : Int32), .unset, .unset, .unset] [(.int (g 3))]))
  refine gIL X0 hx hby d18_44 rfl ?_
  have hc46_8 : ¬ ((g 3) = (own_gP 0)) := Hn3
  refine Goes.via (fun _ kk_ => XS.icmpNo X0.here hx rfl (hb hby d18_46) rfl (feq hc46_8).1 kk_) ?_
  show Goes p e below _ (s₁.setTop (mkF m 49 #[vr b, vi (16 : Int32), vr b2, vi (3 : Int32), vi (0 : Int32), vi (own_gP 0), vi (13 : Int32), vi (3 : Int32), .unset, .unset, .unset] []))
  refine Goes.via (fun _ kk_ => XS.goto X0.here hx rfl (pc0 := 49) (pc' := 30) rfl (hb hby d18_49) (by decide) (by decide) kk_) ?_
  show Goes p e below _ (s₁.setTop (mkF m 30 #[vr b, vi (16 : Int32), vr b2, vi (3 : Int32), vi (0 : Int32), vi (own_gP 0), vi (13 : Int32), vi (3 : Int32), .unset, .unset, .unset] []))
  refine Goes.via (fun _ kk_ => XS.iinc X0.here hx rfl (hb hby d18_30) rfl (l' := #[vr b, vi (16 : Int32), vr b2, vi (3 : Int32), vi (0 : Int32), vi (own_gP 0), vi (13 : Int32), vi ((3 : Int32) + (1 : Int32)), .unset, .unset, .unset]) rfl kk_) ?_
  show Goes p e below _ (s₁.setTop (mkF m 33 #[vr b, vi (16 : Int32), vr b2, vi (3 : Int32), vi (0 : Int32), vi (own_gP 0), vi (13 : Int32), vi ((3 : Int32) + (1 : Int32)), .unset, .unset, .unset] []))
  rw [show ((3 : Int32) + (1 : Int32)) = (4 : Int32) from by decide]
  show Goes p e below _ (s₁.setTop (mkF m 33 #[vr b, vi (16 : Int32), vr b2, vi (3 : Int32), vi (0 : Int32), vi (own_gP 0), vi (13 : Int32), vi (4 : Int32), .unset, .unset, .unset] []))
  refine gIL X0 hx hby d18_33 rfl ?_
  refine gIL X0 hx hby d18_35 rfl ?_
  have hc37_9 : ¬ ((13 : Int32) < (4 : Int32)) := (by decide)
  refine Goes.via (fun _ kk_ => XS.icmpNo X0.here hx rfl (hb hby d18_37) rfl (flt hc37_9).2.2.1 kk_) ?_
  show Goes p e below _ (s₁.setTop (mkF m 40 #[vr b, vi (16 : Int32), vr b2, vi (3 : Int32), vi (0 : Int32), vi (own_gP 0), vi (13 : Int32), vi (4 : Int32), .unset, .unset, .unset] []))
  refine gALN X0 hx hby d18_40 rfl rfl ?_
  refine gIL X0 hx hby d18_41 rfl ?_
  refine Goes.via (own_baload X0 hx hZ e0 A0_b (j := (4 : Int32)) (i := 4) (by decide) (by decide) (by decide) (v := (g 4)) rfl (g := (mkF m 43 #[vr b, vi (16 : Int32), vr b2, vi (3 : Int32), vi (0 : Int32), vi (own_gP 0), vi (13 : Int32), vi (4 : Int32), .unset, .unset, .unset] [(.int (4 : Int32)), (.ref b)])) rfl rfl (hb hby d18_43)) ?_
  show Goes p e below _ (s₁.setTop (mkF m 44 #[vr b, vi (16 : Int32), vr b2, vi (3 : Int32), vi (0 : Int32), vi (own_gP 0), vi (13 : Int32), vi (4 : Int32), .unset, .unset, .unset] [(.int (g 4))]))
  refine gIL X0 hx hby d18_44 rfl ?_
  have hc46_10 : (g 4) = (own_gP 0) := Hp0
  refine Goes.via (fun _ kk_ => XS.icmpYes X0.here hx rfl (pc0 := 46) (pc' := 52) rfl (hb hby d18_46) rfl (teq hc46_10).1 (by decide) (by decide) kk_) ?_
  show Goes p e below _ (s₁.setTop (mkF m 52 #[vr b, vi (16 : Int32), vr b2, vi (3 : Int32), vi (0 : Int32), vi (own_gP 0), vi (13 : Int32), vi (4 : Int32), .unset, .unset, .unset] []))
  refine gIL X0 hx hby d18_52 rfl ?_
  refine gIL X0 hx hby d18_54 rfl ?_
  have hc56_11 : ¬ ((13 : Int32) < (4 : Int32)) := (by decide)
  refine Goes.via (fun _ kk_ => XS.icmpNo X0.here hx rfl (hb hby d18_56) rfl (flt hc56_11).2.2.1 kk_) ?_
  show Goes p e below _ (s₁.setTop (mkF m 59 #[vr b, vi (16 : Int32), vr b2, vi (3 : Int32), vi (0 : Int32), vi (own_gP 0), vi (13 : Int32), vi (4 : Int32), .unset, .unset, .unset] []))
  refine gIL X0 hx hby d18_59 rfl ?_
  refine gIC (z := 1) X0 hx hby d18_61 rfl ?_
  refine Goes.via (fun _ kk_ => XS.iadd X0.here hx rfl (hb hby d18_62) rfl kk_) ?_
  show Goes p e below _ (s₁.setTop (mkF m 63 #[vr b, vi (16 : Int32), vr b2, vi (3 : Int32), vi (0 : Int32), vi (own_gP 0), vi (13 : Int32), vi (4 : Int32), .unset, .unset, .unset] [(.int ((4 : Int32) + (1 : Int32)))]))
  rw [show ((4 : Int32) + (1 : Int32)) = (5 : Int32) from by decide]
  show Goes p e below _ (s₁.setTop (mkF m 63 #[vr b, vi (16 : Int32), vr b2, vi (3 : Int32), vi (0 : Int32), vi (own_gP 0), vi (13 : Int32), vi (4 : Int32), .unset, .unset, .unset] [(.int (5 : Int32))]))
  refine Goes.via (fun _ kk_ => XS.istore X0.here hx rfl (hb hby d18_63) rfl (l' := #[vr b, vi (16 : Int32), vr b2, vi (3 : Int32), vi (0 : Int32), vi (own_gP 0), vi (13 : Int32), vi (4 : Int32), vi (5 : Int32), .unset, .unset]) rfl kk_) ?_
  show Goes p e below _ (s₁.setTop (mkF m 65 #[vr b, vi (16 : Int32), vr b2, vi (3 : Int32), vi (0 : Int32), vi (own_gP 0), vi (13 : Int32), vi (4 : Int32), vi (5 : Int32), .unset, .unset] []))
  refine gIL X0 hx hby d18_65 rfl ?_
  refine gILN X0 hx hby d18_67 rfl ?_
  refine Goes.via (fun _ kk_ => XS.iadd X0.here hx rfl (hb hby d18_68) rfl kk_) ?_
  show Goes p e below _ (s₁.setTop (mkF m 69 #[vr b, vi (16 : Int32), vr b2, vi (3 : Int32), vi (0 : Int32), vi (own_gP 0), vi (13 : Int32), vi (4 : Int32), vi (5 : Int32), .unset, .unset] [(.int ((5 : Int32) + (3 : Int32)))]))
  rw [show ((5 : Int32) + (3 : Int32)) = (8 : Int32) from by decide]
  show Goes p e below _ (s₁.setTop (mkF m 69 #[vr b, vi (16 : Int32), vr b2, vi (3 : Int32), vi (0 : Int32), vi (own_gP 0), vi (13 : Int32), vi (4 : Int32), vi (5 : Int32), .unset, .unset] [(.int (8 : Int32))]))
  refine gIC (z := 1) X0 hx hby d18_69 rfl ?_
  refine Goes.via (fun _ kk_ => XS.isub X0.here hx rfl (hb hby d18_70) rfl kk_) ?_
  show Goes p e below _ (s₁.setTop (mkF m 71 #[vr b, vi (16 : Int32), vr b2, vi (3 : Int32), vi (0 : Int32), vi (own_gP 0), vi (13 : Int32), vi (4 : Int32), vi (5 : Int32), .unset, .unset] [(.int ((8 : Int32) - (1 : Int32)))]))
  rw [show ((8 : Int32) - (1 : Int32)) = (7 : Int32) from by decide]
  show Goes p e below _ (s₁.setTop (mkF m 71 #[vr b, vi (16 : Int32), vr b2, vi (3 : Int32), vi (0 : Int32), vi (own_gP 0), vi (13 : Int32), vi (4 : Int32), vi (5 : Int32), .unset, .unset] [(.int (7 : Int32))]))
  refine Goes.via (fun _ kk_ => XS.istore X0.here hx rfl (hb hby d18_71) rfl (l' := #[vr b, vi (16 : Int32), vr b2, vi (3 : Int32), vi (0 : Int32), vi (own_gP 0), vi (13 : Int32), vi (4 : Int32), vi (5 : Int32), vi (7 : Int32), .unset]) rfl kk_) ?_
  show Goes p e below _ (s₁.setTop (mkF m 73 #[vr b, vi (16 : Int32), vr b2, vi (3 : Int32), vi (0 : Int32), vi (own_gP 0), vi (13 : Int32), vi (4 : Int32), vi (5 : Int32), vi (7 : Int32), .unset] []))
  refine gIC (z := 1) X0 hx hby d18_73 rfl ?_
  refine Goes.via (fun _ kk_ => XS.istore X0.here hx rfl (hb hby d18_74) rfl (l' := #[vr b, vi (16 : Int32), vr b2, vi (3 : Int32), vi (0 : Int32), vi (own_gP 0), vi (13 : Int32), vi (4 : Int32), vi (5 : Int32), vi (7 : Int32), vi (1 : Int32)]) rfl kk_) ?_
  show Goes p e below _ (s₁.setTop (mkF m 76 #[vr b, vi (16 : Int32), vr b2, vi (3 : Int32), vi (0 : Int32), vi (own_gP 0), vi (13 : Int32), vi (4 : Int32), vi (5 : Int32), vi (7 : Int32), vi (1 : Int32)] []))
  refine gIL X0 hx hby d18_76 rfl ?_
  refine gIL X0 hx hby d18_78 rfl ?_
  have hc80_12 : (5 : Int32) < (7 : Int32) := (by decide)
  refine Goes.via (fun _ kk_ => XS.icmpNo X0.here hx rfl (hb hby d18_80) rfl (tlt hc80_12).2.1 kk_) ?_
  show Goes p e below _ (s₁.setTop (mkF m 83 #[vr b, vi (16 : Int32), vr b2, vi (3 : Int32), vi (0 : Int32), vi (own_gP 0), vi (13 : Int32), vi (4 : Int32), vi (5 : Int32), vi (7 : Int32), vi (1 : Int32)] []))
  refine gALN X0 hx hby d18_83 rfl rfl ?_
  refine gIL X0 hx hby d18_84 rfl ?_
  refine Goes.via (own_baload X0 hx hZ e0 A0_b (j := (5 : Int32)) (i := 5) (by decide) (by decide) (by decide) (v := (g 5)) rfl (g := (mkF m 86 #[vr b, vi (16 : Int32), vr b2, vi (3 : Int32), vi (0 : Int32), vi (own_gP 0), vi (13 : Int32), vi (4 : Int32), vi (5 : Int32), vi (7 : Int32), vi (1 : Int32)] [(.int (5 : Int32)), (.ref b)])) rfl rfl (hb hby d18_86)) ?_
  show Goes p e below _ (s₁.setTop (mkF m 87 #[vr b, vi (16 : Int32), vr b2, vi (3 : Int32), vi (0 : Int32), vi (own_gP 0), vi (13 : Int32), vi (4 : Int32), vi (5 : Int32), vi (7 : Int32), vi (1 : Int32)] [(.int (g 5))]))
  refine gALN X0 hx hby d18_87 rfl rfl ?_
  refine gIL X0 hx hby d18_88 rfl ?_
  refine Goes.via (own_baload X0 hx hZ e0 A1_b2 (j := (1 : Int32)) (i := 1) (by decide) (by decide) (by decide) (v := (own_gP 1)) rfl (g := (mkF m 90 #[vr b, vi (16 : Int32), vr b2, vi (3 : Int32), vi (0 : Int32), vi (own_gP 0), vi (13 : Int32), vi (4 : Int32), vi (5 : Int32), vi (7 : Int32), vi (1 : Int32)] [(.int (1 : Int32)), (.ref b2), (.int (g 5))])) rfl rfl (hb hby d18_90)) ?_
  show Goes p e below _ (s₁.setTop (mkF m 91 #[vr b, vi (16 : Int32), vr b2, vi (3 : Int32), vi (0 : Int32), vi (own_gP 0), vi (13 : Int32), vi (4 : Int32), vi (5 : Int32), vi (7 : Int32), vi (1 : Int32)] [(.int (own_gP 1)), (.int (g 5))]))
  have hc91_13 : (g 5) = (own_gP 1) := Hp1
  refine Goes.via (fun _ kk_ => XS.icmpNo X0.here hx rfl (hb hby d18_91) rfl (teq hc91_13).2 kk_) ?_
  show Goes p e below _ (s₁.setTop (mkF m 94 #[vr b, vi (16 : Int32), vr b2, vi (3 : Int32), vi (0 : Int32), vi (own_gP 0), vi (13 : Int32), vi (4 : Int32), vi (5 : Int32), vi (7 : Int32), vi (1 : Int32)] []))
  refine Goes.via (fun _ kk_ => XS.iinc X0.here hx rfl (hb hby d18_94) rfl (l' := #[vr b, vi (16 : Int32), vr b2, vi (3 : Int32), vi (0 : Int32), vi (own_gP 0), vi (13 : Int32), vi (4 : Int32), vi ((5 : Int32) + (1 : Int32)), vi (7 : Int32), vi (1 : Int32)]) rfl kk_) ?_
  show Goes p e below _ (s₁.setTop (mkF m 97 #[vr b, vi (16 : Int32), vr b2, vi (3 : Int32), vi (0 : Int32), vi (own_gP 0), vi (13 : Int32), vi (4 : Int32), vi ((5 : Int32) + (1 : Int32)), vi (7 : Int32), vi (1 : Int32)] []))
  rw [show ((5 : Int32) + (1 : Int32)) = (6 : Int32) from by decide]
  show Goes p e below _ (s₁.setTop (mkF m 97 #[vr b, vi (16 : Int32), vr b2, vi (3 : Int32), vi (0 : Int32), vi (own_gP 0), vi (13 : Int32), vi (4 : Int32), vi (6 : Int32), vi (7 : Int32), vi (1 : Int32)] []))
  refine Goes.via (fun _ kk_ => XS.iinc X0.here hx rfl (hb hby d18_97) rfl (l' := #[vr b, vi (16 : Int32), vr b2, vi (3 : Int32), vi (0 : Int32), vi (own_gP 0), vi (13 : Int32), vi (4 : Int32), vi (6 : Int32), vi (7 : Int32), vi ((1 : Int32) + (1 : Int32))]) rfl kk_) ?_
  show Goes p e below _ (s₁.setTop (mkF m 100 #[vr b, vi (16 : Int32), vr b2, vi (3 : Int32), vi (0 : Int32), vi (own_gP 0), vi (13 : Int32), vi (4 : Int32), vi (6 : Int32), vi (7 : Int32), vi ((1 : Int32) + (1 : Int32))] []))
  rw [show ((1 : Int32) + (1 : Int32)) = (2 : Int32) from by decide]
  show Goes p e below _ (s₁.setTop (mkF m 100 #[vr b, vi (16 : Int32), vr b2, vi (3 : Int32), vi (0 : Int32), vi (own_gP 0), vi (13 : Int32), vi (4 : Int32), vi (6 : Int32), vi (7 : Int32), vi (2 : Int32)] []))
  refine Goes.via (fun _ kk_ => XS.goto X0.here hx rfl (pc0 := 100) (pc' := 76) rfl (hb hby d18_100) (by decide) (by decide) kk_) ?_
  show Goes p e below _ (s₁.setTop (mkF m 76 #[vr b, vi (16 : Int32), vr b2, vi (3 : Int32), vi (0 : Int32), vi (own_gP 0), vi (13 : Int32), vi (4 : Int32), vi (6 : Int32), vi (7 : Int32), vi (2 : Int32)] []))
  refine gIL X0 hx hby d18_76 rfl ?_
  refine gIL X0 hx hby d18_78 rfl ?_
  have hc80_14 : (6 : Int32) < (7 : Int32) := (by decide)
  refine Goes.via (fun _ kk_ => XS.icmpNo X0.here hx rfl (hb hby d18_80) rfl (tlt hc80_14).2.1 kk_) ?_
  show Goes p e below _ (s₁.setTop (mkF m 83 #[vr b, vi (16 : Int32), vr b2, vi (3 : Int32), vi (0 : Int32), vi (own_gP 0), vi (13 : Int32), vi (4 : Int32), vi (6 : Int32), vi (7 : Int32), vi (2 : Int32)] []))
  refine gALN X0 hx hby d18_83 rfl rfl ?_
  refine gIL X0 hx hby d18_84 rfl ?_
  refine Goes.via (own_baload X0 hx hZ e0 A0_b (j := (6 : Int32)) (i := 6) (by decide) (by decide) (by decide) (v := (g 6)) rfl (g := (mkF m 86 #[vr b, vi (16 : Int32), vr b2, vi (3 : Int32), vi (0 : Int32), vi (own_gP 0), vi (13 : Int32), vi (4 : Int32), vi (6 : Int32), vi (7 : Int32), vi (2 : Int32)] [(.int (6 : Int32)), (.ref b)])) rfl rfl (hb hby d18_86)) ?_
  show Goes p e below _ (s₁.setTop (mkF m 87 #[vr b, vi (16 : Int32), vr b2, vi (3 : Int32), vi (0 : Int32), vi (own_gP 0), vi (13 : Int32), vi (4 : Int32), vi (6 : Int32), vi (7 : Int32), vi (2 : Int32)] [(.int (g 6))]))
  refine gALN X0 hx hby d18_87 rfl rfl ?_
  refine gIL X0 hx hby d18_88 rfl ?_
  refine Goes.via (own_baload X0 hx hZ e0 A1_b2 (j := (2 : Int32)) (i := 2) (by decide) (by decide) (by decide) (v := (own_gP 2)) rfl (g := (mkF m 90 #[vr b, vi (16 : Int32), vr b2, vi (3 : Int32), vi (0 : Int32), vi (own_gP 0), vi (13 : Int32), vi (4 : Int32), vi (6 : Int32), vi (7 : Int32), vi (2 : Int32)] [(.int (2 : Int32)), (.ref b2), (.int (g 6))])) rfl rfl (hb hby d18_90)) ?_
  show Goes p e below _ (s₁.setTop (mkF m 91 #[vr b, vi (16 : Int32), vr b2, vi (3 : Int32), vi (0 : Int32), vi (own_gP 0), vi (13 : Int32), vi (4 : Int32), vi (6 : Int32), vi (7 : Int32), vi (2 : Int32)] [(.int (own_gP 2)), (.int (g 6))]))
  have hc91_15 : (g 6) = (own_gP 2) := Hp2
  refine Goes.via (fun _ kk_ => XS.icmpNo X0.here hx rfl (hb hby d18_91) rfl (teq hc91_15).2 kk_) ?_
  show Goes p e below _ (s₁.setTop (mkF m 94 #[vr b, vi (16 : Int32), vr b2, vi (3 : Int32), vi (0 : Int32), vi (own_gP 0), vi (13 : Int32), vi (4 : Int32), vi (6 : Int32), vi (7 : Int32), vi (2 : Int32)] []))
  refine Goes.via (fun _ kk_ => XS.iinc X0.here hx rfl (hb hby d18_94) rfl (l' := #[vr b, vi (16 : Int32), vr b2, vi (3 : Int32), vi (0 : Int32), vi (own_gP 0), vi (13 : Int32), vi (4 : Int32), vi ((6 : Int32) + (1 : Int32)), vi (7 : Int32), vi (2 : Int32)]) rfl kk_) ?_
  show Goes p e below _ (s₁.setTop (mkF m 97 #[vr b, vi (16 : Int32), vr b2, vi (3 : Int32), vi (0 : Int32), vi (own_gP 0), vi (13 : Int32), vi (4 : Int32), vi ((6 : Int32) + (1 : Int32)), vi (7 : Int32), vi (2 : Int32)] []))
  rw [show ((6 : Int32) + (1 : Int32)) = (7 : Int32) from by decide]
  show Goes p e below _ (s₁.setTop (mkF m 97 #[vr b, vi (16 : Int32), vr b2, vi (3 : Int32), vi (0 : Int32), vi (own_gP 0), vi (13 : Int32), vi (4 : Int32), vi (7 : Int32), vi (7 : Int32), vi (2 : Int32)] []))
  refine Goes.via (fun _ kk_ => XS.iinc X0.here hx rfl (hb hby d18_97) rfl (l' := #[vr b, vi (16 : Int32), vr b2, vi (3 : Int32), vi (0 : Int32), vi (own_gP 0), vi (13 : Int32), vi (4 : Int32), vi (7 : Int32), vi (7 : Int32), vi ((2 : Int32) + (1 : Int32))]) rfl kk_) ?_
  show Goes p e below _ (s₁.setTop (mkF m 100 #[vr b, vi (16 : Int32), vr b2, vi (3 : Int32), vi (0 : Int32), vi (own_gP 0), vi (13 : Int32), vi (4 : Int32), vi (7 : Int32), vi (7 : Int32), vi ((2 : Int32) + (1 : Int32))] []))
  rw [show ((2 : Int32) + (1 : Int32)) = (3 : Int32) from by decide]
  show Goes p e below _ (s₁.setTop (mkF m 100 #[vr b, vi (16 : Int32), vr b2, vi (3 : Int32), vi (0 : Int32), vi (own_gP 0), vi (13 : Int32), vi (4 : Int32), vi (7 : Int32), vi (7 : Int32), vi (3 : Int32)] []))
  refine Goes.via (fun _ kk_ => XS.goto X0.here hx rfl (pc0 := 100) (pc' := 76) rfl (hb hby d18_100) (by decide) (by decide) kk_) ?_
  show Goes p e below _ (s₁.setTop (mkF m 76 #[vr b, vi (16 : Int32), vr b2, vi (3 : Int32), vi (0 : Int32), vi (own_gP 0), vi (13 : Int32), vi (4 : Int32), vi (7 : Int32), vi (7 : Int32), vi (3 : Int32)] []))
  refine gIL X0 hx hby d18_76 rfl ?_
  refine gIL X0 hx hby d18_78 rfl ?_
  have hc80_16 : ¬ ((7 : Int32) < (7 : Int32)) := (by decide)
  refine Goes.via (fun _ kk_ => XS.icmpYes X0.here hx rfl (pc0 := 80) (pc' := 103) rfl (hb hby d18_80) rfl (flt hc80_16).2.1 (by decide) (by decide) kk_) ?_
  show Goes p e below _ (s₁.setTop (mkF m 103 #[vr b, vi (16 : Int32), vr b2, vi (3 : Int32), vi (0 : Int32), vi (own_gP 0), vi (13 : Int32), vi (4 : Int32), vi (7 : Int32), vi (7 : Int32), vi (3 : Int32)] []))
  refine gIL X0 hx hby d18_103 rfl ?_
  refine gIL X0 hx hby d18_105 rfl ?_
  have hc107_17 : (7 : Int32) = (7 : Int32) := (by decide)
  refine Goes.via (fun _ kk_ => XS.icmpNo X0.here hx rfl (hb hby d18_107) rfl (teq hc107_17).2 kk_) ?_
  show Goes p e below _ (s₁.setTop (mkF m 110 #[vr b, vi (16 : Int32), vr b2, vi (3 : Int32), vi (0 : Int32), vi (own_gP 0), vi (13 : Int32), vi (4 : Int32), vi (7 : Int32), vi (7 : Int32), vi (3 : Int32)] []))
  refine gIL X0 hx hby d18_110 rfl ?_
  exact own_finI X0 hx hlk hret (hb hby d18_112) (by rw [e0]; exact ⟨rfl, rfl, rfl⟩) (by first | decide | omega | (dsimp only; omega)) (by first | decide | omega | (dsimp only; omega))
theorem ef_rmT4 (m : MethodId) (b : Addr) (b2 : Addr) : entryFrame m #[(.ref b), (.ref b2)] 2 = mkF m 0 #[.val (.ref b), .val (.ref b2)] [] := by first | (simp [entryFrame, mkF, argsToLocals, Value.category]; done) | rfl
def QrmT4 (Z : State) (b : Addr) (b2 : Addr) (kc : ClassId) (kd : ClassId) (g : Nat → Int32) (h0 : Heap) (n0 : Nat) (v_ : Option Value) (h_ : Heap) (L_ : List Loc) : Prop := v_ = some (.int (4 : Int32)) ∧ L_ = [] ∧ h_ = h0
theorem d17_0 : decode jdk_43_method_24_code 0 = .ok (.aload_n 1, 1) := by decide +kernel
theorem d17_1 : decode jdk_43_method_24_code 1 = .ok (.arraylength, 1) := by decide +kernel
theorem d17_2 : decode jdk_43_method_24_code 2 = .ok (.ifCond .ne 5, 3) := by decide +kernel
theorem d17_7 : decode jdk_43_method_24_code 7 = .ok (.aload_n 0, 1) := by decide +kernel
theorem d17_8 : decode jdk_43_method_24_code 8 = .ok (.arraylength, 1) := by decide +kernel
theorem d17_9 : decode jdk_43_method_24_code 9 = .ok (.ifCond .ne 5, 3) := by decide +kernel
theorem d17_14 : decode jdk_43_method_24_code 14 = .ok (.aload_n 0, 1) := by decide +kernel
theorem d17_15 : decode jdk_43_method_24_code 15 = .ok (.aload_n 0, 1) := by decide +kernel
theorem d17_16 : decode jdk_43_method_24_code 16 = .ok (.arraylength, 1) := by decide +kernel
theorem d17_17 : decode jdk_43_method_24_code 17 = .ok (.aload_n 1, 1) := by decide +kernel
theorem d17_18 : decode jdk_43_method_24_code 18 = .ok (.aload_n 1, 1) := by decide +kernel
theorem d17_19 : decode jdk_43_method_24_code 19 = .ok (.arraylength, 1) := by decide +kernel
theorem d17_20 : decode jdk_43_method_24_code 20 = .ok (.iconst 0, 1) := by decide +kernel
theorem pd_15 : parseMethodDescriptor "([BI[BII)I" = some ⟨[(.array .byte), .int, (.array .byte), .int, .int], some .int⟩ := by decide +kernel
theorem d17_21 : decode jdk_43_method_24_code 21 = .ok (.invokestatic 99, 3) := by decide +kernel
theorem d17_24 : decode jdk_43_method_24_code 24 = .ok (.ireturn, 1) := by decide +kernel
set_option maxRecDepth 65536 in
set_option maxHeartbeats 40000000 in
theorem rmT4 (l : Launch) (Z : State) (a0 : Array Value) (hw : ∀ d ∈ tables_1, d.before a0 Z = true) (ws : List Jvm.Cond) (b : Addr) (b2 : Addr) (kc : ClassId) (kd : ClassId) (g : Nat → Int32) (h0 : Heap) (n0 : Nat) (Z0 : n0 ≤ h0.size) (A0_b : Arw Z h0 b kc .byte 16 (fun i => .int (g i))) (A1_b2 : Arw Z h0 b2 kd .byte 3 (fun i => .int (own_gP i))) (Hn0 : g 0 ≠ (58 : Int32)) (Hn1 : g 1 ≠ (58 : Int32)) (Hn2 : g 2 ≠ (58 : Int32)) (Hn3 : g 3 ≠ (58 : Int32)) (Hp0 : g 4 = (58 : Int32)) (Hp1 : g 5 = (47 : Int32)) (Hp2 : g 6 = (47 : Int32)) :
    MetFree l (⟨"java/lang/StringLatin1", "indexOf", "([B[B)I"⟩ : MethodName) (head1 (Jvm.Cond.code (⟨"java/lang/StringLatin1", "indexOf", "([B[B)I"⟩ : MethodName) jdk_43_method_24_code 2 (some .int) :: ws) ({ frames := 1, cells := 0, slots := 0, locals := 22 } : Room)) (fun as_ U_ => as_ = #[(.ref b), (.ref b2)] ∧ Z.Warmed39 U_.vm ∧ U_.heap = h0) (fun _ _ _ _ _ => True) (fun _ U_ o_ V_ => ∃ v_ L_, o_ = .returned v_ ∧ QrmT4 Z b b2 kc kd g h0 n0 v_ V_.heap L_ ∧ FrameEnd U_ o_ V_ L_ ({ frames := 1, cells := 0, slots := 0, locals := 22 } : Room).cells ({ frames := 1, cells := 0, slots := 0, locals := 22 } : Room).slots) := by
  refine MetFree.of_bodySF (plainFor_of_name pn_java_lang_StringLatin1) hisR ?_
  intro p e s m args below meth c s₁ Bd hml0 hP hK
  obtain ⟨rfl, hZ, hh⟩ := hP
  have hx := Bd.exec
  have hby := Bd.bytes
  have hlk : meth.locks = false := BodyLoose.notSynchronized Bd
  have hret := Bd.returns
  have hml : c.maxLocals = 2 := hml0
  have hown : s.vm.findClass "java/lang/StringLatin1" = some m.cls := findClass_of_methodNamed Bd.named
  have hnm := (name_of_methodNamed Bd.named Bd.method).1
  have X0 : Stand p l e ({ frames := 1, cells := 0, slots := 0, locals := 22 } : Room) s m #[(.ref b), (.ref b2)] below meth c s₁ [] 0 0 := Stand.of_body Bd
  have e0 : s₁.heap = h0 := by rw [← hh, Bd.state]; rfl
  have N0 := Fr.nil n0
  show Goes p e below (Fin_ s (QrmT4 Z b b2 kc kd g h0 n0) ({ frames := 1, cells := 0, slots := 0, locals := 22 } : Room).cells ({ frames := 1, cells := 0, slots := 0, locals := 22 } : Room).slots) (s₁.setTop (entryFrame m #[(.ref b), (.ref b2)] 2))
  rw [ef_rmT4 m b b2]
  refine gALN X0 hx hby d17_0 rfl rfl ?_
  refine Goes.via (own_alen X0 hx hZ e0 A1_b2 (g := (mkF m 1 #[vr b, vr b2] [(.ref b2)])) rfl rfl (hb hby d17_1)) ?_
  show Goes p e below _ (s₁.setTop (mkF m 2 #[vr b, vr b2] [(.int (3 : Int32))]))
  have hc2_1 : ¬ ((3 : Int32) = (0 : Int32)) := (by decide)
  refine Goes.via (fun _ kk_ => XS.ifYes X0.here hx rfl (pc0 := 2) (pc' := 7) rfl (hb hby d17_2) rfl ((if0 _ _).trans (feq hc2_1).2) (by decide) (by decide) kk_) ?_
  show Goes p e below _ (s₁.setTop (mkF m 7 #[vr b, vr b2] []))
  refine gALN X0 hx hby d17_7 rfl rfl ?_
  refine Goes.via (own_alen X0 hx hZ e0 A0_b (g := (mkF m 8 #[vr b, vr b2] [(.ref b)])) rfl rfl (hb hby d17_8)) ?_
  show Goes p e below _ (s₁.setTop (mkF m 9 #[vr b, vr b2] [(.int (16 : Int32))]))
  have hc9_2 : ¬ ((16 : Int32) = (0 : Int32)) := (by decide)
  refine Goes.via (fun _ kk_ => XS.ifYes X0.here hx rfl (pc0 := 9) (pc' := 14) rfl (hb hby d17_9) rfl ((if0 _ _).trans (feq hc9_2).2) (by decide) (by decide) kk_) ?_
  show Goes p e below _ (s₁.setTop (mkF m 14 #[vr b, vr b2] []))
  refine gALN X0 hx hby d17_14 rfl rfl ?_
  refine gALN X0 hx hby d17_15 rfl rfl ?_
  refine Goes.via (own_alen X0 hx hZ e0 A0_b (g := (mkF m 16 #[vr b, vr b2] [(.ref b), (.ref b)])) rfl rfl (hb hby d17_16)) ?_
  show Goes p e below _ (s₁.setTop (mkF m 17 #[vr b, vr b2] [(.int (16 : Int32)), (.ref b)]))
  refine gALN X0 hx hby d17_17 rfl rfl ?_
  refine gALN X0 hx hby d17_18 rfl rfl ?_
  refine Goes.via (own_alen X0 hx hZ e0 A1_b2 (g := (mkF m 19 #[vr b, vr b2] [(.ref b2), (.ref b2), (.int (16 : Int32)), (.ref b)])) rfl rfl (hb hby d17_19)) ?_
  show Goes p e below _ (s₁.setTop (mkF m 20 #[vr b, vr b2] [(.int (3 : Int32)), (.ref b2), (.int (16 : Int32)), (.ref b)]))
  refine gIC (z := 0) X0 hx hby d17_20 rfl ?_
  obtain ⟨_, _, ⟨T3, L3, k3, n3⟩, -, X3, ⟨Lc3, hQ3, l3, y3, z3⟩, st3⟩ := Jvm.LawKit.callS X0 hx (y := (⟨"java/lang/StringLatin1", "indexOf", "([BI[BII)I"⟩ : MethodName)) hown (mvT hZ (own_w hw 81 rfl)) (mvT hZ (own_w hw 82 rfl)) (mvT hZ (own_w hw 27 rfl)) (mvT hZ (own_w hw 83 rfl)) (by decide) (backOf (W := 0) (rmS4 l Z a0 hw [] b b2 kc kd g h0 n0 (Nat.le_trans Z0 (Nat.le_refl _)) A0_b A1_b2 Hn0 Hn1 Hn2 Hn3 Hp0 Hp1 Hp2) hZ (own_w hw 83 rfl) (own_w hw 27 rfl) (by decide) (by decide)) (g := (mkF m 21 #[vr b, vr b2] [(.int (0 : Int32)), (.int (3 : Int32)), (.ref b2), (.int (16 : Int32)), (.ref b)])) rfl (by rw [hml]; rfl) (argsL := [(.ref b), (.int (16 : Int32)), (.ref b2), (.int (3 : Int32)), (.int (0 : Int32))]) (rest := []) (lenOf pd_15 rfl) rfl (by show 2 * 0 + _ ≤ _; exact Nat.le_of_eq rfl) (hb hby d17_21) (fun _ _ => ⟨rfl, e0, (by decide : 0 + 0 ≤ _), (by decide : 0 + 0 ≤ _)⟩)
  dsimp only [Pt.U, Pt.locs, Pt.cells, Pt.slots] at X3 l3 y3 z3 st3 hQ3
  replace l3 := l3.symm
  subst l3 y3 z3
  obtain ⟨rfl, rfl, e3⟩ := hQ3
  first | rw [List.append_nil] at X3 | skip
  refine Goes.via st3 ?_
  have e3' : T3.heap = h0 := e3
  show Goes p e below _ (T3.setTop (mkF m 24 #[vr b, vr b2] [(.int (4 : Int32))]))
  exact own_finI X3 hx hlk hret (hb hby d17_24) (by rw [e3']; exact ⟨rfl, rfl, rfl⟩) (by first | decide | omega | (dsimp only; omega)) (by first | decide | omega | (dsimp only; omega))
theorem ef_rmU4 (m : MethodId) (a : Addr) (a2 : Addr) : entryFrame m #[(.ref a), (.ref a2)] 3 = mkF m 0 #[.val (.ref a), .val (.ref a2), .unset] [] := by first | (simp [entryFrame, mkF, argsToLocals, Value.category]; done) | rfl
def QrmU4 (Z : State) (a : Addr) (a2 : Addr) (cS : Int32) (b : Addr) (b2 : Addr) (kc : ClassId) (kd : ClassId) (g : Nat → Int32) (h0 : Heap) (n0 : Nat) (v_ : Option Value) (h_ : Heap) (L_ : List Loc) : Prop := v_ = some (.int (4 : Int32)) ∧ L_ = [] ∧ h_ = h0
theorem d15_0 : decode jdk_42_method_84_code 0 = .ok (.aload_n 0, 1) := by decide +kernel
theorem d15_1 : decode jdk_42_method_84_code 1 = .ok (.invokevirtual 335, 3) := by decide +kernel
theorem d15_4 : decode jdk_42_method_84_code 4 = .ok (.istore_n 2, 1) := by decide +kernel
theorem d15_5 : decode jdk_42_method_84_code 5 = .ok (.iload_n 2, 1) := by decide +kernel
theorem d15_6 : decode jdk_42_method_84_code 6 = .ok (.aload_n 1, 1) := by decide +kernel
theorem d15_7 : decode jdk_42_method_84_code 7 = .ok (.invokevirtual 335, 3) := by decide +kernel
theorem d15_10 : decode jdk_42_method_84_code 10 = .ok (.if_icmp .ne 36, 3) := by decide +kernel
theorem d15_13 : decode jdk_42_method_84_code 13 = .ok (.aload_n 0, 1) := by decide +kernel
theorem d15_14 : decode jdk_42_method_84_code 14 = .ok (.invokevirtual 492, 3) := by decide +kernel
theorem d15_17 : decode jdk_42_method_84_code 17 = .ok (.ifCond .eq 17, 3) := by decide +kernel
theorem d15_20 : decode jdk_42_method_84_code 20 = .ok (.aload_n 0, 1) := by decide +kernel
theorem d15_21 : decode jdk_42_method_84_code 21 = .ok (.getfield 9, 3) := by decide +kernel
theorem d15_24 : decode jdk_42_method_84_code 24 = .ok (.aload_n 1, 1) := by decide +kernel
theorem d15_25 : decode jdk_42_method_84_code 25 = .ok (.getfield 9, 3) := by decide +kernel
theorem pd_16 : parseMethodDescriptor "([B[B)I" = some ⟨[(.array .byte), (.array .byte)], some .int⟩ := by decide +kernel
theorem d15_28 : decode jdk_42_method_84_code 28 = .ok (.invokestatic 647, 3) := by decide +kernel
theorem d15_31 : decode jdk_42_method_84_code 31 = .ok (.goto 14, 3) := by decide +kernel
theorem d15_45 : decode jdk_42_method_84_code 45 = .ok (.ireturn, 1) := by decide +kernel
set_option maxRecDepth 65536 in
set_option maxHeartbeats 40000000 in
theorem rmU4 (l : Launch) (Z : State) (a0 : Array Value) (hw : ∀ d ∈ tables_1, d.before a0 Z = true) (ws : List Jvm.Cond) (a : Addr) (a2 : Addr) (cS : Int32) (b : Addr) (b2 : Addr) (kc : ClassId) (kd : ClassId) (g : Nat → Int32) (h0 : Heap) (n0 : Nat) (Z0 : n0 ≤ h0.size) (E0_a : Exa Z h0 a "java/lang/String") (F1_a_coder : Fld Z h0 a "java/lang/String" "coder" "B" (.int (0 : Int32))) (F2_a_value : Fld Z h0 a "java/lang/String" "value" "[B" (.ref b)) (A3_b : Arw Z h0 b kc .byte 16 (fun i => .int (g i))) (E4_a2 : Exa Z h0 a2 "java/lang/String") (F5_a2_coder : Fld Z h0 a2 "java/lang/String" "coder" "B" (.int (0 : Int32))) (F6_a2_value : Fld Z h0 a2 "java/lang/String" "value" "[B" (.ref b2)) (A7_b2 : Arw Z h0 b2 kd .byte 3 (fun i => .int (own_gP i))) (S8_java_lang_String_COMPACT_STRINGS_COMPACT_STRINGS : Sta Z h0 "java/lang/String" "COMPACT_STRINGS" "Z" (.int cS)) (H_cs : ¬ cS = (0 : Int32)) (Hn0 : g 0 ≠ (58 : Int32)) (Hn1 : g 1 ≠ (58 : Int32)) (Hn2 : g 2 ≠ (58 : Int32)) (Hn3 : g 3 ≠ (58 : Int32)) (Hp0 : g 4 = (58 : Int32)) (Hp1 : g 5 = (47 : Int32)) (Hp2 : g 6 = (47 : Int32)) :
    MetFree l (⟨"java/lang/String", "indexOf", "(Ljava/lang/String;)I"⟩ : MethodName) (head1 (Jvm.Cond.code (⟨"java/lang/String", "indexOf", "(Ljava/lang/String;)I"⟩ : MethodName) jdk_42_method_84_code 3 (some .int) :: ws) ({ frames := 2, cells := 0, slots := 0, locals := 35 } : Room)) (fun as_ U_ => as_ = #[(.ref a), (.ref a2)] ∧ Z.Warmed39 U_.vm ∧ U_.heap = h0) (fun _ _ _ _ _ => True) (fun _ U_ o_ V_ => ∃ v_ L_, o_ = .returned v_ ∧ QrmU4 Z a a2 cS b b2 kc kd g h0 n0 v_ V_.heap L_ ∧ FrameEnd U_ o_ V_ L_ ({ frames := 2, cells := 0, slots := 0, locals := 35 } : Room).cells ({ frames := 2, cells := 0, slots := 0, locals := 35 } : Room).slots) := by
  refine MetFree.of_bodySF (plainFor_of_name pn_java_lang_String) hisR ?_
  intro p e s m args below meth c s₁ Bd hml0 hP hK
  obtain ⟨rfl, hZ, hh⟩ := hP
  have hx := Bd.exec
  have hby := Bd.bytes
  have hlk : meth.locks = false := BodyLoose.notSynchronized Bd
  have hret := Bd.returns
  have hml : c.maxLocals = 3 := hml0
  have hown : s.vm.findClass "java/lang/String" = some m.cls := findClass_of_methodNamed Bd.named
  have hnm := (name_of_methodNamed Bd.named Bd.method).1
  have X0 : Stand p l e ({ frames := 2, cells := 0, slots := 0, locals := 35 } : Room) s m #[(.ref a), (.ref a2)] below meth c s₁ [] 0 0 := Stand.of_body Bd
  have e0 : s₁.heap = h0 := by rw [← hh, Bd.state]; rfl
  have N0 := Fr.nil n0
  show Goes p e below (Fin_ s (QrmU4 Z a a2 cS b b2 kc kd g h0 n0) ({ frames := 2, cells := 0, slots := 0, locals := 35 } : Room).cells ({ frames := 2, cells := 0, slots := 0, locals := 35 } : Room).slots) (s₁.setTop (entryFrame m #[(.ref a), (.ref a2)] 3))
  rw [ef_rmU4 m a a2]
  have ne1 : a ≠ b := own_ne_arr E0_a (own_w hw 6 rfl) A3_b
  have ne2 : a ≠ b2 := own_ne_arr E0_a (own_w hw 6 rfl) A7_b2
  have ne3 : a2 ≠ b := own_ne_arr E4_a2 (own_w hw 6 rfl) A3_b
  have ne4 : a2 ≠ b2 := own_ne_arr E4_a2 (own_w hw 6 rfl) A7_b2
  refine gALN X0 hx hby d15_0 rfl rfl ?_
  obtain ⟨cq5, kq5, q5a, q5b, q5c⟩ := isOf hZ e0 E0_a
  obtain ⟨_, _, ⟨T5, L5, k5, n5⟩, -, X5, ⟨Lc5, hQ5, l5, y5, z5⟩, st5⟩ := X0.virtualBack hx (y := (⟨"java/lang/String", "coder", "()B"⟩ : MethodName)) (z := (⟨"java/lang/String", "coder", "()B"⟩ : MethodName)) hown (mvT hZ (own_w hw 73 rfl)) (mvT hZ (own_w hw 74 rfl)) (notFace_of_selects (args := #[]) (mvT hZ (own_w hw 76 rfl))) (mvT hZ (own_w hw 76 rfl)) (mvT hZ (own_w hw 75 rfl)) (by decide) (backOf (W := 0) (rm16 l Z a0 hw [] a cS h0 n0 (Nat.le_trans Z0 (Nat.le_refl _)) F1_a_coder S8_java_lang_String_COMPACT_STRINGS_COMPACT_STRINGS H_cs) hZ (own_w hw 77 rfl) (own_w hw 5 rfl) (by decide) (by decide)) q5a q5c (g := (mkF m 1 #[vr a, vr a2, .unset] [(.ref a)])) rfl (by rw [hml]; rfl) (Steps.refl _) (argsL := []) (rest := []) (lenOf pd_0 rfl) rfl (by show 2 * 0 + _ ≤ _; exact Nat.le_of_eq rfl) (hb hby d15_1) (fun _ _ => ⟨rfl, e0, (by decide : 0 + 0 ≤ _), (by decide : 0 + 0 ≤ _)⟩)
  dsimp only [Pt.U, Pt.locs, Pt.cells, Pt.slots] at X5 l5 y5 z5 st5 hQ5
  replace l5 := l5.symm
  subst l5 y5 z5
  obtain ⟨rfl, rfl, e5⟩ := hQ5
  first | rw [List.append_nil] at X5 | skip
  refine Goes.tr st5 ?_
  have e5' : T5.heap = h0 := e5
  show Goes p e below _ (T5.setTop (mkF m 4 #[vr a, vr a2, .unset] [(.int (0 : Int32))]))
  refine Goes.via (fun _ kk_ => XS.istoreN X5.here hx rfl (hb hby d15_4) rfl (l' := #[vr a, vr a2, vi (0 : Int32)]) rfl kk_) ?_
  show Goes p e below _ (T5.setTop (mkF m 5 #[vr a, vr a2, vi (0 : Int32)] []))
  refine gILN X5 hx hby d15_5 rfl ?_
  refine gALN X5 hx hby d15_6 rfl rfl ?_
  obtain ⟨cq6, kq6, q6a, q6b, q6c⟩ := isOf hZ e5' E4_a2
  obtain ⟨_, _, ⟨T6, L6, k6, n6⟩, -, X6, ⟨Lc6, hQ6, l6, y6, z6⟩, st6⟩ := X5.virtualBack hx (y := (⟨"java/lang/String", "coder", "()B"⟩ : MethodName)) (z := (⟨"java/lang/String", "coder", "()B"⟩ : MethodName)) hown (mvT hZ (own_w hw 73 rfl)) (mvT hZ (own_w hw 74 rfl)) (notFace_of_selects (args := #[]) (mvT hZ (own_w hw 76 rfl))) (mvT hZ (own_w hw 76 rfl)) (mvT hZ (own_w hw 75 rfl)) (by decide) (backOf (W := 1) (rm16 l Z a0 hw [] a2 cS h0 n0 (Nat.le_trans Z0 (Nat.le_refl _)) F5_a2_coder S8_java_lang_String_COMPACT_STRINGS_COMPACT_STRINGS H_cs) hZ (own_w hw 77 rfl) (own_w hw 5 rfl) (by decide) (by decide)) q6a q6c (g := (mkF m 7 #[vr a, vr a2, vi (0 : Int32)] [(.ref a2), (.int (0 : Int32))])) rfl (by rw [hml]; rfl) (Steps.refl _) (argsL := []) (rest := [(.int (0 : Int32))]) (lenOf pd_0 rfl) rfl (by show 2 * 0 + _ ≤ _; exact Nat.le_of_eq rfl) (hb hby d15_7) (fun _ _ => ⟨rfl, e5', (by decide : 0 + 0 ≤ _), (by decide : 0 + 0 ≤ _)⟩)
  dsimp only [Pt.U, Pt.locs, Pt.cells, Pt.slots] at X6 l6 y6 z6 st6 hQ6
  replace l6 := l6.symm
  subst l6 y6 z6
  obtain ⟨rfl, rfl, e6⟩ := hQ6
  first | rw [List.append_nil] at X6 | skip
  refine Goes.tr st6 ?_
  have e6' : T6.heap = h0 := e6
  show Goes p e below _ (T6.setTop (mkF m 10 #[vr a, vr a2, vi (0 : Int32)] [(.int (0 : Int32)), (.int (0 : Int32))]))
  have hc10_7 : (0 : Int32) = (0 : Int32) := (by decide)
  refine Goes.via (fun _ kk_ => XS.icmpNo X6.here hx rfl (hb hby d15_10) rfl (teq hc10_7).2 kk_) ?_
  show Goes p e below _ (T6.setTop (mkF m 13 #[vr a, vr a2, vi (0 : Int32)] []))
  refine gALN X6 hx hby d15_13 rfl rfl ?_
  obtain ⟨cq8, kq8, q8a, q8b, q8c⟩ := isOf hZ e6' E0_a
  obtain ⟨_, _, ⟨T8, L8, k8, n8⟩, -, X8, ⟨Lc8, hQ8, l8, y8, z8⟩, st8⟩ := X6.virtualBack hx (y := (⟨"java/lang/String", "isLatin1", "()Z"⟩ : MethodName)) (z := (⟨"java/lang/String", "isLatin1", "()Z"⟩ : MethodName)) hown (mvT hZ (own_w hw 17 rfl)) (mvT hZ (own_w hw 18 rfl)) (notFace_of_selects (args := #[]) (mvT hZ (own_w hw 20 rfl))) (mvT hZ (own_w hw 20 rfl)) (mvT hZ (own_w hw 19 rfl)) (by decide) (backOf (W := 0) (rm3 l Z a0 hw [] a cS h0 n0 (Nat.le_trans Z0 (Nat.le_refl _)) F1_a_coder S8_java_lang_String_COMPACT_STRINGS_COMPACT_STRINGS H_cs) hZ (own_w hw 21 rfl) (own_w hw 5 rfl) (by decide) (by decide)) q8a q8c (g := (mkF m 14 #[vr a, vr a2, vi (0 : Int32)] [(.ref a)])) rfl (by rw [hml]; rfl) (Steps.refl _) (argsL := []) (rest := []) (lenOf pd_3 rfl) rfl (by show 2 * 0 + _ ≤ _; exact Nat.le_of_eq rfl) (hb hby d15_14) (fun _ _ => ⟨rfl, e6', (by decide : 0 + 0 ≤ _), (by decide : 0 + 0 ≤ _)⟩)
  dsimp only [Pt.U, Pt.locs, Pt.cells, Pt.slots] at X8 l8 y8 z8 st8 hQ8
  replace l8 := l8.symm
  subst l8 y8 z8
  obtain ⟨rfl, rfl, e8⟩ := hQ8
  first | rw [List.append_nil] at X8 | skip
  refine Goes.tr st8 ?_
  have e8' : T8.heap = h0 := e8
  show Goes p e below _ (T8.setTop (mkF m 17 #[vr a, vr a2, vi (0 : Int32)] [(.int (1 : Int32))]))
  have hc17_9 : ¬ ((1 : Int32) = (0 : Int32)) := (by decide)
  refine Goes.via (fun _ kk_ => XS.ifNo X8.here hx rfl (hb hby d15_17) rfl ((if0 _ _).trans (feq hc17_9).1) kk_) ?_
  show Goes p e below _ (T8.setTop (mkF m 20 #[vr a, vr a2, vi (0 : Int32)] []))
  refine gALN X8 hx hby d15_20 rfl rfl ?_
  obtain ⟨T10, X10, e10, st10⟩ := getF X8 hx hZ hown (host := "") (Or.inl (own_w hw 24 rfl)) Via.refl e8' F2_a_value (g := (mkF m 21 #[vr a, vr a2, vi (0 : Int32)] [(.ref a)])) rfl rfl (hb hby d15_21)
  refine Goes.via st10 ?_
  show Goes p e below _ (T10.setTop (mkF m 24 #[vr a, vr a2, vi (0 : Int32)] [(.ref b)]))
  refine gALN X10 hx hby d15_24 rfl rfl ?_
  obtain ⟨T11, X11, e11, st11⟩ := getF X10 hx hZ hown (host := "") (Or.inl (own_w hw 24 rfl)) Via.refl e10 F6_a2_value (g := (mkF m 25 #[vr a, vr a2, vi (0 : Int32)] [(.ref a2), (.ref b)])) rfl rfl (hb hby d15_25)
  refine Goes.via st11 ?_
  show Goes p e below _ (T11.setTop (mkF m 28 #[vr a, vr a2, vi (0 : Int32)] [(.ref b2), (.ref b)]))
  obtain ⟨_, _, ⟨T12, L12, k12, n12⟩, -, X12, ⟨Lc12, hQ12, l12, y12, z12⟩, st12⟩ := Jvm.LawKit.callS X11 hx (y := (⟨"java/lang/StringLatin1", "indexOf", "([B[B)I"⟩ : MethodName)) hown (mvT hZ (own_w hw 78 rfl)) (mvT hZ (own_w hw 79 rfl)) (mvT hZ (own_w hw 27 rfl)) (mvT hZ (own_w hw 80 rfl)) (by decide) (backOf (W := 0) (rmT4 l Z a0 hw [] b b2 kc kd g h0 n0 (Nat.le_trans Z0 (Nat.le_refl _)) A3_b A7_b2 Hn0 Hn1 Hn2 Hn3 Hp0 Hp1 Hp2) hZ (own_w hw 80 rfl) (own_w hw 27 rfl) (by decide) (by decide)) (g := (mkF m 28 #[vr a, vr a2, vi (0 : Int32)] [(.ref b2), (.ref b)])) rfl (by rw [hml]; rfl) (argsL := [(.ref b), (.ref b2)]) (rest := []) (lenOf pd_16 rfl) rfl (by show 2 * 0 + _ ≤ _; exact Nat.le_of_eq rfl) (hb hby d15_28) (fun _ _ => ⟨rfl, e11, (by decide : 0 + 0 ≤ _), (by decide : 0 + 0 ≤ _)⟩)
  dsimp only [Pt.U, Pt.locs, Pt.cells, Pt.slots] at X12 l12 y12 z12 st12 hQ12
  replace l12 := l12.symm
  subst l12 y12 z12
  obtain ⟨rfl, rfl, e12⟩ := hQ12
  first | rw [List.append_nil] at X12 | skip
  refine Goes.via st12 ?_
  have e12' : T12.heap = h0 := e12
  show Goes p e below _ (T12.setTop (mkF m 31 #[vr a, vr a2, vi (0 : Int32)] [(.int (4 : Int32))]))
  refine Goes.via (fun _ kk_ => XS.goto X12.here hx rfl (pc0 := 31) (pc' := 45) rfl (hb hby d15_31) (by decide) (by decide) kk_) ?_
  show Goes p e below _ (T12.setTop (mkF m 45 #[vr a, vr a2, vi (0 : Int32)] [(.int (4 : Int32))]))
  exact own_finI X12 hx hlk hret (hb hby d15_45) (by rw [e12']; exact ⟨rfl, rfl, rfl⟩) (by first | decide | omega | (dsimp only; omega)) (by first | decide | omega | (dsimp only; omega))
theorem ef_rmS5 (m : MethodId) (b : Addr) (b2 : Addr) : entryFrame m #[(.ref b), (.int (16 : Int32)), (.ref b2), (.int (3 : Int32)), (.int (0 : Int32))] 11 = mkF m 0 #[.val (.ref b), .val (.int (16 : Int32)), .val (.ref b2), .val (.int (3 : Int32)), .val (.int (0 : Int32)), .unset, .unset, .unset, .unset, .unset, .unset] [] := by first | (simp [entryFrame, mkF, argsToLocals, Value.category]; done) | rfl
def QrmS5 (Z : State) (b : Addr) (b2 : Addr) (kc : ClassId) (kd : ClassId) (g : Nat → Int32) (h0 : Heap) (n0 : Nat) (v_ : Option Value) (h_ : Heap) (L_ : List Loc) : Prop := v_ = some (.int (5 : Int32)) ∧ L_ = [] ∧ h_ = h0
set_option maxRecDepth 65536 in
set_option maxHeartbeats 40000000 in
theorem rmS5 (l : Launch) (Z : State) (a0 : Array Value) (hw : ∀ d ∈ tables_1, d.before a0 Z = true) (ws : List Jvm.Cond) (b : Addr) (b2 : Addr) (kc : ClassId) (kd : ClassId) (g : Nat → Int32) (h0 : Heap) (n0 : Nat) (Z0 : n0 ≤ h0.size) (A0_b : Arw Z h0 b kc .byte 16 (fun i => .int (g i))) (A1_b2 : Arw Z h0 b2 kd .byte 3 (fun i => .int (own_gP i))) (Hn0 : g 0 ≠ (58 : Int32)) (Hn1 : g 1 ≠ (58 : Int32)) (Hn2 : g 2 ≠ (58 : Int32)) (Hn3 : g 3 ≠ (58 : Int32)) (Hn4 : g 4 ≠ (58 : Int32)) (Hp0 : g 5 = (58 : Int32)) (Hp1 : g 6 = (47 : Int32)) (Hp2 : g 7 = (47 : Int32)) :
    MetFree l (⟨"java/lang/StringLatin1", "indexOf", "([BI[BII)I"⟩ : MethodName) (head1 (Jvm.Cond.code (⟨"java/lang/StringLatin1", "indexOf", "([BI[BII)I"⟩ : MethodName) jdk_43_method_25_code 11 (some .int) :: ws) ({ frames := 0, cells := 0, slots := 0, locals := 0 } : Room)) (fun as_ U_ => as_ = #[(.ref b), (.int (16 : Int32)), (.ref b2), (.int (3 : Int32)), (.int (0 : Int32))] ∧ Z.Warmed39 U_.vm ∧ U_.heap = h0) (fun _ _ _ _ _ => True) (fun _ U_ o_ V_ => ∃ v_ L_, o_ = .returned v_ ∧ QrmS5 Z b b2 kc kd g h0 n0 v_ V_.heap L_ ∧ FrameEnd U_ o_ V_ L_ ({ frames := 0, cells := 0, slots := 0, locals := 0 } : Room).cells ({ frames := 0, cells := 0, slots := 0, locals := 0 } : Room).slots) := by
  refine MetFree.of_bodySF (plainFor_of_name pn_java_lang_StringLatin1) hisR ?_
  intro p e s m args below meth c s₁ Bd hml0 hP hK
  obtain ⟨rfl, hZ, hh⟩ := hP
  have hx := Bd.exec
  have hby := Bd.bytes
  have hlk : meth.locks = false := BodyLoose.notSynchronized Bd
  have hret := Bd.returns
  have hml : c.maxLocals = 11 := hml0
  have hown : s.vm.findClass "java/lang/StringLatin1" = some m.cls := findClass_of_methodNamed Bd.named
  have hnm := (name_of_methodNamed Bd.named Bd.method).1
  have X0 : Stand p l e ({ frames := 0, cells := 0, slots := 0, locals := 0 } : Room) s m #[(.ref b), (.int (16 : Int32)), (.ref b2), (.int (3 : Int32)), (.int (0 : Int32))] below meth c s₁ [] 0 0 := Stand.of_body Bd
  have e0 : s₁.heap = h0 := by rw [← hh, Bd.state]; rfl
  have N0 := Fr.nil n0
  show Goes p e below (Fin_ s (QrmS5 Z b b2 kc kd g h0 n0) ({ frames := 0, cells := 0, slots := 0, locals := 0 } : Room).cells ({ frames := 0, cells := 0, slots := 0, locals := 0 } : Room).slots) (s₁.setTop (entryFrame m #[(.ref b), (.int (16 : Int32)), (.ref b2), (.int (3 : Int32)), (.int (0 : Int32))] 11))
  rw [ef_rmS5 m b b2]
  refine gALN X0 hx hby d18_0 rfl rfl ?_
  refine gIC (z := 0) X0 hx hby d18_1 rfl ?_
  refine Goes.via (own_baload X0 hx hZ e0 A1_b2 (j := (0 : Int32)) (i := 0) (by decide) (by decide) (by decide) (v := (own_gP 0)) rfl (g := (mkF m 2 #[vr b, vi (16 : Int32), vr b2, vi (3 : Int32), vi (0 : Int32), .unset, .unset, .unset, .unset, .unset, .unset] [(.int (0 : Int32)), (.ref b2)])) rfl rfl (hb hby d18_2)) ?_
  show Goes p e below _ (s₁.setTop (mkF m 3 #[vr b, vi (16 : Int32), vr b2, vi (3 : Int32), vi (0 : Int32), .unset, .unset, .unset, .unset, .unset, .unset] [(.int (own_gP 0))]))
  refine Goes.via (fun _ kk_ => XS.istore X0.here hx rfl (hb hby d18_3) rfl (l' := #[vr b, vi (16 : Int32), vr b2, vi (3 : Int32), vi (0 : Int32), vi (own_gP 0), .unset, .unset, .unset, .unset, .unset]) rfl kk_) ?_
  show Goes p e below _ (s₁.setTop (mkF m 5 #[vr b, vi (16 : Int32), vr b2, vi (3 : Int32), vi (0 : Int32), vi (own_gP 0), .unset, .unset, .unset, .unset, .unset] []))
  refine gILN X0 hx hby d18_5 rfl ?_
  refine gILN X0 hx hby d18_6 rfl ?_
  refine Goes.via (fun _ kk_ => XS.isub X0.here hx rfl (hb hby d18_7) rfl kk_) ?_
  show Goes p e below _ (s₁.setTop (mkF m 8 #[vr b, vi (16 : Int32), vr b2, vi (3 : Int32), vi (0 : Int32), vi (own_gP 0), .unset, .unset, .unset, .unset, .unset] [(.int ((16 : Int32) - (3 : Int32)))]))
  rw [show ((16 : Int32) - (3 : Int32)) = (13 : Int32) from by decide]
  show Goes p e below _ (s₁.setTop (mkF m 8 #[vr b, vi (16 : Int32), vr b2, vi (3 : Int32), vi (0 : Int32), vi (own_gP 0), .unset, .unset, .unset, .unset, .unset] [(.int (13 : Int32))]))
  refine Goes.via (fun _ kk_ => XS.istore X0.here hx rfl (hb hby d18_8) rfl (l' := #[vr b, vi (16 : Int32), vr b2, vi (3 : Int32), vi (0 : Int32), vi (own_gP 0), vi (13 : Int32), .unset, .unset, .unset, .unset]) rfl kk_) ?_
  show Goes p e below _ (s₁.setTop (mkF m 10 #[vr b, vi (16 : Int32), vr b2, vi (3 : Int32), vi (0 : Int32), vi (own_gP 0), vi (13 : Int32), .unset, .unset, .unset, .unset] []))
  refine gIL X0 hx hby d18_10 rfl ?_
  refine Goes.via (fun _ kk_ => XS.istore X0.here hx rfl (hb hby d18_12) rfl (l' := #[vr b, vi (16 : Int32), vr b2, vi (3 : Int32), vi (0 : Int32), vi (own_gP 0), vi (13 : Int32), vi (0 : Int32), .unset, .unset, .unset]) rfl kk_) ?_
  show Goes p e below _ (s₁.setTop (mkF m 14 #[vr b, vi (16 : Int32), vr b2, vi (3 : Int32), vi (0 : Int32), vi (own_gP 0), vi (13 : Int32), vi (0 : Int32), .unset, .unset, .unset] []))
  refine gIL X0 hx hby d18_14 rfl ?_
  refine gIL X0 hx hby d18_16 rfl ?_
  have hc18_1 : ¬ ((13 : Int32) < (0 : Int32)) := (by decide)
  refine Goes.via (fun _ kk_ => XS.icmpNo X0.here hx rfl (hb hby d18_18) rfl (flt hc18_1).2.2.1 kk_) ?_
  show Goes p e below _ (s₁.setTop (mkF m 21 #[vr b, vi (16 : Int32), vr b2, vi (3 : Int32), vi (0 : Int32), vi (own_gP 0), vi (13 : Int32), vi (0 : Int32), .unset, .unset, .unset] []))
  refine gALN X0 hx hby d18_21 rfl rfl ?_
  refine gIL X0 hx hby d18_22 rfl ?_
  refine Goes.via (own_baload X0 hx hZ e0 A0_b (j := (0 : Int32)) (i := 0) (by decide) (by decide) (by decide) (v := (g 0)) rfl (g := (mkF m 24 #[vr b, vi (16 : Int32), vr b2, vi (3 : Int32), vi (0 : Int32), vi (own_gP 0), vi (13 : Int32), vi (0 : Int32), .unset, .unset, .unset] [(.int (0 : Int32)), (.ref b)])) rfl rfl (hb hby d18_24)) ?_
  show Goes p e below _ (s₁.setTop (mkF m 25 #[vr b, vi (16 : Int32), vr b2, vi (3 : Int32), vi (0 : Int32), vi (own_gP 0), vi (13 : Int32), vi (0 : Int32), .unset, .unset, .unset] [(.int (g 0))]))
  refine gIL X0 hx hby d18_25 rfl ?_
  have hc27_2 : ¬ ((g 0) = (own_gP 0)) := Hn0
  refine Goes.via (fun _ kk_ => XS.icmpNo X0.here hx rfl (hb hby d18_27) rfl (feq hc27_2).1 kk_) ?_
  show Goes p e below _ (s₁.setTop (mkF m 30 #[vr b, vi (16 : Int32), vr b2, vi (3 : Int32), vi (0 : Int32), vi (own_gP 0), vi (13 : Int32), vi (0 : Int32), .unset, .unset, .unset] []))
  refine Goes.via (fun _ kk_ => XS.iinc X0.here hx rfl (hb hby d18_30) rfl (l' := #[vr b, vi (16 : Int32), vr b2, vi (3 : Int32), vi (0 : Int32), vi (own_gP 0), vi (13 : Int32), vi ((0 : Int32) + (1 : Int32)), .unset, .unset, .unset]) rfl kk_) ?_
  show Goes p e below _ (s₁.setTop (mkF m 33 #[vr b, vi (16 : Int32), vr b2, vi (3 : Int32), vi (0 : Int32), vi (own_gP 0), vi (13 : Int32), vi ((0 : Int32) + (1 : Int32)), .unset, .unset, .unset] []))
  rw [show ((0 : Int32) + (1 : Int32)) = (1 : Int32) from by decide]
  show Goes p e below _ (s₁.setTop (mkF m 33 #[vr b, vi (16 : Int32), vr b2, vi (3 : Int32), vi (0 : Int32), vi (own_gP 0), vi (13 : Int32), vi (1 : Int32), .unset, .unset, .unset] []))
  refine gIL X0 hx hby d18_33 rfl ?_
  refine gIL X0 hx hby d18_35 rfl ?_
  have hc37_3 : ¬ ((13 : Int32) < (1 : Int32)) := (by decide)
  refine Goes.via (fun _ kk_ => XS.icmpNo X0.here hx rfl (hb hby d18_37) rfl (flt hc37_3).2.2.1 kk_) ?_
  show Goes p e below _ (s₁.setTop (mkF m 40 #[vr b, vi (16 : Int32), vr b2, vi (3 : Int32), vi (0 : Int32), vi (own_gP 0), vi (13 : Int32), vi (1 : Int32), .unset, .unset, .unset] []))
  refine gALN X0 hx hby d18_40 rfl rfl ?_
  refine gIL X0 hx hby d18_41 rfl ?_
  refine Goes.via (own_baload X0 hx hZ e0 A0_b (j := (1 : Int32)) (i := 1) (by decide) (by decide) (by decide) (v := (g 1)) rfl (g := (mkF m 43 #[vr b, vi (16 : Int32), vr b2, vi (3 : Int32), vi (0 : Int32), vi (own_gP 0), vi (13 : Int32), vi (1 : Int32), .unset, .unset, .unset] [(.int (1 : Int32)), (.ref b)])) rfl rfl (hb hby d18_43)) ?_
  show Goes p e below _ (s₁.setTop (mkF m 44 #[vr b, vi (16 : Int32), vr b2, vi (3 : Int32), vi (0 : Int32), vi (own_gP 0), vi (13 : Int32), vi (1 : Int32), .unset, .unset, .unset] [(.int (g 1))]))
  refine gIL X0 hx hby d18_44 rfl ?_
  have hc46_4 : ¬ ((g 1) = (own_gP 0)) := Hn1
  refine Goes.via (fun _ kk_ => XS.icmpNo X0.here hx rfl (hb hby d18_46) rfl (feq hc46_4).1 kk_) ?_
  show Goes p e below _ (s₁.setTop (mkF m 49 #[vr b, vi (16 : Int32), vr b2, vi (3 : Int32), vi (0 : Int32), vi (own_gP 0), vi (13 : Int32), vi (1 : Int32), .unset, .unset, .unset] []))
  refine Goes.via (fun _ kk_ => XS.goto X0.here hx rfl (pc0 := 49) (pc' := 30) rfl (hb hby d18_49) (by decide) (by decide) kk_) ?_
  show Goes p e below _ (s₁.setTop (mkF m 30 #[vr b, vi (16 : Int32), vr b2, vi (3 : Int32), vi (0 : Int32), vi (own_gP 0), vi (13 : Int32), vi (1 : Int32), .unset, .unset, .unset] []))
  refine Goes.via (fun _ kk_ => XS.iinc X0.here hx rfl (hb hby d18_30) rfl (l' := #[vr b, vi (16 : Int32), vr b2, vi (3 : Int32), vi (0 : Int32), vi (own_gP 0), vi (13 : Int32), vi ((1 : Int32) + (1 : Int32)), .unset, .unset, .unset]) rfl kk_) ?_
  show Goes p e below _ (s₁.setTop (mkF m 33 #[vr b, vi (16 : Int32), vr b2, vi (3 : Int32), vi (0 : Int32), vi (own_gP 0), vi (13 : Int32), vi ((1 : Int32) + (1 : Int32)), .unset, .unset, .unset] []))
  rw [show ((1 : Int32) + (1 : Int32)) = (2 : Int32) from by decide]
  show Goes p e below _ (s₁.setTop (mkF m 33 #[vr b, vi (16 : Int32), vr b2, vi (3 : Int32), vi (0 : Int32), vi (own_gP 0), vi (13 : Int32), vi (2 : Int32), .unset, .unset, .unset] []))
  refine gIL X0 hx hby d18_33 rfl ?_
  refine gIL X0 hx hby d18_35 rfl ?_
  have hc37_5 : ¬ ((13 : Int32) < (2 : Int32)) := (by decide)
  refine Goes.via (fun _ kk_ => XS.icmpNo X0.here hx rfl (hb hby d18_37) rfl (flt hc37_5).2.2.1 kk_) ?_
  show Goes p e below _ (s₁.setTop (mkF m 40 #[vr b, vi (16 : Int32), vr b2, vi (3 : Int32), vi (0 : Int32), vi (own_gP 0), vi (13 : Int32), vi (2 : Int32), .unset, .unset, .unset] []))
  refine gALN X0 hx hby d18_40 rfl rfl ?_
  refine gIL X0 hx hby d18_41 rfl ?_
  refine Goes.via (own_baload X0 hx hZ e0 A0_b (j := (2 : Int32)) (i := 2) (by decide) (by decide) (by decide) (v := (g 2)) rfl (g := (mkF m 43 #[vr b, vi (16 : Int32), vr b2, vi (3 : Int32), vi (0 : Int32), vi (own_gP 0), vi (13 : Int32), vi (2 : Int32), .unset, .unset, .unset] [(.int (2 : Int32)), (.ref b)])) rfl rfl (hb hby d18_43)) ?_
  show Goes p e below _ (s₁.setTop (mkF m 44 #[vr b, vi (16 : Int32), vr b2, vi (3 : Int32), vi (0 : Int32), vi (own_gP 0), vi (13 : Int32), vi (2 : Int32), .unset, .unset, .unset] [(.int (g 2))]))
  refine gIL X0 hx hby d18_44 rfl ?_
  have hc46_6 : ¬ ((g 2) = (own_gP 0)) := Hn2
  refine Goes.via (fun _ kk_ => XS.icmpNo X0.here hx rfl (hb hby d18_46) rfl (feq hc46_6).1 kk_) ?_
  show Goes p e below _ (s₁.setTop (mkF m 49 #[vr b, vi (16 : Int32), vr b2, vi (3 : Int32), vi (0 : Int32), vi (own_gP 0), vi (13 : Int32), vi (2 : Int32), .unset, .unset, .unset] []))
  refine Goes.via (fun _ kk_ => XS.goto X0.here hx rfl (pc0 := 49) (pc' := 30) rfl (hb hby d18_49) (by decide) (by decide) kk_) ?_
  show Goes p e below _ (s₁.setTop (mkF m 30 #[vr b, vi (16 : Int32), vr b2, vi (3 : Int32), vi (0 : Int32), vi (own_gP 0), vi (13 : Int32), vi (2 : Int32), .unset, .unset, .unset] []))
  refine Goes.via (fun _ kk_ => XS.iinc X0.here hx rfl (hb hby d18_30) rfl (l' := #[vr b, vi (16 : Int32), vr b2, vi (3 : Int32), vi (0 : Int32), vi (own_gP 0), vi (13 : Int32), vi ((2 : Int32) + (1 : Int32)), .unset, .unset, .unset]) rfl kk_) ?_
  show Goes p e below _ (s₁.setTop (mkF m 33 #[vr b, vi (16 : Int32), vr b2, vi (3 : Int32), vi (0 : Int32), vi (own_gP 0), vi (13 : Int32), vi ((2 : Int32) + (1 : Int32)), .unset, .unset, .unset] []))
  rw [show ((2 : Int32) + (1 : Int32)) = (3 : Int32) from by decide]
  show Goes p e below _ (s₁.setTop (mkF m 33 #[vr b, vi (16 : Int32), vr b2, vi (3 : Int32), vi (0 : Int32), vi (own_gP 0), vi (13 : Int32), vi (3 : Int32), .unset, .unset, .unset] []))
  refine gIL X0 hx hby d18_33 rfl ?_
  refine gIL X0 hx hby d18_35 rfl ?_
  have hc37_7 : ¬ ((13 : Int32) < (3 : Int32)) := (by decide)
  refine Goes.via (fun _ kk_ => XS.icmpNo X0.here hx rfl (hb hby d18_37) rfl (flt hc37_7).2.2.1 kk_) ?_
  show Goes p e below _ (s₁.setTop (mkF m 40 #[vr b, vi (16 : Int32), vr b2, vi (3 : Int32), vi (0 : Int32), vi (own_gP 0), vi (13 : Int32), vi (3 : Int32), .unset, .unset, .unset] []))
  refine gALN X0 hx hby d18_40 rfl rfl ?_
  refine gIL X0 hx hby d18_41 rfl ?_
  refine Goes.via (own_baload X0 hx hZ e0 A0_b (j := (3 : Int32)) (i := 3) (by decide) (by decide) (by decide) (v := (g 3)) rfl (g := (mkF m 43 #[vr b, vi (16 : Int32), vr b2, vi (3 : Int32), vi (0 : Int32), vi (own_gP 0), vi (13 : Int32), vi (3 : Int32), .unset, .unset, .unset] [(.int (3 : Int32)), (.ref b)])) rfl rfl (hb hby d18_43)) ?_
  show Goes p e below _ (s₁.setTop (mkF m 44 #[vr b, vi (16 : Int32), vr b2, vi (3 : Int32), vi (0 : Int32), vi (own_gP 0), vi (13 : Int32), vi (3 : Int32), .unset, .unset, .unset] [(.int (g 3))]))
  refine gIL X0 hx hby d18_44 rfl ?_
  have hc46_8 : ¬ ((g 3) = (own_gP 0)) := Hn3
  refine Goes.via (fun _ kk_ => XS.icmpNo X0.here hx rfl (hb hby d18_46) rfl (feq hc46_8).1 kk_) ?_
  show Goes p e below _ (s₁.setTop (mkF m 49 #[vr b, vi (16 : Int32), vr b2, vi (3 : Int32), vi (0 : Int32), vi (own_gP 0), vi (13 : Int32), vi (3 : Int32), .unset, .unset, .unset] []))
  refine Goes.via (fun _ kk_ => XS.goto X0.here hx rfl (pc0 := 49) (pc' := 30) rfl (hb hby d18_49) (by decide) (by decide) kk_) ?_
  show Goes p e below _ (s₁.setTop (mkF m 30 #[vr b, vi (16 : Int32), vr b2, vi (3 : Int32), vi (0 : Int32), vi (own_gP 0), vi (13 : Int32), vi (3 : Int32), .unset, .unset, .unset] []))
  refine Goes.via (fun _ kk_ => XS.iinc X0.here hx rfl (hb hby d18_30) rfl (l' := #[vr b, vi (16 : Int32), vr b2, vi (3 : Int32), vi (0 : Int32), vi (own_gP 0), vi (13 : Int32), vi ((3 : Int32) + (1 : Int32)), .unset, .unset, .unset]) rfl kk_) ?_
  show Goes p e below _ (s₁.setTop (mkF m 33 #[vr b, vi (16 : Int32), vr b2, vi (3 : Int32), vi (0 : Int32), vi (own_gP 0), vi (13 : Int32), vi ((3 : Int32) + (1 : Int32)), .unset, .unset, .unset] []))
  rw [show ((3 : Int32) + (1 : Int32)) = (4 : Int32) from by decide]
  show Goes p e below _ (s₁.setTop (mkF m 33 #[vr b, vi (16 : Int32), vr b2, vi (3 : Int32), vi (0 : Int32), vi (own_gP 0), vi (13 : Int32), vi (4 : Int32), .unset, .unset, .unset] []))
  refine gIL X0 hx hby d18_33 rfl ?_
  refine gIL X0 hx hby d18_35 rfl ?_
  have hc37_9 : ¬ ((13 : Int32) < (4 : Int32)) := (by decide)
  refine Goes.via (fun _ kk_ => XS.icmpNo X0.here hx rfl (hb hby d18_37) rfl (flt hc37_9).2.2.1 kk_) ?_
  show Goes p e below _ (s₁.setTop (mkF m 40 #[vr b, vi (16 : Int32), vr b2, vi (3 : Int32), vi (0 : Int32), vi (own_gP 0), vi (13 : Int32), vi (4 : Int32), .unset, .unset, .unset] []))
  refine gALN X0 hx hby d18_40 rfl rfl ?_
  refine gIL X0 hx hby d18_41 rfl ?_
  refine Goes.via (own_baload X0 hx hZ e0 A0_b (j := (4 : Int32)) (i := 4) (by decide) (by decide) (by decide) (v := (g 4)) rfl (g := (mkF m 43 #[vr b, vi (16 : Int32), vr b2, vi (3 : Int32), vi (0 : Int32), vi (own_gP 0), vi (13 : Int32), vi (4 : Int32), .unset, .unset, .unset] [(.int (4 : Int32)), (.ref b)])) rfl rfl (hb hby d18_43)) ?_
  show Goes p e below _ (s₁.setTop (mkF m 44 #[vr b, vi (16 : Int32), vr b2, vi (3 : Int32), vi (0 : Int32), vi (own_gP 0), vi (13 : Int32), vi (4 : Int32), .unset, .unset, .unset] [(.int (g 4))]))
  refine gIL X0 hx hby d18_44 rfl ?_
  have hc46_10 : ¬ ((g 4) = (own_gP 0)) := Hn4
  refine Goes.via (fun _ kk_ => XS.icmpNo X0.here hx rfl (hb hby d18_46) rfl (feq hc46_10).1 kk_) ?_
  show Goes p e below _ (s₁.setTop (mkF m 49 #[vr b, vi (16 : Int32), vr b2, vi (3 : Int32), vi (0 : Int32), vi (own_gP 0), vi (13 : Int32), vi (4 : Int32), .unset, .unset, .unset] []))
  refine Goes.via (fun _ kk_ => XS.goto X0.here hx rfl (pc0 := 49) (pc' := 30) rfl (hb hby d18_49) (by decide) (by decide) kk_) ?_
  show Goes p e below _ (s₁.setTop (mkF m 30 #[vr b, vi (16 : Int32), vr b2, vi (3 : Int32), vi (0 : Int32), vi (own_gP 0), vi (13 : Int32), vi (4 : Int32), .unset, .unset, .unset] []))
  refine Goes.via (fun _ kk_ => XS.iinc X0.here hx rfl (hb hby d18_30) rfl (l' := #[vr b, vi (16 : Int32), vr b2, vi (3 : Int32), vi (0 : Int32), vi (own_gP 0), vi (13 : Int32), vi ((4 : Int32) + (1 : Int32)), .unset, .unset, .unset]) rfl kk_) ?_
  show Goes p e below _ (s₁.setTop (mkF m 33 #[vr b, vi (16 : Int32), vr b2, vi (3 : Int32), vi (0 : Int32), vi (own_gP 0), vi (13 : Int32), vi ((4 : Int32) + (1 : Int32)), .unset, .unset, .unset] []))
  rw [show ((4 : Int32) + (1 : Int32)) = (5 : Int32) from by decide]
  show Goes p e below _ (s₁.setTop (mkF m 33 #[vr b, vi (16 : Int32), vr b2, vi (3 : Int32), vi (0 : Int32), vi (own_gP 0), vi (13 : Int32), vi (5 : Int32), .unset, .unset, .unset] []))
  refine gIL X0 hx hby d18_33 rfl ?_
  refine gIL X0 hx hby d18_35 rfl ?_
  have hc37_11 : ¬ ((13 : Int32) < (5 : Int32)) := (by decide)
  refine Goes.via (fun _ kk_ => XS.icmpNo X0.here hx rfl (hb hby d18_37) rfl (flt hc37_11).2.2.1 kk_) ?_
  show Goes p e below _ (s₁.setTop (mkF m 40 #[vr b, vi (16 : Int32), vr b2, vi (3 : Int32), vi (0 : Int32), vi (own_gP 0), vi (13 : Int32), vi (5 : Int32), .unset, .unset, .unset] []))
  refine gALN X0 hx hby d18_40 rfl rfl ?_
  refine gIL X0 hx hby d18_41 rfl ?_
  refine Goes.via (own_baload X0 hx hZ e0 A0_b (j := (5 : Int32)) (i := 5) (by decide) (by decide) (by decide) (v := (g 5)) rfl (g := (mkF m 43 #[vr b, vi (16 : Int32), vr b2, vi (3 : Int32), vi (0 : Int32), vi (own_gP 0), vi (13 : Int32), vi (5 : Int32), .unset, .unset, .unset] [(.int (5 : Int32)), (.ref b)])) rfl rfl (hb hby d18_43)) ?_
  show Goes p e below _ (s₁.setTop (mkF m 44 #[vr b, vi (16 : Int32), vr b2, vi (3 : Int32), vi (0 : Int32), vi (own_gP 0), vi (13 : Int32), vi (5 : Int32), .unset, .unset, .unset] [(.int (g 5))]))
  refine gIL X0 hx hby d18_44 rfl ?_
  have hc46_12 : (g 5) = (own_gP 0) := Hp0
  refine Goes.via (fun _ kk_ => XS.icmpYes X0.here hx rfl (pc0 := 46) (pc' := 52) rfl (hb hby d18_46) rfl (teq hc46_12).1 (by decide) (by decide) kk_) ?_
  show Goes p e below _ (s₁.setTop (mkF m 52 #[vr b, vi (16 : Int32), vr b2, vi (3 : Int32), vi (0 : Int32), vi (own_gP 0), vi (13 : Int32), vi (5 : Int32), .unset, .unset, .unset] []))
  refine gIL X0 hx hby d18_52 rfl ?_
  refine gIL X0 hx hby d18_54 rfl ?_
  have hc56_13 : ¬ ((13 : Int32) < (5 : Int32)) := (by decide)
  refine Goes.via (fun _ kk_ => XS.icmpNo X0.here hx rfl (hb hby d18_56) rfl (flt hc56_13).2.2.1 kk_) ?_
  show Goes p e below _ (s₁.setTop (mkF m 59 #[vr b, vi (16 : Int32), vr b2, vi (3 : Int32), vi (0 : Int32), vi (own_gP 0), vi (13 : Int32), vi (5 : Int32), .unset, .unset, .unset] []))
  refine gIL X0 hx hby d18_59 rfl ?_
  refine gIC (z := 1) X0 hx hby d18_61 rfl ?_
  refine Goes.via (fun _ kk_ => XS.iadd X0.here hx rfl (hb hby d18_62) rfl kk_) ?_
  show Goes p e below _ (s₁.setTop (mkF m 63 #[vr b, vi (16 : Int32), vr b2, vi (3 : Int32), vi (0 : Int32), vi (own_gP 0), vi (13 : Int32), vi (5 : Int32), .unset, .unset, .unset] [(.int ((5 : Int32) + (1 : Int32)))]))
  rw [show ((5 : Int32) + (1 : Int32)) = (6 : Int32) from by decide]
  show Goes p e below _ (s₁.setTop (mkF m 63 #[vr b, vi (16 : Int32), vr b2, vi (3 : Int32), vi (0 : Int32), vi (own_gP 0), vi (13 : Int32), vi (5 : Int32), .unset, .unset, .unset] [(.int (6 : Int32))]))
  refine Goes.via (fun _ kk_ => XS.istore X0.here hx rfl (hb hby d18_63) rfl (l' := #[vr b, vi (16 : Int32), vr b2, vi (3 : Int32), vi (0 : Int32), vi (own_gP 0), vi (13 : Int32), vi (5 : Int32), vi (6 : Int32), .unset, .unset]) rfl kk_) ?_
  show Goes p e below _ (s₁.setTop (mkF m 65 #[vr b, vi (16 : Int32), vr b2, vi (3 : Int32), vi (0 : Int32), vi (own_gP 0), vi (13 : Int32), vi (5 : Int32), vi (6 : Int32), .unset, .unset] []))
  refine gIL X0 hx hby d18_65 rfl ?_
  refine gILN X0 hx hby d18_67 rfl ?_
  refine Goes.via (fun _ kk_ => XS.iadd X0.here hx rfl (hb hby d18_68) rfl kk_) ?_
  show Goes p e below _ (s₁.setTop (mkF m 69 #[vr b, vi (16 : Int32), vr b2, vi (3 : Int32), vi (0 : Int32), vi (own_gP 0), vi (13 : Int32), vi (5 : Int32), vi (6 : Int32), .unset, .unset] [(.int ((6 : Int32) + (3 : Int32)))]))
  rw [show ((6 : Int32) + (3 : Int32)) = (9 : Int32) from by decide]
  show Goes p e below _ (s₁.setTop (mkF m 69 #[vr b, vi (16 : Int32), vr b2, vi (3 : Int32), vi (0 : Int32), vi (own_gP 0), vi (13 : Int32), vi (5 : Int32), vi (6 : Int32), .unset, .unset] [(.int (9 : Int32))]))
  refine gIC (z := 1) X0 hx hby d18_69 rfl ?_
  refine Goes.via (fun _ kk_ => XS.isub X0.here hx rfl (hb hby d18_70) rfl kk_) ?_
  show Goes p e below _ (s₁.setTop (mkF m 71 #[vr b, vi (16 : Int32), vr b2, vi (3 : Int32), vi (0 : Int32), vi (own_gP 0), vi (13 : Int32), vi (5 : Int32), vi (6 : Int32), .unset, .unset] [(.int ((9 : Int32) - (1 : Int32)))]))
  rw [show ((9 : Int32) - (1 : Int32)) = (8 : Int32) from by decide]
  show Goes p e below _ (s₁.setTop (mkF m 71 #[vr b, vi (16 : Int32), vr b2, vi (3 : Int32), vi (0 : Int32), vi (own_gP 0), vi (13 : Int32), vi (5 : Int32), vi (6 : Int32), .unset, .unset] [(.int (8 : Int32))]))
  refine Goes.via (fun _ kk_ => XS.istore X0.here hx rfl (hb hby d18_71) rfl (l' := #[vr b, vi (16 : Int32), vr b2, vi (3 : Int32), vi (0 : Int32), vi (own_gP 0), vi (13 : Int32), vi (5 : Int32), vi (6 : Int32), vi (8 : Int32), .unset]) rfl kk_) ?_
  show Goes p e below _ (s₁.setTop (mkF m 73 #[vr b, vi (16 : Int32), vr b2, vi (3 : Int32), vi (0 : Int32), vi (own_gP 0), vi (13 : Int32), vi (5 : Int32), vi (6 : Int32), vi (8 : Int32), .unset] []))
  refine gIC (z := 1) X0 hx hby d18_73 rfl ?_
  refine Goes.via (fun _ kk_ => XS.istore X0.here hx rfl (hb hby d18_74) rfl (l' := #[vr b, vi (16 : Int32), vr b2, vi (3 : Int32), vi (0 : Int32), vi (own_gP 0), vi (13 : Int32), vi (5 : Int32), vi (6 : Int32), vi (8 : Int32), vi (1 : Int32)]) rfl kk_) ?_
  show Goes p e below _ (s₁.setTop (mkF m 76 #[vr b, vi (16 : Int32), vr b2, vi (3 : Int32), vi (0 : Int32), vi (own_gP 0), vi (13 : Int32), vi (5 : Int32), vi (6 : Int32), vi (8 : Int32), vi (1 : Int32)] []))
  refine gIL X0 hx hby d18_76 rfl ?_
  refine gIL X0 hx hby d18_78 rfl ?_
  have hc80_14 : (6 : Int32) < (8 : Int32) := (by decide)
  refine Goes.via (fun _ kk_ => XS.icmpNo X0.here hx rfl (hb hby d18_80) rfl (tlt hc80_14).2.1 kk_) ?_
  show Goes p e below _ (s₁.setTop (mkF m 83 #[vr b, vi (16 : Int32), vr b2, vi (3 : Int32), vi (0 : Int32), vi (own_gP 0), vi (13 : Int32), vi (5 : Int32), vi (6 : Int32), vi (8 : Int32), vi (1 : Int32)] []))
  refine gALN X0 hx hby d18_83 rfl rfl ?_
  refine gIL X0 hx hby d18_84 rfl ?_
  refine Goes.via (own_baload X0 hx hZ e0 A0_b (j := (6 : Int32)) (i := 6) (by decide) (by decide) (by decide) (v := (g 6)) rfl (g := (mkF m 86 #[vr b, vi (16 : Int32), vr b2, vi (3 : Int32), vi (0 : Int32), vi (own_gP 0), vi (13 : Int32), vi (5 : Int32), vi (6 : Int32), vi (8 : Int32), vi (1 : Int32)] [(.int (6 : Int32)), (.ref b)])) rfl rfl (hb hby d18_86)) ?_
  show Goes p e below _ (s₁.setTop (mkF m 87 #[vr b, vi (16 : Int32), vr b2, vi (3 : Int32), vi (0 : Int32), vi (own_gP 0), vi (13 : Int32), vi (5 : Int32), vi (6 : Int32), vi (8 : Int32), vi (1 : Int32)] [(.int (g 6))]))
  refine gALN X0 hx hby d18_87 rfl rfl ?_
  refine gIL X0 hx hby d18_88 rfl ?_
  refine Goes.via (own_baload X0 hx hZ e0 A1_b2 (j := (1 : Int32)) (i := 1) (by decide) (by decide) (by decide) (v := (own_gP 1)) rfl (g := (mkF m 90 #[vr b, vi (16 : Int32), vr b2, vi (3 : Int32), vi (0 : Int32), vi (own_gP 0), vi (13 : Int32), vi (5 : Int32), vi (6 : Int32), vi (8 : Int32), vi (1 : Int32)] [(.int (1 : Int32)), (.ref b2), (.int (g 6))])) rfl rfl (hb hby d18_90)) ?_
  show Goes p e below _ (s₁.setTop (mkF m 91 #[vr b, vi (16 : Int32), vr b2, vi (3 : Int32), vi (0 : Int32), vi (own_gP 0), vi (13 : Int32), vi (5 : Int32), vi (6 : Int32), vi (8 : Int32), vi (1 : Int32)] [(.int (own_gP 1)), (.int (g 6))]))
  have hc91_15 : (g 6) = (own_gP 1) := Hp1
  refine Goes.via (fun _ kk_ => XS.icmpNo X0.here hx rfl (hb hby d18_91) rfl (teq hc91_15).2 kk_) ?_
  show Goes p e below _ (s₁.setTop (mkF m 94 #[vr b, vi (16 : Int32), vr b2, vi (3 : Int32), vi (0 : Int32), vi (own_gP 0), vi (13 : Int32), vi (5 : Int32), vi (6 : Int32), vi (8 : Int32), vi (1 : Int32)] []))
  refine Goes.via (fun _ kk_ => XS.iinc X0.here hx rfl (hb hby d18_94) rfl (l' := #[vr b, vi (16 : Int32), vr b2, vi (3 : Int32), vi (0 : Int32), vi (own_gP 0), vi (13 : Int32), vi (5 : Int32), vi ((6 : Int32) + (1 : Int32)), vi (8 : Int32), vi (1 : Int32)]) rfl kk_) ?_
  show Goes p e below _ (s₁.setTop (mkF m 97 #[vr b, vi (16 : Int32), vr b2, vi (3 : Int32), vi (0 : Int32), vi (own_gP 0), vi (13 : Int32), vi (5 : Int32), vi ((6 : Int32) + (1 : Int32)), vi (8 : Int32), vi (1 : Int32)] []))
  rw [show ((6 : Int32) + (1 : Int32)) = (7 : Int32) from by decide]
  show Goes p e below _ (s₁.setTop (mkF m 97 #[vr b, vi (16 : Int32), vr b2, vi (3 : Int32), vi (0 : Int32), vi (own_gP 0), vi (13 : Int32), vi (5 : Int32), vi (7 : Int32), vi (8 : Int32), vi (1 : Int32)] []))
  refine Goes.via (fun _ kk_ => XS.iinc X0.here hx rfl (hb hby d18_97) rfl (l' := #[vr b, vi (16 : Int32), vr b2, vi (3 : Int32), vi (0 : Int32), vi (own_gP 0), vi (13 : Int32), vi (5 : Int32), vi (7 : Int32), vi (8 : Int32), vi ((1 : Int32) + (1 : Int32))]) rfl kk_) ?_
  show Goes p e below _ (s₁.setTop (mkF m 100 #[vr b, vi (16 : Int32), vr b2, vi (3 : Int32), vi (0 : Int32), vi (own_gP 0), vi (13 : Int32), vi (5 : Int32), vi (7 : Int32), vi (8 : Int32), vi ((1 : Int32) + (1 : Int32))] []))
  rw [show ((1 : Int32) + (1 : Int32)) = (2 : Int32) from by decide]
  show Goes p e below _ (s₁.setTop (mkF m 100 #[vr b, vi (16 : Int32), vr b2, vi (3 : Int32), vi (0 : Int32), vi (own_gP 0), vi (13 : Int32), vi (5 : Int32), vi (7 : Int32), vi (8 : Int32), vi (2 : Int32)] []))
  refine Goes.via (fun _ kk_ => XS.goto X0.here hx rfl (pc0 := 100) (pc' := 76) rfl (hb hby d18_100) (by decide) (by decide) kk_) ?_
  show Goes p e below _ (s₁.setTop (mkF m 76 #[vr b, vi (16 : Int32), vr b2, vi (3 : Int32), vi (0 : Int32), vi (own_gP 0), vi (13 : Int32), vi (5 : Int32), vi (7 : Int32), vi (8 : Int32), vi (2 : Int32)] []))
  refine gIL X0 hx hby d18_76 rfl ?_
  refine gIL X0 hx hby d18_78 rfl ?_
  have hc80_16 : (7 : Int32) < (8 : Int32) := (by decide)
  refine Goes.via (fun _ kk_ => XS.icmpNo X0.here hx rfl (hb hby d18_80) rfl (tlt hc80_16).2.1 kk_) ?_
  show Goes p e below _ (s₁.setTop (mkF m 83 #[vr b, vi (16 : Int32), vr b2, vi (3 : Int32), vi (0 : Int32), vi (own_gP 0), vi (13 : Int32), vi (5 : Int32), vi (7 : Int32), vi (8 : Int32), vi (2 : Int32)] []))
  refine gALN X0 hx hby d18_83 rfl rfl ?_
  refine gIL X0 hx hby d18_84 rfl ?_
  refine Goes.via (own_baload X0 hx hZ e0 A0_b (j := (7 : Int32)) (i := 7) (by decide) (by decide) (by decide) (v := (g 7)) rfl (g := (mkF m 86 #[vr b, vi (16 : Int32), vr b2, vi (3 : Int32), vi (0 : Int32), vi (own_gP 0), vi (13 : Int32), vi (5 : Int32), vi (7 : Int32), vi (8 : Int32), vi (2 : Int32)] [(.int (7 : Int32)), (.ref b)])) rfl rfl (hb hby d18_86)) ?_
  show Goes p e below _ (s₁.setTop (mkF m 87 #[vr b, vi (16 : Int32), vr b2, vi (3 : Int32), vi (0 : Int32), vi (own_gP 0), vi (13 : Int32), vi (5 : Int32), vi (7 : Int32), vi (8 : Int32), vi (2 : Int32)] [(.int (g 7))]))
  refine gALN X0 hx hby d18_87 rfl rfl ?_
  refine gIL X0 hx hby d18_88 rfl ?_
  refine Goes.via (own_baload X0 hx hZ e0 A1_b2 (j := (2 : Int32)) (i := 2) (by decide) (by decide) (by decide) (v := (own_gP 2)) rfl (g := (mkF m 90 #[vr b, vi (16 : Int32), vr b2, vi (3 : Int32), vi (0 : Int32), vi (own_gP 0), vi (13 : Int32), vi (5 : Int32), vi (7 : Int32), vi (8 : Int32), vi (2 : Int32)] [(.int (2 : Int32)), (.ref b2), (.int (g 7))])) rfl rfl (hb hby d18_90)) ?_
  show Goes p e below _ (s₁.setTop (mkF m 91 #[vr b, vi (16 : Int32), vr b2, vi (3 : Int32), vi (0 : Int32), vi (own_gP 0), vi (13 : Int32), vi (5 : Int32), vi (7 : Int32), vi (8 : Int32), vi (2 : Int32)] [(.int (own_gP 2)), (.int (g 7))]))
  have hc91_17 : (g 7) = (own_gP 2) := Hp2
  refine Goes.via (fun _ kk_ => XS.icmpNo X0.here hx rfl (hb hby d18_91) rfl (teq hc91_17).2 kk_) ?_
  show Goes p e below _ (s₁.setTop (mkF m 94 #[vr b, vi (16 : Int32), vr b2, vi (3 : Int32), vi (0 : Int32), vi (own_gP 0), vi (13 : Int32), vi (5 : Int32), vi (7 : Int32), vi (8 : Int32), vi (2 : Int32)] []))
  refine Goes.via (fun _ kk_ => XS.iinc X0.here hx rfl (hb hby d18_94) rfl (l' := #[vr b, vi (16 : Int32), vr b2, vi (3 : Int32), vi (0 : Int32), vi (own_gP 0), vi (13 : Int32), vi (5 : Int32), vi ((7 : Int32) + (1 : Int32)), vi (8 : Int32), vi (2 : Int32)]) rfl kk_) ?_
  show Goes p e below _ (s₁.setTop (mkF m 97 #[vr b, vi (16 : Int32), vr b2, vi (3 : Int32), vi (0 : Int32), vi (own_gP 0), vi (13 : Int32), vi (5 : Int32), vi ((7 : Int32) + (1 : Int32)), vi (8 : Int32), vi (2 : Int32)] []))
  rw [show ((7 : Int32) + (1 : Int32)) = (8 : Int32) from by decide]
  show Goes p e below _ (s₁.setTop (mkF m 97 #[vr b, vi (16 : Int32), vr b2, vi (3 : Int32), vi (0 : Int32), vi (own_gP 0), vi (13 : Int32), vi (5 : Int32), vi (8 : Int32), vi (8 : Int32), vi (2 : Int32)] []))
  refine Goes.via (fun _ kk_ => XS.iinc X0.here hx rfl (hb hby d18_97) rfl (l' := #[vr b, vi (16 : Int32), vr b2, vi (3 : Int32), vi (0 : Int32), vi (own_gP 0), vi (13 : Int32), vi (5 : Int32), vi (8 : Int32), vi (8 : Int32), vi ((2 : Int32) + (1 : Int32))]) rfl kk_) ?_
  show Goes p e below _ (s₁.setTop (mkF m 100 #[vr b, vi (16 : Int32), vr b2, vi (3 : Int32), vi (0 : Int32), vi (own_gP 0), vi (13 : Int32), vi (5 : Int32), vi (8 : Int32), vi (8 : Int32), vi ((2 : Int32) + (1 : Int32))] []))
  rw [show ((2 : Int32) + (1 : Int32)) = (3 : Int32) from by decide]
  show Goes p e below _ (s₁.setTop (mkF m 100 #[vr b, vi (16 : Int32), vr b2, vi (3 : Int32), vi (0 : Int32), vi (own_gP 0), vi (13 : Int32), vi (5 : Int32), vi (8 : Int32), vi (8 : Int32), vi (3 : Int32)] []))
  refine Goes.via (fun _ kk_ => XS.goto X0.here hx rfl (pc0 := 100) (pc' := 76) rfl (hb hby d18_100) (by decide) (by decide) kk_) ?_
  show Goes p e below _ (s₁.setTop (mkF m 76 #[vr b, vi (16 : Int32), vr b2, vi (3 : Int32), vi (0 : Int32), vi (own_gP 0), vi (13 : Int32), vi (5 : Int32), vi (8 : Int32), vi (8 : Int32), vi (3 : Int32)] []))
  refine gIL X0 hx hby d18_76 rfl ?_
  refine gIL X0 hx hby d18_78 rfl ?_
  have hc80_18 : ¬ ((8 : Int32) < (8 : Int32)) := (by decide)
  refine Goes.via (fun _ kk_ => XS.icmpYes X0.here hx rfl (pc0 := 80) (pc' := 103) rfl (hb hby d18_80) rfl (flt hc80_18).2.1 (by decide) (by decide) kk_) ?_
  show Goes p e below _ (s₁.setTop (mkF m 103 #[vr b, vi (16 : Int32), vr b2, vi (3 : Int32), vi (0 : Int32), vi (own_gP 0), vi (13 : Int32), vi (5 : Int32), vi (8 : Int32), vi (8 : Int32), vi (3 : Int32)] []))
  refine gIL X0 hx hby d18_103 rfl ?_
  refine gIL X0 hx hby d18_105 rfl ?_
  have hc107_19 : (8 : Int32) = (8 : Int32) := (by decide)
  refine Goes.via (fun _ kk_ => XS.icmpNo X0.here hx rfl (hb hby d18_107) rfl (teq hc107_19).2 kk_) ?_
  show Goes p e below _ (s₁.setTop (mkF m 110 #[vr b, vi (16 : Int32), vr b2, vi (3 : Int32), vi (0 : Int32), vi (own_gP 0), vi (13 : Int32), vi (5 : Int32), vi (8 : Int32), vi (8 : Int32), vi (3 : Int32)] []))
  refine gIL X0 hx hby d18_110 rfl ?_
  exact own_finI X0 hx hlk hret (hb hby d18_112) (by rw [e0]; exact ⟨rfl, rfl, rfl⟩) (by first | decide | omega | (dsimp only; omega)) (by first | decide | omega | (dsimp only; omega))
theorem ef_rmT5 (m : MethodId) (b : Addr) (b2 : Addr) : entryFrame m #[(.ref b), (.ref b2)] 2 = mkF m 0 #[.val (.ref b), .val (.ref b2)] [] := by first | (simp [entryFrame, mkF, argsToLocals, Value.category]; done) | rfl
def QrmT5 (Z : State) (b : Addr) (b2 : Addr) (kc : ClassId) (kd : ClassId) (g : Nat → Int32) (h0 : Heap) (n0 : Nat) (v_ : Option Value) (h_ : Heap) (L_ : List Loc) : Prop := v_ = some (.int (5 : Int32)) ∧ L_ = [] ∧ h_ = h0
set_option maxRecDepth 65536 in
set_option maxHeartbeats 40000000 in
theorem rmT5 (l : Launch) (Z : State) (a0 : Array Value) (hw : ∀ d ∈ tables_1, d.before a0 Z = true) (ws : List Jvm.Cond) (b : Addr) (b2 : Addr) (kc : ClassId) (kd : ClassId) (g : Nat → Int32) (h0 : Heap) (n0 : Nat) (Z0 : n0 ≤ h0.size) (A0_b : Arw Z h0 b kc .byte 16 (fun i => .int (g i))) (A1_b2 : Arw Z h0 b2 kd .byte 3 (fun i => .int (own_gP i))) (Hn0 : g 0 ≠ (58 : Int32)) (Hn1 : g 1 ≠ (58 : Int32)) (Hn2 : g 2 ≠ (58 : Int32)) (Hn3 : g 3 ≠ (58 : Int32)) (Hn4 : g 4 ≠ (58 : Int32)) (Hp0 : g 5 = (58 : Int32)) (Hp1 : g 6 = (47 : Int32)) (Hp2 : g 7 = (47 : Int32)) :
    MetFree l (⟨"java/lang/StringLatin1", "indexOf", "([B[B)I"⟩ : MethodName) (head1 (Jvm.Cond.code (⟨"java/lang/StringLatin1", "indexOf", "([B[B)I"⟩ : MethodName) jdk_43_method_24_code 2 (some .int) :: ws) ({ frames := 1, cells := 0, slots := 0, locals := 22 } : Room)) (fun as_ U_ => as_ = #[(.ref b), (.ref b2)] ∧ Z.Warmed39 U_.vm ∧ U_.heap = h0) (fun _ _ _ _ _ => True) (fun _ U_ o_ V_ => ∃ v_ L_, o_ = .returned v_ ∧ QrmT5 Z b b2 kc kd g h0 n0 v_ V_.heap L_ ∧ FrameEnd U_ o_ V_ L_ ({ frames := 1, cells := 0, slots := 0, locals := 22 } : Room).cells ({ frames := 1, cells := 0, slots := 0, locals := 22 } : Room).slots) := by
  refine MetFree.of_bodySF (plainFor_of_name pn_java_lang_StringLatin1) hisR ?_
  intro p e s m args below meth c s₁ Bd hml0 hP hK
  obtain ⟨rfl, hZ, hh⟩ := hP
  have hx := Bd.exec
  have hby := Bd.bytes
  have hlk : meth.locks = false := BodyLoose.notSynchronized Bd
  have hret := Bd.returns
  have hml : c.maxLocals = 2 := hml0
  have hown : s.vm.findClass "java/lang/StringLatin1" = some m.cls := findClass_of_methodNamed Bd.named
  have hnm := (name_of_methodNamed Bd.named Bd.method).1
  have X0 : Stand p l e ({ frames := 1, cells := 0, slots := 0, locals := 22 } : Room) s m #[(.ref b), (.ref b2)] below meth c s₁ [] 0 0 := Stand.of_body Bd
  have e0 : s₁.heap = h0 := by rw [← hh, Bd.state]; rfl
  have N0 := Fr.nil n0
  show Goes p e below (Fin_ s (QrmT5 Z b b2 kc kd g h0 n0) ({ frames := 1, cells := 0, slots := 0, locals := 22 } : Room).cells ({ frames := 1, cells := 0, slots := 0, locals := 22 } : Room).slots) (s₁.setTop (entryFrame m #[(.ref b), (.ref b2)] 2))
  rw [ef_rmT5 m b b2]
  refine gALN X0 hx hby d17_0 rfl rfl ?_
  refine Goes.via (own_alen X0 hx hZ e0 A1_b2 (g := (mkF m 1 #[vr b, vr b2] [(.ref b2)])) rfl rfl (hb hby d17_1)) ?_
  show Goes p e below _ (s₁.setTop (mkF m 2 #[vr b, vr b2] [(.int (3 : Int32))]))
  have hc2_1 : ¬ ((3 : Int32) = (0 : Int32)) := (by decide)
  refine Goes.via (fun _ kk_ => XS.ifYes X0.here hx rfl (pc0 := 2) (pc' := 7) rfl (hb hby d17_2) rfl ((if0 _ _).trans (feq hc2_1).2) (by decide) (by decide) kk_) ?_
  show Goes p e below _ (s₁.setTop (mkF m 7 #[vr b, vr b2] []))
  refine gALN X0 hx hby d17_7 rfl rfl ?_
  refine Goes.via (own_alen X0 hx hZ e0 A0_b (g := (mkF m 8 #[vr b, vr b2] [(.ref b)])) rfl rfl (hb hby d17_8)) ?_
  show Goes p e below _ (s₁.setTop (mkF m 9 #[vr b, vr b2] [(.int (16 : Int32))]))
  have hc9_2 : ¬ ((16 : Int32) = (0 : Int32)) := (by decide)
  refine Goes.via (fun _ kk_ => XS.ifYes X0.here hx rfl (pc0 := 9) (pc' := 14) rfl (hb hby d17_9) rfl ((if0 _ _).trans (feq hc9_2).2) (by decide) (by decide) kk_) ?_
  show Goes p e below _ (s₁.setTop (mkF m 14 #[vr b, vr b2] []))
  refine gALN X0 hx hby d17_14 rfl rfl ?_
  refine gALN X0 hx hby d17_15 rfl rfl ?_
  refine Goes.via (own_alen X0 hx hZ e0 A0_b (g := (mkF m 16 #[vr b, vr b2] [(.ref b), (.ref b)])) rfl rfl (hb hby d17_16)) ?_
  show Goes p e below _ (s₁.setTop (mkF m 17 #[vr b, vr b2] [(.int (16 : Int32)), (.ref b)]))
  refine gALN X0 hx hby d17_17 rfl rfl ?_
  refine gALN X0 hx hby d17_18 rfl rfl ?_
  refine Goes.via (own_alen X0 hx hZ e0 A1_b2 (g := (mkF m 19 #[vr b, vr b2] [(.ref b2), (.ref b2), (.int (16 : Int32)), (.ref b)])) rfl rfl (hb hby d17_19)) ?_
  show Goes p e below _ (s₁.setTop (mkF m 20 #[vr b, vr b2] [(.int (3 : Int32)), (.ref b2), (.int (16 : Int32)), (.ref b)]))
  refine gIC (z := 0) X0 hx hby d17_20 rfl ?_
  obtain ⟨_, _, ⟨T3, L3, k3, n3⟩, -, X3, ⟨Lc3, hQ3, l3, y3, z3⟩, st3⟩ := Jvm.LawKit.callS X0 hx (y := (⟨"java/lang/StringLatin1", "indexOf", "([BI[BII)I"⟩ : MethodName)) hown (mvT hZ (own_w hw 81 rfl)) (mvT hZ (own_w hw 82 rfl)) (mvT hZ (own_w hw 27 rfl)) (mvT hZ (own_w hw 83 rfl)) (by decide) (backOf (W := 0) (rmS5 l Z a0 hw [] b b2 kc kd g h0 n0 (Nat.le_trans Z0 (Nat.le_refl _)) A0_b A1_b2 Hn0 Hn1 Hn2 Hn3 Hn4 Hp0 Hp1 Hp2) hZ (own_w hw 83 rfl) (own_w hw 27 rfl) (by decide) (by decide)) (g := (mkF m 21 #[vr b, vr b2] [(.int (0 : Int32)), (.int (3 : Int32)), (.ref b2), (.int (16 : Int32)), (.ref b)])) rfl (by rw [hml]; rfl) (argsL := [(.ref b), (.int (16 : Int32)), (.ref b2), (.int (3 : Int32)), (.int (0 : Int32))]) (rest := []) (lenOf pd_15 rfl) rfl (by show 2 * 0 + _ ≤ _; exact Nat.le_of_eq rfl) (hb hby d17_21) (fun _ _ => ⟨rfl, e0, (by decide : 0 + 0 ≤ _), (by decide : 0 + 0 ≤ _)⟩)
  dsimp only [Pt.U, Pt.locs, Pt.cells, Pt.slots] at X3 l3 y3 z3 st3 hQ3
  replace l3 := l3.symm
  subst l3 y3 z3
  obtain ⟨rfl, rfl, e3⟩ := hQ3
  first | rw [List.append_nil] at X3 | skip
  refine Goes.via st3 ?_
  have e3' : T3.heap = h0 := e3
  show Goes p e below _ (T3.setTop (mkF m 24 #[vr b, vr b2] [(.int (5 : Int32))]))
  exact own_finI X3 hx hlk hret (hb hby d17_24) (by rw [e3']; exact ⟨rfl, rfl, rfl⟩) (by first | decide | omega | (dsimp only; omega)) (by first | decide | omega | (dsimp only; omega))
theorem ef_rmU5 (m : MethodId) (a : Addr) (a2 : Addr) : entryFrame m #[(.ref a), (.ref a2)] 3 = mkF m 0 #[.val (.ref a), .val (.ref a2), .unset] [] := by first | (simp [entryFrame, mkF, argsToLocals, Value.category]; done) | rfl
def QrmU5 (Z : State) (a : Addr) (a2 : Addr) (cS : Int32) (b : Addr) (b2 : Addr) (kc : ClassId) (kd : ClassId) (g : Nat → Int32) (h0 : Heap) (n0 : Nat) (v_ : Option Value) (h_ : Heap) (L_ : List Loc) : Prop := v_ = some (.int (5 : Int32)) ∧ L_ = [] ∧ h_ = h0
set_option maxRecDepth 65536 in
set_option maxHeartbeats 40000000 in
theorem rmU5 (l : Launch) (Z : State) (a0 : Array Value) (hw : ∀ d ∈ tables_1, d.before a0 Z = true) (ws : List Jvm.Cond) (a : Addr) (a2 : Addr) (cS : Int32) (b : Addr) (b2 : Addr) (kc : ClassId) (kd : ClassId) (g : Nat → Int32) (h0 : Heap) (n0 : Nat) (Z0 : n0 ≤ h0.size) (E0_a : Exa Z h0 a "java/lang/String") (F1_a_coder : Fld Z h0 a "java/lang/String" "coder" "B" (.int (0 : Int32))) (F2_a_value : Fld Z h0 a "java/lang/String" "value" "[B" (.ref b)) (A3_b : Arw Z h0 b kc .byte 16 (fun i => .int (g i))) (E4_a2 : Exa Z h0 a2 "java/lang/String") (F5_a2_coder : Fld Z h0 a2 "java/lang/String" "coder" "B" (.int (0 : Int32))) (F6_a2_value : Fld Z h0 a2 "java/lang/String" "value" "[B" (.ref b2)) (A7_b2 : Arw Z h0 b2 kd .byte 3 (fun i => .int (own_gP i))) (S8_java_lang_String_COMPACT_STRINGS_COMPACT_STRINGS : Sta Z h0 "java/lang/String" "COMPACT_STRINGS" "Z" (.int cS)) (H_cs : ¬ cS = (0 : Int32)) (Hn0 : g 0 ≠ (58 : Int32)) (Hn1 : g 1 ≠ (58 : Int32)) (Hn2 : g 2 ≠ (58 : Int32)) (Hn3 : g 3 ≠ (58 : Int32)) (Hn4 : g 4 ≠ (58 : Int32)) (Hp0 : g 5 = (58 : Int32)) (Hp1 : g 6 = (47 : Int32)) (Hp2 : g 7 = (47 : Int32)) :
    MetFree l (⟨"java/lang/String", "indexOf", "(Ljava/lang/String;)I"⟩ : MethodName) (head1 (Jvm.Cond.code (⟨"java/lang/String", "indexOf", "(Ljava/lang/String;)I"⟩ : MethodName) jdk_42_method_84_code 3 (some .int) :: ws) ({ frames := 2, cells := 0, slots := 0, locals := 35 } : Room)) (fun as_ U_ => as_ = #[(.ref a), (.ref a2)] ∧ Z.Warmed39 U_.vm ∧ U_.heap = h0) (fun _ _ _ _ _ => True) (fun _ U_ o_ V_ => ∃ v_ L_, o_ = .returned v_ ∧ QrmU5 Z a a2 cS b b2 kc kd g h0 n0 v_ V_.heap L_ ∧ FrameEnd U_ o_ V_ L_ ({ frames := 2, cells := 0, slots := 0, locals := 35 } : Room).cells ({ frames := 2, cells := 0, slots := 0, locals := 35 } : Room).slots) := by
  refine MetFree.of_bodySF (plainFor_of_name pn_java_lang_String) hisR ?_
  intro p e s m args below meth c s₁ Bd hml0 hP hK
  obtain ⟨rfl, hZ, hh⟩ := hP
  have hx := Bd.exec
  have hby := Bd.bytes
  have hlk : meth.locks = false := BodyLoose.notSynchronized Bd
  have hret := Bd.returns
  have hml : c.maxLocals = 3 := hml0
  have hown : s.vm.findClass "java/lang/String" = some m.cls := findClass_of_methodNamed Bd.named
  have hnm := (name_of_methodNamed Bd.named Bd.method).1
  have X0 : Stand p l e ({ frames := 2, cells := 0, slots := 0, locals := 35 } : Room) s m #[(.ref a), (.ref a2)] below meth c s₁ [] 0 0 := Stand.of_body Bd
  have e0 : s₁.heap = h0 := by rw [← hh, Bd.state]; rfl
  have N0 := Fr.nil n0
  show Goes p e below (Fin_ s (QrmU5 Z a a2 cS b b2 kc kd g h0 n0) ({ frames := 2, cells := 0, slots := 0, locals := 35 } : Room).cells ({ frames := 2, cells := 0, slots := 0, locals := 35 } : Room).slots) (s₁.setTop (entryFrame m #[(.ref a), (.ref a2)] 3))
  rw [ef_rmU5 m a a2]
  have ne1 : a ≠ b := own_ne_arr E0_a (own_w hw 6 rfl) A3_b
  have ne2 : a ≠ b2 := own_ne_arr E0_a (own_w hw 6 rfl) A7_b2
  have ne3 : a2 ≠ b := own_ne_arr E4_a2 (own_w hw 6 rfl) A3_b
  have ne4 : a2 ≠ b2 := own_ne_arr E4_a2 (own_w hw 6 rfl) A7_b2
  refine gALN X0 hx hby d15_0 rfl rfl ?_
  obtain ⟨cq5, kq5, q5a, q5b, q5c⟩ := isOf hZ e0 E0_a
  obtain ⟨_, _, ⟨T5, L5, k5, n5⟩, -, X5, ⟨Lc5, hQ5, l5, y5, z5⟩, st5⟩ := X0.virtualBack hx (y := (⟨"java/lang/String", "coder", "()B"⟩ : MethodName)) (z := (⟨"java/lang/String", "coder", "()B"⟩ : MethodName)) hown (mvT hZ (own_w hw 73 rfl)) (mvT hZ (own_w hw 74 rfl)) (notFace_of_selects (args := #[]) (mvT hZ (own_w hw 76 rfl))) (mvT hZ (own_w hw 76 rfl)) (mvT hZ (own_w hw 75 rfl)) (by decide) (backOf (W := 0) (rm16 l Z a0 hw [] a cS h0 n0 (Nat.le_trans Z0 (Nat.le_refl _)) F1_a_coder S8_java_lang_String_COMPACT_STRINGS_COMPACT_STRINGS H_cs) hZ (own_w hw 77 rfl) (own_w hw 5 rfl) (by decide) (by decide)) q5a q5c (g := (mkF m 1 #[vr a, vr a2, .unset] [(.ref a)])) rfl (by rw [hml]; rfl) (Steps.refl _) (argsL := []) (rest := []) (lenOf pd_0 rfl) rfl (by show 2 * 0 + _ ≤ _; exact Nat.le_of_eq rfl) (hb hby d15_1) (fun _ _ => ⟨rfl, e0, (by decide : 0 + 0 ≤ _), (by decide : 0 + 0 ≤ _)⟩)
  dsimp only [Pt.U, Pt.locs, Pt.cells, Pt.slots] at X5 l5 y5 z5 st5 hQ5
  replace l5 := l5.symm
  subst l5 y5 z5
  obtain ⟨rfl, rfl, e5⟩ := hQ5
  first | rw [List.append_nil] at X5 | skip
  refine Goes.tr st5 ?_
  have e5' : T5.heap = h0 := e5
  show Goes p e below _ (T5.setTop (mkF m 4 #[vr a, vr a2, .unset] [(.int (0 : Int32))]))
  refine Goes.via (fun _ kk_ => XS.istoreN X5.here hx rfl (hb hby d15_4) rfl (l' := #[vr a, vr a2, vi (0 : Int32)]) rfl kk_) ?_
  show Goes p e below _ (T5.setTop (mkF m 5 #[vr a, vr a2, vi (0 : Int32)] []))
  refine gILN X5 hx hby d15_5 rfl ?_
  refine gALN X5 hx hby d15_6 rfl rfl ?_
  obtain ⟨cq6, kq6, q6a, q6b, q6c⟩ := isOf hZ e5' E4_a2
  obtain ⟨_, _, ⟨T6, L6, k6, n6⟩, -, X6, ⟨Lc6, hQ6, l6, y6, z6⟩, st6⟩ := X5.virtualBack hx (y := (⟨"java/lang/String", "coder", "()B"⟩ : MethodName)) (z := (⟨"java/lang/String", "coder", "()B"⟩ : MethodName)) hown (mvT hZ (own_w hw 73 rfl)) (mvT hZ (own_w hw 74 rfl)) (notFace_of_selects (args := #[]) (mvT hZ (own_w hw 76 rfl))) (mvT hZ (own_w hw 76 rfl)) (mvT hZ (own_w hw 75 rfl)) (by decide) (backOf (W := 1) (rm16 l Z a0 hw [] a2 cS h0 n0 (Nat.le_trans Z0 (Nat.le_refl _)) F5_a2_coder S8_java_lang_String_COMPACT_STRINGS_COMPACT_STRINGS H_cs) hZ (own_w hw 77 rfl) (own_w hw 5 rfl) (by decide) (by decide)) q6a q6c (g := (mkF m 7 #[vr a, vr a2, vi (0 : Int32)] [(.ref a2), (.int (0 : Int32))])) rfl (by rw [hml]; rfl) (Steps.refl _) (argsL := []) (rest := [(.int (0 : Int32))]) (lenOf pd_0 rfl) rfl (by show 2 * 0 + _ ≤ _; exact Nat.le_of_eq rfl) (hb hby d15_7) (fun _ _ => ⟨rfl, e5', (by decide : 0 + 0 ≤ _), (by decide : 0 + 0 ≤ _)⟩)
  dsimp only [Pt.U, Pt.locs, Pt.cells, Pt.slots] at X6 l6 y6 z6 st6 hQ6
  replace l6 := l6.symm
  subst l6 y6 z6
  obtain ⟨rfl, rfl, e6⟩ := hQ6
  first | rw [List.append_nil] at X6 | skip
  refine Goes.tr st6 ?_
  have e6' : T6.heap = h0 := e6
  show Goes p e below _ (T6.setTop (mkF m 10 #[vr a, vr a2, vi (0 : Int32)] [(.int (0 : Int32)), (.int (0 : Int32))]))
  have hc10_7 : (0 : Int32) = (0 : Int32) := (by decide)
  refine Goes.via (fun _ kk_ => XS.icmpNo X6.here hx rfl (hb hby d15_10) rfl (teq hc10_7).2 kk_) ?_
  show Goes p e below _ (T6.setTop (mkF m 13 #[vr a, vr a2, vi (0 : Int32)] []))
  refine gALN X6 hx hby d15_13 rfl rfl ?_
  obtain ⟨cq8, kq8, q8a, q8b, q8c⟩ := isOf hZ e6' E0_a
  obtain ⟨_, _, ⟨T8, L8, k8, n8⟩, -, X8, ⟨Lc8, hQ8, l8, y8, z8⟩, st8⟩ := X6.virtualBack hx (y := (⟨"java/lang/String", "isLatin1", "()Z"⟩ : MethodName)) (z := (⟨"java/lang/String", "isLatin1", "()Z"⟩ : MethodName)) hown (mvT hZ (own_w hw 17 rfl)) (mvT hZ (own_w hw 18 rfl)) (notFace_of_selects (args := #[]) (mvT hZ (own_w hw 20 rfl))) (mvT hZ (own_w hw 20 rfl)) (mvT hZ (own_w hw 19 rfl)) (by decide) (backOf (W := 0) (rm3 l Z a0 hw [] a cS h0 n0 (Nat.le_trans Z0 (Nat.le_refl _)) F1_a_coder S8_java_lang_String_COMPACT_STRINGS_COMPACT_STRINGS H_cs) hZ (own_w hw 21 rfl) (own_w hw 5 rfl) (by decide) (by decide)) q8a q8c (g := (mkF m 14 #[vr a, vr a2, vi (0 : Int32)] [(.ref a)])) rfl (by rw [hml]; rfl) (Steps.refl _) (argsL := []) (rest := []) (lenOf pd_3 rfl) rfl (by show 2 * 0 + _ ≤ _; exact Nat.le_of_eq rfl) (hb hby d15_14) (fun _ _ => ⟨rfl, e6', (by decide : 0 + 0 ≤ _), (by decide : 0 + 0 ≤ _)⟩)
  dsimp only [Pt.U, Pt.locs, Pt.cells, Pt.slots] at X8 l8 y8 z8 st8 hQ8
  replace l8 := l8.symm
  subst l8 y8 z8
  obtain ⟨rfl, rfl, e8⟩ := hQ8
  first | rw [List.append_nil] at X8 | skip
  refine Goes.tr st8 ?_
  have e8' : T8.heap = h0 := e8
  show Goes p e below _ (T8.setTop (mkF m 17 #[vr a, vr a2, vi (0 : Int32)] [(.int (1 : Int32))]))
  have hc17_9 : ¬ ((1 : Int32) = (0 : Int32)) := (by decide)
  refine Goes.via (fun _ kk_ => XS.ifNo X8.here hx rfl (hb hby d15_17) rfl ((if0 _ _).trans (feq hc17_9).1) kk_) ?_
  show Goes p e below _ (T8.setTop (mkF m 20 #[vr a, vr a2, vi (0 : Int32)] []))
  refine gALN X8 hx hby d15_20 rfl rfl ?_
  obtain ⟨T10, X10, e10, st10⟩ := getF X8 hx hZ hown (host := "") (Or.inl (own_w hw 24 rfl)) Via.refl e8' F2_a_value (g := (mkF m 21 #[vr a, vr a2, vi (0 : Int32)] [(.ref a)])) rfl rfl (hb hby d15_21)
  refine Goes.via st10 ?_
  show Goes p e below _ (T10.setTop (mkF m 24 #[vr a, vr a2, vi (0 : Int32)] [(.ref b)]))
  refine gALN X10 hx hby d15_24 rfl rfl ?_
  obtain ⟨T11, X11, e11, st11⟩ := getF X10 hx hZ hown (host := "") (Or.inl (own_w hw 24 rfl)) Via.refl e10 F6_a2_value (g := (mkF m 25 #[vr a, vr a2, vi (0 : Int32)] [(.ref a2), (.ref b)])) rfl rfl (hb hby d15_25)
  refine Goes.via st11 ?_
  show Goes p e below _ (T11.setTop (mkF m 28 #[vr a, vr a2, vi (0 : Int32)] [(.ref b2), (.ref b)]))
  obtain ⟨_, _, ⟨T12, L12, k12, n12⟩, -, X12, ⟨Lc12, hQ12, l12, y12, z12⟩, st12⟩ := Jvm.LawKit.callS X11 hx (y := (⟨"java/lang/StringLatin1", "indexOf", "([B[B)I"⟩ : MethodName)) hown (mvT hZ (own_w hw 78 rfl)) (mvT hZ (own_w hw 79 rfl)) (mvT hZ (own_w hw 27 rfl)) (mvT hZ (own_w hw 80 rfl)) (by decide) (backOf (W := 0) (rmT5 l Z a0 hw [] b b2 kc kd g h0 n0 (Nat.le_trans Z0 (Nat.le_refl _)) A3_b A7_b2 Hn0 Hn1 Hn2 Hn3 Hn4 Hp0 Hp1 Hp2) hZ (own_w hw 80 rfl) (own_w hw 27 rfl) (by decide) (by decide)) (g := (mkF m 28 #[vr a, vr a2, vi (0 : Int32)] [(.ref b2), (.ref b)])) rfl (by rw [hml]; rfl) (argsL := [(.ref b), (.ref b2)]) (rest := []) (lenOf pd_16 rfl) rfl (by show 2 * 0 + _ ≤ _; exact Nat.le_of_eq rfl) (hb hby d15_28) (fun _ _ => ⟨rfl, e11, (by decide : 0 + 0 ≤ _), (by decide : 0 + 0 ≤ _)⟩)
  dsimp only [Pt.U, Pt.locs, Pt.cells, Pt.slots] at X12 l12 y12 z12 st12 hQ12
  replace l12 := l12.symm
  subst l12 y12 z12
  obtain ⟨rfl, rfl, e12⟩ := hQ12
  first | rw [List.append_nil] at X12 | skip
  refine Goes.via st12 ?_
  have e12' : T12.heap = h0 := e12
  show Goes p e below _ (T12.setTop (mkF m 31 #[vr a, vr a2, vi (0 : Int32)] [(.int (5 : Int32))]))
  refine Goes.via (fun _ kk_ => XS.goto X12.here hx rfl (pc0 := 31) (pc' := 45) rfl (hb hby d15_31) (by decide) (by decide) kk_) ?_
  show Goes p e below _ (T12.setTop (mkF m 45 #[vr a, vr a2, vi (0 : Int32)] [(.int (5 : Int32))]))
  exact own_finI X12 hx hlk hret (hb hby d15_45) (by rw [e12']; exact ⟨rfl, rfl, rfl⟩) (by first | decide | omega | (dsimp only; omega)) (by first | decide | omega | (dsimp only; omega))
def own_gH : Nat → Int32 := fun i => ([(97 : Int32), (122 : Int32), (48 : Int32), (57 : Int32), (46 : Int32), (45 : Int32), (126 : Int32), (95 : Int32)] : List Int32).getD i 0
def own_gT : Nat → Int32 := fun i => ([(97 : Int32), (47 : Int32), (63 : Int32), (90 : Int32), (57 : Int32), (45 : Int32), (61 : Int32), (58 : Int32)] : List Int32).getD i 0
theorem own_m7 (x : Int32) : (x &&& (7 : Int32)).toInt = ((x &&& (7 : Int32)).toNatClampNeg : Int) ∧ (x &&& (7 : Int32)).toNatClampNeg < 8 := by
  have q := c_and x 7 (by decide)
  have q1 : (7 : Int32).toInt = 7 := by decide
  have q2 : (x &&& (7 : Int32)).toNatClampNeg = (x &&& (7 : Int32)).toInt.toNat := rfl
  omega
def own_hl (x : Int32) : Int32 := own_gH (x &&& (7 : Int32)).toNatClampNeg &&& (255 : Int32)
def own_tl (x : Int32) : Int32 := own_gT (x &&& (7 : Int32)).toNatClampNeg &&& (255 : Int32)
def own_C (t : Int32) : Prop := nar .char t = t ∧ t.toInt8.toInt32 = t ∧ t &&& (255 : Int32) = t ∧ (¬ t < 0 ∧ ¬ (255 : Int32) < t)
instance (t : Int32) : Decidable (own_C t) := by unfold own_C; infer_instance
theorem own_tlT : ∀ j, j < 8 → own_C (own_gT j &&& (255 : Int32)) := by decide +kernel
theorem own_hlT : ∀ j, j < 8 → (own_C (own_gH j &&& (255 : Int32)) ∧ ¬ own_gH j &&& (255 : Int32) = (47 : Int32)) := by decide +kernel
theorem own_tlP (x : Int32) : own_C (own_tl x) := own_tlT _ (own_m7 x).2
theorem own_hlP (x : Int32) : own_C (own_hl x) ∧ ¬ own_hl x = (47 : Int32) := own_hlT _ (own_m7 x).2
theorem own_01 (x : Int32) : x &&& (1 : Int32) = (0 : Int32) ∨ x &&& (1 : Int32) = (1 : Int32) := by
  have q := c_and x 1 (by decide)
  have q1 : (1 : Int32).toInt = 1 := by decide
  have q0 : (0 : Int32).toInt = 0 := by decide
  have z : (x &&& (1 : Int32)).toInt = 0 ∨ (x &&& (1 : Int32)).toInt = 1 := by omega
  rcases z with z | z
  · exact Or.inl (Int32.toInt_inj.mp (by omega))
  · exact Or.inr (Int32.toInt_inj.mp (by omega))
theorem own_fs (g : Nat → Int32) (b : Int32) (k j : Nat) (i : Int32) : own_find g b (k + 1) j i = if g j = b then i else own_find g b k (j + 1) (i + 1) := rfl
theorem own_f0 (g : Nat → Int32) (b : Int32) (j : Nat) (i : Int32) : own_find g b 0 j i = -1 := rfl
theorem own_ltt {x y z : Int32} (h : x < y) (q : y < z) : x < z := own_lti.mpr (by have := own_lti.mp h; have := own_lti.mp q; omega)
theorem own_lt_own_gH : ∀ i, i < 8 → ([(.int 97), (.int 122), (.int 48), (.int 57), (.int 46), (.int 45), (.int 126), (.int 95)] : List Value).getD i (.int 0) = .int (own_gH i) := by
  intro i hi
  match i, hi with
  | 0, _ => rfl | 1, _ => rfl | 2, _ => rfl | 3, _ => rfl | 4, _ => rfl | 5, _ => rfl | 6, _ => rfl | 7, _ => rfl | n + 8, h => exact absurd h (by omega)
theorem own_lt_own_gT : ∀ i, i < 8 → ([(.int 97), (.int 47), (.int 63), (.int 90), (.int 57), (.int 45), (.int 61), (.int 58)] : List Value).getD i (.int 0) = .int (own_gT i) := by
  intro i hi
  match i, hi with
  | 0, _ => rfl | 1, _ => rfl | 2, _ => rfl | 3, _ => rfl | 4, _ => rfl | 5, _ => rfl | 6, _ => rfl | 7, _ => rfl | n + 8, h => exact absurd h (by omega)
theorem own_lt_own_gP : ∀ i, i < 3 → ([(.int 58), (.int 47), (.int 47)] : List Value).getD i (.int 0) = .int (own_gP i) := by
  intro i hi
  match i, hi with
  | 0, _ => rfl | 1, _ => rfl | 2, _ => rfl | n + 3, h => exact absurd h (by omega)
theorem ef_rm1 (m : MethodId) (x_ : Int32) : entryFrame m #[(.int x_)] 1 = mkF m 0 #[.val (.int x_)] [] := by first | (simp [entryFrame, mkF, argsToLocals, Value.category]; done) | rfl
def Qrm1 (Z : State) (x_ : Int32) (cS : Int32) (fo : Value) (h0 : Heap) (n0 : Nat) (v_ : Option Value) (h_ : Heap) (L_ : List Loc) : Prop := v_ = some (.int (own_hl x_)) ∧ Fr n0 L_ ∧ Keep h0 h_ []
theorem pn_com_example_lincra_lincra_UrlNormalizerPathPinLaw : plainName "com/example/lincra/lincra/UrlNormalizerPathPinLaw" = true := by first | (simp [plainName, overriddenIn]; done) | decide +kernel
theorem d1_0 : decode method_2_code 0 = .ok (.ldc 7, 2) := by decide +kernel
theorem d1_2 : decode method_2_code 2 = .ok (.iload_n 0, 1) := by decide +kernel
theorem d1_3 : decode method_2_code 3 = .ok (.bipush 7, 2) := by decide +kernel
theorem d1_5 : decode method_2_code 5 = .ok (.iand, 1) := by decide +kernel
theorem pd_17 : parseMethodDescriptor "(I)C" = some ⟨[.int], some .char⟩ := by decide +kernel
theorem d1_6 : decode method_2_code 6 = .ok (.invokevirtual 9, 3) := by decide +kernel
theorem d1_9 : decode method_2_code 9 = .ok (.ireturn, 1) := by decide +kernel
set_option maxRecDepth 65536 in
set_option maxHeartbeats 40000000 in
theorem rm1 (l : Launch) (Z : State) (a0 : Array Value) (hw : ∀ d ∈ tables_1, d.before a0 Z = true) (ws : List Jvm.Cond) (x_ : Int32) (cS : Int32) (fo : Value) (h0 : Heap) (n0 : Nat) (Z0 : n0 ≤ h0.size) (S0_java_lang_String_COMPACT_STRINGS_COMPACT_STRINGS : Sta Z h0 "java/lang/String" "COMPACT_STRINGS" "Z" (.int cS)) (H_cs : ¬ cS = (0 : Int32)) (S2_jdk_internal_util_Preconditions_SIOOBE_FORMATTER_SIOOBE_FORMATTER : Sta Z h0 "jdk/internal/util/Preconditions" "SIOOBE_FORMATTER" "Ljava/util/function/BiFunction;" fo) (Hfo : fo.isRef = true) (HO : Old Z n0 h0) (HW : Jvm.Lit.compactW.before a0 Z = true) (HC0 : Jvm.Lit.constHeld Z "com/example/lincra/lincra/UrlNormalizerPathPinLaw" 7) (HC1 : Jvm.Lit.constHeld Z "com/example/lincra/lincra/UrlNormalizerPathPinLaw" 15) (HC2 : Jvm.Lit.constHeld Z "com/example/lincra/lincra/UrlNormalizer" 81) :
    MetFree l (⟨"com/example/lincra/lincra/UrlNormalizerPathPinLaw", "hostChar", "(I)C"⟩ : MethodName) (head1 (Jvm.Cond.code (⟨"com/example/lincra/lincra/UrlNormalizerPathPinLaw", "hostChar", "(I)C"⟩ : MethodName) method_2_code 1 (some .char) :: ws) ({ frames := 4, cells := 2, slots := 36, locals := 53 } : Room)) (fun as_ U_ => as_ = #[(.int x_)] ∧ Z.Warmed39 U_.vm ∧ U_.heap = h0 ∧ KS Z own_KL U_.vm U_.heap) (fun _ _ _ _ _ => True) (fun _ U_ o_ V_ => ∃ v_ L_, o_ = .returned v_ ∧ Qrm1 Z x_ cS fo h0 n0 v_ V_.heap L_ ∧ KS Z own_KL V_.vm V_.heap ∧ ReturnedEndW U_ o_ V_ L_ ({ frames := 4, cells := 2, slots := 36, locals := 53 } : Room).cells ({ frames := 4, cells := 2, slots := 36, locals := 53 } : Room).slots) := by
  refine MetFree.of_bodySF (plainFor_of_name pn_com_example_lincra_lincra_UrlNormalizerPathPinLaw) hisR ?_
  intro p e s m args below meth c s₁ Bd hml0 hP hK
  obtain ⟨rfl, hZ, hh, hKs⟩ := hP
  have hx := Bd.exec
  have hby := Bd.bytes
  have hlk : meth.locks = false := BodyLoose.notSynchronized Bd
  have hret := Bd.returns
  have hml : c.maxLocals = 1 := hml0
  have hown : s.vm.findClass "com/example/lincra/lincra/UrlNormalizerPathPinLaw" = some m.cls := findClass_of_methodNamed Bd.named
  have hnm := (name_of_methodNamed Bd.named Bd.method).1
  have X0 : Stand p l e ({ frames := 4, cells := 2, slots := 36, locals := 53 } : Room) (s.setVm s.vm) m #[(.int x_)] below meth c s₁ [] 0 0 := Stand.of_body Bd
  have e0 : s₁.heap = h0 := by rw [← hh, Bd.state]; rfl
  have N0 := Fr.nil n0
  show Goes p e below (Fin_W s (Qrm1 Z x_ cS fo h0 n0) (fun U_ => KS Z own_KL U_.vm U_.heap) ({ frames := 4, cells := 2, slots := 36, locals := 53 } : Room).cells ({ frames := 4, cells := 2, slots := 36, locals := 53 } : Room).slots) (s₁.setTop (entryFrame m #[(.int x_)] 1))
  rw [ef_rm1 m x_]
  have SI0 : s.Since s.vm 0 := (State.WarmedH.refl s).since 0
  have Ks0 : KS Z own_KL s.vm h0 := hh ▸ hKs
  obtain ⟨ka1, T1, h1, vm1, k11, kb1, kc1, X1, e1, E1, SI1, sk1, hZ, hown, kE1, kC1, kV1, kA1, kL1, Ks1, st1⟩ := own_ldcK (KL := own_KL) (z := (8 : Int32)) (vs := [(.int 97), (.int 122), (.int 48), (.int 57), (.int 46), (.int 45), (.int 126), (.int 95)]) X0 hx hZ hown (own_w hw 4 rfl) (fun d hd => hw d ((by decide +kernel : ∀ d ∈ Bundle.stringAtoms, d ∈ tables_1) d hd)) e0 SI0 (Nat.zero_le _) (Fr.nil _) (by rw [hh]; exact HO.2.2) Ks0 (by simp [own_KL]) (by decide +kernel) HC0 HW (by decide +kernel) (by decide) (by decide) (g := (mkF m 0 #[vi x_] [])) rfl (hb hby d1_0) (n := 32) (by decide +kernel) (by decide) (by first | decide | omega | (dsimp only; omega)) (by first | decide | omega | (dsimp only; omega))
  refine Goes.via st1 ?_
  have ne2 : ka1 ≠ kb1 := kE1.neArv kA1 (own_w hw 6 rfl)
  show Goes p e below _ (T1.setTop (mkF m 2 #[vi x_] [(.ref ka1)]))
  have kW3 : Arw Z h1 kb1 kc1 .byte 8 (fun i => .int (own_gH i)) := Arw.ofArv kA1 (by decide) (fun i hi => own_lt_own_gH i hi)
  refine gILN X1 hx hby d1_2 rfl ?_
  refine gBI (z := 7) X1 hx hby d1_3 rfl ?_
  refine Goes.via (fun _ kk_ => XS.iand X1.here hx rfl (hb hby d1_5) rfl kk_) ?_
  show Goes p e below _ (T1.setTop (mkF m 6 #[vi x_] [(.int (x_ &&& (7 : Int32))), (.ref ka1)]))
  have f4 : Sta Z h1 "java/lang/String" "COMPACT_STRINGS" "Z" (.int cS) := (S0_java_lang_String_COMPACT_STRINGS_COMPACT_STRINGS.ext E1)
  have f5 : Sta Z h1 "jdk/internal/util/Preconditions" "SIOOBE_FORMATTER" "Ljava/util/function/BiFunction;" fo := (S2_jdk_internal_util_Preconditions_SIOOBE_FORMATTER_SIOOBE_FORMATTER.ext E1)
  have z7 : h0.size ≤ (h1).size := (Nat.le_trans (Nat.le_refl _) E1.1)
  obtain ⟨cq6, kq6, q6a, q6b, q6c⟩ := isOf hZ e1 kE1
  obtain ⟨_, _, ⟨T6, L6, k6, n6⟩, -, X6, ⟨Lc6, hQ6, l6, y6, z6⟩, st6⟩ := X1.virtualBack hx (y := (⟨"java/lang/String", "charAt", "(I)C"⟩ : MethodName)) (z := (⟨"java/lang/String", "charAt", "(I)C"⟩ : MethodName)) hown (mvT hZ (own_w hw 12 rfl)) (mvT hZ (own_w hw 13 rfl)) (notFace_of_selects (args := #[]) (mvT hZ (own_w hw 15 rfl))) (mvT hZ (own_w hw 15 rfl)) (mvT hZ (own_w hw 14 rfl)) (by decide) (backOf (W := 0) (rm2 l Z a0 hw [] ka1 (x_ &&& (7 : Int32)) cS kb1 kc1 8 own_gH (8 : Int32) (x_ &&& (7 : Int32)).toNatClampNeg fo h1 n0 (Nat.le_trans Z0 z7) kE1 kC1 kV1 kW3 f4 H_cs (own_m7 x_).1 (own_m7 x_).2 (by decide) f5 Hfo) hZ (own_w hw 16 rfl) (own_w hw 5 rfl) (by decide) (by decide)) q6a q6c (g := (mkF m 6 #[vi x_] [(.int (x_ &&& (7 : Int32))), (.ref ka1)])) rfl (by rw [hml]; rfl) (Steps.refl _) (argsL := [(.int (x_ &&& (7 : Int32)))]) (rest := []) (lenOf pd_17 rfl) rfl (by show 2 * 0 + _ ≤ _; exact Nat.le_of_eq rfl) (hb hby d1_6) (fun _ _ => ⟨rfl, e1, (by decide : 2 + 0 ≤ _), (by decide : 36 + 0 ≤ _)⟩)
  dsimp only [Pt.U, Pt.locs, Pt.cells, Pt.slots] at X6 l6 y6 z6 st6 hQ6
  replace l6 := l6.symm
  subst l6 y6 z6
  obtain ⟨rfl, rfl, e6⟩ := hQ6
  first | rw [List.append_nil] at X6 | skip
  refine Goes.tr st6 ?_
  have e6' : T6.heap = h1 := e6
  show Goes p e below _ (T6.setTop (mkF m 9 #[vi x_] [(.int (own_gH (x_ &&& (7 : Int32)).toNatClampNeg &&& (255 : Int32)))]))
  have K8 : Keep h0 h1 [] := ((Keep.refl h0 []).ext E1)
  have hKe : KS Z own_KL T6.vm T6.heap := by rw [e6']; exact Ks1.at_ (s := s) X6.warmed
  exact own_wfinN X6 SI1 (by rw [e6']; exact sk1) (fun U_ hv hh_ => by show KS Z own_KL U_.vm U_.heap; rw [hv, hh_]; exact hKe) hx hlk hret (by simp) (hb hby d1_9) (by rw [e6']; exact ⟨(own_ret (i2c_mask _)), N0, K8⟩) (by first | decide | omega | (dsimp only; omega)) (by first | decide | omega | (dsimp only; omega))
theorem ef_rm7 (m : MethodId) (x_ : Int32) : entryFrame m #[(.int x_)] 1 = mkF m 0 #[.val (.int x_)] [] := by first | (simp [entryFrame, mkF, argsToLocals, Value.category]; done) | rfl
def Qrm7 (Z : State) (x_ : Int32) (cS : Int32) (fo : Value) (h0 : Heap) (n0 : Nat) (v_ : Option Value) (h_ : Heap) (L_ : List Loc) : Prop := v_ = some (.int (own_tl x_)) ∧ Fr n0 L_ ∧ Keep h0 h_ []
theorem d7_0 : decode method_3_code 0 = .ok (.ldc 15, 2) := by decide +kernel
theorem d7_2 : decode method_3_code 2 = .ok (.iload_n 0, 1) := by decide +kernel
theorem d7_3 : decode method_3_code 3 = .ok (.bipush 7, 2) := by decide +kernel
theorem d7_5 : decode method_3_code 5 = .ok (.iand, 1) := by decide +kernel
theorem d7_6 : decode method_3_code 6 = .ok (.invokevirtual 9, 3) := by decide +kernel
theorem d7_9 : decode method_3_code 9 = .ok (.ireturn, 1) := by decide +kernel
set_option maxRecDepth 65536 in
set_option maxHeartbeats 40000000 in
theorem rm7 (l : Launch) (Z : State) (a0 : Array Value) (hw : ∀ d ∈ tables_1, d.before a0 Z = true) (ws : List Jvm.Cond) (x_ : Int32) (cS : Int32) (fo : Value) (h0 : Heap) (n0 : Nat) (Z0 : n0 ≤ h0.size) (S0_java_lang_String_COMPACT_STRINGS_COMPACT_STRINGS : Sta Z h0 "java/lang/String" "COMPACT_STRINGS" "Z" (.int cS)) (H_cs : ¬ cS = (0 : Int32)) (S2_jdk_internal_util_Preconditions_SIOOBE_FORMATTER_SIOOBE_FORMATTER : Sta Z h0 "jdk/internal/util/Preconditions" "SIOOBE_FORMATTER" "Ljava/util/function/BiFunction;" fo) (Hfo : fo.isRef = true) (HO : Old Z n0 h0) (HW : Jvm.Lit.compactW.before a0 Z = true) (HC0 : Jvm.Lit.constHeld Z "com/example/lincra/lincra/UrlNormalizerPathPinLaw" 7) (HC1 : Jvm.Lit.constHeld Z "com/example/lincra/lincra/UrlNormalizerPathPinLaw" 15) (HC2 : Jvm.Lit.constHeld Z "com/example/lincra/lincra/UrlNormalizer" 81) :
    MetFree l (⟨"com/example/lincra/lincra/UrlNormalizerPathPinLaw", "tailChar", "(I)C"⟩ : MethodName) (head1 (Jvm.Cond.code (⟨"com/example/lincra/lincra/UrlNormalizerPathPinLaw", "tailChar", "(I)C"⟩ : MethodName) method_3_code 1 (some .char) :: ws) ({ frames := 4, cells := 2, slots := 36, locals := 53 } : Room)) (fun as_ U_ => as_ = #[(.int x_)] ∧ Z.Warmed39 U_.vm ∧ U_.heap = h0 ∧ KS Z own_KL U_.vm U_.heap) (fun _ _ _ _ _ => True) (fun _ U_ o_ V_ => ∃ v_ L_, o_ = .returned v_ ∧ Qrm7 Z x_ cS fo h0 n0 v_ V_.heap L_ ∧ KS Z own_KL V_.vm V_.heap ∧ ReturnedEndW U_ o_ V_ L_ ({ frames := 4, cells := 2, slots := 36, locals := 53 } : Room).cells ({ frames := 4, cells := 2, slots := 36, locals := 53 } : Room).slots) := by
  refine MetFree.of_bodySF (plainFor_of_name pn_com_example_lincra_lincra_UrlNormalizerPathPinLaw) hisR ?_
  intro p e s m args below meth c s₁ Bd hml0 hP hK
  obtain ⟨rfl, hZ, hh, hKs⟩ := hP
  have hx := Bd.exec
  have hby := Bd.bytes
  have hlk : meth.locks = false := BodyLoose.notSynchronized Bd
  have hret := Bd.returns
  have hml : c.maxLocals = 1 := hml0
  have hown : s.vm.findClass "com/example/lincra/lincra/UrlNormalizerPathPinLaw" = some m.cls := findClass_of_methodNamed Bd.named
  have hnm := (name_of_methodNamed Bd.named Bd.method).1
  have X0 : Stand p l e ({ frames := 4, cells := 2, slots := 36, locals := 53 } : Room) (s.setVm s.vm) m #[(.int x_)] below meth c s₁ [] 0 0 := Stand.of_body Bd
  have e0 : s₁.heap = h0 := by rw [← hh, Bd.state]; rfl
  have N0 := Fr.nil n0
  show Goes p e below (Fin_W s (Qrm7 Z x_ cS fo h0 n0) (fun U_ => KS Z own_KL U_.vm U_.heap) ({ frames := 4, cells := 2, slots := 36, locals := 53 } : Room).cells ({ frames := 4, cells := 2, slots := 36, locals := 53 } : Room).slots) (s₁.setTop (entryFrame m #[(.int x_)] 1))
  rw [ef_rm7 m x_]
  have SI0 : s.Since s.vm 0 := (State.WarmedH.refl s).since 0
  have Ks0 : KS Z own_KL s.vm h0 := hh ▸ hKs
  obtain ⟨ka1, T1, h1, vm1, k11, kb1, kc1, X1, e1, E1, SI1, sk1, hZ, hown, kE1, kC1, kV1, kA1, kL1, Ks1, st1⟩ := own_ldcK (KL := own_KL) (z := (8 : Int32)) (vs := [(.int 97), (.int 47), (.int 63), (.int 90), (.int 57), (.int 45), (.int 61), (.int 58)]) X0 hx hZ hown (own_w hw 41 rfl) (fun d hd => hw d ((by decide +kernel : ∀ d ∈ Bundle.stringAtoms, d ∈ tables_1) d hd)) e0 SI0 (Nat.zero_le _) (Fr.nil _) (by rw [hh]; exact HO.2.2) Ks0 (by simp [own_KL]) (by decide +kernel) HC1 HW (by decide +kernel) (by decide) (by decide) (g := (mkF m 0 #[vi x_] [])) rfl (hb hby d7_0) (n := 32) (by decide +kernel) (by decide) (by first | decide | omega | (dsimp only; omega)) (by first | decide | omega | (dsimp only; omega))
  refine Goes.via st1 ?_
  have ne2 : ka1 ≠ kb1 := kE1.neArv kA1 (own_w hw 6 rfl)
  show Goes p e below _ (T1.setTop (mkF m 2 #[vi x_] [(.ref ka1)]))
  have kW3 : Arw Z h1 kb1 kc1 .byte 8 (fun i => .int (own_gT i)) := Arw.ofArv kA1 (by decide) (fun i hi => own_lt_own_gT i hi)
  refine gILN X1 hx hby d7_2 rfl ?_
  refine gBI (z := 7) X1 hx hby d7_3 rfl ?_
  refine Goes.via (fun _ kk_ => XS.iand X1.here hx rfl (hb hby d7_5) rfl kk_) ?_
  show Goes p e below _ (T1.setTop (mkF m 6 #[vi x_] [(.int (x_ &&& (7 : Int32))), (.ref ka1)]))
  have f4 : Sta Z h1 "java/lang/String" "COMPACT_STRINGS" "Z" (.int cS) := (S0_java_lang_String_COMPACT_STRINGS_COMPACT_STRINGS.ext E1)
  have f5 : Sta Z h1 "jdk/internal/util/Preconditions" "SIOOBE_FORMATTER" "Ljava/util/function/BiFunction;" fo := (S2_jdk_internal_util_Preconditions_SIOOBE_FORMATTER_SIOOBE_FORMATTER.ext E1)
  have z7 : h0.size ≤ (h1).size := (Nat.le_trans (Nat.le_refl _) E1.1)
  obtain ⟨cq6, kq6, q6a, q6b, q6c⟩ := isOf hZ e1 kE1
  obtain ⟨_, _, ⟨T6, L6, k6, n6⟩, -, X6, ⟨Lc6, hQ6, l6, y6, z6⟩, st6⟩ := X1.virtualBack hx (y := (⟨"java/lang/String", "charAt", "(I)C"⟩ : MethodName)) (z := (⟨"java/lang/String", "charAt", "(I)C"⟩ : MethodName)) hown (mvT hZ (own_w hw 12 rfl)) (mvT hZ (own_w hw 13 rfl)) (notFace_of_selects (args := #[]) (mvT hZ (own_w hw 15 rfl))) (mvT hZ (own_w hw 15 rfl)) (mvT hZ (own_w hw 14 rfl)) (by decide) (backOf (W := 0) (rm2 l Z a0 hw [] ka1 (x_ &&& (7 : Int32)) cS kb1 kc1 8 own_gT (8 : Int32) (x_ &&& (7 : Int32)).toNatClampNeg fo h1 n0 (Nat.le_trans Z0 z7) kE1 kC1 kV1 kW3 f4 H_cs (own_m7 x_).1 (own_m7 x_).2 (by decide) f5 Hfo) hZ (own_w hw 16 rfl) (own_w hw 5 rfl) (by decide) (by decide)) q6a q6c (g := (mkF m 6 #[vi x_] [(.int (x_ &&& (7 : Int32))), (.ref ka1)])) rfl (by rw [hml]; rfl) (Steps.refl _) (argsL := [(.int (x_ &&& (7 : Int32)))]) (rest := []) (lenOf pd_17 rfl) rfl (by show 2 * 0 + _ ≤ _; exact Nat.le_of_eq rfl) (hb hby d7_6) (fun _ _ => ⟨rfl, e1, (by decide : 2 + 0 ≤ _), (by decide : 36 + 0 ≤ _)⟩)
  dsimp only [Pt.U, Pt.locs, Pt.cells, Pt.slots] at X6 l6 y6 z6 st6 hQ6
  replace l6 := l6.symm
  subst l6 y6 z6
  obtain ⟨rfl, rfl, e6⟩ := hQ6
  first | rw [List.append_nil] at X6 | skip
  refine Goes.tr st6 ?_
  have e6' : T6.heap = h1 := e6
  show Goes p e below _ (T6.setTop (mkF m 9 #[vi x_] [(.int (own_gT (x_ &&& (7 : Int32)).toNatClampNeg &&& (255 : Int32)))]))
  have K8 : Keep h0 h1 [] := ((Keep.refl h0 []).ext E1)
  have hKe : KS Z own_KL T6.vm T6.heap := by rw [e6']; exact Ks1.at_ (s := s) X6.warmed
  exact own_wfinN X6 SI1 (by rw [e6']; exact sk1) (fun U_ hv hh_ => by show KS Z own_KL U_.vm U_.heap; rw [hv, hh_]; exact hKe) hx hlk hret (by simp) (hb hby d7_9) (by rw [e6']; exact ⟨(own_ret (i2c_mask _)), N0, K8⟩) (by first | decide | omega | (dsimp only; omega)) (by first | decide | omega | (dsimp only; omega))
theorem ef_rmPath4 (m : MethodId) (a : Addr) : entryFrame m #[(.ref a)] 3 = mkF m 0 #[.val (.ref a), .unset, .unset] [] := by first | (simp [entryFrame, mkF, argsToLocals, Value.category]; done) | rfl
def QrmPath4 (Z : State) (a : Addr) (cS : Int32) (fo : Value) (t : Addr) (kc : ClassId) (g : Nat → Int32) (M : Nat) (h0 : Heap) (n0 : Nat) (v_ : Option Value) (h_ : Heap) (L_ : List Loc) : Prop := ∃ r_ : Addr, ∃ nb : Addr, ∃ kb : ClassId, v_ = some (.ref r_) ∧ Fr n0 L_ ∧ Keep h0 h_ [] ∧ h0.size ≤ r_ ∧ Exa Z h_ r_ "java/lang/String" ∧ Fld Z h_ r_ "java/lang/String" "coder" "B" (.int (0 : Int32)) ∧ Fld Z h_ r_ "java/lang/String" "value" "[B" (.ref nb) ∧ Arw Z h_ nb kb .byte M (fun i => .int ((fun i => g (9 + i)) i))
theorem pn_com_example_lincra_lincra_UrlNormalizer : plainName "com/example/lincra/lincra/UrlNormalizer" = true := by first | (simp [plainName, overriddenIn]; done) | decide +kernel
theorem d14_0 : decode prog_17_method_5_code 0 = .ok (.aload_n 0, 1) := by decide +kernel
theorem d14_1 : decode prog_17_method_5_code 1 = .ok (.bipush 47, 2) := by decide +kernel
theorem d14_3 : decode prog_17_method_5_code 3 = .ok (.aload_n 0, 1) := by decide +kernel
theorem d14_4 : decode prog_17_method_5_code 4 = .ok (.ldc 81, 2) := by decide +kernel
theorem pd_18 : parseMethodDescriptor "(Ljava/lang/String;)I" = some ⟨[(.object "java/lang/String")], some .int⟩ := by decide +kernel
theorem d14_6 : decode prog_17_method_5_code 6 = .ok (.invokevirtual 100, 3) := by decide +kernel
theorem d14_9 : decode prog_17_method_5_code 9 = .ok (.iconst 3, 1) := by decide +kernel
theorem d14_10 : decode prog_17_method_5_code 10 = .ok (.iadd, 1) := by decide +kernel
theorem d14_11 : decode prog_17_method_5_code 11 = .ok (.invokevirtual 64, 3) := by decide +kernel
theorem d14_14 : decode prog_17_method_5_code 14 = .ok (.istore_n 1, 1) := by decide +kernel
theorem d14_15 : decode prog_17_method_5_code 15 = .ok (.aload_n 0, 1) := by decide +kernel
theorem d14_16 : decode prog_17_method_5_code 16 = .ok (.bipush 63, 2) := by decide +kernel
theorem d14_18 : decode prog_17_method_5_code 18 = .ok (.iload_n 1, 1) := by decide +kernel
theorem d14_19 : decode prog_17_method_5_code 19 = .ok (.invokevirtual 64, 3) := by decide +kernel
theorem d14_22 : decode prog_17_method_5_code 22 = .ok (.istore_n 2, 1) := by decide +kernel
theorem d14_23 : decode prog_17_method_5_code 23 = .ok (.iload_n 2, 1) := by decide +kernel
theorem d14_24 : decode prog_17_method_5_code 24 = .ok (.ifCond .ge 11, 3) := by decide +kernel
theorem d14_27 : decode prog_17_method_5_code 27 = .ok (.aload_n 0, 1) := by decide +kernel
theorem d14_28 : decode prog_17_method_5_code 28 = .ok (.iload_n 1, 1) := by decide +kernel
theorem pd_19 : parseMethodDescriptor "(I)Ljava/lang/String;" = some ⟨[.int], some (.object "java/lang/String")⟩ := by decide +kernel
theorem d14_29 : decode prog_17_method_5_code 29 = .ok (.invokevirtual 67, 3) := by decide +kernel
theorem d14_32 : decode prog_17_method_5_code 32 = .ok (.goto 9, 3) := by decide +kernel
theorem d14_41 : decode prog_17_method_5_code 41 = .ok (.areturn, 1) := by decide +kernel
theorem d14_35 : decode prog_17_method_5_code 35 = .ok (.aload_n 0, 1) := by decide +kernel
theorem d14_36 : decode prog_17_method_5_code 36 = .ok (.iload_n 1, 1) := by decide +kernel
theorem d14_37 : decode prog_17_method_5_code 37 = .ok (.iload_n 2, 1) := by decide +kernel
theorem d14_38 : decode prog_17_method_5_code 38 = .ok (.invokevirtual 34, 3) := by decide +kernel
set_option maxRecDepth 65536 in
set_option maxHeartbeats 40000000 in
theorem rmPath4 (l : Launch) (Z : State) (a0 : Array Value) (hw : ∀ d ∈ tables_1, d.before a0 Z = true) (ws : List Jvm.Cond) (a : Addr) (cS : Int32) (fo : Value) (t : Addr) (kc : ClassId) (g : Nat → Int32) (M : Nat) (h0 : Heap) (n0 : Nat) (Z0 : n0 ≤ h0.size) (E0_a : Exa Z h0 a "java/lang/String") (F1_a_coder : Fld Z h0 a "java/lang/String" "coder" "B" (.int (0 : Int32))) (F2_a_value : Fld Z h0 a "java/lang/String" "value" "[B" (.ref t)) (A3_t : Arw Z h0 t kc .byte 16 (fun i => .int (g i))) (S4_java_lang_String_COMPACT_STRINGS_COMPACT_STRINGS : Sta Z h0 "java/lang/String" "COMPACT_STRINGS" "Z" (.int cS)) (H_cs : ¬ cS = (0 : Int32)) (S6_jdk_internal_util_Preconditions_SIOOBE_FORMATTER_SIOOBE_FORMATTER : Sta Z h0 "jdk/internal/util/Preconditions" "SIOOBE_FORMATTER" "Ljava/util/function/BiFunction;" fo) (Hfo : fo.isRef = true) (HO : Old Z n0 h0) (HW : Jvm.Lit.compactW.before a0 Z = true) (HC0 : Jvm.Lit.constHeld Z "com/example/lincra/lincra/UrlNormalizerPathPinLaw" 7) (HC1 : Jvm.Lit.constHeld Z "com/example/lincra/lincra/UrlNormalizerPathPinLaw" 15) (HC2 : Jvm.Lit.constHeld Z "com/example/lincra/lincra/UrlNormalizer" 81) (Hn0 : g 0 ≠ (58 : Int32)) (Hn1 : g 1 ≠ (58 : Int32)) (Hn2 : g 2 ≠ (58 : Int32)) (Hn3 : g 3 ≠ (58 : Int32)) (Hp0 : g 4 = (58 : Int32)) (Hp1 : g 5 = (47 : Int32)) (Hp2 : g 6 = (47 : Int32)) (HQ : own_find g (47 : Int32).toInt8.toInt32 (16 - 7) 7 (7 : Int32) = (9 : Int32)) (HR : ((own_find g (63 : Int32).toInt8.toInt32 (16 - 9) 9 (9 : Int32) < (0 : Int32) ∧ 9 + M = 16) ∨ (¬ own_find g (63 : Int32).toInt8.toInt32 (16 - 9) 9 (9 : Int32) < (0 : Int32) ∧ (own_find g (63 : Int32).toInt8.toInt32 (16 - 9) 9 (9 : Int32)).toInt = ((9 + M : Nat) : Int)))) (HqM : 9 + M ≤ 16) (HM0 : 0 < M) (HM16 : M ≤ 16) :
    MetFree l (⟨"com/example/lincra/lincra/UrlNormalizer", "path", "(Ljava/lang/String;)Ljava/lang/String;"⟩ : MethodName) (head1 (Jvm.Cond.code (⟨"com/example/lincra/lincra/UrlNormalizer", "path", "(Ljava/lang/String;)Ljava/lang/String;"⟩ : MethodName) prog_17_method_5_code 3 (some (.object "java/lang/String")) :: ws) ({ frames := 6, cells := 4, slots := 36, locals := 111 } : Room)) (fun as_ U_ => as_ = #[(.ref a)] ∧ Z.Warmed39 U_.vm ∧ U_.heap = h0 ∧ KS Z own_KL U_.vm U_.heap) (fun _ _ _ _ _ => True) (fun _ U_ o_ V_ => ∃ v_ L_, o_ = .returned v_ ∧ QrmPath4 Z a cS fo t kc g M h0 n0 v_ V_.heap L_ ∧ KS Z own_KL V_.vm V_.heap ∧ ReturnedEndW U_ o_ V_ L_ ({ frames := 6, cells := 4, slots := 36, locals := 111 } : Room).cells ({ frames := 6, cells := 4, slots := 36, locals := 111 } : Room).slots) := by
  refine MetFree.of_bodySF (plainFor_of_name pn_com_example_lincra_lincra_UrlNormalizer) hisR ?_
  intro p e s m args below meth c s₁ Bd hml0 hP hK
  obtain ⟨rfl, hZ, hh, hKs⟩ := hP
  have hx := Bd.exec
  have hby := Bd.bytes
  have hlk : meth.locks = false := BodyLoose.notSynchronized Bd
  have hret := Bd.returns
  have hml : c.maxLocals = 3 := hml0
  have hown : s.vm.findClass "com/example/lincra/lincra/UrlNormalizer" = some m.cls := findClass_of_methodNamed Bd.named
  have hnm := (name_of_methodNamed Bd.named Bd.method).1
  have X0 : Stand p l e ({ frames := 6, cells := 4, slots := 36, locals := 111 } : Room) (s.setVm s.vm) m #[(.ref a)] below meth c s₁ [] 0 0 := Stand.of_body Bd
  have e0 : s₁.heap = h0 := by rw [← hh, Bd.state]; rfl
  have N0 := Fr.nil n0
  show Goes p e below (Fin_W s (QrmPath4 Z a cS fo t kc g M h0 n0) (fun U_ => KS Z own_KL U_.vm U_.heap) ({ frames := 6, cells := 4, slots := 36, locals := 111 } : Room).cells ({ frames := 6, cells := 4, slots := 36, locals := 111 } : Room).slots) (s₁.setTop (entryFrame m #[(.ref a)] 3))
  rw [ef_rmPath4 m a]
  have SI0 : s.Since s.vm 0 := (State.WarmedH.refl s).since 0
  have Ks0 : KS Z own_KL s.vm h0 := hh ▸ hKs
  have ne1 : a ≠ t := own_ne_arr E0_a (own_w hw 6 rfl) A3_t
  refine gALN X0 hx hby d14_0 rfl rfl ?_
  refine gBI (z := 47) X0 hx hby d14_1 rfl ?_
  refine gALN X0 hx hby d14_3 rfl rfl ?_
  obtain ⟨ka2, T2, h2, vm2, k12, kb2, kc2, X2, e2, E2, SI2, sk2, hZ, hown, kE2, kC2, kV2, kA2, kL2, Ks2, st2⟩ := own_ldcK (KL := own_KL) (z := (3 : Int32)) (vs := [(.int 58), (.int 47), (.int 47)]) X0 hx hZ hown (own_w hw 67 rfl) (fun d hd => hw d ((by decide +kernel : ∀ d ∈ Bundle.stringAtoms, d ∈ tables_1) d hd)) e0 SI0 (Nat.zero_le _) (Fr.nil _) (by rw [hh]; exact HO.2.2) Ks0 (by simp [own_KL]) (by decide +kernel) HC2 HW (by decide +kernel) (by decide) (by decide) (g := (mkF m 4 #[vr a, .unset, .unset] [(.ref a), (.int (47 : Int32)), (.ref a)])) rfl (hb hby d14_4) (n := 12) (by decide +kernel) (by decide) (by first | decide | omega | (dsimp only; omega)) (by first | decide | omega | (dsimp only; omega))
  refine Goes.via st2 ?_
  have f3 : Exa Z h2 a "java/lang/String" := (E0_a.ext E2)
  have f4 : Fld Z h2 a "java/lang/String" "value" "[B" (.ref t) := (F2_a_value.ext E2)
  have ne5 : a ≠ kb2 := f3.neArv kA2 (own_w hw 6 rfl)
  have ne6 : ka2 ≠ kb2 := kE2.neArv kA2 (own_w hw 6 rfl)
  show Goes p e below _ (T2.setTop (mkF m 6 #[vr a, .unset, .unset] [(.ref ka2), (.ref a), (.int (47 : Int32)), (.ref a)]))
  have kW7 : Arw Z h2 kb2 kc2 .byte 3 (fun i => .int (own_gP i)) := Arw.ofArv kA2 (by decide) (fun i hi => own_lt_own_gP i hi)
  have f8 : Fld Z h2 a "java/lang/String" "coder" "B" (.int (0 : Int32)) := (F1_a_coder.ext E2)
  have f9 : Arw Z h2 t kc .byte 16 (fun i => .int (g i)) := (A3_t.ext E2)
  have f10 : Sta Z h2 "java/lang/String" "COMPACT_STRINGS" "Z" (.int cS) := (S4_java_lang_String_COMPACT_STRINGS_COMPACT_STRINGS.ext E2)
  have z12 : h0.size ≤ (h2).size := (Nat.le_trans (Nat.le_refl _) E2.1)
  obtain ⟨cq11, kq11, q11a, q11b, q11c⟩ := isOf hZ e2 f3
  obtain ⟨_, _, ⟨T11, L11, k11, n11⟩, -, X11, ⟨Lc11, hQ11, l11, y11, z11⟩, st11⟩ := X2.virtualBack hx (y := (⟨"java/lang/String", "indexOf", "(Ljava/lang/String;)I"⟩ : MethodName)) (z := (⟨"java/lang/String", "indexOf", "(Ljava/lang/String;)I"⟩ : MethodName)) hown (mvT hZ (own_w hw 68 rfl)) (mvT hZ (own_w hw 69 rfl)) (notFace_of_selects (args := #[]) (mvT hZ (own_w hw 71 rfl))) (mvT hZ (own_w hw 71 rfl)) (mvT hZ (own_w hw 70 rfl)) (by decide) (backOf (W := 2) (rmU4 l Z a0 hw [] a ka2 cS t kb2 kc kc2 g h2 n0 (Nat.le_trans Z0 z12) f3 f8 f4 f9 kE2 kC2 kV2 kW7 f10 H_cs Hn0 Hn1 Hn2 Hn3 Hp0 Hp1 Hp2) hZ (own_w hw 72 rfl) (own_w hw 5 rfl) (by decide) (by decide)) q11a q11c (g := (mkF m 6 #[vr a, .unset, .unset] [(.ref ka2), (.ref a), (.int (47 : Int32)), (.ref a)])) rfl (by rw [hml]; rfl) (Steps.refl _) (argsL := [(.ref ka2)]) (rest := [(.int (47 : Int32)), (.ref a)]) (lenOf pd_18 rfl) rfl (by show 2 * 0 + _ ≤ _; exact Nat.le_of_eq rfl) (hb hby d14_6) (fun _ _ => ⟨rfl, e2, (by decide : 2 + 0 ≤ _), (by decide : 16 + 0 ≤ _)⟩)
  dsimp only [Pt.U, Pt.locs, Pt.cells, Pt.slots] at X11 l11 y11 z11 st11 hQ11
  replace l11 := l11.symm
  subst l11 y11 z11
  obtain ⟨rfl, rfl, e11⟩ := hQ11
  first | rw [List.append_nil] at X11 | skip
  refine Goes.tr st11 ?_
  have e11' : T11.heap = h2 := e11
  have ne13 : ka2 ≠ t := own_ne_arr kE2 (own_w hw 6 rfl) f9
  show Goes p e below _ (T11.setTop (mkF m 9 #[vr a, .unset, .unset] [(.int (4 : Int32)), (.int (47 : Int32)), (.ref a)]))
  refine gIC (z := 3) X11 hx hby d14_9 rfl ?_
  refine Goes.via (fun _ kk_ => XS.iadd X11.here hx rfl (hb hby d14_10) rfl kk_) ?_
  show Goes p e below _ (T11.setTop (mkF m 11 #[vr a, .unset, .unset] [(.int ((4 : Int32) + (3 : Int32))), (.int (47 : Int32)), (.ref a)]))
  rw [show ((4 : Int32) + (3 : Int32)) = (7 : Int32) from by decide]
  show Goes p e below _ (T11.setTop (mkF m 11 #[vr a, .unset, .unset] [(.int (7 : Int32)), (.int (47 : Int32)), (.ref a)]))
  obtain ⟨cq14, kq14, q14a, q14b, q14c⟩ := isOf hZ e11' f3
  obtain ⟨_, _, ⟨T14, L14, k14, n14⟩, -, X14, ⟨Lc14, hQ14, l14, y14, z14⟩, st14⟩ := X11.virtualBack hx (y := (⟨"java/lang/String", "indexOf", "(II)I"⟩ : MethodName)) (z := (⟨"java/lang/String", "indexOf", "(II)I"⟩ : MethodName)) hown (mvT hZ (own_w hw 84 rfl)) (mvT hZ (own_w hw 85 rfl)) (notFace_of_selects (args := #[]) (mvT hZ (own_w hw 87 rfl))) (mvT hZ (own_w hw 87 rfl)) (mvT hZ (own_w hw 86 rfl)) (by decide) (backOf (W := 0) (rm19 l Z a0 hw [] a (47 : Int32) (7 : Int32) (16 : Int32) cS t kc 16 g 7 h2 n0 (Nat.le_trans Z0 z12) f3 f8 f4 f9 f10 H_cs (by decide) (by decide) (by decide) (by first | assumption | rfl | decide | omega | (simp; done)) (by first | assumption | rfl | decide | omega | (simp; done))) hZ (own_w hw 88 rfl) (own_w hw 5 rfl) (by decide) (by decide)) q14a q14c (g := (mkF m 11 #[vr a, .unset, .unset] [(.int (7 : Int32)), (.int (47 : Int32)), (.ref a)])) rfl (by rw [hml]; rfl) (Steps.refl _) (argsL := [(.int (47 : Int32)), (.int (7 : Int32))]) (rest := []) (lenOf pd_6 rfl) rfl (by show 2 * 0 + _ ≤ _; exact Nat.le_of_eq rfl) (hb hby d14_11) (fun _ _ => ⟨rfl, e11', (by decide : 2 + 0 ≤ _), (by decide : 16 + 0 ≤ _)⟩)
  dsimp only [Pt.U, Pt.locs, Pt.cells, Pt.slots] at X14 l14 y14 z14 st14 hQ14
  replace l14 := l14.symm
  subst l14 y14 z14
  obtain ⟨rfl, rfl, e14⟩ := hQ14
  first | rw [List.append_nil] at X14 | skip
  refine Goes.tr st14 ?_
  have e14' : T14.heap = h2 := e14
  show Goes p e below _ (T14.setTop (mkF m 14 #[vr a, .unset, .unset] [(.int (own_find g (47 : Int32).toInt8.toInt32 (16 - 7) 7 (7 : Int32)))]))
  rw [HQ]
  show Goes p e below _ (T14.setTop (mkF m 14 #[vr a, .unset, .unset] [(.int (9 : Int32))]))
  refine Goes.via (fun _ kk_ => XS.istoreN X14.here hx rfl (hb hby d14_14) rfl (l' := #[vr a, vi (9 : Int32), .unset]) rfl kk_) ?_
  show Goes p e below _ (T14.setTop (mkF m 15 #[vr a, vi (9 : Int32), .unset] []))
  refine gALN X14 hx hby d14_15 rfl rfl ?_
  refine gBI (z := 63) X14 hx hby d14_16 rfl ?_
  refine gILN X14 hx hby d14_18 rfl ?_
  obtain ⟨cq15, kq15, q15a, q15b, q15c⟩ := isOf hZ e14' f3
  obtain ⟨_, _, ⟨T15, L15, k15, n15⟩, -, X15, ⟨Lc15, hQ15, l15, y15, z15⟩, st15⟩ := X14.virtualBack hx (y := (⟨"java/lang/String", "indexOf", "(II)I"⟩ : MethodName)) (z := (⟨"java/lang/String", "indexOf", "(II)I"⟩ : MethodName)) hown (mvT hZ (own_w hw 84 rfl)) (mvT hZ (own_w hw 85 rfl)) (notFace_of_selects (args := #[]) (mvT hZ (own_w hw 87 rfl))) (mvT hZ (own_w hw 87 rfl)) (mvT hZ (own_w hw 86 rfl)) (by decide) (backOf (W := 0) (rm19 l Z a0 hw [] a (63 : Int32) (9 : Int32) (16 : Int32) cS t kc 16 g 9 h2 n0 (Nat.le_trans Z0 z12) f3 f8 f4 f9 f10 H_cs (by decide) (by decide) (by decide) (by first | assumption | rfl | decide | omega | (simp; done)) (by first | assumption | rfl | decide | omega | (simp; done))) hZ (own_w hw 88 rfl) (own_w hw 5 rfl) (by decide) (by decide)) q15a q15c (g := (mkF m 19 #[vr a, vi (9 : Int32), .unset] [(.int (9 : Int32)), (.int (63 : Int32)), (.ref a)])) rfl (by rw [hml]; rfl) (Steps.refl _) (argsL := [(.int (63 : Int32)), (.int (9 : Int32))]) (rest := []) (lenOf pd_6 rfl) rfl (by show 2 * 0 + _ ≤ _; exact Nat.le_of_eq rfl) (hb hby d14_19) (fun _ _ => ⟨rfl, e14', (by decide : 2 + 0 ≤ _), (by decide : 16 + 0 ≤ _)⟩)
  dsimp only [Pt.U, Pt.locs, Pt.cells, Pt.slots] at X15 l15 y15 z15 st15 hQ15
  replace l15 := l15.symm
  subst l15 y15 z15
  obtain ⟨rfl, rfl, e15⟩ := hQ15
  first | rw [List.append_nil] at X15 | skip
  refine Goes.tr st15 ?_
  have e15' : T15.heap = h2 := e15
  show Goes p e below _ (T15.setTop (mkF m 22 #[vr a, vi (9 : Int32), .unset] [(.int (own_find g (63 : Int32).toInt8.toInt32 (16 - 9) 9 (9 : Int32)))]))
  refine Goes.via (fun _ kk_ => XS.istoreN X15.here hx rfl (hb hby d14_22) rfl (l' := #[vr a, vi (9 : Int32), vi (own_find g (63 : Int32).toInt8.toInt32 (16 - 9) 9 (9 : Int32))]) rfl kk_) ?_
  show Goes p e below _ (T15.setTop (mkF m 23 #[vr a, vi (9 : Int32), vi (own_find g (63 : Int32).toInt8.toInt32 (16 - 9) 9 (9 : Int32))] []))
  refine gILN X15 hx hby d14_23 rfl ?_
  by_cases hc24 : (own_find g (63 : Int32).toInt8.toInt32 (16 - 9) 9 (9 : Int32)) < (0 : Int32)
  · skip
    refine Goes.via (fun _ kk_ => XS.ifNo X15.here hx rfl (hb hby d14_24) rfl ((if0 _ _).trans (tlt hc24).2.1) kk_) ?_
    show Goes p e below _ (T15.setTop (mkF m 27 #[vr a, vi (9 : Int32), vi (own_find g (63 : Int32).toInt8.toInt32 (16 - 9) 9 (9 : Int32))] []))
    refine gALN X15 hx hby d14_27 rfl rfl ?_
    refine gILN X15 hx hby d14_28 rfl ?_
    have f16 : Sta Z h2 "jdk/internal/util/Preconditions" "SIOOBE_FORMATTER" "Ljava/util/function/BiFunction;" fo := (S6_jdk_internal_util_Preconditions_SIOOBE_FORMATTER_SIOOBE_FORMATTER.ext E2)
    obtain ⟨cq17, kq17, q17a, q17b, q17c⟩ := isOf hZ e15' f3
    obtain ⟨_, _, ⟨T17, L17, k17, n17⟩, -, X17, ⟨Lc17, hQ17, l17, y17, z17⟩, st17⟩ := X15.virtualBack hx (y := (⟨"java/lang/String", "substring", "(I)Ljava/lang/String;"⟩ : MethodName)) (z := (⟨"java/lang/String", "substring", "(I)Ljava/lang/String;"⟩ : MethodName)) hown (mvT hZ (own_w hw 110 rfl)) (mvT hZ (own_w hw 111 rfl)) (notFace_of_selects (args := #[]) (mvT hZ (own_w hw 113 rfl))) (mvT hZ (own_w hw 113 rfl)) (mvT hZ (own_w hw 112 rfl)) (by decide) (backOf (W := 0) (rm26 l Z a0 hw [] a (9 : Int32) cS fo t kc 16 g (16 : Int32) 9 M h2 n0 (Nat.le_trans Z0 z12) f3 f8 f4 f9 f10 H_cs f16 Hfo (by decide) (by decide) (by decide) HM0 HM16 (HR.elim (fun z => z.2) (fun z => absurd hc24 z.1))) hZ (own_w hw 114 rfl) (own_w hw 5 rfl) (by decide) (by decide)) q17a q17c (g := (mkF m 29 #[vr a, vi (9 : Int32), vi (own_find g (63 : Int32).toInt8.toInt32 (16 - 9) 9 (9 : Int32))] [(.int (9 : Int32)), (.ref a)])) rfl (by rw [hml]; rfl) (Steps.refl _) (argsL := [(.int (9 : Int32))]) (rest := []) (lenOf pd_19 rfl) rfl (by show 2 * 0 + _ ≤ _; exact Nat.le_of_eq rfl) (hb hby d14_29) (fun _ _ => ⟨rfl, e15', (by decide : 2 + 2 ≤ _), (by decide : 16 + 20 ≤ _)⟩)
    dsimp only [Pt.U, Pt.locs, Pt.cells, Pt.slots] at X17 l17 y17 z17 st17 hQ17
    replace l17 := l17.symm
    subst l17 y17 z17
    obtain ⟨r_17, nb17, kb17, rfl, N17q, K17, u17_0, u17_1, u17_2, u17_3, u17_4⟩ := hQ17
    have N17 := Fr.app N0 N17q
    refine Goes.tr st17 ?_
    have ne18 : a ≠ r_17 := Nat.ne_of_lt (Nat.lt_of_lt_of_le f3.lt u17_0)
    have ne19 : t ≠ r_17 := Nat.ne_of_lt (Nat.lt_of_lt_of_le f9.lt u17_0)
    have ne20 : ka2 ≠ r_17 := Nat.ne_of_lt (Nat.lt_of_lt_of_le kE2.lt u17_0)
    have ne21 : kb2 ≠ r_17 := Nat.ne_of_lt (Nat.lt_of_lt_of_le kA2.lt u17_0)
    have sz_r_17 : h0.size ≤ r_17 := Nat.le_trans z12 u17_0
    have gn_r_17 : n0 ≤ r_17 := Nat.le_trans Z0 sz_r_17
    -- u17_0 : h0.size ≤ r_17
    have ne22 : r_17 ≠ nb17 := own_ne_arr u17_1 (own_w hw 6 rfl) u17_4
    show Goes p e below _ (T17.setTop (mkF m 32 #[vr a, vi (9 : Int32), vi (own_find g (63 : Int32).toInt8.toInt32 (16 - 9) 9 (9 : Int32))] [(.ref r_17)]))
    refine Goes.via (fun _ kk_ => XS.goto X17.here hx rfl (pc0 := 32) (pc' := 41) rfl (hb hby d14_32) (by decide) (by decide) kk_) ?_
    show Goes p e below _ (T17.setTop (mkF m 41 #[vr a, vi (9 : Int32), vi (own_find g (63 : Int32).toInt8.toInt32 (16 - 9) 9 (9 : Int32))] [(.ref r_17)]))
    have K23 : Keep h0 T17.heap [] := (((Keep.refl h0 []).ext E2).trans K17 all0)
    have Ks24 : KS Z own_KL vm2 (T17.heap) := (Ks2.keep K17 all0)
    have hKe : KS Z own_KL T17.vm T17.heap := by rw [show T17.heap = T17.heap from rfl]; exact Ks24.at_ (s := s) X17.warmed
    have sk25 : _ ≤ (T17.heap).size := (Nat.le_trans sk2 K17.1)
    exact own_wfinR X17 SI2 sk25 (fun U_ hv hh_ => by show KS Z own_KL U_.vm U_.heap; rw [hv, hh_]; exact hKe) hx hlk hret rfl rfl rfl (hb hby d14_41) (by exact ⟨r_17, nb17, kb17, rfl, N17, K23, sz_r_17, u17_1, u17_2, u17_3, u17_4⟩) (by first | decide | omega | (dsimp only; omega)) (by first | decide | omega | (dsimp only; omega))
  · skip
    refine Goes.via (fun _ kk_ => XS.ifYes X15.here hx rfl (pc0 := 24) (pc' := 35) rfl (hb hby d14_24) rfl ((if0 _ _).trans (flt hc24).2.1) (by decide) (by decide) kk_) ?_
    show Goes p e below _ (T15.setTop (mkF m 35 #[vr a, vi (9 : Int32), vi (own_find g (63 : Int32).toInt8.toInt32 (16 - 9) 9 (9 : Int32))] []))
    refine gALN X15 hx hby d14_35 rfl rfl ?_
    refine gILN X15 hx hby d14_36 rfl ?_
    refine gILN X15 hx hby d14_37 rfl ?_
    have f26 : Sta Z h2 "jdk/internal/util/Preconditions" "SIOOBE_FORMATTER" "Ljava/util/function/BiFunction;" fo := (S6_jdk_internal_util_Preconditions_SIOOBE_FORMATTER_SIOOBE_FORMATTER.ext E2)
    obtain ⟨cq27, kq27, q27a, q27b, q27c⟩ := isOf hZ e15' f3
    obtain ⟨_, _, ⟨T27, L27, k27, n27⟩, -, X27, ⟨Lc27, hQ27, l27, y27, z27⟩, st27⟩ := X15.virtualBack hx (y := (⟨"java/lang/String", "substring", "(II)Ljava/lang/String;"⟩ : MethodName)) (z := (⟨"java/lang/String", "substring", "(II)Ljava/lang/String;"⟩ : MethodName)) hown (mvT hZ (own_w hw 149 rfl)) (mvT hZ (own_w hw 116 rfl)) (notFace_of_selects (args := #[]) (mvT hZ (own_w hw 118 rfl))) (mvT hZ (own_w hw 118 rfl)) (mvT hZ (own_w hw 117 rfl)) (by decide) (backOf (W := 0) (rm27 l Z a0 hw [] a (9 : Int32) (own_find g (63 : Int32).toInt8.toInt32 (16 - 9) 9 (9 : Int32)) cS fo t kc 16 g (16 : Int32) 9 M h2 n0 (Nat.le_trans Z0 z12) f3 f8 f4 f9 f10 H_cs f26 Hfo (by decide) (by decide) (HR.elim (fun z => absurd z.1 hc24) (fun z => z.2)) HqM (by decide) HM0 HM16) hZ (own_w hw 119 rfl) (own_w hw 5 rfl) (by decide) (by decide)) q27a q27c (g := (mkF m 38 #[vr a, vi (9 : Int32), vi (own_find g (63 : Int32).toInt8.toInt32 (16 - 9) 9 (9 : Int32))] [(.int (own_find g (63 : Int32).toInt8.toInt32 (16 - 9) 9 (9 : Int32))), (.int (9 : Int32)), (.ref a)])) rfl (by rw [hml]; rfl) (Steps.refl _) (argsL := [(.int (9 : Int32)), (.int (own_find g (63 : Int32).toInt8.toInt32 (16 - 9) 9 (9 : Int32)))]) (rest := []) (lenOf pd_14 rfl) rfl (by show 2 * 0 + _ ≤ _; exact Nat.le_of_eq rfl) (hb hby d14_38) (fun _ _ => ⟨rfl, e15', (by decide : 2 + 2 ≤ _), (by decide : 16 + 20 ≤ _)⟩)
    dsimp only [Pt.U, Pt.locs, Pt.cells, Pt.slots] at X27 l27 y27 z27 st27 hQ27
    replace l27 := l27.symm
    subst l27 y27 z27
    obtain ⟨r_27, nb27, kb27, rfl, N27q, K27, u27_0, u27_1, u27_2, u27_3, u27_4⟩ := hQ27
    have N27 := Fr.app N0 N27q
    refine Goes.tr st27 ?_
    have ne28 : a ≠ r_27 := Nat.ne_of_lt (Nat.lt_of_lt_of_le f3.lt u27_0)
    have ne29 : t ≠ r_27 := Nat.ne_of_lt (Nat.lt_of_lt_of_le f9.lt u27_0)
    have ne30 : ka2 ≠ r_27 := Nat.ne_of_lt (Nat.lt_of_lt_of_le kE2.lt u27_0)
    have ne31 : kb2 ≠ r_27 := Nat.ne_of_lt (Nat.lt_of_lt_of_le kA2.lt u27_0)
    have sz_r_27 : h0.size ≤ r_27 := Nat.le_trans z12 u27_0
    have gn_r_27 : n0 ≤ r_27 := Nat.le_trans Z0 sz_r_27
    -- u27_0 : h0.size ≤ r_27
    have ne32 : r_27 ≠ nb27 := own_ne_arr u27_1 (own_w hw 6 rfl) u27_4
    show Goes p e below _ (T27.setTop (mkF m 41 #[vr a, vi (9 : Int32), vi (own_find g (63 : Int32).toInt8.toInt32 (16 - 9) 9 (9 : Int32))] [(.ref r_27)]))
    have K33 : Keep h0 T27.heap [] := (((Keep.refl h0 []).ext E2).trans K27 all0)
    have Ks34 : KS Z own_KL vm2 (T27.heap) := (Ks2.keep K27 all0)
    have hKe : KS Z own_KL T27.vm T27.heap := by rw [show T27.heap = T27.heap from rfl]; exact Ks34.at_ (s := s) X27.warmed
    have sk35 : _ ≤ (T27.heap).size := (Nat.le_trans sk2 K27.1)
    exact own_wfinR X27 SI2 sk35 (fun U_ hv hh_ => by show KS Z own_KL U_.vm U_.heap; rw [hv, hh_]; exact hKe) hx hlk hret rfl rfl rfl (hb hby d14_41) (by exact ⟨r_27, nb27, kb27, rfl, N27, K33, sz_r_27, u27_1, u27_2, u27_3, u27_4⟩) (by first | decide | omega | (dsimp only; omega)) (by first | decide | omega | (dsimp only; omega))
theorem ef_rmPath5 (m : MethodId) (a : Addr) : entryFrame m #[(.ref a)] 3 = mkF m 0 #[.val (.ref a), .unset, .unset] [] := by first | (simp [entryFrame, mkF, argsToLocals, Value.category]; done) | rfl
def QrmPath5 (Z : State) (a : Addr) (cS : Int32) (fo : Value) (t : Addr) (kc : ClassId) (g : Nat → Int32) (M : Nat) (h0 : Heap) (n0 : Nat) (v_ : Option Value) (h_ : Heap) (L_ : List Loc) : Prop := ∃ r_ : Addr, ∃ nb : Addr, ∃ kb : ClassId, v_ = some (.ref r_) ∧ Fr n0 L_ ∧ Keep h0 h_ [] ∧ h0.size ≤ r_ ∧ Exa Z h_ r_ "java/lang/String" ∧ Fld Z h_ r_ "java/lang/String" "coder" "B" (.int (0 : Int32)) ∧ Fld Z h_ r_ "java/lang/String" "value" "[B" (.ref nb) ∧ Arw Z h_ nb kb .byte M (fun i => .int ((fun i => g (10 + i)) i))
set_option maxRecDepth 65536 in
set_option maxHeartbeats 40000000 in
theorem rmPath5 (l : Launch) (Z : State) (a0 : Array Value) (hw : ∀ d ∈ tables_1, d.before a0 Z = true) (ws : List Jvm.Cond) (a : Addr) (cS : Int32) (fo : Value) (t : Addr) (kc : ClassId) (g : Nat → Int32) (M : Nat) (h0 : Heap) (n0 : Nat) (Z0 : n0 ≤ h0.size) (E0_a : Exa Z h0 a "java/lang/String") (F1_a_coder : Fld Z h0 a "java/lang/String" "coder" "B" (.int (0 : Int32))) (F2_a_value : Fld Z h0 a "java/lang/String" "value" "[B" (.ref t)) (A3_t : Arw Z h0 t kc .byte 16 (fun i => .int (g i))) (S4_java_lang_String_COMPACT_STRINGS_COMPACT_STRINGS : Sta Z h0 "java/lang/String" "COMPACT_STRINGS" "Z" (.int cS)) (H_cs : ¬ cS = (0 : Int32)) (S6_jdk_internal_util_Preconditions_SIOOBE_FORMATTER_SIOOBE_FORMATTER : Sta Z h0 "jdk/internal/util/Preconditions" "SIOOBE_FORMATTER" "Ljava/util/function/BiFunction;" fo) (Hfo : fo.isRef = true) (HO : Old Z n0 h0) (HW : Jvm.Lit.compactW.before a0 Z = true) (HC0 : Jvm.Lit.constHeld Z "com/example/lincra/lincra/UrlNormalizerPathPinLaw" 7) (HC1 : Jvm.Lit.constHeld Z "com/example/lincra/lincra/UrlNormalizerPathPinLaw" 15) (HC2 : Jvm.Lit.constHeld Z "com/example/lincra/lincra/UrlNormalizer" 81) (Hn0 : g 0 ≠ (58 : Int32)) (Hn1 : g 1 ≠ (58 : Int32)) (Hn2 : g 2 ≠ (58 : Int32)) (Hn3 : g 3 ≠ (58 : Int32)) (Hn4 : g 4 ≠ (58 : Int32)) (Hp0 : g 5 = (58 : Int32)) (Hp1 : g 6 = (47 : Int32)) (Hp2 : g 7 = (47 : Int32)) (HQ : own_find g (47 : Int32).toInt8.toInt32 (16 - 8) 8 (8 : Int32) = (10 : Int32)) (HR : ((own_find g (63 : Int32).toInt8.toInt32 (16 - 10) 10 (10 : Int32) < (0 : Int32) ∧ 10 + M = 16) ∨ (¬ own_find g (63 : Int32).toInt8.toInt32 (16 - 10) 10 (10 : Int32) < (0 : Int32) ∧ (own_find g (63 : Int32).toInt8.toInt32 (16 - 10) 10 (10 : Int32)).toInt = ((10 + M : Nat) : Int)))) (HqM : 10 + M ≤ 16) (HM0 : 0 < M) (HM16 : M ≤ 16) :
    MetFree l (⟨"com/example/lincra/lincra/UrlNormalizer", "path", "(Ljava/lang/String;)Ljava/lang/String;"⟩ : MethodName) (head1 (Jvm.Cond.code (⟨"com/example/lincra/lincra/UrlNormalizer", "path", "(Ljava/lang/String;)Ljava/lang/String;"⟩ : MethodName) prog_17_method_5_code 3 (some (.object "java/lang/String")) :: ws) ({ frames := 6, cells := 4, slots := 36, locals := 111 } : Room)) (fun as_ U_ => as_ = #[(.ref a)] ∧ Z.Warmed39 U_.vm ∧ U_.heap = h0 ∧ KS Z own_KL U_.vm U_.heap) (fun _ _ _ _ _ => True) (fun _ U_ o_ V_ => ∃ v_ L_, o_ = .returned v_ ∧ QrmPath5 Z a cS fo t kc g M h0 n0 v_ V_.heap L_ ∧ KS Z own_KL V_.vm V_.heap ∧ ReturnedEndW U_ o_ V_ L_ ({ frames := 6, cells := 4, slots := 36, locals := 111 } : Room).cells ({ frames := 6, cells := 4, slots := 36, locals := 111 } : Room).slots) := by
  refine MetFree.of_bodySF (plainFor_of_name pn_com_example_lincra_lincra_UrlNormalizer) hisR ?_
  intro p e s m args below meth c s₁ Bd hml0 hP hK
  obtain ⟨rfl, hZ, hh, hKs⟩ := hP
  have hx := Bd.exec
  have hby := Bd.bytes
  have hlk : meth.locks = false := BodyLoose.notSynchronized Bd
  have hret := Bd.returns
  have hml : c.maxLocals = 3 := hml0
  have hown : s.vm.findClass "com/example/lincra/lincra/UrlNormalizer" = some m.cls := findClass_of_methodNamed Bd.named
  have hnm := (name_of_methodNamed Bd.named Bd.method).1
  have X0 : Stand p l e ({ frames := 6, cells := 4, slots := 36, locals := 111 } : Room) (s.setVm s.vm) m #[(.ref a)] below meth c s₁ [] 0 0 := Stand.of_body Bd
  have e0 : s₁.heap = h0 := by rw [← hh, Bd.state]; rfl
  have N0 := Fr.nil n0
  show Goes p e below (Fin_W s (QrmPath5 Z a cS fo t kc g M h0 n0) (fun U_ => KS Z own_KL U_.vm U_.heap) ({ frames := 6, cells := 4, slots := 36, locals := 111 } : Room).cells ({ frames := 6, cells := 4, slots := 36, locals := 111 } : Room).slots) (s₁.setTop (entryFrame m #[(.ref a)] 3))
  rw [ef_rmPath5 m a]
  have SI0 : s.Since s.vm 0 := (State.WarmedH.refl s).since 0
  have Ks0 : KS Z own_KL s.vm h0 := hh ▸ hKs
  have ne1 : a ≠ t := own_ne_arr E0_a (own_w hw 6 rfl) A3_t
  refine gALN X0 hx hby d14_0 rfl rfl ?_
  refine gBI (z := 47) X0 hx hby d14_1 rfl ?_
  refine gALN X0 hx hby d14_3 rfl rfl ?_
  obtain ⟨ka2, T2, h2, vm2, k12, kb2, kc2, X2, e2, E2, SI2, sk2, hZ, hown, kE2, kC2, kV2, kA2, kL2, Ks2, st2⟩ := own_ldcK (KL := own_KL) (z := (3 : Int32)) (vs := [(.int 58), (.int 47), (.int 47)]) X0 hx hZ hown (own_w hw 67 rfl) (fun d hd => hw d ((by decide +kernel : ∀ d ∈ Bundle.stringAtoms, d ∈ tables_1) d hd)) e0 SI0 (Nat.zero_le _) (Fr.nil _) (by rw [hh]; exact HO.2.2) Ks0 (by simp [own_KL]) (by decide +kernel) HC2 HW (by decide +kernel) (by decide) (by decide) (g := (mkF m 4 #[vr a, .unset, .unset] [(.ref a), (.int (47 : Int32)), (.ref a)])) rfl (hb hby d14_4) (n := 12) (by decide +kernel) (by decide) (by first | decide | omega | (dsimp only; omega)) (by first | decide | omega | (dsimp only; omega))
  refine Goes.via st2 ?_
  have f3 : Exa Z h2 a "java/lang/String" := (E0_a.ext E2)
  have f4 : Fld Z h2 a "java/lang/String" "value" "[B" (.ref t) := (F2_a_value.ext E2)
  have ne5 : a ≠ kb2 := f3.neArv kA2 (own_w hw 6 rfl)
  have ne6 : ka2 ≠ kb2 := kE2.neArv kA2 (own_w hw 6 rfl)
  show Goes p e below _ (T2.setTop (mkF m 6 #[vr a, .unset, .unset] [(.ref ka2), (.ref a), (.int (47 : Int32)), (.ref a)]))
  have kW7 : Arw Z h2 kb2 kc2 .byte 3 (fun i => .int (own_gP i)) := Arw.ofArv kA2 (by decide) (fun i hi => own_lt_own_gP i hi)
  have f8 : Fld Z h2 a "java/lang/String" "coder" "B" (.int (0 : Int32)) := (F1_a_coder.ext E2)
  have f9 : Arw Z h2 t kc .byte 16 (fun i => .int (g i)) := (A3_t.ext E2)
  have f10 : Sta Z h2 "java/lang/String" "COMPACT_STRINGS" "Z" (.int cS) := (S4_java_lang_String_COMPACT_STRINGS_COMPACT_STRINGS.ext E2)
  have z12 : h0.size ≤ (h2).size := (Nat.le_trans (Nat.le_refl _) E2.1)
  obtain ⟨cq11, kq11, q11a, q11b, q11c⟩ := isOf hZ e2 f3
  obtain ⟨_, _, ⟨T11, L11, k11, n11⟩, -, X11, ⟨Lc11, hQ11, l11, y11, z11⟩, st11⟩ := X2.virtualBack hx (y := (⟨"java/lang/String", "indexOf", "(Ljava/lang/String;)I"⟩ : MethodName)) (z := (⟨"java/lang/String", "indexOf", "(Ljava/lang/String;)I"⟩ : MethodName)) hown (mvT hZ (own_w hw 68 rfl)) (mvT hZ (own_w hw 69 rfl)) (notFace_of_selects (args := #[]) (mvT hZ (own_w hw 71 rfl))) (mvT hZ (own_w hw 71 rfl)) (mvT hZ (own_w hw 70 rfl)) (by decide) (backOf (W := 2) (rmU5 l Z a0 hw [] a ka2 cS t kb2 kc kc2 g h2 n0 (Nat.le_trans Z0 z12) f3 f8 f4 f9 kE2 kC2 kV2 kW7 f10 H_cs Hn0 Hn1 Hn2 Hn3 Hn4 Hp0 Hp1 Hp2) hZ (own_w hw 72 rfl) (own_w hw 5 rfl) (by decide) (by decide)) q11a q11c (g := (mkF m 6 #[vr a, .unset, .unset] [(.ref ka2), (.ref a), (.int (47 : Int32)), (.ref a)])) rfl (by rw [hml]; rfl) (Steps.refl _) (argsL := [(.ref ka2)]) (rest := [(.int (47 : Int32)), (.ref a)]) (lenOf pd_18 rfl) rfl (by show 2 * 0 + _ ≤ _; exact Nat.le_of_eq rfl) (hb hby d14_6) (fun _ _ => ⟨rfl, e2, (by decide : 2 + 0 ≤ _), (by decide : 16 + 0 ≤ _)⟩)
  dsimp only [Pt.U, Pt.locs, Pt.cells, Pt.slots] at X11 l11 y11 z11 st11 hQ11
  replace l11 := l11.symm
  subst l11 y11 z11
  obtain ⟨rfl, rfl, e11⟩ := hQ11
  first | rw [List.append_nil] at X11 | skip
  refine Goes.tr st11 ?_
  have e11' : T11.heap = h2 := e11
  have ne13 : ka2 ≠ t := own_ne_arr kE2 (own_w hw 6 rfl) f9
  show Goes p e below _ (T11.setTop (mkF m 9 #[vr a, .unset, .unset] [(.int (5 : Int32)), (.int (47 : Int32)), (.ref a)]))
  refine gIC (z := 3) X11 hx hby d14_9 rfl ?_
  refine Goes.via (fun _ kk_ => XS.iadd X11.here hx rfl (hb hby d14_10) rfl kk_) ?_
  show Goes p e below _ (T11.setTop (mkF m 11 #[vr a, .unset, .unset] [(.int ((5 : Int32) + (3 : Int32))), (.int (47 : Int32)), (.ref a)]))
  rw [show ((5 : Int32) + (3 : Int32)) = (8 : Int32) from by decide]
  show Goes p e below _ (T11.setTop (mkF m 11 #[vr a, .unset, .unset] [(.int (8 : Int32)), (.int (47 : Int32)), (.ref a)]))
  obtain ⟨cq14, kq14, q14a, q14b, q14c⟩ := isOf hZ e11' f3
  obtain ⟨_, _, ⟨T14, L14, k14, n14⟩, -, X14, ⟨Lc14, hQ14, l14, y14, z14⟩, st14⟩ := X11.virtualBack hx (y := (⟨"java/lang/String", "indexOf", "(II)I"⟩ : MethodName)) (z := (⟨"java/lang/String", "indexOf", "(II)I"⟩ : MethodName)) hown (mvT hZ (own_w hw 84 rfl)) (mvT hZ (own_w hw 85 rfl)) (notFace_of_selects (args := #[]) (mvT hZ (own_w hw 87 rfl))) (mvT hZ (own_w hw 87 rfl)) (mvT hZ (own_w hw 86 rfl)) (by decide) (backOf (W := 0) (rm19 l Z a0 hw [] a (47 : Int32) (8 : Int32) (16 : Int32) cS t kc 16 g 8 h2 n0 (Nat.le_trans Z0 z12) f3 f8 f4 f9 f10 H_cs (by decide) (by decide) (by decide) (by first | assumption | rfl | decide | omega | (simp; done)) (by first | assumption | rfl | decide | omega | (simp; done))) hZ (own_w hw 88 rfl) (own_w hw 5 rfl) (by decide) (by decide)) q14a q14c (g := (mkF m 11 #[vr a, .unset, .unset] [(.int (8 : Int32)), (.int (47 : Int32)), (.ref a)])) rfl (by rw [hml]; rfl) (Steps.refl _) (argsL := [(.int (47 : Int32)), (.int (8 : Int32))]) (rest := []) (lenOf pd_6 rfl) rfl (by show 2 * 0 + _ ≤ _; exact Nat.le_of_eq rfl) (hb hby d14_11) (fun _ _ => ⟨rfl, e11', (by decide : 2 + 0 ≤ _), (by decide : 16 + 0 ≤ _)⟩)
  dsimp only [Pt.U, Pt.locs, Pt.cells, Pt.slots] at X14 l14 y14 z14 st14 hQ14
  replace l14 := l14.symm
  subst l14 y14 z14
  obtain ⟨rfl, rfl, e14⟩ := hQ14
  first | rw [List.append_nil] at X14 | skip
  refine Goes.tr st14 ?_
  have e14' : T14.heap = h2 := e14
  show Goes p e below _ (T14.setTop (mkF m 14 #[vr a, .unset, .unset] [(.int (own_find g (47 : Int32).toInt8.toInt32 (16 - 8) 8 (8 : Int32)))]))
  rw [HQ]
  show Goes p e below _ (T14.setTop (mkF m 14 #[vr a, .unset, .unset] [(.int (10 : Int32))]))
  refine Goes.via (fun _ kk_ => XS.istoreN X14.here hx rfl (hb hby d14_14) rfl (l' := #[vr a, vi (10 : Int32), .unset]) rfl kk_) ?_
  show Goes p e below _ (T14.setTop (mkF m 15 #[vr a, vi (10 : Int32), .unset] []))
  refine gALN X14 hx hby d14_15 rfl rfl ?_
  refine gBI (z := 63) X14 hx hby d14_16 rfl ?_
  refine gILN X14 hx hby d14_18 rfl ?_
  obtain ⟨cq15, kq15, q15a, q15b, q15c⟩ := isOf hZ e14' f3
  obtain ⟨_, _, ⟨T15, L15, k15, n15⟩, -, X15, ⟨Lc15, hQ15, l15, y15, z15⟩, st15⟩ := X14.virtualBack hx (y := (⟨"java/lang/String", "indexOf", "(II)I"⟩ : MethodName)) (z := (⟨"java/lang/String", "indexOf", "(II)I"⟩ : MethodName)) hown (mvT hZ (own_w hw 84 rfl)) (mvT hZ (own_w hw 85 rfl)) (notFace_of_selects (args := #[]) (mvT hZ (own_w hw 87 rfl))) (mvT hZ (own_w hw 87 rfl)) (mvT hZ (own_w hw 86 rfl)) (by decide) (backOf (W := 0) (rm19 l Z a0 hw [] a (63 : Int32) (10 : Int32) (16 : Int32) cS t kc 16 g 10 h2 n0 (Nat.le_trans Z0 z12) f3 f8 f4 f9 f10 H_cs (by decide) (by decide) (by decide) (by first | assumption | rfl | decide | omega | (simp; done)) (by first | assumption | rfl | decide | omega | (simp; done))) hZ (own_w hw 88 rfl) (own_w hw 5 rfl) (by decide) (by decide)) q15a q15c (g := (mkF m 19 #[vr a, vi (10 : Int32), .unset] [(.int (10 : Int32)), (.int (63 : Int32)), (.ref a)])) rfl (by rw [hml]; rfl) (Steps.refl _) (argsL := [(.int (63 : Int32)), (.int (10 : Int32))]) (rest := []) (lenOf pd_6 rfl) rfl (by show 2 * 0 + _ ≤ _; exact Nat.le_of_eq rfl) (hb hby d14_19) (fun _ _ => ⟨rfl, e14', (by decide : 2 + 0 ≤ _), (by decide : 16 + 0 ≤ _)⟩)
  dsimp only [Pt.U, Pt.locs, Pt.cells, Pt.slots] at X15 l15 y15 z15 st15 hQ15
  replace l15 := l15.symm
  subst l15 y15 z15
  obtain ⟨rfl, rfl, e15⟩ := hQ15
  first | rw [List.append_nil] at X15 | skip
  refine Goes.tr st15 ?_
  have e15' : T15.heap = h2 := e15
  show Goes p e below _ (T15.setTop (mkF m 22 #[vr a, vi (10 : Int32), .unset] [(.int (own_find g (63 : Int32).toInt8.toInt32 (16 - 10) 10 (10 : Int32)))]))
  refine Goes.via (fun _ kk_ => XS.istoreN X15.here hx rfl (hb hby d14_22) rfl (l' := #[vr a, vi (10 : Int32), vi (own_find g (63 : Int32).toInt8.toInt32 (16 - 10) 10 (10 : Int32))]) rfl kk_) ?_
  show Goes p e below _ (T15.setTop (mkF m 23 #[vr a, vi (10 : Int32), vi (own_find g (63 : Int32).toInt8.toInt32 (16 - 10) 10 (10 : Int32))] []))
  refine gILN X15 hx hby d14_23 rfl ?_
  by_cases hc24 : (own_find g (63 : Int32).toInt8.toInt32 (16 - 10) 10 (10 : Int32)) < (0 : Int32)
  · skip
    refine Goes.via (fun _ kk_ => XS.ifNo X15.here hx rfl (hb hby d14_24) rfl ((if0 _ _).trans (tlt hc24).2.1) kk_) ?_
    show Goes p e below _ (T15.setTop (mkF m 27 #[vr a, vi (10 : Int32), vi (own_find g (63 : Int32).toInt8.toInt32 (16 - 10) 10 (10 : Int32))] []))
    refine gALN X15 hx hby d14_27 rfl rfl ?_
    refine gILN X15 hx hby d14_28 rfl ?_
    have f16 : Sta Z h2 "jdk/internal/util/Preconditions" "SIOOBE_FORMATTER" "Ljava/util/function/BiFunction;" fo := (S6_jdk_internal_util_Preconditions_SIOOBE_FORMATTER_SIOOBE_FORMATTER.ext E2)
    obtain ⟨cq17, kq17, q17a, q17b, q17c⟩ := isOf hZ e15' f3
    obtain ⟨_, _, ⟨T17, L17, k17, n17⟩, -, X17, ⟨Lc17, hQ17, l17, y17, z17⟩, st17⟩ := X15.virtualBack hx (y := (⟨"java/lang/String", "substring", "(I)Ljava/lang/String;"⟩ : MethodName)) (z := (⟨"java/lang/String", "substring", "(I)Ljava/lang/String;"⟩ : MethodName)) hown (mvT hZ (own_w hw 110 rfl)) (mvT hZ (own_w hw 111 rfl)) (notFace_of_selects (args := #[]) (mvT hZ (own_w hw 113 rfl))) (mvT hZ (own_w hw 113 rfl)) (mvT hZ (own_w hw 112 rfl)) (by decide) (backOf (W := 0) (rm26 l Z a0 hw [] a (10 : Int32) cS fo t kc 16 g (16 : Int32) 10 M h2 n0 (Nat.le_trans Z0 z12) f3 f8 f4 f9 f10 H_cs f16 Hfo (by decide) (by decide) (by decide) HM0 HM16 (HR.elim (fun z => z.2) (fun z => absurd hc24 z.1))) hZ (own_w hw 114 rfl) (own_w hw 5 rfl) (by decide) (by decide)) q17a q17c (g := (mkF m 29 #[vr a, vi (10 : Int32), vi (own_find g (63 : Int32).toInt8.toInt32 (16 - 10) 10 (10 : Int32))] [(.int (10 : Int32)), (.ref a)])) rfl (by rw [hml]; rfl) (Steps.refl _) (argsL := [(.int (10 : Int32))]) (rest := []) (lenOf pd_19 rfl) rfl (by show 2 * 0 + _ ≤ _; exact Nat.le_of_eq rfl) (hb hby d14_29) (fun _ _ => ⟨rfl, e15', (by decide : 2 + 2 ≤ _), (by decide : 16 + 20 ≤ _)⟩)
    dsimp only [Pt.U, Pt.locs, Pt.cells, Pt.slots] at X17 l17 y17 z17 st17 hQ17
    replace l17 := l17.symm
    subst l17 y17 z17
    obtain ⟨r_17, nb17, kb17, rfl, N17q, K17, u17_0, u17_1, u17_2, u17_3, u17_4⟩ := hQ17
    have N17 := Fr.app N0 N17q
    refine Goes.tr st17 ?_
    have ne18 : a ≠ r_17 := Nat.ne_of_lt (Nat.lt_of_lt_of_le f3.lt u17_0)
    have ne19 : t ≠ r_17 := Nat.ne_of_lt (Nat.lt_of_lt_of_le f9.lt u17_0)
    have ne20 : ka2 ≠ r_17 := Nat.ne_of_lt (Nat.lt_of_lt_of_le kE2.lt u17_0)
    have ne21 : kb2 ≠ r_17 := Nat.ne_of_lt (Nat.lt_of_lt_of_le kA2.lt u17_0)
    have sz_r_17 : h0.size ≤ r_17 := Nat.le_trans z12 u17_0
    have gn_r_17 : n0 ≤ r_17 := Nat.le_trans Z0 sz_r_17
    -- u17_0 : h0.size ≤ r_17
    have ne22 : r_17 ≠ nb17 := own_ne_arr u17_1 (own_w hw 6 rfl) u17_4
    show Goes p e below _ (T17.setTop (mkF m 32 #[vr a, vi (10 : Int32), vi (own_find g (63 : Int32).toInt8.toInt32 (16 - 10) 10 (10 : Int32))] [(.ref r_17)]))
    refine Goes.via (fun _ kk_ => XS.goto X17.here hx rfl (pc0 := 32) (pc' := 41) rfl (hb hby d14_32) (by decide) (by decide) kk_) ?_
    show Goes p e below _ (T17.setTop (mkF m 41 #[vr a, vi (10 : Int32), vi (own_find g (63 : Int32).toInt8.toInt32 (16 - 10) 10 (10 : Int32))] [(.ref r_17)]))
    have K23 : Keep h0 T17.heap [] := (((Keep.refl h0 []).ext E2).trans K17 all0)
    have Ks24 : KS Z own_KL vm2 (T17.heap) := (Ks2.keep K17 all0)
    have hKe : KS Z own_KL T17.vm T17.heap := by rw [show T17.heap = T17.heap from rfl]; exact Ks24.at_ (s := s) X17.warmed
    have sk25 : _ ≤ (T17.heap).size := (Nat.le_trans sk2 K17.1)
    exact own_wfinR X17 SI2 sk25 (fun U_ hv hh_ => by show KS Z own_KL U_.vm U_.heap; rw [hv, hh_]; exact hKe) hx hlk hret rfl rfl rfl (hb hby d14_41) (by exact ⟨r_17, nb17, kb17, rfl, N17, K23, sz_r_17, u17_1, u17_2, u17_3, u17_4⟩) (by first | decide | omega | (dsimp only; omega)) (by first | decide | omega | (dsimp only; omega))
  · skip
    refine Goes.via (fun _ kk_ => XS.ifYes X15.here hx rfl (pc0 := 24) (pc' := 35) rfl (hb hby d14_24) rfl ((if0 _ _).trans (flt hc24).2.1) (by decide) (by decide) kk_) ?_
    show Goes p e below _ (T15.setTop (mkF m 35 #[vr a, vi (10 : Int32), vi (own_find g (63 : Int32).toInt8.toInt32 (16 - 10) 10 (10 : Int32))] []))
    refine gALN X15 hx hby d14_35 rfl rfl ?_
    refine gILN X15 hx hby d14_36 rfl ?_
    refine gILN X15 hx hby d14_37 rfl ?_
    have f26 : Sta Z h2 "jdk/internal/util/Preconditions" "SIOOBE_FORMATTER" "Ljava/util/function/BiFunction;" fo := (S6_jdk_internal_util_Preconditions_SIOOBE_FORMATTER_SIOOBE_FORMATTER.ext E2)
    obtain ⟨cq27, kq27, q27a, q27b, q27c⟩ := isOf hZ e15' f3
    obtain ⟨_, _, ⟨T27, L27, k27, n27⟩, -, X27, ⟨Lc27, hQ27, l27, y27, z27⟩, st27⟩ := X15.virtualBack hx (y := (⟨"java/lang/String", "substring", "(II)Ljava/lang/String;"⟩ : MethodName)) (z := (⟨"java/lang/String", "substring", "(II)Ljava/lang/String;"⟩ : MethodName)) hown (mvT hZ (own_w hw 149 rfl)) (mvT hZ (own_w hw 116 rfl)) (notFace_of_selects (args := #[]) (mvT hZ (own_w hw 118 rfl))) (mvT hZ (own_w hw 118 rfl)) (mvT hZ (own_w hw 117 rfl)) (by decide) (backOf (W := 0) (rm27 l Z a0 hw [] a (10 : Int32) (own_find g (63 : Int32).toInt8.toInt32 (16 - 10) 10 (10 : Int32)) cS fo t kc 16 g (16 : Int32) 10 M h2 n0 (Nat.le_trans Z0 z12) f3 f8 f4 f9 f10 H_cs f26 Hfo (by decide) (by decide) (HR.elim (fun z => absurd z.1 hc24) (fun z => z.2)) HqM (by decide) HM0 HM16) hZ (own_w hw 119 rfl) (own_w hw 5 rfl) (by decide) (by decide)) q27a q27c (g := (mkF m 38 #[vr a, vi (10 : Int32), vi (own_find g (63 : Int32).toInt8.toInt32 (16 - 10) 10 (10 : Int32))] [(.int (own_find g (63 : Int32).toInt8.toInt32 (16 - 10) 10 (10 : Int32))), (.int (10 : Int32)), (.ref a)])) rfl (by rw [hml]; rfl) (Steps.refl _) (argsL := [(.int (10 : Int32)), (.int (own_find g (63 : Int32).toInt8.toInt32 (16 - 10) 10 (10 : Int32)))]) (rest := []) (lenOf pd_14 rfl) rfl (by show 2 * 0 + _ ≤ _; exact Nat.le_of_eq rfl) (hb hby d14_38) (fun _ _ => ⟨rfl, e15', (by decide : 2 + 2 ≤ _), (by decide : 16 + 20 ≤ _)⟩)
    dsimp only [Pt.U, Pt.locs, Pt.cells, Pt.slots] at X27 l27 y27 z27 st27 hQ27
    replace l27 := l27.symm
    subst l27 y27 z27
    obtain ⟨r_27, nb27, kb27, rfl, N27q, K27, u27_0, u27_1, u27_2, u27_3, u27_4⟩ := hQ27
    have N27 := Fr.app N0 N27q
    refine Goes.tr st27 ?_
    have ne28 : a ≠ r_27 := Nat.ne_of_lt (Nat.lt_of_lt_of_le f3.lt u27_0)
    have ne29 : t ≠ r_27 := Nat.ne_of_lt (Nat.lt_of_lt_of_le f9.lt u27_0)
    have ne30 : ka2 ≠ r_27 := Nat.ne_of_lt (Nat.lt_of_lt_of_le kE2.lt u27_0)
    have ne31 : kb2 ≠ r_27 := Nat.ne_of_lt (Nat.lt_of_lt_of_le kA2.lt u27_0)
    have sz_r_27 : h0.size ≤ r_27 := Nat.le_trans z12 u27_0
    have gn_r_27 : n0 ≤ r_27 := Nat.le_trans Z0 sz_r_27
    -- u27_0 : h0.size ≤ r_27
    have ne32 : r_27 ≠ nb27 := own_ne_arr u27_1 (own_w hw 6 rfl) u27_4
    show Goes p e below _ (T27.setTop (mkF m 41 #[vr a, vi (10 : Int32), vi (own_find g (63 : Int32).toInt8.toInt32 (16 - 10) 10 (10 : Int32))] [(.ref r_27)]))
    have K33 : Keep h0 T27.heap [] := (((Keep.refl h0 []).ext E2).trans K27 all0)
    have Ks34 : KS Z own_KL vm2 (T27.heap) := (Ks2.keep K27 all0)
    have hKe : KS Z own_KL T27.vm T27.heap := by rw [show T27.heap = T27.heap from rfl]; exact Ks34.at_ (s := s) X27.warmed
    have sk35 : _ ≤ (T27.heap).size := (Nat.le_trans sk2 K27.1)
    exact own_wfinR X27 SI2 sk35 (fun U_ hv hh_ => by show KS Z own_KL U_.vm U_.heap; rw [hv, hh_]; exact hKe) hx hlk hret rfl rfl rfl (hb hby d14_41) (by exact ⟨r_27, nb27, kb27, rfl, N27, K33, sz_r_27, u27_1, u27_2, u27_3, u27_4⟩) (by first | decide | omega | (dsimp only; omega)) (by first | decide | omega | (dsimp only; omega))
theorem own_pm0 {g : Nat → Int32} {t0 t1 t2 t3 t4 t5 : Int32} (h0 : g 9 = (47 : Int32)) (e0 : g 10 = t0) (e1 : g 11 = t1) (e2 : g 12 = t2) (e3 : g 13 = t3) (e4 : g 14 = t4) (e5 : g 15 = t5) : ∃ M : Nat, ((if t0 = (63 : Int32) then (0 : Int32) else (if t1 = (63 : Int32) then (1 : Int32) else (if t2 = (63 : Int32) then (2 : Int32) else (if t3 = (63 : Int32) then (3 : Int32) else (if t4 = (63 : Int32) then (4 : Int32) else (if t5 = (63 : Int32) then (5 : Int32) else (6 : Int32)))))))).toInt + 1 = (M : Int) ∧ ((if t0 = (63 : Int32) then (0 : Int32) else (if t1 = (63 : Int32) then (1 : Int32) else (if t2 = (63 : Int32) then (2 : Int32) else (if t3 = (63 : Int32) then (3 : Int32) else (if t4 = (63 : Int32) then (4 : Int32) else (if t5 = (63 : Int32) then (5 : Int32) else (6 : Int32))))))) + (1 : Int32)).toInt = (M : Int) ∧ 0 < M ∧ M ≤ 16 ∧ 9 + M ≤ 16 ∧ ((own_find g (63 : Int32).toInt8.toInt32 (16 - 9) 9 (9 : Int32) < (0 : Int32) ∧ 9 + M = 16) ∨ (¬ own_find g (63 : Int32).toInt8.toInt32 (16 - 9) 9 (9 : Int32) < (0 : Int32) ∧ (own_find g (63 : Int32).toInt8.toInt32 (16 - 9) 9 (9 : Int32)).toInt = ((9 + M : Nat) : Int))) := by
  rw [show (63 : Int32).toInt8.toInt32 = (63 : Int32) by decide, show 16 - 9 = 7 by decide]
  have n0 : ¬ g 9 = (63 : Int32) := by rw [h0]; decide
  by_cases y0 : t0 = (63 : Int32)
  · have hf : own_find g (63 : Int32) 7 9 (9 : Int32) = (10 : Int32) := by rw [own_fs, if_neg n0, own_fs, if_pos (e0.trans y0)]; decide
    rw [hf, if_pos y0]
    exact ⟨1, by decide, by decide, by decide, by decide, by decide, Or.inr ⟨by decide, by decide⟩⟩
  have m0 : ¬ g 10 = (63 : Int32) := by rw [e0]; exact y0
  by_cases y1 : t1 = (63 : Int32)
  · have hf : own_find g (63 : Int32) 7 9 (9 : Int32) = (11 : Int32) := by rw [own_fs, if_neg n0, own_fs, if_neg m0, own_fs, if_pos (e1.trans y1)]; decide
    rw [hf, if_neg y0, if_pos y1]
    exact ⟨2, by decide, by decide, by decide, by decide, by decide, Or.inr ⟨by decide, by decide⟩⟩
  have m1 : ¬ g 11 = (63 : Int32) := by rw [e1]; exact y1
  by_cases y2 : t2 = (63 : Int32)
  · have hf : own_find g (63 : Int32) 7 9 (9 : Int32) = (12 : Int32) := by rw [own_fs, if_neg n0, own_fs, if_neg m0, own_fs, if_neg m1, own_fs, if_pos (e2.trans y2)]; decide
    rw [hf, if_neg y0, if_neg y1, if_pos y2]
    exact ⟨3, by decide, by decide, by decide, by decide, by decide, Or.inr ⟨by decide, by decide⟩⟩
  have m2 : ¬ g 12 = (63 : Int32) := by rw [e2]; exact y2
  by_cases y3 : t3 = (63 : Int32)
  · have hf : own_find g (63 : Int32) 7 9 (9 : Int32) = (13 : Int32) := by rw [own_fs, if_neg n0, own_fs, if_neg m0, own_fs, if_neg m1, own_fs, if_neg m2, own_fs, if_pos (e3.trans y3)]; decide
    rw [hf, if_neg y0, if_neg y1, if_neg y2, if_pos y3]
    exact ⟨4, by decide, by decide, by decide, by decide, by decide, Or.inr ⟨by decide, by decide⟩⟩
  have m3 : ¬ g 13 = (63 : Int32) := by rw [e3]; exact y3
  by_cases y4 : t4 = (63 : Int32)
  · have hf : own_find g (63 : Int32) 7 9 (9 : Int32) = (14 : Int32) := by rw [own_fs, if_neg n0, own_fs, if_neg m0, own_fs, if_neg m1, own_fs, if_neg m2, own_fs, if_neg m3, own_fs, if_pos (e4.trans y4)]; decide
    rw [hf, if_neg y0, if_neg y1, if_neg y2, if_neg y3, if_pos y4]
    exact ⟨5, by decide, by decide, by decide, by decide, by decide, Or.inr ⟨by decide, by decide⟩⟩
  have m4 : ¬ g 14 = (63 : Int32) := by rw [e4]; exact y4
  by_cases y5 : t5 = (63 : Int32)
  · have hf : own_find g (63 : Int32) 7 9 (9 : Int32) = (15 : Int32) := by rw [own_fs, if_neg n0, own_fs, if_neg m0, own_fs, if_neg m1, own_fs, if_neg m2, own_fs, if_neg m3, own_fs, if_neg m4, own_fs, if_pos (e5.trans y5)]; decide
    rw [hf, if_neg y0, if_neg y1, if_neg y2, if_neg y3, if_neg y4, if_pos y5]
    exact ⟨6, by decide, by decide, by decide, by decide, by decide, Or.inr ⟨by decide, by decide⟩⟩
  have m5 : ¬ g 15 = (63 : Int32) := by rw [e5]; exact y5
  have hf : own_find g (63 : Int32) 7 9 (9 : Int32) = -1 := by rw [own_fs, if_neg n0, own_fs, if_neg m0, own_fs, if_neg m1, own_fs, if_neg m2, own_fs, if_neg m3, own_fs, if_neg m4, own_fs, if_neg m5, own_f0]
  rw [hf, if_neg y0, if_neg y1, if_neg y2, if_neg y3, if_neg y4, if_neg y5]
  exact ⟨7, by decide, by decide, by decide, by decide, by decide, Or.inl ⟨by decide, by decide⟩⟩
theorem own_ps0 {g : Nat → Int32} (h1 : ¬ g 7 = (47 : Int32)) (h2 : ¬ g 8 = (47 : Int32)) (h3 : g 9 = (47 : Int32)) : own_find g (47 : Int32).toInt8.toInt32 (16 - 7) 7 (7 : Int32) = (9 : Int32) := by
  rw [show (47 : Int32).toInt8.toInt32 = (47 : Int32) by decide, show 16 - 7 = 9 by decide, own_fs, if_neg h1, own_fs, if_neg h2, own_fs, if_pos h3]
  decide
theorem own_pm1 {g : Nat → Int32} {t0 t1 t2 t3 t4 : Int32} (h0 : g 10 = (47 : Int32)) (e0 : g 11 = t0) (e1 : g 12 = t1) (e2 : g 13 = t2) (e3 : g 14 = t3) (e4 : g 15 = t4) : ∃ M : Nat, ((if t0 = (63 : Int32) then (0 : Int32) else (if t1 = (63 : Int32) then (1 : Int32) else (if t2 = (63 : Int32) then (2 : Int32) else (if t3 = (63 : Int32) then (3 : Int32) else (if t4 = (63 : Int32) then (4 : Int32) else (5 : Int32))))))).toInt + 1 = (M : Int) ∧ ((if t0 = (63 : Int32) then (0 : Int32) else (if t1 = (63 : Int32) then (1 : Int32) else (if t2 = (63 : Int32) then (2 : Int32) else (if t3 = (63 : Int32) then (3 : Int32) else (if t4 = (63 : Int32) then (4 : Int32) else (5 : Int32)))))) + (1 : Int32)).toInt = (M : Int) ∧ 0 < M ∧ M ≤ 16 ∧ 10 + M ≤ 16 ∧ ((own_find g (63 : Int32).toInt8.toInt32 (16 - 10) 10 (10 : Int32) < (0 : Int32) ∧ 10 + M = 16) ∨ (¬ own_find g (63 : Int32).toInt8.toInt32 (16 - 10) 10 (10 : Int32) < (0 : Int32) ∧ (own_find g (63 : Int32).toInt8.toInt32 (16 - 10) 10 (10 : Int32)).toInt = ((10 + M : Nat) : Int))) := by
  rw [show (63 : Int32).toInt8.toInt32 = (63 : Int32) by decide, show 16 - 10 = 6 by decide]
  have n0 : ¬ g 10 = (63 : Int32) := by rw [h0]; decide
  by_cases y0 : t0 = (63 : Int32)
  · have hf : own_find g (63 : Int32) 6 10 (10 : Int32) = (11 : Int32) := by rw [own_fs, if_neg n0, own_fs, if_pos (e0.trans y0)]; decide
    rw [hf, if_pos y0]
    exact ⟨1, by decide, by decide, by decide, by decide, by decide, Or.inr ⟨by decide, by decide⟩⟩
  have m0 : ¬ g 11 = (63 : Int32) := by rw [e0]; exact y0
  by_cases y1 : t1 = (63 : Int32)
  · have hf : own_find g (63 : Int32) 6 10 (10 : Int32) = (12 : Int32) := by rw [own_fs, if_neg n0, own_fs, if_neg m0, own_fs, if_pos (e1.trans y1)]; decide
    rw [hf, if_neg y0, if_pos y1]
    exact ⟨2, by decide, by decide, by decide, by decide, by decide, Or.inr ⟨by decide, by decide⟩⟩
  have m1 : ¬ g 12 = (63 : Int32) := by rw [e1]; exact y1
  by_cases y2 : t2 = (63 : Int32)
  · have hf : own_find g (63 : Int32) 6 10 (10 : Int32) = (13 : Int32) := by rw [own_fs, if_neg n0, own_fs, if_neg m0, own_fs, if_neg m1, own_fs, if_pos (e2.trans y2)]; decide
    rw [hf, if_neg y0, if_neg y1, if_pos y2]
    exact ⟨3, by decide, by decide, by decide, by decide, by decide, Or.inr ⟨by decide, by decide⟩⟩
  have m2 : ¬ g 13 = (63 : Int32) := by rw [e2]; exact y2
  by_cases y3 : t3 = (63 : Int32)
  · have hf : own_find g (63 : Int32) 6 10 (10 : Int32) = (14 : Int32) := by rw [own_fs, if_neg n0, own_fs, if_neg m0, own_fs, if_neg m1, own_fs, if_neg m2, own_fs, if_pos (e3.trans y3)]; decide
    rw [hf, if_neg y0, if_neg y1, if_neg y2, if_pos y3]
    exact ⟨4, by decide, by decide, by decide, by decide, by decide, Or.inr ⟨by decide, by decide⟩⟩
  have m3 : ¬ g 14 = (63 : Int32) := by rw [e3]; exact y3
  by_cases y4 : t4 = (63 : Int32)
  · have hf : own_find g (63 : Int32) 6 10 (10 : Int32) = (15 : Int32) := by rw [own_fs, if_neg n0, own_fs, if_neg m0, own_fs, if_neg m1, own_fs, if_neg m2, own_fs, if_neg m3, own_fs, if_pos (e4.trans y4)]; decide
    rw [hf, if_neg y0, if_neg y1, if_neg y2, if_neg y3, if_pos y4]
    exact ⟨5, by decide, by decide, by decide, by decide, by decide, Or.inr ⟨by decide, by decide⟩⟩
  have m4 : ¬ g 15 = (63 : Int32) := by rw [e4]; exact y4
  have hf : own_find g (63 : Int32) 6 10 (10 : Int32) = -1 := by rw [own_fs, if_neg n0, own_fs, if_neg m0, own_fs, if_neg m1, own_fs, if_neg m2, own_fs, if_neg m3, own_fs, if_neg m4, own_f0]
  rw [hf, if_neg y0, if_neg y1, if_neg y2, if_neg y3, if_neg y4]
  exact ⟨6, by decide, by decide, by decide, by decide, by decide, Or.inl ⟨by decide, by decide⟩⟩
theorem own_ps1 {g : Nat → Int32} (h1 : ¬ g 8 = (47 : Int32)) (h2 : ¬ g 9 = (47 : Int32)) (h3 : g 10 = (47 : Int32)) : own_find g (47 : Int32).toInt8.toInt32 (16 - 8) 8 (8 : Int32) = (10 : Int32) := by
  rw [show (47 : Int32).toInt8.toInt32 = (47 : Int32) by decide, show 16 - 8 = 8 by decide, own_fs, if_neg h1, own_fs, if_neg h2, own_fs, if_pos h3]
  decide
theorem ef_rm0 (m : MethodId) (x0 : Int32) (x1 : Int32) : entryFrame m #[(.int x0), (.int x1)] maxLocals = mkF m 0 #[.val (.int x0), .val (.int x1), .unset, .unset, .unset, .unset, .unset, .unset, .unset] [] := by first | (simp [entryFrame, mkF, argsToLocals, Value.category, maxLocals]; done) | rfl
def Qrm0 (Z : State) (x0 : Int32) (x1 : Int32) (cS : Int32) (fo : Value) (h0 : Heap) (n0 : Nat) (v_ : Option Value) (h_ : Heap) (L_ : List Loc) : Prop := v_ = some (.int (1 : Int32)) ∧ Fr n0 L_ ∧ Keep h0 h_ []
theorem pd_20 : parseMethodDescriptor "([C)V" = some ⟨[(.array .char)], none⟩ := by decide +kernel
theorem pd_21 : parseMethodDescriptor "(Ljava/lang/String;)Ljava/lang/String;" = some ⟨[(.object "java/lang/String")], some (.object "java/lang/String")⟩ := by decide +kernel
set_option maxRecDepth 65536 in
set_option maxHeartbeats 40000000 in
theorem rm0 (l : Launch) (Z : State) (a0 : Array Value) (hw : ∀ d ∈ tables_1, d.before a0 Z = true) (ws : List Jvm.Cond) (x0 : Int32) (x1 : Int32) (cS : Int32) (fo : Value) (h0 : Heap) (n0 : Nat) (Z0 : n0 ≤ h0.size) (OS : Sta Z h0 "java/lang/String" "COMPACT_STRINGS" "Z" (.int cS)) (H_cs : ¬ cS = (0 : Int32)) (OF : Sta Z h0 "jdk/internal/util/Preconditions" "SIOOBE_FORMATTER" "Ljava/util/function/BiFunction;" fo) (Hfo : fo.isRef = true) (HO : Old Z n0 h0) (HW : Jvm.Lit.compactW.before a0 Z = true) (HC0 : Jvm.Lit.constHeld Z "com/example/lincra/lincra/UrlNormalizerPathPinLaw" 7) (HC1 : Jvm.Lit.constHeld Z "com/example/lincra/lincra/UrlNormalizerPathPinLaw" 15) (HC2 : Jvm.Lit.constHeld Z "com/example/lincra/lincra/UrlNormalizer" 81) :
    MetFree l x (head1 (Jvm.Cond.code x code maxLocals ret :: ws) room_1) (fun as_ U_ => as_ = #[(.int x0), (.int x1)] ∧ Z.Warmed39 U_.vm ∧ U_.heap = h0 ∧ KS Z own_KL U_.vm U_.heap) (fun _ _ _ _ _ => True) (fun _ U_ o_ V_ => ∃ v_ L_, o_ = .returned v_ ∧ Qrm0 Z x0 x1 cS fo h0 n0 v_ V_.heap L_ ∧ KS Z own_KL V_.vm V_.heap ∧ ReturnedEndW U_ o_ V_ L_ room_1.cells room_1.slots) := by
  refine MetFree.of_bodySF (plainFor_of_name pn_com_example_lincra_lincra_UrlNormalizerPathPinLaw) hisR ?_
  intro p e s m args below meth c s₁ Bd hml0 hP hK
  obtain ⟨rfl, hZ, hh, hKs⟩ := hP
  have hx := Bd.exec
  have hby := Bd.bytes
  have hlk : meth.locks = false := BodyLoose.notSynchronized Bd
  have hret := Bd.returns
  have hml : c.maxLocals = 9 := hml0
  have hown : s.vm.findClass "com/example/lincra/lincra/UrlNormalizerPathPinLaw" = some m.cls := findClass_of_methodNamed Bd.named
  have hnm := (name_of_methodNamed Bd.named Bd.method).1
  have X0 : Stand p l e room_1 (s.setVm s.vm) m #[(.int x0), (.int x1)] below meth c s₁ [] 0 0 := Stand.of_body Bd
  have e0 : s₁.heap = h0 := by rw [← hh, Bd.state]; rfl
  have N0 := Fr.nil n0
  show Goes p e below (Fin_W s (Qrm0 Z x0 x1 cS fo h0 n0) (fun U_ => KS Z own_KL U_.vm U_.heap) room_1.cells room_1.slots) (s₁.setTop (entryFrame m #[(.int x0), (.int x1)] maxLocals))
  rw [ef_rm0 m x0 x1]
  have SI0 : s.Since s.vm 0 := (State.WarmedH.refl s).since 0
  have Ks0 : KS Z own_KL s.vm h0 := hh ▸ hKs
  refine gILN X0 hx hby at_0 rfl ?_
  refine gIC (z := 1) X0 hx hby at_1 rfl ?_
  refine Goes.via (fun _ kk_ => XS.iand X0.here hx rfl (hb hby at_2) rfl kk_) ?_
  show Goes p e below _ (s₁.setTop (mkF m 3 #[vi x0, vi x1, .unset, .unset, .unset, .unset, .unset, .unset, .unset] [(.int (x0 &&& (1 : Int32)))]))
  refine Goes.via (fun _ kk_ => XS.istoreN X0.here hx rfl (hb hby at_3) rfl (l' := #[vi x0, vi x1, vi (x0 &&& (1 : Int32)), .unset, .unset, .unset, .unset, .unset, .unset]) rfl kk_) ?_
  show Goes p e below _ (s₁.setTop (mkF m 4 #[vi x0, vi x1, vi (x0 &&& (1 : Int32)), .unset, .unset, .unset, .unset, .unset, .unset] []))
  rcases own_01 x0 with ho | ho
  · rw [ho]
    show Goes p e below _ (s₁.setTop (mkF m 4 #[vi x0, vi x1, vi (0 : Int32), .unset, .unset, .unset, .unset, .unset, .unset] []))
    refine gILN X0 hx hby at_4 rfl ?_
    refine gIC (z := 1) X0 hx hby at_5 rfl ?_
    refine Goes.via (fun _ kk_ => XS.iushr X0.here hx rfl (hb hby at_6) rfl kk_) ?_
    show Goes p e below _ (s₁.setTop (mkF m 7 #[vi x0, vi x1, vi (0 : Int32), .unset, .unset, .unset, .unset, .unset, .unset] [(.int ((x0.toUInt32 >>> ((1 : Int32) &&& 31).toUInt32).toInt32))]))
    obtain ⟨_, _, ⟨T1, L1, k1, n1⟩, -, ⟨X1, Si1⟩, ⟨Lc1, ⟨hQ1, tK1, hK1, hKv1, hKh1⟩, l1, y1, z1⟩, st1⟩ := own_callSW X0 hx (y := (⟨"com/example/lincra/lincra/UrlNormalizerPathPinLaw", "hostChar", "(I)C"⟩ : MethodName)) hown (mvT hZ (own_w hw 0 rfl)) (mvT hZ (own_w hw 1 rfl)) (mvT hZ (own_w hw 2 rfl)) (mvT hZ (own_w hw 3 rfl)) (by decide) (own_backOfW (W := 0) (K := (fun U_ => KS Z own_KL U_.vm U_.heap)) (KP := (fun U_ => KS Z own_KL U_.vm U_.heap)) (rm1 l Z a0 hw [] ((x0.toUInt32 >>> ((1 : Int32) &&& 31).toUInt32).toInt32) cS fo h0 n0 (Nat.le_trans Z0 (Nat.le_refl _)) OS H_cs OF Hfo HO HW HC0 HC1 HC2) hZ (own_w hw 3 rfl) (own_w hw 2 rfl) (by decide) (by decide) (fun V_ hV hVh => by show KS Z own_KL V_.vm V_.heap; rw [hVh]; exact Ks0.at_ (s := s) hV)) (g := (mkF m 7 #[vi x0, vi x1, vi (0 : Int32), .unset, .unset, .unset, .unset, .unset, .unset] [(.int ((x0.toUInt32 >>> ((1 : Int32) &&& 31).toUInt32).toInt32))])) rfl (by rw [hml]; rfl) (argsL := [(.int ((x0.toUInt32 >>> ((1 : Int32) &&& 31).toUInt32).toInt32))]) (rest := []) (lenOf pd_17 rfl) rfl (by show 2 * 0 + _ ≤ _; exact Nat.le_of_eq rfl) (hb hby at_7) (fun _ _ => ⟨rfl, e0, (by decide : 0 + 2 ≤ _), (by decide : 0 + 36 ≤ _)⟩)
    dsimp only [Pt.U, Pt.locs, Pt.cells, Pt.slots] at X1 l1 y1 z1 st1 hQ1 Si1 hKv1 hKh1
    replace l1 := l1.symm
    subst l1 y1 z1
    obtain ⟨rfl, N1q, K1⟩ := hQ1
    have N1 := Fr.app N0 N1q
    refine Goes.via st1 ?_
    obtain ⟨X1', SI1, hZ, hown⟩ := rebS SI0 (Nat.zero_le _) X1 Si1 K1.1 hZ hown
    have Ks1 : KS Z own_KL T1.vm T1.heap := by rw [← hKv1, ← hKh1]; exact hK1
    show Goes p e below _ (T1.setTop (mkF m 10 #[vi x0, vi x1, vi (0 : Int32), .unset, .unset, .unset, .unset, .unset, .unset] [(.int (own_hl ((x0.toUInt32 >>> ((1 : Int32) &&& 31).toUInt32).toInt32)))]))
    have c_y0 := own_hlP ((x0.toUInt32 >>> ((1 : Int32) &&& 31).toUInt32).toInt32)
    generalize (own_hl ((x0.toUInt32 >>> ((1 : Int32) &&& 31).toUInt32).toInt32)) = y0 at *
    show Goes p e below _ (T1.setTop (mkF m 10 #[vi x0, vi x1, vi (0 : Int32), .unset, .unset, .unset, .unset, .unset, .unset] [(.int y0)]))
    refine Goes.via (fun _ kk_ => XS.istoreN X1'.here hx rfl (hb hby at_10) rfl (l' := #[vi x0, vi x1, vi (0 : Int32), vi y0, .unset, .unset, .unset, .unset, .unset]) rfl kk_) ?_
    show Goes p e below _ (T1.setTop (mkF m 11 #[vi x0, vi x1, vi (0 : Int32), vi y0, .unset, .unset, .unset, .unset, .unset] []))
    refine gILN X1' hx hby at_11 rfl ?_
    refine gIC (z := 4) X1' hx hby at_12 rfl ?_
    refine Goes.via (fun _ kk_ => XS.iushr X1'.here hx rfl (hb hby at_13) rfl kk_) ?_
    show Goes p e below _ (T1.setTop (mkF m 14 #[vi x0, vi x1, vi (0 : Int32), vi y0, .unset, .unset, .unset, .unset, .unset] [(.int ((x0.toUInt32 >>> ((4 : Int32) &&& 31).toUInt32).toInt32))]))
    have K2 : Keep h0 T1.heap [] := ((Keep.refl h0 []).trans K1 all0)
    have f3 : Sta Z T1.heap "java/lang/String" "COMPACT_STRINGS" "Z" (.int cS) := own_sta_keep OS K2
    have f4 : Sta Z T1.heap "jdk/internal/util/Preconditions" "SIOOBE_FORMATTER" "Ljava/util/function/BiFunction;" fo := own_sta_keep OF K2
    have ol5 : Old Z n0 (T1.heap) := (HO.keep K1 all0)
    have z7 : h0.size ≤ (T1.heap).size := (Nat.le_trans (Nat.le_refl _) K1.1)
    obtain ⟨_, _, ⟨T6, L6, k6, n6⟩, -, ⟨X6, Si6⟩, ⟨Lc6, ⟨hQ6, tK6, hK6, hKv6, hKh6⟩, l6, y6, z6⟩, st6⟩ := own_callSW X1' hx (y := (⟨"com/example/lincra/lincra/UrlNormalizerPathPinLaw", "hostChar", "(I)C"⟩ : MethodName)) hown (mvT hZ (own_w hw 0 rfl)) (mvT hZ (own_w hw 1 rfl)) (mvT hZ (own_w hw 2 rfl)) (mvT hZ (own_w hw 3 rfl)) (by decide) (own_backOfW (W := 0) (K := (fun U_ => KS Z own_KL U_.vm U_.heap)) (KP := (fun U_ => KS Z own_KL U_.vm U_.heap)) (rm1 l Z a0 hw [] ((x0.toUInt32 >>> ((4 : Int32) &&& 31).toUInt32).toInt32) cS fo T1.heap n0 (Nat.le_trans Z0 z7) f3 H_cs f4 Hfo ol5 HW HC0 HC1 HC2) hZ (own_w hw 3 rfl) (own_w hw 2 rfl) (by decide) (by decide) (fun V_ hV hVh => by show KS Z own_KL V_.vm V_.heap; rw [hVh]; exact Ks1.at_ (s := s) hV)) (g := (mkF m 14 #[vi x0, vi x1, vi (0 : Int32), vi y0, .unset, .unset, .unset, .unset, .unset] [(.int ((x0.toUInt32 >>> ((4 : Int32) &&& 31).toUInt32).toInt32))])) rfl (by rw [hml]; rfl) (argsL := [(.int ((x0.toUInt32 >>> ((4 : Int32) &&& 31).toUInt32).toInt32))]) (rest := []) (lenOf pd_17 rfl) rfl (by show 2 * 0 + _ ≤ _; exact Nat.le_of_eq rfl) (hb hby at_14) (fun _ _ => ⟨rfl, rfl, (by decide : 2 + 2 ≤ _), (by decide : 36 + 36 ≤ _)⟩)
    dsimp only [Pt.U, Pt.locs, Pt.cells, Pt.slots] at X6 l6 y6 z6 st6 hQ6 Si6 hKv6 hKh6
    replace l6 := l6.symm
    subst l6 y6 z6
    obtain ⟨rfl, N6q, K6⟩ := hQ6
    have N6 := Fr.app N1 N6q
    refine Goes.via st6 ?_
    obtain ⟨X6', SI6, hZ, hown⟩ := rebS SI1 (Nat.le_refl _) X6 Si6 K6.1 hZ hown
    have Ks6 : KS Z own_KL T6.vm T6.heap := by rw [← hKv6, ← hKh6]; exact hK6
    show Goes p e below _ (T6.setTop (mkF m 17 #[vi x0, vi x1, vi (0 : Int32), vi y0, .unset, .unset, .unset, .unset, .unset] [(.int (own_hl ((x0.toUInt32 >>> ((4 : Int32) &&& 31).toUInt32).toInt32)))]))
    have c_y1 := own_hlP ((x0.toUInt32 >>> ((4 : Int32) &&& 31).toUInt32).toInt32)
    generalize (own_hl ((x0.toUInt32 >>> ((4 : Int32) &&& 31).toUInt32).toInt32)) = y1 at *
    show Goes p e below _ (T6.setTop (mkF m 17 #[vi x0, vi x1, vi (0 : Int32), vi y0, .unset, .unset, .unset, .unset, .unset] [(.int y1)]))
    refine Goes.via (fun _ kk_ => XS.istore X6'.here hx rfl (hb hby at_17) rfl (l' := #[vi x0, vi x1, vi (0 : Int32), vi y0, vi y1, .unset, .unset, .unset, .unset]) rfl kk_) ?_
    show Goes p e below _ (T6.setTop (mkF m 19 #[vi x0, vi x1, vi (0 : Int32), vi y0, vi y1, .unset, .unset, .unset, .unset] []))
    refine gBI (z := 6) X6' hx hby at_19 rfl ?_
    obtain ⟨T8, h8, k8, X8, e8, E8, A8, st8⟩ := own_newP X6' hx hZ (own_w hw 37 rfl) rfl (g := (mkF m 21 #[vi x0, vi x1, vi (0 : Int32), vi y0, vi y1, .unset, .unset, .unset, .unset] [(.int (6 : Int32))])) rfl (hb hby at_21) rfl (n := (6 : Int32)) (N := 6) (by decide) (by decide) (cap := 6) (by first | decide | omega | (dsimp only; omega)) (by first | decide | omega | (dsimp only; omega)) (by first | decide | omega | (dsimp only; omega)) (by first | decide | omega | (dsimp only; omega))
    obtain ⟨b8, g8⟩ : ∃ z, z = (T6.heap).size := ⟨_, rfl⟩
    rw [← g8] at A8 st8
    have z9 : h0.size ≤ (T6.heap).size := (Nat.le_trans z7 K6.1)
    have sz_b8 : h0.size ≤ b8 := Nat.le_trans z9 (Nat.le_of_eq g8.symm)
    have gn_b8 : n0 ≤ b8 := Nat.le_trans Z0 sz_b8
    refine Goes.via st8 ?_
    show Goes p e below _ (T8.setTop (mkF m 23 #[vi x0, vi x1, vi (0 : Int32), vi y0, vi y1, .unset, .unset, .unset, .unset] [(.ref b8)]))
    refine Goes.via (fun _ kk_ => XS.astore X8.here hx rfl (hb hby at_23) rfl rfl (l' := #[vi x0, vi x1, vi (0 : Int32), vi y0, vi y1, vr b8, .unset, .unset, .unset]) rfl kk_) ?_
    show Goes p e below _ (T8.setTop (mkF m 25 #[vi x0, vi x1, vi (0 : Int32), vi y0, vi y1, vr b8, .unset, .unset, .unset] []))
    refine gAL X8 hx hby at_25 rfl rfl ?_
    refine gIC (z := 0) X8 hx hby at_27 rfl ?_
    refine gILN X8 hx hby at_28 rfl ?_
    have K10 : Keep h0 h8 [] := ((K2.trans K6 all0).ext E8)
    have f11 : Sta Z h8 "java/lang/String" "COMPACT_STRINGS" "Z" (.int cS) := own_sta_keep OS K10
    have f12 : Sta Z h8 "jdk/internal/util/Preconditions" "SIOOBE_FORMATTER" "Ljava/util/function/BiFunction;" fo := own_sta_keep OF K10
    have ol13 : Old Z n0 (h8) := ((ol5.keep K6 all0).ext E8)
    have z15 : h0.size ≤ (h8).size := (Nat.le_trans z9 E8.1)
    have Ks16 : KS Z own_KL T6.vm (h8) := (Ks6.ext E8)
    have sk17 : _ ≤ (h8).size := (Nat.le_trans (Nat.le_refl _) E8.1)
    obtain ⟨_, _, ⟨T14, L14, k14, n14⟩, -, ⟨X14, Si14⟩, ⟨Lc14, ⟨hQ14, tK14, hK14, hKv14, hKh14⟩, l14, y14, z14⟩, st14⟩ := own_callSW X8 hx (y := (⟨"com/example/lincra/lincra/UrlNormalizerPathPinLaw", "tailChar", "(I)C"⟩ : MethodName)) hown (mvT hZ (own_w hw 38 rfl)) (mvT hZ (own_w hw 39 rfl)) (mvT hZ (own_w hw 2 rfl)) (mvT hZ (own_w hw 40 rfl)) (by decide) (own_backOfW (W := 2) (K := (fun U_ => KS Z own_KL U_.vm U_.heap)) (KP := (fun U_ => KS Z own_KL U_.vm U_.heap)) (rm7 l Z a0 hw [] x1 cS fo h8 n0 (Nat.le_trans Z0 z15) f11 H_cs f12 Hfo ol13 HW HC0 HC1 HC2) hZ (own_w hw 40 rfl) (own_w hw 2 rfl) (by decide) (by decide) (fun V_ hV hVh => by show KS Z own_KL V_.vm V_.heap; rw [hVh]; exact Ks16.at_ (s := s) hV)) (g := (mkF m 29 #[vi x0, vi x1, vi (0 : Int32), vi y0, vi y1, vr b8, .unset, .unset, .unset] [(.int x1), (.int (0 : Int32)), (.ref b8)])) rfl (by rw [hml]; rfl) (argsL := [(.int x1)]) (rest := [(.int (0 : Int32)), (.ref b8)]) (lenOf pd_17 rfl) rfl (by show 2 * 0 + _ ≤ _; exact Nat.le_of_eq rfl) (hb hby at_29) (fun _ _ => ⟨rfl, e8, (by decide : 5 + 2 ≤ _), (by decide : 78 + 36 ≤ _)⟩)
    dsimp only [Pt.U, Pt.locs, Pt.cells, Pt.slots] at X14 l14 y14 z14 st14 hQ14 Si14 hKv14 hKh14
    replace l14 := l14.symm
    subst l14 y14 z14
    obtain ⟨rfl, N14q, K14⟩ := hQ14
    have N14 := Fr.app N6 N14q
    refine Goes.via st14 ?_
    obtain ⟨X14', SI14, hZ, hown⟩ := rebS SI6 sk17 X14 Si14 K14.1 hZ hown
    have Ks14 : KS Z own_KL T14.vm T14.heap := by rw [← hKv14, ← hKh14]; exact hK14
    show Goes p e below _ (T14.setTop (mkF m 32 #[vi x0, vi x1, vi (0 : Int32), vi y0, vi y1, vr b8, .unset, .unset, .unset] [(.int (own_tl x1)), (.int (0 : Int32)), (.ref b8)]))
    have c_t0 := own_tlP x1
    generalize (own_tl x1) = t0 at *
    show Goes p e below _ (T14.setTop (mkF m 32 #[vi x0, vi x1, vi (0 : Int32), vi y0, vi y1, vr b8, .unset, .unset, .unset] [(.int t0), (.int (0 : Int32)), (.ref b8)]))
    have f18 : Arw Z T14.heap b8 k8 .char 6 (fun _ => (.int 0)) := (A8.keep K14 nin0)
    obtain ⟨T19, h19, X19, e19, W19, A19, st19⟩ := own_castore X14' hx hZ rfl f18 (j := (0 : Int32)) (i := 0) (by decide) (by decide) (by first | decide | omega | (dsimp only; omega)) (g := (mkF m 32 #[vi x0, vi x1, vi (0 : Int32), vi y0, vi y1, vr b8, .unset, .unset, .unset] [(.int t0), (.int (0 : Int32)), (.ref b8)])) rfl rfl (hb hby at_32)
    refine Goes.via st19 ?_
    have N19 := Fr.snoc X19 N14 gn_b8
    show Goes p e below _ (T19.setTop (mkF m 33 #[vi x0, vi x1, vi (0 : Int32), vi y0, vi y1, vr b8, .unset, .unset, .unset] []))
    refine gAL X19 hx hby at_33 rfl rfl ?_
    refine gIC (z := 1) X19 hx hby at_35 rfl ?_
    refine gILN X19 hx hby at_36 rfl ?_
    refine gIC (z := 3) X19 hx hby at_37 rfl ?_
    refine Goes.via (fun _ kk_ => XS.iushr X19.here hx rfl (hb hby at_38) rfl kk_) ?_
    show Goes p e below _ (T19.setTop (mkF m 39 #[vi x0, vi x1, vi (0 : Int32), vi y0, vi y1, vr b8, .unset, .unset, .unset] [(.int ((x1.toUInt32 >>> ((3 : Int32) &&& 31).toUInt32).toInt32)), (.int (1 : Int32)), (.ref b8)]))
    have K20 : Keep h0 h19 [] := ((K10.trans K14 all0).wr W19 (Or.inr sz_b8))
    have f21 : Sta Z h19 "java/lang/String" "COMPACT_STRINGS" "Z" (.int cS) := own_sta_keep OS K20
    have f22 : Sta Z h19 "jdk/internal/util/Preconditions" "SIOOBE_FORMATTER" "Ljava/util/function/BiFunction;" fo := own_sta_keep OF K20
    have ol23 : Old Z n0 (h19) := ((ol13.keep K14 all0).wr W19 gn_b8)
    have z25 : h0.size ≤ (h19).size := (Nat.le_trans (Nat.le_trans z15 K14.1) (Nat.le_of_eq W19.size.symm))
    have Ks26 : KS Z own_KL T14.vm (h19) := (Ks14.wr W19 (NoS.arr f18 (own_w hw 6 rfl) (by intro q; cases q)))
    have sk27 : _ ≤ (h19).size := (Nat.le_trans (Nat.le_refl _) (Nat.le_of_eq W19.size.symm))
    obtain ⟨_, _, ⟨T24, L24, k24, n24⟩, -, ⟨X24, Si24⟩, ⟨Lc24, ⟨hQ24, tK24, hK24, hKv24, hKh24⟩, l24, y24, z24⟩, st24⟩ := own_callSW X19 hx (y := (⟨"com/example/lincra/lincra/UrlNormalizerPathPinLaw", "tailChar", "(I)C"⟩ : MethodName)) hown (mvT hZ (own_w hw 38 rfl)) (mvT hZ (own_w hw 39 rfl)) (mvT hZ (own_w hw 2 rfl)) (mvT hZ (own_w hw 40 rfl)) (by decide) (own_backOfW (W := 2) (K := (fun U_ => KS Z own_KL U_.vm U_.heap)) (KP := (fun U_ => KS Z own_KL U_.vm U_.heap)) (rm7 l Z a0 hw [] ((x1.toUInt32 >>> ((3 : Int32) &&& 31).toUInt32).toInt32) cS fo h19 n0 (Nat.le_trans Z0 z25) f21 H_cs f22 Hfo ol23 HW HC0 HC1 HC2) hZ (own_w hw 40 rfl) (own_w hw 2 rfl) (by decide) (by decide) (fun V_ hV hVh => by show KS Z own_KL V_.vm V_.heap; rw [hVh]; exact Ks26.at_ (s := s) hV)) (g := (mkF m 39 #[vi x0, vi x1, vi (0 : Int32), vi y0, vi y1, vr b8, .unset, .unset, .unset] [(.int ((x1.toUInt32 >>> ((3 : Int32) &&& 31).toUInt32).toInt32)), (.int (1 : Int32)), (.ref b8)])) rfl (by rw [hml]; rfl) (argsL := [(.int ((x1.toUInt32 >>> ((3 : Int32) &&& 31).toUInt32).toInt32))]) (rest := [(.int (1 : Int32)), (.ref b8)]) (lenOf pd_17 rfl) rfl (by show 2 * 0 + _ ≤ _; exact Nat.le_of_eq rfl) (hb hby at_39) (fun _ _ => ⟨rfl, e19, (by decide : 7 + 2 ≤ _), (by decide : 114 + 36 ≤ _)⟩)
    dsimp only [Pt.U, Pt.locs, Pt.cells, Pt.slots] at X24 l24 y24 z24 st24 hQ24 Si24 hKv24 hKh24
    replace l24 := l24.symm
    subst l24 y24 z24
    obtain ⟨rfl, N24q, K24⟩ := hQ24
    have N24 := Fr.app N19 N24q
    refine Goes.via st24 ?_
    obtain ⟨X24', SI24, hZ, hown⟩ := rebS SI14 sk27 X24 Si24 K24.1 hZ hown
    have Ks24 : KS Z own_KL T24.vm T24.heap := by rw [← hKv24, ← hKh24]; exact hK24
    show Goes p e below _ (T24.setTop (mkF m 42 #[vi x0, vi x1, vi (0 : Int32), vi y0, vi y1, vr b8, .unset, .unset, .unset] [(.int (own_tl ((x1.toUInt32 >>> ((3 : Int32) &&& 31).toUInt32).toInt32))), (.int (1 : Int32)), (.ref b8)]))
    have c_t1 := own_tlP ((x1.toUInt32 >>> ((3 : Int32) &&& 31).toUInt32).toInt32)
    generalize (own_tl ((x1.toUInt32 >>> ((3 : Int32) &&& 31).toUInt32).toInt32)) = t1 at *
    show Goes p e below _ (T24.setTop (mkF m 42 #[vi x0, vi x1, vi (0 : Int32), vi y0, vi y1, vr b8, .unset, .unset, .unset] [(.int t1), (.int (1 : Int32)), (.ref b8)]))
    have f28 : Arw Z T24.heap b8 k8 .char 6 (own_upd (fun _ => (.int 0)) 0 (.int (nar .char t0))) := (A19.keep K24 nin0)
    obtain ⟨T29, h29, X29, e29, W29, A29, st29⟩ := own_castore X24' hx hZ rfl f28 (j := (1 : Int32)) (i := 1) (by decide) (by decide) (by first | decide | omega | (dsimp only; omega)) (g := (mkF m 42 #[vi x0, vi x1, vi (0 : Int32), vi y0, vi y1, vr b8, .unset, .unset, .unset] [(.int t1), (.int (1 : Int32)), (.ref b8)])) rfl rfl (hb hby at_42)
    refine Goes.via st29 ?_
    have N29 := Fr.snoc X29 N24 gn_b8
    show Goes p e below _ (T29.setTop (mkF m 43 #[vi x0, vi x1, vi (0 : Int32), vi y0, vi y1, vr b8, .unset, .unset, .unset] []))
    refine gAL X29 hx hby at_43 rfl rfl ?_
    refine gIC (z := 2) X29 hx hby at_45 rfl ?_
    refine gILN X29 hx hby at_46 rfl ?_
    refine gBI (z := 6) X29 hx hby at_47 rfl ?_
    refine Goes.via (fun _ kk_ => XS.iushr X29.here hx rfl (hb hby at_49) rfl kk_) ?_
    show Goes p e below _ (T29.setTop (mkF m 50 #[vi x0, vi x1, vi (0 : Int32), vi y0, vi y1, vr b8, .unset, .unset, .unset] [(.int ((x1.toUInt32 >>> ((6 : Int32) &&& 31).toUInt32).toInt32)), (.int (2 : Int32)), (.ref b8)]))
    have K30 : Keep h0 h29 [] := ((K20.trans K24 all0).wr W29 (Or.inr sz_b8))
    have f31 : Sta Z h29 "java/lang/String" "COMPACT_STRINGS" "Z" (.int cS) := own_sta_keep OS K30
    have f32 : Sta Z h29 "jdk/internal/util/Preconditions" "SIOOBE_FORMATTER" "Ljava/util/function/BiFunction;" fo := own_sta_keep OF K30
    have ol33 : Old Z n0 (h29) := ((ol23.keep K24 all0).wr W29 gn_b8)
    have z35 : h0.size ≤ (h29).size := (Nat.le_trans (Nat.le_trans z25 K24.1) (Nat.le_of_eq W29.size.symm))
    have Ks36 : KS Z own_KL T24.vm (h29) := (Ks24.wr W29 (NoS.arr f28 (own_w hw 6 rfl) (by intro q; cases q)))
    have sk37 : _ ≤ (h29).size := (Nat.le_trans (Nat.le_refl _) (Nat.le_of_eq W29.size.symm))
    obtain ⟨_, _, ⟨T34, L34, k34, n34⟩, -, ⟨X34, Si34⟩, ⟨Lc34, ⟨hQ34, tK34, hK34, hKv34, hKh34⟩, l34, y34, z34⟩, st34⟩ := own_callSW X29 hx (y := (⟨"com/example/lincra/lincra/UrlNormalizerPathPinLaw", "tailChar", "(I)C"⟩ : MethodName)) hown (mvT hZ (own_w hw 38 rfl)) (mvT hZ (own_w hw 39 rfl)) (mvT hZ (own_w hw 2 rfl)) (mvT hZ (own_w hw 40 rfl)) (by decide) (own_backOfW (W := 2) (K := (fun U_ => KS Z own_KL U_.vm U_.heap)) (KP := (fun U_ => KS Z own_KL U_.vm U_.heap)) (rm7 l Z a0 hw [] ((x1.toUInt32 >>> ((6 : Int32) &&& 31).toUInt32).toInt32) cS fo h29 n0 (Nat.le_trans Z0 z35) f31 H_cs f32 Hfo ol33 HW HC0 HC1 HC2) hZ (own_w hw 40 rfl) (own_w hw 2 rfl) (by decide) (by decide) (fun V_ hV hVh => by show KS Z own_KL V_.vm V_.heap; rw [hVh]; exact Ks36.at_ (s := s) hV)) (g := (mkF m 50 #[vi x0, vi x1, vi (0 : Int32), vi y0, vi y1, vr b8, .unset, .unset, .unset] [(.int ((x1.toUInt32 >>> ((6 : Int32) &&& 31).toUInt32).toInt32)), (.int (2 : Int32)), (.ref b8)])) rfl (by rw [hml]; rfl) (argsL := [(.int ((x1.toUInt32 >>> ((6 : Int32) &&& 31).toUInt32).toInt32))]) (rest := [(.int (2 : Int32)), (.ref b8)]) (lenOf pd_17 rfl) rfl (by show 2 * 0 + _ ≤ _; exact Nat.le_of_eq rfl) (hb hby at_50) (fun _ _ => ⟨rfl, e29, (by decide : 9 + 2 ≤ _), (by decide : 150 + 36 ≤ _)⟩)
    dsimp only [Pt.U, Pt.locs, Pt.cells, Pt.slots] at X34 l34 y34 z34 st34 hQ34 Si34 hKv34 hKh34
    replace l34 := l34.symm
    subst l34 y34 z34
    obtain ⟨rfl, N34q, K34⟩ := hQ34
    have N34 := Fr.app N29 N34q
    refine Goes.via st34 ?_
    obtain ⟨X34', SI34, hZ, hown⟩ := rebS SI24 sk37 X34 Si34 K34.1 hZ hown
    have Ks34 : KS Z own_KL T34.vm T34.heap := by rw [← hKv34, ← hKh34]; exact hK34
    show Goes p e below _ (T34.setTop (mkF m 53 #[vi x0, vi x1, vi (0 : Int32), vi y0, vi y1, vr b8, .unset, .unset, .unset] [(.int (own_tl ((x1.toUInt32 >>> ((6 : Int32) &&& 31).toUInt32).toInt32))), (.int (2 : Int32)), (.ref b8)]))
    have c_t2 := own_tlP ((x1.toUInt32 >>> ((6 : Int32) &&& 31).toUInt32).toInt32)
    generalize (own_tl ((x1.toUInt32 >>> ((6 : Int32) &&& 31).toUInt32).toInt32)) = t2 at *
    show Goes p e below _ (T34.setTop (mkF m 53 #[vi x0, vi x1, vi (0 : Int32), vi y0, vi y1, vr b8, .unset, .unset, .unset] [(.int t2), (.int (2 : Int32)), (.ref b8)]))
    have f38 : Arw Z T34.heap b8 k8 .char 6 (own_upd (own_upd (fun _ => (.int 0)) 0 (.int (nar .char t0))) 1 (.int (nar .char t1))) := (A29.keep K34 nin0)
    obtain ⟨T39, h39, X39, e39, W39, A39, st39⟩ := own_castore X34' hx hZ rfl f38 (j := (2 : Int32)) (i := 2) (by decide) (by decide) (by first | decide | omega | (dsimp only; omega)) (g := (mkF m 53 #[vi x0, vi x1, vi (0 : Int32), vi y0, vi y1, vr b8, .unset, .unset, .unset] [(.int t2), (.int (2 : Int32)), (.ref b8)])) rfl rfl (hb hby at_53)
    refine Goes.via st39 ?_
    have N39 := Fr.snoc X39 N34 gn_b8
    show Goes p e below _ (T39.setTop (mkF m 54 #[vi x0, vi x1, vi (0 : Int32), vi y0, vi y1, vr b8, .unset, .unset, .unset] []))
    refine gAL X39 hx hby at_54 rfl rfl ?_
    refine gIC (z := 3) X39 hx hby at_56 rfl ?_
    refine gILN X39 hx hby at_57 rfl ?_
    refine gBI (z := 9) X39 hx hby at_58 rfl ?_
    refine Goes.via (fun _ kk_ => XS.iushr X39.here hx rfl (hb hby at_60) rfl kk_) ?_
    show Goes p e below _ (T39.setTop (mkF m 61 #[vi x0, vi x1, vi (0 : Int32), vi y0, vi y1, vr b8, .unset, .unset, .unset] [(.int ((x1.toUInt32 >>> ((9 : Int32) &&& 31).toUInt32).toInt32)), (.int (3 : Int32)), (.ref b8)]))
    have K40 : Keep h0 h39 [] := ((K30.trans K34 all0).wr W39 (Or.inr sz_b8))
    have f41 : Sta Z h39 "java/lang/String" "COMPACT_STRINGS" "Z" (.int cS) := own_sta_keep OS K40
    have f42 : Sta Z h39 "jdk/internal/util/Preconditions" "SIOOBE_FORMATTER" "Ljava/util/function/BiFunction;" fo := own_sta_keep OF K40
    have ol43 : Old Z n0 (h39) := ((ol33.keep K34 all0).wr W39 gn_b8)
    have z45 : h0.size ≤ (h39).size := (Nat.le_trans (Nat.le_trans z35 K34.1) (Nat.le_of_eq W39.size.symm))
    have Ks46 : KS Z own_KL T34.vm (h39) := (Ks34.wr W39 (NoS.arr f38 (own_w hw 6 rfl) (by intro q; cases q)))
    have sk47 : _ ≤ (h39).size := (Nat.le_trans (Nat.le_refl _) (Nat.le_of_eq W39.size.symm))
    obtain ⟨_, _, ⟨T44, L44, k44, n44⟩, -, ⟨X44, Si44⟩, ⟨Lc44, ⟨hQ44, tK44, hK44, hKv44, hKh44⟩, l44, y44, z44⟩, st44⟩ := own_callSW X39 hx (y := (⟨"com/example/lincra/lincra/UrlNormalizerPathPinLaw", "tailChar", "(I)C"⟩ : MethodName)) hown (mvT hZ (own_w hw 38 rfl)) (mvT hZ (own_w hw 39 rfl)) (mvT hZ (own_w hw 2 rfl)) (mvT hZ (own_w hw 40 rfl)) (by decide) (own_backOfW (W := 2) (K := (fun U_ => KS Z own_KL U_.vm U_.heap)) (KP := (fun U_ => KS Z own_KL U_.vm U_.heap)) (rm7 l Z a0 hw [] ((x1.toUInt32 >>> ((9 : Int32) &&& 31).toUInt32).toInt32) cS fo h39 n0 (Nat.le_trans Z0 z45) f41 H_cs f42 Hfo ol43 HW HC0 HC1 HC2) hZ (own_w hw 40 rfl) (own_w hw 2 rfl) (by decide) (by decide) (fun V_ hV hVh => by show KS Z own_KL V_.vm V_.heap; rw [hVh]; exact Ks46.at_ (s := s) hV)) (g := (mkF m 61 #[vi x0, vi x1, vi (0 : Int32), vi y0, vi y1, vr b8, .unset, .unset, .unset] [(.int ((x1.toUInt32 >>> ((9 : Int32) &&& 31).toUInt32).toInt32)), (.int (3 : Int32)), (.ref b8)])) rfl (by rw [hml]; rfl) (argsL := [(.int ((x1.toUInt32 >>> ((9 : Int32) &&& 31).toUInt32).toInt32))]) (rest := [(.int (3 : Int32)), (.ref b8)]) (lenOf pd_17 rfl) rfl (by show 2 * 0 + _ ≤ _; exact Nat.le_of_eq rfl) (hb hby at_61) (fun _ _ => ⟨rfl, e39, (by decide : 11 + 2 ≤ _), (by decide : 186 + 36 ≤ _)⟩)
    dsimp only [Pt.U, Pt.locs, Pt.cells, Pt.slots] at X44 l44 y44 z44 st44 hQ44 Si44 hKv44 hKh44
    replace l44 := l44.symm
    subst l44 y44 z44
    obtain ⟨rfl, N44q, K44⟩ := hQ44
    have N44 := Fr.app N39 N44q
    refine Goes.via st44 ?_
    obtain ⟨X44', SI44, hZ, hown⟩ := rebS SI34 sk47 X44 Si44 K44.1 hZ hown
    have Ks44 : KS Z own_KL T44.vm T44.heap := by rw [← hKv44, ← hKh44]; exact hK44
    show Goes p e below _ (T44.setTop (mkF m 64 #[vi x0, vi x1, vi (0 : Int32), vi y0, vi y1, vr b8, .unset, .unset, .unset] [(.int (own_tl ((x1.toUInt32 >>> ((9 : Int32) &&& 31).toUInt32).toInt32))), (.int (3 : Int32)), (.ref b8)]))
    have c_t3 := own_tlP ((x1.toUInt32 >>> ((9 : Int32) &&& 31).toUInt32).toInt32)
    generalize (own_tl ((x1.toUInt32 >>> ((9 : Int32) &&& 31).toUInt32).toInt32)) = t3 at *
    show Goes p e below _ (T44.setTop (mkF m 64 #[vi x0, vi x1, vi (0 : Int32), vi y0, vi y1, vr b8, .unset, .unset, .unset] [(.int t3), (.int (3 : Int32)), (.ref b8)]))
    have f48 : Arw Z T44.heap b8 k8 .char 6 (own_upd (own_upd (own_upd (fun _ => (.int 0)) 0 (.int (nar .char t0))) 1 (.int (nar .char t1))) 2 (.int (nar .char t2))) := (A39.keep K44 nin0)
    obtain ⟨T49, h49, X49, e49, W49, A49, st49⟩ := own_castore X44' hx hZ rfl f48 (j := (3 : Int32)) (i := 3) (by decide) (by decide) (by first | decide | omega | (dsimp only; omega)) (g := (mkF m 64 #[vi x0, vi x1, vi (0 : Int32), vi y0, vi y1, vr b8, .unset, .unset, .unset] [(.int t3), (.int (3 : Int32)), (.ref b8)])) rfl rfl (hb hby at_64)
    refine Goes.via st49 ?_
    have N49 := Fr.snoc X49 N44 gn_b8
    show Goes p e below _ (T49.setTop (mkF m 65 #[vi x0, vi x1, vi (0 : Int32), vi y0, vi y1, vr b8, .unset, .unset, .unset] []))
    refine gAL X49 hx hby at_65 rfl rfl ?_
    refine gIC (z := 4) X49 hx hby at_67 rfl ?_
    refine gILN X49 hx hby at_68 rfl ?_
    refine gBI (z := 12) X49 hx hby at_69 rfl ?_
    refine Goes.via (fun _ kk_ => XS.iushr X49.here hx rfl (hb hby at_71) rfl kk_) ?_
    show Goes p e below _ (T49.setTop (mkF m 72 #[vi x0, vi x1, vi (0 : Int32), vi y0, vi y1, vr b8, .unset, .unset, .unset] [(.int ((x1.toUInt32 >>> ((12 : Int32) &&& 31).toUInt32).toInt32)), (.int (4 : Int32)), (.ref b8)]))
    have K50 : Keep h0 h49 [] := ((K40.trans K44 all0).wr W49 (Or.inr sz_b8))
    have f51 : Sta Z h49 "java/lang/String" "COMPACT_STRINGS" "Z" (.int cS) := own_sta_keep OS K50
    have f52 : Sta Z h49 "jdk/internal/util/Preconditions" "SIOOBE_FORMATTER" "Ljava/util/function/BiFunction;" fo := own_sta_keep OF K50
    have ol53 : Old Z n0 (h49) := ((ol43.keep K44 all0).wr W49 gn_b8)
    have z55 : h0.size ≤ (h49).size := (Nat.le_trans (Nat.le_trans z45 K44.1) (Nat.le_of_eq W49.size.symm))
    have Ks56 : KS Z own_KL T44.vm (h49) := (Ks44.wr W49 (NoS.arr f48 (own_w hw 6 rfl) (by intro q; cases q)))
    have sk57 : _ ≤ (h49).size := (Nat.le_trans (Nat.le_refl _) (Nat.le_of_eq W49.size.symm))
    obtain ⟨_, _, ⟨T54, L54, k54, n54⟩, -, ⟨X54, Si54⟩, ⟨Lc54, ⟨hQ54, tK54, hK54, hKv54, hKh54⟩, l54, y54, z54⟩, st54⟩ := own_callSW X49 hx (y := (⟨"com/example/lincra/lincra/UrlNormalizerPathPinLaw", "tailChar", "(I)C"⟩ : MethodName)) hown (mvT hZ (own_w hw 38 rfl)) (mvT hZ (own_w hw 39 rfl)) (mvT hZ (own_w hw 2 rfl)) (mvT hZ (own_w hw 40 rfl)) (by decide) (own_backOfW (W := 2) (K := (fun U_ => KS Z own_KL U_.vm U_.heap)) (KP := (fun U_ => KS Z own_KL U_.vm U_.heap)) (rm7 l Z a0 hw [] ((x1.toUInt32 >>> ((12 : Int32) &&& 31).toUInt32).toInt32) cS fo h49 n0 (Nat.le_trans Z0 z55) f51 H_cs f52 Hfo ol53 HW HC0 HC1 HC2) hZ (own_w hw 40 rfl) (own_w hw 2 rfl) (by decide) (by decide) (fun V_ hV hVh => by show KS Z own_KL V_.vm V_.heap; rw [hVh]; exact Ks56.at_ (s := s) hV)) (g := (mkF m 72 #[vi x0, vi x1, vi (0 : Int32), vi y0, vi y1, vr b8, .unset, .unset, .unset] [(.int ((x1.toUInt32 >>> ((12 : Int32) &&& 31).toUInt32).toInt32)), (.int (4 : Int32)), (.ref b8)])) rfl (by rw [hml]; rfl) (argsL := [(.int ((x1.toUInt32 >>> ((12 : Int32) &&& 31).toUInt32).toInt32))]) (rest := [(.int (4 : Int32)), (.ref b8)]) (lenOf pd_17 rfl) rfl (by show 2 * 0 + _ ≤ _; exact Nat.le_of_eq rfl) (hb hby at_72) (fun _ _ => ⟨rfl, e49, (by decide : 13 + 2 ≤ _), (by decide : 222 + 36 ≤ _)⟩)
    dsimp only [Pt.U, Pt.locs, Pt.cells, Pt.slots] at X54 l54 y54 z54 st54 hQ54 Si54 hKv54 hKh54
    replace l54 := l54.symm
    subst l54 y54 z54
    obtain ⟨rfl, N54q, K54⟩ := hQ54
    have N54 := Fr.app N49 N54q
    refine Goes.via st54 ?_
    obtain ⟨X54', SI54, hZ, hown⟩ := rebS SI44 sk57 X54 Si54 K54.1 hZ hown
    have Ks54 : KS Z own_KL T54.vm T54.heap := by rw [← hKv54, ← hKh54]; exact hK54
    show Goes p e below _ (T54.setTop (mkF m 75 #[vi x0, vi x1, vi (0 : Int32), vi y0, vi y1, vr b8, .unset, .unset, .unset] [(.int (own_tl ((x1.toUInt32 >>> ((12 : Int32) &&& 31).toUInt32).toInt32))), (.int (4 : Int32)), (.ref b8)]))
    have c_t4 := own_tlP ((x1.toUInt32 >>> ((12 : Int32) &&& 31).toUInt32).toInt32)
    generalize (own_tl ((x1.toUInt32 >>> ((12 : Int32) &&& 31).toUInt32).toInt32)) = t4 at *
    show Goes p e below _ (T54.setTop (mkF m 75 #[vi x0, vi x1, vi (0 : Int32), vi y0, vi y1, vr b8, .unset, .unset, .unset] [(.int t4), (.int (4 : Int32)), (.ref b8)]))
    have f58 : Arw Z T54.heap b8 k8 .char 6 (own_upd (own_upd (own_upd (own_upd (fun _ => (.int 0)) 0 (.int (nar .char t0))) 1 (.int (nar .char t1))) 2 (.int (nar .char t2))) 3 (.int (nar .char t3))) := (A49.keep K54 nin0)
    obtain ⟨T59, h59, X59, e59, W59, A59, st59⟩ := own_castore X54' hx hZ rfl f58 (j := (4 : Int32)) (i := 4) (by decide) (by decide) (by first | decide | omega | (dsimp only; omega)) (g := (mkF m 75 #[vi x0, vi x1, vi (0 : Int32), vi y0, vi y1, vr b8, .unset, .unset, .unset] [(.int t4), (.int (4 : Int32)), (.ref b8)])) rfl rfl (hb hby at_75)
    refine Goes.via st59 ?_
    have N59 := Fr.snoc X59 N54 gn_b8
    show Goes p e below _ (T59.setTop (mkF m 76 #[vi x0, vi x1, vi (0 : Int32), vi y0, vi y1, vr b8, .unset, .unset, .unset] []))
    refine gAL X59 hx hby at_76 rfl rfl ?_
    refine gIC (z := 5) X59 hx hby at_78 rfl ?_
    refine gILN X59 hx hby at_79 rfl ?_
    refine gBI (z := 15) X59 hx hby at_80 rfl ?_
    refine Goes.via (fun _ kk_ => XS.iushr X59.here hx rfl (hb hby at_82) rfl kk_) ?_
    show Goes p e below _ (T59.setTop (mkF m 83 #[vi x0, vi x1, vi (0 : Int32), vi y0, vi y1, vr b8, .unset, .unset, .unset] [(.int ((x1.toUInt32 >>> ((15 : Int32) &&& 31).toUInt32).toInt32)), (.int (5 : Int32)), (.ref b8)]))
    have K60 : Keep h0 h59 [] := ((K50.trans K54 all0).wr W59 (Or.inr sz_b8))
    have f61 : Sta Z h59 "java/lang/String" "COMPACT_STRINGS" "Z" (.int cS) := own_sta_keep OS K60
    have f62 : Sta Z h59 "jdk/internal/util/Preconditions" "SIOOBE_FORMATTER" "Ljava/util/function/BiFunction;" fo := own_sta_keep OF K60
    have ol63 : Old Z n0 (h59) := ((ol53.keep K54 all0).wr W59 gn_b8)
    have z65 : h0.size ≤ (h59).size := (Nat.le_trans (Nat.le_trans z55 K54.1) (Nat.le_of_eq W59.size.symm))
    have Ks66 : KS Z own_KL T54.vm (h59) := (Ks54.wr W59 (NoS.arr f58 (own_w hw 6 rfl) (by intro q; cases q)))
    have sk67 : _ ≤ (h59).size := (Nat.le_trans (Nat.le_refl _) (Nat.le_of_eq W59.size.symm))
    obtain ⟨_, _, ⟨T64, L64, k64, n64⟩, -, ⟨X64, Si64⟩, ⟨Lc64, ⟨hQ64, tK64, hK64, hKv64, hKh64⟩, l64, y64, z64⟩, st64⟩ := own_callSW X59 hx (y := (⟨"com/example/lincra/lincra/UrlNormalizerPathPinLaw", "tailChar", "(I)C"⟩ : MethodName)) hown (mvT hZ (own_w hw 38 rfl)) (mvT hZ (own_w hw 39 rfl)) (mvT hZ (own_w hw 2 rfl)) (mvT hZ (own_w hw 40 rfl)) (by decide) (own_backOfW (W := 2) (K := (fun U_ => KS Z own_KL U_.vm U_.heap)) (KP := (fun U_ => KS Z own_KL U_.vm U_.heap)) (rm7 l Z a0 hw [] ((x1.toUInt32 >>> ((15 : Int32) &&& 31).toUInt32).toInt32) cS fo h59 n0 (Nat.le_trans Z0 z65) f61 H_cs f62 Hfo ol63 HW HC0 HC1 HC2) hZ (own_w hw 40 rfl) (own_w hw 2 rfl) (by decide) (by decide) (fun V_ hV hVh => by show KS Z own_KL V_.vm V_.heap; rw [hVh]; exact Ks66.at_ (s := s) hV)) (g := (mkF m 83 #[vi x0, vi x1, vi (0 : Int32), vi y0, vi y1, vr b8, .unset, .unset, .unset] [(.int ((x1.toUInt32 >>> ((15 : Int32) &&& 31).toUInt32).toInt32)), (.int (5 : Int32)), (.ref b8)])) rfl (by rw [hml]; rfl) (argsL := [(.int ((x1.toUInt32 >>> ((15 : Int32) &&& 31).toUInt32).toInt32))]) (rest := [(.int (5 : Int32)), (.ref b8)]) (lenOf pd_17 rfl) rfl (by show 2 * 0 + _ ≤ _; exact Nat.le_of_eq rfl) (hb hby at_83) (fun _ _ => ⟨rfl, e59, (by decide : 15 + 2 ≤ _), (by decide : 258 + 36 ≤ _)⟩)
    dsimp only [Pt.U, Pt.locs, Pt.cells, Pt.slots] at X64 l64 y64 z64 st64 hQ64 Si64 hKv64 hKh64
    replace l64 := l64.symm
    subst l64 y64 z64
    obtain ⟨rfl, N64q, K64⟩ := hQ64
    have N64 := Fr.app N59 N64q
    refine Goes.via st64 ?_
    obtain ⟨X64', SI64, hZ, hown⟩ := rebS SI54 sk67 X64 Si64 K64.1 hZ hown
    have Ks64 : KS Z own_KL T64.vm T64.heap := by rw [← hKv64, ← hKh64]; exact hK64
    show Goes p e below _ (T64.setTop (mkF m 86 #[vi x0, vi x1, vi (0 : Int32), vi y0, vi y1, vr b8, .unset, .unset, .unset] [(.int (own_tl ((x1.toUInt32 >>> ((15 : Int32) &&& 31).toUInt32).toInt32))), (.int (5 : Int32)), (.ref b8)]))
    have c_t5 := own_tlP ((x1.toUInt32 >>> ((15 : Int32) &&& 31).toUInt32).toInt32)
    generalize (own_tl ((x1.toUInt32 >>> ((15 : Int32) &&& 31).toUInt32).toInt32)) = t5 at *
    show Goes p e below _ (T64.setTop (mkF m 86 #[vi x0, vi x1, vi (0 : Int32), vi y0, vi y1, vr b8, .unset, .unset, .unset] [(.int t5), (.int (5 : Int32)), (.ref b8)]))
    have f68 : Arw Z T64.heap b8 k8 .char 6 (own_upd (own_upd (own_upd (own_upd (own_upd (fun _ => (.int 0)) 0 (.int (nar .char t0))) 1 (.int (nar .char t1))) 2 (.int (nar .char t2))) 3 (.int (nar .char t3))) 4 (.int (nar .char t4))) := (A59.keep K64 nin0)
    obtain ⟨T69, h69, X69, e69, W69, A69, st69⟩ := own_castore X64' hx hZ rfl f68 (j := (5 : Int32)) (i := 5) (by decide) (by decide) (by first | decide | omega | (dsimp only; omega)) (g := (mkF m 86 #[vi x0, vi x1, vi (0 : Int32), vi y0, vi y1, vr b8, .unset, .unset, .unset] [(.int t5), (.int (5 : Int32)), (.ref b8)])) rfl rfl (hb hby at_86)
    refine Goes.via st69 ?_
    have N69 := Fr.snoc X69 N64 gn_b8
    show Goes p e below _ (T69.setTop (mkF m 87 #[vi x0, vi x1, vi (0 : Int32), vi y0, vi y1, vr b8, .unset, .unset, .unset] []))
    refine gBI (z := 16) X69 hx hby at_87 rfl ?_
    obtain ⟨T70, h70, k70, X70, e70, E70, A70, st70⟩ := own_newP X69 hx hZ (own_w hw 37 rfl) e69 (g := (mkF m 89 #[vi x0, vi x1, vi (0 : Int32), vi y0, vi y1, vr b8, .unset, .unset, .unset] [(.int (16 : Int32))])) rfl (hb hby at_89) rfl (n := (16 : Int32)) (N := 16) (by decide) (by decide) (cap := 16) (by first | decide | omega | (dsimp only; omega)) (by first | decide | omega | (dsimp only; omega)) (by first | decide | omega | (dsimp only; omega)) (by first | decide | omega | (dsimp only; omega))
    obtain ⟨b70, g70⟩ : ∃ z, z = (h69).size := ⟨_, rfl⟩
    rw [← g70] at A70 st70
    have lne71 : b8 < b70 := Nat.lt_of_lt_of_le A69.lt (Nat.le_of_eq g70.symm)
    have ne71 : b8 ≠ b70 := Nat.ne_of_lt lne71
    have z72 : h0.size ≤ (h69).size := (Nat.le_trans (Nat.le_trans z65 K64.1) (Nat.le_of_eq W69.size.symm))
    have sz_b70 : h0.size ≤ b70 := Nat.le_trans z72 (Nat.le_of_eq g70.symm)
    have gn_b70 : n0 ≤ b70 := Nat.le_trans Z0 sz_b70
    refine Goes.via st70 ?_
    show Goes p e below _ (T70.setTop (mkF m 91 #[vi x0, vi x1, vi (0 : Int32), vi y0, vi y1, vr b8, .unset, .unset, .unset] [(.ref b70)]))
    refine Goes.via (fun _ kk_ => XS.astore X70.here hx rfl (hb hby at_91) rfl rfl (l' := #[vi x0, vi x1, vi (0 : Int32), vi y0, vi y1, vr b8, vr b70, .unset, .unset]) rfl kk_) ?_
    show Goes p e below _ (T70.setTop (mkF m 93 #[vi x0, vi x1, vi (0 : Int32), vi y0, vi y1, vr b8, vr b70, .unset, .unset] []))
    refine gAL X70 hx hby at_93 rfl rfl ?_
    refine gIC (z := 0) X70 hx hby at_95 rfl ?_
    refine gBI (z := 104) X70 hx hby at_96 rfl ?_
    obtain ⟨T73, h73, X73, e73, W73, A73, st73⟩ := own_castore X70 hx hZ e70 A70 (j := (0 : Int32)) (i := 0) (by decide) (by decide) (by first | decide | omega | (dsimp only; omega)) (g := (mkF m 98 #[vi x0, vi x1, vi (0 : Int32), vi y0, vi y1, vr b8, vr b70, .unset, .unset] [(.int (104 : Int32)), (.int (0 : Int32)), (.ref b70)])) rfl rfl (hb hby at_98)
    refine Goes.via st73 ?_
    have N73 := Fr.snoc X73 N69 gn_b70
    show Goes p e below _ (T73.setTop (mkF m 99 #[vi x0, vi x1, vi (0 : Int32), vi y0, vi y1, vr b8, vr b70, .unset, .unset] []))
    refine gAL X73 hx hby at_99 rfl rfl ?_
    refine gIC (z := 1) X73 hx hby at_101 rfl ?_
    refine gBI (z := 116) X73 hx hby at_102 rfl ?_
    obtain ⟨T74, h74, X74, e74, W74, A74, st74⟩ := own_castore X73 hx hZ e73 A73 (j := (1 : Int32)) (i := 1) (by decide) (by decide) (by first | decide | omega | (dsimp only; omega)) (g := (mkF m 104 #[vi x0, vi x1, vi (0 : Int32), vi y0, vi y1, vr b8, vr b70, .unset, .unset] [(.int (116 : Int32)), (.int (1 : Int32)), (.ref b70)])) rfl rfl (hb hby at_104)
    refine Goes.via st74 ?_
    have N74 := Fr.snoc X74 N73 gn_b70
    show Goes p e below _ (T74.setTop (mkF m 105 #[vi x0, vi x1, vi (0 : Int32), vi y0, vi y1, vr b8, vr b70, .unset, .unset] []))
    refine gAL X74 hx hby at_105 rfl rfl ?_
    refine gIC (z := 2) X74 hx hby at_107 rfl ?_
    refine gBI (z := 116) X74 hx hby at_108 rfl ?_
    obtain ⟨T75, h75, X75, e75, W75, A75, st75⟩ := own_castore X74 hx hZ e74 A74 (j := (2 : Int32)) (i := 2) (by decide) (by decide) (by first | decide | omega | (dsimp only; omega)) (g := (mkF m 110 #[vi x0, vi x1, vi (0 : Int32), vi y0, vi y1, vr b8, vr b70, .unset, .unset] [(.int (116 : Int32)), (.int (2 : Int32)), (.ref b70)])) rfl rfl (hb hby at_110)
    refine Goes.via st75 ?_
    have N75 := Fr.snoc X75 N74 gn_b70
    show Goes p e below _ (T75.setTop (mkF m 111 #[vi x0, vi x1, vi (0 : Int32), vi y0, vi y1, vr b8, vr b70, .unset, .unset] []))
    refine gAL X75 hx hby at_111 rfl rfl ?_
    refine gIC (z := 3) X75 hx hby at_113 rfl ?_
    refine gBI (z := 112) X75 hx hby at_114 rfl ?_
    obtain ⟨T76, h76, X76, e76, W76, A76, st76⟩ := own_castore X75 hx hZ e75 A75 (j := (3 : Int32)) (i := 3) (by decide) (by decide) (by first | decide | omega | (dsimp only; omega)) (g := (mkF m 116 #[vi x0, vi x1, vi (0 : Int32), vi y0, vi y1, vr b8, vr b70, .unset, .unset] [(.int (112 : Int32)), (.int (3 : Int32)), (.ref b70)])) rfl rfl (hb hby at_116)
    refine Goes.via st76 ?_
    have N76 := Fr.snoc X76 N75 gn_b70
    show Goes p e below _ (T76.setTop (mkF m 117 #[vi x0, vi x1, vi (0 : Int32), vi y0, vi y1, vr b8, vr b70, .unset, .unset] []))
    refine gILN X76 hx hby at_117 rfl ?_
    refine gIC (z := 1) X76 hx hby at_118 rfl ?_
    have hc119_77 : ¬ ((0 : Int32) = (1 : Int32)) := (by decide)
    refine Goes.via (fun _ kk_ => XS.icmpYes X76.here hx rfl (pc0 := 119) (pc' := 128) rfl (hb hby at_119) rfl (feq hc119_77).2 (by decide) (by decide) kk_) ?_
    show Goes p e below _ (T76.setTop (mkF m 128 #[vi x0, vi x1, vi (0 : Int32), vi y0, vi y1, vr b8, vr b70, .unset, .unset] []))
    refine gAL X76 hx hby at_128 rfl rfl ?_
    refine gIC (z := 4) X76 hx hby at_130 rfl ?_
    refine gILN X76 hx hby at_131 rfl ?_
    refine Goes.via (fun _ kk_ => XS.iadd X76.here hx rfl (hb hby at_132) rfl kk_) ?_
    show Goes p e below _ (T76.setTop (mkF m 133 #[vi x0, vi x1, vi (0 : Int32), vi y0, vi y1, vr b8, vr b70, .unset, .unset] [(.int ((4 : Int32) + (0 : Int32))), (.ref b70)]))
    rw [show ((4 : Int32) + (0 : Int32)) = (4 : Int32) from by decide]
    show Goes p e below _ (T76.setTop (mkF m 133 #[vi x0, vi x1, vi (0 : Int32), vi y0, vi y1, vr b8, vr b70, .unset, .unset] [(.int (4 : Int32)), (.ref b70)]))
    refine gBI (z := 58) X76 hx hby at_133 rfl ?_
    obtain ⟨T78, h78, X78, e78, W78, A78, st78⟩ := own_castore X76 hx hZ e76 A76 (j := (4 : Int32)) (i := 4) (by decide) (by decide) (by first | decide | omega | (dsimp only; omega)) (g := (mkF m 135 #[vi x0, vi x1, vi (0 : Int32), vi y0, vi y1, vr b8, vr b70, .unset, .unset] [(.int (58 : Int32)), (.int (4 : Int32)), (.ref b70)])) rfl rfl (hb hby at_135)
    refine Goes.via st78 ?_
    have N78 := Fr.snoc X78 N76 gn_b70
    show Goes p e below _ (T78.setTop (mkF m 136 #[vi x0, vi x1, vi (0 : Int32), vi y0, vi y1, vr b8, vr b70, .unset, .unset] []))
    refine gAL X78 hx hby at_136 rfl rfl ?_
    refine gIC (z := 5) X78 hx hby at_138 rfl ?_
    refine gILN X78 hx hby at_139 rfl ?_
    refine Goes.via (fun _ kk_ => XS.iadd X78.here hx rfl (hb hby at_140) rfl kk_) ?_
    show Goes p e below _ (T78.setTop (mkF m 141 #[vi x0, vi x1, vi (0 : Int32), vi y0, vi y1, vr b8, vr b70, .unset, .unset] [(.int ((5 : Int32) + (0 : Int32))), (.ref b70)]))
    rw [show ((5 : Int32) + (0 : Int32)) = (5 : Int32) from by decide]
    show Goes p e below _ (T78.setTop (mkF m 141 #[vi x0, vi x1, vi (0 : Int32), vi y0, vi y1, vr b8, vr b70, .unset, .unset] [(.int (5 : Int32)), (.ref b70)]))
    refine gBI (z := 47) X78 hx hby at_141 rfl ?_
    obtain ⟨T79, h79, X79, e79, W79, A79, st79⟩ := own_castore X78 hx hZ e78 A78 (j := (5 : Int32)) (i := 5) (by decide) (by decide) (by first | decide | omega | (dsimp only; omega)) (g := (mkF m 143 #[vi x0, vi x1, vi (0 : Int32), vi y0, vi y1, vr b8, vr b70, .unset, .unset] [(.int (47 : Int32)), (.int (5 : Int32)), (.ref b70)])) rfl rfl (hb hby at_143)
    refine Goes.via st79 ?_
    have N79 := Fr.snoc X79 N78 gn_b70
    show Goes p e below _ (T79.setTop (mkF m 144 #[vi x0, vi x1, vi (0 : Int32), vi y0, vi y1, vr b8, vr b70, .unset, .unset] []))
    refine gAL X79 hx hby at_144 rfl rfl ?_
    refine gBI (z := 6) X79 hx hby at_146 rfl ?_
    refine gILN X79 hx hby at_148 rfl ?_
    refine Goes.via (fun _ kk_ => XS.iadd X79.here hx rfl (hb hby at_149) rfl kk_) ?_
    show Goes p e below _ (T79.setTop (mkF m 150 #[vi x0, vi x1, vi (0 : Int32), vi y0, vi y1, vr b8, vr b70, .unset, .unset] [(.int ((6 : Int32) + (0 : Int32))), (.ref b70)]))
    rw [show ((6 : Int32) + (0 : Int32)) = (6 : Int32) from by decide]
    show Goes p e below _ (T79.setTop (mkF m 150 #[vi x0, vi x1, vi (0 : Int32), vi y0, vi y1, vr b8, vr b70, .unset, .unset] [(.int (6 : Int32)), (.ref b70)]))
    refine gBI (z := 47) X79 hx hby at_150 rfl ?_
    obtain ⟨T80, h80, X80, e80, W80, A80, st80⟩ := own_castore X79 hx hZ e79 A79 (j := (6 : Int32)) (i := 6) (by decide) (by decide) (by first | decide | omega | (dsimp only; omega)) (g := (mkF m 152 #[vi x0, vi x1, vi (0 : Int32), vi y0, vi y1, vr b8, vr b70, .unset, .unset] [(.int (47 : Int32)), (.int (6 : Int32)), (.ref b70)])) rfl rfl (hb hby at_152)
    refine Goes.via st80 ?_
    have N80 := Fr.snoc X80 N79 gn_b70
    show Goes p e below _ (T80.setTop (mkF m 153 #[vi x0, vi x1, vi (0 : Int32), vi y0, vi y1, vr b8, vr b70, .unset, .unset] []))
    refine gAL X80 hx hby at_153 rfl rfl ?_
    refine gBI (z := 7) X80 hx hby at_155 rfl ?_
    refine gILN X80 hx hby at_157 rfl ?_
    refine Goes.via (fun _ kk_ => XS.iadd X80.here hx rfl (hb hby at_158) rfl kk_) ?_
    show Goes p e below _ (T80.setTop (mkF m 159 #[vi x0, vi x1, vi (0 : Int32), vi y0, vi y1, vr b8, vr b70, .unset, .unset] [(.int ((7 : Int32) + (0 : Int32))), (.ref b70)]))
    rw [show ((7 : Int32) + (0 : Int32)) = (7 : Int32) from by decide]
    show Goes p e below _ (T80.setTop (mkF m 159 #[vi x0, vi x1, vi (0 : Int32), vi y0, vi y1, vr b8, vr b70, .unset, .unset] [(.int (7 : Int32)), (.ref b70)]))
    refine gILN X80 hx hby at_159 rfl ?_
    obtain ⟨T81, h81, X81, e81, W81, A81, st81⟩ := own_castore X80 hx hZ e80 A80 (j := (7 : Int32)) (i := 7) (by decide) (by decide) (by first | decide | omega | (dsimp only; omega)) (g := (mkF m 160 #[vi x0, vi x1, vi (0 : Int32), vi y0, vi y1, vr b8, vr b70, .unset, .unset] [(.int y0), (.int (7 : Int32)), (.ref b70)])) rfl rfl (hb hby at_160)
    refine Goes.via st81 ?_
    have N81 := Fr.snoc X81 N80 gn_b70
    show Goes p e below _ (T81.setTop (mkF m 161 #[vi x0, vi x1, vi (0 : Int32), vi y0, vi y1, vr b8, vr b70, .unset, .unset] []))
    refine gAL X81 hx hby at_161 rfl rfl ?_
    refine gBI (z := 8) X81 hx hby at_163 rfl ?_
    refine gILN X81 hx hby at_165 rfl ?_
    refine Goes.via (fun _ kk_ => XS.iadd X81.here hx rfl (hb hby at_166) rfl kk_) ?_
    show Goes p e below _ (T81.setTop (mkF m 167 #[vi x0, vi x1, vi (0 : Int32), vi y0, vi y1, vr b8, vr b70, .unset, .unset] [(.int ((8 : Int32) + (0 : Int32))), (.ref b70)]))
    rw [show ((8 : Int32) + (0 : Int32)) = (8 : Int32) from by decide]
    show Goes p e below _ (T81.setTop (mkF m 167 #[vi x0, vi x1, vi (0 : Int32), vi y0, vi y1, vr b8, vr b70, .unset, .unset] [(.int (8 : Int32)), (.ref b70)]))
    refine gIL X81 hx hby at_167 rfl ?_
    obtain ⟨T82, h82, X82, e82, W82, A82, st82⟩ := own_castore X81 hx hZ e81 A81 (j := (8 : Int32)) (i := 8) (by decide) (by decide) (by first | decide | omega | (dsimp only; omega)) (g := (mkF m 169 #[vi x0, vi x1, vi (0 : Int32), vi y0, vi y1, vr b8, vr b70, .unset, .unset] [(.int y1), (.int (8 : Int32)), (.ref b70)])) rfl rfl (hb hby at_169)
    refine Goes.via st82 ?_
    have N82 := Fr.snoc X82 N81 gn_b70
    show Goes p e below _ (T82.setTop (mkF m 170 #[vi x0, vi x1, vi (0 : Int32), vi y0, vi y1, vr b8, vr b70, .unset, .unset] []))
    refine gAL X82 hx hby at_170 rfl rfl ?_
    refine gBI (z := 9) X82 hx hby at_172 rfl ?_
    refine gILN X82 hx hby at_174 rfl ?_
    refine Goes.via (fun _ kk_ => XS.iadd X82.here hx rfl (hb hby at_175) rfl kk_) ?_
    show Goes p e below _ (T82.setTop (mkF m 176 #[vi x0, vi x1, vi (0 : Int32), vi y0, vi y1, vr b8, vr b70, .unset, .unset] [(.int ((9 : Int32) + (0 : Int32))), (.ref b70)]))
    rw [show ((9 : Int32) + (0 : Int32)) = (9 : Int32) from by decide]
    show Goes p e below _ (T82.setTop (mkF m 176 #[vi x0, vi x1, vi (0 : Int32), vi y0, vi y1, vr b8, vr b70, .unset, .unset] [(.int (9 : Int32)), (.ref b70)]))
    refine gBI (z := 47) X82 hx hby at_176 rfl ?_
    obtain ⟨T83, h83, X83, e83, W83, A83, st83⟩ := own_castore X82 hx hZ e82 A82 (j := (9 : Int32)) (i := 9) (by decide) (by decide) (by first | decide | omega | (dsimp only; omega)) (g := (mkF m 178 #[vi x0, vi x1, vi (0 : Int32), vi y0, vi y1, vr b8, vr b70, .unset, .unset] [(.int (47 : Int32)), (.int (9 : Int32)), (.ref b70)])) rfl rfl (hb hby at_178)
    refine Goes.via st83 ?_
    have N83 := Fr.snoc X83 N82 gn_b70
    show Goes p e below _ (T83.setTop (mkF m 179 #[vi x0, vi x1, vi (0 : Int32), vi y0, vi y1, vr b8, vr b70, .unset, .unset] []))
    refine gAL X83 hx hby at_179 rfl rfl ?_
    refine gBI (z := 10) X83 hx hby at_181 rfl ?_
    refine gILN X83 hx hby at_183 rfl ?_
    refine Goes.via (fun _ kk_ => XS.iadd X83.here hx rfl (hb hby at_184) rfl kk_) ?_
    show Goes p e below _ (T83.setTop (mkF m 185 #[vi x0, vi x1, vi (0 : Int32), vi y0, vi y1, vr b8, vr b70, .unset, .unset] [(.int ((10 : Int32) + (0 : Int32))), (.ref b70)]))
    rw [show ((10 : Int32) + (0 : Int32)) = (10 : Int32) from by decide]
    show Goes p e below _ (T83.setTop (mkF m 185 #[vi x0, vi x1, vi (0 : Int32), vi y0, vi y1, vr b8, vr b70, .unset, .unset] [(.int (10 : Int32)), (.ref b70)]))
    refine gAL X83 hx hby at_185 rfl rfl ?_
    refine gIC (z := 0) X83 hx hby at_187 rfl ?_
    have f84 : Arw Z h83 b8 k8 .char 6 (own_upd (own_upd (own_upd (own_upd (own_upd (own_upd (fun _ => (.int 0)) 0 (.int (nar .char t0))) 1 (.int (nar .char t1))) 2 (.int (nar .char t2))) 3 (.int (nar .char t3))) 4 (.int (nar .char t4))) 5 (.int (nar .char t5))) := (((((((((((A69.ext E70).other W73 ne71).other W74 ne71).other W75 ne71).other W76 ne71).other W78 ne71).other W79 ne71).other W80 ne71).other W81 ne71).other W82 ne71).other W83 ne71)
    refine Goes.via (own_caload X83 hx hZ e83 f84 (j := (0 : Int32)) (i := 0) (by decide) (by decide) (by decide) (v := t0) (Eq.trans rfl (congrArg Value.int c_t0.1)) (g := (mkF m 188 #[vi x0, vi x1, vi (0 : Int32), vi y0, vi y1, vr b8, vr b70, .unset, .unset] [(.int (0 : Int32)), (.ref b8), (.int (10 : Int32)), (.ref b70)])) rfl rfl (hb hby at_188)) ?_
    show Goes p e below _ (T83.setTop (mkF m 189 #[vi x0, vi x1, vi (0 : Int32), vi y0, vi y1, vr b8, vr b70, .unset, .unset] [(.int t0), (.int (10 : Int32)), (.ref b70)]))
    obtain ⟨T85, h85, X85, e85, W85, A85, st85⟩ := own_castore X83 hx hZ e83 A83 (j := (10 : Int32)) (i := 10) (by decide) (by decide) (by first | decide | omega | (dsimp only; omega)) (g := (mkF m 189 #[vi x0, vi x1, vi (0 : Int32), vi y0, vi y1, vr b8, vr b70, .unset, .unset] [(.int t0), (.int (10 : Int32)), (.ref b70)])) rfl rfl (hb hby at_189)
    refine Goes.via st85 ?_
    have N85 := Fr.snoc X85 N83 gn_b70
    show Goes p e below _ (T85.setTop (mkF m 190 #[vi x0, vi x1, vi (0 : Int32), vi y0, vi y1, vr b8, vr b70, .unset, .unset] []))
    refine gAL X85 hx hby at_190 rfl rfl ?_
    refine gBI (z := 11) X85 hx hby at_192 rfl ?_
    refine gILN X85 hx hby at_194 rfl ?_
    refine Goes.via (fun _ kk_ => XS.iadd X85.here hx rfl (hb hby at_195) rfl kk_) ?_
    show Goes p e below _ (T85.setTop (mkF m 196 #[vi x0, vi x1, vi (0 : Int32), vi y0, vi y1, vr b8, vr b70, .unset, .unset] [(.int ((11 : Int32) + (0 : Int32))), (.ref b70)]))
    rw [show ((11 : Int32) + (0 : Int32)) = (11 : Int32) from by decide]
    show Goes p e below _ (T85.setTop (mkF m 196 #[vi x0, vi x1, vi (0 : Int32), vi y0, vi y1, vr b8, vr b70, .unset, .unset] [(.int (11 : Int32)), (.ref b70)]))
    refine gAL X85 hx hby at_196 rfl rfl ?_
    refine gIC (z := 1) X85 hx hby at_198 rfl ?_
    have f86 : Arw Z h85 b8 k8 .char 6 (own_upd (own_upd (own_upd (own_upd (own_upd (own_upd (fun _ => (.int 0)) 0 (.int (nar .char t0))) 1 (.int (nar .char t1))) 2 (.int (nar .char t2))) 3 (.int (nar .char t3))) 4 (.int (nar .char t4))) 5 (.int (nar .char t5))) := (f84.other W85 ne71)
    refine Goes.via (own_caload X85 hx hZ e85 f86 (j := (1 : Int32)) (i := 1) (by decide) (by decide) (by decide) (v := t1) (Eq.trans rfl (congrArg Value.int c_t1.1)) (g := (mkF m 199 #[vi x0, vi x1, vi (0 : Int32), vi y0, vi y1, vr b8, vr b70, .unset, .unset] [(.int (1 : Int32)), (.ref b8), (.int (11 : Int32)), (.ref b70)])) rfl rfl (hb hby at_199)) ?_
    show Goes p e below _ (T85.setTop (mkF m 200 #[vi x0, vi x1, vi (0 : Int32), vi y0, vi y1, vr b8, vr b70, .unset, .unset] [(.int t1), (.int (11 : Int32)), (.ref b70)]))
    obtain ⟨T87, h87, X87, e87, W87, A87, st87⟩ := own_castore X85 hx hZ e85 A85 (j := (11 : Int32)) (i := 11) (by decide) (by decide) (by first | decide | omega | (dsimp only; omega)) (g := (mkF m 200 #[vi x0, vi x1, vi (0 : Int32), vi y0, vi y1, vr b8, vr b70, .unset, .unset] [(.int t1), (.int (11 : Int32)), (.ref b70)])) rfl rfl (hb hby at_200)
    refine Goes.via st87 ?_
    have N87 := Fr.snoc X87 N85 gn_b70
    show Goes p e below _ (T87.setTop (mkF m 201 #[vi x0, vi x1, vi (0 : Int32), vi y0, vi y1, vr b8, vr b70, .unset, .unset] []))
    refine gAL X87 hx hby at_201 rfl rfl ?_
    refine gBI (z := 12) X87 hx hby at_203 rfl ?_
    refine gILN X87 hx hby at_205 rfl ?_
    refine Goes.via (fun _ kk_ => XS.iadd X87.here hx rfl (hb hby at_206) rfl kk_) ?_
    show Goes p e below _ (T87.setTop (mkF m 207 #[vi x0, vi x1, vi (0 : Int32), vi y0, vi y1, vr b8, vr b70, .unset, .unset] [(.int ((12 : Int32) + (0 : Int32))), (.ref b70)]))
    rw [show ((12 : Int32) + (0 : Int32)) = (12 : Int32) from by decide]
    show Goes p e below _ (T87.setTop (mkF m 207 #[vi x0, vi x1, vi (0 : Int32), vi y0, vi y1, vr b8, vr b70, .unset, .unset] [(.int (12 : Int32)), (.ref b70)]))
    refine gAL X87 hx hby at_207 rfl rfl ?_
    refine gIC (z := 2) X87 hx hby at_209 rfl ?_
    have f88 : Arw Z h87 b8 k8 .char 6 (own_upd (own_upd (own_upd (own_upd (own_upd (own_upd (fun _ => (.int 0)) 0 (.int (nar .char t0))) 1 (.int (nar .char t1))) 2 (.int (nar .char t2))) 3 (.int (nar .char t3))) 4 (.int (nar .char t4))) 5 (.int (nar .char t5))) := (f86.other W87 ne71)
    refine Goes.via (own_caload X87 hx hZ e87 f88 (j := (2 : Int32)) (i := 2) (by decide) (by decide) (by decide) (v := t2) (Eq.trans rfl (congrArg Value.int c_t2.1)) (g := (mkF m 210 #[vi x0, vi x1, vi (0 : Int32), vi y0, vi y1, vr b8, vr b70, .unset, .unset] [(.int (2 : Int32)), (.ref b8), (.int (12 : Int32)), (.ref b70)])) rfl rfl (hb hby at_210)) ?_
    show Goes p e below _ (T87.setTop (mkF m 211 #[vi x0, vi x1, vi (0 : Int32), vi y0, vi y1, vr b8, vr b70, .unset, .unset] [(.int t2), (.int (12 : Int32)), (.ref b70)]))
    obtain ⟨T89, h89, X89, e89, W89, A89, st89⟩ := own_castore X87 hx hZ e87 A87 (j := (12 : Int32)) (i := 12) (by decide) (by decide) (by first | decide | omega | (dsimp only; omega)) (g := (mkF m 211 #[vi x0, vi x1, vi (0 : Int32), vi y0, vi y1, vr b8, vr b70, .unset, .unset] [(.int t2), (.int (12 : Int32)), (.ref b70)])) rfl rfl (hb hby at_211)
    refine Goes.via st89 ?_
    have N89 := Fr.snoc X89 N87 gn_b70
    show Goes p e below _ (T89.setTop (mkF m 212 #[vi x0, vi x1, vi (0 : Int32), vi y0, vi y1, vr b8, vr b70, .unset, .unset] []))
    refine gAL X89 hx hby at_212 rfl rfl ?_
    refine gBI (z := 13) X89 hx hby at_214 rfl ?_
    refine gILN X89 hx hby at_216 rfl ?_
    refine Goes.via (fun _ kk_ => XS.iadd X89.here hx rfl (hb hby at_217) rfl kk_) ?_
    show Goes p e below _ (T89.setTop (mkF m 218 #[vi x0, vi x1, vi (0 : Int32), vi y0, vi y1, vr b8, vr b70, .unset, .unset] [(.int ((13 : Int32) + (0 : Int32))), (.ref b70)]))
    rw [show ((13 : Int32) + (0 : Int32)) = (13 : Int32) from by decide]
    show Goes p e below _ (T89.setTop (mkF m 218 #[vi x0, vi x1, vi (0 : Int32), vi y0, vi y1, vr b8, vr b70, .unset, .unset] [(.int (13 : Int32)), (.ref b70)]))
    refine gAL X89 hx hby at_218 rfl rfl ?_
    refine gIC (z := 3) X89 hx hby at_220 rfl ?_
    have f90 : Arw Z h89 b8 k8 .char 6 (own_upd (own_upd (own_upd (own_upd (own_upd (own_upd (fun _ => (.int 0)) 0 (.int (nar .char t0))) 1 (.int (nar .char t1))) 2 (.int (nar .char t2))) 3 (.int (nar .char t3))) 4 (.int (nar .char t4))) 5 (.int (nar .char t5))) := (f88.other W89 ne71)
    refine Goes.via (own_caload X89 hx hZ e89 f90 (j := (3 : Int32)) (i := 3) (by decide) (by decide) (by decide) (v := t3) (Eq.trans rfl (congrArg Value.int c_t3.1)) (g := (mkF m 221 #[vi x0, vi x1, vi (0 : Int32), vi y0, vi y1, vr b8, vr b70, .unset, .unset] [(.int (3 : Int32)), (.ref b8), (.int (13 : Int32)), (.ref b70)])) rfl rfl (hb hby at_221)) ?_
    show Goes p e below _ (T89.setTop (mkF m 222 #[vi x0, vi x1, vi (0 : Int32), vi y0, vi y1, vr b8, vr b70, .unset, .unset] [(.int t3), (.int (13 : Int32)), (.ref b70)]))
    obtain ⟨T91, h91, X91, e91, W91, A91, st91⟩ := own_castore X89 hx hZ e89 A89 (j := (13 : Int32)) (i := 13) (by decide) (by decide) (by first | decide | omega | (dsimp only; omega)) (g := (mkF m 222 #[vi x0, vi x1, vi (0 : Int32), vi y0, vi y1, vr b8, vr b70, .unset, .unset] [(.int t3), (.int (13 : Int32)), (.ref b70)])) rfl rfl (hb hby at_222)
    refine Goes.via st91 ?_
    have N91 := Fr.snoc X91 N89 gn_b70
    show Goes p e below _ (T91.setTop (mkF m 223 #[vi x0, vi x1, vi (0 : Int32), vi y0, vi y1, vr b8, vr b70, .unset, .unset] []))
    refine gAL X91 hx hby at_223 rfl rfl ?_
    refine gBI (z := 14) X91 hx hby at_225 rfl ?_
    refine gILN X91 hx hby at_227 rfl ?_
    refine Goes.via (fun _ kk_ => XS.iadd X91.here hx rfl (hb hby at_228) rfl kk_) ?_
    show Goes p e below _ (T91.setTop (mkF m 229 #[vi x0, vi x1, vi (0 : Int32), vi y0, vi y1, vr b8, vr b70, .unset, .unset] [(.int ((14 : Int32) + (0 : Int32))), (.ref b70)]))
    rw [show ((14 : Int32) + (0 : Int32)) = (14 : Int32) from by decide]
    show Goes p e below _ (T91.setTop (mkF m 229 #[vi x0, vi x1, vi (0 : Int32), vi y0, vi y1, vr b8, vr b70, .unset, .unset] [(.int (14 : Int32)), (.ref b70)]))
    refine gAL X91 hx hby at_229 rfl rfl ?_
    refine gIC (z := 4) X91 hx hby at_231 rfl ?_
    have f92 : Arw Z h91 b8 k8 .char 6 (own_upd (own_upd (own_upd (own_upd (own_upd (own_upd (fun _ => (.int 0)) 0 (.int (nar .char t0))) 1 (.int (nar .char t1))) 2 (.int (nar .char t2))) 3 (.int (nar .char t3))) 4 (.int (nar .char t4))) 5 (.int (nar .char t5))) := (f90.other W91 ne71)
    refine Goes.via (own_caload X91 hx hZ e91 f92 (j := (4 : Int32)) (i := 4) (by decide) (by decide) (by decide) (v := t4) (Eq.trans rfl (congrArg Value.int c_t4.1)) (g := (mkF m 232 #[vi x0, vi x1, vi (0 : Int32), vi y0, vi y1, vr b8, vr b70, .unset, .unset] [(.int (4 : Int32)), (.ref b8), (.int (14 : Int32)), (.ref b70)])) rfl rfl (hb hby at_232)) ?_
    show Goes p e below _ (T91.setTop (mkF m 233 #[vi x0, vi x1, vi (0 : Int32), vi y0, vi y1, vr b8, vr b70, .unset, .unset] [(.int t4), (.int (14 : Int32)), (.ref b70)]))
    obtain ⟨T93, h93, X93, e93, W93, A93, st93⟩ := own_castore X91 hx hZ e91 A91 (j := (14 : Int32)) (i := 14) (by decide) (by decide) (by first | decide | omega | (dsimp only; omega)) (g := (mkF m 233 #[vi x0, vi x1, vi (0 : Int32), vi y0, vi y1, vr b8, vr b70, .unset, .unset] [(.int t4), (.int (14 : Int32)), (.ref b70)])) rfl rfl (hb hby at_233)
    refine Goes.via st93 ?_
    have N93 := Fr.snoc X93 N91 gn_b70
    show Goes p e below _ (T93.setTop (mkF m 234 #[vi x0, vi x1, vi (0 : Int32), vi y0, vi y1, vr b8, vr b70, .unset, .unset] []))
    refine gILN X93 hx hby at_234 rfl ?_
    have hc235_94 : (0 : Int32) = (0 : Int32) := (by decide)
    refine Goes.via (fun _ kk_ => XS.ifNo X93.here hx rfl (hb hby at_235) rfl ((if0 _ _).trans (teq hc235_94).2) kk_) ?_
    show Goes p e below _ (T93.setTop (mkF m 238 #[vi x0, vi x1, vi (0 : Int32), vi y0, vi y1, vr b8, vr b70, .unset, .unset] []))
    refine gAL X93 hx hby at_238 rfl rfl ?_
    refine gBI (z := 15) X93 hx hby at_240 rfl ?_
    refine gAL X93 hx hby at_242 rfl rfl ?_
    refine gIC (z := 5) X93 hx hby at_244 rfl ?_
    have f95 : Arw Z h93 b8 k8 .char 6 (own_upd (own_upd (own_upd (own_upd (own_upd (own_upd (fun _ => (.int 0)) 0 (.int (nar .char t0))) 1 (.int (nar .char t1))) 2 (.int (nar .char t2))) 3 (.int (nar .char t3))) 4 (.int (nar .char t4))) 5 (.int (nar .char t5))) := (f92.other W93 ne71)
    refine Goes.via (own_caload X93 hx hZ e93 f95 (j := (5 : Int32)) (i := 5) (by decide) (by decide) (by decide) (v := t5) (Eq.trans rfl (congrArg Value.int c_t5.1)) (g := (mkF m 245 #[vi x0, vi x1, vi (0 : Int32), vi y0, vi y1, vr b8, vr b70, .unset, .unset] [(.int (5 : Int32)), (.ref b8), (.int (15 : Int32)), (.ref b70)])) rfl rfl (hb hby at_245)) ?_
    show Goes p e below _ (T93.setTop (mkF m 246 #[vi x0, vi x1, vi (0 : Int32), vi y0, vi y1, vr b8, vr b70, .unset, .unset] [(.int t5), (.int (15 : Int32)), (.ref b70)]))
    obtain ⟨T96, h96, X96, e96, W96, A96, st96⟩ := own_castore X93 hx hZ e93 A93 (j := (15 : Int32)) (i := 15) (by decide) (by decide) (by first | decide | omega | (dsimp only; omega)) (g := (mkF m 246 #[vi x0, vi x1, vi (0 : Int32), vi y0, vi y1, vr b8, vr b70, .unset, .unset] [(.int t5), (.int (15 : Int32)), (.ref b70)])) rfl rfl (hb hby at_246)
    refine Goes.via st96 ?_
    have N96 := Fr.snoc X96 N93 gn_b70
    show Goes p e below _ (T96.setTop (mkF m 247 #[vi x0, vi x1, vi (0 : Int32), vi y0, vi y1, vr b8, vr b70, .unset, .unset] []))
    refine gBI (z := 6) X96 hx hby at_247 rfl ?_
    refine gILN X96 hx hby at_249 rfl ?_
    refine Goes.via (fun _ kk_ => XS.isub X96.here hx rfl (hb hby at_250) rfl kk_) ?_
    show Goes p e below _ (T96.setTop (mkF m 251 #[vi x0, vi x1, vi (0 : Int32), vi y0, vi y1, vr b8, vr b70, .unset, .unset] [(.int ((6 : Int32) - (0 : Int32)))]))
    rw [show ((6 : Int32) - (0 : Int32)) = (6 : Int32) from by decide]
    show Goes p e below _ (T96.setTop (mkF m 251 #[vi x0, vi x1, vi (0 : Int32), vi y0, vi y1, vr b8, vr b70, .unset, .unset] [(.int (6 : Int32))]))
    refine Goes.via (fun _ kk_ => XS.istore X96.here hx rfl (hb hby at_251) rfl (l' := #[vi x0, vi x1, vi (0 : Int32), vi y0, vi y1, vr b8, vr b70, vi (6 : Int32), .unset]) rfl kk_) ?_
    show Goes p e below _ (T96.setTop (mkF m 253 #[vi x0, vi x1, vi (0 : Int32), vi y0, vi y1, vr b8, vr b70, vi (6 : Int32), .unset] []))
    refine gILN X96 hx hby at_253 rfl ?_
    have hc254_97 : (0 : Int32) = (0 : Int32) := (by decide)
    refine Goes.via (fun _ kk_ => XS.ifNo X96.here hx rfl (hb hby at_254) rfl ((if0 _ _).trans (teq hc254_97).2) kk_) ?_
    show Goes p e below _ (T96.setTop (mkF m 257 #[vi x0, vi x1, vi (0 : Int32), vi y0, vi y1, vr b8, vr b70, vi (6 : Int32), .unset] []))
    refine gAL X96 hx hby at_257 rfl rfl ?_
    refine gIC (z := 5) X96 hx hby at_259 rfl ?_
    have f98 : Arw Z h96 b8 k8 .char 6 (own_upd (own_upd (own_upd (own_upd (own_upd (own_upd (fun _ => (.int 0)) 0 (.int (nar .char t0))) 1 (.int (nar .char t1))) 2 (.int (nar .char t2))) 3 (.int (nar .char t3))) 4 (.int (nar .char t4))) 5 (.int (nar .char t5))) := (f95.other W96 ne71)
    refine Goes.via (own_caload X96 hx hZ e96 f98 (j := (5 : Int32)) (i := 5) (by decide) (by decide) (by decide) (v := t5) (Eq.trans rfl (congrArg Value.int c_t5.1)) (g := (mkF m 260 #[vi x0, vi x1, vi (0 : Int32), vi y0, vi y1, vr b8, vr b70, vi (6 : Int32), .unset] [(.int (5 : Int32)), (.ref b8)])) rfl rfl (hb hby at_260)) ?_
    show Goes p e below _ (T96.setTop (mkF m 261 #[vi x0, vi x1, vi (0 : Int32), vi y0, vi y1, vr b8, vr b70, vi (6 : Int32), .unset] [(.int t5)]))
    refine gBI (z := 63) X96 hx hby at_261 rfl ?_
    obtain ⟨jj99, hv_jj99⟩ : ∃ z : Int32, z = (if t5 = (63 : Int32) then (5 : Int32) else (6 : Int32)) := ⟨_, rfl⟩
    suffices J : Goes p e below (Fin_W s (Qrm0 Z x0 x1 cS fo h0 n0) (fun U_ => KS Z own_KL U_.vm U_.heap) room_1.cells room_1.slots) (T96.setTop (mkF m 269 #[vi x0, vi x1, vi (0 : Int32), vi y0, vi y1, vr b8, vr b70, vi jj99, .unset] [])) by
      by_cases hc263 : t5 = (63 : Int32)
      · skip
        rw [show jj99 = (5 : Int32) from hv_jj99.trans (if_pos hc263)] at J
        refine Goes.via (fun _ kk_ => XS.icmpNo X96.here hx rfl (hb hby at_263) rfl (teq hc263).2 kk_) ?_
        show Goes p e below _ (T96.setTop (mkF m 266 #[vi x0, vi x1, vi (0 : Int32), vi y0, vi y1, vr b8, vr b70, vi (6 : Int32), .unset] []))
        refine gIC (z := 5) X96 hx hby at_266 rfl ?_
        refine Goes.via (fun _ kk_ => XS.istore X96.here hx rfl (hb hby at_267) rfl (l' := #[vi x0, vi x1, vi (0 : Int32), vi y0, vi y1, vr b8, vr b70, vi (5 : Int32), .unset]) rfl kk_) ?_
        show Goes p e below _ (T96.setTop (mkF m 269 #[vi x0, vi x1, vi (0 : Int32), vi y0, vi y1, vr b8, vr b70, vi (5 : Int32), .unset] []))
        exact J
      · skip
        rw [show jj99 = (6 : Int32) from hv_jj99.trans (if_neg hc263)] at J
        refine Goes.via (fun _ kk_ => XS.icmpYes X96.here hx rfl (pc0 := 263) (pc' := 269) rfl (hb hby at_263) rfl (feq hc263).2 (by decide) (by decide) kk_) ?_
        show Goes p e below _ (T96.setTop (mkF m 269 #[vi x0, vi x1, vi (0 : Int32), vi y0, vi y1, vr b8, vr b70, vi (6 : Int32), .unset] []))
        exact J
    subst hv_jj99
    show Goes p e below _ (T96.setTop (mkF m 269 #[vi x0, vi x1, vi (0 : Int32), vi y0, vi y1, vr b8, vr b70, vi (if t5 = (63 : Int32) then (5 : Int32) else (6 : Int32)), .unset] []))
    refine gAL X96 hx hby at_269 rfl rfl ?_
    refine gIC (z := 4) X96 hx hby at_271 rfl ?_
    refine Goes.via (own_caload X96 hx hZ e96 f98 (j := (4 : Int32)) (i := 4) (by decide) (by decide) (by decide) (v := t4) (Eq.trans rfl (congrArg Value.int c_t4.1)) (g := (mkF m 272 #[vi x0, vi x1, vi (0 : Int32), vi y0, vi y1, vr b8, vr b70, vi (if t5 = (63 : Int32) then (5 : Int32) else (6 : Int32)), .unset] [(.int (4 : Int32)), (.ref b8)])) rfl rfl (hb hby at_272)) ?_
    show Goes p e below _ (T96.setTop (mkF m 273 #[vi x0, vi x1, vi (0 : Int32), vi y0, vi y1, vr b8, vr b70, vi (if t5 = (63 : Int32) then (5 : Int32) else (6 : Int32)), .unset] [(.int t4)]))
    refine gBI (z := 63) X96 hx hby at_273 rfl ?_
    obtain ⟨jj100, hv_jj100⟩ : ∃ z : Int32, z = (if t4 = (63 : Int32) then (4 : Int32) else (if t5 = (63 : Int32) then (5 : Int32) else (6 : Int32))) := ⟨_, rfl⟩
    suffices J : Goes p e below (Fin_W s (Qrm0 Z x0 x1 cS fo h0 n0) (fun U_ => KS Z own_KL U_.vm U_.heap) room_1.cells room_1.slots) (T96.setTop (mkF m 281 #[vi x0, vi x1, vi (0 : Int32), vi y0, vi y1, vr b8, vr b70, vi jj100, .unset] [])) by
      by_cases hc275 : t4 = (63 : Int32)
      · skip
        rw [show jj100 = (4 : Int32) from hv_jj100.trans (if_pos hc275)] at J
        refine Goes.via (fun _ kk_ => XS.icmpNo X96.here hx rfl (hb hby at_275) rfl (teq hc275).2 kk_) ?_
        show Goes p e below _ (T96.setTop (mkF m 278 #[vi x0, vi x1, vi (0 : Int32), vi y0, vi y1, vr b8, vr b70, vi (if t5 = (63 : Int32) then (5 : Int32) else (6 : Int32)), .unset] []))
        refine gIC (z := 4) X96 hx hby at_278 rfl ?_
        refine Goes.via (fun _ kk_ => XS.istore X96.here hx rfl (hb hby at_279) rfl (l' := #[vi x0, vi x1, vi (0 : Int32), vi y0, vi y1, vr b8, vr b70, vi (4 : Int32), .unset]) rfl kk_) ?_
        show Goes p e below _ (T96.setTop (mkF m 281 #[vi x0, vi x1, vi (0 : Int32), vi y0, vi y1, vr b8, vr b70, vi (4 : Int32), .unset] []))
        exact J
      · skip
        rw [show jj100 = (if t5 = (63 : Int32) then (5 : Int32) else (6 : Int32)) from hv_jj100.trans (if_neg hc275)] at J
        refine Goes.via (fun _ kk_ => XS.icmpYes X96.here hx rfl (pc0 := 275) (pc' := 281) rfl (hb hby at_275) rfl (feq hc275).2 (by decide) (by decide) kk_) ?_
        show Goes p e below _ (T96.setTop (mkF m 281 #[vi x0, vi x1, vi (0 : Int32), vi y0, vi y1, vr b8, vr b70, vi (if t5 = (63 : Int32) then (5 : Int32) else (6 : Int32)), .unset] []))
        exact J
    subst hv_jj100
    show Goes p e below _ (T96.setTop (mkF m 281 #[vi x0, vi x1, vi (0 : Int32), vi y0, vi y1, vr b8, vr b70, vi (if t4 = (63 : Int32) then (4 : Int32) else (if t5 = (63 : Int32) then (5 : Int32) else (6 : Int32))), .unset] []))
    refine gAL X96 hx hby at_281 rfl rfl ?_
    refine gIC (z := 3) X96 hx hby at_283 rfl ?_
    refine Goes.via (own_caload X96 hx hZ e96 f98 (j := (3 : Int32)) (i := 3) (by decide) (by decide) (by decide) (v := t3) (Eq.trans rfl (congrArg Value.int c_t3.1)) (g := (mkF m 284 #[vi x0, vi x1, vi (0 : Int32), vi y0, vi y1, vr b8, vr b70, vi (if t4 = (63 : Int32) then (4 : Int32) else (if t5 = (63 : Int32) then (5 : Int32) else (6 : Int32))), .unset] [(.int (3 : Int32)), (.ref b8)])) rfl rfl (hb hby at_284)) ?_
    show Goes p e below _ (T96.setTop (mkF m 285 #[vi x0, vi x1, vi (0 : Int32), vi y0, vi y1, vr b8, vr b70, vi (if t4 = (63 : Int32) then (4 : Int32) else (if t5 = (63 : Int32) then (5 : Int32) else (6 : Int32))), .unset] [(.int t3)]))
    refine gBI (z := 63) X96 hx hby at_285 rfl ?_
    obtain ⟨jj101, hv_jj101⟩ : ∃ z : Int32, z = (if t3 = (63 : Int32) then (3 : Int32) else (if t4 = (63 : Int32) then (4 : Int32) else (if t5 = (63 : Int32) then (5 : Int32) else (6 : Int32)))) := ⟨_, rfl⟩
    suffices J : Goes p e below (Fin_W s (Qrm0 Z x0 x1 cS fo h0 n0) (fun U_ => KS Z own_KL U_.vm U_.heap) room_1.cells room_1.slots) (T96.setTop (mkF m 293 #[vi x0, vi x1, vi (0 : Int32), vi y0, vi y1, vr b8, vr b70, vi jj101, .unset] [])) by
      by_cases hc287 : t3 = (63 : Int32)
      · skip
        rw [show jj101 = (3 : Int32) from hv_jj101.trans (if_pos hc287)] at J
        refine Goes.via (fun _ kk_ => XS.icmpNo X96.here hx rfl (hb hby at_287) rfl (teq hc287).2 kk_) ?_
        show Goes p e below _ (T96.setTop (mkF m 290 #[vi x0, vi x1, vi (0 : Int32), vi y0, vi y1, vr b8, vr b70, vi (if t4 = (63 : Int32) then (4 : Int32) else (if t5 = (63 : Int32) then (5 : Int32) else (6 : Int32))), .unset] []))
        refine gIC (z := 3) X96 hx hby at_290 rfl ?_
        refine Goes.via (fun _ kk_ => XS.istore X96.here hx rfl (hb hby at_291) rfl (l' := #[vi x0, vi x1, vi (0 : Int32), vi y0, vi y1, vr b8, vr b70, vi (3 : Int32), .unset]) rfl kk_) ?_
        show Goes p e below _ (T96.setTop (mkF m 293 #[vi x0, vi x1, vi (0 : Int32), vi y0, vi y1, vr b8, vr b70, vi (3 : Int32), .unset] []))
        exact J
      · skip
        rw [show jj101 = (if t4 = (63 : Int32) then (4 : Int32) else (if t5 = (63 : Int32) then (5 : Int32) else (6 : Int32))) from hv_jj101.trans (if_neg hc287)] at J
        refine Goes.via (fun _ kk_ => XS.icmpYes X96.here hx rfl (pc0 := 287) (pc' := 293) rfl (hb hby at_287) rfl (feq hc287).2 (by decide) (by decide) kk_) ?_
        show Goes p e below _ (T96.setTop (mkF m 293 #[vi x0, vi x1, vi (0 : Int32), vi y0, vi y1, vr b8, vr b70, vi (if t4 = (63 : Int32) then (4 : Int32) else (if t5 = (63 : Int32) then (5 : Int32) else (6 : Int32))), .unset] []))
        exact J
    subst hv_jj101
    show Goes p e below _ (T96.setTop (mkF m 293 #[vi x0, vi x1, vi (0 : Int32), vi y0, vi y1, vr b8, vr b70, vi (if t3 = (63 : Int32) then (3 : Int32) else (if t4 = (63 : Int32) then (4 : Int32) else (if t5 = (63 : Int32) then (5 : Int32) else (6 : Int32)))), .unset] []))
    refine gAL X96 hx hby at_293 rfl rfl ?_
    refine gIC (z := 2) X96 hx hby at_295 rfl ?_
    refine Goes.via (own_caload X96 hx hZ e96 f98 (j := (2 : Int32)) (i := 2) (by decide) (by decide) (by decide) (v := t2) (Eq.trans rfl (congrArg Value.int c_t2.1)) (g := (mkF m 296 #[vi x0, vi x1, vi (0 : Int32), vi y0, vi y1, vr b8, vr b70, vi (if t3 = (63 : Int32) then (3 : Int32) else (if t4 = (63 : Int32) then (4 : Int32) else (if t5 = (63 : Int32) then (5 : Int32) else (6 : Int32)))), .unset] [(.int (2 : Int32)), (.ref b8)])) rfl rfl (hb hby at_296)) ?_
    show Goes p e below _ (T96.setTop (mkF m 297 #[vi x0, vi x1, vi (0 : Int32), vi y0, vi y1, vr b8, vr b70, vi (if t3 = (63 : Int32) then (3 : Int32) else (if t4 = (63 : Int32) then (4 : Int32) else (if t5 = (63 : Int32) then (5 : Int32) else (6 : Int32)))), .unset] [(.int t2)]))
    refine gBI (z := 63) X96 hx hby at_297 rfl ?_
    obtain ⟨jj102, hv_jj102⟩ : ∃ z : Int32, z = (if t2 = (63 : Int32) then (2 : Int32) else (if t3 = (63 : Int32) then (3 : Int32) else (if t4 = (63 : Int32) then (4 : Int32) else (if t5 = (63 : Int32) then (5 : Int32) else (6 : Int32))))) := ⟨_, rfl⟩
    suffices J : Goes p e below (Fin_W s (Qrm0 Z x0 x1 cS fo h0 n0) (fun U_ => KS Z own_KL U_.vm U_.heap) room_1.cells room_1.slots) (T96.setTop (mkF m 305 #[vi x0, vi x1, vi (0 : Int32), vi y0, vi y1, vr b8, vr b70, vi jj102, .unset] [])) by
      by_cases hc299 : t2 = (63 : Int32)
      · skip
        rw [show jj102 = (2 : Int32) from hv_jj102.trans (if_pos hc299)] at J
        refine Goes.via (fun _ kk_ => XS.icmpNo X96.here hx rfl (hb hby at_299) rfl (teq hc299).2 kk_) ?_
        show Goes p e below _ (T96.setTop (mkF m 302 #[vi x0, vi x1, vi (0 : Int32), vi y0, vi y1, vr b8, vr b70, vi (if t3 = (63 : Int32) then (3 : Int32) else (if t4 = (63 : Int32) then (4 : Int32) else (if t5 = (63 : Int32) then (5 : Int32) else (6 : Int32)))), .unset] []))
        refine gIC (z := 2) X96 hx hby at_302 rfl ?_
        refine Goes.via (fun _ kk_ => XS.istore X96.here hx rfl (hb hby at_303) rfl (l' := #[vi x0, vi x1, vi (0 : Int32), vi y0, vi y1, vr b8, vr b70, vi (2 : Int32), .unset]) rfl kk_) ?_
        show Goes p e below _ (T96.setTop (mkF m 305 #[vi x0, vi x1, vi (0 : Int32), vi y0, vi y1, vr b8, vr b70, vi (2 : Int32), .unset] []))
        exact J
      · skip
        rw [show jj102 = (if t3 = (63 : Int32) then (3 : Int32) else (if t4 = (63 : Int32) then (4 : Int32) else (if t5 = (63 : Int32) then (5 : Int32) else (6 : Int32)))) from hv_jj102.trans (if_neg hc299)] at J
        refine Goes.via (fun _ kk_ => XS.icmpYes X96.here hx rfl (pc0 := 299) (pc' := 305) rfl (hb hby at_299) rfl (feq hc299).2 (by decide) (by decide) kk_) ?_
        show Goes p e below _ (T96.setTop (mkF m 305 #[vi x0, vi x1, vi (0 : Int32), vi y0, vi y1, vr b8, vr b70, vi (if t3 = (63 : Int32) then (3 : Int32) else (if t4 = (63 : Int32) then (4 : Int32) else (if t5 = (63 : Int32) then (5 : Int32) else (6 : Int32)))), .unset] []))
        exact J
    subst hv_jj102
    show Goes p e below _ (T96.setTop (mkF m 305 #[vi x0, vi x1, vi (0 : Int32), vi y0, vi y1, vr b8, vr b70, vi (if t2 = (63 : Int32) then (2 : Int32) else (if t3 = (63 : Int32) then (3 : Int32) else (if t4 = (63 : Int32) then (4 : Int32) else (if t5 = (63 : Int32) then (5 : Int32) else (6 : Int32))))), .unset] []))
    refine gAL X96 hx hby at_305 rfl rfl ?_
    refine gIC (z := 1) X96 hx hby at_307 rfl ?_
    refine Goes.via (own_caload X96 hx hZ e96 f98 (j := (1 : Int32)) (i := 1) (by decide) (by decide) (by decide) (v := t1) (Eq.trans rfl (congrArg Value.int c_t1.1)) (g := (mkF m 308 #[vi x0, vi x1, vi (0 : Int32), vi y0, vi y1, vr b8, vr b70, vi (if t2 = (63 : Int32) then (2 : Int32) else (if t3 = (63 : Int32) then (3 : Int32) else (if t4 = (63 : Int32) then (4 : Int32) else (if t5 = (63 : Int32) then (5 : Int32) else (6 : Int32))))), .unset] [(.int (1 : Int32)), (.ref b8)])) rfl rfl (hb hby at_308)) ?_
    show Goes p e below _ (T96.setTop (mkF m 309 #[vi x0, vi x1, vi (0 : Int32), vi y0, vi y1, vr b8, vr b70, vi (if t2 = (63 : Int32) then (2 : Int32) else (if t3 = (63 : Int32) then (3 : Int32) else (if t4 = (63 : Int32) then (4 : Int32) else (if t5 = (63 : Int32) then (5 : Int32) else (6 : Int32))))), .unset] [(.int t1)]))
    refine gBI (z := 63) X96 hx hby at_309 rfl ?_
    obtain ⟨jj103, hv_jj103⟩ : ∃ z : Int32, z = (if t1 = (63 : Int32) then (1 : Int32) else (if t2 = (63 : Int32) then (2 : Int32) else (if t3 = (63 : Int32) then (3 : Int32) else (if t4 = (63 : Int32) then (4 : Int32) else (if t5 = (63 : Int32) then (5 : Int32) else (6 : Int32)))))) := ⟨_, rfl⟩
    suffices J : Goes p e below (Fin_W s (Qrm0 Z x0 x1 cS fo h0 n0) (fun U_ => KS Z own_KL U_.vm U_.heap) room_1.cells room_1.slots) (T96.setTop (mkF m 317 #[vi x0, vi x1, vi (0 : Int32), vi y0, vi y1, vr b8, vr b70, vi jj103, .unset] [])) by
      by_cases hc311 : t1 = (63 : Int32)
      · skip
        rw [show jj103 = (1 : Int32) from hv_jj103.trans (if_pos hc311)] at J
        refine Goes.via (fun _ kk_ => XS.icmpNo X96.here hx rfl (hb hby at_311) rfl (teq hc311).2 kk_) ?_
        show Goes p e below _ (T96.setTop (mkF m 314 #[vi x0, vi x1, vi (0 : Int32), vi y0, vi y1, vr b8, vr b70, vi (if t2 = (63 : Int32) then (2 : Int32) else (if t3 = (63 : Int32) then (3 : Int32) else (if t4 = (63 : Int32) then (4 : Int32) else (if t5 = (63 : Int32) then (5 : Int32) else (6 : Int32))))), .unset] []))
        refine gIC (z := 1) X96 hx hby at_314 rfl ?_
        refine Goes.via (fun _ kk_ => XS.istore X96.here hx rfl (hb hby at_315) rfl (l' := #[vi x0, vi x1, vi (0 : Int32), vi y0, vi y1, vr b8, vr b70, vi (1 : Int32), .unset]) rfl kk_) ?_
        show Goes p e below _ (T96.setTop (mkF m 317 #[vi x0, vi x1, vi (0 : Int32), vi y0, vi y1, vr b8, vr b70, vi (1 : Int32), .unset] []))
        exact J
      · skip
        rw [show jj103 = (if t2 = (63 : Int32) then (2 : Int32) else (if t3 = (63 : Int32) then (3 : Int32) else (if t4 = (63 : Int32) then (4 : Int32) else (if t5 = (63 : Int32) then (5 : Int32) else (6 : Int32))))) from hv_jj103.trans (if_neg hc311)] at J
        refine Goes.via (fun _ kk_ => XS.icmpYes X96.here hx rfl (pc0 := 311) (pc' := 317) rfl (hb hby at_311) rfl (feq hc311).2 (by decide) (by decide) kk_) ?_
        show Goes p e below _ (T96.setTop (mkF m 317 #[vi x0, vi x1, vi (0 : Int32), vi y0, vi y1, vr b8, vr b70, vi (if t2 = (63 : Int32) then (2 : Int32) else (if t3 = (63 : Int32) then (3 : Int32) else (if t4 = (63 : Int32) then (4 : Int32) else (if t5 = (63 : Int32) then (5 : Int32) else (6 : Int32))))), .unset] []))
        exact J
    subst hv_jj103
    show Goes p e below _ (T96.setTop (mkF m 317 #[vi x0, vi x1, vi (0 : Int32), vi y0, vi y1, vr b8, vr b70, vi (if t1 = (63 : Int32) then (1 : Int32) else (if t2 = (63 : Int32) then (2 : Int32) else (if t3 = (63 : Int32) then (3 : Int32) else (if t4 = (63 : Int32) then (4 : Int32) else (if t5 = (63 : Int32) then (5 : Int32) else (6 : Int32)))))), .unset] []))
    refine gAL X96 hx hby at_317 rfl rfl ?_
    refine gIC (z := 0) X96 hx hby at_319 rfl ?_
    refine Goes.via (own_caload X96 hx hZ e96 f98 (j := (0 : Int32)) (i := 0) (by decide) (by decide) (by decide) (v := t0) (Eq.trans rfl (congrArg Value.int c_t0.1)) (g := (mkF m 320 #[vi x0, vi x1, vi (0 : Int32), vi y0, vi y1, vr b8, vr b70, vi (if t1 = (63 : Int32) then (1 : Int32) else (if t2 = (63 : Int32) then (2 : Int32) else (if t3 = (63 : Int32) then (3 : Int32) else (if t4 = (63 : Int32) then (4 : Int32) else (if t5 = (63 : Int32) then (5 : Int32) else (6 : Int32)))))), .unset] [(.int (0 : Int32)), (.ref b8)])) rfl rfl (hb hby at_320)) ?_
    show Goes p e below _ (T96.setTop (mkF m 321 #[vi x0, vi x1, vi (0 : Int32), vi y0, vi y1, vr b8, vr b70, vi (if t1 = (63 : Int32) then (1 : Int32) else (if t2 = (63 : Int32) then (2 : Int32) else (if t3 = (63 : Int32) then (3 : Int32) else (if t4 = (63 : Int32) then (4 : Int32) else (if t5 = (63 : Int32) then (5 : Int32) else (6 : Int32)))))), .unset] [(.int t0)]))
    refine gBI (z := 63) X96 hx hby at_321 rfl ?_
    obtain ⟨jj104, hv_jj104⟩ : ∃ z : Int32, z = (if t0 = (63 : Int32) then (0 : Int32) else (if t1 = (63 : Int32) then (1 : Int32) else (if t2 = (63 : Int32) then (2 : Int32) else (if t3 = (63 : Int32) then (3 : Int32) else (if t4 = (63 : Int32) then (4 : Int32) else (if t5 = (63 : Int32) then (5 : Int32) else (6 : Int32))))))) := ⟨_, rfl⟩
    suffices J : Goes p e below (Fin_W s (Qrm0 Z x0 x1 cS fo h0 n0) (fun U_ => KS Z own_KL U_.vm U_.heap) room_1.cells room_1.slots) (T96.setTop (mkF m 329 #[vi x0, vi x1, vi (0 : Int32), vi y0, vi y1, vr b8, vr b70, vi jj104, .unset] [])) by
      by_cases hc323 : t0 = (63 : Int32)
      · skip
        rw [show jj104 = (0 : Int32) from hv_jj104.trans (if_pos hc323)] at J
        refine Goes.via (fun _ kk_ => XS.icmpNo X96.here hx rfl (hb hby at_323) rfl (teq hc323).2 kk_) ?_
        show Goes p e below _ (T96.setTop (mkF m 326 #[vi x0, vi x1, vi (0 : Int32), vi y0, vi y1, vr b8, vr b70, vi (if t1 = (63 : Int32) then (1 : Int32) else (if t2 = (63 : Int32) then (2 : Int32) else (if t3 = (63 : Int32) then (3 : Int32) else (if t4 = (63 : Int32) then (4 : Int32) else (if t5 = (63 : Int32) then (5 : Int32) else (6 : Int32)))))), .unset] []))
        refine gIC (z := 0) X96 hx hby at_326 rfl ?_
        refine Goes.via (fun _ kk_ => XS.istore X96.here hx rfl (hb hby at_327) rfl (l' := #[vi x0, vi x1, vi (0 : Int32), vi y0, vi y1, vr b8, vr b70, vi (0 : Int32), .unset]) rfl kk_) ?_
        show Goes p e below _ (T96.setTop (mkF m 329 #[vi x0, vi x1, vi (0 : Int32), vi y0, vi y1, vr b8, vr b70, vi (0 : Int32), .unset] []))
        exact J
      · skip
        rw [show jj104 = (if t1 = (63 : Int32) then (1 : Int32) else (if t2 = (63 : Int32) then (2 : Int32) else (if t3 = (63 : Int32) then (3 : Int32) else (if t4 = (63 : Int32) then (4 : Int32) else (if t5 = (63 : Int32) then (5 : Int32) else (6 : Int32)))))) from hv_jj104.trans (if_neg hc323)] at J
        refine Goes.via (fun _ kk_ => XS.icmpYes X96.here hx rfl (pc0 := 323) (pc' := 329) rfl (hb hby at_323) rfl (feq hc323).2 (by decide) (by decide) kk_) ?_
        show Goes p e below _ (T96.setTop (mkF m 329 #[vi x0, vi x1, vi (0 : Int32), vi y0, vi y1, vr b8, vr b70, vi (if t1 = (63 : Int32) then (1 : Int32) else (if t2 = (63 : Int32) then (2 : Int32) else (if t3 = (63 : Int32) then (3 : Int32) else (if t4 = (63 : Int32) then (4 : Int32) else (if t5 = (63 : Int32) then (5 : Int32) else (6 : Int32)))))), .unset] []))
        exact J
    subst hv_jj104
    show Goes p e below _ (T96.setTop (mkF m 329 #[vi x0, vi x1, vi (0 : Int32), vi y0, vi y1, vr b8, vr b70, vi (if t0 = (63 : Int32) then (0 : Int32) else (if t1 = (63 : Int32) then (1 : Int32) else (if t2 = (63 : Int32) then (2 : Int32) else (if t3 = (63 : Int32) then (3 : Int32) else (if t4 = (63 : Int32) then (4 : Int32) else (if t5 = (63 : Int32) then (5 : Int32) else (6 : Int32))))))), .unset] []))
    obtain ⟨T105, h105, X105, e105, E105, A105, D105, -, st105⟩ := newO X96 hx hZ hown (own_w hw 42 rfl) (own_w hw 6 rfl) (own_w hw 5 rfl) e96 (g := (mkF m 329 #[vi x0, vi x1, vi (0 : Int32), vi y0, vi y1, vr b8, vr b70, vi (if t0 = (63 : Int32) then (0 : Int32) else (if t1 = (63 : Int32) then (1 : Int32) else (if t2 = (63 : Int32) then (2 : Int32) else (if t3 = (63 : Int32) then (3 : Int32) else (if t4 = (63 : Int32) then (4 : Int32) else (if t5 = (63 : Int32) then (5 : Int32) else (6 : Int32))))))), .unset] [])) rfl (hb hby at_329) (by first | decide | omega | (dsimp only; omega)) (by first | decide | omega | (dsimp only; omega))
    obtain ⟨b105, g105⟩ : ∃ z, z = (h96).size := ⟨_, rfl⟩
    rw [← g105] at A105 D105 st105
    have lne106 : b8 < b105 := Nat.lt_of_lt_of_le f98.lt (Nat.le_of_eq g105.symm)
    have ne106 : b8 ≠ b105 := Nat.ne_of_lt lne106
    have lne107 : b70 < b105 := Nat.lt_of_lt_of_le A96.lt (Nat.le_of_eq g105.symm)
    have ne107 : b70 ≠ b105 := Nat.ne_of_lt lne107
    have z108 : h0.size ≤ (h96).size := (Nat.le_trans (Nat.le_trans (Nat.le_trans (Nat.le_trans (Nat.le_trans (Nat.le_trans (Nat.le_trans (Nat.le_trans (Nat.le_trans (Nat.le_trans (Nat.le_trans (Nat.le_trans (Nat.le_trans (Nat.le_trans (Nat.le_trans (Nat.le_trans (Nat.le_trans z72 E70.1) (Nat.le_of_eq W73.size.symm)) (Nat.le_of_eq W74.size.symm)) (Nat.le_of_eq W75.size.symm)) (Nat.le_of_eq W76.size.symm)) (Nat.le_of_eq W78.size.symm)) (Nat.le_of_eq W79.size.symm)) (Nat.le_of_eq W80.size.symm)) (Nat.le_of_eq W81.size.symm)) (Nat.le_of_eq W82.size.symm)) (Nat.le_of_eq W83.size.symm)) (Nat.le_of_eq W85.size.symm)) (Nat.le_of_eq W87.size.symm)) (Nat.le_of_eq W89.size.symm)) (Nat.le_of_eq W91.size.symm)) (Nat.le_of_eq W93.size.symm)) (Nat.le_of_eq W96.size.symm))
    have sz_b105 : h0.size ≤ b105 := Nat.le_trans z108 (Nat.le_of_eq g105.symm)
    have gn_b105 : n0 ≤ b105 := Nat.le_trans Z0 sz_b105
    have F_value_b105 : Fld Z h105 b105 "java/lang/String" "value" "[B" .null := D105 (Or.inr (own_w hw 8 rfl)) (ty := (.array .byte)) (by decide)
    have F_coder_b105 : Fld Z h105 b105 "java/lang/String" "coder" "B" (.int (0 : Int32)) := D105 (Or.inr (own_w hw 9 rfl)) (ty := .byte) (by decide)
    refine Goes.via st105 ?_
    show Goes p e below _ (T105.setTop (mkF m 332 #[vi x0, vi x1, vi (0 : Int32), vi y0, vi y1, vr b8, vr b70, vi (if t0 = (63 : Int32) then (0 : Int32) else (if t1 = (63 : Int32) then (1 : Int32) else (if t2 = (63 : Int32) then (2 : Int32) else (if t3 = (63 : Int32) then (3 : Int32) else (if t4 = (63 : Int32) then (4 : Int32) else (if t5 = (63 : Int32) then (5 : Int32) else (6 : Int32))))))), .unset] [(.ref b105)]))
    refine gDU X105 hx hby at_332 rfl ?_
    refine gAL X105 hx hby at_333 rfl rfl ?_
    have f110 : Arw Z h105 b70 k70 .char 16 (own_upd (own_upd (own_upd (own_upd (own_upd (own_upd (own_upd (own_upd (own_upd (own_upd (own_upd (own_upd (own_upd (own_upd (own_upd (own_upd (fun _ => (.int 0)) 0 (.int (nar .char (104 : Int32)))) 1 (.int (nar .char (116 : Int32)))) 2 (.int (nar .char (116 : Int32)))) 3 (.int (nar .char (112 : Int32)))) 4 (.int (nar .char (58 : Int32)))) 5 (.int (nar .char (47 : Int32)))) 6 (.int (nar .char (47 : Int32)))) 7 (.int (nar .char y0))) 8 (.int (nar .char y1))) 9 (.int (nar .char (47 : Int32)))) 10 (.int (nar .char t0))) 11 (.int (nar .char t1))) 12 (.int (nar .char t2))) 13 (.int (nar .char t3))) 14 (.int (nar .char t4))) 15 (.int (nar .char t5))) := (A96.ext E105)
    have Va109 : Arv Z h105 b70 k70 .char (16 : Int32) ([(104 : Int32), (116 : Int32), (116 : Int32), (112 : Int32), (58 : Int32), (47 : Int32), (47 : Int32), y0, y1, (47 : Int32), t0, t1, t2, t3, t4, t5].map Value.int) (.int (0 : Int32)) := f110.toArv (by decide) (by intro i hi; match i, hi with | 0, _ => rfl | 1, _ => rfl | 2, _ => rfl | 3, _ => rfl | 4, _ => rfl | 5, _ => rfl | 6, _ => rfl | 7, _ => exact (congrArg Value.int c_y0.1.1.symm).trans rfl | 8, _ => exact (congrArg Value.int c_y1.1.1.symm).trans rfl | 9, _ => rfl | 10, _ => exact (congrArg Value.int c_t0.1.symm).trans rfl | 11, _ => exact (congrArg Value.int c_t1.1.symm).trans rfl | 12, _ => exact (congrArg Value.int c_t2.1.symm).trans rfl | 13, _ => exact (congrArg Value.int c_t3.1.symm).trans rfl | 14, _ => exact (congrArg Value.int c_t4.1.symm).trans rfl | 15, _ => exact (congrArg Value.int c_t5.1.symm).trans rfl | q + 16, h => exact absurd h (by omega))
    have K111 : Keep h0 h105 [] := ((((((((((((((((((((K60.trans K64 all0).wr W69 (Or.inr sz_b8)).ext E70).wr W73 (Or.inr sz_b70)).wr W74 (Or.inr sz_b70)).wr W75 (Or.inr sz_b70)).wr W76 (Or.inr sz_b70)).wr W78 (Or.inr sz_b70)).wr W79 (Or.inr sz_b70)).wr W80 (Or.inr sz_b70)).wr W81 (Or.inr sz_b70)).wr W82 (Or.inr sz_b70)).wr W83 (Or.inr sz_b70)).wr W85 (Or.inr sz_b70)).wr W87 (Or.inr sz_b70)).wr W89 (Or.inr sz_b70)).wr W91 (Or.inr sz_b70)).wr W93 (Or.inr sz_b70)).wr W96 (Or.inr sz_b70)).ext E105)
    have f112 : Sta Z h105 "java/lang/String" "COMPACT_STRINGS" "Z" (.int cS) := own_sta_keep OS K111
    have z113 : h0.size ≤ (h105).size := (Nat.le_trans z108 E105.1)
    have hws109 : ∀ d ∈ StrChars.Road.words, d.before a0 Z = true := fun d hd => hw d ((by decide +kernel : ∀ d ∈ StrChars.Road.words, d ∈ tables_1) d hd)
    have hlat109 : ∀ c ∈ [(104 : Int32), (116 : Int32), (116 : Int32), (112 : Int32), (58 : Int32), (47 : Int32), (47 : Int32), y0, y1, (47 : Int32), t0, t1, t2, t3, t4, t5], ¬ c < 0 ∧ ¬ (255 : Int32) < c := (own_aS (by decide) (own_aS (by decide) (own_aS (by decide) (own_aS (by decide) (own_aS (by decide) (own_aS (by decide) (own_aS (by decide) (own_aS c_y0.1.2.2.2 (own_aS c_y1.1.2.2.2 (own_aS (by decide) (own_aS c_t0.2.2.2 (own_aS c_t1.2.2.2 (own_aS c_t2.2.2.2 (own_aS c_t3.2.2.2 (own_aS c_t4.2.2.2 (own_aS c_t5.2.2.2 own_a0))))))))))))))))
    obtain ⟨bs109, hbs109⟩ : ∃ z : List Int32, z = [(104 : Int32), (116 : Int32), (116 : Int32), (112 : Int32), (58 : Int32), (47 : Int32), (47 : Int32), y0, y1, (47 : Int32), t0, t1, t2, t3, t4, t5].map (fun c => c.toInt8.toInt32) := ⟨_, rfl⟩
    obtain ⟨_, _, ⟨T109, L109, k109, n109⟩, -, X109, ⟨Lc109, hQ109, l109, y109, z109⟩, st109⟩ := X105.specialBack hx (y := (⟨"java/lang/String", "<init>", "([C)V"⟩ : MethodName)) rfl hown (mvT hZ (own_w hw 43 rfl)) (mvT hZ (own_w hw 44 rfl)) (mvT hZ (own_w hw 45 rfl)) (by decide) (StrChars.Road.backV (W := 1) hZ hws109 (kI := 4) (own_w hw 6 rfl) (cs := [(104 : Int32), (116 : Int32), (116 : Int32), (112 : Int32), (58 : Int32), (47 : Int32), (47 : Int32), y0, y1, (47 : Int32), t0, t1, t2, t3, t4, t5]) (bs := bs109) (n := 16) gn_b105 (Nat.le_trans Z0 z113) A105 F_value_b105 F_coder_b105 Va109 f112 H_cs rfl rfl (by decide) (by decide) hlat109 hbs109 (by decide) (by decide)) (g := (mkF m 335 #[vi x0, vi x1, vi (0 : Int32), vi y0, vi y1, vr b8, vr b70, vi (if t0 = (63 : Int32) then (0 : Int32) else (if t1 = (63 : Int32) then (1 : Int32) else (if t2 = (63 : Int32) then (2 : Int32) else (if t3 = (63 : Int32) then (3 : Int32) else (if t4 = (63 : Int32) then (4 : Int32) else (if t5 = (63 : Int32) then (5 : Int32) else (6 : Int32))))))), .unset] [(.ref b70), (.ref b105), (.ref b105)])) rfl (by rw [hml]; rfl) (Steps.refl _) (a := b105) (argsL := [(.ref b70)]) (rest := [(.ref b105)]) (lenOf pd_20 rfl) rfl (by show 2 * 0 + _ ≤ _; exact Nat.le_of_eq rfl) (hb hby at_335) (fun _ _ => ⟨rfl, e105, (by first | decide | omega : 19 + 1 ≤ _), (by first | decide | omega : 314 + 16 ≤ _)⟩)
    dsimp only [Pt.U, Pt.locs, Pt.cells, Pt.slots] at X109 l109 y109 z109 st109 hQ109
    replace l109 := l109.symm
    subst l109 y109 z109
    obtain ⟨rfl, N109q, K109, uE109, uC109, sb109, kb109, ug109, uz109, un109, uV109, uA109⟩ := hQ109
    have N109 := Fr.app N96 N109q
    have f114 : Arw Z h105 b8 k8 .char 6 (own_upd (own_upd (own_upd (own_upd (own_upd (own_upd (fun _ => (.int 0)) 0 (.int (nar .char t0))) 1 (.int (nar .char t1))) 2 (.int (nar .char t2))) 3 (.int (nar .char t3))) 4 (.int (nar .char t4))) 5 (.int (nar .char t5))) := (f98.ext E105)
    have ne115 : b8 ≠ sb109 := Nat.ne_of_lt (Nat.lt_of_lt_of_le f114.lt uz109)
    have ne116 : b70 ≠ sb109 := Nat.ne_of_lt (Nat.lt_of_lt_of_le f110.lt uz109)
    have ne117 : b105 ≠ sb109 := Nat.ne_of_lt (Nat.lt_of_lt_of_le A105.lt uz109)
    have sz_sb109 : h0.size ≤ sb109 := Nat.le_trans z113 uz109
    refine Goes.tr st109 ?_
    show Goes p e below _ (T109.setTop (mkF m 338 #[vi x0, vi x1, vi (0 : Int32), vi y0, vi y1, vr b8, vr b70, vi (if t0 = (63 : Int32) then (0 : Int32) else (if t1 = (63 : Int32) then (1 : Int32) else (if t2 = (63 : Int32) then (2 : Int32) else (if t3 = (63 : Int32) then (3 : Int32) else (if t4 = (63 : Int32) then (4 : Int32) else (if t5 = (63 : Int32) then (5 : Int32) else (6 : Int32))))))), .unset] [(.ref b105)]))
    obtain ⟨g, hg⟩ : ∃ g : Nat → Int32, g = fun i => ([(104 : Int32), (116 : Int32), (116 : Int32), (112 : Int32), (58 : Int32), (47 : Int32), (47 : Int32), y0, y1, (47 : Int32), t0, t1, t2, t3, t4, t5] : List Int32).getD i 0 := ⟨_, rfl⟩
    have g_0 : g 0 = (104 : Int32) := by rw [hg]; rfl
    have g_1 : g 1 = (116 : Int32) := by rw [hg]; rfl
    have g_2 : g 2 = (116 : Int32) := by rw [hg]; rfl
    have g_3 : g 3 = (112 : Int32) := by rw [hg]; rfl
    have g_4 : g 4 = (58 : Int32) := by rw [hg]; rfl
    have g_5 : g 5 = (47 : Int32) := by rw [hg]; rfl
    have g_6 : g 6 = (47 : Int32) := by rw [hg]; rfl
    have g_7 : g 7 = y0 := by rw [hg]; rfl
    have g_8 : g 8 = y1 := by rw [hg]; rfl
    have g_9 : g 9 = (47 : Int32) := by rw [hg]; rfl
    have g_10 : g 10 = t0 := by rw [hg]; rfl
    have g_11 : g 11 = t1 := by rw [hg]; rfl
    have g_12 : g 12 = t2 := by rw [hg]; rfl
    have g_13 : g 13 = t3 := by rw [hg]; rfl
    have g_14 : g 14 = t4 := by rw [hg]; rfl
    have g_15 : g 15 = t5 := by rw [hg]; rfl
    have Vg : Arw Z T109.heap sb109 kb109 .byte 16 (fun i => .int (g i)) := Arw.ofArv uA109 (by decide) (by intro i hi; rw [hbs109]; match i, hi with | 0, _ => exact (congrArg Value.int (show (104 : Int32).toInt8.toInt32 = (104 : Int32) from by decide)).trans (congrArg Value.int g_0.symm) | 1, _ => exact (congrArg Value.int (show (116 : Int32).toInt8.toInt32 = (116 : Int32) from by decide)).trans (congrArg Value.int g_1.symm) | 2, _ => exact (congrArg Value.int (show (116 : Int32).toInt8.toInt32 = (116 : Int32) from by decide)).trans (congrArg Value.int g_2.symm) | 3, _ => exact (congrArg Value.int (show (112 : Int32).toInt8.toInt32 = (112 : Int32) from by decide)).trans (congrArg Value.int g_3.symm) | 4, _ => exact (congrArg Value.int (show (58 : Int32).toInt8.toInt32 = (58 : Int32) from by decide)).trans (congrArg Value.int g_4.symm) | 5, _ => exact (congrArg Value.int (show (47 : Int32).toInt8.toInt32 = (47 : Int32) from by decide)).trans (congrArg Value.int g_5.symm) | 6, _ => exact (congrArg Value.int (show (47 : Int32).toInt8.toInt32 = (47 : Int32) from by decide)).trans (congrArg Value.int g_6.symm) | 7, _ => exact (congrArg Value.int (show y0.toInt8.toInt32 = y0 from c_y0.1.2.1)).trans (congrArg Value.int g_7.symm) | 8, _ => exact (congrArg Value.int (show y1.toInt8.toInt32 = y1 from c_y1.1.2.1)).trans (congrArg Value.int g_8.symm) | 9, _ => exact (congrArg Value.int (show (47 : Int32).toInt8.toInt32 = (47 : Int32) from by decide)).trans (congrArg Value.int g_9.symm) | 10, _ => exact (congrArg Value.int (show t0.toInt8.toInt32 = t0 from c_t0.2.1)).trans (congrArg Value.int g_10.symm) | 11, _ => exact (congrArg Value.int (show t1.toInt8.toInt32 = t1 from c_t1.2.1)).trans (congrArg Value.int g_11.symm) | 12, _ => exact (congrArg Value.int (show t2.toInt8.toInt32 = t2 from c_t2.2.1)).trans (congrArg Value.int g_12.symm) | 13, _ => exact (congrArg Value.int (show t3.toInt8.toInt32 = t3 from c_t3.2.1)).trans (congrArg Value.int g_13.symm) | 14, _ => exact (congrArg Value.int (show t4.toInt8.toInt32 = t4 from c_t4.2.1)).trans (congrArg Value.int g_14.symm) | 15, _ => exact (congrArg Value.int (show t5.toInt8.toInt32 = t5 from c_t5.2.1)).trans (congrArg Value.int g_15.symm) | n + 16, h => exact absurd h (by omega))
    obtain ⟨M, hk, hk1, hM0, hM16, hqM, hR⟩ := own_pm0 g_9 g_10 g_11 g_12 g_13 g_14 g_15
    generalize (if t0 = (63 : Int32) then (0 : Int32) else (if t1 = (63 : Int32) then (1 : Int32) else (if t2 = (63 : Int32) then (2 : Int32) else (if t3 = (63 : Int32) then (3 : Int32) else (if t4 = (63 : Int32) then (4 : Int32) else (if t5 = (63 : Int32) then (5 : Int32) else (6 : Int32))))))) = kv at *
    show Goes p e below _ (T109.setTop (mkF m 338 #[vi x0, vi x1, vi (0 : Int32), vi y0, vi y1, vr b8, vr b70, vi kv, .unset] [(.ref b105)]))
    have K118 : Keep h0 T109.heap [] := (K111.trans K109 (allS (Or.inr sz_b105) all0))
    have f119 : Sta Z T109.heap "java/lang/String" "COMPACT_STRINGS" "Z" (.int cS) := own_sta_keep OS K118
    have f120 : Sta Z T109.heap "jdk/internal/util/Preconditions" "SIOOBE_FORMATTER" "Ljava/util/function/BiFunction;" fo := own_sta_keep OF K118
    have ol121 : Old Z n0 (T109.heap) := (((((((((((((((((((((ol63.keep K64 all0).wr W69 gn_b8).ext E70).wr W73 gn_b70).wr W74 gn_b70).wr W75 gn_b70).wr W76 gn_b70).wr W78 gn_b70).wr W79 gn_b70).wr W80 gn_b70).wr W81 gn_b70).wr W82 gn_b70).wr W83 gn_b70).wr W85 gn_b70).wr W87 gn_b70).wr W89 gn_b70).wr W91 gn_b70).wr W93 gn_b70).wr W96 gn_b70).ext E105).keep K109 (allS gn_b105 all0))
    have z123 : h0.size ≤ (T109.heap).size := (Nat.le_trans z113 K109.1)
    have Ks124 : KS Z own_KL T64.vm (T109.heap) := (((((Ks64.wr W69 (NoS.arr f68 (own_w hw 6 rfl) (by intro q; cases q))).ext E70).keep (((((((((((((((((Keep.refl _ [b70]).wr W73 (Or.inl (List.mem_of_getElem? (i := 0) rfl))).wr W74 (Or.inl (List.mem_of_getElem? (i := 0) rfl))).wr W75 (Or.inl (List.mem_of_getElem? (i := 0) rfl))).wr W76 (Or.inl (List.mem_of_getElem? (i := 0) rfl))).wr W78 (Or.inl (List.mem_of_getElem? (i := 0) rfl))).wr W79 (Or.inl (List.mem_of_getElem? (i := 0) rfl))).wr W80 (Or.inl (List.mem_of_getElem? (i := 0) rfl))).wr W81 (Or.inl (List.mem_of_getElem? (i := 0) rfl))).wr W82 (Or.inl (List.mem_of_getElem? (i := 0) rfl))).wr W83 (Or.inl (List.mem_of_getElem? (i := 0) rfl))).wr W85 (Or.inl (List.mem_of_getElem? (i := 0) rfl))).wr W87 (Or.inl (List.mem_of_getElem? (i := 0) rfl))).wr W89 (Or.inl (List.mem_of_getElem? (i := 0) rfl))).wr W91 (Or.inl (List.mem_of_getElem? (i := 0) rfl))).wr W93 (Or.inl (List.mem_of_getElem? (i := 0) rfl))).wr W96 (Or.inl (List.mem_of_getElem? (i := 0) rfl))) (allS (NoS.arr A70 (own_w hw 6 rfl) (by intro q; cases q)) all0)).ext E105).keep K109 (allS (NoS.str A105 (own_w hw 6 rfl) F_value_b105) all0))
    have sk125 : _ ≤ (T109.heap).size := (Nat.le_trans (Nat.le_trans (Nat.le_trans (Nat.le_trans (Nat.le_trans (Nat.le_trans (Nat.le_trans (Nat.le_trans (Nat.le_trans (Nat.le_trans (Nat.le_trans (Nat.le_trans (Nat.le_trans (Nat.le_trans (Nat.le_trans (Nat.le_trans (Nat.le_trans (Nat.le_trans (Nat.le_trans (Nat.le_trans (Nat.le_refl _) (Nat.le_of_eq W69.size.symm)) E70.1) (Nat.le_of_eq W73.size.symm)) (Nat.le_of_eq W74.size.symm)) (Nat.le_of_eq W75.size.symm)) (Nat.le_of_eq W76.size.symm)) (Nat.le_of_eq W78.size.symm)) (Nat.le_of_eq W79.size.symm)) (Nat.le_of_eq W80.size.symm)) (Nat.le_of_eq W81.size.symm)) (Nat.le_of_eq W82.size.symm)) (Nat.le_of_eq W83.size.symm)) (Nat.le_of_eq W85.size.symm)) (Nat.le_of_eq W87.size.symm)) (Nat.le_of_eq W89.size.symm)) (Nat.le_of_eq W91.size.symm)) (Nat.le_of_eq W93.size.symm)) (Nat.le_of_eq W96.size.symm)) E105.1) K109.1)
    obtain ⟨_, _, ⟨T122, L122, k122, n122⟩, -, ⟨X122, Si122⟩, ⟨Lc122, ⟨hQ122, tK122, hK122, hKv122, hKh122⟩, l122, y122, z122⟩, st122⟩ := own_callSW X109 hx (y := (⟨"com/example/lincra/lincra/UrlNormalizer", "path", "(Ljava/lang/String;)Ljava/lang/String;"⟩ : MethodName)) hown (mvT hZ (own_w hw 63 rfl)) (mvT hZ (own_w hw 64 rfl)) (mvT hZ (own_w hw 65 rfl)) (mvT hZ (own_w hw 66 rfl)) (by decide) (own_backOfW (W := 0) (K := (fun U_ => KS Z own_KL U_.vm U_.heap)) (KP := (fun U_ => KS Z own_KL U_.vm U_.heap)) (rmPath4 l Z a0 hw [] b105 cS fo sb109 kb109 g M T109.heap n0 (Nat.le_trans Z0 z123) uE109 uC109 uV109 Vg f119 H_cs f120 Hfo ol121 HW HC0 HC1 HC2 (by rw [g_0]; decide) (by rw [g_1]; decide) (by rw [g_2]; decide) (by rw [g_3]; decide) g_4 g_5 g_6 (own_ps0 (by rw [g_7]; exact c_y0.2) (by rw [g_8]; exact c_y1.2) g_9) hR hqM hM0 hM16) hZ (own_w hw 66 rfl) (own_w hw 65 rfl) (by decide) (by decide) (fun V_ hV hVh => by show KS Z own_KL V_.vm V_.heap; rw [hVh]; exact Ks124.at_ (s := s) hV)) (g := (mkF m 338 #[vi x0, vi x1, vi (0 : Int32), vi y0, vi y1, vr b8, vr b70, vi kv, .unset] [(.ref b105)])) rfl (by rw [hml]; rfl) (argsL := [(.ref b105)]) (rest := []) (lenOf pd_21 rfl) rfl (by show 2 * 0 + _ ≤ _; exact Nat.le_of_eq rfl) (hb hby at_338) (fun _ _ => ⟨rfl, rfl, (by decide : 20 + 4 ≤ _), (by decide : 330 + 36 ≤ _)⟩)
    dsimp only [Pt.U, Pt.locs, Pt.cells, Pt.slots] at X122 l122 y122 z122 st122 hQ122 Si122 hKv122 hKh122
    replace l122 := l122.symm
    subst l122 y122 z122
    obtain ⟨r_122, nb122, kb122, rfl, N122q, K122, u122_0, u122_1, u122_2, u122_3, u122_4⟩ := hQ122
    have N122 := Fr.app N109 N122q
    refine Goes.via st122 ?_
    obtain ⟨X122', SI122, hZ, hown⟩ := rebS SI64 sk125 X122 Si122 K122.1 hZ hown
    have Ks122 : KS Z own_KL T122.vm T122.heap := by rw [← hKv122, ← hKh122]; exact hK122
    have f126 : Arw Z T109.heap b8 k8 .char 6 (own_upd (own_upd (own_upd (own_upd (own_upd (own_upd (fun _ => (.int 0)) 0 (.int (nar .char t0))) 1 (.int (nar .char t1))) 2 (.int (nar .char t2))) 3 (.int (nar .char t3))) 4 (.int (nar .char t4))) 5 (.int (nar .char t5))) := (f114.keep K109 (ninS ne106 nin0))
    have ne127 : b8 ≠ r_122 := Nat.ne_of_lt (Nat.lt_of_lt_of_le f126.lt u122_0)
    have f128 : Arw Z T109.heap b70 k70 .char 16 (own_upd (own_upd (own_upd (own_upd (own_upd (own_upd (own_upd (own_upd (own_upd (own_upd (own_upd (own_upd (own_upd (own_upd (own_upd (own_upd (fun _ => (.int 0)) 0 (.int (nar .char (104 : Int32)))) 1 (.int (nar .char (116 : Int32)))) 2 (.int (nar .char (116 : Int32)))) 3 (.int (nar .char (112 : Int32)))) 4 (.int (nar .char (58 : Int32)))) 5 (.int (nar .char (47 : Int32)))) 6 (.int (nar .char (47 : Int32)))) 7 (.int (nar .char y0))) 8 (.int (nar .char y1))) 9 (.int (nar .char (47 : Int32)))) 10 (.int (nar .char t0))) 11 (.int (nar .char t1))) 12 (.int (nar .char t2))) 13 (.int (nar .char t3))) 14 (.int (nar .char t4))) 15 (.int (nar .char t5))) := (f110.keep K109 (ninS ne107 nin0))
    have ne129 : b70 ≠ r_122 := Nat.ne_of_lt (Nat.lt_of_lt_of_le f128.lt u122_0)
    have ne130 : b105 ≠ r_122 := Nat.ne_of_lt (Nat.lt_of_lt_of_le uE109.lt u122_0)
    have ne131 : sb109 ≠ r_122 := Nat.ne_of_lt (Nat.lt_of_lt_of_le uA109.lt u122_0)
    have sz_r_122 : h0.size ≤ r_122 := Nat.le_trans z123 u122_0
    have gn_r_122 : n0 ≤ r_122 := Nat.le_trans Z0 sz_r_122
    -- u122_0 : h0.size ≤ r_122
    have ne132 : r_122 ≠ nb122 := own_ne_arr u122_1 (own_w hw 6 rfl) u122_4
    show Goes p e below _ (T122.setTop (mkF m 341 #[vi x0, vi x1, vi (0 : Int32), vi y0, vi y1, vr b8, vr b70, vi kv, .unset] [(.ref r_122)]))
    refine Goes.via (fun _ kk_ => XS.astore X122'.here hx rfl (hb hby at_341) rfl rfl (l' := #[vi x0, vi x1, vi (0 : Int32), vi y0, vi y1, vr b8, vr b70, vi kv, vr r_122]) rfl kk_) ?_
    show Goes p e below _ (T122.setTop (mkF m 343 #[vi x0, vi x1, vi (0 : Int32), vi y0, vi y1, vr b8, vr b70, vi kv, vr r_122] []))
    refine gAL X122' hx hby at_343 rfl rfl ?_
    have K133 : Keep h0 T122.heap [] := (K118.trans K122 all0)
    have f134 : Sta Z T122.heap "java/lang/String" "COMPACT_STRINGS" "Z" (.int cS) := own_sta_keep OS K133
    have z136 : h0.size ≤ (T122.heap).size := (Nat.le_trans z123 K122.1)
    obtain ⟨cq135, kq135, q135a, q135b, q135c⟩ := isOf hZ rfl u122_1
    obtain ⟨_, _, ⟨T135, L135, k135, n135⟩, -, X135, ⟨Lc135, hQ135, l135, y135, z135⟩, st135⟩ := X122'.virtualBack hx (y := (⟨"java/lang/String", "length", "()I"⟩ : MethodName)) (z := (⟨"java/lang/String", "length", "()I"⟩ : MethodName)) hown (mvT hZ (own_w hw 148 rfl)) (mvT hZ (own_w hw 90 rfl)) (notFace_of_selects (args := #[]) (mvT hZ (own_w hw 92 rfl))) (mvT hZ (own_w hw 92 rfl)) (mvT hZ (own_w hw 91 rfl)) (by decide) (backOf (W := 0) (rm20 l Z a0 hw [] r_122 (kv + (1 : Int32)) cS nb122 kb122 M (fun i => g (9 + i)) T122.heap n0 (Nat.le_trans Z0 z136) u122_1 u122_2 u122_3 u122_4 f134 H_cs hk1) hZ (own_w hw 93 rfl) (own_w hw 5 rfl) (by decide) (by decide)) q135a q135c (g := (mkF m 345 #[vi x0, vi x1, vi (0 : Int32), vi y0, vi y1, vr b8, vr b70, vi kv, vr r_122] [(.ref r_122)])) rfl (by rw [hml]; rfl) (Steps.refl _) (argsL := []) (rest := []) (lenOf pd_8 rfl) rfl (by show 2 * 0 + _ ≤ _; exact Nat.le_of_eq rfl) (hb hby at_345) (fun _ _ => ⟨rfl, rfl, (by decide : 24 + 0 ≤ _), (by decide : 366 + 0 ≤ _)⟩)
    dsimp only [Pt.U, Pt.locs, Pt.cells, Pt.slots] at X135 l135 y135 z135 st135 hQ135
    replace l135 := l135.symm
    subst l135 y135 z135
    obtain ⟨rfl, rfl, e135⟩ := hQ135
    first | rw [List.append_nil] at X135 | skip
    refine Goes.tr st135 ?_
    have e135' : T135.heap = T122.heap := e135
    show Goes p e below _ (T135.setTop (mkF m 348 #[vi x0, vi x1, vi (0 : Int32), vi y0, vi y1, vr b8, vr b70, vi kv, vr r_122] [(.int (kv + (1 : Int32)))]))
    refine gIL X135 hx hby at_348 rfl ?_
    refine gIC (z := 1) X135 hx hby at_350 rfl ?_
    refine Goes.via (fun _ kk_ => XS.iadd X135.here hx rfl (hb hby at_351) rfl kk_) ?_
    show Goes p e below _ (T135.setTop (mkF m 352 #[vi x0, vi x1, vi (0 : Int32), vi y0, vi y1, vr b8, vr b70, vi kv, vr r_122] [(.int (kv + (1 : Int32))), (.int (kv + (1 : Int32)))]))
    have hc352_137 : (kv + (1 : Int32)) = (kv + (1 : Int32)) := rfl
    refine Goes.via (fun _ kk_ => XS.icmpYes X135.here hx rfl (pc0 := 352) (pc' := 357) rfl (hb hby at_352) rfl (teq hc352_137).1 (by decide) (by decide) kk_) ?_
    show Goes p e below _ (T135.setTop (mkF m 357 #[vi x0, vi x1, vi (0 : Int32), vi y0, vi y1, vr b8, vr b70, vi kv, vr r_122] []))
    refine gAL X135 hx hby at_357 rfl rfl ?_
    refine gIC (z := 0) X135 hx hby at_359 rfl ?_
    have f138 : Sta Z T122.heap "jdk/internal/util/Preconditions" "SIOOBE_FORMATTER" "Ljava/util/function/BiFunction;" fo := own_sta_keep OF K133
    obtain ⟨cq139, kq139, q139a, q139b, q139c⟩ := isOf hZ e135' u122_1
    obtain ⟨_, _, ⟨T139, L139, k139, n139⟩, -, X139, ⟨Lc139, hQ139, l139, y139, z139⟩, st139⟩ := X135.virtualBack hx (y := (⟨"java/lang/String", "charAt", "(I)C"⟩ : MethodName)) (z := (⟨"java/lang/String", "charAt", "(I)C"⟩ : MethodName)) hown (mvT hZ (own_w hw 12 rfl)) (mvT hZ (own_w hw 13 rfl)) (notFace_of_selects (args := #[]) (mvT hZ (own_w hw 15 rfl))) (mvT hZ (own_w hw 15 rfl)) (mvT hZ (own_w hw 14 rfl)) (by decide) (backOf (W := 0) (rm2 l Z a0 hw [] r_122 (0 : Int32) cS nb122 kb122 M (fun i => g (9 + i)) (kv + (1 : Int32)) 0 fo T122.heap n0 (Nat.le_trans Z0 z136) u122_1 u122_2 u122_3 u122_4 f134 H_cs (by decide) hM0 hk1 f138 Hfo) hZ (own_w hw 16 rfl) (own_w hw 5 rfl) (by decide) (by decide)) q139a q139c (g := (mkF m 360 #[vi x0, vi x1, vi (0 : Int32), vi y0, vi y1, vr b8, vr b70, vi kv, vr r_122] [(.int (0 : Int32)), (.ref r_122)])) rfl (by rw [hml]; rfl) (Steps.refl _) (argsL := [(.int (0 : Int32))]) (rest := []) (lenOf pd_17 rfl) rfl (by show 2 * 0 + _ ≤ _; exact Nat.le_of_eq rfl) (hb hby at_360) (fun _ _ => ⟨rfl, e135', (by decide : 24 + 0 ≤ _), (by decide : 366 + 0 ≤ _)⟩)
    dsimp only [Pt.U, Pt.locs, Pt.cells, Pt.slots] at X139 l139 y139 z139 st139 hQ139
    replace l139 := l139.symm
    subst l139 y139 z139
    obtain ⟨rfl, rfl, e139⟩ := hQ139
    first | rw [List.append_nil] at X139 | skip
    refine Goes.tr st139 ?_
    have e139' : T139.heap = T122.heap := e139
    show Goes p e below _ (T139.setTop (mkF m 363 #[vi x0, vi x1, vi (0 : Int32), vi y0, vi y1, vr b8, vr b70, vi kv, vr r_122] [(.int ((fun i => g (9 + i)) 0 &&& (255 : Int32)))]))
    refine gBI (z := 47) X139 hx hby at_363 rfl ?_
    have hc365_140 : ((fun i => g (9 + i)) 0 &&& (255 : Int32)) = (47 : Int32) := (show g 9 &&& (255 : Int32) = (47 : Int32) from by rw [g_9]; decide)
    refine Goes.via (fun _ kk_ => XS.icmpNo X139.here hx rfl (hb hby at_365) rfl (teq hc365_140).2 kk_) ?_
    show Goes p e below _ (T139.setTop (mkF m 368 #[vi x0, vi x1, vi (0 : Int32), vi y0, vi y1, vr b8, vr b70, vi kv, vr r_122] []))
    refine gIL X139 hx hby at_368 rfl ?_
    refine gIC (z := 1) X139 hx hby at_370 rfl ?_
    by_cases hc371 : kv < (1 : Int32)
    · skip
      refine Goes.via (fun _ kk_ => XS.icmpYes X139.here hx rfl (pc0 := 371) (pc' := 387) rfl (hb hby at_371) rfl (tlt hc371).1 (by decide) (by decide) kk_) ?_
      show Goes p e below _ (T139.setTop (mkF m 387 #[vi x0, vi x1, vi (0 : Int32), vi y0, vi y1, vr b8, vr b70, vi kv, vr r_122] []))
      refine gIL X139 hx hby at_387 rfl ?_
      refine gIC (z := 2) X139 hx hby at_389 rfl ?_
      have hc390_141 : kv < (2 : Int32) := (own_ltt hc371 (by decide))
      refine Goes.via (fun _ kk_ => XS.icmpYes X139.here hx rfl (pc0 := 390) (pc' := 406) rfl (hb hby at_390) rfl (tlt hc390_141).1 (by decide) (by decide) kk_) ?_
      show Goes p e below _ (T139.setTop (mkF m 406 #[vi x0, vi x1, vi (0 : Int32), vi y0, vi y1, vr b8, vr b70, vi kv, vr r_122] []))
      refine gIL X139 hx hby at_406 rfl ?_
      refine gIC (z := 3) X139 hx hby at_408 rfl ?_
      have hc409_142 : kv < (3 : Int32) := (own_ltt hc371 (by decide))
      refine Goes.via (fun _ kk_ => XS.icmpYes X139.here hx rfl (pc0 := 409) (pc' := 425) rfl (hb hby at_409) rfl (tlt hc409_142).1 (by decide) (by decide) kk_) ?_
      show Goes p e below _ (T139.setTop (mkF m 425 #[vi x0, vi x1, vi (0 : Int32), vi y0, vi y1, vr b8, vr b70, vi kv, vr r_122] []))
      refine gIL X139 hx hby at_425 rfl ?_
      refine gIC (z := 4) X139 hx hby at_427 rfl ?_
      have hc428_143 : kv < (4 : Int32) := (own_ltt hc371 (by decide))
      refine Goes.via (fun _ kk_ => XS.icmpYes X139.here hx rfl (pc0 := 428) (pc' := 444) rfl (hb hby at_428) rfl (tlt hc428_143).1 (by decide) (by decide) kk_) ?_
      show Goes p e below _ (T139.setTop (mkF m 444 #[vi x0, vi x1, vi (0 : Int32), vi y0, vi y1, vr b8, vr b70, vi kv, vr r_122] []))
      refine gIL X139 hx hby at_444 rfl ?_
      refine gIC (z := 5) X139 hx hby at_446 rfl ?_
      have hc447_144 : kv < (5 : Int32) := (own_ltt hc371 (by decide))
      refine Goes.via (fun _ kk_ => XS.icmpYes X139.here hx rfl (pc0 := 447) (pc' := 463) rfl (hb hby at_447) rfl (tlt hc447_144).1 (by decide) (by decide) kk_) ?_
      show Goes p e below _ (T139.setTop (mkF m 463 #[vi x0, vi x1, vi (0 : Int32), vi y0, vi y1, vr b8, vr b70, vi kv, vr r_122] []))
      refine gIL X139 hx hby at_463 rfl ?_
      refine gBI (z := 6) X139 hx hby at_465 rfl ?_
      have hc467_145 : kv < (6 : Int32) := (own_ltt hc371 (by decide))
      refine Goes.via (fun _ kk_ => XS.icmpYes X139.here hx rfl (pc0 := 467) (pc' := 484) rfl (hb hby at_467) rfl (tlt hc467_145).1 (by decide) (by decide) kk_) ?_
      show Goes p e below _ (T139.setTop (mkF m 484 #[vi x0, vi x1, vi (0 : Int32), vi y0, vi y1, vr b8, vr b70, vi kv, vr r_122] []))
      refine gIC (z := 1) X139 hx hby at_484 rfl ?_
      refine Goes.via (fun _ kk_ => XS.goto X139.here hx rfl (pc0 := 485) (pc' := 489) rfl (hb hby at_485) (by decide) (by decide) kk_) ?_
      show Goes p e below _ (T139.setTop (mkF m 489 #[vi x0, vi x1, vi (0 : Int32), vi y0, vi y1, vr b8, vr b70, vi kv, vr r_122] [(.int (1 : Int32))]))
      have hKe : KS Z own_KL T139.vm T139.heap := by rw [e139']; exact Ks122.at_ (s := s) X139.warmed
      exact own_wfinN X139 SI122 (by rw [e139']; exact (Nat.le_refl _)) (fun U_ hv hh_ => by show KS Z own_KL U_.vm U_.heap; rw [hv, hh_]; exact hKe) hx hlk hret (by simp) (hb hby at_489) (by rw [e139']; exact ⟨rfl, N122, K133⟩) (by first | decide | omega | (dsimp only; omega)) (by first | decide | omega | (dsimp only; omega))
    · skip
      refine Goes.via (fun _ kk_ => XS.icmpNo X139.here hx rfl (hb hby at_371) rfl (flt hc371).1 kk_) ?_
      show Goes p e below _ (T139.setTop (mkF m 374 #[vi x0, vi x1, vi (0 : Int32), vi y0, vi y1, vr b8, vr b70, vi kv, vr r_122] []))
      refine gAL X139 hx hby at_374 rfl rfl ?_
      refine gIC (z := 1) X139 hx hby at_376 rfl ?_
      obtain ⟨cq146, kq146, q146a, q146b, q146c⟩ := isOf hZ e139' u122_1
      obtain ⟨_, _, ⟨T146, L146, k146, n146⟩, -, X146, ⟨Lc146, hQ146, l146, y146, z146⟩, st146⟩ := X139.virtualBack hx (y := (⟨"java/lang/String", "charAt", "(I)C"⟩ : MethodName)) (z := (⟨"java/lang/String", "charAt", "(I)C"⟩ : MethodName)) hown (mvT hZ (own_w hw 12 rfl)) (mvT hZ (own_w hw 13 rfl)) (notFace_of_selects (args := #[]) (mvT hZ (own_w hw 15 rfl))) (mvT hZ (own_w hw 15 rfl)) (mvT hZ (own_w hw 14 rfl)) (by decide) (backOf (W := 0) (rm2 l Z a0 hw [] r_122 (1 : Int32) cS nb122 kb122 M (fun i => g (9 + i)) (kv + (1 : Int32)) 1 fo T122.heap n0 (Nat.le_trans Z0 z136) u122_1 u122_2 u122_3 u122_4 f134 H_cs (by decide) (by have q : ¬ _ := fun q => hc371 (own_lti.mpr q); have q1 : (1 : Int32).toInt = 1 := (by decide); omega) hk1 f138 Hfo) hZ (own_w hw 16 rfl) (own_w hw 5 rfl) (by decide) (by decide)) q146a q146c (g := (mkF m 377 #[vi x0, vi x1, vi (0 : Int32), vi y0, vi y1, vr b8, vr b70, vi kv, vr r_122] [(.int (1 : Int32)), (.ref r_122)])) rfl (by rw [hml]; rfl) (Steps.refl _) (argsL := [(.int (1 : Int32))]) (rest := []) (lenOf pd_17 rfl) rfl (by show 2 * 0 + _ ≤ _; exact Nat.le_of_eq rfl) (hb hby at_377) (fun _ _ => ⟨rfl, e139', (by decide : 24 + 0 ≤ _), (by decide : 366 + 0 ≤ _)⟩)
      dsimp only [Pt.U, Pt.locs, Pt.cells, Pt.slots] at X146 l146 y146 z146 st146 hQ146
      replace l146 := l146.symm
      subst l146 y146 z146
      obtain ⟨rfl, rfl, e146⟩ := hQ146
      first | rw [List.append_nil] at X146 | skip
      refine Goes.tr st146 ?_
      have e146' : T146.heap = T122.heap := e146
      show Goes p e below _ (T146.setTop (mkF m 380 #[vi x0, vi x1, vi (0 : Int32), vi y0, vi y1, vr b8, vr b70, vi kv, vr r_122] [(.int ((fun i => g (9 + i)) 1 &&& (255 : Int32)))]))
      refine gAL X146 hx hby at_380 rfl rfl ?_
      refine gIC (z := 0) X146 hx hby at_382 rfl ?_
      have f147 : Arw Z T122.heap b8 k8 .char 6 (own_upd (own_upd (own_upd (own_upd (own_upd (own_upd (fun _ => (.int 0)) 0 (.int (nar .char t0))) 1 (.int (nar .char t1))) 2 (.int (nar .char t2))) 3 (.int (nar .char t3))) 4 (.int (nar .char t4))) 5 (.int (nar .char t5))) := (f126.keep K122 nin0)
      refine Goes.via (own_caload X146 hx hZ e146' f147 (j := (0 : Int32)) (i := 0) (by decide) (by decide) (by decide) (v := t0) (Eq.trans rfl (congrArg Value.int c_t0.1)) (g := (mkF m 383 #[vi x0, vi x1, vi (0 : Int32), vi y0, vi y1, vr b8, vr b70, vi kv, vr r_122] [(.int (0 : Int32)), (.ref b8), (.int ((fun i => g (9 + i)) 1 &&& (255 : Int32)))])) rfl rfl (hb hby at_383)) ?_
      show Goes p e below _ (T146.setTop (mkF m 384 #[vi x0, vi x1, vi (0 : Int32), vi y0, vi y1, vr b8, vr b70, vi kv, vr r_122] [(.int t0), (.int ((fun i => g (9 + i)) 1 &&& (255 : Int32)))]))
      have hc384_148 : ((fun i => g (9 + i)) 1 &&& (255 : Int32)) = t0 := (show g 10 &&& (255 : Int32) = t0 from by rw [g_10]; exact c_t0.2.2.1)
      refine Goes.via (fun _ kk_ => XS.icmpNo X146.here hx rfl (hb hby at_384) rfl (teq hc384_148).2 kk_) ?_
      show Goes p e below _ (T146.setTop (mkF m 387 #[vi x0, vi x1, vi (0 : Int32), vi y0, vi y1, vr b8, vr b70, vi kv, vr r_122] []))
      refine gIL X146 hx hby at_387 rfl ?_
      refine gIC (z := 2) X146 hx hby at_389 rfl ?_
      by_cases hc390 : kv < (2 : Int32)
      · skip
        refine Goes.via (fun _ kk_ => XS.icmpYes X146.here hx rfl (pc0 := 390) (pc' := 406) rfl (hb hby at_390) rfl (tlt hc390).1 (by decide) (by decide) kk_) ?_
        show Goes p e below _ (T146.setTop (mkF m 406 #[vi x0, vi x1, vi (0 : Int32), vi y0, vi y1, vr b8, vr b70, vi kv, vr r_122] []))
        refine gIL X146 hx hby at_406 rfl ?_
        refine gIC (z := 3) X146 hx hby at_408 rfl ?_
        have hc409_149 : kv < (3 : Int32) := (own_ltt hc390 (by decide))
        refine Goes.via (fun _ kk_ => XS.icmpYes X146.here hx rfl (pc0 := 409) (pc' := 425) rfl (hb hby at_409) rfl (tlt hc409_149).1 (by decide) (by decide) kk_) ?_
        show Goes p e below _ (T146.setTop (mkF m 425 #[vi x0, vi x1, vi (0 : Int32), vi y0, vi y1, vr b8, vr b70, vi kv, vr r_122] []))
        refine gIL X146 hx hby at_425 rfl ?_
        refine gIC (z := 4) X146 hx hby at_427 rfl ?_
        have hc428_150 : kv < (4 : Int32) := (own_ltt hc390 (by decide))
        refine Goes.via (fun _ kk_ => XS.icmpYes X146.here hx rfl (pc0 := 428) (pc' := 444) rfl (hb hby at_428) rfl (tlt hc428_150).1 (by decide) (by decide) kk_) ?_
        show Goes p e below _ (T146.setTop (mkF m 444 #[vi x0, vi x1, vi (0 : Int32), vi y0, vi y1, vr b8, vr b70, vi kv, vr r_122] []))
        refine gIL X146 hx hby at_444 rfl ?_
        refine gIC (z := 5) X146 hx hby at_446 rfl ?_
        have hc447_151 : kv < (5 : Int32) := (own_ltt hc390 (by decide))
        refine Goes.via (fun _ kk_ => XS.icmpYes X146.here hx rfl (pc0 := 447) (pc' := 463) rfl (hb hby at_447) rfl (tlt hc447_151).1 (by decide) (by decide) kk_) ?_
        show Goes p e below _ (T146.setTop (mkF m 463 #[vi x0, vi x1, vi (0 : Int32), vi y0, vi y1, vr b8, vr b70, vi kv, vr r_122] []))
        refine gIL X146 hx hby at_463 rfl ?_
        refine gBI (z := 6) X146 hx hby at_465 rfl ?_
        have hc467_152 : kv < (6 : Int32) := (own_ltt hc390 (by decide))
        refine Goes.via (fun _ kk_ => XS.icmpYes X146.here hx rfl (pc0 := 467) (pc' := 484) rfl (hb hby at_467) rfl (tlt hc467_152).1 (by decide) (by decide) kk_) ?_
        show Goes p e below _ (T146.setTop (mkF m 484 #[vi x0, vi x1, vi (0 : Int32), vi y0, vi y1, vr b8, vr b70, vi kv, vr r_122] []))
        refine gIC (z := 1) X146 hx hby at_484 rfl ?_
        refine Goes.via (fun _ kk_ => XS.goto X146.here hx rfl (pc0 := 485) (pc' := 489) rfl (hb hby at_485) (by decide) (by decide) kk_) ?_
        show Goes p e below _ (T146.setTop (mkF m 489 #[vi x0, vi x1, vi (0 : Int32), vi y0, vi y1, vr b8, vr b70, vi kv, vr r_122] [(.int (1 : Int32))]))
        have hKe : KS Z own_KL T146.vm T146.heap := by rw [e146']; exact Ks122.at_ (s := s) X146.warmed
        exact own_wfinN X146 SI122 (by rw [e146']; exact (Nat.le_refl _)) (fun U_ hv hh_ => by show KS Z own_KL U_.vm U_.heap; rw [hv, hh_]; exact hKe) hx hlk hret (by simp) (hb hby at_489) (by rw [e146']; exact ⟨rfl, N122, K133⟩) (by first | decide | omega | (dsimp only; omega)) (by first | decide | omega | (dsimp only; omega))
      · skip
        refine Goes.via (fun _ kk_ => XS.icmpNo X146.here hx rfl (hb hby at_390) rfl (flt hc390).1 kk_) ?_
        show Goes p e below _ (T146.setTop (mkF m 393 #[vi x0, vi x1, vi (0 : Int32), vi y0, vi y1, vr b8, vr b70, vi kv, vr r_122] []))
        refine gAL X146 hx hby at_393 rfl rfl ?_
        refine gIC (z := 2) X146 hx hby at_395 rfl ?_
        obtain ⟨cq153, kq153, q153a, q153b, q153c⟩ := isOf hZ e146' u122_1
        obtain ⟨_, _, ⟨T153, L153, k153, n153⟩, -, X153, ⟨Lc153, hQ153, l153, y153, z153⟩, st153⟩ := X146.virtualBack hx (y := (⟨"java/lang/String", "charAt", "(I)C"⟩ : MethodName)) (z := (⟨"java/lang/String", "charAt", "(I)C"⟩ : MethodName)) hown (mvT hZ (own_w hw 12 rfl)) (mvT hZ (own_w hw 13 rfl)) (notFace_of_selects (args := #[]) (mvT hZ (own_w hw 15 rfl))) (mvT hZ (own_w hw 15 rfl)) (mvT hZ (own_w hw 14 rfl)) (by decide) (backOf (W := 0) (rm2 l Z a0 hw [] r_122 (2 : Int32) cS nb122 kb122 M (fun i => g (9 + i)) (kv + (1 : Int32)) 2 fo T122.heap n0 (Nat.le_trans Z0 z136) u122_1 u122_2 u122_3 u122_4 f134 H_cs (by decide) (by have q : ¬ _ := fun q => hc390 (own_lti.mpr q); have q1 : (2 : Int32).toInt = 2 := (by decide); omega) hk1 f138 Hfo) hZ (own_w hw 16 rfl) (own_w hw 5 rfl) (by decide) (by decide)) q153a q153c (g := (mkF m 396 #[vi x0, vi x1, vi (0 : Int32), vi y0, vi y1, vr b8, vr b70, vi kv, vr r_122] [(.int (2 : Int32)), (.ref r_122)])) rfl (by rw [hml]; rfl) (Steps.refl _) (argsL := [(.int (2 : Int32))]) (rest := []) (lenOf pd_17 rfl) rfl (by show 2 * 0 + _ ≤ _; exact Nat.le_of_eq rfl) (hb hby at_396) (fun _ _ => ⟨rfl, e146', (by decide : 24 + 0 ≤ _), (by decide : 366 + 0 ≤ _)⟩)
        dsimp only [Pt.U, Pt.locs, Pt.cells, Pt.slots] at X153 l153 y153 z153 st153 hQ153
        replace l153 := l153.symm
        subst l153 y153 z153
        obtain ⟨rfl, rfl, e153⟩ := hQ153
        first | rw [List.append_nil] at X153 | skip
        refine Goes.tr st153 ?_
        have e153' : T153.heap = T122.heap := e153
        show Goes p e below _ (T153.setTop (mkF m 399 #[vi x0, vi x1, vi (0 : Int32), vi y0, vi y1, vr b8, vr b70, vi kv, vr r_122] [(.int ((fun i => g (9 + i)) 2 &&& (255 : Int32)))]))
        refine gAL X153 hx hby at_399 rfl rfl ?_
        refine gIC (z := 1) X153 hx hby at_401 rfl ?_
        refine Goes.via (own_caload X153 hx hZ e153' f147 (j := (1 : Int32)) (i := 1) (by decide) (by decide) (by decide) (v := t1) (Eq.trans rfl (congrArg Value.int c_t1.1)) (g := (mkF m 402 #[vi x0, vi x1, vi (0 : Int32), vi y0, vi y1, vr b8, vr b70, vi kv, vr r_122] [(.int (1 : Int32)), (.ref b8), (.int ((fun i => g (9 + i)) 2 &&& (255 : Int32)))])) rfl rfl (hb hby at_402)) ?_
        show Goes p e below _ (T153.setTop (mkF m 403 #[vi x0, vi x1, vi (0 : Int32), vi y0, vi y1, vr b8, vr b70, vi kv, vr r_122] [(.int t1), (.int ((fun i => g (9 + i)) 2 &&& (255 : Int32)))]))
        have hc403_154 : ((fun i => g (9 + i)) 2 &&& (255 : Int32)) = t1 := (show g 11 &&& (255 : Int32) = t1 from by rw [g_11]; exact c_t1.2.2.1)
        refine Goes.via (fun _ kk_ => XS.icmpNo X153.here hx rfl (hb hby at_403) rfl (teq hc403_154).2 kk_) ?_
        show Goes p e below _ (T153.setTop (mkF m 406 #[vi x0, vi x1, vi (0 : Int32), vi y0, vi y1, vr b8, vr b70, vi kv, vr r_122] []))
        refine gIL X153 hx hby at_406 rfl ?_
        refine gIC (z := 3) X153 hx hby at_408 rfl ?_
        by_cases hc409 : kv < (3 : Int32)
        · skip
          refine Goes.via (fun _ kk_ => XS.icmpYes X153.here hx rfl (pc0 := 409) (pc' := 425) rfl (hb hby at_409) rfl (tlt hc409).1 (by decide) (by decide) kk_) ?_
          show Goes p e below _ (T153.setTop (mkF m 425 #[vi x0, vi x1, vi (0 : Int32), vi y0, vi y1, vr b8, vr b70, vi kv, vr r_122] []))
          refine gIL X153 hx hby at_425 rfl ?_
          refine gIC (z := 4) X153 hx hby at_427 rfl ?_
          have hc428_155 : kv < (4 : Int32) := (own_ltt hc409 (by decide))
          refine Goes.via (fun _ kk_ => XS.icmpYes X153.here hx rfl (pc0 := 428) (pc' := 444) rfl (hb hby at_428) rfl (tlt hc428_155).1 (by decide) (by decide) kk_) ?_
          show Goes p e below _ (T153.setTop (mkF m 444 #[vi x0, vi x1, vi (0 : Int32), vi y0, vi y1, vr b8, vr b70, vi kv, vr r_122] []))
          refine gIL X153 hx hby at_444 rfl ?_
          refine gIC (z := 5) X153 hx hby at_446 rfl ?_
          have hc447_156 : kv < (5 : Int32) := (own_ltt hc409 (by decide))
          refine Goes.via (fun _ kk_ => XS.icmpYes X153.here hx rfl (pc0 := 447) (pc' := 463) rfl (hb hby at_447) rfl (tlt hc447_156).1 (by decide) (by decide) kk_) ?_
          show Goes p e below _ (T153.setTop (mkF m 463 #[vi x0, vi x1, vi (0 : Int32), vi y0, vi y1, vr b8, vr b70, vi kv, vr r_122] []))
          refine gIL X153 hx hby at_463 rfl ?_
          refine gBI (z := 6) X153 hx hby at_465 rfl ?_
          have hc467_157 : kv < (6 : Int32) := (own_ltt hc409 (by decide))
          refine Goes.via (fun _ kk_ => XS.icmpYes X153.here hx rfl (pc0 := 467) (pc' := 484) rfl (hb hby at_467) rfl (tlt hc467_157).1 (by decide) (by decide) kk_) ?_
          show Goes p e below _ (T153.setTop (mkF m 484 #[vi x0, vi x1, vi (0 : Int32), vi y0, vi y1, vr b8, vr b70, vi kv, vr r_122] []))
          refine gIC (z := 1) X153 hx hby at_484 rfl ?_
          refine Goes.via (fun _ kk_ => XS.goto X153.here hx rfl (pc0 := 485) (pc' := 489) rfl (hb hby at_485) (by decide) (by decide) kk_) ?_
          show Goes p e below _ (T153.setTop (mkF m 489 #[vi x0, vi x1, vi (0 : Int32), vi y0, vi y1, vr b8, vr b70, vi kv, vr r_122] [(.int (1 : Int32))]))
          have hKe : KS Z own_KL T153.vm T153.heap := by rw [e153']; exact Ks122.at_ (s := s) X153.warmed
          exact own_wfinN X153 SI122 (by rw [e153']; exact (Nat.le_refl _)) (fun U_ hv hh_ => by show KS Z own_KL U_.vm U_.heap; rw [hv, hh_]; exact hKe) hx hlk hret (by simp) (hb hby at_489) (by rw [e153']; exact ⟨rfl, N122, K133⟩) (by first | decide | omega | (dsimp only; omega)) (by first | decide | omega | (dsimp only; omega))
        · skip
          refine Goes.via (fun _ kk_ => XS.icmpNo X153.here hx rfl (hb hby at_409) rfl (flt hc409).1 kk_) ?_
          show Goes p e below _ (T153.setTop (mkF m 412 #[vi x0, vi x1, vi (0 : Int32), vi y0, vi y1, vr b8, vr b70, vi kv, vr r_122] []))
          refine gAL X153 hx hby at_412 rfl rfl ?_
          refine gIC (z := 3) X153 hx hby at_414 rfl ?_
          obtain ⟨cq158, kq158, q158a, q158b, q158c⟩ := isOf hZ e153' u122_1
          obtain ⟨_, _, ⟨T158, L158, k158, n158⟩, -, X158, ⟨Lc158, hQ158, l158, y158, z158⟩, st158⟩ := X153.virtualBack hx (y := (⟨"java/lang/String", "charAt", "(I)C"⟩ : MethodName)) (z := (⟨"java/lang/String", "charAt", "(I)C"⟩ : MethodName)) hown (mvT hZ (own_w hw 12 rfl)) (mvT hZ (own_w hw 13 rfl)) (notFace_of_selects (args := #[]) (mvT hZ (own_w hw 15 rfl))) (mvT hZ (own_w hw 15 rfl)) (mvT hZ (own_w hw 14 rfl)) (by decide) (backOf (W := 0) (rm2 l Z a0 hw [] r_122 (3 : Int32) cS nb122 kb122 M (fun i => g (9 + i)) (kv + (1 : Int32)) 3 fo T122.heap n0 (Nat.le_trans Z0 z136) u122_1 u122_2 u122_3 u122_4 f134 H_cs (by decide) (by have q : ¬ _ := fun q => hc409 (own_lti.mpr q); have q1 : (3 : Int32).toInt = 3 := (by decide); omega) hk1 f138 Hfo) hZ (own_w hw 16 rfl) (own_w hw 5 rfl) (by decide) (by decide)) q158a q158c (g := (mkF m 415 #[vi x0, vi x1, vi (0 : Int32), vi y0, vi y1, vr b8, vr b70, vi kv, vr r_122] [(.int (3 : Int32)), (.ref r_122)])) rfl (by rw [hml]; rfl) (Steps.refl _) (argsL := [(.int (3 : Int32))]) (rest := []) (lenOf pd_17 rfl) rfl (by show 2 * 0 + _ ≤ _; exact Nat.le_of_eq rfl) (hb hby at_415) (fun _ _ => ⟨rfl, e153', (by decide : 24 + 0 ≤ _), (by decide : 366 + 0 ≤ _)⟩)
          dsimp only [Pt.U, Pt.locs, Pt.cells, Pt.slots] at X158 l158 y158 z158 st158 hQ158
          replace l158 := l158.symm
          subst l158 y158 z158
          obtain ⟨rfl, rfl, e158⟩ := hQ158
          first | rw [List.append_nil] at X158 | skip
          refine Goes.tr st158 ?_
          have e158' : T158.heap = T122.heap := e158
          show Goes p e below _ (T158.setTop (mkF m 418 #[vi x0, vi x1, vi (0 : Int32), vi y0, vi y1, vr b8, vr b70, vi kv, vr r_122] [(.int ((fun i => g (9 + i)) 3 &&& (255 : Int32)))]))
          refine gAL X158 hx hby at_418 rfl rfl ?_
          refine gIC (z := 2) X158 hx hby at_420 rfl ?_
          refine Goes.via (own_caload X158 hx hZ e158' f147 (j := (2 : Int32)) (i := 2) (by decide) (by decide) (by decide) (v := t2) (Eq.trans rfl (congrArg Value.int c_t2.1)) (g := (mkF m 421 #[vi x0, vi x1, vi (0 : Int32), vi y0, vi y1, vr b8, vr b70, vi kv, vr r_122] [(.int (2 : Int32)), (.ref b8), (.int ((fun i => g (9 + i)) 3 &&& (255 : Int32)))])) rfl rfl (hb hby at_421)) ?_
          show Goes p e below _ (T158.setTop (mkF m 422 #[vi x0, vi x1, vi (0 : Int32), vi y0, vi y1, vr b8, vr b70, vi kv, vr r_122] [(.int t2), (.int ((fun i => g (9 + i)) 3 &&& (255 : Int32)))]))
          have hc422_159 : ((fun i => g (9 + i)) 3 &&& (255 : Int32)) = t2 := (show g 12 &&& (255 : Int32) = t2 from by rw [g_12]; exact c_t2.2.2.1)
          refine Goes.via (fun _ kk_ => XS.icmpNo X158.here hx rfl (hb hby at_422) rfl (teq hc422_159).2 kk_) ?_
          show Goes p e below _ (T158.setTop (mkF m 425 #[vi x0, vi x1, vi (0 : Int32), vi y0, vi y1, vr b8, vr b70, vi kv, vr r_122] []))
          refine gIL X158 hx hby at_425 rfl ?_
          refine gIC (z := 4) X158 hx hby at_427 rfl ?_
          by_cases hc428 : kv < (4 : Int32)
          · skip
            refine Goes.via (fun _ kk_ => XS.icmpYes X158.here hx rfl (pc0 := 428) (pc' := 444) rfl (hb hby at_428) rfl (tlt hc428).1 (by decide) (by decide) kk_) ?_
            show Goes p e below _ (T158.setTop (mkF m 444 #[vi x0, vi x1, vi (0 : Int32), vi y0, vi y1, vr b8, vr b70, vi kv, vr r_122] []))
            refine gIL X158 hx hby at_444 rfl ?_
            refine gIC (z := 5) X158 hx hby at_446 rfl ?_
            have hc447_160 : kv < (5 : Int32) := (own_ltt hc428 (by decide))
            refine Goes.via (fun _ kk_ => XS.icmpYes X158.here hx rfl (pc0 := 447) (pc' := 463) rfl (hb hby at_447) rfl (tlt hc447_160).1 (by decide) (by decide) kk_) ?_
            show Goes p e below _ (T158.setTop (mkF m 463 #[vi x0, vi x1, vi (0 : Int32), vi y0, vi y1, vr b8, vr b70, vi kv, vr r_122] []))
            refine gIL X158 hx hby at_463 rfl ?_
            refine gBI (z := 6) X158 hx hby at_465 rfl ?_
            have hc467_161 : kv < (6 : Int32) := (own_ltt hc428 (by decide))
            refine Goes.via (fun _ kk_ => XS.icmpYes X158.here hx rfl (pc0 := 467) (pc' := 484) rfl (hb hby at_467) rfl (tlt hc467_161).1 (by decide) (by decide) kk_) ?_
            show Goes p e below _ (T158.setTop (mkF m 484 #[vi x0, vi x1, vi (0 : Int32), vi y0, vi y1, vr b8, vr b70, vi kv, vr r_122] []))
            refine gIC (z := 1) X158 hx hby at_484 rfl ?_
            refine Goes.via (fun _ kk_ => XS.goto X158.here hx rfl (pc0 := 485) (pc' := 489) rfl (hb hby at_485) (by decide) (by decide) kk_) ?_
            show Goes p e below _ (T158.setTop (mkF m 489 #[vi x0, vi x1, vi (0 : Int32), vi y0, vi y1, vr b8, vr b70, vi kv, vr r_122] [(.int (1 : Int32))]))
            have hKe : KS Z own_KL T158.vm T158.heap := by rw [e158']; exact Ks122.at_ (s := s) X158.warmed
            exact own_wfinN X158 SI122 (by rw [e158']; exact (Nat.le_refl _)) (fun U_ hv hh_ => by show KS Z own_KL U_.vm U_.heap; rw [hv, hh_]; exact hKe) hx hlk hret (by simp) (hb hby at_489) (by rw [e158']; exact ⟨rfl, N122, K133⟩) (by first | decide | omega | (dsimp only; omega)) (by first | decide | omega | (dsimp only; omega))
          · skip
            refine Goes.via (fun _ kk_ => XS.icmpNo X158.here hx rfl (hb hby at_428) rfl (flt hc428).1 kk_) ?_
            show Goes p e below _ (T158.setTop (mkF m 431 #[vi x0, vi x1, vi (0 : Int32), vi y0, vi y1, vr b8, vr b70, vi kv, vr r_122] []))
            refine gAL X158 hx hby at_431 rfl rfl ?_
            refine gIC (z := 4) X158 hx hby at_433 rfl ?_
            obtain ⟨cq162, kq162, q162a, q162b, q162c⟩ := isOf hZ e158' u122_1
            obtain ⟨_, _, ⟨T162, L162, k162, n162⟩, -, X162, ⟨Lc162, hQ162, l162, y162, z162⟩, st162⟩ := X158.virtualBack hx (y := (⟨"java/lang/String", "charAt", "(I)C"⟩ : MethodName)) (z := (⟨"java/lang/String", "charAt", "(I)C"⟩ : MethodName)) hown (mvT hZ (own_w hw 12 rfl)) (mvT hZ (own_w hw 13 rfl)) (notFace_of_selects (args := #[]) (mvT hZ (own_w hw 15 rfl))) (mvT hZ (own_w hw 15 rfl)) (mvT hZ (own_w hw 14 rfl)) (by decide) (backOf (W := 0) (rm2 l Z a0 hw [] r_122 (4 : Int32) cS nb122 kb122 M (fun i => g (9 + i)) (kv + (1 : Int32)) 4 fo T122.heap n0 (Nat.le_trans Z0 z136) u122_1 u122_2 u122_3 u122_4 f134 H_cs (by decide) (by have q : ¬ _ := fun q => hc428 (own_lti.mpr q); have q1 : (4 : Int32).toInt = 4 := (by decide); omega) hk1 f138 Hfo) hZ (own_w hw 16 rfl) (own_w hw 5 rfl) (by decide) (by decide)) q162a q162c (g := (mkF m 434 #[vi x0, vi x1, vi (0 : Int32), vi y0, vi y1, vr b8, vr b70, vi kv, vr r_122] [(.int (4 : Int32)), (.ref r_122)])) rfl (by rw [hml]; rfl) (Steps.refl _) (argsL := [(.int (4 : Int32))]) (rest := []) (lenOf pd_17 rfl) rfl (by show 2 * 0 + _ ≤ _; exact Nat.le_of_eq rfl) (hb hby at_434) (fun _ _ => ⟨rfl, e158', (by decide : 24 + 0 ≤ _), (by decide : 366 + 0 ≤ _)⟩)
            dsimp only [Pt.U, Pt.locs, Pt.cells, Pt.slots] at X162 l162 y162 z162 st162 hQ162
            replace l162 := l162.symm
            subst l162 y162 z162
            obtain ⟨rfl, rfl, e162⟩ := hQ162
            first | rw [List.append_nil] at X162 | skip
            refine Goes.tr st162 ?_
            have e162' : T162.heap = T122.heap := e162
            show Goes p e below _ (T162.setTop (mkF m 437 #[vi x0, vi x1, vi (0 : Int32), vi y0, vi y1, vr b8, vr b70, vi kv, vr r_122] [(.int ((fun i => g (9 + i)) 4 &&& (255 : Int32)))]))
            refine gAL X162 hx hby at_437 rfl rfl ?_
            refine gIC (z := 3) X162 hx hby at_439 rfl ?_
            refine Goes.via (own_caload X162 hx hZ e162' f147 (j := (3 : Int32)) (i := 3) (by decide) (by decide) (by decide) (v := t3) (Eq.trans rfl (congrArg Value.int c_t3.1)) (g := (mkF m 440 #[vi x0, vi x1, vi (0 : Int32), vi y0, vi y1, vr b8, vr b70, vi kv, vr r_122] [(.int (3 : Int32)), (.ref b8), (.int ((fun i => g (9 + i)) 4 &&& (255 : Int32)))])) rfl rfl (hb hby at_440)) ?_
            show Goes p e below _ (T162.setTop (mkF m 441 #[vi x0, vi x1, vi (0 : Int32), vi y0, vi y1, vr b8, vr b70, vi kv, vr r_122] [(.int t3), (.int ((fun i => g (9 + i)) 4 &&& (255 : Int32)))]))
            have hc441_163 : ((fun i => g (9 + i)) 4 &&& (255 : Int32)) = t3 := (show g 13 &&& (255 : Int32) = t3 from by rw [g_13]; exact c_t3.2.2.1)
            refine Goes.via (fun _ kk_ => XS.icmpNo X162.here hx rfl (hb hby at_441) rfl (teq hc441_163).2 kk_) ?_
            show Goes p e below _ (T162.setTop (mkF m 444 #[vi x0, vi x1, vi (0 : Int32), vi y0, vi y1, vr b8, vr b70, vi kv, vr r_122] []))
            refine gIL X162 hx hby at_444 rfl ?_
            refine gIC (z := 5) X162 hx hby at_446 rfl ?_
            by_cases hc447 : kv < (5 : Int32)
            · skip
              refine Goes.via (fun _ kk_ => XS.icmpYes X162.here hx rfl (pc0 := 447) (pc' := 463) rfl (hb hby at_447) rfl (tlt hc447).1 (by decide) (by decide) kk_) ?_
              show Goes p e below _ (T162.setTop (mkF m 463 #[vi x0, vi x1, vi (0 : Int32), vi y0, vi y1, vr b8, vr b70, vi kv, vr r_122] []))
              refine gIL X162 hx hby at_463 rfl ?_
              refine gBI (z := 6) X162 hx hby at_465 rfl ?_
              have hc467_164 : kv < (6 : Int32) := (own_ltt hc447 (by decide))
              refine Goes.via (fun _ kk_ => XS.icmpYes X162.here hx rfl (pc0 := 467) (pc' := 484) rfl (hb hby at_467) rfl (tlt hc467_164).1 (by decide) (by decide) kk_) ?_
              show Goes p e below _ (T162.setTop (mkF m 484 #[vi x0, vi x1, vi (0 : Int32), vi y0, vi y1, vr b8, vr b70, vi kv, vr r_122] []))
              refine gIC (z := 1) X162 hx hby at_484 rfl ?_
              refine Goes.via (fun _ kk_ => XS.goto X162.here hx rfl (pc0 := 485) (pc' := 489) rfl (hb hby at_485) (by decide) (by decide) kk_) ?_
              show Goes p e below _ (T162.setTop (mkF m 489 #[vi x0, vi x1, vi (0 : Int32), vi y0, vi y1, vr b8, vr b70, vi kv, vr r_122] [(.int (1 : Int32))]))
              have hKe : KS Z own_KL T162.vm T162.heap := by rw [e162']; exact Ks122.at_ (s := s) X162.warmed
              exact own_wfinN X162 SI122 (by rw [e162']; exact (Nat.le_refl _)) (fun U_ hv hh_ => by show KS Z own_KL U_.vm U_.heap; rw [hv, hh_]; exact hKe) hx hlk hret (by simp) (hb hby at_489) (by rw [e162']; exact ⟨rfl, N122, K133⟩) (by first | decide | omega | (dsimp only; omega)) (by first | decide | omega | (dsimp only; omega))
            · skip
              refine Goes.via (fun _ kk_ => XS.icmpNo X162.here hx rfl (hb hby at_447) rfl (flt hc447).1 kk_) ?_
              show Goes p e below _ (T162.setTop (mkF m 450 #[vi x0, vi x1, vi (0 : Int32), vi y0, vi y1, vr b8, vr b70, vi kv, vr r_122] []))
              refine gAL X162 hx hby at_450 rfl rfl ?_
              refine gIC (z := 5) X162 hx hby at_452 rfl ?_
              obtain ⟨cq165, kq165, q165a, q165b, q165c⟩ := isOf hZ e162' u122_1
              obtain ⟨_, _, ⟨T165, L165, k165, n165⟩, -, X165, ⟨Lc165, hQ165, l165, y165, z165⟩, st165⟩ := X162.virtualBack hx (y := (⟨"java/lang/String", "charAt", "(I)C"⟩ : MethodName)) (z := (⟨"java/lang/String", "charAt", "(I)C"⟩ : MethodName)) hown (mvT hZ (own_w hw 12 rfl)) (mvT hZ (own_w hw 13 rfl)) (notFace_of_selects (args := #[]) (mvT hZ (own_w hw 15 rfl))) (mvT hZ (own_w hw 15 rfl)) (mvT hZ (own_w hw 14 rfl)) (by decide) (backOf (W := 0) (rm2 l Z a0 hw [] r_122 (5 : Int32) cS nb122 kb122 M (fun i => g (9 + i)) (kv + (1 : Int32)) 5 fo T122.heap n0 (Nat.le_trans Z0 z136) u122_1 u122_2 u122_3 u122_4 f134 H_cs (by decide) (by have q : ¬ _ := fun q => hc447 (own_lti.mpr q); have q1 : (5 : Int32).toInt = 5 := (by decide); omega) hk1 f138 Hfo) hZ (own_w hw 16 rfl) (own_w hw 5 rfl) (by decide) (by decide)) q165a q165c (g := (mkF m 453 #[vi x0, vi x1, vi (0 : Int32), vi y0, vi y1, vr b8, vr b70, vi kv, vr r_122] [(.int (5 : Int32)), (.ref r_122)])) rfl (by rw [hml]; rfl) (Steps.refl _) (argsL := [(.int (5 : Int32))]) (rest := []) (lenOf pd_17 rfl) rfl (by show 2 * 0 + _ ≤ _; exact Nat.le_of_eq rfl) (hb hby at_453) (fun _ _ => ⟨rfl, e162', (by decide : 24 + 0 ≤ _), (by decide : 366 + 0 ≤ _)⟩)
              dsimp only [Pt.U, Pt.locs, Pt.cells, Pt.slots] at X165 l165 y165 z165 st165 hQ165
              replace l165 := l165.symm
              subst l165 y165 z165
              obtain ⟨rfl, rfl, e165⟩ := hQ165
              first | rw [List.append_nil] at X165 | skip
              refine Goes.tr st165 ?_
              have e165' : T165.heap = T122.heap := e165
              show Goes p e below _ (T165.setTop (mkF m 456 #[vi x0, vi x1, vi (0 : Int32), vi y0, vi y1, vr b8, vr b70, vi kv, vr r_122] [(.int ((fun i => g (9 + i)) 5 &&& (255 : Int32)))]))
              refine gAL X165 hx hby at_456 rfl rfl ?_
              refine gIC (z := 4) X165 hx hby at_458 rfl ?_
              refine Goes.via (own_caload X165 hx hZ e165' f147 (j := (4 : Int32)) (i := 4) (by decide) (by decide) (by decide) (v := t4) (Eq.trans rfl (congrArg Value.int c_t4.1)) (g := (mkF m 459 #[vi x0, vi x1, vi (0 : Int32), vi y0, vi y1, vr b8, vr b70, vi kv, vr r_122] [(.int (4 : Int32)), (.ref b8), (.int ((fun i => g (9 + i)) 5 &&& (255 : Int32)))])) rfl rfl (hb hby at_459)) ?_
              show Goes p e below _ (T165.setTop (mkF m 460 #[vi x0, vi x1, vi (0 : Int32), vi y0, vi y1, vr b8, vr b70, vi kv, vr r_122] [(.int t4), (.int ((fun i => g (9 + i)) 5 &&& (255 : Int32)))]))
              have hc460_166 : ((fun i => g (9 + i)) 5 &&& (255 : Int32)) = t4 := (show g 14 &&& (255 : Int32) = t4 from by rw [g_14]; exact c_t4.2.2.1)
              refine Goes.via (fun _ kk_ => XS.icmpNo X165.here hx rfl (hb hby at_460) rfl (teq hc460_166).2 kk_) ?_
              show Goes p e below _ (T165.setTop (mkF m 463 #[vi x0, vi x1, vi (0 : Int32), vi y0, vi y1, vr b8, vr b70, vi kv, vr r_122] []))
              refine gIL X165 hx hby at_463 rfl ?_
              refine gBI (z := 6) X165 hx hby at_465 rfl ?_
              by_cases hc467 : kv < (6 : Int32)
              · skip
                refine Goes.via (fun _ kk_ => XS.icmpYes X165.here hx rfl (pc0 := 467) (pc' := 484) rfl (hb hby at_467) rfl (tlt hc467).1 (by decide) (by decide) kk_) ?_
                show Goes p e below _ (T165.setTop (mkF m 484 #[vi x0, vi x1, vi (0 : Int32), vi y0, vi y1, vr b8, vr b70, vi kv, vr r_122] []))
                refine gIC (z := 1) X165 hx hby at_484 rfl ?_
                refine Goes.via (fun _ kk_ => XS.goto X165.here hx rfl (pc0 := 485) (pc' := 489) rfl (hb hby at_485) (by decide) (by decide) kk_) ?_
                show Goes p e below _ (T165.setTop (mkF m 489 #[vi x0, vi x1, vi (0 : Int32), vi y0, vi y1, vr b8, vr b70, vi kv, vr r_122] [(.int (1 : Int32))]))
                have hKe : KS Z own_KL T165.vm T165.heap := by rw [e165']; exact Ks122.at_ (s := s) X165.warmed
                exact own_wfinN X165 SI122 (by rw [e165']; exact (Nat.le_refl _)) (fun U_ hv hh_ => by show KS Z own_KL U_.vm U_.heap; rw [hv, hh_]; exact hKe) hx hlk hret (by simp) (hb hby at_489) (by rw [e165']; exact ⟨rfl, N122, K133⟩) (by first | decide | omega | (dsimp only; omega)) (by first | decide | omega | (dsimp only; omega))
              · skip
                refine Goes.via (fun _ kk_ => XS.icmpNo X165.here hx rfl (hb hby at_467) rfl (flt hc467).1 kk_) ?_
                show Goes p e below _ (T165.setTop (mkF m 470 #[vi x0, vi x1, vi (0 : Int32), vi y0, vi y1, vr b8, vr b70, vi kv, vr r_122] []))
                refine gAL X165 hx hby at_470 rfl rfl ?_
                refine gBI (z := 6) X165 hx hby at_472 rfl ?_
                obtain ⟨cq167, kq167, q167a, q167b, q167c⟩ := isOf hZ e165' u122_1
                obtain ⟨_, _, ⟨T167, L167, k167, n167⟩, -, X167, ⟨Lc167, hQ167, l167, y167, z167⟩, st167⟩ := X165.virtualBack hx (y := (⟨"java/lang/String", "charAt", "(I)C"⟩ : MethodName)) (z := (⟨"java/lang/String", "charAt", "(I)C"⟩ : MethodName)) hown (mvT hZ (own_w hw 12 rfl)) (mvT hZ (own_w hw 13 rfl)) (notFace_of_selects (args := #[]) (mvT hZ (own_w hw 15 rfl))) (mvT hZ (own_w hw 15 rfl)) (mvT hZ (own_w hw 14 rfl)) (by decide) (backOf (W := 0) (rm2 l Z a0 hw [] r_122 (6 : Int32) cS nb122 kb122 M (fun i => g (9 + i)) (kv + (1 : Int32)) 6 fo T122.heap n0 (Nat.le_trans Z0 z136) u122_1 u122_2 u122_3 u122_4 f134 H_cs (by decide) (by have q : ¬ _ := fun q => hc467 (own_lti.mpr q); have q1 : (6 : Int32).toInt = 6 := (by decide); omega) hk1 f138 Hfo) hZ (own_w hw 16 rfl) (own_w hw 5 rfl) (by decide) (by decide)) q167a q167c (g := (mkF m 474 #[vi x0, vi x1, vi (0 : Int32), vi y0, vi y1, vr b8, vr b70, vi kv, vr r_122] [(.int (6 : Int32)), (.ref r_122)])) rfl (by rw [hml]; rfl) (Steps.refl _) (argsL := [(.int (6 : Int32))]) (rest := []) (lenOf pd_17 rfl) rfl (by show 2 * 0 + _ ≤ _; exact Nat.le_of_eq rfl) (hb hby at_474) (fun _ _ => ⟨rfl, e165', (by decide : 24 + 0 ≤ _), (by decide : 366 + 0 ≤ _)⟩)
                dsimp only [Pt.U, Pt.locs, Pt.cells, Pt.slots] at X167 l167 y167 z167 st167 hQ167
                replace l167 := l167.symm
                subst l167 y167 z167
                obtain ⟨rfl, rfl, e167⟩ := hQ167
                first | rw [List.append_nil] at X167 | skip
                refine Goes.tr st167 ?_
                have e167' : T167.heap = T122.heap := e167
                show Goes p e below _ (T167.setTop (mkF m 477 #[vi x0, vi x1, vi (0 : Int32), vi y0, vi y1, vr b8, vr b70, vi kv, vr r_122] [(.int ((fun i => g (9 + i)) 6 &&& (255 : Int32)))]))
                refine gAL X167 hx hby at_477 rfl rfl ?_
                refine gIC (z := 5) X167 hx hby at_479 rfl ?_
                refine Goes.via (own_caload X167 hx hZ e167' f147 (j := (5 : Int32)) (i := 5) (by decide) (by decide) (by decide) (v := t5) (Eq.trans rfl (congrArg Value.int c_t5.1)) (g := (mkF m 480 #[vi x0, vi x1, vi (0 : Int32), vi y0, vi y1, vr b8, vr b70, vi kv, vr r_122] [(.int (5 : Int32)), (.ref b8), (.int ((fun i => g (9 + i)) 6 &&& (255 : Int32)))])) rfl rfl (hb hby at_480)) ?_
                show Goes p e below _ (T167.setTop (mkF m 481 #[vi x0, vi x1, vi (0 : Int32), vi y0, vi y1, vr b8, vr b70, vi kv, vr r_122] [(.int t5), (.int ((fun i => g (9 + i)) 6 &&& (255 : Int32)))]))
                have hc481_168 : ((fun i => g (9 + i)) 6 &&& (255 : Int32)) = t5 := (show g 15 &&& (255 : Int32) = t5 from by rw [g_15]; exact c_t5.2.2.1)
                refine Goes.via (fun _ kk_ => XS.icmpNo X167.here hx rfl (hb hby at_481) rfl (teq hc481_168).2 kk_) ?_
                show Goes p e below _ (T167.setTop (mkF m 484 #[vi x0, vi x1, vi (0 : Int32), vi y0, vi y1, vr b8, vr b70, vi kv, vr r_122] []))
                refine gIC (z := 1) X167 hx hby at_484 rfl ?_
                refine Goes.via (fun _ kk_ => XS.goto X167.here hx rfl (pc0 := 485) (pc' := 489) rfl (hb hby at_485) (by decide) (by decide) kk_) ?_
                show Goes p e below _ (T167.setTop (mkF m 489 #[vi x0, vi x1, vi (0 : Int32), vi y0, vi y1, vr b8, vr b70, vi kv, vr r_122] [(.int (1 : Int32))]))
                have hKe : KS Z own_KL T167.vm T167.heap := by rw [e167']; exact Ks122.at_ (s := s) X167.warmed
                exact own_wfinN X167 SI122 (by rw [e167']; exact (Nat.le_refl _)) (fun U_ hv hh_ => by show KS Z own_KL U_.vm U_.heap; rw [hv, hh_]; exact hKe) hx hlk hret (by simp) (hb hby at_489) (by rw [e167']; exact ⟨rfl, N122, K133⟩) (by first | decide | omega | (dsimp only; omega)) (by first | decide | omega | (dsimp only; omega))
  · rw [ho]
    show Goes p e below _ (s₁.setTop (mkF m 4 #[vi x0, vi x1, vi (1 : Int32), .unset, .unset, .unset, .unset, .unset, .unset] []))
    refine gILN X0 hx hby at_4 rfl ?_
    refine gIC (z := 1) X0 hx hby at_5 rfl ?_
    refine Goes.via (fun _ kk_ => XS.iushr X0.here hx rfl (hb hby at_6) rfl kk_) ?_
    show Goes p e below _ (s₁.setTop (mkF m 7 #[vi x0, vi x1, vi (1 : Int32), .unset, .unset, .unset, .unset, .unset, .unset] [(.int ((x0.toUInt32 >>> ((1 : Int32) &&& 31).toUInt32).toInt32))]))
    obtain ⟨_, _, ⟨T169, L169, k169, n169⟩, -, ⟨X169, Si169⟩, ⟨Lc169, ⟨hQ169, tK169, hK169, hKv169, hKh169⟩, l169, y169, z169⟩, st169⟩ := own_callSW X0 hx (y := (⟨"com/example/lincra/lincra/UrlNormalizerPathPinLaw", "hostChar", "(I)C"⟩ : MethodName)) hown (mvT hZ (own_w hw 0 rfl)) (mvT hZ (own_w hw 1 rfl)) (mvT hZ (own_w hw 2 rfl)) (mvT hZ (own_w hw 3 rfl)) (by decide) (own_backOfW (W := 0) (K := (fun U_ => KS Z own_KL U_.vm U_.heap)) (KP := (fun U_ => KS Z own_KL U_.vm U_.heap)) (rm1 l Z a0 hw [] ((x0.toUInt32 >>> ((1 : Int32) &&& 31).toUInt32).toInt32) cS fo h0 n0 (Nat.le_trans Z0 (Nat.le_refl _)) OS H_cs OF Hfo HO HW HC0 HC1 HC2) hZ (own_w hw 3 rfl) (own_w hw 2 rfl) (by decide) (by decide) (fun V_ hV hVh => by show KS Z own_KL V_.vm V_.heap; rw [hVh]; exact Ks0.at_ (s := s) hV)) (g := (mkF m 7 #[vi x0, vi x1, vi (1 : Int32), .unset, .unset, .unset, .unset, .unset, .unset] [(.int ((x0.toUInt32 >>> ((1 : Int32) &&& 31).toUInt32).toInt32))])) rfl (by rw [hml]; rfl) (argsL := [(.int ((x0.toUInt32 >>> ((1 : Int32) &&& 31).toUInt32).toInt32))]) (rest := []) (lenOf pd_17 rfl) rfl (by show 2 * 0 + _ ≤ _; exact Nat.le_of_eq rfl) (hb hby at_7) (fun _ _ => ⟨rfl, e0, (by decide : 0 + 2 ≤ _), (by decide : 0 + 36 ≤ _)⟩)
    dsimp only [Pt.U, Pt.locs, Pt.cells, Pt.slots] at X169 l169 y169 z169 st169 hQ169 Si169 hKv169 hKh169
    replace l169 := l169.symm
    subst l169 y169 z169
    obtain ⟨rfl, N169q, K169⟩ := hQ169
    have N169 := Fr.app N0 N169q
    refine Goes.via st169 ?_
    obtain ⟨X169', SI169, hZ, hown⟩ := rebS SI0 (Nat.zero_le _) X169 Si169 K169.1 hZ hown
    have Ks169 : KS Z own_KL T169.vm T169.heap := by rw [← hKv169, ← hKh169]; exact hK169
    show Goes p e below _ (T169.setTop (mkF m 10 #[vi x0, vi x1, vi (1 : Int32), .unset, .unset, .unset, .unset, .unset, .unset] [(.int (own_hl ((x0.toUInt32 >>> ((1 : Int32) &&& 31).toUInt32).toInt32)))]))
    have c_y0 := own_hlP ((x0.toUInt32 >>> ((1 : Int32) &&& 31).toUInt32).toInt32)
    generalize (own_hl ((x0.toUInt32 >>> ((1 : Int32) &&& 31).toUInt32).toInt32)) = y0 at *
    show Goes p e below _ (T169.setTop (mkF m 10 #[vi x0, vi x1, vi (1 : Int32), .unset, .unset, .unset, .unset, .unset, .unset] [(.int y0)]))
    refine Goes.via (fun _ kk_ => XS.istoreN X169'.here hx rfl (hb hby at_10) rfl (l' := #[vi x0, vi x1, vi (1 : Int32), vi y0, .unset, .unset, .unset, .unset, .unset]) rfl kk_) ?_
    show Goes p e below _ (T169.setTop (mkF m 11 #[vi x0, vi x1, vi (1 : Int32), vi y0, .unset, .unset, .unset, .unset, .unset] []))
    refine gILN X169' hx hby at_11 rfl ?_
    refine gIC (z := 4) X169' hx hby at_12 rfl ?_
    refine Goes.via (fun _ kk_ => XS.iushr X169'.here hx rfl (hb hby at_13) rfl kk_) ?_
    show Goes p e below _ (T169.setTop (mkF m 14 #[vi x0, vi x1, vi (1 : Int32), vi y0, .unset, .unset, .unset, .unset, .unset] [(.int ((x0.toUInt32 >>> ((4 : Int32) &&& 31).toUInt32).toInt32))]))
    have K170 : Keep h0 T169.heap [] := ((Keep.refl h0 []).trans K169 all0)
    have f171 : Sta Z T169.heap "java/lang/String" "COMPACT_STRINGS" "Z" (.int cS) := own_sta_keep OS K170
    have f172 : Sta Z T169.heap "jdk/internal/util/Preconditions" "SIOOBE_FORMATTER" "Ljava/util/function/BiFunction;" fo := own_sta_keep OF K170
    have ol173 : Old Z n0 (T169.heap) := (HO.keep K169 all0)
    have z175 : h0.size ≤ (T169.heap).size := (Nat.le_trans (Nat.le_refl _) K169.1)
    obtain ⟨_, _, ⟨T174, L174, k174, n174⟩, -, ⟨X174, Si174⟩, ⟨Lc174, ⟨hQ174, tK174, hK174, hKv174, hKh174⟩, l174, y174, z174⟩, st174⟩ := own_callSW X169' hx (y := (⟨"com/example/lincra/lincra/UrlNormalizerPathPinLaw", "hostChar", "(I)C"⟩ : MethodName)) hown (mvT hZ (own_w hw 0 rfl)) (mvT hZ (own_w hw 1 rfl)) (mvT hZ (own_w hw 2 rfl)) (mvT hZ (own_w hw 3 rfl)) (by decide) (own_backOfW (W := 0) (K := (fun U_ => KS Z own_KL U_.vm U_.heap)) (KP := (fun U_ => KS Z own_KL U_.vm U_.heap)) (rm1 l Z a0 hw [] ((x0.toUInt32 >>> ((4 : Int32) &&& 31).toUInt32).toInt32) cS fo T169.heap n0 (Nat.le_trans Z0 z175) f171 H_cs f172 Hfo ol173 HW HC0 HC1 HC2) hZ (own_w hw 3 rfl) (own_w hw 2 rfl) (by decide) (by decide) (fun V_ hV hVh => by show KS Z own_KL V_.vm V_.heap; rw [hVh]; exact Ks169.at_ (s := s) hV)) (g := (mkF m 14 #[vi x0, vi x1, vi (1 : Int32), vi y0, .unset, .unset, .unset, .unset, .unset] [(.int ((x0.toUInt32 >>> ((4 : Int32) &&& 31).toUInt32).toInt32))])) rfl (by rw [hml]; rfl) (argsL := [(.int ((x0.toUInt32 >>> ((4 : Int32) &&& 31).toUInt32).toInt32))]) (rest := []) (lenOf pd_17 rfl) rfl (by show 2 * 0 + _ ≤ _; exact Nat.le_of_eq rfl) (hb hby at_14) (fun _ _ => ⟨rfl, rfl, (by decide : 2 + 2 ≤ _), (by decide : 36 + 36 ≤ _)⟩)
    dsimp only [Pt.U, Pt.locs, Pt.cells, Pt.slots] at X174 l174 y174 z174 st174 hQ174 Si174 hKv174 hKh174
    replace l174 := l174.symm
    subst l174 y174 z174
    obtain ⟨rfl, N174q, K174⟩ := hQ174
    have N174 := Fr.app N169 N174q
    refine Goes.via st174 ?_
    obtain ⟨X174', SI174, hZ, hown⟩ := rebS SI169 (Nat.le_refl _) X174 Si174 K174.1 hZ hown
    have Ks174 : KS Z own_KL T174.vm T174.heap := by rw [← hKv174, ← hKh174]; exact hK174
    show Goes p e below _ (T174.setTop (mkF m 17 #[vi x0, vi x1, vi (1 : Int32), vi y0, .unset, .unset, .unset, .unset, .unset] [(.int (own_hl ((x0.toUInt32 >>> ((4 : Int32) &&& 31).toUInt32).toInt32)))]))
    have c_y1 := own_hlP ((x0.toUInt32 >>> ((4 : Int32) &&& 31).toUInt32).toInt32)
    generalize (own_hl ((x0.toUInt32 >>> ((4 : Int32) &&& 31).toUInt32).toInt32)) = y1 at *
    show Goes p e below _ (T174.setTop (mkF m 17 #[vi x0, vi x1, vi (1 : Int32), vi y0, .unset, .unset, .unset, .unset, .unset] [(.int y1)]))
    refine Goes.via (fun _ kk_ => XS.istore X174'.here hx rfl (hb hby at_17) rfl (l' := #[vi x0, vi x1, vi (1 : Int32), vi y0, vi y1, .unset, .unset, .unset, .unset]) rfl kk_) ?_
    show Goes p e below _ (T174.setTop (mkF m 19 #[vi x0, vi x1, vi (1 : Int32), vi y0, vi y1, .unset, .unset, .unset, .unset] []))
    refine gBI (z := 6) X174' hx hby at_19 rfl ?_
    obtain ⟨T176, h176, k176, X176, e176, E176, A176, st176⟩ := own_newP X174' hx hZ (own_w hw 37 rfl) rfl (g := (mkF m 21 #[vi x0, vi x1, vi (1 : Int32), vi y0, vi y1, .unset, .unset, .unset, .unset] [(.int (6 : Int32))])) rfl (hb hby at_21) rfl (n := (6 : Int32)) (N := 6) (by decide) (by decide) (cap := 6) (by first | decide | omega | (dsimp only; omega)) (by first | decide | omega | (dsimp only; omega)) (by first | decide | omega | (dsimp only; omega)) (by first | decide | omega | (dsimp only; omega))
    obtain ⟨b176, g176⟩ : ∃ z, z = (T174.heap).size := ⟨_, rfl⟩
    rw [← g176] at A176 st176
    have z177 : h0.size ≤ (T174.heap).size := (Nat.le_trans z175 K174.1)
    have sz_b176 : h0.size ≤ b176 := Nat.le_trans z177 (Nat.le_of_eq g176.symm)
    have gn_b176 : n0 ≤ b176 := Nat.le_trans Z0 sz_b176
    refine Goes.via st176 ?_
    show Goes p e below _ (T176.setTop (mkF m 23 #[vi x0, vi x1, vi (1 : Int32), vi y0, vi y1, .unset, .unset, .unset, .unset] [(.ref b176)]))
    refine Goes.via (fun _ kk_ => XS.astore X176.here hx rfl (hb hby at_23) rfl rfl (l' := #[vi x0, vi x1, vi (1 : Int32), vi y0, vi y1, vr b176, .unset, .unset, .unset]) rfl kk_) ?_
    show Goes p e below _ (T176.setTop (mkF m 25 #[vi x0, vi x1, vi (1 : Int32), vi y0, vi y1, vr b176, .unset, .unset, .unset] []))
    refine gAL X176 hx hby at_25 rfl rfl ?_
    refine gIC (z := 0) X176 hx hby at_27 rfl ?_
    refine gILN X176 hx hby at_28 rfl ?_
    have K178 : Keep h0 h176 [] := ((K170.trans K174 all0).ext E176)
    have f179 : Sta Z h176 "java/lang/String" "COMPACT_STRINGS" "Z" (.int cS) := own_sta_keep OS K178
    have f180 : Sta Z h176 "jdk/internal/util/Preconditions" "SIOOBE_FORMATTER" "Ljava/util/function/BiFunction;" fo := own_sta_keep OF K178
    have ol181 : Old Z n0 (h176) := ((ol173.keep K174 all0).ext E176)
    have z183 : h0.size ≤ (h176).size := (Nat.le_trans z177 E176.1)
    have Ks184 : KS Z own_KL T174.vm (h176) := (Ks174.ext E176)
    have sk185 : _ ≤ (h176).size := (Nat.le_trans (Nat.le_refl _) E176.1)
    obtain ⟨_, _, ⟨T182, L182, k182, n182⟩, -, ⟨X182, Si182⟩, ⟨Lc182, ⟨hQ182, tK182, hK182, hKv182, hKh182⟩, l182, y182, z182⟩, st182⟩ := own_callSW X176 hx (y := (⟨"com/example/lincra/lincra/UrlNormalizerPathPinLaw", "tailChar", "(I)C"⟩ : MethodName)) hown (mvT hZ (own_w hw 38 rfl)) (mvT hZ (own_w hw 39 rfl)) (mvT hZ (own_w hw 2 rfl)) (mvT hZ (own_w hw 40 rfl)) (by decide) (own_backOfW (W := 2) (K := (fun U_ => KS Z own_KL U_.vm U_.heap)) (KP := (fun U_ => KS Z own_KL U_.vm U_.heap)) (rm7 l Z a0 hw [] x1 cS fo h176 n0 (Nat.le_trans Z0 z183) f179 H_cs f180 Hfo ol181 HW HC0 HC1 HC2) hZ (own_w hw 40 rfl) (own_w hw 2 rfl) (by decide) (by decide) (fun V_ hV hVh => by show KS Z own_KL V_.vm V_.heap; rw [hVh]; exact Ks184.at_ (s := s) hV)) (g := (mkF m 29 #[vi x0, vi x1, vi (1 : Int32), vi y0, vi y1, vr b176, .unset, .unset, .unset] [(.int x1), (.int (0 : Int32)), (.ref b176)])) rfl (by rw [hml]; rfl) (argsL := [(.int x1)]) (rest := [(.int (0 : Int32)), (.ref b176)]) (lenOf pd_17 rfl) rfl (by show 2 * 0 + _ ≤ _; exact Nat.le_of_eq rfl) (hb hby at_29) (fun _ _ => ⟨rfl, e176, (by decide : 5 + 2 ≤ _), (by decide : 78 + 36 ≤ _)⟩)
    dsimp only [Pt.U, Pt.locs, Pt.cells, Pt.slots] at X182 l182 y182 z182 st182 hQ182 Si182 hKv182 hKh182
    replace l182 := l182.symm
    subst l182 y182 z182
    obtain ⟨rfl, N182q, K182⟩ := hQ182
    have N182 := Fr.app N174 N182q
    refine Goes.via st182 ?_
    obtain ⟨X182', SI182, hZ, hown⟩ := rebS SI174 sk185 X182 Si182 K182.1 hZ hown
    have Ks182 : KS Z own_KL T182.vm T182.heap := by rw [← hKv182, ← hKh182]; exact hK182
    show Goes p e below _ (T182.setTop (mkF m 32 #[vi x0, vi x1, vi (1 : Int32), vi y0, vi y1, vr b176, .unset, .unset, .unset] [(.int (own_tl x1)), (.int (0 : Int32)), (.ref b176)]))
    have c_t0 := own_tlP x1
    generalize (own_tl x1) = t0 at *
    show Goes p e below _ (T182.setTop (mkF m 32 #[vi x0, vi x1, vi (1 : Int32), vi y0, vi y1, vr b176, .unset, .unset, .unset] [(.int t0), (.int (0 : Int32)), (.ref b176)]))
    have f186 : Arw Z T182.heap b176 k176 .char 6 (fun _ => (.int 0)) := (A176.keep K182 nin0)
    obtain ⟨T187, h187, X187, e187, W187, A187, st187⟩ := own_castore X182' hx hZ rfl f186 (j := (0 : Int32)) (i := 0) (by decide) (by decide) (by first | decide | omega | (dsimp only; omega)) (g := (mkF m 32 #[vi x0, vi x1, vi (1 : Int32), vi y0, vi y1, vr b176, .unset, .unset, .unset] [(.int t0), (.int (0 : Int32)), (.ref b176)])) rfl rfl (hb hby at_32)
    refine Goes.via st187 ?_
    have N187 := Fr.snoc X187 N182 gn_b176
    show Goes p e below _ (T187.setTop (mkF m 33 #[vi x0, vi x1, vi (1 : Int32), vi y0, vi y1, vr b176, .unset, .unset, .unset] []))
    refine gAL X187 hx hby at_33 rfl rfl ?_
    refine gIC (z := 1) X187 hx hby at_35 rfl ?_
    refine gILN X187 hx hby at_36 rfl ?_
    refine gIC (z := 3) X187 hx hby at_37 rfl ?_
    refine Goes.via (fun _ kk_ => XS.iushr X187.here hx rfl (hb hby at_38) rfl kk_) ?_
    show Goes p e below _ (T187.setTop (mkF m 39 #[vi x0, vi x1, vi (1 : Int32), vi y0, vi y1, vr b176, .unset, .unset, .unset] [(.int ((x1.toUInt32 >>> ((3 : Int32) &&& 31).toUInt32).toInt32)), (.int (1 : Int32)), (.ref b176)]))
    have K188 : Keep h0 h187 [] := ((K178.trans K182 all0).wr W187 (Or.inr sz_b176))
    have f189 : Sta Z h187 "java/lang/String" "COMPACT_STRINGS" "Z" (.int cS) := own_sta_keep OS K188
    have f190 : Sta Z h187 "jdk/internal/util/Preconditions" "SIOOBE_FORMATTER" "Ljava/util/function/BiFunction;" fo := own_sta_keep OF K188
    have ol191 : Old Z n0 (h187) := ((ol181.keep K182 all0).wr W187 gn_b176)
    have z193 : h0.size ≤ (h187).size := (Nat.le_trans (Nat.le_trans z183 K182.1) (Nat.le_of_eq W187.size.symm))
    have Ks194 : KS Z own_KL T182.vm (h187) := (Ks182.wr W187 (NoS.arr f186 (own_w hw 6 rfl) (by intro q; cases q)))
    have sk195 : _ ≤ (h187).size := (Nat.le_trans (Nat.le_refl _) (Nat.le_of_eq W187.size.symm))
    obtain ⟨_, _, ⟨T192, L192, k192, n192⟩, -, ⟨X192, Si192⟩, ⟨Lc192, ⟨hQ192, tK192, hK192, hKv192, hKh192⟩, l192, y192, z192⟩, st192⟩ := own_callSW X187 hx (y := (⟨"com/example/lincra/lincra/UrlNormalizerPathPinLaw", "tailChar", "(I)C"⟩ : MethodName)) hown (mvT hZ (own_w hw 38 rfl)) (mvT hZ (own_w hw 39 rfl)) (mvT hZ (own_w hw 2 rfl)) (mvT hZ (own_w hw 40 rfl)) (by decide) (own_backOfW (W := 2) (K := (fun U_ => KS Z own_KL U_.vm U_.heap)) (KP := (fun U_ => KS Z own_KL U_.vm U_.heap)) (rm7 l Z a0 hw [] ((x1.toUInt32 >>> ((3 : Int32) &&& 31).toUInt32).toInt32) cS fo h187 n0 (Nat.le_trans Z0 z193) f189 H_cs f190 Hfo ol191 HW HC0 HC1 HC2) hZ (own_w hw 40 rfl) (own_w hw 2 rfl) (by decide) (by decide) (fun V_ hV hVh => by show KS Z own_KL V_.vm V_.heap; rw [hVh]; exact Ks194.at_ (s := s) hV)) (g := (mkF m 39 #[vi x0, vi x1, vi (1 : Int32), vi y0, vi y1, vr b176, .unset, .unset, .unset] [(.int ((x1.toUInt32 >>> ((3 : Int32) &&& 31).toUInt32).toInt32)), (.int (1 : Int32)), (.ref b176)])) rfl (by rw [hml]; rfl) (argsL := [(.int ((x1.toUInt32 >>> ((3 : Int32) &&& 31).toUInt32).toInt32))]) (rest := [(.int (1 : Int32)), (.ref b176)]) (lenOf pd_17 rfl) rfl (by show 2 * 0 + _ ≤ _; exact Nat.le_of_eq rfl) (hb hby at_39) (fun _ _ => ⟨rfl, e187, (by decide : 7 + 2 ≤ _), (by decide : 114 + 36 ≤ _)⟩)
    dsimp only [Pt.U, Pt.locs, Pt.cells, Pt.slots] at X192 l192 y192 z192 st192 hQ192 Si192 hKv192 hKh192
    replace l192 := l192.symm
    subst l192 y192 z192
    obtain ⟨rfl, N192q, K192⟩ := hQ192
    have N192 := Fr.app N187 N192q
    refine Goes.via st192 ?_
    obtain ⟨X192', SI192, hZ, hown⟩ := rebS SI182 sk195 X192 Si192 K192.1 hZ hown
    have Ks192 : KS Z own_KL T192.vm T192.heap := by rw [← hKv192, ← hKh192]; exact hK192
    show Goes p e below _ (T192.setTop (mkF m 42 #[vi x0, vi x1, vi (1 : Int32), vi y0, vi y1, vr b176, .unset, .unset, .unset] [(.int (own_tl ((x1.toUInt32 >>> ((3 : Int32) &&& 31).toUInt32).toInt32))), (.int (1 : Int32)), (.ref b176)]))
    have c_t1 := own_tlP ((x1.toUInt32 >>> ((3 : Int32) &&& 31).toUInt32).toInt32)
    generalize (own_tl ((x1.toUInt32 >>> ((3 : Int32) &&& 31).toUInt32).toInt32)) = t1 at *
    show Goes p e below _ (T192.setTop (mkF m 42 #[vi x0, vi x1, vi (1 : Int32), vi y0, vi y1, vr b176, .unset, .unset, .unset] [(.int t1), (.int (1 : Int32)), (.ref b176)]))
    have f196 : Arw Z T192.heap b176 k176 .char 6 (own_upd (fun _ => (.int 0)) 0 (.int (nar .char t0))) := (A187.keep K192 nin0)
    obtain ⟨T197, h197, X197, e197, W197, A197, st197⟩ := own_castore X192' hx hZ rfl f196 (j := (1 : Int32)) (i := 1) (by decide) (by decide) (by first | decide | omega | (dsimp only; omega)) (g := (mkF m 42 #[vi x0, vi x1, vi (1 : Int32), vi y0, vi y1, vr b176, .unset, .unset, .unset] [(.int t1), (.int (1 : Int32)), (.ref b176)])) rfl rfl (hb hby at_42)
    refine Goes.via st197 ?_
    have N197 := Fr.snoc X197 N192 gn_b176
    show Goes p e below _ (T197.setTop (mkF m 43 #[vi x0, vi x1, vi (1 : Int32), vi y0, vi y1, vr b176, .unset, .unset, .unset] []))
    refine gAL X197 hx hby at_43 rfl rfl ?_
    refine gIC (z := 2) X197 hx hby at_45 rfl ?_
    refine gILN X197 hx hby at_46 rfl ?_
    refine gBI (z := 6) X197 hx hby at_47 rfl ?_
    refine Goes.via (fun _ kk_ => XS.iushr X197.here hx rfl (hb hby at_49) rfl kk_) ?_
    show Goes p e below _ (T197.setTop (mkF m 50 #[vi x0, vi x1, vi (1 : Int32), vi y0, vi y1, vr b176, .unset, .unset, .unset] [(.int ((x1.toUInt32 >>> ((6 : Int32) &&& 31).toUInt32).toInt32)), (.int (2 : Int32)), (.ref b176)]))
    have K198 : Keep h0 h197 [] := ((K188.trans K192 all0).wr W197 (Or.inr sz_b176))
    have f199 : Sta Z h197 "java/lang/String" "COMPACT_STRINGS" "Z" (.int cS) := own_sta_keep OS K198
    have f200 : Sta Z h197 "jdk/internal/util/Preconditions" "SIOOBE_FORMATTER" "Ljava/util/function/BiFunction;" fo := own_sta_keep OF K198
    have ol201 : Old Z n0 (h197) := ((ol191.keep K192 all0).wr W197 gn_b176)
    have z203 : h0.size ≤ (h197).size := (Nat.le_trans (Nat.le_trans z193 K192.1) (Nat.le_of_eq W197.size.symm))
    have Ks204 : KS Z own_KL T192.vm (h197) := (Ks192.wr W197 (NoS.arr f196 (own_w hw 6 rfl) (by intro q; cases q)))
    have sk205 : _ ≤ (h197).size := (Nat.le_trans (Nat.le_refl _) (Nat.le_of_eq W197.size.symm))
    obtain ⟨_, _, ⟨T202, L202, k202, n202⟩, -, ⟨X202, Si202⟩, ⟨Lc202, ⟨hQ202, tK202, hK202, hKv202, hKh202⟩, l202, y202, z202⟩, st202⟩ := own_callSW X197 hx (y := (⟨"com/example/lincra/lincra/UrlNormalizerPathPinLaw", "tailChar", "(I)C"⟩ : MethodName)) hown (mvT hZ (own_w hw 38 rfl)) (mvT hZ (own_w hw 39 rfl)) (mvT hZ (own_w hw 2 rfl)) (mvT hZ (own_w hw 40 rfl)) (by decide) (own_backOfW (W := 2) (K := (fun U_ => KS Z own_KL U_.vm U_.heap)) (KP := (fun U_ => KS Z own_KL U_.vm U_.heap)) (rm7 l Z a0 hw [] ((x1.toUInt32 >>> ((6 : Int32) &&& 31).toUInt32).toInt32) cS fo h197 n0 (Nat.le_trans Z0 z203) f199 H_cs f200 Hfo ol201 HW HC0 HC1 HC2) hZ (own_w hw 40 rfl) (own_w hw 2 rfl) (by decide) (by decide) (fun V_ hV hVh => by show KS Z own_KL V_.vm V_.heap; rw [hVh]; exact Ks204.at_ (s := s) hV)) (g := (mkF m 50 #[vi x0, vi x1, vi (1 : Int32), vi y0, vi y1, vr b176, .unset, .unset, .unset] [(.int ((x1.toUInt32 >>> ((6 : Int32) &&& 31).toUInt32).toInt32)), (.int (2 : Int32)), (.ref b176)])) rfl (by rw [hml]; rfl) (argsL := [(.int ((x1.toUInt32 >>> ((6 : Int32) &&& 31).toUInt32).toInt32))]) (rest := [(.int (2 : Int32)), (.ref b176)]) (lenOf pd_17 rfl) rfl (by show 2 * 0 + _ ≤ _; exact Nat.le_of_eq rfl) (hb hby at_50) (fun _ _ => ⟨rfl, e197, (by decide : 9 + 2 ≤ _), (by decide : 150 + 36 ≤ _)⟩)
    dsimp only [Pt.U, Pt.locs, Pt.cells, Pt.slots] at X202 l202 y202 z202 st202 hQ202 Si202 hKv202 hKh202
    replace l202 := l202.symm
    subst l202 y202 z202
    obtain ⟨rfl, N202q, K202⟩ := hQ202
    have N202 := Fr.app N197 N202q
    refine Goes.via st202 ?_
    obtain ⟨X202', SI202, hZ, hown⟩ := rebS SI192 sk205 X202 Si202 K202.1 hZ hown
    have Ks202 : KS Z own_KL T202.vm T202.heap := by rw [← hKv202, ← hKh202]; exact hK202
    show Goes p e below _ (T202.setTop (mkF m 53 #[vi x0, vi x1, vi (1 : Int32), vi y0, vi y1, vr b176, .unset, .unset, .unset] [(.int (own_tl ((x1.toUInt32 >>> ((6 : Int32) &&& 31).toUInt32).toInt32))), (.int (2 : Int32)), (.ref b176)]))
    have c_t2 := own_tlP ((x1.toUInt32 >>> ((6 : Int32) &&& 31).toUInt32).toInt32)
    generalize (own_tl ((x1.toUInt32 >>> ((6 : Int32) &&& 31).toUInt32).toInt32)) = t2 at *
    show Goes p e below _ (T202.setTop (mkF m 53 #[vi x0, vi x1, vi (1 : Int32), vi y0, vi y1, vr b176, .unset, .unset, .unset] [(.int t2), (.int (2 : Int32)), (.ref b176)]))
    have f206 : Arw Z T202.heap b176 k176 .char 6 (own_upd (own_upd (fun _ => (.int 0)) 0 (.int (nar .char t0))) 1 (.int (nar .char t1))) := (A197.keep K202 nin0)
    obtain ⟨T207, h207, X207, e207, W207, A207, st207⟩ := own_castore X202' hx hZ rfl f206 (j := (2 : Int32)) (i := 2) (by decide) (by decide) (by first | decide | omega | (dsimp only; omega)) (g := (mkF m 53 #[vi x0, vi x1, vi (1 : Int32), vi y0, vi y1, vr b176, .unset, .unset, .unset] [(.int t2), (.int (2 : Int32)), (.ref b176)])) rfl rfl (hb hby at_53)
    refine Goes.via st207 ?_
    have N207 := Fr.snoc X207 N202 gn_b176
    show Goes p e below _ (T207.setTop (mkF m 54 #[vi x0, vi x1, vi (1 : Int32), vi y0, vi y1, vr b176, .unset, .unset, .unset] []))
    refine gAL X207 hx hby at_54 rfl rfl ?_
    refine gIC (z := 3) X207 hx hby at_56 rfl ?_
    refine gILN X207 hx hby at_57 rfl ?_
    refine gBI (z := 9) X207 hx hby at_58 rfl ?_
    refine Goes.via (fun _ kk_ => XS.iushr X207.here hx rfl (hb hby at_60) rfl kk_) ?_
    show Goes p e below _ (T207.setTop (mkF m 61 #[vi x0, vi x1, vi (1 : Int32), vi y0, vi y1, vr b176, .unset, .unset, .unset] [(.int ((x1.toUInt32 >>> ((9 : Int32) &&& 31).toUInt32).toInt32)), (.int (3 : Int32)), (.ref b176)]))
    have K208 : Keep h0 h207 [] := ((K198.trans K202 all0).wr W207 (Or.inr sz_b176))
    have f209 : Sta Z h207 "java/lang/String" "COMPACT_STRINGS" "Z" (.int cS) := own_sta_keep OS K208
    have f210 : Sta Z h207 "jdk/internal/util/Preconditions" "SIOOBE_FORMATTER" "Ljava/util/function/BiFunction;" fo := own_sta_keep OF K208
    have ol211 : Old Z n0 (h207) := ((ol201.keep K202 all0).wr W207 gn_b176)
    have z213 : h0.size ≤ (h207).size := (Nat.le_trans (Nat.le_trans z203 K202.1) (Nat.le_of_eq W207.size.symm))
    have Ks214 : KS Z own_KL T202.vm (h207) := (Ks202.wr W207 (NoS.arr f206 (own_w hw 6 rfl) (by intro q; cases q)))
    have sk215 : _ ≤ (h207).size := (Nat.le_trans (Nat.le_refl _) (Nat.le_of_eq W207.size.symm))
    obtain ⟨_, _, ⟨T212, L212, k212, n212⟩, -, ⟨X212, Si212⟩, ⟨Lc212, ⟨hQ212, tK212, hK212, hKv212, hKh212⟩, l212, y212, z212⟩, st212⟩ := own_callSW X207 hx (y := (⟨"com/example/lincra/lincra/UrlNormalizerPathPinLaw", "tailChar", "(I)C"⟩ : MethodName)) hown (mvT hZ (own_w hw 38 rfl)) (mvT hZ (own_w hw 39 rfl)) (mvT hZ (own_w hw 2 rfl)) (mvT hZ (own_w hw 40 rfl)) (by decide) (own_backOfW (W := 2) (K := (fun U_ => KS Z own_KL U_.vm U_.heap)) (KP := (fun U_ => KS Z own_KL U_.vm U_.heap)) (rm7 l Z a0 hw [] ((x1.toUInt32 >>> ((9 : Int32) &&& 31).toUInt32).toInt32) cS fo h207 n0 (Nat.le_trans Z0 z213) f209 H_cs f210 Hfo ol211 HW HC0 HC1 HC2) hZ (own_w hw 40 rfl) (own_w hw 2 rfl) (by decide) (by decide) (fun V_ hV hVh => by show KS Z own_KL V_.vm V_.heap; rw [hVh]; exact Ks214.at_ (s := s) hV)) (g := (mkF m 61 #[vi x0, vi x1, vi (1 : Int32), vi y0, vi y1, vr b176, .unset, .unset, .unset] [(.int ((x1.toUInt32 >>> ((9 : Int32) &&& 31).toUInt32).toInt32)), (.int (3 : Int32)), (.ref b176)])) rfl (by rw [hml]; rfl) (argsL := [(.int ((x1.toUInt32 >>> ((9 : Int32) &&& 31).toUInt32).toInt32))]) (rest := [(.int (3 : Int32)), (.ref b176)]) (lenOf pd_17 rfl) rfl (by show 2 * 0 + _ ≤ _; exact Nat.le_of_eq rfl) (hb hby at_61) (fun _ _ => ⟨rfl, e207, (by decide : 11 + 2 ≤ _), (by decide : 186 + 36 ≤ _)⟩)
    dsimp only [Pt.U, Pt.locs, Pt.cells, Pt.slots] at X212 l212 y212 z212 st212 hQ212 Si212 hKv212 hKh212
    replace l212 := l212.symm
    subst l212 y212 z212
    obtain ⟨rfl, N212q, K212⟩ := hQ212
    have N212 := Fr.app N207 N212q
    refine Goes.via st212 ?_
    obtain ⟨X212', SI212, hZ, hown⟩ := rebS SI202 sk215 X212 Si212 K212.1 hZ hown
    have Ks212 : KS Z own_KL T212.vm T212.heap := by rw [← hKv212, ← hKh212]; exact hK212
    show Goes p e below _ (T212.setTop (mkF m 64 #[vi x0, vi x1, vi (1 : Int32), vi y0, vi y1, vr b176, .unset, .unset, .unset] [(.int (own_tl ((x1.toUInt32 >>> ((9 : Int32) &&& 31).toUInt32).toInt32))), (.int (3 : Int32)), (.ref b176)]))
    have c_t3 := own_tlP ((x1.toUInt32 >>> ((9 : Int32) &&& 31).toUInt32).toInt32)
    generalize (own_tl ((x1.toUInt32 >>> ((9 : Int32) &&& 31).toUInt32).toInt32)) = t3 at *
    show Goes p e below _ (T212.setTop (mkF m 64 #[vi x0, vi x1, vi (1 : Int32), vi y0, vi y1, vr b176, .unset, .unset, .unset] [(.int t3), (.int (3 : Int32)), (.ref b176)]))
    have f216 : Arw Z T212.heap b176 k176 .char 6 (own_upd (own_upd (own_upd (fun _ => (.int 0)) 0 (.int (nar .char t0))) 1 (.int (nar .char t1))) 2 (.int (nar .char t2))) := (A207.keep K212 nin0)
    obtain ⟨T217, h217, X217, e217, W217, A217, st217⟩ := own_castore X212' hx hZ rfl f216 (j := (3 : Int32)) (i := 3) (by decide) (by decide) (by first | decide | omega | (dsimp only; omega)) (g := (mkF m 64 #[vi x0, vi x1, vi (1 : Int32), vi y0, vi y1, vr b176, .unset, .unset, .unset] [(.int t3), (.int (3 : Int32)), (.ref b176)])) rfl rfl (hb hby at_64)
    refine Goes.via st217 ?_
    have N217 := Fr.snoc X217 N212 gn_b176
    show Goes p e below _ (T217.setTop (mkF m 65 #[vi x0, vi x1, vi (1 : Int32), vi y0, vi y1, vr b176, .unset, .unset, .unset] []))
    refine gAL X217 hx hby at_65 rfl rfl ?_
    refine gIC (z := 4) X217 hx hby at_67 rfl ?_
    refine gILN X217 hx hby at_68 rfl ?_
    refine gBI (z := 12) X217 hx hby at_69 rfl ?_
    refine Goes.via (fun _ kk_ => XS.iushr X217.here hx rfl (hb hby at_71) rfl kk_) ?_
    show Goes p e below _ (T217.setTop (mkF m 72 #[vi x0, vi x1, vi (1 : Int32), vi y0, vi y1, vr b176, .unset, .unset, .unset] [(.int ((x1.toUInt32 >>> ((12 : Int32) &&& 31).toUInt32).toInt32)), (.int (4 : Int32)), (.ref b176)]))
    have K218 : Keep h0 h217 [] := ((K208.trans K212 all0).wr W217 (Or.inr sz_b176))
    have f219 : Sta Z h217 "java/lang/String" "COMPACT_STRINGS" "Z" (.int cS) := own_sta_keep OS K218
    have f220 : Sta Z h217 "jdk/internal/util/Preconditions" "SIOOBE_FORMATTER" "Ljava/util/function/BiFunction;" fo := own_sta_keep OF K218
    have ol221 : Old Z n0 (h217) := ((ol211.keep K212 all0).wr W217 gn_b176)
    have z223 : h0.size ≤ (h217).size := (Nat.le_trans (Nat.le_trans z213 K212.1) (Nat.le_of_eq W217.size.symm))
    have Ks224 : KS Z own_KL T212.vm (h217) := (Ks212.wr W217 (NoS.arr f216 (own_w hw 6 rfl) (by intro q; cases q)))
    have sk225 : _ ≤ (h217).size := (Nat.le_trans (Nat.le_refl _) (Nat.le_of_eq W217.size.symm))
    obtain ⟨_, _, ⟨T222, L222, k222, n222⟩, -, ⟨X222, Si222⟩, ⟨Lc222, ⟨hQ222, tK222, hK222, hKv222, hKh222⟩, l222, y222, z222⟩, st222⟩ := own_callSW X217 hx (y := (⟨"com/example/lincra/lincra/UrlNormalizerPathPinLaw", "tailChar", "(I)C"⟩ : MethodName)) hown (mvT hZ (own_w hw 38 rfl)) (mvT hZ (own_w hw 39 rfl)) (mvT hZ (own_w hw 2 rfl)) (mvT hZ (own_w hw 40 rfl)) (by decide) (own_backOfW (W := 2) (K := (fun U_ => KS Z own_KL U_.vm U_.heap)) (KP := (fun U_ => KS Z own_KL U_.vm U_.heap)) (rm7 l Z a0 hw [] ((x1.toUInt32 >>> ((12 : Int32) &&& 31).toUInt32).toInt32) cS fo h217 n0 (Nat.le_trans Z0 z223) f219 H_cs f220 Hfo ol221 HW HC0 HC1 HC2) hZ (own_w hw 40 rfl) (own_w hw 2 rfl) (by decide) (by decide) (fun V_ hV hVh => by show KS Z own_KL V_.vm V_.heap; rw [hVh]; exact Ks224.at_ (s := s) hV)) (g := (mkF m 72 #[vi x0, vi x1, vi (1 : Int32), vi y0, vi y1, vr b176, .unset, .unset, .unset] [(.int ((x1.toUInt32 >>> ((12 : Int32) &&& 31).toUInt32).toInt32)), (.int (4 : Int32)), (.ref b176)])) rfl (by rw [hml]; rfl) (argsL := [(.int ((x1.toUInt32 >>> ((12 : Int32) &&& 31).toUInt32).toInt32))]) (rest := [(.int (4 : Int32)), (.ref b176)]) (lenOf pd_17 rfl) rfl (by show 2 * 0 + _ ≤ _; exact Nat.le_of_eq rfl) (hb hby at_72) (fun _ _ => ⟨rfl, e217, (by decide : 13 + 2 ≤ _), (by decide : 222 + 36 ≤ _)⟩)
    dsimp only [Pt.U, Pt.locs, Pt.cells, Pt.slots] at X222 l222 y222 z222 st222 hQ222 Si222 hKv222 hKh222
    replace l222 := l222.symm
    subst l222 y222 z222
    obtain ⟨rfl, N222q, K222⟩ := hQ222
    have N222 := Fr.app N217 N222q
    refine Goes.via st222 ?_
    obtain ⟨X222', SI222, hZ, hown⟩ := rebS SI212 sk225 X222 Si222 K222.1 hZ hown
    have Ks222 : KS Z own_KL T222.vm T222.heap := by rw [← hKv222, ← hKh222]; exact hK222
    show Goes p e below _ (T222.setTop (mkF m 75 #[vi x0, vi x1, vi (1 : Int32), vi y0, vi y1, vr b176, .unset, .unset, .unset] [(.int (own_tl ((x1.toUInt32 >>> ((12 : Int32) &&& 31).toUInt32).toInt32))), (.int (4 : Int32)), (.ref b176)]))
    have c_t4 := own_tlP ((x1.toUInt32 >>> ((12 : Int32) &&& 31).toUInt32).toInt32)
    generalize (own_tl ((x1.toUInt32 >>> ((12 : Int32) &&& 31).toUInt32).toInt32)) = t4 at *
    show Goes p e below _ (T222.setTop (mkF m 75 #[vi x0, vi x1, vi (1 : Int32), vi y0, vi y1, vr b176, .unset, .unset, .unset] [(.int t4), (.int (4 : Int32)), (.ref b176)]))
    have f226 : Arw Z T222.heap b176 k176 .char 6 (own_upd (own_upd (own_upd (own_upd (fun _ => (.int 0)) 0 (.int (nar .char t0))) 1 (.int (nar .char t1))) 2 (.int (nar .char t2))) 3 (.int (nar .char t3))) := (A217.keep K222 nin0)
    obtain ⟨T227, h227, X227, e227, W227, A227, st227⟩ := own_castore X222' hx hZ rfl f226 (j := (4 : Int32)) (i := 4) (by decide) (by decide) (by first | decide | omega | (dsimp only; omega)) (g := (mkF m 75 #[vi x0, vi x1, vi (1 : Int32), vi y0, vi y1, vr b176, .unset, .unset, .unset] [(.int t4), (.int (4 : Int32)), (.ref b176)])) rfl rfl (hb hby at_75)
    refine Goes.via st227 ?_
    have N227 := Fr.snoc X227 N222 gn_b176
    show Goes p e below _ (T227.setTop (mkF m 76 #[vi x0, vi x1, vi (1 : Int32), vi y0, vi y1, vr b176, .unset, .unset, .unset] []))
    refine gAL X227 hx hby at_76 rfl rfl ?_
    refine gIC (z := 5) X227 hx hby at_78 rfl ?_
    refine gILN X227 hx hby at_79 rfl ?_
    refine gBI (z := 15) X227 hx hby at_80 rfl ?_
    refine Goes.via (fun _ kk_ => XS.iushr X227.here hx rfl (hb hby at_82) rfl kk_) ?_
    show Goes p e below _ (T227.setTop (mkF m 83 #[vi x0, vi x1, vi (1 : Int32), vi y0, vi y1, vr b176, .unset, .unset, .unset] [(.int ((x1.toUInt32 >>> ((15 : Int32) &&& 31).toUInt32).toInt32)), (.int (5 : Int32)), (.ref b176)]))
    have K228 : Keep h0 h227 [] := ((K218.trans K222 all0).wr W227 (Or.inr sz_b176))
    have f229 : Sta Z h227 "java/lang/String" "COMPACT_STRINGS" "Z" (.int cS) := own_sta_keep OS K228
    have f230 : Sta Z h227 "jdk/internal/util/Preconditions" "SIOOBE_FORMATTER" "Ljava/util/function/BiFunction;" fo := own_sta_keep OF K228
    have ol231 : Old Z n0 (h227) := ((ol221.keep K222 all0).wr W227 gn_b176)
    have z233 : h0.size ≤ (h227).size := (Nat.le_trans (Nat.le_trans z223 K222.1) (Nat.le_of_eq W227.size.symm))
    have Ks234 : KS Z own_KL T222.vm (h227) := (Ks222.wr W227 (NoS.arr f226 (own_w hw 6 rfl) (by intro q; cases q)))
    have sk235 : _ ≤ (h227).size := (Nat.le_trans (Nat.le_refl _) (Nat.le_of_eq W227.size.symm))
    obtain ⟨_, _, ⟨T232, L232, k232, n232⟩, -, ⟨X232, Si232⟩, ⟨Lc232, ⟨hQ232, tK232, hK232, hKv232, hKh232⟩, l232, y232, z232⟩, st232⟩ := own_callSW X227 hx (y := (⟨"com/example/lincra/lincra/UrlNormalizerPathPinLaw", "tailChar", "(I)C"⟩ : MethodName)) hown (mvT hZ (own_w hw 38 rfl)) (mvT hZ (own_w hw 39 rfl)) (mvT hZ (own_w hw 2 rfl)) (mvT hZ (own_w hw 40 rfl)) (by decide) (own_backOfW (W := 2) (K := (fun U_ => KS Z own_KL U_.vm U_.heap)) (KP := (fun U_ => KS Z own_KL U_.vm U_.heap)) (rm7 l Z a0 hw [] ((x1.toUInt32 >>> ((15 : Int32) &&& 31).toUInt32).toInt32) cS fo h227 n0 (Nat.le_trans Z0 z233) f229 H_cs f230 Hfo ol231 HW HC0 HC1 HC2) hZ (own_w hw 40 rfl) (own_w hw 2 rfl) (by decide) (by decide) (fun V_ hV hVh => by show KS Z own_KL V_.vm V_.heap; rw [hVh]; exact Ks234.at_ (s := s) hV)) (g := (mkF m 83 #[vi x0, vi x1, vi (1 : Int32), vi y0, vi y1, vr b176, .unset, .unset, .unset] [(.int ((x1.toUInt32 >>> ((15 : Int32) &&& 31).toUInt32).toInt32)), (.int (5 : Int32)), (.ref b176)])) rfl (by rw [hml]; rfl) (argsL := [(.int ((x1.toUInt32 >>> ((15 : Int32) &&& 31).toUInt32).toInt32))]) (rest := [(.int (5 : Int32)), (.ref b176)]) (lenOf pd_17 rfl) rfl (by show 2 * 0 + _ ≤ _; exact Nat.le_of_eq rfl) (hb hby at_83) (fun _ _ => ⟨rfl, e227, (by decide : 15 + 2 ≤ _), (by decide : 258 + 36 ≤ _)⟩)
    dsimp only [Pt.U, Pt.locs, Pt.cells, Pt.slots] at X232 l232 y232 z232 st232 hQ232 Si232 hKv232 hKh232
    replace l232 := l232.symm
    subst l232 y232 z232
    obtain ⟨rfl, N232q, K232⟩ := hQ232
    have N232 := Fr.app N227 N232q
    refine Goes.via st232 ?_
    obtain ⟨X232', SI232, hZ, hown⟩ := rebS SI222 sk235 X232 Si232 K232.1 hZ hown
    have Ks232 : KS Z own_KL T232.vm T232.heap := by rw [← hKv232, ← hKh232]; exact hK232
    show Goes p e below _ (T232.setTop (mkF m 86 #[vi x0, vi x1, vi (1 : Int32), vi y0, vi y1, vr b176, .unset, .unset, .unset] [(.int (own_tl ((x1.toUInt32 >>> ((15 : Int32) &&& 31).toUInt32).toInt32))), (.int (5 : Int32)), (.ref b176)]))
    have c_t5 := own_tlP ((x1.toUInt32 >>> ((15 : Int32) &&& 31).toUInt32).toInt32)
    generalize (own_tl ((x1.toUInt32 >>> ((15 : Int32) &&& 31).toUInt32).toInt32)) = t5 at *
    show Goes p e below _ (T232.setTop (mkF m 86 #[vi x0, vi x1, vi (1 : Int32), vi y0, vi y1, vr b176, .unset, .unset, .unset] [(.int t5), (.int (5 : Int32)), (.ref b176)]))
    have f236 : Arw Z T232.heap b176 k176 .char 6 (own_upd (own_upd (own_upd (own_upd (own_upd (fun _ => (.int 0)) 0 (.int (nar .char t0))) 1 (.int (nar .char t1))) 2 (.int (nar .char t2))) 3 (.int (nar .char t3))) 4 (.int (nar .char t4))) := (A227.keep K232 nin0)
    obtain ⟨T237, h237, X237, e237, W237, A237, st237⟩ := own_castore X232' hx hZ rfl f236 (j := (5 : Int32)) (i := 5) (by decide) (by decide) (by first | decide | omega | (dsimp only; omega)) (g := (mkF m 86 #[vi x0, vi x1, vi (1 : Int32), vi y0, vi y1, vr b176, .unset, .unset, .unset] [(.int t5), (.int (5 : Int32)), (.ref b176)])) rfl rfl (hb hby at_86)
    refine Goes.via st237 ?_
    have N237 := Fr.snoc X237 N232 gn_b176
    show Goes p e below _ (T237.setTop (mkF m 87 #[vi x0, vi x1, vi (1 : Int32), vi y0, vi y1, vr b176, .unset, .unset, .unset] []))
    refine gBI (z := 16) X237 hx hby at_87 rfl ?_
    obtain ⟨T238, h238, k238, X238, e238, E238, A238, st238⟩ := own_newP X237 hx hZ (own_w hw 37 rfl) e237 (g := (mkF m 89 #[vi x0, vi x1, vi (1 : Int32), vi y0, vi y1, vr b176, .unset, .unset, .unset] [(.int (16 : Int32))])) rfl (hb hby at_89) rfl (n := (16 : Int32)) (N := 16) (by decide) (by decide) (cap := 16) (by first | decide | omega | (dsimp only; omega)) (by first | decide | omega | (dsimp only; omega)) (by first | decide | omega | (dsimp only; omega)) (by first | decide | omega | (dsimp only; omega))
    obtain ⟨b238, g238⟩ : ∃ z, z = (h237).size := ⟨_, rfl⟩
    rw [← g238] at A238 st238
    have lne239 : b176 < b238 := Nat.lt_of_lt_of_le A237.lt (Nat.le_of_eq g238.symm)
    have ne239 : b176 ≠ b238 := Nat.ne_of_lt lne239
    have z240 : h0.size ≤ (h237).size := (Nat.le_trans (Nat.le_trans z233 K232.1) (Nat.le_of_eq W237.size.symm))
    have sz_b238 : h0.size ≤ b238 := Nat.le_trans z240 (Nat.le_of_eq g238.symm)
    have gn_b238 : n0 ≤ b238 := Nat.le_trans Z0 sz_b238
    refine Goes.via st238 ?_
    show Goes p e below _ (T238.setTop (mkF m 91 #[vi x0, vi x1, vi (1 : Int32), vi y0, vi y1, vr b176, .unset, .unset, .unset] [(.ref b238)]))
    refine Goes.via (fun _ kk_ => XS.astore X238.here hx rfl (hb hby at_91) rfl rfl (l' := #[vi x0, vi x1, vi (1 : Int32), vi y0, vi y1, vr b176, vr b238, .unset, .unset]) rfl kk_) ?_
    show Goes p e below _ (T238.setTop (mkF m 93 #[vi x0, vi x1, vi (1 : Int32), vi y0, vi y1, vr b176, vr b238, .unset, .unset] []))
    refine gAL X238 hx hby at_93 rfl rfl ?_
    refine gIC (z := 0) X238 hx hby at_95 rfl ?_
    refine gBI (z := 104) X238 hx hby at_96 rfl ?_
    obtain ⟨T241, h241, X241, e241, W241, A241, st241⟩ := own_castore X238 hx hZ e238 A238 (j := (0 : Int32)) (i := 0) (by decide) (by decide) (by first | decide | omega | (dsimp only; omega)) (g := (mkF m 98 #[vi x0, vi x1, vi (1 : Int32), vi y0, vi y1, vr b176, vr b238, .unset, .unset] [(.int (104 : Int32)), (.int (0 : Int32)), (.ref b238)])) rfl rfl (hb hby at_98)
    refine Goes.via st241 ?_
    have N241 := Fr.snoc X241 N237 gn_b238
    show Goes p e below _ (T241.setTop (mkF m 99 #[vi x0, vi x1, vi (1 : Int32), vi y0, vi y1, vr b176, vr b238, .unset, .unset] []))
    refine gAL X241 hx hby at_99 rfl rfl ?_
    refine gIC (z := 1) X241 hx hby at_101 rfl ?_
    refine gBI (z := 116) X241 hx hby at_102 rfl ?_
    obtain ⟨T242, h242, X242, e242, W242, A242, st242⟩ := own_castore X241 hx hZ e241 A241 (j := (1 : Int32)) (i := 1) (by decide) (by decide) (by first | decide | omega | (dsimp only; omega)) (g := (mkF m 104 #[vi x0, vi x1, vi (1 : Int32), vi y0, vi y1, vr b176, vr b238, .unset, .unset] [(.int (116 : Int32)), (.int (1 : Int32)), (.ref b238)])) rfl rfl (hb hby at_104)
    refine Goes.via st242 ?_
    have N242 := Fr.snoc X242 N241 gn_b238
    show Goes p e below _ (T242.setTop (mkF m 105 #[vi x0, vi x1, vi (1 : Int32), vi y0, vi y1, vr b176, vr b238, .unset, .unset] []))
    refine gAL X242 hx hby at_105 rfl rfl ?_
    refine gIC (z := 2) X242 hx hby at_107 rfl ?_
    refine gBI (z := 116) X242 hx hby at_108 rfl ?_
    obtain ⟨T243, h243, X243, e243, W243, A243, st243⟩ := own_castore X242 hx hZ e242 A242 (j := (2 : Int32)) (i := 2) (by decide) (by decide) (by first | decide | omega | (dsimp only; omega)) (g := (mkF m 110 #[vi x0, vi x1, vi (1 : Int32), vi y0, vi y1, vr b176, vr b238, .unset, .unset] [(.int (116 : Int32)), (.int (2 : Int32)), (.ref b238)])) rfl rfl (hb hby at_110)
    refine Goes.via st243 ?_
    have N243 := Fr.snoc X243 N242 gn_b238
    show Goes p e below _ (T243.setTop (mkF m 111 #[vi x0, vi x1, vi (1 : Int32), vi y0, vi y1, vr b176, vr b238, .unset, .unset] []))
    refine gAL X243 hx hby at_111 rfl rfl ?_
    refine gIC (z := 3) X243 hx hby at_113 rfl ?_
    refine gBI (z := 112) X243 hx hby at_114 rfl ?_
    obtain ⟨T244, h244, X244, e244, W244, A244, st244⟩ := own_castore X243 hx hZ e243 A243 (j := (3 : Int32)) (i := 3) (by decide) (by decide) (by first | decide | omega | (dsimp only; omega)) (g := (mkF m 116 #[vi x0, vi x1, vi (1 : Int32), vi y0, vi y1, vr b176, vr b238, .unset, .unset] [(.int (112 : Int32)), (.int (3 : Int32)), (.ref b238)])) rfl rfl (hb hby at_116)
    refine Goes.via st244 ?_
    have N244 := Fr.snoc X244 N243 gn_b238
    show Goes p e below _ (T244.setTop (mkF m 117 #[vi x0, vi x1, vi (1 : Int32), vi y0, vi y1, vr b176, vr b238, .unset, .unset] []))
    refine gILN X244 hx hby at_117 rfl ?_
    refine gIC (z := 1) X244 hx hby at_118 rfl ?_
    have hc119_245 : (1 : Int32) = (1 : Int32) := (by decide)
    refine Goes.via (fun _ kk_ => XS.icmpNo X244.here hx rfl (hb hby at_119) rfl (teq hc119_245).2 kk_) ?_
    show Goes p e below _ (T244.setTop (mkF m 122 #[vi x0, vi x1, vi (1 : Int32), vi y0, vi y1, vr b176, vr b238, .unset, .unset] []))
    refine gAL X244 hx hby at_122 rfl rfl ?_
    refine gIC (z := 4) X244 hx hby at_124 rfl ?_
    refine gBI (z := 115) X244 hx hby at_125 rfl ?_
    obtain ⟨T246, h246, X246, e246, W246, A246, st246⟩ := own_castore X244 hx hZ e244 A244 (j := (4 : Int32)) (i := 4) (by decide) (by decide) (by first | decide | omega | (dsimp only; omega)) (g := (mkF m 127 #[vi x0, vi x1, vi (1 : Int32), vi y0, vi y1, vr b176, vr b238, .unset, .unset] [(.int (115 : Int32)), (.int (4 : Int32)), (.ref b238)])) rfl rfl (hb hby at_127)
    refine Goes.via st246 ?_
    have N246 := Fr.snoc X246 N244 gn_b238
    show Goes p e below _ (T246.setTop (mkF m 128 #[vi x0, vi x1, vi (1 : Int32), vi y0, vi y1, vr b176, vr b238, .unset, .unset] []))
    refine gAL X246 hx hby at_128 rfl rfl ?_
    refine gIC (z := 4) X246 hx hby at_130 rfl ?_
    refine gILN X246 hx hby at_131 rfl ?_
    refine Goes.via (fun _ kk_ => XS.iadd X246.here hx rfl (hb hby at_132) rfl kk_) ?_
    show Goes p e below _ (T246.setTop (mkF m 133 #[vi x0, vi x1, vi (1 : Int32), vi y0, vi y1, vr b176, vr b238, .unset, .unset] [(.int ((4 : Int32) + (1 : Int32))), (.ref b238)]))
    rw [show ((4 : Int32) + (1 : Int32)) = (5 : Int32) from by decide]
    show Goes p e below _ (T246.setTop (mkF m 133 #[vi x0, vi x1, vi (1 : Int32), vi y0, vi y1, vr b176, vr b238, .unset, .unset] [(.int (5 : Int32)), (.ref b238)]))
    refine gBI (z := 58) X246 hx hby at_133 rfl ?_
    obtain ⟨T247, h247, X247, e247, W247, A247, st247⟩ := own_castore X246 hx hZ e246 A246 (j := (5 : Int32)) (i := 5) (by decide) (by decide) (by first | decide | omega | (dsimp only; omega)) (g := (mkF m 135 #[vi x0, vi x1, vi (1 : Int32), vi y0, vi y1, vr b176, vr b238, .unset, .unset] [(.int (58 : Int32)), (.int (5 : Int32)), (.ref b238)])) rfl rfl (hb hby at_135)
    refine Goes.via st247 ?_
    have N247 := Fr.snoc X247 N246 gn_b238
    show Goes p e below _ (T247.setTop (mkF m 136 #[vi x0, vi x1, vi (1 : Int32), vi y0, vi y1, vr b176, vr b238, .unset, .unset] []))
    refine gAL X247 hx hby at_136 rfl rfl ?_
    refine gIC (z := 5) X247 hx hby at_138 rfl ?_
    refine gILN X247 hx hby at_139 rfl ?_
    refine Goes.via (fun _ kk_ => XS.iadd X247.here hx rfl (hb hby at_140) rfl kk_) ?_
    show Goes p e below _ (T247.setTop (mkF m 141 #[vi x0, vi x1, vi (1 : Int32), vi y0, vi y1, vr b176, vr b238, .unset, .unset] [(.int ((5 : Int32) + (1 : Int32))), (.ref b238)]))
    rw [show ((5 : Int32) + (1 : Int32)) = (6 : Int32) from by decide]
    show Goes p e below _ (T247.setTop (mkF m 141 #[vi x0, vi x1, vi (1 : Int32), vi y0, vi y1, vr b176, vr b238, .unset, .unset] [(.int (6 : Int32)), (.ref b238)]))
    refine gBI (z := 47) X247 hx hby at_141 rfl ?_
    obtain ⟨T248, h248, X248, e248, W248, A248, st248⟩ := own_castore X247 hx hZ e247 A247 (j := (6 : Int32)) (i := 6) (by decide) (by decide) (by first | decide | omega | (dsimp only; omega)) (g := (mkF m 143 #[vi x0, vi x1, vi (1 : Int32), vi y0, vi y1, vr b176, vr b238, .unset, .unset] [(.int (47 : Int32)), (.int (6 : Int32)), (.ref b238)])) rfl rfl (hb hby at_143)
    refine Goes.via st248 ?_
    have N248 := Fr.snoc X248 N247 gn_b238
    show Goes p e below _ (T248.setTop (mkF m 144 #[vi x0, vi x1, vi (1 : Int32), vi y0, vi y1, vr b176, vr b238, .unset, .unset] []))
    refine gAL X248 hx hby at_144 rfl rfl ?_
    refine gBI (z := 6) X248 hx hby at_146 rfl ?_
    refine gILN X248 hx hby at_148 rfl ?_
    refine Goes.via (fun _ kk_ => XS.iadd X248.here hx rfl (hb hby at_149) rfl kk_) ?_
    show Goes p e below _ (T248.setTop (mkF m 150 #[vi x0, vi x1, vi (1 : Int32), vi y0, vi y1, vr b176, vr b238, .unset, .unset] [(.int ((6 : Int32) + (1 : Int32))), (.ref b238)]))
    rw [show ((6 : Int32) + (1 : Int32)) = (7 : Int32) from by decide]
    show Goes p e below _ (T248.setTop (mkF m 150 #[vi x0, vi x1, vi (1 : Int32), vi y0, vi y1, vr b176, vr b238, .unset, .unset] [(.int (7 : Int32)), (.ref b238)]))
    refine gBI (z := 47) X248 hx hby at_150 rfl ?_
    obtain ⟨T249, h249, X249, e249, W249, A249, st249⟩ := own_castore X248 hx hZ e248 A248 (j := (7 : Int32)) (i := 7) (by decide) (by decide) (by first | decide | omega | (dsimp only; omega)) (g := (mkF m 152 #[vi x0, vi x1, vi (1 : Int32), vi y0, vi y1, vr b176, vr b238, .unset, .unset] [(.int (47 : Int32)), (.int (7 : Int32)), (.ref b238)])) rfl rfl (hb hby at_152)
    refine Goes.via st249 ?_
    have N249 := Fr.snoc X249 N248 gn_b238
    show Goes p e below _ (T249.setTop (mkF m 153 #[vi x0, vi x1, vi (1 : Int32), vi y0, vi y1, vr b176, vr b238, .unset, .unset] []))
    refine gAL X249 hx hby at_153 rfl rfl ?_
    refine gBI (z := 7) X249 hx hby at_155 rfl ?_
    refine gILN X249 hx hby at_157 rfl ?_
    refine Goes.via (fun _ kk_ => XS.iadd X249.here hx rfl (hb hby at_158) rfl kk_) ?_
    show Goes p e below _ (T249.setTop (mkF m 159 #[vi x0, vi x1, vi (1 : Int32), vi y0, vi y1, vr b176, vr b238, .unset, .unset] [(.int ((7 : Int32) + (1 : Int32))), (.ref b238)]))
    rw [show ((7 : Int32) + (1 : Int32)) = (8 : Int32) from by decide]
    show Goes p e below _ (T249.setTop (mkF m 159 #[vi x0, vi x1, vi (1 : Int32), vi y0, vi y1, vr b176, vr b238, .unset, .unset] [(.int (8 : Int32)), (.ref b238)]))
    refine gILN X249 hx hby at_159 rfl ?_
    obtain ⟨T250, h250, X250, e250, W250, A250, st250⟩ := own_castore X249 hx hZ e249 A249 (j := (8 : Int32)) (i := 8) (by decide) (by decide) (by first | decide | omega | (dsimp only; omega)) (g := (mkF m 160 #[vi x0, vi x1, vi (1 : Int32), vi y0, vi y1, vr b176, vr b238, .unset, .unset] [(.int y0), (.int (8 : Int32)), (.ref b238)])) rfl rfl (hb hby at_160)
    refine Goes.via st250 ?_
    have N250 := Fr.snoc X250 N249 gn_b238
    show Goes p e below _ (T250.setTop (mkF m 161 #[vi x0, vi x1, vi (1 : Int32), vi y0, vi y1, vr b176, vr b238, .unset, .unset] []))
    refine gAL X250 hx hby at_161 rfl rfl ?_
    refine gBI (z := 8) X250 hx hby at_163 rfl ?_
    refine gILN X250 hx hby at_165 rfl ?_
    refine Goes.via (fun _ kk_ => XS.iadd X250.here hx rfl (hb hby at_166) rfl kk_) ?_
    show Goes p e below _ (T250.setTop (mkF m 167 #[vi x0, vi x1, vi (1 : Int32), vi y0, vi y1, vr b176, vr b238, .unset, .unset] [(.int ((8 : Int32) + (1 : Int32))), (.ref b238)]))
    rw [show ((8 : Int32) + (1 : Int32)) = (9 : Int32) from by decide]
    show Goes p e below _ (T250.setTop (mkF m 167 #[vi x0, vi x1, vi (1 : Int32), vi y0, vi y1, vr b176, vr b238, .unset, .unset] [(.int (9 : Int32)), (.ref b238)]))
    refine gIL X250 hx hby at_167 rfl ?_
    obtain ⟨T251, h251, X251, e251, W251, A251, st251⟩ := own_castore X250 hx hZ e250 A250 (j := (9 : Int32)) (i := 9) (by decide) (by decide) (by first | decide | omega | (dsimp only; omega)) (g := (mkF m 169 #[vi x0, vi x1, vi (1 : Int32), vi y0, vi y1, vr b176, vr b238, .unset, .unset] [(.int y1), (.int (9 : Int32)), (.ref b238)])) rfl rfl (hb hby at_169)
    refine Goes.via st251 ?_
    have N251 := Fr.snoc X251 N250 gn_b238
    show Goes p e below _ (T251.setTop (mkF m 170 #[vi x0, vi x1, vi (1 : Int32), vi y0, vi y1, vr b176, vr b238, .unset, .unset] []))
    refine gAL X251 hx hby at_170 rfl rfl ?_
    refine gBI (z := 9) X251 hx hby at_172 rfl ?_
    refine gILN X251 hx hby at_174 rfl ?_
    refine Goes.via (fun _ kk_ => XS.iadd X251.here hx rfl (hb hby at_175) rfl kk_) ?_
    show Goes p e below _ (T251.setTop (mkF m 176 #[vi x0, vi x1, vi (1 : Int32), vi y0, vi y1, vr b176, vr b238, .unset, .unset] [(.int ((9 : Int32) + (1 : Int32))), (.ref b238)]))
    rw [show ((9 : Int32) + (1 : Int32)) = (10 : Int32) from by decide]
    show Goes p e below _ (T251.setTop (mkF m 176 #[vi x0, vi x1, vi (1 : Int32), vi y0, vi y1, vr b176, vr b238, .unset, .unset] [(.int (10 : Int32)), (.ref b238)]))
    refine gBI (z := 47) X251 hx hby at_176 rfl ?_
    obtain ⟨T252, h252, X252, e252, W252, A252, st252⟩ := own_castore X251 hx hZ e251 A251 (j := (10 : Int32)) (i := 10) (by decide) (by decide) (by first | decide | omega | (dsimp only; omega)) (g := (mkF m 178 #[vi x0, vi x1, vi (1 : Int32), vi y0, vi y1, vr b176, vr b238, .unset, .unset] [(.int (47 : Int32)), (.int (10 : Int32)), (.ref b238)])) rfl rfl (hb hby at_178)
    refine Goes.via st252 ?_
    have N252 := Fr.snoc X252 N251 gn_b238
    show Goes p e below _ (T252.setTop (mkF m 179 #[vi x0, vi x1, vi (1 : Int32), vi y0, vi y1, vr b176, vr b238, .unset, .unset] []))
    refine gAL X252 hx hby at_179 rfl rfl ?_
    refine gBI (z := 10) X252 hx hby at_181 rfl ?_
    refine gILN X252 hx hby at_183 rfl ?_
    refine Goes.via (fun _ kk_ => XS.iadd X252.here hx rfl (hb hby at_184) rfl kk_) ?_
    show Goes p e below _ (T252.setTop (mkF m 185 #[vi x0, vi x1, vi (1 : Int32), vi y0, vi y1, vr b176, vr b238, .unset, .unset] [(.int ((10 : Int32) + (1 : Int32))), (.ref b238)]))
    rw [show ((10 : Int32) + (1 : Int32)) = (11 : Int32) from by decide]
    show Goes p e below _ (T252.setTop (mkF m 185 #[vi x0, vi x1, vi (1 : Int32), vi y0, vi y1, vr b176, vr b238, .unset, .unset] [(.int (11 : Int32)), (.ref b238)]))
    refine gAL X252 hx hby at_185 rfl rfl ?_
    refine gIC (z := 0) X252 hx hby at_187 rfl ?_
    have f253 : Arw Z h252 b176 k176 .char 6 (own_upd (own_upd (own_upd (own_upd (own_upd (own_upd (fun _ => (.int 0)) 0 (.int (nar .char t0))) 1 (.int (nar .char t1))) 2 (.int (nar .char t2))) 3 (.int (nar .char t3))) 4 (.int (nar .char t4))) 5 (.int (nar .char t5))) := ((((((((((((A237.ext E238).other W241 ne239).other W242 ne239).other W243 ne239).other W244 ne239).other W246 ne239).other W247 ne239).other W248 ne239).other W249 ne239).other W250 ne239).other W251 ne239).other W252 ne239)
    refine Goes.via (own_caload X252 hx hZ e252 f253 (j := (0 : Int32)) (i := 0) (by decide) (by decide) (by decide) (v := t0) (Eq.trans rfl (congrArg Value.int c_t0.1)) (g := (mkF m 188 #[vi x0, vi x1, vi (1 : Int32), vi y0, vi y1, vr b176, vr b238, .unset, .unset] [(.int (0 : Int32)), (.ref b176), (.int (11 : Int32)), (.ref b238)])) rfl rfl (hb hby at_188)) ?_
    show Goes p e below _ (T252.setTop (mkF m 189 #[vi x0, vi x1, vi (1 : Int32), vi y0, vi y1, vr b176, vr b238, .unset, .unset] [(.int t0), (.int (11 : Int32)), (.ref b238)]))
    obtain ⟨T254, h254, X254, e254, W254, A254, st254⟩ := own_castore X252 hx hZ e252 A252 (j := (11 : Int32)) (i := 11) (by decide) (by decide) (by first | decide | omega | (dsimp only; omega)) (g := (mkF m 189 #[vi x0, vi x1, vi (1 : Int32), vi y0, vi y1, vr b176, vr b238, .unset, .unset] [(.int t0), (.int (11 : Int32)), (.ref b238)])) rfl rfl (hb hby at_189)
    refine Goes.via st254 ?_
    have N254 := Fr.snoc X254 N252 gn_b238
    show Goes p e below _ (T254.setTop (mkF m 190 #[vi x0, vi x1, vi (1 : Int32), vi y0, vi y1, vr b176, vr b238, .unset, .unset] []))
    refine gAL X254 hx hby at_190 rfl rfl ?_
    refine gBI (z := 11) X254 hx hby at_192 rfl ?_
    refine gILN X254 hx hby at_194 rfl ?_
    refine Goes.via (fun _ kk_ => XS.iadd X254.here hx rfl (hb hby at_195) rfl kk_) ?_
    show Goes p e below _ (T254.setTop (mkF m 196 #[vi x0, vi x1, vi (1 : Int32), vi y0, vi y1, vr b176, vr b238, .unset, .unset] [(.int ((11 : Int32) + (1 : Int32))), (.ref b238)]))
    rw [show ((11 : Int32) + (1 : Int32)) = (12 : Int32) from by decide]
    show Goes p e below _ (T254.setTop (mkF m 196 #[vi x0, vi x1, vi (1 : Int32), vi y0, vi y1, vr b176, vr b238, .unset, .unset] [(.int (12 : Int32)), (.ref b238)]))
    refine gAL X254 hx hby at_196 rfl rfl ?_
    refine gIC (z := 1) X254 hx hby at_198 rfl ?_
    have f255 : Arw Z h254 b176 k176 .char 6 (own_upd (own_upd (own_upd (own_upd (own_upd (own_upd (fun _ => (.int 0)) 0 (.int (nar .char t0))) 1 (.int (nar .char t1))) 2 (.int (nar .char t2))) 3 (.int (nar .char t3))) 4 (.int (nar .char t4))) 5 (.int (nar .char t5))) := (f253.other W254 ne239)
    refine Goes.via (own_caload X254 hx hZ e254 f255 (j := (1 : Int32)) (i := 1) (by decide) (by decide) (by decide) (v := t1) (Eq.trans rfl (congrArg Value.int c_t1.1)) (g := (mkF m 199 #[vi x0, vi x1, vi (1 : Int32), vi y0, vi y1, vr b176, vr b238, .unset, .unset] [(.int (1 : Int32)), (.ref b176), (.int (12 : Int32)), (.ref b238)])) rfl rfl (hb hby at_199)) ?_
    show Goes p e below _ (T254.setTop (mkF m 200 #[vi x0, vi x1, vi (1 : Int32), vi y0, vi y1, vr b176, vr b238, .unset, .unset] [(.int t1), (.int (12 : Int32)), (.ref b238)]))
    obtain ⟨T256, h256, X256, e256, W256, A256, st256⟩ := own_castore X254 hx hZ e254 A254 (j := (12 : Int32)) (i := 12) (by decide) (by decide) (by first | decide | omega | (dsimp only; omega)) (g := (mkF m 200 #[vi x0, vi x1, vi (1 : Int32), vi y0, vi y1, vr b176, vr b238, .unset, .unset] [(.int t1), (.int (12 : Int32)), (.ref b238)])) rfl rfl (hb hby at_200)
    refine Goes.via st256 ?_
    have N256 := Fr.snoc X256 N254 gn_b238
    show Goes p e below _ (T256.setTop (mkF m 201 #[vi x0, vi x1, vi (1 : Int32), vi y0, vi y1, vr b176, vr b238, .unset, .unset] []))
    refine gAL X256 hx hby at_201 rfl rfl ?_
    refine gBI (z := 12) X256 hx hby at_203 rfl ?_
    refine gILN X256 hx hby at_205 rfl ?_
    refine Goes.via (fun _ kk_ => XS.iadd X256.here hx rfl (hb hby at_206) rfl kk_) ?_
    show Goes p e below _ (T256.setTop (mkF m 207 #[vi x0, vi x1, vi (1 : Int32), vi y0, vi y1, vr b176, vr b238, .unset, .unset] [(.int ((12 : Int32) + (1 : Int32))), (.ref b238)]))
    rw [show ((12 : Int32) + (1 : Int32)) = (13 : Int32) from by decide]
    show Goes p e below _ (T256.setTop (mkF m 207 #[vi x0, vi x1, vi (1 : Int32), vi y0, vi y1, vr b176, vr b238, .unset, .unset] [(.int (13 : Int32)), (.ref b238)]))
    refine gAL X256 hx hby at_207 rfl rfl ?_
    refine gIC (z := 2) X256 hx hby at_209 rfl ?_
    have f257 : Arw Z h256 b176 k176 .char 6 (own_upd (own_upd (own_upd (own_upd (own_upd (own_upd (fun _ => (.int 0)) 0 (.int (nar .char t0))) 1 (.int (nar .char t1))) 2 (.int (nar .char t2))) 3 (.int (nar .char t3))) 4 (.int (nar .char t4))) 5 (.int (nar .char t5))) := (f255.other W256 ne239)
    refine Goes.via (own_caload X256 hx hZ e256 f257 (j := (2 : Int32)) (i := 2) (by decide) (by decide) (by decide) (v := t2) (Eq.trans rfl (congrArg Value.int c_t2.1)) (g := (mkF m 210 #[vi x0, vi x1, vi (1 : Int32), vi y0, vi y1, vr b176, vr b238, .unset, .unset] [(.int (2 : Int32)), (.ref b176), (.int (13 : Int32)), (.ref b238)])) rfl rfl (hb hby at_210)) ?_
    show Goes p e below _ (T256.setTop (mkF m 211 #[vi x0, vi x1, vi (1 : Int32), vi y0, vi y1, vr b176, vr b238, .unset, .unset] [(.int t2), (.int (13 : Int32)), (.ref b238)]))
    obtain ⟨T258, h258, X258, e258, W258, A258, st258⟩ := own_castore X256 hx hZ e256 A256 (j := (13 : Int32)) (i := 13) (by decide) (by decide) (by first | decide | omega | (dsimp only; omega)) (g := (mkF m 211 #[vi x0, vi x1, vi (1 : Int32), vi y0, vi y1, vr b176, vr b238, .unset, .unset] [(.int t2), (.int (13 : Int32)), (.ref b238)])) rfl rfl (hb hby at_211)
    refine Goes.via st258 ?_
    have N258 := Fr.snoc X258 N256 gn_b238
    show Goes p e below _ (T258.setTop (mkF m 212 #[vi x0, vi x1, vi (1 : Int32), vi y0, vi y1, vr b176, vr b238, .unset, .unset] []))
    refine gAL X258 hx hby at_212 rfl rfl ?_
    refine gBI (z := 13) X258 hx hby at_214 rfl ?_
    refine gILN X258 hx hby at_216 rfl ?_
    refine Goes.via (fun _ kk_ => XS.iadd X258.here hx rfl (hb hby at_217) rfl kk_) ?_
    show Goes p e below _ (T258.setTop (mkF m 218 #[vi x0, vi x1, vi (1 : Int32), vi y0, vi y1, vr b176, vr b238, .unset, .unset] [(.int ((13 : Int32) + (1 : Int32))), (.ref b238)]))
    rw [show ((13 : Int32) + (1 : Int32)) = (14 : Int32) from by decide]
    show Goes p e below _ (T258.setTop (mkF m 218 #[vi x0, vi x1, vi (1 : Int32), vi y0, vi y1, vr b176, vr b238, .unset, .unset] [(.int (14 : Int32)), (.ref b238)]))
    refine gAL X258 hx hby at_218 rfl rfl ?_
    refine gIC (z := 3) X258 hx hby at_220 rfl ?_
    have f259 : Arw Z h258 b176 k176 .char 6 (own_upd (own_upd (own_upd (own_upd (own_upd (own_upd (fun _ => (.int 0)) 0 (.int (nar .char t0))) 1 (.int (nar .char t1))) 2 (.int (nar .char t2))) 3 (.int (nar .char t3))) 4 (.int (nar .char t4))) 5 (.int (nar .char t5))) := (f257.other W258 ne239)
    refine Goes.via (own_caload X258 hx hZ e258 f259 (j := (3 : Int32)) (i := 3) (by decide) (by decide) (by decide) (v := t3) (Eq.trans rfl (congrArg Value.int c_t3.1)) (g := (mkF m 221 #[vi x0, vi x1, vi (1 : Int32), vi y0, vi y1, vr b176, vr b238, .unset, .unset] [(.int (3 : Int32)), (.ref b176), (.int (14 : Int32)), (.ref b238)])) rfl rfl (hb hby at_221)) ?_
    show Goes p e below _ (T258.setTop (mkF m 222 #[vi x0, vi x1, vi (1 : Int32), vi y0, vi y1, vr b176, vr b238, .unset, .unset] [(.int t3), (.int (14 : Int32)), (.ref b238)]))
    obtain ⟨T260, h260, X260, e260, W260, A260, st260⟩ := own_castore X258 hx hZ e258 A258 (j := (14 : Int32)) (i := 14) (by decide) (by decide) (by first | decide | omega | (dsimp only; omega)) (g := (mkF m 222 #[vi x0, vi x1, vi (1 : Int32), vi y0, vi y1, vr b176, vr b238, .unset, .unset] [(.int t3), (.int (14 : Int32)), (.ref b238)])) rfl rfl (hb hby at_222)
    refine Goes.via st260 ?_
    have N260 := Fr.snoc X260 N258 gn_b238
    show Goes p e below _ (T260.setTop (mkF m 223 #[vi x0, vi x1, vi (1 : Int32), vi y0, vi y1, vr b176, vr b238, .unset, .unset] []))
    refine gAL X260 hx hby at_223 rfl rfl ?_
    refine gBI (z := 14) X260 hx hby at_225 rfl ?_
    refine gILN X260 hx hby at_227 rfl ?_
    refine Goes.via (fun _ kk_ => XS.iadd X260.here hx rfl (hb hby at_228) rfl kk_) ?_
    show Goes p e below _ (T260.setTop (mkF m 229 #[vi x0, vi x1, vi (1 : Int32), vi y0, vi y1, vr b176, vr b238, .unset, .unset] [(.int ((14 : Int32) + (1 : Int32))), (.ref b238)]))
    rw [show ((14 : Int32) + (1 : Int32)) = (15 : Int32) from by decide]
    show Goes p e below _ (T260.setTop (mkF m 229 #[vi x0, vi x1, vi (1 : Int32), vi y0, vi y1, vr b176, vr b238, .unset, .unset] [(.int (15 : Int32)), (.ref b238)]))
    refine gAL X260 hx hby at_229 rfl rfl ?_
    refine gIC (z := 4) X260 hx hby at_231 rfl ?_
    have f261 : Arw Z h260 b176 k176 .char 6 (own_upd (own_upd (own_upd (own_upd (own_upd (own_upd (fun _ => (.int 0)) 0 (.int (nar .char t0))) 1 (.int (nar .char t1))) 2 (.int (nar .char t2))) 3 (.int (nar .char t3))) 4 (.int (nar .char t4))) 5 (.int (nar .char t5))) := (f259.other W260 ne239)
    refine Goes.via (own_caload X260 hx hZ e260 f261 (j := (4 : Int32)) (i := 4) (by decide) (by decide) (by decide) (v := t4) (Eq.trans rfl (congrArg Value.int c_t4.1)) (g := (mkF m 232 #[vi x0, vi x1, vi (1 : Int32), vi y0, vi y1, vr b176, vr b238, .unset, .unset] [(.int (4 : Int32)), (.ref b176), (.int (15 : Int32)), (.ref b238)])) rfl rfl (hb hby at_232)) ?_
    show Goes p e below _ (T260.setTop (mkF m 233 #[vi x0, vi x1, vi (1 : Int32), vi y0, vi y1, vr b176, vr b238, .unset, .unset] [(.int t4), (.int (15 : Int32)), (.ref b238)]))
    obtain ⟨T262, h262, X262, e262, W262, A262, st262⟩ := own_castore X260 hx hZ e260 A260 (j := (15 : Int32)) (i := 15) (by decide) (by decide) (by first | decide | omega | (dsimp only; omega)) (g := (mkF m 233 #[vi x0, vi x1, vi (1 : Int32), vi y0, vi y1, vr b176, vr b238, .unset, .unset] [(.int t4), (.int (15 : Int32)), (.ref b238)])) rfl rfl (hb hby at_233)
    refine Goes.via st262 ?_
    have N262 := Fr.snoc X262 N260 gn_b238
    show Goes p e below _ (T262.setTop (mkF m 234 #[vi x0, vi x1, vi (1 : Int32), vi y0, vi y1, vr b176, vr b238, .unset, .unset] []))
    refine gILN X262 hx hby at_234 rfl ?_
    have hc235_263 : ¬ ((1 : Int32) = (0 : Int32)) := (by decide)
    refine Goes.via (fun _ kk_ => XS.ifYes X262.here hx rfl (pc0 := 235) (pc' := 247) rfl (hb hby at_235) rfl ((if0 _ _).trans (feq hc235_263).2) (by decide) (by decide) kk_) ?_
    show Goes p e below _ (T262.setTop (mkF m 247 #[vi x0, vi x1, vi (1 : Int32), vi y0, vi y1, vr b176, vr b238, .unset, .unset] []))
    refine gBI (z := 6) X262 hx hby at_247 rfl ?_
    refine gILN X262 hx hby at_249 rfl ?_
    refine Goes.via (fun _ kk_ => XS.isub X262.here hx rfl (hb hby at_250) rfl kk_) ?_
    show Goes p e below _ (T262.setTop (mkF m 251 #[vi x0, vi x1, vi (1 : Int32), vi y0, vi y1, vr b176, vr b238, .unset, .unset] [(.int ((6 : Int32) - (1 : Int32)))]))
    rw [show ((6 : Int32) - (1 : Int32)) = (5 : Int32) from by decide]
    show Goes p e below _ (T262.setTop (mkF m 251 #[vi x0, vi x1, vi (1 : Int32), vi y0, vi y1, vr b176, vr b238, .unset, .unset] [(.int (5 : Int32))]))
    refine Goes.via (fun _ kk_ => XS.istore X262.here hx rfl (hb hby at_251) rfl (l' := #[vi x0, vi x1, vi (1 : Int32), vi y0, vi y1, vr b176, vr b238, vi (5 : Int32), .unset]) rfl kk_) ?_
    show Goes p e below _ (T262.setTop (mkF m 253 #[vi x0, vi x1, vi (1 : Int32), vi y0, vi y1, vr b176, vr b238, vi (5 : Int32), .unset] []))
    refine gILN X262 hx hby at_253 rfl ?_
    have hc254_264 : ¬ ((1 : Int32) = (0 : Int32)) := (by decide)
    refine Goes.via (fun _ kk_ => XS.ifYes X262.here hx rfl (pc0 := 254) (pc' := 269) rfl (hb hby at_254) rfl ((if0 _ _).trans (feq hc254_264).2) (by decide) (by decide) kk_) ?_
    show Goes p e below _ (T262.setTop (mkF m 269 #[vi x0, vi x1, vi (1 : Int32), vi y0, vi y1, vr b176, vr b238, vi (5 : Int32), .unset] []))
    refine gAL X262 hx hby at_269 rfl rfl ?_
    refine gIC (z := 4) X262 hx hby at_271 rfl ?_
    have f265 : Arw Z h262 b176 k176 .char 6 (own_upd (own_upd (own_upd (own_upd (own_upd (own_upd (fun _ => (.int 0)) 0 (.int (nar .char t0))) 1 (.int (nar .char t1))) 2 (.int (nar .char t2))) 3 (.int (nar .char t3))) 4 (.int (nar .char t4))) 5 (.int (nar .char t5))) := (f261.other W262 ne239)
    refine Goes.via (own_caload X262 hx hZ e262 f265 (j := (4 : Int32)) (i := 4) (by decide) (by decide) (by decide) (v := t4) (Eq.trans rfl (congrArg Value.int c_t4.1)) (g := (mkF m 272 #[vi x0, vi x1, vi (1 : Int32), vi y0, vi y1, vr b176, vr b238, vi (5 : Int32), .unset] [(.int (4 : Int32)), (.ref b176)])) rfl rfl (hb hby at_272)) ?_
    show Goes p e below _ (T262.setTop (mkF m 273 #[vi x0, vi x1, vi (1 : Int32), vi y0, vi y1, vr b176, vr b238, vi (5 : Int32), .unset] [(.int t4)]))
    refine gBI (z := 63) X262 hx hby at_273 rfl ?_
    obtain ⟨jj266, hv_jj266⟩ : ∃ z : Int32, z = (if t4 = (63 : Int32) then (4 : Int32) else (5 : Int32)) := ⟨_, rfl⟩
    suffices J : Goes p e below (Fin_W s (Qrm0 Z x0 x1 cS fo h0 n0) (fun U_ => KS Z own_KL U_.vm U_.heap) room_1.cells room_1.slots) (T262.setTop (mkF m 281 #[vi x0, vi x1, vi (1 : Int32), vi y0, vi y1, vr b176, vr b238, vi jj266, .unset] [])) by
      by_cases hc275 : t4 = (63 : Int32)
      · skip
        rw [show jj266 = (4 : Int32) from hv_jj266.trans (if_pos hc275)] at J
        refine Goes.via (fun _ kk_ => XS.icmpNo X262.here hx rfl (hb hby at_275) rfl (teq hc275).2 kk_) ?_
        show Goes p e below _ (T262.setTop (mkF m 278 #[vi x0, vi x1, vi (1 : Int32), vi y0, vi y1, vr b176, vr b238, vi (5 : Int32), .unset] []))
        refine gIC (z := 4) X262 hx hby at_278 rfl ?_
        refine Goes.via (fun _ kk_ => XS.istore X262.here hx rfl (hb hby at_279) rfl (l' := #[vi x0, vi x1, vi (1 : Int32), vi y0, vi y1, vr b176, vr b238, vi (4 : Int32), .unset]) rfl kk_) ?_
        show Goes p e below _ (T262.setTop (mkF m 281 #[vi x0, vi x1, vi (1 : Int32), vi y0, vi y1, vr b176, vr b238, vi (4 : Int32), .unset] []))
        exact J
      · skip
        rw [show jj266 = (5 : Int32) from hv_jj266.trans (if_neg hc275)] at J
        refine Goes.via (fun _ kk_ => XS.icmpYes X262.here hx rfl (pc0 := 275) (pc' := 281) rfl (hb hby at_275) rfl (feq hc275).2 (by decide) (by decide) kk_) ?_
        show Goes p e below _ (T262.setTop (mkF m 281 #[vi x0, vi x1, vi (1 : Int32), vi y0, vi y1, vr b176, vr b238, vi (5 : Int32), .unset] []))
        exact J
    subst hv_jj266
    show Goes p e below _ (T262.setTop (mkF m 281 #[vi x0, vi x1, vi (1 : Int32), vi y0, vi y1, vr b176, vr b238, vi (if t4 = (63 : Int32) then (4 : Int32) else (5 : Int32)), .unset] []))
    refine gAL X262 hx hby at_281 rfl rfl ?_
    refine gIC (z := 3) X262 hx hby at_283 rfl ?_
    refine Goes.via (own_caload X262 hx hZ e262 f265 (j := (3 : Int32)) (i := 3) (by decide) (by decide) (by decide) (v := t3) (Eq.trans rfl (congrArg Value.int c_t3.1)) (g := (mkF m 284 #[vi x0, vi x1, vi (1 : Int32), vi y0, vi y1, vr b176, vr b238, vi (if t4 = (63 : Int32) then (4 : Int32) else (5 : Int32)), .unset] [(.int (3 : Int32)), (.ref b176)])) rfl rfl (hb hby at_284)) ?_
    show Goes p e below _ (T262.setTop (mkF m 285 #[vi x0, vi x1, vi (1 : Int32), vi y0, vi y1, vr b176, vr b238, vi (if t4 = (63 : Int32) then (4 : Int32) else (5 : Int32)), .unset] [(.int t3)]))
    refine gBI (z := 63) X262 hx hby at_285 rfl ?_
    obtain ⟨jj267, hv_jj267⟩ : ∃ z : Int32, z = (if t3 = (63 : Int32) then (3 : Int32) else (if t4 = (63 : Int32) then (4 : Int32) else (5 : Int32))) := ⟨_, rfl⟩
    suffices J : Goes p e below (Fin_W s (Qrm0 Z x0 x1 cS fo h0 n0) (fun U_ => KS Z own_KL U_.vm U_.heap) room_1.cells room_1.slots) (T262.setTop (mkF m 293 #[vi x0, vi x1, vi (1 : Int32), vi y0, vi y1, vr b176, vr b238, vi jj267, .unset] [])) by
      by_cases hc287 : t3 = (63 : Int32)
      · skip
        rw [show jj267 = (3 : Int32) from hv_jj267.trans (if_pos hc287)] at J
        refine Goes.via (fun _ kk_ => XS.icmpNo X262.here hx rfl (hb hby at_287) rfl (teq hc287).2 kk_) ?_
        show Goes p e below _ (T262.setTop (mkF m 290 #[vi x0, vi x1, vi (1 : Int32), vi y0, vi y1, vr b176, vr b238, vi (if t4 = (63 : Int32) then (4 : Int32) else (5 : Int32)), .unset] []))
        refine gIC (z := 3) X262 hx hby at_290 rfl ?_
        refine Goes.via (fun _ kk_ => XS.istore X262.here hx rfl (hb hby at_291) rfl (l' := #[vi x0, vi x1, vi (1 : Int32), vi y0, vi y1, vr b176, vr b238, vi (3 : Int32), .unset]) rfl kk_) ?_
        show Goes p e below _ (T262.setTop (mkF m 293 #[vi x0, vi x1, vi (1 : Int32), vi y0, vi y1, vr b176, vr b238, vi (3 : Int32), .unset] []))
        exact J
      · skip
        rw [show jj267 = (if t4 = (63 : Int32) then (4 : Int32) else (5 : Int32)) from hv_jj267.trans (if_neg hc287)] at J
        refine Goes.via (fun _ kk_ => XS.icmpYes X262.here hx rfl (pc0 := 287) (pc' := 293) rfl (hb hby at_287) rfl (feq hc287).2 (by decide) (by decide) kk_) ?_
        show Goes p e below _ (T262.setTop (mkF m 293 #[vi x0, vi x1, vi (1 : Int32), vi y0, vi y1, vr b176, vr b238, vi (if t4 = (63 : Int32) then (4 : Int32) else (5 : Int32)), .unset] []))
        exact J
    subst hv_jj267
    show Goes p e below _ (T262.setTop (mkF m 293 #[vi x0, vi x1, vi (1 : Int32), vi y0, vi y1, vr b176, vr b238, vi (if t3 = (63 : Int32) then (3 : Int32) else (if t4 = (63 : Int32) then (4 : Int32) else (5 : Int32))), .unset] []))
    refine gAL X262 hx hby at_293 rfl rfl ?_
    refine gIC (z := 2) X262 hx hby at_295 rfl ?_
    refine Goes.via (own_caload X262 hx hZ e262 f265 (j := (2 : Int32)) (i := 2) (by decide) (by decide) (by decide) (v := t2) (Eq.trans rfl (congrArg Value.int c_t2.1)) (g := (mkF m 296 #[vi x0, vi x1, vi (1 : Int32), vi y0, vi y1, vr b176, vr b238, vi (if t3 = (63 : Int32) then (3 : Int32) else (if t4 = (63 : Int32) then (4 : Int32) else (5 : Int32))), .unset] [(.int (2 : Int32)), (.ref b176)])) rfl rfl (hb hby at_296)) ?_
    show Goes p e below _ (T262.setTop (mkF m 297 #[vi x0, vi x1, vi (1 : Int32), vi y0, vi y1, vr b176, vr b238, vi (if t3 = (63 : Int32) then (3 : Int32) else (if t4 = (63 : Int32) then (4 : Int32) else (5 : Int32))), .unset] [(.int t2)]))
    refine gBI (z := 63) X262 hx hby at_297 rfl ?_
    obtain ⟨jj268, hv_jj268⟩ : ∃ z : Int32, z = (if t2 = (63 : Int32) then (2 : Int32) else (if t3 = (63 : Int32) then (3 : Int32) else (if t4 = (63 : Int32) then (4 : Int32) else (5 : Int32)))) := ⟨_, rfl⟩
    suffices J : Goes p e below (Fin_W s (Qrm0 Z x0 x1 cS fo h0 n0) (fun U_ => KS Z own_KL U_.vm U_.heap) room_1.cells room_1.slots) (T262.setTop (mkF m 305 #[vi x0, vi x1, vi (1 : Int32), vi y0, vi y1, vr b176, vr b238, vi jj268, .unset] [])) by
      by_cases hc299 : t2 = (63 : Int32)
      · skip
        rw [show jj268 = (2 : Int32) from hv_jj268.trans (if_pos hc299)] at J
        refine Goes.via (fun _ kk_ => XS.icmpNo X262.here hx rfl (hb hby at_299) rfl (teq hc299).2 kk_) ?_
        show Goes p e below _ (T262.setTop (mkF m 302 #[vi x0, vi x1, vi (1 : Int32), vi y0, vi y1, vr b176, vr b238, vi (if t3 = (63 : Int32) then (3 : Int32) else (if t4 = (63 : Int32) then (4 : Int32) else (5 : Int32))), .unset] []))
        refine gIC (z := 2) X262 hx hby at_302 rfl ?_
        refine Goes.via (fun _ kk_ => XS.istore X262.here hx rfl (hb hby at_303) rfl (l' := #[vi x0, vi x1, vi (1 : Int32), vi y0, vi y1, vr b176, vr b238, vi (2 : Int32), .unset]) rfl kk_) ?_
        show Goes p e below _ (T262.setTop (mkF m 305 #[vi x0, vi x1, vi (1 : Int32), vi y0, vi y1, vr b176, vr b238, vi (2 : Int32), .unset] []))
        exact J
      · skip
        rw [show jj268 = (if t3 = (63 : Int32) then (3 : Int32) else (if t4 = (63 : Int32) then (4 : Int32) else (5 : Int32))) from hv_jj268.trans (if_neg hc299)] at J
        refine Goes.via (fun _ kk_ => XS.icmpYes X262.here hx rfl (pc0 := 299) (pc' := 305) rfl (hb hby at_299) rfl (feq hc299).2 (by decide) (by decide) kk_) ?_
        show Goes p e below _ (T262.setTop (mkF m 305 #[vi x0, vi x1, vi (1 : Int32), vi y0, vi y1, vr b176, vr b238, vi (if t3 = (63 : Int32) then (3 : Int32) else (if t4 = (63 : Int32) then (4 : Int32) else (5 : Int32))), .unset] []))
        exact J
    subst hv_jj268
    show Goes p e below _ (T262.setTop (mkF m 305 #[vi x0, vi x1, vi (1 : Int32), vi y0, vi y1, vr b176, vr b238, vi (if t2 = (63 : Int32) then (2 : Int32) else (if t3 = (63 : Int32) then (3 : Int32) else (if t4 = (63 : Int32) then (4 : Int32) else (5 : Int32)))), .unset] []))
    refine gAL X262 hx hby at_305 rfl rfl ?_
    refine gIC (z := 1) X262 hx hby at_307 rfl ?_
    refine Goes.via (own_caload X262 hx hZ e262 f265 (j := (1 : Int32)) (i := 1) (by decide) (by decide) (by decide) (v := t1) (Eq.trans rfl (congrArg Value.int c_t1.1)) (g := (mkF m 308 #[vi x0, vi x1, vi (1 : Int32), vi y0, vi y1, vr b176, vr b238, vi (if t2 = (63 : Int32) then (2 : Int32) else (if t3 = (63 : Int32) then (3 : Int32) else (if t4 = (63 : Int32) then (4 : Int32) else (5 : Int32)))), .unset] [(.int (1 : Int32)), (.ref b176)])) rfl rfl (hb hby at_308)) ?_
    show Goes p e below _ (T262.setTop (mkF m 309 #[vi x0, vi x1, vi (1 : Int32), vi y0, vi y1, vr b176, vr b238, vi (if t2 = (63 : Int32) then (2 : Int32) else (if t3 = (63 : Int32) then (3 : Int32) else (if t4 = (63 : Int32) then (4 : Int32) else (5 : Int32)))), .unset] [(.int t1)]))
    refine gBI (z := 63) X262 hx hby at_309 rfl ?_
    obtain ⟨jj269, hv_jj269⟩ : ∃ z : Int32, z = (if t1 = (63 : Int32) then (1 : Int32) else (if t2 = (63 : Int32) then (2 : Int32) else (if t3 = (63 : Int32) then (3 : Int32) else (if t4 = (63 : Int32) then (4 : Int32) else (5 : Int32))))) := ⟨_, rfl⟩
    suffices J : Goes p e below (Fin_W s (Qrm0 Z x0 x1 cS fo h0 n0) (fun U_ => KS Z own_KL U_.vm U_.heap) room_1.cells room_1.slots) (T262.setTop (mkF m 317 #[vi x0, vi x1, vi (1 : Int32), vi y0, vi y1, vr b176, vr b238, vi jj269, .unset] [])) by
      by_cases hc311 : t1 = (63 : Int32)
      · skip
        rw [show jj269 = (1 : Int32) from hv_jj269.trans (if_pos hc311)] at J
        refine Goes.via (fun _ kk_ => XS.icmpNo X262.here hx rfl (hb hby at_311) rfl (teq hc311).2 kk_) ?_
        show Goes p e below _ (T262.setTop (mkF m 314 #[vi x0, vi x1, vi (1 : Int32), vi y0, vi y1, vr b176, vr b238, vi (if t2 = (63 : Int32) then (2 : Int32) else (if t3 = (63 : Int32) then (3 : Int32) else (if t4 = (63 : Int32) then (4 : Int32) else (5 : Int32)))), .unset] []))
        refine gIC (z := 1) X262 hx hby at_314 rfl ?_
        refine Goes.via (fun _ kk_ => XS.istore X262.here hx rfl (hb hby at_315) rfl (l' := #[vi x0, vi x1, vi (1 : Int32), vi y0, vi y1, vr b176, vr b238, vi (1 : Int32), .unset]) rfl kk_) ?_
        show Goes p e below _ (T262.setTop (mkF m 317 #[vi x0, vi x1, vi (1 : Int32), vi y0, vi y1, vr b176, vr b238, vi (1 : Int32), .unset] []))
        exact J
      · skip
        rw [show jj269 = (if t2 = (63 : Int32) then (2 : Int32) else (if t3 = (63 : Int32) then (3 : Int32) else (if t4 = (63 : Int32) then (4 : Int32) else (5 : Int32)))) from hv_jj269.trans (if_neg hc311)] at J
        refine Goes.via (fun _ kk_ => XS.icmpYes X262.here hx rfl (pc0 := 311) (pc' := 317) rfl (hb hby at_311) rfl (feq hc311).2 (by decide) (by decide) kk_) ?_
        show Goes p e below _ (T262.setTop (mkF m 317 #[vi x0, vi x1, vi (1 : Int32), vi y0, vi y1, vr b176, vr b238, vi (if t2 = (63 : Int32) then (2 : Int32) else (if t3 = (63 : Int32) then (3 : Int32) else (if t4 = (63 : Int32) then (4 : Int32) else (5 : Int32)))), .unset] []))
        exact J
    subst hv_jj269
    show Goes p e below _ (T262.setTop (mkF m 317 #[vi x0, vi x1, vi (1 : Int32), vi y0, vi y1, vr b176, vr b238, vi (if t1 = (63 : Int32) then (1 : Int32) else (if t2 = (63 : Int32) then (2 : Int32) else (if t3 = (63 : Int32) then (3 : Int32) else (if t4 = (63 : Int32) then (4 : Int32) else (5 : Int32))))), .unset] []))
    refine gAL X262 hx hby at_317 rfl rfl ?_
    refine gIC (z := 0) X262 hx hby at_319 rfl ?_
    refine Goes.via (own_caload X262 hx hZ e262 f265 (j := (0 : Int32)) (i := 0) (by decide) (by decide) (by decide) (v := t0) (Eq.trans rfl (congrArg Value.int c_t0.1)) (g := (mkF m 320 #[vi x0, vi x1, vi (1 : Int32), vi y0, vi y1, vr b176, vr b238, vi (if t1 = (63 : Int32) then (1 : Int32) else (if t2 = (63 : Int32) then (2 : Int32) else (if t3 = (63 : Int32) then (3 : Int32) else (if t4 = (63 : Int32) then (4 : Int32) else (5 : Int32))))), .unset] [(.int (0 : Int32)), (.ref b176)])) rfl rfl (hb hby at_320)) ?_
    show Goes p e below _ (T262.setTop (mkF m 321 #[vi x0, vi x1, vi (1 : Int32), vi y0, vi y1, vr b176, vr b238, vi (if t1 = (63 : Int32) then (1 : Int32) else (if t2 = (63 : Int32) then (2 : Int32) else (if t3 = (63 : Int32) then (3 : Int32) else (if t4 = (63 : Int32) then (4 : Int32) else (5 : Int32))))), .unset] [(.int t0)]))
    refine gBI (z := 63) X262 hx hby at_321 rfl ?_
    obtain ⟨jj270, hv_jj270⟩ : ∃ z : Int32, z = (if t0 = (63 : Int32) then (0 : Int32) else (if t1 = (63 : Int32) then (1 : Int32) else (if t2 = (63 : Int32) then (2 : Int32) else (if t3 = (63 : Int32) then (3 : Int32) else (if t4 = (63 : Int32) then (4 : Int32) else (5 : Int32)))))) := ⟨_, rfl⟩
    suffices J : Goes p e below (Fin_W s (Qrm0 Z x0 x1 cS fo h0 n0) (fun U_ => KS Z own_KL U_.vm U_.heap) room_1.cells room_1.slots) (T262.setTop (mkF m 329 #[vi x0, vi x1, vi (1 : Int32), vi y0, vi y1, vr b176, vr b238, vi jj270, .unset] [])) by
      by_cases hc323 : t0 = (63 : Int32)
      · skip
        rw [show jj270 = (0 : Int32) from hv_jj270.trans (if_pos hc323)] at J
        refine Goes.via (fun _ kk_ => XS.icmpNo X262.here hx rfl (hb hby at_323) rfl (teq hc323).2 kk_) ?_
        show Goes p e below _ (T262.setTop (mkF m 326 #[vi x0, vi x1, vi (1 : Int32), vi y0, vi y1, vr b176, vr b238, vi (if t1 = (63 : Int32) then (1 : Int32) else (if t2 = (63 : Int32) then (2 : Int32) else (if t3 = (63 : Int32) then (3 : Int32) else (if t4 = (63 : Int32) then (4 : Int32) else (5 : Int32))))), .unset] []))
        refine gIC (z := 0) X262 hx hby at_326 rfl ?_
        refine Goes.via (fun _ kk_ => XS.istore X262.here hx rfl (hb hby at_327) rfl (l' := #[vi x0, vi x1, vi (1 : Int32), vi y0, vi y1, vr b176, vr b238, vi (0 : Int32), .unset]) rfl kk_) ?_
        show Goes p e below _ (T262.setTop (mkF m 329 #[vi x0, vi x1, vi (1 : Int32), vi y0, vi y1, vr b176, vr b238, vi (0 : Int32), .unset] []))
        exact J
      · skip
        rw [show jj270 = (if t1 = (63 : Int32) then (1 : Int32) else (if t2 = (63 : Int32) then (2 : Int32) else (if t3 = (63 : Int32) then (3 : Int32) else (if t4 = (63 : Int32) then (4 : Int32) else (5 : Int32))))) from hv_jj270.trans (if_neg hc323)] at J
        refine Goes.via (fun _ kk_ => XS.icmpYes X262.here hx rfl (pc0 := 323) (pc' := 329) rfl (hb hby at_323) rfl (feq hc323).2 (by decide) (by decide) kk_) ?_
        show Goes p e below _ (T262.setTop (mkF m 329 #[vi x0, vi x1, vi (1 : Int32), vi y0, vi y1, vr b176, vr b238, vi (if t1 = (63 : Int32) then (1 : Int32) else (if t2 = (63 : Int32) then (2 : Int32) else (if t3 = (63 : Int32) then (3 : Int32) else (if t4 = (63 : Int32) then (4 : Int32) else (5 : Int32))))), .unset] []))
        exact J
    subst hv_jj270
    show Goes p e below _ (T262.setTop (mkF m 329 #[vi x0, vi x1, vi (1 : Int32), vi y0, vi y1, vr b176, vr b238, vi (if t0 = (63 : Int32) then (0 : Int32) else (if t1 = (63 : Int32) then (1 : Int32) else (if t2 = (63 : Int32) then (2 : Int32) else (if t3 = (63 : Int32) then (3 : Int32) else (if t4 = (63 : Int32) then (4 : Int32) else (5 : Int32)))))), .unset] []))
    obtain ⟨T271, h271, X271, e271, E271, A271, D271, -, st271⟩ := newO X262 hx hZ hown (own_w hw 42 rfl) (own_w hw 6 rfl) (own_w hw 5 rfl) e262 (g := (mkF m 329 #[vi x0, vi x1, vi (1 : Int32), vi y0, vi y1, vr b176, vr b238, vi (if t0 = (63 : Int32) then (0 : Int32) else (if t1 = (63 : Int32) then (1 : Int32) else (if t2 = (63 : Int32) then (2 : Int32) else (if t3 = (63 : Int32) then (3 : Int32) else (if t4 = (63 : Int32) then (4 : Int32) else (5 : Int32)))))), .unset] [])) rfl (hb hby at_329) (by first | decide | omega | (dsimp only; omega)) (by first | decide | omega | (dsimp only; omega))
    obtain ⟨b271, g271⟩ : ∃ z, z = (h262).size := ⟨_, rfl⟩
    rw [← g271] at A271 D271 st271
    have lne272 : b176 < b271 := Nat.lt_of_lt_of_le f265.lt (Nat.le_of_eq g271.symm)
    have ne272 : b176 ≠ b271 := Nat.ne_of_lt lne272
    have lne273 : b238 < b271 := Nat.lt_of_lt_of_le A262.lt (Nat.le_of_eq g271.symm)
    have ne273 : b238 ≠ b271 := Nat.ne_of_lt lne273
    have z274 : h0.size ≤ (h262).size := (Nat.le_trans (Nat.le_trans (Nat.le_trans (Nat.le_trans (Nat.le_trans (Nat.le_trans (Nat.le_trans (Nat.le_trans (Nat.le_trans (Nat.le_trans (Nat.le_trans (Nat.le_trans (Nat.le_trans (Nat.le_trans (Nat.le_trans (Nat.le_trans (Nat.le_trans z240 E238.1) (Nat.le_of_eq W241.size.symm)) (Nat.le_of_eq W242.size.symm)) (Nat.le_of_eq W243.size.symm)) (Nat.le_of_eq W244.size.symm)) (Nat.le_of_eq W246.size.symm)) (Nat.le_of_eq W247.size.symm)) (Nat.le_of_eq W248.size.symm)) (Nat.le_of_eq W249.size.symm)) (Nat.le_of_eq W250.size.symm)) (Nat.le_of_eq W251.size.symm)) (Nat.le_of_eq W252.size.symm)) (Nat.le_of_eq W254.size.symm)) (Nat.le_of_eq W256.size.symm)) (Nat.le_of_eq W258.size.symm)) (Nat.le_of_eq W260.size.symm)) (Nat.le_of_eq W262.size.symm))
    have sz_b271 : h0.size ≤ b271 := Nat.le_trans z274 (Nat.le_of_eq g271.symm)
    have gn_b271 : n0 ≤ b271 := Nat.le_trans Z0 sz_b271
    have F_value_b271 : Fld Z h271 b271 "java/lang/String" "value" "[B" .null := D271 (Or.inr (own_w hw 8 rfl)) (ty := (.array .byte)) (by decide)
    have F_coder_b271 : Fld Z h271 b271 "java/lang/String" "coder" "B" (.int (0 : Int32)) := D271 (Or.inr (own_w hw 9 rfl)) (ty := .byte) (by decide)
    refine Goes.via st271 ?_
    show Goes p e below _ (T271.setTop (mkF m 332 #[vi x0, vi x1, vi (1 : Int32), vi y0, vi y1, vr b176, vr b238, vi (if t0 = (63 : Int32) then (0 : Int32) else (if t1 = (63 : Int32) then (1 : Int32) else (if t2 = (63 : Int32) then (2 : Int32) else (if t3 = (63 : Int32) then (3 : Int32) else (if t4 = (63 : Int32) then (4 : Int32) else (5 : Int32)))))), .unset] [(.ref b271)]))
    refine gDU X271 hx hby at_332 rfl ?_
    refine gAL X271 hx hby at_333 rfl rfl ?_
    have f276 : Arw Z h271 b238 k238 .char 16 (own_upd (own_upd (own_upd (own_upd (own_upd (own_upd (own_upd (own_upd (own_upd (own_upd (own_upd (own_upd (own_upd (own_upd (own_upd (own_upd (fun _ => (.int 0)) 0 (.int (nar .char (104 : Int32)))) 1 (.int (nar .char (116 : Int32)))) 2 (.int (nar .char (116 : Int32)))) 3 (.int (nar .char (112 : Int32)))) 4 (.int (nar .char (115 : Int32)))) 5 (.int (nar .char (58 : Int32)))) 6 (.int (nar .char (47 : Int32)))) 7 (.int (nar .char (47 : Int32)))) 8 (.int (nar .char y0))) 9 (.int (nar .char y1))) 10 (.int (nar .char (47 : Int32)))) 11 (.int (nar .char t0))) 12 (.int (nar .char t1))) 13 (.int (nar .char t2))) 14 (.int (nar .char t3))) 15 (.int (nar .char t4))) := (A262.ext E271)
    have Va275 : Arv Z h271 b238 k238 .char (16 : Int32) ([(104 : Int32), (116 : Int32), (116 : Int32), (112 : Int32), (115 : Int32), (58 : Int32), (47 : Int32), (47 : Int32), y0, y1, (47 : Int32), t0, t1, t2, t3, t4].map Value.int) (.int (0 : Int32)) := f276.toArv (by decide) (by intro i hi; match i, hi with | 0, _ => rfl | 1, _ => rfl | 2, _ => rfl | 3, _ => rfl | 4, _ => rfl | 5, _ => rfl | 6, _ => rfl | 7, _ => rfl | 8, _ => exact (congrArg Value.int c_y0.1.1.symm).trans rfl | 9, _ => exact (congrArg Value.int c_y1.1.1.symm).trans rfl | 10, _ => rfl | 11, _ => exact (congrArg Value.int c_t0.1.symm).trans rfl | 12, _ => exact (congrArg Value.int c_t1.1.symm).trans rfl | 13, _ => exact (congrArg Value.int c_t2.1.symm).trans rfl | 14, _ => exact (congrArg Value.int c_t3.1.symm).trans rfl | 15, _ => exact (congrArg Value.int c_t4.1.symm).trans rfl | q + 16, h => exact absurd h (by omega))
    have K277 : Keep h0 h271 [] := ((((((((((((((((((((K228.trans K232 all0).wr W237 (Or.inr sz_b176)).ext E238).wr W241 (Or.inr sz_b238)).wr W242 (Or.inr sz_b238)).wr W243 (Or.inr sz_b238)).wr W244 (Or.inr sz_b238)).wr W246 (Or.inr sz_b238)).wr W247 (Or.inr sz_b238)).wr W248 (Or.inr sz_b238)).wr W249 (Or.inr sz_b238)).wr W250 (Or.inr sz_b238)).wr W251 (Or.inr sz_b238)).wr W252 (Or.inr sz_b238)).wr W254 (Or.inr sz_b238)).wr W256 (Or.inr sz_b238)).wr W258 (Or.inr sz_b238)).wr W260 (Or.inr sz_b238)).wr W262 (Or.inr sz_b238)).ext E271)
    have f278 : Sta Z h271 "java/lang/String" "COMPACT_STRINGS" "Z" (.int cS) := own_sta_keep OS K277
    have z279 : h0.size ≤ (h271).size := (Nat.le_trans z274 E271.1)
    have hws275 : ∀ d ∈ StrChars.Road.words, d.before a0 Z = true := fun d hd => hw d ((by decide +kernel : ∀ d ∈ StrChars.Road.words, d ∈ tables_1) d hd)
    have hlat275 : ∀ c ∈ [(104 : Int32), (116 : Int32), (116 : Int32), (112 : Int32), (115 : Int32), (58 : Int32), (47 : Int32), (47 : Int32), y0, y1, (47 : Int32), t0, t1, t2, t3, t4], ¬ c < 0 ∧ ¬ (255 : Int32) < c := (own_aS (by decide) (own_aS (by decide) (own_aS (by decide) (own_aS (by decide) (own_aS (by decide) (own_aS (by decide) (own_aS (by decide) (own_aS (by decide) (own_aS c_y0.1.2.2.2 (own_aS c_y1.1.2.2.2 (own_aS (by decide) (own_aS c_t0.2.2.2 (own_aS c_t1.2.2.2 (own_aS c_t2.2.2.2 (own_aS c_t3.2.2.2 (own_aS c_t4.2.2.2 own_a0))))))))))))))))
    obtain ⟨bs275, hbs275⟩ : ∃ z : List Int32, z = [(104 : Int32), (116 : Int32), (116 : Int32), (112 : Int32), (115 : Int32), (58 : Int32), (47 : Int32), (47 : Int32), y0, y1, (47 : Int32), t0, t1, t2, t3, t4].map (fun c => c.toInt8.toInt32) := ⟨_, rfl⟩
    obtain ⟨_, _, ⟨T275, L275, k275, n275⟩, -, X275, ⟨Lc275, hQ275, l275, y275, z275⟩, st275⟩ := X271.specialBack hx (y := (⟨"java/lang/String", "<init>", "([C)V"⟩ : MethodName)) rfl hown (mvT hZ (own_w hw 43 rfl)) (mvT hZ (own_w hw 44 rfl)) (mvT hZ (own_w hw 45 rfl)) (by decide) (StrChars.Road.backV (W := 1) hZ hws275 (kI := 4) (own_w hw 6 rfl) (cs := [(104 : Int32), (116 : Int32), (116 : Int32), (112 : Int32), (115 : Int32), (58 : Int32), (47 : Int32), (47 : Int32), y0, y1, (47 : Int32), t0, t1, t2, t3, t4]) (bs := bs275) (n := 16) gn_b271 (Nat.le_trans Z0 z279) A271 F_value_b271 F_coder_b271 Va275 f278 H_cs rfl rfl (by decide) (by decide) hlat275 hbs275 (by decide) (by decide)) (g := (mkF m 335 #[vi x0, vi x1, vi (1 : Int32), vi y0, vi y1, vr b176, vr b238, vi (if t0 = (63 : Int32) then (0 : Int32) else (if t1 = (63 : Int32) then (1 : Int32) else (if t2 = (63 : Int32) then (2 : Int32) else (if t3 = (63 : Int32) then (3 : Int32) else (if t4 = (63 : Int32) then (4 : Int32) else (5 : Int32)))))), .unset] [(.ref b238), (.ref b271), (.ref b271)])) rfl (by rw [hml]; rfl) (Steps.refl _) (a := b271) (argsL := [(.ref b238)]) (rest := [(.ref b271)]) (lenOf pd_20 rfl) rfl (by show 2 * 0 + _ ≤ _; exact Nat.le_of_eq rfl) (hb hby at_335) (fun _ _ => ⟨rfl, e271, (by first | decide | omega : 19 + 1 ≤ _), (by first | decide | omega : 314 + 16 ≤ _)⟩)
    dsimp only [Pt.U, Pt.locs, Pt.cells, Pt.slots] at X275 l275 y275 z275 st275 hQ275
    replace l275 := l275.symm
    subst l275 y275 z275
    obtain ⟨rfl, N275q, K275, uE275, uC275, sb275, kb275, ug275, uz275, un275, uV275, uA275⟩ := hQ275
    have N275 := Fr.app N262 N275q
    have f280 : Arw Z h271 b176 k176 .char 6 (own_upd (own_upd (own_upd (own_upd (own_upd (own_upd (fun _ => (.int 0)) 0 (.int (nar .char t0))) 1 (.int (nar .char t1))) 2 (.int (nar .char t2))) 3 (.int (nar .char t3))) 4 (.int (nar .char t4))) 5 (.int (nar .char t5))) := (f265.ext E271)
    have ne281 : b176 ≠ sb275 := Nat.ne_of_lt (Nat.lt_of_lt_of_le f280.lt uz275)
    have ne282 : b238 ≠ sb275 := Nat.ne_of_lt (Nat.lt_of_lt_of_le f276.lt uz275)
    have ne283 : b271 ≠ sb275 := Nat.ne_of_lt (Nat.lt_of_lt_of_le A271.lt uz275)
    have sz_sb275 : h0.size ≤ sb275 := Nat.le_trans z279 uz275
    refine Goes.tr st275 ?_
    show Goes p e below _ (T275.setTop (mkF m 338 #[vi x0, vi x1, vi (1 : Int32), vi y0, vi y1, vr b176, vr b238, vi (if t0 = (63 : Int32) then (0 : Int32) else (if t1 = (63 : Int32) then (1 : Int32) else (if t2 = (63 : Int32) then (2 : Int32) else (if t3 = (63 : Int32) then (3 : Int32) else (if t4 = (63 : Int32) then (4 : Int32) else (5 : Int32)))))), .unset] [(.ref b271)]))
    obtain ⟨g, hg⟩ : ∃ g : Nat → Int32, g = fun i => ([(104 : Int32), (116 : Int32), (116 : Int32), (112 : Int32), (115 : Int32), (58 : Int32), (47 : Int32), (47 : Int32), y0, y1, (47 : Int32), t0, t1, t2, t3, t4] : List Int32).getD i 0 := ⟨_, rfl⟩
    have g_0 : g 0 = (104 : Int32) := by rw [hg]; rfl
    have g_1 : g 1 = (116 : Int32) := by rw [hg]; rfl
    have g_2 : g 2 = (116 : Int32) := by rw [hg]; rfl
    have g_3 : g 3 = (112 : Int32) := by rw [hg]; rfl
    have g_4 : g 4 = (115 : Int32) := by rw [hg]; rfl
    have g_5 : g 5 = (58 : Int32) := by rw [hg]; rfl
    have g_6 : g 6 = (47 : Int32) := by rw [hg]; rfl
    have g_7 : g 7 = (47 : Int32) := by rw [hg]; rfl
    have g_8 : g 8 = y0 := by rw [hg]; rfl
    have g_9 : g 9 = y1 := by rw [hg]; rfl
    have g_10 : g 10 = (47 : Int32) := by rw [hg]; rfl
    have g_11 : g 11 = t0 := by rw [hg]; rfl
    have g_12 : g 12 = t1 := by rw [hg]; rfl
    have g_13 : g 13 = t2 := by rw [hg]; rfl
    have g_14 : g 14 = t3 := by rw [hg]; rfl
    have g_15 : g 15 = t4 := by rw [hg]; rfl
    have Vg : Arw Z T275.heap sb275 kb275 .byte 16 (fun i => .int (g i)) := Arw.ofArv uA275 (by decide) (by intro i hi; rw [hbs275]; match i, hi with | 0, _ => exact (congrArg Value.int (show (104 : Int32).toInt8.toInt32 = (104 : Int32) from by decide)).trans (congrArg Value.int g_0.symm) | 1, _ => exact (congrArg Value.int (show (116 : Int32).toInt8.toInt32 = (116 : Int32) from by decide)).trans (congrArg Value.int g_1.symm) | 2, _ => exact (congrArg Value.int (show (116 : Int32).toInt8.toInt32 = (116 : Int32) from by decide)).trans (congrArg Value.int g_2.symm) | 3, _ => exact (congrArg Value.int (show (112 : Int32).toInt8.toInt32 = (112 : Int32) from by decide)).trans (congrArg Value.int g_3.symm) | 4, _ => exact (congrArg Value.int (show (115 : Int32).toInt8.toInt32 = (115 : Int32) from by decide)).trans (congrArg Value.int g_4.symm) | 5, _ => exact (congrArg Value.int (show (58 : Int32).toInt8.toInt32 = (58 : Int32) from by decide)).trans (congrArg Value.int g_5.symm) | 6, _ => exact (congrArg Value.int (show (47 : Int32).toInt8.toInt32 = (47 : Int32) from by decide)).trans (congrArg Value.int g_6.symm) | 7, _ => exact (congrArg Value.int (show (47 : Int32).toInt8.toInt32 = (47 : Int32) from by decide)).trans (congrArg Value.int g_7.symm) | 8, _ => exact (congrArg Value.int (show y0.toInt8.toInt32 = y0 from c_y0.1.2.1)).trans (congrArg Value.int g_8.symm) | 9, _ => exact (congrArg Value.int (show y1.toInt8.toInt32 = y1 from c_y1.1.2.1)).trans (congrArg Value.int g_9.symm) | 10, _ => exact (congrArg Value.int (show (47 : Int32).toInt8.toInt32 = (47 : Int32) from by decide)).trans (congrArg Value.int g_10.symm) | 11, _ => exact (congrArg Value.int (show t0.toInt8.toInt32 = t0 from c_t0.2.1)).trans (congrArg Value.int g_11.symm) | 12, _ => exact (congrArg Value.int (show t1.toInt8.toInt32 = t1 from c_t1.2.1)).trans (congrArg Value.int g_12.symm) | 13, _ => exact (congrArg Value.int (show t2.toInt8.toInt32 = t2 from c_t2.2.1)).trans (congrArg Value.int g_13.symm) | 14, _ => exact (congrArg Value.int (show t3.toInt8.toInt32 = t3 from c_t3.2.1)).trans (congrArg Value.int g_14.symm) | 15, _ => exact (congrArg Value.int (show t4.toInt8.toInt32 = t4 from c_t4.2.1)).trans (congrArg Value.int g_15.symm) | n + 16, h => exact absurd h (by omega))
    obtain ⟨M, hk, hk1, hM0, hM16, hqM, hR⟩ := own_pm1 g_10 g_11 g_12 g_13 g_14 g_15
    generalize (if t0 = (63 : Int32) then (0 : Int32) else (if t1 = (63 : Int32) then (1 : Int32) else (if t2 = (63 : Int32) then (2 : Int32) else (if t3 = (63 : Int32) then (3 : Int32) else (if t4 = (63 : Int32) then (4 : Int32) else (5 : Int32)))))) = kv at *
    show Goes p e below _ (T275.setTop (mkF m 338 #[vi x0, vi x1, vi (1 : Int32), vi y0, vi y1, vr b176, vr b238, vi kv, .unset] [(.ref b271)]))
    have K284 : Keep h0 T275.heap [] := (K277.trans K275 (allS (Or.inr sz_b271) all0))
    have f285 : Sta Z T275.heap "java/lang/String" "COMPACT_STRINGS" "Z" (.int cS) := own_sta_keep OS K284
    have f286 : Sta Z T275.heap "jdk/internal/util/Preconditions" "SIOOBE_FORMATTER" "Ljava/util/function/BiFunction;" fo := own_sta_keep OF K284
    have ol287 : Old Z n0 (T275.heap) := (((((((((((((((((((((ol231.keep K232 all0).wr W237 gn_b176).ext E238).wr W241 gn_b238).wr W242 gn_b238).wr W243 gn_b238).wr W244 gn_b238).wr W246 gn_b238).wr W247 gn_b238).wr W248 gn_b238).wr W249 gn_b238).wr W250 gn_b238).wr W251 gn_b238).wr W252 gn_b238).wr W254 gn_b238).wr W256 gn_b238).wr W258 gn_b238).wr W260 gn_b238).wr W262 gn_b238).ext E271).keep K275 (allS gn_b271 all0))
    have z289 : h0.size ≤ (T275.heap).size := (Nat.le_trans z279 K275.1)
    have Ks290 : KS Z own_KL T232.vm (T275.heap) := (((((Ks232.wr W237 (NoS.arr f236 (own_w hw 6 rfl) (by intro q; cases q))).ext E238).keep (((((((((((((((((Keep.refl _ [b238]).wr W241 (Or.inl (List.mem_of_getElem? (i := 0) rfl))).wr W242 (Or.inl (List.mem_of_getElem? (i := 0) rfl))).wr W243 (Or.inl (List.mem_of_getElem? (i := 0) rfl))).wr W244 (Or.inl (List.mem_of_getElem? (i := 0) rfl))).wr W246 (Or.inl (List.mem_of_getElem? (i := 0) rfl))).wr W247 (Or.inl (List.mem_of_getElem? (i := 0) rfl))).wr W248 (Or.inl (List.mem_of_getElem? (i := 0) rfl))).wr W249 (Or.inl (List.mem_of_getElem? (i := 0) rfl))).wr W250 (Or.inl (List.mem_of_getElem? (i := 0) rfl))).wr W251 (Or.inl (List.mem_of_getElem? (i := 0) rfl))).wr W252 (Or.inl (List.mem_of_getElem? (i := 0) rfl))).wr W254 (Or.inl (List.mem_of_getElem? (i := 0) rfl))).wr W256 (Or.inl (List.mem_of_getElem? (i := 0) rfl))).wr W258 (Or.inl (List.mem_of_getElem? (i := 0) rfl))).wr W260 (Or.inl (List.mem_of_getElem? (i := 0) rfl))).wr W262 (Or.inl (List.mem_of_getElem? (i := 0) rfl))) (allS (NoS.arr A238 (own_w hw 6 rfl) (by intro q; cases q)) all0)).ext E271).keep K275 (allS (NoS.str A271 (own_w hw 6 rfl) F_value_b271) all0))
    have sk291 : _ ≤ (T275.heap).size := (Nat.le_trans (Nat.le_trans (Nat.le_trans (Nat.le_trans (Nat.le_trans (Nat.le_trans (Nat.le_trans (Nat.le_trans (Nat.le_trans (Nat.le_trans (Nat.le_trans (Nat.le_trans (Nat.le_trans (Nat.le_trans (Nat.le_trans (Nat.le_trans (Nat.le_trans (Nat.le_trans (Nat.le_trans (Nat.le_trans (Nat.le_refl _) (Nat.le_of_eq W237.size.symm)) E238.1) (Nat.le_of_eq W241.size.symm)) (Nat.le_of_eq W242.size.symm)) (Nat.le_of_eq W243.size.symm)) (Nat.le_of_eq W244.size.symm)) (Nat.le_of_eq W246.size.symm)) (Nat.le_of_eq W247.size.symm)) (Nat.le_of_eq W248.size.symm)) (Nat.le_of_eq W249.size.symm)) (Nat.le_of_eq W250.size.symm)) (Nat.le_of_eq W251.size.symm)) (Nat.le_of_eq W252.size.symm)) (Nat.le_of_eq W254.size.symm)) (Nat.le_of_eq W256.size.symm)) (Nat.le_of_eq W258.size.symm)) (Nat.le_of_eq W260.size.symm)) (Nat.le_of_eq W262.size.symm)) E271.1) K275.1)
    obtain ⟨_, _, ⟨T288, L288, k288, n288⟩, -, ⟨X288, Si288⟩, ⟨Lc288, ⟨hQ288, tK288, hK288, hKv288, hKh288⟩, l288, y288, z288⟩, st288⟩ := own_callSW X275 hx (y := (⟨"com/example/lincra/lincra/UrlNormalizer", "path", "(Ljava/lang/String;)Ljava/lang/String;"⟩ : MethodName)) hown (mvT hZ (own_w hw 63 rfl)) (mvT hZ (own_w hw 64 rfl)) (mvT hZ (own_w hw 65 rfl)) (mvT hZ (own_w hw 66 rfl)) (by decide) (own_backOfW (W := 0) (K := (fun U_ => KS Z own_KL U_.vm U_.heap)) (KP := (fun U_ => KS Z own_KL U_.vm U_.heap)) (rmPath5 l Z a0 hw [] b271 cS fo sb275 kb275 g M T275.heap n0 (Nat.le_trans Z0 z289) uE275 uC275 uV275 Vg f285 H_cs f286 Hfo ol287 HW HC0 HC1 HC2 (by rw [g_0]; decide) (by rw [g_1]; decide) (by rw [g_2]; decide) (by rw [g_3]; decide) (by rw [g_4]; decide) g_5 g_6 g_7 (own_ps1 (by rw [g_8]; exact c_y0.2) (by rw [g_9]; exact c_y1.2) g_10) hR hqM hM0 hM16) hZ (own_w hw 66 rfl) (own_w hw 65 rfl) (by decide) (by decide) (fun V_ hV hVh => by show KS Z own_KL V_.vm V_.heap; rw [hVh]; exact Ks290.at_ (s := s) hV)) (g := (mkF m 338 #[vi x0, vi x1, vi (1 : Int32), vi y0, vi y1, vr b176, vr b238, vi kv, .unset] [(.ref b271)])) rfl (by rw [hml]; rfl) (argsL := [(.ref b271)]) (rest := []) (lenOf pd_21 rfl) rfl (by show 2 * 0 + _ ≤ _; exact Nat.le_of_eq rfl) (hb hby at_338) (fun _ _ => ⟨rfl, rfl, (by decide : 20 + 4 ≤ _), (by decide : 330 + 36 ≤ _)⟩)
    dsimp only [Pt.U, Pt.locs, Pt.cells, Pt.slots] at X288 l288 y288 z288 st288 hQ288 Si288 hKv288 hKh288
    replace l288 := l288.symm
    subst l288 y288 z288
    obtain ⟨r_288, nb288, kb288, rfl, N288q, K288, u288_0, u288_1, u288_2, u288_3, u288_4⟩ := hQ288
    have N288 := Fr.app N275 N288q
    refine Goes.via st288 ?_
    obtain ⟨X288', SI288, hZ, hown⟩ := rebS SI232 sk291 X288 Si288 K288.1 hZ hown
    have Ks288 : KS Z own_KL T288.vm T288.heap := by rw [← hKv288, ← hKh288]; exact hK288
    have f292 : Arw Z T275.heap b176 k176 .char 6 (own_upd (own_upd (own_upd (own_upd (own_upd (own_upd (fun _ => (.int 0)) 0 (.int (nar .char t0))) 1 (.int (nar .char t1))) 2 (.int (nar .char t2))) 3 (.int (nar .char t3))) 4 (.int (nar .char t4))) 5 (.int (nar .char t5))) := (f280.keep K275 (ninS ne272 nin0))
    have ne293 : b176 ≠ r_288 := Nat.ne_of_lt (Nat.lt_of_lt_of_le f292.lt u288_0)
    have f294 : Arw Z T275.heap b238 k238 .char 16 (own_upd (own_upd (own_upd (own_upd (own_upd (own_upd (own_upd (own_upd (own_upd (own_upd (own_upd (own_upd (own_upd (own_upd (own_upd (own_upd (fun _ => (.int 0)) 0 (.int (nar .char (104 : Int32)))) 1 (.int (nar .char (116 : Int32)))) 2 (.int (nar .char (116 : Int32)))) 3 (.int (nar .char (112 : Int32)))) 4 (.int (nar .char (115 : Int32)))) 5 (.int (nar .char (58 : Int32)))) 6 (.int (nar .char (47 : Int32)))) 7 (.int (nar .char (47 : Int32)))) 8 (.int (nar .char y0))) 9 (.int (nar .char y1))) 10 (.int (nar .char (47 : Int32)))) 11 (.int (nar .char t0))) 12 (.int (nar .char t1))) 13 (.int (nar .char t2))) 14 (.int (nar .char t3))) 15 (.int (nar .char t4))) := (f276.keep K275 (ninS ne273 nin0))
    have ne295 : b238 ≠ r_288 := Nat.ne_of_lt (Nat.lt_of_lt_of_le f294.lt u288_0)
    have ne296 : b271 ≠ r_288 := Nat.ne_of_lt (Nat.lt_of_lt_of_le uE275.lt u288_0)
    have ne297 : sb275 ≠ r_288 := Nat.ne_of_lt (Nat.lt_of_lt_of_le uA275.lt u288_0)
    have sz_r_288 : h0.size ≤ r_288 := Nat.le_trans z289 u288_0
    have gn_r_288 : n0 ≤ r_288 := Nat.le_trans Z0 sz_r_288
    -- u288_0 : h0.size ≤ r_288
    have ne298 : r_288 ≠ nb288 := own_ne_arr u288_1 (own_w hw 6 rfl) u288_4
    show Goes p e below _ (T288.setTop (mkF m 341 #[vi x0, vi x1, vi (1 : Int32), vi y0, vi y1, vr b176, vr b238, vi kv, .unset] [(.ref r_288)]))
    refine Goes.via (fun _ kk_ => XS.astore X288'.here hx rfl (hb hby at_341) rfl rfl (l' := #[vi x0, vi x1, vi (1 : Int32), vi y0, vi y1, vr b176, vr b238, vi kv, vr r_288]) rfl kk_) ?_
    show Goes p e below _ (T288.setTop (mkF m 343 #[vi x0, vi x1, vi (1 : Int32), vi y0, vi y1, vr b176, vr b238, vi kv, vr r_288] []))
    refine gAL X288' hx hby at_343 rfl rfl ?_
    have K299 : Keep h0 T288.heap [] := (K284.trans K288 all0)
    have f300 : Sta Z T288.heap "java/lang/String" "COMPACT_STRINGS" "Z" (.int cS) := own_sta_keep OS K299
    have z302 : h0.size ≤ (T288.heap).size := (Nat.le_trans z289 K288.1)
    obtain ⟨cq301, kq301, q301a, q301b, q301c⟩ := isOf hZ rfl u288_1
    obtain ⟨_, _, ⟨T301, L301, k301, n301⟩, -, X301, ⟨Lc301, hQ301, l301, y301, z301⟩, st301⟩ := X288'.virtualBack hx (y := (⟨"java/lang/String", "length", "()I"⟩ : MethodName)) (z := (⟨"java/lang/String", "length", "()I"⟩ : MethodName)) hown (mvT hZ (own_w hw 148 rfl)) (mvT hZ (own_w hw 90 rfl)) (notFace_of_selects (args := #[]) (mvT hZ (own_w hw 92 rfl))) (mvT hZ (own_w hw 92 rfl)) (mvT hZ (own_w hw 91 rfl)) (by decide) (backOf (W := 0) (rm20 l Z a0 hw [] r_288 (kv + (1 : Int32)) cS nb288 kb288 M (fun i => g (10 + i)) T288.heap n0 (Nat.le_trans Z0 z302) u288_1 u288_2 u288_3 u288_4 f300 H_cs hk1) hZ (own_w hw 93 rfl) (own_w hw 5 rfl) (by decide) (by decide)) q301a q301c (g := (mkF m 345 #[vi x0, vi x1, vi (1 : Int32), vi y0, vi y1, vr b176, vr b238, vi kv, vr r_288] [(.ref r_288)])) rfl (by rw [hml]; rfl) (Steps.refl _) (argsL := []) (rest := []) (lenOf pd_8 rfl) rfl (by show 2 * 0 + _ ≤ _; exact Nat.le_of_eq rfl) (hb hby at_345) (fun _ _ => ⟨rfl, rfl, (by decide : 24 + 0 ≤ _), (by decide : 366 + 0 ≤ _)⟩)
    dsimp only [Pt.U, Pt.locs, Pt.cells, Pt.slots] at X301 l301 y301 z301 st301 hQ301
    replace l301 := l301.symm
    subst l301 y301 z301
    obtain ⟨rfl, rfl, e301⟩ := hQ301
    first | rw [List.append_nil] at X301 | skip
    refine Goes.tr st301 ?_
    have e301' : T301.heap = T288.heap := e301
    show Goes p e below _ (T301.setTop (mkF m 348 #[vi x0, vi x1, vi (1 : Int32), vi y0, vi y1, vr b176, vr b238, vi kv, vr r_288] [(.int (kv + (1 : Int32)))]))
    refine gIL X301 hx hby at_348 rfl ?_
    refine gIC (z := 1) X301 hx hby at_350 rfl ?_
    refine Goes.via (fun _ kk_ => XS.iadd X301.here hx rfl (hb hby at_351) rfl kk_) ?_
    show Goes p e below _ (T301.setTop (mkF m 352 #[vi x0, vi x1, vi (1 : Int32), vi y0, vi y1, vr b176, vr b238, vi kv, vr r_288] [(.int (kv + (1 : Int32))), (.int (kv + (1 : Int32)))]))
    have hc352_303 : (kv + (1 : Int32)) = (kv + (1 : Int32)) := rfl
    refine Goes.via (fun _ kk_ => XS.icmpYes X301.here hx rfl (pc0 := 352) (pc' := 357) rfl (hb hby at_352) rfl (teq hc352_303).1 (by decide) (by decide) kk_) ?_
    show Goes p e below _ (T301.setTop (mkF m 357 #[vi x0, vi x1, vi (1 : Int32), vi y0, vi y1, vr b176, vr b238, vi kv, vr r_288] []))
    refine gAL X301 hx hby at_357 rfl rfl ?_
    refine gIC (z := 0) X301 hx hby at_359 rfl ?_
    have f304 : Sta Z T288.heap "jdk/internal/util/Preconditions" "SIOOBE_FORMATTER" "Ljava/util/function/BiFunction;" fo := own_sta_keep OF K299
    obtain ⟨cq305, kq305, q305a, q305b, q305c⟩ := isOf hZ e301' u288_1
    obtain ⟨_, _, ⟨T305, L305, k305, n305⟩, -, X305, ⟨Lc305, hQ305, l305, y305, z305⟩, st305⟩ := X301.virtualBack hx (y := (⟨"java/lang/String", "charAt", "(I)C"⟩ : MethodName)) (z := (⟨"java/lang/String", "charAt", "(I)C"⟩ : MethodName)) hown (mvT hZ (own_w hw 12 rfl)) (mvT hZ (own_w hw 13 rfl)) (notFace_of_selects (args := #[]) (mvT hZ (own_w hw 15 rfl))) (mvT hZ (own_w hw 15 rfl)) (mvT hZ (own_w hw 14 rfl)) (by decide) (backOf (W := 0) (rm2 l Z a0 hw [] r_288 (0 : Int32) cS nb288 kb288 M (fun i => g (10 + i)) (kv + (1 : Int32)) 0 fo T288.heap n0 (Nat.le_trans Z0 z302) u288_1 u288_2 u288_3 u288_4 f300 H_cs (by decide) hM0 hk1 f304 Hfo) hZ (own_w hw 16 rfl) (own_w hw 5 rfl) (by decide) (by decide)) q305a q305c (g := (mkF m 360 #[vi x0, vi x1, vi (1 : Int32), vi y0, vi y1, vr b176, vr b238, vi kv, vr r_288] [(.int (0 : Int32)), (.ref r_288)])) rfl (by rw [hml]; rfl) (Steps.refl _) (argsL := [(.int (0 : Int32))]) (rest := []) (lenOf pd_17 rfl) rfl (by show 2 * 0 + _ ≤ _; exact Nat.le_of_eq rfl) (hb hby at_360) (fun _ _ => ⟨rfl, e301', (by decide : 24 + 0 ≤ _), (by decide : 366 + 0 ≤ _)⟩)
    dsimp only [Pt.U, Pt.locs, Pt.cells, Pt.slots] at X305 l305 y305 z305 st305 hQ305
    replace l305 := l305.symm
    subst l305 y305 z305
    obtain ⟨rfl, rfl, e305⟩ := hQ305
    first | rw [List.append_nil] at X305 | skip
    refine Goes.tr st305 ?_
    have e305' : T305.heap = T288.heap := e305
    show Goes p e below _ (T305.setTop (mkF m 363 #[vi x0, vi x1, vi (1 : Int32), vi y0, vi y1, vr b176, vr b238, vi kv, vr r_288] [(.int ((fun i => g (10 + i)) 0 &&& (255 : Int32)))]))
    refine gBI (z := 47) X305 hx hby at_363 rfl ?_
    have hc365_306 : ((fun i => g (10 + i)) 0 &&& (255 : Int32)) = (47 : Int32) := (show g 10 &&& (255 : Int32) = (47 : Int32) from by rw [g_10]; decide)
    refine Goes.via (fun _ kk_ => XS.icmpNo X305.here hx rfl (hb hby at_365) rfl (teq hc365_306).2 kk_) ?_
    show Goes p e below _ (T305.setTop (mkF m 368 #[vi x0, vi x1, vi (1 : Int32), vi y0, vi y1, vr b176, vr b238, vi kv, vr r_288] []))
    refine gIL X305 hx hby at_368 rfl ?_
    refine gIC (z := 1) X305 hx hby at_370 rfl ?_
    by_cases hc371 : kv < (1 : Int32)
    · skip
      refine Goes.via (fun _ kk_ => XS.icmpYes X305.here hx rfl (pc0 := 371) (pc' := 387) rfl (hb hby at_371) rfl (tlt hc371).1 (by decide) (by decide) kk_) ?_
      show Goes p e below _ (T305.setTop (mkF m 387 #[vi x0, vi x1, vi (1 : Int32), vi y0, vi y1, vr b176, vr b238, vi kv, vr r_288] []))
      refine gIL X305 hx hby at_387 rfl ?_
      refine gIC (z := 2) X305 hx hby at_389 rfl ?_
      have hc390_307 : kv < (2 : Int32) := (own_ltt hc371 (by decide))
      refine Goes.via (fun _ kk_ => XS.icmpYes X305.here hx rfl (pc0 := 390) (pc' := 406) rfl (hb hby at_390) rfl (tlt hc390_307).1 (by decide) (by decide) kk_) ?_
      show Goes p e below _ (T305.setTop (mkF m 406 #[vi x0, vi x1, vi (1 : Int32), vi y0, vi y1, vr b176, vr b238, vi kv, vr r_288] []))
      refine gIL X305 hx hby at_406 rfl ?_
      refine gIC (z := 3) X305 hx hby at_408 rfl ?_
      have hc409_308 : kv < (3 : Int32) := (own_ltt hc371 (by decide))
      refine Goes.via (fun _ kk_ => XS.icmpYes X305.here hx rfl (pc0 := 409) (pc' := 425) rfl (hb hby at_409) rfl (tlt hc409_308).1 (by decide) (by decide) kk_) ?_
      show Goes p e below _ (T305.setTop (mkF m 425 #[vi x0, vi x1, vi (1 : Int32), vi y0, vi y1, vr b176, vr b238, vi kv, vr r_288] []))
      refine gIL X305 hx hby at_425 rfl ?_
      refine gIC (z := 4) X305 hx hby at_427 rfl ?_
      have hc428_309 : kv < (4 : Int32) := (own_ltt hc371 (by decide))
      refine Goes.via (fun _ kk_ => XS.icmpYes X305.here hx rfl (pc0 := 428) (pc' := 444) rfl (hb hby at_428) rfl (tlt hc428_309).1 (by decide) (by decide) kk_) ?_
      show Goes p e below _ (T305.setTop (mkF m 444 #[vi x0, vi x1, vi (1 : Int32), vi y0, vi y1, vr b176, vr b238, vi kv, vr r_288] []))
      refine gIL X305 hx hby at_444 rfl ?_
      refine gIC (z := 5) X305 hx hby at_446 rfl ?_
      have hc447_310 : kv < (5 : Int32) := (own_ltt hc371 (by decide))
      refine Goes.via (fun _ kk_ => XS.icmpYes X305.here hx rfl (pc0 := 447) (pc' := 463) rfl (hb hby at_447) rfl (tlt hc447_310).1 (by decide) (by decide) kk_) ?_
      show Goes p e below _ (T305.setTop (mkF m 463 #[vi x0, vi x1, vi (1 : Int32), vi y0, vi y1, vr b176, vr b238, vi kv, vr r_288] []))
      refine gIL X305 hx hby at_463 rfl ?_
      refine gBI (z := 6) X305 hx hby at_465 rfl ?_
      have hc467_311 : kv < (6 : Int32) := (own_ltt hc371 (by decide))
      refine Goes.via (fun _ kk_ => XS.icmpYes X305.here hx rfl (pc0 := 467) (pc' := 484) rfl (hb hby at_467) rfl (tlt hc467_311).1 (by decide) (by decide) kk_) ?_
      show Goes p e below _ (T305.setTop (mkF m 484 #[vi x0, vi x1, vi (1 : Int32), vi y0, vi y1, vr b176, vr b238, vi kv, vr r_288] []))
      refine gIC (z := 1) X305 hx hby at_484 rfl ?_
      refine Goes.via (fun _ kk_ => XS.goto X305.here hx rfl (pc0 := 485) (pc' := 489) rfl (hb hby at_485) (by decide) (by decide) kk_) ?_
      show Goes p e below _ (T305.setTop (mkF m 489 #[vi x0, vi x1, vi (1 : Int32), vi y0, vi y1, vr b176, vr b238, vi kv, vr r_288] [(.int (1 : Int32))]))
      have hKe : KS Z own_KL T305.vm T305.heap := by rw [e305']; exact Ks288.at_ (s := s) X305.warmed
      exact own_wfinN X305 SI288 (by rw [e305']; exact (Nat.le_refl _)) (fun U_ hv hh_ => by show KS Z own_KL U_.vm U_.heap; rw [hv, hh_]; exact hKe) hx hlk hret (by simp) (hb hby at_489) (by rw [e305']; exact ⟨rfl, N288, K299⟩) (by first | decide | omega | (dsimp only; omega)) (by first | decide | omega | (dsimp only; omega))
    · skip
      refine Goes.via (fun _ kk_ => XS.icmpNo X305.here hx rfl (hb hby at_371) rfl (flt hc371).1 kk_) ?_
      show Goes p e below _ (T305.setTop (mkF m 374 #[vi x0, vi x1, vi (1 : Int32), vi y0, vi y1, vr b176, vr b238, vi kv, vr r_288] []))
      refine gAL X305 hx hby at_374 rfl rfl ?_
      refine gIC (z := 1) X305 hx hby at_376 rfl ?_
      obtain ⟨cq312, kq312, q312a, q312b, q312c⟩ := isOf hZ e305' u288_1
      obtain ⟨_, _, ⟨T312, L312, k312, n312⟩, -, X312, ⟨Lc312, hQ312, l312, y312, z312⟩, st312⟩ := X305.virtualBack hx (y := (⟨"java/lang/String", "charAt", "(I)C"⟩ : MethodName)) (z := (⟨"java/lang/String", "charAt", "(I)C"⟩ : MethodName)) hown (mvT hZ (own_w hw 12 rfl)) (mvT hZ (own_w hw 13 rfl)) (notFace_of_selects (args := #[]) (mvT hZ (own_w hw 15 rfl))) (mvT hZ (own_w hw 15 rfl)) (mvT hZ (own_w hw 14 rfl)) (by decide) (backOf (W := 0) (rm2 l Z a0 hw [] r_288 (1 : Int32) cS nb288 kb288 M (fun i => g (10 + i)) (kv + (1 : Int32)) 1 fo T288.heap n0 (Nat.le_trans Z0 z302) u288_1 u288_2 u288_3 u288_4 f300 H_cs (by decide) (by have q : ¬ _ := fun q => hc371 (own_lti.mpr q); have q1 : (1 : Int32).toInt = 1 := (by decide); omega) hk1 f304 Hfo) hZ (own_w hw 16 rfl) (own_w hw 5 rfl) (by decide) (by decide)) q312a q312c (g := (mkF m 377 #[vi x0, vi x1, vi (1 : Int32), vi y0, vi y1, vr b176, vr b238, vi kv, vr r_288] [(.int (1 : Int32)), (.ref r_288)])) rfl (by rw [hml]; rfl) (Steps.refl _) (argsL := [(.int (1 : Int32))]) (rest := []) (lenOf pd_17 rfl) rfl (by show 2 * 0 + _ ≤ _; exact Nat.le_of_eq rfl) (hb hby at_377) (fun _ _ => ⟨rfl, e305', (by decide : 24 + 0 ≤ _), (by decide : 366 + 0 ≤ _)⟩)
      dsimp only [Pt.U, Pt.locs, Pt.cells, Pt.slots] at X312 l312 y312 z312 st312 hQ312
      replace l312 := l312.symm
      subst l312 y312 z312
      obtain ⟨rfl, rfl, e312⟩ := hQ312
      first | rw [List.append_nil] at X312 | skip
      refine Goes.tr st312 ?_
      have e312' : T312.heap = T288.heap := e312
      show Goes p e below _ (T312.setTop (mkF m 380 #[vi x0, vi x1, vi (1 : Int32), vi y0, vi y1, vr b176, vr b238, vi kv, vr r_288] [(.int ((fun i => g (10 + i)) 1 &&& (255 : Int32)))]))
      refine gAL X312 hx hby at_380 rfl rfl ?_
      refine gIC (z := 0) X312 hx hby at_382 rfl ?_
      have f313 : Arw Z T288.heap b176 k176 .char 6 (own_upd (own_upd (own_upd (own_upd (own_upd (own_upd (fun _ => (.int 0)) 0 (.int (nar .char t0))) 1 (.int (nar .char t1))) 2 (.int (nar .char t2))) 3 (.int (nar .char t3))) 4 (.int (nar .char t4))) 5 (.int (nar .char t5))) := (f292.keep K288 nin0)
      refine Goes.via (own_caload X312 hx hZ e312' f313 (j := (0 : Int32)) (i := 0) (by decide) (by decide) (by decide) (v := t0) (Eq.trans rfl (congrArg Value.int c_t0.1)) (g := (mkF m 383 #[vi x0, vi x1, vi (1 : Int32), vi y0, vi y1, vr b176, vr b238, vi kv, vr r_288] [(.int (0 : Int32)), (.ref b176), (.int ((fun i => g (10 + i)) 1 &&& (255 : Int32)))])) rfl rfl (hb hby at_383)) ?_
      show Goes p e below _ (T312.setTop (mkF m 384 #[vi x0, vi x1, vi (1 : Int32), vi y0, vi y1, vr b176, vr b238, vi kv, vr r_288] [(.int t0), (.int ((fun i => g (10 + i)) 1 &&& (255 : Int32)))]))
      have hc384_314 : ((fun i => g (10 + i)) 1 &&& (255 : Int32)) = t0 := (show g 11 &&& (255 : Int32) = t0 from by rw [g_11]; exact c_t0.2.2.1)
      refine Goes.via (fun _ kk_ => XS.icmpNo X312.here hx rfl (hb hby at_384) rfl (teq hc384_314).2 kk_) ?_
      show Goes p e below _ (T312.setTop (mkF m 387 #[vi x0, vi x1, vi (1 : Int32), vi y0, vi y1, vr b176, vr b238, vi kv, vr r_288] []))
      refine gIL X312 hx hby at_387 rfl ?_
      refine gIC (z := 2) X312 hx hby at_389 rfl ?_
      by_cases hc390 : kv < (2 : Int32)
      · skip
        refine Goes.via (fun _ kk_ => XS.icmpYes X312.here hx rfl (pc0 := 390) (pc' := 406) rfl (hb hby at_390) rfl (tlt hc390).1 (by decide) (by decide) kk_) ?_
        show Goes p e below _ (T312.setTop (mkF m 406 #[vi x0, vi x1, vi (1 : Int32), vi y0, vi y1, vr b176, vr b238, vi kv, vr r_288] []))
        refine gIL X312 hx hby at_406 rfl ?_
        refine gIC (z := 3) X312 hx hby at_408 rfl ?_
        have hc409_315 : kv < (3 : Int32) := (own_ltt hc390 (by decide))
        refine Goes.via (fun _ kk_ => XS.icmpYes X312.here hx rfl (pc0 := 409) (pc' := 425) rfl (hb hby at_409) rfl (tlt hc409_315).1 (by decide) (by decide) kk_) ?_
        show Goes p e below _ (T312.setTop (mkF m 425 #[vi x0, vi x1, vi (1 : Int32), vi y0, vi y1, vr b176, vr b238, vi kv, vr r_288] []))
        refine gIL X312 hx hby at_425 rfl ?_
        refine gIC (z := 4) X312 hx hby at_427 rfl ?_
        have hc428_316 : kv < (4 : Int32) := (own_ltt hc390 (by decide))
        refine Goes.via (fun _ kk_ => XS.icmpYes X312.here hx rfl (pc0 := 428) (pc' := 444) rfl (hb hby at_428) rfl (tlt hc428_316).1 (by decide) (by decide) kk_) ?_
        show Goes p e below _ (T312.setTop (mkF m 444 #[vi x0, vi x1, vi (1 : Int32), vi y0, vi y1, vr b176, vr b238, vi kv, vr r_288] []))
        refine gIL X312 hx hby at_444 rfl ?_
        refine gIC (z := 5) X312 hx hby at_446 rfl ?_
        have hc447_317 : kv < (5 : Int32) := (own_ltt hc390 (by decide))
        refine Goes.via (fun _ kk_ => XS.icmpYes X312.here hx rfl (pc0 := 447) (pc' := 463) rfl (hb hby at_447) rfl (tlt hc447_317).1 (by decide) (by decide) kk_) ?_
        show Goes p e below _ (T312.setTop (mkF m 463 #[vi x0, vi x1, vi (1 : Int32), vi y0, vi y1, vr b176, vr b238, vi kv, vr r_288] []))
        refine gIL X312 hx hby at_463 rfl ?_
        refine gBI (z := 6) X312 hx hby at_465 rfl ?_
        have hc467_318 : kv < (6 : Int32) := (own_ltt hc390 (by decide))
        refine Goes.via (fun _ kk_ => XS.icmpYes X312.here hx rfl (pc0 := 467) (pc' := 484) rfl (hb hby at_467) rfl (tlt hc467_318).1 (by decide) (by decide) kk_) ?_
        show Goes p e below _ (T312.setTop (mkF m 484 #[vi x0, vi x1, vi (1 : Int32), vi y0, vi y1, vr b176, vr b238, vi kv, vr r_288] []))
        refine gIC (z := 1) X312 hx hby at_484 rfl ?_
        refine Goes.via (fun _ kk_ => XS.goto X312.here hx rfl (pc0 := 485) (pc' := 489) rfl (hb hby at_485) (by decide) (by decide) kk_) ?_
        show Goes p e below _ (T312.setTop (mkF m 489 #[vi x0, vi x1, vi (1 : Int32), vi y0, vi y1, vr b176, vr b238, vi kv, vr r_288] [(.int (1 : Int32))]))
        have hKe : KS Z own_KL T312.vm T312.heap := by rw [e312']; exact Ks288.at_ (s := s) X312.warmed
        exact own_wfinN X312 SI288 (by rw [e312']; exact (Nat.le_refl _)) (fun U_ hv hh_ => by show KS Z own_KL U_.vm U_.heap; rw [hv, hh_]; exact hKe) hx hlk hret (by simp) (hb hby at_489) (by rw [e312']; exact ⟨rfl, N288, K299⟩) (by first | decide | omega | (dsimp only; omega)) (by first | decide | omega | (dsimp only; omega))
      · skip
        refine Goes.via (fun _ kk_ => XS.icmpNo X312.here hx rfl (hb hby at_390) rfl (flt hc390).1 kk_) ?_
        show Goes p e below _ (T312.setTop (mkF m 393 #[vi x0, vi x1, vi (1 : Int32), vi y0, vi y1, vr b176, vr b238, vi kv, vr r_288] []))
        refine gAL X312 hx hby at_393 rfl rfl ?_
        refine gIC (z := 2) X312 hx hby at_395 rfl ?_
        obtain ⟨cq319, kq319, q319a, q319b, q319c⟩ := isOf hZ e312' u288_1
        obtain ⟨_, _, ⟨T319, L319, k319, n319⟩, -, X319, ⟨Lc319, hQ319, l319, y319, z319⟩, st319⟩ := X312.virtualBack hx (y := (⟨"java/lang/String", "charAt", "(I)C"⟩ : MethodName)) (z := (⟨"java/lang/String", "charAt", "(I)C"⟩ : MethodName)) hown (mvT hZ (own_w hw 12 rfl)) (mvT hZ (own_w hw 13 rfl)) (notFace_of_selects (args := #[]) (mvT hZ (own_w hw 15 rfl))) (mvT hZ (own_w hw 15 rfl)) (mvT hZ (own_w hw 14 rfl)) (by decide) (backOf (W := 0) (rm2 l Z a0 hw [] r_288 (2 : Int32) cS nb288 kb288 M (fun i => g (10 + i)) (kv + (1 : Int32)) 2 fo T288.heap n0 (Nat.le_trans Z0 z302) u288_1 u288_2 u288_3 u288_4 f300 H_cs (by decide) (by have q : ¬ _ := fun q => hc390 (own_lti.mpr q); have q1 : (2 : Int32).toInt = 2 := (by decide); omega) hk1 f304 Hfo) hZ (own_w hw 16 rfl) (own_w hw 5 rfl) (by decide) (by decide)) q319a q319c (g := (mkF m 396 #[vi x0, vi x1, vi (1 : Int32), vi y0, vi y1, vr b176, vr b238, vi kv, vr r_288] [(.int (2 : Int32)), (.ref r_288)])) rfl (by rw [hml]; rfl) (Steps.refl _) (argsL := [(.int (2 : Int32))]) (rest := []) (lenOf pd_17 rfl) rfl (by show 2 * 0 + _ ≤ _; exact Nat.le_of_eq rfl) (hb hby at_396) (fun _ _ => ⟨rfl, e312', (by decide : 24 + 0 ≤ _), (by decide : 366 + 0 ≤ _)⟩)
        dsimp only [Pt.U, Pt.locs, Pt.cells, Pt.slots] at X319 l319 y319 z319 st319 hQ319
        replace l319 := l319.symm
        subst l319 y319 z319
        obtain ⟨rfl, rfl, e319⟩ := hQ319
        first | rw [List.append_nil] at X319 | skip
        refine Goes.tr st319 ?_
        have e319' : T319.heap = T288.heap := e319
        show Goes p e below _ (T319.setTop (mkF m 399 #[vi x0, vi x1, vi (1 : Int32), vi y0, vi y1, vr b176, vr b238, vi kv, vr r_288] [(.int ((fun i => g (10 + i)) 2 &&& (255 : Int32)))]))
        refine gAL X319 hx hby at_399 rfl rfl ?_
        refine gIC (z := 1) X319 hx hby at_401 rfl ?_
        refine Goes.via (own_caload X319 hx hZ e319' f313 (j := (1 : Int32)) (i := 1) (by decide) (by decide) (by decide) (v := t1) (Eq.trans rfl (congrArg Value.int c_t1.1)) (g := (mkF m 402 #[vi x0, vi x1, vi (1 : Int32), vi y0, vi y1, vr b176, vr b238, vi kv, vr r_288] [(.int (1 : Int32)), (.ref b176), (.int ((fun i => g (10 + i)) 2 &&& (255 : Int32)))])) rfl rfl (hb hby at_402)) ?_
        show Goes p e below _ (T319.setTop (mkF m 403 #[vi x0, vi x1, vi (1 : Int32), vi y0, vi y1, vr b176, vr b238, vi kv, vr r_288] [(.int t1), (.int ((fun i => g (10 + i)) 2 &&& (255 : Int32)))]))
        have hc403_320 : ((fun i => g (10 + i)) 2 &&& (255 : Int32)) = t1 := (show g 12 &&& (255 : Int32) = t1 from by rw [g_12]; exact c_t1.2.2.1)
        refine Goes.via (fun _ kk_ => XS.icmpNo X319.here hx rfl (hb hby at_403) rfl (teq hc403_320).2 kk_) ?_
        show Goes p e below _ (T319.setTop (mkF m 406 #[vi x0, vi x1, vi (1 : Int32), vi y0, vi y1, vr b176, vr b238, vi kv, vr r_288] []))
        refine gIL X319 hx hby at_406 rfl ?_
        refine gIC (z := 3) X319 hx hby at_408 rfl ?_
        by_cases hc409 : kv < (3 : Int32)
        · skip
          refine Goes.via (fun _ kk_ => XS.icmpYes X319.here hx rfl (pc0 := 409) (pc' := 425) rfl (hb hby at_409) rfl (tlt hc409).1 (by decide) (by decide) kk_) ?_
          show Goes p e below _ (T319.setTop (mkF m 425 #[vi x0, vi x1, vi (1 : Int32), vi y0, vi y1, vr b176, vr b238, vi kv, vr r_288] []))
          refine gIL X319 hx hby at_425 rfl ?_
          refine gIC (z := 4) X319 hx hby at_427 rfl ?_
          have hc428_321 : kv < (4 : Int32) := (own_ltt hc409 (by decide))
          refine Goes.via (fun _ kk_ => XS.icmpYes X319.here hx rfl (pc0 := 428) (pc' := 444) rfl (hb hby at_428) rfl (tlt hc428_321).1 (by decide) (by decide) kk_) ?_
          show Goes p e below _ (T319.setTop (mkF m 444 #[vi x0, vi x1, vi (1 : Int32), vi y0, vi y1, vr b176, vr b238, vi kv, vr r_288] []))
          refine gIL X319 hx hby at_444 rfl ?_
          refine gIC (z := 5) X319 hx hby at_446 rfl ?_
          have hc447_322 : kv < (5 : Int32) := (own_ltt hc409 (by decide))
          refine Goes.via (fun _ kk_ => XS.icmpYes X319.here hx rfl (pc0 := 447) (pc' := 463) rfl (hb hby at_447) rfl (tlt hc447_322).1 (by decide) (by decide) kk_) ?_
          show Goes p e below _ (T319.setTop (mkF m 463 #[vi x0, vi x1, vi (1 : Int32), vi y0, vi y1, vr b176, vr b238, vi kv, vr r_288] []))
          refine gIL X319 hx hby at_463 rfl ?_
          refine gBI (z := 6) X319 hx hby at_465 rfl ?_
          have hc467_323 : kv < (6 : Int32) := (own_ltt hc409 (by decide))
          refine Goes.via (fun _ kk_ => XS.icmpYes X319.here hx rfl (pc0 := 467) (pc' := 484) rfl (hb hby at_467) rfl (tlt hc467_323).1 (by decide) (by decide) kk_) ?_
          show Goes p e below _ (T319.setTop (mkF m 484 #[vi x0, vi x1, vi (1 : Int32), vi y0, vi y1, vr b176, vr b238, vi kv, vr r_288] []))
          refine gIC (z := 1) X319 hx hby at_484 rfl ?_
          refine Goes.via (fun _ kk_ => XS.goto X319.here hx rfl (pc0 := 485) (pc' := 489) rfl (hb hby at_485) (by decide) (by decide) kk_) ?_
          show Goes p e below _ (T319.setTop (mkF m 489 #[vi x0, vi x1, vi (1 : Int32), vi y0, vi y1, vr b176, vr b238, vi kv, vr r_288] [(.int (1 : Int32))]))
          have hKe : KS Z own_KL T319.vm T319.heap := by rw [e319']; exact Ks288.at_ (s := s) X319.warmed
          exact own_wfinN X319 SI288 (by rw [e319']; exact (Nat.le_refl _)) (fun U_ hv hh_ => by show KS Z own_KL U_.vm U_.heap; rw [hv, hh_]; exact hKe) hx hlk hret (by simp) (hb hby at_489) (by rw [e319']; exact ⟨rfl, N288, K299⟩) (by first | decide | omega | (dsimp only; omega)) (by first | decide | omega | (dsimp only; omega))
        · skip
          refine Goes.via (fun _ kk_ => XS.icmpNo X319.here hx rfl (hb hby at_409) rfl (flt hc409).1 kk_) ?_
          show Goes p e below _ (T319.setTop (mkF m 412 #[vi x0, vi x1, vi (1 : Int32), vi y0, vi y1, vr b176, vr b238, vi kv, vr r_288] []))
          refine gAL X319 hx hby at_412 rfl rfl ?_
          refine gIC (z := 3) X319 hx hby at_414 rfl ?_
          obtain ⟨cq324, kq324, q324a, q324b, q324c⟩ := isOf hZ e319' u288_1
          obtain ⟨_, _, ⟨T324, L324, k324, n324⟩, -, X324, ⟨Lc324, hQ324, l324, y324, z324⟩, st324⟩ := X319.virtualBack hx (y := (⟨"java/lang/String", "charAt", "(I)C"⟩ : MethodName)) (z := (⟨"java/lang/String", "charAt", "(I)C"⟩ : MethodName)) hown (mvT hZ (own_w hw 12 rfl)) (mvT hZ (own_w hw 13 rfl)) (notFace_of_selects (args := #[]) (mvT hZ (own_w hw 15 rfl))) (mvT hZ (own_w hw 15 rfl)) (mvT hZ (own_w hw 14 rfl)) (by decide) (backOf (W := 0) (rm2 l Z a0 hw [] r_288 (3 : Int32) cS nb288 kb288 M (fun i => g (10 + i)) (kv + (1 : Int32)) 3 fo T288.heap n0 (Nat.le_trans Z0 z302) u288_1 u288_2 u288_3 u288_4 f300 H_cs (by decide) (by have q : ¬ _ := fun q => hc409 (own_lti.mpr q); have q1 : (3 : Int32).toInt = 3 := (by decide); omega) hk1 f304 Hfo) hZ (own_w hw 16 rfl) (own_w hw 5 rfl) (by decide) (by decide)) q324a q324c (g := (mkF m 415 #[vi x0, vi x1, vi (1 : Int32), vi y0, vi y1, vr b176, vr b238, vi kv, vr r_288] [(.int (3 : Int32)), (.ref r_288)])) rfl (by rw [hml]; rfl) (Steps.refl _) (argsL := [(.int (3 : Int32))]) (rest := []) (lenOf pd_17 rfl) rfl (by show 2 * 0 + _ ≤ _; exact Nat.le_of_eq rfl) (hb hby at_415) (fun _ _ => ⟨rfl, e319', (by decide : 24 + 0 ≤ _), (by decide : 366 + 0 ≤ _)⟩)
          dsimp only [Pt.U, Pt.locs, Pt.cells, Pt.slots] at X324 l324 y324 z324 st324 hQ324
          replace l324 := l324.symm
          subst l324 y324 z324
          obtain ⟨rfl, rfl, e324⟩ := hQ324
          first | rw [List.append_nil] at X324 | skip
          refine Goes.tr st324 ?_
          have e324' : T324.heap = T288.heap := e324
          show Goes p e below _ (T324.setTop (mkF m 418 #[vi x0, vi x1, vi (1 : Int32), vi y0, vi y1, vr b176, vr b238, vi kv, vr r_288] [(.int ((fun i => g (10 + i)) 3 &&& (255 : Int32)))]))
          refine gAL X324 hx hby at_418 rfl rfl ?_
          refine gIC (z := 2) X324 hx hby at_420 rfl ?_
          refine Goes.via (own_caload X324 hx hZ e324' f313 (j := (2 : Int32)) (i := 2) (by decide) (by decide) (by decide) (v := t2) (Eq.trans rfl (congrArg Value.int c_t2.1)) (g := (mkF m 421 #[vi x0, vi x1, vi (1 : Int32), vi y0, vi y1, vr b176, vr b238, vi kv, vr r_288] [(.int (2 : Int32)), (.ref b176), (.int ((fun i => g (10 + i)) 3 &&& (255 : Int32)))])) rfl rfl (hb hby at_421)) ?_
          show Goes p e below _ (T324.setTop (mkF m 422 #[vi x0, vi x1, vi (1 : Int32), vi y0, vi y1, vr b176, vr b238, vi kv, vr r_288] [(.int t2), (.int ((fun i => g (10 + i)) 3 &&& (255 : Int32)))]))
          have hc422_325 : ((fun i => g (10 + i)) 3 &&& (255 : Int32)) = t2 := (show g 13 &&& (255 : Int32) = t2 from by rw [g_13]; exact c_t2.2.2.1)
          refine Goes.via (fun _ kk_ => XS.icmpNo X324.here hx rfl (hb hby at_422) rfl (teq hc422_325).2 kk_) ?_
          show Goes p e below _ (T324.setTop (mkF m 425 #[vi x0, vi x1, vi (1 : Int32), vi y0, vi y1, vr b176, vr b238, vi kv, vr r_288] []))
          refine gIL X324 hx hby at_425 rfl ?_
          refine gIC (z := 4) X324 hx hby at_427 rfl ?_
          by_cases hc428 : kv < (4 : Int32)
          · skip
            refine Goes.via (fun _ kk_ => XS.icmpYes X324.here hx rfl (pc0 := 428) (pc' := 444) rfl (hb hby at_428) rfl (tlt hc428).1 (by decide) (by decide) kk_) ?_
            show Goes p e below _ (T324.setTop (mkF m 444 #[vi x0, vi x1, vi (1 : Int32), vi y0, vi y1, vr b176, vr b238, vi kv, vr r_288] []))
            refine gIL X324 hx hby at_444 rfl ?_
            refine gIC (z := 5) X324 hx hby at_446 rfl ?_
            have hc447_326 : kv < (5 : Int32) := (own_ltt hc428 (by decide))
            refine Goes.via (fun _ kk_ => XS.icmpYes X324.here hx rfl (pc0 := 447) (pc' := 463) rfl (hb hby at_447) rfl (tlt hc447_326).1 (by decide) (by decide) kk_) ?_
            show Goes p e below _ (T324.setTop (mkF m 463 #[vi x0, vi x1, vi (1 : Int32), vi y0, vi y1, vr b176, vr b238, vi kv, vr r_288] []))
            refine gIL X324 hx hby at_463 rfl ?_
            refine gBI (z := 6) X324 hx hby at_465 rfl ?_
            have hc467_327 : kv < (6 : Int32) := (own_ltt hc428 (by decide))
            refine Goes.via (fun _ kk_ => XS.icmpYes X324.here hx rfl (pc0 := 467) (pc' := 484) rfl (hb hby at_467) rfl (tlt hc467_327).1 (by decide) (by decide) kk_) ?_
            show Goes p e below _ (T324.setTop (mkF m 484 #[vi x0, vi x1, vi (1 : Int32), vi y0, vi y1, vr b176, vr b238, vi kv, vr r_288] []))
            refine gIC (z := 1) X324 hx hby at_484 rfl ?_
            refine Goes.via (fun _ kk_ => XS.goto X324.here hx rfl (pc0 := 485) (pc' := 489) rfl (hb hby at_485) (by decide) (by decide) kk_) ?_
            show Goes p e below _ (T324.setTop (mkF m 489 #[vi x0, vi x1, vi (1 : Int32), vi y0, vi y1, vr b176, vr b238, vi kv, vr r_288] [(.int (1 : Int32))]))
            have hKe : KS Z own_KL T324.vm T324.heap := by rw [e324']; exact Ks288.at_ (s := s) X324.warmed
            exact own_wfinN X324 SI288 (by rw [e324']; exact (Nat.le_refl _)) (fun U_ hv hh_ => by show KS Z own_KL U_.vm U_.heap; rw [hv, hh_]; exact hKe) hx hlk hret (by simp) (hb hby at_489) (by rw [e324']; exact ⟨rfl, N288, K299⟩) (by first | decide | omega | (dsimp only; omega)) (by first | decide | omega | (dsimp only; omega))
          · skip
            refine Goes.via (fun _ kk_ => XS.icmpNo X324.here hx rfl (hb hby at_428) rfl (flt hc428).1 kk_) ?_
            show Goes p e below _ (T324.setTop (mkF m 431 #[vi x0, vi x1, vi (1 : Int32), vi y0, vi y1, vr b176, vr b238, vi kv, vr r_288] []))
            refine gAL X324 hx hby at_431 rfl rfl ?_
            refine gIC (z := 4) X324 hx hby at_433 rfl ?_
            obtain ⟨cq328, kq328, q328a, q328b, q328c⟩ := isOf hZ e324' u288_1
            obtain ⟨_, _, ⟨T328, L328, k328, n328⟩, -, X328, ⟨Lc328, hQ328, l328, y328, z328⟩, st328⟩ := X324.virtualBack hx (y := (⟨"java/lang/String", "charAt", "(I)C"⟩ : MethodName)) (z := (⟨"java/lang/String", "charAt", "(I)C"⟩ : MethodName)) hown (mvT hZ (own_w hw 12 rfl)) (mvT hZ (own_w hw 13 rfl)) (notFace_of_selects (args := #[]) (mvT hZ (own_w hw 15 rfl))) (mvT hZ (own_w hw 15 rfl)) (mvT hZ (own_w hw 14 rfl)) (by decide) (backOf (W := 0) (rm2 l Z a0 hw [] r_288 (4 : Int32) cS nb288 kb288 M (fun i => g (10 + i)) (kv + (1 : Int32)) 4 fo T288.heap n0 (Nat.le_trans Z0 z302) u288_1 u288_2 u288_3 u288_4 f300 H_cs (by decide) (by have q : ¬ _ := fun q => hc428 (own_lti.mpr q); have q1 : (4 : Int32).toInt = 4 := (by decide); omega) hk1 f304 Hfo) hZ (own_w hw 16 rfl) (own_w hw 5 rfl) (by decide) (by decide)) q328a q328c (g := (mkF m 434 #[vi x0, vi x1, vi (1 : Int32), vi y0, vi y1, vr b176, vr b238, vi kv, vr r_288] [(.int (4 : Int32)), (.ref r_288)])) rfl (by rw [hml]; rfl) (Steps.refl _) (argsL := [(.int (4 : Int32))]) (rest := []) (lenOf pd_17 rfl) rfl (by show 2 * 0 + _ ≤ _; exact Nat.le_of_eq rfl) (hb hby at_434) (fun _ _ => ⟨rfl, e324', (by decide : 24 + 0 ≤ _), (by decide : 366 + 0 ≤ _)⟩)
            dsimp only [Pt.U, Pt.locs, Pt.cells, Pt.slots] at X328 l328 y328 z328 st328 hQ328
            replace l328 := l328.symm
            subst l328 y328 z328
            obtain ⟨rfl, rfl, e328⟩ := hQ328
            first | rw [List.append_nil] at X328 | skip
            refine Goes.tr st328 ?_
            have e328' : T328.heap = T288.heap := e328
            show Goes p e below _ (T328.setTop (mkF m 437 #[vi x0, vi x1, vi (1 : Int32), vi y0, vi y1, vr b176, vr b238, vi kv, vr r_288] [(.int ((fun i => g (10 + i)) 4 &&& (255 : Int32)))]))
            refine gAL X328 hx hby at_437 rfl rfl ?_
            refine gIC (z := 3) X328 hx hby at_439 rfl ?_
            refine Goes.via (own_caload X328 hx hZ e328' f313 (j := (3 : Int32)) (i := 3) (by decide) (by decide) (by decide) (v := t3) (Eq.trans rfl (congrArg Value.int c_t3.1)) (g := (mkF m 440 #[vi x0, vi x1, vi (1 : Int32), vi y0, vi y1, vr b176, vr b238, vi kv, vr r_288] [(.int (3 : Int32)), (.ref b176), (.int ((fun i => g (10 + i)) 4 &&& (255 : Int32)))])) rfl rfl (hb hby at_440)) ?_
            show Goes p e below _ (T328.setTop (mkF m 441 #[vi x0, vi x1, vi (1 : Int32), vi y0, vi y1, vr b176, vr b238, vi kv, vr r_288] [(.int t3), (.int ((fun i => g (10 + i)) 4 &&& (255 : Int32)))]))
            have hc441_329 : ((fun i => g (10 + i)) 4 &&& (255 : Int32)) = t3 := (show g 14 &&& (255 : Int32) = t3 from by rw [g_14]; exact c_t3.2.2.1)
            refine Goes.via (fun _ kk_ => XS.icmpNo X328.here hx rfl (hb hby at_441) rfl (teq hc441_329).2 kk_) ?_
            show Goes p e below _ (T328.setTop (mkF m 444 #[vi x0, vi x1, vi (1 : Int32), vi y0, vi y1, vr b176, vr b238, vi kv, vr r_288] []))
            refine gIL X328 hx hby at_444 rfl ?_
            refine gIC (z := 5) X328 hx hby at_446 rfl ?_
            by_cases hc447 : kv < (5 : Int32)
            · skip
              refine Goes.via (fun _ kk_ => XS.icmpYes X328.here hx rfl (pc0 := 447) (pc' := 463) rfl (hb hby at_447) rfl (tlt hc447).1 (by decide) (by decide) kk_) ?_
              show Goes p e below _ (T328.setTop (mkF m 463 #[vi x0, vi x1, vi (1 : Int32), vi y0, vi y1, vr b176, vr b238, vi kv, vr r_288] []))
              refine gIL X328 hx hby at_463 rfl ?_
              refine gBI (z := 6) X328 hx hby at_465 rfl ?_
              have hc467_330 : kv < (6 : Int32) := (own_ltt hc447 (by decide))
              refine Goes.via (fun _ kk_ => XS.icmpYes X328.here hx rfl (pc0 := 467) (pc' := 484) rfl (hb hby at_467) rfl (tlt hc467_330).1 (by decide) (by decide) kk_) ?_
              show Goes p e below _ (T328.setTop (mkF m 484 #[vi x0, vi x1, vi (1 : Int32), vi y0, vi y1, vr b176, vr b238, vi kv, vr r_288] []))
              refine gIC (z := 1) X328 hx hby at_484 rfl ?_
              refine Goes.via (fun _ kk_ => XS.goto X328.here hx rfl (pc0 := 485) (pc' := 489) rfl (hb hby at_485) (by decide) (by decide) kk_) ?_
              show Goes p e below _ (T328.setTop (mkF m 489 #[vi x0, vi x1, vi (1 : Int32), vi y0, vi y1, vr b176, vr b238, vi kv, vr r_288] [(.int (1 : Int32))]))
              have hKe : KS Z own_KL T328.vm T328.heap := by rw [e328']; exact Ks288.at_ (s := s) X328.warmed
              exact own_wfinN X328 SI288 (by rw [e328']; exact (Nat.le_refl _)) (fun U_ hv hh_ => by show KS Z own_KL U_.vm U_.heap; rw [hv, hh_]; exact hKe) hx hlk hret (by simp) (hb hby at_489) (by rw [e328']; exact ⟨rfl, N288, K299⟩) (by first | decide | omega | (dsimp only; omega)) (by first | decide | omega | (dsimp only; omega))
            · skip
              refine Goes.via (fun _ kk_ => XS.icmpNo X328.here hx rfl (hb hby at_447) rfl (flt hc447).1 kk_) ?_
              show Goes p e below _ (T328.setTop (mkF m 450 #[vi x0, vi x1, vi (1 : Int32), vi y0, vi y1, vr b176, vr b238, vi kv, vr r_288] []))
              refine gAL X328 hx hby at_450 rfl rfl ?_
              refine gIC (z := 5) X328 hx hby at_452 rfl ?_
              obtain ⟨cq331, kq331, q331a, q331b, q331c⟩ := isOf hZ e328' u288_1
              obtain ⟨_, _, ⟨T331, L331, k331, n331⟩, -, X331, ⟨Lc331, hQ331, l331, y331, z331⟩, st331⟩ := X328.virtualBack hx (y := (⟨"java/lang/String", "charAt", "(I)C"⟩ : MethodName)) (z := (⟨"java/lang/String", "charAt", "(I)C"⟩ : MethodName)) hown (mvT hZ (own_w hw 12 rfl)) (mvT hZ (own_w hw 13 rfl)) (notFace_of_selects (args := #[]) (mvT hZ (own_w hw 15 rfl))) (mvT hZ (own_w hw 15 rfl)) (mvT hZ (own_w hw 14 rfl)) (by decide) (backOf (W := 0) (rm2 l Z a0 hw [] r_288 (5 : Int32) cS nb288 kb288 M (fun i => g (10 + i)) (kv + (1 : Int32)) 5 fo T288.heap n0 (Nat.le_trans Z0 z302) u288_1 u288_2 u288_3 u288_4 f300 H_cs (by decide) (by have q : ¬ _ := fun q => hc447 (own_lti.mpr q); have q1 : (5 : Int32).toInt = 5 := (by decide); omega) hk1 f304 Hfo) hZ (own_w hw 16 rfl) (own_w hw 5 rfl) (by decide) (by decide)) q331a q331c (g := (mkF m 453 #[vi x0, vi x1, vi (1 : Int32), vi y0, vi y1, vr b176, vr b238, vi kv, vr r_288] [(.int (5 : Int32)), (.ref r_288)])) rfl (by rw [hml]; rfl) (Steps.refl _) (argsL := [(.int (5 : Int32))]) (rest := []) (lenOf pd_17 rfl) rfl (by show 2 * 0 + _ ≤ _; exact Nat.le_of_eq rfl) (hb hby at_453) (fun _ _ => ⟨rfl, e328', (by decide : 24 + 0 ≤ _), (by decide : 366 + 0 ≤ _)⟩)
              dsimp only [Pt.U, Pt.locs, Pt.cells, Pt.slots] at X331 l331 y331 z331 st331 hQ331
              replace l331 := l331.symm
              subst l331 y331 z331
              obtain ⟨rfl, rfl, e331⟩ := hQ331
              first | rw [List.append_nil] at X331 | skip
              refine Goes.tr st331 ?_
              have e331' : T331.heap = T288.heap := e331
              show Goes p e below _ (T331.setTop (mkF m 456 #[vi x0, vi x1, vi (1 : Int32), vi y0, vi y1, vr b176, vr b238, vi kv, vr r_288] [(.int ((fun i => g (10 + i)) 5 &&& (255 : Int32)))]))
              refine gAL X331 hx hby at_456 rfl rfl ?_
              refine gIC (z := 4) X331 hx hby at_458 rfl ?_
              refine Goes.via (own_caload X331 hx hZ e331' f313 (j := (4 : Int32)) (i := 4) (by decide) (by decide) (by decide) (v := t4) (Eq.trans rfl (congrArg Value.int c_t4.1)) (g := (mkF m 459 #[vi x0, vi x1, vi (1 : Int32), vi y0, vi y1, vr b176, vr b238, vi kv, vr r_288] [(.int (4 : Int32)), (.ref b176), (.int ((fun i => g (10 + i)) 5 &&& (255 : Int32)))])) rfl rfl (hb hby at_459)) ?_
              show Goes p e below _ (T331.setTop (mkF m 460 #[vi x0, vi x1, vi (1 : Int32), vi y0, vi y1, vr b176, vr b238, vi kv, vr r_288] [(.int t4), (.int ((fun i => g (10 + i)) 5 &&& (255 : Int32)))]))
              have hc460_332 : ((fun i => g (10 + i)) 5 &&& (255 : Int32)) = t4 := (show g 15 &&& (255 : Int32) = t4 from by rw [g_15]; exact c_t4.2.2.1)
              refine Goes.via (fun _ kk_ => XS.icmpNo X331.here hx rfl (hb hby at_460) rfl (teq hc460_332).2 kk_) ?_
              show Goes p e below _ (T331.setTop (mkF m 463 #[vi x0, vi x1, vi (1 : Int32), vi y0, vi y1, vr b176, vr b238, vi kv, vr r_288] []))
              refine gIL X331 hx hby at_463 rfl ?_
              refine gBI (z := 6) X331 hx hby at_465 rfl ?_
              have hc467_333 : kv < (6 : Int32) := (own_lti.mpr (by have q : (6 : Int32).toInt = 6 := (by decide); omega))
              refine Goes.via (fun _ kk_ => XS.icmpYes X331.here hx rfl (pc0 := 467) (pc' := 484) rfl (hb hby at_467) rfl (tlt hc467_333).1 (by decide) (by decide) kk_) ?_
              show Goes p e below _ (T331.setTop (mkF m 484 #[vi x0, vi x1, vi (1 : Int32), vi y0, vi y1, vr b176, vr b238, vi kv, vr r_288] []))
              refine gIC (z := 1) X331 hx hby at_484 rfl ?_
              refine Goes.via (fun _ kk_ => XS.goto X331.here hx rfl (pc0 := 485) (pc' := 489) rfl (hb hby at_485) (by decide) (by decide) kk_) ?_
              show Goes p e below _ (T331.setTop (mkF m 489 #[vi x0, vi x1, vi (1 : Int32), vi y0, vi y1, vr b176, vr b238, vi kv, vr r_288] [(.int (1 : Int32))]))
              have hKe : KS Z own_KL T331.vm T331.heap := by rw [e331']; exact Ks288.at_ (s := s) X331.warmed
              exact own_wfinN X331 SI288 (by rw [e331']; exact (Nat.le_refl _)) (fun U_ hv hh_ => by show KS Z own_KL U_.vm U_.heap; rw [hv, hh_]; exact hKe) hx hlk hret (by simp) (hb hby at_489) (by rw [e331']; exact ⟨rfl, N288, K299⟩) (by first | decide | omega | (dsimp only; omega)) (by first | decide | omega | (dsimp only; omega))
set_option maxRecDepth 65536 in
set_option maxHeartbeats 40000000 in
theorem comes_1 {Post : Tables → Env → Array Value → State → Outcome → State → Prop} (hpost : ∀ tb e args s v u, (limb_1_1.after args s (.returned v) u = true ∧ limb_1_2.after args s (.returned v) u = true ∧ True) → ReturnedEndW s (.returned v) u (Jvm.fieldLocs frame_1_writes args s ++ Jvm.arrayLocs frame_1_arrays args s ++ Jvm.staticLocs frame_1_statics s) 32 3264 → Post tb e args s (.returned v) u) :
    ArmFor flags0 classFile x code maxLocals ret World_1 tables_1 room_1 Calls_1 rest_1 Pre_1 Post := by
  intro l hfl _ _ p e ha hc hk s m args below hf hA hF happ hP
  obtain ⟨hcalls, hrest, hpre⟩ := hP
  obtain ⟨-, -, -, hnamed, -, -, -, hat⟩ := (Spec.applies_iff hf).mp happ
  obtain ⟨hg, hn⟩ := and_e (Cond.before_iff.mp (show (Jvm.Cond.and given_1 narrow_1).before args s = true from hpre))
  obtain ⟨gg1, gg2⟩ := and_e hg
  obtain ⟨gg3, gg4⟩ := and_e gg2
  obtain ⟨w0, w1, rfl⟩ : ∃ w0 w1 : Value, args = #[w0, w1] := by
    have hs : args.size = 2 := by simpa [Cond.value, given_1] using gg1
    obtain ⟨L⟩ := args
    match L, hs with
    | [w0, w1], _ => exact ⟨w0, w1, rfl⟩
  have hw := fun d (hd : d ∈ tables_1) => atoms_spec (ws := Jvm.Cond.code x code maxLocals ret :: tables_1) hat d (List.mem_cons_of_mem _ hd)
  have hfit : Fit s := fun {y c} hc i hi => by
    obtain ⟨ha, rfl⟩ := Array.getElem?_eq_some_iff.mp hc
    have q := List.all_eq_true.mp ((Array.all_eq_true_iff_forall_mem.mp hF) _ (Array.getElem_mem ha)) i (List.mem_range.mpr hi)
    simpa [Array.getElem?_eq_getElem hi] using q
  obtain ⟨hsets, hown0⟩ := atoms_of _ (rest_1_c_eq ▸ (show rest_1_c.before _ s = true from hrest))
  have hr0 := Cond.before_iff.mp hown0
  obtain ⟨i0, ei0⟩ := is_v gg3
  obtain rfl : w0 = (.int i0) := Option.some.inj ei0
  obtain ⟨i1, ei1⟩ := is_v gg4
  obtain rfl : w1 = (.int i1) := Option.some.inj ei1
  obtain ⟨cS, eS⟩ := is_v (Cond.before_iff.mp (hsets _ (List.mem_of_getElem? (i := 1) rfl)))
  have OS : Sta s s.heap "java/lang/String" "COMPACT_STRINGS" "Z" (.int cS) := Sta.start eS (Or.inl (hsets _ (List.mem_of_getElem? (i := 0) rfl)))
  have HS : ¬ cS = (0 : Int32) := gotF (Cond.eq_ints eS (Term.int_eval (0))) (not_v (Cond.before_iff.mp (hsets _ (List.mem_of_getElem? (i := 2) rfl))))
  have HW : Jvm.Lit.compactW.before _ s = true := hsets _ (List.mem_of_getElem? (i := 2) rfl)
  have HC0 : Jvm.Lit.constHeld s "com/example/lincra/lincra/UrlNormalizerPathPinLaw" 7 := hcalls.1 ("com/example/lincra/lincra/UrlNormalizerPathPinLaw", 7) (by simp [consts_1])
  have HC1 : Jvm.Lit.constHeld s "com/example/lincra/lincra/UrlNormalizerPathPinLaw" 15 := hcalls.1 ("com/example/lincra/lincra/UrlNormalizerPathPinLaw", 15) (by simp [consts_1])
  have HC2 : Jvm.Lit.constHeld s "com/example/lincra/lincra/UrlNormalizer" 81 := hcalls.1 ("com/example/lincra/lincra/UrlNormalizer", 81) (by simp [consts_1])
  obtain ⟨fo, eF, Hfo⟩ := isR_v (Cond.before_iff.mp (hsets _ (List.mem_of_getElem? (i := 8) rfl)))
  have OF : Sta s s.heap "jdk/internal/util/Preconditions" "SIOOBE_FORMATTER" "Ljava/util/function/BiFunction;" fo := Sta.start eF (Or.inl (hsets _ (List.mem_of_getElem? (i := 7) rfl)))
  obtain ⟨n, o, h1, h2, h3, _, L, rfl, ⟨rfl, N, -⟩, -, hq⟩ := rm0 l s _ hw tables_1 i0 i1 cS fo s.heap s.heap.size (Nat.le_refl _) OS HS OF Hfo (Old.start s) HW HC0 HC1 HC2 p e ha hc hk s m _ below hf ((Spec.applies_iff_loose hf).mp happ).1 ⟨rfl, State.Warmed39.refl s, rfl, KS.start⟩ trivial
  refine ⟨n, _, h1, h2, h3, hpost _ _ _ _ _ _ ⟨Cond.after_iff.mpr rfl, Cond.after_iff.mpr (eq_i res_at (Term.int_eval (1)) rfl), trivial⟩ ⟨hq.1, hq.2.1, hq.2.2.1, (hq.2.2.2.sift fun y hy => Or.inr (N y hy)).mono (by decide) (by decide)⟩⟩
theorem main_1_1 : Claimed_1_1 := comes_1 fun _ _ _ _ _ _ h hF => ⟨h.1, hF⟩
theorem main_1_2 : Claimed_1_2 := comes_1 fun _ _ _ _ _ _ h hF => ⟨h.2.1, hF⟩
end Jvm.Pilot.@@N@@
namespace Jvm.Pilot.@@N@@
open Jvm Jvm.ClassFile Sem Op Lib Jvm.Free Jvm.Stand Jvm.Pilot.@@N@@.Jvm.D
/-! MADE BY PROGRAM (witnessworld.py) out of the Statement's table words and the real class files: 23 classes; the members and pool entries that the words name. The judged class is class 1, her method 3. -/
namespace start1
open Jvm.ClassFile
def u (s : String) : CpInfo := .utf8 (stringToUtf16 s)
/-- a pool by its gaps: so many unusable entries, then the entry; so many at the end -/
def gap : Nat → List CpInfo → List CpInfo
  | 0, r => r
  | n + 1, r => .unusable :: gap n r
def poolList (es : List (Nat × CpInfo)) (last : Nat) : List CpInfo := es.foldr (fun e r => gap e.1 (e.2 :: r)) (gap last [])
def pool (es : List (Nat × CpInfo)) (last : Nat) : Array CpInfo := ⟨poolList es last⟩
def fileOf (pool : Array CpInfo) (this : Nat) (attrs : Array Attribute := #[]) (ms : Array MethodInfo := #[]) (fl : Nat := 33) (sup : Nat := 0) (ifs : Array Nat := #[]) (fds : Array FieldInfo := #[]) : ClassFile where
  minorVersion := 0
  majorVersion := 65
  constantPool := pool
  accessFlags := fl
  thisClass := this
  superClass := sup
  interfaces := ifs
  fields := fds
  methods := ms
  attributes := attrs
def plain (name : String) (sup : Option ClassId) : Class where
  name := name
  kind := .ordinary
  loader := none
  accessFlags := 33
  super := sup
  interfaces := #[]
  cf := none
  fields := #[]
  methods := #[]
  instanceTypes := #[]
  staticTypes := #[]
  resolved := #[]
  callSites := []
  init := .initialized
  statics := none
  mirror := none

def pool0 : Array CpInfo := pool [(5, u "<init>"), (0, u "()V"), (1, .class_ 10), (1, u "java/lang/Object")] 113

def k0c0 : Code := { maxStack := 0, maxLocals := 1, code := object_method_1_code, exceptionTable := #[], attributes := #[] }
def k0m0 : Method := { name := "<init>", desc := "()V", sig := { parameters := [], returnType := none }, accessFlags := 1, code := some k0c0 }
/-- java/lang/Object -/
def k0 : Class := { plain "java/lang/Object" none with
  accessFlags := 33
  interfaces := #[]
  cf := some (fileOf pool0 8 #[] #[{ accessFlags := 1, nameIndex := 5, descriptorIndex := 6, attributes := #[] }] 33 0 #[] #[])
  fields := #[]
  methods := #[k0m0]
  instanceTypes := #[]
  staticTypes := #[]
  resolved := Array.replicate 124 none
  statics := none }

def pool1 : Array CpInfo := pool [(2, .class_ 4), (1, u "java/lang/Object"), (0, u "<init>"), (0, u "()V"), (0, .string 8), (0, u "az09.-~_"), (0, .methodref 10 11), (0, .class_ 12), (0, .nameAndType 13 14), (0, u "java/lang/String"), (0, u "charAt"), (0, u "(I)C"), (0, .string 16), (0, u "a/?Z9-=:"), (0, .methodref 18 19), (0, .class_ 20), (0, .nameAndType 21 14), (0, u "com/example/lincra/lincra/UrlNormalizerPathPinLaw"), (0, u "hostChar"), (0, .methodref 18 23), (0, .nameAndType 24 14), (0, u "tailChar"), (0, .methodref 10 26), (0, .nameAndType 5 27), (0, u "([C)V"), (0, .methodref 29 30), (0, .class_ 31), (0, .nameAndType 32 33), (0, u "com/example/lincra/lincra/UrlNormalizer"), (0, u "path"), (0, u "(Ljava/lang/String;)Ljava/lang/String;"), (0, .methodref 10 35), (0, .nameAndType 36 37), (0, u "length"), (0, u "()I"), (2, u "law"), (0, u "(II)Z")] 5

def k1m0 : Method := { name := "<init>", desc := "()V", sig := { parameters := [], returnType := none }, accessFlags := 2, code := none }
def k1c1 : Code := { maxStack := 3, maxLocals := 1, code := method_2_code, exceptionTable := #[], attributes := #[] }
def k1m1 : Method := { name := "hostChar", desc := "(I)C", sig := { parameters := [.int], returnType := some .char }, accessFlags := 10, code := some k1c1 }
def k1c2 : Code := { maxStack := 3, maxLocals := 1, code := method_3_code, exceptionTable := #[], attributes := #[] }
def k1m2 : Method := { name := "tailChar", desc := "(I)C", sig := { parameters := [.int], returnType := some .char }, accessFlags := 10, code := some k1c2 }
def k1c3 : Code := { maxStack := 4, maxLocals := 9, code := code, exceptionTable := #[], attributes := #[] }
def k1m3 : Method := { name := "law", desc := "(II)Z", sig := { parameters := [.int, .int], returnType := some .boolean }, accessFlags := 9, code := some k1c3 }
/-- com/example/lincra/lincra/UrlNormalizerPathPinLaw -/
def k1 : Class := { plain "com/example/lincra/lincra/UrlNormalizerPathPinLaw" (some 0) with
  accessFlags := 49
  interfaces := #[]
  cf := some (fileOf pool1 18 #[] #[{ accessFlags := 2, nameIndex := 5, descriptorIndex := 6, attributes := #[] }, { accessFlags := 10, nameIndex := 21, descriptorIndex := 14, attributes := #[] }, { accessFlags := 10, nameIndex := 24, descriptorIndex := 14, attributes := #[] }, { accessFlags := 9, nameIndex := 40, descriptorIndex := 41, attributes := #[] }] 49 2 #[] #[])
  fields := #[]
  methods := #[k1m0, k1m1, k1m2, k1m3]
  instanceTypes := #[]
  staticTypes := #[]
  resolved := Array.replicate 47 none
  statics := none }

def pool2 : Array CpInfo := pool [(1, .class_ 2), (0, u "java/io/Serializable"), (0, .class_ 4), (0, u "java/lang/Object")] 2

/-- java/io/Serializable -/
def k2 : Class := { plain "java/io/Serializable" (some 0) with
  accessFlags := 1537
  interfaces := #[]
  cf := some (fileOf pool2 1 #[] #[] 1537 3 #[] #[])
  fields := #[]
  methods := #[]
  instanceTypes := #[]
  staticTypes := #[]
  resolved := Array.replicate 7 none
  statics := none }

def pool3 : Array CpInfo := pool [(1, .class_ 2), (0, u "java/lang/Comparable"), (0, .class_ 4), (0, u "java/lang/Object")] 7

/-- java/lang/Comparable -/
def k3 : Class := { plain "java/lang/Comparable" (some 0) with
  accessFlags := 1537
  interfaces := #[]
  cf := some (fileOf pool3 1 #[] #[] 1537 3 #[] #[])
  fields := #[]
  methods := #[]
  instanceTypes := #[]
  staticTypes := #[]
  resolved := Array.replicate 12 none
  statics := none }

def pool4 : Array CpInfo := pool [(2, .class_ 4), (1, u "java/lang/CharSequence"), (42, .class_ 48), (0, u "java/lang/CharSequence$1CodePointIterator"), (10, .class_ 60), (0, u "java/lang/CharSequence$1CharIterator"), (5, .class_ 67), (0, u "java/lang/Object")] 63

/-- java/lang/CharSequence -/
def k4 : Class := { plain "java/lang/CharSequence" (some 0) with
  accessFlags := 1537
  interfaces := #[]
  cf := some (fileOf pool4 2 #[.nestMembers #[47, 59]] #[] 1537 66 #[] #[])
  fields := #[]
  methods := #[]
  instanceTypes := #[]
  staticTypes := #[]
  resolved := Array.replicate 131 none
  statics := none }

def pool5 : Array CpInfo := pool [(1, .class_ 2), (0, u "java/lang/constant/Constable"), (0, .class_ 4), (0, u "java/lang/Object")] 6

/-- java/lang/constant/Constable -/
def k5 : Class := { plain "java/lang/constant/Constable" (some 0) with
  accessFlags := 1537
  interfaces := #[]
  cf := some (fileOf pool5 1 #[] #[] 1537 3 #[] #[])
  fields := #[]
  methods := #[]
  instanceTypes := #[]
  staticTypes := #[]
  resolved := Array.replicate 11 none
  statics := none }

def pool6 : Array CpInfo := pool [(1, .class_ 2), (0, u "java/lang/constant/ConstantDesc"), (0, .class_ 4), (0, u "java/lang/Object")] 32

/-- java/lang/constant/ConstantDesc -/
def k6 : Class := { plain "java/lang/constant/ConstantDesc" (some 0) with
  accessFlags := 1537
  interfaces := #[]
  cf := some (fileOf pool6 1 #[] #[] 1537 3 #[] #[])
  fields := #[]
  methods := #[]
  instanceTypes := #[]
  staticTypes := #[]
  resolved := Array.replicate 37 none
  statics := none }

def pool7 : Array CpInfo := pool [(1, .methodref 2 3), (0, .class_ 4), (0, .nameAndType 5 6), (0, u "java/lang/Object"), (0, u "<init>"), (0, u "()V"), (2, .fieldref 10 11), (0, .class_ 12), (0, .nameAndType 13 14), (0, u "java/lang/String"), (0, u "value"), (0, u "[B"), (0, .fieldref 10 16), (0, .nameAndType 17 18), (0, u "coder"), (0, u "B"), (2, u "hash"), (0, u "I"), (2, u "hashIsZero"), (0, u "Z"), (0, .methodref 10 28), (0, .nameAndType 5 29), (0, u "([CIILjava/lang/Void;)V"), (8, .fieldref 10 39), (0, .nameAndType 40 26), (0, u "COMPACT_STRINGS"), (1, .class_ 44), (1, u "java/lang/StringUTF16"), (0, u "compress"), (1, .methodref 42 48), (0, .nameAndType 49 50), (0, u "coderFromArrayLen"), (0, u "([BI)B"), (56, .class_ 109), (1, u "java/lang/StringLatin1"), (32, u "()Z"), (34, .methodref 42 178), (0, .nameAndType 45 179), (0, u "([CII)[B"), (31, u "([BB)V"), (122, u "()I"), (0, .methodref 10 336), (0, .nameAndType 17 337), (0, u "()B"), (25, u "([BI)C"), (27, u "(II)V"), (35, u "(I)C"), (64, .methodref 10 493), (0, .nameAndType 494 142), (0, u "isLatin1"), (0, .methodref 107 496), (0, .nameAndType 497 363), (0, u "charAt"), (3, u "checkIndex"), (3, .methodref 10 506), (0, .nameAndType 507 334), (0, u "length"), (5, u "checkFromToIndex"), (7, .methodref 10 522), (0, .nameAndType 523 524), (0, u "checkBoundsBeginEnd"), (0, u "(III)V"), (50, .class_ 576), (0, u "java/lang/CharSequence"), (12, u "([B[B)I"), (9, u "CASE_INSENSITIVE_ORDER"), (0, u "Ljava/util/Comparator;"), (34, u "indexOf"), (0, u "(II)I"), (0, .methodref 107 638), (0, .nameAndType 635 639), (0, u "([BIII)I"), (7, .methodref 107 648), (0, .nameAndType 635 589), (32, .methodref 10 682), (0, .nameAndType 683 684), (0, u "substring"), (0, u "(II)Ljava/lang/String;"), (0, .methodref 107 686), (0, .nameAndType 687 688), (0, u "newString"), (0, u "([BII)Ljava/lang/String;"), (24, u "(Ljava/lang/String;)I"), (178, u "(I)Ljava/lang/String;"), (117, u "([C)V"), (42, .fieldref 1054 1055), (0, .class_ 1056), (0, .nameAndType 1057 1058), (0, u "jdk/internal/util/Preconditions"), (0, u "SIOOBE_FORMATTER"), (0, u "Ljava/util/function/BiFunction;"), (0, .methodref 1054 1060), (0, .nameAndType 501 1061), (0, u "(IILjava/util/function/BiFunction;)I"), (0, .methodref 1054 1063), (0, .nameAndType 513 1064), (0, u "(IIILjava/util/function/BiFunction;)I"), (36, u "serialPersistentFields"), (0, u "[Ljava/io/ObjectStreamField;"), (0, .class_ 1104), (0, u "java/lang/String$CaseInsensitiveComparator"), (1, .class_ 1107), (0, u "java/io/Serializable"), (0, .class_ 1109), (0, u "java/lang/Comparable"), (0, .class_ 1111), (0, u "java/lang/constant/Constable"), (0, .class_ 1113), (0, u "java/lang/constant/ConstantDesc"), (2, u "serialVersionUID"), (0, u "J"), (3, u "REPL"), (0, u "C"), (2, u "LATIN1"), (1, u "UTF16")] 323

def k7m0 : Method := { name := "<init>", desc := "()V", sig := { parameters := [], returnType := none }, accessFlags := 1, code := none }
def k7c1 : Code := { maxStack := 5, maxLocals := 2, code := jdk_42_method_3_code, exceptionTable := #[], attributes := #[] }
def k7m1 : Method := { name := "<init>", desc := "([C)V", sig := { parameters := [(.array .char)], returnType := none }, accessFlags := 1, code := some k7c1 }
def k7c2 : Code := { maxStack := 2, maxLocals := 1, code := jdk_42_method_54_code, exceptionTable := #[], attributes := #[] }
def k7m2 : Method := { name := "length", desc := "()I", sig := { parameters := [], returnType := some .int }, accessFlags := 1, code := some k7c2 }
def k7c3 : Code := { maxStack := 2, maxLocals := 2, code := jdk_42_method_56_code, exceptionTable := #[], attributes := #[] }
def k7m3 : Method := { name := "charAt", desc := "(I)C", sig := { parameters := [.int], returnType := some .char }, accessFlags := 1, code := some k7c3 }
def k7c4 : Code := { maxStack := 4, maxLocals := 3, code := jdk_42_method_80_code, exceptionTable := #[], attributes := #[] }
def k7m4 : Method := { name := "indexOf", desc := "(II)I", sig := { parameters := [.int, .int], returnType := some .int }, accessFlags := 1, code := some k7c4 }
def k7c5 : Code := { maxStack := 2, maxLocals := 3, code := jdk_42_method_84_code, exceptionTable := #[], attributes := #[] }
def k7m5 : Method := { name := "indexOf", desc := "(Ljava/lang/String;)I", sig := { parameters := [(.object "java/lang/String")], returnType := some .int }, accessFlags := 1, code := some k7c5 }
def k7c6 : Code := { maxStack := 3, maxLocals := 2, code := jdk_42_method_91_code, exceptionTable := #[], attributes := #[] }
def k7m6 : Method := { name := "substring", desc := "(I)Ljava/lang/String;", sig := { parameters := [.int], returnType := some (.object "java/lang/String") }, accessFlags := 1, code := some k7c6 }
def k7c7 : Code := { maxStack := 3, maxLocals := 5, code := jdk_42_method_92_code, exceptionTable := #[], attributes := #[] }
def k7m7 : Method := { name := "substring", desc := "(II)Ljava/lang/String;", sig := { parameters := [.int, .int], returnType := some (.object "java/lang/String") }, accessFlags := 1, code := some k7c7 }
def k7c8 : Code := { maxStack := 4, maxLocals := 6, code := jdk_42_method_149_code, exceptionTable := #[], attributes := #[] }
def k7m8 : Method := { name := "<init>", desc := "([CIILjava/lang/Void;)V", sig := { parameters := [(.array .char), .int, .int, (.object "java/lang/Void")], returnType := none }, accessFlags := 2, code := some k7c8 }
def k7c9 : Code := { maxStack := 2, maxLocals := 3, code := jdk_42_method_151_code, exceptionTable := #[], attributes := #[] }
def k7m9 : Method := { name := "<init>", desc := "([BB)V", sig := { parameters := [(.array .byte), .byte], returnType := none }, accessFlags := 0, code := some k7c9 }
def k7c10 : Code := { maxStack := 1, maxLocals := 1, code := jdk_42_method_152_code, exceptionTable := #[], attributes := #[] }
def k7m10 : Method := { name := "coder", desc := "()B", sig := { parameters := [], returnType := some .byte }, accessFlags := 0, code := some k7c10 }
def k7c11 : Code := { maxStack := 1, maxLocals := 1, code := jdk_42_method_154_code, exceptionTable := #[], attributes := #[] }
def k7m11 : Method := { name := "isLatin1", desc := "()Z", sig := { parameters := [], returnType := some .boolean }, accessFlags := 0, code := some k7c11 }
def k7c12 : Code := { maxStack := 3, maxLocals := 2, code := jdk_42_method_155_code, exceptionTable := #[], attributes := #[] }
def k7m12 : Method := { name := "checkIndex", desc := "(II)V", sig := { parameters := [.int, .int], returnType := none }, accessFlags := 8, code := some k7c12 }
def k7c13 : Code := { maxStack := 4, maxLocals := 3, code := jdk_42_method_158_code, exceptionTable := #[], attributes := #[] }
def k7m13 : Method := { name := "checkBoundsBeginEnd", desc := "(III)V", sig := { parameters := [.int, .int, .int], returnType := none }, accessFlags := 8, code := some k7c13 }
/-- java/lang/String -/
def k7 : Class := { plain "java/lang/String" (some 0) with
  accessFlags := 49
  interfaces := #[2, 3, 4, 5, 6]
  cf := some (fileOf pool7 10 #[.nestMembers #[1103]] #[{ accessFlags := 1, nameIndex := 5, descriptorIndex := 6, attributes := #[] }, { accessFlags := 1, nameIndex := 5, descriptorIndex := 1010, attributes := #[] }, { accessFlags := 1, nameIndex := 507, descriptorIndex := 334, attributes := #[] }, { accessFlags := 1, nameIndex := 497, descriptorIndex := 427, attributes := #[] }, { accessFlags := 1, nameIndex := 635, descriptorIndex := 636, attributes := #[] }, { accessFlags := 1, nameIndex := 635, descriptorIndex := 713, attributes := #[] }, { accessFlags := 1, nameIndex := 683, descriptorIndex := 892, attributes := #[] }, { accessFlags := 1, nameIndex := 683, descriptorIndex := 684, attributes := #[] }, { accessFlags := 2, nameIndex := 5, descriptorIndex := 29, attributes := #[] }, { accessFlags := 0, nameIndex := 5, descriptorIndex := 211, attributes := #[] }, { accessFlags := 0, nameIndex := 17, descriptorIndex := 337, attributes := #[] }, { accessFlags := 0, nameIndex := 494, descriptorIndex := 142, attributes := #[] }, { accessFlags := 8, nameIndex := 501, descriptorIndex := 391, attributes := #[] }, { accessFlags := 8, nameIndex := 523, descriptorIndex := 524, attributes := #[] }] 49 2 #[1106, 1108, 575, 1110, 1112] #[{ accessFlags := 18, nameIndex := 13, descriptorIndex := 14, attributes := #[] }, { accessFlags := 18, nameIndex := 17, descriptorIndex := 18, attributes := #[] }, { accessFlags := 2, nameIndex := 21, descriptorIndex := 22, attributes := #[] }, { accessFlags := 2, nameIndex := 25, descriptorIndex := 26, attributes := #[] }, { accessFlags := 26, nameIndex := 1116, descriptorIndex := 1117, attributes := #[] }, { accessFlags := 24, nameIndex := 40, descriptorIndex := 26, attributes := #[] }, { accessFlags := 26, nameIndex := 1101, descriptorIndex := 1102, attributes := #[] }, { accessFlags := 26, nameIndex := 1121, descriptorIndex := 1122, attributes := #[] }, { accessFlags := 25, nameIndex := 599, descriptorIndex := 600, attributes := #[] }, { accessFlags := 24, nameIndex := 1125, descriptorIndex := 18, attributes := #[] }, { accessFlags := 24, nameIndex := 1127, descriptorIndex := 18, attributes := #[] }])
  fields := #[{ name := "value", type := (.array .byte), accessFlags := 18, slot := 0, constantValue := 0 }, { name := "coder", type := .byte, accessFlags := 18, slot := 1, constantValue := 0 }, { name := "hash", type := .int, accessFlags := 2, slot := 2, constantValue := 0 }, { name := "hashIsZero", type := .boolean, accessFlags := 2, slot := 3, constantValue := 0 }, { name := "serialVersionUID", type := .long, accessFlags := 26, slot := 0, constantValue := 0 }, { name := "COMPACT_STRINGS", type := .boolean, accessFlags := 24, slot := 1, constantValue := 0 }, { name := "serialPersistentFields", type := (.array (.object "java/io/ObjectStreamField")), accessFlags := 26, slot := 2, constantValue := 0 }, { name := "REPL", type := .char, accessFlags := 26, slot := 3, constantValue := 0 }, { name := "CASE_INSENSITIVE_ORDER", type := (.object "java/util/Comparator"), accessFlags := 25, slot := 4, constantValue := 0 }, { name := "LATIN1", type := .byte, accessFlags := 24, slot := 5, constantValue := 0 }, { name := "UTF16", type := .byte, accessFlags := 24, slot := 6, constantValue := 0 }]
  methods := #[k7m0, k7m1, k7m2, k7m3, k7m4, k7m5, k7m6, k7m7, k7m8, k7m9, k7m10, k7m11, k7m12, k7m13]
  instanceTypes := #[(.array .byte), .byte, .int, .boolean]
  staticTypes := #[.long, .boolean, (.array (.object "java/io/ObjectStreamField")), .char, (.object "java/util/Comparator"), .byte, .byte]
  resolved := Array.replicate 1451 none
  statics := some 0 }

def pool8 : Array CpInfo := pool [(1, .class_ 2), (0, u "java/lang/String"), (1, .class_ 6), (1, u "java/lang/Object"), (0, u "<init>"), (0, u "()V"), (0, .methodref 1 10), (0, .nameAndType 11 12), (0, u "checkIndex"), (0, u "(II)V"), (1, .class_ 16), (1, u "java/lang/StringLatin1"), (21, .methodref 39 40), (0, .class_ 41), (0, .nameAndType 42 43), (0, u "java/lang/Math"), (0, u "min"), (0, u "(II)I"), (9, u "([BI)C"), (34, .methodref 14 89), (0, .nameAndType 90 91), (0, u "canEncode"), (0, u "(I)Z"), (0, .methodref 39 93), (0, .nameAndType 94 43), (0, u "max"), (0, .methodref 14 96), (0, .nameAndType 97 98), (0, u "indexOfChar"), (0, u "([BIII)I"), (0, .methodref 14 100), (0, .nameAndType 101 102), (0, u "indexOf"), (0, u "([BI[BII)I"), (9, .methodref 1 113), (0, .nameAndType 7 114), (0, u "([BB)V"), (6, u "$assertionsDisabled"), (0, u "Z"), (8, .class_ 133), (1, u "java/util/Arrays"), (62, u "newString"), (0, u "([BII)Ljava/lang/String;"), (23, .class_ 223), (1, u "java/lang/StringLatin1$LinesSpliterator"), (8, .methodref 131 233), (0, .nameAndType 234 235), (0, u "copyOfRange"), (0, u "([BII)[B"), (16, u "charAt"), (34, u "([B[B)I"), (102, .class_ 391), (0, u "java/lang/StringLatin1$CharsSpliterator")] 3

def k8m0 : Method := { name := "<init>", desc := "()V", sig := { parameters := [], returnType := none }, accessFlags := 0, code := none }
def k8c1 : Code := { maxStack := 2, maxLocals := 2, code := jdk_43_method_2_code, exceptionTable := #[], attributes := #[] }
def k8m1 : Method := { name := "charAt", desc := "([BI)C", sig := { parameters := [(.array .byte), .int], returnType := some .char }, accessFlags := 9, code := some k8c1 }
def k8c2 : Code := { maxStack := 2, maxLocals := 1, code := jdk_43_method_4_code, exceptionTable := #[], attributes := #[] }
def k8m2 : Method := { name := "canEncode", desc := "(I)Z", sig := { parameters := [.int], returnType := some .boolean }, accessFlags := 9, code := some k8c2 }
def k8c3 : Code := { maxStack := 4, maxLocals := 4, code := jdk_43_method_22_code, exceptionTable := #[], attributes := #[] }
def k8m3 : Method := { name := "indexOf", desc := "([BIII)I", sig := { parameters := [(.array .byte), .int, .int, .int], returnType := some .int }, accessFlags := 9, code := some k8c3 }
def k8c4 : Code := { maxStack := 2, maxLocals := 6, code := jdk_43_method_23_code, exceptionTable := #[], attributes := #[] }
def k8m4 : Method := { name := "indexOfChar", desc := "([BIII)I", sig := { parameters := [(.array .byte), .int, .int, .int], returnType := some .int }, accessFlags := 10, code := some k8c4 }
def k8c5 : Code := { maxStack := 5, maxLocals := 2, code := jdk_43_method_24_code, exceptionTable := #[], attributes := #[] }
def k8m5 : Method := { name := "indexOf", desc := "([B[B)I", sig := { parameters := [(.array .byte), (.array .byte)], returnType := some .int }, accessFlags := 9, code := some k8c5 }
def k8c6 : Code := { maxStack := 3, maxLocals := 11, code := jdk_43_method_25_code, exceptionTable := #[], attributes := #[] }
def k8m6 : Method := { name := "indexOf", desc := "([BI[BII)I", sig := { parameters := [(.array .byte), .int, (.array .byte), .int, .int], returnType := some .int }, accessFlags := 9, code := some k8c6 }
def k8c7 : Code := { maxStack := 6, maxLocals := 3, code := jdk_43_method_47_code, exceptionTable := #[], attributes := #[] }
def k8m7 : Method := { name := "newString", desc := "([BII)Ljava/lang/String;", sig := { parameters := [(.array .byte), .int, .int], returnType := some (.object "java/lang/String") }, accessFlags := 9, code := some k8c7 }
/-- java/lang/StringLatin1 -/
def k8 : Class := { plain "java/lang/StringLatin1" (some 0) with
  accessFlags := 48
  interfaces := #[]
  cf := some (fileOf pool8 14 #[.nestMembers #[390, 221]] #[{ accessFlags := 0, nameIndex := 7, descriptorIndex := 8, attributes := #[] }, { accessFlags := 9, nameIndex := 252, descriptorIndex := 53, attributes := #[] }, { accessFlags := 9, nameIndex := 90, descriptorIndex := 91, attributes := #[] }, { accessFlags := 9, nameIndex := 101, descriptorIndex := 98, attributes := #[] }, { accessFlags := 10, nameIndex := 97, descriptorIndex := 98, attributes := #[] }, { accessFlags := 9, nameIndex := 101, descriptorIndex := 287, attributes := #[] }, { accessFlags := 9, nameIndex := 101, descriptorIndex := 102, attributes := #[] }, { accessFlags := 9, nameIndex := 196, descriptorIndex := 197, attributes := #[] }] 48 4 #[] #[{ accessFlags := 4120, nameIndex := 121, descriptorIndex := 122, attributes := #[] }])
  fields := #[{ name := "$assertionsDisabled", type := .boolean, accessFlags := 4120, slot := 0, constantValue := 0 }]
  methods := #[k8m0, k8m1, k8m2, k8m3, k8m4, k8m5, k8m6, k8m7]
  instanceTypes := #[]
  staticTypes := #[.boolean]
  resolved := Array.replicate 395 none
  statics := none }

def pool9 : Array CpInfo := pool [(2, .class_ 4), (1, u "java/lang/Object"), (0, u "<init>"), (0, u "()V"), (17, .class_ 26), (1, u "jdk/internal/util/Preconditions"), (6, u "checkIndex"), (13, u "checkFromToIndex"), (7, .class_ 56), (0, u "jdk/internal/util/Preconditions$4"), (57, .class_ 115), (0, u "jdk/internal/util/Preconditions$1"), (7, u "SIOOBE_FORMATTER"), (0, u "Ljava/util/function/BiFunction;"), (0, .class_ 126), (0, u "jdk/internal/util/Preconditions$2"), (3, u "AIOOBE_FORMATTER"), (0, .class_ 132), (0, u "jdk/internal/util/Preconditions$3"), (3, u "IOOBE_FORMATTER"), (41, u "(IILjava/util/function/BiFunction;)I"), (4, u "(IIILjava/util/function/BiFunction;)I")] 10

def k9m0 : Method := { name := "<init>", desc := "()V", sig := { parameters := [], returnType := none }, accessFlags := 1, code := none }
def k9c1 : Code := { maxStack := 3, maxLocals := 3, code := jdk_41_method_11_code, exceptionTable := #[], attributes := #[] }
def k9m1 : Method := { name := "checkIndex", desc := "(IILjava/util/function/BiFunction;)I", sig := { parameters := [.int, .int, (.object "java/util/function/BiFunction")], returnType := some .int }, accessFlags := 9, code := some k9c1 }
def k9c2 : Code := { maxStack := 4, maxLocals := 4, code := jdk_41_method_12_code, exceptionTable := #[], attributes := #[] }
def k9m2 : Method := { name := "checkFromToIndex", desc := "(IIILjava/util/function/BiFunction;)I", sig := { parameters := [.int, .int, .int, (.object "java/util/function/BiFunction")], returnType := some .int }, accessFlags := 9, code := some k9c2 }
/-- jdk/internal/util/Preconditions -/
def k9 : Class := { plain "jdk/internal/util/Preconditions" (some 0) with
  accessFlags := 33
  interfaces := #[]
  cf := some (fileOf pool9 24 #[.nestMembers #[55, 131, 125, 114]] #[{ accessFlags := 1, nameIndex := 5, descriptorIndex := 6, attributes := #[] }, { accessFlags := 9, nameIndex := 33, descriptorIndex := 178, attributes := #[] }, { accessFlags := 9, nameIndex := 47, descriptorIndex := 183, attributes := #[] }] 33 2 #[] #[{ accessFlags := 25, nameIndex := 123, descriptorIndex := 124, attributes := #[] }, { accessFlags := 25, nameIndex := 130, descriptorIndex := 124, attributes := #[] }, { accessFlags := 25, nameIndex := 136, descriptorIndex := 124, attributes := #[] }])
  fields := #[{ name := "SIOOBE_FORMATTER", type := (.object "java/util/function/BiFunction"), accessFlags := 25, slot := 0, constantValue := 0 }, { name := "AIOOBE_FORMATTER", type := (.object "java/util/function/BiFunction"), accessFlags := 25, slot := 1, constantValue := 0 }, { name := "IOOBE_FORMATTER", type := (.object "java/util/function/BiFunction"), accessFlags := 25, slot := 2, constantValue := 0 }]
  methods := #[k9m0, k9m1, k9m2]
  instanceTypes := #[]
  staticTypes := #[(.object "java/util/function/BiFunction"), (.object "java/util/function/BiFunction"), (.object "java/util/function/BiFunction")]
  resolved := Array.replicate 194 none
  statics := some 1 }

def pool10 : Array CpInfo := pool [(6, .class_ 8), (1, u "java/lang/Object"), (0, u "<init>"), (0, u "()V"), (1, .class_ 14), (1, u "java/lang/StringUTF16"), (31, u "$assertionsDisabled"), (0, u "Z"), (13, u "HI_BYTE_SHIFT"), (0, u "I"), (2, u "LO_BYTE_SHIFT"), (49, .methodref 12 116), (0, .nameAndType 117 118), (0, u "compress"), (0, u "([CI[BII)I"), (3, u "([CII)[B"), (138, u "coderFromArrayLen"), (0, u "([BI)B"), (106, .class_ 371), (1, u "java/lang/StringUTF16$LinesSpliterator"), (58, u "MAX_LENGTH"), (196, .class_ 628), (0, u "java/lang/StringUTF16$CodePointsSpliterator"), (0, .class_ 630), (0, u "java/lang/StringUTF16$CharsSpliterator")] 4

def k10m0 : Method := { name := "<init>", desc := "()V", sig := { parameters := [], returnType := none }, accessFlags := 0, code := none }
def k10c1 : Code := { maxStack := 2, maxLocals := 2, code := jdk_52_method_15_code, exceptionTable := #[], attributes := #[] }
def k10m1 : Method := { name := "coderFromArrayLen", desc := "([BI)B", sig := { parameters := [(.array .byte), .int], returnType := some .byte }, accessFlags := 8, code := some k10c1 }
def k10c2 : Code := { maxStack := 5, maxLocals := 6, code := jdk_52_method_16_code, exceptionTable := #[], attributes := #[] }
def k10m2 : Method := { name := "compress", desc := "([CII)[B", sig := { parameters := [(.array .char), .int, .int], returnType := some (.array .byte) }, accessFlags := 9, code := some k10c2 }
def k10c3 : Code := { maxStack := 3, maxLocals := 7, code := jdk_52_method_21_code, exceptionTable := #[], attributes := #[] }
def k10m3 : Method := { name := "compress", desc := "([CI[BII)I", sig := { parameters := [(.array .char), .int, (.array .byte), .int, .int], returnType := some .int }, accessFlags := 9, code := some k10c3 }
/-- java/lang/StringUTF16 -/
def k10 : Class := { plain "java/lang/StringUTF16" (some 0) with
  accessFlags := 48
  interfaces := #[]
  cf := some (fileOf pool10 12 #[.nestMembers #[627, 629, 369]] #[{ accessFlags := 0, nameIndex := 9, descriptorIndex := 10, attributes := #[] }, { accessFlags := 8, nameIndex := 261, descriptorIndex := 262, attributes := #[] }, { accessFlags := 9, nameIndex := 117, descriptorIndex := 122, attributes := #[] }, { accessFlags := 9, nameIndex := 117, descriptorIndex := 118, attributes := #[] }] 48 6 #[] #[{ accessFlags := 26, nameIndex := 61, descriptorIndex := 62, attributes := #[] }, { accessFlags := 26, nameIndex := 65, descriptorIndex := 62, attributes := #[] }, { accessFlags := 24, nameIndex := 430, descriptorIndex := 62, attributes := #[] }, { accessFlags := 4120, nameIndex := 46, descriptorIndex := 47, attributes := #[] }])
  fields := #[{ name := "HI_BYTE_SHIFT", type := .int, accessFlags := 26, slot := 0, constantValue := 0 }, { name := "LO_BYTE_SHIFT", type := .int, accessFlags := 26, slot := 1, constantValue := 0 }, { name := "MAX_LENGTH", type := .int, accessFlags := 24, slot := 2, constantValue := 0 }, { name := "$assertionsDisabled", type := .boolean, accessFlags := 4120, slot := 3, constantValue := 0 }]
  methods := #[k10m0, k10m1, k10m2, k10m3]
  instanceTypes := #[]
  staticTypes := #[.int, .int, .int, .boolean]
  resolved := Array.replicate 635 none
  statics := none }

def pool11 : Array CpInfo := pool [(1, .class_ 2), (0, u "com/example/lincra/lincra/UrlNormalizer"), (1, .class_ 6), (1, u "java/lang/Object"), (0, u "<init>"), (0, u "()V"), (3, u "(Ljava/lang/String;)Ljava/lang/String;"), (4, .class_ 19), (1, u "java/lang/String"), (0, u "indexOf"), (13, .methodref 17 35), (0, .nameAndType 36 37), (0, u "substring"), (0, u "(II)Ljava/lang/String;"), (26, .methodref 17 65), (0, .nameAndType 20 66), (0, u "(II)I"), (0, .methodref 17 68), (0, .nameAndType 36 69), (0, u "(I)Ljava/lang/String;"), (11, .string 82), (0, u "://"), (17, .methodref 17 101), (0, .nameAndType 20 102), (0, u "(Ljava/lang/String;)I"), (141, u "HEX_DIGITS"), (0, u "[C"), (28, u "UNRESERVED_PUNCTUATION"), (0, u "Ljava/lang/String;"), (1, u "SUB_DELIMITERS"), (2, u "PATH_OR_QUERY_PUNCTUATION"), (0, u "USER_INFO_PUNCTUATION"), (0, u "HOST_PUNCTUATION"), (0, u "NOT_AN_HTTP_URL"), (0, u "PATH_WITH_QUERY"), (0, u "UNREADABLE_IPV6_ADDRESS"), (0, u "UNREADABLE_HOST_NAME"), (6, u "path")] 28

def k11m0 : Method := { name := "<init>", desc := "()V", sig := { parameters := [], returnType := none }, accessFlags := 2, code := none }
def k11c1 : Code := { maxStack := 4, maxLocals := 3, code := prog_17_method_5_code, exceptionTable := #[], attributes := #[] }
def k11m1 : Method := { name := "path", desc := "(Ljava/lang/String;)Ljava/lang/String;", sig := { parameters := [(.object "java/lang/String")], returnType := some (.object "java/lang/String") }, accessFlags := 8, code := some k11c1 }
/-- com/example/lincra/lincra/UrlNormalizer -/
def k11 : Class := { plain "com/example/lincra/lincra/UrlNormalizer" (some 0) with
  accessFlags := 49
  interfaces := #[]
  cf := some (fileOf pool11 1 #[] #[{ accessFlags := 2, nameIndex := 7, descriptorIndex := 8, attributes := #[] }, { accessFlags := 8, nameIndex := 293, descriptorIndex := 12, attributes := #[] }] 49 4 #[] #[{ accessFlags := 26, nameIndex := 274, descriptorIndex := 275, attributes := #[] }, { accessFlags := 26, nameIndex := 277, descriptorIndex := 275, attributes := #[] }, { accessFlags := 26, nameIndex := 280, descriptorIndex := 275, attributes := #[] }, { accessFlags := 26, nameIndex := 281, descriptorIndex := 275, attributes := #[] }, { accessFlags := 26, nameIndex := 282, descriptorIndex := 275, attributes := #[] }, { accessFlags := 26, nameIndex := 283, descriptorIndex := 275, attributes := #[] }, { accessFlags := 26, nameIndex := 284, descriptorIndex := 275, attributes := #[] }, { accessFlags := 26, nameIndex := 285, descriptorIndex := 275, attributes := #[] }, { accessFlags := 26, nameIndex := 286, descriptorIndex := 275, attributes := #[] }, { accessFlags := 26, nameIndex := 244, descriptorIndex := 245, attributes := #[] }])
  fields := #[{ name := "UNRESERVED_PUNCTUATION", type := (.object "java/lang/String"), accessFlags := 26, slot := 0, constantValue := 0 }, { name := "SUB_DELIMITERS", type := (.object "java/lang/String"), accessFlags := 26, slot := 1, constantValue := 0 }, { name := "PATH_OR_QUERY_PUNCTUATION", type := (.object "java/lang/String"), accessFlags := 26, slot := 2, constantValue := 0 }, { name := "USER_INFO_PUNCTUATION", type := (.object "java/lang/String"), accessFlags := 26, slot := 3, constantValue := 0 }, { name := "HOST_PUNCTUATION", type := (.object "java/lang/String"), accessFlags := 26, slot := 4, constantValue := 0 }, { name := "NOT_AN_HTTP_URL", type := (.object "java/lang/String"), accessFlags := 26, slot := 5, constantValue := 0 }, { name := "PATH_WITH_QUERY", type := (.object "java/lang/String"), accessFlags := 26, slot := 6, constantValue := 0 }, { name := "UNREADABLE_IPV6_ADDRESS", type := (.object "java/lang/String"), accessFlags := 26, slot := 7, constantValue := 0 }, { name := "UNREADABLE_HOST_NAME", type := (.object "java/lang/String"), accessFlags := 26, slot := 8, constantValue := 0 }, { name := "HEX_DIGITS", type := (.array .char), accessFlags := 26, slot := 9, constantValue := 0 }]
  methods := #[k11m0, k11m1]
  instanceTypes := #[]
  staticTypes := #[(.object "java/lang/String"), (.object "java/lang/String"), (.object "java/lang/String"), (.object "java/lang/String"), (.object "java/lang/String"), (.object "java/lang/String"), (.object "java/lang/String"), (.object "java/lang/String"), (.object "java/lang/String"), (.array .char)]
  resolved := Array.replicate 322 none
  statics := none }

def pool12 : Array CpInfo := pool [(1, .class_ 2), (0, u "java/lang/Math"), (1, .class_ 6), (1, u "java/lang/Object"), (0, u "<init>"), (0, u "()V"), (89, .class_ 100), (1, u "java/lang/Math$RandomNumberGeneratorHolder"), (71, u "negativeZeroFloatBits"), (0, u "J"), (2, u "negativeZeroDoubleBits"), (21, u "max"), (2, u "min"), (43, u "$assertionsDisabled"), (0, u "Z"), (88, u "(II)I"), (2, u "twoToTheDoubleScaleDown"), (0, u "D"), (4, u "twoToTheDoubleScaleUp"), (9, u "E"), (3, u "PI"), (2, u "TAU"), (2, u "DEGREES_TO_RADIANS"), (0, u "RADIANS_TO_DEGREES")] 94

def k12m0 : Method := { name := "<init>", desc := "()V", sig := { parameters := [], returnType := none }, accessFlags := 2, code := none }
def k12c1 : Code := { maxStack := 2, maxLocals := 2, code := jdk_29_method_65_code, exceptionTable := #[], attributes := #[] }
def k12m1 : Method := { name := "max", desc := "(II)I", sig := { parameters := [.int, .int], returnType := some .int }, accessFlags := 9, code := some k12c1 }
def k12c2 : Code := { maxStack := 2, maxLocals := 2, code := jdk_29_method_69_code, exceptionTable := #[], attributes := #[] }
def k12m2 : Method := { name := "min", desc := "(II)I", sig := { parameters := [.int, .int], returnType := some .int }, accessFlags := 9, code := some k12c2 }
/-- java/lang/Math -/
def k12 : Class := { plain "java/lang/Math" (some 0) with
  accessFlags := 49
  interfaces := #[]
  cf := some (fileOf pool12 1 #[.nestMembers #[98]] #[{ accessFlags := 2, nameIndex := 7, descriptorIndex := 8, attributes := #[] }, { accessFlags := 9, nameIndex := 198, descriptorIndex := 335, attributes := #[] }, { accessFlags := 9, nameIndex := 201, descriptorIndex := 335, attributes := #[] }] 49 4 #[] #[{ accessFlags := 25, nameIndex := 354, descriptorIndex := 339, attributes := #[] }, { accessFlags := 25, nameIndex := 358, descriptorIndex := 339, attributes := #[] }, { accessFlags := 25, nameIndex := 361, descriptorIndex := 339, attributes := #[] }, { accessFlags := 26, nameIndex := 364, descriptorIndex := 339, attributes := #[] }, { accessFlags := 26, nameIndex := 365, descriptorIndex := 339, attributes := #[] }, { accessFlags := 26, nameIndex := 172, descriptorIndex := 173, attributes := #[] }, { accessFlags := 26, nameIndex := 176, descriptorIndex := 173, attributes := #[] }, { accessFlags := 8, nameIndex := 344, descriptorIndex := 339, attributes := #[] }, { accessFlags := 8, nameIndex := 338, descriptorIndex := 339, attributes := #[] }, { accessFlags := 4120, nameIndex := 245, descriptorIndex := 246, attributes := #[] }])
  fields := #[{ name := "E", type := .double, accessFlags := 25, slot := 0, constantValue := 0 }, { name := "PI", type := .double, accessFlags := 25, slot := 1, constantValue := 0 }, { name := "TAU", type := .double, accessFlags := 25, slot := 2, constantValue := 0 }, { name := "DEGREES_TO_RADIANS", type := .double, accessFlags := 26, slot := 3, constantValue := 0 }, { name := "RADIANS_TO_DEGREES", type := .double, accessFlags := 26, slot := 4, constantValue := 0 }, { name := "negativeZeroFloatBits", type := .long, accessFlags := 26, slot := 5, constantValue := 0 }, { name := "negativeZeroDoubleBits", type := .long, accessFlags := 26, slot := 6, constantValue := 0 }, { name := "twoToTheDoubleScaleUp", type := .double, accessFlags := 8, slot := 7, constantValue := 0 }, { name := "twoToTheDoubleScaleDown", type := .double, accessFlags := 8, slot := 8, constantValue := 0 }, { name := "$assertionsDisabled", type := .boolean, accessFlags := 4120, slot := 9, constantValue := 0 }]
  methods := #[k12m0, k12m1, k12m2]
  instanceTypes := #[]
  staticTypes := #[.double, .double, .double, .double, .double, .long, .long, .double, .double, .boolean]
  resolved := Array.replicate 460 none
  statics := none }

def pool13 : Array CpInfo := pool [(2, .class_ 4), (1, u "java/lang/Object"), (0, u "<init>"), (0, u "()V"), (7, .class_ 16), (1, u "java/util/Arrays"), (57, .class_ 76), (1, u "java/util/Arrays$NaturalOrder"), (36, .class_ 115), (1, u "java/util/Arrays$LegacyMergeSort"), (1, u "Z"), (21, u "copyOfRange"), (10, .methodref 151 152), (0, .class_ 153), (0, .nameAndType 154 155), (0, u "java/lang/System"), (0, u "arraycopy"), (0, u "(Ljava/lang/Object;ILjava/lang/Object;II)V"), (148, .methodref 305 306), (0, .class_ 307), (0, .nameAndType 308 309), (0, u "java/lang/Math"), (0, u "min"), (0, u "(II)I"), (29, .methodref 14 340), (0, .nameAndType 341 342), (0, u "copyOfRangeByte"), (0, u "([BII)[B"), (0, .methodref 14 344), (0, .nameAndType 345 346), (0, u "checkLength"), (0, u "(II)V"), (28, .class_ 376), (0, u "java/util/Arrays$ArrayList"), (68, u "$assertionsDisabled"), (269, u "MIN_ARRAY_SORT_GRAN"), (0, u "I"), (2, u "INSERTIONSORT_THRESHOLD"), (255, .class_ 976), (0, u "java/util/Arrays$ArrayItr")] 52

def k13m0 : Method := { name := "<init>", desc := "()V", sig := { parameters := [], returnType := none }, accessFlags := 2, code := none }
def k13c1 : Code := { maxStack := 4, maxLocals := 2, code := jdk_65_method_131_code, exceptionTable := #[], attributes := #[] }
def k13m1 : Method := { name := "checkLength", desc := "(II)V", sig := { parameters := [.int, .int], returnType := none }, accessFlags := 10, code := some k13c1 }
def k13c2 : Code := { maxStack := 3, maxLocals := 3, code := jdk_65_method_132_code, exceptionTable := #[], attributes := #[] }
def k13m2 : Method := { name := "copyOfRange", desc := "([BII)[B", sig := { parameters := [(.array .byte), .int, .int], returnType := some (.array .byte) }, accessFlags := 9, code := some k13c2 }
def k13c3 : Code := { maxStack := 6, maxLocals := 5, code := jdk_65_method_133_code, exceptionTable := #[], attributes := #[] }
def k13m3 : Method := { name := "copyOfRangeByte", desc := "([BII)[B", sig := { parameters := [(.array .byte), .int, .int], returnType := some (.array .byte) }, accessFlags := 10, code := some k13c3 }
/-- java/util/Arrays -/
def k13 : Class := { plain "java/util/Arrays" (some 0) with
  accessFlags := 49
  interfaces := #[]
  cf := some (fileOf pool13 14 #[.nestMembers #[975, 375, 113, 74]] #[{ accessFlags := 2, nameIndex := 5, descriptorIndex := 6, attributes := #[] }, { accessFlags := 10, nameIndex := 345, descriptorIndex := 346, attributes := #[] }, { accessFlags := 9, nameIndex := 139, descriptorIndex := 342, attributes := #[] }, { accessFlags := 10, nameIndex := 341, descriptorIndex := 342, attributes := #[] }] 49 2 #[] #[{ accessFlags := 26, nameIndex := 715, descriptorIndex := 716, attributes := #[] }, { accessFlags := 26, nameIndex := 719, descriptorIndex := 716, attributes := #[] }, { accessFlags := 4120, nameIndex := 445, descriptorIndex := 117, attributes := #[] }])
  fields := #[{ name := "MIN_ARRAY_SORT_GRAN", type := .int, accessFlags := 26, slot := 0, constantValue := 0 }, { name := "INSERTIONSORT_THRESHOLD", type := .int, accessFlags := 26, slot := 1, constantValue := 0 }, { name := "$assertionsDisabled", type := .boolean, accessFlags := 4120, slot := 2, constantValue := 0 }]
  methods := #[k13m0, k13m1, k13m2, k13m3]
  instanceTypes := #[]
  staticTypes := #[.int, .int, .boolean]
  resolved := Array.replicate 1029 none
  statics := none }

def pool14 : Array CpInfo := pool [(2, .class_ 4), (1, u "java/lang/Object"), (0, u "<init>"), (0, u "()V"), (1, .class_ 10), (1, u "java/lang/System"), (0, u "allowSecurityManager"), (0, u "I"), (16, u "cons"), (0, u "Ljava/io/Console;"), (77, .class_ 110), (1, u "java/lang/System$CallersHolder"), (43, u "initialErrStream"), (0, u "Ljava/io/PrintStream;"), (19, u "security"), (0, u "Ljava/lang/SecurityManager;"), (31, .class_ 209), (0, u "java/lang/System$1"), (7, u "props"), (0, u "Ljava/util/Properties;"), (2, u "lineSeparator"), (0, u "Ljava/lang/String;"), (96, .class_ 321), (1, u "java/lang/System$LoggerFinder"), (5, .class_ 328), (0, u "java/lang/System$Logger"), (67, u "err"), (2, u "out"), (91, u "notSupportedJnuEncoding"), (15, u "in"), (17, u "initialIn"), (0, u "Ljava/io/InputStream;"), (35, u "bootLayer"), (0, u "Ljava/lang/ModuleLayer;"), (99, .class_ 664), (0, u "java/lang/System$2"), (9, u "NEVER"), (2, u "MAYBE"), (49, u "arraycopy"), (0, u "(Ljava/lang/Object;ILjava/lang/Object;II)V"), (72, .class_ 802), (0, u "java/lang/System$Logger$Level")] 31

def k14m0 : Method := { name := "<init>", desc := "()V", sig := { parameters := [], returnType := none }, accessFlags := 2, code := none }
def k14m1 : Method := { name := "arraycopy", desc := "(Ljava/lang/Object;ILjava/lang/Object;II)V", sig := { parameters := [(.object "java/lang/Object"), .int, (.object "java/lang/Object"), .int, .int], returnType := none }, accessFlags := 265, code := none }
/-- java/lang/System -/
def k14 : Class := { plain "java/lang/System" (some 0) with
  accessFlags := 49
  interfaces := #[]
  cf := some (fileOf pool14 8 #[.nestMembers #[319, 327, 801, 108, 663, 208]] #[{ accessFlags := 2, nameIndex := 5, descriptorIndex := 6, attributes := #[] }, { accessFlags := 265, nameIndex := 727, descriptorIndex := 728, attributes := #[] }] 49 2 #[] #[{ accessFlags := 25, nameIndex := 507, descriptorIndex := 526, attributes := #[] }, { accessFlags := 25, nameIndex := 399, descriptorIndex := 155, attributes := #[] }, { accessFlags := 25, nameIndex := 396, descriptorIndex := 155, attributes := #[] }, { accessFlags := 10, nameIndex := 525, descriptorIndex := 526, attributes := #[] }, { accessFlags := 26, nameIndex := 674, descriptorIndex := 12, attributes := #[] }, { accessFlags := 26, nameIndex := 677, descriptorIndex := 12, attributes := #[] }, { accessFlags := 10, nameIndex := 11, descriptorIndex := 12, attributes := #[] }, { accessFlags := 74, nameIndex := 175, descriptorIndex := 176, attributes := #[] }, { accessFlags := 10, nameIndex := 491, descriptorIndex := 222, attributes := #[] }, { accessFlags := 74, nameIndex := 29, descriptorIndex := 30, attributes := #[] }, { accessFlags := 74, nameIndex := 154, descriptorIndex := 155, attributes := #[] }, { accessFlags := 10, nameIndex := 217, descriptorIndex := 218, attributes := #[] }, { accessFlags := 10, nameIndex := 221, descriptorIndex := 222, attributes := #[] }, { accessFlags := 8, nameIndex := 562, descriptorIndex := 563, attributes := #[] }])
  fields := #[{ name := "in", type := (.object "java/io/InputStream"), accessFlags := 25, slot := 0, constantValue := 0 }, { name := "out", type := (.object "java/io/PrintStream"), accessFlags := 25, slot := 1, constantValue := 0 }, { name := "err", type := (.object "java/io/PrintStream"), accessFlags := 25, slot := 2, constantValue := 0 }, { name := "initialIn", type := (.object "java/io/InputStream"), accessFlags := 10, slot := 3, constantValue := 0 }, { name := "NEVER", type := .int, accessFlags := 26, slot := 4, constantValue := 0 }, { name := "MAYBE", type := .int, accessFlags := 26, slot := 5, constantValue := 0 }, { name := "allowSecurityManager", type := .int, accessFlags := 10, slot := 6, constantValue := 0 }, { name := "security", type := (.object "java/lang/SecurityManager"), accessFlags := 74, slot := 7, constantValue := 0 }, { name := "notSupportedJnuEncoding", type := (.object "java/lang/String"), accessFlags := 10, slot := 8, constantValue := 0 }, { name := "cons", type := (.object "java/io/Console"), accessFlags := 74, slot := 9, constantValue := 0 }, { name := "initialErrStream", type := (.object "java/io/PrintStream"), accessFlags := 74, slot := 10, constantValue := 0 }, { name := "props", type := (.object "java/util/Properties"), accessFlags := 10, slot := 11, constantValue := 0 }, { name := "lineSeparator", type := (.object "java/lang/String"), accessFlags := 10, slot := 12, constantValue := 0 }, { name := "bootLayer", type := (.object "java/lang/ModuleLayer"), accessFlags := 8, slot := 13, constantValue := 0 }]
  methods := #[k14m0, k14m1]
  instanceTypes := #[]
  staticTypes := #[(.object "java/io/InputStream"), (.object "java/io/PrintStream"), (.object "java/io/PrintStream"), (.object "java/io/InputStream"), .int, .int, .int, (.object "java/lang/SecurityManager"), (.object "java/lang/String"), (.object "java/io/Console"), (.object "java/io/PrintStream"), (.object "java/util/Properties"), (.object "java/lang/String"), (.object "java/lang/ModuleLayer")]
  resolved := Array.replicate 834 none
  statics := none }

def pool15 : Array CpInfo := pool [(9, u "<init>"), (6, .class_ 18), (1, u "java/lang/Object"), (0, u "()V"), (1, .class_ 23), (1, u "jdk/internal/util/ArraysSupport"), (0, u "LOG2_ARRAY_LONG_INDEX_SCALE"), (0, u "I"), (2, u "U"), (0, u "Ljdk/internal/misc/Unsafe;"), (8, u "BIG_ENDIAN"), (0, u "Z"), (8, u "LOG2_BYTE_BIT_SIZE"), (4, u "LOG2_ARRAY_INT_INDEX_SCALE"), (54, u "JLA"), (0, u "Ljdk/internal/access/JavaLangAccess;"), (11, u "LOG2_ARRAY_BOOLEAN_INDEX_SCALE"), (9, u "LOG2_ARRAY_BYTE_INDEX_SCALE"), (5, u "LOG2_ARRAY_CHAR_INDEX_SCALE"), (5, u "LOG2_ARRAY_SHORT_INDEX_SCALE"), (18, u "LOG2_ARRAY_FLOAT_INDEX_SCALE"), (24, u "LOG2_ARRAY_DOUBLE_INDEX_SCALE"), (89, u "T_BOOLEAN"), (2, u "T_CHAR"), (1, u "T_FLOAT"), (1, u "T_DOUBLE"), (1, u "T_BYTE"), (1, u "T_SHORT"), (1, u "T_INT"), (1, u "T_LONG"), (1, u "SOFT_MAX_ARRAY_LENGTH")] 83

def k15m0 : Method := { name := "<init>", desc := "()V", sig := { parameters := [], returnType := none }, accessFlags := 2, code := none }
/-- jdk/internal/util/ArraysSupport -/
def k15 : Class := { plain "jdk/internal/util/ArraysSupport" (some 0) with
  accessFlags := 33
  interfaces := #[]
  cf := some (fileOf pool15 21 #[] #[{ accessFlags := 2, nameIndex := 9, descriptorIndex := 19, attributes := #[] }] 33 16 #[] #[{ accessFlags := 24, nameIndex := 28, descriptorIndex := 29, attributes := #[] }, { accessFlags := 26, nameIndex := 38, descriptorIndex := 39, attributes := #[] }, { accessFlags := 25, nameIndex := 121, descriptorIndex := 25, attributes := #[] }, { accessFlags := 25, nameIndex := 131, descriptorIndex := 25, attributes := #[] }, { accessFlags := 25, nameIndex := 137, descriptorIndex := 25, attributes := #[] }, { accessFlags := 25, nameIndex := 143, descriptorIndex := 25, attributes := #[] }, { accessFlags := 25, nameIndex := 53, descriptorIndex := 25, attributes := #[] }, { accessFlags := 25, nameIndex := 24, descriptorIndex := 25, attributes := #[] }, { accessFlags := 25, nameIndex := 162, descriptorIndex := 25, attributes := #[] }, { accessFlags := 25, nameIndex := 187, descriptorIndex := 25, attributes := #[] }, { accessFlags := 26, nameIndex := 48, descriptorIndex := 25, attributes := #[] }, { accessFlags := 25, nameIndex := 277, descriptorIndex := 25, attributes := #[] }, { accessFlags := 25, nameIndex := 280, descriptorIndex := 25, attributes := #[] }, { accessFlags := 25, nameIndex := 282, descriptorIndex := 25, attributes := #[] }, { accessFlags := 25, nameIndex := 284, descriptorIndex := 25, attributes := #[] }, { accessFlags := 25, nameIndex := 286, descriptorIndex := 25, attributes := #[] }, { accessFlags := 25, nameIndex := 288, descriptorIndex := 25, attributes := #[] }, { accessFlags := 25, nameIndex := 290, descriptorIndex := 25, attributes := #[] }, { accessFlags := 25, nameIndex := 292, descriptorIndex := 25, attributes := #[] }, { accessFlags := 26, nameIndex := 108, descriptorIndex := 109, attributes := #[] }, { accessFlags := 25, nameIndex := 294, descriptorIndex := 25, attributes := #[] }])
  fields := #[{ name := "U", type := (.object "jdk/internal/misc/Unsafe"), accessFlags := 24, slot := 0, constantValue := 0 }, { name := "BIG_ENDIAN", type := .boolean, accessFlags := 26, slot := 1, constantValue := 0 }, { name := "LOG2_ARRAY_BOOLEAN_INDEX_SCALE", type := .int, accessFlags := 25, slot := 2, constantValue := 0 }, { name := "LOG2_ARRAY_BYTE_INDEX_SCALE", type := .int, accessFlags := 25, slot := 3, constantValue := 0 }, { name := "LOG2_ARRAY_CHAR_INDEX_SCALE", type := .int, accessFlags := 25, slot := 4, constantValue := 0 }, { name := "LOG2_ARRAY_SHORT_INDEX_SCALE", type := .int, accessFlags := 25, slot := 5, constantValue := 0 }, { name := "LOG2_ARRAY_INT_INDEX_SCALE", type := .int, accessFlags := 25, slot := 6, constantValue := 0 }, { name := "LOG2_ARRAY_LONG_INDEX_SCALE", type := .int, accessFlags := 25, slot := 7, constantValue := 0 }, { name := "LOG2_ARRAY_FLOAT_INDEX_SCALE", type := .int, accessFlags := 25, slot := 8, constantValue := 0 }, { name := "LOG2_ARRAY_DOUBLE_INDEX_SCALE", type := .int, accessFlags := 25, slot := 9, constantValue := 0 }, { name := "LOG2_BYTE_BIT_SIZE", type := .int, accessFlags := 26, slot := 10, constantValue := 0 }, { name := "T_BOOLEAN", type := .int, accessFlags := 25, slot := 11, constantValue := 0 }, { name := "T_CHAR", type := .int, accessFlags := 25, slot := 12, constantValue := 0 }, { name := "T_FLOAT", type := .int, accessFlags := 25, slot := 13, constantValue := 0 }, { name := "T_DOUBLE", type := .int, accessFlags := 25, slot := 14, constantValue := 0 }, { name := "T_BYTE", type := .int, accessFlags := 25, slot := 15, constantValue := 0 }, { name := "T_SHORT", type := .int, accessFlags := 25, slot := 16, constantValue := 0 }, { name := "T_INT", type := .int, accessFlags := 25, slot := 17, constantValue := 0 }, { name := "T_LONG", type := .int, accessFlags := 25, slot := 18, constantValue := 0 }, { name := "JLA", type := (.object "jdk/internal/access/JavaLangAccess"), accessFlags := 26, slot := 19, constantValue := 0 }, { name := "SOFT_MAX_ARRAY_LENGTH", type := .int, accessFlags := 25, slot := 20, constantValue := 0 }]
  methods := #[k15m0]
  instanceTypes := #[]
  staticTypes := #[(.object "jdk/internal/misc/Unsafe"), .boolean, .int, .int, .int, .int, .int, .int, .int, .int, .int, .int, .int, .int, .int, .int, .int, .int, .int, (.object "jdk/internal/access/JavaLangAccess"), .int]
  resolved := Array.replicate 378 none
  statics := none }

def pool16 : Array CpInfo := pool [(1, u "java/lang/Cloneable"), (0, .class_ 1), (0, u "java/lang/Object"), (0, .class_ 3)] 3

/-- java/lang/Cloneable -/
def k16 : Class := { plain "java/lang/Cloneable" (some 0) with
  accessFlags := 1537
  interfaces := #[]
  cf := some (fileOf pool16 2 #[] #[] 1537 4 #[] #[])
  fields := #[]
  methods := #[]
  instanceTypes := #[]
  staticTypes := #[]
  resolved := Array.replicate 8 none
  statics := none }

/-- the primitive byte -/
def k17 : Class := { plain "byte" none with kind := .primitive 'B', accessFlags := 0x411 }
/-- [B -/
def k18 : Class := { plain "[B" (some 0) with kind := .array 17 .byte, interfaces := #[16, 2], accessFlags := 1041 }

/-- the primitive char -/
def k19 : Class := { plain "char" none with kind := .primitive 'C', accessFlags := 0x411 }
/-- [C -/
def k20 : Class := { plain "[C" (some 0) with kind := .array 19 .char, interfaces := #[16, 2], accessFlags := 1041 }

/-- the primitive int -/
def k21 : Class := { plain "int" none with kind := .primitive 'I', accessFlags := 0x411 }
/-- [I -/
def k22 : Class := { plain "[I" (some 0) with kind := .array 21 .int, interfaces := #[16, 2], accessFlags := 1041 }

def heap : Heap := #[{ cls := 7, slots := #[.long 0, .int 1, .null, .int 0, .null, .int 0, .int 0], vm := .statics 7 },
  { cls := 9, slots := #[.null, .null, .null], vm := .statics 9 }]
def classes : Array Class := #[k0, k1, k2, k3, k4, k5, k6, k7, k8, k9, k10, k11, k12, k13, k14, k15, k16, k17, k18, k19, k20, k21, k22]
def interned : List (Array UInt16 × Addr) := []
def slotsUsed : Nat := 10
def theMethod : MethodId := ⟨1, 3⟩
def args0 : Array Value := #[.int 5, .int 1234]
def aboutOver (below : List Frame) : State where
  vm := { classes := classes, interned := interned.toArray }
  heap := heap
  slotsUsed := slotsUsed
  threads := #[{ frames := .invoking theMethod args0 :: below }]
def below0 : List Frame := [.native { method := ⟨0, 0⟩, args := #[] }]
def about1 : State := aboutOver below0
def p0 : Program := .bare "" "" ""
def e0 : Env := launch0.env 0 0 0
theorem w_frames : about1.frames = Frame.invoking theMethod args0 :: below0 := rfl
set_option maxRecDepth 65536 in
theorem w_args : argsFit about1.vm theMethod args0 = true := by decide +kernel
set_option maxRecDepth 65536 in
theorem w_heap : heapFits about1 = true := by decide +kernel
set_option maxRecDepth 65536 in
theorem w_runnable : about1.curStatus? = some .runnable := by decide +kernel
set_option maxRecDepth 65536 in
theorem w_alone : about1.alone = true := by decide +kernel
set_option maxRecDepth 65536 in
theorem w_named : about1.methodNamed? x = some theMethod := by decide +kernel
set_option maxRecDepth 65536 in
theorem w_hears : about1.hears theMethod below0 = true := by decide +kernel
set_option maxRecDepth 65536 in
theorem w_ripe : about1.ripe theMethod args0 below0 = true := by decide +kernel
theorem w_running : about1.status = .running := rfl
set_option maxRecDepth 65536 in
theorem w_room : about1.hasRoom e0.platform room_1 = true :=
  launch0.hasRoom_least _ room_1 (by decide +kernel) (by decide +kernel) (by decide +kernel) (by decide +kernel) (by decide +kernel) (by decide +kernel)
theorem allAtoms_all (ts : List Jvm.Cond) (a : Array Jvm.Value) (st : Jvm.State) : (allAtoms ts).before a st = ts.all (fun c => c.before a st) := by
  induction ts with
  | nil => rfl
  | cons c t ih =>
    show (Jvm.Cond.and c (allAtoms t)).before a st = _
    rw [Jvm.Cond.before_and, ih, List.all_cons]
def words1 : List Jvm.Cond := Jvm.Cond.code x code maxLocals ret :: tables_1
/-- a 'code' word, met by the world's own term for the bytes: nothing is compared byte by byte -/
theorem code_word {y : MethodName} {bytes : ByteArray} {mx : Nat} {rt : Option FieldType} {a : Array Value} {s : State} {m : MethodId} {meth : Method} {c : Code} (h1 : s.methodNamed? y = some m) (h2 : s.vm.method? m = some meth) (h3 : meth.code = some c) (h4 : c.code = bytes)
    (h5 : (c.maxLocals == mx && c.exceptionTable.isEmpty && decide (c.maxStack ≤ mostOperands) && decide (meth.sig.returnType = rt) && !meth.locks && decide (parseMethodDescriptor y.desc = some meth.sig)) = true) : (Jvm.Cond.code y bytes mx rt).before a s = true := by
  simp only [Bool.and_eq_true, beq_iff_eq, Bool.not_eq_true', decide_eq_true_eq] at h5
  obtain ⟨⟨⟨⟨⟨g1, g2⟩, g3⟩, g4⟩, g5⟩, g6⟩ := h5
  simp [Cond.before, Cond.holds, Cond.value, h1, h2, h3, h4, g1, g2, g3, g4, g5, g6]
def isCode : Jvm.Cond → Bool
  | .code _ _ _ _ => true
  | _ => false
theorem all_split {L : List Jvm.Cond} {P : Jvm.Cond → Bool} (h1 : L.all (fun c => isCode c || P c) = true) (h2 : ∀ c ∈ L.filter isCode, P c = true) : L.all P = true := by
  refine List.all_eq_true.mpr fun c hc => ?_
  have h := List.all_eq_true.mp h1 c hc
  rcases Bool.eq_false_or_eq_true (isCode c) with hi | hi
  · exact h2 c (List.mem_filter.mpr ⟨hc, hi⟩)
  · simpa [hi] using h
set_option maxRecDepth 65536 in
theorem w_c0 : (Jvm.Cond.code x code maxLocals ret).before args0 about1 = true := code_word (m := ⟨1, 3⟩) (meth := k1m3) (c := k1c3) (by decide +kernel) rfl rfl rfl (by decide +kernel)
set_option maxRecDepth 65536 in
theorem w_c1 : (Jvm.Cond.code ({ cls := "com/example/lincra/lincra/UrlNormalizerPathPinLaw", name := "hostChar", desc := "(I)C" } : Jvm.MethodName) method_2_code (1 : Nat) (Option.some Jvm.ClassFile.FieldType.char)).before args0 about1 = true := code_word (m := ⟨1, 1⟩) (meth := k1m1) (c := k1c1) (by decide +kernel) rfl rfl rfl (by decide +kernel)
set_option maxRecDepth 65536 in
theorem w_c2 : (Jvm.Cond.code ({ cls := "java/lang/String", name := "charAt", desc := "(I)C" } : Jvm.MethodName) jdk_42_method_56_code (2 : Nat) (Option.some Jvm.ClassFile.FieldType.char)).before args0 about1 = true := code_word (m := ⟨7, 3⟩) (meth := k7m3) (c := k7c3) (by decide +kernel) rfl rfl rfl (by decide +kernel)
set_option maxRecDepth 65536 in
theorem w_c3 : (Jvm.Cond.code ({ cls := "java/lang/String", name := "isLatin1", desc := "()Z" } : Jvm.MethodName) jdk_42_method_154_code (1 : Nat) (Option.some Jvm.ClassFile.FieldType.boolean)).before args0 about1 = true := code_word (m := ⟨7, 11⟩) (meth := k7m11) (c := k7c11) (by decide +kernel) rfl rfl rfl (by decide +kernel)
set_option maxRecDepth 65536 in
theorem w_c4 : (Jvm.Cond.code ({ cls := "java/lang/StringLatin1", name := "charAt", desc := "([BI)C" } : Jvm.MethodName) jdk_43_method_2_code (2 : Nat) (Option.some Jvm.ClassFile.FieldType.char)).before args0 about1 = true := code_word (m := ⟨8, 1⟩) (meth := k8m1) (c := k8c1) (by decide +kernel) rfl rfl rfl (by decide +kernel)
set_option maxRecDepth 65536 in
theorem w_c5 : (Jvm.Cond.code ({ cls := "java/lang/String", name := "checkIndex", desc := "(II)V" } : Jvm.MethodName) jdk_42_method_155_code (2 : Nat) (Option.none : Option Jvm.ClassFile.FieldType)).before args0 about1 = true := code_word (m := ⟨7, 12⟩) (meth := k7m12) (c := k7c12) (by decide +kernel) rfl rfl rfl (by decide +kernel)
set_option maxRecDepth 65536 in
theorem w_c6 : (Jvm.Cond.code ({ cls := "jdk/internal/util/Preconditions", name := "checkIndex", desc := "(IILjava/util/function/BiFunction;)I" } : Jvm.MethodName) jdk_41_method_11_code (3 : Nat) (Option.some Jvm.ClassFile.FieldType.int)).before args0 about1 = true := code_word (m := ⟨9, 1⟩) (meth := k9m1) (c := k9c1) (by decide +kernel) rfl rfl rfl (by decide +kernel)
set_option maxRecDepth 65536 in
theorem w_c7 : (Jvm.Cond.code ({ cls := "com/example/lincra/lincra/UrlNormalizerPathPinLaw", name := "tailChar", desc := "(I)C" } : Jvm.MethodName) method_3_code (1 : Nat) (Option.some Jvm.ClassFile.FieldType.char)).before args0 about1 = true := code_word (m := ⟨1, 2⟩) (meth := k1m2) (c := k1c2) (by decide +kernel) rfl rfl rfl (by decide +kernel)
set_option maxRecDepth 65536 in
theorem w_c8 : (Jvm.Cond.code ({ cls := "java/lang/String", name := "<init>", desc := "([C)V" } : Jvm.MethodName) jdk_42_method_3_code (2 : Nat) (Option.none : Option Jvm.ClassFile.FieldType)).before args0 about1 = true := code_word (m := ⟨7, 1⟩) (meth := k7m1) (c := k7c1) (by decide +kernel) rfl rfl rfl (by decide +kernel)
set_option maxRecDepth 65536 in
theorem w_c9 : (Jvm.Cond.code ({ cls := "java/lang/String", name := "<init>", desc := "([CIILjava/lang/Void;)V" } : Jvm.MethodName) jdk_42_method_149_code (6 : Nat) (Option.none : Option Jvm.ClassFile.FieldType)).before args0 about1 = true := code_word (m := ⟨7, 8⟩) (meth := k7m8) (c := k7c8) (by decide +kernel) rfl rfl rfl (by decide +kernel)
set_option maxRecDepth 65536 in
theorem w_c10 : (Jvm.Cond.code ({ cls := "java/lang/Object", name := "<init>", desc := "()V" } : Jvm.MethodName) object_method_1_code (1 : Nat) (Option.none : Option Jvm.ClassFile.FieldType)).before args0 about1 = true := code_word (m := ⟨0, 0⟩) (meth := k0m0) (c := k0c0) (by decide +kernel) rfl rfl rfl (by decide +kernel)
set_option maxRecDepth 65536 in
theorem w_c11 : (Jvm.Cond.code ({ cls := "java/lang/StringUTF16", name := "compress", desc := "([CII)[B" } : Jvm.MethodName) jdk_52_method_16_code (6 : Nat) (Option.some (Jvm.ClassFile.FieldType.array Jvm.ClassFile.FieldType.byte))).before args0 about1 = true := code_word (m := ⟨10, 2⟩) (meth := k10m2) (c := k10c2) (by decide +kernel) rfl rfl rfl (by decide +kernel)
set_option maxRecDepth 65536 in
theorem w_c12 : (Jvm.Cond.code ({ cls := "java/lang/StringUTF16", name := "compress", desc := "([CI[BII)I" } : Jvm.MethodName) jdk_52_method_21_code (7 : Nat) (Option.some Jvm.ClassFile.FieldType.int)).before args0 about1 = true := code_word (m := ⟨10, 3⟩) (meth := k10m3) (c := k10c3) (by decide +kernel) rfl rfl rfl (by decide +kernel)
set_option maxRecDepth 65536 in
theorem w_c13 : (Jvm.Cond.code ({ cls := "java/lang/StringUTF16", name := "coderFromArrayLen", desc := "([BI)B" } : Jvm.MethodName) jdk_52_method_15_code (2 : Nat) (Option.some Jvm.ClassFile.FieldType.byte)).before args0 about1 = true := code_word (m := ⟨10, 1⟩) (meth := k10m1) (c := k10c1) (by decide +kernel) rfl rfl rfl (by decide +kernel)
set_option maxRecDepth 65536 in
theorem w_c14 : (Jvm.Cond.code ({ cls := "com/example/lincra/lincra/UrlNormalizer", name := "path", desc := "(Ljava/lang/String;)Ljava/lang/String;" } : Jvm.MethodName) prog_17_method_5_code (3 : Nat) (Option.some (Jvm.ClassFile.FieldType.object "java/lang/String"))).before args0 about1 = true := code_word (m := ⟨11, 1⟩) (meth := k11m1) (c := k11c1) (by decide +kernel) rfl rfl rfl (by decide +kernel)
set_option maxRecDepth 65536 in
theorem w_c15 : (Jvm.Cond.code ({ cls := "java/lang/String", name := "indexOf", desc := "(Ljava/lang/String;)I" } : Jvm.MethodName) jdk_42_method_84_code (3 : Nat) (Option.some Jvm.ClassFile.FieldType.int)).before args0 about1 = true := code_word (m := ⟨7, 5⟩) (meth := k7m5) (c := k7c5) (by decide +kernel) rfl rfl rfl (by decide +kernel)
set_option maxRecDepth 65536 in
theorem w_c16 : (Jvm.Cond.code ({ cls := "java/lang/String", name := "coder", desc := "()B" } : Jvm.MethodName) jdk_42_method_152_code (1 : Nat) (Option.some Jvm.ClassFile.FieldType.byte)).before args0 about1 = true := code_word (m := ⟨7, 10⟩) (meth := k7m10) (c := k7c10) (by decide +kernel) rfl rfl rfl (by decide +kernel)
set_option maxRecDepth 65536 in
theorem w_c17 : (Jvm.Cond.code ({ cls := "java/lang/StringLatin1", name := "indexOf", desc := "([B[B)I" } : Jvm.MethodName) jdk_43_method_24_code (2 : Nat) (Option.some Jvm.ClassFile.FieldType.int)).before args0 about1 = true := code_word (m := ⟨8, 5⟩) (meth := k8m5) (c := k8c5) (by decide +kernel) rfl rfl rfl (by decide +kernel)
set_option maxRecDepth 65536 in
theorem w_c18 : (Jvm.Cond.code ({ cls := "java/lang/StringLatin1", name := "indexOf", desc := "([BI[BII)I" } : Jvm.MethodName) jdk_43_method_25_code (11 : Nat) (Option.some Jvm.ClassFile.FieldType.int)).before args0 about1 = true := code_word (m := ⟨8, 6⟩) (meth := k8m6) (c := k8c6) (by decide +kernel) rfl rfl rfl (by decide +kernel)
set_option maxRecDepth 65536 in
theorem w_c19 : (Jvm.Cond.code ({ cls := "java/lang/String", name := "indexOf", desc := "(II)I" } : Jvm.MethodName) jdk_42_method_80_code (3 : Nat) (Option.some Jvm.ClassFile.FieldType.int)).before args0 about1 = true := code_word (m := ⟨7, 4⟩) (meth := k7m4) (c := k7c4) (by decide +kernel) rfl rfl rfl (by decide +kernel)
set_option maxRecDepth 65536 in
theorem w_c20 : (Jvm.Cond.code ({ cls := "java/lang/String", name := "length", desc := "()I" } : Jvm.MethodName) jdk_42_method_54_code (1 : Nat) (Option.some Jvm.ClassFile.FieldType.int)).before args0 about1 = true := code_word (m := ⟨7, 2⟩) (meth := k7m2) (c := k7c2) (by decide +kernel) rfl rfl rfl (by decide +kernel)
set_option maxRecDepth 65536 in
theorem w_c21 : (Jvm.Cond.code ({ cls := "java/lang/StringLatin1", name := "indexOf", desc := "([BIII)I" } : Jvm.MethodName) jdk_43_method_22_code (4 : Nat) (Option.some Jvm.ClassFile.FieldType.int)).before args0 about1 = true := code_word (m := ⟨8, 3⟩) (meth := k8m3) (c := k8c3) (by decide +kernel) rfl rfl rfl (by decide +kernel)
set_option maxRecDepth 65536 in
theorem w_c22 : (Jvm.Cond.code ({ cls := "java/lang/StringLatin1", name := "canEncode", desc := "(I)Z" } : Jvm.MethodName) jdk_43_method_4_code (1 : Nat) (Option.some Jvm.ClassFile.FieldType.boolean)).before args0 about1 = true := code_word (m := ⟨8, 2⟩) (meth := k8m2) (c := k8c2) (by decide +kernel) rfl rfl rfl (by decide +kernel)
set_option maxRecDepth 65536 in
theorem w_c23 : (Jvm.Cond.code ({ cls := "java/lang/Math", name := "max", desc := "(II)I" } : Jvm.MethodName) jdk_29_method_65_code (2 : Nat) (Option.some Jvm.ClassFile.FieldType.int)).before args0 about1 = true := code_word (m := ⟨12, 1⟩) (meth := k12m1) (c := k12c1) (by decide +kernel) rfl rfl rfl (by decide +kernel)
set_option maxRecDepth 65536 in
theorem w_c24 : (Jvm.Cond.code ({ cls := "java/lang/Math", name := "min", desc := "(II)I" } : Jvm.MethodName) jdk_29_method_69_code (2 : Nat) (Option.some Jvm.ClassFile.FieldType.int)).before args0 about1 = true := code_word (m := ⟨12, 2⟩) (meth := k12m2) (c := k12c2) (by decide +kernel) rfl rfl rfl (by decide +kernel)
set_option maxRecDepth 65536 in
theorem w_c25 : (Jvm.Cond.code ({ cls := "java/lang/StringLatin1", name := "indexOfChar", desc := "([BIII)I" } : Jvm.MethodName) jdk_43_method_23_code (6 : Nat) (Option.some Jvm.ClassFile.FieldType.int)).before args0 about1 = true := code_word (m := ⟨8, 4⟩) (meth := k8m4) (c := k8c4) (by decide +kernel) rfl rfl rfl (by decide +kernel)
set_option maxRecDepth 65536 in
theorem w_c26 : (Jvm.Cond.code ({ cls := "java/lang/String", name := "substring", desc := "(I)Ljava/lang/String;" } : Jvm.MethodName) jdk_42_method_91_code (2 : Nat) (Option.some (Jvm.ClassFile.FieldType.object "java/lang/String"))).before args0 about1 = true := code_word (m := ⟨7, 6⟩) (meth := k7m6) (c := k7c6) (by decide +kernel) rfl rfl rfl (by decide +kernel)
set_option maxRecDepth 65536 in
theorem w_c27 : (Jvm.Cond.code ({ cls := "java/lang/String", name := "substring", desc := "(II)Ljava/lang/String;" } : Jvm.MethodName) jdk_42_method_92_code (5 : Nat) (Option.some (Jvm.ClassFile.FieldType.object "java/lang/String"))).before args0 about1 = true := code_word (m := ⟨7, 7⟩) (meth := k7m7) (c := k7c7) (by decide +kernel) rfl rfl rfl (by decide +kernel)
set_option maxRecDepth 65536 in
theorem w_c28 : (Jvm.Cond.code ({ cls := "java/lang/String", name := "checkBoundsBeginEnd", desc := "(III)V" } : Jvm.MethodName) jdk_42_method_158_code (3 : Nat) (Option.none : Option Jvm.ClassFile.FieldType)).before args0 about1 = true := code_word (m := ⟨7, 13⟩) (meth := k7m13) (c := k7c13) (by decide +kernel) rfl rfl rfl (by decide +kernel)
set_option maxRecDepth 65536 in
theorem w_c29 : (Jvm.Cond.code ({ cls := "jdk/internal/util/Preconditions", name := "checkFromToIndex", desc := "(IIILjava/util/function/BiFunction;)I" } : Jvm.MethodName) jdk_41_method_12_code (4 : Nat) (Option.some Jvm.ClassFile.FieldType.int)).before args0 about1 = true := code_word (m := ⟨9, 2⟩) (meth := k9m2) (c := k9c2) (by decide +kernel) rfl rfl rfl (by decide +kernel)
set_option maxRecDepth 65536 in
theorem w_c30 : (Jvm.Cond.code ({ cls := "java/lang/StringLatin1", name := "newString", desc := "([BII)Ljava/lang/String;" } : Jvm.MethodName) jdk_43_method_47_code (3 : Nat) (Option.some (Jvm.ClassFile.FieldType.object "java/lang/String"))).before args0 about1 = true := code_word (m := ⟨8, 7⟩) (meth := k8m7) (c := k8c7) (by decide +kernel) rfl rfl rfl (by decide +kernel)
set_option maxRecDepth 65536 in
theorem w_c31 : (Jvm.Cond.code ({ cls := "java/util/Arrays", name := "copyOfRange", desc := "([BII)[B" } : Jvm.MethodName) jdk_65_method_132_code (3 : Nat) (Option.some (Jvm.ClassFile.FieldType.array Jvm.ClassFile.FieldType.byte))).before args0 about1 = true := code_word (m := ⟨13, 2⟩) (meth := k13m2) (c := k13c2) (by decide +kernel) rfl rfl rfl (by decide +kernel)
set_option maxRecDepth 65536 in
theorem w_c32 : (Jvm.Cond.code ({ cls := "java/util/Arrays", name := "copyOfRangeByte", desc := "([BII)[B" } : Jvm.MethodName) jdk_65_method_133_code (5 : Nat) (Option.some (Jvm.ClassFile.FieldType.array Jvm.ClassFile.FieldType.byte))).before args0 about1 = true := code_word (m := ⟨13, 3⟩) (meth := k13m3) (c := k13c3) (by decide +kernel) rfl rfl rfl (by decide +kernel)
set_option maxRecDepth 65536 in
theorem w_c33 : (Jvm.Cond.code ({ cls := "java/util/Arrays", name := "checkLength", desc := "(II)V" } : Jvm.MethodName) jdk_65_method_131_code (2 : Nat) (Option.none : Option Jvm.ClassFile.FieldType)).before args0 about1 = true := code_word (m := ⟨13, 1⟩) (meth := k13m1) (c := k13c1) (by decide +kernel) rfl rfl rfl (by decide +kernel)
set_option maxRecDepth 65536 in
theorem w_c34 : (Jvm.Cond.code ({ cls := "java/lang/String", name := "<init>", desc := "([BB)V" } : Jvm.MethodName) jdk_42_method_151_code (3 : Nat) (Option.none : Option Jvm.ClassFile.FieldType)).before args0 about1 = true := code_word (m := ⟨7, 9⟩) (meth := k7m9) (c := k7c9) (by decide +kernel) rfl rfl rfl (by decide +kernel)
def codes1 : List Jvm.Cond := [Jvm.Cond.code x code maxLocals ret, Jvm.Cond.code ({ cls := "com/example/lincra/lincra/UrlNormalizerPathPinLaw", name := "hostChar", desc := "(I)C" } : Jvm.MethodName) method_2_code (1 : Nat) (Option.some Jvm.ClassFile.FieldType.char), Jvm.Cond.code ({ cls := "java/lang/String", name := "charAt", desc := "(I)C" } : Jvm.MethodName) jdk_42_method_56_code (2 : Nat) (Option.some Jvm.ClassFile.FieldType.char), Jvm.Cond.code ({ cls := "java/lang/String", name := "isLatin1", desc := "()Z" } : Jvm.MethodName) jdk_42_method_154_code (1 : Nat) (Option.some Jvm.ClassFile.FieldType.boolean), Jvm.Cond.code ({ cls := "java/lang/StringLatin1", name := "charAt", desc := "([BI)C" } : Jvm.MethodName) jdk_43_method_2_code (2 : Nat) (Option.some Jvm.ClassFile.FieldType.char), Jvm.Cond.code ({ cls := "java/lang/String", name := "checkIndex", desc := "(II)V" } : Jvm.MethodName) jdk_42_method_155_code (2 : Nat) (Option.none : Option Jvm.ClassFile.FieldType), Jvm.Cond.code ({ cls := "jdk/internal/util/Preconditions", name := "checkIndex", desc := "(IILjava/util/function/BiFunction;)I" } : Jvm.MethodName) jdk_41_method_11_code (3 : Nat) (Option.some Jvm.ClassFile.FieldType.int), Jvm.Cond.code ({ cls := "com/example/lincra/lincra/UrlNormalizerPathPinLaw", name := "tailChar", desc := "(I)C" } : Jvm.MethodName) method_3_code (1 : Nat) (Option.some Jvm.ClassFile.FieldType.char), Jvm.Cond.code ({ cls := "java/lang/String", name := "<init>", desc := "([C)V" } : Jvm.MethodName) jdk_42_method_3_code (2 : Nat) (Option.none : Option Jvm.ClassFile.FieldType), Jvm.Cond.code ({ cls := "java/lang/String", name := "<init>", desc := "([CIILjava/lang/Void;)V" } : Jvm.MethodName) jdk_42_method_149_code (6 : Nat) (Option.none : Option Jvm.ClassFile.FieldType), Jvm.Cond.code ({ cls := "java/lang/Object", name := "<init>", desc := "()V" } : Jvm.MethodName) object_method_1_code (1 : Nat) (Option.none : Option Jvm.ClassFile.FieldType), Jvm.Cond.code ({ cls := "java/lang/StringUTF16", name := "compress", desc := "([CII)[B" } : Jvm.MethodName) jdk_52_method_16_code (6 : Nat) (Option.some (Jvm.ClassFile.FieldType.array Jvm.ClassFile.FieldType.byte)), Jvm.Cond.code ({ cls := "java/lang/StringUTF16", name := "compress", desc := "([CI[BII)I" } : Jvm.MethodName) jdk_52_method_21_code (7 : Nat) (Option.some Jvm.ClassFile.FieldType.int), Jvm.Cond.code ({ cls := "java/lang/StringUTF16", name := "coderFromArrayLen", desc := "([BI)B" } : Jvm.MethodName) jdk_52_method_15_code (2 : Nat) (Option.some Jvm.ClassFile.FieldType.byte), Jvm.Cond.code ({ cls := "com/example/lincra/lincra/UrlNormalizer", name := "path", desc := "(Ljava/lang/String;)Ljava/lang/String;" } : Jvm.MethodName) prog_17_method_5_code (3 : Nat) (Option.some (Jvm.ClassFile.FieldType.object "java/lang/String")), Jvm.Cond.code ({ cls := "java/lang/String", name := "indexOf", desc := "(Ljava/lang/String;)I" } : Jvm.MethodName) jdk_42_method_84_code (3 : Nat) (Option.some Jvm.ClassFile.FieldType.int), Jvm.Cond.code ({ cls := "java/lang/String", name := "coder", desc := "()B" } : Jvm.MethodName) jdk_42_method_152_code (1 : Nat) (Option.some Jvm.ClassFile.FieldType.byte), Jvm.Cond.code ({ cls := "java/lang/StringLatin1", name := "indexOf", desc := "([B[B)I" } : Jvm.MethodName) jdk_43_method_24_code (2 : Nat) (Option.some Jvm.ClassFile.FieldType.int), Jvm.Cond.code ({ cls := "java/lang/StringLatin1", name := "indexOf", desc := "([BI[BII)I" } : Jvm.MethodName) jdk_43_method_25_code (11 : Nat) (Option.some Jvm.ClassFile.FieldType.int), Jvm.Cond.code ({ cls := "java/lang/String", name := "indexOf", desc := "(II)I" } : Jvm.MethodName) jdk_42_method_80_code (3 : Nat) (Option.some Jvm.ClassFile.FieldType.int), Jvm.Cond.code ({ cls := "java/lang/String", name := "length", desc := "()I" } : Jvm.MethodName) jdk_42_method_54_code (1 : Nat) (Option.some Jvm.ClassFile.FieldType.int), Jvm.Cond.code ({ cls := "java/lang/StringLatin1", name := "indexOf", desc := "([BIII)I" } : Jvm.MethodName) jdk_43_method_22_code (4 : Nat) (Option.some Jvm.ClassFile.FieldType.int), Jvm.Cond.code ({ cls := "java/lang/StringLatin1", name := "canEncode", desc := "(I)Z" } : Jvm.MethodName) jdk_43_method_4_code (1 : Nat) (Option.some Jvm.ClassFile.FieldType.boolean), Jvm.Cond.code ({ cls := "java/lang/Math", name := "max", desc := "(II)I" } : Jvm.MethodName) jdk_29_method_65_code (2 : Nat) (Option.some Jvm.ClassFile.FieldType.int), Jvm.Cond.code ({ cls := "java/lang/Math", name := "min", desc := "(II)I" } : Jvm.MethodName) jdk_29_method_69_code (2 : Nat) (Option.some Jvm.ClassFile.FieldType.int), Jvm.Cond.code ({ cls := "java/lang/StringLatin1", name := "indexOfChar", desc := "([BIII)I" } : Jvm.MethodName) jdk_43_method_23_code (6 : Nat) (Option.some Jvm.ClassFile.FieldType.int), Jvm.Cond.code ({ cls := "java/lang/String", name := "substring", desc := "(I)Ljava/lang/String;" } : Jvm.MethodName) jdk_42_method_91_code (2 : Nat) (Option.some (Jvm.ClassFile.FieldType.object "java/lang/String")), Jvm.Cond.code ({ cls := "java/lang/String", name := "substring", desc := "(II)Ljava/lang/String;" } : Jvm.MethodName) jdk_42_method_92_code (5 : Nat) (Option.some (Jvm.ClassFile.FieldType.object "java/lang/String")), Jvm.Cond.code ({ cls := "java/lang/String", name := "checkBoundsBeginEnd", desc := "(III)V" } : Jvm.MethodName) jdk_42_method_158_code (3 : Nat) (Option.none : Option Jvm.ClassFile.FieldType), Jvm.Cond.code ({ cls := "jdk/internal/util/Preconditions", name := "checkFromToIndex", desc := "(IIILjava/util/function/BiFunction;)I" } : Jvm.MethodName) jdk_41_method_12_code (4 : Nat) (Option.some Jvm.ClassFile.FieldType.int), Jvm.Cond.code ({ cls := "java/lang/StringLatin1", name := "newString", desc := "([BII)Ljava/lang/String;" } : Jvm.MethodName) jdk_43_method_47_code (3 : Nat) (Option.some (Jvm.ClassFile.FieldType.object "java/lang/String")), Jvm.Cond.code ({ cls := "java/util/Arrays", name := "copyOfRange", desc := "([BII)[B" } : Jvm.MethodName) jdk_65_method_132_code (3 : Nat) (Option.some (Jvm.ClassFile.FieldType.array Jvm.ClassFile.FieldType.byte)), Jvm.Cond.code ({ cls := "java/util/Arrays", name := "copyOfRangeByte", desc := "([BII)[B" } : Jvm.MethodName) jdk_65_method_133_code (5 : Nat) (Option.some (Jvm.ClassFile.FieldType.array Jvm.ClassFile.FieldType.byte)), Jvm.Cond.code ({ cls := "java/util/Arrays", name := "checkLength", desc := "(II)V" } : Jvm.MethodName) jdk_65_method_131_code (2 : Nat) (Option.none : Option Jvm.ClassFile.FieldType), Jvm.Cond.code ({ cls := "java/lang/String", name := "<init>", desc := "([BB)V" } : Jvm.MethodName) jdk_42_method_151_code (3 : Nat) (Option.none : Option Jvm.ClassFile.FieldType)]
set_option maxRecDepth 65536 in
theorem codes_eq : words1.filter isCode = codes1 := rfl
theorem w_codes : ∀ c ∈ words1.filter isCode, c.before args0 about1 = true := by
  rw [codes_eq]
  intro c hc
  simp only [codes1, List.mem_cons, List.not_mem_nil, or_false] at hc
  rcases hc with rfl | rfl | rfl | rfl | rfl | rfl | rfl | rfl | rfl | rfl | rfl | rfl | rfl | rfl | rfl | rfl | rfl | rfl | rfl | rfl | rfl | rfl | rfl | rfl | rfl | rfl | rfl | rfl | rfl | rfl | rfl | rfl | rfl | rfl | rfl
  · exact w_c0
  · exact w_c1
  · exact w_c2
  · exact w_c3
  · exact w_c4
  · exact w_c5
  · exact w_c6
  · exact w_c7
  · exact w_c8
  · exact w_c9
  · exact w_c10
  · exact w_c11
  · exact w_c12
  · exact w_c13
  · exact w_c14
  · exact w_c15
  · exact w_c16
  · exact w_c17
  · exact w_c18
  · exact w_c19
  · exact w_c20
  · exact w_c21
  · exact w_c22
  · exact w_c23
  · exact w_c24
  · exact w_c25
  · exact w_c26
  · exact w_c27
  · exact w_c28
  · exact w_c29
  · exact w_c30
  · exact w_c31
  · exact w_c32
  · exact w_c33
  · exact w_c34
set_option maxRecDepth 65536 in
theorem w_t1 : (words1.take 24).all (fun c => isCode c || c.before args0 about1) = true := by decide +kernel
set_option maxRecDepth 65536 in
theorem w_t2 : ((words1.drop 24).take 24).all (fun c => isCode c || c.before args0 about1) = true := by decide +kernel
set_option maxRecDepth 65536 in
theorem w_t3 : (((words1.drop 24).drop 24).take 24).all (fun c => isCode c || c.before args0 about1) = true := by decide +kernel
set_option maxRecDepth 65536 in
theorem w_t4 : ((((words1.drop 24).drop 24).drop 24).take 24).all (fun c => isCode c || c.before args0 about1) = true := by decide +kernel
set_option maxRecDepth 65536 in
theorem w_t5 : (((((words1.drop 24).drop 24).drop 24).drop 24).take 24).all (fun c => isCode c || c.before args0 about1) = true := by decide +kernel
set_option maxRecDepth 65536 in
theorem w_t6 : ((((((words1.drop 24).drop 24).drop 24).drop 24).drop 24).take 24).all (fun c => isCode c || c.before args0 about1) = true := by decide +kernel
set_option maxRecDepth 65536 in
theorem w_t7 : ((((((words1.drop 24).drop 24).drop 24).drop 24).drop 24).drop 24).all (fun c => isCode c || c.before args0 about1) = true := by decide +kernel
theorem w_tables : (allAtoms (Jvm.Cond.code x code maxLocals ret :: tables_1)).before args0 about1 = true := by
  rw [allAtoms_all]
  show words1.all (fun c => c.before args0 about1) = true
  refine all_split ?_ w_codes
  rw [← List.take_append_drop 24 words1, List.all_append, w_t1, ← List.take_append_drop 24 (words1.drop 24), List.all_append, w_t2, ← List.take_append_drop 24 ((words1.drop 24).drop 24), List.all_append, w_t3, ← List.take_append_drop 24 (((words1.drop 24).drop 24).drop 24), List.all_append, w_t4, ← List.take_append_drop 24 ((((words1.drop 24).drop 24).drop 24).drop 24), List.all_append, w_t5, ← List.take_append_drop 24 (((((words1.drop 24).drop 24).drop 24).drop 24).drop 24), List.all_append, w_t6, w_t7]
  rfl
set_option maxRecDepth 65536 in
theorem w_rest : rest_1_c.before args0 about1 = true := by decide +kernel
set_option maxRecDepth 65536 in
theorem w_case : (Jvm.Cond.and given_1 narrow_1).before args0 about1 = true := by decide +kernel
set_option maxRecDepth 65536 in
theorem w_consts : constsHeld consts_1 about1 := Jvm.Lit.constsHeldB_iff.mp (by decide +kernel)
theorem w_applies : (headSpec (Jvm.Cond.code x code maxLocals ret :: tables_1) room_1).applies x e0.platform about1 = true :=
  (Spec.applies_iff w_frames).mpr ⟨w_running, w_runnable, w_alone, w_named, w_hears, w_ripe, w_room, w_tables⟩
theorem atStart : AtStart classFile x code maxLocals ret World_1 tables_1 room_1 Calls_1 rest_1 Pre_1 launch0 p0 e0 about1 theMethod args0 below0 :=
  ⟨lists_1, trivial, launch0.admits_env _ _ _, launch0.least_env, fairChoices_fair.cas, fairChoices_fair.clock, w_frames, w_args, w_heap, w_applies, ⟨w_consts, trivial⟩, w_rest, w_case⟩
end start1
theorem witness_1 : WitnessClaimed_1 := ⟨start1.p0, start1.e0, start1.about1, start1.theMethod, start1.args0, start1.below0, start1.atStart⟩
end Jvm.Pilot.@@N@@
