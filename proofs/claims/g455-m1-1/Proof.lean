import JvmDerived
import JvmDerived.Pilot.@@N@@Statement
import JvmDerived.Pilot.@@N@@Code
set_option linter.unusedVariables false
set_option linter.unusedSimpArgs false
/- laws to paste: Road.backV, Road.eqW (cut by pick.py; bodies as the Statement names them) -/
namespace Jvm.Pilot.@@N@@
namespace StrChars
open Jvm Sem ClassFile Op Lib Jvm.Stand Jvm.Free.XT Jvm.Free.ALB Jvm.Free.JM Jvm.Free
open Jvm.Lib.Cold (StaticIs)
/-- a char array whose places are chars -/
def Ch (a : Addr) (A : Cell) (U : State) : Prop := Arr .char a A U ∧ Typed .char A
theorem Ch.mv {a : Addr} {A : Cell} {U U' : State} (h : Ch a A U) (hal : U.vm.Alike U'.vm) (hh : U'.heap = U.heap) : Ch a A U' := ⟨h.1.mv hal hh, h.2⟩
theorem Ch.keep {a : Addr} {A : Cell} {U U' : State} (h : Ch a A U) (hal : U.vm.Alike U'.vm) (hk : U'.heap[a]? = some A) : Ch a A U' := ⟨h.1.keep hal hk, h.2⟩
/-- what place i of a char[]'s cell holds -/
def cv (A : Cell) (i : Nat) : Int32 := match A.slots[i]? with | some (.int x) => x | _ => 0
theorem Ch.get {a : Addr} {A : Cell} {U : State} (h : Ch a A U) {i : Nat} (hi : i < A.slots.size) : A.slots[i]? = some (.int (cv A i)) := by
  have e := Array.getElem?_eq_getElem hi
  have f := h.2 i _ e
  unfold cv; rw [e]
  generalize A.slots[i] = v at f
  cases v <;> simp [fits] at f ⊢
/-- the byte that i2b leaves of a char -/
def lo8 (x : Int32) : Int32 := x.toInt8.toInt32
theorem fits_lo8 (y : Int32) : fits .byte (.int (lo8 y)) = true := by
  have h1 := y.toInt8.le_toInt
  have h2 := y.toInt8.toInt_lt
  simp only [lo8, fits, Bool.and_eq_true, decide_eq_true_eq, Int32.le_iff_toInt_le, Int8.toInt_toInt32, show (-128 : Int32).toInt = -128 from by decide, show (127 : Int32).toInt = 127 from by decide]
  omega
/-- A' is A but that each place j of lo .. hi - 1 holds f j -/
def Laid (A A' : Cell) (lo hi : Nat) (f : Nat → Value) : Prop := A'.cls = A.cls ∧ A'.vm = A.vm ∧ A'.slots.size = A.slots.size ∧ ∀ i, A'.slots[i]? = if lo ≤ i ∧ i < hi then some (f i) else A.slots[i]?
theorem Laid.zero (A : Cell) (lo : Nat) (f : Nat → Value) : Laid A A lo (lo + 0) f := ⟨rfl, rfl, rfl, fun i => by rw [if_neg (by omega)]⟩
theorem Laid.step {A Ak : Cell} {lo k : Nat} {f : Nat → Value} {v : Value} (h : Laid A Ak lo k f) (hlo : lo ≤ k) (hk : k < Ak.slots.size) (hv : v = f k) : Laid A (Ak.setSlot k v) lo (k + 1) f := by
  refine ⟨h.1, h.2.1, by simpa [Cell.setSlot] using h.2.2.1, fun i => ?_⟩
  by_cases e : k = i
  · subst e; rw [Cell.slots_setSlot_self v hk, if_pos (by omega), hv]
  · rw [Cell.slots_setSlot_ne v e, h.2.2.2 i]
    by_cases q : lo ≤ i ∧ i < k
    · rw [if_pos q, if_pos (by omega)]
    · rw [if_neg q, if_neg (by omega)]
def U16 : String := "java/lang/StringUTF16"
namespace Cmp5
def yN : MethodName := ⟨"java/lang/StringUTF16", "compress", "([CI[BII)I"⟩
abbrev yB : ByteArray := jdk_52_method_21_code
theorem d0 : decode yB 0 = .ok (.iconst 0, 1) := by decide +kernel
theorem d1 : decode yB 1 = .ok (.istore 5, 2) := by decide +kernel
theorem d3 : decode yB 3 = .ok (.iload 5, 2) := by decide +kernel
theorem d5 : decode yB 5 = .ok (.iload 4, 2) := by decide +kernel
theorem d7 : decode yB 7 = .ok (.if_icmp (.ge) 37, 3) := by decide +kernel
theorem d10 : decode yB 10 = .ok (.aload_n 0, 1) := by decide +kernel
theorem d11 : decode yB 11 = .ok (.iload_n 1, 1) := by decide +kernel
theorem d12 : decode yB 12 = .ok (.caload, 1) := by decide +kernel
theorem d13 : decode yB 13 = .ok (.istore 6, 2) := by decide +kernel
theorem d15 : decode yB 15 = .ok (.iload 6, 2) := by decide +kernel
theorem d17 : decode yB 17 = .ok (.sipush 255, 3) := by decide +kernel
theorem d20 : decode yB 20 = .ok (.if_icmp (.le) 6, 3) := by decide +kernel
theorem d26 : decode yB 26 = .ok (.aload_n 2, 1) := by decide +kernel
theorem d27 : decode yB 27 = .ok (.iload_n 3, 1) := by decide +kernel
theorem d28 : decode yB 28 = .ok (.iload 6, 2) := by decide +kernel
theorem d30 : decode yB 30 = .ok (.i2b, 1) := by decide +kernel
theorem d31 : decode yB 31 = .ok (.bastore, 1) := by decide +kernel
theorem d32 : decode yB 32 = .ok (.iinc 1 1, 3) := by decide +kernel
theorem d35 : decode yB 35 = .ok (.iinc 3 1, 3) := by decide +kernel
theorem d38 : decode yB 38 = .ok (.iinc 5 1, 3) := by decide +kernel
theorem d41 : decode yB 41 = .ok (.goto (-38), 3) := by decide +kernel
theorem d44 : decode yB 44 = .ok (.iload 4, 2) := by decide +kernel
theorem d46 : decode yB 46 = .ok (.ireturn, 1) := by decide +kernel
def site : List Cond := []
def tab : Cond := tabOf yN yB 7 (some .int) site
def P (b : Addr) (A : Cell) (d : Addr) (B : Cell) (o q len : Nat) (args : Array Value) (s : State) : Prop := args = #[.ref b, .int (Int32.ofNat o), .ref d, .int (Int32.ofNat q), .int (Int32.ofNat len)] ∧ Ch b A s ∧ Arr .byte d B s ∧ b ≠ d ∧ o + len ≤ A.slots.size ∧ q + len ≤ B.slots.size ∧ ∀ i, i < len → ¬ 255 < cv A (o + i)
def E (b : Addr) (A : Cell) (d : Addr) (B : Cell) (o q len : Nat) (r : Option Value) (s u : State) : Prop := r = some (.int (Int32.ofNat len)) ∧ ∃ B', Put d B' s u ∧ Laid B B' q (q + len) (fun j => Value.int (lo8 (cv A (o + (j - q)))))
/-- no char of the range above 255: len; the places written hold each char's low byte -/
theorem law (l : Launch) (b : Addr) (A : Cell) (d : Addr) (B : Cell) (o q len : Nat) : Law l yN 5 5 0 0 yB 7 (some .int) site (P b A d B o q len) (E b A d B o q len) (copyLocs d q len) 0 0 := by
  refine Law.of_walk (plainFor_of_name (by decide +kernel)) (by decide +kernel) (by decide +kernel) (by decide) (fun _ _ h => by rw [h.1]; rfl) (fun _ U U' hal hh h => ⟨h.1, h.2.1.mv hal hh, h.2.2.1.mv hal hh, h.2.2.2⟩) (fun r U U' V V' h1 hal h2 h => ⟨h.1, h.2.elim fun B' q => ⟨B', q.1.mv h1 h2, q.2⟩⟩) ?_
  intro p e s m args below meth c s₁ X0 hexec hbytes hml hret hlk hnm hown hh0 W hP
  obtain ⟨rfl, hA, hB, hne, l1, l2, hp⟩ := hP
  have c1 : Steps p.tables e below (s₁.setTop (entryFrame m #[.ref b, .int (Int32.ofNat o), .ref d, .int (Int32.ofNat q), .int (Int32.ofNat len)] 7)) (s₁.setTop (mkF m 0 #[.val (.ref b), .val (.int (Int32.ofNat o)), .val (.ref d), .val (.int (Int32.ofNat q)), .val (.int (Int32.ofNat len)), .unset, .unset] [])) := entry rfl
  have hA0 := hA.1.mv X0.warmed.alike hh0
  have hB0 := hB.mv X0.warmed.alike hh0
  have a31 := hA.1.2.2.2
  have c2 : Steps p.tables e below (s₁.setTop (entryFrame m #[.ref b, .int (Int32.ofNat o), .ref d, .int (Int32.ofNat q), .int (Int32.ofNat len)] 7)) (s₁.setTop (mkF m 3 #[.val (.ref b), .val (.int (Int32.ofNat o)), .val (.ref d), .val (.int (Int32.ofNat q)), .val (.int (Int32.ofNat len)), .val (.int 0), .unset] [])) := c1.trans (by
    refine iconstV X0.here hexec rfl 0 (hb hbytes d0) (by decide) ?_
    refine XS.istore X0.here hexec rfl (hb hbytes d1) rfl rfl ?_
    exact Steps.refl _)
  have loop : ∀ (r i : Nat), i + r = len → ∀ (z : Slot), (z = .unset ∨ ∃ w, z = .val w ∧ w.category = 1) → ∀ (Tl : State) (Bk : Cell), Stand p l e { frames := 0, locals := 0, cells := 0, slots := 0 } s m #[.ref b, .int (Int32.ofNat o), .ref d, .int (Int32.ofNat q), .int (Int32.ofNat len)] below meth c Tl ([] ++ copyLocs d q i) 0 0 → Put d Bk s₁ Tl → Laid B Bk q (q + i) (fun j => Value.int (lo8 (cv A (o + (j - q))))) →
      Steps p.tables e below (s₁.setTop (entryFrame m #[.ref b, .int (Int32.ofNat o), .ref d, .int (Int32.ofNat q), .int (Int32.ofNat len)] 7)) (Tl.setTop (mkF m 3 #[.val (.ref b), .val (.int (Int32.ofNat (o + i))), .val (.ref d), .val (.int (Int32.ofNat (q + i))), .val (.int (Int32.ofNat len)), .val (.int (Int32.ofNat i)), z] [])) → ∃ (T' : State) (B' : Cell) (z' : Slot), Stand p l e { frames := 0, locals := 0, cells := 0, slots := 0 } s m #[.ref b, .int (Int32.ofNat o), .ref d, .int (Int32.ofNat q), .int (Int32.ofNat len)] below meth c T' ([] ++ copyLocs d q len) 0 0 ∧ Put d B' s₁ T' ∧ Laid B B' q (q + len) (fun j => Value.int (lo8 (cv A (o + (j - q))))) ∧
      Steps p.tables e below (s₁.setTop (entryFrame m #[.ref b, .int (Int32.ofNat o), .ref d, .int (Int32.ofNat q), .int (Int32.ofNat len)] 7)) (T'.setTop (mkF m 3 #[.val (.ref b), .val (.int (Int32.ofNat (o + len))), .val (.ref d), .val (.int (Int32.ofNat (q + len))), .val (.int (Int32.ofNat len)), .val (.int (Int32.ofNat len)), z'] [])) := by
    intro r
    induction r with
    | zero =>
      intro i hi z hz Tl Bk Xl pl fl cl
      have hil : i = len := by omega
      rw [hil] at Xl fl cl
      exact ⟨Tl, Bk, z, Xl, pl, fl, cl⟩
    | succ r ih =>
      intro i hi z hz Tl Bk Xl pl fl cl
      have all := X0.warmed.alike.symm.trans Xl.warmed.alike
      have hAl := hA0.keep all (pl.other hne hA0.1)
      have hBk := hB0.like all pl.1 fl.1 fl.2.1 fl.2.2.1
      have hlt : q + i < Bk.slots.size := by rw [fl.2.2.1]; omega
      have c3 : Steps p.tables e below (s₁.setTop (entryFrame m #[.ref b, .int (Int32.ofNat o), .ref d, .int (Int32.ofNat q), .int (Int32.ofNat len)] 7)) (Tl.setTop (mkF m 12 #[.val (.ref b), .val (.int (Int32.ofNat (o + i))), .val (.ref d), .val (.int (Int32.ofNat (q + i))), .val (.int (Int32.ofNat len)), .val (.int (Int32.ofNat i)), z] [.int (Int32.ofNat (o + i)), .ref b])) := cl.trans (by
        refine XS.iload Xl.here hexec rfl (hb hbytes d3) rfl ?_
        refine XS.iload Xl.here hexec rfl (hb hbytes d5) rfl ?_
        refine XS.icmpNo Xl.here hexec rfl (hb hbytes d7) rfl (ii_ge_f (lt32 (by omega) (by omega))) ?_
        refine XS.aloadN Xl.here hexec rfl (hb hbytes d10) rfl rfl ?_
        refine XS.iloadN Xl.here hexec rfl (hb hbytes d11) rfl ?_
        exact Steps.refl _)
      have c4 : Steps p.tables e below (s₁.setTop (entryFrame m #[.ref b, .int (Int32.ofNat o), .ref d, .int (Int32.ofNat q), .int (Int32.ofNat len)] 7)) (Tl.setTop (mkF m 13 #[.val (.ref b), .val (.int (Int32.ofNat (o + i))), .val (.ref d), .val (.int (Int32.ofNat (q + i))), .val (.int (Int32.ofNat len)), .val (.int (Int32.ofNat i)), z] [.int (cv A (o + i))])) := c3.trans (by
        refine Xl.aget hexec hAl rfl (hA.get (i := o + i) (by omega)) rfl rfl (hb hbytes d12) ?_
        exact Steps.refl _)
      have c5 : Steps p.tables e below (s₁.setTop (entryFrame m #[.ref b, .int (Int32.ofNat o), .ref d, .int (Int32.ofNat q), .int (Int32.ofNat len)] 7)) (Tl.setTop (mkF m 15 #[.val (.ref b), .val (.int (Int32.ofNat (o + i))), .val (.ref d), .val (.int (Int32.ofNat (q + i))), .val (.int (Int32.ofNat len)), .val (.int (Int32.ofNat i)), .val (.int (cv A (o + i)))] [])) := c4.trans (by
        refine XS.istoreS Xl.here hexec rfl (hb hbytes d13) rfl rfl hz ?_
        exact Steps.refl _)
      have c6 : Steps p.tables e below (s₁.setTop (entryFrame m #[.ref b, .int (Int32.ofNat o), .ref d, .int (Int32.ofNat q), .int (Int32.ofNat len)] 7)) (Tl.setTop (mkF m 31 #[.val (.ref b), .val (.int (Int32.ofNat (o + i))), .val (.ref d), .val (.int (Int32.ofNat (q + i))), .val (.int (Int32.ofNat len)), .val (.int (Int32.ofNat i)), .val (.int (cv A (o + i)))] [.int (lo8 (cv A (o + i))), .int (Int32.ofNat (q + i)), .ref d])) := c5.trans (by
        refine XS.iload Xl.here hexec rfl (hb hbytes d15) rfl ?_
        refine sipushV Xl.here hexec rfl 255 (hb hbytes d17) (by decide) ?_
        refine XS.icmpYes Xl.here hexec rfl (pc0 := 20) rfl (hb hbytes d20) rfl (ii_le_t (hp i (by omega))) (by decide) rfl ?_
        refine XS.aloadN Xl.here hexec rfl (hb hbytes d26) rfl rfl ?_
        refine XS.iloadN Xl.here hexec rfl (hb hbytes d27) rfl ?_
        refine XS.iload Xl.here hexec rfl (hb hbytes d28) rfl ?_
        refine i2b Xl.here hexec rfl (hb hbytes d30) rfl ?_
        exact Steps.refl _)
      obtain ⟨T7, X7, p7, st7⟩ := Xl.aput hexec hBk rfl hlt rfl (fits_lo8 (cv A (o + i))) (g := (mkF m 31 #[.val (.ref b), .val (.int (Int32.ofNat (o + i))), .val (.ref d), .val (.int (Int32.ofNat (q + i))), .val (.int (Int32.ofNat len)), .val (.int (Int32.ofNat i)), .val (.int (cv A (o + i)))] [.int (lo8 (cv A (o + i))), .int (Int32.ofNat (q + i)), .ref d])) rfl (rest := []) rfl (hb hbytes d31)
      have c8 : Steps p.tables e below (s₁.setTop (entryFrame m #[.ref b, .int (Int32.ofNat o), .ref d, .int (Int32.ofNat q), .int (Int32.ofNat len)] 7)) (T7.setTop (mkF m 32 #[.val (.ref b), .val (.int (Int32.ofNat (o + i))), .val (.ref d), .val (.int (Int32.ofNat (q + i))), .val (.int (Int32.ofNat len)), .val (.int (Int32.ofNat i)), .val (.int (cv A (o + i)))] [])) := c6.trans (st7 _ (Steps.refl _))
      have c9 : Steps p.tables e below (s₁.setTop (entryFrame m #[.ref b, .int (Int32.ofNat o), .ref d, .int (Int32.ofNat q), .int (Int32.ofNat len)] 7)) (T7.setTop (mkF m 3 #[.val (.ref b), .val (.int (Int32.ofNat (o + i) + 1)), .val (.ref d), .val (.int (Int32.ofNat (q + i) + 1)), .val (.int (Int32.ofNat len)), .val (.int (Int32.ofNat i + 1)), .val (.int (cv A (o + i)))] [])) := c8.trans (by
        refine iincV X7.here hexec rfl 1 (hb hbytes d32) (by decide) rfl rfl ?_
        refine iincV X7.here hexec rfl 1 (hb hbytes d35) (by decide) rfl rfl ?_
        refine iincV X7.here hexec rfl 1 (hb hbytes d38) (by decide) rfl rfl ?_
        refine XS.goto X7.here hexec rfl (pc0 := 41) rfl (hb hbytes d41) (by decide) rfl ?_
        exact Steps.refl _)
      have c10 : Steps p.tables e below (s₁.setTop (entryFrame m #[.ref b, .int (Int32.ofNat o), .ref d, .int (Int32.ofNat q), .int (Int32.ofNat len)] 7)) (T7.setTop (mkF m 3 #[.val (.ref b), .val (.int (Int32.ofNat (o + (i + 1)))), .val (.ref d), .val (.int (Int32.ofNat (q + (i + 1)))), .val (.int (Int32.ofNat len)), .val (.int (Int32.ofNat (i + 1))), .val (.int (cv A (o + i)))] [])) := by
        have := c9
        rw [succ32, succ32, succ32] at this
        exact this
      exact ih (i + 1) (by omega) _ (Or.inr ⟨_, rfl, rfl⟩) T7 _ (by rw [copyLocs_step, ← List.append_assoc]; exact X7) (pl.trans p7) (fl.step (by omega) hlt (by simp)) c10
  obtain ⟨T9, B9, z9, X9, p9, f9, g9⟩ := loop len 0 (by omega) .unset (Or.inl rfl) s₁ B (by simpa [copyLocs] using X0) ⟨hB0.1, fun _ _ => rfl, rfl⟩ (Laid.zero _ _ _) c2
  have c11 : Steps p.tables e below (s₁.setTop (entryFrame m #[.ref b, .int (Int32.ofNat o), .ref d, .int (Int32.ofNat q), .int (Int32.ofNat len)] 7)) (T9.setTop (mkF m 46 #[.val (.ref b), .val (.int (Int32.ofNat (o + len))), .val (.ref d), .val (.int (Int32.ofNat (q + len))), .val (.int (Int32.ofNat len)), .val (.int (Int32.ofNat len)), z9] [.int (Int32.ofNat len)])) := g9.trans (by
    refine XS.iload X9.here hexec rfl (hb hbytes d3) rfl ?_
    refine XS.iload X9.here hexec rfl (hb hbytes d5) rfl ?_
    refine XS.icmpYes X9.here hexec rfl (pc0 := 7) rfl (hb hbytes d7) rfl (ii_ge_t (nlt32 (by omega) (Nat.le_refl _))) (by decide) rfl ?_
    refine XS.iload X9.here hexec rfl (hb hbytes d44) rfl ?_
    exact Steps.refl _)
  exact ⟨T9, some (.int (Int32.ofNat len)), _, _, _, X9, by simp, rfl, rfl, (fun h => by cases h), ⟨rfl, B9, p9.from hh0, f9⟩, fun fs hl => c11.trans (X9.ireturnOut hexec hret rfl (Or.inl rfl) (hb hbytes d46) hl)⟩
end Cmp5
namespace Cmp3
def yN : MethodName := ⟨"java/lang/StringUTF16", "compress", "([CII)[B"⟩
abbrev yB : ByteArray := jdk_52_method_16_code
theorem d0 : decode yB 0 = .ok (.iload_n 2, 1) := by decide +kernel
theorem d1 : decode yB 1 = .ok (.newarray .byte, 2) := by decide +kernel
theorem d3 : decode yB 3 = .ok (.astore_n 3, 1) := by decide +kernel
theorem d4 : decode yB 4 = .ok (.aload_n 0, 1) := by decide +kernel
theorem d5 : decode yB 5 = .ok (.iload_n 1, 1) := by decide +kernel
theorem d6 : decode yB 6 = .ok (.aload_n 3, 1) := by decide +kernel
theorem d7 : decode yB 7 = .ok (.iconst 0, 1) := by decide +kernel
theorem d8 : decode yB 8 = .ok (.iload_n 2, 1) := by decide +kernel
theorem d9 : decode yB 9 = .ok (.invokestatic 115, 3) := by decide +kernel
theorem d12 : decode yB 12 = .ok (.istore 4, 2) := by decide +kernel
theorem d14 : decode yB 14 = .ok (.iload 4, 2) := by decide +kernel
theorem d16 : decode yB 16 = .ok (.iload_n 2, 1) := by decide +kernel
theorem d17 : decode yB 17 = .ok (.if_icmp (.eq) 40, 3) := by decide +kernel
theorem d57 : decode yB 57 = .ok (.aload_n 3, 1) := by decide +kernel
theorem d58 : decode yB 58 = .ok (.areturn, 1) := by decide +kernel
def site : List Cond := [.arrayClass .byte, Cmp5.tab] ++ staticW U16 115 Cmp5.yN
def tab : Cond := tabOf yN yB 6 (some (.array .byte)) site
def P (b : Addr) (A : Cell) (o len : Nat) (args : Array Value) (s : State) : Prop := args = #[.ref b, .int (Int32.ofNat o), .int (Int32.ofNat len)] ∧ Ch b A s ∧ o + len ≤ A.slots.size ∧ len ≤ 536870912 ∧ ∀ i, i < len → ¬ 255 < cv A (o + i)
def E (b : Addr) (A : Cell) (o len : Nat) (r : Option Value) (s u : State) : Prop := NewArr .byte "[B" len (fun j => .int (lo8 (cv A (o + j)))) r s u ∧ u.heap.size = s.heap.size + 1
/-- no char of the range above 255: a new byte[] of their low bytes -/
theorem law (l : Launch) (b : Addr) (A : Cell) (o len : Nat) : Law l yN 3 3 1 18 yB 6 (some (.array .byte)) site (P b A o len) (E b A o len) [] 1 len := by
  refine Law.of_walk (plainFor_of_name (by decide +kernel)) (by decide +kernel) (by decide +kernel) (by decide) (fun _ _ h => by rw [h.1]; rfl) (fun _ U U' hal hh h => ⟨h.1, h.2.1.mv hal hh, h.2.2⟩) (fun r U U' V V' h1 hal h2 h => ⟨NewArr.mv r U U' V V' h1 hal h2 h.1, by rw [h1, h2]; exact h.2⟩) ?_
  intro p e s m args below meth c s₁ X0 hexec hbytes hml hret hlk hnm hown hh0 W hP
  obtain ⟨rfl, hA, l1, l2, hp⟩ := hP
  have a31 := hA.1.2.2.2
  have c1 : Steps p.tables e below (s₁.setTop (entryFrame m #[.ref b, .int (Int32.ofNat o), .int (Int32.ofNat len)] 6)) (s₁.setTop (mkF m 0 #[.val (.ref b), .val (.int (Int32.ofNat o)), .val (.int (Int32.ofNat len)), .unset, .unset, .unset] [])) := entry rfl
  have c2 : Steps p.tables e below (s₁.setTop (entryFrame m #[.ref b, .int (Int32.ofNat o), .int (Int32.ofNat len)] 6)) (s₁.setTop (mkF m 1 #[.val (.ref b), .val (.int (Int32.ofNat o)), .val (.int (Int32.ofNat len)), .unset, .unset, .unset] [.int (Int32.ofNat len)])) := c1.trans (by
    refine XS.iloadN X0.here hexec rfl (hb hbytes d0) rfl ?_
    exact Steps.refl _)
  obtain ⟨T3, B3, X3, ba3, bs3, bv3, bh3, bf3, st3⟩ := X0.anew hexec (atype := .byte) (wk W (.arrayClass .byte)) rfl (by show len * 1 ≤ _; omega) (by omega) (g := (mkF m 1 #[.val (.ref b), .val (.int (Int32.ofNat o)), .val (.int (Int32.ofNat len)), .unset, .unset, .unset] [.int (Int32.ofNat len)])) rfl (hb hbytes d1) (rest := []) rfl (Nat.le_refl _) (by show 0 + len ≤ len; omega)
  rw [hh0] at ba3 st3
  have kp3 : XT.Kept s T3 := (XT.Kept.of_eq hh0).push bh3
  have hA3 := hA.keep X3.warmed.alike (kp3 _ _ hA.1.1)
  have hne : b ≠ s.heap.size := hA.1.ne
  have c4 : Steps p.tables e below (s₁.setTop (entryFrame m #[.ref b, .int (Int32.ofNat o), .int (Int32.ofNat len)] 6)) (T3.setTop (mkF m 3 #[.val (.ref b), .val (.int (Int32.ofNat o)), .val (.int (Int32.ofNat len)), .unset, .unset, .unset] [.ref s.heap.size])) := c2.trans (st3 _ (Steps.refl _))
  have c5 : Steps p.tables e below (s₁.setTop (entryFrame m #[.ref b, .int (Int32.ofNat o), .int (Int32.ofNat len)] 6)) (T3.setTop (mkF m 9 #[.val (.ref b), .val (.int (Int32.ofNat o)), .val (.int (Int32.ofNat len)), .val (.ref s.heap.size), .unset, .unset] [.int (Int32.ofNat len), .int 0, .ref s.heap.size, .int (Int32.ofNat o), .ref b])) := c4.trans (by
    refine XS.astoreN X3.here hexec rfl (hb hbytes d3) rfl rfl rfl ?_
    refine XS.aloadN X3.here hexec rfl (hb hbytes d4) rfl rfl ?_
    refine XS.iloadN X3.here hexec rfl (hb hbytes d5) rfl ?_
    refine XS.aloadN X3.here hexec rfl (hb hbytes d6) rfl rfl ?_
    refine iconstV X3.here hexec rfl 0 (hb hbytes d7) (by decide) ?_
    refine XS.iloadN X3.here hexec rfl (hb hbytes d8) rfl ?_
    exact Steps.refl _)
  obtain ⟨v6, T6, X6, E6, g6⟩ := X3.callS hexec (Cmp5.law l b A s.heap.size B3 o 0 len) hown (wks W (staticW U16 115 Cmp5.yN)) (wk W Cmp5.tab) (W := 0) (Nat.le_of_ble_eq_true rfl) (Nat.le_of_ble_eq_true rfl) (Nat.le_refl _) (by show 0 + len + 0 ≤ len; omega) (g := (mkF m 9 #[.val (.ref b), .val (.int (Int32.ofNat o)), .val (.int (Int32.ofNat len)), .val (.ref s.heap.size), .unset, .unset] [.int (Int32.ofNat len), .int (Int32.ofNat 0), .ref s.heap.size, .int (Int32.ofNat o), .ref b])) rfl (by rw [hml]; rfl) c5 (argsL := [.ref b, .int (Int32.ofNat o), .ref s.heap.size, .int (Int32.ofNat 0), .int (Int32.ofNat len)]) (rest := []) rfl rfl (by show 2 * 0 + 0 ≤ _; decide) (hb hbytes d9) (⟨rfl, hA3, ba3, hne, l1, by rw [bs3]; simp, hp⟩)
  obtain ⟨rfl, B6, p6, f6⟩ := E6
  have c7 : Steps p.tables e below (s₁.setTop (entryFrame m #[.ref b, .int (Int32.ofNat o), .int (Int32.ofNat len)] 6)) (T6.setTop (mkF m 12 #[.val (.ref b), .val (.int (Int32.ofNat o)), .val (.int (Int32.ofNat len)), .val (.ref s.heap.size), .unset, .unset] [.int (Int32.ofNat len)])) := g6
  have c8 : Steps p.tables e below (s₁.setTop (entryFrame m #[.ref b, .int (Int32.ofNat o), .int (Int32.ofNat len)] 6)) (T6.setTop (mkF m 58 #[.val (.ref b), .val (.int (Int32.ofNat o)), .val (.int (Int32.ofNat len)), .val (.ref s.heap.size), .val (.int (Int32.ofNat len)), .unset] [.ref s.heap.size])) := c7.trans (by
    refine XS.istore X6.here hexec rfl (hb hbytes d12) rfl rfl ?_
    refine XS.iload X6.here hexec rfl (hb hbytes d14) rfl ?_
    refine XS.iloadN X6.here hexec rfl (hb hbytes d16) rfl ?_
    refine XS.icmpYes X6.here hexec rfl (pc0 := 17) rfl (hb hbytes d17) rfl (ii_eq_t rfl) (by decide) rfl ?_
    refine XS.aloadN X6.here hexec rfl (hb hbytes d57) rfl rfl ?_
    exact Steps.refl _)
  have X8 := X6.wide (L' := []) (cells' := 1) (slots' := len) (fun x hx hlt => by
    simp only [List.nil_append, copyLocs, List.mem_map, List.mem_range] at hx
    obtain ⟨i, -, rfl⟩ := hx
    exact absurd hlt (Nat.lt_irrefl _)) (Nat.le_refl _) (by omega)
  exact ⟨T6, some (.ref s.heap.size), _, _, _, X8, rfl, rfl, rfl, (fun h => by cases h), ⟨⟨rfl, B6, ba3.like (X3.warmed.alike.symm.trans X6.warmed.alike) p6.1 f6.1 f6.2.1 f6.2.2.1, f6.2.1.trans bv3, by rw [X6.warmed.alike.findClass, f6.1]; exact bf3, by rw [f6.2.2.1, bs3]; simp, fun j hj => by rw [f6.2.2.2 j, if_pos (by omega)]; rfl, kp3.put p6 (Nat.le_refl _)⟩, by rw [p6.2.2, bh3, hh0]; simp⟩, fun fs hl => c8.trans (X8.areturnOut hexec rfl hret rfl (hb hbytes d58) hl)⟩
end Cmp3
namespace CodL
def yN : MethodName := ⟨"java/lang/StringUTF16", "coderFromArrayLen", "([BI)B"⟩
abbrev yB : ByteArray := jdk_52_method_15_code
theorem d0 : decode yB 0 = .ok (.iload_n 1, 1) := by decide +kernel
theorem d1 : decode yB 1 = .ok (.aload_n 0, 1) := by decide +kernel
theorem d2 : decode yB 2 = .ok (.arraylength, 1) := by decide +kernel
theorem d3 : decode yB 3 = .ok (.isub, 1) := by decide +kernel
theorem d4 : decode yB 4 = .ok (.bipush 31, 2) := by decide +kernel
theorem d6 : decode yB 6 = .ok (.iushr, 1) := by decide +kernel
theorem d7 : decode yB 7 = .ok (.i2b, 1) := by decide +kernel
theorem d8 : decode yB 8 = .ok (.ireturn, 1) := by decide +kernel
def site : List Cond := []
def tab : Cond := tabOf yN yB 2 (some .byte) site
def P (d : Addr) (B : Cell) (args : Array Value) (s : State) : Prop := args = #[.ref d, .int (Int32.ofNat B.slots.size)] ∧ Arr .byte d B s
def E (r : Option Value) (s u : State) : Prop := XT.PureE (some (.int 0)) r s u
/-- an array as long as the number of chars: LATIN1 -/
theorem law (l : Launch) (d : Addr) (B : Cell) : Law l yN 2 2 0 0 yB 2 (some .byte) site (P d B) E [] 0 0 := by
  refine Law.of_walk (plainFor_of_name (by decide +kernel)) (by decide +kernel) (by decide +kernel) (by decide) (fun _ _ h => by rw [h.1]; rfl) (fun _ U U' hal hh h => ⟨h.1, h.2.mv hal hh⟩) (fun r U U' V V' h1 hal h2 h => XT.PureE.mv r U U' V V' h1 hal h2 h) ?_
  intro p e s m args below meth c s₁ X0 hexec hbytes hml hret hlk hnm hown hh0 W hP
  obtain ⟨rfl, hB⟩ := hP
  have hB0 := hB.mv X0.warmed.alike hh0
  have c1 : Steps p.tables e below (s₁.setTop (entryFrame m #[.ref d, .int (Int32.ofNat B.slots.size)] 2)) (s₁.setTop (mkF m 0 #[.val (.ref d), .val (.int (Int32.ofNat B.slots.size))] [])) := entry rfl
  have c2 : Steps p.tables e below (s₁.setTop (entryFrame m #[.ref d, .int (Int32.ofNat B.slots.size)] 2)) (s₁.setTop (mkF m 2 #[.val (.ref d), .val (.int (Int32.ofNat B.slots.size))] [.ref d, .int (Int32.ofNat B.slots.size)])) := c1.trans (by
    refine XS.iloadN X0.here hexec rfl (hb hbytes d0) rfl ?_
    refine XS.aloadN X0.here hexec rfl (hb hbytes d1) rfl rfl ?_
    exact Steps.refl _)
  have c3 : Steps p.tables e below (s₁.setTop (entryFrame m #[.ref d, .int (Int32.ofNat B.slots.size)] 2)) (s₁.setTop (mkF m 8 #[.val (.ref d), .val (.int (Int32.ofNat B.slots.size))] [.int (lo8 (ushr (Int32.ofNat B.slots.size - Int32.ofNat B.slots.size) 31))])) := c2.trans (by
    refine X0.alen hexec hB0 rfl rfl (hb hbytes d2) ?_
    refine XS.isub X0.here hexec rfl (hb hbytes d3) rfl ?_
    refine bipushV X0.here hexec rfl 31 (hb hbytes d4) (by decide) ?_
    refine iushr X0.here hexec rfl (hb hbytes d6) rfl ?_
    refine i2b X0.here hexec rfl (hb hbytes d7) rfl ?_
    exact Steps.refl _)
  have e0 : lo8 (ushr (Int32.ofNat B.slots.size - Int32.ofNat B.slots.size) 31) = 0 := by rw [Int32.sub_self]; decide
  rw [e0] at c3
  exact ⟨s₁, some (.int 0), _, _, _, X0, rfl, rfl, rfl, (fun h => by cases h), ⟨rfl, hh0⟩, fun fs hl => c3.trans (X0.ireturnOut hexec hret rfl (Or.inr (Or.inr (Or.inl rfl))) (hb hbytes d8) hl)⟩
end CodL
/-- the String at a is Latin-1 over a new byte[] (the heap's one new cell): the low bytes of the len chars of A from o on; every cell but a is kept -/
def Got (a : Addr) (D : Cell) (fV fC : Field) (A : Cell) (o len : Nat) (r : Option Value) (s u : State) : Prop := r = none ∧ ∃ D' V : Cell, Blank "java/lang/String" a D' u ∧ Same D D' [fV.slot, fC.slot] ∧ D'.slots[fV.slot]? = some (.ref s.heap.size) ∧ D'.slots[fC.slot]? = some (.int 0) ∧ Arr .byte s.heap.size V u ∧ V.vm = .none ∧ u.vm.findClass "[B" = some V.cls ∧ V.slots.size = len ∧ (∀ j, j < len → V.slots[j]? = some (.int (lo8 (cv A (o + j))))) ∧ (∀ (y : Addr) (c : Cell), y ≠ a → s.heap[y]? = some c → u.heap[y]? = some c) ∧ u.heap.size = s.heap.size + 1
theorem Got.mv {a : Addr} {D A : Cell} {fV fC : Field} {o len : Nat} : ∀ r (U U' V V' : State), U'.heap = U.heap → V.vm.Alike V'.vm → V'.heap = V.heap → Got a D fV fC A o len r U V → Got a D fV fC A o len r U' V' :=
  fun r U U' V V' h1 hal h2 ⟨e0, D', X, a1, a2, a3, a4, a5, a6, a7, a8, a9, a10, a11⟩ => ⟨e0, D', X, a1.mv hal h2, a2, by rw [h1]; exact a3, a4, by rw [h1]; exact a5.mv hal h2, a6, by rw [hal.findClass]; exact a7, a8, a9, by rw [h1, h2]; exact a10, by rw [h1, h2]; exact a11⟩
namespace New4
def yN : MethodName := ⟨"java/lang/String", "<init>", "([CIILjava/lang/Void;)V"⟩
abbrev yB : ByteArray := jdk_42_method_149_code
theorem d0 : decode yB 0 = .ok (.aload_n 0, 1) := by decide +kernel
theorem d1 : decode yB 1 = .ok (.invokespecial 1, 3) := by decide +kernel
theorem d4 : decode yB 4 = .ok (.iload_n 3, 1) := by decide +kernel
theorem d5 : decode yB 5 = .ok (.ifCond (.ne) 22, 3) := by decide +kernel
theorem d27 : decode yB 27 = .ok (.getstatic 38, 3) := by decide +kernel
theorem d30 : decode yB 30 = .ok (.ifCond (.eq) 28, 3) := by decide +kernel
theorem d33 : decode yB 33 = .ok (.aload_n 1, 1) := by decide +kernel
theorem d34 : decode yB 34 = .ok (.iload_n 2, 1) := by decide +kernel
theorem d35 : decode yB 35 = .ok (.iload_n 3, 1) := by decide +kernel
theorem d36 : decode yB 36 = .ok (.invokestatic 177, 3) := by decide +kernel
theorem d39 : decode yB 39 = .ok (.astore 5, 2) := by decide +kernel
theorem d41 : decode yB 41 = .ok (.aload_n 0, 1) := by decide +kernel
theorem d42 : decode yB 42 = .ok (.aload 5, 2) := by decide +kernel
theorem d44 : decode yB 44 = .ok (.iload_n 3, 1) := by decide +kernel
theorem d45 : decode yB 45 = .ok (.invokestatic 47, 3) := by decide +kernel
theorem d48 : decode yB 48 = .ok (.putfield 15, 3) := by decide +kernel
theorem d51 : decode yB 51 = .ok (.aload_n 0, 1) := by decide +kernel
theorem d52 : decode yB 52 = .ok (.aload 5, 2) := by decide +kernel
theorem d54 : decode yB 54 = .ok (.putfield 9, 3) := by decide +kernel
theorem d57 : decode yB 57 = .ok (.return_, 1) := by decide +kernel
def site : List Cond := [.fieldLink "java/lang/String" 38 "java/lang/String" "COMPACT_STRINGS" "Z", Cmp3.tab, CodL.tab, .laysFinal "java/lang/String" "java/lang/String" "value" "[B", .fieldLink "java/lang/String" 9 "java/lang/String" "value" "[B", .laysFinal "java/lang/String" "java/lang/String" "coder" "B", .fieldLink "java/lang/String" 15 "java/lang/String" "coder" "B"] ++ objW "java/lang/String" 1 ++ staticW "java/lang/String" 177 Cmp3.yN ++ staticW "java/lang/String" 47 CodL.yN
def tab : Cond := tabOf yN yB 6 none site
def P (a : Addr) (D : Cell) (fV fC : Field) (b : Addr) (A : Cell) (z : Int32) (o len : Nat) (args : Array Value) (s : State) : Prop := args = #[.ref a, .ref b, .int (Int32.ofNat o), .int (Int32.ofNat len), .null] ∧ Blank "java/lang/String" a D s ∧ Found "java/lang/String" "value" "[B" fV s ∧ Found "java/lang/String" "coder" "B" fC s ∧ Ch b A s ∧ StaticIs s "java/lang/String" "COMPACT_STRINGS" "Z" (.int z) ∧ ¬ z = 0 ∧ 0 < len ∧ o + len ≤ A.slots.size ∧ len ≤ 536870912 ∧ ∀ i, i < len → ¬ 255 < cv A (o + i)
def E (a : Addr) (D : Cell) (fV fC : Field) (A : Cell) (o len : Nat) (r : Option Value) (s u : State) : Prop := Got a D fV fC A o len r s u
/-- len > 0, no char of the range above 255: a Latin-1 String of their low bytes -/
theorem law (l : Launch) (a : Addr) (D : Cell) (fV fC : Field) (b : Addr) (A : Cell) (z : Int32) (o len : Nat) : Law l yN 5 4 2 35 yB 6 none site (P a D fV fC b A z o len) (E a D fV fC A o len) [⟨a, fC.slot⟩, ⟨a, fV.slot⟩] 1 len := by
  refine Law.of_walk (plainFor_of_name (by decide +kernel)) (by decide +kernel) (by decide +kernel) (by decide) (fun _ _ h => by rw [h.1]; rfl) (fun _ U U' hal hh h => ⟨h.1, h.2.1.mv hal hh, h.2.2.1.al hal, h.2.2.2.1.al hal, h.2.2.2.2.1.mv hal hh, h.2.2.2.2.2.1.there hal hh, h.2.2.2.2.2.2⟩) (fun r U U' V V' h1 hal h2 h => Got.mv r U U' V V' h1 hal h2 h) ?_
  intro p e s m args below meth c s₁ X0 hexec hbytes hml hret hlk hnm hown hh0 W hP
  obtain ⟨rfl, hB, f1, f2, hA, s1, hz, l0, l1, l2, hp⟩ := hP
  have a31 := hA.1.2.2.2
  have c1 : Steps p.tables e below (s₁.setTop (entryFrame m #[.ref a, .ref b, .int (Int32.ofNat o), .int (Int32.ofNat len), .null] 6)) (s₁.setTop (mkF m 0 #[.val (.ref a), .val (.ref b), .val (.int (Int32.ofNat o)), .val (.int (Int32.ofNat len)), .val .null, .unset] [])) := entry rfl
  have c2 : Steps p.tables e below (s₁.setTop (entryFrame m #[.ref a, .ref b, .int (Int32.ofNat o), .int (Int32.ofNat len), .null] 6)) (s₁.setTop (mkF m 1 #[.val (.ref a), .val (.ref b), .val (.int (Int32.ofNat o)), .val (.int (Int32.ofNat len)), .val .null, .unset] [.ref a])) := c1.trans (by
    refine XS.aloadN X0.here hexec rfl (hb hbytes d0) rfl rfl ?_
    exact Steps.refl _)
  obtain ⟨T3, X3, q3, st3⟩ := X0.oinit hexec hown (wks W (objW "java/lang/String" 1)) (g := (mkF m 1 #[.val (.ref a), .val (.ref b), .val (.int (Int32.ofNat o)), .val (.int (Int32.ofNat len)), .val .null, .unset] [.ref a])) rfl (by rw [hml]; rfl) (rest := []) rfl (hb hbytes d1) (W := 0) (by show 2 * 0 + 0 ≤ _; decide) (Nat.le_of_ble_eq_true rfl) (Nat.le_of_ble_eq_true rfl)
  have hh3 := q3.trans hh0
  have c4 : Steps p.tables e below (s₁.setTop (entryFrame m #[.ref a, .ref b, .int (Int32.ofNat o), .int (Int32.ofNat len), .null] 6)) (T3.setTop (mkF m 27 #[.val (.ref a), .val (.ref b), .val (.int (Int32.ofNat o)), .val (.int (Int32.ofNat len)), .val .null, .unset] [])) := (c2.trans (st3 _ (Steps.refl _))).trans (by
    refine XS.iloadN X3.here hexec rfl (hb hbytes d4) rfl ?_
    refine XS.ifYes X3.here hexec rfl (pc0 := 5) rfl (hb hbytes d5) rfl (i0_ne_t (nz32 (by omega) l0)) (by decide) rfl ?_
    exact Steps.refl _)
  obtain ⟨T5, X5, q5, st5⟩ := X3.sget hexec hown (wk W (.fieldLink "java/lang/String" 38 "java/lang/String" "COMPACT_STRINGS" "Z")) s1 (fun _ _ h => by rw [hh3]; exact h) (g := (mkF m 27 #[.val (.ref a), .val (.ref b), .val (.int (Int32.ofNat o)), .val (.int (Int32.ofNat len)), .val .null, .unset] [])) rfl (hb hbytes d27)
  have hh5 := q5.trans hh3
  have c6 : Steps p.tables e below (s₁.setTop (entryFrame m #[.ref a, .ref b, .int (Int32.ofNat o), .int (Int32.ofNat len), .null] 6)) (T5.setTop (mkF m 30 #[.val (.ref a), .val (.ref b), .val (.int (Int32.ofNat o)), .val (.int (Int32.ofNat len)), .val .null, .unset] [.int z])) := c4.trans (st5 _ (Steps.refl _))
  have c7 : Steps p.tables e below (s₁.setTop (entryFrame m #[.ref a, .ref b, .int (Int32.ofNat o), .int (Int32.ofNat len), .null] 6)) (T5.setTop (mkF m 36 #[.val (.ref a), .val (.ref b), .val (.int (Int32.ofNat o)), .val (.int (Int32.ofNat len)), .val .null, .unset] [.int (Int32.ofNat len), .int (Int32.ofNat o), .ref b])) := c6.trans (by
    refine XS.ifNo X5.here hexec rfl (hb hbytes d30) rfl (i0_eq_f hz) ?_
    refine XS.aloadN X5.here hexec rfl (hb hbytes d33) rfl rfl ?_
    refine XS.iloadN X5.here hexec rfl (hb hbytes d34) rfl ?_
    refine XS.iloadN X5.here hexec rfl (hb hbytes d35) rfl ?_
    exact Steps.refl _)
  obtain ⟨v8, T8, X8, E8, g8⟩ := X5.callS hexec (Cmp3.law l b A o len) hown (wks W (staticW "java/lang/String" 177 Cmp3.yN)) (wk W Cmp3.tab) (W := 0) (Nat.le_of_ble_eq_true rfl) (Nat.le_of_ble_eq_true rfl) (Nat.le_refl _) (by show 0 + len ≤ len; omega) (g := (mkF m 36 #[.val (.ref a), .val (.ref b), .val (.int (Int32.ofNat o)), .val (.int (Int32.ofNat len)), .val .null, .unset] [.int (Int32.ofNat len), .int (Int32.ofNat o), .ref b])) rfl (by rw [hml]; rfl) c7 (argsL := [.ref b, .int (Int32.ofNat o), .int (Int32.ofNat len)]) (rest := []) rfl rfl (by show 2 * 0 + 0 ≤ _; decide) (hb hbytes d36) (⟨rfl, hA.mv X5.warmed.alike hh5, l1, l2, hp⟩)
  obtain ⟨e8, z8⟩ := E8
  obtain ⟨rfl, N, n1, n2, n3, n4, n5, n6⟩ := NewArr.mv _ T5 s _ _ hh5.symm (Vm.Alike.refl _) rfl e8
  rw [hh5] at z8
  have hB1 := hB.keep X8.warmed.alike (n6 _ _ hB.1)
  have hne : s.heap.size ≠ a := (Nat.ne_of_lt (Array.getElem?_eq_some_iff.mp hB.1).1).symm
  have c9 : Steps p.tables e below (s₁.setTop (entryFrame m #[.ref a, .ref b, .int (Int32.ofNat o), .int (Int32.ofNat len), .null] 6)) (T8.setTop (mkF m 39 #[.val (.ref a), .val (.ref b), .val (.int (Int32.ofNat o)), .val (.int (Int32.ofNat len)), .val .null, .unset] [.ref s.heap.size])) := g8
  have c10 : Steps p.tables e below (s₁.setTop (entryFrame m #[.ref a, .ref b, .int (Int32.ofNat o), .int (Int32.ofNat len), .null] 6)) (T8.setTop (mkF m 45 #[.val (.ref a), .val (.ref b), .val (.int (Int32.ofNat o)), .val (.int (Int32.ofNat len)), .val .null, .val (.ref s.heap.size)] [.int (Int32.ofNat N.slots.size), .ref s.heap.size, .ref a])) := by
    have hc : Steps p.tables e below (s₁.setTop (entryFrame m #[.ref a, .ref b, .int (Int32.ofNat o), .int (Int32.ofNat len), .null] 6)) (T8.setTop (mkF m 45 #[.val (.ref a), .val (.ref b), .val (.int (Int32.ofNat o)), .val (.int (Int32.ofNat len)), .val .null, .val (.ref s.heap.size)] [.int (Int32.ofNat len), .ref s.heap.size, .ref a])) := c9.trans (by
      refine XS.astore X8.here hexec rfl (hb hbytes d39) rfl rfl rfl ?_
      refine XS.aloadN X8.here hexec rfl (hb hbytes d41) rfl rfl ?_
      refine XS.aload X8.here hexec rfl (hb hbytes d42) rfl rfl ?_
      refine XS.iloadN X8.here hexec rfl (hb hbytes d44) rfl ?_
      exact Steps.refl _)
    rw [n4]; exact hc
  obtain ⟨v11, T11, X11, E11, g11⟩ := X8.callS hexec (CodL.law l s.heap.size N) hown (wks W (staticW "java/lang/String" 47 CodL.yN)) (wk W CodL.tab) (W := 1) (Nat.le_of_ble_eq_true rfl) (Nat.le_of_ble_eq_true rfl) (Nat.le_refl _) (by show 0 + len + 0 ≤ len; omega) (g := (mkF m 45 #[.val (.ref a), .val (.ref b), .val (.int (Int32.ofNat o)), .val (.int (Int32.ofNat len)), .val .null, .val (.ref s.heap.size)] [.int (Int32.ofNat N.slots.size), .ref s.heap.size, .ref a])) rfl (by rw [hml]; rfl) c10 (argsL := [.ref s.heap.size, .int (Int32.ofNat N.slots.size)]) (rest := [.ref a]) rfl rfl (by show 2 * 0 + (1 + 0) ≤ _; decide) (hb hbytes d45) (⟨rfl, n1⟩)
  obtain ⟨rfl, q11⟩ := E11
  have hB11 := hB1.mv (X8.warmed.alike.symm.trans X11.warmed.alike) q11
  have c12 : Steps p.tables e below (s₁.setTop (entryFrame m #[.ref a, .ref b, .int (Int32.ofNat o), .int (Int32.ofNat len), .null] 6)) (T11.setTop (mkF m 48 #[.val (.ref a), .val (.ref b), .val (.int (Int32.ofNat o)), .val (.int (Int32.ofNat len)), .val .null, .val (.ref s.heap.size)] [.int 0, .ref a])) := g11
  obtain ⟨T13, X13, p13, bl13, sl13, st13⟩ := X11.finit hexec hown (wk W (.fieldLink "java/lang/String" 15 "java/lang/String" "coder" "B")) (Or.inr ⟨_, (wk W (.laysFinal "java/lang/String" "java/lang/String" "coder" "B"))⟩) (Or.inl ⟨rfl, hnm⟩) f2 (Or.inl rfl) hB11 (t := .byte) (by decide +kernel) rfl (g := (mkF m 48 #[.val (.ref a), .val (.ref b), .val (.int (Int32.ofNat o)), .val (.int (Int32.ofNat len)), .val .null, .val (.ref s.heap.size)] [.int 0, .ref a])) rfl (rest := []) rfl (hb hbytes d48)
  have c14 : Steps p.tables e below (s₁.setTop (entryFrame m #[.ref a, .ref b, .int (Int32.ofNat o), .int (Int32.ofNat len), .null] 6)) (T13.setTop (mkF m 54 #[.val (.ref a), .val (.ref b), .val (.int (Int32.ofNat o)), .val (.int (Int32.ofNat len)), .val .null, .val (.ref s.heap.size)] [.ref s.heap.size, .ref a])) := (c12.trans (st13 _ (Steps.refl _))).trans (by
    refine XS.aloadN X13.here hexec rfl (hb hbytes d51) rfl rfl ?_
    refine XS.aload X13.here hexec rfl (hb hbytes d52) rfl rfl ?_
    exact Steps.refl _)
  obtain ⟨T15, X15, p15, bl15, sl15, st15⟩ := X13.finit hexec hown (wk W (.fieldLink "java/lang/String" 9 "java/lang/String" "value" "[B")) (Or.inr ⟨_, (wk W (.laysFinal "java/lang/String" "java/lang/String" "value" "[B"))⟩) (Or.inl ⟨rfl, hnm⟩) f1 (Or.inl rfl) bl13 (t := (.array .byte)) (by decide +kernel) rfl (g := (mkF m 54 #[.val (.ref a), .val (.ref b), .val (.int (Int32.ofNat o)), .val (.int (Int32.ofNat len)), .val .null, .val (.ref s.heap.size)] [.ref s.heap.size, .ref a])) rfl (rest := []) rfl (hb hbytes d54)
  have c16 : Steps p.tables e below (s₁.setTop (entryFrame m #[.ref a, .ref b, .int (Int32.ofNat o), .int (Int32.ofNat len), .null] 6)) (T15.setTop (mkF m 57 #[.val (.ref a), .val (.ref b), .val (.int (Int32.ofNat o)), .val (.int (Int32.ofNat len)), .val .null, .val (.ref s.heap.size)] [])) := c14.trans (st15 _ (Steps.refl _))
  have ap := apart (Or.inr ⟨_, (wk W (.laysFinal "java/lang/String" "java/lang/String" "value" "[B"))⟩) (Or.inr ⟨_, (wk W (.laysFinal "java/lang/String" "java/lang/String" "coder" "B"))⟩) f1 f2 (t₁ := .array .byte) (t₂ := .byte) (by decide +kernel) (by decide +kernel) (by decide)
  have al := X8.warmed.alike.symm.trans X15.warmed.alike
  have n7 : T11.heap[s.heap.size]? = some N := by rw [q11]; exact n1.1
  exact ⟨T15, none, _, _, _, X15, by simp, rfl, by omega, (fun _ => rfl), ⟨rfl, _, N, bl15, ((Same.refl D _).set _ (by simp)).set _ (by simp), sl15, (Cell.slots_setSlot_ne _ ap).trans sl13, n1.keep al (p15.other hne (p13.other hne n7)), n2, by rw [al.findClass]; exact n3, n4, n5, fun y c h1 h2 => p15.other h1 (p13.other h1 (by rw [q11]; exact n6 y c h2)), by rw [p15.2.2, p13.2.2, q11]; exact z8⟩, fun fs hl => c16.trans (X15.returnOut hexec hret (hb hbytes d57) hl)⟩
end New4
namespace New1
def yN : MethodName := ⟨"java/lang/String", "<init>", "([C)V"⟩
abbrev yB : ByteArray := jdk_42_method_3_code
theorem d0 : decode yB 0 = .ok (.aload_n 0, 1) := by decide +kernel
theorem d1 : decode yB 1 = .ok (.aload_n 1, 1) := by decide +kernel
theorem d2 : decode yB 2 = .ok (.iconst 0, 1) := by decide +kernel
theorem d3 : decode yB 3 = .ok (.aload_n 1, 1) := by decide +kernel
theorem d4 : decode yB 4 = .ok (.arraylength, 1) := by decide +kernel
theorem d5 : decode yB 5 = .ok (.aconst_null, 1) := by decide +kernel
theorem d6 : decode yB 6 = .ok (.invokespecial 27, 3) := by decide +kernel
theorem d9 : decode yB 9 = .ok (.return_, 1) := by decide +kernel
def site : List Cond := [New4.tab] ++ initW "java/lang/String" 27 New4.yN
def tab : Cond := tabOf yN yB 2 none site
def P (a : Addr) (D : Cell) (fV fC : Field) (b : Addr) (A : Cell) (z : Int32) (args : Array Value) (s : State) : Prop := args = #[.ref a, .ref b] ∧ Blank "java/lang/String" a D s ∧ Found "java/lang/String" "value" "[B" fV s ∧ Found "java/lang/String" "coder" "B" fC s ∧ Ch b A s ∧ StaticIs s "java/lang/String" "COMPACT_STRINGS" "Z" (.int z) ∧ ¬ z = 0 ∧ 0 < A.slots.size ∧ A.slots.size ≤ 536870912 ∧ ∀ i, i < A.slots.size → ¬ 255 < cv A i
def E (a : Addr) (D : Cell) (fV fC : Field) (A : Cell) (r : Option Value) (s u : State) : Prop := Got a D fV fC A 0 A.slots.size r s u
/-- new String(chars), not empty, no char above 255: a Latin-1 String of their low bytes -/
theorem law (l : Launch) (a : Addr) (D : Cell) (fV fC : Field) (b : Addr) (A : Cell) (z : Int32) : Law l yN 2 1 3 52 yB 2 none site (P a D fV fC b A z) (E a D fV fC A) [⟨a, fC.slot⟩, ⟨a, fV.slot⟩] 1 A.slots.size := by
  refine Law.of_walk (plainFor_of_name (by decide +kernel)) (by decide +kernel) (by decide +kernel) (by decide) (fun _ _ h => by rw [h.1]; rfl) (fun _ U U' hal hh h => ⟨h.1, h.2.1.mv hal hh, h.2.2.1.al hal, h.2.2.2.1.al hal, h.2.2.2.2.1.mv hal hh, h.2.2.2.2.2.1.there hal hh, h.2.2.2.2.2.2⟩) (fun r U U' V V' h1 hal h2 h => Got.mv r U U' V V' h1 hal h2 h) ?_
  intro p e s m args below meth c s₁ X0 hexec hbytes hml hret hlk hnm hown hh0 W hP
  obtain ⟨rfl, hB, f1, f2, hA, s1, hz, l0, l2, hp⟩ := hP
  have c1 : Steps p.tables e below (s₁.setTop (entryFrame m #[.ref a, .ref b] 2)) (s₁.setTop (mkF m 0 #[.val (.ref a), .val (.ref b)] [])) := entry rfl
  have c2 : Steps p.tables e below (s₁.setTop (entryFrame m #[.ref a, .ref b] 2)) (s₁.setTop (mkF m 6 #[.val (.ref a), .val (.ref b)] [.null, .int (Int32.ofNat A.slots.size), .int 0, .ref b, .ref a])) := c1.trans (by
    refine XS.aloadN X0.here hexec rfl (hb hbytes d0) rfl rfl ?_
    refine XS.aloadN X0.here hexec rfl (hb hbytes d1) rfl rfl ?_
    refine iconstV X0.here hexec rfl 0 (hb hbytes d2) (by decide) ?_
    refine XS.aloadN X0.here hexec rfl (hb hbytes d3) rfl rfl ?_
    refine X0.alen hexec (hA.1.mv X0.warmed.alike hh0) rfl rfl (hb hbytes d4) ?_
    refine XS.aconstNull X0.here hexec rfl (hb hbytes d5) ?_
    exact Steps.refl _)
  obtain ⟨v3, T3, X3, E3, g3⟩ := X0.callN hexec (New4.law l a D fV fC b A z 0 A.slots.size) rfl hown (wks W (initW "java/lang/String" 27 New4.yN)) (W New4.tab (by simp only [site, List.mem_cons, List.mem_append, true_or, or_true])) (W := 0) (Nat.le_of_ble_eq_true rfl) (Nat.le_of_ble_eq_true rfl) (Nat.le_refl _) (by show 0 + A.slots.size ≤ A.slots.size; omega) (g := (mkF m 6 #[.val (.ref a), .val (.ref b)] [.null, .int (Int32.ofNat A.slots.size), .int (Int32.ofNat 0), .ref b, .ref a])) rfl (by rw [hml]; rfl) c2 (argsL := [.ref b, .int (Int32.ofNat 0), .int (Int32.ofNat A.slots.size), .null]) (rest := []) rfl rfl (by show 2 * 0 + 0 ≤ _; decide) (hb hbytes d6) (⟨rfl, hB.mv X0.warmed.alike hh0, f1.al X0.warmed.alike, f2.al X0.warmed.alike, hA.mv X0.warmed.alike hh0, s1.there X0.warmed.alike hh0, hz, l0, by omega, l2, fun i hi => by rw [Nat.zero_add]; exact hp i hi⟩)
  have e0 := Got.mv _ s₁ s _ _ hh0.symm (Vm.Alike.refl _) rfl E3
  obtain rfl := e0.1
  have c4 : Steps p.tables e below (s₁.setTop (entryFrame m #[.ref a, .ref b] 2)) (T3.setTop (mkF m 9 #[.val (.ref a), .val (.ref b)] [])) := g3
  exact ⟨T3, none, _, _, _, X3, by simp, rfl, by omega, (fun _ => rfl), e0, fun fs hl => c4.trans (X3.returnOut hexec hret (hb hbytes d9) hl)⟩
theorem pays {l : Launch} {R : Room} {p : Program} {e : Env} {below : List Frame} {s : State} {sargs : Array Value} {len W : Nat} (a : Addr) (D : Cell) (fV fC : Field) (b : Addr) (A : Cell) (z : Int32) (htab : tab.before sargs s = true) (hfr : 4 ≤ R.frames) (hlo : W + 65 ≤ R.locals) :
    Back l R p e below s sargs yN len W (fun A₁ a₁ => A₁.cells + 1 ≤ R.cells ∧ A₁.slots + A.slots.size ≤ R.slots ∧ P a D fV fC b A z a₁ A₁.U) (fun A₁ _ v₁ B₁ => E a D fV fC A v₁ A₁.U B₁.U ∧ B₁.locs = A₁.locs ++ [⟨a, fC.slot⟩, ⟨a, fV.slot⟩] ∧ B₁.cells = A₁.cells + 1 ∧ B₁.slots = A₁.slots + A.slots.size) :=
  (law l a D fV fC b A z).pays htab hfr (by omega)
end New1
/-- the byte, read back as charAt reads it, is the char -/
theorem lo8_mask {x : Int32} (h0 : ¬ x < 0) (h1 : ¬ 255 < x) : lo8 x &&& 255 = x := by
  have t : ∀ k : Fin 256, lo8 (Int32.ofNat k.val) &&& 255 = Int32.ofNat k.val := by decide +kernel
  rw [Int32.lt_iff_toInt_lt] at h0 h1
  have e0 : (0 : Int32).toInt = 0 := rfl
  have e1 : (255 : Int32).toInt = 255 := rfl
  obtain ⟨k, hk⟩ : ∃ k : Nat, x.toInt = k := ⟨x.toInt.toNat, by omega⟩
  have hx : x = Int32.ofNat k := Int32.toInt_inj.mp (by rw [hk, Int32.toInt_ofNat_small (by omega)])
  rw [hx]
  exact t ⟨k, by omega⟩
end StrChars
namespace StrChars.Road
open Jvm Sem ClassFile Op Lib Jvm.Stand Jvm.Free Jvm.Free.XT
open Jvm.Lib.Cold (StaticIs)
abbrev ST : String := "java/lang/String"
/-- every table word that New1's law asks, flat -/
abbrev words : List Jvm.Cond := [.code New1.yN New1.yB 2 none, .initialized ST, .methodLink ST 27 New4.yN, .instanceMethod New4.yN,
  .code New4.yN New4.yB 6 none, .fieldLink ST 38 ST "COMPACT_STRINGS" "Z", .laysFinal ST ST "value" "[B", .fieldLink ST 9 ST "value" "[B", .laysFinal ST ST "coder" "B", .fieldLink ST 15 ST "coder" "B",
  .methodLink ST 1 Lib.objectInit, .instanceMethod Lib.objectInit, .code Lib.objectInit ⟨#[0xb1]⟩ 1 none, .methodLink ST 177 Cmp3.yN, .static Cmp3.yN, .methodLink ST 47 CodL.yN, .static CodL.yN,
  .code Cmp3.yN Cmp3.yB 6 (some (.array .byte)), .initialized U16, .arrayClass .byte, .methodLink U16 115 Cmp5.yN, .static Cmp5.yN, .code Cmp5.yN Cmp5.yB 7 (some .int), .code CodL.yN CodL.yB 2 (some .byte)]
theorem tab_of {a : Array Value} {s : State} (h : ∀ w ∈ words, w.before a s = true) : New1.tab.before a s = true := by
  have h5 : Cmp5.tab.before a s = true := unparts (wk h (.code Cmp5.yN Cmp5.yB 7 (some .int))) (wks h (.initialized Cmp5.yN.cls :: Cmp5.site))
  have hc : CodL.tab.before a s = true := unparts (wk h (.code CodL.yN CodL.yB 2 (some .byte))) (wks h (.initialized CodL.yN.cls :: CodL.site))
  have q5 : ∀ w ∈ Cmp5.tab :: words, w.before a s = true := fun w hw => (List.mem_cons.mp hw).elim (fun e => e ▸ h5) (h w)
  have h3 : Cmp3.tab.before a s = true := unparts (wk q5 (.code Cmp3.yN Cmp3.yB 6 (some (.array .byte)))) (wks q5 (.initialized Cmp3.yN.cls :: Cmp3.site))
  have q3 : ∀ w ∈ Cmp3.tab :: CodL.tab :: words, w.before a s = true := fun w hw => (List.mem_cons.mp hw).elim (fun e => e ▸ h3) fun hw => (List.mem_cons.mp hw).elim (fun e => e ▸ hc) (h w)
  have h4 : New4.tab.before a s = true := unparts (wk q3 (.code New4.yN New4.yB 6 none)) (wks q3 (.initialized New4.yN.cls :: New4.site))
  have q4 : ∀ w ∈ New4.tab :: words, w.before a s = true := fun w hw => (List.mem_cons.mp hw).elim (fun e => e ▸ h4) (h w)
  exact unparts (wk q4 (.code New1.yN New1.yB 2 none)) (wks q4 (.initialized New1.yN.cls :: New1.site))
/-- the words ride from the start Z to the walk's own state -/
theorem moved {Z s : State} {a0 args : Array Value} (hZ : Z.Warmed39 s.vm) (hw : ∀ d ∈ words, d.before a0 Z = true) : ∀ d ∈ words, d.before args s = true := fun d hd => by
  have q := hw d hd
  have t : ∀ d ∈ words, d = .arrayClass .byte ∨ (d.onTables && d.keepsFace) = true := by decide +kernel
  rcases t d hd with rfl | t
  · exact RoadKit.mvA hZ q
  · exact RoadKit.mv hZ q t
/-- WHAT COMES BACK, over the tables of the start Z: h the heap at the call, h' behind it -/
def Q (Z : State) (x : Addr) (A : Cell) (h : Heap) (v : Option Value) (h' : Heap) (L : List Loc) : Prop := v = none ∧ (∀ y ∈ L, y.base = x) ∧ RoadKit.Keep h h' [x] ∧ h'.size = h.size + 1 ∧ RoadKit.Exa Z h' x ST ∧ RoadKit.Fld Z h' x ST "value" "[B" (.ref h.size) ∧ RoadKit.Fld Z h' x ST "coder" "B" (.int 0) ∧
  (∃ V : Cell, RoadKit.Arr Z h' h.size V .byte ∧ V.vm = .none ∧ Z.vm.findClass "[B" = some V.cls ∧ V.slots.size = A.slots.size ∧ ∀ j, j < A.slots.size → V.slots[j]? = some (.int (lo8 (cv A j)))) ∧
  ∀ (O n d : String) (w : Value), RoadKit.Fld Z h x O n d w → RoadKit.slotOf Z O n d ≠ RoadKit.slotOf Z ST "value" "[B" → RoadKit.slotOf Z O n d ≠ RoadKit.slotOf Z ST "coder" "B" → RoadKit.Fld Z h' x O n d w
/-- **new String(chars) AT A CALL, IN THE ROAD'S FORM**: for specialBack behind newO: x the fresh String, b the char[] with the cell A -/
theorem back {p : Program} {l : Launch} {e : Env} {R : Room} {s : State} {args : Array Value} {below : List Frame} {len W : Nat} {Z : State} {a0 : Array Value} {h : Heap} (hZ : Z.Warmed39 s.vm) (hw : ∀ d ∈ words, d.before a0 Z = true) {kI : Nat} (wi : (Jvm.Cond.instantiable ST kI).before a0 Z = true)
    {x b : Addr} {A : Cell} {z : Int32} {v0 c0 : Value} (E : RoadKit.Exa Z h x ST) (V : RoadKit.Fld Z h x ST "value" "[B" v0) (C : RoadKit.Fld Z h x ST "coder" "B" c0) (K : RoadKit.Arr Z h b A .char) (hty : Typed .char A) (S : RoadKit.Sta Z h ST "COMPACT_STRINGS" "Z" (.int z)) (hz : ¬ z = 0)
    (l0 : 0 < A.slots.size) (l2 : A.slots.size ≤ 536870912) (hp : ∀ i, i < A.slots.size → ¬ 255 < cv A i) (hfr : 4 ≤ R.frames) (hlo : W + 65 ≤ R.locals) :
    Back l R p e below s args New1.yN len W (fun P a => a = #[.ref x, .ref b] ∧ P.U.heap = h ∧ P.cells + 1 ≤ R.cells ∧ P.slots + A.slots.size ≤ R.slots)
      (fun P _ v B => ∃ L, Q Z x A h v B.U.heap L ∧ B.locs = P.locs ++ L ∧ B.cells = P.cells + 1 ∧ B.slots = P.slots + A.slots.size) := by
  intro m meth c P g ig mk a X hg hsize hdg hW hn hp'
  obtain ⟨rfl, rfl, r1, r2⟩ := hp'
  have al : Z.vm.Alike P.U.vm := hZ.alike.trans X.warmed.alike
  obtain ⟨D, cfV, kV, iV, fV, hD, gV, stV, knV, obV, asV, slV⟩ := id V
  obtain ⟨D', cfC, kC, iC, fC, hD', gC, stC, -, -, asC, slC⟩ := id C
  cases hD.symm.trans hD'
  obtain ⟨D2, kD, e1, e2, e3, e4, e5⟩ := id E
  cases hD.symm.trans e1
  obtain ⟨c2, k2, i1, i2, i3, -⟩ := Cond.instantiable_spec wi
  cases e2.symm.trans i1
  cases e3.symm.trans i2
  obtain ⟨kU, u1, u2⟩ := al.2.2 _ _ e3
  have hB : Blank ST x D P.U := ⟨hD, ⟨knV, fun q hq => by rw [hq] at obV; cases obV⟩, by rw [al.findClass]; exact e2, kU, u1, by rw [u2]; exact i3, by rw [u2]; exact e5 i3⟩
  have F1 : Found ST "value" "[B" fV P.U := ⟨SBG.found_only al ⟨cfV, kV, iV, gV⟩, stV⟩
  have F2 : Found ST "coder" "B" fC P.U := ⟨SBG.found_only al ⟨cfC, kC, iC, gC⟩, stC⟩
  have hA : Ch b A P.U := ⟨⟨K.1, State.isArrayOf_alike al K.2.1, K.2.2, by omega⟩, hty⟩
  have hS : StaticIs P.U ST "COMPACT_STRINGS" "Z" (.int z) := by
    obtain ⟨cfS, iS, kS, fS, st, cS, t1, t2, t3, t4, t5, t6, t7⟩ := S
    exact StaticIs.there (s := { Z with heap := P.U.heap }) ⟨cfS, iS, kS, fS, st, cS, t1, t2, t3, t4, t5, (fun q => by rw [q] at t6; cases t6), t7⟩ al rfl
  obtain ⟨v, B, X', ⟨⟨hv, E', V', q1, q2, q3, q4, q5, q6, q7, q8, q9, q10, q11⟩, hl, hc, hs⟩, st⟩ := New1.pays x D fV fC b A z (tab_of (moved hZ hw)) hfr hlo m meth c P g ig mk _ X hg hsize hdg hW hn ⟨r1, r2, rfl, hB, F1, F2, hA, hS, hz, l0, l2, hp⟩
  have al' : Z.vm.Alike B.U.vm := hZ.alike.trans X'.warmed.alike
  have hsz : E'.slots.size = D.slots.size := by
    obtain ⟨-, -, -, kB, w1, w2, w3⟩ := q1
    obtain ⟨kB', y1, y2⟩ := al'.2.2 _ _ e3
    rw [q2.2.1] at w1
    cases w1.symm.trans y1
    rw [w3, e5 i3, y2]
  refine ⟨v, B, X', ⟨_, ⟨hv, ?_, ⟨by omega, fun y cy hy hn' => q10 y cy (by simpa using hn') hy, fun y cy hy => ?_⟩, q11, ⟨E', _, q1.1, by rw [q2.2.1]; exact e2, by rw [q2.2.1]; exact e3, by rw [q2.1]; exact obV, fun _ => by rw [hsz]; exact e5 i3⟩,
    ⟨E', cfV, kV, iV, fV, q1.1, gV, stV, by rw [q2.1]; exact knV, by rw [q2.1]; exact obV, by rw [q2.2.1]; exact asV, q3⟩, ⟨E', cfC, kC, iC, fC, q1.1, gC, stC, by rw [q2.1]; exact knV, by rw [q2.1]; exact obV, by rw [q2.2.1]; exact asC, q4⟩,
    ⟨V', ⟨q5.1, State.isArrayOf_alike al'.symm q5.2.1, q5.2.2.1⟩, q6, by rw [← al'.findClass]; exact q7, q8, fun j hj => by have := q9 j hj; rwa [Nat.zero_add] at this⟩, fun O n d w F n1 n2 => ?_⟩, hl, hc, hs⟩, st⟩
  · intro y hy
    simp only [List.mem_cons, List.not_mem_nil, or_false] at hy
    rcases hy with rfl | rfl <;> rfl
  · by_cases q : y = x
    · subst q
      cases hD.symm.trans hy
      exact ⟨E', q1.1, q2.2.1, q2.1, hsz⟩
    · exact ⟨cy, q10 y cy q hy, rfl, rfl, rfl⟩
  · obtain ⟨D3, cf, k, i, f, g1, g2, g3, g4, g5, g6, g7⟩ := F
    cases hD.symm.trans g1
    simp only [RoadKit.slotOf, g2, gV, gC, Option.map_some, Option.getD_some] at n1 n2
    exact ⟨E', cf, k, i, f, q1.1, g2, g3, by rw [q2.1]; exact g4, by rw [q2.1]; exact g5, by rw [q2.2.1]; exact g6, by rw [q2.2.2 f.slot (by simp [n1, n2])]; exact g7⟩
end StrChars.Road
namespace StrChars.Road
open Jvm Sem ClassFile Op Lib Jvm.Stand Jvm.Free Jvm.Free.XT
/-- WHAT COMES BACK, the byte[] as a list of values -/
def QA (Z : State) (x : Addr) (zn : Int32) (cs : List Int32) (h : Heap) (v : Option Value) (h' : Heap) (L : List Loc) : Prop := v = none ∧ (∀ y ∈ L, y.base = x) ∧ RoadKit.Keep h h' [x] ∧ h'.size = h.size + 1 ∧ RoadKit.Exa Z h' x ST ∧ RoadKit.Fld Z h' x ST "value" "[B" (.ref h.size) ∧ RoadKit.Fld Z h' x ST "coder" "B" (.int 0) ∧
  (∃ kb, Z.vm.findClass "[B" = some kb ∧ RoadKit.Arv Z h' h.size kb .byte zn (cs.map fun c => .int (lo8 c)) (.int 0)) ∧
  ∀ (O n d : String) (w : Value), RoadKit.Fld Z h x O n d w → RoadKit.slotOf Z O n d ≠ RoadKit.slotOf Z ST "value" "[B" → RoadKit.slotOf Z O n d ≠ RoadKit.slotOf Z ST "coder" "B" → RoadKit.Fld Z h' x O n d w
/-- **new String(chars) AT A CALL, THE ARRAYS AS LISTS**: the char[] at b holds cs, not empty, no char above 255 -/
theorem backArv {p : Program} {l : Launch} {e : Env} {R : Room} {s : State} {args : Array Value} {below : List Frame} {len W : Nat} {Z : State} {a0 : Array Value} {h : Heap} (hZ : Z.Warmed39 s.vm) (hw : ∀ d ∈ words, d.before a0 Z = true) {kI : Nat} (wi : (Jvm.Cond.instantiable ST kI).before a0 Z = true)
    {x b : Addr} {k : ClassId} {zn z : Int32} {cs : List Int32} {dv v0 c0 : Value} (E : RoadKit.Exa Z h x ST) (V : RoadKit.Fld Z h x ST "value" "[B" v0) (C : RoadKit.Fld Z h x ST "coder" "B" c0) (K : RoadKit.Arv Z h b k .char zn (cs.map Value.int) dv) (S : RoadKit.Sta Z h ST "COMPACT_STRINGS" "Z" (.int z)) (hz : ¬ z = 0)
    (hlen : zn.toNatClampNeg = cs.length) (h0 : 0 < cs.length) (hbig : cs.length ≤ 536870912) (hall : ∀ c ∈ cs, ¬ 255 < c) (hfr : 4 ≤ R.frames) (hlo : W + 65 ≤ R.locals) :
    Back l R p e below s args New1.yN len W (fun P a => a = #[.ref x, .ref b] ∧ P.U.heap = h ∧ P.cells + 1 ≤ R.cells ∧ P.slots + cs.length ≤ R.slots)
      (fun P _ v B => ∃ L, QA Z x zn cs h v B.U.heap L ∧ B.locs = P.locs ++ L ∧ B.cells = P.cells + 1 ∧ B.slots = P.slots + cs.length) := by
  obtain ⟨A, K1, K2, K3, K4, K5, K6⟩ := K
  have e : A.slots.size = cs.length := K3.trans hlen
  have hat : ∀ (i : Nat) (hi : i < cs.length), A.slots[i]? = some (.int cs[i]) := fun i hi => by rw [K5 i (by omega)]; simp [List.getD_eq_getElem?_getD, hi]
  have hcv : ∀ (i : Nat) (hi : i < cs.length), cv A i = cs[i] := fun i hi => by unfold cv; rw [hat i hi]
  have hty : Typed .char A := fun i v hv => by
    have hi : i < A.slots.size := (Array.getElem?_eq_some_iff.mp hv).1
    have q := K5 i hi
    rw [hv] at q
    rw [Option.some.inj q]
    exact K6 i hi
  refine Back.mono (back hZ hw wi E V C K1 hty S hz (by omega) (by omega) (fun i hi => by rw [hcv i (by omega)]; exact hall _ (List.getElem_mem _)) hfr hlo) (fun P a hp => ⟨hp.1, hp.2.1, hp.2.2.1, by rw [e]; exact hp.2.2.2⟩) (fun P a v B hp hq => ?_)
  obtain ⟨L, ⟨q1, q2, q3, q4, q5, q6, q7, ⟨V', v1, v2, v3, v4, v5⟩, q9⟩, hl, hc, hs⟩ := hq
  refine ⟨L, ⟨q1, q2, q3, q4, q5, q6, q7, ⟨V'.cls, v3, V', v1, rfl, by rw [v4, e, hlen], K4, fun i hi => ?_, fun i hi => ?_⟩, q9⟩, hl, hc, by rw [hs, e]⟩
  · have hi' : i < cs.length := by omega
    rw [v5 i (by omega), hcv i hi']; simp [List.getD_eq_getElem?_getD, hi']
  · have hi' : i < cs.length := by omega
    simp only [List.getD_eq_getElem?_getD, List.getElem?_map, List.getElem?_eq_getElem hi', Option.map_some, Option.getD_some]
    exact fits_lo8 _
end StrChars.Road
namespace StrChars.Road
open Jvm Sem ClassFile Op Lib Jvm.Stand Jvm.Free Jvm.Free.XT
/-- WHAT COMES BACK, in the writer's own shape -/
def QV (Z : State) (x : Addr) (N : Int32) (bs : List Int32) (h : Heap) (n0 : Nat) (v : Option Value) (h' : Heap) (L : List Loc) : Prop := v = none ∧ RoadKit.Fr n0 L ∧ RoadKit.Keep h h' [x] ∧ RoadKit.Exa Z h' x ST ∧ RoadKit.Fld Z h' x ST "coder" "B" (.int 0) ∧
  ∃ (t : Addr) (kb : ClassId), n0 ≤ t ∧ h.size ≤ t ∧ ¬ t = x ∧ RoadKit.Fld Z h' x ST "value" "[B" (.ref t) ∧ RoadKit.Arv Z h' t kb .byte N (bs.map Value.int) (.int 0)
/-- **new String(chars) AT A CALL, FOR THE WRITER**: a char[] of n known ints, each 0 to 255 -/
theorem backV {p : Program} {l : Launch} {e : Env} {R : Room} {s : State} {args : Array Value} {below : List Frame} {len W : Nat} {Z : State} {a0 : Array Value} {h : Heap} (hZ : Z.Warmed39 s.vm) (hw : ∀ d ∈ words, d.before a0 Z = true) {kI : Nat} (wi : (Jvm.Cond.instantiable ST kI).before a0 Z = true)
    {x b : Addr} {kC : ClassId} {cs bs : List Int32} {d v0 c0 : Value} {z N : Int32} {n n0 : Nat} (hx0 : n0 ≤ x) (hh0 : n0 ≤ h.size) (E : RoadKit.Exa Z h x ST) (V : RoadKit.Fld Z h x ST "value" "[B" v0) (C : RoadKit.Fld Z h x ST "coder" "B" c0) (K : RoadKit.Arv Z h b kC .char N (cs.map Value.int) d) (S : RoadKit.Sta Z h ST "COMPACT_STRINGS" "Z" (.int z)) (hz : ¬ z = 0)
    (hn : cs.length = n) (hN : N = Int32.ofNat n) (l0 : 0 < n) (l2 : n ≤ 4000) (hp : ∀ c ∈ cs, ¬ c < 0 ∧ ¬ (255 : Int32) < c) (hb : bs = cs.map (fun c => c.toInt8.toInt32)) (hfr : 4 ≤ R.frames) (hlo : W + 65 ≤ R.locals) :
    Back l R p e below s args (⟨"java/lang/String", "<init>", "([C)V"⟩ : MethodName) len W (fun P a => a = #[.ref x, .ref b] ∧ P.U.heap = h ∧ P.cells + 1 ≤ R.cells ∧ P.slots + n ≤ R.slots)
      (fun P _ v B => ∃ L, QV Z x N bs h n0 v B.U.heap L ∧ B.locs = P.locs ++ L ∧ B.cells = P.cells + 1 ∧ B.slots = P.slots + n) := by
  subst hn hN hb
  refine Back.mono (backArv hZ hw wi E V C K S hz (n32 (by omega)) l0 (by omega) (fun c hc => (hp c hc).2) hfr hlo) (fun P a hp => hp) (fun P a v B hp hq => ?_)
  obtain ⟨L, ⟨q1, q2, q3, q4, q5, q6, q7, ⟨kb, v1, v2⟩, q9⟩, hl, hc, hs⟩ := hq
  exact ⟨L, ⟨q1, fun y hy => by rw [q2 y hy]; exact hx0, q3, q5, q7, h.size, kb, hh0, Nat.le_refl _, Nat.ne_of_gt E.lt, q6, by rw [List.map_map]; exact v2⟩, hl, hc, hs⟩
end StrChars.Road
namespace StrChars
open Jvm Sem ClassFile Op Lib Jvm.Stand Jvm.Free.XT Jvm.Free.ALB Jvm.Free.JM Jvm.Free
open Jvm.Lib.Cold (StaticIs)
def hi8 (x : Int32) : Int32 := lo8 (x >>> ((8 : Int32) &&& 31))
/-- what StringUTF16.getChar makes of two bytes -/
def pairCh (u v : Int32) : Int32 := (((u &&& 255) <<< ((0 : Int32) &&& 31)) ||| ((v &&& 255) <<< ((8 : Int32) &&& 31))).toUInt32.toUInt16.toUInt32.toInt32
theorem lo8_and (x : Int32) : (lo8 x &&& 255).toBitVec.toNat = x.toBitVec.toNat % 256 := by
  have h : (lo8 x).toBitVec = (x.toBitVec.signExtend 8).signExtend 32 := by rw [lo8, Int8.toBitVec_toInt32, Int32.toBitVec_toInt8]
  rw [Int32.toBitVec_and, BitVec.toNat_and, h]
  have e : ((x.toBitVec.signExtend 8).signExtend 32).toNat % 256 = x.toBitVec.toNat % 256 := by
    rw [BitVec.toNat_signExtend]
    have hlt := x.toBitVec.isLt
    simp only [BitVec.toNat_setWidth, BitVec.toNat_signExtend]
    split <;> split <;> omega
  rw [← e]
  exact Nat.and_two_pow_sub_one_eq_mod _ 8
theorem pair_says {c : Int32} (h0 : ¬ c < 0) (h1 : ¬ 65535 < c) : pairCh (lo8 c) (hi8 c) = c := by
  rw [Int32.lt_iff_toInt_lt] at h0 h1
  have e0 : (0 : Int32).toInt = 0 := rfl
  have e1 : (65535 : Int32).toInt = 65535 := rfl
  have hc : c.toInt = c.toBitVec.toNat := by
    have := c.toBitVec.isLt
    have e : c.toInt = c.toBitVec.toInt := rfl
    rw [e] at h0 h1
    rw [e]
    rw [BitVec.toInt_eq_toNat_cond] at h0 h1 ⊢
    split at h0 <;> split <;> omega
  have hn : c.toBitVec.toNat < 65536 := by omega
  have a1 := lo8_and c
  have a2 : (hi8 c &&& 255).toBitVec.toNat = c.toBitVec.toNat / 256 := by
    rw [hi8, lo8_and]
    have e : ((8 : Int32) &&& 31) = 8 := by decide
    rw [e, Int32.toBitVec_shiftRight]
    have e2 : ((8 : Int32).toBitVec.smod 32) = 8#32 := by decide
    rw [e2, BitVec.sshiftRight_eq', BitVec.toNat_sshiftRight_of_msb_false (by rw [BitVec.msb_eq_false_iff_two_mul_lt]; omega)]
    show c.toBitVec.toNat >>> 8 % 256 = _
    rw [Nat.shiftRight_eq_div_pow]
    omega
  unfold pairCh
  apply Int32.toBitVec_inj.mp
  apply BitVec.eq_of_toNat_eq
  have f0 : ((0 : Int32) &&& 31) = 0 := by decide
  have f8 : ((8 : Int32) &&& 31) = 8 := by decide
  rw [f0, f8]
  have g : (((lo8 c &&& 255) <<< (0 : Int32)) ||| ((hi8 c &&& 255) <<< (8 : Int32))).toBitVec.toNat = c.toBitVec.toNat := by
    rw [Int32.toBitVec_or, Int32.toBitVec_shiftLeft, Int32.toBitVec_shiftLeft]
    have s0 : ((0 : Int32).toBitVec.smod 32) = 0#32 := by decide
    have s8 : ((8 : Int32).toBitVec.smod 32) = 8#32 := by decide
    rw [s0, s8, BitVec.toNat_or]
    simp only [BitVec.shiftLeft_eq', BitVec.toNat_shiftLeft, a1, a2]
    show (c.toBitVec.toNat % 256) <<< 0 % 2 ^ 32 ||| (c.toBitVec.toNat / 256) <<< 8 % 2 ^ 32 = _
    rw [Nat.shiftLeft_zero, Nat.mod_eq_of_lt (show c.toBitVec.toNat % 256 < 2 ^ 32 by omega), Nat.mod_eq_of_lt (show (c.toBitVec.toNat / 256) <<< 8 < 2 ^ 32 by rw [Nat.shiftLeft_eq]; omega), Nat.or_comm, ← Nat.shiftLeft_add_eq_or_of_lt (by omega), Nat.shiftLeft_eq]
    omega
  show BitVec.toNat (((((lo8 c &&& 255) <<< (0 : Int32)) ||| ((hi8 c &&& 255) <<< (8 : Int32))).toBitVec.setWidth 16).setWidth 32) = _
  rw [BitVec.toNat_setWidth, BitVec.toNat_setWidth, g]
  omega
end StrChars
namespace StrChars
open Jvm Sem ClassFile Op Lib Jvm.Stand Jvm.Free.XT Jvm.Free.ALB Jvm.Free.JM Jvm.Free
open Jvm.Lib.Cold (StaticIs)
/-- the array's cell V codes the n chars f 0 .. f (n - 1) by the coder cd, as the JDK does: coder 1 just where some char is above 255 -/
def Cod (cd : Int32) (n : Nat) (f : Nat → Int32) (V : Cell) : Prop := (cd = 0 ∧ V.slots.size = n ∧ ∀ j, j < n → V.slots[j]? = some (.int (lo8 (f j))) ∧ ¬ 255 < f j) ∨ (cd = 1 ∧ V.slots.size = 2 * n ∧ (∀ j, j < n → V.slots[2 * j]? = some (.int (lo8 (f j))) ∧ V.slots[2 * j + 1]? = some (.int (hi8 (f j)))) ∧ ∃ j, j < n ∧ 255 < f j)
/-- **x is a String of the n chars f 0 .. f (n - 1)**, Latin-1 or UTF-16; its array at t has the cell V -/
def Txt (x t : Addr) (V : Cell) (cd : Int32) (n : Nat) (f : Nat → Int32) (U : State) : Prop := Exact "java/lang/String" x U ∧ Has x "java/lang/String" "value" "[B" (.ref t) U ∧ Has x "java/lang/String" "coder" "B" (.int cd) U ∧ XT.Arr .byte t V U ∧ Cod cd n f V ∧ ∀ j, j < n → ¬ f j < 0 ∧ ¬ 65535 < f j
theorem Txt.mv {x t : Addr} {V : Cell} {cd : Int32} {n : Nat} {f : Nat → Int32} {U U' : State} (h : Txt x t V cd n f U) (hal : U.vm.Alike U'.vm) (hh : U'.heap = U.heap) : Txt x t V cd n f U' := ⟨h.1.mv hal hh, h.2.1.mv hal hh, h.2.2.1.mv hal hh, h.2.2.2.1.mv hal hh, h.2.2.2.2⟩
end StrChars
namespace StrChars.Road
open Jvm Sem ClassFile Op Lib Jvm.Stand Jvm.Free Jvm.Free.XT
open Jvm.Lib.Cold (StaticIs)
theorem consq {a : Array Value} {s : State} {c : Jvm.Cond} {L : List Jvm.Cond} (h0 : c.before a s = true) (h : ∀ w ∈ L, w.before a s = true) : ∀ w ∈ c :: L, w.before a s = true := fun w hw => (List.mem_cons.mp hw).elim (fun e => e ▸ h0) (h w)
/-- the bytes of the chars cs, low before high -/
def wideBytes : List Int32 → List Value
  | [] => []
  | c :: cs => .int (lo8 c) :: .int (hi8 c) :: wideBytes cs
theorem wide_lo (d : Value) : ∀ (cs : List Int32) (j : Nat), j < cs.length → (wideBytes cs).getD (2 * j) d = .int (lo8 (cs.getD j 0))
  | [], j, h => absurd h (Nat.not_lt_zero j)
  | c :: cs, 0, _ => rfl
  | c :: cs, j + 1, h => by
    have q := wide_lo d cs j (by simpa using h)
    rw [show 2 * (j + 1) = 2 * j + 1 + 1 from by omega]
    simpa [wideBytes] using q
theorem wide_hi (d : Value) : ∀ (cs : List Int32) (j : Nat), j < cs.length → (wideBytes cs).getD (2 * j + 1) d = .int (hi8 (cs.getD j 0))
  | [], j, h => absurd h (Nat.not_lt_zero j)
  | c :: cs, 0, _ => rfl
  | c :: cs, j + 1, h => by
    have q := wide_hi d cs j (by simpa using h)
    rw [show 2 * (j + 1) + 1 = 2 * j + 1 + 1 + 1 from by omega]
    simpa [wideBytes] using q
theorem low_at (d : Value) (cs : List Int32) (j : Nat) (h : j < cs.length) : (cs.map fun c => Value.int (lo8 c)).getD j d = .int (lo8 (cs.getD j 0)) := by
  simp [List.getD_eq_getElem?_getD, h]
/-- an array of N2 bytes vs codes the chars cs by the coder cd -/
def CodA (cs : List Int32) (cd N2 : Int32) (vs : List Value) : Prop := (cd = 0 ∧ N2 = Int32.ofNat cs.length ∧ vs = (cs.map fun c => Value.int (lo8 c)) ∧ ∀ c ∈ cs, ¬ 255 < c) ∨ (cd = 1 ∧ N2 = Int32.ofNat (2 * cs.length) ∧ vs = wideBytes cs ∧ ∃ c ∈ cs, 255 < c)
theorem CodA.cod {cs : List Int32} {cd N2 : Int32} {vs : List Value} {V : Cell} (h : CodA cs cd N2 vs) (hn : 2 * cs.length < 2 ^ 31) (hs : V.slots.size = N2.toNatClampNeg) (hv : RoadKit.Has V vs (.int 0)) : Cod cd cs.length (fun j => cs.getD j 0) V := by
  rcases h with ⟨rfl, rfl, rfl, h⟩ | ⟨rfl, rfl, rfl, c, hc, hw⟩
  · rw [n32 (by omega)] at hs
    exact Or.inl ⟨rfl, hs, fun j hj => ⟨by rw [hv j (by omega), low_at _ _ _ hj], by
      have e : cs.getD j 0 = cs[j] := by simp [List.getD_eq_getElem?_getD, hj]
      show ¬ 255 < cs.getD j 0
      rw [e]; exact h _ (List.getElem_mem _)⟩⟩
  · rw [n32 (by omega)] at hs
    obtain ⟨j, hj, rfl⟩ := List.getElem_of_mem hc
    exact Or.inr ⟨rfl, hs, fun j hj => ⟨by rw [hv _ (by omega), wide_lo _ _ _ hj], by rw [hv _ (by omega), wide_hi _ _ _ hj]⟩, j, hj, by
      have e : cs.getD j 0 = cs[j] := by simp [List.getD_eq_getElem?_getD, hj]
      show 255 < cs.getD j 0
      rw [e]; exact hw⟩
/-- an object of exactly java/lang/String, its two fields found: as the laws ask it -/
theorem strObj {Z U : State} {a0 : Array Value} {kI : Nat} (wi : (Jvm.Cond.instantiable ST kI).before a0 Z = true) (al : Z.vm.Alike U.vm) {x : Addr} {v0 c0 : Value} (E : RoadKit.Exa Z U.heap x ST) (V : RoadKit.Fld Z U.heap x ST "value" "[B" v0) (C : RoadKit.Fld Z U.heap x ST "coder" "B" c0) :
    ∃ (D : Cell) (fV fC : Field), Blank ST x D U ∧ Found ST "value" "[B" fV U ∧ Found ST "coder" "B" fC U ∧ D.slots[fV.slot]? = some v0 ∧ D.slots[fC.slot]? = some c0 ∧ RoadKit.slotOf Z ST "value" "[B" = fV.slot ∧ RoadKit.slotOf Z ST "coder" "B" = fC.slot := by
  obtain ⟨D, cfV, kV, iV, fV, hD, gV, stV, knV, obV, asV, slV⟩ := V
  obtain ⟨D', cfC, kC, iC, fC, hD', gC, stC, -, -, asC, slC⟩ := C
  cases hD.symm.trans hD'
  obtain ⟨D2, kD, e1, e2, e3, e4, e5⟩ := E
  cases hD.symm.trans e1
  obtain ⟨c2, k2, i1, i2, i3, -⟩ := Cond.instantiable_spec wi
  cases e2.symm.trans i1
  cases e3.symm.trans i2
  obtain ⟨kU, u1, u2⟩ := al.2.2 _ _ e3
  exact ⟨D, fV, fC, ⟨hD, ⟨knV, fun q hq => by rw [hq] at obV; cases obV⟩, by rw [al.findClass]; exact e2, kU, u1, by rw [u2]; exact i3, by rw [u2]; exact e5 i3⟩, ⟨SBG.found_only al ⟨cfV, kV, iV, gV⟩, stV⟩, ⟨SBG.found_only al ⟨cfC, kC, iC, gC⟩, stC⟩, slV, slC, by simp [RoadKit.slotOf, gV], by simp [RoadKit.slotOf, gC]⟩
theorem sta_is {Z U : State} (al : Z.vm.Alike U.vm) {C n d : String} {v : Value} (S : RoadKit.Sta Z U.heap C n d v) : StaticIs U C n d v := by
  obtain ⟨cfS, iS, kS, fS, st, cS, t1, t2, t3, t4, t5, t6, t7⟩ := S
  exact StaticIs.there (s := { Z with heap := U.heap }) ⟨cfS, iS, kS, fS, st, cS, t1, t2, t3, t4, t5, (fun q => by rw [q] at t6; cases t6), t7⟩ al rfl
end StrChars.Road
namespace StrChars
open Jvm Sem ClassFile Op Lib Jvm.Stand Jvm.Free.XT Jvm.Free.ALB Jvm.Free.JM Jvm.Free
open Jvm.Lib.Cold (StaticIs)
/-- what place i of a byte[]'s cell holds -/
def yv (A : Cell) (i : Nat) : Int32 := match A.slots[i]? with | some (.int x) => x | _ => 0
theorem yv_get {a : Addr} {A : Cell} {U : State} (h : XT.Arr .byte a A U) (ht : Typed .byte A) {i : Nat} (hi : i < A.slots.size) : A.slots[i]? = some (.int (yv A i)) := by
  have e := Array.getElem?_eq_getElem hi
  have f := ht i _ e
  unfold yv; rw [e]
  generalize A.slots[i] = v at f
  cases v <;> simp [fits] at f ⊢
/-- the two arrays are equal, place for place -/
def EqC (A B : Cell) : Prop := A.slots.size = B.slots.size ∧ ∀ i, i < A.slots.size → yv A i = yv B i
/-- a boolean that says whether p -/
def Says01 (q : Prop) (r : Option Value) (s u : State) : Prop := ∃ v : Int32, r = some (.int v) ∧ u.heap = s.heap ∧ ((v = 1 ∧ q) ∨ (v = 0 ∧ ¬ q))
theorem Says01.mv {q : Prop} : ∀ r (U U' V V' : State), U'.heap = U.heap → V.vm.Alike V'.vm → V'.heap = V.heap → Says01 q r U V → Says01 q r U' V' :=
  fun r U U' V V' h1 _ h2 ⟨v, a, b, c⟩ => ⟨v, a, by rw [h1, h2]; exact b, c⟩
namespace LEq
def yN : MethodName := ⟨"java/lang/StringLatin1", "equals", "([B[B)Z"⟩
abbrev yB : ByteArray := jdk_43_method_13_code
theorem d0 : decode yB 0 = .ok (.aload_n 0, 1) := by decide +kernel
theorem d1 : decode yB 1 = .ok (.arraylength, 1) := by decide +kernel
theorem d2 : decode yB 2 = .ok (.aload_n 1, 1) := by decide +kernel
theorem d3 : decode yB 3 = .ok (.arraylength, 1) := by decide +kernel
theorem d4 : decode yB 4 = .ok (.if_icmp (.ne) 30, 3) := by decide +kernel
theorem d7 : decode yB 7 = .ok (.iconst 0, 1) := by decide +kernel
theorem d8 : decode yB 8 = .ok (.istore_n 2, 1) := by decide +kernel
theorem d9 : decode yB 9 = .ok (.iload_n 2, 1) := by decide +kernel
theorem d10 : decode yB 10 = .ok (.aload_n 0, 1) := by decide +kernel
theorem d11 : decode yB 11 = .ok (.arraylength, 1) := by decide +kernel
theorem d12 : decode yB 12 = .ok (.if_icmp (.ge) 20, 3) := by decide +kernel
theorem d15 : decode yB 15 = .ok (.aload_n 0, 1) := by decide +kernel
theorem d16 : decode yB 16 = .ok (.iload_n 2, 1) := by decide +kernel
theorem d17 : decode yB 17 = .ok (.baload, 1) := by decide +kernel
theorem d18 : decode yB 18 = .ok (.aload_n 1, 1) := by decide +kernel
theorem d19 : decode yB 19 = .ok (.iload_n 2, 1) := by decide +kernel
theorem d20 : decode yB 20 = .ok (.baload, 1) := by decide +kernel
theorem d21 : decode yB 21 = .ok (.if_icmp (.eq) 5, 3) := by decide +kernel
theorem d24 : decode yB 24 = .ok (.iconst 0, 1) := by decide +kernel
theorem d25 : decode yB 25 = .ok (.ireturn, 1) := by decide +kernel
theorem d26 : decode yB 26 = .ok (.iinc 2 1, 3) := by decide +kernel
theorem d29 : decode yB 29 = .ok (.goto (-20), 3) := by decide +kernel
theorem d32 : decode yB 32 = .ok (.iconst 1, 1) := by decide +kernel
theorem d33 : decode yB 33 = .ok (.ireturn, 1) := by decide +kernel
theorem d34 : decode yB 34 = .ok (.iconst 0, 1) := by decide +kernel
theorem d35 : decode yB 35 = .ok (.ireturn, 1) := by decide +kernel
def site : List Cond := []
def tab : Cond := tabOf yN yB 3 (some .boolean) site
def P (a : Addr) (A : Cell) (b : Addr) (B : Cell) (args : Array Value) (s : State) : Prop := args = #[.ref a, .ref b] ∧ XT.Arr .byte a A s ∧ Typed .byte A ∧ XT.Arr .byte b B s ∧ Typed .byte B
/-- whether two byte[] are equal, place for place -/
theorem law (l : Launch) (a : Addr) (A : Cell) (b : Addr) (B : Cell) : Law l yN 2 2 0 0 yB 3 (some .boolean) site (P a A b B) (Says01 (EqC A B)) [] 0 0 := by
  refine Law.of_walk (plainFor_of_name (by decide +kernel)) (by decide +kernel) (by decide +kernel) (by decide) (fun _ _ h => by rw [h.1]; rfl) (fun _ U U' hal hh h => ⟨h.1, h.2.1.mv hal hh, h.2.2.1, h.2.2.2.1.mv hal hh, h.2.2.2.2⟩) (fun r U U' V V' h1 hal h2 h => Says01.mv r U U' V V' h1 hal h2 h) ?_
  intro p e s m args below meth c s₁ X0 hexec hbytes hml hret hlk hnm hown hh0 W hP
  obtain ⟨rfl, hA, tA, hB, tB⟩ := hP
  have a31 := hA.2.2.2
  have b31 := hB.2.2.2
  have hA0 := hA.mv X0.warmed.alike hh0
  have hB0 := hB.mv X0.warmed.alike hh0
  have c1 : Steps p.tables e below (s₁.setTop (entryFrame m #[.ref a, .ref b] 3)) (s₁.setTop (mkF m 0 #[.val (.ref a), .val (.ref b), .unset] [])) := entry rfl
  have c2 : Steps p.tables e below (s₁.setTop (entryFrame m #[.ref a, .ref b] 3)) (s₁.setTop (mkF m 4 #[.val (.ref a), .val (.ref b), .unset] [.int (Int32.ofNat B.slots.size), .int (Int32.ofNat A.slots.size)])) := c1.trans (by
    refine XS.aloadN X0.here hexec rfl (hb hbytes d0) rfl rfl ?_
    refine X0.alen hexec hA0 rfl rfl (hb hbytes d1) ?_
    refine XS.aloadN X0.here hexec rfl (hb hbytes d2) rfl rfl ?_
    refine X0.alen hexec hB0 rfl rfl (hb hbytes d3) ?_
    exact Steps.refl _)
  by_cases hs : A.slots.size = B.slots.size
  · have c3 : Steps p.tables e below (s₁.setTop (entryFrame m #[.ref a, .ref b] 3)) (s₁.setTop (mkF m 9 #[.val (.ref a), .val (.ref b), .val (.int 0)] [])) := c2.trans (by
      refine XS.icmpNo X0.here hexec rfl (hb hbytes d4) rfl (ii_ne_f (by rw [hs])) ?_
      refine iconstV X0.here hexec rfl 0 (hb hbytes d7) (by decide) ?_
      refine XS.istoreN X0.here hexec rfl (hb hbytes d8) rfl rfl ?_
      exact Steps.refl _)
    have loop : ∀ (r i : Nat), i + r = A.slots.size → (∀ j, j < i → yv A j = yv B j) → Steps p.tables e below (s₁.setTop (entryFrame m #[.ref a, .ref b] 3)) (s₁.setTop (mkF m 9 #[.val (.ref a), .val (.ref b), .val (.int (Int32.ofNat i))] [])) → ∃ (pc : Nat) (Ls : Array Slot) (v : Int32), (pc = 25 ∨ pc = 33) ∧ ((v = 1 ∧ EqC A B) ∨ (v = 0 ∧ ¬ EqC A B)) ∧ Steps p.tables e below (s₁.setTop (entryFrame m #[.ref a, .ref b] 3)) (s₁.setTop (mkF m pc Ls [.int v])) := by
      intro r
      induction r with
      | zero =>
        intro i hi he cl
        exact ⟨33, _, 1, Or.inr rfl, Or.inl ⟨rfl, hs, fun j hj => he j (by omega)⟩, cl.trans (by
          refine XS.iloadN X0.here hexec rfl (hb hbytes d9) rfl ?_
          refine XS.aloadN X0.here hexec rfl (hb hbytes d10) rfl rfl ?_
          refine X0.alen hexec hA0 rfl rfl (hb hbytes d11) ?_
          refine XS.icmpYes X0.here hexec rfl (pc0 := 12) rfl (hb hbytes d12) rfl (ii_ge_t (nlt32 (by omega) (by omega))) (by decide) rfl ?_
          refine iconstV X0.here hexec rfl 1 (hb hbytes d32) (by decide) ?_
          exact Steps.refl _)⟩
      | succ r ih =>
        intro i hi he cl
        have c4 : Steps p.tables e below (s₁.setTop (entryFrame m #[.ref a, .ref b] 3)) (s₁.setTop (mkF m 21 #[.val (.ref a), .val (.ref b), .val (.int (Int32.ofNat i))] [.int (yv B i), .int (yv A i)])) := cl.trans (by
          refine XS.iloadN X0.here hexec rfl (hb hbytes d9) rfl ?_
          refine XS.aloadN X0.here hexec rfl (hb hbytes d10) rfl rfl ?_
          refine X0.alen hexec hA0 rfl rfl (hb hbytes d11) ?_
          refine XS.icmpNo X0.here hexec rfl (hb hbytes d12) rfl (ii_ge_f (lt32 (by omega) (by omega))) ?_
          refine XS.aloadN X0.here hexec rfl (hb hbytes d15) rfl rfl ?_
          refine XS.iloadN X0.here hexec rfl (hb hbytes d16) rfl ?_
          refine X0.aget hexec hA0 rfl (yv_get hA tA (i := i) (by omega)) rfl rfl (hb hbytes d17) ?_
          refine XS.aloadN X0.here hexec rfl (hb hbytes d18) rfl rfl ?_
          refine XS.iloadN X0.here hexec rfl (hb hbytes d19) rfl ?_
          refine X0.aget hexec hB0 rfl (yv_get hB tB (i := i) (by omega)) rfl rfl (hb hbytes d20) ?_
          exact Steps.refl _)
        by_cases hv : yv A i = yv B i
        · have c5 : Steps p.tables e below (s₁.setTop (entryFrame m #[.ref a, .ref b] 3)) (s₁.setTop (mkF m 9 #[.val (.ref a), .val (.ref b), .val (.int (Int32.ofNat i + 1))] [])) := c4.trans (by
            refine XS.icmpYes X0.here hexec rfl (pc0 := 21) rfl (hb hbytes d21) rfl (ii_eq_t hv) (by decide) rfl ?_
            refine iincV X0.here hexec rfl 1 (hb hbytes d26) (by decide) rfl rfl ?_
            refine XS.goto X0.here hexec rfl (pc0 := 29) rfl (hb hbytes d29) (by decide) rfl ?_
            exact Steps.refl _)
          rw [succ32] at c5
          exact ih (i + 1) (by omega) (fun j hj => by
            by_cases e : j = i
            · rw [e]; exact hv
            · exact he j (by omega)) c5
        · exact ⟨25, _, 0, Or.inl rfl, Or.inr ⟨rfl, fun q => hv (q.2 i (by omega))⟩, c4.trans (by
            refine XS.icmpNo X0.here hexec rfl (hb hbytes d21) rfl (ii_eq_f hv) ?_
            refine iconstV X0.here hexec rfl 0 (hb hbytes d24) (by decide) ?_
            exact Steps.refl _)⟩
    obtain ⟨pc, Ls, v, hpc, hv, cz⟩ := loop A.slots.size 0 (by omega) (fun j hj => absurd hj (Nat.not_lt_zero j)) c3
    have nv : narrow .boolean (.int v) = .int v := by rcases hv with ⟨rfl, -⟩ | ⟨rfl, -⟩ <;> rfl
    rcases hpc with rfl | rfl
    · exact ⟨s₁, some (.int v), _, _, _, X0, rfl, rfl, rfl, (fun h => by cases h), ⟨v, rfl, hh0, hv⟩, fun fs hl => cz.trans (X0.ireturnOut hexec hret nv (Or.inr (Or.inl rfl)) (hb hbytes d25) hl)⟩
    · exact ⟨s₁, some (.int v), _, _, _, X0, rfl, rfl, rfl, (fun h => by cases h), ⟨v, rfl, hh0, hv⟩, fun fs hl => cz.trans (X0.ireturnOut hexec hret nv (Or.inr (Or.inl rfl)) (hb hbytes d33) hl)⟩
  · have c3 : Steps p.tables e below (s₁.setTop (entryFrame m #[.ref a, .ref b] 3)) (s₁.setTop (mkF m 35 #[.val (.ref a), .val (.ref b), .unset] [.int 0])) := c2.trans (by
      refine XS.icmpYes X0.here hexec rfl (pc0 := 4) rfl (hb hbytes d4) rfl (ii_ne_t (ne32 a31 b31 hs)) (by decide) rfl ?_
      refine iconstV X0.here hexec rfl 0 (hb hbytes d34) (by decide) ?_
      exact Steps.refl _)
    exact ⟨s₁, some (.int 0), _, _, _, X0, rfl, rfl, rfl, (fun h => by cases h), ⟨0, rfl, hh0, Or.inr ⟨rfl, fun q => hs q.1⟩⟩, fun fs hl => c3.trans (X0.ireturnOut hexec hret rfl (Or.inr (Or.inl rfl)) (hb hbytes d35) hl)⟩
end LEq
theorem Cod.ty {cd : Int32} {n : Nat} {f : Nat → Int32} {V : Cell} (h : Cod cd n f V) : Typed .byte V := fun i v hv => by
  have hi : i < V.slots.size := (Array.getElem?_eq_some_iff.mp hv).1
  rcases h with ⟨-, k1, k2⟩ | ⟨-, k1, k2, -⟩
  · rw [(k2 i (by omega)).1] at hv; cases hv; exact fits_lo8 _
  · rcases Nat.mod_two_eq_zero_or_one i with e | e
    · obtain ⟨j, rfl⟩ : ∃ j, i = 2 * j := ⟨i / 2, by omega⟩
      rw [(k2 j (by omega)).1] at hv; cases hv; exact fits_lo8 _
    · obtain ⟨j, rfl⟩ : ∃ j, i = 2 * j + 1 := ⟨i / 2, by omega⟩
      rw [(k2 j (by omega)).2] at hv; cases hv; exact fits_lo8 _
/-- the same text -/
def SameT (n : Nat) (f : Nat → Int32) (k : Nat) (g : Nat → Int32) : Prop := n = k ∧ ∀ j, j < n → f j = g j
theorem lo8_inj {x y : Int32} (h0 : ¬ x < 0) (h1 : ¬ 255 < x) (k0 : ¬ y < 0) (k1 : ¬ 255 < y) (h : lo8 x = lo8 y) : x = y := by
  rw [← lo8_mask h0 h1, ← lo8_mask k0 k1, h]
/-- arrays coded by one coder are equal just where the texts are -/
theorem Cod.eqv {cd : Int32} {n k : Nat} {f g : Nat → Int32} {V V' : Cell} (h : Cod cd n f V) (h' : Cod cd k g V') (hf : ∀ j, j < n → ¬ f j < 0 ∧ ¬ 65535 < f j) (hg : ∀ j, j < k → ¬ g j < 0 ∧ ¬ 65535 < g j) : EqC V V' ↔ SameT n f k g := by
  have yvv : ∀ {W : Cell} {i : Nat} {x : Int32}, W.slots[i]? = some (.int x) → yv W i = x := fun q => by unfold yv; rw [q]
  rcases h with ⟨rfl, k1, k2⟩ | ⟨rfl, k1, k2, -⟩
  · rcases h' with ⟨-, m1, m2⟩ | ⟨e, -⟩
    · constructor
      · rintro ⟨e1, e2⟩
        refine ⟨by omega, fun j hj => ?_⟩
        have q := e2 j (by omega)
        rw [yvv (k2 j hj).1, yvv (m2 j (by omega)).1] at q
        exact lo8_inj (hf j hj).1 (k2 j hj).2 (hg j (by omega)).1 (m2 j (by omega)).2 q
      · rintro ⟨rfl, e2⟩
        refine ⟨by omega, fun j hj => ?_⟩
        rw [yvv (k2 j (by omega)).1, yvv (m2 j (by omega)).1, e2 j (by omega)]
    · exact absurd e (by decide)
  · rcases h' with ⟨e, -⟩ | ⟨-, m1, m2, -⟩
    · exact absurd e (by decide)
    · constructor
      · rintro ⟨e1, e2⟩
        refine ⟨by omega, fun j hj => ?_⟩
        have q1 := e2 (2 * j) (by omega)
        have q2 := e2 (2 * j + 1) (by omega)
        rw [yvv (k2 j hj).1, yvv (m2 j (by omega)).1] at q1
        rw [yvv (k2 j hj).2, yvv (m2 j (by omega)).2] at q2
        rw [← pair_says (hf j hj).1 (hf j hj).2, ← pair_says (hg j (by omega)).1 (hg j (by omega)).2, q1, q2]
      · rintro ⟨rfl, e2⟩
        refine ⟨by omega, fun i hi => ?_⟩
        rcases Nat.mod_two_eq_zero_or_one i with e | e
        · obtain ⟨j, rfl⟩ : ∃ j, i = 2 * j := ⟨i / 2, by omega⟩
          rw [yvv (k2 j (by omega)).1, yvv (m2 j (by omega)).1, e2 j (by omega)]
        · obtain ⟨j, rfl⟩ : ∃ j, i = 2 * j + 1 := ⟨i / 2, by omega⟩
          rw [yvv (k2 j (by omega)).2, yvv (m2 j (by omega)).2, e2 j (by omega)]
/-- two codings differ: so do the texts -/
theorem Cod.dif {cd cd' : Int32} {n k : Nat} {f g : Nat → Int32} {V V' : Cell} (h : Cod cd n f V) (h' : Cod cd' k g V') (hne : ¬ cd = cd') : ¬ SameT n f k g := by
  rintro ⟨rfl, e⟩
  rcases h with ⟨rfl, -, k2⟩ | ⟨rfl, -, -, j, hj, hw⟩
  · rcases h' with ⟨rfl, -⟩ | ⟨-, -, -, j, hj, hw⟩
    · exact hne rfl
    · exact (k2 j hj).2 (by rw [e j hj]; exact hw)
  · rcases h' with ⟨-, -, m2⟩ | ⟨rfl, -⟩
    · exact (m2 j hj).2 (by rw [← e j hj]; exact hw)
    · exact hne rfl
/-- an object of exactly C is an instance of C -/
theorem cinst {p : Program} {l : Launch} {e : Env} {R : Room} {s : State} {m : MethodId} {args : Array Value} {below : List Frame} {meth : Method} {c : Code} {T : State} {locs : List Loc} {cells slots : Nat} (X : Stand p l e R s m args below meth c T locs cells slots) (hexec : p.tables.exec = Jvm.exec) {own C : String} {index : Nat} (hown : s.vm.findClass own = some m.cls) (hlink : (Cond.classLink own index C).before args s = true) {a : Addr} (hE : Exact C a T)
    {g : JFrame} (hg : g.method = m) {rest : List Value} (hstack : g.stack = .ref a :: rest) (hdg : decode c.code g.pc = .ok (.instanceof index, 3)) :
    ∃ T', Stand p l e R s m args below meth c T' locs cells slots ∧ T'.heap = T.heap ∧ ∀ target, Steps p.tables e below (T'.setTop { g with pc := g.pc + 3, stack := .int 1 :: rest }) target → Steps p.tables e below (T.setTop g) target := by
  obtain ⟨cB, h1, D, h2, h3, h4⟩ := hE
  have h1' : s.vm.findClass C = some cB := by rw [← X.warmed.alike.findClass]; exact h1
  obtain ⟨vm', X', st⟩ := X.instanceofYes hexec hown hlink h2 h4 h1' (by rw [h3]; exact Jvm.Free.SB.assignable_self _ _) hg hstack hdg
  exact ⟨_, X', rfl, st⟩
theorem cself {p : Program} {l : Launch} {e : Env} {R : Room} {s : State} {m : MethodId} {args : Array Value} {below : List Frame} {meth : Method} {c : Code} {T : State} {locs : List Loc} {cells slots : Nat} (X : Stand p l e R s m args below meth c T locs cells slots) (hexec : p.tables.exec = Jvm.exec) {own C : String} {index : Nat} (hown : s.vm.findClass own = some m.cls) (hlink : (Cond.classLink own index C).before args s = true) {a : Addr} (hE : Exact C a T)
    {g : JFrame} (hg : g.method = m) {rest : List Value} (hstack : g.stack = .ref a :: rest) (hdg : decode c.code g.pc = .ok (.checkcast index, 3)) :
    ∃ T', Stand p l e R s m args below meth c T' locs cells slots ∧ T'.heap = T.heap ∧ ∀ target, Steps p.tables e below (T'.setTop { g with pc := g.pc + 3, stack := .ref a :: rest }) target → Steps p.tables e below (T.setTop g) target := by
  obtain ⟨cB, h1, D, h2, h3, h4⟩ := hE
  have h1' : s.vm.findClass C = some cB := by rw [← X.warmed.alike.findClass]; exact h1
  obtain ⟨vm', X', st⟩ := X.checkcastYes hexec hown hlink h2 h4 h1' (by rw [h3]; exact Jvm.Free.SB.assignable_self _ _) hg hstack hdg
  exact ⟨_, X', rfl, fun t h => st t (by rw [← hstack] at h; exact h)⟩
namespace SEq
def yN : MethodName := ⟨"java/lang/String", "equals", "(Ljava/lang/Object;)Z"⟩
abbrev yB : ByteArray := jdk_42_method_66_code
theorem d0 : decode yB 0 = .ok (.aload_n 0, 1) := by decide +kernel
theorem d1 : decode yB 1 = .ok (.aload_n 1, 1) := by decide +kernel
theorem d2 : decode yB 2 = .ok (.if_acmp (.ne) 5, 3) := by decide +kernel
theorem d5 : decode yB 5 = .ok (.iconst 1, 1) := by decide +kernel
theorem d6 : decode yB 6 = .ok (.ireturn, 1) := by decide +kernel
theorem d7 : decode yB 7 = .ok (.aload_n 1, 1) := by decide +kernel
theorem d8 : decode yB 8 = .ok (.instanceof 10, 3) := by decide +kernel
theorem d11 : decode yB 11 = .ok (.ifCond (.eq) 43, 3) := by decide +kernel
theorem d14 : decode yB 14 = .ok (.aload_n 1, 1) := by decide +kernel
theorem d15 : decode yB 15 = .ok (.checkcast 10, 3) := by decide +kernel
theorem d18 : decode yB 18 = .ok (.astore_n 2, 1) := by decide +kernel
theorem d19 : decode yB 19 = .ok (.getstatic 38, 3) := by decide +kernel
theorem d22 : decode yB 22 = .ok (.ifCond (.eq) 14, 3) := by decide +kernel
theorem d25 : decode yB 25 = .ok (.aload_n 0, 1) := by decide +kernel
theorem d26 : decode yB 26 = .ok (.getfield 15, 3) := by decide +kernel
theorem d29 : decode yB 29 = .ok (.aload_n 2, 1) := by decide +kernel
theorem d30 : decode yB 30 = .ok (.getfield 15, 3) := by decide +kernel
theorem d33 : decode yB 33 = .ok (.if_icmp (.ne) 21, 3) := by decide +kernel
theorem d36 : decode yB 36 = .ok (.aload_n 0, 1) := by decide +kernel
theorem d37 : decode yB 37 = .ok (.getfield 9, 3) := by decide +kernel
theorem d40 : decode yB 40 = .ok (.aload_n 2, 1) := by decide +kernel
theorem d41 : decode yB 41 = .ok (.getfield 9, 3) := by decide +kernel
theorem d44 : decode yB 44 = .ok (.invokestatic 541, 3) := by decide +kernel
theorem d47 : decode yB 47 = .ok (.ifCond (.eq) 7, 3) := by decide +kernel
theorem d50 : decode yB 50 = .ok (.iconst 1, 1) := by decide +kernel
theorem d51 : decode yB 51 = .ok (.goto 4, 3) := by decide +kernel
theorem d54 : decode yB 54 = .ok (.iconst 0, 1) := by decide +kernel
theorem d55 : decode yB 55 = .ok (.ireturn, 1) := by decide +kernel
def site : List Cond := [.classLink "java/lang/String" 10 "java/lang/String", .fieldLink "java/lang/String" 38 "java/lang/String" "COMPACT_STRINGS" "Z", .fieldLink "java/lang/String" 15 "java/lang/String" "coder" "B", .fieldLink "java/lang/String" 9 "java/lang/String" "value" "[B", LEq.tab] ++ staticW "java/lang/String" 541 LEq.yN
def tab : Cond := tabOf yN yB 3 (some .boolean) site
def P (x t : Addr) (V : Cell) (cd : Int32) (n : Nat) (f : Nat → Int32) (y t' : Addr) (V' : Cell) (cd' : Int32) (k : Nat) (g : Nat → Int32) (z : Int32) (args : Array Value) (s : State) : Prop := args = #[.ref x, .ref y] ∧ Txt x t V cd n f s ∧ Txt y t' V' cd' k g s ∧ StaticIs s "java/lang/String" "COMPACT_STRINGS" "Z" (.int z) ∧ ¬ z = 0
/-- equals(Object) of two Strings: whether the texts are the same -/
theorem law (l : Launch) (x t : Addr) (V : Cell) (cd : Int32) (n : Nat) (f : Nat → Int32) (y t' : Addr) (V' : Cell) (cd' : Int32) (k : Nat) (g : Nat → Int32) (z : Int32) : Law l yN 2 1 1 14 yB 3 (some .boolean) site (P x t V cd n f y t' V' cd' k g z) (Says01 (SameT n f k g)) [] 0 0 := by
  refine Law.of_walk (plainFor_of_name (by decide +kernel)) (by decide +kernel) (by decide +kernel) (by decide) (fun _ _ h => by rw [h.1]; rfl) (fun _ U U' hal hh h => ⟨h.1, h.2.1.mv hal hh, h.2.2.1.mv hal hh, h.2.2.2.1.there hal hh, h.2.2.2.2⟩) (fun r U U' V V' h1 hal h2 h => Says01.mv r U U' V V' h1 hal h2 h) ?_
  intro p e s m args below meth c s₁ X0 hexec hbytes hml hret hlk hnm hown hh0 W hP
  obtain ⟨rfl, hx, hy, s1, hz⟩ := hP
  have c1 : Steps p.tables e below (s₁.setTop (entryFrame m #[.ref x, .ref y] 3)) (s₁.setTop (mkF m 2 #[.val (.ref x), .val (.ref y), .unset] [.ref y, .ref x])) := Steps.trans (entry rfl) (by
    show Steps p.tables e below (s₁.setTop (mkF m 0 #[.val (.ref x), .val (.ref y), .unset] [])) _
    refine XS.aloadN X0.here hexec rfl (hb hbytes d0) rfl rfl ?_
    refine XS.aloadN X0.here hexec rfl (hb hbytes d1) rfl rfl ?_
    exact Steps.refl _)
  by_cases hxy : x = y
  · have c2 : Steps p.tables e below (s₁.setTop (entryFrame m #[.ref x, .ref y] 3)) (s₁.setTop (mkF m 6 #[.val (.ref x), .val (.ref y), .unset] [.int 1])) := c1.trans (by
      refine acmpNo X0.here hexec rfl (hb hbytes d2) rfl rfl rfl (by simp [acmp, hxy]) ?_
      refine iconstV X0.here hexec rfl 1 (hb hbytes d5) (by decide) ?_
      exact Steps.refl _)
    subst hxy
    have ec : cd = cd' := by
      obtain ⟨D, fd, a1, a2, a3⟩ := hx.2.2.1
      obtain ⟨D', fd', b1, b2, b3⟩ := hy.2.2.1
      cases a1.symm.trans b1
      obtain ⟨q1, q2, q3, q4⟩ := a2.1
      obtain ⟨r1, r2, r3, r4⟩ := b2.1
      cases q4.symm.trans r4
      cases a3.symm.trans b3; rfl
    have et : t = t' := by
      obtain ⟨D, fd, a1, a2, a3⟩ := hx.2.1
      obtain ⟨D', fd', b1, b2, b3⟩ := hy.2.1
      cases a1.symm.trans b1
      obtain ⟨q1, q2, q3, q4⟩ := a2.1
      obtain ⟨r1, r2, r3, r4⟩ := b2.1
      cases q4.symm.trans r4
      cases a3.symm.trans b3; rfl
    subst ec et
    have ev : V = V' := by cases hx.2.2.2.1.1.symm.trans hy.2.2.2.1.1; rfl
    subst ev
    have hs : SameT n f k g := (Cod.eqv hx.2.2.2.2.1 hy.2.2.2.2.1 hx.2.2.2.2.2 hy.2.2.2.2.2).mp ⟨rfl, fun _ _ => rfl⟩
    exact ⟨s₁, some (.int 1), _, _, _, X0, rfl, rfl, rfl, (fun h => by cases h), ⟨1, rfl, hh0, Or.inl ⟨rfl, hs⟩⟩, fun fs hl => c2.trans (X0.ireturnOut hexec hret rfl (Or.inr (Or.inl rfl)) (hb hbytes d6) hl)⟩
  · have c2 : Steps p.tables e below (s₁.setTop (entryFrame m #[.ref x, .ref y] 3)) (s₁.setTop (mkF m 8 #[.val (.ref x), .val (.ref y), .unset] [.ref y])) := c1.trans (by
      refine acmpYes X0.here hexec rfl (pc0 := 2) rfl (hb hbytes d2) rfl rfl rfl (by simp [acmp, hxy]) (by decide) rfl ?_
      refine XS.aloadN X0.here hexec rfl (hb hbytes d7) rfl rfl ?_
      exact Steps.refl _)
    obtain ⟨T3, X3, q3, st3⟩ := cinst X0 hexec hown (wk W (.classLink "java/lang/String" 10 "java/lang/String")) (hy.mv X0.warmed.alike hh0).1 (g := (mkF m 8 #[.val (.ref x), .val (.ref y), .unset] [.ref y])) rfl (rest := []) rfl (hb hbytes d8)
    have hh3 := q3.trans hh0
    have c4 : Steps p.tables e below (s₁.setTop (entryFrame m #[.ref x, .ref y] 3)) (T3.setTop (mkF m 15 #[.val (.ref x), .val (.ref y), .unset] [.ref y])) := (c2.trans (st3 _ (Steps.refl _))).trans (by
      refine XS.ifNo X3.here hexec rfl (hb hbytes d11) rfl (i0_eq_f (by decide)) ?_
      refine XS.aloadN X3.here hexec rfl (hb hbytes d14) rfl rfl ?_
      exact Steps.refl _)
    obtain ⟨T5, X5, q5, st5⟩ := cself X3 hexec hown (wk W (.classLink "java/lang/String" 10 "java/lang/String")) (hy.mv X3.warmed.alike hh3).1 (g := (mkF m 15 #[.val (.ref x), .val (.ref y), .unset] [.ref y])) rfl (rest := []) rfl (hb hbytes d15)
    have hh5 := q5.trans hh3
    have c6 : Steps p.tables e below (s₁.setTop (entryFrame m #[.ref x, .ref y] 3)) (T5.setTop (mkF m 19 #[.val (.ref x), .val (.ref y), .val (.ref y)] [])) := (c4.trans (st5 _ (Steps.refl _))).trans (by
      refine XS.astoreN X5.here hexec rfl (hb hbytes d18) rfl rfl rfl ?_
      exact Steps.refl _)
    obtain ⟨T7, X7, q7, st7⟩ := X5.sget hexec hown (wk W (.fieldLink "java/lang/String" 38 "java/lang/String" "COMPACT_STRINGS" "Z")) s1 (fun _ _ h => by rw [hh5]; exact h) (g := (mkF m 19 #[.val (.ref x), .val (.ref y), .val (.ref y)] [])) rfl (hb hbytes d19)
    have hh7 := q7.trans hh5
    have c8 : Steps p.tables e below (s₁.setTop (entryFrame m #[.ref x, .ref y] 3)) (T7.setTop (mkF m 26 #[.val (.ref x), .val (.ref y), .val (.ref y)] [.ref x])) := (c6.trans (st7 _ (Steps.refl _))).trans (by
      refine XS.ifNo X7.here hexec rfl (hb hbytes d22) rfl (i0_eq_f hz) ?_
      refine XS.aloadN X7.here hexec rfl (hb hbytes d25) rfl rfl ?_
      exact Steps.refl _)
    obtain ⟨T9, X9, q9, st9⟩ := X7.hget hexec hown (wk W (.fieldLink "java/lang/String" 15 "java/lang/String" "coder" "B")) (hx.mv X7.warmed.alike hh7).2.2.1 (g := (mkF m 26 #[.val (.ref x), .val (.ref y), .val (.ref y)] [.ref x])) rfl (rest := []) rfl (hb hbytes d26)
    have hh9 := q9.trans hh7
    have c10 : Steps p.tables e below (s₁.setTop (entryFrame m #[.ref x, .ref y] 3)) (T9.setTop (mkF m 30 #[.val (.ref x), .val (.ref y), .val (.ref y)] [.ref y, .int cd])) := (c8.trans (st9 _ (Steps.refl _))).trans (by
      refine XS.aloadN X9.here hexec rfl (hb hbytes d29) rfl rfl ?_
      exact Steps.refl _)
    obtain ⟨T11, X11, q11, st11⟩ := X9.hget hexec hown (wk W (.fieldLink "java/lang/String" 15 "java/lang/String" "coder" "B")) (hy.mv X9.warmed.alike hh9).2.2.1 (g := (mkF m 30 #[.val (.ref x), .val (.ref y), .val (.ref y)] [.ref y, .int cd])) rfl (rest := [.int cd]) rfl (hb hbytes d30)
    have hh11 := q11.trans hh9
    have c12 : Steps p.tables e below (s₁.setTop (entryFrame m #[.ref x, .ref y] 3)) (T11.setTop (mkF m 33 #[.val (.ref x), .val (.ref y), .val (.ref y)] [.int cd', .int cd])) := c10.trans (st11 _ (Steps.refl _))
    by_cases hcd : cd = cd'
    · subst hcd
      have c13 : Steps p.tables e below (s₁.setTop (entryFrame m #[.ref x, .ref y] 3)) (T11.setTop (mkF m 37 #[.val (.ref x), .val (.ref y), .val (.ref y)] [.ref x])) := c12.trans (by
        refine XS.icmpNo X11.here hexec rfl (hb hbytes d33) rfl (ii_ne_f rfl) ?_
        refine XS.aloadN X11.here hexec rfl (hb hbytes d36) rfl rfl ?_
        exact Steps.refl _)
      obtain ⟨T14, X14, q14, st14⟩ := X11.hget hexec hown (wk W (.fieldLink "java/lang/String" 9 "java/lang/String" "value" "[B")) (hx.mv X11.warmed.alike hh11).2.1 (g := (mkF m 37 #[.val (.ref x), .val (.ref y), .val (.ref y)] [.ref x])) rfl (rest := []) rfl (hb hbytes d37)
      have hh14 := q14.trans hh11
      have c15 : Steps p.tables e below (s₁.setTop (entryFrame m #[.ref x, .ref y] 3)) (T14.setTop (mkF m 41 #[.val (.ref x), .val (.ref y), .val (.ref y)] [.ref y, .ref t])) := (c13.trans (st14 _ (Steps.refl _))).trans (by
        refine XS.aloadN X14.here hexec rfl (hb hbytes d40) rfl rfl ?_
        exact Steps.refl _)
      obtain ⟨T16, X16, q16, st16⟩ := X14.hget hexec hown (wk W (.fieldLink "java/lang/String" 9 "java/lang/String" "value" "[B")) (hy.mv X14.warmed.alike hh14).2.1 (g := (mkF m 41 #[.val (.ref x), .val (.ref y), .val (.ref y)] [.ref y, .ref t])) rfl (rest := [.ref t]) rfl (hb hbytes d41)
      have hh16 := q16.trans hh14
      have c17 : Steps p.tables e below (s₁.setTop (entryFrame m #[.ref x, .ref y] 3)) (T16.setTop (mkF m 44 #[.val (.ref x), .val (.ref y), .val (.ref y)] [.ref t', .ref t])) := c15.trans (st16 _ (Steps.refl _))
      obtain ⟨v18, T18, X18, E18, g18⟩ := X16.callS hexec (LEq.law l t V t' V') hown (wks W (staticW "java/lang/String" 541 LEq.yN)) (wk W LEq.tab) (W := 0) (Nat.le_of_ble_eq_true rfl) (Nat.le_of_ble_eq_true rfl) (Nat.le_refl _) (Nat.le_refl _) (g := (mkF m 44 #[.val (.ref x), .val (.ref y), .val (.ref y)] [.ref t', .ref t])) rfl (by rw [hml]; rfl) c17 (argsL := [.ref t, .ref t']) (rest := []) rfl rfl (by show 2 * 0 + 0 ≤ _; decide) (hb hbytes d44) (⟨rfl, hx.2.2.2.1.mv X16.warmed.alike hh16, hx.2.2.2.2.1.ty, hy.2.2.2.1.mv X16.warmed.alike hh16, hy.2.2.2.2.1.ty⟩)
      obtain ⟨v, rfl, q18, hv⟩ := E18
      have iff := Cod.eqv hx.2.2.2.2.1 hy.2.2.2.2.1 hx.2.2.2.2.2 hy.2.2.2.2.2
      rcases hv with ⟨rfl, he⟩ | ⟨rfl, he⟩
      · have c19 : Steps p.tables e below (s₁.setTop (entryFrame m #[.ref x, .ref y] 3)) (T18.setTop (mkF m 55 #[.val (.ref x), .val (.ref y), .val (.ref y)] [.int 1])) := Steps.trans g18 (by
          refine XS.ifNo X18.here hexec rfl (hb hbytes d47) rfl (i0_eq_f (by decide)) ?_
          refine iconstV X18.here hexec rfl 1 (hb hbytes d50) (by decide) ?_
          refine XS.goto X18.here hexec rfl (pc0 := 51) rfl (hb hbytes d51) (by decide) rfl ?_
          exact Steps.refl _)
        exact ⟨T18, some (.int 1), _, _, _, X18, rfl, rfl, rfl, (fun h => by cases h), ⟨1, rfl, q18.trans hh16, Or.inl ⟨rfl, iff.mp he⟩⟩, fun fs hl => c19.trans (X18.ireturnOut hexec hret rfl (Or.inr (Or.inl rfl)) (hb hbytes d55) hl)⟩
      · have c19 : Steps p.tables e below (s₁.setTop (entryFrame m #[.ref x, .ref y] 3)) (T18.setTop (mkF m 55 #[.val (.ref x), .val (.ref y), .val (.ref y)] [.int 0])) := Steps.trans g18 (by
          refine XS.ifYes X18.here hexec rfl (pc0 := 47) rfl (hb hbytes d47) rfl (i0_eq_t rfl) (by decide) rfl ?_
          refine iconstV X18.here hexec rfl 0 (hb hbytes d54) (by decide) ?_
          exact Steps.refl _)
        exact ⟨T18, some (.int 0), _, _, _, X18, rfl, rfl, rfl, (fun h => by cases h), ⟨0, rfl, q18.trans hh16, Or.inr ⟨rfl, fun q => he (iff.mpr q)⟩⟩, fun fs hl => c19.trans (X18.ireturnOut hexec hret rfl (Or.inr (Or.inl rfl)) (hb hbytes d55) hl)⟩
    · have c13 : Steps p.tables e below (s₁.setTop (entryFrame m #[.ref x, .ref y] 3)) (T11.setTop (mkF m 55 #[.val (.ref x), .val (.ref y), .val (.ref y)] [.int 0])) := c12.trans (by
        refine XS.icmpYes X11.here hexec rfl (pc0 := 33) rfl (hb hbytes d33) rfl (ii_ne_t hcd) (by decide) rfl ?_
        refine iconstV X11.here hexec rfl 0 (hb hbytes d54) (by decide) ?_
        exact Steps.refl _)
      exact ⟨T11, some (.int 0), _, _, _, X11, rfl, rfl, rfl, (fun h => by cases h), ⟨0, rfl, hh11, Or.inr ⟨rfl, Cod.dif hx.2.2.2.2.1 hy.2.2.2.2.1 hcd⟩⟩, fun fs hl => c13.trans (X11.ireturnOut hexec hret rfl (Or.inr (Or.inl rfl)) (hb hbytes d55) hl)⟩
theorem pays {l : Launch} {R : Room} {p : Program} {e : Env} {below : List Frame} {s : State} {sargs : Array Value} {len W : Nat} (x t : Addr) (V : Cell) (cd : Int32) (n : Nat) (f : Nat → Int32) (y t' : Addr) (V' : Cell) (cd' : Int32) (k : Nat) (g : Nat → Int32) (z : Int32) (htab : tab.before sargs s = true) (hfr : 2 ≤ R.frames) (hlo : W + 28 ≤ R.locals) :
    Back l R p e below s sargs yN len W (fun A₁ a₁ => A₁.cells + 0 ≤ R.cells ∧ A₁.slots + 0 ≤ R.slots ∧ P x t V cd n f y t' V' cd' k g z a₁ A₁.U) (fun A₁ _ v₁ B₁ => Says01 (SameT n f k g) v₁ A₁.U B₁.U ∧ B₁.locs = A₁.locs ++ [] ∧ B₁.cells = A₁.cells + 0 ∧ B₁.slots = A₁.slots + 0) :=
  (law l x t V cd n f y t' V' cd' k g z).pays htab hfr (by omega)
end SEq
end StrChars
namespace StrChars.Road
open Jvm Sem ClassFile Op Lib Jvm.Stand Jvm.Free Jvm.Free.XT
open Jvm.Lib.Cold (StaticIs)
/-- the words of String.equals(Object) -/
abbrev wordsEq : List Jvm.Cond := [.code SEq.yN SEq.yB 3 (some .boolean), .initialized ST, .classLink ST 10 ST, .fieldLink ST 38 ST "COMPACT_STRINGS" "Z", .fieldLink ST 15 ST "coder" "B", .fieldLink ST 9 ST "value" "[B", .methodLink ST 541 LEq.yN, .static LEq.yN, .code LEq.yN LEq.yB 3 (some .boolean), .initialized "java/lang/StringLatin1"]
theorem tabEq_of {a : Array Value} {s : State} (h : ∀ w ∈ wordsEq, w.before a s = true) : SEq.tab.before a s = true := by
  have hl : LEq.tab.before a s = true := unparts (wk h (.code LEq.yN LEq.yB 3 (some .boolean))) (wks h (.initialized LEq.yN.cls :: LEq.site))
  have q := consq hl h
  exact unparts (wk q (.code SEq.yN SEq.yB 3 (some .boolean))) (wks q (.initialized SEq.yN.cls :: SEq.site))
theorem movedEq {Z s : State} {a0 args : Array Value} (hZ : Z.Warmed39 s.vm) (hw : ∀ d ∈ wordsEq, d.before a0 Z = true) : ∀ d ∈ wordsEq, d.before args s = true := fun d hd => by
  have t : ∀ d ∈ wordsEq, (d.onTables && d.keepsFace) = true := by decide +kernel
  exact RoadKit.mv hZ (hw d hd) (t d hd)
/-- the road's facts of a String, as the laws ask it -/
theorem txt_of {Z U : State} {a0 : Array Value} {kI : Nat} (wi : (Jvm.Cond.instantiable ST kI).before a0 Z = true) (al : Z.vm.Alike U.vm) {x t : Addr} {kb : ClassId} {cs : List Int32} {cd N2 : Int32} {vs : List Value} (E : RoadKit.Exa Z U.heap x ST) (V : RoadKit.Fld Z U.heap x ST "value" "[B" (.ref t)) (C : RoadKit.Fld Z U.heap x ST "coder" "B" (.int cd)) (K : RoadKit.Arv Z U.heap t kb .byte N2 vs (.int 0)) (hc : CodA cs cd N2 vs) (hb : ∀ c ∈ cs, ¬ c < 0 ∧ ¬ (65535 : Int32) < c) (l2 : cs.length ≤ 4000) :
    ∃ A, Txt x t A cd cs.length (fun j => cs.getD j 0) U := by
  obtain ⟨A, K1, K2, K3, K4, K5, K6⟩ := K
  have hcod := hc.cod (by omega) K3 K5
  obtain ⟨D, fV, fC, hB, F1, F2, g1, g2, -, -⟩ := strObj wi al E V C
  exact ⟨A, ⟨_, hB.2.2.1, D, hB.1, rfl, by cases q : D.vm <;> first | rfl | exact absurd q (hB.2.1.2 _)⟩, Has.of hB F1 g1, Has.of hB F2 g2, ⟨K1.1, State.isArrayOf_alike al K1.2.1, K1.2.2, by rcases hcod with ⟨-, q, -⟩ | ⟨-, q, -⟩ <;> omega⟩, hcod, fun j hj => by
    have e : cs.getD j 0 = cs[j] := by simp [List.getD_eq_getElem?_getD, hj]
    show ¬ cs.getD j 0 < 0 ∧ ¬ 65535 < cs.getD j 0
    rw [e]; exact hb _ (List.getElem_mem _)⟩
theorem same_list (cs ds : List Int32) : SameT cs.length (fun j => cs.getD j 0) ds.length (fun j => ds.getD j 0) ↔ cs = ds := by
  constructor
  · rintro ⟨e, q⟩
    refine List.ext_getElem e fun j h1 h2 => ?_
    have := q j h1
    simpa [List.getD_eq_getElem?_getD, h1, h2] using this
  · rintro rfl
    exact ⟨rfl, fun _ _ => rfl⟩
/-- **equals(Object) OF TWO SUCH STRINGS**: 1 just where the chars are the same -/
theorem eqW {p : Program} {l : Launch} {e : Env} {R : Room} {s : State} {args : Array Value} {below : List Frame} {len W : Nat} {Z : State} {a0 : Array Value} {h : Heap} (hZ : Z.Warmed39 s.vm) (hw : ∀ d ∈ wordsEq, d.before a0 Z = true) {kI : Nat} (wi : (Jvm.Cond.instantiable ST kI).before a0 Z = true)
    {x t : Addr} {kb : ClassId} {cs : List Int32} {cd N2 : Int32} {vs : List Value} (E : RoadKit.Exa Z h x ST) (V : RoadKit.Fld Z h x ST "value" "[B" (.ref t)) (C : RoadKit.Fld Z h x ST "coder" "B" (.int cd)) (K : RoadKit.Arv Z h t kb .byte N2 vs (.int 0)) (hc : CodA cs cd N2 vs) (hb : ∀ c ∈ cs, ¬ c < 0 ∧ ¬ (65535 : Int32) < c) (l2 : cs.length ≤ 4000)
    {y t' : Addr} {kb' : ClassId} {ds : List Int32} {cd' N2' : Int32} {vs' : List Value} (E' : RoadKit.Exa Z h y ST) (V' : RoadKit.Fld Z h y ST "value" "[B" (.ref t')) (C' : RoadKit.Fld Z h y ST "coder" "B" (.int cd')) (K' : RoadKit.Arv Z h t' kb' .byte N2' vs' (.int 0)) (hc' : CodA ds cd' N2' vs') (hb' : ∀ c ∈ ds, ¬ c < 0 ∧ ¬ (65535 : Int32) < c) (l2' : ds.length ≤ 4000)
    {z : Int32} (S : RoadKit.Sta Z h ST "COMPACT_STRINGS" "Z" (.int z)) (hz : ¬ z = 0) (hfr : 2 ≤ R.frames) (hlo : W + 28 ≤ R.locals) :
    Back l R p e below s args (⟨"java/lang/String", "equals", "(Ljava/lang/Object;)Z"⟩ : MethodName) len W (fun P a => a = #[.ref x, .ref y] ∧ P.U.heap = h ∧ P.cells + 0 ≤ R.cells ∧ P.slots + 0 ≤ R.slots)
      (fun P _ v B => ∃ L, (((v = some (.int 1) ∧ cs = ds) ∨ (v = some (.int 0) ∧ ¬ cs = ds)) ∧ L = [] ∧ B.U.heap = h) ∧ B.locs = P.locs ++ L ∧ B.cells = P.cells + 0 ∧ B.slots = P.slots + 0) := by
  intro m meth c P g ig mk a X hg hsize hdg hW hn hp'
  obtain ⟨rfl, rfl, r1, r2⟩ := hp'
  have al : Z.vm.Alike P.U.vm := hZ.alike.trans X.warmed.alike
  obtain ⟨A, hx⟩ := txt_of wi al E V C K hc hb l2
  obtain ⟨A', hy⟩ := txt_of wi al E' V' C' K' hc' hb' l2'
  obtain ⟨v, B, X', ⟨⟨w, hv, hh, hq⟩, hl, hk, hs⟩, st⟩ := SEq.pays x t A cd cs.length (fun j => cs.getD j 0) y t' A' cd' ds.length (fun j => ds.getD j 0) z (tabEq_of (movedEq hZ hw)) hfr hlo m meth c P g ig mk _ X hg hsize hdg hW hn ⟨r1, r2, rfl, hx, hy, sta_is al S, hz⟩
  refine ⟨v, B, X', ⟨[], ⟨?_, rfl, hh⟩, hl, hk, hs⟩, st⟩
  rcases hq with ⟨rfl, q⟩ | ⟨rfl, q⟩
  · exact Or.inl ⟨hv, (same_list cs ds).mp q⟩
  · exact Or.inr ⟨hv, fun e => q ((same_list cs ds).mpr e)⟩
end StrChars.Road
end Jvm.Pilot.@@N@@

namespace Jvm.Pilot.@@N@@
open Jvm Jvm.ClassFile Sem Op Lib Jvm.Free Jvm.Stand Jvm.LawKit Jvm.RoadKit Bundle Jvm.Pilot.@@N@@.Jvm.D
section Own
variable {p : Program} {l : Launch} {e : Env} {R : Room} {s : State} {m : MethodId} {args : Array Value} {below : List Frame} {meth : Method} {c : Code} {T : State} {locs : List Loc} {cells slots : Nat} {Q : Option Value → Heap → List Loc → Prop} {C S : Nat}
abbrev vi (x : Int32) : Slot := .val (.int x)
abbrev vr (x : Addr) : Slot := .val (.ref x)
theorem own_w {a0 : Array Value} {Z : State} (hw : ∀ d ∈ tables_1, d.before a0 Z = true) (i : Nat) {d : Cond} (h : tables_1[i]? = some d) : d.before a0 Z = true := hw d (List.mem_of_getElem? h)
def Goes (p : Program) (e : Env) (below : List Frame) (P : Outcome → State → Prop) (A : State) : Prop :=
  ∃ s₂ o, Steps p.tables e below A s₂ ∧ s₂.status = .running ∧ Ended s₂ below o ∧ P o s₂
def Fin_ (s : State) (Q : Option Value → Heap → List Loc → Prop) (C S : Nat) (o : Outcome) (U' : State) : Prop :=
  ∃ v L, o = .returned v ∧ Q v U'.heap L ∧ FrameEnd s o U' L C S
theorem Goes.via {P : Outcome → State → Prop} {A B : State} (st : ∀ t, Steps p.tables e below B t → Steps p.tables e below A t) (k : Goes p e below P B) : Goes p e below P A := by
  obtain ⟨s₂, o, h1, h2⟩ := k
  exact ⟨s₂, o, st _ h1, h2⟩
theorem Goes.tr {P : Outcome → State → Prop} {A B : State} (st : Steps p.tables e below A B) (k : Goes p e below P B) : Goes p e below P A := by
  obtain ⟨s₂, o, h1, h2⟩ := k
  exact ⟨s₂, o, st.trans h1, h2⟩
theorem gIL (X : Stand p l e R s m args below meth c T locs cells slots) (hx : p.tables.exec = Jvm.exec) {code : ByteArray} (hby : c.code = code) {pc : Nat} {Ls : Array Slot} {S : List Value} {F : Outcome → State → Prop} {k : Nat} {v : Int32} (hd : decode code pc = .ok (.iload k, 2)) (hl : Ls[k]? = some (.val (.int v))) (G : Goes p e below F (T.setTop (mkF m (pc + 2) Ls (.int v :: S)))) : Goes p e below F (T.setTop (mkF m pc Ls (S))) := Goes.via (fun _ kk_ => XS.iload X.here hx rfl (hb hby hd) hl kk_) G
theorem gILN (X : Stand p l e R s m args below meth c T locs cells slots) (hx : p.tables.exec = Jvm.exec) {code : ByteArray} (hby : c.code = code) {pc : Nat} {Ls : Array Slot} {S : List Value} {F : Outcome → State → Prop} {k : Fin 4} {v : Int32} (hd : decode code pc = .ok (.iload_n k, 1)) (hl : Ls[k.val]? = some (.val (.int v))) (G : Goes p e below F (T.setTop (mkF m (pc + 1) Ls (.int v :: S)))) : Goes p e below F (T.setTop (mkF m pc Ls (S))) := Goes.via (fun _ kk_ => XS.iloadN X.here hx rfl (hb hby hd) hl kk_) G
theorem gAL (X : Stand p l e R s m args below meth c T locs cells slots) (hx : p.tables.exec = Jvm.exec) {code : ByteArray} (hby : c.code = code) {pc : Nat} {Ls : Array Slot} {S : List Value} {F : Outcome → State → Prop} {k : Nat} {v : Value} (hd : decode code pc = .ok (.aload k, 2)) (hl : Ls[k]? = some (.val v)) (hv : v.isRef = true) (G : Goes p e below F (T.setTop (mkF m (pc + 2) Ls (v :: S)))) : Goes p e below F (T.setTop (mkF m pc Ls (S))) := Goes.via (fun _ kk_ => XS.aload X.here hx rfl (hb hby hd) hl hv kk_) G
theorem gALN (X : Stand p l e R s m args below meth c T locs cells slots) (hx : p.tables.exec = Jvm.exec) {code : ByteArray} (hby : c.code = code) {pc : Nat} {Ls : Array Slot} {S : List Value} {F : Outcome → State → Prop} {k : Fin 4} {v : Value} (hd : decode code pc = .ok (.aload_n k, 1)) (hl : Ls[k.val]? = some (.val v)) (hv : v.isRef = true) (G : Goes p e below F (T.setTop (mkF m (pc + 1) Ls (v :: S)))) : Goes p e below F (T.setTop (mkF m pc Ls (S))) := Goes.via (fun _ kk_ => XS.aloadN X.here hx rfl (hb hby hd) hl hv kk_) G
theorem gIC {z : Int32} (X : Stand p l e R s m args below meth c T locs cells slots) (hx : p.tables.exec = Jvm.exec) {code : ByteArray} (hby : c.code = code) {pc : Nat} {Ls : Array Slot} {S : List Value} {F : Outcome → State → Prop} {i : Int} (hd : decode code pc = .ok (.iconst i, 1)) (hz : Int32.ofInt i = z) (G : Goes p e below F (T.setTop (mkF m (pc + 1) Ls (.int z :: S)))) : Goes p e below F (T.setTop (mkF m pc Ls S)) := by
  subst hz
  exact Goes.via (fun _ kk_ => XS.iconst X.here hx rfl (hb hby hd) kk_) G
theorem gBI {z : Int32} (X : Stand p l e R s m args below meth c T locs cells slots) (hx : p.tables.exec = Jvm.exec) {code : ByteArray} (hby : c.code = code) {pc : Nat} {Ls : Array Slot} {S : List Value} {F : Outcome → State → Prop} {i : Int} (hd : decode code pc = .ok (.bipush i, 2)) (hz : (Int8.ofInt i).toInt32 = z) (G : Goes p e below F (T.setTop (mkF m (pc + 2) Ls (.int z :: S)))) : Goes p e below F (T.setTop (mkF m pc Ls S)) := by
  subst hz
  exact Goes.via (fun _ kk_ => XS.bipush X.here hx rfl (hb hby hd) kk_) G
theorem gSI {z : Int32} (X : Stand p l e R s m args below meth c T locs cells slots) (hx : p.tables.exec = Jvm.exec) {code : ByteArray} (hby : c.code = code) {pc : Nat} {Ls : Array Slot} {S : List Value} {F : Outcome → State → Prop} {i : Int} (hd : decode code pc = .ok (.sipush i, 3)) (hz : (Int16.ofInt i).toInt32 = z) (G : Goes p e below F (T.setTop (mkF m (pc + 3) Ls (.int z :: S)))) : Goes p e below F (T.setTop (mkF m pc Ls S)) := by
  subst hz
  exact Goes.via (fun _ kk_ => XS.sipush X.here hx rfl (hb hby hd) kk_) G
theorem gDU (X : Stand p l e R s m args below meth c T locs cells slots) (hx : p.tables.exec = Jvm.exec) {code : ByteArray} (hby : c.code = code) {pc : Nat} {Ls : Array Slot} {S : List Value} {F : Outcome → State → Prop} {v : Value} (hd : decode code pc = .ok (.dup, 1)) (hc : v.category = 1) (G : Goes p e below F (T.setTop (mkF m (pc + 1) Ls (v :: v :: S)))) : Goes p e below F (T.setTop (mkF m pc Ls (v :: S))) := Goes.via (fun _ kk_ => XS.dup X.here hx rfl (hb hby hd) rfl hc kk_) G
theorem own_fin {pc : Nat} {Ls : Array Slot} {st : List Value} (X : Stand p l e R s m args below meth c T locs cells slots) (hlk : meth.locks = false) {v : Option Value} (hv : meth.sig.returnType = none → v = none)
    (hstep : ∀ fs, (∀ (f : JFrame) (acts : List Action), f.method = m → f.locked = none → f.entered = [] → (doReturn e (T.setTop f) acts v).1 = T.setFrames fs) → Steps p.tables e below (T.setTop (mkF m pc Ls st)) (T.setFrames fs))
    (hQ : Q v T.heap locs) (hC : cells ≤ C) (hS : slots ≤ S) : Goes p e below (Fin_ s Q C S) (T.setTop (mkF m pc Ls st)) := by
  obtain ⟨fs, hr, hrun, hended, hW, hsame⟩ := X.leave (v := v) hv hlk
  exact ⟨_, _, hstep fs hr, hrun, hended, _, _, rfl, hQ, ⟨_, rfl⟩, hW, hsame.mono hC hS⟩
theorem own_finV {pc : Nat} {Ls : Array Slot} (X : Stand p l e R s m args below meth c T locs cells slots) (hx : p.tables.exec = Jvm.exec) (hlk : meth.locks = false) (hret : meth.sig.returnType = none)
    (hd : decode c.code pc = .ok (.return_, 1)) (hQ : Q none T.heap locs) (hC : cells ≤ C) (hS : slots ≤ S) : Goes p e below (Fin_ s Q C S) (T.setTop (mkF m pc Ls [])) :=
  own_fin X hlk (fun _ => rfl) (fun _ hr => X.returnOut hx hret hd hr) hQ hC hS
theorem own_finI {pc : Nat} {Ls : Array Slot} {z : Int32} {rest : List Value} (X : Stand p l e R s m args below meth c T locs cells slots) (hx : p.tables.exec = Jvm.exec) (hlk : meth.locks = false) (hret : meth.sig.returnType = some .int)
    (hd : decode c.code pc = .ok (.ireturn, 1)) (hQ : Q (some (.int z)) T.heap locs) (hC : cells ≤ C) (hS : slots ≤ S) : Goes p e below (Fin_ s Q C S) (T.setTop (mkF m pc Ls (.int z :: rest))) :=
  own_fin X hlk (fun h => by rw [hret] at h; cases h) (fun _ hr => retOut X hx hret rfl (Or.inl ⟨rfl, Or.inl rfl, _, rfl⟩) hd hr) hQ hC hS
theorem own_finN {pc : Nat} {Ls : Array Slot} {z : Int32} {rest : List Value} (X : Stand p l e R s m args below meth c T locs cells slots) (hx : p.tables.exec = Jvm.exec) (hlk : meth.locks = false) {t : FieldType} (hret : meth.sig.returnType = some t)
    (ht : t = .boolean ∨ t = .byte ∨ t = .char ∨ t = .short) (hd : decode c.code pc = .ok (.ireturn, 1)) (hQ : Q (some (.int (nar t z))) T.heap locs) (hC : cells ≤ C) (hS : slots ≤ S) : Goes p e below (Fin_ s Q C S) (T.setTop (mkF m pc Ls (.int z :: rest))) :=
  own_fin X hlk (fun h => by rw [hret] at h; cases h) (fun _ hr => retN X hx hret ht hd hr) hQ hC hS
theorem own_finJ {pc : Nat} {Ls : Array Slot} {z : Int64} {rest : List Value} (X : Stand p l e R s m args below meth c T locs cells slots) (hx : p.tables.exec = Jvm.exec) (hlk : meth.locks = false) (hret : meth.sig.returnType = some .long)
    (hd : decode c.code pc = .ok (.lreturn, 1)) (hQ : Q (some (.long z)) T.heap locs) (hC : cells ≤ C) (hS : slots ≤ S) : Goes p e below (Fin_ s Q C S) (T.setTop (mkF m pc Ls (.long z :: rest))) :=
  own_fin X hlk (fun h => by rw [hret] at h; cases h) (fun _ hr => retOut X hx hret rfl (Or.inr (Or.inl ⟨rfl, rfl, _, rfl⟩)) hd hr) hQ hC hS
theorem own_finR {pc : Nat} {Ls : Array Slot} {w : Value} {rest : List Value} (X : Stand p l e R s m args below meth c T locs cells slots) (hx : p.tables.exec = Jvm.exec) (hlk : meth.locks = false) {t : FieldType} (hret : meth.sig.returnType = some t) (ht : t.isReference = true) (hw : w.isRef = true) (hn : narrow t w = w)
    (hd : decode c.code pc = .ok (.areturn, 1)) (hQ : Q (some w) T.heap locs) (hC : cells ≤ C) (hS : slots ≤ S) : Goes p e below (Fin_ s Q C S) (T.setTop (mkF m pc Ls (w :: rest))) :=
  own_fin X hlk (fun h => by rw [hret] at h; cases h) (fun _ hr => retOut X hx hret hn (Or.inr (Or.inr (Or.inr (Or.inr ⟨rfl, ht, hw⟩)))) hd hr) hQ hC hS
theorem own_sta_keep {Z : State} {h h' : Heap} {C n d : String} {v : Value} (F : Sta Z h C n d v) (K : Keep h h' []) : Sta Z h' C n d v := by
  obtain ⟨cf, i, k, f, st, cell, h1, h2, h3, h4, h5, h6⟩ := F
  exact ⟨cf, i, k, f, st, cell, h1, h2, h3, h4, K.2.1 _ _ h5 nin0, h6⟩
theorem own_mask (x : Int32) : ¬ (x &&& (2147483647 : Int32)) < (0 : Int32) := by
  intro q
  have q1 := (c_and x 2147483647 (by decide)).1
  have q2 := Int32.lt_iff_toInt_lt.mp q
  have q3 : (0 : Int32).toInt = 0 := by decide
  omega
theorem own_and255 (x : Int32) : ¬ (x &&& (255 : Int32)) < 0 ∧ ¬ (255 : Int32) < (x &&& (255 : Int32)) := by
  have q1 := c_and x 255 (by decide)
  have q3 : (0 : Int32).toInt = 0 := by decide
  have q4 : (255 : Int32).toInt = 255 := by decide
  constructor
  · intro q
    have q2 := Int32.lt_iff_toInt_lt.mp q
    omega
  · intro q
    have q2 := Int32.lt_iff_toInt_lt.mp q
    omega
theorem own_mvM {Z : State} {a0 args' : Array Value} {own host : String} {index : Nat} {y : MethodName} (hZ : Z.Warmed39 s.vm) (w : (Jvm.Cond.methodLinkNest own index y host).before a0 Z = true) : (Jvm.Cond.methodLinkNest own index y host).before args' s = true := (Jvm.Cond.methodLinkNest_wide hZ w :)
end Own
section Arrays
variable {p : Program} {l : Launch} {e : Env} {R : Room} {s : State} {m : MethodId} {args : Array Value} {below : List Frame} {meth : Method} {c : Code} {T : State} {locs : List Loc} {cells slots : Nat} {Z : State} {a0 : Array Value} {h h' : Heap} {a b : Addr} {k : ClassId} {ty : FieldType} {n : Nat} {f : Nat → Value} {ws : List Addr}
def Arw (Z : State) (h : Heap) (a : Addr) (k : ClassId) (ty : FieldType) (n : Nat) (f : Nat → Value) : Prop :=
  ∃ c : Cell, Arr Z h a c ty ∧ c.cls = k ∧ c.slots.size = n ∧ n < 2147483648 ∧ (∀ i, i < n → c.slots[i]? = some (f i)) ∧ ∀ i, i < n → fits ty (f i) = true
def own_upd (f : Nat → Value) (i : Nat) (v : Value) : Nat → Value := fun q => if q = i then v else f q
theorem own_upd_same (f : Nat → Value) (i : Nat) (v : Value) : own_upd f i v i = v := if_pos rfl
theorem own_upd_ne (f : Nat → Value) {i j : Nat} (v : Value) (q : j ≠ i) : own_upd f i v j = f j := if_neg q
theorem Arw.lt (F : Arw Z h a k ty n f) : a < h.size := by
  obtain ⟨c, A, -⟩ := F
  exact A.lt
theorem Arw.ext (F : Arw Z h a k ty n f) (E : Ext h h') : Arw Z h' a k ty n f := by
  obtain ⟨c, A, r⟩ := F
  exact ⟨c, A.ext E, r⟩
theorem Arw.other {sl : Nat} {v : Value} (F : Arw Z h b k ty n f) (W : Wr h h' a sl v) (q : b ≠ a) : Arw Z h' b k ty n f := by
  obtain ⟨c, A, r⟩ := F
  exact ⟨c, A.other W q, r⟩
theorem Arw.keep (F : Arw Z h a k ty n f) (K : Keep h h' ws) (q : a ∉ ws) : Arw Z h' a k ty n f := by
  obtain ⟨c, A, r⟩ := F
  exact ⟨c, ⟨K.2.1 _ _ A.1 q, A.2⟩, r⟩
theorem Arw.to {f' : Nat → Value} (F : Arw Z h a k ty n f) (q : ∀ i, i < n → f' i = f i) : Arw Z h a k ty n f' := by
  obtain ⟨c, A, h1, h2, h3, h4, h5⟩ := F
  exact ⟨c, A, h1, h2, h3, fun i hi => by rw [q i hi]; exact h4 i hi, fun i hi => by rw [q i hi]; exact h5 i hi⟩
theorem own_ne_arr {C : String} {kk : Nat} (F : Exa Z h a C) (wi : (Cond.instantiable C kk).before a0 Z = true) (G : Arw Z h b k ty n f) : a ≠ b := by
  obtain ⟨c, A, -⟩ := G
  exact ne_arr F wi A
theorem own_newP (X : Stand p l e R s m args below meth c T locs cells slots) (hx : p.tables.exec = Jvm.exec) (hZ : Z.Warmed39 s.vm) {aty : ArrayType} (w : (Cond.arrayClass (newarray.typeOf aty)).before a0 Z = true) (eT : T.heap = h) {g : JFrame} (hg : g.method = m)
    (hd : decode c.code g.pc = .ok (.newarray aty, 2)) {n : Int32} {rest : List Value} (hs : g.stack = .int n :: rest) {N : Nat} (hn : ¬ n < 0) (hN : n.toNatClampNeg = N) {cap : Nat} (hcap : N ≤ cap) (hb : cap * 8 ≤ 536870912) (hc : cells + 1 ≤ R.cells) (hl : slots + cap ≤ R.slots) :
    ∃ T' h' cA, Stand p l e R s m args below meth c T' locs (cells + 1) (slots + cap) ∧ T'.heap = h' ∧ Ext h h' ∧ Arw Z h' h.size cA (newarray.typeOf aty) N (fun _ => defaultValue (newarray.typeOf aty)) ∧
      ∀ target, Steps p.tables e below (T'.setTop { g with pc := g.pc + 2, stack := .ref h.size :: rest }) target → Steps p.tables e below (T.setTop g) target := by
  obtain ⟨T', h', cA, X', e', E', A', st⟩ := newP X hx hZ w eT hg hd hs hn (cap := cap) (by omega) hb hc hl
  refine ⟨T', h', cA, X', e', E', ⟨_, A', rfl, (sz_new _ _ _).trans hN, by omega, fun i hi => ?_, fun i hi => ?_⟩, st⟩
  · subst hN
    simp [newA, hi]
  · cases aty <;> rfl
theorem own_alen (X : Stand p l e R s m args below meth c T locs cells slots) (hx : p.tables.exec = Jvm.exec) (hZ : Z.Warmed39 s.vm) (eT : T.heap = h) (A : Arw Z h a k ty n f) {g : JFrame} (hg : g.method = m) {rest : List Value} (hs : g.stack = .ref a :: rest) (hd : decode c.code g.pc = .ok (.arraylength, 1)) :
    ∀ target, Steps p.tables e below (T.setTop { g with pc := g.pc + 1, stack := .int n.toInt32 :: rest }) target → Steps p.tables e below (T.setTop g) target := by
  obtain ⟨c, A, h1, h2, h3, h4, h5⟩ := A
  intro target kk
  refine X.arraylength hx (by rw [eT]; exact A.1) (State.isArrayOf_alike hZ.alike A.2.1) hg hs hd target ?_
  rw [h2]
  exact kk
theorem own_in {cl : Cell} {j : Int32} {i : Nat} (h2 : cl.slots.size = n) (hj : ¬ j < 0) (hji : j.toNatClampNeg = i) (hi : i < n) : ¬ (j < 0 ∨ cl.slots.size ≤ j.toNatClampNeg) := by
  rintro (q | q)
  · exact hj q
  · omega
theorem own_iaload (X : Stand p l e R s m args below meth c T locs cells slots) (hx : p.tables.exec = Jvm.exec) (hZ : Z.Warmed39 s.vm) (eT : T.heap = h) (A : Arw Z h a k .int n f) {j : Int32} {i : Nat} (hj : ¬ j < 0) (hji : j.toNatClampNeg = i) (hi : i < n) {v : Int32} (hv : f i = .int v)
    {g : JFrame} (hg : g.method = m) {rest : List Value} (hs : g.stack = .int j :: .ref a :: rest) (hd : decode c.code g.pc = .ok (.iaload, 1)) :
    ∀ target, Steps p.tables e below (T.setTop { g with pc := g.pc + 1, stack := .int v :: rest }) target → Steps p.tables e below (T.setTop g) target := by
  obtain ⟨cl, A, h1, h2, h3, h4, h5⟩ := A
  intro target kk
  exact X.iaload hx (by rw [eT]; exact A.1) (State.isArrayOf_alike hZ.alike A.2.1) A.2.2 (own_in h2 hj hji hi) (by rw [hji, h4 i hi, hv]) hg hs hd target kk
theorem own_laload (X : Stand p l e R s m args below meth c T locs cells slots) (hx : p.tables.exec = Jvm.exec) (hZ : Z.Warmed39 s.vm) (eT : T.heap = h) (A : Arw Z h a k .long n f) {j : Int32} {i : Nat} (hj : ¬ j < 0) (hji : j.toNatClampNeg = i) (hi : i < n) {v : Int64} (hv : f i = .long v)
    {g : JFrame} (hg : g.method = m) {rest : List Value} (hs : g.stack = .int j :: .ref a :: rest) (hd : decode c.code g.pc = .ok (.laload, 1)) :
    ∀ target, Steps p.tables e below (T.setTop { g with pc := g.pc + 1, stack := .long v :: rest }) target → Steps p.tables e below (T.setTop g) target := by
  obtain ⟨cl, A, h1, h2, h3, h4, h5⟩ := A
  intro target kk
  exact X.laload hx (by rw [eT]; exact A.1) (State.isArrayOf_alike hZ.alike A.2.1) A.2.2 (own_in h2 hj hji hi) (by rw [hji, h4 i hi, hv]) hg hs hd target kk
theorem own_aaload (X : Stand p l e R s m args below meth c T locs cells slots) (hx : p.tables.exec = Jvm.exec) (hZ : Z.Warmed39 s.vm) (eT : T.heap = h) (A : Arw Z h a k ty n f) (hty : ty.isReference = true) {j : Int32} {i : Nat} (hj : ¬ j < 0) (hji : j.toNatClampNeg = i) (hi : i < n) {v : Value} (hv : f i = v)
    {g : JFrame} (hg : g.method = m) {rest : List Value} (hs : g.stack = .int j :: .ref a :: rest) (hd : decode c.code g.pc = .ok (.aaload, 1)) :
    ∀ target, Steps p.tables e below (T.setTop { g with pc := g.pc + 1, stack := v :: rest }) target → Steps p.tables e below (T.setTop g) target := by
  obtain ⟨cl, A, h1, h2, h3, h4, h5⟩ := A
  intro target kk
  exact X.aaload hx (by rw [eT]; exact A.1) (State.isArrayOf_alike hZ.alike A.2.1) hty A.2.2 (own_in h2 hj hji hi) (by rw [hji, h4 i hi, hv]) hg hs hd target kk
theorem own_ix {j : Int32} {i : Nat} (h : j.toInt = i) : ¬ j < 0 ∧ j.toNatClampNeg = i := by
  constructor
  · intro q
    have q1 := Int32.lt_iff_toInt_lt.mp q
    have q3 : (0 : Int32).toInt = 0 := by decide
    omega
  · show j.toInt.toNat = i
    omega
theorem own_lti {x y : Int32} : x < y ↔ x.toInt < y.toInt := Int32.lt_iff_toInt_lt
theorem Arw.ofArv {z : Int32} {vs : List Value} {dv : Value} (F : Arv Z h a k ty z vs dv) (hn : z.toNatClampNeg = n) (q : ∀ i, i < n → vs.getD i dv = f i) : Arw Z h a k ty n f := by
  obtain ⟨c, A, h1, h2, h3, h4, h5⟩ := F
  have hb := (back32 h3).2
  refine ⟨c, A, h1, h2.trans hn, by omega, fun i hi => ?_, fun i hi => ?_⟩
  · rw [h4 i (by omega), q i hi]
  · rw [← q i hi]
    exact h5 i (by omega)
theorem own_set {cl : Cell} {j : Int32} {i : Nat} {v : Value} (A : Arr Z h a cl ty) (h1 : cl.cls = k) (h2 : cl.slots.size = n) (h3 : n < 2147483648) (h4 : ∀ i, i < n → cl.slots[i]? = some (f i)) (h5 : ∀ i, i < n → fits ty (f i) = true) (hv : fits ty v = true) (W : Wr h h' a j.toNatClampNeg v) (hji : j.toNatClampNeg = i) (hi : i < n) :
    Arw Z h' a k ty n (own_upd f i v) := by
  subst hji
  refine ⟨_, A.same W, h1, by rw [sz_set]; exact h2, h3, fun q hq => ?_, fun q hq => ?_⟩
  · by_cases e : q = j.toNatClampNeg
    · subst e
      rw [own_upd_same]
      simp [Cell.setSlot, h2, hq]
    · rw [own_upd_ne _ _ e, ← h4 q hq]
      simp [Cell.setSlot, Array.getElem?_setIfInBounds, Ne.symm e]
  · by_cases e : q = j.toNatClampNeg
    · subst e
      rw [own_upd_same]
      exact hv
    · rw [own_upd_ne _ _ e]
      exact h5 q hq
theorem own_iastore (X : Stand p l e R s m args below meth c T locs cells slots) (hx : p.tables.exec = Jvm.exec) (hZ : Z.Warmed39 s.vm) (eT : T.heap = h) (A : Arw Z h a k .int n f) {j : Int32} {i : Nat} (hj : ¬ j < 0) (hji : j.toNatClampNeg = i) (hi : i < n)
    {g : JFrame} (hg : g.method = m) {x : Int32} {rest : List Value} (hs : g.stack = .int x :: .int j :: .ref a :: rest) (hd : decode c.code g.pc = .ok (.iastore, 1)) :
    ∃ T' h', Stand p l e R s m args below meth c T' (locs ++ [⟨a, j.toNatClampNeg⟩]) cells slots ∧ T'.heap = h' ∧ Wr h h' a j.toNatClampNeg (.int x) ∧ Arw Z h' a k .int n (own_upd f i (.int x)) ∧
      ∀ target, Steps p.tables e below (T'.setTop { g with pc := g.pc + 1, stack := rest }) target → Steps p.tables e below (T.setTop g) target := by
  obtain ⟨cl, A, h1, h2, h3, h4, h5⟩ := A
  obtain ⟨T', h', X', e', W, st⟩ := stI X hx hZ eT A (j := j) (own_in h2 hj hji hi) hg hs hd
  exact ⟨T', h', X', e', W, own_set A h1 h2 h3 h4 h5 rfl W hji hi, st⟩
theorem own_lastore (X : Stand p l e R s m args below meth c T locs cells slots) (hx : p.tables.exec = Jvm.exec) (hZ : Z.Warmed39 s.vm) (eT : T.heap = h) (A : Arw Z h a k .long n f) {j : Int32} {i : Nat} (hj : ¬ j < 0) (hji : j.toNatClampNeg = i) (hi : i < n)
    {g : JFrame} (hg : g.method = m) {x : Int64} {rest : List Value} (hs : g.stack = .long x :: .int j :: .ref a :: rest) (hd : decode c.code g.pc = .ok (.lastore, 1)) :
    ∃ T' h', Stand p l e R s m args below meth c T' (locs ++ [⟨a, j.toNatClampNeg⟩]) cells slots ∧ T'.heap = h' ∧ Wr h h' a j.toNatClampNeg (.long x) ∧ Arw Z h' a k .long n (own_upd f i (.long x)) ∧
      ∀ target, Steps p.tables e below (T'.setTop { g with pc := g.pc + 1, stack := rest }) target → Steps p.tables e below (T.setTop g) target := by
  obtain ⟨cl, A, h1, h2, h3, h4, h5⟩ := A
  obtain ⟨T', h', X', e', W, st⟩ := stJ X hx hZ eT A (j := j) (own_in h2 hj hji hi) hg hs hd
  exact ⟨T', h', X', e', W, own_set A h1 h2 h3 h4 h5 rfl W hji hi, st⟩
theorem own_castore (X : Stand p l e R s m args below meth c T locs cells slots) (hx : p.tables.exec = Jvm.exec) (hZ : Z.Warmed39 s.vm) (eT : T.heap = h) (A : Arw Z h a k .char n f) {j : Int32} {i : Nat} (hj : ¬ j < 0) (hji : j.toNatClampNeg = i) (hi : i < n)
    {g : JFrame} (hg : g.method = m) {x : Int32} {rest : List Value} (hs : g.stack = .int x :: .int j :: .ref a :: rest) (hd : decode c.code g.pc = .ok (.castore, 1)) :
    ∃ T' h', Stand p l e R s m args below meth c T' (locs ++ [⟨a, j.toNatClampNeg⟩]) cells slots ∧ T'.heap = h' ∧ Wr h h' a j.toNatClampNeg (.int (nar .char x)) ∧ Arw Z h' a k .char n (own_upd f i (.int (nar .char x))) ∧
      ∀ target, Steps p.tables e below (T'.setTop { g with pc := g.pc + 1, stack := rest }) target → Steps p.tables e below (T.setTop g) target := by
  obtain ⟨cl, A, h1, h2, h3, h4, h5⟩ := A
  obtain ⟨T', h', X', e', W, st⟩ := stC X hx hZ eT A (j := j) (own_in h2 hj hji hi) hg hs hd
  exact ⟨T', h', X', e', W, own_set A h1 h2 h3 h4 h5 (fits_nar_char _) W hji hi, st⟩
theorem own_caload (X : Stand p l e R s m args below meth c T locs cells slots) (hx : p.tables.exec = Jvm.exec) (hZ : Z.Warmed39 s.vm) (eT : T.heap = h) (A : Arw Z h a k .char n f) {j : Int32} {i : Nat} (hj : ¬ j < 0) (hji : j.toNatClampNeg = i) (hi : i < n) {v : Int32} (hv : f i = .int v)
    {g : JFrame} (hg : g.method = m) {rest : List Value} (hs : g.stack = .int j :: .ref a :: rest) (hd : decode c.code g.pc = .ok (.caload, 1)) :
    ∀ target, Steps p.tables e below (T.setTop { g with pc := g.pc + 1, stack := .int v :: rest }) target → Steps p.tables e below (T.setTop g) target := by
  obtain ⟨cl, A, h1, h2, h3, h4, h5⟩ := A
  intro target kk
  exact X.caload hx (by rw [eT]; exact A.1) (State.isArrayOf_alike hZ.alike A.2.1) A.2.2 (own_in h2 hj hji hi) (by rw [hji, h4 i hi, hv]) hg hs hd target kk
theorem own_baload (X : Stand p l e R s m args below meth c T locs cells slots) (hx : p.tables.exec = Jvm.exec) (hZ : Z.Warmed39 s.vm) (eT : T.heap = h) (A : Arw Z h a k .byte n f) {j : Int32} {i : Nat} (hj : ¬ j < 0) (hji : j.toNatClampNeg = i) (hi : i < n) {v : Int32} (hv : f i = .int v)
    {g : JFrame} (hg : g.method = m) {rest : List Value} (hs : g.stack = .int j :: .ref a :: rest) (hd : decode c.code g.pc = .ok (.baload, 1)) :
    ∀ target, Steps p.tables e below (T.setTop { g with pc := g.pc + 1, stack := .int v :: rest }) target → Steps p.tables e below (T.setTop g) target := by
  obtain ⟨cl, A, h1, h2, h3, h4, h5⟩ := A
  intro target kk
  exact X.baloadBytes hx (by rw [eT]; exact A.1) (State.isArrayOf_alike hZ.alike A.2.1) A.2.2 (own_in h2 hj hji hi) (by rw [hji, h4 i hi, hv]) hg hs hd target kk
theorem Arw.toArv {vs : List Value} {dv : Value} {z : Int32} (F : Arw Z h a k ty n f) (hz : z.toInt = (n : Int)) (q : ∀ i, i < n → vs.getD i dv = f i) : Arv Z h a k ty z vs dv := by
  obtain ⟨c, A, h1, h2, h3, h4, h5⟩ := F
  obtain ⟨z0, zn⟩ := own_ix hz
  exact ⟨c, A, h1, h2.trans zn.symm, z0, fun i hi => by rw [h4 i (by omega), q i (by omega)], fun i hi => by rw [q i (by omega)]; exact h5 i (by omega)⟩
end Arrays
section Wide
variable {p : Program} {l : Launch} {e : Env} {R : Room} {s : State} {m : MethodId} {args : Array Value} {below : List Frame} {meth : Method} {c : Code} {T : State} {locs : List Loc} {cells slots : Nat} {Q : Option Value → Heap → List Loc → Prop} {K : State → Prop} {C S : Nat} {Z : State} {a0 : Array Value} {h h' : Heap} {vm1 : Vm} {n1 : Nat}
def Fin_W (s : State) (Q : Option Value → Heap → List Loc → Prop) (K : State → Prop) (C S : Nat) (o : Outcome) (U' : State) : Prop :=
  ∃ v L, o = .returned v ∧ Q v U'.heap L ∧ K U' ∧ ReturnedEndW s o U' L C S
theorem own_wfin {pc : Nat} {Ls : Array Slot} {st : List Value} (X : Stand p l e R (s.setVm vm1) m args below meth c T locs cells slots) (hSi : s.Since vm1 n1) (hn1 : n1 ≤ T.heap.size) (hlk : meth.locks = false) {v : Option Value} (hv : meth.sig.returnType = none → v = none)
    (hstep : ∀ fs, (∀ (f : JFrame) (acts : List Action), f.method = m → f.locked = none → f.entered = [] → (doReturn e (T.setTop f) acts v).1 = T.setFrames fs) → Steps p.tables e below (T.setTop (mkF m pc Ls st)) (T.setFrames fs))
    (hK : ∀ U : State, U.vm = T.vm → U.heap = T.heap → K U) (hQ : Q v T.heap locs) (hC : cells ≤ C) (hS : slots ≤ S) : Goes p e below (Fin_W s Q K C S) (T.setTop (mkF m pc Ls st)) := by
  obtain ⟨fs, hr, hrun, hended, hW, h1, h2, hsame⟩ := X.leaveW hSi hn1 (v := v) hv hlk
  exact ⟨_, _, hstep fs hr, hrun, hended, _, _, rfl, hQ, hK _ rfl rfl, hW, h1, h2, hsame.mono hC hS⟩
theorem own_wfinV {pc : Nat} {Ls : Array Slot} (X : Stand p l e R (s.setVm vm1) m args below meth c T locs cells slots) (hSi : s.Since vm1 n1) (hn1 : n1 ≤ T.heap.size) (hK : ∀ U : State, U.vm = T.vm → U.heap = T.heap → K U) (hx : p.tables.exec = Jvm.exec) (hlk : meth.locks = false) (hret : meth.sig.returnType = none)
    (hd : decode c.code pc = .ok (.return_, 1)) (hQ : Q none T.heap locs) (hC : cells ≤ C) (hS : slots ≤ S) : Goes p e below (Fin_W s Q K C S) (T.setTop (mkF m pc Ls [])) :=
  own_wfin X hSi hn1 hlk (fun _ => rfl) (fun _ hr => X.returnOut hx hret hd hr) hK hQ hC hS
theorem own_wfinI {pc : Nat} {Ls : Array Slot} {z : Int32} {rest : List Value} (X : Stand p l e R (s.setVm vm1) m args below meth c T locs cells slots) (hSi : s.Since vm1 n1) (hn1 : n1 ≤ T.heap.size) (hK : ∀ U : State, U.vm = T.vm → U.heap = T.heap → K U) (hx : p.tables.exec = Jvm.exec) (hlk : meth.locks = false) (hret : meth.sig.returnType = some .int)
    (hd : decode c.code pc = .ok (.ireturn, 1)) (hQ : Q (some (.int z)) T.heap locs) (hC : cells ≤ C) (hS : slots ≤ S) : Goes p e below (Fin_W s Q K C S) (T.setTop (mkF m pc Ls (.int z :: rest))) :=
  own_wfin X hSi hn1 hlk (fun h => by rw [hret] at h; cases h) (fun _ hr => retOut X hx hret rfl (Or.inl ⟨rfl, Or.inl rfl, _, rfl⟩) hd hr) hK hQ hC hS
theorem own_wfinN {pc : Nat} {Ls : Array Slot} {z : Int32} {rest : List Value} (X : Stand p l e R (s.setVm vm1) m args below meth c T locs cells slots) (hSi : s.Since vm1 n1) (hn1 : n1 ≤ T.heap.size) (hK : ∀ U : State, U.vm = T.vm → U.heap = T.heap → K U) (hx : p.tables.exec = Jvm.exec) (hlk : meth.locks = false) {t : FieldType} (hret : meth.sig.returnType = some t)
    (ht : t = .boolean ∨ t = .byte ∨ t = .char ∨ t = .short) (hd : decode c.code pc = .ok (.ireturn, 1)) (hQ : Q (some (.int (nar t z))) T.heap locs) (hC : cells ≤ C) (hS : slots ≤ S) : Goes p e below (Fin_W s Q K C S) (T.setTop (mkF m pc Ls (.int z :: rest))) :=
  own_wfin X hSi hn1 hlk (fun h => by rw [hret] at h; cases h) (fun _ hr => retN X hx hret ht hd hr) hK hQ hC hS
theorem own_wfinR {pc : Nat} {Ls : Array Slot} {w : Value} {rest : List Value} (X : Stand p l e R (s.setVm vm1) m args below meth c T locs cells slots) (hSi : s.Since vm1 n1) (hn1 : n1 ≤ T.heap.size) (hK : ∀ U : State, U.vm = T.vm → U.heap = T.heap → K U) (hx : p.tables.exec = Jvm.exec) (hlk : meth.locks = false) {t : FieldType} (hret : meth.sig.returnType = some t) (ht : t.isReference = true) (hw : w.isRef = true) (hn : narrow t w = w)
    (hd : decode c.code pc = .ok (.areturn, 1)) (hQ : Q (some w) T.heap locs) (hC : cells ≤ C) (hS : slots ≤ S) : Goes p e below (Fin_W s Q K C S) (T.setTop (mkF m pc Ls (w :: rest))) :=
  own_wfin X hSi hn1 hlk (fun h => by rw [hret] at h; cases h) (fun _ hr => retOut X hx hret hn (Or.inr (Or.inr (Or.inr (Or.inr ⟨rfl, ht, hw⟩)))) hd hr) hK hQ hC hS
/-- a callee that may intern, by its contract -/
def BackW (l : Launch) (R : Room) (p : Program) (e : Env) (below : List Frame) (s : State) (sargs : Array Value) (y : MethodName) (len W : Nat)
    (Pre : Pt → Array Value → Prop) (Post : Pt → Array Value → Option Value → Pt → Prop) : Prop :=
  ∀ (m : MethodId) (meth : Method) (c : Code) (A : Pt) (g : JFrame) (ig : Instr) (mk : MethodId) (a : Array Value),
    Stand p l e R s m sargs below meth c A.U A.locs A.cells A.slots → g.method = m → g.locals.size = c.maxLocals → decode c.code g.pc = .ok (ig, len) →
    2 * g.monitorRoom + (g.stack.map fun v => v.category).sum ≤ W → A.U.methodNamed? y = some mk → Pre A a →
    ∃ (v : Option Value) (B : Pt), Stand p l e R (s.setVm B.U.vm) m sargs below meth c B.U B.locs B.cells B.slots ∧ s.Since B.U.vm B.U.heap.size ∧ Post A a v B ∧
      Steps p.tables e below (doInvoke e (A.U.setTop g) [] mk a).1 (B.U.setTop { g with pc := g.pc + len, stack := v.toList ++ g.stack })
theorem own_backOfW {y : MethodName} {bytes : ByteArray} {maxL : Nat} {ret : Option FieldType} {rm : Room} {len W : Nat} {as' : Array Value} {KP : State → Prop}
    (hM : MetFree l y (head1 [Cond.code y bytes maxL ret] rm) (fun a U => a = as' ∧ Z.Warmed39 U.vm ∧ U.heap = h ∧ KP U) (fun _ _ _ _ _ => True) (fun _ U o U' => ∃ v L, o = .returned v ∧ Q v U'.heap L ∧ K U' ∧ ReturnedEndW U o U' L rm.cells rm.slots))
    (hZ : Z.Warmed39 s.vm) (wc : (Cond.code y bytes maxL ret).before a0 Z = true) (wz : (Cond.initialized y.cls).before a0 Z = true) (hf : rm.frames + 1 ≤ R.frames) (hl : W + (maxL + 11) + rm.locals ≤ R.locals)
    (hKP : ∀ V : State, s.WarmedH V.vm → V.heap = h → KP V) :
    BackW l R p e below s args y len W (fun A a => a = as' ∧ A.U.heap = h ∧ A.cells + rm.cells ≤ R.cells ∧ A.slots + rm.slots ≤ R.slots)
      (fun A _ v B => ∃ L, (Q v B.U.heap L ∧ ∃ t : State, K t ∧ t.vm = B.U.vm ∧ t.heap = B.U.heap) ∧ B.locs = A.locs ++ L ∧ B.cells = A.cells + rm.cells ∧ B.slots = A.slots + rm.slots) := by
  intro m meth c A g ig mk a X hg hsize hdg hW hn hp
  obtain ⟨U, Ls, c0, s0⟩ := A
  dsimp only [Pt.U, Pt.locs, Pt.cells, Pt.slots] at X hn hp ⊢
  obtain ⟨rfl, hheap, hcl, hsl⟩ := hp
  have hU : Z.Warmed39 U.vm := wtrans hZ X.warmed
  have h1 : (head1 [Cond.code y bytes maxL ret] rm).pre.before a U = true := by show (Cond.and _ .tt).before a U = true; rw [Cond.before_and, mv hU wc]; rfl
  have h2 : (Cond.code y bytes maxL ret).before a U = true := mv hU wc
  have h3 : (Cond.initialized y.cls).before a U = true := mv hU wz
  obtain ⟨methY, cY, hmY, hcY, -, hlY, -, -, -, -⟩ := Cond.code_spec hn h2
  obtain ⟨kY, hkY, -⟩ := className_of_methodNamed hn
  have hinitY : kY.init = .initialized := Cond.initialized_spec (findClass_of_methodNamed hn) hkY h3
  have hAt : At U g.method c below := by rw [hg]; exact X.here
  have happ : (head1 [Cond.code y bytes maxL ret] rm).appliesLoose y e.platform (U.calling g mk a) = true :=
    Spec.appliesLoose_calling (g := g) hAt hdg hn hkY hinitY (X.room_calling (g := g) (R' := rm) hsize hmY hcY hf (by rw [hlY]; omega) hcl hsl) h1
  obtain ⟨mid, hmid⟩ := hAt.above
  have hfr : (U.setTop g).frames = (.java g :: mid) ++ below := by rw [State.frames_setTop' g hAt.top, hmid]; rfl
  obtain ⟨o, s₂, hsteps, -, hend, v, L, rfl, hq, hk, hfe⟩ := Steps.callFree hM p X.admits X.cas X.clock (acts := []) hfr happ ⟨rfl, hU, hheap, hKP _ X.warmed hheap⟩ trivial
  rw [State.frames_setTop' g hAt.top] at hend
  have hfe' : ReturnedEndW (U.calling g mk a) (.returned v) s₂ L rm.cells rm.slots := hfe
  obtain ⟨-, hW₂, hB₂, e2, q2, q3, q4, q5, q6⟩ := id hfe'
  have hW' : U.Warmed39 s₂.vm := hW₂
  have hB' : U.Booked s₂.vm s₂.heap.size := hB₂
  have e3 : s₂ = ({ (U.calling g mk a).setFrames s₂.frames with heap := s₂.heap, slotsUsed := s₂.slotsUsed } : State).setVm s₂.vm := by
    have : s₂ = ({ s₂ with vm := (U.calling g mk a).vm } : State).setVm s₂.vm := rfl
    rw [e2] at this
    exact this
  obtain ⟨c₂, i₂, len₂, hc₂, hd₂, hf₂⟩ := hend
  have hcc : c₂ = c := by
    have h1 : s₂.code? g.method = U.code? g.method := by rw [State.code?_eq, State.code?_eq, hW'.alike.method?]
    exact Option.some.inj (hc₂.symm.trans (h1.trans hAt.code))
  subst hcc
  have hlen : len₂ = len := by rw [hdg] at hd₂; cases hd₂; rfl
  subst hlen
  obtain ⟨g₀, hg0⟩ := Option.isSome_iff_exists.mp hAt.top
  obtain ⟨r, hr⟩ := State.topJava?_eq_some.mp hg0
  have hs₂ : s₂ = (({ U with heap := s₂.heap, slotsUsed := s₂.slotsUsed } : State).setVm s₂.vm).setTop { g with pc := g.pc + len₂, stack := v.toList ++ g.stack } := by
    have hr' : (({ U with heap := s₂.heap, slotsUsed := s₂.slotsUsed } : State).setVm s₂.vm).frames = .java g₀ :: r := hr
    refine e3.trans ?_
    rw [hf₂, State.calling_eq hAt.top, State.setFrames_setFrames, State.setTop_of_frames _ hr', hr]
    rfl
  have hsame : U.sameButNew ({ U with heap := s₂.heap, slotsUsed := s₂.slotsUsed } : State) L rm.cells rm.slots := by
    refine ⟨?_, q2, q3, q4, q5, q6⟩
    obtain ⟨t, ht, -⟩ := State.frames_cons hr
    show ({ U with heap := s₂.heap, slotsUsed := s₂.slotsUsed } : State) = { U.setFrames U.frames with heap := s₂.heap, slotsUsed := s₂.slotsUsed }
    rw [State.setFrames_self ht]
  subst hg
  obtain ⟨X', hSi⟩ := X.movedW (T₂ := (({ U with heap := s₂.heap, slotsUsed := s₂.slotsUsed } : State).setVm s₂.vm)) ((X.here.setHeapUsed s₂.heap s₂.slotsUsed).setVm hW'.alike) X.tail rfl rfl hW' hB' hsame
  refine ⟨v, ⟨(({ U with heap := s₂.heap, slotsUsed := s₂.slotsUsed } : State).setVm s₂.vm), Ls ++ L, c0 + rm.cells, s0 + rm.slots⟩, X', hSi, ⟨L, ⟨hq, s₂, hk, rfl, rfl⟩, rfl, rfl, rfl⟩, ?_⟩
  show Steps p.tables e below _ ((({ U with heap := s₂.heap, slotsUsed := s₂.slotsUsed } : State).setVm s₂.vm).setTop { g with pc := g.pc + len₂, stack := v.toList ++ g.stack })
  rw [← hs₂]
  exact hsteps
theorem own_callSW (X : Stand p l e R s m args below meth c T locs cells slots) (hexec : p.tables.exec = Jvm.exec) {own : String} {index : Nat} {y : MethodName} {bytes : ByteArray} {maxL : Nat} {ret : Option FieldType}
    (hown : s.vm.findClass own = some m.cls) (hlink : (Cond.methodLink own index y).before args s = true) (hstat : (Cond.static y).before args s = true) (hinit : (Cond.initialized y.cls).before args s = true)
    (hcode : (Cond.code y bytes maxL ret).before args s = true) (hy : y.cls ≠ "java/lang/invoke/MethodHandle" ∧ y.cls ≠ "java/lang/invoke/VarHandle")
    {W : Nat} {Pre : Pt → Array Value → Prop} {Post : Pt → Array Value → Option Value → Pt → Prop} (hK : BackW l R p e below s args y 3 W Pre Post)
    {g : JFrame} (hg : g.method = m) (hsize : g.locals.size = c.maxLocals) {argsL rest : List Value} (hlen : ∀ sig, parseMethodDescriptor y.desc = some sig → argsL.length = sig.parameters.length)
    (hstack : g.stack = argsL.reverse ++ rest) (hW : 2 * g.monitorRoom + (rest.map fun v => v.category).sum ≤ W) (hdg : decode c.code g.pc = .ok (.invokestatic index, 3))
    (hpre : ∀ vm₁, s.WarmedH vm₁ → Pre ⟨T.setVm vm₁, locs, cells, slots⟩ argsL.toArray) :
    ∃ (v : Option Value) (vm₁ : Vm) (B : Pt), s.WarmedH vm₁ ∧ (Stand p l e R (s.setVm B.U.vm) m args below meth c B.U B.locs B.cells B.slots ∧ s.Since B.U.vm B.U.heap.size) ∧ Post ⟨T.setVm vm₁, locs, cells, slots⟩ argsL.toArray v B ∧
      ∀ target, Steps p.tables e below (B.U.setTop { g with pc := g.pc + 3, stack := v.toList ++ rest }) target → Steps p.tables e below (T.setTop g) target := by
  obtain ⟨mk, hnamed⟩ := Cond.code_named hcode
  obtain ⟨methM, cM, hmethM, -, -, -, -, -, -, hsigM⟩ := Cond.code_spec hnamed hcode
  have hstatic : methM.isStatic = true := Cond.static_spec hnamed hmethM hstat
  obtain ⟨kP, hkP, -⟩ := className_of_methodNamed hnamed
  have hinitP : kP.init = .initialized := Cond.initialized_spec (findClass_of_methodNamed hnamed) hkP hinit
  obtain ⟨vm₁, X₁, hstep₁⟩ := X.invokestatic hexec hown hlink hnamed hmethM hstatic hkP hinitP hy (g := g) hg (argsL := argsL) (rest := rest) (hlen _ hsigM) hstack hdg
  obtain ⟨v, B, X', hSi, hpost, hsteps⟩ := hK m meth c ⟨T.setVm vm₁, locs, cells, slots⟩ { g with stack := rest } (.invokestatic index) mk argsL.toArray X₁ hg hsize hdg hW (X₁.named hnamed) (hpre vm₁ X₁.warmed)
  exact ⟨v, vm₁, B, X₁.warmed, ⟨X', hSi⟩, hpost, fun target hh => hstep₁ _ fun acts => by rw [doInvoke_state]; exact hsteps.trans hh⟩
theorem own_specialW (X : Stand p l e R s m args below meth c T locs cells slots) (hexec : p.tables.exec = Jvm.exec) {own : String} {index : Nat} {y : MethodName} (hy1 : y.name = "<init>")
    (hown : s.vm.findClass own = some m.cls) (hlink : (Cond.methodLink own index y).before args s = true) (hinst : (Cond.instanceMethod y).before args s = true)
    {bytes : ByteArray} {maxL : Nat} (hcode : (Cond.code y bytes maxL none).before args s = true) (hy : y.cls ≠ "java/lang/invoke/MethodHandle" ∧ y.cls ≠ "java/lang/invoke/VarHandle")
    {W : Nat} {Pre : Pt → Array Value → Prop} {Post : Pt → Array Value → Option Value → Pt → Prop} (hK : BackW l R p e below s args y 3 W Pre Post)
    {g : JFrame} (hg : g.method = m) (hsize : g.locals.size = c.maxLocals) {a : Addr} {argsL rest : List Value}
    (hlen : ∀ sig, parseMethodDescriptor y.desc = some sig → argsL.length = sig.parameters.length) (hstack : g.stack = argsL.reverse ++ .ref a :: rest) (hW : 2 * g.monitorRoom + (rest.map fun v => v.category).sum ≤ W)
    (hdg : decode c.code g.pc = .ok (.invokespecial index, 3)) (hpre : ∀ vm₁, s.WarmedH vm₁ → Pre ⟨T.setVm vm₁, locs, cells, slots⟩ (.ref a :: argsL).toArray) :
    ∃ (v : Option Value) (vm₁ : Vm) (B : Pt), s.WarmedH vm₁ ∧ (Stand p l e R (s.setVm B.U.vm) m args below meth c B.U B.locs B.cells B.slots ∧ s.Since B.U.vm B.U.heap.size) ∧ Post ⟨T.setVm vm₁, locs, cells, slots⟩ (.ref a :: argsL).toArray v B ∧
      ∀ target, Steps p.tables e below (B.U.setTop { g with pc := g.pc + 3, stack := v.toList ++ rest }) target → Steps p.tables e below (T.setTop g) target := by
  have hpl : e.platform.magicAccessors = ({} : Platform).magicAccessors := by rw [X.admits.platform]
  obtain ⟨mk, methM, cM, kP, vm₁, hnamed, hmethM, -, -, -, -, hkP, -, hW₁, hstep₁⟩ :=
    Steps.initColdArgs (e := e) X.here hexec X.warmed hpl hown hy1 hy hlink hinst hcode (f := g) hg hlen hstack hdg
  have X₁ := X.noted hW₁
  obtain ⟨v, B, X', hSi, hpost, hsteps⟩ := hK m meth c ⟨T.setVm vm₁, locs, cells, slots⟩ { g with stack := rest } (.invokespecial index) mk (.ref a :: argsL).toArray X₁ hg hsize hdg hW (X₁.named hnamed) (hpre vm₁ hW₁)
  exact ⟨v, vm₁, B, hW₁, ⟨X', hSi⟩, hpost, fun target hh => (hstep₁ _ fun acts => by rw [doInvoke_state]; exact Steps.refl _).trans (hsteps.trans hh)⟩
theorem own_virtualW (X : Stand p l e R s m args below meth c T locs cells slots) (hexec : p.tables.exec = Jvm.exec) {own C : String} {index : Nat} {y z : MethodName}
    (hown : s.vm.findClass own = some m.cls) (hlink : (Cond.methodLink own index y).before args s = true) (hdecl : (Cond.declares y).before args s = true) (hnf : NotFace s y)
    (hsel : (Cond.selects C y z).before args s = true) (hinst : (Cond.instanceMethod z).before args s = true)
    (hy : y.cls ≠ "java/lang/invoke/MethodHandle" ∧ y.cls ≠ "java/lang/invoke/VarHandle")
    {W : Nat} {Pre : Pt → Array Value → Prop} {Post : Pt → Array Value → Option Value → Pt → Prop} (hK : BackW l R p e below s args z 3 W Pre Post)
    {b : Addr} {cB : ClassId} (hcB : s.vm.findClass C = some cB) (hrecv : IsOf cB T b)
    {g : JFrame} (hg : g.method = m) (hsize : g.locals.size = c.maxLocals) {argsL rest : List Value}
    (hlen : ∀ sig, parseMethodDescriptor y.desc = some sig → argsL.length = sig.parameters.length) (hstack : g.stack = argsL.reverse ++ .ref b :: rest) (hW : 2 * g.monitorRoom + (rest.map fun v => v.category).sum ≤ W)
    (hdg : decode c.code g.pc = .ok (.invokevirtual index, 3)) (hpre : ∀ vm₁, s.WarmedH vm₁ → Pre ⟨T.setVm vm₁, locs, cells, slots⟩ (.ref b :: argsL).toArray) :
    ∃ (v : Option Value) (vm₁ : Vm) (B : Pt), s.WarmedH vm₁ ∧ (Stand p l e R (s.setVm B.U.vm) m args below meth c B.U B.locs B.cells B.slots ∧ s.Since B.U.vm B.U.heap.size) ∧ Post ⟨T.setVm vm₁, locs, cells, slots⟩ (.ref b :: argsL).toArray v B ∧
      ∀ target, Steps p.tables e below (B.U.setTop { g with pc := g.pc + 3, stack := v.toList ++ rest }) target → Steps p.tables e below (T.setTop g) target := by
  obtain ⟨cellB, hcellT, hclsB, hstatB⟩ := hrecv
  obtain ⟨r0, r, hn, hrm, hstR, hsigR⟩ := Cond.declares_spec hdecl
  obtain ⟨mk, methM, hnamed, hmethM, -, habM⟩ := Cond.instanceMethod_spec hinst
  obtain ⟨c2, r2, m2, q1, q2, q3, q4, kP, hkP, hkPi⟩ := Cond.selects_spec hsel
  cases hcB.symm.trans q1
  cases (State.methodFound?_of_named hn hy).symm.trans q2
  cases hnamed.symm.trans q3
  have hselP : selectMethod e.platform s.vm cellB.cls r0 = .method mk := by rw [Launch.admits_selectMethod X.admits, hclsB]; exact q4
  obtain ⟨kr, hkr, hni⟩ := hnf r0 hn
  obtain ⟨vm₁, X₁, hstep₁⟩ := X.invokevirtual hexec hown hlink hn hrm hstR hkr hni hy (a := b) (cell := cellB) hcellT
    (fun z h => by rw [h] at hstatB; cases hstatB) hselP hmethM habM hkP hkPi (g := g) hg (argsL := argsL) (rest := rest) (hlen _ hsigR) hstack hdg
  obtain ⟨v, B, X', hSi, hpost, hsteps⟩ := hK m meth c ⟨T.setVm vm₁, locs, cells, slots⟩ { g with stack := rest } (.invokevirtual index) mk (.ref b :: argsL).toArray X₁ hg hsize hdg hW (X₁.named hnamed) (hpre vm₁ X₁.warmed)
  exact ⟨v, vm₁, B, X₁.warmed, ⟨X', hSi⟩, hpost, fun target hh => hstep₁ _ fun acts => by rw [doInvoke_state]; exact hsteps.trans hh⟩
end Wide
section Konst
variable {p : Program} {l : Launch} {e : Env} {R : Room} {s : State} {m : MethodId} {args : Array Value} {below : List Frame} {meth : Method} {c : Code} {T : State} {locs : List Loc} {cells slots : Nat} {Z : State} {a0 : Array Value} {h h' : Heap} {vm0 vm1 : Vm} {own text : String} {index : Nat} {z : Int32} {vs : List Value} {w : Addr} {KL : List (String × Nat × String × Int32 × List Value)}
/-- a String constant whose entry is resolved, and its object known -/
def KC (Z : State) (x : String × Nat × String × Int32 × List Value) (vm : Vm) (h : Heap) : Prop :=
  ∃ (a b : Addr) (k : ClassId), Lit (Z.setVm vm) x.1 x.2.1 a ∧ Exa Z h a "java/lang/String" ∧ Fld Z h a "java/lang/String" "coder" "B" (.int 0) ∧ Fld Z h a "java/lang/String" "value" "[B" (.ref b) ∧ Arv Z h b k .byte x.2.2.2.1 x.2.2.2.2 (.int 0)
/-- of each String constant: our run has not interned its text yet, or it is known -/
def KS (Z : State) (KL : List (String × Nat × String × Int32 × List Value)) (vm : Vm) (h : Heap) : Prop := ∃ Ts, IB Z vm Ts ∧ ∀ x ∈ KL, x.2.2.1 ∉ Ts ∨ KC Z x vm h
theorem KS.ext (K : KS Z KL vm0 h) (E : Ext h h') : KS Z KL vm0 h' := by
  obtain ⟨Ts, I, H⟩ := K
  refine ⟨Ts, I, fun x hx => (H x hx).imp id ?_⟩
  rintro ⟨a, b, k, L, A, C, V, B⟩
  exact ⟨a, b, k, L, A.ext E, C.ext E, V.ext E, B.ext E⟩
def NoS (Z : State) (h : Heap) (w : Addr) : Prop := ∀ (a b : Addr) (k : ClassId) (z : Int32) (vs : List Value), Exa Z h a "java/lang/String" → Fld Z h a "java/lang/String" "value" "[B" (.ref b) → Arv Z h b k .byte z vs (.int 0) → a ≠ w ∧ b ≠ w
theorem NoS.obj {C : String} {kk : Nat} (E : Exa Z h w C) (wi : (Cond.instantiable C kk).before a0 Z = true) (hC : C ≠ "java/lang/String") : NoS Z h w := fun a b k z vs A V B => ⟨fun q => ne_exa E A hC q.symm, fun q => E.neArv B wi q.symm⟩
theorem NoS.str {kk : Nat} (E : Exa Z h w "java/lang/String") (wi : (Cond.instantiable "java/lang/String" kk).before a0 Z = true) (F : Fld Z h w "java/lang/String" "value" "[B" .null) : NoS Z h w := fun a b k z vs A V B => ⟨fun q => Fld.ne F V (by intro q; cases q) q.symm, fun q => E.neArv B wi q.symm⟩
theorem NoS.arr {kk : Nat} {k0 : ClassId} {ty : FieldType} {n : Nat} {f : Nat → Value} (A0 : Arw Z h w k0 ty n f) (wi : (Cond.instantiable "java/lang/String" kk).before a0 Z = true) (ht : ty ≠ .byte) : NoS Z h w := fun a b k z vs A V B => ⟨fun q => own_ne_arr A wi A0 q, fun q => by
  subst q
  obtain ⟨c1, ⟨e1, ⟨-, k1, hk1, comp1, hd1⟩, -⟩, -⟩ := A0
  obtain ⟨c2, ⟨e2, ⟨-, k2, hk2, comp2, hd2⟩, -⟩, -⟩ := B
  cases e1.symm.trans e2
  cases hk1.symm.trans hk2
  rw [hd1] at hd2
  cases hd2
  exact ht rfl⟩
theorem KS.wr {sl : Nat} {v : Value} (K : KS Z KL vm0 h) (W : Wr h h' w sl v) (q : NoS Z h w) : KS Z KL vm0 h' := by
  obtain ⟨Ts, I, H⟩ := K
  refine ⟨Ts, I, fun x hx => (H x hx).imp id ?_⟩
  rintro ⟨a, b, k, L, A, C, V, B⟩
  obtain ⟨q1, q2⟩ := q a b k _ _ A V B
  exact ⟨a, b, k, L, A.wr W, C.other W (Or.inl q1), V.other W (Or.inl q1), B.other W q2⟩
theorem KS.keep {ws : List Addr} (K : KS Z KL vm0 h) (P : Keep h h' ws) (q : ∀ w ∈ ws, NoS Z h w) : KS Z KL vm0 h' := by
  obtain ⟨Ts, I, H⟩ := K
  refine ⟨Ts, I, fun x hx => (H x hx).imp id ?_⟩
  rintro ⟨a, b, k, L, A, C, V, B⟩
  have q1 : a ∉ ws := fun hm => (q a hm a b k _ _ A V B).1 rfl
  have q2 : b ∉ ws := fun hm => (q b hm a b k _ _ A V B).2 rfl
  exact ⟨a, b, k, L, A.keep P, C.keep P q1, V.keep P q1, B.keep P q2⟩
theorem KS.at_ (K : KS Z KL vm0 h) (hW : (s.setVm vm0).WarmedH vm1) : KS Z KL vm1 h := by
  obtain ⟨Ts, ⟨more, e1, e2⟩, H⟩ := K
  refine ⟨Ts, ⟨more, by rw [← e1]; exact hW.interned_eq, e2⟩, fun x hx => (H x hx).imp id ?_⟩
  rintro ⟨a, b, k, L, r⟩
  exact ⟨a, b, k, Lit.stays (s := s) L hW.wide, r⟩
theorem KS.start : KS Z KL Z.vm h := ⟨[], IB.start, fun x hx => Or.inl (by simp)⟩
theorem own_ldcK (X : Stand p l e R (s.setVm vm0) m args below meth c T locs cells slots) (hx : p.tables.exec = Jvm.exec) (hZ : Z.Warmed39 vm0) (hown : vm0.findClass own = some m.cls) (w : (Cond.stringLink own index text).before a0 Z = true) (wS : ∀ a ∈ Bundle.stringAtoms, a.before a0 Z = true)
    (eT : T.heap = h) {k0 : Nat} (hS : s.Since vm0 k0) (hk : k0 ≤ h.size) (N : Fr s.heap.size locs) (hkeep : ∀ (b : Addr) (cl : Cell), Z.heap[b]? = some cl → s.heap[b]? = some cl) (K : KS Z KL vm0 h) (hm : (own, index, text, z, vs) ∈ KL) (hdis : ∀ y ∈ KL, y.2.2.1 = text → y = (own, index, text, z, vs)) (hh : Jvm.Lit.constHeld Z own index) (hcw : Jvm.Lit.compactW.before a0 Z = true)
    (ht : (∀ c ∈ text.toList, c.toNat < 256) ∧ text.toList.map (fun c => Value.int (Jvm.Lit.byteI c.toNat.toUInt16)) = vs) (hz : ¬ z < 0) (hl : z.toNatClampNeg = vs.length)
    {g : JFrame} (hg : g.method = m) (hd : decode c.code g.pc = .ok (.ldc index, 2)) {n : Nat} (hn : 4 * text.toList.length ≤ n) (hbig : n ≤ 536870912) (hc : cells + 2 ≤ R.cells) (hl' : slots + (n + 4) ≤ R.slots) :
    ∃ (a : Addr) (T' : State) (h' : Heap) (vm1 : Vm) (k1 : Nat) (b : Addr) (k : ClassId), Stand p l e R (s.setVm vm1) m args below meth c T' locs (cells + 2) (slots + (n + 4)) ∧ T'.heap = h' ∧ Ext h h' ∧ s.Since vm1 k1 ∧ k1 ≤ h'.size ∧ Z.Warmed39 (s.setVm vm1).vm ∧ (s.setVm vm1).vm.findClass own = some m.cls ∧
      Exa Z h' a "java/lang/String" ∧ Fld Z h' a "java/lang/String" "coder" "B" (.int 0) ∧ Fld Z h' a "java/lang/String" "value" "[B" (.ref b) ∧ Arv Z h' b k .byte z vs (.int 0) ∧ Lit (Z.setVm vm1) own index a ∧ KS Z KL vm1 h' ∧
      ∀ target, Steps p.tables e below (T'.setTop { g with pc := g.pc + 2, stack := .ref a :: g.stack }) target → Steps p.tables e below (T.setTop g) target := by
  obtain ⟨Ts, I, H⟩ := K
  rcases H _ hm with hnot | ⟨a, b, k, L, A, C, V, B⟩
  · obtain ⟨a, T', h', k1, b, k, X', e', E', S', hk', hZ', hown', A, C, V, B, -, -, I', L', st⟩ := ldcSVL (s := s.setVm vm0) X hx hZ hown w wS eT ((State.WarmedH.refl (s.setVm vm0)).since 0) (Nat.zero_le _) N hkeep I hnot hh hcw ht hz hl hg hd hn hbig hc hl'
    refine ⟨a, T', h', T'.vm, h'.size, b, k, X', e', E', hS.trans ⟨S'.1, S'.2.mono hk'⟩ (Nat.le_trans hk E'.1), Nat.le_refl _, hZ', hown', A, C, V, B, L', ⟨text :: Ts, I', fun y hy => ?_⟩, st⟩
    by_cases hte : y.2.2.1 = text
    · obtain rfl := hdis y hy hte
      exact Or.inr ⟨a, b, k, L', A, C, V, B⟩
    · rcases H y hy with q | ⟨a2, b2, k2, L2, r1, r2, r3, r4⟩
      · exact Or.inl (by simp [hte, q])
      · exact Or.inr ⟨a2, b2, k2, Lit.stays (s := s) L2 S'.1, r1.ext E', r2.ext E', r3.ext E', r4.ext E'⟩
  · exact ⟨a, T, h, vm0, k0, b, k, X.mono (by omega) (by omega), eT, ⟨Nat.le_refl _, fun _ _ q => q⟩, hS, hk, hZ, hown, A, C, V, B, L, ⟨Ts, I, H⟩, ldcAgain X hx hZ hown w L hg hd⟩
end Konst
def own_KL : List (String × Nat × String × Int32 × List Value) := [("java/lang/String", 7, "", (0 : Int32), []), ("com/example/map_rewriter/maprewriter/core/Symbol", 7, "content", (7 : Int32), [(.int 99), (.int 111), (.int 110), (.int 116), (.int 101), (.int 110), (.int 116)]), ("com/example/map_rewriter/maprewriter/core/Symbol", 76, "~!@$%^&*_-+=<>.?/", (17 : Int32), [(.int 126), (.int 33), (.int 64), (.int 36), (.int 37), (.int 94), (.int 38), (.int 42), (.int 95), (.int 45), (.int 43), (.int 61), (.int 60), (.int 62), (.int 46), (.int 63), (.int 47)])]
def own_e0 : Nat → Value := fun i => ([] : List Value).getD i (.int 0)
def own_cs (n c d : Int32) : List Int32 := if n = (0 : Int32) then [] else if n = (1 : Int32) then [nar .char c] else [nar .char c, nar .char d]
def own_n (n c d : Int32) : Int32 := Int32.ofNat (own_cs n c d).length
def own_v (n c d : Int32) : List Value := ((own_cs n c d).map (fun c => c.toInt8.toInt32)).map Value.int
theorem own_cs0 {n : Int32} (c d : Int32) (h : n = (0 : Int32)) : own_cs n c d = [] := if_pos h
theorem own_cs1 {n : Int32} (c d : Int32) (h0 : ¬ n = (0 : Int32)) (h : n = (1 : Int32)) : own_cs n c d = [nar .char c] := (if_neg h0).trans (if_pos h)
theorem own_cs2 {n : Int32} (c d : Int32) (h0 : ¬ n = (0 : Int32)) (h : ¬ n = (1 : Int32)) : own_cs n c d = [nar .char c, nar .char d] := (if_neg h0).trans (if_neg h)
theorem own_nar {c : Int32} (h : c &&& (255 : Int32) = c) : nar .char c = c := by
  have q : nar .char (c &&& (255 : Int32)) = c &&& (255 : Int32) := i2c_mask c
  rw [h] at q
  exact q
theorem own_lat1 {c : Int32} (h : c &&& (255 : Int32) = c) : ¬ nar .char c < 0 ∧ ¬ (255 : Int32) < nar .char c := by
  rw [own_nar h, ← h]
  exact own_and255 c
theorem own_lat {n c d : Int32} (h : c &&& (255 : Int32) = c) (h2 : d &&& (255 : Int32) = d) : ∀ x ∈ own_cs n c d, ¬ x < 0 ∧ ¬ (255 : Int32) < x := by
  intro x hx
  unfold own_cs at hx
  split at hx
  · cases hx
  · split at hx
    · rw [List.mem_singleton] at hx
      subst hx
      exact own_lat1 h
    · rcases List.mem_cons.mp hx with rfl | hx
      · exact own_lat1 h
      · rw [List.mem_singleton] at hx
        subst hx
        exact own_lat1 h2
theorem own_wideb {cs : List Int32} (h : ∀ x ∈ cs, ¬ x < 0 ∧ ¬ (255 : Int32) < x) : ∀ x ∈ cs, ¬ x < 0 ∧ ¬ (65535 : Int32) < x := fun x hx => ⟨(h x hx).1, fun q => (h x hx).2 (Int32.lt_iff_toInt_lt.mpr (by
  have q1 := Int32.lt_iff_toInt_lt.mp q
  have q2 : (65535 : Int32).toInt = 65535 := by decide
  have q3 : (255 : Int32).toInt = 255 := by decide
  omega))⟩
theorem own_len (n c d : Int32) : (own_cs n c d).length ≤ 4000 := by
  unfold own_cs
  split
  · simp
  · split
    · simp
    · simp
theorem own_coda {n c d : Int32} (h : c &&& (255 : Int32) = c) (h2 : d &&& (255 : Int32) = d) : StrChars.Road.CodA (own_cs n c d) 0 (own_n n c d) (own_v n c d) := Or.inl ⟨rfl, rfl, by simp [own_v, List.map_map, Function.comp_def, StrChars.lo8], fun x hx => (own_lat h h2 x hx).2⟩
theorem own_012 (x : Int32) : ((x &&& (3 : Int32)) % (3 : Int32) = (0 : Int32)) ∨ ((x &&& (3 : Int32)) % (3 : Int32) = (1 : Int32)) ∨ ((x &&& (3 : Int32)) % (3 : Int32) = (2 : Int32)) := by
  have q1 := c_and x 3 (by decide)
  have c3 : (3 : Int32).toInt = 3 := by decide
  have q2 := (c_irem (x &&& 3) 3 3 (by decide)).1 q1.1
  generalize (x &&& (3 : Int32)) % (3 : Int32) = y at q2
  have h : y.toInt = 0 ∨ y.toInt = 1 ∨ y.toInt = 2 := by omega
  rcases h with h | h | h
  · exact Or.inl (Int32.toInt_inj.mp (h.trans (by decide)))
  · exact Or.inr (Or.inl (Int32.toInt_inj.mp (h.trans (by decide))))
  · exact Or.inr (Or.inr (Int32.toInt_inj.mp (h.trans (by decide))))
theorem own_mm (x : Int32) : (x &&& (255 : Int32)) &&& (255 : Int32) = x &&& (255 : Int32) := by rw [Int32.and_assoc]; rfl
theorem own_same {l k a b c d : Int32} (hl : l = (0 : Int32) ∨ l = (1 : Int32) ∨ l = (2 : Int32)) (hk : k = (0 : Int32) ∨ k = (1 : Int32) ∨ k = (2 : Int32)) (ha : a &&& (255 : Int32) = a) (hb : b &&& (255 : Int32) = b) (hc : c &&& (255 : Int32) = c) (hd : d &&& (255 : Int32) = d) :
    own_cs l a b = own_cs k c d ↔ (l = k ∧ (l < (1 : Int32) ∨ a = c) ∧ (l < (2 : Int32) ∨ b = d)) := by
  have na := own_nar ha
  have nb := own_nar hb
  have nc := own_nar hc
  have nd := own_nar hd
  rcases hl with rfl | rfl | rfl <;> rcases hk with rfl | rfl | rfl <;> simp [own_cs, na, nb, nc, nd] <;> decide
def own_find (g : Nat → Int32) (b : Int32) : Nat → Nat → Int32 → Int32
  | 0, _, _ => -1
  | k + 1, j, i => if g j = b then i else own_find g b k (j + 1) (i + 1)
theorem own_find_end {g : Nat → Int32} {b i : Int32} {N j : Nat} (h : N ≤ j) : own_find g b (N - j) j i = -1 := by
  rw [Nat.sub_eq_zero_of_le h]
  rfl
theorem own_find_hit {g : Nat → Int32} {b i : Int32} {N j : Nat} (h : j < N) (q : g j = b) : own_find g b (N - j) j i = i := by
  obtain ⟨k, hk⟩ : ∃ k, N - j = k + 1 := ⟨N - j - 1, by omega⟩
  rw [hk]
  exact if_pos q
theorem own_find_next {g : Nat → Int32} {b i : Int32} {N j : Nat} (h : j < N) (q : ¬ g j = b) : own_find g b (N - (j + 1)) (j + 1) (i + 1) = own_find g b (N - j) j i := by
  obtain ⟨k, hk⟩ : ∃ k, N - j = k + 1 := ⟨N - j - 1, by omega⟩
  rw [hk, show N - (j + 1) = k by omega]
  exact (if_neg q).symm
theorem own_nz {N : Nat} {nz : Int32} (h : nz.toInt = (N : Int)) : (N : Nat).toInt32 = nz := by
  have q := nz.toInt_lt
  apply Int32.toInt_inj.mp
  rw [h]
  show (Int32.ofNat N).toInt = _
  rw [Int32.toInt_ofNat_of_lt (by omega)]
theorem own_p1 {i : Int32} {j : Nat} (h : i.toInt = (j : Int)) (hj : j < 2147483647) : (i + 1).toInt = ((j + 1 : Nat) : Int) := by
  have q := c_iadd i 1
  have q1 : (1 : Int32).toInt = 1 := by decide
  have q3 := rng32 (i + 1)
  omega
theorem own_shr0 (x : Int32) : x >>> ((0 : Int32) &&& 31) = x := by
  rw [show ((0 : Int32) &&& 31) = 0 by decide]
  exact Int32.shiftRight_zero
theorem own_nc (x : Int32) : some (Value.int (nar .char ((x &&& (255 : Int32)).toUInt32.toUInt16.toUInt32.toInt32))) = some (Value.int ((x &&& (255 : Int32)).toUInt32.toUInt16.toUInt32.toInt32)) := congrArg (fun z => some (Value.int z)) (((congrArg (nar .char) (i2c_mask x)).trans (i2c_mask x)).trans (i2c_mask x).symm)
theorem own_ret {x y : Int32} (h : x = y) : some (Value.int x) = some (Value.int y) := by rw [h]
theorem own_noInst {Z : State} {C S K : String} {a0 : Array Value} {n : Nat} (w0 : (Cond.noSuperclass S).before a0 Z = true) (w : (Cond.superclass C S).before a0 Z = true) (wk : (Cond.instantiable K n).before a0 Z = true) (hn : C ≠ K) (hs : S ≠ K) : ∃ c t, Z.vm.findClass C = some c ∧ Z.vm.findClass K = some t ∧ Z.vm.assignable c t = false := by
  obtain ⟨t, kt, g1, g2, g3, g4, -⟩ := Cond.instantiable_spec wk
  obtain ⟨c0, k0, z1, z2, z3, -, -⟩ := Cond.noSuperclass_spec w0
  obtain ⟨c, h0⟩ := found_sup w
  obtain ⟨p, k, kp, h1, h2, h3, h4, h5, -, h7⟩ := Cond.superclass_spec h0 w
  cases h1.symm.trans z1
  cases h3.symm.trans z2
  have ne0 := ids_ne z1 g1 hs
  have ne := ids_ne h0 g1 hn
  have g7 : kt.isInterface = false := by
    cases q : kt.isInterface with
    | false => rfl
    | true => rw [q] at g4; simp at g4
  have n0 : ∀ fuel, Z.vm.isSubclassAux fuel c0 t = false := fun fuel => by
    cases fuel with
    | zero => rfl
    | succ f => simp [Vm.isSubclassAux, ne0, z2, z3]
  have n3 : ∀ fuel, Z.vm.isSubclassAux fuel c t = false := fun fuel => by
    cases fuel with
    | zero => rfl
    | succ f => simp [Vm.isSubclassAux, ne, h2, h4, n0]
  refine ⟨c, t, h0, g1, ?_⟩
  show Z.vm.assignableAux (255 + 1) c t = false
  simp [Vm.assignableAux, ne, h2, g2, h5, g3, g7, Vm.isSubclass, n3]
theorem ef_rm14 (m : MethodId) (a : Addr) : entryFrame m #[(.ref a)] 1 = mkF m 0 #[.val (.ref a)] [] := by first | (simp [entryFrame, mkF, argsToLocals, Value.category]; done) | rfl
def Qrm14 (Z : State) (a : Addr) (cS : Int32) (h0 : Heap) (n0 : Nat) (v_ : Option Value) (h_ : Heap) (L_ : List Loc) : Prop := v_ = some (.int (1 : Int32)) ∧ L_ = [] ∧ h_ = h0
theorem pn_java_lang_String : plainName "java/lang/String" = true := by first | (simp [plainName, overriddenIn]; done) | decide +kernel
theorem d14_0 : decode jdk_42_method_154_code 0 = .ok (.getstatic 38, 3) := by decide +kernel
theorem d14_3 : decode jdk_42_method_154_code 3 = .ok (.ifCond .eq 14, 3) := by decide +kernel
theorem d14_6 : decode jdk_42_method_154_code 6 = .ok (.aload_n 0, 1) := by decide +kernel
theorem d14_7 : decode jdk_42_method_154_code 7 = .ok (.getfield 15, 3) := by decide +kernel
theorem d14_10 : decode jdk_42_method_154_code 10 = .ok (.ifCond .ne 7, 3) := by decide +kernel
theorem d14_13 : decode jdk_42_method_154_code 13 = .ok (.iconst 1, 1) := by decide +kernel
theorem d14_14 : decode jdk_42_method_154_code 14 = .ok (.goto 4, 3) := by decide +kernel
theorem d14_18 : decode jdk_42_method_154_code 18 = .ok (.ireturn, 1) := by decide +kernel
set_option maxRecDepth 65536 in
set_option maxHeartbeats 40000000 in
theorem rm14 (l : Launch) (Z : State) (a0 : Array Value) (hw : ∀ d ∈ tables_1, d.before a0 Z = true) (ws : List Jvm.Cond) (a : Addr) (cS : Int32) (h0 : Heap) (n0 : Nat) (Z0 : n0 ≤ h0.size) (F0_a_coder : Fld Z h0 a "java/lang/String" "coder" "B" (.int (0 : Int32))) (S1_java_lang_String_COMPACT_STRINGS_COMPACT_STRINGS : Sta Z h0 "java/lang/String" "COMPACT_STRINGS" "Z" (.int cS)) (H_cs : ¬ cS = (0 : Int32)) :
    MetFree l (⟨"java/lang/String", "isLatin1", "()Z"⟩ : MethodName) (head1 (Jvm.Cond.code (⟨"java/lang/String", "isLatin1", "()Z"⟩ : MethodName) jdk_42_method_154_code 1 (some .boolean) :: ws) ({ frames := 0, cells := 0, slots := 0, locals := 0 } : Room)) (fun as_ U_ => as_ = #[(.ref a)] ∧ Z.Warmed39 U_.vm ∧ U_.heap = h0) (fun _ _ _ _ _ => True) (fun _ U_ o_ V_ => ∃ v_ L_, o_ = .returned v_ ∧ Qrm14 Z a cS h0 n0 v_ V_.heap L_ ∧ FrameEnd U_ o_ V_ L_ ({ frames := 0, cells := 0, slots := 0, locals := 0 } : Room).cells ({ frames := 0, cells := 0, slots := 0, locals := 0 } : Room).slots) := by
  refine MetFree.of_bodySF (plainFor_of_name pn_java_lang_String) hisR ?_
  intro p e s m args below meth c s₁ Bd hml0 hP hK
  obtain ⟨rfl, hZ, hh⟩ := hP
  have hx := Bd.exec
  have hby := Bd.bytes
  have hlk : meth.locks = false := BodyLoose.notSynchronized Bd
  have hret := Bd.returns
  have hml : c.maxLocals = 1 := hml0
  have hown : s.vm.findClass "java/lang/String" = some m.cls := findClass_of_methodNamed Bd.named
  have hnm := (name_of_methodNamed Bd.named Bd.method).1
  have X0 : Stand p l e ({ frames := 0, cells := 0, slots := 0, locals := 0 } : Room) s m #[(.ref a)] below meth c s₁ [] 0 0 := Stand.of_body Bd
  have e0 : s₁.heap = h0 := by rw [← hh, Bd.state]; rfl
  have N0 := Fr.nil n0
  show Goes p e below (Fin_ s (Qrm14 Z a cS h0 n0) ({ frames := 0, cells := 0, slots := 0, locals := 0 } : Room).cells ({ frames := 0, cells := 0, slots := 0, locals := 0 } : Room).slots) (s₁.setTop (entryFrame m #[(.ref a)] 1))
  rw [ef_rm14 m a]
  obtain ⟨T1, X1, e1, st1⟩ := getS2 X0 hx hZ hown (host := "") (Or.inl (own_w hw 21 rfl)) Via.refl e0 S1_java_lang_String_COMPACT_STRINGS_COMPACT_STRINGS (g := (mkF m 0 #[vr a] [])) rfl (hb hby d14_0)
  refine Goes.via st1 ?_
  show Goes p e below _ (T1.setTop (mkF m 3 #[vr a] [(.int cS)]))
  have hc3_2 : ¬ (cS = (0 : Int32)) := H_cs
  refine Goes.via (fun _ kk_ => XS.ifNo X1.here hx rfl (hb hby d14_3) rfl ((if0 _ _).trans (feq hc3_2).1) kk_) ?_
  show Goes p e below _ (T1.setTop (mkF m 6 #[vr a] []))
  refine gALN X1 hx hby d14_6 rfl rfl ?_
  obtain ⟨T3, X3, e3, st3⟩ := getF X1 hx hZ hown (host := "") (Or.inl (own_w hw 33 rfl)) Via.refl e1 F0_a_coder (g := (mkF m 7 #[vr a] [(.ref a)])) rfl rfl (hb hby d14_7)
  refine Goes.via st3 ?_
  show Goes p e below _ (T3.setTop (mkF m 10 #[vr a] [(.int (0 : Int32))]))
  have hc10_4 : (0 : Int32) = (0 : Int32) := (by decide)
  refine Goes.via (fun _ kk_ => XS.ifNo X3.here hx rfl (hb hby d14_10) rfl ((if0 _ _).trans (teq hc10_4).2) kk_) ?_
  show Goes p e below _ (T3.setTop (mkF m 13 #[vr a] []))
  refine gIC (z := 1) X3 hx hby d14_13 rfl ?_
  refine Goes.via (fun _ kk_ => XS.goto X3.here hx rfl (pc0 := 14) (pc' := 18) rfl (hb hby d14_14) (by decide) (by decide) kk_) ?_
  show Goes p e below _ (T3.setTop (mkF m 18 #[vr a] [(.int (1 : Int32))]))
  exact own_finN X3 hx hlk hret (by simp) (hb hby d14_18) (by rw [e3]; exact ⟨rfl, rfl, rfl⟩) (by first | decide | omega | (dsimp only; omega)) (by first | decide | omega | (dsimp only; omega))
theorem ef_rm20 (m : MethodId) (a : Addr) : entryFrame m #[(.ref a)] 1 = mkF m 0 #[.val (.ref a)] [] := by first | (simp [entryFrame, mkF, argsToLocals, Value.category]; done) | rfl
def Qrm20 (Z : State) (a : Addr) (cS : Int32) (h0 : Heap) (n0 : Nat) (v_ : Option Value) (h_ : Heap) (L_ : List Loc) : Prop := v_ = some (.int (0 : Int32)) ∧ L_ = [] ∧ h_ = h0
theorem d20_0 : decode jdk_42_method_152_code 0 = .ok (.getstatic 38, 3) := by decide +kernel
theorem d20_3 : decode jdk_42_method_152_code 3 = .ok (.ifCond .eq 10, 3) := by decide +kernel
theorem d20_6 : decode jdk_42_method_152_code 6 = .ok (.aload_n 0, 1) := by decide +kernel
theorem d20_7 : decode jdk_42_method_152_code 7 = .ok (.getfield 15, 3) := by decide +kernel
theorem d20_10 : decode jdk_42_method_152_code 10 = .ok (.goto 4, 3) := by decide +kernel
theorem d20_14 : decode jdk_42_method_152_code 14 = .ok (.ireturn, 1) := by decide +kernel
set_option maxRecDepth 65536 in
set_option maxHeartbeats 40000000 in
theorem rm20 (l : Launch) (Z : State) (a0 : Array Value) (hw : ∀ d ∈ tables_1, d.before a0 Z = true) (ws : List Jvm.Cond) (a : Addr) (cS : Int32) (h0 : Heap) (n0 : Nat) (Z0 : n0 ≤ h0.size) (F0_a_coder : Fld Z h0 a "java/lang/String" "coder" "B" (.int (0 : Int32))) (S1_java_lang_String_COMPACT_STRINGS_COMPACT_STRINGS : Sta Z h0 "java/lang/String" "COMPACT_STRINGS" "Z" (.int cS)) (H_cs : ¬ cS = (0 : Int32)) :
    MetFree l (⟨"java/lang/String", "coder", "()B"⟩ : MethodName) (head1 (Jvm.Cond.code (⟨"java/lang/String", "coder", "()B"⟩ : MethodName) jdk_42_method_152_code 1 (some .byte) :: ws) ({ frames := 0, cells := 0, slots := 0, locals := 0 } : Room)) (fun as_ U_ => as_ = #[(.ref a)] ∧ Z.Warmed39 U_.vm ∧ U_.heap = h0) (fun _ _ _ _ _ => True) (fun _ U_ o_ V_ => ∃ v_ L_, o_ = .returned v_ ∧ Qrm20 Z a cS h0 n0 v_ V_.heap L_ ∧ FrameEnd U_ o_ V_ L_ ({ frames := 0, cells := 0, slots := 0, locals := 0 } : Room).cells ({ frames := 0, cells := 0, slots := 0, locals := 0 } : Room).slots) := by
  refine MetFree.of_bodySF (plainFor_of_name pn_java_lang_String) hisR ?_
  intro p e s m args below meth c s₁ Bd hml0 hP hK
  obtain ⟨rfl, hZ, hh⟩ := hP
  have hx := Bd.exec
  have hby := Bd.bytes
  have hlk : meth.locks = false := BodyLoose.notSynchronized Bd
  have hret := Bd.returns
  have hml : c.maxLocals = 1 := hml0
  have hown : s.vm.findClass "java/lang/String" = some m.cls := findClass_of_methodNamed Bd.named
  have hnm := (name_of_methodNamed Bd.named Bd.method).1
  have X0 : Stand p l e ({ frames := 0, cells := 0, slots := 0, locals := 0 } : Room) s m #[(.ref a)] below meth c s₁ [] 0 0 := Stand.of_body Bd
  have e0 : s₁.heap = h0 := by rw [← hh, Bd.state]; rfl
  have N0 := Fr.nil n0
  show Goes p e below (Fin_ s (Qrm20 Z a cS h0 n0) ({ frames := 0, cells := 0, slots := 0, locals := 0 } : Room).cells ({ frames := 0, cells := 0, slots := 0, locals := 0 } : Room).slots) (s₁.setTop (entryFrame m #[(.ref a)] 1))
  rw [ef_rm20 m a]
  obtain ⟨T1, X1, e1, st1⟩ := getS2 X0 hx hZ hown (host := "") (Or.inl (own_w hw 21 rfl)) Via.refl e0 S1_java_lang_String_COMPACT_STRINGS_COMPACT_STRINGS (g := (mkF m 0 #[vr a] [])) rfl (hb hby d20_0)
  refine Goes.via st1 ?_
  show Goes p e below _ (T1.setTop (mkF m 3 #[vr a] [(.int cS)]))
  have hc3_2 : ¬ (cS = (0 : Int32)) := H_cs
  refine Goes.via (fun _ kk_ => XS.ifNo X1.here hx rfl (hb hby d20_3) rfl ((if0 _ _).trans (feq hc3_2).1) kk_) ?_
  show Goes p e below _ (T1.setTop (mkF m 6 #[vr a] []))
  refine gALN X1 hx hby d20_6 rfl rfl ?_
  obtain ⟨T3, X3, e3, st3⟩ := getF X1 hx hZ hown (host := "") (Or.inl (own_w hw 33 rfl)) Via.refl e1 F0_a_coder (g := (mkF m 7 #[vr a] [(.ref a)])) rfl rfl (hb hby d20_7)
  refine Goes.via st3 ?_
  show Goes p e below _ (T3.setTop (mkF m 10 #[vr a] [(.int (0 : Int32))]))
  refine Goes.via (fun _ kk_ => XS.goto X3.here hx rfl (pc0 := 10) (pc' := 14) rfl (hb hby d20_10) (by decide) (by decide) kk_) ?_
  show Goes p e below _ (T3.setTop (mkF m 14 #[vr a] [(.int (0 : Int32))]))
  exact own_finN X3 hx hlk hret (by simp) (hb hby d20_14) (by rw [e3]; exact ⟨rfl, rfl, rfl⟩) (by first | decide | omega | (dsimp only; omega)) (by first | decide | omega | (dsimp only; omega))
theorem ef_rm19 (m : MethodId) (a : Addr) : entryFrame m #[(.ref a)] 1 = mkF m 0 #[.val (.ref a)] [] := by first | (simp [entryFrame, mkF, argsToLocals, Value.category]; done) | rfl
def Qrm19 (Z : State) (a : Addr) (nz : Int32) (cS : Int32) (t : Addr) (kc : ClassId) (N : Nat) (g : Nat → Int32) (h0 : Heap) (n0 : Nat) (v_ : Option Value) (h_ : Heap) (L_ : List Loc) : Prop := v_ = some (.int nz) ∧ L_ = [] ∧ h_ = h0
theorem d19_0 : decode jdk_42_method_54_code 0 = .ok (.aload_n 0, 1) := by decide +kernel
theorem d19_1 : decode jdk_42_method_54_code 1 = .ok (.getfield 9, 3) := by decide +kernel
theorem d19_4 : decode jdk_42_method_54_code 4 = .ok (.arraylength, 1) := by decide +kernel
theorem d19_5 : decode jdk_42_method_54_code 5 = .ok (.aload_n 0, 1) := by decide +kernel
theorem pd_0 : parseMethodDescriptor "()B" = some ⟨[], some .byte⟩ := by decide +kernel
theorem d19_6 : decode jdk_42_method_54_code 6 = .ok (.invokevirtual 335, 3) := by decide +kernel
theorem d19_9 : decode jdk_42_method_54_code 9 = .ok (.ishr, 1) := by decide +kernel
theorem d19_10 : decode jdk_42_method_54_code 10 = .ok (.ireturn, 1) := by decide +kernel
set_option maxRecDepth 65536 in
set_option maxHeartbeats 40000000 in
theorem rm19 (l : Launch) (Z : State) (a0 : Array Value) (hw : ∀ d ∈ tables_1, d.before a0 Z = true) (ws : List Jvm.Cond) (a : Addr) (nz : Int32) (cS : Int32) (t : Addr) (kc : ClassId) (N : Nat) (g : Nat → Int32) (h0 : Heap) (n0 : Nat) (Z0 : n0 ≤ h0.size) (E0_a : Exa Z h0 a "java/lang/String") (F1_a_coder : Fld Z h0 a "java/lang/String" "coder" "B" (.int (0 : Int32))) (F2_a_value : Fld Z h0 a "java/lang/String" "value" "[B" (.ref t)) (A3_t : Arw Z h0 t kc .byte N (fun i => .int (g i))) (S4_java_lang_String_COMPACT_STRINGS_COMPACT_STRINGS : Sta Z h0 "java/lang/String" "COMPACT_STRINGS" "Z" (.int cS)) (H_cs : ¬ cS = (0 : Int32)) (Hnz : nz.toInt = (N : Int)) :
    MetFree l (⟨"java/lang/String", "length", "()I"⟩ : MethodName) (head1 (Jvm.Cond.code (⟨"java/lang/String", "length", "()I"⟩ : MethodName) jdk_42_method_54_code 1 (some .int) :: ws) ({ frames := 1, cells := 0, slots := 0, locals := 13 } : Room)) (fun as_ U_ => as_ = #[(.ref a)] ∧ Z.Warmed39 U_.vm ∧ U_.heap = h0) (fun _ _ _ _ _ => True) (fun _ U_ o_ V_ => ∃ v_ L_, o_ = .returned v_ ∧ Qrm19 Z a nz cS t kc N g h0 n0 v_ V_.heap L_ ∧ FrameEnd U_ o_ V_ L_ ({ frames := 1, cells := 0, slots := 0, locals := 13 } : Room).cells ({ frames := 1, cells := 0, slots := 0, locals := 13 } : Room).slots) := by
  refine MetFree.of_bodySF (plainFor_of_name pn_java_lang_String) hisR ?_
  intro p e s m args below meth c s₁ Bd hml0 hP hK
  obtain ⟨rfl, hZ, hh⟩ := hP
  have hx := Bd.exec
  have hby := Bd.bytes
  have hlk : meth.locks = false := BodyLoose.notSynchronized Bd
  have hret := Bd.returns
  have hml : c.maxLocals = 1 := hml0
  have hown : s.vm.findClass "java/lang/String" = some m.cls := findClass_of_methodNamed Bd.named
  have hnm := (name_of_methodNamed Bd.named Bd.method).1
  have X0 : Stand p l e ({ frames := 1, cells := 0, slots := 0, locals := 13 } : Room) s m #[(.ref a)] below meth c s₁ [] 0 0 := Stand.of_body Bd
  have e0 : s₁.heap = h0 := by rw [← hh, Bd.state]; rfl
  have N0 := Fr.nil n0
  show Goes p e below (Fin_ s (Qrm19 Z a nz cS t kc N g h0 n0) ({ frames := 1, cells := 0, slots := 0, locals := 13 } : Room).cells ({ frames := 1, cells := 0, slots := 0, locals := 13 } : Room).slots) (s₁.setTop (entryFrame m #[(.ref a)] 1))
  rw [ef_rm19 m a]
  have ne1 : a ≠ t := own_ne_arr E0_a (own_w hw 9 rfl) A3_t
  refine gALN X0 hx hby d19_0 rfl rfl ?_
  obtain ⟨T2, X2, e2, st2⟩ := getF X0 hx hZ hown (host := "") (Or.inl (own_w hw 35 rfl)) Via.refl e0 F2_a_value (g := (mkF m 1 #[vr a] [(.ref a)])) rfl rfl (hb hby d19_1)
  refine Goes.via st2 ?_
  show Goes p e below _ (T2.setTop (mkF m 4 #[vr a] [(.ref t)]))
  refine Goes.via (own_alen X2 hx hZ e2 A3_t (g := (mkF m 4 #[vr a] [(.ref t)])) rfl rfl (hb hby d19_4)) ?_
  rw [show (N : Nat).toInt32 = nz from (own_nz Hnz)]
  show Goes p e below _ (T2.setTop (mkF m 5 #[vr a] [(.int nz)]))
  refine gALN X2 hx hby d19_5 rfl rfl ?_
  obtain ⟨cq3, kq3, q3a, q3b, q3c⟩ := isOf hZ e2 E0_a
  obtain ⟨_, _, ⟨T3, L3, k3, n3⟩, -, X3, ⟨Lc3, hQ3, l3, y3, z3⟩, st3⟩ := X2.virtualBack hx (y := (⟨"java/lang/String", "coder", "()B"⟩ : MethodName)) (z := (⟨"java/lang/String", "coder", "()B"⟩ : MethodName)) hown (mvT hZ (own_w hw 89 rfl)) (mvT hZ (own_w hw 90 rfl)) (notFace_of_selects (args := #[]) (mvT hZ (own_w hw 92 rfl))) (mvT hZ (own_w hw 92 rfl)) (mvT hZ (own_w hw 91 rfl)) (by decide) (backOf (W := 1) (rm20 l Z a0 hw [] a cS h0 n0 (Nat.le_trans Z0 (Nat.le_refl _)) F1_a_coder S4_java_lang_String_COMPACT_STRINGS_COMPACT_STRINGS H_cs) hZ (own_w hw 93 rfl) (own_w hw 10 rfl) (by decide) (by decide)) q3a q3c (g := (mkF m 6 #[vr a] [(.ref a), (.int nz)])) rfl (by rw [hml]; rfl) (Steps.refl _) (argsL := []) (rest := [(.int nz)]) (lenOf pd_0 rfl) rfl (by show 2 * 0 + _ ≤ _; exact Nat.le_of_eq rfl) (hb hby d19_6) (fun _ _ => ⟨rfl, e2, (by decide : 0 + 0 ≤ _), (by decide : 0 + 0 ≤ _)⟩)
  dsimp only [Pt.U, Pt.locs, Pt.cells, Pt.slots] at X3 l3 y3 z3 st3 hQ3
  subst l3 y3 z3
  obtain ⟨rfl, rfl, e3⟩ := hQ3
  first | rw [List.append_nil] at X3 | skip
  refine Goes.tr st3 ?_
  have e3' : T3.heap = h0 := e3
  show Goes p e below _ (T3.setTop (mkF m 9 #[vr a] [(.int (0 : Int32)), (.int nz)]))
  refine Goes.via (fun _ kk_ => XS.ishr X3.here hx rfl (hb hby d19_9) rfl kk_) ?_
  show Goes p e below _ (T3.setTop (mkF m 10 #[vr a] [(.int (nz >>> ((0 : Int32) &&& 31)))]))
  exact own_finI X3 hx hlk hret (hb hby d19_10) (by rw [e3']; exact ⟨(own_ret (own_shr0 _)), rfl, rfl⟩) (by first | decide | omega | (dsimp only; omega)) (by first | decide | omega | (dsimp only; omega))
theorem ef_rm12 (m : MethodId) (a : Addr) : entryFrame m #[(.ref a)] 1 = mkF m 0 #[.val (.ref a)] [] := by first | (simp [entryFrame, mkF, argsToLocals, Value.category]; done) | rfl
def Qrm12 (Z : State) (a : Addr) (nz : Int32) (t : Addr) (kc : ClassId) (N : Nat) (g : Nat → Int32) (h0 : Heap) (n0 : Nat) (v_ : Option Value) (h_ : Heap) (L_ : List Loc) : Prop := v_ = some (.int (0 : Int32)) ∧ L_ = [] ∧ h_ = h0
theorem d12_0 : decode jdk_42_method_55_code 0 = .ok (.aload_n 0, 1) := by decide +kernel
theorem d12_1 : decode jdk_42_method_55_code 1 = .ok (.getfield 9, 3) := by decide +kernel
theorem d12_4 : decode jdk_42_method_55_code 4 = .ok (.arraylength, 1) := by decide +kernel
theorem d12_5 : decode jdk_42_method_55_code 5 = .ok (.ifCond .ne 7, 3) := by decide +kernel
theorem d12_12 : decode jdk_42_method_55_code 12 = .ok (.iconst 0, 1) := by decide +kernel
theorem d12_13 : decode jdk_42_method_55_code 13 = .ok (.ireturn, 1) := by decide +kernel
set_option maxRecDepth 65536 in
set_option maxHeartbeats 40000000 in
theorem rm12 (l : Launch) (Z : State) (a0 : Array Value) (hw : ∀ d ∈ tables_1, d.before a0 Z = true) (ws : List Jvm.Cond) (a : Addr) (nz : Int32) (t : Addr) (kc : ClassId) (N : Nat) (g : Nat → Int32) (h0 : Heap) (n0 : Nat) (Z0 : n0 ≤ h0.size) (F0_a_value : Fld Z h0 a "java/lang/String" "value" "[B" (.ref t)) (A1_t : Arw Z h0 t kc .byte N (fun i => .int (g i))) (Hnz : nz.toInt = (N : Int)) (Hne : ¬ nz = (0 : Int32)) :
    MetFree l (⟨"java/lang/String", "isEmpty", "()Z"⟩ : MethodName) (head1 (Jvm.Cond.code (⟨"java/lang/String", "isEmpty", "()Z"⟩ : MethodName) jdk_42_method_55_code 1 (some .boolean) :: ws) ({ frames := 0, cells := 0, slots := 0, locals := 0 } : Room)) (fun as_ U_ => as_ = #[(.ref a)] ∧ Z.Warmed39 U_.vm ∧ U_.heap = h0) (fun _ _ _ _ _ => True) (fun _ U_ o_ V_ => ∃ v_ L_, o_ = .returned v_ ∧ Qrm12 Z a nz t kc N g h0 n0 v_ V_.heap L_ ∧ FrameEnd U_ o_ V_ L_ ({ frames := 0, cells := 0, slots := 0, locals := 0 } : Room).cells ({ frames := 0, cells := 0, slots := 0, locals := 0 } : Room).slots) := by
  refine MetFree.of_bodySF (plainFor_of_name pn_java_lang_String) hisR ?_
  intro p e s m args below meth c s₁ Bd hml0 hP hK
  obtain ⟨rfl, hZ, hh⟩ := hP
  have hx := Bd.exec
  have hby := Bd.bytes
  have hlk : meth.locks = false := BodyLoose.notSynchronized Bd
  have hret := Bd.returns
  have hml : c.maxLocals = 1 := hml0
  have hown : s.vm.findClass "java/lang/String" = some m.cls := findClass_of_methodNamed Bd.named
  have hnm := (name_of_methodNamed Bd.named Bd.method).1
  have X0 : Stand p l e ({ frames := 0, cells := 0, slots := 0, locals := 0 } : Room) s m #[(.ref a)] below meth c s₁ [] 0 0 := Stand.of_body Bd
  have e0 : s₁.heap = h0 := by rw [← hh, Bd.state]; rfl
  have N0 := Fr.nil n0
  show Goes p e below (Fin_ s (Qrm12 Z a nz t kc N g h0 n0) ({ frames := 0, cells := 0, slots := 0, locals := 0 } : Room).cells ({ frames := 0, cells := 0, slots := 0, locals := 0 } : Room).slots) (s₁.setTop (entryFrame m #[(.ref a)] 1))
  rw [ef_rm12 m a]
  refine gALN X0 hx hby d12_0 rfl rfl ?_
  obtain ⟨T1, X1, e1, st1⟩ := getF X0 hx hZ hown (host := "") (Or.inl (own_w hw 35 rfl)) Via.refl e0 F0_a_value (g := (mkF m 1 #[vr a] [(.ref a)])) rfl rfl (hb hby d12_1)
  refine Goes.via st1 ?_
  show Goes p e below _ (T1.setTop (mkF m 4 #[vr a] [(.ref t)]))
  refine Goes.via (own_alen X1 hx hZ e1 A1_t (g := (mkF m 4 #[vr a] [(.ref t)])) rfl rfl (hb hby d12_4)) ?_
  rw [show (N : Nat).toInt32 = nz from (own_nz Hnz)]
  show Goes p e below _ (T1.setTop (mkF m 5 #[vr a] [(.int nz)]))
  have hc5_2 : ¬ (nz = (0 : Int32)) := Hne
  refine Goes.via (fun _ kk_ => XS.ifYes X1.here hx rfl (pc0 := 5) (pc' := 12) rfl (hb hby d12_5) rfl ((if0 _ _).trans (feq hc5_2).2) (by decide) (by decide) kk_) ?_
  show Goes p e below _ (T1.setTop (mkF m 12 #[vr a] []))
  refine gIC (z := 0) X1 hx hby d12_12 rfl ?_
  exact own_finN X1 hx hlk hret (by simp) (hb hby d12_13) (by rw [e1]; exact ⟨rfl, rfl, rfl⟩) (by first | decide | omega | (dsimp only; omega)) (by first | decide | omega | (dsimp only; omega))
theorem ef_rmPn (m : MethodId) (i_ : Int32) (nz : Int32) : entryFrame m #[(.int i_), (.int nz), .null] 3 = mkF m 0 #[.val (.int i_), .val (.int nz), .val .null] [] := by first | (simp [entryFrame, mkF, argsToLocals, Value.category]; done) | rfl
def QrmPn (Z : State) (i_ : Int32) (nz : Int32) (h0 : Heap) (n0 : Nat) (v_ : Option Value) (h_ : Heap) (L_ : List Loc) : Prop := v_ = some (.int i_) ∧ L_ = [] ∧ h_ = h0
theorem pn_jdk_internal_util_Preconditions : plainName "jdk/internal/util/Preconditions" = true := by first | (simp [plainName, overriddenIn]; done) | decide +kernel
theorem d17_0 : decode jdk_41_method_11_code 0 = .ok (.iload_n 0, 1) := by decide +kernel
theorem d17_1 : decode jdk_41_method_11_code 1 = .ok (.ifCond .lt 8, 3) := by decide +kernel
theorem d17_4 : decode jdk_41_method_11_code 4 = .ok (.iload_n 0, 1) := by decide +kernel
theorem d17_5 : decode jdk_41_method_11_code 5 = .ok (.iload_n 1, 1) := by decide +kernel
theorem d17_6 : decode jdk_41_method_11_code 6 = .ok (.if_icmp .lt 10, 3) := by decide +kernel
theorem d17_16 : decode jdk_41_method_11_code 16 = .ok (.iload_n 0, 1) := by decide +kernel
theorem d17_17 : decode jdk_41_method_11_code 17 = .ok (.ireturn, 1) := by decide +kernel
set_option maxRecDepth 65536 in
set_option maxHeartbeats 40000000 in
theorem rmPn (l : Launch) (Z : State) (a0 : Array Value) (hw : ∀ d ∈ tables_1, d.before a0 Z = true) (ws : List Jvm.Cond) (i_ : Int32) (nz : Int32) (h0 : Heap) (n0 : Nat) (Z0 : n0 ≤ h0.size) (H0 : ¬ i_ < (0 : Int32)) (H1 : i_ < nz) :
    MetFree l (⟨"jdk/internal/util/Preconditions", "checkIndex", "(IILjava/util/function/BiFunction;)I"⟩ : MethodName) (head1 (Jvm.Cond.code (⟨"jdk/internal/util/Preconditions", "checkIndex", "(IILjava/util/function/BiFunction;)I"⟩ : MethodName) jdk_41_method_11_code 3 (some .int) :: ws) ({ frames := 0, cells := 0, slots := 0, locals := 0 } : Room)) (fun as_ U_ => as_ = #[(.int i_), (.int nz), .null] ∧ Z.Warmed39 U_.vm ∧ U_.heap = h0) (fun _ _ _ _ _ => True) (fun _ U_ o_ V_ => ∃ v_ L_, o_ = .returned v_ ∧ QrmPn Z i_ nz h0 n0 v_ V_.heap L_ ∧ FrameEnd U_ o_ V_ L_ ({ frames := 0, cells := 0, slots := 0, locals := 0 } : Room).cells ({ frames := 0, cells := 0, slots := 0, locals := 0 } : Room).slots) := by
  refine MetFree.of_bodySF (plainFor_of_name pn_jdk_internal_util_Preconditions) hisR ?_
  intro p e s m args below meth c s₁ Bd hml0 hP hK
  obtain ⟨rfl, hZ, hh⟩ := hP
  have hx := Bd.exec
  have hby := Bd.bytes
  have hlk : meth.locks = false := BodyLoose.notSynchronized Bd
  have hret := Bd.returns
  have hml : c.maxLocals = 3 := hml0
  have hown : s.vm.findClass "jdk/internal/util/Preconditions" = some m.cls := findClass_of_methodNamed Bd.named
  have hnm := (name_of_methodNamed Bd.named Bd.method).1
  have X0 : Stand p l e ({ frames := 0, cells := 0, slots := 0, locals := 0 } : Room) s m #[(.int i_), (.int nz), .null] below meth c s₁ [] 0 0 := Stand.of_body Bd
  have e0 : s₁.heap = h0 := by rw [← hh, Bd.state]; rfl
  have N0 := Fr.nil n0
  show Goes p e below (Fin_ s (QrmPn Z i_ nz h0 n0) ({ frames := 0, cells := 0, slots := 0, locals := 0 } : Room).cells ({ frames := 0, cells := 0, slots := 0, locals := 0 } : Room).slots) (s₁.setTop (entryFrame m #[(.int i_), (.int nz), .null] 3))
  rw [ef_rmPn m i_ nz]
  refine gILN X0 hx hby d17_0 rfl ?_
  have hc1_1 : ¬ (i_ < (0 : Int32)) := H0
  refine Goes.via (fun _ kk_ => XS.ifNo X0.here hx rfl (hb hby d17_1) rfl ((if0 _ _).trans (flt hc1_1).1) kk_) ?_
  show Goes p e below _ (s₁.setTop (mkF m 4 #[vi i_, vi nz, .val .null] []))
  refine gILN X0 hx hby d17_4 rfl ?_
  refine gILN X0 hx hby d17_5 rfl ?_
  have hc6_2 : i_ < nz := H1
  refine Goes.via (fun _ kk_ => XS.icmpYes X0.here hx rfl (pc0 := 6) (pc' := 16) rfl (hb hby d17_6) rfl (tlt hc6_2).1 (by decide) (by decide) kk_) ?_
  show Goes p e below _ (s₁.setTop (mkF m 16 #[vi i_, vi nz, .val .null] []))
  refine gILN X0 hx hby d17_16 rfl ?_
  exact own_finI X0 hx hlk hret (hb hby d17_17) (by rw [e0]; exact ⟨rfl, rfl, rfl⟩) (by first | decide | omega | (dsimp only; omega)) (by first | decide | omega | (dsimp only; omega))
theorem ef_rmPr (m : MethodId) (i_ : Int32) (nz : Int32) (fr : Addr) : entryFrame m #[(.int i_), (.int nz), (.ref fr)] 3 = mkF m 0 #[.val (.int i_), .val (.int nz), .val (.ref fr)] [] := by first | (simp [entryFrame, mkF, argsToLocals, Value.category]; done) | rfl
def QrmPr (Z : State) (i_ : Int32) (nz : Int32) (fr : Addr) (h0 : Heap) (n0 : Nat) (v_ : Option Value) (h_ : Heap) (L_ : List Loc) : Prop := v_ = some (.int i_) ∧ L_ = [] ∧ h_ = h0
set_option maxRecDepth 65536 in
set_option maxHeartbeats 40000000 in
theorem rmPr (l : Launch) (Z : State) (a0 : Array Value) (hw : ∀ d ∈ tables_1, d.before a0 Z = true) (ws : List Jvm.Cond) (i_ : Int32) (nz : Int32) (fr : Addr) (h0 : Heap) (n0 : Nat) (Z0 : n0 ≤ h0.size) (H0 : ¬ i_ < (0 : Int32)) (H1 : i_ < nz) :
    MetFree l (⟨"jdk/internal/util/Preconditions", "checkIndex", "(IILjava/util/function/BiFunction;)I"⟩ : MethodName) (head1 (Jvm.Cond.code (⟨"jdk/internal/util/Preconditions", "checkIndex", "(IILjava/util/function/BiFunction;)I"⟩ : MethodName) jdk_41_method_11_code 3 (some .int) :: ws) ({ frames := 0, cells := 0, slots := 0, locals := 0 } : Room)) (fun as_ U_ => as_ = #[(.int i_), (.int nz), (.ref fr)] ∧ Z.Warmed39 U_.vm ∧ U_.heap = h0) (fun _ _ _ _ _ => True) (fun _ U_ o_ V_ => ∃ v_ L_, o_ = .returned v_ ∧ QrmPr Z i_ nz fr h0 n0 v_ V_.heap L_ ∧ FrameEnd U_ o_ V_ L_ ({ frames := 0, cells := 0, slots := 0, locals := 0 } : Room).cells ({ frames := 0, cells := 0, slots := 0, locals := 0 } : Room).slots) := by
  refine MetFree.of_bodySF (plainFor_of_name pn_jdk_internal_util_Preconditions) hisR ?_
  intro p e s m args below meth c s₁ Bd hml0 hP hK
  obtain ⟨rfl, hZ, hh⟩ := hP
  have hx := Bd.exec
  have hby := Bd.bytes
  have hlk : meth.locks = false := BodyLoose.notSynchronized Bd
  have hret := Bd.returns
  have hml : c.maxLocals = 3 := hml0
  have hown : s.vm.findClass "jdk/internal/util/Preconditions" = some m.cls := findClass_of_methodNamed Bd.named
  have hnm := (name_of_methodNamed Bd.named Bd.method).1
  have X0 : Stand p l e ({ frames := 0, cells := 0, slots := 0, locals := 0 } : Room) s m #[(.int i_), (.int nz), (.ref fr)] below meth c s₁ [] 0 0 := Stand.of_body Bd
  have e0 : s₁.heap = h0 := by rw [← hh, Bd.state]; rfl
  have N0 := Fr.nil n0
  show Goes p e below (Fin_ s (QrmPr Z i_ nz fr h0 n0) ({ frames := 0, cells := 0, slots := 0, locals := 0 } : Room).cells ({ frames := 0, cells := 0, slots := 0, locals := 0 } : Room).slots) (s₁.setTop (entryFrame m #[(.int i_), (.int nz), (.ref fr)] 3))
  rw [ef_rmPr m i_ nz fr]
  refine gILN X0 hx hby d17_0 rfl ?_
  have hc1_1 : ¬ (i_ < (0 : Int32)) := H0
  refine Goes.via (fun _ kk_ => XS.ifNo X0.here hx rfl (hb hby d17_1) rfl ((if0 _ _).trans (flt hc1_1).1) kk_) ?_
  show Goes p e below _ (s₁.setTop (mkF m 4 #[vi i_, vi nz, vr fr] []))
  refine gILN X0 hx hby d17_4 rfl ?_
  refine gILN X0 hx hby d17_5 rfl ?_
  have hc6_2 : i_ < nz := H1
  refine Goes.via (fun _ kk_ => XS.icmpYes X0.here hx rfl (pc0 := 6) (pc' := 16) rfl (hb hby d17_6) rfl (tlt hc6_2).1 (by decide) (by decide) kk_) ?_
  show Goes p e below _ (s₁.setTop (mkF m 16 #[vi i_, vi nz, vr fr] []))
  refine gILN X0 hx hby d17_16 rfl ?_
  exact own_finI X0 hx hlk hret (hb hby d17_17) (by rw [e0]; exact ⟨rfl, rfl, rfl⟩) (by first | decide | omega | (dsimp only; omega)) (by first | decide | omega | (dsimp only; omega))
theorem ef_rm16 (m : MethodId) (i_ : Int32) (nz : Int32) : entryFrame m #[(.int i_), (.int nz)] 2 = mkF m 0 #[.val (.int i_), .val (.int nz)] [] := by first | (simp [entryFrame, mkF, argsToLocals, Value.category]; done) | rfl
def Qrm16 (Z : State) (i_ : Int32) (nz : Int32) (fo : Value) (h0 : Heap) (n0 : Nat) (v_ : Option Value) (h_ : Heap) (L_ : List Loc) : Prop := v_ = none ∧ L_ = [] ∧ h_ = h0
theorem d16_0 : decode jdk_42_method_155_code 0 = .ok (.iload_n 0, 1) := by decide +kernel
theorem d16_1 : decode jdk_42_method_155_code 1 = .ok (.iload_n 1, 1) := by decide +kernel
theorem d16_2 : decode jdk_42_method_155_code 2 = .ok (.getstatic 1053, 3) := by decide +kernel
theorem pd_1 : parseMethodDescriptor "(IILjava/util/function/BiFunction;)I" = some ⟨[.int, .int, (.object "java/util/function/BiFunction")], some .int⟩ := by decide +kernel
theorem d16_5 : decode jdk_42_method_155_code 5 = .ok (.invokestatic 1059, 3) := by decide +kernel
theorem d16_8 : decode jdk_42_method_155_code 8 = .ok (.pop, 1) := by decide +kernel
theorem d16_9 : decode jdk_42_method_155_code 9 = .ok (.return_, 1) := by decide +kernel
set_option maxRecDepth 65536 in
set_option maxHeartbeats 40000000 in
theorem rm16 (l : Launch) (Z : State) (a0 : Array Value) (hw : ∀ d ∈ tables_1, d.before a0 Z = true) (ws : List Jvm.Cond) (i_ : Int32) (nz : Int32) (fo : Value) (h0 : Heap) (n0 : Nat) (Z0 : n0 ≤ h0.size) (S0_jdk_internal_util_Preconditions_SIOOBE_FORMATTER_SIOOBE_FORMATTER : Sta Z h0 "jdk/internal/util/Preconditions" "SIOOBE_FORMATTER" "Ljava/util/function/BiFunction;" fo) (Hfo : fo.isRef = true) (H0 : ¬ i_ < (0 : Int32)) (H1 : i_ < nz) :
    MetFree l (⟨"java/lang/String", "checkIndex", "(II)V"⟩ : MethodName) (head1 (Jvm.Cond.code (⟨"java/lang/String", "checkIndex", "(II)V"⟩ : MethodName) jdk_42_method_155_code 2 none :: ws) ({ frames := 1, cells := 0, slots := 0, locals := 14 } : Room)) (fun as_ U_ => as_ = #[(.int i_), (.int nz)] ∧ Z.Warmed39 U_.vm ∧ U_.heap = h0) (fun _ _ _ _ _ => True) (fun _ U_ o_ V_ => ∃ v_ L_, o_ = .returned v_ ∧ Qrm16 Z i_ nz fo h0 n0 v_ V_.heap L_ ∧ FrameEnd U_ o_ V_ L_ ({ frames := 1, cells := 0, slots := 0, locals := 14 } : Room).cells ({ frames := 1, cells := 0, slots := 0, locals := 14 } : Room).slots) := by
  refine MetFree.of_bodySF (plainFor_of_name pn_java_lang_String) hisR ?_
  intro p e s m args below meth c s₁ Bd hml0 hP hK
  obtain ⟨rfl, hZ, hh⟩ := hP
  have hx := Bd.exec
  have hby := Bd.bytes
  have hlk : meth.locks = false := BodyLoose.notSynchronized Bd
  have hret := Bd.returns
  have hml : c.maxLocals = 2 := hml0
  have hown : s.vm.findClass "java/lang/String" = some m.cls := findClass_of_methodNamed Bd.named
  have hnm := (name_of_methodNamed Bd.named Bd.method).1
  have X0 : Stand p l e ({ frames := 1, cells := 0, slots := 0, locals := 14 } : Room) s m #[(.int i_), (.int nz)] below meth c s₁ [] 0 0 := Stand.of_body Bd
  have e0 : s₁.heap = h0 := by rw [← hh, Bd.state]; rfl
  have N0 := Fr.nil n0
  show Goes p e below (Fin_ s (Qrm16 Z i_ nz fo h0 n0) ({ frames := 1, cells := 0, slots := 0, locals := 14 } : Room).cells ({ frames := 1, cells := 0, slots := 0, locals := 14 } : Room).slots) (s₁.setTop (entryFrame m #[(.int i_), (.int nz)] 2))
  rw [ef_rm16 m i_ nz]
  rcases ref_cases Hfo with rfl | ⟨fr, rfl⟩
  · skip
    refine gILN X0 hx hby d16_0 rfl ?_
    refine gILN X0 hx hby d16_1 rfl ?_
    obtain ⟨T1, X1, e1, st1⟩ := getS2 X0 hx hZ hown (host := "") (Or.inl (own_w hw 76 rfl)) Via.refl e0 S0_jdk_internal_util_Preconditions_SIOOBE_FORMATTER_SIOOBE_FORMATTER (g := (mkF m 2 #[vi i_, vi nz] [(.int nz), (.int i_)])) rfl (hb hby d16_2)
    refine Goes.via st1 ?_
    show Goes p e below _ (T1.setTop (mkF m 5 #[vi i_, vi nz] [.null, (.int nz), (.int i_)]))
    obtain ⟨_, _, ⟨T2, L2, k2, n2⟩, -, X2, ⟨Lc2, hQ2, l2, y2, z2⟩, st2⟩ := Jvm.LawKit.callS X1 hx (y := (⟨"jdk/internal/util/Preconditions", "checkIndex", "(IILjava/util/function/BiFunction;)I"⟩ : MethodName)) hown (mvT hZ (own_w hw 78 rfl)) (mvT hZ (own_w hw 79 rfl)) (mvT hZ (own_w hw 77 rfl)) (mvT hZ (own_w hw 80 rfl)) (by decide) (backOf (W := 0) (rmPn l Z a0 hw [] i_ nz h0 n0 (Nat.le_trans Z0 (Nat.le_refl _)) H0 H1) hZ (own_w hw 80 rfl) (own_w hw 77 rfl) (by decide) (by decide)) (g := (mkF m 5 #[vi i_, vi nz] [.null, (.int nz), (.int i_)])) rfl (by rw [hml]; rfl) (argsL := [(.int i_), (.int nz), .null]) (rest := []) (lenOf pd_1 rfl) rfl (by show 2 * 0 + _ ≤ _; exact Nat.le_of_eq rfl) (hb hby d16_5) (fun _ _ => ⟨rfl, e1, (by decide : 0 + 0 ≤ _), (by decide : 0 + 0 ≤ _)⟩)
    dsimp only [Pt.U, Pt.locs, Pt.cells, Pt.slots] at X2 l2 y2 z2 st2 hQ2
    subst l2 y2 z2
    obtain ⟨rfl, rfl, e2⟩ := hQ2
    first | rw [List.append_nil] at X2 | skip
    refine Goes.via st2 ?_
    have e2' : T2.heap = h0 := e2
    show Goes p e below _ (T2.setTop (mkF m 8 #[vi i_, vi nz] [(.int i_)]))
    refine Goes.via (fun _ kk_ => XS.pop X2.here hx rfl (hb hby d16_8) rfl rfl kk_) ?_
    show Goes p e below _ (T2.setTop (mkF m 9 #[vi i_, vi nz] []))
    exact own_finV X2 hx hlk hret (hb hby d16_9) (by rw [e2']; exact ⟨rfl, rfl, rfl⟩) (by first | decide | omega | (dsimp only; omega)) (by first | decide | omega | (dsimp only; omega))
  · skip
    refine gILN X0 hx hby d16_0 rfl ?_
    refine gILN X0 hx hby d16_1 rfl ?_
    obtain ⟨T3, X3, e3, st3⟩ := getS2 X0 hx hZ hown (host := "") (Or.inl (own_w hw 76 rfl)) Via.refl e0 S0_jdk_internal_util_Preconditions_SIOOBE_FORMATTER_SIOOBE_FORMATTER (g := (mkF m 2 #[vi i_, vi nz] [(.int nz), (.int i_)])) rfl (hb hby d16_2)
    refine Goes.via st3 ?_
    show Goes p e below _ (T3.setTop (mkF m 5 #[vi i_, vi nz] [(.ref fr), (.int nz), (.int i_)]))
    obtain ⟨_, _, ⟨T4, L4, k4, n4⟩, -, X4, ⟨Lc4, hQ4, l4, y4, z4⟩, st4⟩ := Jvm.LawKit.callS X3 hx (y := (⟨"jdk/internal/util/Preconditions", "checkIndex", "(IILjava/util/function/BiFunction;)I"⟩ : MethodName)) hown (mvT hZ (own_w hw 78 rfl)) (mvT hZ (own_w hw 79 rfl)) (mvT hZ (own_w hw 77 rfl)) (mvT hZ (own_w hw 80 rfl)) (by decide) (backOf (W := 0) (rmPr l Z a0 hw [] i_ nz fr h0 n0 (Nat.le_trans Z0 (Nat.le_refl _)) H0 H1) hZ (own_w hw 80 rfl) (own_w hw 77 rfl) (by decide) (by decide)) (g := (mkF m 5 #[vi i_, vi nz] [(.ref fr), (.int nz), (.int i_)])) rfl (by rw [hml]; rfl) (argsL := [(.int i_), (.int nz), (.ref fr)]) (rest := []) (lenOf pd_1 rfl) rfl (by show 2 * 0 + _ ≤ _; exact Nat.le_of_eq rfl) (hb hby d16_5) (fun _ _ => ⟨rfl, e3, (by decide : 0 + 0 ≤ _), (by decide : 0 + 0 ≤ _)⟩)
    dsimp only [Pt.U, Pt.locs, Pt.cells, Pt.slots] at X4 l4 y4 z4 st4 hQ4
    subst l4 y4 z4
    obtain ⟨rfl, rfl, e4⟩ := hQ4
    first | rw [List.append_nil] at X4 | skip
    refine Goes.via st4 ?_
    have e4' : T4.heap = h0 := e4
    show Goes p e below _ (T4.setTop (mkF m 8 #[vi i_, vi nz] [(.int i_)]))
    refine Goes.via (fun _ kk_ => XS.pop X4.here hx rfl (hb hby d16_8) rfl rfl kk_) ?_
    show Goes p e below _ (T4.setTop (mkF m 9 #[vi i_, vi nz] []))
    exact own_finV X4 hx hlk hret (hb hby d16_9) (by rw [e4']; exact ⟨rfl, rfl, rfl⟩) (by first | decide | omega | (dsimp only; omega)) (by first | decide | omega | (dsimp only; omega))
theorem ef_rm15 (m : MethodId) (b : Addr) (i_ : Int32) : entryFrame m #[(.ref b), (.int i_)] 2 = mkF m 0 #[.val (.ref b), .val (.int i_)] [] := by first | (simp [entryFrame, mkF, argsToLocals, Value.category]; done) | rfl
def Qrm15 (Z : State) (b : Addr) (i_ : Int32) (kc : ClassId) (N : Nat) (g : Nat → Int32) (nz : Int32) (j : Nat) (fo : Value) (h0 : Heap) (n0 : Nat) (v_ : Option Value) (h_ : Heap) (L_ : List Loc) : Prop := v_ = some (.int (g j &&& (255 : Int32))) ∧ L_ = [] ∧ h_ = h0
theorem pn_java_lang_StringLatin1 : plainName "java/lang/StringLatin1" = true := by first | (simp [plainName, overriddenIn]; done) | decide +kernel
theorem d15_0 : decode jdk_43_method_2_code 0 = .ok (.iload_n 1, 1) := by decide +kernel
theorem d15_1 : decode jdk_43_method_2_code 1 = .ok (.aload_n 0, 1) := by decide +kernel
theorem d15_2 : decode jdk_43_method_2_code 2 = .ok (.arraylength, 1) := by decide +kernel
theorem pd_2 : parseMethodDescriptor "(II)V" = some ⟨[.int, .int], none⟩ := by decide +kernel
theorem d15_3 : decode jdk_43_method_2_code 3 = .ok (.invokestatic 9, 3) := by decide +kernel
theorem d15_6 : decode jdk_43_method_2_code 6 = .ok (.aload_n 0, 1) := by decide +kernel
theorem d15_7 : decode jdk_43_method_2_code 7 = .ok (.iload_n 1, 1) := by decide +kernel
theorem d15_8 : decode jdk_43_method_2_code 8 = .ok (.baload, 1) := by decide +kernel
theorem d15_9 : decode jdk_43_method_2_code 9 = .ok (.sipush 255, 3) := by decide +kernel
theorem d15_12 : decode jdk_43_method_2_code 12 = .ok (.iand, 1) := by decide +kernel
theorem d15_13 : decode jdk_43_method_2_code 13 = .ok (.i2c, 1) := by decide +kernel
theorem d15_14 : decode jdk_43_method_2_code 14 = .ok (.ireturn, 1) := by decide +kernel
set_option maxRecDepth 65536 in
set_option maxHeartbeats 40000000 in
theorem rm15 (l : Launch) (Z : State) (a0 : Array Value) (hw : ∀ d ∈ tables_1, d.before a0 Z = true) (ws : List Jvm.Cond) (b : Addr) (i_ : Int32) (kc : ClassId) (N : Nat) (g : Nat → Int32) (nz : Int32) (j : Nat) (fo : Value) (h0 : Heap) (n0 : Nat) (Z0 : n0 ≤ h0.size) (A0_b : Arw Z h0 b kc .byte N (fun i => .int (g i))) (Hij : i_.toInt = (j : Int)) (HjN : j < N) (Hnz : nz.toInt = (N : Int)) (S4_jdk_internal_util_Preconditions_SIOOBE_FORMATTER_SIOOBE_FORMATTER : Sta Z h0 "jdk/internal/util/Preconditions" "SIOOBE_FORMATTER" "Ljava/util/function/BiFunction;" fo) (Hfo : fo.isRef = true) :
    MetFree l (⟨"java/lang/StringLatin1", "charAt", "([BI)C"⟩ : MethodName) (head1 (Jvm.Cond.code (⟨"java/lang/StringLatin1", "charAt", "([BI)C"⟩ : MethodName) jdk_43_method_2_code 2 (some .char) :: ws) ({ frames := 2, cells := 0, slots := 0, locals := 27 } : Room)) (fun as_ U_ => as_ = #[(.ref b), (.int i_)] ∧ Z.Warmed39 U_.vm ∧ U_.heap = h0) (fun _ _ _ _ _ => True) (fun _ U_ o_ V_ => ∃ v_ L_, o_ = .returned v_ ∧ Qrm15 Z b i_ kc N g nz j fo h0 n0 v_ V_.heap L_ ∧ FrameEnd U_ o_ V_ L_ ({ frames := 2, cells := 0, slots := 0, locals := 27 } : Room).cells ({ frames := 2, cells := 0, slots := 0, locals := 27 } : Room).slots) := by
  refine MetFree.of_bodySF (plainFor_of_name pn_java_lang_StringLatin1) hisR ?_
  intro p e s m args below meth c s₁ Bd hml0 hP hK
  obtain ⟨rfl, hZ, hh⟩ := hP
  have hx := Bd.exec
  have hby := Bd.bytes
  have hlk : meth.locks = false := BodyLoose.notSynchronized Bd
  have hret := Bd.returns
  have hml : c.maxLocals = 2 := hml0
  have hown : s.vm.findClass "java/lang/StringLatin1" = some m.cls := findClass_of_methodNamed Bd.named
  have hnm := (name_of_methodNamed Bd.named Bd.method).1
  have X0 : Stand p l e ({ frames := 2, cells := 0, slots := 0, locals := 27 } : Room) s m #[(.ref b), (.int i_)] below meth c s₁ [] 0 0 := Stand.of_body Bd
  have e0 : s₁.heap = h0 := by rw [← hh, Bd.state]; rfl
  have N0 := Fr.nil n0
  show Goes p e below (Fin_ s (Qrm15 Z b i_ kc N g nz j fo h0 n0) ({ frames := 2, cells := 0, slots := 0, locals := 27 } : Room).cells ({ frames := 2, cells := 0, slots := 0, locals := 27 } : Room).slots) (s₁.setTop (entryFrame m #[(.ref b), (.int i_)] 2))
  rw [ef_rm15 m b i_]
  refine gILN X0 hx hby d15_0 rfl ?_
  refine gALN X0 hx hby d15_1 rfl rfl ?_
  refine Goes.via (own_alen X0 hx hZ e0 A0_b (g := (mkF m 2 #[vr b, vi i_] [(.ref b), (.int i_)])) rfl rfl (hb hby d15_2)) ?_
  rw [show (N : Nat).toInt32 = nz from (own_nz Hnz)]
  show Goes p e below _ (s₁.setTop (mkF m 3 #[vr b, vi i_] [(.int nz), (.int i_)]))
  obtain ⟨_, _, ⟨T1, L1, k1, n1⟩, -, X1, ⟨Lc1, hQ1, l1, y1, z1⟩, st1⟩ := Jvm.LawKit.callS X0 hx (y := (⟨"java/lang/String", "checkIndex", "(II)V"⟩ : MethodName)) hown (mvT hZ (own_w hw 73 rfl)) (mvT hZ (own_w hw 74 rfl)) (mvT hZ (own_w hw 10 rfl)) (mvT hZ (own_w hw 75 rfl)) (by decide) (backOf (W := 0) (rm16 l Z a0 hw [] i_ nz fo h0 n0 (Nat.le_trans Z0 (Nat.le_refl _)) S4_jdk_internal_util_Preconditions_SIOOBE_FORMATTER_SIOOBE_FORMATTER Hfo (own_ix Hij).1 (own_lti.mpr (by rw [Hij, Hnz]; exact Int.ofNat_lt.mpr HjN))) hZ (own_w hw 75 rfl) (own_w hw 10 rfl) (by decide) (by decide)) (g := (mkF m 3 #[vr b, vi i_] [(.int nz), (.int i_)])) rfl (by rw [hml]; rfl) (argsL := [(.int i_), (.int nz)]) (rest := []) (lenOf pd_2 rfl) rfl (by show 2 * 0 + _ ≤ _; exact Nat.le_of_eq rfl) (hb hby d15_3) (fun _ _ => ⟨rfl, e0, (by decide : 0 + 0 ≤ _), (by decide : 0 + 0 ≤ _)⟩)
  dsimp only [Pt.U, Pt.locs, Pt.cells, Pt.slots] at X1 l1 y1 z1 st1 hQ1
  subst l1 y1 z1
  obtain ⟨rfl, rfl, e1⟩ := hQ1
  first | rw [List.append_nil] at X1 | skip
  refine Goes.via st1 ?_
  have e1' : T1.heap = h0 := e1
  show Goes p e below _ (T1.setTop (mkF m 6 #[vr b, vi i_] []))
  refine gALN X1 hx hby d15_6 rfl rfl ?_
  refine gILN X1 hx hby d15_7 rfl ?_
  refine Goes.via (own_baload X1 hx hZ e1' A0_b (j := i_) (i := j) (own_ix Hij).1 (own_ix Hij).2 HjN (v := (g j)) rfl (g := (mkF m 8 #[vr b, vi i_] [(.int i_), (.ref b)])) rfl rfl (hb hby d15_8)) ?_
  show Goes p e below _ (T1.setTop (mkF m 9 #[vr b, vi i_] [(.int (g j))]))
  refine gSI (z := 255) X1 hx hby d15_9 rfl ?_
  refine Goes.via (fun _ kk_ => XS.iand X1.here hx rfl (hb hby d15_12) rfl kk_) ?_
  show Goes p e below _ (T1.setTop (mkF m 13 #[vr b, vi i_] [(.int ((g j) &&& (255 : Int32)))]))
  refine Goes.via (fun _ kk_ => XS.i2c X1.here hx rfl (hb hby d15_13) rfl kk_) ?_
  show Goes p e below _ (T1.setTop (mkF m 14 #[vr b, vi i_] [(.int (((g j) &&& (255 : Int32)).toUInt32.toUInt16.toUInt32.toInt32))]))
  exact own_finN X1 hx hlk hret (by simp) (hb hby d15_14) (by rw [e1']; exact ⟨(own_ret ((congrArg (nar .char) (i2c_mask _)).trans (i2c_mask _))), rfl, rfl⟩) (by first | decide | omega | (dsimp only; omega)) (by first | decide | omega | (dsimp only; omega))
theorem ef_rm13 (m : MethodId) (a : Addr) (i_ : Int32) : entryFrame m #[(.ref a), (.int i_)] 2 = mkF m 0 #[.val (.ref a), .val (.int i_)] [] := by first | (simp [entryFrame, mkF, argsToLocals, Value.category]; done) | rfl
def Qrm13 (Z : State) (a : Addr) (i_ : Int32) (cS : Int32) (t : Addr) (kc : ClassId) (N : Nat) (g : Nat → Int32) (nz : Int32) (j : Nat) (fo : Value) (h0 : Heap) (n0 : Nat) (v_ : Option Value) (h_ : Heap) (L_ : List Loc) : Prop := v_ = some (.int (g j &&& (255 : Int32))) ∧ L_ = [] ∧ h_ = h0
theorem d13_0 : decode jdk_42_method_56_code 0 = .ok (.aload_n 0, 1) := by decide +kernel
theorem pd_3 : parseMethodDescriptor "()Z" = some ⟨[], some .boolean⟩ := by decide +kernel
theorem d13_1 : decode jdk_42_method_56_code 1 = .ok (.invokevirtual 492, 3) := by decide +kernel
theorem d13_4 : decode jdk_42_method_56_code 4 = .ok (.ifCond .eq 12, 3) := by decide +kernel
theorem d13_7 : decode jdk_42_method_56_code 7 = .ok (.aload_n 0, 1) := by decide +kernel
theorem d13_8 : decode jdk_42_method_56_code 8 = .ok (.getfield 9, 3) := by decide +kernel
theorem d13_11 : decode jdk_42_method_56_code 11 = .ok (.iload_n 1, 1) := by decide +kernel
theorem pd_4 : parseMethodDescriptor "([BI)C" = some ⟨[(.array .byte), .int], some .char⟩ := by decide +kernel
theorem d13_12 : decode jdk_42_method_56_code 12 = .ok (.invokestatic 495, 3) := by decide +kernel
theorem d13_15 : decode jdk_42_method_56_code 15 = .ok (.ireturn, 1) := by decide +kernel
set_option maxRecDepth 65536 in
set_option maxHeartbeats 40000000 in
theorem rm13 (l : Launch) (Z : State) (a0 : Array Value) (hw : ∀ d ∈ tables_1, d.before a0 Z = true) (ws : List Jvm.Cond) (a : Addr) (i_ : Int32) (cS : Int32) (t : Addr) (kc : ClassId) (N : Nat) (g : Nat → Int32) (nz : Int32) (j : Nat) (fo : Value) (h0 : Heap) (n0 : Nat) (Z0 : n0 ≤ h0.size) (E0_a : Exa Z h0 a "java/lang/String") (F1_a_coder : Fld Z h0 a "java/lang/String" "coder" "B" (.int (0 : Int32))) (F2_a_value : Fld Z h0 a "java/lang/String" "value" "[B" (.ref t)) (A3_t : Arw Z h0 t kc .byte N (fun i => .int (g i))) (S4_java_lang_String_COMPACT_STRINGS_COMPACT_STRINGS : Sta Z h0 "java/lang/String" "COMPACT_STRINGS" "Z" (.int cS)) (H_cs : ¬ cS = (0 : Int32)) (Hij : i_.toInt = (j : Int)) (HjN : j < N) (Hnz : nz.toInt = (N : Int)) (S9_jdk_internal_util_Preconditions_SIOOBE_FORMATTER_SIOOBE_FORMATTER : Sta Z h0 "jdk/internal/util/Preconditions" "SIOOBE_FORMATTER" "Ljava/util/function/BiFunction;" fo) (Hfo : fo.isRef = true) :
    MetFree l (⟨"java/lang/String", "charAt", "(I)C"⟩ : MethodName) (head1 (Jvm.Cond.code (⟨"java/lang/String", "charAt", "(I)C"⟩ : MethodName) jdk_42_method_56_code 2 (some .char) :: ws) ({ frames := 3, cells := 0, slots := 0, locals := 40 } : Room)) (fun as_ U_ => as_ = #[(.ref a), (.int i_)] ∧ Z.Warmed39 U_.vm ∧ U_.heap = h0) (fun _ _ _ _ _ => True) (fun _ U_ o_ V_ => ∃ v_ L_, o_ = .returned v_ ∧ Qrm13 Z a i_ cS t kc N g nz j fo h0 n0 v_ V_.heap L_ ∧ FrameEnd U_ o_ V_ L_ ({ frames := 3, cells := 0, slots := 0, locals := 40 } : Room).cells ({ frames := 3, cells := 0, slots := 0, locals := 40 } : Room).slots) := by
  refine MetFree.of_bodySF (plainFor_of_name pn_java_lang_String) hisR ?_
  intro p e s m args below meth c s₁ Bd hml0 hP hK
  obtain ⟨rfl, hZ, hh⟩ := hP
  have hx := Bd.exec
  have hby := Bd.bytes
  have hlk : meth.locks = false := BodyLoose.notSynchronized Bd
  have hret := Bd.returns
  have hml : c.maxLocals = 2 := hml0
  have hown : s.vm.findClass "java/lang/String" = some m.cls := findClass_of_methodNamed Bd.named
  have hnm := (name_of_methodNamed Bd.named Bd.method).1
  have X0 : Stand p l e ({ frames := 3, cells := 0, slots := 0, locals := 40 } : Room) s m #[(.ref a), (.int i_)] below meth c s₁ [] 0 0 := Stand.of_body Bd
  have e0 : s₁.heap = h0 := by rw [← hh, Bd.state]; rfl
  have N0 := Fr.nil n0
  show Goes p e below (Fin_ s (Qrm13 Z a i_ cS t kc N g nz j fo h0 n0) ({ frames := 3, cells := 0, slots := 0, locals := 40 } : Room).cells ({ frames := 3, cells := 0, slots := 0, locals := 40 } : Room).slots) (s₁.setTop (entryFrame m #[(.ref a), (.int i_)] 2))
  rw [ef_rm13 m a i_]
  have ne1 : a ≠ t := own_ne_arr E0_a (own_w hw 9 rfl) A3_t
  refine gALN X0 hx hby d13_0 rfl rfl ?_
  obtain ⟨cq2, kq2, q2a, q2b, q2c⟩ := isOf hZ e0 E0_a
  obtain ⟨_, _, ⟨T2, L2, k2, n2⟩, -, X2, ⟨Lc2, hQ2, l2, y2, z2⟩, st2⟩ := X0.virtualBack hx (y := (⟨"java/lang/String", "isLatin1", "()Z"⟩ : MethodName)) (z := (⟨"java/lang/String", "isLatin1", "()Z"⟩ : MethodName)) hown (mvT hZ (own_w hw 64 rfl)) (mvT hZ (own_w hw 65 rfl)) (notFace_of_selects (args := #[]) (mvT hZ (own_w hw 67 rfl))) (mvT hZ (own_w hw 67 rfl)) (mvT hZ (own_w hw 66 rfl)) (by decide) (backOf (W := 0) (rm14 l Z a0 hw [] a cS h0 n0 (Nat.le_trans Z0 (Nat.le_refl _)) F1_a_coder S4_java_lang_String_COMPACT_STRINGS_COMPACT_STRINGS H_cs) hZ (own_w hw 68 rfl) (own_w hw 10 rfl) (by decide) (by decide)) q2a q2c (g := (mkF m 1 #[vr a, vi i_] [(.ref a)])) rfl (by rw [hml]; rfl) (Steps.refl _) (argsL := []) (rest := []) (lenOf pd_3 rfl) rfl (by show 2 * 0 + _ ≤ _; exact Nat.le_of_eq rfl) (hb hby d13_1) (fun _ _ => ⟨rfl, e0, (by decide : 0 + 0 ≤ _), (by decide : 0 + 0 ≤ _)⟩)
  dsimp only [Pt.U, Pt.locs, Pt.cells, Pt.slots] at X2 l2 y2 z2 st2 hQ2
  subst l2 y2 z2
  obtain ⟨rfl, rfl, e2⟩ := hQ2
  first | rw [List.append_nil] at X2 | skip
  refine Goes.tr st2 ?_
  have e2' : T2.heap = h0 := e2
  show Goes p e below _ (T2.setTop (mkF m 4 #[vr a, vi i_] [(.int (1 : Int32))]))
  have hc4_3 : ¬ ((1 : Int32) = (0 : Int32)) := (by decide)
  refine Goes.via (fun _ kk_ => XS.ifNo X2.here hx rfl (hb hby d13_4) rfl ((if0 _ _).trans (feq hc4_3).1) kk_) ?_
  show Goes p e below _ (T2.setTop (mkF m 7 #[vr a, vi i_] []))
  refine gALN X2 hx hby d13_7 rfl rfl ?_
  obtain ⟨T4, X4, e4, st4⟩ := getF X2 hx hZ hown (host := "") (Or.inl (own_w hw 35 rfl)) Via.refl e2' F2_a_value (g := (mkF m 8 #[vr a, vi i_] [(.ref a)])) rfl rfl (hb hby d13_8)
  refine Goes.via st4 ?_
  show Goes p e below _ (T4.setTop (mkF m 11 #[vr a, vi i_] [(.ref t)]))
  refine gILN X4 hx hby d13_11 rfl ?_
  obtain ⟨_, _, ⟨T5, L5, k5, n5⟩, -, X5, ⟨Lc5, hQ5, l5, y5, z5⟩, st5⟩ := Jvm.LawKit.callS X4 hx (y := (⟨"java/lang/StringLatin1", "charAt", "([BI)C"⟩ : MethodName)) hown (mvT hZ (own_w hw 69 rfl)) (mvT hZ (own_w hw 70 rfl)) (mvT hZ (own_w hw 71 rfl)) (mvT hZ (own_w hw 72 rfl)) (by decide) (backOf (W := 0) (rm15 l Z a0 hw [] t i_ kc N g nz j fo h0 n0 (Nat.le_trans Z0 (Nat.le_refl _)) A3_t Hij HjN Hnz S9_jdk_internal_util_Preconditions_SIOOBE_FORMATTER_SIOOBE_FORMATTER Hfo) hZ (own_w hw 72 rfl) (own_w hw 71 rfl) (by decide) (by decide)) (g := (mkF m 12 #[vr a, vi i_] [(.int i_), (.ref t)])) rfl (by rw [hml]; rfl) (argsL := [(.ref t), (.int i_)]) (rest := []) (lenOf pd_4 rfl) rfl (by show 2 * 0 + _ ≤ _; exact Nat.le_of_eq rfl) (hb hby d13_12) (fun _ _ => ⟨rfl, e4, (by decide : 0 + 0 ≤ _), (by decide : 0 + 0 ≤ _)⟩)
  dsimp only [Pt.U, Pt.locs, Pt.cells, Pt.slots] at X5 l5 y5 z5 st5 hQ5
  subst l5 y5 z5
  obtain ⟨rfl, rfl, e5⟩ := hQ5
  first | rw [List.append_nil] at X5 | skip
  refine Goes.via st5 ?_
  have e5' : T5.heap = h0 := e5
  show Goes p e below _ (T5.setTop (mkF m 15 #[vr a, vi i_] [(.int (g j &&& (255 : Int32)))]))
  exact own_finN X5 hx hlk hret (by simp) (hb hby d13_15) (by rw [e5']; exact ⟨(own_ret (i2c_mask _)), rfl, rfl⟩) (by first | decide | omega | (dsimp only; omega)) (by first | decide | omega | (dsimp only; omega))
theorem ef_rm28 (m : MethodId) (ch : Int32) : entryFrame m #[(.int ch)] 1 = mkF m 0 #[.val (.int ch)] [] := by first | (simp [entryFrame, mkF, argsToLocals, Value.category]; done) | rfl
def Qrm28 (Z : State) (ch : Int32) (h0 : Heap) (n0 : Nat) (v_ : Option Value) (h_ : Heap) (L_ : List Loc) : Prop := v_ = some (.int (1 : Int32)) ∧ L_ = [] ∧ h_ = h0
theorem d28_0 : decode jdk_43_method_4_code 0 = .ok (.iload_n 0, 1) := by decide +kernel
theorem d28_1 : decode jdk_43_method_4_code 1 = .ok (.ifCond .lt 14, 3) := by decide +kernel
theorem d28_4 : decode jdk_43_method_4_code 4 = .ok (.iload_n 0, 1) := by decide +kernel
theorem d28_5 : decode jdk_43_method_4_code 5 = .ok (.sipush 255, 3) := by decide +kernel
theorem d28_8 : decode jdk_43_method_4_code 8 = .ok (.if_icmp .gt 7, 3) := by decide +kernel
theorem d28_11 : decode jdk_43_method_4_code 11 = .ok (.iconst 1, 1) := by decide +kernel
theorem d28_12 : decode jdk_43_method_4_code 12 = .ok (.goto 4, 3) := by decide +kernel
theorem d28_16 : decode jdk_43_method_4_code 16 = .ok (.ireturn, 1) := by decide +kernel
set_option maxRecDepth 65536 in
set_option maxHeartbeats 40000000 in
theorem rm28 (l : Launch) (Z : State) (a0 : Array Value) (hw : ∀ d ∈ tables_1, d.before a0 Z = true) (ws : List Jvm.Cond) (ch : Int32) (h0 : Heap) (n0 : Nat) (Z0 : n0 ≤ h0.size) (H0 : ¬ ch < (0 : Int32)) (H1 : ¬ (255 : Int32) < ch) :
    MetFree l (⟨"java/lang/StringLatin1", "canEncode", "(I)Z"⟩ : MethodName) (head1 (Jvm.Cond.code (⟨"java/lang/StringLatin1", "canEncode", "(I)Z"⟩ : MethodName) jdk_43_method_4_code 1 (some .boolean) :: ws) ({ frames := 0, cells := 0, slots := 0, locals := 0 } : Room)) (fun as_ U_ => as_ = #[(.int ch)] ∧ Z.Warmed39 U_.vm ∧ U_.heap = h0) (fun _ _ _ _ _ => True) (fun _ U_ o_ V_ => ∃ v_ L_, o_ = .returned v_ ∧ Qrm28 Z ch h0 n0 v_ V_.heap L_ ∧ FrameEnd U_ o_ V_ L_ ({ frames := 0, cells := 0, slots := 0, locals := 0 } : Room).cells ({ frames := 0, cells := 0, slots := 0, locals := 0 } : Room).slots) := by
  refine MetFree.of_bodySF (plainFor_of_name pn_java_lang_StringLatin1) hisR ?_
  intro p e s m args below meth c s₁ Bd hml0 hP hK
  obtain ⟨rfl, hZ, hh⟩ := hP
  have hx := Bd.exec
  have hby := Bd.bytes
  have hlk : meth.locks = false := BodyLoose.notSynchronized Bd
  have hret := Bd.returns
  have hml : c.maxLocals = 1 := hml0
  have hown : s.vm.findClass "java/lang/StringLatin1" = some m.cls := findClass_of_methodNamed Bd.named
  have hnm := (name_of_methodNamed Bd.named Bd.method).1
  have X0 : Stand p l e ({ frames := 0, cells := 0, slots := 0, locals := 0 } : Room) s m #[(.int ch)] below meth c s₁ [] 0 0 := Stand.of_body Bd
  have e0 : s₁.heap = h0 := by rw [← hh, Bd.state]; rfl
  have N0 := Fr.nil n0
  show Goes p e below (Fin_ s (Qrm28 Z ch h0 n0) ({ frames := 0, cells := 0, slots := 0, locals := 0 } : Room).cells ({ frames := 0, cells := 0, slots := 0, locals := 0 } : Room).slots) (s₁.setTop (entryFrame m #[(.int ch)] 1))
  rw [ef_rm28 m ch]
  refine gILN X0 hx hby d28_0 rfl ?_
  have hc1_1 : ¬ (ch < (0 : Int32)) := H0
  refine Goes.via (fun _ kk_ => XS.ifNo X0.here hx rfl (hb hby d28_1) rfl ((if0 _ _).trans (flt hc1_1).1) kk_) ?_
  show Goes p e below _ (s₁.setTop (mkF m 4 #[vi ch] []))
  refine gILN X0 hx hby d28_4 rfl ?_
  refine gSI (z := 255) X0 hx hby d28_5 rfl ?_
  have hc8_2 : ¬ ((255 : Int32) < ch) := H1
  refine Goes.via (fun _ kk_ => XS.icmpNo X0.here hx rfl (hb hby d28_8) rfl (flt hc8_2).2.2.1 kk_) ?_
  show Goes p e below _ (s₁.setTop (mkF m 11 #[vi ch] []))
  refine gIC (z := 1) X0 hx hby d28_11 rfl ?_
  refine Goes.via (fun _ kk_ => XS.goto X0.here hx rfl (pc0 := 12) (pc' := 16) rfl (hb hby d28_12) (by decide) (by decide) kk_) ?_
  show Goes p e below _ (s₁.setTop (mkF m 16 #[vi ch] [(.int (1 : Int32))]))
  exact own_finN X0 hx hlk hret (by simp) (hb hby d28_16) (by rw [e0]; exact ⟨rfl, rfl, rfl⟩) (by first | decide | omega | (dsimp only; omega)) (by first | decide | omega | (dsimp only; omega))
theorem ef_rm29 (m : MethodId) (x : Int32) (y : Int32) : entryFrame m #[(.int x), (.int y)] 2 = mkF m 0 #[.val (.int x), .val (.int y)] [] := by first | (simp [entryFrame, mkF, argsToLocals, Value.category]; done) | rfl
def Qrm29 (Z : State) (x : Int32) (y : Int32) (h0 : Heap) (n0 : Nat) (v_ : Option Value) (h_ : Heap) (L_ : List Loc) : Prop := v_ = some (.int x) ∧ L_ = [] ∧ h_ = h0
theorem d29_0 : decode jdk_29_method_65_code 0 = .ok (.iload_n 0, 1) := by decide +kernel
theorem d29_1 : decode jdk_29_method_65_code 1 = .ok (.iload_n 1, 1) := by decide +kernel
theorem d29_2 : decode jdk_29_method_65_code 2 = .ok (.if_icmp .lt 7, 3) := by decide +kernel
theorem d29_5 : decode jdk_29_method_65_code 5 = .ok (.iload_n 0, 1) := by decide +kernel
theorem d29_6 : decode jdk_29_method_65_code 6 = .ok (.goto 4, 3) := by decide +kernel
theorem d29_10 : decode jdk_29_method_65_code 10 = .ok (.ireturn, 1) := by decide +kernel
set_option maxRecDepth 65536 in
set_option maxHeartbeats 40000000 in
theorem rm29 (l : Launch) (Z : State) (a0 : Array Value) (hw : ∀ d ∈ tables_1, d.before a0 Z = true) (ws : List Jvm.Cond) (x : Int32) (y : Int32) (h0 : Heap) (n0 : Nat) (Z0 : n0 ≤ h0.size) (H0 : ¬ x < y) :
    MetFree l (⟨"java/lang/Math", "max", "(II)I"⟩ : MethodName) (head1 (Jvm.Cond.code (⟨"java/lang/Math", "max", "(II)I"⟩ : MethodName) jdk_29_method_65_code 2 (some .int) :: ws) ({ frames := 0, cells := 0, slots := 0, locals := 0 } : Room)) (fun as_ U_ => as_ = #[(.int x), (.int y)] ∧ Z.Warmed39 U_.vm ∧ U_.heap = h0) (fun _ _ _ _ _ => True) (fun _ U_ o_ V_ => ∃ v_ L_, o_ = .returned v_ ∧ Qrm29 Z x y h0 n0 v_ V_.heap L_ ∧ FrameEnd U_ o_ V_ L_ ({ frames := 0, cells := 0, slots := 0, locals := 0 } : Room).cells ({ frames := 0, cells := 0, slots := 0, locals := 0 } : Room).slots) := by
  refine MetFree.of_bodySF (Jvm.Free.JP.mathPlain rfl (by decide +kernel)) hisR ?_
  intro p e s m args below meth c s₁ Bd hml0 hP hK
  obtain ⟨rfl, hZ, hh⟩ := hP
  have hx := Bd.exec
  have hby := Bd.bytes
  have hlk : meth.locks = false := BodyLoose.notSynchronized Bd
  have hret := Bd.returns
  have hml : c.maxLocals = 2 := hml0
  have hown : s.vm.findClass "java/lang/Math" = some m.cls := findClass_of_methodNamed Bd.named
  have hnm := (name_of_methodNamed Bd.named Bd.method).1
  have X0 : Stand p l e ({ frames := 0, cells := 0, slots := 0, locals := 0 } : Room) s m #[(.int x), (.int y)] below meth c s₁ [] 0 0 := Stand.of_body Bd
  have e0 : s₁.heap = h0 := by rw [← hh, Bd.state]; rfl
  have N0 := Fr.nil n0
  show Goes p e below (Fin_ s (Qrm29 Z x y h0 n0) ({ frames := 0, cells := 0, slots := 0, locals := 0 } : Room).cells ({ frames := 0, cells := 0, slots := 0, locals := 0 } : Room).slots) (s₁.setTop (entryFrame m #[(.int x), (.int y)] 2))
  rw [ef_rm29 m x y]
  refine gILN X0 hx hby d29_0 rfl ?_
  refine gILN X0 hx hby d29_1 rfl ?_
  have hc2_1 : ¬ (x < y) := H0
  refine Goes.via (fun _ kk_ => XS.icmpNo X0.here hx rfl (hb hby d29_2) rfl (flt hc2_1).1 kk_) ?_
  show Goes p e below _ (s₁.setTop (mkF m 5 #[vi x, vi y] []))
  refine gILN X0 hx hby d29_5 rfl ?_
  refine Goes.via (fun _ kk_ => XS.goto X0.here hx rfl (pc0 := 6) (pc' := 10) rfl (hb hby d29_6) (by decide) (by decide) kk_) ?_
  show Goes p e below _ (s₁.setTop (mkF m 10 #[vi x, vi y] [(.int x)]))
  exact own_finI X0 hx hlk hret (hb hby d29_10) (by rw [e0]; exact ⟨rfl, rfl, rfl⟩) (by first | decide | omega | (dsimp only; omega)) (by first | decide | omega | (dsimp only; omega))
theorem ef_rm30 (m : MethodId) (x : Int32) (y : Int32) : entryFrame m #[(.int x), (.int y)] 2 = mkF m 0 #[.val (.int x), .val (.int y)] [] := by first | (simp [entryFrame, mkF, argsToLocals, Value.category]; done) | rfl
def Qrm30 (Z : State) (x : Int32) (y : Int32) (h0 : Heap) (n0 : Nat) (v_ : Option Value) (h_ : Heap) (L_ : List Loc) : Prop := v_ = some (.int x) ∧ L_ = [] ∧ h_ = h0
theorem d30_0 : decode jdk_29_method_69_code 0 = .ok (.iload_n 0, 1) := by decide +kernel
theorem d30_1 : decode jdk_29_method_69_code 1 = .ok (.iload_n 1, 1) := by decide +kernel
theorem d30_2 : decode jdk_29_method_69_code 2 = .ok (.if_icmp .gt 7, 3) := by decide +kernel
theorem d30_5 : decode jdk_29_method_69_code 5 = .ok (.iload_n 0, 1) := by decide +kernel
theorem d30_6 : decode jdk_29_method_69_code 6 = .ok (.goto 4, 3) := by decide +kernel
theorem d30_10 : decode jdk_29_method_69_code 10 = .ok (.ireturn, 1) := by decide +kernel
set_option maxRecDepth 65536 in
set_option maxHeartbeats 40000000 in
theorem rm30 (l : Launch) (Z : State) (a0 : Array Value) (hw : ∀ d ∈ tables_1, d.before a0 Z = true) (ws : List Jvm.Cond) (x : Int32) (y : Int32) (h0 : Heap) (n0 : Nat) (Z0 : n0 ≤ h0.size) (H0 : ¬ y < x) :
    MetFree l (⟨"java/lang/Math", "min", "(II)I"⟩ : MethodName) (head1 (Jvm.Cond.code (⟨"java/lang/Math", "min", "(II)I"⟩ : MethodName) jdk_29_method_69_code 2 (some .int) :: ws) ({ frames := 0, cells := 0, slots := 0, locals := 0 } : Room)) (fun as_ U_ => as_ = #[(.int x), (.int y)] ∧ Z.Warmed39 U_.vm ∧ U_.heap = h0) (fun _ _ _ _ _ => True) (fun _ U_ o_ V_ => ∃ v_ L_, o_ = .returned v_ ∧ Qrm30 Z x y h0 n0 v_ V_.heap L_ ∧ FrameEnd U_ o_ V_ L_ ({ frames := 0, cells := 0, slots := 0, locals := 0 } : Room).cells ({ frames := 0, cells := 0, slots := 0, locals := 0 } : Room).slots) := by
  refine MetFree.of_bodySF (Jvm.Free.JP.mathPlain rfl (by decide +kernel)) hisR ?_
  intro p e s m args below meth c s₁ Bd hml0 hP hK
  obtain ⟨rfl, hZ, hh⟩ := hP
  have hx := Bd.exec
  have hby := Bd.bytes
  have hlk : meth.locks = false := BodyLoose.notSynchronized Bd
  have hret := Bd.returns
  have hml : c.maxLocals = 2 := hml0
  have hown : s.vm.findClass "java/lang/Math" = some m.cls := findClass_of_methodNamed Bd.named
  have hnm := (name_of_methodNamed Bd.named Bd.method).1
  have X0 : Stand p l e ({ frames := 0, cells := 0, slots := 0, locals := 0 } : Room) s m #[(.int x), (.int y)] below meth c s₁ [] 0 0 := Stand.of_body Bd
  have e0 : s₁.heap = h0 := by rw [← hh, Bd.state]; rfl
  have N0 := Fr.nil n0
  show Goes p e below (Fin_ s (Qrm30 Z x y h0 n0) ({ frames := 0, cells := 0, slots := 0, locals := 0 } : Room).cells ({ frames := 0, cells := 0, slots := 0, locals := 0 } : Room).slots) (s₁.setTop (entryFrame m #[(.int x), (.int y)] 2))
  rw [ef_rm30 m x y]
  refine gILN X0 hx hby d30_0 rfl ?_
  refine gILN X0 hx hby d30_1 rfl ?_
  have hc2_1 : ¬ (y < x) := H0
  refine Goes.via (fun _ kk_ => XS.icmpNo X0.here hx rfl (hb hby d30_2) rfl (flt hc2_1).2.2.1 kk_) ?_
  show Goes p e below _ (s₁.setTop (mkF m 5 #[vi x, vi y] []))
  refine gILN X0 hx hby d30_5 rfl ?_
  refine Goes.via (fun _ kk_ => XS.goto X0.here hx rfl (pc0 := 6) (pc' := 10) rfl (hb hby d30_6) (by decide) (by decide) kk_) ?_
  show Goes p e below _ (s₁.setTop (mkF m 10 #[vi x, vi y] [(.int x)]))
  exact own_finI X0 hx hlk hret (hb hby d30_10) (by rw [e0]; exact ⟨rfl, rfl, rfl⟩) (by first | decide | omega | (dsimp only; omega)) (by first | decide | omega | (dsimp only; omega))
theorem ef_rm31 (m : MethodId) (b : Addr) (ch : Int32) (i_ : Int32) (nz : Int32) : entryFrame m #[(.ref b), (.int ch), (.int i_), (.int nz)] 6 = mkF m 0 #[.val (.ref b), .val (.int ch), .val (.int i_), .val (.int nz), .unset, .unset] [] := by first | (simp [entryFrame, mkF, argsToLocals, Value.category]; done) | rfl
def Qrm31 (Z : State) (b : Addr) (ch : Int32) (i_ : Int32) (nz : Int32) (kc : ClassId) (N : Nat) (g : Nat → Int32) (j : Nat) (h0 : Heap) (n0 : Nat) (v_ : Option Value) (h_ : Heap) (L_ : List Loc) : Prop := v_ = some (.int (own_find g ch.toInt8.toInt32 (N - j) j i_)) ∧ L_ = [] ∧ h_ = h0
theorem d31_0 : decode jdk_43_method_23_code 0 = .ok (.iload_n 1, 1) := by decide +kernel
theorem d31_1 : decode jdk_43_method_23_code 1 = .ok (.i2b, 1) := by decide +kernel
theorem d31_2 : decode jdk_43_method_23_code 2 = .ok (.istore 4, 2) := by decide +kernel
theorem d31_4 : decode jdk_43_method_23_code 4 = .ok (.iload_n 2, 1) := by decide +kernel
theorem d31_5 : decode jdk_43_method_23_code 5 = .ok (.istore 5, 2) := by decide +kernel
theorem d31_7 : decode jdk_43_method_23_code 7 = .ok (.iload 5, 2) := by decide +kernel
theorem d31_9 : decode jdk_43_method_23_code 9 = .ok (.iload_n 3, 1) := by decide +kernel
theorem d31_10 : decode jdk_43_method_23_code 10 = .ok (.if_icmp .ge 21, 3) := by decide +kernel
theorem d31_13 : decode jdk_43_method_23_code 13 = .ok (.aload_n 0, 1) := by decide +kernel
theorem d31_14 : decode jdk_43_method_23_code 14 = .ok (.iload 5, 2) := by decide +kernel
theorem d31_16 : decode jdk_43_method_23_code 16 = .ok (.baload, 1) := by decide +kernel
theorem d31_17 : decode jdk_43_method_23_code 17 = .ok (.iload 4, 2) := by decide +kernel
theorem d31_19 : decode jdk_43_method_23_code 19 = .ok (.if_icmp .ne 6, 3) := by decide +kernel
theorem d31_22 : decode jdk_43_method_23_code 22 = .ok (.iload 5, 2) := by decide +kernel
theorem d31_24 : decode jdk_43_method_23_code 24 = .ok (.ireturn, 1) := by decide +kernel
theorem d31_25 : decode jdk_43_method_23_code 25 = .ok (.iinc 5 1, 3) := by decide +kernel
theorem d31_28 : decode jdk_43_method_23_code 28 = .ok (.goto (-21), 3) := by decide +kernel
theorem d31_31 : decode jdk_43_method_23_code 31 = .ok (.iconst (-1), 1) := by decide +kernel
theorem d31_32 : decode jdk_43_method_23_code 32 = .ok (.ireturn, 1) := by decide +kernel
set_option maxRecDepth 65536 in
set_option maxHeartbeats 40000000 in
theorem rm31 (l : Launch) (Z : State) (a0 : Array Value) (hw : ∀ d ∈ tables_1, d.before a0 Z = true) (ws : List Jvm.Cond) (b : Addr) (ch : Int32) (i_ : Int32) (nz : Int32) (kc : ClassId) (N : Nat) (g : Nat → Int32) (j : Nat) (h0 : Heap) (n0 : Nat) (Z0 : n0 ≤ h0.size) (A0_b : Arw Z h0 b kc .byte N (fun i => .int (g i))) (Hij : i_.toInt = (j : Int)) (HjN : j ≤ N) (Hnz : nz.toInt = (N : Int)) :
    MetFree l (⟨"java/lang/StringLatin1", "indexOfChar", "([BIII)I"⟩ : MethodName) (head1 (Jvm.Cond.code (⟨"java/lang/StringLatin1", "indexOfChar", "([BIII)I"⟩ : MethodName) jdk_43_method_23_code 6 (some .int) :: ws) ({ frames := 0, cells := 0, slots := 0, locals := 0 } : Room)) (fun as_ U_ => as_ = #[(.ref b), (.int ch), (.int i_), (.int nz)] ∧ Z.Warmed39 U_.vm ∧ U_.heap = h0) (fun _ _ _ _ _ => True) (fun _ U_ o_ V_ => ∃ v_ L_, o_ = .returned v_ ∧ Qrm31 Z b ch i_ nz kc N g j h0 n0 v_ V_.heap L_ ∧ FrameEnd U_ o_ V_ L_ ({ frames := 0, cells := 0, slots := 0, locals := 0 } : Room).cells ({ frames := 0, cells := 0, slots := 0, locals := 0 } : Room).slots) := by
  refine MetFree.of_bodySF (plainFor_of_name pn_java_lang_StringLatin1) hisR ?_
  intro p e s m args below meth c s₁ Bd hml0 hP hK
  obtain ⟨rfl, hZ, hh⟩ := hP
  have hx := Bd.exec
  have hby := Bd.bytes
  have hlk : meth.locks = false := BodyLoose.notSynchronized Bd
  have hret := Bd.returns
  have hml : c.maxLocals = 6 := hml0
  have hown : s.vm.findClass "java/lang/StringLatin1" = some m.cls := findClass_of_methodNamed Bd.named
  have hnm := (name_of_methodNamed Bd.named Bd.method).1
  have X0 : Stand p l e ({ frames := 0, cells := 0, slots := 0, locals := 0 } : Room) s m #[(.ref b), (.int ch), (.int i_), (.int nz)] below meth c s₁ [] 0 0 := Stand.of_body Bd
  have e0 : s₁.heap = h0 := by rw [← hh, Bd.state]; rfl
  have N0 := Fr.nil n0
  show Goes p e below (Fin_ s (Qrm31 Z b ch i_ nz kc N g j h0 n0) ({ frames := 0, cells := 0, slots := 0, locals := 0 } : Room).cells ({ frames := 0, cells := 0, slots := 0, locals := 0 } : Room).slots) (s₁.setTop (entryFrame m #[(.ref b), (.int ch), (.int i_), (.int nz)] 6))
  rw [ef_rm31 m b ch i_ nz]
  refine gILN X0 hx hby d31_0 rfl ?_
  refine Goes.via (fun _ kk_ => XS.i2b X0.here hx rfl (hb hby d31_1) rfl kk_) ?_
  show Goes p e below _ (s₁.setTop (mkF m 2 #[vr b, vi ch, vi i_, vi nz, .unset, .unset] [(.int (ch.toInt8.toInt32))]))
  refine Goes.via (fun _ kk_ => XS.istore X0.here hx rfl (hb hby d31_2) rfl (l' := #[vr b, vi ch, vi i_, vi nz, vi (ch.toInt8.toInt32), .unset]) rfl kk_) ?_
  show Goes p e below _ (s₁.setTop (mkF m 4 #[vr b, vi ch, vi i_, vi nz, vi (ch.toInt8.toInt32), .unset] []))
  refine gILN X0 hx hby d31_4 rfl ?_
  refine Goes.via (fun _ kk_ => XS.istore X0.here hx rfl (hb hby d31_5) rfl (l' := #[vr b, vi ch, vi i_, vi nz, vi (ch.toInt8.toInt32), vi i_]) rfl kk_) ?_
  show Goes p e below _ (s₁.setTop (mkF m 7 #[vr b, vi ch, vi i_, vi nz, vi (ch.toInt8.toInt32), vi i_] []))
  have lp1 : ∀ (fu1 : Nat) (u : Int32) (y : Nat) (T1 : State) (lc1 : List Loc), (Stand p l e ({ frames := 0, cells := 0, slots := 0, locals := 0 } : Room) s m #[(.ref b), (.int ch), (.int i_), (.int nz)] below meth c T1 lc1 0 0) → (T1.heap = h0) → (lc1 = []) → (u.toInt = (y : Int)) → (y ≤ N) → (y + fu1 = N + 1) → (own_find g ch.toInt8.toInt32 (N - y) y u = own_find g ch.toInt8.toInt32 (N - j) j i_) → Goes p e below (Fin_ s (Qrm31 Z b ch i_ nz kc N g j h0 n0) ({ frames := 0, cells := 0, slots := 0, locals := 0 } : Room).cells ({ frames := 0, cells := 0, slots := 0, locals := 0 } : Room).slots) (T1.setTop (mkF m 7 #[vr b, vi ch, vi i_, vi nz, vi (ch.toInt8.toInt32), vi u] [])) := by
    intro fu1
    induction fu1 with
    | zero =>
      intro u y T1 lc1 X1 e1 N1 hu hyn hfu hr
      omega
    | succ fu1 ih1 =>
      intro u y T1 lc1 X1 e1 N1 hu hyn hfu hr
      subst N1
      refine gIL X1 hx hby d31_7 rfl ?_
      refine gILN X1 hx hby d31_9 rfl ?_
      by_cases hc10 : u < nz
      · skip
        refine Goes.via (fun _ kk_ => XS.icmpNo X1.here hx rfl (hb hby d31_10) rfl (tlt hc10).2.1 kk_) ?_
        show Goes p e below _ (T1.setTop (mkF m 13 #[vr b, vi ch, vi i_, vi nz, vi (ch.toInt8.toInt32), vi u] []))
        have hyN : y < N := by have q := own_lti.mp hc10; rw [hu, Hnz] at q; omega
        refine gALN X1 hx hby d31_13 rfl rfl ?_
        refine gIL X1 hx hby d31_14 rfl ?_
        refine Goes.via (own_baload X1 hx hZ e1 A0_b (j := u) (i := y) (own_ix hu).1 (own_ix hu).2 hyN (v := (g y)) rfl (g := (mkF m 16 #[vr b, vi ch, vi i_, vi nz, vi (ch.toInt8.toInt32), vi u] [(.int u), (.ref b)])) rfl rfl (hb hby d31_16)) ?_
        show Goes p e below _ (T1.setTop (mkF m 17 #[vr b, vi ch, vi i_, vi nz, vi (ch.toInt8.toInt32), vi u] [(.int (g y))]))
        refine gIL X1 hx hby d31_17 rfl ?_
        by_cases hc19 : (g y) = (ch.toInt8.toInt32)
        · skip
          refine Goes.via (fun _ kk_ => XS.icmpNo X1.here hx rfl (hb hby d31_19) rfl (teq hc19).2 kk_) ?_
          show Goes p e below _ (T1.setTop (mkF m 22 #[vr b, vi ch, vi i_, vi nz, vi (ch.toInt8.toInt32), vi u] []))
          refine gIL X1 hx hby d31_22 rfl ?_
          exact own_finI X1 hx hlk hret (hb hby d31_24) (by rw [e1]; exact ⟨(own_ret (hr.symm.trans (own_find_hit hyN hc19)).symm), rfl, rfl⟩) (by first | decide | omega | (dsimp only; omega)) (by first | decide | omega | (dsimp only; omega))
        · skip
          refine Goes.via (fun _ kk_ => XS.icmpYes X1.here hx rfl (pc0 := 19) (pc' := 25) rfl (hb hby d31_19) rfl (feq hc19).2 (by decide) (by decide) kk_) ?_
          show Goes p e below _ (T1.setTop (mkF m 25 #[vr b, vi ch, vi i_, vi nz, vi (ch.toInt8.toInt32), vi u] []))
          refine Goes.via (fun _ kk_ => XS.iinc X1.here hx rfl (hb hby d31_25) rfl (l' := #[vr b, vi ch, vi i_, vi nz, vi (ch.toInt8.toInt32), vi (u + (1 : Int32))]) rfl kk_) ?_
          show Goes p e below _ (T1.setTop (mkF m 28 #[vr b, vi ch, vi i_, vi nz, vi (ch.toInt8.toInt32), vi (u + (1 : Int32))] []))
          refine Goes.via (fun _ kk_ => XS.goto X1.here hx rfl (pc0 := 28) (pc' := 7) rfl (hb hby d31_28) (by decide) (by decide) kk_) ?_
          show Goes p e below _ (T1.setTop (mkF m 7 #[vr b, vi ch, vi i_, vi nz, vi (ch.toInt8.toInt32), vi (u + (1 : Int32))] []))
          exact ih1 ((u + (1 : Int32))) (y + 1) _ _ X1 e1 rfl (own_p1 hu (by have := nz.toInt_lt; omega)) (by omega) (by omega) ((own_find_next hyN hc19).trans hr)
      · skip
        refine Goes.via (fun _ kk_ => XS.icmpYes X1.here hx rfl (pc0 := 10) (pc' := 31) rfl (hb hby d31_10) rfl (flt hc10).2.1 (by decide) (by decide) kk_) ?_
        show Goes p e below _ (T1.setTop (mkF m 31 #[vr b, vi ch, vi i_, vi nz, vi (ch.toInt8.toInt32), vi u] []))
        refine gIC (z := -1) X1 hx hby d31_31 rfl ?_
        exact own_finI X1 hx hlk hret (hb hby d31_32) (by rw [e1]; exact ⟨(own_ret (hr.symm.trans (own_find_end (by have q : ¬ _ := fun q => hc10 (own_lti.mpr q); rw [hu, Hnz] at q; omega))).symm), rfl, rfl⟩) (by first | decide | omega | (dsimp only; omega)) (by first | decide | omega | (dsimp only; omega))
  exact lp1 (N + 1 - j) (i_) (j) _ _ X0 e0 rfl Hij HjN (by omega) rfl
theorem ef_rm27 (m : MethodId) (b : Addr) (ch : Int32) (i_ : Int32) (nz : Int32) : entryFrame m #[(.ref b), (.int ch), (.int i_), (.int nz)] 4 = mkF m 0 #[.val (.ref b), .val (.int ch), .val (.int i_), .val (.int nz)] [] := by first | (simp [entryFrame, mkF, argsToLocals, Value.category]; done) | rfl
def Qrm27 (Z : State) (b : Addr) (ch : Int32) (i_ : Int32) (nz : Int32) (kc : ClassId) (N : Nat) (g : Nat → Int32) (j : Nat) (h0 : Heap) (n0 : Nat) (v_ : Option Value) (h_ : Heap) (L_ : List Loc) : Prop := v_ = some (.int (own_find g ch.toInt8.toInt32 (N - j) j i_)) ∧ L_ = [] ∧ h_ = h0
theorem d27_0 : decode jdk_43_method_22_code 0 = .ok (.iload_n 1, 1) := by decide +kernel
theorem pd_5 : parseMethodDescriptor "(I)Z" = some ⟨[.int], some .boolean⟩ := by decide +kernel
theorem d27_1 : decode jdk_43_method_22_code 1 = .ok (.invokestatic 88, 3) := by decide +kernel
theorem d27_4 : decode jdk_43_method_22_code 4 = .ok (.ifCond .ne 5, 3) := by decide +kernel
theorem d27_9 : decode jdk_43_method_22_code 9 = .ok (.iload_n 2, 1) := by decide +kernel
theorem d27_10 : decode jdk_43_method_22_code 10 = .ok (.iconst 0, 1) := by decide +kernel
theorem pd_6 : parseMethodDescriptor "(II)I" = some ⟨[.int, .int], some .int⟩ := by decide +kernel
theorem d27_11 : decode jdk_43_method_22_code 11 = .ok (.invokestatic 92, 3) := by decide +kernel
theorem d27_14 : decode jdk_43_method_22_code 14 = .ok (.istore_n 2, 1) := by decide +kernel
theorem d27_15 : decode jdk_43_method_22_code 15 = .ok (.iload_n 3, 1) := by decide +kernel
theorem d27_16 : decode jdk_43_method_22_code 16 = .ok (.aload_n 0, 1) := by decide +kernel
theorem d27_17 : decode jdk_43_method_22_code 17 = .ok (.arraylength, 1) := by decide +kernel
theorem d27_18 : decode jdk_43_method_22_code 18 = .ok (.invokestatic 38, 3) := by decide +kernel
theorem d27_21 : decode jdk_43_method_22_code 21 = .ok (.istore_n 3, 1) := by decide +kernel
theorem d27_22 : decode jdk_43_method_22_code 22 = .ok (.iload_n 2, 1) := by decide +kernel
theorem d27_23 : decode jdk_43_method_22_code 23 = .ok (.iload_n 3, 1) := by decide +kernel
theorem d27_24 : decode jdk_43_method_22_code 24 = .ok (.if_icmp .lt 5, 3) := by decide +kernel
theorem d27_29 : decode jdk_43_method_22_code 29 = .ok (.aload_n 0, 1) := by decide +kernel
theorem d27_30 : decode jdk_43_method_22_code 30 = .ok (.iload_n 1, 1) := by decide +kernel
theorem d27_31 : decode jdk_43_method_22_code 31 = .ok (.iload_n 2, 1) := by decide +kernel
theorem d27_32 : decode jdk_43_method_22_code 32 = .ok (.iload_n 3, 1) := by decide +kernel
theorem pd_7 : parseMethodDescriptor "([BIII)I" = some ⟨[(.array .byte), .int, .int, .int], some .int⟩ := by decide +kernel
theorem d27_33 : decode jdk_43_method_22_code 33 = .ok (.invokestatic 95, 3) := by decide +kernel
theorem d27_36 : decode jdk_43_method_22_code 36 = .ok (.ireturn, 1) := by decide +kernel
theorem d27_27 : decode jdk_43_method_22_code 27 = .ok (.iconst (-1), 1) := by decide +kernel
theorem d27_28 : decode jdk_43_method_22_code 28 = .ok (.ireturn, 1) := by decide +kernel
set_option maxRecDepth 65536 in
set_option maxHeartbeats 40000000 in
theorem rm27 (l : Launch) (Z : State) (a0 : Array Value) (hw : ∀ d ∈ tables_1, d.before a0 Z = true) (ws : List Jvm.Cond) (b : Addr) (ch : Int32) (i_ : Int32) (nz : Int32) (kc : ClassId) (N : Nat) (g : Nat → Int32) (j : Nat) (h0 : Heap) (n0 : Nat) (Z0 : n0 ≤ h0.size) (A0_b : Arw Z h0 b kc .byte N (fun i => .int (g i))) (Hij : i_.toInt = (j : Int)) (HjN : j ≤ N) (Hnz : nz.toInt = (N : Int)) (H0 : ¬ ch < (0 : Int32)) (H1 : ¬ (255 : Int32) < ch) :
    MetFree l (⟨"java/lang/StringLatin1", "indexOf", "([BIII)I"⟩ : MethodName) (head1 (Jvm.Cond.code (⟨"java/lang/StringLatin1", "indexOf", "([BIII)I"⟩ : MethodName) jdk_43_method_22_code 4 (some .int) :: ws) ({ frames := 1, cells := 0, slots := 0, locals := 17 } : Room)) (fun as_ U_ => as_ = #[(.ref b), (.int ch), (.int i_), (.int nz)] ∧ Z.Warmed39 U_.vm ∧ U_.heap = h0) (fun _ _ _ _ _ => True) (fun _ U_ o_ V_ => ∃ v_ L_, o_ = .returned v_ ∧ Qrm27 Z b ch i_ nz kc N g j h0 n0 v_ V_.heap L_ ∧ FrameEnd U_ o_ V_ L_ ({ frames := 1, cells := 0, slots := 0, locals := 17 } : Room).cells ({ frames := 1, cells := 0, slots := 0, locals := 17 } : Room).slots) := by
  refine MetFree.of_bodySF (plainFor_of_name pn_java_lang_StringLatin1) hisR ?_
  intro p e s m args below meth c s₁ Bd hml0 hP hK
  obtain ⟨rfl, hZ, hh⟩ := hP
  have hx := Bd.exec
  have hby := Bd.bytes
  have hlk : meth.locks = false := BodyLoose.notSynchronized Bd
  have hret := Bd.returns
  have hml : c.maxLocals = 4 := hml0
  have hown : s.vm.findClass "java/lang/StringLatin1" = some m.cls := findClass_of_methodNamed Bd.named
  have hnm := (name_of_methodNamed Bd.named Bd.method).1
  have X0 : Stand p l e ({ frames := 1, cells := 0, slots := 0, locals := 17 } : Room) s m #[(.ref b), (.int ch), (.int i_), (.int nz)] below meth c s₁ [] 0 0 := Stand.of_body Bd
  have e0 : s₁.heap = h0 := by rw [← hh, Bd.state]; rfl
  have N0 := Fr.nil n0
  show Goes p e below (Fin_ s (Qrm27 Z b ch i_ nz kc N g j h0 n0) ({ frames := 1, cells := 0, slots := 0, locals := 17 } : Room).cells ({ frames := 1, cells := 0, slots := 0, locals := 17 } : Room).slots) (s₁.setTop (entryFrame m #[(.ref b), (.int ch), (.int i_), (.int nz)] 4))
  rw [ef_rm27 m b ch i_ nz]
  refine gILN X0 hx hby d27_0 rfl ?_
  obtain ⟨_, _, ⟨T1, L1, k1, n1⟩, -, X1, ⟨Lc1, hQ1, l1, y1, z1⟩, st1⟩ := Jvm.LawKit.callS X0 hx (y := (⟨"java/lang/StringLatin1", "canEncode", "(I)Z"⟩ : MethodName)) hown (mvT hZ (own_w hw 134 rfl)) (mvT hZ (own_w hw 135 rfl)) (mvT hZ (own_w hw 71 rfl)) (mvT hZ (own_w hw 136 rfl)) (by decide) (backOf (W := 0) (rm28 l Z a0 hw [] ch h0 n0 (Nat.le_trans Z0 (Nat.le_refl _)) H0 H1) hZ (own_w hw 136 rfl) (own_w hw 71 rfl) (by decide) (by decide)) (g := (mkF m 1 #[vr b, vi ch, vi i_, vi nz] [(.int ch)])) rfl (by rw [hml]; rfl) (argsL := [(.int ch)]) (rest := []) (lenOf pd_5 rfl) rfl (by show 2 * 0 + _ ≤ _; exact Nat.le_of_eq rfl) (hb hby d27_1) (fun _ _ => ⟨rfl, e0, (by decide : 0 + 0 ≤ _), (by decide : 0 + 0 ≤ _)⟩)
  dsimp only [Pt.U, Pt.locs, Pt.cells, Pt.slots] at X1 l1 y1 z1 st1 hQ1
  subst l1 y1 z1
  obtain ⟨rfl, rfl, e1⟩ := hQ1
  first | rw [List.append_nil] at X1 | skip
  refine Goes.via st1 ?_
  have e1' : T1.heap = h0 := e1
  show Goes p e below _ (T1.setTop (mkF m 4 #[vr b, vi ch, vi i_, vi nz] [(.int (1 : Int32))]))
  have hc4_2 : ¬ ((1 : Int32) = (0 : Int32)) := (by decide)
  refine Goes.via (fun _ kk_ => XS.ifYes X1.here hx rfl (pc0 := 4) (pc' := 9) rfl (hb hby d27_4) rfl ((if0 _ _).trans (feq hc4_2).2) (by decide) (by decide) kk_) ?_
  show Goes p e below _ (T1.setTop (mkF m 9 #[vr b, vi ch, vi i_, vi nz] []))
  refine gILN X1 hx hby d27_9 rfl ?_
  refine gIC (z := 0) X1 hx hby d27_10 rfl ?_
  obtain ⟨_, _, ⟨T3, L3, k3, n3⟩, -, X3, ⟨Lc3, hQ3, l3, y3, z3⟩, st3⟩ := Jvm.LawKit.callS X1 hx (y := (⟨"java/lang/Math", "max", "(II)I"⟩ : MethodName)) hown (mvT hZ (own_w hw 137 rfl)) (mvT hZ (own_w hw 138 rfl)) (mvT hZ (own_w hw 139 rfl)) (mvT hZ (own_w hw 140 rfl)) (by decide) (backOf (W := 0) (rm29 l Z a0 hw [] i_ (0 : Int32) h0 n0 (Nat.le_trans Z0 (Nat.le_refl _)) (own_ix Hij).1) hZ (own_w hw 140 rfl) (own_w hw 139 rfl) (by decide) (by decide)) (g := (mkF m 11 #[vr b, vi ch, vi i_, vi nz] [(.int (0 : Int32)), (.int i_)])) rfl (by rw [hml]; rfl) (argsL := [(.int i_), (.int (0 : Int32))]) (rest := []) (lenOf pd_6 rfl) rfl (by show 2 * 0 + _ ≤ _; exact Nat.le_of_eq rfl) (hb hby d27_11) (fun _ _ => ⟨rfl, e1', (by decide : 0 + 0 ≤ _), (by decide : 0 + 0 ≤ _)⟩)
  dsimp only [Pt.U, Pt.locs, Pt.cells, Pt.slots] at X3 l3 y3 z3 st3 hQ3
  subst l3 y3 z3
  obtain ⟨rfl, rfl, e3⟩ := hQ3
  first | rw [List.append_nil] at X3 | skip
  refine Goes.via st3 ?_
  have e3' : T3.heap = h0 := e3
  show Goes p e below _ (T3.setTop (mkF m 14 #[vr b, vi ch, vi i_, vi nz] [(.int i_)]))
  refine Goes.via (fun _ kk_ => XS.istoreN X3.here hx rfl (hb hby d27_14) rfl (l' := #[vr b, vi ch, vi i_, vi nz]) rfl kk_) ?_
  show Goes p e below _ (T3.setTop (mkF m 15 #[vr b, vi ch, vi i_, vi nz] []))
  refine gILN X3 hx hby d27_15 rfl ?_
  refine gALN X3 hx hby d27_16 rfl rfl ?_
  refine Goes.via (own_alen X3 hx hZ e3' A0_b (g := (mkF m 17 #[vr b, vi ch, vi i_, vi nz] [(.ref b), (.int nz)])) rfl rfl (hb hby d27_17)) ?_
  rw [show (N : Nat).toInt32 = nz from (own_nz Hnz)]
  show Goes p e below _ (T3.setTop (mkF m 18 #[vr b, vi ch, vi i_, vi nz] [(.int nz), (.int nz)]))
  obtain ⟨_, _, ⟨T4, L4, k4, n4⟩, -, X4, ⟨Lc4, hQ4, l4, y4, z4⟩, st4⟩ := Jvm.LawKit.callS X3 hx (y := (⟨"java/lang/Math", "min", "(II)I"⟩ : MethodName)) hown (mvT hZ (own_w hw 141 rfl)) (mvT hZ (own_w hw 142 rfl)) (mvT hZ (own_w hw 139 rfl)) (mvT hZ (own_w hw 143 rfl)) (by decide) (backOf (W := 0) (rm30 l Z a0 hw [] nz nz h0 n0 (Nat.le_trans Z0 (Nat.le_refl _)) (fun q => Int32.lt_irrefl q)) hZ (own_w hw 143 rfl) (own_w hw 139 rfl) (by decide) (by decide)) (g := (mkF m 18 #[vr b, vi ch, vi i_, vi nz] [(.int nz), (.int nz)])) rfl (by rw [hml]; rfl) (argsL := [(.int nz), (.int nz)]) (rest := []) (lenOf pd_6 rfl) rfl (by show 2 * 0 + _ ≤ _; exact Nat.le_of_eq rfl) (hb hby d27_18) (fun _ _ => ⟨rfl, e3', (by decide : 0 + 0 ≤ _), (by decide : 0 + 0 ≤ _)⟩)
  dsimp only [Pt.U, Pt.locs, Pt.cells, Pt.slots] at X4 l4 y4 z4 st4 hQ4
  subst l4 y4 z4
  obtain ⟨rfl, rfl, e4⟩ := hQ4
  first | rw [List.append_nil] at X4 | skip
  refine Goes.via st4 ?_
  have e4' : T4.heap = h0 := e4
  show Goes p e below _ (T4.setTop (mkF m 21 #[vr b, vi ch, vi i_, vi nz] [(.int nz)]))
  refine Goes.via (fun _ kk_ => XS.istoreN X4.here hx rfl (hb hby d27_21) rfl (l' := #[vr b, vi ch, vi i_, vi nz]) rfl kk_) ?_
  show Goes p e below _ (T4.setTop (mkF m 22 #[vr b, vi ch, vi i_, vi nz] []))
  refine gILN X4 hx hby d27_22 rfl ?_
  refine gILN X4 hx hby d27_23 rfl ?_
  by_cases hc24 : i_ < nz
  · skip
    refine Goes.via (fun _ kk_ => XS.icmpYes X4.here hx rfl (pc0 := 24) (pc' := 29) rfl (hb hby d27_24) rfl (tlt hc24).1 (by decide) (by decide) kk_) ?_
    show Goes p e below _ (T4.setTop (mkF m 29 #[vr b, vi ch, vi i_, vi nz] []))
    refine gALN X4 hx hby d27_29 rfl rfl ?_
    refine gILN X4 hx hby d27_30 rfl ?_
    refine gILN X4 hx hby d27_31 rfl ?_
    refine gILN X4 hx hby d27_32 rfl ?_
    obtain ⟨_, _, ⟨T5, L5, k5, n5⟩, -, X5, ⟨Lc5, hQ5, l5, y5, z5⟩, st5⟩ := Jvm.LawKit.callS X4 hx (y := (⟨"java/lang/StringLatin1", "indexOfChar", "([BIII)I"⟩ : MethodName)) hown (mvT hZ (own_w hw 144 rfl)) (mvT hZ (own_w hw 145 rfl)) (mvT hZ (own_w hw 71 rfl)) (mvT hZ (own_w hw 146 rfl)) (by decide) (backOf (W := 0) (rm31 l Z a0 hw [] b ch i_ nz kc N g j h0 n0 (Nat.le_trans Z0 (Nat.le_refl _)) A0_b Hij HjN Hnz) hZ (own_w hw 146 rfl) (own_w hw 71 rfl) (by decide) (by decide)) (g := (mkF m 33 #[vr b, vi ch, vi i_, vi nz] [(.int nz), (.int i_), (.int ch), (.ref b)])) rfl (by rw [hml]; rfl) (argsL := [(.ref b), (.int ch), (.int i_), (.int nz)]) (rest := []) (lenOf pd_7 rfl) rfl (by show 2 * 0 + _ ≤ _; exact Nat.le_of_eq rfl) (hb hby d27_33) (fun _ _ => ⟨rfl, e4', (by decide : 0 + 0 ≤ _), (by decide : 0 + 0 ≤ _)⟩)
    dsimp only [Pt.U, Pt.locs, Pt.cells, Pt.slots] at X5 l5 y5 z5 st5 hQ5
    subst l5 y5 z5
    obtain ⟨rfl, rfl, e5⟩ := hQ5
    first | rw [List.append_nil] at X5 | skip
    refine Goes.via st5 ?_
    have e5' : T5.heap = h0 := e5
    show Goes p e below _ (T5.setTop (mkF m 36 #[vr b, vi ch, vi i_, vi nz] [(.int (own_find g ch.toInt8.toInt32 (N - j) j i_))]))
    exact own_finI X5 hx hlk hret (hb hby d27_36) (by rw [e5']; exact ⟨rfl, rfl, rfl⟩) (by first | decide | omega | (dsimp only; omega)) (by first | decide | omega | (dsimp only; omega))
  · skip
    refine Goes.via (fun _ kk_ => XS.icmpNo X4.here hx rfl (hb hby d27_24) rfl (flt hc24).1 kk_) ?_
    show Goes p e below _ (T4.setTop (mkF m 27 #[vr b, vi ch, vi i_, vi nz] []))
    refine gIC (z := -1) X4 hx hby d27_27 rfl ?_
    exact own_finI X4 hx hlk hret (hb hby d27_28) (by rw [e4']; exact ⟨(own_ret (own_find_end (by have q : ¬ _ := fun q => hc24 (own_lti.mpr q); rw [Hij, Hnz] at q; omega)).symm), rfl, rfl⟩) (by first | decide | omega | (dsimp only; omega)) (by first | decide | omega | (dsimp only; omega))
theorem ef_rm26 (m : MethodId) (a : Addr) (ch : Int32) (i_ : Int32) : entryFrame m #[(.ref a), (.int ch), (.int i_)] 3 = mkF m 0 #[.val (.ref a), .val (.int ch), .val (.int i_)] [] := by first | (simp [entryFrame, mkF, argsToLocals, Value.category]; done) | rfl
def Qrm26 (Z : State) (a : Addr) (ch : Int32) (i_ : Int32) (nz : Int32) (cS : Int32) (t : Addr) (kc : ClassId) (N : Nat) (g : Nat → Int32) (j : Nat) (h0 : Heap) (n0 : Nat) (v_ : Option Value) (h_ : Heap) (L_ : List Loc) : Prop := v_ = some (.int (own_find g ch.toInt8.toInt32 (N - j) j i_)) ∧ L_ = [] ∧ h_ = h0
theorem d26_0 : decode jdk_42_method_80_code 0 = .ok (.aload_n 0, 1) := by decide +kernel
theorem d26_1 : decode jdk_42_method_80_code 1 = .ok (.invokevirtual 492, 3) := by decide +kernel
theorem d26_4 : decode jdk_42_method_80_code 4 = .ok (.ifCond .eq 19, 3) := by decide +kernel
theorem d26_7 : decode jdk_42_method_80_code 7 = .ok (.aload_n 0, 1) := by decide +kernel
theorem d26_8 : decode jdk_42_method_80_code 8 = .ok (.getfield 9, 3) := by decide +kernel
theorem d26_11 : decode jdk_42_method_80_code 11 = .ok (.iload_n 1, 1) := by decide +kernel
theorem d26_12 : decode jdk_42_method_80_code 12 = .ok (.iload_n 2, 1) := by decide +kernel
theorem d26_13 : decode jdk_42_method_80_code 13 = .ok (.aload_n 0, 1) := by decide +kernel
theorem pd_8 : parseMethodDescriptor "()I" = some ⟨[], some .int⟩ := by decide +kernel
theorem d26_14 : decode jdk_42_method_80_code 14 = .ok (.invokevirtual 505, 3) := by decide +kernel
theorem d26_17 : decode jdk_42_method_80_code 17 = .ok (.invokestatic 637, 3) := by decide +kernel
theorem d26_20 : decode jdk_42_method_80_code 20 = .ok (.goto 16, 3) := by decide +kernel
theorem d26_36 : decode jdk_42_method_80_code 36 = .ok (.ireturn, 1) := by decide +kernel
set_option maxRecDepth 65536 in
set_option maxHeartbeats 40000000 in
theorem rm26 (l : Launch) (Z : State) (a0 : Array Value) (hw : ∀ d ∈ tables_1, d.before a0 Z = true) (ws : List Jvm.Cond) (a : Addr) (ch : Int32) (i_ : Int32) (nz : Int32) (cS : Int32) (t : Addr) (kc : ClassId) (N : Nat) (g : Nat → Int32) (j : Nat) (h0 : Heap) (n0 : Nat) (Z0 : n0 ≤ h0.size) (E0_a : Exa Z h0 a "java/lang/String") (F1_a_coder : Fld Z h0 a "java/lang/String" "coder" "B" (.int (0 : Int32))) (F2_a_value : Fld Z h0 a "java/lang/String" "value" "[B" (.ref t)) (A3_t : Arw Z h0 t kc .byte N (fun i => .int (g i))) (S4_java_lang_String_COMPACT_STRINGS_COMPACT_STRINGS : Sta Z h0 "java/lang/String" "COMPACT_STRINGS" "Z" (.int cS)) (H_cs : ¬ cS = (0 : Int32)) (Hij : i_.toInt = (j : Int)) (HjN : j ≤ N) (Hnz : nz.toInt = (N : Int)) (H0 : ¬ ch < (0 : Int32)) (H1 : ¬ (255 : Int32) < ch) :
    MetFree l (⟨"java/lang/String", "indexOf", "(II)I"⟩ : MethodName) (head1 (Jvm.Cond.code (⟨"java/lang/String", "indexOf", "(II)I"⟩ : MethodName) jdk_42_method_80_code 3 (some .int) :: ws) ({ frames := 2, cells := 0, slots := 0, locals := 32 } : Room)) (fun as_ U_ => as_ = #[(.ref a), (.int ch), (.int i_)] ∧ Z.Warmed39 U_.vm ∧ U_.heap = h0) (fun _ _ _ _ _ => True) (fun _ U_ o_ V_ => ∃ v_ L_, o_ = .returned v_ ∧ Qrm26 Z a ch i_ nz cS t kc N g j h0 n0 v_ V_.heap L_ ∧ FrameEnd U_ o_ V_ L_ ({ frames := 2, cells := 0, slots := 0, locals := 32 } : Room).cells ({ frames := 2, cells := 0, slots := 0, locals := 32 } : Room).slots) := by
  refine MetFree.of_bodySF (plainFor_of_name pn_java_lang_String) hisR ?_
  intro p e s m args below meth c s₁ Bd hml0 hP hK
  obtain ⟨rfl, hZ, hh⟩ := hP
  have hx := Bd.exec
  have hby := Bd.bytes
  have hlk : meth.locks = false := BodyLoose.notSynchronized Bd
  have hret := Bd.returns
  have hml : c.maxLocals = 3 := hml0
  have hown : s.vm.findClass "java/lang/String" = some m.cls := findClass_of_methodNamed Bd.named
  have hnm := (name_of_methodNamed Bd.named Bd.method).1
  have X0 : Stand p l e ({ frames := 2, cells := 0, slots := 0, locals := 32 } : Room) s m #[(.ref a), (.int ch), (.int i_)] below meth c s₁ [] 0 0 := Stand.of_body Bd
  have e0 : s₁.heap = h0 := by rw [← hh, Bd.state]; rfl
  have N0 := Fr.nil n0
  show Goes p e below (Fin_ s (Qrm26 Z a ch i_ nz cS t kc N g j h0 n0) ({ frames := 2, cells := 0, slots := 0, locals := 32 } : Room).cells ({ frames := 2, cells := 0, slots := 0, locals := 32 } : Room).slots) (s₁.setTop (entryFrame m #[(.ref a), (.int ch), (.int i_)] 3))
  rw [ef_rm26 m a ch i_]
  have ne1 : a ≠ t := own_ne_arr E0_a (own_w hw 9 rfl) A3_t
  refine gALN X0 hx hby d26_0 rfl rfl ?_
  obtain ⟨cq2, kq2, q2a, q2b, q2c⟩ := isOf hZ e0 E0_a
  obtain ⟨_, _, ⟨T2, L2, k2, n2⟩, -, X2, ⟨Lc2, hQ2, l2, y2, z2⟩, st2⟩ := X0.virtualBack hx (y := (⟨"java/lang/String", "isLatin1", "()Z"⟩ : MethodName)) (z := (⟨"java/lang/String", "isLatin1", "()Z"⟩ : MethodName)) hown (mvT hZ (own_w hw 64 rfl)) (mvT hZ (own_w hw 65 rfl)) (notFace_of_selects (args := #[]) (mvT hZ (own_w hw 67 rfl))) (mvT hZ (own_w hw 67 rfl)) (mvT hZ (own_w hw 66 rfl)) (by decide) (backOf (W := 0) (rm14 l Z a0 hw [] a cS h0 n0 (Nat.le_trans Z0 (Nat.le_refl _)) F1_a_coder S4_java_lang_String_COMPACT_STRINGS_COMPACT_STRINGS H_cs) hZ (own_w hw 68 rfl) (own_w hw 10 rfl) (by decide) (by decide)) q2a q2c (g := (mkF m 1 #[vr a, vi ch, vi i_] [(.ref a)])) rfl (by rw [hml]; rfl) (Steps.refl _) (argsL := []) (rest := []) (lenOf pd_3 rfl) rfl (by show 2 * 0 + _ ≤ _; exact Nat.le_of_eq rfl) (hb hby d26_1) (fun _ _ => ⟨rfl, e0, (by decide : 0 + 0 ≤ _), (by decide : 0 + 0 ≤ _)⟩)
  dsimp only [Pt.U, Pt.locs, Pt.cells, Pt.slots] at X2 l2 y2 z2 st2 hQ2
  subst l2 y2 z2
  obtain ⟨rfl, rfl, e2⟩ := hQ2
  first | rw [List.append_nil] at X2 | skip
  refine Goes.tr st2 ?_
  have e2' : T2.heap = h0 := e2
  show Goes p e below _ (T2.setTop (mkF m 4 #[vr a, vi ch, vi i_] [(.int (1 : Int32))]))
  have hc4_3 : ¬ ((1 : Int32) = (0 : Int32)) := (by decide)
  refine Goes.via (fun _ kk_ => XS.ifNo X2.here hx rfl (hb hby d26_4) rfl ((if0 _ _).trans (feq hc4_3).1) kk_) ?_
  show Goes p e below _ (T2.setTop (mkF m 7 #[vr a, vi ch, vi i_] []))
  refine gALN X2 hx hby d26_7 rfl rfl ?_
  obtain ⟨T4, X4, e4, st4⟩ := getF X2 hx hZ hown (host := "") (Or.inl (own_w hw 35 rfl)) Via.refl e2' F2_a_value (g := (mkF m 8 #[vr a, vi ch, vi i_] [(.ref a)])) rfl rfl (hb hby d26_8)
  refine Goes.via st4 ?_
  show Goes p e below _ (T4.setTop (mkF m 11 #[vr a, vi ch, vi i_] [(.ref t)]))
  refine gILN X4 hx hby d26_11 rfl ?_
  refine gILN X4 hx hby d26_12 rfl ?_
  refine gALN X4 hx hby d26_13 rfl rfl ?_
  obtain ⟨cq5, kq5, q5a, q5b, q5c⟩ := isOf hZ e4 E0_a
  obtain ⟨_, _, ⟨T5, L5, k5, n5⟩, -, X5, ⟨Lc5, hQ5, l5, y5, z5⟩, st5⟩ := X4.virtualBack hx (y := (⟨"java/lang/String", "length", "()I"⟩ : MethodName)) (z := (⟨"java/lang/String", "length", "()I"⟩ : MethodName)) hown (mvT hZ (own_w hw 130 rfl)) (mvT hZ (own_w hw 85 rfl)) (notFace_of_selects (args := #[]) (mvT hZ (own_w hw 87 rfl))) (mvT hZ (own_w hw 87 rfl)) (mvT hZ (own_w hw 86 rfl)) (by decide) (backOf (W := 3) (rm19 l Z a0 hw [] a nz cS t kc N g h0 n0 (Nat.le_trans Z0 (Nat.le_refl _)) E0_a F1_a_coder F2_a_value A3_t S4_java_lang_String_COMPACT_STRINGS_COMPACT_STRINGS H_cs Hnz) hZ (own_w hw 88 rfl) (own_w hw 10 rfl) (by decide) (by decide)) q5a q5c (g := (mkF m 14 #[vr a, vi ch, vi i_] [(.ref a), (.int i_), (.int ch), (.ref t)])) rfl (by rw [hml]; rfl) (Steps.refl _) (argsL := []) (rest := [(.int i_), (.int ch), (.ref t)]) (lenOf pd_8 rfl) rfl (by show 2 * 0 + _ ≤ _; exact Nat.le_of_eq rfl) (hb hby d26_14) (fun _ _ => ⟨rfl, e4, (by decide : 0 + 0 ≤ _), (by decide : 0 + 0 ≤ _)⟩)
  dsimp only [Pt.U, Pt.locs, Pt.cells, Pt.slots] at X5 l5 y5 z5 st5 hQ5
  subst l5 y5 z5
  obtain ⟨rfl, rfl, e5⟩ := hQ5
  first | rw [List.append_nil] at X5 | skip
  refine Goes.tr st5 ?_
  have e5' : T5.heap = h0 := e5
  show Goes p e below _ (T5.setTop (mkF m 17 #[vr a, vi ch, vi i_] [(.int nz), (.int i_), (.int ch), (.ref t)]))
  obtain ⟨_, _, ⟨T6, L6, k6, n6⟩, -, X6, ⟨Lc6, hQ6, l6, y6, z6⟩, st6⟩ := Jvm.LawKit.callS X5 hx (y := (⟨"java/lang/StringLatin1", "indexOf", "([BIII)I"⟩ : MethodName)) hown (mvT hZ (own_w hw 131 rfl)) (mvT hZ (own_w hw 132 rfl)) (mvT hZ (own_w hw 71 rfl)) (mvT hZ (own_w hw 133 rfl)) (by decide) (backOf (W := 0) (rm27 l Z a0 hw [] t ch i_ nz kc N g j h0 n0 (Nat.le_trans Z0 (Nat.le_refl _)) A3_t Hij HjN Hnz H0 H1) hZ (own_w hw 133 rfl) (own_w hw 71 rfl) (by decide) (by decide)) (g := (mkF m 17 #[vr a, vi ch, vi i_] [(.int nz), (.int i_), (.int ch), (.ref t)])) rfl (by rw [hml]; rfl) (argsL := [(.ref t), (.int ch), (.int i_), (.int nz)]) (rest := []) (lenOf pd_7 rfl) rfl (by show 2 * 0 + _ ≤ _; exact Nat.le_of_eq rfl) (hb hby d26_17) (fun _ _ => ⟨rfl, e5', (by decide : 0 + 0 ≤ _), (by decide : 0 + 0 ≤ _)⟩)
  dsimp only [Pt.U, Pt.locs, Pt.cells, Pt.slots] at X6 l6 y6 z6 st6 hQ6
  subst l6 y6 z6
  obtain ⟨rfl, rfl, e6⟩ := hQ6
  first | rw [List.append_nil] at X6 | skip
  refine Goes.via st6 ?_
  have e6' : T6.heap = h0 := e6
  show Goes p e below _ (T6.setTop (mkF m 20 #[vr a, vi ch, vi i_] [(.int (own_find g ch.toInt8.toInt32 (N - j) j i_))]))
  refine Goes.via (fun _ kk_ => XS.goto X6.here hx rfl (pc0 := 20) (pc' := 36) rfl (hb hby d26_20) (by decide) (by decide) kk_) ?_
  show Goes p e below _ (T6.setTop (mkF m 36 #[vr a, vi ch, vi i_] [(.int (own_find g ch.toInt8.toInt32 (N - j) j i_))]))
  exact own_finI X6 hx hlk hret (hb hby d26_36) (by rw [e6']; exact ⟨rfl, rfl, rfl⟩) (by first | decide | omega | (dsimp only; omega)) (by first | decide | omega | (dsimp only; omega))
theorem ef_rm25 (m : MethodId) (a : Addr) (ch : Int32) : entryFrame m #[(.ref a), (.int ch)] 2 = mkF m 0 #[.val (.ref a), .val (.int ch)] [] := by first | (simp [entryFrame, mkF, argsToLocals, Value.category]; done) | rfl
def Qrm25 (Z : State) (a : Addr) (ch : Int32) (nz : Int32) (cS : Int32) (t : Addr) (kc : ClassId) (N : Nat) (g : Nat → Int32) (h0 : Heap) (n0 : Nat) (v_ : Option Value) (h_ : Heap) (L_ : List Loc) : Prop := v_ = some (.int (own_find g ch.toInt8.toInt32 N 0 (0 : Int32))) ∧ L_ = [] ∧ h_ = h0
theorem d25_0 : decode jdk_42_method_79_code 0 = .ok (.aload_n 0, 1) := by decide +kernel
theorem d25_1 : decode jdk_42_method_79_code 1 = .ok (.iload_n 1, 1) := by decide +kernel
theorem d25_2 : decode jdk_42_method_79_code 2 = .ok (.iconst 0, 1) := by decide +kernel
theorem d25_3 : decode jdk_42_method_79_code 3 = .ok (.invokevirtual 633, 3) := by decide +kernel
theorem d25_6 : decode jdk_42_method_79_code 6 = .ok (.ireturn, 1) := by decide +kernel
set_option maxRecDepth 65536 in
set_option maxHeartbeats 40000000 in
theorem rm25 (l : Launch) (Z : State) (a0 : Array Value) (hw : ∀ d ∈ tables_1, d.before a0 Z = true) (ws : List Jvm.Cond) (a : Addr) (ch : Int32) (nz : Int32) (cS : Int32) (t : Addr) (kc : ClassId) (N : Nat) (g : Nat → Int32) (h0 : Heap) (n0 : Nat) (Z0 : n0 ≤ h0.size) (E0_a : Exa Z h0 a "java/lang/String") (F1_a_coder : Fld Z h0 a "java/lang/String" "coder" "B" (.int (0 : Int32))) (F2_a_value : Fld Z h0 a "java/lang/String" "value" "[B" (.ref t)) (A3_t : Arw Z h0 t kc .byte N (fun i => .int (g i))) (S4_java_lang_String_COMPACT_STRINGS_COMPACT_STRINGS : Sta Z h0 "java/lang/String" "COMPACT_STRINGS" "Z" (.int cS)) (H_cs : ¬ cS = (0 : Int32)) (Hnz : nz.toInt = (N : Int)) (H0 : ¬ ch < (0 : Int32)) (H1 : ¬ (255 : Int32) < ch) :
    MetFree l (⟨"java/lang/String", "indexOf", "(I)I"⟩ : MethodName) (head1 (Jvm.Cond.code (⟨"java/lang/String", "indexOf", "(I)I"⟩ : MethodName) jdk_42_method_79_code 2 (some .int) :: ws) ({ frames := 3, cells := 0, slots := 0, locals := 46 } : Room)) (fun as_ U_ => as_ = #[(.ref a), (.int ch)] ∧ Z.Warmed39 U_.vm ∧ U_.heap = h0) (fun _ _ _ _ _ => True) (fun _ U_ o_ V_ => ∃ v_ L_, o_ = .returned v_ ∧ Qrm25 Z a ch nz cS t kc N g h0 n0 v_ V_.heap L_ ∧ FrameEnd U_ o_ V_ L_ ({ frames := 3, cells := 0, slots := 0, locals := 46 } : Room).cells ({ frames := 3, cells := 0, slots := 0, locals := 46 } : Room).slots) := by
  refine MetFree.of_bodySF (plainFor_of_name pn_java_lang_String) hisR ?_
  intro p e s m args below meth c s₁ Bd hml0 hP hK
  obtain ⟨rfl, hZ, hh⟩ := hP
  have hx := Bd.exec
  have hby := Bd.bytes
  have hlk : meth.locks = false := BodyLoose.notSynchronized Bd
  have hret := Bd.returns
  have hml : c.maxLocals = 2 := hml0
  have hown : s.vm.findClass "java/lang/String" = some m.cls := findClass_of_methodNamed Bd.named
  have hnm := (name_of_methodNamed Bd.named Bd.method).1
  have X0 : Stand p l e ({ frames := 3, cells := 0, slots := 0, locals := 46 } : Room) s m #[(.ref a), (.int ch)] below meth c s₁ [] 0 0 := Stand.of_body Bd
  have e0 : s₁.heap = h0 := by rw [← hh, Bd.state]; rfl
  have N0 := Fr.nil n0
  show Goes p e below (Fin_ s (Qrm25 Z a ch nz cS t kc N g h0 n0) ({ frames := 3, cells := 0, slots := 0, locals := 46 } : Room).cells ({ frames := 3, cells := 0, slots := 0, locals := 46 } : Room).slots) (s₁.setTop (entryFrame m #[(.ref a), (.int ch)] 2))
  rw [ef_rm25 m a ch]
  have ne1 : a ≠ t := own_ne_arr E0_a (own_w hw 9 rfl) A3_t
  refine gALN X0 hx hby d25_0 rfl rfl ?_
  refine gILN X0 hx hby d25_1 rfl ?_
  refine gIC (z := 0) X0 hx hby d25_2 rfl ?_
  obtain ⟨cq2, kq2, q2a, q2b, q2c⟩ := isOf hZ e0 E0_a
  obtain ⟨_, _, ⟨T2, L2, k2, n2⟩, -, X2, ⟨Lc2, hQ2, l2, y2, z2⟩, st2⟩ := X0.virtualBack hx (y := (⟨"java/lang/String", "indexOf", "(II)I"⟩ : MethodName)) (z := (⟨"java/lang/String", "indexOf", "(II)I"⟩ : MethodName)) hown (mvT hZ (own_w hw 125 rfl)) (mvT hZ (own_w hw 126 rfl)) (notFace_of_selects (args := #[]) (mvT hZ (own_w hw 128 rfl))) (mvT hZ (own_w hw 128 rfl)) (mvT hZ (own_w hw 127 rfl)) (by decide) (backOf (W := 0) (rm26 l Z a0 hw [] a ch (0 : Int32) nz cS t kc N g 0 h0 n0 (Nat.le_trans Z0 (Nat.le_refl _)) E0_a F1_a_coder F2_a_value A3_t S4_java_lang_String_COMPACT_STRINGS_COMPACT_STRINGS H_cs (by decide) (Nat.zero_le _) Hnz H0 H1) hZ (own_w hw 129 rfl) (own_w hw 10 rfl) (by decide) (by decide)) q2a q2c (g := (mkF m 3 #[vr a, vi ch] [(.int (0 : Int32)), (.int ch), (.ref a)])) rfl (by rw [hml]; rfl) (Steps.refl _) (argsL := [(.int ch), (.int (0 : Int32))]) (rest := []) (lenOf pd_6 rfl) rfl (by show 2 * 0 + _ ≤ _; exact Nat.le_of_eq rfl) (hb hby d25_3) (fun _ _ => ⟨rfl, e0, (by decide : 0 + 0 ≤ _), (by decide : 0 + 0 ≤ _)⟩)
  dsimp only [Pt.U, Pt.locs, Pt.cells, Pt.slots] at X2 l2 y2 z2 st2 hQ2
  subst l2 y2 z2
  obtain ⟨rfl, rfl, e2⟩ := hQ2
  first | rw [List.append_nil] at X2 | skip
  refine Goes.tr st2 ?_
  have e2' : T2.heap = h0 := e2
  show Goes p e below _ (T2.setTop (mkF m 6 #[vr a, vi ch] [(.int (own_find g ch.toInt8.toInt32 (N - 0) 0 (0 : Int32)))]))
  exact own_finI X2 hx hlk hret (hb hby d25_6) (by rw [e2']; exact ⟨rfl, rfl, rfl⟩) (by first | decide | omega | (dsimp only; omega)) (by first | decide | omega | (dsimp only; omega))
theorem ef_rm4e (m : MethodId) (a : Addr) (b : Addr) (off : Int32) (ln : Int32) : entryFrame m #[(.ref a), (.ref b), (.int off), (.int ln), .null] 6 = mkF m 0 #[.val (.ref a), .val (.ref b), .val (.int off), .val (.int ln), .val .null, .unset] [] := by first | (simp [entryFrame, mkF, argsToLocals, Value.category]; done) | rfl
def Qrm4e (Z : State) (a : Addr) (b : Addr) (off : Int32) (ln : Int32) (h0 : Heap) (n0 : Nat) (v_ : Option Value) (h_ : Heap) (L_ : List Loc) : Prop := ∃ tb : Addr, ∃ tk : ClassId, v_ = none ∧ Fr n0 L_ ∧ Keep h0 h_ [a] ∧ Exa Z h_ a "java/lang/String" ∧ Fld Z h_ a "java/lang/String" "coder" "B" (.int (0 : Int32)) ∧ Fld Z h_ a "java/lang/String" "value" "[B" (.ref tb) ∧ Arw Z h_ tb tk .byte 0 own_e0
theorem d4_0 : decode jdk_42_method_149_code 0 = .ok (.aload_n 0, 1) := by decide +kernel
theorem d4_1 : decode jdk_42_method_149_code 1 = .ok (.invokespecial 1, 3) := by decide +kernel
theorem d4_4 : decode jdk_42_method_149_code 4 = .ok (.iload_n 3, 1) := by decide +kernel
theorem d4_5 : decode jdk_42_method_149_code 5 = .ok (.ifCond .ne 22, 3) := by decide +kernel
theorem d4_8 : decode jdk_42_method_149_code 8 = .ok (.aload_n 0, 1) := by decide +kernel
theorem d4_9 : decode jdk_42_method_149_code 9 = .ok (.ldc 7, 2) := by decide +kernel
theorem d4_11 : decode jdk_42_method_149_code 11 = .ok (.getfield 9, 3) := by decide +kernel
theorem d4_14 : decode jdk_42_method_149_code 14 = .ok (.putfield 9, 3) := by decide +kernel
theorem d4_17 : decode jdk_42_method_149_code 17 = .ok (.aload_n 0, 1) := by decide +kernel
theorem d4_18 : decode jdk_42_method_149_code 18 = .ok (.ldc 7, 2) := by decide +kernel
theorem d4_20 : decode jdk_42_method_149_code 20 = .ok (.getfield 15, 3) := by decide +kernel
theorem d4_23 : decode jdk_42_method_149_code 23 = .ok (.putfield 15, 3) := by decide +kernel
theorem d4_26 : decode jdk_42_method_149_code 26 = .ok (.return_, 1) := by decide +kernel
set_option maxRecDepth 65536 in
set_option maxHeartbeats 40000000 in
theorem rm4e (l : Launch) (Z : State) (a0 : Array Value) (hw : ∀ d ∈ tables_1, d.before a0 Z = true) (ws : List Jvm.Cond) (a : Addr) (b : Addr) (off : Int32) (ln : Int32) (h0 : Heap) (n0 : Nat) (Z0 : n0 ≤ h0.size) (E0_a : Exa Z h0 a "java/lang/String") (F1_a_value : Fld Z h0 a "java/lang/String" "value" "[B" .null) (F2_a_coder : Fld Z h0 a "java/lang/String" "coder" "B" (.int (0 : Int32))) (H3 : n0 ≤ a) (Hln : ln = (0 : Int32)) (HO : Old Z n0 h0) (HW : Jvm.Lit.compactW.before a0 Z = true) (HC0 : Jvm.Lit.constHeld Z "java/lang/String" 7) (HC1 : Jvm.Lit.constHeld Z "com/example/map_rewriter/maprewriter/core/Symbol" 7) (HC2 : Jvm.Lit.constHeld Z "com/example/map_rewriter/maprewriter/core/Symbol" 76) :
    MetFree l (⟨"java/lang/String", "<init>", "([CIILjava/lang/Void;)V"⟩ : MethodName) (head1 (Jvm.Cond.code (⟨"java/lang/String", "<init>", "([CIILjava/lang/Void;)V"⟩ : MethodName) jdk_42_method_149_code 6 none :: ws) ({ frames := 1, cells := 2, slots := 4, locals := 12 } : Room)) (fun as_ U_ => as_ = #[(.ref a), (.ref b), (.int off), (.int ln), .null] ∧ Z.Warmed39 U_.vm ∧ U_.heap = h0 ∧ KS Z own_KL U_.vm U_.heap) (fun _ _ _ _ _ => True) (fun _ U_ o_ V_ => ∃ v_ L_, o_ = .returned v_ ∧ Qrm4e Z a b off ln h0 n0 v_ V_.heap L_ ∧ KS Z own_KL V_.vm V_.heap ∧ ReturnedEndW U_ o_ V_ L_ ({ frames := 1, cells := 2, slots := 4, locals := 12 } : Room).cells ({ frames := 1, cells := 2, slots := 4, locals := 12 } : Room).slots) := by
  refine MetFree.of_bodySF (plainFor_of_name pn_java_lang_String) hisR ?_
  intro p e s m args below meth c s₁ Bd hml0 hP hK
  obtain ⟨rfl, hZ, hh, hKs⟩ := hP
  have hx := Bd.exec
  have hby := Bd.bytes
  have hlk : meth.locks = false := BodyLoose.notSynchronized Bd
  have hret := Bd.returns
  have hml : c.maxLocals = 6 := hml0
  have hown : s.vm.findClass "java/lang/String" = some m.cls := findClass_of_methodNamed Bd.named
  have hnm := (name_of_methodNamed Bd.named Bd.method).1
  have X0 : Stand p l e ({ frames := 1, cells := 2, slots := 4, locals := 12 } : Room) (s.setVm s.vm) m #[(.ref a), (.ref b), (.int off), (.int ln), .null] below meth c s₁ [] 0 0 := Stand.of_body Bd
  have e0 : s₁.heap = h0 := by rw [← hh, Bd.state]; rfl
  have N0 := Fr.nil n0
  show Goes p e below (Fin_W s (Qrm4e Z a b off ln h0 n0) (fun U_ => KS Z own_KL U_.vm U_.heap) ({ frames := 1, cells := 2, slots := 4, locals := 12 } : Room).cells ({ frames := 1, cells := 2, slots := 4, locals := 12 } : Room).slots) (s₁.setTop (entryFrame m #[(.ref a), (.ref b), (.int off), (.int ln), .null] 6))
  rw [ef_rm4e m a b off ln]
  have SI0 : s.Since s.vm 0 := (State.WarmedH.refl s).since 0
  have Ks0 : KS Z own_KL s.vm h0 := hh ▸ hKs
  refine gALN X0 hx hby d4_0 rfl rfl ?_
  obtain ⟨T1, X1, e1, st1⟩ := initO X0 hx hZ hown (own_w hw 18 rfl) (own_w hw 19 rfl) (own_w hw 20 rfl) e0 (g := (mkF m 1 #[vr a, vr b, vi off, vi ln, .val .null, .unset] [(.ref a)])) rfl (by rw [hml]; rfl) rfl (hb hby d4_1) (by decide) (W := 0) (by show 2 * 0 + _ ≤ _; exact Nat.le_of_eq rfl) (by decide)
  refine Goes.via st1 ?_
  show Goes p e below _ (T1.setTop (mkF m 4 #[vr a, vr b, vi off, vi ln, .val .null, .unset] []))
  refine gILN X1 hx hby d4_4 rfl ?_
  have hc5_2 : ln = (0 : Int32) := Hln
  refine Goes.via (fun _ kk_ => XS.ifNo X1.here hx rfl (hb hby d4_5) rfl ((if0 _ _).trans (teq hc5_2).2) kk_) ?_
  show Goes p e below _ (T1.setTop (mkF m 8 #[vr a, vr b, vi off, vi ln, .val .null, .unset] []))
  refine gALN X1 hx hby d4_8 rfl rfl ?_
  obtain ⟨ka3, T3, h3, vm3, k13, kb3, kc3, X3, e3, E3, SI3, sk3, hZ, hown, kE3, kC3, kV3, kA3, kL3, Ks3, st3⟩ := own_ldcK (KL := own_KL) (z := (0 : Int32)) (vs := []) X1 hx hZ hown (own_w hw 119 rfl) (fun d hd => hw d ((by decide +kernel : ∀ d ∈ Bundle.stringAtoms, d ∈ tables_1) d hd)) e1 SI0 (Nat.zero_le _) (Fr.nil _) (by rw [hh]; exact HO.2.2) Ks0 (by simp [own_KL]) (by decide +kernel) HC0 HW (by decide +kernel) (by decide) (by decide) (g := (mkF m 9 #[vr a, vr b, vi off, vi ln, .val .null, .unset] [(.ref a)])) rfl (hb hby d4_9) (n := 0) (by decide +kernel) (by decide) (by first | decide | omega | (dsimp only; omega)) (by first | decide | omega | (dsimp only; omega))
  refine Goes.via st3 ?_
  have f4 : Exa Z h3 a "java/lang/String" := (E0_a.ext E3)
  have f5 : Fld Z h3 a "java/lang/String" "value" "[B" .null := (F1_a_value.ext E3)
  have ne6 : a ≠ ka3 := Fld.ne f5 kV3 (by intro q; cases q)
  have ne7 : a ≠ kb3 := f4.neArv kA3 (own_w hw 9 rfl)
  have ne8 : ka3 ≠ kb3 := kE3.neArv kA3 (own_w hw 9 rfl)
  show Goes p e below _ (T3.setTop (mkF m 11 #[vr a, vr b, vi off, vi ln, .val .null, .unset] [(.ref ka3), (.ref a)]))
  obtain ⟨T9, X9, e9, st9⟩ := getF X3 hx hZ hown (host := "") (Or.inl (own_w hw 35 rfl)) Via.refl e3 kV3 (g := (mkF m 11 #[vr a, vr b, vi off, vi ln, .val .null, .unset] [(.ref ka3), (.ref a)])) rfl rfl (hb hby d4_11)
  refine Goes.via st9 ?_
  show Goes p e below _ (T9.setTop (mkF m 14 #[vr a, vr b, vi off, vi ln, .val .null, .unset] [(.ref kb3), (.ref a)]))
  obtain ⟨T10, h10, X10, e10, W10, st10⟩ := putF X9 hx hZ hown (host := "") (Or.inl (own_w hw 35 rfl)) Via.refl e9 f5 f4 (Or.inr ⟨(own_w hw 36 rfl), rfl, hnm⟩) (own_w hw 9 rfl) (ty := (.array .byte)) (by decide) rfl rfl (g := (mkF m 14 #[vr a, vr b, vi off, vi ln, .val .null, .unset] [(.ref kb3), (.ref a)])) rfl rfl (hb hby d4_14)
  refine Goes.via st10 ?_
  have N10 := Fr.snoc X10 N0 H3
  have Fw10 : Fld Z h10 a "java/lang/String" "value" "[B" (.ref kb3) := f5.same W10
  show Goes p e below _ (T10.setTop (mkF m 17 #[vr a, vr b, vi off, vi ln, .val .null, .unset] []))
  refine gALN X10 hx hby d4_17 rfl rfl ?_
  refine Goes.via (ldcAgain X10 hx hZ hown (own_w hw 119 rfl) kL3 (g := (mkF m 18 #[vr a, vr b, vi off, vi ln, .val .null, .unset] [(.ref a)])) rfl (hb hby d4_18)) ?_
  show Goes p e below _ (T10.setTop (mkF m 20 #[vr a, vr b, vi off, vi ln, .val .null, .unset] [(.ref ka3), (.ref a)]))
  have f12 : Fld Z h10 ka3 "java/lang/String" "coder" "B" (.int (0 : Int32)) := (kC3.other W10 (Or.inl (Ne.symm ne6)))
  obtain ⟨T13, X13, e13, st13⟩ := getF X10 hx hZ hown (host := "") (Or.inl (own_w hw 33 rfl)) Via.refl e10 f12 (g := (mkF m 20 #[vr a, vr b, vi off, vi ln, .val .null, .unset] [(.ref ka3), (.ref a)])) rfl rfl (hb hby d4_20)
  refine Goes.via st13 ?_
  show Goes p e below _ (T13.setTop (mkF m 23 #[vr a, vr b, vi off, vi ln, .val .null, .unset] [(.int (0 : Int32)), (.ref a)]))
  have f14 : Fld Z h10 a "java/lang/String" "coder" "B" (.int (0 : Int32)) := ((F2_a_coder.ext E3).other W10 (Or.inr (slot_ne (Or.inr (own_w hw 34 rfl)) (Or.inr (own_w hw 36 rfl)) (by decide) (t := .byte) (t' := (.array .byte)) (by decide) (by decide))))
  have f15 : Exa Z h10 a "java/lang/String" := (f4.wr W10)
  obtain ⟨T16, h16, X16, e16, W16, st16⟩ := putFN X13 hx hZ hown (own_w hw 33 rfl) Via.refl e13 f14 f15 (Or.inr ⟨(own_w hw 34 rfl), rfl, hnm⟩) (own_w hw 9 rfl) (ty := .byte) (v' := (.int (0 : Int32))) (by decide) rfl (by first | exact fits_nar_byte _ | decide) (g := (mkF m 23 #[vr a, vr b, vi off, vi ln, .val .null, .unset] [(.int (0 : Int32)), (.ref a)])) rfl rfl (hb hby d4_23)
  refine Goes.via st16 ?_
  have N16 := Fr.snoc X16 N10 H3
  have Fw16 : Fld Z h16 a "java/lang/String" "coder" "B" (.int (0 : Int32)) := f14.same W16
  show Goes p e below _ (T16.setTop (mkF m 26 #[vr a, vr b, vi off, vi ln, .val .null, .unset] []))
  have f17 : Arv Z h16 kb3 kc3 .byte (0 : Int32) [] (.int 0) := ((kA3.other W10 (Ne.symm ne7)).other W16 (Ne.symm ne7))
  have kW : Arw Z h16 kb3 kc3 .byte 0 own_e0 := Arw.ofArv f17 (by decide) (fun _ _ => rfl)
  have K18 : Keep h0 h16 [a] := ((((Keep.refl h0 [a]).ext E3).wr W10 (Or.inl (List.mem_of_getElem? (i := 0) rfl))).wr W16 (Or.inl (List.mem_of_getElem? (i := 0) rfl)))
  have f19 : Exa Z h16 a "java/lang/String" := (f15.wr W16)
  have f20 : Fld Z h16 a "java/lang/String" "value" "[B" (.ref kb3) := (Fw10.other W16 (Or.inr (slot_ne (Or.inr (own_w hw 36 rfl)) (Or.inr (own_w hw 34 rfl)) (by decide) (t := (.array .byte)) (t' := .byte) (by decide) (by decide))))
  have Ks21 : KS Z own_KL vm3 (h16) := (Ks3.keep (((Keep.refl _ [a]).wr W10 (Or.inl (List.mem_of_getElem? (i := 0) rfl))).wr W16 (Or.inl (List.mem_of_getElem? (i := 0) rfl))) (allS (NoS.str f4 (own_w hw 9 rfl) f5) all0))
  have hKe : KS Z own_KL T16.vm T16.heap := by rw [e16]; exact Ks21.at_ (s := s) X16.warmed
  have sk22 : _ ≤ (h16).size := (Nat.le_trans (Nat.le_trans sk3 (Nat.le_of_eq W10.size.symm)) (Nat.le_of_eq W16.size.symm))
  exact own_wfinV X16 SI3 (by rw [e16]; exact sk22) (fun U_ hv hh_ => by show KS Z own_KL U_.vm U_.heap; rw [hv, hh_]; exact hKe) hx hlk hret (hb hby d4_26) (by rw [e16]; exact ⟨kb3, kc3, rfl, N16, K18, f19, Fw16, f20, kW⟩) (by first | decide | omega | (dsimp only; omega)) (by first | decide | omega | (dsimp only; omega))
theorem ef_rm3e (m : MethodId) (a : Addr) (b : Addr) : entryFrame m #[(.ref a), (.ref b)] 2 = mkF m 0 #[.val (.ref a), .val (.ref b)] [] := by first | (simp [entryFrame, mkF, argsToLocals, Value.category]; done) | rfl
def Qrm3e (Z : State) (a : Addr) (b : Addr) (kc : ClassId) (fc : Nat → Value) (h0 : Heap) (n0 : Nat) (v_ : Option Value) (h_ : Heap) (L_ : List Loc) : Prop := ∃ tb : Addr, ∃ tk : ClassId, v_ = none ∧ Fr n0 L_ ∧ Keep h0 h_ [a] ∧ Exa Z h_ a "java/lang/String" ∧ Fld Z h_ a "java/lang/String" "coder" "B" (.int (0 : Int32)) ∧ Fld Z h_ a "java/lang/String" "value" "[B" (.ref tb) ∧ Arw Z h_ tb tk .byte 0 own_e0
theorem d3_0 : decode jdk_42_method_3_code 0 = .ok (.aload_n 0, 1) := by decide +kernel
theorem d3_1 : decode jdk_42_method_3_code 1 = .ok (.aload_n 1, 1) := by decide +kernel
theorem d3_2 : decode jdk_42_method_3_code 2 = .ok (.iconst 0, 1) := by decide +kernel
theorem d3_3 : decode jdk_42_method_3_code 3 = .ok (.aload_n 1, 1) := by decide +kernel
theorem d3_4 : decode jdk_42_method_3_code 4 = .ok (.arraylength, 1) := by decide +kernel
theorem d3_5 : decode jdk_42_method_3_code 5 = .ok (.aconst_null, 1) := by decide +kernel
theorem pd_9 : parseMethodDescriptor "([CIILjava/lang/Void;)V" = some ⟨[(.array .char), .int, .int, (.object "java/lang/Void")], none⟩ := by decide +kernel
theorem d3_6 : decode jdk_42_method_3_code 6 = .ok (.invokespecial 27, 3) := by decide +kernel
theorem d3_9 : decode jdk_42_method_3_code 9 = .ok (.return_, 1) := by decide +kernel
set_option maxRecDepth 65536 in
set_option maxHeartbeats 40000000 in
theorem rm3e (l : Launch) (Z : State) (a0 : Array Value) (hw : ∀ d ∈ tables_1, d.before a0 Z = true) (ws : List Jvm.Cond) (a : Addr) (b : Addr) (kc : ClassId) (fc : Nat → Value) (h0 : Heap) (n0 : Nat) (Z0 : n0 ≤ h0.size) (E0_a : Exa Z h0 a "java/lang/String") (F1_a_value : Fld Z h0 a "java/lang/String" "value" "[B" .null) (F2_a_coder : Fld Z h0 a "java/lang/String" "coder" "B" (.int (0 : Int32))) (H3 : n0 ≤ a) (A4_b : Arw Z h0 b kc .char 0 fc) (HO : Old Z n0 h0) (HW : Jvm.Lit.compactW.before a0 Z = true) (HC0 : Jvm.Lit.constHeld Z "java/lang/String" 7) (HC1 : Jvm.Lit.constHeld Z "com/example/map_rewriter/maprewriter/core/Symbol" 7) (HC2 : Jvm.Lit.constHeld Z "com/example/map_rewriter/maprewriter/core/Symbol" 76) :
    MetFree l (⟨"java/lang/String", "<init>", "([C)V"⟩ : MethodName) (head1 (Jvm.Cond.code (⟨"java/lang/String", "<init>", "([C)V"⟩ : MethodName) jdk_42_method_3_code 2 none :: ws) ({ frames := 2, cells := 2, slots := 4, locals := 29 } : Room)) (fun as_ U_ => as_ = #[(.ref a), (.ref b)] ∧ Z.Warmed39 U_.vm ∧ U_.heap = h0 ∧ KS Z own_KL U_.vm U_.heap) (fun _ _ _ _ _ => True) (fun _ U_ o_ V_ => ∃ v_ L_, o_ = .returned v_ ∧ Qrm3e Z a b kc fc h0 n0 v_ V_.heap L_ ∧ KS Z own_KL V_.vm V_.heap ∧ ReturnedEndW U_ o_ V_ L_ ({ frames := 2, cells := 2, slots := 4, locals := 29 } : Room).cells ({ frames := 2, cells := 2, slots := 4, locals := 29 } : Room).slots) := by
  refine MetFree.of_bodySF (plainFor_of_name pn_java_lang_String) hisR ?_
  intro p e s m args below meth c s₁ Bd hml0 hP hK
  obtain ⟨rfl, hZ, hh, hKs⟩ := hP
  have hx := Bd.exec
  have hby := Bd.bytes
  have hlk : meth.locks = false := BodyLoose.notSynchronized Bd
  have hret := Bd.returns
  have hml : c.maxLocals = 2 := hml0
  have hown : s.vm.findClass "java/lang/String" = some m.cls := findClass_of_methodNamed Bd.named
  have hnm := (name_of_methodNamed Bd.named Bd.method).1
  have X0 : Stand p l e ({ frames := 2, cells := 2, slots := 4, locals := 29 } : Room) (s.setVm s.vm) m #[(.ref a), (.ref b)] below meth c s₁ [] 0 0 := Stand.of_body Bd
  have e0 : s₁.heap = h0 := by rw [← hh, Bd.state]; rfl
  have N0 := Fr.nil n0
  show Goes p e below (Fin_W s (Qrm3e Z a b kc fc h0 n0) (fun U_ => KS Z own_KL U_.vm U_.heap) ({ frames := 2, cells := 2, slots := 4, locals := 29 } : Room).cells ({ frames := 2, cells := 2, slots := 4, locals := 29 } : Room).slots) (s₁.setTop (entryFrame m #[(.ref a), (.ref b)] 2))
  rw [ef_rm3e m a b]
  have SI0 : s.Since s.vm 0 := (State.WarmedH.refl s).since 0
  have Ks0 : KS Z own_KL s.vm h0 := hh ▸ hKs
  have ne1 : a ≠ b := own_ne_arr E0_a (own_w hw 9 rfl) A4_b
  refine gALN X0 hx hby d3_0 rfl rfl ?_
  refine gALN X0 hx hby d3_1 rfl rfl ?_
  refine gIC (z := 0) X0 hx hby d3_2 rfl ?_
  refine gALN X0 hx hby d3_3 rfl rfl ?_
  refine Goes.via (own_alen X0 hx hZ e0 A4_b (g := (mkF m 4 #[vr a, vr b] [(.ref b), (.int (0 : Int32)), (.ref b), (.ref a)])) rfl rfl (hb hby d3_4)) ?_
  show Goes p e below _ (s₁.setTop (mkF m 5 #[vr a, vr b] [(.int (0 : Int32)), (.int (0 : Int32)), (.ref b), (.ref a)]))
  refine Goes.via (fun _ kk_ => XS.aconstNull X0.here hx rfl (hb hby d3_5) kk_) ?_
  show Goes p e below _ (s₁.setTop (mkF m 6 #[vr a, vr b] [.null, (.int (0 : Int32)), (.int (0 : Int32)), (.ref b), (.ref a)]))
  obtain ⟨_, _, ⟨T2, L2, k2, n2⟩, -, ⟨X2, Si2⟩, ⟨Lc2, ⟨hQ2, tK2, hK2, hKv2, hKh2⟩, l2, y2, z2⟩, st2⟩ := own_specialW X0 hx (y := (⟨"java/lang/String", "<init>", "([CIILjava/lang/Void;)V"⟩ : MethodName)) rfl hown (mvT hZ (own_w hw 14 rfl)) (mvT hZ (own_w hw 15 rfl)) (mvT hZ (own_w hw 17 rfl)) (by decide) (own_backOfW (W := 0) (K := (fun U_ => KS Z own_KL U_.vm U_.heap)) (KP := (fun U_ => KS Z own_KL U_.vm U_.heap)) (rm4e l Z a0 hw [] a b (0 : Int32) (0 : Int32) h0 n0 (Nat.le_trans Z0 (Nat.le_refl _)) E0_a F1_a_value F2_a_coder H3 (by first | assumption | rfl | decide | omega | (simp; done)) HO HW HC0 HC1 HC2) hZ (own_w hw 17 rfl) (own_w hw 10 rfl) (by decide) (by decide) (fun V_ hV hVh => by show KS Z own_KL V_.vm V_.heap; rw [hVh]; exact Ks0.at_ (s := s) hV)) (g := (mkF m 6 #[vr a, vr b] [.null, (.int (0 : Int32)), (.int (0 : Int32)), (.ref b), (.ref a)])) rfl (by rw [hml]; rfl) (a := a) (argsL := [(.ref b), (.int (0 : Int32)), (.int (0 : Int32)), .null]) (rest := []) (lenOf pd_9 rfl) rfl (by show 2 * 0 + _ ≤ _; exact Nat.le_of_eq rfl) (hb hby d3_6) (fun _ _ => ⟨rfl, e0, (by decide : 0 + 2 ≤ _), (by decide : 0 + 4 ≤ _)⟩)
  dsimp only [Pt.U, Pt.locs, Pt.cells, Pt.slots] at X2 l2 y2 z2 st2 hQ2 Si2 hKv2 hKh2
  subst l2 y2 z2
  obtain ⟨tb2, tk2, rfl, N2q, K2, u2_0, u2_1, u2_2, u2_3⟩ := hQ2
  have N2 := Fr.app N0 N2q
  refine Goes.via st2 ?_
  obtain ⟨X2', SI2, hZ, hown⟩ := rebS SI0 (Nat.zero_le _) X2 Si2 K2.1 hZ hown
  have Ks2 : KS Z own_KL T2.vm T2.heap := by rw [← hKv2, ← hKh2]; exact hK2
  have ne3 : a ≠ tb2 := own_ne_arr u2_0 (own_w hw 9 rfl) u2_3
  show Goes p e below _ (T2.setTop (mkF m 9 #[vr a, vr b] []))
  have K4 : Keep h0 T2.heap [a] := ((Keep.refl h0 [a]).trans K2 (allS (Or.inl (List.mem_of_getElem? (i := 0) rfl)) all0))
  have hKe : KS Z own_KL T2.vm T2.heap := by rw [show T2.heap = T2.heap from rfl]; exact Ks2.at_ (s := s) X2'.warmed
  exact own_wfinV X2' SI2 (Nat.le_refl _) (fun U_ hv hh_ => by show KS Z own_KL U_.vm U_.heap; rw [hv, hh_]; exact hKe) hx hlk hret (hb hby d3_9) (by exact ⟨tb2, tk2, rfl, N2, K4, u2_0, u2_1, u2_2, u2_3⟩) (by first | decide | omega | (dsimp only; omega)) (by first | decide | omega | (dsimp only; omega))
def own_s42 (c_ : Int32) : Int32 := if c_ = (126 : Int32) then (1 : Int32) else if c_ = (33 : Int32) then (1 : Int32) else if c_ = (64 : Int32) then (1 : Int32) else if c_ = (36 : Int32) then (1 : Int32) else if c_ = (37 : Int32) then (1 : Int32) else if c_ = (94 : Int32) then (1 : Int32) else if c_ = (38 : Int32) then (1 : Int32) else if c_ = (42 : Int32) then (1 : Int32) else if c_ = (95 : Int32) then (1 : Int32) else if c_ = (45 : Int32) then (1 : Int32) else if c_ = (43 : Int32) then (1 : Int32) else if c_ = (61 : Int32) then (1 : Int32) else if c_ = (60 : Int32) then (1 : Int32) else if c_ = (62 : Int32) then (1 : Int32) else if c_ = (46 : Int32) then (1 : Int32) else if c_ = (63 : Int32) then (1 : Int32) else if c_ = (47 : Int32) then (1 : Int32) else (0 : Int32)
def own_s28 (c_ : Int32) : Int32 := if c_ < (48 : Int32) then own_s42 c_ else if (57 : Int32) < c_ then own_s42 c_ else (1 : Int32)
def own_s14 (c_ : Int32) : Int32 := if c_ < (65 : Int32) then own_s28 c_ else if (90 : Int32) < c_ then own_s28 c_ else (1 : Int32)
def own_sc (c_ : Int32) : Int32 := if c_ < (97 : Int32) then own_s14 c_ else if (122 : Int32) < c_ then own_s14 c_ else (1 : Int32)
theorem ef_rm2 (m : MethodId) (c_ : Int32) : entryFrame m #[(.int c_)] 1 = mkF m 0 #[.val (.int c_)] [] := by first | (simp [entryFrame, mkF, argsToLocals, Value.category]; done) | rfl
def Qrm2 (Z : State) (c_ : Int32) (h0 : Heap) (n0 : Nat) (v_ : Option Value) (h_ : Heap) (L_ : List Loc) : Prop := v_ = some (.int (own_sc c_)) ∧ L_ = [] ∧ h_ = h0
theorem pn_com_example_map_rewriter_maprewriter_core_SymbolEqualsPinLaw : plainName "com/example/map_rewriter/maprewriter/core/SymbolEqualsPinLaw" = true := by first | (simp [plainName, overriddenIn]; done) | decide +kernel
theorem d2_42 : decode method_4_code 42 = .ok (.iload_n 0, 1) := by decide +kernel
theorem d2_43 : decode method_4_code 43 = .ok (.bipush 126, 2) := by decide +kernel
theorem d2_45 : decode method_4_code 45 = .ok (.if_icmp .eq 99, 3) := by decide +kernel
theorem d2_144 : decode method_4_code 144 = .ok (.iconst 1, 1) := by decide +kernel
theorem d2_145 : decode method_4_code 145 = .ok (.goto 4, 3) := by decide +kernel
theorem d2_149 : decode method_4_code 149 = .ok (.ireturn, 1) := by decide +kernel
theorem d2_48 : decode method_4_code 48 = .ok (.iload_n 0, 1) := by decide +kernel
theorem d2_49 : decode method_4_code 49 = .ok (.bipush 33, 2) := by decide +kernel
theorem d2_51 : decode method_4_code 51 = .ok (.if_icmp .eq 93, 3) := by decide +kernel
theorem d2_54 : decode method_4_code 54 = .ok (.iload_n 0, 1) := by decide +kernel
theorem d2_55 : decode method_4_code 55 = .ok (.bipush 64, 2) := by decide +kernel
theorem d2_57 : decode method_4_code 57 = .ok (.if_icmp .eq 87, 3) := by decide +kernel
theorem d2_60 : decode method_4_code 60 = .ok (.iload_n 0, 1) := by decide +kernel
theorem d2_61 : decode method_4_code 61 = .ok (.bipush 36, 2) := by decide +kernel
theorem d2_63 : decode method_4_code 63 = .ok (.if_icmp .eq 81, 3) := by decide +kernel
theorem d2_66 : decode method_4_code 66 = .ok (.iload_n 0, 1) := by decide +kernel
theorem d2_67 : decode method_4_code 67 = .ok (.bipush 37, 2) := by decide +kernel
theorem d2_69 : decode method_4_code 69 = .ok (.if_icmp .eq 75, 3) := by decide +kernel
theorem d2_72 : decode method_4_code 72 = .ok (.iload_n 0, 1) := by decide +kernel
theorem d2_73 : decode method_4_code 73 = .ok (.bipush 94, 2) := by decide +kernel
theorem d2_75 : decode method_4_code 75 = .ok (.if_icmp .eq 69, 3) := by decide +kernel
theorem d2_78 : decode method_4_code 78 = .ok (.iload_n 0, 1) := by decide +kernel
theorem d2_79 : decode method_4_code 79 = .ok (.bipush 38, 2) := by decide +kernel
theorem d2_81 : decode method_4_code 81 = .ok (.if_icmp .eq 63, 3) := by decide +kernel
theorem d2_84 : decode method_4_code 84 = .ok (.iload_n 0, 1) := by decide +kernel
theorem d2_85 : decode method_4_code 85 = .ok (.bipush 42, 2) := by decide +kernel
theorem d2_87 : decode method_4_code 87 = .ok (.if_icmp .eq 57, 3) := by decide +kernel
theorem d2_90 : decode method_4_code 90 = .ok (.iload_n 0, 1) := by decide +kernel
theorem d2_91 : decode method_4_code 91 = .ok (.bipush 95, 2) := by decide +kernel
theorem d2_93 : decode method_4_code 93 = .ok (.if_icmp .eq 51, 3) := by decide +kernel
theorem d2_96 : decode method_4_code 96 = .ok (.iload_n 0, 1) := by decide +kernel
theorem d2_97 : decode method_4_code 97 = .ok (.bipush 45, 2) := by decide +kernel
theorem d2_99 : decode method_4_code 99 = .ok (.if_icmp .eq 45, 3) := by decide +kernel
theorem d2_102 : decode method_4_code 102 = .ok (.iload_n 0, 1) := by decide +kernel
theorem d2_103 : decode method_4_code 103 = .ok (.bipush 43, 2) := by decide +kernel
theorem d2_105 : decode method_4_code 105 = .ok (.if_icmp .eq 39, 3) := by decide +kernel
theorem d2_108 : decode method_4_code 108 = .ok (.iload_n 0, 1) := by decide +kernel
theorem d2_109 : decode method_4_code 109 = .ok (.bipush 61, 2) := by decide +kernel
theorem d2_111 : decode method_4_code 111 = .ok (.if_icmp .eq 33, 3) := by decide +kernel
theorem d2_114 : decode method_4_code 114 = .ok (.iload_n 0, 1) := by decide +kernel
theorem d2_115 : decode method_4_code 115 = .ok (.bipush 60, 2) := by decide +kernel
theorem d2_117 : decode method_4_code 117 = .ok (.if_icmp .eq 27, 3) := by decide +kernel
theorem d2_120 : decode method_4_code 120 = .ok (.iload_n 0, 1) := by decide +kernel
theorem d2_121 : decode method_4_code 121 = .ok (.bipush 62, 2) := by decide +kernel
theorem d2_123 : decode method_4_code 123 = .ok (.if_icmp .eq 21, 3) := by decide +kernel
theorem d2_126 : decode method_4_code 126 = .ok (.iload_n 0, 1) := by decide +kernel
theorem d2_127 : decode method_4_code 127 = .ok (.bipush 46, 2) := by decide +kernel
theorem d2_129 : decode method_4_code 129 = .ok (.if_icmp .eq 15, 3) := by decide +kernel
theorem d2_132 : decode method_4_code 132 = .ok (.iload_n 0, 1) := by decide +kernel
theorem d2_133 : decode method_4_code 133 = .ok (.bipush 63, 2) := by decide +kernel
theorem d2_135 : decode method_4_code 135 = .ok (.if_icmp .eq 9, 3) := by decide +kernel
theorem d2_138 : decode method_4_code 138 = .ok (.iload_n 0, 1) := by decide +kernel
theorem d2_139 : decode method_4_code 139 = .ok (.bipush 47, 2) := by decide +kernel
theorem d2_141 : decode method_4_code 141 = .ok (.if_icmp .ne 7, 3) := by decide +kernel
theorem d2_148 : decode method_4_code 148 = .ok (.iconst 0, 1) := by decide +kernel
theorem d2_28 : decode method_4_code 28 = .ok (.iload_n 0, 1) := by decide +kernel
theorem d2_29 : decode method_4_code 29 = .ok (.bipush 48, 2) := by decide +kernel
theorem d2_31 : decode method_4_code 31 = .ok (.if_icmp .lt 11, 3) := by decide +kernel
theorem d2_34 : decode method_4_code 34 = .ok (.iload_n 0, 1) := by decide +kernel
theorem d2_35 : decode method_4_code 35 = .ok (.bipush 57, 2) := by decide +kernel
theorem d2_37 : decode method_4_code 37 = .ok (.if_icmp .gt 5, 3) := by decide +kernel
theorem d2_40 : decode method_4_code 40 = .ok (.iconst 1, 1) := by decide +kernel
theorem d2_41 : decode method_4_code 41 = .ok (.ireturn, 1) := by decide +kernel
theorem d2_14 : decode method_4_code 14 = .ok (.iload_n 0, 1) := by decide +kernel
theorem d2_15 : decode method_4_code 15 = .ok (.bipush 65, 2) := by decide +kernel
theorem d2_17 : decode method_4_code 17 = .ok (.if_icmp .lt 11, 3) := by decide +kernel
theorem d2_20 : decode method_4_code 20 = .ok (.iload_n 0, 1) := by decide +kernel
theorem d2_21 : decode method_4_code 21 = .ok (.bipush 90, 2) := by decide +kernel
theorem d2_23 : decode method_4_code 23 = .ok (.if_icmp .gt 5, 3) := by decide +kernel
theorem d2_26 : decode method_4_code 26 = .ok (.iconst 1, 1) := by decide +kernel
theorem d2_27 : decode method_4_code 27 = .ok (.ireturn, 1) := by decide +kernel
theorem d2_0 : decode method_4_code 0 = .ok (.iload_n 0, 1) := by decide +kernel
theorem d2_1 : decode method_4_code 1 = .ok (.bipush 97, 2) := by decide +kernel
theorem d2_3 : decode method_4_code 3 = .ok (.if_icmp .lt 11, 3) := by decide +kernel
theorem d2_6 : decode method_4_code 6 = .ok (.iload_n 0, 1) := by decide +kernel
theorem d2_7 : decode method_4_code 7 = .ok (.bipush 122, 2) := by decide +kernel
theorem d2_9 : decode method_4_code 9 = .ok (.if_icmp .gt 5, 3) := by decide +kernel
theorem d2_12 : decode method_4_code 12 = .ok (.iconst 1, 1) := by decide +kernel
theorem d2_13 : decode method_4_code 13 = .ok (.ireturn, 1) := by decide +kernel
set_option maxRecDepth 65536 in
set_option maxHeartbeats 40000000 in
theorem rm2 (l : Launch) (Z : State) (a0 : Array Value) (hw : ∀ d ∈ tables_1, d.before a0 Z = true) (ws : List Jvm.Cond) (c_ : Int32) (h0 : Heap) (n0 : Nat) (Z0 : n0 ≤ h0.size) :
    MetFree l (⟨"com/example/map_rewriter/maprewriter/core/SymbolEqualsPinLaw", "symbolChar", "(C)Z"⟩ : MethodName) (head1 (Jvm.Cond.code (⟨"com/example/map_rewriter/maprewriter/core/SymbolEqualsPinLaw", "symbolChar", "(C)Z"⟩ : MethodName) method_4_code 1 (some .boolean) :: ws) ({ frames := 0, cells := 0, slots := 0, locals := 0 } : Room)) (fun as_ U_ => as_ = #[(.int c_)] ∧ Z.Warmed39 U_.vm ∧ U_.heap = h0) (fun _ _ _ _ _ => True) (fun _ U_ o_ V_ => ∃ v_ L_, o_ = .returned v_ ∧ Qrm2 Z c_ h0 n0 v_ V_.heap L_ ∧ FrameEnd U_ o_ V_ L_ ({ frames := 0, cells := 0, slots := 0, locals := 0 } : Room).cells ({ frames := 0, cells := 0, slots := 0, locals := 0 } : Room).slots) := by
  refine MetFree.of_bodySF (plainFor_of_name pn_com_example_map_rewriter_maprewriter_core_SymbolEqualsPinLaw) hisR ?_
  intro p e s m args below meth c s₁ Bd hml0 hP hK
  obtain ⟨rfl, hZ, hh⟩ := hP
  have hx := Bd.exec
  have hby := Bd.bytes
  have hlk : meth.locks = false := BodyLoose.notSynchronized Bd
  have hret := Bd.returns
  have hml : c.maxLocals = 1 := hml0
  have hown : s.vm.findClass "com/example/map_rewriter/maprewriter/core/SymbolEqualsPinLaw" = some m.cls := findClass_of_methodNamed Bd.named
  have hnm := (name_of_methodNamed Bd.named Bd.method).1
  have X0 : Stand p l e ({ frames := 0, cells := 0, slots := 0, locals := 0 } : Room) s m #[(.int c_)] below meth c s₁ [] 0 0 := Stand.of_body Bd
  have e0 : s₁.heap = h0 := by rw [← hh, Bd.state]; rfl
  have N0 := Fr.nil n0
  show Goes p e below (Fin_ s (Qrm2 Z c_ h0 n0) ({ frames := 0, cells := 0, slots := 0, locals := 0 } : Room).cells ({ frames := 0, cells := 0, slots := 0, locals := 0 } : Room).slots) (s₁.setTop (entryFrame m #[(.int c_)] 1))
  rw [ef_rm2 m c_]
  have J42 : own_sc c_ = own_s42 c_ → Goes p e below (Fin_ s (Qrm2 Z c_ h0 n0) ({ frames := 0, cells := 0, slots := 0, locals := 0 } : Room).cells ({ frames := 0, cells := 0, slots := 0, locals := 0 } : Room).slots) (s₁.setTop (mkF m 42 #[vi c_] [])) := by
    intro hj
    refine gILN X0 hx hby d2_42 rfl ?_
    refine gBI (z := 126) X0 hx hby d2_43 rfl ?_
    by_cases hc45 : c_ = (126 : Int32)
    · skip
      refine Goes.via (fun _ kk_ => XS.icmpYes X0.here hx rfl (pc0 := 45) (pc' := 144) rfl (hb hby d2_45) rfl (teq hc45).1 (by decide) (by decide) kk_) ?_
      show Goes p e below _ (s₁.setTop (mkF m 144 #[vi c_] []))
      refine gIC (z := 1) X0 hx hby d2_144 rfl ?_
      refine Goes.via (fun _ kk_ => XS.goto X0.here hx rfl (pc0 := 145) (pc' := 149) rfl (hb hby d2_145) (by decide) (by decide) kk_) ?_
      show Goes p e below _ (s₁.setTop (mkF m 149 #[vi c_] [(.int (1 : Int32))]))
      exact own_finN X0 hx hlk hret (by simp) (hb hby d2_149) (by rw [e0]; exact ⟨(by rw [hj, own_s42, if_pos hc45]; rfl), rfl, rfl⟩) (by first | decide | omega | (dsimp only; omega)) (by first | decide | omega | (dsimp only; omega))
    · skip
      refine Goes.via (fun _ kk_ => XS.icmpNo X0.here hx rfl (hb hby d2_45) rfl (feq hc45).1 kk_) ?_
      show Goes p e below _ (s₁.setTop (mkF m 48 #[vi c_] []))
      refine gILN X0 hx hby d2_48 rfl ?_
      refine gBI (z := 33) X0 hx hby d2_49 rfl ?_
      by_cases hc51 : c_ = (33 : Int32)
      · skip
        refine Goes.via (fun _ kk_ => XS.icmpYes X0.here hx rfl (pc0 := 51) (pc' := 144) rfl (hb hby d2_51) rfl (teq hc51).1 (by decide) (by decide) kk_) ?_
        show Goes p e below _ (s₁.setTop (mkF m 144 #[vi c_] []))
        refine gIC (z := 1) X0 hx hby d2_144 rfl ?_
        refine Goes.via (fun _ kk_ => XS.goto X0.here hx rfl (pc0 := 145) (pc' := 149) rfl (hb hby d2_145) (by decide) (by decide) kk_) ?_
        show Goes p e below _ (s₁.setTop (mkF m 149 #[vi c_] [(.int (1 : Int32))]))
        exact own_finN X0 hx hlk hret (by simp) (hb hby d2_149) (by rw [e0]; exact ⟨(by rw [hj, own_s42, if_neg hc45, if_pos hc51]; rfl), rfl, rfl⟩) (by first | decide | omega | (dsimp only; omega)) (by first | decide | omega | (dsimp only; omega))
      · skip
        refine Goes.via (fun _ kk_ => XS.icmpNo X0.here hx rfl (hb hby d2_51) rfl (feq hc51).1 kk_) ?_
        show Goes p e below _ (s₁.setTop (mkF m 54 #[vi c_] []))
        refine gILN X0 hx hby d2_54 rfl ?_
        refine gBI (z := 64) X0 hx hby d2_55 rfl ?_
        by_cases hc57 : c_ = (64 : Int32)
        · skip
          refine Goes.via (fun _ kk_ => XS.icmpYes X0.here hx rfl (pc0 := 57) (pc' := 144) rfl (hb hby d2_57) rfl (teq hc57).1 (by decide) (by decide) kk_) ?_
          show Goes p e below _ (s₁.setTop (mkF m 144 #[vi c_] []))
          refine gIC (z := 1) X0 hx hby d2_144 rfl ?_
          refine Goes.via (fun _ kk_ => XS.goto X0.here hx rfl (pc0 := 145) (pc' := 149) rfl (hb hby d2_145) (by decide) (by decide) kk_) ?_
          show Goes p e below _ (s₁.setTop (mkF m 149 #[vi c_] [(.int (1 : Int32))]))
          exact own_finN X0 hx hlk hret (by simp) (hb hby d2_149) (by rw [e0]; exact ⟨(by rw [hj, own_s42, if_neg hc45, if_neg hc51, if_pos hc57]; rfl), rfl, rfl⟩) (by first | decide | omega | (dsimp only; omega)) (by first | decide | omega | (dsimp only; omega))
        · skip
          refine Goes.via (fun _ kk_ => XS.icmpNo X0.here hx rfl (hb hby d2_57) rfl (feq hc57).1 kk_) ?_
          show Goes p e below _ (s₁.setTop (mkF m 60 #[vi c_] []))
          refine gILN X0 hx hby d2_60 rfl ?_
          refine gBI (z := 36) X0 hx hby d2_61 rfl ?_
          by_cases hc63 : c_ = (36 : Int32)
          · skip
            refine Goes.via (fun _ kk_ => XS.icmpYes X0.here hx rfl (pc0 := 63) (pc' := 144) rfl (hb hby d2_63) rfl (teq hc63).1 (by decide) (by decide) kk_) ?_
            show Goes p e below _ (s₁.setTop (mkF m 144 #[vi c_] []))
            refine gIC (z := 1) X0 hx hby d2_144 rfl ?_
            refine Goes.via (fun _ kk_ => XS.goto X0.here hx rfl (pc0 := 145) (pc' := 149) rfl (hb hby d2_145) (by decide) (by decide) kk_) ?_
            show Goes p e below _ (s₁.setTop (mkF m 149 #[vi c_] [(.int (1 : Int32))]))
            exact own_finN X0 hx hlk hret (by simp) (hb hby d2_149) (by rw [e0]; exact ⟨(by rw [hj, own_s42, if_neg hc45, if_neg hc51, if_neg hc57, if_pos hc63]; rfl), rfl, rfl⟩) (by first | decide | omega | (dsimp only; omega)) (by first | decide | omega | (dsimp only; omega))
          · skip
            refine Goes.via (fun _ kk_ => XS.icmpNo X0.here hx rfl (hb hby d2_63) rfl (feq hc63).1 kk_) ?_
            show Goes p e below _ (s₁.setTop (mkF m 66 #[vi c_] []))
            refine gILN X0 hx hby d2_66 rfl ?_
            refine gBI (z := 37) X0 hx hby d2_67 rfl ?_
            by_cases hc69 : c_ = (37 : Int32)
            · skip
              refine Goes.via (fun _ kk_ => XS.icmpYes X0.here hx rfl (pc0 := 69) (pc' := 144) rfl (hb hby d2_69) rfl (teq hc69).1 (by decide) (by decide) kk_) ?_
              show Goes p e below _ (s₁.setTop (mkF m 144 #[vi c_] []))
              refine gIC (z := 1) X0 hx hby d2_144 rfl ?_
              refine Goes.via (fun _ kk_ => XS.goto X0.here hx rfl (pc0 := 145) (pc' := 149) rfl (hb hby d2_145) (by decide) (by decide) kk_) ?_
              show Goes p e below _ (s₁.setTop (mkF m 149 #[vi c_] [(.int (1 : Int32))]))
              exact own_finN X0 hx hlk hret (by simp) (hb hby d2_149) (by rw [e0]; exact ⟨(by rw [hj, own_s42, if_neg hc45, if_neg hc51, if_neg hc57, if_neg hc63, if_pos hc69]; rfl), rfl, rfl⟩) (by first | decide | omega | (dsimp only; omega)) (by first | decide | omega | (dsimp only; omega))
            · skip
              refine Goes.via (fun _ kk_ => XS.icmpNo X0.here hx rfl (hb hby d2_69) rfl (feq hc69).1 kk_) ?_
              show Goes p e below _ (s₁.setTop (mkF m 72 #[vi c_] []))
              refine gILN X0 hx hby d2_72 rfl ?_
              refine gBI (z := 94) X0 hx hby d2_73 rfl ?_
              by_cases hc75 : c_ = (94 : Int32)
              · skip
                refine Goes.via (fun _ kk_ => XS.icmpYes X0.here hx rfl (pc0 := 75) (pc' := 144) rfl (hb hby d2_75) rfl (teq hc75).1 (by decide) (by decide) kk_) ?_
                show Goes p e below _ (s₁.setTop (mkF m 144 #[vi c_] []))
                refine gIC (z := 1) X0 hx hby d2_144 rfl ?_
                refine Goes.via (fun _ kk_ => XS.goto X0.here hx rfl (pc0 := 145) (pc' := 149) rfl (hb hby d2_145) (by decide) (by decide) kk_) ?_
                show Goes p e below _ (s₁.setTop (mkF m 149 #[vi c_] [(.int (1 : Int32))]))
                exact own_finN X0 hx hlk hret (by simp) (hb hby d2_149) (by rw [e0]; exact ⟨(by rw [hj, own_s42, if_neg hc45, if_neg hc51, if_neg hc57, if_neg hc63, if_neg hc69, if_pos hc75]; rfl), rfl, rfl⟩) (by first | decide | omega | (dsimp only; omega)) (by first | decide | omega | (dsimp only; omega))
              · skip
                refine Goes.via (fun _ kk_ => XS.icmpNo X0.here hx rfl (hb hby d2_75) rfl (feq hc75).1 kk_) ?_
                show Goes p e below _ (s₁.setTop (mkF m 78 #[vi c_] []))
                refine gILN X0 hx hby d2_78 rfl ?_
                refine gBI (z := 38) X0 hx hby d2_79 rfl ?_
                by_cases hc81 : c_ = (38 : Int32)
                · skip
                  refine Goes.via (fun _ kk_ => XS.icmpYes X0.here hx rfl (pc0 := 81) (pc' := 144) rfl (hb hby d2_81) rfl (teq hc81).1 (by decide) (by decide) kk_) ?_
                  show Goes p e below _ (s₁.setTop (mkF m 144 #[vi c_] []))
                  refine gIC (z := 1) X0 hx hby d2_144 rfl ?_
                  refine Goes.via (fun _ kk_ => XS.goto X0.here hx rfl (pc0 := 145) (pc' := 149) rfl (hb hby d2_145) (by decide) (by decide) kk_) ?_
                  show Goes p e below _ (s₁.setTop (mkF m 149 #[vi c_] [(.int (1 : Int32))]))
                  exact own_finN X0 hx hlk hret (by simp) (hb hby d2_149) (by rw [e0]; exact ⟨(by rw [hj, own_s42, if_neg hc45, if_neg hc51, if_neg hc57, if_neg hc63, if_neg hc69, if_neg hc75, if_pos hc81]; rfl), rfl, rfl⟩) (by first | decide | omega | (dsimp only; omega)) (by first | decide | omega | (dsimp only; omega))
                · skip
                  refine Goes.via (fun _ kk_ => XS.icmpNo X0.here hx rfl (hb hby d2_81) rfl (feq hc81).1 kk_) ?_
                  show Goes p e below _ (s₁.setTop (mkF m 84 #[vi c_] []))
                  refine gILN X0 hx hby d2_84 rfl ?_
                  refine gBI (z := 42) X0 hx hby d2_85 rfl ?_
                  by_cases hc87 : c_ = (42 : Int32)
                  · skip
                    refine Goes.via (fun _ kk_ => XS.icmpYes X0.here hx rfl (pc0 := 87) (pc' := 144) rfl (hb hby d2_87) rfl (teq hc87).1 (by decide) (by decide) kk_) ?_
                    show Goes p e below _ (s₁.setTop (mkF m 144 #[vi c_] []))
                    refine gIC (z := 1) X0 hx hby d2_144 rfl ?_
                    refine Goes.via (fun _ kk_ => XS.goto X0.here hx rfl (pc0 := 145) (pc' := 149) rfl (hb hby d2_145) (by decide) (by decide) kk_) ?_
                    show Goes p e below _ (s₁.setTop (mkF m 149 #[vi c_] [(.int (1 : Int32))]))
                    exact own_finN X0 hx hlk hret (by simp) (hb hby d2_149) (by rw [e0]; exact ⟨(by rw [hj, own_s42, if_neg hc45, if_neg hc51, if_neg hc57, if_neg hc63, if_neg hc69, if_neg hc75, if_neg hc81, if_pos hc87]; rfl), rfl, rfl⟩) (by first | decide | omega | (dsimp only; omega)) (by first | decide | omega | (dsimp only; omega))
                  · skip
                    refine Goes.via (fun _ kk_ => XS.icmpNo X0.here hx rfl (hb hby d2_87) rfl (feq hc87).1 kk_) ?_
                    show Goes p e below _ (s₁.setTop (mkF m 90 #[vi c_] []))
                    refine gILN X0 hx hby d2_90 rfl ?_
                    refine gBI (z := 95) X0 hx hby d2_91 rfl ?_
                    by_cases hc93 : c_ = (95 : Int32)
                    · skip
                      refine Goes.via (fun _ kk_ => XS.icmpYes X0.here hx rfl (pc0 := 93) (pc' := 144) rfl (hb hby d2_93) rfl (teq hc93).1 (by decide) (by decide) kk_) ?_
                      show Goes p e below _ (s₁.setTop (mkF m 144 #[vi c_] []))
                      refine gIC (z := 1) X0 hx hby d2_144 rfl ?_
                      refine Goes.via (fun _ kk_ => XS.goto X0.here hx rfl (pc0 := 145) (pc' := 149) rfl (hb hby d2_145) (by decide) (by decide) kk_) ?_
                      show Goes p e below _ (s₁.setTop (mkF m 149 #[vi c_] [(.int (1 : Int32))]))
                      exact own_finN X0 hx hlk hret (by simp) (hb hby d2_149) (by rw [e0]; exact ⟨(by rw [hj, own_s42, if_neg hc45, if_neg hc51, if_neg hc57, if_neg hc63, if_neg hc69, if_neg hc75, if_neg hc81, if_neg hc87, if_pos hc93]; rfl), rfl, rfl⟩) (by first | decide | omega | (dsimp only; omega)) (by first | decide | omega | (dsimp only; omega))
                    · skip
                      refine Goes.via (fun _ kk_ => XS.icmpNo X0.here hx rfl (hb hby d2_93) rfl (feq hc93).1 kk_) ?_
                      show Goes p e below _ (s₁.setTop (mkF m 96 #[vi c_] []))
                      refine gILN X0 hx hby d2_96 rfl ?_
                      refine gBI (z := 45) X0 hx hby d2_97 rfl ?_
                      by_cases hc99 : c_ = (45 : Int32)
                      · skip
                        refine Goes.via (fun _ kk_ => XS.icmpYes X0.here hx rfl (pc0 := 99) (pc' := 144) rfl (hb hby d2_99) rfl (teq hc99).1 (by decide) (by decide) kk_) ?_
                        show Goes p e below _ (s₁.setTop (mkF m 144 #[vi c_] []))
                        refine gIC (z := 1) X0 hx hby d2_144 rfl ?_
                        refine Goes.via (fun _ kk_ => XS.goto X0.here hx rfl (pc0 := 145) (pc' := 149) rfl (hb hby d2_145) (by decide) (by decide) kk_) ?_
                        show Goes p e below _ (s₁.setTop (mkF m 149 #[vi c_] [(.int (1 : Int32))]))
                        exact own_finN X0 hx hlk hret (by simp) (hb hby d2_149) (by rw [e0]; exact ⟨(by rw [hj, own_s42, if_neg hc45, if_neg hc51, if_neg hc57, if_neg hc63, if_neg hc69, if_neg hc75, if_neg hc81, if_neg hc87, if_neg hc93, if_pos hc99]; rfl), rfl, rfl⟩) (by first | decide | omega | (dsimp only; omega)) (by first | decide | omega | (dsimp only; omega))
                      · skip
                        refine Goes.via (fun _ kk_ => XS.icmpNo X0.here hx rfl (hb hby d2_99) rfl (feq hc99).1 kk_) ?_
                        show Goes p e below _ (s₁.setTop (mkF m 102 #[vi c_] []))
                        refine gILN X0 hx hby d2_102 rfl ?_
                        refine gBI (z := 43) X0 hx hby d2_103 rfl ?_
                        by_cases hc105 : c_ = (43 : Int32)
                        · skip
                          refine Goes.via (fun _ kk_ => XS.icmpYes X0.here hx rfl (pc0 := 105) (pc' := 144) rfl (hb hby d2_105) rfl (teq hc105).1 (by decide) (by decide) kk_) ?_
                          show Goes p e below _ (s₁.setTop (mkF m 144 #[vi c_] []))
                          refine gIC (z := 1) X0 hx hby d2_144 rfl ?_
                          refine Goes.via (fun _ kk_ => XS.goto X0.here hx rfl (pc0 := 145) (pc' := 149) rfl (hb hby d2_145) (by decide) (by decide) kk_) ?_
                          show Goes p e below _ (s₁.setTop (mkF m 149 #[vi c_] [(.int (1 : Int32))]))
                          exact own_finN X0 hx hlk hret (by simp) (hb hby d2_149) (by rw [e0]; exact ⟨(by rw [hj, own_s42, if_neg hc45, if_neg hc51, if_neg hc57, if_neg hc63, if_neg hc69, if_neg hc75, if_neg hc81, if_neg hc87, if_neg hc93, if_neg hc99, if_pos hc105]; rfl), rfl, rfl⟩) (by first | decide | omega | (dsimp only; omega)) (by first | decide | omega | (dsimp only; omega))
                        · skip
                          refine Goes.via (fun _ kk_ => XS.icmpNo X0.here hx rfl (hb hby d2_105) rfl (feq hc105).1 kk_) ?_
                          show Goes p e below _ (s₁.setTop (mkF m 108 #[vi c_] []))
                          refine gILN X0 hx hby d2_108 rfl ?_
                          refine gBI (z := 61) X0 hx hby d2_109 rfl ?_
                          by_cases hc111 : c_ = (61 : Int32)
                          · skip
                            refine Goes.via (fun _ kk_ => XS.icmpYes X0.here hx rfl (pc0 := 111) (pc' := 144) rfl (hb hby d2_111) rfl (teq hc111).1 (by decide) (by decide) kk_) ?_
                            show Goes p e below _ (s₁.setTop (mkF m 144 #[vi c_] []))
                            refine gIC (z := 1) X0 hx hby d2_144 rfl ?_
                            refine Goes.via (fun _ kk_ => XS.goto X0.here hx rfl (pc0 := 145) (pc' := 149) rfl (hb hby d2_145) (by decide) (by decide) kk_) ?_
                            show Goes p e below _ (s₁.setTop (mkF m 149 #[vi c_] [(.int (1 : Int32))]))
                            exact own_finN X0 hx hlk hret (by simp) (hb hby d2_149) (by rw [e0]; exact ⟨(by rw [hj, own_s42, if_neg hc45, if_neg hc51, if_neg hc57, if_neg hc63, if_neg hc69, if_neg hc75, if_neg hc81, if_neg hc87, if_neg hc93, if_neg hc99, if_neg hc105, if_pos hc111]; rfl), rfl, rfl⟩) (by first | decide | omega | (dsimp only; omega)) (by first | decide | omega | (dsimp only; omega))
                          · skip
                            refine Goes.via (fun _ kk_ => XS.icmpNo X0.here hx rfl (hb hby d2_111) rfl (feq hc111).1 kk_) ?_
                            show Goes p e below _ (s₁.setTop (mkF m 114 #[vi c_] []))
                            refine gILN X0 hx hby d2_114 rfl ?_
                            refine gBI (z := 60) X0 hx hby d2_115 rfl ?_
                            by_cases hc117 : c_ = (60 : Int32)
                            · skip
                              refine Goes.via (fun _ kk_ => XS.icmpYes X0.here hx rfl (pc0 := 117) (pc' := 144) rfl (hb hby d2_117) rfl (teq hc117).1 (by decide) (by decide) kk_) ?_
                              show Goes p e below _ (s₁.setTop (mkF m 144 #[vi c_] []))
                              refine gIC (z := 1) X0 hx hby d2_144 rfl ?_
                              refine Goes.via (fun _ kk_ => XS.goto X0.here hx rfl (pc0 := 145) (pc' := 149) rfl (hb hby d2_145) (by decide) (by decide) kk_) ?_
                              show Goes p e below _ (s₁.setTop (mkF m 149 #[vi c_] [(.int (1 : Int32))]))
                              exact own_finN X0 hx hlk hret (by simp) (hb hby d2_149) (by rw [e0]; exact ⟨(by rw [hj, own_s42, if_neg hc45, if_neg hc51, if_neg hc57, if_neg hc63, if_neg hc69, if_neg hc75, if_neg hc81, if_neg hc87, if_neg hc93, if_neg hc99, if_neg hc105, if_neg hc111, if_pos hc117]; rfl), rfl, rfl⟩) (by first | decide | omega | (dsimp only; omega)) (by first | decide | omega | (dsimp only; omega))
                            · skip
                              refine Goes.via (fun _ kk_ => XS.icmpNo X0.here hx rfl (hb hby d2_117) rfl (feq hc117).1 kk_) ?_
                              show Goes p e below _ (s₁.setTop (mkF m 120 #[vi c_] []))
                              refine gILN X0 hx hby d2_120 rfl ?_
                              refine gBI (z := 62) X0 hx hby d2_121 rfl ?_
                              by_cases hc123 : c_ = (62 : Int32)
                              · skip
                                refine Goes.via (fun _ kk_ => XS.icmpYes X0.here hx rfl (pc0 := 123) (pc' := 144) rfl (hb hby d2_123) rfl (teq hc123).1 (by decide) (by decide) kk_) ?_
                                show Goes p e below _ (s₁.setTop (mkF m 144 #[vi c_] []))
                                refine gIC (z := 1) X0 hx hby d2_144 rfl ?_
                                refine Goes.via (fun _ kk_ => XS.goto X0.here hx rfl (pc0 := 145) (pc' := 149) rfl (hb hby d2_145) (by decide) (by decide) kk_) ?_
                                show Goes p e below _ (s₁.setTop (mkF m 149 #[vi c_] [(.int (1 : Int32))]))
                                exact own_finN X0 hx hlk hret (by simp) (hb hby d2_149) (by rw [e0]; exact ⟨(by rw [hj, own_s42, if_neg hc45, if_neg hc51, if_neg hc57, if_neg hc63, if_neg hc69, if_neg hc75, if_neg hc81, if_neg hc87, if_neg hc93, if_neg hc99, if_neg hc105, if_neg hc111, if_neg hc117, if_pos hc123]; rfl), rfl, rfl⟩) (by first | decide | omega | (dsimp only; omega)) (by first | decide | omega | (dsimp only; omega))
                              · skip
                                refine Goes.via (fun _ kk_ => XS.icmpNo X0.here hx rfl (hb hby d2_123) rfl (feq hc123).1 kk_) ?_
                                show Goes p e below _ (s₁.setTop (mkF m 126 #[vi c_] []))
                                refine gILN X0 hx hby d2_126 rfl ?_
                                refine gBI (z := 46) X0 hx hby d2_127 rfl ?_
                                by_cases hc129 : c_ = (46 : Int32)
                                · skip
                                  refine Goes.via (fun _ kk_ => XS.icmpYes X0.here hx rfl (pc0 := 129) (pc' := 144) rfl (hb hby d2_129) rfl (teq hc129).1 (by decide) (by decide) kk_) ?_
                                  show Goes p e below _ (s₁.setTop (mkF m 144 #[vi c_] []))
                                  refine gIC (z := 1) X0 hx hby d2_144 rfl ?_
                                  refine Goes.via (fun _ kk_ => XS.goto X0.here hx rfl (pc0 := 145) (pc' := 149) rfl (hb hby d2_145) (by decide) (by decide) kk_) ?_
                                  show Goes p e below _ (s₁.setTop (mkF m 149 #[vi c_] [(.int (1 : Int32))]))
                                  exact own_finN X0 hx hlk hret (by simp) (hb hby d2_149) (by rw [e0]; exact ⟨(by rw [hj, own_s42, if_neg hc45, if_neg hc51, if_neg hc57, if_neg hc63, if_neg hc69, if_neg hc75, if_neg hc81, if_neg hc87, if_neg hc93, if_neg hc99, if_neg hc105, if_neg hc111, if_neg hc117, if_neg hc123, if_pos hc129]; rfl), rfl, rfl⟩) (by first | decide | omega | (dsimp only; omega)) (by first | decide | omega | (dsimp only; omega))
                                · skip
                                  refine Goes.via (fun _ kk_ => XS.icmpNo X0.here hx rfl (hb hby d2_129) rfl (feq hc129).1 kk_) ?_
                                  show Goes p e below _ (s₁.setTop (mkF m 132 #[vi c_] []))
                                  refine gILN X0 hx hby d2_132 rfl ?_
                                  refine gBI (z := 63) X0 hx hby d2_133 rfl ?_
                                  by_cases hc135 : c_ = (63 : Int32)
                                  · skip
                                    refine Goes.via (fun _ kk_ => XS.icmpYes X0.here hx rfl (pc0 := 135) (pc' := 144) rfl (hb hby d2_135) rfl (teq hc135).1 (by decide) (by decide) kk_) ?_
                                    show Goes p e below _ (s₁.setTop (mkF m 144 #[vi c_] []))
                                    refine gIC (z := 1) X0 hx hby d2_144 rfl ?_
                                    refine Goes.via (fun _ kk_ => XS.goto X0.here hx rfl (pc0 := 145) (pc' := 149) rfl (hb hby d2_145) (by decide) (by decide) kk_) ?_
                                    show Goes p e below _ (s₁.setTop (mkF m 149 #[vi c_] [(.int (1 : Int32))]))
                                    exact own_finN X0 hx hlk hret (by simp) (hb hby d2_149) (by rw [e0]; exact ⟨(by rw [hj, own_s42, if_neg hc45, if_neg hc51, if_neg hc57, if_neg hc63, if_neg hc69, if_neg hc75, if_neg hc81, if_neg hc87, if_neg hc93, if_neg hc99, if_neg hc105, if_neg hc111, if_neg hc117, if_neg hc123, if_neg hc129, if_pos hc135]; rfl), rfl, rfl⟩) (by first | decide | omega | (dsimp only; omega)) (by first | decide | omega | (dsimp only; omega))
                                  · skip
                                    refine Goes.via (fun _ kk_ => XS.icmpNo X0.here hx rfl (hb hby d2_135) rfl (feq hc135).1 kk_) ?_
                                    show Goes p e below _ (s₁.setTop (mkF m 138 #[vi c_] []))
                                    refine gILN X0 hx hby d2_138 rfl ?_
                                    refine gBI (z := 47) X0 hx hby d2_139 rfl ?_
                                    by_cases hc141 : c_ = (47 : Int32)
                                    · skip
                                      refine Goes.via (fun _ kk_ => XS.icmpNo X0.here hx rfl (hb hby d2_141) rfl (teq hc141).2 kk_) ?_
                                      show Goes p e below _ (s₁.setTop (mkF m 144 #[vi c_] []))
                                      refine gIC (z := 1) X0 hx hby d2_144 rfl ?_
                                      refine Goes.via (fun _ kk_ => XS.goto X0.here hx rfl (pc0 := 145) (pc' := 149) rfl (hb hby d2_145) (by decide) (by decide) kk_) ?_
                                      show Goes p e below _ (s₁.setTop (mkF m 149 #[vi c_] [(.int (1 : Int32))]))
                                      exact own_finN X0 hx hlk hret (by simp) (hb hby d2_149) (by rw [e0]; exact ⟨(by rw [hj, own_s42, if_neg hc45, if_neg hc51, if_neg hc57, if_neg hc63, if_neg hc69, if_neg hc75, if_neg hc81, if_neg hc87, if_neg hc93, if_neg hc99, if_neg hc105, if_neg hc111, if_neg hc117, if_neg hc123, if_neg hc129, if_neg hc135, if_pos hc141]; rfl), rfl, rfl⟩) (by first | decide | omega | (dsimp only; omega)) (by first | decide | omega | (dsimp only; omega))
                                    · skip
                                      refine Goes.via (fun _ kk_ => XS.icmpYes X0.here hx rfl (pc0 := 141) (pc' := 148) rfl (hb hby d2_141) rfl (feq hc141).2 (by decide) (by decide) kk_) ?_
                                      show Goes p e below _ (s₁.setTop (mkF m 148 #[vi c_] []))
                                      refine gIC (z := 0) X0 hx hby d2_148 rfl ?_
                                      exact own_finN X0 hx hlk hret (by simp) (hb hby d2_149) (by rw [e0]; exact ⟨(by rw [hj, own_s42, if_neg hc45, if_neg hc51, if_neg hc57, if_neg hc63, if_neg hc69, if_neg hc75, if_neg hc81, if_neg hc87, if_neg hc93, if_neg hc99, if_neg hc105, if_neg hc111, if_neg hc117, if_neg hc123, if_neg hc129, if_neg hc135, if_neg hc141]; rfl), rfl, rfl⟩) (by first | decide | omega | (dsimp only; omega)) (by first | decide | omega | (dsimp only; omega))
  have J28 : own_sc c_ = own_s28 c_ → Goes p e below (Fin_ s (Qrm2 Z c_ h0 n0) ({ frames := 0, cells := 0, slots := 0, locals := 0 } : Room).cells ({ frames := 0, cells := 0, slots := 0, locals := 0 } : Room).slots) (s₁.setTop (mkF m 28 #[vi c_] [])) := by
    intro hj
    refine gILN X0 hx hby d2_28 rfl ?_
    refine gBI (z := 48) X0 hx hby d2_29 rfl ?_
    by_cases hc31 : c_ < (48 : Int32)
    · skip
      refine Goes.via (fun _ kk_ => XS.icmpYes X0.here hx rfl (pc0 := 31) (pc' := 42) rfl (hb hby d2_31) rfl (tlt hc31).1 (by decide) (by decide) kk_) ?_
      show Goes p e below _ (s₁.setTop (mkF m 42 #[vi c_] []))
      exact J42 (hj.trans (by rw [own_s28, if_pos hc31]))
    · skip
      refine Goes.via (fun _ kk_ => XS.icmpNo X0.here hx rfl (hb hby d2_31) rfl (flt hc31).1 kk_) ?_
      show Goes p e below _ (s₁.setTop (mkF m 34 #[vi c_] []))
      refine gILN X0 hx hby d2_34 rfl ?_
      refine gBI (z := 57) X0 hx hby d2_35 rfl ?_
      by_cases hc37 : (57 : Int32) < c_
      · skip
        refine Goes.via (fun _ kk_ => XS.icmpYes X0.here hx rfl (pc0 := 37) (pc' := 42) rfl (hb hby d2_37) rfl (tlt hc37).2.2.1 (by decide) (by decide) kk_) ?_
        show Goes p e below _ (s₁.setTop (mkF m 42 #[vi c_] []))
        exact J42 (hj.trans (by rw [own_s28, if_neg hc31, if_pos hc37]))
      · skip
        refine Goes.via (fun _ kk_ => XS.icmpNo X0.here hx rfl (hb hby d2_37) rfl (flt hc37).2.2.1 kk_) ?_
        show Goes p e below _ (s₁.setTop (mkF m 40 #[vi c_] []))
        refine gIC (z := 1) X0 hx hby d2_40 rfl ?_
        exact own_finN X0 hx hlk hret (by simp) (hb hby d2_41) (by rw [e0]; exact ⟨(by rw [hj, own_s28, if_neg hc31, if_neg hc37]; rfl), rfl, rfl⟩) (by first | decide | omega | (dsimp only; omega)) (by first | decide | omega | (dsimp only; omega))
  have J14 : own_sc c_ = own_s14 c_ → Goes p e below (Fin_ s (Qrm2 Z c_ h0 n0) ({ frames := 0, cells := 0, slots := 0, locals := 0 } : Room).cells ({ frames := 0, cells := 0, slots := 0, locals := 0 } : Room).slots) (s₁.setTop (mkF m 14 #[vi c_] [])) := by
    intro hj
    refine gILN X0 hx hby d2_14 rfl ?_
    refine gBI (z := 65) X0 hx hby d2_15 rfl ?_
    by_cases hc17 : c_ < (65 : Int32)
    · skip
      refine Goes.via (fun _ kk_ => XS.icmpYes X0.here hx rfl (pc0 := 17) (pc' := 28) rfl (hb hby d2_17) rfl (tlt hc17).1 (by decide) (by decide) kk_) ?_
      show Goes p e below _ (s₁.setTop (mkF m 28 #[vi c_] []))
      exact J28 (hj.trans (by rw [own_s14, if_pos hc17]))
    · skip
      refine Goes.via (fun _ kk_ => XS.icmpNo X0.here hx rfl (hb hby d2_17) rfl (flt hc17).1 kk_) ?_
      show Goes p e below _ (s₁.setTop (mkF m 20 #[vi c_] []))
      refine gILN X0 hx hby d2_20 rfl ?_
      refine gBI (z := 90) X0 hx hby d2_21 rfl ?_
      by_cases hc23 : (90 : Int32) < c_
      · skip
        refine Goes.via (fun _ kk_ => XS.icmpYes X0.here hx rfl (pc0 := 23) (pc' := 28) rfl (hb hby d2_23) rfl (tlt hc23).2.2.1 (by decide) (by decide) kk_) ?_
        show Goes p e below _ (s₁.setTop (mkF m 28 #[vi c_] []))
        exact J28 (hj.trans (by rw [own_s14, if_neg hc17, if_pos hc23]))
      · skip
        refine Goes.via (fun _ kk_ => XS.icmpNo X0.here hx rfl (hb hby d2_23) rfl (flt hc23).2.2.1 kk_) ?_
        show Goes p e below _ (s₁.setTop (mkF m 26 #[vi c_] []))
        refine gIC (z := 1) X0 hx hby d2_26 rfl ?_
        exact own_finN X0 hx hlk hret (by simp) (hb hby d2_27) (by rw [e0]; exact ⟨(by rw [hj, own_s14, if_neg hc17, if_neg hc23]; rfl), rfl, rfl⟩) (by first | decide | omega | (dsimp only; omega)) (by first | decide | omega | (dsimp only; omega))
  refine gILN X0 hx hby d2_0 rfl ?_
  refine gBI (z := 97) X0 hx hby d2_1 rfl ?_
  by_cases hc3 : c_ < (97 : Int32)
  · skip
    refine Goes.via (fun _ kk_ => XS.icmpYes X0.here hx rfl (pc0 := 3) (pc' := 14) rfl (hb hby d2_3) rfl (tlt hc3).1 (by decide) (by decide) kk_) ?_
    show Goes p e below _ (s₁.setTop (mkF m 14 #[vi c_] []))
    exact J14 (by rw [own_sc, if_pos hc3])
  · skip
    refine Goes.via (fun _ kk_ => XS.icmpNo X0.here hx rfl (hb hby d2_3) rfl (flt hc3).1 kk_) ?_
    show Goes p e below _ (s₁.setTop (mkF m 6 #[vi c_] []))
    refine gILN X0 hx hby d2_6 rfl ?_
    refine gBI (z := 122) X0 hx hby d2_7 rfl ?_
    by_cases hc9 : (122 : Int32) < c_
    · skip
      refine Goes.via (fun _ kk_ => XS.icmpYes X0.here hx rfl (pc0 := 9) (pc' := 14) rfl (hb hby d2_9) rfl (tlt hc9).2.2.1 (by decide) (by decide) kk_) ?_
      show Goes p e below _ (s₁.setTop (mkF m 14 #[vi c_] []))
      exact J14 (by rw [own_sc, if_neg hc3, if_pos hc9])
    · skip
      refine Goes.via (fun _ kk_ => XS.icmpNo X0.here hx rfl (hb hby d2_9) rfl (flt hc9).2.2.1 kk_) ?_
      show Goes p e below _ (s₁.setTop (mkF m 12 #[vi c_] []))
      refine gIC (z := 1) X0 hx hby d2_12 rfl ?_
      exact own_finN X0 hx hlk hret (by simp) (hb hby d2_13) (by rw [e0]; exact ⟨(by rw [own_sc, if_neg hc3, if_neg hc9]; rfl), rfl, rfl⟩) (by first | decide | omega | (dsimp only; omega)) (by first | decide | omega | (dsimp only; omega))
def own_dig (c_ : Int32) : Int32 := (if c_ < (48 : Int32) then (0 : Int32) else (if (57 : Int32) < c_ then (0 : Int32) else (1 : Int32)))
theorem ef_rm18 (m : MethodId) (c_ : Int32) : entryFrame m #[(.int c_)] 1 = mkF m 0 #[.val (.int c_)] [] := by first | (simp [entryFrame, mkF, argsToLocals, Value.category]; done) | rfl
def Qrm18 (Z : State) (c_ : Int32) (h0 : Heap) (n0 : Nat) (v_ : Option Value) (h_ : Heap) (L_ : List Loc) : Prop := v_ = some (.int (own_dig c_)) ∧ L_ = [] ∧ h_ = h0
theorem pn_com_example_map_rewriter_maprewriter_core_Symbol : plainName "com/example/map_rewriter/maprewriter/core/Symbol" = true := by first | (simp [plainName, overriddenIn]; done) | decide +kernel
theorem d18_0 : decode prog_35_method_6_code 0 = .ok (.iload_n 0, 1) := by decide +kernel
theorem d18_1 : decode prog_35_method_6_code 1 = .ok (.bipush 48, 2) := by decide +kernel
theorem d18_3 : decode prog_35_method_6_code 3 = .ok (.if_icmp .lt 13, 3) := by decide +kernel
theorem d18_16 : decode prog_35_method_6_code 16 = .ok (.iconst 0, 1) := by decide +kernel
theorem d18_17 : decode prog_35_method_6_code 17 = .ok (.ireturn, 1) := by decide +kernel
theorem d18_6 : decode prog_35_method_6_code 6 = .ok (.iload_n 0, 1) := by decide +kernel
theorem d18_7 : decode prog_35_method_6_code 7 = .ok (.bipush 57, 2) := by decide +kernel
theorem d18_9 : decode prog_35_method_6_code 9 = .ok (.if_icmp .gt 7, 3) := by decide +kernel
theorem d18_12 : decode prog_35_method_6_code 12 = .ok (.iconst 1, 1) := by decide +kernel
theorem d18_13 : decode prog_35_method_6_code 13 = .ok (.goto 4, 3) := by decide +kernel
set_option maxRecDepth 65536 in
set_option maxHeartbeats 40000000 in
theorem rm18 (l : Launch) (Z : State) (a0 : Array Value) (hw : ∀ d ∈ tables_1, d.before a0 Z = true) (ws : List Jvm.Cond) (c_ : Int32) (h0 : Heap) (n0 : Nat) (Z0 : n0 ≤ h0.size) :
    MetFree l (⟨"com/example/map_rewriter/maprewriter/core/Symbol", "isDigit", "(I)Z"⟩ : MethodName) (head1 (Jvm.Cond.code (⟨"com/example/map_rewriter/maprewriter/core/Symbol", "isDigit", "(I)Z"⟩ : MethodName) prog_35_method_6_code 1 (some .boolean) :: ws) ({ frames := 0, cells := 0, slots := 0, locals := 0 } : Room)) (fun as_ U_ => as_ = #[(.int c_)] ∧ Z.Warmed39 U_.vm ∧ U_.heap = h0) (fun _ _ _ _ _ => True) (fun _ U_ o_ V_ => ∃ v_ L_, o_ = .returned v_ ∧ Qrm18 Z c_ h0 n0 v_ V_.heap L_ ∧ FrameEnd U_ o_ V_ L_ ({ frames := 0, cells := 0, slots := 0, locals := 0 } : Room).cells ({ frames := 0, cells := 0, slots := 0, locals := 0 } : Room).slots) := by
  refine MetFree.of_bodySF (plainFor_of_name pn_com_example_map_rewriter_maprewriter_core_Symbol) hisR ?_
  intro p e s m args below meth c s₁ Bd hml0 hP hK
  obtain ⟨rfl, hZ, hh⟩ := hP
  have hx := Bd.exec
  have hby := Bd.bytes
  have hlk : meth.locks = false := BodyLoose.notSynchronized Bd
  have hret := Bd.returns
  have hml : c.maxLocals = 1 := hml0
  have hown : s.vm.findClass "com/example/map_rewriter/maprewriter/core/Symbol" = some m.cls := findClass_of_methodNamed Bd.named
  have hnm := (name_of_methodNamed Bd.named Bd.method).1
  have X0 : Stand p l e ({ frames := 0, cells := 0, slots := 0, locals := 0 } : Room) s m #[(.int c_)] below meth c s₁ [] 0 0 := Stand.of_body Bd
  have e0 : s₁.heap = h0 := by rw [← hh, Bd.state]; rfl
  have N0 := Fr.nil n0
  show Goes p e below (Fin_ s (Qrm18 Z c_ h0 n0) ({ frames := 0, cells := 0, slots := 0, locals := 0 } : Room).cells ({ frames := 0, cells := 0, slots := 0, locals := 0 } : Room).slots) (s₁.setTop (entryFrame m #[(.int c_)] 1))
  rw [ef_rm18 m c_]
  refine gILN X0 hx hby d18_0 rfl ?_
  refine gBI (z := 48) X0 hx hby d18_1 rfl ?_
  by_cases hc3 : c_ < (48 : Int32)
  · skip
    refine Goes.via (fun _ kk_ => XS.icmpYes X0.here hx rfl (pc0 := 3) (pc' := 16) rfl (hb hby d18_3) rfl (tlt hc3).1 (by decide) (by decide) kk_) ?_
    show Goes p e below _ (s₁.setTop (mkF m 16 #[vi c_] []))
    refine gIC (z := 0) X0 hx hby d18_16 rfl ?_
    exact own_finN X0 hx hlk hret (by simp) (hb hby d18_17) (by rw [e0]; exact ⟨(by rw [own_dig, if_pos hc3]; first | done | rfl | exact own_nc _), rfl, rfl⟩) (by first | decide | omega | (dsimp only; omega)) (by first | decide | omega | (dsimp only; omega))
  · skip
    refine Goes.via (fun _ kk_ => XS.icmpNo X0.here hx rfl (hb hby d18_3) rfl (flt hc3).1 kk_) ?_
    show Goes p e below _ (s₁.setTop (mkF m 6 #[vi c_] []))
    refine gILN X0 hx hby d18_6 rfl ?_
    refine gBI (z := 57) X0 hx hby d18_7 rfl ?_
    by_cases hc9 : (57 : Int32) < c_
    · skip
      refine Goes.via (fun _ kk_ => XS.icmpYes X0.here hx rfl (pc0 := 9) (pc' := 16) rfl (hb hby d18_9) rfl (tlt hc9).2.2.1 (by decide) (by decide) kk_) ?_
      show Goes p e below _ (s₁.setTop (mkF m 16 #[vi c_] []))
      refine gIC (z := 0) X0 hx hby d18_16 rfl ?_
      exact own_finN X0 hx hlk hret (by simp) (hb hby d18_17) (by rw [e0]; exact ⟨(by rw [own_dig, if_neg hc3, if_pos hc9]; first | done | rfl | exact own_nc _), rfl, rfl⟩) (by first | decide | omega | (dsimp only; omega)) (by first | decide | omega | (dsimp only; omega))
    · skip
      refine Goes.via (fun _ kk_ => XS.icmpNo X0.here hx rfl (hb hby d18_9) rfl (flt hc9).2.2.1 kk_) ?_
      show Goes p e below _ (s₁.setTop (mkF m 12 #[vi c_] []))
      refine gIC (z := 1) X0 hx hby d18_12 rfl ?_
      refine Goes.via (fun _ kk_ => XS.goto X0.here hx rfl (pc0 := 13) (pc' := 17) rfl (hb hby d18_13) (by decide) (by decide) kk_) ?_
      show Goes p e below _ (s₁.setTop (mkF m 17 #[vi c_] [(.int (1 : Int32))]))
      exact own_finN X0 hx hlk hret (by simp) (hb hby d18_17) (by rw [e0]; exact ⟨(by rw [own_dig, if_neg hc3, if_neg hc9]; first | done | rfl | exact own_nc _), rfl, rfl⟩) (by first | decide | omega | (dsimp only; omega)) (by first | decide | omega | (dsimp only; omega))
def own_fit (r_ : Int32) (p_ : Int32) (q_ : Int32) : Int32 := (if q_ = (0 : Int32) then (if (own_sc ((r_ &&& (255 : Int32)).toUInt32.toUInt16.toUInt32.toInt32)) = (0 : Int32) then (97 : Int32) else (if p_ = (0 : Int32) then (if ((r_ &&& (255 : Int32)).toUInt32.toUInt16.toUInt32.toInt32) < (48 : Int32) then ((r_ &&& (255 : Int32)).toUInt32.toUInt16.toUInt32.toInt32) else (if (57 : Int32) < ((r_ &&& (255 : Int32)).toUInt32.toUInt16.toUInt32.toInt32) then ((r_ &&& (255 : Int32)).toUInt32.toUInt16.toUInt32.toInt32) else (98 : Int32))) else ((r_ &&& (255 : Int32)).toUInt32.toUInt16.toUInt32.toInt32))) else (if ((r_ &&& (255 : Int32)).toUInt32.toUInt16.toUInt32.toInt32) = (124 : Int32) then (113 : Int32) else (if ((r_ &&& (255 : Int32)).toUInt32.toUInt16.toUInt32.toInt32) = (92 : Int32) then (113 : Int32) else ((r_ &&& (255 : Int32)).toUInt32.toUInt16.toUInt32.toInt32))))
theorem ef_rm1 (m : MethodId) (r_ : Int32) (p_ : Int32) (q_ : Int32) : entryFrame m #[(.int r_), (.int p_), (.int q_)] 4 = mkF m 0 #[.val (.int r_), .val (.int p_), .val (.int q_), .unset] [] := by first | (simp [entryFrame, mkF, argsToLocals, Value.category]; done) | rfl
def Qrm1 (Z : State) (r_ : Int32) (p_ : Int32) (q_ : Int32) (h0 : Heap) (n0 : Nat) (v_ : Option Value) (h_ : Heap) (L_ : List Loc) : Prop := v_ = some (.int (own_fit r_ p_ q_)) ∧ L_ = [] ∧ h_ = h0
theorem d1_0 : decode method_3_code 0 = .ok (.iload_n 0, 1) := by decide +kernel
theorem d1_1 : decode method_3_code 1 = .ok (.sipush 255, 3) := by decide +kernel
theorem d1_4 : decode method_3_code 4 = .ok (.iand, 1) := by decide +kernel
theorem d1_5 : decode method_3_code 5 = .ok (.i2c, 1) := by decide +kernel
theorem d1_6 : decode method_3_code 6 = .ok (.istore_n 3, 1) := by decide +kernel
theorem d1_7 : decode method_3_code 7 = .ok (.iload_n 2, 1) := by decide +kernel
theorem d1_8 : decode method_3_code 8 = .ok (.ifCond .eq 20, 3) := by decide +kernel
theorem d1_28 : decode method_3_code 28 = .ok (.iload_n 3, 1) := by decide +kernel
theorem pd_10 : parseMethodDescriptor "(C)Z" = some ⟨[.char], some .boolean⟩ := by decide +kernel
theorem d1_29 : decode method_3_code 29 = .ok (.invokestatic 27, 3) := by decide +kernel
theorem d1_32 : decode method_3_code 32 = .ok (.ifCond .ne 6, 3) := by decide +kernel
theorem d1_35 : decode method_3_code 35 = .ok (.bipush 97, 2) := by decide +kernel
theorem d1_37 : decode method_3_code 37 = .ok (.ireturn, 1) := by decide +kernel
theorem d1_38 : decode method_3_code 38 = .ok (.iload_n 1, 1) := by decide +kernel
theorem d1_39 : decode method_3_code 39 = .ok (.ifCond .ne 18, 3) := by decide +kernel
theorem d1_42 : decode method_3_code 42 = .ok (.iload_n 3, 1) := by decide +kernel
theorem d1_43 : decode method_3_code 43 = .ok (.bipush 48, 2) := by decide +kernel
theorem d1_45 : decode method_3_code 45 = .ok (.if_icmp .lt 12, 3) := by decide +kernel
theorem d1_57 : decode method_3_code 57 = .ok (.iload_n 3, 1) := by decide +kernel
theorem d1_58 : decode method_3_code 58 = .ok (.ireturn, 1) := by decide +kernel
theorem d1_48 : decode method_3_code 48 = .ok (.iload_n 3, 1) := by decide +kernel
theorem d1_49 : decode method_3_code 49 = .ok (.bipush 57, 2) := by decide +kernel
theorem d1_51 : decode method_3_code 51 = .ok (.if_icmp .gt 6, 3) := by decide +kernel
theorem d1_54 : decode method_3_code 54 = .ok (.bipush 98, 2) := by decide +kernel
theorem d1_56 : decode method_3_code 56 = .ok (.ireturn, 1) := by decide +kernel
theorem d1_11 : decode method_3_code 11 = .ok (.iload_n 3, 1) := by decide +kernel
theorem d1_12 : decode method_3_code 12 = .ok (.bipush 124, 2) := by decide +kernel
theorem d1_14 : decode method_3_code 14 = .ok (.if_icmp .eq 9, 3) := by decide +kernel
theorem d1_23 : decode method_3_code 23 = .ok (.bipush 113, 2) := by decide +kernel
theorem d1_25 : decode method_3_code 25 = .ok (.ireturn, 1) := by decide +kernel
theorem d1_17 : decode method_3_code 17 = .ok (.iload_n 3, 1) := by decide +kernel
theorem d1_18 : decode method_3_code 18 = .ok (.bipush 92, 2) := by decide +kernel
theorem d1_20 : decode method_3_code 20 = .ok (.if_icmp .ne 6, 3) := by decide +kernel
theorem d1_26 : decode method_3_code 26 = .ok (.iload_n 3, 1) := by decide +kernel
theorem d1_27 : decode method_3_code 27 = .ok (.ireturn, 1) := by decide +kernel
set_option maxRecDepth 65536 in
set_option maxHeartbeats 40000000 in
theorem rm1 (l : Launch) (Z : State) (a0 : Array Value) (hw : ∀ d ∈ tables_1, d.before a0 Z = true) (ws : List Jvm.Cond) (r_ : Int32) (p_ : Int32) (q_ : Int32) (h0 : Heap) (n0 : Nat) (Z0 : n0 ≤ h0.size) :
    MetFree l (⟨"com/example/map_rewriter/maprewriter/core/SymbolEqualsPinLaw", "fit", "(IIZ)C"⟩ : MethodName) (head1 (Jvm.Cond.code (⟨"com/example/map_rewriter/maprewriter/core/SymbolEqualsPinLaw", "fit", "(IIZ)C"⟩ : MethodName) method_3_code 4 (some .char) :: ws) ({ frames := 1, cells := 0, slots := 0, locals := 12 } : Room)) (fun as_ U_ => as_ = #[(.int r_), (.int p_), (.int q_)] ∧ Z.Warmed39 U_.vm ∧ U_.heap = h0) (fun _ _ _ _ _ => True) (fun _ U_ o_ V_ => ∃ v_ L_, o_ = .returned v_ ∧ Qrm1 Z r_ p_ q_ h0 n0 v_ V_.heap L_ ∧ FrameEnd U_ o_ V_ L_ ({ frames := 1, cells := 0, slots := 0, locals := 12 } : Room).cells ({ frames := 1, cells := 0, slots := 0, locals := 12 } : Room).slots) := by
  refine MetFree.of_bodySF (plainFor_of_name pn_com_example_map_rewriter_maprewriter_core_SymbolEqualsPinLaw) hisR ?_
  intro p e s m args below meth c s₁ Bd hml0 hP hK
  obtain ⟨rfl, hZ, hh⟩ := hP
  have hx := Bd.exec
  have hby := Bd.bytes
  have hlk : meth.locks = false := BodyLoose.notSynchronized Bd
  have hret := Bd.returns
  have hml : c.maxLocals = 4 := hml0
  have hown : s.vm.findClass "com/example/map_rewriter/maprewriter/core/SymbolEqualsPinLaw" = some m.cls := findClass_of_methodNamed Bd.named
  have hnm := (name_of_methodNamed Bd.named Bd.method).1
  have X0 : Stand p l e ({ frames := 1, cells := 0, slots := 0, locals := 12 } : Room) s m #[(.int r_), (.int p_), (.int q_)] below meth c s₁ [] 0 0 := Stand.of_body Bd
  have e0 : s₁.heap = h0 := by rw [← hh, Bd.state]; rfl
  have N0 := Fr.nil n0
  show Goes p e below (Fin_ s (Qrm1 Z r_ p_ q_ h0 n0) ({ frames := 1, cells := 0, slots := 0, locals := 12 } : Room).cells ({ frames := 1, cells := 0, slots := 0, locals := 12 } : Room).slots) (s₁.setTop (entryFrame m #[(.int r_), (.int p_), (.int q_)] 4))
  rw [ef_rm1 m r_ p_ q_]
  refine gILN X0 hx hby d1_0 rfl ?_
  refine gSI (z := 255) X0 hx hby d1_1 rfl ?_
  refine Goes.via (fun _ kk_ => XS.iand X0.here hx rfl (hb hby d1_4) rfl kk_) ?_
  show Goes p e below _ (s₁.setTop (mkF m 5 #[vi r_, vi p_, vi q_, .unset] [(.int (r_ &&& (255 : Int32)))]))
  refine Goes.via (fun _ kk_ => XS.i2c X0.here hx rfl (hb hby d1_5) rfl kk_) ?_
  show Goes p e below _ (s₁.setTop (mkF m 6 #[vi r_, vi p_, vi q_, .unset] [(.int ((r_ &&& (255 : Int32)).toUInt32.toUInt16.toUInt32.toInt32))]))
  refine Goes.via (fun _ kk_ => XS.istoreN X0.here hx rfl (hb hby d1_6) rfl (l' := #[vi r_, vi p_, vi q_, vi ((r_ &&& (255 : Int32)).toUInt32.toUInt16.toUInt32.toInt32)]) rfl kk_) ?_
  show Goes p e below _ (s₁.setTop (mkF m 7 #[vi r_, vi p_, vi q_, vi ((r_ &&& (255 : Int32)).toUInt32.toUInt16.toUInt32.toInt32)] []))
  refine gILN X0 hx hby d1_7 rfl ?_
  by_cases hc8 : q_ = (0 : Int32)
  · skip
    refine Goes.via (fun _ kk_ => XS.ifYes X0.here hx rfl (pc0 := 8) (pc' := 28) rfl (hb hby d1_8) rfl ((if0 _ _).trans (teq hc8).1) (by decide) (by decide) kk_) ?_
    show Goes p e below _ (s₁.setTop (mkF m 28 #[vi r_, vi p_, vi q_, vi ((r_ &&& (255 : Int32)).toUInt32.toUInt16.toUInt32.toInt32)] []))
    refine gILN X0 hx hby d1_28 rfl ?_
    obtain ⟨_, _, ⟨T1, L1, k1, n1⟩, -, X1, ⟨Lc1, hQ1, l1, y1, z1⟩, st1⟩ := Jvm.LawKit.callS X0 hx (y := (⟨"com/example/map_rewriter/maprewriter/core/SymbolEqualsPinLaw", "symbolChar", "(C)Z"⟩ : MethodName)) hown (mvT hZ (own_w hw 4 rfl)) (mvT hZ (own_w hw 5 rfl)) (mvT hZ (own_w hw 2 rfl)) (mvT hZ (own_w hw 6 rfl)) (by decide) (backOf (W := 0) (rm2 l Z a0 hw [] ((r_ &&& (255 : Int32)).toUInt32.toUInt16.toUInt32.toInt32) h0 n0 (Nat.le_trans Z0 (Nat.le_refl _)) ) hZ (own_w hw 6 rfl) (own_w hw 2 rfl) (by decide) (by decide)) (g := (mkF m 29 #[vi r_, vi p_, vi q_, vi ((r_ &&& (255 : Int32)).toUInt32.toUInt16.toUInt32.toInt32)] [(.int ((r_ &&& (255 : Int32)).toUInt32.toUInt16.toUInt32.toInt32))])) rfl (by rw [hml]; rfl) (argsL := [(.int ((r_ &&& (255 : Int32)).toUInt32.toUInt16.toUInt32.toInt32))]) (rest := []) (lenOf pd_10 rfl) rfl (by show 2 * 0 + _ ≤ _; exact Nat.le_of_eq rfl) (hb hby d1_29) (fun _ _ => ⟨rfl, e0, (by decide : 0 + 0 ≤ _), (by decide : 0 + 0 ≤ _)⟩)
    dsimp only [Pt.U, Pt.locs, Pt.cells, Pt.slots] at X1 l1 y1 z1 st1 hQ1
    subst l1 y1 z1
    obtain ⟨rfl, rfl, e1⟩ := hQ1
    first | rw [List.append_nil] at X1 | skip
    refine Goes.via st1 ?_
    have e1' : T1.heap = h0 := e1
    show Goes p e below _ (T1.setTop (mkF m 32 #[vi r_, vi p_, vi q_, vi ((r_ &&& (255 : Int32)).toUInt32.toUInt16.toUInt32.toInt32)] [(.int (own_sc ((r_ &&& (255 : Int32)).toUInt32.toUInt16.toUInt32.toInt32)))]))
    by_cases hc32 : (own_sc ((r_ &&& (255 : Int32)).toUInt32.toUInt16.toUInt32.toInt32)) = (0 : Int32)
    · skip
      refine Goes.via (fun _ kk_ => XS.ifNo X1.here hx rfl (hb hby d1_32) rfl ((if0 _ _).trans (teq hc32).2) kk_) ?_
      show Goes p e below _ (T1.setTop (mkF m 35 #[vi r_, vi p_, vi q_, vi ((r_ &&& (255 : Int32)).toUInt32.toUInt16.toUInt32.toInt32)] []))
      refine gBI (z := 97) X1 hx hby d1_35 rfl ?_
      exact own_finN X1 hx hlk hret (by simp) (hb hby d1_37) (by rw [e1']; exact ⟨(by rw [own_fit, if_pos hc8, if_pos hc32]; first | done | rfl | exact own_nc _), rfl, rfl⟩) (by first | decide | omega | (dsimp only; omega)) (by first | decide | omega | (dsimp only; omega))
    · skip
      refine Goes.via (fun _ kk_ => XS.ifYes X1.here hx rfl (pc0 := 32) (pc' := 38) rfl (hb hby d1_32) rfl ((if0 _ _).trans (feq hc32).2) (by decide) (by decide) kk_) ?_
      show Goes p e below _ (T1.setTop (mkF m 38 #[vi r_, vi p_, vi q_, vi ((r_ &&& (255 : Int32)).toUInt32.toUInt16.toUInt32.toInt32)] []))
      refine gILN X1 hx hby d1_38 rfl ?_
      by_cases hc39 : p_ = (0 : Int32)
      · skip
        refine Goes.via (fun _ kk_ => XS.ifNo X1.here hx rfl (hb hby d1_39) rfl ((if0 _ _).trans (teq hc39).2) kk_) ?_
        show Goes p e below _ (T1.setTop (mkF m 42 #[vi r_, vi p_, vi q_, vi ((r_ &&& (255 : Int32)).toUInt32.toUInt16.toUInt32.toInt32)] []))
        refine gILN X1 hx hby d1_42 rfl ?_
        refine gBI (z := 48) X1 hx hby d1_43 rfl ?_
        by_cases hc45 : ((r_ &&& (255 : Int32)).toUInt32.toUInt16.toUInt32.toInt32) < (48 : Int32)
        · skip
          refine Goes.via (fun _ kk_ => XS.icmpYes X1.here hx rfl (pc0 := 45) (pc' := 57) rfl (hb hby d1_45) rfl (tlt hc45).1 (by decide) (by decide) kk_) ?_
          show Goes p e below _ (T1.setTop (mkF m 57 #[vi r_, vi p_, vi q_, vi ((r_ &&& (255 : Int32)).toUInt32.toUInt16.toUInt32.toInt32)] []))
          refine gILN X1 hx hby d1_57 rfl ?_
          exact own_finN X1 hx hlk hret (by simp) (hb hby d1_58) (by rw [e1']; exact ⟨(by rw [own_fit, if_pos hc8, if_neg hc32, if_pos hc39, if_pos hc45]; first | done | rfl | exact own_nc _), rfl, rfl⟩) (by first | decide | omega | (dsimp only; omega)) (by first | decide | omega | (dsimp only; omega))
        · skip
          refine Goes.via (fun _ kk_ => XS.icmpNo X1.here hx rfl (hb hby d1_45) rfl (flt hc45).1 kk_) ?_
          show Goes p e below _ (T1.setTop (mkF m 48 #[vi r_, vi p_, vi q_, vi ((r_ &&& (255 : Int32)).toUInt32.toUInt16.toUInt32.toInt32)] []))
          refine gILN X1 hx hby d1_48 rfl ?_
          refine gBI (z := 57) X1 hx hby d1_49 rfl ?_
          by_cases hc51 : (57 : Int32) < ((r_ &&& (255 : Int32)).toUInt32.toUInt16.toUInt32.toInt32)
          · skip
            refine Goes.via (fun _ kk_ => XS.icmpYes X1.here hx rfl (pc0 := 51) (pc' := 57) rfl (hb hby d1_51) rfl (tlt hc51).2.2.1 (by decide) (by decide) kk_) ?_
            show Goes p e below _ (T1.setTop (mkF m 57 #[vi r_, vi p_, vi q_, vi ((r_ &&& (255 : Int32)).toUInt32.toUInt16.toUInt32.toInt32)] []))
            refine gILN X1 hx hby d1_57 rfl ?_
            exact own_finN X1 hx hlk hret (by simp) (hb hby d1_58) (by rw [e1']; exact ⟨(by rw [own_fit, if_pos hc8, if_neg hc32, if_pos hc39, if_neg hc45, if_pos hc51]; first | done | rfl | exact own_nc _), rfl, rfl⟩) (by first | decide | omega | (dsimp only; omega)) (by first | decide | omega | (dsimp only; omega))
          · skip
            refine Goes.via (fun _ kk_ => XS.icmpNo X1.here hx rfl (hb hby d1_51) rfl (flt hc51).2.2.1 kk_) ?_
            show Goes p e below _ (T1.setTop (mkF m 54 #[vi r_, vi p_, vi q_, vi ((r_ &&& (255 : Int32)).toUInt32.toUInt16.toUInt32.toInt32)] []))
            refine gBI (z := 98) X1 hx hby d1_54 rfl ?_
            exact own_finN X1 hx hlk hret (by simp) (hb hby d1_56) (by rw [e1']; exact ⟨(by rw [own_fit, if_pos hc8, if_neg hc32, if_pos hc39, if_neg hc45, if_neg hc51]; first | done | rfl | exact own_nc _), rfl, rfl⟩) (by first | decide | omega | (dsimp only; omega)) (by first | decide | omega | (dsimp only; omega))
      · skip
        refine Goes.via (fun _ kk_ => XS.ifYes X1.here hx rfl (pc0 := 39) (pc' := 57) rfl (hb hby d1_39) rfl ((if0 _ _).trans (feq hc39).2) (by decide) (by decide) kk_) ?_
        show Goes p e below _ (T1.setTop (mkF m 57 #[vi r_, vi p_, vi q_, vi ((r_ &&& (255 : Int32)).toUInt32.toUInt16.toUInt32.toInt32)] []))
        refine gILN X1 hx hby d1_57 rfl ?_
        exact own_finN X1 hx hlk hret (by simp) (hb hby d1_58) (by rw [e1']; exact ⟨(by rw [own_fit, if_pos hc8, if_neg hc32, if_neg hc39]; first | done | rfl | exact own_nc _), rfl, rfl⟩) (by first | decide | omega | (dsimp only; omega)) (by first | decide | omega | (dsimp only; omega))
  · skip
    refine Goes.via (fun _ kk_ => XS.ifNo X0.here hx rfl (hb hby d1_8) rfl ((if0 _ _).trans (feq hc8).1) kk_) ?_
    show Goes p e below _ (s₁.setTop (mkF m 11 #[vi r_, vi p_, vi q_, vi ((r_ &&& (255 : Int32)).toUInt32.toUInt16.toUInt32.toInt32)] []))
    refine gILN X0 hx hby d1_11 rfl ?_
    refine gBI (z := 124) X0 hx hby d1_12 rfl ?_
    by_cases hc14 : ((r_ &&& (255 : Int32)).toUInt32.toUInt16.toUInt32.toInt32) = (124 : Int32)
    · skip
      refine Goes.via (fun _ kk_ => XS.icmpYes X0.here hx rfl (pc0 := 14) (pc' := 23) rfl (hb hby d1_14) rfl (teq hc14).1 (by decide) (by decide) kk_) ?_
      show Goes p e below _ (s₁.setTop (mkF m 23 #[vi r_, vi p_, vi q_, vi ((r_ &&& (255 : Int32)).toUInt32.toUInt16.toUInt32.toInt32)] []))
      refine gBI (z := 113) X0 hx hby d1_23 rfl ?_
      exact own_finN X0 hx hlk hret (by simp) (hb hby d1_25) (by rw [e0]; exact ⟨(by rw [own_fit, if_neg hc8, if_pos hc14]; first | done | rfl | exact own_nc _), rfl, rfl⟩) (by first | decide | omega | (dsimp only; omega)) (by first | decide | omega | (dsimp only; omega))
    · skip
      refine Goes.via (fun _ kk_ => XS.icmpNo X0.here hx rfl (hb hby d1_14) rfl (feq hc14).1 kk_) ?_
      show Goes p e below _ (s₁.setTop (mkF m 17 #[vi r_, vi p_, vi q_, vi ((r_ &&& (255 : Int32)).toUInt32.toUInt16.toUInt32.toInt32)] []))
      refine gILN X0 hx hby d1_17 rfl ?_
      refine gBI (z := 92) X0 hx hby d1_18 rfl ?_
      by_cases hc20 : ((r_ &&& (255 : Int32)).toUInt32.toUInt16.toUInt32.toInt32) = (92 : Int32)
      · skip
        refine Goes.via (fun _ kk_ => XS.icmpNo X0.here hx rfl (hb hby d1_20) rfl (teq hc20).2 kk_) ?_
        show Goes p e below _ (s₁.setTop (mkF m 23 #[vi r_, vi p_, vi q_, vi ((r_ &&& (255 : Int32)).toUInt32.toUInt16.toUInt32.toInt32)] []))
        refine gBI (z := 113) X0 hx hby d1_23 rfl ?_
        exact own_finN X0 hx hlk hret (by simp) (hb hby d1_25) (by rw [e0]; exact ⟨(by rw [own_fit, if_neg hc8, if_neg hc14, if_pos hc20]; first | done | rfl | exact own_nc _), rfl, rfl⟩) (by first | decide | omega | (dsimp only; omega)) (by first | decide | omega | (dsimp only; omega))
      · skip
        refine Goes.via (fun _ kk_ => XS.icmpYes X0.here hx rfl (pc0 := 20) (pc' := 26) rfl (hb hby d1_20) rfl (feq hc20).2 (by decide) (by decide) kk_) ?_
        show Goes p e below _ (s₁.setTop (mkF m 26 #[vi r_, vi p_, vi q_, vi ((r_ &&& (255 : Int32)).toUInt32.toUInt16.toUInt32.toInt32)] []))
        refine gILN X0 hx hby d1_26 rfl ?_
        exact own_finN X0 hx hlk hret (by simp) (hb hby d1_27) (by rw [e0]; exact ⟨(by rw [own_fit, if_neg hc8, if_neg hc14, if_neg hc20]; first | done | rfl | exact own_nc _), rfl, rfl⟩) (by first | decide | omega | (dsimp only; omega)) (by first | decide | omega | (dsimp only; omega))
def own_gK : Nat → Int32 := fun i => ([(126 : Int32), (33 : Int32), (64 : Int32), (36 : Int32), (37 : Int32), (94 : Int32), (38 : Int32), (42 : Int32), (95 : Int32), (45 : Int32), (43 : Int32), (61 : Int32), (60 : Int32), (62 : Int32), (46 : Int32), (63 : Int32), (47 : Int32)] : List Int32).getD i 0
def own_isc (c_ : Int32) : Int32 := if c_ < (97 : Int32) then (if c_ < (65 : Int32) then (if own_dig c_ = (0 : Int32) then (if own_find own_gK c_.toInt8.toInt32 17 0 (0 : Int32) < (0 : Int32) then (0 : Int32) else (1 : Int32)) else (1 : Int32)) else if (90 : Int32) < c_ then (if own_dig c_ = (0 : Int32) then (if own_find own_gK c_.toInt8.toInt32 17 0 (0 : Int32) < (0 : Int32) then (0 : Int32) else (1 : Int32)) else (1 : Int32)) else (1 : Int32))
  else if (122 : Int32) < c_ then (if c_ < (65 : Int32) then (if own_dig c_ = (0 : Int32) then (if own_find own_gK c_.toInt8.toInt32 17 0 (0 : Int32) < (0 : Int32) then (0 : Int32) else (1 : Int32)) else (1 : Int32)) else if (90 : Int32) < c_ then (if own_dig c_ = (0 : Int32) then (if own_find own_gK c_.toInt8.toInt32 17 0 (0 : Int32) < (0 : Int32) then (0 : Int32) else (1 : Int32)) else (1 : Int32)) else (1 : Int32)) else (1 : Int32)
def own_okS (N : Nat) (g : Nat → Int32) : Prop := 1 ≤ N ∧ N ≤ 2 ∧ own_dig (g 0 &&& (255 : Int32)) = (0 : Int32) ∧ own_isc (g 0 &&& (255 : Int32)) = (1 : Int32) ∧ (N = 2 → own_isc (g 1 &&& (255 : Int32)) = (1 : Int32))
def own_ok (q : Int32) (N : Nat) (g : Nat → Int32) : Prop := (¬ q = (0 : Int32) → own_find g (124 : Int32).toInt8.toInt32 N 0 (0 : Int32) = -1 ∧ own_find g (92 : Int32).toInt8.toInt32 N 0 (0 : Int32) = -1) ∧ (q = (0 : Int32) → own_okS N g)
theorem own_lt17 : ∀ i, i < 17 → ([(.int 126), (.int 33), (.int 64), (.int 36), (.int 37), (.int 94), (.int 38), (.int 42), (.int 95), (.int 45), (.int 43), (.int 61), (.int 60), (.int 62), (.int 46), (.int 63), (.int 47)] : List Value).getD i (.int 0) = .int (own_gK i) := by
  intro i hi
  match i, hi with
  | 0, _ => rfl | 1, _ => rfl | 2, _ => rfl | 3, _ => rfl | 4, _ => rfl | 5, _ => rfl | 6, _ => rfl | 7, _ => rfl | 8, _ => rfl | 9, _ => rfl | 10, _ => rfl | 11, _ => rfl | 12, _ => rfl | 13, _ => rfl | 14, _ => rfl | 15, _ => rfl | 16, _ => rfl | n + 17, h => exact absurd h (by omega)

theorem ef_rm21 (m : MethodId) (c_ : Int32) : entryFrame m #[(.int c_)] 1 = mkF m 0 #[.val (.int c_)] [] := by first | (simp [entryFrame, mkF, argsToLocals, Value.category]; done) | rfl
def Qrm21 (Z : State) (c_ : Int32) (cS : Int32) (h0 : Heap) (n0 : Nat) (v_ : Option Value) (h_ : Heap) (L_ : List Loc) : Prop := v_ = some (.int (own_isc c_)) ∧ Fr n0 L_ ∧ Keep h0 h_ []
theorem d21_0 : decode prog_35_method_5_code 0 = .ok (.iload_n 0, 1) := by decide +kernel
theorem d21_1 : decode prog_35_method_5_code 1 = .ok (.bipush 97, 2) := by decide +kernel
theorem d21_3 : decode prog_35_method_5_code 3 = .ok (.if_icmp .lt 9, 3) := by decide +kernel
theorem d21_12 : decode prog_35_method_5_code 12 = .ok (.iload_n 0, 1) := by decide +kernel
theorem d21_13 : decode prog_35_method_5_code 13 = .ok (.bipush 65, 2) := by decide +kernel
theorem d21_15 : decode prog_35_method_5_code 15 = .ok (.if_icmp .lt 9, 3) := by decide +kernel
theorem d21_24 : decode prog_35_method_5_code 24 = .ok (.iload_n 0, 1) := by decide +kernel
theorem d21_25 : decode prog_35_method_5_code 25 = .ok (.invokestatic 65, 3) := by decide +kernel
theorem d21_28 : decode prog_35_method_5_code 28 = .ok (.ifCond .ne 12, 3) := by decide +kernel
theorem d21_31 : decode prog_35_method_5_code 31 = .ok (.ldc 76, 2) := by decide +kernel
theorem d21_33 : decode prog_35_method_5_code 33 = .ok (.iload_n 0, 1) := by decide +kernel
theorem pd_11 : parseMethodDescriptor "(I)I" = some ⟨[.int], some .int⟩ := by decide +kernel
theorem d21_34 : decode prog_35_method_5_code 34 = .ok (.invokevirtual 15, 3) := by decide +kernel
theorem d21_37 : decode prog_35_method_5_code 37 = .ok (.ifCond .lt 7, 3) := by decide +kernel
theorem d21_44 : decode prog_35_method_5_code 44 = .ok (.iconst 0, 1) := by decide +kernel
theorem d21_45 : decode prog_35_method_5_code 45 = .ok (.ireturn, 1) := by decide +kernel
theorem d21_40 : decode prog_35_method_5_code 40 = .ok (.iconst 1, 1) := by decide +kernel
theorem d21_41 : decode prog_35_method_5_code 41 = .ok (.goto 4, 3) := by decide +kernel
theorem d21_18 : decode prog_35_method_5_code 18 = .ok (.iload_n 0, 1) := by decide +kernel
theorem d21_19 : decode prog_35_method_5_code 19 = .ok (.bipush 90, 2) := by decide +kernel
theorem d21_21 : decode prog_35_method_5_code 21 = .ok (.if_icmp .le 19, 3) := by decide +kernel
theorem d21_6 : decode prog_35_method_5_code 6 = .ok (.iload_n 0, 1) := by decide +kernel
theorem d21_7 : decode prog_35_method_5_code 7 = .ok (.bipush 122, 2) := by decide +kernel
theorem d21_9 : decode prog_35_method_5_code 9 = .ok (.if_icmp .le 31, 3) := by decide +kernel
set_option maxRecDepth 65536 in
set_option maxHeartbeats 40000000 in
theorem rm21 (l : Launch) (Z : State) (a0 : Array Value) (hw : ∀ d ∈ tables_1, d.before a0 Z = true) (ws : List Jvm.Cond) (c_ : Int32) (cS : Int32) (h0 : Heap) (n0 : Nat) (Z0 : n0 ≤ h0.size) (Hc0 : ¬ c_ < (0 : Int32)) (Hc1 : ¬ (255 : Int32) < c_) (S2_java_lang_String_COMPACT_STRINGS_COMPACT_STRINGS : Sta Z h0 "java/lang/String" "COMPACT_STRINGS" "Z" (.int cS)) (H_cs : ¬ cS = (0 : Int32)) (HO : Old Z n0 h0) (HW : Jvm.Lit.compactW.before a0 Z = true) (HC0 : Jvm.Lit.constHeld Z "java/lang/String" 7) (HC1 : Jvm.Lit.constHeld Z "com/example/map_rewriter/maprewriter/core/Symbol" 7) (HC2 : Jvm.Lit.constHeld Z "com/example/map_rewriter/maprewriter/core/Symbol" 76) :
    MetFree l (⟨"com/example/map_rewriter/maprewriter/core/Symbol", "isSymbolCharacter", "(I)Z"⟩ : MethodName) (head1 (Jvm.Cond.code (⟨"com/example/map_rewriter/maprewriter/core/Symbol", "isSymbolCharacter", "(I)Z"⟩ : MethodName) prog_35_method_5_code 1 (some .boolean) :: ws) ({ frames := 4, cells := 2, slots := 72, locals := 59 } : Room)) (fun as_ U_ => as_ = #[(.int c_)] ∧ Z.Warmed39 U_.vm ∧ U_.heap = h0 ∧ KS Z own_KL U_.vm U_.heap) (fun _ _ _ _ _ => True) (fun _ U_ o_ V_ => ∃ v_ L_, o_ = .returned v_ ∧ Qrm21 Z c_ cS h0 n0 v_ V_.heap L_ ∧ KS Z own_KL V_.vm V_.heap ∧ ReturnedEndW U_ o_ V_ L_ ({ frames := 4, cells := 2, slots := 72, locals := 59 } : Room).cells ({ frames := 4, cells := 2, slots := 72, locals := 59 } : Room).slots) := by
  refine MetFree.of_bodySF (plainFor_of_name pn_com_example_map_rewriter_maprewriter_core_Symbol) hisR ?_
  intro p e s m args below meth c s₁ Bd hml0 hP hK
  obtain ⟨rfl, hZ, hh, hKs⟩ := hP
  have hx := Bd.exec
  have hby := Bd.bytes
  have hlk : meth.locks = false := BodyLoose.notSynchronized Bd
  have hret := Bd.returns
  have hml : c.maxLocals = 1 := hml0
  have hown : s.vm.findClass "com/example/map_rewriter/maprewriter/core/Symbol" = some m.cls := findClass_of_methodNamed Bd.named
  have hnm := (name_of_methodNamed Bd.named Bd.method).1
  have X0 : Stand p l e ({ frames := 4, cells := 2, slots := 72, locals := 59 } : Room) (s.setVm s.vm) m #[(.int c_)] below meth c s₁ [] 0 0 := Stand.of_body Bd
  have e0 : s₁.heap = h0 := by rw [← hh, Bd.state]; rfl
  have N0 := Fr.nil n0
  show Goes p e below (Fin_W s (Qrm21 Z c_ cS h0 n0) (fun U_ => KS Z own_KL U_.vm U_.heap) ({ frames := 4, cells := 2, slots := 72, locals := 59 } : Room).cells ({ frames := 4, cells := 2, slots := 72, locals := 59 } : Room).slots) (s₁.setTop (entryFrame m #[(.int c_)] 1))
  rw [ef_rm21 m c_]
  have SI0 : s.Since s.vm 0 := (State.WarmedH.refl s).since 0
  have Ks0 : KS Z own_KL s.vm h0 := hh ▸ hKs
  refine gILN X0 hx hby d21_0 rfl ?_
  refine gBI (z := 97) X0 hx hby d21_1 rfl ?_
  by_cases hc3 : c_ < (97 : Int32)
  · skip
    refine Goes.via (fun _ kk_ => XS.icmpYes X0.here hx rfl (pc0 := 3) (pc' := 12) rfl (hb hby d21_3) rfl (tlt hc3).1 (by decide) (by decide) kk_) ?_
    show Goes p e below _ (s₁.setTop (mkF m 12 #[vi c_] []))
    refine gILN X0 hx hby d21_12 rfl ?_
    refine gBI (z := 65) X0 hx hby d21_13 rfl ?_
    by_cases hc15 : c_ < (65 : Int32)
    · skip
      refine Goes.via (fun _ kk_ => XS.icmpYes X0.here hx rfl (pc0 := 15) (pc' := 24) rfl (hb hby d21_15) rfl (tlt hc15).1 (by decide) (by decide) kk_) ?_
      show Goes p e below _ (s₁.setTop (mkF m 24 #[vi c_] []))
      refine gILN X0 hx hby d21_24 rfl ?_
      obtain ⟨_, _, ⟨T1, L1, k1, n1⟩, -, X1, ⟨Lc1, hQ1, l1, y1, z1⟩, st1⟩ := Jvm.LawKit.callS X0 hx (y := (⟨"com/example/map_rewriter/maprewriter/core/Symbol", "isDigit", "(I)Z"⟩ : MethodName)) hown (mvT hZ (own_w hw 81 rfl)) (mvT hZ (own_w hw 82 rfl)) (mvT hZ (own_w hw 39 rfl)) (mvT hZ (own_w hw 83 rfl)) (by decide) (backOf (W := 0) (rm18 l Z a0 hw [] c_ h0 n0 (Nat.le_trans Z0 (Nat.le_refl _)) ) hZ (own_w hw 83 rfl) (own_w hw 39 rfl) (by decide) (by decide)) (g := (mkF m 25 #[vi c_] [(.int c_)])) rfl (by rw [hml]; rfl) (argsL := [(.int c_)]) (rest := []) (lenOf pd_5 rfl) rfl (by show 2 * 0 + _ ≤ _; exact Nat.le_of_eq rfl) (hb hby d21_25) (fun _ _ => ⟨rfl, e0, (by decide : 0 + 0 ≤ _), (by decide : 0 + 0 ≤ _)⟩)
      dsimp only [Pt.U, Pt.locs, Pt.cells, Pt.slots] at X1 l1 y1 z1 st1 hQ1
      subst l1 y1 z1
      obtain ⟨rfl, rfl, e1⟩ := hQ1
      first | rw [List.append_nil] at X1 | skip
      refine Goes.via st1 ?_
      have e1' : T1.heap = h0 := e1
      show Goes p e below _ (T1.setTop (mkF m 28 #[vi c_] [(.int (own_dig c_))]))
      by_cases hc28 : (own_dig c_) = (0 : Int32)
      · skip
        refine Goes.via (fun _ kk_ => XS.ifNo X1.here hx rfl (hb hby d21_28) rfl ((if0 _ _).trans (teq hc28).2) kk_) ?_
        show Goes p e below _ (T1.setTop (mkF m 31 #[vi c_] []))
        obtain ⟨ka2, T2, h2, vm2, k12, kb2, kc2, X2, e2, E2, SI2, sk2, hZ, hown, kE2, kC2, kV2, kA2, kL2, Ks2, st2⟩ := own_ldcK (KL := own_KL) (z := (17 : Int32)) (vs := [(.int 126), (.int 33), (.int 64), (.int 36), (.int 37), (.int 94), (.int 38), (.int 42), (.int 95), (.int 45), (.int 43), (.int 61), (.int 60), (.int 62), (.int 46), (.int 63), (.int 47)]) X1 hx hZ hown (own_w hw 147 rfl) (fun d hd => hw d ((by decide +kernel : ∀ d ∈ Bundle.stringAtoms, d ∈ tables_1) d hd)) e1' SI0 (Nat.zero_le _) (Fr.nil _) (by rw [hh]; exact HO.2.2) Ks0 (by simp [own_KL]) (by decide +kernel) HC2 HW (by decide +kernel) (by decide) (by decide) (g := (mkF m 31 #[vi c_] [])) rfl (hb hby d21_31) (n := 68) (by decide +kernel) (by decide) (by first | decide | omega | (dsimp only; omega)) (by first | decide | omega | (dsimp only; omega))
        refine Goes.via st2 ?_
        have ne3 : ka2 ≠ kb2 := kE2.neArv kA2 (own_w hw 9 rfl)
        show Goes p e below _ (T2.setTop (mkF m 33 #[vi c_] [(.ref ka2)]))
        have kW : Arw Z h2 kb2 kc2 .byte 17 (fun i => .int (own_gK i)) := Arw.ofArv kA2 (by decide) (fun i hi => own_lt17 i hi)
        refine gILN X2 hx hby d21_33 rfl ?_
        have f4 : Sta Z h2 "java/lang/String" "COMPACT_STRINGS" "Z" (.int cS) := (S2_java_lang_String_COMPACT_STRINGS_COMPACT_STRINGS.ext E2)
        have z6 : h0.size ≤ (h2).size := (Nat.le_trans (Nat.le_refl _) E2.1)
        obtain ⟨cq5, kq5, q5a, q5b, q5c⟩ := isOf hZ e2 kE2
        obtain ⟨_, _, ⟨T5, L5, k5, n5⟩, -, X5, ⟨Lc5, hQ5, l5, y5, z5⟩, st5⟩ := X2.virtualBack hx (y := (⟨"java/lang/String", "indexOf", "(I)I"⟩ : MethodName)) (z := (⟨"java/lang/String", "indexOf", "(I)I"⟩ : MethodName)) hown (mvT hZ (own_w hw 120 rfl)) (mvT hZ (own_w hw 121 rfl)) (notFace_of_selects (args := #[]) (mvT hZ (own_w hw 123 rfl))) (mvT hZ (own_w hw 123 rfl)) (mvT hZ (own_w hw 122 rfl)) (by decide) (backOf (W := 0) (rm25 l Z a0 hw [] ka2 c_ (17 : Int32) cS kb2 kc2 17 own_gK h2 n0 (Nat.le_trans Z0 z6) kE2 kC2 kV2 kW f4 H_cs (by decide) Hc0 Hc1) hZ (own_w hw 124 rfl) (own_w hw 10 rfl) (by decide) (by decide)) q5a q5c (g := (mkF m 34 #[vi c_] [(.int c_), (.ref ka2)])) rfl (by rw [hml]; rfl) (Steps.refl _) (argsL := [(.int c_)]) (rest := []) (lenOf pd_11 rfl) rfl (by show 2 * 0 + _ ≤ _; exact Nat.le_of_eq rfl) (hb hby d21_34) (fun _ _ => ⟨rfl, e2, (by decide : 2 + 0 ≤ _), (by decide : 72 + 0 ≤ _)⟩)
        dsimp only [Pt.U, Pt.locs, Pt.cells, Pt.slots] at X5 l5 y5 z5 st5 hQ5
        subst l5 y5 z5
        obtain ⟨rfl, rfl, e5⟩ := hQ5
        first | rw [List.append_nil] at X5 | skip
        refine Goes.tr st5 ?_
        have e5' : T5.heap = h2 := e5
        show Goes p e below _ (T5.setTop (mkF m 37 #[vi c_] [(.int (own_find own_gK c_.toInt8.toInt32 17 0 (0 : Int32)))]))
        by_cases hc37 : (own_find own_gK c_.toInt8.toInt32 17 0 (0 : Int32)) < (0 : Int32)
        · skip
          refine Goes.via (fun _ kk_ => XS.ifYes X5.here hx rfl (pc0 := 37) (pc' := 44) rfl (hb hby d21_37) rfl ((if0 _ _).trans (tlt hc37).1) (by decide) (by decide) kk_) ?_
          show Goes p e below _ (T5.setTop (mkF m 44 #[vi c_] []))
          refine gIC (z := 0) X5 hx hby d21_44 rfl ?_
          have K7 : Keep h0 h2 [] := ((Keep.refl h0 []).ext E2)
          have hKe : KS Z own_KL T5.vm T5.heap := by rw [e5']; exact Ks2.at_ (s := s) X5.warmed
          exact own_wfinN X5 SI2 (by rw [e5']; exact sk2) (fun U_ hv hh_ => by show KS Z own_KL U_.vm U_.heap; rw [hv, hh_]; exact hKe) hx hlk hret (by simp) (hb hby d21_45) (by rw [e5']; exact ⟨(by rw [own_isc, if_pos hc3, if_pos hc15, if_pos hc28, if_pos hc37]; rfl), N0, K7⟩) (by first | decide | omega | (dsimp only; omega)) (by first | decide | omega | (dsimp only; omega))
        · skip
          refine Goes.via (fun _ kk_ => XS.ifNo X5.here hx rfl (hb hby d21_37) rfl ((if0 _ _).trans (flt hc37).1) kk_) ?_
          show Goes p e below _ (T5.setTop (mkF m 40 #[vi c_] []))
          refine gIC (z := 1) X5 hx hby d21_40 rfl ?_
          refine Goes.via (fun _ kk_ => XS.goto X5.here hx rfl (pc0 := 41) (pc' := 45) rfl (hb hby d21_41) (by decide) (by decide) kk_) ?_
          show Goes p e below _ (T5.setTop (mkF m 45 #[vi c_] [(.int (1 : Int32))]))
          have K8 : Keep h0 h2 [] := ((Keep.refl h0 []).ext E2)
          have hKe : KS Z own_KL T5.vm T5.heap := by rw [e5']; exact Ks2.at_ (s := s) X5.warmed
          exact own_wfinN X5 SI2 (by rw [e5']; exact sk2) (fun U_ hv hh_ => by show KS Z own_KL U_.vm U_.heap; rw [hv, hh_]; exact hKe) hx hlk hret (by simp) (hb hby d21_45) (by rw [e5']; exact ⟨(by rw [own_isc, if_pos hc3, if_pos hc15, if_pos hc28, if_neg hc37]; rfl), N0, K8⟩) (by first | decide | omega | (dsimp only; omega)) (by first | decide | omega | (dsimp only; omega))
      · skip
        refine Goes.via (fun _ kk_ => XS.ifYes X1.here hx rfl (pc0 := 28) (pc' := 40) rfl (hb hby d21_28) rfl ((if0 _ _).trans (feq hc28).2) (by decide) (by decide) kk_) ?_
        show Goes p e below _ (T1.setTop (mkF m 40 #[vi c_] []))
        refine gIC (z := 1) X1 hx hby d21_40 rfl ?_
        refine Goes.via (fun _ kk_ => XS.goto X1.here hx rfl (pc0 := 41) (pc' := 45) rfl (hb hby d21_41) (by decide) (by decide) kk_) ?_
        show Goes p e below _ (T1.setTop (mkF m 45 #[vi c_] [(.int (1 : Int32))]))
        have hKe : KS Z own_KL T1.vm T1.heap := by rw [e1']; exact Ks0.at_ (s := s) X1.warmed
        exact own_wfinN X1 SI0 (by rw [e1']; exact (Nat.zero_le _)) (fun U_ hv hh_ => by show KS Z own_KL U_.vm U_.heap; rw [hv, hh_]; exact hKe) hx hlk hret (by simp) (hb hby d21_45) (by rw [e1']; exact ⟨(by rw [own_isc, if_pos hc3, if_pos hc15, if_neg hc28]; rfl), N0, (Keep.refl h0 [])⟩) (by first | decide | omega | (dsimp only; omega)) (by first | decide | omega | (dsimp only; omega))
    · skip
      refine Goes.via (fun _ kk_ => XS.icmpNo X0.here hx rfl (hb hby d21_15) rfl (flt hc15).1 kk_) ?_
      show Goes p e below _ (s₁.setTop (mkF m 18 #[vi c_] []))
      refine gILN X0 hx hby d21_18 rfl ?_
      refine gBI (z := 90) X0 hx hby d21_19 rfl ?_
      by_cases hc21 : (90 : Int32) < c_
      · skip
        refine Goes.via (fun _ kk_ => XS.icmpNo X0.here hx rfl (hb hby d21_21) rfl (tlt hc21).2.2.2 kk_) ?_
        show Goes p e below _ (s₁.setTop (mkF m 24 #[vi c_] []))
        refine gILN X0 hx hby d21_24 rfl ?_
        obtain ⟨_, _, ⟨T9, L9, k9, n9⟩, -, X9, ⟨Lc9, hQ9, l9, y9, z9⟩, st9⟩ := Jvm.LawKit.callS X0 hx (y := (⟨"com/example/map_rewriter/maprewriter/core/Symbol", "isDigit", "(I)Z"⟩ : MethodName)) hown (mvT hZ (own_w hw 81 rfl)) (mvT hZ (own_w hw 82 rfl)) (mvT hZ (own_w hw 39 rfl)) (mvT hZ (own_w hw 83 rfl)) (by decide) (backOf (W := 0) (rm18 l Z a0 hw [] c_ h0 n0 (Nat.le_trans Z0 (Nat.le_refl _)) ) hZ (own_w hw 83 rfl) (own_w hw 39 rfl) (by decide) (by decide)) (g := (mkF m 25 #[vi c_] [(.int c_)])) rfl (by rw [hml]; rfl) (argsL := [(.int c_)]) (rest := []) (lenOf pd_5 rfl) rfl (by show 2 * 0 + _ ≤ _; exact Nat.le_of_eq rfl) (hb hby d21_25) (fun _ _ => ⟨rfl, e0, (by decide : 0 + 0 ≤ _), (by decide : 0 + 0 ≤ _)⟩)
        dsimp only [Pt.U, Pt.locs, Pt.cells, Pt.slots] at X9 l9 y9 z9 st9 hQ9
        subst l9 y9 z9
        obtain ⟨rfl, rfl, e9⟩ := hQ9
        first | rw [List.append_nil] at X9 | skip
        refine Goes.via st9 ?_
        have e9' : T9.heap = h0 := e9
        show Goes p e below _ (T9.setTop (mkF m 28 #[vi c_] [(.int (own_dig c_))]))
        by_cases hc28 : (own_dig c_) = (0 : Int32)
        · skip
          refine Goes.via (fun _ kk_ => XS.ifNo X9.here hx rfl (hb hby d21_28) rfl ((if0 _ _).trans (teq hc28).2) kk_) ?_
          show Goes p e below _ (T9.setTop (mkF m 31 #[vi c_] []))
          obtain ⟨ka10, T10, h10, vm10, k110, kb10, kc10, X10, e10, E10, SI10, sk10, hZ, hown, kE10, kC10, kV10, kA10, kL10, Ks10, st10⟩ := own_ldcK (KL := own_KL) (z := (17 : Int32)) (vs := [(.int 126), (.int 33), (.int 64), (.int 36), (.int 37), (.int 94), (.int 38), (.int 42), (.int 95), (.int 45), (.int 43), (.int 61), (.int 60), (.int 62), (.int 46), (.int 63), (.int 47)]) X9 hx hZ hown (own_w hw 147 rfl) (fun d hd => hw d ((by decide +kernel : ∀ d ∈ Bundle.stringAtoms, d ∈ tables_1) d hd)) e9' SI0 (Nat.zero_le _) (Fr.nil _) (by rw [hh]; exact HO.2.2) Ks0 (by simp [own_KL]) (by decide +kernel) HC2 HW (by decide +kernel) (by decide) (by decide) (g := (mkF m 31 #[vi c_] [])) rfl (hb hby d21_31) (n := 68) (by decide +kernel) (by decide) (by first | decide | omega | (dsimp only; omega)) (by first | decide | omega | (dsimp only; omega))
          refine Goes.via st10 ?_
          have ne11 : ka10 ≠ kb10 := kE10.neArv kA10 (own_w hw 9 rfl)
          show Goes p e below _ (T10.setTop (mkF m 33 #[vi c_] [(.ref ka10)]))
          have kW : Arw Z h10 kb10 kc10 .byte 17 (fun i => .int (own_gK i)) := Arw.ofArv kA10 (by decide) (fun i hi => own_lt17 i hi)
          refine gILN X10 hx hby d21_33 rfl ?_
          have f12 : Sta Z h10 "java/lang/String" "COMPACT_STRINGS" "Z" (.int cS) := (S2_java_lang_String_COMPACT_STRINGS_COMPACT_STRINGS.ext E10)
          have z14 : h0.size ≤ (h10).size := (Nat.le_trans (Nat.le_refl _) E10.1)
          obtain ⟨cq13, kq13, q13a, q13b, q13c⟩ := isOf hZ e10 kE10
          obtain ⟨_, _, ⟨T13, L13, k13, n13⟩, -, X13, ⟨Lc13, hQ13, l13, y13, z13⟩, st13⟩ := X10.virtualBack hx (y := (⟨"java/lang/String", "indexOf", "(I)I"⟩ : MethodName)) (z := (⟨"java/lang/String", "indexOf", "(I)I"⟩ : MethodName)) hown (mvT hZ (own_w hw 120 rfl)) (mvT hZ (own_w hw 121 rfl)) (notFace_of_selects (args := #[]) (mvT hZ (own_w hw 123 rfl))) (mvT hZ (own_w hw 123 rfl)) (mvT hZ (own_w hw 122 rfl)) (by decide) (backOf (W := 0) (rm25 l Z a0 hw [] ka10 c_ (17 : Int32) cS kb10 kc10 17 own_gK h10 n0 (Nat.le_trans Z0 z14) kE10 kC10 kV10 kW f12 H_cs (by decide) Hc0 Hc1) hZ (own_w hw 124 rfl) (own_w hw 10 rfl) (by decide) (by decide)) q13a q13c (g := (mkF m 34 #[vi c_] [(.int c_), (.ref ka10)])) rfl (by rw [hml]; rfl) (Steps.refl _) (argsL := [(.int c_)]) (rest := []) (lenOf pd_11 rfl) rfl (by show 2 * 0 + _ ≤ _; exact Nat.le_of_eq rfl) (hb hby d21_34) (fun _ _ => ⟨rfl, e10, (by decide : 2 + 0 ≤ _), (by decide : 72 + 0 ≤ _)⟩)
          dsimp only [Pt.U, Pt.locs, Pt.cells, Pt.slots] at X13 l13 y13 z13 st13 hQ13
          subst l13 y13 z13
          obtain ⟨rfl, rfl, e13⟩ := hQ13
          first | rw [List.append_nil] at X13 | skip
          refine Goes.tr st13 ?_
          have e13' : T13.heap = h10 := e13
          show Goes p e below _ (T13.setTop (mkF m 37 #[vi c_] [(.int (own_find own_gK c_.toInt8.toInt32 17 0 (0 : Int32)))]))
          by_cases hc37 : (own_find own_gK c_.toInt8.toInt32 17 0 (0 : Int32)) < (0 : Int32)
          · skip
            refine Goes.via (fun _ kk_ => XS.ifYes X13.here hx rfl (pc0 := 37) (pc' := 44) rfl (hb hby d21_37) rfl ((if0 _ _).trans (tlt hc37).1) (by decide) (by decide) kk_) ?_
            show Goes p e below _ (T13.setTop (mkF m 44 #[vi c_] []))
            refine gIC (z := 0) X13 hx hby d21_44 rfl ?_
            have K15 : Keep h0 h10 [] := ((Keep.refl h0 []).ext E10)
            have hKe : KS Z own_KL T13.vm T13.heap := by rw [e13']; exact Ks10.at_ (s := s) X13.warmed
            exact own_wfinN X13 SI10 (by rw [e13']; exact sk10) (fun U_ hv hh_ => by show KS Z own_KL U_.vm U_.heap; rw [hv, hh_]; exact hKe) hx hlk hret (by simp) (hb hby d21_45) (by rw [e13']; exact ⟨(by rw [own_isc, if_pos hc3, if_neg hc15, if_pos hc21, if_pos hc28, if_pos hc37]; rfl), N0, K15⟩) (by first | decide | omega | (dsimp only; omega)) (by first | decide | omega | (dsimp only; omega))
          · skip
            refine Goes.via (fun _ kk_ => XS.ifNo X13.here hx rfl (hb hby d21_37) rfl ((if0 _ _).trans (flt hc37).1) kk_) ?_
            show Goes p e below _ (T13.setTop (mkF m 40 #[vi c_] []))
            refine gIC (z := 1) X13 hx hby d21_40 rfl ?_
            refine Goes.via (fun _ kk_ => XS.goto X13.here hx rfl (pc0 := 41) (pc' := 45) rfl (hb hby d21_41) (by decide) (by decide) kk_) ?_
            show Goes p e below _ (T13.setTop (mkF m 45 #[vi c_] [(.int (1 : Int32))]))
            have K16 : Keep h0 h10 [] := ((Keep.refl h0 []).ext E10)
            have hKe : KS Z own_KL T13.vm T13.heap := by rw [e13']; exact Ks10.at_ (s := s) X13.warmed
            exact own_wfinN X13 SI10 (by rw [e13']; exact sk10) (fun U_ hv hh_ => by show KS Z own_KL U_.vm U_.heap; rw [hv, hh_]; exact hKe) hx hlk hret (by simp) (hb hby d21_45) (by rw [e13']; exact ⟨(by rw [own_isc, if_pos hc3, if_neg hc15, if_pos hc21, if_pos hc28, if_neg hc37]; rfl), N0, K16⟩) (by first | decide | omega | (dsimp only; omega)) (by first | decide | omega | (dsimp only; omega))
        · skip
          refine Goes.via (fun _ kk_ => XS.ifYes X9.here hx rfl (pc0 := 28) (pc' := 40) rfl (hb hby d21_28) rfl ((if0 _ _).trans (feq hc28).2) (by decide) (by decide) kk_) ?_
          show Goes p e below _ (T9.setTop (mkF m 40 #[vi c_] []))
          refine gIC (z := 1) X9 hx hby d21_40 rfl ?_
          refine Goes.via (fun _ kk_ => XS.goto X9.here hx rfl (pc0 := 41) (pc' := 45) rfl (hb hby d21_41) (by decide) (by decide) kk_) ?_
          show Goes p e below _ (T9.setTop (mkF m 45 #[vi c_] [(.int (1 : Int32))]))
          have hKe : KS Z own_KL T9.vm T9.heap := by rw [e9']; exact Ks0.at_ (s := s) X9.warmed
          exact own_wfinN X9 SI0 (by rw [e9']; exact (Nat.zero_le _)) (fun U_ hv hh_ => by show KS Z own_KL U_.vm U_.heap; rw [hv, hh_]; exact hKe) hx hlk hret (by simp) (hb hby d21_45) (by rw [e9']; exact ⟨(by rw [own_isc, if_pos hc3, if_neg hc15, if_pos hc21, if_neg hc28]; rfl), N0, (Keep.refl h0 [])⟩) (by first | decide | omega | (dsimp only; omega)) (by first | decide | omega | (dsimp only; omega))
      · skip
        refine Goes.via (fun _ kk_ => XS.icmpYes X0.here hx rfl (pc0 := 21) (pc' := 40) rfl (hb hby d21_21) rfl (flt hc21).2.2.2 (by decide) (by decide) kk_) ?_
        show Goes p e below _ (s₁.setTop (mkF m 40 #[vi c_] []))
        refine gIC (z := 1) X0 hx hby d21_40 rfl ?_
        refine Goes.via (fun _ kk_ => XS.goto X0.here hx rfl (pc0 := 41) (pc' := 45) rfl (hb hby d21_41) (by decide) (by decide) kk_) ?_
        show Goes p e below _ (s₁.setTop (mkF m 45 #[vi c_] [(.int (1 : Int32))]))
        have hKe : KS Z own_KL s₁.vm s₁.heap := by rw [e0]; exact Ks0.at_ (s := s) X0.warmed
        exact own_wfinN X0 SI0 (by rw [e0]; exact (Nat.zero_le _)) (fun U_ hv hh_ => by show KS Z own_KL U_.vm U_.heap; rw [hv, hh_]; exact hKe) hx hlk hret (by simp) (hb hby d21_45) (by rw [e0]; exact ⟨(by rw [own_isc, if_pos hc3, if_neg hc15, if_neg hc21]; rfl), N0, (Keep.refl h0 [])⟩) (by first | decide | omega | (dsimp only; omega)) (by first | decide | omega | (dsimp only; omega))
  · skip
    refine Goes.via (fun _ kk_ => XS.icmpNo X0.here hx rfl (hb hby d21_3) rfl (flt hc3).1 kk_) ?_
    show Goes p e below _ (s₁.setTop (mkF m 6 #[vi c_] []))
    refine gILN X0 hx hby d21_6 rfl ?_
    refine gBI (z := 122) X0 hx hby d21_7 rfl ?_
    by_cases hc9 : (122 : Int32) < c_
    · skip
      refine Goes.via (fun _ kk_ => XS.icmpNo X0.here hx rfl (hb hby d21_9) rfl (tlt hc9).2.2.2 kk_) ?_
      show Goes p e below _ (s₁.setTop (mkF m 12 #[vi c_] []))
      refine gILN X0 hx hby d21_12 rfl ?_
      refine gBI (z := 65) X0 hx hby d21_13 rfl ?_
      by_cases hc15 : c_ < (65 : Int32)
      · skip
        refine Goes.via (fun _ kk_ => XS.icmpYes X0.here hx rfl (pc0 := 15) (pc' := 24) rfl (hb hby d21_15) rfl (tlt hc15).1 (by decide) (by decide) kk_) ?_
        show Goes p e below _ (s₁.setTop (mkF m 24 #[vi c_] []))
        refine gILN X0 hx hby d21_24 rfl ?_
        obtain ⟨_, _, ⟨T17, L17, k17, n17⟩, -, X17, ⟨Lc17, hQ17, l17, y17, z17⟩, st17⟩ := Jvm.LawKit.callS X0 hx (y := (⟨"com/example/map_rewriter/maprewriter/core/Symbol", "isDigit", "(I)Z"⟩ : MethodName)) hown (mvT hZ (own_w hw 81 rfl)) (mvT hZ (own_w hw 82 rfl)) (mvT hZ (own_w hw 39 rfl)) (mvT hZ (own_w hw 83 rfl)) (by decide) (backOf (W := 0) (rm18 l Z a0 hw [] c_ h0 n0 (Nat.le_trans Z0 (Nat.le_refl _)) ) hZ (own_w hw 83 rfl) (own_w hw 39 rfl) (by decide) (by decide)) (g := (mkF m 25 #[vi c_] [(.int c_)])) rfl (by rw [hml]; rfl) (argsL := [(.int c_)]) (rest := []) (lenOf pd_5 rfl) rfl (by show 2 * 0 + _ ≤ _; exact Nat.le_of_eq rfl) (hb hby d21_25) (fun _ _ => ⟨rfl, e0, (by decide : 0 + 0 ≤ _), (by decide : 0 + 0 ≤ _)⟩)
        dsimp only [Pt.U, Pt.locs, Pt.cells, Pt.slots] at X17 l17 y17 z17 st17 hQ17
        subst l17 y17 z17
        obtain ⟨rfl, rfl, e17⟩ := hQ17
        first | rw [List.append_nil] at X17 | skip
        refine Goes.via st17 ?_
        have e17' : T17.heap = h0 := e17
        show Goes p e below _ (T17.setTop (mkF m 28 #[vi c_] [(.int (own_dig c_))]))
        by_cases hc28 : (own_dig c_) = (0 : Int32)
        · skip
          refine Goes.via (fun _ kk_ => XS.ifNo X17.here hx rfl (hb hby d21_28) rfl ((if0 _ _).trans (teq hc28).2) kk_) ?_
          show Goes p e below _ (T17.setTop (mkF m 31 #[vi c_] []))
          obtain ⟨ka18, T18, h18, vm18, k118, kb18, kc18, X18, e18, E18, SI18, sk18, hZ, hown, kE18, kC18, kV18, kA18, kL18, Ks18, st18⟩ := own_ldcK (KL := own_KL) (z := (17 : Int32)) (vs := [(.int 126), (.int 33), (.int 64), (.int 36), (.int 37), (.int 94), (.int 38), (.int 42), (.int 95), (.int 45), (.int 43), (.int 61), (.int 60), (.int 62), (.int 46), (.int 63), (.int 47)]) X17 hx hZ hown (own_w hw 147 rfl) (fun d hd => hw d ((by decide +kernel : ∀ d ∈ Bundle.stringAtoms, d ∈ tables_1) d hd)) e17' SI0 (Nat.zero_le _) (Fr.nil _) (by rw [hh]; exact HO.2.2) Ks0 (by simp [own_KL]) (by decide +kernel) HC2 HW (by decide +kernel) (by decide) (by decide) (g := (mkF m 31 #[vi c_] [])) rfl (hb hby d21_31) (n := 68) (by decide +kernel) (by decide) (by first | decide | omega | (dsimp only; omega)) (by first | decide | omega | (dsimp only; omega))
          refine Goes.via st18 ?_
          have ne19 : ka18 ≠ kb18 := kE18.neArv kA18 (own_w hw 9 rfl)
          show Goes p e below _ (T18.setTop (mkF m 33 #[vi c_] [(.ref ka18)]))
          have kW : Arw Z h18 kb18 kc18 .byte 17 (fun i => .int (own_gK i)) := Arw.ofArv kA18 (by decide) (fun i hi => own_lt17 i hi)
          refine gILN X18 hx hby d21_33 rfl ?_
          have f20 : Sta Z h18 "java/lang/String" "COMPACT_STRINGS" "Z" (.int cS) := (S2_java_lang_String_COMPACT_STRINGS_COMPACT_STRINGS.ext E18)
          have z22 : h0.size ≤ (h18).size := (Nat.le_trans (Nat.le_refl _) E18.1)
          obtain ⟨cq21, kq21, q21a, q21b, q21c⟩ := isOf hZ e18 kE18
          obtain ⟨_, _, ⟨T21, L21, k21, n21⟩, -, X21, ⟨Lc21, hQ21, l21, y21, z21⟩, st21⟩ := X18.virtualBack hx (y := (⟨"java/lang/String", "indexOf", "(I)I"⟩ : MethodName)) (z := (⟨"java/lang/String", "indexOf", "(I)I"⟩ : MethodName)) hown (mvT hZ (own_w hw 120 rfl)) (mvT hZ (own_w hw 121 rfl)) (notFace_of_selects (args := #[]) (mvT hZ (own_w hw 123 rfl))) (mvT hZ (own_w hw 123 rfl)) (mvT hZ (own_w hw 122 rfl)) (by decide) (backOf (W := 0) (rm25 l Z a0 hw [] ka18 c_ (17 : Int32) cS kb18 kc18 17 own_gK h18 n0 (Nat.le_trans Z0 z22) kE18 kC18 kV18 kW f20 H_cs (by decide) Hc0 Hc1) hZ (own_w hw 124 rfl) (own_w hw 10 rfl) (by decide) (by decide)) q21a q21c (g := (mkF m 34 #[vi c_] [(.int c_), (.ref ka18)])) rfl (by rw [hml]; rfl) (Steps.refl _) (argsL := [(.int c_)]) (rest := []) (lenOf pd_11 rfl) rfl (by show 2 * 0 + _ ≤ _; exact Nat.le_of_eq rfl) (hb hby d21_34) (fun _ _ => ⟨rfl, e18, (by decide : 2 + 0 ≤ _), (by decide : 72 + 0 ≤ _)⟩)
          dsimp only [Pt.U, Pt.locs, Pt.cells, Pt.slots] at X21 l21 y21 z21 st21 hQ21
          subst l21 y21 z21
          obtain ⟨rfl, rfl, e21⟩ := hQ21
          first | rw [List.append_nil] at X21 | skip
          refine Goes.tr st21 ?_
          have e21' : T21.heap = h18 := e21
          show Goes p e below _ (T21.setTop (mkF m 37 #[vi c_] [(.int (own_find own_gK c_.toInt8.toInt32 17 0 (0 : Int32)))]))
          by_cases hc37 : (own_find own_gK c_.toInt8.toInt32 17 0 (0 : Int32)) < (0 : Int32)
          · skip
            refine Goes.via (fun _ kk_ => XS.ifYes X21.here hx rfl (pc0 := 37) (pc' := 44) rfl (hb hby d21_37) rfl ((if0 _ _).trans (tlt hc37).1) (by decide) (by decide) kk_) ?_
            show Goes p e below _ (T21.setTop (mkF m 44 #[vi c_] []))
            refine gIC (z := 0) X21 hx hby d21_44 rfl ?_
            have K23 : Keep h0 h18 [] := ((Keep.refl h0 []).ext E18)
            have hKe : KS Z own_KL T21.vm T21.heap := by rw [e21']; exact Ks18.at_ (s := s) X21.warmed
            exact own_wfinN X21 SI18 (by rw [e21']; exact sk18) (fun U_ hv hh_ => by show KS Z own_KL U_.vm U_.heap; rw [hv, hh_]; exact hKe) hx hlk hret (by simp) (hb hby d21_45) (by rw [e21']; exact ⟨(by rw [own_isc, if_neg hc3, if_pos hc9, if_pos hc15, if_pos hc28, if_pos hc37]; rfl), N0, K23⟩) (by first | decide | omega | (dsimp only; omega)) (by first | decide | omega | (dsimp only; omega))
          · skip
            refine Goes.via (fun _ kk_ => XS.ifNo X21.here hx rfl (hb hby d21_37) rfl ((if0 _ _).trans (flt hc37).1) kk_) ?_
            show Goes p e below _ (T21.setTop (mkF m 40 #[vi c_] []))
            refine gIC (z := 1) X21 hx hby d21_40 rfl ?_
            refine Goes.via (fun _ kk_ => XS.goto X21.here hx rfl (pc0 := 41) (pc' := 45) rfl (hb hby d21_41) (by decide) (by decide) kk_) ?_
            show Goes p e below _ (T21.setTop (mkF m 45 #[vi c_] [(.int (1 : Int32))]))
            have K24 : Keep h0 h18 [] := ((Keep.refl h0 []).ext E18)
            have hKe : KS Z own_KL T21.vm T21.heap := by rw [e21']; exact Ks18.at_ (s := s) X21.warmed
            exact own_wfinN X21 SI18 (by rw [e21']; exact sk18) (fun U_ hv hh_ => by show KS Z own_KL U_.vm U_.heap; rw [hv, hh_]; exact hKe) hx hlk hret (by simp) (hb hby d21_45) (by rw [e21']; exact ⟨(by rw [own_isc, if_neg hc3, if_pos hc9, if_pos hc15, if_pos hc28, if_neg hc37]; rfl), N0, K24⟩) (by first | decide | omega | (dsimp only; omega)) (by first | decide | omega | (dsimp only; omega))
        · skip
          refine Goes.via (fun _ kk_ => XS.ifYes X17.here hx rfl (pc0 := 28) (pc' := 40) rfl (hb hby d21_28) rfl ((if0 _ _).trans (feq hc28).2) (by decide) (by decide) kk_) ?_
          show Goes p e below _ (T17.setTop (mkF m 40 #[vi c_] []))
          refine gIC (z := 1) X17 hx hby d21_40 rfl ?_
          refine Goes.via (fun _ kk_ => XS.goto X17.here hx rfl (pc0 := 41) (pc' := 45) rfl (hb hby d21_41) (by decide) (by decide) kk_) ?_
          show Goes p e below _ (T17.setTop (mkF m 45 #[vi c_] [(.int (1 : Int32))]))
          have hKe : KS Z own_KL T17.vm T17.heap := by rw [e17']; exact Ks0.at_ (s := s) X17.warmed
          exact own_wfinN X17 SI0 (by rw [e17']; exact (Nat.zero_le _)) (fun U_ hv hh_ => by show KS Z own_KL U_.vm U_.heap; rw [hv, hh_]; exact hKe) hx hlk hret (by simp) (hb hby d21_45) (by rw [e17']; exact ⟨(by rw [own_isc, if_neg hc3, if_pos hc9, if_pos hc15, if_neg hc28]; rfl), N0, (Keep.refl h0 [])⟩) (by first | decide | omega | (dsimp only; omega)) (by first | decide | omega | (dsimp only; omega))
      · skip
        refine Goes.via (fun _ kk_ => XS.icmpNo X0.here hx rfl (hb hby d21_15) rfl (flt hc15).1 kk_) ?_
        show Goes p e below _ (s₁.setTop (mkF m 18 #[vi c_] []))
        refine gILN X0 hx hby d21_18 rfl ?_
        refine gBI (z := 90) X0 hx hby d21_19 rfl ?_
        by_cases hc21 : (90 : Int32) < c_
        · skip
          refine Goes.via (fun _ kk_ => XS.icmpNo X0.here hx rfl (hb hby d21_21) rfl (tlt hc21).2.2.2 kk_) ?_
          show Goes p e below _ (s₁.setTop (mkF m 24 #[vi c_] []))
          refine gILN X0 hx hby d21_24 rfl ?_
          obtain ⟨_, _, ⟨T25, L25, k25, n25⟩, -, X25, ⟨Lc25, hQ25, l25, y25, z25⟩, st25⟩ := Jvm.LawKit.callS X0 hx (y := (⟨"com/example/map_rewriter/maprewriter/core/Symbol", "isDigit", "(I)Z"⟩ : MethodName)) hown (mvT hZ (own_w hw 81 rfl)) (mvT hZ (own_w hw 82 rfl)) (mvT hZ (own_w hw 39 rfl)) (mvT hZ (own_w hw 83 rfl)) (by decide) (backOf (W := 0) (rm18 l Z a0 hw [] c_ h0 n0 (Nat.le_trans Z0 (Nat.le_refl _)) ) hZ (own_w hw 83 rfl) (own_w hw 39 rfl) (by decide) (by decide)) (g := (mkF m 25 #[vi c_] [(.int c_)])) rfl (by rw [hml]; rfl) (argsL := [(.int c_)]) (rest := []) (lenOf pd_5 rfl) rfl (by show 2 * 0 + _ ≤ _; exact Nat.le_of_eq rfl) (hb hby d21_25) (fun _ _ => ⟨rfl, e0, (by decide : 0 + 0 ≤ _), (by decide : 0 + 0 ≤ _)⟩)
          dsimp only [Pt.U, Pt.locs, Pt.cells, Pt.slots] at X25 l25 y25 z25 st25 hQ25
          subst l25 y25 z25
          obtain ⟨rfl, rfl, e25⟩ := hQ25
          first | rw [List.append_nil] at X25 | skip
          refine Goes.via st25 ?_
          have e25' : T25.heap = h0 := e25
          show Goes p e below _ (T25.setTop (mkF m 28 #[vi c_] [(.int (own_dig c_))]))
          by_cases hc28 : (own_dig c_) = (0 : Int32)
          · skip
            refine Goes.via (fun _ kk_ => XS.ifNo X25.here hx rfl (hb hby d21_28) rfl ((if0 _ _).trans (teq hc28).2) kk_) ?_
            show Goes p e below _ (T25.setTop (mkF m 31 #[vi c_] []))
            obtain ⟨ka26, T26, h26, vm26, k126, kb26, kc26, X26, e26, E26, SI26, sk26, hZ, hown, kE26, kC26, kV26, kA26, kL26, Ks26, st26⟩ := own_ldcK (KL := own_KL) (z := (17 : Int32)) (vs := [(.int 126), (.int 33), (.int 64), (.int 36), (.int 37), (.int 94), (.int 38), (.int 42), (.int 95), (.int 45), (.int 43), (.int 61), (.int 60), (.int 62), (.int 46), (.int 63), (.int 47)]) X25 hx hZ hown (own_w hw 147 rfl) (fun d hd => hw d ((by decide +kernel : ∀ d ∈ Bundle.stringAtoms, d ∈ tables_1) d hd)) e25' SI0 (Nat.zero_le _) (Fr.nil _) (by rw [hh]; exact HO.2.2) Ks0 (by simp [own_KL]) (by decide +kernel) HC2 HW (by decide +kernel) (by decide) (by decide) (g := (mkF m 31 #[vi c_] [])) rfl (hb hby d21_31) (n := 68) (by decide +kernel) (by decide) (by first | decide | omega | (dsimp only; omega)) (by first | decide | omega | (dsimp only; omega))
            refine Goes.via st26 ?_
            have ne27 : ka26 ≠ kb26 := kE26.neArv kA26 (own_w hw 9 rfl)
            show Goes p e below _ (T26.setTop (mkF m 33 #[vi c_] [(.ref ka26)]))
            have kW : Arw Z h26 kb26 kc26 .byte 17 (fun i => .int (own_gK i)) := Arw.ofArv kA26 (by decide) (fun i hi => own_lt17 i hi)
            refine gILN X26 hx hby d21_33 rfl ?_
            have f28 : Sta Z h26 "java/lang/String" "COMPACT_STRINGS" "Z" (.int cS) := (S2_java_lang_String_COMPACT_STRINGS_COMPACT_STRINGS.ext E26)
            have z30 : h0.size ≤ (h26).size := (Nat.le_trans (Nat.le_refl _) E26.1)
            obtain ⟨cq29, kq29, q29a, q29b, q29c⟩ := isOf hZ e26 kE26
            obtain ⟨_, _, ⟨T29, L29, k29, n29⟩, -, X29, ⟨Lc29, hQ29, l29, y29, z29⟩, st29⟩ := X26.virtualBack hx (y := (⟨"java/lang/String", "indexOf", "(I)I"⟩ : MethodName)) (z := (⟨"java/lang/String", "indexOf", "(I)I"⟩ : MethodName)) hown (mvT hZ (own_w hw 120 rfl)) (mvT hZ (own_w hw 121 rfl)) (notFace_of_selects (args := #[]) (mvT hZ (own_w hw 123 rfl))) (mvT hZ (own_w hw 123 rfl)) (mvT hZ (own_w hw 122 rfl)) (by decide) (backOf (W := 0) (rm25 l Z a0 hw [] ka26 c_ (17 : Int32) cS kb26 kc26 17 own_gK h26 n0 (Nat.le_trans Z0 z30) kE26 kC26 kV26 kW f28 H_cs (by decide) Hc0 Hc1) hZ (own_w hw 124 rfl) (own_w hw 10 rfl) (by decide) (by decide)) q29a q29c (g := (mkF m 34 #[vi c_] [(.int c_), (.ref ka26)])) rfl (by rw [hml]; rfl) (Steps.refl _) (argsL := [(.int c_)]) (rest := []) (lenOf pd_11 rfl) rfl (by show 2 * 0 + _ ≤ _; exact Nat.le_of_eq rfl) (hb hby d21_34) (fun _ _ => ⟨rfl, e26, (by decide : 2 + 0 ≤ _), (by decide : 72 + 0 ≤ _)⟩)
            dsimp only [Pt.U, Pt.locs, Pt.cells, Pt.slots] at X29 l29 y29 z29 st29 hQ29
            subst l29 y29 z29
            obtain ⟨rfl, rfl, e29⟩ := hQ29
            first | rw [List.append_nil] at X29 | skip
            refine Goes.tr st29 ?_
            have e29' : T29.heap = h26 := e29
            show Goes p e below _ (T29.setTop (mkF m 37 #[vi c_] [(.int (own_find own_gK c_.toInt8.toInt32 17 0 (0 : Int32)))]))
            by_cases hc37 : (own_find own_gK c_.toInt8.toInt32 17 0 (0 : Int32)) < (0 : Int32)
            · skip
              refine Goes.via (fun _ kk_ => XS.ifYes X29.here hx rfl (pc0 := 37) (pc' := 44) rfl (hb hby d21_37) rfl ((if0 _ _).trans (tlt hc37).1) (by decide) (by decide) kk_) ?_
              show Goes p e below _ (T29.setTop (mkF m 44 #[vi c_] []))
              refine gIC (z := 0) X29 hx hby d21_44 rfl ?_
              have K31 : Keep h0 h26 [] := ((Keep.refl h0 []).ext E26)
              have hKe : KS Z own_KL T29.vm T29.heap := by rw [e29']; exact Ks26.at_ (s := s) X29.warmed
              exact own_wfinN X29 SI26 (by rw [e29']; exact sk26) (fun U_ hv hh_ => by show KS Z own_KL U_.vm U_.heap; rw [hv, hh_]; exact hKe) hx hlk hret (by simp) (hb hby d21_45) (by rw [e29']; exact ⟨(by rw [own_isc, if_neg hc3, if_pos hc9, if_neg hc15, if_pos hc21, if_pos hc28, if_pos hc37]; rfl), N0, K31⟩) (by first | decide | omega | (dsimp only; omega)) (by first | decide | omega | (dsimp only; omega))
            · skip
              refine Goes.via (fun _ kk_ => XS.ifNo X29.here hx rfl (hb hby d21_37) rfl ((if0 _ _).trans (flt hc37).1) kk_) ?_
              show Goes p e below _ (T29.setTop (mkF m 40 #[vi c_] []))
              refine gIC (z := 1) X29 hx hby d21_40 rfl ?_
              refine Goes.via (fun _ kk_ => XS.goto X29.here hx rfl (pc0 := 41) (pc' := 45) rfl (hb hby d21_41) (by decide) (by decide) kk_) ?_
              show Goes p e below _ (T29.setTop (mkF m 45 #[vi c_] [(.int (1 : Int32))]))
              have K32 : Keep h0 h26 [] := ((Keep.refl h0 []).ext E26)
              have hKe : KS Z own_KL T29.vm T29.heap := by rw [e29']; exact Ks26.at_ (s := s) X29.warmed
              exact own_wfinN X29 SI26 (by rw [e29']; exact sk26) (fun U_ hv hh_ => by show KS Z own_KL U_.vm U_.heap; rw [hv, hh_]; exact hKe) hx hlk hret (by simp) (hb hby d21_45) (by rw [e29']; exact ⟨(by rw [own_isc, if_neg hc3, if_pos hc9, if_neg hc15, if_pos hc21, if_pos hc28, if_neg hc37]; rfl), N0, K32⟩) (by first | decide | omega | (dsimp only; omega)) (by first | decide | omega | (dsimp only; omega))
          · skip
            refine Goes.via (fun _ kk_ => XS.ifYes X25.here hx rfl (pc0 := 28) (pc' := 40) rfl (hb hby d21_28) rfl ((if0 _ _).trans (feq hc28).2) (by decide) (by decide) kk_) ?_
            show Goes p e below _ (T25.setTop (mkF m 40 #[vi c_] []))
            refine gIC (z := 1) X25 hx hby d21_40 rfl ?_
            refine Goes.via (fun _ kk_ => XS.goto X25.here hx rfl (pc0 := 41) (pc' := 45) rfl (hb hby d21_41) (by decide) (by decide) kk_) ?_
            show Goes p e below _ (T25.setTop (mkF m 45 #[vi c_] [(.int (1 : Int32))]))
            have hKe : KS Z own_KL T25.vm T25.heap := by rw [e25']; exact Ks0.at_ (s := s) X25.warmed
            exact own_wfinN X25 SI0 (by rw [e25']; exact (Nat.zero_le _)) (fun U_ hv hh_ => by show KS Z own_KL U_.vm U_.heap; rw [hv, hh_]; exact hKe) hx hlk hret (by simp) (hb hby d21_45) (by rw [e25']; exact ⟨(by rw [own_isc, if_neg hc3, if_pos hc9, if_neg hc15, if_pos hc21, if_neg hc28]; rfl), N0, (Keep.refl h0 [])⟩) (by first | decide | omega | (dsimp only; omega)) (by first | decide | omega | (dsimp only; omega))
        · skip
          refine Goes.via (fun _ kk_ => XS.icmpYes X0.here hx rfl (pc0 := 21) (pc' := 40) rfl (hb hby d21_21) rfl (flt hc21).2.2.2 (by decide) (by decide) kk_) ?_
          show Goes p e below _ (s₁.setTop (mkF m 40 #[vi c_] []))
          refine gIC (z := 1) X0 hx hby d21_40 rfl ?_
          refine Goes.via (fun _ kk_ => XS.goto X0.here hx rfl (pc0 := 41) (pc' := 45) rfl (hb hby d21_41) (by decide) (by decide) kk_) ?_
          show Goes p e below _ (s₁.setTop (mkF m 45 #[vi c_] [(.int (1 : Int32))]))
          have hKe : KS Z own_KL s₁.vm s₁.heap := by rw [e0]; exact Ks0.at_ (s := s) X0.warmed
          exact own_wfinN X0 SI0 (by rw [e0]; exact (Nat.zero_le _)) (fun U_ hv hh_ => by show KS Z own_KL U_.vm U_.heap; rw [hv, hh_]; exact hKe) hx hlk hret (by simp) (hb hby d21_45) (by rw [e0]; exact ⟨(by rw [own_isc, if_neg hc3, if_pos hc9, if_neg hc15, if_neg hc21]; rfl), N0, (Keep.refl h0 [])⟩) (by first | decide | omega | (dsimp only; omega)) (by first | decide | omega | (dsimp only; omega))
    · skip
      refine Goes.via (fun _ kk_ => XS.icmpYes X0.here hx rfl (pc0 := 9) (pc' := 40) rfl (hb hby d21_9) rfl (flt hc9).2.2.2 (by decide) (by decide) kk_) ?_
      show Goes p e below _ (s₁.setTop (mkF m 40 #[vi c_] []))
      refine gIC (z := 1) X0 hx hby d21_40 rfl ?_
      refine Goes.via (fun _ kk_ => XS.goto X0.here hx rfl (pc0 := 41) (pc' := 45) rfl (hb hby d21_41) (by decide) (by decide) kk_) ?_
      show Goes p e below _ (s₁.setTop (mkF m 45 #[vi c_] [(.int (1 : Int32))]))
      have hKe : KS Z own_KL s₁.vm s₁.heap := by rw [e0]; exact Ks0.at_ (s := s) X0.warmed
      exact own_wfinN X0 SI0 (by rw [e0]; exact (Nat.zero_le _)) (fun U_ hv hh_ => by show KS Z own_KL U_.vm U_.heap; rw [hv, hh_]; exact hKe) hx hlk hret (by simp) (hb hby d21_45) (by rw [e0]; exact ⟨(by rw [own_isc, if_neg hc3, if_neg hc9]; rfl), N0, (Keep.refl h0 [])⟩) (by first | decide | omega | (dsimp only; omega)) (by first | decide | omega | (dsimp only; omega))
theorem ef_rm10 (m : MethodId) (a : Addr) (b : Addr) : entryFrame m #[(.ref a), (.ref b)] 2 = mkF m 0 #[.val (.ref a), .val (.ref b)] [] := by first | (simp [entryFrame, mkF, argsToLocals, Value.category]; done) | rfl
def Qrm10 (Z : State) (a : Addr) (b : Addr) (h0 : Heap) (n0 : Nat) (v_ : Option Value) (h_ : Heap) (L_ : List Loc) : Prop := v_ = some (.ref a) ∧ L_ = [] ∧ h_ = h0
theorem pn_java_util_Objects : plainName "java/util/Objects" = true := by first | (simp [plainName, overriddenIn]; done) | decide +kernel
theorem d10_0 : decode jdk_31_method_11_code 0 = .ok (.aload_n 0, 1) := by decide +kernel
theorem d10_1 : decode jdk_31_method_11_code 1 = .ok (.ifnonnull 12, 3) := by decide +kernel
theorem d10_13 : decode jdk_31_method_11_code 13 = .ok (.aload_n 0, 1) := by decide +kernel
theorem d10_14 : decode jdk_31_method_11_code 14 = .ok (.areturn, 1) := by decide +kernel
set_option maxRecDepth 65536 in
set_option maxHeartbeats 40000000 in
theorem rm10 (l : Launch) (Z : State) (a0 : Array Value) (hw : ∀ d ∈ tables_1, d.before a0 Z = true) (ws : List Jvm.Cond) (a : Addr) (b : Addr) (h0 : Heap) (n0 : Nat) (Z0 : n0 ≤ h0.size) :
    MetFree l (⟨"java/util/Objects", "requireNonNull", "(Ljava/lang/Object;Ljava/lang/String;)Ljava/lang/Object;"⟩ : MethodName) (head1 (Jvm.Cond.code (⟨"java/util/Objects", "requireNonNull", "(Ljava/lang/Object;Ljava/lang/String;)Ljava/lang/Object;"⟩ : MethodName) jdk_31_method_11_code 2 (some (.object "java/lang/Object")) :: ws) ({ frames := 0, cells := 0, slots := 0, locals := 0 } : Room)) (fun as_ U_ => as_ = #[(.ref a), (.ref b)] ∧ Z.Warmed39 U_.vm ∧ U_.heap = h0) (fun _ _ _ _ _ => True) (fun _ U_ o_ V_ => ∃ v_ L_, o_ = .returned v_ ∧ Qrm10 Z a b h0 n0 v_ V_.heap L_ ∧ FrameEnd U_ o_ V_ L_ ({ frames := 0, cells := 0, slots := 0, locals := 0 } : Room).cells ({ frames := 0, cells := 0, slots := 0, locals := 0 } : Room).slots) := by
  refine MetFree.of_bodySF (plainFor_of_name pn_java_util_Objects) hisR ?_
  intro p e s m args below meth c s₁ Bd hml0 hP hK
  obtain ⟨rfl, hZ, hh⟩ := hP
  have hx := Bd.exec
  have hby := Bd.bytes
  have hlk : meth.locks = false := BodyLoose.notSynchronized Bd
  have hret := Bd.returns
  have hml : c.maxLocals = 2 := hml0
  have hown : s.vm.findClass "java/util/Objects" = some m.cls := findClass_of_methodNamed Bd.named
  have hnm := (name_of_methodNamed Bd.named Bd.method).1
  have X0 : Stand p l e ({ frames := 0, cells := 0, slots := 0, locals := 0 } : Room) s m #[(.ref a), (.ref b)] below meth c s₁ [] 0 0 := Stand.of_body Bd
  have e0 : s₁.heap = h0 := by rw [← hh, Bd.state]; rfl
  have N0 := Fr.nil n0
  show Goes p e below (Fin_ s (Qrm10 Z a b h0 n0) ({ frames := 0, cells := 0, slots := 0, locals := 0 } : Room).cells ({ frames := 0, cells := 0, slots := 0, locals := 0 } : Room).slots) (s₁.setTop (entryFrame m #[(.ref a), (.ref b)] 2))
  rw [ef_rm10 m a b]
  refine gALN X0 hx hby d10_0 rfl rfl ?_
  refine Goes.via (fun _ kk_ => XS.ifnonnullYes X0.here hx rfl (pc0 := 1) (pc' := 13) rfl (hb hby d10_1) rfl (by decide) (by decide) kk_) ?_
  show Goes p e below _ (s₁.setTop (mkF m 13 #[vr a, vr b] []))
  refine gALN X0 hx hby d10_13 rfl rfl ?_
  exact own_finR X0 hx hlk hret rfl rfl rfl (hb hby d10_14) (by rw [e0]; exact ⟨rfl, rfl, rfl⟩) (by first | decide | omega | (dsimp only; omega)) (by first | decide | omega | (dsimp only; omega))
theorem ef_rm11 (m : MethodId) (a : Addr) : entryFrame m #[(.ref a)] 2 = mkF m 0 #[.val (.ref a), .unset] [] := by first | (simp [entryFrame, mkF, argsToLocals, Value.category]; done) | rfl
def Qrm11 (Z : State) (a : Addr) (t : Addr) (kc : ClassId) (N : Nat) (g : Nat → Int32) (nz : Int32) (cS : Int32) (fo : Value) (h0 : Heap) (n0 : Nat) (v_ : Option Value) (h_ : Heap) (L_ : List Loc) : Prop := v_ = some (.int (1 : Int32)) ∧ Fr n0 L_ ∧ Keep h0 h_ []
theorem d11_0 : decode prog_35_method_4_code 0 = .ok (.aload_n 0, 1) := by decide +kernel
theorem d11_1 : decode prog_35_method_4_code 1 = .ok (.invokevirtual 57, 3) := by decide +kernel
theorem d11_4 : decode prog_35_method_4_code 4 = .ok (.ifCond .ne 14, 3) := by decide +kernel
theorem d11_7 : decode prog_35_method_4_code 7 = .ok (.aload_n 0, 1) := by decide +kernel
theorem d11_8 : decode prog_35_method_4_code 8 = .ok (.iconst 0, 1) := by decide +kernel
theorem pd_12 : parseMethodDescriptor "(I)C" = some ⟨[.int], some .char⟩ := by decide +kernel
theorem d11_9 : decode prog_35_method_4_code 9 = .ok (.invokevirtual 61, 3) := by decide +kernel
theorem d11_12 : decode prog_35_method_4_code 12 = .ok (.invokestatic 65, 3) := by decide +kernel
theorem d11_15 : decode prog_35_method_4_code 15 = .ok (.ifCond .eq 5, 3) := by decide +kernel
theorem d11_20 : decode prog_35_method_4_code 20 = .ok (.iconst 0, 1) := by decide +kernel
theorem d11_21 : decode prog_35_method_4_code 21 = .ok (.istore_n 1, 1) := by decide +kernel
theorem d11_22 : decode prog_35_method_4_code 22 = .ok (.iload_n 1, 1) := by decide +kernel
theorem d11_23 : decode prog_35_method_4_code 23 = .ok (.aload_n 0, 1) := by decide +kernel
theorem d11_24 : decode prog_35_method_4_code 24 = .ok (.invokevirtual 69, 3) := by decide +kernel
theorem d11_27 : decode prog_35_method_4_code 27 = .ok (.if_icmp .ge 22, 3) := by decide +kernel
theorem d11_30 : decode prog_35_method_4_code 30 = .ok (.aload_n 0, 1) := by decide +kernel
theorem d11_31 : decode prog_35_method_4_code 31 = .ok (.iload_n 1, 1) := by decide +kernel
theorem d11_32 : decode prog_35_method_4_code 32 = .ok (.invokevirtual 61, 3) := by decide +kernel
theorem d11_35 : decode prog_35_method_4_code 35 = .ok (.invokestatic 73, 3) := by decide +kernel
theorem d11_38 : decode prog_35_method_4_code 38 = .ok (.ifCond .ne 5, 3) := by decide +kernel
theorem d11_43 : decode prog_35_method_4_code 43 = .ok (.iinc 1 1, 3) := by decide +kernel
theorem d11_46 : decode prog_35_method_4_code 46 = .ok (.goto (-24), 3) := by decide +kernel
theorem d11_49 : decode prog_35_method_4_code 49 = .ok (.iconst 1, 1) := by decide +kernel
theorem d11_50 : decode prog_35_method_4_code 50 = .ok (.ireturn, 1) := by decide +kernel
set_option maxRecDepth 65536 in
set_option maxHeartbeats 40000000 in
theorem rm11 (l : Launch) (Z : State) (a0 : Array Value) (hw : ∀ d ∈ tables_1, d.before a0 Z = true) (ws : List Jvm.Cond) (a : Addr) (t : Addr) (kc : ClassId) (N : Nat) (g : Nat → Int32) (nz : Int32) (cS : Int32) (fo : Value) (h0 : Heap) (n0 : Nat) (Z0 : n0 ≤ h0.size) (E0_a : Exa Z h0 a "java/lang/String") (F1_a_coder : Fld Z h0 a "java/lang/String" "coder" "B" (.int (0 : Int32))) (F2_a_value : Fld Z h0 a "java/lang/String" "value" "[B" (.ref t)) (A3_t : Arw Z h0 t kc .byte N (fun i => .int (g i))) (Hnz : nz.toInt = (N : Int)) (S5_java_lang_String_COMPACT_STRINGS_COMPACT_STRINGS : Sta Z h0 "java/lang/String" "COMPACT_STRINGS" "Z" (.int cS)) (H_cs : ¬ cS = (0 : Int32)) (S7_jdk_internal_util_Preconditions_SIOOBE_FORMATTER_SIOOBE_FORMATTER : Sta Z h0 "jdk/internal/util/Preconditions" "SIOOBE_FORMATTER" "Ljava/util/function/BiFunction;" fo) (Hfo : fo.isRef = true) (HK : own_okS N g) (HO : Old Z n0 h0) (HW : Jvm.Lit.compactW.before a0 Z = true) (HC0 : Jvm.Lit.constHeld Z "java/lang/String" 7) (HC1 : Jvm.Lit.constHeld Z "com/example/map_rewriter/maprewriter/core/Symbol" 7) (HC2 : Jvm.Lit.constHeld Z "com/example/map_rewriter/maprewriter/core/Symbol" 76) :
    MetFree l (⟨"com/example/map_rewriter/maprewriter/core/Symbol", "isSimple", "(Ljava/lang/String;)Z"⟩ : MethodName) (head1 (Jvm.Cond.code (⟨"com/example/map_rewriter/maprewriter/core/Symbol", "isSimple", "(Ljava/lang/String;)Z"⟩ : MethodName) prog_35_method_4_code 2 (some .boolean) :: ws) ({ frames := 5, cells := 4, slots := 144, locals := 71 } : Room)) (fun as_ U_ => as_ = #[(.ref a)] ∧ Z.Warmed39 U_.vm ∧ U_.heap = h0 ∧ KS Z own_KL U_.vm U_.heap) (fun _ _ _ _ _ => True) (fun _ U_ o_ V_ => ∃ v_ L_, o_ = .returned v_ ∧ Qrm11 Z a t kc N g nz cS fo h0 n0 v_ V_.heap L_ ∧ KS Z own_KL V_.vm V_.heap ∧ ReturnedEndW U_ o_ V_ L_ ({ frames := 5, cells := 4, slots := 144, locals := 71 } : Room).cells ({ frames := 5, cells := 4, slots := 144, locals := 71 } : Room).slots) := by
  refine MetFree.of_bodySF (plainFor_of_name pn_com_example_map_rewriter_maprewriter_core_Symbol) hisR ?_
  intro p e s m args below meth c s₁ Bd hml0 hP hK
  obtain ⟨rfl, hZ, hh, hKs⟩ := hP
  have hx := Bd.exec
  have hby := Bd.bytes
  have hlk : meth.locks = false := BodyLoose.notSynchronized Bd
  have hret := Bd.returns
  have hml : c.maxLocals = 2 := hml0
  have hown : s.vm.findClass "com/example/map_rewriter/maprewriter/core/Symbol" = some m.cls := findClass_of_methodNamed Bd.named
  have hnm := (name_of_methodNamed Bd.named Bd.method).1
  have X0 : Stand p l e ({ frames := 5, cells := 4, slots := 144, locals := 71 } : Room) (s.setVm s.vm) m #[(.ref a)] below meth c s₁ [] 0 0 := Stand.of_body Bd
  have e0 : s₁.heap = h0 := by rw [← hh, Bd.state]; rfl
  have N0 := Fr.nil n0
  show Goes p e below (Fin_W s (Qrm11 Z a t kc N g nz cS fo h0 n0) (fun U_ => KS Z own_KL U_.vm U_.heap) ({ frames := 5, cells := 4, slots := 144, locals := 71 } : Room).cells ({ frames := 5, cells := 4, slots := 144, locals := 71 } : Room).slots) (s₁.setTop (entryFrame m #[(.ref a)] 2))
  rw [ef_rm11 m a]
  have SI0 : s.Since s.vm 0 := (State.WarmedH.refl s).since 0
  have Ks0 : KS Z own_KL s.vm h0 := hh ▸ hKs
  have ne1 : a ≠ t := own_ne_arr E0_a (own_w hw 9 rfl) A3_t
  refine gALN X0 hx hby d11_0 rfl rfl ?_
  obtain ⟨cq2, kq2, q2a, q2b, q2c⟩ := isOf hZ e0 E0_a
  obtain ⟨_, _, ⟨T2, L2, k2, n2⟩, -, X2, ⟨Lc2, hQ2, l2, y2, z2⟩, st2⟩ := X0.virtualBack hx (y := (⟨"java/lang/String", "isEmpty", "()Z"⟩ : MethodName)) (z := (⟨"java/lang/String", "isEmpty", "()Z"⟩ : MethodName)) hown (mvT hZ (own_w hw 54 rfl)) (mvT hZ (own_w hw 55 rfl)) (notFace_of_selects (args := #[]) (mvT hZ (own_w hw 57 rfl))) (mvT hZ (own_w hw 57 rfl)) (mvT hZ (own_w hw 56 rfl)) (by decide) (backOf (W := 0) (rm12 l Z a0 hw [] a nz t kc N g h0 n0 (Nat.le_trans Z0 (Nat.le_refl _)) F2_a_value A3_t Hnz (fun q => by rw [q] at Hnz; have q : (0 : Int32).toInt = 0 := (by decide); have := HK.1; omega)) hZ (own_w hw 58 rfl) (own_w hw 10 rfl) (by decide) (by decide)) q2a q2c (g := (mkF m 1 #[vr a, .unset] [(.ref a)])) rfl (by rw [hml]; rfl) (Steps.refl _) (argsL := []) (rest := []) (lenOf pd_3 rfl) rfl (by show 2 * 0 + _ ≤ _; exact Nat.le_of_eq rfl) (hb hby d11_1) (fun _ _ => ⟨rfl, e0, (by decide : 0 + 0 ≤ _), (by decide : 0 + 0 ≤ _)⟩)
  dsimp only [Pt.U, Pt.locs, Pt.cells, Pt.slots] at X2 l2 y2 z2 st2 hQ2
  subst l2 y2 z2
  obtain ⟨rfl, rfl, e2⟩ := hQ2
  first | rw [List.append_nil] at X2 | skip
  refine Goes.tr st2 ?_
  have e2' : T2.heap = h0 := e2
  show Goes p e below _ (T2.setTop (mkF m 4 #[vr a, .unset] [(.int (0 : Int32))]))
  have hc4_3 : (0 : Int32) = (0 : Int32) := (by decide)
  refine Goes.via (fun _ kk_ => XS.ifNo X2.here hx rfl (hb hby d11_4) rfl ((if0 _ _).trans (teq hc4_3).2) kk_) ?_
  show Goes p e below _ (T2.setTop (mkF m 7 #[vr a, .unset] []))
  refine gALN X2 hx hby d11_7 rfl rfl ?_
  refine gIC (z := 0) X2 hx hby d11_8 rfl ?_
  obtain ⟨cq4, kq4, q4a, q4b, q4c⟩ := isOf hZ e2' E0_a
  obtain ⟨_, _, ⟨T4, L4, k4, n4⟩, -, X4, ⟨Lc4, hQ4, l4, y4, z4⟩, st4⟩ := X2.virtualBack hx (y := (⟨"java/lang/String", "charAt", "(I)C"⟩ : MethodName)) (z := (⟨"java/lang/String", "charAt", "(I)C"⟩ : MethodName)) hown (mvT hZ (own_w hw 59 rfl)) (mvT hZ (own_w hw 60 rfl)) (notFace_of_selects (args := #[]) (mvT hZ (own_w hw 62 rfl))) (mvT hZ (own_w hw 62 rfl)) (mvT hZ (own_w hw 61 rfl)) (by decide) (backOf (W := 0) (rm13 l Z a0 hw [] a (0 : Int32) cS t kc N g nz 0 fo h0 n0 (Nat.le_trans Z0 (Nat.le_refl _)) E0_a F1_a_coder F2_a_value A3_t S5_java_lang_String_COMPACT_STRINGS_COMPACT_STRINGS H_cs (by decide) (by have := HK.1; omega) Hnz S7_jdk_internal_util_Preconditions_SIOOBE_FORMATTER_SIOOBE_FORMATTER Hfo) hZ (own_w hw 63 rfl) (own_w hw 10 rfl) (by decide) (by decide)) q4a q4c (g := (mkF m 9 #[vr a, .unset] [(.int (0 : Int32)), (.ref a)])) rfl (by rw [hml]; rfl) (Steps.refl _) (argsL := [(.int (0 : Int32))]) (rest := []) (lenOf pd_12 rfl) rfl (by show 2 * 0 + _ ≤ _; exact Nat.le_of_eq rfl) (hb hby d11_9) (fun _ _ => ⟨rfl, e2', (by decide : 0 + 0 ≤ _), (by decide : 0 + 0 ≤ _)⟩)
  dsimp only [Pt.U, Pt.locs, Pt.cells, Pt.slots] at X4 l4 y4 z4 st4 hQ4
  subst l4 y4 z4
  obtain ⟨rfl, rfl, e4⟩ := hQ4
  first | rw [List.append_nil] at X4 | skip
  refine Goes.tr st4 ?_
  have e4' : T4.heap = h0 := e4
  show Goes p e below _ (T4.setTop (mkF m 12 #[vr a, .unset] [(.int (g 0 &&& (255 : Int32)))]))
  obtain ⟨_, _, ⟨T5, L5, k5, n5⟩, -, X5, ⟨Lc5, hQ5, l5, y5, z5⟩, st5⟩ := Jvm.LawKit.callS X4 hx (y := (⟨"com/example/map_rewriter/maprewriter/core/Symbol", "isDigit", "(I)Z"⟩ : MethodName)) hown (mvT hZ (own_w hw 81 rfl)) (mvT hZ (own_w hw 82 rfl)) (mvT hZ (own_w hw 39 rfl)) (mvT hZ (own_w hw 83 rfl)) (by decide) (backOf (W := 0) (rm18 l Z a0 hw [] (g 0 &&& (255 : Int32)) h0 n0 (Nat.le_trans Z0 (Nat.le_refl _)) ) hZ (own_w hw 83 rfl) (own_w hw 39 rfl) (by decide) (by decide)) (g := (mkF m 12 #[vr a, .unset] [(.int (g 0 &&& (255 : Int32)))])) rfl (by rw [hml]; rfl) (argsL := [(.int (g 0 &&& (255 : Int32)))]) (rest := []) (lenOf pd_5 rfl) rfl (by show 2 * 0 + _ ≤ _; exact Nat.le_of_eq rfl) (hb hby d11_12) (fun _ _ => ⟨rfl, e4', (by decide : 0 + 0 ≤ _), (by decide : 0 + 0 ≤ _)⟩)
  dsimp only [Pt.U, Pt.locs, Pt.cells, Pt.slots] at X5 l5 y5 z5 st5 hQ5
  subst l5 y5 z5
  obtain ⟨rfl, rfl, e5⟩ := hQ5
  first | rw [List.append_nil] at X5 | skip
  refine Goes.via st5 ?_
  have e5' : T5.heap = h0 := e5
  show Goes p e below _ (T5.setTop (mkF m 15 #[vr a, .unset] [(.int (own_dig (g 0 &&& (255 : Int32))))]))
  have hc15_6 : (own_dig (g 0 &&& (255 : Int32))) = (0 : Int32) := HK.2.2.1
  refine Goes.via (fun _ kk_ => XS.ifYes X5.here hx rfl (pc0 := 15) (pc' := 20) rfl (hb hby d11_15) rfl ((if0 _ _).trans (teq hc15_6).1) (by decide) (by decide) kk_) ?_
  show Goes p e below _ (T5.setTop (mkF m 20 #[vr a, .unset] []))
  refine gIC (z := 0) X5 hx hby d11_20 rfl ?_
  refine Goes.via (fun _ kk_ => XS.istoreN X5.here hx rfl (hb hby d11_21) rfl (l' := #[vr a, vi (0 : Int32)]) rfl kk_) ?_
  show Goes p e below _ (T5.setTop (mkF m 22 #[vr a, vi (0 : Int32)] []))
  refine gILN X5 hx hby d11_22 rfl ?_
  refine gALN X5 hx hby d11_23 rfl rfl ?_
  obtain ⟨cq7, kq7, q7a, q7b, q7c⟩ := isOf hZ e5' E0_a
  obtain ⟨_, _, ⟨T7, L7, k7, n7⟩, -, X7, ⟨Lc7, hQ7, l7, y7, z7⟩, st7⟩ := X5.virtualBack hx (y := (⟨"java/lang/String", "length", "()I"⟩ : MethodName)) (z := (⟨"java/lang/String", "length", "()I"⟩ : MethodName)) hown (mvT hZ (own_w hw 84 rfl)) (mvT hZ (own_w hw 85 rfl)) (notFace_of_selects (args := #[]) (mvT hZ (own_w hw 87 rfl))) (mvT hZ (own_w hw 87 rfl)) (mvT hZ (own_w hw 86 rfl)) (by decide) (backOf (W := 1) (rm19 l Z a0 hw [] a nz cS t kc N g h0 n0 (Nat.le_trans Z0 (Nat.le_refl _)) E0_a F1_a_coder F2_a_value A3_t S5_java_lang_String_COMPACT_STRINGS_COMPACT_STRINGS H_cs Hnz) hZ (own_w hw 88 rfl) (own_w hw 10 rfl) (by decide) (by decide)) q7a q7c (g := (mkF m 24 #[vr a, vi (0 : Int32)] [(.ref a), (.int (0 : Int32))])) rfl (by rw [hml]; rfl) (Steps.refl _) (argsL := []) (rest := [(.int (0 : Int32))]) (lenOf pd_8 rfl) rfl (by show 2 * 0 + _ ≤ _; exact Nat.le_of_eq rfl) (hb hby d11_24) (fun _ _ => ⟨rfl, e5', (by decide : 0 + 0 ≤ _), (by decide : 0 + 0 ≤ _)⟩)
  dsimp only [Pt.U, Pt.locs, Pt.cells, Pt.slots] at X7 l7 y7 z7 st7 hQ7
  subst l7 y7 z7
  obtain ⟨rfl, rfl, e7⟩ := hQ7
  first | rw [List.append_nil] at X7 | skip
  refine Goes.tr st7 ?_
  have e7' : T7.heap = h0 := e7
  show Goes p e below _ (T7.setTop (mkF m 27 #[vr a, vi (0 : Int32)] [(.int nz), (.int (0 : Int32))]))
  have hc27_8 : (0 : Int32) < nz := (own_lti.mpr (by rw [Hnz]; have q : (0 : Int32).toInt = 0 := (by decide); have := HK.1; omega))
  refine Goes.via (fun _ kk_ => XS.icmpNo X7.here hx rfl (hb hby d11_27) rfl (tlt hc27_8).2.1 kk_) ?_
  show Goes p e below _ (T7.setTop (mkF m 30 #[vr a, vi (0 : Int32)] []))
  refine gALN X7 hx hby d11_30 rfl rfl ?_
  refine gILN X7 hx hby d11_31 rfl ?_
  obtain ⟨cq9, kq9, q9a, q9b, q9c⟩ := isOf hZ e7' E0_a
  obtain ⟨_, _, ⟨T9, L9, k9, n9⟩, -, X9, ⟨Lc9, hQ9, l9, y9, z9⟩, st9⟩ := X7.virtualBack hx (y := (⟨"java/lang/String", "charAt", "(I)C"⟩ : MethodName)) (z := (⟨"java/lang/String", "charAt", "(I)C"⟩ : MethodName)) hown (mvT hZ (own_w hw 59 rfl)) (mvT hZ (own_w hw 60 rfl)) (notFace_of_selects (args := #[]) (mvT hZ (own_w hw 62 rfl))) (mvT hZ (own_w hw 62 rfl)) (mvT hZ (own_w hw 61 rfl)) (by decide) (backOf (W := 0) (rm13 l Z a0 hw [] a (0 : Int32) cS t kc N g nz 0 fo h0 n0 (Nat.le_trans Z0 (Nat.le_refl _)) E0_a F1_a_coder F2_a_value A3_t S5_java_lang_String_COMPACT_STRINGS_COMPACT_STRINGS H_cs (by decide) (by have := HK.1; omega) Hnz S7_jdk_internal_util_Preconditions_SIOOBE_FORMATTER_SIOOBE_FORMATTER Hfo) hZ (own_w hw 63 rfl) (own_w hw 10 rfl) (by decide) (by decide)) q9a q9c (g := (mkF m 32 #[vr a, vi (0 : Int32)] [(.int (0 : Int32)), (.ref a)])) rfl (by rw [hml]; rfl) (Steps.refl _) (argsL := [(.int (0 : Int32))]) (rest := []) (lenOf pd_12 rfl) rfl (by show 2 * 0 + _ ≤ _; exact Nat.le_of_eq rfl) (hb hby d11_32) (fun _ _ => ⟨rfl, e7', (by decide : 0 + 0 ≤ _), (by decide : 0 + 0 ≤ _)⟩)
  dsimp only [Pt.U, Pt.locs, Pt.cells, Pt.slots] at X9 l9 y9 z9 st9 hQ9
  subst l9 y9 z9
  obtain ⟨rfl, rfl, e9⟩ := hQ9
  first | rw [List.append_nil] at X9 | skip
  refine Goes.tr st9 ?_
  have e9' : T9.heap = h0 := e9
  show Goes p e below _ (T9.setTop (mkF m 35 #[vr a, vi (0 : Int32)] [(.int (g 0 &&& (255 : Int32)))]))
  obtain ⟨_, _, ⟨T10, L10, k10, n10⟩, -, ⟨X10, Si10⟩, ⟨Lc10, ⟨hQ10, tK10, hK10, hKv10, hKh10⟩, l10, y10, z10⟩, st10⟩ := own_callSW X9 hx (y := (⟨"com/example/map_rewriter/maprewriter/core/Symbol", "isSymbolCharacter", "(I)Z"⟩ : MethodName)) hown (mvT hZ (own_w hw 94 rfl)) (mvT hZ (own_w hw 95 rfl)) (mvT hZ (own_w hw 39 rfl)) (mvT hZ (own_w hw 96 rfl)) (by decide) (own_backOfW (W := 0) (K := (fun U_ => KS Z own_KL U_.vm U_.heap)) (KP := (fun U_ => KS Z own_KL U_.vm U_.heap)) (rm21 l Z a0 hw [] (g 0 &&& (255 : Int32)) cS h0 n0 (Nat.le_trans Z0 (Nat.le_refl _)) (own_and255 _).1 (own_and255 _).2 S5_java_lang_String_COMPACT_STRINGS_COMPACT_STRINGS H_cs HO HW HC0 HC1 HC2) hZ (own_w hw 96 rfl) (own_w hw 39 rfl) (by decide) (by decide) (fun V_ hV hVh => by show KS Z own_KL V_.vm V_.heap; rw [hVh]; exact Ks0.at_ (s := s) hV)) (g := (mkF m 35 #[vr a, vi (0 : Int32)] [(.int (g 0 &&& (255 : Int32)))])) rfl (by rw [hml]; rfl) (argsL := [(.int (g 0 &&& (255 : Int32)))]) (rest := []) (lenOf pd_5 rfl) rfl (by show 2 * 0 + _ ≤ _; exact Nat.le_of_eq rfl) (hb hby d11_35) (fun _ _ => ⟨rfl, e9', (by decide : 0 + 2 ≤ _), (by decide : 0 + 72 ≤ _)⟩)
  dsimp only [Pt.U, Pt.locs, Pt.cells, Pt.slots] at X10 l10 y10 z10 st10 hQ10 Si10 hKv10 hKh10
  subst l10 y10 z10
  obtain ⟨rfl, N10q, K10⟩ := hQ10
  have N10 := Fr.app N0 N10q
  refine Goes.via st10 ?_
  obtain ⟨X10', SI10, hZ, hown⟩ := rebS SI0 (Nat.zero_le _) X10 Si10 K10.1 hZ hown
  have Ks10 : KS Z own_KL T10.vm T10.heap := by rw [← hKv10, ← hKh10]; exact hK10
  show Goes p e below _ (T10.setTop (mkF m 38 #[vr a, vi (0 : Int32)] [(.int (own_isc (g 0 &&& (255 : Int32))))]))
  have hc38_11 : ¬ ((own_isc (g 0 &&& (255 : Int32))) = (0 : Int32)) := (by rw [HK.2.2.2.1]; decide)
  refine Goes.via (fun _ kk_ => XS.ifYes X10'.here hx rfl (pc0 := 38) (pc' := 43) rfl (hb hby d11_38) rfl ((if0 _ _).trans (feq hc38_11).2) (by decide) (by decide) kk_) ?_
  show Goes p e below _ (T10.setTop (mkF m 43 #[vr a, vi (0 : Int32)] []))
  refine Goes.via (fun _ kk_ => XS.iinc X10'.here hx rfl (hb hby d11_43) rfl (l' := #[vr a, vi ((0 : Int32) + (1 : Int32))]) rfl kk_) ?_
  show Goes p e below _ (T10.setTop (mkF m 46 #[vr a, vi ((0 : Int32) + (1 : Int32))] []))
  rw [show ((0 : Int32) + (1 : Int32)) = (1 : Int32) from by decide]
  show Goes p e below _ (T10.setTop (mkF m 46 #[vr a, vi (1 : Int32)] []))
  refine Goes.via (fun _ kk_ => XS.goto X10'.here hx rfl (pc0 := 46) (pc' := 22) rfl (hb hby d11_46) (by decide) (by decide) kk_) ?_
  show Goes p e below _ (T10.setTop (mkF m 22 #[vr a, vi (1 : Int32)] []))
  refine gILN X10' hx hby d11_22 rfl ?_
  refine gALN X10' hx hby d11_23 rfl rfl ?_
  have f12 : Exa Z T10.heap a "java/lang/String" := (E0_a.keep K10)
  have f13 : Fld Z T10.heap a "java/lang/String" "coder" "B" (.int (0 : Int32)) := (F1_a_coder.keep K10 nin0)
  have f14 : Fld Z T10.heap a "java/lang/String" "value" "[B" (.ref t) := (F2_a_value.keep K10 nin0)
  have f15 : Arw Z T10.heap t kc .byte N (fun i => .int (g i)) := (A3_t.keep K10 nin0)
  have f16 : Sta Z T10.heap "java/lang/String" "COMPACT_STRINGS" "Z" (.int cS) := (own_sta_keep S5_java_lang_String_COMPACT_STRINGS_COMPACT_STRINGS K10)
  have z18 : h0.size ≤ (T10.heap).size := (Nat.le_trans (Nat.le_refl _) K10.1)
  obtain ⟨cq17, kq17, q17a, q17b, q17c⟩ := isOf hZ rfl f12
  obtain ⟨_, _, ⟨T17, L17, k17, n17⟩, -, X17, ⟨Lc17, hQ17, l17, y17, z17⟩, st17⟩ := X10'.virtualBack hx (y := (⟨"java/lang/String", "length", "()I"⟩ : MethodName)) (z := (⟨"java/lang/String", "length", "()I"⟩ : MethodName)) hown (mvT hZ (own_w hw 84 rfl)) (mvT hZ (own_w hw 85 rfl)) (notFace_of_selects (args := #[]) (mvT hZ (own_w hw 87 rfl))) (mvT hZ (own_w hw 87 rfl)) (mvT hZ (own_w hw 86 rfl)) (by decide) (backOf (W := 1) (rm19 l Z a0 hw [] a nz cS t kc N g T10.heap n0 (Nat.le_trans Z0 z18) f12 f13 f14 f15 f16 H_cs Hnz) hZ (own_w hw 88 rfl) (own_w hw 10 rfl) (by decide) (by decide)) q17a q17c (g := (mkF m 24 #[vr a, vi (1 : Int32)] [(.ref a), (.int (1 : Int32))])) rfl (by rw [hml]; rfl) (Steps.refl _) (argsL := []) (rest := [(.int (1 : Int32))]) (lenOf pd_8 rfl) rfl (by show 2 * 0 + _ ≤ _; exact Nat.le_of_eq rfl) (hb hby d11_24) (fun _ _ => ⟨rfl, rfl, (by decide : 2 + 0 ≤ _), (by decide : 72 + 0 ≤ _)⟩)
  dsimp only [Pt.U, Pt.locs, Pt.cells, Pt.slots] at X17 l17 y17 z17 st17 hQ17
  subst l17 y17 z17
  obtain ⟨rfl, rfl, e17⟩ := hQ17
  first | rw [List.append_nil] at X17 | skip
  refine Goes.tr st17 ?_
  have e17' : T17.heap = T10.heap := e17
  show Goes p e below _ (T17.setTop (mkF m 27 #[vr a, vi (1 : Int32)] [(.int nz), (.int (1 : Int32))]))
  by_cases hc27_2 : (1 : Int32) < nz
  · skip
    refine Goes.via (fun _ kk_ => XS.icmpNo X17.here hx rfl (hb hby d11_27) rfl (tlt hc27_2).2.1 kk_) ?_
    show Goes p e below _ (T17.setTop (mkF m 30 #[vr a, vi (1 : Int32)] []))
    have hN2 : N = 2 := by have q := own_lti.mp hc27_2; rw [Hnz] at q; have q1 : (1 : Int32).toInt = 1 := (by decide); have := HK.2.1; omega
    refine gALN X17 hx hby d11_30 rfl rfl ?_
    refine gILN X17 hx hby d11_31 rfl ?_
    have f19 : Sta Z T10.heap "jdk/internal/util/Preconditions" "SIOOBE_FORMATTER" "Ljava/util/function/BiFunction;" fo := (own_sta_keep S7_jdk_internal_util_Preconditions_SIOOBE_FORMATTER_SIOOBE_FORMATTER K10)
    obtain ⟨cq20, kq20, q20a, q20b, q20c⟩ := isOf hZ e17' f12
    obtain ⟨_, _, ⟨T20, L20, k20, n20⟩, -, X20, ⟨Lc20, hQ20, l20, y20, z20⟩, st20⟩ := X17.virtualBack hx (y := (⟨"java/lang/String", "charAt", "(I)C"⟩ : MethodName)) (z := (⟨"java/lang/String", "charAt", "(I)C"⟩ : MethodName)) hown (mvT hZ (own_w hw 59 rfl)) (mvT hZ (own_w hw 60 rfl)) (notFace_of_selects (args := #[]) (mvT hZ (own_w hw 62 rfl))) (mvT hZ (own_w hw 62 rfl)) (mvT hZ (own_w hw 61 rfl)) (by decide) (backOf (W := 0) (rm13 l Z a0 hw [] a (1 : Int32) cS t kc N g nz 1 fo T10.heap n0 (Nat.le_trans Z0 z18) f12 f13 f14 f15 f16 H_cs (by decide) (by have := HK.1; omega) Hnz f19 Hfo) hZ (own_w hw 63 rfl) (own_w hw 10 rfl) (by decide) (by decide)) q20a q20c (g := (mkF m 32 #[vr a, vi (1 : Int32)] [(.int (1 : Int32)), (.ref a)])) rfl (by rw [hml]; rfl) (Steps.refl _) (argsL := [(.int (1 : Int32))]) (rest := []) (lenOf pd_12 rfl) rfl (by show 2 * 0 + _ ≤ _; exact Nat.le_of_eq rfl) (hb hby d11_32) (fun _ _ => ⟨rfl, e17', (by decide : 2 + 0 ≤ _), (by decide : 72 + 0 ≤ _)⟩)
    dsimp only [Pt.U, Pt.locs, Pt.cells, Pt.slots] at X20 l20 y20 z20 st20 hQ20
    subst l20 y20 z20
    obtain ⟨rfl, rfl, e20⟩ := hQ20
    first | rw [List.append_nil] at X20 | skip
    refine Goes.tr st20 ?_
    have e20' : T20.heap = T10.heap := e20
    show Goes p e below _ (T20.setTop (mkF m 35 #[vr a, vi (1 : Int32)] [(.int (g 1 &&& (255 : Int32)))]))
    have ol21 : Old Z n0 (T10.heap) := (HO.keep K10 all0)
    obtain ⟨_, _, ⟨T22, L22, k22, n22⟩, -, ⟨X22, Si22⟩, ⟨Lc22, ⟨hQ22, tK22, hK22, hKv22, hKh22⟩, l22, y22, z22⟩, st22⟩ := own_callSW X20 hx (y := (⟨"com/example/map_rewriter/maprewriter/core/Symbol", "isSymbolCharacter", "(I)Z"⟩ : MethodName)) hown (mvT hZ (own_w hw 94 rfl)) (mvT hZ (own_w hw 95 rfl)) (mvT hZ (own_w hw 39 rfl)) (mvT hZ (own_w hw 96 rfl)) (by decide) (own_backOfW (W := 0) (K := (fun U_ => KS Z own_KL U_.vm U_.heap)) (KP := (fun U_ => KS Z own_KL U_.vm U_.heap)) (rm21 l Z a0 hw [] (g 1 &&& (255 : Int32)) cS T10.heap n0 (Nat.le_trans Z0 z18) (own_and255 _).1 (own_and255 _).2 f16 H_cs ol21 HW HC0 HC1 HC2) hZ (own_w hw 96 rfl) (own_w hw 39 rfl) (by decide) (by decide) (fun V_ hV hVh => by show KS Z own_KL V_.vm V_.heap; rw [hVh]; exact Ks10.at_ (s := s) hV)) (g := (mkF m 35 #[vr a, vi (1 : Int32)] [(.int (g 1 &&& (255 : Int32)))])) rfl (by rw [hml]; rfl) (argsL := [(.int (g 1 &&& (255 : Int32)))]) (rest := []) (lenOf pd_5 rfl) rfl (by show 2 * 0 + _ ≤ _; exact Nat.le_of_eq rfl) (hb hby d11_35) (fun _ _ => ⟨rfl, e20', (by decide : 2 + 2 ≤ _), (by decide : 72 + 72 ≤ _)⟩)
    dsimp only [Pt.U, Pt.locs, Pt.cells, Pt.slots] at X22 l22 y22 z22 st22 hQ22 Si22 hKv22 hKh22
    subst l22 y22 z22
    obtain ⟨rfl, N22q, K22⟩ := hQ22
    have N22 := Fr.app N10 N22q
    refine Goes.via st22 ?_
    obtain ⟨X22', SI22, hZ, hown⟩ := rebS SI10 (Nat.le_refl _) X22 Si22 K22.1 hZ hown
    have Ks22 : KS Z own_KL T22.vm T22.heap := by rw [← hKv22, ← hKh22]; exact hK22
    show Goes p e below _ (T22.setTop (mkF m 38 #[vr a, vi (1 : Int32)] [(.int (own_isc (g 1 &&& (255 : Int32))))]))
    have hc38_23 : ¬ ((own_isc (g 1 &&& (255 : Int32))) = (0 : Int32)) := (by rw [HK.2.2.2.2 hN2]; decide)
    refine Goes.via (fun _ kk_ => XS.ifYes X22'.here hx rfl (pc0 := 38) (pc' := 43) rfl (hb hby d11_38) rfl ((if0 _ _).trans (feq hc38_23).2) (by decide) (by decide) kk_) ?_
    show Goes p e below _ (T22.setTop (mkF m 43 #[vr a, vi (1 : Int32)] []))
    refine Goes.via (fun _ kk_ => XS.iinc X22'.here hx rfl (hb hby d11_43) rfl (l' := #[vr a, vi ((1 : Int32) + (1 : Int32))]) rfl kk_) ?_
    show Goes p e below _ (T22.setTop (mkF m 46 #[vr a, vi ((1 : Int32) + (1 : Int32))] []))
    rw [show ((1 : Int32) + (1 : Int32)) = (2 : Int32) from by decide]
    show Goes p e below _ (T22.setTop (mkF m 46 #[vr a, vi (2 : Int32)] []))
    refine Goes.via (fun _ kk_ => XS.goto X22'.here hx rfl (pc0 := 46) (pc' := 22) rfl (hb hby d11_46) (by decide) (by decide) kk_) ?_
    show Goes p e below _ (T22.setTop (mkF m 22 #[vr a, vi (2 : Int32)] []))
    refine gILN X22' hx hby d11_22 rfl ?_
    refine gALN X22' hx hby d11_23 rfl rfl ?_
    have f24 : Exa Z T22.heap a "java/lang/String" := (f12.keep K22)
    have f25 : Fld Z T22.heap a "java/lang/String" "coder" "B" (.int (0 : Int32)) := (f13.keep K22 nin0)
    have f26 : Fld Z T22.heap a "java/lang/String" "value" "[B" (.ref t) := (f14.keep K22 nin0)
    have f27 : Arw Z T22.heap t kc .byte N (fun i => .int (g i)) := (f15.keep K22 nin0)
    have f28 : Sta Z T22.heap "java/lang/String" "COMPACT_STRINGS" "Z" (.int cS) := (own_sta_keep f16 K22)
    have z30 : h0.size ≤ (T22.heap).size := (Nat.le_trans z18 K22.1)
    obtain ⟨cq29, kq29, q29a, q29b, q29c⟩ := isOf hZ rfl f24
    obtain ⟨_, _, ⟨T29, L29, k29, n29⟩, -, X29, ⟨Lc29, hQ29, l29, y29, z29⟩, st29⟩ := X22'.virtualBack hx (y := (⟨"java/lang/String", "length", "()I"⟩ : MethodName)) (z := (⟨"java/lang/String", "length", "()I"⟩ : MethodName)) hown (mvT hZ (own_w hw 84 rfl)) (mvT hZ (own_w hw 85 rfl)) (notFace_of_selects (args := #[]) (mvT hZ (own_w hw 87 rfl))) (mvT hZ (own_w hw 87 rfl)) (mvT hZ (own_w hw 86 rfl)) (by decide) (backOf (W := 1) (rm19 l Z a0 hw [] a nz cS t kc N g T22.heap n0 (Nat.le_trans Z0 z30) f24 f25 f26 f27 f28 H_cs Hnz) hZ (own_w hw 88 rfl) (own_w hw 10 rfl) (by decide) (by decide)) q29a q29c (g := (mkF m 24 #[vr a, vi (2 : Int32)] [(.ref a), (.int (2 : Int32))])) rfl (by rw [hml]; rfl) (Steps.refl _) (argsL := []) (rest := [(.int (2 : Int32))]) (lenOf pd_8 rfl) rfl (by show 2 * 0 + _ ≤ _; exact Nat.le_of_eq rfl) (hb hby d11_24) (fun _ _ => ⟨rfl, rfl, (by decide : 4 + 0 ≤ _), (by decide : 144 + 0 ≤ _)⟩)
    dsimp only [Pt.U, Pt.locs, Pt.cells, Pt.slots] at X29 l29 y29 z29 st29 hQ29
    subst l29 y29 z29
    obtain ⟨rfl, rfl, e29⟩ := hQ29
    first | rw [List.append_nil] at X29 | skip
    refine Goes.tr st29 ?_
    have e29' : T29.heap = T22.heap := e29
    show Goes p e below _ (T29.setTop (mkF m 27 #[vr a, vi (2 : Int32)] [(.int nz), (.int (2 : Int32))]))
    have hc27_31 : ¬ ((2 : Int32) < nz) := (fun q => absurd (own_lti.mp q) (by rw [Hnz]; have q : (2 : Int32).toInt = 2 := (by decide); have := HK.2.1; omega))
    refine Goes.via (fun _ kk_ => XS.icmpYes X29.here hx rfl (pc0 := 27) (pc' := 49) rfl (hb hby d11_27) rfl (flt hc27_31).2.1 (by decide) (by decide) kk_) ?_
    show Goes p e below _ (T29.setTop (mkF m 49 #[vr a, vi (2 : Int32)] []))
    refine gIC (z := 1) X29 hx hby d11_49 rfl ?_
    have K32 : Keep h0 T22.heap [] := (((Keep.refl h0 []).trans K10 all0).trans K22 all0)
    have hKe : KS Z own_KL T29.vm T29.heap := by rw [e29']; exact Ks22.at_ (s := s) X29.warmed
    exact own_wfinN X29 SI22 (by rw [e29']; exact (Nat.le_refl _)) (fun U_ hv hh_ => by show KS Z own_KL U_.vm U_.heap; rw [hv, hh_]; exact hKe) hx hlk hret (by simp) (hb hby d11_50) (by rw [e29']; exact ⟨rfl, N22, K32⟩) (by first | decide | omega | (dsimp only; omega)) (by first | decide | omega | (dsimp only; omega))
  · skip
    refine Goes.via (fun _ kk_ => XS.icmpYes X17.here hx rfl (pc0 := 27) (pc' := 49) rfl (hb hby d11_27) rfl (flt hc27_2).2.1 (by decide) (by decide) kk_) ?_
    show Goes p e below _ (T17.setTop (mkF m 49 #[vr a, vi (1 : Int32)] []))
    refine gIC (z := 1) X17 hx hby d11_49 rfl ?_
    have K33 : Keep h0 T10.heap [] := ((Keep.refl h0 []).trans K10 all0)
    have hKe : KS Z own_KL T17.vm T17.heap := by rw [e17']; exact Ks10.at_ (s := s) X17.warmed
    exact own_wfinN X17 SI10 (by rw [e17']; exact (Nat.le_refl _)) (fun U_ hv hh_ => by show KS Z own_KL U_.vm U_.heap; rw [hv, hh_]; exact hKe) hx hlk hret (by simp) (hb hby d11_50) (by rw [e17']; exact ⟨rfl, N10, K33⟩) (by first | decide | omega | (dsimp only; omega)) (by first | decide | omega | (dsimp only; omega))
theorem ef_rm9 (m : MethodId) (a : Addr) (x : Addr) (q_ : Int32) : entryFrame m #[(.ref a), (.ref x), (.int q_)] 3 = mkF m 0 #[.val (.ref a), .val (.ref x), .val (.int q_)] [] := by first | (simp [entryFrame, mkF, argsToLocals, Value.category]; done) | rfl
def Qrm9 (Z : State) (a : Addr) (x : Addr) (q_ : Int32) (t : Addr) (kc : ClassId) (N : Nat) (g : Nat → Int32) (nz : Int32) (cS : Int32) (fo : Value) (h0 : Heap) (n0 : Nat) (v_ : Option Value) (h_ : Heap) (L_ : List Loc) : Prop := v_ = none ∧ Fr n0 L_ ∧ Keep h0 h_ [a] ∧ Exa Z h_ a "com/example/map_rewriter/maprewriter/core/Symbol" ∧ Fld Z h_ a "com/example/map_rewriter/maprewriter/core/Symbol" "content" "Ljava/lang/String;" (.ref x)
theorem d9_0 : decode prog_35_method_1_code 0 = .ok (.aload_n 0, 1) := by decide +kernel
theorem d9_1 : decode prog_35_method_1_code 1 = .ok (.invokespecial 1, 3) := by decide +kernel
theorem d9_4 : decode prog_35_method_1_code 4 = .ok (.aload_n 1, 1) := by decide +kernel
theorem d9_5 : decode prog_35_method_1_code 5 = .ok (.ldc 7, 2) := by decide +kernel
theorem pd_13 : parseMethodDescriptor "(Ljava/lang/Object;Ljava/lang/String;)Ljava/lang/Object;" = some ⟨[(.object "java/lang/Object"), (.object "java/lang/String")], some (.object "java/lang/Object")⟩ := by decide +kernel
theorem d9_7 : decode prog_35_method_1_code 7 = .ok (.invokestatic 9, 3) := by decide +kernel
theorem d9_10 : decode prog_35_method_1_code 10 = .ok (.pop, 1) := by decide +kernel
theorem d9_11 : decode prog_35_method_1_code 11 = .ok (.iload_n 2, 1) := by decide +kernel
theorem d9_12 : decode prog_35_method_1_code 12 = .ok (.ifCond .eq 35, 3) := by decide +kernel
theorem d9_47 : decode prog_35_method_1_code 47 = .ok (.iload_n 2, 1) := by decide +kernel
theorem d9_48 : decode prog_35_method_1_code 48 = .ok (.ifCond .ne 24, 3) := by decide +kernel
theorem d9_51 : decode prog_35_method_1_code 51 = .ok (.aload_n 1, 1) := by decide +kernel
theorem pd_14 : parseMethodDescriptor "(Ljava/lang/String;)Z" = some ⟨[(.object "java/lang/String")], some .boolean⟩ := by decide +kernel
theorem d9_52 : decode prog_35_method_1_code 52 = .ok (.invokestatic 30, 3) := by decide +kernel
theorem d9_55 : decode prog_35_method_1_code 55 = .ok (.ifCond .ne 17, 3) := by decide +kernel
theorem d9_72 : decode prog_35_method_1_code 72 = .ok (.aload_n 0, 1) := by decide +kernel
theorem d9_73 : decode prog_35_method_1_code 73 = .ok (.aload_n 1, 1) := by decide +kernel
theorem d9_74 : decode prog_35_method_1_code 74 = .ok (.putfield 37, 3) := by decide +kernel
theorem d9_77 : decode prog_35_method_1_code 77 = .ok (.aload_n 0, 1) := by decide +kernel
theorem d9_78 : decode prog_35_method_1_code 78 = .ok (.iload_n 2, 1) := by decide +kernel
theorem d9_79 : decode prog_35_method_1_code 79 = .ok (.putfield 40, 3) := by decide +kernel
theorem d9_82 : decode prog_35_method_1_code 82 = .ok (.return_, 1) := by decide +kernel
theorem d9_15 : decode prog_35_method_1_code 15 = .ok (.aload_n 1, 1) := by decide +kernel
theorem d9_16 : decode prog_35_method_1_code 16 = .ok (.bipush 124, 2) := by decide +kernel
theorem d9_18 : decode prog_35_method_1_code 18 = .ok (.invokevirtual 15, 3) := by decide +kernel
theorem d9_21 : decode prog_35_method_1_code 21 = .ok (.ifCond .ge 12, 3) := by decide +kernel
theorem d9_24 : decode prog_35_method_1_code 24 = .ok (.aload_n 1, 1) := by decide +kernel
theorem d9_25 : decode prog_35_method_1_code 25 = .ok (.bipush 92, 2) := by decide +kernel
theorem d9_27 : decode prog_35_method_1_code 27 = .ok (.invokevirtual 15, 3) := by decide +kernel
theorem d9_30 : decode prog_35_method_1_code 30 = .ok (.ifCond .lt 17, 3) := by decide +kernel
set_option maxRecDepth 65536 in
set_option maxHeartbeats 40000000 in
theorem rm9 (l : Launch) (Z : State) (a0 : Array Value) (hw : ∀ d ∈ tables_1, d.before a0 Z = true) (ws : List Jvm.Cond) (a : Addr) (x : Addr) (q_ : Int32) (t : Addr) (kc : ClassId) (N : Nat) (g : Nat → Int32) (nz : Int32) (cS : Int32) (fo : Value) (h0 : Heap) (n0 : Nat) (Z0 : n0 ≤ h0.size) (E0_a : Exa Z h0 a "com/example/map_rewriter/maprewriter/core/Symbol") (F1_a_content : Fld Z h0 a "com/example/map_rewriter/maprewriter/core/Symbol" "content" "Ljava/lang/String;" .null) (F2_a_quoted : Fld Z h0 a "com/example/map_rewriter/maprewriter/core/Symbol" "quoted" "Z" (.int (0 : Int32))) (H3 : n0 ≤ a) (E4_x : Exa Z h0 x "java/lang/String") (F5_x_coder : Fld Z h0 x "java/lang/String" "coder" "B" (.int (0 : Int32))) (F6_x_value : Fld Z h0 x "java/lang/String" "value" "[B" (.ref t)) (A7_t : Arw Z h0 t kc .byte N (fun i => .int (g i))) (Hnz : nz.toInt = (N : Int)) (S9_java_lang_String_COMPACT_STRINGS_COMPACT_STRINGS : Sta Z h0 "java/lang/String" "COMPACT_STRINGS" "Z" (.int cS)) (H_cs : ¬ cS = (0 : Int32)) (S11_jdk_internal_util_Preconditions_SIOOBE_FORMATTER_SIOOBE_FORMATTER : Sta Z h0 "jdk/internal/util/Preconditions" "SIOOBE_FORMATTER" "Ljava/util/function/BiFunction;" fo) (Hfo : fo.isRef = true) (HK : own_ok q_ N g) (HO : Old Z n0 h0) (HW : Jvm.Lit.compactW.before a0 Z = true) (HC0 : Jvm.Lit.constHeld Z "java/lang/String" 7) (HC1 : Jvm.Lit.constHeld Z "com/example/map_rewriter/maprewriter/core/Symbol" 7) (HC2 : Jvm.Lit.constHeld Z "com/example/map_rewriter/maprewriter/core/Symbol" 76) :
    MetFree l (⟨"com/example/map_rewriter/maprewriter/core/Symbol", "<init>", "(Ljava/lang/String;Z)V"⟩ : MethodName) (head1 (Jvm.Cond.code (⟨"com/example/map_rewriter/maprewriter/core/Symbol", "<init>", "(Ljava/lang/String;Z)V"⟩ : MethodName) prog_35_method_1_code 3 none :: ws) ({ frames := 6, cells := 6, slots := 176, locals := 84 } : Room)) (fun as_ U_ => as_ = #[(.ref a), (.ref x), (.int q_)] ∧ Z.Warmed39 U_.vm ∧ U_.heap = h0 ∧ KS Z own_KL U_.vm U_.heap) (fun _ _ _ _ _ => True) (fun _ U_ o_ V_ => ∃ v_ L_, o_ = .returned v_ ∧ Qrm9 Z a x q_ t kc N g nz cS fo h0 n0 v_ V_.heap L_ ∧ KS Z own_KL V_.vm V_.heap ∧ ReturnedEndW U_ o_ V_ L_ ({ frames := 6, cells := 6, slots := 176, locals := 84 } : Room).cells ({ frames := 6, cells := 6, slots := 176, locals := 84 } : Room).slots) := by
  refine MetFree.of_bodySF (plainFor_of_name pn_com_example_map_rewriter_maprewriter_core_Symbol) hisR ?_
  intro p e s m args below meth c s₁ Bd hml0 hP hK
  obtain ⟨rfl, hZ, hh, hKs⟩ := hP
  have hx := Bd.exec
  have hby := Bd.bytes
  have hlk : meth.locks = false := BodyLoose.notSynchronized Bd
  have hret := Bd.returns
  have hml : c.maxLocals = 3 := hml0
  have hown : s.vm.findClass "com/example/map_rewriter/maprewriter/core/Symbol" = some m.cls := findClass_of_methodNamed Bd.named
  have hnm := (name_of_methodNamed Bd.named Bd.method).1
  have X0 : Stand p l e ({ frames := 6, cells := 6, slots := 176, locals := 84 } : Room) (s.setVm s.vm) m #[(.ref a), (.ref x), (.int q_)] below meth c s₁ [] 0 0 := Stand.of_body Bd
  have e0 : s₁.heap = h0 := by rw [← hh, Bd.state]; rfl
  have N0 := Fr.nil n0
  show Goes p e below (Fin_W s (Qrm9 Z a x q_ t kc N g nz cS fo h0 n0) (fun U_ => KS Z own_KL U_.vm U_.heap) ({ frames := 6, cells := 6, slots := 176, locals := 84 } : Room).cells ({ frames := 6, cells := 6, slots := 176, locals := 84 } : Room).slots) (s₁.setTop (entryFrame m #[(.ref a), (.ref x), (.int q_)] 3))
  rw [ef_rm9 m a x q_]
  have SI0 : s.Since s.vm 0 := (State.WarmedH.refl s).since 0
  have Ks0 : KS Z own_KL s.vm h0 := hh ▸ hKs
  have ne1 : a ≠ x := ne_exa E0_a E4_x (by decide)
  have ne2 : a ≠ t := own_ne_arr E0_a (own_w hw 38 rfl) A7_t
  have ne3 : x ≠ t := own_ne_arr E4_x (own_w hw 9 rfl) A7_t
  refine gALN X0 hx hby d9_0 rfl rfl ?_
  obtain ⟨T4, X4, e4, st4⟩ := initO X0 hx hZ hown (own_w hw 43 rfl) (own_w hw 19 rfl) (own_w hw 20 rfl) e0 (g := (mkF m 1 #[vr a, vr x, vi q_] [(.ref a)])) rfl (by rw [hml]; rfl) rfl (hb hby d9_1) (by decide) (W := 0) (by show 2 * 0 + _ ≤ _; exact Nat.le_of_eq rfl) (by decide)
  refine Goes.via st4 ?_
  show Goes p e below _ (T4.setTop (mkF m 4 #[vr a, vr x, vi q_] []))
  refine gALN X4 hx hby d9_4 rfl rfl ?_
  obtain ⟨ka5, T5, h5, vm5, k15, kb5, kc5, X5, e5, E5, SI5, sk5, hZ, hown, kE5, kC5, kV5, kA5, kL5, Ks5, st5⟩ := own_ldcK (KL := own_KL) (z := (7 : Int32)) (vs := [(.int 99), (.int 111), (.int 110), (.int 116), (.int 101), (.int 110), (.int 116)]) X4 hx hZ hown (own_w hw 44 rfl) (fun d hd => hw d ((by decide +kernel : ∀ d ∈ Bundle.stringAtoms, d ∈ tables_1) d hd)) e4 SI0 (Nat.zero_le _) (Fr.nil _) (by rw [hh]; exact HO.2.2) Ks0 (by simp [own_KL]) (by decide +kernel) HC1 HW (by decide +kernel) (by decide) (by decide) (g := (mkF m 5 #[vr a, vr x, vi q_] [(.ref x)])) rfl (hb hby d9_5) (n := 28) (by decide +kernel) (by decide) (by first | decide | omega | (dsimp only; omega)) (by first | decide | omega | (dsimp only; omega))
  refine Goes.via st5 ?_
  have f6 : Exa Z h5 a "com/example/map_rewriter/maprewriter/core/Symbol" := (E0_a.ext E5)
  have f7 : Exa Z h5 x "java/lang/String" := (E4_x.ext E5)
  have f8 : Fld Z h5 x "java/lang/String" "value" "[B" (.ref t) := (F6_x_value.ext E5)
  have ne9 : a ≠ ka5 := ne_exa f6 kE5 (by decide)
  have ne10 : a ≠ kb5 := f6.neArv kA5 (own_w hw 38 rfl)
  have ne11 : x ≠ kb5 := f7.neArv kA5 (own_w hw 9 rfl)
  have ne12 : ka5 ≠ kb5 := kE5.neArv kA5 (own_w hw 9 rfl)
  show Goes p e below _ (T5.setTop (mkF m 7 #[vr a, vr x, vi q_] [(.ref ka5), (.ref x)]))
  have z14 : h0.size ≤ (h5).size := (Nat.le_trans (Nat.le_refl _) E5.1)
  obtain ⟨_, _, ⟨T13, L13, k13, n13⟩, -, X13, ⟨Lc13, hQ13, l13, y13, z13⟩, st13⟩ := Jvm.LawKit.callS X5 hx (y := (⟨"java/util/Objects", "requireNonNull", "(Ljava/lang/Object;Ljava/lang/String;)Ljava/lang/Object;"⟩ : MethodName)) hown (mvT hZ (own_w hw 47 rfl)) (mvT hZ (own_w hw 48 rfl)) (mvT hZ (own_w hw 49 rfl)) (mvT hZ (own_w hw 50 rfl)) (by decide) (backOf (W := 0) (rm10 l Z a0 hw [] x ka5 h5 n0 (Nat.le_trans Z0 z14) ) hZ (own_w hw 50 rfl) (own_w hw 49 rfl) (by decide) (by decide)) (g := (mkF m 7 #[vr a, vr x, vi q_] [(.ref ka5), (.ref x)])) rfl (by rw [hml]; rfl) (argsL := [(.ref x), (.ref ka5)]) (rest := []) (lenOf pd_13 rfl) rfl (by show 2 * 0 + _ ≤ _; exact Nat.le_of_eq rfl) (hb hby d9_7) (fun _ _ => ⟨rfl, e5, (by decide : 2 + 0 ≤ _), (by decide : 32 + 0 ≤ _)⟩)
  dsimp only [Pt.U, Pt.locs, Pt.cells, Pt.slots] at X13 l13 y13 z13 st13 hQ13
  subst l13 y13 z13
  obtain ⟨rfl, rfl, e13⟩ := hQ13
  first | rw [List.append_nil] at X13 | skip
  refine Goes.via st13 ?_
  have e13' : T13.heap = h5 := e13
  show Goes p e below _ (T13.setTop (mkF m 10 #[vr a, vr x, vi q_] [(.ref x)]))
  refine Goes.via (fun _ kk_ => XS.pop X13.here hx rfl (hb hby d9_10) rfl rfl kk_) ?_
  show Goes p e below _ (T13.setTop (mkF m 11 #[vr a, vr x, vi q_] []))
  refine gILN X13 hx hby d9_11 rfl ?_
  by_cases hc12 : q_ = (0 : Int32)
  · skip
    refine Goes.via (fun _ kk_ => XS.ifYes X13.here hx rfl (pc0 := 12) (pc' := 47) rfl (hb hby d9_12) rfl ((if0 _ _).trans (teq hc12).1) (by decide) (by decide) kk_) ?_
    show Goes p e below _ (T13.setTop (mkF m 47 #[vr a, vr x, vi q_] []))
    refine gILN X13 hx hby d9_47 rfl ?_
    have hc48_15 : q_ = (0 : Int32) := hc12
    refine Goes.via (fun _ kk_ => XS.ifNo X13.here hx rfl (hb hby d9_48) rfl ((if0 _ _).trans (teq hc48_15).2) kk_) ?_
    show Goes p e below _ (T13.setTop (mkF m 51 #[vr a, vr x, vi q_] []))
    refine gALN X13 hx hby d9_51 rfl rfl ?_
    have f16 : Fld Z h5 x "java/lang/String" "coder" "B" (.int (0 : Int32)) := (F5_x_coder.ext E5)
    have f17 : Arw Z h5 t kc .byte N (fun i => .int (g i)) := (A7_t.ext E5)
    have f18 : Sta Z h5 "java/lang/String" "COMPACT_STRINGS" "Z" (.int cS) := (S9_java_lang_String_COMPACT_STRINGS_COMPACT_STRINGS.ext E5)
    have f19 : Sta Z h5 "jdk/internal/util/Preconditions" "SIOOBE_FORMATTER" "Ljava/util/function/BiFunction;" fo := (S11_jdk_internal_util_Preconditions_SIOOBE_FORMATTER_SIOOBE_FORMATTER.ext E5)
    have ol20 : Old Z n0 (h5) := (HO.ext E5)
    obtain ⟨_, _, ⟨T21, L21, k21, n21⟩, -, ⟨X21, Si21⟩, ⟨Lc21, ⟨hQ21, tK21, hK21, hKv21, hKh21⟩, l21, y21, z21⟩, st21⟩ := own_callSW X13 hx (y := (⟨"com/example/map_rewriter/maprewriter/core/Symbol", "isSimple", "(Ljava/lang/String;)Z"⟩ : MethodName)) hown (mvT hZ (own_w hw 51 rfl)) (mvT hZ (own_w hw 52 rfl)) (mvT hZ (own_w hw 39 rfl)) (mvT hZ (own_w hw 53 rfl)) (by decide) (own_backOfW (W := 0) (K := (fun U_ => KS Z own_KL U_.vm U_.heap)) (KP := (fun U_ => KS Z own_KL U_.vm U_.heap)) (rm11 l Z a0 hw [] x t kc N g nz cS fo h5 n0 (Nat.le_trans Z0 z14) f7 f16 f8 f17 Hnz f18 H_cs f19 Hfo (HK.2 hc12) ol20 HW HC0 HC1 HC2) hZ (own_w hw 53 rfl) (own_w hw 39 rfl) (by decide) (by decide) (fun V_ hV hVh => by show KS Z own_KL V_.vm V_.heap; rw [hVh]; exact Ks5.at_ (s := s) hV)) (g := (mkF m 52 #[vr a, vr x, vi q_] [(.ref x)])) rfl (by rw [hml]; rfl) (argsL := [(.ref x)]) (rest := []) (lenOf pd_14 rfl) rfl (by show 2 * 0 + _ ≤ _; exact Nat.le_of_eq rfl) (hb hby d9_52) (fun _ _ => ⟨rfl, e13', (by decide : 2 + 4 ≤ _), (by decide : 32 + 144 ≤ _)⟩)
    dsimp only [Pt.U, Pt.locs, Pt.cells, Pt.slots] at X21 l21 y21 z21 st21 hQ21 Si21 hKv21 hKh21
    subst l21 y21 z21
    obtain ⟨rfl, N21q, K21⟩ := hQ21
    have N21 := Fr.app N0 N21q
    refine Goes.via st21 ?_
    obtain ⟨X21', SI21, hZ, hown⟩ := rebS SI5 sk5 X21 Si21 K21.1 hZ hown
    have Ks21 : KS Z own_KL T21.vm T21.heap := by rw [← hKv21, ← hKh21]; exact hK21
    show Goes p e below _ (T21.setTop (mkF m 55 #[vr a, vr x, vi q_] [(.int (1 : Int32))]))
    have hc55_22 : ¬ ((1 : Int32) = (0 : Int32)) := (by decide)
    refine Goes.via (fun _ kk_ => XS.ifYes X21'.here hx rfl (pc0 := 55) (pc' := 72) rfl (hb hby d9_55) rfl ((if0 _ _).trans (feq hc55_22).2) (by decide) (by decide) kk_) ?_
    show Goes p e below _ (T21.setTop (mkF m 72 #[vr a, vr x, vi q_] []))
    refine gALN X21' hx hby d9_72 rfl rfl ?_
    refine gALN X21' hx hby d9_73 rfl rfl ?_
    have f23 : Fld Z T21.heap a "com/example/map_rewriter/maprewriter/core/Symbol" "content" "Ljava/lang/String;" .null := ((F1_a_content.ext E5).keep K21 nin0)
    have f24 : Exa Z T21.heap a "com/example/map_rewriter/maprewriter/core/Symbol" := (f6.keep K21)
    obtain ⟨T25, h25, X25, e25, W25, st25⟩ := putF X21' hx hZ hown (host := "") (Or.inl (own_w hw 97 rfl)) Via.refl rfl f23 f24 (Or.inr ⟨(own_w hw 98 rfl), rfl, hnm⟩) (own_w hw 38 rfl) (ty := (.object "java/lang/String")) (by decide) rfl rfl (g := (mkF m 74 #[vr a, vr x, vi q_] [(.ref x), (.ref a)])) rfl rfl (hb hby d9_74)
    refine Goes.via st25 ?_
    have N25 := Fr.snoc X25 N21 H3
    have Fw25 : Fld Z h25 a "com/example/map_rewriter/maprewriter/core/Symbol" "content" "Ljava/lang/String;" (.ref x) := f23.same W25
    show Goes p e below _ (T25.setTop (mkF m 77 #[vr a, vr x, vi q_] []))
    refine gALN X25 hx hby d9_77 rfl rfl ?_
    refine gILN X25 hx hby d9_78 rfl ?_
    have f26 : Fld Z h25 a "com/example/map_rewriter/maprewriter/core/Symbol" "quoted" "Z" (.int (0 : Int32)) := (((F2_a_quoted.ext E5).keep K21 nin0).other W25 (Or.inr (slot_ne (Or.inr (own_w hw 100 rfl)) (Or.inr (own_w hw 98 rfl)) (by decide) (t := .boolean) (t' := (.object "java/lang/String")) (by decide) (by decide))))
    have f27 : Exa Z h25 a "com/example/map_rewriter/maprewriter/core/Symbol" := (f24.wr W25)
    obtain ⟨T28, h28, X28, e28, W28, st28⟩ := putFN X25 hx hZ hown (own_w hw 99 rfl) Via.refl e25 f26 f27 (Or.inr ⟨(own_w hw 100 rfl), rfl, hnm⟩) (own_w hw 38 rfl) (ty := .boolean) (v' := (.int (nar .boolean q_))) (by decide) rfl (by first | exact fits_nar_bool _ | decide) (g := (mkF m 79 #[vr a, vr x, vi q_] [(.int q_), (.ref a)])) rfl rfl (hb hby d9_79)
    refine Goes.via st28 ?_
    have N28 := Fr.snoc X28 N25 H3
    have Fw28 : Fld Z h28 a "com/example/map_rewriter/maprewriter/core/Symbol" "quoted" "Z" (.int (nar .boolean q_)) := f26.same W28
    show Goes p e below _ (T28.setTop (mkF m 82 #[vr a, vr x, vi q_] []))
    have K29 : Keep h0 h28 [a] := (((((Keep.refl h0 [a]).ext E5).trans K21 all0).wr W25 (Or.inl (List.mem_of_getElem? (i := 0) rfl))).wr W28 (Or.inl (List.mem_of_getElem? (i := 0) rfl)))
    have f30 : Exa Z h28 a "com/example/map_rewriter/maprewriter/core/Symbol" := (f27.wr W28)
    have f31 : Fld Z h28 a "com/example/map_rewriter/maprewriter/core/Symbol" "content" "Ljava/lang/String;" (.ref x) := (Fw25.other W28 (Or.inr (slot_ne (Or.inr (own_w hw 98 rfl)) (Or.inr (own_w hw 100 rfl)) (by decide) (t := (.object "java/lang/String")) (t' := .boolean) (by decide) (by decide))))
    have Ks32 : KS Z own_KL T21.vm (h28) := (Ks21.keep (((Keep.refl _ [a]).wr W25 (Or.inl (List.mem_of_getElem? (i := 0) rfl))).wr W28 (Or.inl (List.mem_of_getElem? (i := 0) rfl))) (allS (NoS.obj f24 (own_w hw 38 rfl) (by decide)) all0))
    have hKe : KS Z own_KL T28.vm T28.heap := by rw [e28]; exact Ks32.at_ (s := s) X28.warmed
    have sk33 : _ ≤ (h28).size := (Nat.le_trans (Nat.le_trans (Nat.le_refl _) (Nat.le_of_eq W25.size.symm)) (Nat.le_of_eq W28.size.symm))
    exact own_wfinV X28 SI21 (by rw [e28]; exact sk33) (fun U_ hv hh_ => by show KS Z own_KL U_.vm U_.heap; rw [hv, hh_]; exact hKe) hx hlk hret (hb hby d9_82) (by rw [e28]; exact ⟨rfl, N28, K29, f30, f31⟩) (by first | decide | omega | (dsimp only; omega)) (by first | decide | omega | (dsimp only; omega))
  · skip
    refine Goes.via (fun _ kk_ => XS.ifNo X13.here hx rfl (hb hby d9_12) rfl ((if0 _ _).trans (feq hc12).1) kk_) ?_
    show Goes p e below _ (T13.setTop (mkF m 15 #[vr a, vr x, vi q_] []))
    refine gALN X13 hx hby d9_15 rfl rfl ?_
    refine gBI (z := 124) X13 hx hby d9_16 rfl ?_
    have f34 : Fld Z h5 x "java/lang/String" "coder" "B" (.int (0 : Int32)) := (F5_x_coder.ext E5)
    have f35 : Arw Z h5 t kc .byte N (fun i => .int (g i)) := (A7_t.ext E5)
    have f36 : Sta Z h5 "java/lang/String" "COMPACT_STRINGS" "Z" (.int cS) := (S9_java_lang_String_COMPACT_STRINGS_COMPACT_STRINGS.ext E5)
    obtain ⟨cq37, kq37, q37a, q37b, q37c⟩ := isOf hZ e13' f7
    obtain ⟨_, _, ⟨T37, L37, k37, n37⟩, -, X37, ⟨Lc37, hQ37, l37, y37, z37⟩, st37⟩ := X13.virtualBack hx (y := (⟨"java/lang/String", "indexOf", "(I)I"⟩ : MethodName)) (z := (⟨"java/lang/String", "indexOf", "(I)I"⟩ : MethodName)) hown (mvT hZ (own_w hw 120 rfl)) (mvT hZ (own_w hw 121 rfl)) (notFace_of_selects (args := #[]) (mvT hZ (own_w hw 123 rfl))) (mvT hZ (own_w hw 123 rfl)) (mvT hZ (own_w hw 122 rfl)) (by decide) (backOf (W := 0) (rm25 l Z a0 hw [] x (124 : Int32) nz cS t kc N g h5 n0 (Nat.le_trans Z0 z14) f7 f34 f8 f35 f36 H_cs Hnz (by first | assumption | rfl | decide | omega | (simp; done)) (by first | assumption | rfl | decide | omega | (simp; done))) hZ (own_w hw 124 rfl) (own_w hw 10 rfl) (by decide) (by decide)) q37a q37c (g := (mkF m 18 #[vr a, vr x, vi q_] [(.int (124 : Int32)), (.ref x)])) rfl (by rw [hml]; rfl) (Steps.refl _) (argsL := [(.int (124 : Int32))]) (rest := []) (lenOf pd_11 rfl) rfl (by show 2 * 0 + _ ≤ _; exact Nat.le_of_eq rfl) (hb hby d9_18) (fun _ _ => ⟨rfl, e13', (by decide : 2 + 0 ≤ _), (by decide : 32 + 0 ≤ _)⟩)
    dsimp only [Pt.U, Pt.locs, Pt.cells, Pt.slots] at X37 l37 y37 z37 st37 hQ37
    subst l37 y37 z37
    obtain ⟨rfl, rfl, e37⟩ := hQ37
    first | rw [List.append_nil] at X37 | skip
    refine Goes.tr st37 ?_
    have e37' : T37.heap = h5 := e37
    have ne38 : ka5 ≠ t := own_ne_arr kE5 (own_w hw 9 rfl) f35
    show Goes p e below _ (T37.setTop (mkF m 21 #[vr a, vr x, vi q_] [(.int (own_find g (124 : Int32).toInt8.toInt32 N 0 (0 : Int32)))]))
    have hc21_39 : (own_find g (124 : Int32).toInt8.toInt32 N 0 (0 : Int32)) < (0 : Int32) := (by rw [(HK.1 hc12).1]; decide)
    refine Goes.via (fun _ kk_ => XS.ifNo X37.here hx rfl (hb hby d9_21) rfl ((if0 _ _).trans (tlt hc21_39).2.1) kk_) ?_
    show Goes p e below _ (T37.setTop (mkF m 24 #[vr a, vr x, vi q_] []))
    refine gALN X37 hx hby d9_24 rfl rfl ?_
    refine gBI (z := 92) X37 hx hby d9_25 rfl ?_
    obtain ⟨cq40, kq40, q40a, q40b, q40c⟩ := isOf hZ e37' f7
    obtain ⟨_, _, ⟨T40, L40, k40, n40⟩, -, X40, ⟨Lc40, hQ40, l40, y40, z40⟩, st40⟩ := X37.virtualBack hx (y := (⟨"java/lang/String", "indexOf", "(I)I"⟩ : MethodName)) (z := (⟨"java/lang/String", "indexOf", "(I)I"⟩ : MethodName)) hown (mvT hZ (own_w hw 120 rfl)) (mvT hZ (own_w hw 121 rfl)) (notFace_of_selects (args := #[]) (mvT hZ (own_w hw 123 rfl))) (mvT hZ (own_w hw 123 rfl)) (mvT hZ (own_w hw 122 rfl)) (by decide) (backOf (W := 0) (rm25 l Z a0 hw [] x (92 : Int32) nz cS t kc N g h5 n0 (Nat.le_trans Z0 z14) f7 f34 f8 f35 f36 H_cs Hnz (by first | assumption | rfl | decide | omega | (simp; done)) (by first | assumption | rfl | decide | omega | (simp; done))) hZ (own_w hw 124 rfl) (own_w hw 10 rfl) (by decide) (by decide)) q40a q40c (g := (mkF m 27 #[vr a, vr x, vi q_] [(.int (92 : Int32)), (.ref x)])) rfl (by rw [hml]; rfl) (Steps.refl _) (argsL := [(.int (92 : Int32))]) (rest := []) (lenOf pd_11 rfl) rfl (by show 2 * 0 + _ ≤ _; exact Nat.le_of_eq rfl) (hb hby d9_27) (fun _ _ => ⟨rfl, e37', (by decide : 2 + 0 ≤ _), (by decide : 32 + 0 ≤ _)⟩)
    dsimp only [Pt.U, Pt.locs, Pt.cells, Pt.slots] at X40 l40 y40 z40 st40 hQ40
    subst l40 y40 z40
    obtain ⟨rfl, rfl, e40⟩ := hQ40
    first | rw [List.append_nil] at X40 | skip
    refine Goes.tr st40 ?_
    have e40' : T40.heap = h5 := e40
    show Goes p e below _ (T40.setTop (mkF m 30 #[vr a, vr x, vi q_] [(.int (own_find g (92 : Int32).toInt8.toInt32 N 0 (0 : Int32)))]))
    have hc30_41 : (own_find g (92 : Int32).toInt8.toInt32 N 0 (0 : Int32)) < (0 : Int32) := (by rw [(HK.1 hc12).2]; decide)
    refine Goes.via (fun _ kk_ => XS.ifYes X40.here hx rfl (pc0 := 30) (pc' := 47) rfl (hb hby d9_30) rfl ((if0 _ _).trans (tlt hc30_41).1) (by decide) (by decide) kk_) ?_
    show Goes p e below _ (T40.setTop (mkF m 47 #[vr a, vr x, vi q_] []))
    refine gILN X40 hx hby d9_47 rfl ?_
    have hc48_42 : ¬ (q_ = (0 : Int32)) := hc12
    refine Goes.via (fun _ kk_ => XS.ifYes X40.here hx rfl (pc0 := 48) (pc' := 72) rfl (hb hby d9_48) rfl ((if0 _ _).trans (feq hc48_42).2) (by decide) (by decide) kk_) ?_
    show Goes p e below _ (T40.setTop (mkF m 72 #[vr a, vr x, vi q_] []))
    refine gALN X40 hx hby d9_72 rfl rfl ?_
    refine gALN X40 hx hby d9_73 rfl rfl ?_
    have f43 : Fld Z h5 a "com/example/map_rewriter/maprewriter/core/Symbol" "content" "Ljava/lang/String;" .null := (F1_a_content.ext E5)
    obtain ⟨T44, h44, X44, e44, W44, st44⟩ := putF X40 hx hZ hown (host := "") (Or.inl (own_w hw 97 rfl)) Via.refl e40' f43 f6 (Or.inr ⟨(own_w hw 98 rfl), rfl, hnm⟩) (own_w hw 38 rfl) (ty := (.object "java/lang/String")) (by decide) rfl rfl (g := (mkF m 74 #[vr a, vr x, vi q_] [(.ref x), (.ref a)])) rfl rfl (hb hby d9_74)
    refine Goes.via st44 ?_
    have N44 := Fr.snoc X44 N0 H3
    have Fw44 : Fld Z h44 a "com/example/map_rewriter/maprewriter/core/Symbol" "content" "Ljava/lang/String;" (.ref x) := f43.same W44
    show Goes p e below _ (T44.setTop (mkF m 77 #[vr a, vr x, vi q_] []))
    refine gALN X44 hx hby d9_77 rfl rfl ?_
    refine gILN X44 hx hby d9_78 rfl ?_
    have f45 : Fld Z h44 a "com/example/map_rewriter/maprewriter/core/Symbol" "quoted" "Z" (.int (0 : Int32)) := ((F2_a_quoted.ext E5).other W44 (Or.inr (slot_ne (Or.inr (own_w hw 100 rfl)) (Or.inr (own_w hw 98 rfl)) (by decide) (t := .boolean) (t' := (.object "java/lang/String")) (by decide) (by decide))))
    have f46 : Exa Z h44 a "com/example/map_rewriter/maprewriter/core/Symbol" := (f6.wr W44)
    obtain ⟨T47, h47, X47, e47, W47, st47⟩ := putFN X44 hx hZ hown (own_w hw 99 rfl) Via.refl e44 f45 f46 (Or.inr ⟨(own_w hw 100 rfl), rfl, hnm⟩) (own_w hw 38 rfl) (ty := .boolean) (v' := (.int (nar .boolean q_))) (by decide) rfl (by first | exact fits_nar_bool _ | decide) (g := (mkF m 79 #[vr a, vr x, vi q_] [(.int q_), (.ref a)])) rfl rfl (hb hby d9_79)
    refine Goes.via st47 ?_
    have N47 := Fr.snoc X47 N44 H3
    have Fw47 : Fld Z h47 a "com/example/map_rewriter/maprewriter/core/Symbol" "quoted" "Z" (.int (nar .boolean q_)) := f45.same W47
    show Goes p e below _ (T47.setTop (mkF m 82 #[vr a, vr x, vi q_] []))
    have K48 : Keep h0 h47 [a] := ((((Keep.refl h0 [a]).ext E5).wr W44 (Or.inl (List.mem_of_getElem? (i := 0) rfl))).wr W47 (Or.inl (List.mem_of_getElem? (i := 0) rfl)))
    have f49 : Exa Z h47 a "com/example/map_rewriter/maprewriter/core/Symbol" := (f46.wr W47)
    have f50 : Fld Z h47 a "com/example/map_rewriter/maprewriter/core/Symbol" "content" "Ljava/lang/String;" (.ref x) := (Fw44.other W47 (Or.inr (slot_ne (Or.inr (own_w hw 98 rfl)) (Or.inr (own_w hw 100 rfl)) (by decide) (t := (.object "java/lang/String")) (t' := .boolean) (by decide) (by decide))))
    have Ks51 : KS Z own_KL vm5 (h47) := (Ks5.keep (((Keep.refl _ [a]).wr W44 (Or.inl (List.mem_of_getElem? (i := 0) rfl))).wr W47 (Or.inl (List.mem_of_getElem? (i := 0) rfl))) (allS (NoS.obj f6 (own_w hw 38 rfl) (by decide)) all0))
    have hKe : KS Z own_KL T47.vm T47.heap := by rw [e47]; exact Ks51.at_ (s := s) X47.warmed
    have sk52 : _ ≤ (h47).size := (Nat.le_trans (Nat.le_trans sk5 (Nat.le_of_eq W44.size.symm)) (Nat.le_of_eq W47.size.symm))
    exact own_wfinV X47 SI5 (by rw [e47]; exact sk52) (fun U_ hv hh_ => by show KS Z own_KL U_.vm U_.heap; rw [hv, hh_]; exact hKe) hx hlk hret (hb hby d9_82) (by rw [e47]; exact ⟨rfl, N47, K48, f49, f50⟩) (by first | decide | omega | (dsimp only; omega)) (by first | decide | omega | (dsimp only; omega))
theorem ef_rm22 (m : MethodId) (a : Addr) (b : Addr) : entryFrame m #[(.ref a), (.ref b)] 3 = mkF m 0 #[.val (.ref a), .val (.ref b), .unset] [] := by first | (simp [entryFrame, mkF, argsToLocals, Value.category]; done) | rfl
def Qrm22 (Z : State) (a : Addr) (b : Addr) (x : Addr) (y : Addr) (cS : Int32) (t1 : Addr) (k1 : ClassId) (n1 : Int32) (c1 : Int32) (d1 : Int32) (t2 : Addr) (k2 : ClassId) (n2 : Int32) (c2 : Int32) (d2 : Int32) (h0 : Heap) (n0 : Nat) (v_ : Option Value) (h_ : Heap) (L_ : List Loc) : Prop := v_ = some (.int (if own_cs n1 c1 d1 = own_cs n2 c2 d2 then (1 : Int32) else (0 : Int32))) ∧ L_ = [] ∧ h_ = h0
theorem d22_0 : decode prog_35_method_7_code 0 = .ok (.aload_n 1, 1) := by decide +kernel
theorem d22_1 : decode prog_35_method_7_code 1 = .ok (.instanceof 31, 3) := by decide +kernel
theorem d22_4 : decode prog_35_method_7_code 4 = .ok (.ifCond .eq 26, 3) := by decide +kernel
theorem d22_7 : decode prog_35_method_7_code 7 = .ok (.aload_n 1, 1) := by decide +kernel
theorem d22_8 : decode prog_35_method_7_code 8 = .ok (.checkcast 31, 3) := by decide +kernel
theorem d22_11 : decode prog_35_method_7_code 11 = .ok (.astore_n 2, 1) := by decide +kernel
theorem d22_12 : decode prog_35_method_7_code 12 = .ok (.aload_n 0, 1) := by decide +kernel
theorem d22_13 : decode prog_35_method_7_code 13 = .ok (.getfield 37, 3) := by decide +kernel
theorem d22_16 : decode prog_35_method_7_code 16 = .ok (.aload_n 2, 1) := by decide +kernel
theorem d22_17 : decode prog_35_method_7_code 17 = .ok (.getfield 37, 3) := by decide +kernel
theorem pd_15 : parseMethodDescriptor "(Ljava/lang/Object;)Z" = some ⟨[(.object "java/lang/Object")], some .boolean⟩ := by decide +kernel
theorem d22_20 : decode prog_35_method_7_code 20 = .ok (.invokevirtual 78, 3) := by decide +kernel
theorem d22_23 : decode prog_35_method_7_code 23 = .ok (.ifCond .eq 7, 3) := by decide +kernel
theorem d22_26 : decode prog_35_method_7_code 26 = .ok (.iconst 1, 1) := by decide +kernel
theorem d22_27 : decode prog_35_method_7_code 27 = .ok (.goto 4, 3) := by decide +kernel
theorem d22_31 : decode prog_35_method_7_code 31 = .ok (.ireturn, 1) := by decide +kernel
theorem d22_30 : decode prog_35_method_7_code 30 = .ok (.iconst 0, 1) := by decide +kernel
set_option maxRecDepth 65536 in
set_option maxHeartbeats 40000000 in
theorem rm22 (l : Launch) (Z : State) (a0 : Array Value) (hw : ∀ d ∈ tables_1, d.before a0 Z = true) (ws : List Jvm.Cond) (a : Addr) (b : Addr) (x : Addr) (y : Addr) (cS : Int32) (t1 : Addr) (k1 : ClassId) (n1 : Int32) (c1 : Int32) (d1 : Int32) (t2 : Addr) (k2 : ClassId) (n2 : Int32) (c2 : Int32) (d2 : Int32) (h0 : Heap) (n0 : Nat) (Z0 : n0 ≤ h0.size) (F0_a_content : Fld Z h0 a "com/example/map_rewriter/maprewriter/core/Symbol" "content" "Ljava/lang/String;" (.ref x)) (E1_b : Exa Z h0 b "com/example/map_rewriter/maprewriter/core/Symbol") (F2_b_content : Fld Z h0 b "com/example/map_rewriter/maprewriter/core/Symbol" "content" "Ljava/lang/String;" (.ref y)) (E3_x : Exa Z h0 x "java/lang/String") (F4_x_coder : Fld Z h0 x "java/lang/String" "coder" "B" (.int (0 : Int32))) (F5_x_value : Fld Z h0 x "java/lang/String" "value" "[B" (.ref t1)) (A6_t1 : Arv Z h0 t1 k1 .byte (own_n n1 c1 d1) (own_v n1 c1 d1) (.int 0)) (E7_y : Exa Z h0 y "java/lang/String") (F8_y_coder : Fld Z h0 y "java/lang/String" "coder" "B" (.int (0 : Int32))) (F9_y_value : Fld Z h0 y "java/lang/String" "value" "[B" (.ref t2)) (A10_t2 : Arv Z h0 t2 k2 .byte (own_n n2 c2 d2) (own_v n2 c2 d2) (.int 0)) (S11_java_lang_String_COMPACT_STRINGS_COMPACT_STRINGS : Sta Z h0 "java/lang/String" "COMPACT_STRINGS" "Z" (.int cS)) (H_cs : ¬ cS = (0 : Int32)) (H1 : c1 &&& (255 : Int32) = c1) (H2 : d1 &&& (255 : Int32) = d1) (H3 : c2 &&& (255 : Int32) = c2) (H4 : d2 &&& (255 : Int32) = d2) :
    MetFree l (⟨"com/example/map_rewriter/maprewriter/core/Symbol", "equals", "(Ljava/lang/Object;)Z"⟩ : MethodName) (head1 (Jvm.Cond.code (⟨"com/example/map_rewriter/maprewriter/core/Symbol", "equals", "(Ljava/lang/Object;)Z"⟩ : MethodName) prog_35_method_7_code 3 (some .boolean) :: ws) ({ frames := 2, cells := 0, slots := 0, locals := 28 } : Room)) (fun as_ U_ => as_ = #[(.ref a), (.ref b)] ∧ Z.Warmed39 U_.vm ∧ U_.heap = h0) (fun _ _ _ _ _ => True) (fun _ U_ o_ V_ => ∃ v_ L_, o_ = .returned v_ ∧ Qrm22 Z a b x y cS t1 k1 n1 c1 d1 t2 k2 n2 c2 d2 h0 n0 v_ V_.heap L_ ∧ FrameEnd U_ o_ V_ L_ ({ frames := 2, cells := 0, slots := 0, locals := 28 } : Room).cells ({ frames := 2, cells := 0, slots := 0, locals := 28 } : Room).slots) := by
  refine MetFree.of_bodySF (plainFor_of_name pn_com_example_map_rewriter_maprewriter_core_Symbol) hisR ?_
  intro p e s m args below meth c s₁ Bd hml0 hP hK
  obtain ⟨rfl, hZ, hh⟩ := hP
  have hx := Bd.exec
  have hby := Bd.bytes
  have hlk : meth.locks = false := BodyLoose.notSynchronized Bd
  have hret := Bd.returns
  have hml : c.maxLocals = 3 := hml0
  have hown : s.vm.findClass "com/example/map_rewriter/maprewriter/core/Symbol" = some m.cls := findClass_of_methodNamed Bd.named
  have hnm := (name_of_methodNamed Bd.named Bd.method).1
  have X0 : Stand p l e ({ frames := 2, cells := 0, slots := 0, locals := 28 } : Room) s m #[(.ref a), (.ref b)] below meth c s₁ [] 0 0 := Stand.of_body Bd
  have e0 : s₁.heap = h0 := by rw [← hh, Bd.state]; rfl
  have N0 := Fr.nil n0
  show Goes p e below (Fin_ s (Qrm22 Z a b x y cS t1 k1 n1 c1 d1 t2 k2 n2 c2 d2 h0 n0) ({ frames := 2, cells := 0, slots := 0, locals := 28 } : Room).cells ({ frames := 2, cells := 0, slots := 0, locals := 28 } : Room).slots) (s₁.setTop (entryFrame m #[(.ref a), (.ref b)] 3))
  rw [ef_rm22 m a b]
  have ne1 : b ≠ x := ne_exa E1_b E3_x (by decide)
  have ne2 : b ≠ t1 := E1_b.neArv A6_t1 (own_w hw 38 rfl)
  have ne3 : b ≠ y := ne_exa E1_b E7_y (by decide)
  have ne4 : b ≠ t2 := E1_b.neArv A10_t2 (own_w hw 38 rfl)
  have ne5 : x ≠ t1 := E3_x.neArv A6_t1 (own_w hw 9 rfl)
  have ne6 : x ≠ t2 := E3_x.neArv A10_t2 (own_w hw 9 rfl)
  have ne7 : y ≠ t1 := E7_y.neArv A6_t1 (own_w hw 9 rfl)
  have ne8 : y ≠ t2 := E7_y.neArv A10_t2 (own_w hw 9 rfl)
  refine gALN X0 hx hby d22_0 rfl rfl ?_
  obtain ⟨T9, X9, e9, st9⟩ := instY X0 hx hZ hown (own_w hw 106 rfl) e0 (Ins.self E1_b) (g := (mkF m 1 #[vr a, vr b, .unset] [(.ref b)])) rfl rfl (hb hby d22_1)
  refine Goes.via st9 ?_
  show Goes p e below _ (T9.setTop (mkF m 4 #[vr a, vr b, .unset] [(.int (1 : Int32))]))
  have hc4_10 : ¬ ((1 : Int32) = (0 : Int32)) := (by decide)
  refine Goes.via (fun _ kk_ => XS.ifNo X9.here hx rfl (hb hby d22_4) rfl ((if0 _ _).trans (feq hc4_10).1) kk_) ?_
  show Goes p e below _ (T9.setTop (mkF m 7 #[vr a, vr b, .unset] []))
  refine gALN X9 hx hby d22_7 rfl rfl ?_
  obtain ⟨T11, X11, e11, st11⟩ := castY X9 hx hZ hown (own_w hw 106 rfl) e9 (Ins.self E1_b) (g := (mkF m 8 #[vr a, vr b, .unset] [(.ref b)])) rfl rfl (hb hby d22_8)
  refine Goes.via st11 ?_
  show Goes p e below _ (T11.setTop (mkF m 11 #[vr a, vr b, .unset] [(.ref b)]))
  refine Goes.via (fun _ kk_ => XS.astoreN X11.here hx rfl (hb hby d22_11) rfl rfl (l' := #[vr a, vr b, vr b]) rfl kk_) ?_
  show Goes p e below _ (T11.setTop (mkF m 12 #[vr a, vr b, vr b] []))
  refine gALN X11 hx hby d22_12 rfl rfl ?_
  obtain ⟨T12, X12, e12, st12⟩ := getF X11 hx hZ hown (host := "") (Or.inl (own_w hw 97 rfl)) Via.refl e11 F0_a_content (g := (mkF m 13 #[vr a, vr b, vr b] [(.ref a)])) rfl rfl (hb hby d22_13)
  refine Goes.via st12 ?_
  show Goes p e below _ (T12.setTop (mkF m 16 #[vr a, vr b, vr b] [(.ref x)]))
  refine gALN X12 hx hby d22_16 rfl rfl ?_
  obtain ⟨T13, X13, e13, st13⟩ := getF X12 hx hZ hown (host := "") (Or.inl (own_w hw 97 rfl)) Via.refl e12 F2_b_content (g := (mkF m 17 #[vr a, vr b, vr b] [(.ref b), (.ref x)])) rfl rfl (hb hby d22_17)
  refine Goes.via st13 ?_
  show Goes p e below _ (T13.setTop (mkF m 20 #[vr a, vr b, vr b] [(.ref y), (.ref x)]))
  have hwe14 : ∀ d ∈ StrChars.Road.wordsEq, d.before a0 Z = true := fun d hd => hw d ((by decide +kernel : ∀ d ∈ StrChars.Road.wordsEq, d ∈ tables_1) d hd)
  obtain ⟨cq14, kq14, q14a, q14b, q14c⟩ := isOf hZ e13 E3_x
  obtain ⟨_, _, ⟨T14, L14, k14, n14⟩, -, X14, ⟨Lc14, ⟨hv14, hL14, e14⟩, l14, y14, z14⟩, st14⟩ := X13.virtualBack hx (y := (⟨"java/lang/String", "equals", "(Ljava/lang/Object;)Z"⟩ : MethodName)) (z := (⟨"java/lang/String", "equals", "(Ljava/lang/Object;)Z"⟩ : MethodName)) hown (mvT hZ (own_w hw 108 rfl)) (mvT hZ (own_w hw 109 rfl)) (notFace_of_selects (args := #[]) (mvT hZ (own_w hw 111 rfl))) (mvT hZ (own_w hw 111 rfl)) (mvT hZ (own_w hw 110 rfl)) (by decide) (StrChars.Road.eqW (W := 0) hZ hwe14 (kI := 4) (own_w hw 9 rfl) E3_x F5_x_value F4_x_coder A6_t1 (own_coda H1 H2) (own_wideb (own_lat H1 H2)) (own_len _ _ _) E7_y F9_y_value F8_y_coder A10_t2 (own_coda H3 H4) (own_wideb (own_lat H3 H4)) (own_len _ _ _) S11_java_lang_String_COMPACT_STRINGS_COMPACT_STRINGS H_cs (by decide) (by decide)) q14a q14c (g := (mkF m 20 #[vr a, vr b, vr b] [(.ref y), (.ref x)])) rfl (by rw [hml]; rfl) (Steps.refl _) (argsL := [(.ref y)]) (rest := []) (lenOf pd_15 rfl) rfl (by show 2 * 0 + _ ≤ _; exact Nat.le_of_eq rfl) (hb hby d22_20) (fun _ _ => ⟨rfl, e13, (by first | decide | omega : 0 + 0 ≤ _), (by first | decide | omega : 0 + 0 ≤ _)⟩)
  dsimp only [Pt.U, Pt.locs, Pt.cells, Pt.slots] at X14 l14 y14 z14 st14 e14 hv14 hL14
  subst l14 y14 z14
  subst hL14
  first | rw [List.append_nil] at X14 | skip
  rcases hv14 with ⟨rfl, hcd14⟩ | ⟨rfl, hcd14⟩
  · refine Goes.tr st14 ?_
    show Goes p e below _ (T14.setTop (mkF m 23 #[vr a, vr b, vr b] [(.int (1 : Int32))]))
    have hc23_15 : ¬ ((1 : Int32) = (0 : Int32)) := (by decide)
    refine Goes.via (fun _ kk_ => XS.ifNo X14.here hx rfl (hb hby d22_23) rfl ((if0 _ _).trans (feq hc23_15).1) kk_) ?_
    show Goes p e below _ (T14.setTop (mkF m 26 #[vr a, vr b, vr b] []))
    refine gIC (z := 1) X14 hx hby d22_26 rfl ?_
    refine Goes.via (fun _ kk_ => XS.goto X14.here hx rfl (pc0 := 27) (pc' := 31) rfl (hb hby d22_27) (by decide) (by decide) kk_) ?_
    show Goes p e below _ (T14.setTop (mkF m 31 #[vr a, vr b, vr b] [(.int (1 : Int32))]))
    exact own_finN X14 hx hlk hret (by simp) (hb hby d22_31) (by rw [e14]; exact ⟨(by rw [if_pos hcd14]; rfl), rfl, rfl⟩) (by first | decide | omega | (dsimp only; omega)) (by first | decide | omega | (dsimp only; omega))
  · refine Goes.tr st14 ?_
    show Goes p e below _ (T14.setTop (mkF m 23 #[vr a, vr b, vr b] [(.int (0 : Int32))]))
    have hc23_16 : (0 : Int32) = (0 : Int32) := (by decide)
    refine Goes.via (fun _ kk_ => XS.ifYes X14.here hx rfl (pc0 := 23) (pc' := 30) rfl (hb hby d22_23) rfl ((if0 _ _).trans (teq hc23_16).1) (by decide) (by decide) kk_) ?_
    show Goes p e below _ (T14.setTop (mkF m 30 #[vr a, vr b, vr b] []))
    refine gIC (z := 0) X14 hx hby d22_30 rfl ?_
    exact own_finN X14 hx hlk hret (by simp) (hb hby d22_31) (by rw [e14]; exact ⟨(by rw [if_neg hcd14]; rfl), rfl, rfl⟩) (by first | decide | omega | (dsimp only; omega)) (by first | decide | omega | (dsimp only; omega))
theorem ef_rm22n (m : MethodId) (a : Addr) : entryFrame m #[(.ref a), .null] 3 = mkF m 0 #[.val (.ref a), .val .null, .unset] [] := by first | (simp [entryFrame, mkF, argsToLocals, Value.category]; done) | rfl
def Qrm22n (Z : State) (a : Addr) (h0 : Heap) (n0 : Nat) (v_ : Option Value) (h_ : Heap) (L_ : List Loc) : Prop := v_ = some (.int (0 : Int32)) ∧ L_ = [] ∧ h_ = h0
set_option maxRecDepth 65536 in
set_option maxHeartbeats 40000000 in
theorem rm22n (l : Launch) (Z : State) (a0 : Array Value) (hw : ∀ d ∈ tables_1, d.before a0 Z = true) (ws : List Jvm.Cond) (a : Addr) (h0 : Heap) (n0 : Nat) (Z0 : n0 ≤ h0.size) :
    MetFree l (⟨"com/example/map_rewriter/maprewriter/core/Symbol", "equals", "(Ljava/lang/Object;)Z"⟩ : MethodName) (head1 (Jvm.Cond.code (⟨"com/example/map_rewriter/maprewriter/core/Symbol", "equals", "(Ljava/lang/Object;)Z"⟩ : MethodName) prog_35_method_7_code 3 (some .boolean) :: ws) ({ frames := 0, cells := 0, slots := 0, locals := 0 } : Room)) (fun as_ U_ => as_ = #[(.ref a), .null] ∧ Z.Warmed39 U_.vm ∧ U_.heap = h0) (fun _ _ _ _ _ => True) (fun _ U_ o_ V_ => ∃ v_ L_, o_ = .returned v_ ∧ Qrm22n Z a h0 n0 v_ V_.heap L_ ∧ FrameEnd U_ o_ V_ L_ ({ frames := 0, cells := 0, slots := 0, locals := 0 } : Room).cells ({ frames := 0, cells := 0, slots := 0, locals := 0 } : Room).slots) := by
  refine MetFree.of_bodySF (plainFor_of_name pn_com_example_map_rewriter_maprewriter_core_Symbol) hisR ?_
  intro p e s m args below meth c s₁ Bd hml0 hP hK
  obtain ⟨rfl, hZ, hh⟩ := hP
  have hx := Bd.exec
  have hby := Bd.bytes
  have hlk : meth.locks = false := BodyLoose.notSynchronized Bd
  have hret := Bd.returns
  have hml : c.maxLocals = 3 := hml0
  have hown : s.vm.findClass "com/example/map_rewriter/maprewriter/core/Symbol" = some m.cls := findClass_of_methodNamed Bd.named
  have hnm := (name_of_methodNamed Bd.named Bd.method).1
  have X0 : Stand p l e ({ frames := 0, cells := 0, slots := 0, locals := 0 } : Room) s m #[(.ref a), .null] below meth c s₁ [] 0 0 := Stand.of_body Bd
  have e0 : s₁.heap = h0 := by rw [← hh, Bd.state]; rfl
  have N0 := Fr.nil n0
  show Goes p e below (Fin_ s (Qrm22n Z a h0 n0) ({ frames := 0, cells := 0, slots := 0, locals := 0 } : Room).cells ({ frames := 0, cells := 0, slots := 0, locals := 0 } : Room).slots) (s₁.setTop (entryFrame m #[(.ref a), .null] 3))
  rw [ef_rm22n m a]
  refine gALN X0 hx hby d22_0 rfl rfl ?_
  refine Goes.via (X0.instanceofNull hx (g := (mkF m 1 #[vr a, .val .null, .unset] [.null])) rfl rfl (hb hby d22_1)) ?_
  show Goes p e below _ (s₁.setTop (mkF m 4 #[vr a, .val .null, .unset] [(.int (0 : Int32))]))
  have hc4_1 : (0 : Int32) = (0 : Int32) := (by decide)
  refine Goes.via (fun _ kk_ => XS.ifYes X0.here hx rfl (pc0 := 4) (pc' := 30) rfl (hb hby d22_4) rfl ((if0 _ _).trans (teq hc4_1).1) (by decide) (by decide) kk_) ?_
  show Goes p e below _ (s₁.setTop (mkF m 30 #[vr a, .val .null, .unset] []))
  refine gIC (z := 0) X0 hx hby d22_30 rfl ?_
  exact own_finN X0 hx hlk hret (by simp) (hb hby d22_31) (by rw [e0]; exact ⟨rfl, rfl, rfl⟩) (by first | decide | omega | (dsimp only; omega)) (by first | decide | omega | (dsimp only; omega))
theorem ef_rm22s (m : MethodId) (a : Addr) (b : Addr) : entryFrame m #[(.ref a), (.ref b)] 3 = mkF m 0 #[.val (.ref a), .val (.ref b), .unset] [] := by first | (simp [entryFrame, mkF, argsToLocals, Value.category]; done) | rfl
def Qrm22s (Z : State) (a : Addr) (b : Addr) (h0 : Heap) (n0 : Nat) (v_ : Option Value) (h_ : Heap) (L_ : List Loc) : Prop := v_ = some (.int (0 : Int32)) ∧ L_ = [] ∧ h_ = h0
set_option maxRecDepth 65536 in
set_option maxHeartbeats 40000000 in
theorem rm22s (l : Launch) (Z : State) (a0 : Array Value) (hw : ∀ d ∈ tables_1, d.before a0 Z = true) (ws : List Jvm.Cond) (a : Addr) (b : Addr) (h0 : Heap) (n0 : Nat) (Z0 : n0 ≤ h0.size) (E0_b : Exa Z h0 b "java/lang/String") :
    MetFree l (⟨"com/example/map_rewriter/maprewriter/core/Symbol", "equals", "(Ljava/lang/Object;)Z"⟩ : MethodName) (head1 (Jvm.Cond.code (⟨"com/example/map_rewriter/maprewriter/core/Symbol", "equals", "(Ljava/lang/Object;)Z"⟩ : MethodName) prog_35_method_7_code 3 (some .boolean) :: ws) ({ frames := 0, cells := 0, slots := 0, locals := 0 } : Room)) (fun as_ U_ => as_ = #[(.ref a), (.ref b)] ∧ Z.Warmed39 U_.vm ∧ U_.heap = h0) (fun _ _ _ _ _ => True) (fun _ U_ o_ V_ => ∃ v_ L_, o_ = .returned v_ ∧ Qrm22s Z a b h0 n0 v_ V_.heap L_ ∧ FrameEnd U_ o_ V_ L_ ({ frames := 0, cells := 0, slots := 0, locals := 0 } : Room).cells ({ frames := 0, cells := 0, slots := 0, locals := 0 } : Room).slots) := by
  refine MetFree.of_bodySF (plainFor_of_name pn_com_example_map_rewriter_maprewriter_core_Symbol) hisR ?_
  intro p e s m args below meth c s₁ Bd hml0 hP hK
  obtain ⟨rfl, hZ, hh⟩ := hP
  have hx := Bd.exec
  have hby := Bd.bytes
  have hlk : meth.locks = false := BodyLoose.notSynchronized Bd
  have hret := Bd.returns
  have hml : c.maxLocals = 3 := hml0
  have hown : s.vm.findClass "com/example/map_rewriter/maprewriter/core/Symbol" = some m.cls := findClass_of_methodNamed Bd.named
  have hnm := (name_of_methodNamed Bd.named Bd.method).1
  have X0 : Stand p l e ({ frames := 0, cells := 0, slots := 0, locals := 0 } : Room) s m #[(.ref a), (.ref b)] below meth c s₁ [] 0 0 := Stand.of_body Bd
  have e0 : s₁.heap = h0 := by rw [← hh, Bd.state]; rfl
  have N0 := Fr.nil n0
  show Goes p e below (Fin_ s (Qrm22s Z a b h0 n0) ({ frames := 0, cells := 0, slots := 0, locals := 0 } : Room).cells ({ frames := 0, cells := 0, slots := 0, locals := 0 } : Room).slots) (s₁.setTop (entryFrame m #[(.ref a), (.ref b)] 3))
  rw [ef_rm22s m a b]
  refine gALN X0 hx hby d22_0 rfl rfl ?_
  obtain ⟨T1, X1, e1, st1⟩ := instNo X0 hx hZ hown (own_w hw 106 rfl) e0 E0_b (own_noInst (own_w hw 118 rfl) (own_w hw 117 rfl) (own_w hw 38 rfl) (by decide) (by decide)) (g := (mkF m 1 #[vr a, vr b, .unset] [(.ref b)])) rfl rfl (hb hby d22_1)
  refine Goes.via st1 ?_
  show Goes p e below _ (T1.setTop (mkF m 4 #[vr a, vr b, .unset] [(.int (0 : Int32))]))
  have hc4_2 : (0 : Int32) = (0 : Int32) := (by decide)
  refine Goes.via (fun _ kk_ => XS.ifYes X1.here hx rfl (pc0 := 4) (pc' := 30) rfl (hb hby d22_4) rfl ((if0 _ _).trans (teq hc4_2).1) (by decide) (by decide) kk_) ?_
  show Goes p e below _ (T1.setTop (mkF m 30 #[vr a, vr b, .unset] []))
  refine gIC (z := 0) X1 hx hby d22_30 rfl ?_
  exact own_finN X1 hx hlk hret (by simp) (hb hby d22_31) (by rw [e1]; exact ⟨rfl, rfl, rfl⟩) (by first | decide | omega | (dsimp only; omega)) (by first | decide | omega | (dsimp only; omega))
theorem own_na0 (c d : Int32) : own_n (0 : Int32) c d = (0 : Int32) := by unfold own_n; rw [own_cs0 c d rfl]; rfl
theorem own_na1 (c d : Int32) : own_n (1 : Int32) c d = (1 : Int32) := by unfold own_n; rw [own_cs1 c d (by decide) rfl]; rfl
theorem own_na2 (c d : Int32) : own_n (2 : Int32) c d = (2 : Int32) := by unfold own_n; rw [own_cs2 c d (by decide) (by decide)]; rfl
theorem own_nn {v q n : Int32} (hv : v = (0 : Int32) ∨ v = (1 : Int32) ∨ v = (2 : Int32)) (h : (if q = (0 : Int32) then (if v = (0 : Int32) then (1 : Int32) else v) else v) = n) : (n = (0 : Int32) ∨ n = (1 : Int32) ∨ n = (2 : Int32)) ∧ (n = (0 : Int32) → ¬ q = (0 : Int32)) := by
  subst h
  by_cases hq : q = (0 : Int32)
  · rcases hv with rfl | rfl | rfl <;> simp [hq]
  · rcases hv with rfl | rfl | rfl <;> simp [hq]
theorem own_fitm (r p q : Int32) : own_fit r p q = own_fit (r &&& (255 : Int32)) p q := by
  unfold own_fit
  rw [own_mm]
theorem own_fitq (r p : Int32) {q : Int32} (h : ¬ q = (0 : Int32)) : own_fit r p q = own_fit r p (1 : Int32) := by
  unfold own_fit
  rw [if_neg h, if_neg (show ¬ (1 : Int32) = (0 : Int32) by decide)]
theorem own_byte (r : Int32) : ∃ k, k < 256 ∧ r &&& (255 : Int32) = Int32.ofNat k := by
  have q := c_and r 255 (by decide)
  have q1 : (255 : Int32).toInt = 255 := by decide
  refine ⟨(r &&& (255 : Int32)).toInt.toNat, by omega, Int32.toInt_inj.mp ?_⟩
  rw [Int32.toInt_ofNat_of_lt (by omega)]
  omega
def own_g (n c d : Int32) : Nat → Int32 := fun i => ((own_cs n c d).map (fun c => c.toInt8.toInt32)).getD i 0
def own_gb (c : Int32) : Int32 := (nar .char c).toInt8.toInt32
theorem own_T1 : ∀ k, k < 256 → (own_fit (Int32.ofNat k) 0 1 &&& (255 : Int32) = own_fit (Int32.ofNat k) 0 1 ∧ own_fit (Int32.ofNat k) 1 1 &&& (255 : Int32) = own_fit (Int32.ofNat k) 1 1 ∧ own_fit (Int32.ofNat k) 0 0 &&& (255 : Int32) = own_fit (Int32.ofNat k) 0 0 ∧ own_fit (Int32.ofNat k) 1 0 &&& (255 : Int32) = own_fit (Int32.ofNat k) 1 0) := by decide +kernel
theorem own_T2 : ∀ k, k < 256 → (own_gb (own_fit (Int32.ofNat k) 0 1) ≠ 124 ∧ own_gb (own_fit (Int32.ofNat k) 0 1) ≠ 92 ∧ own_gb (own_fit (Int32.ofNat k) 1 1) ≠ 124 ∧ own_gb (own_fit (Int32.ofNat k) 1 1) ≠ 92) := by decide +kernel
theorem own_T3 : ∀ k, k < 256 → (own_dig (own_gb (own_fit (Int32.ofNat k) 0 0) &&& (255 : Int32)) = 0 ∧ own_isc (own_gb (own_fit (Int32.ofNat k) 0 0) &&& (255 : Int32)) = 1 ∧ own_isc (own_gb (own_fit (Int32.ofNat k) 1 0) &&& (255 : Int32)) = 1) := by decide +kernel
theorem own_fit0 (r q : Int32) : own_fit r (0 : Int32) q &&& (255 : Int32) = own_fit r (0 : Int32) q := by
  obtain ⟨k, hk, e⟩ := own_byte r
  rw [own_fitm, e]
  by_cases hq : q = (0 : Int32)
  · subst hq; exact (own_T1 k hk).2.2.1
  · rw [own_fitq _ _ hq]; exact (own_T1 k hk).1
theorem own_fit1 (r q : Int32) : own_fit r (1 : Int32) q &&& (255 : Int32) = own_fit r (1 : Int32) q := by
  obtain ⟨k, hk, e⟩ := own_byte r
  rw [own_fitm, e]
  by_cases hq : q = (0 : Int32)
  · subst hq; exact (own_T1 k hk).2.2.2
  · rw [own_fitq _ _ hq]; exact (own_T1 k hk).2.1
theorem own_g0 {n : Int32} (c d : Int32) (h : ¬ n = (0 : Int32)) : own_g n c d 0 = own_gb c := by
  unfold own_g own_cs
  rw [if_neg h]
  split <;> rfl
theorem own_g1 {n : Int32} (c d : Int32) (h : n = (2 : Int32)) : own_g n c d 1 = own_gb d := by
  subst h
  rfl
theorem own_f2 {g : Nat → Int32} {b : Int32} (N : Nat) (hN : N ≤ 2) (h0 : 1 ≤ N → g 0 ≠ b) (h1 : N = 2 → g 1 ≠ b) : own_find g b N 0 (0 : Int32) = -1 := by
  match N, hN with
  | 0, _ => rfl
  | 1, _ => simp [own_find, h0 (by omega)]
  | 2, _ => simp [own_find, h0 (by omega), h1 rfl]
theorem own_okf {n q : Int32} (r u : Int32) (N : Nat) (hN : n.toInt = (N : Int)) (h3 : n = (0 : Int32) ∨ n = (1 : Int32) ∨ n = (2 : Int32)) (hq0 : n = (0 : Int32) → ¬ q = (0 : Int32)) : own_ok q N (own_g n (own_fit r (0 : Int32) q) (own_fit u (1 : Int32) q)) := by
  obtain ⟨k, hk, e⟩ := own_byte r
  obtain ⟨k2, hk2, e2⟩ := own_byte u
  rw [own_fitm r, own_fitm u, e, e2]
  have n2 : N ≤ 2 := by rcases h3 with rfl | rfl | rfl <;> (revert hN; first | (have q : (0 : Int32).toInt = 0 := (by decide); omega) | (have q : (1 : Int32).toInt = 1 := (by decide); omega) | (have q : (2 : Int32).toInt = 2 := (by decide); omega))
  have e0 : 1 ≤ N → ¬ n = (0 : Int32) := fun h q => by
    subst q
    have q : (0 : Int32).toInt = 0 := (by decide)
    omega
  have e1 : N = 2 → n = (2 : Int32) := fun h => Int32.toInt_inj.mp (by rw [hN, h]; decide)
  refine ⟨fun hq => ?_, fun hq => ?_⟩
  · rw [own_fitq _ _ hq, own_fitq _ _ hq]
    have t1 := own_T2 k hk
    have t2 := own_T2 k2 hk2
    exact ⟨own_f2 N n2 (fun h => by rw [own_g0 _ _ (e0 h)]; exact t1.1) (fun h => by rw [own_g1 _ _ (e1 h)]; exact t2.2.2.1), own_f2 N n2 (fun h => by rw [own_g0 _ _ (e0 h)]; exact t1.2.1) (fun h => by rw [own_g1 _ _ (e1 h)]; exact t2.2.2.2)⟩
  · subst hq
    have n0 : ¬ n = (0 : Int32) := fun q => hq0 q rfl
    have n1 : 1 ≤ N := by
      rcases Nat.eq_zero_or_pos N with z | z
      · exact absurd (Int32.toInt_inj.mp (by rw [hN, z]; decide)) n0
      · exact z
    have t1 := own_T3 k hk
    have t2 := own_T3 k2 hk2
    exact ⟨n1, n2, by rw [own_g0 _ _ n0]; exact t1.1, by rw [own_g0 _ _ n0]; exact t1.2.1, fun h => by rw [own_g1 _ _ (e1 h)]; exact t2.2.2⟩
theorem own_sm {A B : List Int32} {l k a b c d : Int32} (h : A = B ↔ (l = k ∧ (l < (1 : Int32) ∨ a = c) ∧ (l < (2 : Int32) ∨ b = d))) : (if A = B then (1 : Int32) else (0 : Int32)) = (if l = k then (if l < (1 : Int32) then (if l < (2 : Int32) then (1 : Int32) else (if b = d then (1 : Int32) else (0 : Int32))) else (if a = c then (if l < (2 : Int32) then (1 : Int32) else (if b = d then (1 : Int32) else (0 : Int32))) else (0 : Int32))) else (0 : Int32)) := by
  by_cases h1 : l = k <;> by_cases h2 : l < (1 : Int32) <;> by_cases h3 : l < (2 : Int32) <;> by_cases h4 : a = c <;> by_cases h5 : b = d <;> simp only [h, h1, h2, h3, h4, h5, true_and, and_true, false_and, and_false, or_true, true_or, or_false, false_or, if_true, if_false, ite_true, ite_false] <;> first | done | (subst h1; simp [h2, h3, h4, h5])
theorem own_sn {A B : List Int32} {l k a b c d : Int32} (h : A = B ↔ (l = k ∧ (l < (1 : Int32) ∨ a = c) ∧ (l < (2 : Int32) ∨ b = d))) : (if B = A then (1 : Int32) else (0 : Int32)) = (if l = k then (if l < (1 : Int32) then (if l < (2 : Int32) then (1 : Int32) else (if b = d then (1 : Int32) else (0 : Int32))) else (if a = c then (if l < (2 : Int32) then (1 : Int32) else (if b = d then (1 : Int32) else (0 : Int32))) else (0 : Int32))) else (0 : Int32)) := own_sm (eq_comm.trans h)
theorem ef_rm0 (m : MethodId) (x0 : Int32) (x1 : Int32) (x2 : Int32) (x3 : Int32) (x4 : Int32) : entryFrame m #[(.int x0), (.int x1), (.int x2), (.int x3), (.int x4)] maxLocals = mkF m 0 #[.val (.int x0), .val (.int x1), .val (.int x2), .val (.int x3), .val (.int x4), .unset, .unset, .unset, .unset, .unset, .unset, .unset, .unset, .unset, .unset, .unset, .unset, .unset, .unset, .unset, .unset, .unset] [] := by first | (simp [entryFrame, mkF, argsToLocals, Value.category, maxLocals]; done) | rfl
def Qrm0 (Z : State) (x0 : Int32) (x1 : Int32) (x2 : Int32) (x3 : Int32) (x4 : Int32) (cS : Int32) (fo : Value) (h0 : Heap) (n0 : Nat) (v_ : Option Value) (h_ : Heap) (L_ : List Loc) : Prop := v_ = some (.int (1 : Int32)) ∧ Fr n0 L_ ∧ Keep h0 h_ []
theorem pd_16 : parseMethodDescriptor "(IIZ)C" = some ⟨[.int, .int, .boolean], some .char⟩ := by decide +kernel
theorem pd_17 : parseMethodDescriptor "([C)V" = some ⟨[(.array .char)], none⟩ := by decide +kernel
theorem pd_18 : parseMethodDescriptor "(Ljava/lang/String;Z)V" = some ⟨[(.object "java/lang/String"), .boolean], none⟩ := by decide +kernel
set_option maxRecDepth 65536 in
set_option maxHeartbeats 40000000 in
theorem rm0 (l : Launch) (Z : State) (a0 : Array Value) (hw : ∀ d ∈ tables_1, d.before a0 Z = true) (ws : List Jvm.Cond) (x0 : Int32) (x1 : Int32) (x2 : Int32) (x3 : Int32) (x4 : Int32) (cS : Int32) (fo : Value) (h0 : Heap) (n0 : Nat) (Z0 : n0 ≤ h0.size) (OS : Sta Z h0 "java/lang/String" "COMPACT_STRINGS" "Z" (.int cS)) (H_cs : ¬ cS = (0 : Int32)) (OF : Sta Z h0 "jdk/internal/util/Preconditions" "SIOOBE_FORMATTER" "Ljava/util/function/BiFunction;" fo) (Hfo : fo.isRef = true) (HO : Old Z n0 h0) (HW : Jvm.Lit.compactW.before a0 Z = true) (HC0 : Jvm.Lit.constHeld Z "java/lang/String" 7) (HC1 : Jvm.Lit.constHeld Z "com/example/map_rewriter/maprewriter/core/Symbol" 7) (HC2 : Jvm.Lit.constHeld Z "com/example/map_rewriter/maprewriter/core/Symbol" 76) :
    MetFree l x (head1 (Jvm.Cond.code x code maxLocals ret :: ws) room_1) (fun as_ U_ => as_ = #[(.int x0), (.int x1), (.int x2), (.int x3), (.int x4)] ∧ Z.Warmed39 U_.vm ∧ U_.heap = h0 ∧ KS Z own_KL U_.vm U_.heap) (fun _ _ _ _ _ => True) (fun _ U_ o_ V_ => ∃ v_ L_, o_ = .returned v_ ∧ Qrm0 Z x0 x1 x2 x3 x4 cS fo h0 n0 v_ V_.heap L_ ∧ KS Z own_KL V_.vm V_.heap ∧ ReturnedEndW U_ o_ V_ L_ room_1.cells room_1.slots) := by
  refine MetFree.of_bodySF (plainFor_of_name pn_com_example_map_rewriter_maprewriter_core_SymbolEqualsPinLaw) hisR ?_
  intro p e s m args below meth c s₁ Bd hml0 hP hK
  obtain ⟨rfl, hZ, hh, hKs⟩ := hP
  have hx := Bd.exec
  have hby := Bd.bytes
  have hlk : meth.locks = false := BodyLoose.notSynchronized Bd
  have hret := Bd.returns
  have hml : c.maxLocals = 22 := hml0
  have hown : s.vm.findClass "com/example/map_rewriter/maprewriter/core/SymbolEqualsPinLaw" = some m.cls := findClass_of_methodNamed Bd.named
  have hnm := (name_of_methodNamed Bd.named Bd.method).1
  have X0 : Stand p l e room_1 (s.setVm s.vm) m #[(.int x0), (.int x1), (.int x2), (.int x3), (.int x4)] below meth c s₁ [] 0 0 := Stand.of_body Bd
  have e0 : s₁.heap = h0 := by rw [← hh, Bd.state]; rfl
  have N0 := Fr.nil n0
  show Goes p e below (Fin_W s (Qrm0 Z x0 x1 x2 x3 x4 cS fo h0 n0) (fun U_ => KS Z own_KL U_.vm U_.heap) room_1.cells room_1.slots) (s₁.setTop (entryFrame m #[(.int x0), (.int x1), (.int x2), (.int x3), (.int x4)] maxLocals))
  rw [ef_rm0 m x0 x1 x2 x3 x4]
  have SI0 : s.Since s.vm 0 := (State.WarmedH.refl s).since 0
  have Ks0 : KS Z own_KL s.vm h0 := hh ▸ hKs
  refine gILN X0 hx hby at_0 rfl ?_
  refine gIC (z := 3) X0 hx hby at_1 rfl ?_
  refine Goes.via (fun _ kk_ => XS.iand X0.here hx rfl (hb hby at_2) rfl kk_) ?_
  show Goes p e below _ (s₁.setTop (mkF m 3 #[vi x0, vi x1, vi x2, vi x3, vi x4, .unset, .unset, .unset, .unset, .unset, .unset, .unset, .unset, .unset, .unset, .unset, .unset, .unset, .unset, .unset, .unset, .unset] [(.int (x0 &&& (3 : Int32)))]))
  refine gIC (z := 3) X0 hx hby at_3 rfl ?_
  refine Goes.via (fun _ kk_ => iremM X0 hx rfl (hb hby at_4) rfl (by decide) kk_) ?_
  show Goes p e below _ (s₁.setTop (mkF m 5 #[vi x0, vi x1, vi x2, vi x3, vi x4, .unset, .unset, .unset, .unset, .unset, .unset, .unset, .unset, .unset, .unset, .unset, .unset, .unset, .unset, .unset, .unset, .unset] [(.int ((x0 &&& (3 : Int32)) % (3 : Int32)))]))
  refine Goes.via (fun _ kk_ => XS.istore X0.here hx rfl (hb hby at_5) rfl (l' := #[vi x0, vi x1, vi x2, vi x3, vi x4, vi ((x0 &&& (3 : Int32)) % (3 : Int32)), .unset, .unset, .unset, .unset, .unset, .unset, .unset, .unset, .unset, .unset, .unset, .unset, .unset, .unset, .unset, .unset]) rfl kk_) ?_
  show Goes p e below _ (s₁.setTop (mkF m 7 #[vi x0, vi x1, vi x2, vi x3, vi x4, vi ((x0 &&& (3 : Int32)) % (3 : Int32)), .unset, .unset, .unset, .unset, .unset, .unset, .unset, .unset, .unset, .unset, .unset, .unset, .unset, .unset, .unset, .unset] []))
  generalize hv_v5_1 : ((x0 &&& (3 : Int32)) % (3 : Int32)) = v5_1
  show Goes p e below _ (s₁.setTop (mkF m 7 #[vi x0, vi x1, vi x2, vi x3, vi x4, vi v5_1, .unset, .unset, .unset, .unset, .unset, .unset, .unset, .unset, .unset, .unset, .unset, .unset, .unset, .unset, .unset, .unset] []))
  refine gILN X0 hx hby at_7 rfl ?_
  refine gIC (z := 4) X0 hx hby at_8 rfl ?_
  refine Goes.via (fun _ kk_ => XS.iand X0.here hx rfl (hb hby at_9) rfl kk_) ?_
  show Goes p e below _ (s₁.setTop (mkF m 10 #[vi x0, vi x1, vi x2, vi x3, vi x4, vi v5_1, .unset, .unset, .unset, .unset, .unset, .unset, .unset, .unset, .unset, .unset, .unset, .unset, .unset, .unset, .unset, .unset] [(.int (x0 &&& (4 : Int32)))]))
  obtain ⟨jj2, hv_jj2⟩ : ∃ z : Int32, z = (if (x0 &&& (4 : Int32)) = (0 : Int32) then (0 : Int32) else (1 : Int32)) := ⟨_, rfl⟩
  suffices J : Goes p e below (Fin_W s (Qrm0 Z x0 x1 x2 x3 x4 cS fo h0 n0) (fun U_ => KS Z own_KL U_.vm U_.heap) room_1.cells room_1.slots) (s₁.setTop (mkF m 18 #[vi x0, vi x1, vi x2, vi x3, vi x4, vi v5_1, .unset, .unset, .unset, .unset, .unset, .unset, .unset, .unset, .unset, .unset, .unset, .unset, .unset, .unset, .unset, .unset] [(.int jj2)])) by
    by_cases hc10 : (x0 &&& (4 : Int32)) = (0 : Int32)
    · skip
      rw [show jj2 = (0 : Int32) from hv_jj2.trans (if_pos hc10)] at J
      refine Goes.via (fun _ kk_ => XS.ifYes X0.here hx rfl (pc0 := 10) (pc' := 17) rfl (hb hby at_10) rfl ((if0 _ _).trans (teq hc10).1) (by decide) (by decide) kk_) ?_
      show Goes p e below _ (s₁.setTop (mkF m 17 #[vi x0, vi x1, vi x2, vi x3, vi x4, vi v5_1, .unset, .unset, .unset, .unset, .unset, .unset, .unset, .unset, .unset, .unset, .unset, .unset, .unset, .unset, .unset, .unset] []))
      refine gIC (z := 0) X0 hx hby at_17 rfl ?_
      show Goes p e below _ (s₁.setTop (mkF m 18 #[vi x0, vi x1, vi x2, vi x3, vi x4, vi v5_1, .unset, .unset, .unset, .unset, .unset, .unset, .unset, .unset, .unset, .unset, .unset, .unset, .unset, .unset, .unset, .unset] [(.int (0 : Int32))]))
      exact J
    · skip
      rw [show jj2 = (1 : Int32) from hv_jj2.trans (if_neg hc10)] at J
      refine Goes.via (fun _ kk_ => XS.ifNo X0.here hx rfl (hb hby at_10) rfl ((if0 _ _).trans (feq hc10).1) kk_) ?_
      show Goes p e below _ (s₁.setTop (mkF m 13 #[vi x0, vi x1, vi x2, vi x3, vi x4, vi v5_1, .unset, .unset, .unset, .unset, .unset, .unset, .unset, .unset, .unset, .unset, .unset, .unset, .unset, .unset, .unset, .unset] []))
      refine gIC (z := 1) X0 hx hby at_13 rfl ?_
      refine Goes.via (fun _ kk_ => XS.goto X0.here hx rfl (pc0 := 14) (pc' := 18) rfl (hb hby at_14) (by decide) (by decide) kk_) ?_
      show Goes p e below _ (s₁.setTop (mkF m 18 #[vi x0, vi x1, vi x2, vi x3, vi x4, vi v5_1, .unset, .unset, .unset, .unset, .unset, .unset, .unset, .unset, .unset, .unset, .unset, .unset, .unset, .unset, .unset, .unset] [(.int (1 : Int32))]))
      exact J
  subst hv_jj2
  show Goes p e below _ (s₁.setTop (mkF m 18 #[vi x0, vi x1, vi x2, vi x3, vi x4, vi v5_1, .unset, .unset, .unset, .unset, .unset, .unset, .unset, .unset, .unset, .unset, .unset, .unset, .unset, .unset, .unset, .unset] [(.int (if (x0 &&& (4 : Int32)) = (0 : Int32) then (0 : Int32) else (1 : Int32)))]))
  refine Goes.via (fun _ kk_ => XS.istore X0.here hx rfl (hb hby at_18) rfl (l' := #[vi x0, vi x1, vi x2, vi x3, vi x4, vi v5_1, vi (if (x0 &&& (4 : Int32)) = (0 : Int32) then (0 : Int32) else (1 : Int32)), .unset, .unset, .unset, .unset, .unset, .unset, .unset, .unset, .unset, .unset, .unset, .unset, .unset, .unset, .unset]) rfl kk_) ?_
  show Goes p e below _ (s₁.setTop (mkF m 20 #[vi x0, vi x1, vi x2, vi x3, vi x4, vi v5_1, vi (if (x0 &&& (4 : Int32)) = (0 : Int32) then (0 : Int32) else (1 : Int32)), .unset, .unset, .unset, .unset, .unset, .unset, .unset, .unset, .unset, .unset, .unset, .unset, .unset, .unset, .unset] []))
  generalize hv_q1 : (if (x0 &&& (4 : Int32)) = (0 : Int32) then (0 : Int32) else (1 : Int32)) = q1
  show Goes p e below _ (s₁.setTop (mkF m 20 #[vi x0, vi x1, vi x2, vi x3, vi x4, vi v5_1, vi q1, .unset, .unset, .unset, .unset, .unset, .unset, .unset, .unset, .unset, .unset, .unset, .unset, .unset, .unset, .unset] []))
  refine gIL X0 hx hby at_20 rfl ?_
  obtain ⟨jj4, hv_jj4⟩ : ∃ z : Int32, z = (if q1 = (0 : Int32) then (if v5_1 = (0 : Int32) then (1 : Int32) else v5_1) else v5_1) := ⟨_, rfl⟩
  suffices J : Goes p e below (Fin_W s (Qrm0 Z x0 x1 x2 x3 x4 cS fo h0 n0) (fun U_ => KS Z own_KL U_.vm U_.heap) room_1.cells room_1.slots) (s₁.setTop (mkF m 33 #[vi x0, vi x1, vi x2, vi x3, vi x4, vi jj4, vi q1, .unset, .unset, .unset, .unset, .unset, .unset, .unset, .unset, .unset, .unset, .unset, .unset, .unset, .unset, .unset] [])) by
    by_cases hc22 : q1 = (0 : Int32)
    · skip
      rw [show jj4 = (if v5_1 = (0 : Int32) then (1 : Int32) else v5_1) from hv_jj4.trans (if_pos hc22)] at J
      refine Goes.via (fun _ kk_ => XS.ifNo X0.here hx rfl (hb hby at_22) rfl ((if0 _ _).trans (teq hc22).2) kk_) ?_
      show Goes p e below _ (s₁.setTop (mkF m 25 #[vi x0, vi x1, vi x2, vi x3, vi x4, vi v5_1, vi q1, .unset, .unset, .unset, .unset, .unset, .unset, .unset, .unset, .unset, .unset, .unset, .unset, .unset, .unset, .unset] []))
      refine gIL X0 hx hby at_25 rfl ?_
      obtain ⟨jj3, hv_jj3⟩ : ∃ z : Int32, z = (if v5_1 = (0 : Int32) then (1 : Int32) else v5_1) := ⟨_, rfl⟩
      suffices J : Goes p e below (Fin_W s (Qrm0 Z x0 x1 x2 x3 x4 cS fo h0 n0) (fun U_ => KS Z own_KL U_.vm U_.heap) room_1.cells room_1.slots) (s₁.setTop (mkF m 33 #[vi x0, vi x1, vi x2, vi x3, vi x4, vi jj3, vi q1, .unset, .unset, .unset, .unset, .unset, .unset, .unset, .unset, .unset, .unset, .unset, .unset, .unset, .unset, .unset] [])) by
        by_cases hc27 : v5_1 = (0 : Int32)
        · skip
          rw [show jj3 = (1 : Int32) from hv_jj3.trans (if_pos hc27)] at J
          refine Goes.via (fun _ kk_ => XS.ifNo X0.here hx rfl (hb hby at_27) rfl ((if0 _ _).trans (teq hc27).2) kk_) ?_
          show Goes p e below _ (s₁.setTop (mkF m 30 #[vi x0, vi x1, vi x2, vi x3, vi x4, vi v5_1, vi q1, .unset, .unset, .unset, .unset, .unset, .unset, .unset, .unset, .unset, .unset, .unset, .unset, .unset, .unset, .unset] []))
          refine gIC (z := 1) X0 hx hby at_30 rfl ?_
          refine Goes.via (fun _ kk_ => XS.istore X0.here hx rfl (hb hby at_31) rfl (l' := #[vi x0, vi x1, vi x2, vi x3, vi x4, vi (1 : Int32), vi q1, .unset, .unset, .unset, .unset, .unset, .unset, .unset, .unset, .unset, .unset, .unset, .unset, .unset, .unset, .unset]) rfl kk_) ?_
          show Goes p e below _ (s₁.setTop (mkF m 33 #[vi x0, vi x1, vi x2, vi x3, vi x4, vi (1 : Int32), vi q1, .unset, .unset, .unset, .unset, .unset, .unset, .unset, .unset, .unset, .unset, .unset, .unset, .unset, .unset, .unset] []))
          exact J
        · skip
          rw [show jj3 = v5_1 from hv_jj3.trans (if_neg hc27)] at J
          refine Goes.via (fun _ kk_ => XS.ifYes X0.here hx rfl (pc0 := 27) (pc' := 33) rfl (hb hby at_27) rfl ((if0 _ _).trans (feq hc27).2) (by decide) (by decide) kk_) ?_
          show Goes p e below _ (s₁.setTop (mkF m 33 #[vi x0, vi x1, vi x2, vi x3, vi x4, vi v5_1, vi q1, .unset, .unset, .unset, .unset, .unset, .unset, .unset, .unset, .unset, .unset, .unset, .unset, .unset, .unset, .unset] []))
          exact J
      subst hv_jj3
      show Goes p e below _ (s₁.setTop (mkF m 33 #[vi x0, vi x1, vi x2, vi x3, vi x4, vi (if v5_1 = (0 : Int32) then (1 : Int32) else v5_1), vi q1, .unset, .unset, .unset, .unset, .unset, .unset, .unset, .unset, .unset, .unset, .unset, .unset, .unset, .unset, .unset] []))
      exact J
    · skip
      rw [show jj4 = v5_1 from hv_jj4.trans (if_neg hc22)] at J
      refine Goes.via (fun _ kk_ => XS.ifYes X0.here hx rfl (pc0 := 22) (pc' := 33) rfl (hb hby at_22) rfl ((if0 _ _).trans (feq hc22).2) (by decide) (by decide) kk_) ?_
      show Goes p e below _ (s₁.setTop (mkF m 33 #[vi x0, vi x1, vi x2, vi x3, vi x4, vi v5_1, vi q1, .unset, .unset, .unset, .unset, .unset, .unset, .unset, .unset, .unset, .unset, .unset, .unset, .unset, .unset, .unset] []))
      exact J
  subst hv_jj4
  show Goes p e below _ (s₁.setTop (mkF m 33 #[vi x0, vi x1, vi x2, vi x3, vi x4, vi (if q1 = (0 : Int32) then (if v5_1 = (0 : Int32) then (1 : Int32) else v5_1) else v5_1), vi q1, .unset, .unset, .unset, .unset, .unset, .unset, .unset, .unset, .unset, .unset, .unset, .unset, .unset, .unset, .unset] []))
  obtain ⟨n1, hv_n1⟩ : ∃ z, z = (if q1 = (0 : Int32) then (if v5_1 = (0 : Int32) then (1 : Int32) else v5_1) else v5_1) := ⟨_, rfl⟩
  have hn1 := own_nn (by rw [← hv_v5_1]; exact own_012 _) hv_n1.symm
  rw [← hv_n1]
  show Goes p e below _ (s₁.setTop (mkF m 33 #[vi x0, vi x1, vi x2, vi x3, vi x4, vi n1, vi q1, .unset, .unset, .unset, .unset, .unset, .unset, .unset, .unset, .unset, .unset, .unset, .unset, .unset, .unset, .unset] []))
  refine gILN X0 hx hby at_33 rfl ?_
  refine gIC (z := 3) X0 hx hby at_34 rfl ?_
  refine Goes.via (fun _ kk_ => XS.ishr X0.here hx rfl (hb hby at_35) rfl kk_) ?_
  show Goes p e below _ (s₁.setTop (mkF m 36 #[vi x0, vi x1, vi x2, vi x3, vi x4, vi n1, vi q1, .unset, .unset, .unset, .unset, .unset, .unset, .unset, .unset, .unset, .unset, .unset, .unset, .unset, .unset, .unset] [(.int (x0 >>> ((3 : Int32) &&& 31)))]))
  refine gIC (z := 3) X0 hx hby at_36 rfl ?_
  refine Goes.via (fun _ kk_ => XS.iand X0.here hx rfl (hb hby at_37) rfl kk_) ?_
  show Goes p e below _ (s₁.setTop (mkF m 38 #[vi x0, vi x1, vi x2, vi x3, vi x4, vi n1, vi q1, .unset, .unset, .unset, .unset, .unset, .unset, .unset, .unset, .unset, .unset, .unset, .unset, .unset, .unset, .unset] [(.int ((x0 >>> ((3 : Int32) &&& 31)) &&& (3 : Int32)))]))
  refine gIC (z := 3) X0 hx hby at_38 rfl ?_
  refine Goes.via (fun _ kk_ => iremM X0 hx rfl (hb hby at_39) rfl (by decide) kk_) ?_
  show Goes p e below _ (s₁.setTop (mkF m 40 #[vi x0, vi x1, vi x2, vi x3, vi x4, vi n1, vi q1, .unset, .unset, .unset, .unset, .unset, .unset, .unset, .unset, .unset, .unset, .unset, .unset, .unset, .unset, .unset] [(.int (((x0 >>> ((3 : Int32) &&& 31)) &&& (3 : Int32)) % (3 : Int32)))]))
  refine Goes.via (fun _ kk_ => XS.istore X0.here hx rfl (hb hby at_40) rfl (l' := #[vi x0, vi x1, vi x2, vi x3, vi x4, vi n1, vi q1, vi (((x0 >>> ((3 : Int32) &&& 31)) &&& (3 : Int32)) % (3 : Int32)), .unset, .unset, .unset, .unset, .unset, .unset, .unset, .unset, .unset, .unset, .unset, .unset, .unset, .unset]) rfl kk_) ?_
  show Goes p e below _ (s₁.setTop (mkF m 42 #[vi x0, vi x1, vi x2, vi x3, vi x4, vi n1, vi q1, vi (((x0 >>> ((3 : Int32) &&& 31)) &&& (3 : Int32)) % (3 : Int32)), .unset, .unset, .unset, .unset, .unset, .unset, .unset, .unset, .unset, .unset, .unset, .unset, .unset, .unset] []))
  generalize hv_v7_5 : (((x0 >>> ((3 : Int32) &&& 31)) &&& (3 : Int32)) % (3 : Int32)) = v7_5
  show Goes p e below _ (s₁.setTop (mkF m 42 #[vi x0, vi x1, vi x2, vi x3, vi x4, vi n1, vi q1, vi v7_5, .unset, .unset, .unset, .unset, .unset, .unset, .unset, .unset, .unset, .unset, .unset, .unset, .unset, .unset] []))
  refine gILN X0 hx hby at_42 rfl ?_
  refine gBI (z := 32) X0 hx hby at_43 rfl ?_
  refine Goes.via (fun _ kk_ => XS.iand X0.here hx rfl (hb hby at_45) rfl kk_) ?_
  show Goes p e below _ (s₁.setTop (mkF m 46 #[vi x0, vi x1, vi x2, vi x3, vi x4, vi n1, vi q1, vi v7_5, .unset, .unset, .unset, .unset, .unset, .unset, .unset, .unset, .unset, .unset, .unset, .unset, .unset, .unset] [(.int (x0 &&& (32 : Int32)))]))
  obtain ⟨jj6, hv_jj6⟩ : ∃ z : Int32, z = (if (x0 &&& (32 : Int32)) = (0 : Int32) then (0 : Int32) else (1 : Int32)) := ⟨_, rfl⟩
  suffices J : Goes p e below (Fin_W s (Qrm0 Z x0 x1 x2 x3 x4 cS fo h0 n0) (fun U_ => KS Z own_KL U_.vm U_.heap) room_1.cells room_1.slots) (s₁.setTop (mkF m 54 #[vi x0, vi x1, vi x2, vi x3, vi x4, vi n1, vi q1, vi v7_5, .unset, .unset, .unset, .unset, .unset, .unset, .unset, .unset, .unset, .unset, .unset, .unset, .unset, .unset] [(.int jj6)])) by
    by_cases hc46 : (x0 &&& (32 : Int32)) = (0 : Int32)
    · skip
      rw [show jj6 = (0 : Int32) from hv_jj6.trans (if_pos hc46)] at J
      refine Goes.via (fun _ kk_ => XS.ifYes X0.here hx rfl (pc0 := 46) (pc' := 53) rfl (hb hby at_46) rfl ((if0 _ _).trans (teq hc46).1) (by decide) (by decide) kk_) ?_
      show Goes p e below _ (s₁.setTop (mkF m 53 #[vi x0, vi x1, vi x2, vi x3, vi x4, vi n1, vi q1, vi v7_5, .unset, .unset, .unset, .unset, .unset, .unset, .unset, .unset, .unset, .unset, .unset, .unset, .unset, .unset] []))
      refine gIC (z := 0) X0 hx hby at_53 rfl ?_
      show Goes p e below _ (s₁.setTop (mkF m 54 #[vi x0, vi x1, vi x2, vi x3, vi x4, vi n1, vi q1, vi v7_5, .unset, .unset, .unset, .unset, .unset, .unset, .unset, .unset, .unset, .unset, .unset, .unset, .unset, .unset] [(.int (0 : Int32))]))
      exact J
    · skip
      rw [show jj6 = (1 : Int32) from hv_jj6.trans (if_neg hc46)] at J
      refine Goes.via (fun _ kk_ => XS.ifNo X0.here hx rfl (hb hby at_46) rfl ((if0 _ _).trans (feq hc46).1) kk_) ?_
      show Goes p e below _ (s₁.setTop (mkF m 49 #[vi x0, vi x1, vi x2, vi x3, vi x4, vi n1, vi q1, vi v7_5, .unset, .unset, .unset, .unset, .unset, .unset, .unset, .unset, .unset, .unset, .unset, .unset, .unset, .unset] []))
      refine gIC (z := 1) X0 hx hby at_49 rfl ?_
      refine Goes.via (fun _ kk_ => XS.goto X0.here hx rfl (pc0 := 50) (pc' := 54) rfl (hb hby at_50) (by decide) (by decide) kk_) ?_
      show Goes p e below _ (s₁.setTop (mkF m 54 #[vi x0, vi x1, vi x2, vi x3, vi x4, vi n1, vi q1, vi v7_5, .unset, .unset, .unset, .unset, .unset, .unset, .unset, .unset, .unset, .unset, .unset, .unset, .unset, .unset] [(.int (1 : Int32))]))
      exact J
  subst hv_jj6
  show Goes p e below _ (s₁.setTop (mkF m 54 #[vi x0, vi x1, vi x2, vi x3, vi x4, vi n1, vi q1, vi v7_5, .unset, .unset, .unset, .unset, .unset, .unset, .unset, .unset, .unset, .unset, .unset, .unset, .unset, .unset] [(.int (if (x0 &&& (32 : Int32)) = (0 : Int32) then (0 : Int32) else (1 : Int32)))]))
  refine Goes.via (fun _ kk_ => XS.istore X0.here hx rfl (hb hby at_54) rfl (l' := #[vi x0, vi x1, vi x2, vi x3, vi x4, vi n1, vi q1, vi v7_5, vi (if (x0 &&& (32 : Int32)) = (0 : Int32) then (0 : Int32) else (1 : Int32)), .unset, .unset, .unset, .unset, .unset, .unset, .unset, .unset, .unset, .unset, .unset, .unset, .unset]) rfl kk_) ?_
  show Goes p e below _ (s₁.setTop (mkF m 56 #[vi x0, vi x1, vi x2, vi x3, vi x4, vi n1, vi q1, vi v7_5, vi (if (x0 &&& (32 : Int32)) = (0 : Int32) then (0 : Int32) else (1 : Int32)), .unset, .unset, .unset, .unset, .unset, .unset, .unset, .unset, .unset, .unset, .unset, .unset, .unset] []))
  generalize hv_q2 : (if (x0 &&& (32 : Int32)) = (0 : Int32) then (0 : Int32) else (1 : Int32)) = q2
  show Goes p e below _ (s₁.setTop (mkF m 56 #[vi x0, vi x1, vi x2, vi x3, vi x4, vi n1, vi q1, vi v7_5, vi q2, .unset, .unset, .unset, .unset, .unset, .unset, .unset, .unset, .unset, .unset, .unset, .unset, .unset] []))
  refine gIL X0 hx hby at_56 rfl ?_
  obtain ⟨jj8, hv_jj8⟩ : ∃ z : Int32, z = (if q2 = (0 : Int32) then (if v7_5 = (0 : Int32) then (1 : Int32) else v7_5) else v7_5) := ⟨_, rfl⟩
  suffices J : Goes p e below (Fin_W s (Qrm0 Z x0 x1 x2 x3 x4 cS fo h0 n0) (fun U_ => KS Z own_KL U_.vm U_.heap) room_1.cells room_1.slots) (s₁.setTop (mkF m 69 #[vi x0, vi x1, vi x2, vi x3, vi x4, vi n1, vi q1, vi jj8, vi q2, .unset, .unset, .unset, .unset, .unset, .unset, .unset, .unset, .unset, .unset, .unset, .unset, .unset] [])) by
    by_cases hc58 : q2 = (0 : Int32)
    · skip
      rw [show jj8 = (if v7_5 = (0 : Int32) then (1 : Int32) else v7_5) from hv_jj8.trans (if_pos hc58)] at J
      refine Goes.via (fun _ kk_ => XS.ifNo X0.here hx rfl (hb hby at_58) rfl ((if0 _ _).trans (teq hc58).2) kk_) ?_
      show Goes p e below _ (s₁.setTop (mkF m 61 #[vi x0, vi x1, vi x2, vi x3, vi x4, vi n1, vi q1, vi v7_5, vi q2, .unset, .unset, .unset, .unset, .unset, .unset, .unset, .unset, .unset, .unset, .unset, .unset, .unset] []))
      refine gIL X0 hx hby at_61 rfl ?_
      obtain ⟨jj7, hv_jj7⟩ : ∃ z : Int32, z = (if v7_5 = (0 : Int32) then (1 : Int32) else v7_5) := ⟨_, rfl⟩
      suffices J : Goes p e below (Fin_W s (Qrm0 Z x0 x1 x2 x3 x4 cS fo h0 n0) (fun U_ => KS Z own_KL U_.vm U_.heap) room_1.cells room_1.slots) (s₁.setTop (mkF m 69 #[vi x0, vi x1, vi x2, vi x3, vi x4, vi n1, vi q1, vi jj7, vi q2, .unset, .unset, .unset, .unset, .unset, .unset, .unset, .unset, .unset, .unset, .unset, .unset, .unset] [])) by
        by_cases hc63 : v7_5 = (0 : Int32)
        · skip
          rw [show jj7 = (1 : Int32) from hv_jj7.trans (if_pos hc63)] at J
          refine Goes.via (fun _ kk_ => XS.ifNo X0.here hx rfl (hb hby at_63) rfl ((if0 _ _).trans (teq hc63).2) kk_) ?_
          show Goes p e below _ (s₁.setTop (mkF m 66 #[vi x0, vi x1, vi x2, vi x3, vi x4, vi n1, vi q1, vi v7_5, vi q2, .unset, .unset, .unset, .unset, .unset, .unset, .unset, .unset, .unset, .unset, .unset, .unset, .unset] []))
          refine gIC (z := 1) X0 hx hby at_66 rfl ?_
          refine Goes.via (fun _ kk_ => XS.istore X0.here hx rfl (hb hby at_67) rfl (l' := #[vi x0, vi x1, vi x2, vi x3, vi x4, vi n1, vi q1, vi (1 : Int32), vi q2, .unset, .unset, .unset, .unset, .unset, .unset, .unset, .unset, .unset, .unset, .unset, .unset, .unset]) rfl kk_) ?_
          show Goes p e below _ (s₁.setTop (mkF m 69 #[vi x0, vi x1, vi x2, vi x3, vi x4, vi n1, vi q1, vi (1 : Int32), vi q2, .unset, .unset, .unset, .unset, .unset, .unset, .unset, .unset, .unset, .unset, .unset, .unset, .unset] []))
          exact J
        · skip
          rw [show jj7 = v7_5 from hv_jj7.trans (if_neg hc63)] at J
          refine Goes.via (fun _ kk_ => XS.ifYes X0.here hx rfl (pc0 := 63) (pc' := 69) rfl (hb hby at_63) rfl ((if0 _ _).trans (feq hc63).2) (by decide) (by decide) kk_) ?_
          show Goes p e below _ (s₁.setTop (mkF m 69 #[vi x0, vi x1, vi x2, vi x3, vi x4, vi n1, vi q1, vi v7_5, vi q2, .unset, .unset, .unset, .unset, .unset, .unset, .unset, .unset, .unset, .unset, .unset, .unset, .unset] []))
          exact J
      subst hv_jj7
      show Goes p e below _ (s₁.setTop (mkF m 69 #[vi x0, vi x1, vi x2, vi x3, vi x4, vi n1, vi q1, vi (if v7_5 = (0 : Int32) then (1 : Int32) else v7_5), vi q2, .unset, .unset, .unset, .unset, .unset, .unset, .unset, .unset, .unset, .unset, .unset, .unset, .unset] []))
      exact J
    · skip
      rw [show jj8 = v7_5 from hv_jj8.trans (if_neg hc58)] at J
      refine Goes.via (fun _ kk_ => XS.ifYes X0.here hx rfl (pc0 := 58) (pc' := 69) rfl (hb hby at_58) rfl ((if0 _ _).trans (feq hc58).2) (by decide) (by decide) kk_) ?_
      show Goes p e below _ (s₁.setTop (mkF m 69 #[vi x0, vi x1, vi x2, vi x3, vi x4, vi n1, vi q1, vi v7_5, vi q2, .unset, .unset, .unset, .unset, .unset, .unset, .unset, .unset, .unset, .unset, .unset, .unset, .unset] []))
      exact J
  subst hv_jj8
  show Goes p e below _ (s₁.setTop (mkF m 69 #[vi x0, vi x1, vi x2, vi x3, vi x4, vi n1, vi q1, vi (if q2 = (0 : Int32) then (if v7_5 = (0 : Int32) then (1 : Int32) else v7_5) else v7_5), vi q2, .unset, .unset, .unset, .unset, .unset, .unset, .unset, .unset, .unset, .unset, .unset, .unset, .unset] []))
  obtain ⟨n2, hv_n2⟩ : ∃ z, z = (if q2 = (0 : Int32) then (if v7_5 = (0 : Int32) then (1 : Int32) else v7_5) else v7_5) := ⟨_, rfl⟩
  have hn2 := own_nn (by rw [← hv_v7_5]; exact own_012 _) hv_n2.symm
  rw [← hv_n2]
  show Goes p e below _ (s₁.setTop (mkF m 69 #[vi x0, vi x1, vi x2, vi x3, vi x4, vi n1, vi q1, vi n2, vi q2, .unset, .unset, .unset, .unset, .unset, .unset, .unset, .unset, .unset, .unset, .unset, .unset, .unset] []))
  refine gILN X0 hx hby at_69 rfl ?_
  refine gBI (z := 64) X0 hx hby at_70 rfl ?_
  refine Goes.via (fun _ kk_ => XS.iand X0.here hx rfl (hb hby at_72) rfl kk_) ?_
  show Goes p e below _ (s₁.setTop (mkF m 73 #[vi x0, vi x1, vi x2, vi x3, vi x4, vi n1, vi q1, vi n2, vi q2, .unset, .unset, .unset, .unset, .unset, .unset, .unset, .unset, .unset, .unset, .unset, .unset, .unset] [(.int (x0 &&& (64 : Int32)))]))
  obtain ⟨jj9, hv_jj9⟩ : ∃ z : Int32, z = (if (x0 &&& (64 : Int32)) = (0 : Int32) then (0 : Int32) else (1 : Int32)) := ⟨_, rfl⟩
  suffices J : Goes p e below (Fin_W s (Qrm0 Z x0 x1 x2 x3 x4 cS fo h0 n0) (fun U_ => KS Z own_KL U_.vm U_.heap) room_1.cells room_1.slots) (s₁.setTop (mkF m 81 #[vi x0, vi x1, vi x2, vi x3, vi x4, vi n1, vi q1, vi n2, vi q2, .unset, .unset, .unset, .unset, .unset, .unset, .unset, .unset, .unset, .unset, .unset, .unset, .unset] [(.int jj9)])) by
    by_cases hc73 : (x0 &&& (64 : Int32)) = (0 : Int32)
    · skip
      rw [show jj9 = (0 : Int32) from hv_jj9.trans (if_pos hc73)] at J
      refine Goes.via (fun _ kk_ => XS.ifYes X0.here hx rfl (pc0 := 73) (pc' := 80) rfl (hb hby at_73) rfl ((if0 _ _).trans (teq hc73).1) (by decide) (by decide) kk_) ?_
      show Goes p e below _ (s₁.setTop (mkF m 80 #[vi x0, vi x1, vi x2, vi x3, vi x4, vi n1, vi q1, vi n2, vi q2, .unset, .unset, .unset, .unset, .unset, .unset, .unset, .unset, .unset, .unset, .unset, .unset, .unset] []))
      refine gIC (z := 0) X0 hx hby at_80 rfl ?_
      show Goes p e below _ (s₁.setTop (mkF m 81 #[vi x0, vi x1, vi x2, vi x3, vi x4, vi n1, vi q1, vi n2, vi q2, .unset, .unset, .unset, .unset, .unset, .unset, .unset, .unset, .unset, .unset, .unset, .unset, .unset] [(.int (0 : Int32))]))
      exact J
    · skip
      rw [show jj9 = (1 : Int32) from hv_jj9.trans (if_neg hc73)] at J
      refine Goes.via (fun _ kk_ => XS.ifNo X0.here hx rfl (hb hby at_73) rfl ((if0 _ _).trans (feq hc73).1) kk_) ?_
      show Goes p e below _ (s₁.setTop (mkF m 76 #[vi x0, vi x1, vi x2, vi x3, vi x4, vi n1, vi q1, vi n2, vi q2, .unset, .unset, .unset, .unset, .unset, .unset, .unset, .unset, .unset, .unset, .unset, .unset, .unset] []))
      refine gIC (z := 1) X0 hx hby at_76 rfl ?_
      refine Goes.via (fun _ kk_ => XS.goto X0.here hx rfl (pc0 := 77) (pc' := 81) rfl (hb hby at_77) (by decide) (by decide) kk_) ?_
      show Goes p e below _ (s₁.setTop (mkF m 81 #[vi x0, vi x1, vi x2, vi x3, vi x4, vi n1, vi q1, vi n2, vi q2, .unset, .unset, .unset, .unset, .unset, .unset, .unset, .unset, .unset, .unset, .unset, .unset, .unset] [(.int (1 : Int32))]))
      exact J
  subst hv_jj9
  show Goes p e below _ (s₁.setTop (mkF m 81 #[vi x0, vi x1, vi x2, vi x3, vi x4, vi n1, vi q1, vi n2, vi q2, .unset, .unset, .unset, .unset, .unset, .unset, .unset, .unset, .unset, .unset, .unset, .unset, .unset] [(.int (if (x0 &&& (64 : Int32)) = (0 : Int32) then (0 : Int32) else (1 : Int32)))]))
  refine Goes.via (fun _ kk_ => XS.istore X0.here hx rfl (hb hby at_81) rfl (l' := #[vi x0, vi x1, vi x2, vi x3, vi x4, vi n1, vi q1, vi n2, vi q2, vi (if (x0 &&& (64 : Int32)) = (0 : Int32) then (0 : Int32) else (1 : Int32)), .unset, .unset, .unset, .unset, .unset, .unset, .unset, .unset, .unset, .unset, .unset, .unset]) rfl kk_) ?_
  show Goes p e below _ (s₁.setTop (mkF m 83 #[vi x0, vi x1, vi x2, vi x3, vi x4, vi n1, vi q1, vi n2, vi q2, vi (if (x0 &&& (64 : Int32)) = (0 : Int32) then (0 : Int32) else (1 : Int32)), .unset, .unset, .unset, .unset, .unset, .unset, .unset, .unset, .unset, .unset, .unset, .unset] []))
  generalize hv_cp : (if (x0 &&& (64 : Int32)) = (0 : Int32) then (0 : Int32) else (1 : Int32)) = cp
  show Goes p e below _ (s₁.setTop (mkF m 83 #[vi x0, vi x1, vi x2, vi x3, vi x4, vi n1, vi q1, vi n2, vi q2, vi cp, .unset, .unset, .unset, .unset, .unset, .unset, .unset, .unset, .unset, .unset, .unset, .unset] []))
  refine gIL X0 hx hby at_83 rfl ?_
  obtain ⟨jj10, hv_jj10⟩ : ∃ z : Int32, z = (if cp = (0 : Int32) then x3 else x1) := ⟨_, rfl⟩
  suffices J : Goes p e below (Fin_W s (Qrm0 Z x0 x1 x2 x3 x4 cS fo h0 n0) (fun U_ => KS Z own_KL U_.vm U_.heap) room_1.cells room_1.slots) (s₁.setTop (mkF m 93 #[vi x0, vi x1, vi x2, vi x3, vi x4, vi n1, vi q1, vi n2, vi q2, vi cp, .unset, .unset, .unset, .unset, .unset, .unset, .unset, .unset, .unset, .unset, .unset, .unset] [(.int jj10)])) by
    by_cases hc85 : cp = (0 : Int32)
    · skip
      rw [show jj10 = x3 from hv_jj10.trans (if_pos hc85)] at J
      refine Goes.via (fun _ kk_ => XS.ifYes X0.here hx rfl (pc0 := 85) (pc' := 92) rfl (hb hby at_85) rfl ((if0 _ _).trans (teq hc85).1) (by decide) (by decide) kk_) ?_
      show Goes p e below _ (s₁.setTop (mkF m 92 #[vi x0, vi x1, vi x2, vi x3, vi x4, vi n1, vi q1, vi n2, vi q2, vi cp, .unset, .unset, .unset, .unset, .unset, .unset, .unset, .unset, .unset, .unset, .unset, .unset] []))
      refine gILN X0 hx hby at_92 rfl ?_
      show Goes p e below _ (s₁.setTop (mkF m 93 #[vi x0, vi x1, vi x2, vi x3, vi x4, vi n1, vi q1, vi n2, vi q2, vi cp, .unset, .unset, .unset, .unset, .unset, .unset, .unset, .unset, .unset, .unset, .unset, .unset] [(.int x3)]))
      exact J
    · skip
      rw [show jj10 = x1 from hv_jj10.trans (if_neg hc85)] at J
      refine Goes.via (fun _ kk_ => XS.ifNo X0.here hx rfl (hb hby at_85) rfl ((if0 _ _).trans (feq hc85).1) kk_) ?_
      show Goes p e below _ (s₁.setTop (mkF m 88 #[vi x0, vi x1, vi x2, vi x3, vi x4, vi n1, vi q1, vi n2, vi q2, vi cp, .unset, .unset, .unset, .unset, .unset, .unset, .unset, .unset, .unset, .unset, .unset, .unset] []))
      refine gILN X0 hx hby at_88 rfl ?_
      refine Goes.via (fun _ kk_ => XS.goto X0.here hx rfl (pc0 := 89) (pc' := 93) rfl (hb hby at_89) (by decide) (by decide) kk_) ?_
      show Goes p e below _ (s₁.setTop (mkF m 93 #[vi x0, vi x1, vi x2, vi x3, vi x4, vi n1, vi q1, vi n2, vi q2, vi cp, .unset, .unset, .unset, .unset, .unset, .unset, .unset, .unset, .unset, .unset, .unset, .unset] [(.int x1)]))
      exact J
  subst hv_jj10
  show Goes p e below _ (s₁.setTop (mkF m 93 #[vi x0, vi x1, vi x2, vi x3, vi x4, vi n1, vi q1, vi n2, vi q2, vi cp, .unset, .unset, .unset, .unset, .unset, .unset, .unset, .unset, .unset, .unset, .unset, .unset] [(.int (if cp = (0 : Int32) then x3 else x1))]))
  refine Goes.via (fun _ kk_ => XS.istore X0.here hx rfl (hb hby at_93) rfl (l' := #[vi x0, vi x1, vi x2, vi x3, vi x4, vi n1, vi q1, vi n2, vi q2, vi cp, vi (if cp = (0 : Int32) then x3 else x1), .unset, .unset, .unset, .unset, .unset, .unset, .unset, .unset, .unset, .unset, .unset]) rfl kk_) ?_
  show Goes p e below _ (s₁.setTop (mkF m 95 #[vi x0, vi x1, vi x2, vi x3, vi x4, vi n1, vi q1, vi n2, vi q2, vi cp, vi (if cp = (0 : Int32) then x3 else x1), .unset, .unset, .unset, .unset, .unset, .unset, .unset, .unset, .unset, .unset, .unset] []))
  generalize hv_r0 : (if cp = (0 : Int32) then x3 else x1) = r0
  show Goes p e below _ (s₁.setTop (mkF m 95 #[vi x0, vi x1, vi x2, vi x3, vi x4, vi n1, vi q1, vi n2, vi q2, vi cp, vi r0, .unset, .unset, .unset, .unset, .unset, .unset, .unset, .unset, .unset, .unset, .unset] []))
  refine gIL X0 hx hby at_95 rfl ?_
  obtain ⟨jj11, hv_jj11⟩ : ∃ z : Int32, z = (if cp = (0 : Int32) then x4 else x2) := ⟨_, rfl⟩
  suffices J : Goes p e below (Fin_W s (Qrm0 Z x0 x1 x2 x3 x4 cS fo h0 n0) (fun U_ => KS Z own_KL U_.vm U_.heap) room_1.cells room_1.slots) (s₁.setTop (mkF m 106 #[vi x0, vi x1, vi x2, vi x3, vi x4, vi n1, vi q1, vi n2, vi q2, vi cp, vi r0, .unset, .unset, .unset, .unset, .unset, .unset, .unset, .unset, .unset, .unset, .unset] [(.int jj11)])) by
    by_cases hc97 : cp = (0 : Int32)
    · skip
      rw [show jj11 = x4 from hv_jj11.trans (if_pos hc97)] at J
      refine Goes.via (fun _ kk_ => XS.ifYes X0.here hx rfl (pc0 := 97) (pc' := 104) rfl (hb hby at_97) rfl ((if0 _ _).trans (teq hc97).1) (by decide) (by decide) kk_) ?_
      show Goes p e below _ (s₁.setTop (mkF m 104 #[vi x0, vi x1, vi x2, vi x3, vi x4, vi n1, vi q1, vi n2, vi q2, vi cp, vi r0, .unset, .unset, .unset, .unset, .unset, .unset, .unset, .unset, .unset, .unset, .unset] []))
      refine gIL X0 hx hby at_104 rfl ?_
      show Goes p e below _ (s₁.setTop (mkF m 106 #[vi x0, vi x1, vi x2, vi x3, vi x4, vi n1, vi q1, vi n2, vi q2, vi cp, vi r0, .unset, .unset, .unset, .unset, .unset, .unset, .unset, .unset, .unset, .unset, .unset] [(.int x4)]))
      exact J
    · skip
      rw [show jj11 = x2 from hv_jj11.trans (if_neg hc97)] at J
      refine Goes.via (fun _ kk_ => XS.ifNo X0.here hx rfl (hb hby at_97) rfl ((if0 _ _).trans (feq hc97).1) kk_) ?_
      show Goes p e below _ (s₁.setTop (mkF m 100 #[vi x0, vi x1, vi x2, vi x3, vi x4, vi n1, vi q1, vi n2, vi q2, vi cp, vi r0, .unset, .unset, .unset, .unset, .unset, .unset, .unset, .unset, .unset, .unset, .unset] []))
      refine gILN X0 hx hby at_100 rfl ?_
      refine Goes.via (fun _ kk_ => XS.goto X0.here hx rfl (pc0 := 101) (pc' := 106) rfl (hb hby at_101) (by decide) (by decide) kk_) ?_
      show Goes p e below _ (s₁.setTop (mkF m 106 #[vi x0, vi x1, vi x2, vi x3, vi x4, vi n1, vi q1, vi n2, vi q2, vi cp, vi r0, .unset, .unset, .unset, .unset, .unset, .unset, .unset, .unset, .unset, .unset, .unset] [(.int x2)]))
      exact J
  subst hv_jj11
  show Goes p e below _ (s₁.setTop (mkF m 106 #[vi x0, vi x1, vi x2, vi x3, vi x4, vi n1, vi q1, vi n2, vi q2, vi cp, vi r0, .unset, .unset, .unset, .unset, .unset, .unset, .unset, .unset, .unset, .unset, .unset] [(.int (if cp = (0 : Int32) then x4 else x2))]))
  refine Goes.via (fun _ kk_ => XS.istore X0.here hx rfl (hb hby at_106) rfl (l' := #[vi x0, vi x1, vi x2, vi x3, vi x4, vi n1, vi q1, vi n2, vi q2, vi cp, vi r0, vi (if cp = (0 : Int32) then x4 else x2), .unset, .unset, .unset, .unset, .unset, .unset, .unset, .unset, .unset, .unset]) rfl kk_) ?_
  show Goes p e below _ (s₁.setTop (mkF m 108 #[vi x0, vi x1, vi x2, vi x3, vi x4, vi n1, vi q1, vi n2, vi q2, vi cp, vi r0, vi (if cp = (0 : Int32) then x4 else x2), .unset, .unset, .unset, .unset, .unset, .unset, .unset, .unset, .unset, .unset] []))
  generalize hv_r1 : (if cp = (0 : Int32) then x4 else x2) = r1
  show Goes p e below _ (s₁.setTop (mkF m 108 #[vi x0, vi x1, vi x2, vi x3, vi x4, vi n1, vi q1, vi n2, vi q2, vi cp, vi r0, vi r1, .unset, .unset, .unset, .unset, .unset, .unset, .unset, .unset, .unset, .unset] []))
  refine gILN X0 hx hby at_108 rfl ?_
  refine gIC (z := 0) X0 hx hby at_109 rfl ?_
  refine gIL X0 hx hby at_110 rfl ?_
  obtain ⟨_, _, ⟨T12, L12, k12, n12⟩, -, X12, ⟨Lc12, hQ12, l12, y12, z12⟩, st12⟩ := Jvm.LawKit.callS X0 hx (y := (⟨"com/example/map_rewriter/maprewriter/core/SymbolEqualsPinLaw", "fit", "(IIZ)C"⟩ : MethodName)) hown (mvT hZ (own_w hw 0 rfl)) (mvT hZ (own_w hw 1 rfl)) (mvT hZ (own_w hw 2 rfl)) (mvT hZ (own_w hw 3 rfl)) (by decide) (backOf (W := 0) (rm1 l Z a0 hw [] x1 (0 : Int32) q1 h0 n0 (Nat.le_trans Z0 (Nat.le_refl _)) ) hZ (own_w hw 3 rfl) (own_w hw 2 rfl) (by decide) (by decide)) (g := (mkF m 112 #[vi x0, vi x1, vi x2, vi x3, vi x4, vi n1, vi q1, vi n2, vi q2, vi cp, vi r0, vi r1, .unset, .unset, .unset, .unset, .unset, .unset, .unset, .unset, .unset, .unset] [(.int q1), (.int (0 : Int32)), (.int x1)])) rfl (by rw [hml]; rfl) (argsL := [(.int x1), (.int (0 : Int32)), (.int q1)]) (rest := []) (lenOf pd_16 rfl) rfl (by show 2 * 0 + _ ≤ _; exact Nat.le_of_eq rfl) (hb hby at_112) (fun _ _ => ⟨rfl, e0, (by decide : 0 + 0 ≤ _), (by decide : 0 + 0 ≤ _)⟩)
  dsimp only [Pt.U, Pt.locs, Pt.cells, Pt.slots] at X12 l12 y12 z12 st12 hQ12
  subst l12 y12 z12
  obtain ⟨rfl, rfl, e12⟩ := hQ12
  first | rw [List.append_nil] at X12 | skip
  refine Goes.via st12 ?_
  have e12' : T12.heap = h0 := e12
  show Goes p e below _ (T12.setTop (mkF m 115 #[vi x0, vi x1, vi x2, vi x3, vi x4, vi n1, vi q1, vi n2, vi q2, vi cp, vi r0, vi r1, .unset, .unset, .unset, .unset, .unset, .unset, .unset, .unset, .unset, .unset] [(.int (own_fit x1 (0 : Int32) q1))]))
  refine Goes.via (fun _ kk_ => XS.istore X12.here hx rfl (hb hby at_115) rfl (l' := #[vi x0, vi x1, vi x2, vi x3, vi x4, vi n1, vi q1, vi n2, vi q2, vi cp, vi r0, vi r1, vi (own_fit x1 (0 : Int32) q1), .unset, .unset, .unset, .unset, .unset, .unset, .unset, .unset, .unset]) rfl kk_) ?_
  show Goes p e below _ (T12.setTop (mkF m 117 #[vi x0, vi x1, vi x2, vi x3, vi x4, vi n1, vi q1, vi n2, vi q2, vi cp, vi r0, vi r1, vi (own_fit x1 (0 : Int32) q1), .unset, .unset, .unset, .unset, .unset, .unset, .unset, .unset, .unset] []))
  refine gILN X12 hx hby at_117 rfl ?_
  refine gIC (z := 1) X12 hx hby at_118 rfl ?_
  refine gIL X12 hx hby at_119 rfl ?_
  obtain ⟨_, _, ⟨T13, L13, k13, n13⟩, -, X13, ⟨Lc13, hQ13, l13, y13, z13⟩, st13⟩ := Jvm.LawKit.callS X12 hx (y := (⟨"com/example/map_rewriter/maprewriter/core/SymbolEqualsPinLaw", "fit", "(IIZ)C"⟩ : MethodName)) hown (mvT hZ (own_w hw 0 rfl)) (mvT hZ (own_w hw 1 rfl)) (mvT hZ (own_w hw 2 rfl)) (mvT hZ (own_w hw 3 rfl)) (by decide) (backOf (W := 0) (rm1 l Z a0 hw [] x2 (1 : Int32) q1 h0 n0 (Nat.le_trans Z0 (Nat.le_refl _)) ) hZ (own_w hw 3 rfl) (own_w hw 2 rfl) (by decide) (by decide)) (g := (mkF m 121 #[vi x0, vi x1, vi x2, vi x3, vi x4, vi n1, vi q1, vi n2, vi q2, vi cp, vi r0, vi r1, vi (own_fit x1 (0 : Int32) q1), .unset, .unset, .unset, .unset, .unset, .unset, .unset, .unset, .unset] [(.int q1), (.int (1 : Int32)), (.int x2)])) rfl (by rw [hml]; rfl) (argsL := [(.int x2), (.int (1 : Int32)), (.int q1)]) (rest := []) (lenOf pd_16 rfl) rfl (by show 2 * 0 + _ ≤ _; exact Nat.le_of_eq rfl) (hb hby at_121) (fun _ _ => ⟨rfl, e12', (by decide : 0 + 0 ≤ _), (by decide : 0 + 0 ≤ _)⟩)
  dsimp only [Pt.U, Pt.locs, Pt.cells, Pt.slots] at X13 l13 y13 z13 st13 hQ13
  subst l13 y13 z13
  obtain ⟨rfl, rfl, e13⟩ := hQ13
  first | rw [List.append_nil] at X13 | skip
  refine Goes.via st13 ?_
  have e13' : T13.heap = h0 := e13
  show Goes p e below _ (T13.setTop (mkF m 124 #[vi x0, vi x1, vi x2, vi x3, vi x4, vi n1, vi q1, vi n2, vi q2, vi cp, vi r0, vi r1, vi (own_fit x1 (0 : Int32) q1), .unset, .unset, .unset, .unset, .unset, .unset, .unset, .unset, .unset] [(.int (own_fit x2 (1 : Int32) q1))]))
  refine Goes.via (fun _ kk_ => XS.istore X13.here hx rfl (hb hby at_124) rfl (l' := #[vi x0, vi x1, vi x2, vi x3, vi x4, vi n1, vi q1, vi n2, vi q2, vi cp, vi r0, vi r1, vi (own_fit x1 (0 : Int32) q1), vi (own_fit x2 (1 : Int32) q1), .unset, .unset, .unset, .unset, .unset, .unset, .unset, .unset]) rfl kk_) ?_
  show Goes p e below _ (T13.setTop (mkF m 126 #[vi x0, vi x1, vi x2, vi x3, vi x4, vi n1, vi q1, vi n2, vi q2, vi cp, vi r0, vi r1, vi (own_fit x1 (0 : Int32) q1), vi (own_fit x2 (1 : Int32) q1), .unset, .unset, .unset, .unset, .unset, .unset, .unset, .unset] []))
  refine gIL X13 hx hby at_126 rfl ?_
  refine gIC (z := 0) X13 hx hby at_128 rfl ?_
  refine gIL X13 hx hby at_129 rfl ?_
  obtain ⟨_, _, ⟨T14, L14, k14, n14⟩, -, X14, ⟨Lc14, hQ14, l14, y14, z14⟩, st14⟩ := Jvm.LawKit.callS X13 hx (y := (⟨"com/example/map_rewriter/maprewriter/core/SymbolEqualsPinLaw", "fit", "(IIZ)C"⟩ : MethodName)) hown (mvT hZ (own_w hw 0 rfl)) (mvT hZ (own_w hw 1 rfl)) (mvT hZ (own_w hw 2 rfl)) (mvT hZ (own_w hw 3 rfl)) (by decide) (backOf (W := 0) (rm1 l Z a0 hw [] r0 (0 : Int32) q2 h0 n0 (Nat.le_trans Z0 (Nat.le_refl _)) ) hZ (own_w hw 3 rfl) (own_w hw 2 rfl) (by decide) (by decide)) (g := (mkF m 131 #[vi x0, vi x1, vi x2, vi x3, vi x4, vi n1, vi q1, vi n2, vi q2, vi cp, vi r0, vi r1, vi (own_fit x1 (0 : Int32) q1), vi (own_fit x2 (1 : Int32) q1), .unset, .unset, .unset, .unset, .unset, .unset, .unset, .unset] [(.int q2), (.int (0 : Int32)), (.int r0)])) rfl (by rw [hml]; rfl) (argsL := [(.int r0), (.int (0 : Int32)), (.int q2)]) (rest := []) (lenOf pd_16 rfl) rfl (by show 2 * 0 + _ ≤ _; exact Nat.le_of_eq rfl) (hb hby at_131) (fun _ _ => ⟨rfl, e13', (by decide : 0 + 0 ≤ _), (by decide : 0 + 0 ≤ _)⟩)
  dsimp only [Pt.U, Pt.locs, Pt.cells, Pt.slots] at X14 l14 y14 z14 st14 hQ14
  subst l14 y14 z14
  obtain ⟨rfl, rfl, e14⟩ := hQ14
  first | rw [List.append_nil] at X14 | skip
  refine Goes.via st14 ?_
  have e14' : T14.heap = h0 := e14
  show Goes p e below _ (T14.setTop (mkF m 134 #[vi x0, vi x1, vi x2, vi x3, vi x4, vi n1, vi q1, vi n2, vi q2, vi cp, vi r0, vi r1, vi (own_fit x1 (0 : Int32) q1), vi (own_fit x2 (1 : Int32) q1), .unset, .unset, .unset, .unset, .unset, .unset, .unset, .unset] [(.int (own_fit r0 (0 : Int32) q2))]))
  refine Goes.via (fun _ kk_ => XS.istore X14.here hx rfl (hb hby at_134) rfl (l' := #[vi x0, vi x1, vi x2, vi x3, vi x4, vi n1, vi q1, vi n2, vi q2, vi cp, vi r0, vi r1, vi (own_fit x1 (0 : Int32) q1), vi (own_fit x2 (1 : Int32) q1), vi (own_fit r0 (0 : Int32) q2), .unset, .unset, .unset, .unset, .unset, .unset, .unset]) rfl kk_) ?_
  show Goes p e below _ (T14.setTop (mkF m 136 #[vi x0, vi x1, vi x2, vi x3, vi x4, vi n1, vi q1, vi n2, vi q2, vi cp, vi r0, vi r1, vi (own_fit x1 (0 : Int32) q1), vi (own_fit x2 (1 : Int32) q1), vi (own_fit r0 (0 : Int32) q2), .unset, .unset, .unset, .unset, .unset, .unset, .unset] []))
  refine gIL X14 hx hby at_136 rfl ?_
  refine gIC (z := 1) X14 hx hby at_138 rfl ?_
  refine gIL X14 hx hby at_139 rfl ?_
  obtain ⟨_, _, ⟨T15, L15, k15, n15⟩, -, X15, ⟨Lc15, hQ15, l15, y15, z15⟩, st15⟩ := Jvm.LawKit.callS X14 hx (y := (⟨"com/example/map_rewriter/maprewriter/core/SymbolEqualsPinLaw", "fit", "(IIZ)C"⟩ : MethodName)) hown (mvT hZ (own_w hw 0 rfl)) (mvT hZ (own_w hw 1 rfl)) (mvT hZ (own_w hw 2 rfl)) (mvT hZ (own_w hw 3 rfl)) (by decide) (backOf (W := 0) (rm1 l Z a0 hw [] r1 (1 : Int32) q2 h0 n0 (Nat.le_trans Z0 (Nat.le_refl _)) ) hZ (own_w hw 3 rfl) (own_w hw 2 rfl) (by decide) (by decide)) (g := (mkF m 141 #[vi x0, vi x1, vi x2, vi x3, vi x4, vi n1, vi q1, vi n2, vi q2, vi cp, vi r0, vi r1, vi (own_fit x1 (0 : Int32) q1), vi (own_fit x2 (1 : Int32) q1), vi (own_fit r0 (0 : Int32) q2), .unset, .unset, .unset, .unset, .unset, .unset, .unset] [(.int q2), (.int (1 : Int32)), (.int r1)])) rfl (by rw [hml]; rfl) (argsL := [(.int r1), (.int (1 : Int32)), (.int q2)]) (rest := []) (lenOf pd_16 rfl) rfl (by show 2 * 0 + _ ≤ _; exact Nat.le_of_eq rfl) (hb hby at_141) (fun _ _ => ⟨rfl, e14', (by decide : 0 + 0 ≤ _), (by decide : 0 + 0 ≤ _)⟩)
  dsimp only [Pt.U, Pt.locs, Pt.cells, Pt.slots] at X15 l15 y15 z15 st15 hQ15
  subst l15 y15 z15
  obtain ⟨rfl, rfl, e15⟩ := hQ15
  first | rw [List.append_nil] at X15 | skip
  refine Goes.via st15 ?_
  have e15' : T15.heap = h0 := e15
  show Goes p e below _ (T15.setTop (mkF m 144 #[vi x0, vi x1, vi x2, vi x3, vi x4, vi n1, vi q1, vi n2, vi q2, vi cp, vi r0, vi r1, vi (own_fit x1 (0 : Int32) q1), vi (own_fit x2 (1 : Int32) q1), vi (own_fit r0 (0 : Int32) q2), .unset, .unset, .unset, .unset, .unset, .unset, .unset] [(.int (own_fit r1 (1 : Int32) q2))]))
  refine Goes.via (fun _ kk_ => XS.istore X15.here hx rfl (hb hby at_144) rfl (l' := #[vi x0, vi x1, vi x2, vi x3, vi x4, vi n1, vi q1, vi n2, vi q2, vi cp, vi r0, vi r1, vi (own_fit x1 (0 : Int32) q1), vi (own_fit x2 (1 : Int32) q1), vi (own_fit r0 (0 : Int32) q2), vi (own_fit r1 (1 : Int32) q2), .unset, .unset, .unset, .unset, .unset, .unset]) rfl kk_) ?_
  show Goes p e below _ (T15.setTop (mkF m 146 #[vi x0, vi x1, vi x2, vi x3, vi x4, vi n1, vi q1, vi n2, vi q2, vi cp, vi r0, vi r1, vi (own_fit x1 (0 : Int32) q1), vi (own_fit x2 (1 : Int32) q1), vi (own_fit r0 (0 : Int32) q2), vi (own_fit r1 (1 : Int32) q2), .unset, .unset, .unset, .unset, .unset, .unset] []))
  have mc0 := own_fit0 x1 q1
  have mc1 := own_fit1 x2 q1
  have hk0 : ∀ N : Nat, n1.toInt = (N : Int) → own_ok q1 N (own_g n1 (own_fit x1 (0 : Int32) q1) (own_fit x2 (1 : Int32) q1)) := fun N hN => own_okf x1 x2 N hN hn1.1 hn1.2
  generalize (own_fit x1 (0 : Int32) q1) = c0 at *
  generalize (own_fit x2 (1 : Int32) q1) = c1 at *
  have me0 := own_fit0 r0 q2
  have me1 := own_fit1 r1 q2
  have hk1 : ∀ N : Nat, n2.toInt = (N : Int) → own_ok q2 N (own_g n2 (own_fit r0 (0 : Int32) q2) (own_fit r1 (1 : Int32) q2)) := fun N hN => own_okf r0 r1 N hN hn2.1 hn2.2
  generalize (own_fit r0 (0 : Int32) q2) = e0 at *
  generalize (own_fit r1 (1 : Int32) q2) = e1 at *
  generalize vi x0 = o0
  generalize vi x1 = o1
  generalize vi x2 = o2
  generalize vi x3 = o3
  generalize vi x4 = o4
  generalize vi cp = o9
  generalize vi r0 = o10
  generalize vi r1 = o11
  show Goes p e below _ (T15.setTop (mkF m 146 #[o0, o1, o2, o3, o4, vi n1, vi q1, vi n2, vi q2, o9, o10, o11, vi c0, vi c1, vi e0, vi e1, .unset, .unset, .unset, .unset, .unset, .unset] []))
  have J257 : ∀ (ca cb sj s1 s2 y1 y2 t1 t2 : Addr) (kJ1 kJ2 : ClassId) (TJ : State) (lcJ : List Loc) (vmJ : Vm) (kJ : Nat), (Stand p l e room_1 (s.setVm vmJ) m #[(.int x0), (.int x1), (.int x2), (.int x3), (.int x4)] below meth c TJ lcJ 40 3200) → (s.Since vmJ kJ) → (kJ ≤ TJ.heap.size) → (Z.Warmed39 (s.setVm vmJ).vm) → ((s.setVm vmJ).vm.findClass "com/example/map_rewriter/maprewriter/core/SymbolEqualsPinLaw" = some m.cls) → (KS Z own_KL vmJ TJ.heap) → (Fr n0 lcJ) → (Keep h0 TJ.heap []) → (Exa Z TJ.heap s1 "com/example/map_rewriter/maprewriter/core/Symbol") → (Fld Z TJ.heap s1 "com/example/map_rewriter/maprewriter/core/Symbol" "content" "Ljava/lang/String;" (.ref y1)) → (Exa Z TJ.heap s2 "com/example/map_rewriter/maprewriter/core/Symbol") → (Fld Z TJ.heap s2 "com/example/map_rewriter/maprewriter/core/Symbol" "content" "Ljava/lang/String;" (.ref y2)) → (Exa Z TJ.heap y1 "java/lang/String") → (Fld Z TJ.heap y1 "java/lang/String" "coder" "B" (.int (0 : Int32))) → (Fld Z TJ.heap y1 "java/lang/String" "value" "[B" (.ref t1)) → (Arv Z TJ.heap t1 kJ1 .byte (own_n n1 c0 c1) (own_v n1 c0 c1) (.int 0)) → (Exa Z TJ.heap y2 "java/lang/String") → (Fld Z TJ.heap y2 "java/lang/String" "coder" "B" (.int (0 : Int32))) → (Fld Z TJ.heap y2 "java/lang/String" "value" "[B" (.ref t2)) → (Arv Z TJ.heap t2 kJ2 .byte (own_n n2 e0 e1) (own_v n2 e0 e1) (.int 0)) → (Exa Z TJ.heap sj "java/lang/String") → Goes p e below (Fin_W s (Qrm0 Z x0 x1 x2 x3 x4 cS fo h0 n0) (fun U_ => KS Z own_KL U_.vm U_.heap) room_1.cells room_1.slots) (TJ.setTop (mkF m 257 #[o0, o1, o2, o3, o4, vi n1, vi q1, vi n2, vi q2, o9, o10, o11, vi c0, vi c1, vi e0, vi e1, vr ca, vr cb, vr sj, vr s1, vr s2, .unset] [])) := by
    intro ca cb sj s1 s2 y1 y2 t1 t2 kJ1 kJ2 TJ lcJ vmJ kJ XJ SIJ skJ hZ hown KsJ NJ KJ fj0 fj1 fj2 fj3 fj4 fj5 fj6 fj7 fj8 fj9 fj10 fj11 fj12
    refine gIL XJ hx hby at_257 rfl ?_
    refine gIL XJ hx hby at_259 rfl ?_
    obtain ⟨jj22, hv_jj22⟩ : ∃ z : Int32, z = (if n1 = n2 then (if n1 < (1 : Int32) then (if n1 < (2 : Int32) then (1 : Int32) else (if c1 = e1 then (1 : Int32) else (0 : Int32))) else (if c0 = e0 then (if n1 < (2 : Int32) then (1 : Int32) else (if c1 = e1 then (1 : Int32) else (0 : Int32))) else (0 : Int32))) else (0 : Int32)) := ⟨_, rfl⟩
    suffices J : Goes p e below (Fin_W s (Qrm0 Z x0 x1 x2 x3 x4 cS fo h0 n0) (fun U_ => KS Z own_KL U_.vm U_.heap) room_1.cells room_1.slots) (TJ.setTop (mkF m 295 #[o0, o1, o2, o3, o4, vi n1, vi q1, vi n2, vi q2, o9, o10, o11, vi c0, vi c1, vi e0, vi e1, vr ca, vr cb, vr sj, vr s1, vr s2, .unset] [(.int jj22)])) by
      by_cases hc261 : n1 = n2
      · skip
        rw [show jj22 = (if n1 < (1 : Int32) then (if n1 < (2 : Int32) then (1 : Int32) else (if c1 = e1 then (1 : Int32) else (0 : Int32))) else (if c0 = e0 then (if n1 < (2 : Int32) then (1 : Int32) else (if c1 = e1 then (1 : Int32) else (0 : Int32))) else (0 : Int32))) from hv_jj22.trans (if_pos hc261)] at J
        refine Goes.via (fun _ kk_ => XS.icmpNo XJ.here hx rfl (hb hby at_261) rfl (teq hc261).2 kk_) ?_
        show Goes p e below _ (TJ.setTop (mkF m 264 #[o0, o1, o2, o3, o4, vi n1, vi q1, vi n2, vi q2, o9, o10, o11, vi c0, vi c1, vi e0, vi e1, vr ca, vr cb, vr sj, vr s1, vr s2, .unset] []))
        refine gIL XJ hx hby at_264 rfl ?_
        refine gIC (z := 1) XJ hx hby at_266 rfl ?_
        obtain ⟨jj21, hv_jj21⟩ : ∃ z : Int32, z = (if n1 < (1 : Int32) then (if n1 < (2 : Int32) then (1 : Int32) else (if c1 = e1 then (1 : Int32) else (0 : Int32))) else (if c0 = e0 then (if n1 < (2 : Int32) then (1 : Int32) else (if c1 = e1 then (1 : Int32) else (0 : Int32))) else (0 : Int32))) := ⟨_, rfl⟩
        suffices J : Goes p e below (Fin_W s (Qrm0 Z x0 x1 x2 x3 x4 cS fo h0 n0) (fun U_ => KS Z own_KL U_.vm U_.heap) room_1.cells room_1.slots) (TJ.setTop (mkF m 295 #[o0, o1, o2, o3, o4, vi n1, vi q1, vi n2, vi q2, o9, o10, o11, vi c0, vi c1, vi e0, vi e1, vr ca, vr cb, vr sj, vr s1, vr s2, .unset] [(.int jj21)])) by
          by_cases hc267 : n1 < (1 : Int32)
          · skip
            rw [show jj21 = (if n1 < (2 : Int32) then (1 : Int32) else (if c1 = e1 then (1 : Int32) else (0 : Int32))) from hv_jj21.trans (if_pos hc267)] at J
            refine Goes.via (fun _ kk_ => XS.icmpYes XJ.here hx rfl (pc0 := 267) (pc' := 277) rfl (hb hby at_267) rfl (tlt hc267).1 (by decide) (by decide) kk_) ?_
            show Goes p e below _ (TJ.setTop (mkF m 277 #[o0, o1, o2, o3, o4, vi n1, vi q1, vi n2, vi q2, o9, o10, o11, vi c0, vi c1, vi e0, vi e1, vr ca, vr cb, vr sj, vr s1, vr s2, .unset] []))
            refine gIL XJ hx hby at_277 rfl ?_
            refine gIC (z := 2) XJ hx hby at_279 rfl ?_
            obtain ⟨jj17, hv_jj17⟩ : ∃ z : Int32, z = (if n1 < (2 : Int32) then (1 : Int32) else (if c1 = e1 then (1 : Int32) else (0 : Int32))) := ⟨_, rfl⟩
            suffices J : Goes p e below (Fin_W s (Qrm0 Z x0 x1 x2 x3 x4 cS fo h0 n0) (fun U_ => KS Z own_KL U_.vm U_.heap) room_1.cells room_1.slots) (TJ.setTop (mkF m 295 #[o0, o1, o2, o3, o4, vi n1, vi q1, vi n2, vi q2, o9, o10, o11, vi c0, vi c1, vi e0, vi e1, vr ca, vr cb, vr sj, vr s1, vr s2, .unset] [(.int jj17)])) by
              by_cases hc280 : n1 < (2 : Int32)
              · skip
                rw [show jj17 = (1 : Int32) from hv_jj17.trans (if_pos hc280)] at J
                refine Goes.via (fun _ kk_ => XS.icmpYes XJ.here hx rfl (pc0 := 280) (pc' := 290) rfl (hb hby at_280) rfl (tlt hc280).1 (by decide) (by decide) kk_) ?_
                show Goes p e below _ (TJ.setTop (mkF m 290 #[o0, o1, o2, o3, o4, vi n1, vi q1, vi n2, vi q2, o9, o10, o11, vi c0, vi c1, vi e0, vi e1, vr ca, vr cb, vr sj, vr s1, vr s2, .unset] []))
                refine gIC (z := 1) XJ hx hby at_290 rfl ?_
                refine Goes.via (fun _ kk_ => XS.goto XJ.here hx rfl (pc0 := 291) (pc' := 295) rfl (hb hby at_291) (by decide) (by decide) kk_) ?_
                show Goes p e below _ (TJ.setTop (mkF m 295 #[o0, o1, o2, o3, o4, vi n1, vi q1, vi n2, vi q2, o9, o10, o11, vi c0, vi c1, vi e0, vi e1, vr ca, vr cb, vr sj, vr s1, vr s2, .unset] [(.int (1 : Int32))]))
                exact J
              · skip
                rw [show jj17 = (if c1 = e1 then (1 : Int32) else (0 : Int32)) from hv_jj17.trans (if_neg hc280)] at J
                refine Goes.via (fun _ kk_ => XS.icmpNo XJ.here hx rfl (hb hby at_280) rfl (flt hc280).1 kk_) ?_
                show Goes p e below _ (TJ.setTop (mkF m 283 #[o0, o1, o2, o3, o4, vi n1, vi q1, vi n2, vi q2, o9, o10, o11, vi c0, vi c1, vi e0, vi e1, vr ca, vr cb, vr sj, vr s1, vr s2, .unset] []))
                refine gIL XJ hx hby at_283 rfl ?_
                refine gIL XJ hx hby at_285 rfl ?_
                obtain ⟨jj16, hv_jj16⟩ : ∃ z : Int32, z = (if c1 = e1 then (1 : Int32) else (0 : Int32)) := ⟨_, rfl⟩
                suffices J : Goes p e below (Fin_W s (Qrm0 Z x0 x1 x2 x3 x4 cS fo h0 n0) (fun U_ => KS Z own_KL U_.vm U_.heap) room_1.cells room_1.slots) (TJ.setTop (mkF m 295 #[o0, o1, o2, o3, o4, vi n1, vi q1, vi n2, vi q2, o9, o10, o11, vi c0, vi c1, vi e0, vi e1, vr ca, vr cb, vr sj, vr s1, vr s2, .unset] [(.int jj16)])) by
                  by_cases hc287 : c1 = e1
                  · skip
                    rw [show jj16 = (1 : Int32) from hv_jj16.trans (if_pos hc287)] at J
                    refine Goes.via (fun _ kk_ => XS.icmpNo XJ.here hx rfl (hb hby at_287) rfl (teq hc287).2 kk_) ?_
                    show Goes p e below _ (TJ.setTop (mkF m 290 #[o0, o1, o2, o3, o4, vi n1, vi q1, vi n2, vi q2, o9, o10, o11, vi c0, vi c1, vi e0, vi e1, vr ca, vr cb, vr sj, vr s1, vr s2, .unset] []))
                    refine gIC (z := 1) XJ hx hby at_290 rfl ?_
                    refine Goes.via (fun _ kk_ => XS.goto XJ.here hx rfl (pc0 := 291) (pc' := 295) rfl (hb hby at_291) (by decide) (by decide) kk_) ?_
                    show Goes p e below _ (TJ.setTop (mkF m 295 #[o0, o1, o2, o3, o4, vi n1, vi q1, vi n2, vi q2, o9, o10, o11, vi c0, vi c1, vi e0, vi e1, vr ca, vr cb, vr sj, vr s1, vr s2, .unset] [(.int (1 : Int32))]))
                    exact J
                  · skip
                    rw [show jj16 = (0 : Int32) from hv_jj16.trans (if_neg hc287)] at J
                    refine Goes.via (fun _ kk_ => XS.icmpYes XJ.here hx rfl (pc0 := 287) (pc' := 294) rfl (hb hby at_287) rfl (feq hc287).2 (by decide) (by decide) kk_) ?_
                    show Goes p e below _ (TJ.setTop (mkF m 294 #[o0, o1, o2, o3, o4, vi n1, vi q1, vi n2, vi q2, o9, o10, o11, vi c0, vi c1, vi e0, vi e1, vr ca, vr cb, vr sj, vr s1, vr s2, .unset] []))
                    refine gIC (z := 0) XJ hx hby at_294 rfl ?_
                    show Goes p e below _ (TJ.setTop (mkF m 295 #[o0, o1, o2, o3, o4, vi n1, vi q1, vi n2, vi q2, o9, o10, o11, vi c0, vi c1, vi e0, vi e1, vr ca, vr cb, vr sj, vr s1, vr s2, .unset] [(.int (0 : Int32))]))
                    exact J
                subst hv_jj16
                show Goes p e below _ (TJ.setTop (mkF m 295 #[o0, o1, o2, o3, o4, vi n1, vi q1, vi n2, vi q2, o9, o10, o11, vi c0, vi c1, vi e0, vi e1, vr ca, vr cb, vr sj, vr s1, vr s2, .unset] [(.int (if c1 = e1 then (1 : Int32) else (0 : Int32)))]))
                exact J
            subst hv_jj17
            show Goes p e below _ (TJ.setTop (mkF m 295 #[o0, o1, o2, o3, o4, vi n1, vi q1, vi n2, vi q2, o9, o10, o11, vi c0, vi c1, vi e0, vi e1, vr ca, vr cb, vr sj, vr s1, vr s2, .unset] [(.int (if n1 < (2 : Int32) then (1 : Int32) else (if c1 = e1 then (1 : Int32) else (0 : Int32))))]))
            exact J
          · skip
            rw [show jj21 = (if c0 = e0 then (if n1 < (2 : Int32) then (1 : Int32) else (if c1 = e1 then (1 : Int32) else (0 : Int32))) else (0 : Int32)) from hv_jj21.trans (if_neg hc267)] at J
            refine Goes.via (fun _ kk_ => XS.icmpNo XJ.here hx rfl (hb hby at_267) rfl (flt hc267).1 kk_) ?_
            show Goes p e below _ (TJ.setTop (mkF m 270 #[o0, o1, o2, o3, o4, vi n1, vi q1, vi n2, vi q2, o9, o10, o11, vi c0, vi c1, vi e0, vi e1, vr ca, vr cb, vr sj, vr s1, vr s2, .unset] []))
            refine gIL XJ hx hby at_270 rfl ?_
            refine gIL XJ hx hby at_272 rfl ?_
            obtain ⟨jj20, hv_jj20⟩ : ∃ z : Int32, z = (if c0 = e0 then (if n1 < (2 : Int32) then (1 : Int32) else (if c1 = e1 then (1 : Int32) else (0 : Int32))) else (0 : Int32)) := ⟨_, rfl⟩
            suffices J : Goes p e below (Fin_W s (Qrm0 Z x0 x1 x2 x3 x4 cS fo h0 n0) (fun U_ => KS Z own_KL U_.vm U_.heap) room_1.cells room_1.slots) (TJ.setTop (mkF m 295 #[o0, o1, o2, o3, o4, vi n1, vi q1, vi n2, vi q2, o9, o10, o11, vi c0, vi c1, vi e0, vi e1, vr ca, vr cb, vr sj, vr s1, vr s2, .unset] [(.int jj20)])) by
              by_cases hc274 : c0 = e0
              · skip
                rw [show jj20 = (if n1 < (2 : Int32) then (1 : Int32) else (if c1 = e1 then (1 : Int32) else (0 : Int32))) from hv_jj20.trans (if_pos hc274)] at J
                refine Goes.via (fun _ kk_ => XS.icmpNo XJ.here hx rfl (hb hby at_274) rfl (teq hc274).2 kk_) ?_
                show Goes p e below _ (TJ.setTop (mkF m 277 #[o0, o1, o2, o3, o4, vi n1, vi q1, vi n2, vi q2, o9, o10, o11, vi c0, vi c1, vi e0, vi e1, vr ca, vr cb, vr sj, vr s1, vr s2, .unset] []))
                refine gIL XJ hx hby at_277 rfl ?_
                refine gIC (z := 2) XJ hx hby at_279 rfl ?_
                obtain ⟨jj19, hv_jj19⟩ : ∃ z : Int32, z = (if n1 < (2 : Int32) then (1 : Int32) else (if c1 = e1 then (1 : Int32) else (0 : Int32))) := ⟨_, rfl⟩
                suffices J : Goes p e below (Fin_W s (Qrm0 Z x0 x1 x2 x3 x4 cS fo h0 n0) (fun U_ => KS Z own_KL U_.vm U_.heap) room_1.cells room_1.slots) (TJ.setTop (mkF m 295 #[o0, o1, o2, o3, o4, vi n1, vi q1, vi n2, vi q2, o9, o10, o11, vi c0, vi c1, vi e0, vi e1, vr ca, vr cb, vr sj, vr s1, vr s2, .unset] [(.int jj19)])) by
                  by_cases hc280 : n1 < (2 : Int32)
                  · skip
                    rw [show jj19 = (1 : Int32) from hv_jj19.trans (if_pos hc280)] at J
                    refine Goes.via (fun _ kk_ => XS.icmpYes XJ.here hx rfl (pc0 := 280) (pc' := 290) rfl (hb hby at_280) rfl (tlt hc280).1 (by decide) (by decide) kk_) ?_
                    show Goes p e below _ (TJ.setTop (mkF m 290 #[o0, o1, o2, o3, o4, vi n1, vi q1, vi n2, vi q2, o9, o10, o11, vi c0, vi c1, vi e0, vi e1, vr ca, vr cb, vr sj, vr s1, vr s2, .unset] []))
                    refine gIC (z := 1) XJ hx hby at_290 rfl ?_
                    refine Goes.via (fun _ kk_ => XS.goto XJ.here hx rfl (pc0 := 291) (pc' := 295) rfl (hb hby at_291) (by decide) (by decide) kk_) ?_
                    show Goes p e below _ (TJ.setTop (mkF m 295 #[o0, o1, o2, o3, o4, vi n1, vi q1, vi n2, vi q2, o9, o10, o11, vi c0, vi c1, vi e0, vi e1, vr ca, vr cb, vr sj, vr s1, vr s2, .unset] [(.int (1 : Int32))]))
                    exact J
                  · skip
                    rw [show jj19 = (if c1 = e1 then (1 : Int32) else (0 : Int32)) from hv_jj19.trans (if_neg hc280)] at J
                    refine Goes.via (fun _ kk_ => XS.icmpNo XJ.here hx rfl (hb hby at_280) rfl (flt hc280).1 kk_) ?_
                    show Goes p e below _ (TJ.setTop (mkF m 283 #[o0, o1, o2, o3, o4, vi n1, vi q1, vi n2, vi q2, o9, o10, o11, vi c0, vi c1, vi e0, vi e1, vr ca, vr cb, vr sj, vr s1, vr s2, .unset] []))
                    refine gIL XJ hx hby at_283 rfl ?_
                    refine gIL XJ hx hby at_285 rfl ?_
                    obtain ⟨jj18, hv_jj18⟩ : ∃ z : Int32, z = (if c1 = e1 then (1 : Int32) else (0 : Int32)) := ⟨_, rfl⟩
                    suffices J : Goes p e below (Fin_W s (Qrm0 Z x0 x1 x2 x3 x4 cS fo h0 n0) (fun U_ => KS Z own_KL U_.vm U_.heap) room_1.cells room_1.slots) (TJ.setTop (mkF m 295 #[o0, o1, o2, o3, o4, vi n1, vi q1, vi n2, vi q2, o9, o10, o11, vi c0, vi c1, vi e0, vi e1, vr ca, vr cb, vr sj, vr s1, vr s2, .unset] [(.int jj18)])) by
                      by_cases hc287 : c1 = e1
                      · skip
                        rw [show jj18 = (1 : Int32) from hv_jj18.trans (if_pos hc287)] at J
                        refine Goes.via (fun _ kk_ => XS.icmpNo XJ.here hx rfl (hb hby at_287) rfl (teq hc287).2 kk_) ?_
                        show Goes p e below _ (TJ.setTop (mkF m 290 #[o0, o1, o2, o3, o4, vi n1, vi q1, vi n2, vi q2, o9, o10, o11, vi c0, vi c1, vi e0, vi e1, vr ca, vr cb, vr sj, vr s1, vr s2, .unset] []))
                        refine gIC (z := 1) XJ hx hby at_290 rfl ?_
                        refine Goes.via (fun _ kk_ => XS.goto XJ.here hx rfl (pc0 := 291) (pc' := 295) rfl (hb hby at_291) (by decide) (by decide) kk_) ?_
                        show Goes p e below _ (TJ.setTop (mkF m 295 #[o0, o1, o2, o3, o4, vi n1, vi q1, vi n2, vi q2, o9, o10, o11, vi c0, vi c1, vi e0, vi e1, vr ca, vr cb, vr sj, vr s1, vr s2, .unset] [(.int (1 : Int32))]))
                        exact J
                      · skip
                        rw [show jj18 = (0 : Int32) from hv_jj18.trans (if_neg hc287)] at J
                        refine Goes.via (fun _ kk_ => XS.icmpYes XJ.here hx rfl (pc0 := 287) (pc' := 294) rfl (hb hby at_287) rfl (feq hc287).2 (by decide) (by decide) kk_) ?_
                        show Goes p e below _ (TJ.setTop (mkF m 294 #[o0, o1, o2, o3, o4, vi n1, vi q1, vi n2, vi q2, o9, o10, o11, vi c0, vi c1, vi e0, vi e1, vr ca, vr cb, vr sj, vr s1, vr s2, .unset] []))
                        refine gIC (z := 0) XJ hx hby at_294 rfl ?_
                        show Goes p e below _ (TJ.setTop (mkF m 295 #[o0, o1, o2, o3, o4, vi n1, vi q1, vi n2, vi q2, o9, o10, o11, vi c0, vi c1, vi e0, vi e1, vr ca, vr cb, vr sj, vr s1, vr s2, .unset] [(.int (0 : Int32))]))
                        exact J
                    subst hv_jj18
                    show Goes p e below _ (TJ.setTop (mkF m 295 #[o0, o1, o2, o3, o4, vi n1, vi q1, vi n2, vi q2, o9, o10, o11, vi c0, vi c1, vi e0, vi e1, vr ca, vr cb, vr sj, vr s1, vr s2, .unset] [(.int (if c1 = e1 then (1 : Int32) else (0 : Int32)))]))
                    exact J
                subst hv_jj19
                show Goes p e below _ (TJ.setTop (mkF m 295 #[o0, o1, o2, o3, o4, vi n1, vi q1, vi n2, vi q2, o9, o10, o11, vi c0, vi c1, vi e0, vi e1, vr ca, vr cb, vr sj, vr s1, vr s2, .unset] [(.int (if n1 < (2 : Int32) then (1 : Int32) else (if c1 = e1 then (1 : Int32) else (0 : Int32))))]))
                exact J
              · skip
                rw [show jj20 = (0 : Int32) from hv_jj20.trans (if_neg hc274)] at J
                refine Goes.via (fun _ kk_ => XS.icmpYes XJ.here hx rfl (pc0 := 274) (pc' := 294) rfl (hb hby at_274) rfl (feq hc274).2 (by decide) (by decide) kk_) ?_
                show Goes p e below _ (TJ.setTop (mkF m 294 #[o0, o1, o2, o3, o4, vi n1, vi q1, vi n2, vi q2, o9, o10, o11, vi c0, vi c1, vi e0, vi e1, vr ca, vr cb, vr sj, vr s1, vr s2, .unset] []))
                refine gIC (z := 0) XJ hx hby at_294 rfl ?_
                show Goes p e below _ (TJ.setTop (mkF m 295 #[o0, o1, o2, o3, o4, vi n1, vi q1, vi n2, vi q2, o9, o10, o11, vi c0, vi c1, vi e0, vi e1, vr ca, vr cb, vr sj, vr s1, vr s2, .unset] [(.int (0 : Int32))]))
                exact J
            subst hv_jj20
            show Goes p e below _ (TJ.setTop (mkF m 295 #[o0, o1, o2, o3, o4, vi n1, vi q1, vi n2, vi q2, o9, o10, o11, vi c0, vi c1, vi e0, vi e1, vr ca, vr cb, vr sj, vr s1, vr s2, .unset] [(.int (if c0 = e0 then (if n1 < (2 : Int32) then (1 : Int32) else (if c1 = e1 then (1 : Int32) else (0 : Int32))) else (0 : Int32)))]))
            exact J
        subst hv_jj21
        show Goes p e below _ (TJ.setTop (mkF m 295 #[o0, o1, o2, o3, o4, vi n1, vi q1, vi n2, vi q2, o9, o10, o11, vi c0, vi c1, vi e0, vi e1, vr ca, vr cb, vr sj, vr s1, vr s2, .unset] [(.int (if n1 < (1 : Int32) then (if n1 < (2 : Int32) then (1 : Int32) else (if c1 = e1 then (1 : Int32) else (0 : Int32))) else (if c0 = e0 then (if n1 < (2 : Int32) then (1 : Int32) else (if c1 = e1 then (1 : Int32) else (0 : Int32))) else (0 : Int32))))]))
        exact J
      · skip
        rw [show jj22 = (0 : Int32) from hv_jj22.trans (if_neg hc261)] at J
        refine Goes.via (fun _ kk_ => XS.icmpYes XJ.here hx rfl (pc0 := 261) (pc' := 294) rfl (hb hby at_261) rfl (feq hc261).2 (by decide) (by decide) kk_) ?_
        show Goes p e below _ (TJ.setTop (mkF m 294 #[o0, o1, o2, o3, o4, vi n1, vi q1, vi n2, vi q2, o9, o10, o11, vi c0, vi c1, vi e0, vi e1, vr ca, vr cb, vr sj, vr s1, vr s2, .unset] []))
        refine gIC (z := 0) XJ hx hby at_294 rfl ?_
        show Goes p e below _ (TJ.setTop (mkF m 295 #[o0, o1, o2, o3, o4, vi n1, vi q1, vi n2, vi q2, o9, o10, o11, vi c0, vi c1, vi e0, vi e1, vr ca, vr cb, vr sj, vr s1, vr s2, .unset] [(.int (0 : Int32))]))
        exact J
    subst hv_jj22
    show Goes p e below _ (TJ.setTop (mkF m 295 #[o0, o1, o2, o3, o4, vi n1, vi q1, vi n2, vi q2, o9, o10, o11, vi c0, vi c1, vi e0, vi e1, vr ca, vr cb, vr sj, vr s1, vr s2, .unset] [(.int (if n1 = n2 then (if n1 < (1 : Int32) then (if n1 < (2 : Int32) then (1 : Int32) else (if c1 = e1 then (1 : Int32) else (0 : Int32))) else (if c0 = e0 then (if n1 < (2 : Int32) then (1 : Int32) else (if c1 = e1 then (1 : Int32) else (0 : Int32))) else (0 : Int32))) else (0 : Int32)))]))
    refine Goes.via (fun _ kk_ => XS.istore XJ.here hx rfl (hb hby at_295) rfl (l' := #[o0, o1, o2, o3, o4, vi n1, vi q1, vi n2, vi q2, o9, o10, o11, vi c0, vi c1, vi e0, vi e1, vr ca, vr cb, vr sj, vr s1, vr s2, vi (if n1 = n2 then (if n1 < (1 : Int32) then (if n1 < (2 : Int32) then (1 : Int32) else (if c1 = e1 then (1 : Int32) else (0 : Int32))) else (if c0 = e0 then (if n1 < (2 : Int32) then (1 : Int32) else (if c1 = e1 then (1 : Int32) else (0 : Int32))) else (0 : Int32))) else (0 : Int32))]) rfl kk_) ?_
    show Goes p e below _ (TJ.setTop (mkF m 297 #[o0, o1, o2, o3, o4, vi n1, vi q1, vi n2, vi q2, o9, o10, o11, vi c0, vi c1, vi e0, vi e1, vr ca, vr cb, vr sj, vr s1, vr s2, vi (if n1 = n2 then (if n1 < (1 : Int32) then (if n1 < (2 : Int32) then (1 : Int32) else (if c1 = e1 then (1 : Int32) else (0 : Int32))) else (if c0 = e0 then (if n1 < (2 : Int32) then (1 : Int32) else (if c1 = e1 then (1 : Int32) else (0 : Int32))) else (0 : Int32))) else (0 : Int32))] []))
    refine gAL XJ hx hby at_297 rfl rfl ?_
    refine gAL XJ hx hby at_299 rfl rfl ?_
    have f23 : Sta Z TJ.heap "java/lang/String" "COMPACT_STRINGS" "Z" (.int cS) := own_sta_keep OS KJ
    obtain ⟨cq24, kq24, q24a, q24b, q24c⟩ := isOf hZ rfl fj0
    obtain ⟨_, _, ⟨T24, L24, k24, n24⟩, -, X24, ⟨Lc24, hQ24, l24, y24, z24⟩, st24⟩ := XJ.virtualBack hx (y := (⟨"com/example/map_rewriter/maprewriter/core/Symbol", "equals", "(Ljava/lang/Object;)Z"⟩ : MethodName)) (z := (⟨"com/example/map_rewriter/maprewriter/core/Symbol", "equals", "(Ljava/lang/Object;)Z"⟩ : MethodName)) hown (mvT hZ (own_w hw 101 rfl)) (mvT hZ (own_w hw 102 rfl)) (notFace_of_selects (args := #[]) (mvT hZ (own_w hw 104 rfl))) (mvT hZ (own_w hw 104 rfl)) (mvT hZ (own_w hw 103 rfl)) (by decide) (backOf (W := 0) (rm22 l Z a0 hw [] s1 s2 y1 y2 cS t1 kJ1 n1 c0 c1 t2 kJ2 n2 e0 e1 TJ.heap n0 (Nat.le_trans Z0 KJ.1) fj1 fj2 fj3 fj4 fj5 fj6 fj7 fj8 fj9 fj10 fj11 f23 H_cs mc0 mc1 me0 me1) hZ (own_w hw 105 rfl) (own_w hw 39 rfl) (by decide) (by decide)) q24a q24c (g := (mkF m 301 #[o0, o1, o2, o3, o4, vi n1, vi q1, vi n2, vi q2, o9, o10, o11, vi c0, vi c1, vi e0, vi e1, vr ca, vr cb, vr sj, vr s1, vr s2, vi (if n1 = n2 then (if n1 < (1 : Int32) then (if n1 < (2 : Int32) then (1 : Int32) else (if c1 = e1 then (1 : Int32) else (0 : Int32))) else (if c0 = e0 then (if n1 < (2 : Int32) then (1 : Int32) else (if c1 = e1 then (1 : Int32) else (0 : Int32))) else (0 : Int32))) else (0 : Int32))] [(.ref s2), (.ref s1)])) rfl (by rw [hml]; rfl) (Steps.refl _) (argsL := [(.ref s2)]) (rest := []) (lenOf pd_15 rfl) rfl (by show 2 * 0 + _ ≤ _; exact Nat.le_of_eq rfl) (hb hby at_301) (fun _ _ => ⟨rfl, rfl, (by decide : 40 + 0 ≤ _), (by decide : 3200 + 0 ≤ _)⟩)
    dsimp only [Pt.U, Pt.locs, Pt.cells, Pt.slots] at X24 l24 y24 z24 st24 hQ24
    subst l24 y24 z24
    obtain ⟨rfl, rfl, e24⟩ := hQ24
    first | rw [List.append_nil] at X24 | skip
    refine Goes.tr st24 ?_
    have e24' : T24.heap = TJ.heap := e24
    have ne25 : s1 ≠ y1 := ne_exa fj0 fj4 (by decide)
    have ne26 : s1 ≠ t1 := fj0.neArv fj7 (own_w hw 38 rfl)
    have ne27 : s1 ≠ y2 := ne_exa fj0 fj8 (by decide)
    have ne28 : s1 ≠ t2 := fj0.neArv fj11 (own_w hw 38 rfl)
    have ne29 : s1 ≠ sj := ne_exa fj0 fj12 (by decide)
    have ne30 : s2 ≠ y1 := ne_exa fj2 fj4 (by decide)
    have ne31 : s2 ≠ t1 := fj2.neArv fj7 (own_w hw 38 rfl)
    have ne32 : s2 ≠ y2 := ne_exa fj2 fj8 (by decide)
    have ne33 : s2 ≠ t2 := fj2.neArv fj11 (own_w hw 38 rfl)
    have ne34 : s2 ≠ sj := ne_exa fj2 fj12 (by decide)
    have ne35 : y1 ≠ t1 := fj4.neArv fj7 (own_w hw 9 rfl)
    have ne36 : y1 ≠ t2 := fj4.neArv fj11 (own_w hw 9 rfl)
    have ne37 : y2 ≠ t1 := fj8.neArv fj7 (own_w hw 9 rfl)
    have ne38 : y2 ≠ t2 := fj8.neArv fj11 (own_w hw 9 rfl)
    have ne39 : sj ≠ t1 := fj12.neArv fj7 (own_w hw 9 rfl)
    have ne40 : sj ≠ t2 := fj12.neArv fj11 (own_w hw 9 rfl)
    show Goes p e below _ (T24.setTop (mkF m 304 #[o0, o1, o2, o3, o4, vi n1, vi q1, vi n2, vi q2, o9, o10, o11, vi c0, vi c1, vi e0, vi e1, vr ca, vr cb, vr sj, vr s1, vr s2, vi (if n1 = n2 then (if n1 < (1 : Int32) then (if n1 < (2 : Int32) then (1 : Int32) else (if c1 = e1 then (1 : Int32) else (0 : Int32))) else (if c0 = e0 then (if n1 < (2 : Int32) then (1 : Int32) else (if c1 = e1 then (1 : Int32) else (0 : Int32))) else (0 : Int32))) else (0 : Int32))] [(.int (if own_cs n1 c0 c1 = own_cs n2 e0 e1 then (1 : Int32) else (0 : Int32)))]))
    refine gIL X24 hx hby at_304 rfl ?_
    have hc306_41 : (if own_cs n1 c0 c1 = own_cs n2 e0 e1 then (1 : Int32) else (0 : Int32)) = (if n1 = n2 then (if n1 < (1 : Int32) then (if n1 < (2 : Int32) then (1 : Int32) else (if c1 = e1 then (1 : Int32) else (0 : Int32))) else (if c0 = e0 then (if n1 < (2 : Int32) then (1 : Int32) else (if c1 = e1 then (1 : Int32) else (0 : Int32))) else (0 : Int32))) else (0 : Int32)) := (own_sm (own_same hn1.1 hn2.1 mc0 mc1 me0 me1))
    refine Goes.via (fun _ kk_ => XS.icmpNo X24.here hx rfl (hb hby at_306) rfl (teq hc306_41).2 kk_) ?_
    show Goes p e below _ (T24.setTop (mkF m 309 #[o0, o1, o2, o3, o4, vi n1, vi q1, vi n2, vi q2, o9, o10, o11, vi c0, vi c1, vi e0, vi e1, vr ca, vr cb, vr sj, vr s1, vr s2, vi (if n1 = n2 then (if n1 < (1 : Int32) then (if n1 < (2 : Int32) then (1 : Int32) else (if c1 = e1 then (1 : Int32) else (0 : Int32))) else (if c0 = e0 then (if n1 < (2 : Int32) then (1 : Int32) else (if c1 = e1 then (1 : Int32) else (0 : Int32))) else (0 : Int32))) else (0 : Int32))] []))
    refine gAL X24 hx hby at_309 rfl rfl ?_
    refine gAL X24 hx hby at_311 rfl rfl ?_
    obtain ⟨cq42, kq42, q42a, q42b, q42c⟩ := isOf hZ e24' fj2
    obtain ⟨_, _, ⟨T42, L42, k42, n42⟩, -, X42, ⟨Lc42, hQ42, l42, y42, z42⟩, st42⟩ := X24.virtualBack hx (y := (⟨"com/example/map_rewriter/maprewriter/core/Symbol", "equals", "(Ljava/lang/Object;)Z"⟩ : MethodName)) (z := (⟨"com/example/map_rewriter/maprewriter/core/Symbol", "equals", "(Ljava/lang/Object;)Z"⟩ : MethodName)) hown (mvT hZ (own_w hw 101 rfl)) (mvT hZ (own_w hw 102 rfl)) (notFace_of_selects (args := #[]) (mvT hZ (own_w hw 104 rfl))) (mvT hZ (own_w hw 104 rfl)) (mvT hZ (own_w hw 103 rfl)) (by decide) (backOf (W := 0) (rm22 l Z a0 hw [] s2 s1 y2 y1 cS t2 kJ2 n2 e0 e1 t1 kJ1 n1 c0 c1 TJ.heap n0 (Nat.le_trans Z0 KJ.1) fj3 fj0 fj1 fj8 fj9 fj10 fj11 fj4 fj5 fj6 fj7 f23 H_cs me0 me1 mc0 mc1) hZ (own_w hw 105 rfl) (own_w hw 39 rfl) (by decide) (by decide)) q42a q42c (g := (mkF m 313 #[o0, o1, o2, o3, o4, vi n1, vi q1, vi n2, vi q2, o9, o10, o11, vi c0, vi c1, vi e0, vi e1, vr ca, vr cb, vr sj, vr s1, vr s2, vi (if n1 = n2 then (if n1 < (1 : Int32) then (if n1 < (2 : Int32) then (1 : Int32) else (if c1 = e1 then (1 : Int32) else (0 : Int32))) else (if c0 = e0 then (if n1 < (2 : Int32) then (1 : Int32) else (if c1 = e1 then (1 : Int32) else (0 : Int32))) else (0 : Int32))) else (0 : Int32))] [(.ref s1), (.ref s2)])) rfl (by rw [hml]; rfl) (Steps.refl _) (argsL := [(.ref s1)]) (rest := []) (lenOf pd_15 rfl) rfl (by show 2 * 0 + _ ≤ _; exact Nat.le_of_eq rfl) (hb hby at_313) (fun _ _ => ⟨rfl, e24', (by decide : 40 + 0 ≤ _), (by decide : 3200 + 0 ≤ _)⟩)
    dsimp only [Pt.U, Pt.locs, Pt.cells, Pt.slots] at X42 l42 y42 z42 st42 hQ42
    subst l42 y42 z42
    obtain ⟨rfl, rfl, e42⟩ := hQ42
    first | rw [List.append_nil] at X42 | skip
    refine Goes.tr st42 ?_
    have e42' : T42.heap = TJ.heap := e42
    show Goes p e below _ (T42.setTop (mkF m 316 #[o0, o1, o2, o3, o4, vi n1, vi q1, vi n2, vi q2, o9, o10, o11, vi c0, vi c1, vi e0, vi e1, vr ca, vr cb, vr sj, vr s1, vr s2, vi (if n1 = n2 then (if n1 < (1 : Int32) then (if n1 < (2 : Int32) then (1 : Int32) else (if c1 = e1 then (1 : Int32) else (0 : Int32))) else (if c0 = e0 then (if n1 < (2 : Int32) then (1 : Int32) else (if c1 = e1 then (1 : Int32) else (0 : Int32))) else (0 : Int32))) else (0 : Int32))] [(.int (if own_cs n2 e0 e1 = own_cs n1 c0 c1 then (1 : Int32) else (0 : Int32)))]))
    refine gIL X42 hx hby at_316 rfl ?_
    have hc318_43 : (if own_cs n2 e0 e1 = own_cs n1 c0 c1 then (1 : Int32) else (0 : Int32)) = (if n1 = n2 then (if n1 < (1 : Int32) then (if n1 < (2 : Int32) then (1 : Int32) else (if c1 = e1 then (1 : Int32) else (0 : Int32))) else (if c0 = e0 then (if n1 < (2 : Int32) then (1 : Int32) else (if c1 = e1 then (1 : Int32) else (0 : Int32))) else (0 : Int32))) else (0 : Int32)) := (own_sn (own_same hn1.1 hn2.1 mc0 mc1 me0 me1))
    refine Goes.via (fun _ kk_ => XS.icmpNo X42.here hx rfl (hb hby at_318) rfl (teq hc318_43).2 kk_) ?_
    show Goes p e below _ (T42.setTop (mkF m 321 #[o0, o1, o2, o3, o4, vi n1, vi q1, vi n2, vi q2, o9, o10, o11, vi c0, vi c1, vi e0, vi e1, vr ca, vr cb, vr sj, vr s1, vr s2, vi (if n1 = n2 then (if n1 < (1 : Int32) then (if n1 < (2 : Int32) then (1 : Int32) else (if c1 = e1 then (1 : Int32) else (0 : Int32))) else (if c0 = e0 then (if n1 < (2 : Int32) then (1 : Int32) else (if c1 = e1 then (1 : Int32) else (0 : Int32))) else (0 : Int32))) else (0 : Int32))] []))
    refine gAL X42 hx hby at_321 rfl rfl ?_
    refine gAL X42 hx hby at_323 rfl rfl ?_
    obtain ⟨cq44, kq44, q44a, q44b, q44c⟩ := isOf hZ e42' fj0
    obtain ⟨_, _, ⟨T44, L44, k44, n44⟩, -, X44, ⟨Lc44, hQ44, l44, y44, z44⟩, st44⟩ := X42.virtualBack hx (y := (⟨"com/example/map_rewriter/maprewriter/core/Symbol", "equals", "(Ljava/lang/Object;)Z"⟩ : MethodName)) (z := (⟨"com/example/map_rewriter/maprewriter/core/Symbol", "equals", "(Ljava/lang/Object;)Z"⟩ : MethodName)) hown (mvT hZ (own_w hw 101 rfl)) (mvT hZ (own_w hw 102 rfl)) (notFace_of_selects (args := #[]) (mvT hZ (own_w hw 104 rfl))) (mvT hZ (own_w hw 104 rfl)) (mvT hZ (own_w hw 103 rfl)) (by decide) (backOf (W := 0) (rm22 l Z a0 hw [] s1 s1 y1 y1 cS t1 kJ1 n1 c0 c1 t1 kJ1 n1 c0 c1 TJ.heap n0 (Nat.le_trans Z0 KJ.1) fj1 fj0 fj1 fj4 fj5 fj6 fj7 fj4 fj5 fj6 fj7 f23 H_cs mc0 mc1 mc0 mc1) hZ (own_w hw 105 rfl) (own_w hw 39 rfl) (by decide) (by decide)) q44a q44c (g := (mkF m 325 #[o0, o1, o2, o3, o4, vi n1, vi q1, vi n2, vi q2, o9, o10, o11, vi c0, vi c1, vi e0, vi e1, vr ca, vr cb, vr sj, vr s1, vr s2, vi (if n1 = n2 then (if n1 < (1 : Int32) then (if n1 < (2 : Int32) then (1 : Int32) else (if c1 = e1 then (1 : Int32) else (0 : Int32))) else (if c0 = e0 then (if n1 < (2 : Int32) then (1 : Int32) else (if c1 = e1 then (1 : Int32) else (0 : Int32))) else (0 : Int32))) else (0 : Int32))] [(.ref s1), (.ref s1)])) rfl (by rw [hml]; rfl) (Steps.refl _) (argsL := [(.ref s1)]) (rest := []) (lenOf pd_15 rfl) rfl (by show 2 * 0 + _ ≤ _; exact Nat.le_of_eq rfl) (hb hby at_325) (fun _ _ => ⟨rfl, e42', (by decide : 40 + 0 ≤ _), (by decide : 3200 + 0 ≤ _)⟩)
    dsimp only [Pt.U, Pt.locs, Pt.cells, Pt.slots] at X44 l44 y44 z44 st44 hQ44
    subst l44 y44 z44
    obtain ⟨rfl, rfl, e44⟩ := hQ44
    first | rw [List.append_nil] at X44 | skip
    refine Goes.tr st44 ?_
    have e44' : T44.heap = TJ.heap := e44
    show Goes p e below _ (T44.setTop (mkF m 328 #[o0, o1, o2, o3, o4, vi n1, vi q1, vi n2, vi q2, o9, o10, o11, vi c0, vi c1, vi e0, vi e1, vr ca, vr cb, vr sj, vr s1, vr s2, vi (if n1 = n2 then (if n1 < (1 : Int32) then (if n1 < (2 : Int32) then (1 : Int32) else (if c1 = e1 then (1 : Int32) else (0 : Int32))) else (if c0 = e0 then (if n1 < (2 : Int32) then (1 : Int32) else (if c1 = e1 then (1 : Int32) else (0 : Int32))) else (0 : Int32))) else (0 : Int32))] [(.int (if own_cs n1 c0 c1 = own_cs n1 c0 c1 then (1 : Int32) else (0 : Int32)))]))
    have hc328_45 : ¬ ((if own_cs n1 c0 c1 = own_cs n1 c0 c1 then (1 : Int32) else (0 : Int32)) = (0 : Int32)) := (by rw [if_pos rfl]; decide)
    refine Goes.via (fun _ kk_ => XS.ifNo X44.here hx rfl (hb hby at_328) rfl ((if0 _ _).trans (feq hc328_45).1) kk_) ?_
    show Goes p e below _ (T44.setTop (mkF m 331 #[o0, o1, o2, o3, o4, vi n1, vi q1, vi n2, vi q2, o9, o10, o11, vi c0, vi c1, vi e0, vi e1, vr ca, vr cb, vr sj, vr s1, vr s2, vi (if n1 = n2 then (if n1 < (1 : Int32) then (if n1 < (2 : Int32) then (1 : Int32) else (if c1 = e1 then (1 : Int32) else (0 : Int32))) else (if c0 = e0 then (if n1 < (2 : Int32) then (1 : Int32) else (if c1 = e1 then (1 : Int32) else (0 : Int32))) else (0 : Int32))) else (0 : Int32))] []))
    refine gAL X44 hx hby at_331 rfl rfl ?_
    refine Goes.via (fun _ kk_ => XS.aconstNull X44.here hx rfl (hb hby at_333) kk_) ?_
    show Goes p e below _ (T44.setTop (mkF m 334 #[o0, o1, o2, o3, o4, vi n1, vi q1, vi n2, vi q2, o9, o10, o11, vi c0, vi c1, vi e0, vi e1, vr ca, vr cb, vr sj, vr s1, vr s2, vi (if n1 = n2 then (if n1 < (1 : Int32) then (if n1 < (2 : Int32) then (1 : Int32) else (if c1 = e1 then (1 : Int32) else (0 : Int32))) else (if c0 = e0 then (if n1 < (2 : Int32) then (1 : Int32) else (if c1 = e1 then (1 : Int32) else (0 : Int32))) else (0 : Int32))) else (0 : Int32))] [.null, (.ref s1)]))
    obtain ⟨cq46, kq46, q46a, q46b, q46c⟩ := isOf hZ e44' fj0
    obtain ⟨_, _, ⟨T46, L46, k46, n46⟩, -, X46, ⟨Lc46, hQ46, l46, y46, z46⟩, st46⟩ := X44.virtualBack hx (y := (⟨"com/example/map_rewriter/maprewriter/core/Symbol", "equals", "(Ljava/lang/Object;)Z"⟩ : MethodName)) (z := (⟨"com/example/map_rewriter/maprewriter/core/Symbol", "equals", "(Ljava/lang/Object;)Z"⟩ : MethodName)) hown (mvT hZ (own_w hw 101 rfl)) (mvT hZ (own_w hw 102 rfl)) (notFace_of_selects (args := #[]) (mvT hZ (own_w hw 104 rfl))) (mvT hZ (own_w hw 104 rfl)) (mvT hZ (own_w hw 103 rfl)) (by decide) (backOf (W := 0) (rm22n l Z a0 hw [] s1 TJ.heap n0 (Nat.le_trans Z0 KJ.1) ) hZ (own_w hw 105 rfl) (own_w hw 39 rfl) (by decide) (by decide)) q46a q46c (g := (mkF m 334 #[o0, o1, o2, o3, o4, vi n1, vi q1, vi n2, vi q2, o9, o10, o11, vi c0, vi c1, vi e0, vi e1, vr ca, vr cb, vr sj, vr s1, vr s2, vi (if n1 = n2 then (if n1 < (1 : Int32) then (if n1 < (2 : Int32) then (1 : Int32) else (if c1 = e1 then (1 : Int32) else (0 : Int32))) else (if c0 = e0 then (if n1 < (2 : Int32) then (1 : Int32) else (if c1 = e1 then (1 : Int32) else (0 : Int32))) else (0 : Int32))) else (0 : Int32))] [.null, (.ref s1)])) rfl (by rw [hml]; rfl) (Steps.refl _) (argsL := [.null]) (rest := []) (lenOf pd_15 rfl) rfl (by show 2 * 0 + _ ≤ _; exact Nat.le_of_eq rfl) (hb hby at_334) (fun _ _ => ⟨rfl, e44', (by decide : 40 + 0 ≤ _), (by decide : 3200 + 0 ≤ _)⟩)
    dsimp only [Pt.U, Pt.locs, Pt.cells, Pt.slots] at X46 l46 y46 z46 st46 hQ46
    subst l46 y46 z46
    obtain ⟨rfl, rfl, e46⟩ := hQ46
    first | rw [List.append_nil] at X46 | skip
    refine Goes.tr st46 ?_
    have e46' : T46.heap = TJ.heap := e46
    show Goes p e below _ (T46.setTop (mkF m 337 #[o0, o1, o2, o3, o4, vi n1, vi q1, vi n2, vi q2, o9, o10, o11, vi c0, vi c1, vi e0, vi e1, vr ca, vr cb, vr sj, vr s1, vr s2, vi (if n1 = n2 then (if n1 < (1 : Int32) then (if n1 < (2 : Int32) then (1 : Int32) else (if c1 = e1 then (1 : Int32) else (0 : Int32))) else (if c0 = e0 then (if n1 < (2 : Int32) then (1 : Int32) else (if c1 = e1 then (1 : Int32) else (0 : Int32))) else (0 : Int32))) else (0 : Int32))] [(.int (0 : Int32))]))
    have hc337_47 : (0 : Int32) = (0 : Int32) := (by decide)
    refine Goes.via (fun _ kk_ => XS.ifNo X46.here hx rfl (hb hby at_337) rfl ((if0 _ _).trans (teq hc337_47).2) kk_) ?_
    show Goes p e below _ (T46.setTop (mkF m 340 #[o0, o1, o2, o3, o4, vi n1, vi q1, vi n2, vi q2, o9, o10, o11, vi c0, vi c1, vi e0, vi e1, vr ca, vr cb, vr sj, vr s1, vr s2, vi (if n1 = n2 then (if n1 < (1 : Int32) then (if n1 < (2 : Int32) then (1 : Int32) else (if c1 = e1 then (1 : Int32) else (0 : Int32))) else (if c0 = e0 then (if n1 < (2 : Int32) then (1 : Int32) else (if c1 = e1 then (1 : Int32) else (0 : Int32))) else (0 : Int32))) else (0 : Int32))] []))
    refine gAL X46 hx hby at_340 rfl rfl ?_
    refine gAL X46 hx hby at_342 rfl rfl ?_
    obtain ⟨cq48, kq48, q48a, q48b, q48c⟩ := isOf hZ e46' fj0
    obtain ⟨_, _, ⟨T48, L48, k48, n48⟩, -, X48, ⟨Lc48, hQ48, l48, y48, z48⟩, st48⟩ := X46.virtualBack hx (y := (⟨"com/example/map_rewriter/maprewriter/core/Symbol", "equals", "(Ljava/lang/Object;)Z"⟩ : MethodName)) (z := (⟨"com/example/map_rewriter/maprewriter/core/Symbol", "equals", "(Ljava/lang/Object;)Z"⟩ : MethodName)) hown (mvT hZ (own_w hw 101 rfl)) (mvT hZ (own_w hw 102 rfl)) (notFace_of_selects (args := #[]) (mvT hZ (own_w hw 104 rfl))) (mvT hZ (own_w hw 104 rfl)) (mvT hZ (own_w hw 103 rfl)) (by decide) (backOf (W := 0) (rm22s l Z a0 hw [] s1 sj TJ.heap n0 (Nat.le_trans Z0 KJ.1) fj12) hZ (own_w hw 105 rfl) (own_w hw 39 rfl) (by decide) (by decide)) q48a q48c (g := (mkF m 344 #[o0, o1, o2, o3, o4, vi n1, vi q1, vi n2, vi q2, o9, o10, o11, vi c0, vi c1, vi e0, vi e1, vr ca, vr cb, vr sj, vr s1, vr s2, vi (if n1 = n2 then (if n1 < (1 : Int32) then (if n1 < (2 : Int32) then (1 : Int32) else (if c1 = e1 then (1 : Int32) else (0 : Int32))) else (if c0 = e0 then (if n1 < (2 : Int32) then (1 : Int32) else (if c1 = e1 then (1 : Int32) else (0 : Int32))) else (0 : Int32))) else (0 : Int32))] [(.ref sj), (.ref s1)])) rfl (by rw [hml]; rfl) (Steps.refl _) (argsL := [(.ref sj)]) (rest := []) (lenOf pd_15 rfl) rfl (by show 2 * 0 + _ ≤ _; exact Nat.le_of_eq rfl) (hb hby at_344) (fun _ _ => ⟨rfl, e46', (by decide : 40 + 0 ≤ _), (by decide : 3200 + 0 ≤ _)⟩)
    dsimp only [Pt.U, Pt.locs, Pt.cells, Pt.slots] at X48 l48 y48 z48 st48 hQ48
    subst l48 y48 z48
    obtain ⟨rfl, rfl, e48⟩ := hQ48
    first | rw [List.append_nil] at X48 | skip
    refine Goes.tr st48 ?_
    have e48' : T48.heap = TJ.heap := e48
    show Goes p e below _ (T48.setTop (mkF m 347 #[o0, o1, o2, o3, o4, vi n1, vi q1, vi n2, vi q2, o9, o10, o11, vi c0, vi c1, vi e0, vi e1, vr ca, vr cb, vr sj, vr s1, vr s2, vi (if n1 = n2 then (if n1 < (1 : Int32) then (if n1 < (2 : Int32) then (1 : Int32) else (if c1 = e1 then (1 : Int32) else (0 : Int32))) else (if c0 = e0 then (if n1 < (2 : Int32) then (1 : Int32) else (if c1 = e1 then (1 : Int32) else (0 : Int32))) else (0 : Int32))) else (0 : Int32))] [(.int (0 : Int32))]))
    have hc347_49 : (0 : Int32) = (0 : Int32) := (by decide)
    refine Goes.via (fun _ kk_ => XS.ifNo X48.here hx rfl (hb hby at_347) rfl ((if0 _ _).trans (teq hc347_49).2) kk_) ?_
    show Goes p e below _ (T48.setTop (mkF m 350 #[o0, o1, o2, o3, o4, vi n1, vi q1, vi n2, vi q2, o9, o10, o11, vi c0, vi c1, vi e0, vi e1, vr ca, vr cb, vr sj, vr s1, vr s2, vi (if n1 = n2 then (if n1 < (1 : Int32) then (if n1 < (2 : Int32) then (1 : Int32) else (if c1 = e1 then (1 : Int32) else (0 : Int32))) else (if c0 = e0 then (if n1 < (2 : Int32) then (1 : Int32) else (if c1 = e1 then (1 : Int32) else (0 : Int32))) else (0 : Int32))) else (0 : Int32))] []))
    refine gIC (z := 1) X48 hx hby at_350 rfl ?_
    refine Goes.via (fun _ kk_ => XS.goto X48.here hx rfl (pc0 := 351) (pc' := 355) rfl (hb hby at_351) (by decide) (by decide) kk_) ?_
    show Goes p e below _ (T48.setTop (mkF m 355 #[o0, o1, o2, o3, o4, vi n1, vi q1, vi n2, vi q2, o9, o10, o11, vi c0, vi c1, vi e0, vi e1, vr ca, vr cb, vr sj, vr s1, vr s2, vi (if n1 = n2 then (if n1 < (1 : Int32) then (if n1 < (2 : Int32) then (1 : Int32) else (if c1 = e1 then (1 : Int32) else (0 : Int32))) else (if c0 = e0 then (if n1 < (2 : Int32) then (1 : Int32) else (if c1 = e1 then (1 : Int32) else (0 : Int32))) else (0 : Int32))) else (0 : Int32))] [(.int (1 : Int32))]))
    have hKe : KS Z own_KL T48.vm T48.heap := by rw [e48']; exact KsJ.at_ (s := s) X48.warmed
    exact own_wfinN X48 SIJ (by rw [e48']; exact skJ) (fun U_ hv hh_ => by show KS Z own_KL U_.vm U_.heap; rw [hv, hh_]; exact hKe) hx hlk hret (by simp) (hb hby at_355) (by rw [e48']; exact ⟨rfl, NJ, KJ⟩) (by first | decide | omega | (dsimp only; omega)) (by first | decide | omega | (dsimp only; omega))
  rcases hn1.1 with hz | hz | hz
  · subst hz
    show Goes p e below _ (T15.setTop (mkF m 146 #[o0, o1, o2, o3, o4, vi (0 : Int32), vi q1, vi n2, vi q2, o9, o10, o11, vi c0, vi c1, vi e0, vi e1, .unset, .unset, .unset, .unset, .unset, .unset] []))
    refine gIL X15 hx hby at_146 rfl ?_
    obtain ⟨T50, h50, k50, X50, e50, E50, A50, st50⟩ := own_newP X15 hx hZ (own_w hw 7 rfl) e15' (g := (mkF m 148 #[o0, o1, o2, o3, o4, vi (0 : Int32), vi q1, vi n2, vi q2, o9, o10, o11, vi c0, vi c1, vi e0, vi e1, .unset, .unset, .unset, .unset, .unset, .unset] [(.int (0 : Int32))])) rfl (hb hby at_148) rfl (n := (0 : Int32)) (N := 0) (by decide) (by decide) (cap := 0) (by first | decide | omega | (dsimp only; omega)) (by first | decide | omega | (dsimp only; omega)) (by first | decide | omega | (dsimp only; omega)) (by first | decide | omega | (dsimp only; omega))
    obtain ⟨b50, g50⟩ : ∃ z, z = (h0).size := ⟨_, rfl⟩
    rw [← g50] at A50 st50
    have sz_b50 : h0.size ≤ b50 := Nat.le_trans (Nat.le_refl _) (Nat.le_of_eq g50.symm)
    have gn_b50 : n0 ≤ b50 := Nat.le_trans Z0 sz_b50
    refine Goes.via st50 ?_
    show Goes p e below _ (T50.setTop (mkF m 150 #[o0, o1, o2, o3, o4, vi (0 : Int32), vi q1, vi n2, vi q2, o9, o10, o11, vi c0, vi c1, vi e0, vi e1, .unset, .unset, .unset, .unset, .unset, .unset] [(.ref b50)]))
    refine Goes.via (fun _ kk_ => XS.astore X50.here hx rfl (hb hby at_150) rfl rfl (l' := #[o0, o1, o2, o3, o4, vi (0 : Int32), vi q1, vi n2, vi q2, o9, o10, o11, vi c0, vi c1, vi e0, vi e1, vr b50, .unset, .unset, .unset, .unset, .unset]) rfl kk_) ?_
    show Goes p e below _ (T50.setTop (mkF m 152 #[o0, o1, o2, o3, o4, vi (0 : Int32), vi q1, vi n2, vi q2, o9, o10, o11, vi c0, vi c1, vi e0, vi e1, vr b50, .unset, .unset, .unset, .unset, .unset] []))
    refine gIL X50 hx hby at_152 rfl ?_
    refine gIC (z := 1) X50 hx hby at_154 rfl ?_
    have hc155_51 : (0 : Int32) < (1 : Int32) := (by decide)
    refine Goes.via (fun _ kk_ => XS.icmpYes X50.here hx rfl (pc0 := 155) (pc' := 164) rfl (hb hby at_155) rfl (tlt hc155_51).1 (by decide) (by decide) kk_) ?_
    show Goes p e below _ (T50.setTop (mkF m 164 #[o0, o1, o2, o3, o4, vi (0 : Int32), vi q1, vi n2, vi q2, o9, o10, o11, vi c0, vi c1, vi e0, vi e1, vr b50, .unset, .unset, .unset, .unset, .unset] []))
    refine gIL X50 hx hby at_164 rfl ?_
    refine gIC (z := 2) X50 hx hby at_166 rfl ?_
    have hc167_52 : ¬ ((0 : Int32) = (2 : Int32)) := (by decide)
    refine Goes.via (fun _ kk_ => XS.icmpYes X50.here hx rfl (pc0 := 167) (pc' := 176) rfl (hb hby at_167) rfl (feq hc167_52).2 (by decide) (by decide) kk_) ?_
    show Goes p e below _ (T50.setTop (mkF m 176 #[o0, o1, o2, o3, o4, vi (0 : Int32), vi q1, vi n2, vi q2, o9, o10, o11, vi c0, vi c1, vi e0, vi e1, vr b50, .unset, .unset, .unset, .unset, .unset] []))
    rcases hn2.1 with hz | hz | hz
    · subst hz
      show Goes p e below _ (T50.setTop (mkF m 176 #[o0, o1, o2, o3, o4, vi (0 : Int32), vi q1, vi (0 : Int32), vi q2, o9, o10, o11, vi c0, vi c1, vi e0, vi e1, vr b50, .unset, .unset, .unset, .unset, .unset] []))
      refine gIL X50 hx hby at_176 rfl ?_
      obtain ⟨T53, h53, k53, X53, e53, E53, A53, st53⟩ := own_newP X50 hx hZ (own_w hw 7 rfl) e50 (g := (mkF m 178 #[o0, o1, o2, o3, o4, vi (0 : Int32), vi q1, vi (0 : Int32), vi q2, o9, o10, o11, vi c0, vi c1, vi e0, vi e1, vr b50, .unset, .unset, .unset, .unset, .unset] [(.int (0 : Int32))])) rfl (hb hby at_178) rfl (n := (0 : Int32)) (N := 0) (by decide) (by decide) (cap := 0) (by first | decide | omega | (dsimp only; omega)) (by first | decide | omega | (dsimp only; omega)) (by first | decide | omega | (dsimp only; omega)) (by first | decide | omega | (dsimp only; omega))
      obtain ⟨b53, g53⟩ : ∃ z, z = (h50).size := ⟨_, rfl⟩
      rw [← g53] at A53 st53
      have lne54 : b50 < b53 := Nat.lt_of_lt_of_le A50.lt (Nat.le_of_eq g53.symm)
      have ne54 : b50 ≠ b53 := Nat.ne_of_lt lne54
      have z55 : h0.size ≤ (h50).size := (Nat.le_trans (Nat.le_refl _) E50.1)
      have sz_b53 : h0.size ≤ b53 := Nat.le_trans z55 (Nat.le_of_eq g53.symm)
      have gn_b53 : n0 ≤ b53 := Nat.le_trans Z0 sz_b53
      refine Goes.via st53 ?_
      show Goes p e below _ (T53.setTop (mkF m 180 #[o0, o1, o2, o3, o4, vi (0 : Int32), vi q1, vi (0 : Int32), vi q2, o9, o10, o11, vi c0, vi c1, vi e0, vi e1, vr b50, .unset, .unset, .unset, .unset, .unset] [(.ref b53)]))
      refine Goes.via (fun _ kk_ => XS.astore X53.here hx rfl (hb hby at_180) rfl rfl (l' := #[o0, o1, o2, o3, o4, vi (0 : Int32), vi q1, vi (0 : Int32), vi q2, o9, o10, o11, vi c0, vi c1, vi e0, vi e1, vr b50, vr b53, .unset, .unset, .unset, .unset]) rfl kk_) ?_
      show Goes p e below _ (T53.setTop (mkF m 182 #[o0, o1, o2, o3, o4, vi (0 : Int32), vi q1, vi (0 : Int32), vi q2, o9, o10, o11, vi c0, vi c1, vi e0, vi e1, vr b50, vr b53, .unset, .unset, .unset, .unset] []))
      refine gIL X53 hx hby at_182 rfl ?_
      refine gIC (z := 1) X53 hx hby at_184 rfl ?_
      have hc185_56 : (0 : Int32) < (1 : Int32) := (by decide)
      refine Goes.via (fun _ kk_ => XS.icmpYes X53.here hx rfl (pc0 := 185) (pc' := 194) rfl (hb hby at_185) rfl (tlt hc185_56).1 (by decide) (by decide) kk_) ?_
      show Goes p e below _ (T53.setTop (mkF m 194 #[o0, o1, o2, o3, o4, vi (0 : Int32), vi q1, vi (0 : Int32), vi q2, o9, o10, o11, vi c0, vi c1, vi e0, vi e1, vr b50, vr b53, .unset, .unset, .unset, .unset] []))
      refine gIL X53 hx hby at_194 rfl ?_
      refine gIC (z := 2) X53 hx hby at_196 rfl ?_
      have hc197_57 : ¬ ((0 : Int32) = (2 : Int32)) := (by decide)
      refine Goes.via (fun _ kk_ => XS.icmpYes X53.here hx rfl (pc0 := 197) (pc' := 206) rfl (hb hby at_197) rfl (feq hc197_57).2 (by decide) (by decide) kk_) ?_
      show Goes p e below _ (T53.setTop (mkF m 206 #[o0, o1, o2, o3, o4, vi (0 : Int32), vi q1, vi (0 : Int32), vi q2, o9, o10, o11, vi c0, vi c1, vi e0, vi e1, vr b50, vr b53, .unset, .unset, .unset, .unset] []))
      obtain ⟨T58, h58, X58, e58, E58, A58, D58, -, st58⟩ := newO X53 hx hZ hown (own_w hw 8 rfl) (own_w hw 9 rfl) (own_w hw 10 rfl) e53 (g := (mkF m 206 #[o0, o1, o2, o3, o4, vi (0 : Int32), vi q1, vi (0 : Int32), vi q2, o9, o10, o11, vi c0, vi c1, vi e0, vi e1, vr b50, vr b53, .unset, .unset, .unset, .unset] [])) rfl (hb hby at_206) (by first | decide | omega | (dsimp only; omega)) (by first | decide | omega | (dsimp only; omega))
      obtain ⟨b58, g58⟩ : ∃ z, z = (h53).size := ⟨_, rfl⟩
      rw [← g58] at A58 D58 st58
      have f59 : Arw Z h53 b50 k50 .char 0 (fun _ => (.int 0)) := (A50.ext E53)
      have lne60 : b50 < b58 := Nat.lt_of_lt_of_le f59.lt (Nat.le_of_eq g58.symm)
      have ne60 : b50 ≠ b58 := Nat.ne_of_lt lne60
      have lne61 : b53 < b58 := Nat.lt_of_lt_of_le A53.lt (Nat.le_of_eq g58.symm)
      have ne61 : b53 ≠ b58 := Nat.ne_of_lt lne61
      have z62 : h0.size ≤ (h53).size := (Nat.le_trans z55 E53.1)
      have sz_b58 : h0.size ≤ b58 := Nat.le_trans z62 (Nat.le_of_eq g58.symm)
      have gn_b58 : n0 ≤ b58 := Nat.le_trans Z0 sz_b58
      have F_coder_b58 : Fld Z h58 b58 "java/lang/String" "coder" "B" (.int (0 : Int32)) := D58 (Or.inr (own_w hw 34 rfl)) (ty := .byte) (by decide)
      have F_value_b58 : Fld Z h58 b58 "java/lang/String" "value" "[B" .null := D58 (Or.inr (own_w hw 36 rfl)) (ty := (.array .byte)) (by decide)
      refine Goes.via st58 ?_
      show Goes p e below _ (T58.setTop (mkF m 209 #[o0, o1, o2, o3, o4, vi (0 : Int32), vi q1, vi (0 : Int32), vi q2, o9, o10, o11, vi c0, vi c1, vi e0, vi e1, vr b50, vr b53, .unset, .unset, .unset, .unset] [(.ref b58)]))
      refine gDU X58 hx hby at_209 rfl ?_
      refine gAL X58 hx hby at_210 rfl rfl ?_
      have f63 : Arw Z h58 b50 k50 .char 0 (fun _ => (.int 0)) := (f59.ext E58)
      have ol64 : Old Z n0 (h58) := (((HO.ext E50).ext E53).ext E58)
      have z66 : h0.size ≤ (h58).size := (Nat.le_trans z62 E58.1)
      have Ks67 : KS Z own_KL s.vm (h58) := (((Ks0.ext E50).ext E53).ext E58)
      have sk68 : _ ≤ (h58).size := (Nat.le_trans (Nat.le_trans (Nat.le_trans (Nat.zero_le _) E50.1) E53.1) E58.1)
      obtain ⟨_, _, ⟨T65, L65, k65, n65⟩, -, ⟨X65, Si65⟩, ⟨Lc65, ⟨hQ65, tK65, hK65, hKv65, hKh65⟩, l65, y65, z65⟩, st65⟩ := own_specialW X58 hx (y := (⟨"java/lang/String", "<init>", "([C)V"⟩ : MethodName)) rfl hown (mvT hZ (own_w hw 11 rfl)) (mvT hZ (own_w hw 12 rfl)) (mvT hZ (own_w hw 13 rfl)) (by decide) (own_backOfW (W := 1) (K := (fun U_ => KS Z own_KL U_.vm U_.heap)) (KP := (fun U_ => KS Z own_KL U_.vm U_.heap)) (rm3e l Z a0 hw [] b58 b50 k50 (fun _ => (.int 0)) h58 n0 (Nat.le_trans Z0 z66) A58 F_value_b58 F_coder_b58 gn_b58 f63 ol64 HW HC0 HC1 HC2) hZ (own_w hw 13 rfl) (own_w hw 10 rfl) (by decide) (by decide) (fun V_ hV hVh => by show KS Z own_KL V_.vm V_.heap; rw [hVh]; exact Ks67.at_ (s := s) hV)) (g := (mkF m 212 #[o0, o1, o2, o3, o4, vi (0 : Int32), vi q1, vi (0 : Int32), vi q2, o9, o10, o11, vi c0, vi c1, vi e0, vi e1, vr b50, vr b53, .unset, .unset, .unset, .unset] [(.ref b50), (.ref b58), (.ref b58)])) rfl (by rw [hml]; rfl) (a := b58) (argsL := [(.ref b50)]) (rest := [(.ref b58)]) (lenOf pd_17 rfl) rfl (by show 2 * 0 + _ ≤ _; exact Nat.le_of_eq rfl) (hb hby at_212) (fun _ _ => ⟨rfl, e58, (by decide : 3 + 2 ≤ _), (by decide : 4 + 4 ≤ _)⟩)
      dsimp only [Pt.U, Pt.locs, Pt.cells, Pt.slots] at X65 l65 y65 z65 st65 hQ65 Si65 hKv65 hKh65
      subst l65 y65 z65
      obtain ⟨tb65, tk65, rfl, N65q, K65, u65_0, u65_1, u65_2, u65_3⟩ := hQ65
      have N65 := Fr.app N0 N65q
      refine Goes.via st65 ?_
      obtain ⟨X65', SI65, hZ, hown⟩ := rebS SI0 sk68 X65 Si65 K65.1 hZ hown
      have Ks65 : KS Z own_KL T65.vm T65.heap := by rw [← hKv65, ← hKh65]; exact hK65
      have ne69 : b58 ≠ tb65 := own_ne_arr u65_0 (own_w hw 9 rfl) u65_3
      show Goes p e below _ (T65.setTop (mkF m 215 #[o0, o1, o2, o3, o4, vi (0 : Int32), vi q1, vi (0 : Int32), vi q2, o9, o10, o11, vi c0, vi c1, vi e0, vi e1, vr b50, vr b53, .unset, .unset, .unset, .unset] [(.ref b58)]))
      have Vf70 : Arv Z T65.heap tb65 tk65 .byte (own_n (0 : Int32) c0 c1) (own_v (0 : Int32) c0 c1) (.int 0) := (Arw.toArv u65_3 (by rw [own_na0]; decide) (fun i hi => absurd hi (Nat.not_lt_zero _)))
      refine Goes.via (fun _ kk_ => XS.astore X65'.here hx rfl (hb hby at_215) rfl rfl (l' := #[o0, o1, o2, o3, o4, vi (0 : Int32), vi q1, vi (0 : Int32), vi q2, o9, o10, o11, vi c0, vi c1, vi e0, vi e1, vr b50, vr b53, vr b58, .unset, .unset, .unset]) rfl kk_) ?_
      show Goes p e below _ (T65.setTop (mkF m 217 #[o0, o1, o2, o3, o4, vi (0 : Int32), vi q1, vi (0 : Int32), vi q2, o9, o10, o11, vi c0, vi c1, vi e0, vi e1, vr b50, vr b53, vr b58, .unset, .unset, .unset] []))
      obtain ⟨T71, h71, X71, e71, E71, A71, D71, -, st71⟩ := newO X65' hx hZ hown (own_w hw 37 rfl) (own_w hw 38 rfl) (own_w hw 39 rfl) rfl (g := (mkF m 217 #[o0, o1, o2, o3, o4, vi (0 : Int32), vi q1, vi (0 : Int32), vi q2, o9, o10, o11, vi c0, vi c1, vi e0, vi e1, vr b50, vr b53, vr b58, .unset, .unset, .unset] [])) rfl (hb hby at_217) (by first | decide | omega | (dsimp only; omega)) (by first | decide | omega | (dsimp only; omega))
      obtain ⟨b71, g71⟩ : ∃ z, z = (T65.heap).size := ⟨_, rfl⟩
      rw [← g71] at A71 D71 st71
      have f72 : Arw Z T65.heap b50 k50 .char 0 (fun _ => (.int 0)) := (f63.keep K65 (ninS ne60 nin0))
      have lne73 : b50 < b71 := Nat.lt_of_lt_of_le f72.lt (Nat.le_of_eq g71.symm)
      have ne73 : b50 ≠ b71 := Nat.ne_of_lt lne73
      have f74 : Arw Z T65.heap b53 k53 .char 0 (fun _ => (.int 0)) := ((A53.ext E58).keep K65 (ninS ne61 nin0))
      have lne75 : b53 < b71 := Nat.lt_of_lt_of_le f74.lt (Nat.le_of_eq g71.symm)
      have ne75 : b53 ≠ b71 := Nat.ne_of_lt lne75
      have lne76 : b58 < b71 := Nat.lt_of_lt_of_le u65_0.lt (Nat.le_of_eq g71.symm)
      have ne76 : b58 ≠ b71 := Nat.ne_of_lt lne76
      have lne77 : tb65 < b71 := Nat.lt_of_lt_of_le Vf70.lt (Nat.le_of_eq g71.symm)
      have ne77 : tb65 ≠ b71 := Nat.ne_of_lt lne77
      have z78 : h0.size ≤ (T65.heap).size := (Nat.le_trans z66 K65.1)
      have sz_b71 : h0.size ≤ b71 := Nat.le_trans z78 (Nat.le_of_eq g71.symm)
      have gn_b71 : n0 ≤ b71 := Nat.le_trans Z0 sz_b71
      have F_content_b71 : Fld Z h71 b71 "com/example/map_rewriter/maprewriter/core/Symbol" "content" "Ljava/lang/String;" .null := D71 (Or.inr (own_w hw 98 rfl)) (ty := (.object "java/lang/String")) (by decide)
      have F_quoted_b71 : Fld Z h71 b71 "com/example/map_rewriter/maprewriter/core/Symbol" "quoted" "Z" (.int (0 : Int32)) := D71 (Or.inr (own_w hw 100 rfl)) (ty := .boolean) (by decide)
      refine Goes.via st71 ?_
      show Goes p e below _ (T71.setTop (mkF m 220 #[o0, o1, o2, o3, o4, vi (0 : Int32), vi q1, vi (0 : Int32), vi q2, o9, o10, o11, vi c0, vi c1, vi e0, vi e1, vr b50, vr b53, vr b58, .unset, .unset, .unset] [(.ref b71)]))
      refine gDU X71 hx hby at_220 rfl ?_
      obtain ⟨T79, h79, X79, e79, E79, A79, D79, -, st79⟩ := newO X71 hx hZ hown (own_w hw 8 rfl) (own_w hw 9 rfl) (own_w hw 10 rfl) e71 (g := (mkF m 221 #[o0, o1, o2, o3, o4, vi (0 : Int32), vi q1, vi (0 : Int32), vi q2, o9, o10, o11, vi c0, vi c1, vi e0, vi e1, vr b50, vr b53, vr b58, .unset, .unset, .unset] [(.ref b71), (.ref b71)])) rfl (hb hby at_221) (by first | decide | omega | (dsimp only; omega)) (by first | decide | omega | (dsimp only; omega))
      obtain ⟨b79, g79⟩ : ∃ z, z = (h71).size := ⟨_, rfl⟩
      rw [← g79] at A79 D79 st79
      have f80 : Arw Z h71 b50 k50 .char 0 (fun _ => (.int 0)) := (f72.ext E71)
      have lne81 : b50 < b79 := Nat.lt_of_lt_of_le f80.lt (Nat.le_of_eq g79.symm)
      have ne81 : b50 ≠ b79 := Nat.ne_of_lt lne81
      have f82 : Arw Z h71 b53 k53 .char 0 (fun _ => (.int 0)) := (f74.ext E71)
      have lne83 : b53 < b79 := Nat.lt_of_lt_of_le f82.lt (Nat.le_of_eq g79.symm)
      have ne83 : b53 ≠ b79 := Nat.ne_of_lt lne83
      have f84 : Exa Z h71 b58 "java/lang/String" := (u65_0.ext E71)
      have lne85 : b58 < b79 := Nat.lt_of_lt_of_le f84.lt (Nat.le_of_eq g79.symm)
      have ne85 : b58 ≠ b79 := Nat.ne_of_lt lne85
      have f86 : Arv Z h71 tb65 tk65 .byte (own_n (0 : Int32) c0 c1) (own_v (0 : Int32) c0 c1) (.int 0) := (Vf70.ext E71)
      have lne87 : tb65 < b79 := Nat.lt_of_lt_of_le f86.lt (Nat.le_of_eq g79.symm)
      have ne87 : tb65 ≠ b79 := Nat.ne_of_lt lne87
      have lne88 : b71 < b79 := Nat.lt_of_lt_of_le A71.lt (Nat.le_of_eq g79.symm)
      have ne88 : b71 ≠ b79 := Nat.ne_of_lt lne88
      have z89 : h0.size ≤ (h71).size := (Nat.le_trans z78 E71.1)
      have sz_b79 : h0.size ≤ b79 := Nat.le_trans z89 (Nat.le_of_eq g79.symm)
      have gn_b79 : n0 ≤ b79 := Nat.le_trans Z0 sz_b79
      have F_coder_b79 : Fld Z h79 b79 "java/lang/String" "coder" "B" (.int (0 : Int32)) := D79 (Or.inr (own_w hw 34 rfl)) (ty := .byte) (by decide)
      have F_value_b79 : Fld Z h79 b79 "java/lang/String" "value" "[B" .null := D79 (Or.inr (own_w hw 36 rfl)) (ty := (.array .byte)) (by decide)
      refine Goes.via st79 ?_
      show Goes p e below _ (T79.setTop (mkF m 224 #[o0, o1, o2, o3, o4, vi (0 : Int32), vi q1, vi (0 : Int32), vi q2, o9, o10, o11, vi c0, vi c1, vi e0, vi e1, vr b50, vr b53, vr b58, .unset, .unset, .unset] [(.ref b79), (.ref b71), (.ref b71)]))
      refine gDU X79 hx hby at_224 rfl ?_
      refine gAL X79 hx hby at_225 rfl rfl ?_
      have f90 : Arw Z h79 b50 k50 .char 0 (fun _ => (.int 0)) := (f80.ext E79)
      have ol91 : Old Z n0 (h79) := (((ol64.keep K65 (allS gn_b58 all0)).ext E71).ext E79)
      have z93 : h0.size ≤ (h79).size := (Nat.le_trans z89 E79.1)
      have Ks94 : KS Z own_KL T65.vm (h79) := ((Ks65.ext E71).ext E79)
      have sk95 : _ ≤ (h79).size := (Nat.le_trans (Nat.le_trans (Nat.le_refl _) E71.1) E79.1)
      obtain ⟨_, _, ⟨T92, L92, k92, n92⟩, -, ⟨X92, Si92⟩, ⟨Lc92, ⟨hQ92, tK92, hK92, hKv92, hKh92⟩, l92, y92, z92⟩, st92⟩ := own_specialW X79 hx (y := (⟨"java/lang/String", "<init>", "([C)V"⟩ : MethodName)) rfl hown (mvT hZ (own_w hw 11 rfl)) (mvT hZ (own_w hw 12 rfl)) (mvT hZ (own_w hw 13 rfl)) (by decide) (own_backOfW (W := 3) (K := (fun U_ => KS Z own_KL U_.vm U_.heap)) (KP := (fun U_ => KS Z own_KL U_.vm U_.heap)) (rm3e l Z a0 hw [] b79 b50 k50 (fun _ => (.int 0)) h79 n0 (Nat.le_trans Z0 z93) A79 F_value_b79 F_coder_b79 gn_b79 f90 ol91 HW HC0 HC1 HC2) hZ (own_w hw 13 rfl) (own_w hw 10 rfl) (by decide) (by decide) (fun V_ hV hVh => by show KS Z own_KL V_.vm V_.heap; rw [hVh]; exact Ks94.at_ (s := s) hV)) (g := (mkF m 227 #[o0, o1, o2, o3, o4, vi (0 : Int32), vi q1, vi (0 : Int32), vi q2, o9, o10, o11, vi c0, vi c1, vi e0, vi e1, vr b50, vr b53, vr b58, .unset, .unset, .unset] [(.ref b50), (.ref b79), (.ref b79), (.ref b71), (.ref b71)])) rfl (by rw [hml]; rfl) (a := b79) (argsL := [(.ref b50)]) (rest := [(.ref b79), (.ref b71), (.ref b71)]) (lenOf pd_17 rfl) rfl (by show 2 * 0 + _ ≤ _; exact Nat.le_of_eq rfl) (hb hby at_227) (fun _ _ => ⟨rfl, e79, (by decide : 7 + 2 ≤ _), (by decide : 14 + 4 ≤ _)⟩)
      dsimp only [Pt.U, Pt.locs, Pt.cells, Pt.slots] at X92 l92 y92 z92 st92 hQ92 Si92 hKv92 hKh92
      subst l92 y92 z92
      obtain ⟨tb92, tk92, rfl, N92q, K92, u92_0, u92_1, u92_2, u92_3⟩ := hQ92
      have N92 := Fr.app N65 N92q
      refine Goes.via st92 ?_
      obtain ⟨X92', SI92, hZ, hown⟩ := rebS SI65 sk95 X92 Si92 K92.1 hZ hown
      have Ks92 : KS Z own_KL T92.vm T92.heap := by rw [← hKv92, ← hKh92]; exact hK92
      have ne96 : b79 ≠ tb92 := own_ne_arr u92_0 (own_w hw 9 rfl) u92_3
      show Goes p e below _ (T92.setTop (mkF m 230 #[o0, o1, o2, o3, o4, vi (0 : Int32), vi q1, vi (0 : Int32), vi q2, o9, o10, o11, vi c0, vi c1, vi e0, vi e1, vr b50, vr b53, vr b58, .unset, .unset, .unset] [(.ref b79), (.ref b71), (.ref b71)]))
      have f97 : Exa Z T92.heap b58 "java/lang/String" := ((f84.ext E79).keep K92)
      have f98 : Exa Z T92.heap b71 "com/example/map_rewriter/maprewriter/core/Symbol" := ((A71.ext E79).keep K92)
      have ne99 : b58 ≠ tb92 := own_ne_arr f97 (own_w hw 9 rfl) u92_3
      have ne100 : b71 ≠ tb92 := own_ne_arr f98 (own_w hw 38 rfl) u92_3
      have Vf101 : Arv Z T92.heap tb92 tk92 .byte (own_n (0 : Int32) c0 c1) (own_v (0 : Int32) c0 c1) (.int 0) := (Arw.toArv u92_3 (by rw [own_na0]; decide) (fun i hi => absurd hi (Nat.not_lt_zero _)))
      have Vg101 : Arw Z T92.heap tb92 tk92 .byte 0 (fun i => .int (own_g (0 : Int32) c0 c1 i)) := Arw.ofArv Vf101 (by rw [own_na0]; decide) (fun i hi => by exact absurd hi (Nat.not_lt_zero _))
      refine gIL X92' hx hby at_230 rfl ?_
      have f102 : Fld Z T92.heap b71 "com/example/map_rewriter/maprewriter/core/Symbol" "content" "Ljava/lang/String;" .null := ((F_content_b71.ext E79).keep K92 (ninS ne88 nin0))
      have f103 : Fld Z T92.heap b71 "com/example/map_rewriter/maprewriter/core/Symbol" "quoted" "Z" (.int (0 : Int32)) := ((F_quoted_b71.ext E79).keep K92 (ninS ne88 nin0))
      have K104 : Keep h0 T92.heap [] := ((((((((Keep.refl h0 []).ext E50).ext E53).ext E58).trans K65 (allS (Or.inr sz_b58) all0)).ext E71).ext E79).trans K92 (allS (Or.inr sz_b79) all0))
      have f105 : Sta Z T92.heap "java/lang/String" "COMPACT_STRINGS" "Z" (.int cS) := own_sta_keep OS K104
      have f106 : Sta Z T92.heap "jdk/internal/util/Preconditions" "SIOOBE_FORMATTER" "Ljava/util/function/BiFunction;" fo := own_sta_keep OF K104
      have ol107 : Old Z n0 (T92.heap) := (ol91.keep K92 (allS gn_b79 all0))
      have z109 : h0.size ≤ (T92.heap).size := (Nat.le_trans z93 K92.1)
      obtain ⟨_, _, ⟨T108, L108, k108, n108⟩, -, ⟨X108, Si108⟩, ⟨Lc108, ⟨hQ108, tK108, hK108, hKv108, hKh108⟩, l108, y108, z108⟩, st108⟩ := own_specialW X92' hx (y := (⟨"com/example/map_rewriter/maprewriter/core/Symbol", "<init>", "(Ljava/lang/String;Z)V"⟩ : MethodName)) rfl hown (mvT hZ (own_w hw 40 rfl)) (mvT hZ (own_w hw 41 rfl)) (mvT hZ (own_w hw 42 rfl)) (by decide) (own_backOfW (W := 1) (K := (fun U_ => KS Z own_KL U_.vm U_.heap)) (KP := (fun U_ => KS Z own_KL U_.vm U_.heap)) (rm9 l Z a0 hw [] b71 b79 q1 tb92 tk92 0 (own_g (0 : Int32) c0 c1) (0 : Int32) cS fo T92.heap n0 (Nat.le_trans Z0 z109) f98 f102 f103 gn_b71 u92_0 u92_1 u92_2 Vg101 (by decide) f105 H_cs f106 Hfo (hk0 0 (by decide)) ol107 HW HC0 HC1 HC2) hZ (own_w hw 42 rfl) (own_w hw 39 rfl) (by decide) (by decide) (fun V_ hV hVh => by show KS Z own_KL V_.vm V_.heap; rw [hVh]; exact Ks92.at_ (s := s) hV)) (g := (mkF m 232 #[o0, o1, o2, o3, o4, vi (0 : Int32), vi q1, vi (0 : Int32), vi q2, o9, o10, o11, vi c0, vi c1, vi e0, vi e1, vr b50, vr b53, vr b58, .unset, .unset, .unset] [(.int q1), (.ref b79), (.ref b71), (.ref b71)])) rfl (by rw [hml]; rfl) (a := b71) (argsL := [(.ref b79), (.int q1)]) (rest := [(.ref b71)]) (lenOf pd_18 rfl) rfl (by show 2 * 0 + _ ≤ _; exact Nat.le_of_eq rfl) (hb hby at_232) (fun _ _ => ⟨rfl, rfl, (by decide : 9 + 6 ≤ _), (by decide : 18 + 176 ≤ _)⟩)
      dsimp only [Pt.U, Pt.locs, Pt.cells, Pt.slots] at X108 l108 y108 z108 st108 hQ108 Si108 hKv108 hKh108
      subst l108 y108 z108
      obtain ⟨rfl, N108q, K108, u108_0, u108_1⟩ := hQ108
      have N108 := Fr.app N92 N108q
      refine Goes.via st108 ?_
      obtain ⟨X108', SI108, hZ, hown⟩ := rebS SI92 (Nat.le_refl _) X108 Si108 K108.1 hZ hown
      have Ks108 : KS Z own_KL T108.vm T108.heap := by rw [← hKv108, ← hKh108]; exact hK108
      show Goes p e below _ (T108.setTop (mkF m 235 #[o0, o1, o2, o3, o4, vi (0 : Int32), vi q1, vi (0 : Int32), vi q2, o9, o10, o11, vi c0, vi c1, vi e0, vi e1, vr b50, vr b53, vr b58, .unset, .unset, .unset] [(.ref b71)]))
      refine Goes.via (fun _ kk_ => XS.astore X108'.here hx rfl (hb hby at_235) rfl rfl (l' := #[o0, o1, o2, o3, o4, vi (0 : Int32), vi q1, vi (0 : Int32), vi q2, o9, o10, o11, vi c0, vi c1, vi e0, vi e1, vr b50, vr b53, vr b58, vr b71, .unset, .unset]) rfl kk_) ?_
      show Goes p e below _ (T108.setTop (mkF m 237 #[o0, o1, o2, o3, o4, vi (0 : Int32), vi q1, vi (0 : Int32), vi q2, o9, o10, o11, vi c0, vi c1, vi e0, vi e1, vr b50, vr b53, vr b58, vr b71, .unset, .unset] []))
      obtain ⟨T110, h110, X110, e110, E110, A110, D110, -, st110⟩ := newO X108' hx hZ hown (own_w hw 37 rfl) (own_w hw 38 rfl) (own_w hw 39 rfl) rfl (g := (mkF m 237 #[o0, o1, o2, o3, o4, vi (0 : Int32), vi q1, vi (0 : Int32), vi q2, o9, o10, o11, vi c0, vi c1, vi e0, vi e1, vr b50, vr b53, vr b58, vr b71, .unset, .unset] [])) rfl (hb hby at_237) (by first | decide | omega | (dsimp only; omega)) (by first | decide | omega | (dsimp only; omega))
      obtain ⟨b110, g110⟩ : ∃ z, z = (T108.heap).size := ⟨_, rfl⟩
      rw [← g110] at A110 D110 st110
      have f111 : Arw Z T108.heap b50 k50 .char 0 (fun _ => (.int 0)) := ((f90.keep K92 (ninS ne81 nin0)).keep K108 (ninS ne73 nin0))
      have lne112 : b50 < b110 := Nat.lt_of_lt_of_le f111.lt (Nat.le_of_eq g110.symm)
      have ne112 : b50 ≠ b110 := Nat.ne_of_lt lne112
      have f113 : Arw Z T108.heap b53 k53 .char 0 (fun _ => (.int 0)) := (((f82.ext E79).keep K92 (ninS ne83 nin0)).keep K108 (ninS ne75 nin0))
      have lne114 : b53 < b110 := Nat.lt_of_lt_of_le f113.lt (Nat.le_of_eq g110.symm)
      have ne114 : b53 ≠ b110 := Nat.ne_of_lt lne114
      have f115 : Exa Z T108.heap b58 "java/lang/String" := (f97.keep K108)
      have lne116 : b58 < b110 := Nat.lt_of_lt_of_le f115.lt (Nat.le_of_eq g110.symm)
      have ne116 : b58 ≠ b110 := Nat.ne_of_lt lne116
      have f117 : Arv Z T108.heap tb65 tk65 .byte (own_n (0 : Int32) c0 c1) (own_v (0 : Int32) c0 c1) (.int 0) := (((f86.ext E79).keep K92 (ninS ne87 nin0)).keep K108 (ninS ne77 nin0))
      have lne118 : tb65 < b110 := Nat.lt_of_lt_of_le f117.lt (Nat.le_of_eq g110.symm)
      have ne118 : tb65 ≠ b110 := Nat.ne_of_lt lne118
      have lne119 : b71 < b110 := Nat.lt_of_lt_of_le u108_0.lt (Nat.le_of_eq g110.symm)
      have ne119 : b71 ≠ b110 := Nat.ne_of_lt lne119
      have f120 : Exa Z T108.heap b79 "java/lang/String" := (u92_0.keep K108)
      have lne121 : b79 < b110 := Nat.lt_of_lt_of_le f120.lt (Nat.le_of_eq g110.symm)
      have ne121 : b79 ≠ b110 := Nat.ne_of_lt lne121
      have f122 : Arv Z T108.heap tb92 tk92 .byte (own_n (0 : Int32) c0 c1) (own_v (0 : Int32) c0 c1) (.int 0) := (Vf101.keep K108 (ninS (Ne.symm ne100) nin0))
      have lne123 : tb92 < b110 := Nat.lt_of_lt_of_le f122.lt (Nat.le_of_eq g110.symm)
      have ne123 : tb92 ≠ b110 := Nat.ne_of_lt lne123
      have z124 : h0.size ≤ (T108.heap).size := (Nat.le_trans z109 K108.1)
      have sz_b110 : h0.size ≤ b110 := Nat.le_trans z124 (Nat.le_of_eq g110.symm)
      have gn_b110 : n0 ≤ b110 := Nat.le_trans Z0 sz_b110
      have F_content_b110 : Fld Z h110 b110 "com/example/map_rewriter/maprewriter/core/Symbol" "content" "Ljava/lang/String;" .null := D110 (Or.inr (own_w hw 98 rfl)) (ty := (.object "java/lang/String")) (by decide)
      have F_quoted_b110 : Fld Z h110 b110 "com/example/map_rewriter/maprewriter/core/Symbol" "quoted" "Z" (.int (0 : Int32)) := D110 (Or.inr (own_w hw 100 rfl)) (ty := .boolean) (by decide)
      refine Goes.via st110 ?_
      show Goes p e below _ (T110.setTop (mkF m 240 #[o0, o1, o2, o3, o4, vi (0 : Int32), vi q1, vi (0 : Int32), vi q2, o9, o10, o11, vi c0, vi c1, vi e0, vi e1, vr b50, vr b53, vr b58, vr b71, .unset, .unset] [(.ref b110)]))
      refine gDU X110 hx hby at_240 rfl ?_
      obtain ⟨T125, h125, X125, e125, E125, A125, D125, -, st125⟩ := newO X110 hx hZ hown (own_w hw 8 rfl) (own_w hw 9 rfl) (own_w hw 10 rfl) e110 (g := (mkF m 241 #[o0, o1, o2, o3, o4, vi (0 : Int32), vi q1, vi (0 : Int32), vi q2, o9, o10, o11, vi c0, vi c1, vi e0, vi e1, vr b50, vr b53, vr b58, vr b71, .unset, .unset] [(.ref b110), (.ref b110)])) rfl (hb hby at_241) (by first | decide | omega | (dsimp only; omega)) (by first | decide | omega | (dsimp only; omega))
      obtain ⟨b125, g125⟩ : ∃ z, z = (h110).size := ⟨_, rfl⟩
      rw [← g125] at A125 D125 st125
      have f126 : Arw Z h110 b50 k50 .char 0 (fun _ => (.int 0)) := (f111.ext E110)
      have lne127 : b50 < b125 := Nat.lt_of_lt_of_le f126.lt (Nat.le_of_eq g125.symm)
      have ne127 : b50 ≠ b125 := Nat.ne_of_lt lne127
      have f128 : Arw Z h110 b53 k53 .char 0 (fun _ => (.int 0)) := (f113.ext E110)
      have lne129 : b53 < b125 := Nat.lt_of_lt_of_le f128.lt (Nat.le_of_eq g125.symm)
      have ne129 : b53 ≠ b125 := Nat.ne_of_lt lne129
      have f130 : Exa Z h110 b58 "java/lang/String" := (f115.ext E110)
      have lne131 : b58 < b125 := Nat.lt_of_lt_of_le f130.lt (Nat.le_of_eq g125.symm)
      have ne131 : b58 ≠ b125 := Nat.ne_of_lt lne131
      have f132 : Arv Z h110 tb65 tk65 .byte (own_n (0 : Int32) c0 c1) (own_v (0 : Int32) c0 c1) (.int 0) := (f117.ext E110)
      have lne133 : tb65 < b125 := Nat.lt_of_lt_of_le f132.lt (Nat.le_of_eq g125.symm)
      have ne133 : tb65 ≠ b125 := Nat.ne_of_lt lne133
      have f134 : Exa Z h110 b71 "com/example/map_rewriter/maprewriter/core/Symbol" := (u108_0.ext E110)
      have lne135 : b71 < b125 := Nat.lt_of_lt_of_le f134.lt (Nat.le_of_eq g125.symm)
      have ne135 : b71 ≠ b125 := Nat.ne_of_lt lne135
      have f136 : Exa Z h110 b79 "java/lang/String" := (f120.ext E110)
      have lne137 : b79 < b125 := Nat.lt_of_lt_of_le f136.lt (Nat.le_of_eq g125.symm)
      have ne137 : b79 ≠ b125 := Nat.ne_of_lt lne137
      have f138 : Arv Z h110 tb92 tk92 .byte (own_n (0 : Int32) c0 c1) (own_v (0 : Int32) c0 c1) (.int 0) := (f122.ext E110)
      have lne139 : tb92 < b125 := Nat.lt_of_lt_of_le f138.lt (Nat.le_of_eq g125.symm)
      have ne139 : tb92 ≠ b125 := Nat.ne_of_lt lne139
      have lne140 : b110 < b125 := Nat.lt_of_lt_of_le A110.lt (Nat.le_of_eq g125.symm)
      have ne140 : b110 ≠ b125 := Nat.ne_of_lt lne140
      have z141 : h0.size ≤ (h110).size := (Nat.le_trans z124 E110.1)
      have sz_b125 : h0.size ≤ b125 := Nat.le_trans z141 (Nat.le_of_eq g125.symm)
      have gn_b125 : n0 ≤ b125 := Nat.le_trans Z0 sz_b125
      have F_coder_b125 : Fld Z h125 b125 "java/lang/String" "coder" "B" (.int (0 : Int32)) := D125 (Or.inr (own_w hw 34 rfl)) (ty := .byte) (by decide)
      have F_value_b125 : Fld Z h125 b125 "java/lang/String" "value" "[B" .null := D125 (Or.inr (own_w hw 36 rfl)) (ty := (.array .byte)) (by decide)
      refine Goes.via st125 ?_
      show Goes p e below _ (T125.setTop (mkF m 244 #[o0, o1, o2, o3, o4, vi (0 : Int32), vi q1, vi (0 : Int32), vi q2, o9, o10, o11, vi c0, vi c1, vi e0, vi e1, vr b50, vr b53, vr b58, vr b71, .unset, .unset] [(.ref b125), (.ref b110), (.ref b110)]))
      refine gDU X125 hx hby at_244 rfl ?_
      refine gAL X125 hx hby at_245 rfl rfl ?_
      have f142 : Arw Z h125 b53 k53 .char 0 (fun _ => (.int 0)) := (f128.ext E125)
      have ol143 : Old Z n0 (h125) := (((ol107.keep K108 (allS gn_b71 all0)).ext E110).ext E125)
      have z145 : h0.size ≤ (h125).size := (Nat.le_trans z141 E125.1)
      have Ks146 : KS Z own_KL T108.vm (h125) := ((Ks108.ext E110).ext E125)
      have sk147 : _ ≤ (h125).size := (Nat.le_trans (Nat.le_trans (Nat.le_refl _) E110.1) E125.1)
      obtain ⟨_, _, ⟨T144, L144, k144, n144⟩, -, ⟨X144, Si144⟩, ⟨Lc144, ⟨hQ144, tK144, hK144, hKv144, hKh144⟩, l144, y144, z144⟩, st144⟩ := own_specialW X125 hx (y := (⟨"java/lang/String", "<init>", "([C)V"⟩ : MethodName)) rfl hown (mvT hZ (own_w hw 11 rfl)) (mvT hZ (own_w hw 12 rfl)) (mvT hZ (own_w hw 13 rfl)) (by decide) (own_backOfW (W := 3) (K := (fun U_ => KS Z own_KL U_.vm U_.heap)) (KP := (fun U_ => KS Z own_KL U_.vm U_.heap)) (rm3e l Z a0 hw [] b125 b53 k53 (fun _ => (.int 0)) h125 n0 (Nat.le_trans Z0 z145) A125 F_value_b125 F_coder_b125 gn_b125 f142 ol143 HW HC0 HC1 HC2) hZ (own_w hw 13 rfl) (own_w hw 10 rfl) (by decide) (by decide) (fun V_ hV hVh => by show KS Z own_KL V_.vm V_.heap; rw [hVh]; exact Ks146.at_ (s := s) hV)) (g := (mkF m 247 #[o0, o1, o2, o3, o4, vi (0 : Int32), vi q1, vi (0 : Int32), vi q2, o9, o10, o11, vi c0, vi c1, vi e0, vi e1, vr b50, vr b53, vr b58, vr b71, .unset, .unset] [(.ref b53), (.ref b125), (.ref b125), (.ref b110), (.ref b110)])) rfl (by rw [hml]; rfl) (a := b125) (argsL := [(.ref b53)]) (rest := [(.ref b125), (.ref b110), (.ref b110)]) (lenOf pd_17 rfl) rfl (by show 2 * 0 + _ ≤ _; exact Nat.le_of_eq rfl) (hb hby at_247) (fun _ _ => ⟨rfl, e125, (by decide : 17 + 2 ≤ _), (by decide : 200 + 4 ≤ _)⟩)
      dsimp only [Pt.U, Pt.locs, Pt.cells, Pt.slots] at X144 l144 y144 z144 st144 hQ144 Si144 hKv144 hKh144
      subst l144 y144 z144
      obtain ⟨tb144, tk144, rfl, N144q, K144, u144_0, u144_1, u144_2, u144_3⟩ := hQ144
      have N144 := Fr.app N108 N144q
      refine Goes.via st144 ?_
      obtain ⟨X144', SI144, hZ, hown⟩ := rebS SI108 sk147 X144 Si144 K144.1 hZ hown
      have Ks144 : KS Z own_KL T144.vm T144.heap := by rw [← hKv144, ← hKh144]; exact hK144
      have ne148 : b125 ≠ tb144 := own_ne_arr u144_0 (own_w hw 9 rfl) u144_3
      show Goes p e below _ (T144.setTop (mkF m 250 #[o0, o1, o2, o3, o4, vi (0 : Int32), vi q1, vi (0 : Int32), vi q2, o9, o10, o11, vi c0, vi c1, vi e0, vi e1, vr b50, vr b53, vr b58, vr b71, .unset, .unset] [(.ref b125), (.ref b110), (.ref b110)]))
      have f149 : Exa Z T144.heap b58 "java/lang/String" := ((f130.ext E125).keep K144)
      have f150 : Exa Z T144.heap b71 "com/example/map_rewriter/maprewriter/core/Symbol" := ((f134.ext E125).keep K144)
      have f151 : Exa Z T144.heap b79 "java/lang/String" := ((f136.ext E125).keep K144)
      have f152 : Exa Z T144.heap b110 "com/example/map_rewriter/maprewriter/core/Symbol" := ((A110.ext E125).keep K144)
      have ne153 : b58 ≠ tb144 := own_ne_arr f149 (own_w hw 9 rfl) u144_3
      have ne154 : b71 ≠ tb144 := own_ne_arr f150 (own_w hw 38 rfl) u144_3
      have ne155 : b79 ≠ tb144 := own_ne_arr f151 (own_w hw 9 rfl) u144_3
      have ne156 : b110 ≠ tb144 := own_ne_arr f152 (own_w hw 38 rfl) u144_3
      have Vf157 : Arv Z T144.heap tb144 tk144 .byte (own_n (0 : Int32) e0 e1) (own_v (0 : Int32) e0 e1) (.int 0) := (Arw.toArv u144_3 (by rw [own_na0]; decide) (fun i hi => absurd hi (Nat.not_lt_zero _)))
      have Vg157 : Arw Z T144.heap tb144 tk144 .byte 0 (fun i => .int (own_g (0 : Int32) e0 e1 i)) := Arw.ofArv Vf157 (by rw [own_na0]; decide) (fun i hi => by exact absurd hi (Nat.not_lt_zero _))
      refine gIL X144' hx hby at_250 rfl ?_
      have f158 : Fld Z T144.heap b110 "com/example/map_rewriter/maprewriter/core/Symbol" "content" "Ljava/lang/String;" .null := ((F_content_b110.ext E125).keep K144 (ninS ne140 nin0))
      have f159 : Fld Z T144.heap b110 "com/example/map_rewriter/maprewriter/core/Symbol" "quoted" "Z" (.int (0 : Int32)) := ((F_quoted_b110.ext E125).keep K144 (ninS ne140 nin0))
      have K160 : Keep h0 T144.heap [] := ((((K104.trans K108 (allS (Or.inr sz_b71) all0)).ext E110).ext E125).trans K144 (allS (Or.inr sz_b125) all0))
      have f161 : Sta Z T144.heap "java/lang/String" "COMPACT_STRINGS" "Z" (.int cS) := own_sta_keep OS K160
      have f162 : Sta Z T144.heap "jdk/internal/util/Preconditions" "SIOOBE_FORMATTER" "Ljava/util/function/BiFunction;" fo := own_sta_keep OF K160
      have ol163 : Old Z n0 (T144.heap) := (ol143.keep K144 (allS gn_b125 all0))
      have z165 : h0.size ≤ (T144.heap).size := (Nat.le_trans z145 K144.1)
      obtain ⟨_, _, ⟨T164, L164, k164, n164⟩, -, ⟨X164, Si164⟩, ⟨Lc164, ⟨hQ164, tK164, hK164, hKv164, hKh164⟩, l164, y164, z164⟩, st164⟩ := own_specialW X144' hx (y := (⟨"com/example/map_rewriter/maprewriter/core/Symbol", "<init>", "(Ljava/lang/String;Z)V"⟩ : MethodName)) rfl hown (mvT hZ (own_w hw 40 rfl)) (mvT hZ (own_w hw 41 rfl)) (mvT hZ (own_w hw 42 rfl)) (by decide) (own_backOfW (W := 1) (K := (fun U_ => KS Z own_KL U_.vm U_.heap)) (KP := (fun U_ => KS Z own_KL U_.vm U_.heap)) (rm9 l Z a0 hw [] b110 b125 q2 tb144 tk144 0 (own_g (0 : Int32) e0 e1) (0 : Int32) cS fo T144.heap n0 (Nat.le_trans Z0 z165) f152 f158 f159 gn_b110 u144_0 u144_1 u144_2 Vg157 (by decide) f161 H_cs f162 Hfo (hk1 0 (by decide)) ol163 HW HC0 HC1 HC2) hZ (own_w hw 42 rfl) (own_w hw 39 rfl) (by decide) (by decide) (fun V_ hV hVh => by show KS Z own_KL V_.vm V_.heap; rw [hVh]; exact Ks144.at_ (s := s) hV)) (g := (mkF m 252 #[o0, o1, o2, o3, o4, vi (0 : Int32), vi q1, vi (0 : Int32), vi q2, o9, o10, o11, vi c0, vi c1, vi e0, vi e1, vr b50, vr b53, vr b58, vr b71, .unset, .unset] [(.int q2), (.ref b125), (.ref b110), (.ref b110)])) rfl (by rw [hml]; rfl) (a := b110) (argsL := [(.ref b125), (.int q2)]) (rest := [(.ref b110)]) (lenOf pd_18 rfl) rfl (by show 2 * 0 + _ ≤ _; exact Nat.le_of_eq rfl) (hb hby at_252) (fun _ _ => ⟨rfl, rfl, (by decide : 19 + 6 ≤ _), (by decide : 204 + 176 ≤ _)⟩)
      dsimp only [Pt.U, Pt.locs, Pt.cells, Pt.slots] at X164 l164 y164 z164 st164 hQ164 Si164 hKv164 hKh164
      subst l164 y164 z164
      obtain ⟨rfl, N164q, K164, u164_0, u164_1⟩ := hQ164
      have N164 := Fr.app N144 N164q
      refine Goes.via st164 ?_
      obtain ⟨X164', SI164, hZ, hown⟩ := rebS SI144 (Nat.le_refl _) X164 Si164 K164.1 hZ hown
      have Ks164 : KS Z own_KL T164.vm T164.heap := by rw [← hKv164, ← hKh164]; exact hK164
      show Goes p e below _ (T164.setTop (mkF m 255 #[o0, o1, o2, o3, o4, vi (0 : Int32), vi q1, vi (0 : Int32), vi q2, o9, o10, o11, vi c0, vi c1, vi e0, vi e1, vr b50, vr b53, vr b58, vr b71, .unset, .unset] [(.ref b110)]))
      refine Goes.via (fun _ kk_ => XS.astore X164'.here hx rfl (hb hby at_255) rfl rfl (l' := #[o0, o1, o2, o3, o4, vi (0 : Int32), vi q1, vi (0 : Int32), vi q2, o9, o10, o11, vi c0, vi c1, vi e0, vi e1, vr b50, vr b53, vr b58, vr b71, vr b110, .unset]) rfl kk_) ?_
      show Goes p e below _ (T164.setTop (mkF m 257 #[o0, o1, o2, o3, o4, vi (0 : Int32), vi q1, vi (0 : Int32), vi q2, o9, o10, o11, vi c0, vi c1, vi e0, vi e1, vr b50, vr b53, vr b58, vr b71, vr b110, .unset] []))
      have K166 : Keep h0 T164.heap [] := (K160.trans K164 (allS (Or.inr sz_b110) all0))
      have f167 : Exa Z T164.heap b71 "com/example/map_rewriter/maprewriter/core/Symbol" := (f150.keep K164)
      have f168 : Fld Z T164.heap b71 "com/example/map_rewriter/maprewriter/core/Symbol" "content" "Ljava/lang/String;" (.ref b79) := ((((u108_1.ext E110).ext E125).keep K144 (ninS ne135 nin0)).keep K164 (ninS ne119 nin0))
      have f169 : Exa Z T164.heap b79 "java/lang/String" := (f151.keep K164)
      have f170 : Fld Z T164.heap b79 "java/lang/String" "coder" "B" (.int (0 : Int32)) := (((((u92_1.keep K108 (ninS (Ne.symm ne88) nin0)).ext E110).ext E125).keep K144 (ninS ne137 nin0)).keep K164 (ninS ne121 nin0))
      have f171 : Fld Z T164.heap b79 "java/lang/String" "value" "[B" (.ref tb92) := (((((u92_2.keep K108 (ninS (Ne.symm ne88) nin0)).ext E110).ext E125).keep K144 (ninS ne137 nin0)).keep K164 (ninS ne121 nin0))
      have f172 : Arv Z T164.heap tb92 tk92 .byte (own_n (0 : Int32) c0 c1) (own_v (0 : Int32) c0 c1) (.int 0) := (((f138.ext E125).keep K144 (ninS ne139 nin0)).keep K164 (ninS ne123 nin0))
      have f173 : Exa Z T164.heap b125 "java/lang/String" := (u144_0.keep K164)
      have f174 : Fld Z T164.heap b125 "java/lang/String" "coder" "B" (.int (0 : Int32)) := (u144_1.keep K164 (ninS (Ne.symm ne140) nin0))
      have f175 : Fld Z T164.heap b125 "java/lang/String" "value" "[B" (.ref tb144) := (u144_2.keep K164 (ninS (Ne.symm ne140) nin0))
      have f176 : Arv Z T164.heap tb144 tk144 .byte (own_n (0 : Int32) e0 e1) (own_v (0 : Int32) e0 e1) (.int 0) := (Vf157.keep K164 (ninS (Ne.symm ne156) nin0))
      have f177 : Exa Z T164.heap b58 "java/lang/String" := (f149.keep K164)
      exact J257 b50 b53 b58 b71 b110 b79 b125 tb92 tb144 tk92 tk144 _ _ _ _ (X164'.more (by decide) (by decide)) SI164 (Nat.le_refl _) hZ hown Ks164 N164 K166 f167 f168 u164_0 u164_1 f169 f170 f171 f172 f173 f174 f175 f176 f177
    · subst hz
      show Goes p e below _ (T50.setTop (mkF m 176 #[o0, o1, o2, o3, o4, vi (0 : Int32), vi q1, vi (1 : Int32), vi q2, o9, o10, o11, vi c0, vi c1, vi e0, vi e1, vr b50, .unset, .unset, .unset, .unset, .unset] []))
      refine gIL X50 hx hby at_176 rfl ?_
      obtain ⟨T178, h178, k178, X178, e178, E178, A178, st178⟩ := own_newP X50 hx hZ (own_w hw 7 rfl) e50 (g := (mkF m 178 #[o0, o1, o2, o3, o4, vi (0 : Int32), vi q1, vi (1 : Int32), vi q2, o9, o10, o11, vi c0, vi c1, vi e0, vi e1, vr b50, .unset, .unset, .unset, .unset, .unset] [(.int (1 : Int32))])) rfl (hb hby at_178) rfl (n := (1 : Int32)) (N := 1) (by decide) (by decide) (cap := 1) (by first | decide | omega | (dsimp only; omega)) (by first | decide | omega | (dsimp only; omega)) (by first | decide | omega | (dsimp only; omega)) (by first | decide | omega | (dsimp only; omega))
      obtain ⟨b178, g178⟩ : ∃ z, z = (h50).size := ⟨_, rfl⟩
      rw [← g178] at A178 st178
      have lne179 : b50 < b178 := Nat.lt_of_lt_of_le A50.lt (Nat.le_of_eq g178.symm)
      have ne179 : b50 ≠ b178 := Nat.ne_of_lt lne179
      have z180 : h0.size ≤ (h50).size := (Nat.le_trans (Nat.le_refl _) E50.1)
      have sz_b178 : h0.size ≤ b178 := Nat.le_trans z180 (Nat.le_of_eq g178.symm)
      have gn_b178 : n0 ≤ b178 := Nat.le_trans Z0 sz_b178
      refine Goes.via st178 ?_
      show Goes p e below _ (T178.setTop (mkF m 180 #[o0, o1, o2, o3, o4, vi (0 : Int32), vi q1, vi (1 : Int32), vi q2, o9, o10, o11, vi c0, vi c1, vi e0, vi e1, vr b50, .unset, .unset, .unset, .unset, .unset] [(.ref b178)]))
      refine Goes.via (fun _ kk_ => XS.astore X178.here hx rfl (hb hby at_180) rfl rfl (l' := #[o0, o1, o2, o3, o4, vi (0 : Int32), vi q1, vi (1 : Int32), vi q2, o9, o10, o11, vi c0, vi c1, vi e0, vi e1, vr b50, vr b178, .unset, .unset, .unset, .unset]) rfl kk_) ?_
      show Goes p e below _ (T178.setTop (mkF m 182 #[o0, o1, o2, o3, o4, vi (0 : Int32), vi q1, vi (1 : Int32), vi q2, o9, o10, o11, vi c0, vi c1, vi e0, vi e1, vr b50, vr b178, .unset, .unset, .unset, .unset] []))
      refine gIL X178 hx hby at_182 rfl ?_
      refine gIC (z := 1) X178 hx hby at_184 rfl ?_
      have hc185_181 : ¬ ((1 : Int32) < (1 : Int32)) := (by decide)
      refine Goes.via (fun _ kk_ => XS.icmpNo X178.here hx rfl (hb hby at_185) rfl (flt hc185_181).1 kk_) ?_
      show Goes p e below _ (T178.setTop (mkF m 188 #[o0, o1, o2, o3, o4, vi (0 : Int32), vi q1, vi (1 : Int32), vi q2, o9, o10, o11, vi c0, vi c1, vi e0, vi e1, vr b50, vr b178, .unset, .unset, .unset, .unset] []))
      refine gAL X178 hx hby at_188 rfl rfl ?_
      refine gIC (z := 0) X178 hx hby at_190 rfl ?_
      refine gIL X178 hx hby at_191 rfl ?_
      obtain ⟨T182, h182, X182, e182, W182, A182, st182⟩ := own_castore X178 hx hZ e178 A178 (j := (0 : Int32)) (i := 0) (by decide) (by decide) (by first | decide | omega | (dsimp only; omega)) (g := (mkF m 193 #[o0, o1, o2, o3, o4, vi (0 : Int32), vi q1, vi (1 : Int32), vi q2, o9, o10, o11, vi c0, vi c1, vi e0, vi e1, vr b50, vr b178, .unset, .unset, .unset, .unset] [(.int e0), (.int (0 : Int32)), (.ref b178)])) rfl rfl (hb hby at_193)
      refine Goes.via st182 ?_
      have N182 := Fr.snoc X182 N0 gn_b178
      show Goes p e below _ (T182.setTop (mkF m 194 #[o0, o1, o2, o3, o4, vi (0 : Int32), vi q1, vi (1 : Int32), vi q2, o9, o10, o11, vi c0, vi c1, vi e0, vi e1, vr b50, vr b178, .unset, .unset, .unset, .unset] []))
      refine gIL X182 hx hby at_194 rfl ?_
      refine gIC (z := 2) X182 hx hby at_196 rfl ?_
      have hc197_183 : ¬ ((1 : Int32) = (2 : Int32)) := (by decide)
      refine Goes.via (fun _ kk_ => XS.icmpYes X182.here hx rfl (pc0 := 197) (pc' := 206) rfl (hb hby at_197) rfl (feq hc197_183).2 (by decide) (by decide) kk_) ?_
      show Goes p e below _ (T182.setTop (mkF m 206 #[o0, o1, o2, o3, o4, vi (0 : Int32), vi q1, vi (1 : Int32), vi q2, o9, o10, o11, vi c0, vi c1, vi e0, vi e1, vr b50, vr b178, .unset, .unset, .unset, .unset] []))
      obtain ⟨T184, h184, X184, e184, E184, A184, D184, -, st184⟩ := newO X182 hx hZ hown (own_w hw 8 rfl) (own_w hw 9 rfl) (own_w hw 10 rfl) e182 (g := (mkF m 206 #[o0, o1, o2, o3, o4, vi (0 : Int32), vi q1, vi (1 : Int32), vi q2, o9, o10, o11, vi c0, vi c1, vi e0, vi e1, vr b50, vr b178, .unset, .unset, .unset, .unset] [])) rfl (hb hby at_206) (by first | decide | omega | (dsimp only; omega)) (by first | decide | omega | (dsimp only; omega))
      obtain ⟨b184, g184⟩ : ∃ z, z = (h182).size := ⟨_, rfl⟩
      rw [← g184] at A184 D184 st184
      have f185 : Arw Z h182 b50 k50 .char 0 (fun _ => (.int 0)) := ((A50.ext E178).other W182 ne179)
      have lne186 : b50 < b184 := Nat.lt_of_lt_of_le f185.lt (Nat.le_of_eq g184.symm)
      have ne186 : b50 ≠ b184 := Nat.ne_of_lt lne186
      have lne187 : b178 < b184 := Nat.lt_of_lt_of_le A182.lt (Nat.le_of_eq g184.symm)
      have ne187 : b178 ≠ b184 := Nat.ne_of_lt lne187
      have z188 : h0.size ≤ (h182).size := (Nat.le_trans (Nat.le_trans z180 E178.1) (Nat.le_of_eq W182.size.symm))
      have sz_b184 : h0.size ≤ b184 := Nat.le_trans z188 (Nat.le_of_eq g184.symm)
      have gn_b184 : n0 ≤ b184 := Nat.le_trans Z0 sz_b184
      have F_coder_b184 : Fld Z h184 b184 "java/lang/String" "coder" "B" (.int (0 : Int32)) := D184 (Or.inr (own_w hw 34 rfl)) (ty := .byte) (by decide)
      have F_value_b184 : Fld Z h184 b184 "java/lang/String" "value" "[B" .null := D184 (Or.inr (own_w hw 36 rfl)) (ty := (.array .byte)) (by decide)
      refine Goes.via st184 ?_
      show Goes p e below _ (T184.setTop (mkF m 209 #[o0, o1, o2, o3, o4, vi (0 : Int32), vi q1, vi (1 : Int32), vi q2, o9, o10, o11, vi c0, vi c1, vi e0, vi e1, vr b50, vr b178, .unset, .unset, .unset, .unset] [(.ref b184)]))
      refine gDU X184 hx hby at_209 rfl ?_
      refine gAL X184 hx hby at_210 rfl rfl ?_
      have f189 : Arw Z h184 b50 k50 .char 0 (fun _ => (.int 0)) := (f185.ext E184)
      have ol190 : Old Z n0 (h184) := ((((HO.ext E50).ext E178).wr W182 gn_b178).ext E184)
      have z192 : h0.size ≤ (h184).size := (Nat.le_trans z188 E184.1)
      have Ks193 : KS Z own_KL s.vm (h184) := ((((Ks0.ext E50).ext E178).wr W182 (NoS.arr A178 (own_w hw 9 rfl) (by intro q; cases q))).ext E184)
      have sk194 : _ ≤ (h184).size := (Nat.le_trans (Nat.le_trans (Nat.le_trans (Nat.le_trans (Nat.zero_le _) E50.1) E178.1) (Nat.le_of_eq W182.size.symm)) E184.1)
      obtain ⟨_, _, ⟨T191, L191, k191, n191⟩, -, ⟨X191, Si191⟩, ⟨Lc191, ⟨hQ191, tK191, hK191, hKv191, hKh191⟩, l191, y191, z191⟩, st191⟩ := own_specialW X184 hx (y := (⟨"java/lang/String", "<init>", "([C)V"⟩ : MethodName)) rfl hown (mvT hZ (own_w hw 11 rfl)) (mvT hZ (own_w hw 12 rfl)) (mvT hZ (own_w hw 13 rfl)) (by decide) (own_backOfW (W := 1) (K := (fun U_ => KS Z own_KL U_.vm U_.heap)) (KP := (fun U_ => KS Z own_KL U_.vm U_.heap)) (rm3e l Z a0 hw [] b184 b50 k50 (fun _ => (.int 0)) h184 n0 (Nat.le_trans Z0 z192) A184 F_value_b184 F_coder_b184 gn_b184 f189 ol190 HW HC0 HC1 HC2) hZ (own_w hw 13 rfl) (own_w hw 10 rfl) (by decide) (by decide) (fun V_ hV hVh => by show KS Z own_KL V_.vm V_.heap; rw [hVh]; exact Ks193.at_ (s := s) hV)) (g := (mkF m 212 #[o0, o1, o2, o3, o4, vi (0 : Int32), vi q1, vi (1 : Int32), vi q2, o9, o10, o11, vi c0, vi c1, vi e0, vi e1, vr b50, vr b178, .unset, .unset, .unset, .unset] [(.ref b50), (.ref b184), (.ref b184)])) rfl (by rw [hml]; rfl) (a := b184) (argsL := [(.ref b50)]) (rest := [(.ref b184)]) (lenOf pd_17 rfl) rfl (by show 2 * 0 + _ ≤ _; exact Nat.le_of_eq rfl) (hb hby at_212) (fun _ _ => ⟨rfl, e184, (by decide : 3 + 2 ≤ _), (by decide : 5 + 4 ≤ _)⟩)
      dsimp only [Pt.U, Pt.locs, Pt.cells, Pt.slots] at X191 l191 y191 z191 st191 hQ191 Si191 hKv191 hKh191
      subst l191 y191 z191
      obtain ⟨tb191, tk191, rfl, N191q, K191, u191_0, u191_1, u191_2, u191_3⟩ := hQ191
      have N191 := Fr.app N182 N191q
      refine Goes.via st191 ?_
      obtain ⟨X191', SI191, hZ, hown⟩ := rebS SI0 sk194 X191 Si191 K191.1 hZ hown
      have Ks191 : KS Z own_KL T191.vm T191.heap := by rw [← hKv191, ← hKh191]; exact hK191
      have ne195 : b184 ≠ tb191 := own_ne_arr u191_0 (own_w hw 9 rfl) u191_3
      show Goes p e below _ (T191.setTop (mkF m 215 #[o0, o1, o2, o3, o4, vi (0 : Int32), vi q1, vi (1 : Int32), vi q2, o9, o10, o11, vi c0, vi c1, vi e0, vi e1, vr b50, vr b178, .unset, .unset, .unset, .unset] [(.ref b184)]))
      have Vf196 : Arv Z T191.heap tb191 tk191 .byte (own_n (0 : Int32) c0 c1) (own_v (0 : Int32) c0 c1) (.int 0) := (Arw.toArv u191_3 (by rw [own_na0]; decide) (fun i hi => absurd hi (Nat.not_lt_zero _)))
      refine Goes.via (fun _ kk_ => XS.astore X191'.here hx rfl (hb hby at_215) rfl rfl (l' := #[o0, o1, o2, o3, o4, vi (0 : Int32), vi q1, vi (1 : Int32), vi q2, o9, o10, o11, vi c0, vi c1, vi e0, vi e1, vr b50, vr b178, vr b184, .unset, .unset, .unset]) rfl kk_) ?_
      show Goes p e below _ (T191.setTop (mkF m 217 #[o0, o1, o2, o3, o4, vi (0 : Int32), vi q1, vi (1 : Int32), vi q2, o9, o10, o11, vi c0, vi c1, vi e0, vi e1, vr b50, vr b178, vr b184, .unset, .unset, .unset] []))
      obtain ⟨T197, h197, X197, e197, E197, A197, D197, -, st197⟩ := newO X191' hx hZ hown (own_w hw 37 rfl) (own_w hw 38 rfl) (own_w hw 39 rfl) rfl (g := (mkF m 217 #[o0, o1, o2, o3, o4, vi (0 : Int32), vi q1, vi (1 : Int32), vi q2, o9, o10, o11, vi c0, vi c1, vi e0, vi e1, vr b50, vr b178, vr b184, .unset, .unset, .unset] [])) rfl (hb hby at_217) (by first | decide | omega | (dsimp only; omega)) (by first | decide | omega | (dsimp only; omega))
      obtain ⟨b197, g197⟩ : ∃ z, z = (T191.heap).size := ⟨_, rfl⟩
      rw [← g197] at A197 D197 st197
      have f198 : Arw Z T191.heap b50 k50 .char 0 (fun _ => (.int 0)) := (f189.keep K191 (ninS ne186 nin0))
      have lne199 : b50 < b197 := Nat.lt_of_lt_of_le f198.lt (Nat.le_of_eq g197.symm)
      have ne199 : b50 ≠ b197 := Nat.ne_of_lt lne199
      have f200 : Arw Z T191.heap b178 k178 .char 1 (own_upd (fun _ => (.int 0)) 0 (.int (nar .char e0))) := ((A182.ext E184).keep K191 (ninS ne187 nin0))
      have lne201 : b178 < b197 := Nat.lt_of_lt_of_le f200.lt (Nat.le_of_eq g197.symm)
      have ne201 : b178 ≠ b197 := Nat.ne_of_lt lne201
      have lne202 : b184 < b197 := Nat.lt_of_lt_of_le u191_0.lt (Nat.le_of_eq g197.symm)
      have ne202 : b184 ≠ b197 := Nat.ne_of_lt lne202
      have lne203 : tb191 < b197 := Nat.lt_of_lt_of_le Vf196.lt (Nat.le_of_eq g197.symm)
      have ne203 : tb191 ≠ b197 := Nat.ne_of_lt lne203
      have z204 : h0.size ≤ (T191.heap).size := (Nat.le_trans z192 K191.1)
      have sz_b197 : h0.size ≤ b197 := Nat.le_trans z204 (Nat.le_of_eq g197.symm)
      have gn_b197 : n0 ≤ b197 := Nat.le_trans Z0 sz_b197
      have F_content_b197 : Fld Z h197 b197 "com/example/map_rewriter/maprewriter/core/Symbol" "content" "Ljava/lang/String;" .null := D197 (Or.inr (own_w hw 98 rfl)) (ty := (.object "java/lang/String")) (by decide)
      have F_quoted_b197 : Fld Z h197 b197 "com/example/map_rewriter/maprewriter/core/Symbol" "quoted" "Z" (.int (0 : Int32)) := D197 (Or.inr (own_w hw 100 rfl)) (ty := .boolean) (by decide)
      refine Goes.via st197 ?_
      show Goes p e below _ (T197.setTop (mkF m 220 #[o0, o1, o2, o3, o4, vi (0 : Int32), vi q1, vi (1 : Int32), vi q2, o9, o10, o11, vi c0, vi c1, vi e0, vi e1, vr b50, vr b178, vr b184, .unset, .unset, .unset] [(.ref b197)]))
      refine gDU X197 hx hby at_220 rfl ?_
      obtain ⟨T205, h205, X205, e205, E205, A205, D205, -, st205⟩ := newO X197 hx hZ hown (own_w hw 8 rfl) (own_w hw 9 rfl) (own_w hw 10 rfl) e197 (g := (mkF m 221 #[o0, o1, o2, o3, o4, vi (0 : Int32), vi q1, vi (1 : Int32), vi q2, o9, o10, o11, vi c0, vi c1, vi e0, vi e1, vr b50, vr b178, vr b184, .unset, .unset, .unset] [(.ref b197), (.ref b197)])) rfl (hb hby at_221) (by first | decide | omega | (dsimp only; omega)) (by first | decide | omega | (dsimp only; omega))
      obtain ⟨b205, g205⟩ : ∃ z, z = (h197).size := ⟨_, rfl⟩
      rw [← g205] at A205 D205 st205
      have f206 : Arw Z h197 b50 k50 .char 0 (fun _ => (.int 0)) := (f198.ext E197)
      have lne207 : b50 < b205 := Nat.lt_of_lt_of_le f206.lt (Nat.le_of_eq g205.symm)
      have ne207 : b50 ≠ b205 := Nat.ne_of_lt lne207
      have f208 : Arw Z h197 b178 k178 .char 1 (own_upd (fun _ => (.int 0)) 0 (.int (nar .char e0))) := (f200.ext E197)
      have lne209 : b178 < b205 := Nat.lt_of_lt_of_le f208.lt (Nat.le_of_eq g205.symm)
      have ne209 : b178 ≠ b205 := Nat.ne_of_lt lne209
      have f210 : Exa Z h197 b184 "java/lang/String" := (u191_0.ext E197)
      have lne211 : b184 < b205 := Nat.lt_of_lt_of_le f210.lt (Nat.le_of_eq g205.symm)
      have ne211 : b184 ≠ b205 := Nat.ne_of_lt lne211
      have f212 : Arv Z h197 tb191 tk191 .byte (own_n (0 : Int32) c0 c1) (own_v (0 : Int32) c0 c1) (.int 0) := (Vf196.ext E197)
      have lne213 : tb191 < b205 := Nat.lt_of_lt_of_le f212.lt (Nat.le_of_eq g205.symm)
      have ne213 : tb191 ≠ b205 := Nat.ne_of_lt lne213
      have lne214 : b197 < b205 := Nat.lt_of_lt_of_le A197.lt (Nat.le_of_eq g205.symm)
      have ne214 : b197 ≠ b205 := Nat.ne_of_lt lne214
      have z215 : h0.size ≤ (h197).size := (Nat.le_trans z204 E197.1)
      have sz_b205 : h0.size ≤ b205 := Nat.le_trans z215 (Nat.le_of_eq g205.symm)
      have gn_b205 : n0 ≤ b205 := Nat.le_trans Z0 sz_b205
      have F_coder_b205 : Fld Z h205 b205 "java/lang/String" "coder" "B" (.int (0 : Int32)) := D205 (Or.inr (own_w hw 34 rfl)) (ty := .byte) (by decide)
      have F_value_b205 : Fld Z h205 b205 "java/lang/String" "value" "[B" .null := D205 (Or.inr (own_w hw 36 rfl)) (ty := (.array .byte)) (by decide)
      refine Goes.via st205 ?_
      show Goes p e below _ (T205.setTop (mkF m 224 #[o0, o1, o2, o3, o4, vi (0 : Int32), vi q1, vi (1 : Int32), vi q2, o9, o10, o11, vi c0, vi c1, vi e0, vi e1, vr b50, vr b178, vr b184, .unset, .unset, .unset] [(.ref b205), (.ref b197), (.ref b197)]))
      refine gDU X205 hx hby at_224 rfl ?_
      refine gAL X205 hx hby at_225 rfl rfl ?_
      have f216 : Arw Z h205 b50 k50 .char 0 (fun _ => (.int 0)) := (f206.ext E205)
      have ol217 : Old Z n0 (h205) := (((ol190.keep K191 (allS gn_b184 all0)).ext E197).ext E205)
      have z219 : h0.size ≤ (h205).size := (Nat.le_trans z215 E205.1)
      have Ks220 : KS Z own_KL T191.vm (h205) := ((Ks191.ext E197).ext E205)
      have sk221 : _ ≤ (h205).size := (Nat.le_trans (Nat.le_trans (Nat.le_refl _) E197.1) E205.1)
      obtain ⟨_, _, ⟨T218, L218, k218, n218⟩, -, ⟨X218, Si218⟩, ⟨Lc218, ⟨hQ218, tK218, hK218, hKv218, hKh218⟩, l218, y218, z218⟩, st218⟩ := own_specialW X205 hx (y := (⟨"java/lang/String", "<init>", "([C)V"⟩ : MethodName)) rfl hown (mvT hZ (own_w hw 11 rfl)) (mvT hZ (own_w hw 12 rfl)) (mvT hZ (own_w hw 13 rfl)) (by decide) (own_backOfW (W := 3) (K := (fun U_ => KS Z own_KL U_.vm U_.heap)) (KP := (fun U_ => KS Z own_KL U_.vm U_.heap)) (rm3e l Z a0 hw [] b205 b50 k50 (fun _ => (.int 0)) h205 n0 (Nat.le_trans Z0 z219) A205 F_value_b205 F_coder_b205 gn_b205 f216 ol217 HW HC0 HC1 HC2) hZ (own_w hw 13 rfl) (own_w hw 10 rfl) (by decide) (by decide) (fun V_ hV hVh => by show KS Z own_KL V_.vm V_.heap; rw [hVh]; exact Ks220.at_ (s := s) hV)) (g := (mkF m 227 #[o0, o1, o2, o3, o4, vi (0 : Int32), vi q1, vi (1 : Int32), vi q2, o9, o10, o11, vi c0, vi c1, vi e0, vi e1, vr b50, vr b178, vr b184, .unset, .unset, .unset] [(.ref b50), (.ref b205), (.ref b205), (.ref b197), (.ref b197)])) rfl (by rw [hml]; rfl) (a := b205) (argsL := [(.ref b50)]) (rest := [(.ref b205), (.ref b197), (.ref b197)]) (lenOf pd_17 rfl) rfl (by show 2 * 0 + _ ≤ _; exact Nat.le_of_eq rfl) (hb hby at_227) (fun _ _ => ⟨rfl, e205, (by decide : 7 + 2 ≤ _), (by decide : 15 + 4 ≤ _)⟩)
      dsimp only [Pt.U, Pt.locs, Pt.cells, Pt.slots] at X218 l218 y218 z218 st218 hQ218 Si218 hKv218 hKh218
      subst l218 y218 z218
      obtain ⟨tb218, tk218, rfl, N218q, K218, u218_0, u218_1, u218_2, u218_3⟩ := hQ218
      have N218 := Fr.app N191 N218q
      refine Goes.via st218 ?_
      obtain ⟨X218', SI218, hZ, hown⟩ := rebS SI191 sk221 X218 Si218 K218.1 hZ hown
      have Ks218 : KS Z own_KL T218.vm T218.heap := by rw [← hKv218, ← hKh218]; exact hK218
      have ne222 : b205 ≠ tb218 := own_ne_arr u218_0 (own_w hw 9 rfl) u218_3
      show Goes p e below _ (T218.setTop (mkF m 230 #[o0, o1, o2, o3, o4, vi (0 : Int32), vi q1, vi (1 : Int32), vi q2, o9, o10, o11, vi c0, vi c1, vi e0, vi e1, vr b50, vr b178, vr b184, .unset, .unset, .unset] [(.ref b205), (.ref b197), (.ref b197)]))
      have f223 : Exa Z T218.heap b184 "java/lang/String" := ((f210.ext E205).keep K218)
      have f224 : Exa Z T218.heap b197 "com/example/map_rewriter/maprewriter/core/Symbol" := ((A197.ext E205).keep K218)
      have ne225 : b184 ≠ tb218 := own_ne_arr f223 (own_w hw 9 rfl) u218_3
      have ne226 : b197 ≠ tb218 := own_ne_arr f224 (own_w hw 38 rfl) u218_3
      have Vf227 : Arv Z T218.heap tb218 tk218 .byte (own_n (0 : Int32) c0 c1) (own_v (0 : Int32) c0 c1) (.int 0) := (Arw.toArv u218_3 (by rw [own_na0]; decide) (fun i hi => absurd hi (Nat.not_lt_zero _)))
      have Vg227 : Arw Z T218.heap tb218 tk218 .byte 0 (fun i => .int (own_g (0 : Int32) c0 c1 i)) := Arw.ofArv Vf227 (by rw [own_na0]; decide) (fun i hi => by exact absurd hi (Nat.not_lt_zero _))
      refine gIL X218' hx hby at_230 rfl ?_
      have f228 : Fld Z T218.heap b197 "com/example/map_rewriter/maprewriter/core/Symbol" "content" "Ljava/lang/String;" .null := ((F_content_b197.ext E205).keep K218 (ninS ne214 nin0))
      have f229 : Fld Z T218.heap b197 "com/example/map_rewriter/maprewriter/core/Symbol" "quoted" "Z" (.int (0 : Int32)) := ((F_quoted_b197.ext E205).keep K218 (ninS ne214 nin0))
      have K230 : Keep h0 T218.heap [] := (((((((((Keep.refl h0 []).ext E50).ext E178).wr W182 (Or.inr sz_b178)).ext E184).trans K191 (allS (Or.inr sz_b184) all0)).ext E197).ext E205).trans K218 (allS (Or.inr sz_b205) all0))
      have f231 : Sta Z T218.heap "java/lang/String" "COMPACT_STRINGS" "Z" (.int cS) := own_sta_keep OS K230
      have f232 : Sta Z T218.heap "jdk/internal/util/Preconditions" "SIOOBE_FORMATTER" "Ljava/util/function/BiFunction;" fo := own_sta_keep OF K230
      have ol233 : Old Z n0 (T218.heap) := (ol217.keep K218 (allS gn_b205 all0))
      have z235 : h0.size ≤ (T218.heap).size := (Nat.le_trans z219 K218.1)
      obtain ⟨_, _, ⟨T234, L234, k234, n234⟩, -, ⟨X234, Si234⟩, ⟨Lc234, ⟨hQ234, tK234, hK234, hKv234, hKh234⟩, l234, y234, z234⟩, st234⟩ := own_specialW X218' hx (y := (⟨"com/example/map_rewriter/maprewriter/core/Symbol", "<init>", "(Ljava/lang/String;Z)V"⟩ : MethodName)) rfl hown (mvT hZ (own_w hw 40 rfl)) (mvT hZ (own_w hw 41 rfl)) (mvT hZ (own_w hw 42 rfl)) (by decide) (own_backOfW (W := 1) (K := (fun U_ => KS Z own_KL U_.vm U_.heap)) (KP := (fun U_ => KS Z own_KL U_.vm U_.heap)) (rm9 l Z a0 hw [] b197 b205 q1 tb218 tk218 0 (own_g (0 : Int32) c0 c1) (0 : Int32) cS fo T218.heap n0 (Nat.le_trans Z0 z235) f224 f228 f229 gn_b197 u218_0 u218_1 u218_2 Vg227 (by decide) f231 H_cs f232 Hfo (hk0 0 (by decide)) ol233 HW HC0 HC1 HC2) hZ (own_w hw 42 rfl) (own_w hw 39 rfl) (by decide) (by decide) (fun V_ hV hVh => by show KS Z own_KL V_.vm V_.heap; rw [hVh]; exact Ks218.at_ (s := s) hV)) (g := (mkF m 232 #[o0, o1, o2, o3, o4, vi (0 : Int32), vi q1, vi (1 : Int32), vi q2, o9, o10, o11, vi c0, vi c1, vi e0, vi e1, vr b50, vr b178, vr b184, .unset, .unset, .unset] [(.int q1), (.ref b205), (.ref b197), (.ref b197)])) rfl (by rw [hml]; rfl) (a := b197) (argsL := [(.ref b205), (.int q1)]) (rest := [(.ref b197)]) (lenOf pd_18 rfl) rfl (by show 2 * 0 + _ ≤ _; exact Nat.le_of_eq rfl) (hb hby at_232) (fun _ _ => ⟨rfl, rfl, (by decide : 9 + 6 ≤ _), (by decide : 19 + 176 ≤ _)⟩)
      dsimp only [Pt.U, Pt.locs, Pt.cells, Pt.slots] at X234 l234 y234 z234 st234 hQ234 Si234 hKv234 hKh234
      subst l234 y234 z234
      obtain ⟨rfl, N234q, K234, u234_0, u234_1⟩ := hQ234
      have N234 := Fr.app N218 N234q
      refine Goes.via st234 ?_
      obtain ⟨X234', SI234, hZ, hown⟩ := rebS SI218 (Nat.le_refl _) X234 Si234 K234.1 hZ hown
      have Ks234 : KS Z own_KL T234.vm T234.heap := by rw [← hKv234, ← hKh234]; exact hK234
      show Goes p e below _ (T234.setTop (mkF m 235 #[o0, o1, o2, o3, o4, vi (0 : Int32), vi q1, vi (1 : Int32), vi q2, o9, o10, o11, vi c0, vi c1, vi e0, vi e1, vr b50, vr b178, vr b184, .unset, .unset, .unset] [(.ref b197)]))
      refine Goes.via (fun _ kk_ => XS.astore X234'.here hx rfl (hb hby at_235) rfl rfl (l' := #[o0, o1, o2, o3, o4, vi (0 : Int32), vi q1, vi (1 : Int32), vi q2, o9, o10, o11, vi c0, vi c1, vi e0, vi e1, vr b50, vr b178, vr b184, vr b197, .unset, .unset]) rfl kk_) ?_
      show Goes p e below _ (T234.setTop (mkF m 237 #[o0, o1, o2, o3, o4, vi (0 : Int32), vi q1, vi (1 : Int32), vi q2, o9, o10, o11, vi c0, vi c1, vi e0, vi e1, vr b50, vr b178, vr b184, vr b197, .unset, .unset] []))
      obtain ⟨T236, h236, X236, e236, E236, A236, D236, -, st236⟩ := newO X234' hx hZ hown (own_w hw 37 rfl) (own_w hw 38 rfl) (own_w hw 39 rfl) rfl (g := (mkF m 237 #[o0, o1, o2, o3, o4, vi (0 : Int32), vi q1, vi (1 : Int32), vi q2, o9, o10, o11, vi c0, vi c1, vi e0, vi e1, vr b50, vr b178, vr b184, vr b197, .unset, .unset] [])) rfl (hb hby at_237) (by first | decide | omega | (dsimp only; omega)) (by first | decide | omega | (dsimp only; omega))
      obtain ⟨b236, g236⟩ : ∃ z, z = (T234.heap).size := ⟨_, rfl⟩
      rw [← g236] at A236 D236 st236
      have f237 : Arw Z T234.heap b50 k50 .char 0 (fun _ => (.int 0)) := ((f216.keep K218 (ninS ne207 nin0)).keep K234 (ninS ne199 nin0))
      have lne238 : b50 < b236 := Nat.lt_of_lt_of_le f237.lt (Nat.le_of_eq g236.symm)
      have ne238 : b50 ≠ b236 := Nat.ne_of_lt lne238
      have f239 : Arw Z T234.heap b178 k178 .char 1 (own_upd (fun _ => (.int 0)) 0 (.int (nar .char e0))) := (((f208.ext E205).keep K218 (ninS ne209 nin0)).keep K234 (ninS ne201 nin0))
      have lne240 : b178 < b236 := Nat.lt_of_lt_of_le f239.lt (Nat.le_of_eq g236.symm)
      have ne240 : b178 ≠ b236 := Nat.ne_of_lt lne240
      have f241 : Exa Z T234.heap b184 "java/lang/String" := (f223.keep K234)
      have lne242 : b184 < b236 := Nat.lt_of_lt_of_le f241.lt (Nat.le_of_eq g236.symm)
      have ne242 : b184 ≠ b236 := Nat.ne_of_lt lne242
      have f243 : Arv Z T234.heap tb191 tk191 .byte (own_n (0 : Int32) c0 c1) (own_v (0 : Int32) c0 c1) (.int 0) := (((f212.ext E205).keep K218 (ninS ne213 nin0)).keep K234 (ninS ne203 nin0))
      have lne244 : tb191 < b236 := Nat.lt_of_lt_of_le f243.lt (Nat.le_of_eq g236.symm)
      have ne244 : tb191 ≠ b236 := Nat.ne_of_lt lne244
      have lne245 : b197 < b236 := Nat.lt_of_lt_of_le u234_0.lt (Nat.le_of_eq g236.symm)
      have ne245 : b197 ≠ b236 := Nat.ne_of_lt lne245
      have f246 : Exa Z T234.heap b205 "java/lang/String" := (u218_0.keep K234)
      have lne247 : b205 < b236 := Nat.lt_of_lt_of_le f246.lt (Nat.le_of_eq g236.symm)
      have ne247 : b205 ≠ b236 := Nat.ne_of_lt lne247
      have f248 : Arv Z T234.heap tb218 tk218 .byte (own_n (0 : Int32) c0 c1) (own_v (0 : Int32) c0 c1) (.int 0) := (Vf227.keep K234 (ninS (Ne.symm ne226) nin0))
      have lne249 : tb218 < b236 := Nat.lt_of_lt_of_le f248.lt (Nat.le_of_eq g236.symm)
      have ne249 : tb218 ≠ b236 := Nat.ne_of_lt lne249
      have z250 : h0.size ≤ (T234.heap).size := (Nat.le_trans z235 K234.1)
      have sz_b236 : h0.size ≤ b236 := Nat.le_trans z250 (Nat.le_of_eq g236.symm)
      have gn_b236 : n0 ≤ b236 := Nat.le_trans Z0 sz_b236
      have F_content_b236 : Fld Z h236 b236 "com/example/map_rewriter/maprewriter/core/Symbol" "content" "Ljava/lang/String;" .null := D236 (Or.inr (own_w hw 98 rfl)) (ty := (.object "java/lang/String")) (by decide)
      have F_quoted_b236 : Fld Z h236 b236 "com/example/map_rewriter/maprewriter/core/Symbol" "quoted" "Z" (.int (0 : Int32)) := D236 (Or.inr (own_w hw 100 rfl)) (ty := .boolean) (by decide)
      refine Goes.via st236 ?_
      show Goes p e below _ (T236.setTop (mkF m 240 #[o0, o1, o2, o3, o4, vi (0 : Int32), vi q1, vi (1 : Int32), vi q2, o9, o10, o11, vi c0, vi c1, vi e0, vi e1, vr b50, vr b178, vr b184, vr b197, .unset, .unset] [(.ref b236)]))
      refine gDU X236 hx hby at_240 rfl ?_
      obtain ⟨T251, h251, X251, e251, E251, A251, D251, -, st251⟩ := newO X236 hx hZ hown (own_w hw 8 rfl) (own_w hw 9 rfl) (own_w hw 10 rfl) e236 (g := (mkF m 241 #[o0, o1, o2, o3, o4, vi (0 : Int32), vi q1, vi (1 : Int32), vi q2, o9, o10, o11, vi c0, vi c1, vi e0, vi e1, vr b50, vr b178, vr b184, vr b197, .unset, .unset] [(.ref b236), (.ref b236)])) rfl (hb hby at_241) (by first | decide | omega | (dsimp only; omega)) (by first | decide | omega | (dsimp only; omega))
      obtain ⟨b251, g251⟩ : ∃ z, z = (h236).size := ⟨_, rfl⟩
      rw [← g251] at A251 D251 st251
      have f252 : Arw Z h236 b50 k50 .char 0 (fun _ => (.int 0)) := (f237.ext E236)
      have lne253 : b50 < b251 := Nat.lt_of_lt_of_le f252.lt (Nat.le_of_eq g251.symm)
      have ne253 : b50 ≠ b251 := Nat.ne_of_lt lne253
      have f254 : Arw Z h236 b178 k178 .char 1 (own_upd (fun _ => (.int 0)) 0 (.int (nar .char e0))) := (f239.ext E236)
      have lne255 : b178 < b251 := Nat.lt_of_lt_of_le f254.lt (Nat.le_of_eq g251.symm)
      have ne255 : b178 ≠ b251 := Nat.ne_of_lt lne255
      have f256 : Exa Z h236 b184 "java/lang/String" := (f241.ext E236)
      have lne257 : b184 < b251 := Nat.lt_of_lt_of_le f256.lt (Nat.le_of_eq g251.symm)
      have ne257 : b184 ≠ b251 := Nat.ne_of_lt lne257
      have f258 : Arv Z h236 tb191 tk191 .byte (own_n (0 : Int32) c0 c1) (own_v (0 : Int32) c0 c1) (.int 0) := (f243.ext E236)
      have lne259 : tb191 < b251 := Nat.lt_of_lt_of_le f258.lt (Nat.le_of_eq g251.symm)
      have ne259 : tb191 ≠ b251 := Nat.ne_of_lt lne259
      have f260 : Exa Z h236 b197 "com/example/map_rewriter/maprewriter/core/Symbol" := (u234_0.ext E236)
      have lne261 : b197 < b251 := Nat.lt_of_lt_of_le f260.lt (Nat.le_of_eq g251.symm)
      have ne261 : b197 ≠ b251 := Nat.ne_of_lt lne261
      have f262 : Exa Z h236 b205 "java/lang/String" := (f246.ext E236)
      have lne263 : b205 < b251 := Nat.lt_of_lt_of_le f262.lt (Nat.le_of_eq g251.symm)
      have ne263 : b205 ≠ b251 := Nat.ne_of_lt lne263
      have f264 : Arv Z h236 tb218 tk218 .byte (own_n (0 : Int32) c0 c1) (own_v (0 : Int32) c0 c1) (.int 0) := (f248.ext E236)
      have lne265 : tb218 < b251 := Nat.lt_of_lt_of_le f264.lt (Nat.le_of_eq g251.symm)
      have ne265 : tb218 ≠ b251 := Nat.ne_of_lt lne265
      have lne266 : b236 < b251 := Nat.lt_of_lt_of_le A236.lt (Nat.le_of_eq g251.symm)
      have ne266 : b236 ≠ b251 := Nat.ne_of_lt lne266
      have z267 : h0.size ≤ (h236).size := (Nat.le_trans z250 E236.1)
      have sz_b251 : h0.size ≤ b251 := Nat.le_trans z267 (Nat.le_of_eq g251.symm)
      have gn_b251 : n0 ≤ b251 := Nat.le_trans Z0 sz_b251
      have F_coder_b251 : Fld Z h251 b251 "java/lang/String" "coder" "B" (.int (0 : Int32)) := D251 (Or.inr (own_w hw 34 rfl)) (ty := .byte) (by decide)
      have F_value_b251 : Fld Z h251 b251 "java/lang/String" "value" "[B" .null := D251 (Or.inr (own_w hw 36 rfl)) (ty := (.array .byte)) (by decide)
      refine Goes.via st251 ?_
      show Goes p e below _ (T251.setTop (mkF m 244 #[o0, o1, o2, o3, o4, vi (0 : Int32), vi q1, vi (1 : Int32), vi q2, o9, o10, o11, vi c0, vi c1, vi e0, vi e1, vr b50, vr b178, vr b184, vr b197, .unset, .unset] [(.ref b251), (.ref b236), (.ref b236)]))
      refine gDU X251 hx hby at_244 rfl ?_
      refine gAL X251 hx hby at_245 rfl rfl ?_
      have f269 : Arw Z h251 b178 k178 .char 1 (own_upd (fun _ => (.int 0)) 0 (.int (nar .char e0))) := (f254.ext E251)
      have Va268 : Arv Z h251 b178 k178 .char (1 : Int32) ([(nar .char e0)].map Value.int) (.int (0 : Int32)) := f269.toArv (by decide) (by intro i hi; match i, hi with | 0, _ => rfl)
      have K270 : Keep h0 h251 [] := (((K230.trans K234 (allS (Or.inr sz_b197) all0)).ext E236).ext E251)
      have f271 : Sta Z h251 "java/lang/String" "COMPACT_STRINGS" "Z" (.int cS) := own_sta_keep OS K270
      have z272 : h0.size ≤ (h251).size := (Nat.le_trans z267 E251.1)
      have hws268 : ∀ d ∈ StrChars.Road.words, d.before a0 Z = true := fun d hd => hw d ((by decide +kernel : ∀ d ∈ StrChars.Road.words, d ∈ tables_1) d hd)
      have hlat268 : ∀ c ∈ [(nar .char e0)], ¬ c < 0 ∧ ¬ (255 : Int32) < c := (by intro x hx; have q := own_lat (n := (1 : Int32)) (c := e0) (d := e1) (me0) (me1) x; rw [own_cs1 _ _ (by decide) rfl] at q; exact q hx)
      obtain ⟨_, _, ⟨T268, L268, k268, n268⟩, -, X268, ⟨Lc268, hQ268, l268, y268, z268⟩, st268⟩ := X251.specialBack hx (y := (⟨"java/lang/String", "<init>", "([C)V"⟩ : MethodName)) rfl hown (mvT hZ (own_w hw 11 rfl)) (mvT hZ (own_w hw 12 rfl)) (mvT hZ (own_w hw 13 rfl)) (by decide) (StrChars.Road.backV (W := 3) hZ hws268 (kI := 4) (own_w hw 9 rfl) (cs := [(nar .char e0)]) (bs := [(nar .char e0)].map (fun c => c.toInt8.toInt32)) (n := 1) gn_b251 (Nat.le_trans Z0 z272) A251 F_value_b251 F_coder_b251 Va268 f271 H_cs rfl rfl (by decide) (by decide) hlat268 rfl (by decide) (by decide)) (g := (mkF m 247 #[o0, o1, o2, o3, o4, vi (0 : Int32), vi q1, vi (1 : Int32), vi q2, o9, o10, o11, vi c0, vi c1, vi e0, vi e1, vr b50, vr b178, vr b184, vr b197, .unset, .unset] [(.ref b178), (.ref b251), (.ref b251), (.ref b236), (.ref b236)])) rfl (by rw [hml]; rfl) (Steps.refl _) (a := b251) (argsL := [(.ref b178)]) (rest := [(.ref b251), (.ref b236), (.ref b236)]) (lenOf pd_17 rfl) rfl (by show 2 * 0 + _ ≤ _; exact Nat.le_of_eq rfl) (hb hby at_247) (fun _ _ => ⟨rfl, e251, (by first | decide | omega : 17 + 1 ≤ _), (by first | decide | omega : 201 + 1 ≤ _)⟩)
      dsimp only [Pt.U, Pt.locs, Pt.cells, Pt.slots] at X268 l268 y268 z268 st268 hQ268
      subst l268 y268 z268
      obtain ⟨rfl, N268q, K268, uE268, uC268, sb268, kb268, ug268, uz268, un268, uV268, uA268⟩ := hQ268
      have N268 := Fr.app N234 N268q
      have f273 : Arw Z h251 b50 k50 .char 0 (fun _ => (.int 0)) := (f252.ext E251)
      have ne274 : b50 ≠ sb268 := Nat.ne_of_lt (Nat.lt_of_lt_of_le f273.lt uz268)
      have ne275 : b178 ≠ sb268 := Nat.ne_of_lt (Nat.lt_of_lt_of_le f269.lt uz268)
      have f276 : Exa Z h251 b184 "java/lang/String" := (f256.ext E251)
      have ne277 : b184 ≠ sb268 := Nat.ne_of_lt (Nat.lt_of_lt_of_le f276.lt uz268)
      have f278 : Arv Z h251 tb191 tk191 .byte (own_n (0 : Int32) c0 c1) (own_v (0 : Int32) c0 c1) (.int 0) := (f258.ext E251)
      have ne279 : tb191 ≠ sb268 := Nat.ne_of_lt (Nat.lt_of_lt_of_le f278.lt uz268)
      have f280 : Exa Z h251 b197 "com/example/map_rewriter/maprewriter/core/Symbol" := (f260.ext E251)
      have ne281 : b197 ≠ sb268 := Nat.ne_of_lt (Nat.lt_of_lt_of_le f280.lt uz268)
      have f282 : Exa Z h251 b205 "java/lang/String" := (f262.ext E251)
      have ne283 : b205 ≠ sb268 := Nat.ne_of_lt (Nat.lt_of_lt_of_le f282.lt uz268)
      have f284 : Arv Z h251 tb218 tk218 .byte (own_n (0 : Int32) c0 c1) (own_v (0 : Int32) c0 c1) (.int 0) := (f264.ext E251)
      have ne285 : tb218 ≠ sb268 := Nat.ne_of_lt (Nat.lt_of_lt_of_le f284.lt uz268)
      have f286 : Exa Z h251 b236 "com/example/map_rewriter/maprewriter/core/Symbol" := (A236.ext E251)
      have ne287 : b236 ≠ sb268 := Nat.ne_of_lt (Nat.lt_of_lt_of_le f286.lt uz268)
      have ne288 : b251 ≠ sb268 := Nat.ne_of_lt (Nat.lt_of_lt_of_le A251.lt uz268)
      have sz_sb268 : h0.size ≤ sb268 := Nat.le_trans z272 uz268
      refine Goes.tr st268 ?_
      show Goes p e below _ (T268.setTop (mkF m 250 #[o0, o1, o2, o3, o4, vi (0 : Int32), vi q1, vi (1 : Int32), vi q2, o9, o10, o11, vi c0, vi c1, vi e0, vi e1, vr b50, vr b178, vr b184, vr b197, .unset, .unset] [(.ref b251), (.ref b236), (.ref b236)]))
      have f289 : Exa Z T268.heap b184 "java/lang/String" := (f276.keep K268)
      have f290 : Exa Z T268.heap b197 "com/example/map_rewriter/maprewriter/core/Symbol" := (f280.keep K268)
      have f291 : Exa Z T268.heap b205 "java/lang/String" := (f282.keep K268)
      have f292 : Exa Z T268.heap b236 "com/example/map_rewriter/maprewriter/core/Symbol" := (f286.keep K268)
      have Vf293 : Arv Z T268.heap sb268 kb268 .byte (own_n (1 : Int32) e0 e1) (own_v (1 : Int32) e0 e1) (.int 0) := (by unfold own_n own_v; rw [own_cs1 _ _ (by decide) rfl]; exact uA268)
      have Vg293 : Arw Z T268.heap sb268 kb268 .byte 1 (fun i => .int (own_g (1 : Int32) e0 e1 i)) := Arw.ofArv Vf293 (by rw [own_na1]; decide) (fun i hi => by match i, hi with | 0, _ => rfl)
      refine gIL X268 hx hby at_250 rfl ?_
      have f294 : Fld Z T268.heap b236 "com/example/map_rewriter/maprewriter/core/Symbol" "content" "Ljava/lang/String;" .null := ((F_content_b236.ext E251).keep K268 (ninS ne266 nin0))
      have f295 : Fld Z T268.heap b236 "com/example/map_rewriter/maprewriter/core/Symbol" "quoted" "Z" (.int (0 : Int32)) := ((F_quoted_b236.ext E251).keep K268 (ninS ne266 nin0))
      have K296 : Keep h0 T268.heap [] := (K270.trans K268 (allS (Or.inr sz_b251) all0))
      have f297 : Sta Z T268.heap "java/lang/String" "COMPACT_STRINGS" "Z" (.int cS) := own_sta_keep OS K296
      have f298 : Sta Z T268.heap "jdk/internal/util/Preconditions" "SIOOBE_FORMATTER" "Ljava/util/function/BiFunction;" fo := own_sta_keep OF K296
      have ol299 : Old Z n0 (T268.heap) := ((((ol233.keep K234 (allS gn_b197 all0)).ext E236).ext E251).keep K268 (allS gn_b251 all0))
      have z301 : h0.size ≤ (T268.heap).size := (Nat.le_trans z272 K268.1)
      have Ks302 : KS Z own_KL T234.vm (T268.heap) := (((Ks234.ext E236).ext E251).keep K268 (allS (NoS.str A251 (own_w hw 9 rfl) F_value_b251) all0))
      have sk303 : _ ≤ (T268.heap).size := (Nat.le_trans (Nat.le_trans (Nat.le_trans (Nat.le_refl _) E236.1) E251.1) K268.1)
      obtain ⟨_, _, ⟨T300, L300, k300, n300⟩, -, ⟨X300, Si300⟩, ⟨Lc300, ⟨hQ300, tK300, hK300, hKv300, hKh300⟩, l300, y300, z300⟩, st300⟩ := own_specialW X268 hx (y := (⟨"com/example/map_rewriter/maprewriter/core/Symbol", "<init>", "(Ljava/lang/String;Z)V"⟩ : MethodName)) rfl hown (mvT hZ (own_w hw 40 rfl)) (mvT hZ (own_w hw 41 rfl)) (mvT hZ (own_w hw 42 rfl)) (by decide) (own_backOfW (W := 1) (K := (fun U_ => KS Z own_KL U_.vm U_.heap)) (KP := (fun U_ => KS Z own_KL U_.vm U_.heap)) (rm9 l Z a0 hw [] b236 b251 q2 sb268 kb268 1 (own_g (1 : Int32) e0 e1) (1 : Int32) cS fo T268.heap n0 (Nat.le_trans Z0 z301) f292 f294 f295 gn_b236 uE268 uC268 uV268 Vg293 (by decide) f297 H_cs f298 Hfo (hk1 1 (by decide)) ol299 HW HC0 HC1 HC2) hZ (own_w hw 42 rfl) (own_w hw 39 rfl) (by decide) (by decide) (fun V_ hV hVh => by show KS Z own_KL V_.vm V_.heap; rw [hVh]; exact Ks302.at_ (s := s) hV)) (g := (mkF m 252 #[o0, o1, o2, o3, o4, vi (0 : Int32), vi q1, vi (1 : Int32), vi q2, o9, o10, o11, vi c0, vi c1, vi e0, vi e1, vr b50, vr b178, vr b184, vr b197, .unset, .unset] [(.int q2), (.ref b251), (.ref b236), (.ref b236)])) rfl (by rw [hml]; rfl) (a := b236) (argsL := [(.ref b251), (.int q2)]) (rest := [(.ref b236)]) (lenOf pd_18 rfl) rfl (by show 2 * 0 + _ ≤ _; exact Nat.le_of_eq rfl) (hb hby at_252) (fun _ _ => ⟨rfl, rfl, (by decide : 18 + 6 ≤ _), (by decide : 202 + 176 ≤ _)⟩)
      dsimp only [Pt.U, Pt.locs, Pt.cells, Pt.slots] at X300 l300 y300 z300 st300 hQ300 Si300 hKv300 hKh300
      subst l300 y300 z300
      obtain ⟨rfl, N300q, K300, u300_0, u300_1⟩ := hQ300
      have N300 := Fr.app N268 N300q
      refine Goes.via st300 ?_
      obtain ⟨X300', SI300, hZ, hown⟩ := rebS SI234 sk303 X300 Si300 K300.1 hZ hown
      have Ks300 : KS Z own_KL T300.vm T300.heap := by rw [← hKv300, ← hKh300]; exact hK300
      show Goes p e below _ (T300.setTop (mkF m 255 #[o0, o1, o2, o3, o4, vi (0 : Int32), vi q1, vi (1 : Int32), vi q2, o9, o10, o11, vi c0, vi c1, vi e0, vi e1, vr b50, vr b178, vr b184, vr b197, .unset, .unset] [(.ref b236)]))
      refine Goes.via (fun _ kk_ => XS.astore X300'.here hx rfl (hb hby at_255) rfl rfl (l' := #[o0, o1, o2, o3, o4, vi (0 : Int32), vi q1, vi (1 : Int32), vi q2, o9, o10, o11, vi c0, vi c1, vi e0, vi e1, vr b50, vr b178, vr b184, vr b197, vr b236, .unset]) rfl kk_) ?_
      show Goes p e below _ (T300.setTop (mkF m 257 #[o0, o1, o2, o3, o4, vi (0 : Int32), vi q1, vi (1 : Int32), vi q2, o9, o10, o11, vi c0, vi c1, vi e0, vi e1, vr b50, vr b178, vr b184, vr b197, vr b236, .unset] []))
      have K304 : Keep h0 T300.heap [] := (K296.trans K300 (allS (Or.inr sz_b236) all0))
      have f305 : Exa Z T300.heap b197 "com/example/map_rewriter/maprewriter/core/Symbol" := (f290.keep K300)
      have f306 : Fld Z T300.heap b197 "com/example/map_rewriter/maprewriter/core/Symbol" "content" "Ljava/lang/String;" (.ref b205) := ((((u234_1.ext E236).ext E251).keep K268 (ninS ne261 nin0)).keep K300 (ninS ne245 nin0))
      have f307 : Exa Z T300.heap b205 "java/lang/String" := (f291.keep K300)
      have f308 : Fld Z T300.heap b205 "java/lang/String" "coder" "B" (.int (0 : Int32)) := (((((u218_1.keep K234 (ninS (Ne.symm ne214) nin0)).ext E236).ext E251).keep K268 (ninS ne263 nin0)).keep K300 (ninS ne247 nin0))
      have f309 : Fld Z T300.heap b205 "java/lang/String" "value" "[B" (.ref tb218) := (((((u218_2.keep K234 (ninS (Ne.symm ne214) nin0)).ext E236).ext E251).keep K268 (ninS ne263 nin0)).keep K300 (ninS ne247 nin0))
      have f310 : Arv Z T300.heap tb218 tk218 .byte (own_n (0 : Int32) c0 c1) (own_v (0 : Int32) c0 c1) (.int 0) := ((f284.keep K268 (ninS ne265 nin0)).keep K300 (ninS ne249 nin0))
      have f311 : Exa Z T300.heap b251 "java/lang/String" := (uE268.keep K300)
      have f312 : Fld Z T300.heap b251 "java/lang/String" "coder" "B" (.int (0 : Int32)) := (uC268.keep K300 (ninS (Ne.symm ne266) nin0))
      have f313 : Fld Z T300.heap b251 "java/lang/String" "value" "[B" (.ref sb268) := (uV268.keep K300 (ninS (Ne.symm ne266) nin0))
      have f314 : Arv Z T300.heap sb268 kb268 .byte (own_n (1 : Int32) e0 e1) (own_v (1 : Int32) e0 e1) (.int 0) := (Vf293.keep K300 (ninS (Ne.symm ne287) nin0))
      have f315 : Exa Z T300.heap b184 "java/lang/String" := (f289.keep K300)
      exact J257 b50 b178 b184 b197 b236 b205 b251 tb218 sb268 tk218 kb268 _ _ _ _ (X300'.more (by decide) (by decide)) SI300 (Nat.le_refl _) hZ hown Ks300 N300 K304 f305 f306 u300_0 u300_1 f307 f308 f309 f310 f311 f312 f313 f314 f315
    · subst hz
      show Goes p e below _ (T50.setTop (mkF m 176 #[o0, o1, o2, o3, o4, vi (0 : Int32), vi q1, vi (2 : Int32), vi q2, o9, o10, o11, vi c0, vi c1, vi e0, vi e1, vr b50, .unset, .unset, .unset, .unset, .unset] []))
      refine gIL X50 hx hby at_176 rfl ?_
      obtain ⟨T316, h316, k316, X316, e316, E316, A316, st316⟩ := own_newP X50 hx hZ (own_w hw 7 rfl) e50 (g := (mkF m 178 #[o0, o1, o2, o3, o4, vi (0 : Int32), vi q1, vi (2 : Int32), vi q2, o9, o10, o11, vi c0, vi c1, vi e0, vi e1, vr b50, .unset, .unset, .unset, .unset, .unset] [(.int (2 : Int32))])) rfl (hb hby at_178) rfl (n := (2 : Int32)) (N := 2) (by decide) (by decide) (cap := 2) (by first | decide | omega | (dsimp only; omega)) (by first | decide | omega | (dsimp only; omega)) (by first | decide | omega | (dsimp only; omega)) (by first | decide | omega | (dsimp only; omega))
      obtain ⟨b316, g316⟩ : ∃ z, z = (h50).size := ⟨_, rfl⟩
      rw [← g316] at A316 st316
      have lne317 : b50 < b316 := Nat.lt_of_lt_of_le A50.lt (Nat.le_of_eq g316.symm)
      have ne317 : b50 ≠ b316 := Nat.ne_of_lt lne317
      have z318 : h0.size ≤ (h50).size := (Nat.le_trans (Nat.le_refl _) E50.1)
      have sz_b316 : h0.size ≤ b316 := Nat.le_trans z318 (Nat.le_of_eq g316.symm)
      have gn_b316 : n0 ≤ b316 := Nat.le_trans Z0 sz_b316
      refine Goes.via st316 ?_
      show Goes p e below _ (T316.setTop (mkF m 180 #[o0, o1, o2, o3, o4, vi (0 : Int32), vi q1, vi (2 : Int32), vi q2, o9, o10, o11, vi c0, vi c1, vi e0, vi e1, vr b50, .unset, .unset, .unset, .unset, .unset] [(.ref b316)]))
      refine Goes.via (fun _ kk_ => XS.astore X316.here hx rfl (hb hby at_180) rfl rfl (l' := #[o0, o1, o2, o3, o4, vi (0 : Int32), vi q1, vi (2 : Int32), vi q2, o9, o10, o11, vi c0, vi c1, vi e0, vi e1, vr b50, vr b316, .unset, .unset, .unset, .unset]) rfl kk_) ?_
      show Goes p e below _ (T316.setTop (mkF m 182 #[o0, o1, o2, o3, o4, vi (0 : Int32), vi q1, vi (2 : Int32), vi q2, o9, o10, o11, vi c0, vi c1, vi e0, vi e1, vr b50, vr b316, .unset, .unset, .unset, .unset] []))
      refine gIL X316 hx hby at_182 rfl ?_
      refine gIC (z := 1) X316 hx hby at_184 rfl ?_
      have hc185_319 : ¬ ((2 : Int32) < (1 : Int32)) := (by decide)
      refine Goes.via (fun _ kk_ => XS.icmpNo X316.here hx rfl (hb hby at_185) rfl (flt hc185_319).1 kk_) ?_
      show Goes p e below _ (T316.setTop (mkF m 188 #[o0, o1, o2, o3, o4, vi (0 : Int32), vi q1, vi (2 : Int32), vi q2, o9, o10, o11, vi c0, vi c1, vi e0, vi e1, vr b50, vr b316, .unset, .unset, .unset, .unset] []))
      refine gAL X316 hx hby at_188 rfl rfl ?_
      refine gIC (z := 0) X316 hx hby at_190 rfl ?_
      refine gIL X316 hx hby at_191 rfl ?_
      obtain ⟨T320, h320, X320, e320, W320, A320, st320⟩ := own_castore X316 hx hZ e316 A316 (j := (0 : Int32)) (i := 0) (by decide) (by decide) (by first | decide | omega | (dsimp only; omega)) (g := (mkF m 193 #[o0, o1, o2, o3, o4, vi (0 : Int32), vi q1, vi (2 : Int32), vi q2, o9, o10, o11, vi c0, vi c1, vi e0, vi e1, vr b50, vr b316, .unset, .unset, .unset, .unset] [(.int e0), (.int (0 : Int32)), (.ref b316)])) rfl rfl (hb hby at_193)
      refine Goes.via st320 ?_
      have N320 := Fr.snoc X320 N0 gn_b316
      show Goes p e below _ (T320.setTop (mkF m 194 #[o0, o1, o2, o3, o4, vi (0 : Int32), vi q1, vi (2 : Int32), vi q2, o9, o10, o11, vi c0, vi c1, vi e0, vi e1, vr b50, vr b316, .unset, .unset, .unset, .unset] []))
      refine gIL X320 hx hby at_194 rfl ?_
      refine gIC (z := 2) X320 hx hby at_196 rfl ?_
      have hc197_321 : (2 : Int32) = (2 : Int32) := (by decide)
      refine Goes.via (fun _ kk_ => XS.icmpNo X320.here hx rfl (hb hby at_197) rfl (teq hc197_321).2 kk_) ?_
      show Goes p e below _ (T320.setTop (mkF m 200 #[o0, o1, o2, o3, o4, vi (0 : Int32), vi q1, vi (2 : Int32), vi q2, o9, o10, o11, vi c0, vi c1, vi e0, vi e1, vr b50, vr b316, .unset, .unset, .unset, .unset] []))
      refine gAL X320 hx hby at_200 rfl rfl ?_
      refine gIC (z := 1) X320 hx hby at_202 rfl ?_
      refine gIL X320 hx hby at_203 rfl ?_
      obtain ⟨T322, h322, X322, e322, W322, A322, st322⟩ := own_castore X320 hx hZ e320 A320 (j := (1 : Int32)) (i := 1) (by decide) (by decide) (by first | decide | omega | (dsimp only; omega)) (g := (mkF m 205 #[o0, o1, o2, o3, o4, vi (0 : Int32), vi q1, vi (2 : Int32), vi q2, o9, o10, o11, vi c0, vi c1, vi e0, vi e1, vr b50, vr b316, .unset, .unset, .unset, .unset] [(.int e1), (.int (1 : Int32)), (.ref b316)])) rfl rfl (hb hby at_205)
      refine Goes.via st322 ?_
      have N322 := Fr.snoc X322 N320 gn_b316
      show Goes p e below _ (T322.setTop (mkF m 206 #[o0, o1, o2, o3, o4, vi (0 : Int32), vi q1, vi (2 : Int32), vi q2, o9, o10, o11, vi c0, vi c1, vi e0, vi e1, vr b50, vr b316, .unset, .unset, .unset, .unset] []))
      obtain ⟨T323, h323, X323, e323, E323, A323, D323, -, st323⟩ := newO X322 hx hZ hown (own_w hw 8 rfl) (own_w hw 9 rfl) (own_w hw 10 rfl) e322 (g := (mkF m 206 #[o0, o1, o2, o3, o4, vi (0 : Int32), vi q1, vi (2 : Int32), vi q2, o9, o10, o11, vi c0, vi c1, vi e0, vi e1, vr b50, vr b316, .unset, .unset, .unset, .unset] [])) rfl (hb hby at_206) (by first | decide | omega | (dsimp only; omega)) (by first | decide | omega | (dsimp only; omega))
      obtain ⟨b323, g323⟩ : ∃ z, z = (h322).size := ⟨_, rfl⟩
      rw [← g323] at A323 D323 st323
      have f324 : Arw Z h322 b50 k50 .char 0 (fun _ => (.int 0)) := (((A50.ext E316).other W320 ne317).other W322 ne317)
      have lne325 : b50 < b323 := Nat.lt_of_lt_of_le f324.lt (Nat.le_of_eq g323.symm)
      have ne325 : b50 ≠ b323 := Nat.ne_of_lt lne325
      have lne326 : b316 < b323 := Nat.lt_of_lt_of_le A322.lt (Nat.le_of_eq g323.symm)
      have ne326 : b316 ≠ b323 := Nat.ne_of_lt lne326
      have z327 : h0.size ≤ (h322).size := (Nat.le_trans (Nat.le_trans (Nat.le_trans z318 E316.1) (Nat.le_of_eq W320.size.symm)) (Nat.le_of_eq W322.size.symm))
      have sz_b323 : h0.size ≤ b323 := Nat.le_trans z327 (Nat.le_of_eq g323.symm)
      have gn_b323 : n0 ≤ b323 := Nat.le_trans Z0 sz_b323
      have F_coder_b323 : Fld Z h323 b323 "java/lang/String" "coder" "B" (.int (0 : Int32)) := D323 (Or.inr (own_w hw 34 rfl)) (ty := .byte) (by decide)
      have F_value_b323 : Fld Z h323 b323 "java/lang/String" "value" "[B" .null := D323 (Or.inr (own_w hw 36 rfl)) (ty := (.array .byte)) (by decide)
      refine Goes.via st323 ?_
      show Goes p e below _ (T323.setTop (mkF m 209 #[o0, o1, o2, o3, o4, vi (0 : Int32), vi q1, vi (2 : Int32), vi q2, o9, o10, o11, vi c0, vi c1, vi e0, vi e1, vr b50, vr b316, .unset, .unset, .unset, .unset] [(.ref b323)]))
      refine gDU X323 hx hby at_209 rfl ?_
      refine gAL X323 hx hby at_210 rfl rfl ?_
      have f328 : Arw Z h323 b50 k50 .char 0 (fun _ => (.int 0)) := (f324.ext E323)
      have ol329 : Old Z n0 (h323) := (((((HO.ext E50).ext E316).wr W320 gn_b316).wr W322 gn_b316).ext E323)
      have z331 : h0.size ≤ (h323).size := (Nat.le_trans z327 E323.1)
      have Ks332 : KS Z own_KL s.vm (h323) := ((((Ks0.ext E50).ext E316).keep (((Keep.refl _ [b316]).wr W320 (Or.inl (List.mem_of_getElem? (i := 0) rfl))).wr W322 (Or.inl (List.mem_of_getElem? (i := 0) rfl))) (allS (NoS.arr A316 (own_w hw 9 rfl) (by intro q; cases q)) all0)).ext E323)
      have sk333 : _ ≤ (h323).size := (Nat.le_trans (Nat.le_trans (Nat.le_trans (Nat.le_trans (Nat.le_trans (Nat.zero_le _) E50.1) E316.1) (Nat.le_of_eq W320.size.symm)) (Nat.le_of_eq W322.size.symm)) E323.1)
      obtain ⟨_, _, ⟨T330, L330, k330, n330⟩, -, ⟨X330, Si330⟩, ⟨Lc330, ⟨hQ330, tK330, hK330, hKv330, hKh330⟩, l330, y330, z330⟩, st330⟩ := own_specialW X323 hx (y := (⟨"java/lang/String", "<init>", "([C)V"⟩ : MethodName)) rfl hown (mvT hZ (own_w hw 11 rfl)) (mvT hZ (own_w hw 12 rfl)) (mvT hZ (own_w hw 13 rfl)) (by decide) (own_backOfW (W := 1) (K := (fun U_ => KS Z own_KL U_.vm U_.heap)) (KP := (fun U_ => KS Z own_KL U_.vm U_.heap)) (rm3e l Z a0 hw [] b323 b50 k50 (fun _ => (.int 0)) h323 n0 (Nat.le_trans Z0 z331) A323 F_value_b323 F_coder_b323 gn_b323 f328 ol329 HW HC0 HC1 HC2) hZ (own_w hw 13 rfl) (own_w hw 10 rfl) (by decide) (by decide) (fun V_ hV hVh => by show KS Z own_KL V_.vm V_.heap; rw [hVh]; exact Ks332.at_ (s := s) hV)) (g := (mkF m 212 #[o0, o1, o2, o3, o4, vi (0 : Int32), vi q1, vi (2 : Int32), vi q2, o9, o10, o11, vi c0, vi c1, vi e0, vi e1, vr b50, vr b316, .unset, .unset, .unset, .unset] [(.ref b50), (.ref b323), (.ref b323)])) rfl (by rw [hml]; rfl) (a := b323) (argsL := [(.ref b50)]) (rest := [(.ref b323)]) (lenOf pd_17 rfl) rfl (by show 2 * 0 + _ ≤ _; exact Nat.le_of_eq rfl) (hb hby at_212) (fun _ _ => ⟨rfl, e323, (by decide : 3 + 2 ≤ _), (by decide : 6 + 4 ≤ _)⟩)
      dsimp only [Pt.U, Pt.locs, Pt.cells, Pt.slots] at X330 l330 y330 z330 st330 hQ330 Si330 hKv330 hKh330
      subst l330 y330 z330
      obtain ⟨tb330, tk330, rfl, N330q, K330, u330_0, u330_1, u330_2, u330_3⟩ := hQ330
      have N330 := Fr.app N322 N330q
      refine Goes.via st330 ?_
      obtain ⟨X330', SI330, hZ, hown⟩ := rebS SI0 sk333 X330 Si330 K330.1 hZ hown
      have Ks330 : KS Z own_KL T330.vm T330.heap := by rw [← hKv330, ← hKh330]; exact hK330
      have ne334 : b323 ≠ tb330 := own_ne_arr u330_0 (own_w hw 9 rfl) u330_3
      show Goes p e below _ (T330.setTop (mkF m 215 #[o0, o1, o2, o3, o4, vi (0 : Int32), vi q1, vi (2 : Int32), vi q2, o9, o10, o11, vi c0, vi c1, vi e0, vi e1, vr b50, vr b316, .unset, .unset, .unset, .unset] [(.ref b323)]))
      have Vf335 : Arv Z T330.heap tb330 tk330 .byte (own_n (0 : Int32) c0 c1) (own_v (0 : Int32) c0 c1) (.int 0) := (Arw.toArv u330_3 (by rw [own_na0]; decide) (fun i hi => absurd hi (Nat.not_lt_zero _)))
      refine Goes.via (fun _ kk_ => XS.astore X330'.here hx rfl (hb hby at_215) rfl rfl (l' := #[o0, o1, o2, o3, o4, vi (0 : Int32), vi q1, vi (2 : Int32), vi q2, o9, o10, o11, vi c0, vi c1, vi e0, vi e1, vr b50, vr b316, vr b323, .unset, .unset, .unset]) rfl kk_) ?_
      show Goes p e below _ (T330.setTop (mkF m 217 #[o0, o1, o2, o3, o4, vi (0 : Int32), vi q1, vi (2 : Int32), vi q2, o9, o10, o11, vi c0, vi c1, vi e0, vi e1, vr b50, vr b316, vr b323, .unset, .unset, .unset] []))
      obtain ⟨T336, h336, X336, e336, E336, A336, D336, -, st336⟩ := newO X330' hx hZ hown (own_w hw 37 rfl) (own_w hw 38 rfl) (own_w hw 39 rfl) rfl (g := (mkF m 217 #[o0, o1, o2, o3, o4, vi (0 : Int32), vi q1, vi (2 : Int32), vi q2, o9, o10, o11, vi c0, vi c1, vi e0, vi e1, vr b50, vr b316, vr b323, .unset, .unset, .unset] [])) rfl (hb hby at_217) (by first | decide | omega | (dsimp only; omega)) (by first | decide | omega | (dsimp only; omega))
      obtain ⟨b336, g336⟩ : ∃ z, z = (T330.heap).size := ⟨_, rfl⟩
      rw [← g336] at A336 D336 st336
      have f337 : Arw Z T330.heap b50 k50 .char 0 (fun _ => (.int 0)) := (f328.keep K330 (ninS ne325 nin0))
      have lne338 : b50 < b336 := Nat.lt_of_lt_of_le f337.lt (Nat.le_of_eq g336.symm)
      have ne338 : b50 ≠ b336 := Nat.ne_of_lt lne338
      have f339 : Arw Z T330.heap b316 k316 .char 2 (own_upd (own_upd (fun _ => (.int 0)) 0 (.int (nar .char e0))) 1 (.int (nar .char e1))) := ((A322.ext E323).keep K330 (ninS ne326 nin0))
      have lne340 : b316 < b336 := Nat.lt_of_lt_of_le f339.lt (Nat.le_of_eq g336.symm)
      have ne340 : b316 ≠ b336 := Nat.ne_of_lt lne340
      have lne341 : b323 < b336 := Nat.lt_of_lt_of_le u330_0.lt (Nat.le_of_eq g336.symm)
      have ne341 : b323 ≠ b336 := Nat.ne_of_lt lne341
      have lne342 : tb330 < b336 := Nat.lt_of_lt_of_le Vf335.lt (Nat.le_of_eq g336.symm)
      have ne342 : tb330 ≠ b336 := Nat.ne_of_lt lne342
      have z343 : h0.size ≤ (T330.heap).size := (Nat.le_trans z331 K330.1)
      have sz_b336 : h0.size ≤ b336 := Nat.le_trans z343 (Nat.le_of_eq g336.symm)
      have gn_b336 : n0 ≤ b336 := Nat.le_trans Z0 sz_b336
      have F_content_b336 : Fld Z h336 b336 "com/example/map_rewriter/maprewriter/core/Symbol" "content" "Ljava/lang/String;" .null := D336 (Or.inr (own_w hw 98 rfl)) (ty := (.object "java/lang/String")) (by decide)
      have F_quoted_b336 : Fld Z h336 b336 "com/example/map_rewriter/maprewriter/core/Symbol" "quoted" "Z" (.int (0 : Int32)) := D336 (Or.inr (own_w hw 100 rfl)) (ty := .boolean) (by decide)
      refine Goes.via st336 ?_
      show Goes p e below _ (T336.setTop (mkF m 220 #[o0, o1, o2, o3, o4, vi (0 : Int32), vi q1, vi (2 : Int32), vi q2, o9, o10, o11, vi c0, vi c1, vi e0, vi e1, vr b50, vr b316, vr b323, .unset, .unset, .unset] [(.ref b336)]))
      refine gDU X336 hx hby at_220 rfl ?_
      obtain ⟨T344, h344, X344, e344, E344, A344, D344, -, st344⟩ := newO X336 hx hZ hown (own_w hw 8 rfl) (own_w hw 9 rfl) (own_w hw 10 rfl) e336 (g := (mkF m 221 #[o0, o1, o2, o3, o4, vi (0 : Int32), vi q1, vi (2 : Int32), vi q2, o9, o10, o11, vi c0, vi c1, vi e0, vi e1, vr b50, vr b316, vr b323, .unset, .unset, .unset] [(.ref b336), (.ref b336)])) rfl (hb hby at_221) (by first | decide | omega | (dsimp only; omega)) (by first | decide | omega | (dsimp only; omega))
      obtain ⟨b344, g344⟩ : ∃ z, z = (h336).size := ⟨_, rfl⟩
      rw [← g344] at A344 D344 st344
      have f345 : Arw Z h336 b50 k50 .char 0 (fun _ => (.int 0)) := (f337.ext E336)
      have lne346 : b50 < b344 := Nat.lt_of_lt_of_le f345.lt (Nat.le_of_eq g344.symm)
      have ne346 : b50 ≠ b344 := Nat.ne_of_lt lne346
      have f347 : Arw Z h336 b316 k316 .char 2 (own_upd (own_upd (fun _ => (.int 0)) 0 (.int (nar .char e0))) 1 (.int (nar .char e1))) := (f339.ext E336)
      have lne348 : b316 < b344 := Nat.lt_of_lt_of_le f347.lt (Nat.le_of_eq g344.symm)
      have ne348 : b316 ≠ b344 := Nat.ne_of_lt lne348
      have f349 : Exa Z h336 b323 "java/lang/String" := (u330_0.ext E336)
      have lne350 : b323 < b344 := Nat.lt_of_lt_of_le f349.lt (Nat.le_of_eq g344.symm)
      have ne350 : b323 ≠ b344 := Nat.ne_of_lt lne350
      have f351 : Arv Z h336 tb330 tk330 .byte (own_n (0 : Int32) c0 c1) (own_v (0 : Int32) c0 c1) (.int 0) := (Vf335.ext E336)
      have lne352 : tb330 < b344 := Nat.lt_of_lt_of_le f351.lt (Nat.le_of_eq g344.symm)
      have ne352 : tb330 ≠ b344 := Nat.ne_of_lt lne352
      have lne353 : b336 < b344 := Nat.lt_of_lt_of_le A336.lt (Nat.le_of_eq g344.symm)
      have ne353 : b336 ≠ b344 := Nat.ne_of_lt lne353
      have z354 : h0.size ≤ (h336).size := (Nat.le_trans z343 E336.1)
      have sz_b344 : h0.size ≤ b344 := Nat.le_trans z354 (Nat.le_of_eq g344.symm)
      have gn_b344 : n0 ≤ b344 := Nat.le_trans Z0 sz_b344
      have F_coder_b344 : Fld Z h344 b344 "java/lang/String" "coder" "B" (.int (0 : Int32)) := D344 (Or.inr (own_w hw 34 rfl)) (ty := .byte) (by decide)
      have F_value_b344 : Fld Z h344 b344 "java/lang/String" "value" "[B" .null := D344 (Or.inr (own_w hw 36 rfl)) (ty := (.array .byte)) (by decide)
      refine Goes.via st344 ?_
      show Goes p e below _ (T344.setTop (mkF m 224 #[o0, o1, o2, o3, o4, vi (0 : Int32), vi q1, vi (2 : Int32), vi q2, o9, o10, o11, vi c0, vi c1, vi e0, vi e1, vr b50, vr b316, vr b323, .unset, .unset, .unset] [(.ref b344), (.ref b336), (.ref b336)]))
      refine gDU X344 hx hby at_224 rfl ?_
      refine gAL X344 hx hby at_225 rfl rfl ?_
      have f355 : Arw Z h344 b50 k50 .char 0 (fun _ => (.int 0)) := (f345.ext E344)
      have ol356 : Old Z n0 (h344) := (((ol329.keep K330 (allS gn_b323 all0)).ext E336).ext E344)
      have z358 : h0.size ≤ (h344).size := (Nat.le_trans z354 E344.1)
      have Ks359 : KS Z own_KL T330.vm (h344) := ((Ks330.ext E336).ext E344)
      have sk360 : _ ≤ (h344).size := (Nat.le_trans (Nat.le_trans (Nat.le_refl _) E336.1) E344.1)
      obtain ⟨_, _, ⟨T357, L357, k357, n357⟩, -, ⟨X357, Si357⟩, ⟨Lc357, ⟨hQ357, tK357, hK357, hKv357, hKh357⟩, l357, y357, z357⟩, st357⟩ := own_specialW X344 hx (y := (⟨"java/lang/String", "<init>", "([C)V"⟩ : MethodName)) rfl hown (mvT hZ (own_w hw 11 rfl)) (mvT hZ (own_w hw 12 rfl)) (mvT hZ (own_w hw 13 rfl)) (by decide) (own_backOfW (W := 3) (K := (fun U_ => KS Z own_KL U_.vm U_.heap)) (KP := (fun U_ => KS Z own_KL U_.vm U_.heap)) (rm3e l Z a0 hw [] b344 b50 k50 (fun _ => (.int 0)) h344 n0 (Nat.le_trans Z0 z358) A344 F_value_b344 F_coder_b344 gn_b344 f355 ol356 HW HC0 HC1 HC2) hZ (own_w hw 13 rfl) (own_w hw 10 rfl) (by decide) (by decide) (fun V_ hV hVh => by show KS Z own_KL V_.vm V_.heap; rw [hVh]; exact Ks359.at_ (s := s) hV)) (g := (mkF m 227 #[o0, o1, o2, o3, o4, vi (0 : Int32), vi q1, vi (2 : Int32), vi q2, o9, o10, o11, vi c0, vi c1, vi e0, vi e1, vr b50, vr b316, vr b323, .unset, .unset, .unset] [(.ref b50), (.ref b344), (.ref b344), (.ref b336), (.ref b336)])) rfl (by rw [hml]; rfl) (a := b344) (argsL := [(.ref b50)]) (rest := [(.ref b344), (.ref b336), (.ref b336)]) (lenOf pd_17 rfl) rfl (by show 2 * 0 + _ ≤ _; exact Nat.le_of_eq rfl) (hb hby at_227) (fun _ _ => ⟨rfl, e344, (by decide : 7 + 2 ≤ _), (by decide : 16 + 4 ≤ _)⟩)
      dsimp only [Pt.U, Pt.locs, Pt.cells, Pt.slots] at X357 l357 y357 z357 st357 hQ357 Si357 hKv357 hKh357
      subst l357 y357 z357
      obtain ⟨tb357, tk357, rfl, N357q, K357, u357_0, u357_1, u357_2, u357_3⟩ := hQ357
      have N357 := Fr.app N330 N357q
      refine Goes.via st357 ?_
      obtain ⟨X357', SI357, hZ, hown⟩ := rebS SI330 sk360 X357 Si357 K357.1 hZ hown
      have Ks357 : KS Z own_KL T357.vm T357.heap := by rw [← hKv357, ← hKh357]; exact hK357
      have ne361 : b344 ≠ tb357 := own_ne_arr u357_0 (own_w hw 9 rfl) u357_3
      show Goes p e below _ (T357.setTop (mkF m 230 #[o0, o1, o2, o3, o4, vi (0 : Int32), vi q1, vi (2 : Int32), vi q2, o9, o10, o11, vi c0, vi c1, vi e0, vi e1, vr b50, vr b316, vr b323, .unset, .unset, .unset] [(.ref b344), (.ref b336), (.ref b336)]))
      have f362 : Exa Z T357.heap b323 "java/lang/String" := ((f349.ext E344).keep K357)
      have f363 : Exa Z T357.heap b336 "com/example/map_rewriter/maprewriter/core/Symbol" := ((A336.ext E344).keep K357)
      have ne364 : b323 ≠ tb357 := own_ne_arr f362 (own_w hw 9 rfl) u357_3
      have ne365 : b336 ≠ tb357 := own_ne_arr f363 (own_w hw 38 rfl) u357_3
      have Vf366 : Arv Z T357.heap tb357 tk357 .byte (own_n (0 : Int32) c0 c1) (own_v (0 : Int32) c0 c1) (.int 0) := (Arw.toArv u357_3 (by rw [own_na0]; decide) (fun i hi => absurd hi (Nat.not_lt_zero _)))
      have Vg366 : Arw Z T357.heap tb357 tk357 .byte 0 (fun i => .int (own_g (0 : Int32) c0 c1 i)) := Arw.ofArv Vf366 (by rw [own_na0]; decide) (fun i hi => by exact absurd hi (Nat.not_lt_zero _))
      refine gIL X357' hx hby at_230 rfl ?_
      have f367 : Fld Z T357.heap b336 "com/example/map_rewriter/maprewriter/core/Symbol" "content" "Ljava/lang/String;" .null := ((F_content_b336.ext E344).keep K357 (ninS ne353 nin0))
      have f368 : Fld Z T357.heap b336 "com/example/map_rewriter/maprewriter/core/Symbol" "quoted" "Z" (.int (0 : Int32)) := ((F_quoted_b336.ext E344).keep K357 (ninS ne353 nin0))
      have K369 : Keep h0 T357.heap [] := ((((((((((Keep.refl h0 []).ext E50).ext E316).wr W320 (Or.inr sz_b316)).wr W322 (Or.inr sz_b316)).ext E323).trans K330 (allS (Or.inr sz_b323) all0)).ext E336).ext E344).trans K357 (allS (Or.inr sz_b344) all0))
      have f370 : Sta Z T357.heap "java/lang/String" "COMPACT_STRINGS" "Z" (.int cS) := own_sta_keep OS K369
      have f371 : Sta Z T357.heap "jdk/internal/util/Preconditions" "SIOOBE_FORMATTER" "Ljava/util/function/BiFunction;" fo := own_sta_keep OF K369
      have ol372 : Old Z n0 (T357.heap) := (ol356.keep K357 (allS gn_b344 all0))
      have z374 : h0.size ≤ (T357.heap).size := (Nat.le_trans z358 K357.1)
      obtain ⟨_, _, ⟨T373, L373, k373, n373⟩, -, ⟨X373, Si373⟩, ⟨Lc373, ⟨hQ373, tK373, hK373, hKv373, hKh373⟩, l373, y373, z373⟩, st373⟩ := own_specialW X357' hx (y := (⟨"com/example/map_rewriter/maprewriter/core/Symbol", "<init>", "(Ljava/lang/String;Z)V"⟩ : MethodName)) rfl hown (mvT hZ (own_w hw 40 rfl)) (mvT hZ (own_w hw 41 rfl)) (mvT hZ (own_w hw 42 rfl)) (by decide) (own_backOfW (W := 1) (K := (fun U_ => KS Z own_KL U_.vm U_.heap)) (KP := (fun U_ => KS Z own_KL U_.vm U_.heap)) (rm9 l Z a0 hw [] b336 b344 q1 tb357 tk357 0 (own_g (0 : Int32) c0 c1) (0 : Int32) cS fo T357.heap n0 (Nat.le_trans Z0 z374) f363 f367 f368 gn_b336 u357_0 u357_1 u357_2 Vg366 (by decide) f370 H_cs f371 Hfo (hk0 0 (by decide)) ol372 HW HC0 HC1 HC2) hZ (own_w hw 42 rfl) (own_w hw 39 rfl) (by decide) (by decide) (fun V_ hV hVh => by show KS Z own_KL V_.vm V_.heap; rw [hVh]; exact Ks357.at_ (s := s) hV)) (g := (mkF m 232 #[o0, o1, o2, o3, o4, vi (0 : Int32), vi q1, vi (2 : Int32), vi q2, o9, o10, o11, vi c0, vi c1, vi e0, vi e1, vr b50, vr b316, vr b323, .unset, .unset, .unset] [(.int q1), (.ref b344), (.ref b336), (.ref b336)])) rfl (by rw [hml]; rfl) (a := b336) (argsL := [(.ref b344), (.int q1)]) (rest := [(.ref b336)]) (lenOf pd_18 rfl) rfl (by show 2 * 0 + _ ≤ _; exact Nat.le_of_eq rfl) (hb hby at_232) (fun _ _ => ⟨rfl, rfl, (by decide : 9 + 6 ≤ _), (by decide : 20 + 176 ≤ _)⟩)
      dsimp only [Pt.U, Pt.locs, Pt.cells, Pt.slots] at X373 l373 y373 z373 st373 hQ373 Si373 hKv373 hKh373
      subst l373 y373 z373
      obtain ⟨rfl, N373q, K373, u373_0, u373_1⟩ := hQ373
      have N373 := Fr.app N357 N373q
      refine Goes.via st373 ?_
      obtain ⟨X373', SI373, hZ, hown⟩ := rebS SI357 (Nat.le_refl _) X373 Si373 K373.1 hZ hown
      have Ks373 : KS Z own_KL T373.vm T373.heap := by rw [← hKv373, ← hKh373]; exact hK373
      show Goes p e below _ (T373.setTop (mkF m 235 #[o0, o1, o2, o3, o4, vi (0 : Int32), vi q1, vi (2 : Int32), vi q2, o9, o10, o11, vi c0, vi c1, vi e0, vi e1, vr b50, vr b316, vr b323, .unset, .unset, .unset] [(.ref b336)]))
      refine Goes.via (fun _ kk_ => XS.astore X373'.here hx rfl (hb hby at_235) rfl rfl (l' := #[o0, o1, o2, o3, o4, vi (0 : Int32), vi q1, vi (2 : Int32), vi q2, o9, o10, o11, vi c0, vi c1, vi e0, vi e1, vr b50, vr b316, vr b323, vr b336, .unset, .unset]) rfl kk_) ?_
      show Goes p e below _ (T373.setTop (mkF m 237 #[o0, o1, o2, o3, o4, vi (0 : Int32), vi q1, vi (2 : Int32), vi q2, o9, o10, o11, vi c0, vi c1, vi e0, vi e1, vr b50, vr b316, vr b323, vr b336, .unset, .unset] []))
      obtain ⟨T375, h375, X375, e375, E375, A375, D375, -, st375⟩ := newO X373' hx hZ hown (own_w hw 37 rfl) (own_w hw 38 rfl) (own_w hw 39 rfl) rfl (g := (mkF m 237 #[o0, o1, o2, o3, o4, vi (0 : Int32), vi q1, vi (2 : Int32), vi q2, o9, o10, o11, vi c0, vi c1, vi e0, vi e1, vr b50, vr b316, vr b323, vr b336, .unset, .unset] [])) rfl (hb hby at_237) (by first | decide | omega | (dsimp only; omega)) (by first | decide | omega | (dsimp only; omega))
      obtain ⟨b375, g375⟩ : ∃ z, z = (T373.heap).size := ⟨_, rfl⟩
      rw [← g375] at A375 D375 st375
      have f376 : Arw Z T373.heap b50 k50 .char 0 (fun _ => (.int 0)) := ((f355.keep K357 (ninS ne346 nin0)).keep K373 (ninS ne338 nin0))
      have lne377 : b50 < b375 := Nat.lt_of_lt_of_le f376.lt (Nat.le_of_eq g375.symm)
      have ne377 : b50 ≠ b375 := Nat.ne_of_lt lne377
      have f378 : Arw Z T373.heap b316 k316 .char 2 (own_upd (own_upd (fun _ => (.int 0)) 0 (.int (nar .char e0))) 1 (.int (nar .char e1))) := (((f347.ext E344).keep K357 (ninS ne348 nin0)).keep K373 (ninS ne340 nin0))
      have lne379 : b316 < b375 := Nat.lt_of_lt_of_le f378.lt (Nat.le_of_eq g375.symm)
      have ne379 : b316 ≠ b375 := Nat.ne_of_lt lne379
      have f380 : Exa Z T373.heap b323 "java/lang/String" := (f362.keep K373)
      have lne381 : b323 < b375 := Nat.lt_of_lt_of_le f380.lt (Nat.le_of_eq g375.symm)
      have ne381 : b323 ≠ b375 := Nat.ne_of_lt lne381
      have f382 : Arv Z T373.heap tb330 tk330 .byte (own_n (0 : Int32) c0 c1) (own_v (0 : Int32) c0 c1) (.int 0) := (((f351.ext E344).keep K357 (ninS ne352 nin0)).keep K373 (ninS ne342 nin0))
      have lne383 : tb330 < b375 := Nat.lt_of_lt_of_le f382.lt (Nat.le_of_eq g375.symm)
      have ne383 : tb330 ≠ b375 := Nat.ne_of_lt lne383
      have lne384 : b336 < b375 := Nat.lt_of_lt_of_le u373_0.lt (Nat.le_of_eq g375.symm)
      have ne384 : b336 ≠ b375 := Nat.ne_of_lt lne384
      have f385 : Exa Z T373.heap b344 "java/lang/String" := (u357_0.keep K373)
      have lne386 : b344 < b375 := Nat.lt_of_lt_of_le f385.lt (Nat.le_of_eq g375.symm)
      have ne386 : b344 ≠ b375 := Nat.ne_of_lt lne386
      have f387 : Arv Z T373.heap tb357 tk357 .byte (own_n (0 : Int32) c0 c1) (own_v (0 : Int32) c0 c1) (.int 0) := (Vf366.keep K373 (ninS (Ne.symm ne365) nin0))
      have lne388 : tb357 < b375 := Nat.lt_of_lt_of_le f387.lt (Nat.le_of_eq g375.symm)
      have ne388 : tb357 ≠ b375 := Nat.ne_of_lt lne388
      have z389 : h0.size ≤ (T373.heap).size := (Nat.le_trans z374 K373.1)
      have sz_b375 : h0.size ≤ b375 := Nat.le_trans z389 (Nat.le_of_eq g375.symm)
      have gn_b375 : n0 ≤ b375 := Nat.le_trans Z0 sz_b375
      have F_content_b375 : Fld Z h375 b375 "com/example/map_rewriter/maprewriter/core/Symbol" "content" "Ljava/lang/String;" .null := D375 (Or.inr (own_w hw 98 rfl)) (ty := (.object "java/lang/String")) (by decide)
      have F_quoted_b375 : Fld Z h375 b375 "com/example/map_rewriter/maprewriter/core/Symbol" "quoted" "Z" (.int (0 : Int32)) := D375 (Or.inr (own_w hw 100 rfl)) (ty := .boolean) (by decide)
      refine Goes.via st375 ?_
      show Goes p e below _ (T375.setTop (mkF m 240 #[o0, o1, o2, o3, o4, vi (0 : Int32), vi q1, vi (2 : Int32), vi q2, o9, o10, o11, vi c0, vi c1, vi e0, vi e1, vr b50, vr b316, vr b323, vr b336, .unset, .unset] [(.ref b375)]))
      refine gDU X375 hx hby at_240 rfl ?_
      obtain ⟨T390, h390, X390, e390, E390, A390, D390, -, st390⟩ := newO X375 hx hZ hown (own_w hw 8 rfl) (own_w hw 9 rfl) (own_w hw 10 rfl) e375 (g := (mkF m 241 #[o0, o1, o2, o3, o4, vi (0 : Int32), vi q1, vi (2 : Int32), vi q2, o9, o10, o11, vi c0, vi c1, vi e0, vi e1, vr b50, vr b316, vr b323, vr b336, .unset, .unset] [(.ref b375), (.ref b375)])) rfl (hb hby at_241) (by first | decide | omega | (dsimp only; omega)) (by first | decide | omega | (dsimp only; omega))
      obtain ⟨b390, g390⟩ : ∃ z, z = (h375).size := ⟨_, rfl⟩
      rw [← g390] at A390 D390 st390
      have f391 : Arw Z h375 b50 k50 .char 0 (fun _ => (.int 0)) := (f376.ext E375)
      have lne392 : b50 < b390 := Nat.lt_of_lt_of_le f391.lt (Nat.le_of_eq g390.symm)
      have ne392 : b50 ≠ b390 := Nat.ne_of_lt lne392
      have f393 : Arw Z h375 b316 k316 .char 2 (own_upd (own_upd (fun _ => (.int 0)) 0 (.int (nar .char e0))) 1 (.int (nar .char e1))) := (f378.ext E375)
      have lne394 : b316 < b390 := Nat.lt_of_lt_of_le f393.lt (Nat.le_of_eq g390.symm)
      have ne394 : b316 ≠ b390 := Nat.ne_of_lt lne394
      have f395 : Exa Z h375 b323 "java/lang/String" := (f380.ext E375)
      have lne396 : b323 < b390 := Nat.lt_of_lt_of_le f395.lt (Nat.le_of_eq g390.symm)
      have ne396 : b323 ≠ b390 := Nat.ne_of_lt lne396
      have f397 : Arv Z h375 tb330 tk330 .byte (own_n (0 : Int32) c0 c1) (own_v (0 : Int32) c0 c1) (.int 0) := (f382.ext E375)
      have lne398 : tb330 < b390 := Nat.lt_of_lt_of_le f397.lt (Nat.le_of_eq g390.symm)
      have ne398 : tb330 ≠ b390 := Nat.ne_of_lt lne398
      have f399 : Exa Z h375 b336 "com/example/map_rewriter/maprewriter/core/Symbol" := (u373_0.ext E375)
      have lne400 : b336 < b390 := Nat.lt_of_lt_of_le f399.lt (Nat.le_of_eq g390.symm)
      have ne400 : b336 ≠ b390 := Nat.ne_of_lt lne400
      have f401 : Exa Z h375 b344 "java/lang/String" := (f385.ext E375)
      have lne402 : b344 < b390 := Nat.lt_of_lt_of_le f401.lt (Nat.le_of_eq g390.symm)
      have ne402 : b344 ≠ b390 := Nat.ne_of_lt lne402
      have f403 : Arv Z h375 tb357 tk357 .byte (own_n (0 : Int32) c0 c1) (own_v (0 : Int32) c0 c1) (.int 0) := (f387.ext E375)
      have lne404 : tb357 < b390 := Nat.lt_of_lt_of_le f403.lt (Nat.le_of_eq g390.symm)
      have ne404 : tb357 ≠ b390 := Nat.ne_of_lt lne404
      have lne405 : b375 < b390 := Nat.lt_of_lt_of_le A375.lt (Nat.le_of_eq g390.symm)
      have ne405 : b375 ≠ b390 := Nat.ne_of_lt lne405
      have z406 : h0.size ≤ (h375).size := (Nat.le_trans z389 E375.1)
      have sz_b390 : h0.size ≤ b390 := Nat.le_trans z406 (Nat.le_of_eq g390.symm)
      have gn_b390 : n0 ≤ b390 := Nat.le_trans Z0 sz_b390
      have F_coder_b390 : Fld Z h390 b390 "java/lang/String" "coder" "B" (.int (0 : Int32)) := D390 (Or.inr (own_w hw 34 rfl)) (ty := .byte) (by decide)
      have F_value_b390 : Fld Z h390 b390 "java/lang/String" "value" "[B" .null := D390 (Or.inr (own_w hw 36 rfl)) (ty := (.array .byte)) (by decide)
      refine Goes.via st390 ?_
      show Goes p e below _ (T390.setTop (mkF m 244 #[o0, o1, o2, o3, o4, vi (0 : Int32), vi q1, vi (2 : Int32), vi q2, o9, o10, o11, vi c0, vi c1, vi e0, vi e1, vr b50, vr b316, vr b323, vr b336, .unset, .unset] [(.ref b390), (.ref b375), (.ref b375)]))
      refine gDU X390 hx hby at_244 rfl ?_
      refine gAL X390 hx hby at_245 rfl rfl ?_
      have f408 : Arw Z h390 b316 k316 .char 2 (own_upd (own_upd (fun _ => (.int 0)) 0 (.int (nar .char e0))) 1 (.int (nar .char e1))) := (f393.ext E390)
      have Va407 : Arv Z h390 b316 k316 .char (2 : Int32) ([(nar .char e0), (nar .char e1)].map Value.int) (.int (0 : Int32)) := f408.toArv (by decide) (by intro i hi; match i, hi with | 0, _ => rfl | 1, _ => rfl)
      have K409 : Keep h0 h390 [] := (((K369.trans K373 (allS (Or.inr sz_b336) all0)).ext E375).ext E390)
      have f410 : Sta Z h390 "java/lang/String" "COMPACT_STRINGS" "Z" (.int cS) := own_sta_keep OS K409
      have z411 : h0.size ≤ (h390).size := (Nat.le_trans z406 E390.1)
      have hws407 : ∀ d ∈ StrChars.Road.words, d.before a0 Z = true := fun d hd => hw d ((by decide +kernel : ∀ d ∈ StrChars.Road.words, d ∈ tables_1) d hd)
      have hlat407 : ∀ c ∈ [(nar .char e0), (nar .char e1)], ¬ c < 0 ∧ ¬ (255 : Int32) < c := (by intro x hx; have q := own_lat (n := (2 : Int32)) (c := e0) (d := e1) (me0) (me1) x; rw [own_cs2 _ _ (by decide) (by decide)] at q; exact q hx)
      obtain ⟨_, _, ⟨T407, L407, k407, n407⟩, -, X407, ⟨Lc407, hQ407, l407, y407, z407⟩, st407⟩ := X390.specialBack hx (y := (⟨"java/lang/String", "<init>", "([C)V"⟩ : MethodName)) rfl hown (mvT hZ (own_w hw 11 rfl)) (mvT hZ (own_w hw 12 rfl)) (mvT hZ (own_w hw 13 rfl)) (by decide) (StrChars.Road.backV (W := 3) hZ hws407 (kI := 4) (own_w hw 9 rfl) (cs := [(nar .char e0), (nar .char e1)]) (bs := [(nar .char e0), (nar .char e1)].map (fun c => c.toInt8.toInt32)) (n := 2) gn_b390 (Nat.le_trans Z0 z411) A390 F_value_b390 F_coder_b390 Va407 f410 H_cs rfl rfl (by decide) (by decide) hlat407 rfl (by decide) (by decide)) (g := (mkF m 247 #[o0, o1, o2, o3, o4, vi (0 : Int32), vi q1, vi (2 : Int32), vi q2, o9, o10, o11, vi c0, vi c1, vi e0, vi e1, vr b50, vr b316, vr b323, vr b336, .unset, .unset] [(.ref b316), (.ref b390), (.ref b390), (.ref b375), (.ref b375)])) rfl (by rw [hml]; rfl) (Steps.refl _) (a := b390) (argsL := [(.ref b316)]) (rest := [(.ref b390), (.ref b375), (.ref b375)]) (lenOf pd_17 rfl) rfl (by show 2 * 0 + _ ≤ _; exact Nat.le_of_eq rfl) (hb hby at_247) (fun _ _ => ⟨rfl, e390, (by first | decide | omega : 17 + 1 ≤ _), (by first | decide | omega : 202 + 2 ≤ _)⟩)
      dsimp only [Pt.U, Pt.locs, Pt.cells, Pt.slots] at X407 l407 y407 z407 st407 hQ407
      subst l407 y407 z407
      obtain ⟨rfl, N407q, K407, uE407, uC407, sb407, kb407, ug407, uz407, un407, uV407, uA407⟩ := hQ407
      have N407 := Fr.app N373 N407q
      have f412 : Arw Z h390 b50 k50 .char 0 (fun _ => (.int 0)) := (f391.ext E390)
      have ne413 : b50 ≠ sb407 := Nat.ne_of_lt (Nat.lt_of_lt_of_le f412.lt uz407)
      have ne414 : b316 ≠ sb407 := Nat.ne_of_lt (Nat.lt_of_lt_of_le f408.lt uz407)
      have f415 : Exa Z h390 b323 "java/lang/String" := (f395.ext E390)
      have ne416 : b323 ≠ sb407 := Nat.ne_of_lt (Nat.lt_of_lt_of_le f415.lt uz407)
      have f417 : Arv Z h390 tb330 tk330 .byte (own_n (0 : Int32) c0 c1) (own_v (0 : Int32) c0 c1) (.int 0) := (f397.ext E390)
      have ne418 : tb330 ≠ sb407 := Nat.ne_of_lt (Nat.lt_of_lt_of_le f417.lt uz407)
      have f419 : Exa Z h390 b336 "com/example/map_rewriter/maprewriter/core/Symbol" := (f399.ext E390)
      have ne420 : b336 ≠ sb407 := Nat.ne_of_lt (Nat.lt_of_lt_of_le f419.lt uz407)
      have f421 : Exa Z h390 b344 "java/lang/String" := (f401.ext E390)
      have ne422 : b344 ≠ sb407 := Nat.ne_of_lt (Nat.lt_of_lt_of_le f421.lt uz407)
      have f423 : Arv Z h390 tb357 tk357 .byte (own_n (0 : Int32) c0 c1) (own_v (0 : Int32) c0 c1) (.int 0) := (f403.ext E390)
      have ne424 : tb357 ≠ sb407 := Nat.ne_of_lt (Nat.lt_of_lt_of_le f423.lt uz407)
      have f425 : Exa Z h390 b375 "com/example/map_rewriter/maprewriter/core/Symbol" := (A375.ext E390)
      have ne426 : b375 ≠ sb407 := Nat.ne_of_lt (Nat.lt_of_lt_of_le f425.lt uz407)
      have ne427 : b390 ≠ sb407 := Nat.ne_of_lt (Nat.lt_of_lt_of_le A390.lt uz407)
      have sz_sb407 : h0.size ≤ sb407 := Nat.le_trans z411 uz407
      refine Goes.tr st407 ?_
      show Goes p e below _ (T407.setTop (mkF m 250 #[o0, o1, o2, o3, o4, vi (0 : Int32), vi q1, vi (2 : Int32), vi q2, o9, o10, o11, vi c0, vi c1, vi e0, vi e1, vr b50, vr b316, vr b323, vr b336, .unset, .unset] [(.ref b390), (.ref b375), (.ref b375)]))
      have f428 : Exa Z T407.heap b323 "java/lang/String" := (f415.keep K407)
      have f429 : Exa Z T407.heap b336 "com/example/map_rewriter/maprewriter/core/Symbol" := (f419.keep K407)
      have f430 : Exa Z T407.heap b344 "java/lang/String" := (f421.keep K407)
      have f431 : Exa Z T407.heap b375 "com/example/map_rewriter/maprewriter/core/Symbol" := (f425.keep K407)
      have Vf432 : Arv Z T407.heap sb407 kb407 .byte (own_n (2 : Int32) e0 e1) (own_v (2 : Int32) e0 e1) (.int 0) := (by unfold own_n own_v; rw [own_cs2 _ _ (by decide) (by decide)]; exact uA407)
      have Vg432 : Arw Z T407.heap sb407 kb407 .byte 2 (fun i => .int (own_g (2 : Int32) e0 e1 i)) := Arw.ofArv Vf432 (by rw [own_na2]; decide) (fun i hi => by match i, hi with | 0, _ => rfl | 1, _ => rfl)
      refine gIL X407 hx hby at_250 rfl ?_
      have f433 : Fld Z T407.heap b375 "com/example/map_rewriter/maprewriter/core/Symbol" "content" "Ljava/lang/String;" .null := ((F_content_b375.ext E390).keep K407 (ninS ne405 nin0))
      have f434 : Fld Z T407.heap b375 "com/example/map_rewriter/maprewriter/core/Symbol" "quoted" "Z" (.int (0 : Int32)) := ((F_quoted_b375.ext E390).keep K407 (ninS ne405 nin0))
      have K435 : Keep h0 T407.heap [] := (K409.trans K407 (allS (Or.inr sz_b390) all0))
      have f436 : Sta Z T407.heap "java/lang/String" "COMPACT_STRINGS" "Z" (.int cS) := own_sta_keep OS K435
      have f437 : Sta Z T407.heap "jdk/internal/util/Preconditions" "SIOOBE_FORMATTER" "Ljava/util/function/BiFunction;" fo := own_sta_keep OF K435
      have ol438 : Old Z n0 (T407.heap) := ((((ol372.keep K373 (allS gn_b336 all0)).ext E375).ext E390).keep K407 (allS gn_b390 all0))
      have z440 : h0.size ≤ (T407.heap).size := (Nat.le_trans z411 K407.1)
      have Ks441 : KS Z own_KL T373.vm (T407.heap) := (((Ks373.ext E375).ext E390).keep K407 (allS (NoS.str A390 (own_w hw 9 rfl) F_value_b390) all0))
      have sk442 : _ ≤ (T407.heap).size := (Nat.le_trans (Nat.le_trans (Nat.le_trans (Nat.le_refl _) E375.1) E390.1) K407.1)
      obtain ⟨_, _, ⟨T439, L439, k439, n439⟩, -, ⟨X439, Si439⟩, ⟨Lc439, ⟨hQ439, tK439, hK439, hKv439, hKh439⟩, l439, y439, z439⟩, st439⟩ := own_specialW X407 hx (y := (⟨"com/example/map_rewriter/maprewriter/core/Symbol", "<init>", "(Ljava/lang/String;Z)V"⟩ : MethodName)) rfl hown (mvT hZ (own_w hw 40 rfl)) (mvT hZ (own_w hw 41 rfl)) (mvT hZ (own_w hw 42 rfl)) (by decide) (own_backOfW (W := 1) (K := (fun U_ => KS Z own_KL U_.vm U_.heap)) (KP := (fun U_ => KS Z own_KL U_.vm U_.heap)) (rm9 l Z a0 hw [] b375 b390 q2 sb407 kb407 2 (own_g (2 : Int32) e0 e1) (2 : Int32) cS fo T407.heap n0 (Nat.le_trans Z0 z440) f431 f433 f434 gn_b375 uE407 uC407 uV407 Vg432 (by decide) f436 H_cs f437 Hfo (hk1 2 (by decide)) ol438 HW HC0 HC1 HC2) hZ (own_w hw 42 rfl) (own_w hw 39 rfl) (by decide) (by decide) (fun V_ hV hVh => by show KS Z own_KL V_.vm V_.heap; rw [hVh]; exact Ks441.at_ (s := s) hV)) (g := (mkF m 252 #[o0, o1, o2, o3, o4, vi (0 : Int32), vi q1, vi (2 : Int32), vi q2, o9, o10, o11, vi c0, vi c1, vi e0, vi e1, vr b50, vr b316, vr b323, vr b336, .unset, .unset] [(.int q2), (.ref b390), (.ref b375), (.ref b375)])) rfl (by rw [hml]; rfl) (a := b375) (argsL := [(.ref b390), (.int q2)]) (rest := [(.ref b375)]) (lenOf pd_18 rfl) rfl (by show 2 * 0 + _ ≤ _; exact Nat.le_of_eq rfl) (hb hby at_252) (fun _ _ => ⟨rfl, rfl, (by decide : 18 + 6 ≤ _), (by decide : 204 + 176 ≤ _)⟩)
      dsimp only [Pt.U, Pt.locs, Pt.cells, Pt.slots] at X439 l439 y439 z439 st439 hQ439 Si439 hKv439 hKh439
      subst l439 y439 z439
      obtain ⟨rfl, N439q, K439, u439_0, u439_1⟩ := hQ439
      have N439 := Fr.app N407 N439q
      refine Goes.via st439 ?_
      obtain ⟨X439', SI439, hZ, hown⟩ := rebS SI373 sk442 X439 Si439 K439.1 hZ hown
      have Ks439 : KS Z own_KL T439.vm T439.heap := by rw [← hKv439, ← hKh439]; exact hK439
      show Goes p e below _ (T439.setTop (mkF m 255 #[o0, o1, o2, o3, o4, vi (0 : Int32), vi q1, vi (2 : Int32), vi q2, o9, o10, o11, vi c0, vi c1, vi e0, vi e1, vr b50, vr b316, vr b323, vr b336, .unset, .unset] [(.ref b375)]))
      refine Goes.via (fun _ kk_ => XS.astore X439'.here hx rfl (hb hby at_255) rfl rfl (l' := #[o0, o1, o2, o3, o4, vi (0 : Int32), vi q1, vi (2 : Int32), vi q2, o9, o10, o11, vi c0, vi c1, vi e0, vi e1, vr b50, vr b316, vr b323, vr b336, vr b375, .unset]) rfl kk_) ?_
      show Goes p e below _ (T439.setTop (mkF m 257 #[o0, o1, o2, o3, o4, vi (0 : Int32), vi q1, vi (2 : Int32), vi q2, o9, o10, o11, vi c0, vi c1, vi e0, vi e1, vr b50, vr b316, vr b323, vr b336, vr b375, .unset] []))
      have K443 : Keep h0 T439.heap [] := (K435.trans K439 (allS (Or.inr sz_b375) all0))
      have f444 : Exa Z T439.heap b336 "com/example/map_rewriter/maprewriter/core/Symbol" := (f429.keep K439)
      have f445 : Fld Z T439.heap b336 "com/example/map_rewriter/maprewriter/core/Symbol" "content" "Ljava/lang/String;" (.ref b344) := ((((u373_1.ext E375).ext E390).keep K407 (ninS ne400 nin0)).keep K439 (ninS ne384 nin0))
      have f446 : Exa Z T439.heap b344 "java/lang/String" := (f430.keep K439)
      have f447 : Fld Z T439.heap b344 "java/lang/String" "coder" "B" (.int (0 : Int32)) := (((((u357_1.keep K373 (ninS (Ne.symm ne353) nin0)).ext E375).ext E390).keep K407 (ninS ne402 nin0)).keep K439 (ninS ne386 nin0))
      have f448 : Fld Z T439.heap b344 "java/lang/String" "value" "[B" (.ref tb357) := (((((u357_2.keep K373 (ninS (Ne.symm ne353) nin0)).ext E375).ext E390).keep K407 (ninS ne402 nin0)).keep K439 (ninS ne386 nin0))
      have f449 : Arv Z T439.heap tb357 tk357 .byte (own_n (0 : Int32) c0 c1) (own_v (0 : Int32) c0 c1) (.int 0) := ((f423.keep K407 (ninS ne404 nin0)).keep K439 (ninS ne388 nin0))
      have f450 : Exa Z T439.heap b390 "java/lang/String" := (uE407.keep K439)
      have f451 : Fld Z T439.heap b390 "java/lang/String" "coder" "B" (.int (0 : Int32)) := (uC407.keep K439 (ninS (Ne.symm ne405) nin0))
      have f452 : Fld Z T439.heap b390 "java/lang/String" "value" "[B" (.ref sb407) := (uV407.keep K439 (ninS (Ne.symm ne405) nin0))
      have f453 : Arv Z T439.heap sb407 kb407 .byte (own_n (2 : Int32) e0 e1) (own_v (2 : Int32) e0 e1) (.int 0) := (Vf432.keep K439 (ninS (Ne.symm ne426) nin0))
      have f454 : Exa Z T439.heap b323 "java/lang/String" := (f428.keep K439)
      exact J257 b50 b316 b323 b336 b375 b344 b390 tb357 sb407 tk357 kb407 _ _ _ _ (X439'.more (by decide) (by decide)) SI439 (Nat.le_refl _) hZ hown Ks439 N439 K443 f444 f445 u439_0 u439_1 f446 f447 f448 f449 f450 f451 f452 f453 f454
  · subst hz
    show Goes p e below _ (T15.setTop (mkF m 146 #[o0, o1, o2, o3, o4, vi (1 : Int32), vi q1, vi n2, vi q2, o9, o10, o11, vi c0, vi c1, vi e0, vi e1, .unset, .unset, .unset, .unset, .unset, .unset] []))
    refine gIL X15 hx hby at_146 rfl ?_
    obtain ⟨T455, h455, k455, X455, e455, E455, A455, st455⟩ := own_newP X15 hx hZ (own_w hw 7 rfl) e15' (g := (mkF m 148 #[o0, o1, o2, o3, o4, vi (1 : Int32), vi q1, vi n2, vi q2, o9, o10, o11, vi c0, vi c1, vi e0, vi e1, .unset, .unset, .unset, .unset, .unset, .unset] [(.int (1 : Int32))])) rfl (hb hby at_148) rfl (n := (1 : Int32)) (N := 1) (by decide) (by decide) (cap := 1) (by first | decide | omega | (dsimp only; omega)) (by first | decide | omega | (dsimp only; omega)) (by first | decide | omega | (dsimp only; omega)) (by first | decide | omega | (dsimp only; omega))
    obtain ⟨b455, g455⟩ : ∃ z, z = (h0).size := ⟨_, rfl⟩
    rw [← g455] at A455 st455
    have sz_b455 : h0.size ≤ b455 := Nat.le_trans (Nat.le_refl _) (Nat.le_of_eq g455.symm)
    have gn_b455 : n0 ≤ b455 := Nat.le_trans Z0 sz_b455
    refine Goes.via st455 ?_
    show Goes p e below _ (T455.setTop (mkF m 150 #[o0, o1, o2, o3, o4, vi (1 : Int32), vi q1, vi n2, vi q2, o9, o10, o11, vi c0, vi c1, vi e0, vi e1, .unset, .unset, .unset, .unset, .unset, .unset] [(.ref b455)]))
    refine Goes.via (fun _ kk_ => XS.astore X455.here hx rfl (hb hby at_150) rfl rfl (l' := #[o0, o1, o2, o3, o4, vi (1 : Int32), vi q1, vi n2, vi q2, o9, o10, o11, vi c0, vi c1, vi e0, vi e1, vr b455, .unset, .unset, .unset, .unset, .unset]) rfl kk_) ?_
    show Goes p e below _ (T455.setTop (mkF m 152 #[o0, o1, o2, o3, o4, vi (1 : Int32), vi q1, vi n2, vi q2, o9, o10, o11, vi c0, vi c1, vi e0, vi e1, vr b455, .unset, .unset, .unset, .unset, .unset] []))
    refine gIL X455 hx hby at_152 rfl ?_
    refine gIC (z := 1) X455 hx hby at_154 rfl ?_
    have hc155_456 : ¬ ((1 : Int32) < (1 : Int32)) := (by decide)
    refine Goes.via (fun _ kk_ => XS.icmpNo X455.here hx rfl (hb hby at_155) rfl (flt hc155_456).1 kk_) ?_
    show Goes p e below _ (T455.setTop (mkF m 158 #[o0, o1, o2, o3, o4, vi (1 : Int32), vi q1, vi n2, vi q2, o9, o10, o11, vi c0, vi c1, vi e0, vi e1, vr b455, .unset, .unset, .unset, .unset, .unset] []))
    refine gAL X455 hx hby at_158 rfl rfl ?_
    refine gIC (z := 0) X455 hx hby at_160 rfl ?_
    refine gIL X455 hx hby at_161 rfl ?_
    obtain ⟨T457, h457, X457, e457, W457, A457, st457⟩ := own_castore X455 hx hZ e455 A455 (j := (0 : Int32)) (i := 0) (by decide) (by decide) (by first | decide | omega | (dsimp only; omega)) (g := (mkF m 163 #[o0, o1, o2, o3, o4, vi (1 : Int32), vi q1, vi n2, vi q2, o9, o10, o11, vi c0, vi c1, vi e0, vi e1, vr b455, .unset, .unset, .unset, .unset, .unset] [(.int c0), (.int (0 : Int32)), (.ref b455)])) rfl rfl (hb hby at_163)
    refine Goes.via st457 ?_
    have N457 := Fr.snoc X457 N0 gn_b455
    show Goes p e below _ (T457.setTop (mkF m 164 #[o0, o1, o2, o3, o4, vi (1 : Int32), vi q1, vi n2, vi q2, o9, o10, o11, vi c0, vi c1, vi e0, vi e1, vr b455, .unset, .unset, .unset, .unset, .unset] []))
    refine gIL X457 hx hby at_164 rfl ?_
    refine gIC (z := 2) X457 hx hby at_166 rfl ?_
    have hc167_458 : ¬ ((1 : Int32) = (2 : Int32)) := (by decide)
    refine Goes.via (fun _ kk_ => XS.icmpYes X457.here hx rfl (pc0 := 167) (pc' := 176) rfl (hb hby at_167) rfl (feq hc167_458).2 (by decide) (by decide) kk_) ?_
    show Goes p e below _ (T457.setTop (mkF m 176 #[o0, o1, o2, o3, o4, vi (1 : Int32), vi q1, vi n2, vi q2, o9, o10, o11, vi c0, vi c1, vi e0, vi e1, vr b455, .unset, .unset, .unset, .unset, .unset] []))
    rcases hn2.1 with hz | hz | hz
    · subst hz
      show Goes p e below _ (T457.setTop (mkF m 176 #[o0, o1, o2, o3, o4, vi (1 : Int32), vi q1, vi (0 : Int32), vi q2, o9, o10, o11, vi c0, vi c1, vi e0, vi e1, vr b455, .unset, .unset, .unset, .unset, .unset] []))
      refine gIL X457 hx hby at_176 rfl ?_
      obtain ⟨T459, h459, k459, X459, e459, E459, A459, st459⟩ := own_newP X457 hx hZ (own_w hw 7 rfl) e457 (g := (mkF m 178 #[o0, o1, o2, o3, o4, vi (1 : Int32), vi q1, vi (0 : Int32), vi q2, o9, o10, o11, vi c0, vi c1, vi e0, vi e1, vr b455, .unset, .unset, .unset, .unset, .unset] [(.int (0 : Int32))])) rfl (hb hby at_178) rfl (n := (0 : Int32)) (N := 0) (by decide) (by decide) (cap := 0) (by first | decide | omega | (dsimp only; omega)) (by first | decide | omega | (dsimp only; omega)) (by first | decide | omega | (dsimp only; omega)) (by first | decide | omega | (dsimp only; omega))
      obtain ⟨b459, g459⟩ : ∃ z, z = (h457).size := ⟨_, rfl⟩
      rw [← g459] at A459 st459
      have lne460 : b455 < b459 := Nat.lt_of_lt_of_le A457.lt (Nat.le_of_eq g459.symm)
      have ne460 : b455 ≠ b459 := Nat.ne_of_lt lne460
      have z461 : h0.size ≤ (h457).size := (Nat.le_trans (Nat.le_trans (Nat.le_refl _) E455.1) (Nat.le_of_eq W457.size.symm))
      have sz_b459 : h0.size ≤ b459 := Nat.le_trans z461 (Nat.le_of_eq g459.symm)
      have gn_b459 : n0 ≤ b459 := Nat.le_trans Z0 sz_b459
      refine Goes.via st459 ?_
      show Goes p e below _ (T459.setTop (mkF m 180 #[o0, o1, o2, o3, o4, vi (1 : Int32), vi q1, vi (0 : Int32), vi q2, o9, o10, o11, vi c0, vi c1, vi e0, vi e1, vr b455, .unset, .unset, .unset, .unset, .unset] [(.ref b459)]))
      refine Goes.via (fun _ kk_ => XS.astore X459.here hx rfl (hb hby at_180) rfl rfl (l' := #[o0, o1, o2, o3, o4, vi (1 : Int32), vi q1, vi (0 : Int32), vi q2, o9, o10, o11, vi c0, vi c1, vi e0, vi e1, vr b455, vr b459, .unset, .unset, .unset, .unset]) rfl kk_) ?_
      show Goes p e below _ (T459.setTop (mkF m 182 #[o0, o1, o2, o3, o4, vi (1 : Int32), vi q1, vi (0 : Int32), vi q2, o9, o10, o11, vi c0, vi c1, vi e0, vi e1, vr b455, vr b459, .unset, .unset, .unset, .unset] []))
      refine gIL X459 hx hby at_182 rfl ?_
      refine gIC (z := 1) X459 hx hby at_184 rfl ?_
      have hc185_462 : (0 : Int32) < (1 : Int32) := (by decide)
      refine Goes.via (fun _ kk_ => XS.icmpYes X459.here hx rfl (pc0 := 185) (pc' := 194) rfl (hb hby at_185) rfl (tlt hc185_462).1 (by decide) (by decide) kk_) ?_
      show Goes p e below _ (T459.setTop (mkF m 194 #[o0, o1, o2, o3, o4, vi (1 : Int32), vi q1, vi (0 : Int32), vi q2, o9, o10, o11, vi c0, vi c1, vi e0, vi e1, vr b455, vr b459, .unset, .unset, .unset, .unset] []))
      refine gIL X459 hx hby at_194 rfl ?_
      refine gIC (z := 2) X459 hx hby at_196 rfl ?_
      have hc197_463 : ¬ ((0 : Int32) = (2 : Int32)) := (by decide)
      refine Goes.via (fun _ kk_ => XS.icmpYes X459.here hx rfl (pc0 := 197) (pc' := 206) rfl (hb hby at_197) rfl (feq hc197_463).2 (by decide) (by decide) kk_) ?_
      show Goes p e below _ (T459.setTop (mkF m 206 #[o0, o1, o2, o3, o4, vi (1 : Int32), vi q1, vi (0 : Int32), vi q2, o9, o10, o11, vi c0, vi c1, vi e0, vi e1, vr b455, vr b459, .unset, .unset, .unset, .unset] []))
      obtain ⟨T464, h464, X464, e464, E464, A464, D464, -, st464⟩ := newO X459 hx hZ hown (own_w hw 8 rfl) (own_w hw 9 rfl) (own_w hw 10 rfl) e459 (g := (mkF m 206 #[o0, o1, o2, o3, o4, vi (1 : Int32), vi q1, vi (0 : Int32), vi q2, o9, o10, o11, vi c0, vi c1, vi e0, vi e1, vr b455, vr b459, .unset, .unset, .unset, .unset] [])) rfl (hb hby at_206) (by first | decide | omega | (dsimp only; omega)) (by first | decide | omega | (dsimp only; omega))
      obtain ⟨b464, g464⟩ : ∃ z, z = (h459).size := ⟨_, rfl⟩
      rw [← g464] at A464 D464 st464
      have f465 : Arw Z h459 b455 k455 .char 1 (own_upd (fun _ => (.int 0)) 0 (.int (nar .char c0))) := (A457.ext E459)
      have lne466 : b455 < b464 := Nat.lt_of_lt_of_le f465.lt (Nat.le_of_eq g464.symm)
      have ne466 : b455 ≠ b464 := Nat.ne_of_lt lne466
      have lne467 : b459 < b464 := Nat.lt_of_lt_of_le A459.lt (Nat.le_of_eq g464.symm)
      have ne467 : b459 ≠ b464 := Nat.ne_of_lt lne467
      have z468 : h0.size ≤ (h459).size := (Nat.le_trans z461 E459.1)
      have sz_b464 : h0.size ≤ b464 := Nat.le_trans z468 (Nat.le_of_eq g464.symm)
      have gn_b464 : n0 ≤ b464 := Nat.le_trans Z0 sz_b464
      have F_coder_b464 : Fld Z h464 b464 "java/lang/String" "coder" "B" (.int (0 : Int32)) := D464 (Or.inr (own_w hw 34 rfl)) (ty := .byte) (by decide)
      have F_value_b464 : Fld Z h464 b464 "java/lang/String" "value" "[B" .null := D464 (Or.inr (own_w hw 36 rfl)) (ty := (.array .byte)) (by decide)
      refine Goes.via st464 ?_
      show Goes p e below _ (T464.setTop (mkF m 209 #[o0, o1, o2, o3, o4, vi (1 : Int32), vi q1, vi (0 : Int32), vi q2, o9, o10, o11, vi c0, vi c1, vi e0, vi e1, vr b455, vr b459, .unset, .unset, .unset, .unset] [(.ref b464)]))
      refine gDU X464 hx hby at_209 rfl ?_
      refine gAL X464 hx hby at_210 rfl rfl ?_
      have f470 : Arw Z h464 b455 k455 .char 1 (own_upd (fun _ => (.int 0)) 0 (.int (nar .char c0))) := (f465.ext E464)
      have Va469 : Arv Z h464 b455 k455 .char (1 : Int32) ([(nar .char c0)].map Value.int) (.int (0 : Int32)) := f470.toArv (by decide) (by intro i hi; match i, hi with | 0, _ => rfl)
      have K471 : Keep h0 h464 [] := (((((Keep.refl h0 []).ext E455).wr W457 (Or.inr sz_b455)).ext E459).ext E464)
      have f472 : Sta Z h464 "java/lang/String" "COMPACT_STRINGS" "Z" (.int cS) := own_sta_keep OS K471
      have z473 : h0.size ≤ (h464).size := (Nat.le_trans z468 E464.1)
      have hws469 : ∀ d ∈ StrChars.Road.words, d.before a0 Z = true := fun d hd => hw d ((by decide +kernel : ∀ d ∈ StrChars.Road.words, d ∈ tables_1) d hd)
      have hlat469 : ∀ c ∈ [(nar .char c0)], ¬ c < 0 ∧ ¬ (255 : Int32) < c := (by intro x hx; have q := own_lat (n := (1 : Int32)) (c := c0) (d := c1) (mc0) (mc1) x; rw [own_cs1 _ _ (by decide) rfl] at q; exact q hx)
      obtain ⟨_, _, ⟨T469, L469, k469, n469⟩, -, X469, ⟨Lc469, hQ469, l469, y469, z469⟩, st469⟩ := X464.specialBack hx (y := (⟨"java/lang/String", "<init>", "([C)V"⟩ : MethodName)) rfl hown (mvT hZ (own_w hw 11 rfl)) (mvT hZ (own_w hw 12 rfl)) (mvT hZ (own_w hw 13 rfl)) (by decide) (StrChars.Road.backV (W := 1) hZ hws469 (kI := 4) (own_w hw 9 rfl) (cs := [(nar .char c0)]) (bs := [(nar .char c0)].map (fun c => c.toInt8.toInt32)) (n := 1) gn_b464 (Nat.le_trans Z0 z473) A464 F_value_b464 F_coder_b464 Va469 f472 H_cs rfl rfl (by decide) (by decide) hlat469 rfl (by decide) (by decide)) (g := (mkF m 212 #[o0, o1, o2, o3, o4, vi (1 : Int32), vi q1, vi (0 : Int32), vi q2, o9, o10, o11, vi c0, vi c1, vi e0, vi e1, vr b455, vr b459, .unset, .unset, .unset, .unset] [(.ref b455), (.ref b464), (.ref b464)])) rfl (by rw [hml]; rfl) (Steps.refl _) (a := b464) (argsL := [(.ref b455)]) (rest := [(.ref b464)]) (lenOf pd_17 rfl) rfl (by show 2 * 0 + _ ≤ _; exact Nat.le_of_eq rfl) (hb hby at_212) (fun _ _ => ⟨rfl, e464, (by first | decide | omega : 3 + 1 ≤ _), (by first | decide | omega : 5 + 1 ≤ _)⟩)
      dsimp only [Pt.U, Pt.locs, Pt.cells, Pt.slots] at X469 l469 y469 z469 st469 hQ469
      subst l469 y469 z469
      obtain ⟨rfl, N469q, K469, uE469, uC469, sb469, kb469, ug469, uz469, un469, uV469, uA469⟩ := hQ469
      have N469 := Fr.app N457 N469q
      have ne474 : b455 ≠ sb469 := Nat.ne_of_lt (Nat.lt_of_lt_of_le f470.lt uz469)
      have f475 : Arw Z h464 b459 k459 .char 0 (fun _ => (.int 0)) := (A459.ext E464)
      have ne476 : b459 ≠ sb469 := Nat.ne_of_lt (Nat.lt_of_lt_of_le f475.lt uz469)
      have ne477 : b464 ≠ sb469 := Nat.ne_of_lt (Nat.lt_of_lt_of_le A464.lt uz469)
      have sz_sb469 : h0.size ≤ sb469 := Nat.le_trans z473 uz469
      refine Goes.tr st469 ?_
      show Goes p e below _ (T469.setTop (mkF m 215 #[o0, o1, o2, o3, o4, vi (1 : Int32), vi q1, vi (0 : Int32), vi q2, o9, o10, o11, vi c0, vi c1, vi e0, vi e1, vr b455, vr b459, .unset, .unset, .unset, .unset] [(.ref b464)]))
      have Vf478 : Arv Z T469.heap sb469 kb469 .byte (own_n (1 : Int32) c0 c1) (own_v (1 : Int32) c0 c1) (.int 0) := (by unfold own_n own_v; rw [own_cs1 _ _ (by decide) rfl]; exact uA469)
      refine Goes.via (fun _ kk_ => XS.astore X469.here hx rfl (hb hby at_215) rfl rfl (l' := #[o0, o1, o2, o3, o4, vi (1 : Int32), vi q1, vi (0 : Int32), vi q2, o9, o10, o11, vi c0, vi c1, vi e0, vi e1, vr b455, vr b459, vr b464, .unset, .unset, .unset]) rfl kk_) ?_
      show Goes p e below _ (T469.setTop (mkF m 217 #[o0, o1, o2, o3, o4, vi (1 : Int32), vi q1, vi (0 : Int32), vi q2, o9, o10, o11, vi c0, vi c1, vi e0, vi e1, vr b455, vr b459, vr b464, .unset, .unset, .unset] []))
      obtain ⟨T479, h479, X479, e479, E479, A479, D479, -, st479⟩ := newO X469 hx hZ hown (own_w hw 37 rfl) (own_w hw 38 rfl) (own_w hw 39 rfl) rfl (g := (mkF m 217 #[o0, o1, o2, o3, o4, vi (1 : Int32), vi q1, vi (0 : Int32), vi q2, o9, o10, o11, vi c0, vi c1, vi e0, vi e1, vr b455, vr b459, vr b464, .unset, .unset, .unset] [])) rfl (hb hby at_217) (by first | decide | omega | (dsimp only; omega)) (by first | decide | omega | (dsimp only; omega))
      obtain ⟨b479, g479⟩ : ∃ z, z = (T469.heap).size := ⟨_, rfl⟩
      rw [← g479] at A479 D479 st479
      have f480 : Arw Z T469.heap b455 k455 .char 1 (own_upd (fun _ => (.int 0)) 0 (.int (nar .char c0))) := (f470.keep K469 (ninS ne466 nin0))
      have lne481 : b455 < b479 := Nat.lt_of_lt_of_le f480.lt (Nat.le_of_eq g479.symm)
      have ne481 : b455 ≠ b479 := Nat.ne_of_lt lne481
      have f482 : Arw Z T469.heap b459 k459 .char 0 (fun _ => (.int 0)) := (f475.keep K469 (ninS ne467 nin0))
      have lne483 : b459 < b479 := Nat.lt_of_lt_of_le f482.lt (Nat.le_of_eq g479.symm)
      have ne483 : b459 ≠ b479 := Nat.ne_of_lt lne483
      have lne484 : b464 < b479 := Nat.lt_of_lt_of_le uE469.lt (Nat.le_of_eq g479.symm)
      have ne484 : b464 ≠ b479 := Nat.ne_of_lt lne484
      have lne485 : sb469 < b479 := Nat.lt_of_lt_of_le Vf478.lt (Nat.le_of_eq g479.symm)
      have ne485 : sb469 ≠ b479 := Nat.ne_of_lt lne485
      have z486 : h0.size ≤ (T469.heap).size := (Nat.le_trans z473 K469.1)
      have sz_b479 : h0.size ≤ b479 := Nat.le_trans z486 (Nat.le_of_eq g479.symm)
      have gn_b479 : n0 ≤ b479 := Nat.le_trans Z0 sz_b479
      have F_content_b479 : Fld Z h479 b479 "com/example/map_rewriter/maprewriter/core/Symbol" "content" "Ljava/lang/String;" .null := D479 (Or.inr (own_w hw 98 rfl)) (ty := (.object "java/lang/String")) (by decide)
      have F_quoted_b479 : Fld Z h479 b479 "com/example/map_rewriter/maprewriter/core/Symbol" "quoted" "Z" (.int (0 : Int32)) := D479 (Or.inr (own_w hw 100 rfl)) (ty := .boolean) (by decide)
      refine Goes.via st479 ?_
      show Goes p e below _ (T479.setTop (mkF m 220 #[o0, o1, o2, o3, o4, vi (1 : Int32), vi q1, vi (0 : Int32), vi q2, o9, o10, o11, vi c0, vi c1, vi e0, vi e1, vr b455, vr b459, vr b464, .unset, .unset, .unset] [(.ref b479)]))
      refine gDU X479 hx hby at_220 rfl ?_
      obtain ⟨T487, h487, X487, e487, E487, A487, D487, -, st487⟩ := newO X479 hx hZ hown (own_w hw 8 rfl) (own_w hw 9 rfl) (own_w hw 10 rfl) e479 (g := (mkF m 221 #[o0, o1, o2, o3, o4, vi (1 : Int32), vi q1, vi (0 : Int32), vi q2, o9, o10, o11, vi c0, vi c1, vi e0, vi e1, vr b455, vr b459, vr b464, .unset, .unset, .unset] [(.ref b479), (.ref b479)])) rfl (hb hby at_221) (by first | decide | omega | (dsimp only; omega)) (by first | decide | omega | (dsimp only; omega))
      obtain ⟨b487, g487⟩ : ∃ z, z = (h479).size := ⟨_, rfl⟩
      rw [← g487] at A487 D487 st487
      have f488 : Arw Z h479 b455 k455 .char 1 (own_upd (fun _ => (.int 0)) 0 (.int (nar .char c0))) := (f480.ext E479)
      have lne489 : b455 < b487 := Nat.lt_of_lt_of_le f488.lt (Nat.le_of_eq g487.symm)
      have ne489 : b455 ≠ b487 := Nat.ne_of_lt lne489
      have f490 : Arw Z h479 b459 k459 .char 0 (fun _ => (.int 0)) := (f482.ext E479)
      have lne491 : b459 < b487 := Nat.lt_of_lt_of_le f490.lt (Nat.le_of_eq g487.symm)
      have ne491 : b459 ≠ b487 := Nat.ne_of_lt lne491
      have f492 : Exa Z h479 b464 "java/lang/String" := (uE469.ext E479)
      have lne493 : b464 < b487 := Nat.lt_of_lt_of_le f492.lt (Nat.le_of_eq g487.symm)
      have ne493 : b464 ≠ b487 := Nat.ne_of_lt lne493
      have f494 : Arv Z h479 sb469 kb469 .byte (own_n (1 : Int32) c0 c1) (own_v (1 : Int32) c0 c1) (.int 0) := (Vf478.ext E479)
      have lne495 : sb469 < b487 := Nat.lt_of_lt_of_le f494.lt (Nat.le_of_eq g487.symm)
      have ne495 : sb469 ≠ b487 := Nat.ne_of_lt lne495
      have lne496 : b479 < b487 := Nat.lt_of_lt_of_le A479.lt (Nat.le_of_eq g487.symm)
      have ne496 : b479 ≠ b487 := Nat.ne_of_lt lne496
      have z497 : h0.size ≤ (h479).size := (Nat.le_trans z486 E479.1)
      have sz_b487 : h0.size ≤ b487 := Nat.le_trans z497 (Nat.le_of_eq g487.symm)
      have gn_b487 : n0 ≤ b487 := Nat.le_trans Z0 sz_b487
      have F_coder_b487 : Fld Z h487 b487 "java/lang/String" "coder" "B" (.int (0 : Int32)) := D487 (Or.inr (own_w hw 34 rfl)) (ty := .byte) (by decide)
      have F_value_b487 : Fld Z h487 b487 "java/lang/String" "value" "[B" .null := D487 (Or.inr (own_w hw 36 rfl)) (ty := (.array .byte)) (by decide)
      refine Goes.via st487 ?_
      show Goes p e below _ (T487.setTop (mkF m 224 #[o0, o1, o2, o3, o4, vi (1 : Int32), vi q1, vi (0 : Int32), vi q2, o9, o10, o11, vi c0, vi c1, vi e0, vi e1, vr b455, vr b459, vr b464, .unset, .unset, .unset] [(.ref b487), (.ref b479), (.ref b479)]))
      refine gDU X487 hx hby at_224 rfl ?_
      refine gAL X487 hx hby at_225 rfl rfl ?_
      have f499 : Arw Z h487 b455 k455 .char 1 (own_upd (fun _ => (.int 0)) 0 (.int (nar .char c0))) := (f488.ext E487)
      have Va498 : Arv Z h487 b455 k455 .char (1 : Int32) ([(nar .char c0)].map Value.int) (.int (0 : Int32)) := f499.toArv (by decide) (by intro i hi; match i, hi with | 0, _ => rfl)
      have K500 : Keep h0 h487 [] := (((K471.trans K469 (allS (Or.inr sz_b464) all0)).ext E479).ext E487)
      have f501 : Sta Z h487 "java/lang/String" "COMPACT_STRINGS" "Z" (.int cS) := own_sta_keep OS K500
      have z502 : h0.size ≤ (h487).size := (Nat.le_trans z497 E487.1)
      have hws498 : ∀ d ∈ StrChars.Road.words, d.before a0 Z = true := fun d hd => hw d ((by decide +kernel : ∀ d ∈ StrChars.Road.words, d ∈ tables_1) d hd)
      have hlat498 : ∀ c ∈ [(nar .char c0)], ¬ c < 0 ∧ ¬ (255 : Int32) < c := (by intro x hx; have q := own_lat (n := (1 : Int32)) (c := c0) (d := c1) (mc0) (mc1) x; rw [own_cs1 _ _ (by decide) rfl] at q; exact q hx)
      obtain ⟨_, _, ⟨T498, L498, k498, n498⟩, -, X498, ⟨Lc498, hQ498, l498, y498, z498⟩, st498⟩ := X487.specialBack hx (y := (⟨"java/lang/String", "<init>", "([C)V"⟩ : MethodName)) rfl hown (mvT hZ (own_w hw 11 rfl)) (mvT hZ (own_w hw 12 rfl)) (mvT hZ (own_w hw 13 rfl)) (by decide) (StrChars.Road.backV (W := 3) hZ hws498 (kI := 4) (own_w hw 9 rfl) (cs := [(nar .char c0)]) (bs := [(nar .char c0)].map (fun c => c.toInt8.toInt32)) (n := 1) gn_b487 (Nat.le_trans Z0 z502) A487 F_value_b487 F_coder_b487 Va498 f501 H_cs rfl rfl (by decide) (by decide) hlat498 rfl (by decide) (by decide)) (g := (mkF m 227 #[o0, o1, o2, o3, o4, vi (1 : Int32), vi q1, vi (0 : Int32), vi q2, o9, o10, o11, vi c0, vi c1, vi e0, vi e1, vr b455, vr b459, vr b464, .unset, .unset, .unset] [(.ref b455), (.ref b487), (.ref b487), (.ref b479), (.ref b479)])) rfl (by rw [hml]; rfl) (Steps.refl _) (a := b487) (argsL := [(.ref b455)]) (rest := [(.ref b487), (.ref b479), (.ref b479)]) (lenOf pd_17 rfl) rfl (by show 2 * 0 + _ ≤ _; exact Nat.le_of_eq rfl) (hb hby at_227) (fun _ _ => ⟨rfl, e487, (by first | decide | omega : 6 + 1 ≤ _), (by first | decide | omega : 12 + 1 ≤ _)⟩)
      dsimp only [Pt.U, Pt.locs, Pt.cells, Pt.slots] at X498 l498 y498 z498 st498 hQ498
      subst l498 y498 z498
      obtain ⟨rfl, N498q, K498, uE498, uC498, sb498, kb498, ug498, uz498, un498, uV498, uA498⟩ := hQ498
      have N498 := Fr.app N469 N498q
      have ne503 : b455 ≠ sb498 := Nat.ne_of_lt (Nat.lt_of_lt_of_le f499.lt uz498)
      have f504 : Arw Z h487 b459 k459 .char 0 (fun _ => (.int 0)) := (f490.ext E487)
      have ne505 : b459 ≠ sb498 := Nat.ne_of_lt (Nat.lt_of_lt_of_le f504.lt uz498)
      have f506 : Exa Z h487 b464 "java/lang/String" := (f492.ext E487)
      have ne507 : b464 ≠ sb498 := Nat.ne_of_lt (Nat.lt_of_lt_of_le f506.lt uz498)
      have f508 : Arv Z h487 sb469 kb469 .byte (own_n (1 : Int32) c0 c1) (own_v (1 : Int32) c0 c1) (.int 0) := (f494.ext E487)
      have ne509 : sb469 ≠ sb498 := Nat.ne_of_lt (Nat.lt_of_lt_of_le f508.lt uz498)
      have f510 : Exa Z h487 b479 "com/example/map_rewriter/maprewriter/core/Symbol" := (A479.ext E487)
      have ne511 : b479 ≠ sb498 := Nat.ne_of_lt (Nat.lt_of_lt_of_le f510.lt uz498)
      have ne512 : b487 ≠ sb498 := Nat.ne_of_lt (Nat.lt_of_lt_of_le A487.lt uz498)
      have sz_sb498 : h0.size ≤ sb498 := Nat.le_trans z502 uz498
      refine Goes.tr st498 ?_
      show Goes p e below _ (T498.setTop (mkF m 230 #[o0, o1, o2, o3, o4, vi (1 : Int32), vi q1, vi (0 : Int32), vi q2, o9, o10, o11, vi c0, vi c1, vi e0, vi e1, vr b455, vr b459, vr b464, .unset, .unset, .unset] [(.ref b487), (.ref b479), (.ref b479)]))
      have f513 : Exa Z T498.heap b464 "java/lang/String" := (f506.keep K498)
      have f514 : Exa Z T498.heap b479 "com/example/map_rewriter/maprewriter/core/Symbol" := (f510.keep K498)
      have Vf515 : Arv Z T498.heap sb498 kb498 .byte (own_n (1 : Int32) c0 c1) (own_v (1 : Int32) c0 c1) (.int 0) := (by unfold own_n own_v; rw [own_cs1 _ _ (by decide) rfl]; exact uA498)
      have Vg515 : Arw Z T498.heap sb498 kb498 .byte 1 (fun i => .int (own_g (1 : Int32) c0 c1 i)) := Arw.ofArv Vf515 (by rw [own_na1]; decide) (fun i hi => by match i, hi with | 0, _ => rfl)
      refine gIL X498 hx hby at_230 rfl ?_
      have f516 : Fld Z T498.heap b479 "com/example/map_rewriter/maprewriter/core/Symbol" "content" "Ljava/lang/String;" .null := ((F_content_b479.ext E487).keep K498 (ninS ne496 nin0))
      have f517 : Fld Z T498.heap b479 "com/example/map_rewriter/maprewriter/core/Symbol" "quoted" "Z" (.int (0 : Int32)) := ((F_quoted_b479.ext E487).keep K498 (ninS ne496 nin0))
      have K518 : Keep h0 T498.heap [] := (K500.trans K498 (allS (Or.inr sz_b487) all0))
      have f519 : Sta Z T498.heap "java/lang/String" "COMPACT_STRINGS" "Z" (.int cS) := own_sta_keep OS K518
      have f520 : Sta Z T498.heap "jdk/internal/util/Preconditions" "SIOOBE_FORMATTER" "Ljava/util/function/BiFunction;" fo := own_sta_keep OF K518
      have ol521 : Old Z n0 (T498.heap) := ((((((((HO.ext E455).wr W457 gn_b455).ext E459).ext E464).keep K469 (allS gn_b464 all0)).ext E479).ext E487).keep K498 (allS gn_b487 all0))
      have z523 : h0.size ≤ (T498.heap).size := (Nat.le_trans z502 K498.1)
      have Ks524 : KS Z own_KL s.vm (T498.heap) := ((((((((Ks0.ext E455).wr W457 (NoS.arr A455 (own_w hw 9 rfl) (by intro q; cases q))).ext E459).ext E464).keep K469 (allS (NoS.str A464 (own_w hw 9 rfl) F_value_b464) all0)).ext E479).ext E487).keep K498 (allS (NoS.str A487 (own_w hw 9 rfl) F_value_b487) all0))
      have sk525 : _ ≤ (T498.heap).size := (Nat.le_trans (Nat.le_trans (Nat.le_trans (Nat.le_trans (Nat.le_trans (Nat.le_trans (Nat.le_trans (Nat.le_trans (Nat.zero_le _) E455.1) (Nat.le_of_eq W457.size.symm)) E459.1) E464.1) K469.1) E479.1) E487.1) K498.1)
      obtain ⟨_, _, ⟨T522, L522, k522, n522⟩, -, ⟨X522, Si522⟩, ⟨Lc522, ⟨hQ522, tK522, hK522, hKv522, hKh522⟩, l522, y522, z522⟩, st522⟩ := own_specialW X498 hx (y := (⟨"com/example/map_rewriter/maprewriter/core/Symbol", "<init>", "(Ljava/lang/String;Z)V"⟩ : MethodName)) rfl hown (mvT hZ (own_w hw 40 rfl)) (mvT hZ (own_w hw 41 rfl)) (mvT hZ (own_w hw 42 rfl)) (by decide) (own_backOfW (W := 1) (K := (fun U_ => KS Z own_KL U_.vm U_.heap)) (KP := (fun U_ => KS Z own_KL U_.vm U_.heap)) (rm9 l Z a0 hw [] b479 b487 q1 sb498 kb498 1 (own_g (1 : Int32) c0 c1) (1 : Int32) cS fo T498.heap n0 (Nat.le_trans Z0 z523) f514 f516 f517 gn_b479 uE498 uC498 uV498 Vg515 (by decide) f519 H_cs f520 Hfo (hk0 1 (by decide)) ol521 HW HC0 HC1 HC2) hZ (own_w hw 42 rfl) (own_w hw 39 rfl) (by decide) (by decide) (fun V_ hV hVh => by show KS Z own_KL V_.vm V_.heap; rw [hVh]; exact Ks524.at_ (s := s) hV)) (g := (mkF m 232 #[o0, o1, o2, o3, o4, vi (1 : Int32), vi q1, vi (0 : Int32), vi q2, o9, o10, o11, vi c0, vi c1, vi e0, vi e1, vr b455, vr b459, vr b464, .unset, .unset, .unset] [(.int q1), (.ref b487), (.ref b479), (.ref b479)])) rfl (by rw [hml]; rfl) (a := b479) (argsL := [(.ref b487), (.int q1)]) (rest := [(.ref b479)]) (lenOf pd_18 rfl) rfl (by show 2 * 0 + _ ≤ _; exact Nat.le_of_eq rfl) (hb hby at_232) (fun _ _ => ⟨rfl, rfl, (by decide : 7 + 6 ≤ _), (by decide : 13 + 176 ≤ _)⟩)
      dsimp only [Pt.U, Pt.locs, Pt.cells, Pt.slots] at X522 l522 y522 z522 st522 hQ522 Si522 hKv522 hKh522
      subst l522 y522 z522
      obtain ⟨rfl, N522q, K522, u522_0, u522_1⟩ := hQ522
      have N522 := Fr.app N498 N522q
      refine Goes.via st522 ?_
      obtain ⟨X522', SI522, hZ, hown⟩ := rebS SI0 sk525 X522 Si522 K522.1 hZ hown
      have Ks522 : KS Z own_KL T522.vm T522.heap := by rw [← hKv522, ← hKh522]; exact hK522
      show Goes p e below _ (T522.setTop (mkF m 235 #[o0, o1, o2, o3, o4, vi (1 : Int32), vi q1, vi (0 : Int32), vi q2, o9, o10, o11, vi c0, vi c1, vi e0, vi e1, vr b455, vr b459, vr b464, .unset, .unset, .unset] [(.ref b479)]))
      refine Goes.via (fun _ kk_ => XS.astore X522'.here hx rfl (hb hby at_235) rfl rfl (l' := #[o0, o1, o2, o3, o4, vi (1 : Int32), vi q1, vi (0 : Int32), vi q2, o9, o10, o11, vi c0, vi c1, vi e0, vi e1, vr b455, vr b459, vr b464, vr b479, .unset, .unset]) rfl kk_) ?_
      show Goes p e below _ (T522.setTop (mkF m 237 #[o0, o1, o2, o3, o4, vi (1 : Int32), vi q1, vi (0 : Int32), vi q2, o9, o10, o11, vi c0, vi c1, vi e0, vi e1, vr b455, vr b459, vr b464, vr b479, .unset, .unset] []))
      obtain ⟨T526, h526, X526, e526, E526, A526, D526, -, st526⟩ := newO X522' hx hZ hown (own_w hw 37 rfl) (own_w hw 38 rfl) (own_w hw 39 rfl) rfl (g := (mkF m 237 #[o0, o1, o2, o3, o4, vi (1 : Int32), vi q1, vi (0 : Int32), vi q2, o9, o10, o11, vi c0, vi c1, vi e0, vi e1, vr b455, vr b459, vr b464, vr b479, .unset, .unset] [])) rfl (hb hby at_237) (by first | decide | omega | (dsimp only; omega)) (by first | decide | omega | (dsimp only; omega))
      obtain ⟨b526, g526⟩ : ∃ z, z = (T522.heap).size := ⟨_, rfl⟩
      rw [← g526] at A526 D526 st526
      have f527 : Arw Z T522.heap b455 k455 .char 1 (own_upd (fun _ => (.int 0)) 0 (.int (nar .char c0))) := ((f499.keep K498 (ninS ne489 nin0)).keep K522 (ninS ne481 nin0))
      have lne528 : b455 < b526 := Nat.lt_of_lt_of_le f527.lt (Nat.le_of_eq g526.symm)
      have ne528 : b455 ≠ b526 := Nat.ne_of_lt lne528
      have f529 : Arw Z T522.heap b459 k459 .char 0 (fun _ => (.int 0)) := ((f504.keep K498 (ninS ne491 nin0)).keep K522 (ninS ne483 nin0))
      have lne530 : b459 < b526 := Nat.lt_of_lt_of_le f529.lt (Nat.le_of_eq g526.symm)
      have ne530 : b459 ≠ b526 := Nat.ne_of_lt lne530
      have f531 : Exa Z T522.heap b464 "java/lang/String" := (f513.keep K522)
      have lne532 : b464 < b526 := Nat.lt_of_lt_of_le f531.lt (Nat.le_of_eq g526.symm)
      have ne532 : b464 ≠ b526 := Nat.ne_of_lt lne532
      have f533 : Arv Z T522.heap sb469 kb469 .byte (own_n (1 : Int32) c0 c1) (own_v (1 : Int32) c0 c1) (.int 0) := ((f508.keep K498 (ninS ne495 nin0)).keep K522 (ninS ne485 nin0))
      have lne534 : sb469 < b526 := Nat.lt_of_lt_of_le f533.lt (Nat.le_of_eq g526.symm)
      have ne534 : sb469 ≠ b526 := Nat.ne_of_lt lne534
      have lne535 : b479 < b526 := Nat.lt_of_lt_of_le u522_0.lt (Nat.le_of_eq g526.symm)
      have ne535 : b479 ≠ b526 := Nat.ne_of_lt lne535
      have f536 : Exa Z T522.heap b487 "java/lang/String" := (uE498.keep K522)
      have lne537 : b487 < b526 := Nat.lt_of_lt_of_le f536.lt (Nat.le_of_eq g526.symm)
      have ne537 : b487 ≠ b526 := Nat.ne_of_lt lne537
      have f538 : Arv Z T522.heap sb498 kb498 .byte (own_n (1 : Int32) c0 c1) (own_v (1 : Int32) c0 c1) (.int 0) := (Vf515.keep K522 (ninS (Ne.symm ne511) nin0))
      have lne539 : sb498 < b526 := Nat.lt_of_lt_of_le f538.lt (Nat.le_of_eq g526.symm)
      have ne539 : sb498 ≠ b526 := Nat.ne_of_lt lne539
      have z540 : h0.size ≤ (T522.heap).size := (Nat.le_trans z523 K522.1)
      have sz_b526 : h0.size ≤ b526 := Nat.le_trans z540 (Nat.le_of_eq g526.symm)
      have gn_b526 : n0 ≤ b526 := Nat.le_trans Z0 sz_b526
      have F_content_b526 : Fld Z h526 b526 "com/example/map_rewriter/maprewriter/core/Symbol" "content" "Ljava/lang/String;" .null := D526 (Or.inr (own_w hw 98 rfl)) (ty := (.object "java/lang/String")) (by decide)
      have F_quoted_b526 : Fld Z h526 b526 "com/example/map_rewriter/maprewriter/core/Symbol" "quoted" "Z" (.int (0 : Int32)) := D526 (Or.inr (own_w hw 100 rfl)) (ty := .boolean) (by decide)
      refine Goes.via st526 ?_
      show Goes p e below _ (T526.setTop (mkF m 240 #[o0, o1, o2, o3, o4, vi (1 : Int32), vi q1, vi (0 : Int32), vi q2, o9, o10, o11, vi c0, vi c1, vi e0, vi e1, vr b455, vr b459, vr b464, vr b479, .unset, .unset] [(.ref b526)]))
      refine gDU X526 hx hby at_240 rfl ?_
      obtain ⟨T541, h541, X541, e541, E541, A541, D541, -, st541⟩ := newO X526 hx hZ hown (own_w hw 8 rfl) (own_w hw 9 rfl) (own_w hw 10 rfl) e526 (g := (mkF m 241 #[o0, o1, o2, o3, o4, vi (1 : Int32), vi q1, vi (0 : Int32), vi q2, o9, o10, o11, vi c0, vi c1, vi e0, vi e1, vr b455, vr b459, vr b464, vr b479, .unset, .unset] [(.ref b526), (.ref b526)])) rfl (hb hby at_241) (by first | decide | omega | (dsimp only; omega)) (by first | decide | omega | (dsimp only; omega))
      obtain ⟨b541, g541⟩ : ∃ z, z = (h526).size := ⟨_, rfl⟩
      rw [← g541] at A541 D541 st541
      have f542 : Arw Z h526 b455 k455 .char 1 (own_upd (fun _ => (.int 0)) 0 (.int (nar .char c0))) := (f527.ext E526)
      have lne543 : b455 < b541 := Nat.lt_of_lt_of_le f542.lt (Nat.le_of_eq g541.symm)
      have ne543 : b455 ≠ b541 := Nat.ne_of_lt lne543
      have f544 : Arw Z h526 b459 k459 .char 0 (fun _ => (.int 0)) := (f529.ext E526)
      have lne545 : b459 < b541 := Nat.lt_of_lt_of_le f544.lt (Nat.le_of_eq g541.symm)
      have ne545 : b459 ≠ b541 := Nat.ne_of_lt lne545
      have f546 : Exa Z h526 b464 "java/lang/String" := (f531.ext E526)
      have lne547 : b464 < b541 := Nat.lt_of_lt_of_le f546.lt (Nat.le_of_eq g541.symm)
      have ne547 : b464 ≠ b541 := Nat.ne_of_lt lne547
      have f548 : Arv Z h526 sb469 kb469 .byte (own_n (1 : Int32) c0 c1) (own_v (1 : Int32) c0 c1) (.int 0) := (f533.ext E526)
      have lne549 : sb469 < b541 := Nat.lt_of_lt_of_le f548.lt (Nat.le_of_eq g541.symm)
      have ne549 : sb469 ≠ b541 := Nat.ne_of_lt lne549
      have f550 : Exa Z h526 b479 "com/example/map_rewriter/maprewriter/core/Symbol" := (u522_0.ext E526)
      have lne551 : b479 < b541 := Nat.lt_of_lt_of_le f550.lt (Nat.le_of_eq g541.symm)
      have ne551 : b479 ≠ b541 := Nat.ne_of_lt lne551
      have f552 : Exa Z h526 b487 "java/lang/String" := (f536.ext E526)
      have lne553 : b487 < b541 := Nat.lt_of_lt_of_le f552.lt (Nat.le_of_eq g541.symm)
      have ne553 : b487 ≠ b541 := Nat.ne_of_lt lne553
      have f554 : Arv Z h526 sb498 kb498 .byte (own_n (1 : Int32) c0 c1) (own_v (1 : Int32) c0 c1) (.int 0) := (f538.ext E526)
      have lne555 : sb498 < b541 := Nat.lt_of_lt_of_le f554.lt (Nat.le_of_eq g541.symm)
      have ne555 : sb498 ≠ b541 := Nat.ne_of_lt lne555
      have lne556 : b526 < b541 := Nat.lt_of_lt_of_le A526.lt (Nat.le_of_eq g541.symm)
      have ne556 : b526 ≠ b541 := Nat.ne_of_lt lne556
      have z557 : h0.size ≤ (h526).size := (Nat.le_trans z540 E526.1)
      have sz_b541 : h0.size ≤ b541 := Nat.le_trans z557 (Nat.le_of_eq g541.symm)
      have gn_b541 : n0 ≤ b541 := Nat.le_trans Z0 sz_b541
      have F_coder_b541 : Fld Z h541 b541 "java/lang/String" "coder" "B" (.int (0 : Int32)) := D541 (Or.inr (own_w hw 34 rfl)) (ty := .byte) (by decide)
      have F_value_b541 : Fld Z h541 b541 "java/lang/String" "value" "[B" .null := D541 (Or.inr (own_w hw 36 rfl)) (ty := (.array .byte)) (by decide)
      refine Goes.via st541 ?_
      show Goes p e below _ (T541.setTop (mkF m 244 #[o0, o1, o2, o3, o4, vi (1 : Int32), vi q1, vi (0 : Int32), vi q2, o9, o10, o11, vi c0, vi c1, vi e0, vi e1, vr b455, vr b459, vr b464, vr b479, .unset, .unset] [(.ref b541), (.ref b526), (.ref b526)]))
      refine gDU X541 hx hby at_244 rfl ?_
      refine gAL X541 hx hby at_245 rfl rfl ?_
      have f558 : Arw Z h541 b459 k459 .char 0 (fun _ => (.int 0)) := (f544.ext E541)
      have ol559 : Old Z n0 (h541) := (((ol521.keep K522 (allS gn_b479 all0)).ext E526).ext E541)
      have z561 : h0.size ≤ (h541).size := (Nat.le_trans z557 E541.1)
      have Ks562 : KS Z own_KL T522.vm (h541) := ((Ks522.ext E526).ext E541)
      have sk563 : _ ≤ (h541).size := (Nat.le_trans (Nat.le_trans (Nat.le_refl _) E526.1) E541.1)
      obtain ⟨_, _, ⟨T560, L560, k560, n560⟩, -, ⟨X560, Si560⟩, ⟨Lc560, ⟨hQ560, tK560, hK560, hKv560, hKh560⟩, l560, y560, z560⟩, st560⟩ := own_specialW X541 hx (y := (⟨"java/lang/String", "<init>", "([C)V"⟩ : MethodName)) rfl hown (mvT hZ (own_w hw 11 rfl)) (mvT hZ (own_w hw 12 rfl)) (mvT hZ (own_w hw 13 rfl)) (by decide) (own_backOfW (W := 3) (K := (fun U_ => KS Z own_KL U_.vm U_.heap)) (KP := (fun U_ => KS Z own_KL U_.vm U_.heap)) (rm3e l Z a0 hw [] b541 b459 k459 (fun _ => (.int 0)) h541 n0 (Nat.le_trans Z0 z561) A541 F_value_b541 F_coder_b541 gn_b541 f558 ol559 HW HC0 HC1 HC2) hZ (own_w hw 13 rfl) (own_w hw 10 rfl) (by decide) (by decide) (fun V_ hV hVh => by show KS Z own_KL V_.vm V_.heap; rw [hVh]; exact Ks562.at_ (s := s) hV)) (g := (mkF m 247 #[o0, o1, o2, o3, o4, vi (1 : Int32), vi q1, vi (0 : Int32), vi q2, o9, o10, o11, vi c0, vi c1, vi e0, vi e1, vr b455, vr b459, vr b464, vr b479, .unset, .unset] [(.ref b459), (.ref b541), (.ref b541), (.ref b526), (.ref b526)])) rfl (by rw [hml]; rfl) (a := b541) (argsL := [(.ref b459)]) (rest := [(.ref b541), (.ref b526), (.ref b526)]) (lenOf pd_17 rfl) rfl (by show 2 * 0 + _ ≤ _; exact Nat.le_of_eq rfl) (hb hby at_247) (fun _ _ => ⟨rfl, e541, (by decide : 15 + 2 ≤ _), (by decide : 195 + 4 ≤ _)⟩)
      dsimp only [Pt.U, Pt.locs, Pt.cells, Pt.slots] at X560 l560 y560 z560 st560 hQ560 Si560 hKv560 hKh560
      subst l560 y560 z560
      obtain ⟨tb560, tk560, rfl, N560q, K560, u560_0, u560_1, u560_2, u560_3⟩ := hQ560
      have N560 := Fr.app N522 N560q
      refine Goes.via st560 ?_
      obtain ⟨X560', SI560, hZ, hown⟩ := rebS SI522 sk563 X560 Si560 K560.1 hZ hown
      have Ks560 : KS Z own_KL T560.vm T560.heap := by rw [← hKv560, ← hKh560]; exact hK560
      have ne564 : b541 ≠ tb560 := own_ne_arr u560_0 (own_w hw 9 rfl) u560_3
      show Goes p e below _ (T560.setTop (mkF m 250 #[o0, o1, o2, o3, o4, vi (1 : Int32), vi q1, vi (0 : Int32), vi q2, o9, o10, o11, vi c0, vi c1, vi e0, vi e1, vr b455, vr b459, vr b464, vr b479, .unset, .unset] [(.ref b541), (.ref b526), (.ref b526)]))
      have f565 : Exa Z T560.heap b464 "java/lang/String" := ((f546.ext E541).keep K560)
      have f566 : Exa Z T560.heap b479 "com/example/map_rewriter/maprewriter/core/Symbol" := ((f550.ext E541).keep K560)
      have f567 : Exa Z T560.heap b487 "java/lang/String" := ((f552.ext E541).keep K560)
      have f568 : Exa Z T560.heap b526 "com/example/map_rewriter/maprewriter/core/Symbol" := ((A526.ext E541).keep K560)
      have ne569 : b464 ≠ tb560 := own_ne_arr f565 (own_w hw 9 rfl) u560_3
      have ne570 : b479 ≠ tb560 := own_ne_arr f566 (own_w hw 38 rfl) u560_3
      have ne571 : b487 ≠ tb560 := own_ne_arr f567 (own_w hw 9 rfl) u560_3
      have ne572 : b526 ≠ tb560 := own_ne_arr f568 (own_w hw 38 rfl) u560_3
      have Vf573 : Arv Z T560.heap tb560 tk560 .byte (own_n (0 : Int32) e0 e1) (own_v (0 : Int32) e0 e1) (.int 0) := (Arw.toArv u560_3 (by rw [own_na0]; decide) (fun i hi => absurd hi (Nat.not_lt_zero _)))
      have Vg573 : Arw Z T560.heap tb560 tk560 .byte 0 (fun i => .int (own_g (0 : Int32) e0 e1 i)) := Arw.ofArv Vf573 (by rw [own_na0]; decide) (fun i hi => by exact absurd hi (Nat.not_lt_zero _))
      refine gIL X560' hx hby at_250 rfl ?_
      have f574 : Fld Z T560.heap b526 "com/example/map_rewriter/maprewriter/core/Symbol" "content" "Ljava/lang/String;" .null := ((F_content_b526.ext E541).keep K560 (ninS ne556 nin0))
      have f575 : Fld Z T560.heap b526 "com/example/map_rewriter/maprewriter/core/Symbol" "quoted" "Z" (.int (0 : Int32)) := ((F_quoted_b526.ext E541).keep K560 (ninS ne556 nin0))
      have K576 : Keep h0 T560.heap [] := ((((K518.trans K522 (allS (Or.inr sz_b479) all0)).ext E526).ext E541).trans K560 (allS (Or.inr sz_b541) all0))
      have f577 : Sta Z T560.heap "java/lang/String" "COMPACT_STRINGS" "Z" (.int cS) := own_sta_keep OS K576
      have f578 : Sta Z T560.heap "jdk/internal/util/Preconditions" "SIOOBE_FORMATTER" "Ljava/util/function/BiFunction;" fo := own_sta_keep OF K576
      have ol579 : Old Z n0 (T560.heap) := (ol559.keep K560 (allS gn_b541 all0))
      have z581 : h0.size ≤ (T560.heap).size := (Nat.le_trans z561 K560.1)
      obtain ⟨_, _, ⟨T580, L580, k580, n580⟩, -, ⟨X580, Si580⟩, ⟨Lc580, ⟨hQ580, tK580, hK580, hKv580, hKh580⟩, l580, y580, z580⟩, st580⟩ := own_specialW X560' hx (y := (⟨"com/example/map_rewriter/maprewriter/core/Symbol", "<init>", "(Ljava/lang/String;Z)V"⟩ : MethodName)) rfl hown (mvT hZ (own_w hw 40 rfl)) (mvT hZ (own_w hw 41 rfl)) (mvT hZ (own_w hw 42 rfl)) (by decide) (own_backOfW (W := 1) (K := (fun U_ => KS Z own_KL U_.vm U_.heap)) (KP := (fun U_ => KS Z own_KL U_.vm U_.heap)) (rm9 l Z a0 hw [] b526 b541 q2 tb560 tk560 0 (own_g (0 : Int32) e0 e1) (0 : Int32) cS fo T560.heap n0 (Nat.le_trans Z0 z581) f568 f574 f575 gn_b526 u560_0 u560_1 u560_2 Vg573 (by decide) f577 H_cs f578 Hfo (hk1 0 (by decide)) ol579 HW HC0 HC1 HC2) hZ (own_w hw 42 rfl) (own_w hw 39 rfl) (by decide) (by decide) (fun V_ hV hVh => by show KS Z own_KL V_.vm V_.heap; rw [hVh]; exact Ks560.at_ (s := s) hV)) (g := (mkF m 252 #[o0, o1, o2, o3, o4, vi (1 : Int32), vi q1, vi (0 : Int32), vi q2, o9, o10, o11, vi c0, vi c1, vi e0, vi e1, vr b455, vr b459, vr b464, vr b479, .unset, .unset] [(.int q2), (.ref b541), (.ref b526), (.ref b526)])) rfl (by rw [hml]; rfl) (a := b526) (argsL := [(.ref b541), (.int q2)]) (rest := [(.ref b526)]) (lenOf pd_18 rfl) rfl (by show 2 * 0 + _ ≤ _; exact Nat.le_of_eq rfl) (hb hby at_252) (fun _ _ => ⟨rfl, rfl, (by decide : 17 + 6 ≤ _), (by decide : 199 + 176 ≤ _)⟩)
      dsimp only [Pt.U, Pt.locs, Pt.cells, Pt.slots] at X580 l580 y580 z580 st580 hQ580 Si580 hKv580 hKh580
      subst l580 y580 z580
      obtain ⟨rfl, N580q, K580, u580_0, u580_1⟩ := hQ580
      have N580 := Fr.app N560 N580q
      refine Goes.via st580 ?_
      obtain ⟨X580', SI580, hZ, hown⟩ := rebS SI560 (Nat.le_refl _) X580 Si580 K580.1 hZ hown
      have Ks580 : KS Z own_KL T580.vm T580.heap := by rw [← hKv580, ← hKh580]; exact hK580
      show Goes p e below _ (T580.setTop (mkF m 255 #[o0, o1, o2, o3, o4, vi (1 : Int32), vi q1, vi (0 : Int32), vi q2, o9, o10, o11, vi c0, vi c1, vi e0, vi e1, vr b455, vr b459, vr b464, vr b479, .unset, .unset] [(.ref b526)]))
      refine Goes.via (fun _ kk_ => XS.astore X580'.here hx rfl (hb hby at_255) rfl rfl (l' := #[o0, o1, o2, o3, o4, vi (1 : Int32), vi q1, vi (0 : Int32), vi q2, o9, o10, o11, vi c0, vi c1, vi e0, vi e1, vr b455, vr b459, vr b464, vr b479, vr b526, .unset]) rfl kk_) ?_
      show Goes p e below _ (T580.setTop (mkF m 257 #[o0, o1, o2, o3, o4, vi (1 : Int32), vi q1, vi (0 : Int32), vi q2, o9, o10, o11, vi c0, vi c1, vi e0, vi e1, vr b455, vr b459, vr b464, vr b479, vr b526, .unset] []))
      have K582 : Keep h0 T580.heap [] := (K576.trans K580 (allS (Or.inr sz_b526) all0))
      have f583 : Exa Z T580.heap b479 "com/example/map_rewriter/maprewriter/core/Symbol" := (f566.keep K580)
      have f584 : Fld Z T580.heap b479 "com/example/map_rewriter/maprewriter/core/Symbol" "content" "Ljava/lang/String;" (.ref b487) := ((((u522_1.ext E526).ext E541).keep K560 (ninS ne551 nin0)).keep K580 (ninS ne535 nin0))
      have f585 : Exa Z T580.heap b487 "java/lang/String" := (f567.keep K580)
      have f586 : Fld Z T580.heap b487 "java/lang/String" "coder" "B" (.int (0 : Int32)) := (((((uC498.keep K522 (ninS (Ne.symm ne496) nin0)).ext E526).ext E541).keep K560 (ninS ne553 nin0)).keep K580 (ninS ne537 nin0))
      have f587 : Fld Z T580.heap b487 "java/lang/String" "value" "[B" (.ref sb498) := (((((uV498.keep K522 (ninS (Ne.symm ne496) nin0)).ext E526).ext E541).keep K560 (ninS ne553 nin0)).keep K580 (ninS ne537 nin0))
      have f588 : Arv Z T580.heap sb498 kb498 .byte (own_n (1 : Int32) c0 c1) (own_v (1 : Int32) c0 c1) (.int 0) := (((f554.ext E541).keep K560 (ninS ne555 nin0)).keep K580 (ninS ne539 nin0))
      have f589 : Exa Z T580.heap b541 "java/lang/String" := (u560_0.keep K580)
      have f590 : Fld Z T580.heap b541 "java/lang/String" "coder" "B" (.int (0 : Int32)) := (u560_1.keep K580 (ninS (Ne.symm ne556) nin0))
      have f591 : Fld Z T580.heap b541 "java/lang/String" "value" "[B" (.ref tb560) := (u560_2.keep K580 (ninS (Ne.symm ne556) nin0))
      have f592 : Arv Z T580.heap tb560 tk560 .byte (own_n (0 : Int32) e0 e1) (own_v (0 : Int32) e0 e1) (.int 0) := (Vf573.keep K580 (ninS (Ne.symm ne572) nin0))
      have f593 : Exa Z T580.heap b464 "java/lang/String" := (f565.keep K580)
      exact J257 b455 b459 b464 b479 b526 b487 b541 sb498 tb560 kb498 tk560 _ _ _ _ (X580'.more (by decide) (by decide)) SI580 (Nat.le_refl _) hZ hown Ks580 N580 K582 f583 f584 u580_0 u580_1 f585 f586 f587 f588 f589 f590 f591 f592 f593
    · subst hz
      show Goes p e below _ (T457.setTop (mkF m 176 #[o0, o1, o2, o3, o4, vi (1 : Int32), vi q1, vi (1 : Int32), vi q2, o9, o10, o11, vi c0, vi c1, vi e0, vi e1, vr b455, .unset, .unset, .unset, .unset, .unset] []))
      refine gIL X457 hx hby at_176 rfl ?_
      obtain ⟨T594, h594, k594, X594, e594, E594, A594, st594⟩ := own_newP X457 hx hZ (own_w hw 7 rfl) e457 (g := (mkF m 178 #[o0, o1, o2, o3, o4, vi (1 : Int32), vi q1, vi (1 : Int32), vi q2, o9, o10, o11, vi c0, vi c1, vi e0, vi e1, vr b455, .unset, .unset, .unset, .unset, .unset] [(.int (1 : Int32))])) rfl (hb hby at_178) rfl (n := (1 : Int32)) (N := 1) (by decide) (by decide) (cap := 1) (by first | decide | omega | (dsimp only; omega)) (by first | decide | omega | (dsimp only; omega)) (by first | decide | omega | (dsimp only; omega)) (by first | decide | omega | (dsimp only; omega))
      obtain ⟨b594, g594⟩ : ∃ z, z = (h457).size := ⟨_, rfl⟩
      rw [← g594] at A594 st594
      have lne595 : b455 < b594 := Nat.lt_of_lt_of_le A457.lt (Nat.le_of_eq g594.symm)
      have ne595 : b455 ≠ b594 := Nat.ne_of_lt lne595
      have z596 : h0.size ≤ (h457).size := (Nat.le_trans (Nat.le_trans (Nat.le_refl _) E455.1) (Nat.le_of_eq W457.size.symm))
      have sz_b594 : h0.size ≤ b594 := Nat.le_trans z596 (Nat.le_of_eq g594.symm)
      have gn_b594 : n0 ≤ b594 := Nat.le_trans Z0 sz_b594
      refine Goes.via st594 ?_
      show Goes p e below _ (T594.setTop (mkF m 180 #[o0, o1, o2, o3, o4, vi (1 : Int32), vi q1, vi (1 : Int32), vi q2, o9, o10, o11, vi c0, vi c1, vi e0, vi e1, vr b455, .unset, .unset, .unset, .unset, .unset] [(.ref b594)]))
      refine Goes.via (fun _ kk_ => XS.astore X594.here hx rfl (hb hby at_180) rfl rfl (l' := #[o0, o1, o2, o3, o4, vi (1 : Int32), vi q1, vi (1 : Int32), vi q2, o9, o10, o11, vi c0, vi c1, vi e0, vi e1, vr b455, vr b594, .unset, .unset, .unset, .unset]) rfl kk_) ?_
      show Goes p e below _ (T594.setTop (mkF m 182 #[o0, o1, o2, o3, o4, vi (1 : Int32), vi q1, vi (1 : Int32), vi q2, o9, o10, o11, vi c0, vi c1, vi e0, vi e1, vr b455, vr b594, .unset, .unset, .unset, .unset] []))
      refine gIL X594 hx hby at_182 rfl ?_
      refine gIC (z := 1) X594 hx hby at_184 rfl ?_
      have hc185_597 : ¬ ((1 : Int32) < (1 : Int32)) := (by decide)
      refine Goes.via (fun _ kk_ => XS.icmpNo X594.here hx rfl (hb hby at_185) rfl (flt hc185_597).1 kk_) ?_
      show Goes p e below _ (T594.setTop (mkF m 188 #[o0, o1, o2, o3, o4, vi (1 : Int32), vi q1, vi (1 : Int32), vi q2, o9, o10, o11, vi c0, vi c1, vi e0, vi e1, vr b455, vr b594, .unset, .unset, .unset, .unset] []))
      refine gAL X594 hx hby at_188 rfl rfl ?_
      refine gIC (z := 0) X594 hx hby at_190 rfl ?_
      refine gIL X594 hx hby at_191 rfl ?_
      obtain ⟨T598, h598, X598, e598, W598, A598, st598⟩ := own_castore X594 hx hZ e594 A594 (j := (0 : Int32)) (i := 0) (by decide) (by decide) (by first | decide | omega | (dsimp only; omega)) (g := (mkF m 193 #[o0, o1, o2, o3, o4, vi (1 : Int32), vi q1, vi (1 : Int32), vi q2, o9, o10, o11, vi c0, vi c1, vi e0, vi e1, vr b455, vr b594, .unset, .unset, .unset, .unset] [(.int e0), (.int (0 : Int32)), (.ref b594)])) rfl rfl (hb hby at_193)
      refine Goes.via st598 ?_
      have N598 := Fr.snoc X598 N457 gn_b594
      show Goes p e below _ (T598.setTop (mkF m 194 #[o0, o1, o2, o3, o4, vi (1 : Int32), vi q1, vi (1 : Int32), vi q2, o9, o10, o11, vi c0, vi c1, vi e0, vi e1, vr b455, vr b594, .unset, .unset, .unset, .unset] []))
      refine gIL X598 hx hby at_194 rfl ?_
      refine gIC (z := 2) X598 hx hby at_196 rfl ?_
      have hc197_599 : ¬ ((1 : Int32) = (2 : Int32)) := (by decide)
      refine Goes.via (fun _ kk_ => XS.icmpYes X598.here hx rfl (pc0 := 197) (pc' := 206) rfl (hb hby at_197) rfl (feq hc197_599).2 (by decide) (by decide) kk_) ?_
      show Goes p e below _ (T598.setTop (mkF m 206 #[o0, o1, o2, o3, o4, vi (1 : Int32), vi q1, vi (1 : Int32), vi q2, o9, o10, o11, vi c0, vi c1, vi e0, vi e1, vr b455, vr b594, .unset, .unset, .unset, .unset] []))
      obtain ⟨T600, h600, X600, e600, E600, A600, D600, -, st600⟩ := newO X598 hx hZ hown (own_w hw 8 rfl) (own_w hw 9 rfl) (own_w hw 10 rfl) e598 (g := (mkF m 206 #[o0, o1, o2, o3, o4, vi (1 : Int32), vi q1, vi (1 : Int32), vi q2, o9, o10, o11, vi c0, vi c1, vi e0, vi e1, vr b455, vr b594, .unset, .unset, .unset, .unset] [])) rfl (hb hby at_206) (by first | decide | omega | (dsimp only; omega)) (by first | decide | omega | (dsimp only; omega))
      obtain ⟨b600, g600⟩ : ∃ z, z = (h598).size := ⟨_, rfl⟩
      rw [← g600] at A600 D600 st600
      have f601 : Arw Z h598 b455 k455 .char 1 (own_upd (fun _ => (.int 0)) 0 (.int (nar .char c0))) := ((A457.ext E594).other W598 ne595)
      have lne602 : b455 < b600 := Nat.lt_of_lt_of_le f601.lt (Nat.le_of_eq g600.symm)
      have ne602 : b455 ≠ b600 := Nat.ne_of_lt lne602
      have lne603 : b594 < b600 := Nat.lt_of_lt_of_le A598.lt (Nat.le_of_eq g600.symm)
      have ne603 : b594 ≠ b600 := Nat.ne_of_lt lne603
      have z604 : h0.size ≤ (h598).size := (Nat.le_trans (Nat.le_trans z596 E594.1) (Nat.le_of_eq W598.size.symm))
      have sz_b600 : h0.size ≤ b600 := Nat.le_trans z604 (Nat.le_of_eq g600.symm)
      have gn_b600 : n0 ≤ b600 := Nat.le_trans Z0 sz_b600
      have F_coder_b600 : Fld Z h600 b600 "java/lang/String" "coder" "B" (.int (0 : Int32)) := D600 (Or.inr (own_w hw 34 rfl)) (ty := .byte) (by decide)
      have F_value_b600 : Fld Z h600 b600 "java/lang/String" "value" "[B" .null := D600 (Or.inr (own_w hw 36 rfl)) (ty := (.array .byte)) (by decide)
      refine Goes.via st600 ?_
      show Goes p e below _ (T600.setTop (mkF m 209 #[o0, o1, o2, o3, o4, vi (1 : Int32), vi q1, vi (1 : Int32), vi q2, o9, o10, o11, vi c0, vi c1, vi e0, vi e1, vr b455, vr b594, .unset, .unset, .unset, .unset] [(.ref b600)]))
      refine gDU X600 hx hby at_209 rfl ?_
      refine gAL X600 hx hby at_210 rfl rfl ?_
      have f606 : Arw Z h600 b455 k455 .char 1 (own_upd (fun _ => (.int 0)) 0 (.int (nar .char c0))) := (f601.ext E600)
      have Va605 : Arv Z h600 b455 k455 .char (1 : Int32) ([(nar .char c0)].map Value.int) (.int (0 : Int32)) := f606.toArv (by decide) (by intro i hi; match i, hi with | 0, _ => rfl)
      have K607 : Keep h0 h600 [] := ((((((Keep.refl h0 []).ext E455).wr W457 (Or.inr sz_b455)).ext E594).wr W598 (Or.inr sz_b594)).ext E600)
      have f608 : Sta Z h600 "java/lang/String" "COMPACT_STRINGS" "Z" (.int cS) := own_sta_keep OS K607
      have z609 : h0.size ≤ (h600).size := (Nat.le_trans z604 E600.1)
      have hws605 : ∀ d ∈ StrChars.Road.words, d.before a0 Z = true := fun d hd => hw d ((by decide +kernel : ∀ d ∈ StrChars.Road.words, d ∈ tables_1) d hd)
      have hlat605 : ∀ c ∈ [(nar .char c0)], ¬ c < 0 ∧ ¬ (255 : Int32) < c := (by intro x hx; have q := own_lat (n := (1 : Int32)) (c := c0) (d := c1) (mc0) (mc1) x; rw [own_cs1 _ _ (by decide) rfl] at q; exact q hx)
      obtain ⟨_, _, ⟨T605, L605, k605, n605⟩, -, X605, ⟨Lc605, hQ605, l605, y605, z605⟩, st605⟩ := X600.specialBack hx (y := (⟨"java/lang/String", "<init>", "([C)V"⟩ : MethodName)) rfl hown (mvT hZ (own_w hw 11 rfl)) (mvT hZ (own_w hw 12 rfl)) (mvT hZ (own_w hw 13 rfl)) (by decide) (StrChars.Road.backV (W := 1) hZ hws605 (kI := 4) (own_w hw 9 rfl) (cs := [(nar .char c0)]) (bs := [(nar .char c0)].map (fun c => c.toInt8.toInt32)) (n := 1) gn_b600 (Nat.le_trans Z0 z609) A600 F_value_b600 F_coder_b600 Va605 f608 H_cs rfl rfl (by decide) (by decide) hlat605 rfl (by decide) (by decide)) (g := (mkF m 212 #[o0, o1, o2, o3, o4, vi (1 : Int32), vi q1, vi (1 : Int32), vi q2, o9, o10, o11, vi c0, vi c1, vi e0, vi e1, vr b455, vr b594, .unset, .unset, .unset, .unset] [(.ref b455), (.ref b600), (.ref b600)])) rfl (by rw [hml]; rfl) (Steps.refl _) (a := b600) (argsL := [(.ref b455)]) (rest := [(.ref b600)]) (lenOf pd_17 rfl) rfl (by show 2 * 0 + _ ≤ _; exact Nat.le_of_eq rfl) (hb hby at_212) (fun _ _ => ⟨rfl, e600, (by first | decide | omega : 3 + 1 ≤ _), (by first | decide | omega : 6 + 1 ≤ _)⟩)
      dsimp only [Pt.U, Pt.locs, Pt.cells, Pt.slots] at X605 l605 y605 z605 st605 hQ605
      subst l605 y605 z605
      obtain ⟨rfl, N605q, K605, uE605, uC605, sb605, kb605, ug605, uz605, un605, uV605, uA605⟩ := hQ605
      have N605 := Fr.app N598 N605q
      have ne610 : b455 ≠ sb605 := Nat.ne_of_lt (Nat.lt_of_lt_of_le f606.lt uz605)
      have f611 : Arw Z h600 b594 k594 .char 1 (own_upd (fun _ => (.int 0)) 0 (.int (nar .char e0))) := (A598.ext E600)
      have ne612 : b594 ≠ sb605 := Nat.ne_of_lt (Nat.lt_of_lt_of_le f611.lt uz605)
      have ne613 : b600 ≠ sb605 := Nat.ne_of_lt (Nat.lt_of_lt_of_le A600.lt uz605)
      have sz_sb605 : h0.size ≤ sb605 := Nat.le_trans z609 uz605
      refine Goes.tr st605 ?_
      show Goes p e below _ (T605.setTop (mkF m 215 #[o0, o1, o2, o3, o4, vi (1 : Int32), vi q1, vi (1 : Int32), vi q2, o9, o10, o11, vi c0, vi c1, vi e0, vi e1, vr b455, vr b594, .unset, .unset, .unset, .unset] [(.ref b600)]))
      have Vf614 : Arv Z T605.heap sb605 kb605 .byte (own_n (1 : Int32) c0 c1) (own_v (1 : Int32) c0 c1) (.int 0) := (by unfold own_n own_v; rw [own_cs1 _ _ (by decide) rfl]; exact uA605)
      refine Goes.via (fun _ kk_ => XS.astore X605.here hx rfl (hb hby at_215) rfl rfl (l' := #[o0, o1, o2, o3, o4, vi (1 : Int32), vi q1, vi (1 : Int32), vi q2, o9, o10, o11, vi c0, vi c1, vi e0, vi e1, vr b455, vr b594, vr b600, .unset, .unset, .unset]) rfl kk_) ?_
      show Goes p e below _ (T605.setTop (mkF m 217 #[o0, o1, o2, o3, o4, vi (1 : Int32), vi q1, vi (1 : Int32), vi q2, o9, o10, o11, vi c0, vi c1, vi e0, vi e1, vr b455, vr b594, vr b600, .unset, .unset, .unset] []))
      obtain ⟨T615, h615, X615, e615, E615, A615, D615, -, st615⟩ := newO X605 hx hZ hown (own_w hw 37 rfl) (own_w hw 38 rfl) (own_w hw 39 rfl) rfl (g := (mkF m 217 #[o0, o1, o2, o3, o4, vi (1 : Int32), vi q1, vi (1 : Int32), vi q2, o9, o10, o11, vi c0, vi c1, vi e0, vi e1, vr b455, vr b594, vr b600, .unset, .unset, .unset] [])) rfl (hb hby at_217) (by first | decide | omega | (dsimp only; omega)) (by first | decide | omega | (dsimp only; omega))
      obtain ⟨b615, g615⟩ : ∃ z, z = (T605.heap).size := ⟨_, rfl⟩
      rw [← g615] at A615 D615 st615
      have f616 : Arw Z T605.heap b455 k455 .char 1 (own_upd (fun _ => (.int 0)) 0 (.int (nar .char c0))) := (f606.keep K605 (ninS ne602 nin0))
      have lne617 : b455 < b615 := Nat.lt_of_lt_of_le f616.lt (Nat.le_of_eq g615.symm)
      have ne617 : b455 ≠ b615 := Nat.ne_of_lt lne617
      have f618 : Arw Z T605.heap b594 k594 .char 1 (own_upd (fun _ => (.int 0)) 0 (.int (nar .char e0))) := (f611.keep K605 (ninS ne603 nin0))
      have lne619 : b594 < b615 := Nat.lt_of_lt_of_le f618.lt (Nat.le_of_eq g615.symm)
      have ne619 : b594 ≠ b615 := Nat.ne_of_lt lne619
      have lne620 : b600 < b615 := Nat.lt_of_lt_of_le uE605.lt (Nat.le_of_eq g615.symm)
      have ne620 : b600 ≠ b615 := Nat.ne_of_lt lne620
      have lne621 : sb605 < b615 := Nat.lt_of_lt_of_le Vf614.lt (Nat.le_of_eq g615.symm)
      have ne621 : sb605 ≠ b615 := Nat.ne_of_lt lne621
      have z622 : h0.size ≤ (T605.heap).size := (Nat.le_trans z609 K605.1)
      have sz_b615 : h0.size ≤ b615 := Nat.le_trans z622 (Nat.le_of_eq g615.symm)
      have gn_b615 : n0 ≤ b615 := Nat.le_trans Z0 sz_b615
      have F_content_b615 : Fld Z h615 b615 "com/example/map_rewriter/maprewriter/core/Symbol" "content" "Ljava/lang/String;" .null := D615 (Or.inr (own_w hw 98 rfl)) (ty := (.object "java/lang/String")) (by decide)
      have F_quoted_b615 : Fld Z h615 b615 "com/example/map_rewriter/maprewriter/core/Symbol" "quoted" "Z" (.int (0 : Int32)) := D615 (Or.inr (own_w hw 100 rfl)) (ty := .boolean) (by decide)
      refine Goes.via st615 ?_
      show Goes p e below _ (T615.setTop (mkF m 220 #[o0, o1, o2, o3, o4, vi (1 : Int32), vi q1, vi (1 : Int32), vi q2, o9, o10, o11, vi c0, vi c1, vi e0, vi e1, vr b455, vr b594, vr b600, .unset, .unset, .unset] [(.ref b615)]))
      refine gDU X615 hx hby at_220 rfl ?_
      obtain ⟨T623, h623, X623, e623, E623, A623, D623, -, st623⟩ := newO X615 hx hZ hown (own_w hw 8 rfl) (own_w hw 9 rfl) (own_w hw 10 rfl) e615 (g := (mkF m 221 #[o0, o1, o2, o3, o4, vi (1 : Int32), vi q1, vi (1 : Int32), vi q2, o9, o10, o11, vi c0, vi c1, vi e0, vi e1, vr b455, vr b594, vr b600, .unset, .unset, .unset] [(.ref b615), (.ref b615)])) rfl (hb hby at_221) (by first | decide | omega | (dsimp only; omega)) (by first | decide | omega | (dsimp only; omega))
      obtain ⟨b623, g623⟩ : ∃ z, z = (h615).size := ⟨_, rfl⟩
      rw [← g623] at A623 D623 st623
      have f624 : Arw Z h615 b455 k455 .char 1 (own_upd (fun _ => (.int 0)) 0 (.int (nar .char c0))) := (f616.ext E615)
      have lne625 : b455 < b623 := Nat.lt_of_lt_of_le f624.lt (Nat.le_of_eq g623.symm)
      have ne625 : b455 ≠ b623 := Nat.ne_of_lt lne625
      have f626 : Arw Z h615 b594 k594 .char 1 (own_upd (fun _ => (.int 0)) 0 (.int (nar .char e0))) := (f618.ext E615)
      have lne627 : b594 < b623 := Nat.lt_of_lt_of_le f626.lt (Nat.le_of_eq g623.symm)
      have ne627 : b594 ≠ b623 := Nat.ne_of_lt lne627
      have f628 : Exa Z h615 b600 "java/lang/String" := (uE605.ext E615)
      have lne629 : b600 < b623 := Nat.lt_of_lt_of_le f628.lt (Nat.le_of_eq g623.symm)
      have ne629 : b600 ≠ b623 := Nat.ne_of_lt lne629
      have f630 : Arv Z h615 sb605 kb605 .byte (own_n (1 : Int32) c0 c1) (own_v (1 : Int32) c0 c1) (.int 0) := (Vf614.ext E615)
      have lne631 : sb605 < b623 := Nat.lt_of_lt_of_le f630.lt (Nat.le_of_eq g623.symm)
      have ne631 : sb605 ≠ b623 := Nat.ne_of_lt lne631
      have lne632 : b615 < b623 := Nat.lt_of_lt_of_le A615.lt (Nat.le_of_eq g623.symm)
      have ne632 : b615 ≠ b623 := Nat.ne_of_lt lne632
      have z633 : h0.size ≤ (h615).size := (Nat.le_trans z622 E615.1)
      have sz_b623 : h0.size ≤ b623 := Nat.le_trans z633 (Nat.le_of_eq g623.symm)
      have gn_b623 : n0 ≤ b623 := Nat.le_trans Z0 sz_b623
      have F_coder_b623 : Fld Z h623 b623 "java/lang/String" "coder" "B" (.int (0 : Int32)) := D623 (Or.inr (own_w hw 34 rfl)) (ty := .byte) (by decide)
      have F_value_b623 : Fld Z h623 b623 "java/lang/String" "value" "[B" .null := D623 (Or.inr (own_w hw 36 rfl)) (ty := (.array .byte)) (by decide)
      refine Goes.via st623 ?_
      show Goes p e below _ (T623.setTop (mkF m 224 #[o0, o1, o2, o3, o4, vi (1 : Int32), vi q1, vi (1 : Int32), vi q2, o9, o10, o11, vi c0, vi c1, vi e0, vi e1, vr b455, vr b594, vr b600, .unset, .unset, .unset] [(.ref b623), (.ref b615), (.ref b615)]))
      refine gDU X623 hx hby at_224 rfl ?_
      refine gAL X623 hx hby at_225 rfl rfl ?_
      have f635 : Arw Z h623 b455 k455 .char 1 (own_upd (fun _ => (.int 0)) 0 (.int (nar .char c0))) := (f624.ext E623)
      have Va634 : Arv Z h623 b455 k455 .char (1 : Int32) ([(nar .char c0)].map Value.int) (.int (0 : Int32)) := f635.toArv (by decide) (by intro i hi; match i, hi with | 0, _ => rfl)
      have K636 : Keep h0 h623 [] := (((K607.trans K605 (allS (Or.inr sz_b600) all0)).ext E615).ext E623)
      have f637 : Sta Z h623 "java/lang/String" "COMPACT_STRINGS" "Z" (.int cS) := own_sta_keep OS K636
      have z638 : h0.size ≤ (h623).size := (Nat.le_trans z633 E623.1)
      have hws634 : ∀ d ∈ StrChars.Road.words, d.before a0 Z = true := fun d hd => hw d ((by decide +kernel : ∀ d ∈ StrChars.Road.words, d ∈ tables_1) d hd)
      have hlat634 : ∀ c ∈ [(nar .char c0)], ¬ c < 0 ∧ ¬ (255 : Int32) < c := (by intro x hx; have q := own_lat (n := (1 : Int32)) (c := c0) (d := c1) (mc0) (mc1) x; rw [own_cs1 _ _ (by decide) rfl] at q; exact q hx)
      obtain ⟨_, _, ⟨T634, L634, k634, n634⟩, -, X634, ⟨Lc634, hQ634, l634, y634, z634⟩, st634⟩ := X623.specialBack hx (y := (⟨"java/lang/String", "<init>", "([C)V"⟩ : MethodName)) rfl hown (mvT hZ (own_w hw 11 rfl)) (mvT hZ (own_w hw 12 rfl)) (mvT hZ (own_w hw 13 rfl)) (by decide) (StrChars.Road.backV (W := 3) hZ hws634 (kI := 4) (own_w hw 9 rfl) (cs := [(nar .char c0)]) (bs := [(nar .char c0)].map (fun c => c.toInt8.toInt32)) (n := 1) gn_b623 (Nat.le_trans Z0 z638) A623 F_value_b623 F_coder_b623 Va634 f637 H_cs rfl rfl (by decide) (by decide) hlat634 rfl (by decide) (by decide)) (g := (mkF m 227 #[o0, o1, o2, o3, o4, vi (1 : Int32), vi q1, vi (1 : Int32), vi q2, o9, o10, o11, vi c0, vi c1, vi e0, vi e1, vr b455, vr b594, vr b600, .unset, .unset, .unset] [(.ref b455), (.ref b623), (.ref b623), (.ref b615), (.ref b615)])) rfl (by rw [hml]; rfl) (Steps.refl _) (a := b623) (argsL := [(.ref b455)]) (rest := [(.ref b623), (.ref b615), (.ref b615)]) (lenOf pd_17 rfl) rfl (by show 2 * 0 + _ ≤ _; exact Nat.le_of_eq rfl) (hb hby at_227) (fun _ _ => ⟨rfl, e623, (by first | decide | omega : 6 + 1 ≤ _), (by first | decide | omega : 13 + 1 ≤ _)⟩)
      dsimp only [Pt.U, Pt.locs, Pt.cells, Pt.slots] at X634 l634 y634 z634 st634 hQ634
      subst l634 y634 z634
      obtain ⟨rfl, N634q, K634, uE634, uC634, sb634, kb634, ug634, uz634, un634, uV634, uA634⟩ := hQ634
      have N634 := Fr.app N605 N634q
      have ne639 : b455 ≠ sb634 := Nat.ne_of_lt (Nat.lt_of_lt_of_le f635.lt uz634)
      have f640 : Arw Z h623 b594 k594 .char 1 (own_upd (fun _ => (.int 0)) 0 (.int (nar .char e0))) := (f626.ext E623)
      have ne641 : b594 ≠ sb634 := Nat.ne_of_lt (Nat.lt_of_lt_of_le f640.lt uz634)
      have f642 : Exa Z h623 b600 "java/lang/String" := (f628.ext E623)
      have ne643 : b600 ≠ sb634 := Nat.ne_of_lt (Nat.lt_of_lt_of_le f642.lt uz634)
      have f644 : Arv Z h623 sb605 kb605 .byte (own_n (1 : Int32) c0 c1) (own_v (1 : Int32) c0 c1) (.int 0) := (f630.ext E623)
      have ne645 : sb605 ≠ sb634 := Nat.ne_of_lt (Nat.lt_of_lt_of_le f644.lt uz634)
      have f646 : Exa Z h623 b615 "com/example/map_rewriter/maprewriter/core/Symbol" := (A615.ext E623)
      have ne647 : b615 ≠ sb634 := Nat.ne_of_lt (Nat.lt_of_lt_of_le f646.lt uz634)
      have ne648 : b623 ≠ sb634 := Nat.ne_of_lt (Nat.lt_of_lt_of_le A623.lt uz634)
      have sz_sb634 : h0.size ≤ sb634 := Nat.le_trans z638 uz634
      refine Goes.tr st634 ?_
      show Goes p e below _ (T634.setTop (mkF m 230 #[o0, o1, o2, o3, o4, vi (1 : Int32), vi q1, vi (1 : Int32), vi q2, o9, o10, o11, vi c0, vi c1, vi e0, vi e1, vr b455, vr b594, vr b600, .unset, .unset, .unset] [(.ref b623), (.ref b615), (.ref b615)]))
      have f649 : Exa Z T634.heap b600 "java/lang/String" := (f642.keep K634)
      have f650 : Exa Z T634.heap b615 "com/example/map_rewriter/maprewriter/core/Symbol" := (f646.keep K634)
      have Vf651 : Arv Z T634.heap sb634 kb634 .byte (own_n (1 : Int32) c0 c1) (own_v (1 : Int32) c0 c1) (.int 0) := (by unfold own_n own_v; rw [own_cs1 _ _ (by decide) rfl]; exact uA634)
      have Vg651 : Arw Z T634.heap sb634 kb634 .byte 1 (fun i => .int (own_g (1 : Int32) c0 c1 i)) := Arw.ofArv Vf651 (by rw [own_na1]; decide) (fun i hi => by match i, hi with | 0, _ => rfl)
      refine gIL X634 hx hby at_230 rfl ?_
      have f652 : Fld Z T634.heap b615 "com/example/map_rewriter/maprewriter/core/Symbol" "content" "Ljava/lang/String;" .null := ((F_content_b615.ext E623).keep K634 (ninS ne632 nin0))
      have f653 : Fld Z T634.heap b615 "com/example/map_rewriter/maprewriter/core/Symbol" "quoted" "Z" (.int (0 : Int32)) := ((F_quoted_b615.ext E623).keep K634 (ninS ne632 nin0))
      have K654 : Keep h0 T634.heap [] := (K636.trans K634 (allS (Or.inr sz_b623) all0))
      have f655 : Sta Z T634.heap "java/lang/String" "COMPACT_STRINGS" "Z" (.int cS) := own_sta_keep OS K654
      have f656 : Sta Z T634.heap "jdk/internal/util/Preconditions" "SIOOBE_FORMATTER" "Ljava/util/function/BiFunction;" fo := own_sta_keep OF K654
      have ol657 : Old Z n0 (T634.heap) := (((((((((HO.ext E455).wr W457 gn_b455).ext E594).wr W598 gn_b594).ext E600).keep K605 (allS gn_b600 all0)).ext E615).ext E623).keep K634 (allS gn_b623 all0))
      have z659 : h0.size ≤ (T634.heap).size := (Nat.le_trans z638 K634.1)
      have Ks660 : KS Z own_KL s.vm (T634.heap) := (((((((((Ks0.ext E455).wr W457 (NoS.arr A455 (own_w hw 9 rfl) (by intro q; cases q))).ext E594).wr W598 (NoS.arr A594 (own_w hw 9 rfl) (by intro q; cases q))).ext E600).keep K605 (allS (NoS.str A600 (own_w hw 9 rfl) F_value_b600) all0)).ext E615).ext E623).keep K634 (allS (NoS.str A623 (own_w hw 9 rfl) F_value_b623) all0))
      have sk661 : _ ≤ (T634.heap).size := (Nat.le_trans (Nat.le_trans (Nat.le_trans (Nat.le_trans (Nat.le_trans (Nat.le_trans (Nat.le_trans (Nat.le_trans (Nat.le_trans (Nat.zero_le _) E455.1) (Nat.le_of_eq W457.size.symm)) E594.1) (Nat.le_of_eq W598.size.symm)) E600.1) K605.1) E615.1) E623.1) K634.1)
      obtain ⟨_, _, ⟨T658, L658, k658, n658⟩, -, ⟨X658, Si658⟩, ⟨Lc658, ⟨hQ658, tK658, hK658, hKv658, hKh658⟩, l658, y658, z658⟩, st658⟩ := own_specialW X634 hx (y := (⟨"com/example/map_rewriter/maprewriter/core/Symbol", "<init>", "(Ljava/lang/String;Z)V"⟩ : MethodName)) rfl hown (mvT hZ (own_w hw 40 rfl)) (mvT hZ (own_w hw 41 rfl)) (mvT hZ (own_w hw 42 rfl)) (by decide) (own_backOfW (W := 1) (K := (fun U_ => KS Z own_KL U_.vm U_.heap)) (KP := (fun U_ => KS Z own_KL U_.vm U_.heap)) (rm9 l Z a0 hw [] b615 b623 q1 sb634 kb634 1 (own_g (1 : Int32) c0 c1) (1 : Int32) cS fo T634.heap n0 (Nat.le_trans Z0 z659) f650 f652 f653 gn_b615 uE634 uC634 uV634 Vg651 (by decide) f655 H_cs f656 Hfo (hk0 1 (by decide)) ol657 HW HC0 HC1 HC2) hZ (own_w hw 42 rfl) (own_w hw 39 rfl) (by decide) (by decide) (fun V_ hV hVh => by show KS Z own_KL V_.vm V_.heap; rw [hVh]; exact Ks660.at_ (s := s) hV)) (g := (mkF m 232 #[o0, o1, o2, o3, o4, vi (1 : Int32), vi q1, vi (1 : Int32), vi q2, o9, o10, o11, vi c0, vi c1, vi e0, vi e1, vr b455, vr b594, vr b600, .unset, .unset, .unset] [(.int q1), (.ref b623), (.ref b615), (.ref b615)])) rfl (by rw [hml]; rfl) (a := b615) (argsL := [(.ref b623), (.int q1)]) (rest := [(.ref b615)]) (lenOf pd_18 rfl) rfl (by show 2 * 0 + _ ≤ _; exact Nat.le_of_eq rfl) (hb hby at_232) (fun _ _ => ⟨rfl, rfl, (by decide : 7 + 6 ≤ _), (by decide : 14 + 176 ≤ _)⟩)
      dsimp only [Pt.U, Pt.locs, Pt.cells, Pt.slots] at X658 l658 y658 z658 st658 hQ658 Si658 hKv658 hKh658
      subst l658 y658 z658
      obtain ⟨rfl, N658q, K658, u658_0, u658_1⟩ := hQ658
      have N658 := Fr.app N634 N658q
      refine Goes.via st658 ?_
      obtain ⟨X658', SI658, hZ, hown⟩ := rebS SI0 sk661 X658 Si658 K658.1 hZ hown
      have Ks658 : KS Z own_KL T658.vm T658.heap := by rw [← hKv658, ← hKh658]; exact hK658
      show Goes p e below _ (T658.setTop (mkF m 235 #[o0, o1, o2, o3, o4, vi (1 : Int32), vi q1, vi (1 : Int32), vi q2, o9, o10, o11, vi c0, vi c1, vi e0, vi e1, vr b455, vr b594, vr b600, .unset, .unset, .unset] [(.ref b615)]))
      refine Goes.via (fun _ kk_ => XS.astore X658'.here hx rfl (hb hby at_235) rfl rfl (l' := #[o0, o1, o2, o3, o4, vi (1 : Int32), vi q1, vi (1 : Int32), vi q2, o9, o10, o11, vi c0, vi c1, vi e0, vi e1, vr b455, vr b594, vr b600, vr b615, .unset, .unset]) rfl kk_) ?_
      show Goes p e below _ (T658.setTop (mkF m 237 #[o0, o1, o2, o3, o4, vi (1 : Int32), vi q1, vi (1 : Int32), vi q2, o9, o10, o11, vi c0, vi c1, vi e0, vi e1, vr b455, vr b594, vr b600, vr b615, .unset, .unset] []))
      obtain ⟨T662, h662, X662, e662, E662, A662, D662, -, st662⟩ := newO X658' hx hZ hown (own_w hw 37 rfl) (own_w hw 38 rfl) (own_w hw 39 rfl) rfl (g := (mkF m 237 #[o0, o1, o2, o3, o4, vi (1 : Int32), vi q1, vi (1 : Int32), vi q2, o9, o10, o11, vi c0, vi c1, vi e0, vi e1, vr b455, vr b594, vr b600, vr b615, .unset, .unset] [])) rfl (hb hby at_237) (by first | decide | omega | (dsimp only; omega)) (by first | decide | omega | (dsimp only; omega))
      obtain ⟨b662, g662⟩ : ∃ z, z = (T658.heap).size := ⟨_, rfl⟩
      rw [← g662] at A662 D662 st662
      have f663 : Arw Z T658.heap b455 k455 .char 1 (own_upd (fun _ => (.int 0)) 0 (.int (nar .char c0))) := ((f635.keep K634 (ninS ne625 nin0)).keep K658 (ninS ne617 nin0))
      have lne664 : b455 < b662 := Nat.lt_of_lt_of_le f663.lt (Nat.le_of_eq g662.symm)
      have ne664 : b455 ≠ b662 := Nat.ne_of_lt lne664
      have f665 : Arw Z T658.heap b594 k594 .char 1 (own_upd (fun _ => (.int 0)) 0 (.int (nar .char e0))) := ((f640.keep K634 (ninS ne627 nin0)).keep K658 (ninS ne619 nin0))
      have lne666 : b594 < b662 := Nat.lt_of_lt_of_le f665.lt (Nat.le_of_eq g662.symm)
      have ne666 : b594 ≠ b662 := Nat.ne_of_lt lne666
      have f667 : Exa Z T658.heap b600 "java/lang/String" := (f649.keep K658)
      have lne668 : b600 < b662 := Nat.lt_of_lt_of_le f667.lt (Nat.le_of_eq g662.symm)
      have ne668 : b600 ≠ b662 := Nat.ne_of_lt lne668
      have f669 : Arv Z T658.heap sb605 kb605 .byte (own_n (1 : Int32) c0 c1) (own_v (1 : Int32) c0 c1) (.int 0) := ((f644.keep K634 (ninS ne631 nin0)).keep K658 (ninS ne621 nin0))
      have lne670 : sb605 < b662 := Nat.lt_of_lt_of_le f669.lt (Nat.le_of_eq g662.symm)
      have ne670 : sb605 ≠ b662 := Nat.ne_of_lt lne670
      have lne671 : b615 < b662 := Nat.lt_of_lt_of_le u658_0.lt (Nat.le_of_eq g662.symm)
      have ne671 : b615 ≠ b662 := Nat.ne_of_lt lne671
      have f672 : Exa Z T658.heap b623 "java/lang/String" := (uE634.keep K658)
      have lne673 : b623 < b662 := Nat.lt_of_lt_of_le f672.lt (Nat.le_of_eq g662.symm)
      have ne673 : b623 ≠ b662 := Nat.ne_of_lt lne673
      have f674 : Arv Z T658.heap sb634 kb634 .byte (own_n (1 : Int32) c0 c1) (own_v (1 : Int32) c0 c1) (.int 0) := (Vf651.keep K658 (ninS (Ne.symm ne647) nin0))
      have lne675 : sb634 < b662 := Nat.lt_of_lt_of_le f674.lt (Nat.le_of_eq g662.symm)
      have ne675 : sb634 ≠ b662 := Nat.ne_of_lt lne675
      have z676 : h0.size ≤ (T658.heap).size := (Nat.le_trans z659 K658.1)
      have sz_b662 : h0.size ≤ b662 := Nat.le_trans z676 (Nat.le_of_eq g662.symm)
      have gn_b662 : n0 ≤ b662 := Nat.le_trans Z0 sz_b662
      have F_content_b662 : Fld Z h662 b662 "com/example/map_rewriter/maprewriter/core/Symbol" "content" "Ljava/lang/String;" .null := D662 (Or.inr (own_w hw 98 rfl)) (ty := (.object "java/lang/String")) (by decide)
      have F_quoted_b662 : Fld Z h662 b662 "com/example/map_rewriter/maprewriter/core/Symbol" "quoted" "Z" (.int (0 : Int32)) := D662 (Or.inr (own_w hw 100 rfl)) (ty := .boolean) (by decide)
      refine Goes.via st662 ?_
      show Goes p e below _ (T662.setTop (mkF m 240 #[o0, o1, o2, o3, o4, vi (1 : Int32), vi q1, vi (1 : Int32), vi q2, o9, o10, o11, vi c0, vi c1, vi e0, vi e1, vr b455, vr b594, vr b600, vr b615, .unset, .unset] [(.ref b662)]))
      refine gDU X662 hx hby at_240 rfl ?_
      obtain ⟨T677, h677, X677, e677, E677, A677, D677, -, st677⟩ := newO X662 hx hZ hown (own_w hw 8 rfl) (own_w hw 9 rfl) (own_w hw 10 rfl) e662 (g := (mkF m 241 #[o0, o1, o2, o3, o4, vi (1 : Int32), vi q1, vi (1 : Int32), vi q2, o9, o10, o11, vi c0, vi c1, vi e0, vi e1, vr b455, vr b594, vr b600, vr b615, .unset, .unset] [(.ref b662), (.ref b662)])) rfl (hb hby at_241) (by first | decide | omega | (dsimp only; omega)) (by first | decide | omega | (dsimp only; omega))
      obtain ⟨b677, g677⟩ : ∃ z, z = (h662).size := ⟨_, rfl⟩
      rw [← g677] at A677 D677 st677
      have f678 : Arw Z h662 b455 k455 .char 1 (own_upd (fun _ => (.int 0)) 0 (.int (nar .char c0))) := (f663.ext E662)
      have lne679 : b455 < b677 := Nat.lt_of_lt_of_le f678.lt (Nat.le_of_eq g677.symm)
      have ne679 : b455 ≠ b677 := Nat.ne_of_lt lne679
      have f680 : Arw Z h662 b594 k594 .char 1 (own_upd (fun _ => (.int 0)) 0 (.int (nar .char e0))) := (f665.ext E662)
      have lne681 : b594 < b677 := Nat.lt_of_lt_of_le f680.lt (Nat.le_of_eq g677.symm)
      have ne681 : b594 ≠ b677 := Nat.ne_of_lt lne681
      have f682 : Exa Z h662 b600 "java/lang/String" := (f667.ext E662)
      have lne683 : b600 < b677 := Nat.lt_of_lt_of_le f682.lt (Nat.le_of_eq g677.symm)
      have ne683 : b600 ≠ b677 := Nat.ne_of_lt lne683
      have f684 : Arv Z h662 sb605 kb605 .byte (own_n (1 : Int32) c0 c1) (own_v (1 : Int32) c0 c1) (.int 0) := (f669.ext E662)
      have lne685 : sb605 < b677 := Nat.lt_of_lt_of_le f684.lt (Nat.le_of_eq g677.symm)
      have ne685 : sb605 ≠ b677 := Nat.ne_of_lt lne685
      have f686 : Exa Z h662 b615 "com/example/map_rewriter/maprewriter/core/Symbol" := (u658_0.ext E662)
      have lne687 : b615 < b677 := Nat.lt_of_lt_of_le f686.lt (Nat.le_of_eq g677.symm)
      have ne687 : b615 ≠ b677 := Nat.ne_of_lt lne687
      have f688 : Exa Z h662 b623 "java/lang/String" := (f672.ext E662)
      have lne689 : b623 < b677 := Nat.lt_of_lt_of_le f688.lt (Nat.le_of_eq g677.symm)
      have ne689 : b623 ≠ b677 := Nat.ne_of_lt lne689
      have f690 : Arv Z h662 sb634 kb634 .byte (own_n (1 : Int32) c0 c1) (own_v (1 : Int32) c0 c1) (.int 0) := (f674.ext E662)
      have lne691 : sb634 < b677 := Nat.lt_of_lt_of_le f690.lt (Nat.le_of_eq g677.symm)
      have ne691 : sb634 ≠ b677 := Nat.ne_of_lt lne691
      have lne692 : b662 < b677 := Nat.lt_of_lt_of_le A662.lt (Nat.le_of_eq g677.symm)
      have ne692 : b662 ≠ b677 := Nat.ne_of_lt lne692
      have z693 : h0.size ≤ (h662).size := (Nat.le_trans z676 E662.1)
      have sz_b677 : h0.size ≤ b677 := Nat.le_trans z693 (Nat.le_of_eq g677.symm)
      have gn_b677 : n0 ≤ b677 := Nat.le_trans Z0 sz_b677
      have F_coder_b677 : Fld Z h677 b677 "java/lang/String" "coder" "B" (.int (0 : Int32)) := D677 (Or.inr (own_w hw 34 rfl)) (ty := .byte) (by decide)
      have F_value_b677 : Fld Z h677 b677 "java/lang/String" "value" "[B" .null := D677 (Or.inr (own_w hw 36 rfl)) (ty := (.array .byte)) (by decide)
      refine Goes.via st677 ?_
      show Goes p e below _ (T677.setTop (mkF m 244 #[o0, o1, o2, o3, o4, vi (1 : Int32), vi q1, vi (1 : Int32), vi q2, o9, o10, o11, vi c0, vi c1, vi e0, vi e1, vr b455, vr b594, vr b600, vr b615, .unset, .unset] [(.ref b677), (.ref b662), (.ref b662)]))
      refine gDU X677 hx hby at_244 rfl ?_
      refine gAL X677 hx hby at_245 rfl rfl ?_
      have f695 : Arw Z h677 b594 k594 .char 1 (own_upd (fun _ => (.int 0)) 0 (.int (nar .char e0))) := (f680.ext E677)
      have Va694 : Arv Z h677 b594 k594 .char (1 : Int32) ([(nar .char e0)].map Value.int) (.int (0 : Int32)) := f695.toArv (by decide) (by intro i hi; match i, hi with | 0, _ => rfl)
      have K696 : Keep h0 h677 [] := (((K654.trans K658 (allS (Or.inr sz_b615) all0)).ext E662).ext E677)
      have f697 : Sta Z h677 "java/lang/String" "COMPACT_STRINGS" "Z" (.int cS) := own_sta_keep OS K696
      have z698 : h0.size ≤ (h677).size := (Nat.le_trans z693 E677.1)
      have hws694 : ∀ d ∈ StrChars.Road.words, d.before a0 Z = true := fun d hd => hw d ((by decide +kernel : ∀ d ∈ StrChars.Road.words, d ∈ tables_1) d hd)
      have hlat694 : ∀ c ∈ [(nar .char e0)], ¬ c < 0 ∧ ¬ (255 : Int32) < c := (by intro x hx; have q := own_lat (n := (1 : Int32)) (c := e0) (d := e1) (me0) (me1) x; rw [own_cs1 _ _ (by decide) rfl] at q; exact q hx)
      obtain ⟨_, _, ⟨T694, L694, k694, n694⟩, -, X694, ⟨Lc694, hQ694, l694, y694, z694⟩, st694⟩ := X677.specialBack hx (y := (⟨"java/lang/String", "<init>", "([C)V"⟩ : MethodName)) rfl hown (mvT hZ (own_w hw 11 rfl)) (mvT hZ (own_w hw 12 rfl)) (mvT hZ (own_w hw 13 rfl)) (by decide) (StrChars.Road.backV (W := 3) hZ hws694 (kI := 4) (own_w hw 9 rfl) (cs := [(nar .char e0)]) (bs := [(nar .char e0)].map (fun c => c.toInt8.toInt32)) (n := 1) gn_b677 (Nat.le_trans Z0 z698) A677 F_value_b677 F_coder_b677 Va694 f697 H_cs rfl rfl (by decide) (by decide) hlat694 rfl (by decide) (by decide)) (g := (mkF m 247 #[o0, o1, o2, o3, o4, vi (1 : Int32), vi q1, vi (1 : Int32), vi q2, o9, o10, o11, vi c0, vi c1, vi e0, vi e1, vr b455, vr b594, vr b600, vr b615, .unset, .unset] [(.ref b594), (.ref b677), (.ref b677), (.ref b662), (.ref b662)])) rfl (by rw [hml]; rfl) (Steps.refl _) (a := b677) (argsL := [(.ref b594)]) (rest := [(.ref b677), (.ref b662), (.ref b662)]) (lenOf pd_17 rfl) rfl (by show 2 * 0 + _ ≤ _; exact Nat.le_of_eq rfl) (hb hby at_247) (fun _ _ => ⟨rfl, e677, (by first | decide | omega : 15 + 1 ≤ _), (by first | decide | omega : 196 + 1 ≤ _)⟩)
      dsimp only [Pt.U, Pt.locs, Pt.cells, Pt.slots] at X694 l694 y694 z694 st694 hQ694
      subst l694 y694 z694
      obtain ⟨rfl, N694q, K694, uE694, uC694, sb694, kb694, ug694, uz694, un694, uV694, uA694⟩ := hQ694
      have N694 := Fr.app N658 N694q
      have f699 : Arw Z h677 b455 k455 .char 1 (own_upd (fun _ => (.int 0)) 0 (.int (nar .char c0))) := (f678.ext E677)
      have ne700 : b455 ≠ sb694 := Nat.ne_of_lt (Nat.lt_of_lt_of_le f699.lt uz694)
      have ne701 : b594 ≠ sb694 := Nat.ne_of_lt (Nat.lt_of_lt_of_le f695.lt uz694)
      have f702 : Exa Z h677 b600 "java/lang/String" := (f682.ext E677)
      have ne703 : b600 ≠ sb694 := Nat.ne_of_lt (Nat.lt_of_lt_of_le f702.lt uz694)
      have f704 : Arv Z h677 sb605 kb605 .byte (own_n (1 : Int32) c0 c1) (own_v (1 : Int32) c0 c1) (.int 0) := (f684.ext E677)
      have ne705 : sb605 ≠ sb694 := Nat.ne_of_lt (Nat.lt_of_lt_of_le f704.lt uz694)
      have f706 : Exa Z h677 b615 "com/example/map_rewriter/maprewriter/core/Symbol" := (f686.ext E677)
      have ne707 : b615 ≠ sb694 := Nat.ne_of_lt (Nat.lt_of_lt_of_le f706.lt uz694)
      have f708 : Exa Z h677 b623 "java/lang/String" := (f688.ext E677)
      have ne709 : b623 ≠ sb694 := Nat.ne_of_lt (Nat.lt_of_lt_of_le f708.lt uz694)
      have f710 : Arv Z h677 sb634 kb634 .byte (own_n (1 : Int32) c0 c1) (own_v (1 : Int32) c0 c1) (.int 0) := (f690.ext E677)
      have ne711 : sb634 ≠ sb694 := Nat.ne_of_lt (Nat.lt_of_lt_of_le f710.lt uz694)
      have f712 : Exa Z h677 b662 "com/example/map_rewriter/maprewriter/core/Symbol" := (A662.ext E677)
      have ne713 : b662 ≠ sb694 := Nat.ne_of_lt (Nat.lt_of_lt_of_le f712.lt uz694)
      have ne714 : b677 ≠ sb694 := Nat.ne_of_lt (Nat.lt_of_lt_of_le A677.lt uz694)
      have sz_sb694 : h0.size ≤ sb694 := Nat.le_trans z698 uz694
      refine Goes.tr st694 ?_
      show Goes p e below _ (T694.setTop (mkF m 250 #[o0, o1, o2, o3, o4, vi (1 : Int32), vi q1, vi (1 : Int32), vi q2, o9, o10, o11, vi c0, vi c1, vi e0, vi e1, vr b455, vr b594, vr b600, vr b615, .unset, .unset] [(.ref b677), (.ref b662), (.ref b662)]))
      have f715 : Exa Z T694.heap b600 "java/lang/String" := (f702.keep K694)
      have f716 : Exa Z T694.heap b615 "com/example/map_rewriter/maprewriter/core/Symbol" := (f706.keep K694)
      have f717 : Exa Z T694.heap b623 "java/lang/String" := (f708.keep K694)
      have f718 : Exa Z T694.heap b662 "com/example/map_rewriter/maprewriter/core/Symbol" := (f712.keep K694)
      have Vf719 : Arv Z T694.heap sb694 kb694 .byte (own_n (1 : Int32) e0 e1) (own_v (1 : Int32) e0 e1) (.int 0) := (by unfold own_n own_v; rw [own_cs1 _ _ (by decide) rfl]; exact uA694)
      have Vg719 : Arw Z T694.heap sb694 kb694 .byte 1 (fun i => .int (own_g (1 : Int32) e0 e1 i)) := Arw.ofArv Vf719 (by rw [own_na1]; decide) (fun i hi => by match i, hi with | 0, _ => rfl)
      refine gIL X694 hx hby at_250 rfl ?_
      have f720 : Fld Z T694.heap b662 "com/example/map_rewriter/maprewriter/core/Symbol" "content" "Ljava/lang/String;" .null := ((F_content_b662.ext E677).keep K694 (ninS ne692 nin0))
      have f721 : Fld Z T694.heap b662 "com/example/map_rewriter/maprewriter/core/Symbol" "quoted" "Z" (.int (0 : Int32)) := ((F_quoted_b662.ext E677).keep K694 (ninS ne692 nin0))
      have K722 : Keep h0 T694.heap [] := (K696.trans K694 (allS (Or.inr sz_b677) all0))
      have f723 : Sta Z T694.heap "java/lang/String" "COMPACT_STRINGS" "Z" (.int cS) := own_sta_keep OS K722
      have f724 : Sta Z T694.heap "jdk/internal/util/Preconditions" "SIOOBE_FORMATTER" "Ljava/util/function/BiFunction;" fo := own_sta_keep OF K722
      have ol725 : Old Z n0 (T694.heap) := ((((ol657.keep K658 (allS gn_b615 all0)).ext E662).ext E677).keep K694 (allS gn_b677 all0))
      have z727 : h0.size ≤ (T694.heap).size := (Nat.le_trans z698 K694.1)
      have Ks728 : KS Z own_KL T658.vm (T694.heap) := (((Ks658.ext E662).ext E677).keep K694 (allS (NoS.str A677 (own_w hw 9 rfl) F_value_b677) all0))
      have sk729 : _ ≤ (T694.heap).size := (Nat.le_trans (Nat.le_trans (Nat.le_trans (Nat.le_refl _) E662.1) E677.1) K694.1)
      obtain ⟨_, _, ⟨T726, L726, k726, n726⟩, -, ⟨X726, Si726⟩, ⟨Lc726, ⟨hQ726, tK726, hK726, hKv726, hKh726⟩, l726, y726, z726⟩, st726⟩ := own_specialW X694 hx (y := (⟨"com/example/map_rewriter/maprewriter/core/Symbol", "<init>", "(Ljava/lang/String;Z)V"⟩ : MethodName)) rfl hown (mvT hZ (own_w hw 40 rfl)) (mvT hZ (own_w hw 41 rfl)) (mvT hZ (own_w hw 42 rfl)) (by decide) (own_backOfW (W := 1) (K := (fun U_ => KS Z own_KL U_.vm U_.heap)) (KP := (fun U_ => KS Z own_KL U_.vm U_.heap)) (rm9 l Z a0 hw [] b662 b677 q2 sb694 kb694 1 (own_g (1 : Int32) e0 e1) (1 : Int32) cS fo T694.heap n0 (Nat.le_trans Z0 z727) f718 f720 f721 gn_b662 uE694 uC694 uV694 Vg719 (by decide) f723 H_cs f724 Hfo (hk1 1 (by decide)) ol725 HW HC0 HC1 HC2) hZ (own_w hw 42 rfl) (own_w hw 39 rfl) (by decide) (by decide) (fun V_ hV hVh => by show KS Z own_KL V_.vm V_.heap; rw [hVh]; exact Ks728.at_ (s := s) hV)) (g := (mkF m 252 #[o0, o1, o2, o3, o4, vi (1 : Int32), vi q1, vi (1 : Int32), vi q2, o9, o10, o11, vi c0, vi c1, vi e0, vi e1, vr b455, vr b594, vr b600, vr b615, .unset, .unset] [(.int q2), (.ref b677), (.ref b662), (.ref b662)])) rfl (by rw [hml]; rfl) (a := b662) (argsL := [(.ref b677), (.int q2)]) (rest := [(.ref b662)]) (lenOf pd_18 rfl) rfl (by show 2 * 0 + _ ≤ _; exact Nat.le_of_eq rfl) (hb hby at_252) (fun _ _ => ⟨rfl, rfl, (by decide : 16 + 6 ≤ _), (by decide : 197 + 176 ≤ _)⟩)
      dsimp only [Pt.U, Pt.locs, Pt.cells, Pt.slots] at X726 l726 y726 z726 st726 hQ726 Si726 hKv726 hKh726
      subst l726 y726 z726
      obtain ⟨rfl, N726q, K726, u726_0, u726_1⟩ := hQ726
      have N726 := Fr.app N694 N726q
      refine Goes.via st726 ?_
      obtain ⟨X726', SI726, hZ, hown⟩ := rebS SI658 sk729 X726 Si726 K726.1 hZ hown
      have Ks726 : KS Z own_KL T726.vm T726.heap := by rw [← hKv726, ← hKh726]; exact hK726
      show Goes p e below _ (T726.setTop (mkF m 255 #[o0, o1, o2, o3, o4, vi (1 : Int32), vi q1, vi (1 : Int32), vi q2, o9, o10, o11, vi c0, vi c1, vi e0, vi e1, vr b455, vr b594, vr b600, vr b615, .unset, .unset] [(.ref b662)]))
      refine Goes.via (fun _ kk_ => XS.astore X726'.here hx rfl (hb hby at_255) rfl rfl (l' := #[o0, o1, o2, o3, o4, vi (1 : Int32), vi q1, vi (1 : Int32), vi q2, o9, o10, o11, vi c0, vi c1, vi e0, vi e1, vr b455, vr b594, vr b600, vr b615, vr b662, .unset]) rfl kk_) ?_
      show Goes p e below _ (T726.setTop (mkF m 257 #[o0, o1, o2, o3, o4, vi (1 : Int32), vi q1, vi (1 : Int32), vi q2, o9, o10, o11, vi c0, vi c1, vi e0, vi e1, vr b455, vr b594, vr b600, vr b615, vr b662, .unset] []))
      have K730 : Keep h0 T726.heap [] := (K722.trans K726 (allS (Or.inr sz_b662) all0))
      have f731 : Exa Z T726.heap b615 "com/example/map_rewriter/maprewriter/core/Symbol" := (f716.keep K726)
      have f732 : Fld Z T726.heap b615 "com/example/map_rewriter/maprewriter/core/Symbol" "content" "Ljava/lang/String;" (.ref b623) := ((((u658_1.ext E662).ext E677).keep K694 (ninS ne687 nin0)).keep K726 (ninS ne671 nin0))
      have f733 : Exa Z T726.heap b623 "java/lang/String" := (f717.keep K726)
      have f734 : Fld Z T726.heap b623 "java/lang/String" "coder" "B" (.int (0 : Int32)) := (((((uC634.keep K658 (ninS (Ne.symm ne632) nin0)).ext E662).ext E677).keep K694 (ninS ne689 nin0)).keep K726 (ninS ne673 nin0))
      have f735 : Fld Z T726.heap b623 "java/lang/String" "value" "[B" (.ref sb634) := (((((uV634.keep K658 (ninS (Ne.symm ne632) nin0)).ext E662).ext E677).keep K694 (ninS ne689 nin0)).keep K726 (ninS ne673 nin0))
      have f736 : Arv Z T726.heap sb634 kb634 .byte (own_n (1 : Int32) c0 c1) (own_v (1 : Int32) c0 c1) (.int 0) := ((f710.keep K694 (ninS ne691 nin0)).keep K726 (ninS ne675 nin0))
      have f737 : Exa Z T726.heap b677 "java/lang/String" := (uE694.keep K726)
      have f738 : Fld Z T726.heap b677 "java/lang/String" "coder" "B" (.int (0 : Int32)) := (uC694.keep K726 (ninS (Ne.symm ne692) nin0))
      have f739 : Fld Z T726.heap b677 "java/lang/String" "value" "[B" (.ref sb694) := (uV694.keep K726 (ninS (Ne.symm ne692) nin0))
      have f740 : Arv Z T726.heap sb694 kb694 .byte (own_n (1 : Int32) e0 e1) (own_v (1 : Int32) e0 e1) (.int 0) := (Vf719.keep K726 (ninS (Ne.symm ne713) nin0))
      have f741 : Exa Z T726.heap b600 "java/lang/String" := (f715.keep K726)
      exact J257 b455 b594 b600 b615 b662 b623 b677 sb634 sb694 kb634 kb694 _ _ _ _ (X726'.more (by decide) (by decide)) SI726 (Nat.le_refl _) hZ hown Ks726 N726 K730 f731 f732 u726_0 u726_1 f733 f734 f735 f736 f737 f738 f739 f740 f741
    · subst hz
      show Goes p e below _ (T457.setTop (mkF m 176 #[o0, o1, o2, o3, o4, vi (1 : Int32), vi q1, vi (2 : Int32), vi q2, o9, o10, o11, vi c0, vi c1, vi e0, vi e1, vr b455, .unset, .unset, .unset, .unset, .unset] []))
      refine gIL X457 hx hby at_176 rfl ?_
      obtain ⟨T742, h742, k742, X742, e742, E742, A742, st742⟩ := own_newP X457 hx hZ (own_w hw 7 rfl) e457 (g := (mkF m 178 #[o0, o1, o2, o3, o4, vi (1 : Int32), vi q1, vi (2 : Int32), vi q2, o9, o10, o11, vi c0, vi c1, vi e0, vi e1, vr b455, .unset, .unset, .unset, .unset, .unset] [(.int (2 : Int32))])) rfl (hb hby at_178) rfl (n := (2 : Int32)) (N := 2) (by decide) (by decide) (cap := 2) (by first | decide | omega | (dsimp only; omega)) (by first | decide | omega | (dsimp only; omega)) (by first | decide | omega | (dsimp only; omega)) (by first | decide | omega | (dsimp only; omega))
      obtain ⟨b742, g742⟩ : ∃ z, z = (h457).size := ⟨_, rfl⟩
      rw [← g742] at A742 st742
      have lne743 : b455 < b742 := Nat.lt_of_lt_of_le A457.lt (Nat.le_of_eq g742.symm)
      have ne743 : b455 ≠ b742 := Nat.ne_of_lt lne743
      have z744 : h0.size ≤ (h457).size := (Nat.le_trans (Nat.le_trans (Nat.le_refl _) E455.1) (Nat.le_of_eq W457.size.symm))
      have sz_b742 : h0.size ≤ b742 := Nat.le_trans z744 (Nat.le_of_eq g742.symm)
      have gn_b742 : n0 ≤ b742 := Nat.le_trans Z0 sz_b742
      refine Goes.via st742 ?_
      show Goes p e below _ (T742.setTop (mkF m 180 #[o0, o1, o2, o3, o4, vi (1 : Int32), vi q1, vi (2 : Int32), vi q2, o9, o10, o11, vi c0, vi c1, vi e0, vi e1, vr b455, .unset, .unset, .unset, .unset, .unset] [(.ref b742)]))
      refine Goes.via (fun _ kk_ => XS.astore X742.here hx rfl (hb hby at_180) rfl rfl (l' := #[o0, o1, o2, o3, o4, vi (1 : Int32), vi q1, vi (2 : Int32), vi q2, o9, o10, o11, vi c0, vi c1, vi e0, vi e1, vr b455, vr b742, .unset, .unset, .unset, .unset]) rfl kk_) ?_
      show Goes p e below _ (T742.setTop (mkF m 182 #[o0, o1, o2, o3, o4, vi (1 : Int32), vi q1, vi (2 : Int32), vi q2, o9, o10, o11, vi c0, vi c1, vi e0, vi e1, vr b455, vr b742, .unset, .unset, .unset, .unset] []))
      refine gIL X742 hx hby at_182 rfl ?_
      refine gIC (z := 1) X742 hx hby at_184 rfl ?_
      have hc185_745 : ¬ ((2 : Int32) < (1 : Int32)) := (by decide)
      refine Goes.via (fun _ kk_ => XS.icmpNo X742.here hx rfl (hb hby at_185) rfl (flt hc185_745).1 kk_) ?_
      show Goes p e below _ (T742.setTop (mkF m 188 #[o0, o1, o2, o3, o4, vi (1 : Int32), vi q1, vi (2 : Int32), vi q2, o9, o10, o11, vi c0, vi c1, vi e0, vi e1, vr b455, vr b742, .unset, .unset, .unset, .unset] []))
      refine gAL X742 hx hby at_188 rfl rfl ?_
      refine gIC (z := 0) X742 hx hby at_190 rfl ?_
      refine gIL X742 hx hby at_191 rfl ?_
      obtain ⟨T746, h746, X746, e746, W746, A746, st746⟩ := own_castore X742 hx hZ e742 A742 (j := (0 : Int32)) (i := 0) (by decide) (by decide) (by first | decide | omega | (dsimp only; omega)) (g := (mkF m 193 #[o0, o1, o2, o3, o4, vi (1 : Int32), vi q1, vi (2 : Int32), vi q2, o9, o10, o11, vi c0, vi c1, vi e0, vi e1, vr b455, vr b742, .unset, .unset, .unset, .unset] [(.int e0), (.int (0 : Int32)), (.ref b742)])) rfl rfl (hb hby at_193)
      refine Goes.via st746 ?_
      have N746 := Fr.snoc X746 N457 gn_b742
      show Goes p e below _ (T746.setTop (mkF m 194 #[o0, o1, o2, o3, o4, vi (1 : Int32), vi q1, vi (2 : Int32), vi q2, o9, o10, o11, vi c0, vi c1, vi e0, vi e1, vr b455, vr b742, .unset, .unset, .unset, .unset] []))
      refine gIL X746 hx hby at_194 rfl ?_
      refine gIC (z := 2) X746 hx hby at_196 rfl ?_
      have hc197_747 : (2 : Int32) = (2 : Int32) := (by decide)
      refine Goes.via (fun _ kk_ => XS.icmpNo X746.here hx rfl (hb hby at_197) rfl (teq hc197_747).2 kk_) ?_
      show Goes p e below _ (T746.setTop (mkF m 200 #[o0, o1, o2, o3, o4, vi (1 : Int32), vi q1, vi (2 : Int32), vi q2, o9, o10, o11, vi c0, vi c1, vi e0, vi e1, vr b455, vr b742, .unset, .unset, .unset, .unset] []))
      refine gAL X746 hx hby at_200 rfl rfl ?_
      refine gIC (z := 1) X746 hx hby at_202 rfl ?_
      refine gIL X746 hx hby at_203 rfl ?_
      obtain ⟨T748, h748, X748, e748, W748, A748, st748⟩ := own_castore X746 hx hZ e746 A746 (j := (1 : Int32)) (i := 1) (by decide) (by decide) (by first | decide | omega | (dsimp only; omega)) (g := (mkF m 205 #[o0, o1, o2, o3, o4, vi (1 : Int32), vi q1, vi (2 : Int32), vi q2, o9, o10, o11, vi c0, vi c1, vi e0, vi e1, vr b455, vr b742, .unset, .unset, .unset, .unset] [(.int e1), (.int (1 : Int32)), (.ref b742)])) rfl rfl (hb hby at_205)
      refine Goes.via st748 ?_
      have N748 := Fr.snoc X748 N746 gn_b742
      show Goes p e below _ (T748.setTop (mkF m 206 #[o0, o1, o2, o3, o4, vi (1 : Int32), vi q1, vi (2 : Int32), vi q2, o9, o10, o11, vi c0, vi c1, vi e0, vi e1, vr b455, vr b742, .unset, .unset, .unset, .unset] []))
      obtain ⟨T749, h749, X749, e749, E749, A749, D749, -, st749⟩ := newO X748 hx hZ hown (own_w hw 8 rfl) (own_w hw 9 rfl) (own_w hw 10 rfl) e748 (g := (mkF m 206 #[o0, o1, o2, o3, o4, vi (1 : Int32), vi q1, vi (2 : Int32), vi q2, o9, o10, o11, vi c0, vi c1, vi e0, vi e1, vr b455, vr b742, .unset, .unset, .unset, .unset] [])) rfl (hb hby at_206) (by first | decide | omega | (dsimp only; omega)) (by first | decide | omega | (dsimp only; omega))
      obtain ⟨b749, g749⟩ : ∃ z, z = (h748).size := ⟨_, rfl⟩
      rw [← g749] at A749 D749 st749
      have f750 : Arw Z h748 b455 k455 .char 1 (own_upd (fun _ => (.int 0)) 0 (.int (nar .char c0))) := (((A457.ext E742).other W746 ne743).other W748 ne743)
      have lne751 : b455 < b749 := Nat.lt_of_lt_of_le f750.lt (Nat.le_of_eq g749.symm)
      have ne751 : b455 ≠ b749 := Nat.ne_of_lt lne751
      have lne752 : b742 < b749 := Nat.lt_of_lt_of_le A748.lt (Nat.le_of_eq g749.symm)
      have ne752 : b742 ≠ b749 := Nat.ne_of_lt lne752
      have z753 : h0.size ≤ (h748).size := (Nat.le_trans (Nat.le_trans (Nat.le_trans z744 E742.1) (Nat.le_of_eq W746.size.symm)) (Nat.le_of_eq W748.size.symm))
      have sz_b749 : h0.size ≤ b749 := Nat.le_trans z753 (Nat.le_of_eq g749.symm)
      have gn_b749 : n0 ≤ b749 := Nat.le_trans Z0 sz_b749
      have F_coder_b749 : Fld Z h749 b749 "java/lang/String" "coder" "B" (.int (0 : Int32)) := D749 (Or.inr (own_w hw 34 rfl)) (ty := .byte) (by decide)
      have F_value_b749 : Fld Z h749 b749 "java/lang/String" "value" "[B" .null := D749 (Or.inr (own_w hw 36 rfl)) (ty := (.array .byte)) (by decide)
      refine Goes.via st749 ?_
      show Goes p e below _ (T749.setTop (mkF m 209 #[o0, o1, o2, o3, o4, vi (1 : Int32), vi q1, vi (2 : Int32), vi q2, o9, o10, o11, vi c0, vi c1, vi e0, vi e1, vr b455, vr b742, .unset, .unset, .unset, .unset] [(.ref b749)]))
      refine gDU X749 hx hby at_209 rfl ?_
      refine gAL X749 hx hby at_210 rfl rfl ?_
      have f755 : Arw Z h749 b455 k455 .char 1 (own_upd (fun _ => (.int 0)) 0 (.int (nar .char c0))) := (f750.ext E749)
      have Va754 : Arv Z h749 b455 k455 .char (1 : Int32) ([(nar .char c0)].map Value.int) (.int (0 : Int32)) := f755.toArv (by decide) (by intro i hi; match i, hi with | 0, _ => rfl)
      have K756 : Keep h0 h749 [] := (((((((Keep.refl h0 []).ext E455).wr W457 (Or.inr sz_b455)).ext E742).wr W746 (Or.inr sz_b742)).wr W748 (Or.inr sz_b742)).ext E749)
      have f757 : Sta Z h749 "java/lang/String" "COMPACT_STRINGS" "Z" (.int cS) := own_sta_keep OS K756
      have z758 : h0.size ≤ (h749).size := (Nat.le_trans z753 E749.1)
      have hws754 : ∀ d ∈ StrChars.Road.words, d.before a0 Z = true := fun d hd => hw d ((by decide +kernel : ∀ d ∈ StrChars.Road.words, d ∈ tables_1) d hd)
      have hlat754 : ∀ c ∈ [(nar .char c0)], ¬ c < 0 ∧ ¬ (255 : Int32) < c := (by intro x hx; have q := own_lat (n := (1 : Int32)) (c := c0) (d := c1) (mc0) (mc1) x; rw [own_cs1 _ _ (by decide) rfl] at q; exact q hx)
      obtain ⟨_, _, ⟨T754, L754, k754, n754⟩, -, X754, ⟨Lc754, hQ754, l754, y754, z754⟩, st754⟩ := X749.specialBack hx (y := (⟨"java/lang/String", "<init>", "([C)V"⟩ : MethodName)) rfl hown (mvT hZ (own_w hw 11 rfl)) (mvT hZ (own_w hw 12 rfl)) (mvT hZ (own_w hw 13 rfl)) (by decide) (StrChars.Road.backV (W := 1) hZ hws754 (kI := 4) (own_w hw 9 rfl) (cs := [(nar .char c0)]) (bs := [(nar .char c0)].map (fun c => c.toInt8.toInt32)) (n := 1) gn_b749 (Nat.le_trans Z0 z758) A749 F_value_b749 F_coder_b749 Va754 f757 H_cs rfl rfl (by decide) (by decide) hlat754 rfl (by decide) (by decide)) (g := (mkF m 212 #[o0, o1, o2, o3, o4, vi (1 : Int32), vi q1, vi (2 : Int32), vi q2, o9, o10, o11, vi c0, vi c1, vi e0, vi e1, vr b455, vr b742, .unset, .unset, .unset, .unset] [(.ref b455), (.ref b749), (.ref b749)])) rfl (by rw [hml]; rfl) (Steps.refl _) (a := b749) (argsL := [(.ref b455)]) (rest := [(.ref b749)]) (lenOf pd_17 rfl) rfl (by show 2 * 0 + _ ≤ _; exact Nat.le_of_eq rfl) (hb hby at_212) (fun _ _ => ⟨rfl, e749, (by first | decide | omega : 3 + 1 ≤ _), (by first | decide | omega : 7 + 1 ≤ _)⟩)
      dsimp only [Pt.U, Pt.locs, Pt.cells, Pt.slots] at X754 l754 y754 z754 st754 hQ754
      subst l754 y754 z754
      obtain ⟨rfl, N754q, K754, uE754, uC754, sb754, kb754, ug754, uz754, un754, uV754, uA754⟩ := hQ754
      have N754 := Fr.app N748 N754q
      have ne759 : b455 ≠ sb754 := Nat.ne_of_lt (Nat.lt_of_lt_of_le f755.lt uz754)
      have f760 : Arw Z h749 b742 k742 .char 2 (own_upd (own_upd (fun _ => (.int 0)) 0 (.int (nar .char e0))) 1 (.int (nar .char e1))) := (A748.ext E749)
      have ne761 : b742 ≠ sb754 := Nat.ne_of_lt (Nat.lt_of_lt_of_le f760.lt uz754)
      have ne762 : b749 ≠ sb754 := Nat.ne_of_lt (Nat.lt_of_lt_of_le A749.lt uz754)
      have sz_sb754 : h0.size ≤ sb754 := Nat.le_trans z758 uz754
      refine Goes.tr st754 ?_
      show Goes p e below _ (T754.setTop (mkF m 215 #[o0, o1, o2, o3, o4, vi (1 : Int32), vi q1, vi (2 : Int32), vi q2, o9, o10, o11, vi c0, vi c1, vi e0, vi e1, vr b455, vr b742, .unset, .unset, .unset, .unset] [(.ref b749)]))
      have Vf763 : Arv Z T754.heap sb754 kb754 .byte (own_n (1 : Int32) c0 c1) (own_v (1 : Int32) c0 c1) (.int 0) := (by unfold own_n own_v; rw [own_cs1 _ _ (by decide) rfl]; exact uA754)
      refine Goes.via (fun _ kk_ => XS.astore X754.here hx rfl (hb hby at_215) rfl rfl (l' := #[o0, o1, o2, o3, o4, vi (1 : Int32), vi q1, vi (2 : Int32), vi q2, o9, o10, o11, vi c0, vi c1, vi e0, vi e1, vr b455, vr b742, vr b749, .unset, .unset, .unset]) rfl kk_) ?_
      show Goes p e below _ (T754.setTop (mkF m 217 #[o0, o1, o2, o3, o4, vi (1 : Int32), vi q1, vi (2 : Int32), vi q2, o9, o10, o11, vi c0, vi c1, vi e0, vi e1, vr b455, vr b742, vr b749, .unset, .unset, .unset] []))
      obtain ⟨T764, h764, X764, e764, E764, A764, D764, -, st764⟩ := newO X754 hx hZ hown (own_w hw 37 rfl) (own_w hw 38 rfl) (own_w hw 39 rfl) rfl (g := (mkF m 217 #[o0, o1, o2, o3, o4, vi (1 : Int32), vi q1, vi (2 : Int32), vi q2, o9, o10, o11, vi c0, vi c1, vi e0, vi e1, vr b455, vr b742, vr b749, .unset, .unset, .unset] [])) rfl (hb hby at_217) (by first | decide | omega | (dsimp only; omega)) (by first | decide | omega | (dsimp only; omega))
      obtain ⟨b764, g764⟩ : ∃ z, z = (T754.heap).size := ⟨_, rfl⟩
      rw [← g764] at A764 D764 st764
      have f765 : Arw Z T754.heap b455 k455 .char 1 (own_upd (fun _ => (.int 0)) 0 (.int (nar .char c0))) := (f755.keep K754 (ninS ne751 nin0))
      have lne766 : b455 < b764 := Nat.lt_of_lt_of_le f765.lt (Nat.le_of_eq g764.symm)
      have ne766 : b455 ≠ b764 := Nat.ne_of_lt lne766
      have f767 : Arw Z T754.heap b742 k742 .char 2 (own_upd (own_upd (fun _ => (.int 0)) 0 (.int (nar .char e0))) 1 (.int (nar .char e1))) := (f760.keep K754 (ninS ne752 nin0))
      have lne768 : b742 < b764 := Nat.lt_of_lt_of_le f767.lt (Nat.le_of_eq g764.symm)
      have ne768 : b742 ≠ b764 := Nat.ne_of_lt lne768
      have lne769 : b749 < b764 := Nat.lt_of_lt_of_le uE754.lt (Nat.le_of_eq g764.symm)
      have ne769 : b749 ≠ b764 := Nat.ne_of_lt lne769
      have lne770 : sb754 < b764 := Nat.lt_of_lt_of_le Vf763.lt (Nat.le_of_eq g764.symm)
      have ne770 : sb754 ≠ b764 := Nat.ne_of_lt lne770
      have z771 : h0.size ≤ (T754.heap).size := (Nat.le_trans z758 K754.1)
      have sz_b764 : h0.size ≤ b764 := Nat.le_trans z771 (Nat.le_of_eq g764.symm)
      have gn_b764 : n0 ≤ b764 := Nat.le_trans Z0 sz_b764
      have F_content_b764 : Fld Z h764 b764 "com/example/map_rewriter/maprewriter/core/Symbol" "content" "Ljava/lang/String;" .null := D764 (Or.inr (own_w hw 98 rfl)) (ty := (.object "java/lang/String")) (by decide)
      have F_quoted_b764 : Fld Z h764 b764 "com/example/map_rewriter/maprewriter/core/Symbol" "quoted" "Z" (.int (0 : Int32)) := D764 (Or.inr (own_w hw 100 rfl)) (ty := .boolean) (by decide)
      refine Goes.via st764 ?_
      show Goes p e below _ (T764.setTop (mkF m 220 #[o0, o1, o2, o3, o4, vi (1 : Int32), vi q1, vi (2 : Int32), vi q2, o9, o10, o11, vi c0, vi c1, vi e0, vi e1, vr b455, vr b742, vr b749, .unset, .unset, .unset] [(.ref b764)]))
      refine gDU X764 hx hby at_220 rfl ?_
      obtain ⟨T772, h772, X772, e772, E772, A772, D772, -, st772⟩ := newO X764 hx hZ hown (own_w hw 8 rfl) (own_w hw 9 rfl) (own_w hw 10 rfl) e764 (g := (mkF m 221 #[o0, o1, o2, o3, o4, vi (1 : Int32), vi q1, vi (2 : Int32), vi q2, o9, o10, o11, vi c0, vi c1, vi e0, vi e1, vr b455, vr b742, vr b749, .unset, .unset, .unset] [(.ref b764), (.ref b764)])) rfl (hb hby at_221) (by first | decide | omega | (dsimp only; omega)) (by first | decide | omega | (dsimp only; omega))
      obtain ⟨b772, g772⟩ : ∃ z, z = (h764).size := ⟨_, rfl⟩
      rw [← g772] at A772 D772 st772
      have f773 : Arw Z h764 b455 k455 .char 1 (own_upd (fun _ => (.int 0)) 0 (.int (nar .char c0))) := (f765.ext E764)
      have lne774 : b455 < b772 := Nat.lt_of_lt_of_le f773.lt (Nat.le_of_eq g772.symm)
      have ne774 : b455 ≠ b772 := Nat.ne_of_lt lne774
      have f775 : Arw Z h764 b742 k742 .char 2 (own_upd (own_upd (fun _ => (.int 0)) 0 (.int (nar .char e0))) 1 (.int (nar .char e1))) := (f767.ext E764)
      have lne776 : b742 < b772 := Nat.lt_of_lt_of_le f775.lt (Nat.le_of_eq g772.symm)
      have ne776 : b742 ≠ b772 := Nat.ne_of_lt lne776
      have f777 : Exa Z h764 b749 "java/lang/String" := (uE754.ext E764)
      have lne778 : b749 < b772 := Nat.lt_of_lt_of_le f777.lt (Nat.le_of_eq g772.symm)
      have ne778 : b749 ≠ b772 := Nat.ne_of_lt lne778
      have f779 : Arv Z h764 sb754 kb754 .byte (own_n (1 : Int32) c0 c1) (own_v (1 : Int32) c0 c1) (.int 0) := (Vf763.ext E764)
      have lne780 : sb754 < b772 := Nat.lt_of_lt_of_le f779.lt (Nat.le_of_eq g772.symm)
      have ne780 : sb754 ≠ b772 := Nat.ne_of_lt lne780
      have lne781 : b764 < b772 := Nat.lt_of_lt_of_le A764.lt (Nat.le_of_eq g772.symm)
      have ne781 : b764 ≠ b772 := Nat.ne_of_lt lne781
      have z782 : h0.size ≤ (h764).size := (Nat.le_trans z771 E764.1)
      have sz_b772 : h0.size ≤ b772 := Nat.le_trans z782 (Nat.le_of_eq g772.symm)
      have gn_b772 : n0 ≤ b772 := Nat.le_trans Z0 sz_b772
      have F_coder_b772 : Fld Z h772 b772 "java/lang/String" "coder" "B" (.int (0 : Int32)) := D772 (Or.inr (own_w hw 34 rfl)) (ty := .byte) (by decide)
      have F_value_b772 : Fld Z h772 b772 "java/lang/String" "value" "[B" .null := D772 (Or.inr (own_w hw 36 rfl)) (ty := (.array .byte)) (by decide)
      refine Goes.via st772 ?_
      show Goes p e below _ (T772.setTop (mkF m 224 #[o0, o1, o2, o3, o4, vi (1 : Int32), vi q1, vi (2 : Int32), vi q2, o9, o10, o11, vi c0, vi c1, vi e0, vi e1, vr b455, vr b742, vr b749, .unset, .unset, .unset] [(.ref b772), (.ref b764), (.ref b764)]))
      refine gDU X772 hx hby at_224 rfl ?_
      refine gAL X772 hx hby at_225 rfl rfl ?_
      have f784 : Arw Z h772 b455 k455 .char 1 (own_upd (fun _ => (.int 0)) 0 (.int (nar .char c0))) := (f773.ext E772)
      have Va783 : Arv Z h772 b455 k455 .char (1 : Int32) ([(nar .char c0)].map Value.int) (.int (0 : Int32)) := f784.toArv (by decide) (by intro i hi; match i, hi with | 0, _ => rfl)
      have K785 : Keep h0 h772 [] := (((K756.trans K754 (allS (Or.inr sz_b749) all0)).ext E764).ext E772)
      have f786 : Sta Z h772 "java/lang/String" "COMPACT_STRINGS" "Z" (.int cS) := own_sta_keep OS K785
      have z787 : h0.size ≤ (h772).size := (Nat.le_trans z782 E772.1)
      have hws783 : ∀ d ∈ StrChars.Road.words, d.before a0 Z = true := fun d hd => hw d ((by decide +kernel : ∀ d ∈ StrChars.Road.words, d ∈ tables_1) d hd)
      have hlat783 : ∀ c ∈ [(nar .char c0)], ¬ c < 0 ∧ ¬ (255 : Int32) < c := (by intro x hx; have q := own_lat (n := (1 : Int32)) (c := c0) (d := c1) (mc0) (mc1) x; rw [own_cs1 _ _ (by decide) rfl] at q; exact q hx)
      obtain ⟨_, _, ⟨T783, L783, k783, n783⟩, -, X783, ⟨Lc783, hQ783, l783, y783, z783⟩, st783⟩ := X772.specialBack hx (y := (⟨"java/lang/String", "<init>", "([C)V"⟩ : MethodName)) rfl hown (mvT hZ (own_w hw 11 rfl)) (mvT hZ (own_w hw 12 rfl)) (mvT hZ (own_w hw 13 rfl)) (by decide) (StrChars.Road.backV (W := 3) hZ hws783 (kI := 4) (own_w hw 9 rfl) (cs := [(nar .char c0)]) (bs := [(nar .char c0)].map (fun c => c.toInt8.toInt32)) (n := 1) gn_b772 (Nat.le_trans Z0 z787) A772 F_value_b772 F_coder_b772 Va783 f786 H_cs rfl rfl (by decide) (by decide) hlat783 rfl (by decide) (by decide)) (g := (mkF m 227 #[o0, o1, o2, o3, o4, vi (1 : Int32), vi q1, vi (2 : Int32), vi q2, o9, o10, o11, vi c0, vi c1, vi e0, vi e1, vr b455, vr b742, vr b749, .unset, .unset, .unset] [(.ref b455), (.ref b772), (.ref b772), (.ref b764), (.ref b764)])) rfl (by rw [hml]; rfl) (Steps.refl _) (a := b772) (argsL := [(.ref b455)]) (rest := [(.ref b772), (.ref b764), (.ref b764)]) (lenOf pd_17 rfl) rfl (by show 2 * 0 + _ ≤ _; exact Nat.le_of_eq rfl) (hb hby at_227) (fun _ _ => ⟨rfl, e772, (by first | decide | omega : 6 + 1 ≤ _), (by first | decide | omega : 14 + 1 ≤ _)⟩)
      dsimp only [Pt.U, Pt.locs, Pt.cells, Pt.slots] at X783 l783 y783 z783 st783 hQ783
      subst l783 y783 z783
      obtain ⟨rfl, N783q, K783, uE783, uC783, sb783, kb783, ug783, uz783, un783, uV783, uA783⟩ := hQ783
      have N783 := Fr.app N754 N783q
      have ne788 : b455 ≠ sb783 := Nat.ne_of_lt (Nat.lt_of_lt_of_le f784.lt uz783)
      have f789 : Arw Z h772 b742 k742 .char 2 (own_upd (own_upd (fun _ => (.int 0)) 0 (.int (nar .char e0))) 1 (.int (nar .char e1))) := (f775.ext E772)
      have ne790 : b742 ≠ sb783 := Nat.ne_of_lt (Nat.lt_of_lt_of_le f789.lt uz783)
      have f791 : Exa Z h772 b749 "java/lang/String" := (f777.ext E772)
      have ne792 : b749 ≠ sb783 := Nat.ne_of_lt (Nat.lt_of_lt_of_le f791.lt uz783)
      have f793 : Arv Z h772 sb754 kb754 .byte (own_n (1 : Int32) c0 c1) (own_v (1 : Int32) c0 c1) (.int 0) := (f779.ext E772)
      have ne794 : sb754 ≠ sb783 := Nat.ne_of_lt (Nat.lt_of_lt_of_le f793.lt uz783)
      have f795 : Exa Z h772 b764 "com/example/map_rewriter/maprewriter/core/Symbol" := (A764.ext E772)
      have ne796 : b764 ≠ sb783 := Nat.ne_of_lt (Nat.lt_of_lt_of_le f795.lt uz783)
      have ne797 : b772 ≠ sb783 := Nat.ne_of_lt (Nat.lt_of_lt_of_le A772.lt uz783)
      have sz_sb783 : h0.size ≤ sb783 := Nat.le_trans z787 uz783
      refine Goes.tr st783 ?_
      show Goes p e below _ (T783.setTop (mkF m 230 #[o0, o1, o2, o3, o4, vi (1 : Int32), vi q1, vi (2 : Int32), vi q2, o9, o10, o11, vi c0, vi c1, vi e0, vi e1, vr b455, vr b742, vr b749, .unset, .unset, .unset] [(.ref b772), (.ref b764), (.ref b764)]))
      have f798 : Exa Z T783.heap b749 "java/lang/String" := (f791.keep K783)
      have f799 : Exa Z T783.heap b764 "com/example/map_rewriter/maprewriter/core/Symbol" := (f795.keep K783)
      have Vf800 : Arv Z T783.heap sb783 kb783 .byte (own_n (1 : Int32) c0 c1) (own_v (1 : Int32) c0 c1) (.int 0) := (by unfold own_n own_v; rw [own_cs1 _ _ (by decide) rfl]; exact uA783)
      have Vg800 : Arw Z T783.heap sb783 kb783 .byte 1 (fun i => .int (own_g (1 : Int32) c0 c1 i)) := Arw.ofArv Vf800 (by rw [own_na1]; decide) (fun i hi => by match i, hi with | 0, _ => rfl)
      refine gIL X783 hx hby at_230 rfl ?_
      have f801 : Fld Z T783.heap b764 "com/example/map_rewriter/maprewriter/core/Symbol" "content" "Ljava/lang/String;" .null := ((F_content_b764.ext E772).keep K783 (ninS ne781 nin0))
      have f802 : Fld Z T783.heap b764 "com/example/map_rewriter/maprewriter/core/Symbol" "quoted" "Z" (.int (0 : Int32)) := ((F_quoted_b764.ext E772).keep K783 (ninS ne781 nin0))
      have K803 : Keep h0 T783.heap [] := (K785.trans K783 (allS (Or.inr sz_b772) all0))
      have f804 : Sta Z T783.heap "java/lang/String" "COMPACT_STRINGS" "Z" (.int cS) := own_sta_keep OS K803
      have f805 : Sta Z T783.heap "jdk/internal/util/Preconditions" "SIOOBE_FORMATTER" "Ljava/util/function/BiFunction;" fo := own_sta_keep OF K803
      have ol806 : Old Z n0 (T783.heap) := ((((((((((HO.ext E455).wr W457 gn_b455).ext E742).wr W746 gn_b742).wr W748 gn_b742).ext E749).keep K754 (allS gn_b749 all0)).ext E764).ext E772).keep K783 (allS gn_b772 all0))
      have z808 : h0.size ≤ (T783.heap).size := (Nat.le_trans z787 K783.1)
      have Ks809 : KS Z own_KL s.vm (T783.heap) := (((((((((Ks0.ext E455).wr W457 (NoS.arr A455 (own_w hw 9 rfl) (by intro q; cases q))).ext E742).keep (((Keep.refl _ [b742]).wr W746 (Or.inl (List.mem_of_getElem? (i := 0) rfl))).wr W748 (Or.inl (List.mem_of_getElem? (i := 0) rfl))) (allS (NoS.arr A742 (own_w hw 9 rfl) (by intro q; cases q)) all0)).ext E749).keep K754 (allS (NoS.str A749 (own_w hw 9 rfl) F_value_b749) all0)).ext E764).ext E772).keep K783 (allS (NoS.str A772 (own_w hw 9 rfl) F_value_b772) all0))
      have sk810 : _ ≤ (T783.heap).size := (Nat.le_trans (Nat.le_trans (Nat.le_trans (Nat.le_trans (Nat.le_trans (Nat.le_trans (Nat.le_trans (Nat.le_trans (Nat.le_trans (Nat.le_trans (Nat.zero_le _) E455.1) (Nat.le_of_eq W457.size.symm)) E742.1) (Nat.le_of_eq W746.size.symm)) (Nat.le_of_eq W748.size.symm)) E749.1) K754.1) E764.1) E772.1) K783.1)
      obtain ⟨_, _, ⟨T807, L807, k807, n807⟩, -, ⟨X807, Si807⟩, ⟨Lc807, ⟨hQ807, tK807, hK807, hKv807, hKh807⟩, l807, y807, z807⟩, st807⟩ := own_specialW X783 hx (y := (⟨"com/example/map_rewriter/maprewriter/core/Symbol", "<init>", "(Ljava/lang/String;Z)V"⟩ : MethodName)) rfl hown (mvT hZ (own_w hw 40 rfl)) (mvT hZ (own_w hw 41 rfl)) (mvT hZ (own_w hw 42 rfl)) (by decide) (own_backOfW (W := 1) (K := (fun U_ => KS Z own_KL U_.vm U_.heap)) (KP := (fun U_ => KS Z own_KL U_.vm U_.heap)) (rm9 l Z a0 hw [] b764 b772 q1 sb783 kb783 1 (own_g (1 : Int32) c0 c1) (1 : Int32) cS fo T783.heap n0 (Nat.le_trans Z0 z808) f799 f801 f802 gn_b764 uE783 uC783 uV783 Vg800 (by decide) f804 H_cs f805 Hfo (hk0 1 (by decide)) ol806 HW HC0 HC1 HC2) hZ (own_w hw 42 rfl) (own_w hw 39 rfl) (by decide) (by decide) (fun V_ hV hVh => by show KS Z own_KL V_.vm V_.heap; rw [hVh]; exact Ks809.at_ (s := s) hV)) (g := (mkF m 232 #[o0, o1, o2, o3, o4, vi (1 : Int32), vi q1, vi (2 : Int32), vi q2, o9, o10, o11, vi c0, vi c1, vi e0, vi e1, vr b455, vr b742, vr b749, .unset, .unset, .unset] [(.int q1), (.ref b772), (.ref b764), (.ref b764)])) rfl (by rw [hml]; rfl) (a := b764) (argsL := [(.ref b772), (.int q1)]) (rest := [(.ref b764)]) (lenOf pd_18 rfl) rfl (by show 2 * 0 + _ ≤ _; exact Nat.le_of_eq rfl) (hb hby at_232) (fun _ _ => ⟨rfl, rfl, (by decide : 7 + 6 ≤ _), (by decide : 15 + 176 ≤ _)⟩)
      dsimp only [Pt.U, Pt.locs, Pt.cells, Pt.slots] at X807 l807 y807 z807 st807 hQ807 Si807 hKv807 hKh807
      subst l807 y807 z807
      obtain ⟨rfl, N807q, K807, u807_0, u807_1⟩ := hQ807
      have N807 := Fr.app N783 N807q
      refine Goes.via st807 ?_
      obtain ⟨X807', SI807, hZ, hown⟩ := rebS SI0 sk810 X807 Si807 K807.1 hZ hown
      have Ks807 : KS Z own_KL T807.vm T807.heap := by rw [← hKv807, ← hKh807]; exact hK807
      show Goes p e below _ (T807.setTop (mkF m 235 #[o0, o1, o2, o3, o4, vi (1 : Int32), vi q1, vi (2 : Int32), vi q2, o9, o10, o11, vi c0, vi c1, vi e0, vi e1, vr b455, vr b742, vr b749, .unset, .unset, .unset] [(.ref b764)]))
      refine Goes.via (fun _ kk_ => XS.astore X807'.here hx rfl (hb hby at_235) rfl rfl (l' := #[o0, o1, o2, o3, o4, vi (1 : Int32), vi q1, vi (2 : Int32), vi q2, o9, o10, o11, vi c0, vi c1, vi e0, vi e1, vr b455, vr b742, vr b749, vr b764, .unset, .unset]) rfl kk_) ?_
      show Goes p e below _ (T807.setTop (mkF m 237 #[o0, o1, o2, o3, o4, vi (1 : Int32), vi q1, vi (2 : Int32), vi q2, o9, o10, o11, vi c0, vi c1, vi e0, vi e1, vr b455, vr b742, vr b749, vr b764, .unset, .unset] []))
      obtain ⟨T811, h811, X811, e811, E811, A811, D811, -, st811⟩ := newO X807' hx hZ hown (own_w hw 37 rfl) (own_w hw 38 rfl) (own_w hw 39 rfl) rfl (g := (mkF m 237 #[o0, o1, o2, o3, o4, vi (1 : Int32), vi q1, vi (2 : Int32), vi q2, o9, o10, o11, vi c0, vi c1, vi e0, vi e1, vr b455, vr b742, vr b749, vr b764, .unset, .unset] [])) rfl (hb hby at_237) (by first | decide | omega | (dsimp only; omega)) (by first | decide | omega | (dsimp only; omega))
      obtain ⟨b811, g811⟩ : ∃ z, z = (T807.heap).size := ⟨_, rfl⟩
      rw [← g811] at A811 D811 st811
      have f812 : Arw Z T807.heap b455 k455 .char 1 (own_upd (fun _ => (.int 0)) 0 (.int (nar .char c0))) := ((f784.keep K783 (ninS ne774 nin0)).keep K807 (ninS ne766 nin0))
      have lne813 : b455 < b811 := Nat.lt_of_lt_of_le f812.lt (Nat.le_of_eq g811.symm)
      have ne813 : b455 ≠ b811 := Nat.ne_of_lt lne813
      have f814 : Arw Z T807.heap b742 k742 .char 2 (own_upd (own_upd (fun _ => (.int 0)) 0 (.int (nar .char e0))) 1 (.int (nar .char e1))) := ((f789.keep K783 (ninS ne776 nin0)).keep K807 (ninS ne768 nin0))
      have lne815 : b742 < b811 := Nat.lt_of_lt_of_le f814.lt (Nat.le_of_eq g811.symm)
      have ne815 : b742 ≠ b811 := Nat.ne_of_lt lne815
      have f816 : Exa Z T807.heap b749 "java/lang/String" := (f798.keep K807)
      have lne817 : b749 < b811 := Nat.lt_of_lt_of_le f816.lt (Nat.le_of_eq g811.symm)
      have ne817 : b749 ≠ b811 := Nat.ne_of_lt lne817
      have f818 : Arv Z T807.heap sb754 kb754 .byte (own_n (1 : Int32) c0 c1) (own_v (1 : Int32) c0 c1) (.int 0) := ((f793.keep K783 (ninS ne780 nin0)).keep K807 (ninS ne770 nin0))
      have lne819 : sb754 < b811 := Nat.lt_of_lt_of_le f818.lt (Nat.le_of_eq g811.symm)
      have ne819 : sb754 ≠ b811 := Nat.ne_of_lt lne819
      have lne820 : b764 < b811 := Nat.lt_of_lt_of_le u807_0.lt (Nat.le_of_eq g811.symm)
      have ne820 : b764 ≠ b811 := Nat.ne_of_lt lne820
      have f821 : Exa Z T807.heap b772 "java/lang/String" := (uE783.keep K807)
      have lne822 : b772 < b811 := Nat.lt_of_lt_of_le f821.lt (Nat.le_of_eq g811.symm)
      have ne822 : b772 ≠ b811 := Nat.ne_of_lt lne822
      have f823 : Arv Z T807.heap sb783 kb783 .byte (own_n (1 : Int32) c0 c1) (own_v (1 : Int32) c0 c1) (.int 0) := (Vf800.keep K807 (ninS (Ne.symm ne796) nin0))
      have lne824 : sb783 < b811 := Nat.lt_of_lt_of_le f823.lt (Nat.le_of_eq g811.symm)
      have ne824 : sb783 ≠ b811 := Nat.ne_of_lt lne824
      have z825 : h0.size ≤ (T807.heap).size := (Nat.le_trans z808 K807.1)
      have sz_b811 : h0.size ≤ b811 := Nat.le_trans z825 (Nat.le_of_eq g811.symm)
      have gn_b811 : n0 ≤ b811 := Nat.le_trans Z0 sz_b811
      have F_content_b811 : Fld Z h811 b811 "com/example/map_rewriter/maprewriter/core/Symbol" "content" "Ljava/lang/String;" .null := D811 (Or.inr (own_w hw 98 rfl)) (ty := (.object "java/lang/String")) (by decide)
      have F_quoted_b811 : Fld Z h811 b811 "com/example/map_rewriter/maprewriter/core/Symbol" "quoted" "Z" (.int (0 : Int32)) := D811 (Or.inr (own_w hw 100 rfl)) (ty := .boolean) (by decide)
      refine Goes.via st811 ?_
      show Goes p e below _ (T811.setTop (mkF m 240 #[o0, o1, o2, o3, o4, vi (1 : Int32), vi q1, vi (2 : Int32), vi q2, o9, o10, o11, vi c0, vi c1, vi e0, vi e1, vr b455, vr b742, vr b749, vr b764, .unset, .unset] [(.ref b811)]))
      refine gDU X811 hx hby at_240 rfl ?_
      obtain ⟨T826, h826, X826, e826, E826, A826, D826, -, st826⟩ := newO X811 hx hZ hown (own_w hw 8 rfl) (own_w hw 9 rfl) (own_w hw 10 rfl) e811 (g := (mkF m 241 #[o0, o1, o2, o3, o4, vi (1 : Int32), vi q1, vi (2 : Int32), vi q2, o9, o10, o11, vi c0, vi c1, vi e0, vi e1, vr b455, vr b742, vr b749, vr b764, .unset, .unset] [(.ref b811), (.ref b811)])) rfl (hb hby at_241) (by first | decide | omega | (dsimp only; omega)) (by first | decide | omega | (dsimp only; omega))
      obtain ⟨b826, g826⟩ : ∃ z, z = (h811).size := ⟨_, rfl⟩
      rw [← g826] at A826 D826 st826
      have f827 : Arw Z h811 b455 k455 .char 1 (own_upd (fun _ => (.int 0)) 0 (.int (nar .char c0))) := (f812.ext E811)
      have lne828 : b455 < b826 := Nat.lt_of_lt_of_le f827.lt (Nat.le_of_eq g826.symm)
      have ne828 : b455 ≠ b826 := Nat.ne_of_lt lne828
      have f829 : Arw Z h811 b742 k742 .char 2 (own_upd (own_upd (fun _ => (.int 0)) 0 (.int (nar .char e0))) 1 (.int (nar .char e1))) := (f814.ext E811)
      have lne830 : b742 < b826 := Nat.lt_of_lt_of_le f829.lt (Nat.le_of_eq g826.symm)
      have ne830 : b742 ≠ b826 := Nat.ne_of_lt lne830
      have f831 : Exa Z h811 b749 "java/lang/String" := (f816.ext E811)
      have lne832 : b749 < b826 := Nat.lt_of_lt_of_le f831.lt (Nat.le_of_eq g826.symm)
      have ne832 : b749 ≠ b826 := Nat.ne_of_lt lne832
      have f833 : Arv Z h811 sb754 kb754 .byte (own_n (1 : Int32) c0 c1) (own_v (1 : Int32) c0 c1) (.int 0) := (f818.ext E811)
      have lne834 : sb754 < b826 := Nat.lt_of_lt_of_le f833.lt (Nat.le_of_eq g826.symm)
      have ne834 : sb754 ≠ b826 := Nat.ne_of_lt lne834
      have f835 : Exa Z h811 b764 "com/example/map_rewriter/maprewriter/core/Symbol" := (u807_0.ext E811)
      have lne836 : b764 < b826 := Nat.lt_of_lt_of_le f835.lt (Nat.le_of_eq g826.symm)
      have ne836 : b764 ≠ b826 := Nat.ne_of_lt lne836
      have f837 : Exa Z h811 b772 "java/lang/String" := (f821.ext E811)
      have lne838 : b772 < b826 := Nat.lt_of_lt_of_le f837.lt (Nat.le_of_eq g826.symm)
      have ne838 : b772 ≠ b826 := Nat.ne_of_lt lne838
      have f839 : Arv Z h811 sb783 kb783 .byte (own_n (1 : Int32) c0 c1) (own_v (1 : Int32) c0 c1) (.int 0) := (f823.ext E811)
      have lne840 : sb783 < b826 := Nat.lt_of_lt_of_le f839.lt (Nat.le_of_eq g826.symm)
      have ne840 : sb783 ≠ b826 := Nat.ne_of_lt lne840
      have lne841 : b811 < b826 := Nat.lt_of_lt_of_le A811.lt (Nat.le_of_eq g826.symm)
      have ne841 : b811 ≠ b826 := Nat.ne_of_lt lne841
      have z842 : h0.size ≤ (h811).size := (Nat.le_trans z825 E811.1)
      have sz_b826 : h0.size ≤ b826 := Nat.le_trans z842 (Nat.le_of_eq g826.symm)
      have gn_b826 : n0 ≤ b826 := Nat.le_trans Z0 sz_b826
      have F_coder_b826 : Fld Z h826 b826 "java/lang/String" "coder" "B" (.int (0 : Int32)) := D826 (Or.inr (own_w hw 34 rfl)) (ty := .byte) (by decide)
      have F_value_b826 : Fld Z h826 b826 "java/lang/String" "value" "[B" .null := D826 (Or.inr (own_w hw 36 rfl)) (ty := (.array .byte)) (by decide)
      refine Goes.via st826 ?_
      show Goes p e below _ (T826.setTop (mkF m 244 #[o0, o1, o2, o3, o4, vi (1 : Int32), vi q1, vi (2 : Int32), vi q2, o9, o10, o11, vi c0, vi c1, vi e0, vi e1, vr b455, vr b742, vr b749, vr b764, .unset, .unset] [(.ref b826), (.ref b811), (.ref b811)]))
      refine gDU X826 hx hby at_244 rfl ?_
      refine gAL X826 hx hby at_245 rfl rfl ?_
      have f844 : Arw Z h826 b742 k742 .char 2 (own_upd (own_upd (fun _ => (.int 0)) 0 (.int (nar .char e0))) 1 (.int (nar .char e1))) := (f829.ext E826)
      have Va843 : Arv Z h826 b742 k742 .char (2 : Int32) ([(nar .char e0), (nar .char e1)].map Value.int) (.int (0 : Int32)) := f844.toArv (by decide) (by intro i hi; match i, hi with | 0, _ => rfl | 1, _ => rfl)
      have K845 : Keep h0 h826 [] := (((K803.trans K807 (allS (Or.inr sz_b764) all0)).ext E811).ext E826)
      have f846 : Sta Z h826 "java/lang/String" "COMPACT_STRINGS" "Z" (.int cS) := own_sta_keep OS K845
      have z847 : h0.size ≤ (h826).size := (Nat.le_trans z842 E826.1)
      have hws843 : ∀ d ∈ StrChars.Road.words, d.before a0 Z = true := fun d hd => hw d ((by decide +kernel : ∀ d ∈ StrChars.Road.words, d ∈ tables_1) d hd)
      have hlat843 : ∀ c ∈ [(nar .char e0), (nar .char e1)], ¬ c < 0 ∧ ¬ (255 : Int32) < c := (by intro x hx; have q := own_lat (n := (2 : Int32)) (c := e0) (d := e1) (me0) (me1) x; rw [own_cs2 _ _ (by decide) (by decide)] at q; exact q hx)
      obtain ⟨_, _, ⟨T843, L843, k843, n843⟩, -, X843, ⟨Lc843, hQ843, l843, y843, z843⟩, st843⟩ := X826.specialBack hx (y := (⟨"java/lang/String", "<init>", "([C)V"⟩ : MethodName)) rfl hown (mvT hZ (own_w hw 11 rfl)) (mvT hZ (own_w hw 12 rfl)) (mvT hZ (own_w hw 13 rfl)) (by decide) (StrChars.Road.backV (W := 3) hZ hws843 (kI := 4) (own_w hw 9 rfl) (cs := [(nar .char e0), (nar .char e1)]) (bs := [(nar .char e0), (nar .char e1)].map (fun c => c.toInt8.toInt32)) (n := 2) gn_b826 (Nat.le_trans Z0 z847) A826 F_value_b826 F_coder_b826 Va843 f846 H_cs rfl rfl (by decide) (by decide) hlat843 rfl (by decide) (by decide)) (g := (mkF m 247 #[o0, o1, o2, o3, o4, vi (1 : Int32), vi q1, vi (2 : Int32), vi q2, o9, o10, o11, vi c0, vi c1, vi e0, vi e1, vr b455, vr b742, vr b749, vr b764, .unset, .unset] [(.ref b742), (.ref b826), (.ref b826), (.ref b811), (.ref b811)])) rfl (by rw [hml]; rfl) (Steps.refl _) (a := b826) (argsL := [(.ref b742)]) (rest := [(.ref b826), (.ref b811), (.ref b811)]) (lenOf pd_17 rfl) rfl (by show 2 * 0 + _ ≤ _; exact Nat.le_of_eq rfl) (hb hby at_247) (fun _ _ => ⟨rfl, e826, (by first | decide | omega : 15 + 1 ≤ _), (by first | decide | omega : 197 + 2 ≤ _)⟩)
      dsimp only [Pt.U, Pt.locs, Pt.cells, Pt.slots] at X843 l843 y843 z843 st843 hQ843
      subst l843 y843 z843
      obtain ⟨rfl, N843q, K843, uE843, uC843, sb843, kb843, ug843, uz843, un843, uV843, uA843⟩ := hQ843
      have N843 := Fr.app N807 N843q
      have f848 : Arw Z h826 b455 k455 .char 1 (own_upd (fun _ => (.int 0)) 0 (.int (nar .char c0))) := (f827.ext E826)
      have ne849 : b455 ≠ sb843 := Nat.ne_of_lt (Nat.lt_of_lt_of_le f848.lt uz843)
      have ne850 : b742 ≠ sb843 := Nat.ne_of_lt (Nat.lt_of_lt_of_le f844.lt uz843)
      have f851 : Exa Z h826 b749 "java/lang/String" := (f831.ext E826)
      have ne852 : b749 ≠ sb843 := Nat.ne_of_lt (Nat.lt_of_lt_of_le f851.lt uz843)
      have f853 : Arv Z h826 sb754 kb754 .byte (own_n (1 : Int32) c0 c1) (own_v (1 : Int32) c0 c1) (.int 0) := (f833.ext E826)
      have ne854 : sb754 ≠ sb843 := Nat.ne_of_lt (Nat.lt_of_lt_of_le f853.lt uz843)
      have f855 : Exa Z h826 b764 "com/example/map_rewriter/maprewriter/core/Symbol" := (f835.ext E826)
      have ne856 : b764 ≠ sb843 := Nat.ne_of_lt (Nat.lt_of_lt_of_le f855.lt uz843)
      have f857 : Exa Z h826 b772 "java/lang/String" := (f837.ext E826)
      have ne858 : b772 ≠ sb843 := Nat.ne_of_lt (Nat.lt_of_lt_of_le f857.lt uz843)
      have f859 : Arv Z h826 sb783 kb783 .byte (own_n (1 : Int32) c0 c1) (own_v (1 : Int32) c0 c1) (.int 0) := (f839.ext E826)
      have ne860 : sb783 ≠ sb843 := Nat.ne_of_lt (Nat.lt_of_lt_of_le f859.lt uz843)
      have f861 : Exa Z h826 b811 "com/example/map_rewriter/maprewriter/core/Symbol" := (A811.ext E826)
      have ne862 : b811 ≠ sb843 := Nat.ne_of_lt (Nat.lt_of_lt_of_le f861.lt uz843)
      have ne863 : b826 ≠ sb843 := Nat.ne_of_lt (Nat.lt_of_lt_of_le A826.lt uz843)
      have sz_sb843 : h0.size ≤ sb843 := Nat.le_trans z847 uz843
      refine Goes.tr st843 ?_
      show Goes p e below _ (T843.setTop (mkF m 250 #[o0, o1, o2, o3, o4, vi (1 : Int32), vi q1, vi (2 : Int32), vi q2, o9, o10, o11, vi c0, vi c1, vi e0, vi e1, vr b455, vr b742, vr b749, vr b764, .unset, .unset] [(.ref b826), (.ref b811), (.ref b811)]))
      have f864 : Exa Z T843.heap b749 "java/lang/String" := (f851.keep K843)
      have f865 : Exa Z T843.heap b764 "com/example/map_rewriter/maprewriter/core/Symbol" := (f855.keep K843)
      have f866 : Exa Z T843.heap b772 "java/lang/String" := (f857.keep K843)
      have f867 : Exa Z T843.heap b811 "com/example/map_rewriter/maprewriter/core/Symbol" := (f861.keep K843)
      have Vf868 : Arv Z T843.heap sb843 kb843 .byte (own_n (2 : Int32) e0 e1) (own_v (2 : Int32) e0 e1) (.int 0) := (by unfold own_n own_v; rw [own_cs2 _ _ (by decide) (by decide)]; exact uA843)
      have Vg868 : Arw Z T843.heap sb843 kb843 .byte 2 (fun i => .int (own_g (2 : Int32) e0 e1 i)) := Arw.ofArv Vf868 (by rw [own_na2]; decide) (fun i hi => by match i, hi with | 0, _ => rfl | 1, _ => rfl)
      refine gIL X843 hx hby at_250 rfl ?_
      have f869 : Fld Z T843.heap b811 "com/example/map_rewriter/maprewriter/core/Symbol" "content" "Ljava/lang/String;" .null := ((F_content_b811.ext E826).keep K843 (ninS ne841 nin0))
      have f870 : Fld Z T843.heap b811 "com/example/map_rewriter/maprewriter/core/Symbol" "quoted" "Z" (.int (0 : Int32)) := ((F_quoted_b811.ext E826).keep K843 (ninS ne841 nin0))
      have K871 : Keep h0 T843.heap [] := (K845.trans K843 (allS (Or.inr sz_b826) all0))
      have f872 : Sta Z T843.heap "java/lang/String" "COMPACT_STRINGS" "Z" (.int cS) := own_sta_keep OS K871
      have f873 : Sta Z T843.heap "jdk/internal/util/Preconditions" "SIOOBE_FORMATTER" "Ljava/util/function/BiFunction;" fo := own_sta_keep OF K871
      have ol874 : Old Z n0 (T843.heap) := ((((ol806.keep K807 (allS gn_b764 all0)).ext E811).ext E826).keep K843 (allS gn_b826 all0))
      have z876 : h0.size ≤ (T843.heap).size := (Nat.le_trans z847 K843.1)
      have Ks877 : KS Z own_KL T807.vm (T843.heap) := (((Ks807.ext E811).ext E826).keep K843 (allS (NoS.str A826 (own_w hw 9 rfl) F_value_b826) all0))
      have sk878 : _ ≤ (T843.heap).size := (Nat.le_trans (Nat.le_trans (Nat.le_trans (Nat.le_refl _) E811.1) E826.1) K843.1)
      obtain ⟨_, _, ⟨T875, L875, k875, n875⟩, -, ⟨X875, Si875⟩, ⟨Lc875, ⟨hQ875, tK875, hK875, hKv875, hKh875⟩, l875, y875, z875⟩, st875⟩ := own_specialW X843 hx (y := (⟨"com/example/map_rewriter/maprewriter/core/Symbol", "<init>", "(Ljava/lang/String;Z)V"⟩ : MethodName)) rfl hown (mvT hZ (own_w hw 40 rfl)) (mvT hZ (own_w hw 41 rfl)) (mvT hZ (own_w hw 42 rfl)) (by decide) (own_backOfW (W := 1) (K := (fun U_ => KS Z own_KL U_.vm U_.heap)) (KP := (fun U_ => KS Z own_KL U_.vm U_.heap)) (rm9 l Z a0 hw [] b811 b826 q2 sb843 kb843 2 (own_g (2 : Int32) e0 e1) (2 : Int32) cS fo T843.heap n0 (Nat.le_trans Z0 z876) f867 f869 f870 gn_b811 uE843 uC843 uV843 Vg868 (by decide) f872 H_cs f873 Hfo (hk1 2 (by decide)) ol874 HW HC0 HC1 HC2) hZ (own_w hw 42 rfl) (own_w hw 39 rfl) (by decide) (by decide) (fun V_ hV hVh => by show KS Z own_KL V_.vm V_.heap; rw [hVh]; exact Ks877.at_ (s := s) hV)) (g := (mkF m 252 #[o0, o1, o2, o3, o4, vi (1 : Int32), vi q1, vi (2 : Int32), vi q2, o9, o10, o11, vi c0, vi c1, vi e0, vi e1, vr b455, vr b742, vr b749, vr b764, .unset, .unset] [(.int q2), (.ref b826), (.ref b811), (.ref b811)])) rfl (by rw [hml]; rfl) (a := b811) (argsL := [(.ref b826), (.int q2)]) (rest := [(.ref b811)]) (lenOf pd_18 rfl) rfl (by show 2 * 0 + _ ≤ _; exact Nat.le_of_eq rfl) (hb hby at_252) (fun _ _ => ⟨rfl, rfl, (by decide : 16 + 6 ≤ _), (by decide : 199 + 176 ≤ _)⟩)
      dsimp only [Pt.U, Pt.locs, Pt.cells, Pt.slots] at X875 l875 y875 z875 st875 hQ875 Si875 hKv875 hKh875
      subst l875 y875 z875
      obtain ⟨rfl, N875q, K875, u875_0, u875_1⟩ := hQ875
      have N875 := Fr.app N843 N875q
      refine Goes.via st875 ?_
      obtain ⟨X875', SI875, hZ, hown⟩ := rebS SI807 sk878 X875 Si875 K875.1 hZ hown
      have Ks875 : KS Z own_KL T875.vm T875.heap := by rw [← hKv875, ← hKh875]; exact hK875
      show Goes p e below _ (T875.setTop (mkF m 255 #[o0, o1, o2, o3, o4, vi (1 : Int32), vi q1, vi (2 : Int32), vi q2, o9, o10, o11, vi c0, vi c1, vi e0, vi e1, vr b455, vr b742, vr b749, vr b764, .unset, .unset] [(.ref b811)]))
      refine Goes.via (fun _ kk_ => XS.astore X875'.here hx rfl (hb hby at_255) rfl rfl (l' := #[o0, o1, o2, o3, o4, vi (1 : Int32), vi q1, vi (2 : Int32), vi q2, o9, o10, o11, vi c0, vi c1, vi e0, vi e1, vr b455, vr b742, vr b749, vr b764, vr b811, .unset]) rfl kk_) ?_
      show Goes p e below _ (T875.setTop (mkF m 257 #[o0, o1, o2, o3, o4, vi (1 : Int32), vi q1, vi (2 : Int32), vi q2, o9, o10, o11, vi c0, vi c1, vi e0, vi e1, vr b455, vr b742, vr b749, vr b764, vr b811, .unset] []))
      have K879 : Keep h0 T875.heap [] := (K871.trans K875 (allS (Or.inr sz_b811) all0))
      have f880 : Exa Z T875.heap b764 "com/example/map_rewriter/maprewriter/core/Symbol" := (f865.keep K875)
      have f881 : Fld Z T875.heap b764 "com/example/map_rewriter/maprewriter/core/Symbol" "content" "Ljava/lang/String;" (.ref b772) := ((((u807_1.ext E811).ext E826).keep K843 (ninS ne836 nin0)).keep K875 (ninS ne820 nin0))
      have f882 : Exa Z T875.heap b772 "java/lang/String" := (f866.keep K875)
      have f883 : Fld Z T875.heap b772 "java/lang/String" "coder" "B" (.int (0 : Int32)) := (((((uC783.keep K807 (ninS (Ne.symm ne781) nin0)).ext E811).ext E826).keep K843 (ninS ne838 nin0)).keep K875 (ninS ne822 nin0))
      have f884 : Fld Z T875.heap b772 "java/lang/String" "value" "[B" (.ref sb783) := (((((uV783.keep K807 (ninS (Ne.symm ne781) nin0)).ext E811).ext E826).keep K843 (ninS ne838 nin0)).keep K875 (ninS ne822 nin0))
      have f885 : Arv Z T875.heap sb783 kb783 .byte (own_n (1 : Int32) c0 c1) (own_v (1 : Int32) c0 c1) (.int 0) := ((f859.keep K843 (ninS ne840 nin0)).keep K875 (ninS ne824 nin0))
      have f886 : Exa Z T875.heap b826 "java/lang/String" := (uE843.keep K875)
      have f887 : Fld Z T875.heap b826 "java/lang/String" "coder" "B" (.int (0 : Int32)) := (uC843.keep K875 (ninS (Ne.symm ne841) nin0))
      have f888 : Fld Z T875.heap b826 "java/lang/String" "value" "[B" (.ref sb843) := (uV843.keep K875 (ninS (Ne.symm ne841) nin0))
      have f889 : Arv Z T875.heap sb843 kb843 .byte (own_n (2 : Int32) e0 e1) (own_v (2 : Int32) e0 e1) (.int 0) := (Vf868.keep K875 (ninS (Ne.symm ne862) nin0))
      have f890 : Exa Z T875.heap b749 "java/lang/String" := (f864.keep K875)
      exact J257 b455 b742 b749 b764 b811 b772 b826 sb783 sb843 kb783 kb843 _ _ _ _ (X875'.more (by decide) (by decide)) SI875 (Nat.le_refl _) hZ hown Ks875 N875 K879 f880 f881 u875_0 u875_1 f882 f883 f884 f885 f886 f887 f888 f889 f890
  · subst hz
    show Goes p e below _ (T15.setTop (mkF m 146 #[o0, o1, o2, o3, o4, vi (2 : Int32), vi q1, vi n2, vi q2, o9, o10, o11, vi c0, vi c1, vi e0, vi e1, .unset, .unset, .unset, .unset, .unset, .unset] []))
    refine gIL X15 hx hby at_146 rfl ?_
    obtain ⟨T891, h891, k891, X891, e891, E891, A891, st891⟩ := own_newP X15 hx hZ (own_w hw 7 rfl) e15' (g := (mkF m 148 #[o0, o1, o2, o3, o4, vi (2 : Int32), vi q1, vi n2, vi q2, o9, o10, o11, vi c0, vi c1, vi e0, vi e1, .unset, .unset, .unset, .unset, .unset, .unset] [(.int (2 : Int32))])) rfl (hb hby at_148) rfl (n := (2 : Int32)) (N := 2) (by decide) (by decide) (cap := 2) (by first | decide | omega | (dsimp only; omega)) (by first | decide | omega | (dsimp only; omega)) (by first | decide | omega | (dsimp only; omega)) (by first | decide | omega | (dsimp only; omega))
    obtain ⟨b891, g891⟩ : ∃ z, z = (h0).size := ⟨_, rfl⟩
    rw [← g891] at A891 st891
    have sz_b891 : h0.size ≤ b891 := Nat.le_trans (Nat.le_refl _) (Nat.le_of_eq g891.symm)
    have gn_b891 : n0 ≤ b891 := Nat.le_trans Z0 sz_b891
    refine Goes.via st891 ?_
    show Goes p e below _ (T891.setTop (mkF m 150 #[o0, o1, o2, o3, o4, vi (2 : Int32), vi q1, vi n2, vi q2, o9, o10, o11, vi c0, vi c1, vi e0, vi e1, .unset, .unset, .unset, .unset, .unset, .unset] [(.ref b891)]))
    refine Goes.via (fun _ kk_ => XS.astore X891.here hx rfl (hb hby at_150) rfl rfl (l' := #[o0, o1, o2, o3, o4, vi (2 : Int32), vi q1, vi n2, vi q2, o9, o10, o11, vi c0, vi c1, vi e0, vi e1, vr b891, .unset, .unset, .unset, .unset, .unset]) rfl kk_) ?_
    show Goes p e below _ (T891.setTop (mkF m 152 #[o0, o1, o2, o3, o4, vi (2 : Int32), vi q1, vi n2, vi q2, o9, o10, o11, vi c0, vi c1, vi e0, vi e1, vr b891, .unset, .unset, .unset, .unset, .unset] []))
    refine gIL X891 hx hby at_152 rfl ?_
    refine gIC (z := 1) X891 hx hby at_154 rfl ?_
    have hc155_892 : ¬ ((2 : Int32) < (1 : Int32)) := (by decide)
    refine Goes.via (fun _ kk_ => XS.icmpNo X891.here hx rfl (hb hby at_155) rfl (flt hc155_892).1 kk_) ?_
    show Goes p e below _ (T891.setTop (mkF m 158 #[o0, o1, o2, o3, o4, vi (2 : Int32), vi q1, vi n2, vi q2, o9, o10, o11, vi c0, vi c1, vi e0, vi e1, vr b891, .unset, .unset, .unset, .unset, .unset] []))
    refine gAL X891 hx hby at_158 rfl rfl ?_
    refine gIC (z := 0) X891 hx hby at_160 rfl ?_
    refine gIL X891 hx hby at_161 rfl ?_
    obtain ⟨T893, h893, X893, e893, W893, A893, st893⟩ := own_castore X891 hx hZ e891 A891 (j := (0 : Int32)) (i := 0) (by decide) (by decide) (by first | decide | omega | (dsimp only; omega)) (g := (mkF m 163 #[o0, o1, o2, o3, o4, vi (2 : Int32), vi q1, vi n2, vi q2, o9, o10, o11, vi c0, vi c1, vi e0, vi e1, vr b891, .unset, .unset, .unset, .unset, .unset] [(.int c0), (.int (0 : Int32)), (.ref b891)])) rfl rfl (hb hby at_163)
    refine Goes.via st893 ?_
    have N893 := Fr.snoc X893 N0 gn_b891
    show Goes p e below _ (T893.setTop (mkF m 164 #[o0, o1, o2, o3, o4, vi (2 : Int32), vi q1, vi n2, vi q2, o9, o10, o11, vi c0, vi c1, vi e0, vi e1, vr b891, .unset, .unset, .unset, .unset, .unset] []))
    refine gIL X893 hx hby at_164 rfl ?_
    refine gIC (z := 2) X893 hx hby at_166 rfl ?_
    have hc167_894 : (2 : Int32) = (2 : Int32) := (by decide)
    refine Goes.via (fun _ kk_ => XS.icmpNo X893.here hx rfl (hb hby at_167) rfl (teq hc167_894).2 kk_) ?_
    show Goes p e below _ (T893.setTop (mkF m 170 #[o0, o1, o2, o3, o4, vi (2 : Int32), vi q1, vi n2, vi q2, o9, o10, o11, vi c0, vi c1, vi e0, vi e1, vr b891, .unset, .unset, .unset, .unset, .unset] []))
    refine gAL X893 hx hby at_170 rfl rfl ?_
    refine gIC (z := 1) X893 hx hby at_172 rfl ?_
    refine gIL X893 hx hby at_173 rfl ?_
    obtain ⟨T895, h895, X895, e895, W895, A895, st895⟩ := own_castore X893 hx hZ e893 A893 (j := (1 : Int32)) (i := 1) (by decide) (by decide) (by first | decide | omega | (dsimp only; omega)) (g := (mkF m 175 #[o0, o1, o2, o3, o4, vi (2 : Int32), vi q1, vi n2, vi q2, o9, o10, o11, vi c0, vi c1, vi e0, vi e1, vr b891, .unset, .unset, .unset, .unset, .unset] [(.int c1), (.int (1 : Int32)), (.ref b891)])) rfl rfl (hb hby at_175)
    refine Goes.via st895 ?_
    have N895 := Fr.snoc X895 N893 gn_b891
    show Goes p e below _ (T895.setTop (mkF m 176 #[o0, o1, o2, o3, o4, vi (2 : Int32), vi q1, vi n2, vi q2, o9, o10, o11, vi c0, vi c1, vi e0, vi e1, vr b891, .unset, .unset, .unset, .unset, .unset] []))
    rcases hn2.1 with hz | hz | hz
    · subst hz
      show Goes p e below _ (T895.setTop (mkF m 176 #[o0, o1, o2, o3, o4, vi (2 : Int32), vi q1, vi (0 : Int32), vi q2, o9, o10, o11, vi c0, vi c1, vi e0, vi e1, vr b891, .unset, .unset, .unset, .unset, .unset] []))
      refine gIL X895 hx hby at_176 rfl ?_
      obtain ⟨T896, h896, k896, X896, e896, E896, A896, st896⟩ := own_newP X895 hx hZ (own_w hw 7 rfl) e895 (g := (mkF m 178 #[o0, o1, o2, o3, o4, vi (2 : Int32), vi q1, vi (0 : Int32), vi q2, o9, o10, o11, vi c0, vi c1, vi e0, vi e1, vr b891, .unset, .unset, .unset, .unset, .unset] [(.int (0 : Int32))])) rfl (hb hby at_178) rfl (n := (0 : Int32)) (N := 0) (by decide) (by decide) (cap := 0) (by first | decide | omega | (dsimp only; omega)) (by first | decide | omega | (dsimp only; omega)) (by first | decide | omega | (dsimp only; omega)) (by first | decide | omega | (dsimp only; omega))
      obtain ⟨b896, g896⟩ : ∃ z, z = (h895).size := ⟨_, rfl⟩
      rw [← g896] at A896 st896
      have lne897 : b891 < b896 := Nat.lt_of_lt_of_le A895.lt (Nat.le_of_eq g896.symm)
      have ne897 : b891 ≠ b896 := Nat.ne_of_lt lne897
      have z898 : h0.size ≤ (h895).size := (Nat.le_trans (Nat.le_trans (Nat.le_trans (Nat.le_refl _) E891.1) (Nat.le_of_eq W893.size.symm)) (Nat.le_of_eq W895.size.symm))
      have sz_b896 : h0.size ≤ b896 := Nat.le_trans z898 (Nat.le_of_eq g896.symm)
      have gn_b896 : n0 ≤ b896 := Nat.le_trans Z0 sz_b896
      refine Goes.via st896 ?_
      show Goes p e below _ (T896.setTop (mkF m 180 #[o0, o1, o2, o3, o4, vi (2 : Int32), vi q1, vi (0 : Int32), vi q2, o9, o10, o11, vi c0, vi c1, vi e0, vi e1, vr b891, .unset, .unset, .unset, .unset, .unset] [(.ref b896)]))
      refine Goes.via (fun _ kk_ => XS.astore X896.here hx rfl (hb hby at_180) rfl rfl (l' := #[o0, o1, o2, o3, o4, vi (2 : Int32), vi q1, vi (0 : Int32), vi q2, o9, o10, o11, vi c0, vi c1, vi e0, vi e1, vr b891, vr b896, .unset, .unset, .unset, .unset]) rfl kk_) ?_
      show Goes p e below _ (T896.setTop (mkF m 182 #[o0, o1, o2, o3, o4, vi (2 : Int32), vi q1, vi (0 : Int32), vi q2, o9, o10, o11, vi c0, vi c1, vi e0, vi e1, vr b891, vr b896, .unset, .unset, .unset, .unset] []))
      refine gIL X896 hx hby at_182 rfl ?_
      refine gIC (z := 1) X896 hx hby at_184 rfl ?_
      have hc185_899 : (0 : Int32) < (1 : Int32) := (by decide)
      refine Goes.via (fun _ kk_ => XS.icmpYes X896.here hx rfl (pc0 := 185) (pc' := 194) rfl (hb hby at_185) rfl (tlt hc185_899).1 (by decide) (by decide) kk_) ?_
      show Goes p e below _ (T896.setTop (mkF m 194 #[o0, o1, o2, o3, o4, vi (2 : Int32), vi q1, vi (0 : Int32), vi q2, o9, o10, o11, vi c0, vi c1, vi e0, vi e1, vr b891, vr b896, .unset, .unset, .unset, .unset] []))
      refine gIL X896 hx hby at_194 rfl ?_
      refine gIC (z := 2) X896 hx hby at_196 rfl ?_
      have hc197_900 : ¬ ((0 : Int32) = (2 : Int32)) := (by decide)
      refine Goes.via (fun _ kk_ => XS.icmpYes X896.here hx rfl (pc0 := 197) (pc' := 206) rfl (hb hby at_197) rfl (feq hc197_900).2 (by decide) (by decide) kk_) ?_
      show Goes p e below _ (T896.setTop (mkF m 206 #[o0, o1, o2, o3, o4, vi (2 : Int32), vi q1, vi (0 : Int32), vi q2, o9, o10, o11, vi c0, vi c1, vi e0, vi e1, vr b891, vr b896, .unset, .unset, .unset, .unset] []))
      obtain ⟨T901, h901, X901, e901, E901, A901, D901, -, st901⟩ := newO X896 hx hZ hown (own_w hw 8 rfl) (own_w hw 9 rfl) (own_w hw 10 rfl) e896 (g := (mkF m 206 #[o0, o1, o2, o3, o4, vi (2 : Int32), vi q1, vi (0 : Int32), vi q2, o9, o10, o11, vi c0, vi c1, vi e0, vi e1, vr b891, vr b896, .unset, .unset, .unset, .unset] [])) rfl (hb hby at_206) (by first | decide | omega | (dsimp only; omega)) (by first | decide | omega | (dsimp only; omega))
      obtain ⟨b901, g901⟩ : ∃ z, z = (h896).size := ⟨_, rfl⟩
      rw [← g901] at A901 D901 st901
      have f902 : Arw Z h896 b891 k891 .char 2 (own_upd (own_upd (fun _ => (.int 0)) 0 (.int (nar .char c0))) 1 (.int (nar .char c1))) := (A895.ext E896)
      have lne903 : b891 < b901 := Nat.lt_of_lt_of_le f902.lt (Nat.le_of_eq g901.symm)
      have ne903 : b891 ≠ b901 := Nat.ne_of_lt lne903
      have lne904 : b896 < b901 := Nat.lt_of_lt_of_le A896.lt (Nat.le_of_eq g901.symm)
      have ne904 : b896 ≠ b901 := Nat.ne_of_lt lne904
      have z905 : h0.size ≤ (h896).size := (Nat.le_trans z898 E896.1)
      have sz_b901 : h0.size ≤ b901 := Nat.le_trans z905 (Nat.le_of_eq g901.symm)
      have gn_b901 : n0 ≤ b901 := Nat.le_trans Z0 sz_b901
      have F_coder_b901 : Fld Z h901 b901 "java/lang/String" "coder" "B" (.int (0 : Int32)) := D901 (Or.inr (own_w hw 34 rfl)) (ty := .byte) (by decide)
      have F_value_b901 : Fld Z h901 b901 "java/lang/String" "value" "[B" .null := D901 (Or.inr (own_w hw 36 rfl)) (ty := (.array .byte)) (by decide)
      refine Goes.via st901 ?_
      show Goes p e below _ (T901.setTop (mkF m 209 #[o0, o1, o2, o3, o4, vi (2 : Int32), vi q1, vi (0 : Int32), vi q2, o9, o10, o11, vi c0, vi c1, vi e0, vi e1, vr b891, vr b896, .unset, .unset, .unset, .unset] [(.ref b901)]))
      refine gDU X901 hx hby at_209 rfl ?_
      refine gAL X901 hx hby at_210 rfl rfl ?_
      have f907 : Arw Z h901 b891 k891 .char 2 (own_upd (own_upd (fun _ => (.int 0)) 0 (.int (nar .char c0))) 1 (.int (nar .char c1))) := (f902.ext E901)
      have Va906 : Arv Z h901 b891 k891 .char (2 : Int32) ([(nar .char c0), (nar .char c1)].map Value.int) (.int (0 : Int32)) := f907.toArv (by decide) (by intro i hi; match i, hi with | 0, _ => rfl | 1, _ => rfl)
      have K908 : Keep h0 h901 [] := ((((((Keep.refl h0 []).ext E891).wr W893 (Or.inr sz_b891)).wr W895 (Or.inr sz_b891)).ext E896).ext E901)
      have f909 : Sta Z h901 "java/lang/String" "COMPACT_STRINGS" "Z" (.int cS) := own_sta_keep OS K908
      have z910 : h0.size ≤ (h901).size := (Nat.le_trans z905 E901.1)
      have hws906 : ∀ d ∈ StrChars.Road.words, d.before a0 Z = true := fun d hd => hw d ((by decide +kernel : ∀ d ∈ StrChars.Road.words, d ∈ tables_1) d hd)
      have hlat906 : ∀ c ∈ [(nar .char c0), (nar .char c1)], ¬ c < 0 ∧ ¬ (255 : Int32) < c := (by intro x hx; have q := own_lat (n := (2 : Int32)) (c := c0) (d := c1) (mc0) (mc1) x; rw [own_cs2 _ _ (by decide) (by decide)] at q; exact q hx)
      obtain ⟨_, _, ⟨T906, L906, k906, n906⟩, -, X906, ⟨Lc906, hQ906, l906, y906, z906⟩, st906⟩ := X901.specialBack hx (y := (⟨"java/lang/String", "<init>", "([C)V"⟩ : MethodName)) rfl hown (mvT hZ (own_w hw 11 rfl)) (mvT hZ (own_w hw 12 rfl)) (mvT hZ (own_w hw 13 rfl)) (by decide) (StrChars.Road.backV (W := 1) hZ hws906 (kI := 4) (own_w hw 9 rfl) (cs := [(nar .char c0), (nar .char c1)]) (bs := [(nar .char c0), (nar .char c1)].map (fun c => c.toInt8.toInt32)) (n := 2) gn_b901 (Nat.le_trans Z0 z910) A901 F_value_b901 F_coder_b901 Va906 f909 H_cs rfl rfl (by decide) (by decide) hlat906 rfl (by decide) (by decide)) (g := (mkF m 212 #[o0, o1, o2, o3, o4, vi (2 : Int32), vi q1, vi (0 : Int32), vi q2, o9, o10, o11, vi c0, vi c1, vi e0, vi e1, vr b891, vr b896, .unset, .unset, .unset, .unset] [(.ref b891), (.ref b901), (.ref b901)])) rfl (by rw [hml]; rfl) (Steps.refl _) (a := b901) (argsL := [(.ref b891)]) (rest := [(.ref b901)]) (lenOf pd_17 rfl) rfl (by show 2 * 0 + _ ≤ _; exact Nat.le_of_eq rfl) (hb hby at_212) (fun _ _ => ⟨rfl, e901, (by first | decide | omega : 3 + 1 ≤ _), (by first | decide | omega : 6 + 2 ≤ _)⟩)
      dsimp only [Pt.U, Pt.locs, Pt.cells, Pt.slots] at X906 l906 y906 z906 st906 hQ906
      subst l906 y906 z906
      obtain ⟨rfl, N906q, K906, uE906, uC906, sb906, kb906, ug906, uz906, un906, uV906, uA906⟩ := hQ906
      have N906 := Fr.app N895 N906q
      have ne911 : b891 ≠ sb906 := Nat.ne_of_lt (Nat.lt_of_lt_of_le f907.lt uz906)
      have f912 : Arw Z h901 b896 k896 .char 0 (fun _ => (.int 0)) := (A896.ext E901)
      have ne913 : b896 ≠ sb906 := Nat.ne_of_lt (Nat.lt_of_lt_of_le f912.lt uz906)
      have ne914 : b901 ≠ sb906 := Nat.ne_of_lt (Nat.lt_of_lt_of_le A901.lt uz906)
      have sz_sb906 : h0.size ≤ sb906 := Nat.le_trans z910 uz906
      refine Goes.tr st906 ?_
      show Goes p e below _ (T906.setTop (mkF m 215 #[o0, o1, o2, o3, o4, vi (2 : Int32), vi q1, vi (0 : Int32), vi q2, o9, o10, o11, vi c0, vi c1, vi e0, vi e1, vr b891, vr b896, .unset, .unset, .unset, .unset] [(.ref b901)]))
      have Vf915 : Arv Z T906.heap sb906 kb906 .byte (own_n (2 : Int32) c0 c1) (own_v (2 : Int32) c0 c1) (.int 0) := (by unfold own_n own_v; rw [own_cs2 _ _ (by decide) (by decide)]; exact uA906)
      refine Goes.via (fun _ kk_ => XS.astore X906.here hx rfl (hb hby at_215) rfl rfl (l' := #[o0, o1, o2, o3, o4, vi (2 : Int32), vi q1, vi (0 : Int32), vi q2, o9, o10, o11, vi c0, vi c1, vi e0, vi e1, vr b891, vr b896, vr b901, .unset, .unset, .unset]) rfl kk_) ?_
      show Goes p e below _ (T906.setTop (mkF m 217 #[o0, o1, o2, o3, o4, vi (2 : Int32), vi q1, vi (0 : Int32), vi q2, o9, o10, o11, vi c0, vi c1, vi e0, vi e1, vr b891, vr b896, vr b901, .unset, .unset, .unset] []))
      obtain ⟨T916, h916, X916, e916, E916, A916, D916, -, st916⟩ := newO X906 hx hZ hown (own_w hw 37 rfl) (own_w hw 38 rfl) (own_w hw 39 rfl) rfl (g := (mkF m 217 #[o0, o1, o2, o3, o4, vi (2 : Int32), vi q1, vi (0 : Int32), vi q2, o9, o10, o11, vi c0, vi c1, vi e0, vi e1, vr b891, vr b896, vr b901, .unset, .unset, .unset] [])) rfl (hb hby at_217) (by first | decide | omega | (dsimp only; omega)) (by first | decide | omega | (dsimp only; omega))
      obtain ⟨b916, g916⟩ : ∃ z, z = (T906.heap).size := ⟨_, rfl⟩
      rw [← g916] at A916 D916 st916
      have f917 : Arw Z T906.heap b891 k891 .char 2 (own_upd (own_upd (fun _ => (.int 0)) 0 (.int (nar .char c0))) 1 (.int (nar .char c1))) := (f907.keep K906 (ninS ne903 nin0))
      have lne918 : b891 < b916 := Nat.lt_of_lt_of_le f917.lt (Nat.le_of_eq g916.symm)
      have ne918 : b891 ≠ b916 := Nat.ne_of_lt lne918
      have f919 : Arw Z T906.heap b896 k896 .char 0 (fun _ => (.int 0)) := (f912.keep K906 (ninS ne904 nin0))
      have lne920 : b896 < b916 := Nat.lt_of_lt_of_le f919.lt (Nat.le_of_eq g916.symm)
      have ne920 : b896 ≠ b916 := Nat.ne_of_lt lne920
      have lne921 : b901 < b916 := Nat.lt_of_lt_of_le uE906.lt (Nat.le_of_eq g916.symm)
      have ne921 : b901 ≠ b916 := Nat.ne_of_lt lne921
      have lne922 : sb906 < b916 := Nat.lt_of_lt_of_le Vf915.lt (Nat.le_of_eq g916.symm)
      have ne922 : sb906 ≠ b916 := Nat.ne_of_lt lne922
      have z923 : h0.size ≤ (T906.heap).size := (Nat.le_trans z910 K906.1)
      have sz_b916 : h0.size ≤ b916 := Nat.le_trans z923 (Nat.le_of_eq g916.symm)
      have gn_b916 : n0 ≤ b916 := Nat.le_trans Z0 sz_b916
      have F_content_b916 : Fld Z h916 b916 "com/example/map_rewriter/maprewriter/core/Symbol" "content" "Ljava/lang/String;" .null := D916 (Or.inr (own_w hw 98 rfl)) (ty := (.object "java/lang/String")) (by decide)
      have F_quoted_b916 : Fld Z h916 b916 "com/example/map_rewriter/maprewriter/core/Symbol" "quoted" "Z" (.int (0 : Int32)) := D916 (Or.inr (own_w hw 100 rfl)) (ty := .boolean) (by decide)
      refine Goes.via st916 ?_
      show Goes p e below _ (T916.setTop (mkF m 220 #[o0, o1, o2, o3, o4, vi (2 : Int32), vi q1, vi (0 : Int32), vi q2, o9, o10, o11, vi c0, vi c1, vi e0, vi e1, vr b891, vr b896, vr b901, .unset, .unset, .unset] [(.ref b916)]))
      refine gDU X916 hx hby at_220 rfl ?_
      obtain ⟨T924, h924, X924, e924, E924, A924, D924, -, st924⟩ := newO X916 hx hZ hown (own_w hw 8 rfl) (own_w hw 9 rfl) (own_w hw 10 rfl) e916 (g := (mkF m 221 #[o0, o1, o2, o3, o4, vi (2 : Int32), vi q1, vi (0 : Int32), vi q2, o9, o10, o11, vi c0, vi c1, vi e0, vi e1, vr b891, vr b896, vr b901, .unset, .unset, .unset] [(.ref b916), (.ref b916)])) rfl (hb hby at_221) (by first | decide | omega | (dsimp only; omega)) (by first | decide | omega | (dsimp only; omega))
      obtain ⟨b924, g924⟩ : ∃ z, z = (h916).size := ⟨_, rfl⟩
      rw [← g924] at A924 D924 st924
      have f925 : Arw Z h916 b891 k891 .char 2 (own_upd (own_upd (fun _ => (.int 0)) 0 (.int (nar .char c0))) 1 (.int (nar .char c1))) := (f917.ext E916)
      have lne926 : b891 < b924 := Nat.lt_of_lt_of_le f925.lt (Nat.le_of_eq g924.symm)
      have ne926 : b891 ≠ b924 := Nat.ne_of_lt lne926
      have f927 : Arw Z h916 b896 k896 .char 0 (fun _ => (.int 0)) := (f919.ext E916)
      have lne928 : b896 < b924 := Nat.lt_of_lt_of_le f927.lt (Nat.le_of_eq g924.symm)
      have ne928 : b896 ≠ b924 := Nat.ne_of_lt lne928
      have f929 : Exa Z h916 b901 "java/lang/String" := (uE906.ext E916)
      have lne930 : b901 < b924 := Nat.lt_of_lt_of_le f929.lt (Nat.le_of_eq g924.symm)
      have ne930 : b901 ≠ b924 := Nat.ne_of_lt lne930
      have f931 : Arv Z h916 sb906 kb906 .byte (own_n (2 : Int32) c0 c1) (own_v (2 : Int32) c0 c1) (.int 0) := (Vf915.ext E916)
      have lne932 : sb906 < b924 := Nat.lt_of_lt_of_le f931.lt (Nat.le_of_eq g924.symm)
      have ne932 : sb906 ≠ b924 := Nat.ne_of_lt lne932
      have lne933 : b916 < b924 := Nat.lt_of_lt_of_le A916.lt (Nat.le_of_eq g924.symm)
      have ne933 : b916 ≠ b924 := Nat.ne_of_lt lne933
      have z934 : h0.size ≤ (h916).size := (Nat.le_trans z923 E916.1)
      have sz_b924 : h0.size ≤ b924 := Nat.le_trans z934 (Nat.le_of_eq g924.symm)
      have gn_b924 : n0 ≤ b924 := Nat.le_trans Z0 sz_b924
      have F_coder_b924 : Fld Z h924 b924 "java/lang/String" "coder" "B" (.int (0 : Int32)) := D924 (Or.inr (own_w hw 34 rfl)) (ty := .byte) (by decide)
      have F_value_b924 : Fld Z h924 b924 "java/lang/String" "value" "[B" .null := D924 (Or.inr (own_w hw 36 rfl)) (ty := (.array .byte)) (by decide)
      refine Goes.via st924 ?_
      show Goes p e below _ (T924.setTop (mkF m 224 #[o0, o1, o2, o3, o4, vi (2 : Int32), vi q1, vi (0 : Int32), vi q2, o9, o10, o11, vi c0, vi c1, vi e0, vi e1, vr b891, vr b896, vr b901, .unset, .unset, .unset] [(.ref b924), (.ref b916), (.ref b916)]))
      refine gDU X924 hx hby at_224 rfl ?_
      refine gAL X924 hx hby at_225 rfl rfl ?_
      have f936 : Arw Z h924 b891 k891 .char 2 (own_upd (own_upd (fun _ => (.int 0)) 0 (.int (nar .char c0))) 1 (.int (nar .char c1))) := (f925.ext E924)
      have Va935 : Arv Z h924 b891 k891 .char (2 : Int32) ([(nar .char c0), (nar .char c1)].map Value.int) (.int (0 : Int32)) := f936.toArv (by decide) (by intro i hi; match i, hi with | 0, _ => rfl | 1, _ => rfl)
      have K937 : Keep h0 h924 [] := (((K908.trans K906 (allS (Or.inr sz_b901) all0)).ext E916).ext E924)
      have f938 : Sta Z h924 "java/lang/String" "COMPACT_STRINGS" "Z" (.int cS) := own_sta_keep OS K937
      have z939 : h0.size ≤ (h924).size := (Nat.le_trans z934 E924.1)
      have hws935 : ∀ d ∈ StrChars.Road.words, d.before a0 Z = true := fun d hd => hw d ((by decide +kernel : ∀ d ∈ StrChars.Road.words, d ∈ tables_1) d hd)
      have hlat935 : ∀ c ∈ [(nar .char c0), (nar .char c1)], ¬ c < 0 ∧ ¬ (255 : Int32) < c := (by intro x hx; have q := own_lat (n := (2 : Int32)) (c := c0) (d := c1) (mc0) (mc1) x; rw [own_cs2 _ _ (by decide) (by decide)] at q; exact q hx)
      obtain ⟨_, _, ⟨T935, L935, k935, n935⟩, -, X935, ⟨Lc935, hQ935, l935, y935, z935⟩, st935⟩ := X924.specialBack hx (y := (⟨"java/lang/String", "<init>", "([C)V"⟩ : MethodName)) rfl hown (mvT hZ (own_w hw 11 rfl)) (mvT hZ (own_w hw 12 rfl)) (mvT hZ (own_w hw 13 rfl)) (by decide) (StrChars.Road.backV (W := 3) hZ hws935 (kI := 4) (own_w hw 9 rfl) (cs := [(nar .char c0), (nar .char c1)]) (bs := [(nar .char c0), (nar .char c1)].map (fun c => c.toInt8.toInt32)) (n := 2) gn_b924 (Nat.le_trans Z0 z939) A924 F_value_b924 F_coder_b924 Va935 f938 H_cs rfl rfl (by decide) (by decide) hlat935 rfl (by decide) (by decide)) (g := (mkF m 227 #[o0, o1, o2, o3, o4, vi (2 : Int32), vi q1, vi (0 : Int32), vi q2, o9, o10, o11, vi c0, vi c1, vi e0, vi e1, vr b891, vr b896, vr b901, .unset, .unset, .unset] [(.ref b891), (.ref b924), (.ref b924), (.ref b916), (.ref b916)])) rfl (by rw [hml]; rfl) (Steps.refl _) (a := b924) (argsL := [(.ref b891)]) (rest := [(.ref b924), (.ref b916), (.ref b916)]) (lenOf pd_17 rfl) rfl (by show 2 * 0 + _ ≤ _; exact Nat.le_of_eq rfl) (hb hby at_227) (fun _ _ => ⟨rfl, e924, (by first | decide | omega : 6 + 1 ≤ _), (by first | decide | omega : 14 + 2 ≤ _)⟩)
      dsimp only [Pt.U, Pt.locs, Pt.cells, Pt.slots] at X935 l935 y935 z935 st935 hQ935
      subst l935 y935 z935
      obtain ⟨rfl, N935q, K935, uE935, uC935, sb935, kb935, ug935, uz935, un935, uV935, uA935⟩ := hQ935
      have N935 := Fr.app N906 N935q
      have ne940 : b891 ≠ sb935 := Nat.ne_of_lt (Nat.lt_of_lt_of_le f936.lt uz935)
      have f941 : Arw Z h924 b896 k896 .char 0 (fun _ => (.int 0)) := (f927.ext E924)
      have ne942 : b896 ≠ sb935 := Nat.ne_of_lt (Nat.lt_of_lt_of_le f941.lt uz935)
      have f943 : Exa Z h924 b901 "java/lang/String" := (f929.ext E924)
      have ne944 : b901 ≠ sb935 := Nat.ne_of_lt (Nat.lt_of_lt_of_le f943.lt uz935)
      have f945 : Arv Z h924 sb906 kb906 .byte (own_n (2 : Int32) c0 c1) (own_v (2 : Int32) c0 c1) (.int 0) := (f931.ext E924)
      have ne946 : sb906 ≠ sb935 := Nat.ne_of_lt (Nat.lt_of_lt_of_le f945.lt uz935)
      have f947 : Exa Z h924 b916 "com/example/map_rewriter/maprewriter/core/Symbol" := (A916.ext E924)
      have ne948 : b916 ≠ sb935 := Nat.ne_of_lt (Nat.lt_of_lt_of_le f947.lt uz935)
      have ne949 : b924 ≠ sb935 := Nat.ne_of_lt (Nat.lt_of_lt_of_le A924.lt uz935)
      have sz_sb935 : h0.size ≤ sb935 := Nat.le_trans z939 uz935
      refine Goes.tr st935 ?_
      show Goes p e below _ (T935.setTop (mkF m 230 #[o0, o1, o2, o3, o4, vi (2 : Int32), vi q1, vi (0 : Int32), vi q2, o9, o10, o11, vi c0, vi c1, vi e0, vi e1, vr b891, vr b896, vr b901, .unset, .unset, .unset] [(.ref b924), (.ref b916), (.ref b916)]))
      have f950 : Exa Z T935.heap b901 "java/lang/String" := (f943.keep K935)
      have f951 : Exa Z T935.heap b916 "com/example/map_rewriter/maprewriter/core/Symbol" := (f947.keep K935)
      have Vf952 : Arv Z T935.heap sb935 kb935 .byte (own_n (2 : Int32) c0 c1) (own_v (2 : Int32) c0 c1) (.int 0) := (by unfold own_n own_v; rw [own_cs2 _ _ (by decide) (by decide)]; exact uA935)
      have Vg952 : Arw Z T935.heap sb935 kb935 .byte 2 (fun i => .int (own_g (2 : Int32) c0 c1 i)) := Arw.ofArv Vf952 (by rw [own_na2]; decide) (fun i hi => by match i, hi with | 0, _ => rfl | 1, _ => rfl)
      refine gIL X935 hx hby at_230 rfl ?_
      have f953 : Fld Z T935.heap b916 "com/example/map_rewriter/maprewriter/core/Symbol" "content" "Ljava/lang/String;" .null := ((F_content_b916.ext E924).keep K935 (ninS ne933 nin0))
      have f954 : Fld Z T935.heap b916 "com/example/map_rewriter/maprewriter/core/Symbol" "quoted" "Z" (.int (0 : Int32)) := ((F_quoted_b916.ext E924).keep K935 (ninS ne933 nin0))
      have K955 : Keep h0 T935.heap [] := (K937.trans K935 (allS (Or.inr sz_b924) all0))
      have f956 : Sta Z T935.heap "java/lang/String" "COMPACT_STRINGS" "Z" (.int cS) := own_sta_keep OS K955
      have f957 : Sta Z T935.heap "jdk/internal/util/Preconditions" "SIOOBE_FORMATTER" "Ljava/util/function/BiFunction;" fo := own_sta_keep OF K955
      have ol958 : Old Z n0 (T935.heap) := (((((((((HO.ext E891).wr W893 gn_b891).wr W895 gn_b891).ext E896).ext E901).keep K906 (allS gn_b901 all0)).ext E916).ext E924).keep K935 (allS gn_b924 all0))
      have z960 : h0.size ≤ (T935.heap).size := (Nat.le_trans z939 K935.1)
      have Ks961 : KS Z own_KL s.vm (T935.heap) := ((((((((Ks0.ext E891).keep (((Keep.refl _ [b891]).wr W893 (Or.inl (List.mem_of_getElem? (i := 0) rfl))).wr W895 (Or.inl (List.mem_of_getElem? (i := 0) rfl))) (allS (NoS.arr A891 (own_w hw 9 rfl) (by intro q; cases q)) all0)).ext E896).ext E901).keep K906 (allS (NoS.str A901 (own_w hw 9 rfl) F_value_b901) all0)).ext E916).ext E924).keep K935 (allS (NoS.str A924 (own_w hw 9 rfl) F_value_b924) all0))
      have sk962 : _ ≤ (T935.heap).size := (Nat.le_trans (Nat.le_trans (Nat.le_trans (Nat.le_trans (Nat.le_trans (Nat.le_trans (Nat.le_trans (Nat.le_trans (Nat.le_trans (Nat.zero_le _) E891.1) (Nat.le_of_eq W893.size.symm)) (Nat.le_of_eq W895.size.symm)) E896.1) E901.1) K906.1) E916.1) E924.1) K935.1)
      obtain ⟨_, _, ⟨T959, L959, k959, n959⟩, -, ⟨X959, Si959⟩, ⟨Lc959, ⟨hQ959, tK959, hK959, hKv959, hKh959⟩, l959, y959, z959⟩, st959⟩ := own_specialW X935 hx (y := (⟨"com/example/map_rewriter/maprewriter/core/Symbol", "<init>", "(Ljava/lang/String;Z)V"⟩ : MethodName)) rfl hown (mvT hZ (own_w hw 40 rfl)) (mvT hZ (own_w hw 41 rfl)) (mvT hZ (own_w hw 42 rfl)) (by decide) (own_backOfW (W := 1) (K := (fun U_ => KS Z own_KL U_.vm U_.heap)) (KP := (fun U_ => KS Z own_KL U_.vm U_.heap)) (rm9 l Z a0 hw [] b916 b924 q1 sb935 kb935 2 (own_g (2 : Int32) c0 c1) (2 : Int32) cS fo T935.heap n0 (Nat.le_trans Z0 z960) f951 f953 f954 gn_b916 uE935 uC935 uV935 Vg952 (by decide) f956 H_cs f957 Hfo (hk0 2 (by decide)) ol958 HW HC0 HC1 HC2) hZ (own_w hw 42 rfl) (own_w hw 39 rfl) (by decide) (by decide) (fun V_ hV hVh => by show KS Z own_KL V_.vm V_.heap; rw [hVh]; exact Ks961.at_ (s := s) hV)) (g := (mkF m 232 #[o0, o1, o2, o3, o4, vi (2 : Int32), vi q1, vi (0 : Int32), vi q2, o9, o10, o11, vi c0, vi c1, vi e0, vi e1, vr b891, vr b896, vr b901, .unset, .unset, .unset] [(.int q1), (.ref b924), (.ref b916), (.ref b916)])) rfl (by rw [hml]; rfl) (a := b916) (argsL := [(.ref b924), (.int q1)]) (rest := [(.ref b916)]) (lenOf pd_18 rfl) rfl (by show 2 * 0 + _ ≤ _; exact Nat.le_of_eq rfl) (hb hby at_232) (fun _ _ => ⟨rfl, rfl, (by decide : 7 + 6 ≤ _), (by decide : 16 + 176 ≤ _)⟩)
      dsimp only [Pt.U, Pt.locs, Pt.cells, Pt.slots] at X959 l959 y959 z959 st959 hQ959 Si959 hKv959 hKh959
      subst l959 y959 z959
      obtain ⟨rfl, N959q, K959, u959_0, u959_1⟩ := hQ959
      have N959 := Fr.app N935 N959q
      refine Goes.via st959 ?_
      obtain ⟨X959', SI959, hZ, hown⟩ := rebS SI0 sk962 X959 Si959 K959.1 hZ hown
      have Ks959 : KS Z own_KL T959.vm T959.heap := by rw [← hKv959, ← hKh959]; exact hK959
      show Goes p e below _ (T959.setTop (mkF m 235 #[o0, o1, o2, o3, o4, vi (2 : Int32), vi q1, vi (0 : Int32), vi q2, o9, o10, o11, vi c0, vi c1, vi e0, vi e1, vr b891, vr b896, vr b901, .unset, .unset, .unset] [(.ref b916)]))
      refine Goes.via (fun _ kk_ => XS.astore X959'.here hx rfl (hb hby at_235) rfl rfl (l' := #[o0, o1, o2, o3, o4, vi (2 : Int32), vi q1, vi (0 : Int32), vi q2, o9, o10, o11, vi c0, vi c1, vi e0, vi e1, vr b891, vr b896, vr b901, vr b916, .unset, .unset]) rfl kk_) ?_
      show Goes p e below _ (T959.setTop (mkF m 237 #[o0, o1, o2, o3, o4, vi (2 : Int32), vi q1, vi (0 : Int32), vi q2, o9, o10, o11, vi c0, vi c1, vi e0, vi e1, vr b891, vr b896, vr b901, vr b916, .unset, .unset] []))
      obtain ⟨T963, h963, X963, e963, E963, A963, D963, -, st963⟩ := newO X959' hx hZ hown (own_w hw 37 rfl) (own_w hw 38 rfl) (own_w hw 39 rfl) rfl (g := (mkF m 237 #[o0, o1, o2, o3, o4, vi (2 : Int32), vi q1, vi (0 : Int32), vi q2, o9, o10, o11, vi c0, vi c1, vi e0, vi e1, vr b891, vr b896, vr b901, vr b916, .unset, .unset] [])) rfl (hb hby at_237) (by first | decide | omega | (dsimp only; omega)) (by first | decide | omega | (dsimp only; omega))
      obtain ⟨b963, g963⟩ : ∃ z, z = (T959.heap).size := ⟨_, rfl⟩
      rw [← g963] at A963 D963 st963
      have f964 : Arw Z T959.heap b891 k891 .char 2 (own_upd (own_upd (fun _ => (.int 0)) 0 (.int (nar .char c0))) 1 (.int (nar .char c1))) := ((f936.keep K935 (ninS ne926 nin0)).keep K959 (ninS ne918 nin0))
      have lne965 : b891 < b963 := Nat.lt_of_lt_of_le f964.lt (Nat.le_of_eq g963.symm)
      have ne965 : b891 ≠ b963 := Nat.ne_of_lt lne965
      have f966 : Arw Z T959.heap b896 k896 .char 0 (fun _ => (.int 0)) := ((f941.keep K935 (ninS ne928 nin0)).keep K959 (ninS ne920 nin0))
      have lne967 : b896 < b963 := Nat.lt_of_lt_of_le f966.lt (Nat.le_of_eq g963.symm)
      have ne967 : b896 ≠ b963 := Nat.ne_of_lt lne967
      have f968 : Exa Z T959.heap b901 "java/lang/String" := (f950.keep K959)
      have lne969 : b901 < b963 := Nat.lt_of_lt_of_le f968.lt (Nat.le_of_eq g963.symm)
      have ne969 : b901 ≠ b963 := Nat.ne_of_lt lne969
      have f970 : Arv Z T959.heap sb906 kb906 .byte (own_n (2 : Int32) c0 c1) (own_v (2 : Int32) c0 c1) (.int 0) := ((f945.keep K935 (ninS ne932 nin0)).keep K959 (ninS ne922 nin0))
      have lne971 : sb906 < b963 := Nat.lt_of_lt_of_le f970.lt (Nat.le_of_eq g963.symm)
      have ne971 : sb906 ≠ b963 := Nat.ne_of_lt lne971
      have lne972 : b916 < b963 := Nat.lt_of_lt_of_le u959_0.lt (Nat.le_of_eq g963.symm)
      have ne972 : b916 ≠ b963 := Nat.ne_of_lt lne972
      have f973 : Exa Z T959.heap b924 "java/lang/String" := (uE935.keep K959)
      have lne974 : b924 < b963 := Nat.lt_of_lt_of_le f973.lt (Nat.le_of_eq g963.symm)
      have ne974 : b924 ≠ b963 := Nat.ne_of_lt lne974
      have f975 : Arv Z T959.heap sb935 kb935 .byte (own_n (2 : Int32) c0 c1) (own_v (2 : Int32) c0 c1) (.int 0) := (Vf952.keep K959 (ninS (Ne.symm ne948) nin0))
      have lne976 : sb935 < b963 := Nat.lt_of_lt_of_le f975.lt (Nat.le_of_eq g963.symm)
      have ne976 : sb935 ≠ b963 := Nat.ne_of_lt lne976
      have z977 : h0.size ≤ (T959.heap).size := (Nat.le_trans z960 K959.1)
      have sz_b963 : h0.size ≤ b963 := Nat.le_trans z977 (Nat.le_of_eq g963.symm)
      have gn_b963 : n0 ≤ b963 := Nat.le_trans Z0 sz_b963
      have F_content_b963 : Fld Z h963 b963 "com/example/map_rewriter/maprewriter/core/Symbol" "content" "Ljava/lang/String;" .null := D963 (Or.inr (own_w hw 98 rfl)) (ty := (.object "java/lang/String")) (by decide)
      have F_quoted_b963 : Fld Z h963 b963 "com/example/map_rewriter/maprewriter/core/Symbol" "quoted" "Z" (.int (0 : Int32)) := D963 (Or.inr (own_w hw 100 rfl)) (ty := .boolean) (by decide)
      refine Goes.via st963 ?_
      show Goes p e below _ (T963.setTop (mkF m 240 #[o0, o1, o2, o3, o4, vi (2 : Int32), vi q1, vi (0 : Int32), vi q2, o9, o10, o11, vi c0, vi c1, vi e0, vi e1, vr b891, vr b896, vr b901, vr b916, .unset, .unset] [(.ref b963)]))
      refine gDU X963 hx hby at_240 rfl ?_
      obtain ⟨T978, h978, X978, e978, E978, A978, D978, -, st978⟩ := newO X963 hx hZ hown (own_w hw 8 rfl) (own_w hw 9 rfl) (own_w hw 10 rfl) e963 (g := (mkF m 241 #[o0, o1, o2, o3, o4, vi (2 : Int32), vi q1, vi (0 : Int32), vi q2, o9, o10, o11, vi c0, vi c1, vi e0, vi e1, vr b891, vr b896, vr b901, vr b916, .unset, .unset] [(.ref b963), (.ref b963)])) rfl (hb hby at_241) (by first | decide | omega | (dsimp only; omega)) (by first | decide | omega | (dsimp only; omega))
      obtain ⟨b978, g978⟩ : ∃ z, z = (h963).size := ⟨_, rfl⟩
      rw [← g978] at A978 D978 st978
      have f979 : Arw Z h963 b891 k891 .char 2 (own_upd (own_upd (fun _ => (.int 0)) 0 (.int (nar .char c0))) 1 (.int (nar .char c1))) := (f964.ext E963)
      have lne980 : b891 < b978 := Nat.lt_of_lt_of_le f979.lt (Nat.le_of_eq g978.symm)
      have ne980 : b891 ≠ b978 := Nat.ne_of_lt lne980
      have f981 : Arw Z h963 b896 k896 .char 0 (fun _ => (.int 0)) := (f966.ext E963)
      have lne982 : b896 < b978 := Nat.lt_of_lt_of_le f981.lt (Nat.le_of_eq g978.symm)
      have ne982 : b896 ≠ b978 := Nat.ne_of_lt lne982
      have f983 : Exa Z h963 b901 "java/lang/String" := (f968.ext E963)
      have lne984 : b901 < b978 := Nat.lt_of_lt_of_le f983.lt (Nat.le_of_eq g978.symm)
      have ne984 : b901 ≠ b978 := Nat.ne_of_lt lne984
      have f985 : Arv Z h963 sb906 kb906 .byte (own_n (2 : Int32) c0 c1) (own_v (2 : Int32) c0 c1) (.int 0) := (f970.ext E963)
      have lne986 : sb906 < b978 := Nat.lt_of_lt_of_le f985.lt (Nat.le_of_eq g978.symm)
      have ne986 : sb906 ≠ b978 := Nat.ne_of_lt lne986
      have f987 : Exa Z h963 b916 "com/example/map_rewriter/maprewriter/core/Symbol" := (u959_0.ext E963)
      have lne988 : b916 < b978 := Nat.lt_of_lt_of_le f987.lt (Nat.le_of_eq g978.symm)
      have ne988 : b916 ≠ b978 := Nat.ne_of_lt lne988
      have f989 : Exa Z h963 b924 "java/lang/String" := (f973.ext E963)
      have lne990 : b924 < b978 := Nat.lt_of_lt_of_le f989.lt (Nat.le_of_eq g978.symm)
      have ne990 : b924 ≠ b978 := Nat.ne_of_lt lne990
      have f991 : Arv Z h963 sb935 kb935 .byte (own_n (2 : Int32) c0 c1) (own_v (2 : Int32) c0 c1) (.int 0) := (f975.ext E963)
      have lne992 : sb935 < b978 := Nat.lt_of_lt_of_le f991.lt (Nat.le_of_eq g978.symm)
      have ne992 : sb935 ≠ b978 := Nat.ne_of_lt lne992
      have lne993 : b963 < b978 := Nat.lt_of_lt_of_le A963.lt (Nat.le_of_eq g978.symm)
      have ne993 : b963 ≠ b978 := Nat.ne_of_lt lne993
      have z994 : h0.size ≤ (h963).size := (Nat.le_trans z977 E963.1)
      have sz_b978 : h0.size ≤ b978 := Nat.le_trans z994 (Nat.le_of_eq g978.symm)
      have gn_b978 : n0 ≤ b978 := Nat.le_trans Z0 sz_b978
      have F_coder_b978 : Fld Z h978 b978 "java/lang/String" "coder" "B" (.int (0 : Int32)) := D978 (Or.inr (own_w hw 34 rfl)) (ty := .byte) (by decide)
      have F_value_b978 : Fld Z h978 b978 "java/lang/String" "value" "[B" .null := D978 (Or.inr (own_w hw 36 rfl)) (ty := (.array .byte)) (by decide)
      refine Goes.via st978 ?_
      show Goes p e below _ (T978.setTop (mkF m 244 #[o0, o1, o2, o3, o4, vi (2 : Int32), vi q1, vi (0 : Int32), vi q2, o9, o10, o11, vi c0, vi c1, vi e0, vi e1, vr b891, vr b896, vr b901, vr b916, .unset, .unset] [(.ref b978), (.ref b963), (.ref b963)]))
      refine gDU X978 hx hby at_244 rfl ?_
      refine gAL X978 hx hby at_245 rfl rfl ?_
      have f995 : Arw Z h978 b896 k896 .char 0 (fun _ => (.int 0)) := (f981.ext E978)
      have ol996 : Old Z n0 (h978) := (((ol958.keep K959 (allS gn_b916 all0)).ext E963).ext E978)
      have z998 : h0.size ≤ (h978).size := (Nat.le_trans z994 E978.1)
      have Ks999 : KS Z own_KL T959.vm (h978) := ((Ks959.ext E963).ext E978)
      have sk1000 : _ ≤ (h978).size := (Nat.le_trans (Nat.le_trans (Nat.le_refl _) E963.1) E978.1)
      obtain ⟨_, _, ⟨T997, L997, k997, n997⟩, -, ⟨X997, Si997⟩, ⟨Lc997, ⟨hQ997, tK997, hK997, hKv997, hKh997⟩, l997, y997, z997⟩, st997⟩ := own_specialW X978 hx (y := (⟨"java/lang/String", "<init>", "([C)V"⟩ : MethodName)) rfl hown (mvT hZ (own_w hw 11 rfl)) (mvT hZ (own_w hw 12 rfl)) (mvT hZ (own_w hw 13 rfl)) (by decide) (own_backOfW (W := 3) (K := (fun U_ => KS Z own_KL U_.vm U_.heap)) (KP := (fun U_ => KS Z own_KL U_.vm U_.heap)) (rm3e l Z a0 hw [] b978 b896 k896 (fun _ => (.int 0)) h978 n0 (Nat.le_trans Z0 z998) A978 F_value_b978 F_coder_b978 gn_b978 f995 ol996 HW HC0 HC1 HC2) hZ (own_w hw 13 rfl) (own_w hw 10 rfl) (by decide) (by decide) (fun V_ hV hVh => by show KS Z own_KL V_.vm V_.heap; rw [hVh]; exact Ks999.at_ (s := s) hV)) (g := (mkF m 247 #[o0, o1, o2, o3, o4, vi (2 : Int32), vi q1, vi (0 : Int32), vi q2, o9, o10, o11, vi c0, vi c1, vi e0, vi e1, vr b891, vr b896, vr b901, vr b916, .unset, .unset] [(.ref b896), (.ref b978), (.ref b978), (.ref b963), (.ref b963)])) rfl (by rw [hml]; rfl) (a := b978) (argsL := [(.ref b896)]) (rest := [(.ref b978), (.ref b963), (.ref b963)]) (lenOf pd_17 rfl) rfl (by show 2 * 0 + _ ≤ _; exact Nat.le_of_eq rfl) (hb hby at_247) (fun _ _ => ⟨rfl, e978, (by decide : 15 + 2 ≤ _), (by decide : 198 + 4 ≤ _)⟩)
      dsimp only [Pt.U, Pt.locs, Pt.cells, Pt.slots] at X997 l997 y997 z997 st997 hQ997 Si997 hKv997 hKh997
      subst l997 y997 z997
      obtain ⟨tb997, tk997, rfl, N997q, K997, u997_0, u997_1, u997_2, u997_3⟩ := hQ997
      have N997 := Fr.app N959 N997q
      refine Goes.via st997 ?_
      obtain ⟨X997', SI997, hZ, hown⟩ := rebS SI959 sk1000 X997 Si997 K997.1 hZ hown
      have Ks997 : KS Z own_KL T997.vm T997.heap := by rw [← hKv997, ← hKh997]; exact hK997
      have ne1001 : b978 ≠ tb997 := own_ne_arr u997_0 (own_w hw 9 rfl) u997_3
      show Goes p e below _ (T997.setTop (mkF m 250 #[o0, o1, o2, o3, o4, vi (2 : Int32), vi q1, vi (0 : Int32), vi q2, o9, o10, o11, vi c0, vi c1, vi e0, vi e1, vr b891, vr b896, vr b901, vr b916, .unset, .unset] [(.ref b978), (.ref b963), (.ref b963)]))
      have f1002 : Exa Z T997.heap b901 "java/lang/String" := ((f983.ext E978).keep K997)
      have f1003 : Exa Z T997.heap b916 "com/example/map_rewriter/maprewriter/core/Symbol" := ((f987.ext E978).keep K997)
      have f1004 : Exa Z T997.heap b924 "java/lang/String" := ((f989.ext E978).keep K997)
      have f1005 : Exa Z T997.heap b963 "com/example/map_rewriter/maprewriter/core/Symbol" := ((A963.ext E978).keep K997)
      have ne1006 : b901 ≠ tb997 := own_ne_arr f1002 (own_w hw 9 rfl) u997_3
      have ne1007 : b916 ≠ tb997 := own_ne_arr f1003 (own_w hw 38 rfl) u997_3
      have ne1008 : b924 ≠ tb997 := own_ne_arr f1004 (own_w hw 9 rfl) u997_3
      have ne1009 : b963 ≠ tb997 := own_ne_arr f1005 (own_w hw 38 rfl) u997_3
      have Vf1010 : Arv Z T997.heap tb997 tk997 .byte (own_n (0 : Int32) e0 e1) (own_v (0 : Int32) e0 e1) (.int 0) := (Arw.toArv u997_3 (by rw [own_na0]; decide) (fun i hi => absurd hi (Nat.not_lt_zero _)))
      have Vg1010 : Arw Z T997.heap tb997 tk997 .byte 0 (fun i => .int (own_g (0 : Int32) e0 e1 i)) := Arw.ofArv Vf1010 (by rw [own_na0]; decide) (fun i hi => by exact absurd hi (Nat.not_lt_zero _))
      refine gIL X997' hx hby at_250 rfl ?_
      have f1011 : Fld Z T997.heap b963 "com/example/map_rewriter/maprewriter/core/Symbol" "content" "Ljava/lang/String;" .null := ((F_content_b963.ext E978).keep K997 (ninS ne993 nin0))
      have f1012 : Fld Z T997.heap b963 "com/example/map_rewriter/maprewriter/core/Symbol" "quoted" "Z" (.int (0 : Int32)) := ((F_quoted_b963.ext E978).keep K997 (ninS ne993 nin0))
      have K1013 : Keep h0 T997.heap [] := ((((K955.trans K959 (allS (Or.inr sz_b916) all0)).ext E963).ext E978).trans K997 (allS (Or.inr sz_b978) all0))
      have f1014 : Sta Z T997.heap "java/lang/String" "COMPACT_STRINGS" "Z" (.int cS) := own_sta_keep OS K1013
      have f1015 : Sta Z T997.heap "jdk/internal/util/Preconditions" "SIOOBE_FORMATTER" "Ljava/util/function/BiFunction;" fo := own_sta_keep OF K1013
      have ol1016 : Old Z n0 (T997.heap) := (ol996.keep K997 (allS gn_b978 all0))
      have z1018 : h0.size ≤ (T997.heap).size := (Nat.le_trans z998 K997.1)
      obtain ⟨_, _, ⟨T1017, L1017, k1017, n1017⟩, -, ⟨X1017, Si1017⟩, ⟨Lc1017, ⟨hQ1017, tK1017, hK1017, hKv1017, hKh1017⟩, l1017, y1017, z1017⟩, st1017⟩ := own_specialW X997' hx (y := (⟨"com/example/map_rewriter/maprewriter/core/Symbol", "<init>", "(Ljava/lang/String;Z)V"⟩ : MethodName)) rfl hown (mvT hZ (own_w hw 40 rfl)) (mvT hZ (own_w hw 41 rfl)) (mvT hZ (own_w hw 42 rfl)) (by decide) (own_backOfW (W := 1) (K := (fun U_ => KS Z own_KL U_.vm U_.heap)) (KP := (fun U_ => KS Z own_KL U_.vm U_.heap)) (rm9 l Z a0 hw [] b963 b978 q2 tb997 tk997 0 (own_g (0 : Int32) e0 e1) (0 : Int32) cS fo T997.heap n0 (Nat.le_trans Z0 z1018) f1005 f1011 f1012 gn_b963 u997_0 u997_1 u997_2 Vg1010 (by decide) f1014 H_cs f1015 Hfo (hk1 0 (by decide)) ol1016 HW HC0 HC1 HC2) hZ (own_w hw 42 rfl) (own_w hw 39 rfl) (by decide) (by decide) (fun V_ hV hVh => by show KS Z own_KL V_.vm V_.heap; rw [hVh]; exact Ks997.at_ (s := s) hV)) (g := (mkF m 252 #[o0, o1, o2, o3, o4, vi (2 : Int32), vi q1, vi (0 : Int32), vi q2, o9, o10, o11, vi c0, vi c1, vi e0, vi e1, vr b891, vr b896, vr b901, vr b916, .unset, .unset] [(.int q2), (.ref b978), (.ref b963), (.ref b963)])) rfl (by rw [hml]; rfl) (a := b963) (argsL := [(.ref b978), (.int q2)]) (rest := [(.ref b963)]) (lenOf pd_18 rfl) rfl (by show 2 * 0 + _ ≤ _; exact Nat.le_of_eq rfl) (hb hby at_252) (fun _ _ => ⟨rfl, rfl, (by decide : 17 + 6 ≤ _), (by decide : 202 + 176 ≤ _)⟩)
      dsimp only [Pt.U, Pt.locs, Pt.cells, Pt.slots] at X1017 l1017 y1017 z1017 st1017 hQ1017 Si1017 hKv1017 hKh1017
      subst l1017 y1017 z1017
      obtain ⟨rfl, N1017q, K1017, u1017_0, u1017_1⟩ := hQ1017
      have N1017 := Fr.app N997 N1017q
      refine Goes.via st1017 ?_
      obtain ⟨X1017', SI1017, hZ, hown⟩ := rebS SI997 (Nat.le_refl _) X1017 Si1017 K1017.1 hZ hown
      have Ks1017 : KS Z own_KL T1017.vm T1017.heap := by rw [← hKv1017, ← hKh1017]; exact hK1017
      show Goes p e below _ (T1017.setTop (mkF m 255 #[o0, o1, o2, o3, o4, vi (2 : Int32), vi q1, vi (0 : Int32), vi q2, o9, o10, o11, vi c0, vi c1, vi e0, vi e1, vr b891, vr b896, vr b901, vr b916, .unset, .unset] [(.ref b963)]))
      refine Goes.via (fun _ kk_ => XS.astore X1017'.here hx rfl (hb hby at_255) rfl rfl (l' := #[o0, o1, o2, o3, o4, vi (2 : Int32), vi q1, vi (0 : Int32), vi q2, o9, o10, o11, vi c0, vi c1, vi e0, vi e1, vr b891, vr b896, vr b901, vr b916, vr b963, .unset]) rfl kk_) ?_
      show Goes p e below _ (T1017.setTop (mkF m 257 #[o0, o1, o2, o3, o4, vi (2 : Int32), vi q1, vi (0 : Int32), vi q2, o9, o10, o11, vi c0, vi c1, vi e0, vi e1, vr b891, vr b896, vr b901, vr b916, vr b963, .unset] []))
      have K1019 : Keep h0 T1017.heap [] := (K1013.trans K1017 (allS (Or.inr sz_b963) all0))
      have f1020 : Exa Z T1017.heap b916 "com/example/map_rewriter/maprewriter/core/Symbol" := (f1003.keep K1017)
      have f1021 : Fld Z T1017.heap b916 "com/example/map_rewriter/maprewriter/core/Symbol" "content" "Ljava/lang/String;" (.ref b924) := ((((u959_1.ext E963).ext E978).keep K997 (ninS ne988 nin0)).keep K1017 (ninS ne972 nin0))
      have f1022 : Exa Z T1017.heap b924 "java/lang/String" := (f1004.keep K1017)
      have f1023 : Fld Z T1017.heap b924 "java/lang/String" "coder" "B" (.int (0 : Int32)) := (((((uC935.keep K959 (ninS (Ne.symm ne933) nin0)).ext E963).ext E978).keep K997 (ninS ne990 nin0)).keep K1017 (ninS ne974 nin0))
      have f1024 : Fld Z T1017.heap b924 "java/lang/String" "value" "[B" (.ref sb935) := (((((uV935.keep K959 (ninS (Ne.symm ne933) nin0)).ext E963).ext E978).keep K997 (ninS ne990 nin0)).keep K1017 (ninS ne974 nin0))
      have f1025 : Arv Z T1017.heap sb935 kb935 .byte (own_n (2 : Int32) c0 c1) (own_v (2 : Int32) c0 c1) (.int 0) := (((f991.ext E978).keep K997 (ninS ne992 nin0)).keep K1017 (ninS ne976 nin0))
      have f1026 : Exa Z T1017.heap b978 "java/lang/String" := (u997_0.keep K1017)
      have f1027 : Fld Z T1017.heap b978 "java/lang/String" "coder" "B" (.int (0 : Int32)) := (u997_1.keep K1017 (ninS (Ne.symm ne993) nin0))
      have f1028 : Fld Z T1017.heap b978 "java/lang/String" "value" "[B" (.ref tb997) := (u997_2.keep K1017 (ninS (Ne.symm ne993) nin0))
      have f1029 : Arv Z T1017.heap tb997 tk997 .byte (own_n (0 : Int32) e0 e1) (own_v (0 : Int32) e0 e1) (.int 0) := (Vf1010.keep K1017 (ninS (Ne.symm ne1009) nin0))
      have f1030 : Exa Z T1017.heap b901 "java/lang/String" := (f1002.keep K1017)
      exact J257 b891 b896 b901 b916 b963 b924 b978 sb935 tb997 kb935 tk997 _ _ _ _ (X1017'.more (by decide) (by decide)) SI1017 (Nat.le_refl _) hZ hown Ks1017 N1017 K1019 f1020 f1021 u1017_0 u1017_1 f1022 f1023 f1024 f1025 f1026 f1027 f1028 f1029 f1030
    · subst hz
      show Goes p e below _ (T895.setTop (mkF m 176 #[o0, o1, o2, o3, o4, vi (2 : Int32), vi q1, vi (1 : Int32), vi q2, o9, o10, o11, vi c0, vi c1, vi e0, vi e1, vr b891, .unset, .unset, .unset, .unset, .unset] []))
      refine gIL X895 hx hby at_176 rfl ?_
      obtain ⟨T1031, h1031, k1031, X1031, e1031, E1031, A1031, st1031⟩ := own_newP X895 hx hZ (own_w hw 7 rfl) e895 (g := (mkF m 178 #[o0, o1, o2, o3, o4, vi (2 : Int32), vi q1, vi (1 : Int32), vi q2, o9, o10, o11, vi c0, vi c1, vi e0, vi e1, vr b891, .unset, .unset, .unset, .unset, .unset] [(.int (1 : Int32))])) rfl (hb hby at_178) rfl (n := (1 : Int32)) (N := 1) (by decide) (by decide) (cap := 1) (by first | decide | omega | (dsimp only; omega)) (by first | decide | omega | (dsimp only; omega)) (by first | decide | omega | (dsimp only; omega)) (by first | decide | omega | (dsimp only; omega))
      obtain ⟨b1031, g1031⟩ : ∃ z, z = (h895).size := ⟨_, rfl⟩
      rw [← g1031] at A1031 st1031
      have lne1032 : b891 < b1031 := Nat.lt_of_lt_of_le A895.lt (Nat.le_of_eq g1031.symm)
      have ne1032 : b891 ≠ b1031 := Nat.ne_of_lt lne1032
      have z1033 : h0.size ≤ (h895).size := (Nat.le_trans (Nat.le_trans (Nat.le_trans (Nat.le_refl _) E891.1) (Nat.le_of_eq W893.size.symm)) (Nat.le_of_eq W895.size.symm))
      have sz_b1031 : h0.size ≤ b1031 := Nat.le_trans z1033 (Nat.le_of_eq g1031.symm)
      have gn_b1031 : n0 ≤ b1031 := Nat.le_trans Z0 sz_b1031
      refine Goes.via st1031 ?_
      show Goes p e below _ (T1031.setTop (mkF m 180 #[o0, o1, o2, o3, o4, vi (2 : Int32), vi q1, vi (1 : Int32), vi q2, o9, o10, o11, vi c0, vi c1, vi e0, vi e1, vr b891, .unset, .unset, .unset, .unset, .unset] [(.ref b1031)]))
      refine Goes.via (fun _ kk_ => XS.astore X1031.here hx rfl (hb hby at_180) rfl rfl (l' := #[o0, o1, o2, o3, o4, vi (2 : Int32), vi q1, vi (1 : Int32), vi q2, o9, o10, o11, vi c0, vi c1, vi e0, vi e1, vr b891, vr b1031, .unset, .unset, .unset, .unset]) rfl kk_) ?_
      show Goes p e below _ (T1031.setTop (mkF m 182 #[o0, o1, o2, o3, o4, vi (2 : Int32), vi q1, vi (1 : Int32), vi q2, o9, o10, o11, vi c0, vi c1, vi e0, vi e1, vr b891, vr b1031, .unset, .unset, .unset, .unset] []))
      refine gIL X1031 hx hby at_182 rfl ?_
      refine gIC (z := 1) X1031 hx hby at_184 rfl ?_
      have hc185_1034 : ¬ ((1 : Int32) < (1 : Int32)) := (by decide)
      refine Goes.via (fun _ kk_ => XS.icmpNo X1031.here hx rfl (hb hby at_185) rfl (flt hc185_1034).1 kk_) ?_
      show Goes p e below _ (T1031.setTop (mkF m 188 #[o0, o1, o2, o3, o4, vi (2 : Int32), vi q1, vi (1 : Int32), vi q2, o9, o10, o11, vi c0, vi c1, vi e0, vi e1, vr b891, vr b1031, .unset, .unset, .unset, .unset] []))
      refine gAL X1031 hx hby at_188 rfl rfl ?_
      refine gIC (z := 0) X1031 hx hby at_190 rfl ?_
      refine gIL X1031 hx hby at_191 rfl ?_
      obtain ⟨T1035, h1035, X1035, e1035, W1035, A1035, st1035⟩ := own_castore X1031 hx hZ e1031 A1031 (j := (0 : Int32)) (i := 0) (by decide) (by decide) (by first | decide | omega | (dsimp only; omega)) (g := (mkF m 193 #[o0, o1, o2, o3, o4, vi (2 : Int32), vi q1, vi (1 : Int32), vi q2, o9, o10, o11, vi c0, vi c1, vi e0, vi e1, vr b891, vr b1031, .unset, .unset, .unset, .unset] [(.int e0), (.int (0 : Int32)), (.ref b1031)])) rfl rfl (hb hby at_193)
      refine Goes.via st1035 ?_
      have N1035 := Fr.snoc X1035 N895 gn_b1031
      show Goes p e below _ (T1035.setTop (mkF m 194 #[o0, o1, o2, o3, o4, vi (2 : Int32), vi q1, vi (1 : Int32), vi q2, o9, o10, o11, vi c0, vi c1, vi e0, vi e1, vr b891, vr b1031, .unset, .unset, .unset, .unset] []))
      refine gIL X1035 hx hby at_194 rfl ?_
      refine gIC (z := 2) X1035 hx hby at_196 rfl ?_
      have hc197_1036 : ¬ ((1 : Int32) = (2 : Int32)) := (by decide)
      refine Goes.via (fun _ kk_ => XS.icmpYes X1035.here hx rfl (pc0 := 197) (pc' := 206) rfl (hb hby at_197) rfl (feq hc197_1036).2 (by decide) (by decide) kk_) ?_
      show Goes p e below _ (T1035.setTop (mkF m 206 #[o0, o1, o2, o3, o4, vi (2 : Int32), vi q1, vi (1 : Int32), vi q2, o9, o10, o11, vi c0, vi c1, vi e0, vi e1, vr b891, vr b1031, .unset, .unset, .unset, .unset] []))
      obtain ⟨T1037, h1037, X1037, e1037, E1037, A1037, D1037, -, st1037⟩ := newO X1035 hx hZ hown (own_w hw 8 rfl) (own_w hw 9 rfl) (own_w hw 10 rfl) e1035 (g := (mkF m 206 #[o0, o1, o2, o3, o4, vi (2 : Int32), vi q1, vi (1 : Int32), vi q2, o9, o10, o11, vi c0, vi c1, vi e0, vi e1, vr b891, vr b1031, .unset, .unset, .unset, .unset] [])) rfl (hb hby at_206) (by first | decide | omega | (dsimp only; omega)) (by first | decide | omega | (dsimp only; omega))
      obtain ⟨b1037, g1037⟩ : ∃ z, z = (h1035).size := ⟨_, rfl⟩
      rw [← g1037] at A1037 D1037 st1037
      have f1038 : Arw Z h1035 b891 k891 .char 2 (own_upd (own_upd (fun _ => (.int 0)) 0 (.int (nar .char c0))) 1 (.int (nar .char c1))) := ((A895.ext E1031).other W1035 ne1032)
      have lne1039 : b891 < b1037 := Nat.lt_of_lt_of_le f1038.lt (Nat.le_of_eq g1037.symm)
      have ne1039 : b891 ≠ b1037 := Nat.ne_of_lt lne1039
      have lne1040 : b1031 < b1037 := Nat.lt_of_lt_of_le A1035.lt (Nat.le_of_eq g1037.symm)
      have ne1040 : b1031 ≠ b1037 := Nat.ne_of_lt lne1040
      have z1041 : h0.size ≤ (h1035).size := (Nat.le_trans (Nat.le_trans z1033 E1031.1) (Nat.le_of_eq W1035.size.symm))
      have sz_b1037 : h0.size ≤ b1037 := Nat.le_trans z1041 (Nat.le_of_eq g1037.symm)
      have gn_b1037 : n0 ≤ b1037 := Nat.le_trans Z0 sz_b1037
      have F_coder_b1037 : Fld Z h1037 b1037 "java/lang/String" "coder" "B" (.int (0 : Int32)) := D1037 (Or.inr (own_w hw 34 rfl)) (ty := .byte) (by decide)
      have F_value_b1037 : Fld Z h1037 b1037 "java/lang/String" "value" "[B" .null := D1037 (Or.inr (own_w hw 36 rfl)) (ty := (.array .byte)) (by decide)
      refine Goes.via st1037 ?_
      show Goes p e below _ (T1037.setTop (mkF m 209 #[o0, o1, o2, o3, o4, vi (2 : Int32), vi q1, vi (1 : Int32), vi q2, o9, o10, o11, vi c0, vi c1, vi e0, vi e1, vr b891, vr b1031, .unset, .unset, .unset, .unset] [(.ref b1037)]))
      refine gDU X1037 hx hby at_209 rfl ?_
      refine gAL X1037 hx hby at_210 rfl rfl ?_
      have f1043 : Arw Z h1037 b891 k891 .char 2 (own_upd (own_upd (fun _ => (.int 0)) 0 (.int (nar .char c0))) 1 (.int (nar .char c1))) := (f1038.ext E1037)
      have Va1042 : Arv Z h1037 b891 k891 .char (2 : Int32) ([(nar .char c0), (nar .char c1)].map Value.int) (.int (0 : Int32)) := f1043.toArv (by decide) (by intro i hi; match i, hi with | 0, _ => rfl | 1, _ => rfl)
      have K1044 : Keep h0 h1037 [] := (((((((Keep.refl h0 []).ext E891).wr W893 (Or.inr sz_b891)).wr W895 (Or.inr sz_b891)).ext E1031).wr W1035 (Or.inr sz_b1031)).ext E1037)
      have f1045 : Sta Z h1037 "java/lang/String" "COMPACT_STRINGS" "Z" (.int cS) := own_sta_keep OS K1044
      have z1046 : h0.size ≤ (h1037).size := (Nat.le_trans z1041 E1037.1)
      have hws1042 : ∀ d ∈ StrChars.Road.words, d.before a0 Z = true := fun d hd => hw d ((by decide +kernel : ∀ d ∈ StrChars.Road.words, d ∈ tables_1) d hd)
      have hlat1042 : ∀ c ∈ [(nar .char c0), (nar .char c1)], ¬ c < 0 ∧ ¬ (255 : Int32) < c := (by intro x hx; have q := own_lat (n := (2 : Int32)) (c := c0) (d := c1) (mc0) (mc1) x; rw [own_cs2 _ _ (by decide) (by decide)] at q; exact q hx)
      obtain ⟨_, _, ⟨T1042, L1042, k1042, n1042⟩, -, X1042, ⟨Lc1042, hQ1042, l1042, y1042, z1042⟩, st1042⟩ := X1037.specialBack hx (y := (⟨"java/lang/String", "<init>", "([C)V"⟩ : MethodName)) rfl hown (mvT hZ (own_w hw 11 rfl)) (mvT hZ (own_w hw 12 rfl)) (mvT hZ (own_w hw 13 rfl)) (by decide) (StrChars.Road.backV (W := 1) hZ hws1042 (kI := 4) (own_w hw 9 rfl) (cs := [(nar .char c0), (nar .char c1)]) (bs := [(nar .char c0), (nar .char c1)].map (fun c => c.toInt8.toInt32)) (n := 2) gn_b1037 (Nat.le_trans Z0 z1046) A1037 F_value_b1037 F_coder_b1037 Va1042 f1045 H_cs rfl rfl (by decide) (by decide) hlat1042 rfl (by decide) (by decide)) (g := (mkF m 212 #[o0, o1, o2, o3, o4, vi (2 : Int32), vi q1, vi (1 : Int32), vi q2, o9, o10, o11, vi c0, vi c1, vi e0, vi e1, vr b891, vr b1031, .unset, .unset, .unset, .unset] [(.ref b891), (.ref b1037), (.ref b1037)])) rfl (by rw [hml]; rfl) (Steps.refl _) (a := b1037) (argsL := [(.ref b891)]) (rest := [(.ref b1037)]) (lenOf pd_17 rfl) rfl (by show 2 * 0 + _ ≤ _; exact Nat.le_of_eq rfl) (hb hby at_212) (fun _ _ => ⟨rfl, e1037, (by first | decide | omega : 3 + 1 ≤ _), (by first | decide | omega : 7 + 2 ≤ _)⟩)
      dsimp only [Pt.U, Pt.locs, Pt.cells, Pt.slots] at X1042 l1042 y1042 z1042 st1042 hQ1042
      subst l1042 y1042 z1042
      obtain ⟨rfl, N1042q, K1042, uE1042, uC1042, sb1042, kb1042, ug1042, uz1042, un1042, uV1042, uA1042⟩ := hQ1042
      have N1042 := Fr.app N1035 N1042q
      have ne1047 : b891 ≠ sb1042 := Nat.ne_of_lt (Nat.lt_of_lt_of_le f1043.lt uz1042)
      have f1048 : Arw Z h1037 b1031 k1031 .char 1 (own_upd (fun _ => (.int 0)) 0 (.int (nar .char e0))) := (A1035.ext E1037)
      have ne1049 : b1031 ≠ sb1042 := Nat.ne_of_lt (Nat.lt_of_lt_of_le f1048.lt uz1042)
      have ne1050 : b1037 ≠ sb1042 := Nat.ne_of_lt (Nat.lt_of_lt_of_le A1037.lt uz1042)
      have sz_sb1042 : h0.size ≤ sb1042 := Nat.le_trans z1046 uz1042
      refine Goes.tr st1042 ?_
      show Goes p e below _ (T1042.setTop (mkF m 215 #[o0, o1, o2, o3, o4, vi (2 : Int32), vi q1, vi (1 : Int32), vi q2, o9, o10, o11, vi c0, vi c1, vi e0, vi e1, vr b891, vr b1031, .unset, .unset, .unset, .unset] [(.ref b1037)]))
      have Vf1051 : Arv Z T1042.heap sb1042 kb1042 .byte (own_n (2 : Int32) c0 c1) (own_v (2 : Int32) c0 c1) (.int 0) := (by unfold own_n own_v; rw [own_cs2 _ _ (by decide) (by decide)]; exact uA1042)
      refine Goes.via (fun _ kk_ => XS.astore X1042.here hx rfl (hb hby at_215) rfl rfl (l' := #[o0, o1, o2, o3, o4, vi (2 : Int32), vi q1, vi (1 : Int32), vi q2, o9, o10, o11, vi c0, vi c1, vi e0, vi e1, vr b891, vr b1031, vr b1037, .unset, .unset, .unset]) rfl kk_) ?_
      show Goes p e below _ (T1042.setTop (mkF m 217 #[o0, o1, o2, o3, o4, vi (2 : Int32), vi q1, vi (1 : Int32), vi q2, o9, o10, o11, vi c0, vi c1, vi e0, vi e1, vr b891, vr b1031, vr b1037, .unset, .unset, .unset] []))
      obtain ⟨T1052, h1052, X1052, e1052, E1052, A1052, D1052, -, st1052⟩ := newO X1042 hx hZ hown (own_w hw 37 rfl) (own_w hw 38 rfl) (own_w hw 39 rfl) rfl (g := (mkF m 217 #[o0, o1, o2, o3, o4, vi (2 : Int32), vi q1, vi (1 : Int32), vi q2, o9, o10, o11, vi c0, vi c1, vi e0, vi e1, vr b891, vr b1031, vr b1037, .unset, .unset, .unset] [])) rfl (hb hby at_217) (by first | decide | omega | (dsimp only; omega)) (by first | decide | omega | (dsimp only; omega))
      obtain ⟨b1052, g1052⟩ : ∃ z, z = (T1042.heap).size := ⟨_, rfl⟩
      rw [← g1052] at A1052 D1052 st1052
      have f1053 : Arw Z T1042.heap b891 k891 .char 2 (own_upd (own_upd (fun _ => (.int 0)) 0 (.int (nar .char c0))) 1 (.int (nar .char c1))) := (f1043.keep K1042 (ninS ne1039 nin0))
      have lne1054 : b891 < b1052 := Nat.lt_of_lt_of_le f1053.lt (Nat.le_of_eq g1052.symm)
      have ne1054 : b891 ≠ b1052 := Nat.ne_of_lt lne1054
      have f1055 : Arw Z T1042.heap b1031 k1031 .char 1 (own_upd (fun _ => (.int 0)) 0 (.int (nar .char e0))) := (f1048.keep K1042 (ninS ne1040 nin0))
      have lne1056 : b1031 < b1052 := Nat.lt_of_lt_of_le f1055.lt (Nat.le_of_eq g1052.symm)
      have ne1056 : b1031 ≠ b1052 := Nat.ne_of_lt lne1056
      have lne1057 : b1037 < b1052 := Nat.lt_of_lt_of_le uE1042.lt (Nat.le_of_eq g1052.symm)
      have ne1057 : b1037 ≠ b1052 := Nat.ne_of_lt lne1057
      have lne1058 : sb1042 < b1052 := Nat.lt_of_lt_of_le Vf1051.lt (Nat.le_of_eq g1052.symm)
      have ne1058 : sb1042 ≠ b1052 := Nat.ne_of_lt lne1058
      have z1059 : h0.size ≤ (T1042.heap).size := (Nat.le_trans z1046 K1042.1)
      have sz_b1052 : h0.size ≤ b1052 := Nat.le_trans z1059 (Nat.le_of_eq g1052.symm)
      have gn_b1052 : n0 ≤ b1052 := Nat.le_trans Z0 sz_b1052
      have F_content_b1052 : Fld Z h1052 b1052 "com/example/map_rewriter/maprewriter/core/Symbol" "content" "Ljava/lang/String;" .null := D1052 (Or.inr (own_w hw 98 rfl)) (ty := (.object "java/lang/String")) (by decide)
      have F_quoted_b1052 : Fld Z h1052 b1052 "com/example/map_rewriter/maprewriter/core/Symbol" "quoted" "Z" (.int (0 : Int32)) := D1052 (Or.inr (own_w hw 100 rfl)) (ty := .boolean) (by decide)
      refine Goes.via st1052 ?_
      show Goes p e below _ (T1052.setTop (mkF m 220 #[o0, o1, o2, o3, o4, vi (2 : Int32), vi q1, vi (1 : Int32), vi q2, o9, o10, o11, vi c0, vi c1, vi e0, vi e1, vr b891, vr b1031, vr b1037, .unset, .unset, .unset] [(.ref b1052)]))
      refine gDU X1052 hx hby at_220 rfl ?_
      obtain ⟨T1060, h1060, X1060, e1060, E1060, A1060, D1060, -, st1060⟩ := newO X1052 hx hZ hown (own_w hw 8 rfl) (own_w hw 9 rfl) (own_w hw 10 rfl) e1052 (g := (mkF m 221 #[o0, o1, o2, o3, o4, vi (2 : Int32), vi q1, vi (1 : Int32), vi q2, o9, o10, o11, vi c0, vi c1, vi e0, vi e1, vr b891, vr b1031, vr b1037, .unset, .unset, .unset] [(.ref b1052), (.ref b1052)])) rfl (hb hby at_221) (by first | decide | omega | (dsimp only; omega)) (by first | decide | omega | (dsimp only; omega))
      obtain ⟨b1060, g1060⟩ : ∃ z, z = (h1052).size := ⟨_, rfl⟩
      rw [← g1060] at A1060 D1060 st1060
      have f1061 : Arw Z h1052 b891 k891 .char 2 (own_upd (own_upd (fun _ => (.int 0)) 0 (.int (nar .char c0))) 1 (.int (nar .char c1))) := (f1053.ext E1052)
      have lne1062 : b891 < b1060 := Nat.lt_of_lt_of_le f1061.lt (Nat.le_of_eq g1060.symm)
      have ne1062 : b891 ≠ b1060 := Nat.ne_of_lt lne1062
      have f1063 : Arw Z h1052 b1031 k1031 .char 1 (own_upd (fun _ => (.int 0)) 0 (.int (nar .char e0))) := (f1055.ext E1052)
      have lne1064 : b1031 < b1060 := Nat.lt_of_lt_of_le f1063.lt (Nat.le_of_eq g1060.symm)
      have ne1064 : b1031 ≠ b1060 := Nat.ne_of_lt lne1064
      have f1065 : Exa Z h1052 b1037 "java/lang/String" := (uE1042.ext E1052)
      have lne1066 : b1037 < b1060 := Nat.lt_of_lt_of_le f1065.lt (Nat.le_of_eq g1060.symm)
      have ne1066 : b1037 ≠ b1060 := Nat.ne_of_lt lne1066
      have f1067 : Arv Z h1052 sb1042 kb1042 .byte (own_n (2 : Int32) c0 c1) (own_v (2 : Int32) c0 c1) (.int 0) := (Vf1051.ext E1052)
      have lne1068 : sb1042 < b1060 := Nat.lt_of_lt_of_le f1067.lt (Nat.le_of_eq g1060.symm)
      have ne1068 : sb1042 ≠ b1060 := Nat.ne_of_lt lne1068
      have lne1069 : b1052 < b1060 := Nat.lt_of_lt_of_le A1052.lt (Nat.le_of_eq g1060.symm)
      have ne1069 : b1052 ≠ b1060 := Nat.ne_of_lt lne1069
      have z1070 : h0.size ≤ (h1052).size := (Nat.le_trans z1059 E1052.1)
      have sz_b1060 : h0.size ≤ b1060 := Nat.le_trans z1070 (Nat.le_of_eq g1060.symm)
      have gn_b1060 : n0 ≤ b1060 := Nat.le_trans Z0 sz_b1060
      have F_coder_b1060 : Fld Z h1060 b1060 "java/lang/String" "coder" "B" (.int (0 : Int32)) := D1060 (Or.inr (own_w hw 34 rfl)) (ty := .byte) (by decide)
      have F_value_b1060 : Fld Z h1060 b1060 "java/lang/String" "value" "[B" .null := D1060 (Or.inr (own_w hw 36 rfl)) (ty := (.array .byte)) (by decide)
      refine Goes.via st1060 ?_
      show Goes p e below _ (T1060.setTop (mkF m 224 #[o0, o1, o2, o3, o4, vi (2 : Int32), vi q1, vi (1 : Int32), vi q2, o9, o10, o11, vi c0, vi c1, vi e0, vi e1, vr b891, vr b1031, vr b1037, .unset, .unset, .unset] [(.ref b1060), (.ref b1052), (.ref b1052)]))
      refine gDU X1060 hx hby at_224 rfl ?_
      refine gAL X1060 hx hby at_225 rfl rfl ?_
      have f1072 : Arw Z h1060 b891 k891 .char 2 (own_upd (own_upd (fun _ => (.int 0)) 0 (.int (nar .char c0))) 1 (.int (nar .char c1))) := (f1061.ext E1060)
      have Va1071 : Arv Z h1060 b891 k891 .char (2 : Int32) ([(nar .char c0), (nar .char c1)].map Value.int) (.int (0 : Int32)) := f1072.toArv (by decide) (by intro i hi; match i, hi with | 0, _ => rfl | 1, _ => rfl)
      have K1073 : Keep h0 h1060 [] := (((K1044.trans K1042 (allS (Or.inr sz_b1037) all0)).ext E1052).ext E1060)
      have f1074 : Sta Z h1060 "java/lang/String" "COMPACT_STRINGS" "Z" (.int cS) := own_sta_keep OS K1073
      have z1075 : h0.size ≤ (h1060).size := (Nat.le_trans z1070 E1060.1)
      have hws1071 : ∀ d ∈ StrChars.Road.words, d.before a0 Z = true := fun d hd => hw d ((by decide +kernel : ∀ d ∈ StrChars.Road.words, d ∈ tables_1) d hd)
      have hlat1071 : ∀ c ∈ [(nar .char c0), (nar .char c1)], ¬ c < 0 ∧ ¬ (255 : Int32) < c := (by intro x hx; have q := own_lat (n := (2 : Int32)) (c := c0) (d := c1) (mc0) (mc1) x; rw [own_cs2 _ _ (by decide) (by decide)] at q; exact q hx)
      obtain ⟨_, _, ⟨T1071, L1071, k1071, n1071⟩, -, X1071, ⟨Lc1071, hQ1071, l1071, y1071, z1071⟩, st1071⟩ := X1060.specialBack hx (y := (⟨"java/lang/String", "<init>", "([C)V"⟩ : MethodName)) rfl hown (mvT hZ (own_w hw 11 rfl)) (mvT hZ (own_w hw 12 rfl)) (mvT hZ (own_w hw 13 rfl)) (by decide) (StrChars.Road.backV (W := 3) hZ hws1071 (kI := 4) (own_w hw 9 rfl) (cs := [(nar .char c0), (nar .char c1)]) (bs := [(nar .char c0), (nar .char c1)].map (fun c => c.toInt8.toInt32)) (n := 2) gn_b1060 (Nat.le_trans Z0 z1075) A1060 F_value_b1060 F_coder_b1060 Va1071 f1074 H_cs rfl rfl (by decide) (by decide) hlat1071 rfl (by decide) (by decide)) (g := (mkF m 227 #[o0, o1, o2, o3, o4, vi (2 : Int32), vi q1, vi (1 : Int32), vi q2, o9, o10, o11, vi c0, vi c1, vi e0, vi e1, vr b891, vr b1031, vr b1037, .unset, .unset, .unset] [(.ref b891), (.ref b1060), (.ref b1060), (.ref b1052), (.ref b1052)])) rfl (by rw [hml]; rfl) (Steps.refl _) (a := b1060) (argsL := [(.ref b891)]) (rest := [(.ref b1060), (.ref b1052), (.ref b1052)]) (lenOf pd_17 rfl) rfl (by show 2 * 0 + _ ≤ _; exact Nat.le_of_eq rfl) (hb hby at_227) (fun _ _ => ⟨rfl, e1060, (by first | decide | omega : 6 + 1 ≤ _), (by first | decide | omega : 15 + 2 ≤ _)⟩)
      dsimp only [Pt.U, Pt.locs, Pt.cells, Pt.slots] at X1071 l1071 y1071 z1071 st1071 hQ1071
      subst l1071 y1071 z1071
      obtain ⟨rfl, N1071q, K1071, uE1071, uC1071, sb1071, kb1071, ug1071, uz1071, un1071, uV1071, uA1071⟩ := hQ1071
      have N1071 := Fr.app N1042 N1071q
      have ne1076 : b891 ≠ sb1071 := Nat.ne_of_lt (Nat.lt_of_lt_of_le f1072.lt uz1071)
      have f1077 : Arw Z h1060 b1031 k1031 .char 1 (own_upd (fun _ => (.int 0)) 0 (.int (nar .char e0))) := (f1063.ext E1060)
      have ne1078 : b1031 ≠ sb1071 := Nat.ne_of_lt (Nat.lt_of_lt_of_le f1077.lt uz1071)
      have f1079 : Exa Z h1060 b1037 "java/lang/String" := (f1065.ext E1060)
      have ne1080 : b1037 ≠ sb1071 := Nat.ne_of_lt (Nat.lt_of_lt_of_le f1079.lt uz1071)
      have f1081 : Arv Z h1060 sb1042 kb1042 .byte (own_n (2 : Int32) c0 c1) (own_v (2 : Int32) c0 c1) (.int 0) := (f1067.ext E1060)
      have ne1082 : sb1042 ≠ sb1071 := Nat.ne_of_lt (Nat.lt_of_lt_of_le f1081.lt uz1071)
      have f1083 : Exa Z h1060 b1052 "com/example/map_rewriter/maprewriter/core/Symbol" := (A1052.ext E1060)
      have ne1084 : b1052 ≠ sb1071 := Nat.ne_of_lt (Nat.lt_of_lt_of_le f1083.lt uz1071)
      have ne1085 : b1060 ≠ sb1071 := Nat.ne_of_lt (Nat.lt_of_lt_of_le A1060.lt uz1071)
      have sz_sb1071 : h0.size ≤ sb1071 := Nat.le_trans z1075 uz1071
      refine Goes.tr st1071 ?_
      show Goes p e below _ (T1071.setTop (mkF m 230 #[o0, o1, o2, o3, o4, vi (2 : Int32), vi q1, vi (1 : Int32), vi q2, o9, o10, o11, vi c0, vi c1, vi e0, vi e1, vr b891, vr b1031, vr b1037, .unset, .unset, .unset] [(.ref b1060), (.ref b1052), (.ref b1052)]))
      have f1086 : Exa Z T1071.heap b1037 "java/lang/String" := (f1079.keep K1071)
      have f1087 : Exa Z T1071.heap b1052 "com/example/map_rewriter/maprewriter/core/Symbol" := (f1083.keep K1071)
      have Vf1088 : Arv Z T1071.heap sb1071 kb1071 .byte (own_n (2 : Int32) c0 c1) (own_v (2 : Int32) c0 c1) (.int 0) := (by unfold own_n own_v; rw [own_cs2 _ _ (by decide) (by decide)]; exact uA1071)
      have Vg1088 : Arw Z T1071.heap sb1071 kb1071 .byte 2 (fun i => .int (own_g (2 : Int32) c0 c1 i)) := Arw.ofArv Vf1088 (by rw [own_na2]; decide) (fun i hi => by match i, hi with | 0, _ => rfl | 1, _ => rfl)
      refine gIL X1071 hx hby at_230 rfl ?_
      have f1089 : Fld Z T1071.heap b1052 "com/example/map_rewriter/maprewriter/core/Symbol" "content" "Ljava/lang/String;" .null := ((F_content_b1052.ext E1060).keep K1071 (ninS ne1069 nin0))
      have f1090 : Fld Z T1071.heap b1052 "com/example/map_rewriter/maprewriter/core/Symbol" "quoted" "Z" (.int (0 : Int32)) := ((F_quoted_b1052.ext E1060).keep K1071 (ninS ne1069 nin0))
      have K1091 : Keep h0 T1071.heap [] := (K1073.trans K1071 (allS (Or.inr sz_b1060) all0))
      have f1092 : Sta Z T1071.heap "java/lang/String" "COMPACT_STRINGS" "Z" (.int cS) := own_sta_keep OS K1091
      have f1093 : Sta Z T1071.heap "jdk/internal/util/Preconditions" "SIOOBE_FORMATTER" "Ljava/util/function/BiFunction;" fo := own_sta_keep OF K1091
      have ol1094 : Old Z n0 (T1071.heap) := ((((((((((HO.ext E891).wr W893 gn_b891).wr W895 gn_b891).ext E1031).wr W1035 gn_b1031).ext E1037).keep K1042 (allS gn_b1037 all0)).ext E1052).ext E1060).keep K1071 (allS gn_b1060 all0))
      have z1096 : h0.size ≤ (T1071.heap).size := (Nat.le_trans z1075 K1071.1)
      have Ks1097 : KS Z own_KL s.vm (T1071.heap) := (((((((((Ks0.ext E891).keep (((Keep.refl _ [b891]).wr W893 (Or.inl (List.mem_of_getElem? (i := 0) rfl))).wr W895 (Or.inl (List.mem_of_getElem? (i := 0) rfl))) (allS (NoS.arr A891 (own_w hw 9 rfl) (by intro q; cases q)) all0)).ext E1031).wr W1035 (NoS.arr A1031 (own_w hw 9 rfl) (by intro q; cases q))).ext E1037).keep K1042 (allS (NoS.str A1037 (own_w hw 9 rfl) F_value_b1037) all0)).ext E1052).ext E1060).keep K1071 (allS (NoS.str A1060 (own_w hw 9 rfl) F_value_b1060) all0))
      have sk1098 : _ ≤ (T1071.heap).size := (Nat.le_trans (Nat.le_trans (Nat.le_trans (Nat.le_trans (Nat.le_trans (Nat.le_trans (Nat.le_trans (Nat.le_trans (Nat.le_trans (Nat.le_trans (Nat.zero_le _) E891.1) (Nat.le_of_eq W893.size.symm)) (Nat.le_of_eq W895.size.symm)) E1031.1) (Nat.le_of_eq W1035.size.symm)) E1037.1) K1042.1) E1052.1) E1060.1) K1071.1)
      obtain ⟨_, _, ⟨T1095, L1095, k1095, n1095⟩, -, ⟨X1095, Si1095⟩, ⟨Lc1095, ⟨hQ1095, tK1095, hK1095, hKv1095, hKh1095⟩, l1095, y1095, z1095⟩, st1095⟩ := own_specialW X1071 hx (y := (⟨"com/example/map_rewriter/maprewriter/core/Symbol", "<init>", "(Ljava/lang/String;Z)V"⟩ : MethodName)) rfl hown (mvT hZ (own_w hw 40 rfl)) (mvT hZ (own_w hw 41 rfl)) (mvT hZ (own_w hw 42 rfl)) (by decide) (own_backOfW (W := 1) (K := (fun U_ => KS Z own_KL U_.vm U_.heap)) (KP := (fun U_ => KS Z own_KL U_.vm U_.heap)) (rm9 l Z a0 hw [] b1052 b1060 q1 sb1071 kb1071 2 (own_g (2 : Int32) c0 c1) (2 : Int32) cS fo T1071.heap n0 (Nat.le_trans Z0 z1096) f1087 f1089 f1090 gn_b1052 uE1071 uC1071 uV1071 Vg1088 (by decide) f1092 H_cs f1093 Hfo (hk0 2 (by decide)) ol1094 HW HC0 HC1 HC2) hZ (own_w hw 42 rfl) (own_w hw 39 rfl) (by decide) (by decide) (fun V_ hV hVh => by show KS Z own_KL V_.vm V_.heap; rw [hVh]; exact Ks1097.at_ (s := s) hV)) (g := (mkF m 232 #[o0, o1, o2, o3, o4, vi (2 : Int32), vi q1, vi (1 : Int32), vi q2, o9, o10, o11, vi c0, vi c1, vi e0, vi e1, vr b891, vr b1031, vr b1037, .unset, .unset, .unset] [(.int q1), (.ref b1060), (.ref b1052), (.ref b1052)])) rfl (by rw [hml]; rfl) (a := b1052) (argsL := [(.ref b1060), (.int q1)]) (rest := [(.ref b1052)]) (lenOf pd_18 rfl) rfl (by show 2 * 0 + _ ≤ _; exact Nat.le_of_eq rfl) (hb hby at_232) (fun _ _ => ⟨rfl, rfl, (by decide : 7 + 6 ≤ _), (by decide : 17 + 176 ≤ _)⟩)
      dsimp only [Pt.U, Pt.locs, Pt.cells, Pt.slots] at X1095 l1095 y1095 z1095 st1095 hQ1095 Si1095 hKv1095 hKh1095
      subst l1095 y1095 z1095
      obtain ⟨rfl, N1095q, K1095, u1095_0, u1095_1⟩ := hQ1095
      have N1095 := Fr.app N1071 N1095q
      refine Goes.via st1095 ?_
      obtain ⟨X1095', SI1095, hZ, hown⟩ := rebS SI0 sk1098 X1095 Si1095 K1095.1 hZ hown
      have Ks1095 : KS Z own_KL T1095.vm T1095.heap := by rw [← hKv1095, ← hKh1095]; exact hK1095
      show Goes p e below _ (T1095.setTop (mkF m 235 #[o0, o1, o2, o3, o4, vi (2 : Int32), vi q1, vi (1 : Int32), vi q2, o9, o10, o11, vi c0, vi c1, vi e0, vi e1, vr b891, vr b1031, vr b1037, .unset, .unset, .unset] [(.ref b1052)]))
      refine Goes.via (fun _ kk_ => XS.astore X1095'.here hx rfl (hb hby at_235) rfl rfl (l' := #[o0, o1, o2, o3, o4, vi (2 : Int32), vi q1, vi (1 : Int32), vi q2, o9, o10, o11, vi c0, vi c1, vi e0, vi e1, vr b891, vr b1031, vr b1037, vr b1052, .unset, .unset]) rfl kk_) ?_
      show Goes p e below _ (T1095.setTop (mkF m 237 #[o0, o1, o2, o3, o4, vi (2 : Int32), vi q1, vi (1 : Int32), vi q2, o9, o10, o11, vi c0, vi c1, vi e0, vi e1, vr b891, vr b1031, vr b1037, vr b1052, .unset, .unset] []))
      obtain ⟨T1099, h1099, X1099, e1099, E1099, A1099, D1099, -, st1099⟩ := newO X1095' hx hZ hown (own_w hw 37 rfl) (own_w hw 38 rfl) (own_w hw 39 rfl) rfl (g := (mkF m 237 #[o0, o1, o2, o3, o4, vi (2 : Int32), vi q1, vi (1 : Int32), vi q2, o9, o10, o11, vi c0, vi c1, vi e0, vi e1, vr b891, vr b1031, vr b1037, vr b1052, .unset, .unset] [])) rfl (hb hby at_237) (by first | decide | omega | (dsimp only; omega)) (by first | decide | omega | (dsimp only; omega))
      obtain ⟨b1099, g1099⟩ : ∃ z, z = (T1095.heap).size := ⟨_, rfl⟩
      rw [← g1099] at A1099 D1099 st1099
      have f1100 : Arw Z T1095.heap b891 k891 .char 2 (own_upd (own_upd (fun _ => (.int 0)) 0 (.int (nar .char c0))) 1 (.int (nar .char c1))) := ((f1072.keep K1071 (ninS ne1062 nin0)).keep K1095 (ninS ne1054 nin0))
      have lne1101 : b891 < b1099 := Nat.lt_of_lt_of_le f1100.lt (Nat.le_of_eq g1099.symm)
      have ne1101 : b891 ≠ b1099 := Nat.ne_of_lt lne1101
      have f1102 : Arw Z T1095.heap b1031 k1031 .char 1 (own_upd (fun _ => (.int 0)) 0 (.int (nar .char e0))) := ((f1077.keep K1071 (ninS ne1064 nin0)).keep K1095 (ninS ne1056 nin0))
      have lne1103 : b1031 < b1099 := Nat.lt_of_lt_of_le f1102.lt (Nat.le_of_eq g1099.symm)
      have ne1103 : b1031 ≠ b1099 := Nat.ne_of_lt lne1103
      have f1104 : Exa Z T1095.heap b1037 "java/lang/String" := (f1086.keep K1095)
      have lne1105 : b1037 < b1099 := Nat.lt_of_lt_of_le f1104.lt (Nat.le_of_eq g1099.symm)
      have ne1105 : b1037 ≠ b1099 := Nat.ne_of_lt lne1105
      have f1106 : Arv Z T1095.heap sb1042 kb1042 .byte (own_n (2 : Int32) c0 c1) (own_v (2 : Int32) c0 c1) (.int 0) := ((f1081.keep K1071 (ninS ne1068 nin0)).keep K1095 (ninS ne1058 nin0))
      have lne1107 : sb1042 < b1099 := Nat.lt_of_lt_of_le f1106.lt (Nat.le_of_eq g1099.symm)
      have ne1107 : sb1042 ≠ b1099 := Nat.ne_of_lt lne1107
      have lne1108 : b1052 < b1099 := Nat.lt_of_lt_of_le u1095_0.lt (Nat.le_of_eq g1099.symm)
      have ne1108 : b1052 ≠ b1099 := Nat.ne_of_lt lne1108
      have f1109 : Exa Z T1095.heap b1060 "java/lang/String" := (uE1071.keep K1095)
      have lne1110 : b1060 < b1099 := Nat.lt_of_lt_of_le f1109.lt (Nat.le_of_eq g1099.symm)
      have ne1110 : b1060 ≠ b1099 := Nat.ne_of_lt lne1110
      have f1111 : Arv Z T1095.heap sb1071 kb1071 .byte (own_n (2 : Int32) c0 c1) (own_v (2 : Int32) c0 c1) (.int 0) := (Vf1088.keep K1095 (ninS (Ne.symm ne1084) nin0))
      have lne1112 : sb1071 < b1099 := Nat.lt_of_lt_of_le f1111.lt (Nat.le_of_eq g1099.symm)
      have ne1112 : sb1071 ≠ b1099 := Nat.ne_of_lt lne1112
      have z1113 : h0.size ≤ (T1095.heap).size := (Nat.le_trans z1096 K1095.1)
      have sz_b1099 : h0.size ≤ b1099 := Nat.le_trans z1113 (Nat.le_of_eq g1099.symm)
      have gn_b1099 : n0 ≤ b1099 := Nat.le_trans Z0 sz_b1099
      have F_content_b1099 : Fld Z h1099 b1099 "com/example/map_rewriter/maprewriter/core/Symbol" "content" "Ljava/lang/String;" .null := D1099 (Or.inr (own_w hw 98 rfl)) (ty := (.object "java/lang/String")) (by decide)
      have F_quoted_b1099 : Fld Z h1099 b1099 "com/example/map_rewriter/maprewriter/core/Symbol" "quoted" "Z" (.int (0 : Int32)) := D1099 (Or.inr (own_w hw 100 rfl)) (ty := .boolean) (by decide)
      refine Goes.via st1099 ?_
      show Goes p e below _ (T1099.setTop (mkF m 240 #[o0, o1, o2, o3, o4, vi (2 : Int32), vi q1, vi (1 : Int32), vi q2, o9, o10, o11, vi c0, vi c1, vi e0, vi e1, vr b891, vr b1031, vr b1037, vr b1052, .unset, .unset] [(.ref b1099)]))
      refine gDU X1099 hx hby at_240 rfl ?_
      obtain ⟨T1114, h1114, X1114, e1114, E1114, A1114, D1114, -, st1114⟩ := newO X1099 hx hZ hown (own_w hw 8 rfl) (own_w hw 9 rfl) (own_w hw 10 rfl) e1099 (g := (mkF m 241 #[o0, o1, o2, o3, o4, vi (2 : Int32), vi q1, vi (1 : Int32), vi q2, o9, o10, o11, vi c0, vi c1, vi e0, vi e1, vr b891, vr b1031, vr b1037, vr b1052, .unset, .unset] [(.ref b1099), (.ref b1099)])) rfl (hb hby at_241) (by first | decide | omega | (dsimp only; omega)) (by first | decide | omega | (dsimp only; omega))
      obtain ⟨b1114, g1114⟩ : ∃ z, z = (h1099).size := ⟨_, rfl⟩
      rw [← g1114] at A1114 D1114 st1114
      have f1115 : Arw Z h1099 b891 k891 .char 2 (own_upd (own_upd (fun _ => (.int 0)) 0 (.int (nar .char c0))) 1 (.int (nar .char c1))) := (f1100.ext E1099)
      have lne1116 : b891 < b1114 := Nat.lt_of_lt_of_le f1115.lt (Nat.le_of_eq g1114.symm)
      have ne1116 : b891 ≠ b1114 := Nat.ne_of_lt lne1116
      have f1117 : Arw Z h1099 b1031 k1031 .char 1 (own_upd (fun _ => (.int 0)) 0 (.int (nar .char e0))) := (f1102.ext E1099)
      have lne1118 : b1031 < b1114 := Nat.lt_of_lt_of_le f1117.lt (Nat.le_of_eq g1114.symm)
      have ne1118 : b1031 ≠ b1114 := Nat.ne_of_lt lne1118
      have f1119 : Exa Z h1099 b1037 "java/lang/String" := (f1104.ext E1099)
      have lne1120 : b1037 < b1114 := Nat.lt_of_lt_of_le f1119.lt (Nat.le_of_eq g1114.symm)
      have ne1120 : b1037 ≠ b1114 := Nat.ne_of_lt lne1120
      have f1121 : Arv Z h1099 sb1042 kb1042 .byte (own_n (2 : Int32) c0 c1) (own_v (2 : Int32) c0 c1) (.int 0) := (f1106.ext E1099)
      have lne1122 : sb1042 < b1114 := Nat.lt_of_lt_of_le f1121.lt (Nat.le_of_eq g1114.symm)
      have ne1122 : sb1042 ≠ b1114 := Nat.ne_of_lt lne1122
      have f1123 : Exa Z h1099 b1052 "com/example/map_rewriter/maprewriter/core/Symbol" := (u1095_0.ext E1099)
      have lne1124 : b1052 < b1114 := Nat.lt_of_lt_of_le f1123.lt (Nat.le_of_eq g1114.symm)
      have ne1124 : b1052 ≠ b1114 := Nat.ne_of_lt lne1124
      have f1125 : Exa Z h1099 b1060 "java/lang/String" := (f1109.ext E1099)
      have lne1126 : b1060 < b1114 := Nat.lt_of_lt_of_le f1125.lt (Nat.le_of_eq g1114.symm)
      have ne1126 : b1060 ≠ b1114 := Nat.ne_of_lt lne1126
      have f1127 : Arv Z h1099 sb1071 kb1071 .byte (own_n (2 : Int32) c0 c1) (own_v (2 : Int32) c0 c1) (.int 0) := (f1111.ext E1099)
      have lne1128 : sb1071 < b1114 := Nat.lt_of_lt_of_le f1127.lt (Nat.le_of_eq g1114.symm)
      have ne1128 : sb1071 ≠ b1114 := Nat.ne_of_lt lne1128
      have lne1129 : b1099 < b1114 := Nat.lt_of_lt_of_le A1099.lt (Nat.le_of_eq g1114.symm)
      have ne1129 : b1099 ≠ b1114 := Nat.ne_of_lt lne1129
      have z1130 : h0.size ≤ (h1099).size := (Nat.le_trans z1113 E1099.1)
      have sz_b1114 : h0.size ≤ b1114 := Nat.le_trans z1130 (Nat.le_of_eq g1114.symm)
      have gn_b1114 : n0 ≤ b1114 := Nat.le_trans Z0 sz_b1114
      have F_coder_b1114 : Fld Z h1114 b1114 "java/lang/String" "coder" "B" (.int (0 : Int32)) := D1114 (Or.inr (own_w hw 34 rfl)) (ty := .byte) (by decide)
      have F_value_b1114 : Fld Z h1114 b1114 "java/lang/String" "value" "[B" .null := D1114 (Or.inr (own_w hw 36 rfl)) (ty := (.array .byte)) (by decide)
      refine Goes.via st1114 ?_
      show Goes p e below _ (T1114.setTop (mkF m 244 #[o0, o1, o2, o3, o4, vi (2 : Int32), vi q1, vi (1 : Int32), vi q2, o9, o10, o11, vi c0, vi c1, vi e0, vi e1, vr b891, vr b1031, vr b1037, vr b1052, .unset, .unset] [(.ref b1114), (.ref b1099), (.ref b1099)]))
      refine gDU X1114 hx hby at_244 rfl ?_
      refine gAL X1114 hx hby at_245 rfl rfl ?_
      have f1132 : Arw Z h1114 b1031 k1031 .char 1 (own_upd (fun _ => (.int 0)) 0 (.int (nar .char e0))) := (f1117.ext E1114)
      have Va1131 : Arv Z h1114 b1031 k1031 .char (1 : Int32) ([(nar .char e0)].map Value.int) (.int (0 : Int32)) := f1132.toArv (by decide) (by intro i hi; match i, hi with | 0, _ => rfl)
      have K1133 : Keep h0 h1114 [] := (((K1091.trans K1095 (allS (Or.inr sz_b1052) all0)).ext E1099).ext E1114)
      have f1134 : Sta Z h1114 "java/lang/String" "COMPACT_STRINGS" "Z" (.int cS) := own_sta_keep OS K1133
      have z1135 : h0.size ≤ (h1114).size := (Nat.le_trans z1130 E1114.1)
      have hws1131 : ∀ d ∈ StrChars.Road.words, d.before a0 Z = true := fun d hd => hw d ((by decide +kernel : ∀ d ∈ StrChars.Road.words, d ∈ tables_1) d hd)
      have hlat1131 : ∀ c ∈ [(nar .char e0)], ¬ c < 0 ∧ ¬ (255 : Int32) < c := (by intro x hx; have q := own_lat (n := (1 : Int32)) (c := e0) (d := e1) (me0) (me1) x; rw [own_cs1 _ _ (by decide) rfl] at q; exact q hx)
      obtain ⟨_, _, ⟨T1131, L1131, k1131, n1131⟩, -, X1131, ⟨Lc1131, hQ1131, l1131, y1131, z1131⟩, st1131⟩ := X1114.specialBack hx (y := (⟨"java/lang/String", "<init>", "([C)V"⟩ : MethodName)) rfl hown (mvT hZ (own_w hw 11 rfl)) (mvT hZ (own_w hw 12 rfl)) (mvT hZ (own_w hw 13 rfl)) (by decide) (StrChars.Road.backV (W := 3) hZ hws1131 (kI := 4) (own_w hw 9 rfl) (cs := [(nar .char e0)]) (bs := [(nar .char e0)].map (fun c => c.toInt8.toInt32)) (n := 1) gn_b1114 (Nat.le_trans Z0 z1135) A1114 F_value_b1114 F_coder_b1114 Va1131 f1134 H_cs rfl rfl (by decide) (by decide) hlat1131 rfl (by decide) (by decide)) (g := (mkF m 247 #[o0, o1, o2, o3, o4, vi (2 : Int32), vi q1, vi (1 : Int32), vi q2, o9, o10, o11, vi c0, vi c1, vi e0, vi e1, vr b891, vr b1031, vr b1037, vr b1052, .unset, .unset] [(.ref b1031), (.ref b1114), (.ref b1114), (.ref b1099), (.ref b1099)])) rfl (by rw [hml]; rfl) (Steps.refl _) (a := b1114) (argsL := [(.ref b1031)]) (rest := [(.ref b1114), (.ref b1099), (.ref b1099)]) (lenOf pd_17 rfl) rfl (by show 2 * 0 + _ ≤ _; exact Nat.le_of_eq rfl) (hb hby at_247) (fun _ _ => ⟨rfl, e1114, (by first | decide | omega : 15 + 1 ≤ _), (by first | decide | omega : 199 + 1 ≤ _)⟩)
      dsimp only [Pt.U, Pt.locs, Pt.cells, Pt.slots] at X1131 l1131 y1131 z1131 st1131 hQ1131
      subst l1131 y1131 z1131
      obtain ⟨rfl, N1131q, K1131, uE1131, uC1131, sb1131, kb1131, ug1131, uz1131, un1131, uV1131, uA1131⟩ := hQ1131
      have N1131 := Fr.app N1095 N1131q
      have f1136 : Arw Z h1114 b891 k891 .char 2 (own_upd (own_upd (fun _ => (.int 0)) 0 (.int (nar .char c0))) 1 (.int (nar .char c1))) := (f1115.ext E1114)
      have ne1137 : b891 ≠ sb1131 := Nat.ne_of_lt (Nat.lt_of_lt_of_le f1136.lt uz1131)
      have ne1138 : b1031 ≠ sb1131 := Nat.ne_of_lt (Nat.lt_of_lt_of_le f1132.lt uz1131)
      have f1139 : Exa Z h1114 b1037 "java/lang/String" := (f1119.ext E1114)
      have ne1140 : b1037 ≠ sb1131 := Nat.ne_of_lt (Nat.lt_of_lt_of_le f1139.lt uz1131)
      have f1141 : Arv Z h1114 sb1042 kb1042 .byte (own_n (2 : Int32) c0 c1) (own_v (2 : Int32) c0 c1) (.int 0) := (f1121.ext E1114)
      have ne1142 : sb1042 ≠ sb1131 := Nat.ne_of_lt (Nat.lt_of_lt_of_le f1141.lt uz1131)
      have f1143 : Exa Z h1114 b1052 "com/example/map_rewriter/maprewriter/core/Symbol" := (f1123.ext E1114)
      have ne1144 : b1052 ≠ sb1131 := Nat.ne_of_lt (Nat.lt_of_lt_of_le f1143.lt uz1131)
      have f1145 : Exa Z h1114 b1060 "java/lang/String" := (f1125.ext E1114)
      have ne1146 : b1060 ≠ sb1131 := Nat.ne_of_lt (Nat.lt_of_lt_of_le f1145.lt uz1131)
      have f1147 : Arv Z h1114 sb1071 kb1071 .byte (own_n (2 : Int32) c0 c1) (own_v (2 : Int32) c0 c1) (.int 0) := (f1127.ext E1114)
      have ne1148 : sb1071 ≠ sb1131 := Nat.ne_of_lt (Nat.lt_of_lt_of_le f1147.lt uz1131)
      have f1149 : Exa Z h1114 b1099 "com/example/map_rewriter/maprewriter/core/Symbol" := (A1099.ext E1114)
      have ne1150 : b1099 ≠ sb1131 := Nat.ne_of_lt (Nat.lt_of_lt_of_le f1149.lt uz1131)
      have ne1151 : b1114 ≠ sb1131 := Nat.ne_of_lt (Nat.lt_of_lt_of_le A1114.lt uz1131)
      have sz_sb1131 : h0.size ≤ sb1131 := Nat.le_trans z1135 uz1131
      refine Goes.tr st1131 ?_
      show Goes p e below _ (T1131.setTop (mkF m 250 #[o0, o1, o2, o3, o4, vi (2 : Int32), vi q1, vi (1 : Int32), vi q2, o9, o10, o11, vi c0, vi c1, vi e0, vi e1, vr b891, vr b1031, vr b1037, vr b1052, .unset, .unset] [(.ref b1114), (.ref b1099), (.ref b1099)]))
      have f1152 : Exa Z T1131.heap b1037 "java/lang/String" := (f1139.keep K1131)
      have f1153 : Exa Z T1131.heap b1052 "com/example/map_rewriter/maprewriter/core/Symbol" := (f1143.keep K1131)
      have f1154 : Exa Z T1131.heap b1060 "java/lang/String" := (f1145.keep K1131)
      have f1155 : Exa Z T1131.heap b1099 "com/example/map_rewriter/maprewriter/core/Symbol" := (f1149.keep K1131)
      have Vf1156 : Arv Z T1131.heap sb1131 kb1131 .byte (own_n (1 : Int32) e0 e1) (own_v (1 : Int32) e0 e1) (.int 0) := (by unfold own_n own_v; rw [own_cs1 _ _ (by decide) rfl]; exact uA1131)
      have Vg1156 : Arw Z T1131.heap sb1131 kb1131 .byte 1 (fun i => .int (own_g (1 : Int32) e0 e1 i)) := Arw.ofArv Vf1156 (by rw [own_na1]; decide) (fun i hi => by match i, hi with | 0, _ => rfl)
      refine gIL X1131 hx hby at_250 rfl ?_
      have f1157 : Fld Z T1131.heap b1099 "com/example/map_rewriter/maprewriter/core/Symbol" "content" "Ljava/lang/String;" .null := ((F_content_b1099.ext E1114).keep K1131 (ninS ne1129 nin0))
      have f1158 : Fld Z T1131.heap b1099 "com/example/map_rewriter/maprewriter/core/Symbol" "quoted" "Z" (.int (0 : Int32)) := ((F_quoted_b1099.ext E1114).keep K1131 (ninS ne1129 nin0))
      have K1159 : Keep h0 T1131.heap [] := (K1133.trans K1131 (allS (Or.inr sz_b1114) all0))
      have f1160 : Sta Z T1131.heap "java/lang/String" "COMPACT_STRINGS" "Z" (.int cS) := own_sta_keep OS K1159
      have f1161 : Sta Z T1131.heap "jdk/internal/util/Preconditions" "SIOOBE_FORMATTER" "Ljava/util/function/BiFunction;" fo := own_sta_keep OF K1159
      have ol1162 : Old Z n0 (T1131.heap) := ((((ol1094.keep K1095 (allS gn_b1052 all0)).ext E1099).ext E1114).keep K1131 (allS gn_b1114 all0))
      have z1164 : h0.size ≤ (T1131.heap).size := (Nat.le_trans z1135 K1131.1)
      have Ks1165 : KS Z own_KL T1095.vm (T1131.heap) := (((Ks1095.ext E1099).ext E1114).keep K1131 (allS (NoS.str A1114 (own_w hw 9 rfl) F_value_b1114) all0))
      have sk1166 : _ ≤ (T1131.heap).size := (Nat.le_trans (Nat.le_trans (Nat.le_trans (Nat.le_refl _) E1099.1) E1114.1) K1131.1)
      obtain ⟨_, _, ⟨T1163, L1163, k1163, n1163⟩, -, ⟨X1163, Si1163⟩, ⟨Lc1163, ⟨hQ1163, tK1163, hK1163, hKv1163, hKh1163⟩, l1163, y1163, z1163⟩, st1163⟩ := own_specialW X1131 hx (y := (⟨"com/example/map_rewriter/maprewriter/core/Symbol", "<init>", "(Ljava/lang/String;Z)V"⟩ : MethodName)) rfl hown (mvT hZ (own_w hw 40 rfl)) (mvT hZ (own_w hw 41 rfl)) (mvT hZ (own_w hw 42 rfl)) (by decide) (own_backOfW (W := 1) (K := (fun U_ => KS Z own_KL U_.vm U_.heap)) (KP := (fun U_ => KS Z own_KL U_.vm U_.heap)) (rm9 l Z a0 hw [] b1099 b1114 q2 sb1131 kb1131 1 (own_g (1 : Int32) e0 e1) (1 : Int32) cS fo T1131.heap n0 (Nat.le_trans Z0 z1164) f1155 f1157 f1158 gn_b1099 uE1131 uC1131 uV1131 Vg1156 (by decide) f1160 H_cs f1161 Hfo (hk1 1 (by decide)) ol1162 HW HC0 HC1 HC2) hZ (own_w hw 42 rfl) (own_w hw 39 rfl) (by decide) (by decide) (fun V_ hV hVh => by show KS Z own_KL V_.vm V_.heap; rw [hVh]; exact Ks1165.at_ (s := s) hV)) (g := (mkF m 252 #[o0, o1, o2, o3, o4, vi (2 : Int32), vi q1, vi (1 : Int32), vi q2, o9, o10, o11, vi c0, vi c1, vi e0, vi e1, vr b891, vr b1031, vr b1037, vr b1052, .unset, .unset] [(.int q2), (.ref b1114), (.ref b1099), (.ref b1099)])) rfl (by rw [hml]; rfl) (a := b1099) (argsL := [(.ref b1114), (.int q2)]) (rest := [(.ref b1099)]) (lenOf pd_18 rfl) rfl (by show 2 * 0 + _ ≤ _; exact Nat.le_of_eq rfl) (hb hby at_252) (fun _ _ => ⟨rfl, rfl, (by decide : 16 + 6 ≤ _), (by decide : 200 + 176 ≤ _)⟩)
      dsimp only [Pt.U, Pt.locs, Pt.cells, Pt.slots] at X1163 l1163 y1163 z1163 st1163 hQ1163 Si1163 hKv1163 hKh1163
      subst l1163 y1163 z1163
      obtain ⟨rfl, N1163q, K1163, u1163_0, u1163_1⟩ := hQ1163
      have N1163 := Fr.app N1131 N1163q
      refine Goes.via st1163 ?_
      obtain ⟨X1163', SI1163, hZ, hown⟩ := rebS SI1095 sk1166 X1163 Si1163 K1163.1 hZ hown
      have Ks1163 : KS Z own_KL T1163.vm T1163.heap := by rw [← hKv1163, ← hKh1163]; exact hK1163
      show Goes p e below _ (T1163.setTop (mkF m 255 #[o0, o1, o2, o3, o4, vi (2 : Int32), vi q1, vi (1 : Int32), vi q2, o9, o10, o11, vi c0, vi c1, vi e0, vi e1, vr b891, vr b1031, vr b1037, vr b1052, .unset, .unset] [(.ref b1099)]))
      refine Goes.via (fun _ kk_ => XS.astore X1163'.here hx rfl (hb hby at_255) rfl rfl (l' := #[o0, o1, o2, o3, o4, vi (2 : Int32), vi q1, vi (1 : Int32), vi q2, o9, o10, o11, vi c0, vi c1, vi e0, vi e1, vr b891, vr b1031, vr b1037, vr b1052, vr b1099, .unset]) rfl kk_) ?_
      show Goes p e below _ (T1163.setTop (mkF m 257 #[o0, o1, o2, o3, o4, vi (2 : Int32), vi q1, vi (1 : Int32), vi q2, o9, o10, o11, vi c0, vi c1, vi e0, vi e1, vr b891, vr b1031, vr b1037, vr b1052, vr b1099, .unset] []))
      have K1167 : Keep h0 T1163.heap [] := (K1159.trans K1163 (allS (Or.inr sz_b1099) all0))
      have f1168 : Exa Z T1163.heap b1052 "com/example/map_rewriter/maprewriter/core/Symbol" := (f1153.keep K1163)
      have f1169 : Fld Z T1163.heap b1052 "com/example/map_rewriter/maprewriter/core/Symbol" "content" "Ljava/lang/String;" (.ref b1060) := ((((u1095_1.ext E1099).ext E1114).keep K1131 (ninS ne1124 nin0)).keep K1163 (ninS ne1108 nin0))
      have f1170 : Exa Z T1163.heap b1060 "java/lang/String" := (f1154.keep K1163)
      have f1171 : Fld Z T1163.heap b1060 "java/lang/String" "coder" "B" (.int (0 : Int32)) := (((((uC1071.keep K1095 (ninS (Ne.symm ne1069) nin0)).ext E1099).ext E1114).keep K1131 (ninS ne1126 nin0)).keep K1163 (ninS ne1110 nin0))
      have f1172 : Fld Z T1163.heap b1060 "java/lang/String" "value" "[B" (.ref sb1071) := (((((uV1071.keep K1095 (ninS (Ne.symm ne1069) nin0)).ext E1099).ext E1114).keep K1131 (ninS ne1126 nin0)).keep K1163 (ninS ne1110 nin0))
      have f1173 : Arv Z T1163.heap sb1071 kb1071 .byte (own_n (2 : Int32) c0 c1) (own_v (2 : Int32) c0 c1) (.int 0) := ((f1147.keep K1131 (ninS ne1128 nin0)).keep K1163 (ninS ne1112 nin0))
      have f1174 : Exa Z T1163.heap b1114 "java/lang/String" := (uE1131.keep K1163)
      have f1175 : Fld Z T1163.heap b1114 "java/lang/String" "coder" "B" (.int (0 : Int32)) := (uC1131.keep K1163 (ninS (Ne.symm ne1129) nin0))
      have f1176 : Fld Z T1163.heap b1114 "java/lang/String" "value" "[B" (.ref sb1131) := (uV1131.keep K1163 (ninS (Ne.symm ne1129) nin0))
      have f1177 : Arv Z T1163.heap sb1131 kb1131 .byte (own_n (1 : Int32) e0 e1) (own_v (1 : Int32) e0 e1) (.int 0) := (Vf1156.keep K1163 (ninS (Ne.symm ne1150) nin0))
      have f1178 : Exa Z T1163.heap b1037 "java/lang/String" := (f1152.keep K1163)
      exact J257 b891 b1031 b1037 b1052 b1099 b1060 b1114 sb1071 sb1131 kb1071 kb1131 _ _ _ _ (X1163'.more (by decide) (by decide)) SI1163 (Nat.le_refl _) hZ hown Ks1163 N1163 K1167 f1168 f1169 u1163_0 u1163_1 f1170 f1171 f1172 f1173 f1174 f1175 f1176 f1177 f1178
    · subst hz
      show Goes p e below _ (T895.setTop (mkF m 176 #[o0, o1, o2, o3, o4, vi (2 : Int32), vi q1, vi (2 : Int32), vi q2, o9, o10, o11, vi c0, vi c1, vi e0, vi e1, vr b891, .unset, .unset, .unset, .unset, .unset] []))
      refine gIL X895 hx hby at_176 rfl ?_
      obtain ⟨T1179, h1179, k1179, X1179, e1179, E1179, A1179, st1179⟩ := own_newP X895 hx hZ (own_w hw 7 rfl) e895 (g := (mkF m 178 #[o0, o1, o2, o3, o4, vi (2 : Int32), vi q1, vi (2 : Int32), vi q2, o9, o10, o11, vi c0, vi c1, vi e0, vi e1, vr b891, .unset, .unset, .unset, .unset, .unset] [(.int (2 : Int32))])) rfl (hb hby at_178) rfl (n := (2 : Int32)) (N := 2) (by decide) (by decide) (cap := 2) (by first | decide | omega | (dsimp only; omega)) (by first | decide | omega | (dsimp only; omega)) (by first | decide | omega | (dsimp only; omega)) (by first | decide | omega | (dsimp only; omega))
      obtain ⟨b1179, g1179⟩ : ∃ z, z = (h895).size := ⟨_, rfl⟩
      rw [← g1179] at A1179 st1179
      have lne1180 : b891 < b1179 := Nat.lt_of_lt_of_le A895.lt (Nat.le_of_eq g1179.symm)
      have ne1180 : b891 ≠ b1179 := Nat.ne_of_lt lne1180
      have z1181 : h0.size ≤ (h895).size := (Nat.le_trans (Nat.le_trans (Nat.le_trans (Nat.le_refl _) E891.1) (Nat.le_of_eq W893.size.symm)) (Nat.le_of_eq W895.size.symm))
      have sz_b1179 : h0.size ≤ b1179 := Nat.le_trans z1181 (Nat.le_of_eq g1179.symm)
      have gn_b1179 : n0 ≤ b1179 := Nat.le_trans Z0 sz_b1179
      refine Goes.via st1179 ?_
      show Goes p e below _ (T1179.setTop (mkF m 180 #[o0, o1, o2, o3, o4, vi (2 : Int32), vi q1, vi (2 : Int32), vi q2, o9, o10, o11, vi c0, vi c1, vi e0, vi e1, vr b891, .unset, .unset, .unset, .unset, .unset] [(.ref b1179)]))
      refine Goes.via (fun _ kk_ => XS.astore X1179.here hx rfl (hb hby at_180) rfl rfl (l' := #[o0, o1, o2, o3, o4, vi (2 : Int32), vi q1, vi (2 : Int32), vi q2, o9, o10, o11, vi c0, vi c1, vi e0, vi e1, vr b891, vr b1179, .unset, .unset, .unset, .unset]) rfl kk_) ?_
      show Goes p e below _ (T1179.setTop (mkF m 182 #[o0, o1, o2, o3, o4, vi (2 : Int32), vi q1, vi (2 : Int32), vi q2, o9, o10, o11, vi c0, vi c1, vi e0, vi e1, vr b891, vr b1179, .unset, .unset, .unset, .unset] []))
      refine gIL X1179 hx hby at_182 rfl ?_
      refine gIC (z := 1) X1179 hx hby at_184 rfl ?_
      have hc185_1182 : ¬ ((2 : Int32) < (1 : Int32)) := (by decide)
      refine Goes.via (fun _ kk_ => XS.icmpNo X1179.here hx rfl (hb hby at_185) rfl (flt hc185_1182).1 kk_) ?_
      show Goes p e below _ (T1179.setTop (mkF m 188 #[o0, o1, o2, o3, o4, vi (2 : Int32), vi q1, vi (2 : Int32), vi q2, o9, o10, o11, vi c0, vi c1, vi e0, vi e1, vr b891, vr b1179, .unset, .unset, .unset, .unset] []))
      refine gAL X1179 hx hby at_188 rfl rfl ?_
      refine gIC (z := 0) X1179 hx hby at_190 rfl ?_
      refine gIL X1179 hx hby at_191 rfl ?_
      obtain ⟨T1183, h1183, X1183, e1183, W1183, A1183, st1183⟩ := own_castore X1179 hx hZ e1179 A1179 (j := (0 : Int32)) (i := 0) (by decide) (by decide) (by first | decide | omega | (dsimp only; omega)) (g := (mkF m 193 #[o0, o1, o2, o3, o4, vi (2 : Int32), vi q1, vi (2 : Int32), vi q2, o9, o10, o11, vi c0, vi c1, vi e0, vi e1, vr b891, vr b1179, .unset, .unset, .unset, .unset] [(.int e0), (.int (0 : Int32)), (.ref b1179)])) rfl rfl (hb hby at_193)
      refine Goes.via st1183 ?_
      have N1183 := Fr.snoc X1183 N895 gn_b1179
      show Goes p e below _ (T1183.setTop (mkF m 194 #[o0, o1, o2, o3, o4, vi (2 : Int32), vi q1, vi (2 : Int32), vi q2, o9, o10, o11, vi c0, vi c1, vi e0, vi e1, vr b891, vr b1179, .unset, .unset, .unset, .unset] []))
      refine gIL X1183 hx hby at_194 rfl ?_
      refine gIC (z := 2) X1183 hx hby at_196 rfl ?_
      have hc197_1184 : (2 : Int32) = (2 : Int32) := (by decide)
      refine Goes.via (fun _ kk_ => XS.icmpNo X1183.here hx rfl (hb hby at_197) rfl (teq hc197_1184).2 kk_) ?_
      show Goes p e below _ (T1183.setTop (mkF m 200 #[o0, o1, o2, o3, o4, vi (2 : Int32), vi q1, vi (2 : Int32), vi q2, o9, o10, o11, vi c0, vi c1, vi e0, vi e1, vr b891, vr b1179, .unset, .unset, .unset, .unset] []))
      refine gAL X1183 hx hby at_200 rfl rfl ?_
      refine gIC (z := 1) X1183 hx hby at_202 rfl ?_
      refine gIL X1183 hx hby at_203 rfl ?_
      obtain ⟨T1185, h1185, X1185, e1185, W1185, A1185, st1185⟩ := own_castore X1183 hx hZ e1183 A1183 (j := (1 : Int32)) (i := 1) (by decide) (by decide) (by first | decide | omega | (dsimp only; omega)) (g := (mkF m 205 #[o0, o1, o2, o3, o4, vi (2 : Int32), vi q1, vi (2 : Int32), vi q2, o9, o10, o11, vi c0, vi c1, vi e0, vi e1, vr b891, vr b1179, .unset, .unset, .unset, .unset] [(.int e1), (.int (1 : Int32)), (.ref b1179)])) rfl rfl (hb hby at_205)
      refine Goes.via st1185 ?_
      have N1185 := Fr.snoc X1185 N1183 gn_b1179
      show Goes p e below _ (T1185.setTop (mkF m 206 #[o0, o1, o2, o3, o4, vi (2 : Int32), vi q1, vi (2 : Int32), vi q2, o9, o10, o11, vi c0, vi c1, vi e0, vi e1, vr b891, vr b1179, .unset, .unset, .unset, .unset] []))
      obtain ⟨T1186, h1186, X1186, e1186, E1186, A1186, D1186, -, st1186⟩ := newO X1185 hx hZ hown (own_w hw 8 rfl) (own_w hw 9 rfl) (own_w hw 10 rfl) e1185 (g := (mkF m 206 #[o0, o1, o2, o3, o4, vi (2 : Int32), vi q1, vi (2 : Int32), vi q2, o9, o10, o11, vi c0, vi c1, vi e0, vi e1, vr b891, vr b1179, .unset, .unset, .unset, .unset] [])) rfl (hb hby at_206) (by first | decide | omega | (dsimp only; omega)) (by first | decide | omega | (dsimp only; omega))
      obtain ⟨b1186, g1186⟩ : ∃ z, z = (h1185).size := ⟨_, rfl⟩
      rw [← g1186] at A1186 D1186 st1186
      have f1187 : Arw Z h1185 b891 k891 .char 2 (own_upd (own_upd (fun _ => (.int 0)) 0 (.int (nar .char c0))) 1 (.int (nar .char c1))) := (((A895.ext E1179).other W1183 ne1180).other W1185 ne1180)
      have lne1188 : b891 < b1186 := Nat.lt_of_lt_of_le f1187.lt (Nat.le_of_eq g1186.symm)
      have ne1188 : b891 ≠ b1186 := Nat.ne_of_lt lne1188
      have lne1189 : b1179 < b1186 := Nat.lt_of_lt_of_le A1185.lt (Nat.le_of_eq g1186.symm)
      have ne1189 : b1179 ≠ b1186 := Nat.ne_of_lt lne1189
      have z1190 : h0.size ≤ (h1185).size := (Nat.le_trans (Nat.le_trans (Nat.le_trans z1181 E1179.1) (Nat.le_of_eq W1183.size.symm)) (Nat.le_of_eq W1185.size.symm))
      have sz_b1186 : h0.size ≤ b1186 := Nat.le_trans z1190 (Nat.le_of_eq g1186.symm)
      have gn_b1186 : n0 ≤ b1186 := Nat.le_trans Z0 sz_b1186
      have F_coder_b1186 : Fld Z h1186 b1186 "java/lang/String" "coder" "B" (.int (0 : Int32)) := D1186 (Or.inr (own_w hw 34 rfl)) (ty := .byte) (by decide)
      have F_value_b1186 : Fld Z h1186 b1186 "java/lang/String" "value" "[B" .null := D1186 (Or.inr (own_w hw 36 rfl)) (ty := (.array .byte)) (by decide)
      refine Goes.via st1186 ?_
      show Goes p e below _ (T1186.setTop (mkF m 209 #[o0, o1, o2, o3, o4, vi (2 : Int32), vi q1, vi (2 : Int32), vi q2, o9, o10, o11, vi c0, vi c1, vi e0, vi e1, vr b891, vr b1179, .unset, .unset, .unset, .unset] [(.ref b1186)]))
      refine gDU X1186 hx hby at_209 rfl ?_
      refine gAL X1186 hx hby at_210 rfl rfl ?_
      have f1192 : Arw Z h1186 b891 k891 .char 2 (own_upd (own_upd (fun _ => (.int 0)) 0 (.int (nar .char c0))) 1 (.int (nar .char c1))) := (f1187.ext E1186)
      have Va1191 : Arv Z h1186 b891 k891 .char (2 : Int32) ([(nar .char c0), (nar .char c1)].map Value.int) (.int (0 : Int32)) := f1192.toArv (by decide) (by intro i hi; match i, hi with | 0, _ => rfl | 1, _ => rfl)
      have K1193 : Keep h0 h1186 [] := ((((((((Keep.refl h0 []).ext E891).wr W893 (Or.inr sz_b891)).wr W895 (Or.inr sz_b891)).ext E1179).wr W1183 (Or.inr sz_b1179)).wr W1185 (Or.inr sz_b1179)).ext E1186)
      have f1194 : Sta Z h1186 "java/lang/String" "COMPACT_STRINGS" "Z" (.int cS) := own_sta_keep OS K1193
      have z1195 : h0.size ≤ (h1186).size := (Nat.le_trans z1190 E1186.1)
      have hws1191 : ∀ d ∈ StrChars.Road.words, d.before a0 Z = true := fun d hd => hw d ((by decide +kernel : ∀ d ∈ StrChars.Road.words, d ∈ tables_1) d hd)
      have hlat1191 : ∀ c ∈ [(nar .char c0), (nar .char c1)], ¬ c < 0 ∧ ¬ (255 : Int32) < c := (by intro x hx; have q := own_lat (n := (2 : Int32)) (c := c0) (d := c1) (mc0) (mc1) x; rw [own_cs2 _ _ (by decide) (by decide)] at q; exact q hx)
      obtain ⟨_, _, ⟨T1191, L1191, k1191, n1191⟩, -, X1191, ⟨Lc1191, hQ1191, l1191, y1191, z1191⟩, st1191⟩ := X1186.specialBack hx (y := (⟨"java/lang/String", "<init>", "([C)V"⟩ : MethodName)) rfl hown (mvT hZ (own_w hw 11 rfl)) (mvT hZ (own_w hw 12 rfl)) (mvT hZ (own_w hw 13 rfl)) (by decide) (StrChars.Road.backV (W := 1) hZ hws1191 (kI := 4) (own_w hw 9 rfl) (cs := [(nar .char c0), (nar .char c1)]) (bs := [(nar .char c0), (nar .char c1)].map (fun c => c.toInt8.toInt32)) (n := 2) gn_b1186 (Nat.le_trans Z0 z1195) A1186 F_value_b1186 F_coder_b1186 Va1191 f1194 H_cs rfl rfl (by decide) (by decide) hlat1191 rfl (by decide) (by decide)) (g := (mkF m 212 #[o0, o1, o2, o3, o4, vi (2 : Int32), vi q1, vi (2 : Int32), vi q2, o9, o10, o11, vi c0, vi c1, vi e0, vi e1, vr b891, vr b1179, .unset, .unset, .unset, .unset] [(.ref b891), (.ref b1186), (.ref b1186)])) rfl (by rw [hml]; rfl) (Steps.refl _) (a := b1186) (argsL := [(.ref b891)]) (rest := [(.ref b1186)]) (lenOf pd_17 rfl) rfl (by show 2 * 0 + _ ≤ _; exact Nat.le_of_eq rfl) (hb hby at_212) (fun _ _ => ⟨rfl, e1186, (by first | decide | omega : 3 + 1 ≤ _), (by first | decide | omega : 8 + 2 ≤ _)⟩)
      dsimp only [Pt.U, Pt.locs, Pt.cells, Pt.slots] at X1191 l1191 y1191 z1191 st1191 hQ1191
      subst l1191 y1191 z1191
      obtain ⟨rfl, N1191q, K1191, uE1191, uC1191, sb1191, kb1191, ug1191, uz1191, un1191, uV1191, uA1191⟩ := hQ1191
      have N1191 := Fr.app N1185 N1191q
      have ne1196 : b891 ≠ sb1191 := Nat.ne_of_lt (Nat.lt_of_lt_of_le f1192.lt uz1191)
      have f1197 : Arw Z h1186 b1179 k1179 .char 2 (own_upd (own_upd (fun _ => (.int 0)) 0 (.int (nar .char e0))) 1 (.int (nar .char e1))) := (A1185.ext E1186)
      have ne1198 : b1179 ≠ sb1191 := Nat.ne_of_lt (Nat.lt_of_lt_of_le f1197.lt uz1191)
      have ne1199 : b1186 ≠ sb1191 := Nat.ne_of_lt (Nat.lt_of_lt_of_le A1186.lt uz1191)
      have sz_sb1191 : h0.size ≤ sb1191 := Nat.le_trans z1195 uz1191
      refine Goes.tr st1191 ?_
      show Goes p e below _ (T1191.setTop (mkF m 215 #[o0, o1, o2, o3, o4, vi (2 : Int32), vi q1, vi (2 : Int32), vi q2, o9, o10, o11, vi c0, vi c1, vi e0, vi e1, vr b891, vr b1179, .unset, .unset, .unset, .unset] [(.ref b1186)]))
      have Vf1200 : Arv Z T1191.heap sb1191 kb1191 .byte (own_n (2 : Int32) c0 c1) (own_v (2 : Int32) c0 c1) (.int 0) := (by unfold own_n own_v; rw [own_cs2 _ _ (by decide) (by decide)]; exact uA1191)
      refine Goes.via (fun _ kk_ => XS.astore X1191.here hx rfl (hb hby at_215) rfl rfl (l' := #[o0, o1, o2, o3, o4, vi (2 : Int32), vi q1, vi (2 : Int32), vi q2, o9, o10, o11, vi c0, vi c1, vi e0, vi e1, vr b891, vr b1179, vr b1186, .unset, .unset, .unset]) rfl kk_) ?_
      show Goes p e below _ (T1191.setTop (mkF m 217 #[o0, o1, o2, o3, o4, vi (2 : Int32), vi q1, vi (2 : Int32), vi q2, o9, o10, o11, vi c0, vi c1, vi e0, vi e1, vr b891, vr b1179, vr b1186, .unset, .unset, .unset] []))
      obtain ⟨T1201, h1201, X1201, e1201, E1201, A1201, D1201, -, st1201⟩ := newO X1191 hx hZ hown (own_w hw 37 rfl) (own_w hw 38 rfl) (own_w hw 39 rfl) rfl (g := (mkF m 217 #[o0, o1, o2, o3, o4, vi (2 : Int32), vi q1, vi (2 : Int32), vi q2, o9, o10, o11, vi c0, vi c1, vi e0, vi e1, vr b891, vr b1179, vr b1186, .unset, .unset, .unset] [])) rfl (hb hby at_217) (by first | decide | omega | (dsimp only; omega)) (by first | decide | omega | (dsimp only; omega))
      obtain ⟨b1201, g1201⟩ : ∃ z, z = (T1191.heap).size := ⟨_, rfl⟩
      rw [← g1201] at A1201 D1201 st1201
      have f1202 : Arw Z T1191.heap b891 k891 .char 2 (own_upd (own_upd (fun _ => (.int 0)) 0 (.int (nar .char c0))) 1 (.int (nar .char c1))) := (f1192.keep K1191 (ninS ne1188 nin0))
      have lne1203 : b891 < b1201 := Nat.lt_of_lt_of_le f1202.lt (Nat.le_of_eq g1201.symm)
      have ne1203 : b891 ≠ b1201 := Nat.ne_of_lt lne1203
      have f1204 : Arw Z T1191.heap b1179 k1179 .char 2 (own_upd (own_upd (fun _ => (.int 0)) 0 (.int (nar .char e0))) 1 (.int (nar .char e1))) := (f1197.keep K1191 (ninS ne1189 nin0))
      have lne1205 : b1179 < b1201 := Nat.lt_of_lt_of_le f1204.lt (Nat.le_of_eq g1201.symm)
      have ne1205 : b1179 ≠ b1201 := Nat.ne_of_lt lne1205
      have lne1206 : b1186 < b1201 := Nat.lt_of_lt_of_le uE1191.lt (Nat.le_of_eq g1201.symm)
      have ne1206 : b1186 ≠ b1201 := Nat.ne_of_lt lne1206
      have lne1207 : sb1191 < b1201 := Nat.lt_of_lt_of_le Vf1200.lt (Nat.le_of_eq g1201.symm)
      have ne1207 : sb1191 ≠ b1201 := Nat.ne_of_lt lne1207
      have z1208 : h0.size ≤ (T1191.heap).size := (Nat.le_trans z1195 K1191.1)
      have sz_b1201 : h0.size ≤ b1201 := Nat.le_trans z1208 (Nat.le_of_eq g1201.symm)
      have gn_b1201 : n0 ≤ b1201 := Nat.le_trans Z0 sz_b1201
      have F_content_b1201 : Fld Z h1201 b1201 "com/example/map_rewriter/maprewriter/core/Symbol" "content" "Ljava/lang/String;" .null := D1201 (Or.inr (own_w hw 98 rfl)) (ty := (.object "java/lang/String")) (by decide)
      have F_quoted_b1201 : Fld Z h1201 b1201 "com/example/map_rewriter/maprewriter/core/Symbol" "quoted" "Z" (.int (0 : Int32)) := D1201 (Or.inr (own_w hw 100 rfl)) (ty := .boolean) (by decide)
      refine Goes.via st1201 ?_
      show Goes p e below _ (T1201.setTop (mkF m 220 #[o0, o1, o2, o3, o4, vi (2 : Int32), vi q1, vi (2 : Int32), vi q2, o9, o10, o11, vi c0, vi c1, vi e0, vi e1, vr b891, vr b1179, vr b1186, .unset, .unset, .unset] [(.ref b1201)]))
      refine gDU X1201 hx hby at_220 rfl ?_
      obtain ⟨T1209, h1209, X1209, e1209, E1209, A1209, D1209, -, st1209⟩ := newO X1201 hx hZ hown (own_w hw 8 rfl) (own_w hw 9 rfl) (own_w hw 10 rfl) e1201 (g := (mkF m 221 #[o0, o1, o2, o3, o4, vi (2 : Int32), vi q1, vi (2 : Int32), vi q2, o9, o10, o11, vi c0, vi c1, vi e0, vi e1, vr b891, vr b1179, vr b1186, .unset, .unset, .unset] [(.ref b1201), (.ref b1201)])) rfl (hb hby at_221) (by first | decide | omega | (dsimp only; omega)) (by first | decide | omega | (dsimp only; omega))
      obtain ⟨b1209, g1209⟩ : ∃ z, z = (h1201).size := ⟨_, rfl⟩
      rw [← g1209] at A1209 D1209 st1209
      have f1210 : Arw Z h1201 b891 k891 .char 2 (own_upd (own_upd (fun _ => (.int 0)) 0 (.int (nar .char c0))) 1 (.int (nar .char c1))) := (f1202.ext E1201)
      have lne1211 : b891 < b1209 := Nat.lt_of_lt_of_le f1210.lt (Nat.le_of_eq g1209.symm)
      have ne1211 : b891 ≠ b1209 := Nat.ne_of_lt lne1211
      have f1212 : Arw Z h1201 b1179 k1179 .char 2 (own_upd (own_upd (fun _ => (.int 0)) 0 (.int (nar .char e0))) 1 (.int (nar .char e1))) := (f1204.ext E1201)
      have lne1213 : b1179 < b1209 := Nat.lt_of_lt_of_le f1212.lt (Nat.le_of_eq g1209.symm)
      have ne1213 : b1179 ≠ b1209 := Nat.ne_of_lt lne1213
      have f1214 : Exa Z h1201 b1186 "java/lang/String" := (uE1191.ext E1201)
      have lne1215 : b1186 < b1209 := Nat.lt_of_lt_of_le f1214.lt (Nat.le_of_eq g1209.symm)
      have ne1215 : b1186 ≠ b1209 := Nat.ne_of_lt lne1215
      have f1216 : Arv Z h1201 sb1191 kb1191 .byte (own_n (2 : Int32) c0 c1) (own_v (2 : Int32) c0 c1) (.int 0) := (Vf1200.ext E1201)
      have lne1217 : sb1191 < b1209 := Nat.lt_of_lt_of_le f1216.lt (Nat.le_of_eq g1209.symm)
      have ne1217 : sb1191 ≠ b1209 := Nat.ne_of_lt lne1217
      have lne1218 : b1201 < b1209 := Nat.lt_of_lt_of_le A1201.lt (Nat.le_of_eq g1209.symm)
      have ne1218 : b1201 ≠ b1209 := Nat.ne_of_lt lne1218
      have z1219 : h0.size ≤ (h1201).size := (Nat.le_trans z1208 E1201.1)
      have sz_b1209 : h0.size ≤ b1209 := Nat.le_trans z1219 (Nat.le_of_eq g1209.symm)
      have gn_b1209 : n0 ≤ b1209 := Nat.le_trans Z0 sz_b1209
      have F_coder_b1209 : Fld Z h1209 b1209 "java/lang/String" "coder" "B" (.int (0 : Int32)) := D1209 (Or.inr (own_w hw 34 rfl)) (ty := .byte) (by decide)
      have F_value_b1209 : Fld Z h1209 b1209 "java/lang/String" "value" "[B" .null := D1209 (Or.inr (own_w hw 36 rfl)) (ty := (.array .byte)) (by decide)
      refine Goes.via st1209 ?_
      show Goes p e below _ (T1209.setTop (mkF m 224 #[o0, o1, o2, o3, o4, vi (2 : Int32), vi q1, vi (2 : Int32), vi q2, o9, o10, o11, vi c0, vi c1, vi e0, vi e1, vr b891, vr b1179, vr b1186, .unset, .unset, .unset] [(.ref b1209), (.ref b1201), (.ref b1201)]))
      refine gDU X1209 hx hby at_224 rfl ?_
      refine gAL X1209 hx hby at_225 rfl rfl ?_
      have f1221 : Arw Z h1209 b891 k891 .char 2 (own_upd (own_upd (fun _ => (.int 0)) 0 (.int (nar .char c0))) 1 (.int (nar .char c1))) := (f1210.ext E1209)
      have Va1220 : Arv Z h1209 b891 k891 .char (2 : Int32) ([(nar .char c0), (nar .char c1)].map Value.int) (.int (0 : Int32)) := f1221.toArv (by decide) (by intro i hi; match i, hi with | 0, _ => rfl | 1, _ => rfl)
      have K1222 : Keep h0 h1209 [] := (((K1193.trans K1191 (allS (Or.inr sz_b1186) all0)).ext E1201).ext E1209)
      have f1223 : Sta Z h1209 "java/lang/String" "COMPACT_STRINGS" "Z" (.int cS) := own_sta_keep OS K1222
      have z1224 : h0.size ≤ (h1209).size := (Nat.le_trans z1219 E1209.1)
      have hws1220 : ∀ d ∈ StrChars.Road.words, d.before a0 Z = true := fun d hd => hw d ((by decide +kernel : ∀ d ∈ StrChars.Road.words, d ∈ tables_1) d hd)
      have hlat1220 : ∀ c ∈ [(nar .char c0), (nar .char c1)], ¬ c < 0 ∧ ¬ (255 : Int32) < c := (by intro x hx; have q := own_lat (n := (2 : Int32)) (c := c0) (d := c1) (mc0) (mc1) x; rw [own_cs2 _ _ (by decide) (by decide)] at q; exact q hx)
      obtain ⟨_, _, ⟨T1220, L1220, k1220, n1220⟩, -, X1220, ⟨Lc1220, hQ1220, l1220, y1220, z1220⟩, st1220⟩ := X1209.specialBack hx (y := (⟨"java/lang/String", "<init>", "([C)V"⟩ : MethodName)) rfl hown (mvT hZ (own_w hw 11 rfl)) (mvT hZ (own_w hw 12 rfl)) (mvT hZ (own_w hw 13 rfl)) (by decide) (StrChars.Road.backV (W := 3) hZ hws1220 (kI := 4) (own_w hw 9 rfl) (cs := [(nar .char c0), (nar .char c1)]) (bs := [(nar .char c0), (nar .char c1)].map (fun c => c.toInt8.toInt32)) (n := 2) gn_b1209 (Nat.le_trans Z0 z1224) A1209 F_value_b1209 F_coder_b1209 Va1220 f1223 H_cs rfl rfl (by decide) (by decide) hlat1220 rfl (by decide) (by decide)) (g := (mkF m 227 #[o0, o1, o2, o3, o4, vi (2 : Int32), vi q1, vi (2 : Int32), vi q2, o9, o10, o11, vi c0, vi c1, vi e0, vi e1, vr b891, vr b1179, vr b1186, .unset, .unset, .unset] [(.ref b891), (.ref b1209), (.ref b1209), (.ref b1201), (.ref b1201)])) rfl (by rw [hml]; rfl) (Steps.refl _) (a := b1209) (argsL := [(.ref b891)]) (rest := [(.ref b1209), (.ref b1201), (.ref b1201)]) (lenOf pd_17 rfl) rfl (by show 2 * 0 + _ ≤ _; exact Nat.le_of_eq rfl) (hb hby at_227) (fun _ _ => ⟨rfl, e1209, (by first | decide | omega : 6 + 1 ≤ _), (by first | decide | omega : 16 + 2 ≤ _)⟩)
      dsimp only [Pt.U, Pt.locs, Pt.cells, Pt.slots] at X1220 l1220 y1220 z1220 st1220 hQ1220
      subst l1220 y1220 z1220
      obtain ⟨rfl, N1220q, K1220, uE1220, uC1220, sb1220, kb1220, ug1220, uz1220, un1220, uV1220, uA1220⟩ := hQ1220
      have N1220 := Fr.app N1191 N1220q
      have ne1225 : b891 ≠ sb1220 := Nat.ne_of_lt (Nat.lt_of_lt_of_le f1221.lt uz1220)
      have f1226 : Arw Z h1209 b1179 k1179 .char 2 (own_upd (own_upd (fun _ => (.int 0)) 0 (.int (nar .char e0))) 1 (.int (nar .char e1))) := (f1212.ext E1209)
      have ne1227 : b1179 ≠ sb1220 := Nat.ne_of_lt (Nat.lt_of_lt_of_le f1226.lt uz1220)
      have f1228 : Exa Z h1209 b1186 "java/lang/String" := (f1214.ext E1209)
      have ne1229 : b1186 ≠ sb1220 := Nat.ne_of_lt (Nat.lt_of_lt_of_le f1228.lt uz1220)
      have f1230 : Arv Z h1209 sb1191 kb1191 .byte (own_n (2 : Int32) c0 c1) (own_v (2 : Int32) c0 c1) (.int 0) := (f1216.ext E1209)
      have ne1231 : sb1191 ≠ sb1220 := Nat.ne_of_lt (Nat.lt_of_lt_of_le f1230.lt uz1220)
      have f1232 : Exa Z h1209 b1201 "com/example/map_rewriter/maprewriter/core/Symbol" := (A1201.ext E1209)
      have ne1233 : b1201 ≠ sb1220 := Nat.ne_of_lt (Nat.lt_of_lt_of_le f1232.lt uz1220)
      have ne1234 : b1209 ≠ sb1220 := Nat.ne_of_lt (Nat.lt_of_lt_of_le A1209.lt uz1220)
      have sz_sb1220 : h0.size ≤ sb1220 := Nat.le_trans z1224 uz1220
      refine Goes.tr st1220 ?_
      show Goes p e below _ (T1220.setTop (mkF m 230 #[o0, o1, o2, o3, o4, vi (2 : Int32), vi q1, vi (2 : Int32), vi q2, o9, o10, o11, vi c0, vi c1, vi e0, vi e1, vr b891, vr b1179, vr b1186, .unset, .unset, .unset] [(.ref b1209), (.ref b1201), (.ref b1201)]))
      have f1235 : Exa Z T1220.heap b1186 "java/lang/String" := (f1228.keep K1220)
      have f1236 : Exa Z T1220.heap b1201 "com/example/map_rewriter/maprewriter/core/Symbol" := (f1232.keep K1220)
      have Vf1237 : Arv Z T1220.heap sb1220 kb1220 .byte (own_n (2 : Int32) c0 c1) (own_v (2 : Int32) c0 c1) (.int 0) := (by unfold own_n own_v; rw [own_cs2 _ _ (by decide) (by decide)]; exact uA1220)
      have Vg1237 : Arw Z T1220.heap sb1220 kb1220 .byte 2 (fun i => .int (own_g (2 : Int32) c0 c1 i)) := Arw.ofArv Vf1237 (by rw [own_na2]; decide) (fun i hi => by match i, hi with | 0, _ => rfl | 1, _ => rfl)
      refine gIL X1220 hx hby at_230 rfl ?_
      have f1238 : Fld Z T1220.heap b1201 "com/example/map_rewriter/maprewriter/core/Symbol" "content" "Ljava/lang/String;" .null := ((F_content_b1201.ext E1209).keep K1220 (ninS ne1218 nin0))
      have f1239 : Fld Z T1220.heap b1201 "com/example/map_rewriter/maprewriter/core/Symbol" "quoted" "Z" (.int (0 : Int32)) := ((F_quoted_b1201.ext E1209).keep K1220 (ninS ne1218 nin0))
      have K1240 : Keep h0 T1220.heap [] := (K1222.trans K1220 (allS (Or.inr sz_b1209) all0))
      have f1241 : Sta Z T1220.heap "java/lang/String" "COMPACT_STRINGS" "Z" (.int cS) := own_sta_keep OS K1240
      have f1242 : Sta Z T1220.heap "jdk/internal/util/Preconditions" "SIOOBE_FORMATTER" "Ljava/util/function/BiFunction;" fo := own_sta_keep OF K1240
      have ol1243 : Old Z n0 (T1220.heap) := (((((((((((HO.ext E891).wr W893 gn_b891).wr W895 gn_b891).ext E1179).wr W1183 gn_b1179).wr W1185 gn_b1179).ext E1186).keep K1191 (allS gn_b1186 all0)).ext E1201).ext E1209).keep K1220 (allS gn_b1209 all0))
      have z1245 : h0.size ≤ (T1220.heap).size := (Nat.le_trans z1224 K1220.1)
      have Ks1246 : KS Z own_KL s.vm (T1220.heap) := (((((((((Ks0.ext E891).keep (((Keep.refl _ [b891]).wr W893 (Or.inl (List.mem_of_getElem? (i := 0) rfl))).wr W895 (Or.inl (List.mem_of_getElem? (i := 0) rfl))) (allS (NoS.arr A891 (own_w hw 9 rfl) (by intro q; cases q)) all0)).ext E1179).keep (((Keep.refl _ [b1179]).wr W1183 (Or.inl (List.mem_of_getElem? (i := 0) rfl))).wr W1185 (Or.inl (List.mem_of_getElem? (i := 0) rfl))) (allS (NoS.arr A1179 (own_w hw 9 rfl) (by intro q; cases q)) all0)).ext E1186).keep K1191 (allS (NoS.str A1186 (own_w hw 9 rfl) F_value_b1186) all0)).ext E1201).ext E1209).keep K1220 (allS (NoS.str A1209 (own_w hw 9 rfl) F_value_b1209) all0))
      have sk1247 : _ ≤ (T1220.heap).size := (Nat.le_trans (Nat.le_trans (Nat.le_trans (Nat.le_trans (Nat.le_trans (Nat.le_trans (Nat.le_trans (Nat.le_trans (Nat.le_trans (Nat.le_trans (Nat.le_trans (Nat.zero_le _) E891.1) (Nat.le_of_eq W893.size.symm)) (Nat.le_of_eq W895.size.symm)) E1179.1) (Nat.le_of_eq W1183.size.symm)) (Nat.le_of_eq W1185.size.symm)) E1186.1) K1191.1) E1201.1) E1209.1) K1220.1)
      obtain ⟨_, _, ⟨T1244, L1244, k1244, n1244⟩, -, ⟨X1244, Si1244⟩, ⟨Lc1244, ⟨hQ1244, tK1244, hK1244, hKv1244, hKh1244⟩, l1244, y1244, z1244⟩, st1244⟩ := own_specialW X1220 hx (y := (⟨"com/example/map_rewriter/maprewriter/core/Symbol", "<init>", "(Ljava/lang/String;Z)V"⟩ : MethodName)) rfl hown (mvT hZ (own_w hw 40 rfl)) (mvT hZ (own_w hw 41 rfl)) (mvT hZ (own_w hw 42 rfl)) (by decide) (own_backOfW (W := 1) (K := (fun U_ => KS Z own_KL U_.vm U_.heap)) (KP := (fun U_ => KS Z own_KL U_.vm U_.heap)) (rm9 l Z a0 hw [] b1201 b1209 q1 sb1220 kb1220 2 (own_g (2 : Int32) c0 c1) (2 : Int32) cS fo T1220.heap n0 (Nat.le_trans Z0 z1245) f1236 f1238 f1239 gn_b1201 uE1220 uC1220 uV1220 Vg1237 (by decide) f1241 H_cs f1242 Hfo (hk0 2 (by decide)) ol1243 HW HC0 HC1 HC2) hZ (own_w hw 42 rfl) (own_w hw 39 rfl) (by decide) (by decide) (fun V_ hV hVh => by show KS Z own_KL V_.vm V_.heap; rw [hVh]; exact Ks1246.at_ (s := s) hV)) (g := (mkF m 232 #[o0, o1, o2, o3, o4, vi (2 : Int32), vi q1, vi (2 : Int32), vi q2, o9, o10, o11, vi c0, vi c1, vi e0, vi e1, vr b891, vr b1179, vr b1186, .unset, .unset, .unset] [(.int q1), (.ref b1209), (.ref b1201), (.ref b1201)])) rfl (by rw [hml]; rfl) (a := b1201) (argsL := [(.ref b1209), (.int q1)]) (rest := [(.ref b1201)]) (lenOf pd_18 rfl) rfl (by show 2 * 0 + _ ≤ _; exact Nat.le_of_eq rfl) (hb hby at_232) (fun _ _ => ⟨rfl, rfl, (by decide : 7 + 6 ≤ _), (by decide : 18 + 176 ≤ _)⟩)
      dsimp only [Pt.U, Pt.locs, Pt.cells, Pt.slots] at X1244 l1244 y1244 z1244 st1244 hQ1244 Si1244 hKv1244 hKh1244
      subst l1244 y1244 z1244
      obtain ⟨rfl, N1244q, K1244, u1244_0, u1244_1⟩ := hQ1244
      have N1244 := Fr.app N1220 N1244q
      refine Goes.via st1244 ?_
      obtain ⟨X1244', SI1244, hZ, hown⟩ := rebS SI0 sk1247 X1244 Si1244 K1244.1 hZ hown
      have Ks1244 : KS Z own_KL T1244.vm T1244.heap := by rw [← hKv1244, ← hKh1244]; exact hK1244
      show Goes p e below _ (T1244.setTop (mkF m 235 #[o0, o1, o2, o3, o4, vi (2 : Int32), vi q1, vi (2 : Int32), vi q2, o9, o10, o11, vi c0, vi c1, vi e0, vi e1, vr b891, vr b1179, vr b1186, .unset, .unset, .unset] [(.ref b1201)]))
      refine Goes.via (fun _ kk_ => XS.astore X1244'.here hx rfl (hb hby at_235) rfl rfl (l' := #[o0, o1, o2, o3, o4, vi (2 : Int32), vi q1, vi (2 : Int32), vi q2, o9, o10, o11, vi c0, vi c1, vi e0, vi e1, vr b891, vr b1179, vr b1186, vr b1201, .unset, .unset]) rfl kk_) ?_
      show Goes p e below _ (T1244.setTop (mkF m 237 #[o0, o1, o2, o3, o4, vi (2 : Int32), vi q1, vi (2 : Int32), vi q2, o9, o10, o11, vi c0, vi c1, vi e0, vi e1, vr b891, vr b1179, vr b1186, vr b1201, .unset, .unset] []))
      obtain ⟨T1248, h1248, X1248, e1248, E1248, A1248, D1248, -, st1248⟩ := newO X1244' hx hZ hown (own_w hw 37 rfl) (own_w hw 38 rfl) (own_w hw 39 rfl) rfl (g := (mkF m 237 #[o0, o1, o2, o3, o4, vi (2 : Int32), vi q1, vi (2 : Int32), vi q2, o9, o10, o11, vi c0, vi c1, vi e0, vi e1, vr b891, vr b1179, vr b1186, vr b1201, .unset, .unset] [])) rfl (hb hby at_237) (by first | decide | omega | (dsimp only; omega)) (by first | decide | omega | (dsimp only; omega))
      obtain ⟨b1248, g1248⟩ : ∃ z, z = (T1244.heap).size := ⟨_, rfl⟩
      rw [← g1248] at A1248 D1248 st1248
      have f1249 : Arw Z T1244.heap b891 k891 .char 2 (own_upd (own_upd (fun _ => (.int 0)) 0 (.int (nar .char c0))) 1 (.int (nar .char c1))) := ((f1221.keep K1220 (ninS ne1211 nin0)).keep K1244 (ninS ne1203 nin0))
      have lne1250 : b891 < b1248 := Nat.lt_of_lt_of_le f1249.lt (Nat.le_of_eq g1248.symm)
      have ne1250 : b891 ≠ b1248 := Nat.ne_of_lt lne1250
      have f1251 : Arw Z T1244.heap b1179 k1179 .char 2 (own_upd (own_upd (fun _ => (.int 0)) 0 (.int (nar .char e0))) 1 (.int (nar .char e1))) := ((f1226.keep K1220 (ninS ne1213 nin0)).keep K1244 (ninS ne1205 nin0))
      have lne1252 : b1179 < b1248 := Nat.lt_of_lt_of_le f1251.lt (Nat.le_of_eq g1248.symm)
      have ne1252 : b1179 ≠ b1248 := Nat.ne_of_lt lne1252
      have f1253 : Exa Z T1244.heap b1186 "java/lang/String" := (f1235.keep K1244)
      have lne1254 : b1186 < b1248 := Nat.lt_of_lt_of_le f1253.lt (Nat.le_of_eq g1248.symm)
      have ne1254 : b1186 ≠ b1248 := Nat.ne_of_lt lne1254
      have f1255 : Arv Z T1244.heap sb1191 kb1191 .byte (own_n (2 : Int32) c0 c1) (own_v (2 : Int32) c0 c1) (.int 0) := ((f1230.keep K1220 (ninS ne1217 nin0)).keep K1244 (ninS ne1207 nin0))
      have lne1256 : sb1191 < b1248 := Nat.lt_of_lt_of_le f1255.lt (Nat.le_of_eq g1248.symm)
      have ne1256 : sb1191 ≠ b1248 := Nat.ne_of_lt lne1256
      have lne1257 : b1201 < b1248 := Nat.lt_of_lt_of_le u1244_0.lt (Nat.le_of_eq g1248.symm)
      have ne1257 : b1201 ≠ b1248 := Nat.ne_of_lt lne1257
      have f1258 : Exa Z T1244.heap b1209 "java/lang/String" := (uE1220.keep K1244)
      have lne1259 : b1209 < b1248 := Nat.lt_of_lt_of_le f1258.lt (Nat.le_of_eq g1248.symm)
      have ne1259 : b1209 ≠ b1248 := Nat.ne_of_lt lne1259
      have f1260 : Arv Z T1244.heap sb1220 kb1220 .byte (own_n (2 : Int32) c0 c1) (own_v (2 : Int32) c0 c1) (.int 0) := (Vf1237.keep K1244 (ninS (Ne.symm ne1233) nin0))
      have lne1261 : sb1220 < b1248 := Nat.lt_of_lt_of_le f1260.lt (Nat.le_of_eq g1248.symm)
      have ne1261 : sb1220 ≠ b1248 := Nat.ne_of_lt lne1261
      have z1262 : h0.size ≤ (T1244.heap).size := (Nat.le_trans z1245 K1244.1)
      have sz_b1248 : h0.size ≤ b1248 := Nat.le_trans z1262 (Nat.le_of_eq g1248.symm)
      have gn_b1248 : n0 ≤ b1248 := Nat.le_trans Z0 sz_b1248
      have F_content_b1248 : Fld Z h1248 b1248 "com/example/map_rewriter/maprewriter/core/Symbol" "content" "Ljava/lang/String;" .null := D1248 (Or.inr (own_w hw 98 rfl)) (ty := (.object "java/lang/String")) (by decide)
      have F_quoted_b1248 : Fld Z h1248 b1248 "com/example/map_rewriter/maprewriter/core/Symbol" "quoted" "Z" (.int (0 : Int32)) := D1248 (Or.inr (own_w hw 100 rfl)) (ty := .boolean) (by decide)
      refine Goes.via st1248 ?_
      show Goes p e below _ (T1248.setTop (mkF m 240 #[o0, o1, o2, o3, o4, vi (2 : Int32), vi q1, vi (2 : Int32), vi q2, o9, o10, o11, vi c0, vi c1, vi e0, vi e1, vr b891, vr b1179, vr b1186, vr b1201, .unset, .unset] [(.ref b1248)]))
      refine gDU X1248 hx hby at_240 rfl ?_
      obtain ⟨T1263, h1263, X1263, e1263, E1263, A1263, D1263, -, st1263⟩ := newO X1248 hx hZ hown (own_w hw 8 rfl) (own_w hw 9 rfl) (own_w hw 10 rfl) e1248 (g := (mkF m 241 #[o0, o1, o2, o3, o4, vi (2 : Int32), vi q1, vi (2 : Int32), vi q2, o9, o10, o11, vi c0, vi c1, vi e0, vi e1, vr b891, vr b1179, vr b1186, vr b1201, .unset, .unset] [(.ref b1248), (.ref b1248)])) rfl (hb hby at_241) (by first | decide | omega | (dsimp only; omega)) (by first | decide | omega | (dsimp only; omega))
      obtain ⟨b1263, g1263⟩ : ∃ z, z = (h1248).size := ⟨_, rfl⟩
      rw [← g1263] at A1263 D1263 st1263
      have f1264 : Arw Z h1248 b891 k891 .char 2 (own_upd (own_upd (fun _ => (.int 0)) 0 (.int (nar .char c0))) 1 (.int (nar .char c1))) := (f1249.ext E1248)
      have lne1265 : b891 < b1263 := Nat.lt_of_lt_of_le f1264.lt (Nat.le_of_eq g1263.symm)
      have ne1265 : b891 ≠ b1263 := Nat.ne_of_lt lne1265
      have f1266 : Arw Z h1248 b1179 k1179 .char 2 (own_upd (own_upd (fun _ => (.int 0)) 0 (.int (nar .char e0))) 1 (.int (nar .char e1))) := (f1251.ext E1248)
      have lne1267 : b1179 < b1263 := Nat.lt_of_lt_of_le f1266.lt (Nat.le_of_eq g1263.symm)
      have ne1267 : b1179 ≠ b1263 := Nat.ne_of_lt lne1267
      have f1268 : Exa Z h1248 b1186 "java/lang/String" := (f1253.ext E1248)
      have lne1269 : b1186 < b1263 := Nat.lt_of_lt_of_le f1268.lt (Nat.le_of_eq g1263.symm)
      have ne1269 : b1186 ≠ b1263 := Nat.ne_of_lt lne1269
      have f1270 : Arv Z h1248 sb1191 kb1191 .byte (own_n (2 : Int32) c0 c1) (own_v (2 : Int32) c0 c1) (.int 0) := (f1255.ext E1248)
      have lne1271 : sb1191 < b1263 := Nat.lt_of_lt_of_le f1270.lt (Nat.le_of_eq g1263.symm)
      have ne1271 : sb1191 ≠ b1263 := Nat.ne_of_lt lne1271
      have f1272 : Exa Z h1248 b1201 "com/example/map_rewriter/maprewriter/core/Symbol" := (u1244_0.ext E1248)
      have lne1273 : b1201 < b1263 := Nat.lt_of_lt_of_le f1272.lt (Nat.le_of_eq g1263.symm)
      have ne1273 : b1201 ≠ b1263 := Nat.ne_of_lt lne1273
      have f1274 : Exa Z h1248 b1209 "java/lang/String" := (f1258.ext E1248)
      have lne1275 : b1209 < b1263 := Nat.lt_of_lt_of_le f1274.lt (Nat.le_of_eq g1263.symm)
      have ne1275 : b1209 ≠ b1263 := Nat.ne_of_lt lne1275
      have f1276 : Arv Z h1248 sb1220 kb1220 .byte (own_n (2 : Int32) c0 c1) (own_v (2 : Int32) c0 c1) (.int 0) := (f1260.ext E1248)
      have lne1277 : sb1220 < b1263 := Nat.lt_of_lt_of_le f1276.lt (Nat.le_of_eq g1263.symm)
      have ne1277 : sb1220 ≠ b1263 := Nat.ne_of_lt lne1277
      have lne1278 : b1248 < b1263 := Nat.lt_of_lt_of_le A1248.lt (Nat.le_of_eq g1263.symm)
      have ne1278 : b1248 ≠ b1263 := Nat.ne_of_lt lne1278
      have z1279 : h0.size ≤ (h1248).size := (Nat.le_trans z1262 E1248.1)
      have sz_b1263 : h0.size ≤ b1263 := Nat.le_trans z1279 (Nat.le_of_eq g1263.symm)
      have gn_b1263 : n0 ≤ b1263 := Nat.le_trans Z0 sz_b1263
      have F_coder_b1263 : Fld Z h1263 b1263 "java/lang/String" "coder" "B" (.int (0 : Int32)) := D1263 (Or.inr (own_w hw 34 rfl)) (ty := .byte) (by decide)
      have F_value_b1263 : Fld Z h1263 b1263 "java/lang/String" "value" "[B" .null := D1263 (Or.inr (own_w hw 36 rfl)) (ty := (.array .byte)) (by decide)
      refine Goes.via st1263 ?_
      show Goes p e below _ (T1263.setTop (mkF m 244 #[o0, o1, o2, o3, o4, vi (2 : Int32), vi q1, vi (2 : Int32), vi q2, o9, o10, o11, vi c0, vi c1, vi e0, vi e1, vr b891, vr b1179, vr b1186, vr b1201, .unset, .unset] [(.ref b1263), (.ref b1248), (.ref b1248)]))
      refine gDU X1263 hx hby at_244 rfl ?_
      refine gAL X1263 hx hby at_245 rfl rfl ?_
      have f1281 : Arw Z h1263 b1179 k1179 .char 2 (own_upd (own_upd (fun _ => (.int 0)) 0 (.int (nar .char e0))) 1 (.int (nar .char e1))) := (f1266.ext E1263)
      have Va1280 : Arv Z h1263 b1179 k1179 .char (2 : Int32) ([(nar .char e0), (nar .char e1)].map Value.int) (.int (0 : Int32)) := f1281.toArv (by decide) (by intro i hi; match i, hi with | 0, _ => rfl | 1, _ => rfl)
      have K1282 : Keep h0 h1263 [] := (((K1240.trans K1244 (allS (Or.inr sz_b1201) all0)).ext E1248).ext E1263)
      have f1283 : Sta Z h1263 "java/lang/String" "COMPACT_STRINGS" "Z" (.int cS) := own_sta_keep OS K1282
      have z1284 : h0.size ≤ (h1263).size := (Nat.le_trans z1279 E1263.1)
      have hws1280 : ∀ d ∈ StrChars.Road.words, d.before a0 Z = true := fun d hd => hw d ((by decide +kernel : ∀ d ∈ StrChars.Road.words, d ∈ tables_1) d hd)
      have hlat1280 : ∀ c ∈ [(nar .char e0), (nar .char e1)], ¬ c < 0 ∧ ¬ (255 : Int32) < c := (by intro x hx; have q := own_lat (n := (2 : Int32)) (c := e0) (d := e1) (me0) (me1) x; rw [own_cs2 _ _ (by decide) (by decide)] at q; exact q hx)
      obtain ⟨_, _, ⟨T1280, L1280, k1280, n1280⟩, -, X1280, ⟨Lc1280, hQ1280, l1280, y1280, z1280⟩, st1280⟩ := X1263.specialBack hx (y := (⟨"java/lang/String", "<init>", "([C)V"⟩ : MethodName)) rfl hown (mvT hZ (own_w hw 11 rfl)) (mvT hZ (own_w hw 12 rfl)) (mvT hZ (own_w hw 13 rfl)) (by decide) (StrChars.Road.backV (W := 3) hZ hws1280 (kI := 4) (own_w hw 9 rfl) (cs := [(nar .char e0), (nar .char e1)]) (bs := [(nar .char e0), (nar .char e1)].map (fun c => c.toInt8.toInt32)) (n := 2) gn_b1263 (Nat.le_trans Z0 z1284) A1263 F_value_b1263 F_coder_b1263 Va1280 f1283 H_cs rfl rfl (by decide) (by decide) hlat1280 rfl (by decide) (by decide)) (g := (mkF m 247 #[o0, o1, o2, o3, o4, vi (2 : Int32), vi q1, vi (2 : Int32), vi q2, o9, o10, o11, vi c0, vi c1, vi e0, vi e1, vr b891, vr b1179, vr b1186, vr b1201, .unset, .unset] [(.ref b1179), (.ref b1263), (.ref b1263), (.ref b1248), (.ref b1248)])) rfl (by rw [hml]; rfl) (Steps.refl _) (a := b1263) (argsL := [(.ref b1179)]) (rest := [(.ref b1263), (.ref b1248), (.ref b1248)]) (lenOf pd_17 rfl) rfl (by show 2 * 0 + _ ≤ _; exact Nat.le_of_eq rfl) (hb hby at_247) (fun _ _ => ⟨rfl, e1263, (by first | decide | omega : 15 + 1 ≤ _), (by first | decide | omega : 200 + 2 ≤ _)⟩)
      dsimp only [Pt.U, Pt.locs, Pt.cells, Pt.slots] at X1280 l1280 y1280 z1280 st1280 hQ1280
      subst l1280 y1280 z1280
      obtain ⟨rfl, N1280q, K1280, uE1280, uC1280, sb1280, kb1280, ug1280, uz1280, un1280, uV1280, uA1280⟩ := hQ1280
      have N1280 := Fr.app N1244 N1280q
      have f1285 : Arw Z h1263 b891 k891 .char 2 (own_upd (own_upd (fun _ => (.int 0)) 0 (.int (nar .char c0))) 1 (.int (nar .char c1))) := (f1264.ext E1263)
      have ne1286 : b891 ≠ sb1280 := Nat.ne_of_lt (Nat.lt_of_lt_of_le f1285.lt uz1280)
      have ne1287 : b1179 ≠ sb1280 := Nat.ne_of_lt (Nat.lt_of_lt_of_le f1281.lt uz1280)
      have f1288 : Exa Z h1263 b1186 "java/lang/String" := (f1268.ext E1263)
      have ne1289 : b1186 ≠ sb1280 := Nat.ne_of_lt (Nat.lt_of_lt_of_le f1288.lt uz1280)
      have f1290 : Arv Z h1263 sb1191 kb1191 .byte (own_n (2 : Int32) c0 c1) (own_v (2 : Int32) c0 c1) (.int 0) := (f1270.ext E1263)
      have ne1291 : sb1191 ≠ sb1280 := Nat.ne_of_lt (Nat.lt_of_lt_of_le f1290.lt uz1280)
      have f1292 : Exa Z h1263 b1201 "com/example/map_rewriter/maprewriter/core/Symbol" := (f1272.ext E1263)
      have ne1293 : b1201 ≠ sb1280 := Nat.ne_of_lt (Nat.lt_of_lt_of_le f1292.lt uz1280)
      have f1294 : Exa Z h1263 b1209 "java/lang/String" := (f1274.ext E1263)
      have ne1295 : b1209 ≠ sb1280 := Nat.ne_of_lt (Nat.lt_of_lt_of_le f1294.lt uz1280)
      have f1296 : Arv Z h1263 sb1220 kb1220 .byte (own_n (2 : Int32) c0 c1) (own_v (2 : Int32) c0 c1) (.int 0) := (f1276.ext E1263)
      have ne1297 : sb1220 ≠ sb1280 := Nat.ne_of_lt (Nat.lt_of_lt_of_le f1296.lt uz1280)
      have f1298 : Exa Z h1263 b1248 "com/example/map_rewriter/maprewriter/core/Symbol" := (A1248.ext E1263)
      have ne1299 : b1248 ≠ sb1280 := Nat.ne_of_lt (Nat.lt_of_lt_of_le f1298.lt uz1280)
      have ne1300 : b1263 ≠ sb1280 := Nat.ne_of_lt (Nat.lt_of_lt_of_le A1263.lt uz1280)
      have sz_sb1280 : h0.size ≤ sb1280 := Nat.le_trans z1284 uz1280
      refine Goes.tr st1280 ?_
      show Goes p e below _ (T1280.setTop (mkF m 250 #[o0, o1, o2, o3, o4, vi (2 : Int32), vi q1, vi (2 : Int32), vi q2, o9, o10, o11, vi c0, vi c1, vi e0, vi e1, vr b891, vr b1179, vr b1186, vr b1201, .unset, .unset] [(.ref b1263), (.ref b1248), (.ref b1248)]))
      have f1301 : Exa Z T1280.heap b1186 "java/lang/String" := (f1288.keep K1280)
      have f1302 : Exa Z T1280.heap b1201 "com/example/map_rewriter/maprewriter/core/Symbol" := (f1292.keep K1280)
      have f1303 : Exa Z T1280.heap b1209 "java/lang/String" := (f1294.keep K1280)
      have f1304 : Exa Z T1280.heap b1248 "com/example/map_rewriter/maprewriter/core/Symbol" := (f1298.keep K1280)
      have Vf1305 : Arv Z T1280.heap sb1280 kb1280 .byte (own_n (2 : Int32) e0 e1) (own_v (2 : Int32) e0 e1) (.int 0) := (by unfold own_n own_v; rw [own_cs2 _ _ (by decide) (by decide)]; exact uA1280)
      have Vg1305 : Arw Z T1280.heap sb1280 kb1280 .byte 2 (fun i => .int (own_g (2 : Int32) e0 e1 i)) := Arw.ofArv Vf1305 (by rw [own_na2]; decide) (fun i hi => by match i, hi with | 0, _ => rfl | 1, _ => rfl)
      refine gIL X1280 hx hby at_250 rfl ?_
      have f1306 : Fld Z T1280.heap b1248 "com/example/map_rewriter/maprewriter/core/Symbol" "content" "Ljava/lang/String;" .null := ((F_content_b1248.ext E1263).keep K1280 (ninS ne1278 nin0))
      have f1307 : Fld Z T1280.heap b1248 "com/example/map_rewriter/maprewriter/core/Symbol" "quoted" "Z" (.int (0 : Int32)) := ((F_quoted_b1248.ext E1263).keep K1280 (ninS ne1278 nin0))
      have K1308 : Keep h0 T1280.heap [] := (K1282.trans K1280 (allS (Or.inr sz_b1263) all0))
      have f1309 : Sta Z T1280.heap "java/lang/String" "COMPACT_STRINGS" "Z" (.int cS) := own_sta_keep OS K1308
      have f1310 : Sta Z T1280.heap "jdk/internal/util/Preconditions" "SIOOBE_FORMATTER" "Ljava/util/function/BiFunction;" fo := own_sta_keep OF K1308
      have ol1311 : Old Z n0 (T1280.heap) := ((((ol1243.keep K1244 (allS gn_b1201 all0)).ext E1248).ext E1263).keep K1280 (allS gn_b1263 all0))
      have z1313 : h0.size ≤ (T1280.heap).size := (Nat.le_trans z1284 K1280.1)
      have Ks1314 : KS Z own_KL T1244.vm (T1280.heap) := (((Ks1244.ext E1248).ext E1263).keep K1280 (allS (NoS.str A1263 (own_w hw 9 rfl) F_value_b1263) all0))
      have sk1315 : _ ≤ (T1280.heap).size := (Nat.le_trans (Nat.le_trans (Nat.le_trans (Nat.le_refl _) E1248.1) E1263.1) K1280.1)
      obtain ⟨_, _, ⟨T1312, L1312, k1312, n1312⟩, -, ⟨X1312, Si1312⟩, ⟨Lc1312, ⟨hQ1312, tK1312, hK1312, hKv1312, hKh1312⟩, l1312, y1312, z1312⟩, st1312⟩ := own_specialW X1280 hx (y := (⟨"com/example/map_rewriter/maprewriter/core/Symbol", "<init>", "(Ljava/lang/String;Z)V"⟩ : MethodName)) rfl hown (mvT hZ (own_w hw 40 rfl)) (mvT hZ (own_w hw 41 rfl)) (mvT hZ (own_w hw 42 rfl)) (by decide) (own_backOfW (W := 1) (K := (fun U_ => KS Z own_KL U_.vm U_.heap)) (KP := (fun U_ => KS Z own_KL U_.vm U_.heap)) (rm9 l Z a0 hw [] b1248 b1263 q2 sb1280 kb1280 2 (own_g (2 : Int32) e0 e1) (2 : Int32) cS fo T1280.heap n0 (Nat.le_trans Z0 z1313) f1304 f1306 f1307 gn_b1248 uE1280 uC1280 uV1280 Vg1305 (by decide) f1309 H_cs f1310 Hfo (hk1 2 (by decide)) ol1311 HW HC0 HC1 HC2) hZ (own_w hw 42 rfl) (own_w hw 39 rfl) (by decide) (by decide) (fun V_ hV hVh => by show KS Z own_KL V_.vm V_.heap; rw [hVh]; exact Ks1314.at_ (s := s) hV)) (g := (mkF m 252 #[o0, o1, o2, o3, o4, vi (2 : Int32), vi q1, vi (2 : Int32), vi q2, o9, o10, o11, vi c0, vi c1, vi e0, vi e1, vr b891, vr b1179, vr b1186, vr b1201, .unset, .unset] [(.int q2), (.ref b1263), (.ref b1248), (.ref b1248)])) rfl (by rw [hml]; rfl) (a := b1248) (argsL := [(.ref b1263), (.int q2)]) (rest := [(.ref b1248)]) (lenOf pd_18 rfl) rfl (by show 2 * 0 + _ ≤ _; exact Nat.le_of_eq rfl) (hb hby at_252) (fun _ _ => ⟨rfl, rfl, (by decide : 16 + 6 ≤ _), (by decide : 202 + 176 ≤ _)⟩)
      dsimp only [Pt.U, Pt.locs, Pt.cells, Pt.slots] at X1312 l1312 y1312 z1312 st1312 hQ1312 Si1312 hKv1312 hKh1312
      subst l1312 y1312 z1312
      obtain ⟨rfl, N1312q, K1312, u1312_0, u1312_1⟩ := hQ1312
      have N1312 := Fr.app N1280 N1312q
      refine Goes.via st1312 ?_
      obtain ⟨X1312', SI1312, hZ, hown⟩ := rebS SI1244 sk1315 X1312 Si1312 K1312.1 hZ hown
      have Ks1312 : KS Z own_KL T1312.vm T1312.heap := by rw [← hKv1312, ← hKh1312]; exact hK1312
      show Goes p e below _ (T1312.setTop (mkF m 255 #[o0, o1, o2, o3, o4, vi (2 : Int32), vi q1, vi (2 : Int32), vi q2, o9, o10, o11, vi c0, vi c1, vi e0, vi e1, vr b891, vr b1179, vr b1186, vr b1201, .unset, .unset] [(.ref b1248)]))
      refine Goes.via (fun _ kk_ => XS.astore X1312'.here hx rfl (hb hby at_255) rfl rfl (l' := #[o0, o1, o2, o3, o4, vi (2 : Int32), vi q1, vi (2 : Int32), vi q2, o9, o10, o11, vi c0, vi c1, vi e0, vi e1, vr b891, vr b1179, vr b1186, vr b1201, vr b1248, .unset]) rfl kk_) ?_
      show Goes p e below _ (T1312.setTop (mkF m 257 #[o0, o1, o2, o3, o4, vi (2 : Int32), vi q1, vi (2 : Int32), vi q2, o9, o10, o11, vi c0, vi c1, vi e0, vi e1, vr b891, vr b1179, vr b1186, vr b1201, vr b1248, .unset] []))
      have K1316 : Keep h0 T1312.heap [] := (K1308.trans K1312 (allS (Or.inr sz_b1248) all0))
      have f1317 : Exa Z T1312.heap b1201 "com/example/map_rewriter/maprewriter/core/Symbol" := (f1302.keep K1312)
      have f1318 : Fld Z T1312.heap b1201 "com/example/map_rewriter/maprewriter/core/Symbol" "content" "Ljava/lang/String;" (.ref b1209) := ((((u1244_1.ext E1248).ext E1263).keep K1280 (ninS ne1273 nin0)).keep K1312 (ninS ne1257 nin0))
      have f1319 : Exa Z T1312.heap b1209 "java/lang/String" := (f1303.keep K1312)
      have f1320 : Fld Z T1312.heap b1209 "java/lang/String" "coder" "B" (.int (0 : Int32)) := (((((uC1220.keep K1244 (ninS (Ne.symm ne1218) nin0)).ext E1248).ext E1263).keep K1280 (ninS ne1275 nin0)).keep K1312 (ninS ne1259 nin0))
      have f1321 : Fld Z T1312.heap b1209 "java/lang/String" "value" "[B" (.ref sb1220) := (((((uV1220.keep K1244 (ninS (Ne.symm ne1218) nin0)).ext E1248).ext E1263).keep K1280 (ninS ne1275 nin0)).keep K1312 (ninS ne1259 nin0))
      have f1322 : Arv Z T1312.heap sb1220 kb1220 .byte (own_n (2 : Int32) c0 c1) (own_v (2 : Int32) c0 c1) (.int 0) := ((f1296.keep K1280 (ninS ne1277 nin0)).keep K1312 (ninS ne1261 nin0))
      have f1323 : Exa Z T1312.heap b1263 "java/lang/String" := (uE1280.keep K1312)
      have f1324 : Fld Z T1312.heap b1263 "java/lang/String" "coder" "B" (.int (0 : Int32)) := (uC1280.keep K1312 (ninS (Ne.symm ne1278) nin0))
      have f1325 : Fld Z T1312.heap b1263 "java/lang/String" "value" "[B" (.ref sb1280) := (uV1280.keep K1312 (ninS (Ne.symm ne1278) nin0))
      have f1326 : Arv Z T1312.heap sb1280 kb1280 .byte (own_n (2 : Int32) e0 e1) (own_v (2 : Int32) e0 e1) (.int 0) := (Vf1305.keep K1312 (ninS (Ne.symm ne1299) nin0))
      have f1327 : Exa Z T1312.heap b1186 "java/lang/String" := (f1301.keep K1312)
      exact J257 b891 b1179 b1186 b1201 b1248 b1209 b1263 sb1220 sb1280 kb1220 kb1280 _ _ _ _ (X1312'.more (by decide) (by decide)) SI1312 (Nat.le_refl _) hZ hown Ks1312 N1312 K1316 f1317 f1318 u1312_0 u1312_1 f1319 f1320 f1321 f1322 f1323 f1324 f1325 f1326 f1327
set_option maxRecDepth 65536 in
set_option maxHeartbeats 40000000 in
theorem comes_1 {Post : Tables → Env → Array Value → State → Outcome → State → Prop} (hpost : ∀ tb e args s v u, (limb_1_1.after args s (.returned v) u = true ∧ limb_1_2.after args s (.returned v) u = true ∧ True) → ReturnedEndW s (.returned v) u (Jvm.fieldLocs frame_1_writes args s ++ Jvm.arrayLocs frame_1_arrays args s ++ Jvm.staticLocs frame_1_statics s) 40 3200 → Post tb e args s (.returned v) u) :
    ArmFor flags0 classFile x code maxLocals ret World_1 tables_1 room_1 Calls_1 rest_1 Pre_1 Post := by
  intro l hfl _ _ p e ha hc hk s m args below hf hA hF happ hP
  obtain ⟨hcalls, hrest, hpre⟩ := hP
  obtain ⟨-, -, -, hnamed, -, -, -, hat⟩ := (Spec.applies_iff hf).mp happ
  obtain ⟨hg, hn⟩ := and_e (Cond.before_iff.mp (show (Jvm.Cond.and given_1 narrow_1).before args s = true from hpre))
  obtain ⟨gg1, gg2⟩ := and_e hg
  obtain ⟨gg3, gg4⟩ := and_e gg2
  obtain ⟨gg5, gg6⟩ := and_e gg4
  obtain ⟨gg7, gg8⟩ := and_e gg6
  obtain ⟨gg9, gg10⟩ := and_e gg8
  obtain ⟨w0, w1, w2, w3, w4, rfl⟩ : ∃ w0 w1 w2 w3 w4 : Value, args = #[w0, w1, w2, w3, w4] := by
    have hs : args.size = 5 := by simpa [Cond.value, given_1] using gg1
    obtain ⟨L⟩ := args
    match L, hs with
    | [w0, w1, w2, w3, w4], _ => exact ⟨w0, w1, w2, w3, w4, rfl⟩
  have hw := fun d (hd : d ∈ tables_1) => atoms_spec (ws := Jvm.Cond.code x code maxLocals ret :: tables_1) hat d (List.mem_cons_of_mem _ hd)
  have hfit : Fit s := fun {y c} hc i hi => by
    obtain ⟨ha, rfl⟩ := Array.getElem?_eq_some_iff.mp hc
    have q := List.all_eq_true.mp ((Array.all_eq_true_iff_forall_mem.mp hF) _ (Array.getElem_mem ha)) i (List.mem_range.mpr hi)
    simpa [Array.getElem?_eq_getElem hi] using q
  obtain ⟨hsets, hown0⟩ := atoms_of _ (rest_1_c_eq ▸ (show rest_1_c.before _ s = true from hrest))
  have hr0 := Cond.before_iff.mp hown0
  obtain ⟨i0, ei0⟩ := is_v gg3
  obtain rfl : w0 = (.int i0) := Option.some.inj ei0
  obtain ⟨i1, ei1⟩ := is_v gg5
  obtain rfl : w1 = (.int i1) := Option.some.inj ei1
  obtain ⟨i2, ei2⟩ := is_v gg7
  obtain rfl : w2 = (.int i2) := Option.some.inj ei2
  obtain ⟨i3, ei3⟩ := is_v gg9
  obtain rfl : w3 = (.int i3) := Option.some.inj ei3
  obtain ⟨i4, ei4⟩ := is_v gg10
  obtain rfl : w4 = (.int i4) := Option.some.inj ei4
  obtain ⟨cS, eS⟩ := is_v (Cond.before_iff.mp (hsets _ (List.mem_of_getElem? (i := 1) rfl)))
  have OS : Sta s s.heap "java/lang/String" "COMPACT_STRINGS" "Z" (.int cS) := Sta.start eS (Or.inl (hsets _ (List.mem_of_getElem? (i := 0) rfl)))
  have HS : ¬ cS = (0 : Int32) := gotF (Cond.eq_ints eS (Term.int_eval (0))) (not_v (Cond.before_iff.mp (hsets _ (List.mem_of_getElem? (i := 2) rfl))))
  have HW : Jvm.Lit.compactW.before _ s = true := hsets _ (List.mem_of_getElem? (i := 2) rfl)
  have HC0 : Jvm.Lit.constHeld s "java/lang/String" 7 := hcalls.1 ("java/lang/String", 7) (by simp [consts_1])
  have HC1 : Jvm.Lit.constHeld s "com/example/map_rewriter/maprewriter/core/Symbol" 7 := hcalls.1 ("com/example/map_rewriter/maprewriter/core/Symbol", 7) (by simp [consts_1])
  have HC2 : Jvm.Lit.constHeld s "com/example/map_rewriter/maprewriter/core/Symbol" 76 := hcalls.1 ("com/example/map_rewriter/maprewriter/core/Symbol", 76) (by simp [consts_1])
  obtain ⟨fo, eF, Hfo⟩ := isR_v (Cond.before_iff.mp (hsets _ (List.mem_of_getElem? (i := 8) rfl)))
  have OF : Sta s s.heap "jdk/internal/util/Preconditions" "SIOOBE_FORMATTER" "Ljava/util/function/BiFunction;" fo := Sta.start eF (Or.inl (hsets _ (List.mem_of_getElem? (i := 7) rfl)))
  obtain ⟨n, o, h1, h2, h3, _, L, rfl, ⟨rfl, N, -⟩, -, hq⟩ := rm0 l s _ hw tables_1 i0 i1 i2 i3 i4 cS fo s.heap s.heap.size (Nat.le_refl _) OS HS OF Hfo (Old.start s) HW HC0 HC1 HC2 p e ha hc hk s m _ below hf ((Spec.applies_iff_loose hf).mp happ).1 ⟨rfl, State.Warmed39.refl s, rfl, KS.start⟩ trivial
  refine ⟨n, _, h1, h2, h3, hpost _ _ _ _ _ _ ⟨Cond.after_iff.mpr rfl, Cond.after_iff.mpr (eq_i res_at (Term.int_eval (1)) rfl), trivial⟩ ⟨hq.1, hq.2.1, hq.2.2.1, (hq.2.2.2.sift fun y hy => Or.inr (N y hy)).mono (by decide) (by decide)⟩⟩
theorem main_1_1 : Claimed_1_1 := comes_1 fun _ _ _ _ _ _ h hF => ⟨h.1, hF⟩
theorem main_1_2 : Claimed_1_2 := comes_1 fun _ _ _ _ _ _ h hF => ⟨h.2.1, hF⟩
end Jvm.Pilot.@@N@@
namespace Jvm.Pilot.@@N@@
open Jvm Jvm.ClassFile Sem Op Lib Jvm.Free Jvm.Stand Jvm.Pilot.@@N@@.Jvm.D
/-! MADE BY PROGRAM (witnessworld.py) out of the Statement's table words and the real class files: 22 classes; the members and pool entries that the words name. The judged class is class 1, her method 1. -/
namespace start1
open Jvm.ClassFile
def u (s : String) : CpInfo := .utf8 (stringToUtf16 s)
/-- a pool by its gaps: so many unusable entries, then the entry; so many at the end -/
def gap : Nat → List CpInfo → List CpInfo
  | 0, r => r
  | n + 1, r => .unusable :: gap n r
def poolList (es : List (Nat × CpInfo)) (last : Nat) : List CpInfo := es.foldr (fun e r => gap e.1 (e.2 :: r)) (gap last [])
def pool (es : List (Nat × CpInfo)) (last : Nat) : Array CpInfo := ⟨poolList es last⟩
def fileOf (pool : Array CpInfo) (this : Nat) (attrs : Array Attribute := #[]) (ms : Array MethodInfo := #[]) (fl : Nat := 33) (sup : Nat := 0) (ifs : Array Nat := #[]) (fds : Array FieldInfo := #[]) : ClassFile where
  minorVersion := 0
  majorVersion := 65
  constantPool := pool
  accessFlags := fl
  thisClass := this
  superClass := sup
  interfaces := ifs
  fields := fds
  methods := ms
  attributes := attrs
def plain (name : String) (sup : Option ClassId) : Class where
  name := name
  kind := .ordinary
  loader := none
  accessFlags := 33
  super := sup
  interfaces := #[]
  cf := none
  fields := #[]
  methods := #[]
  instanceTypes := #[]
  staticTypes := #[]
  resolved := #[]
  callSites := []
  init := .initialized
  statics := none
  mirror := none

def pool0 : Array CpInfo := pool [(5, u "<init>"), (0, u "()V"), (1, .class_ 10), (1, u "java/lang/Object")] 113

def k0c0 : Code := { maxStack := 0, maxLocals := 1, code := object_method_1_code, exceptionTable := #[], attributes := #[] }
def k0m0 : Method := { name := "<init>", desc := "()V", sig := { parameters := [], returnType := none }, accessFlags := 1, code := some k0c0 }
/-- java/lang/Object -/
def k0 : Class := { plain "java/lang/Object" none with
  accessFlags := 33
  interfaces := #[]
  cf := some (fileOf pool0 8 #[] #[{ accessFlags := 1, nameIndex := 5, descriptorIndex := 6, attributes := #[] }] 33 0 #[] #[])
  fields := #[]
  methods := #[k0m0]
  instanceTypes := #[]
  staticTypes := #[]
  resolved := Array.replicate 124 none
  statics := none }

def pool1 : Array CpInfo := pool [(2, .class_ 4), (1, u "java/lang/Object"), (0, u "<init>"), (0, u "()V"), (0, .methodref 8 9), (0, .class_ 10), (0, .nameAndType 11 12), (0, u "com/example/map_rewriter/maprewriter/core/SymbolEqualsPinLaw"), (0, u "fit"), (0, u "(IIZ)C"), (0, .class_ 14), (0, u "java/lang/String"), (0, .methodref 13 16), (0, .nameAndType 5 17), (0, u "([C)V"), (0, .class_ 19), (0, u "com/example/map_rewriter/maprewriter/core/Symbol"), (0, .methodref 18 21), (0, .nameAndType 5 22), (0, u "(Ljava/lang/String;Z)V"), (0, .methodref 18 24), (0, .nameAndType 25 26), (0, u "equals"), (0, u "(Ljava/lang/Object;)Z"), (0, .methodref 8 28), (0, .nameAndType 29 30), (0, u "symbolChar"), (0, u "(C)Z"), (2, u "law"), (0, u "(IIIII)Z")] 5

def k1m0 : Method := { name := "<init>", desc := "()V", sig := { parameters := [], returnType := none }, accessFlags := 1, code := none }
def k1c1 : Code := { maxStack := 5, maxLocals := 22, code := code, exceptionTable := #[], attributes := #[] }
def k1m1 : Method := { name := "law", desc := "(IIIII)Z", sig := { parameters := [.int, .int, .int, .int, .int], returnType := some .boolean }, accessFlags := 9, code := some k1c1 }
def k1c2 : Code := { maxStack := 2, maxLocals := 4, code := method_3_code, exceptionTable := #[], attributes := #[] }
def k1m2 : Method := { name := "fit", desc := "(IIZ)C", sig := { parameters := [.int, .int, .boolean], returnType := some .char }, accessFlags := 10, code := some k1c2 }
def k1c3 : Code := { maxStack := 2, maxLocals := 1, code := method_4_code, exceptionTable := #[], attributes := #[] }
def k1m3 : Method := { name := "symbolChar", desc := "(C)Z", sig := { parameters := [.char], returnType := some .boolean }, accessFlags := 10, code := some k1c3 }
/-- com/example/map_rewriter/maprewriter/core/SymbolEqualsPinLaw -/
def k1 : Class := { plain "com/example/map_rewriter/maprewriter/core/SymbolEqualsPinLaw" (some 0) with
  accessFlags := 49
  interfaces := #[]
  cf := some (fileOf pool1 8 #[] #[{ accessFlags := 1, nameIndex := 5, descriptorIndex := 6, attributes := #[] }, { accessFlags := 9, nameIndex := 33, descriptorIndex := 34, attributes := #[] }, { accessFlags := 10, nameIndex := 11, descriptorIndex := 12, attributes := #[] }, { accessFlags := 10, nameIndex := 29, descriptorIndex := 30, attributes := #[] }] 49 2 #[] #[])
  fields := #[]
  methods := #[k1m0, k1m1, k1m2, k1m3]
  instanceTypes := #[]
  staticTypes := #[]
  resolved := Array.replicate 40 none
  statics := none }

def pool2 : Array CpInfo := pool [(1, .class_ 2), (0, u "java/io/Serializable"), (0, .class_ 4), (0, u "java/lang/Object")] 2

/-- java/io/Serializable -/
def k2 : Class := { plain "java/io/Serializable" (some 0) with
  accessFlags := 1537
  interfaces := #[]
  cf := some (fileOf pool2 1 #[] #[] 1537 3 #[] #[])
  fields := #[]
  methods := #[]
  instanceTypes := #[]
  staticTypes := #[]
  resolved := Array.replicate 7 none
  statics := none }

def pool3 : Array CpInfo := pool [(1, .class_ 2), (0, u "java/lang/Comparable"), (0, .class_ 4), (0, u "java/lang/Object")] 7

/-- java/lang/Comparable -/
def k3 : Class := { plain "java/lang/Comparable" (some 0) with
  accessFlags := 1537
  interfaces := #[]
  cf := some (fileOf pool3 1 #[] #[] 1537 3 #[] #[])
  fields := #[]
  methods := #[]
  instanceTypes := #[]
  staticTypes := #[]
  resolved := Array.replicate 12 none
  statics := none }

def pool4 : Array CpInfo := pool [(2, .class_ 4), (1, u "java/lang/CharSequence"), (42, .class_ 48), (0, u "java/lang/CharSequence$1CodePointIterator"), (10, .class_ 60), (0, u "java/lang/CharSequence$1CharIterator"), (5, .class_ 67), (0, u "java/lang/Object")] 63

/-- java/lang/CharSequence -/
def k4 : Class := { plain "java/lang/CharSequence" (some 0) with
  accessFlags := 1537
  interfaces := #[]
  cf := some (fileOf pool4 2 #[.nestMembers #[47, 59]] #[] 1537 66 #[] #[])
  fields := #[]
  methods := #[]
  instanceTypes := #[]
  staticTypes := #[]
  resolved := Array.replicate 131 none
  statics := none }

def pool5 : Array CpInfo := pool [(1, .class_ 2), (0, u "java/lang/constant/Constable"), (0, .class_ 4), (0, u "java/lang/Object")] 6

/-- java/lang/constant/Constable -/
def k5 : Class := { plain "java/lang/constant/Constable" (some 0) with
  accessFlags := 1537
  interfaces := #[]
  cf := some (fileOf pool5 1 #[] #[] 1537 3 #[] #[])
  fields := #[]
  methods := #[]
  instanceTypes := #[]
  staticTypes := #[]
  resolved := Array.replicate 11 none
  statics := none }

def pool6 : Array CpInfo := pool [(1, .class_ 2), (0, u "java/lang/constant/ConstantDesc"), (0, .class_ 4), (0, u "java/lang/Object")] 32

/-- java/lang/constant/ConstantDesc -/
def k6 : Class := { plain "java/lang/constant/ConstantDesc" (some 0) with
  accessFlags := 1537
  interfaces := #[]
  cf := some (fileOf pool6 1 #[] #[] 1537 3 #[] #[])
  fields := #[]
  methods := #[]
  instanceTypes := #[]
  staticTypes := #[]
  resolved := Array.replicate 37 none
  statics := none }

def pool7 : Array CpInfo := pool [(1, .methodref 2 3), (0, .class_ 4), (0, .nameAndType 5 6), (0, u "java/lang/Object"), (0, u "<init>"), (0, u "()V"), (0, .string 8), (0, u ""), (0, .fieldref 10 11), (0, .class_ 12), (0, .nameAndType 13 14), (0, u "java/lang/String"), (0, u "value"), (0, u "[B"), (0, .fieldref 10 16), (0, .nameAndType 17 18), (0, u "coder"), (0, u "B"), (2, u "hash"), (0, u "I"), (2, u "hashIsZero"), (0, u "Z"), (0, .methodref 10 28), (0, .nameAndType 5 29), (0, u "([CIILjava/lang/Void;)V"), (8, .fieldref 10 39), (0, .nameAndType 40 26), (0, u "COMPACT_STRINGS"), (1, .class_ 44), (1, u "java/lang/StringUTF16"), (0, u "compress"), (1, .methodref 42 48), (0, .nameAndType 49 50), (0, u "coderFromArrayLen"), (0, u "([BI)B"), (56, .class_ 109), (1, u "java/lang/StringLatin1"), (32, u "()Z"), (34, .methodref 42 178), (0, .nameAndType 45 179), (0, u "([CII)[B"), (154, u "()I"), (0, .methodref 10 336), (0, .nameAndType 17 337), (0, u "()B"), (25, u "([BI)C"), (27, u "(II)V"), (35, u "(I)C"), (64, .methodref 10 493), (0, .nameAndType 494 142), (0, u "isLatin1"), (0, .methodref 107 496), (0, .nameAndType 497 363), (0, u "charAt"), (3, u "checkIndex"), (3, .methodref 10 506), (0, .nameAndType 507 334), (0, u "length"), (33, .methodref 107 542), (0, .nameAndType 543 544), (0, u "equals"), (0, u "([B[B)Z"), (28, u "(Ljava/lang/Object;)Z"), (1, .class_ 576), (0, u "java/lang/CharSequence"), (22, u "CASE_INSENSITIVE_ORDER"), (0, u "Ljava/util/Comparator;"), (32, .methodref 10 634), (0, .nameAndType 635 636), (0, u "indexOf"), (0, u "(II)I"), (0, .methodref 107 638), (0, .nameAndType 635 639), (0, u "([BIII)I"), (52, u "isEmpty"), (72, u "(I)I"), (244, u "([C)V"), (42, .fieldref 1054 1055), (0, .class_ 1056), (0, .nameAndType 1057 1058), (0, u "jdk/internal/util/Preconditions"), (0, u "SIOOBE_FORMATTER"), (0, u "Ljava/util/function/BiFunction;"), (0, .methodref 1054 1060), (0, .nameAndType 501 1061), (0, u "(IILjava/util/function/BiFunction;)I"), (39, u "serialPersistentFields"), (0, u "[Ljava/io/ObjectStreamField;"), (0, .class_ 1104), (0, u "java/lang/String$CaseInsensitiveComparator"), (1, .class_ 1107), (0, u "java/io/Serializable"), (0, .class_ 1109), (0, u "java/lang/Comparable"), (0, .class_ 1111), (0, u "java/lang/constant/Constable"), (0, .class_ 1113), (0, u "java/lang/constant/ConstantDesc"), (2, u "serialVersionUID"), (0, u "J"), (3, u "REPL"), (0, u "C"), (2, u "LATIN1"), (1, u "UTF16")] 323

def k7m0 : Method := { name := "<init>", desc := "()V", sig := { parameters := [], returnType := none }, accessFlags := 1, code := none }
def k7c1 : Code := { maxStack := 5, maxLocals := 2, code := jdk_42_method_3_code, exceptionTable := #[], attributes := #[] }
def k7m1 : Method := { name := "<init>", desc := "([C)V", sig := { parameters := [(.array .char)], returnType := none }, accessFlags := 1, code := some k7c1 }
def k7c2 : Code := { maxStack := 2, maxLocals := 1, code := jdk_42_method_54_code, exceptionTable := #[], attributes := #[] }
def k7m2 : Method := { name := "length", desc := "()I", sig := { parameters := [], returnType := some .int }, accessFlags := 1, code := some k7c2 }
def k7c3 : Code := { maxStack := 1, maxLocals := 1, code := jdk_42_method_55_code, exceptionTable := #[], attributes := #[] }
def k7m3 : Method := { name := "isEmpty", desc := "()Z", sig := { parameters := [], returnType := some .boolean }, accessFlags := 1, code := some k7c3 }
def k7c4 : Code := { maxStack := 2, maxLocals := 2, code := jdk_42_method_56_code, exceptionTable := #[], attributes := #[] }
def k7m4 : Method := { name := "charAt", desc := "(I)C", sig := { parameters := [.int], returnType := some .char }, accessFlags := 1, code := some k7c4 }
def k7c5 : Code := { maxStack := 2, maxLocals := 3, code := jdk_42_method_66_code, exceptionTable := #[], attributes := #[] }
def k7m5 : Method := { name := "equals", desc := "(Ljava/lang/Object;)Z", sig := { parameters := [(.object "java/lang/Object")], returnType := some .boolean }, accessFlags := 1, code := some k7c5 }
def k7c6 : Code := { maxStack := 3, maxLocals := 2, code := jdk_42_method_79_code, exceptionTable := #[], attributes := #[] }
def k7m6 : Method := { name := "indexOf", desc := "(I)I", sig := { parameters := [.int], returnType := some .int }, accessFlags := 1, code := some k7c6 }
def k7c7 : Code := { maxStack := 4, maxLocals := 3, code := jdk_42_method_80_code, exceptionTable := #[], attributes := #[] }
def k7m7 : Method := { name := "indexOf", desc := "(II)I", sig := { parameters := [.int, .int], returnType := some .int }, accessFlags := 1, code := some k7c7 }
def k7c8 : Code := { maxStack := 4, maxLocals := 6, code := jdk_42_method_149_code, exceptionTable := #[], attributes := #[] }
def k7m8 : Method := { name := "<init>", desc := "([CIILjava/lang/Void;)V", sig := { parameters := [(.array .char), .int, .int, (.object "java/lang/Void")], returnType := none }, accessFlags := 2, code := some k7c8 }
def k7c9 : Code := { maxStack := 1, maxLocals := 1, code := jdk_42_method_152_code, exceptionTable := #[], attributes := #[] }
def k7m9 : Method := { name := "coder", desc := "()B", sig := { parameters := [], returnType := some .byte }, accessFlags := 0, code := some k7c9 }
def k7c10 : Code := { maxStack := 1, maxLocals := 1, code := jdk_42_method_154_code, exceptionTable := #[], attributes := #[] }
def k7m10 : Method := { name := "isLatin1", desc := "()Z", sig := { parameters := [], returnType := some .boolean }, accessFlags := 0, code := some k7c10 }
def k7c11 : Code := { maxStack := 3, maxLocals := 2, code := jdk_42_method_155_code, exceptionTable := #[], attributes := #[] }
def k7m11 : Method := { name := "checkIndex", desc := "(II)V", sig := { parameters := [.int, .int], returnType := none }, accessFlags := 8, code := some k7c11 }
/-- java/lang/String -/
def k7 : Class := { plain "java/lang/String" (some 0) with
  accessFlags := 49
  interfaces := #[2, 3, 4, 5, 6]
  cf := some (fileOf pool7 10 #[.nestMembers #[1103]] #[{ accessFlags := 1, nameIndex := 5, descriptorIndex := 6, attributes := #[] }, { accessFlags := 1, nameIndex := 5, descriptorIndex := 1010, attributes := #[] }, { accessFlags := 1, nameIndex := 507, descriptorIndex := 334, attributes := #[] }, { accessFlags := 1, nameIndex := 692, descriptorIndex := 142, attributes := #[] }, { accessFlags := 1, nameIndex := 497, descriptorIndex := 427, attributes := #[] }, { accessFlags := 1, nameIndex := 543, descriptorIndex := 573, attributes := #[] }, { accessFlags := 1, nameIndex := 635, descriptorIndex := 765, attributes := #[] }, { accessFlags := 1, nameIndex := 635, descriptorIndex := 636, attributes := #[] }, { accessFlags := 2, nameIndex := 5, descriptorIndex := 29, attributes := #[] }, { accessFlags := 0, nameIndex := 17, descriptorIndex := 337, attributes := #[] }, { accessFlags := 0, nameIndex := 494, descriptorIndex := 142, attributes := #[] }, { accessFlags := 8, nameIndex := 501, descriptorIndex := 391, attributes := #[] }] 49 2 #[1106, 1108, 575, 1110, 1112] #[{ accessFlags := 18, nameIndex := 13, descriptorIndex := 14, attributes := #[] }, { accessFlags := 18, nameIndex := 17, descriptorIndex := 18, attributes := #[] }, { accessFlags := 2, nameIndex := 21, descriptorIndex := 22, attributes := #[] }, { accessFlags := 2, nameIndex := 25, descriptorIndex := 26, attributes := #[] }, { accessFlags := 26, nameIndex := 1116, descriptorIndex := 1117, attributes := #[] }, { accessFlags := 24, nameIndex := 40, descriptorIndex := 26, attributes := #[] }, { accessFlags := 26, nameIndex := 1101, descriptorIndex := 1102, attributes := #[] }, { accessFlags := 26, nameIndex := 1121, descriptorIndex := 1122, attributes := #[] }, { accessFlags := 25, nameIndex := 599, descriptorIndex := 600, attributes := #[] }, { accessFlags := 24, nameIndex := 1125, descriptorIndex := 18, attributes := #[] }, { accessFlags := 24, nameIndex := 1127, descriptorIndex := 18, attributes := #[] }])
  fields := #[{ name := "value", type := (.array .byte), accessFlags := 18, slot := 0, constantValue := 0 }, { name := "coder", type := .byte, accessFlags := 18, slot := 1, constantValue := 0 }, { name := "hash", type := .int, accessFlags := 2, slot := 2, constantValue := 0 }, { name := "hashIsZero", type := .boolean, accessFlags := 2, slot := 3, constantValue := 0 }, { name := "serialVersionUID", type := .long, accessFlags := 26, slot := 0, constantValue := 0 }, { name := "COMPACT_STRINGS", type := .boolean, accessFlags := 24, slot := 1, constantValue := 0 }, { name := "serialPersistentFields", type := (.array (.object "java/io/ObjectStreamField")), accessFlags := 26, slot := 2, constantValue := 0 }, { name := "REPL", type := .char, accessFlags := 26, slot := 3, constantValue := 0 }, { name := "CASE_INSENSITIVE_ORDER", type := (.object "java/util/Comparator"), accessFlags := 25, slot := 4, constantValue := 0 }, { name := "LATIN1", type := .byte, accessFlags := 24, slot := 5, constantValue := 0 }, { name := "UTF16", type := .byte, accessFlags := 24, slot := 6, constantValue := 0 }]
  methods := #[k7m0, k7m1, k7m2, k7m3, k7m4, k7m5, k7m6, k7m7, k7m8, k7m9, k7m10, k7m11]
  instanceTypes := #[(.array .byte), .byte, .int, .boolean]
  staticTypes := #[.long, .boolean, (.array (.object "java/io/ObjectStreamField")), .char, (.object "java/util/Comparator"), .byte, .byte]
  resolved := Array.replicate 1451 none
  statics := some 0 }

def pool8 : Array CpInfo := pool [(6, .class_ 8), (1, u "java/lang/Object"), (0, u "<init>"), (0, u "()V"), (1, .class_ 14), (1, u "java/lang/StringUTF16"), (31, u "$assertionsDisabled"), (0, u "Z"), (13, u "HI_BYTE_SHIFT"), (0, u "I"), (2, u "LO_BYTE_SHIFT"), (49, .methodref 12 116), (0, .nameAndType 117 118), (0, u "compress"), (0, u "([CI[BII)I"), (3, u "([CII)[B"), (138, u "coderFromArrayLen"), (0, u "([BI)B"), (106, .class_ 371), (1, u "java/lang/StringUTF16$LinesSpliterator"), (58, u "MAX_LENGTH"), (196, .class_ 628), (0, u "java/lang/StringUTF16$CodePointsSpliterator"), (0, .class_ 630), (0, u "java/lang/StringUTF16$CharsSpliterator")] 4

def k8m0 : Method := { name := "<init>", desc := "()V", sig := { parameters := [], returnType := none }, accessFlags := 0, code := none }
def k8c1 : Code := { maxStack := 2, maxLocals := 2, code := jdk_52_method_15_code, exceptionTable := #[], attributes := #[] }
def k8m1 : Method := { name := "coderFromArrayLen", desc := "([BI)B", sig := { parameters := [(.array .byte), .int], returnType := some .byte }, accessFlags := 8, code := some k8c1 }
def k8c2 : Code := { maxStack := 5, maxLocals := 6, code := jdk_52_method_16_code, exceptionTable := #[], attributes := #[] }
def k8m2 : Method := { name := "compress", desc := "([CII)[B", sig := { parameters := [(.array .char), .int, .int], returnType := some (.array .byte) }, accessFlags := 9, code := some k8c2 }
def k8c3 : Code := { maxStack := 3, maxLocals := 7, code := jdk_52_method_21_code, exceptionTable := #[], attributes := #[] }
def k8m3 : Method := { name := "compress", desc := "([CI[BII)I", sig := { parameters := [(.array .char), .int, (.array .byte), .int, .int], returnType := some .int }, accessFlags := 9, code := some k8c3 }
/-- java/lang/StringUTF16 -/
def k8 : Class := { plain "java/lang/StringUTF16" (some 0) with
  accessFlags := 48
  interfaces := #[]
  cf := some (fileOf pool8 12 #[.nestMembers #[627, 629, 369]] #[{ accessFlags := 0, nameIndex := 9, descriptorIndex := 10, attributes := #[] }, { accessFlags := 8, nameIndex := 261, descriptorIndex := 262, attributes := #[] }, { accessFlags := 9, nameIndex := 117, descriptorIndex := 122, attributes := #[] }, { accessFlags := 9, nameIndex := 117, descriptorIndex := 118, attributes := #[] }] 48 6 #[] #[{ accessFlags := 26, nameIndex := 61, descriptorIndex := 62, attributes := #[] }, { accessFlags := 26, nameIndex := 65, descriptorIndex := 62, attributes := #[] }, { accessFlags := 24, nameIndex := 430, descriptorIndex := 62, attributes := #[] }, { accessFlags := 4120, nameIndex := 46, descriptorIndex := 47, attributes := #[] }])
  fields := #[{ name := "HI_BYTE_SHIFT", type := .int, accessFlags := 26, slot := 0, constantValue := 0 }, { name := "LO_BYTE_SHIFT", type := .int, accessFlags := 26, slot := 1, constantValue := 0 }, { name := "MAX_LENGTH", type := .int, accessFlags := 24, slot := 2, constantValue := 0 }, { name := "$assertionsDisabled", type := .boolean, accessFlags := 4120, slot := 3, constantValue := 0 }]
  methods := #[k8m0, k8m1, k8m2, k8m3]
  instanceTypes := #[]
  staticTypes := #[.int, .int, .int, .boolean]
  resolved := Array.replicate 635 none
  statics := none }

def pool9 : Array CpInfo := pool [(1, .methodref 2 3), (0, .class_ 4), (0, .nameAndType 5 6), (0, u "java/lang/Object"), (0, u "<init>"), (0, u "()V"), (0, .string 8), (0, u "content"), (0, .methodref 10 11), (0, .class_ 12), (0, .nameAndType 13 14), (0, u "java/util/Objects"), (0, u "requireNonNull"), (0, u "(Ljava/lang/Object;Ljava/lang/String;)Ljava/lang/Object;"), (0, .methodref 16 17), (0, .class_ 18), (0, .nameAndType 19 20), (0, u "java/lang/String"), (0, u "indexOf"), (0, u "(I)I"), (9, .methodref 31 32), (0, .class_ 33), (0, .nameAndType 34 35), (0, u "com/example/map_rewriter/maprewriter/core/Symbol"), (0, u "isSimple"), (0, u "(Ljava/lang/String;)Z"), (1, .fieldref 31 38), (0, .nameAndType 8 39), (0, u "Ljava/lang/String;"), (0, .fieldref 31 41), (0, .nameAndType 42 43), (0, u "quoted"), (0, u "Z"), (2, u "RESERVED"), (0, u "Ljava/util/Set;"), (5, u "(Ljava/lang/Object;)Z"), (2, u "(Ljava/lang/String;Z)V"), (0, .methodref 16 58), (0, .nameAndType 59 60), (0, u "isEmpty"), (0, u "()Z"), (0, .methodref 16 62), (0, .nameAndType 63 64), (0, u "charAt"), (0, u "(I)C"), (0, .methodref 31 66), (0, .nameAndType 67 68), (0, u "isDigit"), (0, u "(I)Z"), (0, .methodref 16 70), (0, .nameAndType 71 72), (0, u "length"), (0, u "()I"), (0, .methodref 31 74), (0, .nameAndType 75 68), (0, u "isSymbolCharacter"), (0, .string 77), (0, u "~!@$%^&*_-+=<>.?/"), (0, .methodref 16 79), (0, .nameAndType 80 53), (0, u "equals"), (36, u "SYMBOL_PUNCTUATION")] 29

def k9c0 : Code := { maxStack := 3, maxLocals := 3, code := prog_35_method_1_code, exceptionTable := #[], attributes := #[] }
def k9m0 : Method := { name := "<init>", desc := "(Ljava/lang/String;Z)V", sig := { parameters := [(.object "java/lang/String"), .boolean], returnType := none }, accessFlags := 1, code := some k9c0 }
def k9c1 : Code := { maxStack := 2, maxLocals := 2, code := prog_35_method_4_code, exceptionTable := #[], attributes := #[] }
def k9m1 : Method := { name := "isSimple", desc := "(Ljava/lang/String;)Z", sig := { parameters := [(.object "java/lang/String")], returnType := some .boolean }, accessFlags := 8, code := some k9c1 }
def k9c2 : Code := { maxStack := 2, maxLocals := 1, code := prog_35_method_5_code, exceptionTable := #[], attributes := #[] }
def k9m2 : Method := { name := "isSymbolCharacter", desc := "(I)Z", sig := { parameters := [.int], returnType := some .boolean }, accessFlags := 8, code := some k9c2 }
def k9c3 : Code := { maxStack := 2, maxLocals := 1, code := prog_35_method_6_code, exceptionTable := #[], attributes := #[] }
def k9m3 : Method := { name := "isDigit", desc := "(I)Z", sig := { parameters := [.int], returnType := some .boolean }, accessFlags := 10, code := some k9c3 }
def k9c4 : Code := { maxStack := 2, maxLocals := 3, code := prog_35_method_7_code, exceptionTable := #[], attributes := #[] }
def k9m4 : Method := { name := "equals", desc := "(Ljava/lang/Object;)Z", sig := { parameters := [(.object "java/lang/Object")], returnType := some .boolean }, accessFlags := 1, code := some k9c4 }
/-- com/example/map_rewriter/maprewriter/core/Symbol -/
def k9 : Class := { plain "com/example/map_rewriter/maprewriter/core/Symbol" (some 0) with
  accessFlags := 49
  interfaces := #[]
  cf := some (fileOf pool9 31 #[] #[{ accessFlags := 1, nameIndex := 5, descriptorIndex := 56, attributes := #[] }, { accessFlags := 8, nameIndex := 34, descriptorIndex := 35, attributes := #[] }, { accessFlags := 8, nameIndex := 75, descriptorIndex := 68, attributes := #[] }, { accessFlags := 10, nameIndex := 67, descriptorIndex := 68, attributes := #[] }, { accessFlags := 1, nameIndex := 80, descriptorIndex := 53, attributes := #[] }] 49 2 #[] #[{ accessFlags := 24, nameIndex := 46, descriptorIndex := 47, attributes := #[] }, { accessFlags := 26, nameIndex := 117, descriptorIndex := 39, attributes := #[] }, { accessFlags := 18, nameIndex := 8, descriptorIndex := 39, attributes := #[] }, { accessFlags := 18, nameIndex := 42, descriptorIndex := 43, attributes := #[] }])
  fields := #[{ name := "RESERVED", type := (.object "java/util/Set"), accessFlags := 24, slot := 0, constantValue := 0 }, { name := "SYMBOL_PUNCTUATION", type := (.object "java/lang/String"), accessFlags := 26, slot := 1, constantValue := 0 }, { name := "content", type := (.object "java/lang/String"), accessFlags := 18, slot := 0, constantValue := 0 }, { name := "quoted", type := .boolean, accessFlags := 18, slot := 1, constantValue := 0 }]
  methods := #[k9m0, k9m1, k9m2, k9m3, k9m4]
  instanceTypes := #[(.object "java/lang/String"), .boolean]
  staticTypes := #[(.object "java/util/Set"), (.object "java/lang/String")]
  resolved := Array.replicate 147 none
  statics := none }

def pool10 : Array CpInfo := pool [(2, .class_ 4), (1, u "java/lang/Object"), (0, u "<init>"), (0, u "()V"), (35, .class_ 44), (1, u "java/util/Objects"), (0, u "requireNonNull"), (48, u "(Ljava/lang/Object;Ljava/lang/String;)Ljava/lang/Object;")] 89

def k10m0 : Method := { name := "<init>", desc := "()V", sig := { parameters := [], returnType := none }, accessFlags := 2, code := none }
def k10c1 : Code := { maxStack := 3, maxLocals := 2, code := jdk_31_method_11_code, exceptionTable := #[], attributes := #[] }
def k10m1 : Method := { name := "requireNonNull", desc := "(Ljava/lang/Object;Ljava/lang/String;)Ljava/lang/Object;", sig := { parameters := [(.object "java/lang/Object"), (.object "java/lang/String")], returnType := some (.object "java/lang/Object") }, accessFlags := 9, code := some k10c1 }
/-- java/util/Objects -/
def k10 : Class := { plain "java/util/Objects" (some 0) with
  accessFlags := 49
  interfaces := #[]
  cf := some (fileOf pool10 42 #[] #[{ accessFlags := 2, nameIndex := 5, descriptorIndex := 6, attributes := #[] }, { accessFlags := 9, nameIndex := 45, descriptorIndex := 94, attributes := #[] }] 49 2 #[] #[])
  fields := #[]
  methods := #[k10m0, k10m1]
  instanceTypes := #[]
  staticTypes := #[]
  resolved := Array.replicate 184 none
  statics := none }

def pool11 : Array CpInfo := pool [(1, .class_ 2), (0, u "java/lang/String"), (1, .class_ 6), (1, u "java/lang/Object"), (0, u "<init>"), (0, u "()V"), (0, .methodref 1 10), (0, .nameAndType 11 12), (0, u "checkIndex"), (0, u "(II)V"), (1, .class_ 16), (1, u "java/lang/StringLatin1"), (21, .methodref 39 40), (0, .class_ 41), (0, .nameAndType 42 43), (0, u "java/lang/Math"), (0, u "min"), (0, u "(II)I"), (9, u "([BI)C"), (34, .methodref 14 89), (0, .nameAndType 90 91), (0, u "canEncode"), (0, u "(I)Z"), (0, .methodref 39 93), (0, .nameAndType 94 43), (0, u "max"), (0, .methodref 14 96), (0, .nameAndType 97 98), (0, u "indexOfChar"), (0, u "([BIII)I"), (2, u "indexOf"), (19, u "$assertionsDisabled"), (0, u "Z"), (98, .class_ 223), (1, u "java/lang/StringLatin1$LinesSpliterator"), (28, u "charAt"), (28, u "equals"), (0, u "([B[B)Z"), (107, .class_ 391), (0, u "java/lang/StringLatin1$CharsSpliterator")] 3

def k11m0 : Method := { name := "<init>", desc := "()V", sig := { parameters := [], returnType := none }, accessFlags := 0, code := none }
def k11c1 : Code := { maxStack := 2, maxLocals := 2, code := jdk_43_method_2_code, exceptionTable := #[], attributes := #[] }
def k11m1 : Method := { name := "charAt", desc := "([BI)C", sig := { parameters := [(.array .byte), .int], returnType := some .char }, accessFlags := 9, code := some k11c1 }
def k11c2 : Code := { maxStack := 2, maxLocals := 1, code := jdk_43_method_4_code, exceptionTable := #[], attributes := #[] }
def k11m2 : Method := { name := "canEncode", desc := "(I)Z", sig := { parameters := [.int], returnType := some .boolean }, accessFlags := 9, code := some k11c2 }
def k11c3 : Code := { maxStack := 3, maxLocals := 3, code := jdk_43_method_13_code, exceptionTable := #[], attributes := #[] }
def k11m3 : Method := { name := "equals", desc := "([B[B)Z", sig := { parameters := [(.array .byte), (.array .byte)], returnType := some .boolean }, accessFlags := 9, code := some k11c3 }
def k11c4 : Code := { maxStack := 4, maxLocals := 4, code := jdk_43_method_22_code, exceptionTable := #[], attributes := #[] }
def k11m4 : Method := { name := "indexOf", desc := "([BIII)I", sig := { parameters := [(.array .byte), .int, .int, .int], returnType := some .int }, accessFlags := 9, code := some k11c4 }
def k11c5 : Code := { maxStack := 2, maxLocals := 6, code := jdk_43_method_23_code, exceptionTable := #[], attributes := #[] }
def k11m5 : Method := { name := "indexOfChar", desc := "([BIII)I", sig := { parameters := [(.array .byte), .int, .int, .int], returnType := some .int }, accessFlags := 10, code := some k11c5 }
/-- java/lang/StringLatin1 -/
def k11 : Class := { plain "java/lang/StringLatin1" (some 0) with
  accessFlags := 48
  interfaces := #[]
  cf := some (fileOf pool11 14 #[.nestMembers #[390, 221]] #[{ accessFlags := 0, nameIndex := 7, descriptorIndex := 8, attributes := #[] }, { accessFlags := 9, nameIndex := 252, descriptorIndex := 53, attributes := #[] }, { accessFlags := 9, nameIndex := 90, descriptorIndex := 91, attributes := #[] }, { accessFlags := 9, nameIndex := 281, descriptorIndex := 282, attributes := #[] }, { accessFlags := 9, nameIndex := 101, descriptorIndex := 98, attributes := #[] }, { accessFlags := 10, nameIndex := 97, descriptorIndex := 98, attributes := #[] }] 48 4 #[] #[{ accessFlags := 4120, nameIndex := 121, descriptorIndex := 122, attributes := #[] }])
  fields := #[{ name := "$assertionsDisabled", type := .boolean, accessFlags := 4120, slot := 0, constantValue := 0 }]
  methods := #[k11m0, k11m1, k11m2, k11m3, k11m4, k11m5]
  instanceTypes := #[]
  staticTypes := #[.boolean]
  resolved := Array.replicate 395 none
  statics := none }

def pool12 : Array CpInfo := pool [(2, .class_ 4), (1, u "java/lang/Object"), (0, u "<init>"), (0, u "()V"), (17, .class_ 26), (1, u "jdk/internal/util/Preconditions"), (6, u "checkIndex"), (21, .class_ 56), (0, u "jdk/internal/util/Preconditions$4"), (57, .class_ 115), (0, u "jdk/internal/util/Preconditions$1"), (7, u "SIOOBE_FORMATTER"), (0, u "Ljava/util/function/BiFunction;"), (0, .class_ 126), (0, u "jdk/internal/util/Preconditions$2"), (3, u "AIOOBE_FORMATTER"), (0, .class_ 132), (0, u "jdk/internal/util/Preconditions$3"), (3, u "IOOBE_FORMATTER"), (41, u "(IILjava/util/function/BiFunction;)I")] 15

def k12m0 : Method := { name := "<init>", desc := "()V", sig := { parameters := [], returnType := none }, accessFlags := 1, code := none }
def k12c1 : Code := { maxStack := 3, maxLocals := 3, code := jdk_41_method_11_code, exceptionTable := #[], attributes := #[] }
def k12m1 : Method := { name := "checkIndex", desc := "(IILjava/util/function/BiFunction;)I", sig := { parameters := [.int, .int, (.object "java/util/function/BiFunction")], returnType := some .int }, accessFlags := 9, code := some k12c1 }
/-- jdk/internal/util/Preconditions -/
def k12 : Class := { plain "jdk/internal/util/Preconditions" (some 0) with
  accessFlags := 33
  interfaces := #[]
  cf := some (fileOf pool12 24 #[.nestMembers #[55, 131, 125, 114]] #[{ accessFlags := 1, nameIndex := 5, descriptorIndex := 6, attributes := #[] }, { accessFlags := 9, nameIndex := 33, descriptorIndex := 178, attributes := #[] }] 33 2 #[] #[{ accessFlags := 25, nameIndex := 123, descriptorIndex := 124, attributes := #[] }, { accessFlags := 25, nameIndex := 130, descriptorIndex := 124, attributes := #[] }, { accessFlags := 25, nameIndex := 136, descriptorIndex := 124, attributes := #[] }])
  fields := #[{ name := "SIOOBE_FORMATTER", type := (.object "java/util/function/BiFunction"), accessFlags := 25, slot := 0, constantValue := 0 }, { name := "AIOOBE_FORMATTER", type := (.object "java/util/function/BiFunction"), accessFlags := 25, slot := 1, constantValue := 0 }, { name := "IOOBE_FORMATTER", type := (.object "java/util/function/BiFunction"), accessFlags := 25, slot := 2, constantValue := 0 }]
  methods := #[k12m0, k12m1]
  instanceTypes := #[]
  staticTypes := #[(.object "java/util/function/BiFunction"), (.object "java/util/function/BiFunction"), (.object "java/util/function/BiFunction")]
  resolved := Array.replicate 194 none
  statics := some 1 }

def pool13 : Array CpInfo := pool [(1, .class_ 2), (0, u "java/lang/Math"), (1, .class_ 6), (1, u "java/lang/Object"), (0, u "<init>"), (0, u "()V"), (89, .class_ 100), (1, u "java/lang/Math$RandomNumberGeneratorHolder"), (71, u "negativeZeroFloatBits"), (0, u "J"), (2, u "negativeZeroDoubleBits"), (21, u "max"), (2, u "min"), (43, u "$assertionsDisabled"), (0, u "Z"), (88, u "(II)I"), (2, u "twoToTheDoubleScaleDown"), (0, u "D"), (4, u "twoToTheDoubleScaleUp"), (9, u "E"), (3, u "PI"), (2, u "TAU"), (2, u "DEGREES_TO_RADIANS"), (0, u "RADIANS_TO_DEGREES")] 94

def k13m0 : Method := { name := "<init>", desc := "()V", sig := { parameters := [], returnType := none }, accessFlags := 2, code := none }
def k13c1 : Code := { maxStack := 2, maxLocals := 2, code := jdk_29_method_65_code, exceptionTable := #[], attributes := #[] }
def k13m1 : Method := { name := "max", desc := "(II)I", sig := { parameters := [.int, .int], returnType := some .int }, accessFlags := 9, code := some k13c1 }
def k13c2 : Code := { maxStack := 2, maxLocals := 2, code := jdk_29_method_69_code, exceptionTable := #[], attributes := #[] }
def k13m2 : Method := { name := "min", desc := "(II)I", sig := { parameters := [.int, .int], returnType := some .int }, accessFlags := 9, code := some k13c2 }
/-- java/lang/Math -/
def k13 : Class := { plain "java/lang/Math" (some 0) with
  accessFlags := 49
  interfaces := #[]
  cf := some (fileOf pool13 1 #[.nestMembers #[98]] #[{ accessFlags := 2, nameIndex := 7, descriptorIndex := 8, attributes := #[] }, { accessFlags := 9, nameIndex := 198, descriptorIndex := 335, attributes := #[] }, { accessFlags := 9, nameIndex := 201, descriptorIndex := 335, attributes := #[] }] 49 4 #[] #[{ accessFlags := 25, nameIndex := 354, descriptorIndex := 339, attributes := #[] }, { accessFlags := 25, nameIndex := 358, descriptorIndex := 339, attributes := #[] }, { accessFlags := 25, nameIndex := 361, descriptorIndex := 339, attributes := #[] }, { accessFlags := 26, nameIndex := 364, descriptorIndex := 339, attributes := #[] }, { accessFlags := 26, nameIndex := 365, descriptorIndex := 339, attributes := #[] }, { accessFlags := 26, nameIndex := 172, descriptorIndex := 173, attributes := #[] }, { accessFlags := 26, nameIndex := 176, descriptorIndex := 173, attributes := #[] }, { accessFlags := 8, nameIndex := 344, descriptorIndex := 339, attributes := #[] }, { accessFlags := 8, nameIndex := 338, descriptorIndex := 339, attributes := #[] }, { accessFlags := 4120, nameIndex := 245, descriptorIndex := 246, attributes := #[] }])
  fields := #[{ name := "E", type := .double, accessFlags := 25, slot := 0, constantValue := 0 }, { name := "PI", type := .double, accessFlags := 25, slot := 1, constantValue := 0 }, { name := "TAU", type := .double, accessFlags := 25, slot := 2, constantValue := 0 }, { name := "DEGREES_TO_RADIANS", type := .double, accessFlags := 26, slot := 3, constantValue := 0 }, { name := "RADIANS_TO_DEGREES", type := .double, accessFlags := 26, slot := 4, constantValue := 0 }, { name := "negativeZeroFloatBits", type := .long, accessFlags := 26, slot := 5, constantValue := 0 }, { name := "negativeZeroDoubleBits", type := .long, accessFlags := 26, slot := 6, constantValue := 0 }, { name := "twoToTheDoubleScaleUp", type := .double, accessFlags := 8, slot := 7, constantValue := 0 }, { name := "twoToTheDoubleScaleDown", type := .double, accessFlags := 8, slot := 8, constantValue := 0 }, { name := "$assertionsDisabled", type := .boolean, accessFlags := 4120, slot := 9, constantValue := 0 }]
  methods := #[k13m0, k13m1, k13m2]
  instanceTypes := #[]
  staticTypes := #[.double, .double, .double, .double, .double, .long, .long, .double, .double, .boolean]
  resolved := Array.replicate 460 none
  statics := none }

def pool14 : Array CpInfo := pool [(9, u "<init>"), (6, .class_ 18), (1, u "java/lang/Object"), (0, u "()V"), (1, .class_ 23), (1, u "jdk/internal/util/ArraysSupport"), (0, u "LOG2_ARRAY_LONG_INDEX_SCALE"), (0, u "I"), (2, u "U"), (0, u "Ljdk/internal/misc/Unsafe;"), (8, u "BIG_ENDIAN"), (0, u "Z"), (8, u "LOG2_BYTE_BIT_SIZE"), (4, u "LOG2_ARRAY_INT_INDEX_SCALE"), (54, u "JLA"), (0, u "Ljdk/internal/access/JavaLangAccess;"), (11, u "LOG2_ARRAY_BOOLEAN_INDEX_SCALE"), (9, u "LOG2_ARRAY_BYTE_INDEX_SCALE"), (5, u "LOG2_ARRAY_CHAR_INDEX_SCALE"), (5, u "LOG2_ARRAY_SHORT_INDEX_SCALE"), (18, u "LOG2_ARRAY_FLOAT_INDEX_SCALE"), (24, u "LOG2_ARRAY_DOUBLE_INDEX_SCALE"), (89, u "T_BOOLEAN"), (2, u "T_CHAR"), (1, u "T_FLOAT"), (1, u "T_DOUBLE"), (1, u "T_BYTE"), (1, u "T_SHORT"), (1, u "T_INT"), (1, u "T_LONG"), (1, u "SOFT_MAX_ARRAY_LENGTH")] 83

def k14m0 : Method := { name := "<init>", desc := "()V", sig := { parameters := [], returnType := none }, accessFlags := 2, code := none }
/-- jdk/internal/util/ArraysSupport -/
def k14 : Class := { plain "jdk/internal/util/ArraysSupport" (some 0) with
  accessFlags := 33
  interfaces := #[]
  cf := some (fileOf pool14 21 #[] #[{ accessFlags := 2, nameIndex := 9, descriptorIndex := 19, attributes := #[] }] 33 16 #[] #[{ accessFlags := 24, nameIndex := 28, descriptorIndex := 29, attributes := #[] }, { accessFlags := 26, nameIndex := 38, descriptorIndex := 39, attributes := #[] }, { accessFlags := 25, nameIndex := 121, descriptorIndex := 25, attributes := #[] }, { accessFlags := 25, nameIndex := 131, descriptorIndex := 25, attributes := #[] }, { accessFlags := 25, nameIndex := 137, descriptorIndex := 25, attributes := #[] }, { accessFlags := 25, nameIndex := 143, descriptorIndex := 25, attributes := #[] }, { accessFlags := 25, nameIndex := 53, descriptorIndex := 25, attributes := #[] }, { accessFlags := 25, nameIndex := 24, descriptorIndex := 25, attributes := #[] }, { accessFlags := 25, nameIndex := 162, descriptorIndex := 25, attributes := #[] }, { accessFlags := 25, nameIndex := 187, descriptorIndex := 25, attributes := #[] }, { accessFlags := 26, nameIndex := 48, descriptorIndex := 25, attributes := #[] }, { accessFlags := 25, nameIndex := 277, descriptorIndex := 25, attributes := #[] }, { accessFlags := 25, nameIndex := 280, descriptorIndex := 25, attributes := #[] }, { accessFlags := 25, nameIndex := 282, descriptorIndex := 25, attributes := #[] }, { accessFlags := 25, nameIndex := 284, descriptorIndex := 25, attributes := #[] }, { accessFlags := 25, nameIndex := 286, descriptorIndex := 25, attributes := #[] }, { accessFlags := 25, nameIndex := 288, descriptorIndex := 25, attributes := #[] }, { accessFlags := 25, nameIndex := 290, descriptorIndex := 25, attributes := #[] }, { accessFlags := 25, nameIndex := 292, descriptorIndex := 25, attributes := #[] }, { accessFlags := 26, nameIndex := 108, descriptorIndex := 109, attributes := #[] }, { accessFlags := 25, nameIndex := 294, descriptorIndex := 25, attributes := #[] }])
  fields := #[{ name := "U", type := (.object "jdk/internal/misc/Unsafe"), accessFlags := 24, slot := 0, constantValue := 0 }, { name := "BIG_ENDIAN", type := .boolean, accessFlags := 26, slot := 1, constantValue := 0 }, { name := "LOG2_ARRAY_BOOLEAN_INDEX_SCALE", type := .int, accessFlags := 25, slot := 2, constantValue := 0 }, { name := "LOG2_ARRAY_BYTE_INDEX_SCALE", type := .int, accessFlags := 25, slot := 3, constantValue := 0 }, { name := "LOG2_ARRAY_CHAR_INDEX_SCALE", type := .int, accessFlags := 25, slot := 4, constantValue := 0 }, { name := "LOG2_ARRAY_SHORT_INDEX_SCALE", type := .int, accessFlags := 25, slot := 5, constantValue := 0 }, { name := "LOG2_ARRAY_INT_INDEX_SCALE", type := .int, accessFlags := 25, slot := 6, constantValue := 0 }, { name := "LOG2_ARRAY_LONG_INDEX_SCALE", type := .int, accessFlags := 25, slot := 7, constantValue := 0 }, { name := "LOG2_ARRAY_FLOAT_INDEX_SCALE", type := .int, accessFlags := 25, slot := 8, constantValue := 0 }, { name := "LOG2_ARRAY_DOUBLE_INDEX_SCALE", type := .int, accessFlags := 25, slot := 9, constantValue := 0 }, { name := "LOG2_BYTE_BIT_SIZE", type := .int, accessFlags := 26, slot := 10, constantValue := 0 }, { name := "T_BOOLEAN", type := .int, accessFlags := 25, slot := 11, constantValue := 0 }, { name := "T_CHAR", type := .int, accessFlags := 25, slot := 12, constantValue := 0 }, { name := "T_FLOAT", type := .int, accessFlags := 25, slot := 13, constantValue := 0 }, { name := "T_DOUBLE", type := .int, accessFlags := 25, slot := 14, constantValue := 0 }, { name := "T_BYTE", type := .int, accessFlags := 25, slot := 15, constantValue := 0 }, { name := "T_SHORT", type := .int, accessFlags := 25, slot := 16, constantValue := 0 }, { name := "T_INT", type := .int, accessFlags := 25, slot := 17, constantValue := 0 }, { name := "T_LONG", type := .int, accessFlags := 25, slot := 18, constantValue := 0 }, { name := "JLA", type := (.object "jdk/internal/access/JavaLangAccess"), accessFlags := 26, slot := 19, constantValue := 0 }, { name := "SOFT_MAX_ARRAY_LENGTH", type := .int, accessFlags := 25, slot := 20, constantValue := 0 }]
  methods := #[k14m0]
  instanceTypes := #[]
  staticTypes := #[(.object "jdk/internal/misc/Unsafe"), .boolean, .int, .int, .int, .int, .int, .int, .int, .int, .int, .int, .int, .int, .int, .int, .int, .int, .int, (.object "jdk/internal/access/JavaLangAccess"), .int]
  resolved := Array.replicate 378 none
  statics := none }

def pool15 : Array CpInfo := pool [(1, u "java/lang/Cloneable"), (0, .class_ 1), (0, u "java/lang/Object"), (0, .class_ 3)] 3

/-- java/lang/Cloneable -/
def k15 : Class := { plain "java/lang/Cloneable" (some 0) with
  accessFlags := 1537
  interfaces := #[]
  cf := some (fileOf pool15 2 #[] #[] 1537 4 #[] #[])
  fields := #[]
  methods := #[]
  instanceTypes := #[]
  staticTypes := #[]
  resolved := Array.replicate 8 none
  statics := none }

/-- the primitive byte -/
def k16 : Class := { plain "byte" none with kind := .primitive 'B', accessFlags := 0x411 }
/-- [B -/
def k17 : Class := { plain "[B" (some 0) with kind := .array 16 .byte, interfaces := #[15, 2], accessFlags := 1041 }

/-- the primitive char -/
def k18 : Class := { plain "char" none with kind := .primitive 'C', accessFlags := 0x411 }
/-- [C -/
def k19 : Class := { plain "[C" (some 0) with kind := .array 18 .char, interfaces := #[15, 2], accessFlags := 1041 }

/-- the primitive int -/
def k20 : Class := { plain "int" none with kind := .primitive 'I', accessFlags := 0x411 }
/-- [I -/
def k21 : Class := { plain "[I" (some 0) with kind := .array 20 .int, interfaces := #[15, 2], accessFlags := 1041 }

def heap : Heap := #[{ cls := 7, slots := #[.long 0, .int 1, .null, .int 0, .null, .int 0, .int 0], vm := .statics 7 },
  { cls := 12, slots := #[.null, .null, .null], vm := .statics 12 }]
def classes : Array Class := #[k0, k1, k2, k3, k4, k5, k6, k7, k8, k9, k10, k11, k12, k13, k14, k15, k16, k17, k18, k19, k20, k21]
def interned : List (Array UInt16 × Addr) := []
def slotsUsed : Nat := 10
def theMethod : MethodId := ⟨1, 1⟩
def args0 : Array Value := #[.int 1, .int 65, .int 66, .int 67, .int 68]
def aboutOver (below : List Frame) : State where
  vm := { classes := classes, interned := interned.toArray }
  heap := heap
  slotsUsed := slotsUsed
  threads := #[{ frames := .invoking theMethod args0 :: below }]
def below0 : List Frame := [.native { method := ⟨0, 0⟩, args := #[] }]
def about1 : State := aboutOver below0
def p0 : Program := .bare "" "" ""
def e0 : Env := launch0.env 0 0 0
theorem w_frames : about1.frames = Frame.invoking theMethod args0 :: below0 := rfl
set_option maxRecDepth 65536 in
theorem w_args : argsFit about1.vm theMethod args0 = true := by decide +kernel
set_option maxRecDepth 65536 in
theorem w_heap : heapFits about1 = true := by decide +kernel
set_option maxRecDepth 65536 in
theorem w_runnable : about1.curStatus? = some .runnable := by decide +kernel
set_option maxRecDepth 65536 in
theorem w_alone : about1.alone = true := by decide +kernel
set_option maxRecDepth 65536 in
theorem w_named : about1.methodNamed? x = some theMethod := by decide +kernel
set_option maxRecDepth 65536 in
theorem w_hears : about1.hears theMethod below0 = true := by decide +kernel
set_option maxRecDepth 65536 in
theorem w_ripe : about1.ripe theMethod args0 below0 = true := by decide +kernel
theorem w_running : about1.status = .running := rfl
set_option maxRecDepth 65536 in
theorem w_room : about1.hasRoom e0.platform room_1 = true :=
  launch0.hasRoom_least _ room_1 (by decide +kernel) (by decide +kernel) (by decide +kernel) (by decide +kernel) (by decide +kernel) (by decide +kernel)
theorem allAtoms_all (ts : List Jvm.Cond) (a : Array Jvm.Value) (st : Jvm.State) : (allAtoms ts).before a st = ts.all (fun c => c.before a st) := by
  induction ts with
  | nil => rfl
  | cons c t ih =>
    show (Jvm.Cond.and c (allAtoms t)).before a st = _
    rw [Jvm.Cond.before_and, ih, List.all_cons]
def words1 : List Jvm.Cond := Jvm.Cond.code x code maxLocals ret :: tables_1
/-- a 'code' word, met by the world's own term for the bytes: nothing is compared byte by byte -/
theorem code_word {y : MethodName} {bytes : ByteArray} {mx : Nat} {rt : Option FieldType} {a : Array Value} {s : State} {m : MethodId} {meth : Method} {c : Code} (h1 : s.methodNamed? y = some m) (h2 : s.vm.method? m = some meth) (h3 : meth.code = some c) (h4 : c.code = bytes)
    (h5 : (c.maxLocals == mx && c.exceptionTable.isEmpty && decide (c.maxStack ≤ mostOperands) && decide (meth.sig.returnType = rt) && !meth.locks && decide (parseMethodDescriptor y.desc = some meth.sig)) = true) : (Jvm.Cond.code y bytes mx rt).before a s = true := by
  simp only [Bool.and_eq_true, beq_iff_eq, Bool.not_eq_true', decide_eq_true_eq] at h5
  obtain ⟨⟨⟨⟨⟨g1, g2⟩, g3⟩, g4⟩, g5⟩, g6⟩ := h5
  simp [Cond.before, Cond.holds, Cond.value, h1, h2, h3, h4, g1, g2, g3, g4, g5, g6]
def isCode : Jvm.Cond → Bool
  | .code _ _ _ _ => true
  | _ => false
theorem all_split {L : List Jvm.Cond} {P : Jvm.Cond → Bool} (h1 : L.all (fun c => isCode c || P c) = true) (h2 : ∀ c ∈ L.filter isCode, P c = true) : L.all P = true := by
  refine List.all_eq_true.mpr fun c hc => ?_
  have h := List.all_eq_true.mp h1 c hc
  rcases Bool.eq_false_or_eq_true (isCode c) with hi | hi
  · exact h2 c (List.mem_filter.mpr ⟨hc, hi⟩)
  · simpa [hi] using h
set_option maxRecDepth 65536 in
theorem w_c0 : (Jvm.Cond.code x code maxLocals ret).before args0 about1 = true := code_word (m := ⟨1, 1⟩) (meth := k1m1) (c := k1c1) (by decide +kernel) rfl rfl rfl (by decide +kernel)
set_option maxRecDepth 65536 in
theorem w_c1 : (Jvm.Cond.code ({ cls := "com/example/map_rewriter/maprewriter/core/SymbolEqualsPinLaw", name := "fit", desc := "(IIZ)C" } : Jvm.MethodName) method_3_code (4 : Nat) (Option.some Jvm.ClassFile.FieldType.char)).before args0 about1 = true := code_word (m := ⟨1, 2⟩) (meth := k1m2) (c := k1c2) (by decide +kernel) rfl rfl rfl (by decide +kernel)
set_option maxRecDepth 65536 in
theorem w_c2 : (Jvm.Cond.code ({ cls := "com/example/map_rewriter/maprewriter/core/SymbolEqualsPinLaw", name := "symbolChar", desc := "(C)Z" } : Jvm.MethodName) method_4_code (1 : Nat) (Option.some Jvm.ClassFile.FieldType.boolean)).before args0 about1 = true := code_word (m := ⟨1, 3⟩) (meth := k1m3) (c := k1c3) (by decide +kernel) rfl rfl rfl (by decide +kernel)
set_option maxRecDepth 65536 in
theorem w_c3 : (Jvm.Cond.code ({ cls := "java/lang/String", name := "<init>", desc := "([C)V" } : Jvm.MethodName) jdk_42_method_3_code (2 : Nat) (Option.none : Option Jvm.ClassFile.FieldType)).before args0 about1 = true := code_word (m := ⟨7, 1⟩) (meth := k7m1) (c := k7c1) (by decide +kernel) rfl rfl rfl (by decide +kernel)
set_option maxRecDepth 65536 in
theorem w_c4 : (Jvm.Cond.code ({ cls := "java/lang/String", name := "<init>", desc := "([CIILjava/lang/Void;)V" } : Jvm.MethodName) jdk_42_method_149_code (6 : Nat) (Option.none : Option Jvm.ClassFile.FieldType)).before args0 about1 = true := code_word (m := ⟨7, 8⟩) (meth := k7m8) (c := k7c8) (by decide +kernel) rfl rfl rfl (by decide +kernel)
set_option maxRecDepth 65536 in
theorem w_c5 : (Jvm.Cond.code ({ cls := "java/lang/Object", name := "<init>", desc := "()V" } : Jvm.MethodName) object_method_1_code (1 : Nat) (Option.none : Option Jvm.ClassFile.FieldType)).before args0 about1 = true := code_word (m := ⟨0, 0⟩) (meth := k0m0) (c := k0c0) (by decide +kernel) rfl rfl rfl (by decide +kernel)
set_option maxRecDepth 65536 in
theorem w_c6 : (Jvm.Cond.code ({ cls := "java/lang/StringUTF16", name := "compress", desc := "([CII)[B" } : Jvm.MethodName) jdk_52_method_16_code (6 : Nat) (Option.some (Jvm.ClassFile.FieldType.array Jvm.ClassFile.FieldType.byte))).before args0 about1 = true := code_word (m := ⟨8, 2⟩) (meth := k8m2) (c := k8c2) (by decide +kernel) rfl rfl rfl (by decide +kernel)
set_option maxRecDepth 65536 in
theorem w_c7 : (Jvm.Cond.code ({ cls := "java/lang/StringUTF16", name := "compress", desc := "([CI[BII)I" } : Jvm.MethodName) jdk_52_method_21_code (7 : Nat) (Option.some Jvm.ClassFile.FieldType.int)).before args0 about1 = true := code_word (m := ⟨8, 3⟩) (meth := k8m3) (c := k8c3) (by decide +kernel) rfl rfl rfl (by decide +kernel)
set_option maxRecDepth 65536 in
theorem w_c8 : (Jvm.Cond.code ({ cls := "java/lang/StringUTF16", name := "coderFromArrayLen", desc := "([BI)B" } : Jvm.MethodName) jdk_52_method_15_code (2 : Nat) (Option.some Jvm.ClassFile.FieldType.byte)).before args0 about1 = true := code_word (m := ⟨8, 1⟩) (meth := k8m1) (c := k8c1) (by decide +kernel) rfl rfl rfl (by decide +kernel)
set_option maxRecDepth 65536 in
theorem w_c9 : (Jvm.Cond.code ({ cls := "com/example/map_rewriter/maprewriter/core/Symbol", name := "<init>", desc := "(Ljava/lang/String;Z)V" } : Jvm.MethodName) prog_35_method_1_code (3 : Nat) (Option.none : Option Jvm.ClassFile.FieldType)).before args0 about1 = true := code_word (m := ⟨9, 0⟩) (meth := k9m0) (c := k9c0) (by decide +kernel) rfl rfl rfl (by decide +kernel)
set_option maxRecDepth 65536 in
theorem w_c10 : (Jvm.Cond.code ({ cls := "java/util/Objects", name := "requireNonNull", desc := "(Ljava/lang/Object;Ljava/lang/String;)Ljava/lang/Object;" } : Jvm.MethodName) jdk_31_method_11_code (2 : Nat) (Option.some (Jvm.ClassFile.FieldType.object "java/lang/Object"))).before args0 about1 = true := code_word (m := ⟨10, 1⟩) (meth := k10m1) (c := k10c1) (by decide +kernel) rfl rfl rfl (by decide +kernel)
set_option maxRecDepth 65536 in
theorem w_c11 : (Jvm.Cond.code ({ cls := "com/example/map_rewriter/maprewriter/core/Symbol", name := "isSimple", desc := "(Ljava/lang/String;)Z" } : Jvm.MethodName) prog_35_method_4_code (2 : Nat) (Option.some Jvm.ClassFile.FieldType.boolean)).before args0 about1 = true := code_word (m := ⟨9, 1⟩) (meth := k9m1) (c := k9c1) (by decide +kernel) rfl rfl rfl (by decide +kernel)
set_option maxRecDepth 65536 in
theorem w_c12 : (Jvm.Cond.code ({ cls := "java/lang/String", name := "isEmpty", desc := "()Z" } : Jvm.MethodName) jdk_42_method_55_code (1 : Nat) (Option.some Jvm.ClassFile.FieldType.boolean)).before args0 about1 = true := code_word (m := ⟨7, 3⟩) (meth := k7m3) (c := k7c3) (by decide +kernel) rfl rfl rfl (by decide +kernel)
set_option maxRecDepth 65536 in
theorem w_c13 : (Jvm.Cond.code ({ cls := "java/lang/String", name := "charAt", desc := "(I)C" } : Jvm.MethodName) jdk_42_method_56_code (2 : Nat) (Option.some Jvm.ClassFile.FieldType.char)).before args0 about1 = true := code_word (m := ⟨7, 4⟩) (meth := k7m4) (c := k7c4) (by decide +kernel) rfl rfl rfl (by decide +kernel)
set_option maxRecDepth 65536 in
theorem w_c14 : (Jvm.Cond.code ({ cls := "java/lang/String", name := "isLatin1", desc := "()Z" } : Jvm.MethodName) jdk_42_method_154_code (1 : Nat) (Option.some Jvm.ClassFile.FieldType.boolean)).before args0 about1 = true := code_word (m := ⟨7, 10⟩) (meth := k7m10) (c := k7c10) (by decide +kernel) rfl rfl rfl (by decide +kernel)
set_option maxRecDepth 65536 in
theorem w_c15 : (Jvm.Cond.code ({ cls := "java/lang/StringLatin1", name := "charAt", desc := "([BI)C" } : Jvm.MethodName) jdk_43_method_2_code (2 : Nat) (Option.some Jvm.ClassFile.FieldType.char)).before args0 about1 = true := code_word (m := ⟨11, 1⟩) (meth := k11m1) (c := k11c1) (by decide +kernel) rfl rfl rfl (by decide +kernel)
set_option maxRecDepth 65536 in
theorem w_c16 : (Jvm.Cond.code ({ cls := "java/lang/String", name := "checkIndex", desc := "(II)V" } : Jvm.MethodName) jdk_42_method_155_code (2 : Nat) (Option.none : Option Jvm.ClassFile.FieldType)).before args0 about1 = true := code_word (m := ⟨7, 11⟩) (meth := k7m11) (c := k7c11) (by decide +kernel) rfl rfl rfl (by decide +kernel)
set_option maxRecDepth 65536 in
theorem w_c17 : (Jvm.Cond.code ({ cls := "jdk/internal/util/Preconditions", name := "checkIndex", desc := "(IILjava/util/function/BiFunction;)I" } : Jvm.MethodName) jdk_41_method_11_code (3 : Nat) (Option.some Jvm.ClassFile.FieldType.int)).before args0 about1 = true := code_word (m := ⟨12, 1⟩) (meth := k12m1) (c := k12c1) (by decide +kernel) rfl rfl rfl (by decide +kernel)
set_option maxRecDepth 65536 in
theorem w_c18 : (Jvm.Cond.code ({ cls := "com/example/map_rewriter/maprewriter/core/Symbol", name := "isDigit", desc := "(I)Z" } : Jvm.MethodName) prog_35_method_6_code (1 : Nat) (Option.some Jvm.ClassFile.FieldType.boolean)).before args0 about1 = true := code_word (m := ⟨9, 3⟩) (meth := k9m3) (c := k9c3) (by decide +kernel) rfl rfl rfl (by decide +kernel)
set_option maxRecDepth 65536 in
theorem w_c19 : (Jvm.Cond.code ({ cls := "java/lang/String", name := "length", desc := "()I" } : Jvm.MethodName) jdk_42_method_54_code (1 : Nat) (Option.some Jvm.ClassFile.FieldType.int)).before args0 about1 = true := code_word (m := ⟨7, 2⟩) (meth := k7m2) (c := k7c2) (by decide +kernel) rfl rfl rfl (by decide +kernel)
set_option maxRecDepth 65536 in
theorem w_c20 : (Jvm.Cond.code ({ cls := "java/lang/String", name := "coder", desc := "()B" } : Jvm.MethodName) jdk_42_method_152_code (1 : Nat) (Option.some Jvm.ClassFile.FieldType.byte)).before args0 about1 = true := code_word (m := ⟨7, 9⟩) (meth := k7m9) (c := k7c9) (by decide +kernel) rfl rfl rfl (by decide +kernel)
set_option maxRecDepth 65536 in
theorem w_c21 : (Jvm.Cond.code ({ cls := "com/example/map_rewriter/maprewriter/core/Symbol", name := "isSymbolCharacter", desc := "(I)Z" } : Jvm.MethodName) prog_35_method_5_code (1 : Nat) (Option.some Jvm.ClassFile.FieldType.boolean)).before args0 about1 = true := code_word (m := ⟨9, 2⟩) (meth := k9m2) (c := k9c2) (by decide +kernel) rfl rfl rfl (by decide +kernel)
set_option maxRecDepth 65536 in
theorem w_c22 : (Jvm.Cond.code ({ cls := "com/example/map_rewriter/maprewriter/core/Symbol", name := "equals", desc := "(Ljava/lang/Object;)Z" } : Jvm.MethodName) prog_35_method_7_code (3 : Nat) (Option.some Jvm.ClassFile.FieldType.boolean)).before args0 about1 = true := code_word (m := ⟨9, 4⟩) (meth := k9m4) (c := k9c4) (by decide +kernel) rfl rfl rfl (by decide +kernel)
set_option maxRecDepth 65536 in
theorem w_c23 : (Jvm.Cond.code ({ cls := "java/lang/String", name := "equals", desc := "(Ljava/lang/Object;)Z" } : Jvm.MethodName) jdk_42_method_66_code (3 : Nat) (Option.some Jvm.ClassFile.FieldType.boolean)).before args0 about1 = true := code_word (m := ⟨7, 5⟩) (meth := k7m5) (c := k7c5) (by decide +kernel) rfl rfl rfl (by decide +kernel)
set_option maxRecDepth 65536 in
theorem w_c24 : (Jvm.Cond.code ({ cls := "java/lang/StringLatin1", name := "equals", desc := "([B[B)Z" } : Jvm.MethodName) jdk_43_method_13_code (3 : Nat) (Option.some Jvm.ClassFile.FieldType.boolean)).before args0 about1 = true := code_word (m := ⟨11, 3⟩) (meth := k11m3) (c := k11c3) (by decide +kernel) rfl rfl rfl (by decide +kernel)
set_option maxRecDepth 65536 in
theorem w_c25 : (Jvm.Cond.code ({ cls := "java/lang/String", name := "indexOf", desc := "(I)I" } : Jvm.MethodName) jdk_42_method_79_code (2 : Nat) (Option.some Jvm.ClassFile.FieldType.int)).before args0 about1 = true := code_word (m := ⟨7, 6⟩) (meth := k7m6) (c := k7c6) (by decide +kernel) rfl rfl rfl (by decide +kernel)
set_option maxRecDepth 65536 in
theorem w_c26 : (Jvm.Cond.code ({ cls := "java/lang/String", name := "indexOf", desc := "(II)I" } : Jvm.MethodName) jdk_42_method_80_code (3 : Nat) (Option.some Jvm.ClassFile.FieldType.int)).before args0 about1 = true := code_word (m := ⟨7, 7⟩) (meth := k7m7) (c := k7c7) (by decide +kernel) rfl rfl rfl (by decide +kernel)
set_option maxRecDepth 65536 in
theorem w_c27 : (Jvm.Cond.code ({ cls := "java/lang/StringLatin1", name := "indexOf", desc := "([BIII)I" } : Jvm.MethodName) jdk_43_method_22_code (4 : Nat) (Option.some Jvm.ClassFile.FieldType.int)).before args0 about1 = true := code_word (m := ⟨11, 4⟩) (meth := k11m4) (c := k11c4) (by decide +kernel) rfl rfl rfl (by decide +kernel)
set_option maxRecDepth 65536 in
theorem w_c28 : (Jvm.Cond.code ({ cls := "java/lang/StringLatin1", name := "canEncode", desc := "(I)Z" } : Jvm.MethodName) jdk_43_method_4_code (1 : Nat) (Option.some Jvm.ClassFile.FieldType.boolean)).before args0 about1 = true := code_word (m := ⟨11, 2⟩) (meth := k11m2) (c := k11c2) (by decide +kernel) rfl rfl rfl (by decide +kernel)
set_option maxRecDepth 65536 in
theorem w_c29 : (Jvm.Cond.code ({ cls := "java/lang/Math", name := "max", desc := "(II)I" } : Jvm.MethodName) jdk_29_method_65_code (2 : Nat) (Option.some Jvm.ClassFile.FieldType.int)).before args0 about1 = true := code_word (m := ⟨13, 1⟩) (meth := k13m1) (c := k13c1) (by decide +kernel) rfl rfl rfl (by decide +kernel)
set_option maxRecDepth 65536 in
theorem w_c30 : (Jvm.Cond.code ({ cls := "java/lang/Math", name := "min", desc := "(II)I" } : Jvm.MethodName) jdk_29_method_69_code (2 : Nat) (Option.some Jvm.ClassFile.FieldType.int)).before args0 about1 = true := code_word (m := ⟨13, 2⟩) (meth := k13m2) (c := k13c2) (by decide +kernel) rfl rfl rfl (by decide +kernel)
set_option maxRecDepth 65536 in
theorem w_c31 : (Jvm.Cond.code ({ cls := "java/lang/StringLatin1", name := "indexOfChar", desc := "([BIII)I" } : Jvm.MethodName) jdk_43_method_23_code (6 : Nat) (Option.some Jvm.ClassFile.FieldType.int)).before args0 about1 = true := code_word (m := ⟨11, 5⟩) (meth := k11m5) (c := k11c5) (by decide +kernel) rfl rfl rfl (by decide +kernel)
def codes1 : List Jvm.Cond := [Jvm.Cond.code x code maxLocals ret, Jvm.Cond.code ({ cls := "com/example/map_rewriter/maprewriter/core/SymbolEqualsPinLaw", name := "fit", desc := "(IIZ)C" } : Jvm.MethodName) method_3_code (4 : Nat) (Option.some Jvm.ClassFile.FieldType.char), Jvm.Cond.code ({ cls := "com/example/map_rewriter/maprewriter/core/SymbolEqualsPinLaw", name := "symbolChar", desc := "(C)Z" } : Jvm.MethodName) method_4_code (1 : Nat) (Option.some Jvm.ClassFile.FieldType.boolean), Jvm.Cond.code ({ cls := "java/lang/String", name := "<init>", desc := "([C)V" } : Jvm.MethodName) jdk_42_method_3_code (2 : Nat) (Option.none : Option Jvm.ClassFile.FieldType), Jvm.Cond.code ({ cls := "java/lang/String", name := "<init>", desc := "([CIILjava/lang/Void;)V" } : Jvm.MethodName) jdk_42_method_149_code (6 : Nat) (Option.none : Option Jvm.ClassFile.FieldType), Jvm.Cond.code ({ cls := "java/lang/Object", name := "<init>", desc := "()V" } : Jvm.MethodName) object_method_1_code (1 : Nat) (Option.none : Option Jvm.ClassFile.FieldType), Jvm.Cond.code ({ cls := "java/lang/StringUTF16", name := "compress", desc := "([CII)[B" } : Jvm.MethodName) jdk_52_method_16_code (6 : Nat) (Option.some (Jvm.ClassFile.FieldType.array Jvm.ClassFile.FieldType.byte)), Jvm.Cond.code ({ cls := "java/lang/StringUTF16", name := "compress", desc := "([CI[BII)I" } : Jvm.MethodName) jdk_52_method_21_code (7 : Nat) (Option.some Jvm.ClassFile.FieldType.int), Jvm.Cond.code ({ cls := "java/lang/StringUTF16", name := "coderFromArrayLen", desc := "([BI)B" } : Jvm.MethodName) jdk_52_method_15_code (2 : Nat) (Option.some Jvm.ClassFile.FieldType.byte), Jvm.Cond.code ({ cls := "com/example/map_rewriter/maprewriter/core/Symbol", name := "<init>", desc := "(Ljava/lang/String;Z)V" } : Jvm.MethodName) prog_35_method_1_code (3 : Nat) (Option.none : Option Jvm.ClassFile.FieldType), Jvm.Cond.code ({ cls := "java/util/Objects", name := "requireNonNull", desc := "(Ljava/lang/Object;Ljava/lang/String;)Ljava/lang/Object;" } : Jvm.MethodName) jdk_31_method_11_code (2 : Nat) (Option.some (Jvm.ClassFile.FieldType.object "java/lang/Object")), Jvm.Cond.code ({ cls := "com/example/map_rewriter/maprewriter/core/Symbol", name := "isSimple", desc := "(Ljava/lang/String;)Z" } : Jvm.MethodName) prog_35_method_4_code (2 : Nat) (Option.some Jvm.ClassFile.FieldType.boolean), Jvm.Cond.code ({ cls := "java/lang/String", name := "isEmpty", desc := "()Z" } : Jvm.MethodName) jdk_42_method_55_code (1 : Nat) (Option.some Jvm.ClassFile.FieldType.boolean), Jvm.Cond.code ({ cls := "java/lang/String", name := "charAt", desc := "(I)C" } : Jvm.MethodName) jdk_42_method_56_code (2 : Nat) (Option.some Jvm.ClassFile.FieldType.char), Jvm.Cond.code ({ cls := "java/lang/String", name := "isLatin1", desc := "()Z" } : Jvm.MethodName) jdk_42_method_154_code (1 : Nat) (Option.some Jvm.ClassFile.FieldType.boolean), Jvm.Cond.code ({ cls := "java/lang/StringLatin1", name := "charAt", desc := "([BI)C" } : Jvm.MethodName) jdk_43_method_2_code (2 : Nat) (Option.some Jvm.ClassFile.FieldType.char), Jvm.Cond.code ({ cls := "java/lang/String", name := "checkIndex", desc := "(II)V" } : Jvm.MethodName) jdk_42_method_155_code (2 : Nat) (Option.none : Option Jvm.ClassFile.FieldType), Jvm.Cond.code ({ cls := "jdk/internal/util/Preconditions", name := "checkIndex", desc := "(IILjava/util/function/BiFunction;)I" } : Jvm.MethodName) jdk_41_method_11_code (3 : Nat) (Option.some Jvm.ClassFile.FieldType.int), Jvm.Cond.code ({ cls := "com/example/map_rewriter/maprewriter/core/Symbol", name := "isDigit", desc := "(I)Z" } : Jvm.MethodName) prog_35_method_6_code (1 : Nat) (Option.some Jvm.ClassFile.FieldType.boolean), Jvm.Cond.code ({ cls := "java/lang/String", name := "length", desc := "()I" } : Jvm.MethodName) jdk_42_method_54_code (1 : Nat) (Option.some Jvm.ClassFile.FieldType.int), Jvm.Cond.code ({ cls := "java/lang/String", name := "coder", desc := "()B" } : Jvm.MethodName) jdk_42_method_152_code (1 : Nat) (Option.some Jvm.ClassFile.FieldType.byte), Jvm.Cond.code ({ cls := "com/example/map_rewriter/maprewriter/core/Symbol", name := "isSymbolCharacter", desc := "(I)Z" } : Jvm.MethodName) prog_35_method_5_code (1 : Nat) (Option.some Jvm.ClassFile.FieldType.boolean), Jvm.Cond.code ({ cls := "com/example/map_rewriter/maprewriter/core/Symbol", name := "equals", desc := "(Ljava/lang/Object;)Z" } : Jvm.MethodName) prog_35_method_7_code (3 : Nat) (Option.some Jvm.ClassFile.FieldType.boolean), Jvm.Cond.code ({ cls := "java/lang/String", name := "equals", desc := "(Ljava/lang/Object;)Z" } : Jvm.MethodName) jdk_42_method_66_code (3 : Nat) (Option.some Jvm.ClassFile.FieldType.boolean), Jvm.Cond.code ({ cls := "java/lang/StringLatin1", name := "equals", desc := "([B[B)Z" } : Jvm.MethodName) jdk_43_method_13_code (3 : Nat) (Option.some Jvm.ClassFile.FieldType.boolean), Jvm.Cond.code ({ cls := "java/lang/String", name := "indexOf", desc := "(I)I" } : Jvm.MethodName) jdk_42_method_79_code (2 : Nat) (Option.some Jvm.ClassFile.FieldType.int), Jvm.Cond.code ({ cls := "java/lang/String", name := "indexOf", desc := "(II)I" } : Jvm.MethodName) jdk_42_method_80_code (3 : Nat) (Option.some Jvm.ClassFile.FieldType.int), Jvm.Cond.code ({ cls := "java/lang/StringLatin1", name := "indexOf", desc := "([BIII)I" } : Jvm.MethodName) jdk_43_method_22_code (4 : Nat) (Option.some Jvm.ClassFile.FieldType.int), Jvm.Cond.code ({ cls := "java/lang/StringLatin1", name := "canEncode", desc := "(I)Z" } : Jvm.MethodName) jdk_43_method_4_code (1 : Nat) (Option.some Jvm.ClassFile.FieldType.boolean), Jvm.Cond.code ({ cls := "java/lang/Math", name := "max", desc := "(II)I" } : Jvm.MethodName) jdk_29_method_65_code (2 : Nat) (Option.some Jvm.ClassFile.FieldType.int), Jvm.Cond.code ({ cls := "java/lang/Math", name := "min", desc := "(II)I" } : Jvm.MethodName) jdk_29_method_69_code (2 : Nat) (Option.some Jvm.ClassFile.FieldType.int), Jvm.Cond.code ({ cls := "java/lang/StringLatin1", name := "indexOfChar", desc := "([BIII)I" } : Jvm.MethodName) jdk_43_method_23_code (6 : Nat) (Option.some Jvm.ClassFile.FieldType.int)]
set_option maxRecDepth 65536 in
theorem codes_eq : words1.filter isCode = codes1 := rfl
theorem w_codes : ∀ c ∈ words1.filter isCode, c.before args0 about1 = true := by
  rw [codes_eq]
  intro c hc
  simp only [codes1, List.mem_cons, List.not_mem_nil, or_false] at hc
  rcases hc with rfl | rfl | rfl | rfl | rfl | rfl | rfl | rfl | rfl | rfl | rfl | rfl | rfl | rfl | rfl | rfl | rfl | rfl | rfl | rfl | rfl | rfl | rfl | rfl | rfl | rfl | rfl | rfl | rfl | rfl | rfl | rfl
  · exact w_c0
  · exact w_c1
  · exact w_c2
  · exact w_c3
  · exact w_c4
  · exact w_c5
  · exact w_c6
  · exact w_c7
  · exact w_c8
  · exact w_c9
  · exact w_c10
  · exact w_c11
  · exact w_c12
  · exact w_c13
  · exact w_c14
  · exact w_c15
  · exact w_c16
  · exact w_c17
  · exact w_c18
  · exact w_c19
  · exact w_c20
  · exact w_c21
  · exact w_c22
  · exact w_c23
  · exact w_c24
  · exact w_c25
  · exact w_c26
  · exact w_c27
  · exact w_c28
  · exact w_c29
  · exact w_c30
  · exact w_c31
set_option maxRecDepth 65536 in
theorem w_t1 : (words1.take 24).all (fun c => isCode c || c.before args0 about1) = true := by decide +kernel
set_option maxRecDepth 65536 in
theorem w_t2 : ((words1.drop 24).take 24).all (fun c => isCode c || c.before args0 about1) = true := by decide +kernel
set_option maxRecDepth 65536 in
theorem w_t3 : (((words1.drop 24).drop 24).take 24).all (fun c => isCode c || c.before args0 about1) = true := by decide +kernel
set_option maxRecDepth 65536 in
theorem w_t4 : ((((words1.drop 24).drop 24).drop 24).take 24).all (fun c => isCode c || c.before args0 about1) = true := by decide +kernel
set_option maxRecDepth 65536 in
theorem w_t5 : (((((words1.drop 24).drop 24).drop 24).drop 24).take 24).all (fun c => isCode c || c.before args0 about1) = true := by decide +kernel
set_option maxRecDepth 65536 in
theorem w_t6 : ((((((words1.drop 24).drop 24).drop 24).drop 24).drop 24).take 24).all (fun c => isCode c || c.before args0 about1) = true := by decide +kernel
set_option maxRecDepth 65536 in
theorem w_t7 : ((((((words1.drop 24).drop 24).drop 24).drop 24).drop 24).drop 24).all (fun c => isCode c || c.before args0 about1) = true := by decide +kernel
theorem w_tables : (allAtoms (Jvm.Cond.code x code maxLocals ret :: tables_1)).before args0 about1 = true := by
  rw [allAtoms_all]
  show words1.all (fun c => c.before args0 about1) = true
  refine all_split ?_ w_codes
  rw [← List.take_append_drop 24 words1, List.all_append, w_t1, ← List.take_append_drop 24 (words1.drop 24), List.all_append, w_t2, ← List.take_append_drop 24 ((words1.drop 24).drop 24), List.all_append, w_t3, ← List.take_append_drop 24 (((words1.drop 24).drop 24).drop 24), List.all_append, w_t4, ← List.take_append_drop 24 ((((words1.drop 24).drop 24).drop 24).drop 24), List.all_append, w_t5, ← List.take_append_drop 24 (((((words1.drop 24).drop 24).drop 24).drop 24).drop 24), List.all_append, w_t6, w_t7]
  rfl
set_option maxRecDepth 65536 in
theorem w_rest : rest_1_c.before args0 about1 = true := by decide +kernel
set_option maxRecDepth 65536 in
theorem w_case : (Jvm.Cond.and given_1 narrow_1).before args0 about1 = true := by decide +kernel
set_option maxRecDepth 65536 in
theorem w_consts : constsHeld consts_1 about1 := Jvm.Lit.constsHeldB_iff.mp (by decide +kernel)
theorem w_applies : (headSpec (Jvm.Cond.code x code maxLocals ret :: tables_1) room_1).applies x e0.platform about1 = true :=
  (Spec.applies_iff w_frames).mpr ⟨w_running, w_runnable, w_alone, w_named, w_hears, w_ripe, w_room, w_tables⟩
theorem atStart : AtStart classFile x code maxLocals ret World_1 tables_1 room_1 Calls_1 rest_1 Pre_1 launch0 p0 e0 about1 theMethod args0 below0 :=
  ⟨lists_1, trivial, launch0.admits_env _ _ _, launch0.least_env, fairChoices_fair.cas, fairChoices_fair.clock, w_frames, w_args, w_heap, w_applies, ⟨w_consts, trivial⟩, w_rest, w_case⟩
end start1
theorem witness_1 : WitnessClaimed_1 := ⟨start1.p0, start1.e0, start1.about1, start1.theMethod, start1.args0, start1.below0, start1.atStart⟩
end Jvm.Pilot.@@N@@
