import JvmDerived
import JvmDerived.Pilot.@@N@@Statement
import JvmDerived.Pilot.@@N@@Code
set_option linter.unusedVariables false
set_option linter.unusedSimpArgs false
/- laws to paste: Road.backV, Road.eqW (cut by pick.py; bodies as the Statement names them) -/
namespace Jvm.Pilot.@@N@@
namespace StrChars
open Jvm Sem ClassFile Op Lib Jvm.Stand Jvm.Free.XT Jvm.Free.ALB Jvm.Free.JM Jvm.Free
open Jvm.Lib.Cold (StaticIs)
/-- a char array whose places are chars -/
def Ch (a : Addr) (A : Cell) (U : State) : Prop := Arr .char a A U ∧ Typed .char A
theorem Ch.mv {a : Addr} {A : Cell} {U U' : State} (h : Ch a A U) (hal : U.vm.Alike U'.vm) (hh : U'.heap = U.heap) : Ch a A U' := ⟨h.1.mv hal hh, h.2⟩
theorem Ch.keep {a : Addr} {A : Cell} {U U' : State} (h : Ch a A U) (hal : U.vm.Alike U'.vm) (hk : U'.heap[a]? = some A) : Ch a A U' := ⟨h.1.keep hal hk, h.2⟩
/-- what place i of a char[]'s cell holds -/
def cv (A : Cell) (i : Nat) : Int32 := match A.slots[i]? with | some (.int x) => x | _ => 0
theorem Ch.get {a : Addr} {A : Cell} {U : State} (h : Ch a A U) {i : Nat} (hi : i < A.slots.size) : A.slots[i]? = some (.int (cv A i)) := by
  have e := Array.getElem?_eq_getElem hi
  have f := h.2 i _ e
  unfold cv; rw [e]
  generalize A.slots[i] = v at f
  cases v <;> simp [fits] at f ⊢
/-- the byte that i2b leaves of a char -/
def lo8 (x : Int32) : Int32 := x.toInt8.toInt32
theorem fits_lo8 (y : Int32) : fits .byte (.int (lo8 y)) = true := by
  have h1 := y.toInt8.le_toInt
  have h2 := y.toInt8.toInt_lt
  simp only [lo8, fits, Bool.and_eq_true, decide_eq_true_eq, Int32.le_iff_toInt_le, Int8.toInt_toInt32, show (-128 : Int32).toInt = -128 from by decide, show (127 : Int32).toInt = 127 from by decide]
  omega
/-- A' is A but that each place j of lo .. hi - 1 holds f j -/
def Laid (A A' : Cell) (lo hi : Nat) (f : Nat → Value) : Prop := A'.cls = A.cls ∧ A'.vm = A.vm ∧ A'.slots.size = A.slots.size ∧ ∀ i, A'.slots[i]? = if lo ≤ i ∧ i < hi then some (f i) else A.slots[i]?
theorem Laid.zero (A : Cell) (lo : Nat) (f : Nat → Value) : Laid A A lo (lo + 0) f := ⟨rfl, rfl, rfl, fun i => by rw [if_neg (by omega)]⟩
theorem Laid.step {A Ak : Cell} {lo k : Nat} {f : Nat → Value} {v : Value} (h : Laid A Ak lo k f) (hlo : lo ≤ k) (hk : k < Ak.slots.size) (hv : v = f k) : Laid A (Ak.setSlot k v) lo (k + 1) f := by
  refine ⟨h.1, h.2.1, by simpa [Cell.setSlot] using h.2.2.1, fun i => ?_⟩
  by_cases e : k = i
  · subst e; rw [Cell.slots_setSlot_self v hk, if_pos (by omega), hv]
  · rw [Cell.slots_setSlot_ne v e, h.2.2.2 i]
    by_cases q : lo ≤ i ∧ i < k
    · rw [if_pos q, if_pos (by omega)]
    · rw [if_neg q, if_neg (by omega)]
def U16 : String := "java/lang/StringUTF16"
namespace Cmp5
def yN : MethodName := ⟨"java/lang/StringUTF16", "compress", "([CI[BII)I"⟩
abbrev yB : ByteArray := jdk_52_method_21_code
theorem d0 : decode yB 0 = .ok (.iconst 0, 1) := by decide +kernel
theorem d1 : decode yB 1 = .ok (.istore 5, 2) := by decide +kernel
theorem d3 : decode yB 3 = .ok (.iload 5, 2) := by decide +kernel
theorem d5 : decode yB 5 = .ok (.iload 4, 2) := by decide +kernel
theorem d7 : decode yB 7 = .ok (.if_icmp (.ge) 37, 3) := by decide +kernel
theorem d10 : decode yB 10 = .ok (.aload_n 0, 1) := by decide +kernel
theorem d11 : decode yB 11 = .ok (.iload_n 1, 1) := by decide +kernel
theorem d12 : decode yB 12 = .ok (.caload, 1) := by decide +kernel
theorem d13 : decode yB 13 = .ok (.istore 6, 2) := by decide +kernel
theorem d15 : decode yB 15 = .ok (.iload 6, 2) := by decide +kernel
theorem d17 : decode yB 17 = .ok (.sipush 255, 3) := by decide +kernel
theorem d20 : decode yB 20 = .ok (.if_icmp (.le) 6, 3) := by decide +kernel
theorem d26 : decode yB 26 = .ok (.aload_n 2, 1) := by decide +kernel
theorem d27 : decode yB 27 = .ok (.iload_n 3, 1) := by decide +kernel
theorem d28 : decode yB 28 = .ok (.iload 6, 2) := by decide +kernel
theorem d30 : decode yB 30 = .ok (.i2b, 1) := by decide +kernel
theorem d31 : decode yB 31 = .ok (.bastore, 1) := by decide +kernel
theorem d32 : decode yB 32 = .ok (.iinc 1 1, 3) := by decide +kernel
theorem d35 : decode yB 35 = .ok (.iinc 3 1, 3) := by decide +kernel
theorem d38 : decode yB 38 = .ok (.iinc 5 1, 3) := by decide +kernel
theorem d41 : decode yB 41 = .ok (.goto (-38), 3) := by decide +kernel
theorem d44 : decode yB 44 = .ok (.iload 4, 2) := by decide +kernel
theorem d46 : decode yB 46 = .ok (.ireturn, 1) := by decide +kernel
def site : List Cond := []
def tab : Cond := tabOf yN yB 7 (some .int) site
def P (b : Addr) (A : Cell) (d : Addr) (B : Cell) (o q len : Nat) (args : Array Value) (s : State) : Prop := args = #[.ref b, .int (Int32.ofNat o), .ref d, .int (Int32.ofNat q), .int (Int32.ofNat len)] ∧ Ch b A s ∧ Arr .byte d B s ∧ b ≠ d ∧ o + len ≤ A.slots.size ∧ q + len ≤ B.slots.size ∧ ∀ i, i < len → ¬ 255 < cv A (o + i)
def E (b : Addr) (A : Cell) (d : Addr) (B : Cell) (o q len : Nat) (r : Option Value) (s u : State) : Prop := r = some (.int (Int32.ofNat len)) ∧ ∃ B', Put d B' s u ∧ Laid B B' q (q + len) (fun j => Value.int (lo8 (cv A (o + (j - q)))))
/-- no char of the range above 255: len; the places written hold each char's low byte -/
theorem law (l : Launch) (b : Addr) (A : Cell) (d : Addr) (B : Cell) (o q len : Nat) : Law l yN 5 5 0 0 yB 7 (some .int) site (P b A d B o q len) (E b A d B o q len) (copyLocs d q len) 0 0 := by
  refine Law.of_walk (plainFor_of_name (by decide +kernel)) (by decide +kernel) (by decide +kernel) (by decide) (fun _ _ h => by rw [h.1]; rfl) (fun _ U U' hal hh h => ⟨h.1, h.2.1.mv hal hh, h.2.2.1.mv hal hh, h.2.2.2⟩) (fun r U U' V V' h1 hal h2 h => ⟨h.1, h.2.elim fun B' q => ⟨B', q.1.mv h1 h2, q.2⟩⟩) ?_
  intro p e s m args below meth c s₁ X0 hexec hbytes hml hret hlk hnm hown hh0 W hP
  obtain ⟨rfl, hA, hB, hne, l1, l2, hp⟩ := hP
  have c1 : Steps p.tables e below (s₁.setTop (entryFrame m #[.ref b, .int (Int32.ofNat o), .ref d, .int (Int32.ofNat q), .int (Int32.ofNat len)] 7)) (s₁.setTop (mkF m 0 #[.val (.ref b), .val (.int (Int32.ofNat o)), .val (.ref d), .val (.int (Int32.ofNat q)), .val (.int (Int32.ofNat len)), .unset, .unset] [])) := entry rfl
  have hA0 := hA.1.mv X0.warmed.alike hh0
  have hB0 := hB.mv X0.warmed.alike hh0
  have a31 := hA.1.2.2.2
  have c2 : Steps p.tables e below (s₁.setTop (entryFrame m #[.ref b, .int (Int32.ofNat o), .ref d, .int (Int32.ofNat q), .int (Int32.ofNat len)] 7)) (s₁.setTop (mkF m 3 #[.val (.ref b), .val (.int (Int32.ofNat o)), .val (.ref d), .val (.int (Int32.ofNat q)), .val (.int (Int32.ofNat len)), .val (.int 0), .unset] [])) := c1.trans (by
    refine iconstV X0.here hexec rfl 0 (hb hbytes d0) (by decide) ?_
    refine XS.istore X0.here hexec rfl (hb hbytes d1) rfl rfl ?_
    exact Steps.refl _)
  have loop : ∀ (r i : Nat), i + r = len → ∀ (z : Slot), (z = .unset ∨ ∃ w, z = .val w ∧ w.category = 1) → ∀ (Tl : State) (Bk : Cell), Stand p l e { frames := 0, locals := 0, cells := 0, slots := 0 } s m #[.ref b, .int (Int32.ofNat o), .ref d, .int (Int32.ofNat q), .int (Int32.ofNat len)] below meth c Tl ([] ++ copyLocs d q i) 0 0 → Put d Bk s₁ Tl → Laid B Bk q (q + i) (fun j => Value.int (lo8 (cv A (o + (j - q))))) →
      Steps p.tables e below (s₁.setTop (entryFrame m #[.ref b, .int (Int32.ofNat o), .ref d, .int (Int32.ofNat q), .int (Int32.ofNat len)] 7)) (Tl.setTop (mkF m 3 #[.val (.ref b), .val (.int (Int32.ofNat (o + i))), .val (.ref d), .val (.int (Int32.ofNat (q + i))), .val (.int (Int32.ofNat len)), .val (.int (Int32.ofNat i)), z] [])) → ∃ (T' : State) (B' : Cell) (z' : Slot), Stand p l e { frames := 0, locals := 0, cells := 0, slots := 0 } s m #[.ref b, .int (Int32.ofNat o), .ref d, .int (Int32.ofNat q), .int (Int32.ofNat len)] below meth c T' ([] ++ copyLocs d q len) 0 0 ∧ Put d B' s₁ T' ∧ Laid B B' q (q + len) (fun j => Value.int (lo8 (cv A (o + (j - q))))) ∧
      Steps p.tables e below (s₁.setTop (entryFrame m #[.ref b, .int (Int32.ofNat o), .ref d, .int (Int32.ofNat q), .int (Int32.ofNat len)] 7)) (T'.setTop (mkF m 3 #[.val (.ref b), .val (.int (Int32.ofNat (o + len))), .val (.ref d), .val (.int (Int32.ofNat (q + len))), .val (.int (Int32.ofNat len)), .val (.int (Int32.ofNat len)), z'] [])) := by
    intro r
    induction r with
    | zero =>
      intro i hi z hz Tl Bk Xl pl fl cl
      have hil : i = len := by omega
      rw [hil] at Xl fl cl
      exact ⟨Tl, Bk, z, Xl, pl, fl, cl⟩
    | succ r ih =>
      intro i hi z hz Tl Bk Xl pl fl cl
      have all := X0.warmed.alike.symm.trans Xl.warmed.alike
      have hAl := hA0.keep all (pl.other hne hA0.1)
      have hBk := hB0.like all pl.1 fl.1 fl.2.1 fl.2.2.1
      have hlt : q + i < Bk.slots.size := by rw [fl.2.2.1]; omega
      have c3 : Steps p.tables e below (s₁.setTop (entryFrame m #[.ref b, .int (Int32.ofNat o), .ref d, .int (Int32.ofNat q), .int (Int32.ofNat len)] 7)) (Tl.setTop (mkF m 12 #[.val (.ref b), .val (.int (Int32.ofNat (o + i))), .val (.ref d), .val (.int (Int32.ofNat (q + i))), .val (.int (Int32.ofNat len)), .val (.int (Int32.ofNat i)), z] [.int (Int32.ofNat (o + i)), .ref b])) := cl.trans (by
        refine XS.iload Xl.here hexec rfl (hb hbytes d3) rfl ?_
        refine XS.iload Xl.here hexec rfl (hb hbytes d5) rfl ?_
        refine XS.icmpNo Xl.here hexec rfl (hb hbytes d7) rfl (ii_ge_f (lt32 (by omega) (by omega))) ?_
        refine XS.aloadN Xl.here hexec rfl (hb hbytes d10) rfl rfl ?_
        refine XS.iloadN Xl.here hexec rfl (hb hbytes d11) rfl ?_
        exact Steps.refl _)
      have c4 : Steps p.tables e below (s₁.setTop (entryFrame m #[.ref b, .int (Int32.ofNat o), .ref d, .int (Int32.ofNat q), .int (Int32.ofNat len)] 7)) (Tl.setTop (mkF m 13 #[.val (.ref b), .val (.int (Int32.ofNat (o + i))), .val (.ref d), .val (.int (Int32.ofNat (q + i))), .val (.int (Int32.ofNat len)), .val (.int (Int32.ofNat i)), z] [.int (cv A (o + i))])) := c3.trans (by
        refine Xl.aget hexec hAl rfl (hA.get (i := o + i) (by omega)) rfl rfl (hb hbytes d12) ?_
        exact Steps.refl _)
      have c5 : Steps p.tables e below (s₁.setTop (entryFrame m #[.ref b, .int (Int32.ofNat o), .ref d, .int (Int32.ofNat q), .int (Int32.ofNat len)] 7)) (Tl.setTop (mkF m 15 #[.val (.ref b), .val (.int (Int32.ofNat (o + i))), .val (.ref d), .val (.int (Int32.ofNat (q + i))), .val (.int (Int32.ofNat len)), .val (.int (Int32.ofNat i)), .val (.int (cv A (o + i)))] [])) := c4.trans (by
        refine XS.istoreS Xl.here hexec rfl (hb hbytes d13) rfl rfl hz ?_
        exact Steps.refl _)
      have c6 : Steps p.tables e below (s₁.setTop (entryFrame m #[.ref b, .int (Int32.ofNat o), .ref d, .int (Int32.ofNat q), .int (Int32.ofNat len)] 7)) (Tl.setTop (mkF m 31 #[.val (.ref b), .val (.int (Int32.ofNat (o + i))), .val (.ref d), .val (.int (Int32.ofNat (q + i))), .val (.int (Int32.ofNat len)), .val (.int (Int32.ofNat i)), .val (.int (cv A (o + i)))] [.int (lo8 (cv A (o + i))), .int (Int32.ofNat (q + i)), .ref d])) := c5.trans (by
        refine XS.iload Xl.here hexec rfl (hb hbytes d15) rfl ?_
        refine sipushV Xl.here hexec rfl 255 (hb hbytes d17) (by decide) ?_
        refine XS.icmpYes Xl.here hexec rfl (pc0 := 20) rfl (hb hbytes d20) rfl (ii_le_t (hp i (by omega))) (by decide) rfl ?_
        refine XS.aloadN Xl.here hexec rfl (hb hbytes d26) rfl rfl ?_
        refine XS.iloadN Xl.here hexec rfl (hb hbytes d27) rfl ?_
        refine XS.iload Xl.here hexec rfl (hb hbytes d28) rfl ?_
        refine i2b Xl.here hexec rfl (hb hbytes d30) rfl ?_
        exact Steps.refl _)
      obtain ⟨T7, X7, p7, st7⟩ := Xl.aput hexec hBk rfl hlt rfl (fits_lo8 (cv A (o + i))) (g := (mkF m 31 #[.val (.ref b), .val (.int (Int32.ofNat (o + i))), .val (.ref d), .val (.int (Int32.ofNat (q + i))), .val (.int (Int32.ofNat len)), .val (.int (Int32.ofNat i)), .val (.int (cv A (o + i)))] [.int (lo8 (cv A (o + i))), .int (Int32.ofNat (q + i)), .ref d])) rfl (rest := []) rfl (hb hbytes d31)
      have c8 : Steps p.tables e below (s₁.setTop (entryFrame m #[.ref b, .int (Int32.ofNat o), .ref d, .int (Int32.ofNat q), .int (Int32.ofNat len)] 7)) (T7.setTop (mkF m 32 #[.val (.ref b), .val (.int (Int32.ofNat (o + i))), .val (.ref d), .val (.int (Int32.ofNat (q + i))), .val (.int (Int32.ofNat len)), .val (.int (Int32.ofNat i)), .val (.int (cv A (o + i)))] [])) := c6.trans (st7 _ (Steps.refl _))
      have c9 : Steps p.tables e below (s₁.setTop (entryFrame m #[.ref b, .int (Int32.ofNat o), .ref d, .int (Int32.ofNat q), .int (Int32.ofNat len)] 7)) (T7.setTop (mkF m 3 #[.val (.ref b), .val (.int (Int32.ofNat (o + i) + 1)), .val (.ref d), .val (.int (Int32.ofNat (q + i) + 1)), .val (.int (Int32.ofNat len)), .val (.int (Int32.ofNat i + 1)), .val (.int (cv A (o + i)))] [])) := c8.trans (by
        refine iincV X7.here hexec rfl 1 (hb hbytes d32) (by decide) rfl rfl ?_
        refine iincV X7.here hexec rfl 1 (hb hbytes d35) (by decide) rfl rfl ?_
        refine iincV X7.here hexec rfl 1 (hb hbytes d38) (by decide) rfl rfl ?_
        refine XS.goto X7.here hexec rfl (pc0 := 41) rfl (hb hbytes d41) (by decide) rfl ?_
        exact Steps.refl _)
      have c10 : Steps p.tables e below (s₁.setTop (entryFrame m #[.ref b, .int (Int32.ofNat o), .ref d, .int (Int32.ofNat q), .int (Int32.ofNat len)] 7)) (T7.setTop (mkF m 3 #[.val (.ref b), .val (.int (Int32.ofNat (o + (i + 1)))), .val (.ref d), .val (.int (Int32.ofNat (q + (i + 1)))), .val (.int (Int32.ofNat len)), .val (.int (Int32.ofNat (i + 1))), .val (.int (cv A (o + i)))] [])) := by
        have := c9
        rw [succ32, succ32, succ32] at this
        exact this
      exact ih (i + 1) (by omega) _ (Or.inr ⟨_, rfl, rfl⟩) T7 _ (by rw [copyLocs_step, ← List.append_assoc]; exact X7) (pl.trans p7) (fl.step (by omega) hlt (by simp)) c10
  obtain ⟨T9, B9, z9, X9, p9, f9, g9⟩ := loop len 0 (by omega) .unset (Or.inl rfl) s₁ B (by simpa [copyLocs] using X0) ⟨hB0.1, fun _ _ => rfl, rfl⟩ (Laid.zero _ _ _) c2
  have c11 : Steps p.tables e below (s₁.setTop (entryFrame m #[.ref b, .int (Int32.ofNat o), .ref d, .int (Int32.ofNat q), .int (Int32.ofNat len)] 7)) (T9.setTop (mkF m 46 #[.val (.ref b), .val (.int (Int32.ofNat (o + len))), .val (.ref d), .val (.int (Int32.ofNat (q + len))), .val (.int (Int32.ofNat len)), .val (.int (Int32.ofNat len)), z9] [.int (Int32.ofNat len)])) := g9.trans (by
    refine XS.iload X9.here hexec rfl (hb hbytes d3) rfl ?_
    refine XS.iload X9.here hexec rfl (hb hbytes d5) rfl ?_
    refine XS.icmpYes X9.here hexec rfl (pc0 := 7) rfl (hb hbytes d7) rfl (ii_ge_t (nlt32 (by omega) (Nat.le_refl _))) (by decide) rfl ?_
    refine XS.iload X9.here hexec rfl (hb hbytes d44) rfl ?_
    exact Steps.refl _)
  exact ⟨T9, some (.int (Int32.ofNat len)), _, _, _, X9, by simp, rfl, rfl, (fun h => by cases h), ⟨rfl, B9, p9.from hh0, f9⟩, fun fs hl => c11.trans (X9.ireturnOut hexec hret rfl (Or.inl rfl) (hb hbytes d46) hl)⟩
end Cmp5
namespace Cmp3
def yN : MethodName := ⟨"java/lang/StringUTF16", "compress", "([CII)[B"⟩
abbrev yB : ByteArray := jdk_52_method_16_code
theorem d0 : decode yB 0 = .ok (.iload_n 2, 1) := by decide +kernel
theorem d1 : decode yB 1 = .ok (.newarray .byte, 2) := by decide +kernel
theorem d3 : decode yB 3 = .ok (.astore_n 3, 1) := by decide +kernel
theorem d4 : decode yB 4 = .ok (.aload_n 0, 1) := by decide +kernel
theorem d5 : decode yB 5 = .ok (.iload_n 1, 1) := by decide +kernel
theorem d6 : decode yB 6 = .ok (.aload_n 3, 1) := by decide +kernel
theorem d7 : decode yB 7 = .ok (.iconst 0, 1) := by decide +kernel
theorem d8 : decode yB 8 = .ok (.iload_n 2, 1) := by decide +kernel
theorem d9 : decode yB 9 = .ok (.invokestatic 115, 3) := by decide +kernel
theorem d12 : decode yB 12 = .ok (.istore 4, 2) := by decide +kernel
theorem d14 : decode yB 14 = .ok (.iload 4, 2) := by decide +kernel
theorem d16 : decode yB 16 = .ok (.iload_n 2, 1) := by decide +kernel
theorem d17 : decode yB 17 = .ok (.if_icmp (.eq) 40, 3) := by decide +kernel
theorem d57 : decode yB 57 = .ok (.aload_n 3, 1) := by decide +kernel
theorem d58 : decode yB 58 = .ok (.areturn, 1) := by decide +kernel
def site : List Cond := [.arrayClass .byte, Cmp5.tab] ++ staticW U16 115 Cmp5.yN
def tab : Cond := tabOf yN yB 6 (some (.array .byte)) site
def P (b : Addr) (A : Cell) (o len : Nat) (args : Array Value) (s : State) : Prop := args = #[.ref b, .int (Int32.ofNat o), .int (Int32.ofNat len)] ∧ Ch b A s ∧ o + len ≤ A.slots.size ∧ len ≤ 536870912 ∧ ∀ i, i < len → ¬ 255 < cv A (o + i)
def E (b : Addr) (A : Cell) (o len : Nat) (r : Option Value) (s u : State) : Prop := NewArr .byte "[B" len (fun j => .int (lo8 (cv A (o + j)))) r s u ∧ u.heap.size = s.heap.size + 1
/-- no char of the range above 255: a new byte[] of their low bytes -/
theorem law (l : Launch) (b : Addr) (A : Cell) (o len : Nat) : Law l yN 3 3 1 18 yB 6 (some (.array .byte)) site (P b A o len) (E b A o len) [] 1 len := by
  refine Law.of_walk (plainFor_of_name (by decide +kernel)) (by decide +kernel) (by decide +kernel) (by decide) (fun _ _ h => by rw [h.1]; rfl) (fun _ U U' hal hh h => ⟨h.1, h.2.1.mv hal hh, h.2.2⟩) (fun r U U' V V' h1 hal h2 h => ⟨NewArr.mv r U U' V V' h1 hal h2 h.1, by rw [h1, h2]; exact h.2⟩) ?_
  intro p e s m args below meth c s₁ X0 hexec hbytes hml hret hlk hnm hown hh0 W hP
  obtain ⟨rfl, hA, l1, l2, hp⟩ := hP
  have a31 := hA.1.2.2.2
  have c1 : Steps p.tables e below (s₁.setTop (entryFrame m #[.ref b, .int (Int32.ofNat o), .int (Int32.ofNat len)] 6)) (s₁.setTop (mkF m 0 #[.val (.ref b), .val (.int (Int32.ofNat o)), .val (.int (Int32.ofNat len)), .unset, .unset, .unset] [])) := entry rfl
  have c2 : Steps p.tables e below (s₁.setTop (entryFrame m #[.ref b, .int (Int32.ofNat o), .int (Int32.ofNat len)] 6)) (s₁.setTop (mkF m 1 #[.val (.ref b), .val (.int (Int32.ofNat o)), .val (.int (Int32.ofNat len)), .unset, .unset, .unset] [.int (Int32.ofNat len)])) := c1.trans (by
    refine XS.iloadN X0.here hexec rfl (hb hbytes d0) rfl ?_
    exact Steps.refl _)
  obtain ⟨T3, B3, X3, ba3, bs3, bv3, bh3, bf3, st3⟩ := X0.anew hexec (atype := .byte) (wk W (.arrayClass .byte)) rfl (by show len * 1 ≤ _; omega) (by omega) (g := (mkF m 1 #[.val (.ref b), .val (.int (Int32.ofNat o)), .val (.int (Int32.ofNat len)), .unset, .unset, .unset] [.int (Int32.ofNat len)])) rfl (hb hbytes d1) (rest := []) rfl (Nat.le_refl _) (by show 0 + len ≤ len; omega)
  rw [hh0] at ba3 st3
  have kp3 : XT.Kept s T3 := (XT.Kept.of_eq hh0).push bh3
  have hA3 := hA.keep X3.warmed.alike (kp3 _ _ hA.1.1)
  have hne : b ≠ s.heap.size := hA.1.ne
  have c4 : Steps p.tables e below (s₁.setTop (entryFrame m #[.ref b, .int (Int32.ofNat o), .int (Int32.ofNat len)] 6)) (T3.setTop (mkF m 3 #[.val (.ref b), .val (.int (Int32.ofNat o)), .val (.int (Int32.ofNat len)), .unset, .unset, .unset] [.ref s.heap.size])) := c2.trans (st3 _ (Steps.refl _))
  have c5 : Steps p.tables e below (s₁.setTop (entryFrame m #[.ref b, .int (Int32.ofNat o), .int (Int32.ofNat len)] 6)) (T3.setTop (mkF m 9 #[.val (.ref b), .val (.int (Int32.ofNat o)), .val (.int (Int32.ofNat len)), .val (.ref s.heap.size), .unset, .unset] [.int (Int32.ofNat len), .int 0, .ref s.heap.size, .int (Int32.ofNat o), .ref b])) := c4.trans (by
    refine XS.astoreN X3.here hexec rfl (hb hbytes d3) rfl rfl rfl ?_
    refine XS.aloadN X3.here hexec rfl (hb hbytes d4) rfl rfl ?_
    refine XS.iloadN X3.here hexec rfl (hb hbytes d5) rfl ?_
    refine XS.aloadN X3.here hexec rfl (hb hbytes d6) rfl rfl ?_
    refine iconstV X3.here hexec rfl 0 (hb hbytes d7) (by decide) ?_
    refine XS.iloadN X3.here hexec rfl (hb hbytes d8) rfl ?_
    exact Steps.refl _)
  obtain ⟨v6, T6, X6, E6, g6⟩ := X3.callS hexec (Cmp5.law l b A s.heap.size B3 o 0 len) hown (wks W (staticW U16 115 Cmp5.yN)) (wk W Cmp5.tab) (W := 0) (Nat.le_of_ble_eq_true rfl) (Nat.le_of_ble_eq_true rfl) (Nat.le_refl _) (by show 0 + len + 0 ≤ len; omega) (g := (mkF m 9 #[.val (.ref b), .val (.int (Int32.ofNat o)), .val (.int (Int32.ofNat len)), .val (.ref s.heap.size), .unset, .unset] [.int (Int32.ofNat len), .int (Int32.ofNat 0), .ref s.heap.size, .int (Int32.ofNat o), .ref b])) rfl (by rw [hml]; rfl) c5 (argsL := [.ref b, .int (Int32.ofNat o), .ref s.heap.size, .int (Int32.ofNat 0), .int (Int32.ofNat len)]) (rest := []) rfl rfl (by show 2 * 0 + 0 ≤ _; decide) (hb hbytes d9) (⟨rfl, hA3, ba3, hne, l1, by rw [bs3]; simp, hp⟩)
  obtain ⟨rfl, B6, p6, f6⟩ := E6
  have c7 : Steps p.tables e below (s₁.setTop (entryFrame m #[.ref b, .int (Int32.ofNat o), .int (Int32.ofNat len)] 6)) (T6.setTop (mkF m 12 #[.val (.ref b), .val (.int (Int32.ofNat o)), .val (.int (Int32.ofNat len)), .val (.ref s.heap.size), .unset, .unset] [.int (Int32.ofNat len)])) := g6
  have c8 : Steps p.tables e below (s₁.setTop (entryFrame m #[.ref b, .int (Int32.ofNat o), .int (Int32.ofNat len)] 6)) (T6.setTop (mkF m 58 #[.val (.ref b), .val (.int (Int32.ofNat o)), .val (.int (Int32.ofNat len)), .val (.ref s.heap.size), .val (.int (Int32.ofNat len)), .unset] [.ref s.heap.size])) := c7.trans (by
    refine XS.istore X6.here hexec rfl (hb hbytes d12) rfl rfl ?_
    refine XS.iload X6.here hexec rfl (hb hbytes d14) rfl ?_
    refine XS.iloadN X6.here hexec rfl (hb hbytes d16) rfl ?_
    refine XS.icmpYes X6.here hexec rfl (pc0 := 17) rfl (hb hbytes d17) rfl (ii_eq_t rfl) (by decide) rfl ?_
    refine XS.aloadN X6.here hexec rfl (hb hbytes d57) rfl rfl ?_
    exact Steps.refl _)
  have X8 := X6.wide (L' := []) (cells' := 1) (slots' := len) (fun x hx hlt => by
    simp only [List.nil_append, copyLocs, List.mem_map, List.mem_range] at hx
    obtain ⟨i, -, rfl⟩ := hx
    exact absurd hlt (Nat.lt_irrefl _)) (Nat.le_refl _) (by omega)
  exact ⟨T6, some (.ref s.heap.size), _, _, _, X8, rfl, rfl, rfl, (fun h => by cases h), ⟨⟨rfl, B6, ba3.like (X3.warmed.alike.symm.trans X6.warmed.alike) p6.1 f6.1 f6.2.1 f6.2.2.1, f6.2.1.trans bv3, by rw [X6.warmed.alike.findClass, f6.1]; exact bf3, by rw [f6.2.2.1, bs3]; simp, fun j hj => by rw [f6.2.2.2 j, if_pos (by omega)]; rfl, kp3.put p6 (Nat.le_refl _)⟩, by rw [p6.2.2, bh3, hh0]; simp⟩, fun fs hl => c8.trans (X8.areturnOut hexec rfl hret rfl (hb hbytes d58) hl)⟩
end Cmp3
namespace CodL
def yN : MethodName := ⟨"java/lang/StringUTF16", "coderFromArrayLen", "([BI)B"⟩
abbrev yB : ByteArray := jdk_52_method_15_code
theorem d0 : decode yB 0 = .ok (.iload_n 1, 1) := by decide +kernel
theorem d1 : decode yB 1 = .ok (.aload_n 0, 1) := by decide +kernel
theorem d2 : decode yB 2 = .ok (.arraylength, 1) := by decide +kernel
theorem d3 : decode yB 3 = .ok (.isub, 1) := by decide +kernel
theorem d4 : decode yB 4 = .ok (.bipush 31, 2) := by decide +kernel
theorem d6 : decode yB 6 = .ok (.iushr, 1) := by decide +kernel
theorem d7 : decode yB 7 = .ok (.i2b, 1) := by decide +kernel
theorem d8 : decode yB 8 = .ok (.ireturn, 1) := by decide +kernel
def site : List Cond := []
def tab : Cond := tabOf yN yB 2 (some .byte) site
def P (d : Addr) (B : Cell) (args : Array Value) (s : State) : Prop := args = #[.ref d, .int (Int32.ofNat B.slots.size)] ∧ Arr .byte d B s
def E (r : Option Value) (s u : State) : Prop := XT.PureE (some (.int 0)) r s u
/-- an array as long as the number of chars: LATIN1 -/
theorem law (l : Launch) (d : Addr) (B : Cell) : Law l yN 2 2 0 0 yB 2 (some .byte) site (P d B) E [] 0 0 := by
  refine Law.of_walk (plainFor_of_name (by decide +kernel)) (by decide +kernel) (by decide +kernel) (by decide) (fun _ _ h => by rw [h.1]; rfl) (fun _ U U' hal hh h => ⟨h.1, h.2.mv hal hh⟩) (fun r U U' V V' h1 hal h2 h => XT.PureE.mv r U U' V V' h1 hal h2 h) ?_
  intro p e s m args below meth c s₁ X0 hexec hbytes hml hret hlk hnm hown hh0 W hP
  obtain ⟨rfl, hB⟩ := hP
  have hB0 := hB.mv X0.warmed.alike hh0
  have c1 : Steps p.tables e below (s₁.setTop (entryFrame m #[.ref d, .int (Int32.ofNat B.slots.size)] 2)) (s₁.setTop (mkF m 0 #[.val (.ref d), .val (.int (Int32.ofNat B.slots.size))] [])) := entry rfl
  have c2 : Steps p.tables e below (s₁.setTop (entryFrame m #[.ref d, .int (Int32.ofNat B.slots.size)] 2)) (s₁.setTop (mkF m 2 #[.val (.ref d), .val (.int (Int32.ofNat B.slots.size))] [.ref d, .int (Int32.ofNat B.slots.size)])) := c1.trans (by
    refine XS.iloadN X0.here hexec rfl (hb hbytes d0) rfl ?_
    refine XS.aloadN X0.here hexec rfl (hb hbytes d1) rfl rfl ?_
    exact Steps.refl _)
  have c3 : Steps p.tables e below (s₁.setTop (entryFrame m #[.ref d, .int (Int32.ofNat B.slots.size)] 2)) (s₁.setTop (mkF m 8 #[.val (.ref d), .val (.int (Int32.ofNat B.slots.size))] [.int (lo8 (ushr (Int32.ofNat B.slots.size - Int32.ofNat B.slots.size) 31))])) := c2.trans (by
    refine X0.alen hexec hB0 rfl rfl (hb hbytes d2) ?_
    refine XS.isub X0.here hexec rfl (hb hbytes d3) rfl ?_
    refine bipushV X0.here hexec rfl 31 (hb hbytes d4) (by decide) ?_
    refine iushr X0.here hexec rfl (hb hbytes d6) rfl ?_
    refine i2b X0.here hexec rfl (hb hbytes d7) rfl ?_
    exact Steps.refl _)
  have e0 : lo8 (ushr (Int32.ofNat B.slots.size - Int32.ofNat B.slots.size) 31) = 0 := by rw [Int32.sub_self]; decide
  rw [e0] at c3
  exact ⟨s₁, some (.int 0), _, _, _, X0, rfl, rfl, rfl, (fun h => by cases h), ⟨rfl, hh0⟩, fun fs hl => c3.trans (X0.ireturnOut hexec hret rfl (Or.inr (Or.inr (Or.inl rfl))) (hb hbytes d8) hl)⟩
end CodL
/-- the String at a is Latin-1 over a new byte[] (the heap's one new cell): the low bytes of the len chars of A from o on; every cell but a is kept -/
def Got (a : Addr) (D : Cell) (fV fC : Field) (A : Cell) (o len : Nat) (r : Option Value) (s u : State) : Prop := r = none ∧ ∃ D' V : Cell, Blank "java/lang/String" a D' u ∧ Same D D' [fV.slot, fC.slot] ∧ D'.slots[fV.slot]? = some (.ref s.heap.size) ∧ D'.slots[fC.slot]? = some (.int 0) ∧ Arr .byte s.heap.size V u ∧ V.vm = .none ∧ u.vm.findClass "[B" = some V.cls ∧ V.slots.size = len ∧ (∀ j, j < len → V.slots[j]? = some (.int (lo8 (cv A (o + j))))) ∧ (∀ (y : Addr) (c : Cell), y ≠ a → s.heap[y]? = some c → u.heap[y]? = some c) ∧ u.heap.size = s.heap.size + 1
theorem Got.mv {a : Addr} {D A : Cell} {fV fC : Field} {o len : Nat} : ∀ r (U U' V V' : State), U'.heap = U.heap → V.vm.Alike V'.vm → V'.heap = V.heap → Got a D fV fC A o len r U V → Got a D fV fC A o len r U' V' :=
  fun r U U' V V' h1 hal h2 ⟨e0, D', X, a1, a2, a3, a4, a5, a6, a7, a8, a9, a10, a11⟩ => ⟨e0, D', X, a1.mv hal h2, a2, by rw [h1]; exact a3, a4, by rw [h1]; exact a5.mv hal h2, a6, by rw [hal.findClass]; exact a7, a8, a9, by rw [h1, h2]; exact a10, by rw [h1, h2]; exact a11⟩
namespace New4
def yN : MethodName := ⟨"java/lang/String", "<init>", "([CIILjava/lang/Void;)V"⟩
abbrev yB : ByteArray := jdk_42_method_149_code
theorem d0 : decode yB 0 = .ok (.aload_n 0, 1) := by decide +kernel
theorem d1 : decode yB 1 = .ok (.invokespecial 1, 3) := by decide +kernel
theorem d4 : decode yB 4 = .ok (.iload_n 3, 1) := by decide +kernel
theorem d5 : decode yB 5 = .ok (.ifCond (.ne) 22, 3) := by decide +kernel
theorem d27 : decode yB 27 = .ok (.getstatic 38, 3) := by decide +kernel
theorem d30 : decode yB 30 = .ok (.ifCond (.eq) 28, 3) := by decide +kernel
theorem d33 : decode yB 33 = .ok (.aload_n 1, 1) := by decide +kernel
theorem d34 : decode yB 34 = .ok (.iload_n 2, 1) := by decide +kernel
theorem d35 : decode yB 35 = .ok (.iload_n 3, 1) := by decide +kernel
theorem d36 : decode yB 36 = .ok (.invokestatic 177, 3) := by decide +kernel
theorem d39 : decode yB 39 = .ok (.astore 5, 2) := by decide +kernel
theorem d41 : decode yB 41 = .ok (.aload_n 0, 1) := by decide +kernel
theorem d42 : decode yB 42 = .ok (.aload 5, 2) := by decide +kernel
theorem d44 : decode yB 44 = .ok (.iload_n 3, 1) := by decide +kernel
theorem d45 : decode yB 45 = .ok (.invokestatic 47, 3) := by decide +kernel
theorem d48 : decode yB 48 = .ok (.putfield 15, 3) := by decide +kernel
theorem d51 : decode yB 51 = .ok (.aload_n 0, 1) := by decide +kernel
theorem d52 : decode yB 52 = .ok (.aload 5, 2) := by decide +kernel
theorem d54 : decode yB 54 = .ok (.putfield 9, 3) := by decide +kernel
theorem d57 : decode yB 57 = .ok (.return_, 1) := by decide +kernel
def site : List Cond := [.fieldLink "java/lang/String" 38 "java/lang/String" "COMPACT_STRINGS" "Z", Cmp3.tab, CodL.tab, .laysFinal "java/lang/String" "java/lang/String" "value" "[B", .fieldLink "java/lang/String" 9 "java/lang/String" "value" "[B", .laysFinal "java/lang/String" "java/lang/String" "coder" "B", .fieldLink "java/lang/String" 15 "java/lang/String" "coder" "B"] ++ objW "java/lang/String" 1 ++ staticW "java/lang/String" 177 Cmp3.yN ++ staticW "java/lang/String" 47 CodL.yN
def tab : Cond := tabOf yN yB 6 none site
def P (a : Addr) (D : Cell) (fV fC : Field) (b : Addr) (A : Cell) (z : Int32) (o len : Nat) (args : Array Value) (s : State) : Prop := args = #[.ref a, .ref b, .int (Int32.ofNat o), .int (Int32.ofNat len), .null] ∧ Blank "java/lang/String" a D s ∧ Found "java/lang/String" "value" "[B" fV s ∧ Found "java/lang/String" "coder" "B" fC s ∧ Ch b A s ∧ StaticIs s "java/lang/String" "COMPACT_STRINGS" "Z" (.int z) ∧ ¬ z = 0 ∧ 0 < len ∧ o + len ≤ A.slots.size ∧ len ≤ 536870912 ∧ ∀ i, i < len → ¬ 255 < cv A (o + i)
def E (a : Addr) (D : Cell) (fV fC : Field) (A : Cell) (o len : Nat) (r : Option Value) (s u : State) : Prop := Got a D fV fC A o len r s u
/-- len > 0, no char of the range above 255: a Latin-1 String of their low bytes -/
theorem law (l : Launch) (a : Addr) (D : Cell) (fV fC : Field) (b : Addr) (A : Cell) (z : Int32) (o len : Nat) : Law l yN 5 4 2 35 yB 6 none site (P a D fV fC b A z o len) (E a D fV fC A o len) [⟨a, fC.slot⟩, ⟨a, fV.slot⟩] 1 len := by
  refine Law.of_walk (plainFor_of_name (by decide +kernel)) (by decide +kernel) (by decide +kernel) (by decide) (fun _ _ h => by rw [h.1]; rfl) (fun _ U U' hal hh h => ⟨h.1, h.2.1.mv hal hh, h.2.2.1.al hal, h.2.2.2.1.al hal, h.2.2.2.2.1.mv hal hh, h.2.2.2.2.2.1.there hal hh, h.2.2.2.2.2.2⟩) (fun r U U' V V' h1 hal h2 h => Got.mv r U U' V V' h1 hal h2 h) ?_
  intro p e s m args below meth c s₁ X0 hexec hbytes hml hret hlk hnm hown hh0 W hP
  obtain ⟨rfl, hB, f1, f2, hA, s1, hz, l0, l1, l2, hp⟩ := hP
  have a31 := hA.1.2.2.2
  have c1 : Steps p.tables e below (s₁.setTop (entryFrame m #[.ref a, .ref b, .int (Int32.ofNat o), .int (Int32.ofNat len), .null] 6)) (s₁.setTop (mkF m 0 #[.val (.ref a), .val (.ref b), .val (.int (Int32.ofNat o)), .val (.int (Int32.ofNat len)), .val .null, .unset] [])) := entry rfl
  have c2 : Steps p.tables e below (s₁.setTop (entryFrame m #[.ref a, .ref b, .int (Int32.ofNat o), .int (Int32.ofNat len), .null] 6)) (s₁.setTop (mkF m 1 #[.val (.ref a), .val (.ref b), .val (.int (Int32.ofNat o)), .val (.int (Int32.ofNat len)), .val .null, .unset] [.ref a])) := c1.trans (by
    refine XS.aloadN X0.here hexec rfl (hb hbytes d0) rfl rfl ?_
    exact Steps.refl _)
  obtain ⟨T3, X3, q3, st3⟩ := X0.oinit hexec hown (wks W (objW "java/lang/String" 1)) (g := (mkF m 1 #[.val (.ref a), .val (.ref b), .val (.int (Int32.ofNat o)), .val (.int (Int32.ofNat len)), .val .null, .unset] [.ref a])) rfl (by rw [hml]; rfl) (rest := []) rfl (hb hbytes d1) (W := 0) (by show 2 * 0 + 0 ≤ _; decide) (Nat.le_of_ble_eq_true rfl) (Nat.le_of_ble_eq_true rfl)
  have hh3 := q3.trans hh0
  have c4 : Steps p.tables e below (s₁.setTop (entryFrame m #[.ref a, .ref b, .int (Int32.ofNat o), .int (Int32.ofNat len), .null] 6)) (T3.setTop (mkF m 27 #[.val (.ref a), .val (.ref b), .val (.int (Int32.ofNat o)), .val (.int (Int32.ofNat len)), .val .null, .unset] [])) := (c2.trans (st3 _ (Steps.refl _))).trans (by
    refine XS.iloadN X3.here hexec rfl (hb hbytes d4) rfl ?_
    refine XS.ifYes X3.here hexec rfl (pc0 := 5) rfl (hb hbytes d5) rfl (i0_ne_t (nz32 (by omega) l0)) (by decide) rfl ?_
    exact Steps.refl _)
  obtain ⟨T5, X5, q5, st5⟩ := X3.sget hexec hown (wk W (.fieldLink "java/lang/String" 38 "java/lang/String" "COMPACT_STRINGS" "Z")) s1 (fun _ _ h => by rw [hh3]; exact h) (g := (mkF m 27 #[.val (.ref a), .val (.ref b), .val (.int (Int32.ofNat o)), .val (.int (Int32.ofNat len)), .val .null, .unset] [])) rfl (hb hbytes d27)
  have hh5 := q5.trans hh3
  have c6 : Steps p.tables e below (s₁.setTop (entryFrame m #[.ref a, .ref b, .int (Int32.ofNat o), .int (Int32.ofNat len), .null] 6)) (T5.setTop (mkF m 30 #[.val (.ref a), .val (.ref b), .val (.int (Int32.ofNat o)), .val (.int (Int32.ofNat len)), .val .null, .unset] [.int z])) := c4.trans (st5 _ (Steps.refl _))
  have c7 : Steps p.tables e below (s₁.setTop (entryFrame m #[.ref a, .ref b, .int (Int32.ofNat o), .int (Int32.ofNat len), .null] 6)) (T5.setTop (mkF m 36 #[.val (.ref a), .val (.ref b), .val (.int (Int32.ofNat o)), .val (.int (Int32.ofNat len)), .val .null, .unset] [.int (Int32.ofNat len), .int (Int32.ofNat o), .ref b])) := c6.trans (by
    refine XS.ifNo X5.here hexec rfl (hb hbytes d30) rfl (i0_eq_f hz) ?_
    refine XS.aloadN X5.here hexec rfl (hb hbytes d33) rfl rfl ?_
    refine XS.iloadN X5.here hexec rfl (hb hbytes d34) rfl ?_
    refine XS.iloadN X5.here hexec rfl (hb hbytes d35) rfl ?_
    exact Steps.refl _)
  obtain ⟨v8, T8, X8, E8, g8⟩ := X5.callS hexec (Cmp3.law l b A o len) hown (wks W (staticW "java/lang/String" 177 Cmp3.yN)) (wk W Cmp3.tab) (W := 0) (Nat.le_of_ble_eq_true rfl) (Nat.le_of_ble_eq_true rfl) (Nat.le_refl _) (by show 0 + len ≤ len; omega) (g := (mkF m 36 #[.val (.ref a), .val (.ref b), .val (.int (Int32.ofNat o)), .val (.int (Int32.ofNat len)), .val .null, .unset] [.int (Int32.ofNat len), .int (Int32.ofNat o), .ref b])) rfl (by rw [hml]; rfl) c7 (argsL := [.ref b, .int (Int32.ofNat o), .int (Int32.ofNat len)]) (rest := []) rfl rfl (by show 2 * 0 + 0 ≤ _; decide) (hb hbytes d36) (⟨rfl, hA.mv X5.warmed.alike hh5, l1, l2, hp⟩)
  obtain ⟨e8, z8⟩ := E8
  obtain ⟨rfl, N, n1, n2, n3, n4, n5, n6⟩ := NewArr.mv _ T5 s _ _ hh5.symm (Vm.Alike.refl _) rfl e8
  rw [hh5] at z8
  have hB1 := hB.keep X8.warmed.alike (n6 _ _ hB.1)
  have hne : s.heap.size ≠ a := (Nat.ne_of_lt (Array.getElem?_eq_some_iff.mp hB.1).1).symm
  have c9 : Steps p.tables e below (s₁.setTop (entryFrame m #[.ref a, .ref b, .int (Int32.ofNat o), .int (Int32.ofNat len), .null] 6)) (T8.setTop (mkF m 39 #[.val (.ref a), .val (.ref b), .val (.int (Int32.ofNat o)), .val (.int (Int32.ofNat len)), .val .null, .unset] [.ref s.heap.size])) := g8
  have c10 : Steps p.tables e below (s₁.setTop (entryFrame m #[.ref a, .ref b, .int (Int32.ofNat o), .int (Int32.ofNat len), .null] 6)) (T8.setTop (mkF m 45 #[.val (.ref a), .val (.ref b), .val (.int (Int32.ofNat o)), .val (.int (Int32.ofNat len)), .val .null, .val (.ref s.heap.size)] [.int (Int32.ofNat N.slots.size), .ref s.heap.size, .ref a])) := by
    have hc : Steps p.tables e below (s₁.setTop (entryFrame m #[.ref a, .ref b, .int (Int32.ofNat o), .int (Int32.ofNat len), .null] 6)) (T8.setTop (mkF m 45 #[.val (.ref a), .val (.ref b), .val (.int (Int32.ofNat o)), .val (.int (Int32.ofNat len)), .val .null, .val (.ref s.heap.size)] [.int (Int32.ofNat len), .ref s.heap.size, .ref a])) := c9.trans (by
      refine XS.astore X8.here hexec rfl (hb hbytes d39) rfl rfl rfl ?_
      refine XS.aloadN X8.here hexec rfl (hb hbytes d41) rfl rfl ?_
      refine XS.aload X8.here hexec rfl (hb hbytes d42) rfl rfl ?_
      refine XS.iloadN X8.here hexec rfl (hb hbytes d44) rfl ?_
      exact Steps.refl _)
    rw [n4]; exact hc
  obtain ⟨v11, T11, X11, E11, g11⟩ := X8.callS hexec (CodL.law l s.heap.size N) hown (wks W (staticW "java/lang/String" 47 CodL.yN)) (wk W CodL.tab) (W := 1) (Nat.le_of_ble_eq_true rfl) (Nat.le_of_ble_eq_true rfl) (Nat.le_refl _) (by show 0 + len + 0 ≤ len; omega) (g := (mkF m 45 #[.val (.ref a), .val (.ref b), .val (.int (Int32.ofNat o)), .val (.int (Int32.ofNat len)), .val .null, .val (.ref s.heap.size)] [.int (Int32.ofNat N.slots.size), .ref s.heap.size, .ref a])) rfl (by rw [hml]; rfl) c10 (argsL := [.ref s.heap.size, .int (Int32.ofNat N.slots.size)]) (rest := [.ref a]) rfl rfl (by show 2 * 0 + (1 + 0) ≤ _; decide) (hb hbytes d45) (⟨rfl, n1⟩)
  obtain ⟨rfl, q11⟩ := E11
  have hB11 := hB1.mv (X8.warmed.alike.symm.trans X11.warmed.alike) q11
  have c12 : Steps p.tables e below (s₁.setTop (entryFrame m #[.ref a, .ref b, .int (Int32.ofNat o), .int (Int32.ofNat len), .null] 6)) (T11.setTop (mkF m 48 #[.val (.ref a), .val (.ref b), .val (.int (Int32.ofNat o)), .val (.int (Int32.ofNat len)), .val .null, .val (.ref s.heap.size)] [.int 0, .ref a])) := g11
  obtain ⟨T13, X13, p13, bl13, sl13, st13⟩ := X11.finit hexec hown (wk W (.fieldLink "java/lang/String" 15 "java/lang/String" "coder" "B")) (Or.inr ⟨_, (wk W (.laysFinal "java/lang/String" "java/lang/String" "coder" "B"))⟩) (Or.inl ⟨rfl, hnm⟩) f2 (Or.inl rfl) hB11 (t := .byte) (by decide +kernel) rfl (g := (mkF m 48 #[.val (.ref a), .val (.ref b), .val (.int (Int32.ofNat o)), .val (.int (Int32.ofNat len)), .val .null, .val (.ref s.heap.size)] [.int 0, .ref a])) rfl (rest := []) rfl (hb hbytes d48)
  have c14 : Steps p.tables e below (s₁.setTop (entryFrame m #[.ref a, .ref b, .int (Int32.ofNat o), .int (Int32.ofNat len), .null] 6)) (T13.setTop (mkF m 54 #[.val (.ref a), .val (.ref b), .val (.int (Int32.ofNat o)), .val (.int (Int32.ofNat len)), .val .null, .val (.ref s.heap.size)] [.ref s.heap.size, .ref a])) := (c12.trans (st13 _ (Steps.refl _))).trans (by
    refine XS.aloadN X13.here hexec rfl (hb hbytes d51) rfl rfl ?_
    refine XS.aload X13.here hexec rfl (hb hbytes d52) rfl rfl ?_
    exact Steps.refl _)
  obtain ⟨T15, X15, p15, bl15, sl15, st15⟩ := X13.finit hexec hown (wk W (.fieldLink "java/lang/String" 9 "java/lang/String" "value" "[B")) (Or.inr ⟨_, (wk W (.laysFinal "java/lang/String" "java/lang/String" "value" "[B"))⟩) (Or.inl ⟨rfl, hnm⟩) f1 (Or.inl rfl) bl13 (t := (.array .byte)) (by decide +kernel) rfl (g := (mkF m 54 #[.val (.ref a), .val (.ref b), .val (.int (Int32.ofNat o)), .val (.int (Int32.ofNat len)), .val .null, .val (.ref s.heap.size)] [.ref s.heap.size, .ref a])) rfl (rest := []) rfl (hb hbytes d54)
  have c16 : Steps p.tables e below (s₁.setTop (entryFrame m #[.ref a, .ref b, .int (Int32.ofNat o), .int (Int32.ofNat len), .null] 6)) (T15.setTop (mkF m 57 #[.val (.ref a), .val (.ref b), .val (.int (Int32.ofNat o)), .val (.int (Int32.ofNat len)), .val .null, .val (.ref s.heap.size)] [])) := c14.trans (st15 _ (Steps.refl _))
  have ap := apart (Or.inr ⟨_, (wk W (.laysFinal "java/lang/String" "java/lang/String" "value" "[B"))⟩) (Or.inr ⟨_, (wk W (.laysFinal "java/lang/String" "java/lang/String" "coder" "B"))⟩) f1 f2 (t₁ := .array .byte) (t₂ := .byte) (by decide +kernel) (by decide +kernel) (by decide)
  have al := X8.warmed.alike.symm.trans X15.warmed.alike
  have n7 : T11.heap[s.heap.size]? = some N := by rw [q11]; exact n1.1
  exact ⟨T15, none, _, _, _, X15, by simp, rfl, by omega, (fun _ => rfl), ⟨rfl, _, N, bl15, ((Same.refl D _).set _ (by simp)).set _ (by simp), sl15, (Cell.slots_setSlot_ne _ ap).trans sl13, n1.keep al (p15.other hne (p13.other hne n7)), n2, by rw [al.findClass]; exact n3, n4, n5, fun y c h1 h2 => p15.other h1 (p13.other h1 (by rw [q11]; exact n6 y c h2)), by rw [p15.2.2, p13.2.2, q11]; exact z8⟩, fun fs hl => c16.trans (X15.returnOut hexec hret (hb hbytes d57) hl)⟩
end New4
namespace New1
def yN : MethodName := ⟨"java/lang/String", "<init>", "([C)V"⟩
abbrev yB : ByteArray := jdk_42_method_3_code
theorem d0 : decode yB 0 = .ok (.aload_n 0, 1) := by decide +kernel
theorem d1 : decode yB 1 = .ok (.aload_n 1, 1) := by decide +kernel
theorem d2 : decode yB 2 = .ok (.iconst 0, 1) := by decide +kernel
theorem d3 : decode yB 3 = .ok (.aload_n 1, 1) := by decide +kernel
theorem d4 : decode yB 4 = .ok (.arraylength, 1) := by decide +kernel
theorem d5 : decode yB 5 = .ok (.aconst_null, 1) := by decide +kernel
theorem d6 : decode yB 6 = .ok (.invokespecial 27, 3) := by decide +kernel
theorem d9 : decode yB 9 = .ok (.return_, 1) := by decide +kernel
def site : List Cond := [New4.tab] ++ initW "java/lang/String" 27 New4.yN
def tab : Cond := tabOf yN yB 2 none site
def P (a : Addr) (D : Cell) (fV fC : Field) (b : Addr) (A : Cell) (z : Int32) (args : Array Value) (s : State) : Prop := args = #[.ref a, .ref b] ∧ Blank "java/lang/String" a D s ∧ Found "java/lang/String" "value" "[B" fV s ∧ Found "java/lang/String" "coder" "B" fC s ∧ Ch b A s ∧ StaticIs s "java/lang/String" "COMPACT_STRINGS" "Z" (.int z) ∧ ¬ z = 0 ∧ 0 < A.slots.size ∧ A.slots.size ≤ 536870912 ∧ ∀ i, i < A.slots.size → ¬ 255 < cv A i
def E (a : Addr) (D : Cell) (fV fC : Field) (A : Cell) (r : Option Value) (s u : State) : Prop := Got a D fV fC A 0 A.slots.size r s u
/-- new String(chars), not empty, no char above 255: a Latin-1 String of their low bytes -/
theorem law (l : Launch) (a : Addr) (D : Cell) (fV fC : Field) (b : Addr) (A : Cell) (z : Int32) : Law l yN 2 1 3 52 yB 2 none site (P a D fV fC b A z) (E a D fV fC A) [⟨a, fC.slot⟩, ⟨a, fV.slot⟩] 1 A.slots.size := by
  refine Law.of_walk (plainFor_of_name (by decide +kernel)) (by decide +kernel) (by decide +kernel) (by decide) (fun _ _ h => by rw [h.1]; rfl) (fun _ U U' hal hh h => ⟨h.1, h.2.1.mv hal hh, h.2.2.1.al hal, h.2.2.2.1.al hal, h.2.2.2.2.1.mv hal hh, h.2.2.2.2.2.1.there hal hh, h.2.2.2.2.2.2⟩) (fun r U U' V V' h1 hal h2 h => Got.mv r U U' V V' h1 hal h2 h) ?_
  intro p e s m args below meth c s₁ X0 hexec hbytes hml hret hlk hnm hown hh0 W hP
  obtain ⟨rfl, hB, f1, f2, hA, s1, hz, l0, l2, hp⟩ := hP
  have c1 : Steps p.tables e below (s₁.setTop (entryFrame m #[.ref a, .ref b] 2)) (s₁.setTop (mkF m 0 #[.val (.ref a), .val (.ref b)] [])) := entry rfl
  have c2 : Steps p.tables e below (s₁.setTop (entryFrame m #[.ref a, .ref b] 2)) (s₁.setTop (mkF m 6 #[.val (.ref a), .val (.ref b)] [.null, .int (Int32.ofNat A.slots.size), .int 0, .ref b, .ref a])) := c1.trans (by
    refine XS.aloadN X0.here hexec rfl (hb hbytes d0) rfl rfl ?_
    refine XS.aloadN X0.here hexec rfl (hb hbytes d1) rfl rfl ?_
    refine iconstV X0.here hexec rfl 0 (hb hbytes d2) (by decide) ?_
    refine XS.aloadN X0.here hexec rfl (hb hbytes d3) rfl rfl ?_
    refine X0.alen hexec (hA.1.mv X0.warmed.alike hh0) rfl rfl (hb hbytes d4) ?_
    refine XS.aconstNull X0.here hexec rfl (hb hbytes d5) ?_
    exact Steps.refl _)
  obtain ⟨v3, T3, X3, E3, g3⟩ := X0.callN hexec (New4.law l a D fV fC b A z 0 A.slots.size) rfl hown (wks W (initW "java/lang/String" 27 New4.yN)) (W New4.tab (by simp only [site, List.mem_cons, List.mem_append, true_or, or_true])) (W := 0) (Nat.le_of_ble_eq_true rfl) (Nat.le_of_ble_eq_true rfl) (Nat.le_refl _) (by show 0 + A.slots.size ≤ A.slots.size; omega) (g := (mkF m 6 #[.val (.ref a), .val (.ref b)] [.null, .int (Int32.ofNat A.slots.size), .int (Int32.ofNat 0), .ref b, .ref a])) rfl (by rw [hml]; rfl) c2 (argsL := [.ref b, .int (Int32.ofNat 0), .int (Int32.ofNat A.slots.size), .null]) (rest := []) rfl rfl (by show 2 * 0 + 0 ≤ _; decide) (hb hbytes d6) (⟨rfl, hB.mv X0.warmed.alike hh0, f1.al X0.warmed.alike, f2.al X0.warmed.alike, hA.mv X0.warmed.alike hh0, s1.there X0.warmed.alike hh0, hz, l0, by omega, l2, fun i hi => by rw [Nat.zero_add]; exact hp i hi⟩)
  have e0 := Got.mv _ s₁ s _ _ hh0.symm (Vm.Alike.refl _) rfl E3
  obtain rfl := e0.1
  have c4 : Steps p.tables e below (s₁.setTop (entryFrame m #[.ref a, .ref b] 2)) (T3.setTop (mkF m 9 #[.val (.ref a), .val (.ref b)] [])) := g3
  exact ⟨T3, none, _, _, _, X3, by simp, rfl, by omega, (fun _ => rfl), e0, fun fs hl => c4.trans (X3.returnOut hexec hret (hb hbytes d9) hl)⟩
theorem pays {l : Launch} {R : Room} {p : Program} {e : Env} {below : List Frame} {s : State} {sargs : Array Value} {len W : Nat} (a : Addr) (D : Cell) (fV fC : Field) (b : Addr) (A : Cell) (z : Int32) (htab : tab.before sargs s = true) (hfr : 4 ≤ R.frames) (hlo : W + 65 ≤ R.locals) :
    Back l R p e below s sargs yN len W (fun A₁ a₁ => A₁.cells + 1 ≤ R.cells ∧ A₁.slots + A.slots.size ≤ R.slots ∧ P a D fV fC b A z a₁ A₁.U) (fun A₁ _ v₁ B₁ => E a D fV fC A v₁ A₁.U B₁.U ∧ B₁.locs = A₁.locs ++ [⟨a, fC.slot⟩, ⟨a, fV.slot⟩] ∧ B₁.cells = A₁.cells + 1 ∧ B₁.slots = A₁.slots + A.slots.size) :=
  (law l a D fV fC b A z).pays htab hfr (by omega)
end New1
/-- the byte, read back as charAt reads it, is the char -/
theorem lo8_mask {x : Int32} (h0 : ¬ x < 0) (h1 : ¬ 255 < x) : lo8 x &&& 255 = x := by
  have t : ∀ k : Fin 256, lo8 (Int32.ofNat k.val) &&& 255 = Int32.ofNat k.val := by decide +kernel
  rw [Int32.lt_iff_toInt_lt] at h0 h1
  have e0 : (0 : Int32).toInt = 0 := rfl
  have e1 : (255 : Int32).toInt = 255 := rfl
  obtain ⟨k, hk⟩ : ∃ k : Nat, x.toInt = k := ⟨x.toInt.toNat, by omega⟩
  have hx : x = Int32.ofNat k := Int32.toInt_inj.mp (by rw [hk, Int32.toInt_ofNat_small (by omega)])
  rw [hx]
  exact t ⟨k, by omega⟩
end StrChars
namespace StrChars.Road
open Jvm Sem ClassFile Op Lib Jvm.Stand Jvm.Free Jvm.Free.XT
open Jvm.Lib.Cold (StaticIs)
abbrev ST : String := "java/lang/String"
/-- every table word that New1's law asks, flat -/
abbrev words : List Jvm.Cond := [.code New1.yN New1.yB 2 none, .initialized ST, .methodLink ST 27 New4.yN, .instanceMethod New4.yN,
  .code New4.yN New4.yB 6 none, .fieldLink ST 38 ST "COMPACT_STRINGS" "Z", .laysFinal ST ST "value" "[B", .fieldLink ST 9 ST "value" "[B", .laysFinal ST ST "coder" "B", .fieldLink ST 15 ST "coder" "B",
  .methodLink ST 1 Lib.objectInit, .instanceMethod Lib.objectInit, .code Lib.objectInit ⟨#[0xb1]⟩ 1 none, .methodLink ST 177 Cmp3.yN, .static Cmp3.yN, .methodLink ST 47 CodL.yN, .static CodL.yN,
  .code Cmp3.yN Cmp3.yB 6 (some (.array .byte)), .initialized U16, .arrayClass .byte, .methodLink U16 115 Cmp5.yN, .static Cmp5.yN, .code Cmp5.yN Cmp5.yB 7 (some .int), .code CodL.yN CodL.yB 2 (some .byte)]
theorem tab_of {a : Array Value} {s : State} (h : ∀ w ∈ words, w.before a s = true) : New1.tab.before a s = true := by
  have h5 : Cmp5.tab.before a s = true := unparts (wk h (.code Cmp5.yN Cmp5.yB 7 (some .int))) (wks h (.initialized Cmp5.yN.cls :: Cmp5.site))
  have hc : CodL.tab.before a s = true := unparts (wk h (.code CodL.yN CodL.yB 2 (some .byte))) (wks h (.initialized CodL.yN.cls :: CodL.site))
  have q5 : ∀ w ∈ Cmp5.tab :: words, w.before a s = true := fun w hw => (List.mem_cons.mp hw).elim (fun e => e ▸ h5) (h w)
  have h3 : Cmp3.tab.before a s = true := unparts (wk q5 (.code Cmp3.yN Cmp3.yB 6 (some (.array .byte)))) (wks q5 (.initialized Cmp3.yN.cls :: Cmp3.site))
  have q3 : ∀ w ∈ Cmp3.tab :: CodL.tab :: words, w.before a s = true := fun w hw => (List.mem_cons.mp hw).elim (fun e => e ▸ h3) fun hw => (List.mem_cons.mp hw).elim (fun e => e ▸ hc) (h w)
  have h4 : New4.tab.before a s = true := unparts (wk q3 (.code New4.yN New4.yB 6 none)) (wks q3 (.initialized New4.yN.cls :: New4.site))
  have q4 : ∀ w ∈ New4.tab :: words, w.before a s = true := fun w hw => (List.mem_cons.mp hw).elim (fun e => e ▸ h4) (h w)
  exact unparts (wk q4 (.code New1.yN New1.yB 2 none)) (wks q4 (.initialized New1.yN.cls :: New1.site))
/-- the words ride from the start Z to the walk's own state -/
theorem moved {Z s : State} {a0 args : Array Value} (hZ : Z.Warmed39 s.vm) (hw : ∀ d ∈ words, d.before a0 Z = true) : ∀ d ∈ words, d.before args s = true := fun d hd => by
  have q := hw d hd
  have t : ∀ d ∈ words, d = .arrayClass .byte ∨ (d.onTables && d.keepsFace) = true := by decide +kernel
  rcases t d hd with rfl | t
  · exact RoadKit.mvA hZ q
  · exact RoadKit.mv hZ q t
/-- WHAT COMES BACK, over the tables of the start Z: h the heap at the call, h' behind it -/
def Q (Z : State) (x : Addr) (A : Cell) (h : Heap) (v : Option Value) (h' : Heap) (L : List Loc) : Prop := v = none ∧ (∀ y ∈ L, y.base = x) ∧ RoadKit.Keep h h' [x] ∧ h'.size = h.size + 1 ∧ RoadKit.Exa Z h' x ST ∧ RoadKit.Fld Z h' x ST "value" "[B" (.ref h.size) ∧ RoadKit.Fld Z h' x ST "coder" "B" (.int 0) ∧
  (∃ V : Cell, RoadKit.Arr Z h' h.size V .byte ∧ V.vm = .none ∧ Z.vm.findClass "[B" = some V.cls ∧ V.slots.size = A.slots.size ∧ ∀ j, j < A.slots.size → V.slots[j]? = some (.int (lo8 (cv A j)))) ∧
  ∀ (O n d : String) (w : Value), RoadKit.Fld Z h x O n d w → RoadKit.slotOf Z O n d ≠ RoadKit.slotOf Z ST "value" "[B" → RoadKit.slotOf Z O n d ≠ RoadKit.slotOf Z ST "coder" "B" → RoadKit.Fld Z h' x O n d w
/-- **new String(chars) AT A CALL, IN THE ROAD'S FORM**: for specialBack behind newO: x the fresh String, b the char[] with the cell A -/
theorem back {p : Program} {l : Launch} {e : Env} {R : Room} {s : State} {args : Array Value} {below : List Frame} {len W : Nat} {Z : State} {a0 : Array Value} {h : Heap} (hZ : Z.Warmed39 s.vm) (hw : ∀ d ∈ words, d.before a0 Z = true) {kI : Nat} (wi : (Jvm.Cond.instantiable ST kI).before a0 Z = true)
    {x b : Addr} {A : Cell} {z : Int32} {v0 c0 : Value} (E : RoadKit.Exa Z h x ST) (V : RoadKit.Fld Z h x ST "value" "[B" v0) (C : RoadKit.Fld Z h x ST "coder" "B" c0) (K : RoadKit.Arr Z h b A .char) (hty : Typed .char A) (S : RoadKit.Sta Z h ST "COMPACT_STRINGS" "Z" (.int z)) (hz : ¬ z = 0)
    (l0 : 0 < A.slots.size) (l2 : A.slots.size ≤ 536870912) (hp : ∀ i, i < A.slots.size → ¬ 255 < cv A i) (hfr : 4 ≤ R.frames) (hlo : W + 65 ≤ R.locals) :
    Back l R p e below s args New1.yN len W (fun P a => a = #[.ref x, .ref b] ∧ P.U.heap = h ∧ P.cells + 1 ≤ R.cells ∧ P.slots + A.slots.size ≤ R.slots)
      (fun P _ v B => ∃ L, Q Z x A h v B.U.heap L ∧ B.locs = P.locs ++ L ∧ B.cells = P.cells + 1 ∧ B.slots = P.slots + A.slots.size) := by
  intro m meth c P g ig mk a X hg hsize hdg hW hn hp'
  obtain ⟨rfl, rfl, r1, r2⟩ := hp'
  have al : Z.vm.Alike P.U.vm := hZ.alike.trans X.warmed.alike
  obtain ⟨D, cfV, kV, iV, fV, hD, gV, stV, knV, obV, asV, slV⟩ := id V
  obtain ⟨D', cfC, kC, iC, fC, hD', gC, stC, -, -, asC, slC⟩ := id C
  cases hD.symm.trans hD'
  obtain ⟨D2, kD, e1, e2, e3, e4, e5⟩ := id E
  cases hD.symm.trans e1
  obtain ⟨c2, k2, i1, i2, i3, -⟩ := Cond.instantiable_spec wi
  cases e2.symm.trans i1
  cases e3.symm.trans i2
  obtain ⟨kU, u1, u2⟩ := al.2.2 _ _ e3
  have hB : Blank ST x D P.U := ⟨hD, ⟨knV, fun q hq => by rw [hq] at obV; cases obV⟩, by rw [al.findClass]; exact e2, kU, u1, by rw [u2]; exact i3, by rw [u2]; exact e5 i3⟩
  have F1 : Found ST "value" "[B" fV P.U := ⟨SBG.found_only al ⟨cfV, kV, iV, gV⟩, stV⟩
  have F2 : Found ST "coder" "B" fC P.U := ⟨SBG.found_only al ⟨cfC, kC, iC, gC⟩, stC⟩
  have hA : Ch b A P.U := ⟨⟨K.1, State.isArrayOf_alike al K.2.1, K.2.2, by omega⟩, hty⟩
  have hS : StaticIs P.U ST "COMPACT_STRINGS" "Z" (.int z) := by
    obtain ⟨cfS, iS, kS, fS, st, cS, t1, t2, t3, t4, t5, t6, t7⟩ := S
    exact StaticIs.there (s := { Z with heap := P.U.heap }) ⟨cfS, iS, kS, fS, st, cS, t1, t2, t3, t4, t5, (fun q => by rw [q] at t6; cases t6), t7⟩ al rfl
  obtain ⟨v, B, X', ⟨⟨hv, E', V', q1, q2, q3, q4, q5, q6, q7, q8, q9, q10, q11⟩, hl, hc, hs⟩, st⟩ := New1.pays x D fV fC b A z (tab_of (moved hZ hw)) hfr hlo m meth c P g ig mk _ X hg hsize hdg hW hn ⟨r1, r2, rfl, hB, F1, F2, hA, hS, hz, l0, l2, hp⟩
  have al' : Z.vm.Alike B.U.vm := hZ.alike.trans X'.warmed.alike
  have hsz : E'.slots.size = D.slots.size := by
    obtain ⟨-, -, -, kB, w1, w2, w3⟩ := q1
    obtain ⟨kB', y1, y2⟩ := al'.2.2 _ _ e3
    rw [q2.2.1] at w1
    cases w1.symm.trans y1
    rw [w3, e5 i3, y2]
  refine ⟨v, B, X', ⟨_, ⟨hv, ?_, ⟨by omega, fun y cy hy hn' => q10 y cy (by simpa using hn') hy, fun y cy hy => ?_⟩, q11, ⟨E', _, q1.1, by rw [q2.2.1]; exact e2, by rw [q2.2.1]; exact e3, by rw [q2.1]; exact obV, fun _ => by rw [hsz]; exact e5 i3⟩,
    ⟨E', cfV, kV, iV, fV, q1.1, gV, stV, by rw [q2.1]; exact knV, by rw [q2.1]; exact obV, by rw [q2.2.1]; exact asV, q3⟩, ⟨E', cfC, kC, iC, fC, q1.1, gC, stC, by rw [q2.1]; exact knV, by rw [q2.1]; exact obV, by rw [q2.2.1]; exact asC, q4⟩,
    ⟨V', ⟨q5.1, State.isArrayOf_alike al'.symm q5.2.1, q5.2.2.1⟩, q6, by rw [← al'.findClass]; exact q7, q8, fun j hj => by have := q9 j hj; rwa [Nat.zero_add] at this⟩, fun O n d w F n1 n2 => ?_⟩, hl, hc, hs⟩, st⟩
  · intro y hy
    simp only [List.mem_cons, List.not_mem_nil, or_false] at hy
    rcases hy with rfl | rfl <;> rfl
  · by_cases q : y = x
    · subst q
      cases hD.symm.trans hy
      exact ⟨E', q1.1, q2.2.1, q2.1, hsz⟩
    · exact ⟨cy, q10 y cy q hy, rfl, rfl, rfl⟩
  · obtain ⟨D3, cf, k, i, f, g1, g2, g3, g4, g5, g6, g7⟩ := F
    cases hD.symm.trans g1
    simp only [RoadKit.slotOf, g2, gV, gC, Option.map_some, Option.getD_some] at n1 n2
    exact ⟨E', cf, k, i, f, q1.1, g2, g3, by rw [q2.1]; exact g4, by rw [q2.1]; exact g5, by rw [q2.2.1]; exact g6, by rw [q2.2.2 f.slot (by simp [n1, n2])]; exact g7⟩
end StrChars.Road
namespace StrChars.Road
open Jvm Sem ClassFile Op Lib Jvm.Stand Jvm.Free Jvm.Free.XT
/-- WHAT COMES BACK, the byte[] as a list of values -/
def QA (Z : State) (x : Addr) (zn : Int32) (cs : List Int32) (h : Heap) (v : Option Value) (h' : Heap) (L : List Loc) : Prop := v = none ∧ (∀ y ∈ L, y.base = x) ∧ RoadKit.Keep h h' [x] ∧ h'.size = h.size + 1 ∧ RoadKit.Exa Z h' x ST ∧ RoadKit.Fld Z h' x ST "value" "[B" (.ref h.size) ∧ RoadKit.Fld Z h' x ST "coder" "B" (.int 0) ∧
  (∃ kb, Z.vm.findClass "[B" = some kb ∧ RoadKit.Arv Z h' h.size kb .byte zn (cs.map fun c => .int (lo8 c)) (.int 0)) ∧
  ∀ (O n d : String) (w : Value), RoadKit.Fld Z h x O n d w → RoadKit.slotOf Z O n d ≠ RoadKit.slotOf Z ST "value" "[B" → RoadKit.slotOf Z O n d ≠ RoadKit.slotOf Z ST "coder" "B" → RoadKit.Fld Z h' x O n d w
/-- **new String(chars) AT A CALL, THE ARRAYS AS LISTS**: the char[] at b holds cs, not empty, no char above 255 -/
theorem backArv {p : Program} {l : Launch} {e : Env} {R : Room} {s : State} {args : Array Value} {below : List Frame} {len W : Nat} {Z : State} {a0 : Array Value} {h : Heap} (hZ : Z.Warmed39 s.vm) (hw : ∀ d ∈ words, d.before a0 Z = true) {kI : Nat} (wi : (Jvm.Cond.instantiable ST kI).before a0 Z = true)
    {x b : Addr} {k : ClassId} {zn z : Int32} {cs : List Int32} {dv v0 c0 : Value} (E : RoadKit.Exa Z h x ST) (V : RoadKit.Fld Z h x ST "value" "[B" v0) (C : RoadKit.Fld Z h x ST "coder" "B" c0) (K : RoadKit.Arv Z h b k .char zn (cs.map Value.int) dv) (S : RoadKit.Sta Z h ST "COMPACT_STRINGS" "Z" (.int z)) (hz : ¬ z = 0)
    (hlen : zn.toNatClampNeg = cs.length) (h0 : 0 < cs.length) (hbig : cs.length ≤ 536870912) (hall : ∀ c ∈ cs, ¬ 255 < c) (hfr : 4 ≤ R.frames) (hlo : W + 65 ≤ R.locals) :
    Back l R p e below s args New1.yN len W (fun P a => a = #[.ref x, .ref b] ∧ P.U.heap = h ∧ P.cells + 1 ≤ R.cells ∧ P.slots + cs.length ≤ R.slots)
      (fun P _ v B => ∃ L, QA Z x zn cs h v B.U.heap L ∧ B.locs = P.locs ++ L ∧ B.cells = P.cells + 1 ∧ B.slots = P.slots + cs.length) := by
  obtain ⟨A, K1, K2, K3, K4, K5, K6⟩ := K
  have e : A.slots.size = cs.length := K3.trans hlen
  have hat : ∀ (i : Nat) (hi : i < cs.length), A.slots[i]? = some (.int cs[i]) := fun i hi => by rw [K5 i (by omega)]; simp [List.getD_eq_getElem?_getD, hi]
  have hcv : ∀ (i : Nat) (hi : i < cs.length), cv A i = cs[i] := fun i hi => by unfold cv; rw [hat i hi]
  have hty : Typed .char A := fun i v hv => by
    have hi : i < A.slots.size := (Array.getElem?_eq_some_iff.mp hv).1
    have q := K5 i hi
    rw [hv] at q
    rw [Option.some.inj q]
    exact K6 i hi
  refine Back.mono (back hZ hw wi E V C K1 hty S hz (by omega) (by omega) (fun i hi => by rw [hcv i (by omega)]; exact hall _ (List.getElem_mem _)) hfr hlo) (fun P a hp => ⟨hp.1, hp.2.1, hp.2.2.1, by rw [e]; exact hp.2.2.2⟩) (fun P a v B hp hq => ?_)
  obtain ⟨L, ⟨q1, q2, q3, q4, q5, q6, q7, ⟨V', v1, v2, v3, v4, v5⟩, q9⟩, hl, hc, hs⟩ := hq
  refine ⟨L, ⟨q1, q2, q3, q4, q5, q6, q7, ⟨V'.cls, v3, V', v1, rfl, by rw [v4, e, hlen], K4, fun i hi => ?_, fun i hi => ?_⟩, q9⟩, hl, hc, by rw [hs, e]⟩
  · have hi' : i < cs.length := by omega
    rw [v5 i (by omega), hcv i hi']; simp [List.getD_eq_getElem?_getD, hi']
  · have hi' : i < cs.length := by omega
    simp only [List.getD_eq_getElem?_getD, List.getElem?_map, List.getElem?_eq_getElem hi', Option.map_some, Option.getD_some]
    exact fits_lo8 _
end StrChars.Road
namespace StrChars.Road
open Jvm Sem ClassFile Op Lib Jvm.Stand Jvm.Free Jvm.Free.XT
/-- WHAT COMES BACK, in the writer's own shape -/
def QV (Z : State) (x : Addr) (N : Int32) (bs : List Int32) (h : Heap) (n0 : Nat) (v : Option Value) (h' : Heap) (L : List Loc) : Prop := v = none ∧ RoadKit.Fr n0 L ∧ RoadKit.Keep h h' [x] ∧ RoadKit.Exa Z h' x ST ∧ RoadKit.Fld Z h' x ST "coder" "B" (.int 0) ∧
  ∃ (t : Addr) (kb : ClassId), n0 ≤ t ∧ h.size ≤ t ∧ ¬ t = x ∧ RoadKit.Fld Z h' x ST "value" "[B" (.ref t) ∧ RoadKit.Arv Z h' t kb .byte N (bs.map Value.int) (.int 0)
/-- **new String(chars) AT A CALL, FOR THE WRITER**: a char[] of n known ints, each 0 to 255 -/
theorem backV {p : Program} {l : Launch} {e : Env} {R : Room} {s : State} {args : Array Value} {below : List Frame} {len W : Nat} {Z : State} {a0 : Array Value} {h : Heap} (hZ : Z.Warmed39 s.vm) (hw : ∀ d ∈ words, d.before a0 Z = true) {kI : Nat} (wi : (Jvm.Cond.instantiable ST kI).before a0 Z = true)
    {x b : Addr} {kC : ClassId} {cs bs : List Int32} {d v0 c0 : Value} {z N : Int32} {n n0 : Nat} (hx0 : n0 ≤ x) (hh0 : n0 ≤ h.size) (E : RoadKit.Exa Z h x ST) (V : RoadKit.Fld Z h x ST "value" "[B" v0) (C : RoadKit.Fld Z h x ST "coder" "B" c0) (K : RoadKit.Arv Z h b kC .char N (cs.map Value.int) d) (S : RoadKit.Sta Z h ST "COMPACT_STRINGS" "Z" (.int z)) (hz : ¬ z = 0)
    (hn : cs.length = n) (hN : N = Int32.ofNat n) (l0 : 0 < n) (l2 : n ≤ 4000) (hp : ∀ c ∈ cs, ¬ c < 0 ∧ ¬ (255 : Int32) < c) (hb : bs = cs.map (fun c => c.toInt8.toInt32)) (hfr : 4 ≤ R.frames) (hlo : W + 65 ≤ R.locals) :
    Back l R p e below s args (⟨"java/lang/String", "<init>", "([C)V"⟩ : MethodName) len W (fun P a => a = #[.ref x, .ref b] ∧ P.U.heap = h ∧ P.cells + 1 ≤ R.cells ∧ P.slots + n ≤ R.slots)
      (fun P _ v B => ∃ L, QV Z x N bs h n0 v B.U.heap L ∧ B.locs = P.locs ++ L ∧ B.cells = P.cells + 1 ∧ B.slots = P.slots + n) := by
  subst hn hN hb
  refine Back.mono (backArv hZ hw wi E V C K S hz (n32 (by omega)) l0 (by omega) (fun c hc => (hp c hc).2) hfr hlo) (fun P a hp => hp) (fun P a v B hp hq => ?_)
  obtain ⟨L, ⟨q1, q2, q3, q4, q5, q6, q7, ⟨kb, v1, v2⟩, q9⟩, hl, hc, hs⟩ := hq
  exact ⟨L, ⟨q1, fun y hy => by rw [q2 y hy]; exact hx0, q3, q5, q7, h.size, kb, hh0, Nat.le_refl _, Nat.ne_of_gt E.lt, q6, by rw [List.map_map]; exact v2⟩, hl, hc, hs⟩
end StrChars.Road
namespace StrChars
open Jvm Sem ClassFile Op Lib Jvm.Stand Jvm.Free.XT Jvm.Free.ALB Jvm.Free.JM Jvm.Free
open Jvm.Lib.Cold (StaticIs)
def hi8 (x : Int32) : Int32 := lo8 (x >>> ((8 : Int32) &&& 31))
/-- what StringUTF16.getChar makes of two bytes -/
def pairCh (u v : Int32) : Int32 := (((u &&& 255) <<< ((0 : Int32) &&& 31)) ||| ((v &&& 255) <<< ((8 : Int32) &&& 31))).toUInt32.toUInt16.toUInt32.toInt32
theorem lo8_and (x : Int32) : (lo8 x &&& 255).toBitVec.toNat = x.toBitVec.toNat % 256 := by
  have h : (lo8 x).toBitVec = (x.toBitVec.signExtend 8).signExtend 32 := by rw [lo8, Int8.toBitVec_toInt32, Int32.toBitVec_toInt8]
  rw [Int32.toBitVec_and, BitVec.toNat_and, h]
  have e : ((x.toBitVec.signExtend 8).signExtend 32).toNat % 256 = x.toBitVec.toNat % 256 := by
    rw [BitVec.toNat_signExtend]
    have hlt := x.toBitVec.isLt
    simp only [BitVec.toNat_setWidth, BitVec.toNat_signExtend]
    split <;> split <;> omega
  rw [← e]
  exact Nat.and_two_pow_sub_one_eq_mod _ 8
theorem pair_says {c : Int32} (h0 : ¬ c < 0) (h1 : ¬ 65535 < c) : pairCh (lo8 c) (hi8 c) = c := by
  rw [Int32.lt_iff_toInt_lt] at h0 h1
  have e0 : (0 : Int32).toInt = 0 := rfl
  have e1 : (65535 : Int32).toInt = 65535 := rfl
  have hc : c.toInt = c.toBitVec.toNat := by
    have := c.toBitVec.isLt
    have e : c.toInt = c.toBitVec.toInt := rfl
    rw [e] at h0 h1
    rw [e]
    rw [BitVec.toInt_eq_toNat_cond] at h0 h1 ⊢
    split at h0 <;> split <;> omega
  have hn : c.toBitVec.toNat < 65536 := by omega
  have a1 := lo8_and c
  have a2 : (hi8 c &&& 255).toBitVec.toNat = c.toBitVec.toNat / 256 := by
    rw [hi8, lo8_and]
    have e : ((8 : Int32) &&& 31) = 8 := by decide
    rw [e, Int32.toBitVec_shiftRight]
    have e2 : ((8 : Int32).toBitVec.smod 32) = 8#32 := by decide
    rw [e2, BitVec.sshiftRight_eq', BitVec.toNat_sshiftRight_of_msb_false (by rw [BitVec.msb_eq_false_iff_two_mul_lt]; omega)]
    show c.toBitVec.toNat >>> 8 % 256 = _
    rw [Nat.shiftRight_eq_div_pow]
    omega
  unfold pairCh
  apply Int32.toBitVec_inj.mp
  apply BitVec.eq_of_toNat_eq
  have f0 : ((0 : Int32) &&& 31) = 0 := by decide
  have f8 : ((8 : Int32) &&& 31) = 8 := by decide
  rw [f0, f8]
  have g : (((lo8 c &&& 255) <<< (0 : Int32)) ||| ((hi8 c &&& 255) <<< (8 : Int32))).toBitVec.toNat = c.toBitVec.toNat := by
    rw [Int32.toBitVec_or, Int32.toBitVec_shiftLeft, Int32.toBitVec_shiftLeft]
    have s0 : ((0 : Int32).toBitVec.smod 32) = 0#32 := by decide
    have s8 : ((8 : Int32).toBitVec.smod 32) = 8#32 := by decide
    rw [s0, s8, BitVec.toNat_or]
    simp only [BitVec.shiftLeft_eq', BitVec.toNat_shiftLeft, a1, a2]
    show (c.toBitVec.toNat % 256) <<< 0 % 2 ^ 32 ||| (c.toBitVec.toNat / 256) <<< 8 % 2 ^ 32 = _
    rw [Nat.shiftLeft_zero, Nat.mod_eq_of_lt (show c.toBitVec.toNat % 256 < 2 ^ 32 by omega), Nat.mod_eq_of_lt (show (c.toBitVec.toNat / 256) <<< 8 < 2 ^ 32 by rw [Nat.shiftLeft_eq]; omega), Nat.or_comm, ← Nat.shiftLeft_add_eq_or_of_lt (by omega), Nat.shiftLeft_eq]
    omega
  show BitVec.toNat (((((lo8 c &&& 255) <<< (0 : Int32)) ||| ((hi8 c &&& 255) <<< (8 : Int32))).toBitVec.setWidth 16).setWidth 32) = _
  rw [BitVec.toNat_setWidth, BitVec.toNat_setWidth, g]
  omega
end StrChars
namespace StrChars
open Jvm Sem ClassFile Op Lib Jvm.Stand Jvm.Free.XT Jvm.Free.ALB Jvm.Free.JM Jvm.Free
open Jvm.Lib.Cold (StaticIs)
/-- the array's cell V codes the n chars f 0 .. f (n - 1) by the coder cd, as the JDK does: coder 1 just where some char is above 255 -/
def Cod (cd : Int32) (n : Nat) (f : Nat → Int32) (V : Cell) : Prop := (cd = 0 ∧ V.slots.size = n ∧ ∀ j, j < n → V.slots[j]? = some (.int (lo8 (f j))) ∧ ¬ 255 < f j) ∨ (cd = 1 ∧ V.slots.size = 2 * n ∧ (∀ j, j < n → V.slots[2 * j]? = some (.int (lo8 (f j))) ∧ V.slots[2 * j + 1]? = some (.int (hi8 (f j)))) ∧ ∃ j, j < n ∧ 255 < f j)
/-- **x is a String of the n chars f 0 .. f (n - 1)**, Latin-1 or UTF-16; its array at t has the cell V -/
def Txt (x t : Addr) (V : Cell) (cd : Int32) (n : Nat) (f : Nat → Int32) (U : State) : Prop := Exact "java/lang/String" x U ∧ Has x "java/lang/String" "value" "[B" (.ref t) U ∧ Has x "java/lang/String" "coder" "B" (.int cd) U ∧ XT.Arr .byte t V U ∧ Cod cd n f V ∧ ∀ j, j < n → ¬ f j < 0 ∧ ¬ 65535 < f j
theorem Txt.mv {x t : Addr} {V : Cell} {cd : Int32} {n : Nat} {f : Nat → Int32} {U U' : State} (h : Txt x t V cd n f U) (hal : U.vm.Alike U'.vm) (hh : U'.heap = U.heap) : Txt x t V cd n f U' := ⟨h.1.mv hal hh, h.2.1.mv hal hh, h.2.2.1.mv hal hh, h.2.2.2.1.mv hal hh, h.2.2.2.2⟩
end StrChars
namespace StrChars.Road
open Jvm Sem ClassFile Op Lib Jvm.Stand Jvm.Free Jvm.Free.XT
open Jvm.Lib.Cold (StaticIs)
theorem consq {a : Array Value} {s : State} {c : Jvm.Cond} {L : List Jvm.Cond} (h0 : c.before a s = true) (h : ∀ w ∈ L, w.before a s = true) : ∀ w ∈ c :: L, w.before a s = true := fun w hw => (List.mem_cons.mp hw).elim (fun e => e ▸ h0) (h w)
/-- the bytes of the chars cs, low before high -/
def wideBytes : List Int32 → List Value
  | [] => []
  | c :: cs => .int (lo8 c) :: .int (hi8 c) :: wideBytes cs
theorem wide_lo (d : Value) : ∀ (cs : List Int32) (j : Nat), j < cs.length → (wideBytes cs).getD (2 * j) d = .int (lo8 (cs.getD j 0))
  | [], j, h => absurd h (Nat.not_lt_zero j)
  | c :: cs, 0, _ => rfl
  | c :: cs, j + 1, h => by
    have q := wide_lo d cs j (by simpa using h)
    rw [show 2 * (j + 1) = 2 * j + 1 + 1 from by omega]
    simpa [wideBytes] using q
theorem wide_hi (d : Value) : ∀ (cs : List Int32) (j : Nat), j < cs.length → (wideBytes cs).getD (2 * j + 1) d = .int (hi8 (cs.getD j 0))
  | [], j, h => absurd h (Nat.not_lt_zero j)
  | c :: cs, 0, _ => rfl
  | c :: cs, j + 1, h => by
    have q := wide_hi d cs j (by simpa using h)
    rw [show 2 * (j + 1) + 1 = 2 * j + 1 + 1 + 1 from by omega]
    simpa [wideBytes] using q
theorem low_at (d : Value) (cs : List Int32) (j : Nat) (h : j < cs.length) : (cs.map fun c => Value.int (lo8 c)).getD j d = .int (lo8 (cs.getD j 0)) := by
  simp [List.getD_eq_getElem?_getD, h]
/-- an array of N2 bytes vs codes the chars cs by the coder cd -/
def CodA (cs : List Int32) (cd N2 : Int32) (vs : List Value) : Prop := (cd = 0 ∧ N2 = Int32.ofNat cs.length ∧ vs = (cs.map fun c => Value.int (lo8 c)) ∧ ∀ c ∈ cs, ¬ 255 < c) ∨ (cd = 1 ∧ N2 = Int32.ofNat (2 * cs.length) ∧ vs = wideBytes cs ∧ ∃ c ∈ cs, 255 < c)
theorem CodA.cod {cs : List Int32} {cd N2 : Int32} {vs : List Value} {V : Cell} (h : CodA cs cd N2 vs) (hn : 2 * cs.length < 2 ^ 31) (hs : V.slots.size = N2.toNatClampNeg) (hv : RoadKit.Has V vs (.int 0)) : Cod cd cs.length (fun j => cs.getD j 0) V := by
  rcases h with ⟨rfl, rfl, rfl, h⟩ | ⟨rfl, rfl, rfl, c, hc, hw⟩
  · rw [n32 (by omega)] at hs
    exact Or.inl ⟨rfl, hs, fun j hj => ⟨by rw [hv j (by omega), low_at _ _ _ hj], by
      have e : cs.getD j 0 = cs[j] := by simp [List.getD_eq_getElem?_getD, hj]
      show ¬ 255 < cs.getD j 0
      rw [e]; exact h _ (List.getElem_mem _)⟩⟩
  · rw [n32 (by omega)] at hs
    obtain ⟨j, hj, rfl⟩ := List.getElem_of_mem hc
    exact Or.inr ⟨rfl, hs, fun j hj => ⟨by rw [hv _ (by omega), wide_lo _ _ _ hj], by rw [hv _ (by omega), wide_hi _ _ _ hj]⟩, j, hj, by
      have e : cs.getD j 0 = cs[j] := by simp [List.getD_eq_getElem?_getD, hj]
      show 255 < cs.getD j 0
      rw [e]; exact hw⟩
/-- an object of exactly java/lang/String, its two fields found: as the laws ask it -/
theorem strObj {Z U : State} {a0 : Array Value} {kI : Nat} (wi : (Jvm.Cond.instantiable ST kI).before a0 Z = true) (al : Z.vm.Alike U.vm) {x : Addr} {v0 c0 : Value} (E : RoadKit.Exa Z U.heap x ST) (V : RoadKit.Fld Z U.heap x ST "value" "[B" v0) (C : RoadKit.Fld Z U.heap x ST "coder" "B" c0) :
    ∃ (D : Cell) (fV fC : Field), Blank ST x D U ∧ Found ST "value" "[B" fV U ∧ Found ST "coder" "B" fC U ∧ D.slots[fV.slot]? = some v0 ∧ D.slots[fC.slot]? = some c0 ∧ RoadKit.slotOf Z ST "value" "[B" = fV.slot ∧ RoadKit.slotOf Z ST "coder" "B" = fC.slot := by
  obtain ⟨D, cfV, kV, iV, fV, hD, gV, stV, knV, obV, asV, slV⟩ := V
  obtain ⟨D', cfC, kC, iC, fC, hD', gC, stC, -, -, asC, slC⟩ := C
  cases hD.symm.trans hD'
  obtain ⟨D2, kD, e1, e2, e3, e4, e5⟩ := E
  cases hD.symm.trans e1
  obtain ⟨c2, k2, i1, i2, i3, -⟩ := Cond.instantiable_spec wi
  cases e2.symm.trans i1
  cases e3.symm.trans i2
  obtain ⟨kU, u1, u2⟩ := al.2.2 _ _ e3
  exact ⟨D, fV, fC, ⟨hD, ⟨knV, fun q hq => by rw [hq] at obV; cases obV⟩, by rw [al.findClass]; exact e2, kU, u1, by rw [u2]; exact i3, by rw [u2]; exact e5 i3⟩, ⟨SBG.found_only al ⟨cfV, kV, iV, gV⟩, stV⟩, ⟨SBG.found_only al ⟨cfC, kC, iC, gC⟩, stC⟩, slV, slC, by simp [RoadKit.slotOf, gV], by simp [RoadKit.slotOf, gC]⟩
theorem sta_is {Z U : State} (al : Z.vm.Alike U.vm) {C n d : String} {v : Value} (S : RoadKit.Sta Z U.heap C n d v) : StaticIs U C n d v := by
  obtain ⟨cfS, iS, kS, fS, st, cS, t1, t2, t3, t4, t5, t6, t7⟩ := S
  exact StaticIs.there (s := { Z with heap := U.heap }) ⟨cfS, iS, kS, fS, st, cS, t1, t2, t3, t4, t5, (fun q => by rw [q] at t6; cases t6), t7⟩ al rfl
end StrChars.Road
namespace StrChars
open Jvm Sem ClassFile Op Lib Jvm.Stand Jvm.Free.XT Jvm.Free.ALB Jvm.Free.JM Jvm.Free
open Jvm.Lib.Cold (StaticIs)
/-- what place i of a byte[]'s cell holds -/
def yv (A : Cell) (i : Nat) : Int32 := match A.slots[i]? with | some (.int x) => x | _ => 0
theorem yv_get {a : Addr} {A : Cell} {U : State} (h : XT.Arr .byte a A U) (ht : Typed .byte A) {i : Nat} (hi : i < A.slots.size) : A.slots[i]? = some (.int (yv A i)) := by
  have e := Array.getElem?_eq_getElem hi
  have f := ht i _ e
  unfold yv; rw [e]
  generalize A.slots[i] = v at f
  cases v <;> simp [fits] at f ⊢
/-- the two arrays are equal, place for place -/
def EqC (A B : Cell) : Prop := A.slots.size = B.slots.size ∧ ∀ i, i < A.slots.size → yv A i = yv B i
/-- a boolean that says whether p -/
def Says01 (q : Prop) (r : Option Value) (s u : State) : Prop := ∃ v : Int32, r = some (.int v) ∧ u.heap = s.heap ∧ ((v = 1 ∧ q) ∨ (v = 0 ∧ ¬ q))
theorem Says01.mv {q : Prop} : ∀ r (U U' V V' : State), U'.heap = U.heap → V.vm.Alike V'.vm → V'.heap = V.heap → Says01 q r U V → Says01 q r U' V' :=
  fun r U U' V V' h1 _ h2 ⟨v, a, b, c⟩ => ⟨v, a, by rw [h1, h2]; exact b, c⟩
namespace LEq
def yN : MethodName := ⟨"java/lang/StringLatin1", "equals", "([B[B)Z"⟩
abbrev yB : ByteArray := jdk_43_method_13_code
theorem d0 : decode yB 0 = .ok (.aload_n 0, 1) := by decide +kernel
theorem d1 : decode yB 1 = .ok (.arraylength, 1) := by decide +kernel
theorem d2 : decode yB 2 = .ok (.aload_n 1, 1) := by decide +kernel
theorem d3 : decode yB 3 = .ok (.arraylength, 1) := by decide +kernel
theorem d4 : decode yB 4 = .ok (.if_icmp (.ne) 30, 3) := by decide +kernel
theorem d7 : decode yB 7 = .ok (.iconst 0, 1) := by decide +kernel
theorem d8 : decode yB 8 = .ok (.istore_n 2, 1) := by decide +kernel
theorem d9 : decode yB 9 = .ok (.iload_n 2, 1) := by decide +kernel
theorem d10 : decode yB 10 = .ok (.aload_n 0, 1) := by decide +kernel
theorem d11 : decode yB 11 = .ok (.arraylength, 1) := by decide +kernel
theorem d12 : decode yB 12 = .ok (.if_icmp (.ge) 20, 3) := by decide +kernel
theorem d15 : decode yB 15 = .ok (.aload_n 0, 1) := by decide +kernel
theorem d16 : decode yB 16 = .ok (.iload_n 2, 1) := by decide +kernel
theorem d17 : decode yB 17 = .ok (.baload, 1) := by decide +kernel
theorem d18 : decode yB 18 = .ok (.aload_n 1, 1) := by decide +kernel
theorem d19 : decode yB 19 = .ok (.iload_n 2, 1) := by decide +kernel
theorem d20 : decode yB 20 = .ok (.baload, 1) := by decide +kernel
theorem d21 : decode yB 21 = .ok (.if_icmp (.eq) 5, 3) := by decide +kernel
theorem d24 : decode yB 24 = .ok (.iconst 0, 1) := by decide +kernel
theorem d25 : decode yB 25 = .ok (.ireturn, 1) := by decide +kernel
theorem d26 : decode yB 26 = .ok (.iinc 2 1, 3) := by decide +kernel
theorem d29 : decode yB 29 = .ok (.goto (-20), 3) := by decide +kernel
theorem d32 : decode yB 32 = .ok (.iconst 1, 1) := by decide +kernel
theorem d33 : decode yB 33 = .ok (.ireturn, 1) := by decide +kernel
theorem d34 : decode yB 34 = .ok (.iconst 0, 1) := by decide +kernel
theorem d35 : decode yB 35 = .ok (.ireturn, 1) := by decide +kernel
def site : List Cond := []
def tab : Cond := tabOf yN yB 3 (some .boolean) site
def P (a : Addr) (A : Cell) (b : Addr) (B : Cell) (args : Array Value) (s : State) : Prop := args = #[.ref a, .ref b] ∧ XT.Arr .byte a A s ∧ Typed .byte A ∧ XT.Arr .byte b B s ∧ Typed .byte B
/-- whether two byte[] are equal, place for place -/
theorem law (l : Launch) (a : Addr) (A : Cell) (b : Addr) (B : Cell) : Law l yN 2 2 0 0 yB 3 (some .boolean) site (P a A b B) (Says01 (EqC A B)) [] 0 0 := by
  refine Law.of_walk (plainFor_of_name (by decide +kernel)) (by decide +kernel) (by decide +kernel) (by decide) (fun _ _ h => by rw [h.1]; rfl) (fun _ U U' hal hh h => ⟨h.1, h.2.1.mv hal hh, h.2.2.1, h.2.2.2.1.mv hal hh, h.2.2.2.2⟩) (fun r U U' V V' h1 hal h2 h => Says01.mv r U U' V V' h1 hal h2 h) ?_
  intro p e s m args below meth c s₁ X0 hexec hbytes hml hret hlk hnm hown hh0 W hP
  obtain ⟨rfl, hA, tA, hB, tB⟩ := hP
  have a31 := hA.2.2.2
  have b31 := hB.2.2.2
  have hA0 := hA.mv X0.warmed.alike hh0
  have hB0 := hB.mv X0.warmed.alike hh0
  have c1 : Steps p.tables e below (s₁.setTop (entryFrame m #[.ref a, .ref b] 3)) (s₁.setTop (mkF m 0 #[.val (.ref a), .val (.ref b), .unset] [])) := entry rfl
  have c2 : Steps p.tables e below (s₁.setTop (entryFrame m #[.ref a, .ref b] 3)) (s₁.setTop (mkF m 4 #[.val (.ref a), .val (.ref b), .unset] [.int (Int32.ofNat B.slots.size), .int (Int32.ofNat A.slots.size)])) := c1.trans (by
    refine XS.aloadN X0.here hexec rfl (hb hbytes d0) rfl rfl ?_
    refine X0.alen hexec hA0 rfl rfl (hb hbytes d1) ?_
    refine XS.aloadN X0.here hexec rfl (hb hbytes d2) rfl rfl ?_
    refine X0.alen hexec hB0 rfl rfl (hb hbytes d3) ?_
    exact Steps.refl _)
  by_cases hs : A.slots.size = B.slots.size
  · have c3 : Steps p.tables e below (s₁.setTop (entryFrame m #[.ref a, .ref b] 3)) (s₁.setTop (mkF m 9 #[.val (.ref a), .val (.ref b), .val (.int 0)] [])) := c2.trans (by
      refine XS.icmpNo X0.here hexec rfl (hb hbytes d4) rfl (ii_ne_f (by rw [hs])) ?_
      refine iconstV X0.here hexec rfl 0 (hb hbytes d7) (by decide) ?_
      refine XS.istoreN X0.here hexec rfl (hb hbytes d8) rfl rfl ?_
      exact Steps.refl _)
    have loop : ∀ (r i : Nat), i + r = A.slots.size → (∀ j, j < i → yv A j = yv B j) → Steps p.tables e below (s₁.setTop (entryFrame m #[.ref a, .ref b] 3)) (s₁.setTop (mkF m 9 #[.val (.ref a), .val (.ref b), .val (.int (Int32.ofNat i))] [])) → ∃ (pc : Nat) (Ls : Array Slot) (v : Int32), (pc = 25 ∨ pc = 33) ∧ ((v = 1 ∧ EqC A B) ∨ (v = 0 ∧ ¬ EqC A B)) ∧ Steps p.tables e below (s₁.setTop (entryFrame m #[.ref a, .ref b] 3)) (s₁.setTop (mkF m pc Ls [.int v])) := by
      intro r
      induction r with
      | zero =>
        intro i hi he cl
        exact ⟨33, _, 1, Or.inr rfl, Or.inl ⟨rfl, hs, fun j hj => he j (by omega)⟩, cl.trans (by
          refine XS.iloadN X0.here hexec rfl (hb hbytes d9) rfl ?_
          refine XS.aloadN X0.here hexec rfl (hb hbytes d10) rfl rfl ?_
          refine X0.alen hexec hA0 rfl rfl (hb hbytes d11) ?_
          refine XS.icmpYes X0.here hexec rfl (pc0 := 12) rfl (hb hbytes d12) rfl (ii_ge_t (nlt32 (by omega) (by omega))) (by decide) rfl ?_
          refine iconstV X0.here hexec rfl 1 (hb hbytes d32) (by decide) ?_
          exact Steps.refl _)⟩
      | succ r ih =>
        intro i hi he cl
        have c4 : Steps p.tables e below (s₁.setTop (entryFrame m #[.ref a, .ref b] 3)) (s₁.setTop (mkF m 21 #[.val (.ref a), .val (.ref b), .val (.int (Int32.ofNat i))] [.int (yv B i), .int (yv A i)])) := cl.trans (by
          refine XS.iloadN X0.here hexec rfl (hb hbytes d9) rfl ?_
          refine XS.aloadN X0.here hexec rfl (hb hbytes d10) rfl rfl ?_
          refine X0.alen hexec hA0 rfl rfl (hb hbytes d11) ?_
          refine XS.icmpNo X0.here hexec rfl (hb hbytes d12) rfl (ii_ge_f (lt32 (by omega) (by omega))) ?_
          refine XS.aloadN X0.here hexec rfl (hb hbytes d15) rfl rfl ?_
          refine XS.iloadN X0.here hexec rfl (hb hbytes d16) rfl ?_
          refine X0.aget hexec hA0 rfl (yv_get hA tA (i := i) (by omega)) rfl rfl (hb hbytes d17) ?_
          refine XS.aloadN X0.here hexec rfl (hb hbytes d18) rfl rfl ?_
          refine XS.iloadN X0.here hexec rfl (hb hbytes d19) rfl ?_
          refine X0.aget hexec hB0 rfl (yv_get hB tB (i := i) (by omega)) rfl rfl (hb hbytes d20) ?_
          exact Steps.refl _)
        by_cases hv : yv A i = yv B i
        · have c5 : Steps p.tables e below (s₁.setTop (entryFrame m #[.ref a, .ref b] 3)) (s₁.setTop (mkF m 9 #[.val (.ref a), .val (.ref b), .val (.int (Int32.ofNat i + 1))] [])) := c4.trans (by
            refine XS.icmpYes X0.here hexec rfl (pc0 := 21) rfl (hb hbytes d21) rfl (ii_eq_t hv) (by decide) rfl ?_
            refine iincV X0.here hexec rfl 1 (hb hbytes d26) (by decide) rfl rfl ?_
            refine XS.goto X0.here hexec rfl (pc0 := 29) rfl (hb hbytes d29) (by decide) rfl ?_
            exact Steps.refl _)
          rw [succ32] at c5
          exact ih (i + 1) (by omega) (fun j hj => by
            by_cases e : j = i
            · rw [e]; exact hv
            · exact he j (by omega)) c5
        · exact ⟨25, _, 0, Or.inl rfl, Or.inr ⟨rfl, fun q => hv (q.2 i (by omega))⟩, c4.trans (by
            refine XS.icmpNo X0.here hexec rfl (hb hbytes d21) rfl (ii_eq_f hv) ?_
            refine iconstV X0.here hexec rfl 0 (hb hbytes d24) (by decide) ?_
            exact Steps.refl _)⟩
    obtain ⟨pc, Ls, v, hpc, hv, cz⟩ := loop A.slots.size 0 (by omega) (fun j hj => absurd hj (Nat.not_lt_zero j)) c3
    have nv : narrow .boolean (.int v) = .int v := by rcases hv with ⟨rfl, -⟩ | ⟨rfl, -⟩ <;> rfl
    rcases hpc with rfl | rfl
    · exact ⟨s₁, some (.int v), _, _, _, X0, rfl, rfl, rfl, (fun h => by cases h), ⟨v, rfl, hh0, hv⟩, fun fs hl => cz.trans (X0.ireturnOut hexec hret nv (Or.inr (Or.inl rfl)) (hb hbytes d25) hl)⟩
    · exact ⟨s₁, some (.int v), _, _, _, X0, rfl, rfl, rfl, (fun h => by cases h), ⟨v, rfl, hh0, hv⟩, fun fs hl => cz.trans (X0.ireturnOut hexec hret nv (Or.inr (Or.inl rfl)) (hb hbytes d33) hl)⟩
  · have c3 : Steps p.tables e below (s₁.setTop (entryFrame m #[.ref a, .ref b] 3)) (s₁.setTop (mkF m 35 #[.val (.ref a), .val (.ref b), .unset] [.int 0])) := c2.trans (by
      refine XS.icmpYes X0.here hexec rfl (pc0 := 4) rfl (hb hbytes d4) rfl (ii_ne_t (ne32 a31 b31 hs)) (by decide) rfl ?_
      refine iconstV X0.here hexec rfl 0 (hb hbytes d34) (by decide) ?_
      exact Steps.refl _)
    exact ⟨s₁, some (.int 0), _, _, _, X0, rfl, rfl, rfl, (fun h => by cases h), ⟨0, rfl, hh0, Or.inr ⟨rfl, fun q => hs q.1⟩⟩, fun fs hl => c3.trans (X0.ireturnOut hexec hret rfl (Or.inr (Or.inl rfl)) (hb hbytes d35) hl)⟩
end LEq
theorem Cod.ty {cd : Int32} {n : Nat} {f : Nat → Int32} {V : Cell} (h : Cod cd n f V) : Typed .byte V := fun i v hv => by
  have hi : i < V.slots.size := (Array.getElem?_eq_some_iff.mp hv).1
  rcases h with ⟨-, k1, k2⟩ | ⟨-, k1, k2, -⟩
  · rw [(k2 i (by omega)).1] at hv; cases hv; exact fits_lo8 _
  · rcases Nat.mod_two_eq_zero_or_one i with e | e
    · obtain ⟨j, rfl⟩ : ∃ j, i = 2 * j := ⟨i / 2, by omega⟩
      rw [(k2 j (by omega)).1] at hv; cases hv; exact fits_lo8 _
    · obtain ⟨j, rfl⟩ : ∃ j, i = 2 * j + 1 := ⟨i / 2, by omega⟩
      rw [(k2 j (by omega)).2] at hv; cases hv; exact fits_lo8 _
/-- the same text -/
def SameT (n : Nat) (f : Nat → Int32) (k : Nat) (g : Nat → Int32) : Prop := n = k ∧ ∀ j, j < n → f j = g j
theorem lo8_inj {x y : Int32} (h0 : ¬ x < 0) (h1 : ¬ 255 < x) (k0 : ¬ y < 0) (k1 : ¬ 255 < y) (h : lo8 x = lo8 y) : x = y := by
  rw [← lo8_mask h0 h1, ← lo8_mask k0 k1, h]
/-- arrays coded by one coder are equal just where the texts are -/
theorem Cod.eqv {cd : Int32} {n k : Nat} {f g : Nat → Int32} {V V' : Cell} (h : Cod cd n f V) (h' : Cod cd k g V') (hf : ∀ j, j < n → ¬ f j < 0 ∧ ¬ 65535 < f j) (hg : ∀ j, j < k → ¬ g j < 0 ∧ ¬ 65535 < g j) : EqC V V' ↔ SameT n f k g := by
  have yvv : ∀ {W : Cell} {i : Nat} {x : Int32}, W.slots[i]? = some (.int x) → yv W i = x := fun q => by unfold yv; rw [q]
  rcases h with ⟨rfl, k1, k2⟩ | ⟨rfl, k1, k2, -⟩
  · rcases h' with ⟨-, m1, m2⟩ | ⟨e, -⟩
    · constructor
      · rintro ⟨e1, e2⟩
        refine ⟨by omega, fun j hj => ?_⟩
        have q := e2 j (by omega)
        rw [yvv (k2 j hj).1, yvv (m2 j (by omega)).1] at q
        exact lo8_inj (hf j hj).1 (k2 j hj).2 (hg j (by omega)).1 (m2 j (by omega)).2 q
      · rintro ⟨rfl, e2⟩
        refine ⟨by omega, fun j hj => ?_⟩
        rw [yvv (k2 j (by omega)).1, yvv (m2 j (by omega)).1, e2 j (by omega)]
    · exact absurd e (by decide)
  · rcases h' with ⟨e, -⟩ | ⟨-, m1, m2, -⟩
    · exact absurd e (by decide)
    · constructor
      · rintro ⟨e1, e2⟩
        refine ⟨by omega, fun j hj => ?_⟩
        have q1 := e2 (2 * j) (by omega)
        have q2 := e2 (2 * j + 1) (by omega)
        rw [yvv (k2 j hj).1, yvv (m2 j (by omega)).1] at q1
        rw [yvv (k2 j hj).2, yvv (m2 j (by omega)).2] at q2
        rw [← pair_says (hf j hj).1 (hf j hj).2, ← pair_says (hg j (by omega)).1 (hg j (by omega)).2, q1, q2]
      · rintro ⟨rfl, e2⟩
        refine ⟨by omega, fun i hi => ?_⟩
        rcases Nat.mod_two_eq_zero_or_one i with e | e
        · obtain ⟨j, rfl⟩ : ∃ j, i = 2 * j := ⟨i / 2, by omega⟩
          rw [yvv (k2 j (by omega)).1, yvv (m2 j (by omega)).1, e2 j (by omega)]
        · obtain ⟨j, rfl⟩ : ∃ j, i = 2 * j + 1 := ⟨i / 2, by omega⟩
          rw [yvv (k2 j (by omega)).2, yvv (m2 j (by omega)).2, e2 j (by omega)]
/-- two codings differ: so do the texts -/
theorem Cod.dif {cd cd' : Int32} {n k : Nat} {f g : Nat → Int32} {V V' : Cell} (h : Cod cd n f V) (h' : Cod cd' k g V') (hne : ¬ cd = cd') : ¬ SameT n f k g := by
  rintro ⟨rfl, e⟩
  rcases h with ⟨rfl, -, k2⟩ | ⟨rfl, -, -, j, hj, hw⟩
  · rcases h' with ⟨rfl, -⟩ | ⟨-, -, -, j, hj, hw⟩
    · exact hne rfl
    · exact (k2 j hj).2 (by rw [e j hj]; exact hw)
  · rcases h' with ⟨-, -, m2⟩ | ⟨rfl, -⟩
    · exact (m2 j hj).2 (by rw [← e j hj]; exact hw)
    · exact hne rfl
/-- an object of exactly C is an instance of C -/
theorem cinst {p : Program} {l : Launch} {e : Env} {R : Room} {s : State} {m : MethodId} {args : Array Value} {below : List Frame} {meth : Method} {c : Code} {T : State} {locs : List Loc} {cells slots : Nat} (X : Stand p l e R s m args below meth c T locs cells slots) (hexec : p.tables.exec = Jvm.exec) {own C : String} {index : Nat} (hown : s.vm.findClass own = some m.cls) (hlink : (Cond.classLink own index C).before args s = true) {a : Addr} (hE : Exact C a T)
    {g : JFrame} (hg : g.method = m) {rest : List Value} (hstack : g.stack = .ref a :: rest) (hdg : decode c.code g.pc = .ok (.instanceof index, 3)) :
    ∃ T', Stand p l e R s m args below meth c T' locs cells slots ∧ T'.heap = T.heap ∧ ∀ target, Steps p.tables e below (T'.setTop { g with pc := g.pc + 3, stack := .int 1 :: rest }) target → Steps p.tables e below (T.setTop g) target := by
  obtain ⟨cB, h1, D, h2, h3, h4⟩ := hE
  have h1' : s.vm.findClass C = some cB := by rw [← X.warmed.alike.findClass]; exact h1
  obtain ⟨vm', X', st⟩ := X.instanceofYes hexec hown hlink h2 h4 h1' (by rw [h3]; exact Jvm.Free.SB.assignable_self _ _) hg hstack hdg
  exact ⟨_, X', rfl, st⟩
theorem cself {p : Program} {l : Launch} {e : Env} {R : Room} {s : State} {m : MethodId} {args : Array Value} {below : List Frame} {meth : Method} {c : Code} {T : State} {locs : List Loc} {cells slots : Nat} (X : Stand p l e R s m args below meth c T locs cells slots) (hexec : p.tables.exec = Jvm.exec) {own C : String} {index : Nat} (hown : s.vm.findClass own = some m.cls) (hlink : (Cond.classLink own index C).before args s = true) {a : Addr} (hE : Exact C a T)
    {g : JFrame} (hg : g.method = m) {rest : List Value} (hstack : g.stack = .ref a :: rest) (hdg : decode c.code g.pc = .ok (.checkcast index, 3)) :
    ∃ T', Stand p l e R s m args below meth c T' locs cells slots ∧ T'.heap = T.heap ∧ ∀ target, Steps p.tables e below (T'.setTop { g with pc := g.pc + 3, stack := .ref a :: rest }) target → Steps p.tables e below (T.setTop g) target := by
  obtain ⟨cB, h1, D, h2, h3, h4⟩ := hE
  have h1' : s.vm.findClass C = some cB := by rw [← X.warmed.alike.findClass]; exact h1
  obtain ⟨vm', X', st⟩ := X.checkcastYes hexec hown hlink h2 h4 h1' (by rw [h3]; exact Jvm.Free.SB.assignable_self _ _) hg hstack hdg
  exact ⟨_, X', rfl, fun t h => st t (by rw [← hstack] at h; exact h)⟩
namespace SEq
def yN : MethodName := ⟨"java/lang/String", "equals", "(Ljava/lang/Object;)Z"⟩
abbrev yB : ByteArray := jdk_42_method_66_code
theorem d0 : decode yB 0 = .ok (.aload_n 0, 1) := by decide +kernel
theorem d1 : decode yB 1 = .ok (.aload_n 1, 1) := by decide +kernel
theorem d2 : decode yB 2 = .ok (.if_acmp (.ne) 5, 3) := by decide +kernel
theorem d5 : decode yB 5 = .ok (.iconst 1, 1) := by decide +kernel
theorem d6 : decode yB 6 = .ok (.ireturn, 1) := by decide +kernel
theorem d7 : decode yB 7 = .ok (.aload_n 1, 1) := by decide +kernel
theorem d8 : decode yB 8 = .ok (.instanceof 10, 3) := by decide +kernel
theorem d11 : decode yB 11 = .ok (.ifCond (.eq) 43, 3) := by decide +kernel
theorem d14 : decode yB 14 = .ok (.aload_n 1, 1) := by decide +kernel
theorem d15 : decode yB 15 = .ok (.checkcast 10, 3) := by decide +kernel
theorem d18 : decode yB 18 = .ok (.astore_n 2, 1) := by decide +kernel
theorem d19 : decode yB 19 = .ok (.getstatic 38, 3) := by decide +kernel
theorem d22 : decode yB 22 = .ok (.ifCond (.eq) 14, 3) := by decide +kernel
theorem d25 : decode yB 25 = .ok (.aload_n 0, 1) := by decide +kernel
theorem d26 : decode yB 26 = .ok (.getfield 15, 3) := by decide +kernel
theorem d29 : decode yB 29 = .ok (.aload_n 2, 1) := by decide +kernel
theorem d30 : decode yB 30 = .ok (.getfield 15, 3) := by decide +kernel
theorem d33 : decode yB 33 = .ok (.if_icmp (.ne) 21, 3) := by decide +kernel
theorem d36 : decode yB 36 = .ok (.aload_n 0, 1) := by decide +kernel
theorem d37 : decode yB 37 = .ok (.getfield 9, 3) := by decide +kernel
theorem d40 : decode yB 40 = .ok (.aload_n 2, 1) := by decide +kernel
theorem d41 : decode yB 41 = .ok (.getfield 9, 3) := by decide +kernel
theorem d44 : decode yB 44 = .ok (.invokestatic 541, 3) := by decide +kernel
theorem d47 : decode yB 47 = .ok (.ifCond (.eq) 7, 3) := by decide +kernel
theorem d50 : decode yB 50 = .ok (.iconst 1, 1) := by decide +kernel
theorem d51 : decode yB 51 = .ok (.goto 4, 3) := by decide +kernel
theorem d54 : decode yB 54 = .ok (.iconst 0, 1) := by decide +kernel
theorem d55 : decode yB 55 = .ok (.ireturn, 1) := by decide +kernel
def site : List Cond := [.classLink "java/lang/String" 10 "java/lang/String", .fieldLink "java/lang/String" 38 "java/lang/String" "COMPACT_STRINGS" "Z", .fieldLink "java/lang/String" 15 "java/lang/String" "coder" "B", .fieldLink "java/lang/String" 9 "java/lang/String" "value" "[B", LEq.tab] ++ staticW "java/lang/String" 541 LEq.yN
def tab : Cond := tabOf yN yB 3 (some .boolean) site
def P (x t : Addr) (V : Cell) (cd : Int32) (n : Nat) (f : Nat → Int32) (y t' : Addr) (V' : Cell) (cd' : Int32) (k : Nat) (g : Nat → Int32) (z : Int32) (args : Array Value) (s : State) : Prop := args = #[.ref x, .ref y] ∧ Txt x t V cd n f s ∧ Txt y t' V' cd' k g s ∧ StaticIs s "java/lang/String" "COMPACT_STRINGS" "Z" (.int z) ∧ ¬ z = 0
/-- equals(Object) of two Strings: whether the texts are the same -/
theorem law (l : Launch) (x t : Addr) (V : Cell) (cd : Int32) (n : Nat) (f : Nat → Int32) (y t' : Addr) (V' : Cell) (cd' : Int32) (k : Nat) (g : Nat → Int32) (z : Int32) : Law l yN 2 1 1 14 yB 3 (some .boolean) site (P x t V cd n f y t' V' cd' k g z) (Says01 (SameT n f k g)) [] 0 0 := by
  refine Law.of_walk (plainFor_of_name (by decide +kernel)) (by decide +kernel) (by decide +kernel) (by decide) (fun _ _ h => by rw [h.1]; rfl) (fun _ U U' hal hh h => ⟨h.1, h.2.1.mv hal hh, h.2.2.1.mv hal hh, h.2.2.2.1.there hal hh, h.2.2.2.2⟩) (fun r U U' V V' h1 hal h2 h => Says01.mv r U U' V V' h1 hal h2 h) ?_
  intro p e s m args below meth c s₁ X0 hexec hbytes hml hret hlk hnm hown hh0 W hP
  obtain ⟨rfl, hx, hy, s1, hz⟩ := hP
  have c1 : Steps p.tables e below (s₁.setTop (entryFrame m #[.ref x, .ref y] 3)) (s₁.setTop (mkF m 2 #[.val (.ref x), .val (.ref y), .unset] [.ref y, .ref x])) := Steps.trans (entry rfl) (by
    show Steps p.tables e below (s₁.setTop (mkF m 0 #[.val (.ref x), .val (.ref y), .unset] [])) _
    refine XS.aloadN X0.here hexec rfl (hb hbytes d0) rfl rfl ?_
    refine XS.aloadN X0.here hexec rfl (hb hbytes d1) rfl rfl ?_
    exact Steps.refl _)
  by_cases hxy : x = y
  · have c2 : Steps p.tables e below (s₁.setTop (entryFrame m #[.ref x, .ref y] 3)) (s₁.setTop (mkF m 6 #[.val (.ref x), .val (.ref y), .unset] [.int 1])) := c1.trans (by
      refine acmpNo X0.here hexec rfl (hb hbytes d2) rfl rfl rfl (by simp [acmp, hxy]) ?_
      refine iconstV X0.here hexec rfl 1 (hb hbytes d5) (by decide) ?_
      exact Steps.refl _)
    subst hxy
    have ec : cd = cd' := by
      obtain ⟨D, fd, a1, a2, a3⟩ := hx.2.2.1
      obtain ⟨D', fd', b1, b2, b3⟩ := hy.2.2.1
      cases a1.symm.trans b1
      obtain ⟨q1, q2, q3, q4⟩ := a2.1
      obtain ⟨r1, r2, r3, r4⟩ := b2.1
      cases q4.symm.trans r4
      cases a3.symm.trans b3; rfl
    have et : t = t' := by
      obtain ⟨D, fd, a1, a2, a3⟩ := hx.2.1
      obtain ⟨D', fd', b1, b2, b3⟩ := hy.2.1
      cases a1.symm.trans b1
      obtain ⟨q1, q2, q3, q4⟩ := a2.1
      obtain ⟨r1, r2, r3, r4⟩ := b2.1
      cases q4.symm.trans r4
      cases a3.symm.trans b3; rfl
    subst ec et
    have ev : V = V' := by cases hx.2.2.2.1.1.symm.trans hy.2.2.2.1.1; rfl
    subst ev
    have hs : SameT n f k g := (Cod.eqv hx.2.2.2.2.1 hy.2.2.2.2.1 hx.2.2.2.2.2 hy.2.2.2.2.2).mp ⟨rfl, fun _ _ => rfl⟩
    exact ⟨s₁, some (.int 1), _, _, _, X0, rfl, rfl, rfl, (fun h => by cases h), ⟨1, rfl, hh0, Or.inl ⟨rfl, hs⟩⟩, fun fs hl => c2.trans (X0.ireturnOut hexec hret rfl (Or.inr (Or.inl rfl)) (hb hbytes d6) hl)⟩
  · have c2 : Steps p.tables e below (s₁.setTop (entryFrame m #[.ref x, .ref y] 3)) (s₁.setTop (mkF m 8 #[.val (.ref x), .val (.ref y), .unset] [.ref y])) := c1.trans (by
      refine acmpYes X0.here hexec rfl (pc0 := 2) rfl (hb hbytes d2) rfl rfl rfl (by simp [acmp, hxy]) (by decide) rfl ?_
      refine XS.aloadN X0.here hexec rfl (hb hbytes d7) rfl rfl ?_
      exact Steps.refl _)
    obtain ⟨T3, X3, q3, st3⟩ := cinst X0 hexec hown (wk W (.classLink "java/lang/String" 10 "java/lang/String")) (hy.mv X0.warmed.alike hh0).1 (g := (mkF m 8 #[.val (.ref x), .val (.ref y), .unset] [.ref y])) rfl (rest := []) rfl (hb hbytes d8)
    have hh3 := q3.trans hh0
    have c4 : Steps p.tables e below (s₁.setTop (entryFrame m #[.ref x, .ref y] 3)) (T3.setTop (mkF m 15 #[.val (.ref x), .val (.ref y), .unset] [.ref y])) := (c2.trans (st3 _ (Steps.refl _))).trans (by
      refine XS.ifNo X3.here hexec rfl (hb hbytes d11) rfl (i0_eq_f (by decide)) ?_
      refine XS.aloadN X3.here hexec rfl (hb hbytes d14) rfl rfl ?_
      exact Steps.refl _)
    obtain ⟨T5, X5, q5, st5⟩ := cself X3 hexec hown (wk W (.classLink "java/lang/String" 10 "java/lang/String")) (hy.mv X3.warmed.alike hh3).1 (g := (mkF m 15 #[.val (.ref x), .val (.ref y), .unset] [.ref y])) rfl (rest := []) rfl (hb hbytes d15)
    have hh5 := q5.trans hh3
    have c6 : Steps p.tables e below (s₁.setTop (entryFrame m #[.ref x, .ref y] 3)) (T5.setTop (mkF m 19 #[.val (.ref x), .val (.ref y), .val (.ref y)] [])) := (c4.trans (st5 _ (Steps.refl _))).trans (by
      refine XS.astoreN X5.here hexec rfl (hb hbytes d18) rfl rfl rfl ?_
      exact Steps.refl _)
    obtain ⟨T7, X7, q7, st7⟩ := X5.sget hexec hown (wk W (.fieldLink "java/lang/String" 38 "java/lang/String" "COMPACT_STRINGS" "Z")) s1 (fun _ _ h => by rw [hh5]; exact h) (g := (mkF m 19 #[.val (.ref x), .val (.ref y), .val (.ref y)] [])) rfl (hb hbytes d19)
    have hh7 := q7.trans hh5
    have c8 : Steps p.tables e below (s₁.setTop (entryFrame m #[.ref x, .ref y] 3)) (T7.setTop (mkF m 26 #[.val (.ref x), .val (.ref y), .val (.ref y)] [.ref x])) := (c6.trans (st7 _ (Steps.refl _))).trans (by
      refine XS.ifNo X7.here hexec rfl (hb hbytes d22) rfl (i0_eq_f hz) ?_
      refine XS.aloadN X7.here hexec rfl (hb hbytes d25) rfl rfl ?_
      exact Steps.refl _)
    obtain ⟨T9, X9, q9, st9⟩ := X7.hget hexec hown (wk W (.fieldLink "java/lang/String" 15 "java/lang/String" "coder" "B")) (hx.mv X7.warmed.alike hh7).2.2.1 (g := (mkF m 26 #[.val (.ref x), .val (.ref y), .val (.ref y)] [.ref x])) rfl (rest := []) rfl (hb hbytes d26)
    have hh9 := q9.trans hh7
    have c10 : Steps p.tables e below (s₁.setTop (entryFrame m #[.ref x, .ref y] 3)) (T9.setTop (mkF m 30 #[.val (.ref x), .val (.ref y), .val (.ref y)] [.ref y, .int cd])) := (c8.trans (st9 _ (Steps.refl _))).trans (by
      refine XS.aloadN X9.here hexec rfl (hb hbytes d29) rfl rfl ?_
      exact Steps.refl _)
    obtain ⟨T11, X11, q11, st11⟩ := X9.hget hexec hown (wk W (.fieldLink "java/lang/String" 15 "java/lang/String" "coder" "B")) (hy.mv X9.warmed.alike hh9).2.2.1 (g := (mkF m 30 #[.val (.ref x), .val (.ref y), .val (.ref y)] [.ref y, .int cd])) rfl (rest := [.int cd]) rfl (hb hbytes d30)
    have hh11 := q11.trans hh9
    have c12 : Steps p.tables e below (s₁.setTop (entryFrame m #[.ref x, .ref y] 3)) (T11.setTop (mkF m 33 #[.val (.ref x), .val (.ref y), .val (.ref y)] [.int cd', .int cd])) := c10.trans (st11 _ (Steps.refl _))
    by_cases hcd : cd = cd'
    · subst hcd
      have c13 : Steps p.tables e below (s₁.setTop (entryFrame m #[.ref x, .ref y] 3)) (T11.setTop (mkF m 37 #[.val (.ref x), .val (.ref y), .val (.ref y)] [.ref x])) := c12.trans (by
        refine XS.icmpNo X11.here hexec rfl (hb hbytes d33) rfl (ii_ne_f rfl) ?_
        refine XS.aloadN X11.here hexec rfl (hb hbytes d36) rfl rfl ?_
        exact Steps.refl _)
      obtain ⟨T14, X14, q14, st14⟩ := X11.hget hexec hown (wk W (.fieldLink "java/lang/String" 9 "java/lang/String" "value" "[B")) (hx.mv X11.warmed.alike hh11).2.1 (g := (mkF m 37 #[.val (.ref x), .val (.ref y), .val (.ref y)] [.ref x])) rfl (rest := []) rfl (hb hbytes d37)
      have hh14 := q14.trans hh11
      have c15 : Steps p.tables e below (s₁.setTop (entryFrame m #[.ref x, .ref y] 3)) (T14.setTop (mkF m 41 #[.val (.ref x), .val (.ref y), .val (.ref y)] [.ref y, .ref t])) := (c13.trans (st14 _ (Steps.refl _))).trans (by
        refine XS.aloadN X14.here hexec rfl (hb hbytes d40) rfl rfl ?_
        exact Steps.refl _)
      obtain ⟨T16, X16, q16, st16⟩ := X14.hget hexec hown (wk W (.fieldLink "java/lang/String" 9 "java/lang/String" "value" "[B")) (hy.mv X14.warmed.alike hh14).2.1 (g := (mkF m 41 #[.val (.ref x), .val (.ref y), .val (.ref y)] [.ref y, .ref t])) rfl (rest := [.ref t]) rfl (hb hbytes d41)
      have hh16 := q16.trans hh14
      have c17 : Steps p.tables e below (s₁.setTop (entryFrame m #[.ref x, .ref y] 3)) (T16.setTop (mkF m 44 #[.val (.ref x), .val (.ref y), .val (.ref y)] [.ref t', .ref t])) := c15.trans (st16 _ (Steps.refl _))
      obtain ⟨v18, T18, X18, E18, g18⟩ := X16.callS hexec (LEq.law l t V t' V') hown (wks W (staticW "java/lang/String" 541 LEq.yN)) (wk W LEq.tab) (W := 0) (Nat.le_of_ble_eq_true rfl) (Nat.le_of_ble_eq_true rfl) (Nat.le_refl _) (Nat.le_refl _) (g := (mkF m 44 #[.val (.ref x), .val (.ref y), .val (.ref y)] [.ref t', .ref t])) rfl (by rw [hml]; rfl) c17 (argsL := [.ref t, .ref t']) (rest := []) rfl rfl (by show 2 * 0 + 0 ≤ _; decide) (hb hbytes d44) (⟨rfl, hx.2.2.2.1.mv X16.warmed.alike hh16, hx.2.2.2.2.1.ty, hy.2.2.2.1.mv X16.warmed.alike hh16, hy.2.2.2.2.1.ty⟩)
      obtain ⟨v, rfl, q18, hv⟩ := E18
      have iff := Cod.eqv hx.2.2.2.2.1 hy.2.2.2.2.1 hx.2.2.2.2.2 hy.2.2.2.2.2
      rcases hv with ⟨rfl, he⟩ | ⟨rfl, he⟩
      · have c19 : Steps p.tables e below (s₁.setTop (entryFrame m #[.ref x, .ref y] 3)) (T18.setTop (mkF m 55 #[.val (.ref x), .val (.ref y), .val (.ref y)] [.int 1])) := Steps.trans g18 (by
          refine XS.ifNo X18.here hexec rfl (hb hbytes d47) rfl (i0_eq_f (by decide)) ?_
          refine iconstV X18.here hexec rfl 1 (hb hbytes d50) (by decide) ?_
          refine XS.goto X18.here hexec rfl (pc0 := 51) rfl (hb hbytes d51) (by decide) rfl ?_
          exact Steps.refl _)
        exact ⟨T18, some (.int 1), _, _, _, X18, rfl, rfl, rfl, (fun h => by cases h), ⟨1, rfl, q18.trans hh16, Or.inl ⟨rfl, iff.mp he⟩⟩, fun fs hl => c19.trans (X18.ireturnOut hexec hret rfl (Or.inr (Or.inl rfl)) (hb hbytes d55) hl)⟩
      · have c19 : Steps p.tables e below (s₁.setTop (entryFrame m #[.ref x, .ref y] 3)) (T18.setTop (mkF m 55 #[.val (.ref x), .val (.ref y), .val (.ref y)] [.int 0])) := Steps.trans g18 (by
          refine XS.ifYes X18.here hexec rfl (pc0 := 47) rfl (hb hbytes d47) rfl (i0_eq_t rfl) (by decide) rfl ?_
          refine iconstV X18.here hexec rfl 0 (hb hbytes d54) (by decide) ?_
          exact Steps.refl _)
        exact ⟨T18, some (.int 0), _, _, _, X18, rfl, rfl, rfl, (fun h => by cases h), ⟨0, rfl, q18.trans hh16, Or.inr ⟨rfl, fun q => he (iff.mpr q)⟩⟩, fun fs hl => c19.trans (X18.ireturnOut hexec hret rfl (Or.inr (Or.inl rfl)) (hb hbytes d55) hl)⟩
    · have c13 : Steps p.tables e below (s₁.setTop (entryFrame m #[.ref x, .ref y] 3)) (T11.setTop (mkF m 55 #[.val (.ref x), .val (.ref y), .val (.ref y)] [.int 0])) := c12.trans (by
        refine XS.icmpYes X11.here hexec rfl (pc0 := 33) rfl (hb hbytes d33) rfl (ii_ne_t hcd) (by decide) rfl ?_
        refine iconstV X11.here hexec rfl 0 (hb hbytes d54) (by decide) ?_
        exact Steps.refl _)
      exact ⟨T11, some (.int 0), _, _, _, X11, rfl, rfl, rfl, (fun h => by cases h), ⟨0, rfl, hh11, Or.inr ⟨rfl, Cod.dif hx.2.2.2.2.1 hy.2.2.2.2.1 hcd⟩⟩, fun fs hl => c13.trans (X11.ireturnOut hexec hret rfl (Or.inr (Or.inl rfl)) (hb hbytes d55) hl)⟩
theorem pays {l : Launch} {R : Room} {p : Program} {e : Env} {below : List Frame} {s : State} {sargs : Array Value} {len W : Nat} (x t : Addr) (V : Cell) (cd : Int32) (n : Nat) (f : Nat → Int32) (y t' : Addr) (V' : Cell) (cd' : Int32) (k : Nat) (g : Nat → Int32) (z : Int32) (htab : tab.before sargs s = true) (hfr : 2 ≤ R.frames) (hlo : W + 28 ≤ R.locals) :
    Back l R p e below s sargs yN len W (fun A₁ a₁ => A₁.cells + 0 ≤ R.cells ∧ A₁.slots + 0 ≤ R.slots ∧ P x t V cd n f y t' V' cd' k g z a₁ A₁.U) (fun A₁ _ v₁ B₁ => Says01 (SameT n f k g) v₁ A₁.U B₁.U ∧ B₁.locs = A₁.locs ++ [] ∧ B₁.cells = A₁.cells + 0 ∧ B₁.slots = A₁.slots + 0) :=
  (law l x t V cd n f y t' V' cd' k g z).pays htab hfr (by omega)
end SEq
end StrChars
namespace StrChars.Road
open Jvm Sem ClassFile Op Lib Jvm.Stand Jvm.Free Jvm.Free.XT
open Jvm.Lib.Cold (StaticIs)
/-- the words of String.equals(Object) -/
abbrev wordsEq : List Jvm.Cond := [.code SEq.yN SEq.yB 3 (some .boolean), .initialized ST, .classLink ST 10 ST, .fieldLink ST 38 ST "COMPACT_STRINGS" "Z", .fieldLink ST 15 ST "coder" "B", .fieldLink ST 9 ST "value" "[B", .methodLink ST 541 LEq.yN, .static LEq.yN, .code LEq.yN LEq.yB 3 (some .boolean), .initialized "java/lang/StringLatin1"]
theorem tabEq_of {a : Array Value} {s : State} (h : ∀ w ∈ wordsEq, w.before a s = true) : SEq.tab.before a s = true := by
  have hl : LEq.tab.before a s = true := unparts (wk h (.code LEq.yN LEq.yB 3 (some .boolean))) (wks h (.initialized LEq.yN.cls :: LEq.site))
  have q := consq hl h
  exact unparts (wk q (.code SEq.yN SEq.yB 3 (some .boolean))) (wks q (.initialized SEq.yN.cls :: SEq.site))
theorem movedEq {Z s : State} {a0 args : Array Value} (hZ : Z.Warmed39 s.vm) (hw : ∀ d ∈ wordsEq, d.before a0 Z = true) : ∀ d ∈ wordsEq, d.before args s = true := fun d hd => by
  have t : ∀ d ∈ wordsEq, (d.onTables && d.keepsFace) = true := by decide +kernel
  exact RoadKit.mv hZ (hw d hd) (t d hd)
/-- the road's facts of a String, as the laws ask it -/
theorem txt_of {Z U : State} {a0 : Array Value} {kI : Nat} (wi : (Jvm.Cond.instantiable ST kI).before a0 Z = true) (al : Z.vm.Alike U.vm) {x t : Addr} {kb : ClassId} {cs : List Int32} {cd N2 : Int32} {vs : List Value} (E : RoadKit.Exa Z U.heap x ST) (V : RoadKit.Fld Z U.heap x ST "value" "[B" (.ref t)) (C : RoadKit.Fld Z U.heap x ST "coder" "B" (.int cd)) (K : RoadKit.Arv Z U.heap t kb .byte N2 vs (.int 0)) (hc : CodA cs cd N2 vs) (hb : ∀ c ∈ cs, ¬ c < 0 ∧ ¬ (65535 : Int32) < c) (l2 : cs.length ≤ 4000) :
    ∃ A, Txt x t A cd cs.length (fun j => cs.getD j 0) U := by
  obtain ⟨A, K1, K2, K3, K4, K5, K6⟩ := K
  have hcod := hc.cod (by omega) K3 K5
  obtain ⟨D, fV, fC, hB, F1, F2, g1, g2, -, -⟩ := strObj wi al E V C
  exact ⟨A, ⟨_, hB.2.2.1, D, hB.1, rfl, by cases q : D.vm <;> first | rfl | exact absurd q (hB.2.1.2 _)⟩, Has.of hB F1 g1, Has.of hB F2 g2, ⟨K1.1, State.isArrayOf_alike al K1.2.1, K1.2.2, by rcases hcod with ⟨-, q, -⟩ | ⟨-, q, -⟩ <;> omega⟩, hcod, fun j hj => by
    have e : cs.getD j 0 = cs[j] := by simp [List.getD_eq_getElem?_getD, hj]
    show ¬ cs.getD j 0 < 0 ∧ ¬ 65535 < cs.getD j 0
    rw [e]; exact hb _ (List.getElem_mem _)⟩
theorem same_list (cs ds : List Int32) : SameT cs.length (fun j => cs.getD j 0) ds.length (fun j => ds.getD j 0) ↔ cs = ds := by
  constructor
  · rintro ⟨e, q⟩
    refine List.ext_getElem e fun j h1 h2 => ?_
    have := q j h1
    simpa [List.getD_eq_getElem?_getD, h1, h2] using this
  · rintro rfl
    exact ⟨rfl, fun _ _ => rfl⟩
/-- **equals(Object) OF TWO SUCH STRINGS**: 1 just where the chars are the same -/
theorem eqW {p : Program} {l : Launch} {e : Env} {R : Room} {s : State} {args : Array Value} {below : List Frame} {len W : Nat} {Z : State} {a0 : Array Value} {h : Heap} (hZ : Z.Warmed39 s.vm) (hw : ∀ d ∈ wordsEq, d.before a0 Z = true) {kI : Nat} (wi : (Jvm.Cond.instantiable ST kI).before a0 Z = true)
    {x t : Addr} {kb : ClassId} {cs : List Int32} {cd N2 : Int32} {vs : List Value} (E : RoadKit.Exa Z h x ST) (V : RoadKit.Fld Z h x ST "value" "[B" (.ref t)) (C : RoadKit.Fld Z h x ST "coder" "B" (.int cd)) (K : RoadKit.Arv Z h t kb .byte N2 vs (.int 0)) (hc : CodA cs cd N2 vs) (hb : ∀ c ∈ cs, ¬ c < 0 ∧ ¬ (65535 : Int32) < c) (l2 : cs.length ≤ 4000)
    {y t' : Addr} {kb' : ClassId} {ds : List Int32} {cd' N2' : Int32} {vs' : List Value} (E' : RoadKit.Exa Z h y ST) (V' : RoadKit.Fld Z h y ST "value" "[B" (.ref t')) (C' : RoadKit.Fld Z h y ST "coder" "B" (.int cd')) (K' : RoadKit.Arv Z h t' kb' .byte N2' vs' (.int 0)) (hc' : CodA ds cd' N2' vs') (hb' : ∀ c ∈ ds, ¬ c < 0 ∧ ¬ (65535 : Int32) < c) (l2' : ds.length ≤ 4000)
    {z : Int32} (S : RoadKit.Sta Z h ST "COMPACT_STRINGS" "Z" (.int z)) (hz : ¬ z = 0) (hfr : 2 ≤ R.frames) (hlo : W + 28 ≤ R.locals) :
    Back l R p e below s args (⟨"java/lang/String", "equals", "(Ljava/lang/Object;)Z"⟩ : MethodName) len W (fun P a => a = #[.ref x, .ref y] ∧ P.U.heap = h ∧ P.cells + 0 ≤ R.cells ∧ P.slots + 0 ≤ R.slots)
      (fun P _ v B => ∃ L, (((v = some (.int 1) ∧ cs = ds) ∨ (v = some (.int 0) ∧ ¬ cs = ds)) ∧ L = [] ∧ B.U.heap = h) ∧ B.locs = P.locs ++ L ∧ B.cells = P.cells + 0 ∧ B.slots = P.slots + 0) := by
  intro m meth c P g ig mk a X hg hsize hdg hW hn hp'
  obtain ⟨rfl, rfl, r1, r2⟩ := hp'
  have al : Z.vm.Alike P.U.vm := hZ.alike.trans X.warmed.alike
  obtain ⟨A, hx⟩ := txt_of wi al E V C K hc hb l2
  obtain ⟨A', hy⟩ := txt_of wi al E' V' C' K' hc' hb' l2'
  obtain ⟨v, B, X', ⟨⟨w, hv, hh, hq⟩, hl, hk, hs⟩, st⟩ := SEq.pays x t A cd cs.length (fun j => cs.getD j 0) y t' A' cd' ds.length (fun j => ds.getD j 0) z (tabEq_of (movedEq hZ hw)) hfr hlo m meth c P g ig mk _ X hg hsize hdg hW hn ⟨r1, r2, rfl, hx, hy, sta_is al S, hz⟩
  refine ⟨v, B, X', ⟨[], ⟨?_, rfl, hh⟩, hl, hk, hs⟩, st⟩
  rcases hq with ⟨rfl, q⟩ | ⟨rfl, q⟩
  · exact Or.inl ⟨hv, (same_list cs ds).mp q⟩
  · exact Or.inr ⟨hv, fun e => q ((same_list cs ds).mpr e)⟩
end StrChars.Road
end Jvm.Pilot.@@N@@

namespace Jvm.Pilot.@@N@@
open Jvm Jvm.ClassFile Sem Op Lib Jvm.Free Jvm.Stand Jvm.LawKit Jvm.RoadKit Bundle Jvm.Pilot.@@N@@.Jvm.D
section Own
variable {p : Program} {l : Launch} {e : Env} {R : Room} {s : State} {m : MethodId} {args : Array Value} {below : List Frame} {meth : Method} {c : Code} {T : State} {locs : List Loc} {cells slots : Nat} {Q : Option Value → Heap → List Loc → Prop} {C S : Nat}
def Goes (p : Program) (e : Env) (below : List Frame) (P : Outcome → State → Prop) (A : State) : Prop :=
  ∃ s₂ o, Steps p.tables e below A s₂ ∧ s₂.status = .running ∧ Ended s₂ below o ∧ P o s₂
def Fin_ (s : State) (Q : Option Value → Heap → List Loc → Prop) (C S : Nat) (o : Outcome) (U' : State) : Prop :=
  ∃ v L, o = .returned v ∧ Q v U'.heap L ∧ FrameEnd s o U' L C S
theorem Goes.via {P : Outcome → State → Prop} {A B : State} (st : ∀ t, Steps p.tables e below B t → Steps p.tables e below A t) (k : Goes p e below P B) : Goes p e below P A := by
  obtain ⟨s₂, o, h1, h2⟩ := k
  exact ⟨s₂, o, st _ h1, h2⟩
theorem Goes.tr {P : Outcome → State → Prop} {A B : State} (st : Steps p.tables e below A B) (k : Goes p e below P B) : Goes p e below P A := by
  obtain ⟨s₂, o, h1, h2⟩ := k
  exact ⟨s₂, o, st.trans h1, h2⟩
theorem own_fin {pc : Nat} {Ls : Array Slot} {st : List Value} (X : Stand p l e R s m args below meth c T locs cells slots) (hlk : meth.locks = false) {v : Option Value} (hv : meth.sig.returnType = none → v = none)
    (hstep : ∀ fs, (∀ (f : JFrame) (acts : List Action), f.method = m → f.locked = none → f.entered = [] → (doReturn e (T.setTop f) acts v).1 = T.setFrames fs) → Steps p.tables e below (T.setTop (mkF m pc Ls st)) (T.setFrames fs))
    (hQ : Q v T.heap locs) (hC : cells ≤ C) (hS : slots ≤ S) : Goes p e below (Fin_ s Q C S) (T.setTop (mkF m pc Ls st)) := by
  obtain ⟨fs, hr, hrun, hended, hW, hsame⟩ := X.leave (v := v) hv hlk
  exact ⟨_, _, hstep fs hr, hrun, hended, _, _, rfl, hQ, ⟨_, rfl⟩, hW, hsame.mono hC hS⟩
theorem own_finV {pc : Nat} {Ls : Array Slot} (X : Stand p l e R s m args below meth c T locs cells slots) (hx : p.tables.exec = Jvm.exec) (hlk : meth.locks = false) (hret : meth.sig.returnType = none)
    (hd : decode c.code pc = .ok (.return_, 1)) (hQ : Q none T.heap locs) (hC : cells ≤ C) (hS : slots ≤ S) : Goes p e below (Fin_ s Q C S) (T.setTop (mkF m pc Ls [])) :=
  own_fin X hlk (fun _ => rfl) (fun _ hr => X.returnOut hx hret hd hr) hQ hC hS
theorem own_finI {pc : Nat} {Ls : Array Slot} {z : Int32} {rest : List Value} (X : Stand p l e R s m args below meth c T locs cells slots) (hx : p.tables.exec = Jvm.exec) (hlk : meth.locks = false) (hret : meth.sig.returnType = some .int)
    (hd : decode c.code pc = .ok (.ireturn, 1)) (hQ : Q (some (.int z)) T.heap locs) (hC : cells ≤ C) (hS : slots ≤ S) : Goes p e below (Fin_ s Q C S) (T.setTop (mkF m pc Ls (.int z :: rest))) :=
  own_fin X hlk (fun h => by rw [hret] at h; cases h) (fun _ hr => retOut X hx hret rfl (Or.inl ⟨rfl, Or.inl rfl, _, rfl⟩) hd hr) hQ hC hS
theorem own_finN {pc : Nat} {Ls : Array Slot} {z : Int32} {rest : List Value} (X : Stand p l e R s m args below meth c T locs cells slots) (hx : p.tables.exec = Jvm.exec) (hlk : meth.locks = false) {t : FieldType} (hret : meth.sig.returnType = some t)
    (ht : t = .boolean ∨ t = .byte ∨ t = .char ∨ t = .short) (hd : decode c.code pc = .ok (.ireturn, 1)) (hQ : Q (some (.int (nar t z))) T.heap locs) (hC : cells ≤ C) (hS : slots ≤ S) : Goes p e below (Fin_ s Q C S) (T.setTop (mkF m pc Ls (.int z :: rest))) :=
  own_fin X hlk (fun h => by rw [hret] at h; cases h) (fun _ hr => retN X hx hret ht hd hr) hQ hC hS
theorem own_finJ {pc : Nat} {Ls : Array Slot} {z : Int64} {rest : List Value} (X : Stand p l e R s m args below meth c T locs cells slots) (hx : p.tables.exec = Jvm.exec) (hlk : meth.locks = false) (hret : meth.sig.returnType = some .long)
    (hd : decode c.code pc = .ok (.lreturn, 1)) (hQ : Q (some (.long z)) T.heap locs) (hC : cells ≤ C) (hS : slots ≤ S) : Goes p e below (Fin_ s Q C S) (T.setTop (mkF m pc Ls (.long z :: rest))) :=
  own_fin X hlk (fun h => by rw [hret] at h; cases h) (fun _ hr => retOut X hx hret rfl (Or.inr (Or.inl ⟨rfl, rfl, _, rfl⟩)) hd hr) hQ hC hS
theorem own_finR {pc : Nat} {Ls : Array Slot} {w : Value} {rest : List Value} (X : Stand p l e R s m args below meth c T locs cells slots) (hx : p.tables.exec = Jvm.exec) (hlk : meth.locks = false) {t : FieldType} (hret : meth.sig.returnType = some t) (ht : t.isReference = true) (hw : w.isRef = true) (hn : narrow t w = w)
    (hd : decode c.code pc = .ok (.areturn, 1)) (hQ : Q (some w) T.heap locs) (hC : cells ≤ C) (hS : slots ≤ S) : Goes p e below (Fin_ s Q C S) (T.setTop (mkF m pc Ls (w :: rest))) :=
  own_fin X hlk (fun h => by rw [hret] at h; cases h) (fun _ hr => retOut X hx hret hn (Or.inr (Or.inr (Or.inr (Or.inr ⟨rfl, ht, hw⟩)))) hd hr) hQ hC hS
theorem own_sta_keep {Z : State} {h h' : Heap} {C n d : String} {v : Value} (F : Sta Z h C n d v) (K : Keep h h' []) : Sta Z h' C n d v := by
  obtain ⟨cf, i, k, f, st, cell, h1, h2, h3, h4, h5, h6⟩ := F
  exact ⟨cf, i, k, f, st, cell, h1, h2, h3, h4, K.2.1 _ _ h5 nin0, h6⟩
theorem own_mask (x : Int32) : ¬ (x &&& (2147483647 : Int32)) < (0 : Int32) := by
  intro q
  have q1 := (c_and x 2147483647 (by decide)).1
  have q2 := Int32.lt_iff_toInt_lt.mp q
  have q3 : (0 : Int32).toInt = 0 := by decide
  omega
theorem own_and255 (x : Int32) : ¬ (x &&& (255 : Int32)) < 0 ∧ ¬ (255 : Int32) < (x &&& (255 : Int32)) := by
  have q1 := c_and x 255 (by decide)
  have q3 : (0 : Int32).toInt = 0 := by decide
  have q4 : (255 : Int32).toInt = 255 := by decide
  constructor
  · intro q
    have q2 := Int32.lt_iff_toInt_lt.mp q
    omega
  · intro q
    have q2 := Int32.lt_iff_toInt_lt.mp q
    omega
theorem own_mvM {Z : State} {a0 args' : Array Value} {own host : String} {index : Nat} {y : MethodName} (hZ : Z.Warmed39 s.vm) (w : (Jvm.Cond.methodLinkNest own index y host).before a0 Z = true) : (Jvm.Cond.methodLinkNest own index y host).before args' s = true := (Jvm.Cond.methodLinkNest_wide hZ w :)
end Own
section Arrays
variable {p : Program} {l : Launch} {e : Env} {R : Room} {s : State} {m : MethodId} {args : Array Value} {below : List Frame} {meth : Method} {c : Code} {T : State} {locs : List Loc} {cells slots : Nat} {Z : State} {a0 : Array Value} {h h' : Heap} {a b : Addr} {k : ClassId} {ty : FieldType} {n : Nat} {f : Nat → Value} {ws : List Addr}
def Arw (Z : State) (h : Heap) (a : Addr) (k : ClassId) (ty : FieldType) (n : Nat) (f : Nat → Value) : Prop :=
  ∃ c : Cell, Arr Z h a c ty ∧ c.cls = k ∧ c.slots.size = n ∧ n < 2147483648 ∧ (∀ i, i < n → c.slots[i]? = some (f i)) ∧ ∀ i, i < n → fits ty (f i) = true
def own_upd (f : Nat → Value) (i : Nat) (v : Value) : Nat → Value := fun q => if q = i then v else f q
theorem own_upd_same (f : Nat → Value) (i : Nat) (v : Value) : own_upd f i v i = v := if_pos rfl
theorem own_upd_ne (f : Nat → Value) {i j : Nat} (v : Value) (q : j ≠ i) : own_upd f i v j = f j := if_neg q
theorem Arw.lt (F : Arw Z h a k ty n f) : a < h.size := by
  obtain ⟨c, A, -⟩ := F
  exact A.lt
theorem Arw.ext (F : Arw Z h a k ty n f) (E : Ext h h') : Arw Z h' a k ty n f := by
  obtain ⟨c, A, r⟩ := F
  exact ⟨c, A.ext E, r⟩
theorem Arw.other {sl : Nat} {v : Value} (F : Arw Z h b k ty n f) (W : Wr h h' a sl v) (q : b ≠ a) : Arw Z h' b k ty n f := by
  obtain ⟨c, A, r⟩ := F
  exact ⟨c, A.other W q, r⟩
theorem Arw.keep (F : Arw Z h a k ty n f) (K : Keep h h' ws) (q : a ∉ ws) : Arw Z h' a k ty n f := by
  obtain ⟨c, A, r⟩ := F
  exact ⟨c, ⟨K.2.1 _ _ A.1 q, A.2⟩, r⟩
theorem Arw.to {f' : Nat → Value} (F : Arw Z h a k ty n f) (q : ∀ i, i < n → f' i = f i) : Arw Z h a k ty n f' := by
  obtain ⟨c, A, h1, h2, h3, h4, h5⟩ := F
  exact ⟨c, A, h1, h2, h3, fun i hi => by rw [q i hi]; exact h4 i hi, fun i hi => by rw [q i hi]; exact h5 i hi⟩
theorem own_ne_arr {C : String} {kk : Nat} (F : Exa Z h a C) (wi : (Cond.instantiable C kk).before a0 Z = true) (G : Arw Z h b k ty n f) : a ≠ b := by
  obtain ⟨c, A, -⟩ := G
  exact ne_arr F wi A
theorem own_newP (X : Stand p l e R s m args below meth c T locs cells slots) (hx : p.tables.exec = Jvm.exec) (hZ : Z.Warmed39 s.vm) {aty : ArrayType} (w : (Cond.arrayClass (newarray.typeOf aty)).before a0 Z = true) (eT : T.heap = h) {g : JFrame} (hg : g.method = m)
    (hd : decode c.code g.pc = .ok (.newarray aty, 2)) {n : Int32} {rest : List Value} (hs : g.stack = .int n :: rest) {N : Nat} (hn : ¬ n < 0) (hN : n.toNatClampNeg = N) {cap : Nat} (hcap : N ≤ cap) (hb : cap * 8 ≤ 536870912) (hc : cells + 1 ≤ R.cells) (hl : slots + cap ≤ R.slots) :
    ∃ T' h' cA, Stand p l e R s m args below meth c T' locs (cells + 1) (slots + cap) ∧ T'.heap = h' ∧ Ext h h' ∧ Arw Z h' h.size cA (newarray.typeOf aty) N (fun _ => defaultValue (newarray.typeOf aty)) ∧
      ∀ target, Steps p.tables e below (T'.setTop { g with pc := g.pc + 2, stack := .ref h.size :: rest }) target → Steps p.tables e below (T.setTop g) target := by
  obtain ⟨T', h', cA, X', e', E', A', st⟩ := newP X hx hZ w eT hg hd hs hn (cap := cap) (by omega) hb hc hl
  refine ⟨T', h', cA, X', e', E', ⟨_, A', rfl, (sz_new _ _ _).trans hN, by omega, fun i hi => ?_, fun i hi => ?_⟩, st⟩
  · subst hN
    simp [newA, hi]
  · cases aty <;> rfl
theorem own_alen (X : Stand p l e R s m args below meth c T locs cells slots) (hx : p.tables.exec = Jvm.exec) (hZ : Z.Warmed39 s.vm) (eT : T.heap = h) (A : Arw Z h a k ty n f) {g : JFrame} (hg : g.method = m) {rest : List Value} (hs : g.stack = .ref a :: rest) (hd : decode c.code g.pc = .ok (.arraylength, 1)) :
    ∀ target, Steps p.tables e below (T.setTop { g with pc := g.pc + 1, stack := .int n.toInt32 :: rest }) target → Steps p.tables e below (T.setTop g) target := by
  obtain ⟨c, A, h1, h2, h3, h4, h5⟩ := A
  intro target kk
  refine X.arraylength hx (by rw [eT]; exact A.1) (State.isArrayOf_alike hZ.alike A.2.1) hg hs hd target ?_
  rw [h2]
  exact kk
theorem own_in {cl : Cell} {j : Int32} {i : Nat} (h2 : cl.slots.size = n) (hj : ¬ j < 0) (hji : j.toNatClampNeg = i) (hi : i < n) : ¬ (j < 0 ∨ cl.slots.size ≤ j.toNatClampNeg) := by
  rintro (q | q)
  · exact hj q
  · omega
theorem own_iaload (X : Stand p l e R s m args below meth c T locs cells slots) (hx : p.tables.exec = Jvm.exec) (hZ : Z.Warmed39 s.vm) (eT : T.heap = h) (A : Arw Z h a k .int n f) {j : Int32} {i : Nat} (hj : ¬ j < 0) (hji : j.toNatClampNeg = i) (hi : i < n) {v : Int32} (hv : f i = .int v)
    {g : JFrame} (hg : g.method = m) {rest : List Value} (hs : g.stack = .int j :: .ref a :: rest) (hd : decode c.code g.pc = .ok (.iaload, 1)) :
    ∀ target, Steps p.tables e below (T.setTop { g with pc := g.pc + 1, stack := .int v :: rest }) target → Steps p.tables e below (T.setTop g) target := by
  obtain ⟨cl, A, h1, h2, h3, h4, h5⟩ := A
  intro target kk
  exact X.iaload hx (by rw [eT]; exact A.1) (State.isArrayOf_alike hZ.alike A.2.1) A.2.2 (own_in h2 hj hji hi) (by rw [hji, h4 i hi, hv]) hg hs hd target kk
theorem own_laload (X : Stand p l e R s m args below meth c T locs cells slots) (hx : p.tables.exec = Jvm.exec) (hZ : Z.Warmed39 s.vm) (eT : T.heap = h) (A : Arw Z h a k .long n f) {j : Int32} {i : Nat} (hj : ¬ j < 0) (hji : j.toNatClampNeg = i) (hi : i < n) {v : Int64} (hv : f i = .long v)
    {g : JFrame} (hg : g.method = m) {rest : List Value} (hs : g.stack = .int j :: .ref a :: rest) (hd : decode c.code g.pc = .ok (.laload, 1)) :
    ∀ target, Steps p.tables e below (T.setTop { g with pc := g.pc + 1, stack := .long v :: rest }) target → Steps p.tables e below (T.setTop g) target := by
  obtain ⟨cl, A, h1, h2, h3, h4, h5⟩ := A
  intro target kk
  exact X.laload hx (by rw [eT]; exact A.1) (State.isArrayOf_alike hZ.alike A.2.1) A.2.2 (own_in h2 hj hji hi) (by rw [hji, h4 i hi, hv]) hg hs hd target kk
theorem own_aaload (X : Stand p l e R s m args below meth c T locs cells slots) (hx : p.tables.exec = Jvm.exec) (hZ : Z.Warmed39 s.vm) (eT : T.heap = h) (A : Arw Z h a k ty n f) (hty : ty.isReference = true) {j : Int32} {i : Nat} (hj : ¬ j < 0) (hji : j.toNatClampNeg = i) (hi : i < n) {v : Value} (hv : f i = v)
    {g : JFrame} (hg : g.method = m) {rest : List Value} (hs : g.stack = .int j :: .ref a :: rest) (hd : decode c.code g.pc = .ok (.aaload, 1)) :
    ∀ target, Steps p.tables e below (T.setTop { g with pc := g.pc + 1, stack := v :: rest }) target → Steps p.tables e below (T.setTop g) target := by
  obtain ⟨cl, A, h1, h2, h3, h4, h5⟩ := A
  intro target kk
  exact X.aaload hx (by rw [eT]; exact A.1) (State.isArrayOf_alike hZ.alike A.2.1) hty A.2.2 (own_in h2 hj hji hi) (by rw [hji, h4 i hi, hv]) hg hs hd target kk
theorem own_ix {j : Int32} {i : Nat} (h : j.toInt = i) : ¬ j < 0 ∧ j.toNatClampNeg = i := by
  constructor
  · intro q
    have q1 := Int32.lt_iff_toInt_lt.mp q
    have q3 : (0 : Int32).toInt = 0 := by decide
    omega
  · show j.toInt.toNat = i
    omega
theorem own_lti {x y : Int32} : x < y ↔ x.toInt < y.toInt := Int32.lt_iff_toInt_lt
theorem Arw.ofArv {z : Int32} {vs : List Value} {dv : Value} (F : Arv Z h a k ty z vs dv) (hn : z.toNatClampNeg = n) (q : ∀ i, i < n → vs.getD i dv = f i) : Arw Z h a k ty n f := by
  obtain ⟨c, A, h1, h2, h3, h4, h5⟩ := F
  have hb := (back32 h3).2
  refine ⟨c, A, h1, h2.trans hn, by omega, fun i hi => ?_, fun i hi => ?_⟩
  · rw [h4 i (by omega), q i hi]
  · rw [← q i hi]
    exact h5 i (by omega)
theorem own_set {cl : Cell} {j : Int32} {i : Nat} {v : Value} (A : Arr Z h a cl ty) (h1 : cl.cls = k) (h2 : cl.slots.size = n) (h3 : n < 2147483648) (h4 : ∀ i, i < n → cl.slots[i]? = some (f i)) (h5 : ∀ i, i < n → fits ty (f i) = true) (hv : fits ty v = true) (W : Wr h h' a j.toNatClampNeg v) (hji : j.toNatClampNeg = i) (hi : i < n) :
    Arw Z h' a k ty n (own_upd f i v) := by
  subst hji
  refine ⟨_, A.same W, h1, by rw [sz_set]; exact h2, h3, fun q hq => ?_, fun q hq => ?_⟩
  · by_cases e : q = j.toNatClampNeg
    · subst e
      rw [own_upd_same]
      simp [Cell.setSlot, h2, hq]
    · rw [own_upd_ne _ _ e, ← h4 q hq]
      simp [Cell.setSlot, Array.getElem?_setIfInBounds, Ne.symm e]
  · by_cases e : q = j.toNatClampNeg
    · subst e
      rw [own_upd_same]
      exact hv
    · rw [own_upd_ne _ _ e]
      exact h5 q hq
theorem own_iastore (X : Stand p l e R s m args below meth c T locs cells slots) (hx : p.tables.exec = Jvm.exec) (hZ : Z.Warmed39 s.vm) (eT : T.heap = h) (A : Arw Z h a k .int n f) {j : Int32} {i : Nat} (hj : ¬ j < 0) (hji : j.toNatClampNeg = i) (hi : i < n)
    {g : JFrame} (hg : g.method = m) {x : Int32} {rest : List Value} (hs : g.stack = .int x :: .int j :: .ref a :: rest) (hd : decode c.code g.pc = .ok (.iastore, 1)) :
    ∃ T' h', Stand p l e R s m args below meth c T' (locs ++ [⟨a, j.toNatClampNeg⟩]) cells slots ∧ T'.heap = h' ∧ Wr h h' a j.toNatClampNeg (.int x) ∧ Arw Z h' a k .int n (own_upd f i (.int x)) ∧
      ∀ target, Steps p.tables e below (T'.setTop { g with pc := g.pc + 1, stack := rest }) target → Steps p.tables e below (T.setTop g) target := by
  obtain ⟨cl, A, h1, h2, h3, h4, h5⟩ := A
  obtain ⟨T', h', X', e', W, st⟩ := stI X hx hZ eT A (j := j) (own_in h2 hj hji hi) hg hs hd
  exact ⟨T', h', X', e', W, own_set A h1 h2 h3 h4 h5 rfl W hji hi, st⟩
theorem own_lastore (X : Stand p l e R s m args below meth c T locs cells slots) (hx : p.tables.exec = Jvm.exec) (hZ : Z.Warmed39 s.vm) (eT : T.heap = h) (A : Arw Z h a k .long n f) {j : Int32} {i : Nat} (hj : ¬ j < 0) (hji : j.toNatClampNeg = i) (hi : i < n)
    {g : JFrame} (hg : g.method = m) {x : Int64} {rest : List Value} (hs : g.stack = .long x :: .int j :: .ref a :: rest) (hd : decode c.code g.pc = .ok (.lastore, 1)) :
    ∃ T' h', Stand p l e R s m args below meth c T' (locs ++ [⟨a, j.toNatClampNeg⟩]) cells slots ∧ T'.heap = h' ∧ Wr h h' a j.toNatClampNeg (.long x) ∧ Arw Z h' a k .long n (own_upd f i (.long x)) ∧
      ∀ target, Steps p.tables e below (T'.setTop { g with pc := g.pc + 1, stack := rest }) target → Steps p.tables e below (T.setTop g) target := by
  obtain ⟨cl, A, h1, h2, h3, h4, h5⟩ := A
  obtain ⟨T', h', X', e', W, st⟩ := stJ X hx hZ eT A (j := j) (own_in h2 hj hji hi) hg hs hd
  exact ⟨T', h', X', e', W, own_set A h1 h2 h3 h4 h5 rfl W hji hi, st⟩
theorem own_castore (X : Stand p l e R s m args below meth c T locs cells slots) (hx : p.tables.exec = Jvm.exec) (hZ : Z.Warmed39 s.vm) (eT : T.heap = h) (A : Arw Z h a k .char n f) {j : Int32} {i : Nat} (hj : ¬ j < 0) (hji : j.toNatClampNeg = i) (hi : i < n)
    {g : JFrame} (hg : g.method = m) {x : Int32} {rest : List Value} (hs : g.stack = .int x :: .int j :: .ref a :: rest) (hd : decode c.code g.pc = .ok (.castore, 1)) :
    ∃ T' h', Stand p l e R s m args below meth c T' (locs ++ [⟨a, j.toNatClampNeg⟩]) cells slots ∧ T'.heap = h' ∧ Wr h h' a j.toNatClampNeg (.int (nar .char x)) ∧ Arw Z h' a k .char n (own_upd f i (.int (nar .char x))) ∧
      ∀ target, Steps p.tables e below (T'.setTop { g with pc := g.pc + 1, stack := rest }) target → Steps p.tables e below (T.setTop g) target := by
  obtain ⟨cl, A, h1, h2, h3, h4, h5⟩ := A
  obtain ⟨T', h', X', e', W, st⟩ := stC X hx hZ eT A (j := j) (own_in h2 hj hji hi) hg hs hd
  exact ⟨T', h', X', e', W, own_set A h1 h2 h3 h4 h5 (fits_nar_char _) W hji hi, st⟩
theorem own_caload (X : Stand p l e R s m args below meth c T locs cells slots) (hx : p.tables.exec = Jvm.exec) (hZ : Z.Warmed39 s.vm) (eT : T.heap = h) (A : Arw Z h a k .char n f) {j : Int32} {i : Nat} (hj : ¬ j < 0) (hji : j.toNatClampNeg = i) (hi : i < n) {v : Int32} (hv : f i = .int v)
    {g : JFrame} (hg : g.method = m) {rest : List Value} (hs : g.stack = .int j :: .ref a :: rest) (hd : decode c.code g.pc = .ok (.caload, 1)) :
    ∀ target, Steps p.tables e below (T.setTop { g with pc := g.pc + 1, stack := .int v :: rest }) target → Steps p.tables e below (T.setTop g) target := by
  obtain ⟨cl, A, h1, h2, h3, h4, h5⟩ := A
  intro target kk
  exact X.caload hx (by rw [eT]; exact A.1) (State.isArrayOf_alike hZ.alike A.2.1) A.2.2 (own_in h2 hj hji hi) (by rw [hji, h4 i hi, hv]) hg hs hd target kk
theorem own_baload (X : Stand p l e R s m args below meth c T locs cells slots) (hx : p.tables.exec = Jvm.exec) (hZ : Z.Warmed39 s.vm) (eT : T.heap = h) (A : Arw Z h a k .byte n f) {j : Int32} {i : Nat} (hj : ¬ j < 0) (hji : j.toNatClampNeg = i) (hi : i < n) {v : Int32} (hv : f i = .int v)
    {g : JFrame} (hg : g.method = m) {rest : List Value} (hs : g.stack = .int j :: .ref a :: rest) (hd : decode c.code g.pc = .ok (.baload, 1)) :
    ∀ target, Steps p.tables e below (T.setTop { g with pc := g.pc + 1, stack := .int v :: rest }) target → Steps p.tables e below (T.setTop g) target := by
  obtain ⟨cl, A, h1, h2, h3, h4, h5⟩ := A
  intro target kk
  exact X.baloadBytes hx (by rw [eT]; exact A.1) (State.isArrayOf_alike hZ.alike A.2.1) A.2.2 (own_in h2 hj hji hi) (by rw [hji, h4 i hi, hv]) hg hs hd target kk
theorem Arw.toArv {vs : List Value} {dv : Value} {z : Int32} (F : Arw Z h a k ty n f) (hz : z.toInt = (n : Int)) (q : ∀ i, i < n → vs.getD i dv = f i) : Arv Z h a k ty z vs dv := by
  obtain ⟨c, A, h1, h2, h3, h4, h5⟩ := F
  obtain ⟨z0, zn⟩ := own_ix hz
  exact ⟨c, A, h1, h2.trans zn.symm, z0, fun i hi => by rw [h4 i (by omega), q i (by omega)], fun i hi => by rw [q i (by omega)]; exact h5 i (by omega)⟩
end Arrays
section Wide
variable {p : Program} {l : Launch} {e : Env} {R : Room} {s : State} {m : MethodId} {args : Array Value} {below : List Frame} {meth : Method} {c : Code} {T : State} {locs : List Loc} {cells slots : Nat} {Q : Option Value → Heap → List Loc → Prop} {K : State → Prop} {C S : Nat} {Z : State} {a0 : Array Value} {h h' : Heap} {vm1 : Vm} {n1 : Nat}
def Fin_W (s : State) (Q : Option Value → Heap → List Loc → Prop) (K : State → Prop) (C S : Nat) (o : Outcome) (U' : State) : Prop :=
  ∃ v L, o = .returned v ∧ Q v U'.heap L ∧ K U' ∧ ReturnedEndW s o U' L C S
theorem own_wfin {pc : Nat} {Ls : Array Slot} {st : List Value} (X : Stand p l e R (s.setVm vm1) m args below meth c T locs cells slots) (hSi : s.Since vm1 n1) (hn1 : n1 ≤ T.heap.size) (hlk : meth.locks = false) {v : Option Value} (hv : meth.sig.returnType = none → v = none)
    (hstep : ∀ fs, (∀ (f : JFrame) (acts : List Action), f.method = m → f.locked = none → f.entered = [] → (doReturn e (T.setTop f) acts v).1 = T.setFrames fs) → Steps p.tables e below (T.setTop (mkF m pc Ls st)) (T.setFrames fs))
    (hK : ∀ U : State, U.vm = T.vm → U.heap = T.heap → K U) (hQ : Q v T.heap locs) (hC : cells ≤ C) (hS : slots ≤ S) : Goes p e below (Fin_W s Q K C S) (T.setTop (mkF m pc Ls st)) := by
  obtain ⟨fs, hr, hrun, hended, hW, h1, h2, hsame⟩ := X.leaveW hSi hn1 (v := v) hv hlk
  exact ⟨_, _, hstep fs hr, hrun, hended, _, _, rfl, hQ, hK _ rfl rfl, hW, h1, h2, hsame.mono hC hS⟩
theorem own_wfinV {pc : Nat} {Ls : Array Slot} (X : Stand p l e R (s.setVm vm1) m args below meth c T locs cells slots) (hSi : s.Since vm1 n1) (hn1 : n1 ≤ T.heap.size) (hK : ∀ U : State, U.vm = T.vm → U.heap = T.heap → K U) (hx : p.tables.exec = Jvm.exec) (hlk : meth.locks = false) (hret : meth.sig.returnType = none)
    (hd : decode c.code pc = .ok (.return_, 1)) (hQ : Q none T.heap locs) (hC : cells ≤ C) (hS : slots ≤ S) : Goes p e below (Fin_W s Q K C S) (T.setTop (mkF m pc Ls [])) :=
  own_wfin X hSi hn1 hlk (fun _ => rfl) (fun _ hr => X.returnOut hx hret hd hr) hK hQ hC hS
theorem own_wfinI {pc : Nat} {Ls : Array Slot} {z : Int32} {rest : List Value} (X : Stand p l e R (s.setVm vm1) m args below meth c T locs cells slots) (hSi : s.Since vm1 n1) (hn1 : n1 ≤ T.heap.size) (hK : ∀ U : State, U.vm = T.vm → U.heap = T.heap → K U) (hx : p.tables.exec = Jvm.exec) (hlk : meth.locks = false) (hret : meth.sig.returnType = some .int)
    (hd : decode c.code pc = .ok (.ireturn, 1)) (hQ : Q (some (.int z)) T.heap locs) (hC : cells ≤ C) (hS : slots ≤ S) : Goes p e below (Fin_W s Q K C S) (T.setTop (mkF m pc Ls (.int z :: rest))) :=
  own_wfin X hSi hn1 hlk (fun h => by rw [hret] at h; cases h) (fun _ hr => retOut X hx hret rfl (Or.inl ⟨rfl, Or.inl rfl, _, rfl⟩) hd hr) hK hQ hC hS
theorem own_wfinN {pc : Nat} {Ls : Array Slot} {z : Int32} {rest : List Value} (X : Stand p l e R (s.setVm vm1) m args below meth c T locs cells slots) (hSi : s.Since vm1 n1) (hn1 : n1 ≤ T.heap.size) (hK : ∀ U : State, U.vm = T.vm → U.heap = T.heap → K U) (hx : p.tables.exec = Jvm.exec) (hlk : meth.locks = false) {t : FieldType} (hret : meth.sig.returnType = some t)
    (ht : t = .boolean ∨ t = .byte ∨ t = .char ∨ t = .short) (hd : decode c.code pc = .ok (.ireturn, 1)) (hQ : Q (some (.int (nar t z))) T.heap locs) (hC : cells ≤ C) (hS : slots ≤ S) : Goes p e below (Fin_W s Q K C S) (T.setTop (mkF m pc Ls (.int z :: rest))) :=
  own_wfin X hSi hn1 hlk (fun h => by rw [hret] at h; cases h) (fun _ hr => retN X hx hret ht hd hr) hK hQ hC hS
theorem own_wfinR {pc : Nat} {Ls : Array Slot} {w : Value} {rest : List Value} (X : Stand p l e R (s.setVm vm1) m args below meth c T locs cells slots) (hSi : s.Since vm1 n1) (hn1 : n1 ≤ T.heap.size) (hK : ∀ U : State, U.vm = T.vm → U.heap = T.heap → K U) (hx : p.tables.exec = Jvm.exec) (hlk : meth.locks = false) {t : FieldType} (hret : meth.sig.returnType = some t) (ht : t.isReference = true) (hw : w.isRef = true) (hn : narrow t w = w)
    (hd : decode c.code pc = .ok (.areturn, 1)) (hQ : Q (some w) T.heap locs) (hC : cells ≤ C) (hS : slots ≤ S) : Goes p e below (Fin_W s Q K C S) (T.setTop (mkF m pc Ls (w :: rest))) :=
  own_wfin X hSi hn1 hlk (fun h => by rw [hret] at h; cases h) (fun _ hr => retOut X hx hret hn (Or.inr (Or.inr (Or.inr (Or.inr ⟨rfl, ht, hw⟩)))) hd hr) hK hQ hC hS
/-- a callee that may intern, by its contract -/
def BackW (l : Launch) (R : Room) (p : Program) (e : Env) (below : List Frame) (s : State) (sargs : Array Value) (y : MethodName) (len W : Nat)
    (Pre : Pt → Array Value → Prop) (Post : Pt → Array Value → Option Value → Pt → Prop) : Prop :=
  ∀ (m : MethodId) (meth : Method) (c : Code) (A : Pt) (g : JFrame) (ig : Instr) (mk : MethodId) (a : Array Value),
    Stand p l e R s m sargs below meth c A.U A.locs A.cells A.slots → g.method = m → g.locals.size = c.maxLocals → decode c.code g.pc = .ok (ig, len) →
    2 * g.monitorRoom + (g.stack.map fun v => v.category).sum ≤ W → A.U.methodNamed? y = some mk → Pre A a →
    ∃ (v : Option Value) (B : Pt), Stand p l e R (s.setVm B.U.vm) m sargs below meth c B.U B.locs B.cells B.slots ∧ s.Since B.U.vm B.U.heap.size ∧ Post A a v B ∧
      Steps p.tables e below (doInvoke e (A.U.setTop g) [] mk a).1 (B.U.setTop { g with pc := g.pc + len, stack := v.toList ++ g.stack })
theorem own_backOfW {y : MethodName} {bytes : ByteArray} {maxL : Nat} {ret : Option FieldType} {rm : Room} {len W : Nat} {as' : Array Value} {KP : State → Prop}
    (hM : MetFree l y (head1 [Cond.code y bytes maxL ret] rm) (fun a U => a = as' ∧ Z.Warmed39 U.vm ∧ U.heap = h ∧ KP U) (fun _ _ _ _ _ => True) (fun _ U o U' => ∃ v L, o = .returned v ∧ Q v U'.heap L ∧ K U' ∧ ReturnedEndW U o U' L rm.cells rm.slots))
    (hZ : Z.Warmed39 s.vm) (wc : (Cond.code y bytes maxL ret).before a0 Z = true) (wz : (Cond.initialized y.cls).before a0 Z = true) (hf : rm.frames + 1 ≤ R.frames) (hl : W + (maxL + 11) + rm.locals ≤ R.locals)
    (hKP : ∀ V : State, s.WarmedH V.vm → V.heap = h → KP V) :
    BackW l R p e below s args y len W (fun A a => a = as' ∧ A.U.heap = h ∧ A.cells + rm.cells ≤ R.cells ∧ A.slots + rm.slots ≤ R.slots)
      (fun A _ v B => ∃ L, (Q v B.U.heap L ∧ ∃ t : State, K t ∧ t.vm = B.U.vm ∧ t.heap = B.U.heap) ∧ B.locs = A.locs ++ L ∧ B.cells = A.cells + rm.cells ∧ B.slots = A.slots + rm.slots) := by
  intro m meth c A g ig mk a X hg hsize hdg hW hn hp
  obtain ⟨U, Ls, c0, s0⟩ := A
  dsimp only [Pt.U, Pt.locs, Pt.cells, Pt.slots] at X hn hp ⊢
  obtain ⟨rfl, hheap, hcl, hsl⟩ := hp
  have hU : Z.Warmed39 U.vm := wtrans hZ X.warmed
  have h1 : (head1 [Cond.code y bytes maxL ret] rm).pre.before a U = true := by show (Cond.and _ .tt).before a U = true; rw [Cond.before_and, mv hU wc]; rfl
  have h2 : (Cond.code y bytes maxL ret).before a U = true := mv hU wc
  have h3 : (Cond.initialized y.cls).before a U = true := mv hU wz
  obtain ⟨methY, cY, hmY, hcY, -, hlY, -, -, -, -⟩ := Cond.code_spec hn h2
  obtain ⟨kY, hkY, -⟩ := className_of_methodNamed hn
  have hinitY : kY.init = .initialized := Cond.initialized_spec (findClass_of_methodNamed hn) hkY h3
  have hAt : At U g.method c below := by rw [hg]; exact X.here
  have happ : (head1 [Cond.code y bytes maxL ret] rm).appliesLoose y e.platform (U.calling g mk a) = true :=
    Spec.appliesLoose_calling (g := g) hAt hdg hn hkY hinitY (X.room_calling (g := g) (R' := rm) hsize hmY hcY hf (by rw [hlY]; omega) hcl hsl) h1
  obtain ⟨mid, hmid⟩ := hAt.above
  have hfr : (U.setTop g).frames = (.java g :: mid) ++ below := by rw [State.frames_setTop' g hAt.top, hmid]; rfl
  obtain ⟨o, s₂, hsteps, -, hend, v, L, rfl, hq, hk, hfe⟩ := Steps.callFree hM p X.admits X.cas X.clock (acts := []) hfr happ ⟨rfl, hU, hheap, hKP _ X.warmed hheap⟩ trivial
  rw [State.frames_setTop' g hAt.top] at hend
  have hfe' : ReturnedEndW (U.calling g mk a) (.returned v) s₂ L rm.cells rm.slots := hfe
  obtain ⟨-, hW₂, hB₂, e2, q2, q3, q4, q5, q6⟩ := id hfe'
  have hW' : U.Warmed39 s₂.vm := hW₂
  have hB' : U.Booked s₂.vm s₂.heap.size := hB₂
  have e3 : s₂ = ({ (U.calling g mk a).setFrames s₂.frames with heap := s₂.heap, slotsUsed := s₂.slotsUsed } : State).setVm s₂.vm := by
    have : s₂ = ({ s₂ with vm := (U.calling g mk a).vm } : State).setVm s₂.vm := rfl
    rw [e2] at this
    exact this
  obtain ⟨c₂, i₂, len₂, hc₂, hd₂, hf₂⟩ := hend
  have hcc : c₂ = c := by
    have h1 : s₂.code? g.method = U.code? g.method := by rw [State.code?_eq, State.code?_eq, hW'.alike.method?]
    exact Option.some.inj (hc₂.symm.trans (h1.trans hAt.code))
  subst hcc
  have hlen : len₂ = len := by rw [hdg] at hd₂; cases hd₂; rfl
  subst hlen
  obtain ⟨g₀, hg0⟩ := Option.isSome_iff_exists.mp hAt.top
  obtain ⟨r, hr⟩ := State.topJava?_eq_some.mp hg0
  have hs₂ : s₂ = (({ U with heap := s₂.heap, slotsUsed := s₂.slotsUsed } : State).setVm s₂.vm).setTop { g with pc := g.pc + len₂, stack := v.toList ++ g.stack } := by
    have hr' : (({ U with heap := s₂.heap, slotsUsed := s₂.slotsUsed } : State).setVm s₂.vm).frames = .java g₀ :: r := hr
    refine e3.trans ?_
    rw [hf₂, State.calling_eq hAt.top, State.setFrames_setFrames, State.setTop_of_frames _ hr', hr]
    rfl
  have hsame : U.sameButNew ({ U with heap := s₂.heap, slotsUsed := s₂.slotsUsed } : State) L rm.cells rm.slots := by
    refine ⟨?_, q2, q3, q4, q5, q6⟩
    obtain ⟨t, ht, -⟩ := State.frames_cons hr
    show ({ U with heap := s₂.heap, slotsUsed := s₂.slotsUsed } : State) = { U.setFrames U.frames with heap := s₂.heap, slotsUsed := s₂.slotsUsed }
    rw [State.setFrames_self ht]
  subst hg
  obtain ⟨X', hSi⟩ := X.movedW (T₂ := (({ U with heap := s₂.heap, slotsUsed := s₂.slotsUsed } : State).setVm s₂.vm)) ((X.here.setHeapUsed s₂.heap s₂.slotsUsed).setVm hW'.alike) X.tail rfl rfl hW' hB' hsame
  refine ⟨v, ⟨(({ U with heap := s₂.heap, slotsUsed := s₂.slotsUsed } : State).setVm s₂.vm), Ls ++ L, c0 + rm.cells, s0 + rm.slots⟩, X', hSi, ⟨L, ⟨hq, s₂, hk, rfl, rfl⟩, rfl, rfl, rfl⟩, ?_⟩
  show Steps p.tables e below _ ((({ U with heap := s₂.heap, slotsUsed := s₂.slotsUsed } : State).setVm s₂.vm).setTop { g with pc := g.pc + len₂, stack := v.toList ++ g.stack })
  rw [← hs₂]
  exact hsteps
theorem own_callSW (X : Stand p l e R s m args below meth c T locs cells slots) (hexec : p.tables.exec = Jvm.exec) {own : String} {index : Nat} {y : MethodName} {bytes : ByteArray} {maxL : Nat} {ret : Option FieldType}
    (hown : s.vm.findClass own = some m.cls) (hlink : (Cond.methodLink own index y).before args s = true) (hstat : (Cond.static y).before args s = true) (hinit : (Cond.initialized y.cls).before args s = true)
    (hcode : (Cond.code y bytes maxL ret).before args s = true) (hy : y.cls ≠ "java/lang/invoke/MethodHandle" ∧ y.cls ≠ "java/lang/invoke/VarHandle")
    {W : Nat} {Pre : Pt → Array Value → Prop} {Post : Pt → Array Value → Option Value → Pt → Prop} (hK : BackW l R p e below s args y 3 W Pre Post)
    {g : JFrame} (hg : g.method = m) (hsize : g.locals.size = c.maxLocals) {argsL rest : List Value} (hlen : ∀ sig, parseMethodDescriptor y.desc = some sig → argsL.length = sig.parameters.length)
    (hstack : g.stack = argsL.reverse ++ rest) (hW : 2 * g.monitorRoom + (rest.map fun v => v.category).sum ≤ W) (hdg : decode c.code g.pc = .ok (.invokestatic index, 3))
    (hpre : ∀ vm₁, s.WarmedH vm₁ → Pre ⟨T.setVm vm₁, locs, cells, slots⟩ argsL.toArray) :
    ∃ (v : Option Value) (vm₁ : Vm) (B : Pt), s.WarmedH vm₁ ∧ (Stand p l e R (s.setVm B.U.vm) m args below meth c B.U B.locs B.cells B.slots ∧ s.Since B.U.vm B.U.heap.size) ∧ Post ⟨T.setVm vm₁, locs, cells, slots⟩ argsL.toArray v B ∧
      ∀ target, Steps p.tables e below (B.U.setTop { g with pc := g.pc + 3, stack := v.toList ++ rest }) target → Steps p.tables e below (T.setTop g) target := by
  obtain ⟨mk, hnamed⟩ := Cond.code_named hcode
  obtain ⟨methM, cM, hmethM, -, -, -, -, -, -, hsigM⟩ := Cond.code_spec hnamed hcode
  have hstatic : methM.isStatic = true := Cond.static_spec hnamed hmethM hstat
  obtain ⟨kP, hkP, -⟩ := className_of_methodNamed hnamed
  have hinitP : kP.init = .initialized := Cond.initialized_spec (findClass_of_methodNamed hnamed) hkP hinit
  obtain ⟨vm₁, X₁, hstep₁⟩ := X.invokestatic hexec hown hlink hnamed hmethM hstatic hkP hinitP hy (g := g) hg (argsL := argsL) (rest := rest) (hlen _ hsigM) hstack hdg
  obtain ⟨v, B, X', hSi, hpost, hsteps⟩ := hK m meth c ⟨T.setVm vm₁, locs, cells, slots⟩ { g with stack := rest } (.invokestatic index) mk argsL.toArray X₁ hg hsize hdg hW (X₁.named hnamed) (hpre vm₁ X₁.warmed)
  exact ⟨v, vm₁, B, X₁.warmed, ⟨X', hSi⟩, hpost, fun target hh => hstep₁ _ fun acts => by rw [doInvoke_state]; exact hsteps.trans hh⟩
theorem own_specialW (X : Stand p l e R s m args below meth c T locs cells slots) (hexec : p.tables.exec = Jvm.exec) {own : String} {index : Nat} {y : MethodName} (hy1 : y.name = "<init>")
    (hown : s.vm.findClass own = some m.cls) (hlink : (Cond.methodLink own index y).before args s = true) (hinst : (Cond.instanceMethod y).before args s = true)
    {bytes : ByteArray} {maxL : Nat} (hcode : (Cond.code y bytes maxL none).before args s = true) (hy : y.cls ≠ "java/lang/invoke/MethodHandle" ∧ y.cls ≠ "java/lang/invoke/VarHandle")
    {W : Nat} {Pre : Pt → Array Value → Prop} {Post : Pt → Array Value → Option Value → Pt → Prop} (hK : BackW l R p e below s args y 3 W Pre Post)
    {g : JFrame} (hg : g.method = m) (hsize : g.locals.size = c.maxLocals) {a : Addr} {argsL rest : List Value}
    (hlen : ∀ sig, parseMethodDescriptor y.desc = some sig → argsL.length = sig.parameters.length) (hstack : g.stack = argsL.reverse ++ .ref a :: rest) (hW : 2 * g.monitorRoom + (rest.map fun v => v.category).sum ≤ W)
    (hdg : decode c.code g.pc = .ok (.invokespecial index, 3)) (hpre : ∀ vm₁, s.WarmedH vm₁ → Pre ⟨T.setVm vm₁, locs, cells, slots⟩ (.ref a :: argsL).toArray) :
    ∃ (v : Option Value) (vm₁ : Vm) (B : Pt), s.WarmedH vm₁ ∧ (Stand p l e R (s.setVm B.U.vm) m args below meth c B.U B.locs B.cells B.slots ∧ s.Since B.U.vm B.U.heap.size) ∧ Post ⟨T.setVm vm₁, locs, cells, slots⟩ (.ref a :: argsL).toArray v B ∧
      ∀ target, Steps p.tables e below (B.U.setTop { g with pc := g.pc + 3, stack := v.toList ++ rest }) target → Steps p.tables e below (T.setTop g) target := by
  have hpl : e.platform.magicAccessors = ({} : Platform).magicAccessors := by rw [X.admits.platform]
  obtain ⟨mk, methM, cM, kP, vm₁, hnamed, hmethM, -, -, -, -, hkP, -, hW₁, hstep₁⟩ :=
    Steps.initColdArgs (e := e) X.here hexec X.warmed hpl hown hy1 hy hlink hinst hcode (f := g) hg hlen hstack hdg
  have X₁ := X.noted hW₁
  obtain ⟨v, B, X', hSi, hpost, hsteps⟩ := hK m meth c ⟨T.setVm vm₁, locs, cells, slots⟩ { g with stack := rest } (.invokespecial index) mk (.ref a :: argsL).toArray X₁ hg hsize hdg hW (X₁.named hnamed) (hpre vm₁ hW₁)
  exact ⟨v, vm₁, B, hW₁, ⟨X', hSi⟩, hpost, fun target hh => (hstep₁ _ fun acts => by rw [doInvoke_state]; exact Steps.refl _).trans (hsteps.trans hh)⟩
theorem own_virtualW (X : Stand p l e R s m args below meth c T locs cells slots) (hexec : p.tables.exec = Jvm.exec) {own C : String} {index : Nat} {y z : MethodName}
    (hown : s.vm.findClass own = some m.cls) (hlink : (Cond.methodLink own index y).before args s = true) (hdecl : (Cond.declares y).before args s = true) (hnf : NotFace s y)
    (hsel : (Cond.selects C y z).before args s = true) (hinst : (Cond.instanceMethod z).before args s = true)
    (hy : y.cls ≠ "java/lang/invoke/MethodHandle" ∧ y.cls ≠ "java/lang/invoke/VarHandle")
    {W : Nat} {Pre : Pt → Array Value → Prop} {Post : Pt → Array Value → Option Value → Pt → Prop} (hK : BackW l R p e below s args z 3 W Pre Post)
    {b : Addr} {cB : ClassId} (hcB : s.vm.findClass C = some cB) (hrecv : IsOf cB T b)
    {g : JFrame} (hg : g.method = m) (hsize : g.locals.size = c.maxLocals) {argsL rest : List Value}
    (hlen : ∀ sig, parseMethodDescriptor y.desc = some sig → argsL.length = sig.parameters.length) (hstack : g.stack = argsL.reverse ++ .ref b :: rest) (hW : 2 * g.monitorRoom + (rest.map fun v => v.category).sum ≤ W)
    (hdg : decode c.code g.pc = .ok (.invokevirtual index, 3)) (hpre : ∀ vm₁, s.WarmedH vm₁ → Pre ⟨T.setVm vm₁, locs, cells, slots⟩ (.ref b :: argsL).toArray) :
    ∃ (v : Option Value) (vm₁ : Vm) (B : Pt), s.WarmedH vm₁ ∧ (Stand p l e R (s.setVm B.U.vm) m args below meth c B.U B.locs B.cells B.slots ∧ s.Since B.U.vm B.U.heap.size) ∧ Post ⟨T.setVm vm₁, locs, cells, slots⟩ (.ref b :: argsL).toArray v B ∧
      ∀ target, Steps p.tables e below (B.U.setTop { g with pc := g.pc + 3, stack := v.toList ++ rest }) target → Steps p.tables e below (T.setTop g) target := by
  obtain ⟨cellB, hcellT, hclsB, hstatB⟩ := hrecv
  obtain ⟨r0, r, hn, hrm, hstR, hsigR⟩ := Cond.declares_spec hdecl
  obtain ⟨mk, methM, hnamed, hmethM, -, habM⟩ := Cond.instanceMethod_spec hinst
  obtain ⟨c2, r2, m2, q1, q2, q3, q4, kP, hkP, hkPi⟩ := Cond.selects_spec hsel
  cases hcB.symm.trans q1
  cases (State.methodFound?_of_named hn hy).symm.trans q2
  cases hnamed.symm.trans q3
  have hselP : selectMethod e.platform s.vm cellB.cls r0 = .method mk := by rw [Launch.admits_selectMethod X.admits, hclsB]; exact q4
  obtain ⟨kr, hkr, hni⟩ := hnf r0 hn
  obtain ⟨vm₁, X₁, hstep₁⟩ := X.invokevirtual hexec hown hlink hn hrm hstR hkr hni hy (a := b) (cell := cellB) hcellT
    (fun z h => by rw [h] at hstatB; cases hstatB) hselP hmethM habM hkP hkPi (g := g) hg (argsL := argsL) (rest := rest) (hlen _ hsigR) hstack hdg
  obtain ⟨v, B, X', hSi, hpost, hsteps⟩ := hK m meth c ⟨T.setVm vm₁, locs, cells, slots⟩ { g with stack := rest } (.invokevirtual index) mk (.ref b :: argsL).toArray X₁ hg hsize hdg hW (X₁.named hnamed) (hpre vm₁ X₁.warmed)
  exact ⟨v, vm₁, B, X₁.warmed, ⟨X', hSi⟩, hpost, fun target hh => hstep₁ _ fun acts => by rw [doInvoke_state]; exact hsteps.trans hh⟩
end Wide
section Konst
variable {p : Program} {l : Launch} {e : Env} {R : Room} {s : State} {m : MethodId} {args : Array Value} {below : List Frame} {meth : Method} {c : Code} {T : State} {locs : List Loc} {cells slots : Nat} {Z : State} {a0 : Array Value} {h h' : Heap} {vm0 vm1 : Vm} {own text : String} {index : Nat} {z : Int32} {vs : List Value} {w : Addr} {KL : List (String × Nat × String × Int32 × List Value)}
/-- a String constant whose entry is resolved, and its object known -/
def KC (Z : State) (x : String × Nat × String × Int32 × List Value) (vm : Vm) (h : Heap) : Prop :=
  ∃ (a b : Addr) (k : ClassId), Lit (Z.setVm vm) x.1 x.2.1 a ∧ Exa Z h a "java/lang/String" ∧ Fld Z h a "java/lang/String" "coder" "B" (.int 0) ∧ Fld Z h a "java/lang/String" "value" "[B" (.ref b) ∧ Arv Z h b k .byte x.2.2.2.1 x.2.2.2.2 (.int 0)
/-- of each String constant: our run has not interned its text yet, or it is known -/
def KS (Z : State) (KL : List (String × Nat × String × Int32 × List Value)) (vm : Vm) (h : Heap) : Prop := ∃ Ts, IB Z vm Ts ∧ ∀ x ∈ KL, x.2.2.1 ∉ Ts ∨ KC Z x vm h
theorem KS.ext (K : KS Z KL vm0 h) (E : Ext h h') : KS Z KL vm0 h' := by
  obtain ⟨Ts, I, H⟩ := K
  refine ⟨Ts, I, fun x hx => (H x hx).imp id ?_⟩
  rintro ⟨a, b, k, L, A, C, V, B⟩
  exact ⟨a, b, k, L, A.ext E, C.ext E, V.ext E, B.ext E⟩
def NoS (Z : State) (h : Heap) (w : Addr) : Prop := ∀ (a b : Addr) (k : ClassId) (z : Int32) (vs : List Value), Exa Z h a "java/lang/String" → Fld Z h a "java/lang/String" "value" "[B" (.ref b) → Arv Z h b k .byte z vs (.int 0) → a ≠ w ∧ b ≠ w
theorem NoS.obj {C : String} {kk : Nat} (E : Exa Z h w C) (wi : (Cond.instantiable C kk).before a0 Z = true) (hC : C ≠ "java/lang/String") : NoS Z h w := fun a b k z vs A V B => ⟨fun q => ne_exa E A hC q.symm, fun q => E.neArv B wi q.symm⟩
theorem NoS.str {kk : Nat} (E : Exa Z h w "java/lang/String") (wi : (Cond.instantiable "java/lang/String" kk).before a0 Z = true) (F : Fld Z h w "java/lang/String" "value" "[B" .null) : NoS Z h w := fun a b k z vs A V B => ⟨fun q => Fld.ne F V (by intro q; cases q) q.symm, fun q => E.neArv B wi q.symm⟩
theorem NoS.arr {kk : Nat} {k0 : ClassId} {ty : FieldType} {n : Nat} {f : Nat → Value} (A0 : Arw Z h w k0 ty n f) (wi : (Cond.instantiable "java/lang/String" kk).before a0 Z = true) (ht : ty ≠ .byte) : NoS Z h w := fun a b k z vs A V B => ⟨fun q => own_ne_arr A wi A0 q, fun q => by
  subst q
  obtain ⟨c1, ⟨e1, ⟨-, k1, hk1, comp1, hd1⟩, -⟩, -⟩ := A0
  obtain ⟨c2, ⟨e2, ⟨-, k2, hk2, comp2, hd2⟩, -⟩, -⟩ := B
  cases e1.symm.trans e2
  cases hk1.symm.trans hk2
  rw [hd1] at hd2
  cases hd2
  exact ht rfl⟩
theorem KS.wr {sl : Nat} {v : Value} (K : KS Z KL vm0 h) (W : Wr h h' w sl v) (q : NoS Z h w) : KS Z KL vm0 h' := by
  obtain ⟨Ts, I, H⟩ := K
  refine ⟨Ts, I, fun x hx => (H x hx).imp id ?_⟩
  rintro ⟨a, b, k, L, A, C, V, B⟩
  obtain ⟨q1, q2⟩ := q a b k _ _ A V B
  exact ⟨a, b, k, L, A.wr W, C.other W (Or.inl q1), V.other W (Or.inl q1), B.other W q2⟩
theorem KS.keep {ws : List Addr} (K : KS Z KL vm0 h) (P : Keep h h' ws) (q : ∀ w ∈ ws, NoS Z h w) : KS Z KL vm0 h' := by
  obtain ⟨Ts, I, H⟩ := K
  refine ⟨Ts, I, fun x hx => (H x hx).imp id ?_⟩
  rintro ⟨a, b, k, L, A, C, V, B⟩
  have q1 : a ∉ ws := fun hm => (q a hm a b k _ _ A V B).1 rfl
  have q2 : b ∉ ws := fun hm => (q b hm a b k _ _ A V B).2 rfl
  exact ⟨a, b, k, L, A.keep P, C.keep P q1, V.keep P q1, B.keep P q2⟩
theorem KS.at_ (K : KS Z KL vm0 h) (hW : (s.setVm vm0).WarmedH vm1) : KS Z KL vm1 h := by
  obtain ⟨Ts, ⟨more, e1, e2⟩, H⟩ := K
  refine ⟨Ts, ⟨more, by rw [← e1]; exact hW.interned_eq, e2⟩, fun x hx => (H x hx).imp id ?_⟩
  rintro ⟨a, b, k, L, r⟩
  exact ⟨a, b, k, Lit.stays (s := s) L hW.wide, r⟩
theorem KS.start : KS Z KL Z.vm h := ⟨[], IB.start, fun x hx => Or.inl (by simp)⟩
theorem own_ldcK (X : Stand p l e R (s.setVm vm0) m args below meth c T locs cells slots) (hx : p.tables.exec = Jvm.exec) (hZ : Z.Warmed39 vm0) (hown : vm0.findClass own = some m.cls) (w : (Cond.stringLink own index text).before a0 Z = true) (wS : ∀ a ∈ Bundle.stringAtoms, a.before a0 Z = true)
    (eT : T.heap = h) {k0 : Nat} (hS : s.Since vm0 k0) (hk : k0 ≤ h.size) (N : Fr s.heap.size locs) (hkeep : ∀ (b : Addr) (cl : Cell), Z.heap[b]? = some cl → s.heap[b]? = some cl) (K : KS Z KL vm0 h) (hm : (own, index, text, z, vs) ∈ KL) (hdis : ∀ y ∈ KL, y.2.2.1 = text → y = (own, index, text, z, vs)) (hh : Jvm.Lit.constHeld Z own index) (hcw : Jvm.Lit.compactW.before a0 Z = true)
    (ht : (∀ c ∈ text.toList, c.toNat < 256) ∧ text.toList.map (fun c => Value.int (Jvm.Lit.byteI c.toNat.toUInt16)) = vs) (hz : ¬ z < 0) (hl : z.toNatClampNeg = vs.length)
    {g : JFrame} (hg : g.method = m) (hd : decode c.code g.pc = .ok (.ldc index, 2)) {n : Nat} (hn : 4 * text.toList.length ≤ n) (hbig : n ≤ 536870912) (hc : cells + 2 ≤ R.cells) (hl' : slots + (n + 4) ≤ R.slots) :
    ∃ (a : Addr) (T' : State) (h' : Heap) (vm1 : Vm) (k1 : Nat) (b : Addr) (k : ClassId), Stand p l e R (s.setVm vm1) m args below meth c T' locs (cells + 2) (slots + (n + 4)) ∧ T'.heap = h' ∧ Ext h h' ∧ s.Since vm1 k1 ∧ k1 ≤ h'.size ∧ Z.Warmed39 (s.setVm vm1).vm ∧ (s.setVm vm1).vm.findClass own = some m.cls ∧
      Exa Z h' a "java/lang/String" ∧ Fld Z h' a "java/lang/String" "coder" "B" (.int 0) ∧ Fld Z h' a "java/lang/String" "value" "[B" (.ref b) ∧ Arv Z h' b k .byte z vs (.int 0) ∧ Lit (Z.setVm vm1) own index a ∧ KS Z KL vm1 h' ∧
      ∀ target, Steps p.tables e below (T'.setTop { g with pc := g.pc + 2, stack := .ref a :: g.stack }) target → Steps p.tables e below (T.setTop g) target := by
  obtain ⟨Ts, I, H⟩ := K
  rcases H _ hm with hnot | ⟨a, b, k, L, A, C, V, B⟩
  · obtain ⟨a, T', h', k1, b, k, X', e', E', S', hk', hZ', hown', A, C, V, B, -, -, I', L', st⟩ := ldcSVL (s := s.setVm vm0) X hx hZ hown w wS eT ((State.WarmedH.refl (s.setVm vm0)).since 0) (Nat.zero_le _) N hkeep I hnot hh hcw ht hz hl hg hd hn hbig hc hl'
    refine ⟨a, T', h', T'.vm, h'.size, b, k, X', e', E', hS.trans ⟨S'.1, S'.2.mono hk'⟩ (Nat.le_trans hk E'.1), Nat.le_refl _, hZ', hown', A, C, V, B, L', ⟨text :: Ts, I', fun y hy => ?_⟩, st⟩
    by_cases hte : y.2.2.1 = text
    · obtain rfl := hdis y hy hte
      exact Or.inr ⟨a, b, k, L', A, C, V, B⟩
    · rcases H y hy with q | ⟨a2, b2, k2, L2, r1, r2, r3, r4⟩
      · exact Or.inl (by simp [hte, q])
      · exact Or.inr ⟨a2, b2, k2, Lit.stays (s := s) L2 S'.1, r1.ext E', r2.ext E', r3.ext E', r4.ext E'⟩
  · exact ⟨a, T, h, vm0, k0, b, k, X.mono (by omega) (by omega), eT, ⟨Nat.le_refl _, fun _ _ q => q⟩, hS, hk, hZ, hown, A, C, V, B, L, ⟨Ts, I, H⟩, ldcAgain X hx hZ hown w L hg hd⟩
end Konst
def own_KL : List (String × Nat × String × Int32 × List Value) := [("java/lang/String", 7, "", (0 : Int32), [])]
def own_e0 : Nat → Value := fun i => ([] : List Value).getD i (.int 0)
def own_cs (n c d : Int32) : List Int32 := if n = (0 : Int32) then [] else if n = (1 : Int32) then [nar .char c] else [nar .char c, nar .char d]
def own_n (n c d : Int32) : Int32 := Int32.ofNat (own_cs n c d).length
def own_v (n c d : Int32) : List Value := ((own_cs n c d).map (fun c => c.toInt8.toInt32)).map Value.int
theorem own_cs0 {n : Int32} (c d : Int32) (h : n = (0 : Int32)) : own_cs n c d = [] := if_pos h
theorem own_cs1 {n : Int32} (c d : Int32) (h0 : ¬ n = (0 : Int32)) (h : n = (1 : Int32)) : own_cs n c d = [nar .char c] := (if_neg h0).trans (if_pos h)
theorem own_cs2 {n : Int32} (c d : Int32) (h0 : ¬ n = (0 : Int32)) (h : ¬ n = (1 : Int32)) : own_cs n c d = [nar .char c, nar .char d] := (if_neg h0).trans (if_neg h)
theorem own_nar {c : Int32} (h : c &&& (255 : Int32) = c) : nar .char c = c := by
  have q : nar .char (c &&& (255 : Int32)) = c &&& (255 : Int32) := i2c_mask c
  rw [h] at q
  exact q
theorem own_lat1 {c : Int32} (h : c &&& (255 : Int32) = c) : ¬ nar .char c < 0 ∧ ¬ (255 : Int32) < nar .char c := by
  rw [own_nar h, ← h]
  exact own_and255 c
theorem own_lat {n c d : Int32} (h : c &&& (255 : Int32) = c) (h2 : d &&& (255 : Int32) = d) : ∀ x ∈ own_cs n c d, ¬ x < 0 ∧ ¬ (255 : Int32) < x := by
  intro x hx
  unfold own_cs at hx
  split at hx
  · cases hx
  · split at hx
    · rw [List.mem_singleton] at hx
      subst hx
      exact own_lat1 h
    · rcases List.mem_cons.mp hx with rfl | hx
      · exact own_lat1 h
      · rw [List.mem_singleton] at hx
        subst hx
        exact own_lat1 h2
theorem own_wideb {cs : List Int32} (h : ∀ x ∈ cs, ¬ x < 0 ∧ ¬ (255 : Int32) < x) : ∀ x ∈ cs, ¬ x < 0 ∧ ¬ (65535 : Int32) < x := fun x hx => ⟨(h x hx).1, fun q => (h x hx).2 (Int32.lt_iff_toInt_lt.mpr (by
  have q1 := Int32.lt_iff_toInt_lt.mp q
  have q2 : (65535 : Int32).toInt = 65535 := by decide
  have q3 : (255 : Int32).toInt = 255 := by decide
  omega))⟩
theorem own_len (n c d : Int32) : (own_cs n c d).length ≤ 4000 := by
  unfold own_cs
  split
  · simp
  · split
    · simp
    · simp
theorem own_coda {n c d : Int32} (h : c &&& (255 : Int32) = c) (h2 : d &&& (255 : Int32) = d) : StrChars.Road.CodA (own_cs n c d) 0 (own_n n c d) (own_v n c d) := Or.inl ⟨rfl, rfl, by simp [own_v, List.map_map, Function.comp_def, StrChars.lo8], fun x hx => (own_lat h h2 x hx).2⟩
theorem own_012 (x : Int32) : ((x &&& (3 : Int32)) % (3 : Int32) = (0 : Int32)) ∨ ((x &&& (3 : Int32)) % (3 : Int32) = (1 : Int32)) ∨ ((x &&& (3 : Int32)) % (3 : Int32) = (2 : Int32)) := by
  have q1 := c_and x 3 (by decide)
  have c3 : (3 : Int32).toInt = 3 := by decide
  have q2 := (c_irem (x &&& 3) 3 3 (by decide)).1 q1.1
  generalize (x &&& (3 : Int32)) % (3 : Int32) = y at q2
  have h : y.toInt = 0 ∨ y.toInt = 1 ∨ y.toInt = 2 := by omega
  rcases h with h | h | h
  · exact Or.inl (Int32.toInt_inj.mp (h.trans (by decide)))
  · exact Or.inr (Or.inl (Int32.toInt_inj.mp (h.trans (by decide))))
  · exact Or.inr (Or.inr (Int32.toInt_inj.mp (h.trans (by decide))))
theorem own_mm (x : Int32) : (x &&& (255 : Int32)) &&& (255 : Int32) = x &&& (255 : Int32) := by rw [Int32.and_assoc]; rfl
theorem own_same {l k a b c d : Int32} (hl : l = (0 : Int32) ∨ l = (1 : Int32) ∨ l = (2 : Int32)) (hk : k = (0 : Int32) ∨ k = (1 : Int32) ∨ k = (2 : Int32)) (ha : a &&& (255 : Int32) = a) (hb : b &&& (255 : Int32) = b) (hc : c &&& (255 : Int32) = c) (hd : d &&& (255 : Int32) = d) :
    own_cs l a b = own_cs k c d ↔ (l = k ∧ (l < (1 : Int32) ∨ a = c) ∧ (l < (2 : Int32) ∨ b = d)) := by
  have na := own_nar ha
  have nb := own_nar hb
  have nc := own_nar hc
  have nd := own_nar hd
  rcases hl with rfl | rfl | rfl <;> rcases hk with rfl | rfl | rfl <;> simp [own_cs, na, nb, nc, nd] <;> decide
theorem own_fld {s : State} {args : Array Value} {t : Term} {x : Addr} {C n d : String} {z : Int32} (ht : t.eval args s none [] s = some (.ref x)) (h : (Cond.eq (Term.field t C n d) (Term.int z)).value args s none s [] = some true) : Fld s s.heap x C n d (.int z) := by
  obtain ⟨u, v, h1, h2, h3, h4⟩ := cmp_v (Or.inl h)
  rw [Term.int_eval] at h2
  cases h2
  obtain ⟨w, rfl⟩ := h4
  have q := gotT (Cond.eq_ints h1 (Term.int_eval z)) h
  subst q
  exact Fld.start ((fld_at ht).symm.trans h1)
theorem ef_rm3e (m : MethodId) (a : Addr) (b : Addr) (off : Int32) (ln : Int32) : entryFrame m #[(.ref a), (.ref b), (.int off), (.int ln), .null] 6 = mkF m 0 #[.val (.ref a), .val (.ref b), .val (.int off), .val (.int ln), .val .null, .unset] [] := by first | (simp [entryFrame, mkF, argsToLocals, Value.category]; done) | rfl
def Qrm3e (Z : State) (a : Addr) (b : Addr) (off : Int32) (ln : Int32) (h0 : Heap) (n0 : Nat) (v_ : Option Value) (h_ : Heap) (L_ : List Loc) : Prop := ∃ tb : Addr, ∃ tk : ClassId, v_ = none ∧ Fr n0 L_ ∧ Keep h0 h_ [a] ∧ Exa Z h_ a "java/lang/String" ∧ Fld Z h_ a "java/lang/String" "coder" "B" (.int (0 : Int32)) ∧ Fld Z h_ a "java/lang/String" "value" "[B" (.ref tb) ∧ Arw Z h_ tb tk .byte 0 own_e0
theorem pn_java_lang_String : plainName "java/lang/String" = true := by first | (simp [plainName, overriddenIn]; done) | decide +kernel
theorem d3_0 : decode jdk_42_method_149_code 0 = .ok (.aload_n 0, 1) := by decide +kernel
theorem d3_1 : decode jdk_42_method_149_code 1 = .ok (.invokespecial 1, 3) := by decide +kernel
theorem d3_4 : decode jdk_42_method_149_code 4 = .ok (.iload_n 3, 1) := by decide +kernel
theorem d3_5 : decode jdk_42_method_149_code 5 = .ok (.ifCond .ne 22, 3) := by decide +kernel
theorem d3_8 : decode jdk_42_method_149_code 8 = .ok (.aload_n 0, 1) := by decide +kernel
theorem d3_9 : decode jdk_42_method_149_code 9 = .ok (.ldc 7, 2) := by decide +kernel
theorem d3_11 : decode jdk_42_method_149_code 11 = .ok (.getfield 9, 3) := by decide +kernel
theorem d3_14 : decode jdk_42_method_149_code 14 = .ok (.putfield 9, 3) := by decide +kernel
theorem d3_17 : decode jdk_42_method_149_code 17 = .ok (.aload_n 0, 1) := by decide +kernel
theorem d3_18 : decode jdk_42_method_149_code 18 = .ok (.ldc 7, 2) := by decide +kernel
theorem d3_20 : decode jdk_42_method_149_code 20 = .ok (.getfield 15, 3) := by decide +kernel
theorem d3_23 : decode jdk_42_method_149_code 23 = .ok (.putfield 15, 3) := by decide +kernel
theorem d3_26 : decode jdk_42_method_149_code 26 = .ok (.return_, 1) := by decide +kernel
set_option maxRecDepth 65536 in
set_option maxHeartbeats 40000000 in
theorem rm3e (l : Launch) (Z : State) (a0 : Array Value) (hw : ∀ d ∈ tables_1, d.before a0 Z = true) (ws : List Jvm.Cond) (a : Addr) (b : Addr) (off : Int32) (ln : Int32) (h0 : Heap) (n0 : Nat) (Z0 : n0 ≤ h0.size) (E0_a : Exa Z h0 a "java/lang/String") (F1_a_value : Fld Z h0 a "java/lang/String" "value" "[B" .null) (F2_a_coder : Fld Z h0 a "java/lang/String" "coder" "B" (.int (0 : Int32))) (H3 : n0 ≤ a) (Hln : ln = (0 : Int32)) (HO : Old Z n0 h0) (HW : Jvm.Lit.compactW.before a0 Z = true) (HC0 : Jvm.Lit.constHeld Z "java/lang/String" 7) :
    MetFree l (⟨"java/lang/String", "<init>", "([CIILjava/lang/Void;)V"⟩ : MethodName) (head1 (Jvm.Cond.code (⟨"java/lang/String", "<init>", "([CIILjava/lang/Void;)V"⟩ : MethodName) jdk_42_method_149_code 6 none :: ws) ({ frames := 1, cells := 2, slots := 4, locals := 12 } : Room)) (fun as_ U_ => as_ = #[(.ref a), (.ref b), (.int off), (.int ln), .null] ∧ Z.Warmed39 U_.vm ∧ U_.heap = h0 ∧ KS Z own_KL U_.vm U_.heap) (fun _ _ _ _ _ => True) (fun _ U_ o_ V_ => ∃ v_ L_, o_ = .returned v_ ∧ Qrm3e Z a b off ln h0 n0 v_ V_.heap L_ ∧ KS Z own_KL V_.vm V_.heap ∧ ReturnedEndW U_ o_ V_ L_ ({ frames := 1, cells := 2, slots := 4, locals := 12 } : Room).cells ({ frames := 1, cells := 2, slots := 4, locals := 12 } : Room).slots) := by
  refine MetFree.of_bodySF (plainFor_of_name pn_java_lang_String) hisR ?_
  intro p e s m args below meth c s₁ Bd hml0 hP hK
  obtain ⟨rfl, hZ, hh, hKs⟩ := hP
  have hx := Bd.exec
  have hby := Bd.bytes
  have hlk : meth.locks = false := BodyLoose.notSynchronized Bd
  have hret := Bd.returns
  have hml : c.maxLocals = 6 := hml0
  have hown : s.vm.findClass "java/lang/String" = some m.cls := findClass_of_methodNamed Bd.named
  have hnm := (name_of_methodNamed Bd.named Bd.method).1
  have X0 : Stand p l e ({ frames := 1, cells := 2, slots := 4, locals := 12 } : Room) (s.setVm s.vm) m #[(.ref a), (.ref b), (.int off), (.int ln), .null] below meth c s₁ [] 0 0 := Stand.of_body Bd
  have e0 : s₁.heap = h0 := by rw [← hh, Bd.state]; rfl
  have N0 := Fr.nil n0
  show Goes p e below (Fin_W s (Qrm3e Z a b off ln h0 n0) (fun U_ => KS Z own_KL U_.vm U_.heap) ({ frames := 1, cells := 2, slots := 4, locals := 12 } : Room).cells ({ frames := 1, cells := 2, slots := 4, locals := 12 } : Room).slots) (s₁.setTop (entryFrame m #[(.ref a), (.ref b), (.int off), (.int ln), .null] 6))
  rw [ef_rm3e m a b off ln]
  have SI0 : s.Since s.vm 0 := (State.WarmedH.refl s).since 0
  have Ks0 : KS Z own_KL s.vm h0 := hh ▸ hKs
  refine Goes.via (fun _ kk_ => XS.aloadN X0.here hx rfl (hb hby d3_0) rfl rfl  kk_) ?_
  show Goes p e below _ (s₁.setTop (mkF m 1 #[.val (.ref a), .val (.ref b), .val (.int off), .val (.int ln), .val .null, .unset] [(.ref a)]))
  obtain ⟨T1, X1, e1, st1⟩ := initO X0 hx hZ hown (hw _ (List.mem_of_getElem? (i := 16) rfl)) (hw _ (List.mem_of_getElem? (i := 17) rfl)) (hw _ (List.mem_of_getElem? (i := 18) rfl)) e0 (g := (mkF m 1 #[.val (.ref a), .val (.ref b), .val (.int off), .val (.int ln), .val .null, .unset] [(.ref a)])) rfl (by rw [hml]; rfl) rfl (hb hby d3_1) (by decide) (W := 0) (by show 2 * 0 + _ ≤ _; exact Nat.le_of_eq rfl) (by decide)
  refine Goes.via st1 ?_
  show Goes p e below _ (T1.setTop (mkF m 4 #[.val (.ref a), .val (.ref b), .val (.int off), .val (.int ln), .val .null, .unset] []))
  refine Goes.via (fun _ kk_ => XS.iloadN X1.here hx rfl (hb hby d3_4) rfl  kk_) ?_
  show Goes p e below _ (T1.setTop (mkF m 5 #[.val (.ref a), .val (.ref b), .val (.int off), .val (.int ln), .val .null, .unset] [(.int ln)]))
  have hc5_2 : ln = (0 : Int32) := Hln
  refine Goes.via (fun _ kk_ => XS.ifNo X1.here hx rfl (hb hby d3_5) rfl ((if0 _ _).trans (teq hc5_2).2) kk_) ?_
  show Goes p e below _ (T1.setTop (mkF m 8 #[.val (.ref a), .val (.ref b), .val (.int off), .val (.int ln), .val .null, .unset] []))
  refine Goes.via (fun _ kk_ => XS.aloadN X1.here hx rfl (hb hby d3_8) rfl rfl  kk_) ?_
  show Goes p e below _ (T1.setTop (mkF m 9 #[.val (.ref a), .val (.ref b), .val (.int off), .val (.int ln), .val .null, .unset] [(.ref a)]))
  obtain ⟨ka3, T3, h3, vm3, k13, kb3, kc3, X3, e3, E3, SI3, sk3, hZ, hown, kE3, kC3, kV3, kA3, kL3, Ks3, st3⟩ := own_ldcK (KL := own_KL) (z := (0 : Int32)) (vs := []) X1 hx hZ hown (hw _ (List.mem_of_getElem? (i := 19) rfl)) (fun d hd => hw d ((by decide +kernel : ∀ d ∈ Bundle.stringAtoms, d ∈ tables_1) d hd)) e1 SI0 (Nat.zero_le _) (Fr.nil _) (by rw [hh]; exact HO.2.2) Ks0 (by simp [own_KL]) (by decide +kernel) HC0 HW (by decide +kernel) (by decide) (by decide) (g := (mkF m 9 #[.val (.ref a), .val (.ref b), .val (.int off), .val (.int ln), .val .null, .unset] [(.ref a)])) rfl (hb hby d3_9) (n := 0) (by decide +kernel) (by decide) (by first | decide | omega | (dsimp only; omega)) (by first | decide | omega | (dsimp only; omega))
  refine Goes.via st3 ?_
  have f4 : Exa Z h3 a "java/lang/String" := (E0_a.ext E3)
  have f5 : Fld Z h3 a "java/lang/String" "value" "[B" .null := (F1_a_value.ext E3)
  have ne6 : a ≠ ka3 := Fld.ne f5 kV3 (by intro q; cases q)
  have ne7 : a ≠ kb3 := f4.neArv kA3 (hw _ (List.mem_of_getElem? (i := 6) rfl))
  have ne8 : ka3 ≠ kb3 := kE3.neArv kA3 (hw _ (List.mem_of_getElem? (i := 6) rfl))
  show Goes p e below _ (T3.setTop (mkF m 11 #[.val (.ref a), .val (.ref b), .val (.int off), .val (.int ln), .val .null, .unset] [(.ref ka3), (.ref a)]))
  obtain ⟨T9, X9, e9, st9⟩ := getF X3 hx hZ hown (host := "") (Or.inl (hw _ (List.mem_of_getElem? (i := 25) rfl))) Via.refl e3 kV3 (g := (mkF m 11 #[.val (.ref a), .val (.ref b), .val (.int off), .val (.int ln), .val .null, .unset] [(.ref ka3), (.ref a)])) rfl rfl (hb hby d3_11)
  refine Goes.via st9 ?_
  show Goes p e below _ (T9.setTop (mkF m 14 #[.val (.ref a), .val (.ref b), .val (.int off), .val (.int ln), .val .null, .unset] [(.ref kb3), (.ref a)]))
  obtain ⟨T10, h10, X10, e10, W10, st10⟩ := putF X9 hx hZ hown (host := "") (Or.inl (hw _ (List.mem_of_getElem? (i := 25) rfl))) Via.refl e9 f5 f4 (Or.inr ⟨(hw _ (List.mem_of_getElem? (i := 21) rfl)), rfl, hnm⟩) (hw _ (List.mem_of_getElem? (i := 6) rfl)) (ty := (.array .byte)) (by decide) rfl rfl (g := (mkF m 14 #[.val (.ref a), .val (.ref b), .val (.int off), .val (.int ln), .val .null, .unset] [(.ref kb3), (.ref a)])) rfl rfl (hb hby d3_14)
  refine Goes.via st10 ?_
  have N10 := Fr.snoc X10 N0 H3
  have Fw10 : Fld Z h10 a "java/lang/String" "value" "[B" (.ref kb3) := f5.same W10
  show Goes p e below _ (T10.setTop (mkF m 17 #[.val (.ref a), .val (.ref b), .val (.int off), .val (.int ln), .val .null, .unset] []))
  refine Goes.via (fun _ kk_ => XS.aloadN X10.here hx rfl (hb hby d3_17) rfl rfl  kk_) ?_
  show Goes p e below _ (T10.setTop (mkF m 18 #[.val (.ref a), .val (.ref b), .val (.int off), .val (.int ln), .val .null, .unset] [(.ref a)]))
  refine Goes.via (ldcAgain X10 hx hZ hown (hw _ (List.mem_of_getElem? (i := 19) rfl)) kL3 (g := (mkF m 18 #[.val (.ref a), .val (.ref b), .val (.int off), .val (.int ln), .val .null, .unset] [(.ref a)])) rfl (hb hby d3_18)) ?_
  show Goes p e below _ (T10.setTop (mkF m 20 #[.val (.ref a), .val (.ref b), .val (.int off), .val (.int ln), .val .null, .unset] [(.ref ka3), (.ref a)]))
  have f12 : Fld Z h10 ka3 "java/lang/String" "coder" "B" (.int (0 : Int32)) := (kC3.other W10 (Or.inl (Ne.symm ne6)))
  obtain ⟨T13, X13, e13, st13⟩ := getF X10 hx hZ hown (host := "") (Or.inl (hw _ (List.mem_of_getElem? (i := 26) rfl))) Via.refl e10 f12 (g := (mkF m 20 #[.val (.ref a), .val (.ref b), .val (.int off), .val (.int ln), .val .null, .unset] [(.ref ka3), (.ref a)])) rfl rfl (hb hby d3_20)
  refine Goes.via st13 ?_
  show Goes p e below _ (T13.setTop (mkF m 23 #[.val (.ref a), .val (.ref b), .val (.int off), .val (.int ln), .val .null, .unset] [(.int (0 : Int32)), (.ref a)]))
  have f14 : Fld Z h10 a "java/lang/String" "coder" "B" (.int (0 : Int32)) := ((F2_a_coder.ext E3).other W10 (Or.inr (slot_ne (Or.inr (hw _ (List.mem_of_getElem? (i := 22) rfl))) (Or.inr (hw _ (List.mem_of_getElem? (i := 21) rfl))) (by decide) (t := .byte) (t' := (.array .byte)) (by decide) (by decide))))
  have f15 : Exa Z h10 a "java/lang/String" := (f4.wr W10)
  obtain ⟨T16, h16, X16, e16, W16, st16⟩ := putFN X13 hx hZ hown (hw _ (List.mem_of_getElem? (i := 26) rfl)) Via.refl e13 f14 f15 (Or.inr ⟨(hw _ (List.mem_of_getElem? (i := 22) rfl)), rfl, hnm⟩) (hw _ (List.mem_of_getElem? (i := 6) rfl)) (ty := .byte) (v' := (.int (0 : Int32))) (by decide) rfl (by first | exact fits_nar_byte _ | decide) (g := (mkF m 23 #[.val (.ref a), .val (.ref b), .val (.int off), .val (.int ln), .val .null, .unset] [(.int (0 : Int32)), (.ref a)])) rfl rfl (hb hby d3_23)
  refine Goes.via st16 ?_
  have N16 := Fr.snoc X16 N10 H3
  have Fw16 : Fld Z h16 a "java/lang/String" "coder" "B" (.int (0 : Int32)) := f14.same W16
  show Goes p e below _ (T16.setTop (mkF m 26 #[.val (.ref a), .val (.ref b), .val (.int off), .val (.int ln), .val .null, .unset] []))
  have f17 : Arv Z h16 kb3 kc3 .byte (0 : Int32) [] (.int 0) := ((kA3.other W10 (Ne.symm ne7)).other W16 (Ne.symm ne7))
  have kW : Arw Z h16 kb3 kc3 .byte 0 own_e0 := Arw.ofArv f17 (by decide) (fun _ _ => rfl)
  have K18 : Keep h0 h16 [a] := ((((Keep.refl h0 [a]).ext E3).wr W10 (Or.inl (List.mem_of_getElem? (i := 0) rfl))).wr W16 (Or.inl (List.mem_of_getElem? (i := 0) rfl)))
  have f19 : Exa Z h16 a "java/lang/String" := (f15.wr W16)
  have f20 : Fld Z h16 a "java/lang/String" "value" "[B" (.ref kb3) := (Fw10.other W16 (Or.inr (slot_ne (Or.inr (hw _ (List.mem_of_getElem? (i := 21) rfl))) (Or.inr (hw _ (List.mem_of_getElem? (i := 22) rfl))) (by decide) (t := (.array .byte)) (t' := .byte) (by decide) (by decide))))
  have Ks21 : KS Z own_KL vm3 (h16) := (Ks3.keep (((Keep.refl _ [a]).wr W10 (Or.inl (List.mem_of_getElem? (i := 0) rfl))).wr W16 (Or.inl (List.mem_of_getElem? (i := 0) rfl))) (allS (NoS.str f4 (hw _ (List.mem_of_getElem? (i := 6) rfl)) f5) all0))
  have hKe : KS Z own_KL T16.vm T16.heap := by rw [e16]; exact Ks21.at_ (s := s) X16.warmed
  have sk22 : _ ≤ (h16).size := (Nat.le_trans (Nat.le_trans sk3 (Nat.le_of_eq W10.size.symm)) (Nat.le_of_eq W16.size.symm))
  exact own_wfinV X16 SI3 (by rw [e16]; exact sk22) (fun U_ hv hh_ => by show KS Z own_KL U_.vm U_.heap; rw [hv, hh_]; exact hKe) hx hlk hret (hb hby d3_26) (by rw [e16]; exact ⟨kb3, kc3, rfl, N16, K18, f19, Fw16, f20, kW⟩) (by first | decide | omega | (dsimp only; omega)) (by first | decide | omega | (dsimp only; omega))
theorem ef_rm2e (m : MethodId) (a : Addr) (b : Addr) : entryFrame m #[(.ref a), (.ref b)] 2 = mkF m 0 #[.val (.ref a), .val (.ref b)] [] := by first | (simp [entryFrame, mkF, argsToLocals, Value.category]; done) | rfl
def Qrm2e (Z : State) (a : Addr) (b : Addr) (kc : ClassId) (fc : Nat → Value) (h0 : Heap) (n0 : Nat) (v_ : Option Value) (h_ : Heap) (L_ : List Loc) : Prop := ∃ tb : Addr, ∃ tk : ClassId, v_ = none ∧ Fr n0 L_ ∧ Keep h0 h_ [a] ∧ Exa Z h_ a "java/lang/String" ∧ Fld Z h_ a "java/lang/String" "coder" "B" (.int (0 : Int32)) ∧ Fld Z h_ a "java/lang/String" "value" "[B" (.ref tb) ∧ Arw Z h_ tb tk .byte 0 own_e0
theorem d2_0 : decode jdk_42_method_3_code 0 = .ok (.aload_n 0, 1) := by decide +kernel
theorem d2_1 : decode jdk_42_method_3_code 1 = .ok (.aload_n 1, 1) := by decide +kernel
theorem d2_2 : decode jdk_42_method_3_code 2 = .ok (.iconst 0, 1) := by decide +kernel
theorem d2_3 : decode jdk_42_method_3_code 3 = .ok (.aload_n 1, 1) := by decide +kernel
theorem d2_4 : decode jdk_42_method_3_code 4 = .ok (.arraylength, 1) := by decide +kernel
theorem d2_5 : decode jdk_42_method_3_code 5 = .ok (.aconst_null, 1) := by decide +kernel
theorem pd_0 : parseMethodDescriptor "([CIILjava/lang/Void;)V" = some ⟨[(.array .char), .int, .int, (.object "java/lang/Void")], none⟩ := by decide +kernel
theorem d2_6 : decode jdk_42_method_3_code 6 = .ok (.invokespecial 27, 3) := by decide +kernel
theorem d2_9 : decode jdk_42_method_3_code 9 = .ok (.return_, 1) := by decide +kernel
set_option maxRecDepth 65536 in
set_option maxHeartbeats 40000000 in
theorem rm2e (l : Launch) (Z : State) (a0 : Array Value) (hw : ∀ d ∈ tables_1, d.before a0 Z = true) (ws : List Jvm.Cond) (a : Addr) (b : Addr) (kc : ClassId) (fc : Nat → Value) (h0 : Heap) (n0 : Nat) (Z0 : n0 ≤ h0.size) (E0_a : Exa Z h0 a "java/lang/String") (F1_a_value : Fld Z h0 a "java/lang/String" "value" "[B" .null) (F2_a_coder : Fld Z h0 a "java/lang/String" "coder" "B" (.int (0 : Int32))) (H3 : n0 ≤ a) (A4_b : Arw Z h0 b kc .char 0 fc) (HO : Old Z n0 h0) (HW : Jvm.Lit.compactW.before a0 Z = true) (HC0 : Jvm.Lit.constHeld Z "java/lang/String" 7) :
    MetFree l (⟨"java/lang/String", "<init>", "([C)V"⟩ : MethodName) (head1 (Jvm.Cond.code (⟨"java/lang/String", "<init>", "([C)V"⟩ : MethodName) jdk_42_method_3_code 2 none :: ws) ({ frames := 2, cells := 2, slots := 4, locals := 29 } : Room)) (fun as_ U_ => as_ = #[(.ref a), (.ref b)] ∧ Z.Warmed39 U_.vm ∧ U_.heap = h0 ∧ KS Z own_KL U_.vm U_.heap) (fun _ _ _ _ _ => True) (fun _ U_ o_ V_ => ∃ v_ L_, o_ = .returned v_ ∧ Qrm2e Z a b kc fc h0 n0 v_ V_.heap L_ ∧ KS Z own_KL V_.vm V_.heap ∧ ReturnedEndW U_ o_ V_ L_ ({ frames := 2, cells := 2, slots := 4, locals := 29 } : Room).cells ({ frames := 2, cells := 2, slots := 4, locals := 29 } : Room).slots) := by
  refine MetFree.of_bodySF (plainFor_of_name pn_java_lang_String) hisR ?_
  intro p e s m args below meth c s₁ Bd hml0 hP hK
  obtain ⟨rfl, hZ, hh, hKs⟩ := hP
  have hx := Bd.exec
  have hby := Bd.bytes
  have hlk : meth.locks = false := BodyLoose.notSynchronized Bd
  have hret := Bd.returns
  have hml : c.maxLocals = 2 := hml0
  have hown : s.vm.findClass "java/lang/String" = some m.cls := findClass_of_methodNamed Bd.named
  have hnm := (name_of_methodNamed Bd.named Bd.method).1
  have X0 : Stand p l e ({ frames := 2, cells := 2, slots := 4, locals := 29 } : Room) (s.setVm s.vm) m #[(.ref a), (.ref b)] below meth c s₁ [] 0 0 := Stand.of_body Bd
  have e0 : s₁.heap = h0 := by rw [← hh, Bd.state]; rfl
  have N0 := Fr.nil n0
  show Goes p e below (Fin_W s (Qrm2e Z a b kc fc h0 n0) (fun U_ => KS Z own_KL U_.vm U_.heap) ({ frames := 2, cells := 2, slots := 4, locals := 29 } : Room).cells ({ frames := 2, cells := 2, slots := 4, locals := 29 } : Room).slots) (s₁.setTop (entryFrame m #[(.ref a), (.ref b)] 2))
  rw [ef_rm2e m a b]
  have SI0 : s.Since s.vm 0 := (State.WarmedH.refl s).since 0
  have Ks0 : KS Z own_KL s.vm h0 := hh ▸ hKs
  have ne1 : a ≠ b := own_ne_arr E0_a (hw _ (List.mem_of_getElem? (i := 6) rfl)) A4_b
  refine Goes.via (fun _ kk_ => XS.aloadN X0.here hx rfl (hb hby d2_0) rfl rfl  kk_) ?_
  show Goes p e below _ (s₁.setTop (mkF m 1 #[.val (.ref a), .val (.ref b)] [(.ref a)]))
  refine Goes.via (fun _ kk_ => XS.aloadN X0.here hx rfl (hb hby d2_1) rfl rfl  kk_) ?_
  show Goes p e below _ (s₁.setTop (mkF m 2 #[.val (.ref a), .val (.ref b)] [(.ref b), (.ref a)]))
  refine Goes.via (fun _ kk_ => XS.iconst X0.here hx rfl (hb hby d2_2) kk_) ?_
  show Goes p e below _ (s₁.setTop (mkF m 3 #[.val (.ref a), .val (.ref b)] [(.int (0 : Int32)), (.ref b), (.ref a)]))
  refine Goes.via (fun _ kk_ => XS.aloadN X0.here hx rfl (hb hby d2_3) rfl rfl  kk_) ?_
  show Goes p e below _ (s₁.setTop (mkF m 4 #[.val (.ref a), .val (.ref b)] [(.ref b), (.int (0 : Int32)), (.ref b), (.ref a)]))
  refine Goes.via (own_alen X0 hx hZ e0 A4_b (g := (mkF m 4 #[.val (.ref a), .val (.ref b)] [(.ref b), (.int (0 : Int32)), (.ref b), (.ref a)])) rfl rfl (hb hby d2_4)) ?_
  show Goes p e below _ (s₁.setTop (mkF m 5 #[.val (.ref a), .val (.ref b)] [(.int (0 : Int32)), (.int (0 : Int32)), (.ref b), (.ref a)]))
  refine Goes.via (fun _ kk_ => XS.aconstNull X0.here hx rfl (hb hby d2_5) kk_) ?_
  show Goes p e below _ (s₁.setTop (mkF m 6 #[.val (.ref a), .val (.ref b)] [.null, (.int (0 : Int32)), (.int (0 : Int32)), (.ref b), (.ref a)]))
  obtain ⟨_, _, ⟨T2, L2, k2, n2⟩, -, ⟨X2, Si2⟩, ⟨Lc2, ⟨hQ2, tK2, hK2, hKv2, hKh2⟩, l2, y2, z2⟩, st2⟩ := own_specialW X0 hx (y := (⟨"java/lang/String", "<init>", "([CIILjava/lang/Void;)V"⟩ : MethodName)) rfl hown (mvT hZ (hw _ (List.mem_of_getElem? (i := 12) rfl))) (mvT hZ (hw _ (List.mem_of_getElem? (i := 13) rfl))) (mvT hZ (hw _ (List.mem_of_getElem? (i := 15) rfl))) (by decide) (own_backOfW (W := 0) (K := (fun U_ => KS Z own_KL U_.vm U_.heap)) (KP := (fun U_ => KS Z own_KL U_.vm U_.heap)) (rm3e l Z a0 hw [] a b (0 : Int32) (0 : Int32) h0 n0 (Nat.le_trans Z0 (Nat.le_refl _)) E0_a F1_a_value F2_a_coder H3 (by first | assumption | rfl | decide | omega | (simp; done)) HO (by first | assumption | rfl | decide | omega | (simp; done)) (by first | assumption | rfl | decide | omega | (simp; done))) hZ (hw _ (List.mem_of_getElem? (i := 15) rfl)) (hw _ (List.mem_of_getElem? (i := 7) rfl)) (by decide) (by decide) (fun V_ hV hVh => by show KS Z own_KL V_.vm V_.heap; rw [hVh]; exact Ks0.at_ (s := s) hV)) (g := (mkF m 6 #[.val (.ref a), .val (.ref b)] [.null, (.int (0 : Int32)), (.int (0 : Int32)), (.ref b), (.ref a)])) rfl (by rw [hml]; rfl) (a := a) (argsL := [(.ref b), (.int (0 : Int32)), (.int (0 : Int32)), .null]) (rest := []) (lenOf pd_0 rfl) rfl (by show 2 * 0 + _ ≤ _; exact Nat.le_of_eq rfl) (hb hby d2_6) (fun _ _ => ⟨rfl, e0, (by first | decide | omega | (dsimp only; omega) : 0 + 2 ≤ _), (by first | decide | omega | (dsimp only; omega) : 0 + 4 ≤ _)⟩)
  dsimp only [Pt.U, Pt.locs, Pt.cells, Pt.slots] at X2 l2 y2 z2 st2 hQ2 Si2 hKv2 hKh2
  subst l2 y2 z2
  obtain ⟨tb2, tk2, rfl, N2q, K2, u2_0, u2_1, u2_2, u2_3⟩ := hQ2
  have N2 := Fr.app N0 N2q
  refine Goes.via st2 ?_
  obtain ⟨X2', SI2, hZ, hown⟩ := rebS SI0 (Nat.zero_le _) X2 Si2 K2.1 hZ hown
  have Ks2 : KS Z own_KL T2.vm T2.heap := by rw [← hKv2, ← hKh2]; exact hK2
  have ne3 : a ≠ tb2 := own_ne_arr u2_0 (hw _ (List.mem_of_getElem? (i := 6) rfl)) u2_3
  show Goes p e below _ (T2.setTop (mkF m 9 #[.val (.ref a), .val (.ref b)] []))
  have K4 : Keep h0 T2.heap [a] := ((Keep.refl h0 [a]).trans K2 (allS (Or.inl (List.mem_of_getElem? (i := 0) rfl)) all0))
  have hKe : KS Z own_KL T2.vm T2.heap := by rw [show T2.heap = T2.heap from rfl]; exact Ks2.at_ (s := s) X2'.warmed
  exact own_wfinV X2' SI2 (Nat.le_refl _) (fun U_ hv hh_ => by show KS Z own_KL U_.vm U_.heap; rw [hv, hh_]; exact hKe) hx hlk hret (hb hby d2_9) (by exact ⟨tb2, tk2, rfl, N2, K4, u2_0, u2_1, u2_2, u2_3⟩) (by first | decide | omega | (dsimp only; omega)) (by first | decide | omega | (dsimp only; omega))
theorem ef_rm1 (m : MethodId) (n_ : Int32) (c_ : Int32) (d_ : Int32) : entryFrame m #[(.int n_), (.int c_), (.int d_)] 3 = mkF m 0 #[.val (.int n_), .val (.int c_), .val (.int d_)] [] := by first | (simp [entryFrame, mkF, argsToLocals, Value.category]; done) | rfl
def Qrm1 (Z : State) (n_ : Int32) (c_ : Int32) (d_ : Int32) (cS : Int32) (h0 : Heap) (n0 : Nat) (v_ : Option Value) (h_ : Heap) (L_ : List Loc) : Prop := ∃ nb : Addr, ∃ tb : Addr, ∃ tk : ClassId, v_ = some (.ref nb) ∧ Fr n0 L_ ∧ Keep h0 h_ [] ∧ h0.size ≤ nb ∧ Exa Z h_ nb "java/lang/String" ∧ Fld Z h_ nb "java/lang/String" "coder" "B" (.int (0 : Int32)) ∧ Fld Z h_ nb "java/lang/String" "value" "[B" (.ref tb) ∧ Arv Z h_ tb tk .byte (own_n n_ c_ d_) (own_v n_ c_ d_) (.int 0)
theorem pn_com_example_map_rewriter_maprewriter_core_AtomIsSymbolPinLaw : plainName "com/example/map_rewriter/maprewriter/core/AtomIsSymbolPinLaw" = true := by first | (simp [plainName, overriddenIn]; done) | decide +kernel
theorem d1_0 : decode method_3_code 0 = .ok (.iload_n 0, 1) := by decide +kernel
theorem d1_1 : decode method_3_code 1 = .ok (.ifCond .ne 14, 3) := by decide +kernel
theorem d1_4 : decode method_3_code 4 = .ok (.new 31, 3) := by decide +kernel
theorem d1_7 : decode method_3_code 7 = .ok (.dup, 1) := by decide +kernel
theorem d1_8 : decode method_3_code 8 = .ok (.iconst 0, 1) := by decide +kernel
theorem d1_9 : decode method_3_code 9 = .ok (.newarray .char, 2) := by decide +kernel
theorem pd_1 : parseMethodDescriptor "([C)V" = some ⟨[(.array .char)], none⟩ := by decide +kernel
theorem d1_11 : decode method_3_code 11 = .ok (.invokespecial 33, 3) := by decide +kernel
theorem d1_14 : decode method_3_code 14 = .ok (.areturn, 1) := by decide +kernel
theorem d1_15 : decode method_3_code 15 = .ok (.iload_n 0, 1) := by decide +kernel
theorem d1_16 : decode method_3_code 16 = .ok (.iconst 1, 1) := by decide +kernel
theorem d1_17 : decode method_3_code 17 = .ok (.if_icmp .ne 18, 3) := by decide +kernel
theorem d1_20 : decode method_3_code 20 = .ok (.new 31, 3) := by decide +kernel
theorem d1_23 : decode method_3_code 23 = .ok (.dup, 1) := by decide +kernel
theorem d1_24 : decode method_3_code 24 = .ok (.iconst 1, 1) := by decide +kernel
theorem d1_25 : decode method_3_code 25 = .ok (.newarray .char, 2) := by decide +kernel
theorem d1_27 : decode method_3_code 27 = .ok (.dup, 1) := by decide +kernel
theorem d1_28 : decode method_3_code 28 = .ok (.iconst 0, 1) := by decide +kernel
theorem d1_29 : decode method_3_code 29 = .ok (.iload_n 1, 1) := by decide +kernel
theorem d1_30 : decode method_3_code 30 = .ok (.castore, 1) := by decide +kernel
theorem d1_31 : decode method_3_code 31 = .ok (.invokespecial 33, 3) := by decide +kernel
theorem d1_34 : decode method_3_code 34 = .ok (.areturn, 1) := by decide +kernel
theorem d1_35 : decode method_3_code 35 = .ok (.new 31, 3) := by decide +kernel
theorem d1_38 : decode method_3_code 38 = .ok (.dup, 1) := by decide +kernel
theorem d1_39 : decode method_3_code 39 = .ok (.iconst 2, 1) := by decide +kernel
theorem d1_40 : decode method_3_code 40 = .ok (.newarray .char, 2) := by decide +kernel
theorem d1_42 : decode method_3_code 42 = .ok (.dup, 1) := by decide +kernel
theorem d1_43 : decode method_3_code 43 = .ok (.iconst 0, 1) := by decide +kernel
theorem d1_44 : decode method_3_code 44 = .ok (.iload_n 1, 1) := by decide +kernel
theorem d1_45 : decode method_3_code 45 = .ok (.castore, 1) := by decide +kernel
theorem d1_46 : decode method_3_code 46 = .ok (.dup, 1) := by decide +kernel
theorem d1_47 : decode method_3_code 47 = .ok (.iconst 1, 1) := by decide +kernel
theorem d1_48 : decode method_3_code 48 = .ok (.iload_n 2, 1) := by decide +kernel
theorem d1_49 : decode method_3_code 49 = .ok (.castore, 1) := by decide +kernel
theorem d1_50 : decode method_3_code 50 = .ok (.invokespecial 33, 3) := by decide +kernel
theorem d1_53 : decode method_3_code 53 = .ok (.areturn, 1) := by decide +kernel
set_option maxRecDepth 65536 in
set_option maxHeartbeats 40000000 in
theorem rm1 (l : Launch) (Z : State) (a0 : Array Value) (hw : ∀ d ∈ tables_1, d.before a0 Z = true) (ws : List Jvm.Cond) (n_ : Int32) (c_ : Int32) (d_ : Int32) (cS : Int32) (h0 : Heap) (n0 : Nat) (Z0 : n0 ≤ h0.size) (H0 : c_ &&& (255 : Int32) = c_) (H1 : d_ &&& (255 : Int32) = d_) (S2_java_lang_String_COMPACT_STRINGS_COMPACT_STRINGS : Sta Z h0 "java/lang/String" "COMPACT_STRINGS" "Z" (.int cS)) (H_cs : ¬ cS = (0 : Int32)) (HO : Old Z n0 h0) (HW : Jvm.Lit.compactW.before a0 Z = true) (HC0 : Jvm.Lit.constHeld Z "java/lang/String" 7) :
    MetFree l (⟨"com/example/map_rewriter/maprewriter/core/AtomIsSymbolPinLaw", "make", "(ICC)Ljava/lang/String;"⟩ : MethodName) (head1 (Jvm.Cond.code (⟨"com/example/map_rewriter/maprewriter/core/AtomIsSymbolPinLaw", "make", "(ICC)Ljava/lang/String;"⟩ : MethodName) method_3_code 3 (some (.object "java/lang/String")) :: ws) ({ frames := 4, cells := 4, slots := 8, locals := 66 } : Room)) (fun as_ U_ => as_ = #[(.int n_), (.int c_), (.int d_)] ∧ Z.Warmed39 U_.vm ∧ U_.heap = h0 ∧ KS Z own_KL U_.vm U_.heap) (fun _ _ _ _ _ => True) (fun _ U_ o_ V_ => ∃ v_ L_, o_ = .returned v_ ∧ Qrm1 Z n_ c_ d_ cS h0 n0 v_ V_.heap L_ ∧ KS Z own_KL V_.vm V_.heap ∧ ReturnedEndW U_ o_ V_ L_ ({ frames := 4, cells := 4, slots := 8, locals := 66 } : Room).cells ({ frames := 4, cells := 4, slots := 8, locals := 66 } : Room).slots) := by
  refine MetFree.of_bodySF (plainFor_of_name pn_com_example_map_rewriter_maprewriter_core_AtomIsSymbolPinLaw) hisR ?_
  intro p e s m args below meth c s₁ Bd hml0 hP hK
  obtain ⟨rfl, hZ, hh, hKs⟩ := hP
  have hx := Bd.exec
  have hby := Bd.bytes
  have hlk : meth.locks = false := BodyLoose.notSynchronized Bd
  have hret := Bd.returns
  have hml : c.maxLocals = 3 := hml0
  have hown : s.vm.findClass "com/example/map_rewriter/maprewriter/core/AtomIsSymbolPinLaw" = some m.cls := findClass_of_methodNamed Bd.named
  have hnm := (name_of_methodNamed Bd.named Bd.method).1
  have X0 : Stand p l e ({ frames := 4, cells := 4, slots := 8, locals := 66 } : Room) (s.setVm s.vm) m #[(.int n_), (.int c_), (.int d_)] below meth c s₁ [] 0 0 := Stand.of_body Bd
  have e0 : s₁.heap = h0 := by rw [← hh, Bd.state]; rfl
  have N0 := Fr.nil n0
  show Goes p e below (Fin_W s (Qrm1 Z n_ c_ d_ cS h0 n0) (fun U_ => KS Z own_KL U_.vm U_.heap) ({ frames := 4, cells := 4, slots := 8, locals := 66 } : Room).cells ({ frames := 4, cells := 4, slots := 8, locals := 66 } : Room).slots) (s₁.setTop (entryFrame m #[(.int n_), (.int c_), (.int d_)] 3))
  rw [ef_rm1 m n_ c_ d_]
  have SI0 : s.Since s.vm 0 := (State.WarmedH.refl s).since 0
  have Ks0 : KS Z own_KL s.vm h0 := hh ▸ hKs
  refine Goes.via (fun _ kk_ => XS.iloadN X0.here hx rfl (hb hby d1_0) rfl  kk_) ?_
  show Goes p e below _ (s₁.setTop (mkF m 1 #[.val (.int n_), .val (.int c_), .val (.int d_)] [(.int n_)]))
  by_cases hc1 : n_ = (0 : Int32)
  · skip
    refine Goes.via (fun _ kk_ => XS.ifNo X0.here hx rfl (hb hby d1_1) rfl ((if0 _ _).trans (teq hc1).2) kk_) ?_
    show Goes p e below _ (s₁.setTop (mkF m 4 #[.val (.int n_), .val (.int c_), .val (.int d_)] []))
    obtain ⟨T1, h1, X1, e1, E1, A1, D1, -, st1⟩ := newO X0 hx hZ hown (hw _ (List.mem_of_getElem? (i := 5) rfl)) (hw _ (List.mem_of_getElem? (i := 6) rfl)) (hw _ (List.mem_of_getElem? (i := 7) rfl)) e0 (g := (mkF m 4 #[.val (.int n_), .val (.int c_), .val (.int d_)] [])) rfl (hb hby d1_4) (by first | decide | omega | (dsimp only; omega)) (by first | decide | omega | (dsimp only; omega))
    obtain ⟨b1, g1⟩ : ∃ z, z = (h0).size := ⟨_, rfl⟩
    rw [← g1] at A1 D1 st1
    have sz_b1 : h0.size ≤ b1 := Nat.le_trans (Nat.le_refl _) (Nat.le_of_eq g1.symm)
    have gn_b1 : n0 ≤ b1 := Nat.le_trans Z0 sz_b1
    have F_value_b1 : Fld Z h1 b1 "java/lang/String" "value" "[B" .null := D1 (Or.inr (hw _ (List.mem_of_getElem? (i := 21) rfl))) (ty := (.array .byte)) (by decide)
    have F_coder_b1 : Fld Z h1 b1 "java/lang/String" "coder" "B" (.int (0 : Int32)) := D1 (Or.inr (hw _ (List.mem_of_getElem? (i := 22) rfl))) (ty := .byte) (by decide)
    refine Goes.via st1 ?_
    show Goes p e below _ (T1.setTop (mkF m 7 #[.val (.int n_), .val (.int c_), .val (.int d_)] [(.ref b1)]))
    refine Goes.via (fun _ kk_ => XS.dup X1.here hx rfl (hb hby d1_7) rfl rfl kk_) ?_
    show Goes p e below _ (T1.setTop (mkF m 8 #[.val (.int n_), .val (.int c_), .val (.int d_)] [(.ref b1), (.ref b1)]))
    refine Goes.via (fun _ kk_ => XS.iconst X1.here hx rfl (hb hby d1_8) kk_) ?_
    show Goes p e below _ (T1.setTop (mkF m 9 #[.val (.int n_), .val (.int c_), .val (.int d_)] [(.int (0 : Int32)), (.ref b1), (.ref b1)]))
    obtain ⟨T2, h2, k2, X2, e2, E2, A2, st2⟩ := own_newP X1 hx hZ (hw _ (List.mem_of_getElem? (i := 8) rfl)) e1 (g := (mkF m 9 #[.val (.int n_), .val (.int c_), .val (.int d_)] [(.int (0 : Int32)), (.ref b1), (.ref b1)])) rfl (hb hby d1_9) rfl (n := (0 : Int32)) (N := 0) (by decide) (by decide) (cap := 0) (by first | decide | omega | (dsimp only; omega)) (by first | decide | omega | (dsimp only; omega)) (by first | decide | omega | (dsimp only; omega)) (by first | decide | omega | (dsimp only; omega))
    obtain ⟨b2, g2⟩ : ∃ z, z = (h1).size := ⟨_, rfl⟩
    rw [← g2] at A2 st2
    have lne3 : b1 < b2 := Nat.lt_of_lt_of_le A1.lt (Nat.le_of_eq g2.symm)
    have ne3 : b1 ≠ b2 := Nat.ne_of_lt lne3
    have z4 : h0.size ≤ (h1).size := (Nat.le_trans (Nat.le_refl _) E1.1)
    have sz_b2 : h0.size ≤ b2 := Nat.le_trans z4 (Nat.le_of_eq g2.symm)
    have gn_b2 : n0 ≤ b2 := Nat.le_trans Z0 sz_b2
    refine Goes.via st2 ?_
    show Goes p e below _ (T2.setTop (mkF m 11 #[.val (.int n_), .val (.int c_), .val (.int d_)] [(.ref b2), (.ref b1), (.ref b1)]))
    have f5 : Exa Z h2 b1 "java/lang/String" := (A1.ext E2)
    have f6 : Fld Z h2 b1 "java/lang/String" "value" "[B" .null := (F_value_b1.ext E2)
    have f7 : Fld Z h2 b1 "java/lang/String" "coder" "B" (.int (0 : Int32)) := (F_coder_b1.ext E2)
    have ol8 : Old Z n0 (h2) := ((HO.ext E1).ext E2)
    have z10 : h0.size ≤ (h2).size := (Nat.le_trans z4 E2.1)
    have Ks11 : KS Z own_KL s.vm (h2) := ((Ks0.ext E1).ext E2)
    have sk12 : _ ≤ (h2).size := (Nat.le_trans (Nat.le_trans (Nat.zero_le _) E1.1) E2.1)
    obtain ⟨_, _, ⟨T9, L9, k9, n9⟩, -, ⟨X9, Si9⟩, ⟨Lc9, ⟨hQ9, tK9, hK9, hKv9, hKh9⟩, l9, y9, z9⟩, st9⟩ := own_specialW X2 hx (y := (⟨"java/lang/String", "<init>", "([C)V"⟩ : MethodName)) rfl hown (mvT hZ (hw _ (List.mem_of_getElem? (i := 9) rfl))) (mvT hZ (hw _ (List.mem_of_getElem? (i := 10) rfl))) (mvT hZ (hw _ (List.mem_of_getElem? (i := 11) rfl))) (by decide) (own_backOfW (W := 1) (K := (fun U_ => KS Z own_KL U_.vm U_.heap)) (KP := (fun U_ => KS Z own_KL U_.vm U_.heap)) (rm2e l Z a0 hw [] b1 b2 k2 (fun _ => (.int 0)) h2 n0 (Nat.le_trans Z0 z10) f5 f6 f7 gn_b1 A2 ol8 (by first | assumption | rfl | decide | omega | (simp; done)) (by first | assumption | rfl | decide | omega | (simp; done))) hZ (hw _ (List.mem_of_getElem? (i := 11) rfl)) (hw _ (List.mem_of_getElem? (i := 7) rfl)) (by decide) (by decide) (fun V_ hV hVh => by show KS Z own_KL V_.vm V_.heap; rw [hVh]; exact Ks11.at_ (s := s) hV)) (g := (mkF m 11 #[.val (.int n_), .val (.int c_), .val (.int d_)] [(.ref b2), (.ref b1), (.ref b1)])) rfl (by rw [hml]; rfl) (a := b1) (argsL := [(.ref b2)]) (rest := [(.ref b1)]) (lenOf pd_1 rfl) rfl (by show 2 * 0 + _ ≤ _; exact Nat.le_of_eq rfl) (hb hby d1_11) (fun _ _ => ⟨rfl, e2, (by first | decide | omega | (dsimp only; omega) : 2 + 2 ≤ _), (by first | decide | omega | (dsimp only; omega) : 4 + 4 ≤ _)⟩)
    dsimp only [Pt.U, Pt.locs, Pt.cells, Pt.slots] at X9 l9 y9 z9 st9 hQ9 Si9 hKv9 hKh9
    subst l9 y9 z9
    obtain ⟨tb9, tk9, rfl, N9q, K9, u9_0, u9_1, u9_2, u9_3⟩ := hQ9
    have N9 := Fr.app N0 N9q
    refine Goes.via st9 ?_
    obtain ⟨X9', SI9, hZ, hown⟩ := rebS SI0 sk12 X9 Si9 K9.1 hZ hown
    have Ks9 : KS Z own_KL T9.vm T9.heap := by rw [← hKv9, ← hKh9]; exact hK9
    have ne13 : b1 ≠ tb9 := own_ne_arr u9_0 (hw _ (List.mem_of_getElem? (i := 6) rfl)) u9_3
    show Goes p e below _ (T9.setTop (mkF m 14 #[.val (.int n_), .val (.int c_), .val (.int d_)] [(.ref b1)]))
    have Vf : Arv Z T9.heap tb9 tk9 .byte (own_n n_ c_ d_) (own_v n_ c_ d_) (.int 0) := (by have q := Arw.toArv (vs := []) (dv := .int 0) (z := 0) u9_3 (by decide) (fun i hi => by cases hi); unfold own_n own_v; rw [own_cs0 c_ d_ hc1]; exact q)
    have K14 : Keep h0 T9.heap [] := ((((Keep.refl h0 []).ext E1).ext E2).trans K9 (allS (Or.inr sz_b1) all0))
    have hKe : KS Z own_KL T9.vm T9.heap := by rw [show T9.heap = T9.heap from rfl]; exact Ks9.at_ (s := s) X9'.warmed
    exact own_wfinR X9' SI9 (Nat.le_refl _) (fun U_ hv hh_ => by show KS Z own_KL U_.vm U_.heap; rw [hv, hh_]; exact hKe) hx hlk hret rfl rfl rfl (hb hby d1_14) (by exact ⟨b1, tb9, tk9, rfl, N9, K14, sz_b1, u9_0, u9_1, u9_2, Vf⟩) (by first | decide | omega | (dsimp only; omega)) (by first | decide | omega | (dsimp only; omega))
  · skip
    refine Goes.via (fun _ kk_ => XS.ifYes X0.here hx rfl (pc0 := 1) (pc' := 15) rfl (hb hby d1_1) rfl ((if0 _ _).trans (feq hc1).2) (by decide) (by decide) kk_) ?_
    show Goes p e below _ (s₁.setTop (mkF m 15 #[.val (.int n_), .val (.int c_), .val (.int d_)] []))
    refine Goes.via (fun _ kk_ => XS.iloadN X0.here hx rfl (hb hby d1_15) rfl  kk_) ?_
    show Goes p e below _ (s₁.setTop (mkF m 16 #[.val (.int n_), .val (.int c_), .val (.int d_)] [(.int n_)]))
    refine Goes.via (fun _ kk_ => XS.iconst X0.here hx rfl (hb hby d1_16) kk_) ?_
    show Goes p e below _ (s₁.setTop (mkF m 17 #[.val (.int n_), .val (.int c_), .val (.int d_)] [(.int (1 : Int32)), (.int n_)]))
    by_cases hc17 : n_ = (1 : Int32)
    · skip
      refine Goes.via (fun _ kk_ => XS.icmpNo X0.here hx rfl (hb hby d1_17) rfl (teq hc17).2 kk_) ?_
      show Goes p e below _ (s₁.setTop (mkF m 20 #[.val (.int n_), .val (.int c_), .val (.int d_)] []))
      obtain ⟨T15, h15, X15, e15, E15, A15, D15, -, st15⟩ := newO X0 hx hZ hown (hw _ (List.mem_of_getElem? (i := 5) rfl)) (hw _ (List.mem_of_getElem? (i := 6) rfl)) (hw _ (List.mem_of_getElem? (i := 7) rfl)) e0 (g := (mkF m 20 #[.val (.int n_), .val (.int c_), .val (.int d_)] [])) rfl (hb hby d1_20) (by first | decide | omega | (dsimp only; omega)) (by first | decide | omega | (dsimp only; omega))
      obtain ⟨b15, g15⟩ : ∃ z, z = (h0).size := ⟨_, rfl⟩
      rw [← g15] at A15 D15 st15
      have sz_b15 : h0.size ≤ b15 := Nat.le_trans (Nat.le_refl _) (Nat.le_of_eq g15.symm)
      have gn_b15 : n0 ≤ b15 := Nat.le_trans Z0 sz_b15
      have F_value_b15 : Fld Z h15 b15 "java/lang/String" "value" "[B" .null := D15 (Or.inr (hw _ (List.mem_of_getElem? (i := 21) rfl))) (ty := (.array .byte)) (by decide)
      have F_coder_b15 : Fld Z h15 b15 "java/lang/String" "coder" "B" (.int (0 : Int32)) := D15 (Or.inr (hw _ (List.mem_of_getElem? (i := 22) rfl))) (ty := .byte) (by decide)
      refine Goes.via st15 ?_
      show Goes p e below _ (T15.setTop (mkF m 23 #[.val (.int n_), .val (.int c_), .val (.int d_)] [(.ref b15)]))
      refine Goes.via (fun _ kk_ => XS.dup X15.here hx rfl (hb hby d1_23) rfl rfl kk_) ?_
      show Goes p e below _ (T15.setTop (mkF m 24 #[.val (.int n_), .val (.int c_), .val (.int d_)] [(.ref b15), (.ref b15)]))
      refine Goes.via (fun _ kk_ => XS.iconst X15.here hx rfl (hb hby d1_24) kk_) ?_
      show Goes p e below _ (T15.setTop (mkF m 25 #[.val (.int n_), .val (.int c_), .val (.int d_)] [(.int (1 : Int32)), (.ref b15), (.ref b15)]))
      obtain ⟨T16, h16, k16, X16, e16, E16, A16, st16⟩ := own_newP X15 hx hZ (hw _ (List.mem_of_getElem? (i := 8) rfl)) e15 (g := (mkF m 25 #[.val (.int n_), .val (.int c_), .val (.int d_)] [(.int (1 : Int32)), (.ref b15), (.ref b15)])) rfl (hb hby d1_25) rfl (n := (1 : Int32)) (N := 1) (by decide) (by decide) (cap := 1) (by first | decide | omega | (dsimp only; omega)) (by first | decide | omega | (dsimp only; omega)) (by first | decide | omega | (dsimp only; omega)) (by first | decide | omega | (dsimp only; omega))
      obtain ⟨b16, g16⟩ : ∃ z, z = (h15).size := ⟨_, rfl⟩
      rw [← g16] at A16 st16
      have lne17 : b15 < b16 := Nat.lt_of_lt_of_le A15.lt (Nat.le_of_eq g16.symm)
      have ne17 : b15 ≠ b16 := Nat.ne_of_lt lne17
      have z18 : h0.size ≤ (h15).size := (Nat.le_trans (Nat.le_refl _) E15.1)
      have sz_b16 : h0.size ≤ b16 := Nat.le_trans z18 (Nat.le_of_eq g16.symm)
      have gn_b16 : n0 ≤ b16 := Nat.le_trans Z0 sz_b16
      refine Goes.via st16 ?_
      show Goes p e below _ (T16.setTop (mkF m 27 #[.val (.int n_), .val (.int c_), .val (.int d_)] [(.ref b16), (.ref b15), (.ref b15)]))
      refine Goes.via (fun _ kk_ => XS.dup X16.here hx rfl (hb hby d1_27) rfl rfl kk_) ?_
      show Goes p e below _ (T16.setTop (mkF m 28 #[.val (.int n_), .val (.int c_), .val (.int d_)] [(.ref b16), (.ref b16), (.ref b15), (.ref b15)]))
      refine Goes.via (fun _ kk_ => XS.iconst X16.here hx rfl (hb hby d1_28) kk_) ?_
      show Goes p e below _ (T16.setTop (mkF m 29 #[.val (.int n_), .val (.int c_), .val (.int d_)] [(.int (0 : Int32)), (.ref b16), (.ref b16), (.ref b15), (.ref b15)]))
      refine Goes.via (fun _ kk_ => XS.iloadN X16.here hx rfl (hb hby d1_29) rfl  kk_) ?_
      show Goes p e below _ (T16.setTop (mkF m 30 #[.val (.int n_), .val (.int c_), .val (.int d_)] [(.int c_), (.int (0 : Int32)), (.ref b16), (.ref b16), (.ref b15), (.ref b15)]))
      obtain ⟨T19, h19, X19, e19, W19, A19, st19⟩ := own_castore X16 hx hZ e16 A16 (j := (0 : Int32)) (i := 0) (by decide) (by decide) (by first | decide | omega | (dsimp only; omega)) (g := (mkF m 30 #[.val (.int n_), .val (.int c_), .val (.int d_)] [(.int c_), (.int (0 : Int32)), (.ref b16), (.ref b16), (.ref b15), (.ref b15)])) rfl rfl (hb hby d1_30)
      refine Goes.via st19 ?_
      have N19 := Fr.snoc X19 N0 gn_b16
      show Goes p e below _ (T19.setTop (mkF m 31 #[.val (.int n_), .val (.int c_), .val (.int d_)] [(.ref b16), (.ref b15), (.ref b15)]))
      have Va20 : Arv Z h19 b16 k16 .char (1 : Int32) ([(nar .char c_)].map Value.int) (.int (0 : Int32)) := A19.toArv (by decide) (by intro i hi; match i, hi with | 0, _ => rfl)
      have f21 : Exa Z h19 b15 "java/lang/String" := ((A15.ext E16).wr W19)
      have f22 : Fld Z h19 b15 "java/lang/String" "value" "[B" .null := ((F_value_b15.ext E16).other W19 (Or.inl ne17))
      have f23 : Fld Z h19 b15 "java/lang/String" "coder" "B" (.int (0 : Int32)) := ((F_coder_b15.ext E16).other W19 (Or.inl ne17))
      have f24 : Sta Z h19 "java/lang/String" "COMPACT_STRINGS" "Z" (.int cS) := (((S2_java_lang_String_COMPACT_STRINGS_COMPACT_STRINGS.ext E15).ext E16).wr W19)
      have z25 : h0.size ≤ (h19).size := (Nat.le_trans (Nat.le_trans z18 E16.1) (Nat.le_of_eq W19.size.symm))
      have hws20 : ∀ d ∈ StrChars.Road.words, d.before a0 Z = true := fun d hd => hw d ((by decide +kernel : ∀ d ∈ StrChars.Road.words, d ∈ tables_1) d hd)
      have hlat20 : ∀ c ∈ [(nar .char c_)], ¬ c < 0 ∧ ¬ (255 : Int32) < c := (by intro x hx; have q := own_lat (n := n_) H0 H1 x; rw [own_cs1 c_ d_ hc1 hc17] at q; exact q hx)
      obtain ⟨_, _, ⟨T20, L20, k20, n20⟩, -, X20, ⟨Lc20, hQ20, l20, y20, z20⟩, st20⟩ := X19.specialBack hx (y := (⟨"java/lang/String", "<init>", "([C)V"⟩ : MethodName)) rfl hown (mvT hZ (hw _ (List.mem_of_getElem? (i := 9) rfl))) (mvT hZ (hw _ (List.mem_of_getElem? (i := 10) rfl))) (mvT hZ (hw _ (List.mem_of_getElem? (i := 11) rfl))) (by decide) (StrChars.Road.backV (W := 1) hZ hws20 (kI := 4) (hw _ (List.mem_of_getElem? (i := 6) rfl)) (cs := [(nar .char c_)]) (bs := [(nar .char c_)].map (fun c => c.toInt8.toInt32)) (n := 1) gn_b15 (Nat.le_trans Z0 z25) f21 f22 f23 Va20 f24 H_cs rfl rfl (by decide) (by decide) hlat20 rfl (by decide) (by decide)) (g := (mkF m 31 #[.val (.int n_), .val (.int c_), .val (.int d_)] [(.ref b16), (.ref b15), (.ref b15)])) rfl (by rw [hml]; rfl) (Steps.refl _) (a := b15) (argsL := [(.ref b16)]) (rest := [(.ref b15)]) (lenOf pd_1 rfl) rfl (by show 2 * 0 + _ ≤ _; exact Nat.le_of_eq rfl) (hb hby d1_31) (fun _ _ => ⟨rfl, e19, (by first | decide | omega : 2 + 1 ≤ _), (by first | decide | omega : 5 + 1 ≤ _)⟩)
      dsimp only [Pt.U, Pt.locs, Pt.cells, Pt.slots] at X20 l20 y20 z20 st20 hQ20
      subst l20 y20 z20
      obtain ⟨rfl, N20q, K20, uE20, uC20, sb20, kb20, ug20, uz20, un20, uV20, uA20⟩ := hQ20
      have N20 := Fr.app N19 N20q
      have ne26 : b15 ≠ sb20 := Nat.ne_of_lt (Nat.lt_of_lt_of_le f21.lt uz20)
      have ne27 : b16 ≠ sb20 := Nat.ne_of_lt (Nat.lt_of_lt_of_le A19.lt uz20)
      have sz_sb20 : h0.size ≤ sb20 := Nat.le_trans z25 uz20
      refine Goes.tr st20 ?_
      show Goes p e below _ (T20.setTop (mkF m 34 #[.val (.int n_), .val (.int c_), .val (.int d_)] [(.ref b15)]))
      have Vf : Arv Z T20.heap sb20 kb20 .byte (own_n n_ c_ d_) (own_v n_ c_ d_) (.int 0) := (by unfold own_n own_v; rw [own_cs1 c_ d_ hc1 hc17]; exact uA20)
      have K28 : Keep h0 T20.heap [] := (((((Keep.refl h0 []).ext E15).ext E16).wr W19 (Or.inr sz_b16)).trans K20 (allS (Or.inr sz_b15) all0))
      have Ks29 : KS Z own_KL s.vm (T20.heap) := ((((Ks0.ext E15).ext E16).wr W19 (NoS.arr A16 (hw _ (List.mem_of_getElem? (i := 6) rfl)) (by intro q; cases q))).keep K20 (allS (NoS.str f21 (hw _ (List.mem_of_getElem? (i := 6) rfl)) f22) all0))
      have hKe : KS Z own_KL T20.vm T20.heap := by rw [show T20.heap = T20.heap from rfl]; exact Ks29.at_ (s := s) X20.warmed
      have sk30 : _ ≤ (T20.heap).size := (Nat.le_trans (Nat.le_trans (Nat.le_trans (Nat.le_trans (Nat.zero_le _) E15.1) E16.1) (Nat.le_of_eq W19.size.symm)) K20.1)
      exact own_wfinR X20 SI0 sk30 (fun U_ hv hh_ => by show KS Z own_KL U_.vm U_.heap; rw [hv, hh_]; exact hKe) hx hlk hret rfl rfl rfl (hb hby d1_34) (by exact ⟨b15, sb20, kb20, rfl, N20, K28, sz_b15, uE20, uC20, uV20, Vf⟩) (by first | decide | omega | (dsimp only; omega)) (by first | decide | omega | (dsimp only; omega))
    · skip
      refine Goes.via (fun _ kk_ => XS.icmpYes X0.here hx rfl (pc0 := 17) (pc' := 35) rfl (hb hby d1_17) rfl (feq hc17).2 (by decide) (by decide) kk_) ?_
      show Goes p e below _ (s₁.setTop (mkF m 35 #[.val (.int n_), .val (.int c_), .val (.int d_)] []))
      obtain ⟨T31, h31, X31, e31, E31, A31, D31, -, st31⟩ := newO X0 hx hZ hown (hw _ (List.mem_of_getElem? (i := 5) rfl)) (hw _ (List.mem_of_getElem? (i := 6) rfl)) (hw _ (List.mem_of_getElem? (i := 7) rfl)) e0 (g := (mkF m 35 #[.val (.int n_), .val (.int c_), .val (.int d_)] [])) rfl (hb hby d1_35) (by first | decide | omega | (dsimp only; omega)) (by first | decide | omega | (dsimp only; omega))
      obtain ⟨b31, g31⟩ : ∃ z, z = (h0).size := ⟨_, rfl⟩
      rw [← g31] at A31 D31 st31
      have sz_b31 : h0.size ≤ b31 := Nat.le_trans (Nat.le_refl _) (Nat.le_of_eq g31.symm)
      have gn_b31 : n0 ≤ b31 := Nat.le_trans Z0 sz_b31
      have F_value_b31 : Fld Z h31 b31 "java/lang/String" "value" "[B" .null := D31 (Or.inr (hw _ (List.mem_of_getElem? (i := 21) rfl))) (ty := (.array .byte)) (by decide)
      have F_coder_b31 : Fld Z h31 b31 "java/lang/String" "coder" "B" (.int (0 : Int32)) := D31 (Or.inr (hw _ (List.mem_of_getElem? (i := 22) rfl))) (ty := .byte) (by decide)
      refine Goes.via st31 ?_
      show Goes p e below _ (T31.setTop (mkF m 38 #[.val (.int n_), .val (.int c_), .val (.int d_)] [(.ref b31)]))
      refine Goes.via (fun _ kk_ => XS.dup X31.here hx rfl (hb hby d1_38) rfl rfl kk_) ?_
      show Goes p e below _ (T31.setTop (mkF m 39 #[.val (.int n_), .val (.int c_), .val (.int d_)] [(.ref b31), (.ref b31)]))
      refine Goes.via (fun _ kk_ => XS.iconst X31.here hx rfl (hb hby d1_39) kk_) ?_
      show Goes p e below _ (T31.setTop (mkF m 40 #[.val (.int n_), .val (.int c_), .val (.int d_)] [(.int (2 : Int32)), (.ref b31), (.ref b31)]))
      obtain ⟨T32, h32, k32, X32, e32, E32, A32, st32⟩ := own_newP X31 hx hZ (hw _ (List.mem_of_getElem? (i := 8) rfl)) e31 (g := (mkF m 40 #[.val (.int n_), .val (.int c_), .val (.int d_)] [(.int (2 : Int32)), (.ref b31), (.ref b31)])) rfl (hb hby d1_40) rfl (n := (2 : Int32)) (N := 2) (by decide) (by decide) (cap := 2) (by first | decide | omega | (dsimp only; omega)) (by first | decide | omega | (dsimp only; omega)) (by first | decide | omega | (dsimp only; omega)) (by first | decide | omega | (dsimp only; omega))
      obtain ⟨b32, g32⟩ : ∃ z, z = (h31).size := ⟨_, rfl⟩
      rw [← g32] at A32 st32
      have lne33 : b31 < b32 := Nat.lt_of_lt_of_le A31.lt (Nat.le_of_eq g32.symm)
      have ne33 : b31 ≠ b32 := Nat.ne_of_lt lne33
      have z34 : h0.size ≤ (h31).size := (Nat.le_trans (Nat.le_refl _) E31.1)
      have sz_b32 : h0.size ≤ b32 := Nat.le_trans z34 (Nat.le_of_eq g32.symm)
      have gn_b32 : n0 ≤ b32 := Nat.le_trans Z0 sz_b32
      refine Goes.via st32 ?_
      show Goes p e below _ (T32.setTop (mkF m 42 #[.val (.int n_), .val (.int c_), .val (.int d_)] [(.ref b32), (.ref b31), (.ref b31)]))
      refine Goes.via (fun _ kk_ => XS.dup X32.here hx rfl (hb hby d1_42) rfl rfl kk_) ?_
      show Goes p e below _ (T32.setTop (mkF m 43 #[.val (.int n_), .val (.int c_), .val (.int d_)] [(.ref b32), (.ref b32), (.ref b31), (.ref b31)]))
      refine Goes.via (fun _ kk_ => XS.iconst X32.here hx rfl (hb hby d1_43) kk_) ?_
      show Goes p e below _ (T32.setTop (mkF m 44 #[.val (.int n_), .val (.int c_), .val (.int d_)] [(.int (0 : Int32)), (.ref b32), (.ref b32), (.ref b31), (.ref b31)]))
      refine Goes.via (fun _ kk_ => XS.iloadN X32.here hx rfl (hb hby d1_44) rfl  kk_) ?_
      show Goes p e below _ (T32.setTop (mkF m 45 #[.val (.int n_), .val (.int c_), .val (.int d_)] [(.int c_), (.int (0 : Int32)), (.ref b32), (.ref b32), (.ref b31), (.ref b31)]))
      obtain ⟨T35, h35, X35, e35, W35, A35, st35⟩ := own_castore X32 hx hZ e32 A32 (j := (0 : Int32)) (i := 0) (by decide) (by decide) (by first | decide | omega | (dsimp only; omega)) (g := (mkF m 45 #[.val (.int n_), .val (.int c_), .val (.int d_)] [(.int c_), (.int (0 : Int32)), (.ref b32), (.ref b32), (.ref b31), (.ref b31)])) rfl rfl (hb hby d1_45)
      refine Goes.via st35 ?_
      have N35 := Fr.snoc X35 N0 gn_b32
      show Goes p e below _ (T35.setTop (mkF m 46 #[.val (.int n_), .val (.int c_), .val (.int d_)] [(.ref b32), (.ref b31), (.ref b31)]))
      refine Goes.via (fun _ kk_ => XS.dup X35.here hx rfl (hb hby d1_46) rfl rfl kk_) ?_
      show Goes p e below _ (T35.setTop (mkF m 47 #[.val (.int n_), .val (.int c_), .val (.int d_)] [(.ref b32), (.ref b32), (.ref b31), (.ref b31)]))
      refine Goes.via (fun _ kk_ => XS.iconst X35.here hx rfl (hb hby d1_47) kk_) ?_
      show Goes p e below _ (T35.setTop (mkF m 48 #[.val (.int n_), .val (.int c_), .val (.int d_)] [(.int (1 : Int32)), (.ref b32), (.ref b32), (.ref b31), (.ref b31)]))
      refine Goes.via (fun _ kk_ => XS.iloadN X35.here hx rfl (hb hby d1_48) rfl  kk_) ?_
      show Goes p e below _ (T35.setTop (mkF m 49 #[.val (.int n_), .val (.int c_), .val (.int d_)] [(.int d_), (.int (1 : Int32)), (.ref b32), (.ref b32), (.ref b31), (.ref b31)]))
      obtain ⟨T36, h36, X36, e36, W36, A36, st36⟩ := own_castore X35 hx hZ e35 A35 (j := (1 : Int32)) (i := 1) (by decide) (by decide) (by first | decide | omega | (dsimp only; omega)) (g := (mkF m 49 #[.val (.int n_), .val (.int c_), .val (.int d_)] [(.int d_), (.int (1 : Int32)), (.ref b32), (.ref b32), (.ref b31), (.ref b31)])) rfl rfl (hb hby d1_49)
      refine Goes.via st36 ?_
      have N36 := Fr.snoc X36 N35 gn_b32
      show Goes p e below _ (T36.setTop (mkF m 50 #[.val (.int n_), .val (.int c_), .val (.int d_)] [(.ref b32), (.ref b31), (.ref b31)]))
      have Va37 : Arv Z h36 b32 k32 .char (2 : Int32) ([(nar .char c_), (nar .char d_)].map Value.int) (.int (0 : Int32)) := A36.toArv (by decide) (by intro i hi; match i, hi with | 0, _ => rfl | 1, _ => rfl)
      have f38 : Exa Z h36 b31 "java/lang/String" := (((A31.ext E32).wr W35).wr W36)
      have f39 : Fld Z h36 b31 "java/lang/String" "value" "[B" .null := (((F_value_b31.ext E32).other W35 (Or.inl ne33)).other W36 (Or.inl ne33))
      have f40 : Fld Z h36 b31 "java/lang/String" "coder" "B" (.int (0 : Int32)) := (((F_coder_b31.ext E32).other W35 (Or.inl ne33)).other W36 (Or.inl ne33))
      have f41 : Sta Z h36 "java/lang/String" "COMPACT_STRINGS" "Z" (.int cS) := ((((S2_java_lang_String_COMPACT_STRINGS_COMPACT_STRINGS.ext E31).ext E32).wr W35).wr W36)
      have z42 : h0.size ≤ (h36).size := (Nat.le_trans (Nat.le_trans (Nat.le_trans z34 E32.1) (Nat.le_of_eq W35.size.symm)) (Nat.le_of_eq W36.size.symm))
      have hws37 : ∀ d ∈ StrChars.Road.words, d.before a0 Z = true := fun d hd => hw d ((by decide +kernel : ∀ d ∈ StrChars.Road.words, d ∈ tables_1) d hd)
      have hlat37 : ∀ c ∈ [(nar .char c_), (nar .char d_)], ¬ c < 0 ∧ ¬ (255 : Int32) < c := (by intro x hx; have q := own_lat (n := n_) H0 H1 x; rw [own_cs2 c_ d_ hc1 hc17] at q; exact q hx)
      obtain ⟨_, _, ⟨T37, L37, k37, n37⟩, -, X37, ⟨Lc37, hQ37, l37, y37, z37⟩, st37⟩ := X36.specialBack hx (y := (⟨"java/lang/String", "<init>", "([C)V"⟩ : MethodName)) rfl hown (mvT hZ (hw _ (List.mem_of_getElem? (i := 9) rfl))) (mvT hZ (hw _ (List.mem_of_getElem? (i := 10) rfl))) (mvT hZ (hw _ (List.mem_of_getElem? (i := 11) rfl))) (by decide) (StrChars.Road.backV (W := 1) hZ hws37 (kI := 4) (hw _ (List.mem_of_getElem? (i := 6) rfl)) (cs := [(nar .char c_), (nar .char d_)]) (bs := [(nar .char c_), (nar .char d_)].map (fun c => c.toInt8.toInt32)) (n := 2) gn_b31 (Nat.le_trans Z0 z42) f38 f39 f40 Va37 f41 H_cs rfl rfl (by decide) (by decide) hlat37 rfl (by decide) (by decide)) (g := (mkF m 50 #[.val (.int n_), .val (.int c_), .val (.int d_)] [(.ref b32), (.ref b31), (.ref b31)])) rfl (by rw [hml]; rfl) (Steps.refl _) (a := b31) (argsL := [(.ref b32)]) (rest := [(.ref b31)]) (lenOf pd_1 rfl) rfl (by show 2 * 0 + _ ≤ _; exact Nat.le_of_eq rfl) (hb hby d1_50) (fun _ _ => ⟨rfl, e36, (by first | decide | omega : 2 + 1 ≤ _), (by first | decide | omega : 6 + 2 ≤ _)⟩)
      dsimp only [Pt.U, Pt.locs, Pt.cells, Pt.slots] at X37 l37 y37 z37 st37 hQ37
      subst l37 y37 z37
      obtain ⟨rfl, N37q, K37, uE37, uC37, sb37, kb37, ug37, uz37, un37, uV37, uA37⟩ := hQ37
      have N37 := Fr.app N36 N37q
      have ne43 : b31 ≠ sb37 := Nat.ne_of_lt (Nat.lt_of_lt_of_le f38.lt uz37)
      have ne44 : b32 ≠ sb37 := Nat.ne_of_lt (Nat.lt_of_lt_of_le A36.lt uz37)
      have sz_sb37 : h0.size ≤ sb37 := Nat.le_trans z42 uz37
      refine Goes.tr st37 ?_
      show Goes p e below _ (T37.setTop (mkF m 53 #[.val (.int n_), .val (.int c_), .val (.int d_)] [(.ref b31)]))
      have Vf : Arv Z T37.heap sb37 kb37 .byte (own_n n_ c_ d_) (own_v n_ c_ d_) (.int 0) := (by unfold own_n own_v; rw [own_cs2 c_ d_ hc1 hc17]; exact uA37)
      have K45 : Keep h0 T37.heap [] := ((((((Keep.refl h0 []).ext E31).ext E32).wr W35 (Or.inr sz_b32)).wr W36 (Or.inr sz_b32)).trans K37 (allS (Or.inr sz_b31) all0))
      have Ks46 : KS Z own_KL s.vm (T37.heap) := ((((Ks0.ext E31).ext E32).keep (((Keep.refl _ [b32]).wr W35 (Or.inl (List.mem_of_getElem? (i := 0) rfl))).wr W36 (Or.inl (List.mem_of_getElem? (i := 0) rfl))) (allS (NoS.arr A32 (hw _ (List.mem_of_getElem? (i := 6) rfl)) (by intro q; cases q)) all0)).keep K37 (allS (NoS.str f38 (hw _ (List.mem_of_getElem? (i := 6) rfl)) f39) all0))
      have hKe : KS Z own_KL T37.vm T37.heap := by rw [show T37.heap = T37.heap from rfl]; exact Ks46.at_ (s := s) X37.warmed
      have sk47 : _ ≤ (T37.heap).size := (Nat.le_trans (Nat.le_trans (Nat.le_trans (Nat.le_trans (Nat.le_trans (Nat.zero_le _) E31.1) E32.1) (Nat.le_of_eq W35.size.symm)) (Nat.le_of_eq W36.size.symm)) K37.1)
      exact own_wfinR X37 SI0 sk47 (fun U_ hv hh_ => by show KS Z own_KL U_.vm U_.heap; rw [hv, hh_]; exact hKe) hx hlk hret rfl rfl rfl (hb hby d1_53) (by exact ⟨b31, sb37, kb37, rfl, N37, K45, sz_b31, uE37, uC37, uV37, Vf⟩) (by first | decide | omega | (dsimp only; omega)) (by first | decide | omega | (dsimp only; omega))
theorem ef_rm5 (m : MethodId) (k_ : Int32) : entryFrame m #[(.int k_)] 1 = mkF m 0 #[.val (.int k_)] [] := by first | (simp [entryFrame, mkF, argsToLocals, Value.category]; done) | rfl
def Qrm5 (Z : State) (k_ : Int32) (A0 : Addr) (A1 : Addr) (A2 : Addr) (A3 : Addr) (A4 : Addr) (A5 : Addr) (A6 : Addr) (h0 : Heap) (n0 : Nat) (v_ : Option Value) (h_ : Heap) (L_ : List Loc) : Prop := ∃ ak : Addr, v_ = some (.ref ak) ∧ L_ = [] ∧ h_ = h0 ∧ ((k_ = (0 : Int32) ∧ ak = A0) ∨ (¬ k_ = (0 : Int32) ∧ ak ≠ A0))
theorem d5_0 : decode method_2_code 0 = .ok (.iload_n 0, 1) := by decide +kernel
theorem d5_1 : decode method_2_code 1 = .ok (.ifCond .ne 7, 3) := by decide +kernel
theorem d5_4 : decode method_2_code 4 = .ok (.getstatic 7, 3) := by decide +kernel
theorem d5_7 : decode method_2_code 7 = .ok (.areturn, 1) := by decide +kernel
theorem d5_8 : decode method_2_code 8 = .ok (.iload_n 0, 1) := by decide +kernel
theorem d5_9 : decode method_2_code 9 = .ok (.iconst 1, 1) := by decide +kernel
theorem d5_10 : decode method_2_code 10 = .ok (.if_icmp .ne 7, 3) := by decide +kernel
theorem d5_13 : decode method_2_code 13 = .ok (.getstatic 13, 3) := by decide +kernel
theorem d5_16 : decode method_2_code 16 = .ok (.areturn, 1) := by decide +kernel
theorem d5_17 : decode method_2_code 17 = .ok (.iload_n 0, 1) := by decide +kernel
theorem d5_18 : decode method_2_code 18 = .ok (.iconst 2, 1) := by decide +kernel
theorem d5_19 : decode method_2_code 19 = .ok (.if_icmp .ne 7, 3) := by decide +kernel
theorem d5_22 : decode method_2_code 22 = .ok (.getstatic 16, 3) := by decide +kernel
theorem d5_25 : decode method_2_code 25 = .ok (.areturn, 1) := by decide +kernel
theorem d5_26 : decode method_2_code 26 = .ok (.iload_n 0, 1) := by decide +kernel
theorem d5_27 : decode method_2_code 27 = .ok (.iconst 3, 1) := by decide +kernel
theorem d5_28 : decode method_2_code 28 = .ok (.if_icmp .ne 7, 3) := by decide +kernel
theorem d5_31 : decode method_2_code 31 = .ok (.getstatic 19, 3) := by decide +kernel
theorem d5_34 : decode method_2_code 34 = .ok (.areturn, 1) := by decide +kernel
theorem d5_35 : decode method_2_code 35 = .ok (.iload_n 0, 1) := by decide +kernel
theorem d5_36 : decode method_2_code 36 = .ok (.iconst 4, 1) := by decide +kernel
theorem d5_37 : decode method_2_code 37 = .ok (.if_icmp .ne 7, 3) := by decide +kernel
theorem d5_40 : decode method_2_code 40 = .ok (.getstatic 22, 3) := by decide +kernel
theorem d5_43 : decode method_2_code 43 = .ok (.areturn, 1) := by decide +kernel
theorem d5_44 : decode method_2_code 44 = .ok (.iload_n 0, 1) := by decide +kernel
theorem d5_45 : decode method_2_code 45 = .ok (.iconst 5, 1) := by decide +kernel
theorem d5_46 : decode method_2_code 46 = .ok (.if_icmp .ne 7, 3) := by decide +kernel
theorem d5_49 : decode method_2_code 49 = .ok (.getstatic 25, 3) := by decide +kernel
theorem d5_52 : decode method_2_code 52 = .ok (.areturn, 1) := by decide +kernel
theorem d5_53 : decode method_2_code 53 = .ok (.getstatic 28, 3) := by decide +kernel
theorem d5_56 : decode method_2_code 56 = .ok (.areturn, 1) := by decide +kernel
set_option maxRecDepth 65536 in
set_option maxHeartbeats 40000000 in
theorem rm5 (l : Launch) (Z : State) (a0 : Array Value) (hw : ∀ d ∈ tables_1, d.before a0 Z = true) (ws : List Jvm.Cond) (k_ : Int32) (A0 : Addr) (A1 : Addr) (A2 : Addr) (A3 : Addr) (A4 : Addr) (A5 : Addr) (A6 : Addr) (h0 : Heap) (n0 : Nat) (Z0 : n0 ≤ h0.size) (S0_com_example_map_rewriter_maprewriter_core_SExpression_Kind_SYMBOL_SYMBOL : Sta Z h0 "com/example/map_rewriter/maprewriter/core/SExpression$Kind" "SYMBOL" "Lcom/example/map_rewriter/maprewriter/core/SExpression$Kind;" (.ref A0)) (S1_com_example_map_rewriter_maprewriter_core_SExpression_Kind_KEYWORD_KEYWORD : Sta Z h0 "com/example/map_rewriter/maprewriter/core/SExpression$Kind" "KEYWORD" "Lcom/example/map_rewriter/maprewriter/core/SExpression$Kind;" (.ref A1)) (S2_com_example_map_rewriter_maprewriter_core_SExpression_Kind_NUMERAL_NUMERAL : Sta Z h0 "com/example/map_rewriter/maprewriter/core/SExpression$Kind" "NUMERAL" "Lcom/example/map_rewriter/maprewriter/core/SExpression$Kind;" (.ref A2)) (S3_com_example_map_rewriter_maprewriter_core_SExpression_Kind_DECIMAL_DECIMAL : Sta Z h0 "com/example/map_rewriter/maprewriter/core/SExpression$Kind" "DECIMAL" "Lcom/example/map_rewriter/maprewriter/core/SExpression$Kind;" (.ref A3)) (S4_com_example_map_rewriter_maprewriter_core_SExpression_Kind_HEXADECIMAL_HEXADECIMAL : Sta Z h0 "com/example/map_rewriter/maprewriter/core/SExpression$Kind" "HEXADECIMAL" "Lcom/example/map_rewriter/maprewriter/core/SExpression$Kind;" (.ref A4)) (S5_com_example_map_rewriter_maprewriter_core_SExpression_Kind_BINARY_BINARY : Sta Z h0 "com/example/map_rewriter/maprewriter/core/SExpression$Kind" "BINARY" "Lcom/example/map_rewriter/maprewriter/core/SExpression$Kind;" (.ref A5)) (S6_com_example_map_rewriter_maprewriter_core_SExpression_Kind_STRING_STRING : Sta Z h0 "com/example/map_rewriter/maprewriter/core/SExpression$Kind" "STRING" "Lcom/example/map_rewriter/maprewriter/core/SExpression$Kind;" (.ref A6)) (HN1 : A1 ≠ A0) (HN2 : A2 ≠ A0) (HN3 : A3 ≠ A0) (HN4 : A4 ≠ A0) (HN5 : A5 ≠ A0) (HN6 : A6 ≠ A0) :
    MetFree l (⟨"com/example/map_rewriter/maprewriter/core/AtomIsSymbolPinLaw", "kindOf", "(I)Lcom/example/map_rewriter/maprewriter/core/SExpression$Kind;"⟩ : MethodName) (head1 (Jvm.Cond.code (⟨"com/example/map_rewriter/maprewriter/core/AtomIsSymbolPinLaw", "kindOf", "(I)Lcom/example/map_rewriter/maprewriter/core/SExpression$Kind;"⟩ : MethodName) method_2_code 1 (some (.object "com/example/map_rewriter/maprewriter/core/SExpression$Kind")) :: ws) ({ frames := 0, cells := 0, slots := 0, locals := 0 } : Room)) (fun as_ U_ => as_ = #[(.int k_)] ∧ Z.Warmed39 U_.vm ∧ U_.heap = h0) (fun _ _ _ _ _ => True) (fun _ U_ o_ V_ => ∃ v_ L_, o_ = .returned v_ ∧ Qrm5 Z k_ A0 A1 A2 A3 A4 A5 A6 h0 n0 v_ V_.heap L_ ∧ FrameEnd U_ o_ V_ L_ ({ frames := 0, cells := 0, slots := 0, locals := 0 } : Room).cells ({ frames := 0, cells := 0, slots := 0, locals := 0 } : Room).slots) := by
  refine MetFree.of_bodySF (plainFor_of_name pn_com_example_map_rewriter_maprewriter_core_AtomIsSymbolPinLaw) hisR ?_
  intro p e s m args below meth c s₁ Bd hml0 hP hK
  obtain ⟨rfl, hZ, hh⟩ := hP
  have hx := Bd.exec
  have hby := Bd.bytes
  have hlk : meth.locks = false := BodyLoose.notSynchronized Bd
  have hret := Bd.returns
  have hml : c.maxLocals = 1 := hml0
  have hown : s.vm.findClass "com/example/map_rewriter/maprewriter/core/AtomIsSymbolPinLaw" = some m.cls := findClass_of_methodNamed Bd.named
  have hnm := (name_of_methodNamed Bd.named Bd.method).1
  have X0 : Stand p l e ({ frames := 0, cells := 0, slots := 0, locals := 0 } : Room) s m #[(.int k_)] below meth c s₁ [] 0 0 := Stand.of_body Bd
  have e0 : s₁.heap = h0 := by rw [← hh, Bd.state]; rfl
  have N0 := Fr.nil n0
  show Goes p e below (Fin_ s (Qrm5 Z k_ A0 A1 A2 A3 A4 A5 A6 h0 n0) ({ frames := 0, cells := 0, slots := 0, locals := 0 } : Room).cells ({ frames := 0, cells := 0, slots := 0, locals := 0 } : Room).slots) (s₁.setTop (entryFrame m #[(.int k_)] 1))
  rw [ef_rm5 m k_]
  refine Goes.via (fun _ kk_ => XS.iloadN X0.here hx rfl (hb hby d5_0) rfl  kk_) ?_
  show Goes p e below _ (s₁.setTop (mkF m 1 #[.val (.int k_)] [(.int k_)]))
  by_cases hc1 : k_ = (0 : Int32)
  · skip
    refine Goes.via (fun _ kk_ => XS.ifNo X0.here hx rfl (hb hby d5_1) rfl ((if0 _ _).trans (teq hc1).2) kk_) ?_
    show Goes p e below _ (s₁.setTop (mkF m 4 #[.val (.int k_)] []))
    obtain ⟨T1, X1, e1, st1⟩ := getS2 X0 hx hZ hown (host := "") (Or.inl (hw _ (List.mem_of_getElem? (i := 33) rfl))) Via.refl e0 S0_com_example_map_rewriter_maprewriter_core_SExpression_Kind_SYMBOL_SYMBOL (g := (mkF m 4 #[.val (.int k_)] [])) rfl (hb hby d5_4)
    refine Goes.via st1 ?_
    show Goes p e below _ (T1.setTop (mkF m 7 #[.val (.int k_)] [(.ref A0)]))
    exact own_finR X1 hx hlk hret rfl rfl rfl (hb hby d5_7) (by rw [e1]; exact ⟨A0, rfl, rfl, rfl, (Or.inl ⟨hc1, rfl⟩)⟩) (by first | decide | omega | (dsimp only; omega)) (by first | decide | omega | (dsimp only; omega))
  · skip
    refine Goes.via (fun _ kk_ => XS.ifYes X0.here hx rfl (pc0 := 1) (pc' := 8) rfl (hb hby d5_1) rfl ((if0 _ _).trans (feq hc1).2) (by decide) (by decide) kk_) ?_
    show Goes p e below _ (s₁.setTop (mkF m 8 #[.val (.int k_)] []))
    refine Goes.via (fun _ kk_ => XS.iloadN X0.here hx rfl (hb hby d5_8) rfl  kk_) ?_
    show Goes p e below _ (s₁.setTop (mkF m 9 #[.val (.int k_)] [(.int k_)]))
    refine Goes.via (fun _ kk_ => XS.iconst X0.here hx rfl (hb hby d5_9) kk_) ?_
    show Goes p e below _ (s₁.setTop (mkF m 10 #[.val (.int k_)] [(.int (1 : Int32)), (.int k_)]))
    by_cases hc10 : k_ = (1 : Int32)
    · skip
      refine Goes.via (fun _ kk_ => XS.icmpNo X0.here hx rfl (hb hby d5_10) rfl (teq hc10).2 kk_) ?_
      show Goes p e below _ (s₁.setTop (mkF m 13 #[.val (.int k_)] []))
      obtain ⟨T2, X2, e2, st2⟩ := getS2 X0 hx hZ hown (host := "") (Or.inl (hw _ (List.mem_of_getElem? (i := 86) rfl))) Via.refl e0 S1_com_example_map_rewriter_maprewriter_core_SExpression_Kind_KEYWORD_KEYWORD (g := (mkF m 13 #[.val (.int k_)] [])) rfl (hb hby d5_13)
      refine Goes.via st2 ?_
      show Goes p e below _ (T2.setTop (mkF m 16 #[.val (.int k_)] [(.ref A1)]))
      exact own_finR X2 hx hlk hret rfl rfl rfl (hb hby d5_16) (by rw [e2]; exact ⟨A1, rfl, rfl, rfl, (Or.inr ⟨hc1, HN1⟩)⟩) (by first | decide | omega | (dsimp only; omega)) (by first | decide | omega | (dsimp only; omega))
    · skip
      refine Goes.via (fun _ kk_ => XS.icmpYes X0.here hx rfl (pc0 := 10) (pc' := 17) rfl (hb hby d5_10) rfl (feq hc10).2 (by decide) (by decide) kk_) ?_
      show Goes p e below _ (s₁.setTop (mkF m 17 #[.val (.int k_)] []))
      refine Goes.via (fun _ kk_ => XS.iloadN X0.here hx rfl (hb hby d5_17) rfl  kk_) ?_
      show Goes p e below _ (s₁.setTop (mkF m 18 #[.val (.int k_)] [(.int k_)]))
      refine Goes.via (fun _ kk_ => XS.iconst X0.here hx rfl (hb hby d5_18) kk_) ?_
      show Goes p e below _ (s₁.setTop (mkF m 19 #[.val (.int k_)] [(.int (2 : Int32)), (.int k_)]))
      by_cases hc19 : k_ = (2 : Int32)
      · skip
        refine Goes.via (fun _ kk_ => XS.icmpNo X0.here hx rfl (hb hby d5_19) rfl (teq hc19).2 kk_) ?_
        show Goes p e below _ (s₁.setTop (mkF m 22 #[.val (.int k_)] []))
        obtain ⟨T3, X3, e3, st3⟩ := getS2 X0 hx hZ hown (host := "") (Or.inl (hw _ (List.mem_of_getElem? (i := 84) rfl))) Via.refl e0 S2_com_example_map_rewriter_maprewriter_core_SExpression_Kind_NUMERAL_NUMERAL (g := (mkF m 22 #[.val (.int k_)] [])) rfl (hb hby d5_22)
        refine Goes.via st3 ?_
        show Goes p e below _ (T3.setTop (mkF m 25 #[.val (.int k_)] [(.ref A2)]))
        exact own_finR X3 hx hlk hret rfl rfl rfl (hb hby d5_25) (by rw [e3]; exact ⟨A2, rfl, rfl, rfl, (Or.inr ⟨hc1, HN2⟩)⟩) (by first | decide | omega | (dsimp only; omega)) (by first | decide | omega | (dsimp only; omega))
      · skip
        refine Goes.via (fun _ kk_ => XS.icmpYes X0.here hx rfl (pc0 := 19) (pc' := 26) rfl (hb hby d5_19) rfl (feq hc19).2 (by decide) (by decide) kk_) ?_
        show Goes p e below _ (s₁.setTop (mkF m 26 #[.val (.int k_)] []))
        refine Goes.via (fun _ kk_ => XS.iloadN X0.here hx rfl (hb hby d5_26) rfl  kk_) ?_
        show Goes p e below _ (s₁.setTop (mkF m 27 #[.val (.int k_)] [(.int k_)]))
        refine Goes.via (fun _ kk_ => XS.iconst X0.here hx rfl (hb hby d5_27) kk_) ?_
        show Goes p e below _ (s₁.setTop (mkF m 28 #[.val (.int k_)] [(.int (3 : Int32)), (.int k_)]))
        by_cases hc28 : k_ = (3 : Int32)
        · skip
          refine Goes.via (fun _ kk_ => XS.icmpNo X0.here hx rfl (hb hby d5_28) rfl (teq hc28).2 kk_) ?_
          show Goes p e below _ (s₁.setTop (mkF m 31 #[.val (.int k_)] []))
          obtain ⟨T4, X4, e4, st4⟩ := getS2 X0 hx hZ hown (host := "") (Or.inl (hw _ (List.mem_of_getElem? (i := 88) rfl))) Via.refl e0 S3_com_example_map_rewriter_maprewriter_core_SExpression_Kind_DECIMAL_DECIMAL (g := (mkF m 31 #[.val (.int k_)] [])) rfl (hb hby d5_31)
          refine Goes.via st4 ?_
          show Goes p e below _ (T4.setTop (mkF m 34 #[.val (.int k_)] [(.ref A3)]))
          exact own_finR X4 hx hlk hret rfl rfl rfl (hb hby d5_34) (by rw [e4]; exact ⟨A3, rfl, rfl, rfl, (Or.inr ⟨hc1, HN3⟩)⟩) (by first | decide | omega | (dsimp only; omega)) (by first | decide | omega | (dsimp only; omega))
        · skip
          refine Goes.via (fun _ kk_ => XS.icmpYes X0.here hx rfl (pc0 := 28) (pc' := 35) rfl (hb hby d5_28) rfl (feq hc28).2 (by decide) (by decide) kk_) ?_
          show Goes p e below _ (s₁.setTop (mkF m 35 #[.val (.int k_)] []))
          refine Goes.via (fun _ kk_ => XS.iloadN X0.here hx rfl (hb hby d5_35) rfl  kk_) ?_
          show Goes p e below _ (s₁.setTop (mkF m 36 #[.val (.int k_)] [(.int k_)]))
          refine Goes.via (fun _ kk_ => XS.iconst X0.here hx rfl (hb hby d5_36) kk_) ?_
          show Goes p e below _ (s₁.setTop (mkF m 37 #[.val (.int k_)] [(.int (4 : Int32)), (.int k_)]))
          by_cases hc37 : k_ = (4 : Int32)
          · skip
            refine Goes.via (fun _ kk_ => XS.icmpNo X0.here hx rfl (hb hby d5_37) rfl (teq hc37).2 kk_) ?_
            show Goes p e below _ (s₁.setTop (mkF m 40 #[.val (.int k_)] []))
            obtain ⟨T5, X5, e5, st5⟩ := getS2 X0 hx hZ hown (host := "") (Or.inl (hw _ (List.mem_of_getElem? (i := 72) rfl))) Via.refl e0 S4_com_example_map_rewriter_maprewriter_core_SExpression_Kind_HEXADECIMAL_HEXADECIMAL (g := (mkF m 40 #[.val (.int k_)] [])) rfl (hb hby d5_40)
            refine Goes.via st5 ?_
            show Goes p e below _ (T5.setTop (mkF m 43 #[.val (.int k_)] [(.ref A4)]))
            exact own_finR X5 hx hlk hret rfl rfl rfl (hb hby d5_43) (by rw [e5]; exact ⟨A4, rfl, rfl, rfl, (Or.inr ⟨hc1, HN4⟩)⟩) (by first | decide | omega | (dsimp only; omega)) (by first | decide | omega | (dsimp only; omega))
          · skip
            refine Goes.via (fun _ kk_ => XS.icmpYes X0.here hx rfl (pc0 := 37) (pc' := 44) rfl (hb hby d5_37) rfl (feq hc37).2 (by decide) (by decide) kk_) ?_
            show Goes p e below _ (s₁.setTop (mkF m 44 #[.val (.int k_)] []))
            refine Goes.via (fun _ kk_ => XS.iloadN X0.here hx rfl (hb hby d5_44) rfl  kk_) ?_
            show Goes p e below _ (s₁.setTop (mkF m 45 #[.val (.int k_)] [(.int k_)]))
            refine Goes.via (fun _ kk_ => XS.iconst X0.here hx rfl (hb hby d5_45) kk_) ?_
            show Goes p e below _ (s₁.setTop (mkF m 46 #[.val (.int k_)] [(.int (5 : Int32)), (.int k_)]))
            by_cases hc46 : k_ = (5 : Int32)
            · skip
              refine Goes.via (fun _ kk_ => XS.icmpNo X0.here hx rfl (hb hby d5_46) rfl (teq hc46).2 kk_) ?_
              show Goes p e below _ (s₁.setTop (mkF m 49 #[.val (.int k_)] []))
              obtain ⟨T6, X6, e6, st6⟩ := getS2 X0 hx hZ hown (host := "") (Or.inl (hw _ (List.mem_of_getElem? (i := 92) rfl))) Via.refl e0 S5_com_example_map_rewriter_maprewriter_core_SExpression_Kind_BINARY_BINARY (g := (mkF m 49 #[.val (.int k_)] [])) rfl (hb hby d5_49)
              refine Goes.via st6 ?_
              show Goes p e below _ (T6.setTop (mkF m 52 #[.val (.int k_)] [(.ref A5)]))
              exact own_finR X6 hx hlk hret rfl rfl rfl (hb hby d5_52) (by rw [e6]; exact ⟨A5, rfl, rfl, rfl, (Or.inr ⟨hc1, HN5⟩)⟩) (by first | decide | omega | (dsimp only; omega)) (by first | decide | omega | (dsimp only; omega))
            · skip
              refine Goes.via (fun _ kk_ => XS.icmpYes X0.here hx rfl (pc0 := 46) (pc' := 53) rfl (hb hby d5_46) rfl (feq hc46).2 (by decide) (by decide) kk_) ?_
              show Goes p e below _ (s₁.setTop (mkF m 53 #[.val (.int k_)] []))
              obtain ⟨T7, X7, e7, st7⟩ := getS2 X0 hx hZ hown (host := "") (Or.inl (hw _ (List.mem_of_getElem? (i := 90) rfl))) Via.refl e0 S6_com_example_map_rewriter_maprewriter_core_SExpression_Kind_STRING_STRING (g := (mkF m 53 #[.val (.int k_)] [])) rfl (hb hby d5_53)
              refine Goes.via st7 ?_
              show Goes p e below _ (T7.setTop (mkF m 56 #[.val (.int k_)] [(.ref A6)]))
              exact own_finR X7 hx hlk hret rfl rfl rfl (hb hby d5_56) (by rw [e7]; exact ⟨A6, rfl, rfl, rfl, (Or.inr ⟨hc1, HN6⟩)⟩) (by first | decide | omega | (dsimp only; omega)) (by first | decide | omega | (dsimp only; omega))
theorem ef_rm7 (m : MethodId) (a : Addr) (x : Int32) (y : Int32) : entryFrame m #[(.ref a), (.int x), (.int y)] 3 = mkF m 0 #[.val (.ref a), .val (.int x), .val (.int y)] [] := by first | (simp [entryFrame, mkF, argsToLocals, Value.category]; done) | rfl
def Qrm7 (Z : State) (a : Addr) (x : Int32) (y : Int32) (h0 : Heap) (n0 : Nat) (v_ : Option Value) (h_ : Heap) (L_ : List Loc) : Prop := v_ = none ∧ Fr n0 L_ ∧ Keep h0 h_ [a] ∧ Exa Z h_ a "com/example/map_rewriter/maprewriter/core/SExpression$Atom" ∧ Fld Z h_ a "com/example/map_rewriter/maprewriter/core/SExpression$Atom" "kind" "Lcom/example/map_rewriter/maprewriter/core/SExpression$Kind;" .null ∧ Fld Z h_ a "com/example/map_rewriter/maprewriter/core/SExpression$Atom" "text" "Ljava/lang/String;" .null ∧ Fld Z h_ a "com/example/map_rewriter/maprewriter/core/SExpression$Atom" "quoted" "Z" (.int (0 : Int32))
theorem pn_com_example_map_rewriter_maprewriter_core_SExpression : plainName "com/example/map_rewriter/maprewriter/core/SExpression" = true := by first | (simp [plainName, overriddenIn]; done) | decide +kernel
theorem d7_0 : decode prog_29_method_1_code 0 = .ok (.aload_n 0, 1) := by decide +kernel
theorem d7_1 : decode prog_29_method_1_code 1 = .ok (.invokespecial 1, 3) := by decide +kernel
theorem d7_4 : decode prog_29_method_1_code 4 = .ok (.aload_n 0, 1) := by decide +kernel
theorem d7_5 : decode prog_29_method_1_code 5 = .ok (.iload_n 1, 1) := by decide +kernel
theorem d7_6 : decode prog_29_method_1_code 6 = .ok (.putfield 7, 3) := by decide +kernel
theorem d7_9 : decode prog_29_method_1_code 9 = .ok (.aload_n 0, 1) := by decide +kernel
theorem d7_10 : decode prog_29_method_1_code 10 = .ok (.iload_n 2, 1) := by decide +kernel
theorem d7_11 : decode prog_29_method_1_code 11 = .ok (.putfield 13, 3) := by decide +kernel
theorem d7_14 : decode prog_29_method_1_code 14 = .ok (.return_, 1) := by decide +kernel
set_option maxRecDepth 65536 in
set_option maxHeartbeats 40000000 in
theorem rm7 (l : Launch) (Z : State) (a0 : Array Value) (hw : ∀ d ∈ tables_1, d.before a0 Z = true) (ws : List Jvm.Cond) (a : Addr) (x : Int32) (y : Int32) (h0 : Heap) (n0 : Nat) (Z0 : n0 ≤ h0.size) (E0_a : Exa Z h0 a "com/example/map_rewriter/maprewriter/core/SExpression$Atom") (F1_a_line : Fld Z h0 a "com/example/map_rewriter/maprewriter/core/SExpression" "line" "I" (.int (0 : Int32))) (F2_a_column : Fld Z h0 a "com/example/map_rewriter/maprewriter/core/SExpression" "column" "I" (.int (0 : Int32))) (H3 : n0 ≤ a) (F4_a_kind : Fld Z h0 a "com/example/map_rewriter/maprewriter/core/SExpression$Atom" "kind" "Lcom/example/map_rewriter/maprewriter/core/SExpression$Kind;" .null) (F5_a_text : Fld Z h0 a "com/example/map_rewriter/maprewriter/core/SExpression$Atom" "text" "Ljava/lang/String;" .null) (F6_a_quoted : Fld Z h0 a "com/example/map_rewriter/maprewriter/core/SExpression$Atom" "quoted" "Z" (.int (0 : Int32))) :
    MetFree l (⟨"com/example/map_rewriter/maprewriter/core/SExpression", "<init>", "(II)V"⟩ : MethodName) (head1 (Jvm.Cond.code (⟨"com/example/map_rewriter/maprewriter/core/SExpression", "<init>", "(II)V"⟩ : MethodName) prog_29_method_1_code 3 none :: ws) ({ frames := 1, cells := 0, slots := 0, locals := 12 } : Room)) (fun as_ U_ => as_ = #[(.ref a), (.int x), (.int y)] ∧ Z.Warmed39 U_.vm ∧ U_.heap = h0) (fun _ _ _ _ _ => True) (fun _ U_ o_ V_ => ∃ v_ L_, o_ = .returned v_ ∧ Qrm7 Z a x y h0 n0 v_ V_.heap L_ ∧ FrameEnd U_ o_ V_ L_ ({ frames := 1, cells := 0, slots := 0, locals := 12 } : Room).cells ({ frames := 1, cells := 0, slots := 0, locals := 12 } : Room).slots) := by
  refine MetFree.of_bodySF (plainFor_of_name pn_com_example_map_rewriter_maprewriter_core_SExpression) hisR ?_
  intro p e s m args below meth c s₁ Bd hml0 hP hK
  obtain ⟨rfl, hZ, hh⟩ := hP
  have hx := Bd.exec
  have hby := Bd.bytes
  have hlk : meth.locks = false := BodyLoose.notSynchronized Bd
  have hret := Bd.returns
  have hml : c.maxLocals = 3 := hml0
  have hown : s.vm.findClass "com/example/map_rewriter/maprewriter/core/SExpression" = some m.cls := findClass_of_methodNamed Bd.named
  have hnm := (name_of_methodNamed Bd.named Bd.method).1
  have X0 : Stand p l e ({ frames := 1, cells := 0, slots := 0, locals := 12 } : Room) s m #[(.ref a), (.int x), (.int y)] below meth c s₁ [] 0 0 := Stand.of_body Bd
  have e0 : s₁.heap = h0 := by rw [← hh, Bd.state]; rfl
  have N0 := Fr.nil n0
  show Goes p e below (Fin_ s (Qrm7 Z a x y h0 n0) ({ frames := 1, cells := 0, slots := 0, locals := 12 } : Room).cells ({ frames := 1, cells := 0, slots := 0, locals := 12 } : Room).slots) (s₁.setTop (entryFrame m #[(.ref a), (.int x), (.int y)] 3))
  rw [ef_rm7 m a x y]
  refine Goes.via (fun _ kk_ => XS.aloadN X0.here hx rfl (hb hby d7_0) rfl rfl  kk_) ?_
  show Goes p e below _ (s₁.setTop (mkF m 1 #[.val (.ref a), .val (.int x), .val (.int y)] [(.ref a)]))
  obtain ⟨T1, X1, e1, st1⟩ := initO X0 hx hZ hown (hw _ (List.mem_of_getElem? (i := 44) rfl)) (hw _ (List.mem_of_getElem? (i := 17) rfl)) (hw _ (List.mem_of_getElem? (i := 18) rfl)) e0 (g := (mkF m 1 #[.val (.ref a), .val (.int x), .val (.int y)] [(.ref a)])) rfl (by rw [hml]; rfl) rfl (hb hby d7_1) (by decide) (W := 0) (by show 2 * 0 + _ ≤ _; exact Nat.le_of_eq rfl) (by decide)
  refine Goes.via st1 ?_
  show Goes p e below _ (T1.setTop (mkF m 4 #[.val (.ref a), .val (.int x), .val (.int y)] []))
  refine Goes.via (fun _ kk_ => XS.aloadN X1.here hx rfl (hb hby d7_4) rfl rfl  kk_) ?_
  show Goes p e below _ (T1.setTop (mkF m 5 #[.val (.ref a), .val (.int x), .val (.int y)] [(.ref a)]))
  refine Goes.via (fun _ kk_ => XS.iloadN X1.here hx rfl (hb hby d7_5) rfl  kk_) ?_
  show Goes p e below _ (T1.setTop (mkF m 6 #[.val (.ref a), .val (.int x), .val (.int y)] [(.int x), (.ref a)]))
  obtain ⟨T2, h2, X2, e2, W2, st2⟩ := putF X1 hx hZ hown (host := "") (Or.inl (hw _ (List.mem_of_getElem? (i := 45) rfl))) Via.refl e1 F1_a_line E0_a (Or.inr ⟨(hw _ (List.mem_of_getElem? (i := 46) rfl)), rfl, hnm⟩) (hw _ (List.mem_of_getElem? (i := 28) rfl)) (ty := .int) (by decide) rfl rfl (g := (mkF m 6 #[.val (.ref a), .val (.int x), .val (.int y)] [(.int x), (.ref a)])) rfl rfl (hb hby d7_6)
  refine Goes.via st2 ?_
  have N2 := Fr.snoc X2 N0 H3
  have Fw2 : Fld Z h2 a "com/example/map_rewriter/maprewriter/core/SExpression" "line" "I" (.int x) := F1_a_line.same W2
  show Goes p e below _ (T2.setTop (mkF m 9 #[.val (.ref a), .val (.int x), .val (.int y)] []))
  refine Goes.via (fun _ kk_ => XS.aloadN X2.here hx rfl (hb hby d7_9) rfl rfl  kk_) ?_
  show Goes p e below _ (T2.setTop (mkF m 10 #[.val (.ref a), .val (.int x), .val (.int y)] [(.ref a)]))
  refine Goes.via (fun _ kk_ => XS.iloadN X2.here hx rfl (hb hby d7_10) rfl  kk_) ?_
  show Goes p e below _ (T2.setTop (mkF m 11 #[.val (.ref a), .val (.int x), .val (.int y)] [(.int y), (.ref a)]))
  have f3 : Fld Z h2 a "com/example/map_rewriter/maprewriter/core/SExpression" "column" "I" (.int (0 : Int32)) := (F2_a_column.other W2 (Or.inr (slot_ne (Or.inr (hw _ (List.mem_of_getElem? (i := 48) rfl))) (Or.inr (hw _ (List.mem_of_getElem? (i := 46) rfl))) (by decide) (t := .int) (t' := .int) (by decide) (by decide))))
  have f4 : Exa Z h2 a "com/example/map_rewriter/maprewriter/core/SExpression$Atom" := (E0_a.wr W2)
  obtain ⟨T5, h5, X5, e5, W5, st5⟩ := putF X2 hx hZ hown (host := "") (Or.inl (hw _ (List.mem_of_getElem? (i := 47) rfl))) Via.refl e2 f3 f4 (Or.inr ⟨(hw _ (List.mem_of_getElem? (i := 48) rfl)), rfl, hnm⟩) (hw _ (List.mem_of_getElem? (i := 28) rfl)) (ty := .int) (by decide) rfl rfl (g := (mkF m 11 #[.val (.ref a), .val (.int x), .val (.int y)] [(.int y), (.ref a)])) rfl rfl (hb hby d7_11)
  refine Goes.via st5 ?_
  have N5 := Fr.snoc X5 N2 H3
  have Fw5 : Fld Z h5 a "com/example/map_rewriter/maprewriter/core/SExpression" "column" "I" (.int y) := f3.same W5
  show Goes p e below _ (T5.setTop (mkF m 14 #[.val (.ref a), .val (.int x), .val (.int y)] []))
  have K6 : Keep h0 h5 [a] := (((Keep.refl h0 [a]).wr W2 (Or.inl (List.mem_of_getElem? (i := 0) rfl))).wr W5 (Or.inl (List.mem_of_getElem? (i := 0) rfl)))
  have f7 : Exa Z h5 a "com/example/map_rewriter/maprewriter/core/SExpression$Atom" := (f4.wr W5)
  have f8 : Fld Z h5 a "com/example/map_rewriter/maprewriter/core/SExpression$Atom" "kind" "Lcom/example/map_rewriter/maprewriter/core/SExpression$Kind;" .null := ((F4_a_kind.other W2 (Or.inr (slot_ne (Or.inr (hw _ (List.mem_of_getElem? (i := 50) rfl))) (Or.inr (hw _ (List.mem_of_getElem? (i := 46) rfl))) (by decide) (t := (.object "com/example/map_rewriter/maprewriter/core/SExpression$Kind")) (t' := .int) (by decide) (by decide)))).other W5 (Or.inr (slot_ne (Or.inr (hw _ (List.mem_of_getElem? (i := 50) rfl))) (Or.inr (hw _ (List.mem_of_getElem? (i := 48) rfl))) (by decide) (t := (.object "com/example/map_rewriter/maprewriter/core/SExpression$Kind")) (t' := .int) (by decide) (by decide))))
  have f9 : Fld Z h5 a "com/example/map_rewriter/maprewriter/core/SExpression$Atom" "text" "Ljava/lang/String;" .null := ((F5_a_text.other W2 (Or.inr (slot_ne (Or.inr (hw _ (List.mem_of_getElem? (i := 52) rfl))) (Or.inr (hw _ (List.mem_of_getElem? (i := 46) rfl))) (by decide) (t := (.object "java/lang/String")) (t' := .int) (by decide) (by decide)))).other W5 (Or.inr (slot_ne (Or.inr (hw _ (List.mem_of_getElem? (i := 52) rfl))) (Or.inr (hw _ (List.mem_of_getElem? (i := 48) rfl))) (by decide) (t := (.object "java/lang/String")) (t' := .int) (by decide) (by decide))))
  have f10 : Fld Z h5 a "com/example/map_rewriter/maprewriter/core/SExpression$Atom" "quoted" "Z" (.int (0 : Int32)) := ((F6_a_quoted.other W2 (Or.inr (slot_ne (Or.inr (hw _ (List.mem_of_getElem? (i := 54) rfl))) (Or.inr (hw _ (List.mem_of_getElem? (i := 46) rfl))) (by decide) (t := .boolean) (t' := .int) (by decide) (by decide)))).other W5 (Or.inr (slot_ne (Or.inr (hw _ (List.mem_of_getElem? (i := 54) rfl))) (Or.inr (hw _ (List.mem_of_getElem? (i := 48) rfl))) (by decide) (t := .boolean) (t' := .int) (by decide) (by decide))))
  exact own_finV X5 hx hlk hret (hb hby d7_14) (by rw [e5]; exact ⟨rfl, N5, K6, f7, f8, f9, f10⟩) (by first | decide | omega | (dsimp only; omega)) (by first | decide | omega | (dsimp only; omega))
theorem ef_rm6 (m : MethodId) (a : Addr) (ak : Addr) (t_ : Addr) (q_ : Int32) (x : Int32) (y : Int32) : entryFrame m #[(.ref a), (.ref ak), (.ref t_), (.int q_), (.int x), (.int y)] 6 = mkF m 0 #[.val (.ref a), .val (.ref ak), .val (.ref t_), .val (.int q_), .val (.int x), .val (.int y)] [] := by first | (simp [entryFrame, mkF, argsToLocals, Value.category]; done) | rfl
def Qrm6 (Z : State) (a : Addr) (ak : Addr) (t_ : Addr) (q_ : Int32) (x : Int32) (y : Int32) (h0 : Heap) (n0 : Nat) (v_ : Option Value) (h_ : Heap) (L_ : List Loc) : Prop := v_ = none ∧ Fr n0 L_ ∧ Keep h0 h_ [a] ∧ Exa Z h_ a "com/example/map_rewriter/maprewriter/core/SExpression$Atom" ∧ Fld Z h_ a "com/example/map_rewriter/maprewriter/core/SExpression$Atom" "kind" "Lcom/example/map_rewriter/maprewriter/core/SExpression$Kind;" (.ref ak) ∧ Fld Z h_ a "com/example/map_rewriter/maprewriter/core/SExpression$Atom" "text" "Ljava/lang/String;" (.ref t_)
theorem pn_com_example_map_rewriter_maprewriter_core_SExpression_Atom : plainName "com/example/map_rewriter/maprewriter/core/SExpression$Atom" = true := by first | (simp [plainName, overriddenIn]; done) | decide +kernel
theorem d6_0 : decode prog_30_method_1_code 0 = .ok (.aload_n 0, 1) := by decide +kernel
theorem d6_1 : decode prog_30_method_1_code 1 = .ok (.iload 4, 2) := by decide +kernel
theorem d6_3 : decode prog_30_method_1_code 3 = .ok (.iload 5, 2) := by decide +kernel
theorem pd_2 : parseMethodDescriptor "(II)V" = some ⟨[.int, .int], none⟩ := by decide +kernel
theorem d6_5 : decode prog_30_method_1_code 5 = .ok (.invokespecial 1, 3) := by decide +kernel
theorem d6_8 : decode prog_30_method_1_code 8 = .ok (.aload_n 0, 1) := by decide +kernel
theorem d6_9 : decode prog_30_method_1_code 9 = .ok (.aload_n 1, 1) := by decide +kernel
theorem d6_10 : decode prog_30_method_1_code 10 = .ok (.putfield 7, 3) := by decide +kernel
theorem d6_13 : decode prog_30_method_1_code 13 = .ok (.aload_n 0, 1) := by decide +kernel
theorem d6_14 : decode prog_30_method_1_code 14 = .ok (.aload_n 2, 1) := by decide +kernel
theorem d6_15 : decode prog_30_method_1_code 15 = .ok (.putfield 13, 3) := by decide +kernel
theorem d6_18 : decode prog_30_method_1_code 18 = .ok (.aload_n 0, 1) := by decide +kernel
theorem d6_19 : decode prog_30_method_1_code 19 = .ok (.iload_n 3, 1) := by decide +kernel
theorem d6_20 : decode prog_30_method_1_code 20 = .ok (.putfield 17, 3) := by decide +kernel
theorem d6_23 : decode prog_30_method_1_code 23 = .ok (.return_, 1) := by decide +kernel
set_option maxRecDepth 65536 in
set_option maxHeartbeats 40000000 in
theorem rm6 (l : Launch) (Z : State) (a0 : Array Value) (hw : ∀ d ∈ tables_1, d.before a0 Z = true) (ws : List Jvm.Cond) (a : Addr) (ak : Addr) (t_ : Addr) (q_ : Int32) (x : Int32) (y : Int32) (h0 : Heap) (n0 : Nat) (Z0 : n0 ≤ h0.size) (E0_a : Exa Z h0 a "com/example/map_rewriter/maprewriter/core/SExpression$Atom") (F1_a_line : Fld Z h0 a "com/example/map_rewriter/maprewriter/core/SExpression" "line" "I" (.int (0 : Int32))) (F2_a_column : Fld Z h0 a "com/example/map_rewriter/maprewriter/core/SExpression" "column" "I" (.int (0 : Int32))) (H3 : n0 ≤ a) (F4_a_kind : Fld Z h0 a "com/example/map_rewriter/maprewriter/core/SExpression$Atom" "kind" "Lcom/example/map_rewriter/maprewriter/core/SExpression$Kind;" .null) (F5_a_text : Fld Z h0 a "com/example/map_rewriter/maprewriter/core/SExpression$Atom" "text" "Ljava/lang/String;" .null) (F6_a_quoted : Fld Z h0 a "com/example/map_rewriter/maprewriter/core/SExpression$Atom" "quoted" "Z" (.int (0 : Int32))) :
    MetFree l (⟨"com/example/map_rewriter/maprewriter/core/SExpression$Atom", "<init>", "(Lcom/example/map_rewriter/maprewriter/core/SExpression$Kind;Ljava/lang/String;ZII)V"⟩ : MethodName) (head1 (Jvm.Cond.code (⟨"com/example/map_rewriter/maprewriter/core/SExpression$Atom", "<init>", "(Lcom/example/map_rewriter/maprewriter/core/SExpression$Kind;Ljava/lang/String;ZII)V"⟩ : MethodName) prog_30_method_1_code 6 none :: ws) ({ frames := 2, cells := 0, slots := 0, locals := 26 } : Room)) (fun as_ U_ => as_ = #[(.ref a), (.ref ak), (.ref t_), (.int q_), (.int x), (.int y)] ∧ Z.Warmed39 U_.vm ∧ U_.heap = h0) (fun _ _ _ _ _ => True) (fun _ U_ o_ V_ => ∃ v_ L_, o_ = .returned v_ ∧ Qrm6 Z a ak t_ q_ x y h0 n0 v_ V_.heap L_ ∧ FrameEnd U_ o_ V_ L_ ({ frames := 2, cells := 0, slots := 0, locals := 26 } : Room).cells ({ frames := 2, cells := 0, slots := 0, locals := 26 } : Room).slots) := by
  refine MetFree.of_bodySF (plainFor_of_name pn_com_example_map_rewriter_maprewriter_core_SExpression_Atom) hisR ?_
  intro p e s m args below meth c s₁ Bd hml0 hP hK
  obtain ⟨rfl, hZ, hh⟩ := hP
  have hx := Bd.exec
  have hby := Bd.bytes
  have hlk : meth.locks = false := BodyLoose.notSynchronized Bd
  have hret := Bd.returns
  have hml : c.maxLocals = 6 := hml0
  have hown : s.vm.findClass "com/example/map_rewriter/maprewriter/core/SExpression$Atom" = some m.cls := findClass_of_methodNamed Bd.named
  have hnm := (name_of_methodNamed Bd.named Bd.method).1
  have X0 : Stand p l e ({ frames := 2, cells := 0, slots := 0, locals := 26 } : Room) s m #[(.ref a), (.ref ak), (.ref t_), (.int q_), (.int x), (.int y)] below meth c s₁ [] 0 0 := Stand.of_body Bd
  have e0 : s₁.heap = h0 := by rw [← hh, Bd.state]; rfl
  have N0 := Fr.nil n0
  show Goes p e below (Fin_ s (Qrm6 Z a ak t_ q_ x y h0 n0) ({ frames := 2, cells := 0, slots := 0, locals := 26 } : Room).cells ({ frames := 2, cells := 0, slots := 0, locals := 26 } : Room).slots) (s₁.setTop (entryFrame m #[(.ref a), (.ref ak), (.ref t_), (.int q_), (.int x), (.int y)] 6))
  rw [ef_rm6 m a ak t_ q_ x y]
  refine Goes.via (fun _ kk_ => XS.aloadN X0.here hx rfl (hb hby d6_0) rfl rfl  kk_) ?_
  show Goes p e below _ (s₁.setTop (mkF m 1 #[.val (.ref a), .val (.ref ak), .val (.ref t_), .val (.int q_), .val (.int x), .val (.int y)] [(.ref a)]))
  refine Goes.via (fun _ kk_ => XS.iload X0.here hx rfl (hb hby d6_1) rfl  kk_) ?_
  show Goes p e below _ (s₁.setTop (mkF m 3 #[.val (.ref a), .val (.ref ak), .val (.ref t_), .val (.int q_), .val (.int x), .val (.int y)] [(.int x), (.ref a)]))
  refine Goes.via (fun _ kk_ => XS.iload X0.here hx rfl (hb hby d6_3) rfl  kk_) ?_
  show Goes p e below _ (s₁.setTop (mkF m 5 #[.val (.ref a), .val (.ref ak), .val (.ref t_), .val (.int q_), .val (.int x), .val (.int y)] [(.int y), (.int x), (.ref a)]))
  obtain ⟨_, _, ⟨T1, L1, k1, n1⟩, -, X1, ⟨Lc1, hQ1, l1, y1, z1⟩, st1⟩ := X0.specialBackNest hx (y := (⟨"com/example/map_rewriter/maprewriter/core/SExpression", "<init>", "(II)V"⟩ : MethodName)) rfl hown (own_mvM hZ (hw _ (List.mem_of_getElem? (i := 39) rfl))) (mvT hZ (hw _ (List.mem_of_getElem? (i := 40) rfl))) (mvT hZ (hw _ (List.mem_of_getElem? (i := 43) rfl))) (by decide) (backOf (W := 0) (rm7 l Z a0 hw [] a x y h0 n0 (Nat.le_trans Z0 (Nat.le_refl _)) E0_a F1_a_line F2_a_column H3 F4_a_kind F5_a_text F6_a_quoted) hZ (hw _ (List.mem_of_getElem? (i := 43) rfl)) (hw _ (List.mem_of_getElem? (i := 42) rfl)) (by decide) (by decide)) (g := (mkF m 5 #[.val (.ref a), .val (.ref ak), .val (.ref t_), .val (.int q_), .val (.int x), .val (.int y)] [(.int y), (.int x), (.ref a)])) rfl (by rw [hml]; rfl) (Steps.refl _) (a := a) (argsL := [(.int x), (.int y)]) (rest := []) (lenOf pd_2 rfl) rfl (by show 2 * 0 + _ ≤ _; exact Nat.le_of_eq rfl) (hb hby d6_5) (fun _ _ => ⟨rfl, e0, (by first | decide | omega | (dsimp only; omega) : 0 + 0 ≤ _), (by first | decide | omega | (dsimp only; omega) : 0 + 0 ≤ _)⟩)
  dsimp only [Pt.U, Pt.locs, Pt.cells, Pt.slots] at X1 l1 y1 z1 st1 hQ1
  subst l1 y1 z1
  obtain ⟨rfl, N1q, K1, u1_0, u1_1, u1_2, u1_3⟩ := hQ1
  have N1 := Fr.app N0 N1q
  refine Goes.tr st1 ?_
  show Goes p e below _ (T1.setTop (mkF m 8 #[.val (.ref a), .val (.ref ak), .val (.ref t_), .val (.int q_), .val (.int x), .val (.int y)] []))
  refine Goes.via (fun _ kk_ => XS.aloadN X1.here hx rfl (hb hby d6_8) rfl rfl  kk_) ?_
  show Goes p e below _ (T1.setTop (mkF m 9 #[.val (.ref a), .val (.ref ak), .val (.ref t_), .val (.int q_), .val (.int x), .val (.int y)] [(.ref a)]))
  refine Goes.via (fun _ kk_ => XS.aloadN X1.here hx rfl (hb hby d6_9) rfl rfl  kk_) ?_
  show Goes p e below _ (T1.setTop (mkF m 10 #[.val (.ref a), .val (.ref ak), .val (.ref t_), .val (.int q_), .val (.int x), .val (.int y)] [(.ref ak), (.ref a)]))
  obtain ⟨T2, h2, X2, e2, W2, st2⟩ := putF X1 hx hZ hown (host := "") (Or.inl (hw _ (List.mem_of_getElem? (i := 49) rfl))) Via.refl rfl u1_1 u1_0 (Or.inr ⟨(hw _ (List.mem_of_getElem? (i := 50) rfl)), rfl, hnm⟩) (hw _ (List.mem_of_getElem? (i := 28) rfl)) (ty := (.object "com/example/map_rewriter/maprewriter/core/SExpression$Kind")) (by decide) rfl rfl (g := (mkF m 10 #[.val (.ref a), .val (.ref ak), .val (.ref t_), .val (.int q_), .val (.int x), .val (.int y)] [(.ref ak), (.ref a)])) rfl rfl (hb hby d6_10)
  refine Goes.via st2 ?_
  have N2 := Fr.snoc X2 N1 H3
  have Fw2 : Fld Z h2 a "com/example/map_rewriter/maprewriter/core/SExpression$Atom" "kind" "Lcom/example/map_rewriter/maprewriter/core/SExpression$Kind;" (.ref ak) := u1_1.same W2
  show Goes p e below _ (T2.setTop (mkF m 13 #[.val (.ref a), .val (.ref ak), .val (.ref t_), .val (.int q_), .val (.int x), .val (.int y)] []))
  refine Goes.via (fun _ kk_ => XS.aloadN X2.here hx rfl (hb hby d6_13) rfl rfl  kk_) ?_
  show Goes p e below _ (T2.setTop (mkF m 14 #[.val (.ref a), .val (.ref ak), .val (.ref t_), .val (.int q_), .val (.int x), .val (.int y)] [(.ref a)]))
  refine Goes.via (fun _ kk_ => XS.aloadN X2.here hx rfl (hb hby d6_14) rfl rfl  kk_) ?_
  show Goes p e below _ (T2.setTop (mkF m 15 #[.val (.ref a), .val (.ref ak), .val (.ref t_), .val (.int q_), .val (.int x), .val (.int y)] [(.ref t_), (.ref a)]))
  have f3 : Fld Z h2 a "com/example/map_rewriter/maprewriter/core/SExpression$Atom" "text" "Ljava/lang/String;" .null := (u1_2.other W2 (Or.inr (slot_ne (Or.inr (hw _ (List.mem_of_getElem? (i := 52) rfl))) (Or.inr (hw _ (List.mem_of_getElem? (i := 50) rfl))) (by decide) (t := (.object "java/lang/String")) (t' := (.object "com/example/map_rewriter/maprewriter/core/SExpression$Kind")) (by decide) (by decide))))
  have f4 : Exa Z h2 a "com/example/map_rewriter/maprewriter/core/SExpression$Atom" := (u1_0.wr W2)
  obtain ⟨T5, h5, X5, e5, W5, st5⟩ := putF X2 hx hZ hown (host := "") (Or.inl (hw _ (List.mem_of_getElem? (i := 51) rfl))) Via.refl e2 f3 f4 (Or.inr ⟨(hw _ (List.mem_of_getElem? (i := 52) rfl)), rfl, hnm⟩) (hw _ (List.mem_of_getElem? (i := 28) rfl)) (ty := (.object "java/lang/String")) (by decide) rfl rfl (g := (mkF m 15 #[.val (.ref a), .val (.ref ak), .val (.ref t_), .val (.int q_), .val (.int x), .val (.int y)] [(.ref t_), (.ref a)])) rfl rfl (hb hby d6_15)
  refine Goes.via st5 ?_
  have N5 := Fr.snoc X5 N2 H3
  have Fw5 : Fld Z h5 a "com/example/map_rewriter/maprewriter/core/SExpression$Atom" "text" "Ljava/lang/String;" (.ref t_) := f3.same W5
  show Goes p e below _ (T5.setTop (mkF m 18 #[.val (.ref a), .val (.ref ak), .val (.ref t_), .val (.int q_), .val (.int x), .val (.int y)] []))
  refine Goes.via (fun _ kk_ => XS.aloadN X5.here hx rfl (hb hby d6_18) rfl rfl  kk_) ?_
  show Goes p e below _ (T5.setTop (mkF m 19 #[.val (.ref a), .val (.ref ak), .val (.ref t_), .val (.int q_), .val (.int x), .val (.int y)] [(.ref a)]))
  refine Goes.via (fun _ kk_ => XS.iloadN X5.here hx rfl (hb hby d6_19) rfl  kk_) ?_
  show Goes p e below _ (T5.setTop (mkF m 20 #[.val (.ref a), .val (.ref ak), .val (.ref t_), .val (.int q_), .val (.int x), .val (.int y)] [(.int q_), (.ref a)]))
  have f6 : Fld Z h5 a "com/example/map_rewriter/maprewriter/core/SExpression$Atom" "quoted" "Z" (.int (0 : Int32)) := ((u1_3.other W2 (Or.inr (slot_ne (Or.inr (hw _ (List.mem_of_getElem? (i := 54) rfl))) (Or.inr (hw _ (List.mem_of_getElem? (i := 50) rfl))) (by decide) (t := .boolean) (t' := (.object "com/example/map_rewriter/maprewriter/core/SExpression$Kind")) (by decide) (by decide)))).other W5 (Or.inr (slot_ne (Or.inr (hw _ (List.mem_of_getElem? (i := 54) rfl))) (Or.inr (hw _ (List.mem_of_getElem? (i := 52) rfl))) (by decide) (t := .boolean) (t' := (.object "java/lang/String")) (by decide) (by decide))))
  have f7 : Exa Z h5 a "com/example/map_rewriter/maprewriter/core/SExpression$Atom" := (f4.wr W5)
  obtain ⟨T8, h8, X8, e8, W8, st8⟩ := putFN X5 hx hZ hown (hw _ (List.mem_of_getElem? (i := 53) rfl)) Via.refl e5 f6 f7 (Or.inr ⟨(hw _ (List.mem_of_getElem? (i := 54) rfl)), rfl, hnm⟩) (hw _ (List.mem_of_getElem? (i := 28) rfl)) (ty := .boolean) (v' := (.int (nar .boolean q_))) (by decide) rfl (by first | exact fits_nar_bool _ | decide) (g := (mkF m 20 #[.val (.ref a), .val (.ref ak), .val (.ref t_), .val (.int q_), .val (.int x), .val (.int y)] [(.int q_), (.ref a)])) rfl rfl (hb hby d6_20)
  refine Goes.via st8 ?_
  have N8 := Fr.snoc X8 N5 H3
  have Fw8 : Fld Z h8 a "com/example/map_rewriter/maprewriter/core/SExpression$Atom" "quoted" "Z" (.int (nar .boolean q_)) := f6.same W8
  show Goes p e below _ (T8.setTop (mkF m 23 #[.val (.ref a), .val (.ref ak), .val (.ref t_), .val (.int q_), .val (.int x), .val (.int y)] []))
  have K9 : Keep h0 h8 [a] := (((((Keep.refl h0 [a]).trans K1 (allS (Or.inl (List.mem_of_getElem? (i := 0) rfl)) all0)).wr W2 (Or.inl (List.mem_of_getElem? (i := 0) rfl))).wr W5 (Or.inl (List.mem_of_getElem? (i := 0) rfl))).wr W8 (Or.inl (List.mem_of_getElem? (i := 0) rfl)))
  have f10 : Exa Z h8 a "com/example/map_rewriter/maprewriter/core/SExpression$Atom" := (f7.wr W8)
  have f11 : Fld Z h8 a "com/example/map_rewriter/maprewriter/core/SExpression$Atom" "kind" "Lcom/example/map_rewriter/maprewriter/core/SExpression$Kind;" (.ref ak) := ((Fw2.other W5 (Or.inr (slot_ne (Or.inr (hw _ (List.mem_of_getElem? (i := 50) rfl))) (Or.inr (hw _ (List.mem_of_getElem? (i := 52) rfl))) (by decide) (t := (.object "com/example/map_rewriter/maprewriter/core/SExpression$Kind")) (t' := (.object "java/lang/String")) (by decide) (by decide)))).other W8 (Or.inr (slot_ne (Or.inr (hw _ (List.mem_of_getElem? (i := 50) rfl))) (Or.inr (hw _ (List.mem_of_getElem? (i := 54) rfl))) (by decide) (t := (.object "com/example/map_rewriter/maprewriter/core/SExpression$Kind")) (t' := .boolean) (by decide) (by decide))))
  have f12 : Fld Z h8 a "com/example/map_rewriter/maprewriter/core/SExpression$Atom" "text" "Ljava/lang/String;" (.ref t_) := (Fw5.other W8 (Or.inr (slot_ne (Or.inr (hw _ (List.mem_of_getElem? (i := 52) rfl))) (Or.inr (hw _ (List.mem_of_getElem? (i := 54) rfl))) (by decide) (t := (.object "java/lang/String")) (t' := .boolean) (by decide) (by decide))))
  exact own_finV X8 hx hlk hret (hb hby d6_23) (by rw [e8]; exact ⟨rfl, N8, K9, f10, f11, f12⟩) (by first | decide | omega | (dsimp only; omega)) (by first | decide | omega | (dsimp only; omega))
theorem ef_rm8 (m : MethodId) (a : Addr) (y : Addr) : entryFrame m #[(.ref a), (.ref y)] 2 = mkF m 0 #[.val (.ref a), .val (.ref y)] [] := by first | (simp [entryFrame, mkF, argsToLocals, Value.category]; done) | rfl
def Qrm8 (Z : State) (a : Addr) (y : Addr) (A0 : Addr) (x : Addr) (cS : Int32) (t1 : Addr) (k1 : ClassId) (n1 : Int32) (c1 : Int32) (d1 : Int32) (t2 : Addr) (k2 : ClassId) (n2 : Int32) (c2 : Int32) (d2 : Int32) (h0 : Heap) (n0 : Nat) (v_ : Option Value) (h_ : Heap) (L_ : List Loc) : Prop := v_ = some (.int (if own_cs n1 c1 d1 = own_cs n2 c2 d2 then (1 : Int32) else (0 : Int32))) ∧ L_ = [] ∧ h_ = h0
theorem d8_0 : decode prog_30_method_4_code 0 = .ok (.aload_n 0, 1) := by decide +kernel
theorem d8_1 : decode prog_30_method_4_code 1 = .ok (.getfield 7, 3) := by decide +kernel
theorem d8_4 : decode prog_30_method_4_code 4 = .ok (.getstatic 21, 3) := by decide +kernel
theorem d8_7 : decode prog_30_method_4_code 7 = .ok (.if_acmp .ne 18, 3) := by decide +kernel
theorem d8_10 : decode prog_30_method_4_code 10 = .ok (.aload_n 0, 1) := by decide +kernel
theorem d8_11 : decode prog_30_method_4_code 11 = .ok (.getfield 13, 3) := by decide +kernel
theorem d8_14 : decode prog_30_method_4_code 14 = .ok (.aload_n 1, 1) := by decide +kernel
theorem pd_3 : parseMethodDescriptor "(Ljava/lang/Object;)Z" = some ⟨[(.object "java/lang/Object")], some .boolean⟩ := by decide +kernel
theorem d8_15 : decode prog_30_method_4_code 15 = .ok (.invokevirtual 26, 3) := by decide +kernel
theorem d8_18 : decode prog_30_method_4_code 18 = .ok (.ifCond .eq 7, 3) := by decide +kernel
theorem d8_21 : decode prog_30_method_4_code 21 = .ok (.iconst 1, 1) := by decide +kernel
theorem d8_22 : decode prog_30_method_4_code 22 = .ok (.goto 4, 3) := by decide +kernel
theorem d8_26 : decode prog_30_method_4_code 26 = .ok (.ireturn, 1) := by decide +kernel
theorem d8_25 : decode prog_30_method_4_code 25 = .ok (.iconst 0, 1) := by decide +kernel
set_option maxRecDepth 65536 in
set_option maxHeartbeats 40000000 in
theorem rm8 (l : Launch) (Z : State) (a0 : Array Value) (hw : ∀ d ∈ tables_1, d.before a0 Z = true) (ws : List Jvm.Cond) (a : Addr) (y : Addr) (A0 : Addr) (x : Addr) (cS : Int32) (t1 : Addr) (k1 : ClassId) (n1 : Int32) (c1 : Int32) (d1 : Int32) (t2 : Addr) (k2 : ClassId) (n2 : Int32) (c2 : Int32) (d2 : Int32) (h0 : Heap) (n0 : Nat) (Z0 : n0 ≤ h0.size) (F0_a_kind : Fld Z h0 a "com/example/map_rewriter/maprewriter/core/SExpression$Atom" "kind" "Lcom/example/map_rewriter/maprewriter/core/SExpression$Kind;" (.ref A0)) (F1_a_text : Fld Z h0 a "com/example/map_rewriter/maprewriter/core/SExpression$Atom" "text" "Ljava/lang/String;" (.ref x)) (S2_com_example_map_rewriter_maprewriter_core_SExpression_Kind_SYMBOL_SYMBOL : Sta Z h0 "com/example/map_rewriter/maprewriter/core/SExpression$Kind" "SYMBOL" "Lcom/example/map_rewriter/maprewriter/core/SExpression$Kind;" (.ref A0)) (E3_x : Exa Z h0 x "java/lang/String") (F4_x_coder : Fld Z h0 x "java/lang/String" "coder" "B" (.int (0 : Int32))) (F5_x_value : Fld Z h0 x "java/lang/String" "value" "[B" (.ref t1)) (A6_t1 : Arv Z h0 t1 k1 .byte (own_n n1 c1 d1) (own_v n1 c1 d1) (.int 0)) (E7_y : Exa Z h0 y "java/lang/String") (F8_y_coder : Fld Z h0 y "java/lang/String" "coder" "B" (.int (0 : Int32))) (F9_y_value : Fld Z h0 y "java/lang/String" "value" "[B" (.ref t2)) (A10_t2 : Arv Z h0 t2 k2 .byte (own_n n2 c2 d2) (own_v n2 c2 d2) (.int 0)) (S11_java_lang_String_COMPACT_STRINGS_COMPACT_STRINGS : Sta Z h0 "java/lang/String" "COMPACT_STRINGS" "Z" (.int cS)) (H_cs : ¬ cS = (0 : Int32)) (H1 : c1 &&& (255 : Int32) = c1) (H2 : d1 &&& (255 : Int32) = d1) (H3 : c2 &&& (255 : Int32) = c2) (H4 : d2 &&& (255 : Int32) = d2) :
    MetFree l (⟨"com/example/map_rewriter/maprewriter/core/SExpression$Atom", "isSymbol", "(Ljava/lang/String;)Z"⟩ : MethodName) (head1 (Jvm.Cond.code (⟨"com/example/map_rewriter/maprewriter/core/SExpression$Atom", "isSymbol", "(Ljava/lang/String;)Z"⟩ : MethodName) prog_30_method_4_code 2 (some .boolean) :: ws) ({ frames := 2, cells := 0, slots := 0, locals := 28 } : Room)) (fun as_ U_ => as_ = #[(.ref a), (.ref y)] ∧ Z.Warmed39 U_.vm ∧ U_.heap = h0) (fun _ _ _ _ _ => True) (fun _ U_ o_ V_ => ∃ v_ L_, o_ = .returned v_ ∧ Qrm8 Z a y A0 x cS t1 k1 n1 c1 d1 t2 k2 n2 c2 d2 h0 n0 v_ V_.heap L_ ∧ FrameEnd U_ o_ V_ L_ ({ frames := 2, cells := 0, slots := 0, locals := 28 } : Room).cells ({ frames := 2, cells := 0, slots := 0, locals := 28 } : Room).slots) := by
  refine MetFree.of_bodySF (plainFor_of_name pn_com_example_map_rewriter_maprewriter_core_SExpression_Atom) hisR ?_
  intro p e s m args below meth c s₁ Bd hml0 hP hK
  obtain ⟨rfl, hZ, hh⟩ := hP
  have hx := Bd.exec
  have hby := Bd.bytes
  have hlk : meth.locks = false := BodyLoose.notSynchronized Bd
  have hret := Bd.returns
  have hml : c.maxLocals = 2 := hml0
  have hown : s.vm.findClass "com/example/map_rewriter/maprewriter/core/SExpression$Atom" = some m.cls := findClass_of_methodNamed Bd.named
  have hnm := (name_of_methodNamed Bd.named Bd.method).1
  have X0 : Stand p l e ({ frames := 2, cells := 0, slots := 0, locals := 28 } : Room) s m #[(.ref a), (.ref y)] below meth c s₁ [] 0 0 := Stand.of_body Bd
  have e0 : s₁.heap = h0 := by rw [← hh, Bd.state]; rfl
  have N0 := Fr.nil n0
  show Goes p e below (Fin_ s (Qrm8 Z a y A0 x cS t1 k1 n1 c1 d1 t2 k2 n2 c2 d2 h0 n0) ({ frames := 2, cells := 0, slots := 0, locals := 28 } : Room).cells ({ frames := 2, cells := 0, slots := 0, locals := 28 } : Room).slots) (s₁.setTop (entryFrame m #[(.ref a), (.ref y)] 2))
  rw [ef_rm8 m a y]
  have ne1 : x ≠ t1 := E3_x.neArv A6_t1 (hw _ (List.mem_of_getElem? (i := 6) rfl))
  have ne2 : x ≠ t2 := E3_x.neArv A10_t2 (hw _ (List.mem_of_getElem? (i := 6) rfl))
  have ne3 : y ≠ t1 := E7_y.neArv A6_t1 (hw _ (List.mem_of_getElem? (i := 6) rfl))
  have ne4 : y ≠ t2 := E7_y.neArv A10_t2 (hw _ (List.mem_of_getElem? (i := 6) rfl))
  refine Goes.via (fun _ kk_ => XS.aloadN X0.here hx rfl (hb hby d8_0) rfl rfl  kk_) ?_
  show Goes p e below _ (s₁.setTop (mkF m 1 #[.val (.ref a), .val (.ref y)] [(.ref a)]))
  obtain ⟨T5, X5, e5, st5⟩ := getF X0 hx hZ hown (host := "") (Or.inl (hw _ (List.mem_of_getElem? (i := 49) rfl))) Via.refl e0 F0_a_kind (g := (mkF m 1 #[.val (.ref a), .val (.ref y)] [(.ref a)])) rfl rfl (hb hby d8_1)
  refine Goes.via st5 ?_
  show Goes p e below _ (T5.setTop (mkF m 4 #[.val (.ref a), .val (.ref y)] [(.ref A0)]))
  obtain ⟨T6, X6, e6, st6⟩ := getS2 X5 hx hZ hown (host := "") (Or.inl (hw _ (List.mem_of_getElem? (i := 60) rfl))) Via.refl e5 S2_com_example_map_rewriter_maprewriter_core_SExpression_Kind_SYMBOL_SYMBOL (g := (mkF m 4 #[.val (.ref a), .val (.ref y)] [(.ref A0)])) rfl (hb hby d8_4)
  refine Goes.via st6 ?_
  show Goes p e below _ (T6.setTop (mkF m 7 #[.val (.ref a), .val (.ref y)] [(.ref A0), (.ref A0)]))
  refine Goes.via (fun _ kk_ => Jvm.RoadKit.acmp (g := (mkF m 7 #[.val (.ref a), .val (.ref y)] [(.ref A0), (.ref A0)])) X6 hx rfl rfl rfl (pc0 := 7) (pc' := 10) (same := true) rfl (hb hby d8_7) rfl (decide_eq_true rfl) (by decide) (by decide) kk_) ?_
  show Goes p e below _ (T6.setTop (mkF m 10 #[.val (.ref a), .val (.ref y)] []))
  refine Goes.via (fun _ kk_ => XS.aloadN X6.here hx rfl (hb hby d8_10) rfl rfl  kk_) ?_
  show Goes p e below _ (T6.setTop (mkF m 11 #[.val (.ref a), .val (.ref y)] [(.ref a)]))
  obtain ⟨T7, X7, e7, st7⟩ := getF X6 hx hZ hown (host := "") (Or.inl (hw _ (List.mem_of_getElem? (i := 51) rfl))) Via.refl e6 F1_a_text (g := (mkF m 11 #[.val (.ref a), .val (.ref y)] [(.ref a)])) rfl rfl (hb hby d8_11)
  refine Goes.via st7 ?_
  show Goes p e below _ (T7.setTop (mkF m 14 #[.val (.ref a), .val (.ref y)] [(.ref x)]))
  refine Goes.via (fun _ kk_ => XS.aloadN X7.here hx rfl (hb hby d8_14) rfl rfl  kk_) ?_
  show Goes p e below _ (T7.setTop (mkF m 15 #[.val (.ref a), .val (.ref y)] [(.ref y), (.ref x)]))
  have hwe8 : ∀ d ∈ StrChars.Road.wordsEq, d.before a0 Z = true := fun d hd => hw d ((by decide +kernel : ∀ d ∈ StrChars.Road.wordsEq, d ∈ tables_1) d hd)
  obtain ⟨cq8, kq8, q8a, q8b, q8c⟩ := isOf hZ e7 E3_x
  obtain ⟨_, _, ⟨T8, L8, k8, n8⟩, -, X8, ⟨Lc8, ⟨hv8, hL8, e8⟩, l8, y8, z8⟩, st8⟩ := X7.virtualBack hx (y := (⟨"java/lang/String", "equals", "(Ljava/lang/Object;)Z"⟩ : MethodName)) (z := (⟨"java/lang/String", "equals", "(Ljava/lang/Object;)Z"⟩ : MethodName)) hown (mvT hZ (hw _ (List.mem_of_getElem? (i := 61) rfl))) (mvT hZ (hw _ (List.mem_of_getElem? (i := 62) rfl))) (notFace_of_selects (args := #[]) (mvT hZ (hw _ (List.mem_of_getElem? (i := 64) rfl)))) (mvT hZ (hw _ (List.mem_of_getElem? (i := 64) rfl))) (mvT hZ (hw _ (List.mem_of_getElem? (i := 63) rfl))) (by decide) (StrChars.Road.eqW (W := 0) hZ hwe8 (kI := 4) (hw _ (List.mem_of_getElem? (i := 6) rfl)) E3_x F5_x_value F4_x_coder A6_t1 (own_coda H1 H2) (own_wideb (own_lat H1 H2)) (own_len _ _ _) E7_y F9_y_value F8_y_coder A10_t2 (own_coda H3 H4) (own_wideb (own_lat H3 H4)) (own_len _ _ _) S11_java_lang_String_COMPACT_STRINGS_COMPACT_STRINGS H_cs (by decide) (by decide)) q8a q8c (g := (mkF m 15 #[.val (.ref a), .val (.ref y)] [(.ref y), (.ref x)])) rfl (by rw [hml]; rfl) (Steps.refl _) (argsL := [(.ref y)]) (rest := []) (lenOf pd_3 rfl) rfl (by show 2 * 0 + _ ≤ _; exact Nat.le_of_eq rfl) (hb hby d8_15) (fun _ _ => ⟨rfl, e7, (by first | decide | omega : 0 + 0 ≤ _), (by first | decide | omega : 0 + 0 ≤ _)⟩)
  dsimp only [Pt.U, Pt.locs, Pt.cells, Pt.slots] at X8 l8 y8 z8 st8 e8 hv8 hL8
  subst l8 y8 z8
  subst hL8
  first | rw [List.append_nil] at X8 | skip
  rcases hv8 with ⟨rfl, hcd8⟩ | ⟨rfl, hcd8⟩
  · refine Goes.tr st8 ?_
    show Goes p e below _ (T8.setTop (mkF m 18 #[.val (.ref a), .val (.ref y)] [(.int (1 : Int32))]))
    have hc18_9 : ¬ ((1 : Int32) = (0 : Int32)) := (by decide)
    refine Goes.via (fun _ kk_ => XS.ifNo X8.here hx rfl (hb hby d8_18) rfl ((if0 _ _).trans (feq hc18_9).1) kk_) ?_
    show Goes p e below _ (T8.setTop (mkF m 21 #[.val (.ref a), .val (.ref y)] []))
    refine Goes.via (fun _ kk_ => XS.iconst X8.here hx rfl (hb hby d8_21) kk_) ?_
    show Goes p e below _ (T8.setTop (mkF m 22 #[.val (.ref a), .val (.ref y)] [(.int (1 : Int32))]))
    refine Goes.via (fun _ kk_ => XS.goto X8.here hx rfl (pc0 := 22) (pc' := 26) rfl (hb hby d8_22) (by decide) (by decide) kk_) ?_
    show Goes p e below _ (T8.setTop (mkF m 26 #[.val (.ref a), .val (.ref y)] [(.int (1 : Int32))]))
    exact own_finN X8 hx hlk hret (by simp) (hb hby d8_26) (by rw [e8]; exact ⟨(by rw [if_pos hcd8]; rfl), rfl, rfl⟩) (by first | decide | omega | (dsimp only; omega)) (by first | decide | omega | (dsimp only; omega))
  · refine Goes.tr st8 ?_
    show Goes p e below _ (T8.setTop (mkF m 18 #[.val (.ref a), .val (.ref y)] [(.int (0 : Int32))]))
    have hc18_10 : (0 : Int32) = (0 : Int32) := (by decide)
    refine Goes.via (fun _ kk_ => XS.ifYes X8.here hx rfl (pc0 := 18) (pc' := 25) rfl (hb hby d8_18) rfl ((if0 _ _).trans (teq hc18_10).1) (by decide) (by decide) kk_) ?_
    show Goes p e below _ (T8.setTop (mkF m 25 #[.val (.ref a), .val (.ref y)] []))
    refine Goes.via (fun _ kk_ => XS.iconst X8.here hx rfl (hb hby d8_25) kk_) ?_
    show Goes p e below _ (T8.setTop (mkF m 26 #[.val (.ref a), .val (.ref y)] [(.int (0 : Int32))]))
    exact own_finN X8 hx hlk hret (by simp) (hb hby d8_26) (by rw [e8]; exact ⟨(by rw [if_neg hcd8]; rfl), rfl, rfl⟩) (by first | decide | omega | (dsimp only; omega)) (by first | decide | omega | (dsimp only; omega))
theorem ef_rm8n (m : MethodId) (a : Addr) (y : Addr) : entryFrame m #[(.ref a), (.ref y)] 2 = mkF m 0 #[.val (.ref a), .val (.ref y)] [] := by first | (simp [entryFrame, mkF, argsToLocals, Value.category]; done) | rfl
def Qrm8n (Z : State) (a : Addr) (y : Addr) (A0 : Addr) (ak : Addr) (h0 : Heap) (n0 : Nat) (v_ : Option Value) (h_ : Heap) (L_ : List Loc) : Prop := v_ = some (.int (0 : Int32)) ∧ L_ = [] ∧ h_ = h0
set_option maxRecDepth 65536 in
set_option maxHeartbeats 40000000 in
theorem rm8n (l : Launch) (Z : State) (a0 : Array Value) (hw : ∀ d ∈ tables_1, d.before a0 Z = true) (ws : List Jvm.Cond) (a : Addr) (y : Addr) (A0 : Addr) (ak : Addr) (h0 : Heap) (n0 : Nat) (Z0 : n0 ≤ h0.size) (F0_a_kind : Fld Z h0 a "com/example/map_rewriter/maprewriter/core/SExpression$Atom" "kind" "Lcom/example/map_rewriter/maprewriter/core/SExpression$Kind;" (.ref ak)) (S1_com_example_map_rewriter_maprewriter_core_SExpression_Kind_SYMBOL_SYMBOL : Sta Z h0 "com/example/map_rewriter/maprewriter/core/SExpression$Kind" "SYMBOL" "Lcom/example/map_rewriter/maprewriter/core/SExpression$Kind;" (.ref A0)) (HN : ak ≠ A0) :
    MetFree l (⟨"com/example/map_rewriter/maprewriter/core/SExpression$Atom", "isSymbol", "(Ljava/lang/String;)Z"⟩ : MethodName) (head1 (Jvm.Cond.code (⟨"com/example/map_rewriter/maprewriter/core/SExpression$Atom", "isSymbol", "(Ljava/lang/String;)Z"⟩ : MethodName) prog_30_method_4_code 2 (some .boolean) :: ws) ({ frames := 0, cells := 0, slots := 0, locals := 0 } : Room)) (fun as_ U_ => as_ = #[(.ref a), (.ref y)] ∧ Z.Warmed39 U_.vm ∧ U_.heap = h0) (fun _ _ _ _ _ => True) (fun _ U_ o_ V_ => ∃ v_ L_, o_ = .returned v_ ∧ Qrm8n Z a y A0 ak h0 n0 v_ V_.heap L_ ∧ FrameEnd U_ o_ V_ L_ ({ frames := 0, cells := 0, slots := 0, locals := 0 } : Room).cells ({ frames := 0, cells := 0, slots := 0, locals := 0 } : Room).slots) := by
  refine MetFree.of_bodySF (plainFor_of_name pn_com_example_map_rewriter_maprewriter_core_SExpression_Atom) hisR ?_
  intro p e s m args below meth c s₁ Bd hml0 hP hK
  obtain ⟨rfl, hZ, hh⟩ := hP
  have hx := Bd.exec
  have hby := Bd.bytes
  have hlk : meth.locks = false := BodyLoose.notSynchronized Bd
  have hret := Bd.returns
  have hml : c.maxLocals = 2 := hml0
  have hown : s.vm.findClass "com/example/map_rewriter/maprewriter/core/SExpression$Atom" = some m.cls := findClass_of_methodNamed Bd.named
  have hnm := (name_of_methodNamed Bd.named Bd.method).1
  have X0 : Stand p l e ({ frames := 0, cells := 0, slots := 0, locals := 0 } : Room) s m #[(.ref a), (.ref y)] below meth c s₁ [] 0 0 := Stand.of_body Bd
  have e0 : s₁.heap = h0 := by rw [← hh, Bd.state]; rfl
  have N0 := Fr.nil n0
  show Goes p e below (Fin_ s (Qrm8n Z a y A0 ak h0 n0) ({ frames := 0, cells := 0, slots := 0, locals := 0 } : Room).cells ({ frames := 0, cells := 0, slots := 0, locals := 0 } : Room).slots) (s₁.setTop (entryFrame m #[(.ref a), (.ref y)] 2))
  rw [ef_rm8n m a y]
  refine Goes.via (fun _ kk_ => XS.aloadN X0.here hx rfl (hb hby d8_0) rfl rfl  kk_) ?_
  show Goes p e below _ (s₁.setTop (mkF m 1 #[.val (.ref a), .val (.ref y)] [(.ref a)]))
  obtain ⟨T1, X1, e1, st1⟩ := getF X0 hx hZ hown (host := "") (Or.inl (hw _ (List.mem_of_getElem? (i := 49) rfl))) Via.refl e0 F0_a_kind (g := (mkF m 1 #[.val (.ref a), .val (.ref y)] [(.ref a)])) rfl rfl (hb hby d8_1)
  refine Goes.via st1 ?_
  show Goes p e below _ (T1.setTop (mkF m 4 #[.val (.ref a), .val (.ref y)] [(.ref ak)]))
  obtain ⟨T2, X2, e2, st2⟩ := getS2 X1 hx hZ hown (host := "") (Or.inl (hw _ (List.mem_of_getElem? (i := 60) rfl))) Via.refl e1 S1_com_example_map_rewriter_maprewriter_core_SExpression_Kind_SYMBOL_SYMBOL (g := (mkF m 4 #[.val (.ref a), .val (.ref y)] [(.ref ak)])) rfl (hb hby d8_4)
  refine Goes.via st2 ?_
  show Goes p e below _ (T2.setTop (mkF m 7 #[.val (.ref a), .val (.ref y)] [(.ref A0), (.ref ak)]))
  refine Goes.via (fun _ kk_ => Jvm.RoadKit.acmp (g := (mkF m 7 #[.val (.ref a), .val (.ref y)] [(.ref A0), (.ref ak)])) X2 hx rfl rfl rfl (pc0 := 7) (pc' := 25) (same := false) rfl (hb hby d8_7) rfl (decide_eq_false fun q => HN (Value.ref.inj q)) (by decide) (by decide) kk_) ?_
  show Goes p e below _ (T2.setTop (mkF m 25 #[.val (.ref a), .val (.ref y)] []))
  refine Goes.via (fun _ kk_ => XS.iconst X2.here hx rfl (hb hby d8_25) kk_) ?_
  show Goes p e below _ (T2.setTop (mkF m 26 #[.val (.ref a), .val (.ref y)] [(.int (0 : Int32))]))
  exact own_finN X2 hx hlk hret (by simp) (hb hby d8_26) (by rw [e2]; exact ⟨rfl, rfl, rfl⟩) (by first | decide | omega | (dsimp only; omega)) (by first | decide | omega | (dsimp only; omega))
theorem ef_rm0 (m : MethodId) (x0 : Int32) (x1 : Int32) (x2 : Int32) (x3 : Int32) (x4 : Int32) (x5 : Int32) : entryFrame m #[(.int x0), (.int x1), (.int x2), (.int x3), (.int x4), (.int x5)] maxLocals = mkF m 0 #[.val (.int x0), .val (.int x1), .val (.int x2), .val (.int x3), .val (.int x4), .val (.int x5), .unset, .unset, .unset, .unset, .unset, .unset, .unset, .unset, .unset, .unset, .unset, .unset, .unset] [] := by first | (simp [entryFrame, mkF, argsToLocals, Value.category, maxLocals]; done) | rfl
def Qrm0 (Z : State) (x0 : Int32) (x1 : Int32) (x2 : Int32) (x3 : Int32) (x4 : Int32) (x5 : Int32) (cS : Int32) (A0 : Addr) (A1 : Addr) (A2 : Addr) (A3 : Addr) (A4 : Addr) (A5 : Addr) (A6 : Addr) (h0 : Heap) (n0 : Nat) (v_ : Option Value) (h_ : Heap) (L_ : List Loc) : Prop := v_ = some (.int (1 : Int32)) ∧ Fr n0 L_ ∧ Keep h0 h_ []
theorem pd_4 : parseMethodDescriptor "(ICC)Ljava/lang/String;" = some ⟨[.int, .char, .char], some (.object "java/lang/String")⟩ := by decide +kernel
theorem pd_5 : parseMethodDescriptor "(I)Lcom/example/map_rewriter/maprewriter/core/SExpression$Kind;" = some ⟨[.int], some (.object "com/example/map_rewriter/maprewriter/core/SExpression$Kind")⟩ := by decide +kernel
theorem pd_6 : parseMethodDescriptor "(Lcom/example/map_rewriter/maprewriter/core/SExpression$Kind;Ljava/lang/String;ZII)V" = some ⟨[(.object "com/example/map_rewriter/maprewriter/core/SExpression$Kind"), (.object "java/lang/String"), .boolean, .int, .int], none⟩ := by decide +kernel
theorem pd_7 : parseMethodDescriptor "(Ljava/lang/String;)Z" = some ⟨[(.object "java/lang/String")], some .boolean⟩ := by decide +kernel
set_option maxRecDepth 65536 in
set_option maxHeartbeats 40000000 in
theorem rm0 (l : Launch) (Z : State) (a0 : Array Value) (hw : ∀ d ∈ tables_1, d.before a0 Z = true) (ws : List Jvm.Cond) (x0 : Int32) (x1 : Int32) (x2 : Int32) (x3 : Int32) (x4 : Int32) (x5 : Int32) (cS : Int32) (A0 : Addr) (A1 : Addr) (A2 : Addr) (A3 : Addr) (A4 : Addr) (A5 : Addr) (A6 : Addr) (h0 : Heap) (n0 : Nat) (Z0 : n0 ≤ h0.size) (OS : Sta Z h0 "java/lang/String" "COMPACT_STRINGS" "Z" (.int cS)) (H_cs : ¬ cS = (0 : Int32)) (OK0 : Sta Z h0 "com/example/map_rewriter/maprewriter/core/SExpression$Kind" "SYMBOL" "Lcom/example/map_rewriter/maprewriter/core/SExpression$Kind;" (.ref A0)) (OK1 : Sta Z h0 "com/example/map_rewriter/maprewriter/core/SExpression$Kind" "KEYWORD" "Lcom/example/map_rewriter/maprewriter/core/SExpression$Kind;" (.ref A1)) (OK2 : Sta Z h0 "com/example/map_rewriter/maprewriter/core/SExpression$Kind" "NUMERAL" "Lcom/example/map_rewriter/maprewriter/core/SExpression$Kind;" (.ref A2)) (OK3 : Sta Z h0 "com/example/map_rewriter/maprewriter/core/SExpression$Kind" "DECIMAL" "Lcom/example/map_rewriter/maprewriter/core/SExpression$Kind;" (.ref A3)) (OK4 : Sta Z h0 "com/example/map_rewriter/maprewriter/core/SExpression$Kind" "HEXADECIMAL" "Lcom/example/map_rewriter/maprewriter/core/SExpression$Kind;" (.ref A4)) (OK5 : Sta Z h0 "com/example/map_rewriter/maprewriter/core/SExpression$Kind" "BINARY" "Lcom/example/map_rewriter/maprewriter/core/SExpression$Kind;" (.ref A5)) (OK6 : Sta Z h0 "com/example/map_rewriter/maprewriter/core/SExpression$Kind" "STRING" "Lcom/example/map_rewriter/maprewriter/core/SExpression$Kind;" (.ref A6)) (HN1 : A1 ≠ A0) (HN2 : A2 ≠ A0) (HN3 : A3 ≠ A0) (HN4 : A4 ≠ A0) (HN5 : A5 ≠ A0) (HN6 : A6 ≠ A0) (HO : Old Z n0 h0) (HW : Jvm.Lit.compactW.before a0 Z = true) (HC0 : Jvm.Lit.constHeld Z "java/lang/String" 7) :
    MetFree l x (head1 (Jvm.Cond.code x code maxLocals ret :: ws) room_1) (fun as_ U_ => as_ = #[(.int x0), (.int x1), (.int x2), (.int x3), (.int x4), (.int x5)] ∧ Z.Warmed39 U_.vm ∧ U_.heap = h0 ∧ KS Z own_KL U_.vm U_.heap) (fun _ _ _ _ _ => True) (fun _ U_ o_ V_ => ∃ v_ L_, o_ = .returned v_ ∧ Qrm0 Z x0 x1 x2 x3 x4 x5 cS A0 A1 A2 A3 A4 A5 A6 h0 n0 v_ V_.heap L_ ∧ KS Z own_KL V_.vm V_.heap ∧ ReturnedEndW U_ o_ V_ L_ room_1.cells room_1.slots) := by
  refine MetFree.of_bodySF (plainFor_of_name pn_com_example_map_rewriter_maprewriter_core_AtomIsSymbolPinLaw) hisR ?_
  intro p e s m args below meth c s₁ Bd hml0 hP hK
  obtain ⟨rfl, hZ, hh, hKs⟩ := hP
  have hx := Bd.exec
  have hby := Bd.bytes
  have hlk : meth.locks = false := BodyLoose.notSynchronized Bd
  have hret := Bd.returns
  have hml : c.maxLocals = 19 := hml0
  have hown : s.vm.findClass "com/example/map_rewriter/maprewriter/core/AtomIsSymbolPinLaw" = some m.cls := findClass_of_methodNamed Bd.named
  have hnm := (name_of_methodNamed Bd.named Bd.method).1
  have X0 : Stand p l e room_1 (s.setVm s.vm) m #[(.int x0), (.int x1), (.int x2), (.int x3), (.int x4), (.int x5)] below meth c s₁ [] 0 0 := Stand.of_body Bd
  have e0 : s₁.heap = h0 := by rw [← hh, Bd.state]; rfl
  have N0 := Fr.nil n0
  show Goes p e below (Fin_W s (Qrm0 Z x0 x1 x2 x3 x4 x5 cS A0 A1 A2 A3 A4 A5 A6 h0 n0) (fun U_ => KS Z own_KL U_.vm U_.heap) room_1.cells room_1.slots) (s₁.setTop (entryFrame m #[(.int x0), (.int x1), (.int x2), (.int x3), (.int x4), (.int x5)] maxLocals))
  rw [ef_rm0 m x0 x1 x2 x3 x4 x5]
  have SI0 : s.Since s.vm 0 := (State.WarmedH.refl s).since 0
  have Ks0 : KS Z own_KL s.vm h0 := hh ▸ hKs
  refine Goes.via (fun _ kk_ => XS.iloadN X0.here hx rfl (hb hby at_0) rfl  kk_) ?_
  show Goes p e below _ (s₁.setTop (mkF m 1 #[.val (.int x0), .val (.int x1), .val (.int x2), .val (.int x3), .val (.int x4), .val (.int x5), .unset, .unset, .unset, .unset, .unset, .unset, .unset, .unset, .unset, .unset, .unset, .unset, .unset] [(.int x0)]))
  refine Goes.via (X0.ldcInt hx hown (mvT hZ (hw _ (List.mem_of_getElem? (i := 0) rfl))) (g := (mkF m 1 #[.val (.int x0), .val (.int x1), .val (.int x2), .val (.int x3), .val (.int x4), .val (.int x5), .unset, .unset, .unset, .unset, .unset, .unset, .unset, .unset, .unset, .unset, .unset, .unset, .unset] [(.int x0)])) rfl (hb hby at_1)) ?_
  show Goes p e below _ (s₁.setTop (mkF m 3 #[.val (.int x0), .val (.int x1), .val (.int x2), .val (.int x3), .val (.int x4), .val (.int x5), .unset, .unset, .unset, .unset, .unset, .unset, .unset, .unset, .unset, .unset, .unset, .unset, .unset] [(.int (2147483647 : Int32)), (.int x0)]))
  refine Goes.via (fun _ kk_ => XS.iand X0.here hx rfl (hb hby at_3) rfl kk_) ?_
  show Goes p e below _ (s₁.setTop (mkF m 4 #[.val (.int x0), .val (.int x1), .val (.int x2), .val (.int x3), .val (.int x4), .val (.int x5), .unset, .unset, .unset, .unset, .unset, .unset, .unset, .unset, .unset, .unset, .unset, .unset, .unset] [(.int (x0 &&& (2147483647 : Int32)))]))
  refine Goes.via (fun _ kk_ => XS.bipush X0.here hx rfl (hb hby at_4) kk_) ?_
  show Goes p e below _ (s₁.setTop (mkF m 6 #[.val (.int x0), .val (.int x1), .val (.int x2), .val (.int x3), .val (.int x4), .val (.int x5), .unset, .unset, .unset, .unset, .unset, .unset, .unset, .unset, .unset, .unset, .unset, .unset, .unset] [(.int (7 : Int32)), (.int (x0 &&& (2147483647 : Int32)))]))
  refine Goes.via (fun _ kk_ => iremM X0 hx rfl (hb hby at_6) rfl (by decide) kk_) ?_
  show Goes p e below _ (s₁.setTop (mkF m 7 #[.val (.int x0), .val (.int x1), .val (.int x2), .val (.int x3), .val (.int x4), .val (.int x5), .unset, .unset, .unset, .unset, .unset, .unset, .unset, .unset, .unset, .unset, .unset, .unset, .unset] [(.int ((x0 &&& (2147483647 : Int32)) % (7 : Int32)))]))
  refine Goes.via (fun _ kk_ => XS.istore X0.here hx rfl (hb hby at_7) rfl (l' := #[.val (.int x0), .val (.int x1), .val (.int x2), .val (.int x3), .val (.int x4), .val (.int x5), .val (.int ((x0 &&& (2147483647 : Int32)) % (7 : Int32))), .unset, .unset, .unset, .unset, .unset, .unset, .unset, .unset, .unset, .unset, .unset, .unset]) rfl kk_) ?_
  show Goes p e below _ (s₁.setTop (mkF m 9 #[.val (.int x0), .val (.int x1), .val (.int x2), .val (.int x3), .val (.int x4), .val (.int x5), .val (.int ((x0 &&& (2147483647 : Int32)) % (7 : Int32))), .unset, .unset, .unset, .unset, .unset, .unset, .unset, .unset, .unset, .unset, .unset, .unset] []))
  generalize hv_v6_1 : ((x0 &&& (2147483647 : Int32)) % (7 : Int32)) = v6_1
  show Goes p e below _ (s₁.setTop (mkF m 9 #[.val (.int x0), .val (.int x1), .val (.int x2), .val (.int x3), .val (.int x4), .val (.int x5), .val (.int v6_1), .unset, .unset, .unset, .unset, .unset, .unset, .unset, .unset, .unset, .unset, .unset, .unset] []))
  refine Goes.via (fun _ kk_ => XS.iloadN X0.here hx rfl (hb hby at_9) rfl  kk_) ?_
  show Goes p e below _ (s₁.setTop (mkF m 10 #[.val (.int x0), .val (.int x1), .val (.int x2), .val (.int x3), .val (.int x4), .val (.int x5), .val (.int v6_1), .unset, .unset, .unset, .unset, .unset, .unset, .unset, .unset, .unset, .unset, .unset, .unset] [(.int x3)]))
  refine Goes.via (fun _ kk_ => XS.iconst X0.here hx rfl (hb hby at_10) kk_) ?_
  show Goes p e below _ (s₁.setTop (mkF m 11 #[.val (.int x0), .val (.int x1), .val (.int x2), .val (.int x3), .val (.int x4), .val (.int x5), .val (.int v6_1), .unset, .unset, .unset, .unset, .unset, .unset, .unset, .unset, .unset, .unset, .unset, .unset] [(.int (1 : Int32)), (.int x3)]))
  refine Goes.via (fun _ kk_ => XS.iand X0.here hx rfl (hb hby at_11) rfl kk_) ?_
  show Goes p e below _ (s₁.setTop (mkF m 12 #[.val (.int x0), .val (.int x1), .val (.int x2), .val (.int x3), .val (.int x4), .val (.int x5), .val (.int v6_1), .unset, .unset, .unset, .unset, .unset, .unset, .unset, .unset, .unset, .unset, .unset, .unset] [(.int (x3 &&& (1 : Int32)))]))
  obtain ⟨jj2, hv_jj2⟩ : ∃ z : Int32, z = (if (x3 &&& (1 : Int32)) = (0 : Int32) then (0 : Int32) else (1 : Int32)) := ⟨_, rfl⟩
  suffices J : Goes p e below (Fin_W s (Qrm0 Z x0 x1 x2 x3 x4 x5 cS A0 A1 A2 A3 A4 A5 A6 h0 n0) (fun U_ => KS Z own_KL U_.vm U_.heap) room_1.cells room_1.slots) (s₁.setTop (mkF m 20 #[.val (.int x0), .val (.int x1), .val (.int x2), .val (.int x3), .val (.int x4), .val (.int x5), .val (.int v6_1), .unset, .unset, .unset, .unset, .unset, .unset, .unset, .unset, .unset, .unset, .unset, .unset] [(.int jj2)])) by
    by_cases hc12 : (x3 &&& (1 : Int32)) = (0 : Int32)
    · skip
      rw [show jj2 = (0 : Int32) from hv_jj2.trans (if_pos hc12)] at J
      refine Goes.via (fun _ kk_ => XS.ifYes X0.here hx rfl (pc0 := 12) (pc' := 19) rfl (hb hby at_12) rfl ((if0 _ _).trans (teq hc12).1) (by decide) (by decide) kk_) ?_
      show Goes p e below _ (s₁.setTop (mkF m 19 #[.val (.int x0), .val (.int x1), .val (.int x2), .val (.int x3), .val (.int x4), .val (.int x5), .val (.int v6_1), .unset, .unset, .unset, .unset, .unset, .unset, .unset, .unset, .unset, .unset, .unset, .unset] []))
      refine Goes.via (fun _ kk_ => XS.iconst X0.here hx rfl (hb hby at_19) kk_) ?_
      show Goes p e below _ (s₁.setTop (mkF m 20 #[.val (.int x0), .val (.int x1), .val (.int x2), .val (.int x3), .val (.int x4), .val (.int x5), .val (.int v6_1), .unset, .unset, .unset, .unset, .unset, .unset, .unset, .unset, .unset, .unset, .unset, .unset] [(.int (0 : Int32))]))
      exact J
    · skip
      rw [show jj2 = (1 : Int32) from hv_jj2.trans (if_neg hc12)] at J
      refine Goes.via (fun _ kk_ => XS.ifNo X0.here hx rfl (hb hby at_12) rfl ((if0 _ _).trans (feq hc12).1) kk_) ?_
      show Goes p e below _ (s₁.setTop (mkF m 15 #[.val (.int x0), .val (.int x1), .val (.int x2), .val (.int x3), .val (.int x4), .val (.int x5), .val (.int v6_1), .unset, .unset, .unset, .unset, .unset, .unset, .unset, .unset, .unset, .unset, .unset, .unset] []))
      refine Goes.via (fun _ kk_ => XS.iconst X0.here hx rfl (hb hby at_15) kk_) ?_
      show Goes p e below _ (s₁.setTop (mkF m 16 #[.val (.int x0), .val (.int x1), .val (.int x2), .val (.int x3), .val (.int x4), .val (.int x5), .val (.int v6_1), .unset, .unset, .unset, .unset, .unset, .unset, .unset, .unset, .unset, .unset, .unset, .unset] [(.int (1 : Int32))]))
      refine Goes.via (fun _ kk_ => XS.goto X0.here hx rfl (pc0 := 16) (pc' := 20) rfl (hb hby at_16) (by decide) (by decide) kk_) ?_
      show Goes p e below _ (s₁.setTop (mkF m 20 #[.val (.int x0), .val (.int x1), .val (.int x2), .val (.int x3), .val (.int x4), .val (.int x5), .val (.int v6_1), .unset, .unset, .unset, .unset, .unset, .unset, .unset, .unset, .unset, .unset, .unset, .unset] [(.int (1 : Int32))]))
      exact J
  subst hv_jj2
  show Goes p e below _ (s₁.setTop (mkF m 20 #[.val (.int x0), .val (.int x1), .val (.int x2), .val (.int x3), .val (.int x4), .val (.int x5), .val (.int v6_1), .unset, .unset, .unset, .unset, .unset, .unset, .unset, .unset, .unset, .unset, .unset, .unset] [(.int (if (x3 &&& (1 : Int32)) = (0 : Int32) then (0 : Int32) else (1 : Int32)))]))
  refine Goes.via (fun _ kk_ => XS.istore X0.here hx rfl (hb hby at_20) rfl (l' := #[.val (.int x0), .val (.int x1), .val (.int x2), .val (.int x3), .val (.int x4), .val (.int x5), .val (.int v6_1), .val (.int (if (x3 &&& (1 : Int32)) = (0 : Int32) then (0 : Int32) else (1 : Int32))), .unset, .unset, .unset, .unset, .unset, .unset, .unset, .unset, .unset, .unset, .unset]) rfl kk_) ?_
  show Goes p e below _ (s₁.setTop (mkF m 22 #[.val (.int x0), .val (.int x1), .val (.int x2), .val (.int x3), .val (.int x4), .val (.int x5), .val (.int v6_1), .val (.int (if (x3 &&& (1 : Int32)) = (0 : Int32) then (0 : Int32) else (1 : Int32))), .unset, .unset, .unset, .unset, .unset, .unset, .unset, .unset, .unset, .unset, .unset] []))
  refine Goes.via (fun _ kk_ => XS.iloadN X0.here hx rfl (hb hby at_22) rfl  kk_) ?_
  show Goes p e below _ (s₁.setTop (mkF m 23 #[.val (.int x0), .val (.int x1), .val (.int x2), .val (.int x3), .val (.int x4), .val (.int x5), .val (.int v6_1), .val (.int (if (x3 &&& (1 : Int32)) = (0 : Int32) then (0 : Int32) else (1 : Int32))), .unset, .unset, .unset, .unset, .unset, .unset, .unset, .unset, .unset, .unset, .unset] [(.int x3)]))
  refine Goes.via (fun _ kk_ => XS.iconst X0.here hx rfl (hb hby at_23) kk_) ?_
  show Goes p e below _ (s₁.setTop (mkF m 24 #[.val (.int x0), .val (.int x1), .val (.int x2), .val (.int x3), .val (.int x4), .val (.int x5), .val (.int v6_1), .val (.int (if (x3 &&& (1 : Int32)) = (0 : Int32) then (0 : Int32) else (1 : Int32))), .unset, .unset, .unset, .unset, .unset, .unset, .unset, .unset, .unset, .unset, .unset] [(.int (1 : Int32)), (.int x3)]))
  refine Goes.via (fun _ kk_ => XS.iushr X0.here hx rfl (hb hby at_24) rfl kk_) ?_
  show Goes p e below _ (s₁.setTop (mkF m 25 #[.val (.int x0), .val (.int x1), .val (.int x2), .val (.int x3), .val (.int x4), .val (.int x5), .val (.int v6_1), .val (.int (if (x3 &&& (1 : Int32)) = (0 : Int32) then (0 : Int32) else (1 : Int32))), .unset, .unset, .unset, .unset, .unset, .unset, .unset, .unset, .unset, .unset, .unset] [(.int ((x3.toUInt32 >>> ((1 : Int32) &&& 31).toUInt32).toInt32))]))
  refine Goes.via (fun _ kk_ => XS.iconst X0.here hx rfl (hb hby at_25) kk_) ?_
  show Goes p e below _ (s₁.setTop (mkF m 26 #[.val (.int x0), .val (.int x1), .val (.int x2), .val (.int x3), .val (.int x4), .val (.int x5), .val (.int v6_1), .val (.int (if (x3 &&& (1 : Int32)) = (0 : Int32) then (0 : Int32) else (1 : Int32))), .unset, .unset, .unset, .unset, .unset, .unset, .unset, .unset, .unset, .unset, .unset] [(.int (3 : Int32)), (.int ((x3.toUInt32 >>> ((1 : Int32) &&& 31).toUInt32).toInt32))]))
  refine Goes.via (fun _ kk_ => XS.iand X0.here hx rfl (hb hby at_26) rfl kk_) ?_
  show Goes p e below _ (s₁.setTop (mkF m 27 #[.val (.int x0), .val (.int x1), .val (.int x2), .val (.int x3), .val (.int x4), .val (.int x5), .val (.int v6_1), .val (.int (if (x3 &&& (1 : Int32)) = (0 : Int32) then (0 : Int32) else (1 : Int32))), .unset, .unset, .unset, .unset, .unset, .unset, .unset, .unset, .unset, .unset, .unset] [(.int (((x3.toUInt32 >>> ((1 : Int32) &&& 31).toUInt32).toInt32) &&& (3 : Int32)))]))
  refine Goes.via (fun _ kk_ => XS.iconst X0.here hx rfl (hb hby at_27) kk_) ?_
  show Goes p e below _ (s₁.setTop (mkF m 28 #[.val (.int x0), .val (.int x1), .val (.int x2), .val (.int x3), .val (.int x4), .val (.int x5), .val (.int v6_1), .val (.int (if (x3 &&& (1 : Int32)) = (0 : Int32) then (0 : Int32) else (1 : Int32))), .unset, .unset, .unset, .unset, .unset, .unset, .unset, .unset, .unset, .unset, .unset] [(.int (3 : Int32)), (.int (((x3.toUInt32 >>> ((1 : Int32) &&& 31).toUInt32).toInt32) &&& (3 : Int32)))]))
  refine Goes.via (fun _ kk_ => iremM X0 hx rfl (hb hby at_28) rfl (by decide) kk_) ?_
  show Goes p e below _ (s₁.setTop (mkF m 29 #[.val (.int x0), .val (.int x1), .val (.int x2), .val (.int x3), .val (.int x4), .val (.int x5), .val (.int v6_1), .val (.int (if (x3 &&& (1 : Int32)) = (0 : Int32) then (0 : Int32) else (1 : Int32))), .unset, .unset, .unset, .unset, .unset, .unset, .unset, .unset, .unset, .unset, .unset] [(.int ((((x3.toUInt32 >>> ((1 : Int32) &&& 31).toUInt32).toInt32) &&& (3 : Int32)) % (3 : Int32)))]))
  refine Goes.via (fun _ kk_ => XS.istore X0.here hx rfl (hb hby at_29) rfl (l' := #[.val (.int x0), .val (.int x1), .val (.int x2), .val (.int x3), .val (.int x4), .val (.int x5), .val (.int v6_1), .val (.int (if (x3 &&& (1 : Int32)) = (0 : Int32) then (0 : Int32) else (1 : Int32))), .val (.int ((((x3.toUInt32 >>> ((1 : Int32) &&& 31).toUInt32).toInt32) &&& (3 : Int32)) % (3 : Int32))), .unset, .unset, .unset, .unset, .unset, .unset, .unset, .unset, .unset, .unset]) rfl kk_) ?_
  show Goes p e below _ (s₁.setTop (mkF m 31 #[.val (.int x0), .val (.int x1), .val (.int x2), .val (.int x3), .val (.int x4), .val (.int x5), .val (.int v6_1), .val (.int (if (x3 &&& (1 : Int32)) = (0 : Int32) then (0 : Int32) else (1 : Int32))), .val (.int ((((x3.toUInt32 >>> ((1 : Int32) &&& 31).toUInt32).toInt32) &&& (3 : Int32)) % (3 : Int32))), .unset, .unset, .unset, .unset, .unset, .unset, .unset, .unset, .unset, .unset] []))
  generalize hv_v8_3 : ((((x3.toUInt32 >>> ((1 : Int32) &&& 31).toUInt32).toInt32) &&& (3 : Int32)) % (3 : Int32)) = v8_3
  show Goes p e below _ (s₁.setTop (mkF m 31 #[.val (.int x0), .val (.int x1), .val (.int x2), .val (.int x3), .val (.int x4), .val (.int x5), .val (.int v6_1), .val (.int (if (x3 &&& (1 : Int32)) = (0 : Int32) then (0 : Int32) else (1 : Int32))), .val (.int v8_3), .unset, .unset, .unset, .unset, .unset, .unset, .unset, .unset, .unset, .unset] []))
  refine Goes.via (fun _ kk_ => XS.iloadN X0.here hx rfl (hb hby at_31) rfl  kk_) ?_
  show Goes p e below _ (s₁.setTop (mkF m 32 #[.val (.int x0), .val (.int x1), .val (.int x2), .val (.int x3), .val (.int x4), .val (.int x5), .val (.int v6_1), .val (.int (if (x3 &&& (1 : Int32)) = (0 : Int32) then (0 : Int32) else (1 : Int32))), .val (.int v8_3), .unset, .unset, .unset, .unset, .unset, .unset, .unset, .unset, .unset, .unset] [(.int x3)]))
  refine Goes.via (fun _ kk_ => XS.iconst X0.here hx rfl (hb hby at_32) kk_) ?_
  show Goes p e below _ (s₁.setTop (mkF m 33 #[.val (.int x0), .val (.int x1), .val (.int x2), .val (.int x3), .val (.int x4), .val (.int x5), .val (.int v6_1), .val (.int (if (x3 &&& (1 : Int32)) = (0 : Int32) then (0 : Int32) else (1 : Int32))), .val (.int v8_3), .unset, .unset, .unset, .unset, .unset, .unset, .unset, .unset, .unset, .unset] [(.int (3 : Int32)), (.int x3)]))
  refine Goes.via (fun _ kk_ => XS.iushr X0.here hx rfl (hb hby at_33) rfl kk_) ?_
  show Goes p e below _ (s₁.setTop (mkF m 34 #[.val (.int x0), .val (.int x1), .val (.int x2), .val (.int x3), .val (.int x4), .val (.int x5), .val (.int v6_1), .val (.int (if (x3 &&& (1 : Int32)) = (0 : Int32) then (0 : Int32) else (1 : Int32))), .val (.int v8_3), .unset, .unset, .unset, .unset, .unset, .unset, .unset, .unset, .unset, .unset] [(.int ((x3.toUInt32 >>> ((3 : Int32) &&& 31).toUInt32).toInt32))]))
  refine Goes.via (fun _ kk_ => XS.iconst X0.here hx rfl (hb hby at_34) kk_) ?_
  show Goes p e below _ (s₁.setTop (mkF m 35 #[.val (.int x0), .val (.int x1), .val (.int x2), .val (.int x3), .val (.int x4), .val (.int x5), .val (.int v6_1), .val (.int (if (x3 &&& (1 : Int32)) = (0 : Int32) then (0 : Int32) else (1 : Int32))), .val (.int v8_3), .unset, .unset, .unset, .unset, .unset, .unset, .unset, .unset, .unset, .unset] [(.int (1 : Int32)), (.int ((x3.toUInt32 >>> ((3 : Int32) &&& 31).toUInt32).toInt32))]))
  refine Goes.via (fun _ kk_ => XS.iand X0.here hx rfl (hb hby at_35) rfl kk_) ?_
  show Goes p e below _ (s₁.setTop (mkF m 36 #[.val (.int x0), .val (.int x1), .val (.int x2), .val (.int x3), .val (.int x4), .val (.int x5), .val (.int v6_1), .val (.int (if (x3 &&& (1 : Int32)) = (0 : Int32) then (0 : Int32) else (1 : Int32))), .val (.int v8_3), .unset, .unset, .unset, .unset, .unset, .unset, .unset, .unset, .unset, .unset] [(.int (((x3.toUInt32 >>> ((3 : Int32) &&& 31).toUInt32).toInt32) &&& (1 : Int32)))]))
  obtain ⟨jj4, hv_jj4⟩ : ∃ z : Int32, z = (if (((x3.toUInt32 >>> ((3 : Int32) &&& 31).toUInt32).toInt32) &&& (1 : Int32)) = (0 : Int32) then ((((x3.toUInt32 >>> ((4 : Int32) &&& 31).toUInt32).toInt32) &&& (3 : Int32)) % (3 : Int32)) else v8_3) := ⟨_, rfl⟩
  suffices J : Goes p e below (Fin_W s (Qrm0 Z x0 x1 x2 x3 x4 x5 cS A0 A1 A2 A3 A4 A5 A6 h0 n0) (fun U_ => KS Z own_KL U_.vm U_.heap) room_1.cells room_1.slots) (s₁.setTop (mkF m 55 #[.val (.int x0), .val (.int x1), .val (.int x2), .val (.int x3), .val (.int x4), .val (.int x5), .val (.int v6_1), .val (.int (if (x3 &&& (1 : Int32)) = (0 : Int32) then (0 : Int32) else (1 : Int32))), .val (.int v8_3), .val (.int jj4), .unset, .unset, .unset, .unset, .unset, .unset, .unset, .unset, .unset] [])) by
    by_cases hc36 : (((x3.toUInt32 >>> ((3 : Int32) &&& 31).toUInt32).toInt32) &&& (1 : Int32)) = (0 : Int32)
    · skip
      rw [show jj4 = ((((x3.toUInt32 >>> ((4 : Int32) &&& 31).toUInt32).toInt32) &&& (3 : Int32)) % (3 : Int32)) from hv_jj4.trans (if_pos hc36)] at J
      refine Goes.via (fun _ kk_ => XS.ifYes X0.here hx rfl (pc0 := 36) (pc' := 46) rfl (hb hby at_36) rfl ((if0 _ _).trans (teq hc36).1) (by decide) (by decide) kk_) ?_
      show Goes p e below _ (s₁.setTop (mkF m 46 #[.val (.int x0), .val (.int x1), .val (.int x2), .val (.int x3), .val (.int x4), .val (.int x5), .val (.int v6_1), .val (.int (if (x3 &&& (1 : Int32)) = (0 : Int32) then (0 : Int32) else (1 : Int32))), .val (.int v8_3), .unset, .unset, .unset, .unset, .unset, .unset, .unset, .unset, .unset, .unset] []))
      refine Goes.via (fun _ kk_ => XS.iloadN X0.here hx rfl (hb hby at_46) rfl  kk_) ?_
      show Goes p e below _ (s₁.setTop (mkF m 47 #[.val (.int x0), .val (.int x1), .val (.int x2), .val (.int x3), .val (.int x4), .val (.int x5), .val (.int v6_1), .val (.int (if (x3 &&& (1 : Int32)) = (0 : Int32) then (0 : Int32) else (1 : Int32))), .val (.int v8_3), .unset, .unset, .unset, .unset, .unset, .unset, .unset, .unset, .unset, .unset] [(.int x3)]))
      refine Goes.via (fun _ kk_ => XS.iconst X0.here hx rfl (hb hby at_47) kk_) ?_
      show Goes p e below _ (s₁.setTop (mkF m 48 #[.val (.int x0), .val (.int x1), .val (.int x2), .val (.int x3), .val (.int x4), .val (.int x5), .val (.int v6_1), .val (.int (if (x3 &&& (1 : Int32)) = (0 : Int32) then (0 : Int32) else (1 : Int32))), .val (.int v8_3), .unset, .unset, .unset, .unset, .unset, .unset, .unset, .unset, .unset, .unset] [(.int (4 : Int32)), (.int x3)]))
      refine Goes.via (fun _ kk_ => XS.iushr X0.here hx rfl (hb hby at_48) rfl kk_) ?_
      show Goes p e below _ (s₁.setTop (mkF m 49 #[.val (.int x0), .val (.int x1), .val (.int x2), .val (.int x3), .val (.int x4), .val (.int x5), .val (.int v6_1), .val (.int (if (x3 &&& (1 : Int32)) = (0 : Int32) then (0 : Int32) else (1 : Int32))), .val (.int v8_3), .unset, .unset, .unset, .unset, .unset, .unset, .unset, .unset, .unset, .unset] [(.int ((x3.toUInt32 >>> ((4 : Int32) &&& 31).toUInt32).toInt32))]))
      refine Goes.via (fun _ kk_ => XS.iconst X0.here hx rfl (hb hby at_49) kk_) ?_
      show Goes p e below _ (s₁.setTop (mkF m 50 #[.val (.int x0), .val (.int x1), .val (.int x2), .val (.int x3), .val (.int x4), .val (.int x5), .val (.int v6_1), .val (.int (if (x3 &&& (1 : Int32)) = (0 : Int32) then (0 : Int32) else (1 : Int32))), .val (.int v8_3), .unset, .unset, .unset, .unset, .unset, .unset, .unset, .unset, .unset, .unset] [(.int (3 : Int32)), (.int ((x3.toUInt32 >>> ((4 : Int32) &&& 31).toUInt32).toInt32))]))
      refine Goes.via (fun _ kk_ => XS.iand X0.here hx rfl (hb hby at_50) rfl kk_) ?_
      show Goes p e below _ (s₁.setTop (mkF m 51 #[.val (.int x0), .val (.int x1), .val (.int x2), .val (.int x3), .val (.int x4), .val (.int x5), .val (.int v6_1), .val (.int (if (x3 &&& (1 : Int32)) = (0 : Int32) then (0 : Int32) else (1 : Int32))), .val (.int v8_3), .unset, .unset, .unset, .unset, .unset, .unset, .unset, .unset, .unset, .unset] [(.int (((x3.toUInt32 >>> ((4 : Int32) &&& 31).toUInt32).toInt32) &&& (3 : Int32)))]))
      refine Goes.via (fun _ kk_ => XS.iconst X0.here hx rfl (hb hby at_51) kk_) ?_
      show Goes p e below _ (s₁.setTop (mkF m 52 #[.val (.int x0), .val (.int x1), .val (.int x2), .val (.int x3), .val (.int x4), .val (.int x5), .val (.int v6_1), .val (.int (if (x3 &&& (1 : Int32)) = (0 : Int32) then (0 : Int32) else (1 : Int32))), .val (.int v8_3), .unset, .unset, .unset, .unset, .unset, .unset, .unset, .unset, .unset, .unset] [(.int (3 : Int32)), (.int (((x3.toUInt32 >>> ((4 : Int32) &&& 31).toUInt32).toInt32) &&& (3 : Int32)))]))
      refine Goes.via (fun _ kk_ => iremM X0 hx rfl (hb hby at_52) rfl (by decide) kk_) ?_
      show Goes p e below _ (s₁.setTop (mkF m 53 #[.val (.int x0), .val (.int x1), .val (.int x2), .val (.int x3), .val (.int x4), .val (.int x5), .val (.int v6_1), .val (.int (if (x3 &&& (1 : Int32)) = (0 : Int32) then (0 : Int32) else (1 : Int32))), .val (.int v8_3), .unset, .unset, .unset, .unset, .unset, .unset, .unset, .unset, .unset, .unset] [(.int ((((x3.toUInt32 >>> ((4 : Int32) &&& 31).toUInt32).toInt32) &&& (3 : Int32)) % (3 : Int32)))]))
      refine Goes.via (fun _ kk_ => XS.istore X0.here hx rfl (hb hby at_53) rfl (l' := #[.val (.int x0), .val (.int x1), .val (.int x2), .val (.int x3), .val (.int x4), .val (.int x5), .val (.int v6_1), .val (.int (if (x3 &&& (1 : Int32)) = (0 : Int32) then (0 : Int32) else (1 : Int32))), .val (.int v8_3), .val (.int ((((x3.toUInt32 >>> ((4 : Int32) &&& 31).toUInt32).toInt32) &&& (3 : Int32)) % (3 : Int32))), .unset, .unset, .unset, .unset, .unset, .unset, .unset, .unset, .unset]) rfl kk_) ?_
      show Goes p e below _ (s₁.setTop (mkF m 55 #[.val (.int x0), .val (.int x1), .val (.int x2), .val (.int x3), .val (.int x4), .val (.int x5), .val (.int v6_1), .val (.int (if (x3 &&& (1 : Int32)) = (0 : Int32) then (0 : Int32) else (1 : Int32))), .val (.int v8_3), .val (.int ((((x3.toUInt32 >>> ((4 : Int32) &&& 31).toUInt32).toInt32) &&& (3 : Int32)) % (3 : Int32))), .unset, .unset, .unset, .unset, .unset, .unset, .unset, .unset, .unset] []))
      exact J
    · skip
      rw [show jj4 = v8_3 from hv_jj4.trans (if_neg hc36)] at J
      refine Goes.via (fun _ kk_ => XS.ifNo X0.here hx rfl (hb hby at_36) rfl ((if0 _ _).trans (feq hc36).1) kk_) ?_
      show Goes p e below _ (s₁.setTop (mkF m 39 #[.val (.int x0), .val (.int x1), .val (.int x2), .val (.int x3), .val (.int x4), .val (.int x5), .val (.int v6_1), .val (.int (if (x3 &&& (1 : Int32)) = (0 : Int32) then (0 : Int32) else (1 : Int32))), .val (.int v8_3), .unset, .unset, .unset, .unset, .unset, .unset, .unset, .unset, .unset, .unset] []))
      refine Goes.via (fun _ kk_ => XS.iload X0.here hx rfl (hb hby at_39) rfl  kk_) ?_
      show Goes p e below _ (s₁.setTop (mkF m 41 #[.val (.int x0), .val (.int x1), .val (.int x2), .val (.int x3), .val (.int x4), .val (.int x5), .val (.int v6_1), .val (.int (if (x3 &&& (1 : Int32)) = (0 : Int32) then (0 : Int32) else (1 : Int32))), .val (.int v8_3), .unset, .unset, .unset, .unset, .unset, .unset, .unset, .unset, .unset, .unset] [(.int v8_3)]))
      refine Goes.via (fun _ kk_ => XS.istore X0.here hx rfl (hb hby at_41) rfl (l' := #[.val (.int x0), .val (.int x1), .val (.int x2), .val (.int x3), .val (.int x4), .val (.int x5), .val (.int v6_1), .val (.int (if (x3 &&& (1 : Int32)) = (0 : Int32) then (0 : Int32) else (1 : Int32))), .val (.int v8_3), .val (.int v8_3), .unset, .unset, .unset, .unset, .unset, .unset, .unset, .unset, .unset]) rfl kk_) ?_
      show Goes p e below _ (s₁.setTop (mkF m 43 #[.val (.int x0), .val (.int x1), .val (.int x2), .val (.int x3), .val (.int x4), .val (.int x5), .val (.int v6_1), .val (.int (if (x3 &&& (1 : Int32)) = (0 : Int32) then (0 : Int32) else (1 : Int32))), .val (.int v8_3), .val (.int v8_3), .unset, .unset, .unset, .unset, .unset, .unset, .unset, .unset, .unset] []))
      refine Goes.via (fun _ kk_ => XS.goto X0.here hx rfl (pc0 := 43) (pc' := 55) rfl (hb hby at_43) (by decide) (by decide) kk_) ?_
      show Goes p e below _ (s₁.setTop (mkF m 55 #[.val (.int x0), .val (.int x1), .val (.int x2), .val (.int x3), .val (.int x4), .val (.int x5), .val (.int v6_1), .val (.int (if (x3 &&& (1 : Int32)) = (0 : Int32) then (0 : Int32) else (1 : Int32))), .val (.int v8_3), .val (.int v8_3), .unset, .unset, .unset, .unset, .unset, .unset, .unset, .unset, .unset] []))
      exact J
  subst hv_jj4
  show Goes p e below _ (s₁.setTop (mkF m 55 #[.val (.int x0), .val (.int x1), .val (.int x2), .val (.int x3), .val (.int x4), .val (.int x5), .val (.int v6_1), .val (.int (if (x3 &&& (1 : Int32)) = (0 : Int32) then (0 : Int32) else (1 : Int32))), .val (.int v8_3), .val (.int (if (((x3.toUInt32 >>> ((3 : Int32) &&& 31).toUInt32).toInt32) &&& (1 : Int32)) = (0 : Int32) then ((((x3.toUInt32 >>> ((4 : Int32) &&& 31).toUInt32).toInt32) &&& (3 : Int32)) % (3 : Int32)) else v8_3)), .unset, .unset, .unset, .unset, .unset, .unset, .unset, .unset, .unset] []))
  generalize hv_lc : (if (((x3.toUInt32 >>> ((3 : Int32) &&& 31).toUInt32).toInt32) &&& (1 : Int32)) = (0 : Int32) then ((((x3.toUInt32 >>> ((4 : Int32) &&& 31).toUInt32).toInt32) &&& (3 : Int32)) % (3 : Int32)) else v8_3) = lc
  have hlt : v8_3 = (0 : Int32) ∨ v8_3 = (1 : Int32) ∨ v8_3 = (2 : Int32) := by rw [← hv_v8_3]; exact own_012 _
  have hlc : lc = (0 : Int32) ∨ lc = (1 : Int32) ∨ lc = (2 : Int32) := by rw [← hv_lc]; split; exact own_012 _; exact hlt
  show Goes p e below _ (s₁.setTop (mkF m 55 #[.val (.int x0), .val (.int x1), .val (.int x2), .val (.int x3), .val (.int x4), .val (.int x5), .val (.int v6_1), .val (.int (if (x3 &&& (1 : Int32)) = (0 : Int32) then (0 : Int32) else (1 : Int32))), .val (.int v8_3), .val (.int lc), .unset, .unset, .unset, .unset, .unset, .unset, .unset, .unset, .unset] []))
  refine Goes.via (fun _ kk_ => XS.iloadN X0.here hx rfl (hb hby at_55) rfl  kk_) ?_
  show Goes p e below _ (s₁.setTop (mkF m 56 #[.val (.int x0), .val (.int x1), .val (.int x2), .val (.int x3), .val (.int x4), .val (.int x5), .val (.int v6_1), .val (.int (if (x3 &&& (1 : Int32)) = (0 : Int32) then (0 : Int32) else (1 : Int32))), .val (.int v8_3), .val (.int lc), .unset, .unset, .unset, .unset, .unset, .unset, .unset, .unset, .unset] [(.int x1)]))
  refine Goes.via (fun _ kk_ => XS.sipush X0.here hx rfl (hb hby at_56) kk_) ?_
  show Goes p e below _ (s₁.setTop (mkF m 59 #[.val (.int x0), .val (.int x1), .val (.int x2), .val (.int x3), .val (.int x4), .val (.int x5), .val (.int v6_1), .val (.int (if (x3 &&& (1 : Int32)) = (0 : Int32) then (0 : Int32) else (1 : Int32))), .val (.int v8_3), .val (.int lc), .unset, .unset, .unset, .unset, .unset, .unset, .unset, .unset, .unset] [(.int (255 : Int32)), (.int x1)]))
  refine Goes.via (fun _ kk_ => XS.iand X0.here hx rfl (hb hby at_59) rfl kk_) ?_
  show Goes p e below _ (s₁.setTop (mkF m 60 #[.val (.int x0), .val (.int x1), .val (.int x2), .val (.int x3), .val (.int x4), .val (.int x5), .val (.int v6_1), .val (.int (if (x3 &&& (1 : Int32)) = (0 : Int32) then (0 : Int32) else (1 : Int32))), .val (.int v8_3), .val (.int lc), .unset, .unset, .unset, .unset, .unset, .unset, .unset, .unset, .unset] [(.int (x1 &&& (255 : Int32)))]))
  refine Goes.via (fun _ kk_ => XS.i2c X0.here hx rfl (hb hby at_60) rfl kk_) ?_
  show Goes p e below _ (s₁.setTop (mkF m 61 #[.val (.int x0), .val (.int x1), .val (.int x2), .val (.int x3), .val (.int x4), .val (.int x5), .val (.int v6_1), .val (.int (if (x3 &&& (1 : Int32)) = (0 : Int32) then (0 : Int32) else (1 : Int32))), .val (.int v8_3), .val (.int lc), .unset, .unset, .unset, .unset, .unset, .unset, .unset, .unset, .unset] [(.int ((x1 &&& (255 : Int32)).toUInt32.toUInt16.toUInt32.toInt32))]))
  rw [show ((x1 &&& (255 : Int32)).toUInt32.toUInt16.toUInt32.toInt32) = (x1 &&& (255 : Int32)) from i2c_mask _]
  show Goes p e below _ (s₁.setTop (mkF m 61 #[.val (.int x0), .val (.int x1), .val (.int x2), .val (.int x3), .val (.int x4), .val (.int x5), .val (.int v6_1), .val (.int (if (x3 &&& (1 : Int32)) = (0 : Int32) then (0 : Int32) else (1 : Int32))), .val (.int v8_3), .val (.int lc), .unset, .unset, .unset, .unset, .unset, .unset, .unset, .unset, .unset] [(.int (x1 &&& (255 : Int32)))]))
  refine Goes.via (fun _ kk_ => XS.istore X0.here hx rfl (hb hby at_61) rfl (l' := #[.val (.int x0), .val (.int x1), .val (.int x2), .val (.int x3), .val (.int x4), .val (.int x5), .val (.int v6_1), .val (.int (if (x3 &&& (1 : Int32)) = (0 : Int32) then (0 : Int32) else (1 : Int32))), .val (.int v8_3), .val (.int lc), .val (.int (x1 &&& (255 : Int32))), .unset, .unset, .unset, .unset, .unset, .unset, .unset, .unset]) rfl kk_) ?_
  show Goes p e below _ (s₁.setTop (mkF m 63 #[.val (.int x0), .val (.int x1), .val (.int x2), .val (.int x3), .val (.int x4), .val (.int x5), .val (.int v6_1), .val (.int (if (x3 &&& (1 : Int32)) = (0 : Int32) then (0 : Int32) else (1 : Int32))), .val (.int v8_3), .val (.int lc), .val (.int (x1 &&& (255 : Int32))), .unset, .unset, .unset, .unset, .unset, .unset, .unset, .unset] []))
  refine Goes.via (fun _ kk_ => XS.iloadN X0.here hx rfl (hb hby at_63) rfl  kk_) ?_
  show Goes p e below _ (s₁.setTop (mkF m 64 #[.val (.int x0), .val (.int x1), .val (.int x2), .val (.int x3), .val (.int x4), .val (.int x5), .val (.int v6_1), .val (.int (if (x3 &&& (1 : Int32)) = (0 : Int32) then (0 : Int32) else (1 : Int32))), .val (.int v8_3), .val (.int lc), .val (.int (x1 &&& (255 : Int32))), .unset, .unset, .unset, .unset, .unset, .unset, .unset, .unset] [(.int x1)]))
  refine Goes.via (fun _ kk_ => XS.bipush X0.here hx rfl (hb hby at_64) kk_) ?_
  show Goes p e below _ (s₁.setTop (mkF m 66 #[.val (.int x0), .val (.int x1), .val (.int x2), .val (.int x3), .val (.int x4), .val (.int x5), .val (.int v6_1), .val (.int (if (x3 &&& (1 : Int32)) = (0 : Int32) then (0 : Int32) else (1 : Int32))), .val (.int v8_3), .val (.int lc), .val (.int (x1 &&& (255 : Int32))), .unset, .unset, .unset, .unset, .unset, .unset, .unset, .unset] [(.int (8 : Int32)), (.int x1)]))
  refine Goes.via (fun _ kk_ => XS.iushr X0.here hx rfl (hb hby at_66) rfl kk_) ?_
  show Goes p e below _ (s₁.setTop (mkF m 67 #[.val (.int x0), .val (.int x1), .val (.int x2), .val (.int x3), .val (.int x4), .val (.int x5), .val (.int v6_1), .val (.int (if (x3 &&& (1 : Int32)) = (0 : Int32) then (0 : Int32) else (1 : Int32))), .val (.int v8_3), .val (.int lc), .val (.int (x1 &&& (255 : Int32))), .unset, .unset, .unset, .unset, .unset, .unset, .unset, .unset] [(.int ((x1.toUInt32 >>> ((8 : Int32) &&& 31).toUInt32).toInt32))]))
  refine Goes.via (fun _ kk_ => XS.sipush X0.here hx rfl (hb hby at_67) kk_) ?_
  show Goes p e below _ (s₁.setTop (mkF m 70 #[.val (.int x0), .val (.int x1), .val (.int x2), .val (.int x3), .val (.int x4), .val (.int x5), .val (.int v6_1), .val (.int (if (x3 &&& (1 : Int32)) = (0 : Int32) then (0 : Int32) else (1 : Int32))), .val (.int v8_3), .val (.int lc), .val (.int (x1 &&& (255 : Int32))), .unset, .unset, .unset, .unset, .unset, .unset, .unset, .unset] [(.int (255 : Int32)), (.int ((x1.toUInt32 >>> ((8 : Int32) &&& 31).toUInt32).toInt32))]))
  refine Goes.via (fun _ kk_ => XS.iand X0.here hx rfl (hb hby at_70) rfl kk_) ?_
  show Goes p e below _ (s₁.setTop (mkF m 71 #[.val (.int x0), .val (.int x1), .val (.int x2), .val (.int x3), .val (.int x4), .val (.int x5), .val (.int v6_1), .val (.int (if (x3 &&& (1 : Int32)) = (0 : Int32) then (0 : Int32) else (1 : Int32))), .val (.int v8_3), .val (.int lc), .val (.int (x1 &&& (255 : Int32))), .unset, .unset, .unset, .unset, .unset, .unset, .unset, .unset] [(.int (((x1.toUInt32 >>> ((8 : Int32) &&& 31).toUInt32).toInt32) &&& (255 : Int32)))]))
  refine Goes.via (fun _ kk_ => XS.i2c X0.here hx rfl (hb hby at_71) rfl kk_) ?_
  show Goes p e below _ (s₁.setTop (mkF m 72 #[.val (.int x0), .val (.int x1), .val (.int x2), .val (.int x3), .val (.int x4), .val (.int x5), .val (.int v6_1), .val (.int (if (x3 &&& (1 : Int32)) = (0 : Int32) then (0 : Int32) else (1 : Int32))), .val (.int v8_3), .val (.int lc), .val (.int (x1 &&& (255 : Int32))), .unset, .unset, .unset, .unset, .unset, .unset, .unset, .unset] [(.int ((((x1.toUInt32 >>> ((8 : Int32) &&& 31).toUInt32).toInt32) &&& (255 : Int32)).toUInt32.toUInt16.toUInt32.toInt32))]))
  rw [show ((((x1.toUInt32 >>> ((8 : Int32) &&& 31).toUInt32).toInt32) &&& (255 : Int32)).toUInt32.toUInt16.toUInt32.toInt32) = (((x1.toUInt32 >>> ((8 : Int32) &&& 31).toUInt32).toInt32) &&& (255 : Int32)) from i2c_mask _]
  show Goes p e below _ (s₁.setTop (mkF m 72 #[.val (.int x0), .val (.int x1), .val (.int x2), .val (.int x3), .val (.int x4), .val (.int x5), .val (.int v6_1), .val (.int (if (x3 &&& (1 : Int32)) = (0 : Int32) then (0 : Int32) else (1 : Int32))), .val (.int v8_3), .val (.int lc), .val (.int (x1 &&& (255 : Int32))), .unset, .unset, .unset, .unset, .unset, .unset, .unset, .unset] [(.int (((x1.toUInt32 >>> ((8 : Int32) &&& 31).toUInt32).toInt32) &&& (255 : Int32)))]))
  refine Goes.via (fun _ kk_ => XS.istore X0.here hx rfl (hb hby at_72) rfl (l' := #[.val (.int x0), .val (.int x1), .val (.int x2), .val (.int x3), .val (.int x4), .val (.int x5), .val (.int v6_1), .val (.int (if (x3 &&& (1 : Int32)) = (0 : Int32) then (0 : Int32) else (1 : Int32))), .val (.int v8_3), .val (.int lc), .val (.int (x1 &&& (255 : Int32))), .val (.int (((x1.toUInt32 >>> ((8 : Int32) &&& 31).toUInt32).toInt32) &&& (255 : Int32))), .unset, .unset, .unset, .unset, .unset, .unset, .unset]) rfl kk_) ?_
  show Goes p e below _ (s₁.setTop (mkF m 74 #[.val (.int x0), .val (.int x1), .val (.int x2), .val (.int x3), .val (.int x4), .val (.int x5), .val (.int v6_1), .val (.int (if (x3 &&& (1 : Int32)) = (0 : Int32) then (0 : Int32) else (1 : Int32))), .val (.int v8_3), .val (.int lc), .val (.int (x1 &&& (255 : Int32))), .val (.int (((x1.toUInt32 >>> ((8 : Int32) &&& 31).toUInt32).toInt32) &&& (255 : Int32))), .unset, .unset, .unset, .unset, .unset, .unset, .unset] []))
  refine Goes.via (fun _ kk_ => XS.iloadN X0.here hx rfl (hb hby at_74) rfl  kk_) ?_
  show Goes p e below _ (s₁.setTop (mkF m 75 #[.val (.int x0), .val (.int x1), .val (.int x2), .val (.int x3), .val (.int x4), .val (.int x5), .val (.int v6_1), .val (.int (if (x3 &&& (1 : Int32)) = (0 : Int32) then (0 : Int32) else (1 : Int32))), .val (.int v8_3), .val (.int lc), .val (.int (x1 &&& (255 : Int32))), .val (.int (((x1.toUInt32 >>> ((8 : Int32) &&& 31).toUInt32).toInt32) &&& (255 : Int32))), .unset, .unset, .unset, .unset, .unset, .unset, .unset] [(.int x3)]))
  refine Goes.via (fun _ kk_ => XS.bipush X0.here hx rfl (hb hby at_75) kk_) ?_
  show Goes p e below _ (s₁.setTop (mkF m 77 #[.val (.int x0), .val (.int x1), .val (.int x2), .val (.int x3), .val (.int x4), .val (.int x5), .val (.int v6_1), .val (.int (if (x3 &&& (1 : Int32)) = (0 : Int32) then (0 : Int32) else (1 : Int32))), .val (.int v8_3), .val (.int lc), .val (.int (x1 &&& (255 : Int32))), .val (.int (((x1.toUInt32 >>> ((8 : Int32) &&& 31).toUInt32).toInt32) &&& (255 : Int32))), .unset, .unset, .unset, .unset, .unset, .unset, .unset] [(.int (6 : Int32)), (.int x3)]))
  refine Goes.via (fun _ kk_ => XS.iushr X0.here hx rfl (hb hby at_77) rfl kk_) ?_
  show Goes p e below _ (s₁.setTop (mkF m 78 #[.val (.int x0), .val (.int x1), .val (.int x2), .val (.int x3), .val (.int x4), .val (.int x5), .val (.int v6_1), .val (.int (if (x3 &&& (1 : Int32)) = (0 : Int32) then (0 : Int32) else (1 : Int32))), .val (.int v8_3), .val (.int lc), .val (.int (x1 &&& (255 : Int32))), .val (.int (((x1.toUInt32 >>> ((8 : Int32) &&& 31).toUInt32).toInt32) &&& (255 : Int32))), .unset, .unset, .unset, .unset, .unset, .unset, .unset] [(.int ((x3.toUInt32 >>> ((6 : Int32) &&& 31).toUInt32).toInt32))]))
  refine Goes.via (fun _ kk_ => XS.iconst X0.here hx rfl (hb hby at_78) kk_) ?_
  show Goes p e below _ (s₁.setTop (mkF m 79 #[.val (.int x0), .val (.int x1), .val (.int x2), .val (.int x3), .val (.int x4), .val (.int x5), .val (.int v6_1), .val (.int (if (x3 &&& (1 : Int32)) = (0 : Int32) then (0 : Int32) else (1 : Int32))), .val (.int v8_3), .val (.int lc), .val (.int (x1 &&& (255 : Int32))), .val (.int (((x1.toUInt32 >>> ((8 : Int32) &&& 31).toUInt32).toInt32) &&& (255 : Int32))), .unset, .unset, .unset, .unset, .unset, .unset, .unset] [(.int (1 : Int32)), (.int ((x3.toUInt32 >>> ((6 : Int32) &&& 31).toUInt32).toInt32))]))
  refine Goes.via (fun _ kk_ => XS.iand X0.here hx rfl (hb hby at_79) rfl kk_) ?_
  show Goes p e below _ (s₁.setTop (mkF m 80 #[.val (.int x0), .val (.int x1), .val (.int x2), .val (.int x3), .val (.int x4), .val (.int x5), .val (.int v6_1), .val (.int (if (x3 &&& (1 : Int32)) = (0 : Int32) then (0 : Int32) else (1 : Int32))), .val (.int v8_3), .val (.int lc), .val (.int (x1 &&& (255 : Int32))), .val (.int (((x1.toUInt32 >>> ((8 : Int32) &&& 31).toUInt32).toInt32) &&& (255 : Int32))), .unset, .unset, .unset, .unset, .unset, .unset, .unset] [(.int (((x3.toUInt32 >>> ((6 : Int32) &&& 31).toUInt32).toInt32) &&& (1 : Int32)))]))
  obtain ⟨jj5, hv_jj5⟩ : ∃ z : Int32, z = (if (((x3.toUInt32 >>> ((6 : Int32) &&& 31).toUInt32).toInt32) &&& (1 : Int32)) = (0 : Int32) then (x2 &&& (255 : Int32)) else (x1 &&& (255 : Int32))) := ⟨_, rfl⟩
  suffices J : Goes p e below (Fin_W s (Qrm0 Z x0 x1 x2 x3 x4 x5 cS A0 A1 A2 A3 A4 A5 A6 h0 n0) (fun U_ => KS Z own_KL U_.vm U_.heap) room_1.cells room_1.slots) (s₁.setTop (mkF m 98 #[.val (.int x0), .val (.int x1), .val (.int x2), .val (.int x3), .val (.int x4), .val (.int x5), .val (.int v6_1), .val (.int (if (x3 &&& (1 : Int32)) = (0 : Int32) then (0 : Int32) else (1 : Int32))), .val (.int v8_3), .val (.int lc), .val (.int (x1 &&& (255 : Int32))), .val (.int (((x1.toUInt32 >>> ((8 : Int32) &&& 31).toUInt32).toInt32) &&& (255 : Int32))), .val (.int jj5), .unset, .unset, .unset, .unset, .unset, .unset] [])) by
    by_cases hc80 : (((x3.toUInt32 >>> ((6 : Int32) &&& 31).toUInt32).toInt32) &&& (1 : Int32)) = (0 : Int32)
    · skip
      rw [show jj5 = (x2 &&& (255 : Int32)) from hv_jj5.trans (if_pos hc80)] at J
      refine Goes.via (fun _ kk_ => XS.ifYes X0.here hx rfl (pc0 := 80) (pc' := 90) rfl (hb hby at_80) rfl ((if0 _ _).trans (teq hc80).1) (by decide) (by decide) kk_) ?_
      show Goes p e below _ (s₁.setTop (mkF m 90 #[.val (.int x0), .val (.int x1), .val (.int x2), .val (.int x3), .val (.int x4), .val (.int x5), .val (.int v6_1), .val (.int (if (x3 &&& (1 : Int32)) = (0 : Int32) then (0 : Int32) else (1 : Int32))), .val (.int v8_3), .val (.int lc), .val (.int (x1 &&& (255 : Int32))), .val (.int (((x1.toUInt32 >>> ((8 : Int32) &&& 31).toUInt32).toInt32) &&& (255 : Int32))), .unset, .unset, .unset, .unset, .unset, .unset, .unset] []))
      refine Goes.via (fun _ kk_ => XS.iloadN X0.here hx rfl (hb hby at_90) rfl  kk_) ?_
      show Goes p e below _ (s₁.setTop (mkF m 91 #[.val (.int x0), .val (.int x1), .val (.int x2), .val (.int x3), .val (.int x4), .val (.int x5), .val (.int v6_1), .val (.int (if (x3 &&& (1 : Int32)) = (0 : Int32) then (0 : Int32) else (1 : Int32))), .val (.int v8_3), .val (.int lc), .val (.int (x1 &&& (255 : Int32))), .val (.int (((x1.toUInt32 >>> ((8 : Int32) &&& 31).toUInt32).toInt32) &&& (255 : Int32))), .unset, .unset, .unset, .unset, .unset, .unset, .unset] [(.int x2)]))
      refine Goes.via (fun _ kk_ => XS.sipush X0.here hx rfl (hb hby at_91) kk_) ?_
      show Goes p e below _ (s₁.setTop (mkF m 94 #[.val (.int x0), .val (.int x1), .val (.int x2), .val (.int x3), .val (.int x4), .val (.int x5), .val (.int v6_1), .val (.int (if (x3 &&& (1 : Int32)) = (0 : Int32) then (0 : Int32) else (1 : Int32))), .val (.int v8_3), .val (.int lc), .val (.int (x1 &&& (255 : Int32))), .val (.int (((x1.toUInt32 >>> ((8 : Int32) &&& 31).toUInt32).toInt32) &&& (255 : Int32))), .unset, .unset, .unset, .unset, .unset, .unset, .unset] [(.int (255 : Int32)), (.int x2)]))
      refine Goes.via (fun _ kk_ => XS.iand X0.here hx rfl (hb hby at_94) rfl kk_) ?_
      show Goes p e below _ (s₁.setTop (mkF m 95 #[.val (.int x0), .val (.int x1), .val (.int x2), .val (.int x3), .val (.int x4), .val (.int x5), .val (.int v6_1), .val (.int (if (x3 &&& (1 : Int32)) = (0 : Int32) then (0 : Int32) else (1 : Int32))), .val (.int v8_3), .val (.int lc), .val (.int (x1 &&& (255 : Int32))), .val (.int (((x1.toUInt32 >>> ((8 : Int32) &&& 31).toUInt32).toInt32) &&& (255 : Int32))), .unset, .unset, .unset, .unset, .unset, .unset, .unset] [(.int (x2 &&& (255 : Int32)))]))
      refine Goes.via (fun _ kk_ => XS.i2c X0.here hx rfl (hb hby at_95) rfl kk_) ?_
      show Goes p e below _ (s₁.setTop (mkF m 96 #[.val (.int x0), .val (.int x1), .val (.int x2), .val (.int x3), .val (.int x4), .val (.int x5), .val (.int v6_1), .val (.int (if (x3 &&& (1 : Int32)) = (0 : Int32) then (0 : Int32) else (1 : Int32))), .val (.int v8_3), .val (.int lc), .val (.int (x1 &&& (255 : Int32))), .val (.int (((x1.toUInt32 >>> ((8 : Int32) &&& 31).toUInt32).toInt32) &&& (255 : Int32))), .unset, .unset, .unset, .unset, .unset, .unset, .unset] [(.int ((x2 &&& (255 : Int32)).toUInt32.toUInt16.toUInt32.toInt32))]))
      rw [show ((x2 &&& (255 : Int32)).toUInt32.toUInt16.toUInt32.toInt32) = (x2 &&& (255 : Int32)) from i2c_mask _]
      show Goes p e below _ (s₁.setTop (mkF m 96 #[.val (.int x0), .val (.int x1), .val (.int x2), .val (.int x3), .val (.int x4), .val (.int x5), .val (.int v6_1), .val (.int (if (x3 &&& (1 : Int32)) = (0 : Int32) then (0 : Int32) else (1 : Int32))), .val (.int v8_3), .val (.int lc), .val (.int (x1 &&& (255 : Int32))), .val (.int (((x1.toUInt32 >>> ((8 : Int32) &&& 31).toUInt32).toInt32) &&& (255 : Int32))), .unset, .unset, .unset, .unset, .unset, .unset, .unset] [(.int (x2 &&& (255 : Int32)))]))
      refine Goes.via (fun _ kk_ => XS.istore X0.here hx rfl (hb hby at_96) rfl (l' := #[.val (.int x0), .val (.int x1), .val (.int x2), .val (.int x3), .val (.int x4), .val (.int x5), .val (.int v6_1), .val (.int (if (x3 &&& (1 : Int32)) = (0 : Int32) then (0 : Int32) else (1 : Int32))), .val (.int v8_3), .val (.int lc), .val (.int (x1 &&& (255 : Int32))), .val (.int (((x1.toUInt32 >>> ((8 : Int32) &&& 31).toUInt32).toInt32) &&& (255 : Int32))), .val (.int (x2 &&& (255 : Int32))), .unset, .unset, .unset, .unset, .unset, .unset]) rfl kk_) ?_
      show Goes p e below _ (s₁.setTop (mkF m 98 #[.val (.int x0), .val (.int x1), .val (.int x2), .val (.int x3), .val (.int x4), .val (.int x5), .val (.int v6_1), .val (.int (if (x3 &&& (1 : Int32)) = (0 : Int32) then (0 : Int32) else (1 : Int32))), .val (.int v8_3), .val (.int lc), .val (.int (x1 &&& (255 : Int32))), .val (.int (((x1.toUInt32 >>> ((8 : Int32) &&& 31).toUInt32).toInt32) &&& (255 : Int32))), .val (.int (x2 &&& (255 : Int32))), .unset, .unset, .unset, .unset, .unset, .unset] []))
      exact J
    · skip
      rw [show jj5 = (x1 &&& (255 : Int32)) from hv_jj5.trans (if_neg hc80)] at J
      refine Goes.via (fun _ kk_ => XS.ifNo X0.here hx rfl (hb hby at_80) rfl ((if0 _ _).trans (feq hc80).1) kk_) ?_
      show Goes p e below _ (s₁.setTop (mkF m 83 #[.val (.int x0), .val (.int x1), .val (.int x2), .val (.int x3), .val (.int x4), .val (.int x5), .val (.int v6_1), .val (.int (if (x3 &&& (1 : Int32)) = (0 : Int32) then (0 : Int32) else (1 : Int32))), .val (.int v8_3), .val (.int lc), .val (.int (x1 &&& (255 : Int32))), .val (.int (((x1.toUInt32 >>> ((8 : Int32) &&& 31).toUInt32).toInt32) &&& (255 : Int32))), .unset, .unset, .unset, .unset, .unset, .unset, .unset] []))
      refine Goes.via (fun _ kk_ => XS.iload X0.here hx rfl (hb hby at_83) rfl  kk_) ?_
      show Goes p e below _ (s₁.setTop (mkF m 85 #[.val (.int x0), .val (.int x1), .val (.int x2), .val (.int x3), .val (.int x4), .val (.int x5), .val (.int v6_1), .val (.int (if (x3 &&& (1 : Int32)) = (0 : Int32) then (0 : Int32) else (1 : Int32))), .val (.int v8_3), .val (.int lc), .val (.int (x1 &&& (255 : Int32))), .val (.int (((x1.toUInt32 >>> ((8 : Int32) &&& 31).toUInt32).toInt32) &&& (255 : Int32))), .unset, .unset, .unset, .unset, .unset, .unset, .unset] [(.int (x1 &&& (255 : Int32)))]))
      refine Goes.via (fun _ kk_ => XS.istore X0.here hx rfl (hb hby at_85) rfl (l' := #[.val (.int x0), .val (.int x1), .val (.int x2), .val (.int x3), .val (.int x4), .val (.int x5), .val (.int v6_1), .val (.int (if (x3 &&& (1 : Int32)) = (0 : Int32) then (0 : Int32) else (1 : Int32))), .val (.int v8_3), .val (.int lc), .val (.int (x1 &&& (255 : Int32))), .val (.int (((x1.toUInt32 >>> ((8 : Int32) &&& 31).toUInt32).toInt32) &&& (255 : Int32))), .val (.int (x1 &&& (255 : Int32))), .unset, .unset, .unset, .unset, .unset, .unset]) rfl kk_) ?_
      show Goes p e below _ (s₁.setTop (mkF m 87 #[.val (.int x0), .val (.int x1), .val (.int x2), .val (.int x3), .val (.int x4), .val (.int x5), .val (.int v6_1), .val (.int (if (x3 &&& (1 : Int32)) = (0 : Int32) then (0 : Int32) else (1 : Int32))), .val (.int v8_3), .val (.int lc), .val (.int (x1 &&& (255 : Int32))), .val (.int (((x1.toUInt32 >>> ((8 : Int32) &&& 31).toUInt32).toInt32) &&& (255 : Int32))), .val (.int (x1 &&& (255 : Int32))), .unset, .unset, .unset, .unset, .unset, .unset] []))
      refine Goes.via (fun _ kk_ => XS.goto X0.here hx rfl (pc0 := 87) (pc' := 98) rfl (hb hby at_87) (by decide) (by decide) kk_) ?_
      show Goes p e below _ (s₁.setTop (mkF m 98 #[.val (.int x0), .val (.int x1), .val (.int x2), .val (.int x3), .val (.int x4), .val (.int x5), .val (.int v6_1), .val (.int (if (x3 &&& (1 : Int32)) = (0 : Int32) then (0 : Int32) else (1 : Int32))), .val (.int v8_3), .val (.int lc), .val (.int (x1 &&& (255 : Int32))), .val (.int (((x1.toUInt32 >>> ((8 : Int32) &&& 31).toUInt32).toInt32) &&& (255 : Int32))), .val (.int (x1 &&& (255 : Int32))), .unset, .unset, .unset, .unset, .unset, .unset] []))
      exact J
  subst hv_jj5
  show Goes p e below _ (s₁.setTop (mkF m 98 #[.val (.int x0), .val (.int x1), .val (.int x2), .val (.int x3), .val (.int x4), .val (.int x5), .val (.int v6_1), .val (.int (if (x3 &&& (1 : Int32)) = (0 : Int32) then (0 : Int32) else (1 : Int32))), .val (.int v8_3), .val (.int lc), .val (.int (x1 &&& (255 : Int32))), .val (.int (((x1.toUInt32 >>> ((8 : Int32) &&& 31).toUInt32).toInt32) &&& (255 : Int32))), .val (.int (if (((x3.toUInt32 >>> ((6 : Int32) &&& 31).toUInt32).toInt32) &&& (1 : Int32)) = (0 : Int32) then (x2 &&& (255 : Int32)) else (x1 &&& (255 : Int32)))), .unset, .unset, .unset, .unset, .unset, .unset] []))
  refine Goes.via (fun _ kk_ => XS.iloadN X0.here hx rfl (hb hby at_98) rfl  kk_) ?_
  show Goes p e below _ (s₁.setTop (mkF m 99 #[.val (.int x0), .val (.int x1), .val (.int x2), .val (.int x3), .val (.int x4), .val (.int x5), .val (.int v6_1), .val (.int (if (x3 &&& (1 : Int32)) = (0 : Int32) then (0 : Int32) else (1 : Int32))), .val (.int v8_3), .val (.int lc), .val (.int (x1 &&& (255 : Int32))), .val (.int (((x1.toUInt32 >>> ((8 : Int32) &&& 31).toUInt32).toInt32) &&& (255 : Int32))), .val (.int (if (((x3.toUInt32 >>> ((6 : Int32) &&& 31).toUInt32).toInt32) &&& (1 : Int32)) = (0 : Int32) then (x2 &&& (255 : Int32)) else (x1 &&& (255 : Int32)))), .unset, .unset, .unset, .unset, .unset, .unset] [(.int x3)]))
  refine Goes.via (fun _ kk_ => XS.bipush X0.here hx rfl (hb hby at_99) kk_) ?_
  show Goes p e below _ (s₁.setTop (mkF m 101 #[.val (.int x0), .val (.int x1), .val (.int x2), .val (.int x3), .val (.int x4), .val (.int x5), .val (.int v6_1), .val (.int (if (x3 &&& (1 : Int32)) = (0 : Int32) then (0 : Int32) else (1 : Int32))), .val (.int v8_3), .val (.int lc), .val (.int (x1 &&& (255 : Int32))), .val (.int (((x1.toUInt32 >>> ((8 : Int32) &&& 31).toUInt32).toInt32) &&& (255 : Int32))), .val (.int (if (((x3.toUInt32 >>> ((6 : Int32) &&& 31).toUInt32).toInt32) &&& (1 : Int32)) = (0 : Int32) then (x2 &&& (255 : Int32)) else (x1 &&& (255 : Int32)))), .unset, .unset, .unset, .unset, .unset, .unset] [(.int (7 : Int32)), (.int x3)]))
  refine Goes.via (fun _ kk_ => XS.iushr X0.here hx rfl (hb hby at_101) rfl kk_) ?_
  show Goes p e below _ (s₁.setTop (mkF m 102 #[.val (.int x0), .val (.int x1), .val (.int x2), .val (.int x3), .val (.int x4), .val (.int x5), .val (.int v6_1), .val (.int (if (x3 &&& (1 : Int32)) = (0 : Int32) then (0 : Int32) else (1 : Int32))), .val (.int v8_3), .val (.int lc), .val (.int (x1 &&& (255 : Int32))), .val (.int (((x1.toUInt32 >>> ((8 : Int32) &&& 31).toUInt32).toInt32) &&& (255 : Int32))), .val (.int (if (((x3.toUInt32 >>> ((6 : Int32) &&& 31).toUInt32).toInt32) &&& (1 : Int32)) = (0 : Int32) then (x2 &&& (255 : Int32)) else (x1 &&& (255 : Int32)))), .unset, .unset, .unset, .unset, .unset, .unset] [(.int ((x3.toUInt32 >>> ((7 : Int32) &&& 31).toUInt32).toInt32))]))
  refine Goes.via (fun _ kk_ => XS.iconst X0.here hx rfl (hb hby at_102) kk_) ?_
  show Goes p e below _ (s₁.setTop (mkF m 103 #[.val (.int x0), .val (.int x1), .val (.int x2), .val (.int x3), .val (.int x4), .val (.int x5), .val (.int v6_1), .val (.int (if (x3 &&& (1 : Int32)) = (0 : Int32) then (0 : Int32) else (1 : Int32))), .val (.int v8_3), .val (.int lc), .val (.int (x1 &&& (255 : Int32))), .val (.int (((x1.toUInt32 >>> ((8 : Int32) &&& 31).toUInt32).toInt32) &&& (255 : Int32))), .val (.int (if (((x3.toUInt32 >>> ((6 : Int32) &&& 31).toUInt32).toInt32) &&& (1 : Int32)) = (0 : Int32) then (x2 &&& (255 : Int32)) else (x1 &&& (255 : Int32)))), .unset, .unset, .unset, .unset, .unset, .unset] [(.int (1 : Int32)), (.int ((x3.toUInt32 >>> ((7 : Int32) &&& 31).toUInt32).toInt32))]))
  refine Goes.via (fun _ kk_ => XS.iand X0.here hx rfl (hb hby at_103) rfl kk_) ?_
  show Goes p e below _ (s₁.setTop (mkF m 104 #[.val (.int x0), .val (.int x1), .val (.int x2), .val (.int x3), .val (.int x4), .val (.int x5), .val (.int v6_1), .val (.int (if (x3 &&& (1 : Int32)) = (0 : Int32) then (0 : Int32) else (1 : Int32))), .val (.int v8_3), .val (.int lc), .val (.int (x1 &&& (255 : Int32))), .val (.int (((x1.toUInt32 >>> ((8 : Int32) &&& 31).toUInt32).toInt32) &&& (255 : Int32))), .val (.int (if (((x3.toUInt32 >>> ((6 : Int32) &&& 31).toUInt32).toInt32) &&& (1 : Int32)) = (0 : Int32) then (x2 &&& (255 : Int32)) else (x1 &&& (255 : Int32)))), .unset, .unset, .unset, .unset, .unset, .unset] [(.int (((x3.toUInt32 >>> ((7 : Int32) &&& 31).toUInt32).toInt32) &&& (1 : Int32)))]))
  obtain ⟨jj6, hv_jj6⟩ : ∃ z : Int32, z = (if (((x3.toUInt32 >>> ((7 : Int32) &&& 31).toUInt32).toInt32) &&& (1 : Int32)) = (0 : Int32) then (((x2.toUInt32 >>> ((8 : Int32) &&& 31).toUInt32).toInt32) &&& (255 : Int32)) else (((x1.toUInt32 >>> ((8 : Int32) &&& 31).toUInt32).toInt32) &&& (255 : Int32))) := ⟨_, rfl⟩
  suffices J : Goes p e below (Fin_W s (Qrm0 Z x0 x1 x2 x3 x4 x5 cS A0 A1 A2 A3 A4 A5 A6 h0 n0) (fun U_ => KS Z own_KL U_.vm U_.heap) room_1.cells room_1.slots) (s₁.setTop (mkF m 125 #[.val (.int x0), .val (.int x1), .val (.int x2), .val (.int x3), .val (.int x4), .val (.int x5), .val (.int v6_1), .val (.int (if (x3 &&& (1 : Int32)) = (0 : Int32) then (0 : Int32) else (1 : Int32))), .val (.int v8_3), .val (.int lc), .val (.int (x1 &&& (255 : Int32))), .val (.int (((x1.toUInt32 >>> ((8 : Int32) &&& 31).toUInt32).toInt32) &&& (255 : Int32))), .val (.int (if (((x3.toUInt32 >>> ((6 : Int32) &&& 31).toUInt32).toInt32) &&& (1 : Int32)) = (0 : Int32) then (x2 &&& (255 : Int32)) else (x1 &&& (255 : Int32)))), .val (.int jj6), .unset, .unset, .unset, .unset, .unset] [])) by
    by_cases hc104 : (((x3.toUInt32 >>> ((7 : Int32) &&& 31).toUInt32).toInt32) &&& (1 : Int32)) = (0 : Int32)
    · skip
      rw [show jj6 = (((x2.toUInt32 >>> ((8 : Int32) &&& 31).toUInt32).toInt32) &&& (255 : Int32)) from hv_jj6.trans (if_pos hc104)] at J
      refine Goes.via (fun _ kk_ => XS.ifYes X0.here hx rfl (pc0 := 104) (pc' := 114) rfl (hb hby at_104) rfl ((if0 _ _).trans (teq hc104).1) (by decide) (by decide) kk_) ?_
      show Goes p e below _ (s₁.setTop (mkF m 114 #[.val (.int x0), .val (.int x1), .val (.int x2), .val (.int x3), .val (.int x4), .val (.int x5), .val (.int v6_1), .val (.int (if (x3 &&& (1 : Int32)) = (0 : Int32) then (0 : Int32) else (1 : Int32))), .val (.int v8_3), .val (.int lc), .val (.int (x1 &&& (255 : Int32))), .val (.int (((x1.toUInt32 >>> ((8 : Int32) &&& 31).toUInt32).toInt32) &&& (255 : Int32))), .val (.int (if (((x3.toUInt32 >>> ((6 : Int32) &&& 31).toUInt32).toInt32) &&& (1 : Int32)) = (0 : Int32) then (x2 &&& (255 : Int32)) else (x1 &&& (255 : Int32)))), .unset, .unset, .unset, .unset, .unset, .unset] []))
      refine Goes.via (fun _ kk_ => XS.iloadN X0.here hx rfl (hb hby at_114) rfl  kk_) ?_
      show Goes p e below _ (s₁.setTop (mkF m 115 #[.val (.int x0), .val (.int x1), .val (.int x2), .val (.int x3), .val (.int x4), .val (.int x5), .val (.int v6_1), .val (.int (if (x3 &&& (1 : Int32)) = (0 : Int32) then (0 : Int32) else (1 : Int32))), .val (.int v8_3), .val (.int lc), .val (.int (x1 &&& (255 : Int32))), .val (.int (((x1.toUInt32 >>> ((8 : Int32) &&& 31).toUInt32).toInt32) &&& (255 : Int32))), .val (.int (if (((x3.toUInt32 >>> ((6 : Int32) &&& 31).toUInt32).toInt32) &&& (1 : Int32)) = (0 : Int32) then (x2 &&& (255 : Int32)) else (x1 &&& (255 : Int32)))), .unset, .unset, .unset, .unset, .unset, .unset] [(.int x2)]))
      refine Goes.via (fun _ kk_ => XS.bipush X0.here hx rfl (hb hby at_115) kk_) ?_
      show Goes p e below _ (s₁.setTop (mkF m 117 #[.val (.int x0), .val (.int x1), .val (.int x2), .val (.int x3), .val (.int x4), .val (.int x5), .val (.int v6_1), .val (.int (if (x3 &&& (1 : Int32)) = (0 : Int32) then (0 : Int32) else (1 : Int32))), .val (.int v8_3), .val (.int lc), .val (.int (x1 &&& (255 : Int32))), .val (.int (((x1.toUInt32 >>> ((8 : Int32) &&& 31).toUInt32).toInt32) &&& (255 : Int32))), .val (.int (if (((x3.toUInt32 >>> ((6 : Int32) &&& 31).toUInt32).toInt32) &&& (1 : Int32)) = (0 : Int32) then (x2 &&& (255 : Int32)) else (x1 &&& (255 : Int32)))), .unset, .unset, .unset, .unset, .unset, .unset] [(.int (8 : Int32)), (.int x2)]))
      refine Goes.via (fun _ kk_ => XS.iushr X0.here hx rfl (hb hby at_117) rfl kk_) ?_
      show Goes p e below _ (s₁.setTop (mkF m 118 #[.val (.int x0), .val (.int x1), .val (.int x2), .val (.int x3), .val (.int x4), .val (.int x5), .val (.int v6_1), .val (.int (if (x3 &&& (1 : Int32)) = (0 : Int32) then (0 : Int32) else (1 : Int32))), .val (.int v8_3), .val (.int lc), .val (.int (x1 &&& (255 : Int32))), .val (.int (((x1.toUInt32 >>> ((8 : Int32) &&& 31).toUInt32).toInt32) &&& (255 : Int32))), .val (.int (if (((x3.toUInt32 >>> ((6 : Int32) &&& 31).toUInt32).toInt32) &&& (1 : Int32)) = (0 : Int32) then (x2 &&& (255 : Int32)) else (x1 &&& (255 : Int32)))), .unset, .unset, .unset, .unset, .unset, .unset] [(.int ((x2.toUInt32 >>> ((8 : Int32) &&& 31).toUInt32).toInt32))]))
      refine Goes.via (fun _ kk_ => XS.sipush X0.here hx rfl (hb hby at_118) kk_) ?_
      show Goes p e below _ (s₁.setTop (mkF m 121 #[.val (.int x0), .val (.int x1), .val (.int x2), .val (.int x3), .val (.int x4), .val (.int x5), .val (.int v6_1), .val (.int (if (x3 &&& (1 : Int32)) = (0 : Int32) then (0 : Int32) else (1 : Int32))), .val (.int v8_3), .val (.int lc), .val (.int (x1 &&& (255 : Int32))), .val (.int (((x1.toUInt32 >>> ((8 : Int32) &&& 31).toUInt32).toInt32) &&& (255 : Int32))), .val (.int (if (((x3.toUInt32 >>> ((6 : Int32) &&& 31).toUInt32).toInt32) &&& (1 : Int32)) = (0 : Int32) then (x2 &&& (255 : Int32)) else (x1 &&& (255 : Int32)))), .unset, .unset, .unset, .unset, .unset, .unset] [(.int (255 : Int32)), (.int ((x2.toUInt32 >>> ((8 : Int32) &&& 31).toUInt32).toInt32))]))
      refine Goes.via (fun _ kk_ => XS.iand X0.here hx rfl (hb hby at_121) rfl kk_) ?_
      show Goes p e below _ (s₁.setTop (mkF m 122 #[.val (.int x0), .val (.int x1), .val (.int x2), .val (.int x3), .val (.int x4), .val (.int x5), .val (.int v6_1), .val (.int (if (x3 &&& (1 : Int32)) = (0 : Int32) then (0 : Int32) else (1 : Int32))), .val (.int v8_3), .val (.int lc), .val (.int (x1 &&& (255 : Int32))), .val (.int (((x1.toUInt32 >>> ((8 : Int32) &&& 31).toUInt32).toInt32) &&& (255 : Int32))), .val (.int (if (((x3.toUInt32 >>> ((6 : Int32) &&& 31).toUInt32).toInt32) &&& (1 : Int32)) = (0 : Int32) then (x2 &&& (255 : Int32)) else (x1 &&& (255 : Int32)))), .unset, .unset, .unset, .unset, .unset, .unset] [(.int (((x2.toUInt32 >>> ((8 : Int32) &&& 31).toUInt32).toInt32) &&& (255 : Int32)))]))
      refine Goes.via (fun _ kk_ => XS.i2c X0.here hx rfl (hb hby at_122) rfl kk_) ?_
      show Goes p e below _ (s₁.setTop (mkF m 123 #[.val (.int x0), .val (.int x1), .val (.int x2), .val (.int x3), .val (.int x4), .val (.int x5), .val (.int v6_1), .val (.int (if (x3 &&& (1 : Int32)) = (0 : Int32) then (0 : Int32) else (1 : Int32))), .val (.int v8_3), .val (.int lc), .val (.int (x1 &&& (255 : Int32))), .val (.int (((x1.toUInt32 >>> ((8 : Int32) &&& 31).toUInt32).toInt32) &&& (255 : Int32))), .val (.int (if (((x3.toUInt32 >>> ((6 : Int32) &&& 31).toUInt32).toInt32) &&& (1 : Int32)) = (0 : Int32) then (x2 &&& (255 : Int32)) else (x1 &&& (255 : Int32)))), .unset, .unset, .unset, .unset, .unset, .unset] [(.int ((((x2.toUInt32 >>> ((8 : Int32) &&& 31).toUInt32).toInt32) &&& (255 : Int32)).toUInt32.toUInt16.toUInt32.toInt32))]))
      rw [show ((((x2.toUInt32 >>> ((8 : Int32) &&& 31).toUInt32).toInt32) &&& (255 : Int32)).toUInt32.toUInt16.toUInt32.toInt32) = (((x2.toUInt32 >>> ((8 : Int32) &&& 31).toUInt32).toInt32) &&& (255 : Int32)) from i2c_mask _]
      show Goes p e below _ (s₁.setTop (mkF m 123 #[.val (.int x0), .val (.int x1), .val (.int x2), .val (.int x3), .val (.int x4), .val (.int x5), .val (.int v6_1), .val (.int (if (x3 &&& (1 : Int32)) = (0 : Int32) then (0 : Int32) else (1 : Int32))), .val (.int v8_3), .val (.int lc), .val (.int (x1 &&& (255 : Int32))), .val (.int (((x1.toUInt32 >>> ((8 : Int32) &&& 31).toUInt32).toInt32) &&& (255 : Int32))), .val (.int (if (((x3.toUInt32 >>> ((6 : Int32) &&& 31).toUInt32).toInt32) &&& (1 : Int32)) = (0 : Int32) then (x2 &&& (255 : Int32)) else (x1 &&& (255 : Int32)))), .unset, .unset, .unset, .unset, .unset, .unset] [(.int (((x2.toUInt32 >>> ((8 : Int32) &&& 31).toUInt32).toInt32) &&& (255 : Int32)))]))
      refine Goes.via (fun _ kk_ => XS.istore X0.here hx rfl (hb hby at_123) rfl (l' := #[.val (.int x0), .val (.int x1), .val (.int x2), .val (.int x3), .val (.int x4), .val (.int x5), .val (.int v6_1), .val (.int (if (x3 &&& (1 : Int32)) = (0 : Int32) then (0 : Int32) else (1 : Int32))), .val (.int v8_3), .val (.int lc), .val (.int (x1 &&& (255 : Int32))), .val (.int (((x1.toUInt32 >>> ((8 : Int32) &&& 31).toUInt32).toInt32) &&& (255 : Int32))), .val (.int (if (((x3.toUInt32 >>> ((6 : Int32) &&& 31).toUInt32).toInt32) &&& (1 : Int32)) = (0 : Int32) then (x2 &&& (255 : Int32)) else (x1 &&& (255 : Int32)))), .val (.int (((x2.toUInt32 >>> ((8 : Int32) &&& 31).toUInt32).toInt32) &&& (255 : Int32))), .unset, .unset, .unset, .unset, .unset]) rfl kk_) ?_
      show Goes p e below _ (s₁.setTop (mkF m 125 #[.val (.int x0), .val (.int x1), .val (.int x2), .val (.int x3), .val (.int x4), .val (.int x5), .val (.int v6_1), .val (.int (if (x3 &&& (1 : Int32)) = (0 : Int32) then (0 : Int32) else (1 : Int32))), .val (.int v8_3), .val (.int lc), .val (.int (x1 &&& (255 : Int32))), .val (.int (((x1.toUInt32 >>> ((8 : Int32) &&& 31).toUInt32).toInt32) &&& (255 : Int32))), .val (.int (if (((x3.toUInt32 >>> ((6 : Int32) &&& 31).toUInt32).toInt32) &&& (1 : Int32)) = (0 : Int32) then (x2 &&& (255 : Int32)) else (x1 &&& (255 : Int32)))), .val (.int (((x2.toUInt32 >>> ((8 : Int32) &&& 31).toUInt32).toInt32) &&& (255 : Int32))), .unset, .unset, .unset, .unset, .unset] []))
      exact J
    · skip
      rw [show jj6 = (((x1.toUInt32 >>> ((8 : Int32) &&& 31).toUInt32).toInt32) &&& (255 : Int32)) from hv_jj6.trans (if_neg hc104)] at J
      refine Goes.via (fun _ kk_ => XS.ifNo X0.here hx rfl (hb hby at_104) rfl ((if0 _ _).trans (feq hc104).1) kk_) ?_
      show Goes p e below _ (s₁.setTop (mkF m 107 #[.val (.int x0), .val (.int x1), .val (.int x2), .val (.int x3), .val (.int x4), .val (.int x5), .val (.int v6_1), .val (.int (if (x3 &&& (1 : Int32)) = (0 : Int32) then (0 : Int32) else (1 : Int32))), .val (.int v8_3), .val (.int lc), .val (.int (x1 &&& (255 : Int32))), .val (.int (((x1.toUInt32 >>> ((8 : Int32) &&& 31).toUInt32).toInt32) &&& (255 : Int32))), .val (.int (if (((x3.toUInt32 >>> ((6 : Int32) &&& 31).toUInt32).toInt32) &&& (1 : Int32)) = (0 : Int32) then (x2 &&& (255 : Int32)) else (x1 &&& (255 : Int32)))), .unset, .unset, .unset, .unset, .unset, .unset] []))
      refine Goes.via (fun _ kk_ => XS.iload X0.here hx rfl (hb hby at_107) rfl  kk_) ?_
      show Goes p e below _ (s₁.setTop (mkF m 109 #[.val (.int x0), .val (.int x1), .val (.int x2), .val (.int x3), .val (.int x4), .val (.int x5), .val (.int v6_1), .val (.int (if (x3 &&& (1 : Int32)) = (0 : Int32) then (0 : Int32) else (1 : Int32))), .val (.int v8_3), .val (.int lc), .val (.int (x1 &&& (255 : Int32))), .val (.int (((x1.toUInt32 >>> ((8 : Int32) &&& 31).toUInt32).toInt32) &&& (255 : Int32))), .val (.int (if (((x3.toUInt32 >>> ((6 : Int32) &&& 31).toUInt32).toInt32) &&& (1 : Int32)) = (0 : Int32) then (x2 &&& (255 : Int32)) else (x1 &&& (255 : Int32)))), .unset, .unset, .unset, .unset, .unset, .unset] [(.int (((x1.toUInt32 >>> ((8 : Int32) &&& 31).toUInt32).toInt32) &&& (255 : Int32)))]))
      refine Goes.via (fun _ kk_ => XS.istore X0.here hx rfl (hb hby at_109) rfl (l' := #[.val (.int x0), .val (.int x1), .val (.int x2), .val (.int x3), .val (.int x4), .val (.int x5), .val (.int v6_1), .val (.int (if (x3 &&& (1 : Int32)) = (0 : Int32) then (0 : Int32) else (1 : Int32))), .val (.int v8_3), .val (.int lc), .val (.int (x1 &&& (255 : Int32))), .val (.int (((x1.toUInt32 >>> ((8 : Int32) &&& 31).toUInt32).toInt32) &&& (255 : Int32))), .val (.int (if (((x3.toUInt32 >>> ((6 : Int32) &&& 31).toUInt32).toInt32) &&& (1 : Int32)) = (0 : Int32) then (x2 &&& (255 : Int32)) else (x1 &&& (255 : Int32)))), .val (.int (((x1.toUInt32 >>> ((8 : Int32) &&& 31).toUInt32).toInt32) &&& (255 : Int32))), .unset, .unset, .unset, .unset, .unset]) rfl kk_) ?_
      show Goes p e below _ (s₁.setTop (mkF m 111 #[.val (.int x0), .val (.int x1), .val (.int x2), .val (.int x3), .val (.int x4), .val (.int x5), .val (.int v6_1), .val (.int (if (x3 &&& (1 : Int32)) = (0 : Int32) then (0 : Int32) else (1 : Int32))), .val (.int v8_3), .val (.int lc), .val (.int (x1 &&& (255 : Int32))), .val (.int (((x1.toUInt32 >>> ((8 : Int32) &&& 31).toUInt32).toInt32) &&& (255 : Int32))), .val (.int (if (((x3.toUInt32 >>> ((6 : Int32) &&& 31).toUInt32).toInt32) &&& (1 : Int32)) = (0 : Int32) then (x2 &&& (255 : Int32)) else (x1 &&& (255 : Int32)))), .val (.int (((x1.toUInt32 >>> ((8 : Int32) &&& 31).toUInt32).toInt32) &&& (255 : Int32))), .unset, .unset, .unset, .unset, .unset] []))
      refine Goes.via (fun _ kk_ => XS.goto X0.here hx rfl (pc0 := 111) (pc' := 125) rfl (hb hby at_111) (by decide) (by decide) kk_) ?_
      show Goes p e below _ (s₁.setTop (mkF m 125 #[.val (.int x0), .val (.int x1), .val (.int x2), .val (.int x3), .val (.int x4), .val (.int x5), .val (.int v6_1), .val (.int (if (x3 &&& (1 : Int32)) = (0 : Int32) then (0 : Int32) else (1 : Int32))), .val (.int v8_3), .val (.int lc), .val (.int (x1 &&& (255 : Int32))), .val (.int (((x1.toUInt32 >>> ((8 : Int32) &&& 31).toUInt32).toInt32) &&& (255 : Int32))), .val (.int (if (((x3.toUInt32 >>> ((6 : Int32) &&& 31).toUInt32).toInt32) &&& (1 : Int32)) = (0 : Int32) then (x2 &&& (255 : Int32)) else (x1 &&& (255 : Int32)))), .val (.int (((x1.toUInt32 >>> ((8 : Int32) &&& 31).toUInt32).toInt32) &&& (255 : Int32))), .unset, .unset, .unset, .unset, .unset] []))
      exact J
  subst hv_jj6
  show Goes p e below _ (s₁.setTop (mkF m 125 #[.val (.int x0), .val (.int x1), .val (.int x2), .val (.int x3), .val (.int x4), .val (.int x5), .val (.int v6_1), .val (.int (if (x3 &&& (1 : Int32)) = (0 : Int32) then (0 : Int32) else (1 : Int32))), .val (.int v8_3), .val (.int lc), .val (.int (x1 &&& (255 : Int32))), .val (.int (((x1.toUInt32 >>> ((8 : Int32) &&& 31).toUInt32).toInt32) &&& (255 : Int32))), .val (.int (if (((x3.toUInt32 >>> ((6 : Int32) &&& 31).toUInt32).toInt32) &&& (1 : Int32)) = (0 : Int32) then (x2 &&& (255 : Int32)) else (x1 &&& (255 : Int32)))), .val (.int (if (((x3.toUInt32 >>> ((7 : Int32) &&& 31).toUInt32).toInt32) &&& (1 : Int32)) = (0 : Int32) then (((x2.toUInt32 >>> ((8 : Int32) &&& 31).toUInt32).toInt32) &&& (255 : Int32)) else (((x1.toUInt32 >>> ((8 : Int32) &&& 31).toUInt32).toInt32) &&& (255 : Int32)))), .unset, .unset, .unset, .unset, .unset] []))
  have ha := own_mm x1
  have hbb : (((x1.toUInt32 >>> ((8 : Int32) &&& 31).toUInt32).toInt32) &&& (255 : Int32)) &&& (255 : Int32) = (((x1.toUInt32 >>> ((8 : Int32) &&& 31).toUInt32).toInt32) &&& (255 : Int32)) := own_mm _
  have hc : (if (((x3.toUInt32 >>> ((6 : Int32) &&& 31).toUInt32).toInt32) &&& (1 : Int32)) = (0 : Int32) then (x2 &&& (255 : Int32)) else (x1 &&& (255 : Int32))) &&& (255 : Int32) = (if (((x3.toUInt32 >>> ((6 : Int32) &&& 31).toUInt32).toInt32) &&& (1 : Int32)) = (0 : Int32) then (x2 &&& (255 : Int32)) else (x1 &&& (255 : Int32))) := by split <;> exact own_mm _
  have hd : (if (((x3.toUInt32 >>> ((7 : Int32) &&& 31).toUInt32).toInt32) &&& (1 : Int32)) = (0 : Int32) then (((x2.toUInt32 >>> ((8 : Int32) &&& 31).toUInt32).toInt32) &&& (255 : Int32)) else (((x1.toUInt32 >>> ((8 : Int32) &&& 31).toUInt32).toInt32) &&& (255 : Int32))) &&& (255 : Int32) = (if (((x3.toUInt32 >>> ((7 : Int32) &&& 31).toUInt32).toInt32) &&& (1 : Int32)) = (0 : Int32) then (((x2.toUInt32 >>> ((8 : Int32) &&& 31).toUInt32).toInt32) &&& (255 : Int32)) else (((x1.toUInt32 >>> ((8 : Int32) &&& 31).toUInt32).toInt32) &&& (255 : Int32))) := by split <;> exact own_mm _
  generalize hg_ta : (x1 &&& (255 : Int32)) = ta at *
  generalize hg_tb_ : (((x1.toUInt32 >>> ((8 : Int32) &&& 31).toUInt32).toInt32) &&& (255 : Int32)) = tb_ at *
  generalize hg_tc : (if (((x3.toUInt32 >>> ((6 : Int32) &&& 31).toUInt32).toInt32) &&& (1 : Int32)) = (0 : Int32) then (x2 &&& (255 : Int32)) else ta) = tc at *
  generalize hg_td : (if (((x3.toUInt32 >>> ((7 : Int32) &&& 31).toUInt32).toInt32) &&& (1 : Int32)) = (0 : Int32) then (((x2.toUInt32 >>> ((8 : Int32) &&& 31).toUInt32).toInt32) &&& (255 : Int32)) else tb_) = td at *
  show Goes p e below _ (s₁.setTop (mkF m 125 #[.val (.int x0), .val (.int x1), .val (.int x2), .val (.int x3), .val (.int x4), .val (.int x5), .val (.int v6_1), .val (.int (if (x3 &&& (1 : Int32)) = (0 : Int32) then (0 : Int32) else (1 : Int32))), .val (.int v8_3), .val (.int lc), .val (.int ta), .val (.int tb_), .val (.int tc), .val (.int td), .unset, .unset, .unset, .unset, .unset] []))
  refine Goes.via (fun _ kk_ => XS.iload X0.here hx rfl (hb hby at_125) rfl  kk_) ?_
  show Goes p e below _ (s₁.setTop (mkF m 127 #[.val (.int x0), .val (.int x1), .val (.int x2), .val (.int x3), .val (.int x4), .val (.int x5), .val (.int v6_1), .val (.int (if (x3 &&& (1 : Int32)) = (0 : Int32) then (0 : Int32) else (1 : Int32))), .val (.int v8_3), .val (.int lc), .val (.int ta), .val (.int tb_), .val (.int tc), .val (.int td), .unset, .unset, .unset, .unset, .unset] [(.int v8_3)]))
  refine Goes.via (fun _ kk_ => XS.iload X0.here hx rfl (hb hby at_127) rfl  kk_) ?_
  show Goes p e below _ (s₁.setTop (mkF m 129 #[.val (.int x0), .val (.int x1), .val (.int x2), .val (.int x3), .val (.int x4), .val (.int x5), .val (.int v6_1), .val (.int (if (x3 &&& (1 : Int32)) = (0 : Int32) then (0 : Int32) else (1 : Int32))), .val (.int v8_3), .val (.int lc), .val (.int ta), .val (.int tb_), .val (.int tc), .val (.int td), .unset, .unset, .unset, .unset, .unset] [(.int ta), (.int v8_3)]))
  refine Goes.via (fun _ kk_ => XS.iload X0.here hx rfl (hb hby at_129) rfl  kk_) ?_
  show Goes p e below _ (s₁.setTop (mkF m 131 #[.val (.int x0), .val (.int x1), .val (.int x2), .val (.int x3), .val (.int x4), .val (.int x5), .val (.int v6_1), .val (.int (if (x3 &&& (1 : Int32)) = (0 : Int32) then (0 : Int32) else (1 : Int32))), .val (.int v8_3), .val (.int lc), .val (.int ta), .val (.int tb_), .val (.int tc), .val (.int td), .unset, .unset, .unset, .unset, .unset] [(.int tb_), (.int ta), (.int v8_3)]))
  obtain ⟨_, _, ⟨T7, L7, k7, n7⟩, -, ⟨X7, Si7⟩, ⟨Lc7, ⟨hQ7, tK7, hK7, hKv7, hKh7⟩, l7, y7, z7⟩, st7⟩ := own_callSW X0 hx (y := (⟨"com/example/map_rewriter/maprewriter/core/AtomIsSymbolPinLaw", "make", "(ICC)Ljava/lang/String;"⟩ : MethodName)) hown (mvT hZ (hw _ (List.mem_of_getElem? (i := 1) rfl))) (mvT hZ (hw _ (List.mem_of_getElem? (i := 2) rfl))) (mvT hZ (hw _ (List.mem_of_getElem? (i := 3) rfl))) (mvT hZ (hw _ (List.mem_of_getElem? (i := 4) rfl))) (by decide) (own_backOfW (W := 0) (K := (fun U_ => KS Z own_KL U_.vm U_.heap)) (KP := (fun U_ => KS Z own_KL U_.vm U_.heap)) (rm1 l Z a0 hw [] v8_3 ta tb_ cS h0 n0 (Nat.le_trans Z0 (Nat.le_refl _)) ha hbb OS (by first | assumption | rfl | decide | omega | (simp; done)) HO (by first | assumption | rfl | decide | omega | (simp; done)) (by first | assumption | rfl | decide | omega | (simp; done))) hZ (hw _ (List.mem_of_getElem? (i := 4) rfl)) (hw _ (List.mem_of_getElem? (i := 3) rfl)) (by decide) (by decide) (fun V_ hV hVh => by show KS Z own_KL V_.vm V_.heap; rw [hVh]; exact Ks0.at_ (s := s) hV)) (g := (mkF m 131 #[.val (.int x0), .val (.int x1), .val (.int x2), .val (.int x3), .val (.int x4), .val (.int x5), .val (.int v6_1), .val (.int (if (x3 &&& (1 : Int32)) = (0 : Int32) then (0 : Int32) else (1 : Int32))), .val (.int v8_3), .val (.int lc), .val (.int ta), .val (.int tb_), .val (.int tc), .val (.int td), .unset, .unset, .unset, .unset, .unset] [(.int tb_), (.int ta), (.int v8_3)])) rfl (by rw [hml]; rfl) (argsL := [(.int v8_3), (.int ta), (.int tb_)]) (rest := []) (lenOf pd_4 rfl) rfl (by show 2 * 0 + _ ≤ _; exact Nat.le_of_eq rfl) (hb hby at_131) (fun _ _ => ⟨rfl, e0, (by first | decide | omega | (dsimp only; omega) : 0 + 4 ≤ _), (by first | decide | omega | (dsimp only; omega) : 0 + 8 ≤ _)⟩)
  dsimp only [Pt.U, Pt.locs, Pt.cells, Pt.slots] at X7 l7 y7 z7 st7 hQ7 Si7 hKv7 hKh7
  subst l7 y7 z7
  obtain ⟨nb7, tb7, tk7, rfl, N7q, K7, u7_0, u7_1, u7_2, u7_3, u7_4⟩ := hQ7
  have N7 := Fr.app N0 N7q
  refine Goes.via st7 ?_
  obtain ⟨X7', SI7, hZ, hown⟩ := rebS SI0 (Nat.zero_le _) X7 Si7 K7.1 hZ hown
  have Ks7 : KS Z own_KL T7.vm T7.heap := by rw [← hKv7, ← hKh7]; exact hK7
  have sz_nb7 : h0.size ≤ nb7 := Nat.le_trans (Nat.le_refl _) u7_0
  have gn_nb7 : n0 ≤ nb7 := Nat.le_trans Z0 sz_nb7
  -- u7_0 : h0.size ≤ nb7
  have ne8 : nb7 ≠ tb7 := u7_1.neArv u7_4 (hw _ (List.mem_of_getElem? (i := 6) rfl))
  show Goes p e below _ (T7.setTop (mkF m 134 #[.val (.int x0), .val (.int x1), .val (.int x2), .val (.int x3), .val (.int x4), .val (.int x5), .val (.int v6_1), .val (.int (if (x3 &&& (1 : Int32)) = (0 : Int32) then (0 : Int32) else (1 : Int32))), .val (.int v8_3), .val (.int lc), .val (.int ta), .val (.int tb_), .val (.int tc), .val (.int td), .unset, .unset, .unset, .unset, .unset] [(.ref nb7)]))
  refine Goes.via (fun _ kk_ => XS.astore X7'.here hx rfl (hb hby at_134) rfl rfl (l' := #[.val (.int x0), .val (.int x1), .val (.int x2), .val (.int x3), .val (.int x4), .val (.int x5), .val (.int v6_1), .val (.int (if (x3 &&& (1 : Int32)) = (0 : Int32) then (0 : Int32) else (1 : Int32))), .val (.int v8_3), .val (.int lc), .val (.int ta), .val (.int tb_), .val (.int tc), .val (.int td), .val (.ref nb7), .unset, .unset, .unset, .unset]) rfl kk_) ?_
  show Goes p e below _ (T7.setTop (mkF m 136 #[.val (.int x0), .val (.int x1), .val (.int x2), .val (.int x3), .val (.int x4), .val (.int x5), .val (.int v6_1), .val (.int (if (x3 &&& (1 : Int32)) = (0 : Int32) then (0 : Int32) else (1 : Int32))), .val (.int v8_3), .val (.int lc), .val (.int ta), .val (.int tb_), .val (.int tc), .val (.int td), .val (.ref nb7), .unset, .unset, .unset, .unset] []))
  refine Goes.via (fun _ kk_ => XS.iload X7'.here hx rfl (hb hby at_136) rfl  kk_) ?_
  show Goes p e below _ (T7.setTop (mkF m 138 #[.val (.int x0), .val (.int x1), .val (.int x2), .val (.int x3), .val (.int x4), .val (.int x5), .val (.int v6_1), .val (.int (if (x3 &&& (1 : Int32)) = (0 : Int32) then (0 : Int32) else (1 : Int32))), .val (.int v8_3), .val (.int lc), .val (.int ta), .val (.int tb_), .val (.int tc), .val (.int td), .val (.ref nb7), .unset, .unset, .unset, .unset] [(.int lc)]))
  refine Goes.via (fun _ kk_ => XS.iload X7'.here hx rfl (hb hby at_138) rfl  kk_) ?_
  show Goes p e below _ (T7.setTop (mkF m 140 #[.val (.int x0), .val (.int x1), .val (.int x2), .val (.int x3), .val (.int x4), .val (.int x5), .val (.int v6_1), .val (.int (if (x3 &&& (1 : Int32)) = (0 : Int32) then (0 : Int32) else (1 : Int32))), .val (.int v8_3), .val (.int lc), .val (.int ta), .val (.int tb_), .val (.int tc), .val (.int td), .val (.ref nb7), .unset, .unset, .unset, .unset] [(.int tc), (.int lc)]))
  refine Goes.via (fun _ kk_ => XS.iload X7'.here hx rfl (hb hby at_140) rfl  kk_) ?_
  show Goes p e below _ (T7.setTop (mkF m 142 #[.val (.int x0), .val (.int x1), .val (.int x2), .val (.int x3), .val (.int x4), .val (.int x5), .val (.int v6_1), .val (.int (if (x3 &&& (1 : Int32)) = (0 : Int32) then (0 : Int32) else (1 : Int32))), .val (.int v8_3), .val (.int lc), .val (.int ta), .val (.int tb_), .val (.int tc), .val (.int td), .val (.ref nb7), .unset, .unset, .unset, .unset] [(.int td), (.int tc), (.int lc)]))
  have K9 : Keep h0 T7.heap [] := ((Keep.refl h0 []).trans K7 all0)
  have f10 : Sta Z T7.heap "java/lang/String" "COMPACT_STRINGS" "Z" (.int cS) := own_sta_keep OS K9
  have ol11 : Old Z n0 (T7.heap) := (HO.keep K7 all0)
  have z13 : h0.size ≤ (T7.heap).size := (Nat.le_trans (Nat.le_refl _) K7.1)
  obtain ⟨_, _, ⟨T12, L12, k12, n12⟩, -, ⟨X12, Si12⟩, ⟨Lc12, ⟨hQ12, tK12, hK12, hKv12, hKh12⟩, l12, y12, z12⟩, st12⟩ := own_callSW X7' hx (y := (⟨"com/example/map_rewriter/maprewriter/core/AtomIsSymbolPinLaw", "make", "(ICC)Ljava/lang/String;"⟩ : MethodName)) hown (mvT hZ (hw _ (List.mem_of_getElem? (i := 1) rfl))) (mvT hZ (hw _ (List.mem_of_getElem? (i := 2) rfl))) (mvT hZ (hw _ (List.mem_of_getElem? (i := 3) rfl))) (mvT hZ (hw _ (List.mem_of_getElem? (i := 4) rfl))) (by decide) (own_backOfW (W := 0) (K := (fun U_ => KS Z own_KL U_.vm U_.heap)) (KP := (fun U_ => KS Z own_KL U_.vm U_.heap)) (rm1 l Z a0 hw [] lc tc td cS T7.heap n0 (Nat.le_trans Z0 z13) hc hd f10 (by first | assumption | rfl | decide | omega | (simp; done)) ol11 (by first | assumption | rfl | decide | omega | (simp; done)) (by first | assumption | rfl | decide | omega | (simp; done))) hZ (hw _ (List.mem_of_getElem? (i := 4) rfl)) (hw _ (List.mem_of_getElem? (i := 3) rfl)) (by decide) (by decide) (fun V_ hV hVh => by show KS Z own_KL V_.vm V_.heap; rw [hVh]; exact Ks7.at_ (s := s) hV)) (g := (mkF m 142 #[.val (.int x0), .val (.int x1), .val (.int x2), .val (.int x3), .val (.int x4), .val (.int x5), .val (.int v6_1), .val (.int (if (x3 &&& (1 : Int32)) = (0 : Int32) then (0 : Int32) else (1 : Int32))), .val (.int v8_3), .val (.int lc), .val (.int ta), .val (.int tb_), .val (.int tc), .val (.int td), .val (.ref nb7), .unset, .unset, .unset, .unset] [(.int td), (.int tc), (.int lc)])) rfl (by rw [hml]; rfl) (argsL := [(.int lc), (.int tc), (.int td)]) (rest := []) (lenOf pd_4 rfl) rfl (by show 2 * 0 + _ ≤ _; exact Nat.le_of_eq rfl) (hb hby at_142) (fun _ _ => ⟨rfl, rfl, (by first | decide | omega | (dsimp only; omega) : 4 + 4 ≤ _), (by first | decide | omega | (dsimp only; omega) : 8 + 8 ≤ _)⟩)
  dsimp only [Pt.U, Pt.locs, Pt.cells, Pt.slots] at X12 l12 y12 z12 st12 hQ12 Si12 hKv12 hKh12
  subst l12 y12 z12
  obtain ⟨nb12, tb12, tk12, rfl, N12q, K12, u12_0, u12_1, u12_2, u12_3, u12_4⟩ := hQ12
  have N12 := Fr.app N7 N12q
  refine Goes.via st12 ?_
  obtain ⟨X12', SI12, hZ, hown⟩ := rebS SI7 (Nat.le_refl _) X12 Si12 K12.1 hZ hown
  have Ks12 : KS Z own_KL T12.vm T12.heap := by rw [← hKv12, ← hKh12]; exact hK12
  have ne14 : nb7 ≠ nb12 := Nat.ne_of_lt (Nat.lt_of_lt_of_le u7_1.lt u12_0)
  have ne15 : tb7 ≠ nb12 := Nat.ne_of_lt (Nat.lt_of_lt_of_le u7_4.lt u12_0)
  have sz_nb12 : h0.size ≤ nb12 := Nat.le_trans z13 u12_0
  have gn_nb12 : n0 ≤ nb12 := Nat.le_trans Z0 sz_nb12
  -- u12_0 : h0.size ≤ nb12
  have ne16 : nb12 ≠ tb12 := u12_1.neArv u12_4 (hw _ (List.mem_of_getElem? (i := 6) rfl))
  show Goes p e below _ (T12.setTop (mkF m 145 #[.val (.int x0), .val (.int x1), .val (.int x2), .val (.int x3), .val (.int x4), .val (.int x5), .val (.int v6_1), .val (.int (if (x3 &&& (1 : Int32)) = (0 : Int32) then (0 : Int32) else (1 : Int32))), .val (.int v8_3), .val (.int lc), .val (.int ta), .val (.int tb_), .val (.int tc), .val (.int td), .val (.ref nb7), .unset, .unset, .unset, .unset] [(.ref nb12)]))
  refine Goes.via (fun _ kk_ => XS.astore X12'.here hx rfl (hb hby at_145) rfl rfl (l' := #[.val (.int x0), .val (.int x1), .val (.int x2), .val (.int x3), .val (.int x4), .val (.int x5), .val (.int v6_1), .val (.int (if (x3 &&& (1 : Int32)) = (0 : Int32) then (0 : Int32) else (1 : Int32))), .val (.int v8_3), .val (.int lc), .val (.int ta), .val (.int tb_), .val (.int tc), .val (.int td), .val (.ref nb7), .val (.ref nb12), .unset, .unset, .unset]) rfl kk_) ?_
  show Goes p e below _ (T12.setTop (mkF m 147 #[.val (.int x0), .val (.int x1), .val (.int x2), .val (.int x3), .val (.int x4), .val (.int x5), .val (.int v6_1), .val (.int (if (x3 &&& (1 : Int32)) = (0 : Int32) then (0 : Int32) else (1 : Int32))), .val (.int v8_3), .val (.int lc), .val (.int ta), .val (.int tb_), .val (.int tc), .val (.int td), .val (.ref nb7), .val (.ref nb12), .unset, .unset, .unset] []))
  obtain ⟨T17, h17, X17, e17, E17, A17, D17, -, st17⟩ := newO X12' hx hZ hown (hw _ (List.mem_of_getElem? (i := 27) rfl)) (hw _ (List.mem_of_getElem? (i := 28) rfl)) (hw _ (List.mem_of_getElem? (i := 29) rfl)) rfl (g := (mkF m 147 #[.val (.int x0), .val (.int x1), .val (.int x2), .val (.int x3), .val (.int x4), .val (.int x5), .val (.int v6_1), .val (.int (if (x3 &&& (1 : Int32)) = (0 : Int32) then (0 : Int32) else (1 : Int32))), .val (.int v8_3), .val (.int lc), .val (.int ta), .val (.int tb_), .val (.int tc), .val (.int td), .val (.ref nb7), .val (.ref nb12), .unset, .unset, .unset] [])) rfl (hb hby at_147) (by first | decide | omega | (dsimp only; omega)) (by first | decide | omega | (dsimp only; omega))
  obtain ⟨b17, g17⟩ : ∃ z, z = (T12.heap).size := ⟨_, rfl⟩
  rw [← g17] at A17 D17 st17
  have f18 : Exa Z T12.heap nb7 "java/lang/String" := (u7_1.keep K12)
  have lne19 : nb7 < b17 := Nat.lt_of_lt_of_le f18.lt (Nat.le_of_eq g17.symm)
  have ne19 : nb7 ≠ b17 := Nat.ne_of_lt lne19
  have f20 : Arv Z T12.heap tb7 tk7 .byte (own_n v8_3 ta tb_) (own_v v8_3 ta tb_) (.int 0) := (u7_4.keep K12 nin0)
  have lne21 : tb7 < b17 := Nat.lt_of_lt_of_le f20.lt (Nat.le_of_eq g17.symm)
  have ne21 : tb7 ≠ b17 := Nat.ne_of_lt lne21
  have lne22 : nb12 < b17 := Nat.lt_of_lt_of_le u12_1.lt (Nat.le_of_eq g17.symm)
  have ne22 : nb12 ≠ b17 := Nat.ne_of_lt lne22
  have lne23 : tb12 < b17 := Nat.lt_of_lt_of_le u12_4.lt (Nat.le_of_eq g17.symm)
  have ne23 : tb12 ≠ b17 := Nat.ne_of_lt lne23
  have z24 : h0.size ≤ (T12.heap).size := (Nat.le_trans z13 K12.1)
  have sz_b17 : h0.size ≤ b17 := Nat.le_trans z24 (Nat.le_of_eq g17.symm)
  have gn_b17 : n0 ≤ b17 := Nat.le_trans Z0 sz_b17
  have F_line_b17 : Fld Z h17 b17 "com/example/map_rewriter/maprewriter/core/SExpression" "line" "I" (.int (0 : Int32)) := D17 (Or.inr (hw _ (List.mem_of_getElem? (i := 46) rfl))) (ty := .int) (by decide)
  have F_column_b17 : Fld Z h17 b17 "com/example/map_rewriter/maprewriter/core/SExpression" "column" "I" (.int (0 : Int32)) := D17 (Or.inr (hw _ (List.mem_of_getElem? (i := 48) rfl))) (ty := .int) (by decide)
  have F_kind_b17 : Fld Z h17 b17 "com/example/map_rewriter/maprewriter/core/SExpression$Atom" "kind" "Lcom/example/map_rewriter/maprewriter/core/SExpression$Kind;" .null := D17 (Or.inr (hw _ (List.mem_of_getElem? (i := 50) rfl))) (ty := (.object "com/example/map_rewriter/maprewriter/core/SExpression$Kind")) (by decide)
  have F_text_b17 : Fld Z h17 b17 "com/example/map_rewriter/maprewriter/core/SExpression$Atom" "text" "Ljava/lang/String;" .null := D17 (Or.inr (hw _ (List.mem_of_getElem? (i := 52) rfl))) (ty := (.object "java/lang/String")) (by decide)
  have F_quoted_b17 : Fld Z h17 b17 "com/example/map_rewriter/maprewriter/core/SExpression$Atom" "quoted" "Z" (.int (0 : Int32)) := D17 (Or.inr (hw _ (List.mem_of_getElem? (i := 54) rfl))) (ty := .boolean) (by decide)
  refine Goes.via st17 ?_
  show Goes p e below _ (T17.setTop (mkF m 150 #[.val (.int x0), .val (.int x1), .val (.int x2), .val (.int x3), .val (.int x4), .val (.int x5), .val (.int v6_1), .val (.int (if (x3 &&& (1 : Int32)) = (0 : Int32) then (0 : Int32) else (1 : Int32))), .val (.int v8_3), .val (.int lc), .val (.int ta), .val (.int tb_), .val (.int tc), .val (.int td), .val (.ref nb7), .val (.ref nb12), .unset, .unset, .unset] [(.ref b17)]))
  refine Goes.via (fun _ kk_ => XS.dup X17.here hx rfl (hb hby at_150) rfl rfl kk_) ?_
  show Goes p e below _ (T17.setTop (mkF m 151 #[.val (.int x0), .val (.int x1), .val (.int x2), .val (.int x3), .val (.int x4), .val (.int x5), .val (.int v6_1), .val (.int (if (x3 &&& (1 : Int32)) = (0 : Int32) then (0 : Int32) else (1 : Int32))), .val (.int v8_3), .val (.int lc), .val (.int ta), .val (.int tb_), .val (.int tc), .val (.int td), .val (.ref nb7), .val (.ref nb12), .unset, .unset, .unset] [(.ref b17), (.ref b17)]))
  refine Goes.via (fun _ kk_ => XS.iload X17.here hx rfl (hb hby at_151) rfl  kk_) ?_
  show Goes p e below _ (T17.setTop (mkF m 153 #[.val (.int x0), .val (.int x1), .val (.int x2), .val (.int x3), .val (.int x4), .val (.int x5), .val (.int v6_1), .val (.int (if (x3 &&& (1 : Int32)) = (0 : Int32) then (0 : Int32) else (1 : Int32))), .val (.int v8_3), .val (.int lc), .val (.int ta), .val (.int tb_), .val (.int tc), .val (.int td), .val (.ref nb7), .val (.ref nb12), .unset, .unset, .unset] [(.int v6_1), (.ref b17), (.ref b17)]))
  have K25 : Keep h0 h17 [] := ((K9.trans K12 all0).ext E17)
  have f26 : Sta Z h17 "com/example/map_rewriter/maprewriter/core/SExpression$Kind" "SYMBOL" "Lcom/example/map_rewriter/maprewriter/core/SExpression$Kind;" (.ref A0) := own_sta_keep OK0 K25
  have f27 : Sta Z h17 "com/example/map_rewriter/maprewriter/core/SExpression$Kind" "KEYWORD" "Lcom/example/map_rewriter/maprewriter/core/SExpression$Kind;" (.ref A1) := own_sta_keep OK1 K25
  have f28 : Sta Z h17 "com/example/map_rewriter/maprewriter/core/SExpression$Kind" "NUMERAL" "Lcom/example/map_rewriter/maprewriter/core/SExpression$Kind;" (.ref A2) := own_sta_keep OK2 K25
  have f29 : Sta Z h17 "com/example/map_rewriter/maprewriter/core/SExpression$Kind" "DECIMAL" "Lcom/example/map_rewriter/maprewriter/core/SExpression$Kind;" (.ref A3) := own_sta_keep OK3 K25
  have f30 : Sta Z h17 "com/example/map_rewriter/maprewriter/core/SExpression$Kind" "HEXADECIMAL" "Lcom/example/map_rewriter/maprewriter/core/SExpression$Kind;" (.ref A4) := own_sta_keep OK4 K25
  have f31 : Sta Z h17 "com/example/map_rewriter/maprewriter/core/SExpression$Kind" "BINARY" "Lcom/example/map_rewriter/maprewriter/core/SExpression$Kind;" (.ref A5) := own_sta_keep OK5 K25
  have f32 : Sta Z h17 "com/example/map_rewriter/maprewriter/core/SExpression$Kind" "STRING" "Lcom/example/map_rewriter/maprewriter/core/SExpression$Kind;" (.ref A6) := own_sta_keep OK6 K25
  have z34 : h0.size ≤ (h17).size := (Nat.le_trans z24 E17.1)
  obtain ⟨_, _, ⟨T33, L33, k33, n33⟩, -, X33, ⟨Lc33, hQ33, l33, y33, z33⟩, st33⟩ := Jvm.LawKit.callS X17 hx (y := (⟨"com/example/map_rewriter/maprewriter/core/AtomIsSymbolPinLaw", "kindOf", "(I)Lcom/example/map_rewriter/maprewriter/core/SExpression$Kind;"⟩ : MethodName)) hown (mvT hZ (hw _ (List.mem_of_getElem? (i := 30) rfl))) (mvT hZ (hw _ (List.mem_of_getElem? (i := 31) rfl))) (mvT hZ (hw _ (List.mem_of_getElem? (i := 3) rfl))) (mvT hZ (hw _ (List.mem_of_getElem? (i := 32) rfl))) (by decide) (backOf (W := 2) (rm5 l Z a0 hw [] v6_1 A0 A1 A2 A3 A4 A5 A6 h17 n0 (Nat.le_trans Z0 z34) f26 f27 f28 f29 f30 f31 f32 HN1 HN2 HN3 HN4 HN5 HN6) hZ (hw _ (List.mem_of_getElem? (i := 32) rfl)) (hw _ (List.mem_of_getElem? (i := 3) rfl)) (by decide) (by decide)) (g := (mkF m 153 #[.val (.int x0), .val (.int x1), .val (.int x2), .val (.int x3), .val (.int x4), .val (.int x5), .val (.int v6_1), .val (.int (if (x3 &&& (1 : Int32)) = (0 : Int32) then (0 : Int32) else (1 : Int32))), .val (.int v8_3), .val (.int lc), .val (.int ta), .val (.int tb_), .val (.int tc), .val (.int td), .val (.ref nb7), .val (.ref nb12), .unset, .unset, .unset] [(.int v6_1), (.ref b17), (.ref b17)])) rfl (by rw [hml]; rfl) (argsL := [(.int v6_1)]) (rest := [(.ref b17), (.ref b17)]) (lenOf pd_5 rfl) rfl (by show 2 * 0 + _ ≤ _; exact Nat.le_of_eq rfl) (hb hby at_153) (fun _ _ => ⟨rfl, e17, (by first | decide | omega | (dsimp only; omega) : 9 + 0 ≤ _), (by first | decide | omega | (dsimp only; omega) : 21 + 0 ≤ _)⟩)
  dsimp only [Pt.U, Pt.locs, Pt.cells, Pt.slots] at X33 l33 y33 z33 st33 hQ33
  subst l33 y33 z33
  obtain ⟨ak33, rfl, rfl, e33, u33_0⟩ := hQ33
  first | rw [List.append_nil] at X33 | skip
  refine Goes.via st33 ?_
  have e33' : T33.heap = h17 := e33
  -- u33_0 : ((v6_1 = (0 : Int32) ∧ ak33 = A0) ∨ (¬ v6_1 = (0 : Int32) ∧ ak33 ≠ A0))
  show Goes p e below _ (T33.setTop (mkF m 156 #[.val (.int x0), .val (.int x1), .val (.int x2), .val (.int x3), .val (.int x4), .val (.int x5), .val (.int v6_1), .val (.int (if (x3 &&& (1 : Int32)) = (0 : Int32) then (0 : Int32) else (1 : Int32))), .val (.int v8_3), .val (.int lc), .val (.int ta), .val (.int tb_), .val (.int tc), .val (.int td), .val (.ref nb7), .val (.ref nb12), .unset, .unset, .unset] [(.ref ak33), (.ref b17), (.ref b17)]))
  rcases u33_0 with ⟨hk0, hke⟩ | ⟨hk0, hka⟩
  · skip
    have hke' := hke.symm
    subst hke'
    show Goes p e below _ (T33.setTop (mkF m 156 #[.val (.int x0), .val (.int x1), .val (.int x2), .val (.int x3), .val (.int x4), .val (.int x5), .val (.int v6_1), .val (.int (if (x3 &&& (1 : Int32)) = (0 : Int32) then (0 : Int32) else (1 : Int32))), .val (.int v8_3), .val (.int lc), .val (.int ta), .val (.int tb_), .val (.int tc), .val (.int td), .val (.ref nb7), .val (.ref nb12), .unset, .unset, .unset] [(.ref A0), (.ref b17), (.ref b17)]))
    refine Goes.via (fun _ kk_ => XS.aload X33.here hx rfl (hb hby at_156) rfl rfl  kk_) ?_
    show Goes p e below _ (T33.setTop (mkF m 158 #[.val (.int x0), .val (.int x1), .val (.int x2), .val (.int x3), .val (.int x4), .val (.int x5), .val (.int v6_1), .val (.int (if (x3 &&& (1 : Int32)) = (0 : Int32) then (0 : Int32) else (1 : Int32))), .val (.int v8_3), .val (.int lc), .val (.int ta), .val (.int tb_), .val (.int tc), .val (.int td), .val (.ref nb7), .val (.ref nb12), .unset, .unset, .unset] [(.ref nb7), (.ref A0), (.ref b17), (.ref b17)]))
    refine Goes.via (fun _ kk_ => XS.iload X33.here hx rfl (hb hby at_158) rfl  kk_) ?_
    show Goes p e below _ (T33.setTop (mkF m 160 #[.val (.int x0), .val (.int x1), .val (.int x2), .val (.int x3), .val (.int x4), .val (.int x5), .val (.int v6_1), .val (.int (if (x3 &&& (1 : Int32)) = (0 : Int32) then (0 : Int32) else (1 : Int32))), .val (.int v8_3), .val (.int lc), .val (.int ta), .val (.int tb_), .val (.int tc), .val (.int td), .val (.ref nb7), .val (.ref nb12), .unset, .unset, .unset] [(.int (if (x3 &&& (1 : Int32)) = (0 : Int32) then (0 : Int32) else (1 : Int32))), (.ref nb7), (.ref A0), (.ref b17), (.ref b17)]))
    refine Goes.via (fun _ kk_ => XS.iload X33.here hx rfl (hb hby at_160) rfl  kk_) ?_
    show Goes p e below _ (T33.setTop (mkF m 162 #[.val (.int x0), .val (.int x1), .val (.int x2), .val (.int x3), .val (.int x4), .val (.int x5), .val (.int v6_1), .val (.int (if (x3 &&& (1 : Int32)) = (0 : Int32) then (0 : Int32) else (1 : Int32))), .val (.int v8_3), .val (.int lc), .val (.int ta), .val (.int tb_), .val (.int tc), .val (.int td), .val (.ref nb7), .val (.ref nb12), .unset, .unset, .unset] [(.int x4), (.int (if (x3 &&& (1 : Int32)) = (0 : Int32) then (0 : Int32) else (1 : Int32))), (.ref nb7), (.ref A0), (.ref b17), (.ref b17)]))
    refine Goes.via (fun _ kk_ => XS.iload X33.here hx rfl (hb hby at_162) rfl  kk_) ?_
    show Goes p e below _ (T33.setTop (mkF m 164 #[.val (.int x0), .val (.int x1), .val (.int x2), .val (.int x3), .val (.int x4), .val (.int x5), .val (.int v6_1), .val (.int (if (x3 &&& (1 : Int32)) = (0 : Int32) then (0 : Int32) else (1 : Int32))), .val (.int v8_3), .val (.int lc), .val (.int ta), .val (.int tb_), .val (.int tc), .val (.int td), .val (.ref nb7), .val (.ref nb12), .unset, .unset, .unset] [(.int x5), (.int x4), (.int (if (x3 &&& (1 : Int32)) = (0 : Int32) then (0 : Int32) else (1 : Int32))), (.ref nb7), (.ref A0), (.ref b17), (.ref b17)]))
    obtain ⟨_, _, ⟨T35, L35, k35, n35⟩, -, X35, ⟨Lc35, hQ35, l35, y35, z35⟩, st35⟩ := X33.specialBack hx (y := (⟨"com/example/map_rewriter/maprewriter/core/SExpression$Atom", "<init>", "(Lcom/example/map_rewriter/maprewriter/core/SExpression$Kind;Ljava/lang/String;ZII)V"⟩ : MethodName)) rfl hown (mvT hZ (hw _ (List.mem_of_getElem? (i := 36) rfl))) (mvT hZ (hw _ (List.mem_of_getElem? (i := 37) rfl))) (mvT hZ (hw _ (List.mem_of_getElem? (i := 38) rfl))) (by decide) (backOf (W := 1) (rm6 l Z a0 hw [] b17 A0 nb7 (if (x3 &&& (1 : Int32)) = (0 : Int32) then (0 : Int32) else (1 : Int32)) x4 x5 h17 n0 (Nat.le_trans Z0 z34) A17 F_line_b17 F_column_b17 gn_b17 F_kind_b17 F_text_b17 F_quoted_b17) hZ (hw _ (List.mem_of_getElem? (i := 38) rfl)) (hw _ (List.mem_of_getElem? (i := 29) rfl)) (by decide) (by decide)) (g := (mkF m 164 #[.val (.int x0), .val (.int x1), .val (.int x2), .val (.int x3), .val (.int x4), .val (.int x5), .val (.int v6_1), .val (.int (if (x3 &&& (1 : Int32)) = (0 : Int32) then (0 : Int32) else (1 : Int32))), .val (.int v8_3), .val (.int lc), .val (.int ta), .val (.int tb_), .val (.int tc), .val (.int td), .val (.ref nb7), .val (.ref nb12), .unset, .unset, .unset] [(.int x5), (.int x4), (.int (if (x3 &&& (1 : Int32)) = (0 : Int32) then (0 : Int32) else (1 : Int32))), (.ref nb7), (.ref A0), (.ref b17), (.ref b17)])) rfl (by rw [hml]; rfl) (Steps.refl _) (a := b17) (argsL := [(.ref A0), (.ref nb7), (.int (if (x3 &&& (1 : Int32)) = (0 : Int32) then (0 : Int32) else (1 : Int32))), (.int x4), (.int x5)]) (rest := [(.ref b17)]) (lenOf pd_6 rfl) rfl (by show 2 * 0 + _ ≤ _; exact Nat.le_of_eq rfl) (hb hby at_164) (fun _ _ => ⟨rfl, e33', (by first | decide | omega | (dsimp only; omega) : 9 + 0 ≤ _), (by first | decide | omega | (dsimp only; omega) : 21 + 0 ≤ _)⟩)
    dsimp only [Pt.U, Pt.locs, Pt.cells, Pt.slots] at X35 l35 y35 z35 st35 hQ35
    subst l35 y35 z35
    obtain ⟨rfl, N35q, K35, u35_0, u35_1, u35_2⟩ := hQ35
    have N35 := Fr.app N12 N35q
    refine Goes.tr st35 ?_
    show Goes p e below _ (T35.setTop (mkF m 167 #[.val (.int x0), .val (.int x1), .val (.int x2), .val (.int x3), .val (.int x4), .val (.int x5), .val (.int v6_1), .val (.int (if (x3 &&& (1 : Int32)) = (0 : Int32) then (0 : Int32) else (1 : Int32))), .val (.int v8_3), .val (.int lc), .val (.int ta), .val (.int tb_), .val (.int tc), .val (.int td), .val (.ref nb7), .val (.ref nb12), .unset, .unset, .unset] [(.ref b17)]))
    refine Goes.via (fun _ kk_ => XS.astore X35.here hx rfl (hb hby at_167) rfl rfl (l' := #[.val (.int x0), .val (.int x1), .val (.int x2), .val (.int x3), .val (.int x4), .val (.int x5), .val (.int v6_1), .val (.int (if (x3 &&& (1 : Int32)) = (0 : Int32) then (0 : Int32) else (1 : Int32))), .val (.int v8_3), .val (.int lc), .val (.int ta), .val (.int tb_), .val (.int tc), .val (.int td), .val (.ref nb7), .val (.ref nb12), .val (.ref b17), .unset, .unset]) rfl kk_) ?_
    show Goes p e below _ (T35.setTop (mkF m 169 #[.val (.int x0), .val (.int x1), .val (.int x2), .val (.int x3), .val (.int x4), .val (.int x5), .val (.int v6_1), .val (.int (if (x3 &&& (1 : Int32)) = (0 : Int32) then (0 : Int32) else (1 : Int32))), .val (.int v8_3), .val (.int lc), .val (.int ta), .val (.int tb_), .val (.int tc), .val (.int td), .val (.ref nb7), .val (.ref nb12), .val (.ref b17), .unset, .unset] []))
    refine Goes.via (fun _ kk_ => XS.iload X35.here hx rfl (hb hby at_169) rfl  kk_) ?_
    show Goes p e below _ (T35.setTop (mkF m 171 #[.val (.int x0), .val (.int x1), .val (.int x2), .val (.int x3), .val (.int x4), .val (.int x5), .val (.int v6_1), .val (.int (if (x3 &&& (1 : Int32)) = (0 : Int32) then (0 : Int32) else (1 : Int32))), .val (.int v8_3), .val (.int lc), .val (.int ta), .val (.int tb_), .val (.int tc), .val (.int td), .val (.ref nb7), .val (.ref nb12), .val (.ref b17), .unset, .unset] [(.int v8_3)]))
    refine Goes.via (fun _ kk_ => XS.iload X35.here hx rfl (hb hby at_171) rfl  kk_) ?_
    show Goes p e below _ (T35.setTop (mkF m 173 #[.val (.int x0), .val (.int x1), .val (.int x2), .val (.int x3), .val (.int x4), .val (.int x5), .val (.int v6_1), .val (.int (if (x3 &&& (1 : Int32)) = (0 : Int32) then (0 : Int32) else (1 : Int32))), .val (.int v8_3), .val (.int lc), .val (.int ta), .val (.int tb_), .val (.int tc), .val (.int td), .val (.ref nb7), .val (.ref nb12), .val (.ref b17), .unset, .unset] [(.int lc), (.int v8_3)]))
    by_cases hc173 : v8_3 = lc
    · skip
      refine Goes.via (fun _ kk_ => XS.icmpNo X35.here hx rfl (hb hby at_173) rfl (teq hc173).2 kk_) ?_
      show Goes p e below _ (T35.setTop (mkF m 176 #[.val (.int x0), .val (.int x1), .val (.int x2), .val (.int x3), .val (.int x4), .val (.int x5), .val (.int v6_1), .val (.int (if (x3 &&& (1 : Int32)) = (0 : Int32) then (0 : Int32) else (1 : Int32))), .val (.int v8_3), .val (.int lc), .val (.int ta), .val (.int tb_), .val (.int tc), .val (.int td), .val (.ref nb7), .val (.ref nb12), .val (.ref b17), .unset, .unset] []))
      refine Goes.via (fun _ kk_ => XS.iload X35.here hx rfl (hb hby at_176) rfl  kk_) ?_
      show Goes p e below _ (T35.setTop (mkF m 178 #[.val (.int x0), .val (.int x1), .val (.int x2), .val (.int x3), .val (.int x4), .val (.int x5), .val (.int v6_1), .val (.int (if (x3 &&& (1 : Int32)) = (0 : Int32) then (0 : Int32) else (1 : Int32))), .val (.int v8_3), .val (.int lc), .val (.int ta), .val (.int tb_), .val (.int tc), .val (.int td), .val (.ref nb7), .val (.ref nb12), .val (.ref b17), .unset, .unset] [(.int v8_3)]))
      refine Goes.via (fun _ kk_ => XS.iconst X35.here hx rfl (hb hby at_178) kk_) ?_
      show Goes p e below _ (T35.setTop (mkF m 179 #[.val (.int x0), .val (.int x1), .val (.int x2), .val (.int x3), .val (.int x4), .val (.int x5), .val (.int v6_1), .val (.int (if (x3 &&& (1 : Int32)) = (0 : Int32) then (0 : Int32) else (1 : Int32))), .val (.int v8_3), .val (.int lc), .val (.int ta), .val (.int tb_), .val (.int tc), .val (.int td), .val (.ref nb7), .val (.ref nb12), .val (.ref b17), .unset, .unset] [(.int (1 : Int32)), (.int v8_3)]))
      by_cases hc179 : v8_3 < (1 : Int32)
      · skip
        refine Goes.via (fun _ kk_ => XS.icmpYes X35.here hx rfl (pc0 := 179) (pc' := 189) rfl (hb hby at_179) rfl (tlt hc179).1 (by decide) (by decide) kk_) ?_
        show Goes p e below _ (T35.setTop (mkF m 189 #[.val (.int x0), .val (.int x1), .val (.int x2), .val (.int x3), .val (.int x4), .val (.int x5), .val (.int v6_1), .val (.int (if (x3 &&& (1 : Int32)) = (0 : Int32) then (0 : Int32) else (1 : Int32))), .val (.int v8_3), .val (.int lc), .val (.int ta), .val (.int tb_), .val (.int tc), .val (.int td), .val (.ref nb7), .val (.ref nb12), .val (.ref b17), .unset, .unset] []))
        refine Goes.via (fun _ kk_ => XS.iload X35.here hx rfl (hb hby at_189) rfl  kk_) ?_
        show Goes p e below _ (T35.setTop (mkF m 191 #[.val (.int x0), .val (.int x1), .val (.int x2), .val (.int x3), .val (.int x4), .val (.int x5), .val (.int v6_1), .val (.int (if (x3 &&& (1 : Int32)) = (0 : Int32) then (0 : Int32) else (1 : Int32))), .val (.int v8_3), .val (.int lc), .val (.int ta), .val (.int tb_), .val (.int tc), .val (.int td), .val (.ref nb7), .val (.ref nb12), .val (.ref b17), .unset, .unset] [(.int v8_3)]))
        refine Goes.via (fun _ kk_ => XS.iconst X35.here hx rfl (hb hby at_191) kk_) ?_
        show Goes p e below _ (T35.setTop (mkF m 192 #[.val (.int x0), .val (.int x1), .val (.int x2), .val (.int x3), .val (.int x4), .val (.int x5), .val (.int v6_1), .val (.int (if (x3 &&& (1 : Int32)) = (0 : Int32) then (0 : Int32) else (1 : Int32))), .val (.int v8_3), .val (.int lc), .val (.int ta), .val (.int tb_), .val (.int tc), .val (.int td), .val (.ref nb7), .val (.ref nb12), .val (.ref b17), .unset, .unset] [(.int (2 : Int32)), (.int v8_3)]))
        by_cases hc192 : v8_3 < (2 : Int32)
        · skip
          refine Goes.via (fun _ kk_ => XS.icmpYes X35.here hx rfl (pc0 := 192) (pc' := 202) rfl (hb hby at_192) rfl (tlt hc192).1 (by decide) (by decide) kk_) ?_
          show Goes p e below _ (T35.setTop (mkF m 202 #[.val (.int x0), .val (.int x1), .val (.int x2), .val (.int x3), .val (.int x4), .val (.int x5), .val (.int v6_1), .val (.int (if (x3 &&& (1 : Int32)) = (0 : Int32) then (0 : Int32) else (1 : Int32))), .val (.int v8_3), .val (.int lc), .val (.int ta), .val (.int tb_), .val (.int tc), .val (.int td), .val (.ref nb7), .val (.ref nb12), .val (.ref b17), .unset, .unset] []))
          refine Goes.via (fun _ kk_ => XS.iconst X35.here hx rfl (hb hby at_202) kk_) ?_
          show Goes p e below _ (T35.setTop (mkF m 203 #[.val (.int x0), .val (.int x1), .val (.int x2), .val (.int x3), .val (.int x4), .val (.int x5), .val (.int v6_1), .val (.int (if (x3 &&& (1 : Int32)) = (0 : Int32) then (0 : Int32) else (1 : Int32))), .val (.int v8_3), .val (.int lc), .val (.int ta), .val (.int tb_), .val (.int tc), .val (.int td), .val (.ref nb7), .val (.ref nb12), .val (.ref b17), .unset, .unset] [(.int (1 : Int32))]))
          refine Goes.via (fun _ kk_ => XS.goto X35.here hx rfl (pc0 := 203) (pc' := 207) rfl (hb hby at_203) (by decide) (by decide) kk_) ?_
          show Goes p e below _ (T35.setTop (mkF m 207 #[.val (.int x0), .val (.int x1), .val (.int x2), .val (.int x3), .val (.int x4), .val (.int x5), .val (.int v6_1), .val (.int (if (x3 &&& (1 : Int32)) = (0 : Int32) then (0 : Int32) else (1 : Int32))), .val (.int v8_3), .val (.int lc), .val (.int ta), .val (.int tb_), .val (.int tc), .val (.int td), .val (.ref nb7), .val (.ref nb12), .val (.ref b17), .unset, .unset] [(.int (1 : Int32))]))
          refine Goes.via (fun _ kk_ => XS.istore X35.here hx rfl (hb hby at_207) rfl (l' := #[.val (.int x0), .val (.int x1), .val (.int x2), .val (.int x3), .val (.int x4), .val (.int x5), .val (.int v6_1), .val (.int (if (x3 &&& (1 : Int32)) = (0 : Int32) then (0 : Int32) else (1 : Int32))), .val (.int v8_3), .val (.int lc), .val (.int ta), .val (.int tb_), .val (.int tc), .val (.int td), .val (.ref nb7), .val (.ref nb12), .val (.ref b17), .val (.int (1 : Int32)), .unset]) rfl kk_) ?_
          show Goes p e below _ (T35.setTop (mkF m 209 #[.val (.int x0), .val (.int x1), .val (.int x2), .val (.int x3), .val (.int x4), .val (.int x5), .val (.int v6_1), .val (.int (if (x3 &&& (1 : Int32)) = (0 : Int32) then (0 : Int32) else (1 : Int32))), .val (.int v8_3), .val (.int lc), .val (.int ta), .val (.int tb_), .val (.int tc), .val (.int td), .val (.ref nb7), .val (.ref nb12), .val (.ref b17), .val (.int (1 : Int32)), .unset] []))
          refine Goes.via (fun _ kk_ => XS.iload X35.here hx rfl (hb hby at_209) rfl  kk_) ?_
          show Goes p e below _ (T35.setTop (mkF m 211 #[.val (.int x0), .val (.int x1), .val (.int x2), .val (.int x3), .val (.int x4), .val (.int x5), .val (.int v6_1), .val (.int (if (x3 &&& (1 : Int32)) = (0 : Int32) then (0 : Int32) else (1 : Int32))), .val (.int v8_3), .val (.int lc), .val (.int ta), .val (.int tb_), .val (.int tc), .val (.int td), .val (.ref nb7), .val (.ref nb12), .val (.ref b17), .val (.int (1 : Int32)), .unset] [(.int v6_1)]))
          have hc211_36 : v6_1 = (0 : Int32) := hk0
          refine Goes.via (fun _ kk_ => XS.ifNo X35.here hx rfl (hb hby at_211) rfl ((if0 _ _).trans (teq hc211_36).2) kk_) ?_
          show Goes p e below _ (T35.setTop (mkF m 214 #[.val (.int x0), .val (.int x1), .val (.int x2), .val (.int x3), .val (.int x4), .val (.int x5), .val (.int v6_1), .val (.int (if (x3 &&& (1 : Int32)) = (0 : Int32) then (0 : Int32) else (1 : Int32))), .val (.int v8_3), .val (.int lc), .val (.int ta), .val (.int tb_), .val (.int tc), .val (.int td), .val (.ref nb7), .val (.ref nb12), .val (.ref b17), .val (.int (1 : Int32)), .unset] []))
          refine Goes.via (fun _ kk_ => XS.iload X35.here hx rfl (hb hby at_214) rfl  kk_) ?_
          show Goes p e below _ (T35.setTop (mkF m 216 #[.val (.int x0), .val (.int x1), .val (.int x2), .val (.int x3), .val (.int x4), .val (.int x5), .val (.int v6_1), .val (.int (if (x3 &&& (1 : Int32)) = (0 : Int32) then (0 : Int32) else (1 : Int32))), .val (.int v8_3), .val (.int lc), .val (.int ta), .val (.int tb_), .val (.int tc), .val (.int td), .val (.ref nb7), .val (.ref nb12), .val (.ref b17), .val (.int (1 : Int32)), .unset] [(.int (1 : Int32))]))
          have hc216_37 : ¬ ((1 : Int32) = (0 : Int32)) := (by decide)
          refine Goes.via (fun _ kk_ => XS.ifNo X35.here hx rfl (hb hby at_216) rfl ((if0 _ _).trans (feq hc216_37).1) kk_) ?_
          show Goes p e below _ (T35.setTop (mkF m 219 #[.val (.int x0), .val (.int x1), .val (.int x2), .val (.int x3), .val (.int x4), .val (.int x5), .val (.int v6_1), .val (.int (if (x3 &&& (1 : Int32)) = (0 : Int32) then (0 : Int32) else (1 : Int32))), .val (.int v8_3), .val (.int lc), .val (.int ta), .val (.int tb_), .val (.int tc), .val (.int td), .val (.ref nb7), .val (.ref nb12), .val (.ref b17), .val (.int (1 : Int32)), .unset] []))
          refine Goes.via (fun _ kk_ => XS.iconst X35.here hx rfl (hb hby at_219) kk_) ?_
          show Goes p e below _ (T35.setTop (mkF m 220 #[.val (.int x0), .val (.int x1), .val (.int x2), .val (.int x3), .val (.int x4), .val (.int x5), .val (.int v6_1), .val (.int (if (x3 &&& (1 : Int32)) = (0 : Int32) then (0 : Int32) else (1 : Int32))), .val (.int v8_3), .val (.int lc), .val (.int ta), .val (.int tb_), .val (.int tc), .val (.int td), .val (.ref nb7), .val (.ref nb12), .val (.ref b17), .val (.int (1 : Int32)), .unset] [(.int (1 : Int32))]))
          refine Goes.via (fun _ kk_ => XS.goto X35.here hx rfl (pc0 := 220) (pc' := 224) rfl (hb hby at_220) (by decide) (by decide) kk_) ?_
          show Goes p e below _ (T35.setTop (mkF m 224 #[.val (.int x0), .val (.int x1), .val (.int x2), .val (.int x3), .val (.int x4), .val (.int x5), .val (.int v6_1), .val (.int (if (x3 &&& (1 : Int32)) = (0 : Int32) then (0 : Int32) else (1 : Int32))), .val (.int v8_3), .val (.int lc), .val (.int ta), .val (.int tb_), .val (.int tc), .val (.int td), .val (.ref nb7), .val (.ref nb12), .val (.ref b17), .val (.int (1 : Int32)), .unset] [(.int (1 : Int32))]))
          refine Goes.via (fun _ kk_ => XS.istore X35.here hx rfl (hb hby at_224) rfl (l' := #[.val (.int x0), .val (.int x1), .val (.int x2), .val (.int x3), .val (.int x4), .val (.int x5), .val (.int v6_1), .val (.int (if (x3 &&& (1 : Int32)) = (0 : Int32) then (0 : Int32) else (1 : Int32))), .val (.int v8_3), .val (.int lc), .val (.int ta), .val (.int tb_), .val (.int tc), .val (.int td), .val (.ref nb7), .val (.ref nb12), .val (.ref b17), .val (.int (1 : Int32)), .val (.int (1 : Int32))]) rfl kk_) ?_
          show Goes p e below _ (T35.setTop (mkF m 226 #[.val (.int x0), .val (.int x1), .val (.int x2), .val (.int x3), .val (.int x4), .val (.int x5), .val (.int v6_1), .val (.int (if (x3 &&& (1 : Int32)) = (0 : Int32) then (0 : Int32) else (1 : Int32))), .val (.int v8_3), .val (.int lc), .val (.int ta), .val (.int tb_), .val (.int tc), .val (.int td), .val (.ref nb7), .val (.ref nb12), .val (.ref b17), .val (.int (1 : Int32)), .val (.int (1 : Int32))] []))
          refine Goes.via (fun _ kk_ => XS.aload X35.here hx rfl (hb hby at_226) rfl rfl  kk_) ?_
          show Goes p e below _ (T35.setTop (mkF m 228 #[.val (.int x0), .val (.int x1), .val (.int x2), .val (.int x3), .val (.int x4), .val (.int x5), .val (.int v6_1), .val (.int (if (x3 &&& (1 : Int32)) = (0 : Int32) then (0 : Int32) else (1 : Int32))), .val (.int v8_3), .val (.int lc), .val (.int ta), .val (.int tb_), .val (.int tc), .val (.int td), .val (.ref nb7), .val (.ref nb12), .val (.ref b17), .val (.int (1 : Int32)), .val (.int (1 : Int32))] [(.ref b17)]))
          refine Goes.via (fun _ kk_ => XS.aload X35.here hx rfl (hb hby at_228) rfl rfl  kk_) ?_
          show Goes p e below _ (T35.setTop (mkF m 230 #[.val (.int x0), .val (.int x1), .val (.int x2), .val (.int x3), .val (.int x4), .val (.int x5), .val (.int v6_1), .val (.int (if (x3 &&& (1 : Int32)) = (0 : Int32) then (0 : Int32) else (1 : Int32))), .val (.int v8_3), .val (.int lc), .val (.int ta), .val (.int tb_), .val (.int tc), .val (.int td), .val (.ref nb7), .val (.ref nb12), .val (.ref b17), .val (.int (1 : Int32)), .val (.int (1 : Int32))] [(.ref nb12), (.ref b17)]))
          have K38 : Keep h0 T35.heap [] := (K25.trans K35 (allS (Or.inr sz_b17) all0))
          have f39 : Sta Z T35.heap "com/example/map_rewriter/maprewriter/core/SExpression$Kind" "SYMBOL" "Lcom/example/map_rewriter/maprewriter/core/SExpression$Kind;" (.ref A0) := own_sta_keep OK0 K38
          have f40 : Exa Z T35.heap nb7 "java/lang/String" := ((f18.ext E17).keep K35)
          have f41 : Fld Z T35.heap nb7 "java/lang/String" "coder" "B" (.int (0 : Int32)) := (((u7_2.keep K12 nin0).ext E17).keep K35 (ninS ne19 nin0))
          have f42 : Fld Z T35.heap nb7 "java/lang/String" "value" "[B" (.ref tb7) := (((u7_3.keep K12 nin0).ext E17).keep K35 (ninS ne19 nin0))
          have f43 : Arv Z T35.heap tb7 tk7 .byte (own_n v8_3 ta tb_) (own_v v8_3 ta tb_) (.int 0) := ((f20.ext E17).keep K35 (ninS ne21 nin0))
          have f44 : Exa Z T35.heap nb12 "java/lang/String" := ((u12_1.ext E17).keep K35)
          have f45 : Fld Z T35.heap nb12 "java/lang/String" "coder" "B" (.int (0 : Int32)) := ((u12_2.ext E17).keep K35 (ninS ne22 nin0))
          have f46 : Fld Z T35.heap nb12 "java/lang/String" "value" "[B" (.ref tb12) := ((u12_3.ext E17).keep K35 (ninS ne22 nin0))
          have f47 : Arv Z T35.heap tb12 tk12 .byte (own_n lc tc td) (own_v lc tc td) (.int 0) := ((u12_4.ext E17).keep K35 (ninS ne23 nin0))
          have f48 : Sta Z T35.heap "java/lang/String" "COMPACT_STRINGS" "Z" (.int cS) := own_sta_keep OS K38
          have z50 : h0.size ≤ (T35.heap).size := (Nat.le_trans z34 K35.1)
          obtain ⟨cq49, kq49, q49a, q49b, q49c⟩ := isOf hZ rfl u35_0
          obtain ⟨_, _, ⟨T49, L49, k49, n49⟩, -, X49, ⟨Lc49, hQ49, l49, y49, z49⟩, st49⟩ := X35.virtualBack hx (y := (⟨"com/example/map_rewriter/maprewriter/core/SExpression$Atom", "isSymbol", "(Ljava/lang/String;)Z"⟩ : MethodName)) (z := (⟨"com/example/map_rewriter/maprewriter/core/SExpression$Atom", "isSymbol", "(Ljava/lang/String;)Z"⟩ : MethodName)) hown (mvT hZ (hw _ (List.mem_of_getElem? (i := 55) rfl))) (mvT hZ (hw _ (List.mem_of_getElem? (i := 56) rfl))) (notFace_of_selects (args := #[]) (mvT hZ (hw _ (List.mem_of_getElem? (i := 58) rfl)))) (mvT hZ (hw _ (List.mem_of_getElem? (i := 58) rfl))) (mvT hZ (hw _ (List.mem_of_getElem? (i := 57) rfl))) (by decide) (backOf (W := 0) (rm8 l Z a0 hw [] b17 nb12 A0 nb7 cS tb7 tk7 v8_3 ta tb_ tb12 tk12 lc tc td T35.heap n0 (Nat.le_trans Z0 z50) u35_1 u35_2 f39 f40 f41 f42 f43 f44 f45 f46 f47 f48 (by first | assumption | rfl | decide | omega | (simp; done)) ha hbb hc hd) hZ (hw _ (List.mem_of_getElem? (i := 59) rfl)) (hw _ (List.mem_of_getElem? (i := 29) rfl)) (by decide) (by decide)) q49a q49c (g := (mkF m 230 #[.val (.int x0), .val (.int x1), .val (.int x2), .val (.int x3), .val (.int x4), .val (.int x5), .val (.int v6_1), .val (.int (if (x3 &&& (1 : Int32)) = (0 : Int32) then (0 : Int32) else (1 : Int32))), .val (.int v8_3), .val (.int lc), .val (.int ta), .val (.int tb_), .val (.int tc), .val (.int td), .val (.ref nb7), .val (.ref nb12), .val (.ref b17), .val (.int (1 : Int32)), .val (.int (1 : Int32))] [(.ref nb12), (.ref b17)])) rfl (by rw [hml]; rfl) (Steps.refl _) (argsL := [(.ref nb12)]) (rest := []) (lenOf pd_7 rfl) rfl (by show 2 * 0 + _ ≤ _; exact Nat.le_of_eq rfl) (hb hby at_230) (fun _ _ => ⟨rfl, rfl, (by first | decide | omega | (dsimp only; omega) : 9 + 0 ≤ _), (by first | decide | omega | (dsimp only; omega) : 21 + 0 ≤ _)⟩)
          dsimp only [Pt.U, Pt.locs, Pt.cells, Pt.slots] at X49 l49 y49 z49 st49 hQ49
          subst l49 y49 z49
          obtain ⟨rfl, rfl, e49⟩ := hQ49
          first | rw [List.append_nil] at X49 | skip
          refine Goes.tr st49 ?_
          have e49' : T49.heap = T35.heap := e49
          have ne51 : nb7 ≠ tb12 := f40.neArv f47 (hw _ (List.mem_of_getElem? (i := 6) rfl))
          show Goes p e below _ (T49.setTop (mkF m 233 #[.val (.int x0), .val (.int x1), .val (.int x2), .val (.int x3), .val (.int x4), .val (.int x5), .val (.int v6_1), .val (.int (if (x3 &&& (1 : Int32)) = (0 : Int32) then (0 : Int32) else (1 : Int32))), .val (.int v8_3), .val (.int lc), .val (.int ta), .val (.int tb_), .val (.int tc), .val (.int td), .val (.ref nb7), .val (.ref nb12), .val (.ref b17), .val (.int (1 : Int32)), .val (.int (1 : Int32))] [(.int (if own_cs v8_3 ta tb_ = own_cs lc tc td then (1 : Int32) else (0 : Int32)))]))
          refine Goes.via (fun _ kk_ => XS.iload X49.here hx rfl (hb hby at_233) rfl  kk_) ?_
          show Goes p e below _ (T49.setTop (mkF m 235 #[.val (.int x0), .val (.int x1), .val (.int x2), .val (.int x3), .val (.int x4), .val (.int x5), .val (.int v6_1), .val (.int (if (x3 &&& (1 : Int32)) = (0 : Int32) then (0 : Int32) else (1 : Int32))), .val (.int v8_3), .val (.int lc), .val (.int ta), .val (.int tb_), .val (.int tc), .val (.int td), .val (.ref nb7), .val (.ref nb12), .val (.ref b17), .val (.int (1 : Int32)), .val (.int (1 : Int32))] [(.int (1 : Int32)), (.int (if own_cs v8_3 ta tb_ = own_cs lc tc td then (1 : Int32) else (0 : Int32)))]))
          have hc235_52 : (if own_cs v8_3 ta tb_ = own_cs lc tc td then (1 : Int32) else (0 : Int32)) = (1 : Int32) := (if_pos ((own_same hlt hlc ha hbb hc hd).mpr ⟨hc173, Or.inl hc179, Or.inl hc192⟩))
          refine Goes.via (fun _ kk_ => XS.icmpNo X49.here hx rfl (hb hby at_235) rfl (teq hc235_52).2 kk_) ?_
          show Goes p e below _ (T49.setTop (mkF m 238 #[.val (.int x0), .val (.int x1), .val (.int x2), .val (.int x3), .val (.int x4), .val (.int x5), .val (.int v6_1), .val (.int (if (x3 &&& (1 : Int32)) = (0 : Int32) then (0 : Int32) else (1 : Int32))), .val (.int v8_3), .val (.int lc), .val (.int ta), .val (.int tb_), .val (.int tc), .val (.int td), .val (.ref nb7), .val (.ref nb12), .val (.ref b17), .val (.int (1 : Int32)), .val (.int (1 : Int32))] []))
          refine Goes.via (fun _ kk_ => XS.iconst X49.here hx rfl (hb hby at_238) kk_) ?_
          show Goes p e below _ (T49.setTop (mkF m 239 #[.val (.int x0), .val (.int x1), .val (.int x2), .val (.int x3), .val (.int x4), .val (.int x5), .val (.int v6_1), .val (.int (if (x3 &&& (1 : Int32)) = (0 : Int32) then (0 : Int32) else (1 : Int32))), .val (.int v8_3), .val (.int lc), .val (.int ta), .val (.int tb_), .val (.int tc), .val (.int td), .val (.ref nb7), .val (.ref nb12), .val (.ref b17), .val (.int (1 : Int32)), .val (.int (1 : Int32))] [(.int (1 : Int32))]))
          refine Goes.via (fun _ kk_ => XS.goto X49.here hx rfl (pc0 := 239) (pc' := 243) rfl (hb hby at_239) (by decide) (by decide) kk_) ?_
          show Goes p e below _ (T49.setTop (mkF m 243 #[.val (.int x0), .val (.int x1), .val (.int x2), .val (.int x3), .val (.int x4), .val (.int x5), .val (.int v6_1), .val (.int (if (x3 &&& (1 : Int32)) = (0 : Int32) then (0 : Int32) else (1 : Int32))), .val (.int v8_3), .val (.int lc), .val (.int ta), .val (.int tb_), .val (.int tc), .val (.int td), .val (.ref nb7), .val (.ref nb12), .val (.ref b17), .val (.int (1 : Int32)), .val (.int (1 : Int32))] [(.int (1 : Int32))]))
          have Ks53 : KS Z own_KL T12.vm (T35.heap) := ((Ks12.ext E17).keep K35 (allS (NoS.obj A17 (hw _ (List.mem_of_getElem? (i := 28) rfl)) (by decide)) all0))
          have hKe : KS Z own_KL T49.vm T49.heap := by rw [e49']; exact Ks53.at_ (s := s) X49.warmed
          have sk54 : _ ≤ (T35.heap).size := (Nat.le_trans (Nat.le_trans (Nat.le_refl _) E17.1) K35.1)
          exact own_wfinN X49 SI12 (by rw [e49']; exact sk54) (fun U_ hv hh_ => by show KS Z own_KL U_.vm U_.heap; rw [hv, hh_]; exact hKe) hx hlk hret (by simp) (hb hby at_243) (by rw [e49']; exact ⟨rfl, N35, K38⟩) (by first | decide | omega | (dsimp only; omega)) (by first | decide | omega | (dsimp only; omega))
        · skip
          refine Goes.via (fun _ kk_ => XS.icmpNo X35.here hx rfl (hb hby at_192) rfl (flt hc192).1 kk_) ?_
          show Goes p e below _ (T35.setTop (mkF m 195 #[.val (.int x0), .val (.int x1), .val (.int x2), .val (.int x3), .val (.int x4), .val (.int x5), .val (.int v6_1), .val (.int (if (x3 &&& (1 : Int32)) = (0 : Int32) then (0 : Int32) else (1 : Int32))), .val (.int v8_3), .val (.int lc), .val (.int ta), .val (.int tb_), .val (.int tc), .val (.int td), .val (.ref nb7), .val (.ref nb12), .val (.ref b17), .unset, .unset] []))
          refine Goes.via (fun _ kk_ => XS.iload X35.here hx rfl (hb hby at_195) rfl  kk_) ?_
          show Goes p e below _ (T35.setTop (mkF m 197 #[.val (.int x0), .val (.int x1), .val (.int x2), .val (.int x3), .val (.int x4), .val (.int x5), .val (.int v6_1), .val (.int (if (x3 &&& (1 : Int32)) = (0 : Int32) then (0 : Int32) else (1 : Int32))), .val (.int v8_3), .val (.int lc), .val (.int ta), .val (.int tb_), .val (.int tc), .val (.int td), .val (.ref nb7), .val (.ref nb12), .val (.ref b17), .unset, .unset] [(.int tb_)]))
          refine Goes.via (fun _ kk_ => XS.iload X35.here hx rfl (hb hby at_197) rfl  kk_) ?_
          show Goes p e below _ (T35.setTop (mkF m 199 #[.val (.int x0), .val (.int x1), .val (.int x2), .val (.int x3), .val (.int x4), .val (.int x5), .val (.int v6_1), .val (.int (if (x3 &&& (1 : Int32)) = (0 : Int32) then (0 : Int32) else (1 : Int32))), .val (.int v8_3), .val (.int lc), .val (.int ta), .val (.int tb_), .val (.int tc), .val (.int td), .val (.ref nb7), .val (.ref nb12), .val (.ref b17), .unset, .unset] [(.int td), (.int tb_)]))
          by_cases hc199 : tb_ = td
          · skip
            refine Goes.via (fun _ kk_ => XS.icmpNo X35.here hx rfl (hb hby at_199) rfl (teq hc199).2 kk_) ?_
            show Goes p e below _ (T35.setTop (mkF m 202 #[.val (.int x0), .val (.int x1), .val (.int x2), .val (.int x3), .val (.int x4), .val (.int x5), .val (.int v6_1), .val (.int (if (x3 &&& (1 : Int32)) = (0 : Int32) then (0 : Int32) else (1 : Int32))), .val (.int v8_3), .val (.int lc), .val (.int ta), .val (.int tb_), .val (.int tc), .val (.int td), .val (.ref nb7), .val (.ref nb12), .val (.ref b17), .unset, .unset] []))
            refine Goes.via (fun _ kk_ => XS.iconst X35.here hx rfl (hb hby at_202) kk_) ?_
            show Goes p e below _ (T35.setTop (mkF m 203 #[.val (.int x0), .val (.int x1), .val (.int x2), .val (.int x3), .val (.int x4), .val (.int x5), .val (.int v6_1), .val (.int (if (x3 &&& (1 : Int32)) = (0 : Int32) then (0 : Int32) else (1 : Int32))), .val (.int v8_3), .val (.int lc), .val (.int ta), .val (.int tb_), .val (.int tc), .val (.int td), .val (.ref nb7), .val (.ref nb12), .val (.ref b17), .unset, .unset] [(.int (1 : Int32))]))
            refine Goes.via (fun _ kk_ => XS.goto X35.here hx rfl (pc0 := 203) (pc' := 207) rfl (hb hby at_203) (by decide) (by decide) kk_) ?_
            show Goes p e below _ (T35.setTop (mkF m 207 #[.val (.int x0), .val (.int x1), .val (.int x2), .val (.int x3), .val (.int x4), .val (.int x5), .val (.int v6_1), .val (.int (if (x3 &&& (1 : Int32)) = (0 : Int32) then (0 : Int32) else (1 : Int32))), .val (.int v8_3), .val (.int lc), .val (.int ta), .val (.int tb_), .val (.int tc), .val (.int td), .val (.ref nb7), .val (.ref nb12), .val (.ref b17), .unset, .unset] [(.int (1 : Int32))]))
            refine Goes.via (fun _ kk_ => XS.istore X35.here hx rfl (hb hby at_207) rfl (l' := #[.val (.int x0), .val (.int x1), .val (.int x2), .val (.int x3), .val (.int x4), .val (.int x5), .val (.int v6_1), .val (.int (if (x3 &&& (1 : Int32)) = (0 : Int32) then (0 : Int32) else (1 : Int32))), .val (.int v8_3), .val (.int lc), .val (.int ta), .val (.int tb_), .val (.int tc), .val (.int td), .val (.ref nb7), .val (.ref nb12), .val (.ref b17), .val (.int (1 : Int32)), .unset]) rfl kk_) ?_
            show Goes p e below _ (T35.setTop (mkF m 209 #[.val (.int x0), .val (.int x1), .val (.int x2), .val (.int x3), .val (.int x4), .val (.int x5), .val (.int v6_1), .val (.int (if (x3 &&& (1 : Int32)) = (0 : Int32) then (0 : Int32) else (1 : Int32))), .val (.int v8_3), .val (.int lc), .val (.int ta), .val (.int tb_), .val (.int tc), .val (.int td), .val (.ref nb7), .val (.ref nb12), .val (.ref b17), .val (.int (1 : Int32)), .unset] []))
            refine Goes.via (fun _ kk_ => XS.iload X35.here hx rfl (hb hby at_209) rfl  kk_) ?_
            show Goes p e below _ (T35.setTop (mkF m 211 #[.val (.int x0), .val (.int x1), .val (.int x2), .val (.int x3), .val (.int x4), .val (.int x5), .val (.int v6_1), .val (.int (if (x3 &&& (1 : Int32)) = (0 : Int32) then (0 : Int32) else (1 : Int32))), .val (.int v8_3), .val (.int lc), .val (.int ta), .val (.int tb_), .val (.int tc), .val (.int td), .val (.ref nb7), .val (.ref nb12), .val (.ref b17), .val (.int (1 : Int32)), .unset] [(.int v6_1)]))
            have hc211_55 : v6_1 = (0 : Int32) := hk0
            refine Goes.via (fun _ kk_ => XS.ifNo X35.here hx rfl (hb hby at_211) rfl ((if0 _ _).trans (teq hc211_55).2) kk_) ?_
            show Goes p e below _ (T35.setTop (mkF m 214 #[.val (.int x0), .val (.int x1), .val (.int x2), .val (.int x3), .val (.int x4), .val (.int x5), .val (.int v6_1), .val (.int (if (x3 &&& (1 : Int32)) = (0 : Int32) then (0 : Int32) else (1 : Int32))), .val (.int v8_3), .val (.int lc), .val (.int ta), .val (.int tb_), .val (.int tc), .val (.int td), .val (.ref nb7), .val (.ref nb12), .val (.ref b17), .val (.int (1 : Int32)), .unset] []))
            refine Goes.via (fun _ kk_ => XS.iload X35.here hx rfl (hb hby at_214) rfl  kk_) ?_
            show Goes p e below _ (T35.setTop (mkF m 216 #[.val (.int x0), .val (.int x1), .val (.int x2), .val (.int x3), .val (.int x4), .val (.int x5), .val (.int v6_1), .val (.int (if (x3 &&& (1 : Int32)) = (0 : Int32) then (0 : Int32) else (1 : Int32))), .val (.int v8_3), .val (.int lc), .val (.int ta), .val (.int tb_), .val (.int tc), .val (.int td), .val (.ref nb7), .val (.ref nb12), .val (.ref b17), .val (.int (1 : Int32)), .unset] [(.int (1 : Int32))]))
            have hc216_56 : ¬ ((1 : Int32) = (0 : Int32)) := (by decide)
            refine Goes.via (fun _ kk_ => XS.ifNo X35.here hx rfl (hb hby at_216) rfl ((if0 _ _).trans (feq hc216_56).1) kk_) ?_
            show Goes p e below _ (T35.setTop (mkF m 219 #[.val (.int x0), .val (.int x1), .val (.int x2), .val (.int x3), .val (.int x4), .val (.int x5), .val (.int v6_1), .val (.int (if (x3 &&& (1 : Int32)) = (0 : Int32) then (0 : Int32) else (1 : Int32))), .val (.int v8_3), .val (.int lc), .val (.int ta), .val (.int tb_), .val (.int tc), .val (.int td), .val (.ref nb7), .val (.ref nb12), .val (.ref b17), .val (.int (1 : Int32)), .unset] []))
            refine Goes.via (fun _ kk_ => XS.iconst X35.here hx rfl (hb hby at_219) kk_) ?_
            show Goes p e below _ (T35.setTop (mkF m 220 #[.val (.int x0), .val (.int x1), .val (.int x2), .val (.int x3), .val (.int x4), .val (.int x5), .val (.int v6_1), .val (.int (if (x3 &&& (1 : Int32)) = (0 : Int32) then (0 : Int32) else (1 : Int32))), .val (.int v8_3), .val (.int lc), .val (.int ta), .val (.int tb_), .val (.int tc), .val (.int td), .val (.ref nb7), .val (.ref nb12), .val (.ref b17), .val (.int (1 : Int32)), .unset] [(.int (1 : Int32))]))
            refine Goes.via (fun _ kk_ => XS.goto X35.here hx rfl (pc0 := 220) (pc' := 224) rfl (hb hby at_220) (by decide) (by decide) kk_) ?_
            show Goes p e below _ (T35.setTop (mkF m 224 #[.val (.int x0), .val (.int x1), .val (.int x2), .val (.int x3), .val (.int x4), .val (.int x5), .val (.int v6_1), .val (.int (if (x3 &&& (1 : Int32)) = (0 : Int32) then (0 : Int32) else (1 : Int32))), .val (.int v8_3), .val (.int lc), .val (.int ta), .val (.int tb_), .val (.int tc), .val (.int td), .val (.ref nb7), .val (.ref nb12), .val (.ref b17), .val (.int (1 : Int32)), .unset] [(.int (1 : Int32))]))
            refine Goes.via (fun _ kk_ => XS.istore X35.here hx rfl (hb hby at_224) rfl (l' := #[.val (.int x0), .val (.int x1), .val (.int x2), .val (.int x3), .val (.int x4), .val (.int x5), .val (.int v6_1), .val (.int (if (x3 &&& (1 : Int32)) = (0 : Int32) then (0 : Int32) else (1 : Int32))), .val (.int v8_3), .val (.int lc), .val (.int ta), .val (.int tb_), .val (.int tc), .val (.int td), .val (.ref nb7), .val (.ref nb12), .val (.ref b17), .val (.int (1 : Int32)), .val (.int (1 : Int32))]) rfl kk_) ?_
            show Goes p e below _ (T35.setTop (mkF m 226 #[.val (.int x0), .val (.int x1), .val (.int x2), .val (.int x3), .val (.int x4), .val (.int x5), .val (.int v6_1), .val (.int (if (x3 &&& (1 : Int32)) = (0 : Int32) then (0 : Int32) else (1 : Int32))), .val (.int v8_3), .val (.int lc), .val (.int ta), .val (.int tb_), .val (.int tc), .val (.int td), .val (.ref nb7), .val (.ref nb12), .val (.ref b17), .val (.int (1 : Int32)), .val (.int (1 : Int32))] []))
            refine Goes.via (fun _ kk_ => XS.aload X35.here hx rfl (hb hby at_226) rfl rfl  kk_) ?_
            show Goes p e below _ (T35.setTop (mkF m 228 #[.val (.int x0), .val (.int x1), .val (.int x2), .val (.int x3), .val (.int x4), .val (.int x5), .val (.int v6_1), .val (.int (if (x3 &&& (1 : Int32)) = (0 : Int32) then (0 : Int32) else (1 : Int32))), .val (.int v8_3), .val (.int lc), .val (.int ta), .val (.int tb_), .val (.int tc), .val (.int td), .val (.ref nb7), .val (.ref nb12), .val (.ref b17), .val (.int (1 : Int32)), .val (.int (1 : Int32))] [(.ref b17)]))
            refine Goes.via (fun _ kk_ => XS.aload X35.here hx rfl (hb hby at_228) rfl rfl  kk_) ?_
            show Goes p e below _ (T35.setTop (mkF m 230 #[.val (.int x0), .val (.int x1), .val (.int x2), .val (.int x3), .val (.int x4), .val (.int x5), .val (.int v6_1), .val (.int (if (x3 &&& (1 : Int32)) = (0 : Int32) then (0 : Int32) else (1 : Int32))), .val (.int v8_3), .val (.int lc), .val (.int ta), .val (.int tb_), .val (.int tc), .val (.int td), .val (.ref nb7), .val (.ref nb12), .val (.ref b17), .val (.int (1 : Int32)), .val (.int (1 : Int32))] [(.ref nb12), (.ref b17)]))
            have K57 : Keep h0 T35.heap [] := (K25.trans K35 (allS (Or.inr sz_b17) all0))
            have f58 : Sta Z T35.heap "com/example/map_rewriter/maprewriter/core/SExpression$Kind" "SYMBOL" "Lcom/example/map_rewriter/maprewriter/core/SExpression$Kind;" (.ref A0) := own_sta_keep OK0 K57
            have f59 : Exa Z T35.heap nb7 "java/lang/String" := ((f18.ext E17).keep K35)
            have f60 : Fld Z T35.heap nb7 "java/lang/String" "coder" "B" (.int (0 : Int32)) := (((u7_2.keep K12 nin0).ext E17).keep K35 (ninS ne19 nin0))
            have f61 : Fld Z T35.heap nb7 "java/lang/String" "value" "[B" (.ref tb7) := (((u7_3.keep K12 nin0).ext E17).keep K35 (ninS ne19 nin0))
            have f62 : Arv Z T35.heap tb7 tk7 .byte (own_n v8_3 ta tb_) (own_v v8_3 ta tb_) (.int 0) := ((f20.ext E17).keep K35 (ninS ne21 nin0))
            have f63 : Exa Z T35.heap nb12 "java/lang/String" := ((u12_1.ext E17).keep K35)
            have f64 : Fld Z T35.heap nb12 "java/lang/String" "coder" "B" (.int (0 : Int32)) := ((u12_2.ext E17).keep K35 (ninS ne22 nin0))
            have f65 : Fld Z T35.heap nb12 "java/lang/String" "value" "[B" (.ref tb12) := ((u12_3.ext E17).keep K35 (ninS ne22 nin0))
            have f66 : Arv Z T35.heap tb12 tk12 .byte (own_n lc tc td) (own_v lc tc td) (.int 0) := ((u12_4.ext E17).keep K35 (ninS ne23 nin0))
            have f67 : Sta Z T35.heap "java/lang/String" "COMPACT_STRINGS" "Z" (.int cS) := own_sta_keep OS K57
            have z69 : h0.size ≤ (T35.heap).size := (Nat.le_trans z34 K35.1)
            obtain ⟨cq68, kq68, q68a, q68b, q68c⟩ := isOf hZ rfl u35_0
            obtain ⟨_, _, ⟨T68, L68, k68, n68⟩, -, X68, ⟨Lc68, hQ68, l68, y68, z68⟩, st68⟩ := X35.virtualBack hx (y := (⟨"com/example/map_rewriter/maprewriter/core/SExpression$Atom", "isSymbol", "(Ljava/lang/String;)Z"⟩ : MethodName)) (z := (⟨"com/example/map_rewriter/maprewriter/core/SExpression$Atom", "isSymbol", "(Ljava/lang/String;)Z"⟩ : MethodName)) hown (mvT hZ (hw _ (List.mem_of_getElem? (i := 55) rfl))) (mvT hZ (hw _ (List.mem_of_getElem? (i := 56) rfl))) (notFace_of_selects (args := #[]) (mvT hZ (hw _ (List.mem_of_getElem? (i := 58) rfl)))) (mvT hZ (hw _ (List.mem_of_getElem? (i := 58) rfl))) (mvT hZ (hw _ (List.mem_of_getElem? (i := 57) rfl))) (by decide) (backOf (W := 0) (rm8 l Z a0 hw [] b17 nb12 A0 nb7 cS tb7 tk7 v8_3 ta tb_ tb12 tk12 lc tc td T35.heap n0 (Nat.le_trans Z0 z69) u35_1 u35_2 f58 f59 f60 f61 f62 f63 f64 f65 f66 f67 (by first | assumption | rfl | decide | omega | (simp; done)) ha hbb hc hd) hZ (hw _ (List.mem_of_getElem? (i := 59) rfl)) (hw _ (List.mem_of_getElem? (i := 29) rfl)) (by decide) (by decide)) q68a q68c (g := (mkF m 230 #[.val (.int x0), .val (.int x1), .val (.int x2), .val (.int x3), .val (.int x4), .val (.int x5), .val (.int v6_1), .val (.int (if (x3 &&& (1 : Int32)) = (0 : Int32) then (0 : Int32) else (1 : Int32))), .val (.int v8_3), .val (.int lc), .val (.int ta), .val (.int tb_), .val (.int tc), .val (.int td), .val (.ref nb7), .val (.ref nb12), .val (.ref b17), .val (.int (1 : Int32)), .val (.int (1 : Int32))] [(.ref nb12), (.ref b17)])) rfl (by rw [hml]; rfl) (Steps.refl _) (argsL := [(.ref nb12)]) (rest := []) (lenOf pd_7 rfl) rfl (by show 2 * 0 + _ ≤ _; exact Nat.le_of_eq rfl) (hb hby at_230) (fun _ _ => ⟨rfl, rfl, (by first | decide | omega | (dsimp only; omega) : 9 + 0 ≤ _), (by first | decide | omega | (dsimp only; omega) : 21 + 0 ≤ _)⟩)
            dsimp only [Pt.U, Pt.locs, Pt.cells, Pt.slots] at X68 l68 y68 z68 st68 hQ68
            subst l68 y68 z68
            obtain ⟨rfl, rfl, e68⟩ := hQ68
            first | rw [List.append_nil] at X68 | skip
            refine Goes.tr st68 ?_
            have e68' : T68.heap = T35.heap := e68
            have ne70 : nb7 ≠ tb12 := f59.neArv f66 (hw _ (List.mem_of_getElem? (i := 6) rfl))
            show Goes p e below _ (T68.setTop (mkF m 233 #[.val (.int x0), .val (.int x1), .val (.int x2), .val (.int x3), .val (.int x4), .val (.int x5), .val (.int v6_1), .val (.int (if (x3 &&& (1 : Int32)) = (0 : Int32) then (0 : Int32) else (1 : Int32))), .val (.int v8_3), .val (.int lc), .val (.int ta), .val (.int tb_), .val (.int tc), .val (.int td), .val (.ref nb7), .val (.ref nb12), .val (.ref b17), .val (.int (1 : Int32)), .val (.int (1 : Int32))] [(.int (if own_cs v8_3 ta tb_ = own_cs lc tc td then (1 : Int32) else (0 : Int32)))]))
            refine Goes.via (fun _ kk_ => XS.iload X68.here hx rfl (hb hby at_233) rfl  kk_) ?_
            show Goes p e below _ (T68.setTop (mkF m 235 #[.val (.int x0), .val (.int x1), .val (.int x2), .val (.int x3), .val (.int x4), .val (.int x5), .val (.int v6_1), .val (.int (if (x3 &&& (1 : Int32)) = (0 : Int32) then (0 : Int32) else (1 : Int32))), .val (.int v8_3), .val (.int lc), .val (.int ta), .val (.int tb_), .val (.int tc), .val (.int td), .val (.ref nb7), .val (.ref nb12), .val (.ref b17), .val (.int (1 : Int32)), .val (.int (1 : Int32))] [(.int (1 : Int32)), (.int (if own_cs v8_3 ta tb_ = own_cs lc tc td then (1 : Int32) else (0 : Int32)))]))
            have hc235_71 : (if own_cs v8_3 ta tb_ = own_cs lc tc td then (1 : Int32) else (0 : Int32)) = (1 : Int32) := (if_pos ((own_same hlt hlc ha hbb hc hd).mpr ⟨hc173, Or.inl hc179, Or.inr hc199⟩))
            refine Goes.via (fun _ kk_ => XS.icmpNo X68.here hx rfl (hb hby at_235) rfl (teq hc235_71).2 kk_) ?_
            show Goes p e below _ (T68.setTop (mkF m 238 #[.val (.int x0), .val (.int x1), .val (.int x2), .val (.int x3), .val (.int x4), .val (.int x5), .val (.int v6_1), .val (.int (if (x3 &&& (1 : Int32)) = (0 : Int32) then (0 : Int32) else (1 : Int32))), .val (.int v8_3), .val (.int lc), .val (.int ta), .val (.int tb_), .val (.int tc), .val (.int td), .val (.ref nb7), .val (.ref nb12), .val (.ref b17), .val (.int (1 : Int32)), .val (.int (1 : Int32))] []))
            refine Goes.via (fun _ kk_ => XS.iconst X68.here hx rfl (hb hby at_238) kk_) ?_
            show Goes p e below _ (T68.setTop (mkF m 239 #[.val (.int x0), .val (.int x1), .val (.int x2), .val (.int x3), .val (.int x4), .val (.int x5), .val (.int v6_1), .val (.int (if (x3 &&& (1 : Int32)) = (0 : Int32) then (0 : Int32) else (1 : Int32))), .val (.int v8_3), .val (.int lc), .val (.int ta), .val (.int tb_), .val (.int tc), .val (.int td), .val (.ref nb7), .val (.ref nb12), .val (.ref b17), .val (.int (1 : Int32)), .val (.int (1 : Int32))] [(.int (1 : Int32))]))
            refine Goes.via (fun _ kk_ => XS.goto X68.here hx rfl (pc0 := 239) (pc' := 243) rfl (hb hby at_239) (by decide) (by decide) kk_) ?_
            show Goes p e below _ (T68.setTop (mkF m 243 #[.val (.int x0), .val (.int x1), .val (.int x2), .val (.int x3), .val (.int x4), .val (.int x5), .val (.int v6_1), .val (.int (if (x3 &&& (1 : Int32)) = (0 : Int32) then (0 : Int32) else (1 : Int32))), .val (.int v8_3), .val (.int lc), .val (.int ta), .val (.int tb_), .val (.int tc), .val (.int td), .val (.ref nb7), .val (.ref nb12), .val (.ref b17), .val (.int (1 : Int32)), .val (.int (1 : Int32))] [(.int (1 : Int32))]))
            have Ks72 : KS Z own_KL T12.vm (T35.heap) := ((Ks12.ext E17).keep K35 (allS (NoS.obj A17 (hw _ (List.mem_of_getElem? (i := 28) rfl)) (by decide)) all0))
            have hKe : KS Z own_KL T68.vm T68.heap := by rw [e68']; exact Ks72.at_ (s := s) X68.warmed
            have sk73 : _ ≤ (T35.heap).size := (Nat.le_trans (Nat.le_trans (Nat.le_refl _) E17.1) K35.1)
            exact own_wfinN X68 SI12 (by rw [e68']; exact sk73) (fun U_ hv hh_ => by show KS Z own_KL U_.vm U_.heap; rw [hv, hh_]; exact hKe) hx hlk hret (by simp) (hb hby at_243) (by rw [e68']; exact ⟨rfl, N35, K57⟩) (by first | decide | omega | (dsimp only; omega)) (by first | decide | omega | (dsimp only; omega))
          · skip
            refine Goes.via (fun _ kk_ => XS.icmpYes X35.here hx rfl (pc0 := 199) (pc' := 206) rfl (hb hby at_199) rfl (feq hc199).2 (by decide) (by decide) kk_) ?_
            show Goes p e below _ (T35.setTop (mkF m 206 #[.val (.int x0), .val (.int x1), .val (.int x2), .val (.int x3), .val (.int x4), .val (.int x5), .val (.int v6_1), .val (.int (if (x3 &&& (1 : Int32)) = (0 : Int32) then (0 : Int32) else (1 : Int32))), .val (.int v8_3), .val (.int lc), .val (.int ta), .val (.int tb_), .val (.int tc), .val (.int td), .val (.ref nb7), .val (.ref nb12), .val (.ref b17), .unset, .unset] []))
            refine Goes.via (fun _ kk_ => XS.iconst X35.here hx rfl (hb hby at_206) kk_) ?_
            show Goes p e below _ (T35.setTop (mkF m 207 #[.val (.int x0), .val (.int x1), .val (.int x2), .val (.int x3), .val (.int x4), .val (.int x5), .val (.int v6_1), .val (.int (if (x3 &&& (1 : Int32)) = (0 : Int32) then (0 : Int32) else (1 : Int32))), .val (.int v8_3), .val (.int lc), .val (.int ta), .val (.int tb_), .val (.int tc), .val (.int td), .val (.ref nb7), .val (.ref nb12), .val (.ref b17), .unset, .unset] [(.int (0 : Int32))]))
            refine Goes.via (fun _ kk_ => XS.istore X35.here hx rfl (hb hby at_207) rfl (l' := #[.val (.int x0), .val (.int x1), .val (.int x2), .val (.int x3), .val (.int x4), .val (.int x5), .val (.int v6_1), .val (.int (if (x3 &&& (1 : Int32)) = (0 : Int32) then (0 : Int32) else (1 : Int32))), .val (.int v8_3), .val (.int lc), .val (.int ta), .val (.int tb_), .val (.int tc), .val (.int td), .val (.ref nb7), .val (.ref nb12), .val (.ref b17), .val (.int (0 : Int32)), .unset]) rfl kk_) ?_
            show Goes p e below _ (T35.setTop (mkF m 209 #[.val (.int x0), .val (.int x1), .val (.int x2), .val (.int x3), .val (.int x4), .val (.int x5), .val (.int v6_1), .val (.int (if (x3 &&& (1 : Int32)) = (0 : Int32) then (0 : Int32) else (1 : Int32))), .val (.int v8_3), .val (.int lc), .val (.int ta), .val (.int tb_), .val (.int tc), .val (.int td), .val (.ref nb7), .val (.ref nb12), .val (.ref b17), .val (.int (0 : Int32)), .unset] []))
            refine Goes.via (fun _ kk_ => XS.iload X35.here hx rfl (hb hby at_209) rfl  kk_) ?_
            show Goes p e below _ (T35.setTop (mkF m 211 #[.val (.int x0), .val (.int x1), .val (.int x2), .val (.int x3), .val (.int x4), .val (.int x5), .val (.int v6_1), .val (.int (if (x3 &&& (1 : Int32)) = (0 : Int32) then (0 : Int32) else (1 : Int32))), .val (.int v8_3), .val (.int lc), .val (.int ta), .val (.int tb_), .val (.int tc), .val (.int td), .val (.ref nb7), .val (.ref nb12), .val (.ref b17), .val (.int (0 : Int32)), .unset] [(.int v6_1)]))
            have hc211_74 : v6_1 = (0 : Int32) := hk0
            refine Goes.via (fun _ kk_ => XS.ifNo X35.here hx rfl (hb hby at_211) rfl ((if0 _ _).trans (teq hc211_74).2) kk_) ?_
            show Goes p e below _ (T35.setTop (mkF m 214 #[.val (.int x0), .val (.int x1), .val (.int x2), .val (.int x3), .val (.int x4), .val (.int x5), .val (.int v6_1), .val (.int (if (x3 &&& (1 : Int32)) = (0 : Int32) then (0 : Int32) else (1 : Int32))), .val (.int v8_3), .val (.int lc), .val (.int ta), .val (.int tb_), .val (.int tc), .val (.int td), .val (.ref nb7), .val (.ref nb12), .val (.ref b17), .val (.int (0 : Int32)), .unset] []))
            refine Goes.via (fun _ kk_ => XS.iload X35.here hx rfl (hb hby at_214) rfl  kk_) ?_
            show Goes p e below _ (T35.setTop (mkF m 216 #[.val (.int x0), .val (.int x1), .val (.int x2), .val (.int x3), .val (.int x4), .val (.int x5), .val (.int v6_1), .val (.int (if (x3 &&& (1 : Int32)) = (0 : Int32) then (0 : Int32) else (1 : Int32))), .val (.int v8_3), .val (.int lc), .val (.int ta), .val (.int tb_), .val (.int tc), .val (.int td), .val (.ref nb7), .val (.ref nb12), .val (.ref b17), .val (.int (0 : Int32)), .unset] [(.int (0 : Int32))]))
            have hc216_75 : (0 : Int32) = (0 : Int32) := (by decide)
            refine Goes.via (fun _ kk_ => XS.ifYes X35.here hx rfl (pc0 := 216) (pc' := 223) rfl (hb hby at_216) rfl ((if0 _ _).trans (teq hc216_75).1) (by decide) (by decide) kk_) ?_
            show Goes p e below _ (T35.setTop (mkF m 223 #[.val (.int x0), .val (.int x1), .val (.int x2), .val (.int x3), .val (.int x4), .val (.int x5), .val (.int v6_1), .val (.int (if (x3 &&& (1 : Int32)) = (0 : Int32) then (0 : Int32) else (1 : Int32))), .val (.int v8_3), .val (.int lc), .val (.int ta), .val (.int tb_), .val (.int tc), .val (.int td), .val (.ref nb7), .val (.ref nb12), .val (.ref b17), .val (.int (0 : Int32)), .unset] []))
            refine Goes.via (fun _ kk_ => XS.iconst X35.here hx rfl (hb hby at_223) kk_) ?_
            show Goes p e below _ (T35.setTop (mkF m 224 #[.val (.int x0), .val (.int x1), .val (.int x2), .val (.int x3), .val (.int x4), .val (.int x5), .val (.int v6_1), .val (.int (if (x3 &&& (1 : Int32)) = (0 : Int32) then (0 : Int32) else (1 : Int32))), .val (.int v8_3), .val (.int lc), .val (.int ta), .val (.int tb_), .val (.int tc), .val (.int td), .val (.ref nb7), .val (.ref nb12), .val (.ref b17), .val (.int (0 : Int32)), .unset] [(.int (0 : Int32))]))
            refine Goes.via (fun _ kk_ => XS.istore X35.here hx rfl (hb hby at_224) rfl (l' := #[.val (.int x0), .val (.int x1), .val (.int x2), .val (.int x3), .val (.int x4), .val (.int x5), .val (.int v6_1), .val (.int (if (x3 &&& (1 : Int32)) = (0 : Int32) then (0 : Int32) else (1 : Int32))), .val (.int v8_3), .val (.int lc), .val (.int ta), .val (.int tb_), .val (.int tc), .val (.int td), .val (.ref nb7), .val (.ref nb12), .val (.ref b17), .val (.int (0 : Int32)), .val (.int (0 : Int32))]) rfl kk_) ?_
            show Goes p e below _ (T35.setTop (mkF m 226 #[.val (.int x0), .val (.int x1), .val (.int x2), .val (.int x3), .val (.int x4), .val (.int x5), .val (.int v6_1), .val (.int (if (x3 &&& (1 : Int32)) = (0 : Int32) then (0 : Int32) else (1 : Int32))), .val (.int v8_3), .val (.int lc), .val (.int ta), .val (.int tb_), .val (.int tc), .val (.int td), .val (.ref nb7), .val (.ref nb12), .val (.ref b17), .val (.int (0 : Int32)), .val (.int (0 : Int32))] []))
            refine Goes.via (fun _ kk_ => XS.aload X35.here hx rfl (hb hby at_226) rfl rfl  kk_) ?_
            show Goes p e below _ (T35.setTop (mkF m 228 #[.val (.int x0), .val (.int x1), .val (.int x2), .val (.int x3), .val (.int x4), .val (.int x5), .val (.int v6_1), .val (.int (if (x3 &&& (1 : Int32)) = (0 : Int32) then (0 : Int32) else (1 : Int32))), .val (.int v8_3), .val (.int lc), .val (.int ta), .val (.int tb_), .val (.int tc), .val (.int td), .val (.ref nb7), .val (.ref nb12), .val (.ref b17), .val (.int (0 : Int32)), .val (.int (0 : Int32))] [(.ref b17)]))
            refine Goes.via (fun _ kk_ => XS.aload X35.here hx rfl (hb hby at_228) rfl rfl  kk_) ?_
            show Goes p e below _ (T35.setTop (mkF m 230 #[.val (.int x0), .val (.int x1), .val (.int x2), .val (.int x3), .val (.int x4), .val (.int x5), .val (.int v6_1), .val (.int (if (x3 &&& (1 : Int32)) = (0 : Int32) then (0 : Int32) else (1 : Int32))), .val (.int v8_3), .val (.int lc), .val (.int ta), .val (.int tb_), .val (.int tc), .val (.int td), .val (.ref nb7), .val (.ref nb12), .val (.ref b17), .val (.int (0 : Int32)), .val (.int (0 : Int32))] [(.ref nb12), (.ref b17)]))
            have K76 : Keep h0 T35.heap [] := (K25.trans K35 (allS (Or.inr sz_b17) all0))
            have f77 : Sta Z T35.heap "com/example/map_rewriter/maprewriter/core/SExpression$Kind" "SYMBOL" "Lcom/example/map_rewriter/maprewriter/core/SExpression$Kind;" (.ref A0) := own_sta_keep OK0 K76
            have f78 : Exa Z T35.heap nb7 "java/lang/String" := ((f18.ext E17).keep K35)
            have f79 : Fld Z T35.heap nb7 "java/lang/String" "coder" "B" (.int (0 : Int32)) := (((u7_2.keep K12 nin0).ext E17).keep K35 (ninS ne19 nin0))
            have f80 : Fld Z T35.heap nb7 "java/lang/String" "value" "[B" (.ref tb7) := (((u7_3.keep K12 nin0).ext E17).keep K35 (ninS ne19 nin0))
            have f81 : Arv Z T35.heap tb7 tk7 .byte (own_n v8_3 ta tb_) (own_v v8_3 ta tb_) (.int 0) := ((f20.ext E17).keep K35 (ninS ne21 nin0))
            have f82 : Exa Z T35.heap nb12 "java/lang/String" := ((u12_1.ext E17).keep K35)
            have f83 : Fld Z T35.heap nb12 "java/lang/String" "coder" "B" (.int (0 : Int32)) := ((u12_2.ext E17).keep K35 (ninS ne22 nin0))
            have f84 : Fld Z T35.heap nb12 "java/lang/String" "value" "[B" (.ref tb12) := ((u12_3.ext E17).keep K35 (ninS ne22 nin0))
            have f85 : Arv Z T35.heap tb12 tk12 .byte (own_n lc tc td) (own_v lc tc td) (.int 0) := ((u12_4.ext E17).keep K35 (ninS ne23 nin0))
            have f86 : Sta Z T35.heap "java/lang/String" "COMPACT_STRINGS" "Z" (.int cS) := own_sta_keep OS K76
            have z88 : h0.size ≤ (T35.heap).size := (Nat.le_trans z34 K35.1)
            obtain ⟨cq87, kq87, q87a, q87b, q87c⟩ := isOf hZ rfl u35_0
            obtain ⟨_, _, ⟨T87, L87, k87, n87⟩, -, X87, ⟨Lc87, hQ87, l87, y87, z87⟩, st87⟩ := X35.virtualBack hx (y := (⟨"com/example/map_rewriter/maprewriter/core/SExpression$Atom", "isSymbol", "(Ljava/lang/String;)Z"⟩ : MethodName)) (z := (⟨"com/example/map_rewriter/maprewriter/core/SExpression$Atom", "isSymbol", "(Ljava/lang/String;)Z"⟩ : MethodName)) hown (mvT hZ (hw _ (List.mem_of_getElem? (i := 55) rfl))) (mvT hZ (hw _ (List.mem_of_getElem? (i := 56) rfl))) (notFace_of_selects (args := #[]) (mvT hZ (hw _ (List.mem_of_getElem? (i := 58) rfl)))) (mvT hZ (hw _ (List.mem_of_getElem? (i := 58) rfl))) (mvT hZ (hw _ (List.mem_of_getElem? (i := 57) rfl))) (by decide) (backOf (W := 0) (rm8 l Z a0 hw [] b17 nb12 A0 nb7 cS tb7 tk7 v8_3 ta tb_ tb12 tk12 lc tc td T35.heap n0 (Nat.le_trans Z0 z88) u35_1 u35_2 f77 f78 f79 f80 f81 f82 f83 f84 f85 f86 (by first | assumption | rfl | decide | omega | (simp; done)) ha hbb hc hd) hZ (hw _ (List.mem_of_getElem? (i := 59) rfl)) (hw _ (List.mem_of_getElem? (i := 29) rfl)) (by decide) (by decide)) q87a q87c (g := (mkF m 230 #[.val (.int x0), .val (.int x1), .val (.int x2), .val (.int x3), .val (.int x4), .val (.int x5), .val (.int v6_1), .val (.int (if (x3 &&& (1 : Int32)) = (0 : Int32) then (0 : Int32) else (1 : Int32))), .val (.int v8_3), .val (.int lc), .val (.int ta), .val (.int tb_), .val (.int tc), .val (.int td), .val (.ref nb7), .val (.ref nb12), .val (.ref b17), .val (.int (0 : Int32)), .val (.int (0 : Int32))] [(.ref nb12), (.ref b17)])) rfl (by rw [hml]; rfl) (Steps.refl _) (argsL := [(.ref nb12)]) (rest := []) (lenOf pd_7 rfl) rfl (by show 2 * 0 + _ ≤ _; exact Nat.le_of_eq rfl) (hb hby at_230) (fun _ _ => ⟨rfl, rfl, (by first | decide | omega | (dsimp only; omega) : 9 + 0 ≤ _), (by first | decide | omega | (dsimp only; omega) : 21 + 0 ≤ _)⟩)
            dsimp only [Pt.U, Pt.locs, Pt.cells, Pt.slots] at X87 l87 y87 z87 st87 hQ87
            subst l87 y87 z87
            obtain ⟨rfl, rfl, e87⟩ := hQ87
            first | rw [List.append_nil] at X87 | skip
            refine Goes.tr st87 ?_
            have e87' : T87.heap = T35.heap := e87
            have ne89 : nb7 ≠ tb12 := f78.neArv f85 (hw _ (List.mem_of_getElem? (i := 6) rfl))
            show Goes p e below _ (T87.setTop (mkF m 233 #[.val (.int x0), .val (.int x1), .val (.int x2), .val (.int x3), .val (.int x4), .val (.int x5), .val (.int v6_1), .val (.int (if (x3 &&& (1 : Int32)) = (0 : Int32) then (0 : Int32) else (1 : Int32))), .val (.int v8_3), .val (.int lc), .val (.int ta), .val (.int tb_), .val (.int tc), .val (.int td), .val (.ref nb7), .val (.ref nb12), .val (.ref b17), .val (.int (0 : Int32)), .val (.int (0 : Int32))] [(.int (if own_cs v8_3 ta tb_ = own_cs lc tc td then (1 : Int32) else (0 : Int32)))]))
            refine Goes.via (fun _ kk_ => XS.iload X87.here hx rfl (hb hby at_233) rfl  kk_) ?_
            show Goes p e below _ (T87.setTop (mkF m 235 #[.val (.int x0), .val (.int x1), .val (.int x2), .val (.int x3), .val (.int x4), .val (.int x5), .val (.int v6_1), .val (.int (if (x3 &&& (1 : Int32)) = (0 : Int32) then (0 : Int32) else (1 : Int32))), .val (.int v8_3), .val (.int lc), .val (.int ta), .val (.int tb_), .val (.int tc), .val (.int td), .val (.ref nb7), .val (.ref nb12), .val (.ref b17), .val (.int (0 : Int32)), .val (.int (0 : Int32))] [(.int (0 : Int32)), (.int (if own_cs v8_3 ta tb_ = own_cs lc tc td then (1 : Int32) else (0 : Int32)))]))
            have hc235_90 : (if own_cs v8_3 ta tb_ = own_cs lc tc td then (1 : Int32) else (0 : Int32)) = (0 : Int32) := (if_neg (fun q => ((own_same hlt hlc ha hbb hc hd).mp q).2.2.elim hc192 hc199))
            refine Goes.via (fun _ kk_ => XS.icmpNo X87.here hx rfl (hb hby at_235) rfl (teq hc235_90).2 kk_) ?_
            show Goes p e below _ (T87.setTop (mkF m 238 #[.val (.int x0), .val (.int x1), .val (.int x2), .val (.int x3), .val (.int x4), .val (.int x5), .val (.int v6_1), .val (.int (if (x3 &&& (1 : Int32)) = (0 : Int32) then (0 : Int32) else (1 : Int32))), .val (.int v8_3), .val (.int lc), .val (.int ta), .val (.int tb_), .val (.int tc), .val (.int td), .val (.ref nb7), .val (.ref nb12), .val (.ref b17), .val (.int (0 : Int32)), .val (.int (0 : Int32))] []))
            refine Goes.via (fun _ kk_ => XS.iconst X87.here hx rfl (hb hby at_238) kk_) ?_
            show Goes p e below _ (T87.setTop (mkF m 239 #[.val (.int x0), .val (.int x1), .val (.int x2), .val (.int x3), .val (.int x4), .val (.int x5), .val (.int v6_1), .val (.int (if (x3 &&& (1 : Int32)) = (0 : Int32) then (0 : Int32) else (1 : Int32))), .val (.int v8_3), .val (.int lc), .val (.int ta), .val (.int tb_), .val (.int tc), .val (.int td), .val (.ref nb7), .val (.ref nb12), .val (.ref b17), .val (.int (0 : Int32)), .val (.int (0 : Int32))] [(.int (1 : Int32))]))
            refine Goes.via (fun _ kk_ => XS.goto X87.here hx rfl (pc0 := 239) (pc' := 243) rfl (hb hby at_239) (by decide) (by decide) kk_) ?_
            show Goes p e below _ (T87.setTop (mkF m 243 #[.val (.int x0), .val (.int x1), .val (.int x2), .val (.int x3), .val (.int x4), .val (.int x5), .val (.int v6_1), .val (.int (if (x3 &&& (1 : Int32)) = (0 : Int32) then (0 : Int32) else (1 : Int32))), .val (.int v8_3), .val (.int lc), .val (.int ta), .val (.int tb_), .val (.int tc), .val (.int td), .val (.ref nb7), .val (.ref nb12), .val (.ref b17), .val (.int (0 : Int32)), .val (.int (0 : Int32))] [(.int (1 : Int32))]))
            have Ks91 : KS Z own_KL T12.vm (T35.heap) := ((Ks12.ext E17).keep K35 (allS (NoS.obj A17 (hw _ (List.mem_of_getElem? (i := 28) rfl)) (by decide)) all0))
            have hKe : KS Z own_KL T87.vm T87.heap := by rw [e87']; exact Ks91.at_ (s := s) X87.warmed
            have sk92 : _ ≤ (T35.heap).size := (Nat.le_trans (Nat.le_trans (Nat.le_refl _) E17.1) K35.1)
            exact own_wfinN X87 SI12 (by rw [e87']; exact sk92) (fun U_ hv hh_ => by show KS Z own_KL U_.vm U_.heap; rw [hv, hh_]; exact hKe) hx hlk hret (by simp) (hb hby at_243) (by rw [e87']; exact ⟨rfl, N35, K76⟩) (by first | decide | omega | (dsimp only; omega)) (by first | decide | omega | (dsimp only; omega))
      · skip
        refine Goes.via (fun _ kk_ => XS.icmpNo X35.here hx rfl (hb hby at_179) rfl (flt hc179).1 kk_) ?_
        show Goes p e below _ (T35.setTop (mkF m 182 #[.val (.int x0), .val (.int x1), .val (.int x2), .val (.int x3), .val (.int x4), .val (.int x5), .val (.int v6_1), .val (.int (if (x3 &&& (1 : Int32)) = (0 : Int32) then (0 : Int32) else (1 : Int32))), .val (.int v8_3), .val (.int lc), .val (.int ta), .val (.int tb_), .val (.int tc), .val (.int td), .val (.ref nb7), .val (.ref nb12), .val (.ref b17), .unset, .unset] []))
        refine Goes.via (fun _ kk_ => XS.iload X35.here hx rfl (hb hby at_182) rfl  kk_) ?_
        show Goes p e below _ (T35.setTop (mkF m 184 #[.val (.int x0), .val (.int x1), .val (.int x2), .val (.int x3), .val (.int x4), .val (.int x5), .val (.int v6_1), .val (.int (if (x3 &&& (1 : Int32)) = (0 : Int32) then (0 : Int32) else (1 : Int32))), .val (.int v8_3), .val (.int lc), .val (.int ta), .val (.int tb_), .val (.int tc), .val (.int td), .val (.ref nb7), .val (.ref nb12), .val (.ref b17), .unset, .unset] [(.int ta)]))
        refine Goes.via (fun _ kk_ => XS.iload X35.here hx rfl (hb hby at_184) rfl  kk_) ?_
        show Goes p e below _ (T35.setTop (mkF m 186 #[.val (.int x0), .val (.int x1), .val (.int x2), .val (.int x3), .val (.int x4), .val (.int x5), .val (.int v6_1), .val (.int (if (x3 &&& (1 : Int32)) = (0 : Int32) then (0 : Int32) else (1 : Int32))), .val (.int v8_3), .val (.int lc), .val (.int ta), .val (.int tb_), .val (.int tc), .val (.int td), .val (.ref nb7), .val (.ref nb12), .val (.ref b17), .unset, .unset] [(.int tc), (.int ta)]))
        by_cases hc186 : ta = tc
        · skip
          refine Goes.via (fun _ kk_ => XS.icmpNo X35.here hx rfl (hb hby at_186) rfl (teq hc186).2 kk_) ?_
          show Goes p e below _ (T35.setTop (mkF m 189 #[.val (.int x0), .val (.int x1), .val (.int x2), .val (.int x3), .val (.int x4), .val (.int x5), .val (.int v6_1), .val (.int (if (x3 &&& (1 : Int32)) = (0 : Int32) then (0 : Int32) else (1 : Int32))), .val (.int v8_3), .val (.int lc), .val (.int ta), .val (.int tb_), .val (.int tc), .val (.int td), .val (.ref nb7), .val (.ref nb12), .val (.ref b17), .unset, .unset] []))
          refine Goes.via (fun _ kk_ => XS.iload X35.here hx rfl (hb hby at_189) rfl  kk_) ?_
          show Goes p e below _ (T35.setTop (mkF m 191 #[.val (.int x0), .val (.int x1), .val (.int x2), .val (.int x3), .val (.int x4), .val (.int x5), .val (.int v6_1), .val (.int (if (x3 &&& (1 : Int32)) = (0 : Int32) then (0 : Int32) else (1 : Int32))), .val (.int v8_3), .val (.int lc), .val (.int ta), .val (.int tb_), .val (.int tc), .val (.int td), .val (.ref nb7), .val (.ref nb12), .val (.ref b17), .unset, .unset] [(.int v8_3)]))
          refine Goes.via (fun _ kk_ => XS.iconst X35.here hx rfl (hb hby at_191) kk_) ?_
          show Goes p e below _ (T35.setTop (mkF m 192 #[.val (.int x0), .val (.int x1), .val (.int x2), .val (.int x3), .val (.int x4), .val (.int x5), .val (.int v6_1), .val (.int (if (x3 &&& (1 : Int32)) = (0 : Int32) then (0 : Int32) else (1 : Int32))), .val (.int v8_3), .val (.int lc), .val (.int ta), .val (.int tb_), .val (.int tc), .val (.int td), .val (.ref nb7), .val (.ref nb12), .val (.ref b17), .unset, .unset] [(.int (2 : Int32)), (.int v8_3)]))
          by_cases hc192 : v8_3 < (2 : Int32)
          · skip
            refine Goes.via (fun _ kk_ => XS.icmpYes X35.here hx rfl (pc0 := 192) (pc' := 202) rfl (hb hby at_192) rfl (tlt hc192).1 (by decide) (by decide) kk_) ?_
            show Goes p e below _ (T35.setTop (mkF m 202 #[.val (.int x0), .val (.int x1), .val (.int x2), .val (.int x3), .val (.int x4), .val (.int x5), .val (.int v6_1), .val (.int (if (x3 &&& (1 : Int32)) = (0 : Int32) then (0 : Int32) else (1 : Int32))), .val (.int v8_3), .val (.int lc), .val (.int ta), .val (.int tb_), .val (.int tc), .val (.int td), .val (.ref nb7), .val (.ref nb12), .val (.ref b17), .unset, .unset] []))
            refine Goes.via (fun _ kk_ => XS.iconst X35.here hx rfl (hb hby at_202) kk_) ?_
            show Goes p e below _ (T35.setTop (mkF m 203 #[.val (.int x0), .val (.int x1), .val (.int x2), .val (.int x3), .val (.int x4), .val (.int x5), .val (.int v6_1), .val (.int (if (x3 &&& (1 : Int32)) = (0 : Int32) then (0 : Int32) else (1 : Int32))), .val (.int v8_3), .val (.int lc), .val (.int ta), .val (.int tb_), .val (.int tc), .val (.int td), .val (.ref nb7), .val (.ref nb12), .val (.ref b17), .unset, .unset] [(.int (1 : Int32))]))
            refine Goes.via (fun _ kk_ => XS.goto X35.here hx rfl (pc0 := 203) (pc' := 207) rfl (hb hby at_203) (by decide) (by decide) kk_) ?_
            show Goes p e below _ (T35.setTop (mkF m 207 #[.val (.int x0), .val (.int x1), .val (.int x2), .val (.int x3), .val (.int x4), .val (.int x5), .val (.int v6_1), .val (.int (if (x3 &&& (1 : Int32)) = (0 : Int32) then (0 : Int32) else (1 : Int32))), .val (.int v8_3), .val (.int lc), .val (.int ta), .val (.int tb_), .val (.int tc), .val (.int td), .val (.ref nb7), .val (.ref nb12), .val (.ref b17), .unset, .unset] [(.int (1 : Int32))]))
            refine Goes.via (fun _ kk_ => XS.istore X35.here hx rfl (hb hby at_207) rfl (l' := #[.val (.int x0), .val (.int x1), .val (.int x2), .val (.int x3), .val (.int x4), .val (.int x5), .val (.int v6_1), .val (.int (if (x3 &&& (1 : Int32)) = (0 : Int32) then (0 : Int32) else (1 : Int32))), .val (.int v8_3), .val (.int lc), .val (.int ta), .val (.int tb_), .val (.int tc), .val (.int td), .val (.ref nb7), .val (.ref nb12), .val (.ref b17), .val (.int (1 : Int32)), .unset]) rfl kk_) ?_
            show Goes p e below _ (T35.setTop (mkF m 209 #[.val (.int x0), .val (.int x1), .val (.int x2), .val (.int x3), .val (.int x4), .val (.int x5), .val (.int v6_1), .val (.int (if (x3 &&& (1 : Int32)) = (0 : Int32) then (0 : Int32) else (1 : Int32))), .val (.int v8_3), .val (.int lc), .val (.int ta), .val (.int tb_), .val (.int tc), .val (.int td), .val (.ref nb7), .val (.ref nb12), .val (.ref b17), .val (.int (1 : Int32)), .unset] []))
            refine Goes.via (fun _ kk_ => XS.iload X35.here hx rfl (hb hby at_209) rfl  kk_) ?_
            show Goes p e below _ (T35.setTop (mkF m 211 #[.val (.int x0), .val (.int x1), .val (.int x2), .val (.int x3), .val (.int x4), .val (.int x5), .val (.int v6_1), .val (.int (if (x3 &&& (1 : Int32)) = (0 : Int32) then (0 : Int32) else (1 : Int32))), .val (.int v8_3), .val (.int lc), .val (.int ta), .val (.int tb_), .val (.int tc), .val (.int td), .val (.ref nb7), .val (.ref nb12), .val (.ref b17), .val (.int (1 : Int32)), .unset] [(.int v6_1)]))
            have hc211_93 : v6_1 = (0 : Int32) := hk0
            refine Goes.via (fun _ kk_ => XS.ifNo X35.here hx rfl (hb hby at_211) rfl ((if0 _ _).trans (teq hc211_93).2) kk_) ?_
            show Goes p e below _ (T35.setTop (mkF m 214 #[.val (.int x0), .val (.int x1), .val (.int x2), .val (.int x3), .val (.int x4), .val (.int x5), .val (.int v6_1), .val (.int (if (x3 &&& (1 : Int32)) = (0 : Int32) then (0 : Int32) else (1 : Int32))), .val (.int v8_3), .val (.int lc), .val (.int ta), .val (.int tb_), .val (.int tc), .val (.int td), .val (.ref nb7), .val (.ref nb12), .val (.ref b17), .val (.int (1 : Int32)), .unset] []))
            refine Goes.via (fun _ kk_ => XS.iload X35.here hx rfl (hb hby at_214) rfl  kk_) ?_
            show Goes p e below _ (T35.setTop (mkF m 216 #[.val (.int x0), .val (.int x1), .val (.int x2), .val (.int x3), .val (.int x4), .val (.int x5), .val (.int v6_1), .val (.int (if (x3 &&& (1 : Int32)) = (0 : Int32) then (0 : Int32) else (1 : Int32))), .val (.int v8_3), .val (.int lc), .val (.int ta), .val (.int tb_), .val (.int tc), .val (.int td), .val (.ref nb7), .val (.ref nb12), .val (.ref b17), .val (.int (1 : Int32)), .unset] [(.int (1 : Int32))]))
            have hc216_94 : ¬ ((1 : Int32) = (0 : Int32)) := (by decide)
            refine Goes.via (fun _ kk_ => XS.ifNo X35.here hx rfl (hb hby at_216) rfl ((if0 _ _).trans (feq hc216_94).1) kk_) ?_
            show Goes p e below _ (T35.setTop (mkF m 219 #[.val (.int x0), .val (.int x1), .val (.int x2), .val (.int x3), .val (.int x4), .val (.int x5), .val (.int v6_1), .val (.int (if (x3 &&& (1 : Int32)) = (0 : Int32) then (0 : Int32) else (1 : Int32))), .val (.int v8_3), .val (.int lc), .val (.int ta), .val (.int tb_), .val (.int tc), .val (.int td), .val (.ref nb7), .val (.ref nb12), .val (.ref b17), .val (.int (1 : Int32)), .unset] []))
            refine Goes.via (fun _ kk_ => XS.iconst X35.here hx rfl (hb hby at_219) kk_) ?_
            show Goes p e below _ (T35.setTop (mkF m 220 #[.val (.int x0), .val (.int x1), .val (.int x2), .val (.int x3), .val (.int x4), .val (.int x5), .val (.int v6_1), .val (.int (if (x3 &&& (1 : Int32)) = (0 : Int32) then (0 : Int32) else (1 : Int32))), .val (.int v8_3), .val (.int lc), .val (.int ta), .val (.int tb_), .val (.int tc), .val (.int td), .val (.ref nb7), .val (.ref nb12), .val (.ref b17), .val (.int (1 : Int32)), .unset] [(.int (1 : Int32))]))
            refine Goes.via (fun _ kk_ => XS.goto X35.here hx rfl (pc0 := 220) (pc' := 224) rfl (hb hby at_220) (by decide) (by decide) kk_) ?_
            show Goes p e below _ (T35.setTop (mkF m 224 #[.val (.int x0), .val (.int x1), .val (.int x2), .val (.int x3), .val (.int x4), .val (.int x5), .val (.int v6_1), .val (.int (if (x3 &&& (1 : Int32)) = (0 : Int32) then (0 : Int32) else (1 : Int32))), .val (.int v8_3), .val (.int lc), .val (.int ta), .val (.int tb_), .val (.int tc), .val (.int td), .val (.ref nb7), .val (.ref nb12), .val (.ref b17), .val (.int (1 : Int32)), .unset] [(.int (1 : Int32))]))
            refine Goes.via (fun _ kk_ => XS.istore X35.here hx rfl (hb hby at_224) rfl (l' := #[.val (.int x0), .val (.int x1), .val (.int x2), .val (.int x3), .val (.int x4), .val (.int x5), .val (.int v6_1), .val (.int (if (x3 &&& (1 : Int32)) = (0 : Int32) then (0 : Int32) else (1 : Int32))), .val (.int v8_3), .val (.int lc), .val (.int ta), .val (.int tb_), .val (.int tc), .val (.int td), .val (.ref nb7), .val (.ref nb12), .val (.ref b17), .val (.int (1 : Int32)), .val (.int (1 : Int32))]) rfl kk_) ?_
            show Goes p e below _ (T35.setTop (mkF m 226 #[.val (.int x0), .val (.int x1), .val (.int x2), .val (.int x3), .val (.int x4), .val (.int x5), .val (.int v6_1), .val (.int (if (x3 &&& (1 : Int32)) = (0 : Int32) then (0 : Int32) else (1 : Int32))), .val (.int v8_3), .val (.int lc), .val (.int ta), .val (.int tb_), .val (.int tc), .val (.int td), .val (.ref nb7), .val (.ref nb12), .val (.ref b17), .val (.int (1 : Int32)), .val (.int (1 : Int32))] []))
            refine Goes.via (fun _ kk_ => XS.aload X35.here hx rfl (hb hby at_226) rfl rfl  kk_) ?_
            show Goes p e below _ (T35.setTop (mkF m 228 #[.val (.int x0), .val (.int x1), .val (.int x2), .val (.int x3), .val (.int x4), .val (.int x5), .val (.int v6_1), .val (.int (if (x3 &&& (1 : Int32)) = (0 : Int32) then (0 : Int32) else (1 : Int32))), .val (.int v8_3), .val (.int lc), .val (.int ta), .val (.int tb_), .val (.int tc), .val (.int td), .val (.ref nb7), .val (.ref nb12), .val (.ref b17), .val (.int (1 : Int32)), .val (.int (1 : Int32))] [(.ref b17)]))
            refine Goes.via (fun _ kk_ => XS.aload X35.here hx rfl (hb hby at_228) rfl rfl  kk_) ?_
            show Goes p e below _ (T35.setTop (mkF m 230 #[.val (.int x0), .val (.int x1), .val (.int x2), .val (.int x3), .val (.int x4), .val (.int x5), .val (.int v6_1), .val (.int (if (x3 &&& (1 : Int32)) = (0 : Int32) then (0 : Int32) else (1 : Int32))), .val (.int v8_3), .val (.int lc), .val (.int ta), .val (.int tb_), .val (.int tc), .val (.int td), .val (.ref nb7), .val (.ref nb12), .val (.ref b17), .val (.int (1 : Int32)), .val (.int (1 : Int32))] [(.ref nb12), (.ref b17)]))
            have K95 : Keep h0 T35.heap [] := (K25.trans K35 (allS (Or.inr sz_b17) all0))
            have f96 : Sta Z T35.heap "com/example/map_rewriter/maprewriter/core/SExpression$Kind" "SYMBOL" "Lcom/example/map_rewriter/maprewriter/core/SExpression$Kind;" (.ref A0) := own_sta_keep OK0 K95
            have f97 : Exa Z T35.heap nb7 "java/lang/String" := ((f18.ext E17).keep K35)
            have f98 : Fld Z T35.heap nb7 "java/lang/String" "coder" "B" (.int (0 : Int32)) := (((u7_2.keep K12 nin0).ext E17).keep K35 (ninS ne19 nin0))
            have f99 : Fld Z T35.heap nb7 "java/lang/String" "value" "[B" (.ref tb7) := (((u7_3.keep K12 nin0).ext E17).keep K35 (ninS ne19 nin0))
            have f100 : Arv Z T35.heap tb7 tk7 .byte (own_n v8_3 ta tb_) (own_v v8_3 ta tb_) (.int 0) := ((f20.ext E17).keep K35 (ninS ne21 nin0))
            have f101 : Exa Z T35.heap nb12 "java/lang/String" := ((u12_1.ext E17).keep K35)
            have f102 : Fld Z T35.heap nb12 "java/lang/String" "coder" "B" (.int (0 : Int32)) := ((u12_2.ext E17).keep K35 (ninS ne22 nin0))
            have f103 : Fld Z T35.heap nb12 "java/lang/String" "value" "[B" (.ref tb12) := ((u12_3.ext E17).keep K35 (ninS ne22 nin0))
            have f104 : Arv Z T35.heap tb12 tk12 .byte (own_n lc tc td) (own_v lc tc td) (.int 0) := ((u12_4.ext E17).keep K35 (ninS ne23 nin0))
            have f105 : Sta Z T35.heap "java/lang/String" "COMPACT_STRINGS" "Z" (.int cS) := own_sta_keep OS K95
            have z107 : h0.size ≤ (T35.heap).size := (Nat.le_trans z34 K35.1)
            obtain ⟨cq106, kq106, q106a, q106b, q106c⟩ := isOf hZ rfl u35_0
            obtain ⟨_, _, ⟨T106, L106, k106, n106⟩, -, X106, ⟨Lc106, hQ106, l106, y106, z106⟩, st106⟩ := X35.virtualBack hx (y := (⟨"com/example/map_rewriter/maprewriter/core/SExpression$Atom", "isSymbol", "(Ljava/lang/String;)Z"⟩ : MethodName)) (z := (⟨"com/example/map_rewriter/maprewriter/core/SExpression$Atom", "isSymbol", "(Ljava/lang/String;)Z"⟩ : MethodName)) hown (mvT hZ (hw _ (List.mem_of_getElem? (i := 55) rfl))) (mvT hZ (hw _ (List.mem_of_getElem? (i := 56) rfl))) (notFace_of_selects (args := #[]) (mvT hZ (hw _ (List.mem_of_getElem? (i := 58) rfl)))) (mvT hZ (hw _ (List.mem_of_getElem? (i := 58) rfl))) (mvT hZ (hw _ (List.mem_of_getElem? (i := 57) rfl))) (by decide) (backOf (W := 0) (rm8 l Z a0 hw [] b17 nb12 A0 nb7 cS tb7 tk7 v8_3 ta tb_ tb12 tk12 lc tc td T35.heap n0 (Nat.le_trans Z0 z107) u35_1 u35_2 f96 f97 f98 f99 f100 f101 f102 f103 f104 f105 (by first | assumption | rfl | decide | omega | (simp; done)) ha hbb hc hd) hZ (hw _ (List.mem_of_getElem? (i := 59) rfl)) (hw _ (List.mem_of_getElem? (i := 29) rfl)) (by decide) (by decide)) q106a q106c (g := (mkF m 230 #[.val (.int x0), .val (.int x1), .val (.int x2), .val (.int x3), .val (.int x4), .val (.int x5), .val (.int v6_1), .val (.int (if (x3 &&& (1 : Int32)) = (0 : Int32) then (0 : Int32) else (1 : Int32))), .val (.int v8_3), .val (.int lc), .val (.int ta), .val (.int tb_), .val (.int tc), .val (.int td), .val (.ref nb7), .val (.ref nb12), .val (.ref b17), .val (.int (1 : Int32)), .val (.int (1 : Int32))] [(.ref nb12), (.ref b17)])) rfl (by rw [hml]; rfl) (Steps.refl _) (argsL := [(.ref nb12)]) (rest := []) (lenOf pd_7 rfl) rfl (by show 2 * 0 + _ ≤ _; exact Nat.le_of_eq rfl) (hb hby at_230) (fun _ _ => ⟨rfl, rfl, (by first | decide | omega | (dsimp only; omega) : 9 + 0 ≤ _), (by first | decide | omega | (dsimp only; omega) : 21 + 0 ≤ _)⟩)
            dsimp only [Pt.U, Pt.locs, Pt.cells, Pt.slots] at X106 l106 y106 z106 st106 hQ106
            subst l106 y106 z106
            obtain ⟨rfl, rfl, e106⟩ := hQ106
            first | rw [List.append_nil] at X106 | skip
            refine Goes.tr st106 ?_
            have e106' : T106.heap = T35.heap := e106
            have ne108 : nb7 ≠ tb12 := f97.neArv f104 (hw _ (List.mem_of_getElem? (i := 6) rfl))
            show Goes p e below _ (T106.setTop (mkF m 233 #[.val (.int x0), .val (.int x1), .val (.int x2), .val (.int x3), .val (.int x4), .val (.int x5), .val (.int v6_1), .val (.int (if (x3 &&& (1 : Int32)) = (0 : Int32) then (0 : Int32) else (1 : Int32))), .val (.int v8_3), .val (.int lc), .val (.int ta), .val (.int tb_), .val (.int tc), .val (.int td), .val (.ref nb7), .val (.ref nb12), .val (.ref b17), .val (.int (1 : Int32)), .val (.int (1 : Int32))] [(.int (if own_cs v8_3 ta tb_ = own_cs lc tc td then (1 : Int32) else (0 : Int32)))]))
            refine Goes.via (fun _ kk_ => XS.iload X106.here hx rfl (hb hby at_233) rfl  kk_) ?_
            show Goes p e below _ (T106.setTop (mkF m 235 #[.val (.int x0), .val (.int x1), .val (.int x2), .val (.int x3), .val (.int x4), .val (.int x5), .val (.int v6_1), .val (.int (if (x3 &&& (1 : Int32)) = (0 : Int32) then (0 : Int32) else (1 : Int32))), .val (.int v8_3), .val (.int lc), .val (.int ta), .val (.int tb_), .val (.int tc), .val (.int td), .val (.ref nb7), .val (.ref nb12), .val (.ref b17), .val (.int (1 : Int32)), .val (.int (1 : Int32))] [(.int (1 : Int32)), (.int (if own_cs v8_3 ta tb_ = own_cs lc tc td then (1 : Int32) else (0 : Int32)))]))
            have hc235_109 : (if own_cs v8_3 ta tb_ = own_cs lc tc td then (1 : Int32) else (0 : Int32)) = (1 : Int32) := (if_pos ((own_same hlt hlc ha hbb hc hd).mpr ⟨hc173, Or.inr hc186, Or.inl hc192⟩))
            refine Goes.via (fun _ kk_ => XS.icmpNo X106.here hx rfl (hb hby at_235) rfl (teq hc235_109).2 kk_) ?_
            show Goes p e below _ (T106.setTop (mkF m 238 #[.val (.int x0), .val (.int x1), .val (.int x2), .val (.int x3), .val (.int x4), .val (.int x5), .val (.int v6_1), .val (.int (if (x3 &&& (1 : Int32)) = (0 : Int32) then (0 : Int32) else (1 : Int32))), .val (.int v8_3), .val (.int lc), .val (.int ta), .val (.int tb_), .val (.int tc), .val (.int td), .val (.ref nb7), .val (.ref nb12), .val (.ref b17), .val (.int (1 : Int32)), .val (.int (1 : Int32))] []))
            refine Goes.via (fun _ kk_ => XS.iconst X106.here hx rfl (hb hby at_238) kk_) ?_
            show Goes p e below _ (T106.setTop (mkF m 239 #[.val (.int x0), .val (.int x1), .val (.int x2), .val (.int x3), .val (.int x4), .val (.int x5), .val (.int v6_1), .val (.int (if (x3 &&& (1 : Int32)) = (0 : Int32) then (0 : Int32) else (1 : Int32))), .val (.int v8_3), .val (.int lc), .val (.int ta), .val (.int tb_), .val (.int tc), .val (.int td), .val (.ref nb7), .val (.ref nb12), .val (.ref b17), .val (.int (1 : Int32)), .val (.int (1 : Int32))] [(.int (1 : Int32))]))
            refine Goes.via (fun _ kk_ => XS.goto X106.here hx rfl (pc0 := 239) (pc' := 243) rfl (hb hby at_239) (by decide) (by decide) kk_) ?_
            show Goes p e below _ (T106.setTop (mkF m 243 #[.val (.int x0), .val (.int x1), .val (.int x2), .val (.int x3), .val (.int x4), .val (.int x5), .val (.int v6_1), .val (.int (if (x3 &&& (1 : Int32)) = (0 : Int32) then (0 : Int32) else (1 : Int32))), .val (.int v8_3), .val (.int lc), .val (.int ta), .val (.int tb_), .val (.int tc), .val (.int td), .val (.ref nb7), .val (.ref nb12), .val (.ref b17), .val (.int (1 : Int32)), .val (.int (1 : Int32))] [(.int (1 : Int32))]))
            have Ks110 : KS Z own_KL T12.vm (T35.heap) := ((Ks12.ext E17).keep K35 (allS (NoS.obj A17 (hw _ (List.mem_of_getElem? (i := 28) rfl)) (by decide)) all0))
            have hKe : KS Z own_KL T106.vm T106.heap := by rw [e106']; exact Ks110.at_ (s := s) X106.warmed
            have sk111 : _ ≤ (T35.heap).size := (Nat.le_trans (Nat.le_trans (Nat.le_refl _) E17.1) K35.1)
            exact own_wfinN X106 SI12 (by rw [e106']; exact sk111) (fun U_ hv hh_ => by show KS Z own_KL U_.vm U_.heap; rw [hv, hh_]; exact hKe) hx hlk hret (by simp) (hb hby at_243) (by rw [e106']; exact ⟨rfl, N35, K95⟩) (by first | decide | omega | (dsimp only; omega)) (by first | decide | omega | (dsimp only; omega))
          · skip
            refine Goes.via (fun _ kk_ => XS.icmpNo X35.here hx rfl (hb hby at_192) rfl (flt hc192).1 kk_) ?_
            show Goes p e below _ (T35.setTop (mkF m 195 #[.val (.int x0), .val (.int x1), .val (.int x2), .val (.int x3), .val (.int x4), .val (.int x5), .val (.int v6_1), .val (.int (if (x3 &&& (1 : Int32)) = (0 : Int32) then (0 : Int32) else (1 : Int32))), .val (.int v8_3), .val (.int lc), .val (.int ta), .val (.int tb_), .val (.int tc), .val (.int td), .val (.ref nb7), .val (.ref nb12), .val (.ref b17), .unset, .unset] []))
            refine Goes.via (fun _ kk_ => XS.iload X35.here hx rfl (hb hby at_195) rfl  kk_) ?_
            show Goes p e below _ (T35.setTop (mkF m 197 #[.val (.int x0), .val (.int x1), .val (.int x2), .val (.int x3), .val (.int x4), .val (.int x5), .val (.int v6_1), .val (.int (if (x3 &&& (1 : Int32)) = (0 : Int32) then (0 : Int32) else (1 : Int32))), .val (.int v8_3), .val (.int lc), .val (.int ta), .val (.int tb_), .val (.int tc), .val (.int td), .val (.ref nb7), .val (.ref nb12), .val (.ref b17), .unset, .unset] [(.int tb_)]))
            refine Goes.via (fun _ kk_ => XS.iload X35.here hx rfl (hb hby at_197) rfl  kk_) ?_
            show Goes p e below _ (T35.setTop (mkF m 199 #[.val (.int x0), .val (.int x1), .val (.int x2), .val (.int x3), .val (.int x4), .val (.int x5), .val (.int v6_1), .val (.int (if (x3 &&& (1 : Int32)) = (0 : Int32) then (0 : Int32) else (1 : Int32))), .val (.int v8_3), .val (.int lc), .val (.int ta), .val (.int tb_), .val (.int tc), .val (.int td), .val (.ref nb7), .val (.ref nb12), .val (.ref b17), .unset, .unset] [(.int td), (.int tb_)]))
            by_cases hc199 : tb_ = td
            · skip
              refine Goes.via (fun _ kk_ => XS.icmpNo X35.here hx rfl (hb hby at_199) rfl (teq hc199).2 kk_) ?_
              show Goes p e below _ (T35.setTop (mkF m 202 #[.val (.int x0), .val (.int x1), .val (.int x2), .val (.int x3), .val (.int x4), .val (.int x5), .val (.int v6_1), .val (.int (if (x3 &&& (1 : Int32)) = (0 : Int32) then (0 : Int32) else (1 : Int32))), .val (.int v8_3), .val (.int lc), .val (.int ta), .val (.int tb_), .val (.int tc), .val (.int td), .val (.ref nb7), .val (.ref nb12), .val (.ref b17), .unset, .unset] []))
              refine Goes.via (fun _ kk_ => XS.iconst X35.here hx rfl (hb hby at_202) kk_) ?_
              show Goes p e below _ (T35.setTop (mkF m 203 #[.val (.int x0), .val (.int x1), .val (.int x2), .val (.int x3), .val (.int x4), .val (.int x5), .val (.int v6_1), .val (.int (if (x3 &&& (1 : Int32)) = (0 : Int32) then (0 : Int32) else (1 : Int32))), .val (.int v8_3), .val (.int lc), .val (.int ta), .val (.int tb_), .val (.int tc), .val (.int td), .val (.ref nb7), .val (.ref nb12), .val (.ref b17), .unset, .unset] [(.int (1 : Int32))]))
              refine Goes.via (fun _ kk_ => XS.goto X35.here hx rfl (pc0 := 203) (pc' := 207) rfl (hb hby at_203) (by decide) (by decide) kk_) ?_
              show Goes p e below _ (T35.setTop (mkF m 207 #[.val (.int x0), .val (.int x1), .val (.int x2), .val (.int x3), .val (.int x4), .val (.int x5), .val (.int v6_1), .val (.int (if (x3 &&& (1 : Int32)) = (0 : Int32) then (0 : Int32) else (1 : Int32))), .val (.int v8_3), .val (.int lc), .val (.int ta), .val (.int tb_), .val (.int tc), .val (.int td), .val (.ref nb7), .val (.ref nb12), .val (.ref b17), .unset, .unset] [(.int (1 : Int32))]))
              refine Goes.via (fun _ kk_ => XS.istore X35.here hx rfl (hb hby at_207) rfl (l' := #[.val (.int x0), .val (.int x1), .val (.int x2), .val (.int x3), .val (.int x4), .val (.int x5), .val (.int v6_1), .val (.int (if (x3 &&& (1 : Int32)) = (0 : Int32) then (0 : Int32) else (1 : Int32))), .val (.int v8_3), .val (.int lc), .val (.int ta), .val (.int tb_), .val (.int tc), .val (.int td), .val (.ref nb7), .val (.ref nb12), .val (.ref b17), .val (.int (1 : Int32)), .unset]) rfl kk_) ?_
              show Goes p e below _ (T35.setTop (mkF m 209 #[.val (.int x0), .val (.int x1), .val (.int x2), .val (.int x3), .val (.int x4), .val (.int x5), .val (.int v6_1), .val (.int (if (x3 &&& (1 : Int32)) = (0 : Int32) then (0 : Int32) else (1 : Int32))), .val (.int v8_3), .val (.int lc), .val (.int ta), .val (.int tb_), .val (.int tc), .val (.int td), .val (.ref nb7), .val (.ref nb12), .val (.ref b17), .val (.int (1 : Int32)), .unset] []))
              refine Goes.via (fun _ kk_ => XS.iload X35.here hx rfl (hb hby at_209) rfl  kk_) ?_
              show Goes p e below _ (T35.setTop (mkF m 211 #[.val (.int x0), .val (.int x1), .val (.int x2), .val (.int x3), .val (.int x4), .val (.int x5), .val (.int v6_1), .val (.int (if (x3 &&& (1 : Int32)) = (0 : Int32) then (0 : Int32) else (1 : Int32))), .val (.int v8_3), .val (.int lc), .val (.int ta), .val (.int tb_), .val (.int tc), .val (.int td), .val (.ref nb7), .val (.ref nb12), .val (.ref b17), .val (.int (1 : Int32)), .unset] [(.int v6_1)]))
              have hc211_112 : v6_1 = (0 : Int32) := hk0
              refine Goes.via (fun _ kk_ => XS.ifNo X35.here hx rfl (hb hby at_211) rfl ((if0 _ _).trans (teq hc211_112).2) kk_) ?_
              show Goes p e below _ (T35.setTop (mkF m 214 #[.val (.int x0), .val (.int x1), .val (.int x2), .val (.int x3), .val (.int x4), .val (.int x5), .val (.int v6_1), .val (.int (if (x3 &&& (1 : Int32)) = (0 : Int32) then (0 : Int32) else (1 : Int32))), .val (.int v8_3), .val (.int lc), .val (.int ta), .val (.int tb_), .val (.int tc), .val (.int td), .val (.ref nb7), .val (.ref nb12), .val (.ref b17), .val (.int (1 : Int32)), .unset] []))
              refine Goes.via (fun _ kk_ => XS.iload X35.here hx rfl (hb hby at_214) rfl  kk_) ?_
              show Goes p e below _ (T35.setTop (mkF m 216 #[.val (.int x0), .val (.int x1), .val (.int x2), .val (.int x3), .val (.int x4), .val (.int x5), .val (.int v6_1), .val (.int (if (x3 &&& (1 : Int32)) = (0 : Int32) then (0 : Int32) else (1 : Int32))), .val (.int v8_3), .val (.int lc), .val (.int ta), .val (.int tb_), .val (.int tc), .val (.int td), .val (.ref nb7), .val (.ref nb12), .val (.ref b17), .val (.int (1 : Int32)), .unset] [(.int (1 : Int32))]))
              have hc216_113 : ¬ ((1 : Int32) = (0 : Int32)) := (by decide)
              refine Goes.via (fun _ kk_ => XS.ifNo X35.here hx rfl (hb hby at_216) rfl ((if0 _ _).trans (feq hc216_113).1) kk_) ?_
              show Goes p e below _ (T35.setTop (mkF m 219 #[.val (.int x0), .val (.int x1), .val (.int x2), .val (.int x3), .val (.int x4), .val (.int x5), .val (.int v6_1), .val (.int (if (x3 &&& (1 : Int32)) = (0 : Int32) then (0 : Int32) else (1 : Int32))), .val (.int v8_3), .val (.int lc), .val (.int ta), .val (.int tb_), .val (.int tc), .val (.int td), .val (.ref nb7), .val (.ref nb12), .val (.ref b17), .val (.int (1 : Int32)), .unset] []))
              refine Goes.via (fun _ kk_ => XS.iconst X35.here hx rfl (hb hby at_219) kk_) ?_
              show Goes p e below _ (T35.setTop (mkF m 220 #[.val (.int x0), .val (.int x1), .val (.int x2), .val (.int x3), .val (.int x4), .val (.int x5), .val (.int v6_1), .val (.int (if (x3 &&& (1 : Int32)) = (0 : Int32) then (0 : Int32) else (1 : Int32))), .val (.int v8_3), .val (.int lc), .val (.int ta), .val (.int tb_), .val (.int tc), .val (.int td), .val (.ref nb7), .val (.ref nb12), .val (.ref b17), .val (.int (1 : Int32)), .unset] [(.int (1 : Int32))]))
              refine Goes.via (fun _ kk_ => XS.goto X35.here hx rfl (pc0 := 220) (pc' := 224) rfl (hb hby at_220) (by decide) (by decide) kk_) ?_
              show Goes p e below _ (T35.setTop (mkF m 224 #[.val (.int x0), .val (.int x1), .val (.int x2), .val (.int x3), .val (.int x4), .val (.int x5), .val (.int v6_1), .val (.int (if (x3 &&& (1 : Int32)) = (0 : Int32) then (0 : Int32) else (1 : Int32))), .val (.int v8_3), .val (.int lc), .val (.int ta), .val (.int tb_), .val (.int tc), .val (.int td), .val (.ref nb7), .val (.ref nb12), .val (.ref b17), .val (.int (1 : Int32)), .unset] [(.int (1 : Int32))]))
              refine Goes.via (fun _ kk_ => XS.istore X35.here hx rfl (hb hby at_224) rfl (l' := #[.val (.int x0), .val (.int x1), .val (.int x2), .val (.int x3), .val (.int x4), .val (.int x5), .val (.int v6_1), .val (.int (if (x3 &&& (1 : Int32)) = (0 : Int32) then (0 : Int32) else (1 : Int32))), .val (.int v8_3), .val (.int lc), .val (.int ta), .val (.int tb_), .val (.int tc), .val (.int td), .val (.ref nb7), .val (.ref nb12), .val (.ref b17), .val (.int (1 : Int32)), .val (.int (1 : Int32))]) rfl kk_) ?_
              show Goes p e below _ (T35.setTop (mkF m 226 #[.val (.int x0), .val (.int x1), .val (.int x2), .val (.int x3), .val (.int x4), .val (.int x5), .val (.int v6_1), .val (.int (if (x3 &&& (1 : Int32)) = (0 : Int32) then (0 : Int32) else (1 : Int32))), .val (.int v8_3), .val (.int lc), .val (.int ta), .val (.int tb_), .val (.int tc), .val (.int td), .val (.ref nb7), .val (.ref nb12), .val (.ref b17), .val (.int (1 : Int32)), .val (.int (1 : Int32))] []))
              refine Goes.via (fun _ kk_ => XS.aload X35.here hx rfl (hb hby at_226) rfl rfl  kk_) ?_
              show Goes p e below _ (T35.setTop (mkF m 228 #[.val (.int x0), .val (.int x1), .val (.int x2), .val (.int x3), .val (.int x4), .val (.int x5), .val (.int v6_1), .val (.int (if (x3 &&& (1 : Int32)) = (0 : Int32) then (0 : Int32) else (1 : Int32))), .val (.int v8_3), .val (.int lc), .val (.int ta), .val (.int tb_), .val (.int tc), .val (.int td), .val (.ref nb7), .val (.ref nb12), .val (.ref b17), .val (.int (1 : Int32)), .val (.int (1 : Int32))] [(.ref b17)]))
              refine Goes.via (fun _ kk_ => XS.aload X35.here hx rfl (hb hby at_228) rfl rfl  kk_) ?_
              show Goes p e below _ (T35.setTop (mkF m 230 #[.val (.int x0), .val (.int x1), .val (.int x2), .val (.int x3), .val (.int x4), .val (.int x5), .val (.int v6_1), .val (.int (if (x3 &&& (1 : Int32)) = (0 : Int32) then (0 : Int32) else (1 : Int32))), .val (.int v8_3), .val (.int lc), .val (.int ta), .val (.int tb_), .val (.int tc), .val (.int td), .val (.ref nb7), .val (.ref nb12), .val (.ref b17), .val (.int (1 : Int32)), .val (.int (1 : Int32))] [(.ref nb12), (.ref b17)]))
              have K114 : Keep h0 T35.heap [] := (K25.trans K35 (allS (Or.inr sz_b17) all0))
              have f115 : Sta Z T35.heap "com/example/map_rewriter/maprewriter/core/SExpression$Kind" "SYMBOL" "Lcom/example/map_rewriter/maprewriter/core/SExpression$Kind;" (.ref A0) := own_sta_keep OK0 K114
              have f116 : Exa Z T35.heap nb7 "java/lang/String" := ((f18.ext E17).keep K35)
              have f117 : Fld Z T35.heap nb7 "java/lang/String" "coder" "B" (.int (0 : Int32)) := (((u7_2.keep K12 nin0).ext E17).keep K35 (ninS ne19 nin0))
              have f118 : Fld Z T35.heap nb7 "java/lang/String" "value" "[B" (.ref tb7) := (((u7_3.keep K12 nin0).ext E17).keep K35 (ninS ne19 nin0))
              have f119 : Arv Z T35.heap tb7 tk7 .byte (own_n v8_3 ta tb_) (own_v v8_3 ta tb_) (.int 0) := ((f20.ext E17).keep K35 (ninS ne21 nin0))
              have f120 : Exa Z T35.heap nb12 "java/lang/String" := ((u12_1.ext E17).keep K35)
              have f121 : Fld Z T35.heap nb12 "java/lang/String" "coder" "B" (.int (0 : Int32)) := ((u12_2.ext E17).keep K35 (ninS ne22 nin0))
              have f122 : Fld Z T35.heap nb12 "java/lang/String" "value" "[B" (.ref tb12) := ((u12_3.ext E17).keep K35 (ninS ne22 nin0))
              have f123 : Arv Z T35.heap tb12 tk12 .byte (own_n lc tc td) (own_v lc tc td) (.int 0) := ((u12_4.ext E17).keep K35 (ninS ne23 nin0))
              have f124 : Sta Z T35.heap "java/lang/String" "COMPACT_STRINGS" "Z" (.int cS) := own_sta_keep OS K114
              have z126 : h0.size ≤ (T35.heap).size := (Nat.le_trans z34 K35.1)
              obtain ⟨cq125, kq125, q125a, q125b, q125c⟩ := isOf hZ rfl u35_0
              obtain ⟨_, _, ⟨T125, L125, k125, n125⟩, -, X125, ⟨Lc125, hQ125, l125, y125, z125⟩, st125⟩ := X35.virtualBack hx (y := (⟨"com/example/map_rewriter/maprewriter/core/SExpression$Atom", "isSymbol", "(Ljava/lang/String;)Z"⟩ : MethodName)) (z := (⟨"com/example/map_rewriter/maprewriter/core/SExpression$Atom", "isSymbol", "(Ljava/lang/String;)Z"⟩ : MethodName)) hown (mvT hZ (hw _ (List.mem_of_getElem? (i := 55) rfl))) (mvT hZ (hw _ (List.mem_of_getElem? (i := 56) rfl))) (notFace_of_selects (args := #[]) (mvT hZ (hw _ (List.mem_of_getElem? (i := 58) rfl)))) (mvT hZ (hw _ (List.mem_of_getElem? (i := 58) rfl))) (mvT hZ (hw _ (List.mem_of_getElem? (i := 57) rfl))) (by decide) (backOf (W := 0) (rm8 l Z a0 hw [] b17 nb12 A0 nb7 cS tb7 tk7 v8_3 ta tb_ tb12 tk12 lc tc td T35.heap n0 (Nat.le_trans Z0 z126) u35_1 u35_2 f115 f116 f117 f118 f119 f120 f121 f122 f123 f124 (by first | assumption | rfl | decide | omega | (simp; done)) ha hbb hc hd) hZ (hw _ (List.mem_of_getElem? (i := 59) rfl)) (hw _ (List.mem_of_getElem? (i := 29) rfl)) (by decide) (by decide)) q125a q125c (g := (mkF m 230 #[.val (.int x0), .val (.int x1), .val (.int x2), .val (.int x3), .val (.int x4), .val (.int x5), .val (.int v6_1), .val (.int (if (x3 &&& (1 : Int32)) = (0 : Int32) then (0 : Int32) else (1 : Int32))), .val (.int v8_3), .val (.int lc), .val (.int ta), .val (.int tb_), .val (.int tc), .val (.int td), .val (.ref nb7), .val (.ref nb12), .val (.ref b17), .val (.int (1 : Int32)), .val (.int (1 : Int32))] [(.ref nb12), (.ref b17)])) rfl (by rw [hml]; rfl) (Steps.refl _) (argsL := [(.ref nb12)]) (rest := []) (lenOf pd_7 rfl) rfl (by show 2 * 0 + _ ≤ _; exact Nat.le_of_eq rfl) (hb hby at_230) (fun _ _ => ⟨rfl, rfl, (by first | decide | omega | (dsimp only; omega) : 9 + 0 ≤ _), (by first | decide | omega | (dsimp only; omega) : 21 + 0 ≤ _)⟩)
              dsimp only [Pt.U, Pt.locs, Pt.cells, Pt.slots] at X125 l125 y125 z125 st125 hQ125
              subst l125 y125 z125
              obtain ⟨rfl, rfl, e125⟩ := hQ125
              first | rw [List.append_nil] at X125 | skip
              refine Goes.tr st125 ?_
              have e125' : T125.heap = T35.heap := e125
              have ne127 : nb7 ≠ tb12 := f116.neArv f123 (hw _ (List.mem_of_getElem? (i := 6) rfl))
              show Goes p e below _ (T125.setTop (mkF m 233 #[.val (.int x0), .val (.int x1), .val (.int x2), .val (.int x3), .val (.int x4), .val (.int x5), .val (.int v6_1), .val (.int (if (x3 &&& (1 : Int32)) = (0 : Int32) then (0 : Int32) else (1 : Int32))), .val (.int v8_3), .val (.int lc), .val (.int ta), .val (.int tb_), .val (.int tc), .val (.int td), .val (.ref nb7), .val (.ref nb12), .val (.ref b17), .val (.int (1 : Int32)), .val (.int (1 : Int32))] [(.int (if own_cs v8_3 ta tb_ = own_cs lc tc td then (1 : Int32) else (0 : Int32)))]))
              refine Goes.via (fun _ kk_ => XS.iload X125.here hx rfl (hb hby at_233) rfl  kk_) ?_
              show Goes p e below _ (T125.setTop (mkF m 235 #[.val (.int x0), .val (.int x1), .val (.int x2), .val (.int x3), .val (.int x4), .val (.int x5), .val (.int v6_1), .val (.int (if (x3 &&& (1 : Int32)) = (0 : Int32) then (0 : Int32) else (1 : Int32))), .val (.int v8_3), .val (.int lc), .val (.int ta), .val (.int tb_), .val (.int tc), .val (.int td), .val (.ref nb7), .val (.ref nb12), .val (.ref b17), .val (.int (1 : Int32)), .val (.int (1 : Int32))] [(.int (1 : Int32)), (.int (if own_cs v8_3 ta tb_ = own_cs lc tc td then (1 : Int32) else (0 : Int32)))]))
              have hc235_128 : (if own_cs v8_3 ta tb_ = own_cs lc tc td then (1 : Int32) else (0 : Int32)) = (1 : Int32) := (if_pos ((own_same hlt hlc ha hbb hc hd).mpr ⟨hc173, Or.inr hc186, Or.inr hc199⟩))
              refine Goes.via (fun _ kk_ => XS.icmpNo X125.here hx rfl (hb hby at_235) rfl (teq hc235_128).2 kk_) ?_
              show Goes p e below _ (T125.setTop (mkF m 238 #[.val (.int x0), .val (.int x1), .val (.int x2), .val (.int x3), .val (.int x4), .val (.int x5), .val (.int v6_1), .val (.int (if (x3 &&& (1 : Int32)) = (0 : Int32) then (0 : Int32) else (1 : Int32))), .val (.int v8_3), .val (.int lc), .val (.int ta), .val (.int tb_), .val (.int tc), .val (.int td), .val (.ref nb7), .val (.ref nb12), .val (.ref b17), .val (.int (1 : Int32)), .val (.int (1 : Int32))] []))
              refine Goes.via (fun _ kk_ => XS.iconst X125.here hx rfl (hb hby at_238) kk_) ?_
              show Goes p e below _ (T125.setTop (mkF m 239 #[.val (.int x0), .val (.int x1), .val (.int x2), .val (.int x3), .val (.int x4), .val (.int x5), .val (.int v6_1), .val (.int (if (x3 &&& (1 : Int32)) = (0 : Int32) then (0 : Int32) else (1 : Int32))), .val (.int v8_3), .val (.int lc), .val (.int ta), .val (.int tb_), .val (.int tc), .val (.int td), .val (.ref nb7), .val (.ref nb12), .val (.ref b17), .val (.int (1 : Int32)), .val (.int (1 : Int32))] [(.int (1 : Int32))]))
              refine Goes.via (fun _ kk_ => XS.goto X125.here hx rfl (pc0 := 239) (pc' := 243) rfl (hb hby at_239) (by decide) (by decide) kk_) ?_
              show Goes p e below _ (T125.setTop (mkF m 243 #[.val (.int x0), .val (.int x1), .val (.int x2), .val (.int x3), .val (.int x4), .val (.int x5), .val (.int v6_1), .val (.int (if (x3 &&& (1 : Int32)) = (0 : Int32) then (0 : Int32) else (1 : Int32))), .val (.int v8_3), .val (.int lc), .val (.int ta), .val (.int tb_), .val (.int tc), .val (.int td), .val (.ref nb7), .val (.ref nb12), .val (.ref b17), .val (.int (1 : Int32)), .val (.int (1 : Int32))] [(.int (1 : Int32))]))
              have Ks129 : KS Z own_KL T12.vm (T35.heap) := ((Ks12.ext E17).keep K35 (allS (NoS.obj A17 (hw _ (List.mem_of_getElem? (i := 28) rfl)) (by decide)) all0))
              have hKe : KS Z own_KL T125.vm T125.heap := by rw [e125']; exact Ks129.at_ (s := s) X125.warmed
              have sk130 : _ ≤ (T35.heap).size := (Nat.le_trans (Nat.le_trans (Nat.le_refl _) E17.1) K35.1)
              exact own_wfinN X125 SI12 (by rw [e125']; exact sk130) (fun U_ hv hh_ => by show KS Z own_KL U_.vm U_.heap; rw [hv, hh_]; exact hKe) hx hlk hret (by simp) (hb hby at_243) (by rw [e125']; exact ⟨rfl, N35, K114⟩) (by first | decide | omega | (dsimp only; omega)) (by first | decide | omega | (dsimp only; omega))
            · skip
              refine Goes.via (fun _ kk_ => XS.icmpYes X35.here hx rfl (pc0 := 199) (pc' := 206) rfl (hb hby at_199) rfl (feq hc199).2 (by decide) (by decide) kk_) ?_
              show Goes p e below _ (T35.setTop (mkF m 206 #[.val (.int x0), .val (.int x1), .val (.int x2), .val (.int x3), .val (.int x4), .val (.int x5), .val (.int v6_1), .val (.int (if (x3 &&& (1 : Int32)) = (0 : Int32) then (0 : Int32) else (1 : Int32))), .val (.int v8_3), .val (.int lc), .val (.int ta), .val (.int tb_), .val (.int tc), .val (.int td), .val (.ref nb7), .val (.ref nb12), .val (.ref b17), .unset, .unset] []))
              refine Goes.via (fun _ kk_ => XS.iconst X35.here hx rfl (hb hby at_206) kk_) ?_
              show Goes p e below _ (T35.setTop (mkF m 207 #[.val (.int x0), .val (.int x1), .val (.int x2), .val (.int x3), .val (.int x4), .val (.int x5), .val (.int v6_1), .val (.int (if (x3 &&& (1 : Int32)) = (0 : Int32) then (0 : Int32) else (1 : Int32))), .val (.int v8_3), .val (.int lc), .val (.int ta), .val (.int tb_), .val (.int tc), .val (.int td), .val (.ref nb7), .val (.ref nb12), .val (.ref b17), .unset, .unset] [(.int (0 : Int32))]))
              refine Goes.via (fun _ kk_ => XS.istore X35.here hx rfl (hb hby at_207) rfl (l' := #[.val (.int x0), .val (.int x1), .val (.int x2), .val (.int x3), .val (.int x4), .val (.int x5), .val (.int v6_1), .val (.int (if (x3 &&& (1 : Int32)) = (0 : Int32) then (0 : Int32) else (1 : Int32))), .val (.int v8_3), .val (.int lc), .val (.int ta), .val (.int tb_), .val (.int tc), .val (.int td), .val (.ref nb7), .val (.ref nb12), .val (.ref b17), .val (.int (0 : Int32)), .unset]) rfl kk_) ?_
              show Goes p e below _ (T35.setTop (mkF m 209 #[.val (.int x0), .val (.int x1), .val (.int x2), .val (.int x3), .val (.int x4), .val (.int x5), .val (.int v6_1), .val (.int (if (x3 &&& (1 : Int32)) = (0 : Int32) then (0 : Int32) else (1 : Int32))), .val (.int v8_3), .val (.int lc), .val (.int ta), .val (.int tb_), .val (.int tc), .val (.int td), .val (.ref nb7), .val (.ref nb12), .val (.ref b17), .val (.int (0 : Int32)), .unset] []))
              refine Goes.via (fun _ kk_ => XS.iload X35.here hx rfl (hb hby at_209) rfl  kk_) ?_
              show Goes p e below _ (T35.setTop (mkF m 211 #[.val (.int x0), .val (.int x1), .val (.int x2), .val (.int x3), .val (.int x4), .val (.int x5), .val (.int v6_1), .val (.int (if (x3 &&& (1 : Int32)) = (0 : Int32) then (0 : Int32) else (1 : Int32))), .val (.int v8_3), .val (.int lc), .val (.int ta), .val (.int tb_), .val (.int tc), .val (.int td), .val (.ref nb7), .val (.ref nb12), .val (.ref b17), .val (.int (0 : Int32)), .unset] [(.int v6_1)]))
              have hc211_131 : v6_1 = (0 : Int32) := hk0
              refine Goes.via (fun _ kk_ => XS.ifNo X35.here hx rfl (hb hby at_211) rfl ((if0 _ _).trans (teq hc211_131).2) kk_) ?_
              show Goes p e below _ (T35.setTop (mkF m 214 #[.val (.int x0), .val (.int x1), .val (.int x2), .val (.int x3), .val (.int x4), .val (.int x5), .val (.int v6_1), .val (.int (if (x3 &&& (1 : Int32)) = (0 : Int32) then (0 : Int32) else (1 : Int32))), .val (.int v8_3), .val (.int lc), .val (.int ta), .val (.int tb_), .val (.int tc), .val (.int td), .val (.ref nb7), .val (.ref nb12), .val (.ref b17), .val (.int (0 : Int32)), .unset] []))
              refine Goes.via (fun _ kk_ => XS.iload X35.here hx rfl (hb hby at_214) rfl  kk_) ?_
              show Goes p e below _ (T35.setTop (mkF m 216 #[.val (.int x0), .val (.int x1), .val (.int x2), .val (.int x3), .val (.int x4), .val (.int x5), .val (.int v6_1), .val (.int (if (x3 &&& (1 : Int32)) = (0 : Int32) then (0 : Int32) else (1 : Int32))), .val (.int v8_3), .val (.int lc), .val (.int ta), .val (.int tb_), .val (.int tc), .val (.int td), .val (.ref nb7), .val (.ref nb12), .val (.ref b17), .val (.int (0 : Int32)), .unset] [(.int (0 : Int32))]))
              have hc216_132 : (0 : Int32) = (0 : Int32) := (by decide)
              refine Goes.via (fun _ kk_ => XS.ifYes X35.here hx rfl (pc0 := 216) (pc' := 223) rfl (hb hby at_216) rfl ((if0 _ _).trans (teq hc216_132).1) (by decide) (by decide) kk_) ?_
              show Goes p e below _ (T35.setTop (mkF m 223 #[.val (.int x0), .val (.int x1), .val (.int x2), .val (.int x3), .val (.int x4), .val (.int x5), .val (.int v6_1), .val (.int (if (x3 &&& (1 : Int32)) = (0 : Int32) then (0 : Int32) else (1 : Int32))), .val (.int v8_3), .val (.int lc), .val (.int ta), .val (.int tb_), .val (.int tc), .val (.int td), .val (.ref nb7), .val (.ref nb12), .val (.ref b17), .val (.int (0 : Int32)), .unset] []))
              refine Goes.via (fun _ kk_ => XS.iconst X35.here hx rfl (hb hby at_223) kk_) ?_
              show Goes p e below _ (T35.setTop (mkF m 224 #[.val (.int x0), .val (.int x1), .val (.int x2), .val (.int x3), .val (.int x4), .val (.int x5), .val (.int v6_1), .val (.int (if (x3 &&& (1 : Int32)) = (0 : Int32) then (0 : Int32) else (1 : Int32))), .val (.int v8_3), .val (.int lc), .val (.int ta), .val (.int tb_), .val (.int tc), .val (.int td), .val (.ref nb7), .val (.ref nb12), .val (.ref b17), .val (.int (0 : Int32)), .unset] [(.int (0 : Int32))]))
              refine Goes.via (fun _ kk_ => XS.istore X35.here hx rfl (hb hby at_224) rfl (l' := #[.val (.int x0), .val (.int x1), .val (.int x2), .val (.int x3), .val (.int x4), .val (.int x5), .val (.int v6_1), .val (.int (if (x3 &&& (1 : Int32)) = (0 : Int32) then (0 : Int32) else (1 : Int32))), .val (.int v8_3), .val (.int lc), .val (.int ta), .val (.int tb_), .val (.int tc), .val (.int td), .val (.ref nb7), .val (.ref nb12), .val (.ref b17), .val (.int (0 : Int32)), .val (.int (0 : Int32))]) rfl kk_) ?_
              show Goes p e below _ (T35.setTop (mkF m 226 #[.val (.int x0), .val (.int x1), .val (.int x2), .val (.int x3), .val (.int x4), .val (.int x5), .val (.int v6_1), .val (.int (if (x3 &&& (1 : Int32)) = (0 : Int32) then (0 : Int32) else (1 : Int32))), .val (.int v8_3), .val (.int lc), .val (.int ta), .val (.int tb_), .val (.int tc), .val (.int td), .val (.ref nb7), .val (.ref nb12), .val (.ref b17), .val (.int (0 : Int32)), .val (.int (0 : Int32))] []))
              refine Goes.via (fun _ kk_ => XS.aload X35.here hx rfl (hb hby at_226) rfl rfl  kk_) ?_
              show Goes p e below _ (T35.setTop (mkF m 228 #[.val (.int x0), .val (.int x1), .val (.int x2), .val (.int x3), .val (.int x4), .val (.int x5), .val (.int v6_1), .val (.int (if (x3 &&& (1 : Int32)) = (0 : Int32) then (0 : Int32) else (1 : Int32))), .val (.int v8_3), .val (.int lc), .val (.int ta), .val (.int tb_), .val (.int tc), .val (.int td), .val (.ref nb7), .val (.ref nb12), .val (.ref b17), .val (.int (0 : Int32)), .val (.int (0 : Int32))] [(.ref b17)]))
              refine Goes.via (fun _ kk_ => XS.aload X35.here hx rfl (hb hby at_228) rfl rfl  kk_) ?_
              show Goes p e below _ (T35.setTop (mkF m 230 #[.val (.int x0), .val (.int x1), .val (.int x2), .val (.int x3), .val (.int x4), .val (.int x5), .val (.int v6_1), .val (.int (if (x3 &&& (1 : Int32)) = (0 : Int32) then (0 : Int32) else (1 : Int32))), .val (.int v8_3), .val (.int lc), .val (.int ta), .val (.int tb_), .val (.int tc), .val (.int td), .val (.ref nb7), .val (.ref nb12), .val (.ref b17), .val (.int (0 : Int32)), .val (.int (0 : Int32))] [(.ref nb12), (.ref b17)]))
              have K133 : Keep h0 T35.heap [] := (K25.trans K35 (allS (Or.inr sz_b17) all0))
              have f134 : Sta Z T35.heap "com/example/map_rewriter/maprewriter/core/SExpression$Kind" "SYMBOL" "Lcom/example/map_rewriter/maprewriter/core/SExpression$Kind;" (.ref A0) := own_sta_keep OK0 K133
              have f135 : Exa Z T35.heap nb7 "java/lang/String" := ((f18.ext E17).keep K35)
              have f136 : Fld Z T35.heap nb7 "java/lang/String" "coder" "B" (.int (0 : Int32)) := (((u7_2.keep K12 nin0).ext E17).keep K35 (ninS ne19 nin0))
              have f137 : Fld Z T35.heap nb7 "java/lang/String" "value" "[B" (.ref tb7) := (((u7_3.keep K12 nin0).ext E17).keep K35 (ninS ne19 nin0))
              have f138 : Arv Z T35.heap tb7 tk7 .byte (own_n v8_3 ta tb_) (own_v v8_3 ta tb_) (.int 0) := ((f20.ext E17).keep K35 (ninS ne21 nin0))
              have f139 : Exa Z T35.heap nb12 "java/lang/String" := ((u12_1.ext E17).keep K35)
              have f140 : Fld Z T35.heap nb12 "java/lang/String" "coder" "B" (.int (0 : Int32)) := ((u12_2.ext E17).keep K35 (ninS ne22 nin0))
              have f141 : Fld Z T35.heap nb12 "java/lang/String" "value" "[B" (.ref tb12) := ((u12_3.ext E17).keep K35 (ninS ne22 nin0))
              have f142 : Arv Z T35.heap tb12 tk12 .byte (own_n lc tc td) (own_v lc tc td) (.int 0) := ((u12_4.ext E17).keep K35 (ninS ne23 nin0))
              have f143 : Sta Z T35.heap "java/lang/String" "COMPACT_STRINGS" "Z" (.int cS) := own_sta_keep OS K133
              have z145 : h0.size ≤ (T35.heap).size := (Nat.le_trans z34 K35.1)
              obtain ⟨cq144, kq144, q144a, q144b, q144c⟩ := isOf hZ rfl u35_0
              obtain ⟨_, _, ⟨T144, L144, k144, n144⟩, -, X144, ⟨Lc144, hQ144, l144, y144, z144⟩, st144⟩ := X35.virtualBack hx (y := (⟨"com/example/map_rewriter/maprewriter/core/SExpression$Atom", "isSymbol", "(Ljava/lang/String;)Z"⟩ : MethodName)) (z := (⟨"com/example/map_rewriter/maprewriter/core/SExpression$Atom", "isSymbol", "(Ljava/lang/String;)Z"⟩ : MethodName)) hown (mvT hZ (hw _ (List.mem_of_getElem? (i := 55) rfl))) (mvT hZ (hw _ (List.mem_of_getElem? (i := 56) rfl))) (notFace_of_selects (args := #[]) (mvT hZ (hw _ (List.mem_of_getElem? (i := 58) rfl)))) (mvT hZ (hw _ (List.mem_of_getElem? (i := 58) rfl))) (mvT hZ (hw _ (List.mem_of_getElem? (i := 57) rfl))) (by decide) (backOf (W := 0) (rm8 l Z a0 hw [] b17 nb12 A0 nb7 cS tb7 tk7 v8_3 ta tb_ tb12 tk12 lc tc td T35.heap n0 (Nat.le_trans Z0 z145) u35_1 u35_2 f134 f135 f136 f137 f138 f139 f140 f141 f142 f143 (by first | assumption | rfl | decide | omega | (simp; done)) ha hbb hc hd) hZ (hw _ (List.mem_of_getElem? (i := 59) rfl)) (hw _ (List.mem_of_getElem? (i := 29) rfl)) (by decide) (by decide)) q144a q144c (g := (mkF m 230 #[.val (.int x0), .val (.int x1), .val (.int x2), .val (.int x3), .val (.int x4), .val (.int x5), .val (.int v6_1), .val (.int (if (x3 &&& (1 : Int32)) = (0 : Int32) then (0 : Int32) else (1 : Int32))), .val (.int v8_3), .val (.int lc), .val (.int ta), .val (.int tb_), .val (.int tc), .val (.int td), .val (.ref nb7), .val (.ref nb12), .val (.ref b17), .val (.int (0 : Int32)), .val (.int (0 : Int32))] [(.ref nb12), (.ref b17)])) rfl (by rw [hml]; rfl) (Steps.refl _) (argsL := [(.ref nb12)]) (rest := []) (lenOf pd_7 rfl) rfl (by show 2 * 0 + _ ≤ _; exact Nat.le_of_eq rfl) (hb hby at_230) (fun _ _ => ⟨rfl, rfl, (by first | decide | omega | (dsimp only; omega) : 9 + 0 ≤ _), (by first | decide | omega | (dsimp only; omega) : 21 + 0 ≤ _)⟩)
              dsimp only [Pt.U, Pt.locs, Pt.cells, Pt.slots] at X144 l144 y144 z144 st144 hQ144
              subst l144 y144 z144
              obtain ⟨rfl, rfl, e144⟩ := hQ144
              first | rw [List.append_nil] at X144 | skip
              refine Goes.tr st144 ?_
              have e144' : T144.heap = T35.heap := e144
              have ne146 : nb7 ≠ tb12 := f135.neArv f142 (hw _ (List.mem_of_getElem? (i := 6) rfl))
              show Goes p e below _ (T144.setTop (mkF m 233 #[.val (.int x0), .val (.int x1), .val (.int x2), .val (.int x3), .val (.int x4), .val (.int x5), .val (.int v6_1), .val (.int (if (x3 &&& (1 : Int32)) = (0 : Int32) then (0 : Int32) else (1 : Int32))), .val (.int v8_3), .val (.int lc), .val (.int ta), .val (.int tb_), .val (.int tc), .val (.int td), .val (.ref nb7), .val (.ref nb12), .val (.ref b17), .val (.int (0 : Int32)), .val (.int (0 : Int32))] [(.int (if own_cs v8_3 ta tb_ = own_cs lc tc td then (1 : Int32) else (0 : Int32)))]))
              refine Goes.via (fun _ kk_ => XS.iload X144.here hx rfl (hb hby at_233) rfl  kk_) ?_
              show Goes p e below _ (T144.setTop (mkF m 235 #[.val (.int x0), .val (.int x1), .val (.int x2), .val (.int x3), .val (.int x4), .val (.int x5), .val (.int v6_1), .val (.int (if (x3 &&& (1 : Int32)) = (0 : Int32) then (0 : Int32) else (1 : Int32))), .val (.int v8_3), .val (.int lc), .val (.int ta), .val (.int tb_), .val (.int tc), .val (.int td), .val (.ref nb7), .val (.ref nb12), .val (.ref b17), .val (.int (0 : Int32)), .val (.int (0 : Int32))] [(.int (0 : Int32)), (.int (if own_cs v8_3 ta tb_ = own_cs lc tc td then (1 : Int32) else (0 : Int32)))]))
              have hc235_147 : (if own_cs v8_3 ta tb_ = own_cs lc tc td then (1 : Int32) else (0 : Int32)) = (0 : Int32) := (if_neg (fun q => ((own_same hlt hlc ha hbb hc hd).mp q).2.2.elim hc192 hc199))
              refine Goes.via (fun _ kk_ => XS.icmpNo X144.here hx rfl (hb hby at_235) rfl (teq hc235_147).2 kk_) ?_
              show Goes p e below _ (T144.setTop (mkF m 238 #[.val (.int x0), .val (.int x1), .val (.int x2), .val (.int x3), .val (.int x4), .val (.int x5), .val (.int v6_1), .val (.int (if (x3 &&& (1 : Int32)) = (0 : Int32) then (0 : Int32) else (1 : Int32))), .val (.int v8_3), .val (.int lc), .val (.int ta), .val (.int tb_), .val (.int tc), .val (.int td), .val (.ref nb7), .val (.ref nb12), .val (.ref b17), .val (.int (0 : Int32)), .val (.int (0 : Int32))] []))
              refine Goes.via (fun _ kk_ => XS.iconst X144.here hx rfl (hb hby at_238) kk_) ?_
              show Goes p e below _ (T144.setTop (mkF m 239 #[.val (.int x0), .val (.int x1), .val (.int x2), .val (.int x3), .val (.int x4), .val (.int x5), .val (.int v6_1), .val (.int (if (x3 &&& (1 : Int32)) = (0 : Int32) then (0 : Int32) else (1 : Int32))), .val (.int v8_3), .val (.int lc), .val (.int ta), .val (.int tb_), .val (.int tc), .val (.int td), .val (.ref nb7), .val (.ref nb12), .val (.ref b17), .val (.int (0 : Int32)), .val (.int (0 : Int32))] [(.int (1 : Int32))]))
              refine Goes.via (fun _ kk_ => XS.goto X144.here hx rfl (pc0 := 239) (pc' := 243) rfl (hb hby at_239) (by decide) (by decide) kk_) ?_
              show Goes p e below _ (T144.setTop (mkF m 243 #[.val (.int x0), .val (.int x1), .val (.int x2), .val (.int x3), .val (.int x4), .val (.int x5), .val (.int v6_1), .val (.int (if (x3 &&& (1 : Int32)) = (0 : Int32) then (0 : Int32) else (1 : Int32))), .val (.int v8_3), .val (.int lc), .val (.int ta), .val (.int tb_), .val (.int tc), .val (.int td), .val (.ref nb7), .val (.ref nb12), .val (.ref b17), .val (.int (0 : Int32)), .val (.int (0 : Int32))] [(.int (1 : Int32))]))
              have Ks148 : KS Z own_KL T12.vm (T35.heap) := ((Ks12.ext E17).keep K35 (allS (NoS.obj A17 (hw _ (List.mem_of_getElem? (i := 28) rfl)) (by decide)) all0))
              have hKe : KS Z own_KL T144.vm T144.heap := by rw [e144']; exact Ks148.at_ (s := s) X144.warmed
              have sk149 : _ ≤ (T35.heap).size := (Nat.le_trans (Nat.le_trans (Nat.le_refl _) E17.1) K35.1)
              exact own_wfinN X144 SI12 (by rw [e144']; exact sk149) (fun U_ hv hh_ => by show KS Z own_KL U_.vm U_.heap; rw [hv, hh_]; exact hKe) hx hlk hret (by simp) (hb hby at_243) (by rw [e144']; exact ⟨rfl, N35, K133⟩) (by first | decide | omega | (dsimp only; omega)) (by first | decide | omega | (dsimp only; omega))
        · skip
          refine Goes.via (fun _ kk_ => XS.icmpYes X35.here hx rfl (pc0 := 186) (pc' := 206) rfl (hb hby at_186) rfl (feq hc186).2 (by decide) (by decide) kk_) ?_
          show Goes p e below _ (T35.setTop (mkF m 206 #[.val (.int x0), .val (.int x1), .val (.int x2), .val (.int x3), .val (.int x4), .val (.int x5), .val (.int v6_1), .val (.int (if (x3 &&& (1 : Int32)) = (0 : Int32) then (0 : Int32) else (1 : Int32))), .val (.int v8_3), .val (.int lc), .val (.int ta), .val (.int tb_), .val (.int tc), .val (.int td), .val (.ref nb7), .val (.ref nb12), .val (.ref b17), .unset, .unset] []))
          refine Goes.via (fun _ kk_ => XS.iconst X35.here hx rfl (hb hby at_206) kk_) ?_
          show Goes p e below _ (T35.setTop (mkF m 207 #[.val (.int x0), .val (.int x1), .val (.int x2), .val (.int x3), .val (.int x4), .val (.int x5), .val (.int v6_1), .val (.int (if (x3 &&& (1 : Int32)) = (0 : Int32) then (0 : Int32) else (1 : Int32))), .val (.int v8_3), .val (.int lc), .val (.int ta), .val (.int tb_), .val (.int tc), .val (.int td), .val (.ref nb7), .val (.ref nb12), .val (.ref b17), .unset, .unset] [(.int (0 : Int32))]))
          refine Goes.via (fun _ kk_ => XS.istore X35.here hx rfl (hb hby at_207) rfl (l' := #[.val (.int x0), .val (.int x1), .val (.int x2), .val (.int x3), .val (.int x4), .val (.int x5), .val (.int v6_1), .val (.int (if (x3 &&& (1 : Int32)) = (0 : Int32) then (0 : Int32) else (1 : Int32))), .val (.int v8_3), .val (.int lc), .val (.int ta), .val (.int tb_), .val (.int tc), .val (.int td), .val (.ref nb7), .val (.ref nb12), .val (.ref b17), .val (.int (0 : Int32)), .unset]) rfl kk_) ?_
          show Goes p e below _ (T35.setTop (mkF m 209 #[.val (.int x0), .val (.int x1), .val (.int x2), .val (.int x3), .val (.int x4), .val (.int x5), .val (.int v6_1), .val (.int (if (x3 &&& (1 : Int32)) = (0 : Int32) then (0 : Int32) else (1 : Int32))), .val (.int v8_3), .val (.int lc), .val (.int ta), .val (.int tb_), .val (.int tc), .val (.int td), .val (.ref nb7), .val (.ref nb12), .val (.ref b17), .val (.int (0 : Int32)), .unset] []))
          refine Goes.via (fun _ kk_ => XS.iload X35.here hx rfl (hb hby at_209) rfl  kk_) ?_
          show Goes p e below _ (T35.setTop (mkF m 211 #[.val (.int x0), .val (.int x1), .val (.int x2), .val (.int x3), .val (.int x4), .val (.int x5), .val (.int v6_1), .val (.int (if (x3 &&& (1 : Int32)) = (0 : Int32) then (0 : Int32) else (1 : Int32))), .val (.int v8_3), .val (.int lc), .val (.int ta), .val (.int tb_), .val (.int tc), .val (.int td), .val (.ref nb7), .val (.ref nb12), .val (.ref b17), .val (.int (0 : Int32)), .unset] [(.int v6_1)]))
          have hc211_150 : v6_1 = (0 : Int32) := hk0
          refine Goes.via (fun _ kk_ => XS.ifNo X35.here hx rfl (hb hby at_211) rfl ((if0 _ _).trans (teq hc211_150).2) kk_) ?_
          show Goes p e below _ (T35.setTop (mkF m 214 #[.val (.int x0), .val (.int x1), .val (.int x2), .val (.int x3), .val (.int x4), .val (.int x5), .val (.int v6_1), .val (.int (if (x3 &&& (1 : Int32)) = (0 : Int32) then (0 : Int32) else (1 : Int32))), .val (.int v8_3), .val (.int lc), .val (.int ta), .val (.int tb_), .val (.int tc), .val (.int td), .val (.ref nb7), .val (.ref nb12), .val (.ref b17), .val (.int (0 : Int32)), .unset] []))
          refine Goes.via (fun _ kk_ => XS.iload X35.here hx rfl (hb hby at_214) rfl  kk_) ?_
          show Goes p e below _ (T35.setTop (mkF m 216 #[.val (.int x0), .val (.int x1), .val (.int x2), .val (.int x3), .val (.int x4), .val (.int x5), .val (.int v6_1), .val (.int (if (x3 &&& (1 : Int32)) = (0 : Int32) then (0 : Int32) else (1 : Int32))), .val (.int v8_3), .val (.int lc), .val (.int ta), .val (.int tb_), .val (.int tc), .val (.int td), .val (.ref nb7), .val (.ref nb12), .val (.ref b17), .val (.int (0 : Int32)), .unset] [(.int (0 : Int32))]))
          have hc216_151 : (0 : Int32) = (0 : Int32) := (by decide)
          refine Goes.via (fun _ kk_ => XS.ifYes X35.here hx rfl (pc0 := 216) (pc' := 223) rfl (hb hby at_216) rfl ((if0 _ _).trans (teq hc216_151).1) (by decide) (by decide) kk_) ?_
          show Goes p e below _ (T35.setTop (mkF m 223 #[.val (.int x0), .val (.int x1), .val (.int x2), .val (.int x3), .val (.int x4), .val (.int x5), .val (.int v6_1), .val (.int (if (x3 &&& (1 : Int32)) = (0 : Int32) then (0 : Int32) else (1 : Int32))), .val (.int v8_3), .val (.int lc), .val (.int ta), .val (.int tb_), .val (.int tc), .val (.int td), .val (.ref nb7), .val (.ref nb12), .val (.ref b17), .val (.int (0 : Int32)), .unset] []))
          refine Goes.via (fun _ kk_ => XS.iconst X35.here hx rfl (hb hby at_223) kk_) ?_
          show Goes p e below _ (T35.setTop (mkF m 224 #[.val (.int x0), .val (.int x1), .val (.int x2), .val (.int x3), .val (.int x4), .val (.int x5), .val (.int v6_1), .val (.int (if (x3 &&& (1 : Int32)) = (0 : Int32) then (0 : Int32) else (1 : Int32))), .val (.int v8_3), .val (.int lc), .val (.int ta), .val (.int tb_), .val (.int tc), .val (.int td), .val (.ref nb7), .val (.ref nb12), .val (.ref b17), .val (.int (0 : Int32)), .unset] [(.int (0 : Int32))]))
          refine Goes.via (fun _ kk_ => XS.istore X35.here hx rfl (hb hby at_224) rfl (l' := #[.val (.int x0), .val (.int x1), .val (.int x2), .val (.int x3), .val (.int x4), .val (.int x5), .val (.int v6_1), .val (.int (if (x3 &&& (1 : Int32)) = (0 : Int32) then (0 : Int32) else (1 : Int32))), .val (.int v8_3), .val (.int lc), .val (.int ta), .val (.int tb_), .val (.int tc), .val (.int td), .val (.ref nb7), .val (.ref nb12), .val (.ref b17), .val (.int (0 : Int32)), .val (.int (0 : Int32))]) rfl kk_) ?_
          show Goes p e below _ (T35.setTop (mkF m 226 #[.val (.int x0), .val (.int x1), .val (.int x2), .val (.int x3), .val (.int x4), .val (.int x5), .val (.int v6_1), .val (.int (if (x3 &&& (1 : Int32)) = (0 : Int32) then (0 : Int32) else (1 : Int32))), .val (.int v8_3), .val (.int lc), .val (.int ta), .val (.int tb_), .val (.int tc), .val (.int td), .val (.ref nb7), .val (.ref nb12), .val (.ref b17), .val (.int (0 : Int32)), .val (.int (0 : Int32))] []))
          refine Goes.via (fun _ kk_ => XS.aload X35.here hx rfl (hb hby at_226) rfl rfl  kk_) ?_
          show Goes p e below _ (T35.setTop (mkF m 228 #[.val (.int x0), .val (.int x1), .val (.int x2), .val (.int x3), .val (.int x4), .val (.int x5), .val (.int v6_1), .val (.int (if (x3 &&& (1 : Int32)) = (0 : Int32) then (0 : Int32) else (1 : Int32))), .val (.int v8_3), .val (.int lc), .val (.int ta), .val (.int tb_), .val (.int tc), .val (.int td), .val (.ref nb7), .val (.ref nb12), .val (.ref b17), .val (.int (0 : Int32)), .val (.int (0 : Int32))] [(.ref b17)]))
          refine Goes.via (fun _ kk_ => XS.aload X35.here hx rfl (hb hby at_228) rfl rfl  kk_) ?_
          show Goes p e below _ (T35.setTop (mkF m 230 #[.val (.int x0), .val (.int x1), .val (.int x2), .val (.int x3), .val (.int x4), .val (.int x5), .val (.int v6_1), .val (.int (if (x3 &&& (1 : Int32)) = (0 : Int32) then (0 : Int32) else (1 : Int32))), .val (.int v8_3), .val (.int lc), .val (.int ta), .val (.int tb_), .val (.int tc), .val (.int td), .val (.ref nb7), .val (.ref nb12), .val (.ref b17), .val (.int (0 : Int32)), .val (.int (0 : Int32))] [(.ref nb12), (.ref b17)]))
          have K152 : Keep h0 T35.heap [] := (K25.trans K35 (allS (Or.inr sz_b17) all0))
          have f153 : Sta Z T35.heap "com/example/map_rewriter/maprewriter/core/SExpression$Kind" "SYMBOL" "Lcom/example/map_rewriter/maprewriter/core/SExpression$Kind;" (.ref A0) := own_sta_keep OK0 K152
          have f154 : Exa Z T35.heap nb7 "java/lang/String" := ((f18.ext E17).keep K35)
          have f155 : Fld Z T35.heap nb7 "java/lang/String" "coder" "B" (.int (0 : Int32)) := (((u7_2.keep K12 nin0).ext E17).keep K35 (ninS ne19 nin0))
          have f156 : Fld Z T35.heap nb7 "java/lang/String" "value" "[B" (.ref tb7) := (((u7_3.keep K12 nin0).ext E17).keep K35 (ninS ne19 nin0))
          have f157 : Arv Z T35.heap tb7 tk7 .byte (own_n v8_3 ta tb_) (own_v v8_3 ta tb_) (.int 0) := ((f20.ext E17).keep K35 (ninS ne21 nin0))
          have f158 : Exa Z T35.heap nb12 "java/lang/String" := ((u12_1.ext E17).keep K35)
          have f159 : Fld Z T35.heap nb12 "java/lang/String" "coder" "B" (.int (0 : Int32)) := ((u12_2.ext E17).keep K35 (ninS ne22 nin0))
          have f160 : Fld Z T35.heap nb12 "java/lang/String" "value" "[B" (.ref tb12) := ((u12_3.ext E17).keep K35 (ninS ne22 nin0))
          have f161 : Arv Z T35.heap tb12 tk12 .byte (own_n lc tc td) (own_v lc tc td) (.int 0) := ((u12_4.ext E17).keep K35 (ninS ne23 nin0))
          have f162 : Sta Z T35.heap "java/lang/String" "COMPACT_STRINGS" "Z" (.int cS) := own_sta_keep OS K152
          have z164 : h0.size ≤ (T35.heap).size := (Nat.le_trans z34 K35.1)
          obtain ⟨cq163, kq163, q163a, q163b, q163c⟩ := isOf hZ rfl u35_0
          obtain ⟨_, _, ⟨T163, L163, k163, n163⟩, -, X163, ⟨Lc163, hQ163, l163, y163, z163⟩, st163⟩ := X35.virtualBack hx (y := (⟨"com/example/map_rewriter/maprewriter/core/SExpression$Atom", "isSymbol", "(Ljava/lang/String;)Z"⟩ : MethodName)) (z := (⟨"com/example/map_rewriter/maprewriter/core/SExpression$Atom", "isSymbol", "(Ljava/lang/String;)Z"⟩ : MethodName)) hown (mvT hZ (hw _ (List.mem_of_getElem? (i := 55) rfl))) (mvT hZ (hw _ (List.mem_of_getElem? (i := 56) rfl))) (notFace_of_selects (args := #[]) (mvT hZ (hw _ (List.mem_of_getElem? (i := 58) rfl)))) (mvT hZ (hw _ (List.mem_of_getElem? (i := 58) rfl))) (mvT hZ (hw _ (List.mem_of_getElem? (i := 57) rfl))) (by decide) (backOf (W := 0) (rm8 l Z a0 hw [] b17 nb12 A0 nb7 cS tb7 tk7 v8_3 ta tb_ tb12 tk12 lc tc td T35.heap n0 (Nat.le_trans Z0 z164) u35_1 u35_2 f153 f154 f155 f156 f157 f158 f159 f160 f161 f162 (by first | assumption | rfl | decide | omega | (simp; done)) ha hbb hc hd) hZ (hw _ (List.mem_of_getElem? (i := 59) rfl)) (hw _ (List.mem_of_getElem? (i := 29) rfl)) (by decide) (by decide)) q163a q163c (g := (mkF m 230 #[.val (.int x0), .val (.int x1), .val (.int x2), .val (.int x3), .val (.int x4), .val (.int x5), .val (.int v6_1), .val (.int (if (x3 &&& (1 : Int32)) = (0 : Int32) then (0 : Int32) else (1 : Int32))), .val (.int v8_3), .val (.int lc), .val (.int ta), .val (.int tb_), .val (.int tc), .val (.int td), .val (.ref nb7), .val (.ref nb12), .val (.ref b17), .val (.int (0 : Int32)), .val (.int (0 : Int32))] [(.ref nb12), (.ref b17)])) rfl (by rw [hml]; rfl) (Steps.refl _) (argsL := [(.ref nb12)]) (rest := []) (lenOf pd_7 rfl) rfl (by show 2 * 0 + _ ≤ _; exact Nat.le_of_eq rfl) (hb hby at_230) (fun _ _ => ⟨rfl, rfl, (by first | decide | omega | (dsimp only; omega) : 9 + 0 ≤ _), (by first | decide | omega | (dsimp only; omega) : 21 + 0 ≤ _)⟩)
          dsimp only [Pt.U, Pt.locs, Pt.cells, Pt.slots] at X163 l163 y163 z163 st163 hQ163
          subst l163 y163 z163
          obtain ⟨rfl, rfl, e163⟩ := hQ163
          first | rw [List.append_nil] at X163 | skip
          refine Goes.tr st163 ?_
          have e163' : T163.heap = T35.heap := e163
          have ne165 : nb7 ≠ tb12 := f154.neArv f161 (hw _ (List.mem_of_getElem? (i := 6) rfl))
          show Goes p e below _ (T163.setTop (mkF m 233 #[.val (.int x0), .val (.int x1), .val (.int x2), .val (.int x3), .val (.int x4), .val (.int x5), .val (.int v6_1), .val (.int (if (x3 &&& (1 : Int32)) = (0 : Int32) then (0 : Int32) else (1 : Int32))), .val (.int v8_3), .val (.int lc), .val (.int ta), .val (.int tb_), .val (.int tc), .val (.int td), .val (.ref nb7), .val (.ref nb12), .val (.ref b17), .val (.int (0 : Int32)), .val (.int (0 : Int32))] [(.int (if own_cs v8_3 ta tb_ = own_cs lc tc td then (1 : Int32) else (0 : Int32)))]))
          refine Goes.via (fun _ kk_ => XS.iload X163.here hx rfl (hb hby at_233) rfl  kk_) ?_
          show Goes p e below _ (T163.setTop (mkF m 235 #[.val (.int x0), .val (.int x1), .val (.int x2), .val (.int x3), .val (.int x4), .val (.int x5), .val (.int v6_1), .val (.int (if (x3 &&& (1 : Int32)) = (0 : Int32) then (0 : Int32) else (1 : Int32))), .val (.int v8_3), .val (.int lc), .val (.int ta), .val (.int tb_), .val (.int tc), .val (.int td), .val (.ref nb7), .val (.ref nb12), .val (.ref b17), .val (.int (0 : Int32)), .val (.int (0 : Int32))] [(.int (0 : Int32)), (.int (if own_cs v8_3 ta tb_ = own_cs lc tc td then (1 : Int32) else (0 : Int32)))]))
          have hc235_166 : (if own_cs v8_3 ta tb_ = own_cs lc tc td then (1 : Int32) else (0 : Int32)) = (0 : Int32) := (if_neg (fun q => ((own_same hlt hlc ha hbb hc hd).mp q).2.1.elim hc179 hc186))
          refine Goes.via (fun _ kk_ => XS.icmpNo X163.here hx rfl (hb hby at_235) rfl (teq hc235_166).2 kk_) ?_
          show Goes p e below _ (T163.setTop (mkF m 238 #[.val (.int x0), .val (.int x1), .val (.int x2), .val (.int x3), .val (.int x4), .val (.int x5), .val (.int v6_1), .val (.int (if (x3 &&& (1 : Int32)) = (0 : Int32) then (0 : Int32) else (1 : Int32))), .val (.int v8_3), .val (.int lc), .val (.int ta), .val (.int tb_), .val (.int tc), .val (.int td), .val (.ref nb7), .val (.ref nb12), .val (.ref b17), .val (.int (0 : Int32)), .val (.int (0 : Int32))] []))
          refine Goes.via (fun _ kk_ => XS.iconst X163.here hx rfl (hb hby at_238) kk_) ?_
          show Goes p e below _ (T163.setTop (mkF m 239 #[.val (.int x0), .val (.int x1), .val (.int x2), .val (.int x3), .val (.int x4), .val (.int x5), .val (.int v6_1), .val (.int (if (x3 &&& (1 : Int32)) = (0 : Int32) then (0 : Int32) else (1 : Int32))), .val (.int v8_3), .val (.int lc), .val (.int ta), .val (.int tb_), .val (.int tc), .val (.int td), .val (.ref nb7), .val (.ref nb12), .val (.ref b17), .val (.int (0 : Int32)), .val (.int (0 : Int32))] [(.int (1 : Int32))]))
          refine Goes.via (fun _ kk_ => XS.goto X163.here hx rfl (pc0 := 239) (pc' := 243) rfl (hb hby at_239) (by decide) (by decide) kk_) ?_
          show Goes p e below _ (T163.setTop (mkF m 243 #[.val (.int x0), .val (.int x1), .val (.int x2), .val (.int x3), .val (.int x4), .val (.int x5), .val (.int v6_1), .val (.int (if (x3 &&& (1 : Int32)) = (0 : Int32) then (0 : Int32) else (1 : Int32))), .val (.int v8_3), .val (.int lc), .val (.int ta), .val (.int tb_), .val (.int tc), .val (.int td), .val (.ref nb7), .val (.ref nb12), .val (.ref b17), .val (.int (0 : Int32)), .val (.int (0 : Int32))] [(.int (1 : Int32))]))
          have Ks167 : KS Z own_KL T12.vm (T35.heap) := ((Ks12.ext E17).keep K35 (allS (NoS.obj A17 (hw _ (List.mem_of_getElem? (i := 28) rfl)) (by decide)) all0))
          have hKe : KS Z own_KL T163.vm T163.heap := by rw [e163']; exact Ks167.at_ (s := s) X163.warmed
          have sk168 : _ ≤ (T35.heap).size := (Nat.le_trans (Nat.le_trans (Nat.le_refl _) E17.1) K35.1)
          exact own_wfinN X163 SI12 (by rw [e163']; exact sk168) (fun U_ hv hh_ => by show KS Z own_KL U_.vm U_.heap; rw [hv, hh_]; exact hKe) hx hlk hret (by simp) (hb hby at_243) (by rw [e163']; exact ⟨rfl, N35, K152⟩) (by first | decide | omega | (dsimp only; omega)) (by first | decide | omega | (dsimp only; omega))
    · skip
      refine Goes.via (fun _ kk_ => XS.icmpYes X35.here hx rfl (pc0 := 173) (pc' := 206) rfl (hb hby at_173) rfl (feq hc173).2 (by decide) (by decide) kk_) ?_
      show Goes p e below _ (T35.setTop (mkF m 206 #[.val (.int x0), .val (.int x1), .val (.int x2), .val (.int x3), .val (.int x4), .val (.int x5), .val (.int v6_1), .val (.int (if (x3 &&& (1 : Int32)) = (0 : Int32) then (0 : Int32) else (1 : Int32))), .val (.int v8_3), .val (.int lc), .val (.int ta), .val (.int tb_), .val (.int tc), .val (.int td), .val (.ref nb7), .val (.ref nb12), .val (.ref b17), .unset, .unset] []))
      refine Goes.via (fun _ kk_ => XS.iconst X35.here hx rfl (hb hby at_206) kk_) ?_
      show Goes p e below _ (T35.setTop (mkF m 207 #[.val (.int x0), .val (.int x1), .val (.int x2), .val (.int x3), .val (.int x4), .val (.int x5), .val (.int v6_1), .val (.int (if (x3 &&& (1 : Int32)) = (0 : Int32) then (0 : Int32) else (1 : Int32))), .val (.int v8_3), .val (.int lc), .val (.int ta), .val (.int tb_), .val (.int tc), .val (.int td), .val (.ref nb7), .val (.ref nb12), .val (.ref b17), .unset, .unset] [(.int (0 : Int32))]))
      refine Goes.via (fun _ kk_ => XS.istore X35.here hx rfl (hb hby at_207) rfl (l' := #[.val (.int x0), .val (.int x1), .val (.int x2), .val (.int x3), .val (.int x4), .val (.int x5), .val (.int v6_1), .val (.int (if (x3 &&& (1 : Int32)) = (0 : Int32) then (0 : Int32) else (1 : Int32))), .val (.int v8_3), .val (.int lc), .val (.int ta), .val (.int tb_), .val (.int tc), .val (.int td), .val (.ref nb7), .val (.ref nb12), .val (.ref b17), .val (.int (0 : Int32)), .unset]) rfl kk_) ?_
      show Goes p e below _ (T35.setTop (mkF m 209 #[.val (.int x0), .val (.int x1), .val (.int x2), .val (.int x3), .val (.int x4), .val (.int x5), .val (.int v6_1), .val (.int (if (x3 &&& (1 : Int32)) = (0 : Int32) then (0 : Int32) else (1 : Int32))), .val (.int v8_3), .val (.int lc), .val (.int ta), .val (.int tb_), .val (.int tc), .val (.int td), .val (.ref nb7), .val (.ref nb12), .val (.ref b17), .val (.int (0 : Int32)), .unset] []))
      refine Goes.via (fun _ kk_ => XS.iload X35.here hx rfl (hb hby at_209) rfl  kk_) ?_
      show Goes p e below _ (T35.setTop (mkF m 211 #[.val (.int x0), .val (.int x1), .val (.int x2), .val (.int x3), .val (.int x4), .val (.int x5), .val (.int v6_1), .val (.int (if (x3 &&& (1 : Int32)) = (0 : Int32) then (0 : Int32) else (1 : Int32))), .val (.int v8_3), .val (.int lc), .val (.int ta), .val (.int tb_), .val (.int tc), .val (.int td), .val (.ref nb7), .val (.ref nb12), .val (.ref b17), .val (.int (0 : Int32)), .unset] [(.int v6_1)]))
      have hc211_169 : v6_1 = (0 : Int32) := hk0
      refine Goes.via (fun _ kk_ => XS.ifNo X35.here hx rfl (hb hby at_211) rfl ((if0 _ _).trans (teq hc211_169).2) kk_) ?_
      show Goes p e below _ (T35.setTop (mkF m 214 #[.val (.int x0), .val (.int x1), .val (.int x2), .val (.int x3), .val (.int x4), .val (.int x5), .val (.int v6_1), .val (.int (if (x3 &&& (1 : Int32)) = (0 : Int32) then (0 : Int32) else (1 : Int32))), .val (.int v8_3), .val (.int lc), .val (.int ta), .val (.int tb_), .val (.int tc), .val (.int td), .val (.ref nb7), .val (.ref nb12), .val (.ref b17), .val (.int (0 : Int32)), .unset] []))
      refine Goes.via (fun _ kk_ => XS.iload X35.here hx rfl (hb hby at_214) rfl  kk_) ?_
      show Goes p e below _ (T35.setTop (mkF m 216 #[.val (.int x0), .val (.int x1), .val (.int x2), .val (.int x3), .val (.int x4), .val (.int x5), .val (.int v6_1), .val (.int (if (x3 &&& (1 : Int32)) = (0 : Int32) then (0 : Int32) else (1 : Int32))), .val (.int v8_3), .val (.int lc), .val (.int ta), .val (.int tb_), .val (.int tc), .val (.int td), .val (.ref nb7), .val (.ref nb12), .val (.ref b17), .val (.int (0 : Int32)), .unset] [(.int (0 : Int32))]))
      have hc216_170 : (0 : Int32) = (0 : Int32) := (by decide)
      refine Goes.via (fun _ kk_ => XS.ifYes X35.here hx rfl (pc0 := 216) (pc' := 223) rfl (hb hby at_216) rfl ((if0 _ _).trans (teq hc216_170).1) (by decide) (by decide) kk_) ?_
      show Goes p e below _ (T35.setTop (mkF m 223 #[.val (.int x0), .val (.int x1), .val (.int x2), .val (.int x3), .val (.int x4), .val (.int x5), .val (.int v6_1), .val (.int (if (x3 &&& (1 : Int32)) = (0 : Int32) then (0 : Int32) else (1 : Int32))), .val (.int v8_3), .val (.int lc), .val (.int ta), .val (.int tb_), .val (.int tc), .val (.int td), .val (.ref nb7), .val (.ref nb12), .val (.ref b17), .val (.int (0 : Int32)), .unset] []))
      refine Goes.via (fun _ kk_ => XS.iconst X35.here hx rfl (hb hby at_223) kk_) ?_
      show Goes p e below _ (T35.setTop (mkF m 224 #[.val (.int x0), .val (.int x1), .val (.int x2), .val (.int x3), .val (.int x4), .val (.int x5), .val (.int v6_1), .val (.int (if (x3 &&& (1 : Int32)) = (0 : Int32) then (0 : Int32) else (1 : Int32))), .val (.int v8_3), .val (.int lc), .val (.int ta), .val (.int tb_), .val (.int tc), .val (.int td), .val (.ref nb7), .val (.ref nb12), .val (.ref b17), .val (.int (0 : Int32)), .unset] [(.int (0 : Int32))]))
      refine Goes.via (fun _ kk_ => XS.istore X35.here hx rfl (hb hby at_224) rfl (l' := #[.val (.int x0), .val (.int x1), .val (.int x2), .val (.int x3), .val (.int x4), .val (.int x5), .val (.int v6_1), .val (.int (if (x3 &&& (1 : Int32)) = (0 : Int32) then (0 : Int32) else (1 : Int32))), .val (.int v8_3), .val (.int lc), .val (.int ta), .val (.int tb_), .val (.int tc), .val (.int td), .val (.ref nb7), .val (.ref nb12), .val (.ref b17), .val (.int (0 : Int32)), .val (.int (0 : Int32))]) rfl kk_) ?_
      show Goes p e below _ (T35.setTop (mkF m 226 #[.val (.int x0), .val (.int x1), .val (.int x2), .val (.int x3), .val (.int x4), .val (.int x5), .val (.int v6_1), .val (.int (if (x3 &&& (1 : Int32)) = (0 : Int32) then (0 : Int32) else (1 : Int32))), .val (.int v8_3), .val (.int lc), .val (.int ta), .val (.int tb_), .val (.int tc), .val (.int td), .val (.ref nb7), .val (.ref nb12), .val (.ref b17), .val (.int (0 : Int32)), .val (.int (0 : Int32))] []))
      refine Goes.via (fun _ kk_ => XS.aload X35.here hx rfl (hb hby at_226) rfl rfl  kk_) ?_
      show Goes p e below _ (T35.setTop (mkF m 228 #[.val (.int x0), .val (.int x1), .val (.int x2), .val (.int x3), .val (.int x4), .val (.int x5), .val (.int v6_1), .val (.int (if (x3 &&& (1 : Int32)) = (0 : Int32) then (0 : Int32) else (1 : Int32))), .val (.int v8_3), .val (.int lc), .val (.int ta), .val (.int tb_), .val (.int tc), .val (.int td), .val (.ref nb7), .val (.ref nb12), .val (.ref b17), .val (.int (0 : Int32)), .val (.int (0 : Int32))] [(.ref b17)]))
      refine Goes.via (fun _ kk_ => XS.aload X35.here hx rfl (hb hby at_228) rfl rfl  kk_) ?_
      show Goes p e below _ (T35.setTop (mkF m 230 #[.val (.int x0), .val (.int x1), .val (.int x2), .val (.int x3), .val (.int x4), .val (.int x5), .val (.int v6_1), .val (.int (if (x3 &&& (1 : Int32)) = (0 : Int32) then (0 : Int32) else (1 : Int32))), .val (.int v8_3), .val (.int lc), .val (.int ta), .val (.int tb_), .val (.int tc), .val (.int td), .val (.ref nb7), .val (.ref nb12), .val (.ref b17), .val (.int (0 : Int32)), .val (.int (0 : Int32))] [(.ref nb12), (.ref b17)]))
      have K171 : Keep h0 T35.heap [] := (K25.trans K35 (allS (Or.inr sz_b17) all0))
      have f172 : Sta Z T35.heap "com/example/map_rewriter/maprewriter/core/SExpression$Kind" "SYMBOL" "Lcom/example/map_rewriter/maprewriter/core/SExpression$Kind;" (.ref A0) := own_sta_keep OK0 K171
      have f173 : Exa Z T35.heap nb7 "java/lang/String" := ((f18.ext E17).keep K35)
      have f174 : Fld Z T35.heap nb7 "java/lang/String" "coder" "B" (.int (0 : Int32)) := (((u7_2.keep K12 nin0).ext E17).keep K35 (ninS ne19 nin0))
      have f175 : Fld Z T35.heap nb7 "java/lang/String" "value" "[B" (.ref tb7) := (((u7_3.keep K12 nin0).ext E17).keep K35 (ninS ne19 nin0))
      have f176 : Arv Z T35.heap tb7 tk7 .byte (own_n v8_3 ta tb_) (own_v v8_3 ta tb_) (.int 0) := ((f20.ext E17).keep K35 (ninS ne21 nin0))
      have f177 : Exa Z T35.heap nb12 "java/lang/String" := ((u12_1.ext E17).keep K35)
      have f178 : Fld Z T35.heap nb12 "java/lang/String" "coder" "B" (.int (0 : Int32)) := ((u12_2.ext E17).keep K35 (ninS ne22 nin0))
      have f179 : Fld Z T35.heap nb12 "java/lang/String" "value" "[B" (.ref tb12) := ((u12_3.ext E17).keep K35 (ninS ne22 nin0))
      have f180 : Arv Z T35.heap tb12 tk12 .byte (own_n lc tc td) (own_v lc tc td) (.int 0) := ((u12_4.ext E17).keep K35 (ninS ne23 nin0))
      have f181 : Sta Z T35.heap "java/lang/String" "COMPACT_STRINGS" "Z" (.int cS) := own_sta_keep OS K171
      have z183 : h0.size ≤ (T35.heap).size := (Nat.le_trans z34 K35.1)
      obtain ⟨cq182, kq182, q182a, q182b, q182c⟩ := isOf hZ rfl u35_0
      obtain ⟨_, _, ⟨T182, L182, k182, n182⟩, -, X182, ⟨Lc182, hQ182, l182, y182, z182⟩, st182⟩ := X35.virtualBack hx (y := (⟨"com/example/map_rewriter/maprewriter/core/SExpression$Atom", "isSymbol", "(Ljava/lang/String;)Z"⟩ : MethodName)) (z := (⟨"com/example/map_rewriter/maprewriter/core/SExpression$Atom", "isSymbol", "(Ljava/lang/String;)Z"⟩ : MethodName)) hown (mvT hZ (hw _ (List.mem_of_getElem? (i := 55) rfl))) (mvT hZ (hw _ (List.mem_of_getElem? (i := 56) rfl))) (notFace_of_selects (args := #[]) (mvT hZ (hw _ (List.mem_of_getElem? (i := 58) rfl)))) (mvT hZ (hw _ (List.mem_of_getElem? (i := 58) rfl))) (mvT hZ (hw _ (List.mem_of_getElem? (i := 57) rfl))) (by decide) (backOf (W := 0) (rm8 l Z a0 hw [] b17 nb12 A0 nb7 cS tb7 tk7 v8_3 ta tb_ tb12 tk12 lc tc td T35.heap n0 (Nat.le_trans Z0 z183) u35_1 u35_2 f172 f173 f174 f175 f176 f177 f178 f179 f180 f181 (by first | assumption | rfl | decide | omega | (simp; done)) ha hbb hc hd) hZ (hw _ (List.mem_of_getElem? (i := 59) rfl)) (hw _ (List.mem_of_getElem? (i := 29) rfl)) (by decide) (by decide)) q182a q182c (g := (mkF m 230 #[.val (.int x0), .val (.int x1), .val (.int x2), .val (.int x3), .val (.int x4), .val (.int x5), .val (.int v6_1), .val (.int (if (x3 &&& (1 : Int32)) = (0 : Int32) then (0 : Int32) else (1 : Int32))), .val (.int v8_3), .val (.int lc), .val (.int ta), .val (.int tb_), .val (.int tc), .val (.int td), .val (.ref nb7), .val (.ref nb12), .val (.ref b17), .val (.int (0 : Int32)), .val (.int (0 : Int32))] [(.ref nb12), (.ref b17)])) rfl (by rw [hml]; rfl) (Steps.refl _) (argsL := [(.ref nb12)]) (rest := []) (lenOf pd_7 rfl) rfl (by show 2 * 0 + _ ≤ _; exact Nat.le_of_eq rfl) (hb hby at_230) (fun _ _ => ⟨rfl, rfl, (by first | decide | omega | (dsimp only; omega) : 9 + 0 ≤ _), (by first | decide | omega | (dsimp only; omega) : 21 + 0 ≤ _)⟩)
      dsimp only [Pt.U, Pt.locs, Pt.cells, Pt.slots] at X182 l182 y182 z182 st182 hQ182
      subst l182 y182 z182
      obtain ⟨rfl, rfl, e182⟩ := hQ182
      first | rw [List.append_nil] at X182 | skip
      refine Goes.tr st182 ?_
      have e182' : T182.heap = T35.heap := e182
      have ne184 : nb7 ≠ tb12 := f173.neArv f180 (hw _ (List.mem_of_getElem? (i := 6) rfl))
      show Goes p e below _ (T182.setTop (mkF m 233 #[.val (.int x0), .val (.int x1), .val (.int x2), .val (.int x3), .val (.int x4), .val (.int x5), .val (.int v6_1), .val (.int (if (x3 &&& (1 : Int32)) = (0 : Int32) then (0 : Int32) else (1 : Int32))), .val (.int v8_3), .val (.int lc), .val (.int ta), .val (.int tb_), .val (.int tc), .val (.int td), .val (.ref nb7), .val (.ref nb12), .val (.ref b17), .val (.int (0 : Int32)), .val (.int (0 : Int32))] [(.int (if own_cs v8_3 ta tb_ = own_cs lc tc td then (1 : Int32) else (0 : Int32)))]))
      refine Goes.via (fun _ kk_ => XS.iload X182.here hx rfl (hb hby at_233) rfl  kk_) ?_
      show Goes p e below _ (T182.setTop (mkF m 235 #[.val (.int x0), .val (.int x1), .val (.int x2), .val (.int x3), .val (.int x4), .val (.int x5), .val (.int v6_1), .val (.int (if (x3 &&& (1 : Int32)) = (0 : Int32) then (0 : Int32) else (1 : Int32))), .val (.int v8_3), .val (.int lc), .val (.int ta), .val (.int tb_), .val (.int tc), .val (.int td), .val (.ref nb7), .val (.ref nb12), .val (.ref b17), .val (.int (0 : Int32)), .val (.int (0 : Int32))] [(.int (0 : Int32)), (.int (if own_cs v8_3 ta tb_ = own_cs lc tc td then (1 : Int32) else (0 : Int32)))]))
      have hc235_185 : (if own_cs v8_3 ta tb_ = own_cs lc tc td then (1 : Int32) else (0 : Int32)) = (0 : Int32) := (if_neg (fun q => hc173 ((own_same hlt hlc ha hbb hc hd).mp q).1))
      refine Goes.via (fun _ kk_ => XS.icmpNo X182.here hx rfl (hb hby at_235) rfl (teq hc235_185).2 kk_) ?_
      show Goes p e below _ (T182.setTop (mkF m 238 #[.val (.int x0), .val (.int x1), .val (.int x2), .val (.int x3), .val (.int x4), .val (.int x5), .val (.int v6_1), .val (.int (if (x3 &&& (1 : Int32)) = (0 : Int32) then (0 : Int32) else (1 : Int32))), .val (.int v8_3), .val (.int lc), .val (.int ta), .val (.int tb_), .val (.int tc), .val (.int td), .val (.ref nb7), .val (.ref nb12), .val (.ref b17), .val (.int (0 : Int32)), .val (.int (0 : Int32))] []))
      refine Goes.via (fun _ kk_ => XS.iconst X182.here hx rfl (hb hby at_238) kk_) ?_
      show Goes p e below _ (T182.setTop (mkF m 239 #[.val (.int x0), .val (.int x1), .val (.int x2), .val (.int x3), .val (.int x4), .val (.int x5), .val (.int v6_1), .val (.int (if (x3 &&& (1 : Int32)) = (0 : Int32) then (0 : Int32) else (1 : Int32))), .val (.int v8_3), .val (.int lc), .val (.int ta), .val (.int tb_), .val (.int tc), .val (.int td), .val (.ref nb7), .val (.ref nb12), .val (.ref b17), .val (.int (0 : Int32)), .val (.int (0 : Int32))] [(.int (1 : Int32))]))
      refine Goes.via (fun _ kk_ => XS.goto X182.here hx rfl (pc0 := 239) (pc' := 243) rfl (hb hby at_239) (by decide) (by decide) kk_) ?_
      show Goes p e below _ (T182.setTop (mkF m 243 #[.val (.int x0), .val (.int x1), .val (.int x2), .val (.int x3), .val (.int x4), .val (.int x5), .val (.int v6_1), .val (.int (if (x3 &&& (1 : Int32)) = (0 : Int32) then (0 : Int32) else (1 : Int32))), .val (.int v8_3), .val (.int lc), .val (.int ta), .val (.int tb_), .val (.int tc), .val (.int td), .val (.ref nb7), .val (.ref nb12), .val (.ref b17), .val (.int (0 : Int32)), .val (.int (0 : Int32))] [(.int (1 : Int32))]))
      have Ks186 : KS Z own_KL T12.vm (T35.heap) := ((Ks12.ext E17).keep K35 (allS (NoS.obj A17 (hw _ (List.mem_of_getElem? (i := 28) rfl)) (by decide)) all0))
      have hKe : KS Z own_KL T182.vm T182.heap := by rw [e182']; exact Ks186.at_ (s := s) X182.warmed
      have sk187 : _ ≤ (T35.heap).size := (Nat.le_trans (Nat.le_trans (Nat.le_refl _) E17.1) K35.1)
      exact own_wfinN X182 SI12 (by rw [e182']; exact sk187) (fun U_ hv hh_ => by show KS Z own_KL U_.vm U_.heap; rw [hv, hh_]; exact hKe) hx hlk hret (by simp) (hb hby at_243) (by rw [e182']; exact ⟨rfl, N35, K171⟩) (by first | decide | omega | (dsimp only; omega)) (by first | decide | omega | (dsimp only; omega))
  · skip
    show Goes p e below _ (T33.setTop (mkF m 156 #[.val (.int x0), .val (.int x1), .val (.int x2), .val (.int x3), .val (.int x4), .val (.int x5), .val (.int v6_1), .val (.int (if (x3 &&& (1 : Int32)) = (0 : Int32) then (0 : Int32) else (1 : Int32))), .val (.int v8_3), .val (.int lc), .val (.int ta), .val (.int tb_), .val (.int tc), .val (.int td), .val (.ref nb7), .val (.ref nb12), .unset, .unset, .unset] [(.ref ak33), (.ref b17), (.ref b17)]))
    refine Goes.via (fun _ kk_ => XS.aload X33.here hx rfl (hb hby at_156) rfl rfl  kk_) ?_
    show Goes p e below _ (T33.setTop (mkF m 158 #[.val (.int x0), .val (.int x1), .val (.int x2), .val (.int x3), .val (.int x4), .val (.int x5), .val (.int v6_1), .val (.int (if (x3 &&& (1 : Int32)) = (0 : Int32) then (0 : Int32) else (1 : Int32))), .val (.int v8_3), .val (.int lc), .val (.int ta), .val (.int tb_), .val (.int tc), .val (.int td), .val (.ref nb7), .val (.ref nb12), .unset, .unset, .unset] [(.ref nb7), (.ref ak33), (.ref b17), (.ref b17)]))
    refine Goes.via (fun _ kk_ => XS.iload X33.here hx rfl (hb hby at_158) rfl  kk_) ?_
    show Goes p e below _ (T33.setTop (mkF m 160 #[.val (.int x0), .val (.int x1), .val (.int x2), .val (.int x3), .val (.int x4), .val (.int x5), .val (.int v6_1), .val (.int (if (x3 &&& (1 : Int32)) = (0 : Int32) then (0 : Int32) else (1 : Int32))), .val (.int v8_3), .val (.int lc), .val (.int ta), .val (.int tb_), .val (.int tc), .val (.int td), .val (.ref nb7), .val (.ref nb12), .unset, .unset, .unset] [(.int (if (x3 &&& (1 : Int32)) = (0 : Int32) then (0 : Int32) else (1 : Int32))), (.ref nb7), (.ref ak33), (.ref b17), (.ref b17)]))
    refine Goes.via (fun _ kk_ => XS.iload X33.here hx rfl (hb hby at_160) rfl  kk_) ?_
    show Goes p e below _ (T33.setTop (mkF m 162 #[.val (.int x0), .val (.int x1), .val (.int x2), .val (.int x3), .val (.int x4), .val (.int x5), .val (.int v6_1), .val (.int (if (x3 &&& (1 : Int32)) = (0 : Int32) then (0 : Int32) else (1 : Int32))), .val (.int v8_3), .val (.int lc), .val (.int ta), .val (.int tb_), .val (.int tc), .val (.int td), .val (.ref nb7), .val (.ref nb12), .unset, .unset, .unset] [(.int x4), (.int (if (x3 &&& (1 : Int32)) = (0 : Int32) then (0 : Int32) else (1 : Int32))), (.ref nb7), (.ref ak33), (.ref b17), (.ref b17)]))
    refine Goes.via (fun _ kk_ => XS.iload X33.here hx rfl (hb hby at_162) rfl  kk_) ?_
    show Goes p e below _ (T33.setTop (mkF m 164 #[.val (.int x0), .val (.int x1), .val (.int x2), .val (.int x3), .val (.int x4), .val (.int x5), .val (.int v6_1), .val (.int (if (x3 &&& (1 : Int32)) = (0 : Int32) then (0 : Int32) else (1 : Int32))), .val (.int v8_3), .val (.int lc), .val (.int ta), .val (.int tb_), .val (.int tc), .val (.int td), .val (.ref nb7), .val (.ref nb12), .unset, .unset, .unset] [(.int x5), (.int x4), (.int (if (x3 &&& (1 : Int32)) = (0 : Int32) then (0 : Int32) else (1 : Int32))), (.ref nb7), (.ref ak33), (.ref b17), (.ref b17)]))
    obtain ⟨_, _, ⟨T188, L188, k188, n188⟩, -, X188, ⟨Lc188, hQ188, l188, y188, z188⟩, st188⟩ := X33.specialBack hx (y := (⟨"com/example/map_rewriter/maprewriter/core/SExpression$Atom", "<init>", "(Lcom/example/map_rewriter/maprewriter/core/SExpression$Kind;Ljava/lang/String;ZII)V"⟩ : MethodName)) rfl hown (mvT hZ (hw _ (List.mem_of_getElem? (i := 36) rfl))) (mvT hZ (hw _ (List.mem_of_getElem? (i := 37) rfl))) (mvT hZ (hw _ (List.mem_of_getElem? (i := 38) rfl))) (by decide) (backOf (W := 1) (rm6 l Z a0 hw [] b17 ak33 nb7 (if (x3 &&& (1 : Int32)) = (0 : Int32) then (0 : Int32) else (1 : Int32)) x4 x5 h17 n0 (Nat.le_trans Z0 z34) A17 F_line_b17 F_column_b17 gn_b17 F_kind_b17 F_text_b17 F_quoted_b17) hZ (hw _ (List.mem_of_getElem? (i := 38) rfl)) (hw _ (List.mem_of_getElem? (i := 29) rfl)) (by decide) (by decide)) (g := (mkF m 164 #[.val (.int x0), .val (.int x1), .val (.int x2), .val (.int x3), .val (.int x4), .val (.int x5), .val (.int v6_1), .val (.int (if (x3 &&& (1 : Int32)) = (0 : Int32) then (0 : Int32) else (1 : Int32))), .val (.int v8_3), .val (.int lc), .val (.int ta), .val (.int tb_), .val (.int tc), .val (.int td), .val (.ref nb7), .val (.ref nb12), .unset, .unset, .unset] [(.int x5), (.int x4), (.int (if (x3 &&& (1 : Int32)) = (0 : Int32) then (0 : Int32) else (1 : Int32))), (.ref nb7), (.ref ak33), (.ref b17), (.ref b17)])) rfl (by rw [hml]; rfl) (Steps.refl _) (a := b17) (argsL := [(.ref ak33), (.ref nb7), (.int (if (x3 &&& (1 : Int32)) = (0 : Int32) then (0 : Int32) else (1 : Int32))), (.int x4), (.int x5)]) (rest := [(.ref b17)]) (lenOf pd_6 rfl) rfl (by show 2 * 0 + _ ≤ _; exact Nat.le_of_eq rfl) (hb hby at_164) (fun _ _ => ⟨rfl, e33', (by first | decide | omega | (dsimp only; omega) : 9 + 0 ≤ _), (by first | decide | omega | (dsimp only; omega) : 21 + 0 ≤ _)⟩)
    dsimp only [Pt.U, Pt.locs, Pt.cells, Pt.slots] at X188 l188 y188 z188 st188 hQ188
    subst l188 y188 z188
    obtain ⟨rfl, N188q, K188, u188_0, u188_1, u188_2⟩ := hQ188
    have N188 := Fr.app N12 N188q
    refine Goes.tr st188 ?_
    show Goes p e below _ (T188.setTop (mkF m 167 #[.val (.int x0), .val (.int x1), .val (.int x2), .val (.int x3), .val (.int x4), .val (.int x5), .val (.int v6_1), .val (.int (if (x3 &&& (1 : Int32)) = (0 : Int32) then (0 : Int32) else (1 : Int32))), .val (.int v8_3), .val (.int lc), .val (.int ta), .val (.int tb_), .val (.int tc), .val (.int td), .val (.ref nb7), .val (.ref nb12), .unset, .unset, .unset] [(.ref b17)]))
    refine Goes.via (fun _ kk_ => XS.astore X188.here hx rfl (hb hby at_167) rfl rfl (l' := #[.val (.int x0), .val (.int x1), .val (.int x2), .val (.int x3), .val (.int x4), .val (.int x5), .val (.int v6_1), .val (.int (if (x3 &&& (1 : Int32)) = (0 : Int32) then (0 : Int32) else (1 : Int32))), .val (.int v8_3), .val (.int lc), .val (.int ta), .val (.int tb_), .val (.int tc), .val (.int td), .val (.ref nb7), .val (.ref nb12), .val (.ref b17), .unset, .unset]) rfl kk_) ?_
    show Goes p e below _ (T188.setTop (mkF m 169 #[.val (.int x0), .val (.int x1), .val (.int x2), .val (.int x3), .val (.int x4), .val (.int x5), .val (.int v6_1), .val (.int (if (x3 &&& (1 : Int32)) = (0 : Int32) then (0 : Int32) else (1 : Int32))), .val (.int v8_3), .val (.int lc), .val (.int ta), .val (.int tb_), .val (.int tc), .val (.int td), .val (.ref nb7), .val (.ref nb12), .val (.ref b17), .unset, .unset] []))
    refine Goes.via (fun _ kk_ => XS.iload X188.here hx rfl (hb hby at_169) rfl  kk_) ?_
    show Goes p e below _ (T188.setTop (mkF m 171 #[.val (.int x0), .val (.int x1), .val (.int x2), .val (.int x3), .val (.int x4), .val (.int x5), .val (.int v6_1), .val (.int (if (x3 &&& (1 : Int32)) = (0 : Int32) then (0 : Int32) else (1 : Int32))), .val (.int v8_3), .val (.int lc), .val (.int ta), .val (.int tb_), .val (.int tc), .val (.int td), .val (.ref nb7), .val (.ref nb12), .val (.ref b17), .unset, .unset] [(.int v8_3)]))
    refine Goes.via (fun _ kk_ => XS.iload X188.here hx rfl (hb hby at_171) rfl  kk_) ?_
    show Goes p e below _ (T188.setTop (mkF m 173 #[.val (.int x0), .val (.int x1), .val (.int x2), .val (.int x3), .val (.int x4), .val (.int x5), .val (.int v6_1), .val (.int (if (x3 &&& (1 : Int32)) = (0 : Int32) then (0 : Int32) else (1 : Int32))), .val (.int v8_3), .val (.int lc), .val (.int ta), .val (.int tb_), .val (.int tc), .val (.int td), .val (.ref nb7), .val (.ref nb12), .val (.ref b17), .unset, .unset] [(.int lc), (.int v8_3)]))
    by_cases hc173 : v8_3 = lc
    · skip
      refine Goes.via (fun _ kk_ => XS.icmpNo X188.here hx rfl (hb hby at_173) rfl (teq hc173).2 kk_) ?_
      show Goes p e below _ (T188.setTop (mkF m 176 #[.val (.int x0), .val (.int x1), .val (.int x2), .val (.int x3), .val (.int x4), .val (.int x5), .val (.int v6_1), .val (.int (if (x3 &&& (1 : Int32)) = (0 : Int32) then (0 : Int32) else (1 : Int32))), .val (.int v8_3), .val (.int lc), .val (.int ta), .val (.int tb_), .val (.int tc), .val (.int td), .val (.ref nb7), .val (.ref nb12), .val (.ref b17), .unset, .unset] []))
      refine Goes.via (fun _ kk_ => XS.iload X188.here hx rfl (hb hby at_176) rfl  kk_) ?_
      show Goes p e below _ (T188.setTop (mkF m 178 #[.val (.int x0), .val (.int x1), .val (.int x2), .val (.int x3), .val (.int x4), .val (.int x5), .val (.int v6_1), .val (.int (if (x3 &&& (1 : Int32)) = (0 : Int32) then (0 : Int32) else (1 : Int32))), .val (.int v8_3), .val (.int lc), .val (.int ta), .val (.int tb_), .val (.int tc), .val (.int td), .val (.ref nb7), .val (.ref nb12), .val (.ref b17), .unset, .unset] [(.int v8_3)]))
      refine Goes.via (fun _ kk_ => XS.iconst X188.here hx rfl (hb hby at_178) kk_) ?_
      show Goes p e below _ (T188.setTop (mkF m 179 #[.val (.int x0), .val (.int x1), .val (.int x2), .val (.int x3), .val (.int x4), .val (.int x5), .val (.int v6_1), .val (.int (if (x3 &&& (1 : Int32)) = (0 : Int32) then (0 : Int32) else (1 : Int32))), .val (.int v8_3), .val (.int lc), .val (.int ta), .val (.int tb_), .val (.int tc), .val (.int td), .val (.ref nb7), .val (.ref nb12), .val (.ref b17), .unset, .unset] [(.int (1 : Int32)), (.int v8_3)]))
      by_cases hc179 : v8_3 < (1 : Int32)
      · skip
        refine Goes.via (fun _ kk_ => XS.icmpYes X188.here hx rfl (pc0 := 179) (pc' := 189) rfl (hb hby at_179) rfl (tlt hc179).1 (by decide) (by decide) kk_) ?_
        show Goes p e below _ (T188.setTop (mkF m 189 #[.val (.int x0), .val (.int x1), .val (.int x2), .val (.int x3), .val (.int x4), .val (.int x5), .val (.int v6_1), .val (.int (if (x3 &&& (1 : Int32)) = (0 : Int32) then (0 : Int32) else (1 : Int32))), .val (.int v8_3), .val (.int lc), .val (.int ta), .val (.int tb_), .val (.int tc), .val (.int td), .val (.ref nb7), .val (.ref nb12), .val (.ref b17), .unset, .unset] []))
        refine Goes.via (fun _ kk_ => XS.iload X188.here hx rfl (hb hby at_189) rfl  kk_) ?_
        show Goes p e below _ (T188.setTop (mkF m 191 #[.val (.int x0), .val (.int x1), .val (.int x2), .val (.int x3), .val (.int x4), .val (.int x5), .val (.int v6_1), .val (.int (if (x3 &&& (1 : Int32)) = (0 : Int32) then (0 : Int32) else (1 : Int32))), .val (.int v8_3), .val (.int lc), .val (.int ta), .val (.int tb_), .val (.int tc), .val (.int td), .val (.ref nb7), .val (.ref nb12), .val (.ref b17), .unset, .unset] [(.int v8_3)]))
        refine Goes.via (fun _ kk_ => XS.iconst X188.here hx rfl (hb hby at_191) kk_) ?_
        show Goes p e below _ (T188.setTop (mkF m 192 #[.val (.int x0), .val (.int x1), .val (.int x2), .val (.int x3), .val (.int x4), .val (.int x5), .val (.int v6_1), .val (.int (if (x3 &&& (1 : Int32)) = (0 : Int32) then (0 : Int32) else (1 : Int32))), .val (.int v8_3), .val (.int lc), .val (.int ta), .val (.int tb_), .val (.int tc), .val (.int td), .val (.ref nb7), .val (.ref nb12), .val (.ref b17), .unset, .unset] [(.int (2 : Int32)), (.int v8_3)]))
        by_cases hc192 : v8_3 < (2 : Int32)
        · skip
          refine Goes.via (fun _ kk_ => XS.icmpYes X188.here hx rfl (pc0 := 192) (pc' := 202) rfl (hb hby at_192) rfl (tlt hc192).1 (by decide) (by decide) kk_) ?_
          show Goes p e below _ (T188.setTop (mkF m 202 #[.val (.int x0), .val (.int x1), .val (.int x2), .val (.int x3), .val (.int x4), .val (.int x5), .val (.int v6_1), .val (.int (if (x3 &&& (1 : Int32)) = (0 : Int32) then (0 : Int32) else (1 : Int32))), .val (.int v8_3), .val (.int lc), .val (.int ta), .val (.int tb_), .val (.int tc), .val (.int td), .val (.ref nb7), .val (.ref nb12), .val (.ref b17), .unset, .unset] []))
          refine Goes.via (fun _ kk_ => XS.iconst X188.here hx rfl (hb hby at_202) kk_) ?_
          show Goes p e below _ (T188.setTop (mkF m 203 #[.val (.int x0), .val (.int x1), .val (.int x2), .val (.int x3), .val (.int x4), .val (.int x5), .val (.int v6_1), .val (.int (if (x3 &&& (1 : Int32)) = (0 : Int32) then (0 : Int32) else (1 : Int32))), .val (.int v8_3), .val (.int lc), .val (.int ta), .val (.int tb_), .val (.int tc), .val (.int td), .val (.ref nb7), .val (.ref nb12), .val (.ref b17), .unset, .unset] [(.int (1 : Int32))]))
          refine Goes.via (fun _ kk_ => XS.goto X188.here hx rfl (pc0 := 203) (pc' := 207) rfl (hb hby at_203) (by decide) (by decide) kk_) ?_
          show Goes p e below _ (T188.setTop (mkF m 207 #[.val (.int x0), .val (.int x1), .val (.int x2), .val (.int x3), .val (.int x4), .val (.int x5), .val (.int v6_1), .val (.int (if (x3 &&& (1 : Int32)) = (0 : Int32) then (0 : Int32) else (1 : Int32))), .val (.int v8_3), .val (.int lc), .val (.int ta), .val (.int tb_), .val (.int tc), .val (.int td), .val (.ref nb7), .val (.ref nb12), .val (.ref b17), .unset, .unset] [(.int (1 : Int32))]))
          refine Goes.via (fun _ kk_ => XS.istore X188.here hx rfl (hb hby at_207) rfl (l' := #[.val (.int x0), .val (.int x1), .val (.int x2), .val (.int x3), .val (.int x4), .val (.int x5), .val (.int v6_1), .val (.int (if (x3 &&& (1 : Int32)) = (0 : Int32) then (0 : Int32) else (1 : Int32))), .val (.int v8_3), .val (.int lc), .val (.int ta), .val (.int tb_), .val (.int tc), .val (.int td), .val (.ref nb7), .val (.ref nb12), .val (.ref b17), .val (.int (1 : Int32)), .unset]) rfl kk_) ?_
          show Goes p e below _ (T188.setTop (mkF m 209 #[.val (.int x0), .val (.int x1), .val (.int x2), .val (.int x3), .val (.int x4), .val (.int x5), .val (.int v6_1), .val (.int (if (x3 &&& (1 : Int32)) = (0 : Int32) then (0 : Int32) else (1 : Int32))), .val (.int v8_3), .val (.int lc), .val (.int ta), .val (.int tb_), .val (.int tc), .val (.int td), .val (.ref nb7), .val (.ref nb12), .val (.ref b17), .val (.int (1 : Int32)), .unset] []))
          refine Goes.via (fun _ kk_ => XS.iload X188.here hx rfl (hb hby at_209) rfl  kk_) ?_
          show Goes p e below _ (T188.setTop (mkF m 211 #[.val (.int x0), .val (.int x1), .val (.int x2), .val (.int x3), .val (.int x4), .val (.int x5), .val (.int v6_1), .val (.int (if (x3 &&& (1 : Int32)) = (0 : Int32) then (0 : Int32) else (1 : Int32))), .val (.int v8_3), .val (.int lc), .val (.int ta), .val (.int tb_), .val (.int tc), .val (.int td), .val (.ref nb7), .val (.ref nb12), .val (.ref b17), .val (.int (1 : Int32)), .unset] [(.int v6_1)]))
          have hc211_189 : ¬ (v6_1 = (0 : Int32)) := hk0
          refine Goes.via (fun _ kk_ => XS.ifYes X188.here hx rfl (pc0 := 211) (pc' := 223) rfl (hb hby at_211) rfl ((if0 _ _).trans (feq hc211_189).2) (by decide) (by decide) kk_) ?_
          show Goes p e below _ (T188.setTop (mkF m 223 #[.val (.int x0), .val (.int x1), .val (.int x2), .val (.int x3), .val (.int x4), .val (.int x5), .val (.int v6_1), .val (.int (if (x3 &&& (1 : Int32)) = (0 : Int32) then (0 : Int32) else (1 : Int32))), .val (.int v8_3), .val (.int lc), .val (.int ta), .val (.int tb_), .val (.int tc), .val (.int td), .val (.ref nb7), .val (.ref nb12), .val (.ref b17), .val (.int (1 : Int32)), .unset] []))
          refine Goes.via (fun _ kk_ => XS.iconst X188.here hx rfl (hb hby at_223) kk_) ?_
          show Goes p e below _ (T188.setTop (mkF m 224 #[.val (.int x0), .val (.int x1), .val (.int x2), .val (.int x3), .val (.int x4), .val (.int x5), .val (.int v6_1), .val (.int (if (x3 &&& (1 : Int32)) = (0 : Int32) then (0 : Int32) else (1 : Int32))), .val (.int v8_3), .val (.int lc), .val (.int ta), .val (.int tb_), .val (.int tc), .val (.int td), .val (.ref nb7), .val (.ref nb12), .val (.ref b17), .val (.int (1 : Int32)), .unset] [(.int (0 : Int32))]))
          refine Goes.via (fun _ kk_ => XS.istore X188.here hx rfl (hb hby at_224) rfl (l' := #[.val (.int x0), .val (.int x1), .val (.int x2), .val (.int x3), .val (.int x4), .val (.int x5), .val (.int v6_1), .val (.int (if (x3 &&& (1 : Int32)) = (0 : Int32) then (0 : Int32) else (1 : Int32))), .val (.int v8_3), .val (.int lc), .val (.int ta), .val (.int tb_), .val (.int tc), .val (.int td), .val (.ref nb7), .val (.ref nb12), .val (.ref b17), .val (.int (1 : Int32)), .val (.int (0 : Int32))]) rfl kk_) ?_
          show Goes p e below _ (T188.setTop (mkF m 226 #[.val (.int x0), .val (.int x1), .val (.int x2), .val (.int x3), .val (.int x4), .val (.int x5), .val (.int v6_1), .val (.int (if (x3 &&& (1 : Int32)) = (0 : Int32) then (0 : Int32) else (1 : Int32))), .val (.int v8_3), .val (.int lc), .val (.int ta), .val (.int tb_), .val (.int tc), .val (.int td), .val (.ref nb7), .val (.ref nb12), .val (.ref b17), .val (.int (1 : Int32)), .val (.int (0 : Int32))] []))
          refine Goes.via (fun _ kk_ => XS.aload X188.here hx rfl (hb hby at_226) rfl rfl  kk_) ?_
          show Goes p e below _ (T188.setTop (mkF m 228 #[.val (.int x0), .val (.int x1), .val (.int x2), .val (.int x3), .val (.int x4), .val (.int x5), .val (.int v6_1), .val (.int (if (x3 &&& (1 : Int32)) = (0 : Int32) then (0 : Int32) else (1 : Int32))), .val (.int v8_3), .val (.int lc), .val (.int ta), .val (.int tb_), .val (.int tc), .val (.int td), .val (.ref nb7), .val (.ref nb12), .val (.ref b17), .val (.int (1 : Int32)), .val (.int (0 : Int32))] [(.ref b17)]))
          refine Goes.via (fun _ kk_ => XS.aload X188.here hx rfl (hb hby at_228) rfl rfl  kk_) ?_
          show Goes p e below _ (T188.setTop (mkF m 230 #[.val (.int x0), .val (.int x1), .val (.int x2), .val (.int x3), .val (.int x4), .val (.int x5), .val (.int v6_1), .val (.int (if (x3 &&& (1 : Int32)) = (0 : Int32) then (0 : Int32) else (1 : Int32))), .val (.int v8_3), .val (.int lc), .val (.int ta), .val (.int tb_), .val (.int tc), .val (.int td), .val (.ref nb7), .val (.ref nb12), .val (.ref b17), .val (.int (1 : Int32)), .val (.int (0 : Int32))] [(.ref nb12), (.ref b17)]))
          have K190 : Keep h0 T188.heap [] := (K25.trans K188 (allS (Or.inr sz_b17) all0))
          have f191 : Sta Z T188.heap "com/example/map_rewriter/maprewriter/core/SExpression$Kind" "SYMBOL" "Lcom/example/map_rewriter/maprewriter/core/SExpression$Kind;" (.ref A0) := own_sta_keep OK0 K190
          have z193 : h0.size ≤ (T188.heap).size := (Nat.le_trans z34 K188.1)
          obtain ⟨cq192, kq192, q192a, q192b, q192c⟩ := isOf hZ rfl u188_0
          obtain ⟨_, _, ⟨T192, L192, k192, n192⟩, -, X192, ⟨Lc192, hQ192, l192, y192, z192⟩, st192⟩ := X188.virtualBack hx (y := (⟨"com/example/map_rewriter/maprewriter/core/SExpression$Atom", "isSymbol", "(Ljava/lang/String;)Z"⟩ : MethodName)) (z := (⟨"com/example/map_rewriter/maprewriter/core/SExpression$Atom", "isSymbol", "(Ljava/lang/String;)Z"⟩ : MethodName)) hown (mvT hZ (hw _ (List.mem_of_getElem? (i := 55) rfl))) (mvT hZ (hw _ (List.mem_of_getElem? (i := 56) rfl))) (notFace_of_selects (args := #[]) (mvT hZ (hw _ (List.mem_of_getElem? (i := 58) rfl)))) (mvT hZ (hw _ (List.mem_of_getElem? (i := 58) rfl))) (mvT hZ (hw _ (List.mem_of_getElem? (i := 57) rfl))) (by decide) (backOf (W := 0) (rm8n l Z a0 hw [] b17 nb12 A0 ak33 T188.heap n0 (Nat.le_trans Z0 z193) u188_1 f191 hka) hZ (hw _ (List.mem_of_getElem? (i := 59) rfl)) (hw _ (List.mem_of_getElem? (i := 29) rfl)) (by decide) (by decide)) q192a q192c (g := (mkF m 230 #[.val (.int x0), .val (.int x1), .val (.int x2), .val (.int x3), .val (.int x4), .val (.int x5), .val (.int v6_1), .val (.int (if (x3 &&& (1 : Int32)) = (0 : Int32) then (0 : Int32) else (1 : Int32))), .val (.int v8_3), .val (.int lc), .val (.int ta), .val (.int tb_), .val (.int tc), .val (.int td), .val (.ref nb7), .val (.ref nb12), .val (.ref b17), .val (.int (1 : Int32)), .val (.int (0 : Int32))] [(.ref nb12), (.ref b17)])) rfl (by rw [hml]; rfl) (Steps.refl _) (argsL := [(.ref nb12)]) (rest := []) (lenOf pd_7 rfl) rfl (by show 2 * 0 + _ ≤ _; exact Nat.le_of_eq rfl) (hb hby at_230) (fun _ _ => ⟨rfl, rfl, (by first | decide | omega | (dsimp only; omega) : 9 + 0 ≤ _), (by first | decide | omega | (dsimp only; omega) : 21 + 0 ≤ _)⟩)
          dsimp only [Pt.U, Pt.locs, Pt.cells, Pt.slots] at X192 l192 y192 z192 st192 hQ192
          subst l192 y192 z192
          obtain ⟨rfl, rfl, e192⟩ := hQ192
          first | rw [List.append_nil] at X192 | skip
          refine Goes.tr st192 ?_
          have e192' : T192.heap = T188.heap := e192
          show Goes p e below _ (T192.setTop (mkF m 233 #[.val (.int x0), .val (.int x1), .val (.int x2), .val (.int x3), .val (.int x4), .val (.int x5), .val (.int v6_1), .val (.int (if (x3 &&& (1 : Int32)) = (0 : Int32) then (0 : Int32) else (1 : Int32))), .val (.int v8_3), .val (.int lc), .val (.int ta), .val (.int tb_), .val (.int tc), .val (.int td), .val (.ref nb7), .val (.ref nb12), .val (.ref b17), .val (.int (1 : Int32)), .val (.int (0 : Int32))] [(.int (0 : Int32))]))
          refine Goes.via (fun _ kk_ => XS.iload X192.here hx rfl (hb hby at_233) rfl  kk_) ?_
          show Goes p e below _ (T192.setTop (mkF m 235 #[.val (.int x0), .val (.int x1), .val (.int x2), .val (.int x3), .val (.int x4), .val (.int x5), .val (.int v6_1), .val (.int (if (x3 &&& (1 : Int32)) = (0 : Int32) then (0 : Int32) else (1 : Int32))), .val (.int v8_3), .val (.int lc), .val (.int ta), .val (.int tb_), .val (.int tc), .val (.int td), .val (.ref nb7), .val (.ref nb12), .val (.ref b17), .val (.int (1 : Int32)), .val (.int (0 : Int32))] [(.int (0 : Int32)), (.int (0 : Int32))]))
          have hc235_194 : (0 : Int32) = (0 : Int32) := (by decide)
          refine Goes.via (fun _ kk_ => XS.icmpNo X192.here hx rfl (hb hby at_235) rfl (teq hc235_194).2 kk_) ?_
          show Goes p e below _ (T192.setTop (mkF m 238 #[.val (.int x0), .val (.int x1), .val (.int x2), .val (.int x3), .val (.int x4), .val (.int x5), .val (.int v6_1), .val (.int (if (x3 &&& (1 : Int32)) = (0 : Int32) then (0 : Int32) else (1 : Int32))), .val (.int v8_3), .val (.int lc), .val (.int ta), .val (.int tb_), .val (.int tc), .val (.int td), .val (.ref nb7), .val (.ref nb12), .val (.ref b17), .val (.int (1 : Int32)), .val (.int (0 : Int32))] []))
          refine Goes.via (fun _ kk_ => XS.iconst X192.here hx rfl (hb hby at_238) kk_) ?_
          show Goes p e below _ (T192.setTop (mkF m 239 #[.val (.int x0), .val (.int x1), .val (.int x2), .val (.int x3), .val (.int x4), .val (.int x5), .val (.int v6_1), .val (.int (if (x3 &&& (1 : Int32)) = (0 : Int32) then (0 : Int32) else (1 : Int32))), .val (.int v8_3), .val (.int lc), .val (.int ta), .val (.int tb_), .val (.int tc), .val (.int td), .val (.ref nb7), .val (.ref nb12), .val (.ref b17), .val (.int (1 : Int32)), .val (.int (0 : Int32))] [(.int (1 : Int32))]))
          refine Goes.via (fun _ kk_ => XS.goto X192.here hx rfl (pc0 := 239) (pc' := 243) rfl (hb hby at_239) (by decide) (by decide) kk_) ?_
          show Goes p e below _ (T192.setTop (mkF m 243 #[.val (.int x0), .val (.int x1), .val (.int x2), .val (.int x3), .val (.int x4), .val (.int x5), .val (.int v6_1), .val (.int (if (x3 &&& (1 : Int32)) = (0 : Int32) then (0 : Int32) else (1 : Int32))), .val (.int v8_3), .val (.int lc), .val (.int ta), .val (.int tb_), .val (.int tc), .val (.int td), .val (.ref nb7), .val (.ref nb12), .val (.ref b17), .val (.int (1 : Int32)), .val (.int (0 : Int32))] [(.int (1 : Int32))]))
          have Ks195 : KS Z own_KL T12.vm (T188.heap) := ((Ks12.ext E17).keep K188 (allS (NoS.obj A17 (hw _ (List.mem_of_getElem? (i := 28) rfl)) (by decide)) all0))
          have hKe : KS Z own_KL T192.vm T192.heap := by rw [e192']; exact Ks195.at_ (s := s) X192.warmed
          have sk196 : _ ≤ (T188.heap).size := (Nat.le_trans (Nat.le_trans (Nat.le_refl _) E17.1) K188.1)
          exact own_wfinN X192 SI12 (by rw [e192']; exact sk196) (fun U_ hv hh_ => by show KS Z own_KL U_.vm U_.heap; rw [hv, hh_]; exact hKe) hx hlk hret (by simp) (hb hby at_243) (by rw [e192']; exact ⟨rfl, N188, K190⟩) (by first | decide | omega | (dsimp only; omega)) (by first | decide | omega | (dsimp only; omega))
        · skip
          refine Goes.via (fun _ kk_ => XS.icmpNo X188.here hx rfl (hb hby at_192) rfl (flt hc192).1 kk_) ?_
          show Goes p e below _ (T188.setTop (mkF m 195 #[.val (.int x0), .val (.int x1), .val (.int x2), .val (.int x3), .val (.int x4), .val (.int x5), .val (.int v6_1), .val (.int (if (x3 &&& (1 : Int32)) = (0 : Int32) then (0 : Int32) else (1 : Int32))), .val (.int v8_3), .val (.int lc), .val (.int ta), .val (.int tb_), .val (.int tc), .val (.int td), .val (.ref nb7), .val (.ref nb12), .val (.ref b17), .unset, .unset] []))
          refine Goes.via (fun _ kk_ => XS.iload X188.here hx rfl (hb hby at_195) rfl  kk_) ?_
          show Goes p e below _ (T188.setTop (mkF m 197 #[.val (.int x0), .val (.int x1), .val (.int x2), .val (.int x3), .val (.int x4), .val (.int x5), .val (.int v6_1), .val (.int (if (x3 &&& (1 : Int32)) = (0 : Int32) then (0 : Int32) else (1 : Int32))), .val (.int v8_3), .val (.int lc), .val (.int ta), .val (.int tb_), .val (.int tc), .val (.int td), .val (.ref nb7), .val (.ref nb12), .val (.ref b17), .unset, .unset] [(.int tb_)]))
          refine Goes.via (fun _ kk_ => XS.iload X188.here hx rfl (hb hby at_197) rfl  kk_) ?_
          show Goes p e below _ (T188.setTop (mkF m 199 #[.val (.int x0), .val (.int x1), .val (.int x2), .val (.int x3), .val (.int x4), .val (.int x5), .val (.int v6_1), .val (.int (if (x3 &&& (1 : Int32)) = (0 : Int32) then (0 : Int32) else (1 : Int32))), .val (.int v8_3), .val (.int lc), .val (.int ta), .val (.int tb_), .val (.int tc), .val (.int td), .val (.ref nb7), .val (.ref nb12), .val (.ref b17), .unset, .unset] [(.int td), (.int tb_)]))
          by_cases hc199 : tb_ = td
          · skip
            refine Goes.via (fun _ kk_ => XS.icmpNo X188.here hx rfl (hb hby at_199) rfl (teq hc199).2 kk_) ?_
            show Goes p e below _ (T188.setTop (mkF m 202 #[.val (.int x0), .val (.int x1), .val (.int x2), .val (.int x3), .val (.int x4), .val (.int x5), .val (.int v6_1), .val (.int (if (x3 &&& (1 : Int32)) = (0 : Int32) then (0 : Int32) else (1 : Int32))), .val (.int v8_3), .val (.int lc), .val (.int ta), .val (.int tb_), .val (.int tc), .val (.int td), .val (.ref nb7), .val (.ref nb12), .val (.ref b17), .unset, .unset] []))
            refine Goes.via (fun _ kk_ => XS.iconst X188.here hx rfl (hb hby at_202) kk_) ?_
            show Goes p e below _ (T188.setTop (mkF m 203 #[.val (.int x0), .val (.int x1), .val (.int x2), .val (.int x3), .val (.int x4), .val (.int x5), .val (.int v6_1), .val (.int (if (x3 &&& (1 : Int32)) = (0 : Int32) then (0 : Int32) else (1 : Int32))), .val (.int v8_3), .val (.int lc), .val (.int ta), .val (.int tb_), .val (.int tc), .val (.int td), .val (.ref nb7), .val (.ref nb12), .val (.ref b17), .unset, .unset] [(.int (1 : Int32))]))
            refine Goes.via (fun _ kk_ => XS.goto X188.here hx rfl (pc0 := 203) (pc' := 207) rfl (hb hby at_203) (by decide) (by decide) kk_) ?_
            show Goes p e below _ (T188.setTop (mkF m 207 #[.val (.int x0), .val (.int x1), .val (.int x2), .val (.int x3), .val (.int x4), .val (.int x5), .val (.int v6_1), .val (.int (if (x3 &&& (1 : Int32)) = (0 : Int32) then (0 : Int32) else (1 : Int32))), .val (.int v8_3), .val (.int lc), .val (.int ta), .val (.int tb_), .val (.int tc), .val (.int td), .val (.ref nb7), .val (.ref nb12), .val (.ref b17), .unset, .unset] [(.int (1 : Int32))]))
            refine Goes.via (fun _ kk_ => XS.istore X188.here hx rfl (hb hby at_207) rfl (l' := #[.val (.int x0), .val (.int x1), .val (.int x2), .val (.int x3), .val (.int x4), .val (.int x5), .val (.int v6_1), .val (.int (if (x3 &&& (1 : Int32)) = (0 : Int32) then (0 : Int32) else (1 : Int32))), .val (.int v8_3), .val (.int lc), .val (.int ta), .val (.int tb_), .val (.int tc), .val (.int td), .val (.ref nb7), .val (.ref nb12), .val (.ref b17), .val (.int (1 : Int32)), .unset]) rfl kk_) ?_
            show Goes p e below _ (T188.setTop (mkF m 209 #[.val (.int x0), .val (.int x1), .val (.int x2), .val (.int x3), .val (.int x4), .val (.int x5), .val (.int v6_1), .val (.int (if (x3 &&& (1 : Int32)) = (0 : Int32) then (0 : Int32) else (1 : Int32))), .val (.int v8_3), .val (.int lc), .val (.int ta), .val (.int tb_), .val (.int tc), .val (.int td), .val (.ref nb7), .val (.ref nb12), .val (.ref b17), .val (.int (1 : Int32)), .unset] []))
            refine Goes.via (fun _ kk_ => XS.iload X188.here hx rfl (hb hby at_209) rfl  kk_) ?_
            show Goes p e below _ (T188.setTop (mkF m 211 #[.val (.int x0), .val (.int x1), .val (.int x2), .val (.int x3), .val (.int x4), .val (.int x5), .val (.int v6_1), .val (.int (if (x3 &&& (1 : Int32)) = (0 : Int32) then (0 : Int32) else (1 : Int32))), .val (.int v8_3), .val (.int lc), .val (.int ta), .val (.int tb_), .val (.int tc), .val (.int td), .val (.ref nb7), .val (.ref nb12), .val (.ref b17), .val (.int (1 : Int32)), .unset] [(.int v6_1)]))
            have hc211_197 : ¬ (v6_1 = (0 : Int32)) := hk0
            refine Goes.via (fun _ kk_ => XS.ifYes X188.here hx rfl (pc0 := 211) (pc' := 223) rfl (hb hby at_211) rfl ((if0 _ _).trans (feq hc211_197).2) (by decide) (by decide) kk_) ?_
            show Goes p e below _ (T188.setTop (mkF m 223 #[.val (.int x0), .val (.int x1), .val (.int x2), .val (.int x3), .val (.int x4), .val (.int x5), .val (.int v6_1), .val (.int (if (x3 &&& (1 : Int32)) = (0 : Int32) then (0 : Int32) else (1 : Int32))), .val (.int v8_3), .val (.int lc), .val (.int ta), .val (.int tb_), .val (.int tc), .val (.int td), .val (.ref nb7), .val (.ref nb12), .val (.ref b17), .val (.int (1 : Int32)), .unset] []))
            refine Goes.via (fun _ kk_ => XS.iconst X188.here hx rfl (hb hby at_223) kk_) ?_
            show Goes p e below _ (T188.setTop (mkF m 224 #[.val (.int x0), .val (.int x1), .val (.int x2), .val (.int x3), .val (.int x4), .val (.int x5), .val (.int v6_1), .val (.int (if (x3 &&& (1 : Int32)) = (0 : Int32) then (0 : Int32) else (1 : Int32))), .val (.int v8_3), .val (.int lc), .val (.int ta), .val (.int tb_), .val (.int tc), .val (.int td), .val (.ref nb7), .val (.ref nb12), .val (.ref b17), .val (.int (1 : Int32)), .unset] [(.int (0 : Int32))]))
            refine Goes.via (fun _ kk_ => XS.istore X188.here hx rfl (hb hby at_224) rfl (l' := #[.val (.int x0), .val (.int x1), .val (.int x2), .val (.int x3), .val (.int x4), .val (.int x5), .val (.int v6_1), .val (.int (if (x3 &&& (1 : Int32)) = (0 : Int32) then (0 : Int32) else (1 : Int32))), .val (.int v8_3), .val (.int lc), .val (.int ta), .val (.int tb_), .val (.int tc), .val (.int td), .val (.ref nb7), .val (.ref nb12), .val (.ref b17), .val (.int (1 : Int32)), .val (.int (0 : Int32))]) rfl kk_) ?_
            show Goes p e below _ (T188.setTop (mkF m 226 #[.val (.int x0), .val (.int x1), .val (.int x2), .val (.int x3), .val (.int x4), .val (.int x5), .val (.int v6_1), .val (.int (if (x3 &&& (1 : Int32)) = (0 : Int32) then (0 : Int32) else (1 : Int32))), .val (.int v8_3), .val (.int lc), .val (.int ta), .val (.int tb_), .val (.int tc), .val (.int td), .val (.ref nb7), .val (.ref nb12), .val (.ref b17), .val (.int (1 : Int32)), .val (.int (0 : Int32))] []))
            refine Goes.via (fun _ kk_ => XS.aload X188.here hx rfl (hb hby at_226) rfl rfl  kk_) ?_
            show Goes p e below _ (T188.setTop (mkF m 228 #[.val (.int x0), .val (.int x1), .val (.int x2), .val (.int x3), .val (.int x4), .val (.int x5), .val (.int v6_1), .val (.int (if (x3 &&& (1 : Int32)) = (0 : Int32) then (0 : Int32) else (1 : Int32))), .val (.int v8_3), .val (.int lc), .val (.int ta), .val (.int tb_), .val (.int tc), .val (.int td), .val (.ref nb7), .val (.ref nb12), .val (.ref b17), .val (.int (1 : Int32)), .val (.int (0 : Int32))] [(.ref b17)]))
            refine Goes.via (fun _ kk_ => XS.aload X188.here hx rfl (hb hby at_228) rfl rfl  kk_) ?_
            show Goes p e below _ (T188.setTop (mkF m 230 #[.val (.int x0), .val (.int x1), .val (.int x2), .val (.int x3), .val (.int x4), .val (.int x5), .val (.int v6_1), .val (.int (if (x3 &&& (1 : Int32)) = (0 : Int32) then (0 : Int32) else (1 : Int32))), .val (.int v8_3), .val (.int lc), .val (.int ta), .val (.int tb_), .val (.int tc), .val (.int td), .val (.ref nb7), .val (.ref nb12), .val (.ref b17), .val (.int (1 : Int32)), .val (.int (0 : Int32))] [(.ref nb12), (.ref b17)]))
            have K198 : Keep h0 T188.heap [] := (K25.trans K188 (allS (Or.inr sz_b17) all0))
            have f199 : Sta Z T188.heap "com/example/map_rewriter/maprewriter/core/SExpression$Kind" "SYMBOL" "Lcom/example/map_rewriter/maprewriter/core/SExpression$Kind;" (.ref A0) := own_sta_keep OK0 K198
            have z201 : h0.size ≤ (T188.heap).size := (Nat.le_trans z34 K188.1)
            obtain ⟨cq200, kq200, q200a, q200b, q200c⟩ := isOf hZ rfl u188_0
            obtain ⟨_, _, ⟨T200, L200, k200, n200⟩, -, X200, ⟨Lc200, hQ200, l200, y200, z200⟩, st200⟩ := X188.virtualBack hx (y := (⟨"com/example/map_rewriter/maprewriter/core/SExpression$Atom", "isSymbol", "(Ljava/lang/String;)Z"⟩ : MethodName)) (z := (⟨"com/example/map_rewriter/maprewriter/core/SExpression$Atom", "isSymbol", "(Ljava/lang/String;)Z"⟩ : MethodName)) hown (mvT hZ (hw _ (List.mem_of_getElem? (i := 55) rfl))) (mvT hZ (hw _ (List.mem_of_getElem? (i := 56) rfl))) (notFace_of_selects (args := #[]) (mvT hZ (hw _ (List.mem_of_getElem? (i := 58) rfl)))) (mvT hZ (hw _ (List.mem_of_getElem? (i := 58) rfl))) (mvT hZ (hw _ (List.mem_of_getElem? (i := 57) rfl))) (by decide) (backOf (W := 0) (rm8n l Z a0 hw [] b17 nb12 A0 ak33 T188.heap n0 (Nat.le_trans Z0 z201) u188_1 f199 hka) hZ (hw _ (List.mem_of_getElem? (i := 59) rfl)) (hw _ (List.mem_of_getElem? (i := 29) rfl)) (by decide) (by decide)) q200a q200c (g := (mkF m 230 #[.val (.int x0), .val (.int x1), .val (.int x2), .val (.int x3), .val (.int x4), .val (.int x5), .val (.int v6_1), .val (.int (if (x3 &&& (1 : Int32)) = (0 : Int32) then (0 : Int32) else (1 : Int32))), .val (.int v8_3), .val (.int lc), .val (.int ta), .val (.int tb_), .val (.int tc), .val (.int td), .val (.ref nb7), .val (.ref nb12), .val (.ref b17), .val (.int (1 : Int32)), .val (.int (0 : Int32))] [(.ref nb12), (.ref b17)])) rfl (by rw [hml]; rfl) (Steps.refl _) (argsL := [(.ref nb12)]) (rest := []) (lenOf pd_7 rfl) rfl (by show 2 * 0 + _ ≤ _; exact Nat.le_of_eq rfl) (hb hby at_230) (fun _ _ => ⟨rfl, rfl, (by first | decide | omega | (dsimp only; omega) : 9 + 0 ≤ _), (by first | decide | omega | (dsimp only; omega) : 21 + 0 ≤ _)⟩)
            dsimp only [Pt.U, Pt.locs, Pt.cells, Pt.slots] at X200 l200 y200 z200 st200 hQ200
            subst l200 y200 z200
            obtain ⟨rfl, rfl, e200⟩ := hQ200
            first | rw [List.append_nil] at X200 | skip
            refine Goes.tr st200 ?_
            have e200' : T200.heap = T188.heap := e200
            show Goes p e below _ (T200.setTop (mkF m 233 #[.val (.int x0), .val (.int x1), .val (.int x2), .val (.int x3), .val (.int x4), .val (.int x5), .val (.int v6_1), .val (.int (if (x3 &&& (1 : Int32)) = (0 : Int32) then (0 : Int32) else (1 : Int32))), .val (.int v8_3), .val (.int lc), .val (.int ta), .val (.int tb_), .val (.int tc), .val (.int td), .val (.ref nb7), .val (.ref nb12), .val (.ref b17), .val (.int (1 : Int32)), .val (.int (0 : Int32))] [(.int (0 : Int32))]))
            refine Goes.via (fun _ kk_ => XS.iload X200.here hx rfl (hb hby at_233) rfl  kk_) ?_
            show Goes p e below _ (T200.setTop (mkF m 235 #[.val (.int x0), .val (.int x1), .val (.int x2), .val (.int x3), .val (.int x4), .val (.int x5), .val (.int v6_1), .val (.int (if (x3 &&& (1 : Int32)) = (0 : Int32) then (0 : Int32) else (1 : Int32))), .val (.int v8_3), .val (.int lc), .val (.int ta), .val (.int tb_), .val (.int tc), .val (.int td), .val (.ref nb7), .val (.ref nb12), .val (.ref b17), .val (.int (1 : Int32)), .val (.int (0 : Int32))] [(.int (0 : Int32)), (.int (0 : Int32))]))
            have hc235_202 : (0 : Int32) = (0 : Int32) := (by decide)
            refine Goes.via (fun _ kk_ => XS.icmpNo X200.here hx rfl (hb hby at_235) rfl (teq hc235_202).2 kk_) ?_
            show Goes p e below _ (T200.setTop (mkF m 238 #[.val (.int x0), .val (.int x1), .val (.int x2), .val (.int x3), .val (.int x4), .val (.int x5), .val (.int v6_1), .val (.int (if (x3 &&& (1 : Int32)) = (0 : Int32) then (0 : Int32) else (1 : Int32))), .val (.int v8_3), .val (.int lc), .val (.int ta), .val (.int tb_), .val (.int tc), .val (.int td), .val (.ref nb7), .val (.ref nb12), .val (.ref b17), .val (.int (1 : Int32)), .val (.int (0 : Int32))] []))
            refine Goes.via (fun _ kk_ => XS.iconst X200.here hx rfl (hb hby at_238) kk_) ?_
            show Goes p e below _ (T200.setTop (mkF m 239 #[.val (.int x0), .val (.int x1), .val (.int x2), .val (.int x3), .val (.int x4), .val (.int x5), .val (.int v6_1), .val (.int (if (x3 &&& (1 : Int32)) = (0 : Int32) then (0 : Int32) else (1 : Int32))), .val (.int v8_3), .val (.int lc), .val (.int ta), .val (.int tb_), .val (.int tc), .val (.int td), .val (.ref nb7), .val (.ref nb12), .val (.ref b17), .val (.int (1 : Int32)), .val (.int (0 : Int32))] [(.int (1 : Int32))]))
            refine Goes.via (fun _ kk_ => XS.goto X200.here hx rfl (pc0 := 239) (pc' := 243) rfl (hb hby at_239) (by decide) (by decide) kk_) ?_
            show Goes p e below _ (T200.setTop (mkF m 243 #[.val (.int x0), .val (.int x1), .val (.int x2), .val (.int x3), .val (.int x4), .val (.int x5), .val (.int v6_1), .val (.int (if (x3 &&& (1 : Int32)) = (0 : Int32) then (0 : Int32) else (1 : Int32))), .val (.int v8_3), .val (.int lc), .val (.int ta), .val (.int tb_), .val (.int tc), .val (.int td), .val (.ref nb7), .val (.ref nb12), .val (.ref b17), .val (.int (1 : Int32)), .val (.int (0 : Int32))] [(.int (1 : Int32))]))
            have Ks203 : KS Z own_KL T12.vm (T188.heap) := ((Ks12.ext E17).keep K188 (allS (NoS.obj A17 (hw _ (List.mem_of_getElem? (i := 28) rfl)) (by decide)) all0))
            have hKe : KS Z own_KL T200.vm T200.heap := by rw [e200']; exact Ks203.at_ (s := s) X200.warmed
            have sk204 : _ ≤ (T188.heap).size := (Nat.le_trans (Nat.le_trans (Nat.le_refl _) E17.1) K188.1)
            exact own_wfinN X200 SI12 (by rw [e200']; exact sk204) (fun U_ hv hh_ => by show KS Z own_KL U_.vm U_.heap; rw [hv, hh_]; exact hKe) hx hlk hret (by simp) (hb hby at_243) (by rw [e200']; exact ⟨rfl, N188, K198⟩) (by first | decide | omega | (dsimp only; omega)) (by first | decide | omega | (dsimp only; omega))
          · skip
            refine Goes.via (fun _ kk_ => XS.icmpYes X188.here hx rfl (pc0 := 199) (pc' := 206) rfl (hb hby at_199) rfl (feq hc199).2 (by decide) (by decide) kk_) ?_
            show Goes p e below _ (T188.setTop (mkF m 206 #[.val (.int x0), .val (.int x1), .val (.int x2), .val (.int x3), .val (.int x4), .val (.int x5), .val (.int v6_1), .val (.int (if (x3 &&& (1 : Int32)) = (0 : Int32) then (0 : Int32) else (1 : Int32))), .val (.int v8_3), .val (.int lc), .val (.int ta), .val (.int tb_), .val (.int tc), .val (.int td), .val (.ref nb7), .val (.ref nb12), .val (.ref b17), .unset, .unset] []))
            refine Goes.via (fun _ kk_ => XS.iconst X188.here hx rfl (hb hby at_206) kk_) ?_
            show Goes p e below _ (T188.setTop (mkF m 207 #[.val (.int x0), .val (.int x1), .val (.int x2), .val (.int x3), .val (.int x4), .val (.int x5), .val (.int v6_1), .val (.int (if (x3 &&& (1 : Int32)) = (0 : Int32) then (0 : Int32) else (1 : Int32))), .val (.int v8_3), .val (.int lc), .val (.int ta), .val (.int tb_), .val (.int tc), .val (.int td), .val (.ref nb7), .val (.ref nb12), .val (.ref b17), .unset, .unset] [(.int (0 : Int32))]))
            refine Goes.via (fun _ kk_ => XS.istore X188.here hx rfl (hb hby at_207) rfl (l' := #[.val (.int x0), .val (.int x1), .val (.int x2), .val (.int x3), .val (.int x4), .val (.int x5), .val (.int v6_1), .val (.int (if (x3 &&& (1 : Int32)) = (0 : Int32) then (0 : Int32) else (1 : Int32))), .val (.int v8_3), .val (.int lc), .val (.int ta), .val (.int tb_), .val (.int tc), .val (.int td), .val (.ref nb7), .val (.ref nb12), .val (.ref b17), .val (.int (0 : Int32)), .unset]) rfl kk_) ?_
            show Goes p e below _ (T188.setTop (mkF m 209 #[.val (.int x0), .val (.int x1), .val (.int x2), .val (.int x3), .val (.int x4), .val (.int x5), .val (.int v6_1), .val (.int (if (x3 &&& (1 : Int32)) = (0 : Int32) then (0 : Int32) else (1 : Int32))), .val (.int v8_3), .val (.int lc), .val (.int ta), .val (.int tb_), .val (.int tc), .val (.int td), .val (.ref nb7), .val (.ref nb12), .val (.ref b17), .val (.int (0 : Int32)), .unset] []))
            refine Goes.via (fun _ kk_ => XS.iload X188.here hx rfl (hb hby at_209) rfl  kk_) ?_
            show Goes p e below _ (T188.setTop (mkF m 211 #[.val (.int x0), .val (.int x1), .val (.int x2), .val (.int x3), .val (.int x4), .val (.int x5), .val (.int v6_1), .val (.int (if (x3 &&& (1 : Int32)) = (0 : Int32) then (0 : Int32) else (1 : Int32))), .val (.int v8_3), .val (.int lc), .val (.int ta), .val (.int tb_), .val (.int tc), .val (.int td), .val (.ref nb7), .val (.ref nb12), .val (.ref b17), .val (.int (0 : Int32)), .unset] [(.int v6_1)]))
            have hc211_205 : ¬ (v6_1 = (0 : Int32)) := hk0
            refine Goes.via (fun _ kk_ => XS.ifYes X188.here hx rfl (pc0 := 211) (pc' := 223) rfl (hb hby at_211) rfl ((if0 _ _).trans (feq hc211_205).2) (by decide) (by decide) kk_) ?_
            show Goes p e below _ (T188.setTop (mkF m 223 #[.val (.int x0), .val (.int x1), .val (.int x2), .val (.int x3), .val (.int x4), .val (.int x5), .val (.int v6_1), .val (.int (if (x3 &&& (1 : Int32)) = (0 : Int32) then (0 : Int32) else (1 : Int32))), .val (.int v8_3), .val (.int lc), .val (.int ta), .val (.int tb_), .val (.int tc), .val (.int td), .val (.ref nb7), .val (.ref nb12), .val (.ref b17), .val (.int (0 : Int32)), .unset] []))
            refine Goes.via (fun _ kk_ => XS.iconst X188.here hx rfl (hb hby at_223) kk_) ?_
            show Goes p e below _ (T188.setTop (mkF m 224 #[.val (.int x0), .val (.int x1), .val (.int x2), .val (.int x3), .val (.int x4), .val (.int x5), .val (.int v6_1), .val (.int (if (x3 &&& (1 : Int32)) = (0 : Int32) then (0 : Int32) else (1 : Int32))), .val (.int v8_3), .val (.int lc), .val (.int ta), .val (.int tb_), .val (.int tc), .val (.int td), .val (.ref nb7), .val (.ref nb12), .val (.ref b17), .val (.int (0 : Int32)), .unset] [(.int (0 : Int32))]))
            refine Goes.via (fun _ kk_ => XS.istore X188.here hx rfl (hb hby at_224) rfl (l' := #[.val (.int x0), .val (.int x1), .val (.int x2), .val (.int x3), .val (.int x4), .val (.int x5), .val (.int v6_1), .val (.int (if (x3 &&& (1 : Int32)) = (0 : Int32) then (0 : Int32) else (1 : Int32))), .val (.int v8_3), .val (.int lc), .val (.int ta), .val (.int tb_), .val (.int tc), .val (.int td), .val (.ref nb7), .val (.ref nb12), .val (.ref b17), .val (.int (0 : Int32)), .val (.int (0 : Int32))]) rfl kk_) ?_
            show Goes p e below _ (T188.setTop (mkF m 226 #[.val (.int x0), .val (.int x1), .val (.int x2), .val (.int x3), .val (.int x4), .val (.int x5), .val (.int v6_1), .val (.int (if (x3 &&& (1 : Int32)) = (0 : Int32) then (0 : Int32) else (1 : Int32))), .val (.int v8_3), .val (.int lc), .val (.int ta), .val (.int tb_), .val (.int tc), .val (.int td), .val (.ref nb7), .val (.ref nb12), .val (.ref b17), .val (.int (0 : Int32)), .val (.int (0 : Int32))] []))
            refine Goes.via (fun _ kk_ => XS.aload X188.here hx rfl (hb hby at_226) rfl rfl  kk_) ?_
            show Goes p e below _ (T188.setTop (mkF m 228 #[.val (.int x0), .val (.int x1), .val (.int x2), .val (.int x3), .val (.int x4), .val (.int x5), .val (.int v6_1), .val (.int (if (x3 &&& (1 : Int32)) = (0 : Int32) then (0 : Int32) else (1 : Int32))), .val (.int v8_3), .val (.int lc), .val (.int ta), .val (.int tb_), .val (.int tc), .val (.int td), .val (.ref nb7), .val (.ref nb12), .val (.ref b17), .val (.int (0 : Int32)), .val (.int (0 : Int32))] [(.ref b17)]))
            refine Goes.via (fun _ kk_ => XS.aload X188.here hx rfl (hb hby at_228) rfl rfl  kk_) ?_
            show Goes p e below _ (T188.setTop (mkF m 230 #[.val (.int x0), .val (.int x1), .val (.int x2), .val (.int x3), .val (.int x4), .val (.int x5), .val (.int v6_1), .val (.int (if (x3 &&& (1 : Int32)) = (0 : Int32) then (0 : Int32) else (1 : Int32))), .val (.int v8_3), .val (.int lc), .val (.int ta), .val (.int tb_), .val (.int tc), .val (.int td), .val (.ref nb7), .val (.ref nb12), .val (.ref b17), .val (.int (0 : Int32)), .val (.int (0 : Int32))] [(.ref nb12), (.ref b17)]))
            have K206 : Keep h0 T188.heap [] := (K25.trans K188 (allS (Or.inr sz_b17) all0))
            have f207 : Sta Z T188.heap "com/example/map_rewriter/maprewriter/core/SExpression$Kind" "SYMBOL" "Lcom/example/map_rewriter/maprewriter/core/SExpression$Kind;" (.ref A0) := own_sta_keep OK0 K206
            have z209 : h0.size ≤ (T188.heap).size := (Nat.le_trans z34 K188.1)
            obtain ⟨cq208, kq208, q208a, q208b, q208c⟩ := isOf hZ rfl u188_0
            obtain ⟨_, _, ⟨T208, L208, k208, n208⟩, -, X208, ⟨Lc208, hQ208, l208, y208, z208⟩, st208⟩ := X188.virtualBack hx (y := (⟨"com/example/map_rewriter/maprewriter/core/SExpression$Atom", "isSymbol", "(Ljava/lang/String;)Z"⟩ : MethodName)) (z := (⟨"com/example/map_rewriter/maprewriter/core/SExpression$Atom", "isSymbol", "(Ljava/lang/String;)Z"⟩ : MethodName)) hown (mvT hZ (hw _ (List.mem_of_getElem? (i := 55) rfl))) (mvT hZ (hw _ (List.mem_of_getElem? (i := 56) rfl))) (notFace_of_selects (args := #[]) (mvT hZ (hw _ (List.mem_of_getElem? (i := 58) rfl)))) (mvT hZ (hw _ (List.mem_of_getElem? (i := 58) rfl))) (mvT hZ (hw _ (List.mem_of_getElem? (i := 57) rfl))) (by decide) (backOf (W := 0) (rm8n l Z a0 hw [] b17 nb12 A0 ak33 T188.heap n0 (Nat.le_trans Z0 z209) u188_1 f207 hka) hZ (hw _ (List.mem_of_getElem? (i := 59) rfl)) (hw _ (List.mem_of_getElem? (i := 29) rfl)) (by decide) (by decide)) q208a q208c (g := (mkF m 230 #[.val (.int x0), .val (.int x1), .val (.int x2), .val (.int x3), .val (.int x4), .val (.int x5), .val (.int v6_1), .val (.int (if (x3 &&& (1 : Int32)) = (0 : Int32) then (0 : Int32) else (1 : Int32))), .val (.int v8_3), .val (.int lc), .val (.int ta), .val (.int tb_), .val (.int tc), .val (.int td), .val (.ref nb7), .val (.ref nb12), .val (.ref b17), .val (.int (0 : Int32)), .val (.int (0 : Int32))] [(.ref nb12), (.ref b17)])) rfl (by rw [hml]; rfl) (Steps.refl _) (argsL := [(.ref nb12)]) (rest := []) (lenOf pd_7 rfl) rfl (by show 2 * 0 + _ ≤ _; exact Nat.le_of_eq rfl) (hb hby at_230) (fun _ _ => ⟨rfl, rfl, (by first | decide | omega | (dsimp only; omega) : 9 + 0 ≤ _), (by first | decide | omega | (dsimp only; omega) : 21 + 0 ≤ _)⟩)
            dsimp only [Pt.U, Pt.locs, Pt.cells, Pt.slots] at X208 l208 y208 z208 st208 hQ208
            subst l208 y208 z208
            obtain ⟨rfl, rfl, e208⟩ := hQ208
            first | rw [List.append_nil] at X208 | skip
            refine Goes.tr st208 ?_
            have e208' : T208.heap = T188.heap := e208
            show Goes p e below _ (T208.setTop (mkF m 233 #[.val (.int x0), .val (.int x1), .val (.int x2), .val (.int x3), .val (.int x4), .val (.int x5), .val (.int v6_1), .val (.int (if (x3 &&& (1 : Int32)) = (0 : Int32) then (0 : Int32) else (1 : Int32))), .val (.int v8_3), .val (.int lc), .val (.int ta), .val (.int tb_), .val (.int tc), .val (.int td), .val (.ref nb7), .val (.ref nb12), .val (.ref b17), .val (.int (0 : Int32)), .val (.int (0 : Int32))] [(.int (0 : Int32))]))
            refine Goes.via (fun _ kk_ => XS.iload X208.here hx rfl (hb hby at_233) rfl  kk_) ?_
            show Goes p e below _ (T208.setTop (mkF m 235 #[.val (.int x0), .val (.int x1), .val (.int x2), .val (.int x3), .val (.int x4), .val (.int x5), .val (.int v6_1), .val (.int (if (x3 &&& (1 : Int32)) = (0 : Int32) then (0 : Int32) else (1 : Int32))), .val (.int v8_3), .val (.int lc), .val (.int ta), .val (.int tb_), .val (.int tc), .val (.int td), .val (.ref nb7), .val (.ref nb12), .val (.ref b17), .val (.int (0 : Int32)), .val (.int (0 : Int32))] [(.int (0 : Int32)), (.int (0 : Int32))]))
            have hc235_210 : (0 : Int32) = (0 : Int32) := (by decide)
            refine Goes.via (fun _ kk_ => XS.icmpNo X208.here hx rfl (hb hby at_235) rfl (teq hc235_210).2 kk_) ?_
            show Goes p e below _ (T208.setTop (mkF m 238 #[.val (.int x0), .val (.int x1), .val (.int x2), .val (.int x3), .val (.int x4), .val (.int x5), .val (.int v6_1), .val (.int (if (x3 &&& (1 : Int32)) = (0 : Int32) then (0 : Int32) else (1 : Int32))), .val (.int v8_3), .val (.int lc), .val (.int ta), .val (.int tb_), .val (.int tc), .val (.int td), .val (.ref nb7), .val (.ref nb12), .val (.ref b17), .val (.int (0 : Int32)), .val (.int (0 : Int32))] []))
            refine Goes.via (fun _ kk_ => XS.iconst X208.here hx rfl (hb hby at_238) kk_) ?_
            show Goes p e below _ (T208.setTop (mkF m 239 #[.val (.int x0), .val (.int x1), .val (.int x2), .val (.int x3), .val (.int x4), .val (.int x5), .val (.int v6_1), .val (.int (if (x3 &&& (1 : Int32)) = (0 : Int32) then (0 : Int32) else (1 : Int32))), .val (.int v8_3), .val (.int lc), .val (.int ta), .val (.int tb_), .val (.int tc), .val (.int td), .val (.ref nb7), .val (.ref nb12), .val (.ref b17), .val (.int (0 : Int32)), .val (.int (0 : Int32))] [(.int (1 : Int32))]))
            refine Goes.via (fun _ kk_ => XS.goto X208.here hx rfl (pc0 := 239) (pc' := 243) rfl (hb hby at_239) (by decide) (by decide) kk_) ?_
            show Goes p e below _ (T208.setTop (mkF m 243 #[.val (.int x0), .val (.int x1), .val (.int x2), .val (.int x3), .val (.int x4), .val (.int x5), .val (.int v6_1), .val (.int (if (x3 &&& (1 : Int32)) = (0 : Int32) then (0 : Int32) else (1 : Int32))), .val (.int v8_3), .val (.int lc), .val (.int ta), .val (.int tb_), .val (.int tc), .val (.int td), .val (.ref nb7), .val (.ref nb12), .val (.ref b17), .val (.int (0 : Int32)), .val (.int (0 : Int32))] [(.int (1 : Int32))]))
            have Ks211 : KS Z own_KL T12.vm (T188.heap) := ((Ks12.ext E17).keep K188 (allS (NoS.obj A17 (hw _ (List.mem_of_getElem? (i := 28) rfl)) (by decide)) all0))
            have hKe : KS Z own_KL T208.vm T208.heap := by rw [e208']; exact Ks211.at_ (s := s) X208.warmed
            have sk212 : _ ≤ (T188.heap).size := (Nat.le_trans (Nat.le_trans (Nat.le_refl _) E17.1) K188.1)
            exact own_wfinN X208 SI12 (by rw [e208']; exact sk212) (fun U_ hv hh_ => by show KS Z own_KL U_.vm U_.heap; rw [hv, hh_]; exact hKe) hx hlk hret (by simp) (hb hby at_243) (by rw [e208']; exact ⟨rfl, N188, K206⟩) (by first | decide | omega | (dsimp only; omega)) (by first | decide | omega | (dsimp only; omega))
      · skip
        refine Goes.via (fun _ kk_ => XS.icmpNo X188.here hx rfl (hb hby at_179) rfl (flt hc179).1 kk_) ?_
        show Goes p e below _ (T188.setTop (mkF m 182 #[.val (.int x0), .val (.int x1), .val (.int x2), .val (.int x3), .val (.int x4), .val (.int x5), .val (.int v6_1), .val (.int (if (x3 &&& (1 : Int32)) = (0 : Int32) then (0 : Int32) else (1 : Int32))), .val (.int v8_3), .val (.int lc), .val (.int ta), .val (.int tb_), .val (.int tc), .val (.int td), .val (.ref nb7), .val (.ref nb12), .val (.ref b17), .unset, .unset] []))
        refine Goes.via (fun _ kk_ => XS.iload X188.here hx rfl (hb hby at_182) rfl  kk_) ?_
        show Goes p e below _ (T188.setTop (mkF m 184 #[.val (.int x0), .val (.int x1), .val (.int x2), .val (.int x3), .val (.int x4), .val (.int x5), .val (.int v6_1), .val (.int (if (x3 &&& (1 : Int32)) = (0 : Int32) then (0 : Int32) else (1 : Int32))), .val (.int v8_3), .val (.int lc), .val (.int ta), .val (.int tb_), .val (.int tc), .val (.int td), .val (.ref nb7), .val (.ref nb12), .val (.ref b17), .unset, .unset] [(.int ta)]))
        refine Goes.via (fun _ kk_ => XS.iload X188.here hx rfl (hb hby at_184) rfl  kk_) ?_
        show Goes p e below _ (T188.setTop (mkF m 186 #[.val (.int x0), .val (.int x1), .val (.int x2), .val (.int x3), .val (.int x4), .val (.int x5), .val (.int v6_1), .val (.int (if (x3 &&& (1 : Int32)) = (0 : Int32) then (0 : Int32) else (1 : Int32))), .val (.int v8_3), .val (.int lc), .val (.int ta), .val (.int tb_), .val (.int tc), .val (.int td), .val (.ref nb7), .val (.ref nb12), .val (.ref b17), .unset, .unset] [(.int tc), (.int ta)]))
        by_cases hc186 : ta = tc
        · skip
          refine Goes.via (fun _ kk_ => XS.icmpNo X188.here hx rfl (hb hby at_186) rfl (teq hc186).2 kk_) ?_
          show Goes p e below _ (T188.setTop (mkF m 189 #[.val (.int x0), .val (.int x1), .val (.int x2), .val (.int x3), .val (.int x4), .val (.int x5), .val (.int v6_1), .val (.int (if (x3 &&& (1 : Int32)) = (0 : Int32) then (0 : Int32) else (1 : Int32))), .val (.int v8_3), .val (.int lc), .val (.int ta), .val (.int tb_), .val (.int tc), .val (.int td), .val (.ref nb7), .val (.ref nb12), .val (.ref b17), .unset, .unset] []))
          refine Goes.via (fun _ kk_ => XS.iload X188.here hx rfl (hb hby at_189) rfl  kk_) ?_
          show Goes p e below _ (T188.setTop (mkF m 191 #[.val (.int x0), .val (.int x1), .val (.int x2), .val (.int x3), .val (.int x4), .val (.int x5), .val (.int v6_1), .val (.int (if (x3 &&& (1 : Int32)) = (0 : Int32) then (0 : Int32) else (1 : Int32))), .val (.int v8_3), .val (.int lc), .val (.int ta), .val (.int tb_), .val (.int tc), .val (.int td), .val (.ref nb7), .val (.ref nb12), .val (.ref b17), .unset, .unset] [(.int v8_3)]))
          refine Goes.via (fun _ kk_ => XS.iconst X188.here hx rfl (hb hby at_191) kk_) ?_
          show Goes p e below _ (T188.setTop (mkF m 192 #[.val (.int x0), .val (.int x1), .val (.int x2), .val (.int x3), .val (.int x4), .val (.int x5), .val (.int v6_1), .val (.int (if (x3 &&& (1 : Int32)) = (0 : Int32) then (0 : Int32) else (1 : Int32))), .val (.int v8_3), .val (.int lc), .val (.int ta), .val (.int tb_), .val (.int tc), .val (.int td), .val (.ref nb7), .val (.ref nb12), .val (.ref b17), .unset, .unset] [(.int (2 : Int32)), (.int v8_3)]))
          by_cases hc192 : v8_3 < (2 : Int32)
          · skip
            refine Goes.via (fun _ kk_ => XS.icmpYes X188.here hx rfl (pc0 := 192) (pc' := 202) rfl (hb hby at_192) rfl (tlt hc192).1 (by decide) (by decide) kk_) ?_
            show Goes p e below _ (T188.setTop (mkF m 202 #[.val (.int x0), .val (.int x1), .val (.int x2), .val (.int x3), .val (.int x4), .val (.int x5), .val (.int v6_1), .val (.int (if (x3 &&& (1 : Int32)) = (0 : Int32) then (0 : Int32) else (1 : Int32))), .val (.int v8_3), .val (.int lc), .val (.int ta), .val (.int tb_), .val (.int tc), .val (.int td), .val (.ref nb7), .val (.ref nb12), .val (.ref b17), .unset, .unset] []))
            refine Goes.via (fun _ kk_ => XS.iconst X188.here hx rfl (hb hby at_202) kk_) ?_
            show Goes p e below _ (T188.setTop (mkF m 203 #[.val (.int x0), .val (.int x1), .val (.int x2), .val (.int x3), .val (.int x4), .val (.int x5), .val (.int v6_1), .val (.int (if (x3 &&& (1 : Int32)) = (0 : Int32) then (0 : Int32) else (1 : Int32))), .val (.int v8_3), .val (.int lc), .val (.int ta), .val (.int tb_), .val (.int tc), .val (.int td), .val (.ref nb7), .val (.ref nb12), .val (.ref b17), .unset, .unset] [(.int (1 : Int32))]))
            refine Goes.via (fun _ kk_ => XS.goto X188.here hx rfl (pc0 := 203) (pc' := 207) rfl (hb hby at_203) (by decide) (by decide) kk_) ?_
            show Goes p e below _ (T188.setTop (mkF m 207 #[.val (.int x0), .val (.int x1), .val (.int x2), .val (.int x3), .val (.int x4), .val (.int x5), .val (.int v6_1), .val (.int (if (x3 &&& (1 : Int32)) = (0 : Int32) then (0 : Int32) else (1 : Int32))), .val (.int v8_3), .val (.int lc), .val (.int ta), .val (.int tb_), .val (.int tc), .val (.int td), .val (.ref nb7), .val (.ref nb12), .val (.ref b17), .unset, .unset] [(.int (1 : Int32))]))
            refine Goes.via (fun _ kk_ => XS.istore X188.here hx rfl (hb hby at_207) rfl (l' := #[.val (.int x0), .val (.int x1), .val (.int x2), .val (.int x3), .val (.int x4), .val (.int x5), .val (.int v6_1), .val (.int (if (x3 &&& (1 : Int32)) = (0 : Int32) then (0 : Int32) else (1 : Int32))), .val (.int v8_3), .val (.int lc), .val (.int ta), .val (.int tb_), .val (.int tc), .val (.int td), .val (.ref nb7), .val (.ref nb12), .val (.ref b17), .val (.int (1 : Int32)), .unset]) rfl kk_) ?_
            show Goes p e below _ (T188.setTop (mkF m 209 #[.val (.int x0), .val (.int x1), .val (.int x2), .val (.int x3), .val (.int x4), .val (.int x5), .val (.int v6_1), .val (.int (if (x3 &&& (1 : Int32)) = (0 : Int32) then (0 : Int32) else (1 : Int32))), .val (.int v8_3), .val (.int lc), .val (.int ta), .val (.int tb_), .val (.int tc), .val (.int td), .val (.ref nb7), .val (.ref nb12), .val (.ref b17), .val (.int (1 : Int32)), .unset] []))
            refine Goes.via (fun _ kk_ => XS.iload X188.here hx rfl (hb hby at_209) rfl  kk_) ?_
            show Goes p e below _ (T188.setTop (mkF m 211 #[.val (.int x0), .val (.int x1), .val (.int x2), .val (.int x3), .val (.int x4), .val (.int x5), .val (.int v6_1), .val (.int (if (x3 &&& (1 : Int32)) = (0 : Int32) then (0 : Int32) else (1 : Int32))), .val (.int v8_3), .val (.int lc), .val (.int ta), .val (.int tb_), .val (.int tc), .val (.int td), .val (.ref nb7), .val (.ref nb12), .val (.ref b17), .val (.int (1 : Int32)), .unset] [(.int v6_1)]))
            have hc211_213 : ¬ (v6_1 = (0 : Int32)) := hk0
            refine Goes.via (fun _ kk_ => XS.ifYes X188.here hx rfl (pc0 := 211) (pc' := 223) rfl (hb hby at_211) rfl ((if0 _ _).trans (feq hc211_213).2) (by decide) (by decide) kk_) ?_
            show Goes p e below _ (T188.setTop (mkF m 223 #[.val (.int x0), .val (.int x1), .val (.int x2), .val (.int x3), .val (.int x4), .val (.int x5), .val (.int v6_1), .val (.int (if (x3 &&& (1 : Int32)) = (0 : Int32) then (0 : Int32) else (1 : Int32))), .val (.int v8_3), .val (.int lc), .val (.int ta), .val (.int tb_), .val (.int tc), .val (.int td), .val (.ref nb7), .val (.ref nb12), .val (.ref b17), .val (.int (1 : Int32)), .unset] []))
            refine Goes.via (fun _ kk_ => XS.iconst X188.here hx rfl (hb hby at_223) kk_) ?_
            show Goes p e below _ (T188.setTop (mkF m 224 #[.val (.int x0), .val (.int x1), .val (.int x2), .val (.int x3), .val (.int x4), .val (.int x5), .val (.int v6_1), .val (.int (if (x3 &&& (1 : Int32)) = (0 : Int32) then (0 : Int32) else (1 : Int32))), .val (.int v8_3), .val (.int lc), .val (.int ta), .val (.int tb_), .val (.int tc), .val (.int td), .val (.ref nb7), .val (.ref nb12), .val (.ref b17), .val (.int (1 : Int32)), .unset] [(.int (0 : Int32))]))
            refine Goes.via (fun _ kk_ => XS.istore X188.here hx rfl (hb hby at_224) rfl (l' := #[.val (.int x0), .val (.int x1), .val (.int x2), .val (.int x3), .val (.int x4), .val (.int x5), .val (.int v6_1), .val (.int (if (x3 &&& (1 : Int32)) = (0 : Int32) then (0 : Int32) else (1 : Int32))), .val (.int v8_3), .val (.int lc), .val (.int ta), .val (.int tb_), .val (.int tc), .val (.int td), .val (.ref nb7), .val (.ref nb12), .val (.ref b17), .val (.int (1 : Int32)), .val (.int (0 : Int32))]) rfl kk_) ?_
            show Goes p e below _ (T188.setTop (mkF m 226 #[.val (.int x0), .val (.int x1), .val (.int x2), .val (.int x3), .val (.int x4), .val (.int x5), .val (.int v6_1), .val (.int (if (x3 &&& (1 : Int32)) = (0 : Int32) then (0 : Int32) else (1 : Int32))), .val (.int v8_3), .val (.int lc), .val (.int ta), .val (.int tb_), .val (.int tc), .val (.int td), .val (.ref nb7), .val (.ref nb12), .val (.ref b17), .val (.int (1 : Int32)), .val (.int (0 : Int32))] []))
            refine Goes.via (fun _ kk_ => XS.aload X188.here hx rfl (hb hby at_226) rfl rfl  kk_) ?_
            show Goes p e below _ (T188.setTop (mkF m 228 #[.val (.int x0), .val (.int x1), .val (.int x2), .val (.int x3), .val (.int x4), .val (.int x5), .val (.int v6_1), .val (.int (if (x3 &&& (1 : Int32)) = (0 : Int32) then (0 : Int32) else (1 : Int32))), .val (.int v8_3), .val (.int lc), .val (.int ta), .val (.int tb_), .val (.int tc), .val (.int td), .val (.ref nb7), .val (.ref nb12), .val (.ref b17), .val (.int (1 : Int32)), .val (.int (0 : Int32))] [(.ref b17)]))
            refine Goes.via (fun _ kk_ => XS.aload X188.here hx rfl (hb hby at_228) rfl rfl  kk_) ?_
            show Goes p e below _ (T188.setTop (mkF m 230 #[.val (.int x0), .val (.int x1), .val (.int x2), .val (.int x3), .val (.int x4), .val (.int x5), .val (.int v6_1), .val (.int (if (x3 &&& (1 : Int32)) = (0 : Int32) then (0 : Int32) else (1 : Int32))), .val (.int v8_3), .val (.int lc), .val (.int ta), .val (.int tb_), .val (.int tc), .val (.int td), .val (.ref nb7), .val (.ref nb12), .val (.ref b17), .val (.int (1 : Int32)), .val (.int (0 : Int32))] [(.ref nb12), (.ref b17)]))
            have K214 : Keep h0 T188.heap [] := (K25.trans K188 (allS (Or.inr sz_b17) all0))
            have f215 : Sta Z T188.heap "com/example/map_rewriter/maprewriter/core/SExpression$Kind" "SYMBOL" "Lcom/example/map_rewriter/maprewriter/core/SExpression$Kind;" (.ref A0) := own_sta_keep OK0 K214
            have z217 : h0.size ≤ (T188.heap).size := (Nat.le_trans z34 K188.1)
            obtain ⟨cq216, kq216, q216a, q216b, q216c⟩ := isOf hZ rfl u188_0
            obtain ⟨_, _, ⟨T216, L216, k216, n216⟩, -, X216, ⟨Lc216, hQ216, l216, y216, z216⟩, st216⟩ := X188.virtualBack hx (y := (⟨"com/example/map_rewriter/maprewriter/core/SExpression$Atom", "isSymbol", "(Ljava/lang/String;)Z"⟩ : MethodName)) (z := (⟨"com/example/map_rewriter/maprewriter/core/SExpression$Atom", "isSymbol", "(Ljava/lang/String;)Z"⟩ : MethodName)) hown (mvT hZ (hw _ (List.mem_of_getElem? (i := 55) rfl))) (mvT hZ (hw _ (List.mem_of_getElem? (i := 56) rfl))) (notFace_of_selects (args := #[]) (mvT hZ (hw _ (List.mem_of_getElem? (i := 58) rfl)))) (mvT hZ (hw _ (List.mem_of_getElem? (i := 58) rfl))) (mvT hZ (hw _ (List.mem_of_getElem? (i := 57) rfl))) (by decide) (backOf (W := 0) (rm8n l Z a0 hw [] b17 nb12 A0 ak33 T188.heap n0 (Nat.le_trans Z0 z217) u188_1 f215 hka) hZ (hw _ (List.mem_of_getElem? (i := 59) rfl)) (hw _ (List.mem_of_getElem? (i := 29) rfl)) (by decide) (by decide)) q216a q216c (g := (mkF m 230 #[.val (.int x0), .val (.int x1), .val (.int x2), .val (.int x3), .val (.int x4), .val (.int x5), .val (.int v6_1), .val (.int (if (x3 &&& (1 : Int32)) = (0 : Int32) then (0 : Int32) else (1 : Int32))), .val (.int v8_3), .val (.int lc), .val (.int ta), .val (.int tb_), .val (.int tc), .val (.int td), .val (.ref nb7), .val (.ref nb12), .val (.ref b17), .val (.int (1 : Int32)), .val (.int (0 : Int32))] [(.ref nb12), (.ref b17)])) rfl (by rw [hml]; rfl) (Steps.refl _) (argsL := [(.ref nb12)]) (rest := []) (lenOf pd_7 rfl) rfl (by show 2 * 0 + _ ≤ _; exact Nat.le_of_eq rfl) (hb hby at_230) (fun _ _ => ⟨rfl, rfl, (by first | decide | omega | (dsimp only; omega) : 9 + 0 ≤ _), (by first | decide | omega | (dsimp only; omega) : 21 + 0 ≤ _)⟩)
            dsimp only [Pt.U, Pt.locs, Pt.cells, Pt.slots] at X216 l216 y216 z216 st216 hQ216
            subst l216 y216 z216
            obtain ⟨rfl, rfl, e216⟩ := hQ216
            first | rw [List.append_nil] at X216 | skip
            refine Goes.tr st216 ?_
            have e216' : T216.heap = T188.heap := e216
            show Goes p e below _ (T216.setTop (mkF m 233 #[.val (.int x0), .val (.int x1), .val (.int x2), .val (.int x3), .val (.int x4), .val (.int x5), .val (.int v6_1), .val (.int (if (x3 &&& (1 : Int32)) = (0 : Int32) then (0 : Int32) else (1 : Int32))), .val (.int v8_3), .val (.int lc), .val (.int ta), .val (.int tb_), .val (.int tc), .val (.int td), .val (.ref nb7), .val (.ref nb12), .val (.ref b17), .val (.int (1 : Int32)), .val (.int (0 : Int32))] [(.int (0 : Int32))]))
            refine Goes.via (fun _ kk_ => XS.iload X216.here hx rfl (hb hby at_233) rfl  kk_) ?_
            show Goes p e below _ (T216.setTop (mkF m 235 #[.val (.int x0), .val (.int x1), .val (.int x2), .val (.int x3), .val (.int x4), .val (.int x5), .val (.int v6_1), .val (.int (if (x3 &&& (1 : Int32)) = (0 : Int32) then (0 : Int32) else (1 : Int32))), .val (.int v8_3), .val (.int lc), .val (.int ta), .val (.int tb_), .val (.int tc), .val (.int td), .val (.ref nb7), .val (.ref nb12), .val (.ref b17), .val (.int (1 : Int32)), .val (.int (0 : Int32))] [(.int (0 : Int32)), (.int (0 : Int32))]))
            have hc235_218 : (0 : Int32) = (0 : Int32) := (by decide)
            refine Goes.via (fun _ kk_ => XS.icmpNo X216.here hx rfl (hb hby at_235) rfl (teq hc235_218).2 kk_) ?_
            show Goes p e below _ (T216.setTop (mkF m 238 #[.val (.int x0), .val (.int x1), .val (.int x2), .val (.int x3), .val (.int x4), .val (.int x5), .val (.int v6_1), .val (.int (if (x3 &&& (1 : Int32)) = (0 : Int32) then (0 : Int32) else (1 : Int32))), .val (.int v8_3), .val (.int lc), .val (.int ta), .val (.int tb_), .val (.int tc), .val (.int td), .val (.ref nb7), .val (.ref nb12), .val (.ref b17), .val (.int (1 : Int32)), .val (.int (0 : Int32))] []))
            refine Goes.via (fun _ kk_ => XS.iconst X216.here hx rfl (hb hby at_238) kk_) ?_
            show Goes p e below _ (T216.setTop (mkF m 239 #[.val (.int x0), .val (.int x1), .val (.int x2), .val (.int x3), .val (.int x4), .val (.int x5), .val (.int v6_1), .val (.int (if (x3 &&& (1 : Int32)) = (0 : Int32) then (0 : Int32) else (1 : Int32))), .val (.int v8_3), .val (.int lc), .val (.int ta), .val (.int tb_), .val (.int tc), .val (.int td), .val (.ref nb7), .val (.ref nb12), .val (.ref b17), .val (.int (1 : Int32)), .val (.int (0 : Int32))] [(.int (1 : Int32))]))
            refine Goes.via (fun _ kk_ => XS.goto X216.here hx rfl (pc0 := 239) (pc' := 243) rfl (hb hby at_239) (by decide) (by decide) kk_) ?_
            show Goes p e below _ (T216.setTop (mkF m 243 #[.val (.int x0), .val (.int x1), .val (.int x2), .val (.int x3), .val (.int x4), .val (.int x5), .val (.int v6_1), .val (.int (if (x3 &&& (1 : Int32)) = (0 : Int32) then (0 : Int32) else (1 : Int32))), .val (.int v8_3), .val (.int lc), .val (.int ta), .val (.int tb_), .val (.int tc), .val (.int td), .val (.ref nb7), .val (.ref nb12), .val (.ref b17), .val (.int (1 : Int32)), .val (.int (0 : Int32))] [(.int (1 : Int32))]))
            have Ks219 : KS Z own_KL T12.vm (T188.heap) := ((Ks12.ext E17).keep K188 (allS (NoS.obj A17 (hw _ (List.mem_of_getElem? (i := 28) rfl)) (by decide)) all0))
            have hKe : KS Z own_KL T216.vm T216.heap := by rw [e216']; exact Ks219.at_ (s := s) X216.warmed
            have sk220 : _ ≤ (T188.heap).size := (Nat.le_trans (Nat.le_trans (Nat.le_refl _) E17.1) K188.1)
            exact own_wfinN X216 SI12 (by rw [e216']; exact sk220) (fun U_ hv hh_ => by show KS Z own_KL U_.vm U_.heap; rw [hv, hh_]; exact hKe) hx hlk hret (by simp) (hb hby at_243) (by rw [e216']; exact ⟨rfl, N188, K214⟩) (by first | decide | omega | (dsimp only; omega)) (by first | decide | omega | (dsimp only; omega))
          · skip
            refine Goes.via (fun _ kk_ => XS.icmpNo X188.here hx rfl (hb hby at_192) rfl (flt hc192).1 kk_) ?_
            show Goes p e below _ (T188.setTop (mkF m 195 #[.val (.int x0), .val (.int x1), .val (.int x2), .val (.int x3), .val (.int x4), .val (.int x5), .val (.int v6_1), .val (.int (if (x3 &&& (1 : Int32)) = (0 : Int32) then (0 : Int32) else (1 : Int32))), .val (.int v8_3), .val (.int lc), .val (.int ta), .val (.int tb_), .val (.int tc), .val (.int td), .val (.ref nb7), .val (.ref nb12), .val (.ref b17), .unset, .unset] []))
            refine Goes.via (fun _ kk_ => XS.iload X188.here hx rfl (hb hby at_195) rfl  kk_) ?_
            show Goes p e below _ (T188.setTop (mkF m 197 #[.val (.int x0), .val (.int x1), .val (.int x2), .val (.int x3), .val (.int x4), .val (.int x5), .val (.int v6_1), .val (.int (if (x3 &&& (1 : Int32)) = (0 : Int32) then (0 : Int32) else (1 : Int32))), .val (.int v8_3), .val (.int lc), .val (.int ta), .val (.int tb_), .val (.int tc), .val (.int td), .val (.ref nb7), .val (.ref nb12), .val (.ref b17), .unset, .unset] [(.int tb_)]))
            refine Goes.via (fun _ kk_ => XS.iload X188.here hx rfl (hb hby at_197) rfl  kk_) ?_
            show Goes p e below _ (T188.setTop (mkF m 199 #[.val (.int x0), .val (.int x1), .val (.int x2), .val (.int x3), .val (.int x4), .val (.int x5), .val (.int v6_1), .val (.int (if (x3 &&& (1 : Int32)) = (0 : Int32) then (0 : Int32) else (1 : Int32))), .val (.int v8_3), .val (.int lc), .val (.int ta), .val (.int tb_), .val (.int tc), .val (.int td), .val (.ref nb7), .val (.ref nb12), .val (.ref b17), .unset, .unset] [(.int td), (.int tb_)]))
            by_cases hc199 : tb_ = td
            · skip
              refine Goes.via (fun _ kk_ => XS.icmpNo X188.here hx rfl (hb hby at_199) rfl (teq hc199).2 kk_) ?_
              show Goes p e below _ (T188.setTop (mkF m 202 #[.val (.int x0), .val (.int x1), .val (.int x2), .val (.int x3), .val (.int x4), .val (.int x5), .val (.int v6_1), .val (.int (if (x3 &&& (1 : Int32)) = (0 : Int32) then (0 : Int32) else (1 : Int32))), .val (.int v8_3), .val (.int lc), .val (.int ta), .val (.int tb_), .val (.int tc), .val (.int td), .val (.ref nb7), .val (.ref nb12), .val (.ref b17), .unset, .unset] []))
              refine Goes.via (fun _ kk_ => XS.iconst X188.here hx rfl (hb hby at_202) kk_) ?_
              show Goes p e below _ (T188.setTop (mkF m 203 #[.val (.int x0), .val (.int x1), .val (.int x2), .val (.int x3), .val (.int x4), .val (.int x5), .val (.int v6_1), .val (.int (if (x3 &&& (1 : Int32)) = (0 : Int32) then (0 : Int32) else (1 : Int32))), .val (.int v8_3), .val (.int lc), .val (.int ta), .val (.int tb_), .val (.int tc), .val (.int td), .val (.ref nb7), .val (.ref nb12), .val (.ref b17), .unset, .unset] [(.int (1 : Int32))]))
              refine Goes.via (fun _ kk_ => XS.goto X188.here hx rfl (pc0 := 203) (pc' := 207) rfl (hb hby at_203) (by decide) (by decide) kk_) ?_
              show Goes p e below _ (T188.setTop (mkF m 207 #[.val (.int x0), .val (.int x1), .val (.int x2), .val (.int x3), .val (.int x4), .val (.int x5), .val (.int v6_1), .val (.int (if (x3 &&& (1 : Int32)) = (0 : Int32) then (0 : Int32) else (1 : Int32))), .val (.int v8_3), .val (.int lc), .val (.int ta), .val (.int tb_), .val (.int tc), .val (.int td), .val (.ref nb7), .val (.ref nb12), .val (.ref b17), .unset, .unset] [(.int (1 : Int32))]))
              refine Goes.via (fun _ kk_ => XS.istore X188.here hx rfl (hb hby at_207) rfl (l' := #[.val (.int x0), .val (.int x1), .val (.int x2), .val (.int x3), .val (.int x4), .val (.int x5), .val (.int v6_1), .val (.int (if (x3 &&& (1 : Int32)) = (0 : Int32) then (0 : Int32) else (1 : Int32))), .val (.int v8_3), .val (.int lc), .val (.int ta), .val (.int tb_), .val (.int tc), .val (.int td), .val (.ref nb7), .val (.ref nb12), .val (.ref b17), .val (.int (1 : Int32)), .unset]) rfl kk_) ?_
              show Goes p e below _ (T188.setTop (mkF m 209 #[.val (.int x0), .val (.int x1), .val (.int x2), .val (.int x3), .val (.int x4), .val (.int x5), .val (.int v6_1), .val (.int (if (x3 &&& (1 : Int32)) = (0 : Int32) then (0 : Int32) else (1 : Int32))), .val (.int v8_3), .val (.int lc), .val (.int ta), .val (.int tb_), .val (.int tc), .val (.int td), .val (.ref nb7), .val (.ref nb12), .val (.ref b17), .val (.int (1 : Int32)), .unset] []))
              refine Goes.via (fun _ kk_ => XS.iload X188.here hx rfl (hb hby at_209) rfl  kk_) ?_
              show Goes p e below _ (T188.setTop (mkF m 211 #[.val (.int x0), .val (.int x1), .val (.int x2), .val (.int x3), .val (.int x4), .val (.int x5), .val (.int v6_1), .val (.int (if (x3 &&& (1 : Int32)) = (0 : Int32) then (0 : Int32) else (1 : Int32))), .val (.int v8_3), .val (.int lc), .val (.int ta), .val (.int tb_), .val (.int tc), .val (.int td), .val (.ref nb7), .val (.ref nb12), .val (.ref b17), .val (.int (1 : Int32)), .unset] [(.int v6_1)]))
              have hc211_221 : ¬ (v6_1 = (0 : Int32)) := hk0
              refine Goes.via (fun _ kk_ => XS.ifYes X188.here hx rfl (pc0 := 211) (pc' := 223) rfl (hb hby at_211) rfl ((if0 _ _).trans (feq hc211_221).2) (by decide) (by decide) kk_) ?_
              show Goes p e below _ (T188.setTop (mkF m 223 #[.val (.int x0), .val (.int x1), .val (.int x2), .val (.int x3), .val (.int x4), .val (.int x5), .val (.int v6_1), .val (.int (if (x3 &&& (1 : Int32)) = (0 : Int32) then (0 : Int32) else (1 : Int32))), .val (.int v8_3), .val (.int lc), .val (.int ta), .val (.int tb_), .val (.int tc), .val (.int td), .val (.ref nb7), .val (.ref nb12), .val (.ref b17), .val (.int (1 : Int32)), .unset] []))
              refine Goes.via (fun _ kk_ => XS.iconst X188.here hx rfl (hb hby at_223) kk_) ?_
              show Goes p e below _ (T188.setTop (mkF m 224 #[.val (.int x0), .val (.int x1), .val (.int x2), .val (.int x3), .val (.int x4), .val (.int x5), .val (.int v6_1), .val (.int (if (x3 &&& (1 : Int32)) = (0 : Int32) then (0 : Int32) else (1 : Int32))), .val (.int v8_3), .val (.int lc), .val (.int ta), .val (.int tb_), .val (.int tc), .val (.int td), .val (.ref nb7), .val (.ref nb12), .val (.ref b17), .val (.int (1 : Int32)), .unset] [(.int (0 : Int32))]))
              refine Goes.via (fun _ kk_ => XS.istore X188.here hx rfl (hb hby at_224) rfl (l' := #[.val (.int x0), .val (.int x1), .val (.int x2), .val (.int x3), .val (.int x4), .val (.int x5), .val (.int v6_1), .val (.int (if (x3 &&& (1 : Int32)) = (0 : Int32) then (0 : Int32) else (1 : Int32))), .val (.int v8_3), .val (.int lc), .val (.int ta), .val (.int tb_), .val (.int tc), .val (.int td), .val (.ref nb7), .val (.ref nb12), .val (.ref b17), .val (.int (1 : Int32)), .val (.int (0 : Int32))]) rfl kk_) ?_
              show Goes p e below _ (T188.setTop (mkF m 226 #[.val (.int x0), .val (.int x1), .val (.int x2), .val (.int x3), .val (.int x4), .val (.int x5), .val (.int v6_1), .val (.int (if (x3 &&& (1 : Int32)) = (0 : Int32) then (0 : Int32) else (1 : Int32))), .val (.int v8_3), .val (.int lc), .val (.int ta), .val (.int tb_), .val (.int tc), .val (.int td), .val (.ref nb7), .val (.ref nb12), .val (.ref b17), .val (.int (1 : Int32)), .val (.int (0 : Int32))] []))
              refine Goes.via (fun _ kk_ => XS.aload X188.here hx rfl (hb hby at_226) rfl rfl  kk_) ?_
              show Goes p e below _ (T188.setTop (mkF m 228 #[.val (.int x0), .val (.int x1), .val (.int x2), .val (.int x3), .val (.int x4), .val (.int x5), .val (.int v6_1), .val (.int (if (x3 &&& (1 : Int32)) = (0 : Int32) then (0 : Int32) else (1 : Int32))), .val (.int v8_3), .val (.int lc), .val (.int ta), .val (.int tb_), .val (.int tc), .val (.int td), .val (.ref nb7), .val (.ref nb12), .val (.ref b17), .val (.int (1 : Int32)), .val (.int (0 : Int32))] [(.ref b17)]))
              refine Goes.via (fun _ kk_ => XS.aload X188.here hx rfl (hb hby at_228) rfl rfl  kk_) ?_
              show Goes p e below _ (T188.setTop (mkF m 230 #[.val (.int x0), .val (.int x1), .val (.int x2), .val (.int x3), .val (.int x4), .val (.int x5), .val (.int v6_1), .val (.int (if (x3 &&& (1 : Int32)) = (0 : Int32) then (0 : Int32) else (1 : Int32))), .val (.int v8_3), .val (.int lc), .val (.int ta), .val (.int tb_), .val (.int tc), .val (.int td), .val (.ref nb7), .val (.ref nb12), .val (.ref b17), .val (.int (1 : Int32)), .val (.int (0 : Int32))] [(.ref nb12), (.ref b17)]))
              have K222 : Keep h0 T188.heap [] := (K25.trans K188 (allS (Or.inr sz_b17) all0))
              have f223 : Sta Z T188.heap "com/example/map_rewriter/maprewriter/core/SExpression$Kind" "SYMBOL" "Lcom/example/map_rewriter/maprewriter/core/SExpression$Kind;" (.ref A0) := own_sta_keep OK0 K222
              have z225 : h0.size ≤ (T188.heap).size := (Nat.le_trans z34 K188.1)
              obtain ⟨cq224, kq224, q224a, q224b, q224c⟩ := isOf hZ rfl u188_0
              obtain ⟨_, _, ⟨T224, L224, k224, n224⟩, -, X224, ⟨Lc224, hQ224, l224, y224, z224⟩, st224⟩ := X188.virtualBack hx (y := (⟨"com/example/map_rewriter/maprewriter/core/SExpression$Atom", "isSymbol", "(Ljava/lang/String;)Z"⟩ : MethodName)) (z := (⟨"com/example/map_rewriter/maprewriter/core/SExpression$Atom", "isSymbol", "(Ljava/lang/String;)Z"⟩ : MethodName)) hown (mvT hZ (hw _ (List.mem_of_getElem? (i := 55) rfl))) (mvT hZ (hw _ (List.mem_of_getElem? (i := 56) rfl))) (notFace_of_selects (args := #[]) (mvT hZ (hw _ (List.mem_of_getElem? (i := 58) rfl)))) (mvT hZ (hw _ (List.mem_of_getElem? (i := 58) rfl))) (mvT hZ (hw _ (List.mem_of_getElem? (i := 57) rfl))) (by decide) (backOf (W := 0) (rm8n l Z a0 hw [] b17 nb12 A0 ak33 T188.heap n0 (Nat.le_trans Z0 z225) u188_1 f223 hka) hZ (hw _ (List.mem_of_getElem? (i := 59) rfl)) (hw _ (List.mem_of_getElem? (i := 29) rfl)) (by decide) (by decide)) q224a q224c (g := (mkF m 230 #[.val (.int x0), .val (.int x1), .val (.int x2), .val (.int x3), .val (.int x4), .val (.int x5), .val (.int v6_1), .val (.int (if (x3 &&& (1 : Int32)) = (0 : Int32) then (0 : Int32) else (1 : Int32))), .val (.int v8_3), .val (.int lc), .val (.int ta), .val (.int tb_), .val (.int tc), .val (.int td), .val (.ref nb7), .val (.ref nb12), .val (.ref b17), .val (.int (1 : Int32)), .val (.int (0 : Int32))] [(.ref nb12), (.ref b17)])) rfl (by rw [hml]; rfl) (Steps.refl _) (argsL := [(.ref nb12)]) (rest := []) (lenOf pd_7 rfl) rfl (by show 2 * 0 + _ ≤ _; exact Nat.le_of_eq rfl) (hb hby at_230) (fun _ _ => ⟨rfl, rfl, (by first | decide | omega | (dsimp only; omega) : 9 + 0 ≤ _), (by first | decide | omega | (dsimp only; omega) : 21 + 0 ≤ _)⟩)
              dsimp only [Pt.U, Pt.locs, Pt.cells, Pt.slots] at X224 l224 y224 z224 st224 hQ224
              subst l224 y224 z224
              obtain ⟨rfl, rfl, e224⟩ := hQ224
              first | rw [List.append_nil] at X224 | skip
              refine Goes.tr st224 ?_
              have e224' : T224.heap = T188.heap := e224
              show Goes p e below _ (T224.setTop (mkF m 233 #[.val (.int x0), .val (.int x1), .val (.int x2), .val (.int x3), .val (.int x4), .val (.int x5), .val (.int v6_1), .val (.int (if (x3 &&& (1 : Int32)) = (0 : Int32) then (0 : Int32) else (1 : Int32))), .val (.int v8_3), .val (.int lc), .val (.int ta), .val (.int tb_), .val (.int tc), .val (.int td), .val (.ref nb7), .val (.ref nb12), .val (.ref b17), .val (.int (1 : Int32)), .val (.int (0 : Int32))] [(.int (0 : Int32))]))
              refine Goes.via (fun _ kk_ => XS.iload X224.here hx rfl (hb hby at_233) rfl  kk_) ?_
              show Goes p e below _ (T224.setTop (mkF m 235 #[.val (.int x0), .val (.int x1), .val (.int x2), .val (.int x3), .val (.int x4), .val (.int x5), .val (.int v6_1), .val (.int (if (x3 &&& (1 : Int32)) = (0 : Int32) then (0 : Int32) else (1 : Int32))), .val (.int v8_3), .val (.int lc), .val (.int ta), .val (.int tb_), .val (.int tc), .val (.int td), .val (.ref nb7), .val (.ref nb12), .val (.ref b17), .val (.int (1 : Int32)), .val (.int (0 : Int32))] [(.int (0 : Int32)), (.int (0 : Int32))]))
              have hc235_226 : (0 : Int32) = (0 : Int32) := (by decide)
              refine Goes.via (fun _ kk_ => XS.icmpNo X224.here hx rfl (hb hby at_235) rfl (teq hc235_226).2 kk_) ?_
              show Goes p e below _ (T224.setTop (mkF m 238 #[.val (.int x0), .val (.int x1), .val (.int x2), .val (.int x3), .val (.int x4), .val (.int x5), .val (.int v6_1), .val (.int (if (x3 &&& (1 : Int32)) = (0 : Int32) then (0 : Int32) else (1 : Int32))), .val (.int v8_3), .val (.int lc), .val (.int ta), .val (.int tb_), .val (.int tc), .val (.int td), .val (.ref nb7), .val (.ref nb12), .val (.ref b17), .val (.int (1 : Int32)), .val (.int (0 : Int32))] []))
              refine Goes.via (fun _ kk_ => XS.iconst X224.here hx rfl (hb hby at_238) kk_) ?_
              show Goes p e below _ (T224.setTop (mkF m 239 #[.val (.int x0), .val (.int x1), .val (.int x2), .val (.int x3), .val (.int x4), .val (.int x5), .val (.int v6_1), .val (.int (if (x3 &&& (1 : Int32)) = (0 : Int32) then (0 : Int32) else (1 : Int32))), .val (.int v8_3), .val (.int lc), .val (.int ta), .val (.int tb_), .val (.int tc), .val (.int td), .val (.ref nb7), .val (.ref nb12), .val (.ref b17), .val (.int (1 : Int32)), .val (.int (0 : Int32))] [(.int (1 : Int32))]))
              refine Goes.via (fun _ kk_ => XS.goto X224.here hx rfl (pc0 := 239) (pc' := 243) rfl (hb hby at_239) (by decide) (by decide) kk_) ?_
              show Goes p e below _ (T224.setTop (mkF m 243 #[.val (.int x0), .val (.int x1), .val (.int x2), .val (.int x3), .val (.int x4), .val (.int x5), .val (.int v6_1), .val (.int (if (x3 &&& (1 : Int32)) = (0 : Int32) then (0 : Int32) else (1 : Int32))), .val (.int v8_3), .val (.int lc), .val (.int ta), .val (.int tb_), .val (.int tc), .val (.int td), .val (.ref nb7), .val (.ref nb12), .val (.ref b17), .val (.int (1 : Int32)), .val (.int (0 : Int32))] [(.int (1 : Int32))]))
              have Ks227 : KS Z own_KL T12.vm (T188.heap) := ((Ks12.ext E17).keep K188 (allS (NoS.obj A17 (hw _ (List.mem_of_getElem? (i := 28) rfl)) (by decide)) all0))
              have hKe : KS Z own_KL T224.vm T224.heap := by rw [e224']; exact Ks227.at_ (s := s) X224.warmed
              have sk228 : _ ≤ (T188.heap).size := (Nat.le_trans (Nat.le_trans (Nat.le_refl _) E17.1) K188.1)
              exact own_wfinN X224 SI12 (by rw [e224']; exact sk228) (fun U_ hv hh_ => by show KS Z own_KL U_.vm U_.heap; rw [hv, hh_]; exact hKe) hx hlk hret (by simp) (hb hby at_243) (by rw [e224']; exact ⟨rfl, N188, K222⟩) (by first | decide | omega | (dsimp only; omega)) (by first | decide | omega | (dsimp only; omega))
            · skip
              refine Goes.via (fun _ kk_ => XS.icmpYes X188.here hx rfl (pc0 := 199) (pc' := 206) rfl (hb hby at_199) rfl (feq hc199).2 (by decide) (by decide) kk_) ?_
              show Goes p e below _ (T188.setTop (mkF m 206 #[.val (.int x0), .val (.int x1), .val (.int x2), .val (.int x3), .val (.int x4), .val (.int x5), .val (.int v6_1), .val (.int (if (x3 &&& (1 : Int32)) = (0 : Int32) then (0 : Int32) else (1 : Int32))), .val (.int v8_3), .val (.int lc), .val (.int ta), .val (.int tb_), .val (.int tc), .val (.int td), .val (.ref nb7), .val (.ref nb12), .val (.ref b17), .unset, .unset] []))
              refine Goes.via (fun _ kk_ => XS.iconst X188.here hx rfl (hb hby at_206) kk_) ?_
              show Goes p e below _ (T188.setTop (mkF m 207 #[.val (.int x0), .val (.int x1), .val (.int x2), .val (.int x3), .val (.int x4), .val (.int x5), .val (.int v6_1), .val (.int (if (x3 &&& (1 : Int32)) = (0 : Int32) then (0 : Int32) else (1 : Int32))), .val (.int v8_3), .val (.int lc), .val (.int ta), .val (.int tb_), .val (.int tc), .val (.int td), .val (.ref nb7), .val (.ref nb12), .val (.ref b17), .unset, .unset] [(.int (0 : Int32))]))
              refine Goes.via (fun _ kk_ => XS.istore X188.here hx rfl (hb hby at_207) rfl (l' := #[.val (.int x0), .val (.int x1), .val (.int x2), .val (.int x3), .val (.int x4), .val (.int x5), .val (.int v6_1), .val (.int (if (x3 &&& (1 : Int32)) = (0 : Int32) then (0 : Int32) else (1 : Int32))), .val (.int v8_3), .val (.int lc), .val (.int ta), .val (.int tb_), .val (.int tc), .val (.int td), .val (.ref nb7), .val (.ref nb12), .val (.ref b17), .val (.int (0 : Int32)), .unset]) rfl kk_) ?_
              show Goes p e below _ (T188.setTop (mkF m 209 #[.val (.int x0), .val (.int x1), .val (.int x2), .val (.int x3), .val (.int x4), .val (.int x5), .val (.int v6_1), .val (.int (if (x3 &&& (1 : Int32)) = (0 : Int32) then (0 : Int32) else (1 : Int32))), .val (.int v8_3), .val (.int lc), .val (.int ta), .val (.int tb_), .val (.int tc), .val (.int td), .val (.ref nb7), .val (.ref nb12), .val (.ref b17), .val (.int (0 : Int32)), .unset] []))
              refine Goes.via (fun _ kk_ => XS.iload X188.here hx rfl (hb hby at_209) rfl  kk_) ?_
              show Goes p e below _ (T188.setTop (mkF m 211 #[.val (.int x0), .val (.int x1), .val (.int x2), .val (.int x3), .val (.int x4), .val (.int x5), .val (.int v6_1), .val (.int (if (x3 &&& (1 : Int32)) = (0 : Int32) then (0 : Int32) else (1 : Int32))), .val (.int v8_3), .val (.int lc), .val (.int ta), .val (.int tb_), .val (.int tc), .val (.int td), .val (.ref nb7), .val (.ref nb12), .val (.ref b17), .val (.int (0 : Int32)), .unset] [(.int v6_1)]))
              have hc211_229 : ¬ (v6_1 = (0 : Int32)) := hk0
              refine Goes.via (fun _ kk_ => XS.ifYes X188.here hx rfl (pc0 := 211) (pc' := 223) rfl (hb hby at_211) rfl ((if0 _ _).trans (feq hc211_229).2) (by decide) (by decide) kk_) ?_
              show Goes p e below _ (T188.setTop (mkF m 223 #[.val (.int x0), .val (.int x1), .val (.int x2), .val (.int x3), .val (.int x4), .val (.int x5), .val (.int v6_1), .val (.int (if (x3 &&& (1 : Int32)) = (0 : Int32) then (0 : Int32) else (1 : Int32))), .val (.int v8_3), .val (.int lc), .val (.int ta), .val (.int tb_), .val (.int tc), .val (.int td), .val (.ref nb7), .val (.ref nb12), .val (.ref b17), .val (.int (0 : Int32)), .unset] []))
              refine Goes.via (fun _ kk_ => XS.iconst X188.here hx rfl (hb hby at_223) kk_) ?_
              show Goes p e below _ (T188.setTop (mkF m 224 #[.val (.int x0), .val (.int x1), .val (.int x2), .val (.int x3), .val (.int x4), .val (.int x5), .val (.int v6_1), .val (.int (if (x3 &&& (1 : Int32)) = (0 : Int32) then (0 : Int32) else (1 : Int32))), .val (.int v8_3), .val (.int lc), .val (.int ta), .val (.int tb_), .val (.int tc), .val (.int td), .val (.ref nb7), .val (.ref nb12), .val (.ref b17), .val (.int (0 : Int32)), .unset] [(.int (0 : Int32))]))
              refine Goes.via (fun _ kk_ => XS.istore X188.here hx rfl (hb hby at_224) rfl (l' := #[.val (.int x0), .val (.int x1), .val (.int x2), .val (.int x3), .val (.int x4), .val (.int x5), .val (.int v6_1), .val (.int (if (x3 &&& (1 : Int32)) = (0 : Int32) then (0 : Int32) else (1 : Int32))), .val (.int v8_3), .val (.int lc), .val (.int ta), .val (.int tb_), .val (.int tc), .val (.int td), .val (.ref nb7), .val (.ref nb12), .val (.ref b17), .val (.int (0 : Int32)), .val (.int (0 : Int32))]) rfl kk_) ?_
              show Goes p e below _ (T188.setTop (mkF m 226 #[.val (.int x0), .val (.int x1), .val (.int x2), .val (.int x3), .val (.int x4), .val (.int x5), .val (.int v6_1), .val (.int (if (x3 &&& (1 : Int32)) = (0 : Int32) then (0 : Int32) else (1 : Int32))), .val (.int v8_3), .val (.int lc), .val (.int ta), .val (.int tb_), .val (.int tc), .val (.int td), .val (.ref nb7), .val (.ref nb12), .val (.ref b17), .val (.int (0 : Int32)), .val (.int (0 : Int32))] []))
              refine Goes.via (fun _ kk_ => XS.aload X188.here hx rfl (hb hby at_226) rfl rfl  kk_) ?_
              show Goes p e below _ (T188.setTop (mkF m 228 #[.val (.int x0), .val (.int x1), .val (.int x2), .val (.int x3), .val (.int x4), .val (.int x5), .val (.int v6_1), .val (.int (if (x3 &&& (1 : Int32)) = (0 : Int32) then (0 : Int32) else (1 : Int32))), .val (.int v8_3), .val (.int lc), .val (.int ta), .val (.int tb_), .val (.int tc), .val (.int td), .val (.ref nb7), .val (.ref nb12), .val (.ref b17), .val (.int (0 : Int32)), .val (.int (0 : Int32))] [(.ref b17)]))
              refine Goes.via (fun _ kk_ => XS.aload X188.here hx rfl (hb hby at_228) rfl rfl  kk_) ?_
              show Goes p e below _ (T188.setTop (mkF m 230 #[.val (.int x0), .val (.int x1), .val (.int x2), .val (.int x3), .val (.int x4), .val (.int x5), .val (.int v6_1), .val (.int (if (x3 &&& (1 : Int32)) = (0 : Int32) then (0 : Int32) else (1 : Int32))), .val (.int v8_3), .val (.int lc), .val (.int ta), .val (.int tb_), .val (.int tc), .val (.int td), .val (.ref nb7), .val (.ref nb12), .val (.ref b17), .val (.int (0 : Int32)), .val (.int (0 : Int32))] [(.ref nb12), (.ref b17)]))
              have K230 : Keep h0 T188.heap [] := (K25.trans K188 (allS (Or.inr sz_b17) all0))
              have f231 : Sta Z T188.heap "com/example/map_rewriter/maprewriter/core/SExpression$Kind" "SYMBOL" "Lcom/example/map_rewriter/maprewriter/core/SExpression$Kind;" (.ref A0) := own_sta_keep OK0 K230
              have z233 : h0.size ≤ (T188.heap).size := (Nat.le_trans z34 K188.1)
              obtain ⟨cq232, kq232, q232a, q232b, q232c⟩ := isOf hZ rfl u188_0
              obtain ⟨_, _, ⟨T232, L232, k232, n232⟩, -, X232, ⟨Lc232, hQ232, l232, y232, z232⟩, st232⟩ := X188.virtualBack hx (y := (⟨"com/example/map_rewriter/maprewriter/core/SExpression$Atom", "isSymbol", "(Ljava/lang/String;)Z"⟩ : MethodName)) (z := (⟨"com/example/map_rewriter/maprewriter/core/SExpression$Atom", "isSymbol", "(Ljava/lang/String;)Z"⟩ : MethodName)) hown (mvT hZ (hw _ (List.mem_of_getElem? (i := 55) rfl))) (mvT hZ (hw _ (List.mem_of_getElem? (i := 56) rfl))) (notFace_of_selects (args := #[]) (mvT hZ (hw _ (List.mem_of_getElem? (i := 58) rfl)))) (mvT hZ (hw _ (List.mem_of_getElem? (i := 58) rfl))) (mvT hZ (hw _ (List.mem_of_getElem? (i := 57) rfl))) (by decide) (backOf (W := 0) (rm8n l Z a0 hw [] b17 nb12 A0 ak33 T188.heap n0 (Nat.le_trans Z0 z233) u188_1 f231 hka) hZ (hw _ (List.mem_of_getElem? (i := 59) rfl)) (hw _ (List.mem_of_getElem? (i := 29) rfl)) (by decide) (by decide)) q232a q232c (g := (mkF m 230 #[.val (.int x0), .val (.int x1), .val (.int x2), .val (.int x3), .val (.int x4), .val (.int x5), .val (.int v6_1), .val (.int (if (x3 &&& (1 : Int32)) = (0 : Int32) then (0 : Int32) else (1 : Int32))), .val (.int v8_3), .val (.int lc), .val (.int ta), .val (.int tb_), .val (.int tc), .val (.int td), .val (.ref nb7), .val (.ref nb12), .val (.ref b17), .val (.int (0 : Int32)), .val (.int (0 : Int32))] [(.ref nb12), (.ref b17)])) rfl (by rw [hml]; rfl) (Steps.refl _) (argsL := [(.ref nb12)]) (rest := []) (lenOf pd_7 rfl) rfl (by show 2 * 0 + _ ≤ _; exact Nat.le_of_eq rfl) (hb hby at_230) (fun _ _ => ⟨rfl, rfl, (by first | decide | omega | (dsimp only; omega) : 9 + 0 ≤ _), (by first | decide | omega | (dsimp only; omega) : 21 + 0 ≤ _)⟩)
              dsimp only [Pt.U, Pt.locs, Pt.cells, Pt.slots] at X232 l232 y232 z232 st232 hQ232
              subst l232 y232 z232
              obtain ⟨rfl, rfl, e232⟩ := hQ232
              first | rw [List.append_nil] at X232 | skip
              refine Goes.tr st232 ?_
              have e232' : T232.heap = T188.heap := e232
              show Goes p e below _ (T232.setTop (mkF m 233 #[.val (.int x0), .val (.int x1), .val (.int x2), .val (.int x3), .val (.int x4), .val (.int x5), .val (.int v6_1), .val (.int (if (x3 &&& (1 : Int32)) = (0 : Int32) then (0 : Int32) else (1 : Int32))), .val (.int v8_3), .val (.int lc), .val (.int ta), .val (.int tb_), .val (.int tc), .val (.int td), .val (.ref nb7), .val (.ref nb12), .val (.ref b17), .val (.int (0 : Int32)), .val (.int (0 : Int32))] [(.int (0 : Int32))]))
              refine Goes.via (fun _ kk_ => XS.iload X232.here hx rfl (hb hby at_233) rfl  kk_) ?_
              show Goes p e below _ (T232.setTop (mkF m 235 #[.val (.int x0), .val (.int x1), .val (.int x2), .val (.int x3), .val (.int x4), .val (.int x5), .val (.int v6_1), .val (.int (if (x3 &&& (1 : Int32)) = (0 : Int32) then (0 : Int32) else (1 : Int32))), .val (.int v8_3), .val (.int lc), .val (.int ta), .val (.int tb_), .val (.int tc), .val (.int td), .val (.ref nb7), .val (.ref nb12), .val (.ref b17), .val (.int (0 : Int32)), .val (.int (0 : Int32))] [(.int (0 : Int32)), (.int (0 : Int32))]))
              have hc235_234 : (0 : Int32) = (0 : Int32) := (by decide)
              refine Goes.via (fun _ kk_ => XS.icmpNo X232.here hx rfl (hb hby at_235) rfl (teq hc235_234).2 kk_) ?_
              show Goes p e below _ (T232.setTop (mkF m 238 #[.val (.int x0), .val (.int x1), .val (.int x2), .val (.int x3), .val (.int x4), .val (.int x5), .val (.int v6_1), .val (.int (if (x3 &&& (1 : Int32)) = (0 : Int32) then (0 : Int32) else (1 : Int32))), .val (.int v8_3), .val (.int lc), .val (.int ta), .val (.int tb_), .val (.int tc), .val (.int td), .val (.ref nb7), .val (.ref nb12), .val (.ref b17), .val (.int (0 : Int32)), .val (.int (0 : Int32))] []))
              refine Goes.via (fun _ kk_ => XS.iconst X232.here hx rfl (hb hby at_238) kk_) ?_
              show Goes p e below _ (T232.setTop (mkF m 239 #[.val (.int x0), .val (.int x1), .val (.int x2), .val (.int x3), .val (.int x4), .val (.int x5), .val (.int v6_1), .val (.int (if (x3 &&& (1 : Int32)) = (0 : Int32) then (0 : Int32) else (1 : Int32))), .val (.int v8_3), .val (.int lc), .val (.int ta), .val (.int tb_), .val (.int tc), .val (.int td), .val (.ref nb7), .val (.ref nb12), .val (.ref b17), .val (.int (0 : Int32)), .val (.int (0 : Int32))] [(.int (1 : Int32))]))
              refine Goes.via (fun _ kk_ => XS.goto X232.here hx rfl (pc0 := 239) (pc' := 243) rfl (hb hby at_239) (by decide) (by decide) kk_) ?_
              show Goes p e below _ (T232.setTop (mkF m 243 #[.val (.int x0), .val (.int x1), .val (.int x2), .val (.int x3), .val (.int x4), .val (.int x5), .val (.int v6_1), .val (.int (if (x3 &&& (1 : Int32)) = (0 : Int32) then (0 : Int32) else (1 : Int32))), .val (.int v8_3), .val (.int lc), .val (.int ta), .val (.int tb_), .val (.int tc), .val (.int td), .val (.ref nb7), .val (.ref nb12), .val (.ref b17), .val (.int (0 : Int32)), .val (.int (0 : Int32))] [(.int (1 : Int32))]))
              have Ks235 : KS Z own_KL T12.vm (T188.heap) := ((Ks12.ext E17).keep K188 (allS (NoS.obj A17 (hw _ (List.mem_of_getElem? (i := 28) rfl)) (by decide)) all0))
              have hKe : KS Z own_KL T232.vm T232.heap := by rw [e232']; exact Ks235.at_ (s := s) X232.warmed
              have sk236 : _ ≤ (T188.heap).size := (Nat.le_trans (Nat.le_trans (Nat.le_refl _) E17.1) K188.1)
              exact own_wfinN X232 SI12 (by rw [e232']; exact sk236) (fun U_ hv hh_ => by show KS Z own_KL U_.vm U_.heap; rw [hv, hh_]; exact hKe) hx hlk hret (by simp) (hb hby at_243) (by rw [e232']; exact ⟨rfl, N188, K230⟩) (by first | decide | omega | (dsimp only; omega)) (by first | decide | omega | (dsimp only; omega))
        · skip
          refine Goes.via (fun _ kk_ => XS.icmpYes X188.here hx rfl (pc0 := 186) (pc' := 206) rfl (hb hby at_186) rfl (feq hc186).2 (by decide) (by decide) kk_) ?_
          show Goes p e below _ (T188.setTop (mkF m 206 #[.val (.int x0), .val (.int x1), .val (.int x2), .val (.int x3), .val (.int x4), .val (.int x5), .val (.int v6_1), .val (.int (if (x3 &&& (1 : Int32)) = (0 : Int32) then (0 : Int32) else (1 : Int32))), .val (.int v8_3), .val (.int lc), .val (.int ta), .val (.int tb_), .val (.int tc), .val (.int td), .val (.ref nb7), .val (.ref nb12), .val (.ref b17), .unset, .unset] []))
          refine Goes.via (fun _ kk_ => XS.iconst X188.here hx rfl (hb hby at_206) kk_) ?_
          show Goes p e below _ (T188.setTop (mkF m 207 #[.val (.int x0), .val (.int x1), .val (.int x2), .val (.int x3), .val (.int x4), .val (.int x5), .val (.int v6_1), .val (.int (if (x3 &&& (1 : Int32)) = (0 : Int32) then (0 : Int32) else (1 : Int32))), .val (.int v8_3), .val (.int lc), .val (.int ta), .val (.int tb_), .val (.int tc), .val (.int td), .val (.ref nb7), .val (.ref nb12), .val (.ref b17), .unset, .unset] [(.int (0 : Int32))]))
          refine Goes.via (fun _ kk_ => XS.istore X188.here hx rfl (hb hby at_207) rfl (l' := #[.val (.int x0), .val (.int x1), .val (.int x2), .val (.int x3), .val (.int x4), .val (.int x5), .val (.int v6_1), .val (.int (if (x3 &&& (1 : Int32)) = (0 : Int32) then (0 : Int32) else (1 : Int32))), .val (.int v8_3), .val (.int lc), .val (.int ta), .val (.int tb_), .val (.int tc), .val (.int td), .val (.ref nb7), .val (.ref nb12), .val (.ref b17), .val (.int (0 : Int32)), .unset]) rfl kk_) ?_
          show Goes p e below _ (T188.setTop (mkF m 209 #[.val (.int x0), .val (.int x1), .val (.int x2), .val (.int x3), .val (.int x4), .val (.int x5), .val (.int v6_1), .val (.int (if (x3 &&& (1 : Int32)) = (0 : Int32) then (0 : Int32) else (1 : Int32))), .val (.int v8_3), .val (.int lc), .val (.int ta), .val (.int tb_), .val (.int tc), .val (.int td), .val (.ref nb7), .val (.ref nb12), .val (.ref b17), .val (.int (0 : Int32)), .unset] []))
          refine Goes.via (fun _ kk_ => XS.iload X188.here hx rfl (hb hby at_209) rfl  kk_) ?_
          show Goes p e below _ (T188.setTop (mkF m 211 #[.val (.int x0), .val (.int x1), .val (.int x2), .val (.int x3), .val (.int x4), .val (.int x5), .val (.int v6_1), .val (.int (if (x3 &&& (1 : Int32)) = (0 : Int32) then (0 : Int32) else (1 : Int32))), .val (.int v8_3), .val (.int lc), .val (.int ta), .val (.int tb_), .val (.int tc), .val (.int td), .val (.ref nb7), .val (.ref nb12), .val (.ref b17), .val (.int (0 : Int32)), .unset] [(.int v6_1)]))
          have hc211_237 : ¬ (v6_1 = (0 : Int32)) := hk0
          refine Goes.via (fun _ kk_ => XS.ifYes X188.here hx rfl (pc0 := 211) (pc' := 223) rfl (hb hby at_211) rfl ((if0 _ _).trans (feq hc211_237).2) (by decide) (by decide) kk_) ?_
          show Goes p e below _ (T188.setTop (mkF m 223 #[.val (.int x0), .val (.int x1), .val (.int x2), .val (.int x3), .val (.int x4), .val (.int x5), .val (.int v6_1), .val (.int (if (x3 &&& (1 : Int32)) = (0 : Int32) then (0 : Int32) else (1 : Int32))), .val (.int v8_3), .val (.int lc), .val (.int ta), .val (.int tb_), .val (.int tc), .val (.int td), .val (.ref nb7), .val (.ref nb12), .val (.ref b17), .val (.int (0 : Int32)), .unset] []))
          refine Goes.via (fun _ kk_ => XS.iconst X188.here hx rfl (hb hby at_223) kk_) ?_
          show Goes p e below _ (T188.setTop (mkF m 224 #[.val (.int x0), .val (.int x1), .val (.int x2), .val (.int x3), .val (.int x4), .val (.int x5), .val (.int v6_1), .val (.int (if (x3 &&& (1 : Int32)) = (0 : Int32) then (0 : Int32) else (1 : Int32))), .val (.int v8_3), .val (.int lc), .val (.int ta), .val (.int tb_), .val (.int tc), .val (.int td), .val (.ref nb7), .val (.ref nb12), .val (.ref b17), .val (.int (0 : Int32)), .unset] [(.int (0 : Int32))]))
          refine Goes.via (fun _ kk_ => XS.istore X188.here hx rfl (hb hby at_224) rfl (l' := #[.val (.int x0), .val (.int x1), .val (.int x2), .val (.int x3), .val (.int x4), .val (.int x5), .val (.int v6_1), .val (.int (if (x3 &&& (1 : Int32)) = (0 : Int32) then (0 : Int32) else (1 : Int32))), .val (.int v8_3), .val (.int lc), .val (.int ta), .val (.int tb_), .val (.int tc), .val (.int td), .val (.ref nb7), .val (.ref nb12), .val (.ref b17), .val (.int (0 : Int32)), .val (.int (0 : Int32))]) rfl kk_) ?_
          show Goes p e below _ (T188.setTop (mkF m 226 #[.val (.int x0), .val (.int x1), .val (.int x2), .val (.int x3), .val (.int x4), .val (.int x5), .val (.int v6_1), .val (.int (if (x3 &&& (1 : Int32)) = (0 : Int32) then (0 : Int32) else (1 : Int32))), .val (.int v8_3), .val (.int lc), .val (.int ta), .val (.int tb_), .val (.int tc), .val (.int td), .val (.ref nb7), .val (.ref nb12), .val (.ref b17), .val (.int (0 : Int32)), .val (.int (0 : Int32))] []))
          refine Goes.via (fun _ kk_ => XS.aload X188.here hx rfl (hb hby at_226) rfl rfl  kk_) ?_
          show Goes p e below _ (T188.setTop (mkF m 228 #[.val (.int x0), .val (.int x1), .val (.int x2), .val (.int x3), .val (.int x4), .val (.int x5), .val (.int v6_1), .val (.int (if (x3 &&& (1 : Int32)) = (0 : Int32) then (0 : Int32) else (1 : Int32))), .val (.int v8_3), .val (.int lc), .val (.int ta), .val (.int tb_), .val (.int tc), .val (.int td), .val (.ref nb7), .val (.ref nb12), .val (.ref b17), .val (.int (0 : Int32)), .val (.int (0 : Int32))] [(.ref b17)]))
          refine Goes.via (fun _ kk_ => XS.aload X188.here hx rfl (hb hby at_228) rfl rfl  kk_) ?_
          show Goes p e below _ (T188.setTop (mkF m 230 #[.val (.int x0), .val (.int x1), .val (.int x2), .val (.int x3), .val (.int x4), .val (.int x5), .val (.int v6_1), .val (.int (if (x3 &&& (1 : Int32)) = (0 : Int32) then (0 : Int32) else (1 : Int32))), .val (.int v8_3), .val (.int lc), .val (.int ta), .val (.int tb_), .val (.int tc), .val (.int td), .val (.ref nb7), .val (.ref nb12), .val (.ref b17), .val (.int (0 : Int32)), .val (.int (0 : Int32))] [(.ref nb12), (.ref b17)]))
          have K238 : Keep h0 T188.heap [] := (K25.trans K188 (allS (Or.inr sz_b17) all0))
          have f239 : Sta Z T188.heap "com/example/map_rewriter/maprewriter/core/SExpression$Kind" "SYMBOL" "Lcom/example/map_rewriter/maprewriter/core/SExpression$Kind;" (.ref A0) := own_sta_keep OK0 K238
          have z241 : h0.size ≤ (T188.heap).size := (Nat.le_trans z34 K188.1)
          obtain ⟨cq240, kq240, q240a, q240b, q240c⟩ := isOf hZ rfl u188_0
          obtain ⟨_, _, ⟨T240, L240, k240, n240⟩, -, X240, ⟨Lc240, hQ240, l240, y240, z240⟩, st240⟩ := X188.virtualBack hx (y := (⟨"com/example/map_rewriter/maprewriter/core/SExpression$Atom", "isSymbol", "(Ljava/lang/String;)Z"⟩ : MethodName)) (z := (⟨"com/example/map_rewriter/maprewriter/core/SExpression$Atom", "isSymbol", "(Ljava/lang/String;)Z"⟩ : MethodName)) hown (mvT hZ (hw _ (List.mem_of_getElem? (i := 55) rfl))) (mvT hZ (hw _ (List.mem_of_getElem? (i := 56) rfl))) (notFace_of_selects (args := #[]) (mvT hZ (hw _ (List.mem_of_getElem? (i := 58) rfl)))) (mvT hZ (hw _ (List.mem_of_getElem? (i := 58) rfl))) (mvT hZ (hw _ (List.mem_of_getElem? (i := 57) rfl))) (by decide) (backOf (W := 0) (rm8n l Z a0 hw [] b17 nb12 A0 ak33 T188.heap n0 (Nat.le_trans Z0 z241) u188_1 f239 hka) hZ (hw _ (List.mem_of_getElem? (i := 59) rfl)) (hw _ (List.mem_of_getElem? (i := 29) rfl)) (by decide) (by decide)) q240a q240c (g := (mkF m 230 #[.val (.int x0), .val (.int x1), .val (.int x2), .val (.int x3), .val (.int x4), .val (.int x5), .val (.int v6_1), .val (.int (if (x3 &&& (1 : Int32)) = (0 : Int32) then (0 : Int32) else (1 : Int32))), .val (.int v8_3), .val (.int lc), .val (.int ta), .val (.int tb_), .val (.int tc), .val (.int td), .val (.ref nb7), .val (.ref nb12), .val (.ref b17), .val (.int (0 : Int32)), .val (.int (0 : Int32))] [(.ref nb12), (.ref b17)])) rfl (by rw [hml]; rfl) (Steps.refl _) (argsL := [(.ref nb12)]) (rest := []) (lenOf pd_7 rfl) rfl (by show 2 * 0 + _ ≤ _; exact Nat.le_of_eq rfl) (hb hby at_230) (fun _ _ => ⟨rfl, rfl, (by first | decide | omega | (dsimp only; omega) : 9 + 0 ≤ _), (by first | decide | omega | (dsimp only; omega) : 21 + 0 ≤ _)⟩)
          dsimp only [Pt.U, Pt.locs, Pt.cells, Pt.slots] at X240 l240 y240 z240 st240 hQ240
          subst l240 y240 z240
          obtain ⟨rfl, rfl, e240⟩ := hQ240
          first | rw [List.append_nil] at X240 | skip
          refine Goes.tr st240 ?_
          have e240' : T240.heap = T188.heap := e240
          show Goes p e below _ (T240.setTop (mkF m 233 #[.val (.int x0), .val (.int x1), .val (.int x2), .val (.int x3), .val (.int x4), .val (.int x5), .val (.int v6_1), .val (.int (if (x3 &&& (1 : Int32)) = (0 : Int32) then (0 : Int32) else (1 : Int32))), .val (.int v8_3), .val (.int lc), .val (.int ta), .val (.int tb_), .val (.int tc), .val (.int td), .val (.ref nb7), .val (.ref nb12), .val (.ref b17), .val (.int (0 : Int32)), .val (.int (0 : Int32))] [(.int (0 : Int32))]))
          refine Goes.via (fun _ kk_ => XS.iload X240.here hx rfl (hb hby at_233) rfl  kk_) ?_
          show Goes p e below _ (T240.setTop (mkF m 235 #[.val (.int x0), .val (.int x1), .val (.int x2), .val (.int x3), .val (.int x4), .val (.int x5), .val (.int v6_1), .val (.int (if (x3 &&& (1 : Int32)) = (0 : Int32) then (0 : Int32) else (1 : Int32))), .val (.int v8_3), .val (.int lc), .val (.int ta), .val (.int tb_), .val (.int tc), .val (.int td), .val (.ref nb7), .val (.ref nb12), .val (.ref b17), .val (.int (0 : Int32)), .val (.int (0 : Int32))] [(.int (0 : Int32)), (.int (0 : Int32))]))
          have hc235_242 : (0 : Int32) = (0 : Int32) := (by decide)
          refine Goes.via (fun _ kk_ => XS.icmpNo X240.here hx rfl (hb hby at_235) rfl (teq hc235_242).2 kk_) ?_
          show Goes p e below _ (T240.setTop (mkF m 238 #[.val (.int x0), .val (.int x1), .val (.int x2), .val (.int x3), .val (.int x4), .val (.int x5), .val (.int v6_1), .val (.int (if (x3 &&& (1 : Int32)) = (0 : Int32) then (0 : Int32) else (1 : Int32))), .val (.int v8_3), .val (.int lc), .val (.int ta), .val (.int tb_), .val (.int tc), .val (.int td), .val (.ref nb7), .val (.ref nb12), .val (.ref b17), .val (.int (0 : Int32)), .val (.int (0 : Int32))] []))
          refine Goes.via (fun _ kk_ => XS.iconst X240.here hx rfl (hb hby at_238) kk_) ?_
          show Goes p e below _ (T240.setTop (mkF m 239 #[.val (.int x0), .val (.int x1), .val (.int x2), .val (.int x3), .val (.int x4), .val (.int x5), .val (.int v6_1), .val (.int (if (x3 &&& (1 : Int32)) = (0 : Int32) then (0 : Int32) else (1 : Int32))), .val (.int v8_3), .val (.int lc), .val (.int ta), .val (.int tb_), .val (.int tc), .val (.int td), .val (.ref nb7), .val (.ref nb12), .val (.ref b17), .val (.int (0 : Int32)), .val (.int (0 : Int32))] [(.int (1 : Int32))]))
          refine Goes.via (fun _ kk_ => XS.goto X240.here hx rfl (pc0 := 239) (pc' := 243) rfl (hb hby at_239) (by decide) (by decide) kk_) ?_
          show Goes p e below _ (T240.setTop (mkF m 243 #[.val (.int x0), .val (.int x1), .val (.int x2), .val (.int x3), .val (.int x4), .val (.int x5), .val (.int v6_1), .val (.int (if (x3 &&& (1 : Int32)) = (0 : Int32) then (0 : Int32) else (1 : Int32))), .val (.int v8_3), .val (.int lc), .val (.int ta), .val (.int tb_), .val (.int tc), .val (.int td), .val (.ref nb7), .val (.ref nb12), .val (.ref b17), .val (.int (0 : Int32)), .val (.int (0 : Int32))] [(.int (1 : Int32))]))
          have Ks243 : KS Z own_KL T12.vm (T188.heap) := ((Ks12.ext E17).keep K188 (allS (NoS.obj A17 (hw _ (List.mem_of_getElem? (i := 28) rfl)) (by decide)) all0))
          have hKe : KS Z own_KL T240.vm T240.heap := by rw [e240']; exact Ks243.at_ (s := s) X240.warmed
          have sk244 : _ ≤ (T188.heap).size := (Nat.le_trans (Nat.le_trans (Nat.le_refl _) E17.1) K188.1)
          exact own_wfinN X240 SI12 (by rw [e240']; exact sk244) (fun U_ hv hh_ => by show KS Z own_KL U_.vm U_.heap; rw [hv, hh_]; exact hKe) hx hlk hret (by simp) (hb hby at_243) (by rw [e240']; exact ⟨rfl, N188, K238⟩) (by first | decide | omega | (dsimp only; omega)) (by first | decide | omega | (dsimp only; omega))
    · skip
      refine Goes.via (fun _ kk_ => XS.icmpYes X188.here hx rfl (pc0 := 173) (pc' := 206) rfl (hb hby at_173) rfl (feq hc173).2 (by decide) (by decide) kk_) ?_
      show Goes p e below _ (T188.setTop (mkF m 206 #[.val (.int x0), .val (.int x1), .val (.int x2), .val (.int x3), .val (.int x4), .val (.int x5), .val (.int v6_1), .val (.int (if (x3 &&& (1 : Int32)) = (0 : Int32) then (0 : Int32) else (1 : Int32))), .val (.int v8_3), .val (.int lc), .val (.int ta), .val (.int tb_), .val (.int tc), .val (.int td), .val (.ref nb7), .val (.ref nb12), .val (.ref b17), .unset, .unset] []))
      refine Goes.via (fun _ kk_ => XS.iconst X188.here hx rfl (hb hby at_206) kk_) ?_
      show Goes p e below _ (T188.setTop (mkF m 207 #[.val (.int x0), .val (.int x1), .val (.int x2), .val (.int x3), .val (.int x4), .val (.int x5), .val (.int v6_1), .val (.int (if (x3 &&& (1 : Int32)) = (0 : Int32) then (0 : Int32) else (1 : Int32))), .val (.int v8_3), .val (.int lc), .val (.int ta), .val (.int tb_), .val (.int tc), .val (.int td), .val (.ref nb7), .val (.ref nb12), .val (.ref b17), .unset, .unset] [(.int (0 : Int32))]))
      refine Goes.via (fun _ kk_ => XS.istore X188.here hx rfl (hb hby at_207) rfl (l' := #[.val (.int x0), .val (.int x1), .val (.int x2), .val (.int x3), .val (.int x4), .val (.int x5), .val (.int v6_1), .val (.int (if (x3 &&& (1 : Int32)) = (0 : Int32) then (0 : Int32) else (1 : Int32))), .val (.int v8_3), .val (.int lc), .val (.int ta), .val (.int tb_), .val (.int tc), .val (.int td), .val (.ref nb7), .val (.ref nb12), .val (.ref b17), .val (.int (0 : Int32)), .unset]) rfl kk_) ?_
      show Goes p e below _ (T188.setTop (mkF m 209 #[.val (.int x0), .val (.int x1), .val (.int x2), .val (.int x3), .val (.int x4), .val (.int x5), .val (.int v6_1), .val (.int (if (x3 &&& (1 : Int32)) = (0 : Int32) then (0 : Int32) else (1 : Int32))), .val (.int v8_3), .val (.int lc), .val (.int ta), .val (.int tb_), .val (.int tc), .val (.int td), .val (.ref nb7), .val (.ref nb12), .val (.ref b17), .val (.int (0 : Int32)), .unset] []))
      refine Goes.via (fun _ kk_ => XS.iload X188.here hx rfl (hb hby at_209) rfl  kk_) ?_
      show Goes p e below _ (T188.setTop (mkF m 211 #[.val (.int x0), .val (.int x1), .val (.int x2), .val (.int x3), .val (.int x4), .val (.int x5), .val (.int v6_1), .val (.int (if (x3 &&& (1 : Int32)) = (0 : Int32) then (0 : Int32) else (1 : Int32))), .val (.int v8_3), .val (.int lc), .val (.int ta), .val (.int tb_), .val (.int tc), .val (.int td), .val (.ref nb7), .val (.ref nb12), .val (.ref b17), .val (.int (0 : Int32)), .unset] [(.int v6_1)]))
      have hc211_245 : ¬ (v6_1 = (0 : Int32)) := hk0
      refine Goes.via (fun _ kk_ => XS.ifYes X188.here hx rfl (pc0 := 211) (pc' := 223) rfl (hb hby at_211) rfl ((if0 _ _).trans (feq hc211_245).2) (by decide) (by decide) kk_) ?_
      show Goes p e below _ (T188.setTop (mkF m 223 #[.val (.int x0), .val (.int x1), .val (.int x2), .val (.int x3), .val (.int x4), .val (.int x5), .val (.int v6_1), .val (.int (if (x3 &&& (1 : Int32)) = (0 : Int32) then (0 : Int32) else (1 : Int32))), .val (.int v8_3), .val (.int lc), .val (.int ta), .val (.int tb_), .val (.int tc), .val (.int td), .val (.ref nb7), .val (.ref nb12), .val (.ref b17), .val (.int (0 : Int32)), .unset] []))
      refine Goes.via (fun _ kk_ => XS.iconst X188.here hx rfl (hb hby at_223) kk_) ?_
      show Goes p e below _ (T188.setTop (mkF m 224 #[.val (.int x0), .val (.int x1), .val (.int x2), .val (.int x3), .val (.int x4), .val (.int x5), .val (.int v6_1), .val (.int (if (x3 &&& (1 : Int32)) = (0 : Int32) then (0 : Int32) else (1 : Int32))), .val (.int v8_3), .val (.int lc), .val (.int ta), .val (.int tb_), .val (.int tc), .val (.int td), .val (.ref nb7), .val (.ref nb12), .val (.ref b17), .val (.int (0 : Int32)), .unset] [(.int (0 : Int32))]))
      refine Goes.via (fun _ kk_ => XS.istore X188.here hx rfl (hb hby at_224) rfl (l' := #[.val (.int x0), .val (.int x1), .val (.int x2), .val (.int x3), .val (.int x4), .val (.int x5), .val (.int v6_1), .val (.int (if (x3 &&& (1 : Int32)) = (0 : Int32) then (0 : Int32) else (1 : Int32))), .val (.int v8_3), .val (.int lc), .val (.int ta), .val (.int tb_), .val (.int tc), .val (.int td), .val (.ref nb7), .val (.ref nb12), .val (.ref b17), .val (.int (0 : Int32)), .val (.int (0 : Int32))]) rfl kk_) ?_
      show Goes p e below _ (T188.setTop (mkF m 226 #[.val (.int x0), .val (.int x1), .val (.int x2), .val (.int x3), .val (.int x4), .val (.int x5), .val (.int v6_1), .val (.int (if (x3 &&& (1 : Int32)) = (0 : Int32) then (0 : Int32) else (1 : Int32))), .val (.int v8_3), .val (.int lc), .val (.int ta), .val (.int tb_), .val (.int tc), .val (.int td), .val (.ref nb7), .val (.ref nb12), .val (.ref b17), .val (.int (0 : Int32)), .val (.int (0 : Int32))] []))
      refine Goes.via (fun _ kk_ => XS.aload X188.here hx rfl (hb hby at_226) rfl rfl  kk_) ?_
      show Goes p e below _ (T188.setTop (mkF m 228 #[.val (.int x0), .val (.int x1), .val (.int x2), .val (.int x3), .val (.int x4), .val (.int x5), .val (.int v6_1), .val (.int (if (x3 &&& (1 : Int32)) = (0 : Int32) then (0 : Int32) else (1 : Int32))), .val (.int v8_3), .val (.int lc), .val (.int ta), .val (.int tb_), .val (.int tc), .val (.int td), .val (.ref nb7), .val (.ref nb12), .val (.ref b17), .val (.int (0 : Int32)), .val (.int (0 : Int32))] [(.ref b17)]))
      refine Goes.via (fun _ kk_ => XS.aload X188.here hx rfl (hb hby at_228) rfl rfl  kk_) ?_
      show Goes p e below _ (T188.setTop (mkF m 230 #[.val (.int x0), .val (.int x1), .val (.int x2), .val (.int x3), .val (.int x4), .val (.int x5), .val (.int v6_1), .val (.int (if (x3 &&& (1 : Int32)) = (0 : Int32) then (0 : Int32) else (1 : Int32))), .val (.int v8_3), .val (.int lc), .val (.int ta), .val (.int tb_), .val (.int tc), .val (.int td), .val (.ref nb7), .val (.ref nb12), .val (.ref b17), .val (.int (0 : Int32)), .val (.int (0 : Int32))] [(.ref nb12), (.ref b17)]))
      have K246 : Keep h0 T188.heap [] := (K25.trans K188 (allS (Or.inr sz_b17) all0))
      have f247 : Sta Z T188.heap "com/example/map_rewriter/maprewriter/core/SExpression$Kind" "SYMBOL" "Lcom/example/map_rewriter/maprewriter/core/SExpression$Kind;" (.ref A0) := own_sta_keep OK0 K246
      have z249 : h0.size ≤ (T188.heap).size := (Nat.le_trans z34 K188.1)
      obtain ⟨cq248, kq248, q248a, q248b, q248c⟩ := isOf hZ rfl u188_0
      obtain ⟨_, _, ⟨T248, L248, k248, n248⟩, -, X248, ⟨Lc248, hQ248, l248, y248, z248⟩, st248⟩ := X188.virtualBack hx (y := (⟨"com/example/map_rewriter/maprewriter/core/SExpression$Atom", "isSymbol", "(Ljava/lang/String;)Z"⟩ : MethodName)) (z := (⟨"com/example/map_rewriter/maprewriter/core/SExpression$Atom", "isSymbol", "(Ljava/lang/String;)Z"⟩ : MethodName)) hown (mvT hZ (hw _ (List.mem_of_getElem? (i := 55) rfl))) (mvT hZ (hw _ (List.mem_of_getElem? (i := 56) rfl))) (notFace_of_selects (args := #[]) (mvT hZ (hw _ (List.mem_of_getElem? (i := 58) rfl)))) (mvT hZ (hw _ (List.mem_of_getElem? (i := 58) rfl))) (mvT hZ (hw _ (List.mem_of_getElem? (i := 57) rfl))) (by decide) (backOf (W := 0) (rm8n l Z a0 hw [] b17 nb12 A0 ak33 T188.heap n0 (Nat.le_trans Z0 z249) u188_1 f247 hka) hZ (hw _ (List.mem_of_getElem? (i := 59) rfl)) (hw _ (List.mem_of_getElem? (i := 29) rfl)) (by decide) (by decide)) q248a q248c (g := (mkF m 230 #[.val (.int x0), .val (.int x1), .val (.int x2), .val (.int x3), .val (.int x4), .val (.int x5), .val (.int v6_1), .val (.int (if (x3 &&& (1 : Int32)) = (0 : Int32) then (0 : Int32) else (1 : Int32))), .val (.int v8_3), .val (.int lc), .val (.int ta), .val (.int tb_), .val (.int tc), .val (.int td), .val (.ref nb7), .val (.ref nb12), .val (.ref b17), .val (.int (0 : Int32)), .val (.int (0 : Int32))] [(.ref nb12), (.ref b17)])) rfl (by rw [hml]; rfl) (Steps.refl _) (argsL := [(.ref nb12)]) (rest := []) (lenOf pd_7 rfl) rfl (by show 2 * 0 + _ ≤ _; exact Nat.le_of_eq rfl) (hb hby at_230) (fun _ _ => ⟨rfl, rfl, (by first | decide | omega | (dsimp only; omega) : 9 + 0 ≤ _), (by first | decide | omega | (dsimp only; omega) : 21 + 0 ≤ _)⟩)
      dsimp only [Pt.U, Pt.locs, Pt.cells, Pt.slots] at X248 l248 y248 z248 st248 hQ248
      subst l248 y248 z248
      obtain ⟨rfl, rfl, e248⟩ := hQ248
      first | rw [List.append_nil] at X248 | skip
      refine Goes.tr st248 ?_
      have e248' : T248.heap = T188.heap := e248
      show Goes p e below _ (T248.setTop (mkF m 233 #[.val (.int x0), .val (.int x1), .val (.int x2), .val (.int x3), .val (.int x4), .val (.int x5), .val (.int v6_1), .val (.int (if (x3 &&& (1 : Int32)) = (0 : Int32) then (0 : Int32) else (1 : Int32))), .val (.int v8_3), .val (.int lc), .val (.int ta), .val (.int tb_), .val (.int tc), .val (.int td), .val (.ref nb7), .val (.ref nb12), .val (.ref b17), .val (.int (0 : Int32)), .val (.int (0 : Int32))] [(.int (0 : Int32))]))
      refine Goes.via (fun _ kk_ => XS.iload X248.here hx rfl (hb hby at_233) rfl  kk_) ?_
      show Goes p e below _ (T248.setTop (mkF m 235 #[.val (.int x0), .val (.int x1), .val (.int x2), .val (.int x3), .val (.int x4), .val (.int x5), .val (.int v6_1), .val (.int (if (x3 &&& (1 : Int32)) = (0 : Int32) then (0 : Int32) else (1 : Int32))), .val (.int v8_3), .val (.int lc), .val (.int ta), .val (.int tb_), .val (.int tc), .val (.int td), .val (.ref nb7), .val (.ref nb12), .val (.ref b17), .val (.int (0 : Int32)), .val (.int (0 : Int32))] [(.int (0 : Int32)), (.int (0 : Int32))]))
      have hc235_250 : (0 : Int32) = (0 : Int32) := (by decide)
      refine Goes.via (fun _ kk_ => XS.icmpNo X248.here hx rfl (hb hby at_235) rfl (teq hc235_250).2 kk_) ?_
      show Goes p e below _ (T248.setTop (mkF m 238 #[.val (.int x0), .val (.int x1), .val (.int x2), .val (.int x3), .val (.int x4), .val (.int x5), .val (.int v6_1), .val (.int (if (x3 &&& (1 : Int32)) = (0 : Int32) then (0 : Int32) else (1 : Int32))), .val (.int v8_3), .val (.int lc), .val (.int ta), .val (.int tb_), .val (.int tc), .val (.int td), .val (.ref nb7), .val (.ref nb12), .val (.ref b17), .val (.int (0 : Int32)), .val (.int (0 : Int32))] []))
      refine Goes.via (fun _ kk_ => XS.iconst X248.here hx rfl (hb hby at_238) kk_) ?_
      show Goes p e below _ (T248.setTop (mkF m 239 #[.val (.int x0), .val (.int x1), .val (.int x2), .val (.int x3), .val (.int x4), .val (.int x5), .val (.int v6_1), .val (.int (if (x3 &&& (1 : Int32)) = (0 : Int32) then (0 : Int32) else (1 : Int32))), .val (.int v8_3), .val (.int lc), .val (.int ta), .val (.int tb_), .val (.int tc), .val (.int td), .val (.ref nb7), .val (.ref nb12), .val (.ref b17), .val (.int (0 : Int32)), .val (.int (0 : Int32))] [(.int (1 : Int32))]))
      refine Goes.via (fun _ kk_ => XS.goto X248.here hx rfl (pc0 := 239) (pc' := 243) rfl (hb hby at_239) (by decide) (by decide) kk_) ?_
      show Goes p e below _ (T248.setTop (mkF m 243 #[.val (.int x0), .val (.int x1), .val (.int x2), .val (.int x3), .val (.int x4), .val (.int x5), .val (.int v6_1), .val (.int (if (x3 &&& (1 : Int32)) = (0 : Int32) then (0 : Int32) else (1 : Int32))), .val (.int v8_3), .val (.int lc), .val (.int ta), .val (.int tb_), .val (.int tc), .val (.int td), .val (.ref nb7), .val (.ref nb12), .val (.ref b17), .val (.int (0 : Int32)), .val (.int (0 : Int32))] [(.int (1 : Int32))]))
      have Ks251 : KS Z own_KL T12.vm (T188.heap) := ((Ks12.ext E17).keep K188 (allS (NoS.obj A17 (hw _ (List.mem_of_getElem? (i := 28) rfl)) (by decide)) all0))
      have hKe : KS Z own_KL T248.vm T248.heap := by rw [e248']; exact Ks251.at_ (s := s) X248.warmed
      have sk252 : _ ≤ (T188.heap).size := (Nat.le_trans (Nat.le_trans (Nat.le_refl _) E17.1) K188.1)
      exact own_wfinN X248 SI12 (by rw [e248']; exact sk252) (fun U_ hv hh_ => by show KS Z own_KL U_.vm U_.heap; rw [hv, hh_]; exact hKe) hx hlk hret (by simp) (hb hby at_243) (by rw [e248']; exact ⟨rfl, N188, K246⟩) (by first | decide | omega | (dsimp only; omega)) (by first | decide | omega | (dsimp only; omega))
set_option maxRecDepth 65536 in
set_option maxHeartbeats 40000000 in
theorem comes_1 {Post : Tables → Env → Array Value → State → Outcome → State → Prop} (hpost : ∀ tb e args s v u, (limb_1_1.after args s (.returned v) u = true ∧ limb_1_2.after args s (.returned v) u = true ∧ True) → ReturnedEndW s (.returned v) u (Jvm.fieldLocs frame_1_writes args s ++ Jvm.arrayLocs frame_1_arrays args s ++ Jvm.staticLocs frame_1_statics s) 24 1152 → Post tb e args s (.returned v) u) :
    ArmFor flags0 classFile x code maxLocals ret World_1 tables_1 room_1 Calls_1 rest_1 Pre_1 Post := by
  intro l hfl _ _ p e ha hc hk s m args below hf hA hF happ hP
  obtain ⟨hcalls, hrest, hpre⟩ := hP
  obtain ⟨-, -, -, hnamed, -, -, -, hat⟩ := (Spec.applies_iff hf).mp happ
  obtain ⟨hg, hn⟩ := and_e (Cond.before_iff.mp (show (Jvm.Cond.and given_1 narrow_1).before args s = true from hpre))
  obtain ⟨gg1, gg2⟩ := and_e hg
  obtain ⟨gg3, gg4⟩ := and_e gg2
  obtain ⟨gg5, gg6⟩ := and_e gg4
  obtain ⟨gg7, gg8⟩ := and_e gg6
  obtain ⟨gg9, gg10⟩ := and_e gg8
  obtain ⟨gg11, gg12⟩ := and_e gg10
  obtain ⟨w0, w1, w2, w3, w4, w5, rfl⟩ : ∃ w0 w1 w2 w3 w4 w5 : Value, args = #[w0, w1, w2, w3, w4, w5] := by
    have hs : args.size = 6 := by simpa [Cond.value, given_1] using gg1
    obtain ⟨L⟩ := args
    match L, hs with
    | [w0, w1, w2, w3, w4, w5], _ => exact ⟨w0, w1, w2, w3, w4, w5, rfl⟩
  have hw := fun d (hd : d ∈ tables_1) => atoms_spec (ws := Jvm.Cond.code x code maxLocals ret :: tables_1) hat d (List.mem_cons_of_mem _ hd)
  have hfit : Fit s := fun {y c} hc i hi => by
    obtain ⟨ha, rfl⟩ := Array.getElem?_eq_some_iff.mp hc
    have q := List.all_eq_true.mp ((Array.all_eq_true_iff_forall_mem.mp hF) _ (Array.getElem_mem ha)) i (List.mem_range.mpr hi)
    simpa [Array.getElem?_eq_getElem hi] using q
  obtain ⟨hsets, hown0⟩ := atoms_of _ (rest_1_c_eq ▸ (show rest_1_c.before _ s = true from hrest))
  have hr0 := Cond.before_iff.mp hown0
  obtain ⟨i0, ei0⟩ := is_v gg3
  obtain rfl : w0 = (.int i0) := Option.some.inj ei0
  obtain ⟨i1, ei1⟩ := is_v gg5
  obtain rfl : w1 = (.int i1) := Option.some.inj ei1
  obtain ⟨i2, ei2⟩ := is_v gg7
  obtain rfl : w2 = (.int i2) := Option.some.inj ei2
  obtain ⟨i3, ei3⟩ := is_v gg9
  obtain rfl : w3 = (.int i3) := Option.some.inj ei3
  obtain ⟨i4, ei4⟩ := is_v gg11
  obtain rfl : w4 = (.int i4) := Option.some.inj ei4
  obtain ⟨i5, ei5⟩ := is_v gg12
  obtain rfl : w5 = (.int i5) := Option.some.inj ei5
  obtain ⟨na0, nb0⟩ := and_e hn
  obtain ⟨na1, nb1⟩ := and_e nb0
  obtain ⟨na2, nb2⟩ := and_e nb1
  obtain ⟨na3, nb3⟩ := and_e nb2
  obtain ⟨na4, nb4⟩ := and_e nb3
  obtain ⟨na5, nb5⟩ := and_e nb4
  obtain ⟨na6, nb6⟩ := and_e nb5
  obtain ⟨na7, nb7⟩ := and_e nb6
  obtain ⟨na8, nb8⟩ := and_e nb7
  obtain ⟨na9, nb9⟩ := and_e nb8
  obtain ⟨na10, nb10⟩ := and_e nb9
  obtain ⟨na11, nb11⟩ := and_e nb10
  obtain ⟨na12, nb12⟩ := and_e nb11
  obtain ⟨cS, eS⟩ := is_v (Cond.before_iff.mp (hsets _ (List.mem_of_getElem? (i := 1) rfl)))
  have OS : Sta s s.heap "java/lang/String" "COMPACT_STRINGS" "Z" (.int cS) := Sta.start eS (Or.inl (hsets _ (List.mem_of_getElem? (i := 0) rfl)))
  have HS : ¬ cS = (0 : Int32) := gotF (Cond.eq_ints eS (Term.int_eval (0))) (not_v (Cond.before_iff.mp (hsets _ (List.mem_of_getElem? (i := 2) rfl))))
  have HW : Jvm.Lit.compactW.before _ s = true := hsets _ (List.mem_of_getElem? (i := 2) rfl)
  have HC0 : Jvm.Lit.constHeld s "java/lang/String" 7 := hcalls.1 ("java/lang/String", 7) (by simp [consts_1])
  obtain ⟨A0, va0⟩ := exa_v na0
  have OK0 := Sta.start va0 (Or.inr ⟨(hw _ (List.mem_of_getElem? (i := 34) rfl)), (hw _ (List.mem_of_getElem? (i := 35) rfl))⟩)
  have od0 := own_fld va0 na3
  obtain ⟨A1, va1⟩ := exa_v na6
  have OK1 := Sta.start va1 (Or.inr ⟨(hw _ (List.mem_of_getElem? (i := 34) rfl)), (hw _ (List.mem_of_getElem? (i := 87) rfl))⟩)
  have od1 := own_fld va1 na7
  obtain ⟨A2, va2⟩ := exa_v na4
  have OK2 := Sta.start va2 (Or.inr ⟨(hw _ (List.mem_of_getElem? (i := 34) rfl)), (hw _ (List.mem_of_getElem? (i := 85) rfl))⟩)
  have od2 := own_fld va2 na5
  obtain ⟨A3, va3⟩ := exa_v na8
  have OK3 := Sta.start va3 (Or.inr ⟨(hw _ (List.mem_of_getElem? (i := 34) rfl)), (hw _ (List.mem_of_getElem? (i := 89) rfl))⟩)
  have od3 := own_fld va3 na9
  obtain ⟨A4, va4⟩ := exa_v na1
  have OK4 := Sta.start va4 (Or.inr ⟨(hw _ (List.mem_of_getElem? (i := 34) rfl)), (hw _ (List.mem_of_getElem? (i := 73) rfl))⟩)
  have od4 := own_fld va4 na2
  obtain ⟨A5, va5⟩ := exa_v na12
  have OK5 := Sta.start va5 (Or.inr ⟨(hw _ (List.mem_of_getElem? (i := 34) rfl)), (hw _ (List.mem_of_getElem? (i := 93) rfl))⟩)
  have od5 := own_fld va5 nb12
  obtain ⟨A6, va6⟩ := exa_v na10
  have OK6 := Sta.start va6 (Or.inr ⟨(hw _ (List.mem_of_getElem? (i := 34) rfl)), (hw _ (List.mem_of_getElem? (i := 91) rfl))⟩)
  have od6 := own_fld va6 na11
  have HN1 : A1 ≠ A0 := Fld.ne od1 od0 (by intro q; exact absurd (Value.int.inj q) (by decide))
  have HN2 : A2 ≠ A0 := Fld.ne od2 od0 (by intro q; exact absurd (Value.int.inj q) (by decide))
  have HN3 : A3 ≠ A0 := Fld.ne od3 od0 (by intro q; exact absurd (Value.int.inj q) (by decide))
  have HN4 : A4 ≠ A0 := Fld.ne od4 od0 (by intro q; exact absurd (Value.int.inj q) (by decide))
  have HN5 : A5 ≠ A0 := Fld.ne od5 od0 (by intro q; exact absurd (Value.int.inj q) (by decide))
  have HN6 : A6 ≠ A0 := Fld.ne od6 od0 (by intro q; exact absurd (Value.int.inj q) (by decide))
  obtain ⟨n, o, h1, h2, h3, _, L, rfl, ⟨rfl, N, -⟩, -, hq⟩ := rm0 l s _ hw tables_1 i0 i1 i2 i3 i4 i5 cS A0 A1 A2 A3 A4 A5 A6 s.heap s.heap.size (Nat.le_refl _) OS HS OK0 OK1 OK2 OK3 OK4 OK5 OK6 HN1 HN2 HN3 HN4 HN5 HN6 (Old.start s) HW HC0 p e ha hc hk s m _ below hf ((Spec.applies_iff_loose hf).mp happ).1 ⟨rfl, State.Warmed39.refl s, rfl, KS.start⟩ trivial
  refine ⟨n, _, h1, h2, h3, hpost _ _ _ _ _ _ ⟨Cond.after_iff.mpr rfl, Cond.after_iff.mpr (eq_i res_at (Term.int_eval (1)) rfl), trivial⟩ ⟨hq.1, hq.2.1, hq.2.2.1, (hq.2.2.2.sift fun y hy => Or.inr (N y hy)).mono (by decide) (by decide)⟩⟩
theorem main_1_1 : Claimed_1_1 := comes_1 fun _ _ _ _ _ _ h hF => ⟨h.1, hF⟩
theorem main_1_2 : Claimed_1_2 := comes_1 fun _ _ _ _ _ _ h hF => ⟨h.2.1, hF⟩
end Jvm.Pilot.@@N@@
namespace Jvm.Pilot.@@N@@
open Jvm Jvm.ClassFile Sem Op Lib Jvm.Free Jvm.Stand Jvm.Pilot.@@N@@.Jvm.D
/-! MADE BY PROGRAM (witnessworld.py) out of the Statement's table words and the real class files: 23 classes; the members and pool entries that the words name. The judged class is class 1, her method 3. -/
namespace start1
open Jvm.ClassFile
def u (s : String) : CpInfo := .utf8 (stringToUtf16 s)
/-- a pool by its gaps: so many unusable entries, then the entry; so many at the end -/
def gap : Nat → List CpInfo → List CpInfo
  | 0, r => r
  | n + 1, r => .unusable :: gap n r
def poolList (es : List (Nat × CpInfo)) (last : Nat) : List CpInfo := es.foldr (fun e r => gap e.1 (e.2 :: r)) (gap last [])
def pool (es : List (Nat × CpInfo)) (last : Nat) : Array CpInfo := ⟨poolList es last⟩
def fileOf (pool : Array CpInfo) (this : Nat) (attrs : Array Attribute := #[]) (ms : Array MethodInfo := #[]) (fl : Nat := 33) (sup : Nat := 0) (ifs : Array Nat := #[]) (fds : Array FieldInfo := #[]) : ClassFile where
  minorVersion := 0
  majorVersion := 65
  constantPool := pool
  accessFlags := fl
  thisClass := this
  superClass := sup
  interfaces := ifs
  fields := fds
  methods := ms
  attributes := attrs
def plain (name : String) (sup : Option ClassId) : Class where
  name := name
  kind := .ordinary
  loader := none
  accessFlags := 33
  super := sup
  interfaces := #[]
  cf := none
  fields := #[]
  methods := #[]
  instanceTypes := #[]
  staticTypes := #[]
  resolved := #[]
  callSites := []
  init := .initialized
  statics := none
  mirror := none

def pool0 : Array CpInfo := pool [(5, u "<init>"), (0, u "()V"), (1, .class_ 10), (1, u "java/lang/Object")] 113

def k0c0 : Code := { maxStack := 0, maxLocals := 1, code := object_method_1_code, exceptionTable := #[], attributes := #[] }
def k0m0 : Method := { name := "<init>", desc := "()V", sig := { parameters := [], returnType := none }, accessFlags := 1, code := some k0c0 }
/-- java/lang/Object -/
def k0 : Class := { plain "java/lang/Object" none with
  accessFlags := 33
  interfaces := #[]
  cf := some (fileOf pool0 8 #[] #[{ accessFlags := 1, nameIndex := 5, descriptorIndex := 6, attributes := #[] }] 33 0 #[] #[])
  fields := #[]
  methods := #[k0m0]
  instanceTypes := #[]
  staticTypes := #[]
  resolved := Array.replicate 124 none
  statics := none }

def pool1 : Array CpInfo := pool [(2, .class_ 4), (1, u "java/lang/Object"), (0, u "<init>"), (0, u "()V"), (0, .fieldref 8 9), (0, .class_ 10), (0, .nameAndType 11 12), (0, u "com/example/map_rewriter/maprewriter/core/SExpression$Kind"), (0, u "SYMBOL"), (0, u "Lcom/example/map_rewriter/maprewriter/core/SExpression$Kind;"), (0, .fieldref 8 14), (0, .nameAndType 15 12), (0, u "KEYWORD"), (0, .fieldref 8 17), (0, .nameAndType 18 12), (0, u "NUMERAL"), (0, .fieldref 8 20), (0, .nameAndType 21 12), (0, u "DECIMAL"), (0, .fieldref 8 23), (0, .nameAndType 24 12), (0, u "HEXADECIMAL"), (0, .fieldref 8 26), (0, .nameAndType 27 12), (0, u "BINARY"), (0, .fieldref 8 29), (0, .nameAndType 30 12), (0, u "STRING"), (0, .class_ 32), (0, u "java/lang/String"), (0, .methodref 31 34), (0, .nameAndType 5 35), (0, u "([C)V"), (0, .integer 2147483647), (0, .methodref 38 39), (0, .class_ 40), (0, .nameAndType 41 42), (0, u "com/example/map_rewriter/maprewriter/core/AtomIsSymbolPinLaw"), (0, u "make"), (0, u "(ICC)Ljava/lang/String;"), (0, .class_ 44), (0, u "com/example/map_rewriter/maprewriter/core/SExpression$Atom"), (0, .methodref 38 46), (0, .nameAndType 47 48), (0, u "kindOf"), (0, u "(I)Lcom/example/map_rewriter/maprewriter/core/SExpression$Kind;"), (0, .methodref 43 50), (0, .nameAndType 5 51), (0, u "(Lcom/example/map_rewriter/maprewriter/core/SExpression$Kind;Ljava/lang/String;ZII)V"), (0, .methodref 43 53), (0, .nameAndType 54 55), (0, u "isSymbol"), (0, u "(Ljava/lang/String;)Z"), (3, u "law"), (0, u "(IIIIII)Z")] 7

def k1m0 : Method := { name := "<init>", desc := "()V", sig := { parameters := [], returnType := none }, accessFlags := 2, code := none }
def k1c1 : Code := { maxStack := 2, maxLocals := 1, code := method_2_code, exceptionTable := #[], attributes := #[] }
def k1m1 : Method := { name := "kindOf", desc := "(I)Lcom/example/map_rewriter/maprewriter/core/SExpression$Kind;", sig := { parameters := [.int], returnType := some (.object "com/example/map_rewriter/maprewriter/core/SExpression$Kind") }, accessFlags := 10, code := some k1c1 }
def k1c2 : Code := { maxStack := 6, maxLocals := 3, code := method_3_code, exceptionTable := #[], attributes := #[] }
def k1m2 : Method := { name := "make", desc := "(ICC)Ljava/lang/String;", sig := { parameters := [.int, .char, .char], returnType := some (.object "java/lang/String") }, accessFlags := 10, code := some k1c2 }
def k1c3 : Code := { maxStack := 7, maxLocals := 19, code := code, exceptionTable := #[], attributes := #[] }
def k1m3 : Method := { name := "law", desc := "(IIIIII)Z", sig := { parameters := [.int, .int, .int, .int, .int, .int], returnType := some .boolean }, accessFlags := 9, code := some k1c3 }
/-- com/example/map_rewriter/maprewriter/core/AtomIsSymbolPinLaw -/
def k1 : Class := { plain "com/example/map_rewriter/maprewriter/core/AtomIsSymbolPinLaw" (some 0) with
  accessFlags := 49
  interfaces := #[]
  cf := some (fileOf pool1 38 #[] #[{ accessFlags := 2, nameIndex := 5, descriptorIndex := 6, attributes := #[] }, { accessFlags := 10, nameIndex := 47, descriptorIndex := 48, attributes := #[] }, { accessFlags := 10, nameIndex := 41, descriptorIndex := 42, attributes := #[] }, { accessFlags := 9, nameIndex := 59, descriptorIndex := 60, attributes := #[] }] 49 2 #[] #[])
  fields := #[]
  methods := #[k1m0, k1m1, k1m2, k1m3]
  instanceTypes := #[]
  staticTypes := #[]
  resolved := Array.replicate 68 none
  statics := none }

def pool2 : Array CpInfo := pool [(1, .class_ 2), (0, u "java/io/Serializable"), (0, .class_ 4), (0, u "java/lang/Object")] 2

/-- java/io/Serializable -/
def k2 : Class := { plain "java/io/Serializable" (some 0) with
  accessFlags := 1537
  interfaces := #[]
  cf := some (fileOf pool2 1 #[] #[] 1537 3 #[] #[])
  fields := #[]
  methods := #[]
  instanceTypes := #[]
  staticTypes := #[]
  resolved := Array.replicate 7 none
  statics := none }

def pool3 : Array CpInfo := pool [(1, .class_ 2), (0, u "java/lang/Comparable"), (0, .class_ 4), (0, u "java/lang/Object")] 7

/-- java/lang/Comparable -/
def k3 : Class := { plain "java/lang/Comparable" (some 0) with
  accessFlags := 1537
  interfaces := #[]
  cf := some (fileOf pool3 1 #[] #[] 1537 3 #[] #[])
  fields := #[]
  methods := #[]
  instanceTypes := #[]
  staticTypes := #[]
  resolved := Array.replicate 12 none
  statics := none }

def pool4 : Array CpInfo := pool [(2, .class_ 4), (1, u "java/lang/CharSequence"), (42, .class_ 48), (0, u "java/lang/CharSequence$1CodePointIterator"), (10, .class_ 60), (0, u "java/lang/CharSequence$1CharIterator"), (5, .class_ 67), (0, u "java/lang/Object")] 63

/-- java/lang/CharSequence -/
def k4 : Class := { plain "java/lang/CharSequence" (some 0) with
  accessFlags := 1537
  interfaces := #[]
  cf := some (fileOf pool4 2 #[.nestMembers #[47, 59]] #[] 1537 66 #[] #[])
  fields := #[]
  methods := #[]
  instanceTypes := #[]
  staticTypes := #[]
  resolved := Array.replicate 131 none
  statics := none }

def pool5 : Array CpInfo := pool [(1, .class_ 2), (0, u "java/lang/constant/Constable"), (0, .class_ 4), (0, u "java/lang/Object")] 6

/-- java/lang/constant/Constable -/
def k5 : Class := { plain "java/lang/constant/Constable" (some 0) with
  accessFlags := 1537
  interfaces := #[]
  cf := some (fileOf pool5 1 #[] #[] 1537 3 #[] #[])
  fields := #[]
  methods := #[]
  instanceTypes := #[]
  staticTypes := #[]
  resolved := Array.replicate 11 none
  statics := none }

def pool6 : Array CpInfo := pool [(1, .class_ 2), (0, u "java/lang/constant/ConstantDesc"), (0, .class_ 4), (0, u "java/lang/Object")] 32

/-- java/lang/constant/ConstantDesc -/
def k6 : Class := { plain "java/lang/constant/ConstantDesc" (some 0) with
  accessFlags := 1537
  interfaces := #[]
  cf := some (fileOf pool6 1 #[] #[] 1537 3 #[] #[])
  fields := #[]
  methods := #[]
  instanceTypes := #[]
  staticTypes := #[]
  resolved := Array.replicate 37 none
  statics := none }

def pool7 : Array CpInfo := pool [(1, .methodref 2 3), (0, .class_ 4), (0, .nameAndType 5 6), (0, u "java/lang/Object"), (0, u "<init>"), (0, u "()V"), (0, .string 8), (0, u ""), (0, .fieldref 10 11), (0, .class_ 12), (0, .nameAndType 13 14), (0, u "java/lang/String"), (0, u "value"), (0, u "[B"), (0, .fieldref 10 16), (0, .nameAndType 17 18), (0, u "coder"), (0, u "B"), (2, u "hash"), (0, u "I"), (2, u "hashIsZero"), (0, u "Z"), (0, .methodref 10 28), (0, .nameAndType 5 29), (0, u "([CIILjava/lang/Void;)V"), (8, .fieldref 10 39), (0, .nameAndType 40 26), (0, u "COMPACT_STRINGS"), (1, .class_ 44), (1, u "java/lang/StringUTF16"), (0, u "compress"), (1, .methodref 42 48), (0, .nameAndType 49 50), (0, u "coderFromArrayLen"), (0, u "([BI)B"), (56, .class_ 109), (1, u "java/lang/StringLatin1"), (67, .methodref 42 178), (0, .nameAndType 45 179), (0, u "([CII)[B"), (361, .methodref 107 542), (0, .nameAndType 543 544), (0, u "equals"), (0, u "([B[B)Z"), (28, u "(Ljava/lang/Object;)Z"), (1, .class_ 576), (0, u "java/lang/CharSequence"), (22, u "CASE_INSENSITIVE_ORDER"), (0, u "Ljava/util/Comparator;"), (409, u "([C)V"), (90, u "serialPersistentFields"), (0, u "[Ljava/io/ObjectStreamField;"), (0, .class_ 1104), (0, u "java/lang/String$CaseInsensitiveComparator"), (1, .class_ 1107), (0, u "java/io/Serializable"), (0, .class_ 1109), (0, u "java/lang/Comparable"), (0, .class_ 1111), (0, u "java/lang/constant/Constable"), (0, .class_ 1113), (0, u "java/lang/constant/ConstantDesc"), (2, u "serialVersionUID"), (0, u "J"), (3, u "REPL"), (0, u "C"), (2, u "LATIN1"), (1, u "UTF16")] 323

def k7m0 : Method := { name := "<init>", desc := "()V", sig := { parameters := [], returnType := none }, accessFlags := 1, code := none }
def k7c1 : Code := { maxStack := 5, maxLocals := 2, code := jdk_42_method_3_code, exceptionTable := #[], attributes := #[] }
def k7m1 : Method := { name := "<init>", desc := "([C)V", sig := { parameters := [(.array .char)], returnType := none }, accessFlags := 1, code := some k7c1 }
def k7c2 : Code := { maxStack := 2, maxLocals := 3, code := jdk_42_method_66_code, exceptionTable := #[], attributes := #[] }
def k7m2 : Method := { name := "equals", desc := "(Ljava/lang/Object;)Z", sig := { parameters := [(.object "java/lang/Object")], returnType := some .boolean }, accessFlags := 1, code := some k7c2 }
def k7c3 : Code := { maxStack := 4, maxLocals := 6, code := jdk_42_method_149_code, exceptionTable := #[], attributes := #[] }
def k7m3 : Method := { name := "<init>", desc := "([CIILjava/lang/Void;)V", sig := { parameters := [(.array .char), .int, .int, (.object "java/lang/Void")], returnType := none }, accessFlags := 2, code := some k7c3 }
/-- java/lang/String -/
def k7 : Class := { plain "java/lang/String" (some 0) with
  accessFlags := 49
  interfaces := #[2, 3, 4, 5, 6]
  cf := some (fileOf pool7 10 #[.nestMembers #[1103]] #[{ accessFlags := 1, nameIndex := 5, descriptorIndex := 6, attributes := #[] }, { accessFlags := 1, nameIndex := 5, descriptorIndex := 1010, attributes := #[] }, { accessFlags := 1, nameIndex := 543, descriptorIndex := 573, attributes := #[] }, { accessFlags := 2, nameIndex := 5, descriptorIndex := 29, attributes := #[] }] 49 2 #[1106, 1108, 575, 1110, 1112] #[{ accessFlags := 18, nameIndex := 13, descriptorIndex := 14, attributes := #[] }, { accessFlags := 18, nameIndex := 17, descriptorIndex := 18, attributes := #[] }, { accessFlags := 2, nameIndex := 21, descriptorIndex := 22, attributes := #[] }, { accessFlags := 2, nameIndex := 25, descriptorIndex := 26, attributes := #[] }, { accessFlags := 26, nameIndex := 1116, descriptorIndex := 1117, attributes := #[] }, { accessFlags := 24, nameIndex := 40, descriptorIndex := 26, attributes := #[] }, { accessFlags := 26, nameIndex := 1101, descriptorIndex := 1102, attributes := #[] }, { accessFlags := 26, nameIndex := 1121, descriptorIndex := 1122, attributes := #[] }, { accessFlags := 25, nameIndex := 599, descriptorIndex := 600, attributes := #[] }, { accessFlags := 24, nameIndex := 1125, descriptorIndex := 18, attributes := #[] }, { accessFlags := 24, nameIndex := 1127, descriptorIndex := 18, attributes := #[] }])
  fields := #[{ name := "value", type := (.array .byte), accessFlags := 18, slot := 0, constantValue := 0 }, { name := "coder", type := .byte, accessFlags := 18, slot := 1, constantValue := 0 }, { name := "hash", type := .int, accessFlags := 2, slot := 2, constantValue := 0 }, { name := "hashIsZero", type := .boolean, accessFlags := 2, slot := 3, constantValue := 0 }, { name := "serialVersionUID", type := .long, accessFlags := 26, slot := 0, constantValue := 0 }, { name := "COMPACT_STRINGS", type := .boolean, accessFlags := 24, slot := 1, constantValue := 0 }, { name := "serialPersistentFields", type := (.array (.object "java/io/ObjectStreamField")), accessFlags := 26, slot := 2, constantValue := 0 }, { name := "REPL", type := .char, accessFlags := 26, slot := 3, constantValue := 0 }, { name := "CASE_INSENSITIVE_ORDER", type := (.object "java/util/Comparator"), accessFlags := 25, slot := 4, constantValue := 0 }, { name := "LATIN1", type := .byte, accessFlags := 24, slot := 5, constantValue := 0 }, { name := "UTF16", type := .byte, accessFlags := 24, slot := 6, constantValue := 0 }]
  methods := #[k7m0, k7m1, k7m2, k7m3]
  instanceTypes := #[(.array .byte), .byte, .int, .boolean]
  staticTypes := #[.long, .boolean, (.array (.object "java/io/ObjectStreamField")), .char, (.object "java/util/Comparator"), .byte, .byte]
  resolved := Array.replicate 1451 none
  statics := some 0 }

def pool8 : Array CpInfo := pool [(1, .methodref 2 3), (0, .class_ 4), (0, .nameAndType 5 6), (0, u "java/lang/Object"), (0, u "<init>"), (0, u "()V"), (0, .fieldref 8 9), (0, .class_ 10), (0, .nameAndType 11 12), (0, u "com/example/map_rewriter/maprewriter/core/SExpression"), (0, u "line"), (0, u "I"), (0, .fieldref 8 14), (0, .nameAndType 15 12), (0, u "column"), (5, u "(II)V"), (8, .class_ 31), (0, u "com/example/map_rewriter/maprewriter/core/SExpression$Compound"), (0, .class_ 33), (0, u "com/example/map_rewriter/maprewriter/core/SExpression$Atom"), (0, .class_ 35), (0, u "com/example/map_rewriter/maprewriter/core/SExpression$Kind")] 5

def k8c0 : Code := { maxStack := 2, maxLocals := 3, code := prog_29_method_1_code, exceptionTable := #[], attributes := #[] }
def k8m0 : Method := { name := "<init>", desc := "(II)V", sig := { parameters := [.int, .int], returnType := none }, accessFlags := 2, code := some k8c0 }
/-- com/example/map_rewriter/maprewriter/core/SExpression -/
def k8 : Class := { plain "com/example/map_rewriter/maprewriter/core/SExpression" (some 0) with
  accessFlags := 1056
  interfaces := #[]
  cf := some (fileOf pool8 8 #[.nestMembers #[30, 32, 34]] #[{ accessFlags := 2, nameIndex := 5, descriptorIndex := 21, attributes := #[] }] 1056 2 #[] #[{ accessFlags := 18, nameIndex := 11, descriptorIndex := 12, attributes := #[] }, { accessFlags := 18, nameIndex := 15, descriptorIndex := 12, attributes := #[] }])
  fields := #[{ name := "line", type := .int, accessFlags := 18, slot := 0, constantValue := 0 }, { name := "column", type := .int, accessFlags := 18, slot := 1, constantValue := 0 }]
  methods := #[k8m0]
  instanceTypes := #[.int, .int]
  staticTypes := #[]
  resolved := Array.replicate 41 none
  statics := none }

def pool9 : Array CpInfo := pool [(1, .methodref 2 3), (0, .class_ 4), (0, .nameAndType 5 6), (0, u "com/example/map_rewriter/maprewriter/core/SExpression"), (0, u "<init>"), (0, u "(II)V"), (0, .fieldref 8 9), (0, .class_ 10), (0, .nameAndType 11 12), (0, u "com/example/map_rewriter/maprewriter/core/SExpression$Atom"), (0, u "kind"), (0, u "Lcom/example/map_rewriter/maprewriter/core/SExpression$Kind;"), (0, .fieldref 8 14), (0, .nameAndType 15 16), (0, u "text"), (0, u "Ljava/lang/String;"), (0, .fieldref 8 18), (0, .nameAndType 19 20), (0, u "quoted"), (0, u "Z"), (0, .fieldref 22 23), (0, .class_ 24), (0, .nameAndType 25 12), (0, u "com/example/map_rewriter/maprewriter/core/SExpression$Kind"), (0, u "SYMBOL"), (0, .methodref 27 28), (0, .class_ 29), (0, .nameAndType 30 31), (0, u "java/lang/String"), (0, u "equals"), (0, u "(Ljava/lang/Object;)Z"), (2, u "isSymbol"), (0, u "(Ljava/lang/String;)Z"), (40, u "(Lcom/example/map_rewriter/maprewriter/core/SExpression$Kind;Ljava/lang/String;ZII)V")] 28

def k9c0 : Code := { maxStack := 3, maxLocals := 6, code := prog_30_method_1_code, exceptionTable := #[], attributes := #[] }
def k9m0 : Method := { name := "<init>", desc := "(Lcom/example/map_rewriter/maprewriter/core/SExpression$Kind;Ljava/lang/String;ZII)V", sig := { parameters := [(.object "com/example/map_rewriter/maprewriter/core/SExpression$Kind"), (.object "java/lang/String"), .boolean, .int, .int], returnType := none }, accessFlags := 0, code := some k9c0 }
def k9c1 : Code := { maxStack := 2, maxLocals := 2, code := prog_30_method_4_code, exceptionTable := #[], attributes := #[] }
def k9m1 : Method := { name := "isSymbol", desc := "(Ljava/lang/String;)Z", sig := { parameters := [(.object "java/lang/String")], returnType := some .boolean }, accessFlags := 0, code := some k9c1 }
/-- com/example/map_rewriter/maprewriter/core/SExpression$Atom -/
def k9 : Class := { plain "com/example/map_rewriter/maprewriter/core/SExpression$Atom" (some 8) with
  accessFlags := 48
  interfaces := #[]
  cf := some (fileOf pool9 8 #[.nestHost 2] #[{ accessFlags := 0, nameIndex := 5, descriptorIndex := 76, attributes := #[] }, { accessFlags := 0, nameIndex := 34, descriptorIndex := 35, attributes := #[] }] 48 2 #[] #[{ accessFlags := 18, nameIndex := 11, descriptorIndex := 12, attributes := #[] }, { accessFlags := 18, nameIndex := 15, descriptorIndex := 16, attributes := #[] }, { accessFlags := 18, nameIndex := 19, descriptorIndex := 20, attributes := #[] }])
  fields := #[{ name := "kind", type := (.object "com/example/map_rewriter/maprewriter/core/SExpression$Kind"), accessFlags := 18, slot := 2, constantValue := 0 }, { name := "text", type := (.object "java/lang/String"), accessFlags := 18, slot := 3, constantValue := 0 }, { name := "quoted", type := .boolean, accessFlags := 18, slot := 4, constantValue := 0 }]
  methods := #[k9m0, k9m1]
  instanceTypes := #[.int, .int, (.object "com/example/map_rewriter/maprewriter/core/SExpression$Kind"), (.object "java/lang/String"), .boolean]
  staticTypes := #[]
  resolved := Array.replicate 105 none
  statics := none }

def pool10 : Array CpInfo := pool [(2, .class_ 4), (1, u "java/lang/Enum"), (0, u "name"), (0, u "Ljava/lang/String;"), (2, u "ordinal"), (0, u "I"), (1, .class_ 14), (1, u "java/lang/Object"), (4, u "hash"), (86, .class_ 108), (1, u "java/lang/Enum$EnumDesc"), (2, .class_ 112), (0, u "java/lang/constant/Constable"), (0, .class_ 114), (0, u "java/lang/Comparable"), (0, .class_ 116), (0, u "java/io/Serializable")] 87

/-- java/lang/Enum -/
def k10 : Class := { plain "java/lang/Enum" (some 0) with
  accessFlags := 1057
  interfaces := #[5, 3, 2]
  cf := some (fileOf pool10 2 #[.nestMembers #[106]] #[] 1057 12 #[111, 113, 115] #[{ accessFlags := 18, nameIndex := 5, descriptorIndex := 6, attributes := #[] }, { accessFlags := 18, nameIndex := 9, descriptorIndex := 10, attributes := #[] }, { accessFlags := 2, nameIndex := 19, descriptorIndex := 10, attributes := #[] }])
  fields := #[{ name := "name", type := (.object "java/lang/String"), accessFlags := 18, slot := 0, constantValue := 0 }, { name := "ordinal", type := .int, accessFlags := 18, slot := 1, constantValue := 0 }, { name := "hash", type := .int, accessFlags := 2, slot := 2, constantValue := 0 }]
  methods := #[]
  instanceTypes := #[(.object "java/lang/String"), .int, .int]
  staticTypes := #[]
  resolved := Array.replicate 204 none
  statics := none }

def pool11 : Array CpInfo := pool [(1, .class_ 2), (0, u "com/example/map_rewriter/maprewriter/core/SExpression$Kind"), (2, u "SYMBOL"), (0, u "Lcom/example/map_rewriter/maprewriter/core/SExpression$Kind;"), (2, u "KEYWORD"), (2, u "NUMERAL"), (2, u "DECIMAL"), (2, u "HEXADECIMAL"), (2, u "BINARY"), (2, u "STRING"), (2, u "$VALUES"), (0, u "[Lcom/example/map_rewriter/maprewriter/core/SExpression$Kind;"), (6, .class_ 37), (1, u "java/lang/Enum"), (30, .class_ 69), (0, u "com/example/map_rewriter/maprewriter/core/SExpression")] 2

/-- com/example/map_rewriter/maprewriter/core/SExpression$Kind -/
def k11 : Class := { plain "com/example/map_rewriter/maprewriter/core/SExpression$Kind" (some 10) with
  accessFlags := 16432
  interfaces := #[]
  cf := some (fileOf pool11 1 #[.nestHost 68] #[] 16432 35 #[] #[{ accessFlags := 16409, nameIndex := 5, descriptorIndex := 6, attributes := #[] }, { accessFlags := 16409, nameIndex := 9, descriptorIndex := 6, attributes := #[] }, { accessFlags := 16409, nameIndex := 12, descriptorIndex := 6, attributes := #[] }, { accessFlags := 16409, nameIndex := 15, descriptorIndex := 6, attributes := #[] }, { accessFlags := 16409, nameIndex := 18, descriptorIndex := 6, attributes := #[] }, { accessFlags := 16409, nameIndex := 21, descriptorIndex := 6, attributes := #[] }, { accessFlags := 16409, nameIndex := 24, descriptorIndex := 6, attributes := #[] }, { accessFlags := 4122, nameIndex := 27, descriptorIndex := 28, attributes := #[] }])
  fields := #[{ name := "SYMBOL", type := (.object "com/example/map_rewriter/maprewriter/core/SExpression$Kind"), accessFlags := 16409, slot := 0, constantValue := 0 }, { name := "KEYWORD", type := (.object "com/example/map_rewriter/maprewriter/core/SExpression$Kind"), accessFlags := 16409, slot := 1, constantValue := 0 }, { name := "NUMERAL", type := (.object "com/example/map_rewriter/maprewriter/core/SExpression$Kind"), accessFlags := 16409, slot := 2, constantValue := 0 }, { name := "DECIMAL", type := (.object "com/example/map_rewriter/maprewriter/core/SExpression$Kind"), accessFlags := 16409, slot := 3, constantValue := 0 }, { name := "HEXADECIMAL", type := (.object "com/example/map_rewriter/maprewriter/core/SExpression$Kind"), accessFlags := 16409, slot := 4, constantValue := 0 }, { name := "BINARY", type := (.object "com/example/map_rewriter/maprewriter/core/SExpression$Kind"), accessFlags := 16409, slot := 5, constantValue := 0 }, { name := "STRING", type := (.object "com/example/map_rewriter/maprewriter/core/SExpression$Kind"), accessFlags := 16409, slot := 6, constantValue := 0 }, { name := "$VALUES", type := (.array (.object "com/example/map_rewriter/maprewriter/core/SExpression$Kind")), accessFlags := 4122, slot := 7, constantValue := 0 }]
  methods := #[]
  instanceTypes := #[(.object "java/lang/String"), .int, .int]
  staticTypes := #[(.object "com/example/map_rewriter/maprewriter/core/SExpression$Kind"), (.object "com/example/map_rewriter/maprewriter/core/SExpression$Kind"), (.object "com/example/map_rewriter/maprewriter/core/SExpression$Kind"), (.object "com/example/map_rewriter/maprewriter/core/SExpression$Kind"), (.object "com/example/map_rewriter/maprewriter/core/SExpression$Kind"), (.object "com/example/map_rewriter/maprewriter/core/SExpression$Kind"), (.object "com/example/map_rewriter/maprewriter/core/SExpression$Kind"), (.array (.object "com/example/map_rewriter/maprewriter/core/SExpression$Kind"))]
  resolved := Array.replicate 72 none
  statics := some 1 }

def pool12 : Array CpInfo := pool [(4, .class_ 6), (1, u "java/lang/Object"), (0, u "<init>"), (0, u "()V"), (5, .class_ 16), (1, u "java/lang/StringLatin1"), (104, u "$assertionsDisabled"), (0, u "Z"), (98, .class_ 223), (1, u "java/lang/StringLatin1$LinesSpliterator"), (57, u "equals"), (0, u "([B[B)Z"), (107, .class_ 391), (0, u "java/lang/StringLatin1$CharsSpliterator")] 3

def k12m0 : Method := { name := "<init>", desc := "()V", sig := { parameters := [], returnType := none }, accessFlags := 0, code := none }
def k12c1 : Code := { maxStack := 3, maxLocals := 3, code := jdk_43_method_13_code, exceptionTable := #[], attributes := #[] }
def k12m1 : Method := { name := "equals", desc := "([B[B)Z", sig := { parameters := [(.array .byte), (.array .byte)], returnType := some .boolean }, accessFlags := 9, code := some k12c1 }
/-- java/lang/StringLatin1 -/
def k12 : Class := { plain "java/lang/StringLatin1" (some 0) with
  accessFlags := 48
  interfaces := #[]
  cf := some (fileOf pool12 14 #[.nestMembers #[390, 221]] #[{ accessFlags := 0, nameIndex := 7, descriptorIndex := 8, attributes := #[] }, { accessFlags := 9, nameIndex := 281, descriptorIndex := 282, attributes := #[] }] 48 4 #[] #[{ accessFlags := 4120, nameIndex := 121, descriptorIndex := 122, attributes := #[] }])
  fields := #[{ name := "$assertionsDisabled", type := .boolean, accessFlags := 4120, slot := 0, constantValue := 0 }]
  methods := #[k12m0, k12m1]
  instanceTypes := #[]
  staticTypes := #[.boolean]
  resolved := Array.replicate 395 none
  statics := none }

def pool13 : Array CpInfo := pool [(6, .class_ 8), (1, u "java/lang/Object"), (0, u "<init>"), (0, u "()V"), (1, .class_ 14), (1, u "java/lang/StringUTF16"), (31, u "$assertionsDisabled"), (0, u "Z"), (13, u "HI_BYTE_SHIFT"), (0, u "I"), (2, u "LO_BYTE_SHIFT"), (49, .methodref 12 116), (0, .nameAndType 117 118), (0, u "compress"), (0, u "([CI[BII)I"), (3, u "([CII)[B"), (138, u "coderFromArrayLen"), (0, u "([BI)B"), (106, .class_ 371), (1, u "java/lang/StringUTF16$LinesSpliterator"), (58, u "MAX_LENGTH"), (196, .class_ 628), (0, u "java/lang/StringUTF16$CodePointsSpliterator"), (0, .class_ 630), (0, u "java/lang/StringUTF16$CharsSpliterator")] 4

def k13m0 : Method := { name := "<init>", desc := "()V", sig := { parameters := [], returnType := none }, accessFlags := 0, code := none }
def k13c1 : Code := { maxStack := 2, maxLocals := 2, code := jdk_52_method_15_code, exceptionTable := #[], attributes := #[] }
def k13m1 : Method := { name := "coderFromArrayLen", desc := "([BI)B", sig := { parameters := [(.array .byte), .int], returnType := some .byte }, accessFlags := 8, code := some k13c1 }
def k13c2 : Code := { maxStack := 5, maxLocals := 6, code := jdk_52_method_16_code, exceptionTable := #[], attributes := #[] }
def k13m2 : Method := { name := "compress", desc := "([CII)[B", sig := { parameters := [(.array .char), .int, .int], returnType := some (.array .byte) }, accessFlags := 9, code := some k13c2 }
def k13c3 : Code := { maxStack := 3, maxLocals := 7, code := jdk_52_method_21_code, exceptionTable := #[], attributes := #[] }
def k13m3 : Method := { name := "compress", desc := "([CI[BII)I", sig := { parameters := [(.array .char), .int, (.array .byte), .int, .int], returnType := some .int }, accessFlags := 9, code := some k13c3 }
/-- java/lang/StringUTF16 -/
def k13 : Class := { plain "java/lang/StringUTF16" (some 0) with
  accessFlags := 48
  interfaces := #[]
  cf := some (fileOf pool13 12 #[.nestMembers #[627, 629, 369]] #[{ accessFlags := 0, nameIndex := 9, descriptorIndex := 10, attributes := #[] }, { accessFlags := 8, nameIndex := 261, descriptorIndex := 262, attributes := #[] }, { accessFlags := 9, nameIndex := 117, descriptorIndex := 122, attributes := #[] }, { accessFlags := 9, nameIndex := 117, descriptorIndex := 118, attributes := #[] }] 48 6 #[] #[{ accessFlags := 26, nameIndex := 61, descriptorIndex := 62, attributes := #[] }, { accessFlags := 26, nameIndex := 65, descriptorIndex := 62, attributes := #[] }, { accessFlags := 24, nameIndex := 430, descriptorIndex := 62, attributes := #[] }, { accessFlags := 4120, nameIndex := 46, descriptorIndex := 47, attributes := #[] }])
  fields := #[{ name := "HI_BYTE_SHIFT", type := .int, accessFlags := 26, slot := 0, constantValue := 0 }, { name := "LO_BYTE_SHIFT", type := .int, accessFlags := 26, slot := 1, constantValue := 0 }, { name := "MAX_LENGTH", type := .int, accessFlags := 24, slot := 2, constantValue := 0 }, { name := "$assertionsDisabled", type := .boolean, accessFlags := 4120, slot := 3, constantValue := 0 }]
  methods := #[k13m0, k13m1, k13m2, k13m3]
  instanceTypes := #[]
  staticTypes := #[.int, .int, .int, .boolean]
  resolved := Array.replicate 635 none
  statics := none }

def pool14 : Array CpInfo := pool [(2, .class_ 4), (1, u "java/lang/Object"), (0, u "<init>"), (0, u "()V"), (17, .class_ 26), (1, u "jdk/internal/util/Preconditions"), (28, .class_ 56), (0, u "jdk/internal/util/Preconditions$4"), (57, .class_ 115), (0, u "jdk/internal/util/Preconditions$1"), (7, u "SIOOBE_FORMATTER"), (0, u "Ljava/util/function/BiFunction;"), (0, .class_ 126), (0, u "jdk/internal/util/Preconditions$2"), (3, u "AIOOBE_FORMATTER"), (0, .class_ 132), (0, u "jdk/internal/util/Preconditions$3"), (3, u "IOOBE_FORMATTER")] 57

def k14m0 : Method := { name := "<init>", desc := "()V", sig := { parameters := [], returnType := none }, accessFlags := 1, code := none }
/-- jdk/internal/util/Preconditions -/
def k14 : Class := { plain "jdk/internal/util/Preconditions" (some 0) with
  accessFlags := 33
  interfaces := #[]
  cf := some (fileOf pool14 24 #[.nestMembers #[55, 131, 125, 114]] #[{ accessFlags := 1, nameIndex := 5, descriptorIndex := 6, attributes := #[] }] 33 2 #[] #[{ accessFlags := 25, nameIndex := 123, descriptorIndex := 124, attributes := #[] }, { accessFlags := 25, nameIndex := 130, descriptorIndex := 124, attributes := #[] }, { accessFlags := 25, nameIndex := 136, descriptorIndex := 124, attributes := #[] }])
  fields := #[{ name := "SIOOBE_FORMATTER", type := (.object "java/util/function/BiFunction"), accessFlags := 25, slot := 0, constantValue := 0 }, { name := "AIOOBE_FORMATTER", type := (.object "java/util/function/BiFunction"), accessFlags := 25, slot := 1, constantValue := 0 }, { name := "IOOBE_FORMATTER", type := (.object "java/util/function/BiFunction"), accessFlags := 25, slot := 2, constantValue := 0 }]
  methods := #[k14m0]
  instanceTypes := #[]
  staticTypes := #[(.object "java/util/function/BiFunction"), (.object "java/util/function/BiFunction"), (.object "java/util/function/BiFunction")]
  resolved := Array.replicate 194 none
  statics := some 2 }

def pool15 : Array CpInfo := pool [(9, u "<init>"), (6, .class_ 18), (1, u "java/lang/Object"), (0, u "()V"), (1, .class_ 23), (1, u "jdk/internal/util/ArraysSupport"), (0, u "LOG2_ARRAY_LONG_INDEX_SCALE"), (0, u "I"), (2, u "U"), (0, u "Ljdk/internal/misc/Unsafe;"), (8, u "BIG_ENDIAN"), (0, u "Z"), (8, u "LOG2_BYTE_BIT_SIZE"), (4, u "LOG2_ARRAY_INT_INDEX_SCALE"), (54, u "JLA"), (0, u "Ljdk/internal/access/JavaLangAccess;"), (11, u "LOG2_ARRAY_BOOLEAN_INDEX_SCALE"), (9, u "LOG2_ARRAY_BYTE_INDEX_SCALE"), (5, u "LOG2_ARRAY_CHAR_INDEX_SCALE"), (5, u "LOG2_ARRAY_SHORT_INDEX_SCALE"), (18, u "LOG2_ARRAY_FLOAT_INDEX_SCALE"), (24, u "LOG2_ARRAY_DOUBLE_INDEX_SCALE"), (89, u "T_BOOLEAN"), (2, u "T_CHAR"), (1, u "T_FLOAT"), (1, u "T_DOUBLE"), (1, u "T_BYTE"), (1, u "T_SHORT"), (1, u "T_INT"), (1, u "T_LONG"), (1, u "SOFT_MAX_ARRAY_LENGTH")] 83

def k15m0 : Method := { name := "<init>", desc := "()V", sig := { parameters := [], returnType := none }, accessFlags := 2, code := none }
/-- jdk/internal/util/ArraysSupport -/
def k15 : Class := { plain "jdk/internal/util/ArraysSupport" (some 0) with
  accessFlags := 33
  interfaces := #[]
  cf := some (fileOf pool15 21 #[] #[{ accessFlags := 2, nameIndex := 9, descriptorIndex := 19, attributes := #[] }] 33 16 #[] #[{ accessFlags := 24, nameIndex := 28, descriptorIndex := 29, attributes := #[] }, { accessFlags := 26, nameIndex := 38, descriptorIndex := 39, attributes := #[] }, { accessFlags := 25, nameIndex := 121, descriptorIndex := 25, attributes := #[] }, { accessFlags := 25, nameIndex := 131, descriptorIndex := 25, attributes := #[] }, { accessFlags := 25, nameIndex := 137, descriptorIndex := 25, attributes := #[] }, { accessFlags := 25, nameIndex := 143, descriptorIndex := 25, attributes := #[] }, { accessFlags := 25, nameIndex := 53, descriptorIndex := 25, attributes := #[] }, { accessFlags := 25, nameIndex := 24, descriptorIndex := 25, attributes := #[] }, { accessFlags := 25, nameIndex := 162, descriptorIndex := 25, attributes := #[] }, { accessFlags := 25, nameIndex := 187, descriptorIndex := 25, attributes := #[] }, { accessFlags := 26, nameIndex := 48, descriptorIndex := 25, attributes := #[] }, { accessFlags := 25, nameIndex := 277, descriptorIndex := 25, attributes := #[] }, { accessFlags := 25, nameIndex := 280, descriptorIndex := 25, attributes := #[] }, { accessFlags := 25, nameIndex := 282, descriptorIndex := 25, attributes := #[] }, { accessFlags := 25, nameIndex := 284, descriptorIndex := 25, attributes := #[] }, { accessFlags := 25, nameIndex := 286, descriptorIndex := 25, attributes := #[] }, { accessFlags := 25, nameIndex := 288, descriptorIndex := 25, attributes := #[] }, { accessFlags := 25, nameIndex := 290, descriptorIndex := 25, attributes := #[] }, { accessFlags := 25, nameIndex := 292, descriptorIndex := 25, attributes := #[] }, { accessFlags := 26, nameIndex := 108, descriptorIndex := 109, attributes := #[] }, { accessFlags := 25, nameIndex := 294, descriptorIndex := 25, attributes := #[] }])
  fields := #[{ name := "U", type := (.object "jdk/internal/misc/Unsafe"), accessFlags := 24, slot := 0, constantValue := 0 }, { name := "BIG_ENDIAN", type := .boolean, accessFlags := 26, slot := 1, constantValue := 0 }, { name := "LOG2_ARRAY_BOOLEAN_INDEX_SCALE", type := .int, accessFlags := 25, slot := 2, constantValue := 0 }, { name := "LOG2_ARRAY_BYTE_INDEX_SCALE", type := .int, accessFlags := 25, slot := 3, constantValue := 0 }, { name := "LOG2_ARRAY_CHAR_INDEX_SCALE", type := .int, accessFlags := 25, slot := 4, constantValue := 0 }, { name := "LOG2_ARRAY_SHORT_INDEX_SCALE", type := .int, accessFlags := 25, slot := 5, constantValue := 0 }, { name := "LOG2_ARRAY_INT_INDEX_SCALE", type := .int, accessFlags := 25, slot := 6, constantValue := 0 }, { name := "LOG2_ARRAY_LONG_INDEX_SCALE", type := .int, accessFlags := 25, slot := 7, constantValue := 0 }, { name := "LOG2_ARRAY_FLOAT_INDEX_SCALE", type := .int, accessFlags := 25, slot := 8, constantValue := 0 }, { name := "LOG2_ARRAY_DOUBLE_INDEX_SCALE", type := .int, accessFlags := 25, slot := 9, constantValue := 0 }, { name := "LOG2_BYTE_BIT_SIZE", type := .int, accessFlags := 26, slot := 10, constantValue := 0 }, { name := "T_BOOLEAN", type := .int, accessFlags := 25, slot := 11, constantValue := 0 }, { name := "T_CHAR", type := .int, accessFlags := 25, slot := 12, constantValue := 0 }, { name := "T_FLOAT", type := .int, accessFlags := 25, slot := 13, constantValue := 0 }, { name := "T_DOUBLE", type := .int, accessFlags := 25, slot := 14, constantValue := 0 }, { name := "T_BYTE", type := .int, accessFlags := 25, slot := 15, constantValue := 0 }, { name := "T_SHORT", type := .int, accessFlags := 25, slot := 16, constantValue := 0 }, { name := "T_INT", type := .int, accessFlags := 25, slot := 17, constantValue := 0 }, { name := "T_LONG", type := .int, accessFlags := 25, slot := 18, constantValue := 0 }, { name := "JLA", type := (.object "jdk/internal/access/JavaLangAccess"), accessFlags := 26, slot := 19, constantValue := 0 }, { name := "SOFT_MAX_ARRAY_LENGTH", type := .int, accessFlags := 25, slot := 20, constantValue := 0 }]
  methods := #[k15m0]
  instanceTypes := #[]
  staticTypes := #[(.object "jdk/internal/misc/Unsafe"), .boolean, .int, .int, .int, .int, .int, .int, .int, .int, .int, .int, .int, .int, .int, .int, .int, .int, .int, (.object "jdk/internal/access/JavaLangAccess"), .int]
  resolved := Array.replicate 378 none
  statics := none }

def pool16 : Array CpInfo := pool [(1, u "java/lang/Cloneable"), (0, .class_ 1), (0, u "java/lang/Object"), (0, .class_ 3)] 3

/-- java/lang/Cloneable -/
def k16 : Class := { plain "java/lang/Cloneable" (some 0) with
  accessFlags := 1537
  interfaces := #[]
  cf := some (fileOf pool16 2 #[] #[] 1537 4 #[] #[])
  fields := #[]
  methods := #[]
  instanceTypes := #[]
  staticTypes := #[]
  resolved := Array.replicate 8 none
  statics := none }

/-- the primitive byte -/
def k17 : Class := { plain "byte" none with kind := .primitive 'B', accessFlags := 0x411 }
/-- [B -/
def k18 : Class := { plain "[B" (some 0) with kind := .array 17 .byte, interfaces := #[16, 2], accessFlags := 1041 }

/-- the primitive char -/
def k19 : Class := { plain "char" none with kind := .primitive 'C', accessFlags := 0x411 }
/-- [C -/
def k20 : Class := { plain "[C" (some 0) with kind := .array 19 .char, interfaces := #[16, 2], accessFlags := 1041 }

/-- the primitive int -/
def k21 : Class := { plain "int" none with kind := .primitive 'I', accessFlags := 0x411 }
/-- [I -/
def k22 : Class := { plain "[I" (some 0) with kind := .array 21 .int, interfaces := #[16, 2], accessFlags := 1041 }

def heap : Heap := #[{ cls := 7, slots := #[.long 0, .int 1, .null, .int 0, .null, .int 0, .int 0], vm := .statics 7 },
  { cls := 11, slots := #[.ref 3, .ref 4, .ref 5, .ref 6, .ref 7, .ref 8, .ref 9, .null], vm := .statics 11 },
  { cls := 14, slots := #[.null, .null, .null], vm := .statics 14 },
  { cls := 11, slots := #[.null, .int 0, .int 0], vm := .none },
  { cls := 11, slots := #[.null, .int 1, .int 0], vm := .none },
  { cls := 11, slots := #[.null, .int 2, .int 0], vm := .none },
  { cls := 11, slots := #[.null, .int 3, .int 0], vm := .none },
  { cls := 11, slots := #[.null, .int 4, .int 0], vm := .none },
  { cls := 11, slots := #[.null, .int 5, .int 0], vm := .none },
  { cls := 11, slots := #[.null, .int 6, .int 0], vm := .none }]
def classes : Array Class := #[k0, k1, k2, k3, k4, k5, k6, k7, k8, k9, k10, k11, k12, k13, k14, k15, k16, k17, k18, k19, k20, k21, k22]
def interned : List (Array UInt16 × Addr) := []
def slotsUsed : Nat := 39
def theMethod : MethodId := ⟨1, 3⟩
def args0 : Array Value := #[.int 65, .int 66, .int 1, .int 2, .int 3, .int 4]
def aboutOver (below : List Frame) : State where
  vm := { classes := classes, interned := interned.toArray }
  heap := heap
  slotsUsed := slotsUsed
  threads := #[{ frames := .invoking theMethod args0 :: below }]
def below0 : List Frame := [.native { method := ⟨0, 0⟩, args := #[] }]
def about1 : State := aboutOver below0
def p0 : Program := .bare "" "" ""
def e0 : Env := launch0.env 0 0 0
theorem w_frames : about1.frames = Frame.invoking theMethod args0 :: below0 := rfl
set_option maxRecDepth 65536 in
theorem w_args : argsFit about1.vm theMethod args0 = true := by decide +kernel
set_option maxRecDepth 65536 in
theorem w_heap : heapFits about1 = true := by decide +kernel
set_option maxRecDepth 65536 in
theorem w_runnable : about1.curStatus? = some .runnable := by decide +kernel
set_option maxRecDepth 65536 in
theorem w_alone : about1.alone = true := by decide +kernel
set_option maxRecDepth 65536 in
theorem w_named : about1.methodNamed? x = some theMethod := by decide +kernel
set_option maxRecDepth 65536 in
theorem w_hears : about1.hears theMethod below0 = true := by decide +kernel
set_option maxRecDepth 65536 in
theorem w_ripe : about1.ripe theMethod args0 below0 = true := by decide +kernel
theorem w_running : about1.status = .running := rfl
set_option maxRecDepth 65536 in
theorem w_room : about1.hasRoom e0.platform room_1 = true :=
  launch0.hasRoom_least _ room_1 (by decide +kernel) (by decide +kernel) (by decide +kernel) (by decide +kernel) (by decide +kernel) (by decide +kernel)
theorem allAtoms_all (ts : List Jvm.Cond) (a : Array Jvm.Value) (st : Jvm.State) : (allAtoms ts).before a st = ts.all (fun c => c.before a st) := by
  induction ts with
  | nil => rfl
  | cons c t ih =>
    show (Jvm.Cond.and c (allAtoms t)).before a st = _
    rw [Jvm.Cond.before_and, ih, List.all_cons]
def words1 : List Jvm.Cond := Jvm.Cond.code x code maxLocals ret :: tables_1
/-- a 'code' word, met by the world's own term for the bytes: nothing is compared byte by byte -/
theorem code_word {y : MethodName} {bytes : ByteArray} {mx : Nat} {rt : Option FieldType} {a : Array Value} {s : State} {m : MethodId} {meth : Method} {c : Code} (h1 : s.methodNamed? y = some m) (h2 : s.vm.method? m = some meth) (h3 : meth.code = some c) (h4 : c.code = bytes)
    (h5 : (c.maxLocals == mx && c.exceptionTable.isEmpty && decide (c.maxStack ≤ mostOperands) && decide (meth.sig.returnType = rt) && !meth.locks && decide (parseMethodDescriptor y.desc = some meth.sig)) = true) : (Jvm.Cond.code y bytes mx rt).before a s = true := by
  simp only [Bool.and_eq_true, beq_iff_eq, Bool.not_eq_true', decide_eq_true_eq] at h5
  obtain ⟨⟨⟨⟨⟨g1, g2⟩, g3⟩, g4⟩, g5⟩, g6⟩ := h5
  simp [Cond.before, Cond.holds, Cond.value, h1, h2, h3, h4, g1, g2, g3, g4, g5, g6]
def isCode : Jvm.Cond → Bool
  | .code _ _ _ _ => true
  | _ => false
theorem all_split {L : List Jvm.Cond} {P : Jvm.Cond → Bool} (h1 : L.all (fun c => isCode c || P c) = true) (h2 : ∀ c ∈ L.filter isCode, P c = true) : L.all P = true := by
  refine List.all_eq_true.mpr fun c hc => ?_
  have h := List.all_eq_true.mp h1 c hc
  rcases Bool.eq_false_or_eq_true (isCode c) with hi | hi
  · exact h2 c (List.mem_filter.mpr ⟨hc, hi⟩)
  · simpa [hi] using h
set_option maxRecDepth 65536 in
theorem w_c0 : (Jvm.Cond.code x code maxLocals ret).before args0 about1 = true := code_word (m := ⟨1, 3⟩) (meth := k1m3) (c := k1c3) (by decide +kernel) rfl rfl rfl (by decide +kernel)
set_option maxRecDepth 65536 in
theorem w_c1 : (Jvm.Cond.code ({ cls := "com/example/map_rewriter/maprewriter/core/AtomIsSymbolPinLaw", name := "make", desc := "(ICC)Ljava/lang/String;" } : Jvm.MethodName) method_3_code (3 : Nat) (Option.some (Jvm.ClassFile.FieldType.object "java/lang/String"))).before args0 about1 = true := code_word (m := ⟨1, 2⟩) (meth := k1m2) (c := k1c2) (by decide +kernel) rfl rfl rfl (by decide +kernel)
set_option maxRecDepth 65536 in
theorem w_c2 : (Jvm.Cond.code ({ cls := "java/lang/String", name := "<init>", desc := "([C)V" } : Jvm.MethodName) jdk_42_method_3_code (2 : Nat) (Option.none : Option Jvm.ClassFile.FieldType)).before args0 about1 = true := code_word (m := ⟨7, 1⟩) (meth := k7m1) (c := k7c1) (by decide +kernel) rfl rfl rfl (by decide +kernel)
set_option maxRecDepth 65536 in
theorem w_c3 : (Jvm.Cond.code ({ cls := "java/lang/String", name := "<init>", desc := "([CIILjava/lang/Void;)V" } : Jvm.MethodName) jdk_42_method_149_code (6 : Nat) (Option.none : Option Jvm.ClassFile.FieldType)).before args0 about1 = true := code_word (m := ⟨7, 3⟩) (meth := k7m3) (c := k7c3) (by decide +kernel) rfl rfl rfl (by decide +kernel)
set_option maxRecDepth 65536 in
theorem w_c4 : (Jvm.Cond.code ({ cls := "java/lang/Object", name := "<init>", desc := "()V" } : Jvm.MethodName) object_method_1_code (1 : Nat) (Option.none : Option Jvm.ClassFile.FieldType)).before args0 about1 = true := code_word (m := ⟨0, 0⟩) (meth := k0m0) (c := k0c0) (by decide +kernel) rfl rfl rfl (by decide +kernel)
set_option maxRecDepth 65536 in
theorem w_c5 : (Jvm.Cond.code ({ cls := "com/example/map_rewriter/maprewriter/core/AtomIsSymbolPinLaw", name := "kindOf", desc := "(I)Lcom/example/map_rewriter/maprewriter/core/SExpression$Kind;" } : Jvm.MethodName) method_2_code (1 : Nat) (Option.some (Jvm.ClassFile.FieldType.object "com/example/map_rewriter/maprewriter/core/SExpression$Kind"))).before args0 about1 = true := code_word (m := ⟨1, 1⟩) (meth := k1m1) (c := k1c1) (by decide +kernel) rfl rfl rfl (by decide +kernel)
set_option maxRecDepth 65536 in
theorem w_c6 : (Jvm.Cond.code ({ cls := "com/example/map_rewriter/maprewriter/core/SExpression$Atom", name := "<init>", desc := "(Lcom/example/map_rewriter/maprewriter/core/SExpression$Kind;Ljava/lang/String;ZII)V" } : Jvm.MethodName) prog_30_method_1_code (6 : Nat) (Option.none : Option Jvm.ClassFile.FieldType)).before args0 about1 = true := code_word (m := ⟨9, 0⟩) (meth := k9m0) (c := k9c0) (by decide +kernel) rfl rfl rfl (by decide +kernel)
set_option maxRecDepth 65536 in
theorem w_c7 : (Jvm.Cond.code ({ cls := "com/example/map_rewriter/maprewriter/core/SExpression", name := "<init>", desc := "(II)V" } : Jvm.MethodName) prog_29_method_1_code (3 : Nat) (Option.none : Option Jvm.ClassFile.FieldType)).before args0 about1 = true := code_word (m := ⟨8, 0⟩) (meth := k8m0) (c := k8c0) (by decide +kernel) rfl rfl rfl (by decide +kernel)
set_option maxRecDepth 65536 in
theorem w_c8 : (Jvm.Cond.code ({ cls := "com/example/map_rewriter/maprewriter/core/SExpression$Atom", name := "isSymbol", desc := "(Ljava/lang/String;)Z" } : Jvm.MethodName) prog_30_method_4_code (2 : Nat) (Option.some Jvm.ClassFile.FieldType.boolean)).before args0 about1 = true := code_word (m := ⟨9, 1⟩) (meth := k9m1) (c := k9c1) (by decide +kernel) rfl rfl rfl (by decide +kernel)
set_option maxRecDepth 65536 in
theorem w_c9 : (Jvm.Cond.code ({ cls := "java/lang/String", name := "equals", desc := "(Ljava/lang/Object;)Z" } : Jvm.MethodName) jdk_42_method_66_code (3 : Nat) (Option.some Jvm.ClassFile.FieldType.boolean)).before args0 about1 = true := code_word (m := ⟨7, 2⟩) (meth := k7m2) (c := k7c2) (by decide +kernel) rfl rfl rfl (by decide +kernel)
set_option maxRecDepth 65536 in
theorem w_c10 : (Jvm.Cond.code ({ cls := "java/lang/StringLatin1", name := "equals", desc := "([B[B)Z" } : Jvm.MethodName) jdk_43_method_13_code (3 : Nat) (Option.some Jvm.ClassFile.FieldType.boolean)).before args0 about1 = true := code_word (m := ⟨12, 1⟩) (meth := k12m1) (c := k12c1) (by decide +kernel) rfl rfl rfl (by decide +kernel)
set_option maxRecDepth 65536 in
theorem w_c11 : (Jvm.Cond.code ({ cls := "java/lang/StringUTF16", name := "compress", desc := "([CII)[B" } : Jvm.MethodName) jdk_52_method_16_code (6 : Nat) (Option.some (Jvm.ClassFile.FieldType.array Jvm.ClassFile.FieldType.byte))).before args0 about1 = true := code_word (m := ⟨13, 2⟩) (meth := k13m2) (c := k13c2) (by decide +kernel) rfl rfl rfl (by decide +kernel)
set_option maxRecDepth 65536 in
theorem w_c12 : (Jvm.Cond.code ({ cls := "java/lang/StringUTF16", name := "compress", desc := "([CI[BII)I" } : Jvm.MethodName) jdk_52_method_21_code (7 : Nat) (Option.some Jvm.ClassFile.FieldType.int)).before args0 about1 = true := code_word (m := ⟨13, 3⟩) (meth := k13m3) (c := k13c3) (by decide +kernel) rfl rfl rfl (by decide +kernel)
set_option maxRecDepth 65536 in
theorem w_c13 : (Jvm.Cond.code ({ cls := "java/lang/StringUTF16", name := "coderFromArrayLen", desc := "([BI)B" } : Jvm.MethodName) jdk_52_method_15_code (2 : Nat) (Option.some Jvm.ClassFile.FieldType.byte)).before args0 about1 = true := code_word (m := ⟨13, 1⟩) (meth := k13m1) (c := k13c1) (by decide +kernel) rfl rfl rfl (by decide +kernel)
def codes1 : List Jvm.Cond := [Jvm.Cond.code x code maxLocals ret, Jvm.Cond.code ({ cls := "com/example/map_rewriter/maprewriter/core/AtomIsSymbolPinLaw", name := "make", desc := "(ICC)Ljava/lang/String;" } : Jvm.MethodName) method_3_code (3 : Nat) (Option.some (Jvm.ClassFile.FieldType.object "java/lang/String")), Jvm.Cond.code ({ cls := "java/lang/String", name := "<init>", desc := "([C)V" } : Jvm.MethodName) jdk_42_method_3_code (2 : Nat) (Option.none : Option Jvm.ClassFile.FieldType), Jvm.Cond.code ({ cls := "java/lang/String", name := "<init>", desc := "([CIILjava/lang/Void;)V" } : Jvm.MethodName) jdk_42_method_149_code (6 : Nat) (Option.none : Option Jvm.ClassFile.FieldType), Jvm.Cond.code ({ cls := "java/lang/Object", name := "<init>", desc := "()V" } : Jvm.MethodName) object_method_1_code (1 : Nat) (Option.none : Option Jvm.ClassFile.FieldType), Jvm.Cond.code ({ cls := "com/example/map_rewriter/maprewriter/core/AtomIsSymbolPinLaw", name := "kindOf", desc := "(I)Lcom/example/map_rewriter/maprewriter/core/SExpression$Kind;" } : Jvm.MethodName) method_2_code (1 : Nat) (Option.some (Jvm.ClassFile.FieldType.object "com/example/map_rewriter/maprewriter/core/SExpression$Kind")), Jvm.Cond.code ({ cls := "com/example/map_rewriter/maprewriter/core/SExpression$Atom", name := "<init>", desc := "(Lcom/example/map_rewriter/maprewriter/core/SExpression$Kind;Ljava/lang/String;ZII)V" } : Jvm.MethodName) prog_30_method_1_code (6 : Nat) (Option.none : Option Jvm.ClassFile.FieldType), Jvm.Cond.code ({ cls := "com/example/map_rewriter/maprewriter/core/SExpression", name := "<init>", desc := "(II)V" } : Jvm.MethodName) prog_29_method_1_code (3 : Nat) (Option.none : Option Jvm.ClassFile.FieldType), Jvm.Cond.code ({ cls := "com/example/map_rewriter/maprewriter/core/SExpression$Atom", name := "isSymbol", desc := "(Ljava/lang/String;)Z" } : Jvm.MethodName) prog_30_method_4_code (2 : Nat) (Option.some Jvm.ClassFile.FieldType.boolean), Jvm.Cond.code ({ cls := "java/lang/String", name := "equals", desc := "(Ljava/lang/Object;)Z" } : Jvm.MethodName) jdk_42_method_66_code (3 : Nat) (Option.some Jvm.ClassFile.FieldType.boolean), Jvm.Cond.code ({ cls := "java/lang/StringLatin1", name := "equals", desc := "([B[B)Z" } : Jvm.MethodName) jdk_43_method_13_code (3 : Nat) (Option.some Jvm.ClassFile.FieldType.boolean), Jvm.Cond.code ({ cls := "java/lang/StringUTF16", name := "compress", desc := "([CII)[B" } : Jvm.MethodName) jdk_52_method_16_code (6 : Nat) (Option.some (Jvm.ClassFile.FieldType.array Jvm.ClassFile.FieldType.byte)), Jvm.Cond.code ({ cls := "java/lang/StringUTF16", name := "compress", desc := "([CI[BII)I" } : Jvm.MethodName) jdk_52_method_21_code (7 : Nat) (Option.some Jvm.ClassFile.FieldType.int), Jvm.Cond.code ({ cls := "java/lang/StringUTF16", name := "coderFromArrayLen", desc := "([BI)B" } : Jvm.MethodName) jdk_52_method_15_code (2 : Nat) (Option.some Jvm.ClassFile.FieldType.byte)]
set_option maxRecDepth 65536 in
theorem codes_eq : words1.filter isCode = codes1 := rfl
theorem w_codes : ∀ c ∈ words1.filter isCode, c.before args0 about1 = true := by
  rw [codes_eq]
  intro c hc
  simp only [codes1, List.mem_cons, List.not_mem_nil, or_false] at hc
  rcases hc with rfl | rfl | rfl | rfl | rfl | rfl | rfl | rfl | rfl | rfl | rfl | rfl | rfl | rfl
  · exact w_c0
  · exact w_c1
  · exact w_c2
  · exact w_c3
  · exact w_c4
  · exact w_c5
  · exact w_c6
  · exact w_c7
  · exact w_c8
  · exact w_c9
  · exact w_c10
  · exact w_c11
  · exact w_c12
  · exact w_c13
set_option maxRecDepth 65536 in
theorem w_t1 : (words1.take 24).all (fun c => isCode c || c.before args0 about1) = true := by decide +kernel
set_option maxRecDepth 65536 in
theorem w_t2 : ((words1.drop 24).take 24).all (fun c => isCode c || c.before args0 about1) = true := by decide +kernel
set_option maxRecDepth 65536 in
theorem w_t3 : (((words1.drop 24).drop 24).take 24).all (fun c => isCode c || c.before args0 about1) = true := by decide +kernel
set_option maxRecDepth 65536 in
theorem w_t4 : (((words1.drop 24).drop 24).drop 24).all (fun c => isCode c || c.before args0 about1) = true := by decide +kernel
theorem w_tables : (allAtoms (Jvm.Cond.code x code maxLocals ret :: tables_1)).before args0 about1 = true := by
  rw [allAtoms_all]
  show words1.all (fun c => c.before args0 about1) = true
  refine all_split ?_ w_codes
  rw [← List.take_append_drop 24 words1, List.all_append, w_t1, ← List.take_append_drop 24 (words1.drop 24), List.all_append, w_t2, ← List.take_append_drop 24 ((words1.drop 24).drop 24), List.all_append, w_t3, w_t4]
  rfl
set_option maxRecDepth 65536 in
theorem w_rest : rest_1_c.before args0 about1 = true := by decide +kernel
set_option maxRecDepth 65536 in
theorem w_case : (Jvm.Cond.and given_1 narrow_1).before args0 about1 = true := by decide +kernel
set_option maxRecDepth 65536 in
theorem w_consts : constsHeld consts_1 about1 := Jvm.Lit.constsHeldB_iff.mp (by decide +kernel)
theorem w_applies : (headSpec (Jvm.Cond.code x code maxLocals ret :: tables_1) room_1).applies x e0.platform about1 = true :=
  (Spec.applies_iff w_frames).mpr ⟨w_running, w_runnable, w_alone, w_named, w_hears, w_ripe, w_room, w_tables⟩
theorem atStart : AtStart classFile x code maxLocals ret World_1 tables_1 room_1 Calls_1 rest_1 Pre_1 launch0 p0 e0 about1 theMethod args0 below0 :=
  ⟨lists_1, trivial, launch0.admits_env _ _ _, launch0.least_env, fairChoices_fair.cas, fairChoices_fair.clock, w_frames, w_args, w_heap, w_applies, ⟨w_consts, trivial⟩, w_rest, w_case⟩
end start1
theorem witness_1 : WitnessClaimed_1 := ⟨start1.p0, start1.e0, start1.about1, start1.theMethod, start1.args0, start1.below0, start1.atStart⟩
end Jvm.Pilot.@@N@@
