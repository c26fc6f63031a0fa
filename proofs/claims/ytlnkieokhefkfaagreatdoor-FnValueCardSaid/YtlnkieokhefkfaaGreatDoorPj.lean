/-
  ParseFloat of a number's text gives the number.
-/
import Derived.Test.YtlnkieokhefkfaaGreatDoorPi
namespace Go.Proofs.YtlnkieokhefkfaaGreatDoor
open Go.RowKit Go.Lib

theorem numD_eq (a : Nat) : 8 * numD a = a * 10 ^ numR a := by
  unfold numD numR
  by_cases hf : a % 8 = 0
  · have e2 : fracN (a % 8) = 0 := by unfold fracN; rw [if_pos hf]
    have e3 : fracV (a % 8) = 0 := by rw [hf]; rfl
    rw [e2, e3]
    omega
  · have hT := frac_table ⟨a % 8, by omega⟩ hf
    simp only at hT
    rw [Nat.mul_add, hT.2.2.1]
    have h8 : a = 8 * (a / 8) + a % 8 := by omega
    generalize 10 ^ fracN (a % 8) = P
    generalize a / 8 = I at *
    generalize a % 8 = f at *
    rw [h8, Nat.add_mul, Nat.mul_assoc]
theorem numR_le (a : Nat) : numR a ≤ 3 := by
  unfold numR fracN
  repeat' split
  all_goals omega

theorem xor_high (x : Nat) (h : x < 9223372036854775808) : x ^^^ 9223372036854775808 = 9223372036854775808 + x := by
  rw [← nat_join 63 9223372036854775808 x (by decide) h]
  apply Nat.eq_of_testBit_eq
  intro i
  rw [Nat.testBit_xor, Nat.testBit_or]
  by_cases hi : i = 63
  · subst hi
    rw [Nat.testBit_lt_two_pow (show x < 2 ^ 63 from h)]
    rfl
  · rw [show (9223372036854775808 : Nat) = 2 ^ 63 by decide, Nat.testBit_two_pow_of_ne (fun e => hi e.symm)]
    simp
theorem neg_word (D : Nat) (hD : D ≠ 0) (hL : D.log2 ≤ 52) : Op.negFloat .f64 (ValMath.wordOf false D 0) = ValMath.wordOf true D 0 := by
  obtain ⟨m0, m1⟩ := ValMath.mant D hD hL
  unfold ValMath.wordOf Ieee.Format.word
  show _ ^^^ 9223372036854775808 = _
  have hs : Ieee.double.signWeight = 9223372036854775808 := by decide
  rw [hs, if_pos rfl]
  exact xor_high _ (by simp; omega)
theorem fbits_word (neg : Bool) (a : Nat) : fbits neg a = ValMath.wordOf neg a (-3) := by
  unfold fbits ValMath.wordOf Ieee.Format.word
  rw [show Ieee.double.signWeight = 9223372036854775808 by decide, show ((-3 : Int) + (a.log2 : Int) + 1022).toNat = a.log2 + 1019 by omega]
  cases neg <;> simp
theorem word_eight (neg : Bool) (D : Nat) (hD : D ≠ 0) (hL : D.log2 ≤ 49) : ValMath.wordOf neg (8 * D) (-3) = ValMath.wordOf neg D 0 := by
  have hl : (8 * D).log2 = D.log2 + 3 := by
    have := ValMath.log2_mul_pow D 3 hD
    rw [Nat.mul_comm]
    exact this
  unfold ValMath.wordOf
  rw [hl, show ((-3 : Int) + ((D.log2 + 3 : Nat) : Int) + 1022).toNat = (0 + (D.log2 : Int) + 1022).toNat by omega]
  have e : 8 * D * 2 ^ (52 - (D.log2 + 3)) = D * 2 ^ (52 - D.log2) := by
    rw [show 52 - D.log2 = 3 + (52 - (D.log2 + 3)) by omega, Nat.pow_add, ← Nat.mul_assoc, Nat.mul_comm 8 D]
  rw [e]
theorem int_word (D : Nat) (hD : D ≠ 0) (hL : D.log2 ≤ 52) : floatOfInt .f64 (D : Int) = ValMath.wordOf false D 0 := by
  show Ieee.double.nearest (decide ((D : Int) < 0)) (D : Int).natAbs 0 = _
  rw [show decide ((D : Int) < 0) = false by simp, show (D : Int).natAbs = D by omega]
  exact ValMath.of_int false D hD hL
theorem pow_word : ValMath.wordOf false 10 0 = 4621819117588971520 ∧ ValMath.wordOf false 100 0 = 4636737291354636288 ∧ ValMath.wordOf false 1000 0 = 4652007308841189376 := by decide

/-- What reading a number leans on, in the world. -/
structure EnvP (R o : Nat) (w : World) : Prop where
  size : 19 < w.heap.size
  opt : w.cell? ⟨4, 0, none⟩ = some (.bool true)
  mb : w.cell? ⟨8, 0, none⟩ = some (.int .u64 52)
  ps : w.cell? ⟨18, 0, none⟩ = some (.slice (some ⟨R, o, none⟩) 23 23)
  p1 : w.cell? ⟨R, o + 1, none⟩ = some (.float .f64 4621819117588971520)
  p2 : w.cell? ⟨R, o + 2, none⟩ = some (.float .f64 4636737291354636288)
  p3 : w.cell? ⟨R, o + 3, none⟩ = some (.float .f64 4652007308841189376)
  t20 : w.cell? ⟨19, ((-2 + 348 : Int).toNat) * 2, none⟩ = some (.int .u64 (11805916207174113035 : Nat))
  t21 : w.cell? ⟨19, ((-2 + 348 : Int).toNat) * 2 + 1, none⟩ = some (.int .u64 (14019525496019259228 : Nat))
  t30 : w.cell? ⟨19, ((-3 + 348 : Int).toNat) * 2, none⟩ = some (.int .u64 (9444732965739290428 : Nat))
  t31 : w.cell? ⟨19, ((-3 + 348 : Int).toNat) * 2 + 1, none⟩ = some (.int .u64 (11215620396815407382 : Nat))
theorem EnvP.below {R o : Nat} {w w' : World} (h : EnvP R o w) (hb : Below w.heap.size w w') : EnvP R o w' := by
  have lt : ∀ {a : Addr} {v : Value}, w.cell? a = some v → a.block < w.heap.size := fun {a v} hc => by
    rcases Nat.lt_or_ge a.block w.heap.size with h' | h'
    · exact h'
    · simp [World.cell?, Array.getElem?_eq_none h'] at hc
  have k : ∀ {a : Addr} {v : Value}, w.cell? a = some v → w'.cell? a = some v := fun {a v} hc => (hb.cell (lt hc)).trans hc
  exact ⟨Nat.lt_of_lt_of_le h.size hb.size, k h.opt, k h.mb, k h.ps, k h.p1, k h.p2, k h.p3, k h.t20, k h.t21, k h.t30, k h.t31⟩

/-- atof64exact, where the digits are few. -/
theorem exact_num (neg : Bool) (a : Nat) (ha : 0 < a) (ha2 : a < 562949953421312) (hD : numD a < 4503599627370496) (R o : Nat) (w : World) (hE : EnvP R o w) :
    Calls Tryz.prog 97 #[.int .u64 (numD a), .int .i64 (-(numR a : Int)), .bool neg] w fun e w' => e = .returned (.tuple #[.float .f64 (fbits neg a), .bool true]) ∧ w = w' := by
  have h8 := numD_eq a
  have hr := numR_le a
  have hD0 : 0 < numD a := by
    rcases Nat.eq_zero_or_pos (numD a) with h | h
    · have := Nat.mul_pos ha (Nat.pow_pos (n := numR a) (show 0 < 10 by decide))
      omega
    · exact h
  generalize numD a = D at *
  generalize numR a = r at *
  have hDL : D.log2 ≤ 51 := by have := (Nat.log2_lt (k := 52) (by omega : D ≠ 0)).2 hD; omega
  have haL := ValMath.log2_lt a (by omega) ha2
  have hi := int_word D (by omega) (by omega)
  have hn := neg_word D (by omega) (by omega)
  rw [fbits_word]
  by_cases h0 : r = 0
  · subst h0
    obtain rfl : a = 8 * D := by omega
    have hDL2 : D.log2 ≤ 49 := by
      have hl : (8 * D).log2 = D.log2 + 3 := by
        have := ValMath.log2_mul_pow D 3 (by omega)
        rw [Nat.mul_comm]
        exact this
      omega
    rw [word_eight neg D (by omega) hDL2]
    cases neg
    · have h := exact_int D hD w hE.mb
      rw [hi] at h
      exact h
    · have h := exact_int_neg D _ hD rfl w hE.mb
      rw [hi, hn] at h
      exact h
  · have key : ∀ k p : Nat, k = 10 ^ r → p = ValMath.wordOf false k 0 → 3 ≤ k.log2 → k.log2 ≤ 40 → k ≠ 0 → w.cell? ⟨R, o + r, none⟩ = some (.float .f64 p) →
        Calls Tryz.prog 97 #[.int .u64 D, .int .i64 (-(r : Int)), .bool neg] w fun e w' => e = .returned (.tuple #[.float .f64 (ValMath.wordOf neg a (-3)), .bool true]) ∧ w = w' := by
      intro k p hk hp l3 l40 k0 hc
      rw [← hk] at h8
      have hq := ValMath.div_exact neg D k a (by omega) k0 (by omega) h8 (by omega) l40 (by omega) l3
      rw [← hp] at hq
      cases neg
      · exact exact_frac D r p _ R o hD (by omega) hr w hE.mb hE.ps hc (by rw [hi]; exact hq)
      · exact exact_frac_neg D _ r p _ R o hD rfl (by omega) hr w hE.mb hE.ps hc (by rw [hi, hn]; exact hq)
    obtain ⟨w1, w2, w3⟩ := pow_word
    rcases (show r = 1 ∨ r = 2 ∨ r = 3 by omega) with rfl | rfl | rfl
    · exact key 10 _ (by decide) w1.symm (by decide) (by decide) (by decide) hE.p1
    · exact key 100 _ (by decide) w2.symm (by decide) (by decide) (by decide) hE.p2
    · exact key 1000 _ (by decide) w3.symm (by decide) (by decide) (by decide) hE.p3
end Go.Proofs.YtlnkieokhefkfaaGreatDoor
