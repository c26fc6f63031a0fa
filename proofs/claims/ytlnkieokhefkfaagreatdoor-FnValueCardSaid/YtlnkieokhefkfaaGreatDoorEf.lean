/-
  The bits of a number of eighths, and internal/strconv.FormatFloat of it, walked.
-/
import Derived.Test.YtlnkieokhefkfaaGreatDoorEe
namespace Go.Proofs.YtlnkieokhefkfaaGreatDoor
open Go.RowKit Go.Lib

/-- The bits of the float that is a eighths. -/
def fbits (neg : Bool) (a : Nat) : Nat := (if neg then 9223372036854775808 else 0) + ((a.log2 + 1019) * 4503599627370496 + a * 2 ^ (52 - a.log2))

theorem log2_facts (a : Nat) (ha : 0 < a) (h : a < 562949953421312) : a.log2 < 49 ∧ 4503599627370496 ≤ a * 2 ^ (52 - a.log2) ∧ a * 2 ^ (52 - a.log2) < 9007199254740992 := by
  have hL0 : 2 ^ a.log2 ≤ a := Nat.log2_self_le (by omega)
  have hL1 : a < 2 ^ (a.log2 + 1) := Nat.lt_log2_self
  generalize a.log2 = L at *
  have hL : L < 49 := by
    rcases Nat.lt_or_ge L 49 with h' | h'
    · exact h'
    · have : 2 ^ 49 ≤ 2 ^ L := Nat.pow_le_pow_right (by decide) h'
      omega
  refine ⟨hL, ?_, ?_⟩
  · have : 2 ^ L * 2 ^ (52 - L) ≤ a * 2 ^ (52 - L) := Nat.mul_le_mul_right _ hL0
    rw [← Nat.pow_add, show L + (52 - L) = 52 by omega] at this
    omega
  · have : a * 2 ^ (52 - L) < 2 ^ (L + 1) * 2 ^ (52 - L) := Nat.mul_lt_mul_of_pos_right hL1 (Nat.two_pow_pos _)
    rw [← Nat.pow_add, show L + 1 + (52 - L) = 53 by omega] at this
    omega

theorem u64_mask52 (x : Nat) (h : x < 18446744073709551616) : bits BinOp.and IntKind.u64 (x : Int) 4503599627370495 = ((x % 4503599627370496 : Nat) : Int) := by
  have := u64_and_nat x 4503599627370495 h (by decide)
  rw [show (4503599627370495 : Nat) = 2 ^ 52 - 1 by rfl, Nat.and_two_pow_sub_one_eq_mod x 52] at this
  exact this
theorem u64_bit52 (x : Nat) (h : x < 4503599627370496) : bits BinOp.or IntKind.u64 (x : Int) 4503599627370496 = ((4503599627370496 + x : Nat) : Int) := by
  have := u64_or_nat x 4503599627370496 (by omega) (by decide)
  rw [Nat.or_comm, nat_join 52 4503599627370496 x (by decide) h] at this
  exact this
theorem i64_mask11 (x : Nat) (h : x < 9223372036854775808) : bits BinOp.and IntKind.i64 (x : Int) 2047 = ((x % 2048 : Nat) : Int) := by
  have := (bits_nat .i64 63 (by decide) (fun n h0 h1 => IntWalk.i64_in n (by omega)) x 2047 h (by decide)).1
  rw [show (2047 : Nat) = 2 ^ 11 - 1 by rfl, Nat.and_two_pow_sub_one_eq_mod x 11] at this
  exact this

theorem ftoa_any (neg : Bool) (a g cap : Nat) (w : World) (hb : Buf w g 0 cap []) (hcap : 24 ≤ cap) (hcm : cap ≤ 1000)
    (ha : 0 < a) (ha2 : a < 562949953421312) (hT : Tab w) (h19 : 19 < w.heap.size) (htab : Lib.TabIs Tryz.prog w "internal/strconv.uint64pow10" .u64 Lib.pow10Tab) :
    Calls Tryz.prog 58 #[.slice (some ⟨g, 0, none⟩) 0 cap, .float .f64 (fbits neg a), .int .u8 102, .int .i64 (-1)] w fun e w' =>
      ∃ m, e = .returned (.slice (some ⟨g, 0, none⟩) m cap) ∧ Buf w' g m cap (sgn neg ++ (digs (a / 8) ++ fracText (a % 8))) ∧ w.grownBy w' (some g) := by
  obtain ⟨hL, hM0, hM1⟩ := log2_facts a ha ha2
  obtain ⟨S, hS⟩ : ∃ S : Nat, S = (if neg then 1 else 0) := ⟨_, rfl⟩
  have hS1 : S ≤ 1 := by rw [hS]; split <;> omega
  have hB : fbits neg a = S * 9223372036854775808 + ((a.log2 + 1019) * 4503599627370496 + a * 2 ^ (52 - a.log2)) := by
    unfold fbits; rw [hS]; cases neg <;> simp
  have hlog : a.log2 = a.log2 := rfl
  generalize fbits neg a = B at *
  generalize hM : a * 2 ^ (52 - a.log2) = M at *
  refine ftoa_some neg a g cap w B M a.log2 hb hcap hcm ha ha2 rfl hM hL hM0 hM1 ((S * 2048 + (a.log2 + 1020) : Nat) : Int) (by omega) (by omega) (by omega) ?_ ((a.log2 + 1020 : Nat) : Int) ((M - 4503599627370496 : Nat) : Int) (by simp; omega) (by simp; omega) (by simp; omega) ?_ ?_ ?_ ?_ hT h19 htab
  · cases neg
    · simp at hS; simp; omega
    · simp at hS; simp; omega
  · rw [i64_mask11 _ (by omega)]; exact Int.ofNat_inj.mpr (by omega)
  · rw [u64_mask52 _ (by omega)]; exact Int.ofNat_inj.mpr (by omega)
  · rw [u64_bit52 _ (by omega)]; exact Int.ofNat_inj.mpr (by omega)
  · have : ((a.log2 + 1020 : Nat) : Int) + -1023 = (a.log2 : Int) - 3 := by omega
    rw [this]
    unfold wrap64
    omega
end Go.Proofs.YtlnkieokhefkfaaGreatDoor
