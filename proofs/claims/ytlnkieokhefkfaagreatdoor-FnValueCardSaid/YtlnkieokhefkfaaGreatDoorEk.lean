/-
  spec.EighthsText tells the same text.
-/
import Derived.Test.YtlnkieokhefkfaaGreatDoorEj
namespace Go.Proofs.YtlnkieokhefkfaaGreatDoor
open Go.RowKit Go.Lib

theorem digs2 (a b : Nat) (ha : 0 < a) (ha2 : a < 10) (hb : b < 10) : digs (10 * a + b) = [((48 + a : Nat) : Int), ((48 + b : Nat) : Int)] := by
  rw [digs_ten a b ha hb, digs_small a ha2]
  rfl
theorem digs3 (a b c : Nat) (ha : 0 < a) (ha2 : a < 10) (hb : b < 10) (hc : c < 10) : digs (10 * (10 * a + b) + c) = [((48 + a : Nat) : Int), ((48 + b : Nat) : Int), ((48 + c : Nat) : Int)] := by
  rw [digs_ten (10 * a + b) c (by omega) hc, digs2 a b ha ha2 hb]
  rfl
theorem lits_frac : ∀ i : Nat, i < 8 → lits[i]? = some (.string (strOfNums (fracText i))) ∧ (strOfNums (fracText i)).size ≤ 10
  | 0, _ => ⟨rfl, by decide⟩
  | 1, _ => by rw [show fracText 1 = 46 :: digs (10 * (10 * 1 + 2) + 5) from rfl, digs3 1 2 5 (by decide) (by decide) (by decide) (by decide)]; exact ⟨rfl, by decide⟩
  | 2, _ => by rw [show fracText 2 = 46 :: digs (10 * 2 + 5) from rfl, digs2 2 5 (by decide) (by decide) (by decide)]; exact ⟨rfl, by decide⟩
  | 3, _ => by rw [show fracText 3 = 46 :: digs (10 * (10 * 3 + 7) + 5) from rfl, digs3 3 7 5 (by decide) (by decide) (by decide) (by decide)]; exact ⟨rfl, by decide⟩
  | 4, _ => by rw [show fracText 4 = 46 :: digs 5 from rfl, digs_small 5 (by decide)]; exact ⟨rfl, by decide⟩
  | 5, _ => by rw [show fracText 5 = 46 :: digs (10 * (10 * 6 + 2) + 5) from rfl, digs3 6 2 5 (by decide) (by decide) (by decide) (by decide)]; exact ⟨rfl, by decide⟩
  | 6, _ => by rw [show fracText 6 = 46 :: digs (10 * 7 + 5) from rfl, digs2 7 5 (by decide) (by decide) (by decide)]; exact ⟨rfl, by decide⟩
  | 7, _ => by rw [show fracText 7 = 46 :: digs (10 * (10 * 8 + 7) + 5) from rfl, digs3 8 7 5 (by decide) (by decide) (by decide) (by decide)]; exact ⟨rfl, by decide⟩
  | i + 8, h => by omega

theorem eighthsText_any (n : Int) (h : n.natAbs < 562949953421312) (w : World) (hE : Env w) :
    Calls Tryz.prog 6 #[.int .i64 n] w fun e w' => e = .returned (.string (strOfNums (numText (decide (n < 0)) n.natAbs))) ∧ Below w.heap.size w w' := by
  obtain ⟨l1, l2⟩ := lits_frac (n.natAbs % 8) (by omega)
  by_cases hn : n < 0
  · obtain ⟨N, rfl⟩ : ∃ N : Nat, n = -(N : Int) := ⟨n.natAbs, by omega⟩
    rw [show (-(N : Int)).natAbs = N by omega] at *
    refine (eighthsText_neg (-(N : Int)) (by omega) hn (N / 8) ?_ (by omega) (N % 8) (by omega) ?_ _ l1 l2 w hE).mono ?_
    · rw [Int.neg_tdiv, Int.neg_neg, IntKind.wrap_i64]
      have : ((N : Int).tdiv 8) = ((N / 8 : Nat) : Int) := by rw [Int.tdiv_eq_ediv_of_nonneg (by omega)]; omega
      rw [this]
      omega
    · rw [Int.neg_tmod, Int.neg_neg, Int.tmod_eq_emod_of_nonneg (by omega)]
      omega
    · rintro e w' ⟨rfl, hb⟩
      refine ⟨?_, hb⟩
      unfold numText
      rw [strOf_append, strOf_append, show decide (-(N : Int) < 0) = true by simp; omega]
      rw [show strOfNums (sgn true) = (⟨#[45]⟩ : ByteArray) from rfl, ByteArray.append_assoc]
  · obtain ⟨N, rfl⟩ : ∃ N : Nat, n = (N : Int) := ⟨n.natAbs, by omega⟩
    rw [show ((N : Int)).natAbs = N by omega] at *
    refine (eighthsText_pos (N : Int) (by omega) hn (N / 8) ?_ (by omega) (N % 8) (by omega) ?_ _ l1 l2 w hE).mono ?_
    · rw [IntKind.wrap_i64, Int.tdiv_eq_ediv_of_nonneg (by omega)]
      omega
    · rw [Int.tmod_eq_emod_of_nonneg (by omega)]
      omega
    · rintro e w' ⟨rfl, hb⟩
      refine ⟨?_, hb⟩
      unfold numText
      rw [strOf_append, strOf_append, show decide ((N : Int) < 0) = false by simp]
      rw [show strOfNums (sgn false) = (⟨#[]⟩ : ByteArray) from rfl, ByteArray.append_assoc]
end Go.Proofs.YtlnkieokhefkfaaGreatDoor
