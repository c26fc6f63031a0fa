/-
  internal/strconv.setDigits, walked: the digits of d laid in the buffer, the zeros at the end not counted.
-/
import Derived.Test.YtlnkieokhefkfaaGreatDoorBs
import Derived.Test.YtlnkieokhefkfaaGreatDoorShelf
import Derived.Lib.ItoaMem
import Derived.Lib.ItoaLen
namespace Go.Proofs.YtlnkieokhefkfaaGreatDoor
open Go.RowKit Go.Lib

/-- d's digits as numbers. -/
def digs (u : Nat) : List Int := (decDigits u).map fun b => (b.toNat : Int)
theorem digs_length (u : Nat) : (digs u).length = nDigits u := by simp [digs, decDigits_length]
theorem digs_big (u : Nat) (h : 10 ≤ u) : digs u = digs (u / 10) ++ [((48 + u % 10 : Nat) : Int)] := by
  unfold digs
  rw [decDigits, dif_neg (by omega)]
  simp only [List.map_append, List.map_cons, List.map_nil]
  congr 2
  simp
  omega
theorem digs_small (u : Nat) (h : u < 10) : digs u = [((48 + u : Nat) : Int)] := by
  unfold digs
  rw [decDigits, dif_pos h]
  simp
  omega

theorem digs_last (u : Nat) : (digs u).getD (nDigits u - 1) 0 = ((48 + u % 10 : Nat) : Int) := by
  by_cases h : u < 10
  · rw [digs_small u h, nDigits_small h, Nat.mod_eq_of_lt h]
    rfl
  · have hl := digs_length (u / 10)
    rw [digs_big u (by omega), nDigits_big h, Nat.add_sub_cancel, ← hl]
    simp [List.getD]
theorem digs_pre (u j : Nat) (h : ¬ u < 10) (hj : j < nDigits (u / 10)) : (digs u).getD j 0 = (digs (u / 10)).getD j 0 := by
  have hl := digs_length (u / 10)
  rw [digs_big u (by omega)]
  simp only [List.getD]
  rw [List.getElem?_append_left (by omega)]
theorem digs_front : ∀ (k u j : Nat), 0 < u → j < nDigits u → (digs (u * 10 ^ k)).getD j 0 = (digs u).getD j 0 := by
  intro k
  induction k with
  | zero => intro u j _ _; simp
  | succ k ih =>
    intro u j hu hj
    have hp : 0 < 10 ^ k := Nat.pow_pos (by decide)
    have hmul : 0 < u * 10 ^ k := Nat.mul_pos hu hp
    have e : u * 10 ^ (k + 1) = 10 * (u * 10 ^ k) := by rw [Nat.pow_succ, ← Nat.mul_assoc, Nat.mul_comm]
    have e2 : u * 10 ^ (k + 1) / 10 = u * 10 ^ k := by rw [e]; omega
    have hlen : ∀ m v : Nat, 0 < v → nDigits v ≤ nDigits (v * 10 ^ m) := by
      intro m
      induction m with
      | zero => intro v _; simp
      | succ m ihm =>
        intro v hv
        have hq : 0 < v * 10 ^ m := Nat.mul_pos hv (Nat.pow_pos (by decide))
        have f : v * 10 ^ (m + 1) = 10 * (v * 10 ^ m) := by rw [Nat.pow_succ, ← Nat.mul_assoc, Nat.mul_comm]
        have g := ihm v hv
        rw [f, nDigits_big (u := 10 * (v * 10 ^ m)) (by omega), show 10 * (v * 10 ^ m) / 10 = v * 10 ^ m by omega]
        omega
    rw [digs_pre _ _ (by omega) (by rw [e2]; exact Nat.lt_of_lt_of_le hj (hlen k u hu)), e2]
    exact ih u j hu hj
theorem grownBy_putRow {α : Type} [Inhabited α] (enc : α → Value) (w : World) (blk off n : Nat) (d : Array α) : w.grownBy ((Sort.putRow enc w blk off d).drewN n) (some blk) :=
  ⟨rfl, rfl, rfl, by show w.heap.size ≤ (Sort.putRow enc w blk off d).heap.size; simp, fun i _ hne => by
    show (Sort.putRow enc w blk off d).heap[i]? = _
    unfold Sort.putRow Sort.mapBlock
    rw [Array.getElem?_modify, if_neg (fun e => hne (by rw [e]))]⟩

set_option maxRecDepth 100000 in
set_option maxHeartbeats 1000000 in
theorem setDigits_any (bs d nd : Nat) (p : Int) (hnd : nDigits d = nd) (h0 : 0 < d) (h1 : d < 18446744073709551616) (hp0 : -1000 ≤ p) (hp1 : p ≤ 1000) (w : World)
    (hb : Blk w bs 114 (Array.replicate 32 (.int .u8 0))) :
    Calls Tryz.prog 75 #[.slice (some ⟨bs, 0, none⟩) 32 32, .int .u64 d, .int .i64 p, .int .i64 nd] w fun e w' =>
      ∃ k d', e = .returned (.tuple #[.int .i64 (nd + p), .int .i64 (nDigits d' : Nat)]) ∧ d = d' * 10 ^ k ∧ ¬ d' % 10 = 0 ∧ (∀ j, j < nDigits d' → w'.cell? ⟨bs, j, none⟩ = some (.int .u8 ((digs d').getD j 0))) ∧ w.grownBy w' (some bs) := by
  have hn20 : nd ≤ 20 := by rw [← hnd]; exact nDigits_le20 d h1
  have hn1 : 1 ≤ nd := by rw [← hnd]; exact nDigits_pos d
  have hlt10 : d < 10 ^ (Array.replicate nd (0 : UInt8)).size := by rw [Array.size_replicate, ← hnd]; exact lt_pow_nDigits d
  have hH : Sort.Holds (fun (b : UInt8) => Value.int .u8 (b.toNat : Int)) w bs 0 (Array.replicate nd (0 : UInt8)) := by
    intro j hj
    rw [Array.size_replicate] at hj
    refine ⟨?_, hb.frozen _⟩
    rw [hb.cell]
    simp [show j < 32 by omega, hj]
  have c39 := Tryz.internal_strconv_formatBase10 bs 0 32 d (Array.replicate nd (0 : UInt8)) w hH hlt10 h1 (by rw [Array.size_replicate]; omega)
  rw [Array.size_replicate] at c39
  have K39 := Lib.hid c39
  have KH := Lib.hid hH
  clear c39 hH hlt10
  go_enter Tryz.func75, Tryz.ntmps75
  go_wp2_with fail
  refine K39.out.mono ?_
  rintro e w' ⟨rfl, n, v', dk, rfl, hF⟩
  have hg1 := grownBy_putRow (fun (b : UInt8) => Value.int .u8 (b.toNat : Int)) w bs 0 n dk
  have hcells : ∀ j, j < nd → ((Sort.putRow (fun (b : UInt8) => Value.int .u8 (b.toNat : Int)) w bs 0 dk).drewN n).cell? ⟨bs, j, none⟩ = some (.int .u8 ((digs d).getD j 0)) := by
    intro j hj
    have h := Sort.cell?_putRow (fun (b : UInt8) => Value.int .u8 (b.toNat : Int)) w bs 0 (Array.replicate nd (0 : UInt8)) dk KH.out (by rw [Array.size_replicate]; exact hF.size) j (by rw [hF.size]; exact hj)
    rw [Nat.zero_add] at h
    have hlen : j < (decDigits d).length := by rw [decDigits_length, hnd]; exact hj
    have hr := row_is_numeral (u := d) (by rw [hnd]; exact hF) j hlen
    have e : (digs d).getD j 0 = ((dk[j]!).toNat : Int) := by
      rw [← hr]
      simp [digs, List.getD, List.getElem?_eq_getElem hlen]
    rw [e]
    exact h
  generalize (Sort.putRow (fun (b : UInt8) => Value.int .u8 (b.toNat : Int)) w bs 0 dk).drewN n = W1 at *
  have HG := Lib.hid hg1
  have HC := Lib.hid hcells
  have HN := Lib.hid hnd
  clear hg1 hcells hnd hF hb
  go_wp2_with fail
  go_loop [3] (fun i => ∃ k d' : Nat, 0 < d' ∧ d = d' * 10 ^ k ∧ i = .int .i64 ((nDigits d' : Nat) : Int) ∧ nDigits d' ≤ nd) (fun i => (RowKit.intOf i).toNat)
  case atStart => exact ⟨0, d, h0, by simp, by rw [HN.out], by rw [HN.out]; exact Nat.le_refl _⟩
  case round =>
    obtain ⟨k, d', hd0, hdk, rfl, hle⟩ := hrel
    have hpos := nDigits_pos d'
    have hc1 : W1.cell? ⟨bs, nDigits d' - 1, none⟩ = some (.int .u8 ((48 + d' % 10 : Nat) : Int)) := by
      have h := HC.out (nDigits d' - 1) (by omega)
      rw [hdk, digs_front k d' _ hd0 (by omega), digs_last] at h
      exact h
    have HK := Lib.hid hdk
    clear hdk
    obtain ⟨m, hm⟩ : ∃ m, nDigits d' = m + 1 := ⟨nDigits d' - 1, by omega⟩
    have HM := Lib.hid hm
    rw [hm] at hc1 hle ⊢
    rw [Nat.add_sub_cancel] at hc1
    clear hm hpos
    by_cases hz : d' % 10 = 0
    · have hc2 : W1.cell? ⟨bs, m, none⟩ = some (.int .u8 48) := by rw [hc1, hz]; rfl
      have HZ := Lib.hid hz
      clear hc1 hz
      go_wp2_with fail
      go_round
      case rel =>
        have h10 : ¬ d' < 10 := by have := HZ.out; omega
        have hb := nDigits_big h10
        rw [HM.out] at hb
        refine ⟨k + 1, d' / 10, by omega, ?_, ?_, by omega⟩
        · have e1 : d' = d' / 10 * 10 := by have := HZ.out; omega
          rw [HK.out, Nat.pow_succ, Nat.mul_comm (10 ^ k) 10, ← Nat.mul_assoc, ← e1]
        · rw [show nDigits (d' / 10) = m by omega]
      case measure => simp [RowKit.intOf]
    · have hne48 : ((((48 + d' % 10 : Nat) : Int)) == 48) = false := by simp; omega
      generalize ((48 + d' % 10 : Nat) : Int) = c at *
      have HZ := Lib.hid hz
      clear hz
      go_wp2_with fail
      go_ret2
      refine ⟨k, d', ?_, HK.out, HZ.out, fun j hj => ?_, HG.out⟩
      · rw [HM.out]; rfl
      · rw [HC.out j (by rw [HM.out] at hj; omega), HK.out, digs_front k d' j hd0 hj]
        rfl
end Go.Proofs.YtlnkieokhefkfaaGreatDoor
