/-
  spec.EighthsText, walked.
-/
import Derived.Test.YtlnkieokhefkfaaGreatDoorEi
import Derived.Lib.AppendIntMem
namespace Go.Proofs.YtlnkieokhefkfaaGreatDoor
open Go.RowKit Go.Lib

theorem strOf_append (xs ys : List Int) : strOfNums (xs ++ ys) = strOfNums xs ++ strOfNums ys := by
  apply ByteArray.ext
  simp [strOfNums]
theorem strOf_digs (u : Nat) : strOfNums (digs u) = ⟨(decDigits u).toArray⟩ := by
  apply ByteArray.ext
  simp only [strOfNums, digs, List.map_map]
  congr 1
  conv => rhs; rw [← List.map_id (decDigits u)]
  apply List.map_congr_left
  intro b _
  simp
theorem fmtInt_at (u : Nat) (h : u < 9223372036854775808) (W : World) (hE : Env W) :
    Calls Tryz.prog 14 #[.int .i64 (u : Int), .int .i64 10] W fun e w' => e = .returned (.string (strOfNums (digs u))) ∧ Below W.heap.size W w' := by
  refine (Tryz.strconv_FormatInt_10 u (by omega) (by omega) W hE.p10).mono ?_
  rintro e w' ⟨rfl, k, os, rfl⟩
  refine ⟨?_, below_grow _ W (Nat.le_refl _) k os⟩
  rw [strOf_digs]
  unfold Lib.itoa
  rw [if_neg (by omega)]
  rfl

theorem lit_cell (W : World) (cs : Array Value) (t : TypeId) (w' : World) (hb : Below (W.alloc (.cells cs t)).heap.size (W.alloc (.cells cs t)) w') (i : Nat) (v : Value) (h : cs[i]? = some v) : w'.cell? ⟨W.heap.size, i, none⟩ = some v := by
  have hblk := (Blk.new W t cs).below hb (Blk.new W t cs).lt
  rw [hblk.cell, h]

theorem digs_small_size (u : Nat) (h : u < 9223372036854775808) : ((digs u).length : Int) ≤ 20 := by
  rw [digs_length]
  have := nDigits_le20 u (by omega)
  omega

theorem dig_size (u : Nat) (h : u < 9223372036854775808) : ((strOfNums (digs u)).size : Int) ≤ 8388608 := by
  have := digs_small_size u h
  rw [strOfNums_size]
  omega
theorem cat_size (l : ByteArray) (hl : l.size ≤ 1) (u : Nat) (h : u < 9223372036854775808) : ((l ++ strOfNums (digs u)).size : Int) ≤ 8388608 := by
  have := digs_small_size u h
  rw [ByteArray.size_append, strOfNums_size]
  omega
abbrev lits : Array Value := #[.string ⟨#[]⟩, .string ⟨#[46, 49, 50, 53]⟩, .string ⟨#[46, 50, 53]⟩, .string ⟨#[46, 51, 55, 53]⟩, .string ⟨#[46, 53]⟩, .string ⟨#[46, 54, 50, 53]⟩, .string ⟨#[46, 55, 53]⟩, .string ⟨#[46, 56, 55, 53]⟩]
theorem lit_new (W : World) (i : Nat) (v : Value) (h : lits[i]? = some v) : (W.alloc (.cells lits 9)).cell? ⟨W.heap.size, i, none⟩ = some v := by
  rw [(Blk.new W 9 lits).cell, h]

set_option maxRecDepth 100000 in
set_option maxHeartbeats 2000000 in
theorem eighthsText_neg (n : Int) (h : n.natAbs < 562949953421312) (hn : n < 0) (u : Nat) (hu : IntKind.i64.wrap (-n.tdiv 8) = (u : Int)) (hu1 : u < 9223372036854775808) (i : Nat) (hi : i < 8) (h8 : -n.tmod 8 = (i : Int)) (t : ByteArray) (hl : lits[i]? = some (.string t)) (ht : t.size ≤ 10) (w : World) (hE : Env w) :
    Calls Tryz.prog 6 #[.int .i64 n] w fun e w' => e = .returned (.string ((⟨#[45]⟩ : ByteArray) ++ strOfNums (digs u) ++ t)) ∧ Below w.heap.size w w' := by
  have K := Lib.hid hE
  clear hE
  have a1 := fun W : World => run_string_add (P := Tryz.prog) W ⟨#[45]⟩ (strOfNums (digs u)) (by decide) (dig_size u hu1)
  have a2 := fun W : World => run_string_add (P := Tryz.prog) W ((⟨#[45]⟩ : ByteArray) ++ strOfNums (digs u)) t (cat_size _ (by decide) u hu1) (Int.le_trans (Int.ofNat_le.2 ht) (by decide))
  have ln := fun W : World => lit_new W i _ hl
  have HL := Lib.hid hl
  clear hl
  go_enter Tryz.func6, Tryz.ntmps6
  go_wp2_with fail
  go_region_with (go_at_call 14; refine (fmtInt_at u hu1 _ ?_).mono ?_; (first | exact K.out.below (below_drewN (Below.refl _ _) 1) | exact K.out.below (below_alloc (below_drewN (Below.refl _ _) 1) (Nat.le_refl _) _)); rintro e w' ⟨rfl, hb⟩; try (have hc : w'.cell? ⟨w.heap.size, i, none⟩ = _ := lit_cell w.drew _ _ _ hb i _ HL.out))
  all_goals
    go_wp2_with fail
    go_ret
    first
      | exact ⟨rfl, below_alloc ((below_drewN (Below.refl _ _) 1).trans hb) hb.size _⟩
      | exact ⟨rfl, (below_alloc (below_drewN (Below.refl _ _) 1) (Nat.le_refl _) _).trans (hb.mono (by simp))⟩

set_option maxRecDepth 100000 in
set_option maxHeartbeats 2000000 in
theorem eighthsText_pos (n : Int) (_h : n.natAbs < 562949953421312) (hn : ¬ n < 0) (u : Nat) (hu : IntKind.i64.wrap (n.tdiv 8) = (u : Int)) (hu1 : u < 9223372036854775808) (i : Nat) (hi : i < 8) (h8 : n.tmod 8 = (i : Int)) (t : ByteArray) (hl : lits[i]? = some (.string t)) (ht : t.size ≤ 10) (w : World) (hE : Env w) :
    Calls Tryz.prog 6 #[.int .i64 n] w fun e w' => e = .returned (.string ((⟨#[]⟩ : ByteArray) ++ strOfNums (digs u) ++ t)) ∧ Below w.heap.size w w' := by
  have K := Lib.hid hE
  clear hE
  have a1 := fun W : World => run_string_add (P := Tryz.prog) W ⟨#[]⟩ (strOfNums (digs u)) (by decide) (dig_size u hu1)
  have a2 := fun W : World => run_string_add (P := Tryz.prog) W ((⟨#[]⟩ : ByteArray) ++ strOfNums (digs u)) t (cat_size _ (by decide) u hu1) (Int.le_trans (Int.ofNat_le.2 ht) (by decide))
  have ln := fun W : World => lit_new W i _ hl
  have HL := Lib.hid hl
  clear hl
  go_enter Tryz.func6, Tryz.ntmps6
  go_wp2_with fail
  go_region_with (go_at_call 14; refine (fmtInt_at u hu1 _ ?_).mono ?_; (first | exact K.out.below (below_drewN (Below.refl _ _) 1) | exact K.out.below (below_alloc (below_drewN (Below.refl _ _) 1) (Nat.le_refl _) _)); rintro e w' ⟨rfl, hb⟩; try (have hc : w'.cell? ⟨w.heap.size, i, none⟩ = _ := lit_cell w.drew _ _ _ hb i _ HL.out))
  all_goals
    go_wp2_with fail
    go_ret
    first
      | exact ⟨rfl, below_alloc ((below_drewN (Below.refl _ _) 1).trans hb) hb.size _⟩
      | exact ⟨rfl, (below_alloc (below_drewN (Below.refl _ _) 1) (Nat.le_refl _) _).trans (hb.mono (by simp))⟩

end Go.Proofs.YtlnkieokhefkfaaGreatDoor
