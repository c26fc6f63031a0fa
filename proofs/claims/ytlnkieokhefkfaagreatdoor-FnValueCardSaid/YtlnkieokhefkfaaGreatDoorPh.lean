/-
  UnmarshalJSON and ValueRead, walked.
-/
import Derived.Test.YtlnkieokhefkfaaGreatDoorPg
import Derived.Laws.Entries
namespace Go.Proofs.YtlnkieokhefkfaaGreatDoor
open Go.RowKit Go.Lib

theorem run_store_float (P : Program) (w : World) (a : Addr) (m : Mode) (k : FloatKind) (b : Nat) : (store a (.float k b) m).run P w = stored P w a (.float k b) m := run_store P w a _ m rfl
attribute [local go_sem] run_store_float

set_option maxRecDepth 100000 in
set_option maxHeartbeats 1000000 in
theorem unmarshal_of (v g c n res : Nat) (xs : List Int) (hn : xs.length = n) (hn100 : n ≤ 100) (hc : n + 2 ≤ c) (w : World) (hH : Holds w g (34 :: (xs ++ [34]))) (hv : w.cell? ⟨v, 0, none⟩ = some (.float .f64 0)) (hf : w.frozen? ⟨v, 0, none⟩ = false) (hvl : v < w.heap.size)
    (h29 : Calls Tryz.prog 29 #[.string (strOfNums xs), .int .i64 64] w fun e w' => e = .returned (.tuple #[.float .f64 res, .nilIface]) ∧ Below w.heap.size w w') :
    Calls Tryz.prog 18 #[.pointer (some ⟨v, 0, none⟩), .slice (some ⟨g, 0, none⟩) (n + 2 : Nat) c] w fun e w' => e = .returned .nilIface ∧ ∃ w1, Below w.heap.size w w1 ∧ w' = w1.setCell ⟨v, 0, none⟩ (.float .f64 res) := by
  have K := Lib.hid h29
  have c0 : w.cell? ⟨g, 0, none⟩ = some (.int .u8 34) := by have := hH 0 (by simp); simpa using this
  have c1 : w.cell? ⟨g, n + 1, none⟩ = some (.int .u8 34) := by
    have h := hH (n + 1) (by simp; omega)
    rw [h]
    simp [List.getD, ← hn]
  have hcv := run_convert_bytes_arg (P := Tryz.prog) w 40 5 Tryz.underlying40 Tryz.underlying5 g 1 n (c - 1) xs hn (fun i hi => by
    have h := hH (1 + i) (by simp; omega)
    rw [h, Nat.add_comm 1 i]
    simp [List.getD, List.getElem?_append_left (show i < xs.length by omega)]) 9 Tryz.underlying9
  clear h29 hH
  go_enter Tryz.func18, Tryz.ntmps18
  go_wp2_with (go_at_call 29; refine K.out.mono ?_; rintro e w1 ⟨rfl, hb⟩; have hv1 : w1.cell? ⟨v, 0, none⟩ = some (.float .f64 0) := (hb.cell (p := ⟨v, 0, none⟩) hvl).trans hv; have hf1 : w1.frozen? ⟨v, 0, none⟩ = false := (hb.frozen (p := ⟨v, 0, none⟩) hvl).trans hf)
  go_ret
  exact ⟨rfl, w1, hb, rfl⟩

theorem below_set {B : Nat} {a w : World} (h : Below B a w) {p : Addr} (hp : B ≤ p.block) (u : Value) : Below B a (w.setCell p u) :=
  ⟨h.os, h.tape, h.output, by simpa [World.setCell] using h.size, fun i hi => (Below.heap_setCell w p u i (by omega)).trans (h.block i hi)⟩
theorem range34 (xs : List Int) (hx : ∀ x ∈ xs, 45 ≤ x ∧ x ≤ 57) : ∀ x ∈ (34 :: (xs ++ [34])), 0 ≤ x ∧ x < 256 := by
  intro x hm
  simp at hm
  rcases hm with rfl | hm | rfl
  · omega
  · have := hx x hm; omega
  · omega

set_option maxRecDepth 100000 in
set_option maxHeartbeats 1000000 in
theorem valueRead_of (n res : Nat) (xs : List Int) (hn : xs.length = n) (hn100 : n ≤ 100) (hx : ∀ x ∈ xs, 45 ≤ x ∧ x ≤ 57) (w : World)
    (h29 : ∀ W, Below w.heap.size w W → Calls Tryz.prog 29 #[.string (strOfNums xs), .int .i64 64] W fun e w' => e = .returned (.tuple #[.float .f64 res, .nilIface]) ∧ Below W.heap.size W w') :
    Calls Tryz.prog 9 #[.string (strOfNums (34 :: (xs ++ [34])))] w fun e w' => e = .returned (.tuple #[.int .u64 res, .bool true]) ∧ Below w.heap.size w w' := by
  have K29 := Lib.hid h29
  have HX := Lib.hid (range34 xs hx)
  have hbits := Float64bits_run res
  have hcv := fun W : World => run_bytes_of_string (P := Tryz.prog) W 9 40 5 (strOfNums (34 :: (xs ++ [34]))) Tryz.underlying9 Tryz.underlying40 Tryz.underlying5
  clear h29 hx
  go_enter Tryz.func9, Tryz.ntmps9
  go_wp2_with fail
  have hsz : (strOfNums (34 :: (xs ++ [34]))).size = n + 2 := by rw [strOfNums_size]; simp; omega
  have hH := holds_bytes (w.alloc (.cells #[.float .f64 0] 44)) _ (grownCap (w.alloc (.cells #[.float .f64 0] 44)) (strOfNums (34 :: (xs ++ [34]))).size 0 5) ((bytesRow (strOfNums (34 :: (xs ++ [34]))) (grownCap (w.alloc (.cells #[.float .f64 0] 44)) (strOfNums (34 :: (xs ++ [34]))).size 0 5)).size, (bytesRow (strOfNums (34 :: (xs ++ [34]))) (grownCap (w.alloc (.cells #[.float .f64 0] 44)) (strOfNums (34 :: (xs ++ [34]))).size 0 5)).size + 1) HX.out
  have hge := grownCap_ge (w.alloc (.cells #[.float .f64 0] 44)) (strOfNums (34 :: (xs ++ [34]))).size 0 5
  have hlow := (below_alloc (below_alloc (Below.refl w.heap.size w) (Nat.le_refl _) (.cells #[.float .f64 0] 44)) (by simp) (.cells (bytesRow (strOfNums (34 :: (xs ++ [34]))) (grownCap (w.alloc (.cells #[.float .f64 0] 44)) (strOfNums (34 :: (xs ++ [34]))).size 0 5)) 5 ((bytesRow (strOfNums (34 :: (xs ++ [34]))) (grownCap (w.alloc (.cells #[.float .f64 0] 44)) (strOfNums (34 :: (xs ++ [34]))).size 0 5)).size, (bytesRow (strOfNums (34 :: (xs ++ [34]))) (grownCap (w.alloc (.cells #[.float .f64 0] 44)) (strOfNums (34 :: (xs ++ [34]))).size 0 5)).size + 1))).drew
  rw [hsz] at hge hlow hH ⊢
  generalize grownCap (w.alloc (.cells #[.float .f64 0] 44)) (n + 2) 0 5 = c at *
  have hb1 : Blk (w.alloc (.cells #[.float .f64 0] 44)) w.heap.size 44 #[.float .f64 0] := Blk.new _ _ _
  have hb2 := (hb1.alloc (.cells (bytesRow (strOfNums (34 :: (xs ++ [34]))) c) 5 ((bytesRow (strOfNums (34 :: (xs ++ [34]))) c).size, (bytesRow (strOfNums (34 :: (xs ++ [34]))) c).size + 1))).drew
  generalize hW2 : World.drew _ = W2 at *
  have hH2 : Holds W2 (w.heap.size + 1) (34 :: (xs ++ [34])) := by
    rw [← hW2]
    have e : (w.alloc (.cells #[.float .f64 0] 44)).heap.size = w.heap.size + 1 := by simp
    rw [e] at hH
    exact hH
  clear hW2 hH hb1
  have hvl := hb2.lt
  go_at_call 18
  refine (unmarshal_of w.heap.size (w.heap.size + 1) c n res xs hn hn100 (by omega) W2 hH2 (by rw [hb2.cell]; rfl) (hb2.frozen _) hvl (K29.out _ hlow)).mono ?_
  rintro e w' ⟨rfl, w1, hb3, rfl⟩
  have hv1 : w1.cell? ⟨w.heap.size, 0, none⟩ = some (.float .f64 0) := (hb3.cell (p := ⟨w.heap.size, 0, none⟩) hvl).trans (by rw [hb2.cell]; rfl)
  have HL := Lib.hid hlow
  have H3 := Lib.hid hb3
  clear hb2 hH2 hlow hb3
  go_wp2_with fail
  go_ret2
  exact ⟨rfl, below_set (HL.out.trans (H3.out.mono (by omega))) (Nat.le_refl _) _⟩
end Go.Proofs.YtlnkieokhefkfaaGreatDoor
