/-
  DurationRead at "1h30m", walked.
-/
import Derived.Test.YtlnkieokhefkfaaGreatDoorDb
namespace Go.Proofs.YtlnkieokhefkfaaGreatDoor
open Go.RowKit Go.Lib

set_option maxRecDepth 100000 in
theorem clos (b : Nat) (s : ByteArray) (n : Int) (w : World) (h23 : ∀ W, Calls Tryz.prog 23 #[.string s] W fun e w' => e = .returned (.tuple #[.int .i64 n, .nilIface]) ∧ Below W.heap.size W w')
    (b0 : Blk w b 9 #[.string s]) (b1 : Blk w (b + 1) 2 #[.int .i64 0]) (b2 : Blk w (b + 2) 4 #[.bool false]) :
    Calls Tryz.prog 22 #[.pointer (some ⟨b, 0, none⟩), .pointer (some ⟨b + 1, 0, none⟩), .pointer (some ⟨b + 2, 0, none⟩)] w fun e w' => e = .returned (.tuple #[]) ∧ Blk w' (b + 1) 2 #[.int .i64 n] ∧ Blk w' (b + 2) 4 #[.bool true] ∧ (∀ i, i ≠ b + 1 → i ≠ b + 2 → i < w.heap.size → w'.heap[i]? = w.heap[i]?) ∧ Below 0 w w' := by
  have c0 : w.cell? ⟨b, 0, none⟩ = some (.string s) := by rw [b0.cell]; rfl
  have K := Lib.hid h23
  have B1 := Lib.hid b1
  have B2 := Lib.hid b2
  clear h23 b0 b1 b2
  go_enter Tryz.func22, Tryz.ntmps22
  go_wp2_with (go_at_call 23; refine (K.out _).mono ?_; rintro e w1 ⟨rfl, hb⟩; have hn := B1.out.below hb B1.out.lt; have hk := B2.out.below hb B2.out.lt; have n0 := hn.cell 0; have k0 := hk.cell 0; have n1 := hn.frozen 0; have k1 := hk.frozen 0; simp at n0 k0)
  go_region
  all_goals
    go_wp2_with fail
  all_goals
    go_end0
    refine ⟨rfl, (hn.drew.set_ 0 (.int .i64 n)).far (by simp) _, ((hk.drew.far (by simp) _).set_ 0 (.bool true)), fun i h1 h2 h3 => ?_, (below_set (below_set (hb.drew.mono (Nat.zero_le _)) (Nat.zero_le _) _) (Nat.zero_le _) _)⟩
    exact ((Below.heap_setCell _ _ _ i (by simpa using h2)).trans (Below.heap_setCell _ _ _ i (by simpa using h1))).trans (hb.block i h3)
set_option maxRecDepth 100000 in
theorem durationRead (s : ByteArray) (n : Int) (w : World) (h23 : ∀ W, Calls Tryz.prog 23 #[.string s] W fun e w' => e = .returned (.tuple #[.int .i64 n, .nilIface]) ∧ Below W.heap.size W w') : Calls Tryz.prog 12 #[.string s] w fun e w' => e = .returned (.tuple #[.int .i64 n, .bool true]) ∧ Below w.heap.size w w' := by
  have hmf : ∀ (fn : Fn) (first cap : Array Value) (w : World), (Instr.makeFunc fn first cap).run Tryz.prog w = .ok (.func fn first cap) w := fun _ _ _ _ => rfl
  have K := Lib.hid h23
  clear h23
  go_enter Tryz.func12, Tryz.ntmps12
  go_wp2_with fail
  have b0 := ((Blk.new w 9 #[.string s]).alloc (.cells #[.int .i64 0] 2)).alloc (.cells #[.bool false] 4)
  have b1 := (Blk.new (w.alloc (.cells #[.string s] 9)) 2 #[.int .i64 0]).alloc (.cells #[.bool false] 4)
  have b2 := Blk.new ((w.alloc (.cells #[.string s] 9)).alloc (.cells #[.int .i64 0] 2)) 4 #[.bool false]
  have hl := below_alloc (below_alloc (below_alloc (Below.refl w.heap.size w) (Nat.le_refl _) (.cells #[.string s] 9)) (by simp) (.cells #[.int .i64 0] 2)) (by simp; omega) (.cells #[.bool false] 4)
  have e1 : (w.alloc (.cells #[.string s] 9)).heap.size = w.heap.size + 1 := by simp
  have e2 : ((w.alloc (.cells #[.string s] 9)).alloc (.cells #[.int .i64 0] 2)).heap.size = w.heap.size + 2 := by simp
  rw [e1] at b1
  rw [e2] at b2
  generalize ((w.alloc (.cells #[.string s] 9)).alloc (.cells #[.int .i64 0] 2)).alloc (.cells #[.bool false] 4) = A at *
  go_at_call 21
  refine (safe_22 _ (.tuple #[]) A ((A.setCell ⟨w.heap.size + 1, 0, none⟩ (.int .i64 n)).setCell ⟨w.heap.size + 2, 0, none⟩ (.bool true)) ?_).mono ?_
  · intro W hW
    refine (clos w.heap.size s n W K.out (b0.below hW b0.lt) (b1.below hW b1.lt) (b2.below hW b2.lt)).mono ?_
    rintro e w' ⟨rfl, q1, q2, q3, q4⟩
    refine ⟨rfl, fun i h1 h2 => q3 i (by have := b1.lt; omega) (by have := b2.lt; omega) h2, ⟨q4.os.trans hW.os, q4.tape.trans hW.tape, q4.output.trans hW.output, by have := hW.size; have := q4.size; simp [World.setCell]; omega, fun i hi => ?_⟩⟩
    by_cases g1 : i = w.heap.size + 1
    · subst g1
      exact q1.trans ((b1.set_ 0 (.int .i64 n)).far (p := ⟨w.heap.size + 2, 0, none⟩) (by simp) (.bool true)).symm
    · by_cases g2 : i = w.heap.size + 2
      · subst g2
        exact q2.trans ((b2.far (p := ⟨w.heap.size + 1, 0, none⟩) (by simp) (.int .i64 n)).set_ 0 (.bool true)).symm
      · exact ((q3 i g1 g2 (Nat.lt_of_lt_of_le hi hW.size)).trans (hW.block i hi)).trans ((Below.heap_setCell _ _ _ i (by simpa using g2)).trans (Below.heap_setCell _ _ _ i (by simpa using g1))).symm
  rintro e w' ⟨rfl, hb⟩
  have d1 := (((b1.set_ 0 (.int .i64 n)).far (p := ⟨w.heap.size + 2, 0, none⟩) (by simp) (.bool true))).below hb b1.lt
  have d2 := ((b2.far (p := ⟨w.heap.size + 1, 0, none⟩) (by simp) (.int .i64 n)).set_ 0 (.bool true)).below hb b2.lt
  have x1 := d1.cell 0
  have x2 := d2.cell 0
  simp at x1 x2
  have f1 := d1.frozen 0
  have f2 : w'.frozen? ⟨w.heap.size + 1 + 1, 0, none⟩ = false := d2.frozen 0
  have x3 : w'.cell? ⟨w.heap.size + 1 + 1, 0, none⟩ = some (.bool true) := x2
  go_wp2_with fail
  have y1 := ((d1.set_ 0 (.int .i64 n)).far (p := ⟨w.heap.size + 1 + 1, 0, none⟩) (by simp) (.bool true)).cell 0
  have y2 := ((d2.far (p := ⟨w.heap.size + 1, 0, none⟩) (by simp) (.int .i64 n)).set_ 0 (.bool true)).cell 0
  simp at y1 y2
  refine bodyPost_ret (v := .tuple #[.int .i64 n, .bool true]) ?_ rfl ⟨rfl, ?_⟩
  · simp [results, Tryz.results12, go_sem, y1, y2]
  · exact below_set (below_set ((below_set (below_set hl (by simp) _) (by simp) _).trans (hb.mono hl.size)) (by simp) _) (by simp; omega) _
end Go.Proofs.YtlnkieokhefkfaaGreatDoor
