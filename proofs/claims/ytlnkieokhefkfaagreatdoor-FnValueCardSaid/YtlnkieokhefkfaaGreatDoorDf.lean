/-
  DurationText at 1h30m; modelAwake.
-/
import Derived.Test.YtlnkieokhefkfaaGreatDoorDe
namespace Go.Proofs.YtlnkieokhefkfaaGreatDoor
open Go.RowKit Go.Lib

set_option maxRecDepth 100000 in
theorem closText (b : Nat) (w : World)
    (b0 : Blk w b 2 #[.int .i64 5400000000000]) (b1 : Blk w (b + 1) 9 #[.string ⟨#[]⟩]) :
    Calls Tryz.prog 24 #[.pointer (some ⟨b, 0, none⟩), .pointer (some ⟨b + 1, 0, none⟩)] w fun e w' => e = .returned (.tuple #[]) ∧ Blk w' (b + 1) 9 #[.string ⟨#[49, 104, 51, 48, 109]⟩] ∧ (∀ i, i ≠ b + 1 → i < w.heap.size → w'.heap[i]? = w.heap[i]?) ∧ Below 0 w w' := by
  have c0 : w.cell? ⟨b, 0, none⟩ = some (.int .i64 5400000000000) := by rw [b0.cell]; rfl
  have K := Lib.hid durString
  have B1 := Lib.hid b1
  clear b0 b1
  go_enter Tryz.func24, Tryz.ntmps24
  go_wp2_with (go_at_call 25; refine (K.out _).mono ?_; rintro e w1 ⟨rfl, hb⟩; have hn := B1.out.below hb B1.out.lt; have n0 := hn.cell 0; have n1 := hn.frozen 0; simp at n0)
  go_end0
  exact ⟨rfl, hn.set_ 0 _, fun i h1 h3 => (Below.heap_setCell _ _ _ i (by simpa using h1)).trans (hb.block i h3), below_set (hb.mono (Nat.zero_le _)) (Nat.zero_le _) _⟩
set_option maxRecDepth 100000 in
theorem durationText (w : World) : Calls Tryz.prog 13 #[.int .i64 5400000000000] w fun e w' => e = .returned (.string ⟨#[49, 104, 51, 48, 109]⟩) ∧ Below w.heap.size w w' := by
  have hmf : ∀ (fn : Fn) (first cap : Array Value) (w : World), (Instr.makeFunc fn first cap).run Tryz.prog w = .ok (.func fn first cap) w := fun _ _ _ _ => rfl
  go_enter Tryz.func13, Tryz.ntmps13
  go_wp2_with fail
  have b0 := (Blk.new w 2 #[.int .i64 5400000000000]).alloc (.cells #[.string ⟨#[]⟩] 9)
  have b1 := Blk.new (w.alloc (.cells #[.int .i64 5400000000000] 2)) 9 #[.string ⟨#[]⟩]
  have hl := below_alloc (below_alloc (Below.refl w.heap.size w) (Nat.le_refl _) (.cells #[.int .i64 5400000000000] 2)) (by simp) (.cells #[.string ⟨#[]⟩] 9)
  have e1 : (w.alloc (.cells #[.int .i64 5400000000000] 2)).heap.size = w.heap.size + 1 := by simp
  rw [e1] at b1
  generalize (w.alloc (.cells #[.int .i64 5400000000000] 2)).alloc (.cells #[.string ⟨#[]⟩] 9) = A at *
  go_at_call 21
  refine (safe_24 _ (.tuple #[]) A (A.setCell ⟨w.heap.size + 1, 0, none⟩ (.string ⟨#[49, 104, 51, 48, 109]⟩)) ?_).mono ?_
  · intro W hW
    refine (closText w.heap.size W (b0.below hW b0.lt) (b1.below hW b1.lt)).mono ?_
    rintro e w' ⟨rfl, q1, q3, q4⟩
    refine ⟨rfl, fun i h1 h2 => q3 i (by have := b1.lt; omega) h2, ⟨q4.os.trans hW.os, q4.tape.trans hW.tape, q4.output.trans hW.output, by have := hW.size; have := q4.size; simp [World.setCell]; omega, fun i hi => ?_⟩⟩
    by_cases g1 : i = w.heap.size + 1
    · subst g1
      exact q1.trans (b1.set_ 0 (.string ⟨#[49, 104, 51, 48, 109]⟩)).symm
    · exact ((q3 i g1 (Nat.lt_of_lt_of_le hi hW.size)).trans (hW.block i hi)).trans (Below.heap_setCell _ _ _ i (by simpa using g1)).symm
  rintro e w' ⟨rfl, hb⟩
  have d1 := (b1.set_ 0 (.string ⟨#[49, 104, 51, 48, 109]⟩)).below hb b1.lt
  have x1 := d1.cell 0
  simp at x1
  have f1 := d1.frozen 0
  go_wp2_with fail
  have y1 := (d1.set_ 0 (.string ⟨#[49, 104, 51, 48, 109]⟩)).cell 0
  simp at y1
  refine bodyPost_ret (v := .string ⟨#[49, 104, 51, 48, 109]⟩) ?_ rfl ⟨rfl, ?_⟩
  · simp [results, Tryz.results13, go_sem, y1]
  · exact below_set ((below_set hl (by simp) _).trans (hb.mono hl.size)) (by simp) _
set_option maxRecDepth 100000 in
theorem modelAwake (w : World) : Calls Tryz.prog 5 #[] w fun e w' => e = .returned (.bool true) ∧ Below w.heap.size w w' := by
  have K := Lib.hid durationText
  go_enter Tryz.func5, Tryz.ntmps5
  go_wp2_with fail
  go_at_call 12
  refine (durationRead ⟨#[49, 104, 51, 48, 109]⟩ 5400000000000 _ parse_1h30m).mono ?_
  rintro e w1 ⟨rfl, h1⟩
  go_wp2_with fail
  go_at_call 13
  refine (K.out _).mono ?_
  rintro e w2 ⟨rfl, h2⟩
  go_wp2_with fail
  go_ret
  exact ⟨rfl, h1.trans (h2.mono h1.size)⟩
end Go.Proofs.YtlnkieokhefkfaaGreatDoor
