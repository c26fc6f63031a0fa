/-
  Duration.String at 1h30m, walked over its closure's seven calls.
-/
import Derived.Test.YtlnkieokhefkfaaGreatDoorDd
namespace Go.Proofs.YtlnkieokhefkfaaGreatDoor
open Go.RowKit Go.Lib

set_option maxRecDepth 100000 in
set_option maxHeartbeats 4000000 in
theorem durString (w : World) : Calls Tryz.prog 25 #[.int .i64 5400000000000] w fun e w' => e = .returned (.string ⟨#[49, 104, 51, 48, 109]⟩) ∧ Below w.heap.size w w' := by
  have hmf : ∀ (fn : Fn) (first cap : Array Value) (w : World), (Instr.makeFunc fn first cap).run Tryz.prog w = .ok (.func fn first cap) w := fun _ _ _ _ => rfl
  go_enter Tryz.func25, Tryz.ntmps25
  go_wp2_with fail
  have b0 := (Blk.new w 2 #[.int .i64 5400000]).alloc (.cells #[.string ⟨#[]⟩] 9)
  have b1 := Blk.new (w.alloc (.cells #[.int .i64 5400000] 2)) 9 #[.string ⟨#[]⟩]
  have hl := below_alloc (below_alloc (Below.refl w.heap.size w) (Nat.le_refl _) (.cells #[.int .i64 5400000] 2)) (by simp) (.cells #[.string ⟨#[]⟩] 9)
  have e1 : (w.alloc (.cells #[.int .i64 5400000] 2)).heap.size = w.heap.size + 1 := by simp
  rw [e1] at b1
  generalize (w.alloc (.cells #[.int .i64 5400000] 2)).alloc (.cells #[.string ⟨#[]⟩] 9) = A at *
  have B0 := Lib.hid b0
  have B1 := Lib.hid b1
  clear b0 b1 e1
  go_at_call 36
  refine (tell_y w.heap.size _ B0.out).mono ?_
  rintro e w' ⟨rfl, rfl⟩
  go_wp2_with fail
  go_at_call 36
  refine (tell_w w.heap.size _ B0.out).mono ?_
  rintro e w' ⟨rfl, rfl⟩
  go_wp2_with fail
  go_at_call 36
  refine (tell_d w.heap.size _ B0.out).mono ?_
  rintro e w' ⟨rfl, rfl⟩
  go_wp2_with fail
  go_at_call 36
  refine (tell_h w.heap.size _ B0.out B1.out).mono ?_
  rintro e w1 ⟨rfl, c0, c1, h1⟩
  have C0 := Lib.hid c0
  have C1 := Lib.hid c1
  clear c0 c1
  go_wp2_with fail
  go_at_call 36
  refine (tell_m w.heap.size _ C0.out C1.out).mono ?_
  rintro e w2 ⟨rfl, d0, d1, h2⟩
  have D0 := Lib.hid d0
  have q1 := d1.cell 0
  simp at q1
  clear d0 d1
  go_wp2_with fail
  go_at_call 36
  refine (tell_s w.heap.size _ D0.out).mono ?_
  rintro e w' ⟨rfl, rfl⟩
  go_wp2_with fail
  go_at_call 36
  refine (tell_ms w.heap.size _ D0.out).mono ?_
  rintro e w' ⟨rfl, rfl⟩
  have a1 : ∀ U : World, (Op.stringOp .add ⟨#[]⟩ ⟨#[49, 104, 51, 48, 109]⟩).run Tryz.prog U = .ok (.string ⟨#[49, 104, 51, 48, 109]⟩) U := fun U => run_string_add U ⟨#[]⟩ ⟨#[49, 104, 51, 48, 109]⟩ (by decide) (by decide)
  go_wp2_with fail
  go_ret
  exact ⟨rfl, (hl.trans h1).trans h2⟩
end Go.Proofs.YtlnkieokhefkfaaGreatDoor
