/-
  strconv.FormatFloat at 'f', -1, 64, walked.
-/
import Derived.Test.YtlnkieokhefkfaaGreatDoorEf
namespace Go.Proofs.YtlnkieokhefkfaaGreatDoor
open Go.RowKit Go.Lib

theorem make24 (W : World) : (Instr.makeSlice 40 (.int .i64 0) (.int .i64 (max 3 24))).run Tryz.prog W = .ok (.slice (some ⟨W.heap.size, 0, none⟩) 0 24) (W.alloc (.cells (Array.replicate 24 (.int .u8 0)) 5)) := by
  obtain ⟨i0, hi, hz0, hz1, hz2⟩ := info_parts Tryz.info5
  have h := run_make (P := Tryz.prog) W 40 5 i0 (.int .u8 0) Tryz.underlying40 hi hz0 .i64 .i64 0 24 (by omega) (by omega) (by rw [hz2]; decide) (by omega)
  rw [hz1] at h
  have e : madeCells #[.int .u8 0] 24 = Array.replicate 24 (.int .u8 0) := by
    apply Array.toList_inj.mp
    rw [toList_madeCells_one]
    rfl
  have h2 : madeCells (Value.int .u8 0).cells (Int.toNat 24 * 1) = Array.replicate 24 (.int .u8 0) := e
  rw [show (max 3 24 : Int) = 24 by decide, h, h2]
  rfl

set_option maxRecDepth 100000 in
set_option maxHeartbeats 1000000 in
theorem format_any (B : Nat) (txt : List Int) (w : World)
    (h58 : ∀ (g : Nat) (W : World), Below w.heap.size w W → Buf W g 0 24 [] → Calls Tryz.prog 58 #[.slice (some ⟨g, 0, none⟩) 0 24, .float .f64 B, .int .u8 102, .int .i64 (-1)] W fun e w' =>
      ∃ m, e = .returned (.slice (some ⟨g, 0, none⟩) m 24) ∧ Buf w' g m 24 txt ∧ W.grownBy w' (some g)) :
    Calls Tryz.prog 44 #[.float .f64 B, .int .u8 102, .int .i64 (-1), .int .i64 64] w fun e w' => e = .returned (.string (strOfNums txt)) ∧ Below w.heap.size w w' := by
  have K := Lib.hid h58
  clear h58
  have hmk := make24
  go_enter Tryz.func44, Tryz.ntmps44
  go_wp2_with fail
  have hlow : Below w.heap.size w (w.alloc (.cells (Array.replicate 24 (.int .u8 0)) 5)) := below_alloc (Below.refl _ _) (Nat.le_refl _) _
  have hbuf : Buf (w.alloc (.cells (Array.replicate 24 (.int .u8 0)) 5)) w.heap.size 0 24 [] :=
    ⟨rfl, .inr ⟨w.heap.size, 24, Array.replicate 24 (.int .u8 0), rfl, Nat.le_refl _, heap_alloc_new w _, by decide, by decide, by simp, by simp⟩⟩
  go_at_call 58
  refine (K.out w.heap.size _ hlow hbuf).mono ?_
  rintro e w2 ⟨m, rfl, hb2, hg2⟩
  have hlen : txt.length = m := by have := hb2.1; simp at this; omega
  have hcv := run_convert_bytes_arg (P := Tryz.prog) w2 40 5 Tryz.underlying40 Tryz.underlying5 w.heap.size 0 m 24 txt hlen (fun i hi => by
    rw [Nat.zero_add, World.ownsRow.cellAt hb2 i (by omega)]
    simp [List.getD, List.getElem?_eq_getElem (show i < txt.length by omega)]) 9 Tryz.underlying9
  have HG := Lib.hid hg2
  have HL := Lib.hid hlow
  clear hb2 hg2 hlow hbuf
  go_wp2_with fail
  go_ret
  refine ⟨rfl, HL.out.trans ⟨HG.out.os, HG.out.tape, HG.out.output, HG.out.size, fun i hi => HG.out.block i (by simp; omega) (fun e => by injection e; omega)⟩⟩

theorem formatFloat_any (B : Nat) (txt : List Int) (w : World)
    (h44 : Calls Tryz.prog 44 #[.float .f64 B, .int .u8 102, .int .i64 (-1), .int .i64 64] w fun e w' => e = .returned (.string (strOfNums txt)) ∧ Below w.heap.size w w') :
    Calls Tryz.prog 30 #[.float .f64 B, .int .u8 102, .int .i64 (-1), .int .i64 64] w fun e w' => e = .returned (.string (strOfNums txt)) ∧ Below w.heap.size w w' := by
  have K := Lib.hid h44
  clear h44
  go_enter Tryz.func30, Tryz.ntmps30
  go_wp2_with (go_at_call 44; refine K.out.mono ?_; rintro e w2 ⟨rfl, hb⟩)
  go_ret
  exact ⟨rfl, hb⟩
theorem sampleString_any (B : Nat) (txt : List Int) (w : World)
    (h30 : Calls Tryz.prog 30 #[.float .f64 B, .int .u8 102, .int .i64 (-1), .int .i64 64] w fun e w' => e = .returned (.string (strOfNums txt)) ∧ Below w.heap.size w w') :
    Calls Tryz.prog 19 #[.float .f64 B] w fun e w' => e = .returned (.string (strOfNums txt)) ∧ Below w.heap.size w w' := by
  have K := Lib.hid h30
  clear h30
  go_enter Tryz.func19, Tryz.ntmps19
  go_wp2_with (go_at_call 30; refine K.out.mono ?_; rintro e w2 ⟨rfl, hb⟩)
  go_ret
  exact ⟨rfl, hb⟩
theorem valueText_any (B : Nat) (txt : List Int) (w : World)
    (h19 : Calls Tryz.prog 19 #[.float .f64 B] w fun e w' => e = .returned (.string (strOfNums txt)) ∧ Below w.heap.size w w') :
    Calls Tryz.prog 10 #[.int .u64 B] w fun e w' => e = .returned (.string (strOfNums txt)) ∧ Below w.heap.size w w' := by
  have K := Lib.hid h19
  have hbits := Float64frombits_run B
  clear h19
  go_enter Tryz.func10, Tryz.ntmps10
  go_wp2_with (go_at_call 19; refine K.out.mono ?_; rintro e w2 ⟨rfl, hb⟩)
  go_ret
  exact ⟨rfl, hb⟩
end Go.Proofs.YtlnkieokhefkfaaGreatDoor
