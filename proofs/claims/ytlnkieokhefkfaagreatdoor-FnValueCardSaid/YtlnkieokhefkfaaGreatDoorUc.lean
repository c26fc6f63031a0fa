/-
  The methods of internal/strconv's unrounded, and prescale, walked.
-/
import Derived.Test.YtlnkieokhefkfaaGreatDoorUb
namespace Go.Proofs.YtlnkieokhefkfaaGreatDoor
open Go.RowKit

set_option maxHeartbeats 400000 in
theorem nudge_up (u d : Int) (h0 : 0 ≤ u) (h1 : u ≤ 9223372036854775807) (hd0 : 0 ≤ d) (hd1 : d ≤ 1) (w : World) :
    Calls Tryz.prog 106 #[.int .u64 u, .int .i64 d] w fun e w' => e = .returned (.int .u64 (u + d)) ∧ w = w' := by
  go_enter Tryz.func106, Tryz.ntmps106
  go_wp2
  go_ret
  exact ⟨rfl, rfl⟩
set_option maxHeartbeats 400000 in
theorem nudge_down (u : Int) (h0 : 1 ≤ u) (h1 : u ≤ 9223372036854775807) (w : World) :
    Calls Tryz.prog 106 #[.int .u64 u, .int .i64 (-1)] w fun e w' => e = .returned (.int .u64 (u - 1)) ∧ w = w' := by
  go_enter Tryz.func106, Tryz.ntmps106
  go_wp2
  go_ret
  exact ⟨ret_int (by simp only [IntKind.wrap_u64]; omega), rfl⟩
set_option maxHeartbeats 400000 in
theorem ceil_any (u : Int) (h0 : 0 ≤ u) (h1 : u ≤ 9223372036854775807) (w : World) :
    Calls Tryz.prog 107 #[.int .u64 u] w fun e w' => e = .returned (.int .u64 ((u + 3) / 4)) ∧ w = w' := by
  go_enter Tryz.func107, Tryz.ntmps107
  go_wp2
  go_ret
  exact ⟨rfl, rfl⟩
set_option maxHeartbeats 400000 in
theorem floor_any (u : Int) (h0 : 0 ≤ u) (h1 : u ≤ 9223372036854775807) (w : World) :
    Calls Tryz.prog 108 #[.int .u64 u] w fun e w' => e = .returned (.int .u64 (u / 4)) ∧ w = w' := by
  go_enter Tryz.func108, Tryz.ntmps108
  go_wp2
  go_ret
  exact ⟨rfl, rfl⟩
set_option maxHeartbeats 400000 in
theorem round_any (u : Int) (h0 : 0 ≤ u) (h1 : u ≤ 9223372036854775807) (w : World) :
    Calls Tryz.prog 109 #[.int .u64 u] w fun e w' => e = .returned (.int .u64 ((u + 1 + u / 4 % 2) / 4)) ∧ w = w' := by
  have hx : bits BinOp.and IntKind.u64 (u / 4) 1 = u / 4 % 2 := and_one_u64 _ (by omega) (by omega)
  go_enter Tryz.func109, Tryz.ntmps109
  go_wp2
  go_ret
  exact ⟨rfl, rfl⟩

set_option maxHeartbeats 400000 in
/-- prescale writes the table's two words and the shift into the three cells of its scaler. -/
theorem prescale_any (b : Nat) (e p lp hi lo : Int) (v0 v1 v2 : Value) (w : World) (he0 : -400 ≤ e) (he1 : e ≤ 400) (hp0 : -20 ≤ p) (hp1 : p ≤ 30) (hl0 : -400 ≤ lp) (hl1 : lp ≤ 400)
    (t0 : w.cell? ⟨19, ((p + 348).toNat) * 2, none⟩ = some (.int .u64 hi)) (t1 : w.cell? ⟨19, ((p + 348).toNat) * 2 + 1, none⟩ = some (.int .u64 lo))
    (hb : Blk w b 151 #[v0, v1, v2]) (_hne : ¬ 19 = b) :
    Calls Tryz.prog 103 #[.pointer (some ⟨b, 0, none⟩), .int .i64 e, .int .i64 p, .int .i64 lp] w fun e' w' => e' = .returned (.tuple #[]) ∧ Blk w' b 151 #[.int .u64 hi, .int .u64 lo, .int .i64 (-(e + lp + 3))] ∧ w.grownBy w' (some b) := by
  have hfin : ∀ W : World, W = (((w.setCell ⟨b, 0, none⟩ (.int .u64 hi)).setCell ⟨b, 1, none⟩ (.int .u64 lo)).setCell ⟨b, 2, none⟩ (.int .i64 (-(e + lp + 3)))) → Blk W b 151 #[.int .u64 hi, .int .u64 lo, .int .i64 (-(e + lp + 3))] ∧ w.grownBy W (some b) := by
    rintro W rfl
    exact ⟨by simpa using ((hb.set_ 0 (.int .u64 hi)).set_ 1 (.int .u64 lo)).set_ 2 (.int .i64 (-(e + lp + 3))), only_cell (only_cell (only_cell (World.grownBy.refl w (some b)) 0 _) 1 _) 2 _⟩
  have c0 := hb.cell 0
  have c1 := hb.cell 1
  have c2 := hb.cell 2
  have f0 := hb.frozen 0
  have f1 := hb.frozen 1
  have f2 := hb.frozen 2
  simp at c0 c1 c2
  have HF := Lib.hid hfin
  have HB := Lib.hid hb
  clear hb hfin
  go_enter Tryz.func103, Tryz.ntmps103
  go_wp2
  go_end0
  exact ⟨rfl, HF.out _ rfl⟩
end Go.Proofs.YtlnkieokhefkfaaGreatDoor
