/-
  ParseDuration at "1h30m", walked.
-/
import Derived.Test.YtlnkieokhefkfaaGreatDoorPl
namespace Go.Proofs.YtlnkieokhefkfaaGreatDoor
open Go.RowKit Go.Lib

theorem isdigit_yes (c : Int) (h0 : 48 ≤ c) (h1 : c ≤ 57) (w : World) : Calls Tryz.prog 33 #[.int .u8 c] w fun e w' => e = .returned (.bool true) ∧ w = w' := by
  go_enter Tryz.func33, Tryz.ntmps33
  go_wp2
  go_ret
  exact ⟨rfl, rfl⟩
theorem isdigit_h (w : World) : Calls Tryz.prog 33 #[.int .u8 104] w fun e w' => e = .returned (.bool false) ∧ w = w' := by
  go_enter Tryz.func33, Tryz.ntmps33
  go_wp2
  go_ret
  exact ⟨rfl, rfl⟩
theorem isdigit_m (w : World) : Calls Tryz.prog 33 #[.int .u8 109] w fun e w' => e = .returned (.bool false) ∧ w = w' := by
  go_enter Tryz.func33, Tryz.ntmps33
  go_wp2
  go_ret
  exact ⟨rfl, rfl⟩
theorem unit_res (a b : Int) (tmps : Array Value) (w : World) (h2 : tmps.getD 2 undef = .pointer (some ⟨w.heap.size, 0, none⟩)) (h3 : tmps.getD 3 undef = .bool true) :
    (results Tryz.f35 tmps).run Tryz.prog (w.alloc (.cells #[.int .i64 a, .int .u64 b] 65)) = .ok (.tuple #[.agg #[.int .i64 a, .int .u64 b], .bool true]) (w.alloc (.cells #[.int .i64 a, .int .u64 b] 65)) := by
  rw [results_cell_tmp rfl, h2, h3]
  have h := run_loadVar_row (P := Tryz.prog) (w.alloc (.cells #[.int .i64 a, .int .u64 b] 65)) w.heap.size 65 65 #[.int .i64 a, .int .u64 b] (0, 0) _ (heap_alloc_new w _) Tryz.underlying65 rfl (by kernel_rfl)
  simp [asAddr, h]
theorem unit_h (w : World) : Calls Tryz.prog 35 #[.string ⟨#[104]⟩] w fun e w' => e = .returned (.tuple #[.agg #[.int .i64 4, .int .u64 3600000000000], .bool true]) ∧ Below w.heap.size w w' := by
  go_enter Tryz.func35, Tryz.ntmps35
  go_wp2
  exact bodyPost_ret (unit_res 4 3600000000000 _ w rfl rfl) rfl ⟨rfl, below_alloc (Below.refl _ _) (Nat.le_refl _) _⟩
theorem unit_m (w : World) : Calls Tryz.prog 35 #[.string ⟨#[109]⟩] w fun e w' => e = .returned (.tuple #[.agg #[.int .i64 5, .int .u64 60000000000], .bool true]) ∧ Below w.heap.size w w' := by
  go_enter Tryz.func35, Tryz.ntmps35
  go_wp2
  exact bodyPost_ret (unit_res 5 60000000000 _ w rfl rfl) rfl ⟨rfl, below_alloc (Below.refl _ _) (Nat.le_refl _) _⟩
theorem puint_at (s : ByteArray) (u : Nat) (hs : s.size ≤ 100) (h : Lib.parseUintB 64 s.data.toList = .ok u) (w : World) : Calls Tryz.prog 34 #[.string s, .int .i64 10, .int .i64 0] w fun e w' => e = .returned (.tuple #[.int .u64 u, .nilIface]) ∧ Below w.heap.size w w' := by
  refine (Tryz.strconv_ParseUint_10_at0_ok s (by omega) u h w).mono ?_
  rintro e w' ⟨rfl, rfl | rfl⟩
  · exact ⟨rfl, Below.refl _ _⟩
  · exact ⟨rfl, Go.Joins.below_bytesWorld _ w 5 s (Nat.le_refl _)⟩
/-- A contract read from an elder world. -/
theorem from_elder {f : FuncId} {args : Array Value} {v : Value} {w : World} (h : ∀ W, Calls Tryz.prog f args W fun e w' => e = .returned v ∧ Below W.heap.size W w') (W : World) (hb : Below w.heap.size w W) :
    Calls Tryz.prog f args W fun e w' => e = .returned v ∧ Below w.heap.size w w' :=
  (h W).mono fun _ _ ⟨h1, h2⟩ => ⟨h1, hb.trans (h2.mono hb.size)⟩

set_option maxRecDepth 100000 in
set_option maxHeartbeats 40000000 in
theorem parse_two (s0 s1 s2 s3 t1 t2 u1 u2 : ByteArray) (z0 : s0.size = 5) (z1 : s1.size = 4) (z2 : s2.size = 3) (z3 : s3.size = 1)
    (b00 : s0[0].toNat = 49) (b01 : s0[1].toNat = 104) (b10 : s1[0].toNat = 104) (b11 : s1[1].toNat = 51) (b20 : s2[0].toNat = 51) (b21 : s2[1].toNat = 48) (b22 : s2[2].toNat = 109) (b30 : s3[0].toNat = 109)
    (e1 : s0.extract 0 1 = t1) (e2 : s0.extract 1 5 = s1) (e3 : s1.extract 0 1 = u1) (e4 : s1.extract 1 4 = s2) (e5 : s2.extract 0 2 = t2) (e6 : s2.extract 2 3 = s3) (e7 : s3.extract 0 1 = u2)
    (n0 : (s0.toList == [48]) = false) (n1 : (s0.toList == []) = false) (m2 : s2.toList.isEmpty = false) (w : World)
    (k1 : ∀ W, Below w.heap.size w W → Calls Tryz.prog 34 #[.string t1, .int .i64 10, .int .i64 0] W fun e w' => e = .returned (.tuple #[.int .u64 (1 : Nat), .nilIface]) ∧ Below w.heap.size w w')
    (k2 : ∀ W, Below w.heap.size w W → Calls Tryz.prog 34 #[.string t2, .int .i64 10, .int .i64 0] W fun e w' => e = .returned (.tuple #[.int .u64 (30 : Nat), .nilIface]) ∧ Below w.heap.size w w')
    (k3 : ∀ W, Below w.heap.size w W → Calls Tryz.prog 35 #[.string u1] W fun e w' => e = .returned (.tuple #[.agg #[.int .i64 4, .int .u64 3600000000000], .bool true]) ∧ Below w.heap.size w w')
    (k4 : ∀ W, Below w.heap.size w W → Calls Tryz.prog 35 #[.string u2] W fun e w' => e = .returned (.tuple #[.agg #[.int .i64 5, .int .u64 60000000000], .bool true]) ∧ Below w.heap.size w w') :
    Calls Tryz.prog 23 #[.string s0] w fun e w' => e = .returned (.tuple #[.int .i64 5400000000000, .nilIface]) ∧ Below w.heap.size w w' := by
  have K1 := Lib.hid k1
  have K30 := Lib.hid k2
  have KH := Lib.hid k3
  have KM := Lib.hid k4
  clear k1 k2 k3 k4
  have hb := Below.refl w.heap.size w
  go_enter Tryz.func23, Tryz.ntmps23
  go_wp2_with fail
  refine wp_loop_rounds 3 ?_
  rw [rounds_succ]
  go_wp2_with (first | (go_at_call 33; refine (isdigit_yes 49 (by omega) (by omega) _).mono ?_; rintro e w' ⟨rfl, rfl⟩))
  refine wp_loop_rounds 2 ?_
  rw [rounds_succ]
  go_wp2_with (first | (go_at_call 33; refine (isdigit_yes 49 (by omega) (by omega) _).mono ?_; rintro e w' ⟨rfl, rfl⟩))
  rw [rounds_succ]
  go_wp2_with (first | (go_at_call 33; refine (isdigit_h _).mono ?_; rintro e w' ⟨rfl, rfl⟩) | (go_at_call 34; refine (K1.out _ hb).mono ?_; rintro e w' ⟨rfl, hb⟩))
  refine wp_loop_rounds 2 ?_
  rw [rounds_succ]
  go_wp2_with (first | (go_at_call 33; refine (isdigit_h _).mono ?_; rintro e w' ⟨rfl, rfl⟩))
  rw [rounds_succ]
  go_wp2_with (first | (go_at_call 33; refine (isdigit_yes 51 (by omega) (by omega) _).mono ?_; rintro e w' ⟨rfl, rfl⟩) | (go_at_call 35; refine (KH.out _ hb).mono ?_; rintro e w' ⟨rfl, hb⟩))
  rw [rounds_succ]
  go_wp2_with (first | (go_at_call 33; refine (isdigit_yes 51 (by omega) (by omega) _).mono ?_; rintro e w' ⟨rfl, rfl⟩))
  refine wp_loop_rounds 3 ?_
  rw [rounds_succ]
  go_wp2_with (first | (go_at_call 33; refine (isdigit_yes 51 (by omega) (by omega) _).mono ?_; rintro e w' ⟨rfl, rfl⟩))
  rw [rounds_succ]
  go_wp2_with (first | (go_at_call 33; refine (isdigit_yes 48 (by omega) (by omega) _).mono ?_; rintro e w' ⟨rfl, rfl⟩))
  rw [rounds_succ]
  go_wp2_with (first | (go_at_call 33; refine (isdigit_m _).mono ?_; rintro e w' ⟨rfl, rfl⟩) | (go_at_call 34; refine (K30.out _ (below_alloc hb hb.size _)).mono ?_; rintro e w' ⟨rfl, hb⟩))
  refine wp_loop_rounds 2 ?_
  rw [rounds_succ]
  go_wp2_with (first | (go_at_call 33; refine (isdigit_m _).mono ?_; rintro e w' ⟨rfl, rfl⟩))
  rw [rounds_succ]
  go_wp2_with (first | (go_at_call 35; refine (KM.out _ hb).mono ?_; rintro e w' ⟨rfl, hb⟩))
  rw [rounds_succ]
  go_wp2_with fail
  go_ret2
  first | exact ⟨rfl, hb⟩ | exact ⟨rfl, below_alloc hb hb.size _⟩

theorem parse_1h30m (w : World) : Calls Tryz.prog 23 #[.string ⟨#[49, 104, 51, 48, 109]⟩] w fun e w' => e = .returned (.tuple #[.int .i64 5400000000000, .nilIface]) ∧ Below w.heap.size w w' :=
  parse_two ⟨#[49, 104, 51, 48, 109]⟩ ⟨#[104, 51, 48, 109]⟩ ⟨#[51, 48, 109]⟩ ⟨#[109]⟩ ⟨#[49]⟩ ⟨#[51, 48]⟩ ⟨#[104]⟩ ⟨#[109]⟩ rfl rfl rfl rfl rfl rfl rfl rfl rfl rfl rfl rfl (by decide) (by decide) (by decide) (by decide) (by decide) (by decide) (by decide) (by decide +kernel) (by decide +kernel) (by decide +kernel) w
    (fun W hb => from_elder (puint_at ⟨#[49]⟩ 1 (by decide) (by decide)) W hb) (fun W hb => from_elder (puint_at ⟨#[51, 48]⟩ 30 (by decide) (by decide)) W hb) (fun W hb => from_elder unit_h W hb) (fun W hb => from_elder unit_m W hb)
end Go.Proofs.YtlnkieokhefkfaaGreatDoor
