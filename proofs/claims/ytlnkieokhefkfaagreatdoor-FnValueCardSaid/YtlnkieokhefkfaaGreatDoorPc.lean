/-
  internal/strconv.special at a number's text: it is none of the special ones.
-/
import Derived.Test.YtlnkieokhefkfaaGreatDoorPb
namespace Go.Proofs.YtlnkieokhefkfaaGreatDoor
open Go.RowKit Go.Lib

set_option maxRecDepth 100000 in
set_option maxHeartbeats 2000000 in
theorem special_pos (s : ByteArray) (hs : 0 < s.size) (hs2 : s.size ≤ 100) (h0 : 48 ≤ s[0].toNat) (h1 : s[0].toNat ≤ 57) (w : World) :
    Calls Tryz.prog 86 #[.string s] w fun e w' => e = .returned (.tuple #[.float .f64 0, .int .i64 0, .bool false]) ∧ w = w' := by
  obtain ⟨c, hc⟩ : ∃ c : UInt8, s[0] = c := ⟨_, rfl⟩
  rw [hc] at h0 h1
  have e1 : ((s.size : Int) == 0) = false := beq_eq_false_iff_ne.2 (by omega)
  have e2 : ((c.toNat : Int) == 43) = false := by simp; omega
  have e3 : ((c.toNat : Int) == 45) = false := by simp; omega
  have e4 : ((c.toNat : Int) == 105) = false := by simp; omega
  have e5 : ((c.toNat : Int) == 73) = false := by simp; omega
  have e6 : ((c.toNat : Int) == 110) = false := by simp; omega
  have e7 : ((c.toNat : Int) == 78) = false := by simp; omega
  go_enter Tryz.func86, Tryz.ntmps86
  go_wp2_with fail
  (try simp only [Exit.inBlock, Exit.then])
  exact bodyPost_ret (results_tmp3 rfl _ _ _) rfl ⟨rfl, rfl⟩

set_option maxRecDepth 100000 in
set_option maxHeartbeats 2000000 in
theorem common_none (s t : ByteArray) (hs : 0 < s.size) (hs2 : s.size ≤ 100) (ht : 0 < t.size) (ht2 : t.size ≤ 100) (h0 : 48 ≤ s[0].toNat) (h1 : s[0].toNat ≤ 57) (h2 : 97 ≤ t[0].toNat) (w : World) :
    Calls Tryz.prog 121 #[.string s, .string t] w fun e w' => e = .returned (.int .i64 0) ∧ w = w' := by
  obtain ⟨c, hc⟩ : ∃ c : UInt8, s[0] = c := ⟨_, rfl⟩
  obtain ⟨d, hd⟩ : ∃ d : UInt8, t[0] = d := ⟨_, rfl⟩
  rw [hc] at h0 h1
  rw [hd] at h2
  have e1 : ((c.toNat : Int) != (d.toNat : Int)) = true := by simp; omega
  go_enter Tryz.func121, Tryz.ntmps121
  go_wp2_with fail
  refine wp_loop_rounds 1 ?_
  rw [rounds_succ]
  go_wp2_with fail
  go_ret
  exact ⟨rfl, rfl⟩

set_option maxRecDepth 100000 in
set_option maxHeartbeats 2000000 in
theorem special_neg (s t : ByteArray) (hs : 1 < s.size) (hs2 : s.size ≤ 100) (hc : s[0].toNat = 45) (ht : s.extract 1 s.size = t) (ht0 : 0 < t.size) (ht2 : t.size ≤ 100) (h0 : 48 ≤ t[0].toNat) (h1 : t[0].toNat ≤ 57) (w : World) :
    Calls Tryz.prog 86 #[.string s] w fun e w' => e = .returned (.tuple #[.float .f64 0, .int .i64 0, .bool false]) ∧ w = w' := by
  have e1 : ((s.size : Int) == 0) = false := beq_eq_false_iff_ne.2 (by omega)
  have K := Lib.hid (common_none t ⟨#[105, 110, 102, 105, 110, 105, 116, 121]⟩ ht0 ht2 (by decide) (by decide) h0 h1 (by decide) w)
  clear ht0 ht2 h0 h1
  go_enter Tryz.func86, Tryz.ntmps86
  go_wp2_with (go_at_call 121; refine K.out.mono ?_; rintro e w' ⟨rfl, rfl⟩)
  (try simp only [Exit.inBlock, Exit.then])
  exact bodyPost_ret (results_tmp3 rfl _ _ _) rfl ⟨rfl, rfl⟩
end Go.Proofs.YtlnkieokhefkfaaGreatDoor
