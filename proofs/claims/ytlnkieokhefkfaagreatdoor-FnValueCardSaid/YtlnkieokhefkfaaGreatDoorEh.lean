/-
  ftoa64 at zero and at the float that is no number; ValueText of a number of eighths.
-/
import Derived.Test.YtlnkieokhefkfaaGreatDoorEg
namespace Go.Proofs.YtlnkieokhefkfaaGreatDoor
open Go.RowKit Go.Lib

theorem take_three (cur : Array Value) (x y z : Value) (h : 3 ≤ cur.size) : (((cur.setIfInBounds 0 x).setIfInBounds 1 y).setIfInBounds 2 z).toList.take (3 * 1) = [x, y, z] := by
  rcases cur with ⟨l⟩
  match l, h with
  | a :: b :: c :: t, _ => simp

set_option maxRecDepth 100000 in
set_option maxHeartbeats 2000000 in
theorem ftoa_zero (g cap : Nat) (w : World) (hb : Buf w g 0 cap []) (hcap : 24 ≤ cap) (hcm : cap ≤ 1000) :
    Calls Tryz.prog 58 #[.slice (some ⟨g, 0, none⟩) 0 cap, .float .f64 0, .int .u8 102, .int .i64 (-1)] w fun e w' =>
      ∃ m, e = .returned (.slice (some ⟨g, 0, none⟩) m cap) ∧ Buf w' g m cap [48] ∧ w.grownBy w' (some g) := by
  have hbits := float64bits_run 0
  have b1 := i64_mask11 0 (by decide)
  have b2 := u64_mask52 0 (by decide)
  simp at b1 b2
  have HB := Lib.hid hb
  clear hb
  go_enter Tryz.func58, Tryz.ntmps58
  go_wp2_with fail
  go_quiet (fail)
  go_wp2_with fail
  go_at_call 73
  refine (efg_zero g 0 cap [] (w.drewN _) (by omega) hcm HB.out).mono ?_
  rintro e w2 ⟨m, rfl, h1, h2⟩
  go_wp2_with fail
  go_ret
  exact ⟨_, rfl, h1, (only_drewN (World.grownBy.refl _ _) _).trans h2⟩

set_option maxRecDepth 100000 in
set_option maxHeartbeats 2000000 in
theorem ftoa_nan (g cap : Nat) (w : World) (hb : Buf w g 0 cap []) (hcap : 24 ≤ cap) (hcm : cap ≤ 1000) :
    Calls Tryz.prog 58 #[.slice (some ⟨g, 0, none⟩) 0 cap, .float .f64 9221120237041090561, .int .u8 102, .int .i64 (-1)] w fun e w' =>
      ∃ m, e = .returned (.slice (some ⟨g, 0, none⟩) m cap) ∧ Buf w' g m cap [78, 97, 78] ∧ w.grownBy w' (some g) := by
  have hbits := float64bits_run 9221120237041090561
  have b1 := i64_mask11 2047 (by decide)
  have b2 := u64_mask52 9221120237041090561 (by decide)
  simp at b1 b2
  obtain ⟨cur, hblk, hcs, hmx⟩ : ∃ cur : Array Value, Blk w g 5 cur ∧ cur.size = cap ∧ cap ≤ maxLen := by
    rcases hb.2 with ⟨h', _⟩ | ⟨g', cap', cur, h', _, hg, _, hcm, hcs, _⟩
    · simp at h'
    · simp only [Value.slice.injEq, Option.some.injEq, Addr.mk.injEq, and_true, true_and] at h'
      obtain ⟨rfl, rfl⟩ := h'
      exact ⟨cur, hg, by omega, hcm⟩
  have hf0 := hblk.frozen 0
  have hf1 := hblk.frozen 1
  have hf2 := hblk.frozen 2
  have hc0 : w.cell? ⟨g, 0, none⟩ = some cur[0] := by rw [hblk.cell]; simp
  have hc1 : w.cell? ⟨g, 1, none⟩ = some cur[1] := by rw [hblk.cell]; simp
  have hc2 : w.cell? ⟨g, 2, none⟩ = some cur[2] := by rw [hblk.cell]; simp
  have HB := Lib.hid hblk
  have HS := Lib.hid hcs
  have HM := Lib.hid hmx
  generalize cur[0] = v0 at *
  generalize cur[1] = v1 at *
  generalize cur[2] = v2 at *
  clear hb hblk hcs hmx
  go_enter Tryz.func58, Tryz.ntmps58
  go_wp2_with fail
  go_quiet (fail)
  go_wp2_with fail
  go_ret
  refine ⟨_, rfl, ?_, only_cell (only_cell (only_cell (only_drewN (World.grownBy.refl _ _) _) _ _) _ _) _ _⟩
  refine ⟨rfl, .inr ⟨g, cap, _, rfl, Nat.le_refl _, ((((HB.out.drewN _).set_ 0 _).set_ 1 _).set_ 2 _), by omega, HM.out, by simpa using HS.out, take_three cur _ _ _ (by rw [HS.out]; omega)⟩⟩

/-- What the text of a number leans on, in the world. -/
structure Env (w : World) : Prop where
  tab : Tab w
  size : 19 < w.heap.size
  p10 : Lib.TabIs Tryz.prog w "internal/strconv.uint64pow10" .u64 Lib.pow10Tab
theorem Env.below {w w' : World} (h : Env w) (hb : Below w.heap.size w w') : Env w' :=
  ⟨h.tab.below hb, Nat.lt_of_lt_of_le h.size hb.size, Go.Joins.tab_stays (P := Tryz.prog) (g := 1) (by kernel_rfl) h.p10 hb (Nat.le_refl _)⟩

def numBits (neg : Bool) (a : Nat) : Nat := if a = 0 then 0 else fbits neg a
def numText (neg : Bool) (a : Nat) : List Int := sgn neg ++ (digs (a / 8) ++ fracText (a % 8))
def nanBits : Nat := 9221120237041090561

theorem string_num (neg : Bool) (a : Nat) (ha : a < 562949953421312) (h0 : a = 0 → neg = false) (w : World) (hE : Env w) :
    Calls Tryz.prog 19 #[.float .f64 (numBits neg a)] w fun e w' => e = .returned (.string (strOfNums (numText neg a))) ∧ Below w.heap.size w w' := by
  refine sampleString_any _ _ w (formatFloat_any _ _ w (format_any _ _ w ?_))
  intro g W hW hb
  by_cases h : a = 0
  · have e : numText false 0 = [48] := by
      show ([] : List Int) ++ (digs 0 ++ []) = [48]
      rw [digs_small 0 (by decide)]
      rfl
    rw [h0 h, h, e, show numBits false 0 = 0 from rfl]
    exact ftoa_zero g 24 W hb (by decide) (by decide)
  · rw [show numBits neg a = fbits neg a from if_neg h]
    have hE' := hE.below hW
    exact ftoa_any neg a g 24 W hb (by decide) (by decide) (by omega) ha hE'.tab hE'.size hE'.p10
theorem valueText_num (neg : Bool) (a : Nat) (ha : a < 562949953421312) (h0 : a = 0 → neg = false) (w : World) (hE : Env w) :
    Calls Tryz.prog 10 #[.int .u64 (numBits neg a)] w fun e w' => e = .returned (.string (strOfNums (numText neg a))) ∧ Below w.heap.size w w' :=
  valueText_any _ _ w (string_num neg a ha h0 w hE)
theorem valueText_nan (w : World) :
    Calls Tryz.prog 10 #[.int .u64 (9221120237041090561 : Nat)] w fun e w' => e = .returned (.string (strOfNums [78, 97, 78])) ∧ Below w.heap.size w w' :=
  valueText_any _ _ w (sampleString_any _ _ w (formatFloat_any _ _ w (format_any _ _ w fun g W _ hb => ftoa_nan g 24 W hb (by decide) (by decide))))
end Go.Proofs.YtlnkieokhefkfaaGreatDoor
