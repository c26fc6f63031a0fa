/-
  internal/strconv.ftoa64 at 'f', precision -1, walked.
-/
import Derived.Test.YtlnkieokhefkfaaGreatDoorEa
import Derived.Test.YtlnkieokhefkfaaGreatDoorEb
import Derived.Test.YtlnkieokhefkfaaGreatDoorEc
import Derived.Test.YtlnkieokhefkfaaGreatDoorUf
namespace Go.Proofs.YtlnkieokhefkfaaGreatDoor
open Go.RowKit Go.Lib

set_option maxRecDepth 100000 in
set_option maxHeartbeats 2000000 in
theorem efg_zero (g n cap : Nat) (xs : List Int) (w : World) (hcap : n + 4 ≤ cap) (_hcm : cap ≤ 1000) (hb : Buf w g n cap xs) :
    Calls Tryz.prog 73 #[.slice (some ⟨g, 0, none⟩) n cap, .bool false, .slice none 0 0, .int .i64 0, .int .i64 0, .int .i64 (-1), .int .u8 102, .bool true] w fun e w' =>
      ∃ m, e = .returned (.slice (some ⟨g, 0, none⟩) m cap) ∧ Buf w' g m cap (xs ++ [48]) ∧ w.grownBy w' (some g) := by
  obtain ⟨i0, hi, hz0, hz1, hz2⟩ := info_parts Tryz.info5
  have HB := Lib.hid hb
  clear hb
  go_enter Tryz.func73, Tryz.ntmps73
  go_wp2_with (at_builtin; refine wpList_append_fits _ rfl (.tmp 209) (.tmp 210) 40 rfl g 5 i0 1 Tryz.underlying40 hi hz1 g (n) cap _ rfl (World.ownsRow.alloc HB.out _) ⟨w.heap.size, 0, none⟩ 1 1 [.int .u8 48] rfl rfl (one_at _ _ _) (one_one _ _) (by omega) ?_; intro w1 hown1 hgrow1)
  go_ret
  exact ⟨_, rfl, Buf.step hown1 (by simp), (only_alloc (World.grownBy.refl _ _) _).trans hgrow1⟩

theorem nDigits_le : ∀ (k u : Nat), u < 10 ^ (k + 1) → nDigits u ≤ k + 1
  | 0, u, h => by rw [nDigits_small (by omega)]; omega
  | k + 1, u, h => by
    by_cases hs : u < 10
    · rw [nDigits_small hs]; omega
    · have := nDigits_le k (u / 10) (by rw [Nat.pow_succ] at h; omega)
      rw [nDigits_big hs]; omega

/-- The sign told. -/
def sgn (neg : Bool) : List Int := if neg then [45] else []

theorem efg_text (neg : Bool) (g cap bs : Nat) (a d' k q : Nat) (ha : 0 < a) (ha2 : a < 562949953421312) (h8 : 8 * (d' * 10 ^ k) = a * 10 ^ q) (hz : ¬ d' % 10 = 0) (w : World) (hcap : 24 ≤ cap) (hcm : cap ≤ 1000)
    (hb : Buf w g 0 cap []) (hne : ¬ bs = g) (hlt : bs < w.heap.size) (hd : ∀ j, j < nDigits d' → w.cell? ⟨bs, j, none⟩ = some (.int .u8 ((digs d').getD j 0))) (dp pr : Int) (hdp : dp = (nDigits (d' * 10 ^ k) : Int) - q) (hpr : pr = max ((nDigits d' : Int) - dp) 0) :
    Calls Tryz.prog 73 #[.slice (some ⟨g, 0, none⟩) 0 cap, .bool neg, .slice (some ⟨bs, 0, none⟩) 32 32, .int .i64 dp, .int .i64 (nDigits d' : Nat), .int .i64 pr, .int .u8 102, .bool true] w fun e w' =>
      ∃ m, e = .returned (.slice (some ⟨g, 0, none⟩) m cap) ∧ Buf w' g m cap (sgn neg ++ (digs (a / 8) ++ fracText (a % 8))) ∧ w.grownBy w' (some g) := by
  have hI14 : nDigits (a / 8) ≤ 14 := nDigits_le 13 _ (by omega)
  have hd0 : 0 < d' := by omega
  by_cases hf : a % 8 = 0
  · obtain ⟨t1, t2, t3, t4, t5⟩ := text_whole a d' k q ha h8 hz hf
    have hD := nDigits_pos (a / 8)
    have hn := nDigits_pos d'
    have e1 : dp = ((nDigits (a / 8) : Nat) : Int) := by omega
    have e2 : pr = 0 := by omega
    subst e1 e2
    rw [hf, show fracText 0 = [] from rfl, List.append_nil, ← t4]
    cases neg
    · exact efg_whole_pos g 0 cap bs 32 [] (digs d') (nDigits d') (nDigits (a / 8)) (digs_length _) (by omega) t3 (by omega) (by omega) (by omega) w (by omega) hcm hb hne hlt hd
    · exact efg_whole_neg g 0 cap bs 32 [] (digs d') (nDigits d') (nDigits (a / 8)) (digs_length _) (by omega) t3 (by omega) (by omega) (by omega) w (by omega) hcm hb hne hlt hd
  · obtain ⟨r, hr, hq, hdd⟩ := text_frac a d' k q h8 hz hf
    have hT := frac_table ⟨a % 8, by omega⟩ hf
    simp only at hT
    rw [← hr] at hT
    obtain ⟨r1, r3, _, rn, _⟩ := hT
    have hnk := nDigits_pow k d' hd0
    rw [show fracText (a % 8) = 46 :: digs (fracV (a % 8)) from if_neg hf]
    by_cases hI : a / 8 = 0
    · rw [hI, Nat.zero_mul, Nat.zero_add] at hdd
      have e1 : dp = ((0 : Nat) : Int) := by rw [hdp, hnk, hdd, rn]; omega
      have e2 : pr = ((nDigits d' : Nat) : Int) := by omega
      subst e1 e2
      rw [hI, show digs 0 = [48] from digs_small 0 (by decide), ← hdd]
      have hn : nDigits d' = r := by rw [hdd]; exact rn
      cases neg
      · exact efg_part_pos g 0 cap bs 32 [] (digs d') (nDigits d') 0 (digs_length _) rfl (by omega) (by omega) (by omega) (by omega) w (by omega) hcm hb hne hlt hd
      · exact efg_part_neg g 0 cap bs 32 [] (digs d') (nDigits d') 0 (digs_length _) rfl (by omega) (by omega) (by omega) (by omega) w (by omega) hcm hb hne hlt hd
    · obtain ⟨j1, j2⟩ := digs_join (a / 8) (fracV (a % 8)) r (by omega) rn
      rw [← hdd] at j1 j2
      have hl := digs_length (a / 8)
      have hp := nDigits_pos (a / 8)
      have e1 : dp = ((nDigits (a / 8) : Nat) : Int) := by omega
      have e2 : pr = (nDigits d' : Int) - ((nDigits (a / 8) : Nat) : Int) := by omega
      subst e1 e2
      have ht : (digs d').take (nDigits (a / 8)) ++ (46 :: (digs d').drop (nDigits (a / 8))) = digs (a / 8) ++ (46 :: digs (fracV (a % 8))) := by
        rw [j1, ← hl, List.take_left, List.drop_left]
      rw [← ht]
      cases neg
      · exact efg_frac_pos g 0 cap bs 32 [] (digs d') (nDigits d') (nDigits (a / 8)) (digs_length _) (by omega) (by omega) (by omega) (by omega) (by omega) w (by omega) hcm hb hne hlt hd
      · exact efg_frac_neg g 0 cap bs 32 [] (digs d') (nDigits d') (nDigits (a / 8)) (digs_length _) (by omega) (by omega) (by omega) (by omega) (by omega) w (by omega) hcm hb hne hlt hd
end Go.Proofs.YtlnkieokhefkfaaGreatDoor
