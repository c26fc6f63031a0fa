/-
  internal/strconv.ftoa64 at 'f', precision -1, walked.
-/
import Derived.Test.YtlnkieokhefkfaaGreatDoorEd
import Derived.Deep.RegionWith
import Derived.Lib.SmallJoins
namespace Go.Proofs.YtlnkieokhefkfaaGreatDoor
open Go.RowKit Go.Lib

theorem float64bits_run (b : Nat) (w : World) : (callFunc 70 #[.float .f64 b]).run Tryz.prog w = .ok (.value (.int .u64 b)) w :=
  run_callFunc_extern (e := Extern.MathFloatBits.float64bits) Tryz.func70 (by kernel_rfl) (by kernel_rfl) (by kernel_rfl) (by kernel_rfl) _ w
theorem float64frombits_run (b : Nat) (w : World) : (callFunc 96 #[.int .u64 (b : Int)]).run Tryz.prog w = .ok (.value (.float .f64 b)) w :=
  run_callFunc_extern (e := Extern.MathFloatBits.float64frombits) Tryz.func96 (by kernel_rfl) (by kernel_rfl) (by kernel_rfl) (by kernel_rfl) _ w
theorem Float64bits_run (b : Nat) (w : World) : (callFunc 17 #[.float .f64 b]).run Tryz.prog w = .ok (.value (.int .u64 b)) w :=
  run_callFunc_extern (e := Extern.MathFloatBits.float64bits) Tryz.func17 (by kernel_rfl) (by kernel_rfl) (by kernel_rfl) (by kernel_rfl) _ w
theorem Float64frombits_run (b : Nat) (w : World) : (callFunc 15 #[.int .u64 (b : Int)]).run Tryz.prog w = .ok (.value (.float .f64 b)) w :=
  run_callFunc_extern (e := Extern.MathFloatBits.float64frombits) Tryz.func15 (by kernel_rfl) (by kernel_rfl) (by kernel_rfl) (by kernel_rfl) _ w

theorem below_alloc {B : Nat} {a w : World} (h : Below B a w) (hB : B ≤ w.heap.size) (o : Obj) : Below B a (w.alloc o) :=
  ⟨h.os, h.tape, h.output, Nat.le_trans h.size (by simp), fun i hi => (Below.heap_alloc w o i (Nat.lt_of_lt_of_le hi hB)).trans (h.block i hi)⟩
theorem Tab.below {w w' : World} (h : Tab w) (hb : Below w.heap.size w w') : Tab w' := by
  intro P h1 h2
  obtain ⟨h3, h4⟩ := h P h1 h2
  have lt : ∀ {a : Addr} {v : Value}, w.cell? a = some v → a.block < w.heap.size := fun {a v} hc => by
    rcases Nat.lt_or_ge a.block w.heap.size with h' | h'
    · exact h'
    · simp [World.cell?, Array.getElem?_eq_none h'] at hc
  exact ⟨(hb.cell (lt h3)).trans h3, (hb.cell (lt h4)).trans h4⟩

theorem part_lt (d d' k : Nat) (h : d = d' * 10 ^ k) (h1 : d < 18446744073709551616) : d' < 18446744073709551616 := by
  have hp : 0 < 10 ^ k := Nat.pow_pos (by decide)
  have := Nat.le_mul_of_pos_right d' hp
  omega

set_option maxRecDepth 100000 in
set_option maxHeartbeats 2000000 in
theorem ftoa_some (neg : Bool) (a g cap : Nat) (w : World) (B M L : Nat) (hb : Buf w g 0 cap []) (hcap : 24 ≤ cap) (hcm : cap ≤ 1000)
    (ha : 0 < a) (ha2 : a < 562949953421312) (hL : a.log2 = L) (hM : a * 2 ^ (52 - L) = M) (hL49 : L < 49) (hM0 : 4503599627370496 ≤ M) (hM1 : M < 9007199254740992)
    (X : Int) (hX : (B : Int) / 4503599627370496 = X) (hX0 : 0 ≤ X) (hX1 : X ≤ 4095) (hN : ((B : Int) / 9223372036854775808 != 0) = neg) (E F : Int) (hE2 : (E == 2047) = false) (hE3 : (E == 0) = false) (hM3 : ((M : Int) == 0) = false) (hA1 : bits .and .i64 X 2047 = E) (hA2 : bits .and .u64 (B : Int) 4503599627370495 = F) (hA3 : bits .or .u64 F 4503599627370496 = (M : Int))
    (hE4 : wrap64 (E + -1023) = (L : Int) - 3)
    (hT : Tab w) (h19 : 19 < w.heap.size) (htab : Lib.TabIs Tryz.prog w "internal/strconv.uint64pow10" .u64 Lib.pow10Tab) :
    Calls Tryz.prog 58 #[.slice (some ⟨g, 0, none⟩) 0 cap, .float .f64 B, .int .u8 102, .int .i64 (-1)] w fun e w' =>
      ∃ m, e = .returned (.slice (some ⟨g, 0, none⟩) m cap) ∧ Buf w' g m cap (sgn neg ++ (digs (a / 8) ++ fracText (a % 8))) ∧ w.grownBy w' (some g) := by
  have HB := Lib.hid hb
  have HT := Lib.hid hT
  have HD := Lib.hid htab
  have HL := Lib.hid hL
  have HM := Lib.hid hM
  have hbits := float64bits_run B
  clear hb hT htab hL hM
  have hlen : Lib.bitLen M = 53 := by
    rw [Lib.bitLen_shift 52 M (by omega) (by omega), show M / 2 ^ 52 = 1 by omega]
    rfl
  have c80 : ∀ W, Tab W → 19 < W.heap.size → Calls Tryz.prog 80 #[.int .u64 ((M : Int) * 2048), .int .i64 ((L : Int) - 3 - 11 - 52)] W fun e' w' =>
      ∃ d q : Nat, e' = .returned (.tuple #[.int .u64 d, .int .i64 (-(q : Int))]) ∧ 8 * d = a * 10 ^ q ∧ 2 ≤ q ∧ q ≤ 17 ∧ d < 18446744073709551616 ∧ Below W.heap.size W w' := by
    intro W hW1 hW2
    have h := short_any a ha ha2 W hW1 hW2
    rw [HL.out, show a * 2 ^ (63 - L) = M * 2048 by rw [← HM.out, Nat.mul_assoc, show 63 - L = 52 - L + 11 by omega, Nat.pow_add], show (L : Int) - 66 = (L : Int) - 3 - 11 - 52 by omega] at h
    simpa using h
  have K80 := Lib.hid c80
  clear c80
  have hlen2 : Lib.bitLen ((M : Nat) : Int).toNat = 53 := hlen
  go_enter Tryz.func58, Tryz.ntmps58
  go_wp2_with fail
  go_quiet (fail)
  go_wp2_with (go_at_call 47; refine (Tryz.bits_Len64 M _ (by omega) (by omega)).mono ?_; rintro e w' ⟨rfl, rfl⟩; rw [hlen2])
  generalize hW1 : World.alloc (w.drewN nq) _ = W1
  have hbk : Blk W1 w.heap.size 114 (Array.replicate 32 (.int .u8 0)) := by
    rw [← hW1]
    exact Blk.new (w.drewN nq) _ _
  have hlow : Below w.heap.size w W1 := by
    rw [← hW1]
    exact below_alloc (below_drewN (Below.refl _ _) nq) (Nat.le_refl _) _
  have hsz : w.heap.size < W1.heap.size := hbk.lt
  have HBK := Lib.hid hbk
  have HLOW := Lib.hid hlow
  clear hW1 hbk hlow
  go_wp2_with (go_at_call 80; refine (K80.out W1 (Tab.below HT.out HLOW.out) (by omega)).mono ?_)
  rintro e w2 ⟨d, q, rfl, h8, hq1, hq2, hd1, hb2⟩
  go_wp2_with fail
  have hd0 : 0 < d := by
    rcases Nat.eq_zero_or_pos d with rfl | h
    · have := Nat.mul_pos ha (Nat.pow_pos (n := q) (show 0 < 10 by decide))
      omega
    · exact h
  have hblow : Below w.heap.size w w2.drew := (HLOW.out.trans (hb2.mono (by omega))).trans (below_drewN (Below.refl _ _) 1)
  have htab := Go.Joins.tab_stays (P := Tryz.prog) (g := 1) (by kernel_rfl) HD.out hblow (Nat.le_refl _)
  have hbk2 : Blk w2.drew w.heap.size 114 (Array.replicate 32 (.int .u8 0)) := (HBK.out.below hb2 hsz).drew
  have c38 := Tryz.internal_strconv_numDigits d hd0 hd1 w2.drew htab
  have c75 := setDigits_any w.heap.size d (nDigits d) (-(q : Int)) rfl hd0 hd1 (by omega) (by omega) w2.drew hbk2
  have hnd1 := nDigits_le20 d hd1
  have hsz2 : w.heap.size < w2.drew.heap.size := Nat.lt_of_lt_of_le hsz hb2.size
  have hgl := (World.ownsRow.lt HB.out g rfl).2
  have K38 := Lib.hid c38
  have K75 := Lib.hid c75
  have H8 := Lib.hid h8
  have HLW := Lib.hid hblow
  clear c38 c75 htab hbk2 hb2 h8 hblow
  go_region_with (first | (go_at_call 38; refine K38.out.mono ?_; rintro e w' ⟨rfl, rfl⟩) | (go_at_call 75; refine K75.out.mono ?_; rintro e w3 ⟨k, d', rfl, hdk, hdz, hcells, hgrow⟩; have hnd2 := nDigits_le20 d' (part_lt d d' k hdk hd1); have HDK := Lib.hid hdk; have HDZ := Lib.hid hdz; clear hdk hdz))
  all_goals
    go_wp2_with fail
    have G3 : w.grownBy w3 none := World.grownBy.andThen ⟨HLW.out.os, HLW.out.tape, HLW.out.output, HLW.out.size, fun i hi _ => HLW.out.block i hi⟩ hgrow (fun j hj => .inl (by injection hj with hj; omega))
    refine (efg_text neg g cap w.heap.size a d' k q ha ha2 (by rw [← HDK.out]; exact H8.out) HDZ.out w3 hcap hcm (World.ownsRow.kept HB.out G3 (.inr (by simp [Value.ownBlock]))) (by omega) (Nat.lt_of_lt_of_le hsz2 hgrow.size) hcells _ _ (by rw [← HDK.out]; omega) (by omega)).mono ?_
    rintro e w4 ⟨m, rfl, hm, hg4⟩
    go_wp2_with fail
    go_ret
    exact ⟨_, rfl, hm, (G3.but (some g)).trans hg4⟩
end Go.Proofs.YtlnkieokhefkfaaGreatDoor
