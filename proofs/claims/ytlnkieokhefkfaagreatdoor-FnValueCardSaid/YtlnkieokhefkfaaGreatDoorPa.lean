/-
  internal/strconv.readFloat at a decimal numeral, walked.
-/
import Derived.Test.YtlnkieokhefkfaaGreatDoorEl
import Derived.WalkMore
import Derived.Deep.LoopGhost
namespace Go.Proofs.YtlnkieokhefkfaaGreatDoor
open Go.RowKit Go.Lib

/-- Where readFloat stands ahead of the byte at i. -/
structure Read where
  m : Nat
  nd : Nat
  dp : Int
  dot : Bool
  saw : Bool
/-- One byte more. -/
inductive Step (c : Nat) (a b : Read) : Prop
  | dot (h : c = 46) (h1 : a.dot = false) (e : b = { a with dot := true, dp := a.nd })
  | zero (h : c = 48) (h1 : a.nd = 0) (e : b = { a with dp := a.dp - 1, saw := true })
  | digit (h0 : 48 ≤ c) (h1 : c ≤ 57) (h2 : c = 48 → 0 < a.nd) (e : b = { a with m := a.m * 10 + (c - 48), nd := a.nd + 1, saw := true })

theorem results_tmp7 {fn : Func} {t1 t2 t3 t4 t5 t6 t7 : Tmp} (h : fn.results = #[.tmp t1, .tmp t2, .tmp t3, .tmp t4, .tmp t5, .tmp t6, .tmp t7]) (tmps : Array Value) (P : Program) (w : World) :
    (results fn tmps).run P w = .ok (.tuple #[tmps.getD t1 undef, tmps.getD t2 undef, tmps.getD t3 undef, tmps.getD t4 undef, tmps.getD t5 undef, tmps.getD t6 undef, tmps.getD t7 undef]) w := by simp [results, h]
theorem lower_at (c : Int) (w : World) : Calls Tryz.prog 59 #[.int .u8 c] w fun e w' => e = .returned (.int .u8 (bits .or .u8 c 32)) ∧ w = w' := by
  refine (Tryz.internal_strconv_lower c w).mono ?_
  rintro e w' ⟨h1, h2⟩
  exact ⟨h1, h2.symm⟩

set_option maxRecDepth 100000 in
set_option maxHeartbeats 4000000 in
theorem readFloat_pos (s : ByteArray) (n : Nat) (hs : s.size = n) (hn0 : 0 < n) (hn : n ≤ 100) (R : Nat → Read) (hR0 : R 0 = ⟨0, 0, 0, false, false⟩)
    (hb : ∀ i, i ≤ n → (R i).m < 1000000000000000000 ∧ (R i).nd ≤ 18 ∧ -100 ≤ (R i).dp ∧ (R i).dp ≤ 100)
    (hstep : ∀ i (h : i < s.size), Step (s[i]'h).toNat (R i) (R (i + 1)))
    (hsaw : (R n).saw = true) (c0 : UInt8) (hc0 : s[0] = c0) (hc : c0.toNat ≠ 43 ∧ c0.toNat ≠ 45) (hz : c0.toNat = 48 → ∀ h : 2 < s.size, (s[1]'(by omega)).toNat = 46)
    (w : World) :
    Calls Tryz.prog 87 #[.string s] w fun e w' => e = .returned (.tuple #[.int .u64 (R n).m, .int .i64 (if (R n).m = 0 then 0 else (if (R n).dot then (R n).dp else (R n).nd) - (R n).nd), .bool false, .bool false, .bool false, .int .i64 n, .bool true]) ∧ w = w' := by
  have HR0 := Lib.hid hR0
  have HB := Lib.hid hb
  have HS := Lib.hid hstep
  have HZ := Lib.hid hz
  have HW := Lib.hid hsaw
  clear hR0 hb hstep hz hsaw
  obtain ⟨hc1, hc2⟩ := hc
  have e1 : ((c0.toNat : Int) == 43) = false := by simp; omega
  have e2 : ((c0.toNat : Int) == 45) = false := by simp; omega
  have hbit : bits .or .u8 ((46 : Nat) : Int) 32 = 46 := by decide
  have hne : ¬ n = 0 := by omega
  go_enter Tryz.func87, Tryz.ntmps87
  go_wp2_with fail
  go_step3
  go_wp2_with (go_at_call 59; refine (lower_at _ _).mono ?_; rintro e w' ⟨rfl, rfl⟩; have hs1 := HZ.out (by omega) (by omega); rw [hs1])
  all_goals (go_step3; go_wp2_with fail)
  all_goals
    go_loopg [2, 5, 7, 9, 13, 14, 15, 16, 17] n (fun g s2 s5 s7 s9 s13 s14 s15 s16 s17 wx => w = wx ∧ ∃ i : Nat, i + g = n ∧ s7 = .int .i64 i ∧ s2 = .int .u64 ((R i).m : Int) ∧ s5 = .bool false ∧ s9 = .bool false ∧ s13 = .bool (R i).dot ∧ s14 = .bool (R i).saw ∧ s15 = .int .i64 ((R i).nd : Int) ∧ s16 = .int .i64 ((R i).nd : Int) ∧ s17 = .int .i64 (R i).dp)
    case atStart => exact ⟨rfl, 0, by omega, rfl, by rw [HR0.out]; rfl, rfl, rfl, by rw [HR0.out], by rw [HR0.out], by rw [HR0.out]; rfl, by rw [HR0.out]; rfl, by rw [HR0.out]⟩
    case round =>
      obtain ⟨rfl, i, hig, rfl, rfl, rfl, rfl, rfl, rfl, rfl, rfl, rfl⟩ := hrel
      cases gk with
      | zero =>
        obtain rfl : i = n := by omega
        have hw := HW.out
        obtain ⟨b1, b2, b3, b4⟩ := HB.out i (by omega)
        clear HR0 HB HS HZ HW
        generalize hr : R i = r at *
        obtain ⟨m, nd, dp, dot, saw⟩ := r
        simp only at *
        subst hw
        have HRI := Lib.hid hr
        clear hr
        by_cases hm : m = 0
        · subst hm
          cases dot
          · go_wp2_with fail
            rw [Exit.noGoto_ret]
            (try simp only [Exit.inBlock, Exit.then])
            refine bodyPost_ret (results_tmp7 rfl _ _ _) rfl ⟨?_, rfl⟩
            have hexp : (if (R i).m = 0 then (0 : Int) else (if (R i).dot then (R i).dp else (R i).nd) - (R i).nd) = 0 := by rw [HRI.out]; simp
            rw [hexp, HRI.out]
            rfl
          · go_wp2_with fail
            rw [Exit.noGoto_ret]
            (try simp only [Exit.inBlock, Exit.then])
            refine bodyPost_ret (results_tmp7 rfl _ _ _) rfl ⟨?_, rfl⟩
            have hexp : (if (R i).m = 0 then (0 : Int) else (if (R i).dot then (R i).dp else (R i).nd) - (R i).nd) = 0 := by rw [HRI.out]; simp
            rw [hexp, HRI.out]
            rfl
        · have hm1 : ((m : Int) != 0) = true := by simp; omega
          have hsub : (nd : Int) - (nd : Int) = 0 := by omega
          cases dot
          · go_wp2_with fail
            rw [Exit.noGoto_ret]
            (try simp only [Exit.inBlock, Exit.then])
            refine bodyPost_ret (results_tmp7 rfl _ _ _) rfl ⟨?_, rfl⟩
            have hexp : (if (R i).m = 0 then (0 : Int) else (if (R i).dot then (R i).dp else (R i).nd) - (R i).nd) = 0 := by rw [HRI.out]; simp [hm]
            rw [hexp, HRI.out]
            rfl
          · go_wp2_with fail
            rw [Exit.noGoto_ret]
            (try simp only [Exit.inBlock, Exit.then])
            refine bodyPost_ret (results_tmp7 rfl _ _ _) rfl ⟨?_, rfl⟩
            have hexp : (if (R i).m = 0 then (0 : Int) else (if (R i).dot then (R i).dp else (R i).nd) - (R i).nd) = dp - nd := by rw [HRI.out]; simp [hm]
            rw [hexp, HRI.out]
            rfl
      | succ g =>
        obtain ⟨x, hx⟩ : ∃ x : UInt8, s[i]'(by omega) = x := ⟨_, rfl⟩
        have hst := HS.out i (by omega)
        rw [hx] at hst
        obtain ⟨b1, b2, b3, b4⟩ := HB.out i (by omega)
        clear HR0 HB HS HZ HW
        generalize hr : R i = r at *
        obtain ⟨m, nd, dp, dot, saw⟩ := r
        simp only at *
        rcases hst with ⟨hx1, h1, e⟩ | ⟨hx1, h1, e⟩ | ⟨hx1, hx2, hx3, e⟩
        · simp only at h1
          subst h1
          have HE := Lib.hid e
          clear e hr
          go_wp2_with fail
          go_roundg g
          case measure => omega
          case rel => exact ⟨rfl, i + 1, by omega, by first | rfl | simp, by rw [HE.out], rfl, rfl, by rw [HE.out], by rw [HE.out], by rw [HE.out], by rw [HE.out], by rw [HE.out]⟩
        · simp only at h1
          subst h1
          have HE := Lib.hid e
          clear e hr
          go_wp2_with fail
          go_roundg g
          case measure => omega
          case rel => exact ⟨rfl, i + 1, by omega, by first | rfl | simp, by rw [HE.out], rfl, rfl, by rw [HE.out], by rw [HE.out], by rw [HE.out]; rfl, by rw [HE.out]; rfl, by rw [HE.out]⟩
        · simp only at hx3
          have HE := Lib.hid e
          clear e hr
          by_cases h48 : x.toNat = 48
          · have h0 := hx3 h48
            have h0' : ((nd : Int) == 0) = false := by simp; omega
            go_wp2_with fail
            go_roundg g
            case measure => omega
            case rel => exact ⟨rfl, i + 1, by omega, by first | rfl | simp, by rw [HE.out]; simp; omega, rfl, rfl, by rw [HE.out], by rw [HE.out], by rw [HE.out]; simp, by rw [HE.out]; simp, by rw [HE.out]⟩
          · have h95 : ((x.toNat : Int) == 95) = false := by simp; omega
            have h46 : ((x.toNat : Int) == 46) = false := by simp; omega
            go_wp2_with fail
            go_roundg g
            case measure => omega
            case rel => exact ⟨rfl, i + 1, by omega, by first | rfl | simp, by rw [HE.out]; simp; omega, rfl, rfl, by rw [HE.out], by rw [HE.out], by rw [HE.out]; simp, by rw [HE.out]; simp, by rw [HE.out]⟩
end Go.Proofs.YtlnkieokhefkfaaGreatDoor
