/-
  internal/strconv.shortFloat at float64, walked: what it answers out of the products of its three mantissas.
-/
import Derived.Test.YtlnkieokhefkfaaGreatDoorUd
namespace Go.Proofs.YtlnkieokhefkfaaGreatDoor
open Go.RowKit

theorem bits_and_i64_one (a : Nat) (h : a < 9223372036854775808) : bits BinOp.and IntKind.i64 (a : Int) 1 = ((a % 2 : Nat) : Int) := by
  have := (bits_nat .i64 63 (by decide) (fun n h0 h1 => IntWalk.i64_in n (by omega)) a 1 h (by decide)).1
  rw [Nat.and_one_is_mod] at this
  exact this
theorem nudge_any (u d : Int) (h0 : 0 ≤ u + d) (hu : 0 ≤ u) (h1 : u ≤ 9223372036854775807) (hd0 : -1 ≤ d) (hd1 : d ≤ 1) (w : World) :
    Calls Tryz.prog 106 #[.int .u64 u, .int .i64 d] w fun e w' => e = .returned (.int .u64 (u + d)) ∧ w = w' := by
  by_cases h : d = -1
  · subst h
    exact nudge_down u (by omega) h1 w
  · exact nudge_up u d hu h1 (by omega) hd1 w

set_option maxHeartbeats 1000000 in
theorem short_odd_1 (X : Nat) (e P lp : Int) (s hi o c f : Nat) (h0 : 9223372036854775808 < X) (h1 : X ≤ 18446744073709549568) (_h8 : X % 2048 = 0) (he0 : -66 ≤ e) (he1 : e ≤ -18)
    (hP : (e + 11) * 78913 / 262144 = -P) (hP0 : 3 ≤ P) (hP1 : P ≤ 17) (hlp : P * 108853 / 32768 = lp) (hl0 : 0 ≤ lp) (hl1 : lp ≤ 60) (hs : -(e + lp + 3) = s) (hs4 : s = 5 ∨ s = 6 ∨ s = 7 ∨ s = 8) (hhi : hi < 18446744073709551616)
    (ho : X / 2048 % 2 = o) (ho1 : o ≤ 1)
    (hc : (usX ((X - 1024) * hi) s + o + 3) / 4 = c) (hf : (usX ((X + 1024) * hi) s - o) / 4 = f) (hu1 : usX ((X - 1024) * hi) s ≤ 4611686018427387904) (hu2 : usX ((X + 1024) * hi) s ≤ 4611686018427387904) (hu3 : 1 ≤ usX ((X + 1024) * hi) s)
    (w : World) (t0 : w.cell? ⟨19, ((P + 348).toNat) * 2, none⟩ = some (.int .u64 hi)) (t1 : w.cell? ⟨19, ((P + 348).toNat) * 2 + 1, none⟩ = some (.int .u64 (0 : Nat))) (h19 : 19 < w.heap.size)
    (hge : c ≤ f / 10 * 10) :
    Calls Tryz.prog 80 #[.int .u64 X, .int .i64 e] w fun e' w' => e' = .returned (.tuple #[.int .u64 ((f / 10 : Nat) : Int), .int .i64 (-(P - 1))]) ∧ Below w.heap.size w w' := by
  have hne : ((X : Int) == 9223372036854775808) = false := by simp; omega
  have b46 := log10Pow2_any (e + 11) (by omega) (by omega)
  rw [hP] at b46
  have b104 := log2Pow10_any P (by omega) (by omega)
  rw [hlp] at b104
  have K46 := Lib.hid b46
  have K104 := Lib.hid b104
  have hodd : bits BinOp.and IntKind.i64 ((X : Int) / 2048) 1 = (o : Int) := by
    have h1 := bits_and_i64_one (X / 2048) (by omega)
    rw [ho] at h1
    rw [← h1]
    rfl
  skip
  skip
  have HO := Lib.hid ho
  have HC := Lib.hid hc
  have HFf := Lib.hid hf
  have HS := Lib.hid hs
  clear b46 b104 hP hlp ho hc hf hs
  go_enter Tryz.func80, Tryz.ntmps80
  go_wp2_with fail
  refine (K46.out _).mono ?_
  rintro e' w' ⟨rfl, rfl⟩
  go_wp2_with fail
  refine (K104.out _).mono ?_
  rintro e' w' ⟨rfl, rfl⟩
  go_wp2_with fail
  have hbn := Blk.new w 151 #[.int .u64 0, .int .u64 0, .int .i64 0]
  have q0 : (w.alloc (.cells #[.int .u64 0, .int .u64 0, .int .i64 0] 151)).cell? ⟨19, ((P + 348).toNat) * 2, none⟩ = some (.int .u64 hi) := (World.cell?_alloc_lt w _ _ h19).trans t0
  have q1 : (w.alloc (.cells #[.int .u64 0, .int .u64 0, .int .i64 0] 151)).cell? ⟨19, ((P + 348).toNat) * 2 + 1, none⟩ = some (.int .u64 (0 : Nat)) := (World.cell?_alloc_lt w _ _ h19).trans t1
  refine (prescale_any w.heap.size e P lp hi (0 : Nat) _ _ _ _ (by omega) (by omega) (by omega) (by omega) (by omega) (by omega) q0 q1 hbn (by omega)).mono ?_
  rintro e' w1 ⟨rfl, hb1, hg1⟩
  rw [HS.out] at hb1
  have HB1 := Lib.hid hb1
  clear hbn q0 q1 hb1 t0 t1
  go_wp2_with fail
  rw [show ((X : Int) - 1024) = ((X - 1024 : Nat) : Int) from by omega]
  refine (uscale_exact (X - 1024) hi s _ (by omega) (by omega) hhi hs4 _ HB1.out).mono ?_
  rintro e' w2 ⟨rfl, n2, rfl⟩
  generalize hU1 : usX ((X - 1024) * hi) s = U1 at *
  clear hU1
  go_wp2_with fail
  refine (nudge_any U1 o (by omega) (by omega) (by omega) (by omega) (by omega) _).mono ?_
  rintro e' w' ⟨rfl, rfl⟩
  go_wp2_with fail
  refine (ceil_any ((U1 : Int) + o) (by omega) (by omega) _).mono ?_
  rintro e' w' ⟨rfl, rfl⟩
  rw [show (((U1 : Int) + o + 3) / 4) = (c : Int) from by have := HC.out; omega]
  go_wp2_with fail
  rw [show ((X : Int) + 1024) = ((X + 1024 : Nat) : Int) from by omega]
  refine (uscale_exact (X + 1024) hi s _ (by omega) (by omega) hhi hs4 _ (HB1.out.drewN n2)).mono ?_
  rintro e' w3 ⟨rfl, n3, rfl⟩
  generalize hU2 : usX ((X + 1024) * hi) s = U2 at *
  clear hU2
  go_wp2_with fail
  refine (nudge_any U2 (-o) (by omega) (by omega) (by omega) (by omega) (by omega) _).mono ?_
  rintro e' w' ⟨rfl, rfl⟩
  go_wp2_with fail
  refine (floor_any ((U2 : Int) + -o) (by omega) (by omega) _).mono ?_
  rintro e' w' ⟨rfl, rfl⟩
  rw [show (((U2 : Int) + -o) / 4) = (f : Int) from by have := HFf.out; omega]
  have hfb : (f : Int) ≤ 4611686018427387904 := by have := HFf.out; omega
  have hge2 : (c : Int) ≤ (f : Int) / 10 * 10 := by omega
  go_wp2_with fail
  go_ret2
  refine ⟨rfl, below_drewN (((Below.refl _ _).alloc (Nat.le_refl _) _).grown hg1 (by simp) (fun g hg => by injection hg with hg; omega)) _⟩

set_option maxHeartbeats 1000000 in
theorem short_odd_2 (X : Nat) (e P lp : Int) (s hi o c f : Nat) (h0 : 9223372036854775808 < X) (h1 : X ≤ 18446744073709549568) (_h8 : X % 2048 = 0) (he0 : -66 ≤ e) (he1 : e ≤ -18)
    (hP : (e + 11) * 78913 / 262144 = -P) (hP0 : 3 ≤ P) (hP1 : P ≤ 17) (hlp : P * 108853 / 32768 = lp) (hl0 : 0 ≤ lp) (hl1 : lp ≤ 60) (hs : -(e + lp + 3) = s) (hs4 : s = 5 ∨ s = 6 ∨ s = 7 ∨ s = 8) (hhi : hi < 18446744073709551616)
    (ho : X / 2048 % 2 = o) (ho1 : o ≤ 1)
    (hc : (usX ((X - 1024) * hi) s + o + 3) / 4 = c) (hf : (usX ((X + 1024) * hi) s - o) / 4 = f) (hu1 : usX ((X - 1024) * hi) s ≤ 4611686018427387904) (hu2 : usX ((X + 1024) * hi) s ≤ 4611686018427387904) (hu3 : 1 ≤ usX ((X + 1024) * hi) s) (hu4 : usX (X * hi) s ≤ 4611686018427387904) (r : Nat) (hr : (usX (X * hi) s + 1 + usX (X * hi) s / 4 % 2) / 4 = r)
    (w : World) (t0 : w.cell? ⟨19, ((P + 348).toNat) * 2, none⟩ = some (.int .u64 hi)) (t1 : w.cell? ⟨19, ((P + 348).toNat) * 2 + 1, none⟩ = some (.int .u64 (0 : Nat))) (h19 : 19 < w.heap.size)
    (hge : f / 10 * 10 < c) (hlt : c < f) :
    Calls Tryz.prog 80 #[.int .u64 X, .int .i64 e] w fun e' w' => e' = .returned (.tuple #[.int .u64 r, .int .i64 (-P)]) ∧ Below w.heap.size w w' := by
  have hne : ((X : Int) == 9223372036854775808) = false := by simp; omega
  have b46 := log10Pow2_any (e + 11) (by omega) (by omega)
  rw [hP] at b46
  have b104 := log2Pow10_any P (by omega) (by omega)
  rw [hlp] at b104
  have K46 := Lib.hid b46
  have K104 := Lib.hid b104
  have hodd : bits BinOp.and IntKind.i64 ((X : Int) / 2048) 1 = (o : Int) := by
    have h1 := bits_and_i64_one (X / 2048) (by omega)
    rw [ho] at h1
    rw [← h1]
    rfl
  skip
  have HR := Lib.hid hr
  clear hr
  have HO := Lib.hid ho
  have HC := Lib.hid hc
  have HFf := Lib.hid hf
  have HS := Lib.hid hs
  clear b46 b104 hP hlp ho hc hf hs
  go_enter Tryz.func80, Tryz.ntmps80
  go_wp2_with fail
  refine (K46.out _).mono ?_
  rintro e' w' ⟨rfl, rfl⟩
  go_wp2_with fail
  refine (K104.out _).mono ?_
  rintro e' w' ⟨rfl, rfl⟩
  go_wp2_with fail
  have hbn := Blk.new w 151 #[.int .u64 0, .int .u64 0, .int .i64 0]
  have q0 : (w.alloc (.cells #[.int .u64 0, .int .u64 0, .int .i64 0] 151)).cell? ⟨19, ((P + 348).toNat) * 2, none⟩ = some (.int .u64 hi) := (World.cell?_alloc_lt w _ _ h19).trans t0
  have q1 : (w.alloc (.cells #[.int .u64 0, .int .u64 0, .int .i64 0] 151)).cell? ⟨19, ((P + 348).toNat) * 2 + 1, none⟩ = some (.int .u64 (0 : Nat)) := (World.cell?_alloc_lt w _ _ h19).trans t1
  refine (prescale_any w.heap.size e P lp hi (0 : Nat) _ _ _ _ (by omega) (by omega) (by omega) (by omega) (by omega) (by omega) q0 q1 hbn (by omega)).mono ?_
  rintro e' w1 ⟨rfl, hb1, hg1⟩
  rw [HS.out] at hb1
  have HB1 := Lib.hid hb1
  clear hbn q0 q1 hb1 t0 t1
  go_wp2_with fail
  rw [show ((X : Int) - 1024) = ((X - 1024 : Nat) : Int) from by omega]
  refine (uscale_exact (X - 1024) hi s _ (by omega) (by omega) hhi hs4 _ HB1.out).mono ?_
  rintro e' w2 ⟨rfl, n2, rfl⟩
  generalize hU1 : usX ((X - 1024) * hi) s = U1 at *
  clear hU1
  go_wp2_with fail
  refine (nudge_any U1 o (by omega) (by omega) (by omega) (by omega) (by omega) _).mono ?_
  rintro e' w' ⟨rfl, rfl⟩
  go_wp2_with fail
  refine (ceil_any ((U1 : Int) + o) (by omega) (by omega) _).mono ?_
  rintro e' w' ⟨rfl, rfl⟩
  rw [show (((U1 : Int) + o + 3) / 4) = (c : Int) from by have := HC.out; omega]
  go_wp2_with fail
  rw [show ((X : Int) + 1024) = ((X + 1024 : Nat) : Int) from by omega]
  refine (uscale_exact (X + 1024) hi s _ (by omega) (by omega) hhi hs4 _ (HB1.out.drewN n2)).mono ?_
  rintro e' w3 ⟨rfl, n3, rfl⟩
  generalize hU2 : usX ((X + 1024) * hi) s = U2 at *
  clear hU2
  go_wp2_with fail
  refine (nudge_any U2 (-o) (by omega) (by omega) (by omega) (by omega) (by omega) _).mono ?_
  rintro e' w' ⟨rfl, rfl⟩
  go_wp2_with fail
  refine (floor_any ((U2 : Int) + -o) (by omega) (by omega) _).mono ?_
  rintro e' w' ⟨rfl, rfl⟩
  rw [show (((U2 : Int) + -o) / 4) = (f : Int) from by have := HFf.out; omega]
  have hfb : (f : Int) ≤ 4611686018427387904 := by have := HFf.out; omega
  have hge2 : (f : Int) / 10 * 10 < (c : Int) := by omega
  go_wp2_with fail
  refine (uscale_exact X hi s _ (by omega) (by omega) hhi hs4 _ (HB1.out.drewN _)).mono ?_
  rintro e' w4 ⟨rfl, n4, rfl⟩
  generalize hU3 : usX (X * hi) s = U3 at *
  clear hU3
  go_wp2_with fail
  refine (round_any U3 (by omega) (by omega) _).mono ?_
  rintro e' w' ⟨rfl, rfl⟩
  rw [show (((U3 : Int) + 1 + (U3 : Int) / 4 % 2) / 4) = (r : Int) from by have := HR.out; omega]
  go_wp2_with fail
  go_ret2
  refine ⟨rfl, below_drewN (((Below.refl _ _).alloc (Nat.le_refl _) _).grown hg1 (by simp) (fun g hg => by injection hg with hg; omega)) _⟩

set_option maxHeartbeats 1000000 in
theorem short_odd_3 (X : Nat) (e P lp : Int) (s hi o c f : Nat) (h0 : 9223372036854775808 < X) (h1 : X ≤ 18446744073709549568) (_h8 : X % 2048 = 0) (he0 : -66 ≤ e) (he1 : e ≤ -18)
    (hP : (e + 11) * 78913 / 262144 = -P) (hP0 : 3 ≤ P) (hP1 : P ≤ 17) (hlp : P * 108853 / 32768 = lp) (hl0 : 0 ≤ lp) (hl1 : lp ≤ 60) (hs : -(e + lp + 3) = s) (hs4 : s = 5 ∨ s = 6 ∨ s = 7 ∨ s = 8) (hhi : hi < 18446744073709551616)
    (ho : X / 2048 % 2 = o) (ho1 : o ≤ 1)
    (hc : (usX ((X - 1024) * hi) s + o + 3) / 4 = c) (hf : (usX ((X + 1024) * hi) s - o) / 4 = f) (hu1 : usX ((X - 1024) * hi) s ≤ 4611686018427387904) (hu2 : usX ((X + 1024) * hi) s ≤ 4611686018427387904) (hu3 : 1 ≤ usX ((X + 1024) * hi) s)
    (w : World) (t0 : w.cell? ⟨19, ((P + 348).toNat) * 2, none⟩ = some (.int .u64 hi)) (t1 : w.cell? ⟨19, ((P + 348).toNat) * 2 + 1, none⟩ = some (.int .u64 (0 : Nat))) (h19 : 19 < w.heap.size)
    (hge : f / 10 * 10 < c) (hlt : ¬ c < f) :
    Calls Tryz.prog 80 #[.int .u64 X, .int .i64 e] w fun e' w' => e' = .returned (.tuple #[.int .u64 c, .int .i64 (-P)]) ∧ Below w.heap.size w w' := by
  have hne : ((X : Int) == 9223372036854775808) = false := by simp; omega
  have b46 := log10Pow2_any (e + 11) (by omega) (by omega)
  rw [hP] at b46
  have b104 := log2Pow10_any P (by omega) (by omega)
  rw [hlp] at b104
  have K46 := Lib.hid b46
  have K104 := Lib.hid b104
  have hodd : bits BinOp.and IntKind.i64 ((X : Int) / 2048) 1 = (o : Int) := by
    have h1 := bits_and_i64_one (X / 2048) (by omega)
    rw [ho] at h1
    rw [← h1]
    rfl
  skip
  skip
  have HO := Lib.hid ho
  have HC := Lib.hid hc
  have HFf := Lib.hid hf
  have HS := Lib.hid hs
  clear b46 b104 hP hlp ho hc hf hs
  go_enter Tryz.func80, Tryz.ntmps80
  go_wp2_with fail
  refine (K46.out _).mono ?_
  rintro e' w' ⟨rfl, rfl⟩
  go_wp2_with fail
  refine (K104.out _).mono ?_
  rintro e' w' ⟨rfl, rfl⟩
  go_wp2_with fail
  have hbn := Blk.new w 151 #[.int .u64 0, .int .u64 0, .int .i64 0]
  have q0 : (w.alloc (.cells #[.int .u64 0, .int .u64 0, .int .i64 0] 151)).cell? ⟨19, ((P + 348).toNat) * 2, none⟩ = some (.int .u64 hi) := (World.cell?_alloc_lt w _ _ h19).trans t0
  have q1 : (w.alloc (.cells #[.int .u64 0, .int .u64 0, .int .i64 0] 151)).cell? ⟨19, ((P + 348).toNat) * 2 + 1, none⟩ = some (.int .u64 (0 : Nat)) := (World.cell?_alloc_lt w _ _ h19).trans t1
  refine (prescale_any w.heap.size e P lp hi (0 : Nat) _ _ _ _ (by omega) (by omega) (by omega) (by omega) (by omega) (by omega) q0 q1 hbn (by omega)).mono ?_
  rintro e' w1 ⟨rfl, hb1, hg1⟩
  rw [HS.out] at hb1
  have HB1 := Lib.hid hb1
  clear hbn q0 q1 hb1 t0 t1
  go_wp2_with fail
  rw [show ((X : Int) - 1024) = ((X - 1024 : Nat) : Int) from by omega]
  refine (uscale_exact (X - 1024) hi s _ (by omega) (by omega) hhi hs4 _ HB1.out).mono ?_
  rintro e' w2 ⟨rfl, n2, rfl⟩
  generalize hU1 : usX ((X - 1024) * hi) s = U1 at *
  clear hU1
  go_wp2_with fail
  refine (nudge_any U1 o (by omega) (by omega) (by omega) (by omega) (by omega) _).mono ?_
  rintro e' w' ⟨rfl, rfl⟩
  go_wp2_with fail
  refine (ceil_any ((U1 : Int) + o) (by omega) (by omega) _).mono ?_
  rintro e' w' ⟨rfl, rfl⟩
  rw [show (((U1 : Int) + o + 3) / 4) = (c : Int) from by have := HC.out; omega]
  go_wp2_with fail
  rw [show ((X : Int) + 1024) = ((X + 1024 : Nat) : Int) from by omega]
  refine (uscale_exact (X + 1024) hi s _ (by omega) (by omega) hhi hs4 _ (HB1.out.drewN n2)).mono ?_
  rintro e' w3 ⟨rfl, n3, rfl⟩
  generalize hU2 : usX ((X + 1024) * hi) s = U2 at *
  clear hU2
  go_wp2_with fail
  refine (nudge_any U2 (-o) (by omega) (by omega) (by omega) (by omega) (by omega) _).mono ?_
  rintro e' w' ⟨rfl, rfl⟩
  go_wp2_with fail
  refine (floor_any ((U2 : Int) + -o) (by omega) (by omega) _).mono ?_
  rintro e' w' ⟨rfl, rfl⟩
  rw [show (((U2 : Int) + -o) / 4) = (f : Int) from by have := HFf.out; omega]
  have hfb : (f : Int) ≤ 4611686018427387904 := by have := HFf.out; omega
  have hge2 : (f : Int) / 10 * 10 < (c : Int) := by omega
  go_wp2_with fail
  go_ret2
  refine ⟨rfl, below_drewN (((Below.refl _ _).alloc (Nat.le_refl _) _).grown hg1 (by simp) (fun g hg => by injection hg with hg; omega)) _⟩

set_option maxHeartbeats 1000000 in
theorem short_pow_1 (X : Nat) (e P lp : Int) (s hi o c f : Nat) (h0 : X = 9223372036854775808) (h1 : X ≤ 18446744073709549568) (_h8 : X % 2048 = 0) (he0 : -66 ≤ e) (he1 : e ≤ -18)
    (hP : ((e + 11) * 631305 - 261663) / 2097152 = -P) (hP0 : 3 ≤ P) (hP1 : P ≤ 17) (hlp : P * 108853 / 32768 = lp) (hl0 : 0 ≤ lp) (hl1 : lp ≤ 60) (hs : -(e + lp + 3) = s) (hs4 : s = 5 ∨ s = 6 ∨ s = 7 ∨ s = 8) (hhi : hi < 18446744073709551616)
    (ho : X / 2048 % 2 = o) (ho1 : o ≤ 1)
    (hc : (usX ((X - 512) * hi) s + o + 3) / 4 = c) (hf : (usX ((X + 1024) * hi) s - o) / 4 = f) (hu1 : usX ((X - 512) * hi) s ≤ 4611686018427387904) (hu2 : usX ((X + 1024) * hi) s ≤ 4611686018427387904) (hu3 : 1 ≤ usX ((X + 1024) * hi) s)
    (w : World) (t0 : w.cell? ⟨19, ((P + 348).toNat) * 2, none⟩ = some (.int .u64 hi)) (t1 : w.cell? ⟨19, ((P + 348).toNat) * 2 + 1, none⟩ = some (.int .u64 (0 : Nat))) (h19 : 19 < w.heap.size)
    (hge : c ≤ f / 10 * 10) :
    Calls Tryz.prog 80 #[.int .u64 X, .int .i64 e] w fun e' w' => e' = .returned (.tuple #[.int .u64 ((f / 10 : Nat) : Int), .int .i64 (-(P - 1))]) ∧ Below w.heap.size w w' := by
  have hne : ((X : Int) == 9223372036854775808) = true := by rw [h0]; rfl
  have b46 := skewed_any (e + 11) (by omega) (by omega)
  rw [hP] at b46
  have b104 := log2Pow10_any P (by omega) (by omega)
  rw [hlp] at b104
  have K46 := Lib.hid b46
  have K104 := Lib.hid b104
  have hodd : bits BinOp.and IntKind.i64 ((X : Int) / 2048) 1 = (o : Int) := by
    have h1 := bits_and_i64_one (X / 2048) (by omega)
    rw [ho] at h1
    rw [← h1]
    rfl
  have H0 : 9223372036854775808 ≤ X := by omega
  clear h0
  skip
  have HO := Lib.hid ho
  have HC := Lib.hid hc
  have HFf := Lib.hid hf
  have HS := Lib.hid hs
  clear b46 b104 hP hlp ho hc hf hs
  go_enter Tryz.func80, Tryz.ntmps80
  go_wp2_with fail
  refine (K46.out _).mono ?_
  rintro e' w' ⟨rfl, rfl⟩
  go_wp2_with fail
  refine (K104.out _).mono ?_
  rintro e' w' ⟨rfl, rfl⟩
  go_wp2_with fail
  have hbn := Blk.new w 151 #[.int .u64 0, .int .u64 0, .int .i64 0]
  have q0 : (w.alloc (.cells #[.int .u64 0, .int .u64 0, .int .i64 0] 151)).cell? ⟨19, ((P + 348).toNat) * 2, none⟩ = some (.int .u64 hi) := (World.cell?_alloc_lt w _ _ h19).trans t0
  have q1 : (w.alloc (.cells #[.int .u64 0, .int .u64 0, .int .i64 0] 151)).cell? ⟨19, ((P + 348).toNat) * 2 + 1, none⟩ = some (.int .u64 (0 : Nat)) := (World.cell?_alloc_lt w _ _ h19).trans t1
  refine (prescale_any w.heap.size e P lp hi (0 : Nat) _ _ _ _ (by omega) (by omega) (by omega) (by omega) (by omega) (by omega) q0 q1 hbn (by omega)).mono ?_
  rintro e' w1 ⟨rfl, hb1, hg1⟩
  rw [HS.out] at hb1
  have HB1 := Lib.hid hb1
  clear hbn q0 q1 hb1 t0 t1
  go_wp2_with fail
  rw [show ((X : Int) - 512) = ((X - 512 : Nat) : Int) from by omega]
  refine (uscale_exact (X - 512) hi s _ (by omega) (by omega) hhi hs4 _ HB1.out).mono ?_
  rintro e' w2 ⟨rfl, n2, rfl⟩
  generalize hU1 : usX ((X - 512) * hi) s = U1 at *
  clear hU1
  go_wp2_with fail
  refine (nudge_any U1 o (by omega) (by omega) (by omega) (by omega) (by omega) _).mono ?_
  rintro e' w' ⟨rfl, rfl⟩
  go_wp2_with fail
  refine (ceil_any ((U1 : Int) + o) (by omega) (by omega) _).mono ?_
  rintro e' w' ⟨rfl, rfl⟩
  rw [show (((U1 : Int) + o + 3) / 4) = (c : Int) from by have := HC.out; omega]
  go_wp2_with fail
  rw [show ((X : Int) + 1024) = ((X + 1024 : Nat) : Int) from by omega]
  refine (uscale_exact (X + 1024) hi s _ (by omega) (by omega) hhi hs4 _ (HB1.out.drewN n2)).mono ?_
  rintro e' w3 ⟨rfl, n3, rfl⟩
  generalize hU2 : usX ((X + 1024) * hi) s = U2 at *
  clear hU2
  go_wp2_with fail
  refine (nudge_any U2 (-o) (by omega) (by omega) (by omega) (by omega) (by omega) _).mono ?_
  rintro e' w' ⟨rfl, rfl⟩
  go_wp2_with fail
  refine (floor_any ((U2 : Int) + -o) (by omega) (by omega) _).mono ?_
  rintro e' w' ⟨rfl, rfl⟩
  rw [show (((U2 : Int) + -o) / 4) = (f : Int) from by have := HFf.out; omega]
  have hfb : (f : Int) ≤ 4611686018427387904 := by have := HFf.out; omega
  have hge2 : (c : Int) ≤ (f : Int) / 10 * 10 := by omega
  go_wp2_with fail
  go_ret2
  refine ⟨rfl, below_drewN (((Below.refl _ _).alloc (Nat.le_refl _) _).grown hg1 (by simp) (fun g hg => by injection hg with hg; omega)) _⟩

set_option maxHeartbeats 1000000 in
theorem short_pow_2 (X : Nat) (e P lp : Int) (s hi o c f : Nat) (h0 : X = 9223372036854775808) (h1 : X ≤ 18446744073709549568) (_h8 : X % 2048 = 0) (he0 : -66 ≤ e) (he1 : e ≤ -18)
    (hP : ((e + 11) * 631305 - 261663) / 2097152 = -P) (hP0 : 3 ≤ P) (hP1 : P ≤ 17) (hlp : P * 108853 / 32768 = lp) (hl0 : 0 ≤ lp) (hl1 : lp ≤ 60) (hs : -(e + lp + 3) = s) (hs4 : s = 5 ∨ s = 6 ∨ s = 7 ∨ s = 8) (hhi : hi < 18446744073709551616)
    (ho : X / 2048 % 2 = o) (ho1 : o ≤ 1)
    (hc : (usX ((X - 512) * hi) s + o + 3) / 4 = c) (hf : (usX ((X + 1024) * hi) s - o) / 4 = f) (hu1 : usX ((X - 512) * hi) s ≤ 4611686018427387904) (hu2 : usX ((X + 1024) * hi) s ≤ 4611686018427387904) (hu3 : 1 ≤ usX ((X + 1024) * hi) s) (hu4 : usX (X * hi) s ≤ 4611686018427387904) (r : Nat) (hr : (usX (X * hi) s + 1 + usX (X * hi) s / 4 % 2) / 4 = r)
    (w : World) (t0 : w.cell? ⟨19, ((P + 348).toNat) * 2, none⟩ = some (.int .u64 hi)) (t1 : w.cell? ⟨19, ((P + 348).toNat) * 2 + 1, none⟩ = some (.int .u64 (0 : Nat))) (h19 : 19 < w.heap.size)
    (hge : f / 10 * 10 < c) (hlt : c < f) :
    Calls Tryz.prog 80 #[.int .u64 X, .int .i64 e] w fun e' w' => e' = .returned (.tuple #[.int .u64 r, .int .i64 (-P)]) ∧ Below w.heap.size w w' := by
  have hne : ((X : Int) == 9223372036854775808) = true := by rw [h0]; rfl
  have b46 := skewed_any (e + 11) (by omega) (by omega)
  rw [hP] at b46
  have b104 := log2Pow10_any P (by omega) (by omega)
  rw [hlp] at b104
  have K46 := Lib.hid b46
  have K104 := Lib.hid b104
  have hodd : bits BinOp.and IntKind.i64 ((X : Int) / 2048) 1 = (o : Int) := by
    have h1 := bits_and_i64_one (X / 2048) (by omega)
    rw [ho] at h1
    rw [← h1]
    rfl
  have H0 : 9223372036854775808 ≤ X := by omega
  clear h0
  have HR := Lib.hid hr
  clear hr
  have HO := Lib.hid ho
  have HC := Lib.hid hc
  have HFf := Lib.hid hf
  have HS := Lib.hid hs
  clear b46 b104 hP hlp ho hc hf hs
  go_enter Tryz.func80, Tryz.ntmps80
  go_wp2_with fail
  refine (K46.out _).mono ?_
  rintro e' w' ⟨rfl, rfl⟩
  go_wp2_with fail
  refine (K104.out _).mono ?_
  rintro e' w' ⟨rfl, rfl⟩
  go_wp2_with fail
  have hbn := Blk.new w 151 #[.int .u64 0, .int .u64 0, .int .i64 0]
  have q0 : (w.alloc (.cells #[.int .u64 0, .int .u64 0, .int .i64 0] 151)).cell? ⟨19, ((P + 348).toNat) * 2, none⟩ = some (.int .u64 hi) := (World.cell?_alloc_lt w _ _ h19).trans t0
  have q1 : (w.alloc (.cells #[.int .u64 0, .int .u64 0, .int .i64 0] 151)).cell? ⟨19, ((P + 348).toNat) * 2 + 1, none⟩ = some (.int .u64 (0 : Nat)) := (World.cell?_alloc_lt w _ _ h19).trans t1
  refine (prescale_any w.heap.size e P lp hi (0 : Nat) _ _ _ _ (by omega) (by omega) (by omega) (by omega) (by omega) (by omega) q0 q1 hbn (by omega)).mono ?_
  rintro e' w1 ⟨rfl, hb1, hg1⟩
  rw [HS.out] at hb1
  have HB1 := Lib.hid hb1
  clear hbn q0 q1 hb1 t0 t1
  go_wp2_with fail
  rw [show ((X : Int) - 512) = ((X - 512 : Nat) : Int) from by omega]
  refine (uscale_exact (X - 512) hi s _ (by omega) (by omega) hhi hs4 _ HB1.out).mono ?_
  rintro e' w2 ⟨rfl, n2, rfl⟩
  generalize hU1 : usX ((X - 512) * hi) s = U1 at *
  clear hU1
  go_wp2_with fail
  refine (nudge_any U1 o (by omega) (by omega) (by omega) (by omega) (by omega) _).mono ?_
  rintro e' w' ⟨rfl, rfl⟩
  go_wp2_with fail
  refine (ceil_any ((U1 : Int) + o) (by omega) (by omega) _).mono ?_
  rintro e' w' ⟨rfl, rfl⟩
  rw [show (((U1 : Int) + o + 3) / 4) = (c : Int) from by have := HC.out; omega]
  go_wp2_with fail
  rw [show ((X : Int) + 1024) = ((X + 1024 : Nat) : Int) from by omega]
  refine (uscale_exact (X + 1024) hi s _ (by omega) (by omega) hhi hs4 _ (HB1.out.drewN n2)).mono ?_
  rintro e' w3 ⟨rfl, n3, rfl⟩
  generalize hU2 : usX ((X + 1024) * hi) s = U2 at *
  clear hU2
  go_wp2_with fail
  refine (nudge_any U2 (-o) (by omega) (by omega) (by omega) (by omega) (by omega) _).mono ?_
  rintro e' w' ⟨rfl, rfl⟩
  go_wp2_with fail
  refine (floor_any ((U2 : Int) + -o) (by omega) (by omega) _).mono ?_
  rintro e' w' ⟨rfl, rfl⟩
  rw [show (((U2 : Int) + -o) / 4) = (f : Int) from by have := HFf.out; omega]
  have hfb : (f : Int) ≤ 4611686018427387904 := by have := HFf.out; omega
  have hge2 : (f : Int) / 10 * 10 < (c : Int) := by omega
  go_wp2_with fail
  refine (uscale_exact X hi s _ (by omega) (by omega) hhi hs4 _ (HB1.out.drewN _)).mono ?_
  rintro e' w4 ⟨rfl, n4, rfl⟩
  generalize hU3 : usX (X * hi) s = U3 at *
  clear hU3
  go_wp2_with fail
  refine (round_any U3 (by omega) (by omega) _).mono ?_
  rintro e' w' ⟨rfl, rfl⟩
  rw [show (((U3 : Int) + 1 + (U3 : Int) / 4 % 2) / 4) = (r : Int) from by have := HR.out; omega]
  go_wp2_with fail
  go_ret2
  refine ⟨rfl, below_drewN (((Below.refl _ _).alloc (Nat.le_refl _) _).grown hg1 (by simp) (fun g hg => by injection hg with hg; omega)) _⟩

set_option maxHeartbeats 1000000 in
theorem short_pow_3 (X : Nat) (e P lp : Int) (s hi o c f : Nat) (h0 : X = 9223372036854775808) (h1 : X ≤ 18446744073709549568) (_h8 : X % 2048 = 0) (he0 : -66 ≤ e) (he1 : e ≤ -18)
    (hP : ((e + 11) * 631305 - 261663) / 2097152 = -P) (hP0 : 3 ≤ P) (hP1 : P ≤ 17) (hlp : P * 108853 / 32768 = lp) (hl0 : 0 ≤ lp) (hl1 : lp ≤ 60) (hs : -(e + lp + 3) = s) (hs4 : s = 5 ∨ s = 6 ∨ s = 7 ∨ s = 8) (hhi : hi < 18446744073709551616)
    (ho : X / 2048 % 2 = o) (ho1 : o ≤ 1)
    (hc : (usX ((X - 512) * hi) s + o + 3) / 4 = c) (hf : (usX ((X + 1024) * hi) s - o) / 4 = f) (hu1 : usX ((X - 512) * hi) s ≤ 4611686018427387904) (hu2 : usX ((X + 1024) * hi) s ≤ 4611686018427387904) (hu3 : 1 ≤ usX ((X + 1024) * hi) s)
    (w : World) (t0 : w.cell? ⟨19, ((P + 348).toNat) * 2, none⟩ = some (.int .u64 hi)) (t1 : w.cell? ⟨19, ((P + 348).toNat) * 2 + 1, none⟩ = some (.int .u64 (0 : Nat))) (h19 : 19 < w.heap.size)
    (hge : f / 10 * 10 < c) (hlt : ¬ c < f) :
    Calls Tryz.prog 80 #[.int .u64 X, .int .i64 e] w fun e' w' => e' = .returned (.tuple #[.int .u64 c, .int .i64 (-P)]) ∧ Below w.heap.size w w' := by
  have hne : ((X : Int) == 9223372036854775808) = true := by rw [h0]; rfl
  have b46 := skewed_any (e + 11) (by omega) (by omega)
  rw [hP] at b46
  have b104 := log2Pow10_any P (by omega) (by omega)
  rw [hlp] at b104
  have K46 := Lib.hid b46
  have K104 := Lib.hid b104
  have hodd : bits BinOp.and IntKind.i64 ((X : Int) / 2048) 1 = (o : Int) := by
    have h1 := bits_and_i64_one (X / 2048) (by omega)
    rw [ho] at h1
    rw [← h1]
    rfl
  have H0 : 9223372036854775808 ≤ X := by omega
  clear h0
  skip
  have HO := Lib.hid ho
  have HC := Lib.hid hc
  have HFf := Lib.hid hf
  have HS := Lib.hid hs
  clear b46 b104 hP hlp ho hc hf hs
  go_enter Tryz.func80, Tryz.ntmps80
  go_wp2_with fail
  refine (K46.out _).mono ?_
  rintro e' w' ⟨rfl, rfl⟩
  go_wp2_with fail
  refine (K104.out _).mono ?_
  rintro e' w' ⟨rfl, rfl⟩
  go_wp2_with fail
  have hbn := Blk.new w 151 #[.int .u64 0, .int .u64 0, .int .i64 0]
  have q0 : (w.alloc (.cells #[.int .u64 0, .int .u64 0, .int .i64 0] 151)).cell? ⟨19, ((P + 348).toNat) * 2, none⟩ = some (.int .u64 hi) := (World.cell?_alloc_lt w _ _ h19).trans t0
  have q1 : (w.alloc (.cells #[.int .u64 0, .int .u64 0, .int .i64 0] 151)).cell? ⟨19, ((P + 348).toNat) * 2 + 1, none⟩ = some (.int .u64 (0 : Nat)) := (World.cell?_alloc_lt w _ _ h19).trans t1
  refine (prescale_any w.heap.size e P lp hi (0 : Nat) _ _ _ _ (by omega) (by omega) (by omega) (by omega) (by omega) (by omega) q0 q1 hbn (by omega)).mono ?_
  rintro e' w1 ⟨rfl, hb1, hg1⟩
  rw [HS.out] at hb1
  have HB1 := Lib.hid hb1
  clear hbn q0 q1 hb1 t0 t1
  go_wp2_with fail
  rw [show ((X : Int) - 512) = ((X - 512 : Nat) : Int) from by omega]
  refine (uscale_exact (X - 512) hi s _ (by omega) (by omega) hhi hs4 _ HB1.out).mono ?_
  rintro e' w2 ⟨rfl, n2, rfl⟩
  generalize hU1 : usX ((X - 512) * hi) s = U1 at *
  clear hU1
  go_wp2_with fail
  refine (nudge_any U1 o (by omega) (by omega) (by omega) (by omega) (by omega) _).mono ?_
  rintro e' w' ⟨rfl, rfl⟩
  go_wp2_with fail
  refine (ceil_any ((U1 : Int) + o) (by omega) (by omega) _).mono ?_
  rintro e' w' ⟨rfl, rfl⟩
  rw [show (((U1 : Int) + o + 3) / 4) = (c : Int) from by have := HC.out; omega]
  go_wp2_with fail
  rw [show ((X : Int) + 1024) = ((X + 1024 : Nat) : Int) from by omega]
  refine (uscale_exact (X + 1024) hi s _ (by omega) (by omega) hhi hs4 _ (HB1.out.drewN n2)).mono ?_
  rintro e' w3 ⟨rfl, n3, rfl⟩
  generalize hU2 : usX ((X + 1024) * hi) s = U2 at *
  clear hU2
  go_wp2_with fail
  refine (nudge_any U2 (-o) (by omega) (by omega) (by omega) (by omega) (by omega) _).mono ?_
  rintro e' w' ⟨rfl, rfl⟩
  go_wp2_with fail
  refine (floor_any ((U2 : Int) + -o) (by omega) (by omega) _).mono ?_
  rintro e' w' ⟨rfl, rfl⟩
  rw [show (((U2 : Int) + -o) / 4) = (f : Int) from by have := HFf.out; omega]
  have hfb : (f : Int) ≤ 4611686018427387904 := by have := HFf.out; omega
  have hge2 : (f : Int) / 10 * 10 < (c : Int) := by omega
  go_wp2_with fail
  go_ret2
  refine ⟨rfl, below_drewN (((Below.refl _ _).alloc (Nat.le_refl _) _).grown hg1 (by simp) (fun g hg => by injection hg with hg; omega)) _⟩
end Go.Proofs.YtlnkieokhefkfaaGreatDoor
