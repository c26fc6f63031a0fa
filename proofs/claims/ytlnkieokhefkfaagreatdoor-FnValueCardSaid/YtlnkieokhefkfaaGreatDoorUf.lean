/-
  internal/strconv.shortFloat at a number of eighths: d and q with 8 * d = a * 10 ^ q: the decimal is exact.
-/
import Derived.Test.YtlnkieokhefkfaaGreatDoorUe
namespace Go.Proofs.YtlnkieokhefkfaaGreatDoor
open Go.RowKit

/-- The power of ten of a mantissa of 53 bits whose lowest bit is worth 2 ^ (L - 55); at a power of two. -/
def pN (L : Nat) : Nat := (-(((L : Int) - 66 + 11) * 78913 / 262144)).toNat
def pS (L : Nat) : Nat := (-((((L : Int) - 66 + 11) * 631305 - 261663) / 2097152)).toNat
def lpN (P : Nat) : Nat := P * 108853 / 32768

theorem pN_facts : ∀ L : Fin 49, ((L.val : Int) - 66 + 11) * 78913 / 262144 = -((pN L.val : Nat) : Int) ∧ 3 ≤ pN L.val ∧ pN L.val ≤ 17 ∧
    (63 - L.val - lpN (pN L.val) = 5 ∨ 63 - L.val - lpN (pN L.val) = 6 ∨ 63 - L.val - lpN (pN L.val) = 7 ∨ 63 - L.val - lpN (pN L.val) = 8) ∧ 10 ^ (pN L.val) * 2 ^ L.val < 10 * 2 ^ 55 := by decide +kernel
theorem pS_facts : ∀ L : Fin 49, (((L.val : Int) - 66 + 11) * 631305 - 261663) / 2097152 = -((pS L.val : Nat) : Int) ∧ 3 ≤ pS L.val ∧ pS L.val ≤ 17 ∧
    (63 - L.val - lpN (pS L.val) = 5 ∨ 63 - L.val - lpN (pS L.val) = 6 ∨ 63 - L.val - lpN (pS L.val) = 7 ∨ 63 - L.val - lpN (pS L.val) = 8) ∧ 3 * (10 ^ (pS L.val) * 2 ^ L.val) < 10 * 2 ^ 57 := by decide +kernel
theorem hi_facts : ∀ P : Fin 18, 10 ^ P.val * 2 ^ (63 - lpN P.val) < 18446744073709551616 ∧ lpN P.val ≤ 60 := by decide +kernel

/-- The table's word at P. -/
def hiN (P : Nat) : Nat := 10 ^ P * 2 ^ (63 - lpN P)

/-- The plain law: c and f lie about N, less than ten apart. -/
theorem about (X hi s N c f o d1 : Nat) (_hhi : 0 < hi) (hT : X * hi = N * 2 ^ (66 + s)) (hd1 : d1 ≤ X) (hd0 : 0 < d1) (hhi0 : 0 < hi) (ho : o ≤ 1) (hw : (d1 + 1024) * hi < 10 * 2 ^ (66 + s))
    (hc : (usX ((X - d1) * hi) s + o + 3) / 4 = c) (hf : (usX ((X + 1024) * hi) s - o) / 4 = f) :
    c ≤ N ∧ N ≤ f ∧ f - c < 10 ∧ 1 ≤ usX ((X + 1024) * hi) s ∧ (1024 * hi < 5 * 2 ^ (66 + s) → d1 ≤ 1024 → N - c < 5 ∧ f - N < 5) := by
  have e1 : (X - d1) * hi + d1 * hi = N * 2 ^ (66 + s) := by rw [← Nat.add_mul, Nat.sub_add_cancel hd1, hT]
  have e2 : (X + 1024) * hi = N * 2 ^ (66 + s) + 1024 * hi := by rw [Nat.add_mul, hT]
  have p1 : 0 < d1 * hi := Nat.mul_pos hd0 hhi0
  have g1 := ceil_le ((X - d1) * hi) s N o (by omega) ho
  have g2 := floor_ge ((X + 1024) * hi) s N o (by omega) ho
  have g3 := ceil_ge ((X - d1) * hi) s o
  have g4 := floor_le ((X + 1024) * hi) s o
  rw [hc] at g1 g3
  rw [hf] at g2 g4
  have hw' : d1 * hi + 1024 * hi < 10 * 2 ^ (66 + s) := by rw [← Nat.add_mul]; exact hw
  generalize hD : 2 ^ (66 + s) = D at *
  refine ⟨g1, g2.1, ?_, g2.2, fun h5 hdl => ⟨?_, ?_⟩⟩
  · have : (f - c) * D < 10 * D := by
      rw [Nat.sub_mul]
      have h1 : c * D ≤ N * D := Nat.mul_le_mul_right D g1
      omega
    exact Nat.lt_of_mul_lt_mul_right this
  · have : (N - c) * D < 5 * D := by
      rw [Nat.sub_mul]
      have h1 : d1 * hi ≤ 1024 * hi := Nat.mul_le_mul_right hi hdl
      omega
    exact Nat.lt_of_mul_lt_mul_right this
  · have : (f - N) * D < 5 * D := by
      rw [Nat.sub_mul]
      omega
    exact Nat.lt_of_mul_lt_mul_right this

theorem usX_small (x hi s : Nat) (hx : x < 18446744073709551616) (hhi : hi < 18446744073709551616) (hs : s = 5 ∨ s = 6 ∨ s = 7 ∨ s = 8) : usX (x * hi) s ≤ 4611686018427387904 := by
  have h : x * hi < 340282366920938463463374607431768211456 := by
    have := Nat.mul_lt_mul'' hx hhi
    omega
  unfold usX
  have ho := orOne_ge (x * hi / 2 ^ (64 + s))
  generalize x * hi = T at *
  rcases hs with rfl | rfl | rfl | rfl
  all_goals
    simp only [Nat.reducePow, Nat.reduceAdd] at ho ⊢
    split <;> omega

/-- What is answered, by the three ways. -/
theorem ways (a N P c f : Nat) (hP : 3 ≤ P) (hN : 8 * N = a * 10 ^ P) (h1 : c ≤ N) (h2 : N ≤ f) (h3 : f - c < 10) (h5 : P = 3 → N - c < 5 ∧ f - N < 5) :
    (c ≤ f / 10 * 10 → 8 * (f / 10) = a * 10 ^ (P - 1)) ∧ (f / 10 * 10 < c → ¬ c < f → c = N) := by
  have h10 : 10 ^ P = 10 * 10 ^ (P - 1) := by
    conv => lhs; rw [show P = (P - 1) + 1 by omega, Nat.pow_succ]
    rw [Nat.mul_comm]
  refine ⟨fun hge => ?_, fun _ hn => by omega⟩
  have hNf : N % 10 = 0 := by
    by_cases hp : P = 3
    · subst hp
      have := h5 rfl
      omega
    · obtain ⟨k, rfl⟩ : ∃ k, P = k + 4 := ⟨P - 4, by omega⟩
      have e : a * 10 ^ (k + 4) = 10000 * (a * 10 ^ k) := by rw [Nat.pow_add]; simp only [Nat.reducePow]; rw [← Nat.mul_assoc, Nat.mul_comm]
      rw [e] at hN
      omega
  have e2 : a * 10 ^ P = 10 * (a * 10 ^ (P - 1)) := by rw [h10, ← Nat.mul_assoc, Nat.mul_comm a 10, Nat.mul_assoc]
  rw [e2] at hN
  generalize a * 10 ^ (P - 1) = Z at *
  omega
theorem ways_mid (a N P c f : Nat) (hP : 3 ≤ P) (hN : 8 * N = a * 10 ^ P) (h1 : c ≤ N) (h2 : N ≤ f) (_h3 : f - c < 10) (hge : f / 10 * 10 < c) : P = 3 := by
  by_cases hp : P = 3
  · exact hp
  · obtain ⟨k, rfl⟩ : ∃ k, P = k + 4 := ⟨P - 4, by omega⟩
    have e : a * 10 ^ (k + 4) = 10000 * (a * 10 ^ k) := by rw [Nat.pow_add]; simp only [Nat.reducePow]; rw [← Nat.mul_assoc, Nat.mul_comm]
    rw [e] at hN
    omega

/-- What the table says at the powers that are asked. -/
def Tab (w : World) : Prop := ∀ P : Nat, 3 ≤ P → P ≤ 17 → w.cell? ⟨19, (P + 348) * 2, none⟩ = some (.int .u64 (hiN P)) ∧ w.cell? ⟨19, (P + 348) * 2 + 1, none⟩ = some (.int .u64 (0 : Nat))

theorem short_any (a : Nat) (ha : 0 < a) (h : a < 562949953421312) (w : World) (hT : Tab w) (h19 : 19 < w.heap.size) :
    Calls Tryz.prog 80 #[.int .u64 ((a * 2 ^ (63 - a.log2) : Nat) : Int), .int .i64 ((a.log2 : Int) - 66)] w fun e' w' =>
      ∃ d q : Nat, e' = .returned (.tuple #[.int .u64 d, .int .i64 (-(q : Int))]) ∧ 8 * d = a * 10 ^ q ∧ 2 ≤ q ∧ q ≤ 17 ∧ d < 18446744073709551616 ∧ Below w.heap.size w w' := by
  have hL0 : 2 ^ a.log2 ≤ a := Nat.log2_self_le (by omega)
  have hL1 : a < 2 ^ (a.log2 + 1) := Nat.lt_log2_self
  generalize a.log2 = L at *
  have hL : L < 49 := by
    rcases Nat.lt_or_ge L 49 with h' | h'
    · exact h'
    · have : 2 ^ 49 ≤ 2 ^ L := Nat.pow_le_pow_right (by decide) h'
      omega
  have hX0 : 9223372036854775808 ≤ a * 2 ^ (63 - L) := by
    have : 2 ^ L * 2 ^ (63 - L) ≤ a * 2 ^ (63 - L) := Nat.mul_le_mul_right _ hL0
    rw [← Nat.pow_add, show L + (63 - L) = 63 by omega] at this
    exact this
  have hX1 : a * 2 ^ (63 - L) < 18446744073709551616 := by
    have : a * 2 ^ (63 - L) < 2 ^ (L + 1) * 2 ^ (63 - L) := Nat.mul_lt_mul_of_pos_right hL1 (Nat.two_pow_pos _)
    rw [← Nat.pow_add, show L + 1 + (63 - L) = 64 by omega] at this
    exact this
  have hX8 : a * 2 ^ (63 - L) % 2048 = 0 := by
    rw [show 63 - L = (52 - L) + 11 by omega, Nat.pow_add, ← Nat.mul_assoc]
    exact Nat.mul_mod_left _ _
  -- the product, whatever the power
  have prod : ∀ P s : Nat, 3 ≤ P → P ≤ 17 → lpN P ≤ 60 → 63 - L - lpN P = s → 5 ≤ s → (a * 2 ^ (63 - L)) * hiN P = (a * 125 * 10 ^ (P - 3)) * 2 ^ (66 + s) := by
    intro P s h3 _ _ hs h5
    unfold hiN
    have e1 : 10 ^ P = 125 * 10 ^ (P - 3) * 2 ^ 3 := by
      conv => lhs; rw [show P = (P - 3) + 3 by omega, Nat.pow_add]
      omega
    have e2 : 2 ^ (66 + s) = 2 ^ 3 * 2 ^ (63 - L) * 2 ^ (63 - lpN P) := by
      rw [← Nat.pow_add, ← Nat.pow_add]
      congr 1
      omega
    rw [e1, e2]
    generalize 2 ^ (63 - L) = A
    generalize 2 ^ (63 - lpN P) = B
    generalize 10 ^ (P - 3) = C
    simp only [Nat.mul_assoc, Nat.mul_left_comm, Nat.mul_comm]
  have h8N : ∀ P : Nat, 3 ≤ P → 8 * (a * 125 * 10 ^ (P - 3)) = a * 10 ^ P := by
    intro P h3
    have e1 : 10 ^ P = 1000 * 10 ^ (P - 3) := by
      conv => lhs; rw [show P = (P - 3) + 3 by omega, Nat.pow_add]
      omega
    rw [e1]
    generalize 10 ^ (P - 3) = C
    rw [show a * (1000 * C) = 1000 * (a * C) by rw [← Nat.mul_assoc, Nat.mul_comm a 1000, Nat.mul_assoc], show a * 125 * C = 125 * (a * C) by rw [Nat.mul_comm a 125, Nat.mul_assoc]]
    omega
  have whole : ∀ N s : Nat, (usX (N * 2 ^ (66 + s)) s + 1 + usX (N * 2 ^ (66 + s)) s / 4 % 2) / 4 = N := by
    intro N s
    rw [usX_whole]
    omega
  generalize hX : a * 2 ^ (63 - L) = X at *
  have hXp : 0 < X := by omega
  obtain ⟨o, ho⟩ : ∃ o, X / 2048 % 2 = o := ⟨_, rfl⟩
  have ho1 : o ≤ 1 := by omega
  have hXs : X + 1024 < 18446744073709551616 := by omega
  by_cases hpw : X = 9223372036854775808
  · obtain ⟨f1, f2, f3, f4, f5⟩ := pS_facts ⟨L, hL⟩
    simp only at f1 f2 f3 f4 f5
    generalize pS L = P at *
    obtain ⟨g1, g2⟩ := hi_facts ⟨P, by omega⟩
    simp only at g1 g2
    obtain ⟨s, hs⟩ : ∃ s, 63 - L - lpN P = s := ⟨_, rfl⟩
    have hpr := prod P s f2 f3 g2 hs (by omega)
    have h8 := h8N P f2
    have hT1 := hT P f2 f3
    have hip : 0 < hiN P := Nat.mul_pos (Nat.pow_pos (by decide)) (Nat.two_pow_pos _)
    have g1' : hiN P < 18446744073709551616 := g1
    rw [hs] at f4
    have hw : (512 + 1024) * hiN P < 10 * 2 ^ (66 + s) := by
      have e1 : (512 + 1024) * hiN P = 3 * (10 ^ P * 2 ^ L) * 2 ^ (9 + (63 - lpN P - L)) := by
        unfold hiN
        rw [show 63 - lpN P = L + (63 - lpN P - L) by omega, Nat.pow_add 2 L, Nat.pow_add 2 9, show L + (63 - lpN P - L) - L = 63 - lpN P - L by omega]
        generalize 2 ^ (63 - lpN P - L) = A
        generalize 2 ^ L = B
        generalize 10 ^ P = C
        rw [show C * (B * A) = C * B * A from (Nat.mul_assoc _ _ _).symm]
        generalize C * B = E
        rw [show 3 * E * (2 ^ 9 * A) = 1536 * (E * A) by rw [show 3 * E * (2 ^ 9 * A) = (3 * 2 ^ 9) * (E * A) by simp only [Nat.mul_assoc, Nat.mul_left_comm]]]
      have e2 : 10 * 2 ^ (66 + s) = 10 * 2 ^ 57 * 2 ^ (9 + (63 - lpN P - L)) := by
        rw [Nat.mul_assoc, ← Nat.pow_add]
        congr 2
        omega
      rw [e1, e2]
      exact Nat.mul_lt_mul_of_pos_right f5 (Nat.two_pow_pos _)
    have h3 : P = 3 → 1024 * hiN P < 5 * 2 ^ (66 + s) := by
      intro hP
      subst hP
      have hl : lpN 3 = 9 := by decide
      have hs' : 66 + s = 64 + (56 - L) := by omega
      have h28 : 2 ^ 8 ≤ 2 ^ (56 - L) := Nat.pow_le_pow_right (by decide) (by omega)
      unfold hiN
      rw [hl, hs', Nat.pow_add]
      generalize 2 ^ (56 - L) = A at *
      simp only [Nat.reducePow, Nat.reduceSub] at h28 ⊢
      omega
    generalize hN : a * 125 * 10 ^ (P - 3) = N at *
    obtain ⟨c, hc⟩ : ∃ c, (usX ((X - 512) * hiN P) s + o + 3) / 4 = c := ⟨_, rfl⟩
    obtain ⟨f, hf⟩ : ∃ f, (usX ((X + 1024) * hiN P) s - o) / 4 = f := ⟨_, rfl⟩
    obtain ⟨a1, a2, a3, a4, a5⟩ := about X (hiN P) s N c f o 512 hip hpr (by omega) (by decide) hip ho1 hw hc hf
    have a6 : P = 3 → N - c < 5 ∧ f - N < 5 := fun h => a5 (h3 h) (by decide)
    obtain ⟨w1, w2⟩ := ways a N P c f f2 h8 a1 a2 a3 a6
    have u1 := usX_small (X - 512) (hiN P) s (by omega) g1' f4
    have u2 := usX_small (X + 1024) (hiN P) s hXs g1' f4
    have u3 := usX_small X (hiN P) s hX1 g1' f4
    have hlp : (P : Int) * 108853 / 32768 = ((lpN P : Nat) : Int) := by unfold lpN; omega
    have hsI : -(((L : Int) - 66) + ((lpN P : Nat) : Int) + 3) = (s : Int) := by omega
    have ht0 : w.cell? ⟨19, (((P : Int) + 348).toNat) * 2, none⟩ = some (.int .u64 (hiN P)) := by
      rw [show ((P : Int) + 348).toNat = P + 348 by omega]; exact hT1.1
    have ht1 : w.cell? ⟨19, (((P : Int) + 348).toNat) * 2 + 1, none⟩ = some (.int .u64 (0 : Nat)) := by
      rw [show ((P : Int) + 348).toNat = P + 348 by omega]; exact hT1.2
    rcases Nat.lt_or_ge (f / 10 * 10) c with hge | hge
    · have hP3 := ways_mid a N P c f f2 h8 a1 a2 a3 hge
      by_cases hlt : c < f
      · refine (short_pow_2 X ((L : Int) - 66) P (lpN P : Nat) s (hiN P) o c f hpw (by omega) hX8 (by omega) (by omega) f1 (by omega) (by omega) hlp (by omega) (by omega) hsI f4 g1' ho ho1 hc hf u1 u2 a4 u3 N (by rw [hpr]; exact whole N s) w ht0 ht1 h19 hge hlt).mono ?_
        rintro e' w' ⟨rfl, hb⟩
        exact ⟨N, P, rfl, h8, by omega, f3, by omega, hb⟩
      · refine (short_pow_3 X ((L : Int) - 66) P (lpN P : Nat) s (hiN P) o c f hpw (by omega) hX8 (by omega) (by omega) f1 (by omega) (by omega) hlp (by omega) (by omega) hsI f4 g1' ho ho1 hc hf u1 u2 a4 w ht0 ht1 h19 hge hlt).mono ?_
        rintro e' w' ⟨rfl, hb⟩
        exact ⟨c, P, rfl, by rw [w2 hge hlt]; exact h8, by omega, f3, by omega, hb⟩
    · refine (short_pow_1 X ((L : Int) - 66) P (lpN P : Nat) s (hiN P) o c f hpw (by omega) hX8 (by omega) (by omega) f1 (by omega) (by omega) hlp (by omega) (by omega) hsI f4 g1' ho ho1 hc hf u1 u2 a4 w ht0 ht1 h19 hge).mono ?_
      rintro e' w' ⟨rfl, hb⟩
      exact ⟨f / 10, P - 1, by rw [show ((P - 1 : Nat) : Int) = (P : Int) - 1 by omega], w1 hge, by omega, by omega, by omega, hb⟩
  · obtain ⟨f1, f2, f3, f4, f5⟩ := pN_facts ⟨L, hL⟩
    simp only at f1 f2 f3 f4 f5
    generalize pN L = P at *
    obtain ⟨g1, g2⟩ := hi_facts ⟨P, by omega⟩
    simp only at g1 g2
    obtain ⟨s, hs⟩ : ∃ s, 63 - L - lpN P = s := ⟨_, rfl⟩
    have hpr := prod P s f2 f3 g2 hs (by omega)
    have h8 := h8N P f2
    have hT1 := hT P f2 f3
    have hip : 0 < hiN P := Nat.mul_pos (Nat.pow_pos (by decide)) (Nat.two_pow_pos _)
    have g1' : hiN P < 18446744073709551616 := g1
    rw [hs] at f4
    have hw : (1024 + 1024) * hiN P < 10 * 2 ^ (66 + s) := by
      have e1 : (1024 + 1024) * hiN P = (10 ^ P * 2 ^ L) * 2 ^ (11 + (63 - lpN P - L)) := by
        unfold hiN
        rw [show 63 - lpN P = L + (63 - lpN P - L) by omega, Nat.pow_add 2 L, Nat.pow_add 2 11, show L + (63 - lpN P - L) - L = 63 - lpN P - L by omega]
        generalize 2 ^ (63 - lpN P - L) = A
        generalize 2 ^ L = B
        generalize 10 ^ P = C
        rw [show C * (B * A) = C * B * A from (Nat.mul_assoc _ _ _).symm]
        generalize C * B = E
        rw [show E * (2 ^ 11 * A) = 2 ^ 11 * (E * A) by simp only [Nat.mul_left_comm]]
      have e2 : 10 * 2 ^ (66 + s) = 10 * 2 ^ 55 * 2 ^ (11 + (63 - lpN P - L)) := by
        rw [Nat.mul_assoc, ← Nat.pow_add]
        congr 2
        omega
      rw [e1, e2]
      exact Nat.mul_lt_mul_of_pos_right f5 (Nat.two_pow_pos _)
    have h3 : P = 3 → 1024 * hiN P < 5 * 2 ^ (66 + s) := by
      intro hP
      subst hP
      have hl : lpN 3 = 9 := by decide
      have hs' : 66 + s = 64 + (56 - L) := by omega
      have h28 : 2 ^ 8 ≤ 2 ^ (56 - L) := Nat.pow_le_pow_right (by decide) (by omega)
      unfold hiN
      rw [hl, hs', Nat.pow_add]
      generalize 2 ^ (56 - L) = A at *
      simp only [Nat.reducePow, Nat.reduceSub] at h28 ⊢
      omega
    generalize hN : a * 125 * 10 ^ (P - 3) = N at *
    obtain ⟨c, hc⟩ : ∃ c, (usX ((X - 1024) * hiN P) s + o + 3) / 4 = c := ⟨_, rfl⟩
    obtain ⟨f, hf⟩ : ∃ f, (usX ((X + 1024) * hiN P) s - o) / 4 = f := ⟨_, rfl⟩
    obtain ⟨a1, a2, a3, a4, a5⟩ := about X (hiN P) s N c f o 1024 hip hpr (by omega) (by decide) hip ho1 hw hc hf
    have a6 : P = 3 → N - c < 5 ∧ f - N < 5 := fun h => a5 (h3 h) (by decide)
    obtain ⟨w1, w2⟩ := ways a N P c f f2 h8 a1 a2 a3 a6
    have u1 := usX_small (X - 1024) (hiN P) s (by omega) g1' f4
    have u2 := usX_small (X + 1024) (hiN P) s hXs g1' f4
    have u3 := usX_small X (hiN P) s hX1 g1' f4
    have hlp : (P : Int) * 108853 / 32768 = ((lpN P : Nat) : Int) := by unfold lpN; omega
    have hsI : -(((L : Int) - 66) + ((lpN P : Nat) : Int) + 3) = (s : Int) := by omega
    have ht0 : w.cell? ⟨19, (((P : Int) + 348).toNat) * 2, none⟩ = some (.int .u64 (hiN P)) := by
      rw [show ((P : Int) + 348).toNat = P + 348 by omega]; exact hT1.1
    have ht1 : w.cell? ⟨19, (((P : Int) + 348).toNat) * 2 + 1, none⟩ = some (.int .u64 (0 : Nat)) := by
      rw [show ((P : Int) + 348).toNat = P + 348 by omega]; exact hT1.2
    rcases Nat.lt_or_ge (f / 10 * 10) c with hge | hge
    · have hP3 := ways_mid a N P c f f2 h8 a1 a2 a3 hge
      by_cases hlt : c < f
      · refine (short_odd_2 X ((L : Int) - 66) P (lpN P : Nat) s (hiN P) o c f (by omega) (by omega) hX8 (by omega) (by omega) f1 (by omega) (by omega) hlp (by omega) (by omega) hsI f4 g1' ho ho1 hc hf u1 u2 a4 u3 N (by rw [hpr]; exact whole N s) w ht0 ht1 h19 hge hlt).mono ?_
        rintro e' w' ⟨rfl, hb⟩
        exact ⟨N, P, rfl, h8, by omega, f3, by omega, hb⟩
      · refine (short_odd_3 X ((L : Int) - 66) P (lpN P : Nat) s (hiN P) o c f (by omega) (by omega) hX8 (by omega) (by omega) f1 (by omega) (by omega) hlp (by omega) (by omega) hsI f4 g1' ho ho1 hc hf u1 u2 a4 w ht0 ht1 h19 hge hlt).mono ?_
        rintro e' w' ⟨rfl, hb⟩
        exact ⟨c, P, rfl, by rw [w2 hge hlt]; exact h8, by omega, f3, by omega, hb⟩
    · refine (short_odd_1 X ((L : Int) - 66) P (lpN P : Nat) s (hiN P) o c f (by omega) (by omega) hX8 (by omega) (by omega) f1 (by omega) (by omega) hlp (by omega) (by omega) hsI f4 g1' ho ho1 hc hf u1 u2 a4 w ht0 ht1 h19 hge).mono ?_
      rintro e' w' ⟨rfl, hb⟩
      exact ⟨f / 10, P - 1, by rw [show ((P - 1 : Nat) : Int) = (P : Int) - 1 by omega], w1 hge, by omega, by omega, by omega, hb⟩
end Go.Proofs.YtlnkieokhefkfaaGreatDoor
