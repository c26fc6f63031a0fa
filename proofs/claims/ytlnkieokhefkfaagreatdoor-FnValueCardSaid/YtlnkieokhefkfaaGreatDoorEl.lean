/-
  What Quote makes of a number's text; MarshalJSON and ValueJSON, walked.
-/
import Derived.Test.YtlnkieokhefkfaaGreatDoorEk
namespace Go.Proofs.YtlnkieokhefkfaaGreatDoor
open Go.RowKit Go.Lib

theorem digs_range (u : Nat) : ∀ x ∈ digs u, 48 ≤ x ∧ x ≤ 57 := by
  induction u using Nat.strongRecOn with
  | ind u ih =>
    by_cases h : u < 10
    · rw [digs_small u h]
      intro x hx
      simp at hx
      omega
    · rw [digs_big u (by omega)]
      intro x hx
      rcases List.mem_append.1 hx with hx | hx
      · exact ih (u / 10) (by omega) x hx
      · simp at hx
        omega
theorem numText_range (neg : Bool) (a : Nat) : ∀ x ∈ numText neg a, 45 ≤ x ∧ x ≤ 57 := by
  intro x hx
  unfold numText at hx
  rcases List.mem_append.1 hx with hx | hx
  · unfold sgn at hx
    split at hx <;> simp at hx
    omega
  · rcases List.mem_append.1 hx with hx | hx
    · have := digs_range _ x hx; omega
    · unfold fracText at hx
      split at hx
      · simp at hx
      · rcases List.mem_cons.1 hx with hx | hx
        · omega
        · have := digs_range _ x hx; omega

theorem get_cons (x : Int) (xs : List Int) (h0 : 0 ≤ x) (h1 : x < 128) : ((strOfNums (x :: xs)).get! 0).toNat = x.toNat := by
  simp [strOfNums, ByteArray.get!]
  omega
theorem decode_cons (x : Int) (xs : List Int) (h0 : 0 ≤ x) (h1 : x < 128) : Utf8.decode (strOfNums (x :: xs)) 0 = (x.toNat, 1) := by
  rw [decode_at, get_cons x xs h0 h1]
  unfold decodeN
  rw [if_pos (by omega)]
theorem extract_cons (x : Int) (xs : List Int) : (strOfNums (x :: xs)).extract 1 (strOfNums (x :: xs)).size = strOfNums xs := by
  apply ByteArray.ext
  simp [strOfNums, ByteArray.size]
  rw [List.take_of_length_le (by simp)]
theorem quoteFrom_plain (T : PrintTabs) : ∀ (xs : List Int) (f : Nat), xs.length ≤ f → (∀ x ∈ xs, 45 ≤ x ∧ x ≤ 57) → quoteFrom T f (strOfNums xs) = xs
  | [], f, _, _ => quoteFrom_end T f _ (by simp [strOfNums_size])
  | x :: xs, f, hf, h => by
    obtain ⟨h0, h1⟩ := h x (by simp)
    have hs : (strOfNums (x :: xs)).size = xs.length + 1 := by rw [strOfNums_size]; rfl
    rw [quoteFrom_step T f _ (by omega) (by rw [hs]; exact hf)]
    rw [decode_cons x xs (by omega) (by omega)]
    simp only
    rw [extract_cons, quoteFrom_plain T xs (f - 1) (by simp at hf; omega) (fun y hy => h y (by simp [hy]))]
    unfold quoteStep
    rw [decode_cons x xs (by omega) (by omega)]
    simp only
    rw [if_neg (by omega), show ((x.toNat : Nat) : Int) = x by omega]
    unfold escRune
    rw [if_neg (by omega)]
    have hp : isPrintR T x = true := by
      unfold isPrintR isPrintLatin
      rw [if_pos (by omega)]
      simp
      omega
    rw [if_pos hp]
    unfold encodeRuneZ
    rw [if_pos (by omega)]
    rfl
theorem quote_plain (T : PrintTabs) (xs : List Int) (h : ∀ x ∈ xs, 45 ≤ x ∧ x ≤ 57) : quoteZ T (strOfNums xs) = 34 :: (xs ++ [34]) := by
  unfold quoteZ
  rw [quoteFrom_plain T xs _ (by rw [strOfNums_size]; exact Nat.le_refl _) h]

theorem Utf8Tabs_low {g3 g4 : Nat} {w w' : World} (h : Lib.Utf8Tabs g3 g4 w) (hb : Below w.heap.size w w') : Lib.Utf8Tabs g3 g4 w' := by
  have lt : ∀ {a : Addr} {v : Value}, w.cell? a = some v → a.block < w.heap.size := fun {a v} hc => by
    rcases Nat.lt_or_ge a.block w.heap.size with h' | h'
    · exact h'
    · simp [World.cell?, Array.getElem?_eq_none h'] at hc
  exact ⟨fun c hc => (hb.cell (lt (h.1 c hc))).trans (h.1 c hc), fun i hi => ⟨(hb.cell (lt (h.2 i hi).1)).trans (h.2 i hi).1, (hb.cell (lt (h.2 i hi).2)).trans (h.2 i hi).2⟩⟩
theorem tabSlice_low {g : Nat} {k : IntKind} {t : List Nat} {w w' : World} (h : TabSlice g k t w) (hb : Below w.heap.size w w') : TabSlice g k t w' := by
  obtain ⟨R, o, c, h1, h2⟩ := h
  have lt : ∀ {a : Addr} {v : Value}, w.cell? a = some v → a.block < w.heap.size := fun {a v} hc => by
    rcases Nat.lt_or_ge a.block w.heap.size with h' | h'
    · exact h'
    · simp [World.cell?, Array.getElem?_eq_none h'] at hc
  exact ⟨R, o, c, by rw [hb.cell (lt h1)]; exact h1, fun j hj => by rw [hb.cell (lt (h2 j hj))]; exact h2 j hj⟩
theorem printTabs_low {g0 g1 g2 g3 : Nat} {T : PrintTabs} {w w' : World} (h : PrintTabsAt g0 g1 g2 g3 T w) (hb : Below w.heap.size w w') : PrintTabsAt g0 g1 g2 g3 T w' :=
  ⟨tabSlice_low h.1 hb, tabSlice_low h.2.1 hb, tabSlice_low h.2.2.1 hb, tabSlice_low h.2.2.2.1 hb, h.2.2.2.2⟩

/-- What a row of bytes holds. -/
def Holds (w : World) (g : Nat) (xs : List Int) : Prop := ∀ i, i < xs.length → w.cell? ⟨g, i, none⟩ = some (.int .u8 (xs.getD i 0))
theorem Holds.below {w w' : World} {g : Nat} {xs : List Int} (h : Holds w g xs) (hg : g < w.heap.size) (hb : Below w.heap.size w w') : Holds w' g xs := fun i hi => (hb.cell (p := ⟨g, i, none⟩) hg).trans (h i hi)

/-- The row that '[]byte(s)' lays. -/
theorem holds_bytes (w : World) (xs : List Int) (c : Nat) (fz : Nat × Nat) (h : ∀ x ∈ xs, 0 ≤ x ∧ x < 256) : Holds (w.alloc (.cells (bytesRow (strOfNums xs) c) 5 fz)) w.heap.size xs := by
  intro i hi
  rw [cell_of_row _ w.heap.size i _ 5 fz (heap_alloc_new w _)]
  have hsz : i < (strOfNums xs).data.size := by have e : (strOfNums xs).data.size = xs.length := strOfNums_size xs; omega
  rw [bytesRow_at _ _ i hsz]
  have hx := h xs[i] (List.getElem_mem hi)
  have e : (strOfNums xs).data[i] = UInt8.ofNat xs[i].toNat := by simp [strOfNums]
  rw [e]
  simp [List.getD, List.getElem?_eq_getElem hi]
  omega

set_option maxRecDepth 100000 in
theorem marshal_any (B : Nat) (xs : List Int) (T : PrintTabs) (w : World) (hx : ∀ x ∈ xs, 45 ≤ x ∧ x ≤ 57) (hlen : xs.length ≤ 100) (hT : PrintTabsAt 11 12 13 14 T w) (hU : Utf8Tabs 9 10 w)
    (h19 : Calls Tryz.prog 19 #[.float .f64 B] w fun e w' => e = .returned (.string (strOfNums xs)) ∧ Below w.heap.size w w') :
    Calls Tryz.prog 16 #[.float .f64 B] w fun e w' => ∃ g c, e = .returned (.tuple #[.slice (some ⟨g, 0, none⟩) (xs.length + 2) c, .nilIface]) ∧ Holds w' g (34 :: (xs ++ [34])) ∧ Below w.heap.size w w' := by
  have K19 := Lib.hid h19
  have K27 : Hid (∀ W, Below w.heap.size w W → Calls Tryz.prog 27 #[.string (strOfNums xs)] W fun e w' => e = .returned (.string (strOfNums (34 :: (xs ++ [34])))) ∧ Below W.heap.size W w') := Lib.hid (by
    intro W hW
    have h := Tryz.strconv_Quote T (strOfNums xs) W (by rw [strOfNums_size]; omega) (printTabs_low hT hW) (Utf8Tabs_low hU hW)
    rw [quote_plain T xs hx] at h
    exact h)
  have hx2 : Hid (∀ x ∈ (34 :: (xs ++ [34])), 0 ≤ x ∧ x < 256) := Lib.hid (by
    intro x hm
    simp at hm
    rcases hm with rfl | hm | rfl
    · omega
    · have := hx x hm; omega
    · omega)
  have hcv := fun W : World => run_bytes_of_string (P := Tryz.prog) W 9 40 5 (strOfNums (34 :: (xs ++ [34]))) Tryz.underlying9 Tryz.underlying40 Tryz.underlying5
  clear h19 hx hT hU
  go_enter Tryz.func16, Tryz.ntmps16
  go_wp2_with (first | (go_at_call 19; refine K19.out.mono ?_; rintro e w1 ⟨rfl, hb1⟩) | (go_at_call 27; refine (K27.out _ hb1).mono ?_; rintro e w2 ⟨rfl, hb2⟩))
  go_ret2
  refine ⟨w2.heap.size, grownCap w2 (strOfNums (34 :: (xs ++ [34]))).size 0 5, ?_, holds_bytes w2 _ _ _ hx2.out, (below_alloc (hb1.trans (hb2.mono hb1.size)) (Nat.le_trans hb1.size hb2.size) _).drew⟩
  have e : (strOfNums (34 :: (xs ++ [34]))).size = xs.length + 2 := by rw [strOfNums_size]; simp
  rw [e]
  rfl

set_option maxRecDepth 100000 in
theorem valueJSON_any (B : Nat) (xs : List Int) (w : World)
    (h16 : Calls Tryz.prog 16 #[.float .f64 B] w fun e w' => ∃ g c, e = .returned (.tuple #[.slice (some ⟨g, 0, none⟩) (xs.length + 2 : Nat) c, .nilIface]) ∧ Holds w' g (34 :: (xs ++ [34])) ∧ Below w.heap.size w w') :
    Calls Tryz.prog 7 #[.int .u64 B] w fun e w' => e = .returned (.tuple #[.string (strOfNums (34 :: (xs ++ [34]))), .bool true]) ∧ Below w.heap.size w w' := by
  have K := Lib.hid h16
  have hbits := Float64frombits_run B
  clear h16
  go_enter Tryz.func7, Tryz.ntmps7
  go_wp2_with (go_at_call 16; refine K.out.mono ?_; rintro e w1 ⟨g, c, rfl, hH, hb⟩; have hcv := run_convert_bytes_arg (P := Tryz.prog) w1 40 5 Tryz.underlying40 Tryz.underlying5 g 0 (xs.length + 2) c (34 :: (xs ++ [34])) (by simp) (fun i hi => by rw [Nat.zero_add]; exact hH i (by simp; omega)) 9 Tryz.underlying9)
  go_ret2
  exact ⟨rfl, hb⟩

theorem fracText_len (f : Nat) (h : f < 8) : (fracText f).length ≤ 4 := by
  unfold fracText
  split
  · simp
  · rename_i h0
    have hT := frac_table ⟨f, h⟩ h0
    simp only at hT
    simp [digs_length]
    omega
theorem numText_len (neg : Bool) (a : Nat) (ha : a < 562949953421312) : (numText neg a).length ≤ 25 := by
  have h1 := fracText_len (a % 8) (by omega)
  have h2 := nDigits_le20 (a / 8) (by omega)
  unfold numText
  rw [List.length_append, List.length_append, digs_length]
  have : (sgn neg).length ≤ 1 := by unfold sgn; split <;> simp
  omega
theorem valueJSON_num (neg : Bool) (a : Nat) (ha : a < 562949953421312) (h0 : a = 0 → neg = false) (w : World) (hE : Env w) (T : PrintTabs) (hT : PrintTabsAt 11 12 13 14 T w) (hU : Utf8Tabs 9 10 w) :
    Calls Tryz.prog 7 #[.int .u64 (numBits neg a)] w fun e w' => e = .returned (.tuple #[.string (strOfNums (34 :: (numText neg a ++ [34]))), .bool true]) ∧ Below w.heap.size w w' :=
  valueJSON_any _ _ w (marshal_any _ _ T w (numText_range neg a) (Nat.le_trans (numText_len neg a ha) (by decide)) hT hU (string_num neg a ha h0 w hE))
end Go.Proofs.YtlnkieokhefkfaaGreatDoor
