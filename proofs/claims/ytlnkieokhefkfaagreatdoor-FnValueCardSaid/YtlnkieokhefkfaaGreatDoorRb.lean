/-
  For every two numbers n and m of 64 bits the law FnValue returns true, and its arguments read as they did: a value of eighths is told in decimals, its JSON in quotes, both lead back, values are equal as the numbers are, and one that is no number is equal to itself.
  Conditions: none beyond the row's own: the listed package variables read as the program's text lays them (the tied card).
-/
import Derived.Test.YtlnkieokhefkfaaGreatDoorRa
import Derived.Test.YtlnkieokhefkfaaGreatDoorDf
import Derived.Test.YtlnkieokhefkfaaGreatDoorLa
import Derived.Test.YtlnkieokhefkfaaGreatDoorCards
import Derived.Test.YtlnkieokhefkfaaGreatDoorTie
import Derived.ProofKit
import Derived.Lay
import Derived.LaidOnce
import Derived.SevenTiedAt
namespace Go.Proofs.YtlnkieokhefkfaaGreatDoor
open Go.RowKit Go.Shelf Go.Lib Go.ChangeShapes Go.WideShapes Go.ChangeAt

theorem lift {f : Nat} {args : Array Value} {v : Value} {w W : World} (hW : Below w.heap.size w W) (h : Calls Tryz.prog f args W fun e w' => e = .returned v ∧ Below W.heap.size W w') :
    Calls Tryz.prog f args W fun e w' => e = .returned v ∧ Below w.heap.size w w' := h.mono fun _ _ ⟨he, hb⟩ => ⟨he, hW.trans (hb.mono hW.size)⟩
theorem liftSame {f : Nat} {args : Array Value} {v : Value} {w W : World} (hW : Below w.heap.size w W) (h : Calls Tryz.prog f args W fun e w' => e = .returned v ∧ w' = W) :
    Calls Tryz.prog f args W fun e w' => e = .returned v ∧ Below w.heap.size w w' := h.mono fun _ _ ⟨he, hb⟩ => ⟨he, hb ▸ hW⟩

theorem law (n m : Int) (w : World) (R o : Nat) (hE : Env w) (hP : EnvP R o w) (hT : Lib.PrintTabsAt 11 12 13 14 Lib.goPrintTabs w) (hU : Lib.Utf8Tabs 9 10 w) :
    Calls Tryz.prog 3 #[.int .i64 n, .int .i64 m] w fun e w' => e = .returned (.bool true) ∧ Below w.heap.size w w' := by
  by_cases hn : n.natAbs < 562949953421312
  · by_cases hm : m.natAbs < 562949953421312
    · have h0 : n.natAbs = 0 → decide (n < 0) = false := fun h => by simp; omega
      have hle := numText_len (decide (n < 0)) n.natAbs hn
      refine lawIn n m (numBits (decide (n < 0)) n.natAbs) (ValMath.eBits m) (strOfNums (numText (decide (n < 0)) n.natAbs)) (strOfNums (34 :: (numText (decide (n < 0)) n.natAbs ++ [34]))) w ?_ ?_
        (fun W hW => ?_) (fun W hW => ?_) (fun W hW => lift hW (modelAwake W)) (fun W hW => lift hW (eighthsText_any n hn W (hE.below hW)))
        (fun W hW => lift hW (valueJSON_num _ _ hn h0 W (hE.below hW) Lib.goPrintTabs (printTabs_low hT hW) (Utf8Tabs_low hU hW)))
        (fun W hW => lift hW (valueRead_num _ _ hn h0 R o W (hP.below hW)))
        (fun W hW => lift hW (valueText_num _ _ hn h0 W (hE.below hW)))
        (fun W hW => lift hW (valueText_nan W))
        (fun W hW => liftSame hW ?_)
        (fun W hW => liftSame hW (valueEqual_nans W))
        (fun W hW => liftSame hW ?_)
      · rw [strOfNums_size]
        omega
      · generalize numText (decide (n < 0)) n.natAbs = S
        rw [show (34 :: (S ++ [34]) : List Int) = [34] ++ S ++ [34] by simp, strOf_append, strOf_append]
        rfl
      · have := eighths_at n _ (quo_in n hn) W
        rw [decide_eq_true hn, eBits_eq] at this
        exact lift hW this
      · have := eighths_at m _ (quo_in m hm) W
        rw [decide_eq_true hm] at this
        exact lift hW this
      · have := valueEqual_num n m hn hm W
        rw [eBits_eq n] at this
        exact this
      · have := valueEqual_nan_num n hn W
        rw [eBits_eq n] at this
        exact this
    · obtain ⟨x, hx⟩ := quo_any n
      obtain ⟨y, hy⟩ := quo_any m
      exact lawOut n m x y (decide (n.natAbs < 562949953421312)) (decide (m.natAbs < 562949953421312)) (by rw [decide_eq_false hm, Bool.and_false]) w (fun W hW => lift hW (eighths_at n x hx W)) (fun W hW => lift hW (eighths_at m y hy W)) (fun W hW => lift hW (modelAwake W))
  · obtain ⟨x, hx⟩ := quo_any n
    obtain ⟨y, hy⟩ := quo_any m
    exact lawOut n m x y (decide (n.natAbs < 562949953421312)) (decide (m.natAbs < 562949953421312)) (by rw [decide_eq_false hn, Bool.false_and]) w (fun W hW => lift hW (eighths_at n x hx W)) (fun W hW => lift hW (eighths_at m y hy W)) (fun W hW => lift hW (modelAwake W))

theorem own : ownKnob Tryz.prog.godebug = none := by kernel_rfl

theorem heap_size {w : World} (h : (w.cell? ⟨19, 0, none⟩).isSome) : 19 < w.heap.size := by
  unfold World.cell? at h
  by_cases hl : 19 < w.heap.size
  · exact hl
  · rw [Array.getElem?_eq_none (by simpa using hl)] at h
    simp at h

theorem env_of {w : World} (hL : laidMet Tryz.prog Rows.fnValueRow.laid w) : Env w ∧ (∃ R o, EnvP R o w) ∧ Lib.PrintTabsAt 11 12 13 14 Lib.goPrintTabs w ∧ Lib.Utf8Tabs 9 10 w := by
  have hrd : ∀ {n d}, (n, d) ∈ Rows.fnValueRow.laid → VarReads Tryz.prog w n d := fun hm => Lib.laidMet.reads hL hm
  have hpow : VarReads Tryz.prog w "internal/strconv.pow10Tab" Rows.laid_internal_strconv_pow10Tab := hrd (by simp [Rows.fnValueRow])
  have hs : 19 < w.heap.size := heap_size (by rw [show (0 : Nat) = 0 * 2 by rfl, (hilo_of hpow 0 18054884314459144841 16775125305258875820 (by kernel_rfl) (by omega)).1]; rfl)
  obtain ⟨R, o, f0, f1, f2, f3⟩ := floats_of (hrd (by simp [Rows.fnValueRow]))
  refine ⟨⟨fun P h1 h2 => ?_, hs, p10_of (hrd (by simp [Rows.fnValueRow]))⟩, ⟨R, o, ⟨hs, opt_of (hrd (by simp [Rows.fnValueRow])), mb_of (hrd (by simp [Rows.fnValueRow])), f0, f1, f2, f3, ?_, ?_, ?_, ?_⟩⟩,
    print_of (hrd (by simp [Rows.fnValueRow])) (hrd (by simp [Rows.fnValueRow])) (hrd (by simp [Rows.fnValueRow])) (hrd (by simp [Rows.fnValueRow])),
    utf8_of (hrd (by simp [Rows.fnValueRow])) (hrd (by simp [Rows.fnValueRow]))⟩
  · have hall : (List.range 15).all (fun k => Go.Pinned.pow10Rows[k + 351]? == some (hiN (k + 3), 0)) = true := by kernel_rfl
    have hk := List.all_eq_true.1 hall (P - 3) (by simp; omega)
    rw [show P - 3 + 351 = P + 348 by omega, show P - 3 + 3 = P by omega, beq_iff_eq] at hk
    exact hilo_of hpow (P + 348) _ _ hk (by omega)
  · exact (hilo_of hpow 346 11805916207174113035 14019525496019259228 (by kernel_rfl) (by omega)).1
  · exact (hilo_of hpow 346 11805916207174113035 14019525496019259228 (by kernel_rfl) (by omega)).2
  · exact (hilo_of hpow 345 9444732965739290428 11215620396815407382 (by kernel_rfl) (by omega)).1
  · exact (hilo_of hpow 345 9444732965739290428 11215620396815407382 (by kernel_rfl) (by omega)).2

set_option maxRecDepth 100000 in
theorem lifted (os : Os) (started : os.Started) (H : Type) (enc : TypeId × Value → H) :
    ReturnsInHanded {} Tryz.checked os 3 .any (fun w args => (Rows.fnValueSpec.pre enc Tryz.prog Tryz.f3 [] false w args ∧ laidMetH Tryz.prog Rows.fnValueRow.laid w) ∧ sizedMet enc Tryz.prog Tryz.f3 (OpenSpec.ofChange Rows.fnValueSpec) false w args)
      (Rows.fnValueSpec.post enc Tryz.prog Tryz.f3 false true false false) := by
  refine returnsInHanded_of_change_and (C := Tryz.checked) (X := fun w _ => laidMetH Tryz.prog Rows.fnValueRow.laid w) (fun _ _ _ hh h => h.of_heap hh) own started (by kernel_rfl) Tryz.func3
    (ChangeSpec.witness_shaped (enc := enc) (C := Tryz.checked) (os := os) (X := fun w _ => laidMetH Tryz.prog Rows.fnValueRow.laid w) false (World.laidAll Tryz.prog os Rows.fnValueRow.laid) #[.int .i64 0, .int .i64 0] 64 (World.laidAll_os _ _ _)
      (World.shaped_of_ZipB (by kernel_rfl) (by kernel_rfl)) (by kernel_rfl) (by kernel_rfl) (by kernel_rfl)
      (by rw [MakeChecks.laidMetH_plain _ _ _ (by kernel_rfl)]; exact laidMet_laidAll _ (by kernel_rfl) (by kernel_rfl))) ?_
  intro W base args ds gs before hval0 hW _ _ hL _
  have hval : ∀ (j : Nat) t v, Tryz.f3.params[j]? = some t → args[j]? = some v → Value.okWide Tryz.prog W .any base t v := hval0
  have hW' := hW
  obtain ⟨p, q, hA0, hV, rfl, _, _⟩ := hW
  have hA : DataW.TrodAll enc Tryz.prog W 0 (fun _ => true) true Tryz.f3.params.toList args.toList ds p := hA0
  rw [Tryz.params3] at hA hval
  obtain ⟨v0, v1, d0, d1, p0, p1, rfl, rfl, rfl, h0, h1⟩ := trodAll_two hA
  obtain ⟨rfl, rfl⟩ := trodVars_none hV
  obtain ⟨x, rfl, rfl, rfl, wx⟩ := open_int Tryz.underlying2 (hval 0 2 v0 rfl rfl) h0
  obtain ⟨y, rfl, rfl, rfl, wy⟩ := open_int Tryz.underlying2 (hval 1 2 v1 rfl rfl) h1
  simp only [List.append_nil] at hW'
  rw [MakeChecks.laidMetH_plain _ _ _ (by kernel_rfl)] at hL
  obtain ⟨hE, ⟨R, o, hP⟩, hT, hU⟩ := env_of hL
  refine (law x y W R o hE hP hT hU).mono fun e W' ⟨he, hb⟩ => ?_
  subst he
  exact ⟨_, rfl, _, _, _, [], [], [], hW', trodAll_mk1 (shut_bool Tryz.underlying4 _), trodAll_mk2 (shut_int Tryz.underlying2 wx) (shut_int Tryz.underlying2 wy), rfl, hb.frame _, fun h => by cases h⟩

theorem fnValue_row : Rows.FnValueSaid :=
  OpenClaim.holds_of_wide 3 Tryz.f3 rfl rfl rfl rfl rfl rfl rfl ⟨rfl, rfl, rfl, rfl, rfl⟩ rfl rfl rfl rfl rfl (by kernel_rfl) Tryz.func3 (by kernel_rfl)
    (of_decide_eq_true (by kernel_rfl)) (by unfold Func.isWrapper; first | (rw [if_pos (by decide +kernel)]; kernel_rfl) | (rw [if_neg (by decide +kernel)]; exact ⟨rfl, rfl⟩))
    (fun os started H enc _ => lifted os started H enc)

theorem fnValue_card : Rows.FnValueCardSaid :=
  Claim7.holds_tied_plain_at .later [] [.data, .data, .widerDeep, .widerDeep, .data, .data, .data, .data, .data, .data, .sentinel, .sentinel, .pinned, .pinned, .pinned, .pinned, .pinned, .pinned, .pinned, .pinned] true (true, "221c885e2af4419a9849e824e5dfb6f62b44574c08f61daec3995de2a61cc354") true
    fnValue_row (fun _ h => by cases h) (by kernel_rfl) (fun _ h => by cases h) fnValue_row_tie rfl ⟨rfl, rfl⟩ (by kernel_rfl) rfl
    (fun f fn hf hfn => by
      obtain rfl : f = 3 := Option.some.inj ((show Tryz.prog.funcNamed "pub-samphire/laws.FnValue" = some 3 by kernel_rfl).symm.trans hf) |>.symm
      obtain rfl : fn = Tryz.f3 := (Option.some.inj (Tryz.func3.symm.trans hfn)).symm
      exact ⟨by kernel_rfl, fun j t ht => by
        rw [Tryz.params3] at ht
        have hm : t ∈ [2, 2] := by simpa using Array.mem_of_getElem? ht
        have hall : ([2, 2].all fun u => !Tryz.prog.wantsStandIn u) = true := by kernel_rfl
        exact (show Tryz.prog.wantsStandIn t = false by simpa using List.all_eq_true.1 hall t hm)⟩)
    (by kernel_rfl)
#print axioms fnValue_card
end Go.Proofs.YtlnkieokhefkfaaGreatDoor
