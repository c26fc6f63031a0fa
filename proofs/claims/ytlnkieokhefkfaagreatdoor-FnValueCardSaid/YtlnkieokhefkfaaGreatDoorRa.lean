/-
  What the tables of the row say of the world's cells.
-/
import Derived.Test.YtlnkieokhefkfaaGreatDoorRows
import Derived.Test.YtlnkieokhefkfaaGreatDoorShelf
import Derived.PinnedBridge
import Derived.Lib.LaidU8
import Derived.Lib.LaidPrint
namespace Go.Proofs.YtlnkieokhefkfaaGreatDoor
open Go.RowKit Go.Lib

theorem opt_of {w : World} (h : VarReads Tryz.prog w "internal/strconv.optimize" Rows.laid_internal_strconv_optimize) : w.cell? ⟨4, 0, none⟩ = some (.bool true) := by
  obtain ⟨g, t, cs, fuel, p, hg, hty, hvar, hd⟩ := h
  obtain rfl := Option.some.inj ((show Tryz.prog.globalNamed "internal/strconv.optimize" = some 4 by kernel_rfl).symm.trans hg)
  obtain rfl := Option.some.inj ((show (Tryz.prog.globals[4]?).map (·.type) = some 4 by kernel_rfl).symm.trans hty)
  obtain ⟨b, hb, hx⟩ := DataW.trod_bool Tryz.underlying4 hd
  have e := congrArg Prod.fst hx
  simp only [Rows.laid_internal_strconv_optimize, DataW.lit.injEq, Lit.bool.injEq] at e
  subst e
  rw [World.var?_cell hg hvar 0, ← Array.getElem?_toList, hb]
  rfl

theorem mb_of {w : World} (h : VarReads Tryz.prog w "internal/strconv.float64info" Rows.laid_internal_strconv_float64info) : w.cell? ⟨8, 0, none⟩ = some (.int .u64 52) := by
  obtain ⟨g, t, cs, fuel, p, hg, hty, hvar, hd⟩ := h
  obtain rfl := Option.some.inj ((show Tryz.prog.globalNamed "internal/strconv.float64info" = some 8 by kernel_rfl).symm.trans hg)
  obtain rfl := Option.some.inj ((show (Tryz.prog.globals[8]?).map (·.type) = some 136 by kernel_rfl).symm.trans hty)
  obtain ⟨xs, n, rfl, hx, hl, hxl, hall⟩ := DataW.trod_struct Tryz.underlying136 hd
  have hxs : xs.map (·.1) = [.lit (.int .u64 52), .lit (.int .u64 11), .lit (.int .i64 (-1023))] := by
    have := congrArg Prod.fst hx
    simpa [Rows.laid_internal_strconv_float64info] using this.symm
  obtain ⟨x0, x1, x2, rfl⟩ : ∃ x0 x1 x2, xs = [x0, x1, x2] := by
    match xs, hxs with
    | [x0, x1, x2], _ => exact ⟨x0, x1, x2, rfl⟩
  simp only [List.map_cons, List.map_nil, List.cons.injEq, and_true] at hxs
  obtain ⟨e0, e1, e2⟩ := hxs
  have f0 := hall 0 _ rfl
  change DataW.trod _ _ _ _ _ _ _ 87 ((cs.toList.drop 0).take (Tryz.prog.cellsOf 87)) = some x0 at f0
  rw [show Tryz.prog.cellsOf 87 = 1 by kernel_rfl] at f0
  obtain ⟨z, hz, hb, _⟩ := DataW.trod_int Tryz.underlying87 f0
  rw [hb] at e0
  simp only [DataW.lit.injEq, Lit.int.injEq, true_and] at e0
  subst e0
  have h0 := congrArg (·[0]?) hz
  simp only [List.getElem?_take, List.getElem?_drop] at h0
  rw [World.var?_cell hg hvar 0, ← Array.getElem?_toList]
  simpa using h0

theorem p10_of {w : World} (h : VarReads Tryz.prog w "internal/strconv.uint64pow10" Rows.laid_internal_strconv_uint64pow10) : Lib.TabIs Tryz.prog w "internal/strconv.uint64pow10" .u64 Lib.pow10Tab := by
  obtain ⟨g, t, cs, fuel, p, hg, hty, hvar, hd⟩ := h
  obtain rfl := Option.some.inj ((show Tryz.prog.globalNamed "internal/strconv.uint64pow10" = some 1 by kernel_rfl).symm.trans hg)
  obtain rfl := Option.some.inj ((show (Tryz.prog.globals[1]?).map (·.type) = some 83 by kernel_rfl).symm.trans hty)
  rw [show (Rows.laid_internal_strconv_uint64pow10 : DataW Unit) = Lib.tabData .u64 Lib.pow10Tab by kernel_rfl] at hd
  have hcs := Lib.cells_of_tab Tryz.underlying83 Tryz.underlying29 (by kernel_rfl) (by kernel_rfl) hd
  show w.var? Tryz.prog "internal/strconv.uint64pow10" = some _
  rw [hvar, ← hcs]

theorem hilo_of {w : World} (h : VarReads Tryz.prog w "internal/strconv.pow10Tab" Rows.laid_internal_strconv_pow10Tab) (i : Nat) (hi lo : Nat) (hr : Go.Pinned.pow10Rows[i]? = some (hi, lo)) (h696 : i < 696) :
    w.cell? ⟨19, i * 2, none⟩ = some (.int .u64 hi) ∧ w.cell? ⟨19, i * 2 + 1, none⟩ = some (.int .u64 lo) := by
  obtain ⟨g, t, cs, fuel, p, hg, hty, hvar, hd⟩ := h
  obtain rfl := Option.some.inj ((show Tryz.prog.globalNamed "internal/strconv.pow10Tab" = some 19 by kernel_rfl).symm.trans hg)
  obtain rfl := Option.some.inj ((show (Tryz.prog.globals[19]?).map (·.type) = some 182 by kernel_rfl).symm.trans hty)
  obtain ⟨fuel', d, q, hdi, he⟩ := array_elem Tryz.underlying182 hd i h696
  rw [List.getElem?_map, hr] at hdi
  simp only [Option.map_some, Option.some.injEq] at hdi
  subst hdi
  rw [show Tryz.prog.cellsOf 181 = 2 by kernel_rfl] at he
  have hcs := ints_of_struct (k := .u64) (zs := [(hi : Int), (lo : Int)]) Tryz.underlying181 (fun j f hj => by
    match j, hj with
    | 0, hj => simp at hj; subst hj; exact ⟨Tryz.underlying29, rfl, by kernel_rfl⟩
    | 1, hj => simp at hj; subst hj; exact ⟨Tryz.underlying29, rfl, by kernel_rfl⟩
    | j + 2, hj => simp at hj) (by kernel_rfl) he
  have e0 := congrArg (·[0]?) hcs
  have e1 := congrArg (·[1]?) hcs
  simp only [List.getElem?_take, List.getElem?_drop] at e0 e1
  constructor
  · rw [World.var?_cell hg hvar (i * 2), ← Array.getElem?_toList]
    simpa using e0
  · rw [World.var?_cell hg hvar (i * 2 + 1), ← Array.getElem?_toList]
    simpa using e1

theorem trod_float' {H : Type} {enc : TypeId × Value → H} {P : Program} {w : World} {base : Nat} {spare : Nat → Bool} {held : Bool} {fuel : Nat} {t : TypeId} {cs : List Value} {x : DataW H × List MemPlace} {k : FloatKind} (ht : P.underlying t = some (.float k))
    (h : DataW.trod enc P w base spare held fuel t cs = some x) : ∃ n, cs = [.float k n] ∧ x = (.lit (.float k n), []) ∧ (Lit.float k n).wf = true := by
  cases fuel with
  | zero => simp [DataW.trod] at h
  | succ n =>
    unfold DataW.trod at h
    rw [ht] at h
    split at h <;> simp_all

theorem floats_of {w : World} (h : VarReads Tryz.prog w "internal/strconv.float64pow10" Rows.laid_internal_strconv_float64pow10) :
    ∃ R o : Nat, w.cell? ⟨18, 0, none⟩ = some (.slice (some ⟨R, o, none⟩) 23 23) ∧ w.cell? ⟨R, o + 1, none⟩ = some (.float .f64 4621819117588971520)
      ∧ w.cell? ⟨R, o + 2, none⟩ = some (.float .f64 4636737291354636288) ∧ w.cell? ⟨R, o + 3, none⟩ = some (.float .f64 4652007308841189376) := by
  obtain ⟨g, t, cs, fuel, p, hg, hty, hvar, hd⟩ := h
  obtain rfl := Option.some.inj ((show Tryz.prog.globalNamed "internal/strconv.float64pow10" = some 18 by kernel_rfl).symm.trans hg)
  obtain rfl := Option.some.inj ((show (Tryz.prog.globals[18]?).map (·.type) = some 178 by kernel_rfl).symm.trans hty)
  rcases DataW.trod_slice Tryz.underlying178 hd with ⟨_, hx⟩ | ⟨a, len, cap, el, rs, m, rfl, hcs, hx, _, hlc, _, hel, helem, hsp, _⟩
  · cases hx
  have e0 := congrArg Prod.fst hx
  simp only [Rows.laid_internal_strconv_float64pow10, DataW.slice.injEq] at e0
  obtain ⟨eE, eR⟩ := e0
  have hlen : len = 23 := by
    have := congrArg List.length eE
    simp at this
    omega
  have hcap : cap = 23 := by
    have h1 := congrArg List.length eR
    simp at h1
    have h2 := (hsp rfl).1
    omega
  subst hlen hcap
  have hcell : ∀ i (b : Nat), i < 23 → (el.map (·.1))[i]? = some (.lit (.float .f64 b)) → w.cell? (a.add i) = some (.float .f64 b) := by
    intro i b hi hb
    have h1 := helem i (by omega)
    rw [show Tryz.prog.cellsOf 22 = 1 by kernel_rfl] at h1
    obtain ⟨x, hx'⟩ : ∃ x, el[i]? = some x := ⟨el[i]'(by omega), List.getElem?_eq_getElem (by omega)⟩
    rw [hx'] at h1
    obtain ⟨ce, hce, hte⟩ := Option.bind_eq_some_iff.1 h1
    obtain ⟨z, hz, hbz, _⟩ := trod_float' Tryz.underlying22 hte
    rw [List.getElem?_map, hx'] at hb
    simp only [Option.map_some, Option.some.injEq, hbz, DataW.lit.injEq, Lit.float.injEq, true_and] at hb
    subst hb
    obtain ⟨_, _, hcc⟩ := World.cells?_some hce
    have := hcc 0 (by omega)
    rw [hz] at this
    simp only [Nat.mul_one] at this
    have e1 : (a.add i).add 0 = a.add i := by simp [Addr.add]
    rw [e1] at this
    rw [this]
    rfl
  rw [← eE] at hcell
  have c1 := hcell 1 _ (by omega) rfl
  have c2 := hcell 2 _ (by omega) rfl
  have c3 := hcell 3 _ (by omega) rfl
  obtain ⟨R, o, sR⟩ := a
  obtain rfl : sR = none := by
    have h00 := hcell 0 _ (by omega) rfl
    have : (Addr.add ⟨R, o, sR⟩ 0) = ⟨R, o, sR⟩ := by simp [Addr.add]
    rw [this] at h00
    exact Go.Proofs.cell_spot h00
  rw [Addr.add_lit] at c1 c2 c3
  refine ⟨R, o, ?_, c1, c2, c3⟩
  rw [World.var?_cell hg hvar 0, ← Array.getElem?_toList, hcs]
  rfl

theorem utf8_of {w : World} (h3 : VarReads Tryz.prog w "unicode/utf8.first" Rows.laid_unicode_utf8_first) (h4 : VarReads Tryz.prog w "unicode/utf8.acceptRanges" Rows.laid_unicode_utf8_acceptRanges) : Lib.Utf8Tabs 9 10 w :=
  utf8Tabs_of_reads (ρ := Tryz.lays177_ren) { Tryz.lays177 with } ⟨by kernel_rfl, by kernel_rfl, by kernel_rfl, by kernel_rfl, by kernel_rfl, by kernel_rfl, by kernel_rfl⟩
    (Go.Pinned.utf8First_eq ▸ h3) ((show (Rows.laid_unicode_utf8_acceptRanges : DataW Unit) = Lib.acceptData by kernel_rfl) ▸ h4)
theorem print_of {w : World} (h1 : VarReads Tryz.prog w "strconv.isPrint16" Rows.laid_strconv_isPrint16) (h2 : VarReads Tryz.prog w "strconv.isNotPrint16" Rows.laid_strconv_isNotPrint16)
    (h3 : VarReads Tryz.prog w "strconv.isPrint32" Rows.laid_strconv_isPrint32) (h4 : VarReads Tryz.prog w "strconv.isNotPrint32" Rows.laid_strconv_isNotPrint32) : Lib.PrintTabsAt 11 12 13 14 Lib.goPrintTabs w :=
  printTabs_of_reads (ρ := Tryz.lays177_ren) { Tryz.lays177 with } ⟨by kernel_rfl, by kernel_rfl, by kernel_rfl, by kernel_rfl, by kernel_rfl, by kernel_rfl, by kernel_rfl, by kernel_rfl, by kernel_rfl, by kernel_rfl⟩
    (Go.Pinned.isPrint16_eq ▸ h1) (Go.Pinned.isNotPrint16_eq ▸ h2) (Go.Pinned.isPrint32_eq ▸ h3) (Go.Pinned.isNotPrint32_eq ▸ h4)
end Go.Proofs.YtlnkieokhefkfaaGreatDoor
