/-
  safe, DurationRead at "1h30m", walked.
-/
import Derived.Test.YtlnkieokhefkfaaGreatDoorDa
import Derived.Defers
import Derived.Recover
import Derived.Laws.Pointers
namespace Go.Proofs.YtlnkieokhefkfaaGreatDoor
open Go.RowKit Go.Lib

theorem catch_idle (p : Addr) (v : Value) (w : World) (hc : w.cell? p = some v) (hz : w.frozen? p = false) :
    CallsD Tryz.prog 32 #[.pointer (some p)] .returning w fun e u' w' => e = .returned (.tuple #[]) ∧ u' = .returning ∧ w' = w.setCell p (.bool true) := by
  refine callsD_of_wpS Tryz.func32 rfl fun c₀ cs hu => ?_
  apply wpS_region
  simp [wpOpsS, go_sem, recoverD, hu, Tryz.ntmps32, hc, hz, bodyPostS, results, Tryz.results32]
  cases c₀
  simp_all

set_option maxRecDepth 100000 in
theorem safe_22 (cap : Array Value) (v : Value) (w WR : World) (h : ∀ W, Below w.heap.size w W → Calls Tryz.prog 22 cap W fun e w' => e = .returned v ∧ (∀ i, w.heap.size ≤ i → i < W.heap.size → w'.heap[i]? = W.heap[i]?) ∧ Below w.heap.size WR w') :
    Calls Tryz.prog 21 #[.func (.func 22) #[] cap] w fun e w' => e = .returned (.bool true) ∧ Below w.heap.size WR w' := by
  have hmf : ∀ (fn : Fn) (first cap : Array Value) (w : World), (Instr.makeFunc fn first cap).run Tryz.prog w = .ok (.func fn first cap) w := fun _ _ _ _ => rfl
  have K := Lib.hid h
  clear h
  go_enter_defers Tryz.func21, Tryz.ntmps21
  go_wp2_with (go_at_call 22; refine (K.out _ (below_alloc (Below.refl _ _) (Nat.le_refl _) _)).mono ?_; rintro e w' ⟨rfl, hk, hb⟩; have hbk : Blk w' w.heap.size 4 #[.bool false] := (hk _ (Nat.le_refl _) (by simp)).trans (Blk.new w _ _); have hc := hbk.cell 0; have hz := hbk.frozen 0; simp at hc)
  refine leaves_cons (f := 32) (args := #[.pointer (some ⟨w.heap.size, 0, none⟩)]) (by simp) (by simp [go_sem]) ?_
  refine (catch_idle ⟨w.heap.size, 0, none⟩ (.bool true) _ ?_ ?_).mono ?_
  · have h2 := hbk.set_ 0 (.bool true)
    rw [h2.cell]
    rfl
  · exact (hbk.set_ 0 (.bool true)).frozen 0
  rintro e u' w'' ⟨rfl, rfl, rfl⟩
  have h3 := ((hbk.set_ 0 (.bool true)).set_ 0 (.bool true)).cell 0
  simp at h3
  simp [Leaves, settle, results, Tryz.results21, go_sem, h3]
  exact below_set (below_set hb (Nat.le_refl _) _) (Nat.le_refl _) _
set_option maxRecDepth 100000 in
theorem safe_24 (cap : Array Value) (v : Value) (w WR : World) (h : ∀ W, Below w.heap.size w W → Calls Tryz.prog 24 cap W fun e w' => e = .returned v ∧ (∀ i, w.heap.size ≤ i → i < W.heap.size → w'.heap[i]? = W.heap[i]?) ∧ Below w.heap.size WR w') :
    Calls Tryz.prog 21 #[.func (.func 24) #[] cap] w fun e w' => e = .returned (.bool true) ∧ Below w.heap.size WR w' := by
  have hmf : ∀ (fn : Fn) (first cap : Array Value) (w : World), (Instr.makeFunc fn first cap).run Tryz.prog w = .ok (.func fn first cap) w := fun _ _ _ _ => rfl
  have K := Lib.hid h
  clear h
  go_enter_defers Tryz.func21, Tryz.ntmps21
  go_wp2_with (go_at_call 24; refine (K.out _ (below_alloc (Below.refl _ _) (Nat.le_refl _) _)).mono ?_; rintro e w' ⟨rfl, hk, hb⟩; have hbk : Blk w' w.heap.size 4 #[.bool false] := (hk _ (Nat.le_refl _) (by simp)).trans (Blk.new w _ _); have hc := hbk.cell 0; have hz := hbk.frozen 0; simp at hc)
  refine leaves_cons (f := 32) (args := #[.pointer (some ⟨w.heap.size, 0, none⟩)]) (by simp) (by simp [go_sem]) ?_
  refine (catch_idle ⟨w.heap.size, 0, none⟩ (.bool true) _ ?_ ?_).mono ?_
  · have h2 := hbk.set_ 0 (.bool true)
    rw [h2.cell]
    rfl
  · exact (hbk.set_ 0 (.bool true)).frozen 0
  rintro e u' w'' ⟨rfl, rfl, rfl⟩
  have h3 := ((hbk.set_ 0 (.bool true)).set_ 0 (.bool true)).cell 0
  simp at h3
  simp [Leaves, settle, results, Tryz.results21, go_sem, h3]
  exact below_set (below_set hb (Nat.le_refl _) _) (Nat.le_refl _) _
end Go.Proofs.YtlnkieokhefkfaaGreatDoor
