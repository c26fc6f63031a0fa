/-
  internal/strconv.fmtEFG at 'f', walked: the digits are appended to a buffer with room.
-/
import Derived.Test.YtlnkieokhefkfaaGreatDoorBs
namespace Go.Proofs.YtlnkieokhefkfaaGreatDoor
open Go.RowKit

theorem Tryz.info5 : (Tryz.prog.info? 5).map (fun i => (i.zero, i.size, i.bytes)) = some (some (.int .u8 0), 1, 1) := by kernel_rfl

theorem one_at (w : World) (v : Value) (t : TypeId) : ∀ j u, [v][j]? = some u → (w.alloc (.cells #[v] t)).cell? ((⟨w.heap.size, 0, none⟩ : Addr).add j) = some u := by
  intro j u hj
  match j, hj with
  | 0, hj => simp at hj; subst hj; simp [Addr.add]
theorem one_one (k : IntKind) (n : Int) : ∀ u ∈ [Value.int k n], u.oneCell' = true := by
  intro u hu; simp at hu; subst hu; rfl

/-- The buffer: block g, from its head on, owns n bytes, with room to cap. -/
def Buf (w : World) (g n cap : Nat) (bs : List Int) : Prop := w.ownsRow g 5 1 (.slice (some ⟨g, 0, none⟩) n cap) n (bs.map (Value.int .u8))
theorem Buf.alloc {w : World} {g n cap : Nat} {bs : List Int} (h : Buf w g n cap bs) (o : Obj) : Buf (w.alloc o) g n cap bs := World.ownsRow.alloc h o
theorem Buf.snoc {w : World} {g n cap : Nat} {bs : List Int} {c : Int} (h : w.ownsRow g 5 1 (.slice (some ⟨g, 0, none⟩) (n + 1) cap) (n + 1) (bs.map (Value.int .u8) ++ [.int .u8 c])) : Buf w g (n + 1) cap (bs ++ [c]) := by
  simpa [Buf] using h
theorem Buf.step {w : World} {g m cap : Nat} {bs : List Int} {L : List Value} (h : w.ownsRow g 5 1 (.slice (some ⟨g, 0, none⟩) m cap) m L) (e : L = bs.map (Value.int .u8)) : Buf w g m cap bs := by
  unfold Buf
  rw [← e]
  exact h
theorem take_more (ds : List Int) (k : Nat) (h : k < ds.length) : ds.take (k + 1) = ds.take k ++ [ds.getD k 0] := by
  rw [List.take_succ_eq_append_getElem h]
  simp [List.getD, h]
theorem drop_take_more (ds : List Int) (m k : Nat) (h : m + k < ds.length) : (ds.drop m).take (k + 1) = (ds.drop m).take k ++ [ds.getD (m + k) 0] := by
  rw [take_more _ _ (by simp; omega)]
  simp [List.getD]


set_option maxRecDepth 100000 in
set_option maxHeartbeats 2000000 in
theorem efg_whole_pos (g n cap bs c1 : Nat) (xs ds : List Int) (nd dp : Nat) (hnd : ds.length = nd) (h1 : 0 < dp) (h2 : nd ≤ dp) (hdp : dp ≤ 1000) (hc1 : nd ≤ c1) (hc2 : c1 ≤ 1000) (w : World) (hcap : n + dp + 4 ≤ cap) (_hcm : cap ≤ 1000)
    (hb : Buf w g n cap xs) (hne : ¬ bs = g) (_hlt : bs < w.heap.size) (hd : ∀ j, j < nd → w.cell? ⟨bs, j, none⟩ = some (.int .u8 (ds.getD j 0))) :
    Calls Tryz.prog 73 #[.slice (some ⟨g, 0, none⟩) n cap, .bool false, .slice (some ⟨bs, 0, none⟩) c1 c1, .int .i64 dp, .int .i64 nd, .int .i64 0, .int .u8 102, .bool true] w fun e w' =>
      ∃ m, e = .returned (.slice (some ⟨g, 0, none⟩) m cap) ∧ Buf w' g m cap (xs ++ (ds ++ List.replicate (dp - nd) 48)) ∧ w.grownBy w' (some g) := by
  obtain ⟨i0, hi, hz0, hz1, hz2⟩ := info_parts Tryz.info5
  have HD := Lib.hid hd
  have HN := Lib.hid hnd
  have HB := Lib.hid hb
  clear hd hnd hb
  go_enter Tryz.func73, Tryz.ntmps73
  have HB0 : Hid (Buf w g n cap xs) := HB
  have HG0 : Hid (w.grownBy w (some g)) := Lib.hid (World.grownBy.refl _ _)
  go_wp2_with fail
  go_loopw [0, 191] (fun v i wr => ∃ k : Nat, k ≤ nd ∧ i = .int .i64 k ∧ v = .slice (some ⟨g, 0, none⟩) (n + k) cap ∧ Buf wr g (n + k) cap (xs ++ ds.take k) ∧ w.grownBy wr (some g)) (fun _ i _ => nd - (intOf i).toNat)
  case atStart => exact ⟨0, Nat.zero_le _, rfl, rfl, by simpa using HB0.out, HG0.out⟩
  case round =>
    obtain ⟨k, hk, rfl, rfl, hbk, hgk⟩ := hrel
    by_cases hlt2 : k < nd
    · have hcell : wr.cell? ⟨bs, k, none⟩ = some (.int .u8 (ds.getD k 0)) := hgk.cell (HD.out k hlt2) (fun e => hne (by injection e))
      have HBk := Lib.hid hbk
      have HGk := Lib.hid hgk
      clear hbk hgk
      go_wp2_with (at_builtin; refine wpList_append_fits _ rfl (.tmp 195) (.tmp 197) 40 rfl g 5 i0 1 Tryz.underlying40 hi hz1 g (n + k) cap _ rfl (World.ownsRow.alloc HBk.out _) ⟨wr.heap.size, 0, none⟩ 1 1 [.int .u8 (ds.getD k 0)] rfl rfl (one_at _ _ _) (one_one _ _) (by omega) ?_; intro w1 hown1 hgrow1)
      go_wp2_with fail
      go_roundw
      case rel => exact ⟨k + 1, by omega, by go_num, rfl, Buf.step hown1 (by rw [take_more ds k (by rw [HN.out]; exact hlt2)]; simp [List.getD]), (only_alloc HGk.out _).trans hgrow1⟩
      case measure => simp [intOf]; omega
    · obtain rfl : k = nd := by omega
      have hbk' : Buf wr g (n + k) cap (xs ++ ds) := by rw [List.take_of_length_le (by rw [HN.out]; omega)] at hbk; exact hbk
      have HBk := Lib.hid hbk'
      have HGk := Lib.hid hgk
      clear hbk hbk' hgk
      go_wp2_with fail
      obtain ⟨wo, rfl⟩ : ∃ wo : World, wo = wr := ⟨_, rfl⟩
      go_loopw [0, 203] (fun v i wr => ∃ j : Nat, j ≤ dp - k ∧ i = .int .i64 j ∧ v = .slice (some ⟨g, 0, none⟩) (n + k + j) cap ∧ Buf wr g (n + k + j) cap (xs ++ ds ++ List.replicate j 48) ∧ w.grownBy wr (some g)) (fun _ i _ => (dp - k) - (intOf i).toNat)
      case atStart => exact ⟨0, Nat.zero_le _, rfl, rfl, by simpa using HBk.out, HGk.out⟩
      case round =>
        obtain ⟨j, hj, rfl, rfl, hbj, hgj⟩ := hrel
        have HBj := Lib.hid hbj
        have HGj := Lib.hid hgj
        clear hbj hgj
        by_cases hlt3 : j < dp - k
        · have hlt4 : (j : Int) < (dp : Int) - (k : Int) := by omega
          go_wp2_with (at_builtin; refine wpList_append_fits _ rfl (.tmp 205) (.tmp 206) 40 rfl g 5 i0 1 Tryz.underlying40 hi hz1 g (n + k + j) cap _ rfl (World.ownsRow.alloc HBj.out _) ⟨wr.heap.size, 0, none⟩ 1 1 [.int .u8 48] rfl rfl (one_at _ _ _) (one_one _ _) (by omega) ?_; intro w1 hown1 hgrow1)
          go_wp2_with fail
          go_roundw
          case rel => exact ⟨j + 1, by omega, by go_num, rfl, Buf.step hown1 (by rw [List.replicate_succ']; simp), (only_alloc HGj.out _).trans hgrow1⟩
          case measure => simp [intOf]; omega
        · obtain rfl : j = dp - k := by omega
          have hge4 : ¬ (((dp - k : Nat) : Int) < (dp : Int) - (k : Int)) := by omega
          have HBf : Hid (Buf wr g (n + k + (dp - k)) cap (xs ++ (ds ++ List.replicate (dp - k) 48))) := Lib.hid (by rw [← List.append_assoc]; exact HBj.out)
          go_wp2_with fail
          go_ret
          exact ⟨_, rfl, by simpa using HBf.out, HGj.out⟩

set_option maxRecDepth 100000 in
set_option maxHeartbeats 2000000 in
theorem efg_whole_neg (g n cap bs c1 : Nat) (xs ds : List Int) (nd dp : Nat) (hnd : ds.length = nd) (h1 : 0 < dp) (h2 : nd ≤ dp) (hdp : dp ≤ 1000) (hc1 : nd ≤ c1) (hc2 : c1 ≤ 1000) (w : World) (hcap : n + dp + 4 ≤ cap) (_hcm : cap ≤ 1000)
    (hb : Buf w g n cap xs) (hne : ¬ bs = g) (_hlt : bs < w.heap.size) (hd : ∀ j, j < nd → w.cell? ⟨bs, j, none⟩ = some (.int .u8 (ds.getD j 0))) :
    Calls Tryz.prog 73 #[.slice (some ⟨g, 0, none⟩) n cap, .bool true, .slice (some ⟨bs, 0, none⟩) c1 c1, .int .i64 dp, .int .i64 nd, .int .i64 0, .int .u8 102, .bool true] w fun e w' =>
      ∃ m, e = .returned (.slice (some ⟨g, 0, none⟩) m cap) ∧ Buf w' g m cap ((xs ++ [45]) ++ (ds ++ List.replicate (dp - nd) 48)) ∧ w.grownBy w' (some g) := by
  obtain ⟨i0, hi, hz0, hz1, hz2⟩ := info_parts Tryz.info5
  have HD := Lib.hid hd
  have HN := Lib.hid hnd
  have HB := Lib.hid hb
  clear hd hnd hb
  go_enter Tryz.func73, Tryz.ntmps73
  go_wp2_with (at_builtin; refine wpList_append_fits _ rfl (.tmp 179) (.tmp 180) 40 rfl g 5 i0 1 Tryz.underlying40 hi hz1 g (n) cap _ rfl (World.ownsRow.alloc HB.out _) ⟨w.heap.size, 0, none⟩ 1 1 [.int .u8 45] rfl rfl (one_at _ _ _) (one_one _ _) (by omega) ?_; intro w0 hown0 hgrow0)
  have HB0 : Hid (Buf w0 g (n + 1) cap (xs ++ [45])) := Lib.hid (Buf.step hown0 (by simp))
  have HG0 : Hid (w.grownBy w0 (some g)) := Lib.hid ((only_alloc (World.grownBy.refl _ _) _).trans hgrow0)
  clear hown0 hgrow0
  go_wp2_with fail
  go_loopw [0, 191] (fun v i wr => ∃ k : Nat, k ≤ nd ∧ i = .int .i64 k ∧ v = .slice (some ⟨g, 0, none⟩) (n + 1 + k) cap ∧ Buf wr g (n + 1 + k) cap ((xs ++ [45]) ++ ds.take k) ∧ w.grownBy wr (some g)) (fun _ i _ => nd - (intOf i).toNat)
  case atStart => exact ⟨0, Nat.zero_le _, rfl, rfl, by simpa using HB0.out, HG0.out⟩
  case round =>
    obtain ⟨k, hk, rfl, rfl, hbk, hgk⟩ := hrel
    by_cases hlt2 : k < nd
    · have hcell : wr.cell? ⟨bs, k, none⟩ = some (.int .u8 (ds.getD k 0)) := hgk.cell (HD.out k hlt2) (fun e => hne (by injection e))
      have HBk := Lib.hid hbk
      have HGk := Lib.hid hgk
      clear hbk hgk
      go_wp2_with (at_builtin; refine wpList_append_fits _ rfl (.tmp 195) (.tmp 197) 40 rfl g 5 i0 1 Tryz.underlying40 hi hz1 g (n + 1 + k) cap _ rfl (World.ownsRow.alloc HBk.out _) ⟨wr.heap.size, 0, none⟩ 1 1 [.int .u8 (ds.getD k 0)] rfl rfl (one_at _ _ _) (one_one _ _) (by omega) ?_; intro w1 hown1 hgrow1)
      go_wp2_with fail
      go_roundw
      case rel => exact ⟨k + 1, by omega, by go_num, rfl, Buf.step hown1 (by rw [take_more ds k (by rw [HN.out]; exact hlt2)]; simp [List.getD]), (only_alloc HGk.out _).trans hgrow1⟩
      case measure => simp [intOf]; omega
    · obtain rfl : k = nd := by omega
      have hbk' : Buf wr g (n + 1 + k) cap ((xs ++ [45]) ++ ds) := by rw [List.take_of_length_le (by rw [HN.out]; omega)] at hbk; exact hbk
      have HBk := Lib.hid hbk'
      have HGk := Lib.hid hgk
      clear hbk hbk' hgk
      go_wp2_with fail
      obtain ⟨wo, rfl⟩ : ∃ wo : World, wo = wr := ⟨_, rfl⟩
      go_loopw [0, 203] (fun v i wr => ∃ j : Nat, j ≤ dp - k ∧ i = .int .i64 j ∧ v = .slice (some ⟨g, 0, none⟩) (n + 1 + k + j) cap ∧ Buf wr g (n + 1 + k + j) cap ((xs ++ [45]) ++ ds ++ List.replicate j 48) ∧ w.grownBy wr (some g)) (fun _ i _ => (dp - k) - (intOf i).toNat)
      case atStart => exact ⟨0, Nat.zero_le _, rfl, rfl, by simpa using HBk.out, HGk.out⟩
      case round =>
        obtain ⟨j, hj, rfl, rfl, hbj, hgj⟩ := hrel
        have HBj := Lib.hid hbj
        have HGj := Lib.hid hgj
        clear hbj hgj
        by_cases hlt3 : j < dp - k
        · have hlt4 : (j : Int) < (dp : Int) - (k : Int) := by omega
          go_wp2_with (at_builtin; refine wpList_append_fits _ rfl (.tmp 205) (.tmp 206) 40 rfl g 5 i0 1 Tryz.underlying40 hi hz1 g (n + 1 + k + j) cap _ rfl (World.ownsRow.alloc HBj.out _) ⟨wr.heap.size, 0, none⟩ 1 1 [.int .u8 48] rfl rfl (one_at _ _ _) (one_one _ _) (by omega) ?_; intro w1 hown1 hgrow1)
          go_wp2_with fail
          go_roundw
          case rel => exact ⟨j + 1, by omega, by go_num, rfl, Buf.step hown1 (by rw [List.replicate_succ']; simp), (only_alloc HGj.out _).trans hgrow1⟩
          case measure => simp [intOf]; omega
        · obtain rfl : j = dp - k := by omega
          have hge4 : ¬ (((dp - k : Nat) : Int) < (dp : Int) - (k : Int)) := by omega
          have HBf : Hid (Buf wr g (n + 1 + k + (dp - k)) cap ((xs ++ [45]) ++ (ds ++ List.replicate (dp - k) 48))) := Lib.hid (by rw [← List.append_assoc]; exact HBj.out)
          go_wp2_with fail
          go_ret
          exact ⟨_, rfl, by simpa using HBf.out, HGj.out⟩

set_option maxRecDepth 100000 in
set_option maxHeartbeats 2000000 in
theorem efg_frac_pos (g n cap bs c1 : Nat) (xs ds : List Int) (nd dp : Nat) (hnd : ds.length = nd) (h1 : 0 < dp) (h2 : dp < nd) (hdp : dp ≤ 1000) (hc1 : nd ≤ c1) (_hc2 : c1 ≤ 1000) (w : World) (hcap : n + nd + 4 ≤ cap) (_hcm : cap ≤ 1000)
    (hb : Buf w g n cap xs) (hne : ¬ bs = g) (_hlt : bs < w.heap.size) (hd : ∀ j, j < nd → w.cell? ⟨bs, j, none⟩ = some (.int .u8 (ds.getD j 0))) :
    Calls Tryz.prog 73 #[.slice (some ⟨g, 0, none⟩) n cap, .bool false, .slice (some ⟨bs, 0, none⟩) c1 c1, .int .i64 dp, .int .i64 nd, .int .i64 ((nd : Int) - dp), .int .u8 102, .bool true] w fun e w' =>
      ∃ m, e = .returned (.slice (some ⟨g, 0, none⟩) m cap) ∧ Buf w' g m cap (xs ++ (ds.take dp ++ (46 :: ds.drop dp))) ∧ w.grownBy w' (some g) := by
  obtain ⟨i0, hi, hz0, hz1, hz2⟩ := info_parts Tryz.info5
  have HD := Lib.hid hd
  have HN := Lib.hid hnd
  have HB := Lib.hid hb
  clear hd hnd hb
  go_enter Tryz.func73, Tryz.ntmps73
  have HB0 : Hid (Buf w g n cap xs) := HB
  have HG0 : Hid (w.grownBy w (some g)) := Lib.hid (World.grownBy.refl _ _)
  go_wp2_with fail
  go_loopw [0, 191] (fun v i wr => ∃ k : Nat, k ≤ dp ∧ i = .int .i64 k ∧ v = .slice (some ⟨g, 0, none⟩) (n + k) cap ∧ Buf wr g (n + k) cap (xs ++ ds.take k) ∧ w.grownBy wr (some g)) (fun _ i _ => dp - (intOf i).toNat)
  case atStart => exact ⟨0, Nat.zero_le _, rfl, rfl, by simpa using HB0.out, HG0.out⟩
  case round =>
    obtain ⟨k, hk, rfl, rfl, hbk, hgk⟩ := hrel
    by_cases hlt2 : k < dp
    · have hcell : wr.cell? ⟨bs, k, none⟩ = some (.int .u8 (ds.getD k 0)) := hgk.cell (HD.out k (by omega)) (fun e => hne (by injection e))
      have HBk := Lib.hid hbk
      have HGk := Lib.hid hgk
      clear hbk hgk
      go_wp2_with (at_builtin; refine wpList_append_fits _ rfl (.tmp 195) (.tmp 197) 40 rfl g 5 i0 1 Tryz.underlying40 hi hz1 g (n + k) cap _ rfl (World.ownsRow.alloc HBk.out _) ⟨wr.heap.size, 0, none⟩ 1 1 [.int .u8 (ds.getD k 0)] rfl rfl (one_at _ _ _) (one_one _ _) (by omega) ?_; intro w1 hown1 hgrow1)
      go_wp2_with fail
      go_roundw
      case rel => exact ⟨k + 1, by omega, by go_num, rfl, Buf.step hown1 (by rw [take_more ds k (by rw [HN.out]; omega)]; simp [List.getD]), (only_alloc HGk.out _).trans hgrow1⟩
      case measure => simp [intOf]; omega
    · obtain rfl : k = dp := by omega
      have HBk := Lib.hid hbk
      have HGk := Lib.hid hgk
      clear hbk hgk
      go_wp2_with fail
      refine wp_loop_rounds 1 ?_
      rw [rounds_succ]
      go_wp2_with (at_builtin; refine wpList_append_fits _ rfl (.tmp 214) (.tmp 215) 40 rfl g 5 i0 1 Tryz.underlying40 hi hz1 g (n + k) cap _ rfl (World.ownsRow.alloc HBk.out _) ⟨wr.heap.size, 0, none⟩ 1 1 [.int .u8 46] rfl rfl (one_at _ _ _) (one_one _ _) (by omega) ?_; intro w2 hown2 hgrow2)
      have HB2 : Hid (Buf w2 g (n + k + 1) cap (xs ++ (ds.take k ++ [46]))) := Lib.hid (Buf.step hown2 (by simp))
      have HG2 : Hid (w.grownBy w2 (some g)) := Lib.hid ((only_alloc HGk.out _).trans hgrow2)
      clear hown2 hgrow2
      go_wp2_with fail
      refine wp_loop_rounds 1 ?_
      rw [rounds_succ]
      go_wp2_with fail
      go_loopw [0, 247] (fun v i wr => ∃ j : Nat, j ≤ nd - k ∧ i = .int .i64 j ∧ v = .slice (some ⟨g, 0, none⟩) (n + k + 1 + j) cap ∧ Buf wr g (n + k + 1 + j) cap (xs ++ ((ds.take k ++ [46]) ++ (ds.drop k).take j)) ∧ w.grownBy wr (some g)) (fun _ i _ => (nd - k) - (intOf i).toNat)
      case atStart => exact ⟨0, Nat.zero_le _, rfl, rfl, by simpa using HB2.out, HG2.out⟩
      case round =>
        obtain ⟨j, hj, rfl, rfl, hbj, hgj⟩ := hrel
        have HBj := Lib.hid hbj
        have HGj := Lib.hid hgj
        clear hbj hgj
        by_cases hlt3 : j < nd - k
        · have hlt4 : (j : Int) < (nd : Int) - ((k : Nat) : Int) := by omega
          have hcell : wr.cell? ⟨bs, k + j, none⟩ = some (.int .u8 (ds.getD (k + j) 0)) := HGj.out.cell (HD.out (k + j) (by omega)) (fun e => hne (by injection e))
          go_wp2_with (at_builtin; refine wpList_append_fits _ rfl (.tmp 250) (.tmp 257) 40 rfl g 5 i0 1 Tryz.underlying40 hi hz1 g (n + k + 1 + j) cap _ rfl (World.ownsRow.alloc HBj.out _) ⟨wr.heap.size, 0, none⟩ 1 1 [.int .u8 (ds.getD (k + j) 0)] rfl rfl (one_at _ _ _) (one_one _ _) (by omega) ?_; intro w3 hown3 hgrow3)
          go_wp2_with fail
          go_roundw
          case rel => exact ⟨j + 1, by omega, by go_num, rfl, Buf.step hown3 (by rw [drop_take_more ds k j (by rw [HN.out]; omega)]; simp [List.getD]), (only_alloc HGj.out _).trans hgrow3⟩
          case measure => simp [intOf]; omega
        · obtain rfl : j = nd - k := by omega
          have hge4 : ¬ (((nd - k : Nat) : Int) < (nd : Int) - ((k : Nat) : Int)) := by omega
          have HBf : Hid (Buf wr g (n + k + 1 + (nd - k)) cap (xs ++ ((ds.take k ++ [46]) ++ ds.drop k))) := Lib.hid (by have h := HBj.out; rw [List.take_of_length_le (show (ds.drop k).length ≤ nd - k by rw [List.length_drop, HN.out]; omega)] at h; exact h)
          go_wp2_with fail
          refine wp_loop_rounds 1 ?_
          rw [rounds_succ]
          go_wp2_with fail
          go_ret
          exact ⟨_, rfl, by simpa using HBf.out, HGj.out⟩

set_option maxRecDepth 100000 in
set_option maxHeartbeats 2000000 in
theorem efg_frac_neg (g n cap bs c1 : Nat) (xs ds : List Int) (nd dp : Nat) (hnd : ds.length = nd) (h1 : 0 < dp) (h2 : dp < nd) (hdp : dp ≤ 1000) (hc1 : nd ≤ c1) (_hc2 : c1 ≤ 1000) (w : World) (hcap : n + nd + 4 ≤ cap) (_hcm : cap ≤ 1000)
    (hb : Buf w g n cap xs) (hne : ¬ bs = g) (_hlt : bs < w.heap.size) (hd : ∀ j, j < nd → w.cell? ⟨bs, j, none⟩ = some (.int .u8 (ds.getD j 0))) :
    Calls Tryz.prog 73 #[.slice (some ⟨g, 0, none⟩) n cap, .bool true, .slice (some ⟨bs, 0, none⟩) c1 c1, .int .i64 dp, .int .i64 nd, .int .i64 ((nd : Int) - dp), .int .u8 102, .bool true] w fun e w' =>
      ∃ m, e = .returned (.slice (some ⟨g, 0, none⟩) m cap) ∧ Buf w' g m cap ((xs ++ [45]) ++ (ds.take dp ++ (46 :: ds.drop dp))) ∧ w.grownBy w' (some g) := by
  obtain ⟨i0, hi, hz0, hz1, hz2⟩ := info_parts Tryz.info5
  have HD := Lib.hid hd
  have HN := Lib.hid hnd
  have HB := Lib.hid hb
  clear hd hnd hb
  go_enter Tryz.func73, Tryz.ntmps73
  go_wp2_with (at_builtin; refine wpList_append_fits _ rfl (.tmp 179) (.tmp 180) 40 rfl g 5 i0 1 Tryz.underlying40 hi hz1 g (n) cap _ rfl (World.ownsRow.alloc HB.out _) ⟨w.heap.size, 0, none⟩ 1 1 [.int .u8 45] rfl rfl (one_at _ _ _) (one_one _ _) (by omega) ?_; intro w0 hown0 hgrow0)
  have HB0 : Hid (Buf w0 g (n + 1) cap (xs ++ [45])) := Lib.hid (Buf.step hown0 (by simp))
  have HG0 : Hid (w.grownBy w0 (some g)) := Lib.hid ((only_alloc (World.grownBy.refl _ _) _).trans hgrow0)
  clear hown0 hgrow0
  go_wp2_with fail
  go_loopw [0, 191] (fun v i wr => ∃ k : Nat, k ≤ dp ∧ i = .int .i64 k ∧ v = .slice (some ⟨g, 0, none⟩) (n + 1 + k) cap ∧ Buf wr g (n + 1 + k) cap ((xs ++ [45]) ++ ds.take k) ∧ w.grownBy wr (some g)) (fun _ i _ => dp - (intOf i).toNat)
  case atStart => exact ⟨0, Nat.zero_le _, rfl, rfl, by simpa using HB0.out, HG0.out⟩
  case round =>
    obtain ⟨k, hk, rfl, rfl, hbk, hgk⟩ := hrel
    by_cases hlt2 : k < dp
    · have hcell : wr.cell? ⟨bs, k, none⟩ = some (.int .u8 (ds.getD k 0)) := hgk.cell (HD.out k (by omega)) (fun e => hne (by injection e))
      have HBk := Lib.hid hbk
      have HGk := Lib.hid hgk
      clear hbk hgk
      go_wp2_with (at_builtin; refine wpList_append_fits _ rfl (.tmp 195) (.tmp 197) 40 rfl g 5 i0 1 Tryz.underlying40 hi hz1 g (n + 1 + k) cap _ rfl (World.ownsRow.alloc HBk.out _) ⟨wr.heap.size, 0, none⟩ 1 1 [.int .u8 (ds.getD k 0)] rfl rfl (one_at _ _ _) (one_one _ _) (by omega) ?_; intro w1 hown1 hgrow1)
      go_wp2_with fail
      go_roundw
      case rel => exact ⟨k + 1, by omega, by go_num, rfl, Buf.step hown1 (by rw [take_more ds k (by rw [HN.out]; omega)]; simp [List.getD]), (only_alloc HGk.out _).trans hgrow1⟩
      case measure => simp [intOf]; omega
    · obtain rfl : k = dp := by omega
      have HBk := Lib.hid hbk
      have HGk := Lib.hid hgk
      clear hbk hgk
      go_wp2_with fail
      refine wp_loop_rounds 1 ?_
      rw [rounds_succ]
      go_wp2_with (at_builtin; refine wpList_append_fits _ rfl (.tmp 214) (.tmp 215) 40 rfl g 5 i0 1 Tryz.underlying40 hi hz1 g (n + 1 + k) cap _ rfl (World.ownsRow.alloc HBk.out _) ⟨wr.heap.size, 0, none⟩ 1 1 [.int .u8 46] rfl rfl (one_at _ _ _) (one_one _ _) (by omega) ?_; intro w2 hown2 hgrow2)
      have HB2 : Hid (Buf w2 g (n + 1 + k + 1) cap ((xs ++ [45]) ++ (ds.take k ++ [46]))) := Lib.hid (Buf.step hown2 (by simp))
      have HG2 : Hid (w.grownBy w2 (some g)) := Lib.hid ((only_alloc HGk.out _).trans hgrow2)
      clear hown2 hgrow2
      go_wp2_with fail
      refine wp_loop_rounds 1 ?_
      rw [rounds_succ]
      go_wp2_with fail
      go_loopw [0, 247] (fun v i wr => ∃ j : Nat, j ≤ nd - k ∧ i = .int .i64 j ∧ v = .slice (some ⟨g, 0, none⟩) (n + 1 + k + 1 + j) cap ∧ Buf wr g (n + 1 + k + 1 + j) cap ((xs ++ [45]) ++ ((ds.take k ++ [46]) ++ (ds.drop k).take j)) ∧ w.grownBy wr (some g)) (fun _ i _ => (nd - k) - (intOf i).toNat)
      case atStart => exact ⟨0, Nat.zero_le _, rfl, rfl, by simpa using HB2.out, HG2.out⟩
      case round =>
        obtain ⟨j, hj, rfl, rfl, hbj, hgj⟩ := hrel
        have HBj := Lib.hid hbj
        have HGj := Lib.hid hgj
        clear hbj hgj
        by_cases hlt3 : j < nd - k
        · have hlt4 : (j : Int) < (nd : Int) - ((k : Nat) : Int) := by omega
          have hcell : wr.cell? ⟨bs, k + j, none⟩ = some (.int .u8 (ds.getD (k + j) 0)) := HGj.out.cell (HD.out (k + j) (by omega)) (fun e => hne (by injection e))
          go_wp2_with (at_builtin; refine wpList_append_fits _ rfl (.tmp 250) (.tmp 257) 40 rfl g 5 i0 1 Tryz.underlying40 hi hz1 g (n + 1 + k + 1 + j) cap _ rfl (World.ownsRow.alloc HBj.out _) ⟨wr.heap.size, 0, none⟩ 1 1 [.int .u8 (ds.getD (k + j) 0)] rfl rfl (one_at _ _ _) (one_one _ _) (by omega) ?_; intro w3 hown3 hgrow3)
          go_wp2_with fail
          go_roundw
          case rel => exact ⟨j + 1, by omega, by go_num, rfl, Buf.step hown3 (by rw [drop_take_more ds k j (by rw [HN.out]; omega)]; simp [List.getD]), (only_alloc HGj.out _).trans hgrow3⟩
          case measure => simp [intOf]; omega
        · obtain rfl : j = nd - k := by omega
          have hge4 : ¬ (((nd - k : Nat) : Int) < (nd : Int) - ((k : Nat) : Int)) := by omega
          have HBf : Hid (Buf wr g (n + 1 + k + 1 + (nd - k)) cap ((xs ++ [45]) ++ ((ds.take k ++ [46]) ++ ds.drop k))) := Lib.hid (by have h := HBj.out; rw [List.take_of_length_le (show (ds.drop k).length ≤ nd - k by rw [List.length_drop, HN.out]; omega)] at h; exact h)
          go_wp2_with fail
          refine wp_loop_rounds 1 ?_
          rw [rounds_succ]
          go_wp2_with fail
          go_ret
          exact ⟨_, rfl, by simpa using HBf.out, HGj.out⟩

set_option maxRecDepth 100000 in
set_option maxHeartbeats 2000000 in
theorem efg_part_pos (g n cap bs c1 : Nat) (xs ds : List Int) (nd dp : Nat) (hnd : ds.length = nd) (h1 : dp = 0) (h2 : 0 < nd) (hdp : dp ≤ 1000) (hc1 : nd ≤ c1) (hc2 : c1 ≤ 1000) (w : World) (hcap : n + nd + 4 ≤ cap) (_hcm : cap ≤ 1000)
    (hb : Buf w g n cap xs) (hne : ¬ bs = g) (_hlt : bs < w.heap.size) (hd : ∀ j, j < nd → w.cell? ⟨bs, j, none⟩ = some (.int .u8 (ds.getD j 0))) :
    Calls Tryz.prog 73 #[.slice (some ⟨g, 0, none⟩) n cap, .bool false, .slice (some ⟨bs, 0, none⟩) c1 c1, .int .i64 dp, .int .i64 nd, .int .i64 nd, .int .u8 102, .bool true] w fun e w' =>
      ∃ m, e = .returned (.slice (some ⟨g, 0, none⟩) m cap) ∧ Buf w' g m cap (xs ++ (48 :: 46 :: ds)) ∧ w.grownBy w' (some g) := by
  obtain ⟨i0, hi, hz0, hz1, hz2⟩ := info_parts Tryz.info5
  have HD := Lib.hid hd
  have HN := Lib.hid hnd
  have HB := Lib.hid hb
  clear hd hnd hb
  go_enter Tryz.func73, Tryz.ntmps73
  have HB0 : Hid (Buf w g n cap xs) := HB
  have HG0 : Hid (w.grownBy w (some g)) := Lib.hid (World.grownBy.refl _ _)
  subst h1
  go_wp2_with (first | (at_builtin; refine wpList_append_fits _ rfl (.tmp 209) (.tmp 210) 40 rfl g 5 i0 1 Tryz.underlying40 hi hz1 g (n) cap _ rfl (World.ownsRow.alloc HB0.out _) ⟨w.heap.size, 0, none⟩ 1 1 [.int .u8 48] rfl rfl (one_at _ _ _) (one_one _ _) (by omega) ?_; intro w1 hown1 hgrow1) | (at_builtin; refine wpList_append_fits _ rfl (.tmp 214) (.tmp 215) 40 rfl g 5 i0 1 Tryz.underlying40 hi hz1 g (n + 1) cap _ rfl (World.ownsRow.alloc hown1 _) ⟨w1.heap.size, 0, none⟩ 1 1 [.int .u8 46] rfl rfl (one_at _ _ _) (one_one _ _) (by omega) ?_; intro w2 hown2 hgrow2))
  have HB2 : Hid (Buf w2 g (n + 1 + 1) cap (xs ++ [48, 46])) := Lib.hid (Buf.step hown2 (by simp))
  have HG2 : Hid (w.grownBy w2 (some g)) := Lib.hid ((only_alloc ((only_alloc HG0.out _).trans hgrow1) _).trans hgrow2)
  clear hown1 hgrow1 hown2 hgrow2
  go_wp2_with fail
  refine wp_loop_rounds 1 ?_
  rw [rounds_succ]
  go_wp2_with fail
  go_loopw [0, 247] (fun v i wr => ∃ j : Nat, j ≤ nd - 0 ∧ i = .int .i64 j ∧ v = .slice (some ⟨g, 0, none⟩) (n + 1 + 1 + j) cap ∧ Buf wr g (n + 1 + 1 + j) cap (xs ++ ([48, 46] ++ (ds.drop 0).take j)) ∧ w.grownBy wr (some g)) (fun _ i _ => (nd - 0) - (intOf i).toNat)
  case atStart => exact ⟨0, Nat.zero_le _, rfl, rfl, by simpa using HB2.out, HG2.out⟩
  case round =>
    obtain ⟨j, hj, rfl, rfl, hbj, hgj⟩ := hrel
    have HBj := Lib.hid hbj
    have HGj := Lib.hid hgj
    clear hbj hgj
    by_cases hlt3 : j < nd - 0
    · have hlt4 : (j : Int) < (nd : Int) - ((0 : Nat) : Int) := by omega
      have hcell : wr.cell? ⟨bs, j, none⟩ = some (.int .u8 (ds.getD (j) 0)) := HGj.out.cell (HD.out (j) (by omega)) (fun e => hne (by injection e))
      go_wp2_with (at_builtin; refine wpList_append_fits _ rfl (.tmp 250) (.tmp 257) 40 rfl g 5 i0 1 Tryz.underlying40 hi hz1 g (n + 1 + 1 + j) cap _ rfl (World.ownsRow.alloc HBj.out _) ⟨wr.heap.size, 0, none⟩ 1 1 [.int .u8 (ds.getD (j) 0)] rfl rfl (one_at _ _ _) (one_one _ _) (by omega) ?_; intro w3 hown3 hgrow3)
      go_wp2_with fail
      go_roundw
      case rel => exact ⟨j + 1, by omega, by go_num, rfl, Buf.step hown3 (by rw [drop_take_more ds 0 j (by rw [HN.out]; omega)]; simp [List.getD]), (only_alloc HGj.out _).trans hgrow3⟩
      case measure => simp [intOf]; omega
    · obtain rfl : j = nd := by omega
      have hge4 : ¬ (((j : Nat) : Int) < (j : Int) - ((0 : Nat) : Int)) := by omega
      have HBf : Hid (Buf wr g (n + 1 + 1 + (j)) cap (xs ++ ([48, 46] ++ ds.drop 0))) := Lib.hid (by have h := HBj.out; rw [List.take_of_length_le (show (ds.drop 0).length ≤ j by rw [List.length_drop, HN.out]; omega)] at h; exact h)
      go_wp2_with fail
      refine wp_loop_rounds 1 ?_
      rw [rounds_succ]
      go_wp2_with fail
      go_ret
      exact ⟨_, rfl, by simpa using HBf.out, HGj.out⟩

set_option maxRecDepth 100000 in
set_option maxHeartbeats 2000000 in
theorem efg_part_neg (g n cap bs c1 : Nat) (xs ds : List Int) (nd dp : Nat) (hnd : ds.length = nd) (h1 : dp = 0) (h2 : 0 < nd) (hdp : dp ≤ 1000) (hc1 : nd ≤ c1) (hc2 : c1 ≤ 1000) (w : World) (hcap : n + nd + 4 ≤ cap) (_hcm : cap ≤ 1000)
    (hb : Buf w g n cap xs) (hne : ¬ bs = g) (_hlt : bs < w.heap.size) (hd : ∀ j, j < nd → w.cell? ⟨bs, j, none⟩ = some (.int .u8 (ds.getD j 0))) :
    Calls Tryz.prog 73 #[.slice (some ⟨g, 0, none⟩) n cap, .bool true, .slice (some ⟨bs, 0, none⟩) c1 c1, .int .i64 dp, .int .i64 nd, .int .i64 nd, .int .u8 102, .bool true] w fun e w' =>
      ∃ m, e = .returned (.slice (some ⟨g, 0, none⟩) m cap) ∧ Buf w' g m cap ((xs ++ [45]) ++ (48 :: 46 :: ds)) ∧ w.grownBy w' (some g) := by
  obtain ⟨i0, hi, hz0, hz1, hz2⟩ := info_parts Tryz.info5
  have HD := Lib.hid hd
  have HN := Lib.hid hnd
  have HB := Lib.hid hb
  clear hd hnd hb
  go_enter Tryz.func73, Tryz.ntmps73
  subst h1
  go_wp2_with (first | (at_builtin; refine wpList_append_fits _ rfl (.tmp 179) (.tmp 180) 40 rfl g 5 i0 1 Tryz.underlying40 hi hz1 g (n) cap _ rfl (World.ownsRow.alloc HB.out _) ⟨w.heap.size, 0, none⟩ 1 1 [.int .u8 45] rfl rfl (one_at _ _ _) (one_one _ _) (by omega) ?_; intro w0 hown0 hgrow0) | (at_builtin; refine wpList_append_fits _ rfl (.tmp 209) (.tmp 210) 40 rfl g 5 i0 1 Tryz.underlying40 hi hz1 g (n + 1) cap _ rfl (World.ownsRow.alloc hown0 _) ⟨w0.heap.size, 0, none⟩ 1 1 [.int .u8 48] rfl rfl (one_at _ _ _) (one_one _ _) (by omega) ?_; intro w1 hown1 hgrow1) | (at_builtin; refine wpList_append_fits _ rfl (.tmp 214) (.tmp 215) 40 rfl g 5 i0 1 Tryz.underlying40 hi hz1 g (n + 1 + 1) cap _ rfl (World.ownsRow.alloc hown1 _) ⟨w1.heap.size, 0, none⟩ 1 1 [.int .u8 46] rfl rfl (one_at _ _ _) (one_one _ _) (by omega) ?_; intro w2 hown2 hgrow2))
  have HG0 : Hid (w.grownBy w0 (some g)) := Lib.hid ((only_alloc (World.grownBy.refl _ _) _).trans hgrow0)
  clear hown0 hgrow0
  have HB2 : Hid (Buf w2 g (n + 1 + 1 + 1) cap ((xs ++ [45]) ++ [48, 46])) := Lib.hid (Buf.step hown2 (by simp))
  have HG2 : Hid (w.grownBy w2 (some g)) := Lib.hid ((only_alloc ((only_alloc HG0.out _).trans hgrow1) _).trans hgrow2)
  clear hown1 hgrow1 hown2 hgrow2
  go_wp2_with fail
  refine wp_loop_rounds 1 ?_
  rw [rounds_succ]
  go_wp2_with fail
  go_loopw [0, 247] (fun v i wr => ∃ j : Nat, j ≤ nd - 0 ∧ i = .int .i64 j ∧ v = .slice (some ⟨g, 0, none⟩) (n + 1 + 1 + 1 + j) cap ∧ Buf wr g (n + 1 + 1 + 1 + j) cap ((xs ++ [45]) ++ ([48, 46] ++ (ds.drop 0).take j)) ∧ w.grownBy wr (some g)) (fun _ i _ => (nd - 0) - (intOf i).toNat)
  case atStart => exact ⟨0, Nat.zero_le _, rfl, rfl, by simpa using HB2.out, HG2.out⟩
  case round =>
    obtain ⟨j, hj, rfl, rfl, hbj, hgj⟩ := hrel
    have HBj := Lib.hid hbj
    have HGj := Lib.hid hgj
    clear hbj hgj
    by_cases hlt3 : j < nd - 0
    · have hlt4 : (j : Int) < (nd : Int) - ((0 : Nat) : Int) := by omega
      have hcell : wr.cell? ⟨bs, j, none⟩ = some (.int .u8 (ds.getD (j) 0)) := HGj.out.cell (HD.out (j) (by omega)) (fun e => hne (by injection e))
      go_wp2_with (at_builtin; refine wpList_append_fits _ rfl (.tmp 250) (.tmp 257) 40 rfl g 5 i0 1 Tryz.underlying40 hi hz1 g (n + 1 + 1 + 1 + j) cap _ rfl (World.ownsRow.alloc HBj.out _) ⟨wr.heap.size, 0, none⟩ 1 1 [.int .u8 (ds.getD (j) 0)] rfl rfl (one_at _ _ _) (one_one _ _) (by omega) ?_; intro w3 hown3 hgrow3)
      go_wp2_with fail
      go_roundw
      case rel => exact ⟨j + 1, by omega, by go_num, rfl, Buf.step hown3 (by rw [drop_take_more ds 0 j (by rw [HN.out]; omega)]; simp [List.getD]), (only_alloc HGj.out _).trans hgrow3⟩
      case measure => simp [intOf]; omega
    · obtain rfl : j = nd := by omega
      have hge4 : ¬ (((j : Nat) : Int) < (j : Int) - ((0 : Nat) : Int)) := by omega
      have HBf : Hid (Buf wr g (n + 1 + 1 + 1 + (j)) cap ((xs ++ [45]) ++ ([48, 46] ++ ds.drop 0))) := Lib.hid (by have h := HBj.out; rw [List.take_of_length_le (show (ds.drop 0).length ≤ j by rw [List.length_drop, HN.out]; omega)] at h; exact h)
      go_wp2_with fail
      refine wp_loop_rounds 1 ?_
      rw [rounds_succ]
      go_wp2_with fail
      go_ret
      exact ⟨_, rfl, by simpa using HBf.out, HGj.out⟩
end Go.Proofs.YtlnkieokhefkfaaGreatDoor
