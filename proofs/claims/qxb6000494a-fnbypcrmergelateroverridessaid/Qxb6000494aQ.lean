import Derived.Test.Qxb6000494aP
import Derived.RegionTactic
import Derived.BigRegion
set_option linter.unusedVariables false
namespace Go.Proofs.Qxb6000494a
open Go.RowKit Go.Maps

def pvAt (ids idx : List Int) (vals : List Value) (i : Nat) : PV := ((ids.getD i 0, idx.getD i 0), vals.getD i nilS)
def mkPV (ids idx : List Int) (vals : List Value) (n : Nat) : List PV := (List.range n).map (pvAt ids idx vals)
theorem mkPV_len (ids idx : List Int) (vals : List Value) (n : Nat) : (mkPV ids idx vals n).length = n := by simp [mkPV]
theorem mkPV_getD (ids idx : List Int) (vals : List Value) (n i : Nat) (h : i < n) : (mkPV ids idx vals n).getD i pv0 = pvAt ids idx vals i := by simp [mkPV, List.getD, h]

theorem Try.infoV : (Try.prog.info? 39).map (fun i => (i.zero, i.size, i.bytes)) = some (some (.agg #[.int .u16 0, .int .i64 0, .slice none 0 0]), 3, 40) := by kernel_rfl

theorem run_makeV (n : Nat) (h : n ≤ 1000000) (w : World) :
    (Instr.makeSlice 31 (.int .i64 (n : Int)) (.int .i64 (n : Int))).run Try.prog w = .ok (.slice (some ⟨w.heap.size, 0, none⟩) n n) (w.alloc (.cells (madeCells #[.int .u16 0, .int .i64 0, .slice none 0 0] (n * 3)) 39)) := by
  obtain ⟨i, hi, hz, hs, hb⟩ := info_parts Try.infoV
  have hr := run_make (P := Try.prog) w 31 39 i _ Try.underlying31 hi hz .i64 .i64 n n (by omega) (Int.le_refl _) (by rw [hb]; omega) (by omega)
  simp only [Int.toNat_natCast, hs] at hr
  exact hr

theorem madeV (w : World) (n : Nat) : ∃ f, (w.alloc (.cells (madeCells #[.int .u16 0, .int .i64 0, .slice none 0 0] (n * 3)) 39)).rowIs w.heap.size 39 (n * 3) f :=
  ⟨fun i => (madeCells #[.int .u16 0, .int .i64 0, .slice none 0 0] (n * 3)).getD i undef, _, Deep.blk_alloc_new _ _, size_madeCells _ _, fun i hi => by simp [Array.getD, size_madeCells, hi]⟩

/-- the row after k rounds: the first k values are laid -/
def RowTo (w : World) (b n k : Nat) (g : Nat → PV) : Prop :=
  ∃ f, w.rowIs b 39 (n * 3) f ∧ ∀ i, i < k → f (i * 3) = .int .u16 (g i).1.1 ∧ f (i * 3 + 1) = .int .i64 (g i).1.2 ∧ f (i * 3 + 2) = (g i).2

theorem RowTo.step {w : World} {b n k : Nat} {g : Nat → PV} (h : RowTo w b n k g) (x y : Int) (v : Value) (hx : g k = ((x, y), v)) :
    RowTo (((w.setCell ⟨b, k * 3, none⟩ (.int .u16 x)).setCell ⟨b, k * 3 + 1, none⟩ (.int .i64 y)).setCell ⟨b, k * 3 + 2, none⟩ v) b n (k + 1) g := by
  obtain ⟨f, hf, hc⟩ := h
  refine ⟨_, ((hf.set _ _).set _ _).set _ _, fun i hi => ?_⟩
  by_cases e : i = k
  · subst e
    rw [hx]
    refine ⟨?_, ?_, ?_⟩
    · rw [if_neg (by omega), if_neg (by omega), if_pos rfl]
    · rw [if_neg (by omega), if_pos rfl]
    · rw [if_pos rfl]
  · obtain ⟨h1, h2, h3⟩ := hc i (by omega)
    refine ⟨?_, ?_, ?_⟩
    · rw [if_neg (by omega), if_neg (by omega), if_neg (by omega)]; exact h1
    · rw [if_neg (by omega), if_neg (by omega), if_neg (by omega)]; exact h2
    · rw [if_neg (by omega), if_neg (by omega), if_neg (by omega)]; exact h3

theorem RowTo.row {w : World} {b : Nat} {vs : List PV} (h : RowTo w b vs.length vs.length (fun i => vs.getD i pv0)) : Row w b vs := by
  obtain ⟨f, hf, hc⟩ := h
  refine hf.congr fun j hj => ?_
  obtain ⟨h1, h2, h3⟩ := hc (j / 3) (by omega)
  have : j = j / 3 * 3 ∨ j = j / 3 * 3 + 1 ∨ j = j / 3 * 3 + 2 := by omega
  unfold pvF
  rcases this with e | e | e
  · rw [if_pos (by omega), ← h1]; exact congrArg f e
  · rw [if_neg (by omega), if_pos (by omega), ← h2]; exact congrArg f e
  · rw [if_neg (by omega), if_neg (by omega), ← h3]; exact congrArg f e

theorem RowTo.cells {w : World} {b n k : Nat} {g : Nat → PV} (h : RowTo w b n k g) (j : Nat) (hj : j < n * 3) : (∃ v, w.cell? ⟨b, j, none⟩ = some v) ∧ w.frozen? ⟨b, j, none⟩ = false := by
  obtain ⟨f, hf, _⟩ := h
  exact ⟨⟨_, hf.cell hj⟩, hf.frozen j⟩


set_option maxHeartbeats 2000000 in
theorem mkValues_c1 (a0 a1 a2 : Option Addr) (c0 c1 c2 : Nat) (ids idx : List Int) (vals : List Value) (w : World) (l0 : ids.length ≤ 4096) (l1 : idx.length ≤ 4096) (l2 : vals.length ≤ 4096)
    (r0 : Rd .u16 w a0 ids) (r1 : Rd .i64 w a1 idx) (r2 : VRd w a2 vals) (hg : allGood w vals) (h1 : ¬ idx.length < ids.length) (h2 : ¬ vals.length < ids.length) :
    Calls Try.prog 12 #[.slice a0 ids.length c0, .slice a1 idx.length c1, .slice a2 vals.length c2] w fun e w' => e = .returned (.slice (some ⟨w.heap.size, 0, none⟩) ids.length ids.length) ∧ Row w' w.heap.size (mkPV ids idx vals ids.length) ∧ Below w.heap.size w w' := by
  have R0 : Hid (Rd .u16 w a0 ids) := r0
  have R1 : Hid (Rd .i64 w a1 idx) := r1
  have R2 : Hid (VRd w a2 vals) := r2
  have HG : Hid (allGood w vals) := hg
  clear r0 r1 r2 hg
  have hmk := run_makeV ids.length (by omega)
  go_enter Try.func12, Try.ntmps12
  go_wp2
  go_loopw [9] (fun i wr => ∃ k : Nat, k ≤ ids.length ∧ i = .int .i64 k ∧ RowTo wr w.heap.size ids.length k (pvAt ids idx vals) ∧ Below w.heap.size w wr)
    (fun i _ => ids.length - (intOf i).toNat)
  case atStart =>
    obtain ⟨f, hf⟩ := madeV w ids.length
    exact ⟨0, Nat.zero_le _, rfl, ⟨f, hf, fun i hi => absurd hi (by omega)⟩, (Below.refl _ _).alloc (Nat.le_refl _) _⟩
  case round =>
    obtain ⟨k, hk, rfl, hrow, hbel⟩ := hrel
    by_cases hlt : k < ids.length
    · obtain ⟨b0, o0, rfl, d0⟩ := R0.out k (by omega)
      obtain ⟨b1, o1, rfl, d1⟩ := R1.out k (by omega)
      obtain ⟨b2, o2, rfl, d2⟩ := R2.out k (by omega)
      obtain ⟨ao, n, c, hv, _, _⟩ := HG.out _ (getD_memV vals k (by omega))
      have g0 : wr.cell? ⟨b0, o0 + k, none⟩ = some (.int .u16 (ids.getD k 0)) := (hbel.cell (by exact World.block_lt_of_cell? w _ d0)).trans d0
      have g1 : wr.cell? ⟨b1, o1 + k, none⟩ = some (.int .i64 (idx.getD k 0)) := (hbel.cell (by exact World.block_lt_of_cell? w _ d1)).trans d1
      have g2 : wr.cell? ⟨b2, o2 + k, none⟩ = some (vals.getD k nilS) := (hbel.cell (by exact World.block_lt_of_cell? w _ d2)).trans d2
      obtain ⟨x, hx⟩ : ∃ x, x = ids.getD k 0 := ⟨_, rfl⟩
      obtain ⟨y, hy⟩ : ∃ y, y = idx.getD k 0 := ⟨_, rfl⟩
      have HP : Hid (pvAt ids idx vals k = ((x, y), .slice ao n c)) := by unfold Hid pvAt; rw [hv, hx, hy]
      rw [← hx] at g0
      rw [← hy] at g1
      rw [hv] at g2
      obtain ⟨⟨v0, e0⟩, f0⟩ := hrow.cells (k * 3) (by omega)
      obtain ⟨⟨v1, e1⟩, f1⟩ := hrow.cells (k * 3 + 1) (by omega)
      obtain ⟨⟨v2, e2⟩, f2⟩ := hrow.cells (k * 3 + 2) (by omega)
      have i0 : (k : Int) < (ids.length : Int) := by omega
      have i1 : (k : Int) < (idx.length : Int) := by omega
      have i2 : (k : Int) < (vals.length : Int) := by omega
      have i3 : (k : Int) < (ids.length : Int) := by omega
      clear hx hy hv d0 d1 d2
      go_wp2
      go_region
      all_goals
        go_wp2
        go_roundw
        case rel => exact ⟨k + 1, by omega, by go_num, hrow.step x y _ HP.out, ((((hbel.setCell (by exact Nat.le_refl _) _).setCell (by exact Nat.le_refl _) _).setCell (by exact Nat.le_refl _) _)).drew⟩
        case measure => simp [intOf]; omega
    · obtain rfl : k = ids.length := by omega
      go_wp2
      go_ret
      refine ⟨rfl, RowTo.row ?_, hbel⟩
      rw [mkPV_len]
      obtain ⟨f, hf, hc⟩ := hrow
      exact ⟨f, hf, fun i hi => by simp only [mkPV_getD _ _ _ _ _ hi]; exact hc i hi⟩

set_option maxHeartbeats 2000000 in
theorem mkValues_c2 (a0 a1 a2 : Option Addr) (c0 c1 c2 : Nat) (ids idx : List Int) (vals : List Value) (w : World) (l0 : ids.length ≤ 4096) (l1 : idx.length ≤ 4096) (l2 : vals.length ≤ 4096)
    (r0 : Rd .u16 w a0 ids) (r1 : Rd .i64 w a1 idx) (r2 : VRd w a2 vals) (hg : allGood w vals) (h1 : ¬ idx.length < ids.length) (h2 : vals.length < ids.length) :
    Calls Try.prog 12 #[.slice a0 ids.length c0, .slice a1 idx.length c1, .slice a2 vals.length c2] w fun e w' => e = .returned (.slice (some ⟨w.heap.size, 0, none⟩) vals.length vals.length) ∧ Row w' w.heap.size (mkPV ids idx vals vals.length) ∧ Below w.heap.size w w' := by
  have R0 : Hid (Rd .u16 w a0 ids) := r0
  have R1 : Hid (Rd .i64 w a1 idx) := r1
  have R2 : Hid (VRd w a2 vals) := r2
  have HG : Hid (allGood w vals) := hg
  clear r0 r1 r2 hg
  have hmk := run_makeV vals.length (by omega)
  go_enter Try.func12, Try.ntmps12
  go_wp2
  go_loopw [9] (fun i wr => ∃ k : Nat, k ≤ vals.length ∧ i = .int .i64 k ∧ RowTo wr w.heap.size vals.length k (pvAt ids idx vals) ∧ Below w.heap.size w wr)
    (fun i _ => vals.length - (intOf i).toNat)
  case atStart =>
    obtain ⟨f, hf⟩ := madeV w vals.length
    exact ⟨0, Nat.zero_le _, rfl, ⟨f, hf, fun i hi => absurd hi (by omega)⟩, (Below.refl _ _).alloc (Nat.le_refl _) _⟩
  case round =>
    obtain ⟨k, hk, rfl, hrow, hbel⟩ := hrel
    by_cases hlt : k < vals.length
    · obtain ⟨b0, o0, rfl, d0⟩ := R0.out k (by omega)
      obtain ⟨b1, o1, rfl, d1⟩ := R1.out k (by omega)
      obtain ⟨b2, o2, rfl, d2⟩ := R2.out k (by omega)
      obtain ⟨ao, n, c, hv, _, _⟩ := HG.out _ (getD_memV vals k (by omega))
      have g0 : wr.cell? ⟨b0, o0 + k, none⟩ = some (.int .u16 (ids.getD k 0)) := (hbel.cell (by exact World.block_lt_of_cell? w _ d0)).trans d0
      have g1 : wr.cell? ⟨b1, o1 + k, none⟩ = some (.int .i64 (idx.getD k 0)) := (hbel.cell (by exact World.block_lt_of_cell? w _ d1)).trans d1
      have g2 : wr.cell? ⟨b2, o2 + k, none⟩ = some (vals.getD k nilS) := (hbel.cell (by exact World.block_lt_of_cell? w _ d2)).trans d2
      obtain ⟨x, hx⟩ : ∃ x, x = ids.getD k 0 := ⟨_, rfl⟩
      obtain ⟨y, hy⟩ : ∃ y, y = idx.getD k 0 := ⟨_, rfl⟩
      have HP : Hid (pvAt ids idx vals k = ((x, y), .slice ao n c)) := by unfold Hid pvAt; rw [hv, hx, hy]
      rw [← hx] at g0
      rw [← hy] at g1
      rw [hv] at g2
      obtain ⟨⟨v0, e0⟩, f0⟩ := hrow.cells (k * 3) (by omega)
      obtain ⟨⟨v1, e1⟩, f1⟩ := hrow.cells (k * 3 + 1) (by omega)
      obtain ⟨⟨v2, e2⟩, f2⟩ := hrow.cells (k * 3 + 2) (by omega)
      have i0 : (k : Int) < (ids.length : Int) := by omega
      have i1 : (k : Int) < (idx.length : Int) := by omega
      have i2 : (k : Int) < (vals.length : Int) := by omega
      have i3 : (k : Int) < (vals.length : Int) := by omega
      clear hx hy hv d0 d1 d2
      go_wp2
      go_region
      all_goals
        go_wp2
        go_roundw
        case rel => exact ⟨k + 1, by omega, by go_num, hrow.step x y _ HP.out, ((((hbel.setCell (by exact Nat.le_refl _) _).setCell (by exact Nat.le_refl _) _).setCell (by exact Nat.le_refl _) _)).drew⟩
        case measure => simp [intOf]; omega
    · obtain rfl : k = vals.length := by omega
      go_wp2
      go_ret
      refine ⟨rfl, RowTo.row ?_, hbel⟩
      rw [mkPV_len]
      obtain ⟨f, hf, hc⟩ := hrow
      exact ⟨f, hf, fun i hi => by simp only [mkPV_getD _ _ _ _ _ hi]; exact hc i hi⟩

set_option maxHeartbeats 2000000 in
theorem mkValues_c3 (a0 a1 a2 : Option Addr) (c0 c1 c2 : Nat) (ids idx : List Int) (vals : List Value) (w : World) (l0 : ids.length ≤ 4096) (l1 : idx.length ≤ 4096) (l2 : vals.length ≤ 4096)
    (r0 : Rd .u16 w a0 ids) (r1 : Rd .i64 w a1 idx) (r2 : VRd w a2 vals) (hg : allGood w vals) (h1 : idx.length < ids.length) (h2 : ¬ vals.length < idx.length) :
    Calls Try.prog 12 #[.slice a0 ids.length c0, .slice a1 idx.length c1, .slice a2 vals.length c2] w fun e w' => e = .returned (.slice (some ⟨w.heap.size, 0, none⟩) idx.length idx.length) ∧ Row w' w.heap.size (mkPV ids idx vals idx.length) ∧ Below w.heap.size w w' := by
  have R0 : Hid (Rd .u16 w a0 ids) := r0
  have R1 : Hid (Rd .i64 w a1 idx) := r1
  have R2 : Hid (VRd w a2 vals) := r2
  have HG : Hid (allGood w vals) := hg
  clear r0 r1 r2 hg
  have hmk := run_makeV idx.length (by omega)
  go_enter Try.func12, Try.ntmps12
  go_wp2
  go_loopw [9] (fun i wr => ∃ k : Nat, k ≤ idx.length ∧ i = .int .i64 k ∧ RowTo wr w.heap.size idx.length k (pvAt ids idx vals) ∧ Below w.heap.size w wr)
    (fun i _ => idx.length - (intOf i).toNat)
  case atStart =>
    obtain ⟨f, hf⟩ := madeV w idx.length
    exact ⟨0, Nat.zero_le _, rfl, ⟨f, hf, fun i hi => absurd hi (by omega)⟩, (Below.refl _ _).alloc (Nat.le_refl _) _⟩
  case round =>
    obtain ⟨k, hk, rfl, hrow, hbel⟩ := hrel
    by_cases hlt : k < idx.length
    · obtain ⟨b0, o0, rfl, d0⟩ := R0.out k (by omega)
      obtain ⟨b1, o1, rfl, d1⟩ := R1.out k (by omega)
      obtain ⟨b2, o2, rfl, d2⟩ := R2.out k (by omega)
      obtain ⟨ao, n, c, hv, _, _⟩ := HG.out _ (getD_memV vals k (by omega))
      have g0 : wr.cell? ⟨b0, o0 + k, none⟩ = some (.int .u16 (ids.getD k 0)) := (hbel.cell (by exact World.block_lt_of_cell? w _ d0)).trans d0
      have g1 : wr.cell? ⟨b1, o1 + k, none⟩ = some (.int .i64 (idx.getD k 0)) := (hbel.cell (by exact World.block_lt_of_cell? w _ d1)).trans d1
      have g2 : wr.cell? ⟨b2, o2 + k, none⟩ = some (vals.getD k nilS) := (hbel.cell (by exact World.block_lt_of_cell? w _ d2)).trans d2
      obtain ⟨x, hx⟩ : ∃ x, x = ids.getD k 0 := ⟨_, rfl⟩
      obtain ⟨y, hy⟩ : ∃ y, y = idx.getD k 0 := ⟨_, rfl⟩
      have HP : Hid (pvAt ids idx vals k = ((x, y), .slice ao n c)) := by unfold Hid pvAt; rw [hv, hx, hy]
      rw [← hx] at g0
      rw [← hy] at g1
      rw [hv] at g2
      obtain ⟨⟨v0, e0⟩, f0⟩ := hrow.cells (k * 3) (by omega)
      obtain ⟨⟨v1, e1⟩, f1⟩ := hrow.cells (k * 3 + 1) (by omega)
      obtain ⟨⟨v2, e2⟩, f2⟩ := hrow.cells (k * 3 + 2) (by omega)
      have i0 : (k : Int) < (ids.length : Int) := by omega
      have i1 : (k : Int) < (idx.length : Int) := by omega
      have i2 : (k : Int) < (vals.length : Int) := by omega
      have i3 : (k : Int) < (idx.length : Int) := by omega
      clear hx hy hv d0 d1 d2
      go_wp2
      go_region
      all_goals
        go_wp2
        go_roundw
        case rel => exact ⟨k + 1, by omega, by go_num, hrow.step x y _ HP.out, ((((hbel.setCell (by exact Nat.le_refl _) _).setCell (by exact Nat.le_refl _) _).setCell (by exact Nat.le_refl _) _)).drew⟩
        case measure => simp [intOf]; omega
    · obtain rfl : k = idx.length := by omega
      go_wp2
      go_ret
      refine ⟨rfl, RowTo.row ?_, hbel⟩
      rw [mkPV_len]
      obtain ⟨f, hf, hc⟩ := hrow
      exact ⟨f, hf, fun i hi => by simp only [mkPV_getD _ _ _ _ _ hi]; exact hc i hi⟩

set_option maxHeartbeats 2000000 in
theorem mkValues_c4 (a0 a1 a2 : Option Addr) (c0 c1 c2 : Nat) (ids idx : List Int) (vals : List Value) (w : World) (l0 : ids.length ≤ 4096) (l1 : idx.length ≤ 4096) (l2 : vals.length ≤ 4096)
    (r0 : Rd .u16 w a0 ids) (r1 : Rd .i64 w a1 idx) (r2 : VRd w a2 vals) (hg : allGood w vals) (h1 : idx.length < ids.length) (h2 : vals.length < idx.length) :
    Calls Try.prog 12 #[.slice a0 ids.length c0, .slice a1 idx.length c1, .slice a2 vals.length c2] w fun e w' => e = .returned (.slice (some ⟨w.heap.size, 0, none⟩) vals.length vals.length) ∧ Row w' w.heap.size (mkPV ids idx vals vals.length) ∧ Below w.heap.size w w' := by
  have R0 : Hid (Rd .u16 w a0 ids) := r0
  have R1 : Hid (Rd .i64 w a1 idx) := r1
  have R2 : Hid (VRd w a2 vals) := r2
  have HG : Hid (allGood w vals) := hg
  clear r0 r1 r2 hg
  have hmk := run_makeV vals.length (by omega)
  go_enter Try.func12, Try.ntmps12
  go_wp2
  go_loopw [9] (fun i wr => ∃ k : Nat, k ≤ vals.length ∧ i = .int .i64 k ∧ RowTo wr w.heap.size vals.length k (pvAt ids idx vals) ∧ Below w.heap.size w wr)
    (fun i _ => vals.length - (intOf i).toNat)
  case atStart =>
    obtain ⟨f, hf⟩ := madeV w vals.length
    exact ⟨0, Nat.zero_le _, rfl, ⟨f, hf, fun i hi => absurd hi (by omega)⟩, (Below.refl _ _).alloc (Nat.le_refl _) _⟩
  case round =>
    obtain ⟨k, hk, rfl, hrow, hbel⟩ := hrel
    by_cases hlt : k < vals.length
    · obtain ⟨b0, o0, rfl, d0⟩ := R0.out k (by omega)
      obtain ⟨b1, o1, rfl, d1⟩ := R1.out k (by omega)
      obtain ⟨b2, o2, rfl, d2⟩ := R2.out k (by omega)
      obtain ⟨ao, n, c, hv, _, _⟩ := HG.out _ (getD_memV vals k (by omega))
      have g0 : wr.cell? ⟨b0, o0 + k, none⟩ = some (.int .u16 (ids.getD k 0)) := (hbel.cell (by exact World.block_lt_of_cell? w _ d0)).trans d0
      have g1 : wr.cell? ⟨b1, o1 + k, none⟩ = some (.int .i64 (idx.getD k 0)) := (hbel.cell (by exact World.block_lt_of_cell? w _ d1)).trans d1
      have g2 : wr.cell? ⟨b2, o2 + k, none⟩ = some (vals.getD k nilS) := (hbel.cell (by exact World.block_lt_of_cell? w _ d2)).trans d2
      obtain ⟨x, hx⟩ : ∃ x, x = ids.getD k 0 := ⟨_, rfl⟩
      obtain ⟨y, hy⟩ : ∃ y, y = idx.getD k 0 := ⟨_, rfl⟩
      have HP : Hid (pvAt ids idx vals k = ((x, y), .slice ao n c)) := by unfold Hid pvAt; rw [hv, hx, hy]
      rw [← hx] at g0
      rw [← hy] at g1
      rw [hv] at g2
      obtain ⟨⟨v0, e0⟩, f0⟩ := hrow.cells (k * 3) (by omega)
      obtain ⟨⟨v1, e1⟩, f1⟩ := hrow.cells (k * 3 + 1) (by omega)
      obtain ⟨⟨v2, e2⟩, f2⟩ := hrow.cells (k * 3 + 2) (by omega)
      have i0 : (k : Int) < (ids.length : Int) := by omega
      have i1 : (k : Int) < (idx.length : Int) := by omega
      have i2 : (k : Int) < (vals.length : Int) := by omega
      have i3 : (k : Int) < (vals.length : Int) := by omega
      clear hx hy hv d0 d1 d2
      go_wp2
      go_region
      all_goals
        go_wp2
        go_roundw
        case rel => exact ⟨k + 1, by omega, by go_num, hrow.step x y _ HP.out, ((((hbel.setCell (by exact Nat.le_refl _) _).setCell (by exact Nat.le_refl _) _).setCell (by exact Nat.le_refl _) _)).drew⟩
        case measure => simp [intOf]; omega
    · obtain rfl : k = vals.length := by omega
      go_wp2
      go_ret
      refine ⟨rfl, RowTo.row ?_, hbel⟩
      rw [mkPV_len]
      obtain ⟨f, hf, hc⟩ := hrow
      exact ⟨f, hf, fun i hi => by simp only [mkPV_getD _ _ _ _ _ hi]; exact hc i hi⟩

theorem mkValues_any (a0 a1 a2 : Option Addr) (c0 c1 c2 : Nat) (ids idx : List Int) (vals : List Value) (w : World) (l0 : ids.length ≤ 4096) (l1 : idx.length ≤ 4096) (l2 : vals.length ≤ 4096)
    (r0 : Rd .u16 w a0 ids) (r1 : Rd .i64 w a1 idx) (r2 : VRd w a2 vals) (hg : allGood w vals) :
    ∃ n, n ≤ ids.length ∧ n ≤ idx.length ∧ n ≤ vals.length ∧ Calls Try.prog 12 #[.slice a0 ids.length c0, .slice a1 idx.length c1, .slice a2 vals.length c2] w fun e w' => e = .returned (.slice (some ⟨w.heap.size, 0, none⟩) n n) ∧ Row w' w.heap.size (mkPV ids idx vals n) ∧ Below w.heap.size w w' := by
  by_cases h1 : idx.length < ids.length
  · by_cases h2 : vals.length < idx.length
    · exact ⟨_, by omega, by omega, by omega, mkValues_c4 a0 a1 a2 c0 c1 c2 ids idx vals w l0 l1 l2 r0 r1 r2 hg h1 h2⟩
    · exact ⟨_, by omega, by omega, by omega, mkValues_c3 a0 a1 a2 c0 c1 c2 ids idx vals w l0 l1 l2 r0 r1 r2 hg h1 h2⟩
  · by_cases h2 : vals.length < ids.length
    · exact ⟨_, by omega, by omega, by omega, mkValues_c2 a0 a1 a2 c0 c1 c2 ids idx vals w l0 l1 l2 r0 r1 r2 hg h1 h2⟩
    · exact ⟨_, by omega, by omega, by omega, mkValues_c1 a0 a1 a2 c0 c1 c2 ids idx vals w l0 l1 l2 r0 r1 r2 hg h1 h2⟩

end Go.Proofs.Qxb6000494a
