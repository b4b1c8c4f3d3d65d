import Derived.Test.Qxb6000494aA
namespace Go.Proofs.Qxb6000494a
open Go.RowKit

theorem idx_at (zs : List Int) (x : Int) (h : x ∈ zs) : zs.getD (zs.idxOf x) 0 = x := by
  have := List.idxOf_lt_length_of_mem h
  simp [List.getD, this]

theorem idx_before (zs : List Int) (x : Int) (k : Nat) (h : k < zs.idxOf x) (hk : k < zs.length) : zs.getD k 0 ≠ x := by
  intro e
  have e2 : zs[k] = x := by simpa [List.getD, hk] using e
  have := List.not_of_lt_findIdx (p := (· == x)) (xs := zs) (i := k) (by simpa [List.idxOf] using h)
  simp [e2] at this

set_option maxHeartbeats 400000 in
theorem firstAt_mem (b off cap : Nat) (zs : List Int) (x : Int) (w : World) (hl : zs.length ≤ 4096) (hx : x ∈ zs)
    (hc : ∀ i, i < zs.length → w.cell? ⟨b, off + i, none⟩ = some (.int .u16 (zs.getD i 0))) :
    Calls Try.prog 21 #[.slice (some ⟨b, off, none⟩) zs.length cap, .int .u16 x] w fun e w' => e = .returned (.int .i64 (zs.idxOf x : Nat)) ∧ w' = w := by
  have HC : Hid (∀ i, i < zs.length → w.cell? ⟨b, off + i, none⟩ = some (.int .u16 (zs.getD i 0))) := hc
  clear hc
  go_enter Try.func21, Try.ntmps21
  go_wp2
  go_loop [8] (fun i => ∃ k : Nat, k ≤ zs.length ∧ i = .int .i64 k ∧ k ≤ zs.idxOf x)
    (fun i => zs.length - (intOf i).toNat)
  case atStart => exact ⟨0, Nat.zero_le _, rfl, Nat.zero_le _⟩
  case round =>
    obtain ⟨k, hk, rfl, hi⟩ := hrel
    have hlt : k < zs.length := Nat.lt_of_le_of_lt hi (List.idxOf_lt_length_of_mem hx)
    have c1 := HC.out k hlt
    by_cases e : k = zs.idxOf x
    · have e2 : zs.getD k 0 = x := by rw [e]; exact idx_at zs x hx
      rw [e2] at c1
      clear e2
      have HE : Hid (k = zs.idxOf x) := e
      clear e
      go_wp2
      go_ret
      exact ⟨congrArg (fun n : Nat => Ending.returned (Value.int .i64 (n : Int))) HE.out, rfl⟩
    · have e2 := idx_before zs x k (by omega) hlt
      obtain ⟨y, hy⟩ : ∃ y, y = zs.getD k 0 := ⟨_, rfl⟩
      rw [← hy] at c1 e2
      clear hy
      have e3 : (y == x) = false := by simpa using e2
      go_wp2
      go_round
      case rel => exact ⟨k+1, by omega, by go_num, by omega⟩
      case measure => simp [intOf]; omega

set_option maxHeartbeats 400000 in
theorem hasAlg_mem (b off cap : Nat) (zs : List Int) (x : Int) (w : World) (hl : zs.length ≤ 4096) (hx : x ∈ zs)
    (hc : ∀ i, i < zs.length → w.cell? ⟨b, off + i, none⟩ = some (.int .u16 (zs.getD i 0))) :
    Calls Try.prog 22 #[.slice (some ⟨b, off, none⟩) zs.length cap, .int .u16 x] w fun e w' => e = .returned (.bool true) ∧ w' = w := by
  have HC : Hid (∀ i, i < zs.length → w.cell? ⟨b, off + i, none⟩ = some (.int .u16 (zs.getD i 0))) := hc
  clear hc
  go_enter Try.func22, Try.ntmps22
  go_wp2
  go_loop [8] (fun i => ∃ k : Nat, k ≤ zs.length ∧ i = .int .i64 k ∧ k ≤ zs.idxOf x)
    (fun i => zs.length - (intOf i).toNat)
  case atStart => exact ⟨0, Nat.zero_le _, rfl, Nat.zero_le _⟩
  case round =>
    obtain ⟨k, hk, rfl, hi⟩ := hrel
    have hlt : k < zs.length := Nat.lt_of_le_of_lt hi (List.idxOf_lt_length_of_mem hx)
    have c1 := HC.out k hlt
    by_cases e : k = zs.idxOf x
    · have e2 : zs.getD k 0 = x := by rw [e]; exact idx_at zs x hx
      rw [e2] at c1
      clear e2 e
      go_wp2
      go_ret
      exact ⟨rfl, rfl⟩
    · have e2 := idx_before zs x k (by omega) hlt
      obtain ⟨y, hy⟩ : ∃ y, y = zs.getD k 0 := ⟨_, rfl⟩
      rw [← hy] at c1 e2
      clear hy
      have e3 : (y == x) = false := by simpa using e2
      go_wp2
      go_round
      case rel => exact ⟨k+1, by omega, by go_num, by omega⟩
      case measure => simp [intOf]; omega

theorem Try.info39 : (Try.prog.info? 39).map (fun i => (i.zero, i.size, i.bytes)) = some (some (.agg #[.int .u16 0, .int .i64 0, .slice none 0 0]), 3, 40) := by kernel_rfl

set_option maxHeartbeats 400000 in

theorem run_make3 (n : Nat) (h : n ≤ 1000000) (w : World) :
    (Instr.makeSlice 31 (.int .i64 (n : Int)) (.int .i64 (n : Int))).run Try.prog w = .ok (.slice (some ⟨w.heap.size, 0, none⟩) n n) (w.alloc (.cells (madeCells #[.int .u16 0, .int .i64 0, .slice none 0 0] (n * 3)) 39)) := by
  obtain ⟨i, hi, hz, hs, hb⟩ := info_parts Try.info39
  have hr := run_make (P := Try.prog) w 31 39 i _ Try.underlying31 hi hz .i64 .i64 n n (by omega) (Int.le_refl _) (by rw [hb]; omega) (by omega)
  simp only [Int.toNat_natCast, hs] at hr
  exact hr

theorem made3 (w : World) (n : Nat) : (w.alloc (.cells (madeCells #[.int .u16 0, .int .i64 0, .slice none 0 0] (n * 3)) 39)).rowIs w.heap.size 39 (n * 3) (fun j => if j % 3 = 0 then .int .u16 0 else if j % 3 = 1 then .int .i64 0 else .slice none 0 0) := by
  refine ⟨_, Deep.blk_alloc_new _ _, size_madeCells _ _, fun i hi => ?_⟩
  have : i % 3 = 0 ∨ i % 3 = 1 ∨ i % 3 = 2 := by omega
  rcases this with h | h | h <;> simp [madeCells, hi, h]

def mkF (zs : List Int) (k j : Nat) : Value :=
  if j % 3 = 0 then (if j / 3 < k then .int .u16 (zs.getD (j / 3) 0) else .int .u16 0) else if j % 3 = 1 then (if j / 3 < k then .int .i64 (j / 3 : Nat) else .int .i64 0) else .slice none 0 0

theorem mk_step (zs : List Int) (k : Nat) (y : Int) (hy : y = zs.getD k 0) (j : Nat) :
    (if j = k * 3 + 2 then .slice none 0 0 else if j = k * 3 + 1 then .int .i64 k else if j = k * 3 then .int .u16 y else mkF zs k j) = mkF zs (k + 1) j := by
  subst hy
  by_cases h : j / 3 = k
  · subst h
    have : j = j / 3 * 3 ∨ j = j / 3 * 3 + 1 ∨ j = j / 3 * 3 + 2 := by omega
    unfold mkF
    rcases this with h | h | h
    · rw [if_neg (by omega), if_neg (by omega), if_pos h, if_pos (by omega), if_pos (by omega)]
    · rw [if_neg (by omega), if_pos h, if_neg (by omega), if_pos (by omega), if_pos (by omega)]
    · rw [if_pos h, if_neg (by omega), if_neg (by omega)]
  · rw [if_neg (by omega), if_neg (by omega), if_neg (by omega)]
    have e : (j / 3 < k + 1) = (j / 3 < k) := propext (by omega)
    unfold mkF
    simp only [e]

set_option maxHeartbeats 400000 in
theorem mk_row (b off cap : Nat) (zs : List Int) (w : World) (hl : zs.length ≤ 4096) (hb : b < w.heap.size)
    (hc : ∀ i, i < zs.length → w.cell? ⟨b, off + i, none⟩ = some (.int .u16 (zs.getD i 0))) :
    Calls Try.prog 20 #[.slice (some ⟨b, off, none⟩) zs.length cap] w fun e w' => e = .returned (.slice (some ⟨w.heap.size, 0, none⟩) zs.length zs.length) ∧
      w'.rowIs w.heap.size 39 (zs.length * 3) (mkF zs zs.length) ∧ Below w.heap.size w w' := by
  have HC : Hid (∀ i, i < zs.length → w.cell? ⟨b, off + i, none⟩ = some (.int .u16 (zs.getD i 0))) := hc
  clear hc
  have hmk := run_make3 zs.length (by omega)
  go_enter Try.func20, Try.ntmps20
  go_wp2
  go_loopw [10] (fun i wr => ∃ k : Nat, k ≤ zs.length ∧ i = .int .i64 k ∧ wr.rowIs w.heap.size 39 (zs.length * 3) (mkF zs k) ∧ Below w.heap.size w wr)
    (fun i _ => zs.length - (intOf i).toNat)
  case atStart => exact ⟨0, Nat.zero_le _, rfl, (made3 w zs.length).congr (by simp [mkF]), (Below.refl _ _).alloc (Nat.le_refl _) _⟩
  case round =>
    obtain ⟨k, hk, rfl, hrow, hbel⟩ := hrel
    by_cases hlt : k < zs.length
    · have c1 : wr.cell? ⟨b, off + k, none⟩ = some (.int .u16 (zs.getD k 0)) := (hbel.cell (by exact hb)).trans (HC.out k hlt)
      obtain ⟨y, hy⟩ : ∃ y, y = zs.getD k 0 := ⟨_, rfl⟩
      rw [← hy] at c1
      have HY : Hid (y = zs.getD k 0) := hy
      clear hy
      obtain ⟨v0, g0⟩ : ∃ v, wr.cell? ⟨w.heap.size, k * 3, none⟩ = some v := ⟨_, hrow.cell (by omega)⟩
      obtain ⟨v1, g1⟩ : ∃ v, wr.cell? ⟨w.heap.size, k * 3 + 1, none⟩ = some v := ⟨_, hrow.cell (by omega)⟩
      obtain ⟨v2, g2⟩ : ∃ v, wr.cell? ⟨w.heap.size, k * 3 + 2, none⟩ = some v := ⟨_, hrow.cell (by omega)⟩
      have f0 := hrow.frozen (k * 3)
      have f1 := hrow.frozen (k * 3 + 1)
      have f2 := hrow.frozen (k * 3 + 2)
      go_wp2
      go_roundw
      case rel =>
        refine ⟨k + 1, by omega, by go_num, (((hrow.set _ _).set _ _).set _ _).congr ?_, ((hbel.setCell ?_ _).setCell ?_ _).setCell ?_ _⟩
        · exact fun j _ => mk_step zs k y HY.out j
        all_goals exact Nat.le_refl _
      case measure => simp [intOf]; omega
    · go_wp2
      go_ret
      obtain rfl : k = zs.length := by omega
      exact ⟨rfl, hrow, hbel⟩

/-- what banks computes -/
def bk (acc : List Int) (x : Int) : List Int := if x ∈ acc then acc else acc ++ [x]
def banksL (zs : List Int) : List Int := zs.foldl bk []

end Go.Proofs.Qxb6000494a
