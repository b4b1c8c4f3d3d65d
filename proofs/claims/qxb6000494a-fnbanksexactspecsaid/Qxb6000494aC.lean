import Derived.Test.Qxb6000494aB
namespace Go.Proofs.Qxb6000494a
open Go.RowKit

def bkTo (zs : List Int) (k : Nat) : List Int := banksL (zs.take k)

theorem bkTo_zero (zs : List Int) : bkTo zs 0 = [] := rfl

theorem bkTo_succ (zs : List Int) (k : Nat) (h : k < zs.length) : bkTo zs (k + 1) = bk (bkTo zs k) (zs.getD k 0) := by
  unfold bkTo banksL
  rw [List.take_succ_eq_append_getElem h, List.foldl_append]
  simp [List.getD, h]

theorem bk_le (acc : List Int) (x : Int) : (bk acc x).length ≤ acc.length + 1 := by
  unfold bk; split <;> simp

theorem bkTo_le (zs : List Int) (k : Nat) : (bkTo zs k).length ≤ k := by
  induction k with
  | zero => simp [bkTo_zero]
  | succ k ih =>
    by_cases h : k < zs.length
    · rw [bkTo_succ zs k h]; have := bk_le (bkTo zs k) (zs.getD k 0); omega
    · have : bkTo zs (k + 1) = bkTo zs k := by
        unfold bkTo; rw [List.take_of_length_le (by omega), List.take_of_length_le (by omega)]
      rw [this]; omega

theorem mem_take_succ (L : List Int) (m : Nat) (y : Int) (h : m < L.length) : decide (y ∈ L.take (m + 1)) = (decide (y ∈ L.take m) || (L.getD m 0 == y)) := by
  rw [List.take_succ_eq_append_getElem h]
  rw [Bool.eq_iff_iff]
  simp only [List.mem_append, List.mem_singleton, decide_eq_true_eq, Bool.or_eq_true, beq_iff_eq, List.getD, List.getElem?_eq_getElem h, Option.getD_some]
  exact or_congr Iff.rfl ⟨Eq.symm, Eq.symm⟩

theorem own_shape {w : World} {B : Nat} {e : TypeId} {v : Value} {n : Nat} {xs : List Value} (h : w.ownsRow B e 1 v n xs) :
    ∃ ao cap, v = .slice ao n cap ∧ ∀ i, i < n → ∃ g, ao = some ⟨g, 0, none⟩ ∧ w.cell? ⟨g, i, none⟩ = xs[i]? := by
  obtain ⟨hx, h2⟩ := h
  rcases h2 with ⟨rfl, rfl⟩ | ⟨g, cap, cur, rfl, hg, hh, hc1, hc2, hc3, ht⟩
  · exact ⟨none, 0, rfl, fun i hi => absurd hi (by omega)⟩
  · refine ⟨_, cap, rfl, fun i hi => ⟨g, rfl, ?_⟩⟩
    simp at ht hc3
    rw [← ht]
    simp [World.cell?, hh, hi]

theorem Try.info35 : (Try.prog.info? 35).map (fun i => (i.zero, i.size, i.bytes)) = some (some (.int .u16 0), 1, 2) := by kernel_rfl

set_option maxHeartbeats 1000000 in
theorem banks_row (bv : Nat) (zs : List Int) (w : World) (hl : zs.length ≤ 4096) (hb : bv < w.heap.size)
    (hv : w.rowIs bv 39 (zs.length * 3) (mkF zs zs.length)) :
    Calls Try.prog 27 #[.slice (some ⟨bv, 0, none⟩) zs.length zs.length] w fun e w' => ∃ v, e = .returned v ∧
      w'.ownsRow w.heap.size 35 1 v (banksL zs).length ((banksL zs).map (Value.int .u16)) ∧ Below w.heap.size w w' := by
  obtain ⟨i0, hi0, hz0, hz1, hz2⟩ := info_parts Try.info35
  go_enter Try.func27, Try.ntmps27
  go_wp2
  go_loopw [3, 11] (fun v i wr => ∃ k : Nat, k ≤ zs.length ∧ i = .int .i64 k ∧ wr.ownsRow w.heap.size 35 1 v (bkTo zs k).length ((bkTo zs k).map (Value.int .u16)) ∧ Below w.heap.size w wr)
    (fun _ i _ => zs.length - (intOf i).toNat)
  case atStart => exact ⟨0, Nat.zero_le _, rfl, World.ownsRow_nil _ _ _ _, Below.refl _ _⟩
  case round =>
    obtain ⟨k, hk, rfl, hown, hbel⟩ := hrel
    by_cases hlt : k < zs.length
    · obtain ⟨y, hy⟩ : ∃ y, y = zs.getD k 0 := ⟨_, rfl⟩
      have c0 : wr.cell? ⟨bv, k * 3, none⟩ = some (.int .u16 y) := by
        rw [hbel.cell (by exact hb), hv.cell (by omega)]
        simp [mkF, hy, hlt]
      have c1 : wr.cell? ⟨bv, k * 3 + 1, none⟩ = some (.int .i64 k) := by
        rw [hbel.cell (by exact hb), hv.cell (by omega)]
        have h1 : (k * 3 + 1) / 3 = k := by omega
        have h2 : (k * 3 + 1) % 3 = 1 := by omega
        simp [mkF, h1, h2, hlt]
      have c2 : wr.cell? ⟨bv, k * 3 + 2, none⟩ = some (.slice none 0 0) := by
        rw [hbel.cell (by exact hb), hv.cell (by omega)]
        have h2 : (k * 3 + 2) % 3 = 2 := by omega
        simp [mkF, h2]
      have HS : Hid (bkTo zs (k + 1) = bk (bkTo zs k) y) := by rw [hy]; exact bkTo_succ zs k hlt
      clear hy
      have hle := bkTo_le zs k
      obtain ⟨ao, cap, rfl, hcl⟩ := own_shape hown
      have HCL : Hid (∀ (i : Nat), i < (bkTo zs k).length → ∃ g, ao = some { block := g, off := 0 } ∧ wr.cell? { block := g, off := i } = (List.map (Value.int IntKind.u16) (bkTo zs k))[i]?) := hcl
      clear hcl
      have hBw : w.heap.size ≤ wr.heap.size := hbel.size
      go_wp2
      go_loop [6, 17] (fun s i => ∃ m : Nat, m ≤ (bkTo zs k).length ∧ i = .int .i64 m ∧ s = .bool (decide (y ∈ (bkTo zs k).take m)))
        (fun _ i => (bkTo zs k).length - (intOf i).toNat)
      case atStart => exact ⟨0, Nat.zero_le _, rfl, by simp⟩
      case round =>
        obtain ⟨m, hm, rfl, rfl⟩ := hrel
        by_cases hml : m < (bkTo zs k).length
        · obtain ⟨g, rfl, hg⟩ := HCL.out m hml
          obtain ⟨x, hx⟩ : ∃ x, x = (bkTo zs k).getD m 0 := ⟨_, rfl⟩
          have hg2 : wr.cell? ⟨g, m, none⟩ = some (.int .u16 x) := by rw [hg, hx]; simp [List.getD, hml]
          have HM : Hid (decide (y ∈ (bkTo zs k).take (m + 1)) = (decide (y ∈ (bkTo zs k).take m) || (x == y))) := by rw [hx]; exact mem_take_succ _ m y hml
          clear hx hg
          have hg3 : ∀ o, (wr.alloc o).cell? ⟨g, m, none⟩ = some (.int .u16 x) := fun o => by
            rw [((Below.refl wr.heap.size wr).alloc (Nat.le_refl _) o).cell (by exact World.block_lt_of_cell? wr _ hg2)]; exact hg2
          obtain ⟨s, hs⟩ : ∃ s, s = decide (y ∈ (bkTo zs k).take m) := ⟨_, rfl⟩
          rw [← hs] at HM ⊢
          clear hs
          cases s
          all_goals
            go_wp2
            go_round
            case rel => exact ⟨m + 1, by omega, by go_num, by rw [HM.out]; simp⟩
            case measure => simp [intOf]; omega
        · have em : (bkTo zs k).take m = bkTo zs k := List.take_of_length_le (by omega)
          rw [em]
          by_cases hin : y ∈ bkTo zs k
          · have hd : decide (y ∈ bkTo zs k) = true := decide_eq_true hin
            rw [hd]
            have HS2 : Hid (bkTo zs (k + 1) = bkTo zs k) := by rw [HS.out]; unfold bk; rw [if_pos hin]; exact rfl
            clear hd hin em HS
            go_wp2
            go_roundw
            case rel => exact ⟨k + 1, by omega, by go_num, by rw [HS2.out]; exact hown.alloc _, hbel.alloc hBw _⟩
            case measure => simp [intOf]; omega
          · have hd : decide (y ∈ bkTo zs k) = false := decide_eq_false hin
            rw [hd]
            have HS2 : Hid (bkTo zs (k + 1) = bkTo zs k ++ [y]) := by rw [HS.out]; unfold bk; rw [if_neg hin]; exact rfl
            clear hd hin em HS
            go_wp2_with (at_builtin; refine wpList_append_own _ rfl _ _ 45 rfl w.heap.size 35 i0 (.int .u16 0) 1 2 Try.underlying45 hi0 hz0 hz1 hz2 rfl (by decide) _ _ _ rfl ((hown.alloc _).alloc _) ⟨wr.heap.size + 1, 0, none⟩ 1 1 [.int .u16 y] rfl rfl ?c1 ?c2 ?c3 ?c4 ?c5 ?_)
            case c2 => rfl
            case c3 => unfold maxLen; omega
            case c4 => omega
            case c5 => omega
            intro v' w1 hown' hgrow _
            have R1 : w1.ownsRow w.heap.size 35 1 v' (bkTo zs (k + 1)).length ((bkTo zs (k + 1)).map (Value.int .u16)) := by rw [HS2.out]; simpa using hown'
            have R2 : Below w.heap.size w w1 := ((hbel.alloc hBw _).alloc (by simp; omega) _).grown hgrow (by simp; omega) (fun q hq => (hown.lt q hq).1)
            clear hown' hgrow
            go_wp2
            go_roundw
            case rel => exact ⟨k + 1, by omega, by go_num, R1, R2⟩
            case measure => simp [intOf]; omega
    · obtain rfl : k = zs.length := by omega
      go_wp2
      go_ret
      refine ⟨_, rfl, ?_, hbel⟩
      have e : bkTo zs zs.length = banksL zs := by unfold bkTo; rw [List.take_length]
      rw [e] at hown
      exact hown

set_option maxHeartbeats 400000 in
theorem zzbanks_row (bv : Nat) (zs : List Int) (w : World) (hl : zs.length ≤ 4096) (hb : bv < w.heap.size)
    (hv : w.rowIs bv 39 (zs.length * 3) (mkF zs zs.length)) :
    Calls Try.prog 19 #[.slice (some ⟨bv, 0, none⟩) zs.length zs.length] w fun e w' => ∃ v, e = .returned v ∧
      w'.ownsRow w.heap.size 35 1 v (banksL zs).length ((banksL zs).map (Value.int .u16)) ∧ Below w.heap.size w w' := by
  go_enter Try.func19, Try.ntmps19
  go_wp2_with (go_at_call 27; refine (banks_row bv zs _ hl hb hv).mono ?_; rintro e w' ⟨v, rfl, ho, hb'⟩)
  go_ret
  exact ⟨_, rfl, ho, hb'⟩
end Go.Proofs.Qxb6000494a
