import Derived.Test.Qxb6000494aD
namespace Go.Proofs.Qxb6000494a
open Go.RowKit

theorem row_cells {w w' : World} {b : Nat} {t : TypeId} {zs : List Int} (hr : w.rowIs b t zs.length (fun i => .int .u16 (zs.getD i 0))) (hb : Below w.heap.size w w') :
    ∀ i, i < zs.length → w'.cell? ⟨b, 0 + i, none⟩ = some (.int .u16 (zs.getD i 0)) := fun i hi => by
  rw [hb.cell (by exact hr.lt), Nat.zero_add]; exact hr.cell hi

theorem own_cells {w : World} {B : Nat} {e : TypeId} {v : Value} {G : List Int} (hne : 0 < G.length) (h : w.ownsRow B e 1 v G.length (G.map (Value.int .u16))) :
    ∃ g cap, v = .slice (some ⟨g, 0, none⟩) G.length cap ∧ ∀ i, i < G.length → w.cell? ⟨g, 0 + i, none⟩ = some (.int .u16 (G.getD i 0)) := by
  obtain ⟨ao, cap, rfl, hc⟩ := own_shape h
  obtain ⟨g, rfl, _⟩ := hc 0 hne
  refine ⟨g, cap, rfl, fun i hi => ?_⟩
  obtain ⟨g', e', hg⟩ := hc i hi
  simp at e'
  subst e'
  rw [Nat.zero_add, hg]
  simp [List.getD, hi]

set_option maxHeartbeats 1000000 in
theorem walk_main (b off cap : Nat) (zs : List Int) (w : World) (hne : 0 < zs.length) (hl : zs.length ≤ 4096) (hb : b < w.heap.size)
    (hc : ∀ i, i < zs.length → w.cell? ⟨b, off + i, none⟩ = some (.int .u16 (zs.getD i 0))) :
    Calls Try.prog 5 #[.slice (some ⟨b, off, none⟩) zs.length cap] w fun e w' => e = .returned (.bool true) ∧ Below w.heap.size w w' := by
  have HC : Hid (∀ i, i < zs.length → w.cell? ⟨b, off + i, none⟩ = some (.int .u16 (zs.getD i 0))) := hc
  clear hc
  go_enter Try.func5, Try.ntmps5
  go_wp2_with fail
  refine (zzB_ok _ _ _ _ (by omega)).mono ?_
  rintro e w' ⟨rfl, rfl⟩
  go_wp2_with fail
  refine (clone_row b off zs.length cap zs _ hl hb HC.out).mono ?_
  rintro e w1 ⟨rfl, hr1, hb1⟩
  go_wp2_with fail
  refine (mk_row _ 0 _ zs _ hl hr1.lt (row_cells hr1 (Below.refl _ _))).mono ?_
  rintro e w2 ⟨rfl, hr2, hb2⟩
  go_wp2_with fail
  refine (zzbanks_row _ zs _ hl hr2.lt hr2).mono ?_
  rintro e w3 ⟨v, rfl, ho3, hb3⟩
  have hGle := banks_len zs
  have hGne : 0 < (banksL zs).length := by
    have := (banks_mem zs (zs.getD 0 0)).2 (getD_mem zs 0 hne)
    exact List.length_pos_of_mem this
  obtain ⟨g, gcap, hv, hcG⟩ := own_cells hGne ho3
  have HG : Hid (∀ i, i < (banksL zs).length → w3.cell? ⟨g, 0 + i, none⟩ = some (.int .u16 ((banksL zs).getD i 0))) := hcG
  have hb23 : Below w1.heap.size w1 w3 := hb2.trans (hb3.mono hb2.size)
  have HI : Hid (∀ i, i < zs.length → w3.cell? ⟨w'.heap.size, 0 + i, none⟩ = some (.int .u16 (zs.getD i 0))) := row_cells hr1 hb23
  have HB : Below w'.heap.size w' w3 := hb1.trans (hb23.mono hb1.size)
  clear hcG ho3 hr1 hr2 hb1 hb2 hb3 hb23
  rw [hv]
  go_wp2
  go_loopw [23] (fun i wr => ∃ k : Nat, k ≤ (banksL zs).length ∧ i = .int .i64 k ∧ ∃ n, wr = w3.drewN n) (fun i _ => (banksL zs).length - (intOf i).toNat)
  case atStart => exact ⟨0, Nat.zero_le _, rfl, 0, rfl⟩
  case round =>
    obtain ⟨k, hk, rfl, n, rfl⟩ := hrel
    by_cases hlt : k < (banksL zs).length
    · go_wp2
      go_loopw [5] (fun i wr => ∃ j : Nat, j ≤ k ∧ i = .int .i64 j ∧ ∃ n, wr = w3.drewN n) (fun i _ => k - (intOf i).toNat)
      case atStart => exact ⟨0, Nat.zero_le _, rfl, n, rfl⟩
      case round =>
        obtain ⟨j, hj, rfl, n, rfl⟩ := hrel
        by_cases hjk : j < k
        · have gk := HG.out k hlt
          have gj := HG.out j (by omega)
          have hn := banks_ne zs j k hjk hlt
          obtain ⟨x, hx⟩ : ∃ x, x = (banksL zs).getD k 0 := ⟨_, rfl⟩
          obtain ⟨y, hy⟩ : ∃ y, y = (banksL zs).getD j 0 := ⟨_, rfl⟩
          rw [← hx] at gk hn
          rw [← hy] at gj hn
          rw [Nat.zero_add] at gk gj
          clear hx hy
          have b1 : (k : Int) < ((banksL zs).length : Int) := by omega
          have b2 : (j : Int) < ((banksL zs).length : Int) := by omega
          go_wp2
          go_quiet (fail)
          go_wp2
          go_roundw
          case rel => exact ⟨j + 1, by omega, by go_num, _, rfl⟩
          case measure => simp [intOf]; omega
        · go_wp2
          go_roundw
          case rel => exact ⟨k + 1, by omega, by go_num, _, rfl⟩
          case measure => simp [intOf]; omega
    · obtain rfl : k = (banksL zs).length := by omega
      clear hlt hk
      go_wp2
      go_loop [6, 43] (fun p i => ∃ (k : Nat) (pv : Int), k ≤ (banksL zs).length ∧ i = .int .i64 k ∧ p = .int .i64 pv ∧ ∀ j, k ≤ j → j < (banksL zs).length → pv < (zs.idxOf ((banksL zs).getD j 0) : Nat)) (fun _ i => (banksL zs).length - (intOf i).toNat)
      case atStart => exact ⟨0, -1, Nat.zero_le _, rfl, rfl, fun j _ _ => by omega⟩
      case round =>
        obtain ⟨k, pv, hk, rfl, rfl, hpv⟩ := hrel
        by_cases hlt : k < (banksL zs).length
        · have gk := HG.out k hlt
          have hmem := (banks_mem zs ((banksL zs).getD k 0)).1 (getD_mem _ k hlt)
          have hp := hpv k (Nat.le_refl _) hlt
          have HN : Hid (∀ j, k + 1 ≤ j → j < (banksL zs).length → ((zs.idxOf ((banksL zs).getD k 0) : Nat) : Int) < (zs.idxOf ((banksL zs).getD j 0) : Nat)) := fun j h1 h2 => by
            have := banks_inc zs k j (by omega) h2
            omega
          obtain ⟨x, hx⟩ : ∃ x, x = (banksL zs).getD k 0 := ⟨_, rfl⟩
          rw [← hx] at gk hmem hp HN
          rw [Nat.zero_add] at gk
          clear hx hpv
          go_wp2_with fail
          refine (firstAt_mem _ 0 _ zs x (w3.drewN n) hl hmem (fun i hi => HI.out i hi)).mono ?_
          rintro e w4 ⟨rfl, rfl⟩
          obtain ⟨f, hf⟩ : ∃ f, f = zs.idxOf x := ⟨_, rfl⟩
          rw [← hf] at hp HN ⊢
          clear hf
          go_wp2
          go_round
          case rel => exact ⟨k + 1, f, by omega, by go_num, rfl, HN.out⟩
          case measure => simp [intOf]; omega
        · obtain rfl : k = (banksL zs).length := by omega
          clear hpv hlt hk
          go_wp2
          go_loop [59] (fun i => ∃ k : Nat, k ≤ zs.length ∧ i = .int .i64 k) (fun i => zs.length - (intOf i).toNat)
          case atStart => exact ⟨0, Nat.zero_le _, rfl⟩
          case round =>
            obtain ⟨k, hk, rfl⟩ := hrel
            by_cases hlt : k < zs.length
            · have gk := HI.out k hlt
              have hmem := (banks_mem zs (zs.getD k 0)).2 (getD_mem _ k hlt)
              obtain ⟨x, hx⟩ : ∃ x, x = zs.getD k 0 := ⟨_, rfl⟩
              rw [← hx] at gk hmem
              rw [Nat.zero_add] at gk
              clear hx
              go_wp2_with fail
              refine (hasAlg_mem g 0 _ (banksL zs) x (w3.drewN n) (by omega) hmem (fun i hi => HG.out i hi)).mono ?_
              rintro e w4 ⟨rfl, rfl⟩
              go_wp2
              go_round
              case rel => exact ⟨k + 1, by omega, by go_num⟩
              case measure => simp [intOf]; omega
            · go_wp2
              go_ret
              exact ⟨rfl, below_drewN HB n⟩
end Go.Proofs.Qxb6000494a
