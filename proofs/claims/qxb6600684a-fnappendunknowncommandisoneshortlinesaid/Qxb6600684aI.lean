import Derived.Test.Qxb6600684aH
set_option linter.unusedVariables false
namespace Go.Proofs.Qxb6600684a
open Go.RowKit

/-- the bytes at block g are zs, '-', Y, CR, LF -/
def Got (w : World) (g : Nat) (zs Y : List Int) : Prop := ∀ i, i < (zs ++ [45] ++ Y ++ [13, 10]).length → w.cell? ⟨g, i, none⟩ = some (.int .u8 ((zs ++ [45] ++ Y ++ [13, 10]).getD i 0))

theorem Got.below {w w' : World} {g : Nat} {zs Y : List Int} (h : Got w g zs Y) (hb : Below w.heap.size w w') : Got w' g zs Y := fun i hi => by
  rw [hb.cell (by exact World.block_lt_of_cell? w _ (h i hi))]
  exact h i hi

theorem got_of {B : Nat} {w : World} {v : Value} {zs Y : List Int} (h : Own B w v (zs ++ [45] ++ Y ++ [13, 10])) : ∃ g cap, v = .slice (some ⟨g, 0, none⟩) (zs.length + 1 + Y.length + 2) cap ∧ zs.length + 1 + Y.length + 2 ≤ cap ∧ cap ≤ maxLen ∧ Got w g zs Y := by
  have hL : (zs ++ [45] ++ Y ++ [13, 10]).length = zs.length + 1 + Y.length + 2 := by simp; omega
  obtain ⟨g, cap, rfl, h1, h2⟩ := h.shape2 (by omega)
  refine ⟨g, cap, by rw [hL], by omega, h2, fun i hi => h.cell hi⟩

theorem Got.head {w : World} {g : Nat} {zs Y : List Int} (h : Got w g zs Y) : Rd .u8 w (some ⟨g, 0, none⟩) zs := fun i hi =>
  ⟨g, 0, rfl, by
    rw [Nat.zero_add, h i (by simp only [List.length_append]; omega), List.append_assoc, List.append_assoc, app_left _ _ _ hi]⟩
theorem Got.dash {w : World} {g : Nat} {zs Y : List Int} (h : Got w g zs Y) : w.cell? ⟨g, zs.length, none⟩ = some (.int .u8 45) := by
  rw [h _ (by simp), List.append_assoc, List.append_assoc]
  have := app_right zs ([45] ++ (Y ++ [13, 10])) 0
  rw [Nat.add_zero] at this
  rw [this]
  rfl
theorem Got.body {w : World} {g : Nat} {zs Y : List Int} (h : Got w g zs Y) {j : Nat} (hj : j < Y.length) : w.cell? ⟨g, zs.length + 1 + j, none⟩ = some (.int .u8 (Y.getD j 0)) := by
  have e : (zs ++ [45]).length = zs.length + 1 := by simp
  rw [h _ (by simp; omega), List.append_assoc (zs ++ [45]), ← e, app_right, app_left _ _ _ hj]
theorem Got.cr {w : World} {g : Nat} {zs Y : List Int} (h : Got w g zs Y) : w.cell? ⟨g, zs.length + 1 + Y.length, none⟩ = some (.int .u8 13) := by
  have e : (zs ++ [45] ++ Y).length = zs.length + 1 + Y.length := by simp; omega
  have := app_right (zs ++ [45] ++ Y) [13, 10] 0
  rw [Nat.add_zero, e] at this
  rw [h _ (by simp; omega), this]
  rfl
theorem Got.lf {w : World} {g : Nat} {zs Y : List Int} (h : Got w g zs Y) : w.cell? ⟨g, zs.length + 1 + Y.length + 1, none⟩ = some (.int .u8 10) := by
  have e : (zs ++ [45] ++ Y).length = zs.length + 1 + Y.length := by simp; omega
  have := app_right (zs ++ [45] ++ Y) [13, 10] 1
  rw [e] at this
  rw [h _ (by simp; omega), this]
  rfl

set_option maxHeartbeats 1000000 in
theorem un_big (a0 a1 : Option Addr) (l0 c0 c1 : Nat) (vs : List Value) (w : World) (m0 : l0 ≤ maxLen) (m1 : vs.length ≤ maxLen) (hv : InV w a1 vs) (hb : 524288 < l0 ∨ 65536 < vs.length) :
    Calls Try.prog 6 #[.slice a0 l0 c0, .slice a1 vs.length c1] w fun e w' => e = .returned (.bool true) ∧ Below w.heap.size w w' := by
  have HM : Hid (l0 ≤ maxLen ∧ vs.length ≤ maxLen ∧ InV w a1 vs) := ⟨m0, m1, hv⟩
  unfold maxLen at m0 m1
  clear hv
  have cs : 524288 < l0 ∨ (l0 ≤ 524288 ∧ 65536 < vs.length) := by omega
  clear hb
  rcases cs with h1 | ⟨h1, h2⟩
  all_goals
    go_enter Try.func6, Try.ntmps6
    go_wp2_with fail
    refine (zz20_any _ _ _ _ _ vs _ HM.out.1 HM.out.2.1 HM.out.2.2).mono ?_
    rintro e w' ⟨r, rfl, rfl, _⟩
    cases r
    · go_wp2
      go_ret
      exact ⟨rfl, Below.refl _ _⟩
    · go_wp2
      go_ret
      exact ⟨rfl, Below.refl _ _⟩

set_option maxHeartbeats 4000000 in
theorem un_main (a0 a1 : Option Addr) (c0 c1 : Nat) (zs : List Int) (vs : List Value) (w : World) (m0 : zs.length ≤ 524288) (m1 : vs.length ≤ 65536) (hr : Rd .u8 w a0 zs) (hv : InV w a1 vs) :
    Calls Try.prog 6 #[.slice a0 zs.length c0, .slice a1 vs.length c1] w fun e w' => e = .returned (.bool true) ∧ Below w.heap.size w w' := by
  have HR : Hid (Rd .u8 w a0 zs) := hr
  have HV : Hid (InV w a1 vs) := hv
  clear hr hv
  go_enter Try.func6, Try.ntmps6
  go_wp2_with fail
  refine (zz20_any a0 a1 _ c0 c1 vs _ (by unfold maxLen; omega) (by unfold maxLen; omega) HV.out).mono ?_
  rintro e w' ⟨r, rfl, rfl, hok⟩
  cases r
  · go_wp2
    go_ret
    exact ⟨rfl, Below.refl _ _⟩
  have HOK : Hid (lensOk vs vs.length) := hok rfl
  clear hok
  go_wp2
  go_loop [5, 6] (fun t i => ∃ (k : Nat) (s : Int), k ≤ vs.length ∧ i = .int .i64 k ∧ t = .int .i64 s ∧ 0 ≤ s ∧ s ≤ 2097152) (fun _ i => vs.length - (intOf i).toNat)
  case atStart => exact ⟨0, _, Nat.zero_le _, rfl, rfl, by omega, by omega⟩
  case round =>
    obtain ⟨k, s, hk, rfl, rfl, h0, h1⟩ := hrel
    by_cases hlt : k < vs.length
    · obtain ⟨b, off, a, ys, c, rfl, g1, hn, hln, _⟩ := HV.out.at hlt
      have hy : ys.length ≤ 1048576 := by rw [← hln]; exact HOK.out k hlt
      clear hln hn
      by_cases h3 : s + ys.length ≤ 1048576
      · go_wp2
        go_round
        case rel => exact ⟨k + 1, _, by omega, by go_num, rfl, by omega, by omega⟩
        case measure => simp [intOf]; omega
      · go_wp2
        go_ret
        exact ⟨rfl, Below.refl _ _⟩
    · obtain rfl : k = vs.length := by omega
      by_cases h3 : s ≤ 1048576
      · by_cases hz : vs.length = 0
        · go_wp2
          go_ret
          exact ⟨rfl, Below.refl _ _⟩
        · have hne : 1 ≤ vs.length := by omega
          go_wp2_with fail
          refine (clone8v a0 c0 zs _ (by omega) HR.out).mono ?_
          rintro e w1 ⟨v1, rfl, q1, hb1⟩
          have Q1 : Hid (CV w'.heap.size w1 v1 zs) := q1
          clear q1
          go_wp2_with fail
          refine (cloneArgs a1 c1 vs _ m1 hne (HV.out.below hb1) HOK.out).mono ?_
          rintro e w2 ⟨vs', hl', rfl, hargs, hb2⟩
          have HARGS : Hid (Args w2 w1.heap.size vs') := hargs
          have HL' : Hid (vs'.length = vs.length) := hl'
          clear hargs hl'
          have Q2 : Hid (CV 0 w2 v1 zs) := (Q1.out.below hb2).mono (Nat.zero_le _)
          have T2 := bt hb1 hb2
          obtain ⟨a2, rfl, q2, _⟩ := Q2.out.shape
          have R2 : Hid (Rd .u8 w2 a2 zs) := q2
          clear q2 Q1 hb1
          go_wp2_with fail
          refine (clone8v a2 _ zs _ (by omega) R2.out).mono ?_
          rintro e w3 ⟨v3, rfl, q3, hb3⟩
          obtain ⟨a3, rfl, q3', _⟩ := q3.shape
          have R3 : Hid (Rd .u8 w3 a3 zs) := q3'
          have T3 := bt T2 hb3
          have HC : Hid (Calls Try.prog 22 #[.slice a2 zs.length zs.length, .slice (some ⟨w1.heap.size, 0, none⟩) vs.length vs.length] w3 (Unk w3 zs)) := by
            have h := zzunk_any (.slice a2 zs.length zs.length) zs w1.heap.size vs' w3 (by omega) (by rw [HL'.out]; exact hne) (by rw [HL'.out]; exact m1) (Q2.out.below hb3) (HARGS.out.below hb3)
            rw [HL'.out] at h
            exact h
          clear q3 q3' HARGS HL' Q2 R2 T2 hb2
          go_wp2_with fail
          refine HC.out.mono ?_
          rintro e w4 ⟨n, hn1, hn2, v4, Y, rfl, hY, hno, ho, hb4⟩
          obtain ⟨g, cap, rfl, hc1, hc2, hg⟩ := got_of ho
          rw [hY] at hc1 ⊢
          have HG : Hid (Got w4 g zs Y) := hg
          have HNO : Hid (∀ j, j < n → noCR (Y.getD j 0)) := hno
          have HY : Hid (Y.length = n) := hY
          have T4 := bt T3 hb4
          have R4 : Hid (Rd .u8 w4 a3 zs) := Rd.below R3.out hb4
          unfold maxLen at hc2
          clear hg hno hY ho hb4 hb3 T3 R3 HC
          go_wp2_with fail
          refine (equal_any (some ⟨g, 0, none⟩) a3 cap _ zs _ (by omega) HG.out.head R4.out).mono ?_
          rintro e w5 ⟨rfl, hb5⟩
          have HG5 : Hid (Got w5 g zs Y) := HG.out.below hb5
          have T5 := bt T4 hb5
          have d1 := HG5.out.dash
          have d2 := HG5.out.cr
          have d3 := HG5.out.lf
          rw [HY.out] at d2 d3
          clear HG R4 hb5 T4
          go_wp2
          go_loop [10] (fun i => ∃ j : Nat, j ≤ n ∧ i = .int .i64 ((zs.length + 1 + j : Nat) : Int)) (fun i => zs.length + 1 + n - (intOf i).toNat)
          case atStart => exact ⟨0, Nat.zero_le _, by go_num⟩
          case round =>
            obtain ⟨j, hj, rfl⟩ := hrel
            by_cases hlt : j < n
            · have d4 := HG5.out.body (j := j) (by rw [HY.out]; exact hlt)
              have HN : Hid (noCR (Y.getD j 0)) := HNO.out j hlt
              obtain ⟨c, hc⟩ : ∃ c, c = Y.getD j 0 := ⟨_, rfl⟩
              rw [← hc] at d4 HN
              clear hc
              go_wp2_with fail
              refine (cline_any c _ HN.out).mono ?_
              rintro e w6 ⟨rfl, rfl⟩
              go_wp2
              go_round
              case rel =>
                refine ⟨trivial, _, _, _, _, _, _, _, _, _, _, _, _, _, _, ⟨j + 1, by omega, ?_⟩, rfl⟩
                go_num
              case measure => simp [intOf]; omega
            · go_wp2
              go_ret
              exact ⟨rfl, T5⟩
      · go_wp2
        go_ret
        exact ⟨rfl, Below.refl _ _⟩

end Go.Proofs.Qxb6600684a
