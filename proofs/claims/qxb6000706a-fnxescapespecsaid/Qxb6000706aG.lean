import Derived.Test.Qxb6000706aF
set_option linter.unusedVariables false
namespace Go.Proofs.Qxb6000706a
open Go.RowKit

set_option maxHeartbeats 1000000 in
theorem lk_short (ao : Option Addr) (cap : Nat) (zs : List Int) (w : World) (h7 : zs.length < 7) :
    Calls Try.prog 17 #[.slice ao zs.length cap] w fun e w' => e = .returned (.bool (looks zs)) ∧ w' = w := by
  have HL : Hid (looks zs = false) := looks_head (decide_eq_false (by omega))
  go_enter Try.func17, Try.ntmps17
  go_wp2
  go_ret
  exact ⟨by rw [HL.out]; rfl, rfl⟩

set_option maxHeartbeats 1000000 in
theorem lk_long (b off : Nat) (cap : Nat) (zs : List Int) (w : World) (hl : zs.length ≤ 1048583) (hcap : zs.length ≤ cap) (h7 : 7 ≤ zs.length) (hc : ∀ i, i < zs.length → w.cell? ⟨b, off + i, none⟩ = some (.int .u8 (zAt zs i))) (hw : wfL .u8 zs) :
    Calls Try.prog 17 #[.slice (some ⟨b, off, none⟩) zs.length cap] w fun e w' => e = .returned (.bool (looks zs)) ∧ w' = w := by
  have HC : Hid (∀ i, i < zs.length → w.cell? ⟨b, off + i, none⟩ = some (.int .u8 (zAt zs i))) := hc
  have HW : Hid (wfL .u8 zs) := hw
  have g0 := hc 0 (by omega)
  have g1 := hc 1 (by omega)
  have g6 := hc 6 (by omega)
  rw [Nat.add_zero] at g0
  clear hc hw
  by_cases e0 : zAt zs 0 = 95
  · rw [e0] at g0
    by_cases e1 : zAt zs 1 = 120
    · rw [e1] at g1
      by_cases e6 : zAt zs 6 = 95
      · rw [e6] at g6
        have HH : Hid (headB zs = true) := decide_eq_true ⟨h7, e0, e1, e6⟩
        clear e0 e1 e6
        go_enter Try.func17, Try.ntmps17
        go_wp2
        go_loop [3] (fun i => ∃ k : Nat, k ≤ 4 ∧ i = .int .i64 (k + 2) ∧ Hid (allTo zs k = true)) (fun i => 6 - (intOf i).toNat)
        case atStart => exact ⟨0, Nat.zero_le _, rfl, rfl⟩
        case round =>
          obtain ⟨k, hk, rfl, HA⟩ := hrel
          by_cases hlt : k < 4
          · have g := HC.out (k + 2) (by omega)
            obtain ⟨c0, c1⟩ := u8_bd (HW.out _ (getD_mem zs (k + 2) (by omega)))
            have HB : Hid (hb (zAt zs (k + 2)) = false → looks zs = false) := fun h => looks_hex (allTo_bad hlt (by rw [Nat.add_comm]; exact h))
            have HS : Hid (allTo zs (k + 1) = (allTo zs k && hb (zAt zs (k + 2)))) := by unfold Hid; rw [Nat.add_comm k 2]; rfl
            change 0 ≤ zAt zs (k + 2) at c0
            change zAt zs (k + 2) ≤ 255 at c1
            obtain ⟨c, hc⟩ : ∃ c, c = zAt zs (k + 2) := ⟨_, rfl⟩
            rw [← hc] at g c0 c1 HB HS
            clear hc
            go_wp2_with fail
            refine (isHex_any c _ c0 c1).mono ?_
            rintro e w' ⟨rfl, rfl⟩
            cases hq : hb c with
            | false =>
              have HL : Hid (looks zs = false) := HB.out hq
              clear hq
              go_wp2
              go_ret
              exact ⟨by rw [HL.out]; rfl, rfl⟩
            | true =>
              have HT : Hid (hb c = true) := hq
              clear hq
              go_wp2
              go_round
              case rel => exact ⟨k + 1, by omega, by go_num, by unfold Hid; rw [HS.out, HA.out, HT.out]; rfl⟩
              case measure => simp [intOf]; omega
          · obtain rfl : k = 4 := by omega
            have HL : Hid (looks zs = true) := by unfold Hid looks; rw [HH.out, HA.out]; rfl
            go_wp2
            go_ret
            exact ⟨by rw [HL.out]; rfl, rfl⟩
      · have HL : Hid (looks zs = false) := looks_head (decide_eq_false (by omega))
        obtain ⟨z, hz⟩ : ∃ z, z = zAt zs 6 := ⟨_, rfl⟩
        rw [← hz] at g6 e6
        have hn : (z != 95) = true := by rw [bne_iff_ne]; exact e6
        clear hz e0 e1 e6
        go_enter Try.func17, Try.ntmps17
        go_wp2
        go_ret
        exact ⟨by rw [HL.out]; rfl, rfl⟩
    · have HL : Hid (looks zs = false) := looks_head (decide_eq_false (by omega))
      obtain ⟨z, hz⟩ : ∃ z, z = zAt zs 1 := ⟨_, rfl⟩
      rw [← hz] at g1 e1
      have hn : (z != 120) = true := by rw [bne_iff_ne]; exact e1
      clear hz e0 e1 g6
      go_enter Try.func17, Try.ntmps17
      go_wp2
      go_ret
      exact ⟨by rw [HL.out]; rfl, rfl⟩
  · have HL : Hid (looks zs = false) := looks_head (decide_eq_false (by omega))
    obtain ⟨z, hz⟩ : ∃ z, z = zAt zs 0 := ⟨_, rfl⟩
    rw [← hz] at g0 e0
    have hn : (z != 95) = true := by rw [bne_iff_ne]; exact e0
    clear hz e0 g1 g6
    go_enter Try.func17, Try.ntmps17
    go_wp2
    go_ret
    exact ⟨by rw [HL.out]; rfl, rfl⟩

theorem lk_any (ao : Option Addr) (cap : Nat) (zs : List Int) (w : World) (hl : zs.length ≤ 1048583) (hcap : zs.length ≤ cap) (hr : Rd .u8 w ao zs) (hw : wfL .u8 zs) :
    Calls Try.prog 17 #[.slice ao zs.length cap] w fun e w' => e = .returned (.bool (looks zs)) ∧ w' = w := by
  by_cases h7 : zs.length < 7
  · exact lk_short ao cap zs w h7
  · obtain ⟨b, off, rfl, _⟩ := hr 0 (by omega)
    refine lk_long b off cap zs w hl hcap (by omega) (fun i hi => ?_) hw
    obtain ⟨b', off', e, hc⟩ := hr i hi
    simp only [Option.some.injEq, Addr.mk.injEq, and_true] at e
    obtain ⟨rfl, rfl⟩ := e
    exact hc

end Go.Proofs.Qxb6000706a
