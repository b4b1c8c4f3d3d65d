import Derived.Test.Qxb6000706aA
set_option linter.unusedVariables false
namespace Go.Proofs.Qxb6000706a
open Go.RowKit

/-! ### plain -/
def isD (c : Int) : Bool := decide (48 ≤ c) && decide (c ≤ 57)
def lenB (n : Nat) : Bool := decide (1 ≤ n) && decide (n ≤ 18)
def okDig (zs : List Int) : Bool := lenB zs.length && zs.all isD
theorem isD_yes {c : Int} (h1 : 48 ≤ c) (h2 : c ≤ 57) : isD c = true := by simp [isD, h1, h2]
theorem isD_no {c : Int} (h : c < 48 ∨ 57 < c) : isD c = false := by
  unfold isD
  rcases h with h | h
  · simp; omega
  · simp; omega
theorem all_snoc (l : List Int) (k : Nat) (h : k < l.length) : (l.take (k + 1)).all isD = ((l.take k).all isD && isD (l.getD k 0)) := by
  rw [take_snoc l k h]; simp
theorem okDig_bad {zs : List Int} {k : Nat} (h : k < zs.length) (hd : isD (zs.getD k 0) = false) : okDig zs = false := by
  unfold okDig
  have : zs.all isD = false := by
    rw [List.all_eq_false]
    exact ⟨_, getD_mem zs k h, by rw [hd]; simp⟩
  rw [this]; simp
theorem okDig_len {zs : List Int} (h : zs.length = 0 ∨ 18 < zs.length) : okDig zs = false := by
  have : lenB zs.length = false := by
    unfold lenB
    rcases h with h | h
    · simp [h]
    · simp; omega
  unfold okDig
  rw [this]; simp
theorem okDig_yes {zs : List Int} (h1 : 1 ≤ zs.length) (h2 : zs.length ≤ 18) (h : zs.all isD = true) : okDig zs = true := by
  unfold okDig lenB
  simp [h1, h2]
  simpa using h

def p10 : Nat → Int
  | 0 => 1
  | k + 1 => 10 * p10 k
theorem p10_pos : ∀ k, 1 ≤ p10 k
  | 0 => by simp [p10]
  | k + 1 => by have := p10_pos k; unfold p10; omega
theorem p10_mono {k m : Nat} (h : k ≤ m) : p10 k ≤ p10 m := by
  induction m with
  | zero => have : k = 0 := by omega
            subst this; exact Int.le_refl _
  | succ m ih =>
    by_cases e : k = m + 1
    · subst e; exact Int.le_refl _
    · have h1 := ih (by omega)
      have h2 := p10_pos m
      have h3 : p10 (m + 1) = 10 * p10 m := rfl
      omega
theorem p10_17 : p10 17 = 100000000000000000 := by decide
theorem p10_18 : p10 18 = 1000000000000000000 := by decide

/-- what plainDigits leaves (a name, so that the walk does not look inside) -/
def PD (zs : List Int) (w : World) (e : Ending) (w' : World) : Prop :=
  ∃ v, e = .returned (.tuple #[.int .i64 v, .bool (okDig zs)]) ∧ w' = w ∧ (okDig zs = false → v = 0) ∧ 0 ≤ v ∧ v ≤ 999999999999999999

theorem isDigit_any (c : Int) (w : World) : Calls Try.prog 10 #[.int .u8 c] w fun e w' => e = .returned (.bool (isD c)) ∧ w' = w := by
  by_cases h1 : 48 ≤ c
  · by_cases h2 : c ≤ 57
    · go_enter Try.func10, Try.ntmps10
      go_wp2
      go_ret
      exact ⟨by rw [isD_yes h1 h2]; simp, rfl⟩
    · have hd := isD_no (.inr (show 57 < c by omega))
      go_enter Try.func10, Try.ntmps10
      go_wp2
      go_ret
      exact ⟨rfl, rfl⟩
  · have hd := isD_no (.inl (show c < 48 by omega))
    have hf : decide ((48 : Int) ≤ c) = false := by simp; omega
    go_enter Try.func10, Try.ntmps10
    go_wp2
    go_ret
    exact ⟨rfl, rfl⟩

set_option maxHeartbeats 1000000 in
theorem plain_any (ao : Option Addr) (cap : Nat) (zs : List Int) (w : World) (hl : zs.length ≤ 1048576) (hr : Rd .u8 w ao zs) (hw : wfL .u8 zs) :
    Calls Try.prog 20 #[.slice ao zs.length cap] w (PD zs w) := by
  have HR : Hid (Rd .u8 w ao zs) := hr
  have HW : Hid (wfL .u8 zs) := hw
  clear hr hw
  by_cases h0 : zs.length = 0
  · have hb : ((zs.length : Int) == 0) = true := beq_iff_eq.2 (by omega)
    have HO : Hid (okDig zs = false) := okDig_len (.inl h0)
    clear h0
    go_enter Try.func20, Try.ntmps20
    go_wp2
    go_ret2
    exact ⟨0, by rw [HO.out]; rfl, rfl, fun _ => rfl, by omega, by omega⟩
  have hb : ((zs.length : Int) == 0) = false := beq_eq_false_iff_ne.2 (by omega)
  by_cases h18 : 18 < zs.length
  · have HO : Hid (okDig zs = false) := okDig_len (.inr h18)
    go_enter Try.func20, Try.ntmps20
    go_wp2
    go_ret2
    exact ⟨0, by rw [HO.out]; rfl, rfl, fun _ => rfl, by omega, by omega⟩
  go_enter Try.func20, Try.ntmps20
  go_wp2
  go_loop [4, 17] (fun v i => ∃ (k : Nat) (n : Int), k ≤ zs.length ∧ i = .int .i64 k ∧ v = .int .i64 n ∧ 0 ≤ n ∧ Hid (n + 1 ≤ p10 k) ∧ Hid ((zs.take k).all isD = true)) (fun _ i => zs.length - (intOf i).toNat)
  case atStart => exact ⟨0, 0, Nat.zero_le _, rfl, rfl, by omega, by unfold Hid; decide, rfl⟩
  case round =>
    obtain ⟨k, n, hk, rfl, rfl, hn0, HN, HA⟩ := hrel
    by_cases hlt : k < zs.length
    · obtain ⟨b, off, rfl, g⟩ := HR.out k hlt
      obtain ⟨c0, c1⟩ := u8_bd (HW.out _ (getD_mem zs k hlt))
      have HS : Hid ((zs.take (k + 1)).all isD = ((zs.take k).all isD && isD (zs.getD k 0))) := all_snoc zs k hlt
      have HB : Hid (isD (zs.getD k 0) = false → okDig zs = false) := okDig_bad hlt
      obtain ⟨c, hc⟩ : ∃ c, c = zs.getD k 0 := ⟨_, rfl⟩
      rw [← hc] at g c0 c1 HS HB
      clear hc
      have hn1 : n ≤ 99999999999999999 := by
        have h1 := HN.out
        have h2 : p10 k ≤ p10 17 := p10_mono (by omega)
        rw [p10_17] at h2
        omega
      by_cases d1 : c < 48
      · have HO : Hid (okDig zs = false) := HB.out (isD_no (.inl d1))
        go_wp2
        go_ret2
        exact ⟨0, by rw [HO.out]; rfl, rfl, fun _ => rfl, by omega, by omega⟩
      by_cases d2 : 57 < c
      · have HO : Hid (okDig zs = false) := HB.out (isD_no (.inr d2))
        have d1' : decide (c < 48) = false := by simp; omega
        go_wp2
        go_ret2
        exact ⟨0, by rw [HO.out]; rfl, rfl, fun _ => rfl, by omega, by omega⟩
      go_wp2
      go_round
      case rel =>
        refine ⟨k + 1, _, by omega, by go_num, rfl, by omega, ?_, ?_⟩
        · have h1 := HN.out
          show _ ≤ 10 * p10 k
          omega
        · unfold Hid
          rw [HS.out, HA.out, isD_yes (by omega) (by omega)]
          rfl
      case measure => simp [intOf]; omega
    · obtain rfl : k = zs.length := by omega
      have hn1 : n ≤ 999999999999999999 := by
        have h1 := HN.out
        have h2 : p10 zs.length ≤ p10 18 := p10_mono (by omega)
        rw [p10_18] at h2
        omega
      have HO : Hid (okDig zs = true) := okDig_yes (by omega) (by omega) (by have := HA.out; rwa [List.take_length] at this)
      go_wp2
      go_ret2
      exact ⟨n, by rw [HO.out]; rfl, rfl, (fun h => by rw [HO.out] at h; cases h), hn0, hn1⟩

theorem zzplain_any (ao : Option Addr) (cap : Nat) (zs : List Int) (w : World) (hl : zs.length ≤ 1048576) (hr : Rd .u8 w ao zs) (hw : wfL .u8 zs) :
    Calls Try.prog 9 #[.slice ao zs.length cap] w (PD zs w) := by
  have HR : Hid (Rd .u8 w ao zs) := hr
  have HW : Hid (wfL .u8 zs) := hw
  clear hr hw
  go_enter Try.func9, Try.ntmps9
  go_wp2_with fail
  refine (plain_any ao cap zs _ hl HR.out HW.out).mono ?_
  rintro e w' ⟨v, rfl, rfl, h1, h2, h3⟩
  have H1 : Hid (okDig zs = false → v = 0) := h1
  clear h1
  go_wp2
  go_ret2
  exact ⟨v, rfl, rfl, H1.out, h2, h3⟩

end Go.Proofs.Qxb6000706a
