import Derived.Test.Qxb6000706aE
import Derived.Laws.BitsLemmas
set_option linter.unusedVariables false
namespace Go.Proofs.Qxb6000706a
open Go.RowKit

def zAt (zs : List Int) (i : Nat) : Int := zs.getD i 0
def headB (zs : List Int) : Bool := decide (7 ≤ zs.length ∧ zAt zs 0 = 95 ∧ zAt zs 1 = 120 ∧ zAt zs 6 = 95)
def hexTo (zs : List Int) : Nat → Int
  | 0 => 0
  | k + 1 => hexTo zs k * 16 + hv (zAt zs (2 + k))
def allTo (zs : List Int) : Nat → Bool
  | 0 => true
  | k + 1 => allTo zs k && hb (zAt zs (2 + k))
def looks (zs : List Int) : Bool := headB zs && allTo zs 4

def p16 : Nat → Int
  | 0 => 1
  | k + 1 => 16 * p16 k
theorem hexTo_bd (zs : List Int) : ∀ k, 0 ≤ hexTo zs k ∧ hexTo zs k + 1 ≤ p16 k
  | 0 => by simp [hexTo, p16]
  | k + 1 => by
    have h1 := hexTo_bd zs k
    have h2 := hv_bd (zAt zs (2 + k))
    unfold hexTo p16
    omega
theorem hexTo_lo (zs : List Int) (k : Nat) (hk : k < 4) : 0 ≤ hexTo zs k ∧ hexTo zs k ≤ 4095 := by
  have h := hexTo_bd zs k
  have : p16 k ≤ 4096 := by
    have : k = 0 ∨ k = 1 ∨ k = 2 ∨ k = 3 := by omega
    rcases this with rfl | rfl | rfl | rfl <;> decide
  omega
theorem hexTo_hi (zs : List Int) : 0 ≤ hexTo zs 4 ∧ hexTo zs 4 ≤ 65535 := by
  have h := hexTo_bd zs 4
  have : p16 4 = 65536 := by decide
  omega
theorem allTo_bad {zs : List Int} {k : Nat} (hk : k < 4) (h : hb (zAt zs (2 + k)) = false) : allTo zs 4 = false := by
  have : k = 0 ∨ k = 1 ∨ k = 2 ∨ k = 3 := by omega
  rcases this with rfl | rfl | rfl | rfl <;> simp [allTo, h]
theorem looks_head {zs : List Int} (h : headB zs = false) : looks zs = false := by simp [looks, h]
theorem looks_hex {zs : List Int} (h : allTo zs 4 = false) : looks zs = false := by simp [looks, h]

/-- what xEscape leaves -/
def XE (zs : List Int) (w : World) (e : Ending) (w' : World) : Prop :=
  (looks zs = true ∧ e = .returned (.tuple #[.int .i32 (hexTo zs 4), .int .i64 7]) ∧ w' = w) ∨ (looks zs = false ∧ e = .returned (.tuple #[.int .i32 (-1), .int .i64 0]) ∧ w' = w)

theorem or16 (r d : Int) (h0 : 0 ≤ r) (h1 : r ≤ 4095) (h2 : 0 ≤ d) (h3 : d ≤ 15) : bits .or .i32 (r * 16) d = r * 16 + d :=
  bits_join .i32 31 (by decide) wraps_i32 4 (r * 16) d (by omega) (by omega) (by omega) h2 (by omega) (by omega)

set_option maxHeartbeats 1000000 in
theorem xe_short (ao : Option Addr) (cap : Nat) (zs : List Int) (w : World) (h7 : zs.length < 7) :
    Calls Try.prog 21 #[.slice ao zs.length cap] w (XE zs w) := by
  have HL : Hid (looks zs = false) := looks_head (decide_eq_false (by omega))
  go_enter Try.func21, Try.ntmps21
  go_wp2
  go_ret2
  exact .inr ⟨HL.out, rfl, rfl⟩

set_option maxHeartbeats 1000000 in
theorem xe_long (b off : Nat) (cap : Nat) (zs : List Int) (w : World) (hl : zs.length ≤ 1048583) (hcap : zs.length ≤ cap) (h7 : 7 ≤ zs.length) (hc : ∀ i, i < zs.length → w.cell? ⟨b, off + i, none⟩ = some (.int .u8 (zAt zs i))) (hw : wfL .u8 zs) :
    Calls Try.prog 21 #[.slice (some ⟨b, off, none⟩) zs.length cap] w (XE zs w) := by
  have HC : Hid (∀ i, i < zs.length → w.cell? ⟨b, off + i, none⟩ = some (.int .u8 (zAt zs i))) := hc
  have HW : Hid (wfL .u8 zs) := hw
  have g0 := hc 0 (by omega)
  have g1 := hc 1 (by omega)
  have g6 := hc 6 (by omega)
  rw [Nat.add_zero] at g0
  clear hc hw
  by_cases e0 : zAt zs 0 = 95
  · rw [e0] at g0
    by_cases e1 : zAt zs 1 = 120
    · rw [e1] at g1
      by_cases e6 : zAt zs 6 = 95
      · rw [e6] at g6
        have HH : Hid (headB zs = true) := decide_eq_true ⟨h7, e0, e1, e6⟩
        clear e0 e1 e6
        go_enter Try.func21, Try.ntmps21
        go_wp2
        go_loop [4, 33] (fun r i => ∃ k : Nat, k ≤ 4 ∧ i = .int .i64 k ∧ r = .int .i32 (hexTo zs k) ∧ Hid (allTo zs k = true)) (fun _ i => 4 - (intOf i).toNat)
        case atStart => exact ⟨0, Nat.zero_le _, rfl, rfl, rfl⟩
        case round =>
          obtain ⟨k, hk, rfl, rfl, HA⟩ := hrel
          by_cases hlt : k < 4
          · have g := HC.out (2 + k) (by omega)
            rw [← Nat.add_assoc] at g
            obtain ⟨c0, c1⟩ := u8_bd (HW.out _ (getD_mem zs (2 + k) (by omega)))
            have HB : Hid (hb (zAt zs (2 + k)) = false → looks zs = false) := fun h => looks_hex (allTo_bad hlt h)
            have HR : Hid (hexTo zs (k + 1) = hexTo zs k * 16 + hv (zAt zs (2 + k))) := rfl
            have HS : Hid (allTo zs (k + 1) = (allTo zs k && hb (zAt zs (2 + k)))) := rfl
            change 0 ≤ zAt zs (2 + k) at c0
            change zAt zs (2 + k) ≤ 255 at c1
            obtain ⟨r0, r1⟩ := hexTo_lo zs k hlt
            obtain ⟨c, hc⟩ : ∃ c, c = zAt zs (2 + k) := ⟨_, rfl⟩
            rw [← hc] at g c0 c1 HB HR HS
            clear hc
            obtain ⟨r, hr⟩ : ∃ r, r = hexTo zs k := ⟨_, rfl⟩
            rw [← hr] at r0 r1 HR ⊢
            clear hr
            go_wp2_with fail
            refine (hexDigit_any c _ c0 c1).mono ?_
            rintro e w' ⟨rfl, rfl⟩
            obtain ⟨d0, d1⟩ := hv_bd c
            obtain ⟨d, hd⟩ : ∃ d, d = hv c := ⟨_, rfl⟩
            rw [← hd] at d0 d1 HR ⊢
            clear hd
            have hor := or16 r d r0 r1 d0 d1
            cases hq : hb c with
            | false =>
              have HL : Hid (looks zs = false) := HB.out hq
              clear hq
              go_wp2
              go_ret2
              exact .inr ⟨HL.out, rfl, rfl⟩
            | true =>
              have HT : Hid (hb c = true) := hq
              clear hq
              go_wp2
              go_round
              case rel => exact ⟨k + 1, by omega, by go_num, by rw [HR.out], by unfold Hid; rw [HS.out, HA.out, HT.out]; rfl⟩
              case measure => simp [intOf]; omega
          · obtain rfl : k = 4 := by omega
            have HL : Hid (looks zs = true) := by unfold Hid looks; rw [HH.out, HA.out]; rfl
            go_wp2
            go_ret2
            exact .inl ⟨HL.out, rfl, rfl⟩
      · have HL : Hid (looks zs = false) := looks_head (decide_eq_false (by omega))
        obtain ⟨z, hz⟩ : ∃ z, z = zAt zs 6 := ⟨_, rfl⟩
        rw [← hz] at g6 e6
        have hn : (z != 95) = true := by rw [bne_iff_ne]; exact e6
        clear hz e0 e1 e6
        go_enter Try.func21, Try.ntmps21
        go_wp2
        go_ret2
        exact .inr ⟨HL.out, rfl, rfl⟩
    · have HL : Hid (looks zs = false) := looks_head (decide_eq_false (by omega))
      obtain ⟨z, hz⟩ : ∃ z, z = zAt zs 1 := ⟨_, rfl⟩
      rw [← hz] at g1 e1
      have hn : (z != 120) = true := by rw [bne_iff_ne]; exact e1
      clear hz e0 e1 g6
      go_enter Try.func21, Try.ntmps21
      go_wp2
      go_ret2
      exact .inr ⟨HL.out, rfl, rfl⟩
  · have HL : Hid (looks zs = false) := looks_head (decide_eq_false (by omega))
    obtain ⟨z, hz⟩ : ∃ z, z = zAt zs 0 := ⟨_, rfl⟩
    rw [← hz] at g0 e0
    have hn : (z != 95) = true := by rw [bne_iff_ne]; exact e0
    clear hz e0 g1 g6
    go_enter Try.func21, Try.ntmps21
    go_wp2
    go_ret2
    exact .inr ⟨HL.out, rfl, rfl⟩

theorem xe_any (ao : Option Addr) (cap : Nat) (zs : List Int) (w : World) (hl : zs.length ≤ 1048583) (hcap : zs.length ≤ cap) (hr : Rd .u8 w ao zs) (hw : wfL .u8 zs) :
    Calls Try.prog 21 #[.slice ao zs.length cap] w (XE zs w) := by
  by_cases h7 : zs.length < 7
  · exact xe_short ao cap zs w h7
  · obtain ⟨b, off, rfl, _⟩ := hr 0 (by omega)
    refine xe_long b off cap zs w hl hcap (by omega) (fun i hi => ?_) hw
    obtain ⟨b', off', e, hc⟩ := hr i hi
    simp only [Option.some.injEq, Addr.mk.injEq, and_true] at e
    obtain ⟨rfl, rfl⟩ := e
    exact hc

theorem zzxe_any (ao : Option Addr) (cap : Nat) (zs : List Int) (w : World) (hl : zs.length ≤ 1048583) (hcap : zs.length ≤ cap) (hr : Rd .u8 w ao zs) (hw : wfL .u8 zs) :
    Calls Try.prog 15 #[.slice ao zs.length cap] w (XE zs w) := by
  have HR : Hid (Rd .u8 w ao zs) := hr
  have HW : Hid (wfL .u8 zs) := hw
  clear hr hw
  go_enter Try.func15, Try.ntmps15
  go_wp2_with fail
  refine (xe_any ao cap zs _ hl hcap HR.out HW.out).mono ?_
  rintro e w' (⟨h, rfl, rfl⟩ | ⟨h, rfl, rfl⟩)
  · have HL : Hid (looks zs = true) := h
    clear h
    go_wp2
    go_ret2
    exact .inl ⟨HL.out, rfl, rfl⟩
  · have HL : Hid (looks zs = false) := h
    clear h
    go_wp2
    go_ret2
    exact .inr ⟨HL.out, rfl, rfl⟩
end Go.Proofs.Qxb6000706a
