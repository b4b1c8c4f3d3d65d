import Derived.Test.Qxb6000706aA
import Derived.Laws.BitsAllLaws
set_option linter.unusedVariables false
namespace Go.Proofs.Qxb6000706a
open Go.RowKit

def hv (c : Int) : Int := if 48 ≤ c ∧ c ≤ 57 then c - 48 else if 97 ≤ c ∧ c ≤ 102 then c - 87 else if 65 ≤ c ∧ c ≤ 70 then c - 55 else 0
def hb (c : Int) : Bool := decide ((48 ≤ c ∧ c ≤ 57) ∨ (97 ≤ c ∧ c ≤ 102) ∨ (65 ≤ c ∧ c ≤ 70))
def foldC (c : Int) : Int := if 65 ≤ c ∧ c ≤ 70 then c + 32 else c

theorem hex_cases (c : Int) : (c < 48) ∨ (48 ≤ c ∧ c ≤ 57) ∨ (57 < c ∧ c < 65) ∨ (65 ≤ c ∧ c ≤ 70) ∨ (70 < c ∧ c < 97) ∨ (97 ≤ c ∧ c ≤ 102) ∨ (102 < c) := by omega

theorem hv_dig {c : Int} (h : 48 ≤ c) (h' : c ≤ 57) : hv c = c - 48 := by unfold hv; rw [if_pos ⟨h, h'⟩]
theorem hv_low {c : Int} (h : 97 ≤ c) (h' : c ≤ 102) : hv c = c - 87 := by unfold hv; rw [if_neg (by omega), if_pos ⟨h, h'⟩]
theorem hv_up {c : Int} (h : 65 ≤ c) (h' : c ≤ 70) : hv c = c - 55 := by unfold hv; rw [if_neg (by omega), if_neg (by omega), if_pos ⟨h, h'⟩]
theorem hv_no {c : Int} (h : ¬ ((48 ≤ c ∧ c ≤ 57) ∨ (97 ≤ c ∧ c ≤ 102) ∨ (65 ≤ c ∧ c ≤ 70))) : hv c = 0 := by unfold hv; rw [if_neg (by omega), if_neg (by omega), if_neg (by omega)]
theorem hb_yes {c : Int} (h : (48 ≤ c ∧ c ≤ 57) ∨ (97 ≤ c ∧ c ≤ 102) ∨ (65 ≤ c ∧ c ≤ 70)) : hb c = true := decide_eq_true h
theorem hb_no {c : Int} (h : ¬ ((48 ≤ c ∧ c ≤ 57) ∨ (97 ≤ c ∧ c ≤ 102) ∨ (65 ≤ c ∧ c ≤ 70))) : hb c = false := decide_eq_false h
theorem hv_bd (c : Int) : 0 ≤ hv c ∧ hv c ≤ 15 := by unfold hv; split <;> (try split) <;> (try split) <;> omega
theorem hb_iff {c : Int} : hb c = true ↔ (48 ≤ c ∧ c ≤ 57) ∨ (97 ≤ c ∧ c ≤ 102) ∨ (65 ≤ c ∧ c ≤ 70) := decide_eq_true_iff

theorem ret_two {a b : Int} {x y : Bool} (h : a = b) (h' : x = y) : Ending.returned (.tuple #[.int .i32 a, .bool x]) = .returned (.tuple #[.int .i32 b, .bool y]) := by rw [h, h']

set_option maxHeartbeats 1000000 in
theorem hexDigit_any (c : Int) (w : World) (h0 : 0 ≤ c) (h1 : c ≤ 255) : Calls Try.prog 23 #[.int .u8 c] w fun e w' => e = .returned (.tuple #[.int .i32 (hv c), .bool (hb c)]) ∧ w' = w := by
  obtain ⟨x, hx⟩ : ∃ x, x = hv c := ⟨_, rfl⟩
  obtain ⟨y, hy⟩ : ∃ y, y = hb c := ⟨_, rfl⟩
  rw [← hx, ← hy]
  rcases hex_cases c with h | ⟨h, h'⟩ | ⟨h, h'⟩ | ⟨h, h'⟩ | ⟨h, h'⟩ | ⟨h, h'⟩ | h
  · rw [hv_no (by omega)] at hx
    rw [hb_no (by omega)] at hy
    subst hx hy
    go_enter Try.func23, Try.ntmps23
    go_wp2
    go_ret2
    exact ⟨rfl, rfl⟩
  · rw [hv_dig h h'] at hx
    rw [hb_yes (by omega)] at hy
    have HX : Hid (x = c - 48) := hx
    subst hy
    clear hx
    go_enter Try.func23, Try.ntmps23
    go_wp2
    go_ret2
    exact ⟨ret_two (by rw [HX.out]) rfl, rfl⟩
  · rw [hv_no (by omega)] at hx
    rw [hb_no (by omega)] at hy
    subst hx hy
    go_enter Try.func23, Try.ntmps23
    go_wp2
    go_ret2
    exact ⟨rfl, rfl⟩
  · rw [hv_up h h'] at hx
    rw [hb_yes (by omega)] at hy
    have HX : Hid (x = c - 55) := hx
    subst hy
    clear hx
    go_enter Try.func23, Try.ntmps23
    go_wp2
    go_ret2
    exact ⟨ret_two (by rw [HX.out]; omega) rfl, rfl⟩
  · rw [hv_no (by omega)] at hx
    rw [hb_no (by omega)] at hy
    subst hx hy
    go_enter Try.func23, Try.ntmps23
    go_wp2
    go_ret2
    exact ⟨rfl, rfl⟩
  · rw [hv_low h h'] at hx
    rw [hb_yes (by omega)] at hy
    have HX : Hid (x = c - 87) := hx
    subst hy
    clear hx
    go_enter Try.func23, Try.ntmps23
    go_wp2
    go_ret2
    exact ⟨ret_two (by rw [HX.out]; omega) rfl, rfl⟩
  · rw [hv_no (by omega)] at hx
    rw [hb_no (by omega)] at hy
    subst hx hy
    go_enter Try.func23, Try.ntmps23
    go_wp2
    go_ret2
    exact ⟨rfl, rfl⟩

set_option maxHeartbeats 1000000 in
theorem isHex_any (c : Int) (w : World) (h0 : 0 ≤ c) (h1 : c ≤ 255) : Calls Try.prog 22 #[.int .u8 c] w fun e w' => e = .returned (.bool (hb c)) ∧ w' = w := by
  obtain ⟨y, hy⟩ : ∃ y, y = hb c := ⟨_, rfl⟩
  rw [← hy]
  rcases hex_cases c with h | ⟨h, h'⟩ | ⟨h, h'⟩ | ⟨h, h'⟩ | ⟨h, h'⟩ | ⟨h, h'⟩ | h
  all_goals
    first | rw [hb_no (by omega)] at hy | rw [hb_yes (by omega)] at hy
    subst hy
    go_enter Try.func22, Try.ntmps22
    go_wp2
    go_ret
    exact ⟨by first | rfl | (simp; done) | (simp; omega), rfl⟩

theorem ret_u8 {a b : Int} (h : a = b) : Ending.returned (.int .u8 a) = .returned (.int .u8 b) := by rw [h]

set_option maxHeartbeats 1000000 in
theorem fold_any (c : Int) (w : World) (h0 : 0 ≤ c) (h1 : c ≤ 255) : Calls Try.prog 18 #[.int .u8 c] w fun e w' => e = .returned (.int .u8 (foldC c)) ∧ w' = w := by
  obtain ⟨y, hy⟩ : ∃ y, y = foldC c := ⟨_, rfl⟩
  rw [← hy]
  unfold foldC at hy
  have cs : c < 65 ∨ (65 ≤ c ∧ c ≤ 70) ∨ 70 < c := by omega
  rcases cs with h | ⟨h, h'⟩ | h
  · rw [if_neg (by omega)] at hy
    subst hy
    go_enter Try.func18, Try.ntmps18
    go_wp2
    go_ret
    exact ⟨rfl, rfl⟩
  · rw [if_pos ⟨h, h'⟩] at hy
    have HX : Hid (y = c + 32) := hy
    clear hy
    go_enter Try.func18, Try.ntmps18
    go_wp2
    go_ret
    exact ⟨ret_u8 (by rw [HX.out]; omega), rfl⟩
  · rw [if_neg (by omega)] at hy
    subst hy
    go_enter Try.func18, Try.ntmps18
    go_wp2
    go_ret
    exact ⟨rfl, rfl⟩

theorem and15 (x : Int) (h0 : 0 ≤ x) (h1 : x ≤ 65535) : bits .and .u16 x 15 = x % 16 := by
  rw [u16_and x 15 h0 (by omega) (by omega) (by omega)]
  have : (15 : Int).toNat = 2 ^ 4 - 1 := rfl
  rw [this, Nat.and_two_pow_sub_one_eq_mod]
  omega

/-- the k-th hex digit of v, from the top -/
def digK (v : Int) (k : Nat) : Int := v / (16 ^ (3 - k) : Nat) % 16
def lowC (d : Int) : Int := if d < 10 then 48 + d else 87 + d

set_option maxHeartbeats 1000000 in
theorem hexLower_0 (v : Int) (w : World) (h0 : 0 ≤ v) (h1 : v ≤ 65535) : Calls Try.prog 14 #[.int .u16 v, .int .i64 0] w fun e w' => e = .returned (.int .u8 (lowC (digK v 0))) ∧ w' = w := by
  have hm := and15 (v / 4096) (by omega) (by omega)
  obtain ⟨d, hd⟩ : ∃ d, d = digK v 0 := ⟨_, rfl⟩
  have hd' : (v / 4096) % 16 = d := by rw [hd]; unfold digK; rfl
  have b0 : 0 ≤ d ∧ d ≤ 15 := by omega
  rw [hd'] at hm
  rw [← hd]
  clear hd hd'
  obtain ⟨b0, b1⟩ := b0
  by_cases hlt : d < 10
  · have HX : Hid (lowC d = 48 + d) := if_pos hlt
    go_enter Try.func14, Try.ntmps14
    go_wp2
    go_ret
    exact ⟨ret_u8 (by rw [HX.out]), rfl⟩
  · have HX : Hid (lowC d = 87 + d) := if_neg hlt
    go_enter Try.func14, Try.ntmps14
    go_wp2
    go_ret
    exact ⟨ret_u8 (by rw [HX.out]; omega), rfl⟩

set_option maxHeartbeats 1000000 in
theorem hexLower_1 (v : Int) (w : World) (h0 : 0 ≤ v) (h1 : v ≤ 65535) : Calls Try.prog 14 #[.int .u16 v, .int .i64 1] w fun e w' => e = .returned (.int .u8 (lowC (digK v 1))) ∧ w' = w := by
  have hm := and15 (v / 256) (by omega) (by omega)
  obtain ⟨d, hd⟩ : ∃ d, d = digK v 1 := ⟨_, rfl⟩
  have hd' : (v / 256) % 16 = d := by rw [hd]; unfold digK; rfl
  have b0 : 0 ≤ d ∧ d ≤ 15 := by omega
  rw [hd'] at hm
  rw [← hd]
  clear hd hd'
  obtain ⟨b0, b1⟩ := b0
  by_cases hlt : d < 10
  · have HX : Hid (lowC d = 48 + d) := if_pos hlt
    go_enter Try.func14, Try.ntmps14
    go_wp2
    go_ret
    exact ⟨ret_u8 (by rw [HX.out]), rfl⟩
  · have HX : Hid (lowC d = 87 + d) := if_neg hlt
    go_enter Try.func14, Try.ntmps14
    go_wp2
    go_ret
    exact ⟨ret_u8 (by rw [HX.out]; omega), rfl⟩

set_option maxHeartbeats 1000000 in
theorem hexLower_2 (v : Int) (w : World) (h0 : 0 ≤ v) (h1 : v ≤ 65535) : Calls Try.prog 14 #[.int .u16 v, .int .i64 2] w fun e w' => e = .returned (.int .u8 (lowC (digK v 2))) ∧ w' = w := by
  have hm := and15 (v / 16) (by omega) (by omega)
  obtain ⟨d, hd⟩ : ∃ d, d = digK v 2 := ⟨_, rfl⟩
  have hd' : (v / 16) % 16 = d := by rw [hd]; unfold digK; rfl
  have b0 : 0 ≤ d ∧ d ≤ 15 := by omega
  rw [hd'] at hm
  rw [← hd]
  clear hd hd'
  obtain ⟨b0, b1⟩ := b0
  by_cases hlt : d < 10
  · have HX : Hid (lowC d = 48 + d) := if_pos hlt
    go_enter Try.func14, Try.ntmps14
    go_wp2
    go_ret
    exact ⟨ret_u8 (by rw [HX.out]), rfl⟩
  · have HX : Hid (lowC d = 87 + d) := if_neg hlt
    go_enter Try.func14, Try.ntmps14
    go_wp2
    go_ret
    exact ⟨ret_u8 (by rw [HX.out]; omega), rfl⟩

set_option maxHeartbeats 1000000 in
theorem hexLower_3 (v : Int) (w : World) (h0 : 0 ≤ v) (h1 : v ≤ 65535) : Calls Try.prog 14 #[.int .u16 v, .int .i64 3] w fun e w' => e = .returned (.int .u8 (lowC (digK v 3))) ∧ w' = w := by
  have hm := and15 (v) (by omega) (by omega)
  obtain ⟨d, hd⟩ : ∃ d, d = digK v 3 := ⟨_, rfl⟩
  have hd' : (v) % 16 = d := by rw [hd]; unfold digK; simp
  have b0 : 0 ≤ d ∧ d ≤ 15 := by omega
  rw [hd'] at hm
  rw [← hd]
  clear hd hd'
  obtain ⟨b0, b1⟩ := b0
  by_cases hlt : d < 10
  · have HX : Hid (lowC d = 48 + d) := if_pos hlt
    go_enter Try.func14, Try.ntmps14
    go_wp2
    go_ret
    exact ⟨ret_u8 (by rw [HX.out]), rfl⟩
  · have HX : Hid (lowC d = 87 + d) := if_neg hlt
    go_enter Try.func14, Try.ntmps14
    go_wp2
    go_ret
    exact ⟨ret_u8 (by rw [HX.out]; omega), rfl⟩

theorem hexLower_any (v : Int) (k : Nat) (hk : k < 4) (w : World) (h0 : 0 ≤ v) (h1 : v ≤ 65535) : Calls Try.prog 14 #[.int .u16 v, .int .i64 k] w fun e w' => e = .returned (.int .u8 (lowC (digK v k))) ∧ w' = w := by
  have : k = 0 ∨ k = 1 ∨ k = 2 ∨ k = 3 := by omega
  rcases this with rfl | rfl | rfl | rfl
  · exact hexLower_0 v w h0 h1
  · exact hexLower_1 v w h0 h1
  · exact hexLower_2 v w h0 h1
  · exact hexLower_3 v w h0 h1

end Go.Proofs.Qxb6000706a
