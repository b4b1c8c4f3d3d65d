import Derived.Test.Qxb6000494aE
namespace Go.Proofs.Qxb6000494a
open Go.RowKit

theorem clone0 (a : Option Addr) (cap : Nat) (w : World) (h : a = none → cap = 0) :
    Calls Try.prog 9 #[.slice a 0 cap] w fun e w' => ∃ a', e = .returned (.slice a' 0 0) ∧ Below w.heap.size w w' := by
  cases a with
  | none =>
    obtain rfl := h rfl
    refine (clone_nil w).mono ?_
    rintro e w' ⟨rfl, rfl⟩
    exact ⟨none, rfl, Below.refl _ _⟩
  | some x =>
    refine (clone_empty x cap w).mono ?_
    rintro e w' ⟨rfl, hb⟩
    exact ⟨_, rfl, hb⟩

set_option maxHeartbeats 1000000 in
theorem walk_empty (a : Option Addr) (cap : Nat) (w : World) (h : a = none → cap = 0) :
    Calls Try.prog 5 #[.slice a 0 cap] w fun e w' => e = .returned (.bool true) ∧ Below w.heap.size w w' := by
  have HH : Hid (a = none → cap = 0) := h
  clear h
  go_enter Try.func5, Try.ntmps5
  go_wp2_with fail
  refine (zzB_ok _ _ _ _ (by omega)).mono ?_
  rintro e w' ⟨rfl, rfl⟩
  go_wp2_with fail
  refine (clone0 a cap _ HH.out).mono ?_
  rintro e w1 ⟨a', rfl, hb1⟩
  go_wp2_with fail
  refine (mk_empty a' 0 _).mono ?_
  rintro e w2 ⟨rfl, hr2, hb2⟩
  go_wp2_with fail
  refine (zzbanks_row _ [] _ (by simp) hr2.lt hr2).mono ?_
  rintro e w3 ⟨v, rfl, ho3, hb3⟩
  obtain ⟨ao, c, hv, _⟩ := own_shape ho3
  have HB : Below w'.heap.size w' w3 := hb1.trans ((hb2.trans (hb3.mono hb2.size)).mono hb1.size)
  have e0 : (banksL []).length = 0 := rfl
  rw [hv, e0]
  clear hv ho3 hb1 hb2 hb3 hr2 e0
  go_wp2
  refine wp_loop_rounds 1 ?_; rw [rounds_succ]; go_wp2
  refine wp_loop_rounds 1 ?_; rw [rounds_succ]; go_wp2
  refine wp_loop_rounds 1 ?_; rw [rounds_succ]; go_wp2
  go_ret
  exact ⟨rfl, HB⟩

set_option maxHeartbeats 400000 in
theorem walk_mid (a : Option Addr) (len cap : Nat) (w : World) (h1 : 4096 < len) (h2 : len ≤ 1048576) :
    Calls Try.prog 5 #[.slice a len cap] w fun e w' => e = .returned (.bool true) ∧ Below w.heap.size w w' := by
  go_enter Try.func5, Try.ntmps5
  go_wp2_with fail
  refine (zzB_ok _ _ _ _ (by omega)).mono ?_
  rintro e w' ⟨rfl, rfl⟩
  go_wp2
  go_ret
  exact ⟨rfl, Below.refl _ _⟩

set_option maxHeartbeats 400000 in
theorem walk_big (a : Option Addr) (len cap : Nat) (w : World) (h1 : 1048576 < len) (h2 : len ≤ maxLen) :
    Calls Try.prog 5 #[.slice a len cap] w fun e w' => e = .returned (.bool true) ∧ Below w.heap.size w w' := by
  go_enter Try.func5, Try.ntmps5
  go_wp2_with fail
  refine (zzB_big _ _ _ _ h1 h2).mono ?_
  rintro e w' ⟨rfl, rfl⟩
  go_wp2
  go_ret
  exact ⟨rfl, Below.refl _ _⟩
end Go.Proofs.Qxb6000494a
