import Derived.Test.Qxb6000706aC
set_option linter.unusedVariables false
namespace Go.Proofs.Qxb6000706a
open Go.RowKit

set_option maxHeartbeats 1000000 in
theorem pd_nil (cap : Nat) (w : World) :
    Calls Try.prog 3 #[.slice none 0 cap] w fun e w' => e = .returned (.bool true) ∧ Below w.heap.size w w' := by
  have q22 : ∀ (w : World) (a : Option Addr) (n c n' c' : Nat), (binOp .neq 22 (.slice a n c) (.slice none n' c')).run Try.prog w = .ok (.bool (!a.isNone)) w := fun w a n c n' c' => run_neq_slice_nil_any w _ _ a n c n' c' Try.underlying22
  go_enter Try.func3, Try.ntmps3
  go_wp2_with fail
  refine (zz8_ok _ _ _ _ (by omega)).mono ?_
  rintro e w' ⟨rfl, rfl⟩
  go_wp2_with fail
  refine (zzplain_any none cap [] _ (by simp) (fun i hi => absurd hi (by simp)) (fun n hn => by simp at hn)).mono ?_
  rintro e w3 ⟨v, rfl, rfl, hv0, hv1, hv2⟩
  obtain rfl := hv0 rfl
  have e0 : okDig [] = false := rfl
  rw [e0]
  clear hv0 e0
  go_wp2
  refine wp_loop_rounds 1 ?_; rw [rounds_succ]; go_wp2
  go_ret
  exact ⟨rfl, Below.refl _ _⟩
end Go.Proofs.Qxb6000706a
