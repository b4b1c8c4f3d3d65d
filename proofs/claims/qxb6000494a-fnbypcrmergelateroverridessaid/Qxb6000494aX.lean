import Derived.Test.Qxb6000494aV
set_option linter.unusedVariables false
namespace Go.Proofs.Qxb6000494a
open Go.RowKit Go.Maps

theorem bt {a b c : World} (h : Below a.heap.size a b) (k : Below b.heap.size b c) : Below a.heap.size a c := h.trans (k.mono h.size)

set_option maxHeartbeats 1000000 in
set_option maxRecDepth 100000 in
theorem mo_big (a0 a1 a2 a3 a4 a5 : Option Addr) (l0 l1 l3 l4 c0 c1 c2 c3 c4 c5 : Nat) (va vb : List Value) (w : World) (m0 : l0 ≤ maxLen) (m1 : l1 ≤ maxLen) (m2 : va.length ≤ maxLen)
    (m3 : l3 ≤ maxLen) (m4 : l4 ≤ maxLen) (m5 : vb.length ≤ maxLen) (hv : InV w a2 va) (hv' : InV w a5 vb) (hb : 4096 < l0 ∨ 4096 < l1 ∨ 4096 < va.length ∨ 4096 < l3 ∨ 4096 < l4 ∨ 4096 < vb.length) :
    Calls Try.prog 4 #[.slice a0 l0 c0, .slice a1 l1 c1, .slice a2 va.length c2, .slice a3 l3 c3, .slice a4 l4 c4, .slice a5 vb.length c5] w fun e w' => e = .returned (.bool true) ∧ Below w.heap.size w w' := by
  have HV : Hid (InV w a2 va) := hv
  have HV' : Hid (InV w a5 vb) := hv'
  clear hv hv'
  have HM : Hid (l0 ≤ maxLen ∧ l1 ≤ maxLen ∧ va.length ≤ maxLen ∧ l3 ≤ maxLen ∧ l4 ≤ maxLen ∧ vb.length ≤ maxLen) := ⟨m0, m1, m2, m3, m4, m5⟩
  unfold maxLen at m0 m1 m2 m3 m4 m5
  have cs : 4096 < l0 ∨ (l0 ≤ 4096 ∧ 4096 < l1) ∨ (l0 ≤ 4096 ∧ l1 ≤ 4096 ∧ 4096 < va.length) ∨ (l0 ≤ 4096 ∧ l1 ≤ 4096 ∧ va.length ≤ 4096 ∧ 4096 < l3) ∨
     (l0 ≤ 4096 ∧ l1 ≤ 4096 ∧ va.length ≤ 4096 ∧ l3 ≤ 4096 ∧ 4096 < l4) ∨ (l0 ≤ 4096 ∧ l1 ≤ 4096 ∧ va.length ≤ 4096 ∧ l3 ≤ 4096 ∧ l4 ≤ 4096 ∧ 4096 < vb.length) := by omega
  rcases cs with h | ⟨h, h'⟩ | ⟨h, h', h''⟩ | ⟨h, h', h'', h3⟩ | ⟨h, h', h'', h3, h4⟩ | ⟨h, h', h'', h3, h4, h5⟩
  all_goals
    clear hb
    go_enter Try.func4, Try.ntmps4
    go_wp2_with fail
    refine (zz17_any _ _ _ _ _ _ _ _ _ _ _ _ _ _ _ _ va vb _ HM.out.1 HM.out.2.1 HM.out.2.2.1 HM.out.2.2.2.1 HM.out.2.2.2.2.1 HM.out.2.2.2.2.2 HV.out HV'.out).mono ?_
    rintro e w' ⟨r, rfl, rfl, _⟩
    cases r
    · go_wp2
      go_ret
      exact ⟨rfl, Below.refl _ _⟩
    · go_wp2
      go_ret
      exact ⟨rfl, Below.refl _ _⟩
end Go.Proofs.Qxb6000494a
