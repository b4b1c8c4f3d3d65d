import Derived.Test.Qxb6000494aQ
set_option linter.unusedVariables false
namespace Go.Proofs.Qxb6000494a
open Go.RowKit Go.Maps

/-- what is known of a [][]byte that came in -/
def InV (w : World) (ao : Option Addr) (vs : List Value) : Prop :=
  VRd w ao vs ∧ ∀ v ∈ vs, ∃ a n c, v = .slice a n c ∧ n ≤ maxLen ∧ ∀ i, i < n → ∃ b off z, a = some ⟨b, off, none⟩ ∧ 0 ≤ b ∧ w.cell? ⟨b, off + i, none⟩ = some (.int .u8 z)

def lenV : Value → Nat | .slice _ n _ => n | _ => 0

theorem InV.good {w : World} {ao : Option Addr} {vs : List Value} (h : InV w ao vs) (hl : ∀ v ∈ vs, lenV v ≤ 1048576) : allGood w vs := fun v hv => by
  obtain ⟨a, n, c, rfl, _, hc⟩ := h.2 v hv
  exact ⟨a, n, c, rfl, hl _ hv, hc⟩

theorem InV.at {w : World} {ao : Option Addr} {vs : List Value} (h : InV w ao vs) {k : Nat} (hk : k < vs.length) :
    ∃ b off a n c, ao = some ⟨b, off, none⟩ ∧ w.cell? ⟨b, off + k, none⟩ = some (.slice a n c) ∧ n ≤ maxLen ∧ lenV (vs.getD k nilS) = n := by
  obtain ⟨b, off, e, hc⟩ := h.1 k hk
  obtain ⟨a, n, c, hv, hn, _⟩ := h.2 _ (getD_memV vs k hk)
  exact ⟨b, off, a, n, c, e, by rw [hc, hv], hn, by rw [hv]; rfl⟩

/-- the lengths of the first k sum to at most 2^20, so each is -/
def lensOk (vs : List Value) (k : Nat) : Prop := ∀ i, i < k → lenV (vs.getD i nilS) ≤ 1048576

theorem lensOk.all {vs : List Value} (h : lensOk vs vs.length) : ∀ v ∈ vs, lenV v ≤ 1048576 := fun v hv => by
  obtain ⟨i, hi, rfl⟩ := List.mem_iff_getElem.1 hv
  have := h i hi
  simpa [List.getD, hi] using this

/-- it returns a bool, the world stands, and where it says yes P holds (a name, so that the walk does not look inside) -/
def RetB (w : World) (p : Prop) (e : Ending) (w' : World) : Prop := ∃ r, e = .returned (.bool r) ∧ w' = w ∧ (r = true → p)

set_option maxHeartbeats 2000000 in
theorem zz8_any (a0 a1 a2 : Option Addr) (l0 l1 c0 c1 c2 : Nat) (vs : List Value) (x y : Int) (w : World) (m0 : l0 ≤ maxLen) (m1 : l1 ≤ maxLen) (m2 : vs.length ≤ maxLen) (hv : InV w a2 vs) :
    Calls Try.prog 8 #[.slice a0 l0 c0, .slice a1 l1 c1, .slice a2 vs.length c2, .int .u16 x, .int .i64 y] w (RetB w (lensOk vs vs.length)) := by
  have HV : Hid (InV w a2 vs) := hv
  clear hv
  unfold maxLen at m0 m1 m2
  by_cases hT : l0 + l1 + vs.length ≤ 1048576
  · go_enter Try.func8, Try.ntmps8
    go_wp2
    go_loop [11, 12] (fun t i => ∃ (k : Nat) (s : Int), k ≤ vs.length ∧ i = .int .i64 k ∧ t = .int .i64 s ∧ 0 ≤ s ∧ s ≤ 1048576 ∧ Hid (lensOk vs k)) (fun _ i => vs.length - (intOf i).toNat)
    case atStart => exact ⟨0, _, Nat.zero_le _, rfl, rfl, by omega, by omega, fun i hi => absurd hi (by omega)⟩
    case round =>
      obtain ⟨k, s, hk, rfl, rfl, h0, h1, HL⟩ := hrel
      by_cases hlt : k < vs.length
      · obtain ⟨b, off, a, n, c, rfl, g1, hn, hln⟩ := HV.out.at hlt
        unfold maxLen at hn
        have HN : Hid (lenV (vs.getD k nilS) = n) := hln
        clear hln
        by_cases h2 : n ≤ 1048576
        · by_cases h3 : s + n ≤ 1048576
          · go_wp2
            go_round
            case rel =>
              refine ⟨k + 1, _, by omega, by go_num, rfl, by omega, by omega, fun i hi => ?_⟩
              by_cases e : i = k
              · rw [e, HN.out]; exact h2
              · exact HL.out i (by omega)
            case measure => simp [intOf]; omega
          · go_wp2
            go_ret
            exact ⟨false, rfl, rfl, fun h => by cases h⟩
        · go_wp2
          go_ret
          exact ⟨false, rfl, rfl, fun h => by cases h⟩
      · obtain rfl : k = vs.length := by omega
        go_wp2
        go_ret
        exact ⟨true, rfl, rfl, fun _ => HL.out⟩
  · go_enter Try.func8, Try.ntmps8
    go_wp2
    all_goals
      go_ret
      exact ⟨false, rfl, rfl, fun h => by cases h⟩

end Go.Proofs.Qxb6000494a
