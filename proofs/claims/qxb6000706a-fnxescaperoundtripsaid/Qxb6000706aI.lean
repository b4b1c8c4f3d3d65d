import Derived.Test.Qxb6000706aF
set_option linter.unusedVariables false
namespace Go.Proofs.Qxb6000706a
open Go.RowKit

theorem Try.info5r : (Try.prog.info? 5).map (fun i => (i.zero, i.size, i.bytes)) = some (some (.int .u8 0), 1, 1) := by kernel_rfl

/-- the bytes L lie at the head of the call's own row g, of C cells -/
def St (w0 : World) (g C : Nat) (wr : World) (L : List Int) : Prop :=
  wr.ownsRow g 5 1 (.slice (some ⟨g, 0, none⟩) L.length C) L.length (L.map (Value.int .u8)) ∧ Below g w0 wr ∧ g < wr.heap.size

theorem St.rd {w0 wr : World} {g C : Nat} {L : List Int} (h : St w0 g C wr L) : Rd .u8 wr (some ⟨g, 0, none⟩) L := fun i hi =>
  ⟨g, 0, rfl, by rw [Nat.zero_add, h.1.cellAt i (by omega)]; simp [List.getD, hi]⟩

theorem wpList_push {w0 wr : World} {ops : Array Oper} {rest : List Oper} {o : Oper} {a : Act} {Q : Exit → Act → World → Prop} (hg : o.guard = none) (s x : Operand)
    (hop : o.op = Op.call { callee := Callee.builtin Builtin.append, args := #[s, x], argTypes := #[22, 22] }) (g C : Nat) (L : List Int) (c : Int) (hs : a.eval s = .slice (some ⟨g, 0, none⟩) L.length C) (hx : a.eval x = .slice (some ⟨wr.heap.size, 0, none⟩) 1 1)
    (hst : St w0 g C wr L) (hfit : L.length + 1 ≤ C)
    (hK : ∀ w' L', Hid (L' = L ++ [c]) → St w0 g C w' L' → wpList Try.prog ops Q rest (a.put o.dst (.slice (some ⟨g, 0, none⟩) L'.length C)) w') :
    wpList Try.prog ops Q (o :: rest) a (wr.alloc (.cells #[.int .u8 c] 5)) := by
  obtain ⟨i0, hi, hz0, hz1, hz2⟩ := info_parts Try.info5r
  refine wpList_append_fits _ hg s x 22 hop g 5 i0 1 Try.underlying22 hi hz1 g L.length C (L.map (Value.int .u8)) hs (hst.1.alloc _) ⟨wr.heap.size, 0, none⟩ 1 1 [.int .u8 c] hx rfl (cell_one_new _ _ _) (ints_oneCell .u8 [c]) hfit ?_
  intro w' h1 h2
  have := hK w' (L ++ [c]) rfl ⟨by simpa using h1, (hst.2.1.alloc (Nat.le_of_lt hst.2.2) _).grown h2 (by have := hst.2.2; simp; omega) (fun k hk => by cases hk; exact Nat.le_refl _), by have := h2.size; have := hst.2.2; simp at *; omega⟩
  simpa using this

/-! ### plain -/
structure Good (v : Int) (L : List Int) (k : Nat) : Prop where
  len : L.length = 2 + k
  z0 : zAt L 0 = 95
  z1 : zAt L 1 = 120
  dig : ∀ j, j < k → hb (zAt L (2 + j)) = true ∧ hv (zAt L (2 + j)) = digK v j
  wf : wfL .u8 L

theorem zAt_left (L : List Int) (c : Int) (i : Nat) (h : i < L.length) : zAt (L ++ [c]) i = zAt L i := by simp [zAt, List.getD, List.getElem?_append_left h]
theorem zAt_last (L : List Int) (c : Int) : zAt (L ++ [c]) L.length = c := by simp [zAt, List.getD]

theorem wf_u8 {c : Int} (h0 : 0 ≤ c) (h1 : c ≤ 255) : (Lit.int .u8 c).wf = true := WalkArith.wf_u8 (by omega)

theorem wfL_snoc {L : List Int} (h : wfL .u8 L) {c : Int} (h0 : 0 ≤ c) (h1 : c ≤ 255) : wfL .u8 (L ++ [c]) := fun n hn => by
  rcases List.mem_append.1 hn with h' | h'
  · exact h n h'
  · simp at h'; subst h'; exact wf_u8 h0 h1

theorem Good.snoc {v : Int} {L : List Int} {k : Nat} (h : Good v L k) {c : Int} (h0 : 0 ≤ c) (h1 : c ≤ 255) (hh : hb c = true) (hd : hv c = digK v k) : Good v (L ++ [c]) (k + 1) where
  len := by simp [h.len]; omega
  z0 := by rw [zAt_left _ _ _ (by have := h.len; omega)]; exact h.z0
  z1 := by rw [zAt_left _ _ _ (by have := h.len; omega)]; exact h.z1
  dig := fun j hj => by
    by_cases e : j = k
    · subst e
      have : 2 + j = L.length := h.len.symm
      rw [this, zAt_last]
      exact ⟨hh, hd⟩
    · rw [zAt_left _ _ _ (by have := h.len; omega)]; exact h.dig j (by omega)
  wf := wfL_snoc h.wf h0 h1

theorem good_start (v : Int) : Good v [95, 120] 0 where
  len := rfl
  z0 := rfl
  z1 := rfl
  dig := fun j hj => absurd hj (by omega)
  wf := fun n hn => by simp at hn; rcases hn with rfl | rfl <;> decide

/-- the seven bytes are laid -/
structure Good7 (v : Int) (L : List Int) (n : Nat) : Prop where
  len : L.length = 7 + n
  lk : looks L = true
  val : hexTo L 4 = v
  wf : wfL .u8 L

theorem digs_sum (v : Int) (h0 : 0 ≤ v) (h1 : v ≤ 65535) : ((digK v 0 * 16 + digK v 1) * 16 + digK v 2) * 16 + digK v 3 = v := by
  have e0 : digK v 0 = v / 4096 % 16 := rfl
  have e1 : digK v 1 = v / 256 % 16 := rfl
  have e2 : digK v 2 = v / 16 % 16 := rfl
  have e3 : digK v 3 = v / 1 % 16 := rfl
  rw [e0, e1, e2, e3]
  omega

theorem Good.seven {v : Int} {L : List Int} (h : Good v L 4) (h0 : 0 ≤ v) (h1 : v ≤ 65535) : Good7 v (L ++ [95]) 0 where
  len := by simp [h.len]
  lk := by
    have hl := h.len
    have a0 := (h.dig 0 (by omega)).1
    have a1 := (h.dig 1 (by omega)).1
    have a2 := (h.dig 2 (by omega)).1
    have a3 := (h.dig 3 (by omega)).1
    have e6 : zAt (L ++ [95]) 6 = 95 := by
      have : L.length = 6 := by omega
      rw [← this]; exact zAt_last L 95
    unfold looks
    have hh : headB (L ++ [95]) = true := decide_eq_true ⟨by simp; omega, by rw [zAt_left _ _ _ (by omega)]; exact h.z0, by rw [zAt_left _ _ _ (by omega)]; exact h.z1, e6⟩
    rw [hh]
    simp only [allTo]
    rw [zAt_left _ _ _ (by omega), zAt_left _ _ _ (by omega), zAt_left _ _ _ (by omega), zAt_left _ _ _ (by omega), a0, a1, a2, a3]
    rfl
  val := by
    have hl := h.len
    have a0 := (h.dig 0 (by omega)).2
    have a1 := (h.dig 1 (by omega)).2
    have a2 := (h.dig 2 (by omega)).2
    have a3 := (h.dig 3 (by omega)).2
    simp only [hexTo]
    rw [zAt_left _ _ _ (by omega), zAt_left _ _ _ (by omega), zAt_left _ _ _ (by omega), zAt_left _ _ _ (by omega), a0, a1, a2, a3]
    have := digs_sum v h0 h1
    omega
  wf := wfL_snoc h.wf (by omega) (by omega)

theorem Good7.snoc {v : Int} {L : List Int} {n : Nat} (h : Good7 v L n) {c : Int} (h0 : 0 ≤ c) (h1 : c ≤ 255) : Good7 v (L ++ [c]) (n + 1) where
  len := by simp [h.len]; omega
  lk := by
    have hl := h.len
    have e := h.lk
    unfold looks headB at *
    simp only [allTo] at *
    rw [zAt_left _ _ _ (by omega), zAt_left _ _ _ (by omega), zAt_left _ _ _ (by omega), zAt_left _ _ _ (by omega), zAt_left _ _ _ (by omega), zAt_left _ _ _ (by omega), zAt_left _ _ _ (by omega)]
    have e1 : (7 ≤ (L ++ [c]).length) = (7 ≤ L.length) := propext (by simp; omega)
    simp only [e1]
    exact e
  val := by
    have hl := h.len
    have e := h.val
    simp only [hexTo] at *
    rw [zAt_left _ _ _ (by omega), zAt_left _ _ _ (by omega), zAt_left _ _ _ (by omega), zAt_left _ _ _ (by omega)]
    exact e
  wf := wfL_snoc h.wf h0 h1

theorem low_hex {d : Int} (h0 : 0 ≤ d) (h1 : d ≤ 15) : hb (lowC d) = true ∧ hv (lowC d) = d ∧ 48 ≤ lowC d ∧ lowC d ≤ 102 := by
  unfold lowC
  by_cases h : d < 10
  · rw [if_pos h]
    exact ⟨hb_yes (by omega), by rw [hv_dig (by omega) (by omega)]; omega, by omega, by omega⟩
  · rw [if_neg h]
    exact ⟨hb_yes (by omega), by rw [hv_low (by omega) (by omega)]; omega, by omega, by omega⟩

theorem up_hex {d c : Int} (h0 : 0 ≤ d) (h1 : d ≤ 15) (hc : c = lowC d) (h : 97 ≤ c) : hb (c - 32) = true ∧ hv (c - 32) = d := by
  unfold lowC at hc
  by_cases h' : d < 10
  · rw [if_pos h'] at hc; omega
  · rw [if_neg h'] at hc
    exact ⟨hb_yes (by omega), by rw [hv_up (by omega) (by omega)]; omega⟩

theorem dig_bd (v : Int) (k : Nat) : 0 ≤ digK v k ∧ digK v k ≤ 15 := by unfold digK; omega

end Go.Proofs.Qxb6000706a
