import Derived.Test.Qxb6000494aC
namespace Go.Proofs.Qxb6000494a
open Go.RowKit

theorem idx_le (zs : List Int) (x : Int) (j : Nat) (hj : j < zs.length) (h : zs.getD j 0 = x) : zs.idxOf x ≤ j := by
  by_cases e : j < zs.idxOf x
  · exact absurd h (idx_before zs x j e hj)
  · omega

theorem mem_take_getD (zs : List Int) (k : Nat) (x : Int) (hk : k ≤ zs.length) : x ∈ zs.take k ↔ ∃ j, j < k ∧ zs.getD j 0 = x := by
  constructor
  · intro h
    obtain ⟨j, hj, e⟩ := List.mem_iff_getElem.1 h
    simp at hj
    refine ⟨j, by omega, ?_⟩
    simp at e
    simp [List.getD, show j < zs.length by omega, e]
  · rintro ⟨j, hj, e⟩
    refine List.mem_iff_getElem.2 ⟨j, by simp; omega, ?_⟩
    simpa [List.getD, show j < zs.length by omega] using e

theorem bk_inv (zs : List Int) (k : Nat) (hk : k ≤ zs.length) : (∀ x, x ∈ bkTo zs k ↔ x ∈ zs.take k) ∧ (bkTo zs k).Pairwise (fun a b => zs.idxOf a < zs.idxOf b) := by
  induction k with
  | zero => simp [bkTo_zero]
  | succ k ih =>
    obtain ⟨h1, h2⟩ := ih (by omega)
    rw [bkTo_succ zs k (by omega)]
    have hts : zs.take (k + 1) = zs.take k ++ [zs.getD k 0] := by
      rw [List.take_succ_eq_append_getElem (by omega)]
      simp [List.getD, show k < zs.length by omega]
    obtain ⟨y, hy⟩ : ∃ y, y = zs.getD k 0 := ⟨_, rfl⟩
    rw [hts, ← hy]
    unfold bk
    by_cases hin : y ∈ bkTo zs k
    · rw [if_pos hin]
      refine ⟨fun x => ?_, h2⟩
      rw [h1]
      simp only [List.mem_append, List.mem_singleton]
      constructor
      · exact Or.inl
      · rintro (h | h)
        · exact h
        · rw [h]; exact (h1 y).1 hin
    · rw [if_neg hin]
      refine ⟨fun x => by simp only [List.mem_append, h1], ?_⟩
      rw [List.pairwise_append]
      refine ⟨h2, by simp, ?_⟩
      intro a ha b hb
      simp at hb
      subst hb
      obtain ⟨j, hj, e⟩ := (mem_take_getD zs k a (by omega)).1 ((h1 a).1 ha)
      have l1 := idx_le zs a j (by omega) e
      have l2 : k ≤ zs.idxOf b := by
        by_cases l : zs.idxOf b < k
        · refine absurd ((h1 b).2 ((mem_take_getD zs k b (by omega)).2 ⟨zs.idxOf b, l, ?_⟩)) hin
          exact idx_at zs b (by rw [hy]; simp [List.getD, show k < zs.length by omega])
        · omega
      omega

theorem banks_mem (zs : List Int) (x : Int) : x ∈ banksL zs ↔ x ∈ zs := by
  have := (bk_inv zs zs.length (Nat.le_refl _)).1 x
  simpa [bkTo] using this

theorem banks_len (zs : List Int) : (banksL zs).length ≤ zs.length := by
  have := bkTo_le zs zs.length
  simpa [bkTo] using this

theorem banks_inc (zs : List Int) (j i : Nat) (hj : j < i) (hi : i < (banksL zs).length) : zs.idxOf ((banksL zs).getD j 0) < zs.idxOf ((banksL zs).getD i 0) := by
  have := (bk_inv zs zs.length (Nat.le_refl _)).2
  have e : bkTo zs zs.length = banksL zs := by simp [bkTo]
  rw [e, List.pairwise_iff_getElem] at this
  have := this j i (by omega) hi hj
  simpa [List.getD, hi, show j < (banksL zs).length by omega] using this

theorem getD_mem (l : List Int) (i : Nat) (h : i < l.length) : l.getD i 0 ∈ l := by
  simp [List.getD, h]

theorem banks_ne (zs : List Int) (j i : Nat) (hj : j < i) (hi : i < (banksL zs).length) : ((banksL zs).getD i 0 == (banksL zs).getD j 0) = false := by
  have := banks_inc zs j i hj hi
  rw [beq_eq_false_iff_ne]
  intro e
  rw [e] at this
  omega

/-! ### the empty list -/
set_option maxHeartbeats 400000 in
theorem clone_empty (x : Addr) (cap : Nat) (w : World) :
    Calls Try.prog 9 #[.slice (some x) 0 cap] w fun e w' => e = .returned (.slice (some ⟨w.heap.size, 0, none⟩) 0 0) ∧ Below w.heap.size w w' := by
  have hmk := run_make_row' (P := Try.prog) 22 25 (.int .u16 0) 2 Try.underlying22 Try.info25 rfl .i64 .i64 0 (by omega) (by omega)
  have q22 : ∀ (w : World) (a : Option Addr) (n c n' c' : Nat), (binOp .eql 22 (.slice a n c) (.slice none n' c')).run Try.prog w = .ok (.bool a.isNone) w := fun w a n c n' c' => Lib.run_eql_slice_nil w _ _ a n c n' c' Try.underlying22
  simp only [Int.natCast_zero] at hmk
  go_enter Try.func9, Try.ntmps9
  go_wp2
  refine wp_loop_rounds 1 ?_; rw [rounds_succ]; go_wp2
  go_ret
  exact ⟨rfl, (Below.refl _ _).alloc (Nat.le_refl _) _⟩

set_option maxHeartbeats 400000 in
theorem mk_empty (a : Option Addr) (cap : Nat) (w : World) :
    Calls Try.prog 20 #[.slice a 0 cap] w fun e w' => e = .returned (.slice (some ⟨w.heap.size, 0, none⟩) 0 0) ∧ w'.rowIs w.heap.size 39 0 (mkF [] 0) ∧ Below w.heap.size w w' := by
  have hmk := run_make3 0 (by omega)
  simp only [Int.natCast_zero] at hmk
  go_enter Try.func20, Try.ntmps20
  go_wp2
  refine wp_loop_rounds 1 ?_; rw [rounds_succ]; go_wp2
  go_ret
  exact ⟨rfl, (made3 w 0).congr (fun i hi => absurd hi (by omega)), (Below.refl _ _).alloc (Nat.le_refl _) _⟩

end Go.Proofs.Qxb6000494a
