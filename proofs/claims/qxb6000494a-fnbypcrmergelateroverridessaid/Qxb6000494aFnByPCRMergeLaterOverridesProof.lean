import Derived.Test.Qxb6000494aU
import Derived.Test.Qxb6000494aY
import Derived.WalkKit
import Derived.ProofKit
set_option linter.unusedVariables false
namespace Go.Proofs.Qxb6000494a.fnByPCRMergeLaterOverrides
open Go.ChangeShapes Go.WideShapes Go.ChangeAt Go.RowKit

theorem own : ownKnob Try.prog.godebug = none := by kernel_rfl

theorem walk (a0 a1 a2 a3 a4 a5 : Option Addr) (c0 c1 c2 c3 c4 c5 : Nat) (ids idx ids' idx' : List Int) (vals vals' : List Value) (w : World)
    (m0 : ids.length ≤ maxLen) (m1 : idx.length ≤ maxLen) (m2 : vals.length ≤ maxLen) (m3 : ids'.length ≤ maxLen) (m4 : idx'.length ≤ maxLen) (m5 : vals'.length ≤ maxLen)
    (r0 : Rd .u16 w a0 ids) (r1 : Rd .i64 w a1 idx) (hv : InV w a2 vals) (r3 : Rd .u16 w a3 ids') (r4 : Rd .i64 w a4 idx') (hv' : InV w a5 vals')
    (w0 : wfL .u16 ids) (w1 : wfL .i64 idx) (w3 : wfL .u16 ids') (w4 : wfL .i64 idx') :
    Calls Try.prog 4 #[.slice a0 ids.length c0, .slice a1 idx.length c1, .slice a2 vals.length c2, .slice a3 ids'.length c3, .slice a4 idx'.length c4, .slice a5 vals'.length c5] w fun e w' => e = .returned (.bool true) ∧ Below w.heap.size w w' := by
  by_cases h : ids.length ≤ 4096 ∧ idx.length ≤ 4096 ∧ vals.length ≤ 4096 ∧ ids'.length ≤ 4096 ∧ idx'.length ≤ 4096 ∧ vals'.length ≤ 4096
  · exact mo_main a0 a1 a2 a3 a4 a5 c0 c1 c2 c3 c4 c5 ids idx ids' idx' vals vals' w h.1 h.2.1 h.2.2.1 h.2.2.2.1 h.2.2.2.2.1 h.2.2.2.2.2 r0 r1 hv r3 r4 hv' w0 w1 w3 w4
  · exact mo_big a0 a1 a2 a3 a4 a5 _ _ _ _ c0 c1 c2 c3 c4 c5 vals vals' w m0 m1 m2 m3 m4 m5 hv hv' (by omega)

set_option maxRecDepth 100000 in
theorem lifted (os : Os) (started : os.Started) (H : Type) (enc : TypeId × Value → H) :
    ReturnsInHanded {} Try.checked os 4 .any (Rows.fnByPCRMergeLaterOverridesSpec.pre6 enc Try.prog Try.f4 Rows.fnByPCRMergeLaterOverridesRow.domain false) (Rows.fnByPCRMergeLaterOverridesSpec.post enc Try.prog Try.f4 false true false false) := by
  refine returnsInHanded_of_change (C := Try.checked) own started (by kernel_rfl) Try.func4
    (ChangeSpec.witness6 (enc := enc) (C := Try.checked) false ⟨#[], #[.slice none 0 0, .slice none 0 0, .slice none 0 0, .slice none 0 0, .slice none 0 0, .slice none 0 0], []⟩ 8 (by kernel_rfl) (by kernel_rfl) (by kernel_rfl) (by kernel_rfl)) ?_
  intro W base args ds gs before hval0 hW hcnd _
  have hval : ∀ (j : Nat) t v, Try.f4.params[j]? = some t → args[j]? = some v → Value.okWide Try.prog W .any base t v := hval0
  have hW' := hW
  obtain ⟨p, q, hA0, hV, rfl, hfz, hnd⟩ := hW
  have hA : DataW.TrodAll enc Try.prog W 0 (fun _ => true) true Try.f4.params.toList args.toList ds p := hA0
  rw [Try.params4] at hA hval
  obtain ⟨v0, vs0, d0, ds0, p0, q0, hargs, rfl, rfl, h0, r0⟩ := trodAll_cons hA
  obtain ⟨v1, vs1, d1, ds1, p1, q1, rfl, rfl, rfl, h1, r1⟩ := trodAll_cons r0
  obtain ⟨v2, vs2, d2, ds2, p2, q2, rfl, rfl, rfl, h2, r2⟩ := trodAll_cons r1
  obtain ⟨v3, vs3, d3, ds3, p3, q3, rfl, rfl, rfl, h3, r3⟩ := trodAll_cons r2
  obtain ⟨v4, vs4, d4, ds4, p4, q4, rfl, rfl, rfl, h4, r4⟩ := trodAll_cons r3
  obtain ⟨v5, vs5, d5, ds5, p5, q5, rfl, rfl, rfl, h5, r5⟩ := trodAll_cons r4
  obtain ⟨rfl, rfl, rfl⟩ := trodAll_nil r5
  obtain rfl : args = #[v0, v1, v2, v3, v4, v5] := by cases args; simp_all
  obtain ⟨rfl, rfl⟩ := trodVars_none hV
  obtain ⟨a0, len0, cap0, rfl⟩ := okWide_slice Try.underlying22 (hval 0 22 v0 rfl rfl)
  obtain ⟨a1, len1, cap1, rfl⟩ := okWide_slice Try.underlying23 (hval 1 23 v1 rfl rfl)
  obtain ⟨a2, len2, cap2, rfl⟩ := okWide_slice Try.underlying24 (hval 2 24 v2 rfl rfl)
  obtain ⟨a3, len3, cap3, rfl⟩ := okWide_slice Try.underlying22 (hval 3 22 v3 rfl rfl)
  obtain ⟨a4, len4, cap4, rfl⟩ := okWide_slice Try.underlying23 (hval 4 23 v4 rfl rfl)
  obtain ⟨a5, len5, cap5, rfl⟩ := okWide_slice Try.underlying24 (hval 5 24 v5 rfl rfl)
  have lt0 : ∀ x ∈ p0, x.block < W.heap.size := by obtain ⟨m, hm⟩ := h0; exact DataW.trod_lt m _ _ _ hm
  have lt1 : ∀ x ∈ p1, x.block < W.heap.size := by obtain ⟨m, hm⟩ := h1; exact DataW.trod_lt m _ _ _ hm
  have lt2 : ∀ x ∈ p2, x.block < W.heap.size := by obtain ⟨m, hm⟩ := h2; exact DataW.trod_lt m _ _ _ hm
  have lt3 : ∀ x ∈ p3, x.block < W.heap.size := by obtain ⟨m, hm⟩ := h3; exact DataW.trod_lt m _ _ _ hm
  have lt4 : ∀ x ∈ p4, x.block < W.heap.size := by obtain ⟨m, hm⟩ := h4; exact DataW.trod_lt m _ _ _ hm
  have lt5 : ∀ x ∈ p5, x.block < W.heap.size := by obtain ⟨m, hm⟩ := h5; exact DataW.trod_lt m _ _ _ hm
  obtain ⟨ids, rfl, m0, rd0, w0⟩ := open_row Try.underlying22 Try.underlying25 (by kernel_rfl) h0
  obtain ⟨idx, rfl, m1, rd1, w1⟩ := open_row Try.underlying23 Try.underlying3 (by kernel_rfl) h1
  obtain ⟨vals, rfl, m2, rd2⟩ := open_rows h2
  obtain ⟨ids', rfl, m3, rd3, w3⟩ := open_row Try.underlying22 Try.underlying25 (by kernel_rfl) h3
  obtain ⟨idx', rfl, m4, rd4, w4⟩ := open_row Try.underlying23 Try.underlying3 (by kernel_rfl) h4
  obtain ⟨vals', rfl, m5, rd5⟩ := open_rows h5
  clear hA0 hval0
  refine (walk a0 a1 a2 a3 a4 a5 cap0 cap1 cap2 cap3 cap4 cap5 ids idx ids' idx' vals vals' W m0 m1 m2 m3 m4 m5 rd0 rd1 rd2 rd3 rd4 rd5 w0 w1 w3 w4).mono fun e W' ⟨he, bel⟩ => ?_
  subst he
  exact ⟨_, rfl, _, _, _, [], _, [], hW', trodAll_mk1 (shut_bool Try.underlying4 _),
    (trodAll_cons_mk (Below.trod Try.laidOut (by kernel_rfl) (of_decide_eq_true (by kernel_rfl)) h0 bel lt0)
    (trodAll_cons_mk (Below.trod Try.laidOut (by kernel_rfl) (of_decide_eq_true (by kernel_rfl)) h1 bel lt1)
    (trodAll_cons_mk (Below.trod Try.laidOut (by kernel_rfl) (of_decide_eq_true (by kernel_rfl)) h2 bel lt2)
    (trodAll_cons_mk (Below.trod Try.laidOut (by kernel_rfl) (of_decide_eq_true (by kernel_rfl)) h3 bel lt3)
    (trodAll_cons_mk (Below.trod Try.laidOut (by kernel_rfl) (of_decide_eq_true (by kernel_rfl)) h4 bel lt4)
    (trodAll_cons_mk (Below.trod Try.laidOut (by kernel_rfl) (of_decide_eq_true (by kernel_rfl)) h5 bel lt5) trodAll_mk0)))))), rfl, bel.frame _, fun h => by cases h⟩

theorem over : Rows.fnByPCRMergeLaterOverridesRow.holds Try.pinned (OpenSpec.ofChange Rows.fnByPCRMergeLaterOverridesSpec) :=
  OpenClaim.holds_of_wide 4 Try.f4 rfl rfl rfl rfl rfl rfl rfl ⟨rfl, rfl, rfl, rfl, rfl⟩ rfl rfl rfl rfl rfl (by kernel_rfl) Try.func4 (by kernel_rfl)
    (of_decide_eq_true (by kernel_rfl)) (by unfold Func.isWrapper; first | (rw [if_pos (by decide +kernel)]; kernel_rfl) | (rw [if_neg (by decide +kernel)]; exact ⟨rfl, rfl⟩))
    (fun os started H enc _ => lifted os started H enc)

theorem proved : Rows.FnByPCRMergeLaterOverridesSaid := over
#print axioms proved
end Go.Proofs.Qxb6000494a.fnByPCRMergeLaterOverrides
