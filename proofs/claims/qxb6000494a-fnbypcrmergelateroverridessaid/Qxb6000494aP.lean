import Derived.Test.Qxb6000494aO
namespace Go.Proofs.Qxb6000494a
open Go.RowKit Go.Maps

def nilS : Value := .slice none 0 0
def VRd (w : World) (ao : Option Addr) (vs : List Value) : Prop :=
  ∀ i, i < vs.length → ∃ b off, ao = some ⟨b, off, none⟩ ∧ w.cell? ⟨b, off + i, none⟩ = some (vs.getD i nilS)

theorem VRd.below {w w' : World} {ao : Option Addr} {vs : List Value} (h : VRd w ao vs) (hb : Below w.heap.size w w') : VRd w' ao vs := fun i hi => by
  obtain ⟨b, off, e, hc⟩ := h i hi
  exact ⟨b, off, e, by rw [hb.cell (by exact World.block_lt_of_cell? w _ hc)]; exact hc⟩

theorem VRd.nil {w : World} {vs : List Value} (h : VRd w none vs) : vs = [] := by
  cases vs with
  | nil => rfl
  | cons x l => obtain ⟨b, off, e, _⟩ := h 0 (by simp); cases e

def allGood (w : World) (vs : List Value) : Prop := ∀ v ∈ vs, GoodFrom 0 w v
theorem allGood.below {w w' : World} {vs : List Value} (h : allGood w vs) (hb : Below w.heap.size w w') : allGood w' vs := fun v hv => (h v hv).below hb

theorem getD_memV (l : List Value) (i : Nat) (h : i < l.length) : l.getD i nilS ∈ l := by
  simp [List.getD, h]

theorem Try.info27 : (Try.prog.info? 27).map (fun i => (i.zero, i.size, i.bytes)) = some (some (.slice none 0 0), 1, 24) := by kernel_rfl
theorem Try.info5 : (Try.prog.info? 5).map (fun i => (i.zero, i.size, i.bytes)) = some (some (.int .u8 0), 1, 1) := by kernel_rfl

set_option maxHeartbeats 2000000 in
theorem cloneDeep (ao : Option Addr) (cap : Nat) (vs : List Value) (w : World) (hl : vs.length ≤ 4096) (hr : VRd w ao vs) (hg : allGood w vs) :
    Calls Try.prog 11 #[.slice ao vs.length cap] w fun e w' => ∃ ao' c' vs', vs'.length = vs.length ∧ e = .returned (.slice ao' vs.length c') ∧ VRd w' ao' vs' ∧ allGood w' vs' ∧ Below w.heap.size w w' := by
  have HR : Hid (VRd w ao vs) := hr
  have HG : Hid (allGood w vs) := hg
  clear hr hg
  have hmk := run_make_row' (P := Try.prog) 24 27 (.slice none 0 0) 24 Try.underlying24 Try.info27 rfl .i64 .i64 vs.length (by omega) (by omega)
  have q24 : ∀ (w : World) (a : Option Addr) (n c n' c' : Nat), (binOp .eql 24 (.slice a n c) (.slice none n' c')).run Try.prog w = .ok (.bool a.isNone) w := fun w a n c n' c' => Lib.run_eql_slice_nil w _ _ a n c n' c' Try.underlying24
  have q27 : ∀ (w : World) (a : Option Addr) (n c n' c' : Nat), (binOp .eql 27 (.slice a n c) (.slice none n' c')).run Try.prog w = .ok (.bool a.isNone) w := fun w a n c n' c' => Lib.run_eql_slice_nil w _ _ a n c n' c' Try.underlying27
  cases ao with
  | none =>
    obtain rfl := VRd.nil HR.out
    go_enter Try.func11, Try.ntmps11
    go_wp2
    go_ret
    exact ⟨none, 0, [], rfl, rfl, HR.out, HG.out, Below.refl _ _⟩
  | some x =>
    go_enter Try.func11, Try.ntmps11
    go_wp2
    go_loopw [14] (fun i wr => ∃ k : Nat, k ≤ vs.length ∧ i = .int .i64 k ∧ (∃ us : Nat → Value, wr.rowIs w.heap.size 27 vs.length us ∧ (∀ j, j < k → GoodFrom (w.heap.size + 1) wr (us j)) ∧ (∀ j, k ≤ j → j < vs.length → us j = .slice none 0 0)) ∧ Below w.heap.size w wr)
      (fun i _ => vs.length - (intOf i).toNat)
    case atStart => exact ⟨0, Nat.zero_le _, rfl, ⟨_, World.rowIs_made w (.slice none 0 0) vs.length 27, fun j hj => absurd hj (by omega), fun _ _ _ => rfl⟩, (Below.refl _ _).alloc (Nat.le_refl _) _⟩
    case round =>
      obtain ⟨k, hk, rfl, ⟨us, hrow, hgood, hrest⟩, hbel⟩ := hrel
      by_cases hlt : k < vs.length
      · obtain ⟨b, off, e, hc⟩ := HR.out k hlt
        obtain rfl := Option.some.inj e
        have hbb : b < w.heap.size := World.block_lt_of_cell? w _ hc
        have c1 : wr.cell? ⟨b, off + k, none⟩ = some (vs.getD k nilS) := (hbel.cell (by exact hbb)).trans hc
        obtain ⟨a2, L, C, hv, hL, hcc⟩ := (HG.out _ (getD_memV vs k hlt)).below hbel
        rw [hv] at c1
        have HCC : Hid (∀ i, i < L → ∃ b off z, a2 = some ⟨b, off, none⟩ ∧ 0 ≤ b ∧ wr.cell? ⟨b, off + i, none⟩ = some (.int .u8 z)) := hcc
        have hB : w.heap.size < wr.heap.size := hrow.lt
        have HGD : Hid (∀ j, j < k → GoodFrom (w.heap.size + 1) wr (us j)) := hgood
        have HRS : Hid (∀ j, k ≤ j → j < vs.length → us j = .slice none 0 0) := hrest
        clear hv hcc hc e hgood hrest
        cases a2 with
        | none =>
          go_wp2
          go_roundw
          case rel =>
            refine ⟨k + 1, by omega, by go_num, ⟨us, hrow, fun j hj => ?_, fun j h1 h2 => HRS.out j (by omega) h2⟩, hbel⟩
            by_cases e : j < k
            · exact HGD.out j e
            · rw [HRS.out j (by omega) (by omega)]; exact goodNil _ _ _ _
          case measure => simp [intOf]; omega
        | some y =>
          have hmk2 := run_make_row' (P := Try.prog) 27 5 (.int .u8 0) 1 Try.underlying27 Try.info5 rfl .i64 .i64 L (by omega) (by omega)
          have c1a : ∀ o, (wr.alloc o).cell? ⟨b, off + k, none⟩ = some (.slice (some y) L C) := fun o => by
            rw [((Below.refl wr.heap.size wr).alloc (Nat.le_refl _) o).cell (by exact Nat.lt_trans hbb hB)]; exact c1
          obtain ⟨wo, rfl⟩ : ∃ wo : World, wo = wr := ⟨_, rfl⟩
          go_wp2
          go_loopw [33] (fun i wi => ∃ j : Nat, j ≤ L ∧ i = .int .i64 j ∧ (∃ f : Nat → Value, wi.rowIs wo.heap.size 5 L f ∧ ∀ t, t < L → ∃ z, f t = .int .u8 z) ∧ Below wo.heap.size wo wi)
            (fun i _ => L - (intOf i).toNat)
          case atStart => exact ⟨0, Nat.zero_le _, rfl, ⟨_, World.rowIs_made wo (.int .u8 0) L 5, fun t _ => ⟨0, rfl⟩⟩, (Below.refl _ _).alloc (Nat.le_refl _) _⟩
          case round =>
            obtain ⟨j, hj, rfl, ⟨f, hrf, hf⟩, hbi⟩ := hrel
            have HF : Hid (∀ t, t < L → ∃ z, f t = .int .u8 z) := hf
            clear hf
            have hB2 : wo.heap.size < wr.heap.size := hrf.lt
            by_cases hjl : j < L
            · obtain ⟨b2, off2, z, e, _, hc2⟩ := HCC.out j hjl
              obtain rfl := Option.some.inj e
              have d1 : wr.cell? ⟨b, off + k, none⟩ = some (.slice (some ⟨b2, off2, none⟩) L C) := (hbi.cell (by exact Nat.lt_trans hbb hB)).trans c1
              have d2 : wr.cell? ⟨b2, off2 + j, none⟩ = some (.int .u8 z) := (hbi.cell (by exact World.block_lt_of_cell? wo _ hc2)).trans hc2
              obtain ⟨v0, d3⟩ : ∃ v, wr.cell? ⟨wo.heap.size, j, none⟩ = some v := ⟨_, hrf.cell hjl⟩
              have d4 := hrf.frozen j
              clear hc2 e c1a
              go_wp2
              go_roundw
              case rel =>
                refine ⟨j + 1, by omega, by go_num, ⟨_, hrf.set j _, fun t ht => ?_⟩, hbi.setCell (by exact Nat.le_refl _) _⟩
                by_cases e : t = j
                · exact ⟨z, by simp [e]⟩
                · simp only [e, if_false]; exact HF.out t ht
              case measure => simp [intOf]; omega
            · have hrow2 := hrow.of_block (hbi.block _ hB)
              obtain ⟨v0, d3⟩ : ∃ v, wr.cell? ⟨w.heap.size, k, none⟩ = some v := ⟨_, hrow2.cell hlt⟩
              have d4 := hrow2.frozen k
              clear c1a
              go_wp2
              go_roundw
              case rel =>
                refine ⟨k + 1, by omega, by go_num, ⟨_, hrow2.set k _, fun t ht => ?_, fun t h1 h2 => ?_⟩, (hbel.trans (hbi.mono hbel.size)).setCell (by exact Nat.le_refl _) _⟩
                · by_cases e : t = k
                  · simp only [e, if_true]
                    refine ⟨_, _, _, rfl, hL, fun i hi => ?_⟩
                    obtain ⟨z, hz⟩ := HF.out i hi
                    refine ⟨_, _, z, rfl, hB, ?_⟩
                    rw [World.cell?_of_block (w := wr) (Below.heap_setCell wr _ _ _ (by simp; omega)), Nat.zero_add, hrf.cell hi, hz]
                  · simp only [e, if_false]
                    exact ((HGD.out t (by omega)).below hbi).set (by simp) _
                · simp only [show ¬ t = k by omega, if_false]
                  exact HRS.out t (by omega) h2
              case measure => simp [intOf]; omega
      · go_wp2
        go_ret
        refine ⟨_, _, (List.range vs.length).map us, by simp, rfl, fun i hi => ?_, fun v hv => ?_, hbel⟩
        · have hi' : i < vs.length := by simpa using hi
          refine ⟨_, _, rfl, ?_⟩
          rw [Nat.zero_add, hrow.cell hi']
          simp [List.getD, hi']
        · obtain ⟨i, hi, rfl⟩ := List.mem_map.1 hv
          have hi' : i < vs.length := by simpa using hi
          exact (hgood i (by omega)).mono (Nat.zero_le _)

end Go.Proofs.Qxb6000494a
