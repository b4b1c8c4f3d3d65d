import Derived.Test.Qxb6000494aS
set_option linter.unusedVariables false
namespace Go.Proofs.Qxb6000494a
open Go.RowKit Go.Maps

def wfL (k : IntKind) (zs : List Int) : Prop := ∀ n ∈ zs, (Lit.int k n).wf = true

theorem wf_zero (k : IntKind) : (Lit.int k 0).wf = true := by cases k <;> decide

theorem getD_wf {k : IntKind} {zs : List Int} (h : wfL k zs) (i : Nat) : (Lit.int k (zs.getD i 0)).wf = true := by
  by_cases hi : i < zs.length
  · exact h _ (by simp [List.getD, hi])
  · simp [List.getD, List.getElem?_eq_none (Nat.le_of_not_lt hi), wf_zero]

theorem mkPV_wf {ids idx : List Int} (h0 : wfL .u16 ids) (h1 : wfL .i64 idx) (vals : List Value) (n : Nat) : allWf (mkPV ids idx vals n) := fun kv hkv => by
  obtain ⟨i, _, rfl⟩ := List.mem_map.1 hkv
  exact ⟨getD_wf h0 i, getD_wf h1 i⟩

theorem mkPV_good {ids idx : List Int} {w : World} {vals : List Value} (hg : allGood w vals) (n : Nat) (hn : n ≤ vals.length) : ∀ kv ∈ mkPV ids idx vals n, GoodFrom 0 w kv.2 := fun kv hkv => by
  obtain ⟨i, hi, rfl⟩ := List.mem_map.1 hkv
  have : i < n := by simpa using hi
  exact hg _ (getD_memV vals i (by omega))

theorem slOk_of {w : World} {vs : List PV} (h : ∀ kv ∈ vs, GoodFrom 0 w kv.2) : slOk vs := fun kv hkv => by
  obtain ⟨ao, n, c, e, _⟩ := h kv hkv
  exact ⟨ao, n, c, e⟩

theorem cloneDeepV (ao : Option Addr) (cap : Nat) (vs : List Value) (w : World) (hl : vs.length ≤ 4096) (hr : VRd w ao vs) (hg : allGood w vs) :
    Calls Try.prog 11 #[.slice ao vs.length cap] w fun e w' => ∃ ao' c' vs', vs'.length ≤ 4096 ∧ e = .returned (.slice ao' vs'.length c') ∧ VRd w' ao' vs' ∧ allGood w' vs' ∧ Below w.heap.size w w' := by
  refine (cloneDeep ao cap vs w hl hr hg).mono ?_
  rintro e w' ⟨ao', c', vs', h1, rfl, h2, h3, h4⟩
  exact ⟨ao', c', vs', by omega, by rw [h1], h2, h3, h4⟩

theorem mkValues_vs (a0 a1 a2 : Option Addr) (c0 c1 c2 : Nat) (ids idx : List Int) (vals : List Value) (w : World) (l0 : ids.length ≤ 4096) (l1 : idx.length ≤ 4096) (l2 : vals.length ≤ 4096)
    (r0 : Rd .u16 w a0 ids) (r1 : Rd .i64 w a1 idx) (r2 : VRd w a2 vals) (hg : allGood w vals) (w0 : wfL .u16 ids) (w1 : wfL .i64 idx) :
    ∃ vs : List PV, vs.length ≤ 4096 ∧ allWf vs ∧ (∀ kv ∈ vs, GoodFrom 0 w kv.2) ∧ Calls Try.prog 12 #[.slice a0 ids.length c0, .slice a1 idx.length c1, .slice a2 vals.length c2] w fun e w' =>
      e = .returned (.slice (some ⟨w.heap.size, 0, none⟩) vs.length vs.length) ∧ Row w' w.heap.size vs ∧ Below w.heap.size w w' := by
  obtain ⟨n, n0, n1, n2, h⟩ := mkValues_any a0 a1 a2 c0 c1 c2 ids idx vals w l0 l1 l2 r0 r1 r2 hg
  refine ⟨mkPV ids idx vals n, by rw [mkPV_len]; omega, mkPV_wf w0 w1 vals n, mkPV_good hg n n2, ?_⟩
  rw [mkPV_len]
  exact h

/-- a key laid in a block of its own, the rest as it was in w5 -/
def Kept (w5 : World) (kb : Nat) (a b : Int) (wx : World) : Prop :=
  Below w5.heap.size w5 wx ∧ kb < wx.heap.size ∧ wx.cell? ⟨kb, 0, none⟩ = some (.int .u16 a) ∧ wx.cell? ⟨kb, 1, none⟩ = some (.int .i64 b)

theorem Kept.start {w5 wr : World} (h : Below w5.heap.size w5 wr) (a b : Int) : Kept w5 wr.heap.size a b (wr.alloc (.cells #[.int .u16 a, .int .i64 b] 37)) :=
  ⟨h.alloc h.size _, by simp, cell_of_row _ _ 0 _ 37 (0, 0) (Deep.blk_alloc_new _ _), cell_of_row _ _ 1 _ 37 (0, 0) (Deep.blk_alloc_new _ _)⟩

theorem Kept.step {w5 wx wy : World} {kb : Nat} {a b : Int} (h : Kept w5 kb a b wx) (hb : Below wx.heap.size wx wy) : Kept w5 kb a b wy :=
  ⟨h.1.trans (hb.mono h.1.size), Nat.lt_of_lt_of_le h.2.1 hb.size, (hb.cell (by exact h.2.1)).trans h.2.2.1, (hb.cell (by exact h.2.1)).trans h.2.2.2⟩

set_option maxHeartbeats 4000000 in
theorem lw_main (a0 a1 a2 : Option Addr) (c0 c1 c2 : Nat) (ids idx : List Int) (vals : List Value) (x y : Int) (w : World) (l0 : ids.length ≤ 4096) (l1 : idx.length ≤ 4096) (l2 : vals.length ≤ 4096)
    (r0 : Rd .u16 w a0 ids) (r1 : Rd .i64 w a1 idx) (hv : InV w a2 vals) (w0 : wfL .u16 ids) (w1 : wfL .i64 idx) (hp : keyWf (x, y)) :
    Calls Try.prog 3 #[.slice a0 ids.length c0, .slice a1 idx.length c1, .slice a2 vals.length c2, .int .u16 x, .int .i64 y] w fun e w' => e = .returned (.bool true) ∧ Below w.heap.size w w' := by
  have HV : Hid (InV w a2 vals) := hv
  have R0 : Hid (Rd .u16 w a0 ids) := r0
  have R1 : Hid (Rd .i64 w a1 idx) := r1
  have W0 : Hid (wfL .u16 ids) := w0
  have W1 : Hid (wfL .i64 idx) := w1
  clear hv r0 r1 w0 w1
  go_enter Try.func3, Try.ntmps3
  go_wp2_with fail
  refine (zz8_any _ _ _ _ _ _ _ _ vals _ _ _ (by unfold maxLen; omega) (by unfold maxLen; omega) (by unfold maxLen; omega) HV.out).mono ?_
  rintro e w' ⟨r, rfl, rfl, hlen⟩
  cases r
  · go_wp2
    go_ret
    exact ⟨rfl, Below.refl _ _⟩
  have HL : Hid (lensOk vals vals.length) := hlen rfl
  have HG : Hid (allGood w' vals) := HV.out.good HL.out.all
  clear hlen
  go_wp2
  go_loop [11, 57] (fun t i => ∃ (k : Nat) (s : Int), k ≤ vals.length ∧ i = .int .i64 k ∧ t = .int .i64 s ∧ 0 ≤ s ∧ s ≤ 1048576) (fun _ i => vals.length - (intOf i).toNat)
  case atStart => exact ⟨0, _, Nat.zero_le _, rfl, rfl, by omega, by omega⟩
  case round =>
    obtain ⟨k, s, hk, rfl, rfl, h0, h1⟩ := hrel
    by_cases hlt : k < vals.length
    · obtain ⟨b, off, a, n, c, rfl, g1, hn, hln⟩ := HV.out.at hlt
      have h2 : n ≤ 1048576 := by rw [← hln]; exact HL.out k hlt
      clear hln
      by_cases h3 : s + n ≤ 1048576
      · go_wp2
        go_round
        case rel => exact ⟨k + 1, _, by omega, by go_num, rfl, by omega, by omega⟩
        case measure => simp [intOf]; omega
      · go_wp2
        go_ret
        exact ⟨rfl, Below.refl _ _⟩
    · obtain rfl : k = vals.length := by omega
      clear hk hlt HL
      go_wp2_with fail
      refine (clone16 a0 c0 ids _ l0 R0.out).mono ?_
      rintro e w1 ⟨b0, d0, rfl, q0, hb1⟩
      have Q0 : Hid (Rd .u16 w1 b0 ids) := q0
      clear q0
      go_wp2_with fail
      refine (clone64 a1 c1 idx _ l1 (Rd.below R1.out hb1)).mono ?_
      rintro e w2 ⟨b1, d1, rfl, q1, hb2⟩
      have Q1 : Hid (Rd .i64 w2 b1 idx) := q1
      clear q1
      have hb12 : Below w'.heap.size w' w2 := hb1.trans (hb2.mono hb1.size)
      go_wp2_with fail
      refine (cloneDeepV a2 c2 vals _ l2 (HV.out.1.below hb12) (HG.out.below hb12)).mono ?_
      rintro e w3 ⟨b2, d2, vals', lv, rfl, q2, g3, hb3⟩
      have hb13 : Below w'.heap.size w' w3 := hb12.trans (hb3.mono hb12.size)
      obtain ⟨vs, lvs, hwf, hgd, hmk⟩ := mkValues_vs b0 b1 b2 d0 d1 d2 ids idx vals' w3 l0 l1 lv (Rd.below Q0.out (hb2.trans (hb3.mono hb2.size))) (Rd.below Q1.out hb3) q2 g3 W0.out W1.out
      have HMK : Hid (Calls Try.prog 12 #[.slice b0 ids.length d0, .slice b1 idx.length d1, .slice b2 vals'.length d2] w3 fun e w' =>
        e = .returned (.slice (some ⟨w3.heap.size, 0, none⟩) vs.length vs.length) ∧ Row w' w3.heap.size vs ∧ Below w3.heap.size w3 w') := hmk
      have HWF : Hid (allWf vs) := hwf
      have HGD : Hid (∀ kv ∈ vs, GoodFrom 0 w3 kv.2) := hgd
      clear hmk q2 g3 hwf hgd
      go_wp2_with fail
      refine HMK.out.mono ?_
      rintro e w4 ⟨rfl, hr4, hb4⟩
      clear HMK
      go_wp2_with fail
      refine (zzbyPCR_any _ vs _ (by omega) hr4 HWF.out (slOk_of HGD.out)).mono ?_
      rintro e w5 ⟨bm, rfl, hbm, hmp, hb5⟩
      have hbv : w3.heap.size < w5.heap.size := Nat.lt_of_lt_of_le (World.rowIs.lt hr4) hb5.size
      have HR : Hid (Row w5 w3.heap.size vs) := hr4.below hb5 (World.rowIs.lt hr4)
      have HM : Hid (Mp w5 bm vs) := hmp
      have hbm5 : bm < w5.heap.size := World.ownsMap.lt hmp
      have hb35 : Below w3.heap.size w3 w5 := hb4.trans (hb5.mono hb4.size)
      have HGD5 : Hid (∀ kv ∈ vs, GoodFrom 0 w5 kv.2) := fun kv hkv => (HGD.out kv hkv).below hb35
      have HB : Below w'.heap.size w' w5 := hb13.trans (hb35.mono hb13.size)
      obtain ⟨bv, hbve⟩ : ∃ bv, bv = w3.heap.size := ⟨_, rfl⟩
      rw [← hbve] at hbv HR ⊢
      clear hbve hr4 hmp hb1 hb2 hb12 hb3 hb13 hb4 hb5 hb35 HGD Q0 Q1 hbm
      go_wp2
      go_loopw [15, 84] (fun d i wr => ∃ k : Nat, k ≤ vs.length ∧ i = .int .i64 k ∧ d = .int .i64 ((keysOf (vs.take k)).length : Nat) ∧ Below w5.heap.size w5 wr) (fun _ i _ => vs.length - (intOf i).toNat)
      case atStart => exact ⟨0, Nat.zero_le _, rfl, rfl, Below.refl _ _⟩
      case round =>
        obtain ⟨k, hk, rfl, rfl, hbr⟩ := hrel
        by_cases hlt : k < vs.length
        · have hkl := keys_le vs k hk
          obtain ⟨⟨a, b⟩, hab⟩ : ∃ p : PK, p = keyAt vs k := ⟨_, rfl⟩
          obtain ⟨g0, g1, _⟩ := (HR.out.below hbr hbv).cells hlt
          have hab' : (vs.getD k pv0).1 = (a, b) := hab.symm
          rw [hab'] at g0 g1
          have hw : keyWf (a, b) := by rw [← hab']; exact HWF.out _ (getD_memP vs k hlt)
          have hh : hasK vs (a, b) = true := by rw [hab]; exact hasK_at vs k hlt
          have K0 := Kept.start hbr a b
          obtain ⟨la, lb, lc⟩ := last_of vs (a, b) hh
          obtain ⟨f, hf⟩ : ∃ f, f = fkN vs (a, b) := ⟨_, rfl⟩
          have KF : Hid (f = k → (keysOf (vs.take (k + 1))).length = (keysOf (vs.take k)).length + 1) := fun h => keys_first vs k hlt (by rw [← hab, ← hf, h])
          have KG : Hid (f ≠ k → (keysOf (vs.take (k + 1))).length = (keysOf (vs.take k)).length) := fun h => keys_again vs k hlt (by rw [← hab, ← hf]; exact h)
          obtain ⟨d, hd⟩ : ∃ d, d = (keysOf (vs.take k)).length := ⟨_, rfl⟩
          rw [← hd] at KF KG hkl ⊢
          have HH : Hid (hasK vs (a, b) = true) := hh
          have HF : Hid (f = fkN vs (a, b)) := hf
          clear hab hab' hh hf hd
          obtain ⟨kv, hkv, hlv⟩ := lastV_mem vs (a, b) HH.out
          have hgd0 := HGD5.out kv hkv
          obtain ⟨l, hl⟩ : ∃ l : Nat, (l : Int) = lkTo vs (a, b) vs.length := ⟨(lkTo vs (a, b) vs.length).toNat, by omega⟩
          have hll : l < vs.length := by omega
          have lc2 : (vs.getD l pv0).2 = lastV vs (a, b) := by rw [← lc, ← hl]; rfl
          obtain ⟨v, hv0⟩ : ∃ v, v = lastV vs (a, b) := ⟨_, rfl⟩
          rw [hlv, ← hv0] at hgd0
          rw [← hv0] at lc2
          obtain ⟨ao, n, c, rfl⟩ : isSl v := by obtain ⟨ao, n, c, e, _⟩ := hgd0; exact ⟨ao, n, c, e⟩
          have HLV : Hid (lastV vs (a, b) = .slice ao n c) := hv0.symm
          have HLK : Hid ((l : Int) = lkTo vs (a, b) vs.length) := hl
          have HLC : Hid ((vs.getD l pv0).2 = .slice ao n c) := lc2
          have HGL : Hid (GoodFrom 0 w5 (.slice ao n c)) := hgd0
          clear hlv hv0 hl lc lc2 la lb hkv hgd0
          go_wp2_with fail
          refine (firstKey_yes bv vs a b _ (by omega) (HR.out.below (hbr.alloc hbr.size _) hbv) HH.out).mono ?_
          rintro e w6 ⟨rfl, hb6⟩
          have K6 := K0.step hb6
          obtain ⟨k6, _, e60, e61⟩ := id K6
          rw [← HF.out]
          clear HF K0 hb6
          by_cases hfk : f = k
          · have hfe : ((f : Int) == (k : Int)) = true := by simp [hfk]
            have HD : Hid ((keysOf (vs.take (k + 1))).length = d + 1) := KF.out hfk
            clear KF KG hfk
            go_wp2_with fail
            refine (lastKey_any bv vs a b _ (by omega) (HR.out.below k6 hbv)).mono ?_
            rintro e w7 ⟨rfl, hb7⟩
            have K7 := K6.step hb7
            obtain ⟨k7, _, e70, e71⟩ := id K7
            obtain ⟨_, _, c72⟩ := (HR.out.below k7 hbv).cells hll
            rw [HLC.out] at c72
            rw [← HLK.out]
            clear K6 hb7 e60 e61
            go_wp2_with (at_lookup; refine wpList_lookIs _ rfl _ _ rfl bm vs HWF.out rfl (HM.out.below k7 hbm5) (a, b) hw rfl (.slice ao n c) true HLV.out HH.out ?_)
            refine (same_any (.slice ao n c) _ (HGL.out.below k7)).mono ?_
            rintro e w8 ⟨rfl, hb8⟩
            have k8 : Below w5.heap.size w5 w8 := k7.trans (hb8.mono k7.size)
            clear hb8 K7 c72 e70 e71
            go_wp2
            go_roundw
            case rel => exact ⟨k + 1, by omega, by go_num, by rw [HD.out]; go_num, k8⟩
            case measure => simp [intOf]; omega
          · have hfe : ((f : Int) == (k : Int)) = false := by simp; omega
            have HD : Hid ((keysOf (vs.take (k + 1))).length = d) := KG.out hfk
            clear KF KG hfk
            go_wp2_with fail
            refine (lastKey_any bv vs a b _ (by omega) (HR.out.below k6 hbv)).mono ?_
            rintro e w7 ⟨rfl, hb7⟩
            have K7 := K6.step hb7
            obtain ⟨k7, _, e70, e71⟩ := id K7
            obtain ⟨_, _, c72⟩ := (HR.out.below k7 hbv).cells hll
            rw [HLC.out] at c72
            rw [← HLK.out]
            clear K6 hb7 e60 e61
            go_wp2_with (at_lookup; refine wpList_lookIs _ rfl _ _ rfl bm vs HWF.out rfl (HM.out.below k7 hbm5) (a, b) hw rfl (.slice ao n c) true HLV.out HH.out ?_)
            refine (same_any (.slice ao n c) _ (HGL.out.below k7)).mono ?_
            rintro e w8 ⟨rfl, hb8⟩
            have k8 : Below w5.heap.size w5 w8 := k7.trans (hb8.mono k7.size)
            clear hb8 K7 c72 e70 e71
            go_wp2
            go_roundw
            case rel => exact ⟨k + 1, by omega, by go_num, by rw [HD.out], k8⟩
            case measure => simp [intOf]; omega
        · obtain rfl : k = vs.length := by omega
          rw [List.take_length]
          have HBR : Below w'.heap.size w' wr := HB.trans (hbr.mono HB.size)
          clear hlt hk
          go_wp2_with (at_len; refine wpList_mlen _ rfl _ rfl bm vs HWF.out rfl (HM.out.below hbr hbm5) ?_)
          have K0 := Kept.start hbr x y
          cases hh : hasK vs (x, y) with
          | true =>
            have HH : Hid (hasK vs (x, y) = true) := hh
            clear hh
            refine (firstKey_yes bv vs x y _ (by omega) (HR.out.below (hbr.alloc hbr.size _) hbv) HH.out).mono ?_
            rintro e w6 ⟨rfl, hb6⟩
            go_wp2
            go_ret
            exact ⟨rfl, (HBR.alloc HBR.size _).trans (hb6.mono (by simp; have := HBR.size; omega))⟩
          | false =>
            have HH : Hid (hasK vs (x, y) = false) := hh
            clear hh
            refine (firstKey_no bv vs x y _ (by omega) (HR.out.below (hbr.alloc hbr.size _) hbv) HH.out).mono ?_
            rintro e w6 ⟨rfl, hb6⟩
            have K6 := K0.step hb6
            obtain ⟨k6, _, e60, e61⟩ := id K6
            have HB6 : Below w'.heap.size w' w6 := (HBR.alloc HBR.size _).trans (hb6.mono (by simp; have := HBR.size; omega))
            clear K0 hb6
            go_wp2_with (at_lookup; refine wpList_lookIs _ rfl _ _ rfl bm vs HWF.out rfl (HM.out.below k6 hbm5) (x, y) hp rfl _ false rfl HH.out ?_)
            go_ret
            exact ⟨rfl, HB6⟩
end Go.Proofs.Qxb6000494a
