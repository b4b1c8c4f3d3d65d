import Derived.Test.Qxb6000494aX
set_option linter.unusedVariables false
namespace Go.Proofs.Qxb6000494a
open Go.RowKit Go.Maps

theorem run_makeAB (va vb vab : List PV) (h : vab.length = va.length + vb.length) (hl : vab.length ≤ 1000000) (w : World) :
    (Instr.makeSlice 31 (.int .i64 ((va.length : Int) + (vb.length : Int))) (.int .i64 ((va.length : Int) + (vb.length : Int)))).run Try.prog w = .ok (.slice (some ⟨w.heap.size, 0, none⟩) vab.length vab.length) (w.alloc (.cells (madeCells #[.int .u16 0, .int .i64 0, .slice none 0 0] (vab.length * 3)) 39)) := by
  have hr := run_makeV vab.length hl w
  rw [show ((vab.length : Nat) : Int) = (va.length : Int) + (vb.length : Int) by omega] at hr
  exact hr

set_option maxHeartbeats 8000000 in
set_option maxRecDepth 100000 in
theorem mo_main (a0 a1 a2 a3 a4 a5 : Option Addr) (c0 c1 c2 c3 c4 c5 : Nat) (ids idx ids' idx' : List Int) (vals vals' : List Value) (w : World)
    (l0 : ids.length ≤ 4096) (l1 : idx.length ≤ 4096) (l2 : vals.length ≤ 4096) (l3 : ids'.length ≤ 4096) (l4 : idx'.length ≤ 4096) (l5 : vals'.length ≤ 4096)
    (r0 : Rd .u16 w a0 ids) (r1 : Rd .i64 w a1 idx) (hv : InV w a2 vals) (r3 : Rd .u16 w a3 ids') (r4 : Rd .i64 w a4 idx') (hv' : InV w a5 vals')
    (w0 : wfL .u16 ids) (w1 : wfL .i64 idx) (w3 : wfL .u16 ids') (w4 : wfL .i64 idx') :
    Calls Try.prog 4 #[.slice a0 ids.length c0, .slice a1 idx.length c1, .slice a2 vals.length c2, .slice a3 ids'.length c3, .slice a4 idx'.length c4, .slice a5 vals'.length c5] w fun e w' => e = .returned (.bool true) ∧ Below w.heap.size w w' := by
  have HV : Hid (InV w a2 vals) := hv
  have HV' : Hid (InV w a5 vals') := hv'
  have R0 : Hid (Rd .u16 w a0 ids) := r0
  have R1 : Hid (Rd .i64 w a1 idx) := r1
  have R3 : Hid (Rd .u16 w a3 ids') := r3
  have R4 : Hid (Rd .i64 w a4 idx') := r4
  have WF : Hid (wfL .u16 ids ∧ wfL .i64 idx ∧ wfL .u16 ids' ∧ wfL .i64 idx') := ⟨w0, w1, w3, w4⟩
  clear hv r0 r1 w0 w1 hv' r3 r4 w3 w4
  go_enter Try.func4, Try.ntmps4
  go_wp2_with fail
  refine (zz17_any _ _ _ _ _ _ _ _ _ _ _ _ _ _ _ _ vals vals' _ (by unfold maxLen; omega) (by unfold maxLen; omega) (by unfold maxLen; omega) (by unfold maxLen; omega) (by unfold maxLen; omega) (by unfold maxLen; omega) HV.out HV'.out).mono ?_
  rintro e W ⟨r, rfl, rfl, hlen⟩
  cases r
  · go_wp2
    go_ret
    exact ⟨rfl, Below.refl _ _⟩
  have HL : Hid (lensOk vals vals.length ∧ lensOk vals' vals'.length) := hlen rfl
  have HG : Hid (allGood W vals) := HV.out.good HL.out.1.all
  have HG' : Hid (allGood W vals') := HV'.out.good HL.out.2.all
  clear hlen
  go_wp2
  go_loop [13, 92] (fun t i => ∃ (k : Nat) (s : Int), k ≤ vals.length ∧ i = .int .i64 k ∧ t = .int .i64 s ∧ 0 ≤ s ∧ s ≤ 1048576) (fun _ i => vals.length - (intOf i).toNat)
  case atStart => exact ⟨0, _, Nat.zero_le _, rfl, rfl, by omega, by omega⟩
  case round =>
    obtain ⟨k, s, hk, rfl, rfl, h0, h1⟩ := hrel
    by_cases hlt : k < vals.length
    · obtain ⟨b, off, a, n, c, rfl, g1, hn, hln⟩ := HV.out.at hlt
      have h2 : n ≤ 1048576 := by rw [← hln]; exact HL.out.1 k hlt
      clear hln
      by_cases h3 : s + n ≤ 1048576
      · go_wp2
        go_round
        case rel => exact ⟨k + 1, _, by omega, by go_num, rfl, by omega, by omega⟩
        case measure => simp [intOf]; omega
      · go_wp2
        go_ret
        exact ⟨rfl, Below.refl _ _⟩
    obtain rfl : k = vals.length := by omega
    go_wp2
    go_loop [13, 107] (fun t i => ∃ (k : Nat) (s : Int), k ≤ vals'.length ∧ i = .int .i64 k ∧ t = .int .i64 s ∧ 0 ≤ s ∧ s ≤ 1048576) (fun _ i => vals'.length - (intOf i).toNat)
    case atStart => exact ⟨0, _, Nat.zero_le _, rfl, rfl, by omega, by omega⟩
    case round =>
      obtain ⟨k, s', hk', rfl, rfl, h0', h1'⟩ := hrel
      by_cases hlt' : k < vals'.length
      · obtain ⟨b, off, a, n, c, rfl, g1, hn, hln⟩ := HV'.out.at hlt'
        have h2 : n ≤ 1048576 := by rw [← hln]; exact HL.out.2 k hlt'
        clear hln
        by_cases h3 : s' + n ≤ 1048576
        · go_wp2
          go_round
          case rel => exact ⟨k + 1, _, by omega, by go_num, rfl, by omega, by omega⟩
          case measure => simp [intOf]; omega
        · go_wp2
          go_ret
          exact ⟨rfl, Below.refl _ _⟩
      obtain rfl : k = vals'.length := by omega
      clear hk hlt hk' hlt' HL h0 h1 h0' h1'
      go_wp2_with fail
      refine (clone16 a0 c0 ids _ l0 R0.out).mono ?_
      rintro e w1 ⟨b0, d0, rfl, q0, hb1⟩
      have Q0 : Hid (Rd .u16 w1 b0 ids) := q0
      clear q0
      go_wp2_with fail
      refine (clone64 a1 c1 idx _ l1 (Rd.below R1.out hb1)).mono ?_
      rintro e w2 ⟨b1, d1, rfl, q1, hb2⟩
      have Q1 : Hid (Rd .i64 w2 b1 idx) := q1
      clear q1
      have t2 := bt hb1 hb2
      go_wp2_with fail
      refine (cloneDeepV a2 c2 vals _ l2 (HV.out.1.below t2) (HG.out.below t2)).mono ?_
      rintro e w3 ⟨b2, d2, vl, lv, rfl, q2, g3, hb3⟩
      have Q2 : Hid (VRd w3 b2 vl ∧ allGood w3 vl) := ⟨q2, g3⟩
      clear q2 g3
      have t3 := bt t2 hb3
      go_wp2_with fail
      refine (clone16 a3 c3 ids' _ l3 (Rd.below R3.out t3)).mono ?_
      rintro e w4 ⟨b3, d3, rfl, q0, hb4⟩
      have Q3 : Hid (Rd .u16 w4 b3 ids') := q0
      clear q0
      have t4 := bt t3 hb4
      go_wp2_with fail
      refine (clone64 a4 c4 idx' _ l4 (Rd.below R4.out t4)).mono ?_
      rintro e w5 ⟨b4, d4, rfl, q1, hb5⟩
      have Q4 : Hid (Rd .i64 w5 b4 idx') := q1
      clear q1
      have t5 := bt t4 hb5
      go_wp2_with fail
      refine (cloneDeepV a5 c5 vals' _ l5 (HV'.out.1.below t5) (HG'.out.below t5)).mono ?_
      rintro e w6 ⟨b5, d5, vl', lv', rfl, q2, g3, hb6⟩
      have Q5 : Hid (VRd w6 b5 vl' ∧ allGood w6 vl') := ⟨q2, g3⟩
      clear q2 g3
      have t6 := bt t5 hb6
      have s3 : Below w3.heap.size w3 w6 := bt hb4 (bt hb5 hb6)
      obtain ⟨va, lva, hwf, hgd, hmk⟩ := mkValues_vs b0 b1 b2 d0 d1 d2 ids idx vl w6 l0 l1 lv (Rd.below Q0.out (bt hb2 (bt hb3 s3))) (Rd.below Q1.out (bt hb3 s3)) (Q2.out.1.below s3) (Q2.out.2.below s3) WF.out.1 WF.out.2.1
      have HMK : Hid (Calls Try.prog 12 #[.slice b0 ids.length d0, .slice b1 idx.length d1, .slice b2 vl.length d2] w6 fun e w' =>
        e = .returned (.slice (some ⟨w6.heap.size, 0, none⟩) va.length va.length) ∧ Row w' w6.heap.size va ∧ Below w6.heap.size w6 w') := hmk
      have HWA : Hid (allWf va) := hwf
      have HGA : Hid (∀ kv ∈ va, GoodFrom 0 w6 kv.2) := hgd
      clear hmk hwf hgd
      go_wp2_with fail
      refine HMK.out.mono ?_
      rintro e w7 ⟨rfl, hr7, hb7⟩
      have HRA : Hid (Row w7 w6.heap.size va) := hr7
      clear HMK hr7
      have t7 := bt t6 hb7
      obtain ⟨vb, lvb, hwf, hgd, hmk⟩ := mkValues_vs b3 b4 b5 d3 d4 d5 ids' idx' vl' w7 l3 l4 lv' (Rd.below Q3.out (bt hb5 (bt hb6 hb7))) (Rd.below Q4.out (bt hb6 hb7)) (Q5.out.1.below hb7) (Q5.out.2.below hb7) WF.out.2.2.1 WF.out.2.2.2
      have HMK : Hid (Calls Try.prog 12 #[.slice b3 ids'.length d3, .slice b4 idx'.length d4, .slice b5 vl'.length d5] w7 fun e w' =>
        e = .returned (.slice (some ⟨w7.heap.size, 0, none⟩) vb.length vb.length) ∧ Row w' w7.heap.size vb ∧ Below w7.heap.size w7 w') := hmk
      have HWB : Hid (allWf vb) := hwf
      have HGB : Hid (∀ kv ∈ vb, GoodFrom 0 w7 kv.2) := hgd
      clear hmk hwf hgd
      go_wp2_with fail
      refine HMK.out.mono ?_
      rintro e w8 ⟨rfl, hr8, hb8⟩
      have t8 := bt t7 hb8
      have hba : w6.heap.size < w8.heap.size := Nat.lt_of_lt_of_le (World.rowIs.lt HRA.out) hb8.size
      have hbb : w7.heap.size < w8.heap.size := World.rowIs.lt hr8
      have HRB : Hid (Row w8 w7.heap.size vb) := hr8
      have HRA8 : Hid (Row w8 w6.heap.size va) := HRA.out.below hb8 (World.rowIs.lt HRA.out)
      have HGA8 : Hid (∀ kv ∈ va, GoodFrom 0 w8 kv.2) := fun kv hkv => (HGA.out kv hkv).below (bt hb7 hb8)
      have HGB8 : Hid (∀ kv ∈ vb, GoodFrom 0 w8 kv.2) := fun kv hkv => (HGB.out kv hkv).below hb8
      obtain ⟨ba, hbae⟩ : ∃ ba, ba = w6.heap.size := ⟨_, rfl⟩
      obtain ⟨bb, hbbe⟩ : ∃ bb, bb = w7.heap.size := ⟨_, rfl⟩
      rw [← hbae] at hba HRA8 ⊢
      rw [← hbbe] at hbb HRB ⊢
      have T8 : Below W.heap.size W w8 := t8
      clear HMK hr8 HRA HGA HGB hbae hbbe Q0 Q1 Q2 Q3 Q4 Q5 hb1 hb2 hb3 hb4 hb5 hb6 hb7 hb8 t2 t3 t4 t5 t6 t7 t8 s3 HG HG' WF R0 R1 R3 R4 HV HV'
      obtain ⟨vab, hvab⟩ : ∃ vab, vab = va ++ vb := ⟨_, rfl⟩
      have HAB : Hid (vab = va ++ vb) := hvab
      have hlab : vab.length = va.length + vb.length := by rw [hvab, List.length_append]
      have hlA : va.length ≤ vab.length := by omega
      have hlB : vab.length ≤ 8192 := by omega
      have hmk := run_makeAB va vb vab hlab (by omega)
      have HLAB : Hid (vab.length = va.length + vb.length) := hlab
      clear hvab hlab
      go_wp2
      go_loopw [148] (fun i wr => ∃ k : Nat, k ≤ va.length ∧ i = .int .i64 k ∧ RowTo wr w8.heap.size vab.length k (fun i => vab.getD i pv0) ∧ Below w8.heap.size w8 wr) (fun i _ => va.length - (intOf i).toNat)
      case atStart =>
        obtain ⟨f, hf⟩ := madeV w8 vab.length
        exact ⟨0, Nat.zero_le _, rfl, ⟨f, hf, fun i hi => absurd hi (by omega)⟩, (Below.refl _ _).alloc (Nat.le_refl _) _⟩
      case round =>
        obtain ⟨k, hk, rfl, hrow, hbel⟩ := hrel
        by_cases hlt : k < va.length
        · obtain ⟨g0, g1, g2⟩ := (HRA8.out.below hbel hba).cells hlt
          obtain ⟨ao, n, c, hs⟩ := slOk_of HGA8.out _ (getD_memP va k hlt)
          obtain ⟨⟨x, y⟩, hp⟩ : ∃ p : PK, p = (va.getD k pv0).1 := ⟨_, rfl⟩
          have HP : Hid (vab.getD k pv0 = ((x, y), .slice ao n c)) := by
            unfold Hid
            rw [HAB.out, app_getD_left va vb k hlt, hp, ← hs]
          rw [hs] at g2
          rw [← hp] at g0 g1
          simp only at g0 g1
          clear hs hp
          have hlt2 : k < vab.length := by omega
          obtain ⟨⟨v0, e0⟩, f0⟩ := hrow.cells (k * 3) (by omega)
          obtain ⟨⟨v1, e1⟩, f1⟩ := hrow.cells (k * 3 + 1) (by omega)
          obtain ⟨⟨v2, e2⟩, f2⟩ := hrow.cells (k * 3 + 2) (by omega)
          go_wp2
          go_roundw
          case rel => exact ⟨k + 1, by omega, by go_num, hrow.step x y _ HP.out, (((hbel.setCell (by exact Nat.le_refl _) _).setCell (by exact Nat.le_refl _) _).setCell (by exact Nat.le_refl _) _)⟩
          case measure => simp [intOf]; omega
        obtain rfl : k = va.length := by omega
        clear hk hlt hmk
        have HR3 : Hid (RowTo wr w8.heap.size vab.length va.length (fun i => vab.getD i pv0)) := hrow
        clear hrow
        obtain ⟨wq, rfl⟩ : ∃ wq : World, wq = wr := ⟨_, rfl⟩
        go_wp2
        go_loopw [161] (fun i wr => ∃ k : Nat, k ≤ vb.length ∧ i = .int .i64 k ∧ RowTo wr w8.heap.size vab.length (va.length + k) (fun i => vab.getD i pv0) ∧ Below w8.heap.size w8 wr) (fun i _ => vb.length - (intOf i).toNat)
        case atStart => exact ⟨0, Nat.zero_le _, rfl, HR3.out, hbel⟩
        case round =>
          obtain ⟨k, hk, rfl, hrow, hbel'⟩ := hrel
          by_cases hlt : k < vb.length
          · obtain ⟨g0, g1, g2⟩ := (HRB.out.below hbel' hbb).cells hlt
            obtain ⟨ao, n, c, hs⟩ := slOk_of HGB8.out _ (getD_memP vb k hlt)
            obtain ⟨⟨x, y⟩, hp⟩ : ∃ p : PK, p = (vb.getD k pv0).1 := ⟨_, rfl⟩
            have HP : Hid (vab.getD (va.length + k) pv0 = ((x, y), .slice ao n c)) := by
              unfold Hid
              rw [HAB.out, app_getD_right va vb k, hp, ← hs]
            rw [hs] at g2
            rw [← hp] at g0 g1
            simp only at g0 g1
            clear hs hp
            have hlt2 : va.length + k < vab.length := by have := HLAB.out; omega
            obtain ⟨⟨v0, e0⟩, f0⟩ := hrow.cells ((va.length + k) * 3) (by omega)
            obtain ⟨⟨v1, e1⟩, f1⟩ := hrow.cells ((va.length + k) * 3 + 1) (by omega)
            obtain ⟨⟨v2, e2⟩, f2⟩ := hrow.cells ((va.length + k) * 3 + 2) (by omega)
            go_wp2
            go_roundw
            case rel => exact ⟨k + 1, by omega, by go_num, hrow.step x y _ HP.out, (((hbel'.setCell (by exact Nat.le_refl _) _).setCell (by exact Nat.le_refl _) _).setCell (by exact Nat.le_refl _) _)⟩
            case measure => simp [intOf]; omega
          obtain rfl : k = vb.length := by omega
          have HRV : Hid (Row wr w8.heap.size vab) := RowTo.row (by rw [← HLAB.out] at hrow; exact hrow)
          clear hrow hk hlt HR3 hbel
          obtain ⟨w9, rfl⟩ : ∃ w9 : World, w9 = wr := ⟨_, rfl⟩
          have hr9a := HRA8.out.below hbel' hba
          have hr9b := HRB.out.below hbel' hbb
          have hg9a : ∀ kv ∈ va, GoodFrom 0 w9 kv.2 := fun kv hkv => (HGA8.out kv hkv).below hbel'
          have hg9b : ∀ kv ∈ vb, GoodFrom 0 w9 kv.2 := fun kv hkv => (HGB8.out kv hkv).below hbel'
          have hg9 : ∀ kv ∈ vab, GoodFrom 0 w9 kv.2 := fun kv hkv => by
            rw [HAB.out] at hkv
            rcases List.mem_append.1 hkv with h | h
            · exact hg9a kv h
            · exact hg9b kv h
          have hwab : allWf vab := fun kv hkv => by
            rw [HAB.out] at hkv
            rcases List.mem_append.1 hkv with h | h
            · exact HWA.out kv h
            · exact HWB.out kv h
          have T9 := bt T8 hbel'
          obtain ⟨bv, hbve⟩ : ∃ bv, bv = w8.heap.size := ⟨_, rfl⟩
          rw [← hbve] at hba hbb HRV ⊢
          have hbv : bv < w9.heap.size := World.rowIs.lt HRV.out
          have HG9 : Hid (∀ kv ∈ vab, GoodFrom 0 w9 kv.2) := hg9
          have HWV : Hid (allWf vab) := hwab
          have HR9A : Hid (Row w9 ba va) := hr9a
          have HR9B : Hid (Row w9 bb vb) := hr9b
          have HSA : Hid (slOk va) := slOk_of hg9a
          have HSB : Hid (slOk vb) := slOk_of hg9b
          clear hbve hbel' hg9 hwab hr9a hr9b hg9a hg9b HGA8 HGB8 HRA8 HRB T8
          go_wp2_with fail
          refine (zzbyPCR_any ba va _ (by omega) HR9A.out HWA.out HSA.out).mono ?_
          rintro e w10 ⟨ma, rfl, _, hma, hb10⟩
          have HMA : Hid (Mp w10 ma va) := hma
          clear hma
          go_wp2_with fail
          refine (zzbyPCR_any bb vb _ (by omega) (HR9B.out.below hb10 (by omega)) HWB.out HSB.out).mono ?_
          rintro e w11 ⟨mb, rfl, _, hmb, hb11⟩
          have HMB : Hid (Mp w11 mb vb) := hmb
          clear hmb
          have u11 := bt hb10 hb11
          go_wp2_with fail
          refine (zzbyPCR_any bv vab _ (by omega) (HRV.out.below u11 hbv) HWV.out (slOk_of HG9.out)).mono ?_
          rintro e w12 ⟨mv, rfl, _, hmv, hb12⟩
          have u12 := bt u11 hb12
          have HMV : Hid (Mp w12 mv vab) := hmv
          have hmvl : mv < w12.heap.size := World.ownsMap.lt hmv
          have hmbl : mb < w12.heap.size := Nat.lt_of_lt_of_le (World.ownsMap.lt HMB.out) hb12.size
          have hmal : ma < w12.heap.size := Nat.lt_of_lt_of_le (World.ownsMap.lt HMA.out) (bt hb11 hb12).size
          have HMB2 : Hid (Mp w12 mb vb) := HMB.out.below hb12 (World.ownsMap.lt HMB.out)
          have HMA2 : Hid (Mp w12 ma va) := HMA.out.below (bt hb11 hb12) (World.ownsMap.lt HMA.out)
          have HRA2 : Hid (Row w12 ba va) := HR9A.out.below u12 (by omega)
          have HRB2 : Hid (Row w12 bb vb) := HR9B.out.below u12 (by omega)
          have HRV2 : Hid (Row w12 bv vab) := HRV.out.below u12 hbv
          have HG2 : Hid (∀ kv ∈ vab, GoodFrom 0 w12 kv.2) := fun kv hkv => (HG9.out kv hkv).below u12
          have T12 := bt T9 u12
          have hba2 : ba < w12.heap.size := by have := u12.size; omega
          have hbb2 : bb < w12.heap.size := by have := u12.size; omega
          have hbv2 : bv < w12.heap.size := by have := u12.size; omega
          clear hmv HMB HMA HR9A HR9B HRV HG9 T9 u12 u11 hb10 hb11 hb12 hba hbb hbv HSA HSB
          go_wp2
          go_loopw [183] (fun i wr => ∃ k : Nat, k ≤ vab.length ∧ i = .int .i64 k ∧ Below w12.heap.size w12 wr) (fun i _ => vab.length - (intOf i).toNat)
          case atStart => exact ⟨0, Nat.zero_le _, rfl, Below.refl _ _⟩
          case round =>
            obtain ⟨k, hk, rfl, hbr⟩ := hrel
            by_cases hlt : k < vab.length
            · obtain ⟨⟨a, b⟩, hab⟩ : ∃ p : PK, p = keyAt vab k := ⟨_, rfl⟩
              obtain ⟨g0, g1, _⟩ := (HRV2.out.below hbr hbv2).cells hlt
              have hab' : (vab.getD k pv0).1 = (a, b) := hab.symm
              rw [hab'] at g0 g1
              have hw : keyWf (a, b) := by rw [← hab']; exact HWV.out _ (getD_memP vab k hlt)
              have HH : Hid (hasK vab (a, b) = true) := by unfold Hid; rw [hab]; exact hasK_at vab k hlt
              have K0 := Kept.start hbr a b
              obtain ⟨kv, hkv, hlv⟩ := lastV_mem vab (a, b) HH.out
              have hgd0 := HG2.out kv hkv
              obtain ⟨v, hv0⟩ : ∃ v, v = lastV vab (a, b) := ⟨_, rfl⟩
              rw [hlv, ← hv0] at hgd0
              obtain ⟨ao, n, c, rfl⟩ : isSl v := by obtain ⟨ao, n, c, e, _⟩ := hgd0; exact ⟨ao, n, c, e⟩
              have HLV : Hid (lastV vab (a, b) = .slice ao n c) := hv0.symm
              have HGL : Hid (GoodFrom 0 w12 (.slice ao n c)) := hgd0
              clear hab hab' hkv hlv hgd0 hv0
              cases hbq : hasK vb (a, b) with
              | true =>
                have HB : Hid (hasK vb (a, b) = true) := hbq
                clear hbq
                have HLW : Hid (lastV vb (a, b) = .slice ao n c) := by
                  have h1 := HLV.out
                  rw [HAB.out, lastV_app, HB.out] at h1
                  unfold Hid
                  simpa using h1
                have HHW : Hid (hasK vb (a, b) = true) := HB
                go_wp2_with fail
                refine (firstKey_yes bb vb a b _ (by omega) (HRB2.out.below (hbr.alloc hbr.size _) hbb2) HB.out).mono ?_
                rintro e w13 ⟨rfl, hb13⟩
                have K1 := K0.step hb13
                obtain ⟨k1, _, e10, e11⟩ := id K1
                have hm1 := HMB2.out.below k1 hmbl
                have hm2 := HMV.out.below k1 hmvl
                clear K0 hb13
                have tok1 : True := trivial
                go_wp2_with (first | (at_lookup; have _t := tok1; refine wpList_lookIs _ rfl _ _ rfl mb vb HWB.out rfl hm1 (a, b) hw rfl (.slice ao n c) true HLW.out HHW.out ?_; clear tok1) | (at_lookup; refine wpList_lookIs _ rfl _ _ rfl mv vab HWV.out rfl hm2 (a, b) hw rfl (.slice ao n c) true HLV.out HH.out ?_))
                refine (same_any (.slice ao n c) _ (HGL.out.below k1)).mono ?_
                rintro e w14 ⟨rfl, hb14⟩
                have k2 := bt k1 hb14
                clear hb14 hm1 hm2 e10 e11 K1
                go_wp2
                go_roundw
                case rel => exact ⟨k + 1, by omega, by go_num, k2⟩
                case measure => simp [intOf]; omega
              | false =>
                have HB : Hid (hasK vb (a, b) = false) := hbq
                clear hbq
                have HLW : Hid (lastV va (a, b) = .slice ao n c) := by
                  have h1 := HLV.out
                  rw [HAB.out, lastV_app, HB.out] at h1
                  unfold Hid
                  simpa using h1
                have HHW : Hid (hasK va (a, b) = true) := by
                  have h1 := HH.out
                  rw [HAB.out, hasK_app, HB.out] at h1
                  unfold Hid
                  simpa using h1
                go_wp2_with fail
                refine (firstKey_no bb vb a b _ (by omega) (HRB2.out.below (hbr.alloc hbr.size _) hbb2) HB.out).mono ?_
                rintro e w13 ⟨rfl, hb13⟩
                have K1 := K0.step hb13
                obtain ⟨k1, _, e10, e11⟩ := id K1
                have hm1 := HMA2.out.below k1 hmal
                have hm2 := HMV.out.below k1 hmvl
                clear K0 hb13
                have tok1 : True := trivial
                go_wp2_with (first | (at_lookup; have _t := tok1; refine wpList_lookIs _ rfl _ _ rfl ma va HWA.out rfl hm1 (a, b) hw rfl (.slice ao n c) true HLW.out HHW.out ?_; clear tok1) | (at_lookup; refine wpList_lookIs _ rfl _ _ rfl mv vab HWV.out rfl hm2 (a, b) hw rfl (.slice ao n c) true HLV.out HH.out ?_))
                refine (same_any (.slice ao n c) _ (HGL.out.below k1)).mono ?_
                rintro e w14 ⟨rfl, hb14⟩
                have k2 := bt k1 hb14
                clear hb14 hm1 hm2 e10 e11 K1
                go_wp2
                go_roundw
                case rel => exact ⟨k + 1, by omega, by go_num, k2⟩
                case measure => simp [intOf]; omega
            obtain rfl : k = vab.length := by omega
            clear hk hlt
            obtain ⟨wz, rfl⟩ : ∃ wz : World, wz = wr := ⟨_, rfl⟩
            go_wp2
            go_loopw [30, 228] (fun d i wr => ∃ k : Nat, k ≤ va.length ∧ i = .int .i64 k ∧ d = .int .i64 (onlyTo va vb k : Nat) ∧ Below w12.heap.size w12 wr) (fun _ i _ => va.length - (intOf i).toNat)
            case atStart => exact ⟨0, Nat.zero_le _, rfl, rfl, hbr⟩
            case round =>
              obtain ⟨k, hk, rfl, rfl, hbr'⟩ := hrel
              by_cases hlt : k < va.length
              · have hol := only_le va vb k hk
                obtain ⟨⟨a, b⟩, hab⟩ : ∃ p : PK, p = keyAt va k := ⟨_, rfl⟩
                obtain ⟨g0, g1, _⟩ := (HRA2.out.below hbr' hba2).cells hlt
                have hab' : (va.getD k pv0).1 = (a, b) := hab.symm
                rw [hab'] at g0 g1
                have HH : Hid (hasK va (a, b) = true) := by unfold Hid; rw [hab]; exact hasK_at va k hlt
                have K0 := Kept.start hbr' a b
                obtain ⟨f, hf⟩ : ∃ f, f = fkN va (a, b) := ⟨_, rfl⟩
                have KY : Hid (f = k → hasK vb (a, b) = false → onlyTo va vb (k + 1) = onlyTo va vb k + 1) := fun h h2 => only_yes va vb k hlt (by rw [← hab, ← hf, h]) (by rw [← hab]; exact h2)
                have KN : Hid (¬ (f = k ∧ hasK vb (a, b) = false) → onlyTo va vb (k + 1) = onlyTo va vb k) := fun h => only_no va vb k hlt (by rw [← hab, ← hf]; exact h)
                obtain ⟨d, hd⟩ : ∃ d, d = onlyTo va vb k := ⟨_, rfl⟩
                rw [← hd] at KY KN hol ⊢
                have HF : Hid (f = fkN va (a, b)) := hf
                clear hab hab' hf hd
                go_wp2_with fail
                refine (firstKey_yes ba va a b _ (by omega) (HRA2.out.below (hbr'.alloc hbr'.size _) hba2) HH.out).mono ?_
                rintro e w13 ⟨rfl, hb13⟩
                have K1 := K0.step hb13
                obtain ⟨k1, _, e10, e11⟩ := id K1
                rw [← HF.out]
                clear HF K0 hb13
                by_cases hfk : f = k
                · have hfe : ((f : Int) == (k : Int)) = true := by simp [hfk]
                  cases hbq : hasK vb (a, b) with
                  | true =>
                    have HB : Hid (hasK vb (a, b) = true) := hbq
                    have HD : Hid (onlyTo va vb (k + 1) = d) := KN.out (fun h => by rw [hbq] at h; cases h.2)
                    clear hbq KY KN hfk
                    go_wp2_with fail
                    refine (firstKey_yes bb vb a b _ (by omega) (HRB2.out.below k1 hbb2) HB.out).mono ?_
                    rintro e w14 ⟨rfl, hb14⟩
                    have k2 := bt k1 hb14
                    clear hb14 K1 e10 e11
                    go_wp2
                    go_roundw
                    case rel => exact ⟨k + 1, by omega, by go_num, by rw [HD.out], k2⟩
                    case measure => simp [intOf]; omega
                  | false =>
                    have HB : Hid (hasK vb (a, b) = false) := hbq
                    have HD : Hid (onlyTo va vb (k + 1) = d + 1) := KY.out hfk hbq
                    clear hbq KY KN hfk
                    go_wp2_with fail
                    refine (firstKey_no bb vb a b _ (by omega) (HRB2.out.below k1 hbb2) HB.out).mono ?_
                    rintro e w14 ⟨rfl, hb14⟩
                    have k2 := bt k1 hb14
                    clear hb14 K1 e10 e11
                    go_wp2
                    go_roundw
                    case rel => exact ⟨k + 1, by omega, by go_num, by rw [HD.out]; go_num, k2⟩
                    case measure => simp [intOf]; omega
                · have hfe : ((f : Int) == (k : Int)) = false := by simp; omega
                  have HD : Hid (onlyTo va vb (k + 1) = d) := KN.out (fun h => hfk h.1)
                  clear KY KN hfk K1
                  go_wp2
                  go_roundw
                  case rel => exact ⟨k + 1, by omega, by go_num, by rw [HD.out], k1⟩
                  case measure => simp [intOf]; omega
              obtain rfl : k = va.length := by omega
              have hfin : (((keysOf vab).length : Int) == ((keysOf vb).length : Int) + (onlyTo va vb va.length : Int)) = true := by
                have := keys_merge va vb
                rw [← HAB.out] at this
                simp; omega
              have hk1 : (keysOf vb).length ≤ 4096 := by
                have := keys_le vb vb.length (Nat.le_refl _)
                rw [List.take_length] at this
                omega
              have hk2 := only_le va vb va.length (Nat.le_refl _)
              have hm1 := HMV.out.below hbr' hmvl
              have hm2 := HMB2.out.below hbr' hmbl
              have TF := bt T12 hbr'
              clear hk hlt
              have tok1 : True := trivial
              go_wp2_with (first | (at_len; have _t := tok1; refine wpList_mlen _ rfl _ rfl mv vab HWV.out rfl hm1 ?_; clear tok1) | (at_len; refine wpList_mlen _ rfl _ rfl mb vb HWB.out rfl hm2 ?_))
              go_ret
              exact ⟨rfl, TF⟩
end Go.Proofs.Qxb6000494a
