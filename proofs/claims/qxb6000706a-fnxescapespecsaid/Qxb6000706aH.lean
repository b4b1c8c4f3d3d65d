import Derived.Test.Qxb6000706aG
set_option linter.unusedVariables false
namespace Go.Proofs.Qxb6000706a
open Go.RowKit

/-! ### plain -/
theorem dig_of (zs : List Int) (k : Nat) (hk : k < 4) : digK (hexTo zs 4) k = hv (zAt zs (2 + k)) := by
  have h0 := hv_bd (zAt zs 2)
  have h1 := hv_bd (zAt zs 3)
  have h2 := hv_bd (zAt zs 4)
  have h3 := hv_bd (zAt zs 5)
  have e : hexTo zs 4 = ((hv (zAt zs 2) * 16 + hv (zAt zs 3)) * 16 + hv (zAt zs 4)) * 16 + hv (zAt zs 5) := by simp [hexTo]
  rw [e]
  have : k = 0 ∨ k = 1 ∨ k = 2 ∨ k = 3 := by omega
  unfold digK
  rcases this with rfl | rfl | rfl | rfl
  · show (((hv (zAt zs 2) * 16 + hv (zAt zs 3)) * 16 + hv (zAt zs 4)) * 16 + hv (zAt zs 5)) / 4096 % 16 = hv (zAt zs 2)
    omega
  · show (((hv (zAt zs 2) * 16 + hv (zAt zs 3)) * 16 + hv (zAt zs 4)) * 16 + hv (zAt zs 5)) / 256 % 16 = hv (zAt zs 3)
    omega
  · show (((hv (zAt zs 2) * 16 + hv (zAt zs 3)) * 16 + hv (zAt zs 4)) * 16 + hv (zAt zs 5)) / 16 % 16 = hv (zAt zs 4)
    omega
  · show (((hv (zAt zs 2) * 16 + hv (zAt zs 3)) * 16 + hv (zAt zs 4)) * 16 + hv (zAt zs 5)) / 1 % 16 = hv (zAt zs 5)
    omega

theorem fold_low {c : Int} (h : hb c = true) : foldC c = lowC (hv c) := by
  rcases hb_iff.1 h with ⟨h1, h2⟩ | ⟨h1, h2⟩ | ⟨h1, h2⟩
  · rw [hv_dig h1 h2]; unfold foldC lowC; rw [if_neg (by omega), if_pos (by omega)]; omega
  · rw [hv_low h1 h2]; unfold foldC lowC; rw [if_neg (by omega), if_neg (by omega)]; omega
  · rw [hv_up h1 h2]; unfold foldC lowC; rw [if_pos (by omega), if_neg (by omega)]; omega

theorem looks_at {zs : List Int} (h : looks zs = true) (k : Nat) (hk : k < 4) : hb (zAt zs (2 + k)) = true := by
  have ha : allTo zs 4 = true := by
    unfold looks at h
    rw [Bool.and_eq_true] at h
    exact h.2
  cases e : hb (zAt zs (2 + k)) with
  | true => rfl
  | false => rw [allTo_bad hk e] at ha; cases ha

theorem looks_len {zs : List Int} (h : looks zs = true) : 7 ≤ zs.length := by
  unfold looks at h
  rw [Bool.and_eq_true] at h
  exact (of_decide_eq_true h.1).1

theorem spec_at {zs : List Int} (h : looks zs = true) (k : Nat) (hk : k < 4) : foldC (zAt zs (2 + k)) = lowC (digK (hexTo zs 4) k) := by
  rw [dig_of zs k hk, fold_low (looks_at h k hk)]

theorem zz16_big (a : Option Addr) (len cap : Nat) (w : World) (h : 1048576 < len) (hm : len ≤ maxLen) :
    Calls Try.prog 16 #[.slice a len cap] w fun e w' => e = .returned (.bool false) ∧ w' = w := by
  unfold maxLen at hm
  go_enter Try.func16, Try.ntmps16
  go_wp2
  go_ret
  exact ⟨rfl, rfl⟩

theorem zz16_ok (a : Option Addr) (len cap : Nat) (w : World) (h : len ≤ 1048576) :
    Calls Try.prog 16 #[.slice a len cap] w fun e w' => e = .returned (.bool true) ∧ w' = w := by
  go_enter Try.func16, Try.ntmps16
  go_wp2
  go_ret
  exact ⟨rfl, rfl⟩

theorem Try.info5 : (Try.prog.info? 5).map (fun i => (i.zero, i.size, i.bytes)) = some (some (.int .u8 0), 1, 1) := by kernel_rfl
theorem Try.size5 : (Try.prog.info? 5).map (·.size) = some 1 := by kernel_rfl

theorem xs_big (a : Option Addr) (len cap : Nat) (w : World) (h : 1048576 < len) (hm : len ≤ maxLen) :
    Calls Try.prog 6 #[.slice a len cap] w fun e w' => e = .returned (.bool true) ∧ Below w.heap.size w w' := by
  go_enter Try.func6, Try.ntmps6
  go_wp2_with fail
  refine (zz16_big _ _ _ _ h hm).mono ?_
  rintro e w' ⟨rfl, rfl⟩
  go_wp2
  go_ret
  exact ⟨rfl, Below.refl _ _⟩

theorem made_list (w : World) (n : Nat) : (w.alloc (.cells (madeCells #[.int .u8 0] n) 5)).heap[w.heap.size]? = some (.cells ((madeCells #[.int .u8 0] n).toList).toArray 5 (0, 0)) := by
  rw [Deep.blk_alloc_new]

theorem splice_all (cur cs : List Value) (h : cur.length = cs.length) : splice cur 0 cs = cs := by
  unfold splice
  simp [← h]

set_option maxHeartbeats 1000000 in
theorem xs_some (x : Addr) (cap : Nat) (zs : List Int) (w : World) (hl : zs.length ≤ 1048576) (hr : Rd .u8 w (some x) zs) (hw : wfL .u8 zs) :
    Calls Try.prog 6 #[.slice (some x) zs.length cap] w fun e w' => e = .returned (.bool true) ∧ Below w.heap.size w w' := by
  have HR : Hid (Rd .u8 w (some x) zs) := hr
  have HW : Hid (wfL .u8 zs) := hw
  clear hr hw
  have hmk := run_make_row' (P := Try.prog) 22 5 (.int .u8 0) 1 Try.underlying22 Try.info5 rfl .i64 .i64 zs.length (by omega) (by omega)
  have q22 : ∀ (w : World) (a : Option Addr) (n c n' c' : Nat), (binOp .neq 22 (.slice a n c) (.slice none n' c')).run Try.prog w = .ok (.bool (!a.isNone)) w := fun w a n c n' c' => run_neq_slice_nil_any w _ _ a n c n' c' Try.underlying22
  obtain ⟨CS, hCS⟩ : ∃ CS, CS = zs.map (Value.int .u8) := ⟨_, rfl⟩
  obtain ⟨CU, hCU⟩ : ∃ CU, CU = (madeCells #[.int .u8 0] zs.length).toList := ⟨_, rfl⟩
  have HCS : Hid (CS = zs.map (Value.int .u8)) := hCS
  have HCU : Hid (CU = (madeCells #[.int .u8 0] zs.length).toList) := hCU
  have lCS : CS.length = zs.length := by rw [hCS]; simp
  have lCU : CU.length = zs.length := by rw [hCU]; simp [size_madeCells]
  have HL : Hid (CS.length = zs.length ∧ CU.length = zs.length) := ⟨lCS, lCU⟩
  clear hCS hCU lCS lCU
  go_enter Try.func6, Try.ntmps6
  go_wp2_with fail
  refine (zz16_ok _ _ _ _ hl).mono ?_
  rintro e w' ⟨rfl, rfl⟩
  go_wp2_with (refine wpList_copy_splice rfl (.tmp 18) (.tmp 19) 22 22 rfl 5 Try.underlying22 Try.size5 _ _ _ _ _ _ rfl rfl w'.heap.size 0 CU 5 ?hg CS ?hn ?hpos ?hfit ?h1 w'.heap.size w' ?hb ?hBg ?_)
  case hg => rw [made_list, HCU.out]
  case hn => rw [HL.out.1]; exact (Nat.min_self _).symm
  case hpos =>
    intro _ j v hj
    rw [HCS.out] at hj
    have hj' : j < zs.length := by
      have := (List.getElem?_eq_some_iff.1 hj).1
      simpa using this
    obtain ⟨b, off, e, hc⟩ := HR.out j hj'
    obtain rfl := Option.some.inj e
    rw [Addr.add_lit, ((Below.refl w'.heap.size w').alloc (Nat.le_refl _) _).cell (by exact World.block_lt_of_cell? w' _ hc), hc]
    simpa [List.getD, hj'] using hj
  case hfit => have := HL.out; omega
  case h1 => rw [HCS.out]; exact ints_oneCell _ _
  case hb => exact (Below.refl _ _).alloc (Nat.le_refl _) _
  case hBg => exact Nat.le_refl _
  intro w2 hg2 hb2
  have R1 : Hid (Rd .u8 w2 (some ⟨w'.heap.size, 0, none⟩) zs) := by
    have h := hg2.out
    rw [splice_all _ _ (by have := HL.out; omega), HCS.out] at h
    exact Rd.of_block h
  clear hg2 HR HCS HCU HL hmk q22
  go_wp2_with fail
  refine (zzxe_any _ _ zs _ (by omega) (Nat.le_refl _) R1.out HW.out).mono ?_
  rintro e w3 (⟨h, rfl, rfl⟩ | ⟨h, rfl, rfl⟩)
  · have HL : Hid (looks zs = true) := h
    clear h
    obtain ⟨r0, r1⟩ := hexTo_hi zs
    have HS : Hid (∀ k, k < 4 → foldC (zAt zs (2 + k)) = lowC (digK (hexTo zs 4) k)) := spec_at HL.out
    obtain ⟨r, hr⟩ : ∃ r, r = hexTo zs 4 := ⟨_, rfl⟩
    rw [← hr] at r0 r1 HS ⊢
    clear hr
    have h7 := looks_len HL.out
    go_wp2_with fail
    refine (lk_any _ _ zs _ (by omega) (Nat.le_refl _) R1.out HW.out).mono ?_
    rintro e w4 ⟨rfl, rfl⟩
    rw [HL.out]
    go_wp2
    go_loop [6] (fun i => ∃ k : Nat, k ≤ 4 ∧ i = .int .i64 k) (fun i => 4 - (intOf i).toNat)
    case atStart => exact ⟨0, Nat.zero_le _, rfl⟩
    case round =>
      obtain ⟨k, hk, rfl⟩ := hrel
      by_cases hlt : k < 4
      · obtain ⟨b, off, e1, g⟩ := R1.out (2 + k) (by omega)
        simp only [Option.some.injEq, Addr.mk.injEq, and_true] at e1
        obtain ⟨rfl, rfl⟩ := e1
        rw [Nat.zero_add] at g
        obtain ⟨c0, c1⟩ := u8_bd (HW.out _ (getD_mem zs (2 + k) (by omega)))
        have HE : Hid (foldC (zs.getD (2 + k) 0) = lowC (digK r k)) := HS.out k hlt
        obtain ⟨c, hc⟩ : ∃ c, c = zs.getD (2 + k) 0 := ⟨_, rfl⟩
        rw [← hc] at g c0 c1 HE
        clear hc
        go_wp2_with fail
        refine (fold_any c _ c0 c1).mono ?_
        rintro e w5 ⟨rfl, rfl⟩
        go_wp2_with fail
        refine (hexLower_any r k hlt _ r0 r1).mono ?_
        rintro e w5 ⟨rfl, rfl⟩
        rw [HE.out]
        go_wp2
        go_round
        case rel => exact ⟨k + 1, by omega, by go_num⟩
        case measure => simp [intOf]; omega
      · go_wp2
        go_ret
        exact ⟨rfl, hb2⟩
  · have HL : Hid (looks zs = false) := h
    clear h
    go_wp2_with fail
    refine (lk_any _ _ zs _ (by omega) (Nat.le_refl _) R1.out HW.out).mono ?_
    rintro e w4 ⟨rfl, rfl⟩
    rw [HL.out]
    go_wp2
    go_ret
    exact ⟨rfl, hb2⟩

set_option maxHeartbeats 1000000 in
theorem xs_nil (cap : Nat) (w : World) :
    Calls Try.prog 6 #[.slice none 0 cap] w fun e w' => e = .returned (.bool true) ∧ Below w.heap.size w w' := by
  have q22 : ∀ (w : World) (a : Option Addr) (n c n' c' : Nat), (binOp .neq 22 (.slice a n c) (.slice none n' c')).run Try.prog w = .ok (.bool (!a.isNone)) w := fun w a n c n' c' => run_neq_slice_nil_any w _ _ a n c n' c' Try.underlying22
  go_enter Try.func6, Try.ntmps6
  go_wp2_with fail
  refine (zz16_ok _ _ _ _ (by omega)).mono ?_
  rintro e w' ⟨rfl, rfl⟩
  go_wp2_with fail
  refine (zzxe_any none cap [] _ (by simp) (by simp) (fun i hi => absurd hi (by simp)) (fun n hn => by simp at hn)).mono ?_
  rintro e w3 (⟨h, rfl, rfl⟩ | ⟨h, rfl, rfl⟩)
  · cases h
  · clear h
    go_wp2_with fail
    refine (lk_any none cap [] _ (by simp) (by simp) (fun i hi => absurd hi (by simp)) (fun n hn => by simp at hn)).mono ?_
    rintro e w4 ⟨rfl, rfl⟩
    have e0 : looks [] = false := rfl
    rw [e0]
    clear e0
    go_wp2
    go_ret
    exact ⟨rfl, Below.refl _ _⟩

end Go.Proofs.Qxb6000706a
