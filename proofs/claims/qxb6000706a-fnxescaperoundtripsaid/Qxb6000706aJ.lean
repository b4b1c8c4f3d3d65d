import Derived.Test.Qxb6000706aI
set_option linter.unusedVariables false
namespace Go.Proofs.Qxb6000706a
open Go.RowKit

theorem zz13_big (v u : Int) (a : Option Addr) (len cap : Nat) (w : World) (h : 1048576 < len) (hm : len ≤ maxLen) :
    Calls Try.prog 13 #[.int .u16 v, .int .u8 u, .slice a len cap] w fun e w' => e = .returned (.bool false) ∧ w' = w := by
  unfold maxLen at hm
  go_enter Try.func13, Try.ntmps13
  go_wp2
  go_ret
  exact ⟨rfl, rfl⟩

theorem zz13_ok (v u : Int) (a : Option Addr) (len cap : Nat) (w : World) (h : len ≤ 1048576) :
    Calls Try.prog 13 #[.int .u16 v, .int .u8 u, .slice a len cap] w fun e w' => e = .returned (.bool true) ∧ w' = w := by
  go_enter Try.func13, Try.ntmps13
  go_wp2
  go_ret
  exact ⟨rfl, rfl⟩

theorem rt_big (v u : Int) (a : Option Addr) (len cap : Nat) (w : World) (h : 1048576 < len) (hm : len ≤ maxLen) :
    Calls Try.prog 5 #[.int .u16 v, .int .u8 u, .slice a len cap] w fun e w' => e = .returned (.bool true) ∧ Below w.heap.size w w' := by
  go_enter Try.func5, Try.ntmps5
  go_wp2_with fail
  refine (zz13_big _ _ _ _ _ _ h hm).mono ?_
  rintro e w' ⟨rfl, rfl⟩
  go_wp2
  go_ret
  exact ⟨rfl, Below.refl _ _⟩

set_option maxHeartbeats 2000000 in
theorem rt_main (v u : Int) (ao : Option Addr) (cap : Nat) (zs : List Int) (w : World) (v0 : 0 ≤ v) (v1 : v ≤ 65535) (u0 : 0 ≤ u) (u1 : u ≤ 255) (hl : zs.length ≤ 1048576) (hr : Rd .u8 w ao zs) (hw : wfL .u8 zs) :
    Calls Try.prog 5 #[.int .u16 v, .int .u8 u, .slice ao zs.length cap] w fun e w' => e = .returned (.bool true) ∧ Below w.heap.size w w' := by
  have HR : Hid (Rd .u8 w ao zs) := hr
  have HW : Hid (wfL .u8 zs) := hw
  clear hr hw
  obtain ⟨i0, hi, hz0, hz1, hz2⟩ := info_parts Try.info5r
  go_enter Try.func5, Try.ntmps5
  go_wp2_with fail
  refine (zz13_ok _ _ _ _ _ _ hl).mono ?_
  rintro e w' ⟨rfl, rfl⟩
  go_wp2_with (at_make; refine wpList_make_own _ rfl _ _ 22 rfl w'.heap.size 5 i0 (.int .u8 0) 1 Try.underlying22 hi hz0 hz1 _ _ _ (7 + zs.length) rfl rfl (by omega) ?b1 ?b2 ?b3 ?_)
  case b1 => rw [hz2]; omega
  case b2 => unfold maxLen; omega
  case b3 => exact Nat.le_refl _
  intro w1 hown hgrow
  have S0 : Hid (St w' w'.heap.size (7 + zs.length) w1 []) := ⟨hown, (Below.refl _ _).grown hgrow (Nat.le_refl _) (fun k hk => by cases hk), (hown.lt _ rfl).2⟩
  clear hown hgrow
  go_wp2_with (at_builtin; refine wpList_push rfl (.tmp 25) (.tmp 26) rfl w'.heap.size (7 + zs.length) [] 95 rfl rfl S0.out ?f1 ?_)
  case f1 => simp; omega
  intro w2 L1 HL1 S1
  have T1 : Hid (St w' w'.heap.size (7 + zs.length) w2 L1) := S1
  clear S1 S0
  go_wp2_with (at_builtin; refine wpList_push rfl (.tmp 28) (.tmp 29) rfl w'.heap.size (7 + zs.length) L1 120 rfl rfl T1.out ?f2 ?_)
  case f2 => rw [HL1.out]; simp; omega
  intro w3 L2 HL2 S2
  have HG2 : Hid (Good v L2 0) := by
    have e := HL2.out
    rw [HL1.out] at e
    rw [e]; exact good_start v
  have T2 : Hid (St w' w'.heap.size (7 + zs.length) w3 L2) := S2
  clear S2 T1 HL1 HL2
  go_wp2
  go_loopw [7, 8] (fun t i wr => ∃ (k : Nat) (L : List Int), k ≤ 4 ∧ i = .int .i64 k ∧ t = .slice (some ⟨w'.heap.size, 0, none⟩) L.length (7 + zs.length) ∧ Hid (St w' w'.heap.size (7 + zs.length) wr L) ∧ Hid (Good v L k)) (fun _ i _ => 4 - (intOf i).toNat)
  case atStart => exact ⟨0, L2, Nat.zero_le _, rfl, rfl, T2, HG2⟩
  case round =>
    obtain ⟨k, L, hk, rfl, rfl, T, HG⟩ := hrel
    by_cases hlt : k < 4
    · obtain ⟨d0, d1⟩ := dig_bd v k
      obtain ⟨q1, q2, q3, q4⟩ := low_hex d0 d1
      have HQ : Hid (hb (lowC (digK v k)) = true ∧ hv (lowC (digK v k)) = digK v k) := ⟨q1, q2⟩
      have HU : Hid (∀ c, c = lowC (digK v k) → 97 ≤ c → hb (c - 32) = true ∧ hv (c - 32) = digK v k) := fun c hc h => up_hex d0 d1 hc h
      clear q1 q2 d0 d1
      go_wp2_with fail
      refine (hexLower_any v k hlt _ v0 v1).mono ?_
      rintro e w4 ⟨rfl, rfl⟩
      obtain ⟨c, hc⟩ : ∃ c, c = lowC (digK v k) := ⟨_, rfl⟩
      have HC : Hid (c = lowC (digK v k)) := hc
      rw [← hc] at q3 q4 HQ ⊢
      clear hc
      have fit : L.length + 1 ≤ 7 + zs.length := by have := HG.out.len; omega
      have HN : Hid (∀ L', L' = L ++ [c] → Good v L' (k + 1)) := fun L' e => by rw [e]; exact HG.out.snoc (by omega) (by omega) HQ.out.1 HQ.out.2
      have HM : Hid (97 ≤ c → ∀ L', L' = L ++ [c - 97 + 65] → Good v L' (k + 1)) := fun h L' e => by
        rw [e, show c - 97 + 65 = c - 32 by omega]
        have := HU.out c HC.out h
        exact HG.out.snoc (by omega) (by omega) this.1 this.2
      clear HQ HU HC
      go_wp2_with (at_builtin; refine wpList_push rfl (.tmp 51) (.tmp 53) rfl w'.heap.size (7 + zs.length) L _ rfl rfl T.out fit ?_; intro w5 L' HL' S')
      · go_roundw
        case rel => exact ⟨k + 1, L', by omega, by go_num, rfl, S', HN.out L' HL'.out⟩
        case measure => simp [intOf]; omega
      · have hx : (bits BinOp.and IntKind.u8 u (2 ^ k % 256) != 0) = true ∧ 97 ≤ c := by assumption
        go_roundw
        case rel => exact ⟨k + 1, L', by omega, by go_num, rfl, S', HM.out hx.2 L' HL'.out⟩
        case measure => simp [intOf]; omega
      · go_roundw
        case rel => exact ⟨k + 1, L', by omega, by go_num, rfl, S', HN.out L' HL'.out⟩
        case measure => simp [intOf]; omega
    · obtain rfl : k = 4 := by omega
      have fit : L.length + 1 ≤ 7 + zs.length := by have := HG.out.len; omega
      clear hk hlt
      go_wp2_with (at_builtin; refine wpList_push rfl (.tmp 55) (.tmp 56) rfl w'.heap.size (7 + zs.length) L 95 rfl rfl T.out fit ?_)
      intro w5 L3 HL3 S3
      have HG3 : Hid (Good7 v L3 0) := by rw [HL3.out]; exact HG.out.seven v0 v1
      have T3 : Hid (St w' w'.heap.size (7 + zs.length) w5 L3) := S3
      clear S3 HL3 HG T fit
      go_wp2
      go_loopw [7, 10] (fun t i wr => ∃ (k : Nat) (L : List Int), k ≤ zs.length ∧ i = .int .i64 k ∧ t = .slice (some ⟨w'.heap.size, 0, none⟩) L.length (7 + zs.length) ∧ Hid (St w' w'.heap.size (7 + zs.length) wr L) ∧ Hid (Good7 v L k)) (fun _ i _ => zs.length - (intOf i).toNat)
      case atStart => exact ⟨0, L3, Nat.zero_le _, rfl, rfl, T3, HG3⟩
      case round =>
        obtain ⟨k, L', hk, rfl, rfl, T', HG'⟩ := hrel
        by_cases hlt : k < zs.length
        · obtain ⟨b, off, rfl, hc⟩ := HR.out k hlt
          have g : wr.cell? ⟨b, off + k, none⟩ = some (.int .u8 (zs.getD k 0)) := (T'.out.2.1.cell (by exact World.block_lt_of_cell? w' _ hc)).trans hc
          obtain ⟨c0, c1⟩ := u8_bd (HW.out _ (getD_mem zs k hlt))
          obtain ⟨c, hcc⟩ : ∃ c, c = zs.getD k 0 := ⟨_, rfl⟩
          rw [← hcc] at g c0 c1
          clear hcc hc
          have fit : L'.length + 1 ≤ 7 + zs.length := by have := HG'.out.len; omega
          go_wp2_with (at_builtin; refine wpList_push rfl (.tmp 64) (.tmp 69) rfl w'.heap.size (7 + zs.length) L' c rfl rfl T'.out fit ?_)
          intro w6 L4 HL4 S4
          have HG4 : Hid (Good7 v L4 (k + 1)) := by rw [HL4.out]; exact HG'.out.snoc c0 c1
          have T4 : Hid (St w' w'.heap.size (7 + zs.length) w6 L4) := S4
          clear S4 HL4 g
          go_wp2
          go_roundw
          case rel => exact ⟨k + 1, L4, by omega, by go_num, rfl, T4, HG4⟩
          case measure => simp [intOf]; omega
        · obtain rfl : k = zs.length := by omega
          clear hk hlt
          go_wp2_with fail
          refine (zzxe_any _ _ L' _ (by have := HG'.out.len; omega) (by have := HG'.out.len; omega) T'.out.rd HG'.out.wf).mono ?_
          rintro e w7 (⟨h, rfl, rfl⟩ | ⟨h, rfl, rfl⟩)
          · rw [HG'.out.val]
            clear h
            go_wp2
            go_ret
            exact ⟨rfl, T'.out.2.1⟩
          · rw [HG'.out.lk] at h
            cases h
end Go.Proofs.Qxb6000706a
