import Derived.Test.Qxb6000706aB
set_option linter.unusedVariables false
namespace Go.Proofs.Qxb6000706a
open Go.RowKit

theorem zz8_big (a : Option Addr) (len cap : Nat) (w : World) (h : 1048576 < len) (hm : len ≤ maxLen) :
    Calls Try.prog 8 #[.slice a len cap] w fun e w' => e = .returned (.bool false) ∧ w' = w := by
  unfold maxLen at hm
  go_enter Try.func8, Try.ntmps8
  go_wp2
  go_ret
  exact ⟨rfl, rfl⟩

theorem zz8_ok (a : Option Addr) (len cap : Nat) (w : World) (h : len ≤ 1048576) :
    Calls Try.prog 8 #[.slice a len cap] w fun e w' => e = .returned (.bool true) ∧ w' = w := by
  go_enter Try.func8, Try.ntmps8
  go_wp2
  go_ret
  exact ⟨rfl, rfl⟩

theorem Try.info5 : (Try.prog.info? 5).map (fun i => (i.zero, i.size, i.bytes)) = some (some (.int .u8 0), 1, 1) := by kernel_rfl
theorem Try.size5 : (Try.prog.info? 5).map (·.size) = some 1 := by kernel_rfl

theorem pd_big (a : Option Addr) (len cap : Nat) (w : World) (h : 1048576 < len) (hm : len ≤ maxLen) :
    Calls Try.prog 3 #[.slice a len cap] w fun e w' => e = .returned (.bool true) ∧ Below w.heap.size w w' := by
  go_enter Try.func3, Try.ntmps3
  go_wp2_with fail
  refine (zz8_big _ _ _ _ h hm).mono ?_
  rintro e w' ⟨rfl, rfl⟩
  go_wp2
  go_ret
  exact ⟨rfl, Below.refl _ _⟩

theorem made_list (w : World) (n : Nat) : (w.alloc (.cells (madeCells #[.int .u8 0] n) 5)).heap[w.heap.size]? = some (.cells ((madeCells #[.int .u8 0] n).toList).toArray 5 (0, 0)) := by
  rw [Deep.blk_alloc_new]

theorem splice_all (cur cs : List Value) (h : cur.length = cs.length) : splice cur 0 cs = cs := by
  unfold splice
  simp [← h]

def wantB (lb : Bool) (zs : List Int) (k : Nat) : Bool := lb && (zs.take k).all isD

set_option maxHeartbeats 1000000 in
theorem pd_some (x : Addr) (cap : Nat) (zs : List Int) (w : World) (hl : zs.length ≤ 1048576) (hr : Rd .u8 w (some x) zs) (hw : wfL .u8 zs) :
    Calls Try.prog 3 #[.slice (some x) zs.length cap] w fun e w' => e = .returned (.bool true) ∧ Below w.heap.size w w' := by
  have HR : Hid (Rd .u8 w (some x) zs) := hr
  have HW : Hid (wfL .u8 zs) := hw
  clear hr hw
  have hmk := run_make_row' (P := Try.prog) 22 5 (.int .u8 0) 1 Try.underlying22 Try.info5 rfl .i64 .i64 zs.length (by omega) (by omega)
  have q22 : ∀ (w : World) (a : Option Addr) (n c n' c' : Nat), (binOp .neq 22 (.slice a n c) (.slice none n' c')).run Try.prog w = .ok (.bool (!a.isNone)) w := fun w a n c n' c' => run_neq_slice_nil_any w _ _ a n c n' c' Try.underlying22
  obtain ⟨CS, hCS⟩ : ∃ CS, CS = zs.map (Value.int .u8) := ⟨_, rfl⟩
  obtain ⟨CU, hCU⟩ : ∃ CU, CU = (madeCells #[.int .u8 0] zs.length).toList := ⟨_, rfl⟩
  have HCS : Hid (CS = zs.map (Value.int .u8)) := hCS
  have HCU : Hid (CU = (madeCells #[.int .u8 0] zs.length).toList) := hCU
  have lCS : CS.length = zs.length := by rw [hCS]; simp
  have lCU : CU.length = zs.length := by rw [hCU]; simp [size_madeCells]
  have HL : Hid (CS.length = zs.length ∧ CU.length = zs.length) := ⟨lCS, lCU⟩
  clear hCS hCU lCS lCU
  go_enter Try.func3, Try.ntmps3
  go_wp2_with fail
  refine (zz8_ok _ _ _ _ hl).mono ?_
  rintro e w' ⟨rfl, rfl⟩
  go_wp2_with (refine wpList_copy_splice rfl (.tmp 19) (.tmp 20) 22 22 rfl 5 Try.underlying22 Try.size5 _ _ _ _ _ _ rfl rfl w'.heap.size 0 CU 5 ?hg CS ?hn ?hpos ?hfit ?h1 w'.heap.size w' ?hb ?hBg ?_)
  case hg => rw [made_list, HCU.out]
  case hn => rw [HL.out.1]; exact (Nat.min_self _).symm
  case hpos =>
    intro _ j v hj
    rw [HCS.out] at hj
    have hj' : j < zs.length := by
      have := (List.getElem?_eq_some_iff.1 hj).1
      simpa using this
    obtain ⟨b, off, e, hc⟩ := HR.out j hj'
    obtain rfl := Option.some.inj e
    rw [Addr.add_lit, ((Below.refl w'.heap.size w').alloc (Nat.le_refl _) _).cell (by exact World.block_lt_of_cell? w' _ hc), hc]
    simpa [List.getD, hj'] using hj
  case hfit => have := HL.out; omega
  case h1 => rw [HCS.out]; exact ints_oneCell _ _
  case hb => exact (Below.refl _ _).alloc (Nat.le_refl _) _
  case hBg => exact Nat.le_refl _
  intro w2 hg2 hb2
  have R1 : Hid (Rd .u8 w2 (some ⟨w'.heap.size, 0, none⟩) zs) := by
    have h := hg2.out
    rw [splice_all _ _ (by have := HL.out; omega), HCS.out] at h
    exact Rd.of_block h
  clear hg2 HR HCS HCU HL hmk q22
  go_wp2_with fail
  refine (zzplain_any _ _ zs _ hl R1.out HW.out).mono ?_
  rintro e w3 ⟨v, rfl, rfl, hv0, hv1, hv2⟩
  have HV : Hid (okDig zs = false → v = 0) := hv0
  clear hv0
  have cs : (zs.length = 0 ∧ lenB zs.length = false) ∨ (1 ≤ zs.length ∧ zs.length ≤ 18 ∧ lenB zs.length = true) ∨ (18 < zs.length ∧ lenB zs.length = false) := by
    unfold lenB
    by_cases h1 : zs.length = 0
    · left; simp [h1]
    · by_cases h2 : zs.length ≤ 18
      · right; left; simp [h2]; omega
      · right; right; simp; omega
  obtain ⟨lb, hlb⟩ : ∃ lb, lb = lenB zs.length := ⟨_, rfl⟩
  have HOK : Hid (wantB lb zs zs.length = okDig zs) := by unfold Hid wantB okDig; rw [hlb, List.take_length]
  rw [← hlb] at cs
  clear hlb
  rcases cs with ⟨hlen, rfl⟩ | ⟨hlen, hlen', rfl⟩ | ⟨hlen, rfl⟩
  · have hd : decide ((1 : Int) ≤ (zs.length : Int)) = false := by simp; omega
    go_wp2
    go_loop [6, 7] (fun t i => ∃ k : Nat, k ≤ zs.length ∧ i = .int .i64 k ∧ t = .bool (wantB false zs k)) (fun _ i => zs.length - (intOf i).toNat)
    case atStart => exact ⟨0, Nat.zero_le _, rfl, by simp [wantB] <;> omega⟩
    case round =>
      obtain ⟨k, hk, rfl, rfl⟩ := hrel
      by_cases hlt : k < zs.length
      · exact absurd hlt (by omega)
      · obtain rfl : k = zs.length := by omega
        rw [HOK.out]
        obtain ⟨o, ho⟩ : ∃ o, o = okDig zs := ⟨_, rfl⟩
        rw [← ho] at HV ⊢
        clear ho HOK
        cases o
        · obtain rfl := HV.out rfl
          go_wp2
          go_ret
          exact ⟨rfl, hb2⟩
        · go_wp2
          go_ret
          exact ⟨rfl, hb2⟩
  · go_wp2
    go_loop [6, 7] (fun t i => ∃ k : Nat, k ≤ zs.length ∧ i = .int .i64 k ∧ t = .bool (wantB true zs k)) (fun _ i => zs.length - (intOf i).toNat)
    case atStart => exact ⟨0, Nat.zero_le _, rfl, by simp [wantB] <;> omega⟩
    case round =>
      obtain ⟨k, hk, rfl, rfl⟩ := hrel
      by_cases hlt : k < zs.length
      · obtain ⟨b, off, e1, g⟩ := R1.out k hlt
        simp only [Option.some.injEq, Addr.mk.injEq, and_true] at e1
        obtain ⟨rfl, rfl⟩ := e1
        rw [Nat.zero_add] at g
        have HS : Hid (wantB true zs (k + 1) = (wantB true zs k && isD (zs.getD k 0))) := by unfold Hid wantB; rw [all_snoc zs k hlt, Bool.and_assoc]
        obtain ⟨c, hc⟩ : ∃ c, c = zs.getD k 0 := ⟨_, rfl⟩
        rw [← hc] at g HS
        clear hc
        go_wp2_with fail
        refine (isDigit_any c _).mono ?_
        rintro e w4 ⟨rfl, rfl⟩
        obtain ⟨d, hd'⟩ : ∃ d, d = isD c := ⟨_, rfl⟩
        rw [← hd'] at HS ⊢
        clear hd'
        cases d
        all_goals
          go_wp2
          go_round
          case rel => exact ⟨k + 1, by omega, by go_num, by rw [HS.out]; simp⟩
          case measure => simp [intOf]; omega
      · obtain rfl : k = zs.length := by omega
        rw [HOK.out]
        obtain ⟨o, ho⟩ : ∃ o, o = okDig zs := ⟨_, rfl⟩
        rw [← ho] at HV ⊢
        clear ho HOK
        cases o
        · obtain rfl := HV.out rfl
          go_wp2
          go_ret
          exact ⟨rfl, hb2⟩
        · go_wp2
          go_ret
          exact ⟨rfl, hb2⟩
  · go_wp2
    go_loop [6, 7] (fun t i => ∃ k : Nat, k ≤ zs.length ∧ i = .int .i64 k ∧ t = .bool (wantB false zs k)) (fun _ i => zs.length - (intOf i).toNat)
    case atStart => exact ⟨0, Nat.zero_le _, rfl, by simp [wantB] <;> omega⟩
    case round =>
      obtain ⟨k, hk, rfl, rfl⟩ := hrel
      by_cases hlt : k < zs.length
      · obtain ⟨b, off, e1, g⟩ := R1.out k hlt
        simp only [Option.some.injEq, Addr.mk.injEq, and_true] at e1
        obtain ⟨rfl, rfl⟩ := e1
        rw [Nat.zero_add] at g
        have HS : Hid (wantB false zs (k + 1) = (wantB false zs k && isD (zs.getD k 0))) := by unfold Hid wantB; rw [all_snoc zs k hlt, Bool.and_assoc]
        obtain ⟨c, hc⟩ : ∃ c, c = zs.getD k 0 := ⟨_, rfl⟩
        rw [← hc] at g HS
        clear hc
        go_wp2_with fail
        refine (isDigit_any c _).mono ?_
        rintro e w4 ⟨rfl, rfl⟩
        obtain ⟨d, hd'⟩ : ∃ d, d = isD c := ⟨_, rfl⟩
        rw [← hd'] at HS ⊢
        clear hd'
        cases d
        all_goals
          go_wp2
          go_round
          case rel => exact ⟨k + 1, by omega, by go_num, by rw [HS.out]; simp⟩
          case measure => simp [intOf]; omega
      · obtain rfl : k = zs.length := by omega
        rw [HOK.out]
        obtain ⟨o, ho⟩ : ∃ o, o = okDig zs := ⟨_, rfl⟩
        rw [← ho] at HV ⊢
        clear ho HOK
        cases o
        · obtain rfl := HV.out rfl
          go_wp2
          go_ret
          exact ⟨rfl, hb2⟩
        · go_wp2
          go_ret
          exact ⟨rfl, hb2⟩
end Go.Proofs.Qxb6000706a
