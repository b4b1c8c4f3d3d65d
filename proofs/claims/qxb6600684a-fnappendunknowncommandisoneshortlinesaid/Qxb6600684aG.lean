import Derived.Test.Qxb6600684aF
import Derived.Laws.AppendOwnNone
set_option linter.unusedVariables false
namespace Go.Proofs.Qxb6600684a
open Go.RowKit

set_option maxHeartbeats 1000000 in
theorem err_any (v : Value) (xs : List Int) (s : ByteArray) (w : World) (hl : xs.length ≤ 1048576) (hs : s.size ≤ 1048576) (hv : CV 0 w v xs) :
    Calls Try.prog 31 #[v, .string s] w (LineTo w.heap.size w (xs ++ [45]) s.size) := by
  obtain ⟨ao, rfl, hr, hsh⟩ := hv.shape
  have HR : Hid (Rd .u8 w ao xs) := hr
  have HN : Hid (ao = none → xs.length = 0 ∧ xs.length = 0) := fun h => by
    subst h
    rw [Rd.nil hr]; exact ⟨rfl, rfl⟩
  have HSH : Hid (ao = none ∨ ∃ g, ao = some ⟨g, 0, none⟩) := hsh
  clear hr hv hsh
  obtain ⟨i0, hi, hz0, hz1, hz2⟩ := info_parts Try.info5
  go_enter Try.func31, Try.ntmps31
  go_wp2_with (at_builtin; refine wpList_append_grows _ rfl _ _ 22 rfl 5 i0 (.int .u8 0) 1 1 Try.underlying22 hi hz0 hz1 hz2 rfl (by decide) _ _ _ (xs.map (Value.int .u8)) rfl HN.out ?q1 ?q2 ⟨w.heap.size, 0, none⟩ 1 1 [.int .u8 45] rfl rfl (cell_one_new _ _ _) (ints_oneCell .u8 [45]) ?q3 ?q4 ?q5 ?_)
  case q1 => simp
  case q2 =>
    intro b hb j u hu
    have hj : j < xs.length := by
      have := (List.getElem?_eq_some_iff.1 hu).1
      simpa using this
    obtain ⟨b', off, e, hc⟩ := HR.out j hj
    rw [hb] at e
    obtain rfl := Option.some.inj e
    rw [Addr.add_lit, ((Below.refl w.heap.size w).alloc (Nat.le_refl _) _).cell (by exact World.block_lt_of_cell? w _ hc), hc]
    simpa [List.getD, hj] using hu
  case q3 => omega
  case q4 => unfold maxLen; omega
  case q5 => omega
  intro v1 w1 h1 h2
  have HO : Hid (Own w.heap.size w1 v1 (xs ++ [45])) := by
    have : Own (w.heap.size + 1) w1 v1 (xs ++ [45]) := by
      unfold Own
      rw [List.length_append, List.map_append]
      exact h1
    exact this.mono (Nat.le_succ _)
  have hb1 : Below w.heap.size w w1 := ((Below.refl w.heap.size w).alloc (Nat.le_refl _) _).grown h2 (by simp) (fun k hk => by cases hk)
  have hB1 := hb1.size
  clear h1 h2 HR HN HSH
  go_wp2_with fail
  refine (line_any w.heap.size v1 (xs ++ [45]) s _ (by simp) (by simp; omega) (by omega) hB1 HO.out).mono ?_
  rintro e w2 ⟨v2, Y, rfl, hy1, hy2, ho, hb2⟩
  have HF : Hid (Y.length = s.size ∧ (∀ j, j < s.size → noCR (Y.getD j 0)) ∧ Own w.heap.size w2 v2 (xs ++ [45] ++ Y ++ [13, 10])) := ⟨hy1, hy2, ho⟩
  have hb3 := hb1.trans hb2
  clear hy1 hy2 ho hb2 hb1 HO
  go_wp2
  go_ret
  exact ⟨v2, Y, rfl, HF.out.1, HF.out.2.1, HF.out.2.2, hb3⟩

theorem own_conv {B : Nat} {w : World} {g cap m : Nat} {L : List Int} (h : Own B w (.slice (some ⟨g, 0, none⟩) m cap) L) (hm : L.length = m) :
    ∃ S : ByteArray, S.size = m ∧ (convert 22 9 (.slice (some ⟨g, 0, none⟩) m cap)).run Try.prog w = .ok (.string S) w := by
  subst hm
  refine ⟨strOfNums L, strOfNums_size L, ?_⟩
  have := conv_row w g L.length cap L (Nat.le_refl _) (fun i hi => h.cell hi)
  rwa [List.take_length] at this

theorem LineTo.up {B : Nat} {w w1 w' : World} {xs : List Int} {n : Nat} {e : Ending} (h : LineTo w1.heap.size w1 xs n e w') (hb : Below B w w1) (hB : B ≤ w1.heap.size) : LineTo B w xs n e w' := by
  obtain ⟨v, Y, h1, h2, h3, h4, h5⟩ := h
  exact ⟨v, Y, h1, h2, h3, h4.mono hB, hb.trans (h5.mono hB)⟩

/-- what appendUnknownCommand leaves: a line of n bytes, 50 ≤ n ≤ 309 -/
def Unk (w : World) (xs : List Int) (e : Ending) (w' : World) : Prop := ∃ n, 50 ≤ n ∧ n ≤ 309 ∧ LineTo w.heap.size w (xs ++ [45]) n e w'

set_option maxHeartbeats 2000000 in
theorem unk_any (vd : Value) (xs : List Int) (ga : Nat) (vs : List Value) (w : World) (hl : xs.length ≤ 1048576) (hn : 1 ≤ vs.length) (hn2 : vs.length ≤ 65536) (hd : CV 0 w vd xs) (ha : Args w ga vs) :
    Calls Try.prog 28 #[vd, .slice (some ⟨ga, 0, none⟩) vs.length vs.length] w (Unk w xs) := by
  have HD : Hid (CV 0 w vd xs) := hd
  have HA : Hid (Args w ga vs) := ha
  have g0 := ha.1 0 (by omega)
  obtain ⟨z0, hc0, hz0'⟩ := ha.2 _ (getD_memV vs 0 (by omega))
  have HC0 : Hid (CV 0 w (vs.getD 0 nilS) z0) := hc0
  obtain ⟨v0, hv0⟩ : ∃ v, v = vs.getD 0 nilS := ⟨_, rfl⟩
  rw [← hv0] at g0 HC0
  obtain ⟨ao0, rfl, _, _⟩ := HC0.out.shape
  clear hd ha hc0 hv0
  obtain ⟨i0, hi, hz0, hz1, hz2⟩ := info_parts Try.info5
  go_enter Try.func28, Try.ntmps28
  go_wp2_with (at_make; refine wpList_make_own _ rfl _ _ 22 rfl w.heap.size 5 i0 (.int .u8 0) 1 Try.underlying22 hi hz0 hz1 _ _ _ 64 rfl rfl rfl ?b1 ?b2 ?b3 ?_)
  case b1 => rw [hz2]; omega
  case b2 => unfold maxLen; omega
  case b3 => exact Nat.le_refl _
  intro w1 hown hgrow
  have HO0 : Hid (Own w.heap.size w1 (.slice (some ⟨w.heap.size, 0, none⟩) 0 64) []) := hown
  have hb1 : Below w.heap.size w w1 := (Below.refl _ _).grown hgrow (Nat.le_refl _) (fun k hk => by cases hk)
  have hB1 := hb1.size
  clear hown hgrow
  go_wp2_with (at_builtin; refine wpList_appS rfl _ _ rfl w.heap.size _ [] rfl HO0.out _ rfl ?p1 hB1 hb1 ?_)
  case p1 => decide
  intro v2 w2 L2 HL2 HO2 hB2 hb2
  have l2 : L2.length ≤ 21 ∧ 21 ≤ L2.length := by
    have e := congrArg List.length HL2.out
    simp only [bs_len] at e
    change L2.length = 21 at e
    omega
  clear HL2 HO0 hb1 hB1
  go_wp2_with fail
  refine (quoted_any _ z0 _ hz0' (HC0.out.below hb2)).mono ?_
  rintro e w3 ⟨s0, rfl, rfl, hs0⟩
  go_wp2_with (at_builtin; refine wpList_appS rfl _ _ rfl w.heap.size _ L2 rfl HO2.out _ rfl ?p2 hB2 hb2 ?_)
  case p2 => omega
  intro v4 w4 L4 HL4 HO4 hB4 hb4
  have l4 : L4.length ≤ 149 ∧ 21 ≤ L4.length := by
    have e := congrArg List.length HL4.out
    rw [List.length_append, bs_len] at e
    omega
  clear HL4 HO2 hb2 hB2 l2
  go_wp2_with (at_builtin; refine wpList_appS rfl _ _ rfl w.heap.size _ L4 rfl HO4.out _ rfl ?p3 hB4 hb4 ?_)
  case p3 =>
    change L4.length + 29 ≤ 1000000000
    omega
  intro v5 w5 L5 HL5 HO5 hB5 hb5
  have l5 : L5.length ≤ 178 ∧ 50 ≤ L5.length := by
    have e := congrArg List.length HL5.out
    rw [List.length_append, bs_len] at e
    change L5.length = L4.length + 29 at e
    omega
  obtain ⟨m0, hm0⟩ : ∃ m0, m0 = L5.length := ⟨_, rfl⟩
  obtain ⟨m1, m2⟩ := l5
  rw [← hm0] at m1 m2
  obtain ⟨g5, cap5, hv5, _, _⟩ := HO5.out.shape (by omega)
  have HO6 : Hid (Own w.heap.size w5 (.slice (some ⟨g5, 0, none⟩) m0 cap5) L5) := by
    have h := HO5.out
    rw [hv5] at h
    rw [hm0]
    exact h
  have HM : Hid (L5.length = m0) := hm0.symm
  rw [hv5, ← hm0]
  clear HL5 HO5 HO4 l4 hB4 hb4 hv5 hm0
  by_cases h1 : vs.length = 1
  · obtain ⟨S, hS, hcv⟩ := own_conv HO6.out HM.out
    have hS1 : S.size ≤ 309 := by omega
    have hS2 : 50 ≤ S.size := by omega
    clear hS
    go_wp2
    refine wp_loop_rounds 1 ?_; rw [rounds_succ]; go_wp2_with fail
    refine (err_any vd xs S _ hl (by omega) (HD.out.below hb5)).mono ?_
    rintro e w6 hline
    have hup := LineTo.up hline hb5 hB5
    obtain ⟨v6, Y, rfl, r1, r2, r3, r4⟩ := hup
    have HF : Hid (Y.length = S.size ∧ (∀ j, j < S.size → noCR (Y.getD j 0)) ∧ Own w.heap.size w6 v6 (xs ++ [45] ++ Y ++ [13, 10])) := ⟨r1, r2, r3⟩
    clear hline r1 r2 r3 hcv
    go_wp2
    go_ret
    exact ⟨S.size, hS2, hS1, v6, Y, rfl, HF.out.1, HF.out.2.1, HF.out.2.2, r4⟩
  · have h2 : 2 ≤ vs.length := by omega
    go_wp2
    go_loopw [6, 28] (fun t i wr => ∃ (k : Nat) (L : List Int) (g m cap : Nat), k ≤ vs.length - 1 ∧ i = .int .i64 k ∧ t = .slice (some ⟨g, 0, none⟩) m cap ∧ m0 ≤ m ∧ m ≤ m0 + 131 ∧ Hid (L.length = m) ∧ Hid (Own w.heap.size wr (.slice (some ⟨g, 0, none⟩) m cap) L) ∧ w.heap.size ≤ wr.heap.size ∧ Below w.heap.size w wr) (fun _ i _ => vs.length - 1 - (intOf i).toNat)
    case atStart => exact ⟨0, L5, g5, m0, cap5, Nat.zero_le _, rfl, rfl, Nat.le_refl _, by omega, HM, HO6, hB5, hb5⟩
    case round =>
      obtain ⟨k, L, g, m, cap, hk, rfl, rfl, q1, q2, HML, HOW, hBr, hbr⟩ := hrel
      by_cases hlt : k < vs.length - 1
      · have gk := (HA.out.below hbr).1 (1 + k) (by omega)
        obtain ⟨zk, hck, hzk⟩ := HA.out.2 _ (getD_memV vs (1 + k) (by omega))
        obtain ⟨vk, hvk⟩ : ∃ v, v = vs.getD (1 + k) nilS := ⟨_, rfl⟩
        rw [← hvk] at gk hck
        rcases hck with ⟨rfl, rfl⟩ | ⟨gb, rfl, _, hcc⟩
        · clear hvk
          by_cases hroom : m < m0 + 128
          · go_wp2_with (at_builtin; refine wpList_appB rfl (.tmp 39) (.tmp 40) rfl w.heap.size _ L rfl (HOW.out.alloc _) ⟨wr.heap.size, 0, none⟩ 1 1 [39] rfl rfl ?e1 ?e2 ?e3 (hbr.alloc hBr _) ?_)
            case e1 =>
              intro j hj
              obtain rfl : j = 0 := by omega
              rw [Addr.add_lit]; exact cell_of_row _ _ 0 _ 5 (0, 0) (Deep.blk_alloc_new _ _)
            case e2 => have := HML.out; omega
            case e3 => simp; omega
            intro v7 w7 L7 HL7 HO7 hB7 hb7
            have l7 : L7.length ≤ m + 1 ∧ m + 1 ≤ L7.length := by
              have e := congrArg List.length HL7.out
              rw [List.length_append, HML.out] at e
              change L7.length = m + 1 at e
              omega
            clear HL7 HOW HML hbr hBr
            have HO8 := HO7
            have hB8 := hB7
            have hb8 := hb7
            obtain ⟨L8, hL8⟩ : ∃ L, L = L7 := ⟨_, rfl⟩
            have HL8 : Hid (L8 = L7) := hL8
            clear hL8
            have l8 : L8.length ≤ m0 + 129 ∧ m + 1 ≤ L8.length := by rw [HL8.out]; omega
            rw [← HL8.out] at HO8
            clear l7
            go_wp2_with (at_builtin; first | refine wpList_append_own_none rfl (.tmp 42) (.tmp 48) 22 rfl w.heap.size 5 i0 1 Try.underlying22 hi v7 L8.length (L8.map (Value.int .u8)) rfl HO8.out rfl ?_ | refine wpList_appS rfl _ _ rfl w.heap.size v7 L8 rfl HO8.out _ rfl ?h1 hB8 hb8 ?_)
            case h1 =>
              change L8.length + 2 ≤ 1000000000
              omega
            intro v9 w9 L9 HL9 HO9 hB9 hb9
            have l9 : L9.length ≤ m0 + 131 ∧ m0 ≤ L9.length := by
              have e := congrArg List.length HL9.out
              rw [List.length_append, bs_len] at e
              change L9.length = L8.length + 2 at e
              omega
            obtain ⟨m9, hm9⟩ : ∃ m9, m9 = L9.length := ⟨_, rfl⟩
            obtain ⟨n1, n2⟩ := l9
            rw [← hm9] at n1 n2
            obtain ⟨g9, cap9, hv9, _, _⟩ := HO9.out.shape (by omega)
            have HO10 : Hid (Own w.heap.size w9 (.slice (some ⟨g9, 0, none⟩) m9 cap9) L9) := by
              have h := HO9.out
              rw [hv9] at h
              rw [hm9]
              exact h
            have HM9 : Hid (L9.length = m9) := hm9.symm
            rw [hv9]
            rw [← hm9]
            clear HL9 HO9 HO8 hB8 hb8 hv9 hm9 l8 HO7 hB7 hb7 HL8
            go_wp2
            go_roundw
            case rel => exact ⟨k + 1, L9, g9, m9, cap9, by omega, by go_num, rfl, n2, n1, HM9, HO10, hB9, hb9⟩
            case measure => simp [intOf]; omega
          · obtain ⟨S, hS, hcv⟩ := own_conv HOW.out HML.out
            have hS1 : S.size ≤ 309 := by omega
            have hS2 : 50 ≤ S.size := by omega
            clear hS
            go_wp2_with fail
            refine (err_any vd xs S _ hl (by omega) (HD.out.below hbr)).mono ?_
            rintro e w6 hline
            have hup := LineTo.up hline hbr hBr
            obtain ⟨v6, Y, rfl, r1, r2, r3, r4⟩ := hup
            have HF : Hid (Y.length = S.size ∧ (∀ j, j < S.size → noCR (Y.getD j 0)) ∧ Own w.heap.size w6 v6 (xs ++ [45] ++ Y ++ [13, 10])) := ⟨r1, r2, r3⟩
            clear hline r1 r2 r3 hcv
            go_wp2
            go_ret
            exact ⟨S.size, hS2, hS1, v6, Y, rfl, HF.out.1, HF.out.2.1, HF.out.2.2, r4⟩
        · have HCC : Hid (∀ i, i < zk.length → w.cell? ⟨gb, i, none⟩ = some (.int .u8 (zk.getD i 0))) := hcc
          clear hcc hvk
          by_cases hroom : m < m0 + 128
          · go_wp2_with (at_builtin; refine wpList_appB rfl (.tmp 39) (.tmp 40) rfl w.heap.size _ L rfl (HOW.out.alloc _) ⟨wr.heap.size, 0, none⟩ 1 1 [39] rfl rfl ?e1 ?e2 ?e3 (hbr.alloc hBr _) ?_)
            case e1 =>
              intro j hj
              obtain rfl : j = 0 := by omega
              rw [Addr.add_lit]; exact cell_of_row _ _ 0 _ 5 (0, 0) (Deep.blk_alloc_new _ _)
            case e2 => have := HML.out; omega
            case e3 => simp; omega
            intro v7 w7 L7 HL7 HO7 hB7 hb7
            have l7 : L7.length ≤ m + 1 ∧ m + 1 ≤ L7.length := by
              have e := congrArg List.length HL7.out
              rw [List.length_append, HML.out] at e
              change L7.length = m + 1 at e
              omega
            clear HL7 HOW HML hbr hBr
            by_cases hmin : zk.length + (m - m0) ≤ 128
            · go_wp2_with (at_builtin; refine wpList_appB rfl (.tmp 42) (.tmp 48) rfl w.heap.size v7 L7 rfl HO7.out ⟨gb, 0, none⟩ _ _ zk rfl ?f1 ?f2 ?f3 hB7 hb7 ?_)
              case f1 => rfl
              case f2 =>
                intro j hj
                rw [Addr.add_lit, Nat.zero_add, hb7.cell (by exact World.block_lt_of_cell? w _ (HCC.out j hj))]
                exact HCC.out j hj
              case f3 => omega
              intro v8 w8 L8 HL8 HO8 hB8 hb8
              have l8 : L8.length ≤ m0 + 129 ∧ m + 1 ≤ L8.length := by
                have e := congrArg List.length HL8.out
                rw [List.length_append] at e
                omega
              clear HL8 HO7 hB7 hb7 l7
              go_wp2_with (at_builtin; refine wpList_appS rfl _ _ rfl w.heap.size v8 L8 rfl HO8.out _ rfl ?h1 hB8 hb8 ?_)
              case h1 =>
                change L8.length + 2 ≤ 1000000000
                omega
              intro v9 w9 L9 HL9 HO9 hB9 hb9
              have l9 : L9.length ≤ m0 + 131 ∧ m0 ≤ L9.length := by
                have e := congrArg List.length HL9.out
                rw [List.length_append, bs_len] at e
                change L9.length = L8.length + 2 at e
                omega
              obtain ⟨m9, hm9⟩ : ∃ m9, m9 = L9.length := ⟨_, rfl⟩
              obtain ⟨n1, n2⟩ := l9
              rw [← hm9] at n1 n2
              obtain ⟨g9, cap9, hv9, _, _⟩ := HO9.out.shape (by omega)
              have HO10 : Hid (Own w.heap.size w9 (.slice (some ⟨g9, 0, none⟩) m9 cap9) L9) := by
                have h := HO9.out
                rw [hv9] at h
                rw [hm9]
                exact h
              have HM9 : Hid (L9.length = m9) := hm9.symm
              rw [hv9]
              rw [← hm9]
              clear HL9 HO9 HO8 hB8 hb8 hv9 hm9 l8
              go_wp2
              go_roundw
              case rel => exact ⟨k + 1, L9, g9, m9, cap9, by omega, by go_num, rfl, n2, n1, HM9, HO10, hB9, hb9⟩
              case measure => simp [intOf]; omega
            · go_wp2_with (at_builtin; refine wpList_appB rfl (.tmp 42) (.tmp 48) rfl w.heap.size v7 L7 rfl HO7.out ⟨gb, 0, none⟩ _ _ (zk.take (128 - (m - m0))) rfl ?f4 ?f5 ?f6 hB7 hb7 ?_)
              case f4.inl => omega
              case f5.inl =>
                intro j hj
                have h1 : j < 128 - (m - m0) := by omega
                have h2 : j < zk.length := by omega
                rw [hb7.cell (by exact World.block_lt_of_cell? w _ (HCC.out j h2)), HCC.out j h2]
                simp [List.getD, h1]
              case f6.inl => omega
              intro v8 w8 L8 HL8 HO8 hB8 hb8
              have l8 : L8.length ≤ m0 + 129 ∧ m + 1 ≤ L8.length := by
                have e := congrArg List.length HL8.out
                rw [List.length_append, List.length_take] at e
                omega
              clear HL8 HO7 hB7 hb7 l7
              go_wp2_with (at_builtin; refine wpList_appS rfl _ _ rfl w.heap.size v8 L8 rfl HO8.out _ rfl ?h1 hB8 hb8 ?_)
              case h1 =>
                change L8.length + 2 ≤ 1000000000
                omega
              intro v9 w9 L9 HL9 HO9 hB9 hb9
              have l9 : L9.length ≤ m0 + 131 ∧ m0 ≤ L9.length := by
                have e := congrArg List.length HL9.out
                rw [List.length_append, bs_len] at e
                change L9.length = L8.length + 2 at e
                omega
              obtain ⟨m9, hm9⟩ : ∃ m9, m9 = L9.length := ⟨_, rfl⟩
              obtain ⟨n1, n2⟩ := l9
              rw [← hm9] at n1 n2
              obtain ⟨g9, cap9, hv9, _, _⟩ := HO9.out.shape (by omega)
              have HO10 : Hid (Own w.heap.size w9 (.slice (some ⟨g9, 0, none⟩) m9 cap9) L9) := by
                have h := HO9.out
                rw [hv9] at h
                rw [hm9]
                exact h
              have HM9 : Hid (L9.length = m9) := hm9.symm
              rw [hv9]
              rw [← hm9]
              clear HL9 HO9 HO8 hB8 hb8 hv9 hm9 l8
              go_wp2
              go_roundw
              case rel => exact ⟨k + 1, L9, g9, m9, cap9, by omega, by go_num, rfl, n2, n1, HM9, HO10, hB9, hb9⟩
              case measure => simp [intOf]; omega
          · obtain ⟨S, hS, hcv⟩ := own_conv HOW.out HML.out
            have hS1 : S.size ≤ 309 := by omega
            have hS2 : 50 ≤ S.size := by omega
            clear hS
            go_wp2_with fail
            refine (err_any vd xs S _ hl (by omega) (HD.out.below hbr)).mono ?_
            rintro e w6 hline
            have hup := LineTo.up hline hbr hBr
            obtain ⟨v6, Y, rfl, r1, r2, r3, r4⟩ := hup
            have HF : Hid (Y.length = S.size ∧ (∀ j, j < S.size → noCR (Y.getD j 0)) ∧ Own w.heap.size w6 v6 (xs ++ [45] ++ Y ++ [13, 10])) := ⟨r1, r2, r3⟩
            clear hline r1 r2 r3 hcv
            go_wp2
            go_ret
            exact ⟨S.size, hS2, hS1, v6, Y, rfl, HF.out.1, HF.out.2.1, HF.out.2.2, r4⟩
      · obtain rfl : k = vs.length - 1 := by omega
        obtain ⟨S, hS, hcv⟩ := own_conv HOW.out HML.out
        have hS1 : S.size ≤ 309 := by omega
        have hS2 : 50 ≤ S.size := by omega
        clear hS
        go_wp2_with fail
        refine (err_any vd xs S _ hl (by omega) (HD.out.below hbr)).mono ?_
        rintro e w6 hline
        have hup := LineTo.up hline hbr hBr
        obtain ⟨v6, Y, rfl, r1, r2, r3, r4⟩ := hup
        have HF : Hid (Y.length = S.size ∧ (∀ j, j < S.size → noCR (Y.getD j 0)) ∧ Own w.heap.size w6 v6 (xs ++ [45] ++ Y ++ [13, 10])) := ⟨r1, r2, r3⟩
        clear hline r1 r2 r3 hcv
        go_wp2
        go_ret
        exact ⟨S.size, hS2, hS1, v6, Y, rfl, HF.out.1, HF.out.2.1, HF.out.2.2, r4⟩
end Go.Proofs.Qxb6600684a
