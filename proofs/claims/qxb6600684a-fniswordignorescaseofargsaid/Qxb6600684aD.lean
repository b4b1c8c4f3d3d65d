import Derived.Test.Qxb6600684aC
set_option linter.unusedVariables false
namespace Go.Proofs.Qxb6600684a
open Go.RowKit

/-- it returns a bool, the world stands (a name, so that the walk does not look inside) -/
def RetB (w : World) (e : Ending) (w' : World) : Prop := ∃ r, e = .returned (.bool r) ∧ w' = w

set_option maxHeartbeats 1000000 in
theorem zz7_any (a : Option Addr) (len cap : Nat) (s : ByteArray) (w : World) (h : len ≤ maxLen) (hs : s.size ≤ maxLen) :
    Calls Try.prog 7 #[.slice a len cap, .string s] w (RetB w) := by
  unfold maxLen at h hs
  go_enter Try.func7, Try.ntmps7
  go_wp2
  all_goals
    go_ret
    exact ⟨_, rfl, rfl⟩

set_option maxHeartbeats 1000000 in
theorem iw_big (a : Option Addr) (len cap : Nat) (s : ByteArray) (w : World) (h : len ≤ maxLen) (hs : s.size ≤ maxLen) (hb : 524288 < len ∨ 524288 < s.size) :
    Calls Try.prog 3 #[.slice a len cap, .string s] w fun e w' => e = .returned (.bool true) ∧ Below w.heap.size w w' := by
  have HM : Hid (len ≤ maxLen ∧ s.size ≤ maxLen) := ⟨h, hs⟩
  unfold maxLen at h hs
  have cs : 524288 < len ∨ (len ≤ 524288 ∧ 524288 < s.size) := by omega
  clear hb
  rcases cs with h1 | ⟨h1, h2⟩
  all_goals
    go_enter Try.func3, Try.ntmps3
    go_wp2_with fail
    refine (zz7_any _ _ _ _ _ HM.out.1 HM.out.2).mono ?_
    rintro e w' ⟨r, rfl, rfl⟩
    cases r
    · go_wp2
      go_ret
      exact ⟨rfl, Below.refl _ _⟩
    · go_wp2
      go_ret
      exact ⟨rfl, Below.refl _ _⟩

def lowTo (ws : List Int) (k : Nat) : Bool := (ws.take k).all (fun c => !upB c)
theorem lowTo_succ (ws : List Int) (k : Nat) (h : k < ws.length) : lowTo ws (k + 1) = (lowTo ws k && !upB (ws.getD k 0)) := by
  unfold lowTo; rw [take_snoc ws k h]; simp
theorem low_all {ws : List Int} (h : lowTo ws ws.length = true) : ∀ c ∈ ws, upB c = false := fun c hc => by
  unfold lowTo at h
  rw [List.take_length, List.all_eq_true] at h
  simpa using h c hc

set_option maxHeartbeats 2000000 in
theorem iw_main (ao : Option Addr) (cap : Nat) (zs : List Int) (s : ByteArray) (w : World) (hl : zs.length ≤ 524288) (hs : s.size ≤ 524288) (hr : Rd .u8 w ao zs) (hw : wfL .u8 zs) :
    Calls Try.prog 3 #[.slice ao zs.length cap, .string s] w fun e w' => e = .returned (.bool true) ∧ Below w.heap.size w w' := by
  have HR : Hid (Rd .u8 w ao zs) := hr
  have HW : Hid (wfL .u8 zs) := hw
  clear hr hw
  obtain ⟨i0, hi, hz0, hz1, hz2⟩ := info_parts Try.info5
  go_enter Try.func3, Try.ntmps3
  go_wp2_with fail
  refine (zz7_any _ _ _ _ _ (by unfold maxLen; omega) (by unfold maxLen; omega)).mono ?_
  rintro e w' ⟨r, rfl, rfl⟩
  cases r
  · go_wp2
    go_ret
    exact ⟨rfl, Below.refl _ _⟩
  go_wp2_with fail
  refine (clone8 ao cap zs _ (by omega) HR.out).mono ?_
  rintro e w1 ⟨a1, c1, rfl, _, _, q1, _, hb1⟩
  have Q1 : Hid (Rd .u8 w1 a1 zs) := q1
  clear q1
  go_wp2_with fail
  refine (zzisWord_any a1 c1 zs s _ (by omega) (by omega) Q1.out HW.out).mono ?_
  rintro e w2 ⟨rfl, hb2⟩
  go_wp2_with fail
  refine (swap_any a1 c1 zs _ (by omega) (Rd.below Q1.out hb2) HW.out).mono ?_
  rintro e w3 ⟨rfl, q3, hb3⟩
  have hlen : (zs.map sw).length = zs.length := by simp
  have Q3 : Hid (Rd .u8 w3 (some ⟨w2.heap.size, 0, none⟩) (zs.map sw)) := q3
  clear q3
  have hcall := zzisWord_any (some ⟨w2.heap.size, 0, none⟩) zs.length (zs.map sw) s w3 (by omega) (by omega) Q3.out (sw_wf HW.out)
  rw [hlen, isW_sw] at hcall
  have HC : Hid (Calls Try.prog 9 #[.slice (some ⟨w2.heap.size, 0, none⟩) zs.length zs.length, .string s] w3 fun e w' => e = .returned (.bool (isW zs (bs s))) ∧ Below w3.heap.size w3 w') := hcall
  clear hcall hlen
  go_wp2_with fail
  refine HC.out.mono ?_
  rintro e w4 ⟨rfl, hb4⟩
  have T4 := bt hb1 (bt hb2 (bt hb3 hb4))
  clear HC hb1 hb2 hb3 hb4 Q1 Q3
  obtain ⟨b, hb⟩ : ∃ b, b = isW zs (bs s) := ⟨_, rfl⟩
  rw [← hb]
  clear hb
  have hbb : (b != b) = false := by simp
  go_wp2
  go_loop [5, 6] (fun t i => ∃ k : Nat, k ≤ s.size ∧ i = .int .i64 k ∧ t = .bool (lowTo (bs s) k)) (fun _ i => s.size - (intOf i).toNat)
  case atStart => exact ⟨0, Nat.zero_le _, rfl, rfl⟩
  case round =>
    obtain ⟨k, hk, rfl, rfl⟩ := hrel
    by_cases hlt : k < s.size
    · have hix := idx_str s k hlt
      have HS : Hid (lowTo (bs s) (k + 1) = (lowTo (bs s) k && !upB ((bs s).getD k 0))) := lowTo_succ (bs s) k (by rw [bs_len]; exact hlt)
      obtain ⟨c, hc⟩ : ∃ c, c = (bs s).getD k 0 := ⟨_, rfl⟩
      rw [← hc] at hix HS
      clear hc
      go_wp2_with fail
      refine (upper_any c _).mono ?_
      rintro e w5 ⟨rfl, rfl⟩
      obtain ⟨u, hu⟩ : ∃ u, u = upB c := ⟨_, rfl⟩
      rw [← hu] at HS ⊢
      clear hu
      cases u
      all_goals
        go_wp2
        go_round
        case rel => exact ⟨k + 1, by omega, by go_num, by rw [HS.out]; simp⟩
        case measure => simp [intOf]; omega
    · obtain rfl : k = s.size := by omega
      cases hq : lowTo (bs s) s.size with
      | false =>
        clear hq
        go_wp2
        go_ret
        exact ⟨rfl, T4⟩
      | true =>
        have HU : Hid (isW (bs s) (bs s) = true) := isW_self _ (low_all (by rw [bs_len]; exact hq))
        clear hq
        go_wp2_with (at_make; refine wpList_make_own _ rfl _ _ 22 rfl w4.heap.size 5 i0 (.int .u8 0) 1 Try.underlying22 hi hz0 hz1 _ _ _ s.size rfl rfl (by omega) ?b1 ?b2 ?b3 ?_)
        case b1 => omega
        case b2 => unfold maxLen; omega
        intro w5 hown hgrow
        have S0 : Hid (St w4 w4.heap.size w4.heap.size s.size w5 []) := ⟨hown, (Below.refl _ _).grown hgrow (Nat.le_refl _) (fun k hk => by cases hk), Nat.le_refl _, (hown.lt _ rfl).2⟩
        clear hown hgrow
        go_wp2_with fail
        refine (appText_any w4 w4.heap.size w4.heap.size s _ (by omega) S0.out).mono ?_
        rintro e w6 ⟨rfl, hst⟩
        have Q6 : Hid (Rd .u8 w6 (some ⟨w4.heap.size, 0, none⟩) (bs s)) := hst.rd
        have hb6 : Below w4.heap.size w4 w6 := hst.2.1
        clear hst S0
        have hbl := bs_len s
        have HBL : Hid ((bs s).length ≤ 1048576) := by unfold Hid; omega
        clear hbl
        go_wp2_with fail
        refine (zzisWord_any (some ⟨w4.heap.size, 0, none⟩) s.size (bs s) s _ HBL.out (by omega) Q6.out (bs_wf s)).mono ?_
        rintro e w7 ⟨rfl, hb7⟩
        rw [HU.out]
        go_wp2_with fail
        refine (swap_any (some ⟨w4.heap.size, 0, none⟩) s.size (bs s) _ HBL.out (Rd.below Q6.out hb7) (bs_wf s)).mono ?_
        rintro e w8 ⟨rfl, q8, hb8⟩
        have hlen : ((bs s).map sw).length = (bs s).length := by simp
        have hcall := zzisWord_any (some ⟨w7.heap.size, 0, none⟩) (bs s).length ((bs s).map sw) s w8 (by rw [hlen]; exact HBL.out) (by omega) q8 (sw_wf (bs_wf s))
        rw [hlen, isW_sw, HU.out] at hcall
        have HC : Hid (Calls Try.prog 9 #[.slice (some ⟨w7.heap.size, 0, none⟩) (bs s).length (bs s).length, .string s] w8 fun e w' => e = .returned (.bool true) ∧ Below w8.heap.size w8 w') := hcall
        clear hcall hlen q8
        go_wp2_with fail
        refine HC.out.mono ?_
        rintro e w9 ⟨rfl, hb9⟩
        have T9 := bt T4 (bt hb6 (bt hb7 (bt hb8 hb9)))
        clear HC hb6 hb7 hb8 hb9
        go_wp2
        go_ret
        exact ⟨rfl, T9⟩

end Go.Proofs.Qxb6600684a
