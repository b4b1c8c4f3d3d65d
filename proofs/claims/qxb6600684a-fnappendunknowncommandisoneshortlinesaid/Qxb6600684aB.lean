import Derived.Test.Qxb6600684aA
set_option linter.unusedVariables false
namespace Go.Proofs.Qxb6600684a
open Go.RowKit

/-! ### plain -/
def lo (c : Int) : Int := if 65 ≤ c ∧ c ≤ 90 then c + 32 else c
def sw (c : Int) : Int := if 65 ≤ c ∧ c ≤ 90 then c + 32 else if 97 ≤ c ∧ c ≤ 122 then c - 32 else c
def upB (c : Int) : Bool := decide (65 ≤ c ∧ c ≤ 90)
def loB (c : Int) : Bool := decide (97 ≤ c ∧ c ≤ 122)
def isW (zs ws : List Int) : Bool := zs.map lo == ws

theorem lo_sw (c : Int) : lo (sw c) = lo c := by
  unfold lo sw
  by_cases h1 : 65 ≤ c ∧ c ≤ 90
  · rw [if_pos h1, if_pos h1, if_neg (by omega)]
  · by_cases h2 : 97 ≤ c ∧ c ≤ 122
    · rw [if_neg h1, if_pos h2, if_pos (by omega), if_neg h1]; omega
    · rw [if_neg h1, if_neg h2, if_neg h1]
theorem isW_sw (zs ws : List Int) : isW (zs.map sw) ws = isW zs ws := by
  unfold isW
  rw [List.map_map]
  congr 1
  exact List.map_congr_left (fun c _ => lo_sw c)
theorem isW_self (ws : List Int) (h : ∀ c ∈ ws, upB c = false) : isW ws ws = true := by
  unfold isW
  rw [beq_iff_eq]
  conv => rhs; rw [← List.map_id ws]
  refine List.map_congr_left (fun c hc => ?_)
  have := of_decide_eq_false (h c hc)
  unfold lo
  rw [if_neg this]; rfl
theorem isW_len {zs ws : List Int} (h : zs.length ≠ ws.length) : isW zs ws = false := by
  unfold isW
  rw [beq_eq_false_iff_ne]
  intro e
  exact h (by rw [← e]; simp)
theorem isW_bad {zs ws : List Int} {k : Nat} (hk : k < zs.length) (hl : zs.length = ws.length) (h : lo (zs.getD k 0) ≠ ws.getD k 0) : isW zs ws = false := by
  unfold isW
  rw [beq_eq_false_iff_ne]
  intro e
  apply h
  rw [← e]
  simp [List.getD, hk]
theorem isW_good {zs ws : List Int} (hl : zs.length = ws.length) (h : ∀ k, k < zs.length → lo (zs.getD k 0) = ws.getD k 0) : isW zs ws = true := by
  unfold isW
  rw [beq_iff_eq]
  refine List.ext_getElem (by simpa using hl) (fun i h1 h2 => ?_)
  have hi : i < zs.length := by simpa using h1
  have := h i hi
  simpa [List.getD, hi, h2] using this

theorem ret_u8 {a b : Int} (h : a = b) : Ending.returned (.int .u8 a) = .returned (.int .u8 b) := by rw [h]

theorem toLower_any (c : Int) (w : World) (h0 : 0 ≤ c) (h1 : c ≤ 255) : Calls Try.prog 29 #[.int .u8 c] w fun e w' => e = .returned (.int .u8 (lo c)) ∧ w' = w := by
  obtain ⟨y, hy⟩ : ∃ y, y = lo c := ⟨_, rfl⟩
  rw [← hy]
  unfold lo at hy
  have cs : c < 65 ∨ (65 ≤ c ∧ c ≤ 90) ∨ 90 < c := by omega
  rcases cs with h | ⟨h, h'⟩ | h
  · rw [if_neg (by omega)] at hy
    subst hy
    go_enter Try.func29, Try.ntmps29
    go_wp2
    go_ret
    exact ⟨rfl, rfl⟩
  · rw [if_pos ⟨h, h'⟩] at hy
    have HX : Hid (y = c + 32) := hy
    clear hy
    go_enter Try.func29, Try.ntmps29
    go_wp2
    go_ret
    exact ⟨ret_u8 (by rw [HX.out]; omega), rfl⟩
  · rw [if_neg (by omega)] at hy
    subst hy
    go_enter Try.func29, Try.ntmps29
    go_wp2
    go_ret
    exact ⟨rfl, rfl⟩

theorem upper_any (c : Int) (w : World) : Calls Try.prog 11 #[.int .u8 c] w fun e w' => e = .returned (.bool (upB c)) ∧ w' = w := by
  obtain ⟨y, hy⟩ : ∃ y, y = upB c := ⟨_, rfl⟩
  rw [← hy]
  unfold upB at hy
  have cs : c < 65 ∨ (65 ≤ c ∧ c ≤ 90) ∨ 90 < c := by omega
  rcases cs with h | ⟨h, h'⟩ | h
  · rw [decide_eq_false (by omega)] at hy
    subst hy
    go_enter Try.func11, Try.ntmps11
    go_wp2
    go_ret
    exact ⟨by first | rfl | (simp; done) | (simp; omega), rfl⟩
  · rw [decide_eq_true ⟨h, h'⟩] at hy
    subst hy
    go_enter Try.func11, Try.ntmps11
    go_wp2
    go_ret
    exact ⟨by first | rfl | (simp; done) | (simp; omega), rfl⟩
  · rw [decide_eq_false (by omega)] at hy
    subst hy
    go_enter Try.func11, Try.ntmps11
    go_wp2
    go_ret
    exact ⟨by first | rfl | (simp; done) | (simp; omega), rfl⟩

theorem lower_any (c : Int) (w : World) : Calls Try.prog 25 #[.int .u8 c] w fun e w' => e = .returned (.bool (loB c)) ∧ w' = w := by
  obtain ⟨y, hy⟩ : ∃ y, y = loB c := ⟨_, rfl⟩
  rw [← hy]
  unfold loB at hy
  have cs : c < 97 ∨ (97 ≤ c ∧ c ≤ 122) ∨ 122 < c := by omega
  rcases cs with h | ⟨h, h'⟩ | h
  · rw [decide_eq_false (by omega)] at hy
    subst hy
    go_enter Try.func25, Try.ntmps25
    go_wp2
    go_ret
    exact ⟨by first | rfl | (simp; done) | (simp; omega), rfl⟩
  · rw [decide_eq_true ⟨h, h'⟩] at hy
    subst hy
    go_enter Try.func25, Try.ntmps25
    go_wp2
    go_ret
    exact ⟨by first | rfl | (simp; done) | (simp; omega), rfl⟩
  · rw [decide_eq_false (by omega)] at hy
    subst hy
    go_enter Try.func25, Try.ntmps25
    go_wp2
    go_ret
    exact ⟨by first | rfl | (simp; done) | (simp; omega), rfl⟩

theorem ret_b {a b : Bool} (h : a = b) : Ending.returned (.bool a) = .returned (.bool b) := by rw [h]

set_option maxHeartbeats 1000000 in
theorem isWord_any (ao : Option Addr) (cap : Nat) (zs : List Int) (s : ByteArray) (w : World) (hl : zs.length ≤ 1048576) (hs : s.size ≤ 1048576) (hr : Rd .u8 w ao zs) (hw : wfL .u8 zs) :
    Calls Try.prog 24 #[.slice ao zs.length cap, .string s] w fun e w' => e = .returned (.bool (isW zs (bs s))) ∧ Below w.heap.size w w' := by
  have HR : Hid (Rd .u8 w ao zs) := hr
  have HW : Hid (wfL .u8 zs) := hw
  clear hr hw
  obtain ⟨y, hy⟩ : ∃ y, y = isW zs (bs s) := ⟨_, rfl⟩
  have HY : Hid (y = isW zs (bs s)) := hy
  rw [← hy]
  clear hy
  by_cases hlen : zs.length = s.size
  · have hne : ((zs.length : Int) != (s.size : Int)) = false := by simp [hlen]
    have HL : Hid (zs.length = s.size) := hlen
    have hls : zs.length ≤ s.size := by omega
    clear hlen
    go_enter Try.func24, Try.ntmps24
    go_wp2
    go_loopw [14] (fun i wr => ∃ k : Nat, k ≤ zs.length ∧ i = .int .i64 k ∧ Hid (∃ m, wr = w.drewN m) ∧ Hid (∀ j, j < k → lo (zs.getD j 0) = (bs s).getD j 0)) (fun i _ => zs.length - (intOf i).toNat)
    case atStart => exact ⟨0, Nat.zero_le _, rfl, ⟨0, rfl⟩, fun j hj => absurd hj (by omega)⟩
    case round =>
      obtain ⟨k, hk, rfl, HD, HA⟩ := hrel
      by_cases hlt : k < zs.length
      · obtain ⟨b, off, rfl, g'⟩ := HR.out k hlt
        have g : wr.cell? ⟨b, off + k, none⟩ = some (.int .u8 (zs.getD k 0)) := by obtain ⟨m, rfl⟩ := HD.out; exact g'
        clear g'
        obtain ⟨c0, c1⟩ := u8_bd (HW.out _ (getD_mem zs k hlt))
        have hix := idx_str s k (by omega)
        have HB : Hid (lo (zs.getD k 0) ≠ (bs s).getD k 0 → y = false) := fun h => by rw [HY.out]; exact isW_bad hlt (by rw [bs_len]; exact HL.out) h
        have HG : Hid (lo (zs.getD k 0) = (bs s).getD k 0 → ∀ j, j < k + 1 → lo (zs.getD j 0) = (bs s).getD j 0) := fun h j hj => by
          by_cases e : j = k
          · rw [e]; exact h
          · exact HA.out j (by omega)
        obtain ⟨c, hc⟩ : ∃ c, c = zs.getD k 0 := ⟨_, rfl⟩
        obtain ⟨x, hx⟩ : ∃ x, x = (bs s).getD k 0 := ⟨_, rfl⟩
        rw [← hc] at g c0 c1 HB HG
        rw [← hx] at hix HB HG
        clear hc hx
        have b1 : (k : Int) < (s.size : Int) := by omega
        have htl := fun w => toLower_any c w c0 c1
        obtain ⟨d, hd⟩ : ∃ d, d = lo c := ⟨_, rfl⟩
        rw [← hd] at HB HG
        simp only [← hd] at htl
        clear hd
        have HT : Hid (∀ w, Calls Try.prog 29 #[.int .u8 c] w fun e w' => e = .returned (.int .u8 d) ∧ w' = w) := htl
        clear htl
        go_wp2
        go_quiet ((go_at_call 29; exact Calls.quiet_of_same (HT.out _)))
        go_wp2
        · have hn : (d != x) = true := by assumption
          have hy2 := HB.out (bne_iff_ne.1 hn)
          obtain ⟨m, hm⟩ := HD.out
          go_ret
          exact ⟨ret_b hy2.symm, by rw [hm]; exact below_drewN (below_drewN (Below.refl _ _) _) _⟩
        · have hn : (d != x) = false := by assumption
          go_roundw
          case rel =>
            refine ⟨k + 1, by omega, by go_num, ?_, HG.out ?_⟩
            · obtain ⟨m, rfl⟩ := HD.out
              exact ⟨m + nq, World.drewN_drewN _ _ _⟩
            · have := bne_eq_false_iff_eq.1 hn
              exact this
          case measure => simp [intOf]; omega
      · obtain rfl : k = zs.length := by omega
        obtain ⟨m, hm⟩ := HD.out
        have HY2 : Hid (y = true) := by rw [HY.out]; exact isW_good (by rw [bs_len]; exact HL.out) HA.out
        have HMM : Hid (wr = w.drewN m) := hm
        clear hm
        go_wp2
        go_ret
        exact ⟨ret_b HY2.out.symm, by rw [HMM.out]; exact below_drewN (Below.refl _ _) _⟩
  · have hne : ((zs.length : Int) != (s.size : Int)) = true := by rw [bne_iff_ne]; omega
    have HY2 : Hid (y = false) := by rw [HY.out]; exact isW_len (by rw [bs_len]; exact hlen)
    clear hlen
    go_enter Try.func24, Try.ntmps24
    go_wp2
    go_ret
    exact ⟨ret_b HY2.out.symm, Below.refl _ _⟩

theorem zzisWord_any (ao : Option Addr) (cap : Nat) (zs : List Int) (s : ByteArray) (w : World) (hl : zs.length ≤ 1048576) (hs : s.size ≤ 1048576) (hr : Rd .u8 w ao zs) (hw : wfL .u8 zs) :
    Calls Try.prog 9 #[.slice ao zs.length cap, .string s] w fun e w' => e = .returned (.bool (isW zs (bs s))) ∧ Below w.heap.size w w' := by
  have HR : Hid (Rd .u8 w ao zs) := hr
  have HW : Hid (wfL .u8 zs) := hw
  clear hr hw
  go_enter Try.func9, Try.ntmps9
  go_wp2_with fail
  refine (isWord_any ao cap zs s _ hl hs HR.out HW.out).mono ?_
  rintro e w1 ⟨rfl, hb⟩
  go_wp2
  go_ret
  exact ⟨rfl, hb⟩
end Go.Proofs.Qxb6600684a
