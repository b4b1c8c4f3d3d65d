import Derived.Test.Qxb6600684aG
set_option linter.unusedVariables false
namespace Go.Proofs.Qxb6600684a
open Go.RowKit

theorem zzunk_any (vd : Value) (xs : List Int) (ga : Nat) (vs : List Value) (w : World) (hl : xs.length ≤ 1048576) (hn : 1 ≤ vs.length) (hn2 : vs.length ≤ 65536) (hd : CV 0 w vd xs) (ha : Args w ga vs) :
    Calls Try.prog 22 #[vd, .slice (some ⟨ga, 0, none⟩) vs.length vs.length] w (Unk w xs) := by
  have HC : Hid (Calls Try.prog 28 #[vd, .slice (some ⟨ga, 0, none⟩) vs.length vs.length] w (Unk w xs)) := unk_any vd xs ga vs w hl hn hn2 hd ha
  clear hd ha
  go_enter Try.func22, Try.ntmps22
  go_wp2_with fail
  refine HC.out.mono ?_
  rintro e w1 ⟨n, h1, h2, v', Y, rfl, h3, h4, h5, h6⟩
  have HF : Hid (Unk w xs (.returned v') w1) := ⟨n, h1, h2, v', Y, rfl, h3, h4, h5, h6⟩
  clear h1 h2 h3 h4 h5 h6 HC
  go_wp2
  go_ret
  exact HF.out

theorem cline_any (c : Int) (w : World) (h : noCR c) : Calls Try.prog 23 #[.int .u8 c] w fun e w' => e = .returned (.bool false) ∧ w' = w := by
  have e13 : (c == 13) = false := by simpa using h.1
  have e10 : (c == 10) = false := by simpa using h.2
  clear h
  go_enter Try.func23, Try.ntmps23
  go_wp2
  go_ret
  exact ⟨rfl, rfl⟩

set_option maxHeartbeats 1000000 in
theorem equal_any (a1 a2 : Option Addr) (c1 c2 : Nat) (zs : List Int) (w : World) (hl : zs.length ≤ 1048576) (r1 : Rd .u8 w a1 zs) (r2 : Rd .u8 w a2 zs) :
    Calls Try.prog 18 #[.slice a1 zs.length c1, .slice a2 zs.length c2] w fun e w' => e = .returned (.bool true) ∧ Below w.heap.size w w' := by
  have R1 : Hid (Rd .u8 w a1 zs) := r1
  have R2 : Hid (Rd .u8 w a2 zs) := r2
  clear r1 r2
  go_enter Try.func18, Try.ntmps18
  go_wp2
  go_loopw [5] (fun i wr => ∃ k m : Nat, k ≤ zs.length ∧ i = .int .i64 k ∧ wr = w.drewN m) (fun i _ => zs.length - (intOf i).toNat)
  case atStart => exact ⟨0, 0, Nat.zero_le _, rfl, rfl⟩
  case round =>
    obtain ⟨k, m, hk, rfl, rfl⟩ := hrel
    by_cases hlt : k < zs.length
    · obtain ⟨b, off, rfl, g1⟩ := R1.out k hlt
      obtain ⟨b', off', rfl, g2⟩ := R2.out k hlt
      obtain ⟨z, hz⟩ : ∃ z, z = zs.getD k 0 := ⟨_, rfl⟩
      rw [← hz] at g1 g2
      clear hz
      have b1 : (k : Int) < (zs.length : Int) := by omega
      go_wp2
      go_quiet (fail)
      go_wp2
      go_roundw
      case rel => exact ⟨k + 1, _, by omega, by go_num, rfl⟩
      case measure => simp [intOf]; omega
    · go_wp2
      go_ret
      exact ⟨rfl, below_drewN (Below.refl _ _) _⟩

theorem Own.shape2 {B : Nat} {w : World} {v : Value} {L : List Int} (h : Own B w v L) (hL : 1 ≤ L.length) : ∃ g cap, v = .slice (some ⟨g, 0, none⟩) L.length cap ∧ L.length ≤ cap ∧ cap ≤ maxLen := by
  rcases h.2 with ⟨_, h0⟩ | ⟨g, cap, cur, rfl, hg, hh, h1, h2, _⟩
  · omega
  · exact ⟨g, cap, rfl, h1, h2⟩

end Go.Proofs.Qxb6600684a
