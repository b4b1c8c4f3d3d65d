import Derived.Test.Qxb6000494aRows
import Derived.WalkKit
import Derived.WalkSpells
import Derived.WalkLawsBesides
import Derived.Deep.OwnRows
import Derived.Deep.QuietTactic
import Derived.BigQuiet
namespace Go.Proofs.Qxb6000494a
open Go.RowKit

/-- zzBytes of FnBanksExactSpec: too long -/
theorem zzB_big (a : Option Addr) (len cap : Nat) (w : World) (h : 1048576 < len) (hm : len ≤ maxLen) :
    Calls Try.prog 18 #[.slice a len cap] w fun e w' => e = .returned (.bool false) ∧ w' = w := by
  unfold maxLen at hm
  go_enter Try.func18, Try.ntmps18
  go_wp2
  go_ret
  exact ⟨rfl, rfl⟩

theorem zzB_ok (a : Option Addr) (len cap : Nat) (w : World) (h : len ≤ 1048576) :
    Calls Try.prog 18 #[.slice a len cap] w fun e w' => e = .returned (.bool true) ∧ w' = w := by
  go_enter Try.func18, Try.ntmps18
  go_wp2
  go_ret
  exact ⟨rfl, rfl⟩

set_option maxHeartbeats 400000 in
theorem clone_nil (w : World) :
    Calls Try.prog 9 #[.slice none 0 0] w fun e w' => e = .returned (.slice none 0 0) ∧ w' = w := by
  have q22 : ∀ (w : World) (a : Option Addr) (n c n' c' : Nat), (binOp .eql 22 (.slice a n c) (.slice none n' c')).run Try.prog w = .ok (.bool a.isNone) w := fun w a n c n' c' => Lib.run_eql_slice_nil w _ _ a n c n' c' Try.underlying22
  go_enter Try.func9, Try.ntmps9
  go_wp2
  go_ret
  exact ⟨rfl, rfl⟩

theorem Try.info25 : (Try.prog.info? 25).map (fun i => (i.zero, i.size, i.bytes)) = some (some (.int .u16 0), 1, 2) := by kernel_rfl

set_option maxHeartbeats 400000 in
theorem clone_row (b off len cap : Nat) (zs : List Int) (w : World) (hl : len ≤ 4096) (hb : b < w.heap.size)
    (hc : ∀ i, i < len → w.cell? ⟨b, off + i, none⟩ = some (.int .u16 (zs.getD i 0))) :
    Calls Try.prog 9 #[.slice (some ⟨b, off, none⟩) len cap] w fun e w' => e = .returned (.slice (some ⟨w.heap.size, 0, none⟩) len len) ∧
      w'.rowIs w.heap.size 25 len (fun i => .int .u16 (zs.getD i 0)) ∧ Below w.heap.size w w' := by
  have hmk := run_make_row' (P := Try.prog) 22 25 (.int .u16 0) 2 Try.underlying22 Try.info25 rfl .i64 .i64 len (by omega) (by omega)
  have q22 : ∀ (w : World) (a : Option Addr) (n c n' c' : Nat), (binOp .eql 22 (.slice a n c) (.slice none n' c')).run Try.prog w = .ok (.bool a.isNone) w := fun w a n c n' c' => Lib.run_eql_slice_nil w _ _ a n c n' c' Try.underlying22
  go_enter Try.func9, Try.ntmps9
  go_wp2
  go_loopw [12] (fun i wr => ∃ k : Nat, k ≤ len ∧ i = .int .i64 k ∧ wr.rowIs w.heap.size 25 len (fun j => if j < k then .int .u16 (zs.getD j 0) else .int .u16 0) ∧ Below w.heap.size w wr)
    (fun i _ => len - (intOf i).toNat)
  case atStart => exact ⟨0, Nat.zero_le _, rfl, (World.rowIs_made w (.int .u16 0) len 25).congr (by simp), (Below.refl _ _).alloc (Nat.le_refl _) _⟩
  case round =>
    obtain ⟨k, hk, rfl, hrow, hbel⟩ := hrel
    have hcx : k < len → wr.cell? ⟨b, off + k, none⟩ = some (.int .u16 (zs.getD k 0)) := fun h => (hbel.cell (by exact hb)).trans (hc k h)
    by_cases hlt : k < len
    · have c1 := hcx hlt
      have c2 := hrow.cell hlt
      have c3 := hrow.frozen k
      simp at c2
      go_wp2
      go_roundw
      case rel => 
        refine ⟨k+1, by omega, by go_num, (hrow.set k _).congr ?_, hbel.setCell (by exact Nat.le_refl _) _⟩
        intro j hj
        by_cases e : j = k
        · subst e; simp
        · simp [e]; by_cases e2 : j < k
          · simp [e2]; omega
          · simp [e2]; omega
      case measure => simp [intOf]; omega
    · go_wp2
      go_ret
      refine ⟨rfl, hrow.congr ?_, hbel⟩
      intro j hj
      simp; omega

end Go.Proofs.Qxb6000494a
