import Derived.Test.Qxb6600684aRows
import Derived.WalkKit
import Derived.WalkSpells
import Derived.WalkLawsBesides
import Derived.Deep.OwnRows
import Derived.Deep.QuietTactic
import Derived.BigQuiet
set_option linter.unusedVariables false
namespace Go.Proofs.Qxb6600684a
open Go.RowKit

def Rd (k : IntKind) (w : World) (ao : Option Addr) (zs : List Int) : Prop :=
  ∀ i, i < zs.length → ∃ b off, ao = some ⟨b, off, none⟩ ∧ w.cell? ⟨b, off + i, none⟩ = some (.int k (zs.getD i 0))

theorem Rd.below {k : IntKind} {w w' : World} {ao : Option Addr} {zs : List Int} (h : Rd k w ao zs) (hb : Below w.heap.size w w') : Rd k w' ao zs := fun i hi => by
  obtain ⟨b, off, e, hc⟩ := h i hi
  exact ⟨b, off, e, by rw [hb.cell (by exact World.block_lt_of_cell? w _ hc)]; exact hc⟩

theorem Rd.nil {k : IntKind} {w : World} {zs : List Int} (h : Rd k w none zs) : zs = [] := by
  cases zs with
  | nil => rfl
  | cons x l => obtain ⟨b, off, e, _⟩ := h 0 (by simp); cases e

theorem Rd.of_row {k : IntKind} {w : World} {b : Nat} {t : TypeId} {zs : List Int} (h : w.rowIs b t zs.length (fun i => .int k (zs.getD i 0))) : Rd k w (some ⟨b, 0, none⟩) zs := fun i hi =>
  ⟨b, 0, rfl, by rw [Nat.zero_add]; exact h.cell hi⟩

def wfL (k : IntKind) (zs : List Int) : Prop := ∀ n ∈ zs, (Lit.int k n).wf = true
theorem getD_mem (l : List Int) (i : Nat) (h : i < l.length) : l.getD i 0 ∈ l := by simp [List.getD, h]
theorem take_snoc (l : List Int) (k : Nat) (h : k < l.length) : l.take (k + 1) = l.take k ++ [l.getD k 0] := by
  rw [List.take_succ_eq_append_getElem h]; simp [List.getD, h]
theorem u8_bd {n : Int} (h : (Lit.int .u8 n).wf = true) : 0 ≤ n ∧ n ≤ 255 := by
  simp [Lit.wf, IntKind.min, IntKind.max, IntKind.signed, IntKind.bits] at h
  omega
theorem wf_u8 {c : Int} (h0 : 0 ≤ c) (h1 : c ≤ 255) : (Lit.int .u8 c).wf = true := WalkArith.wf_u8 (by omega)
theorem bt {a b c : World} (h : Below a.heap.size a b) (k : Below b.heap.size b c) : Below a.heap.size a c := h.trans (k.mono h.size)

/-! ### the bytes of a string -/
def bs (s : ByteArray) : List Int := s.data.toList.map (fun b => (b.toNat : Int))
theorem bs_len (s : ByteArray) : (bs s).length = s.size := by simp [bs]
theorem bs_wf (s : ByteArray) : wfL .u8 (bs s) := fun n hn => by
  obtain ⟨b, _, rfl⟩ := List.mem_map.1 hn
  have := b.toNat_lt
  exact wf_u8 (by omega) (by omega)
theorem bs_at (s : ByteArray) (k : Nat) (hk : k < s.size) : (bs s).getD k 0 = ((s[k]'hk).toNat : Int) := by
  have h : k < s.data.size := hk
  simp [bs, List.getD]
  rw [Array.getElem?_eq_getElem h]
  rfl
theorem idx_str (s : ByteArray) (k : Nat) (hk : k < s.size) (w : World) : (Instr.index 9 (.string s) (.int .i64 (k : Int))).run Try.prog w = .ok (.int .u8 ((bs s).getD k 0)) w := by
  rw [run_index_string _ _ _ _ _ Try.underlying9, dif_pos (by omega), bs_at s k hk]
  simp

theorem Try.info5 : (Try.prog.info? 5).map (fun i => (i.zero, i.size, i.bytes)) = some (some (.int .u8 0), 1, 1) := by kernel_rfl

set_option maxHeartbeats 1000000 in
theorem clone8 (ao : Option Addr) (cap : Nat) (zs : List Int) (w : World) (hl : zs.length ≤ 1048576) (hr : Rd .u8 w ao zs) :
    Calls Try.prog 8 #[.slice ao zs.length cap] w fun e w' => ∃ ao' c', e = .returned (.slice ao' zs.length c') ∧ zs.length ≤ c' ∧ c' ≤ 1048576 ∧ Rd .u8 w' ao' zs ∧ (ao' = none → c' = 0) ∧ Below w.heap.size w w' := by
  have HR : Hid (Rd .u8 w ao zs) := hr
  clear hr
  have hmk := run_make_row' (P := Try.prog) 22 5 (.int .u8 0) 1 Try.underlying22 Try.info5 rfl .i64 .i64 zs.length (by omega) (by omega)
  have q22 : ∀ (w : World) (a : Option Addr) (n c n' c' : Nat), (binOp .eql 22 (.slice a n c) (.slice none n' c')).run Try.prog w = .ok (.bool a.isNone) w := fun w a n c n' c' => Lib.run_eql_slice_nil w _ _ a n c n' c' Try.underlying22
  cases ao with
  | none =>
    obtain rfl := Rd.nil HR.out
    go_enter Try.func8, Try.ntmps8
    go_wp2
    go_ret
    exact ⟨none, 0, rfl, Nat.le_refl _, by omega, HR.out, fun _ => rfl, Below.refl _ _⟩
  | some x =>
    go_enter Try.func8, Try.ntmps8
    go_wp2
    go_loopw [4] (fun i wr => ∃ k : Nat, k ≤ zs.length ∧ i = .int .i64 k ∧ wr.rowIs w.heap.size 5 zs.length (fun j => if j < k then .int .u8 (zs.getD j 0) else .int .u8 0) ∧ Below w.heap.size w wr)
      (fun i _ => zs.length - (intOf i).toNat)
    case atStart => exact ⟨0, Nat.zero_le _, rfl, (World.rowIs_made w (.int .u8 0) zs.length 5).congr (by simp), (Below.refl _ _).alloc (Nat.le_refl _) _⟩
    case round =>
      obtain ⟨k, hk, rfl, hrow, hbel⟩ := hrel
      by_cases hlt : k < zs.length
      · obtain ⟨b, off, e, hc⟩ := HR.out k hlt
        obtain rfl := Option.some.inj e
        have c1 : wr.cell? ⟨b, off + k, none⟩ = some (.int .u8 (zs.getD k 0)) := (hbel.cell (by exact World.block_lt_of_cell? w _ hc)).trans hc
        obtain ⟨y, hy⟩ : ∃ y, y = zs.getD k 0 := ⟨_, rfl⟩
        rw [← hy] at c1
        have HY : Hid (y = zs.getD k 0) := hy
        clear hy hc e
        obtain ⟨v0, c2⟩ : ∃ v, wr.cell? ⟨w.heap.size, k, none⟩ = some v := ⟨_, hrow.cell hlt⟩
        have c3 := hrow.frozen k
        go_wp2
        go_roundw
        case rel =>
          refine ⟨k+1, by omega, by go_num, (hrow.set k _).congr ?_, hbel.setCell (by exact Nat.le_refl _) _⟩
          intro j hj
          by_cases e : j = k
          · subst e; simp [HY.out]
          · have e3 : (j < k + 1) = (j < k) := propext (by omega)
            simp only [e, if_false, e3]
        case measure => simp [intOf]; omega
      · go_wp2
        go_ret
        refine ⟨_, _, rfl, Nat.le_refl _, hl, Rd.of_row (t := 5) (hrow.congr ?_), (fun h => by cases h), hbel⟩
        intro j hj
        rw [if_pos (by omega)]

end Go.Proofs.Qxb6600684a
