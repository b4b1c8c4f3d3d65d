import Derived.Test.Qxb6000706aRows
import Derived.WalkKit
import Derived.WalkSpells
import Derived.WalkLawsBesides
import Derived.Deep.OwnRows
import Derived.Deep.QuietTactic
import Derived.BigQuiet
import Derived.Laws.CopyOwn
set_option linter.unusedVariables false
namespace Go.Proofs.Qxb6000706a
open Go.RowKit

def Rd (k : IntKind) (w : World) (ao : Option Addr) (zs : List Int) : Prop :=
  ∀ i, i < zs.length → ∃ b off, ao = some ⟨b, off, none⟩ ∧ w.cell? ⟨b, off + i, none⟩ = some (.int k (zs.getD i 0))

theorem Rd.below {k : IntKind} {w w' : World} {ao : Option Addr} {zs : List Int} (h : Rd k w ao zs) (hb : Below w.heap.size w w') : Rd k w' ao zs := fun i hi => by
  obtain ⟨b, off, e, hc⟩ := h i hi
  exact ⟨b, off, e, by rw [hb.cell (by exact World.block_lt_of_cell? w _ hc)]; exact hc⟩

theorem Rd.nil {k : IntKind} {w : World} {zs : List Int} (h : Rd k w none zs) : zs = [] := by
  cases zs with
  | nil => rfl
  | cons x l => obtain ⟨b, off, e, _⟩ := h 0 (by simp); cases e

/-- a block whose cells are the numbers zs -/
theorem Rd.of_block {k : IntKind} {w : World} {g : Nat} {t : TypeId} {zs : List Int} (h : w.heap[g]? = some (.cells (zs.map (Value.int k)).toArray t (0, 0))) : Rd k w (some ⟨g, 0, none⟩) zs := fun i hi =>
  ⟨g, 0, rfl, by rw [Nat.zero_add, cell_of_row _ _ i _ t (0, 0) h]; simp [List.getD, hi]⟩

def wfL (k : IntKind) (zs : List Int) : Prop := ∀ n ∈ zs, (Lit.int k n).wf = true

theorem getD_mem (l : List Int) (i : Nat) (h : i < l.length) : l.getD i 0 ∈ l := by simp [List.getD, h]
theorem take_snoc (l : List Int) (k : Nat) (h : k < l.length) : l.take (k + 1) = l.take k ++ [l.getD k 0] := by
  rw [List.take_succ_eq_append_getElem h]; simp [List.getD, h]

theorem u8_bd {n : Int} (h : (Lit.int .u8 n).wf = true) : 0 ≤ n ∧ n ≤ 255 := by
  simp [Lit.wf, IntKind.min, IntKind.max, IntKind.signed, IntKind.bits] at h
  omega

end Go.Proofs.Qxb6000706a
