import Derived.Test.Qxb6600684aI
import Derived.ProofKit
import Derived.OpenShut
import Derived.ShutString
import Derived.ChangeOld
import Derived.Below
import Derived.Deep.Matrix
set_option linter.unusedVariables false
namespace Go.Proofs.Qxb6600684a
open Go.ChangeShapes Go.WideShapes Go.ChangeAt Go.RowKit

theorem addr_plain {w : World} {x : Addr} {i : Nat} {v v0 : Value} (h0 : w.cell? (x.add 0) = some v0) (h : w.cell? (x.add i) = some v) : ∃ b off, x = ⟨b, off, none⟩ ∧ w.cell? ⟨b, off + i, none⟩ = some v := by
  obtain ⟨b, off, spot⟩ := x
  have hspot : spot = none := by simpa [Addr.add] using World.cell?_spot h0
  subst hspot
  rw [add_plain] at h
  exact ⟨b, off, rfl, h⟩

theorem open_row {H : Type} {enc : TypeId × Value → H} {W : World} {t e : TypeId} {k : IntKind} {a : Option Addr} {len cap : Nat} {d : DataW H} {p : List MemPlace} (ht : Try.prog.underlying t = some (.slice e)) (he : Try.prog.underlying e = some (.int k)) (hc : Try.prog.cellsOf e = 1)
    (h : DataW.Trod enc Try.prog W 0 (fun _ => true) true t (.slice a len cap) d p) : ∃ zs : List Int, zs.length = len ∧ len ≤ maxLen ∧ Rd k W a zs ∧ wfL k zs := by
  obtain ⟨fuel, hf⟩ := h
  rcases open_ints ht he hc hf with ⟨hcs, _⟩ | ⟨x, l, c, zs, hcs, _, hl, hm, hz, _, hcell, hwz⟩
  · simp [Value.cells] at hcs
    obtain ⟨rfl, rfl, rfl⟩ := hcs
    exact ⟨[], rfl, Nat.zero_le _, fun i hi => absurd hi (by simp), fun n hn => by simp at hn⟩
  · simp [Value.cells] at hcs
    obtain ⟨rfl, rfl, rfl⟩ := hcs
    have hz' : zs.length = cap := by simpa using hz
    refine ⟨zs.take len, by simp; omega, Nat.le_trans hl hm, fun i hi => ?_, fun n hn => hwz n (List.mem_of_mem_take hn)⟩
    have hi' : i < len := by simp at hi; omega
    obtain ⟨b, off, rfl, h1⟩ := addr_plain (hcell 0 (by omega)) (hcell i (by omega))
    refine ⟨b, off, rfl, ?_⟩
    rw [h1]
    simp [List.getD, hi']

theorem open_rows {H : Type} {enc : TypeId × Value → H} {W : World} {a : Option Addr} {len cap : Nat} {d : DataW H} {p : List MemPlace}
    (h : DataW.Trod enc Try.prog W 0 (fun _ => true) true 34 (.slice a len cap) d p) : ∃ vs : List Value, vs.length = len ∧ len ≤ maxLen ∧ InV W a vs := by
  obtain ⟨fuel, hf⟩ := h
  rcases Deep.open_int_rows Try.underlying34 Try.underlying22 Try.underlying5 (by kernel_rfl) (by kernel_rfl) hf with ⟨hcs, _⟩ | ⟨x, l, c, A, L, C, Z, hcs, _, hl, hm, _, hr⟩
  · simp [Value.cells] at hcs
    obtain ⟨rfl, rfl, rfl⟩ := hcs
    exact ⟨[], rfl, Nat.zero_le _, fun i hi => absurd hi (by simp), fun v hv => by simp at hv⟩
  · simp [Value.cells] at hcs
    obtain ⟨rfl, rfl, rfl⟩ := hcs
    refine ⟨(List.range len).map fun r => .slice (A r) (L r) (C r), by simp, Nat.le_trans hl hm, fun i hi => ?_, fun v hv => ?_⟩
    · have hi' : i < len := by simpa using hi
      obtain ⟨h1, _⟩ := hr i (by omega)
      obtain ⟨b, off, rfl, h2⟩ := addr_plain (hr 0 (by omega)).1 h1
      refine ⟨b, off, rfl, ?_⟩
      rw [h2]
      simp [List.getD, hi']
    · obtain ⟨r, hr', rfl⟩ := List.mem_map.1 hv
      have hrl : r < len := by simpa using hr'
      obtain ⟨_, h2, h3, h4, _, h6, h7⟩ := hr r (by omega)
      have hz : ((Z r).take (L r)).length = L r := by simp; omega
      refine ⟨A r, (Z r).take (L r), C r, by rw [hz], by rw [hz]; exact Nat.le_trans h2 h3, fun i hi => ?_⟩
      have hi' : i < L r := by rw [hz] at hi; exact hi
      cases hA : A r with
      | none => have := h6 hA; omega
      | some a' =>
        obtain ⟨_, h8⟩ := h7 a' hA
        obtain ⟨b, off, rfl, h9⟩ := addr_plain (h8 0 (by omega)) (h8 i (by omega))
        refine ⟨b, off, rfl, ?_⟩
        rw [h9]
        simp [List.getD, hi']
end Go.Proofs.Qxb6600684a
