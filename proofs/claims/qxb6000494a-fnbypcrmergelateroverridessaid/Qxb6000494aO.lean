import Derived.Test.Qxb6000494aN
namespace Go.Proofs.Qxb6000494a
open Go.RowKit Go.Maps

def Rd (k : IntKind) (w : World) (ao : Option Addr) (zs : List Int) : Prop :=
  ∀ i, i < zs.length → ∃ b off, ao = some ⟨b, off, none⟩ ∧ w.cell? ⟨b, off + i, none⟩ = some (.int k (zs.getD i 0))

theorem Rd.below {k : IntKind} {w w' : World} {ao : Option Addr} {zs : List Int} (h : Rd k w ao zs) (hb : Below w.heap.size w w') : Rd k w' ao zs := fun i hi => by
  obtain ⟨b, off, e, hc⟩ := h i hi
  exact ⟨b, off, e, by rw [hb.cell (by exact World.block_lt_of_cell? w _ hc)]; exact hc⟩

theorem Rd.nil {k : IntKind} {w : World} {zs : List Int} (h : Rd k w none zs) : zs = [] := by
  cases zs with
  | nil => rfl
  | cons x l => obtain ⟨b, off, e, _⟩ := h 0 (by simp); cases e

theorem Rd.of_row {k : IntKind} {w : World} {b : Nat} {t : TypeId} {zs : List Int} (h : w.rowIs b t zs.length (fun i => .int k (zs.getD i 0))) : Rd k w (some ⟨b, 0, none⟩) zs := fun i hi =>
  ⟨b, 0, rfl, by rw [Nat.zero_add]; exact h.cell hi⟩

def GoodFrom (B : Nat) (w : World) (v : Value) : Prop :=
  ∃ ao n c, v = .slice ao n c ∧ n ≤ 1048576 ∧ ∀ i, i < n → ∃ b off z, ao = some ⟨b, off, none⟩ ∧ B ≤ b ∧ w.cell? ⟨b, off + i, none⟩ = some (.int .u8 z)

theorem GoodFrom.below {B : Nat} {w w' : World} {v : Value} (h : GoodFrom B w v) (hb : Below w.heap.size w w') : GoodFrom B w' v := by
  obtain ⟨ao, n, c, e, hn, hc⟩ := h
  refine ⟨ao, n, c, e, hn, fun i hi => ?_⟩
  obtain ⟨b, off, z, e1, e2, e3⟩ := hc i hi
  exact ⟨b, off, z, e1, e2, by rw [hb.cell (by exact World.block_lt_of_cell? w _ e3)]; exact e3⟩

theorem GoodFrom.set {B : Nat} {w : World} {v : Value} (h : GoodFrom B w v) {a : Addr} (ha : a.block < B) (u : Value) : GoodFrom B (w.setCell a u) v := by
  obtain ⟨ao, n, c, e, hn, hc⟩ := h
  refine ⟨ao, n, c, e, hn, fun i hi => ?_⟩
  obtain ⟨b, off, z, e1, e2, e3⟩ := hc i hi
  exact ⟨b, off, z, e1, e2, by rw [World.cell?_of_block (w := w) (Below.heap_setCell w a u b (by omega))]; exact e3⟩

theorem GoodFrom.mono {B B' : Nat} {w : World} {v : Value} (h : GoodFrom B w v) (hB : B' ≤ B) : GoodFrom B' w v := by
  obtain ⟨ao, n, c, e, hn, hc⟩ := h
  refine ⟨ao, n, c, e, hn, fun i hi => ?_⟩
  obtain ⟨b, off, z, e1, e2, e3⟩ := hc i hi
  exact ⟨b, off, z, e1, by omega, e3⟩

theorem goodNil (B : Nat) (w : World) (c : Nat) (ao : Option Addr) : GoodFrom B w (.slice ao 0 c) := ⟨ao, 0, c, rfl, by omega, fun i hi => absurd hi (by omega)⟩

set_option maxHeartbeats 1000000 in
theorem same_any (v : Value) (w : World) (hv : GoodFrom 0 w v) :
    Calls Try.prog 16 #[v, v] w fun e w' => e = .returned (.bool true) ∧ Below w.heap.size w w' := by
  obtain ⟨ao, n, c, rfl, hn, hc⟩ := hv
  have HC : Hid (∀ i, i < n → ∃ b off z, ao = some ⟨b, off, none⟩ ∧ 0 ≤ b ∧ w.cell? ⟨b, off + i, none⟩ = some (.int .u8 z)) := hc
  clear hc
  have q27 : ∀ (w : World) (a : Option Addr) (n c n' c' : Nat), (binOp .eql 27 (.slice a n c) (.slice none n' c')).run Try.prog w = .ok (.bool a.isNone) w := fun w a n c n' c' => Lib.run_eql_slice_nil w _ _ a n c n' c' Try.underlying27
  go_enter Try.func16, Try.ntmps16
  go_wp2
  go_loopw [18] (fun i wr => ∃ k m : Nat, k ≤ n ∧ i = .int .i64 k ∧ wr = w.drewN m) (fun i _ => n - (intOf i).toNat)
  case atStart => exact ⟨0, 0, Nat.zero_le _, rfl, rfl⟩
  case round =>
    obtain ⟨k, m, hk, rfl, rfl⟩ := hrel
    by_cases hlt : k < n
    · obtain ⟨b, off, z, rfl, _, c1⟩ := HC.out k hlt
      have b1 : (k : Int) < (n : Int) := by omega
      go_wp2
      go_quiet (fail)
      go_wp2
      go_roundw
      case rel => exact ⟨k + 1, _, by omega, by go_num, rfl⟩
      case measure => simp [intOf]; omega
    · go_wp2
      go_ret
      exact ⟨rfl, below_drewN (Below.refl _ _) _⟩

set_option maxHeartbeats 1000000 in
theorem clone16 (ao : Option Addr) (cap : Nat) (zs : List Int) (w : World) (hl : zs.length ≤ 4096) (hr : Rd .u16 w ao zs) :
    Calls Try.prog 9 #[.slice ao zs.length cap] w fun e w' => ∃ ao' c', e = .returned (.slice ao' zs.length c') ∧ Rd .u16 w' ao' zs ∧ Below w.heap.size w w' := by
  have HR : Hid (Rd .u16 w ao zs) := hr
  clear hr
  have hmk := run_make_row' (P := Try.prog) 22 25 (.int .u16 0) 2 Try.underlying22 Try.info25 rfl .i64 .i64 zs.length (by omega) (by omega)
  have q22 : ∀ (w : World) (a : Option Addr) (n c n' c' : Nat), (binOp .eql 22 (.slice a n c) (.slice none n' c')).run Try.prog w = .ok (.bool a.isNone) w := fun w a n c n' c' => Lib.run_eql_slice_nil w _ _ a n c n' c' Try.underlying22
  cases ao with
  | none =>
    obtain rfl := Rd.nil HR.out
    go_enter Try.func9, Try.ntmps9
    go_wp2
    go_ret
    exact ⟨none, 0, rfl, HR.out, Below.refl _ _⟩
  | some x =>
    go_enter Try.func9, Try.ntmps9
    go_wp2
    go_loopw [12] (fun i wr => ∃ k : Nat, k ≤ zs.length ∧ i = .int .i64 k ∧ wr.rowIs w.heap.size 25 zs.length (fun j => if j < k then .int .u16 (zs.getD j 0) else .int .u16 0) ∧ Below w.heap.size w wr)
      (fun i _ => zs.length - (intOf i).toNat)
    case atStart => exact ⟨0, Nat.zero_le _, rfl, (World.rowIs_made w (.int .u16 0) zs.length 25).congr (by simp), (Below.refl _ _).alloc (Nat.le_refl _) _⟩
    case round =>
      obtain ⟨k, hk, rfl, hrow, hbel⟩ := hrel
      by_cases hlt : k < zs.length
      · obtain ⟨b, off, e, hc⟩ := HR.out k hlt
        obtain rfl := Option.some.inj e
        have c1 : wr.cell? ⟨b, off + k, none⟩ = some (.int .u16 (zs.getD k 0)) := (hbel.cell (by exact World.block_lt_of_cell? w _ hc)).trans hc
        obtain ⟨y, hy⟩ : ∃ y, y = zs.getD k 0 := ⟨_, rfl⟩
        rw [← hy] at c1
        have HY : Hid (y = zs.getD k 0) := hy
        clear hy hc e
        obtain ⟨v0, c2⟩ : ∃ v, wr.cell? ⟨w.heap.size, k, none⟩ = some v := ⟨_, hrow.cell hlt⟩
        have c3 := hrow.frozen k
        go_wp2
        go_roundw
        case rel =>
          refine ⟨k+1, by omega, by go_num, (hrow.set k _).congr ?_, hbel.setCell (by exact Nat.le_refl _) _⟩
          intro j hj
          by_cases e : j = k
          · subst e; simp [HY.out]
          · have e3 : (j < k + 1) = (j < k) := propext (by omega)
            simp only [e, if_false, e3]
        case measure => simp [intOf]; omega
      · go_wp2
        go_ret
        refine ⟨_, _, rfl, Rd.of_row (t := 25) (hrow.congr ?_), hbel⟩
        intro j hj
        rw [if_pos (by omega)]

theorem Try.info3 : (Try.prog.info? 3).map (fun i => (i.zero, i.size, i.bytes)) = some (some (.int .i64 0), 1, 8) := by kernel_rfl

set_option maxHeartbeats 1000000 in
theorem clone64 (ao : Option Addr) (cap : Nat) (zs : List Int) (w : World) (hl : zs.length ≤ 4096) (hr : Rd .i64 w ao zs) :
    Calls Try.prog 10 #[.slice ao zs.length cap] w fun e w' => ∃ ao' c', e = .returned (.slice ao' zs.length c') ∧ Rd .i64 w' ao' zs ∧ Below w.heap.size w w' := by
  have HR : Hid (Rd .i64 w ao zs) := hr
  clear hr
  have hmk := run_make_row' (P := Try.prog) 23 3 (.int .i64 0) 8 Try.underlying23 Try.info3 rfl .i64 .i64 zs.length (by omega) (by omega)
  have q23 : ∀ (w : World) (a : Option Addr) (n c n' c' : Nat), (binOp .eql 23 (.slice a n c) (.slice none n' c')).run Try.prog w = .ok (.bool a.isNone) w := fun w a n c n' c' => Lib.run_eql_slice_nil w _ _ a n c n' c' Try.underlying23
  cases ao with
  | none =>
    obtain rfl := Rd.nil HR.out
    go_enter Try.func10, Try.ntmps10
    go_wp2
    go_ret
    exact ⟨none, 0, rfl, HR.out, Below.refl _ _⟩
  | some x =>
    go_enter Try.func10, Try.ntmps10
    go_wp2
    go_loopw [12] (fun i wr => ∃ k : Nat, k ≤ zs.length ∧ i = .int .i64 k ∧ wr.rowIs w.heap.size 3 zs.length (fun j => if j < k then .int .i64 (zs.getD j 0) else .int .i64 0) ∧ Below w.heap.size w wr)
      (fun i _ => zs.length - (intOf i).toNat)
    case atStart => exact ⟨0, Nat.zero_le _, rfl, (World.rowIs_made w (.int .i64 0) zs.length 3).congr (by simp), (Below.refl _ _).alloc (Nat.le_refl _) _⟩
    case round =>
      obtain ⟨k, hk, rfl, hrow, hbel⟩ := hrel
      by_cases hlt : k < zs.length
      · obtain ⟨b, off, e, hc⟩ := HR.out k hlt
        obtain rfl := Option.some.inj e
        have c1 : wr.cell? ⟨b, off + k, none⟩ = some (.int .i64 (zs.getD k 0)) := (hbel.cell (by exact World.block_lt_of_cell? w _ hc)).trans hc
        obtain ⟨y, hy⟩ : ∃ y, y = zs.getD k 0 := ⟨_, rfl⟩
        rw [← hy] at c1
        have HY : Hid (y = zs.getD k 0) := hy
        clear hy hc e
        obtain ⟨v0, c2⟩ : ∃ v, wr.cell? ⟨w.heap.size, k, none⟩ = some v := ⟨_, hrow.cell hlt⟩
        have c3 := hrow.frozen k
        go_wp2
        go_roundw
        case rel =>
          refine ⟨k+1, by omega, by go_num, (hrow.set k _).congr ?_, hbel.setCell (by exact Nat.le_refl _) _⟩
          intro j hj
          by_cases e : j = k
          · subst e; simp [HY.out]
          · have e3 : (j < k + 1) = (j < k) := propext (by omega)
            simp only [e, if_false, e3]
        case measure => simp [intOf]; omega
      · go_wp2
        go_ret
        refine ⟨_, _, rfl, Rd.of_row (t := 3) (hrow.congr ?_), hbel⟩
        intro j hj
        rw [if_pos (by omega)]

end Go.Proofs.Qxb6000494a
