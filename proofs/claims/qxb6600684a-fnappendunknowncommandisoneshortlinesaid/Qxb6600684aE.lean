import Derived.Test.Qxb6600684aC
set_option linter.unusedVariables false
namespace Go.Proofs.Qxb6600684a
open Go.RowKit

/-- v is a byte slice of the law's own: nil, or a whole row of the numbers zs, at a block from B on -/
def CV (B : Nat) (w : World) (v : Value) (zs : List Int) : Prop :=
  (v = .slice none 0 0 ∧ zs = []) ∨ ∃ g, v = .slice (some ⟨g, 0, none⟩) zs.length zs.length ∧ B ≤ g ∧ ∀ i, i < zs.length → w.cell? ⟨g, i, none⟩ = some (.int .u8 (zs.getD i 0))

theorem CV.shape {B : Nat} {w : World} {v : Value} {zs : List Int} (h : CV B w v zs) : ∃ ao, v = .slice ao zs.length zs.length ∧ Rd .u8 w ao zs ∧ (ao = none ∨ ∃ g, ao = some ⟨g, 0, none⟩) := by
  rcases h with ⟨rfl, rfl⟩ | ⟨g, rfl, _, hc⟩
  · exact ⟨none, rfl, fun i hi => absurd hi (by simp), .inl rfl⟩
  · exact ⟨_, rfl, fun i hi => ⟨g, 0, rfl, by rw [Nat.zero_add]; exact hc i hi⟩, .inr ⟨g, rfl⟩⟩

theorem CV.below {B : Nat} {w w' : World} {v : Value} {zs : List Int} (h : CV B w v zs) (hb : Below w.heap.size w w') : CV B w' v zs := by
  rcases h with h | ⟨g, e, hB, hc⟩
  · exact .inl h
  · exact .inr ⟨g, e, hB, fun i hi => by rw [hb.cell (by exact World.block_lt_of_cell? w _ (hc i hi))]; exact hc i hi⟩

theorem CV.set {B : Nat} {w : World} {v : Value} {zs : List Int} (h : CV B w v zs) {a : Addr} (ha : a.block < B) (u : Value) : CV B (w.setCell a u) v zs := by
  rcases h with h | ⟨g, e, hB, hc⟩
  · exact .inl h
  · exact .inr ⟨g, e, hB, fun i hi => by rw [World.cell?_of_block (w := w) (Below.heap_setCell w a u g (by omega))]; exact hc i hi⟩

theorem CV.mono {B B' : Nat} {w : World} {v : Value} {zs : List Int} (h : CV B w v zs) (hB : B' ≤ B) : CV B' w v zs := by
  rcases h with h | ⟨g, e, hg, hc⟩
  · exact .inl h
  · exact .inr ⟨g, e, by omega, hc⟩

set_option maxHeartbeats 1000000 in
theorem clone8v (ao : Option Addr) (cap : Nat) (zs : List Int) (w : World) (hl : zs.length ≤ 1048576) (hr : Rd .u8 w ao zs) :
    Calls Try.prog 8 #[.slice ao zs.length cap] w fun e w' => ∃ v, e = .returned v ∧ CV w.heap.size w' v zs ∧ Below w.heap.size w w' := by
  have HR : Hid (Rd .u8 w ao zs) := hr
  clear hr
  have hmk := run_make_row' (P := Try.prog) 22 5 (.int .u8 0) 1 Try.underlying22 Try.info5 rfl .i64 .i64 zs.length (by omega) (by omega)
  have q22 : ∀ (w : World) (a : Option Addr) (n c n' c' : Nat), (binOp .eql 22 (.slice a n c) (.slice none n' c')).run Try.prog w = .ok (.bool a.isNone) w := fun w a n c n' c' => Lib.run_eql_slice_nil w _ _ a n c n' c' Try.underlying22
  cases ao with
  | none =>
    obtain rfl := Rd.nil HR.out
    go_enter Try.func8, Try.ntmps8
    go_wp2
    go_ret
    exact ⟨_, rfl, .inl ⟨rfl, rfl⟩, Below.refl _ _⟩
  | some x =>
    go_enter Try.func8, Try.ntmps8
    go_wp2
    go_loopw [4] (fun i wr => ∃ k : Nat, k ≤ zs.length ∧ i = .int .i64 k ∧ wr.rowIs w.heap.size 5 zs.length (fun j => if j < k then .int .u8 (zs.getD j 0) else .int .u8 0) ∧ Below w.heap.size w wr)
      (fun i _ => zs.length - (intOf i).toNat)
    case atStart => exact ⟨0, Nat.zero_le _, rfl, (World.rowIs_made w (.int .u8 0) zs.length 5).congr (by simp), (Below.refl _ _).alloc (Nat.le_refl _) _⟩
    case round =>
      obtain ⟨k, hk, rfl, hrow, hbel⟩ := hrel
      by_cases hlt : k < zs.length
      · obtain ⟨b, off, e, hc⟩ := HR.out k hlt
        obtain rfl := Option.some.inj e
        have c1 : wr.cell? ⟨b, off + k, none⟩ = some (.int .u8 (zs.getD k 0)) := (hbel.cell (by exact World.block_lt_of_cell? w _ hc)).trans hc
        obtain ⟨y, hy⟩ : ∃ y, y = zs.getD k 0 := ⟨_, rfl⟩
        rw [← hy] at c1
        have HY : Hid (y = zs.getD k 0) := hy
        clear hy hc e
        obtain ⟨v0, c2⟩ : ∃ v, wr.cell? ⟨w.heap.size, k, none⟩ = some v := ⟨_, hrow.cell hlt⟩
        have c3 := hrow.frozen k
        go_wp2
        go_roundw
        case rel =>
          refine ⟨k+1, by omega, by go_num, (hrow.set k _).congr ?_, hbel.setCell (by exact Nat.le_refl _) _⟩
          intro j hj
          by_cases e : j = k
          · subst e; simp [HY.out]
          · have e3 : (j < k + 1) = (j < k) := propext (by omega)
            simp only [e, if_false, e3]
        case measure => simp [intOf]; omega
      · go_wp2
        go_ret
        refine ⟨_, rfl, .inr ⟨_, rfl, Nat.le_refl _, fun i hi => ?_⟩, hbel⟩
        rw [hrow.cell hi, if_pos (by omega)]

/-! ### the arguments -/
def nilS : Value := .slice none 0 0
def VRd (w : World) (ao : Option Addr) (vs : List Value) : Prop :=
  ∀ i, i < vs.length → ∃ b off, ao = some ⟨b, off, none⟩ ∧ w.cell? ⟨b, off + i, none⟩ = some (vs.getD i nilS)
def lenV : Value → Nat | .slice _ n _ => n | _ => 0
theorem getD_memV (l : List Value) (i : Nat) (h : i < l.length) : l.getD i nilS ∈ l := by simp [List.getD, h]

/-- what is known of a [][]byte that came in -/
def InV (w : World) (ao : Option Addr) (vs : List Value) : Prop :=
  VRd w ao vs ∧ ∀ v ∈ vs, ∃ a zs c, v = .slice a zs.length c ∧ zs.length ≤ maxLen ∧ Rd .u8 w a zs

theorem InV.below {w w' : World} {ao : Option Addr} {vs : List Value} (h : InV w ao vs) (hb : Below w.heap.size w w') : InV w' ao vs :=
  ⟨fun i hi => by
    obtain ⟨b, off, e, hc⟩ := h.1 i hi
    exact ⟨b, off, e, by rw [hb.cell (by exact World.block_lt_of_cell? w _ hc)]; exact hc⟩,
   fun v hv => by
    obtain ⟨a, zs, c, e, hl, hr⟩ := h.2 v hv
    exact ⟨a, zs, c, e, hl, hr.below hb⟩⟩

theorem InV.at {w : World} {ao : Option Addr} {vs : List Value} (h : InV w ao vs) {k : Nat} (hk : k < vs.length) :
    ∃ b off a zs c, ao = some ⟨b, off, none⟩ ∧ w.cell? ⟨b, off + k, none⟩ = some (.slice a zs.length c) ∧ zs.length ≤ maxLen ∧ lenV (vs.getD k nilS) = zs.length ∧ Rd .u8 w a zs := by
  obtain ⟨b, off, e, hc⟩ := h.1 k hk
  obtain ⟨a, zs, c, hv, hn, hr⟩ := h.2 _ (getD_memV vs k hk)
  exact ⟨b, off, a, zs, c, e, by rw [hc, hv], hn, by rw [hv]; rfl, hr⟩

def lensOk (vs : List Value) (k : Nat) : Prop := ∀ i, i < k → lenV (vs.getD i nilS) ≤ 1048576

/-- what zzBytes leaves -/
def RetL (w : World) (p : Prop) (e : Ending) (w' : World) : Prop := ∃ r, e = .returned (.bool r) ∧ w' = w ∧ (r = true → p)

set_option maxHeartbeats 2000000 in
theorem zz20_any (a0 a1 : Option Addr) (l0 c0 c1 : Nat) (vs : List Value) (w : World) (m0 : l0 ≤ maxLen) (m1 : vs.length ≤ maxLen) (hv : InV w a1 vs) :
    Calls Try.prog 20 #[.slice a0 l0 c0, .slice a1 vs.length c1] w (RetL w (lensOk vs vs.length)) := by
  have HV : Hid (InV w a1 vs) := hv
  clear hv
  unfold maxLen at m0 m1
  by_cases hT : l0 + vs.length ≤ 1048576
  · go_enter Try.func20, Try.ntmps20
    go_wp2
    go_loop [5, 6] (fun t i => ∃ (k : Nat) (s : Int), k ≤ vs.length ∧ i = .int .i64 k ∧ t = .int .i64 s ∧ 0 ≤ s ∧ s ≤ 1048576 ∧ Hid (lensOk vs k)) (fun _ i => vs.length - (intOf i).toNat)
    case atStart => exact ⟨0, _, Nat.zero_le _, rfl, rfl, by omega, by omega, fun i hi => absurd hi (by omega)⟩
    case round =>
      obtain ⟨k, s, hk, rfl, rfl, h0, h1, HL⟩ := hrel
      by_cases hlt : k < vs.length
      · obtain ⟨b, off, a, zs, c, rfl, g1, hn, hln, _⟩ := HV.out.at hlt
        unfold maxLen at hn
        have HN : Hid (lenV (vs.getD k nilS) = zs.length) := hln
        clear hln
        by_cases h2 : zs.length ≤ 1048576
        · by_cases h3 : s + zs.length ≤ 1048576
          · go_wp2
            go_round
            case rel =>
              refine ⟨k + 1, _, by omega, by go_num, rfl, by omega, by omega, fun i hi => ?_⟩
              by_cases e : i = k
              · rw [e, HN.out]; exact h2
              · exact HL.out i (by omega)
            case measure => simp [intOf]; omega
          · go_wp2
            go_ret
            exact ⟨false, rfl, rfl, fun h => by cases h⟩
        · go_wp2
          go_ret
          exact ⟨false, rfl, rfl, fun h => by cases h⟩
      · obtain rfl : k = vs.length := by omega
        go_wp2
        go_ret
        exact ⟨true, rfl, rfl, fun _ => HL.out⟩
  · go_enter Try.func20, Try.ntmps20
    go_wp2
    all_goals
      go_ret
      exact ⟨false, rfl, rfl, fun h => by cases h⟩

theorem Try.info22 : (Try.prog.info? 22).map (fun i => (i.zero, i.size, i.bytes)) = some (some (.slice none 0 0), 1, 24) := by kernel_rfl

/-- the law's own copy of the arguments: a whole row at block g of byte slices of its own -/
def Args (w : World) (g : Nat) (vs : List Value) : Prop :=
  (∀ i, i < vs.length → w.cell? ⟨g, i, none⟩ = some (vs.getD i nilS)) ∧ ∀ v ∈ vs, ∃ zs, CV 0 w v zs ∧ zs.length ≤ 1048576

theorem Args.below {w w' : World} {g : Nat} {vs : List Value} (h : Args w g vs) (hb : Below w.heap.size w w') : Args w' g vs :=
  ⟨fun i hi => by rw [hb.cell (by exact World.block_lt_of_cell? w _ (h.1 i hi))]; exact h.1 i hi, fun v hv => by
    obtain ⟨zs, h1, h2⟩ := h.2 v hv
    exact ⟨zs, h1.below hb, h2⟩⟩

set_option maxHeartbeats 2000000 in
theorem cloneArgs (ao : Option Addr) (cap : Nat) (vs : List Value) (w : World) (hl : vs.length ≤ 65536) (hne : 0 < vs.length) (hv : InV w ao vs) (hlen : lensOk vs vs.length) :
    Calls Try.prog 21 #[.slice ao vs.length cap] w fun e w' => ∃ vs', vs'.length = vs.length ∧ e = .returned (.slice (some ⟨w.heap.size, 0, none⟩) vs.length vs.length) ∧ Args w' w.heap.size vs' ∧ Below w.heap.size w w' := by
  have HV : Hid (InV w ao vs) := hv
  have HLN : Hid (lensOk vs vs.length) := hlen
  obtain ⟨x, rfl⟩ : ∃ x, ao = some x := by obtain ⟨b, off, e, _⟩ := hv.1 0 hne; exact ⟨_, e⟩
  clear hv hlen
  have hmk := run_make_row' (P := Try.prog) 34 22 (.slice none 0 0) 24 Try.underlying34 Try.info22 rfl .i64 .i64 vs.length (by omega) (by omega)
  have q34 : ∀ (w : World) (a : Option Addr) (n c n' c' : Nat), (binOp .eql 34 (.slice a n c) (.slice none n' c')).run Try.prog w = .ok (.bool a.isNone) w := fun w a n c n' c' => Lib.run_eql_slice_nil w _ _ a n c n' c' Try.underlying34
  go_enter Try.func21, Try.ntmps21
  go_wp2
  go_loopw [4] (fun i wr => ∃ k : Nat, k ≤ vs.length ∧ i = .int .i64 k ∧ Hid (∃ us : Nat → Value, wr.rowIs w.heap.size 22 vs.length us ∧ ∀ j, j < k → ∃ zs, CV (w.heap.size + 1) wr (us j) zs ∧ zs.length ≤ 1048576) ∧ Below w.heap.size w wr)
    (fun i _ => vs.length - (intOf i).toNat)
  case atStart => exact ⟨0, Nat.zero_le _, rfl, ⟨_, World.rowIs_made w (.slice none 0 0) vs.length 22, fun j hj => absurd hj (by omega)⟩, (Below.refl _ _).alloc (Nat.le_refl _) _⟩
  case round =>
    obtain ⟨k, hk, rfl, HU, hbel⟩ := hrel
    by_cases hlt : k < vs.length
    · obtain ⟨us, hrow, hgood⟩ := HU.out
      have HGD : Hid (∀ j, j < k → ∃ zs, CV (w.heap.size + 1) wr (us j) zs ∧ zs.length ≤ 1048576) := hgood
      have HROW : Hid (wr.rowIs w.heap.size 22 vs.length us) := hrow
      obtain ⟨b, off, a, zs, c, e, g1, hn, hln, hr⟩ := (HV.out.below hbel).at hlt
      have hz : zs.length ≤ 1048576 := by rw [← hln]; exact HLN.out k hlt
      obtain rfl := Option.some.inj e
      have HR : Hid (Rd .u8 wr a zs) := hr
      have hB : w.heap.size < wr.heap.size := hrow.lt
      clear hgood hrow hln hr e HU
      go_wp2_with fail
      refine (clone8v a c zs _ hz HR.out).mono ?_
      rintro e w1 ⟨v, rfl, hcv, hb1⟩
      have hrow1 := HROW.out.of_block (hb1.block _ hB)
      obtain ⟨v0, d3⟩ : ∃ v, w1.cell? ⟨w.heap.size, k, none⟩ = some v := ⟨_, hrow1.cell hlt⟩
      have d4 := hrow1.frozen k
      have HR1 : Hid (w1.rowIs w.heap.size 22 vs.length us) := hrow1
      have HCV : Hid (CV (w.heap.size + 1) w1 v zs) := hcv.mono hB
      obtain ⟨ao', rfl, _, _⟩ := hcv.shape
      have HG1 : Hid (∀ j, j < k → ∃ zs, CV (w.heap.size + 1) w1 (us j) zs ∧ zs.length ≤ 1048576) := fun j hj => by
        obtain ⟨ys, h1, h2⟩ := HGD.out j hj
        exact ⟨ys, h1.below hb1, h2⟩
      have hb2 := bt hbel hb1
      clear hcv hrow1 hb1 HGD HROW
      go_wp2
      go_roundw
      case rel =>
        refine ⟨k + 1, by omega, by go_num, ⟨_, HR1.out.set k _, fun j hj => ?_⟩, hb2.setCell (by exact Nat.le_refl _) _⟩
        by_cases e : j = k
        · simp only [e, if_true]
          exact ⟨zs, HCV.out.set (by simp) _, hz⟩
        · simp only [e, if_false]
          obtain ⟨ys, h1, h2⟩ := HG1.out j (by omega)
          exact ⟨ys, h1.set (by simp) _, h2⟩
      case measure => simp [intOf]; omega
    · obtain rfl : k = vs.length := by omega
      go_wp2
      go_ret
      obtain ⟨us, hrow, hgood⟩ := HU.out
      refine ⟨(List.range vs.length).map us, by simp, rfl, ⟨fun i hi => ?_, fun v hv => ?_⟩, hbel⟩
      · have hi' : i < vs.length := by simpa using hi
        rw [hrow.cell hi']
        simp [List.getD, hi']
      · obtain ⟨i, hi, rfl⟩ := List.mem_map.1 hv
        have hi' : i < vs.length := by simpa using hi
        obtain ⟨ys, h1, h2⟩ := hgood i hi'
        exact ⟨ys, h1.mono (Nat.zero_le _), h2⟩

end Go.Proofs.Qxb6600684a
