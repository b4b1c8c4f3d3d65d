import Derived.Test.Qxb6000494aM
namespace Go.Proofs.Qxb6000494a
open Go.RowKit Go.Maps

def pv0 : PV := ((0, 0), .slice none 0 0)
def pvF (vs : List PV) (j : Nat) : Value :=
  if j % 3 = 0 then .int .u16 (vs.getD (j / 3) pv0).1.1 else if j % 3 = 1 then .int .i64 (vs.getD (j / 3) pv0).1.2 else (vs.getD (j / 3) pv0).2

def Row (w : World) (b : Nat) (vs : List PV) : Prop := w.rowIs b 39 (vs.length * 3) (pvF vs)

def isSl (v : Value) : Prop := ∃ ao n c, v = .slice ao n c
def slOk (vs : List PV) : Prop := ∀ kv ∈ vs, isSl kv.2

theorem Row.cells {w : World} {b : Nat} {vs : List PV} (h : Row w b vs) {k : Nat} (hk : k < vs.length) :
    w.cell? ⟨b, k * 3, none⟩ = some (.int .u16 (vs.getD k pv0).1.1) ∧ w.cell? ⟨b, k * 3 + 1, none⟩ = some (.int .i64 (vs.getD k pv0).1.2) ∧ w.cell? ⟨b, k * 3 + 2, none⟩ = some (vs.getD k pv0).2 := by
  have h1 : (k * 3 + 1) / 3 = k := by omega
  have h2 : (k * 3 + 1) % 3 = 1 := by omega
  have h3 : (k * 3 + 2) / 3 = k := by omega
  have h4 : (k * 3 + 2) % 3 = 2 := by omega
  refine ⟨?_, ?_, ?_⟩
  · rw [World.rowIs.cell h (by omega)]; simp [pvF]
  · rw [World.rowIs.cell h (by omega)]; simp only [pvF, h1, h2]; simp
  · rw [World.rowIs.cell h (by omega)]; simp only [pvF, h3, h4]; simp

theorem Row.below {w w' : World} {B b : Nat} {vs : List PV} (h : Row w b vs) (hb : Below B w w') (hB : b < B) : Row w' b vs :=
  World.rowIs.of_block h (hb.block b hB)

theorem getD_memP (l : List PV) (i : Nat) (h : i < l.length) : l.getD i pv0 ∈ l := by
  simp [List.getD, h]

theorem take_snocP (l : List PV) (k : Nat) (h : k < l.length) : l.take (k + 1) = l.take k ++ [l.getD k pv0] := by
  rw [List.take_succ_eq_append_getElem h]; simp [List.getD, h]

set_option maxHeartbeats 1000000 in
theorem byPCR_any (bv : Nat) (vs : List PV) (w : World) (hl : vs.length ≤ 10000) (hr : Row w bv vs) (hwf : allWf vs) (hsl : slOk vs) :
    Calls Try.prog 26 #[.slice (some ⟨bv, 0, none⟩) vs.length vs.length] w fun e w' => ∃ b, e = .returned (.map (some b)) ∧ w.heap.size ≤ b ∧ Mp w' b vs ∧ Below w.heap.size w w' := by
  have hb : bv < w.heap.size := World.rowIs.lt hr
  have hmm : ∀ (w : World) (n : Int), (Instr.makeMap 33 (some (.int .i64 n))).run Try.prog w = .ok (.map (some w.heap.size)) (w.alloc (.map #[] 0)) := fun w n => by
    simp [Instr.makeMap, run_underlying Try.underlying33, asInt, asIntOf]
  go_enter Try.func26, Try.ntmps26
  go_wp2
  go_loopw [11] (fun i wr => ∃ k : Nat, k ≤ vs.length ∧ i = .int .i64 k ∧ Mp wr w.heap.size (vs.take k) ∧ Below w.heap.size w wr)
    (fun i _ => vs.length - (intOf i).toNat)
  case atStart => exact ⟨0, Nat.zero_le _, rfl, Mp_made w, (Below.refl _ _).alloc (Nat.le_refl _) _⟩
  case round =>
    obtain ⟨k, hk, rfl, hmp, hbel⟩ := hrel
    by_cases hlt : k < vs.length
    · obtain ⟨c0, c1, c2⟩ := (hr.below hbel hb).cells hlt
      have hw := hwf _ (getD_memP vs k hlt)
      obtain ⟨ao, n, c, hs⟩ := hsl _ (getD_memP vs k hlt)
      have HT : Hid (vs.take (k + 1) = vs.take k ++ [((vs.getD k pv0).1, .slice ao n c)]) := by
        rw [← hs]; exact take_snocP vs k hlt
      rw [hs] at c2
      obtain ⟨⟨a, b⟩, hp⟩ : ∃ p : PK, p = (vs.getD k pv0).1 := ⟨_, rfl⟩
      rw [← hp] at c0 c1 hw HT
      clear hs hp
      have hbw : w.heap.size < wr.heap.size := World.ownsMap.lt hmp
      have hlen : (vs.take k).length = k := by simp; omega
      have HM : Hid (Mp wr w.heap.size (vs.take k)) := hmp
      clear hmp
      go_wp2_with (at_mapUpdate; refine wpList_put _ rfl _ _ _ rfl w.heap.size (vs.take k) rfl (World.ownsMap.alloc HM.out _) ?c1 (a, b) hw (.slice ao n c) rfl rfl ?_)
      case c1 => unfold maxLen; omega
      intro w1 hm1 hg1
      have R2 : Below w.heap.size w w1 := (hbel.alloc (Nat.le_of_lt hbw) _).grown hg1 (by simp; omega) (fun q hq => by cases hq; exact Nat.le_refl _)
      rw [← HT.out] at hm1
      have HM1 : Hid (Mp w1 w.heap.size (vs.take (k + 1))) := hm1
      clear hm1 hg1 HM HT hlen
      go_wp2
      go_roundw
      case rel => exact ⟨k + 1, by omega, by go_num, HM1.out, R2⟩
      case measure => simp [intOf]; omega
    · obtain rfl : k = vs.length := by omega
      go_wp2
      go_ret
      rw [List.take_length] at hmp
      exact ⟨_, rfl, Nat.le_refl _, hmp, hbel⟩

set_option maxHeartbeats 1000000 in
theorem zzbyPCR_any (bv : Nat) (vs : List PV) (w : World) (hl : vs.length ≤ 10000) (hr : Row w bv vs) (hwf : allWf vs) (hsl : slOk vs) :
    Calls Try.prog 13 #[.slice (some ⟨bv, 0, none⟩) vs.length vs.length] w fun e w' => ∃ b, e = .returned (.map (some b)) ∧ w.heap.size ≤ b ∧ Mp w' b vs ∧ Below w.heap.size w w' := by
  go_enter Try.func13, Try.ntmps13
  go_wp2_with (go_at_call 26; refine (byPCR_any bv vs _ hl hr hwf hsl).mono ?_; rintro e w' ⟨v, rfl, ho, hb'⟩)
  go_ret
  exact ⟨_, rfl, ho, hb'⟩

def fkN (vs : List PV) (p : PK) : Nat := vs.findIdx (fun kv => kv.1 == p)

theorem Try.fields37 : Try.prog.underlying 37 = some (.struct (Try.prog.fieldsOf 37)) := by kernel_rfl
theorem Try.stood37 : Try.prog.stoodInHeld 37 = false := by kernel_rfl
theorem Try.guard37 : Try.prog.eqGuardType Try.prog.depth 37 = false := by kernel_rfl

def keyEq (a b c d : Int) : Bool := a == c && b == d
theorem keyEq_true (a b : Int) : keyEq a b a b = true := by simp [keyEq]
theorem keyEq_false {a b c d : Int} (h : (a, b) ≠ (c, d)) : keyEq a b c d = false := by
  unfold keyEq
  by_cases h1 : a = c
  · subst h1
    have : b ≠ d := fun e => h (by rw [e])
    simp [this]
  · simp [h1]

theorem eql_key (a b c d : Int) (w : World) : (binOp .eql 37 (.agg #[.int .u16 a, .int .i64 b]) (.agg #[.int .u16 c, .int .i64 d])).run Try.prog w = .ok (.bool (keyEq a b c d)) w := by
  rw [run_eql_struct, show (10000 : Nat) = 9998 + 1 + 1 from rfl, run_equalIn_agg _ _ _ _ _ Try.fields37 Try.stood37]
  simp only [Program.fieldsOf, Try.underlying37, Op.eqFields, keyEq]
  by_cases h1 : a = c <;> by_cases h2 : b = d <;> simp [go_sem, Try.underlying35, Try.underlying3, h1, h2]

def keyAt (vs : List PV) (k : Nat) : PK := (vs.getD k pv0).1

theorem keyAt_elem (vs : List PV) (k : Nat) (h : k < vs.length) : keyAt vs k = vs[k].1 := by simp [keyAt, List.getD, h]

theorem hasK_iff (vs : List PV) (p : PK) : hasK vs p = true ↔ ∃ k, k < vs.length ∧ keyAt vs k = p := by
  unfold hasK
  rw [List.any_eq_true]
  constructor
  · rintro ⟨x, hx, e⟩
    obtain ⟨k, hk, rfl⟩ := List.mem_iff_getElem.1 hx
    exact ⟨k, hk, by rw [keyAt_elem vs k hk]; simpa using e⟩
  · rintro ⟨k, hk, e⟩
    exact ⟨vs[k], List.getElem_mem hk, by rw [keyAt_elem vs k hk] at e; simpa using e⟩

theorem fkN_lt {vs : List PV} {p : PK} (h : hasK vs p = true) : fkN vs p < vs.length ∧ keyAt vs (fkN vs p) = p := by
  have h1 : fkN vs p < vs.length := by
    unfold fkN
    rw [List.findIdx_lt_length]
    unfold hasK at h
    rw [List.any_eq_true] at h
    exact h
  refine ⟨h1, ?_⟩
  rw [keyAt_elem vs _ h1]
  have := List.findIdx_getElem (p := fun kv : PV => kv.1 == p) (xs := vs) (w := h1)
  exact beq_iff_eq.1 this

theorem fkN_before {vs : List PV} {p : PK} {k : Nat} (h : k < fkN vs p) (hk : k < vs.length) : keyAt vs k ≠ p := by
  rw [keyAt_elem vs k hk]
  have := List.not_of_lt_findIdx (p := fun kv : PV => kv.1 == p) (xs := vs) (i := k) h
  simpa using this

set_option maxHeartbeats 1000000 in
theorem firstKey_yes (bv : Nat) (vs : List PV) (a b : Int) (w : World) (hl : vs.length ≤ 10000) (hr : Row w bv vs) (hh : hasK vs (a, b) = true) :
    Calls Try.prog 14 #[.slice (some ⟨bv, 0, none⟩) vs.length vs.length, .agg #[.int .u16 a, .int .i64 b]] w fun e w' => e = .returned (.int .i64 (fkN vs (a, b) : Nat)) ∧ Below w.heap.size w w' := by
  have he := eql_key
  have hgd := fun w xs ys x y => run_eqGuard_agg (P := Try.prog) w .eql 37 x y xs ys Try.guard37
  obtain ⟨f1, f2⟩ := fkN_lt hh
  have F2 : Hid (keyAt vs (fkN vs (a, b)) = (a, b)) := f2
  clear f2 hh
  have hb : bv < w.heap.size := World.rowIs.lt hr
  go_enter Try.func14, Try.ntmps14
  go_wp2
  go_loopw [8] (fun i wr => ∃ k n : Nat, k ≤ vs.length ∧ i = .int .i64 k ∧ k ≤ fkN vs (a, b) ∧ wr = (w.alloc (.cells #[.int .u16 a, .int .i64 b] 37)).drewN n) (fun i _ => vs.length - (intOf i).toNat)
  case atStart => exact ⟨0, 0, Nat.zero_le _, rfl, Nat.zero_le _, rfl⟩
  case round =>
    obtain ⟨k, n, hk, rfl, hi, rfl⟩ := hrel
    have hlt : k < vs.length := by omega
    obtain ⟨c0, c1, _⟩ := (hr.below ((Below.refl w.heap.size w).alloc (Nat.le_refl _) (.cells #[.int .u16 a, .int .i64 b] 37)) hb).cells hlt
    have b1 : (k : Int) < (vs.length : Int) := by omega
    by_cases e : k = fkN vs (a, b)
    · have e2 : (vs.getD k pv0).1 = (a, b) := by rw [e]; exact F2.out
      rw [e2] at c0 c1
      simp only at c0 c1
      have hq := keyEq_true a b
      have HE : Hid (k = fkN vs (a, b)) := e
      clear e e2
      go_wp2
      go_quiet (fail)
      go_wp2
      go_ret
      exact ⟨congrArg (fun n : Nat => Ending.returned (Value.int .i64 (n : Int))) HE.out, below_drewN (below_drewN ((Below.refl _ _).alloc (Nat.le_refl _) _) _) _⟩
    · have e2 : (vs.getD k pv0).1 ≠ (a, b) := fkN_before (by omega) hlt
      obtain ⟨⟨x, y⟩, hp⟩ : ∃ p : PK, p = (vs.getD k pv0).1 := ⟨_, rfl⟩
      rw [← hp] at c0 c1 e2
      simp only at c0 c1
      have hq := keyEq_false e2
      clear hp e2
      go_wp2
      go_quiet (fail)
      go_wp2
      go_roundw
      case rel => exact ⟨k + 1, _, by omega, by go_num, by omega, rfl⟩
      case measure => simp [intOf]; omega

theorem noK {vs : List PV} {p : PK} (h : hasK vs p = false) {k : Nat} (hk : k < vs.length) : keyAt vs k ≠ p := fun e => by
  rw [(hasK_iff vs p).2 ⟨k, hk, e⟩] at h
  cases h

set_option maxHeartbeats 1000000 in
theorem firstKey_no (bv : Nat) (vs : List PV) (a b : Int) (w : World) (hl : vs.length ≤ 10000) (hr : Row w bv vs) (hh : hasK vs (a, b) = false) :
    Calls Try.prog 14 #[.slice (some ⟨bv, 0, none⟩) vs.length vs.length, .agg #[.int .u16 a, .int .i64 b]] w fun e w' => e = .returned (.int .i64 (-1)) ∧ Below w.heap.size w w' := by
  have he := eql_key
  have hgd := fun w xs ys x y => run_eqGuard_agg (P := Try.prog) w .eql 37 x y xs ys Try.guard37
  have HH : Hid (hasK vs (a, b) = false) := hh
  clear hh
  have hb : bv < w.heap.size := World.rowIs.lt hr
  go_enter Try.func14, Try.ntmps14
  go_wp2
  go_loopw [8] (fun i wr => ∃ k n : Nat, k ≤ vs.length ∧ i = .int .i64 k ∧ wr = (w.alloc (.cells #[.int .u16 a, .int .i64 b] 37)).drewN n) (fun i _ => vs.length - (intOf i).toNat)
  case atStart => exact ⟨0, 0, Nat.zero_le _, rfl, rfl⟩
  case round =>
    obtain ⟨k, n, hk, rfl, rfl⟩ := hrel
    by_cases hlt : k < vs.length
    · obtain ⟨c0, c1, _⟩ := (hr.below ((Below.refl w.heap.size w).alloc (Nat.le_refl _) (.cells #[.int .u16 a, .int .i64 b] 37)) hb).cells hlt
      have b1 : (k : Int) < (vs.length : Int) := by omega
      have e2 : (vs.getD k pv0).1 ≠ (a, b) := noK HH.out hlt
      obtain ⟨⟨x, y⟩, hp⟩ : ∃ p : PK, p = (vs.getD k pv0).1 := ⟨_, rfl⟩
      rw [← hp] at c0 c1 e2
      simp only at c0 c1
      have hq := keyEq_false e2
      clear hp e2
      go_wp2
      go_quiet (fail)
      go_wp2
      go_roundw
      case rel => exact ⟨k + 1, _, by omega, by go_num, rfl⟩
      case measure => simp [intOf]; omega
    · go_wp2
      go_ret
      exact ⟨rfl, below_drewN ((Below.refl _ _).alloc (Nat.le_refl _) _) _⟩

/-- the last place of a key among the first k -/
def lkTo (vs : List PV) (p : PK) : Nat → Int
  | 0 => -1
  | k + 1 => if keyAt vs k = p then k else lkTo vs p k

theorem lkTo_fact (vs : List PV) (p : PK) : ∀ k, k ≤ vs.length → (hasK (vs.take k) p = true → 0 ≤ lkTo vs p k ∧ lkTo vs p k < k ∧ (vs.getD (lkTo vs p k).toNat pv0).2 = lastV (vs.take k) p)
  | 0, _, h => by simp [hasK] at h
  | k + 1, hk, h => by
    rw [take_snocP vs k (by omega), has_snoc] at h
    rw [take_snocP vs k (by omega), lastV_snoc]
    unfold lkTo
    by_cases e : keyAt vs k = p
    · have e' : (vs.getD k pv0).1 = p := e
      rw [if_pos e, if_pos e']
      refine ⟨by omega, by omega, by simp⟩
    · have e' : ¬ (vs.getD k pv0).1 = p := e
      rw [if_neg e, if_neg e']
      simp only [Bool.or_eq_true, beq_iff_eq, e', or_false] at h
      obtain ⟨a, b, c⟩ := lkTo_fact vs p k (by omega) h
      exact ⟨a, by omega, c⟩

theorem lkTo_bd (vs : List PV) (p : PK) : ∀ k, -1 ≤ lkTo vs p k ∧ lkTo vs p k < k
  | 0 => by simp [lkTo]
  | k + 1 => by
    unfold lkTo
    have := lkTo_bd vs p k
    split
    · omega
    · omega

set_option maxHeartbeats 1000000 in
theorem lastKey_any (bv : Nat) (vs : List PV) (a b : Int) (w : World) (hl : vs.length ≤ 10000) (hr : Row w bv vs) :
    Calls Try.prog 15 #[.slice (some ⟨bv, 0, none⟩) vs.length vs.length, .agg #[.int .u16 a, .int .i64 b]] w fun e w' => e = .returned (.int .i64 (lkTo vs (a, b) vs.length)) ∧ Below w.heap.size w w' := by
  have he := eql_key
  have hgd := fun w xs ys x y => run_eqGuard_agg (P := Try.prog) w .eql 37 x y xs ys Try.guard37
  have hb : bv < w.heap.size := World.rowIs.lt hr
  go_enter Try.func15, Try.ntmps15
  go_wp2
  go_loopw [5, 9] (fun l i wr => ∃ k n : Nat, k ≤ vs.length ∧ i = .int .i64 k ∧ l = .int .i64 (lkTo vs (a, b) k) ∧ wr = (w.alloc (.cells #[.int .u16 a, .int .i64 b] 37)).drewN n) (fun _ i _ => vs.length - (intOf i).toNat)
  case atStart => exact ⟨0, 0, Nat.zero_le _, rfl, rfl, rfl⟩
  case round =>
    obtain ⟨k, n, hk, rfl, rfl, rfl⟩ := hrel
    by_cases hlt : k < vs.length
    · obtain ⟨c0, c1, _⟩ := (hr.below ((Below.refl w.heap.size w).alloc (Nat.le_refl _) (.cells #[.int .u16 a, .int .i64 b] 37)) hb).cells hlt
      have b1 : (k : Int) < (vs.length : Int) := by omega
      by_cases e2 : (vs.getD k pv0).1 = (a, b)
      · rw [e2] at c0 c1
        simp only at c0 c1
        have hq := keyEq_true a b
        have HN : Hid (lkTo vs (a, b) (k + 1) = k) := by unfold Hid lkTo; exact if_pos e2
        clear e2
        go_wp2
        go_quiet (fail)
        go_wp2
        go_roundw
        case rel => exact ⟨k + 1, _, by omega, by go_num, by rw [HN.out], rfl⟩
        case measure => simp [intOf]; omega
      · obtain ⟨⟨x, y⟩, hp⟩ : ∃ p : PK, p = (vs.getD k pv0).1 := ⟨_, rfl⟩
        have HN : Hid (lkTo vs (a, b) (k + 1) = lkTo vs (a, b) k) := by unfold Hid; rw [lkTo]; exact if_neg e2
        rw [← hp] at c0 c1 e2
        simp only at c0 c1
        have hq := keyEq_false e2
        clear hp e2
        go_wp2
        go_quiet (fail)
        go_wp2
        go_roundw
        case rel => exact ⟨k + 1, _, by omega, by go_num, by rw [HN.out], rfl⟩
        case measure => simp [intOf]; omega
    · obtain rfl : k = vs.length := by omega
      go_wp2
      go_ret
      exact ⟨rfl, below_drewN ((Below.refl _ _).alloc (Nat.le_refl _) _) _⟩

end Go.Proofs.Qxb6000494a
