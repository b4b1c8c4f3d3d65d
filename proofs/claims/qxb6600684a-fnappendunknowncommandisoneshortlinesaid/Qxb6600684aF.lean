import Derived.Test.Qxb6600684aE
import Derived.Lib.AppendStr
import Derived.Laws.BytesArg
import Derived.ArgAppend
set_option linter.unusedVariables false
namespace Go.Proofs.Qxb6600684a
open Go.RowKit

/-- some string of at most 128 bytes, the world stands -/
def RetS (w : World) (e : Ending) (w' : World) : Prop := ∃ s : ByteArray, e = .returned (.string s) ∧ w' = w ∧ s.size ≤ 128

theorem conv_row (w : World) (g m n : Nat) (zs : List Int) (hm : m ≤ zs.length) (hc : ∀ i, i < zs.length → w.cell? ⟨g, i, none⟩ = some (.int .u8 (zs.getD i 0))) :
    (convert 22 9 (.slice (some ⟨g, 0, none⟩) m n)).run Try.prog w = .ok (.string (strOfNums (zs.take m))) w :=
  run_convert_bytes_arg w 22 5 Try.underlying22 Try.underlying5 g 0 m n (zs.take m) (by simp; omega) (fun i hi => by
    rw [Nat.zero_add, hc i (by omega)]
    simp [List.getD, hi]) 9 Try.underlying9

theorem quoted_any (v : Value) (zs : List Int) (w : World) (hl : zs.length ≤ 1048576) (hv : CV 0 w v zs) : Calls Try.prog 32 #[v] w (RetS w) := by
  rcases hv with ⟨rfl, rfl⟩ | ⟨g, rfl, _, hc⟩
  · have hcv := run_convert_bytes_nil (P := Try.prog) w 22 5 Try.underlying22 Try.underlying5 0 0 9 Try.underlying9
    go_enter Try.func32, Try.ntmps32
    go_wp2
    go_ret
    exact ⟨_, rfl, rfl, by decide⟩
  · by_cases h : zs.length ≤ 128
    · have hcv := conv_row w g zs.length zs.length zs (Nat.le_refl _) hc
      obtain ⟨S, hS⟩ : ∃ S, S = strOfNums (zs.take zs.length) := ⟨_, rfl⟩
      have HS : Hid (S.size ≤ 128) := by unfold Hid; rw [hS, strOfNums_size]; simp; omega
      rw [← hS] at hcv
      clear hc hS
      go_enter Try.func32, Try.ntmps32
      go_wp2
      go_ret
      exact ⟨_, rfl, rfl, HS.out⟩
    · have hcv := conv_row w g 128 zs.length zs (by omega) hc
      obtain ⟨S, hS⟩ : ∃ S, S = strOfNums (zs.take 128) := ⟨_, rfl⟩
      have HS : Hid (S.size ≤ 128) := by unfold Hid; rw [hS, strOfNums_size]; simp; omega
      rw [← hS] at hcv
      clear hc hS
      go_enter Try.func32, Try.ntmps32
      go_wp2
      go_ret
      exact ⟨_, rfl, rfl, HS.out⟩

/-! ### a row of the call's own -/
def Own (B : Nat) (w : World) (v : Value) (L : List Int) : Prop := w.ownsRow B 5 1 v L.length (L.map (Value.int .u8))

theorem Own.shape {B : Nat} {w : World} {v : Value} {L : List Int} (h : Own B w v L) (hL : 1 ≤ L.length) : ∃ g cap, v = .slice (some ⟨g, 0, none⟩) L.length cap ∧ B ≤ g ∧ g < w.heap.size := by
  rcases h.2 with ⟨_, h0⟩ | ⟨g, cap, cur, rfl, hg, hh, _⟩
  · omega
  · exact ⟨g, cap, rfl, hg, (Array.getElem?_eq_some_iff.1 hh).1⟩

theorem Own.len {B : Nat} {w : World} {v : Value} {L : List Int} (h : Own B w v L) : ∃ ao cap, v = .slice ao L.length cap := by
  rcases h.2 with ⟨rfl, h0⟩ | ⟨g, cap, cur, rfl, hg, hh, _⟩
  · exact ⟨none, 0, by rw [h0]⟩
  · exact ⟨_, cap, rfl⟩

theorem Own.cell {B : Nat} {w : World} {g cap : Nat} {L : List Int} (h : Own B w (.slice (some ⟨g, 0, none⟩) L.length cap) L) {i : Nat} (hi : i < L.length) : w.cell? ⟨g, i, none⟩ = some (.int .u8 (L.getD i 0)) := by
  rw [World.ownsRow.cellAt h i (by omega)]
  simp [List.getD, hi]

theorem Own.set {B : Nat} {w : World} {g cap : Nat} {L : List Int} (h : Own B w (.slice (some ⟨g, 0, none⟩) L.length cap) L) (i : Nat) (c : Int) : Own B (w.setCell ⟨g, i, none⟩ (.int .u8 c)) (.slice (some ⟨g, 0, none⟩) (L.set i c).length cap) (L.set i c) := by
  have := (World.ownsRow.stored h i (.int .u8 c)).1
  unfold Own
  rw [List.length_set, List.map_set]
  exact this

theorem Own.mono {B B' : Nat} {w : World} {v : Value} {L : List Int} (h : Own B w v L) (hB : B' ≤ B) : Own B' w v L := by
  refine ⟨h.1, ?_⟩
  rcases h.2 with h | ⟨g, cap, cur, e, hg, r⟩
  · exact .inl h
  · exact .inr ⟨g, cap, cur, e, by omega, r⟩

theorem Own.alloc {B : Nat} {w : World} {v : Value} {L : List Int} (h : Own B w v L) (o : Obj) : Own B (w.alloc o) v L := World.ownsRow.alloc h o

theorem Own.ownB {B : Nat} {w : World} {v : Value} {L : List Int} (h : Own B w v L) : ∀ k, v.ownBlock = some k → B ≤ k := fun k hk => (World.ownsRow.lt h k hk).1

theorem strCells_bs (s : ByteArray) : Lib.strCells s = (bs s).map (Value.int .u8) := by
  unfold Lib.strCells bs
  rw [List.map_map]
  rfl

section
variable {w0 w : World} {ops : Array Oper} {rest : List Oper} {o : Oper} {a : Act} {Q : Exit → Act → World → Prop}

/-- 'append(v, s...)', s a string -/
theorem wpList_appS (hg : o.guard = none) (sl x : Operand) (ho : o.op = .call { callee := .builtin .append, args := #[sl, x], argTypes := #[22, 9] }) (B : Nat) (v : Value) (L : List Int) (hs : a.eval sl = v) (hown : Own B w v L)
    (s : ByteArray) (hx : a.eval x = .string s) (hl : L.length + s.size ≤ 1000000000) (hB : B ≤ w.heap.size) (hb : Below B w0 w)
    (h : ∀ v' w' L', Hid (L' = L ++ bs s) → Hid (Own B w' v' L') → B ≤ w'.heap.size → Below B w0 w' → wpList Try.prog ops Q rest (a.put o.dst v') w') : wpList Try.prog ops Q (o :: rest) a w := by
  obtain ⟨i0, hi, hz0, hz1, hz2⟩ := info_parts Try.info5
  refine Lib.wpList_append_own_string _ hg sl x 22 9 ho B 5 i0 Try.underlying22 Try.underlying9 hi hz0 hz1 hz2 v L.length (L.map (Value.int .u8)) hs hown s hx (by unfold maxLen; omega) (by omega) hB ?_
  intro v' w' h1 h2 _
  refine h v' w' (L ++ bs s) rfl ?_ (Nat.le_trans hB h2.size) (hb.grown h2 hB hown.ownB)
  unfold Hid Own
  rw [List.length_append, bs_len, List.map_append, ← strCells_bs]
  exact h1

/-- 'append(v, xs...)', xs bytes that lie at an address -/
theorem wpList_appB (hg : o.guard = none) (sl x : Operand) (ho : o.op = .call { callee := .builtin .append, args := #[sl, x], argTypes := #[22, 22] }) (B : Nat) (v : Value) (L : List Int) (hs : a.eval sl = v) (hown : Own B w v L)
    (ad : Addr) (m c : Nat) (ys : List Int) (hx : a.eval x = .slice (some ad) m c) (hm : ys.length = m) (hc : ∀ j, j < m → w.cell? (ad.add j) = some (.int .u8 (ys.getD j 0))) (hl : L.length + m ≤ 1000000000) (hB : B ≤ w.heap.size) (hb : Below B w0 w)
    (h : ∀ v' w' L', Hid (L' = L ++ ys) → Hid (Own B w' v' L') → B ≤ w'.heap.size → Below B w0 w' → wpList Try.prog ops Q rest (a.put o.dst v') w') : wpList Try.prog ops Q (o :: rest) a w := by
  obtain ⟨i0, hi, hz0, hz1, hz2⟩ := info_parts Try.info5
  refine wpList_append_own _ hg sl x 22 ho B 5 i0 (.int .u8 0) 1 1 Try.underlying22 hi hz0 hz1 hz2 rfl (by decide) v L.length (L.map (Value.int .u8)) hs hown ad m c (ys.map (Value.int .u8)) hx (by simp [hm]) ?_ (ints_oneCell _ _) (by unfold maxLen; omega) (by omega) hB ?_
  · intro j u hu
    have hj : j < ys.length := by
      have := (List.getElem?_eq_some_iff.1 hu).1
      simpa using this
    rw [hc j (by omega)]
    simpa [List.getD, hj] using hu
  · intro v' w' h1 h2 _
    refine h v' w' (L ++ ys) rfl ?_ (Nat.le_trans hB h2.size) (hb.grown h2 hB hown.ownB)
    unfold Hid Own
    rw [List.length_append, hm, List.map_append]
    exact h1
end

def noCR (c : Int) : Prop := c ≠ 13 ∧ c ≠ 10

/-- what appendLine leaves -/
def LineTo (B : Nat) (w : World) (xs : List Int) (n : Nat) (e : Ending) (w' : World) : Prop :=
  ∃ v' Y, e = .returned v' ∧ Y.length = n ∧ (∀ j, j < n → noCR (Y.getD j 0)) ∧ Own B w' v' (xs ++ Y ++ [13, 10]) ∧ Below B w w'

theorem app_left (xs Y : List Int) (i : Nat) (h : i < xs.length) : (xs ++ Y).getD i 0 = xs.getD i 0 := by simp [List.getD, List.getElem?_append_left h]
theorem app_right (xs Y : List Int) (i : Nat) : (xs ++ Y).getD (xs.length + i) 0 = Y.getD i 0 := by simp [List.getD, List.getElem?_append_right]
theorem set_right (xs Y : List Int) (i : Nat) (c : Int) : (xs ++ Y).set (xs.length + i) c = xs ++ Y.set i c := by
  simp

set_option maxHeartbeats 2000000 in
theorem line_any (B : Nat) (v : Value) (xs : List Int) (s : ByteArray) (w : World) (hn : 1 ≤ xs.length) (hl : xs.length ≤ 10000000) (hs : s.size ≤ 10000000) (hB : B ≤ w.heap.size) (hown : Own B w v xs) :
    Calls Try.prog 33 #[v, .string s] w (LineTo B w xs s.size) := by
  obtain ⟨g0, cap0, rfl, _, _⟩ := hown.shape hn
  have HO : Hid (Own B w (.slice (some ⟨g0, 0, none⟩) xs.length cap0) xs) := hown
  clear hown
  go_enter Try.func33, Try.ntmps33
  go_wp2_with (at_builtin; refine wpList_appS rfl (.tmp 9) (.tmp 10) rfl B _ xs rfl HO.out s rfl (by omega) hB (Below.refl _ _) ?_)
  intro v1 w1 L1 HL1 HO1 hB1 hb1
  have HLN : Hid (L1.length = xs.length + s.size) := by unfold Hid; rw [HL1.out, List.length_append, bs_len]
  obtain ⟨N, hN⟩ : ∃ N, N = L1.length := ⟨_, rfl⟩
  have hN1 : xs.length + s.size ≤ N := by have := HLN.out; omega
  have hN2 : N ≤ xs.length + s.size := by have := HLN.out; omega
  obtain ⟨g, cap, hv, hgB, hgs⟩ := HO1.out.shape (by have := HLN.out; omega)
  have HOL : Hid (Own B w1 (.slice (some ⟨g, 0, none⟩) N cap) (xs ++ bs s)) := by
    have h := HO1.out
    rw [hv, HL1.out] at h
    rw [hN, HL1.out]
    exact h
  rw [hv, ← hN]
  clear hv hN HO1 HL1 HLN
  go_wp2
  go_loopw [6] (fun i wr => ∃ (k : Nat) (Y : List Int), k ≤ s.size ∧ i = .int .i64 ((xs.length + k : Nat) : Int) ∧ Hid (Y.length = s.size) ∧ Hid (∀ j, j < k → noCR (Y.getD j 0)) ∧ Hid (Own B wr (.slice (some ⟨g, 0, none⟩) N cap) (xs ++ Y)) ∧ B ≤ wr.heap.size ∧ Below B w wr) (fun i _ => N - (intOf i).toNat)
  case atStart => exact ⟨0, bs s, Nat.zero_le _, rfl, bs_len s, fun j hj => absurd hj (by omega), HOL, hB1, hb1⟩
  case round =>
    obtain ⟨k, Y, hk, rfl, HY, HC, HO2, hB2, hb2⟩ := hrel
    have HN : Hid ((xs ++ Y).length = N) := by unfold Hid; rw [List.length_append, HY.out]; omega
    by_cases hlt : k < s.size
    · have g1 : wr.cell? ⟨g, xs.length + k, none⟩ = some (.int .u8 (Y.getD k 0)) := by
        have h := HO2.out
        rw [← HN.out] at h
        rw [h.cell (i := xs.length + k) (by have := HN.out; omega), app_right]
      have f1 : wr.frozen? ⟨g, xs.length + k, none⟩ = false := by
        have h := HO2.out
        rw [← HN.out] at h
        exact World.ownsRow.frozenAt h _
      have HS : Hid (Own B (wr.setCell ⟨g, xs.length + k, none⟩ (.int .u8 32)) (.slice (some ⟨g, 0, none⟩) N cap) (xs ++ Y.set k 32)) := by
        have h := HO2.out
        rw [← HN.out] at h
        have h2 := h.set (xs.length + k) 32
        rw [set_right] at h2
        rw [← HN.out]
        have e : (xs ++ Y.set k 32).length = (xs ++ Y).length := by simp
        rw [e] at h2
        exact h2
      have HCS : Hid (∀ j, j < k + 1 → noCR ((Y.set k 32).getD j 0)) := fun j hj => by
        by_cases e : j = k
        · subst e
          have : j < Y.length := by rw [HY.out]; exact hlt
          simp [List.getD, this]
          exact ⟨by decide, by decide⟩
        · have := HC.out j (by omega)
          simpa [List.getD, List.getElem?_set_ne (show k ≠ j by omega)] using this
      have HCN : Hid (noCR (Y.getD k 0) → ∀ j, j < k + 1 → noCR (Y.getD j 0)) := fun h j hj => by
        by_cases e : j = k
        · rw [e]; exact h
        · exact HC.out j (by omega)
      have HYS : Hid ((Y.set k 32).length = s.size) := by unfold Hid; rw [List.length_set]; exact HY.out
      obtain ⟨c, hc⟩ : ∃ c, c = Y.getD k 0 := ⟨_, rfl⟩
      rw [← hc] at g1 HCN
      clear hc
      by_cases h13 : c = 13
      · subst h13
        go_wp2
        go_roundw
        case rel => exact ⟨k + 1, Y.set k 32, by omega, by go_num, HYS, HCS, HS, by simpa using hB2, hb2.setCell (by exact hgB) _⟩
        case measure => simp [intOf]; omega
      by_cases h10 : c = 10
      · subst h10
        go_wp2
        go_roundw
        case rel => exact ⟨k + 1, Y.set k 32, by omega, by go_num, HYS, HCS, HS, by simpa using hB2, hb2.setCell (by exact hgB) _⟩
        case measure => simp [intOf]; omega
      have e13 : (c == 13) = false := by simpa using h13
      have e10 : (c == 10) = false := by simpa using h10
      have HCC : Hid (noCR c) := ⟨h13, h10⟩
      clear h13 h10
      go_wp2
      go_roundw
      case rel => exact ⟨k + 1, Y, by omega, by go_num, HY, HCN.out HCC.out, HO2, hB2, hb2⟩
      case measure => simp [intOf]; omega
    · obtain rfl : k = s.size := by omega
      have HO3 : Hid (Own B wr (.slice (some ⟨g, 0, none⟩) N cap) (xs ++ Y)) := HO2
      clear HO2 hlt hk
      go_wp2_with (at_builtin; refine wpList_appB rfl (.tmp 34) (.tmp 35) rfl B _ (xs ++ Y) rfl (HO3.out.alloc _) ⟨wr.heap.size, 0, none⟩ 2 2 [13, 10] rfl rfl ?q1 ?q2 ?q3 (hb2.alloc hB2 _) ?_)
      case q1 =>
        intro j hj
        have : j = 0 ∨ j = 1 := by omega
        rcases this with rfl | rfl
        · rw [Addr.add_lit]; exact cell_of_row _ _ 0 _ 5 (0, 0) (Deep.blk_alloc_new _ _)
        · rw [Addr.add_lit]; exact cell_of_row _ _ 1 _ 5 (0, 0) (Deep.blk_alloc_new _ _)
      case q2 => have := HN.out; omega
      case q3 => simp; omega
      intro v3 w3 L3 HL3 HO4 hB3 hb3
      have HF : Hid (Own B w3 v3 (xs ++ Y ++ [13, 10])) := by rw [List.append_assoc, ← HL3.out]; exact HO4
      clear HO4 HL3 HO3
      go_wp2
      go_ret
      exact ⟨v3, Y, rfl, HY.out, HC.out, HF.out, hb3⟩

end Go.Proofs.Qxb6600684a
