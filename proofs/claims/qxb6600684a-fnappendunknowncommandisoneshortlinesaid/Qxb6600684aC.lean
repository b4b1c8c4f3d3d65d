import Derived.Test.Qxb6600684aB
set_option linter.unusedVariables false
namespace Go.Proofs.Qxb6600684a
open Go.RowKit

theorem sw_bd {c : Int} (h0 : 0 ≤ c) (h1 : c ≤ 255) : 0 ≤ sw c ∧ sw c ≤ 255 := by unfold sw; split <;> (try split) <;> omega
theorem sw_wf {zs : List Int} (h : wfL .u8 zs) : wfL .u8 (zs.map sw) := fun n hn => by
  obtain ⟨c, hc, rfl⟩ := List.mem_map.1 hn
  have := u8_bd (h c hc)
  have := sw_bd this.1 this.2
  exact wf_u8 this.1 this.2
theorem map_getD (zs : List Int) (k : Nat) (h : k < zs.length) : (zs.map sw).getD k 0 = sw (zs.getD k 0) := by simp [List.getD, h]

def swF (zs : List Int) (k j : Nat) : Value := if j < k then .int .u8 ((zs.map sw).getD j 0) else .int .u8 0

theorem sw_step {w : World} {g n : Nat} {zs : List Int} {k : Nat} (h : w.rowIs g 5 n (swF zs k)) (hk : k < zs.length) {x : Int} (hx : x = sw (zs.getD k 0)) : (w.setCell ⟨g, k, none⟩ (.int .u8 x)).rowIs g 5 n (swF zs (k + 1)) := by
  refine (h.set k _).congr ?_
  intro j hj
  unfold swF
  by_cases e : j = k
  · subst e
    rw [if_pos rfl, if_pos (by omega), map_getD zs j hk, hx]
  · have e3 : (j < k + 1) = (j < k) := propext (by omega)
    simp only [e, if_false, e3]

set_option maxHeartbeats 1000000 in
theorem swap_any (ao : Option Addr) (cap : Nat) (zs : List Int) (w : World) (hl : zs.length ≤ 1048576) (hr : Rd .u8 w ao zs) (hw : wfL .u8 zs) :
    Calls Try.prog 10 #[.slice ao zs.length cap] w fun e w' => e = .returned (.slice (some ⟨w.heap.size, 0, none⟩) zs.length zs.length) ∧ Rd .u8 w' (some ⟨w.heap.size, 0, none⟩) (zs.map sw) ∧ Below w.heap.size w w' := by
  have HR : Hid (Rd .u8 w ao zs) := hr
  have HW : Hid (wfL .u8 zs) := hw
  clear hr hw
  have hmk := run_make_row' (P := Try.prog) 22 5 (.int .u8 0) 1 Try.underlying22 Try.info5 rfl .i64 .i64 zs.length (by omega) (by omega)
  go_enter Try.func10, Try.ntmps10
  go_wp2
  go_loopw [4] (fun i wr => ∃ k : Nat, k ≤ zs.length ∧ i = .int .i64 k ∧ Hid (wr.rowIs w.heap.size 5 zs.length (swF zs k)) ∧ Below w.heap.size w wr)
    (fun i _ => zs.length - (intOf i).toNat)
  case atStart => exact ⟨0, Nat.zero_le _, rfl, (World.rowIs_made w (.int .u8 0) zs.length 5).congr (by simp [swF]), (Below.refl _ _).alloc (Nat.le_refl _) _⟩
  case round =>
    obtain ⟨k, hk, rfl, HROW, hbel⟩ := hrel
    by_cases hlt : k < zs.length
    · obtain ⟨b, off, rfl, hc⟩ := HR.out k hlt
      obtain ⟨c0, c1⟩ := u8_bd (HW.out _ (getD_mem zs k hlt))
      have g : wr.cell? ⟨b, off + k, none⟩ = some (.int .u8 (zs.getD k 0)) := (hbel.cell (by exact World.block_lt_of_cell? w _ hc)).trans hc
      obtain ⟨v0, g2⟩ : ∃ v, wr.cell? ⟨w.heap.size, k, none⟩ = some v := ⟨_, HROW.out.cell hlt⟩
      have g3 := HROW.out.frozen k
      have HS : Hid (∀ x, x = sw (zs.getD k 0) → (wr.setCell ⟨w.heap.size, k, none⟩ (.int .u8 x)).rowIs w.heap.size 5 zs.length (swF zs (k + 1))) := fun x hx => sw_step HROW.out hlt hx
      obtain ⟨c, hcc⟩ : ∃ c, c = zs.getD k 0 := ⟨_, rfl⟩
      rw [← hcc] at g c0 c1 HS
      clear hcc hc
      go_wp2_with fail
      refine (upper_any c _).mono ?_
      rintro e w1 ⟨rfl, rfl⟩
      by_cases h1 : 65 ≤ c ∧ c ≤ 90
      · have hu : upB c = true := decide_eq_true h1
        rw [hu]
        have HX : Hid (c + 32 = sw c) := by unfold Hid sw; rw [if_pos h1]
        obtain ⟨h1, h1'⟩ := h1
        clear hu
        go_wp2
        go_roundw
        case rel => exact ⟨k + 1, by omega, by go_num, HS.out _ HX.out, hbel.setCell (by exact Nat.le_refl _) _⟩
        case measure => simp [intOf]; omega
      · have hu : upB c = false := decide_eq_false h1
        rw [hu]
        clear hu
        go_wp2_with fail
        refine (lower_any c _).mono ?_
        rintro e w2 ⟨rfl, rfl⟩
        by_cases h2 : 97 ≤ c ∧ c ≤ 122
        · have hu : loB c = true := decide_eq_true h2
          rw [hu]
          have HX : Hid (c - 32 = sw c) := by unfold Hid sw; rw [if_neg h1, if_pos h2]
          obtain ⟨h2, h2'⟩ := h2
          clear hu h1
          go_wp2
          go_roundw
          case rel => exact ⟨k + 1, by omega, by go_num, HS.out _ HX.out, hbel.setCell (by exact Nat.le_refl _) _⟩
          case measure => simp [intOf]; omega
        · have hu : loB c = false := decide_eq_false h2
          rw [hu]
          have HX : Hid (c = sw c) := by unfold Hid sw; rw [if_neg h1, if_neg h2]
          clear hu h1 h2
          go_wp2
          go_roundw
          case rel => exact ⟨k + 1, by omega, by go_num, HS.out _ HX.out, hbel.setCell (by exact Nat.le_refl _) _⟩
          case measure => simp [intOf]; omega
    · obtain rfl : k = zs.length := by omega
      go_wp2
      go_ret
      refine ⟨rfl, ?_, hbel⟩
      have hr := HROW.out
      refine Rd.of_row (t := 5) ?_
      rw [List.length_map]
      refine hr.congr (fun j hj => ?_)
      unfold swF
      rw [if_pos hj]

/-- the bytes L lie at the head of the call's own row g, of C cells -/
def St (w0 : World) (B g C : Nat) (wr : World) (L : List Int) : Prop :=
  wr.ownsRow B 5 1 (.slice (some ⟨g, 0, none⟩) L.length C) L.length (L.map (Value.int .u8)) ∧ Below B w0 wr ∧ B ≤ g ∧ g < wr.heap.size

theorem St.rd {w0 wr : World} {B g C : Nat} {L : List Int} (h : St w0 B g C wr L) : Rd .u8 wr (some ⟨g, 0, none⟩) L := fun i hi =>
  ⟨g, 0, rfl, by rw [Nat.zero_add, h.1.cellAt i (by omega)]; simp [List.getD, hi]⟩

theorem wpList_push {w0 wr : World} {ops : Array Oper} {rest : List Oper} {o : Oper} {a : Act} {Q : Exit → Act → World → Prop} (hg : o.guard = none) (s x : Operand)
    (hop : o.op = Op.call { callee := Callee.builtin Builtin.append, args := #[s, x], argTypes := #[22, 22] }) (B g C : Nat) (L : List Int) (c : Int) (hs : a.eval s = .slice (some ⟨g, 0, none⟩) L.length C) (hx : a.eval x = .slice (some ⟨wr.heap.size, 0, none⟩) 1 1)
    (hst : St w0 B g C wr L) (hfit : L.length + 1 ≤ C)
    (hK : ∀ w' L', Hid (L' = L ++ [c]) → St w0 B g C w' L' → wpList Try.prog ops Q rest (a.put o.dst (.slice (some ⟨g, 0, none⟩) L'.length C)) w') :
    wpList Try.prog ops Q (o :: rest) a (wr.alloc (.cells #[.int .u8 c] 5)) := by
  obtain ⟨i0, hi, hz0, hz1, hz2⟩ := info_parts Try.info5
  refine wpList_append_fits _ hg s x 22 hop B 5 i0 1 Try.underlying22 hi hz1 g L.length C (L.map (Value.int .u8)) hs (hst.1.alloc _) ⟨wr.heap.size, 0, none⟩ 1 1 [.int .u8 c] hx rfl (cell_one_new _ _ _) (ints_oneCell .u8 [c]) hfit ?_
  intro w' h1 h2
  have hz := hst.2.2.2
  have hB := hst.2.2.1
  have := hK w' (L ++ [c]) rfl ⟨by simpa using h1, (hst.2.1.alloc (by omega) _).grown h2 (by simp; omega) (fun k hk => by cases hk; exact hB), hB, by have := h2.size; simp at *; omega⟩
  simpa using this

set_option maxHeartbeats 1000000 in
theorem appText_any (w0 : World) (B g : Nat) (s : ByteArray) (w : World) (hs : s.size ≤ 1048576) (hst : St w0 B g s.size w []) :
    Calls Try.prog 12 #[.slice (some ⟨g, 0, none⟩) 0 s.size, .string s] w fun e w' => e = .returned (.slice (some ⟨g, 0, none⟩) (bs s).length s.size) ∧ St w0 B g s.size w' (bs s) := by
  have HST : Hid (St w0 B g s.size w []) := hst
  clear hst
  go_enter Try.func12, Try.ntmps12
  go_wp2
  go_loopw [0, 5] (fun t i wr => ∃ (k : Nat) (L : List Int), k ≤ s.size ∧ i = .int .i64 k ∧ t = .slice (some ⟨g, 0, none⟩) L.length s.size ∧ Hid (L = (bs s).take k) ∧ Hid (St w0 B g s.size wr L)) (fun _ i _ => s.size - (intOf i).toNat)
  case atStart => exact ⟨0, [], Nat.zero_le _, rfl, rfl, rfl, HST⟩
  case round =>
    obtain ⟨k, L, hk, rfl, rfl, HLk, T⟩ := hrel
    by_cases hlt : k < s.size
    · have hix := idx_str s k hlt
      have hlen : L.length = k := by rw [HLk.out]; simp [bs_len]; omega
      have fit : L.length + 1 ≤ s.size := by omega
      have HN : Hid (∀ L', L' = L ++ [(bs s).getD k 0] → L' = (bs s).take (k + 1)) := fun L' e => by rw [e, HLk.out, take_snoc (bs s) k (by rw [bs_len]; exact hlt)]
      obtain ⟨c, hc⟩ : ∃ c, c = (bs s).getD k 0 := ⟨_, rfl⟩
      rw [← hc] at hix HN
      clear hc hlen
      go_wp2_with (at_builtin; refine wpList_push rfl (.tmp 12) (.tmp 16) rfl B g s.size L c rfl rfl T.out fit ?_)
      intro w1 L' HL' S'
      have T' : Hid (St w0 B g s.size w1 L') := S'
      have HL2 : Hid (L' = (bs s).take (k + 1)) := HN.out L' HL'.out
      clear S' HL' HN T HLk hix
      go_wp2
      go_roundw
      case rel => exact ⟨k + 1, L', by omega, by go_num, rfl, HL2, T'⟩
      case measure => simp [intOf]; omega
    · obtain rfl : k = s.size := by omega
      have e : L = bs s := by rw [HLk.out, ← bs_len, List.take_length]
      subst e
      go_wp2
      go_ret
      exact ⟨rfl, T.out⟩

end Go.Proofs.Qxb6600684a
