import Derived.Test.Qxb6000494aT
set_option linter.unusedVariables false
namespace Go.Proofs.Qxb6000494a
open Go.RowKit Go.Maps

/-! ### plain facts on a list followed by another -/
theorem hasK_app (va vb : List PV) (p : PK) : hasK (va ++ vb) p = (hasK va p || hasK vb p) := by simp [hasK]

theorem foldl_last (p : PK) : ∀ (vb : List PV) (z : Value), vb.foldl (fun acc kv => if kv.1 = p then kv.2 else acc) z = if hasK vb p then lastV vb p else z
  | [], z => by simp [hasK]
  | x :: l, z => by
    have h := foldl_last p l
    unfold lastV
    simp only [List.foldl_cons]
    rw [h (if x.1 = p then x.2 else z), h (if x.1 = p then x.2 else .slice none 0 0)]
    by_cases e : x.1 = p
    · simp [hasK, e]
    · have : hasK (x :: l) p = hasK l p := by simp [hasK, e]
      rw [this]
      simp only [e, if_false]
      split <;> rfl

theorem lastV_app (va vb : List PV) (p : PK) : lastV (va ++ vb) p = if hasK vb p then lastV vb p else lastV va p := by
  unfold lastV
  rw [List.foldl_append, foldl_last]
  rfl

theorem keys_nodup (vs : List PV) : ∀ k, k ≤ vs.length → (keysOf (vs.take k)).Nodup
  | 0, _ => by simp [keysOf]
  | k + 1, h => by
    rw [keysOf_step vs k (by omega)]
    have ih := keys_nodup vs k (by omega)
    unfold addK
    split
    · exact ih
    · rename_i hn
      rw [List.nodup_append]
      refine ⟨ih, by simp, fun a ha b hb => ?_⟩
      simp at hb
      subst hb
      exact fun e => hn (e ▸ ha)

theorem keysOf_nodup (vs : List PV) : (keysOf vs).Nodup := by
  have := keys_nodup vs vs.length (Nat.le_refl _)
  rwa [List.take_length] at this

/-- how many of the first k registers of a (each once) are none of b's -/
def onlyTo (va vb : List PV) (k : Nat) : Nat := ((keysOf (va.take k)).filter (fun p => !hasK vb p)).length

theorem only_le (va vb : List PV) (k : Nat) (hk : k ≤ va.length) : onlyTo va vb k ≤ k :=
  Nat.le_trans (List.length_filter_le _ _) (keys_le va k hk)

theorem only_yes (va vb : List PV) (k : Nat) (hk : k < va.length) (h1 : fkN va (keyAt va k) = k) (h2 : hasK vb (keyAt va k) = false) : onlyTo va vb (k + 1) = onlyTo va vb k + 1 := by
  unfold onlyTo
  rw [keysOf_step va k hk]
  unfold addK
  rw [if_neg (by rw [mem_keysOf _ _ rfl, (fk_first va k hk).1 h1]; simp)]
  simp [List.filter_append, h2]

theorem only_no (va vb : List PV) (k : Nat) (hk : k < va.length) (h : ¬ (fkN va (keyAt va k) = k ∧ hasK vb (keyAt va k) = false)) : onlyTo va vb (k + 1) = onlyTo va vb k := by
  unfold onlyTo
  rw [keysOf_step va k hk]
  unfold addK
  by_cases h1 : fkN va (keyAt va k) = k
  · have h2 : hasK vb (keyAt va k) = true := by
      cases e : hasK vb (keyAt va k)
      · exact absurd ⟨h1, e⟩ h
      · rfl
    split
    · rfl
    · simp [List.filter_append, h2]
  · rw [if_pos]
    rw [mem_keysOf _ _ rfl]
    cases e : hasK (va.take k) (keyAt va k)
    · exact absurd ((fk_first va k hk).2 e) h1
    · rfl

theorem keys_merge (va vb : List PV) : (keysOf (va ++ vb)).length = (keysOf vb).length + onlyTo va vb va.length := by
  unfold onlyTo
  rw [List.take_length, ← List.length_append]
  refine List.Perm.length_eq ((List.perm_ext_iff_of_nodup (keysOf_nodup _) ?_).2 fun p => ?_)
  · rw [List.nodup_append]
    refine ⟨keysOf_nodup vb, List.Pairwise.filter _ (keysOf_nodup va), fun a ha b hb e => ?_⟩
    subst e
    rw [mem_keysOf _ _ rfl] at ha
    have := (List.mem_filter.1 hb).2
    rw [ha] at this
    simp at this
  · rw [mem_keysOf _ _ rfl, hasK_app, List.mem_append, mem_keysOf _ _ rfl, List.mem_filter, mem_keysOf _ _ rfl]
    cases hasK va p <;> cases hasK vb p <;> simp

theorem app_getD_left (va vb : List PV) (i : Nat) (h : i < va.length) : (va ++ vb).getD i pv0 = va.getD i pv0 := by
  simp [List.getD, List.getElem?_append_left h]
theorem app_getD_right (va vb : List PV) (i : Nat) : (va ++ vb).getD (va.length + i) pv0 = vb.getD i pv0 := by
  simp [List.getD, List.getElem?_append_right]

/-! ### the bound on total length -/
set_option maxHeartbeats 4000000 in
theorem zz17_any (a0 a1 a2 a3 a4 a5 : Option Addr) (l0 l1 l3 l4 c0 c1 c2 c3 c4 c5 : Nat) (va vb : List Value) (w : World) (m0 : l0 ≤ maxLen) (m1 : l1 ≤ maxLen) (m2 : va.length ≤ maxLen)
    (m3 : l3 ≤ maxLen) (m4 : l4 ≤ maxLen) (m5 : vb.length ≤ maxLen) (hv : InV w a2 va) (hv' : InV w a5 vb) :
    Calls Try.prog 17 #[.slice a0 l0 c0, .slice a1 l1 c1, .slice a2 va.length c2, .slice a3 l3 c3, .slice a4 l4 c4, .slice a5 vb.length c5] w (RetB w (lensOk va va.length ∧ lensOk vb vb.length)) := by
  have HV : Hid (InV w a2 va) := hv
  have HV' : Hid (InV w a5 vb) := hv'
  clear hv hv'
  unfold maxLen at m0 m1 m2 m3 m4 m5
  by_cases hT : l0 + l1 + va.length ≤ 1048576
  · go_enter Try.func17, Try.ntmps17
    go_wp2
    go_loop [13, 14] (fun t i => ∃ (k : Nat) (s : Int), k ≤ va.length ∧ i = .int .i64 k ∧ t = .int .i64 s ∧ 0 ≤ s ∧ s ≤ 1048576 ∧ Hid (lensOk va k)) (fun _ i => va.length - (intOf i).toNat)
    case atStart => exact ⟨0, _, Nat.zero_le _, rfl, rfl, by omega, by omega, fun i hi => absurd hi (by omega)⟩
    case round =>
      obtain ⟨k, s, hk, rfl, rfl, h0, h1, HL⟩ := hrel
      by_cases hlt : k < va.length
      · obtain ⟨b, off, a, n, c, rfl, g1, hn, hln⟩ := HV.out.at hlt
        unfold maxLen at hn
        have HN : Hid (lenV (va.getD k nilS) = n) := hln
        clear hln
        by_cases h2 : n ≤ 1048576
        · by_cases h3 : s + n ≤ 1048576
          · go_wp2
            go_round
            case rel =>
              refine ⟨k + 1, _, by omega, by go_num, rfl, by omega, by omega, fun i hi => ?_⟩
              by_cases e : i = k
              · rw [e, HN.out]; exact h2
              · exact HL.out i (by omega)
            case measure => simp [intOf]; omega
          · go_wp2
            go_ret
            exact ⟨false, rfl, rfl, fun h => by cases h⟩
        · go_wp2
          go_ret
          exact ⟨false, rfl, rfl, fun h => by cases h⟩
      · obtain rfl : k = va.length := by omega
        by_cases hT2 : s + l3 + l4 + vb.length ≤ 1048576
        · go_wp2
          go_loop [13, 15] (fun t i => ∃ (k : Nat) (s : Int), k ≤ vb.length ∧ i = .int .i64 k ∧ t = .int .i64 s ∧ 0 ≤ s ∧ s ≤ 1048576 ∧ Hid (lensOk vb k)) (fun _ i => vb.length - (intOf i).toNat)
          case atStart => exact ⟨0, _, Nat.zero_le _, rfl, rfl, by omega, by omega, fun i hi => absurd hi (by omega)⟩
          case round =>
            obtain ⟨k, s', hk, rfl, rfl, h0', h1', HL'⟩ := hrel
            by_cases hlt : k < vb.length
            · obtain ⟨b, off, a, n, c, rfl, g1, hn, hln⟩ := HV'.out.at hlt
              unfold maxLen at hn
              have HN : Hid (lenV (vb.getD k nilS) = n) := hln
              clear hln
              by_cases h2 : n ≤ 1048576
              · by_cases h3 : s' + n ≤ 1048576
                · go_wp2
                  go_round
                  case rel =>
                    refine ⟨k + 1, _, by omega, by go_num, rfl, by omega, by omega, fun i hi => ?_⟩
                    by_cases e : i = k
                    · rw [e, HN.out]; exact h2
                    · exact HL'.out i (by omega)
                  case measure => simp [intOf]; omega
                · go_wp2
                  go_ret
                  exact ⟨false, rfl, rfl, fun h => by cases h⟩
              · go_wp2
                go_ret
                exact ⟨false, rfl, rfl, fun h => by cases h⟩
            · obtain rfl : k = vb.length := by omega
              go_wp2
              go_ret
              exact ⟨true, rfl, rfl, fun _ => ⟨HL.out, HL'.out⟩⟩
        · go_wp2
          all_goals
            go_ret
            exact ⟨false, rfl, rfl, fun h => by cases h⟩
  · go_enter Try.func17, Try.ntmps17
    go_wp2
    all_goals
      go_ret
      exact ⟨false, rfl, rfl, fun h => by cases h⟩

end Go.Proofs.Qxb6000494a
