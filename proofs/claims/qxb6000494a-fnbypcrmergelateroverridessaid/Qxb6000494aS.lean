import Derived.Test.Qxb6000494aR
set_option linter.unusedVariables false
namespace Go.Proofs.Qxb6000494a
open Go.RowKit Go.Maps

/-! ### plain facts -/
theorem hasK_take {vs : List PV} {p : PK} {k : Nat} (hk : k ≤ vs.length) : hasK (vs.take k) p = true ↔ ∃ j, j < k ∧ keyAt vs j = p := by
  rw [hasK_iff]
  have hl : (vs.take k).length = k := by simp; omega
  constructor
  · rintro ⟨j, hj, e⟩
    refine ⟨j, by omega, ?_⟩
    rw [← e]
    simp [keyAt, List.getD, show j < k by omega]
  · rintro ⟨j, hj, e⟩
    refine ⟨j, by omega, ?_⟩
    rw [← e]
    simp [keyAt, List.getD, hj]

theorem hasK_at (vs : List PV) (k : Nat) (hk : k < vs.length) : hasK vs (keyAt vs k) = true := (hasK_iff _ _).2 ⟨k, hk, rfl⟩

theorem fkN_le (vs : List PV) (p : PK) (k : Nat) (hk : k < vs.length) (e : keyAt vs k = p) : fkN vs p ≤ k := by
  by_cases h : k < fkN vs p
  · exact absurd e (fkN_before h hk)
  · omega

theorem fk_first (vs : List PV) (k : Nat) (hk : k < vs.length) : fkN vs (keyAt vs k) = k ↔ hasK (vs.take k) (keyAt vs k) = false := by
  have h1 := fkN_le vs _ k hk rfl
  have h2 := fkN_lt (hasK_at vs k hk)
  rw [Bool.eq_false_iff, ne_eq, hasK_take (by omega)]
  constructor
  · rintro e ⟨j, hj, ej⟩
    have := fkN_le vs _ j (by omega) ej
    omega
  · intro h
    by_cases e : fkN vs (keyAt vs k) = k
    · exact e
    · exact absurd ⟨_, by omega, h2.2⟩ h

theorem keysOf_step (vs : List PV) (k : Nat) (hk : k < vs.length) : keysOf (vs.take (k + 1)) = addK (keysOf (vs.take k)) (keyAt vs k) := by
  rw [take_snocP vs k hk, keysOf_snoc]; rfl

theorem keys_first (vs : List PV) (k : Nat) (hk : k < vs.length) (h : fkN vs (keyAt vs k) = k) : (keysOf (vs.take (k + 1))).length = (keysOf (vs.take k)).length + 1 := by
  rw [keysOf_step vs k hk]
  unfold addK
  rw [if_neg]
  · simp
  · rw [mem_keysOf _ _ rfl, (fk_first vs k hk).1 h]; simp

theorem keys_again (vs : List PV) (k : Nat) (hk : k < vs.length) (h : fkN vs (keyAt vs k) ≠ k) : (keysOf (vs.take (k + 1))).length = (keysOf (vs.take k)).length := by
  rw [keysOf_step vs k hk]
  unfold addK
  rw [if_pos]
  rw [mem_keysOf _ _ rfl]
  cases e : hasK (vs.take k) (keyAt vs k)
  · exact absurd ((fk_first vs k hk).2 e) h
  · rfl

theorem addK_le (ks : List PK) (p : PK) : (addK ks p).length ≤ ks.length + 1 := by unfold addK; split <;> simp

theorem keys_le (vs : List PV) : ∀ k, k ≤ vs.length → (keysOf (vs.take k)).length ≤ k
  | 0, _ => by simp [keysOf]
  | k + 1, h => by
    rw [keysOf_step vs k (by omega)]
    have := keys_le vs k (by omega)
    have := addK_le (keysOf (vs.take k)) (keyAt vs k)
    omega

theorem last_of (vs : List PV) (p : PK) (h : hasK vs p = true) : 0 ≤ lkTo vs p vs.length ∧ lkTo vs p vs.length < vs.length ∧ (vs.getD (lkTo vs p vs.length).toNat pv0).2 = lastV vs p := by
  have := lkTo_fact vs p vs.length (Nat.le_refl _)
  rw [List.take_length] at this
  exact this h

/-- a key that is there: its value is one of the values -/
theorem lastV_mem (vs : List PV) (p : PK) (h : hasK vs p = true) : ∃ kv ∈ vs, kv.2 = lastV vs p := by
  obtain ⟨h1, h2, h3⟩ := last_of vs p h
  exact ⟨_, getD_memP vs _ (by omega), h3⟩

section
variable (w : World) {ops : Array Oper} {rest : List Oper} {o : Oper} {a : Act} {Q : Exit → Act → World → Prop}
/-- 'v, ok := m[k]', what comes out named ahead -/
theorem wpList_lookIs (hg : o.guard = none) (m x : Operand) (hop : o.op = Op.lookup 33 m x true) (b : Nat) (kvs : List PV) (hwf : allWf kvs)
    (hm : a.eval m = .map (some b)) (hown : Mp w b kvs) (p : PK) (hp : keyWf p) (hx : a.eval x = keyV p) (v : Value) (r : Bool) (hv : lastV kvs p = v) (hr : hasK kvs p = r)
    (hK : wpList Try.prog ops Q rest (a.put o.dst (.tuple #[v, .bool r])) w) :
    wpList Try.prog ops Q (o :: rest) a w := by
  subst hv; subst hr
  exact wpList_look w hg m x hop b kvs hwf hm hown p hp hx hK
end

/-! ### the law -/
set_option maxHeartbeats 400000 in
theorem lw_big (a0 a1 a2 : Option Addr) (l0 l1 c0 c1 c2 : Nat) (vs : List Value) (x y : Int) (w : World) (m0 : l0 ≤ maxLen) (m1 : l1 ≤ maxLen) (m2 : vs.length ≤ maxLen) (hv : InV w a2 vs) (hb : 4096 < l0 ∨ 4096 < l1 ∨ 4096 < vs.length) :
    Calls Try.prog 3 #[.slice a0 l0 c0, .slice a1 l1 c1, .slice a2 vs.length c2, .int .u16 x, .int .i64 y] w fun e w' => e = .returned (.bool true) ∧ Below w.heap.size w w' := by
  have HV : Hid (InV w a2 vs) := hv
  clear hv
  have HM : Hid (l0 ≤ maxLen ∧ l1 ≤ maxLen ∧ vs.length ≤ maxLen) := ⟨m0, m1, m2⟩
  unfold maxLen at m0 m1 m2
  have cs : 4096 < l0 ∨ (l0 ≤ 4096 ∧ 4096 < l1) ∨ (l0 ≤ 4096 ∧ l1 ≤ 4096 ∧ 4096 < vs.length) := by omega
  rcases cs with h | ⟨h, h'⟩ | ⟨h, h', h''⟩
  all_goals
    clear hb
    go_enter Try.func3, Try.ntmps3
    go_wp2_with fail
    refine (zz8_any _ _ _ _ _ _ _ _ vs _ _ _ HM.out.1 HM.out.2.1 HM.out.2.2 HV.out).mono ?_
    rintro e w' ⟨r, rfl, rfl, _⟩
    cases r
    · go_wp2
      go_ret
      exact ⟨rfl, Below.refl _ _⟩
    · go_wp2
      go_ret
      exact ⟨rfl, Below.refl _ _⟩

end Go.Proofs.Qxb6000494a
