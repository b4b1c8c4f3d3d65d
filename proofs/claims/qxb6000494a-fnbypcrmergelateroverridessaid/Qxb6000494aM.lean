import Derived.Test.Qxb6000494aA
import Derived.ProofKit
import Derived.Maps.OwnSet
import Derived.Maps.OwnOps
namespace Go.Proofs.Qxb6000494a
open Go.RowKit Go.Maps

/-! ### the key: struct{ Bank uint16; Index int } -/
theorem Try.laidOut : laidOutB Try.prog = true := by kernel_rfl
theorem Try.row37 : (37 : TypeId) < Try.prog.types.size := of_decide_eq_true (by kernel_rfl)
theorem Try.wide37 : (match Try.prog.underlying 37 with | some (.array _ _) | some (.struct _) => true | _ => false) = true := by kernel_rfl
theorem Try.cells37 : Try.prog.cellsOf 37 = 2 := by kernel_rfl
theorem Try.cells35 : Try.prog.cellsOf 35 = 1 := by kernel_rfl
theorem Try.cells3 : Try.prog.cellsOf 3 = 1 := by kernel_rfl
theorem law : Keyed Try.prog 37 := Keyed.of_law (deep_law_laid Try.laidOut (m := 2) (by omega) Try.row37 (by kernel_rfl) Try.wide37)

abbrev PK := Int × Int
def keyV (p : PK) : Value := .agg #[.int .u16 p.1, .int .i64 p.2]
def keyWf (p : PK) : Prop := (Lit.int .u16 p.1).wf = true ∧ (Lit.int .i64 p.2).wf = true

theorem Try.keyT37 : Try.prog.keyType 37 = true := by kernel_rfl
def klit (p : PK) : Lit := .string (keyBytes [.int .u16 p.1, .int .i64 p.2])
theorem klit_of {p : PK} (h : keyWf p) : keyOf Try.prog 37 (keyV p) = some (klit p) := by
  have hu := Try.underlying37
  have hsz : ∃ m, Try.prog.types.size = m + 1 := ⟨Try.prog.types.size - 1, by have := Try.row37; have : 37 < Try.prog.types.size := this; omega⟩
  obtain ⟨m, hm⟩ := hsz
  unfold keyOf klit
  simp only [hu]
  rw [if_pos (by simp [Try.keyT37, Value.formed, hu, keyV, Try.cells37]), hm]
  unfold Program.keyLits
  simp only [hu, Value.cells, keyV]
  rw [if_pos (by rw [Try.cells37]; exact ⟨rfl, by decide +kernel⟩)]
  simp [Try.cells35, Try.cells3, Program.keyLits, Try.underlying35, Try.underlying3, h.1, h.2]

theorem klit_key {p : PK} (h : keyWf p) : WideAt.IsKeyLit (klit p) := law.key (klit_of h)
theorem keyV_inj {p q : PK} (h : keyV p = keyV q) : p = q := by
  simp only [keyV, Value.agg.injEq, Array.mk.injEq, List.cons.injEq, Value.int.injEq, true_and, and_true] at h
  exact Prod.ext h.1 h.2
theorem klit_inj {p q : PK} (hp : keyWf p) (hq : keyWf q) (h : klit p = klit q) : p = q :=
  keyV_inj (law.inj (klit_of hp) (by rw [h]; exact klit_of hq))

/-! ### the map, as the list of what was stored into it -/
abbrev PV := PK × Value
def heldR (v : Value) : Option (DataW Value × List MemPlace) := some (.held v, [])
def Dof (kvs : List PV) : DataW Value := kvs.foldl (fun D kv => D.put (klit kv.1) (.held kv.2)) (.map [])
def hasK (kvs : List PV) (p : PK) : Bool := kvs.any (fun kv => kv.1 == p)
def lastV (kvs : List PV) (p : PK) : Value := kvs.foldl (fun acc kv => if kv.1 = p then kv.2 else acc) (.slice none 0 0)
def addK (ks : List PK) (p : PK) : List PK := if p ∈ ks then ks else ks ++ [p]
def keysOf (kvs : List PV) : List PK := kvs.foldl (fun ks kv => addK ks kv.1) []
def allWf (kvs : List PV) : Prop := ∀ kv ∈ kvs, keyWf kv.1

theorem Dof_snoc (kvs : List PV) (kv : PV) : Dof (kvs ++ [kv]) = (Dof kvs).put (klit kv.1) (.held kv.2) := by simp [Dof]
theorem has_snoc (kvs : List PV) (kv : PV) (p : PK) : hasK (kvs ++ [kv]) p = (hasK kvs p || kv.1 == p) := by simp [hasK]
theorem lastV_snoc (kvs : List PV) (kv : PV) (p : PK) : lastV (kvs ++ [kv]) p = if kv.1 = p then kv.2 else lastV kvs p := by simp [lastV]
theorem keysOf_snoc (kvs : List PV) (kv : PV) : keysOf (kvs ++ [kv]) = addK (keysOf kvs) kv.1 := by simp [keysOf]

theorem mem_keysOf : ∀ (n : Nat) (kvs : List PV), kvs.length = n → ∀ p, p ∈ keysOf kvs ↔ hasK kvs p = true := by
  intro n
  induction n with
  | zero => intro kvs h p; obtain rfl := List.eq_nil_of_length_eq_zero h; simp [keysOf, hasK]
  | succ n ih =>
    intro kvs h p
    obtain ⟨l, x, rfl⟩ : ∃ l x, kvs = l ++ [x] := ⟨kvs.dropLast, kvs.getLast (by intro e; simp [e] at h), (List.dropLast_concat_getLast _).symm⟩
    have hl : l.length = n := by simpa using h
    rw [keysOf_snoc, has_snoc]
    have i := ih l hl
    unfold addK
    by_cases hx : x.1 ∈ keysOf l
    · rw [if_pos hx, i p]
      simp only [Bool.or_eq_true, beq_iff_eq]
      constructor
      · exact Or.inl
      · rintro (h | h)
        · exact h
        · rw [← h]; exact (i _).1 hx
    · rw [if_neg hx]
      simp only [List.mem_append, List.mem_singleton, i p, Bool.or_eq_true, beq_iff_eq]
      exact or_congr Iff.rfl ⟨Eq.symm, Eq.symm⟩

theorem Dof_facts : ∀ (n : Nat) (kvs : List PV), kvs.length = n → allWf kvs →
    Tidy (Dof kvs) ∧ (∀ p, keyWf p → Maps.has (Dof kvs) (klit p) = hasK kvs p) ∧ (∀ p, keyWf p → (Dof kvs).atKey (klit p) (.held (.slice none 0 0)) = .held (lastV kvs p)) ∧ Maps.size (Dof kvs) = (keysOf kvs).length := by
  intro n
  induction n with
  | zero =>
    intro kvs h _
    obtain rfl := List.eq_nil_of_length_eq_zero h
    exact ⟨tidy_empty, fun _ _ => rfl, fun _ _ => rfl, rfl⟩
  | succ n ih =>
    intro kvs h hw
    obtain ⟨l, x, rfl⟩ : ∃ l x, kvs = l ++ [x] := ⟨kvs.dropLast, kvs.getLast (by intro e; simp [e] at h), (List.dropLast_concat_getLast _).symm⟩
    have hl : l.length = n := by simpa using h
    have hx : keyWf x.1 := hw x (by simp)
    obtain ⟨t, a, b, c⟩ := ih l hl (fun kv hkv => hw kv (by simp [hkv]))
    have hk := klit_key hx
    rw [Dof_snoc]
    refine ⟨t.put hk _, fun p hp => ?_, fun p hp => ?_, ?_⟩
    · rw [has_snoc]
      by_cases e : x.1 = p
      · subst e; rw [has_put_same t.isMap hk]; simp
      · rw [has_put_other (fun h => e (klit_inj hx hp h.symm)), a p hp]
        simp [e]
    · rw [lastV_snoc]
      by_cases e : x.1 = p
      · subst e; rw [atKey_put_same t.isMap hk]; simp
      · rw [atKey_put_other (fun h => e (klit_inj hx hp h.symm)), b p hp, if_neg e]
    · rw [size_put t, a _ hx, c, keysOf_snoc]
      unfold addK
      by_cases e : x.1 ∈ keysOf l
      · rw [if_pos e, if_pos ((mem_keysOf _ l rfl _).1 e)]
      · rw [if_neg e, if_neg (fun h => e ((mem_keysOf _ l rfl _).2 h))]; simp

/-- BLOCK b IS A MAP INTO WHICH kvs WERE STORED, IN THAT ORDER -/
def Mp (w : World) (b : Nat) (kvs : List PV) : Prop := w.ownsMap Try.prog 37 heldR b kvs.length (Dof kvs)

theorem Mp.below {w w' : World} {B b : Nat} {kvs : List PV} (h : Mp w b kvs) (hb : Below B w w') (hB : b < B) : Mp w' b kvs := by
  obtain ⟨es, c, h1, h2⟩ := h
  exact ⟨es, c, (hb.block b hB).trans h1, h2⟩

theorem Try.zero27 (w : World) : (zeroValue 27).run Try.prog w = .ok (.slice none 0 0) w := by kernel_rfl

section
variable (w : World) {ops : Array Oper} {rest : List Oper} {o : Oper} {a : Act} {Q : Exit → Act → World → Prop}

/-- 'v, ok := m[k]' -/
theorem wpList_look (hg : o.guard = none) (m x : Operand) (hop : o.op = Op.lookup 33 m x true) (b : Nat) (kvs : List PV) (hwf : allWf kvs)
    (hm : a.eval m = .map (some b)) (hown : Mp w b kvs) (p : PK) (hp : keyWf p) (hx : a.eval x = keyV p)
    (hK : wpList Try.prog ops Q rest (a.put o.dst (.tuple #[lastV kvs p, .bool (hasK kvs p)])) w) :
    wpList Try.prog ops Q (o :: rest) a w := by
  obtain ⟨_, h1, h2, _⟩ := Dof_facts _ kvs rfl hwf
  refine wpList_lookup_own_ok w hg m x 33 hop 37 27 law Try.underlying33 heldR (Try.zero27 _) (.held (.slice none 0 0)) [] rfl b _ _ hm hown (keyV p) (klit p) hx (klit_of hp) ?_
  intro v ps hv
  rw [h2 p hp] at hv
  simp only [heldR, Option.some.injEq, Prod.mk.injEq, DataW.held.injEq] at hv
  rw [hv.1, h1 p hp]
  exact hK

/-- 'm[k] = v' -/
theorem wpList_put (hg : o.guard = none) (m x v : Operand) (hop : o.op = Op.mapUpdate 33 m x v) (b : Nat) (kvs : List PV)
    (hm : a.eval m = .map (some b)) (hown : Mp w b kvs) (hn : kvs.length < maxLen) (p : PK) (hp : keyWf p) (val : Value) (hx : a.eval x = keyV p) (hv : a.eval v = val)
    (hK : ∀ w', Mp w' b (kvs ++ [(p, val)]) → w.grownBy w' (some b) → wpList Try.prog ops Q rest (a.put o.dst undef) w') :
    wpList Try.prog ops Q (o :: rest) a w := by
  refine wpList_mapUpdate_own w hg m x v 33 hop 37 27 law Try.underlying33 heldR b _ _ hm hown hn (keyV p) val (klit p) hx hv (klit_of hp) (.held val) [] rfl ?_
  intro w' h1 h2
  refine hK w' ?_ h2
  unfold Mp
  rw [Dof_snoc]
  simpa using h1

/-- 'len(m)' -/
theorem wpList_mlen (hg : o.guard = none) (m : Operand) (hop : o.op = Op.call { callee := Callee.builtin Builtin.len, args := #[m], argTypes := #[33] }) (b : Nat) (kvs : List PV) (hwf : allWf kvs)
    (hm : a.eval m = .map (some b)) (hown : Mp w b kvs)
    (hK : wpList Try.prog ops Q rest (a.put o.dst (.int .i64 ((keysOf kvs).length : Nat))) w) :
    wpList Try.prog ops Q (o :: rest) a w := by
  obtain ⟨_, _, _, h3⟩ := Dof_facts _ kvs rfl hwf
  refine wpList_len_own w hg m 33 hop 37 27 Try.underlying33 heldR b _ _ hm hown ?_
  rw [h3]
  exact hK
end

theorem Mp_made (w : World) : Mp (w.alloc (.map #[] 0)) w.heap.size [] := World.ownsMap_made w Try.prog 37 heldR

end Go.Proofs.Qxb6000494a
