import Derived.Test.Qxb6618653aKeys
/-! First retrievals: the plain law. -/
namespace Go.Proofs.Qxb6618653a

/-- What the laws call the same source. -/
def sameB (x y : Src) : Bool := if x.2.toList.isEmpty && y.2.toList.isEmpty then x.1.toList == y.1.toList else x.2.toList == y.2.toList
/-- What tells a source apart from the others. -/
def ident (s : Src) : Src := if s.2.toList.isEmpty then s else (⟨#[]⟩, s.2)

theorem same_ident (x s : Src) : sameB x s = eqSrc (ident s) (ident x) := by
  unfold sameB ident eqSrc
  by_cases h1 : x.2.toList = [] <;> by_cases h2 : s.2.toList = []
  · simp [h1, h2]
    rw [Bool.eq_iff_iff]
    simp
    exact ⟨fun h => h.symm, fun h => h.symm⟩
  · simp [h1, h2]
  · simp [h1, h2]
  · simp [h1, h2]
    rw [Bool.eq_iff_iff]
    simp
    exact ⟨fun h => h.symm, fun h => h.symm⟩

/-- The place of the first that is the same. -/
def idxFrom (s : Src) : List Src → Nat → Option Nat
  | [], _ => none
  | x :: l, i => if sameB x s then some i else idxFrom s l (i + 1)
def idx (L : List Src) (s : Src) : Option Nat := idxFrom s L 0
def idxI (L : List Src) (s : Src) : Int := match idx L s with | some j => (j : Int) | none => -1
def step (L : List Src) (s : Src) : List Src := match idx L s with | some _ => L | none => L ++ [s]
def num (L : List Src) (s : Src) : Nat := match idx L s with | some j => j + 1 | none => L.length + 1
def firsts (l : List Src) : List Src := l.foldl step []

theorem firsts_snoc (l : List Src) (s : Src) : firsts (l ++ [s]) = step (firsts l) s := by simp [firsts]
theorem step_len (L : List Src) (s : Src) : (step L s).length ≤ L.length + 1 := by
  unfold step; split <;> simp
theorem firsts_len (l : List Src) : (firsts l).length ≤ l.length := by
  have key : ∀ (l : List Src) (L : List Src), (l.foldl step L).length ≤ L.length + l.length := by
    intro l
    induction l with
    | nil => intro L; simp
    | cons s l ih =>
      intro L
      have h1 := ih (step L s)
      have h2 := step_len L s
      simp only [List.foldl_cons, List.length_cons]
      omega
  have := key l []
  simpa [firsts] using this

/-- Where the first k are none, and the next is. -/
theorem idxFrom_skip (s : Src) : ∀ (L : List Src) (i k : Nat), k ≤ L.length → (∀ j, j < k → ∀ x, L[j]? = some x → sameB x s = false) → idxFrom s L i = idxFrom s (L.drop k) (i + k) := by
  intro L
  induction L with
  | nil => intro i k hk _; simp at hk; subst hk; rfl
  | cons x L ih =>
    intro i k hk h
    cases k with
    | zero => rfl
    | succ k =>
      have hx : sameB x s = false := h 0 (by omega) x rfl
      simp only [idxFrom, hx, Bool.false_eq_true, if_false, List.drop_succ_cons]
      rw [ih (i + 1) k (by simpa using hk) (fun j hj y hy => h (j + 1) (by omega) y (by simpa using hy))]
      rw [show i + 1 + k = i + (k + 1) by omega]
theorem idx_hit (L : List Src) (s x : Src) (k : Nat) (hx : L[k]? = some x) (hno : ∀ j, j < k → ∀ x, L[j]? = some x → sameB x s = false) (h : sameB x s = true) : idx L s = some k := by
  have hk : k < L.length := (List.getElem?_eq_some_iff.1 hx).1
  unfold idx
  rw [idxFrom_skip s L 0 k (by omega) hno]
  have : L.drop k = x :: L.drop (k + 1) := by
    rw [List.drop_eq_getElem_cons hk]
    congr 1
    rw [List.getElem?_eq_getElem hk] at hx
    exact Option.some.inj hx
  rw [this]
  simp [idxFrom, h]
theorem idx_miss (L : List Src) (s : Src) (hno : ∀ j, j < L.length → ∀ x, L[j]? = some x → sameB x s = false) : idx L s = none := by
  unfold idx
  rw [idxFrom_skip s L 0 L.length (Nat.le_refl _) hno, List.drop_length]
  rfl
theorem idx_lt (L : List Src) (s : Src) (j : Nat) (h : idx L s = some j) : j < L.length := by
  have key : ∀ (L : List Src) (i j : Nat), idxFrom s L i = some j → i ≤ j ∧ j < i + L.length := by
    intro L
    induction L with
    | nil => intro i j h; simp [idxFrom] at h
    | cons x L ih =>
      intro i j h
      simp only [idxFrom] at h
      split at h
      · cases h; simp
      · have := ih (i + 1) j h
        simp only [List.length_cons]
        omega
  have := (key L 0 j h).2
  omega

/-! ### The table's entries -/
def entsFrom : List Src → Nat → List (Src × Int)
  | [], _ => []
  | x :: l, i => (ident x, ((i + 1 : Nat) : Int)) :: entsFrom l (i + 1)
def ents (L : List Src) : List (Src × Int) := entsFrom L 0

theorem entsFrom_snoc (s : Src) : ∀ (L : List Src) (i : Nat), entsFrom (L ++ [s]) i = entsFrom L i ++ [(ident s, ((i + L.length + 1 : Nat) : Int))] := by
  intro L
  induction L with
  | nil => intro i; simp [entsFrom]
  | cons x L ih =>
    intro i
    simp only [List.cons_append, entsFrom, ih (i + 1), List.length_cons]
    rw [show i + 1 + L.length + 1 = i + (L.length + 1) + 1 by omega]
theorem ents_snoc (L : List Src) (s : Src) : ents (L ++ [s]) = ents L ++ [(ident s, ((L.length + 1 : Nat) : Int))] := by
  unfold ents; rw [entsFrom_snoc, Nat.zero_add]
theorem find_ents (s : Src) : ∀ (L : List Src) (i m : Nat), findE (ident s) (entsFrom L i) m = (idxFrom s L i).map (fun j => (m + (j - i), Value.int .i64 ((j + 1 : Nat) : Int))) := by
  intro L
  induction L with
  | nil => intro i m; rfl
  | cons x L ih =>
    intro i m
    simp only [entsFrom, findE, idxFrom, same_ident]
    by_cases h : eqSrc (ident s) (ident x) = true
    · simp [h]
    · have h' : eqSrc (ident s) (ident x) = false := by simpa using h
      simp only [h', Bool.false_eq_true, if_false, ih (i + 1) (m + 1)]
      cases hc : idxFrom s L (i + 1) with
      | none => rfl
      | some j =>
        have hle : i + 1 ≤ j := by
          have key : ∀ (L : List Src) (i j : Nat), idxFrom s L i = some j → i ≤ j := by
            intro L
            induction L with
            | nil => intro i j h; simp [idxFrom] at h
            | cons x L ih =>
              intro i j h
              simp only [idxFrom] at h
              split at h
              · cases h; exact Nat.le_refl _
              · have := ih (i + 1) j h; omega
          exact key L (i + 1) j hc
        simp only [Option.map_some]
        rw [show m + 1 + (j - (i + 1)) = m + (j - i) by omega]
theorem look_some (L : List Src) (s : Src) (j : Nat) (h : idx L s = some j) : lookE (ident s) (ents L) = .tuple #[.int .i64 ((j + 1 : Nat) : Int), .bool true] := by
  unfold lookE ents
  rw [find_ents, show idxFrom s L 0 = some j from h]
  rfl
theorem find_none (L : List Src) (s : Src) (h : idx L s = none) : findE (ident s) (ents L) 0 = none := by
  unfold ents
  rw [find_ents, show idxFrom s L 0 = none from h]
  rfl
theorem look_none (L : List Src) (s : Src) (h : idx L s = none) : lookE (ident s) (ents L) = .tuple #[.int .i64 0, .bool false] := by
  unfold lookE
  rw [find_none L s h]

/-! ### A row of sources, cell by cell -/
def flat (L : List Src) : List Value := L.flatMap fun s => [.string s.1, .string s.2]
theorem flat_len (L : List Src) : (flat L).length = L.length * 2 := by
  induction L with
  | nil => rfl
  | cons x L ih => simp [flat] at ih ⊢; omega
theorem flat_snoc (L : List Src) (s : Src) : flat (L ++ [s]) = flat L ++ [.string s.1, .string s.2] := by simp [flat]
theorem flat_fst (L : List Src) (j : Nat) (s : Src) (h : L[j]? = some s) : (flat L)[j * 2]? = some (.string s.1) := by
  induction L generalizing j with
  | nil => simp at h
  | cons x L ih =>
    cases j with
    | zero => simp at h; subst h; rfl
    | succ j =>
      have := ih j (by simpa using h)
      show ([Value.string x.1, Value.string x.2] ++ flat L)[(j + 1) * 2]? = _
      rw [List.getElem?_append_right (by simp; omega)]
      simpa [show (j + 1) * 2 - 2 = j * 2 by omega] using this
theorem flat_snd (L : List Src) (j : Nat) (s : Src) (h : L[j]? = some s) : (flat L)[j * 2 + 1]? = some (.string s.2) := by
  induction L generalizing j with
  | nil => simp at h
  | cons x L ih =>
    cases j with
    | zero => simp at h; subst h; rfl
    | succ j =>
      have := ih j (by simpa using h)
      show ([Value.string x.1, Value.string x.2] ++ flat L)[(j + 1) * 2 + 1]? = _
      rw [List.getElem?_append_right (by simp; omega)]
      simpa [show (j + 1) * 2 + 1 - 2 = j * 2 + 1 by omega] using this
end Go.Proofs.Qxb6618653a
