/-! The series over the rational numbers. No doubles in sight. -/
namespace Go.Proofs.Qxb6618400a.Rt

/-- The two bounds of one rounding. -/
def al : Rat := 9007199254740992 / 9007199254740991
def be : Rat := 9007199254740992 / 9007199254740993

theorem mul_lc (a b c : Rat) : a * (b * c) = b * (a * c) := by rw [← Rat.mul_assoc, Rat.mul_comm a, Rat.mul_assoc]
theorem le_mul {a b c d : Rat} (h : a ≤ b) (k : c ≤ d) (hc : 0 ≤ c) (hb : 0 ≤ b) : a * c ≤ b * d :=
  Rat.le_trans (Rat.mul_le_mul_of_nonneg_right h hc) (Rat.mul_le_mul_of_nonneg_left k hb)
theorem le_add {a b c d : Rat} (h : a ≤ b) (k : c ≤ d) : a + c ≤ b + d :=
  Rat.le_trans (Rat.add_le_add_right.2 h) (Rat.add_le_add_left.2 k)
theorem one_nonneg : (0 : Rat) ≤ 1 := by decide

theorem pow_add' (a : Rat) (m n : Nat) : a ^ (m + n) = a ^ m * a ^ n := by
  induction n with
  | zero => rw [Nat.add_zero, Rat.pow_zero, Rat.mul_one]
  | succ n ih => rw [← Nat.add_assoc, Rat.pow_succ, ih, Rat.pow_succ, Rat.mul_assoc]

theorem one_le_pow {a : Rat} (h : 1 ≤ a) (n : Nat) : 1 ≤ a ^ n := by
  induction n with
  | zero => rw [Rat.pow_zero]; exact Rat.le_refl
  | succ n ih =>
    rw [Rat.pow_succ]
    have := le_mul ih h one_nonneg (Rat.le_trans one_nonneg ih)
    rw [Rat.mul_one] at this
    exact this
theorem pow_up {a : Rat} (h : 1 ≤ a) {m n : Nat} (hmn : m ≤ n) : a ^ m ≤ a ^ n := by
  obtain ⟨k, rfl⟩ := Nat.le.dest hmn
  rw [pow_add']
  have := Rat.mul_le_mul_of_nonneg_left (one_le_pow h k) (Rat.le_trans one_nonneg (one_le_pow h m))
  rw [Rat.mul_one] at this
  exact this
theorem pow_le_one {a : Rat} (h0 : 0 ≤ a) (h : a ≤ 1) (n : Nat) : a ^ n ≤ 1 := by
  induction n with
  | zero => rw [Rat.pow_zero]; exact Rat.le_refl
  | succ n ih =>
    rw [Rat.pow_succ]
    have := le_mul ih h h0 one_nonneg
    rw [Rat.mul_one] at this
    exact this
theorem pow_down {a : Rat} (h0 : 0 ≤ a) (h : a ≤ 1) {m n : Nat} (hmn : m ≤ n) : a ^ n ≤ a ^ m := by
  obtain ⟨k, rfl⟩ := Nat.le.dest hmn
  rw [pow_add']
  have := Rat.mul_le_mul_of_nonneg_left (pow_le_one h0 h k) (Rat.pow_nonneg (n := m) h0)
  rw [Rat.mul_one] at this
  exact this

theorem al_one : 1 ≤ al := by decide +kernel
theorem al_nonneg : 0 ≤ al := by decide +kernel
theorem be_one : be ≤ 1 := by decide +kernel
theorem be_nonneg : 0 ≤ be := by decide +kernel
theorem be_pos : 0 < be := by decide +kernel
theorem alp (n : Nat) : 0 ≤ al ^ n := Rat.pow_nonneg al_nonneg
theorem bep (n : Nat) : 0 ≤ be ^ n := Rat.pow_nonneg be_nonneg

/-- A rounding from above and from below. -/
theorem le_al {r y : Rat} (h : 9007199254740991 * r ≤ 9007199254740992 * y) : r ≤ al * y := by
  refine Rat.le_of_mul_le_mul_left (c := 9007199254740991) ?_ (by decide +kernel)
  rw [← Rat.mul_assoc, show (9007199254740991 : Rat) * al = 9007199254740992 by decide +kernel]
  exact h
theorem be_le {r y : Rat} (h : 9007199254740992 * y ≤ 9007199254740993 * r) : be * y ≤ r := by
  refine Rat.le_of_mul_le_mul_left (c := 9007199254740993) ?_ (by decide +kernel)
  rw [← Rat.mul_assoc, show (9007199254740993 : Rat) * be = 9007199254740992 by decide +kernel]
  exact h

/-! ### The series -/
def g (X : Rat) (k : Nat) : Rat := (X / (2 * (k : Rat))) * (X / (2 * (k : Rat)))
def e (X : Rat) : Nat → Rat
  | 0 => 1
  | k + 1 => e X k * g X (k + 1)
def E (X : Rat) : Nat → Rat
  | 0 => 1
  | k + 1 => E X k + e X (k + 1)
/-- Horner's scheme from level j + m down to level j. -/
def H (X : Rat) : Nat → Nat → Rat
  | _, 0 => 1
  | j, m + 1 => 1 + g X (j + 1) * H X (j + 1) m

section
variable {X : Rat} (hX : 0 ≤ X)

theorem div_nonneg {a b : Rat} (ha : 0 ≤ a) (hb : 0 < b) : 0 ≤ a / b := by
  rw [Rat.div_def]; exact Rat.mul_nonneg ha (Rat.le_of_lt (Rat.inv_pos.2 hb))
theorem two_k_pos (k : Nat) (h : 0 < k) : (0 : Rat) < 2 * (k : Rat) := Rat.mul_pos (by decide) (Rat.natCast_pos.2 h)
theorem y_nonneg (hX : 0 ≤ X) (k : Nat) (h : 0 < k) : 0 ≤ X / (2 * (k : Rat)) := div_nonneg hX (two_k_pos k h)
theorem g_nonneg (hX : 0 ≤ X) (k : Nat) (h : 0 < k) : 0 ≤ g X k := Rat.mul_nonneg (y_nonneg hX k h) (y_nonneg hX k h)
theorem e_nonneg (hX : 0 ≤ X) (k : Nat) : 0 ≤ e X k := by
  induction k with
  | zero => exact one_nonneg
  | succ k ih => exact Rat.mul_nonneg ih (g_nonneg hX (k + 1) (by omega))
theorem E_one (hX : 0 ≤ X) (k : Nat) : 1 ≤ E X k := by
  induction k with
  | zero => exact Rat.le_refl
  | succ k ih =>
    have := le_add ih (e_nonneg hX (k + 1))
    rw [Rat.add_zero] at this
    exact this
theorem E_nonneg (hX : 0 ≤ X) (k : Nat) : 0 ≤ E X k := Rat.le_trans one_nonneg (E_one hX k)
theorem E_step (hX : 0 ≤ X) (k : Nat) : E X k ≤ E X (k + 1) := by
  have := le_add (Rat.le_refl (a := E X k)) (e_nonneg hX (k + 1))
  rw [Rat.add_zero] at this
  exact this
theorem E_up (hX : 0 ≤ X) (j k : Nat) : E X j ≤ E X (j + k) := by
  induction k with
  | zero => exact Rat.le_refl
  | succ k ih => exact Rat.le_trans ih (E_step hX (j + k))
theorem e_le_E (hX : 0 ≤ X) (k : Nat) : e X k ≤ E X k := by
  cases k with
  | zero => exact Rat.le_refl
  | succ k =>
    have := le_add (E_nonneg hX k) (Rat.le_refl (a := e X (k + 1)))
    rw [Rat.zero_add] at this
    exact this
theorem H_one (hX : 0 ≤ X) (m : Nat) : ∀ j, 1 ≤ H X j m := by
  induction m with
  | zero => intro j; exact Rat.le_refl
  | succ m ih =>
    intro j
    have := le_add (Rat.le_refl (a := 1)) (Rat.mul_nonneg (g_nonneg hX (j + 1) (by omega)) (Rat.le_trans one_nonneg (ih (j + 1))))
    rw [Rat.add_zero] at this
    exact this
theorem H_nonneg (hX : 0 ≤ X) (m j : Nat) : 0 ≤ H X j m := Rat.le_trans one_nonneg (H_one hX m j)

/-- Horner's scheme is the sum. -/
theorem horner (X : Rat) (m : Nat) : ∀ j, E X (j + m) + e X j = E X j + e X j * H X j m := by
  induction m with
  | zero => intro j; rw [Nat.add_zero, show H X j 0 = 1 from rfl, Rat.mul_one]
  | succ m ih =>
    intro j
    have i := ih (j + 1)
    rw [show E X (j + 1) = E X j + e X (j + 1) from rfl, Rat.add_assoc, Rat.add_comm (e X (j + 1)), ← Rat.add_assoc] at i
    have i2 := Rat.add_right_cancel _ i
    rw [show j + (m + 1) = j + 1 + m by omega, i2, show H X j (m + 1) = 1 + g X (j + 1) * H X (j + 1) m from rfl, Rat.mul_add, Rat.mul_one, ← Rat.mul_assoc, show e X j * g X (j + 1) = e X (j + 1) from rfl,
      Rat.add_assoc, Rat.add_comm (e X (j + 1) * _)]
theorem horner0 (X : Rat) (m : Nat) : E X m = H X 0 m := by
  have := horner X m 0
  rw [Nat.zero_add, show e X 0 = 1 from rfl, show E X 0 = 1 from rfl, Rat.one_mul, Rat.add_comm 1] at this
  exact Rat.add_right_cancel _ this

/-- A tail whose ratio is at most p, p * (1 + c) ≤ c. -/
theorem tail (hX : 0 ≤ X) {p c : Rat} (hc : 0 ≤ c) (h : p * (1 + c) ≤ c) (n : Nat) (hp : ∀ k, n < k → g X k ≤ p) (m : Nat) : E X (n + m) ≤ E X n + c * e X n := by
  have key : ∀ m j, n ≤ j → H X j m ≤ 1 + c := by
    intro m
    induction m with
    | zero =>
      intro j _
      have := le_add (Rat.le_refl (a := 1)) hc
      rw [Rat.add_zero] at this
      exact this
    | succ m ih =>
      intro j hj
      have h1 : g X (j + 1) * H X (j + 1) m ≤ p * (1 + c) := le_mul (hp (j + 1) (by omega)) (ih (j + 1) (by omega)) (H_nonneg hX m (j + 1)) (Rat.le_trans (g_nonneg hX (j + 1) (by omega)) (hp (j + 1) (by omega)))
      exact le_add Rat.le_refl (Rat.le_trans h1 h)
  have h1 := horner X m n
  have h2 := Rat.mul_le_mul_of_nonneg_left (key m n (Nat.le_refl n)) (e_nonneg hX n)
  have h3 : E X (n + m) + e X n ≤ E X n + c * e X n + e X n := by
    rw [h1]
    refine Rat.le_trans (Rat.add_le_add_left.2 h2) ?_
    rw [Rat.mul_add, Rat.mul_one, Rat.add_assoc, Rat.mul_comm c, Rat.add_comm (e X n)]
    exact Rat.le_refl
  exact Rat.add_le_add_right.1 h3

/-- The ratios fall. -/
theorem g_anti (hX : 0 ≤ X) {j k : Nat} (h0 : 0 < j) (hjk : j ≤ k) : g X k ≤ g X j := by
  have h1 : X / (2 * (k : Rat)) ≤ X / (2 * (j : Rat)) := by
    refine Rat.le_of_mul_le_mul_right (c := (2 * (k : Rat)) * (2 * (j : Rat))) ?_ (Rat.mul_pos (two_k_pos k (by omega)) (two_k_pos j h0))
    have e1 : X / (2 * (k : Rat)) * (2 * (k : Rat) * (2 * (j : Rat))) = X * (2 * (j : Rat)) := by
      rw [← Rat.mul_assoc, Rat.div_mul_cancel (Rat.ne_of_gt (two_k_pos k (by omega)))]
    have e2 : X / (2 * (j : Rat)) * (2 * (k : Rat) * (2 * (j : Rat))) = X * (2 * (k : Rat)) := by
      rw [Rat.mul_comm (2 * (k : Rat)), ← Rat.mul_assoc, Rat.div_mul_cancel (Rat.ne_of_gt (two_k_pos j h0))]
    rw [e1, e2]
    exact Rat.mul_le_mul_of_nonneg_left (Rat.mul_le_mul_of_nonneg_left (Rat.natCast_le_natCast.2 hjk) (by decide)) hX
  exact le_mul h1 h1 (y_nonneg hX k (by omega)) (y_nonneg hX j h0)
end
end Go.Proofs.Qxb6618400a.Rt
