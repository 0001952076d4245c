import Derived.Test.Qxb6618400aRatA
/-! What the roundings add up to, over the rational numbers. -/
namespace Go.Proofs.Qxb6618400a.Rt

section
variable {X : Rat}

theorem up_t (hX : 0 ≤ X) {t : Nat → Rat} {n : Nat} (h0 : t 0 ≤ 1) (hs : ∀ k, k < n → t (k + 1) ≤ al ^ 4 * (t k * g X (k + 1))) : ∀ k, k ≤ n → t k ≤ al ^ (4 * k) * e X k := by
  intro k
  induction k with
  | zero => intro _; rw [Nat.mul_zero, Rat.pow_zero, Rat.one_mul]; exact h0
  | succ k ih =>
    intro hk
    refine Rat.le_trans (hs k (by omega)) ?_
    have h1 : t k * g X (k + 1) ≤ al ^ (4 * k) * e X k * g X (k + 1) := Rat.mul_le_mul_of_nonneg_right (ih (by omega)) (g_nonneg hX (k + 1) (by omega))
    refine Rat.le_trans (Rat.mul_le_mul_of_nonneg_left h1 (alp 4)) ?_
    rw [show 4 * (k + 1) = 4 + 4 * k by omega, pow_add', show e X (k + 1) = e X k * g X (k + 1) from rfl]
    simp only [Rat.mul_assoc]
    exact Rat.le_refl

theorem lo_t (hX : 0 ≤ X) {t : Nat → Rat} {n : Nat} (h0 : 1 ≤ t 0) (hs : ∀ k, k < n → be ^ 4 * (t k * g X (k + 1)) ≤ t (k + 1)) : ∀ k, k ≤ n → be ^ (4 * k) * e X k ≤ t k := by
  intro k
  induction k with
  | zero => intro _; rw [Nat.mul_zero, Rat.pow_zero, Rat.one_mul]; exact h0
  | succ k ih =>
    intro hk
    refine Rat.le_trans ?_ (hs k (by omega))
    have h1 : be ^ (4 * k) * e X k * g X (k + 1) ≤ t k * g X (k + 1) := Rat.mul_le_mul_of_nonneg_right (ih (by omega)) (g_nonneg hX (k + 1) (by omega))
    refine Rat.le_trans ?_ (Rat.mul_le_mul_of_nonneg_left h1 (bep 4))
    rw [show 4 * (k + 1) = 4 + 4 * k by omega, pow_add', show e X (k + 1) = e X k * g X (k + 1) from rfl]
    simp only [Rat.mul_assoc]
    exact Rat.le_refl

theorem up_s (hX : 0 ≤ X) {s t : Nat → Rat} {n : Nat} (h0 : s 0 ≤ 1) (ht : ∀ k, k ≤ n → t k ≤ al ^ (4 * k) * e X k) (hs : ∀ k, k < n → s (k + 1) ≤ al * (s k + t (k + 1))) : ∀ k, k ≤ n → s k ≤ al ^ (5 * k) * E X k := by
  intro k
  induction k with
  | zero => intro _; rw [Nat.mul_zero, Rat.pow_zero, Rat.one_mul]; exact h0
  | succ k ih =>
    intro hk
    refine Rat.le_trans (hs k (by omega)) ?_
    refine Rat.le_trans (Rat.mul_le_mul_of_nonneg_left (le_add (ih (by omega)) (ht (k + 1) hk)) al_nonneg) ?_
    rw [show E X (k + 1) = E X k + e X (k + 1) from rfl, Rat.mul_add, Rat.mul_add]
    refine le_add ?_ ?_
    · rw [← Rat.mul_assoc, show al * al ^ (5 * k) = al ^ (5 * k + 1) by rw [Rat.pow_succ, Rat.mul_comm]]
      exact Rat.mul_le_mul_of_nonneg_right (pow_up al_one (by omega)) (E_nonneg hX k)
    · rw [← Rat.mul_assoc, show al * al ^ (4 * (k + 1)) = al ^ (4 * (k + 1) + 1) by rw [Rat.pow_succ, Rat.mul_comm]]
      exact Rat.mul_le_mul_of_nonneg_right (pow_up al_one (by omega)) (e_nonneg hX (k + 1))

theorem lo_s (hX : 0 ≤ X) {s t : Nat → Rat} {n : Nat} (h0 : 1 ≤ s 0) (ht : ∀ k, k ≤ n → be ^ (4 * k) * e X k ≤ t k) (hs : ∀ k, k < n → be * (s k + t (k + 1)) ≤ s (k + 1)) : ∀ k, k ≤ n → be ^ (5 * k) * E X k ≤ s k := by
  intro k
  induction k with
  | zero => intro _; rw [Nat.mul_zero, Rat.pow_zero, Rat.one_mul]; exact h0
  | succ k ih =>
    intro hk
    refine Rat.le_trans ?_ (hs k (by omega))
    refine Rat.le_trans ?_ (Rat.mul_le_mul_of_nonneg_left (le_add (ih (by omega)) (ht (k + 1) hk)) be_nonneg)
    rw [show E X (k + 1) = E X k + e X (k + 1) from rfl, Rat.mul_add, Rat.mul_add]
    refine le_add ?_ ?_
    · rw [← Rat.mul_assoc, show be * be ^ (5 * k) = be ^ (5 * k + 1) by rw [Rat.pow_succ, Rat.mul_comm]]
      exact Rat.mul_le_mul_of_nonneg_right (pow_down be_nonneg be_one (by omega)) (E_nonneg hX k)
    · rw [← Rat.mul_assoc, show be * be ^ (4 * (k + 1)) = be ^ (4 * (k + 1) + 1) by rw [Rat.pow_succ, Rat.mul_comm]]
      exact Rat.mul_le_mul_of_nonneg_right (pow_down be_nonneg be_one (by omega)) (e_nonneg hX (k + 1))

theorem up_h (hX : 0 ≤ X) {h : Nat → Rat} {M : Nat} (h0 : h 0 ≤ 1) (hs : ∀ m, m < M → h (m + 1) ≤ al * (1 + al ^ 5 * (g X (M - m) * h m))) : ∀ m, m ≤ M → h m ≤ al ^ (6 * m) * H X (M - m) m := by
  intro m
  induction m with
  | zero => intro _; rw [Nat.mul_zero, Rat.pow_zero, Rat.one_mul]; exact h0
  | succ m ih =>
    intro hm
    refine Rat.le_trans (hs m (by omega)) ?_
    have h1 : g X (M - m) * h m ≤ g X (M - m) * (al ^ (6 * m) * H X (M - m) m) := Rat.mul_le_mul_of_nonneg_left (ih (by omega)) (g_nonneg hX _ (by omega))
    refine Rat.le_trans (Rat.mul_le_mul_of_nonneg_left (le_add Rat.le_refl (Rat.mul_le_mul_of_nonneg_left h1 (alp 5))) al_nonneg) ?_
    have e1 : H X (M - (m + 1)) (m + 1) = 1 + g X (M - m) * H X (M - m) m := by
      show 1 + g X (M - (m + 1) + 1) * H X (M - (m + 1) + 1) m = _
      rw [show M - (m + 1) + 1 = M - m by omega]
    rw [e1, Rat.mul_add, Rat.mul_add, Rat.mul_one, Rat.mul_one]
    refine le_add ?_ ?_
    · have := pow_up al_one (show 1 ≤ 6 * (m + 1) by omega)
      rw [Rat.pow_one] at this
      exact this
    · have e2 : al * (al ^ 5 * (g X (M - m) * (al ^ (6 * m) * H X (M - m) m))) = al ^ (6 * (m + 1)) * (g X (M - m) * H X (M - m) m) := by
        rw [show 6 * (m + 1) = 1 + (5 + 6 * m) by omega, pow_add' al 1, pow_add' al 5, Rat.pow_one]
        rw [Rat.mul_assoc, Rat.mul_assoc, mul_lc (g X (M - m))]
      rw [e2]
      exact Rat.le_refl

theorem lo_h (hX : 0 ≤ X) {h : Nat → Rat} {M : Nat} (h0 : 1 ≤ h 0) (hs : ∀ m, m < M → be * (1 + be ^ 5 * (g X (M - m) * h m)) ≤ h (m + 1)) : ∀ m, m ≤ M → be ^ (6 * m) * H X (M - m) m ≤ h m := by
  intro m
  induction m with
  | zero => intro _; rw [Nat.mul_zero, Rat.pow_zero, Rat.one_mul]; exact h0
  | succ m ih =>
    intro hm
    refine Rat.le_trans ?_ (hs m (by omega))
    have h1 : g X (M - m) * (be ^ (6 * m) * H X (M - m) m) ≤ g X (M - m) * h m := Rat.mul_le_mul_of_nonneg_left (ih (by omega)) (g_nonneg hX _ (by omega))
    refine Rat.le_trans ?_ (Rat.mul_le_mul_of_nonneg_left (le_add Rat.le_refl (Rat.mul_le_mul_of_nonneg_left h1 (bep 5))) be_nonneg)
    have e1 : H X (M - (m + 1)) (m + 1) = 1 + g X (M - m) * H X (M - m) m := by
      show 1 + g X (M - (m + 1) + 1) * H X (M - (m + 1) + 1) m = _
      rw [show M - (m + 1) + 1 = M - m by omega]
    rw [e1, Rat.mul_add, Rat.mul_add, Rat.mul_one, Rat.mul_one]
    refine le_add ?_ ?_
    · have := pow_down be_nonneg be_one (show 1 ≤ 6 * (m + 1) by omega)
      rw [Rat.pow_one] at this
      exact this
    · have e2 : be * (be ^ 5 * (g X (M - m) * (be ^ (6 * m) * H X (M - m) m))) = be ^ (6 * (m + 1)) * (g X (M - m) * H X (M - m) m) := by
        rw [show 6 * (m + 1) = 1 + (5 + 6 * m) by omega, pow_add' be 1, pow_add' be 5, Rat.pow_one]
        rw [Rat.mul_assoc, Rat.mul_assoc, mul_lc (g X (M - m))]
      rw [e2]
      exact Rat.le_refl

/-! ### Where the loop ends the ratio is below 999/1000 -/
theorem e_pos (hX : 0 < X) (k : Nat) : 0 < e X k := by
  induction k with
  | zero => show (0 : Rat) < 1; decide
  | succ k ih =>
    have h1 : 0 < X / (2 * ((k + 1 : Nat) : Rat)) := by rw [Rat.div_def]; exact Rat.mul_pos hX (Rat.inv_pos.2 (two_k_pos (k + 1) (by omega)))
    exact Rat.mul_pos ih (Rat.mul_pos h1 h1)

def sg : Rat := 1000 / 999
theorem sg_nonneg : 0 ≤ sg := by decide +kernel
theorem sg_one : 1 ≤ sg := by decide +kernel

theorem E_le_last (hX : 0 ≤ X) {n : Nat} (hg : (999 / 1000 : Rat) ≤ g X n) : ∀ k, k ≤ n → E X k ≤ ((k : Rat) + 1) * (sg ^ k * e X k) := by
  intro k
  induction k with
  | zero =>
    intro _
    show (1 : Rat) ≤ ((0 : Nat) + 1) * (sg ^ 0 * 1)
    decide +kernel
  | succ k ih =>
    intro hk
    have hk1 : (999 / 1000 : Rat) ≤ g X (k + 1) := Rat.le_trans hg (g_anti hX (by omega) hk)
    -- e k ≤ sg * e (k + 1)
    have h1 : e X k ≤ sg * e X (k + 1) := by
      have h2 : e X k * (999 / 1000) ≤ e X k * g X (k + 1) := Rat.mul_le_mul_of_nonneg_left hk1 (e_nonneg hX k)
      have h3 := Rat.mul_le_mul_of_nonneg_left h2 sg_nonneg
      rw [mul_lc, show sg * (999 / 1000) = 1 by decide +kernel, Rat.mul_one] at h3
      exact h3
    have h4 : sg ^ k * e X k ≤ sg ^ (k + 1) * e X (k + 1) := by
      have := Rat.mul_le_mul_of_nonneg_left h1 (Rat.pow_nonneg (n := k) sg_nonneg)
      rw [← Rat.mul_assoc, ← Rat.pow_succ] at this
      exact this
    have h5 : E X k ≤ ((k : Rat) + 1) * (sg ^ (k + 1) * e X (k + 1)) := Rat.le_trans (ih (by omega)) (Rat.mul_le_mul_of_nonneg_left h4 (Rat.add_nonneg Rat.natCast_nonneg one_nonneg))
    have h6 : e X (k + 1) ≤ 1 * (sg ^ (k + 1) * e X (k + 1)) := by
      rw [Rat.one_mul]
      have := Rat.mul_le_mul_of_nonneg_right (one_le_pow sg_one (k + 1)) (e_nonneg hX (k + 1))
      rw [Rat.one_mul] at this
      exact this
    have := le_add h5 h6
    rw [← Rat.add_mul] at this
    rw [show ((k + 1 : Nat) : Rat) = (k : Rat) + 1 by rw [Rat.natCast_add]; rfl]
    exact this

theorem num1 : al ^ 5001 ≤ 2 := by decide +kernel
theorem num2 : sg ^ 1000 ≤ 3 := by decide +kernel
theorem num3 : (1 / 2 : Rat) ≤ be ^ 4000 := by decide +kernel

theorem ratio (hX : 0 < X) {n : Nat} (hn : n ≤ 1000) {t s v : Rat} (ht : be ^ (4 * n) * e X n ≤ t) (hs : s ≤ al ^ (5 * n) * E X n) (hst : t ≤ al * (s * v)) (hv0 : 0 ≤ v) (hv : v ≤ 1 / 90000000000000000) : g X (n + 1) ≤ 999 / 1000 := by
  refine Rat.not_lt.1 fun hlt => ?_
  have hX' := Rat.le_of_lt hX
  have hg : (999 / 1000 : Rat) ≤ g X (n + 1) := Rat.le_of_lt hlt
  have h1 := E_le_last hX' hg n (by omega)
  have en := e_nonneg hX' n
  -- E n ≤ 3003 * e n
  have h2 : E X n ≤ 3003 * e X n := by
    refine Rat.le_trans h1 ?_
    have a1 : ((n : Rat) + 1) ≤ 1001 := by
      have : ((n : Nat) : Rat) ≤ ((1000 : Nat) : Rat) := Rat.natCast_le_natCast.2 hn
      have := Rat.add_le_add_right (c := 1) |>.2 this
      rw [show ((1000 : Nat) : Rat) + 1 = 1001 by decide +kernel] at this
      exact this
    have a2 : sg ^ n * e X n ≤ 3 * e X n := Rat.mul_le_mul_of_nonneg_right (Rat.le_trans (pow_up sg_one hn) num2) en
    have := le_mul a1 a2 (Rat.mul_nonneg (Rat.pow_nonneg sg_nonneg) en) (by decide)
    rw [← Rat.mul_assoc 1001, show (1001 * 3 : Rat) = 3003 by decide +kernel] at this
    exact this
  -- (1/2) e n ≤ t ≤ 2 * 3003 * e n / 9e16
  have h3 : (1 / 2 : Rat) * e X n ≤ t := Rat.le_trans (Rat.mul_le_mul_of_nonneg_right (Rat.le_trans num3 (pow_down be_nonneg be_one (by omega))) en) ht
  have h4 : t ≤ 2 * (3003 * e X n) * (1 / 90000000000000000) := by
    refine Rat.le_trans hst ?_
    rw [← Rat.mul_assoc]
    have b1 : al * s ≤ 2 * (3003 * e X n) := by
      refine Rat.le_trans (Rat.mul_le_mul_of_nonneg_left hs al_nonneg) ?_
      rw [← Rat.mul_assoc, show al * al ^ (5 * n) = al ^ (5 * n + 1) by rw [Rat.pow_succ, Rat.mul_comm]]
      exact le_mul (Rat.le_trans (pow_up al_one (by omega)) num1) h2 (E_nonneg hX' n) (by decide)
    exact le_mul b1 hv hv0 (Rat.mul_nonneg (by decide) (Rat.mul_nonneg (by decide) en))
  have h5 := Rat.le_trans h3 h4
  rw [show (2 : Rat) * (3003 * e X n) * (1 / 90000000000000000) = (2 * 3003 * (1 / 90000000000000000)) * e X n by rw [← Rat.mul_assoc, Rat.mul_assoc (2 * 3003), Rat.mul_comm (e X n), ← Rat.mul_assoc]] at h5
  have h6 := Rat.le_of_mul_le_mul_right h5 (e_pos hX n)
  exact absurd h6 (by decide +kernel)
end
end Go.Proofs.Qxb6618400a.Rt
