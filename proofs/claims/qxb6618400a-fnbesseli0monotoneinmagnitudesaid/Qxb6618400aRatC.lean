import Derived.Test.Qxb6618400aRatB
/-! The program's sum and Horner's scheme lie close together. -/
namespace Go.Proofs.Qxb6618400a.Rt

section
variable {X : Rat}

theorem g_le (hX : 0 ≤ X) (h7 : X ≤ 700) (k : Nat) (hk : 501 ≤ k) : g X k ≤ 1 / 2 := by
  refine Rat.le_trans (g_anti hX (by decide : 0 < 501) hk) ?_
  have h1 : X / (2 * ((501 : Nat) : Rat)) ≤ 700 / (2 * ((501 : Nat) : Rat)) := by
    rw [Rat.div_def, Rat.div_def]
    exact Rat.mul_le_mul_of_nonneg_right h7 (by decide +kernel)
  exact Rat.le_trans (le_mul h1 h1 (y_nonneg hX 501 (by decide)) (by decide +kernel)) (by decide +kernel)

theorem e_fall (hX : 0 ≤ X) (h7 : X ≤ 700) (j : Nat) : e X (500 + j) ≤ (1 / 2) ^ j * e X 500 := by
  induction j with
  | zero => rw [Rat.pow_zero, Rat.one_mul]; exact Rat.le_refl
  | succ j ih =>
    have h1 : e X (500 + j) * g X (500 + j + 1) ≤ (1 / 2) ^ j * e X 500 * (1 / 2) := le_mul ih (g_le hX h7 _ (by omega)) (g_nonneg hX _ (by omega)) (Rat.mul_nonneg (Rat.pow_nonneg (by decide +kernel)) (e_nonneg hX 500))
    rw [Rat.mul_assoc, Rat.mul_comm (e X 500), ← Rat.mul_assoc, ← Rat.pow_succ] at h1
    exact h1

theorem e600 (hX : 0 ≤ X) (h7 : X ≤ 700) : e X 600 ≤ (1 / 2) ^ 100 * E X 600 := by
  refine Rat.le_trans (e_fall hX h7 100) (Rat.mul_le_mul_of_nonneg_left ?_ (Rat.pow_nonneg (by decide +kernel)))
  exact Rat.le_trans (e_le_E hX 500) (E_up hX 500 100)

theorem E_600 (hX : 0 ≤ X) (h7 : X ≤ 700) (n : Nat) : E X n ≤ (1 + (1 / 2) ^ 100) * E X 600 := by
  have h1 : E X n ≤ E X (600 + n) := by rw [Nat.add_comm]; exact E_up hX n 600
  refine Rat.le_trans h1 ?_
  have h2 := tail hX (p := 1 / 2) (c := 1) (by decide) (by decide +kernel) 600 (fun k hk => g_le hX h7 k (by omega)) n
  rw [Rat.one_mul] at h2
  refine Rat.le_trans h2 ?_
  rw [Rat.add_mul, Rat.one_mul]
  exact Rat.add_le_add_left.2 (e600 hX h7)

theorem E_n (hX : 0 < X) {n : Nat} (hn : n ≤ 1000) {t s v : Rat} (ht : be ^ (4 * n) * e X n ≤ t) (hs : s ≤ al ^ (5 * n) * E X n) (hst : t ≤ al * (s * v)) (hv0 : 0 ≤ v) (hv : v ≤ 1 / 90000000000000000) :
    E X 600 ≤ (1 + 1 / 20000000000000) * E X n := by
  have hX' := Rat.le_of_lt hX
  have hr := ratio hX hn ht hs hst hv0 hv
  have h1 : E X 600 ≤ E X (n + 600) := by rw [Nat.add_comm]; exact E_up hX' 600 n
  refine Rat.le_trans h1 ?_
  have h2 := tail hX' (p := 999 / 1000) (c := 999) (by decide) (by decide +kernel) n (fun k hk => Rat.le_trans (g_anti hX' (by omega) hk) hr) 600
  refine Rat.le_trans h2 ?_
  rw [Rat.add_mul, Rat.one_mul]
  refine Rat.add_le_add_left.2 ?_
  have en := e_nonneg hX' n
  have En := E_nonneg hX' n
  have h3 : (1 / 2 : Rat) * e X n ≤ t := Rat.le_trans (Rat.mul_le_mul_of_nonneg_right (Rat.le_trans num3 (pow_down be_nonneg be_one (by omega))) en) ht
  have h4 : t ≤ 2 * E X n * (1 / 90000000000000000) := by
    refine Rat.le_trans hst ?_
    rw [← Rat.mul_assoc]
    have b1 : al * s ≤ 2 * E X n := by
      refine Rat.le_trans (Rat.mul_le_mul_of_nonneg_left hs al_nonneg) ?_
      rw [← Rat.mul_assoc, show al * al ^ (5 * n) = al ^ (5 * n + 1) by rw [Rat.pow_succ, Rat.mul_comm]]
      exact Rat.mul_le_mul_of_nonneg_right (Rat.le_trans (pow_up al_one (by omega)) num1) En
    exact le_mul b1 hv hv0 (Rat.mul_nonneg (by decide) En)
  have h5 := Rat.mul_le_mul_of_nonneg_left (Rat.le_trans h3 h4) (show (0 : Rat) ≤ 1998 by decide)
  rw [← Rat.mul_assoc, show (1998 : Rat) * (1 / 2) = 999 by decide +kernel, Rat.mul_assoc 2, Rat.mul_comm (E X n), ← Rat.mul_assoc, ← Rat.mul_assoc] at h5
  exact Rat.le_trans h5 (Rat.mul_le_mul_of_nonneg_right (by decide +kernel) En)

/-- One part in 400,000,000,000. -/
def kap : Rat := 1 / 400000000000
theorem num4 : al ^ 5000 * (1 + (1 / 2) ^ 100) ≤ (1 + kap) * be ^ 3600 := by decide +kernel
theorem num5 : al ^ 3600 * (1 + 1 / 20000000000000) ≤ (1 + kap) * be ^ 5000 := by decide +kernel

theorem close (hX : 0 < X) (h7 : X ≤ 700) {n : Nat} (hn : n ≤ 1000) {t f w v : Rat} (ht : be ^ (4 * n) * e X n ≤ t) (hf1 : be ^ (5 * n) * E X n ≤ f) (hf2 : f ≤ al ^ (5 * n) * E X n) (hst : t ≤ al * (f * v)) (hv0 : 0 ≤ v) (hv : v ≤ 1 / 90000000000000000)
    (hw1 : be ^ 3600 * H X 0 600 ≤ w) (hw2 : w ≤ al ^ 3600 * H X 0 600) : f ≤ (1 + kap) * w ∧ w ≤ (1 + kap) * f := by
  have hX' := Rat.le_of_lt hX
  rw [← horner0] at hw1 hw2
  have kp : (0 : Rat) ≤ 1 + kap := by decide +kernel
  have E6 := E_nonneg hX' 600
  have En := E_nonneg hX' n
  constructor
  · have h1 : f ≤ al ^ 5000 * ((1 + (1 / 2) ^ 100) * E X 600) :=
      Rat.le_trans hf2 (le_mul (pow_up al_one (by omega)) (E_600 hX' h7 n) En (alp 5000))
    rw [← Rat.mul_assoc] at h1
    refine Rat.le_trans h1 (Rat.le_trans (Rat.mul_le_mul_of_nonneg_right num4 E6) ?_)
    rw [Rat.mul_assoc]
    exact Rat.mul_le_mul_of_nonneg_left hw1 kp
  · have h1 : w ≤ al ^ 3600 * ((1 + 1 / 20000000000000) * E X n) :=
      Rat.le_trans hw2 (Rat.mul_le_mul_of_nonneg_left (E_n hX hn ht hf2 hst hv0 hv) (alp 3600))
    rw [← Rat.mul_assoc] at h1
    refine Rat.le_trans h1 (Rat.le_trans (Rat.mul_le_mul_of_nonneg_right num5 En) ?_)
    rw [Rat.mul_assoc]
    refine Rat.mul_le_mul_of_nonneg_left ?_ kp
    exact Rat.le_trans (Rat.mul_le_mul_of_nonneg_right (pow_down be_nonneg be_one (by omega)) En) hf1
end
end Go.Proofs.Qxb6618400a.Rt
