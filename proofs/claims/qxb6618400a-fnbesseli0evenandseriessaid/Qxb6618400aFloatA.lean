import Ieee.Arith
/-! Plain facts on the doubles of the model: what a rung is worth, and what rounding does. No Go in sight. -/
namespace Go.Proofs.Qxb6618400a.Fl
open Ieee

/-- The exponent of a rung's last digit, in units of 2^-1074. -/
def ex (r : Nat) : Nat := r / 4503599627370496 - 1
/-- What a rung is worth, in units of 2^-1074 (the formula goes on at infinity as if the format did not end). -/
def mg (r : Nat) : Nat := if r < 4503599627370496 then r else 4503599627370496 + r % 4503599627370496
def V (r : Nat) : Nat := mg r * 2 ^ ex r
def ulp (r : Nat) : Nat := 2 ^ ex r
/-- The rung of infinity. -/
def INF : Nat := 9218868437227405312

theorem two_pow_succ' (n : Nat) : 2 ^ (n + 1) = 2 * 2 ^ n := by rw [Nat.pow_succ, Nat.mul_comm]

theorem ulp_pos (r : Nat) : 0 < ulp r := Nat.two_pow_pos _

theorem V_succ (r : Nat) : V (r + 1) = V r + ulp r := by
  unfold V ulp
  by_cases h1 : r + 1 < 4503599627370496
  · have e1 : mg (r + 1) = r + 1 := by unfold mg; rw [if_pos h1]
    have e2 : mg r = r := by unfold mg; rw [if_pos (by omega)]
    have e3 : ex (r + 1) = 0 := by unfold ex; omega
    have e4 : ex r = 0 := by unfold ex; omega
    rw [e1, e2, e3, e4]; simp
  by_cases h2 : r < 4503599627370496
  · have h3 : r = 4503599627370495 := by omega
    subst h3
    decide
  have e0 : mg r = 4503599627370496 + r % 4503599627370496 := by unfold mg; rw [if_neg h2]
  by_cases h4 : r % 4503599627370496 + 1 < 4503599627370496
  · have e1 : mg (r + 1) = mg r + 1 := by
      rw [e0]; unfold mg; rw [if_neg (by omega)]; omega
    have e2 : ex (r + 1) = ex r := by unfold ex; omega
    rw [e1, e2, Nat.add_mul, Nat.one_mul]
  · have e1 : mg (r + 1) = 4503599627370496 := by unfold mg; rw [if_neg (by omega)]; omega
    have e2 : mg r = 9007199254740991 := by rw [e0]; omega
    have e3 : ex (r + 1) = ex r + 1 := by unfold ex; omega
    rw [e1, e2, e3, two_pow_succ']
    generalize 2 ^ ex r = g
    omega

theorem V_lt_succ (r : Nat) : V r < V (r + 1) := by rw [V_succ]; have := ulp_pos r; omega

theorem V_mono_add (a k : Nat) : V a + k ≤ V (a + k) := by
  induction k with
  | zero => exact Nat.le_refl _
  | succ k ih => have := V_lt_succ (a + k); show V a + (k + 1) ≤ V (a + k + 1); omega

theorem V_mono {a b : Nat} (h : a ≤ b) : V a ≤ V b := by
  obtain ⟨k, rfl⟩ := Nat.le.dest h
  have := V_mono_add a k; omega

theorem V_strict {a b : Nat} (h : a < b) : V a < V b :=
  Nat.lt_of_lt_of_le (V_lt_succ a) (V_mono h)

theorem V_le_iff {a b : Nat} : V a ≤ V b ↔ a ≤ b :=
  ⟨fun h => Nat.le_of_not_lt fun g => absurd (V_strict g) (by omega), V_mono⟩
theorem V_lt_iff {a b : Nat} : V a < V b ↔ a < b :=
  ⟨fun h => Nat.lt_of_not_le fun g => absurd (V_mono g) (by omega), V_strict⟩
theorem V_inj {a b : Nat} (h : V a = V b) : a = b :=
  Nat.le_antisymm (V_le_iff.1 (by omega)) (V_le_iff.1 (by omega))
theorem V_zero : V 0 = 0 := by decide
theorem V_pos {a : Nat} (h : 0 < a) : 0 < V a := by have := V_strict h; rw [V_zero] at this; exact this

/-- A normal rung's last digit. -/
theorem ulp_le (r : Nat) (h : 4503599627370496 ≤ r) : 4503599627370496 * ulp r ≤ V r := by
  unfold V ulp
  refine Nat.mul_le_mul_right _ ?_
  unfold mg; rw [if_neg (by omega)]; omega
theorem lt_ulp (r : Nat) : V r < 9007199254740992 * ulp r := by
  unfold V ulp
  refine Nat.mul_lt_mul_of_pos_right ?_ (Nat.two_pow_pos _)
  unfold mg; split <;> omega

/-! ### Rounding -/

/-- 'r' is the rung nearest to N / D units; of two, the even one. -/
structure Rnd (N D r : Nat) : Prop where
  top : r ≤ INF
  lo : 0 < r → (V (r - 1) + V r) * D ≤ 2 * N
  hi : r < INF → 2 * N ≤ (V r + V (r + 1)) * D
  los : r % 2 = 1 → (V (r - 1) + V r) * D < 2 * N
  his : r % 2 = 1 → 2 * N < (V r + V (r + 1)) * D

theorem Rnd.mono {N D r N' D' r' : Nat} (h : Rnd N D r) (h' : Rnd N' D' r') (hD : 0 < D) (hD' : 0 < D') (hle : N * D' ≤ N' * D) : r ≤ r' := by
  refine Nat.le_of_not_lt fun hlt => ?_
  have h0 : 0 < r := by omega
  have h1 : r' < INF := by have := h.top; omega
  have a := h.lo h0
  have b := h'.hi h1
  have m1 : V r' + V (r' + 1) ≤ V (r - 1) + V r := Nat.add_le_add (V_mono (by omega)) (V_mono (by omega))
  have a1 : (V (r - 1) + V r) * D * D' ≤ 2 * N * D' := Nat.mul_le_mul_right _ a
  have b1 : 2 * N' * D ≤ (V r' + V (r' + 1)) * D' * D := Nat.mul_le_mul_right _ b
  have c1 : (V r' + V (r' + 1)) * (D * D') ≤ (V (r - 1) + V r) * (D * D') := Nat.mul_le_mul_right _ m1
  have e1 : (V (r - 1) + V r) * D * D' = (V (r - 1) + V r) * (D * D') := Nat.mul_assoc _ _ _
  have e2 : (V r' + V (r' + 1)) * D' * D = (V r' + V (r' + 1)) * (D * D') := by rw [Nat.mul_assoc, Nat.mul_comm D' D]
  have e3 : 2 * N * D' = 2 * (N * D') := Nat.mul_assoc _ _ _
  have e4 : 2 * N' * D = 2 * (N' * D) := Nat.mul_assoc _ _ _
  have hP : 0 < D * D' := Nat.mul_pos hD hD'
  have eq : (V r' + V (r' + 1)) * (D * D') = (V (r - 1) + V r) * (D * D') := by omega
  have eq' : V r' + V (r' + 1) = V (r - 1) + V r := Nat.eq_of_mul_eq_mul_right hP eq
  have er : r' = r - 1 := by
    refine Nat.le_antisymm (by omega) (Nat.le_of_not_lt fun g => ?_)
    have s1 := V_strict g
    have s2 := V_mono (show r' + 1 ≤ r by omega)
    omega
  rcases Nat.mod_two_eq_zero_or_one r with p | p
  · have := h'.his (by omega)
    have t1 : 2 * N' * D < (V r' + V (r' + 1)) * D' * D := Nat.mul_lt_mul_of_pos_right this hD
    omega
  · have := h.los p
    have t1 : (V (r - 1) + V r) * D * D' < 2 * N * D' := Nat.mul_lt_mul_of_pos_right this hD'
    omega

theorem Rnd.unique {N D r N' D' r' : Nat} (h : Rnd N D r) (h' : Rnd N' D' r') (hD : 0 < D) (hD' : 0 < D') (e : N * D' = N' * D) : r = r' :=
  Nat.le_antisymm (h.mono h' hD hD' (by omega)) (h'.mono h hD' hD (by omega))

/-- What is worth a rung is rounded to it. -/
theorem Rnd.exact {r : Nat} (D : Nat) (hD : 0 < D) (h : r ≤ INF) : Rnd (V r * D) D r := by
  have s : V r * D < V (r + 1) * D := Nat.mul_lt_mul_of_pos_right (V_lt_succ r) hD
  have l : 0 < r → V (r - 1) * D < V r * D := fun h0 => Nat.mul_lt_mul_of_pos_right (V_strict (by omega)) hD
  refine ⟨h, fun h0 => ?_, fun _ => ?_, fun p => ?_, fun p => ?_⟩ <;> rw [Nat.add_mul]
  · have := l h0; omega
  · omega
  · have := l (by omega); omega
  · omega

/-- The relative error of rounding to a normal rung. -/
theorem Rnd.up {N D r : Nat} (h : Rnd N D r) (hr : r < INF) (hn : 4503599627370496 ≤ r) : 9007199254740992 * N ≤ 9007199254740993 * (V r * D) := by
  have a := h.hi hr
  rw [V_succ] at a
  have b : 4503599627370496 * ulp r * D ≤ V r * D := Nat.mul_le_mul_right _ (ulp_le r hn)
  have e : (V r + (V r + ulp r)) * D = 2 * (V r * D) + ulp r * D := by rw [Nat.add_mul, Nat.add_mul]; omega
  rw [Nat.mul_assoc] at b
  omega

theorem Rnd.down {N D r : Nat} (h : Rnd N D r) (hn : 4503599627370496 ≤ r) : 9007199254740991 * (V r * D) ≤ 9007199254740992 * N := by
  have a := h.lo (by omega)
  have hs := V_succ (r - 1)
  rw [show r - 1 + 1 = r by omega] at hs
  have b : 4503599627370496 * ulp (r - 1) ≤ V r := by
    by_cases g : 4503599627370496 ≤ r - 1
    · have := ulp_le (r - 1) g; omega
    · have : r = 4503599627370496 := by omega
      subst this
      decide
  have b' : 4503599627370496 * ulp (r - 1) * D ≤ V r * D := Nat.mul_le_mul_right _ b
  have e : (V (r - 1) + V r) * D + ulp (r - 1) * D = 2 * (V r * D) := by
    rw [← Nat.add_mul, show V (r - 1) + V r + ulp (r - 1) = 2 * V r by omega, Nat.mul_assoc]
  rw [Nat.mul_assoc] at b'
  omega
end Go.Proofs.Qxb6618400a.Fl
