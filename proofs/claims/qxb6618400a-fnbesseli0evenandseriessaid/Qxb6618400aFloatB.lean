import Derived.Test.Qxb6618400aFloatA
/-! The model's own 'nearest' rounds as 'Rnd' says. -/
namespace Go.Proofs.Qxb6618400a.Fl
open Ieee

/-- 'k' is the whole number nearest to N / D; of two, the even one. -/
structure Half (N D k : Nat) : Prop where
  lo : 2 * (k * D) ≤ 2 * N + D
  hi : 2 * N ≤ 2 * (k * D) + D
  los : k % 2 = 1 → 2 * (k * D) < 2 * N + D
  his : k % 2 = 1 → 2 * N < 2 * (k * D) + D

theorem Half.scale {N D k N' D' : Nat} (h : Half N D k) (hD : 0 < D) (hD' : 0 < D') (e : N * D' = N' * D) : Half N' D' k := by
  have key : ∀ x : Nat, x * D * D' = x * D' * D := fun x => by rw [Nat.mul_assoc, Nat.mul_assoc, Nat.mul_comm D]
  have k1 := key k
  have e' : N * D' = N' * D := e
  have dd : D * D' = D' * D := Nat.mul_comm _ _
  refine ⟨?_, ?_, fun p => ?_, fun p => ?_⟩
  · have := Nat.mul_le_mul_right D' h.lo
    refine Nat.le_of_mul_le_mul_right ?_ hD
    rw [Nat.add_mul, Nat.mul_assoc, Nat.mul_assoc 2 N] at this
    rw [Nat.add_mul, Nat.mul_assoc, Nat.mul_assoc 2 N']
    omega
  · have := Nat.mul_le_mul_right D' h.hi
    refine Nat.le_of_mul_le_mul_right ?_ hD
    rw [Nat.add_mul, Nat.mul_assoc, Nat.mul_assoc 2 (k * D)] at this
    rw [Nat.add_mul, Nat.mul_assoc, Nat.mul_assoc 2 (k * D')]
    omega
  · have := Nat.mul_lt_mul_of_pos_right (h.los p) hD'
    refine Nat.lt_of_mul_lt_mul_right (a := D) ?_
    rw [Nat.add_mul, Nat.mul_assoc, Nat.mul_assoc 2 N] at this
    rw [Nat.add_mul, Nat.mul_assoc, Nat.mul_assoc 2 N']
    omega
  · have := Nat.mul_lt_mul_of_pos_right (h.his p) hD'
    refine Nat.lt_of_mul_lt_mul_right (a := D) ?_
    rw [Nat.add_mul, Nat.mul_assoc, Nat.mul_assoc 2 (k * D)] at this
    rw [Nat.add_mul, Nat.mul_assoc, Nat.mul_assoc 2 (k * D')]
    omega

/-- The model's cut. -/
theorem half_cut (neg : Bool) (n drop : Nat) (hn : n ≠ 0) : Half n (2 ^ drop) (Toward.even.cut neg n drop) := by
  have hl := Nat.log2_self_le hn
  have hu : n < 2 ^ (n.log2 + 1) := Nat.lt_log2_self
  by_cases hd : drop ≤ n.log2 + 2
  · have hc : Toward.even.cut neg n drop = n / 2 ^ drop + (decide (2 ^ drop < 2 * (n % 2 ^ drop)) || (2 ^ drop == 2 * (n % 2 ^ drop) && n / 2 ^ drop % 2 == 1)).toNat := by
      unfold Toward.cut
      simp only [Nat.min_eq_left hd, Nat.one_shiftLeft]
    rw [hc]
    have hg : 0 < 2 ^ drop := Nat.two_pow_pos _
    have hm := Nat.div_add_mod n (2 ^ drop)
    have hr := Nat.mod_lt n hg
    generalize 2 ^ drop = g at *
    generalize n / g = q at *
    generalize n % g = s at *
    have cm : g * q = q * g := Nat.mul_comm _ _
    by_cases h1 : g < 2 * s
    · have e : (decide (g < 2 * s) || (g == 2 * s && q % 2 == 1)).toNat = 1 := by simp [h1]
      rw [e]
      have e2 : (q + 1) * g = q * g + g := by rw [Nat.add_mul, Nat.one_mul]
      exact ⟨by omega, by omega, fun _ => by omega, fun _ => by omega⟩
    · by_cases h2 : g = 2 * s
      · by_cases h3 : q % 2 = 1
        · have e : (decide (g < 2 * s) || (g == 2 * s && q % 2 == 1)).toNat = 1 := by simp [h2, h3]
          rw [e]
          have e2 : (q + 1) * g = q * g + g := by rw [Nat.add_mul, Nat.one_mul]
          exact ⟨by omega, by omega, fun _ => by omega, fun _ => by omega⟩
        · have e : (decide (g < 2 * s) || (g == 2 * s && q % 2 == 1)).toNat = 0 := by simp [h2, h3]
          rw [e]
          exact ⟨by simp; omega, by simp; omega, fun _ => by omega, fun _ => by omega⟩
      · have e : (decide (g < 2 * s) || (g == 2 * s && q % 2 == 1)).toNat = 0 := by simp [h1, h2]
        rw [e]
        exact ⟨by simp; omega, by simp; omega, fun _ => by simp; omega, fun _ => by simp; omega⟩
  · have hc : Toward.even.cut neg n drop = 0 := by
      unfold Toward.cut
      simp only [Nat.min_eq_right (by omega : n.log2 + 2 ≤ drop), Nat.one_shiftLeft]
      have h4 : 2 ^ (n.log2 + 2) = 2 * 2 ^ (n.log2 + 1) := two_pow_succ' _
      rw [Nat.div_eq_of_lt (by omega), Nat.mod_eq_of_lt (by omega)]
      simp
      omega
    rw [hc]
    have h4 : 2 ^ (n.log2 + 2) = 2 * 2 ^ (n.log2 + 1) := two_pow_succ' _
    have h5 : 2 ^ (n.log2 + 2) ≤ 2 ^ drop := Nat.pow_le_pow_right (by decide) (by omega)
    exact ⟨by omega, by omega, fun h => by omega, fun h => by omega⟩

theorem half_exact (neg : Bool) (n : Nat) : Toward.even.cut neg n 0 = n := by
  unfold Toward.cut
  simp [Nat.mod_one]

/-- What the rung at which a whole number k of the place e stands is worth. -/
theorem V_at {e k : Nat} (k1 : k ≤ 9007199254740992) (k2 : 0 < e → 4503599627370496 ≤ k) : V (e * 4503599627370496 + k) = k * 2 ^ e := by
  unfold V
  by_cases he : e = 0
  · subst he
    by_cases a : k < 4503599627370496
    · have h1 : mg (0 * 4503599627370496 + k) = k := by unfold mg; rw [if_pos (by omega)]; omega
      have h2 : ex (0 * 4503599627370496 + k) = 0 := by unfold ex; omega
      rw [h1, h2]
    · by_cases b : k = 9007199254740992
      · subst b; decide
      · have h1 : mg (0 * 4503599627370496 + k) = k := by unfold mg; rw [if_neg (by omega)]; omega
        have h2 : ex (0 * 4503599627370496 + k) = 0 := by unfold ex; omega
        rw [h1, h2]
  · have := k2 (by omega)
    by_cases b : k = 9007199254740992
    · have h1 : mg (e * 4503599627370496 + k) = 4503599627370496 := by unfold mg; rw [if_neg (by omega)]; omega
      have h2 : ex (e * 4503599627370496 + k) = e + 1 := by unfold ex; omega
      rw [h1, h2, b, two_pow_succ']; omega
    · have h1 : mg (e * 4503599627370496 + k) = k := by unfold mg; rw [if_neg (by omega)]; omega
      have h2 : ex (e * 4503599627370496 + k) = e := by unfold ex; omega
      rw [h1, h2]

/-- The heart: a whole number of the last place that is kept, and the rung that it stands at. -/
theorem rnd_of_half {N D e k : Nat} (hD : 0 < D) (H : Half N (D * 2 ^ e) k) (ub : N < 9007199254740992 * (D * 2 ^ e)) (lb : 0 < e → 4503599627370496 * (D * 2 ^ e) ≤ N) :
    Rnd N D (min (e * 4503599627370496 + k) INF) := by
  have hg : 0 < D * 2 ^ e := Nat.mul_pos hD (Nat.two_pow_pos _)
  have k1 : k ≤ 9007199254740992 := by
    refine Nat.le_of_not_lt fun g => ?_
    have := Nat.mul_le_mul_right (D * 2 ^ e) (show 9007199254740993 ≤ k by omega)
    have := H.lo
    omega
  have k2 : 0 < e → 4503599627370496 ≤ k := by
    intro he
    refine Nat.le_of_not_lt fun g => ?_
    have := Nat.mul_le_mul_right (D * 2 ^ e) (show k ≤ 4503599627370495 by omega)
    have := H.hi
    have := lb he
    omega
  have vk : V (e * 4503599627370496 + k) = k * 2 ^ e := V_at k1 k2
  have vd : V (e * 4503599627370496 + k) * D = k * (D * 2 ^ e) := by rw [vk, Nat.mul_assoc, Nat.mul_comm (2 ^ e)]
  -- the rung above is at least one last place away
  have up : k * (D * 2 ^ e) + D * 2 ^ e ≤ V (e * 4503599627370496 + k + 1) * D := by
    rw [V_succ, Nat.add_mul, vd, Nat.mul_comm D (2 ^ e)]
    refine Nat.add_le_add_left (Nat.mul_le_mul_right _ (Nat.pow_le_pow_right (by decide) ?_)) _
    unfold ex
    by_cases he : e = 0
    · omega
    · have := k2 (by omega); omega
  -- the rung below is one last place away, or less where k is the least of its binade
  have dn : 0 < e * 4503599627370496 + k → (V (e * 4503599627370496 + k - 1) * D + D * 2 ^ e = k * (D * 2 ^ e)) ∨ (0 < e ∧ k = 4503599627370496) := by
    intro h0
    by_cases c : 0 < e ∧ k = 4503599627370496
    · exact Or.inr c
    · left
      have hs := V_succ (e * 4503599627370496 + k - 1)
      rw [show e * 4503599627370496 + k - 1 + 1 = e * 4503599627370496 + k by omega] at hs
      have hu : ulp (e * 4503599627370496 + k - 1) = 2 ^ e := by
        unfold ulp
        congr 1
        unfold ex
        by_cases he : e = 0
        · omega
        · have := k2 (by omega); omega
      rw [← vd, hs, Nat.add_mul, hu, Nat.mul_comm (2 ^ e)]
  have lo : 0 < e * 4503599627370496 + k → (V (e * 4503599627370496 + k - 1) + V (e * 4503599627370496 + k)) * D ≤ 2 * N ∧ (k % 2 = 1 → (V (e * 4503599627370496 + k - 1) + V (e * 4503599627370496 + k)) * D < 2 * N) := by
    intro h0
    rw [Nat.add_mul, vd]
    have h1 := H.lo
    rcases dn h0 with h | ⟨he, hk⟩
    · exact ⟨by omega, fun p => by have := H.los p; omega⟩
    · have h2 : V (e * 4503599627370496 + k - 1) * D < V (e * 4503599627370496 + k) * D := Nat.mul_lt_mul_of_pos_right (V_strict (by omega)) hD
      have h3 := lb he
      rw [vd] at h2
      have : k * (D * 2 ^ e) = 4503599627370496 * (D * 2 ^ e) := by rw [hk]
      exact ⟨by omega, fun p => by omega⟩
  by_cases c : e * 4503599627370496 + k < INF
  · rw [Nat.min_eq_left (by omega)]
    refine ⟨by omega, fun h0 => (lo h0).1, fun _ => ?_, fun p => (lo (by omega)).2 (by omega), fun p => ?_⟩ <;> rw [Nat.add_mul, vd]
    · have := H.hi; omega
    · have := H.his (by omega); omega
  · rw [Nat.min_eq_right (by omega)]
    have hodd : INF % 2 = 0 := by decide
    refine ⟨Nat.le_refl _, fun h0 => ?_, fun h => absurd h (by omega), fun p => by omega, fun p => by omega⟩
    have h1 := (lo (by unfold INF at c; omega)).1
    refine Nat.le_trans (Nat.mul_le_mul_right _ (Nat.add_le_add (V_mono (by omega)) (V_mono (by omega)))) h1
end Go.Proofs.Qxb6618400a.Fl
