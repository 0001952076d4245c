import Derived.Test.Qxb6618400aFloatB
/-! The model's operations on doubles, as roundings. -/
namespace Go.Proofs.Qxb6618400a.Fl
open Ieee

/-- The word of a sign and a rung. -/
def W (s : Bool) (r : Nat) : Nat := if s then 9223372036854775808 + r else r

theorem word_eq (s : Bool) (r : Nat) : double.word s r = W s r := by
  unfold Format.word W; rfl

theorem nearest_eq (neg : Bool) (mag : Nat) (place : Int) (hm : mag ≠ 0) (e a b : Nat)
    (he : max (place + (mag.log2 : Int) - 52) (-1074) = (e : Int) - 1074) (ha : a = (place - ((e : Int) - 1074)).toNat) (hb : b = (((e : Int) - 1074) - place).toNat) :
    double.nearest neg mag place = W neg (min (e * 4503599627370496 + Toward.even.cut neg (mag * 2 ^ a) b) INF) := by
  subst ha hb
  have h1 : (double.fractionBits : Int) = 52 := rfl
  have h2 : double.leastPlace = -1074 := by decide
  have h3 : double.binade = 4503599627370496 := by decide
  have h4 : double.infRung = INF := by decide
  unfold Format.nearest
  simp only [if_neg hm, h1, h2, h3, h4, he, word_eq, Nat.shiftLeft_eq]
  rw [show ((e : Int) - 1074 - -1074).toNat = e by omega]

theorem pipe {N D p d A C a b e l k : Nat} (hD : 0 < D) (hC : 0 < C) (hab : a + d + e = b + p) (HA : Half (A * 2 ^ a) (C * 2 ^ b) k)
    (hub : A < 2 ^ (l + 1) * C) (hlb : 2 ^ l * C ≤ A) (hv : A * 2 ^ p * D = N * 2 ^ d * C) (h1 : l + p ≤ 52 + e + d) (h2 : 0 < e → l + p = 52 + e + d) :
    Rnd N D (min (e * 4503599627370496 + k) INF) := by
  have pd : 0 < 2 ^ d := Nat.two_pow_pos _
  have pe : 0 < 2 ^ e := Nat.two_pow_pos _
  have pb : 0 < 2 ^ b := Nat.two_pow_pos _
  have pp : 0 < 2 ^ p := Nat.two_pow_pos _
  have c53 : 9007199254740992 = 2 ^ 53 := by decide
  have c52 : 4503599627370496 = 2 ^ 52 := by decide
  refine rnd_of_half hD (HA.scale (Nat.mul_pos hC pb) (Nat.mul_pos hD pe) ?_) ?_ ?_
  · -- the two fractions are one
    refine Nat.eq_of_mul_eq_mul_right pd ?_
    calc A * 2 ^ a * (D * 2 ^ e) * 2 ^ d = A * D * (2 ^ a * 2 ^ d * 2 ^ e) := by ac_rfl
      _ = A * D * (2 ^ b * 2 ^ p) := by rw [← Nat.pow_add, ← Nat.pow_add, hab, Nat.pow_add]
      _ = A * 2 ^ p * D * 2 ^ b := by ac_rfl
      _ = N * 2 ^ d * C * 2 ^ b := by rw [hv]
      _ = N * (C * 2 ^ b) * 2 ^ d := by ac_rfl
  · refine Nat.lt_of_mul_lt_mul_right (a := 2 ^ d * C) ?_
    calc N * (2 ^ d * C) = A * 2 ^ p * D := by rw [← Nat.mul_assoc, hv]
      _ = A * (2 ^ p * D) := Nat.mul_assoc _ _ _
      _ < 2 ^ (l + 1) * C * (2 ^ p * D) := Nat.mul_lt_mul_of_pos_right hub (Nat.mul_pos pp hD)
      _ = 2 ^ (l + p + 1) * (C * D) := by rw [show l + p + 1 = (l + 1) + p by omega, Nat.pow_add 2 (l + 1) p]; ac_rfl
      _ ≤ 2 ^ (53 + e + d) * (C * D) := Nat.mul_le_mul_right _ (Nat.pow_le_pow_right (by decide) (by omega))
      _ = 9007199254740992 * (D * 2 ^ e) * (2 ^ d * C) := by rw [c53, Nat.pow_add, Nat.pow_add]; ac_rfl
  · intro h
    refine Nat.le_of_mul_le_mul_right ?_ (Nat.mul_pos pd hC)
    calc 4503599627370496 * (D * 2 ^ e) * (2 ^ d * C) = 2 ^ (52 + e + d) * (C * D) := by rw [c52, Nat.pow_add, Nat.pow_add]; ac_rfl
      _ = 2 ^ (l + p) * (C * D) := by rw [h2 h]
      _ = 2 ^ l * C * (2 ^ p * D) := by rw [Nat.pow_add]; ac_rfl
      _ ≤ A * (2 ^ p * D) := Nat.mul_le_mul_right _ hlb
      _ = A * 2 ^ p * D := (Nat.mul_assoc _ _ _).symm
      _ = N * (2 ^ d * C) := by rw [hv, Nat.mul_assoc]

/-- An exact number, rounded. -/
theorem nearest_exact (neg : Bool) {mag : Nat} {place : Int} {N D : Nat} (p d : Nat) (hm : mag ≠ 0) (hD : 0 < D) (hp : place = (p : Int) - d - 1074) (hv : mag * 2 ^ p * D = N * 2 ^ d) :
    ∃ r, double.nearest neg mag place = W neg r ∧ Rnd N D r := by
  obtain ⟨e, he⟩ : ∃ e : Nat, max (place + (mag.log2 : Int) - 52) (-1074) = (e : Int) - 1074 := ⟨(max (place + (mag.log2 : Int) - 52) (-1074) + 1074).toNat, by omega⟩
  refine ⟨_, nearest_eq neg mag place hm e _ _ he rfl rfl, ?_⟩
  generalize hA : (place - ((e : Int) - 1074)).toNat = a
  generalize hB : (((e : Int) - 1074) - place).toNat = b
  have hne : mag * 2 ^ a ≠ 0 := Nat.ne_of_gt (Nat.mul_pos (Nat.pos_of_ne_zero hm) (Nat.two_pow_pos _))
  refine pipe (p := p) (d := d) (A := mag) (C := 1) (a := a) (b := b) (l := mag.log2) hD (by decide) (by omega) ?_ ?_ ?_ (by rw [hv, Nat.mul_one]) (by omega) (by omega)
  · rw [Nat.one_mul]; exact half_cut neg _ _ hne
  · rw [Nat.mul_one]; exact Nat.lt_log2_self
  · rw [Nat.mul_one]; exact Nat.log2_self_le hm

/-- A quotient with its sticky digit, rounded as the true quotient is. -/
theorem half_sticky {dv n b k : Nat} (hn : 0 < n) (hb : 2 ≤ b) (H : Half (2 * (dv / n) + (dv % n != 0).toNat) (2 ^ b) k) : Half (2 * dv) (n * 2 ^ b) k := by
  obtain ⟨c, rfl⟩ : ∃ c, b = c + 2 := ⟨b - 2, by omega⟩
  have e4 : 2 ^ (c + 2) = 4 * 2 ^ c := by rw [Nat.pow_add, Nat.mul_comm]
  have hm := Nat.div_add_mod dv n
  have hr := Nat.mod_lt dv hn
  obtain ⟨h1, h2, h3, h4⟩ := H
  rw [e4] at *
  generalize 2 ^ c = g at *
  have kg : k * (4 * g) = 4 * (k * g) := by ac_rfl
  have kn : k * (n * (4 * g)) = 4 * (n * (k * g)) := by ac_rfl
  have ng : n * (4 * g) = 4 * (n * g) := by ac_rfl
  simp only [kg] at h1 h2 h3 h4
  -- t below and t' above, in whole units
  have lo : 2 * (k * g) ≤ dv / n + g → 2 * (n * (k * g)) ≤ n * (dv / n) + n * g := fun h => by
    have := Nat.mul_le_mul_left n h
    rw [Nat.mul_add, Nat.mul_left_comm n 2] at this
    exact this
  have lo' : 2 * (k * g) + 1 ≤ dv / n + g → 2 * (n * (k * g)) + n ≤ n * (dv / n) + n * g := fun h => by
    have := Nat.mul_le_mul_left n h
    rw [Nat.mul_add, Nat.mul_add, Nat.mul_left_comm n 2, Nat.mul_one] at this
    exact this
  have hi : dv / n ≤ 2 * (k * g) + g → n * (dv / n) ≤ 2 * (n * (k * g)) + n * g := fun h => by
    have := Nat.mul_le_mul_left n h
    rw [Nat.mul_add, Nat.mul_left_comm n 2] at this
    exact this
  have hi' : dv / n + 1 ≤ 2 * (k * g) + g → n * (dv / n) + n ≤ 2 * (n * (k * g)) + n * g := fun h => by
    have := Nat.mul_le_mul_left n h
    rw [Nat.mul_add, Nat.mul_add, Nat.mul_left_comm n 2, Nat.mul_one] at this
    exact this
  rw [show (dv % n != 0).toNat = if dv % n = 0 then 0 else 1 by by_cases c : dv % n = 0 <;> simp [c]] at *
  generalize dv / n = q at *
  generalize dv % n = s at *
  constructor
  · rw [kn, ng]
    have := lo (by split at h1 <;> omega)
    omega
  · rw [kn, ng]
    by_cases c : s = 0
    · have := hi (by rw [if_pos c] at h2; omega)
      omega
    · have := hi' (by rw [if_neg c] at h2; omega)
      omega
  · intro p
    rw [kn, ng]
    by_cases c : s = 0
    · have h := h3 p
      rw [if_pos c] at h
      have := lo' (by omega)
      omega
    · have h := h3 p
      have := lo (by rw [if_neg c] at h; omega)
      omega
  · intro p
    rw [kn, ng]
    have h := h4 p
    have := hi' (by split at h <;> omega)
    omega

theorem nearest_sticky (neg : Bool) {dv n : Nat} {place : Int} {N D : Nat} (p d : Nat) (hn : 0 < n) (hq : 9007199254740992 ≤ dv / n) (hD : 0 < D) (hp : place = (p : Int) - d - 1074)
    (hv : 2 * dv * 2 ^ p * D = N * 2 ^ d * n) :
    ∃ r, double.nearest neg (2 * (dv / n) + (dv % n != 0).toNat) place = W neg r ∧ Rnd N D r := by
  have hst : (dv % n != 0).toNat ≤ 1 := Bool.toNat_le _
  generalize hM : 2 * (dv / n) + (dv % n != 0).toNat = mag
  have hm : mag ≠ 0 := by omega
  have l1 := Nat.log2_self_le hm
  have l2 : mag < 2 ^ (mag.log2 + 1) := Nat.lt_log2_self
  have hl : 54 ≤ mag.log2 := by
    refine Nat.le_of_not_lt fun g => ?_
    have : 2 ^ (mag.log2 + 1) ≤ 2 ^ 54 := Nat.pow_le_pow_right (by decide) (by omega)
    have : (2 : Nat) ^ 54 = 18014398509481984 := by decide
    omega
  obtain ⟨e, he⟩ : ∃ e : Nat, max (place + (mag.log2 : Int) - 52) (-1074) = (e : Int) - 1074 := ⟨(max (place + (mag.log2 : Int) - 52) (-1074) + 1074).toNat, by omega⟩
  refine ⟨_, nearest_eq neg mag place hm e _ _ he rfl rfl, ?_⟩
  have ha : (place - ((e : Int) - 1074)).toNat = 0 := by omega
  generalize hB : (((e : Int) - 1074) - place).toNat = b
  have hm2 := Nat.div_add_mod dv n
  have hr := Nat.mod_lt dv hn
  obtain ⟨c, hc⟩ : ∃ c, mag.log2 = c + 1 := ⟨mag.log2 - 1, by omega⟩
  have e1 : 2 ^ mag.log2 = 2 * 2 ^ c := by rw [hc, two_pow_succ']
  have e2 : 2 ^ (mag.log2 + 1) = 2 * (2 * 2 ^ c) := by rw [two_pow_succ', e1]
  refine pipe (p := p) (d := d) (A := 2 * dv) (C := n) (a := 0) (b := b) (l := mag.log2) hD hn (by omega) ?_ ?_ ?_ hv (by omega) (by omega)
  · rw [ha, Nat.pow_zero, Nat.mul_one, Nat.mul_one]
    refine half_sticky hn (by omega) ?_
    rw [hM]
    exact half_cut neg _ _ hm
  · rw [e2]
    have : dv / n + 1 ≤ 2 * 2 ^ c := by omega
    have := Nat.mul_le_mul_left n this
    rw [Nat.mul_add, Nat.mul_one] at this
    have e3 : 2 * (2 * 2 ^ c) * n = 2 * (n * (2 * 2 ^ c)) := by ac_rfl
    omega
  · rw [e1]
    have : 2 ^ c ≤ dv / n := by omega
    have := Nat.mul_le_mul_left n this
    have e3 : 2 * 2 ^ c * n = 2 * (n * 2 ^ c) := by ac_rfl
    omega
end Go.Proofs.Qxb6618400a.Fl
