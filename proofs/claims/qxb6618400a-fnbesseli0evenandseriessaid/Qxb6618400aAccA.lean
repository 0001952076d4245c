import Derived.Test.Qxb6618400aSeqB
import Derived.Test.Qxb6618400aRatC
/-! The doubles' operations over the rational numbers, and the program's sum and Horner's scheme close together. -/
namespace Go.Proofs.Qxb6618400a.Fl
open Ieee Rt

def val (r : Nat) : Rat := (V r : Rat) / (U : Rat)
theorem u_pos : (0 : Rat) < (U : Rat) := Rat.natCast_pos.2 U_pos
theorem V_val (r : Nat) : (V r : Rat) = val r * (U : Rat) := (Rat.div_mul_cancel (Rat.ne_of_gt u_pos)).symm
theorem val_nonneg (r : Nat) : 0 ≤ val r := div_nonneg Rat.natCast_nonneg u_pos
theorem val_mono {a b : Nat} (h : a ≤ b) : val a ≤ val b := by
  refine Rat.le_of_mul_le_mul_right (c := (U : Rat)) ?_ u_pos
  rw [← V_val, ← V_val]
  exact Rat.natCast_le_natCast.2 (V_mono h)
theorem val_pos {a : Nat} (h : 0 < a) : 0 < val a := by
  have h1 : (0 : Rat) < (V a : Rat) := Rat.natCast_pos.2 (V_pos h)
  unfold val
  rw [Rat.div_def]
  exact Rat.mul_pos h1 (Rat.inv_pos.2 u_pos)
theorem val_one : val one = 1 := by
  unfold val
  rw [V_one, Rat.div_def]
  exact Rat.mul_inv_cancel _ (Rat.ne_of_gt u_pos)
theorem val_kf (k : Nat) (h0 : 0 < k) (h : k < 9007199254740992) : val (kf k) = (k : Rat) := by
  unfold val
  rw [(kf_spec k h0 h).1, Rat.natCast_mul]
  exact Rat.mul_div_cancel (Rat.ne_of_gt u_pos)

theorem mul_up {a b : Nat} (ha : a < INF) (hb : b < INF) (hn : 4503599627370496 ≤ mulR a b) : val (mulR a b) ≤ al * (val a * val b) := by
  refine le_al (Rat.le_of_mul_le_mul_right (c := (U : Rat) * (U : Rat)) ?_ (Rat.mul_pos u_pos u_pos))
  have h := Rat.natCast_le_natCast.2 ((mul_rnd a b ha hb).down hn)
  simp only [Rat.natCast_mul, V_val, Rat.natCast_ofNat] at h
  generalize (U : Rat) = u at *
  have e1 : 9007199254740991 * (val (mulR a b) * u * u) = 9007199254740991 * val (mulR a b) * (u * u) := by simp only [Rat.mul_assoc]
  have e2 : 9007199254740992 * (val a * u * (val b * u)) = 9007199254740992 * (val a * val b) * (u * u) := by simp only [Rat.mul_assoc, mul_lc u (val b)]
  rw [e1, e2] at h
  exact h
theorem mul_lo {a b : Nat} (ha : a < INF) (hb : b < INF) (hn : 4503599627370496 ≤ mulR a b) (hI : mulR a b < INF) : be * (val a * val b) ≤ val (mulR a b) := by
  refine be_le (Rat.le_of_mul_le_mul_right (c := (U : Rat) * (U : Rat)) ?_ (Rat.mul_pos u_pos u_pos))
  have h := Rat.natCast_le_natCast.2 ((mul_rnd a b ha hb).up hI hn)
  simp only [Rat.natCast_mul, V_val, Rat.natCast_ofNat] at h
  generalize (U : Rat) = u at *
  have e1 : 9007199254740993 * (val (mulR a b) * u * u) = 9007199254740993 * val (mulR a b) * (u * u) := by simp only [Rat.mul_assoc]
  have e2 : 9007199254740992 * (val a * u * (val b * u)) = 9007199254740992 * (val a * val b) * (u * u) := by simp only [Rat.mul_assoc, mul_lc u (val b)]
  rw [e1, e2] at h
  exact h
theorem add_up {a b : Nat} (ha : a < INF) (hb : b < INF) (hn : 4503599627370496 ≤ addR a b) : val (addR a b) ≤ al * (val a + val b) := by
  refine le_al (Rat.le_of_mul_le_mul_right (c := (U : Rat)) ?_ u_pos)
  have h := Rat.natCast_le_natCast.2 ((add_rnd a b ha hb).down hn)
  rw [Nat.mul_one] at h
  simp only [Rat.natCast_mul, Rat.natCast_add, V_val, Rat.natCast_ofNat] at h
  rw [← Rat.add_mul, ← Rat.mul_assoc, ← Rat.mul_assoc] at h
  exact h
theorem add_lo {a b : Nat} (ha : a < INF) (hb : b < INF) (hn : 4503599627370496 ≤ addR a b) (hI : addR a b < INF) : be * (val a + val b) ≤ val (addR a b) := by
  refine be_le (Rat.le_of_mul_le_mul_right (c := (U : Rat)) ?_ u_pos)
  have h := Rat.natCast_le_natCast.2 ((add_rnd a b ha hb).up hI hn)
  rw [Nat.mul_one] at h
  simp only [Rat.natCast_mul, Rat.natCast_add, V_val, Rat.natCast_ofNat] at h
  rw [← Rat.add_mul, ← Rat.mul_assoc, ← Rat.mul_assoc] at h
  exact h
theorem div_up {a k : Nat} (ha : a < INF) (h0 : 0 < k) (hk : k < 9007199254740992) (hn : 4503599627370496 ≤ divR a (kf k)) : val (divR a (kf k)) * (k : Rat) ≤ al * val a := by
  refine le_al (Rat.le_of_mul_le_mul_right (c := (U : Rat) * (U : Rat)) ?_ (Rat.mul_pos u_pos u_pos))
  have h := Rat.natCast_le_natCast.2 ((div_rnd a (kf k) ha (kf_spec k h0 hk).2 (kf_pos k h0 hk)).down hn)
  rw [(kf_spec k h0 hk).1] at h
  simp only [Rat.natCast_mul, V_val, Rat.natCast_ofNat] at h
  generalize (U : Rat) = u at *
  have e1 : 9007199254740991 * (val (divR a (kf k)) * u * ((k : Rat) * u)) = 9007199254740991 * (val (divR a (kf k)) * (k : Rat)) * (u * u) := by simp only [Rat.mul_assoc, mul_lc u (k : Rat)]
  have e2 : 9007199254740992 * (val a * u * u) = 9007199254740992 * val a * (u * u) := by simp only [Rat.mul_assoc]
  rw [e1, e2] at h
  exact h
theorem div_lo {a k : Nat} (ha : a < INF) (h0 : 0 < k) (hk : k < 9007199254740992) (hn : 4503599627370496 ≤ divR a (kf k)) (hI : divR a (kf k) < INF) : be * val a ≤ val (divR a (kf k)) * (k : Rat) := by
  refine be_le (Rat.le_of_mul_le_mul_right (c := (U : Rat) * (U : Rat)) ?_ (Rat.mul_pos u_pos u_pos))
  have h := Rat.natCast_le_natCast.2 ((div_rnd a (kf k) ha (kf_spec k h0 hk).2 (kf_pos k h0 hk)).up hI hn)
  rw [(kf_spec k h0 hk).1] at h
  simp only [Rat.natCast_mul, V_val, Rat.natCast_ofNat] at h
  generalize (U : Rat) = u at *
  have e1 : 9007199254740993 * (val (divR a (kf k)) * u * ((k : Rat) * u)) = 9007199254740993 * (val (divR a (kf k)) * (k : Rat)) * (u * u) := by simp only [Rat.mul_assoc, mul_lc u (k : Rat)]
  have e2 : 9007199254740992 * (val a * u * u) = 9007199254740992 * val a * (u * u) := by simp only [Rat.mul_assoc]
  rw [e1, e2] at h
  exact h

/-! ### In the middle range: 2^-30 up to 700 -/
/-- 2^-30 -/
def c30 : Nat := 4472074429978902528

structure Mid (x : Nat) : Prop where
  lo : c30 ≤ x
  hi : x ≤ c700

theorem Mid.fin {x : Nat} (h : Mid x) : x < INF := Nat.lt_of_le_of_lt h.hi (by decide)
theorem Mid.pos {x : Nat} (h : Mid x) : 0 < x := Nat.lt_of_lt_of_le (by decide) h.lo
theorem val700 : val c700 = 700 := by
  have e : kf 700 = c700 := by decide
  rw [← e, val_kf 700 (by decide) (by decide)]; rfl
theorem Mid.le {x : Nat} (h : Mid x) : val x ≤ 700 := by have := val_mono h.hi; rw [val700] at this; exact this

theorem q_low : 4503599627370496 ≤ divR c30 (kf 2000) := by decide +kernel
theorem q_high : divR c700 (kf 2) < INF := by decide +kernel
theorem f_low : 4503599627370496 ≤ fac c30 1000 := by decide +kernel
theorem f_high : fac c700 1 < INF := by decide +kernel
theorem t_low : 4503599627370496 ≤ mulR c17 (fac c30 1000) := by decide +kernel

section
variable {x : Nat} (hx : Mid x)

theorem qk_norm (hx : Mid x) (k : Nat) (h0 : 0 < k) (hk : k ≤ 1000) : 4503599627370496 ≤ qk x k ∧ qk x k < INF := by
  refine ⟨Nat.le_trans q_low ?_, Nat.lt_of_le_of_lt ?_ q_high⟩
  · exact divR_mono hx.lo (kf_mono (by omega) (by omega) (by omega)) hx.fin (kf_spec 2000 (by decide) (by decide)).2 (kf_pos _ (by omega) (by omega))
  · exact divR_mono hx.hi (kf_mono (by decide) (by omega) (by omega)) (by decide) (kf_spec _ (by omega) (by omega)).2 (kf_pos 2 (by decide) (by decide))
theorem fac_norm (hx : Mid x) (k : Nat) (h0 : 0 < k) (hk : k ≤ 1000) : 4503599627370496 ≤ fac x k ∧ fac x k < INF := by
  refine ⟨Nat.le_trans f_low ?_, Nat.lt_of_le_of_lt ?_ f_high⟩
  · exact Nat.le_trans (fac_anti h0 hk (by decide) (by decide)) (fac_mono k h0 (by omega) hx.lo hx.fin)
  · exact Nat.le_trans (fac_anti (by decide) h0 (by omega) hx.fin) (fac_mono 1 (by decide) (by decide) hx.hi (by decide))

theorem q_up (hx : Mid x) (k : Nat) (h0 : 0 < k) (hk : k ≤ 1000) : val (qk x k) ≤ al * (val x / (2 * (k : Rat))) := by
  have n := qk_norm hx k h0 hk
  have h := div_up hx.fin (k := 2 * k) (by omega) (by omega) n.1
  rw [Rat.natCast_mul] at h
  refine Rat.le_of_mul_le_mul_right (c := 2 * (k : Rat)) ?_ (two_k_pos k h0)
  rw [Rat.mul_assoc al, Rat.div_mul_cancel (Rat.ne_of_gt (two_k_pos k h0))]
  exact h
theorem q_lo (hx : Mid x) (k : Nat) (h0 : 0 < k) (hk : k ≤ 1000) : be * (val x / (2 * (k : Rat))) ≤ val (qk x k) := by
  have n := qk_norm hx k h0 hk
  have h := div_lo hx.fin (k := 2 * k) (by omega) (by omega) n.1 n.2
  rw [Rat.natCast_mul] at h
  refine Rat.le_of_mul_le_mul_right (c := 2 * (k : Rat)) ?_ (two_k_pos k h0)
  rw [Rat.mul_assoc be, Rat.div_mul_cancel (Rat.ne_of_gt (two_k_pos k h0))]
  exact h
theorem cube (a : Rat) : a ^ 3 = a * (a * a) := by rw [Rat.pow_succ, Rat.pow_succ, Rat.pow_one, Rat.mul_assoc]
theorem fac_up (hx : Mid x) (k : Nat) (h0 : 0 < k) (hk : k ≤ 1000) : val (fac x k) ≤ al ^ 3 * g (val x) k := by
  have n := qk_norm hx k h0 hk
  have f := fac_norm hx k h0 hk
  have h := mul_up n.2 n.2 f.1
  have q := q_up hx k h0 hk
  have p := y_nonneg (val_nonneg x) k h0
  refine Rat.le_trans h ?_
  refine Rat.le_trans (Rat.mul_le_mul_of_nonneg_left (le_mul q q (val_nonneg _) (Rat.mul_nonneg al_nonneg p)) al_nonneg) ?_
  rw [cube]
  unfold g
  generalize val x / (2 * (k : Rat)) = y
  simp only [Rat.mul_assoc, mul_lc y al]
  exact Rat.le_refl
theorem fac_lo (hx : Mid x) (k : Nat) (h0 : 0 < k) (hk : k ≤ 1000) : be ^ 3 * g (val x) k ≤ val (fac x k) := by
  have n := qk_norm hx k h0 hk
  have f := fac_norm hx k h0 hk
  have h := mul_lo n.2 n.2 f.1 f.2
  have q := q_lo hx k h0 hk
  have p := y_nonneg (val_nonneg x) k h0
  refine Rat.le_trans ?_ h
  refine Rat.le_trans ?_ (Rat.mul_le_mul_of_nonneg_left (le_mul q q (Rat.mul_nonneg be_nonneg p) (val_nonneg _)) be_nonneg)
  rw [cube]
  unfold g
  generalize val x / (2 * (k : Rat)) = y
  simp only [Rat.mul_assoc, mul_lc y be]
  exact Rat.le_refl
end
end Go.Proofs.Qxb6618400a.Fl
