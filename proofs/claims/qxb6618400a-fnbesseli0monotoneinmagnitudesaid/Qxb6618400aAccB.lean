import Derived.Test.Qxb6618400aAccA
/-! The program's sum and Horner's scheme in doubles. -/
namespace Go.Proofs.Qxb6618400a.Fl
open Ieee Rt

theorem le_addR_right (a b : Nat) (ha : a ≤ INF) (hb : b ≤ INF) : b ≤ addR a b := by
  have h0 : addR 0 b = b := by
    by_cases c : b = INF
    · rw [c]; exact addR_inf_right 0 (by decide)
    · have r := add_rnd 0 b (by decide) (by omega)
      rw [V_zero, Nat.zero_add] at r
      exact r.unique (Rnd.exact 1 (by decide) hb) (by decide) (by decide) (by omega)
  have := addR_mono (Nat.zero_le a) (Nat.le_refl b) ha hb
  rw [h0] at this
  exact this

/-! ### The sum -/
section
variable {x : Nat}

theorem S_fin (hx : Mid x) (k : Nat) (hk : k ≤ 1000) : S x k < INF := by
  have h := S_up k (1000 - k) (by omega) hx.fin
  rw [show k + (1000 - k) = 1000 by omega] at h
  exact Nat.lt_of_le_of_lt h (bes_fin hx.hi)
theorem T_fin (hx : Mid x) (k : Nat) (hk : k ≤ 1000) : T x k < INF := Nat.lt_of_le_of_lt (T_le_S k (by omega) hx.fin) (S_fin hx k hk)
theorem c17_le (hx : Mid x) (k : Nat) (hk : k ≤ 1000) : c17 ≤ mulR (S x k) c17 := by
  have h2 : mulR one c17 ≤ mulR (S x k) c17 := mulR_mono (one_le_S k (by omega) hx.fin) (Nat.le_refl _) (S_le k (by omega) hx.fin) (by decide)
  rw [one_mulR c17 (by decide)] at h2
  exact h2
theorem T_norm (hx : Mid x) (k : Nat) (hk : k + 1 ≤ 1000) (hs : ¬ Stop x k) : 4503599627370496 ≤ T x (k + 1) := by
  have h1 : c17 ≤ T x k := Nat.le_of_lt (Nat.lt_of_le_of_lt (c17_le hx k (by omega)) (Nat.lt_of_not_le hs))
  refine Nat.le_trans t_low (mulR_mono h1 ?_ (Nat.le_of_lt (T_fin hx k (by omega))) (Nat.le_of_lt (fac_norm hx (k + 1) (by omega) hk).2))
  exact Nat.le_trans (fac_anti (by omega) hk (by decide) (by decide)) (fac_mono _ (by omega) (by omega) hx.lo hx.fin)

theorem pow4 (a : Rat) : a ^ 4 = a * a ^ 3 := by rw [Rat.pow_succ, Rat.mul_comm]

theorem T_up (hx : Mid x) (k : Nat) (hk : k + 1 ≤ 1000) (hs : ¬ Stop x k) : val (T x (k + 1)) ≤ al ^ 4 * (val (T x k) * g (val x) (k + 1)) := by
  have f := fac_norm hx (k + 1) (by omega) hk
  have h : val (T x (k + 1)) ≤ al * (val (T x k) * val (fac x (k + 1))) := mul_up (T_fin hx k (by omega)) f.2 (T_norm hx k hk hs)
  refine Rat.le_trans h ?_
  refine Rat.le_trans (Rat.mul_le_mul_of_nonneg_left (Rat.mul_le_mul_of_nonneg_left (fac_up hx (k + 1) (by omega) hk) (val_nonneg _)) al_nonneg) ?_
  rw [pow4, mul_lc (val (T x k)), Rat.mul_assoc]
  exact Rat.le_refl
theorem T_lo (hx : Mid x) (k : Nat) (hk : k + 1 ≤ 1000) (hs : ¬ Stop x k) : be ^ 4 * (val (T x k) * g (val x) (k + 1)) ≤ val (T x (k + 1)) := by
  have f := fac_norm hx (k + 1) (by omega) hk
  have h : be * (val (T x k) * val (fac x (k + 1))) ≤ val (T x (k + 1)) := mul_lo (T_fin hx k (by omega)) f.2 (T_norm hx k hk hs) (T_fin hx (k + 1) hk)
  refine Rat.le_trans ?_ h
  refine Rat.le_trans ?_ (Rat.mul_le_mul_of_nonneg_left (Rat.mul_le_mul_of_nonneg_left (fac_lo hx (k + 1) (by omega) hk) (val_nonneg _)) be_nonneg)
  rw [pow4, mul_lc (val (T x k)), Rat.mul_assoc]
  exact Rat.le_refl
theorem norm_one {a : Nat} (h : one ≤ a) : 4503599627370496 ≤ a := by unfold one at h; omega
theorem S_upper (hx : Mid x) (k : Nat) (hk : k + 1 ≤ 1000) : val (S x (k + 1)) ≤ al * (val (S x k) + val (T x (k + 1))) :=
  add_up (S_fin hx k (by omega)) (T_fin hx (k + 1) hk) (norm_one (one_le_S (k + 1) (by omega) hx.fin))
theorem S_lower (hx : Mid x) (k : Nat) (hk : k + 1 ≤ 1000) : be * (val (S x k) + val (T x (k + 1))) ≤ val (S x (k + 1)) :=
  add_lo (S_fin hx k (by omega)) (T_fin hx (k + 1) hk) (norm_one (one_le_S (k + 1) (by omega) hx.fin)) (S_fin hx (k + 1) hk)

theorem v17 : val c17 ≤ 1 / 90000000000000000 := by
  refine Rat.le_of_mul_le_mul_right (c := (U : Rat)) ?_ u_pos
  rw [← V_val]
  refine Rat.le_of_mul_le_mul_left (c := 90000000000000000) ?_ (by decide +kernel)
  rw [← Rat.mul_assoc, show (90000000000000000 : Rat) * (1 / 90000000000000000) = 1 by decide +kernel, Rat.one_mul]
  have h := Rat.natCast_le_natCast.2 V_c17
  rw [Rat.natCast_mul] at h
  exact h

/-! ### Horner's scheme -/
def hz (x : Nat) : Nat → Nat
  | 0 => one
  | m + 1 => addR one (mulR (divR (fac x 1) (kf ((600 - m) * (600 - m)))) (hz x m))
def Want (x : Nat) : Nat := hz x 600

theorem kk_pos (m : Nat) (hm : m < 600) : 0 < (600 - m) * (600 - m) := Nat.mul_pos (by omega) (by omega)
theorem kk_le (m : Nat) : (600 - m) * (600 - m) ≤ 360000 := Nat.mul_le_mul (show 600 - m ≤ 600 by omega) (show 600 - m ≤ 600 by omega)

theorem dm_le {x : Nat} (hf : fac x 1 < INF) (m : Nat) (hm : m < 600) : divR (fac x 1) (kf ((600 - m) * (600 - m))) ≤ INF := by
  have := kk_le m
  exact divR_le _ _ hf (kf_spec _ (kk_pos m hm) (by omega)).2 (kf_pos _ (kk_pos m hm) (by omega))
theorem hz_le {x : Nat} (hf : fac x 1 < INF) (m : Nat) (hm : m ≤ 600) : hz x m ≤ INF ∧ one ≤ hz x m := by
  induction m with
  | zero => exact ⟨show one ≤ INF by decide, Nat.le_refl _⟩
  | succ m ih =>
    have i := ih (by omega)
    have d := mulR_le _ _ (dm_le hf m (by omega)) i.1
    exact ⟨addR_le _ _ (by decide) d, le_addR _ _ (by decide) d⟩
theorem hz_mono {x y : Nat} (hxy : x ≤ y) (hy : y < INF) (hf : fac y 1 < INF) (m : Nat) (hm : m ≤ 600) : hz x m ≤ hz y m := by
  induction m with
  | zero => exact Nat.le_refl _
  | succ m ih =>
    have i := ih (by omega)
    have := kk_le m
    have hfx := fac_mono 1 (by decide) (by decide) hxy hy
    have d : divR (fac x 1) (kf ((600 - m) * (600 - m))) ≤ divR (fac y 1) (kf ((600 - m) * (600 - m))) := divR_mono hfx (Nat.le_refl _) hf (kf_spec _ (kk_pos m (by omega)) (by omega)).2 (kf_pos _ (kk_pos m (by omega)) (by omega))
    have dl := dm_le hf m (by omega)
    have hl := (hz_le hf m (by omega)).1
    exact addR_mono (Nat.le_refl _) (mulR_mono d i dl hl) (by decide) (mulR_le _ _ dl hl)

/-- The kernel's reckoning at 700. -/
def goh (q : Nat) : Nat → Nat → Nat → Nat
  | 0, _, h => h
  | n + 1, k, h => force k fun k' => force (addR one (mulR (divR q (kf (k' * k'))) h)) fun h' => goh q n (k' - 1) h'
theorem goh_eq (x n : Nat) : ∀ m, goh (fac x 1) n (600 - m) (hz x m) = hz x (m + n) := by
  induction n with
  | zero => intro m; rfl
  | succ n ih =>
    intro m
    show force (600 - m) _ = _
    rw [force_eq, force_eq]
    have := ih (m + 1)
    rw [show m + (n + 1) = m + 1 + n by omega, ← this]
    rfl
theorem goh_eq0 (x : Nat) (n : Nat) : goh (fac x 1) n 600 one = hz x n := by
  have := goh_eq x n 0
  rw [Nat.zero_add] at this
  exact this
set_option maxRecDepth 100000 in
theorem h700 : goh (fac c700 1) 600 600 one < INF := by decide +kernel
theorem hz_of (x n d : Nat) (h : goh (fac x 1) n 600 one < d) : hz x n < d := by rw [goh_eq0] at h; exact h
theorem want700 : hz c700 600 < INF := hz_of c700 600 INF h700

theorem d_low : 4503599627370496 ≤ divR (fac c30 1) (kf 360000) := by decide +kernel
theorem d_high : divR (fac c700 1) (kf 1) < INF := by decide +kernel

theorem dm_norm (hx : Mid x) (m : Nat) (hm : m < 600) : 4503599627370496 ≤ divR (fac x 1) (kf ((600 - m) * (600 - m))) ∧ divR (fac x 1) (kf ((600 - m) * (600 - m))) < INF := by
  have kl := kk_le m
  have kp := kk_pos m hm
  have f := fac_norm hx 1 (by decide) (by decide)
  refine ⟨Nat.le_trans d_low ?_, Nat.lt_of_le_of_lt ?_ d_high⟩
  · exact divR_mono (fac_mono 1 (by decide) (by decide) hx.lo hx.fin) (kf_mono kp kl (by decide)) f.2 (kf_spec 360000 (by decide) (by decide)).2 (kf_pos _ kp (by omega))
  · exact divR_mono (fac_mono 1 (by decide) (by decide) hx.hi (by decide)) (kf_mono (by decide) kp (by omega)) f_high (kf_spec _ kp (by omega)).2 (kf_pos 1 (by decide) (by decide))

theorem hz_fin (hx : Mid x) (m : Nat) (hm : m ≤ 600) : hz x m < INF := by
  have f := fac_norm hx 1 (by decide) (by decide)
  have abs : ∀ m, m < 600 → hz x m = INF → hz x (m + 1) = INF := by
    intro m hm h
    have d := dm_norm hx m hm
    show addR one (mulR _ (hz x m)) = INF
    rw [h, mulR_inf_right _ (Nat.le_of_lt d.2) (by omega)]
    exact addR_inf_right one (by decide)
  have all : ∀ j, m + j ≤ 600 → hz x m = INF → hz x (m + j) = INF := by
    intro j
    induction j with
    | zero => intro _ h; exact h
    | succ j ih => intro hj h; exact abs (m + j) (by omega) (ih (by omega) h)
  refine Nat.lt_of_le_of_ne (hz_le f.2 m hm).1 fun h => ?_
  have h1 := all (600 - m) (by omega) h
  rw [show m + (600 - m) = 600 by omega] at h1
  have h2 := hz_mono hx.hi (by decide) f_high 600 (by decide)
  have h3 := want700
  omega

theorem g_one (X : Rat) (k : Nat) (h0 : 0 < k) : g X k * ((k : Rat) * (k : Rat)) = g X 1 := by
  unfold g
  have hk : (k : Rat) ≠ 0 := Rat.ne_of_gt (Rat.natCast_pos.2 h0)
  have e : X / (2 * (k : Rat)) * (k : Rat) = X / (2 * ((1 : Nat) : Rat)) := by
    have h1 : X / (2 * (k : Rat)) * (k : Rat) * 2 = X := by
      rw [Rat.mul_assoc, Rat.mul_comm (k : Rat) 2]
      exact Rat.div_mul_cancel (Rat.ne_of_gt (two_k_pos k h0))
    have h2 : X / (2 * ((1 : Nat) : Rat)) * 2 = X := by
      rw [show (2 * ((1 : Nat) : Rat)) = 2 by decide +kernel]
      exact Rat.div_mul_cancel (by decide)
    have h3 : X / (2 * (k : Rat)) * (k : Rat) * 2 * (2 : Rat)⁻¹ = X / (2 * ((1 : Nat) : Rat)) * 2 * (2 : Rat)⁻¹ := by rw [h1, h2]
    rw [Rat.mul_assoc _ 2, Rat.mul_assoc _ 2, Rat.mul_inv_cancel 2 (by decide), Rat.mul_one, Rat.mul_one] at h3
    exact h3
  rw [← e]
  generalize X / (2 * (k : Rat)) = y
  generalize (k : Rat) = c
  rw [Rat.mul_assoc, Rat.mul_assoc, mul_lc y c]

theorem d_up (hx : Mid x) (m : Nat) (hm : m < 600) : val (divR (fac x 1) (kf ((600 - m) * (600 - m)))) ≤ al ^ 4 * g (val x) (600 - m) := by
  have kl := kk_le m
  have kp := kk_pos m hm
  have f := fac_norm hx 1 (by decide) (by decide)
  have d := dm_norm hx m hm
  have h := div_up f.2 kp (by omega) d.1
  have kq : (0 : Rat) < ((600 - m : Nat) : Rat) := Rat.natCast_pos.2 (by omega)
  rw [Rat.natCast_mul] at h
  refine Rat.le_of_mul_le_mul_right (c := ((600 - m : Nat) : Rat) * ((600 - m : Nat) : Rat)) ?_ (Rat.mul_pos kq kq)
  refine Rat.le_trans h ?_
  rw [Rat.mul_assoc (al ^ 4), g_one _ _ (by omega), pow4, Rat.mul_assoc]
  exact Rat.mul_le_mul_of_nonneg_left (fac_up hx 1 (by decide) (by decide)) al_nonneg
theorem d_lo (hx : Mid x) (m : Nat) (hm : m < 600) : be ^ 4 * g (val x) (600 - m) ≤ val (divR (fac x 1) (kf ((600 - m) * (600 - m)))) := by
  have kl := kk_le m
  have kp := kk_pos m hm
  have f := fac_norm hx 1 (by decide) (by decide)
  have d := dm_norm hx m hm
  have h := div_lo f.2 kp (by omega) d.1 d.2
  have kq : (0 : Rat) < ((600 - m : Nat) : Rat) := Rat.natCast_pos.2 (by omega)
  rw [Rat.natCast_mul] at h
  refine Rat.le_of_mul_le_mul_right (c := ((600 - m : Nat) : Rat) * ((600 - m : Nat) : Rat)) ?_ (Rat.mul_pos kq kq)
  refine Rat.le_trans ?_ h
  rw [Rat.mul_assoc (be ^ 4), g_one _ _ (by omega), pow4, Rat.mul_assoc]
  exact Rat.mul_le_mul_of_nonneg_left (fac_lo hx 1 (by decide) (by decide)) be_nonneg

theorem pow5 (a : Rat) : a ^ 5 = a * a ^ 4 := by rw [Rat.pow_succ, Rat.mul_comm]

theorem h_up (hx : Mid x) (m : Nat) (hm : m < 600) : val (hz x (m + 1)) ≤ al * (1 + al ^ 5 * (g (val x) (600 - m) * val (hz x m))) := by
  have f := fac_norm hx 1 (by decide) (by decide)
  have d := dm_norm hx m hm
  have hl := hz_le f.2 m (by omega)
  have hl1 := hz_le f.2 (m + 1) (by omega)
  have hf := hz_fin hx m (by omega)
  have hf1 := hz_fin hx (m + 1) (by omega)
  have pl : divR (fac x 1) (kf ((600 - m) * (600 - m))) ≤ mulR (divR (fac x 1) (kf ((600 - m) * (600 - m)))) (hz x m) := by
    have := mulR_mono (Nat.le_refl (divR (fac x 1) (kf ((600 - m) * (600 - m))))) hl.2 (Nat.le_of_lt d.2) hl.1
    rw [mulR_one _ (Nat.le_of_lt d.2)] at this
    exact this
  have pI : mulR (divR (fac x 1) (kf ((600 - m) * (600 - m)))) (hz x m) < INF :=
    Nat.lt_of_le_of_lt (le_addR_right one _ (by decide) (mulR_le _ _ (Nat.le_of_lt d.2) hl.1)) hf1
  have a1 := mul_up d.2 hf (Nat.le_trans d.1 pl)
  have a2 : val (hz x (m + 1)) ≤ al * (val one + val (mulR (divR (fac x 1) (kf ((600 - m) * (600 - m)))) (hz x m))) := add_up (by decide) pI (norm_one hl1.2)
  rw [val_one] at a2
  refine Rat.le_trans a2 (Rat.mul_le_mul_of_nonneg_left (le_add Rat.le_refl (Rat.le_trans a1 ?_)) al_nonneg)
  refine Rat.le_trans (Rat.mul_le_mul_of_nonneg_left (Rat.mul_le_mul_of_nonneg_right (d_up hx m hm) (val_nonneg _)) al_nonneg) ?_
  rw [pow5, Rat.mul_assoc al, Rat.mul_assoc (al ^ 4)]
  exact Rat.le_refl
theorem h_lo (hx : Mid x) (m : Nat) (hm : m < 600) : be * (1 + be ^ 5 * (g (val x) (600 - m) * val (hz x m))) ≤ val (hz x (m + 1)) := by
  have f := fac_norm hx 1 (by decide) (by decide)
  have d := dm_norm hx m hm
  have hl := hz_le f.2 m (by omega)
  have hl1 := hz_le f.2 (m + 1) (by omega)
  have hf := hz_fin hx m (by omega)
  have hf1 := hz_fin hx (m + 1) (by omega)
  have pl : divR (fac x 1) (kf ((600 - m) * (600 - m))) ≤ mulR (divR (fac x 1) (kf ((600 - m) * (600 - m)))) (hz x m) := by
    have := mulR_mono (Nat.le_refl (divR (fac x 1) (kf ((600 - m) * (600 - m))))) hl.2 (Nat.le_of_lt d.2) hl.1
    rw [mulR_one _ (Nat.le_of_lt d.2)] at this
    exact this
  have pI : mulR (divR (fac x 1) (kf ((600 - m) * (600 - m)))) (hz x m) < INF :=
    Nat.lt_of_le_of_lt (le_addR_right one _ (by decide) (mulR_le _ _ (Nat.le_of_lt d.2) hl.1)) hf1
  have a1 := mul_lo d.2 hf (Nat.le_trans d.1 pl) pI
  have a2 : be * (val one + val (mulR (divR (fac x 1) (kf ((600 - m) * (600 - m)))) (hz x m))) ≤ val (hz x (m + 1)) := add_lo (by decide) pI (norm_one hl1.2) hf1
  rw [val_one] at a2
  refine Rat.le_trans (Rat.mul_le_mul_of_nonneg_left (le_add Rat.le_refl (Rat.le_trans ?_ a1)) be_nonneg) a2
  refine Rat.le_trans ?_ (Rat.mul_le_mul_of_nonneg_left (Rat.mul_le_mul_of_nonneg_right (d_lo hx m hm) (val_nonneg _)) be_nonneg)
  rw [pow5, Rat.mul_assoc be, Rat.mul_assoc (be ^ 4)]
  exact Rat.le_refl

/-! ### Close -/
theorem acc (hx : Mid x) : val (Bes x) ≤ (1 + kap) * val (Want x) ∧ val (Want x) ≤ (1 + kap) * val (Bes x) := by
  obtain ⟨n, hn, hst, hno⟩ := ends hx.fin
  have hX := val_nonneg x
  have t0 : val (T x 0) = 1 := val_one
  have s0 : val (S x 0) = 1 := val_one
  have h0 : val (hz x 0) = 1 := val_one
  have tu := up_t hX (t := fun k => val (T x k)) (n := n) (by show val (T x 0) ≤ 1; rw [t0]; exact Rat.le_refl) (fun k hk => T_up hx k (by omega) (hno k hk))
  have tl := lo_t hX (t := fun k => val (T x k)) (n := n) (by show 1 ≤ val (T x 0); rw [t0]; exact Rat.le_refl) (fun k hk => T_lo hx k (by omega) (hno k hk))
  have su := up_s hX (s := fun k => val (S x k)) (n := n) (by show val (S x 0) ≤ 1; rw [s0]; exact Rat.le_refl) tu (fun k hk => S_upper hx k (by omega))
  have sl := lo_s hX (s := fun k => val (S x k)) (n := n) (by show 1 ≤ val (S x 0); rw [s0]; exact Rat.le_refl) tl (fun k hk => S_lower hx k (by omega))
  have hu := up_h hX (h := fun m => val (hz x m)) (M := 600) (by show val (hz x 0) ≤ 1; rw [h0]; exact Rat.le_refl) (fun m hm => h_up hx m hm)
  have hl := lo_h hX (h := fun m => val (hz x m)) (M := 600) (by show 1 ≤ val (hz x 0); rw [h0]; exact Rat.le_refl) (fun m hm => h_lo hx m hm)
  have st : val (T x n) ≤ al * (val (S x n) * val c17) :=
    Rat.le_trans (val_mono hst) (mul_up (S_fin hx n hn) (by decide) (Nat.le_trans (by decide) (c17_le hx n hn)))
  have e := bes_of_stop hx.fin hn hst
  have r := close (val_pos hx.pos) hx.le hn (tl n (Nat.le_refl n)) (sl n (Nat.le_refl n)) (su n (Nat.le_refl n)) st (val_nonneg c17) v17 (hl 600 (Nat.le_refl _)) (hu 600 (Nat.le_refl _))
  rw [show S x n = Bes x from e] at r
  exact r

/-- 1e-11 -/
def c11 : Nat := 4442235333156365461
theorem V_c11 : U ≤ 101000000000 * V c11 := by decide +kernel

theorem V_nat {a b : Nat} (h : val a ≤ (1 + kap) * val b) : 400000000000 * V a ≤ 400000000001 * V b := by
  have h1 := Rat.mul_le_mul_of_nonneg_right h (Rat.le_of_lt u_pos)
  rw [Rat.mul_assoc, ← V_val, ← V_val] at h1
  have h2 := Rat.mul_le_mul_of_nonneg_left h1 (show (0 : Rat) ≤ 400000000000 by decide)
  rw [← Rat.mul_assoc, show (400000000000 : Rat) * (1 + kap) = 400000000001 by decide +kernel] at h2
  refine Rat.natCast_le_natCast.1 ?_
  rw [Rat.natCast_mul, Rat.natCast_mul]
  exact h2

/-- The two lie within 1e-11 of each other: above and below. -/
theorem acc_nat (hx : Mid x) : (V (Bes x) - V (Want x)) * U ≤ V c11 * V (Want x) ∧ (V (Want x) - V (Bes x)) * U ≤ V c11 * V (Want x) := by
  have h1 := V_nat (acc hx).1
  have h2 := V_nat (acc hx).2
  have c := Nat.mul_le_mul_left (V (Want x)) V_c11
  rw [Nat.mul_left_comm, Nat.mul_comm (V (Want x)) (V c11)] at c
  generalize V (Bes x) = f at *
  generalize V (Want x) = w at *
  have a1 := Nat.mul_le_mul_right U (show 400000000000 * (f - w) ≤ w by omega)
  have a2 := Nat.mul_le_mul_right U (show 400000000000 * (w - f) ≤ 2 * w by omega)
  rw [Nat.mul_assoc] at a1 a2
  rw [Nat.mul_assoc] at a2
  constructor <;> omega
end

/-! ### Below 2^-30 both are 1 -/
theorem f30 : fac c30 1 ≤ c17 := by decide +kernel
theorem small_bes {x : Nat} (h : x ≤ c30) : Bes x = one := by
  have hx : x < INF := Nat.lt_of_le_of_lt h (by decide)
  have hf : fac x 1 ≤ c17 := Nat.le_trans (fac_mono 1 (by decide) (by decide) h (by decide)) f30
  have hT : T x 1 = fac x 1 := one_mulR _ (fac_le 1 (by decide) (by decide) hx)
  have h1 : mulR one c17 ≤ mulR (S x 1) c17 := mulR_mono (one_le_S 1 (by decide) hx) (Nat.le_refl _) (S_le 1 (by decide) hx) (by decide)
  rw [one_mulR c17 (by decide)] at h1
  have hs : Stop x 1 := by
    show T x 1 ≤ mulR (S x 1) c17
    rw [hT]
    exact Nat.le_trans hf h1
  rw [← bes_of_stop hx (by decide) hs]
  show addR one (T x 1) = one
  rw [hT]
  exact lost (Nat.le_refl _) (by decide) (by rw [one_mulR c17 (by decide)]; exact hf)
theorem small_want {x : Nat} (h : x ≤ c30) (m : Nat) (hm : m ≤ 600) : hz x m = one := by
  have hf : fac x 1 ≤ c17 := Nat.le_trans (fac_mono 1 (by decide) (by decide) h (by decide)) f30
  have hfI : fac x 1 < INF := Nat.lt_of_le_of_lt hf (by decide)
  induction m with
  | zero => rfl
  | succ m ih =>
    show addR one (mulR _ (hz x m)) = one
    rw [ih (by omega), mulR_one _ (dm_le hfI m (by omega))]
    refine lost (Nat.le_refl _) (by decide) ?_
    rw [one_mulR c17 (by decide)]
    have kl := kk_le m
    have kp := kk_pos m (by omega)
    have h1 : divR (fac x 1) (kf ((600 - m) * (600 - m))) ≤ divR (fac x 1) (kf 1) := divR_mono (Nat.le_refl _) (kf_mono (by decide) kp (by omega)) hfI (kf_spec _ kp (by omega)).2 (kf_pos 1 (by decide) (by decide))
    have h2 : divR (fac x 1) (kf 1) = fac x 1 := by
      have r := div_rnd (fac x 1) (kf 1) hfI (kf_spec 1 (by decide) (by decide)).2 (kf_pos 1 (by decide) (by decide))
      rw [(kf_spec 1 (by decide) (by decide)).1, Nat.one_mul] at r
      exact r.unique (Rnd.exact U U_pos (Nat.le_of_lt hfI)) U_pos U_pos rfl
    rw [h2] at h1
    exact Nat.le_trans h1 hf
end Go.Proofs.Qxb6618400a.Fl
