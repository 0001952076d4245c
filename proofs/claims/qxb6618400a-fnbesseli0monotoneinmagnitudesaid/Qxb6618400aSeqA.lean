import Derived.Test.Qxb6618400aFloatD
/-! The series as the program sums it, on rungs: terms and sums, their order, and where they stand still. -/
namespace Go.Proofs.Qxb6618400a.Fl
open Ieee

/-- Whole numbers as doubles. -/
def kf (k : Nat) : Nat := double.nearest false k 0

theorem kf_spec (k : Nat) (h0 : 0 < k) (h : k < 9007199254740992) : V (kf k) = k * U ∧ kf k < INF := by
  have hl := Nat.log2_self_le (show k ≠ 0 by omega)
  have hu : k < 2 ^ (k.log2 + 1) := Nat.lt_log2_self
  have hl2 : k.log2 ≤ 52 := by
    refine Nat.le_of_not_lt fun g => ?_
    have : 2 ^ 53 ≤ 2 ^ k.log2 := Nat.pow_le_pow_right (by decide) (by omega)
    have : (2 : Nat) ^ 53 = 9007199254740992 := by decide
    omega
  have e := nearest_eq false k 0 (by omega) (k.log2 + 1022) (52 - k.log2) 0 (by omega) (by omega) (by omega)
  rw [half_exact] at e
  have hlo : 4503599627370496 ≤ k * 2 ^ (52 - k.log2) := by
    calc 4503599627370496 = 2 ^ (k.log2 + (52 - k.log2)) := by rw [show k.log2 + (52 - k.log2) = 52 by omega]
      _ = 2 ^ k.log2 * 2 ^ (52 - k.log2) := Nat.pow_add _ _ _
      _ ≤ k * 2 ^ (52 - k.log2) := Nat.mul_le_mul_right _ hl
  have hhi : k * 2 ^ (52 - k.log2) < 9007199254740992 := by
    calc k * 2 ^ (52 - k.log2) < 2 ^ (k.log2 + 1) * 2 ^ (52 - k.log2) := Nat.mul_lt_mul_of_pos_right hu (Nat.two_pow_pos _)
      _ = 2 ^ (k.log2 + 1 + (52 - k.log2)) := (Nat.pow_add _ _ _).symm
      _ = 9007199254740992 := by rw [show k.log2 + 1 + (52 - k.log2) = 53 by omega]
  have hmin : min ((k.log2 + 1022) * 4503599627370496 + k * 2 ^ (52 - k.log2)) INF = (k.log2 + 1022) * 4503599627370496 + k * 2 ^ (52 - k.log2) := by
    refine Nat.min_eq_left ?_
    unfold INF; omega
  rw [hmin] at e
  have hk : kf k = (k.log2 + 1022) * 4503599627370496 + k * 2 ^ (52 - k.log2) := e
  refine ⟨?_, ?_⟩
  · rw [hk, V_at (by omega) (fun _ => hlo), Nat.mul_assoc, ← Nat.pow_add, show 52 - k.log2 + (k.log2 + 1022) = K by have := K_eq; omega]
    rfl
  · rw [hk]; unfold INF; omega

theorem kf_pos (k : Nat) (h0 : 0 < k) (h : k < 9007199254740992) : 0 < kf k := by
  refine Nat.pos_of_ne_zero fun e => ?_
  have := (kf_spec k h0 h).1
  rw [e, V_zero] at this
  have := Nat.mul_pos h0 U_pos
  omega
theorem kf_mono {j k : Nat} (h0 : 0 < j) (hjk : j ≤ k) (h : k < 9007199254740992) : kf j ≤ kf k := by
  refine V_le_iff.1 ?_
  rw [(kf_spec j h0 (by omega)).1, (kf_spec k (by omega) h).1]
  exact Nat.mul_le_mul_right _ hjk

def one : Nat := 4607182418800017408
def two : Nat := 4611686018427387904
/-- 1e-17 -/
def c17 : Nat := 4352464011485697175
theorem kf_one : kf 1 = one := by decide
theorem kf_two : kf 2 = two := by decide
theorem V_one : V one = U := by rw [← kf_one, (kf_spec 1 (by decide) (by decide)).1, Nat.one_mul]

theorem kf_succ (k : Nat) (h0 : 0 < k) (h : k + 1 < 9007199254740992) : addR (kf k) one = kf (k + 1) := by
  have a := kf_spec k h0 (by omega)
  have b := kf_spec (k + 1) (by omega) h
  have r := add_rnd (kf k) one a.2 (by decide)
  refine r.unique (Rnd.exact 1 (by decide) (Nat.le_of_lt b.2)) (by decide) (by decide) ?_
  rw [a.1, b.1, V_one, Nat.add_mul k 1 U, Nat.one_mul, Nat.mul_one, Nat.mul_one]
theorem kf_mul (j k : Nat) (hj : 0 < j) (hk : 0 < k) (hj' : j < 9007199254740992) (hk' : k < 9007199254740992) (h : j * k < 9007199254740992) : mulR (kf j) (kf k) = kf (j * k) := by
  have a := kf_spec j hj hj'
  have a' := kf_spec k hk hk'
  have b := kf_spec (j * k) (Nat.mul_pos hj hk) h
  have r := mul_rnd (kf j) (kf k) a.2 a'.2
  refine r.unique (Rnd.exact U U_pos (Nat.le_of_lt b.2)) U_pos U_pos ?_
  rw [a.1, a'.1, b.1]
  generalize U = u
  ac_rfl

theorem mulR_one (a : Nat) (ha : a ≤ INF) : mulR a one = a := by
  by_cases h : a = INF
  · subst h; exact mulR_inf_left one (by decide) (by decide)
  · have r := mul_rnd a one (by omega) (by decide)
    refine r.unique (Rnd.exact U U_pos ha) U_pos U_pos ?_
    rw [V_one]
theorem one_mulR (a : Nat) (ha : a ≤ INF) : mulR one a = a := by
  by_cases h : a = INF
  · subst h; exact mulR_inf_right one (by decide) (by decide)
  · have r := mul_rnd one a (by decide) (by omega)
    refine r.unique (Rnd.exact U U_pos ha) U_pos U_pos ?_
    rw [V_one, Nat.mul_comm U]

/-! ### The series -/
def qk (x k : Nat) : Nat := divR x (kf (2 * k))
def fac (x k : Nat) : Nat := mulR (qk x k) (qk x k)
def T (x : Nat) : Nat → Nat
  | 0 => one
  | k + 1 => mulR (T x k) (fac x (k + 1))
def S (x : Nat) : Nat → Nat
  | 0 => one
  | k + 1 => addR (S x k) (T x (k + 1))

section
variable {x : Nat} (hx : x < INF)

theorem qk_le (k : Nat) (h0 : 0 < k) (h : k < 4503599627370496) (hx : x < INF) : qk x k ≤ INF :=
  divR_le _ _ hx (kf_spec _ (by omega) (by omega)).2 (kf_pos _ (by omega) (by omega))
theorem fac_le (k : Nat) (h0 : 0 < k) (h : k < 4503599627370496) (hx : x < INF) : fac x k ≤ INF := mulR_le _ _ (qk_le k h0 h hx) (qk_le k h0 h hx)
theorem T_le (k : Nat) (h : k < 4503599627370496) (hx : x < INF) : T x k ≤ INF := by
  induction k with
  | zero => show one ≤ INF; decide
  | succ k ih => exact mulR_le _ _ (ih (by omega)) (fac_le _ (by omega) h hx)
theorem S_le (k : Nat) (h : k < 4503599627370496) (hx : x < INF) : S x k ≤ INF := by
  induction k with
  | zero => show one ≤ INF; decide
  | succ k ih => exact addR_le _ _ (ih (by omega)) (T_le _ h hx)
theorem S_step (k : Nat) (h : k + 1 < 4503599627370496) (hx : x < INF) : S x k ≤ S x (k + 1) := le_addR _ _ (S_le k (by omega) hx) (T_le _ h hx)
theorem S_up (j k : Nat) (h : j + k < 4503599627370496) (hx : x < INF) : S x j ≤ S x (j + k) := by
  induction k with
  | zero => exact Nat.le_refl _
  | succ k ih => exact Nat.le_trans (ih (by omega)) (S_step (j + k) (by omega) hx)
theorem one_le_S (k : Nat) (h : k < 4503599627370496) (hx : x < INF) : one ≤ S x k := by
  have := S_up 0 k (by omega) hx
  rw [Nat.zero_add] at this
  exact this
theorem T_le_S (k : Nat) (h : k < 4503599627370496) (hx : x < INF) : T x k ≤ S x k := by
  cases k with
  | zero => exact Nat.le_refl _
  | succ k =>
    have hS := S_le k (by omega) hx
    have hT := T_le (k + 1) h hx
    have h0 : addR 0 (T x (k + 1)) = T x (k + 1) := by
      by_cases c : T x (k + 1) = INF
      · rw [c]; exact addR_inf_right 0 (by decide)
      · have r := add_rnd 0 (T x (k + 1)) (by decide) (by omega)
        rw [V_zero, Nat.zero_add] at r
        exact r.unique (Rnd.exact 1 (by decide) hT) (by decide) (by decide) (by omega)
    have := addR_mono (Nat.zero_le (S x k)) (Nat.le_refl (T x (k + 1))) hS hT
    rw [h0] at this
    exact this
theorem fac_anti {j k : Nat} (h0 : 0 < j) (hjk : j ≤ k) (h : k < 4503599627370496) (hx : x < INF) : fac x k ≤ fac x j := by
  have : qk x k ≤ qk x j := divR_mono (Nat.le_refl x) (kf_mono (by omega) (by omega) (by omega)) hx (kf_spec _ (by omega) (by omega)).2 (kf_pos _ (by omega) (by omega))
  exact mulR_mono this this (qk_le j h0 (by omega) hx) (qk_le j h0 (by omega) hx)
end

theorem fac_mono {x y : Nat} (k : Nat) (h0 : 0 < k) (h : k < 4503599627370496) (hxy : x ≤ y) (hy : y < INF) : fac x k ≤ fac y k := by
  have : qk x k ≤ qk y k := divR_mono hxy (Nat.le_refl _) hy (kf_spec _ (by omega) (by omega)).2 (kf_pos _ (by omega) (by omega))
  exact mulR_mono this this (qk_le k h0 h hy) (qk_le k h0 h hy)
theorem T_mono {x y : Nat} (k : Nat) (h : k < 4503599627370496) (hxy : x ≤ y) (hy : y < INF) : T x k ≤ T y k := by
  induction k with
  | zero => exact Nat.le_refl _
  | succ k ih => exact mulR_mono (ih (by omega)) (fac_mono _ (by omega) h hxy hy) (T_le k (by omega) hy) (fac_le _ (by omega) h hy)
theorem S_mono {x y : Nat} (k : Nat) (h : k < 4503599627370496) (hxy : x ≤ y) (hy : y < INF) : S x k ≤ S y k := by
  induction k with
  | zero => exact Nat.le_refl _
  | succ k ih => exact addR_mono (ih (by omega)) (T_mono _ h hxy hy) (S_le k (by omega) hy) (T_le _ h hy)

/-- The loop's test fails: it ends. -/
def Stop (x n : Nat) : Prop := T x n ≤ mulR (S x n) c17

theorem V_c17 : 90000000000000000 * V c17 ≤ U := by decide +kernel

/-- A term so small is lost in the sum. -/
theorem lost {s t : Nat} (h1 : one ≤ s) (h2 : s < INF) (ht : t ≤ mulR s c17) : addR s t = s := by
  have hm : mulR one c17 ≤ mulR s c17 := mulR_mono h1 (Nat.le_refl _) (Nat.le_of_lt h2) (by decide)
  rw [one_mulR c17 (by decide)] at hm
  have hr := mul_rnd s c17 h2 (by decide)
  have hn : 4503599627370496 ≤ mulR s c17 := by unfold c17 at hm ⊢; omega
  have hd := hr.down hn
  have hmI : mulR s c17 < INF := by
    have : mulR s c17 ≤ mulR s one := mulR_mono (Nat.le_refl s) (by decide) (Nat.le_of_lt h2) (by decide)
    rw [mulR_one s (by omega)] at this
    omega
  -- V m * 2^55 ≤ V s
  have hV : 36028797018963968 * V (mulR s c17) ≤ V s := by
    refine Nat.le_of_mul_le_mul_right ?_ U_pos
    have c := Nat.mul_le_mul_left (V s) V_c17
    rw [Nat.mul_left_comm] at c
    have e3 : 36028797018963968 * V (mulR s c17) * U = 36028797018963968 * (V (mulR s c17) * U) := Nat.mul_assoc _ _ _
    rw [e3]
    omega
  have hu := lt_ulp s
  have ht' := V_mono ht
  have hs0 : 0 < s := by unfold one at h1; omega
  have hlt := V_strict (show s - 1 < s by omega)
  have hR : Rnd (V s + V t) 1 s := by
    refine ⟨Nat.le_of_lt h2, fun _ => by omega, fun _ => ?_, fun _ => by omega, fun _ => ?_⟩ <;> rw [V_succ] <;> omega
  have htI : t < INF := by omega
  exact (add_rnd s t h2 htI).unique hR (by decide) (by decide) rfl

/-- While the factors are above one the terms rise, and the last is no small part of the sum. -/
theorem rising {x n : Nat} (hx : x < INF) (hn : n ≤ 1000) (hf : one ≤ fac x (n + 1)) (hS : S x n < INF) : ∀ k, k ≤ n → V (S x k) ≤ (2 * k + 1) * V (T x k) := by
  intro k
  induction k with
  | zero => intro _; show V one ≤ (2 * 0 + 1) * V one; omega
  | succ k ih =>
    intro hk
    have i := ih (by omega)
    have hT : T x k ≤ T x (k + 1) := by
      have : mulR (T x k) one ≤ mulR (T x k) (fac x (k + 1)) := mulR_mono (Nat.le_refl _) (Nat.le_trans hf (fac_anti (by omega) (by omega) (by omega) hx)) (T_le k (by omega) hx) (fac_le _ (by omega) (by omega) hx)
      rw [mulR_one _ (T_le k (by omega) hx)] at this
      exact this
    have hSk : S x (k + 1) < INF := Nat.lt_of_le_of_lt (by have := S_up (k + 1) (n - (k + 1)) (by omega) hx; rw [show k + 1 + (n - (k + 1)) = n by omega] at this; exact this) hS
    have hSk0 : S x k < INF := Nat.lt_of_le_of_lt (S_step k (by omega) hx) hSk
    have hTk : T x (k + 1) < INF := Nat.lt_of_le_of_lt (T_le_S (k + 1) (by omega) hx) hSk
    have r := add_rnd (S x k) (T x (k + 1)) hSk0 hTk
    have ho := one_le_S (k + 1) (by omega) hx
    have d : 9007199254740991 * (V (S x (k + 1)) * 1) ≤ 9007199254740992 * (V (S x k) + V (T x (k + 1))) := r.down (by
      have : one ≤ addR (S x k) (T x (k + 1)) := ho
      unfold one at this; omega)
    have hV := V_mono hT
    have m1 : (2 * k + 1) * V (T x k) ≤ (2 * k + 1) * V (T x (k + 1)) := Nat.mul_le_mul_left _ hV
    generalize V (T x (k + 1)) = t at *
    generalize V (S x (k + 1)) = s at *
    have e1 : (2 * k + 1) * t = 2 * (k * t) + t := by rw [Nat.add_mul, Nat.mul_assoc, Nat.one_mul]
    have e2 : (2 * (k + 1) + 1) * t = 2 * (k * t) + 3 * t := by rw [Nat.add_mul, Nat.mul_assoc, Nat.add_mul, Nat.one_mul]; omega
    have e3 : k * t ≤ 1000 * t := Nat.mul_le_mul_right _ (by omega)
    omega

theorem not_stop_rising {x n : Nat} (hx : x < INF) (hn : n ≤ 1000) (hf : one ≤ fac x (n + 1)) (hS : S x n < INF) : ¬ Stop x n := by
  intro hst
  unfold Stop at hst
  have h1 := rising hx hn hf hS n (Nat.le_refl n)
  have hr := mul_rnd (S x n) c17 hS (by decide)
  have hm : mulR one c17 ≤ mulR (S x n) c17 := mulR_mono (one_le_S n (by omega) hx) (Nat.le_refl _) (Nat.le_of_lt hS) (by decide)
  rw [one_mulR c17 (by decide)] at hm
  have hd := hr.down (by unfold c17 at hm ⊢; omega)
  have hT := V_mono hst
  have hS1 : V (S x n) ≤ 2001 * V (T x n) := Nat.le_trans h1 (Nat.mul_le_mul_right _ (by omega))
  have pS : 0 < V (S x n) := V_pos (by have := one_le_S n (show n < 4503599627370496 by omega) hx; unfold one at this; omega)
  have c := Nat.mul_le_mul_left (V (S x n)) V_c17
  rw [Nat.mul_left_comm] at c
  have f1 : V (T x n) * U ≤ V (mulR (S x n) c17) * U := Nat.mul_le_mul_right _ hT
  have f2 : V (S x n) * U ≤ 2001 * (V (T x n) * U) := by rw [← Nat.mul_assoc]; exact Nat.mul_le_mul_right _ hS1
  have pU : 0 < V (S x n) * U := Nat.mul_pos pS U_pos
  omega

/-- Where the loop may end the sums stand still from there on. -/
theorem still {x n : Nat} (hx : x < INF) (hn : n ≤ 1000) (hst : Stop x n) (j : Nat) (hj : n + j < 4503599627370496) : S x (n + j) = S x n := by
  by_cases hI : S x n = INF
  · have h1 := S_up n j hj hx
    have h2 := S_le (n + j) hj hx
    omega
  have hS : S x n < INF := by have := S_le n (show n < 4503599627370496 by omega) hx; omega
  have hf : fac x (n + 1) ≤ one := by
    refine Nat.le_of_not_lt fun g => ?_
    exact not_stop_rising hx hn (Nat.le_of_lt g) hS hst
  have hT : ∀ j, n + j < 4503599627370496 → T x (n + j) ≤ T x n := by
    intro j
    induction j with
    | zero => intro _; exact Nat.le_refl _
    | succ j ih =>
      intro hj
      have h0 : fac x (n + j + 1) ≤ one := Nat.le_trans (fac_anti (by omega) (by omega) (by omega) hx) hf
      have h1 : T x (n + (j + 1)) ≤ mulR (T x (n + j)) one := mulR_mono (Nat.le_refl _) h0 (T_le _ (by omega) hx) (by decide)
      rw [mulR_one _ (T_le _ (by omega) hx)] at h1
      exact Nat.le_trans h1 (ih (by omega))
  induction j with
  | zero => rfl
  | succ j ih =>
    have i := ih (by omega)
    show addR (S x (n + j)) (T x (n + (j + 1))) = S x n
    rw [i]
    exact lost (one_le_S n (by omega) hx) hS (Nat.le_trans (hT (j + 1) hj) hst)
end Go.Proofs.Qxb6618400a.Fl
