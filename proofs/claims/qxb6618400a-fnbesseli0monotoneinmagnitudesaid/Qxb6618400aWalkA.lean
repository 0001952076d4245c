import Derived.Test.Qxb6618400aRows
import Derived.Test.Qxb6618400aAccB
import Derived.WalkKit
import Derived.WalkSpells
import Derived.RowKit3
import Derived.Laws.FloatArith
/-! besselI0 and its wrapper, walked. -/
namespace Go.Proofs.Qxb6618400a
open Go.RowKit Fl

theorem fmul {a b c : Nat} (h : Ieee.double.mul a b = some c) (w : World) : (binOp .mul 22 (.float .f64 a) (.float .f64 b)).run Try.prog w = .ok (.float .f64 c) w := run_float_arith w .mul 22 .f64 a b c h
theorem fadd {a b c : Nat} (h : Ieee.double.add a b = some c) (w : World) : (binOp .add 22 (.float .f64 a) (.float .f64 b)).run Try.prog w = .ok (.float .f64 c) w := run_float_arith w .add 22 .f64 a b c h
theorem fdiv {a b c : Nat} (h : Ieee.double.div a b = some c) (w : World) : (binOp .quo 22 (.float .f64 a) (.float .f64 b)).run Try.prog w = .ok (.float .f64 c) w := run_float_arith w .quo 22 .f64 a b c h
theorem fsub {a b c : Nat} (h : Ieee.double.sub a b = some c) (w : World) : (binOp .sub 22 (.float .f64 a) (.float .f64 b)).run Try.prog w = .ok (.float .f64 c) w := run_float_arith w .sub 22 .f64 a b c h

theorem mul_nn (a b : Nat) (ha : a < INF) (hb : b < INF) : Ieee.double.mul a b = some (mulR a b) := mul_eq false false a b ha hb
theorem two_times (k : Nat) (h0 : 0 < k) (h : k ≤ 2000) : Ieee.double.mul two (kf k) = some (kf (2 * k)) := by
  rw [← kf_two, mul_nn _ _ (kf_spec 2 (by decide) (by decide)).2 (kf_spec k h0 (by omega)).2, kf_mul 2 k (by decide) h0 (by decide) (by omega) (by omega)]
theorem two_times' (k : Nat) (h0 : 0 < k) (h : k ≤ 2000) : Ieee.double.mul 4611686018427387904 (kf k) = some (kf (2 * k)) := by
  rw [show 4611686018427387904 = two from rfl]; exact two_times k h0 h
theorem next_k (k : Nat) (h0 : 0 < k) (h : k ≤ 2000) : Ieee.double.add (kf k) 4607182418800017408 = some (kf (k + 1)) := by
  rw [show 4607182418800017408 = one from rfl, add_eq _ _ (kf_spec k h0 (by omega)).2 (by decide), kf_succ k h0 (by omega)]
theorem mul_pos_left (a b : Nat) (h0 : 0 < a) (ha : a < INF) (hb : b ≤ INF) : Ieee.double.mul a b = some (mulR a b) := by
  by_cases h : b = INF
  · subst h; rw [mul_inf_right a (by omega) h0, mulR_inf_right a (by omega) h0]
  · exact mul_eq false false a b ha (by omega)
theorem mul_pos_right (a b : Nat) (h0 : 0 < b) (ha : a ≤ INF) (hb : b < INF) : Ieee.double.mul a b = some (mulR a b) := by
  by_cases h : a = INF
  · subst h; rw [mul_inf_left b (by omega) h0, mulR_inf_left b (by omega) h0]
  · exact mul_eq false false a b (by omega) hb

theorem divR_one (a : Nat) (ha : a < INF) : divR a (kf 1) = a := by
  have r := div_rnd a (kf 1) ha (kf_spec 1 (by decide) (by decide)).2 (kf_pos 1 (by decide) (by decide))
  rw [(kf_spec 1 (by decide) (by decide)).1, Nat.one_mul] at r
  exact r.unique (Rnd.exact U U_pos (Nat.le_of_lt ha)) U_pos U_pos rfl
theorem qk_fin {r : Nat} (hr : r < INF) (k : Nat) (h0 : 0 < k) (hk : k ≤ 2000) : qk r k < INF := by
  have h1 : qk r k ≤ divR r (kf 1) := divR_mono (Nat.le_refl r) (kf_mono (by decide) (by omega) (by omega)) hr (kf_spec _ (by omega) (by omega)).2 (kf_pos 1 (by decide) (by decide))
  rw [divR_one r hr] at h1
  omega

theorem not_last {r k : Nat} (hr : r < INF) (g : k = 1000) : Stop r k := by rw [g]; exact stop1000 hr

/-- What is left to go. -/
def togo (v : Value) : Nat :=
  match v with
  | .float _ b => 1002 - V b / U
  | _ => 0
theorem togo_kf (k : Nat) (hk : k ≤ 1000) : togo (.float .f64 (kf (k + 1))) = 1001 - k := by
  show 1002 - V (kf (k + 1)) / U = 1001 - k
  rw [(kf_spec (k + 1) (by omega) (by omega)).1, Nat.mul_div_cancel _ U_pos]
  omega

set_option maxHeartbeats 400000 in
theorem bessel_fin (s : Bool) (r : Nat) (hr : r < INF) (w : World) :
    Calls Try.prog 9 #[.float .f64 (W s r)] w fun e w' => e = .returned (.float .f64 (Bes r)) ∧ w' = w := by
  go_enter Try.func9, Try.ntmps9
  go_wp2
  go_loop [3, 4, 5] (fun sv tv kv => ∃ k : Nat, k ≤ 1000 ∧ (∀ j, j < k → ¬ Stop r j) ∧ sv = .float .f64 (S r k) ∧ tv = .float .f64 (T r k) ∧ kv = .float .f64 (kf (k + 1))) (fun _ _ kv => togo kv)
  case atStart => exact ⟨0, by omega, fun j hj => by omega, rfl, rfl, rfl⟩
  case round =>
    obtain ⟨k, hk, hno, rfl, rfl, rfl⟩ := hrel
    have hS := S_le (x := r) k (by omega) hr
    have hT := T_le (x := r) k (by omega) hr
    have e1 := fmul (a := S r k) (b := 4352464011485697175) (c := mulR (S r k) c17) (mul_pos_right (S r k) c17 (by decide) hS (by decide))
    have hm : mulR (S r k) c17 ≤ INF := mulR_le _ _ hS (by decide)
    have ho := order_all (T r k) (mulR (S r k) c17) hT hm
    by_cases hs : Stop r k
    · have ho' : (FloatKind.f64.format.order (T r k) (mulR (S r k) c17) == some Ordering.gt) = false := by
        show (Ieee.double.order (T r k) (mulR (S r k) c17) == some Ordering.gt) = false
        rw [ho]
        have : compare (T r k) (mulR (S r k) c17) ≠ .gt := fun g => absurd (Nat.compare_eq_gt.1 g) (Nat.not_lt.2 hs)
        revert this
        cases compare (T r k) (mulR (S r k) c17) <;> simp
      have hB := bes_of_stop hr hk hs
      have HB : Hid (S r k = Bes r) := hB
      clear hB hno ho
      go_wp2
      go_ret
      exact ⟨by rw [← HB.out]; rfl, rfl⟩
    · have hlt : mulR (S r k) c17 < T r k := Nat.lt_of_not_le hs
      have hk1 : k + 1 ≤ 1000 := by
        exact Nat.lt_of_le_of_ne hk fun g => hs (not_last hr g)
      have ho' : (FloatKind.f64.format.order (T r k) (mulR (S r k) c17) == some Ordering.gt) = true := by
        show (Ieee.double.order (T r k) (mulR (S r k) c17) == some Ordering.gt) = true
        rw [ho, Nat.compare_eq_gt.2 hlt]
        rfl
      have hTI : T r k < INF := by
        refine Nat.lt_of_le_of_ne hT fun g => hs ?_
        have h1 := T_le_S (x := r) k (by omega) hr
        show T r k ≤ mulR (S r k) c17
        rw [show S r k = INF by omega, mulR_inf_left c17 (by decide) (by decide)]
        exact hT
      have hqI := qk_fin hr (k + 1) (by omega) (by omega)
      have e2 := fmul (a := 4611686018427387904) (b := kf (k + 1)) (c := kf (2 * (k + 1))) (two_times' (k + 1) (by omega) (by omega))
      have e3 := fdiv (a := W s r) (b := kf (2 * (k + 1))) (c := W s (qk r (k + 1))) (div_eq s r _ hr (kf_spec _ (by omega) (by omega)).2 (kf_pos _ (by omega) (by omega)))
      have e4 := fmul (a := W s (qk r (k + 1))) (b := W s (qk r (k + 1))) (c := fac r (k + 1)) (by
        rw [mul_eq s s _ _ hqI hqI, Bool.xor_self]; rfl)
      have e5 := fmul (a := T r k) (b := fac r (k + 1)) (c := T r (k + 1)) (mul_pos_left _ _ (by omega) hTI (fac_le _ (by omega) (by omega) hr))
      have e6 := fadd (a := S r k) (b := T r (k + 1)) (c := S r (k + 1)) (add_all _ _ hS (T_le _ (by omega) hr))
      have e7 := fadd (a := kf (k + 1)) (b := 4607182418800017408) (c := kf (k + 1 + 1)) (next_k (k + 1) (by omega) (by omega))
      have HN : Hid (∀ j, j < k → ¬ Stop r j) := hno
      clear ho hno
      go_wp2
      go_round
      case rel =>
        refine ⟨k + 1, hk1, fun j hj => ?_, rfl, rfl, rfl⟩
        by_cases g : j = k
        · subst g; exact hs
        · exact HN.out j (by omega)
      case measure =>
        show togo (.float .f64 (kf (k + 1 + 1))) < togo (.float .f64 (kf (k + 1)))
        rw [togo_kf (k + 1) hk1, togo_kf k hk]
        omega
end Go.Proofs.Qxb6618400a
