import Derived.Test.Qxb6618400aWalkB
/-! The helpers of the laws: abs, Horner, the same float. -/
namespace Go.Proofs.Qxb6618400a
open Go.RowKit Fl

theorem xor_bit (r : Nat) (h : r < 9223372036854775808) : r ^^^ 9223372036854775808 = 9223372036854775808 + r := by
  have e63 : 9223372036854775808 = 2 ^ 63 := by decide
  rw [e63] at *
  refine Nat.eq_of_testBit_eq fun i => ?_
  rw [Nat.testBit_xor, Nat.testBit_two_pow]
  rcases Nat.lt_trichotomy i 63 with g | g | g
  · rw [Nat.testBit_two_pow_add_gt g, decide_eq_false (by omega), Bool.xor_false]
  · subst g
    rw [Nat.testBit_two_pow_add_eq, Nat.testBit_lt_two_pow h]
    simp
  · have h1 : r < 2 ^ i := Nat.lt_of_lt_of_le h (Nat.pow_le_pow_right (show 0 < 2 by decide) (show 63 ≤ i by omega))
    have h2 : 2 ^ 63 + r < 2 ^ i := Nat.lt_of_lt_of_le (show 2 ^ 63 + r < 2 ^ 64 by omega) (Nat.pow_le_pow_right (show 0 < 2 by decide) (show 64 ≤ i by omega))
    rw [Nat.testBit_lt_two_pow h1, Nat.testBit_lt_two_pow h2, decide_eq_false (by omega)]
    rfl
theorem neg_W (s : Bool) (r : Nat) (h : r < 9223372036854775808) : Op.negFloat .f64 (W s r) = W (!s) r := by
  have e : Op.negFloat .f64 (W s r) = W s r ^^^ 9223372036854775808 := rfl
  rw [e]
  cases s
  · exact xor_bit r h
  · show (9223372036854775808 + r) ^^^ 9223372036854775808 = r
    rw [← xor_bit r h, Nat.xor_assoc, Nat.xor_self, Nat.xor_zero]

theorem fneg (s : Bool) (r : Nat) (h : r < 9223372036854775808) (w : World) : (Op.unary .neg (.float .f64 (W s r))).run Try.prog w = .ok (.float .f64 (W (!s) r)) w := by
  have e : Op.unary .neg (.float .f64 (W s r)) = pure (.float .f64 (Op.negFloat .f64 (W s r))) := rfl
  rw [e, neg_W s r h]
  rfl

/-- besselI0 at every number that is no NaN. -/
def BesX (r : Nat) : Nat := if r < INF then Bes r else INF

theorem bessel_num (s : Bool) (r : Nat) (hr : r ≤ INF) (w : World) :
    Calls Try.prog 9 #[.float .f64 (W s r)] w fun e w' => e = .returned (.float .f64 (BesX r)) ∧ w' = w := by
  unfold BesX
  by_cases h : r < INF
  · rw [if_pos h]; exact bessel_fin s r h w
  · obtain rfl : r = INF := by omega
    rw [if_neg h]; exact bessel_inf s w
theorem zz_num (s : Bool) (r : Nat) (hr : r ≤ INF) (w : World) :
    Calls Try.prog 5 #[.float .f64 (W s r)] w fun e w' => e = .returned (.float .f64 (BesX r)) ∧ w' = w := by
  go_enter Try.func5, Try.ntmps5
  go_wp2_with fail
  refine (bessel_num s r hr _).mono ?_
  rintro e w' ⟨rfl, rfl⟩
  go_wp2_with fail
  go_ret
  exact ⟨rfl, rfl⟩
theorem zz_nan (x : Nat) (hx : isN x) (w : World) :
    Calls Try.prog 5 #[.float .f64 x] w fun e w' => ∃ b n, isN b ∧ e = .returned (.float .f64 b) ∧ w' = w.drewN n := by
  go_enter Try.func5, Try.ntmps5
  go_wp2_with fail
  refine (bessel_nan x hx _).mono ?_
  rintro e w' ⟨b, n, hb, rfl, rfl⟩
  go_wp2_with fail
  go_ret
  exact ⟨b, n, hb, rfl, rfl⟩

theorem besX_le {r : Nat} : BesX r ≤ INF := by
  unfold BesX
  split
  · exact bes_le ‹_›
  · exact Nat.le_refl _

/-! ### i0SameFloat -/
theorem order_self (a : Nat) (ha : a ≤ INF) : Ieee.double.order a a = some .eq := by rw [order_all a a ha ha, Nat.compare_eq_eq.2 rfl]
theorem same_num (a : Nat) (ha : a ≤ INF) (w : World) : Calls Try.prog 6 #[.float .f64 a, .float .f64 a] w fun e w' => e = .returned (.bool true) ∧ w' = w := by
  have h1 : (FloatKind.f64.format.order a a != some Ordering.eq) = false := by
    show (Ieee.double.order a a != some Ordering.eq) = false
    rw [order_self a ha]; rfl
  have h2 : (FloatKind.f64.format.order a a == some Ordering.eq) = true := by
    show (Ieee.double.order a a == some Ordering.eq) = true
    rw [order_self a ha]; rfl
  go_enter Try.func6, Try.ntmps6
  go_wp2
  go_ret
  exact ⟨rfl, rfl⟩
theorem nan_ne {a : Nat} (ha : isN a) : (FloatKind.f64.format.order a a != some Ordering.eq) = true := by
  show (Ieee.double.order a a != some Ordering.eq) = true
  rw [order_nan_left ha]; rfl
theorem same_nan (a b : Nat) (ha : isN a) (hb : isN b) (w : World) : Calls Try.prog 6 #[.float .f64 a, .float .f64 b] w fun e w' => e = .returned (.bool true) ∧ w' = w := by
  have h1 := nan_ne ha
  have h2 := nan_ne hb
  go_enter Try.func6, Try.ntmps6
  go_wp2
  go_ret
  exact ⟨rfl, rfl⟩

/-! ### i0Abs -/
def absR (s : Bool) (r : Nat) : Nat := if r = 0 then W s 0 else r
theorem order_neg (r : Nat) (h0 : 0 < r) (hr : r ≤ INF) : Ieee.double.order (W true r) 0 = some .lt := by
  unfold Ieee.Format.order
  have e0 : Ieee.double.read 0 = .number false 0 (-1074) := by decide
  by_cases h : r = INF
  · subst h; rw [read_INF true, e0]; rfl
  · rw [read_W true r (by omega), e0]
    have hm : 0 < mg r := by unfold mg; split <;> omega
    simp only [Ieee.Datum.order, Ieee.signed, if_true, Bool.false_eq_true, if_false, Nat.shiftLeft_eq, Nat.zero_mul]
    have hp : 0 < mg r * 2 ^ ((-1074 + (ex r : Int)) - min (-1074 + (ex r : Int)) (-1074)).toNat := Nat.mul_pos hm (Nat.two_pow_pos _)
    generalize mg r * 2 ^ ((-1074 + (ex r : Int)) - min (-1074 + (ex r : Int)) (-1074)).toNat = y at *
    congr 1
    exact Int.compare_eq_lt.2 (by omega)
theorem order_nonneg (r : Nat) (hr : r ≤ INF) : (Ieee.double.order r 0 == some .lt) = false := by
  rw [order_all r 0 hr (by decide)]
  rcases Nat.eq_zero_or_pos r with h | h
  · subst h; rfl
  · rw [Nat.compare_eq_gt.2 h]; rfl
theorem order_mz : (Ieee.double.order (W true 0) 0 == some .lt) = false := by decide

set_option maxHeartbeats 400000 in
theorem abs_num (s : Bool) (r : Nat) (hr : r ≤ INF) (w : World) :
    Calls Try.prog 8 #[.float .f64 (W s r)] w fun e w' => e = .returned (.float .f64 (absR s r)) ∧ w' = w := by
  have hr' : r < 9223372036854775808 := by unfold INF at hr; omega
  by_cases h0 : r = 0
  · subst h0
    have h : (FloatKind.f64.format.order (W s 0) 0 == some Ordering.lt) = false := by
      cases s
      · exact order_nonneg 0 (by decide)
      · exact order_mz
    have ha : absR s 0 = W s 0 := rfl
    rw [ha]
    go_enter Try.func8, Try.ntmps8
    go_wp2
    go_ret
    exact ⟨rfl, rfl⟩
  · have ha : absR s r = r := by unfold absR; rw [if_neg h0]
    rw [ha]
    cases s
    · have h : (FloatKind.f64.format.order (W false r) 0 == some Ordering.lt) = false := order_nonneg r hr
      go_enter Try.func8, Try.ntmps8
      go_wp2
      go_ret
      exact ⟨rfl, rfl⟩
    · have h : (FloatKind.f64.format.order (W true r) 0 == some Ordering.lt) = true := by
        show (Ieee.double.order (W true r) 0 == some Ordering.lt) = true
        rw [order_neg r (by omega) hr]; rfl
      have hn : ∀ w : World, (Op.unary .neg (.float .f64 (W true r))).run Try.prog w = .ok (.float .f64 r) w := fneg true r hr'
      go_enter Try.func8, Try.ntmps8
      go_wp2
      go_ret
      exact ⟨rfl, rfl⟩

/-! ### i0Horner -/
theorem fac_low {r : Nat} (hr : r ≤ c700) : fac r 1 < INF := Nat.lt_of_le_of_lt (fac_mono 1 (by decide) (by decide) hr (by decide)) f_high
theorem mid700 : Mid c700 := ⟨by decide, Nat.le_refl _⟩
theorem hz_low {r : Nat} (hr : r ≤ c700) (m : Nat) (hm : m ≤ 600) : hz r m < INF :=
  Nat.lt_of_le_of_lt (hz_mono hr (by decide) f_high m hm) (hz_fin mid700 m hm)
theorem dm_low {r : Nat} (hr : r ≤ c700) (m : Nat) (hm : m < 600) : divR (fac r 1) (kf ((600 - m) * (600 - m))) < INF := by
  have kl := kk_le m
  have kp := kk_pos m hm
  refine Nat.lt_of_le_of_lt ?_ d_high
  exact divR_mono (fac_mono 1 (by decide) (by decide) hr (by decide)) (kf_mono (by decide) kp (by omega)) f_high (kf_spec _ kp (by omega)).2 (kf_pos 1 (by decide) (by decide))

theorem of_int (k : Nat) : floatOfInt .f64 (k : Int) = kf k := by
  show Ieee.double.nearest (decide ((k : Int) < 0)) (k : Int).natAbs 0 = _
  rw [Int.natAbs_natCast, show decide ((k : Int) < 0) = false by simp]
  rfl
theorem half_x (s : Bool) (r : Nat) (hr : r < INF) : Ieee.double.div (W s r) 4611686018427387904 = some (W s (qk r 1)) := by
  rw [show 4611686018427387904 = two from rfl, ← kf_two, div_eq s r _ hr (kf_spec 2 (by decide) (by decide)).2 (kf_pos 2 (by decide) (by decide))]
  rfl

set_option maxHeartbeats 400000 in
theorem horner_num (s : Bool) (r : Nat) (hr : r ≤ c700) (w : World) :
    Calls Try.prog 10 #[.float .f64 (W s r)] w fun e w' => e = .returned (.float .f64 (Want r)) ∧ w' = w := by
  have hI : r < INF := Nat.lt_of_le_of_lt hr (by decide)
  have hq := qk_fin hI 1 (by decide) (by decide)
  have hf := fac_low hr
  have e1 := fdiv (half_x s r hI)
  have e2 := fmul (a := W s (qk r 1)) (b := W s (qk r 1)) (c := fac r 1) (by rw [mul_eq s s _ _ hq hq, Bool.xor_self]; rfl)
  go_enter Try.func10, Try.ntmps10
  go_wp2
  go_loop [4, 5] (fun hv kv => ∃ m : Nat, m ≤ 600 ∧ hv = .float .f64 (hz r m) ∧ kv = .int .i64 ((600 - m : Nat) : Int)) (fun _ kv => (intOf kv).toNat)
  case atStart => exact ⟨0, by omega, rfl, rfl⟩
  case round =>
    obtain ⟨m, hm, rfl, rfl⟩ := hrel
    by_cases hlt : m < 600
    · have kl := kk_le m
      have kp := kk_pos m hlt
      have hh := hz_low hr m hm
      have hd := dm_low hr m hlt
      have hp : 1 ≤ ((600 - m : Nat) : Int) := by omega
      have e3 : floatOfInt .f64 ((600 - m : Nat) : Int) = kf (600 - m) := of_int _
      have e4 := fmul (a := kf (600 - m)) (b := kf (600 - m)) (c := kf ((600 - m) * (600 - m))) (by
        rw [mul_nn _ _ (kf_spec (600 - m) (by omega) (by omega)).2 (kf_spec (600 - m) (by omega) (by omega)).2, kf_mul _ _ (by omega) (by omega) (by omega) (by omega) (by omega)])
      have e5 := fdiv (a := fac r 1) (b := kf ((600 - m) * (600 - m))) (c := divR (fac r 1) (kf ((600 - m) * (600 - m)))) (div_eq false (fac r 1) _ hf (kf_spec _ kp (by omega)).2 (kf_pos _ kp (by omega)))
      have e6 := fmul (a := divR (fac r 1) (kf ((600 - m) * (600 - m)))) (b := hz r m) (c := mulR (divR (fac r 1) (kf ((600 - m) * (600 - m)))) (hz r m)) (mul_nn _ _ hd hh)
      have e7 := fadd (a := 4607182418800017408) (b := mulR (divR (fac r 1) (kf ((600 - m) * (600 - m)))) (hz r m)) (c := hz r (m + 1)) (add_all one _ (by decide) (mulR_le _ _ (Nat.le_of_lt hd) (Nat.le_of_lt hh)))
      go_wp2
      go_round
      case rel => exact ⟨m + 1, by omega, rfl, by go_num⟩
      case measure => simp [intOf]; omega
    · have hm' : m = 600 := by omega
      have hp : ¬ 1 ≤ ((600 - m : Nat) : Int) := by omega
      have HM : Hid (m = 600) := hm'
      clear hm'
      go_wp2
      go_ret
      exact ⟨by unfold Want; rw [HM.out]; rfl, rfl⟩
end Go.Proofs.Qxb6618400a
