import Derived.Test.Qxb6618400aWalkC
/-! i0Spec. -/
namespace Go.Proofs.Qxb6618400a
open Go.RowKit Fl

theorem sub_fin (a b : Nat) (ha : a < INF) (hb : b < INF) : ∃ d, Ieee.double.sub a b = some (W (decide (a < b)) d) ∧ Rnd ((V a - V b) + (V b - V a)) 1 d := by
  unfold Ieee.Format.sub
  have ra : Ieee.double.read a = .number false (mg a) (-1074 + (ex a : Int)) := read_W false a ha
  have rb : Ieee.double.read b = .number false (mg b) (-1074 + (ex b : Int)) := read_W false b hb
  rw [ra, rb]
  simp only [Ieee.Datum.opposite, Ieee.Datum.sum, Ieee.signed, Bool.not_false, if_true, Bool.false_eq_true, if_false, Option.map_some, write_number, Nat.shiftLeft_eq]
  obtain ⟨m, hm⟩ : ∃ m : Nat, m = min (ex a) (ex b) := ⟨_, rfl⟩
  have hbase : min (-1074 + (ex a : Int)) (-1074 + (ex b : Int)) = -1074 + (m : Int) := by omega
  rw [hbase, show (-1074 + (ex a : Int) - (-1074 + (m : Int))).toNat = ex a - m by omega, show (-1074 + (ex b : Int) - (-1074 + (m : Int))).toNat = ex b - m by omega]
  have eA : V a = mg a * 2 ^ (ex a - m) * 2 ^ m := by unfold V; rw [Nat.mul_assoc, ← Nat.pow_add]; congr 2; omega
  have eB : V b = mg b * 2 ^ (ex b - m) * 2 ^ m := by unfold V; rw [Nat.mul_assoc, ← Nat.pow_add]; congr 2; omega
  have hp : 0 < 2 ^ m := Nat.two_pow_pos _
  generalize mg a * 2 ^ (ex a - m) = x at *
  generalize mg b * 2 ^ (ex b - m) = y at *
  have hv : (V a - V b) + (V b - V a) = ((x - y) + (y - x)) * 2 ^ m := by rw [eA, eB, ← Nat.sub_mul, ← Nat.sub_mul, ← Nat.add_mul]
  have hab : a < b ↔ x < y := by
    rw [← V_lt_iff, eA, eB]
    exact ⟨fun h => Nat.lt_of_mul_lt_mul_right h, fun h => Nat.mul_lt_mul_of_pos_right h hp⟩
  have hn : ((x : Int) + -(y : Int)).natAbs = (x - y) + (y - x) := by omega
  rw [hn]
  by_cases hz : x = y
  · subst hz
    refine ⟨0, ?_, ?_⟩
    · rw [show decide (a < b) = false by simp [hab], if_pos (by omega), show (x - x) + (x - x) = 0 by omega, nearest_zero]; rfl
    · rw [hv, show (x - x) + (x - x) = 0 by omega, Nat.zero_mul]; exact rnd_zero 1
  · obtain ⟨d, hd, hR⟩ := nearest_exact (decide (a < b)) (mag := (x - y) + (y - x)) (place := -1074 + (m : Int)) (N := (V a - V b) + (V b - V a)) (D := 1) m 0 (by omega) (by decide) (by omega) (by rw [hv])
    refine ⟨d, ?_, hR⟩
    have hs : decide ((x : Int) + -(y : Int) < 0) = decide (a < b) := by
      by_cases c : x < y
      · rw [decide_eq_true (hab.2 c), decide_eq_true (by omega)]
      · rw [decide_eq_false (fun g => c (hab.1 g)), decide_eq_false (by omega)]
    rw [if_neg (by omega), hs, hd]

/-! ### The middle -/
theorem want_le {r : Nat} (hr : r ≤ c700) : Want r < INF := hz_low hr 600 (Nat.le_refl _)
theorem diff_le {r d : Nat} (hr : r ≤ c700) (hd : Rnd ((V (Bes r) - V (Want r)) + (V (Want r) - V (Bes r))) 1 d) : d ≤ mulR c11 (Want r) := by
  have hw := want_le hr
  refine hd.mono (mul_rnd c11 (Want r) (by decide) hw) (by decide) U_pos ?_
  rw [Nat.mul_one, Nat.add_mul]
  by_cases c : r ≤ c30
  · rw [small_bes c, show Want r = one from small_want c 600 (Nat.le_refl _)]
    rw [Nat.sub_self, Nat.zero_mul]
    exact Nat.zero_le _
  · have h := acc_nat (x := r) ⟨by omega, hr⟩
    rcases Nat.le_total (V (Bes r)) (V (Want r)) with g | g
    · rw [Nat.sub_eq_zero_of_le g, Nat.zero_mul, Nat.zero_add]; exact h.2
    · rw [Nat.sub_eq_zero_of_le g, Nat.zero_mul, Nat.add_zero]; exact h.1

theorem cmp_ge {a b : Nat} (ha : a ≤ INF) (hb : b ≤ INF) : (FloatKind.f64.format.order a b == some Ordering.gt || FloatKind.f64.format.order a b == some Ordering.eq) = decide (b ≤ a) := by
  show (Ieee.double.order a b == some Ordering.gt || Ieee.double.order a b == some Ordering.eq) = _
  rw [order_all a b ha hb]
  rcases Nat.lt_trichotomy a b with h | h | h
  · rw [Nat.compare_eq_lt.2 h, decide_eq_false (by omega)]; rfl
  · rw [Nat.compare_eq_eq.2 h, decide_eq_true (by omega)]; rfl
  · rw [Nat.compare_eq_gt.2 h, decide_eq_true (by omega)]; rfl
theorem cmp_le {a b : Nat} (ha : a ≤ INF) (hb : b ≤ INF) : (FloatKind.f64.format.order a b == some Ordering.lt || FloatKind.f64.format.order a b == some Ordering.eq) = decide (a ≤ b) := by
  show (Ieee.double.order a b == some Ordering.lt || Ieee.double.order a b == some Ordering.eq) = _
  rw [order_all a b ha hb]
  rcases Nat.lt_trichotomy a b with h | h | h
  · rw [Nat.compare_eq_lt.2 h, decide_eq_true (by omega)]; rfl
  · rw [Nat.compare_eq_eq.2 h, decide_eq_true (by omega)]; rfl
  · rw [Nat.compare_eq_gt.2 h, decide_eq_false (by omega)]; rfl
theorem cmp_gt {a b : Nat} (ha : a ≤ INF) (hb : b ≤ INF) : (FloatKind.f64.format.order a b == some Ordering.gt) = decide (b < a) := by
  show (Ieee.double.order a b == some Ordering.gt) = _
  rw [order_all a b ha hb]
  rcases Nat.lt_trichotomy a b with h | h | h
  · rw [Nat.compare_eq_lt.2 h, decide_eq_false (by omega)]; rfl
  · rw [Nat.compare_eq_eq.2 h, decide_eq_false (by omega)]; rfl
  · rw [Nat.compare_eq_gt.2 h, decide_eq_true (by omega)]; rfl

/-- A number is equal to itself. -/
theorem num_ne (s : Bool) (r : Nat) (hr : r ≤ INF) : (FloatKind.f64.format.order (W s r) (W s r) != some Ordering.eq) = false := by
  show (Ieee.double.order (W s r) (W s r) != some Ordering.eq) = false
  have : Ieee.double.order (W s r) (W s r) = some .eq := by
    unfold Ieee.Format.order
    by_cases h : r = INF
    · subst h; rw [read_INF]; cases s <;> rfl
    · rw [read_W s r (by omega)]
      simp only [Ieee.Datum.order]
      congr 1
      exact Int.compare_eq_eq.2 rfl
  rw [this]; rfl

/-! ### i0Spec -/
set_option maxHeartbeats 400000 in
theorem spec_nan (x f : Nat) (hx : isN x) (hf : isN f) (w : World) : Calls Try.prog 7 #[.float .f64 x, .float .f64 f] w fun e w' => e = .returned (.bool true) ∧ w' = w := by
  have h1 := nan_ne hx
  have h2 := nan_ne hf
  go_enter Try.func7, Try.ntmps7
  go_wp2
  go_ret
  exact ⟨rfl, rfl⟩

theorem abs_ge (s : Bool) (r : Nat) (hr : r ≤ INF) (b : Nat) (hb : b ≤ INF) (h0 : 0 < b) : (FloatKind.f64.format.order (absR s r) b == some Ordering.gt || FloatKind.f64.format.order (absR s r) b == some Ordering.eq) = decide (b ≤ r) := by
  unfold absR
  by_cases h : r = 0
  · subst h
    rw [if_pos rfl]
    cases s
    · exact cmp_ge (by decide) hb
    · show (Ieee.double.order (W true 0) b == some Ordering.gt || Ieee.double.order (W true 0) b == some Ordering.eq) = _
      rw [decide_eq_false (by omega)]
      have : Ieee.double.order (W true 0) b = some .lt := by
        unfold Ieee.Format.order
        rw [read_W true 0 (by decide)]
        by_cases c : b = INF
        · subst c; rw [show Ieee.double.read INF = .infinity false from read_INF false]; rfl
        · have rb : Ieee.double.read b = .number false (mg b) (-1074 + (ex b : Int)) := read_W false b (by omega)
          rw [rb]
          have hm : 0 < mg b := by unfold mg; split <;> omega
          have e1 : mg 0 = 0 := by decide
          have e2 : ex 0 = 0 := by decide
          simp only [Ieee.Datum.order, Ieee.signed, if_true, Bool.false_eq_true, if_false, Nat.shiftLeft_eq, e1, e2, Nat.zero_mul]
          have hp : 0 < mg b * 2 ^ ((-1074 + (ex b : Int)) - min (-1074 + ((0 : Nat) : Int)) (-1074 + (ex b : Int))).toNat := Nat.mul_pos hm (Nat.two_pow_pos _)
          generalize mg b * 2 ^ ((-1074 + (ex b : Int)) - min (-1074 + ((0 : Nat) : Int)) (-1074 + (ex b : Int))).toNat = y at *
          congr 1
          exact Int.compare_eq_lt.2 (by omega)
      rw [this]
      rfl
  · rw [if_neg h]
    exact cmp_ge hr hb
theorem abs_gt (s : Bool) (r : Nat) (hr : r ≤ INF) (b : Nat) (hb : b ≤ INF) (h0 : 0 < b) : (FloatKind.f64.format.order (absR s r) b == some Ordering.gt) = decide (b < r) := by
  have h := abs_ge s r hr b hb h0
  by_cases h1 : r = 0
  · subst h1
    rw [decide_eq_false (by omega)] at h ⊢
    exact (Bool.or_eq_false_iff.1 h).1
  · unfold absR
    rw [if_neg h1]
    exact cmp_gt hr hb

set_option maxHeartbeats 1000000 in
theorem spec_num (s : Bool) (r : Nat) (hr : r ≤ INF) (w : World) : Calls Try.prog 7 #[.float .f64 (W s r), .float .f64 (BesX r)] w fun e w' => e = .returned (.bool true) ∧ w' = w := by
  have h1 := num_ne s r hr
  have g1 : (FloatKind.f64.format.order (absR s r) 4649500422329860096 == some Ordering.gt || FloatKind.f64.format.order (absR s r) 4649500422329860096 == some Ordering.eq) = decide (c715 ≤ r) := abs_ge s r hr c715 (by decide) (by decide)
  have g2 : (FloatKind.f64.format.order (absR s r) 4649368480934526976 == some Ordering.gt) = decide (c700 < r) := abs_gt s r hr c700 (by decide) (by decide)
  by_cases c1 : c715 ≤ r
  · rw [decide_eq_true c1] at g1
    have hB : BesX r = INF := by
      unfold BesX
      split
      · exact bes_715 c1 ‹_›
      · rfl
    rw [hB]
    have g3 : (FloatKind.f64.format.order INF 9218868437227405311 == some Ordering.gt) = true := by decide +kernel
    clear g2 hB
    go_enter Try.func7, Try.ntmps7
    go_wp2_with fail
    refine (abs_num s r hr _).mono ?_
    rintro e w' ⟨rfl, rfl⟩
    go_wp2_with fail
    go_ret
    exact ⟨rfl, rfl⟩
  rw [decide_eq_false c1] at g1
  have hI : r < INF := Nat.lt_of_lt_of_le (Nat.lt_of_not_le c1) (by decide)
  have hB : BesX r = Bes r := by unfold BesX; rw [if_pos hI]
  rw [hB]
  clear hB
  by_cases c2 : c700 < r
  · rw [decide_eq_true c2] at g2
    have g3 : (FloatKind.f64.format.order (Bes r) 9110180938284831491 == some Ordering.gt || FloatKind.f64.format.order (Bes r) 9110180938284831491 == some Ordering.eq) = decide (c301 ≤ Bes r) := cmp_ge (bes_le hI) (by decide)
    rw [decide_eq_true (bes_700 (Nat.le_of_lt c2) hI)] at g3
    go_enter Try.func7, Try.ntmps7
    go_wp2_with fail
    refine (abs_num s r hr _).mono ?_
    rintro e w' ⟨rfl, rfl⟩
    go_wp2_with fail
    go_ret
    exact ⟨rfl, rfl⟩
  · rw [decide_eq_false c2] at g2
    have c3 : r ≤ c700 := Nat.le_of_not_lt c2
    obtain ⟨d, hsub, hR⟩ := sub_fin (Bes r) (Want r) (bes_fin c3) (want_le c3)
    have hle := diff_le c3 hR
    have hdI : d ≤ INF := hR.top
    have e2 := fmul (a := 4442235333156365461) (b := Want r) (c := mulR c11 (Want r)) (mul_nn c11 (Want r) (by decide) (want_le c3))
    have g3 : (FloatKind.f64.format.order d (mulR c11 (Want r)) == some Ordering.lt || FloatKind.f64.format.order d (mulR c11 (Want r)) == some Ordering.eq) = true := by
      rw [cmp_le hdI (mulR_le _ _ (by decide) (Nat.le_of_lt (want_le c3)))]
      exact decide_eq_true hle
    have habs : ∃ t : Bool, absR s r = W t r := by
      unfold absR
      by_cases h : r = 0
      · subst h; exact ⟨s, by rw [if_pos rfl]⟩
      · exact ⟨false, by rw [if_neg h]; rfl⟩
    obtain ⟨t, ht⟩ := habs
    by_cases c4 : Bes r < Want r
    · rw [decide_eq_true c4] at hsub
      have hd0 : 0 < d := hR.pos (by decide) (by have := V_strict c4; omega)
      have e1 := fsub hsub
      have e3 : ∀ w : World, (Op.unary .neg (.float .f64 (W true d))).run Try.prog w = .ok (.float .f64 d) w := fneg true d (by unfold INF at hdI; omega)
      have g4 : (FloatKind.f64.format.order (W true d) 0 == some Ordering.lt) = true := by
        show (Ieee.double.order (W true d) 0 == some Ordering.lt) = true
        rw [order_neg d hd0 hdI]; rfl
      clear hR hsub hle
      go_enter Try.func7, Try.ntmps7
      go_wp2_with fail
      refine (abs_num s r hr _).mono ?_
      rintro e w' ⟨rfl, rfl⟩
      rw [ht] at g1 g2 ⊢
      go_wp2_with fail
      refine (horner_num t r c3 _).mono ?_
      rintro e w' ⟨rfl, rfl⟩
      go_wp2_with fail
      go_ret
      exact ⟨rfl, rfl⟩
    · rw [decide_eq_false c4] at hsub
      have e1 : ∀ w : World, (binOp .sub 22 (.float .f64 (Bes r)) (.float .f64 (Want r))).run Try.prog w = .ok (.float .f64 d) w := fsub hsub
      have g4 : (FloatKind.f64.format.order d 0 == some Ordering.lt) = false := order_nonneg d hdI
      clear hR hsub hle
      go_enter Try.func7, Try.ntmps7
      go_wp2_with fail
      refine (abs_num s r hr _).mono ?_
      rintro e w' ⟨rfl, rfl⟩
      rw [ht] at g1 g2 ⊢
      go_wp2_with fail
      refine (horner_num t r c3 _).mono ?_
      rintro e w' ⟨rfl, rfl⟩
      go_wp2_with fail
      go_ret
      exact ⟨rfl, rfl⟩
end Go.Proofs.Qxb6618400a
