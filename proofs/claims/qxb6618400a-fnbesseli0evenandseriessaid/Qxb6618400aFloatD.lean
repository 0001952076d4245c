import Derived.Test.Qxb6618400aFloatC
/-! The model's operations on doubles, as roundings: the operations. -/
namespace Go.Proofs.Qxb6618400a.Fl
open Ieee

/-- One, in units of 2^-1074. -/
def K : Nat := 1074
theorem K_eq : K = 1074 := rfl
def U : Nat := 2 ^ K
theorem U_pos : 0 < U := Nat.two_pow_pos _

theorem read_W (s : Bool) (r : Nat) (h : r < INF) : double.read (W s r) = .number s (mg r) (-1074 + (ex r : Int)) := by
  unfold INF at h
  have h2 : double.leastPlace = -1074 := by decide
  have h3 : double.binade = 4503599627370496 := by decide
  have h4 : double.infRung = 9218868437227405312 := by decide
  have h5 : double.signWeight = 9223372036854775808 := by decide
  have e1 : (W s r / 9223372036854775808 % 2 == 1) = s := by cases s <;> simp [W] <;> omega
  have e2 : W s r % 9223372036854775808 = r := by unfold W; split <;> omega
  unfold Format.read
  simp only [h2, h3, h4, h5, e1, e2]
  unfold mg ex
  by_cases a : r < 4503599627370496
  · rw [if_pos a, if_pos a, show r / 4503599627370496 = 0 by omega]; rfl
  · rw [if_neg a, if_neg a, if_pos h]

theorem read_INF (s : Bool) : double.read (W s INF) = .infinity s := by cases s <;> decide

theorem rnd_zero (D : Nat) : Rnd 0 D 0 := ⟨by decide, fun h => by omega, fun _ => by omega, fun h => by omega, fun h => by omega⟩
theorem Rnd.pos {N D r : Nat} (h : Rnd N D r) (hD : 0 < D) (hN : D ≤ N) : 0 < r := by
  refine Nat.pos_of_ne_zero fun e => ?_
  subst e
  have := h.hi (by decide)
  rw [V_succ] at this
  have e : V 0 + (V 0 + ulp 0) = 1 := by decide
  rw [e] at this
  omega

theorem write_number (neg : Bool) (m : Nat) (p : Int) : double.write (.number neg m p) = double.nearest neg m p := rfl
theorem nearest_zero (neg : Bool) (p : Int) : double.nearest neg 0 p = W neg 0 := by unfold Format.nearest; rw [if_pos rfl, word_eq]

/-! #### '*' -/
theorem mul_fin (s t : Bool) (a b : Nat) (ha : a < INF) (hb : b < INF) : ∃ r, double.mul (W s a) (W t b) = some (W (s ^^ t) r) ∧ Rnd (V a * V b) U r := by
  unfold Format.mul
  rw [read_W s a ha, read_W t b hb]
  simp only [Datum.product, Option.map_some, write_number]
  by_cases hz : mg a * mg b = 0
  · refine ⟨0, by rw [hz, nearest_zero], ?_⟩
    have : V a * V b = 0 := by
      unfold V
      rw [show mg a * 2 ^ ex a * (mg b * 2 ^ ex b) = mg a * mg b * (2 ^ ex a * 2 ^ ex b) by ac_rfl, hz, Nat.zero_mul]
    rw [this]; exact rnd_zero U
  · obtain ⟨r, hr, hR⟩ := nearest_exact (s ^^ t) (mag := mg a * mg b) (place := -1074 + (ex a : Int) + (-1074 + (ex b : Int))) (N := V a * V b) (D := U) (ex a + ex b) K hz U_pos (by have := K_eq; omega) (by
      unfold V U; rw [Nat.pow_add]; generalize 2 ^ K = u; ac_rfl)
    exact ⟨r, by rw [hr], hR⟩

def mulR (a b : Nat) : Nat := (double.mul a b).getD 0

theorem mul_eq (s t : Bool) (a b : Nat) (ha : a < INF) (hb : b < INF) : double.mul (W s a) (W t b) = some (W (s ^^ t) (mulR a b)) := by
  obtain ⟨r, h1, h2⟩ := mul_fin s t a b ha hb
  obtain ⟨r', h1', h2'⟩ := mul_fin false false a b ha hb
  have e : mulR a b = r' := by
    unfold mulR
    have : double.mul a b = some r' := h1'
    rw [this]; rfl
  rw [h1, e, h2.unique h2' U_pos U_pos rfl]
theorem mul_rnd (a b : Nat) (ha : a < INF) (hb : b < INF) : Rnd (V a * V b) U (mulR a b) := by
  obtain ⟨r', h1', h2'⟩ := mul_fin false false a b ha hb
  have e : mulR a b = r' := by
    unfold mulR
    have : double.mul a b = some r' := h1'
    rw [this]; rfl
  rw [e]; exact h2'
theorem mul_inf_left (b : Nat) (hb : b ≤ INF) (h0 : 0 < b) : double.mul INF b = some INF := by
  unfold Format.mul
  have e : double.read INF = .infinity false := read_INF false
  rw [e]
  by_cases h : b = INF
  · subst h; rw [e]; decide
  · have e2 : double.read b = .number false (mg b) (-1074 + (ex b : Int)) := read_W false b (by omega)
    rw [e2]
    have : mg b ≠ 0 := by unfold mg; split <;> omega
    simp only [Datum.product, if_neg this]
    decide
theorem mul_inf_right (a : Nat) (ha : a ≤ INF) (h0 : 0 < a) : double.mul a INF = some INF := by
  unfold Format.mul
  have e : double.read INF = .infinity false := read_INF false
  rw [e]
  by_cases h : a = INF
  · subst h; rw [e]; decide
  · have e2 : double.read a = .number false (mg a) (-1074 + (ex a : Int)) := read_W false a (by omega)
    rw [e2]
    have : mg a ≠ 0 := by unfold mg; split <;> omega
    simp only [Datum.product, if_neg this]
    decide
theorem mulR_inf_left (b : Nat) (hb : b ≤ INF) (h0 : 0 < b) : mulR INF b = INF := by unfold mulR; rw [mul_inf_left b hb h0]; rfl
theorem mulR_inf_right (a : Nat) (ha : a ≤ INF) (h0 : 0 < a) : mulR a INF = INF := by unfold mulR; rw [mul_inf_right a ha h0]; rfl
theorem mulR_zero_left (b : Nat) (hb : b ≤ INF) : mulR 0 b = 0 := by
  by_cases h : b = INF
  · subst h; decide
  · have h1 := mul_rnd 0 b (by decide) (by omega)
    rw [V_zero, Nat.zero_mul] at h1
    exact h1.unique (rnd_zero U) U_pos U_pos rfl
theorem mulR_zero_right (a : Nat) (ha : a ≤ INF) : mulR a 0 = 0 := by
  by_cases h : a = INF
  · subst h; decide
  · have h1 := mul_rnd a 0 (by omega) (by decide)
    rw [V_zero, Nat.mul_zero] at h1
    exact h1.unique (rnd_zero U) U_pos U_pos rfl
theorem mulR_le (a b : Nat) (ha : a ≤ INF) (hb : b ≤ INF) : mulR a b ≤ INF := by
  by_cases h0 : a = 0
  · subst h0; rw [mulR_zero_left b hb]; decide
  by_cases h1 : b = 0
  · subst h1; rw [mulR_zero_right a ha]; decide
  by_cases h2 : a = INF
  · subst h2; rw [mulR_inf_left b hb (by omega)]; exact Nat.le_refl _
  by_cases h3 : b = INF
  · subst h3; rw [mulR_inf_right a ha (by omega)]; exact Nat.le_refl _
  exact (mul_rnd a b (by omega) (by omega)).top
theorem mulR_mono {a a' b b' : Nat} (ha : a ≤ a') (hb : b ≤ b') (ha' : a' ≤ INF) (hb' : b' ≤ INF) : mulR a b ≤ mulR a' b' := by
  by_cases h0 : a = 0
  · subst h0; rw [mulR_zero_left b (by omega)]; omega
  by_cases h1 : b = 0
  · subst h1; rw [mulR_zero_right a (by omega)]; omega
  by_cases h2 : a' = INF
  · subst h2; rw [mulR_inf_left b' hb' (by omega)]; exact mulR_le _ _ (by omega) (by omega)
  by_cases h3 : b' = INF
  · subst h3; rw [mulR_inf_right a' ha' (by omega)]; exact mulR_le _ _ (by omega) (by omega)
  exact (mul_rnd a b (by omega) (by omega)).mono (mul_rnd a' b' (by omega) (by omega)) U_pos U_pos (Nat.mul_le_mul_right _ (Nat.mul_le_mul (V_mono ha) (V_mono hb)))

/-! #### '+' of two that are not negative -/
theorem add_fin (a b : Nat) (ha : a < INF) (hb : b < INF) : ∃ r, double.add a b = some r ∧ Rnd (V a + V b) 1 r := by
  unfold Format.add
  have ra : double.read a = .number false (mg a) (-1074 + (ex a : Int)) := read_W false a ha
  have rb : double.read b = .number false (mg b) (-1074 + (ex b : Int)) := read_W false b hb
  rw [ra, rb]
  simp only [Datum.sum, signed, Bool.false_eq_true, if_false, Option.map_some, write_number, Nat.shiftLeft_eq]
  obtain ⟨m, hm⟩ : ∃ m : Nat, m = min (ex a) (ex b) := ⟨_, rfl⟩
  have hbase : min (-1074 + (ex a : Int)) (-1074 + (ex b : Int)) = -1074 + (m : Int) := by omega
  rw [hbase]
  rw [show (-1074 + (ex a : Int) - (-1074 + (m : Int))).toNat = ex a - m by omega, show (-1074 + (ex b : Int) - (-1074 + (m : Int))).toNat = ex b - m by omega]
  have eA : 2 ^ ex a = 2 ^ (ex a - m) * 2 ^ m := by rw [← Nat.pow_add]; rw [show ex a - m + m = ex a by omega]
  have eB : 2 ^ ex b = 2 ^ (ex b - m) * 2 ^ m := by rw [← Nat.pow_add]; rw [show ex b - m + m = ex b by omega]
  obtain ⟨T, hT⟩ : ∃ T : Nat, T = mg a * 2 ^ (ex a - m) + mg b * 2 ^ (ex b - m) := ⟨_, rfl⟩
  have hTi : ((mg a * 2 ^ (ex a - m) : Nat) : Int) + ((mg b * 2 ^ (ex b - m) : Nat) : Int) = (T : Int) := by rw [hT]; simp
  have hv : V a + V b = T * 2 ^ m := by unfold V; rw [eA, eB, hT, Nat.add_mul, Nat.mul_assoc, Nat.mul_assoc]
  rw [hTi]
  by_cases hz : T = 0
  · refine ⟨0, ?_, ?_⟩
    · subst hz; simp [nearest_zero, W]
    · rw [hv, hz, Nat.zero_mul]; exact rnd_zero 1
  · obtain ⟨r, hr, hR⟩ := nearest_exact false (mag := T) (place := -1074 + (m : Int)) (N := V a + V b) (D := 1) m 0 hz (by decide) (by omega) (by rw [hv])
    refine ⟨r, ?_, hR⟩
    rw [if_neg (by omega), show decide ((T : Int) < 0) = false by simp, Int.natAbs_natCast, hr]
    rfl

def addR (a b : Nat) : Nat := (double.add a b).getD 0

theorem add_eq (a b : Nat) (ha : a < INF) (hb : b < INF) : double.add a b = some (addR a b) := by
  obtain ⟨r, h1, h2⟩ := add_fin a b ha hb
  unfold addR; rw [h1]; rfl
theorem add_rnd (a b : Nat) (ha : a < INF) (hb : b < INF) : Rnd (V a + V b) 1 (addR a b) := by
  obtain ⟨r, h1, h2⟩ := add_fin a b ha hb
  unfold addR; rw [h1]; exact h2
theorem add_inf_left (b : Nat) (hb : b ≤ INF) : double.add INF b = some INF := by
  unfold Format.add
  have e : double.read INF = .infinity false := read_INF false
  rw [e]
  by_cases h : b = INF
  · subst h; rw [e]; decide
  · have e2 : double.read b = .number false (mg b) (-1074 + (ex b : Int)) := read_W false b (by omega)
    rw [e2]
    simp only [Datum.sum]
    decide
theorem add_inf_right (a : Nat) (ha : a ≤ INF) : double.add a INF = some INF := by
  unfold Format.add
  have e : double.read INF = .infinity false := read_INF false
  rw [e]
  by_cases h : a = INF
  · subst h; rw [e]; decide
  · have e2 : double.read a = .number false (mg a) (-1074 + (ex a : Int)) := read_W false a (by omega)
    rw [e2]
    simp only [Datum.sum]
    decide
theorem addR_inf_left (b : Nat) (hb : b ≤ INF) : addR INF b = INF := by unfold addR; rw [add_inf_left b hb]; rfl
theorem addR_inf_right (a : Nat) (ha : a ≤ INF) : addR a INF = INF := by unfold addR; rw [add_inf_right a ha]; rfl
theorem add_all (a b : Nat) (ha : a ≤ INF) (hb : b ≤ INF) : double.add a b = some (addR a b) := by
  by_cases h2 : a = INF
  · subst h2; rw [add_inf_left b hb, addR_inf_left b hb]
  by_cases h3 : b = INF
  · subst h3; rw [add_inf_right a ha, addR_inf_right a ha]
  exact add_eq a b (by omega) (by omega)
theorem addR_le (a b : Nat) (ha : a ≤ INF) (hb : b ≤ INF) : addR a b ≤ INF := by
  by_cases h2 : a = INF
  · subst h2; rw [addR_inf_left b hb]; exact Nat.le_refl _
  by_cases h3 : b = INF
  · subst h3; rw [addR_inf_right a ha]; exact Nat.le_refl _
  exact (add_rnd a b (by omega) (by omega)).top
theorem addR_mono {a a' b b' : Nat} (ha : a ≤ a') (hb : b ≤ b') (ha' : a' ≤ INF) (hb' : b' ≤ INF) : addR a b ≤ addR a' b' := by
  by_cases h2 : a' = INF
  · subst h2; rw [addR_inf_left b' hb']; exact addR_le _ _ (by omega) (by omega)
  by_cases h3 : b' = INF
  · subst h3; rw [addR_inf_right a' ha']; exact addR_le _ _ (by omega) (by omega)
  exact (add_rnd a b (by omega) (by omega)).mono (add_rnd a' b' (by omega) (by omega)) (by decide) (by decide) (Nat.mul_le_mul_right _ (Nat.add_le_add (V_mono ha) (V_mono hb)))
theorem addR_zero (a : Nat) (ha : a ≤ INF) : addR a 0 = a := by
  by_cases h : a = INF
  · subst h; exact addR_inf_left 0 (by decide)
  · have h1 := add_rnd a 0 (by omega) (by decide)
    rw [V_zero] at h1
    exact h1.unique (Rnd.exact 1 (by decide) ha) (by decide) (by decide) (by omega)
theorem le_addR (a b : Nat) (ha : a ≤ INF) (hb : b ≤ INF) : a ≤ addR a b := by
  have := addR_mono (Nat.le_refl a) (Nat.zero_le b) ha hb
  rw [addR_zero a ha] at this
  exact this

/-! #### '/' by a positive number -/
theorem div_fin (s : Bool) (a b : Nat) (ha : a < INF) (hb : b < INF) (h0 : 0 < b) : ∃ r, double.div (W s a) (W false b) = some (W s r) ∧ Rnd (V a * U) (V b) r := by
  unfold Format.div
  rw [read_W s a ha, read_W false b hb]
  have hn : mg b ≠ 0 := by unfold mg; split <;> omega
  simp only [Datum.quotient, if_neg hn, Option.map_some, write_number, Bool.xor_false]
  have hf : double.fractionBits + 2 = 54 := rfl
  rw [hf]
  have pb : 0 < V b := V_pos h0
  by_cases hz : mg a = 0
  · refine ⟨0, by rw [hz]; simp [nearest_zero], ?_⟩
    have : V a * U = 0 := by unfold V; rw [hz]; simp
    rw [this]; exact rnd_zero _
  · obtain ⟨mo, hmo⟩ : ∃ mo, mo = 54 + (mg b).log2 - (mg a).log2 := ⟨_, rfl⟩
    rw [← hmo, Nat.shiftLeft_eq]
    have la := Nat.log2_self_le hz
    have la2 : mg a < 2 ^ ((mg a).log2 + 1) := Nat.lt_log2_self
    have lb := Nat.log2_self_le hn
    have lb2 : mg b < 2 ^ ((mg b).log2 + 1) := Nat.lt_log2_self
    have hbits : (mg a).log2 ≤ 54 := by
      refine Nat.le_of_not_lt fun g => ?_
      have : 2 ^ 54 ≤ 2 ^ (mg a).log2 := Nat.pow_le_pow_right (by decide) (by omega)
      have : mg a < 9007199254740992 := by unfold mg; split <;> omega
      omega
    have hq : 9007199254740992 ≤ mg a * 2 ^ mo / mg b := by
      rw [Nat.le_div_iff_mul_le (Nat.pos_of_ne_zero hn)]
      have e1 : 2 ^ (54 + (mg b).log2) ≤ mg a * 2 ^ mo := by
        calc 2 ^ (54 + (mg b).log2) = 2 ^ ((mg a).log2 + mo) := by congr 1; omega
          _ = 2 ^ (mg a).log2 * 2 ^ mo := Nat.pow_add _ _ _
          _ ≤ mg a * 2 ^ mo := Nat.mul_le_mul_right _ la
      have e2 : 9007199254740992 * mg b ≤ 2 ^ (54 + (mg b).log2) := by
        rw [show 54 + (mg b).log2 = 53 + ((mg b).log2 + 1) by omega, Nat.pow_add]
        exact Nat.mul_le_mul (by decide) (Nat.le_of_lt lb2)
      omega
    obtain ⟨r, hr, hR⟩ := nearest_sticky s (dv := mg a * 2 ^ mo) (n := mg b) (place := -1074 + (ex a : Int) - (-1074 + (ex b : Int)) - (mo : Int) - 1) (N := V a * U) (D := V b)
      (ex a + K) (ex b + mo + 1) (Nat.pos_of_ne_zero hn) hq pb (by have := K_eq; omega) (by
        unfold V U; rw [Nat.pow_add, Nat.pow_succ 2 (ex b + mo), Nat.pow_add 2 (ex b)]; generalize 2 ^ K = u; ac_rfl)
    exact ⟨r, by rw [hr], hR⟩

def divR (a b : Nat) : Nat := (double.div a b).getD 0

theorem div_rnd (a b : Nat) (ha : a < INF) (hb : b < INF) (h0 : 0 < b) : Rnd (V a * U) (V b) (divR a b) := by
  obtain ⟨r', h1', h2'⟩ := div_fin false a b ha hb h0
  have e : divR a b = r' := by
    unfold divR
    have : double.div a b = some r' := h1'
    rw [this]; rfl
  rw [e]; exact h2'
theorem div_eq (s : Bool) (a b : Nat) (ha : a < INF) (hb : b < INF) (h0 : 0 < b) : double.div (W s a) b = some (W s (divR a b)) := by
  obtain ⟨r, h1, h2⟩ := div_fin s a b ha hb h0
  have h1' : double.div (W s a) b = some (W s r) := h1
  rw [h1', h2.unique (div_rnd a b ha hb h0) (V_pos h0) (V_pos h0) rfl]
theorem divR_le (a b : Nat) (ha : a < INF) (hb : b < INF) (h0 : 0 < b) : divR a b ≤ INF := (div_rnd a b ha hb h0).top
theorem divR_mono {a a' b b' : Nat} (ha : a ≤ a') (hb : b' ≤ b) (ha' : a' < INF) (hb' : b < INF) (h0 : 0 < b') : divR a b ≤ divR a' b' :=
  (div_rnd a b (by omega) hb' (by omega)).mono (div_rnd a' b' ha' (by omega) h0) (V_pos (by omega)) (V_pos h0) (by
    rw [Nat.mul_assoc, Nat.mul_assoc]
    exact Nat.mul_le_mul (V_mono ha) (Nat.mul_le_mul_left _ (V_mono hb)))

/-! #### comparing two that are not negative -/
theorem order_fin (a b : Nat) (ha : a < INF) (hb : b < INF) : double.order a b = some (compare a b) := by
  unfold Format.order
  have ra : double.read a = .number false (mg a) (-1074 + (ex a : Int)) := read_W false a ha
  have rb : double.read b = .number false (mg b) (-1074 + (ex b : Int)) := read_W false b hb
  rw [ra, rb]
  simp only [Datum.order, signed, Bool.false_eq_true, if_false, Nat.shiftLeft_eq]
  obtain ⟨m, hm⟩ : ∃ m : Nat, m = min (ex a) (ex b) := ⟨_, rfl⟩
  have hbase : min (-1074 + (ex a : Int)) (-1074 + (ex b : Int)) = -1074 + (m : Int) := by omega
  rw [hbase, show (-1074 + (ex a : Int) - (-1074 + (m : Int))).toNat = ex a - m by omega, show (-1074 + (ex b : Int) - (-1074 + (m : Int))).toNat = ex b - m by omega]
  have eA : V a = mg a * 2 ^ (ex a - m) * 2 ^ m := by unfold V; rw [Nat.mul_assoc, ← Nat.pow_add]; congr 2; omega
  have eB : V b = mg b * 2 ^ (ex b - m) * 2 ^ m := by unfold V; rw [Nat.mul_assoc, ← Nat.pow_add]; congr 2; omega
  have hp : 0 < 2 ^ m := Nat.two_pow_pos _
  generalize mg a * 2 ^ (ex a - m) = x at *
  generalize mg b * 2 ^ (ex b - m) = y at *
  congr 1
  rcases Nat.lt_trichotomy a b with h | h | h
  · have h1 := V_strict h
    rw [eA, eB] at h1
    have h2 := Nat.lt_of_mul_lt_mul_right h1
    rw [Nat.compare_eq_lt.2 h]
    exact Int.compare_eq_lt.2 (by omega)
  · subst h
    have h2 : x = y := Nat.eq_of_mul_eq_mul_right hp (by omega)
    rw [h2]
    rw [Nat.compare_eq_eq.2 rfl]
    exact Int.compare_eq_eq.2 rfl
  · have h1 := V_strict h
    rw [eA, eB] at h1
    have h2 := Nat.lt_of_mul_lt_mul_right h1
    rw [Nat.compare_eq_gt.2 h]
    exact Int.compare_eq_gt.2 (by omega)

theorem order_all (a b : Nat) (ha : a ≤ INF) (hb : b ≤ INF) : double.order a b = some (compare a b) := by
  have e : double.read INF = .infinity false := read_INF false
  by_cases h2 : a = INF
  · by_cases h3 : b = INF
    · subst h2 h3; decide
    · subst h2
      unfold Format.order
      have rb : double.read b = .number false (mg b) (-1074 + (ex b : Int)) := read_W false b (by omega)
      rw [e, rb, Nat.compare_eq_gt.2 (by omega)]
      rfl
  · by_cases h3 : b = INF
    · subst h3
      unfold Format.order
      have ra : double.read a = .number false (mg a) (-1074 + (ex a : Int)) := read_W false a (by omega)
      rw [e, ra, Nat.compare_eq_lt.2 (by omega)]
      rfl
    · exact order_fin a b (by omega) (by omega)
end Go.Proofs.Qxb6618400a.Fl
