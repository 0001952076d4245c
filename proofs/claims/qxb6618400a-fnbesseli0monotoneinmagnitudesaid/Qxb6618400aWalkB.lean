import Derived.Test.Qxb6618400aWalkA
import Derived.Deep.Draws
/-! besselI0 at an infinity and at a NaN; the small helpers. -/
namespace Go.Proofs.Qxb6618400a
open Go.RowKit Fl

/-- The bits of a NaN. -/
def isN (b : Nat) : Prop := ∃ s r, b = W s r ∧ INF < r ∧ r < 9223372036854775808

theorem read_nan {b : Nat} (h : isN b) : ∃ s f, Ieee.double.read b = .nan s f := by
  obtain ⟨s, r, rfl, h1, h2⟩ := h
  refine ⟨s, r - INF, ?_⟩
  unfold INF at *
  have h3 : Ieee.double.binade = 4503599627370496 := by decide
  have h4 : Ieee.double.infRung = 9218868437227405312 := by decide
  have h5 : Ieee.double.signWeight = 9223372036854775808 := by decide
  have e1 : (W s r / 9223372036854775808 % 2 == 1) = s := by cases s <;> simp [W] <;> omega
  have e2 : W s r % 9223372036854775808 = r := by unfold W; split <;> omega
  unfold Ieee.Format.read
  simp only [h3, h4, h5, e1, e2]
  rw [if_neg (by omega), if_neg (by omega), if_neg (by omega)]

theorem div_nan_left {a : Nat} (h : isN a) (b : Nat) : Ieee.double.div a b = none := by
  obtain ⟨s, f, e⟩ := read_nan h
  unfold Ieee.Format.div
  rw [e]
  rfl
theorem mul_nan_left {a : Nat} (h : isN a) (b : Nat) : Ieee.double.mul a b = none := by
  obtain ⟨s, f, e⟩ := read_nan h
  unfold Ieee.Format.mul
  rw [e]
  rfl
theorem mul_nan_right (a : Nat) {b : Nat} (h : isN b) : Ieee.double.mul a b = none := by
  obtain ⟨s, f, e⟩ := read_nan h
  unfold Ieee.Format.mul
  rw [e]
  cases Ieee.double.read a <;> rfl
theorem add_nan_right (a : Nat) {b : Nat} (h : isN b) : Ieee.double.add a b = none := by
  obtain ⟨s, f, e⟩ := read_nan h
  unfold Ieee.Format.add
  rw [e]
  cases Ieee.double.read a <;> rfl
theorem order_nan_left {a : Nat} (h : isN a) (b : Nat) : Ieee.double.order a b = none := by
  obtain ⟨s, f, e⟩ := read_nan h
  unfold Ieee.Format.order
  rw [e]
  rfl
theorem order_nan_right (a : Nat) {b : Nat} (h : isN b) : Ieee.double.order a b = none := by
  obtain ⟨s, f, e⟩ := read_nan h
  unfold Ieee.Format.order
  rw [e]
  cases Ieee.double.read a <;> rfl

theorem nan_bits (t : Nat) : isN ((t % 2) * 2 ^ 63 + 0x7ff0000000000000 + 1 + (t / 2) % (2 ^ 52 - 1)) := by
  refine ⟨decide (t % 2 = 1), INF + 1 + (t / 2) % (2 ^ 52 - 1), ?_, ?_, ?_⟩
  · unfold W INF
    by_cases c : t % 2 = 1
    · simp [c]; omega
    · have c' : t % 2 = 0 := by omega
      simp [c']
  · omega
  · unfold INF
    have := Nat.mod_lt (t / 2) (show 0 < 2 ^ 52 - 1 by decide)
    omega

theorem nan_run (op : BinOp) (hop : op = .add ∨ op = .mul ∨ op = .quo) (a b : Nat) (h : floatBits op .f64 a b = none) (w : World) : ∃ n, isN n ∧ (binOp op 22 (.float .f64 a) (.float .f64 b)).run Try.prog w = .ok (.float .f64 n) w.drew := by
  unfold floatBits at h
  refine ⟨_, nan_bits (w.tape w.drawn (.nanBits .f64 a b)), ?_⟩
  rcases hop with rfl | rfl | rfl <;> simp only at h <;> simp [binOp, Op.floatArith, h] <;> rfl

/-! ### besselI0 at an infinity -/
/-- One round to go, or none. -/
def togo2 (v : Value) : Nat :=
  match v with
  | .float _ b => if b = one then 1 else 0
  | _ => 0

theorem start_gt : (FloatKind.f64.format.order 4607182418800017408 (mulR one c17) == some Ordering.gt) = true := by decide +kernel
theorem start_mul : Ieee.double.mul 4607182418800017408 4352464011485697175 = some (mulR one c17) := by
  rw [show 4607182418800017408 = one from rfl, show 4352464011485697175 = c17 from rfl]
  exact mul_nn one c17 (by decide) (by decide)
theorem start_two : Ieee.double.mul 4611686018427387904 4607182418800017408 = some two := by decide +kernel
theorem start_next : Ieee.double.add 4607182418800017408 4607182418800017408 = some two := by decide +kernel
theorem div_INF (s : Bool) : Ieee.double.div (W s INF) two = some (W s INF) := by cases s <;> decide +kernel
theorem mul_INF (s : Bool) : Ieee.double.mul (W s INF) (W s INF) = some INF := by cases s <;> decide +kernel
theorem one_INF : Ieee.double.mul 4607182418800017408 INF = some INF := by decide +kernel
theorem add_INF : Ieee.double.add 4607182418800017408 INF = some INF := by decide +kernel
theorem INF_c17 : Ieee.double.mul INF 4352464011485697175 = some INF := by decide +kernel
theorem INF_ngt : (FloatKind.f64.format.order INF INF == some Ordering.gt) = false := by decide +kernel

set_option maxHeartbeats 400000 in
theorem bessel_inf (s : Bool) (w : World) :
    Calls Try.prog 9 #[.float .f64 (W s INF)] w fun e w' => e = .returned (.float .f64 INF) ∧ w' = w := by
  go_enter Try.func9, Try.ntmps9
  go_wp2
  go_loop [3, 4, 5] (fun sv tv kv => (sv = .float .f64 4607182418800017408 ∧ tv = .float .f64 4607182418800017408 ∧ kv = .float .f64 4607182418800017408) ∨ (sv = .float .f64 INF ∧ tv = .float .f64 INF ∧ kv = .float .f64 two)) (fun _ _ kv => togo2 kv)
  case atStart => exact Or.inl ⟨rfl, rfl, rfl⟩
  case round =>
    rcases hrel with ⟨rfl, rfl, rfl⟩ | ⟨rfl, rfl, rfl⟩
    · have e1 := fmul start_mul
      have e2 := fmul start_two
      have e3 := fdiv (div_INF s)
      have e4 := fmul (mul_INF s)
      have e5 := fmul one_INF
      have e6 := fadd add_INF
      have e7 := fadd start_next
      have g := start_gt
      go_wp2
      go_round
      case rel => exact Or.inr ⟨rfl, rfl, rfl⟩
      case measure => decide
    · have e1 := fmul INF_c17
      have g := INF_ngt
      go_wp2
      go_ret
      exact ⟨rfl, rfl⟩

/-! ### besselI0 at a NaN -/
set_option maxHeartbeats 400000 in
theorem bessel_nan (x : Nat) (hx : isN x) (w : World) :
    Calls Try.prog 9 #[.float .f64 x] w fun e w' => ∃ b n, isN b ∧ e = .returned (.float .f64 b) ∧ w' = w.drewN n := by
  obtain ⟨b1, n1, d1⟩ := nan_run .quo (by simp) x two (div_nan_left hx two) w
  obtain ⟨b2, n2, d2⟩ := nan_run .quo (by simp) x two (div_nan_left hx two) w.drew
  obtain ⟨b3, n3, d3⟩ := nan_run .mul (by simp) b1 b2 (mul_nan_left n1 b2) w.drew.drew
  obtain ⟨b4, n4, d4⟩ := nan_run .mul (by simp) 4607182418800017408 b3 (mul_nan_right _ n3) w.drew.drew.drew
  obtain ⟨b5, n5, d5⟩ := nan_run .add (by simp) 4607182418800017408 b4 (add_nan_right _ n4) w.drew.drew.drew.drew
  obtain ⟨b6, n6, d6⟩ := nan_run .mul (by simp) b5 4352464011485697175 (mul_nan_left n5 _) w.drew.drew.drew.drew.drew
  go_enter Try.func9, Try.ntmps9
  go_wp2
  go_loopw [3, 4, 5] (fun sv tv kv w' => (w' = w ∧ sv = .float .f64 4607182418800017408 ∧ tv = .float .f64 4607182418800017408 ∧ kv = .float .f64 4607182418800017408) ∨ (w' = w.drew.drew.drew.drew.drew ∧ sv = .float .f64 b5 ∧ tv = .float .f64 b4 ∧ kv = .float .f64 two)) (fun _ _ kv _ => togo2 kv)
  case atStart => exact Or.inl ⟨rfl, rfl, rfl, rfl⟩
  case round =>
    rcases hrel with ⟨rfl, rfl, rfl, rfl⟩ | ⟨rfl, rfl, rfl, rfl⟩
    · have e1 := fmul start_mul
      have e2 := fmul start_two
      have e7 := fadd start_next
      have g := start_gt
      go_wp2
      go_roundw
      case rel => exact Or.inr ⟨trivial, rfl, rfl, rfl⟩
      case measure => decide
    · have g : (FloatKind.f64.format.order b4 b6 == some Ordering.gt) = false := by
        show (Ieee.double.order b4 b6 == some Ordering.gt) = false
        rw [order_nan_left n4]
        rfl
      go_wp2
      go_ret
      exact ⟨b5, 6, n5, rfl, rfl⟩
end Go.Proofs.Qxb6618400a
