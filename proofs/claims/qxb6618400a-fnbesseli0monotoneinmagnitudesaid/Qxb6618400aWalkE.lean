import Derived.Test.Qxb6618400aWalkD
/-! What the two laws share: the bits parted into sign and rung; magnitudes compared. -/
namespace Go.Proofs.Qxb6618400a
open Go.RowKit Fl

theorem split_bits (b : Nat) (h : (Lit.float .f64 b).wf = true) : ∃ s r, b = W s r ∧ r < 9223372036854775808 := by
  have hb : b < 18446744073709551616 := by simpa [Lit.wf] using h
  by_cases c : b < 9223372036854775808
  · exact ⟨false, b, rfl, c⟩
  · refine ⟨true, b - 9223372036854775808, ?_, by omega⟩
    show b = 9223372036854775808 + (b - 9223372036854775808)
    omega

theorem zero_left (s : Bool) (b : Nat) : Ieee.double.order (W s 0) b = Ieee.double.order 0 b := by
  cases s
  · rfl
  · unfold Ieee.Format.order
    have e0 : Ieee.double.read 0 = .number false 0 (-1074) := by decide
    have e1 : Ieee.double.read (W true 0) = .number true 0 (-1074) := by decide
    rw [e0, e1]
    cases Ieee.double.read b <;> simp [Ieee.Datum.order, Ieee.signed]
theorem zero_right (s : Bool) (a : Nat) : Ieee.double.order a (W s 0) = Ieee.double.order a 0 := by
  cases s
  · rfl
  · unfold Ieee.Format.order
    have e0 : Ieee.double.read 0 = .number false 0 (-1074) := by decide
    have e1 : Ieee.double.read (W true 0) = .number true 0 (-1074) := by decide
    rw [e0, e1]
    cases Ieee.double.read a <;> simp [Ieee.Datum.order, Ieee.signed]
theorem abs_left (s : Bool) (r b : Nat) : Ieee.double.order (absR s r) b = Ieee.double.order r b := by
  unfold absR
  by_cases h : r = 0
  · subst h; rw [if_pos rfl]; exact zero_left s b
  · rw [if_neg h]
theorem abs_right (s : Bool) (r a : Nat) : Ieee.double.order a (absR s r) = Ieee.double.order a r := by
  unfold absR
  by_cases h : r = 0
  · subst h; rw [if_pos rfl]; exact zero_right s a
  · rw [if_neg h]
theorem abs_cmp (s t : Bool) (r q : Nat) (hr : r ≤ INF) (hq : q ≤ INF) : (FloatKind.f64.format.order (absR s r) (absR t q) == some Ordering.gt) = decide (q < r) := by
  have e : FloatKind.f64.format.order (absR s r) (absR t q) = FloatKind.f64.format.order r q := (abs_left s r _).trans (abs_right t q r)
  rw [e]
  exact cmp_gt hr hq

theorem besX_mono {r q : Nat} (h : r ≤ q) : BesX r ≤ BesX q := by
  by_cases c : q < INF
  · unfold BesX
    rw [if_pos c, if_pos (by omega)]
    exact bes_mono h c
  · have : BesX q = INF := by unfold BesX; rw [if_neg c]
    rw [this]
    exact besX_le
end Go.Proofs.Qxb6618400a
