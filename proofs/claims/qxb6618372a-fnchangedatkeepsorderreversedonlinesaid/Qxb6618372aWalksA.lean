import Derived.Test.Qxb6618372aRows
import Derived.WalkKit
import Derived.WalkSpells
import Derived.BigQuiet
import Derived.Deep.QuietTactic
import Derived.RowKit3
import Derived.Laws.BitsLemmas
namespace Go.Proofs.Qxb6618372a
open Go.RowKit

/-! ### Plain facts on bits -/
theorem i32_not (a : Int) (h0 : 0 ≤ a) (h1 : a < 2147483648) : bits .xor .i32 (-1) a = -1 - a := by
  obtain ⟨a, rfl⟩ := Int.eq_ofNat_of_zero_le h0
  show IntKind.i32.wrap ((BitVec.ofInt 32 (-1) ^^^ BitVec.ofInt 32 (a : Int)).toNat : Int) = _
  have h1 : BitVec.ofInt 32 (-1) = BitVec.allOnes 32 := by decide
  rw [h1, BitVec.allOnes_xor, BitVec.toNat_not, BitVec.ofInt_natCast, BitVec.toNat_ofNat, Nat.mod_eq_of_lt (by omega), IntKind.wrap_i32]
  omega
theorem i32_not_neg (a : Int) (h0 : a < 0) (h1 : -2147483648 ≤ a) : bits .xor .i32 (-1) a = -1 - a := by
  obtain ⟨b, rfl⟩ : ∃ b : Nat, a = -1 - (b : Int) := ⟨(-1 - a).toNat, by omega⟩
  show IntKind.i32.wrap ((BitVec.ofInt 32 (-1) ^^^ BitVec.ofInt 32 (-1 - (b : Int))).toNat : Int) = _
  have h1 : BitVec.ofInt 32 (-1) = BitVec.allOnes 32 := by decide
  rw [h1, BitVec.allOnes_xor, BitVec.toNat_not, BitVec.toNat_ofInt, IntKind.wrap_i32]
  omega
theorem wraps_i64 (n : Int) (h₀ : 0 ≤ n) (h₁ : n < 2 ^ 63) : IntKind.i64.wrap n = n := by rw [IntKind.wrap_i64]; omega
theorem i64_or32 (x y : Int) (hx₀ : 0 ≤ x) (hx : x % 4294967296 = 0) (hx₁ : x < 9223372036854775808) (h₀ : 0 ≤ y) (h₁ : y < 4294967296) : bits .or .i64 x y = x + y :=
  bits_join .i64 63 (by decide) wraps_i64 32 x y hx₀ hx hx₁ h₀ h₁ (by omega)

/-- The line and the column of the pos for n. -/
def lineOf (n : Int) : Int := -1 - n / 4294967296
def colOf (n : Int) : Int := wrap32 n
/-- What is read back from a line and a column. -/
def decoded (l c : Int) : Int := (-1 - l) * 4294967296 + c % 4294967296

theorem line_neg (n : Int) (h0 : 0 < n) : lineOf n < 0 := by unfold lineOf; omega
theorem line_low (n : Int) (h1 : n ≤ 9223372036854775807) : -2147483648 ≤ lineOf n := by unfold lineOf; omega
theorem decoded_of (n : Int) : decoded (lineOf n) (colOf n) = n := by unfold decoded lineOf colOf wrap32; omega

theorem grown_drewN {W w' : World} (h : Grown W w') (n : Nat) : Grown W (w'.drewN n) := h

set_option maxHeartbeats 400000 in
theorem changedAt_any (n : Int) (h0 : 0 < n) (h1 : n ≤ 9223372036854775807) (w : World) :
    Calls Try.prog 7 #[.int .i64 n] w fun e w' => e = .returned (.agg #[.pointer none, .int .i32 (lineOf n), .int .i32 (colOf n)]) ∧ ∃ c : Array Value, w' = w.alloc (.cells c 30) := by
  have hx := i32_not (n / 4294967296) (by omega) (by omega)
  go_enter Try.func7, Try.ntmps7
  go_wp2
  · simp [bodyPost, results, Try.results7, go_sem, lineOf, colOf]
    exact ⟨_, rfl⟩

set_option maxHeartbeats 400000 in
theorem decode_any (l c : Int) (h0 : l < 0) (h1 : -2147483648 ≤ l) (w : World) :
    Calls Try.prog 6 #[.int .i32 l, .int .i32 c] w fun e w' => e = .returned (.int .i64 (decoded l c)) ∧ w' = w := by
  have hx := i32_not_neg l h0 h1
  have e1 : wrap64 (-1 - l) = -1 - l := by unfold wrap64; omega
  have e2 : wrap64 ((-1 - l) * 4294967296) = (-1 - l) * 4294967296 := by unfold wrap64; omega
  have ho := i64_or32 ((-1 - l) * 4294967296) (c % 4294967296) (by omega) (by omega) (by omega) (by omega) (by omega)
  go_enter Try.func6, Try.ntmps6
  go_wp2
  go_ret
  exact ⟨by simp [decoded], rfl⟩

/-- The call reads its own number back. -/
theorem decode_of (n : Int) (h0 : 0 < n) (h1 : n ≤ 9223372036854775807) (w : World) :
    Calls Try.prog 6 #[.int .i32 (lineOf n), .int .i32 (colOf n)] w fun e w' => e = .returned (.int .i64 n) ∧ w' = w := by
  have h := decode_any (lineOf n) (colOf n) (line_neg n h0) (line_low n h1) w
  rw [decoded_of] at h
  exact h

set_option maxHeartbeats 400000 in
theorem zzChangedAt_any (n : Int) (h0 : 0 < n) (h1 : n ≤ 9223372036854775807) (w : World) :
    Calls Try.prog 5 #[.int .i64 n] w fun e w' => e = .returned (.tuple #[.bool false, .int .i32 (lineOf n), .int .i32 (colOf n)]) ∧ ∃ (c1 c2 : Array Value) (k : Nat), w' = ((w.alloc (.cells c1 30)).alloc (.cells c2 30)).drewN k := by
  go_enter Try.func5, Try.ntmps5
  go_wp2_with (go_at_call 7; refine (changedAt_any n h0 h1 _).mono ?_; rintro e w' ⟨rfl, c, rfl⟩)
  go_quiet (fail)
  go_wp2
  go_ret3
  exact ⟨rfl, _, _, _, rfl⟩
end Go.Proofs.Qxb6618372a
