import Derived.Test.Qxb6618653aDist
/-! The second law's bound on total length: what it says where it answers true. -/
namespace Go.Proofs.Qxb6618653a
open Go.RowKit

def shortTo (l : List Src) (k : Nat) : Prop := ∀ (i : Nat) (x : Src), i < k → l[i]? = some x → x.1.size ≤ 1048576 ∧ x.2.size ≤ 1048576
def isS (l : List Src) (e : Ending) : Prop := ∃ bo, e = .returned (.bool bo) ∧ (bo = true → shortTo l l.length)

theorem isS_false (l : List Src) : isS l (.returned (.bool false)) := ⟨false, rfl, fun h => by cases h⟩

set_option maxHeartbeats 1000000 in
theorem bytes2_said (ao : Option Addr) (b off cap : Nat) (l : List Src) (cut : Int) (w : World) (hlen : l.length ≤ maxLen) (h : Came w ao b off l) :
    Calls Try.prog 10 #[.slice ao l.length cap, .int .i64 cut] w fun e w' => isS l e ∧ w' = w := by
  unfold maxLen at hlen
  have HC : Hid (Came w ao b off l) := h
  clear h
  by_cases g1 : (1048576 : Int) < l.length
  · go_enter Try.func10, Try.ntmps10
    go_wp2
    go_ret
    exact ⟨isS_false l, rfl⟩
  go_enter Try.func10, Try.ntmps10
  go_wp2
  go_loop [5, 6] (fun tv iv => ∃ (k : Nat) (t : Int), k ≤ l.length ∧ iv = .int .i64 k ∧ tv = .int .i64 t ∧ shortTo l k) (fun _ iv => l.length - (intOf iv).toNat)
  case atStart => exact ⟨0, _, Nat.zero_le _, rfl, rfl, fun i x hi => absurd hi (Nat.not_lt_zero _)⟩
  case round =>
    obtain ⟨k, t, hk, rfl, rfl, hs⟩ := hrel
    have HS : Hid (shortTo l k) := hs
    clear hs
    by_cases hlt : k < l.length
    · obtain ⟨x, hx⟩ : ∃ x, l[k]? = some x := ⟨l[k], List.getElem?_eq_getElem hlt⟩
      have hne : l ≠ [] := fun e => by subst e; simp at hlt
      have hao := HC.out.at_ hne
      subst hao
      have d0 := HC.out.c0 k x hx
      have d1 := HC.out.c1 k x hx
      have i0 : (0 : Int) ≤ (k : Int) := by omega
      have i1 : (k : Int) < (l.length : Int) := by omega
      have HX : Hid (l[k]? = some x) := hx
      clear hx hne
      by_cases q1 : (1048576 : Int) < x.1.size
      · go_wp2
        go_ret
        exact ⟨isS_false l, rfl⟩
      by_cases q2 : (1048576 : Int) < x.2.size
      · go_wp2
        all_goals (go_ret; exact ⟨isS_false l, rfl⟩)
      have HN : Hid (shortTo l (k + 1)) := by
        intro i y hi hy
        rcases Nat.lt_or_ge i k with h' | h'
        · exact HS.out i y h' hy
        · have : i = k := by omega
          subst this
          rw [HX.out] at hy
          cases hy
          omega
      go_wp2
      all_goals first
        | (go_ret; exact ⟨isS_false l, rfl⟩)
        | (go_round
           case rel => exact ⟨k + 1, _, by omega, by go_num, rfl, HN.out⟩
           case measure => simp [intOf]; omega)
    · have : k = l.length := by omega
      go_wp2
      go_ret
      exact ⟨⟨_, rfl, fun _ => by rw [← this]; exact HS.out⟩, rfl⟩
end Go.Proofs.Qxb6618653a
