import Derived.Test.Qxb6618653aNumD
/-! The laws' bound on total length: it answers some bool and only reads. -/
namespace Go.Proofs.Qxb6618653a
open Go.RowKit

/-- The sources that came in: where they lie. -/
structure Came (w : World) (ao : Option Addr) (b off : Nat) (l : List Src) : Prop where
  at_ : l ≠ [] → ao = some ⟨b, off, none⟩
  lt : l ≠ [] → b < w.heap.size
  c0 : ∀ (i : Nat) (x : Src), l[i]? = some x → w.cell? ⟨b, off + i * 2, none⟩ = some (.string x.1)
  c1 : ∀ (i : Nat) (x : Src), l[i]? = some x → w.cell? ⟨b, off + i * 2 + 1, none⟩ = some (.string x.2)

/-- It ends with a bool. -/
def isB (e : Ending) : Prop := ∃ bo, e = .returned (.bool bo)

set_option maxHeartbeats 1000000 in
theorem bytes1_any (ao : Option Addr) (b off cap : Nat) (l : List Src) (w : World) (hlen : l.length ≤ maxLen) (h : Came w ao b off l) :
    Calls Try.prog 5 #[.slice ao l.length cap] w fun e w' => isB e ∧ w' = w := by
  unfold maxLen at hlen
  have HC : Hid (Came w ao b off l) := h
  clear h
  by_cases g1 : (1048576 : Int) < l.length
  · go_enter Try.func5, Try.ntmps5
    go_wp2
    go_ret
    exact ⟨⟨_, rfl⟩, rfl⟩
  go_enter Try.func5, Try.ntmps5
  go_wp2
  go_loop [3, 4] (fun tv iv => ∃ (k : Nat) (t : Int), k ≤ l.length ∧ iv = .int .i64 k ∧ tv = .int .i64 t) (fun _ iv => l.length - (intOf iv).toNat)
  case atStart => exact ⟨0, _, Nat.zero_le _, rfl, rfl⟩
  case round =>
    obtain ⟨k, t, hk, rfl, rfl⟩ := hrel
    by_cases hlt : k < l.length
    · obtain ⟨x, hx⟩ : ∃ x, l[k]? = some x := ⟨l[k], List.getElem?_eq_getElem hlt⟩
      have hne : l ≠ [] := fun e => by subst e; simp at hlt
      have hao := HC.out.at_ hne
      subst hao
      have d0 := HC.out.c0 k x hx
      have d1 := HC.out.c1 k x hx
      have i0 : (0 : Int) ≤ (k : Int) := by omega
      have i1 : (k : Int) < (l.length : Int) := by omega
      clear hx hne
      go_wp2
      all_goals first
        | (go_ret; exact ⟨⟨_, rfl⟩, rfl⟩)
        | (go_round
           case rel => exact ⟨k + 1, _, by omega, by go_num, rfl⟩
           case measure => simp [intOf]; omega)
    · go_wp2
      go_ret
      exact ⟨⟨_, rfl⟩, rfl⟩

set_option maxHeartbeats 1000000 in
theorem bytes2_any (ao : Option Addr) (b off cap : Nat) (l : List Src) (cut : Int) (w : World) (hlen : l.length ≤ maxLen) (h : Came w ao b off l) :
    Calls Try.prog 10 #[.slice ao l.length cap, .int .i64 cut] w fun e w' => isB e ∧ w' = w := by
  unfold maxLen at hlen
  have HC : Hid (Came w ao b off l) := h
  clear h
  by_cases g1 : (1048576 : Int) < l.length
  · go_enter Try.func10, Try.ntmps10
    go_wp2
    go_ret
    exact ⟨⟨_, rfl⟩, rfl⟩
  go_enter Try.func10, Try.ntmps10
  go_wp2
  go_loop [5, 6] (fun tv iv => ∃ (k : Nat) (t : Int), k ≤ l.length ∧ iv = .int .i64 k ∧ tv = .int .i64 t) (fun _ iv => l.length - (intOf iv).toNat)
  case atStart => exact ⟨0, _, Nat.zero_le _, rfl, rfl⟩
  case round =>
    obtain ⟨k, t, hk, rfl, rfl⟩ := hrel
    by_cases hlt : k < l.length
    · obtain ⟨x, hx⟩ : ∃ x, l[k]? = some x := ⟨l[k], List.getElem?_eq_getElem hlt⟩
      have hne : l ≠ [] := fun e => by subst e; simp at hlt
      have hao := HC.out.at_ hne
      subst hao
      have d0 := HC.out.c0 k x hx
      have d1 := HC.out.c1 k x hx
      have i0 : (0 : Int) ≤ (k : Int) := by omega
      have i1 : (k : Int) < (l.length : Int) := by omega
      clear hx hne
      go_wp2
      all_goals first
        | (go_ret; exact ⟨⟨_, rfl⟩, rfl⟩)
        | (go_round
           case rel => exact ⟨k + 1, _, by omega, by go_num, rfl⟩
           case measure => simp [intOf]; omega)
    · go_wp2
      go_ret
      exact ⟨⟨_, rfl⟩, rfl⟩
end Go.Proofs.Qxb6618653a
