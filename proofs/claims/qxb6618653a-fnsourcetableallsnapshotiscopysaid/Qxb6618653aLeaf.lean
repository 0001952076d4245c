import Derived.Test.Qxb6618653aPlain
import Derived.Test.Qxb6618653aLocks
import Derived.BigQuiet
import Derived.Deep.QuietTactic
import Derived.Deep.RegionHeld3
import Derived.Deep.DrawnRows
import Derived.RowKit3
import Derived.Laws.EntriesVeiled
/-! The small functions: the same source, its identity, a fresh table. -/
namespace Go.Proofs.Qxb6618653a
open Go.RowKit

theorem same_any (x y : Src) (w : World) :
    Calls Try.prog 14 #[.agg #[.string x.1, .string x.2], .agg #[.string y.1, .string y.2]] w fun e w' => e = .returned (.bool (sameB x y)) ∧ Below w.heap.size w w' := by
  have hB : ∀ c1 c2 : Array Value, Below w.heap.size w ((w.alloc (.cells c1 25)).alloc (.cells c2 25)) := fun c1 c2 => ((Below.refl _ _).alloc (Nat.le_refl _) _).alloc (by simp) _
  by_cases h1 : x.2.toList = []
  · have b1 : x.2.toList.isEmpty = true := by simp [h1]
    by_cases h2 : y.2.toList = []
    · have b2 : y.2.toList.isEmpty = true := by simp [h2]
      have e : sameB x y = (x.1.toList == y.1.toList) := by unfold sameB; simp [h1, h2]
      rw [e]
      clear e
      go_enter Try.func14, Try.ntmps14
      go_wp2
      go_ret
      exact ⟨rfl, hB _ _⟩
    · have b2 : y.2.toList.isEmpty = false := by simp [h2]
      have e : sameB x y = (x.2.toList == y.2.toList) := by unfold sameB; simp [h2]
      rw [e]
      clear e
      go_enter Try.func14, Try.ntmps14
      go_wp2
      go_ret
      exact ⟨by simp [h1, b2], hB _ _⟩
  · have b1 : x.2.toList.isEmpty = false := by simp [h1]
    have e : sameB x y = (x.2.toList == y.2.toList) := by unfold sameB; simp [h1]
    rw [e]
    clear e
    go_enter Try.func14, Try.ntmps14
    go_wp2
    go_ret
    exact ⟨rfl, hB _ _⟩

theorem ident_any (x : Src) (w : World) :
    Calls Try.prog 18 #[.agg #[.string x.1, .string x.2]] w fun e w' => e = .returned (kv (ident x)) ∧ Below w.heap.size w w' := by
  have hB : ∀ c1 c2 : Array Value, Below w.heap.size w ((w.alloc (.cells c1 32)).alloc (.cells c2 32)) := fun c1 c2 => ((Below.refl _ _).alloc (Nat.le_refl _) _).alloc (by simp) _
  unfold kv ident
  by_cases h1 : x.2.toList = []
  · have b1 : x.2.toList.isEmpty = true := by simp [h1]
    rw [b1, if_pos rfl]
    go_enter Try.func18, Try.ntmps18
    go_wp2
    exact bodyPost_ret (v := .agg #[.string x.1, .string x.2]) (by simp [results, Try.results18, go_sem]) rfl ⟨rfl, hB _ _⟩
  · have b1 : x.2.toList.isEmpty = false := by simp [h1]
    rw [b1, if_neg (by simp)]
    go_enter Try.func18, Try.ntmps18
    go_wp2
    exact bodyPost_ret (v := .agg #[.string ⟨#[]⟩, .string x.2]) (by simp [results, Try.results18, go_sem]) rfl ⟨rfl, hB _ _⟩

theorem new_any (w : World) :
    Calls Try.prog 6 #[] w fun e w' => e = .returned (.pointer (some ⟨w.heap.size, 0, none⟩)) ∧
      w' = w.alloc (.cells #[.func (.func 12) #[] #[], .int .i32 0, .int .u32 0, .slice none 0 0, .map none] 47) := by
  go_enter Try.func6, Try.ntmps6
  go_wp2
  go_ret
  exact ⟨rfl, rfl⟩
end Go.Proofs.Qxb6618653a
