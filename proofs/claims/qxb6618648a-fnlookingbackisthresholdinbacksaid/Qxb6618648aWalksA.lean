import Derived.Test.Qxb6618648aRows
import Derived.WalkKit
import Derived.WalkSpells
import Derived.BigQuiet
import Derived.Deep.QuietTactic
import Derived.RowKit3
import Derived.WideMake
namespace Go.Proofs.Qxb6618648a
open Go.RowKit

theorem grown_drewN {W w' : World} (h : Grown W w') (n : Nat) : Grown W (w'.drewN n) := h

theorem frozen_alloc_map (w : World) (es : Array MapEntry) (c : Nat) (a : Addr) : (w.alloc (.map es c)).frozen? a = w.frozen? a := by
  by_cases h : a.block = w.heap.size
  · have e1 : (w.alloc (.map es c)).heap[a.block]? = some (.map es c) := by rw [h]; exact (MapKept.heap_alloc w _).1
    have e2 : w.heap[a.block]? = none := by rw [h]; simp
    simp [World.frozen?, e1, e2]
  · exact World.frozen?_alloc_old _ _ _ h

theorem grown_map {W w' : World} (h : Grown W w') (es : Array MapEntry) (c : Nat) : Grown W (w'.alloc (.map es c)) :=
  ⟨World.keptBut_trans h.1 (World.keptBut_alloc _ _ _), fun a => (frozen_alloc_map _ _ _ a).trans (h.2.1 a), Nat.le_trans h.2.2 (by show w'.heap.size ≤ (w'.heap.push _).size; simp)⟩

theorem grown_trans {A B C : World} (h : Grown A B) (k : Grown B C) : Grown A C :=
  ⟨World.keptBut_trans h.1 k.1, fun a => (k.2.1 a).trans (h.2.1 a), Nat.le_trans h.2.2 k.2.2⟩

/-- lookingBack reads the two fields. -/
theorem looking_any (b : Nat) (x y : Int) (w : World) (h1 : w.cell? ⟨b, 1, none⟩ = some (.int .i64 x)) (h2 : w.cell? ⟨b, 2, none⟩ = some (.int .i64 y)) :
    Calls Try.prog 23 #[.pointer (some ⟨b, 0, none⟩)] w fun e w' => e = .returned (.bool (decide (x < y))) ∧ ∃ n, w' = w.drewN n := by
  go_enter Try.func23, Try.ntmps23
  go_wp2
  go_quiet (fail)
  go_wp2
  go_ret
  exact ⟨rfl, _, rfl⟩

theorem zzlooking_any (b : Nat) (x y : Int) (w : World) (h1 : w.cell? ⟨b, 1, none⟩ = some (.int .i64 x)) (h2 : w.cell? ⟨b, 2, none⟩ = some (.int .i64 y)) :
    Calls Try.prog 11 #[.pointer (some ⟨b, 0, none⟩)] w fun e w' => e = .returned (.bool (decide (x < y))) ∧ ∃ n, w' = w.drewN n := by
  go_enter Try.func11, Try.ntmps11
  go_wp2_with fail
  refine (looking_any b x y _ h1 h2).mono ?_
  rintro e w' ⟨rfl, n, rfl⟩
  go_wp2_with fail
  go_ret
  exact ⟨rfl, _, rfl⟩

theorem newPlace_any (a0 a1 a2 a3 a4 : Int) (a5 : Bool) (a6 : Int) (w : World) :
    Calls Try.prog 9 #[.int .i64 a0, .int .i64 a1, .int .i64 a2, .int .i64 a3, .int .i64 a4, .bool a5, .int .i64 a6] w fun e w' =>
      ∃ b : Nat, e = .returned (.pointer (some ⟨b, 0, none⟩)) ∧ w'.cell? ⟨b, 1, none⟩ = some (.int .i64 a1) ∧ w'.cell? ⟨b, 2, none⟩ = some (.int .i64 a2) ∧ Grown w w' := by
  have m1 : ∀ w : World, (Instr.makeMap 43 none).run Try.prog w = .ok (.map (some w.heap.size)) (w.alloc (.map #[] 0)) := fun w => run_makeMap_plain w 43
  have m2 : ∀ w : World, (Instr.makeMap 44 none).run Try.prog w = .ok (.map (some w.heap.size)) (w.alloc (.map #[] 0)) := fun w => run_makeMap_plain w 44
  go_enter Try.func9, Try.ntmps9
  go_wp2
  go_ret
  exact ⟨_, rfl, by simp [go_sem], by simp [go_sem], (grown_map (grown_map (Grown.refl _) _ _) _ _).alloc _ _⟩

theorem lookingOf_any (a0 a1 a2 a3 a4 : Int) (a5 : Bool) (a6 : Int) (w : World) :
    Calls Try.prog 8 #[.int .i64 a0, .int .i64 a1, .int .i64 a2, .int .i64 a3, .int .i64 a4, .bool a5, .int .i64 a6] w fun e w' =>
      e = .returned (.bool (decide (a1 < a2))) ∧ Grown w w' := by
  go_enter Try.func8, Try.ntmps8
  go_wp2_with fail
  refine (newPlace_any a0 a1 a2 a3 a4 a5 a6 _).mono ?_
  rintro e w' ⟨b, rfl, h1, h2, hg⟩
  go_wp2_with fail
  refine (zzlooking_any b a1 a2 _ h1 h2).mono ?_
  rintro e w' ⟨rfl, n, rfl⟩
  go_wp2_with fail
  go_ret
  exact ⟨rfl, grown_drewN hg n⟩
end Go.Proofs.Qxb6618648a
