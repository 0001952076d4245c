import Derived.Test.Qxb6618653aLawB
import Derived.WalkKit
import Derived.ProofKit
import Derived.OpenShut
import Derived.Deep.SlicePairs
import Derived.ChangeArms
import Derived.Carry
/-! The sources, opened. -/
namespace Go.Proofs.Qxb6618653a
open Go.ChangeShapes Go.WideShapes Go.ChangeAt Go.RowKit Go.Deep

theorem Try.cells25 : Try.prog.cellsOf 25 = 2 := by kernel_rfl
theorem Try.cells9 : Try.prog.cellsOf 9 = 1 := by kernel_rfl
theorem laid : laidOutB Try.prog = true := by kernel_rfl

theorem lt_of_cell {w : World} {a : Addr} {v : Value} (h : w.cell? a = some v) : a.block < w.heap.size := by
  rcases Nat.lt_or_ge a.block w.heap.size with h' | h'
  · exact h'
  · simp [World.cell?, Array.getElem?_eq_none h'] at h

theorem opened {H : Type} {enc : TypeId × Value → H} {w : World} {spare : Nat → Bool} {held : Bool} {fuel : Nat} {ao : Option Addr} {len cap : Nat} {x : DataW H × List MemPlace}
    (h : DataW.trod enc Try.prog w 0 spare held fuel 22 [.slice ao len cap] = some x) :
    ∃ (b off : Nat) (l : List Src), l.length = len ∧ l.length ≤ maxLen ∧ Came w ao b off l := by
  rcases open_slice_pairs Try.underlying22 Try.underlying25 Try.cells25 rfl rfl Try.cells9 Try.cells9 h with ⟨hcs, _⟩ | ⟨a, len', cap', m, n, V0, V1, D0, D1, P0, P1, hcs, _, hl, hm, hmm, _, hx⟩
  · simp at hcs
    obtain ⟨rfl, rfl, rfl⟩ := hcs
    exact ⟨0, 0, [], rfl, Nat.zero_le _, ⟨fun h => absurd rfl h, fun h => absurd rfl h, fun i x h => by simp at h, fun i x h => by simp at h⟩⟩
  · simp at hcs
    obtain ⟨rfl, rfl, rfl⟩ := hcs
    have hlm : len ≤ m := by rw [hmm]; split <;> omega
    have hs : ∀ i, i < len → ∃ q : Src, V0 i = .string q.1 ∧ V1 i = .string q.2 := by
      intro i hi
      obtain ⟨_, _, h0, h1⟩ := hx i (by omega)
      obtain ⟨s0, g0, _⟩ := DataW.trod_string Try.underlying9 h0
      obtain ⟨s1, g1, _⟩ := DataW.trod_string Try.underlying9 h1
      simp at g0 g1
      exact ⟨(s0, s1), g0, g1⟩
    obtain ⟨q, hq⟩ := choose_lt hs
    obtain ⟨b, off, sp⟩ := a
    have hsp : 0 < len → sp = none := by
      intro h
      have := World.cell?_spot (hx 0 (by omega)).1
      cases sp with
      | none => rfl
      | some _ => simp [Addr.add] at this
    have hne : (List.range len).map q ≠ [] → 0 < len := by
      intro h
      rcases Nat.eq_zero_or_pos len with rfl | h'
      · exact absurd rfl h
      · exact h'
    have hat : ∀ (i : Nat) (y : Src), ((List.range len).map q)[i]? = some y → i < len ∧ y = q i := by
      intro i y hy
      obtain ⟨hi, e⟩ := List.getElem?_eq_some_iff.1 hy
      simp at hi e
      exact ⟨hi, e.symm⟩
    refine ⟨b, off, (List.range len).map q, by simp, by simp; omega, ?_, ?_, ?_, ?_⟩
    · intro h
      rw [hsp (hne h)]
    · intro h
      exact lt_of_cell (hx 0 (by have := hne h; omega)).1
    · intro i y hy
      obtain ⟨hi, rfl⟩ := hat i y hy
      have := (hx i (by omega)).1
      rw [hsp (by omega), add_plain, (hq i hi).1] at this
      exact this
    · intro i y hy
      obtain ⟨hi, rfl⟩ := hat i y hy
      have := (hx i (by omega)).2.1
      rw [hsp (by omega), add_plain, (hq i hi).2] at this
      simpa [Nat.add_assoc] using this
end Go.Proofs.Qxb6618653a
