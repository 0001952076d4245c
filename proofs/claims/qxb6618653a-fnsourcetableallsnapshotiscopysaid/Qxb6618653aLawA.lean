import Derived.Test.Qxb6618653aBytes
/-! What both laws share: a row of the laws' own sources, appended to; the sources that came in, carried along. -/
namespace Go.Proofs.Qxb6618653a
open Go.RowKit

theorem Try.info25 : (Try.prog.info? 25).map (fun i => (i.zero, i.size, i.bytes)) = some (some (.agg #[.string ⟨#[]⟩, .string ⟨#[]⟩]), 2, 32) := by kernel_rfl

/-- The table stands where a row of the laws' own sources is appended to. -/
theorem Holds.grown25 {w w' : World} {B tb n : Nat} {L : List Src} {lv mv sv : Value} {xs : List Value} (h : Holds w B tb L lv mv) (ho : w.ownsRow B 25 2 sv n xs) (hg : w.grownBy w' sv.ownBlock) : Holds w' B tb L lv mv := by
  have key : ∀ k, some k = sv.ownBlock → ∃ cur, w.heap[k]? = some (.cells cur 25 (0, 0)) := fun k e => by
    rcases ho.2 with ⟨rfl, _⟩ | ⟨g, cap, cur, rfl, _, h3, _⟩
    · cases e
    · have e' : k = g := Option.some.inj e
      subst e'
      exact ⟨cur, h3⟩
  refine ⟨Nat.le_trans h.low hg.size, h.tab.block (hg.block tb h.tab.lt (fun e => ?_)), ⟨h.row.1, ?_⟩, h.map.block fun k es c hk => hg.block k (Array.getElem?_eq_some_iff.1 hk).1 (fun e => ?_), h.bare⟩
  · obtain ⟨cur, hc⟩ := key tb e
    obtain ⟨arr, ha⟩ := h.tab.tag
    rw [ha] at hc
    simp at hc
  · rcases h.row.2 with hn | ⟨g, cap, cur, h1, h2, h3, rest⟩
    · exact Or.inl hn
    · refine Or.inr ⟨g, cap, cur, h1, h2, ?_, rest⟩
      rw [hg.block g (Array.getElem?_eq_some_iff.1 h3).1 (fun e => ?_)]
      · exact h3
      · obtain ⟨cur', hc⟩ := key g e
        rw [h3] at hc
        simp at hc
  · obtain ⟨cur, hc⟩ := key k e
    rw [hk] at hc
    cases hc

theorem take_snoc' (l : List Src) (k : Nat) (x : Src) (h : l[k]? = some x) : l.take (k + 1) = l.take k ++ [x] := by
  rw [List.take_add_one, h]
  rfl
theorem firsts_next (l : List Src) (k : Nat) (x : Src) (h : l[k]? = some x) : firsts (l.take (k + 1)) = step (firsts (l.take k)) x := by
  rw [take_snoc' l k x h, firsts_snoc]
theorem firsts_take_len (l : List Src) (k : Nat) (h : k ≤ l.length) : (firsts (l.take k)).length ≤ k := by
  have := firsts_len (l.take k)
  simp at this
  omega

/-- What came in stands in every world that keeps what lies below B. -/
theorem Came.below {w w' : World} {ao : Option Addr} {b off : Nat} {l : List Src} (h : Came w ao b off l) (hb : Below w.heap.size w w') : Came w' ao b off l :=
  ⟨h.at_, fun hne => Nat.lt_of_lt_of_le (h.lt hne) hb.size, fun i x hx => keeps hb (h.c0 i x hx), fun i x hx => keeps hb (h.c1 i x hx)⟩

theorem keep2 {B : Nat} {W w' : World} {p0 p1 : Addr} {v0 v1 : Value} (hk : Keep B W w') (h0 : p0.block < B) (h1 : p1.block < B) (h : W.cell? p0 = some v0 ∧ W.cell? p1 = some v1) : w'.cell? p0 = some v0 ∧ w'.cell? p1 = some v1 :=
  ⟨(hk.below.cell h0).trans h.1, (hk.below.cell h1).trans h.2⟩

/-- A row of the laws' own, one element more. -/
theorem step_none {L : List Src} {x : Src} (h : idx L x = none) : step L x = L ++ [x] := by unfold step; rw [h]
theorem step_some {L : List Src} {x : Src} {j : Nat} (h : idx L x = some j) : step L x = L := by unfold step; rw [h]
theorem num_none {L : List Src} {x : Src} (h : idx L x = none) : num L x = L.length + 1 := by unfold num; rw [h]
theorem num_some {L : List Src} {x : Src} {j : Nat} (h : idx L x = some j) : num L x = j + 1 := by unfold num; rw [h]
theorem idxI_none {L : List Src} {x : Src} (h : idx L x = none) : idxI L x = -1 := by unfold idxI; rw [h]
theorem idxI_some {L : List Src} {x : Src} {j : Nat} (h : idx L x = some j) : idxI L x = (j : Int) := by unfold idxI; rw [h]
end Go.Proofs.Qxb6618653a
