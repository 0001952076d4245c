import Derived.Test.Qxb6618653aShort
/-! What a store into the snapshot leaves of the table. -/
namespace Go.Proofs.Qxb6618653a
open Go.RowKit

theorem Holds.blocks {w0 w w' : World} {B tb : Nat} {L : List Src} {lv mv : Value} (h0 : Holds w0 B tb L lv mv) (h : Holds w B tb L lv mv) (hsz : w.heap.size ≤ w'.heap.size)
    (e : ∀ k, k < w0.heap.size → w'.heap[k]? = w.heap[k]?) : Holds w' B tb L lv mv := by
  refine ⟨Nat.le_trans h.low hsz, h.tab.block (e tb h0.tab.lt), ⟨h.row.1, ?_⟩, ?_, h.bare⟩
  · rcases h.row.2 with hn | ⟨g, cap, cur, h1, h2, h3, rest⟩
    · exact Or.inl hn
    · refine Or.inr ⟨g, cap, cur, h1, h2, ?_, rest⟩
      rw [e g ?_]
      · exact h3
      · exact (h0.row.lt g (by rw [h1]; rfl)).2
  · rcases h.map with hn | ⟨mb, es, c, h1, h2, h3, h4⟩
    · exact Or.inl hn
    · refine Or.inr ⟨mb, es, c, h1, h2, ?_, h4⟩
      rw [e mb ?_]
      · exact h3
      · rcases h0.map with ⟨hn, _⟩ | ⟨mb', es', c', k1, _, k3, _⟩
        · rw [hn] at h1; cases h1
        · rw [k1] at h1
          cases h1
          exact (Array.getElem?_eq_some_iff.1 k3).1

theorem Holds.mark {w0 w : World} {B tb g : Nat} {L : List Src} {lv mv : Value} (h0 : Holds w0 B tb L lv mv) (h : Holds w B tb L lv mv) (hg : w0.heap.size ≤ g) (p q : Nat) (x y : Value) :
    Holds ((w.setCell ⟨g, p, none⟩ x).setCell ⟨g, q, none⟩ y) B tb L lv mv := by
  refine h0.blocks h (by simp) fun k hk => ?_
  rw [heap_set_other _ _ _ k (by show k ≠ g; omega), heap_set_other _ _ _ k (by show k ≠ g; omega)]

theorem row_blocks {w w' : World} {base n : Nat} {T : TypeId} {v : Value} {xs : List Value} (h : w.ownsRow base T 2 v n xs) (e : ∀ k, base ≤ k → k < w.heap.size → w'.heap[k]? = w.heap[k]?) : w'.ownsRow base T 2 v n xs := by
  refine ⟨h.1, ?_⟩
  rcases h.2 with hn | ⟨g, cap, cur, h1, h2, h3, rest⟩
  · exact Or.inl hn
  · exact Or.inr ⟨g, cap, cur, h1, h2, (e g h2 (Array.getElem?_eq_some_iff.1 h3).1).trans h3, rest⟩

theorem row_frozen {w : World} {base n g m c : Nat} {T : TypeId} {xs : List Value} (h : w.ownsRow base T 2 (.slice (some ⟨g, 0, none⟩) m c) n xs) (o : Nat) : w.frozen? ⟨g, o, none⟩ = false := by
  rcases h.2 with ⟨hn, _⟩ | ⟨g', cap, cur, h1, h2, h3, rest⟩
  · cases hn
  · cases h1
    simp [World.frozen?, h3]

theorem foldl_mem (P : Src → Prop) (l : List Src) : ∀ L : List Src, (∀ x ∈ L, P x) → (∀ x ∈ l, P x) → ∀ x ∈ l.foldl step L, P x := by
  induction l with
  | nil => intro L hL _ x hx; exact hL x hx
  | cons a l ih =>
    intro L hL hl x hx
    refine ih (step L a) (fun y hy => ?_) (fun y hy => hl y (List.mem_cons_of_mem _ hy)) x hx
    unfold step at hy
    cases hj : idx L a with
    | some j => rw [hj] at hy; exact hL y hy
    | none =>
      rw [hj] at hy
      rcases List.mem_append.1 hy with h' | h'
      · exact hL y h'
      · have : y = a := by simpa using h'
        subst this
        exact hl y List.mem_cons_self

theorem firsts_short {l : List Src} (h : shortTo l l.length) (u : Nat) {i : Nat} {x : Src} (hx : (firsts (l.take u))[i]? = some x) : x.1.size ≤ 1048576 ∧ x.2.size ≤ 1048576 := by
  refine foldl_mem (fun x => x.1.size ≤ 1048576 ∧ x.2.size ≤ 1048576) (l.take u) [] (by simp) (fun y hy => ?_) x (List.mem_of_getElem? hx)
  obtain ⟨i, hi⟩ := List.getElem?_of_mem (List.mem_of_mem_take hy)
  exact h i y (List.getElem?_eq_some_iff.1 hi).1 hi
end Go.Proofs.Qxb6618653a
