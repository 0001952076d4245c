import Derived.Test.Qxb6618653aLeaf
import Derived.Handy
/-! zzSourceIndex over a row of the call's own. -/
namespace Go.Proofs.Qxb6618653a
open Go.RowKit

theorem bcell {W w1 : World} (hb : Below W.heap.size W w1) : (∀ b o, b < W.heap.size → w1.cell? ⟨b, o, none⟩ = W.cell? ⟨b, o, none⟩) ∧ (∀ b o, b < W.heap.size → w1.frozen? ⟨b, o, none⟩ = W.frozen? ⟨b, o, none⟩) :=
  ⟨fun b o h => hb.cell (p := ⟨b, o, none⟩) h, fun b o h => hb.frozen (p := ⟨b, o, none⟩) h⟩

/-- What stood before a call that only makes memory stands behind it. -/
theorem keeps {W w' : World} (hb : Below W.heap.size W w') {p : Addr} {v : Value} (h : W.cell? p = some v) : w'.cell? p = some v := (hb.cell (World.block_lt_of_cell? _ _ h)).trans h
theorem keepsB {n : Nat} {A W w' : World} (hb : Below W.heap.size W w') (hn : n ≤ A.heap.size) (h : Below n A W) : Below n A w' := h.trans (hb.mono (Nat.le_trans hn h.size))
theorem keep4 {n : Nat} {A W w' : World} {p0 p1 p2 p3 : Addr} {v0 v1 v2 v3 : Value} (h : W.cell? p0 = some v0 ∧ W.cell? p1 = some v1 ∧ W.cell? p2 = some v2 ∧ W.cell? p3 = some v3 ∧ Below n A W) (hb : Below W.heap.size W w') (hn : n ≤ A.heap.size) :
    w'.cell? p0 = some v0 ∧ w'.cell? p1 = some v1 ∧ w'.cell? p2 = some v2 ∧ w'.cell? p3 = some v3 ∧ Below n A w' :=
  ⟨keeps hb h.1, keeps hb h.2.1, keeps hb h.2.2.1, keeps hb h.2.2.2.1, keepsB hb hn h.2.2.2.2⟩

set_option maxHeartbeats 400000 in
theorem index_row (g cap : Nat) (L : List Src) (s : Src) (w : World) (hg : g < w.heap.size) (hlen : L.length ≤ 4096)
    (hc0 : ∀ j x, L[j]? = some x → w.cell? ⟨g, j * 2, none⟩ = some (.string x.1)) (hc1 : ∀ j x, L[j]? = some x → w.cell? ⟨g, j * 2 + 1, none⟩ = some (.string x.2)) :
    Calls Try.prog 8 #[.slice (some ⟨g, 0, none⟩) L.length cap, .agg #[.string s.1, .string s.2]] w fun e w' => e = .returned (.int .i64 (idxI L s)) ∧ Below w.heap.size w w' := by
  go_enter Try.func8, Try.ntmps8
  go_wp2
  go_loopw [5] (fun i wr => ∃ k : Nat, k ≤ L.length ∧ i = .int .i64 k ∧ (∀ j, j < k → ∀ x, L[j]? = some x → sameB x s = false) ∧ Below (w.heap.size + 1) (w.alloc (.cells #[.string s.1, .string s.2] 25)) wr) (fun i _ => L.length - (intOf i).toNat)
  case atStart => exact ⟨0, Nat.zero_le _, rfl, fun j hj => by omega, Below.refl _ _⟩
  case round =>
    obtain ⟨k, hk, rfl, hno, hb⟩ := hrel
    have HN : Hid (∀ j, j < k → ∀ x, L[j]? = some x → sameB x s = false) := hno
    clear hno
    by_cases hlt : k < L.length
    · obtain ⟨x, hx⟩ : ∃ x, L[k]? = some x := ⟨L[k], List.getElem?_eq_getElem hlt⟩
      have HX : Hid (L[k]? = some x) := hx
      have d0 : wr.cell? ⟨g, k * 2, none⟩ = some (.string x.1) := (hb.cell (p := ⟨g, k * 2, none⟩) (by show g < _; omega)).trans ((World.cell?_alloc_past _ _ _ hg).trans (hc0 k x hx))
      have d1 : wr.cell? ⟨g, k * 2 + 1, none⟩ = some (.string x.2) := (hb.cell (p := ⟨g, k * 2 + 1, none⟩) (by show g < _; omega)).trans ((World.cell?_alloc_past _ _ _ hg).trans (hc1 k x hx))
      have s0 : wr.cell? ⟨w.heap.size, 0, none⟩ = some (.string s.1) := (hb.cell (p := ⟨w.heap.size, 0, none⟩) (by show w.heap.size < _; omega)).trans (by simp [go_sem])
      have s1 : wr.cell? ⟨w.heap.size, 1, none⟩ = some (.string s.2) := (hb.cell (p := ⟨w.heap.size, 1, none⟩) (by show w.heap.size < _; omega)).trans (by simp [go_sem])
      have i0 : (0 : Int) ≤ (k : Int) := by omega
      have i1 : (k : Int) < (L.length : Int) := by omega
      have hsz : w.heap.size + 1 ≤ wr.heap.size := by have := hb.size; simpa using this
      have hgs : g < wr.heap.size := by omega
      have hws : w.heap.size < wr.heap.size := by omega
      clear hx hc0 hc1
      have hsame0 : sameB x s = true ∨ sameB x s = false := by cases sameB x s <;> simp
      rcases hsame0 with hsame | hsame
      · go_wp2
        go_region_held3 (fun w' => w'.cell? ⟨g, k * 2, none⟩ = some (.string x.1) ∧ w'.cell? ⟨g, k * 2 + 1, none⟩ = some (.string x.2) ∧ w'.cell? ⟨w.heap.size, 0, none⟩ = some (.string s.1) ∧ w'.cell? ⟨w.heap.size, 1, none⟩ = some (.string s.2) ∧ Below (w.heap.size + 1) (w.alloc (.cells #[.string s.1, .string s.2] 25)) w') (first | exact keep4 (by assumption) hb' (by simp) | exact ⟨d0, d1, s0, s1, hb.drew⟩)
          (first | (go_at_call 14; refine (same_any x s _).mono ?_; rintro e w' ⟨rfl, hb'⟩))
        obtain ⟨_, _, _, _, hbw⟩ := (by assumption : w'.cell? ⟨g, k * 2, none⟩ = some (.string x.1) ∧ _)
        go_wp2
        go_ret
        refine ⟨?_, ((Below.refl _ _).alloc (Nat.le_refl _) _).trans (hbw.mono (by omega))⟩
        have hm := idx_hit L s x k HX.out HN.out hsame
        unfold idxI
        rw [hm]
        rfl
      · go_wp2
        go_region_held3 (fun w' => w'.cell? ⟨g, k * 2, none⟩ = some (.string x.1) ∧ w'.cell? ⟨g, k * 2 + 1, none⟩ = some (.string x.2) ∧ w'.cell? ⟨w.heap.size, 0, none⟩ = some (.string s.1) ∧ w'.cell? ⟨w.heap.size, 1, none⟩ = some (.string s.2) ∧ Below (w.heap.size + 1) (w.alloc (.cells #[.string s.1, .string s.2] 25)) w') (first | exact keep4 (by assumption) hb' (by simp) | exact ⟨d0, d1, s0, s1, hb.drew⟩)
          (first | (go_at_call 14; refine (same_any x s _).mono ?_; rintro e w' ⟨rfl, hb'⟩))
        obtain ⟨_, _, _, _, hbw⟩ := (by assumption : w'.cell? ⟨g, k * 2, none⟩ = some (.string x.1) ∧ _)
        go_wp2
        go_roundw
        case rel =>
          refine ⟨k + 1, by omega, by go_num, fun j hj y hy => ?_, hbw⟩
          by_cases e : j = k
          · subst e
            rw [HX.out] at hy
            cases hy
            exact hsame
          · exact HN.out j (by omega) y hy
        case measure => simp [intOf]; omega
    · have he : L.length ≤ k := by omega
      go_wp2
      go_ret
      refine ⟨?_, ((Below.refl _ _).alloc (Nat.le_refl _) _).trans (hb.mono (by omega))⟩
      have hm := idx_miss L s (fun j hj => HN.out j (by omega))
      unfold idxI
      rw [hm]
      rfl

/-- The nil list. -/
theorem index_nil (s : Src) (w : World) :
    Calls Try.prog 8 #[.slice none 0 0, .agg #[.string s.1, .string s.2]] w fun e w' => e = .returned (.int .i64 (-1)) ∧ Below w.heap.size w w' := by
  go_enter Try.func8, Try.ntmps8
  go_wp2
  refine wp_loop_rounds 1 ?_
  rw [rounds_succ]
  go_wp2
  go_ret
  exact ⟨rfl, (Below.refl _ _).alloc (Nat.le_refl _) _⟩

theorem index_any (base : Nat) (v : Value) (L : List Src) (s : Src) (w : World) (hlen : L.length ≤ 4096) (hown : w.ownsRow base 25 2 v L.length (flat L)) :
    Calls Try.prog 8 #[v, .agg #[.string s.1, .string s.2]] w fun e w' => e = .returned (.int .i64 (idxI L s)) ∧ Below w.heap.size w w' := by
  rcases hown.2 with ⟨rfl, h0⟩ | ⟨g, cap, cur, rfl, hb, hg, _, _, _, _⟩
  · have e : L = [] := List.eq_nil_of_length_eq_zero h0
    subst e
    exact index_nil s w
  · refine index_row g cap L s w (Array.getElem?_eq_some_iff.1 hg).1 hlen (fun j x hx => ?_) (fun j x hx => ?_)
    · have hj : j < L.length := (List.getElem?_eq_some_iff.1 hx).1
      rw [hown.cellAt (j * 2) (by omega)]
      exact flat_fst L j x hx
    · have hj : j < L.length := (List.getElem?_eq_some_iff.1 hx).1
      rw [hown.cellAt (j * 2 + 1) (by omega)]
      exact flat_snd L j x hx
end Go.Proofs.Qxb6618653a
