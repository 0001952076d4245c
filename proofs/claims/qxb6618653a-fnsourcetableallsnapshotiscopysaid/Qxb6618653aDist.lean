import Derived.Test.Qxb6618653aLawB
/-! zzDistinctSources: the first retrievals. -/
namespace Go.Proofs.Qxb6618653a
open Go.RowKit

set_option maxHeartbeats 2000000 in
theorem distinct_any (ao : Option Addr) (b off cap : Nat) (l : List Src) (u : Nat) (w : World) (hlen : l.length ≤ 4096) (hu : u ≤ l.length) (h : Came w ao b off l) :
    Calls Try.prog 11 #[.slice ao l.length cap, .int .i64 u] w fun e w' => ∃ v, e = .returned v ∧ w'.ownsRow w.heap.size 25 2 v (firsts (l.take u)).length (flat (firsts (l.take u))) ∧ Below w.heap.size w w' := by
  have HC : Hid (Came w ao b off l) := h
  clear h
  go_enter Try.func11, Try.ntmps11
  go_wp2
  go_loopw [5, 6] (fun sv iv wr => ∃ (k : Nat), k ≤ u ∧ iv = .int .i64 k ∧ wr.ownsRow w.heap.size 25 2 sv (firsts (l.take k)).length (flat (firsts (l.take k))) ∧ Below w.heap.size w wr) (fun _ iv _ => u - (intOf iv).toNat)
  case atStart => exact ⟨0, Nat.zero_le _, rfl, World.ownsRow_nil _ _ _ _, Below.refl _ _⟩
  case round =>
    obtain ⟨k, hk, rfl, hO, hBl⟩ := hrel
    have HO : Hid (wr.ownsRow w.heap.size 25 2 u5 (firsts (l.take k)).length (flat (firsts (l.take k)))) := hO
    have HBl : Hid (Below w.heap.size w wr) := hBl
    clear hO hBl
    by_cases hlt : k < u
    · obtain ⟨x, hx⟩ : ∃ x, l[k]? = some x := ⟨l[k], List.getElem?_eq_getElem (by omega)⟩
      have hne : l ≠ [] := fun e => by subst e; simp at hu; omega
      have hao := HC.out.at_ hne
      have hbB : b < w.heap.size := HC.out.lt hne
      subst hao
      have d0 : wr.cell? ⟨b, off + k * 2, none⟩ = some (.string x.1) := (HBl.out.cell (p := ⟨b, off + k * 2, none⟩) hbB).trans (HC.out.c0 k x hx)
      have d1 : wr.cell? ⟨b, off + k * 2 + 1, none⟩ = some (.string x.2) := (HBl.out.cell (p := ⟨b, off + k * 2 + 1, none⟩) hbB).trans (HC.out.c1 k x hx)
      have i0 : (0 : Int) ≤ (k : Int) := by omega
      have i1 : (k : Int) < (l.length : Int) := by omega
      have i2 : (k : Int) < (u : Int) := by omega
      have HX : Hid (firsts (l.take (k + 1)) = step (firsts (l.take k)) x) := firsts_next l k x hx
      have hLl := firsts_take_len l k (by omega)
      generalize hL : firsts (l.take k) = L at *
      generalize hB : w.heap.size = B at *
      have hBw : B ≤ wr.heap.size := by have := HBl.out.size; omega
      clear hL hx hne
      go_wp2_with fail
      refine (index_any B u5 L x _ (by omega) HO.out).mono ?_
      rintro e w4 ⟨rfl, hb4⟩
      have HO4 : Hid (w4.ownsRow B 25 2 u5 L.length (flat L)) := row_grew HO.out hb4
      have HB4 : Hid (Below B w w4) := HBl.out.trans (hb4.mono hBw)
      have hu4 : B ≤ w4.heap.size := Nat.le_trans hBw hb4.size
      have e0' := keeps hb4 d0
      have e1' := keeps hb4 d1
      clear hb4 d0 d1
      cases hj : idx L x with
      | some j =>
        have hjl := idx_lt L x j hj
        rw [idxI_some hj]
        have HJ : Hid (idx L x = some j) := hj
        clear hj
        have n0 : ¬ ((j : Int) < 0) := by omega
        go_wp2
        go_roundw
        case rel =>
          refine ⟨k + 1, by omega, by go_num, ?_, HB4.out⟩
          rw [HX.out, step_some HJ.out]; exact HO4.out
        case measure => simp [intOf]; omega
      | none =>
        rw [idxI_none hj]
        have HJ : Hid (idx L x = none) := hj
        clear hj
        obtain ⟨ii, hi, hz0, hz1, hz2⟩ := info_parts Try.info25
        have HO5 : Hid ((w4.alloc (.cells #[.string x.1, .string x.2] 25)).ownsRow B 25 2 u5 L.length (flat L)) := HO4.out.alloc _
        go_wp2_with (at_builtin; refine wpList_append_lies _ (by rfl) (.tmp 19) (.tmp 24) 22 (by rfl) B 25 ii (.agg #[.string ⟨#[]⟩, .string ⟨#[]⟩]) 2 32 Try.underlying22 hi hz0 hz1 hz2 rfl (by decide) u5 L.length (flat L) (by rfl) HO5.out ⟨w4.heap.size, 0, none⟩ 1 1 [.string x.1, .string x.2] (by rfl) (by rfl) (by exact World.news_of_block (heap_alloc_new w4 _)) (by intro u hu; simp at hu; rcases hu with rfl | rfl <;> rfl) (by decide) (by unfold maxLen; omega) (by omega) (by simp; omega) _ rfl ?_; intro g cap' w5 hown5 hgrow5 hat5 hlt5)
        have HB5 : Hid (Below B w w5) := (HB4.out.alloc hu4 _).grown hgrow5 (by simp; omega) (fun k hk => (HO5.out.lt k hk).1)
        have HO6 : Hid (w5.ownsRow B 25 2 (.slice (some ⟨g, 0, none⟩) (L.length + 1) cap') (L.length + 1) (flat L ++ [.string x.1, .string x.2])) := hown5
        clear hown5 hgrow5 hat5 hlt5
        go_wp2
        go_roundw
        case rel =>
          refine ⟨k + 1, by omega, by go_num, ?_, HB5.out⟩
          rw [HX.out, step_none HJ.out, flat_snoc]; simpa using HO6.out
        case measure => simp [intOf]; omega
    · have ek : k = u := by omega
      subst ek
      go_wp2
      go_ret
      exact ⟨_, rfl, HO.out, HBl.out⟩
end Go.Proofs.Qxb6618653a
