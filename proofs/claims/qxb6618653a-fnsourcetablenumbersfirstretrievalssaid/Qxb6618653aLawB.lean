import Derived.Test.Qxb6618653aLawA
/-! The first law's walk. -/
namespace Go.Proofs.Qxb6618653a
open Go.RowKit

set_option maxHeartbeats 4000000 in
theorem law1 (ao : Option Addr) (b off cap : Nat) (l : List Src) (w : World) (hlen : l.length ≤ maxLen) (h : Came w ao b off l) :
    Calls Try.prog 3 #[.slice ao l.length cap] w fun e w' => e = .returned (.bool true) ∧ Below w.heap.size w w' := by
  have HC : Hid (Came w ao b off l) := h
  have HL : Hid (l.length ≤ maxLen) := hlen
  unfold maxLen at hlen
  clear h
  go_enter Try.func3, Try.ntmps3
  go_wp2_with fail
  refine (bytes1_any ao b off cap l _ HL.out HC.out).mono ?_
  rintro e w' ⟨⟨bo, rfl⟩, rfl⟩
  cases bo
  · go_wp2
    go_ret
    exact ⟨rfl, Below.refl _ _⟩
  by_cases g1 : (4096 : Int) < l.length
  · go_wp2
    go_ret
    exact ⟨rfl, Below.refl _ _⟩
  have g2 : l.length ≤ 4096 := by omega
  go_wp2
  go_loopw [3, 4] (fun tv iv wr => ∃ (k n : Nat) (t : Int), k ≤ l.length ∧ iv = .int .i64 k ∧ tv = .int .i64 t ∧ wr = w'.drewN n) (fun _ iv _ => l.length - (intOf iv).toNat)
  case atStart => exact ⟨0, 0, _, Nat.zero_le _, rfl, rfl, rfl⟩
  case round =>
    obtain ⟨k, n, t, hk, rfl, rfl, rfl⟩ := hrel
    by_cases hlt : k < l.length
    · obtain ⟨x, hx⟩ : ∃ x, l[k]? = some x := ⟨l[k], List.getElem?_eq_getElem hlt⟩
      have hne : l ≠ [] := fun e => by subst e; simp at hlt
      have hao := HC.out.at_ hne
      subst hao
      have d0 := HC.out.c0 k x hx
      have d1 := HC.out.c1 k x hx
      have i0 : (0 : Int) ≤ (k : Int) := by omega
      have i1 : (k : Int) < (l.length : Int) := by omega
      clear hx hne
      go_wp2
      go_quiet (fail)
      go_wp2
      all_goals first
        | (go_ret; exact ⟨rfl, below_dN (Below.refl _ _) _⟩)
        | (go_roundw
           case rel => exact ⟨k + 1, _, _, by omega, by go_num, rfl, rfl⟩
           case measure => simp [intOf]; omega)
    · have HB0 : Hid (Below w'.heap.size w' (w'.drewN n)) := below_dN (Below.refl _ _) n
      have HS0 : Hid (w'.heap.size = (w'.drewN n).heap.size) := by show _ = _; simp
      generalize hwn : w'.drewN n = wn at *
      have HC2 : Hid (Came wn ao b off l) := HC.out.below HB0.out
      go_wp2_with fail
      refine (new_any _).mono ?_
      rintro e w1 ⟨rfl, rfl⟩
      have hh := holds_new wn
      have hb1 : Below wn.heap.size wn (wn.alloc (.cells #[.func (.func 12) #[] #[], .int .i32 0, .int .u32 0, .slice none 0 0, .map none] 47)) := (Below.refl _ _).alloc (Nat.le_refl _) _
      generalize hw2 : wn.alloc (.cells #[.func (.func 12) #[] #[], .int .i32 0, .int .u32 0, .slice none 0 0, .map none] 47) = w2 at *
      generalize hB : wn.heap.size = B at *
      have H0 : Hid (Holds w2 B B [] (.slice none 0 0) (.map none)) := hh
      have HB1 : Hid (Below B wn w2) := hb1
      clear hw2 hwn hh hb1
      go_wp2
      go_loopw [6, 7] (fun sv iv wr => ∃ (k : Nat) (lv mv : Value), k ≤ l.length ∧ iv = .int .i64 k ∧ Holds wr B B (firsts (l.take k)) lv mv ∧ wr.ownsRow B 25 2 sv (firsts (l.take k)).length (flat (firsts (l.take k))) ∧ Below B wn wr) (fun _ iv _ => l.length - (intOf iv).toNat)
      case atStart => exact ⟨0, _, _, Nat.zero_le _, rfl, H0.out, World.ownsRow_nil _ _ _ _, HB1.out⟩
      case round =>
        obtain ⟨k2, lv, mv, hk2, rfl, hH, hO, hBl⟩ := hrel
        have HO : Hid (wr.ownsRow B 25 2 u6 (firsts (l.take k2)).length (flat (firsts (l.take k2)))) := hO
        have HH : Hid (Holds wr B B (firsts (l.take k2)) lv mv) := hH
        have HBl : Hid (Below B wn wr) := hBl
        clear hO hH hBl
        by_cases hlt2 : k2 < l.length
        · obtain ⟨x, hx⟩ : ∃ x, l[k2]? = some x := ⟨l[k2], List.getElem?_eq_getElem hlt2⟩
          have hne : l ≠ [] := fun e => by subst e; simp at hlt2
          have hao := HC2.out.at_ hne
          have hbB : b < B := by have := HC2.out.lt hne; omega
          subst hao
          have d0 : wr.cell? ⟨b, off + k2 * 2, none⟩ = some (.string x.1) := (HBl.out.cell (p := ⟨b, off + k2 * 2, none⟩) hbB).trans (HC2.out.c0 k2 x hx)
          have d1 : wr.cell? ⟨b, off + k2 * 2 + 1, none⟩ = some (.string x.2) := (HBl.out.cell (p := ⟨b, off + k2 * 2 + 1, none⟩) hbB).trans (HC2.out.c1 k2 x hx)
          have i0 : (0 : Int) ≤ (k2 : Int) := by omega
          have i1 : (k2 : Int) < (l.length : Int) := by omega
          have HX : Hid (firsts (l.take (k2 + 1)) = step (firsts (l.take k2)) x) := firsts_next l k2 x hx
          have hLl := firsts_take_len l k2 hk2
          generalize hL : firsts (l.take k2) = L at *
          clear hL hx hne
          go_wp2
          go_region_held3 (fun w' => w'.cell? ⟨b, off + k2 * 2, none⟩ = some (.string x.1) ∧ w'.cell? ⟨b, off + k2 * 2 + 1, none⟩ = some (.string x.2)) (first | exact keep2 hkp hbB hbB (by assumption) | exact ⟨d0, d1⟩)
            (first | (go_at_call 7; refine (zznumber_any B B L lv mv x _ (by omega) (by exact HH.out.grew (Below.drew (Below.refl _ _)))).mono ?_; rintro e w3 ⟨rfl, hHn, hkp⟩))
          obtain ⟨e0, e1⟩ := (by assumption : w3.cell? ⟨b, off + k2 * 2, none⟩ = some (.string x.1) ∧ w3.cell? ⟨b, off + k2 * 2 + 1, none⟩ = some (.string x.2))
          obtain ⟨lv3, mv3, hH3⟩ := hHn
          have HH3 : Hid (Holds w3 B B (step L x) lv3 mv3) := hH3
          have HO3 : Hid (w3.ownsRow B 25 2 u6 L.length (flat L)) := hkp.row HO.out
          have HB3 : Hid (Below B wn w3) := (HBl.out.drew).trans hkp.below
          clear hH3 hkp d0 d1
          go_wp2_with fail
          refine (index_any B u6 L x _ (by omega) HO3.out).mono ?_
          rintro e w4 ⟨rfl, hb4⟩
          have HH4 : Hid (Holds w4 B B (step L x) lv3 mv3) := HH3.out.grew hb4
          have HO4 : Hid (w4.ownsRow B 25 2 u6 L.length (flat L)) := row_grew HO3.out hb4
          have HB4 : Hid (Below B wn w4) := HB3.out.trans (hb4.mono HH3.out.low)
          have e0' := keeps hb4 e0
          have e1' := keeps hb4 e1
          have hu4 := HH4.out.low
          clear hb4 e0 e1
          cases hj : idx L x with
          | some j =>
            have hjl := idx_lt L x j hj
            rw [idxI_some hj, num_some hj]
            have HJ : Hid (idx L x = some j) := hj
            clear hj
            go_wp2
            go_roundw
            case rel =>
              refine ⟨k2 + 1, lv3, mv3, by omega, by go_num, ?_, ?_, HB4.out⟩
              · rw [HX.out]; exact HH4.out
              · rw [HX.out, step_some HJ.out]; exact HO4.out
            case measure => simp [intOf]; omega
          | none =>
            rw [idxI_none hj, num_none hj]
            have HJ : Hid (idx L x = none) := hj
            clear hj
            obtain ⟨ii, hi, hz0, hz1, hz2⟩ := info_parts Try.info25
            have HO5 : Hid ((w4.alloc (.cells #[.string x.1, .string x.2] 25)).ownsRow B 25 2 u6 L.length (flat L)) := HO4.out.alloc _
            go_wp2_with (at_builtin; refine wpList_append_lies _ (by rfl) (.tmp 69) (.tmp 74) 22 (by rfl) B 25 ii (.agg #[.string ⟨#[]⟩, .string ⟨#[]⟩]) 2 32 Try.underlying22 hi hz0 hz1 hz2 rfl (by decide) u6 L.length (flat L) (by rfl) HO5.out ⟨w4.heap.size, 0, none⟩ 1 1 [.string x.1, .string x.2] (by rfl) (by rfl) (by exact World.news_of_block (heap_alloc_new w4 _)) (by intro u hu; simp at hu; rcases hu with rfl | rfl <;> rfl) (by decide) (by unfold maxLen; omega) (by omega) (by simp; omega) _ rfl ?_; intro g cap' w5 hown5 hgrow5 hat5 hlt5)
            have HH5 : Hid (Holds w5 B B (step L x) lv3 mv3) := (HH4.out.grew ((Below.refl _ _).alloc (Nat.le_refl _) _)).grown25 HO5.out hgrow5
            have HB5 : Hid (Below B wn w5) := (HB4.out.alloc hu4 _).grown hgrow5 (by simp; omega) (fun k hk => (HO5.out.lt k hk).1)
            have HO6 : Hid (w5.ownsRow B 25 2 (.slice (some ⟨g, 0, none⟩) (L.length + 1) cap') (L.length + 1) (flat L ++ [.string x.1, .string x.2])) := hown5
            clear hown5 hgrow5 hat5 hlt5
            go_wp2
            go_roundw
            case rel =>
              refine ⟨k2 + 1, lv3, mv3, by omega, by go_num, ?_, ?_, HB5.out⟩
              · rw [HX.out]; exact HH5.out
              · rw [HX.out, step_none HJ.out, flat_snoc]; simpa using HO6.out
            case measure => simp [intOf]; omega
        · have ek : l.take k2 = l := List.take_of_length_le (by omega)
          rw [ek] at HO HH
          have hLl := firsts_len l
          generalize hL : firsts l = L at *
          clear hL ek
          obtain ⟨sa, scap, hsv⟩ := row_shape HO.out
          subst hsv
          go_wp2_with fail
          refine (zzall_any B B L lv mv _ (by omega) HH.out).mono ?_
          rintro e w3 ⟨v, rfl, tk⟩
          have HO3 : Hid (w3.ownsRow B 25 2 (.slice sa L.length scap) L.length (flat L)) := tk.keep.row HO.out
          have HG3 : Hid (w3.ownsRow wr.heap.size 32 2 v L.length (flat L)) := tk.snap
          have HB3 : Hid (Below B wn w3) := HBl.out.trans tk.keep.below
          clear tk
          obtain ⟨ga, gcap, hgv⟩ := row_shape HG3.out
          subst hgv
          go_wp2
          go_loopw [11] (fun iv wq => ∃ (k n : Nat), k ≤ L.length ∧ iv = .int .i64 k ∧ wq = w3.drewN n) (fun iv _ => L.length - (intOf iv).toNat)
          case atStart => exact ⟨0, 0, Nat.zero_le _, rfl, rfl⟩
          case round =>
            obtain ⟨k3, n3, hk3, rfl, rfl⟩ := hrel
            by_cases hlt3 : k3 < L.length
            · obtain ⟨x, hx⟩ : ∃ x, L[k3]? = some x := ⟨L[k3], List.getElem?_eq_getElem hlt3⟩
              obtain ⟨g1, c1', e1, _, _⟩ := HO3.out.form (by omega)
              obtain ⟨g2, c2', e2, _, _⟩ := HG3.out.form (by omega)
              cases e1
              cases e2
              have d0 : w3.cell? ⟨g1, k3 * 2, none⟩ = some (.string x.1) := (HO3.out.cellAt (k3 * 2) (by omega)).trans (flat_fst L k3 x hx)
              have d1 : w3.cell? ⟨g1, k3 * 2 + 1, none⟩ = some (.string x.2) := (HO3.out.cellAt (k3 * 2 + 1) (by omega)).trans (flat_snd L k3 x hx)
              have f0 : w3.cell? ⟨g2, k3 * 2, none⟩ = some (.string x.1) := (HG3.out.cellAt (k3 * 2) (by omega)).trans (flat_fst L k3 x hx)
              have f1 : w3.cell? ⟨g2, k3 * 2 + 1, none⟩ = some (.string x.2) := (HG3.out.cellAt (k3 * 2 + 1) (by omega)).trans (flat_snd L k3 x hx)
              have i0 : (0 : Int) ≤ (k3 : Int) := by omega
              have i1 : (k3 : Int) < (L.length : Int) := by omega
              clear hx
              go_wp2
              go_quiet (fail)
              go_wp2
              go_roundw
              case rel => exact ⟨k3 + 1, _, by omega, by go_num, rfl⟩
              case measure => simp [intOf]; omega
            · go_wp2
              go_ret
              refine ⟨rfl, below_dN ?_ n3⟩
              have hBw : Below w'.heap.size wn w3 := by rw [HS0.out]; exact HB3.out
              exact HB0.out.trans hBw
end Go.Proofs.Qxb6618653a
