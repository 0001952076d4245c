import Derived.Test.Qxb6618653aMark
import Derived.Deep.Cut
import Derived.Laws.Concat
/-! The second law's walk. -/
namespace Go.Proofs.Qxb6618653a
open Go.RowKit

set_option maxRecDepth 100000 in
set_option maxHeartbeats 8000000 in
theorem law2 (ao : Option Addr) (b off cap : Nat) (l : List Src) (cut : Int) (w : World) (hlen : l.length ≤ maxLen) (h : Came w ao b off l) :
    Calls Try.prog 4 #[.slice ao l.length cap, .int .i64 cut] w fun e w' => e = .returned (.bool true) ∧ Below w.heap.size w w' := by
  have HC : Hid (Came w ao b off l) := h
  have HL : Hid (l.length ≤ maxLen) := hlen
  unfold maxLen at hlen
  clear h
  go_enter Try.func4, Try.ntmps4
  go_wp2_with fail
  refine (bytes2_said ao b off cap l cut _ HL.out HC.out).mono ?_
  rintro e w' ⟨⟨bo, rfl, hsh⟩, rfl⟩
  cases bo
  · clear hsh
    go_wp2
    go_ret
    exact ⟨rfl, Below.refl _ _⟩
  have HSH : Hid (shortTo l l.length) := hsh rfl
  clear hsh
  by_cases g1 : (4096 : Int) < l.length
  · go_wp2
    go_ret
    exact ⟨rfl, Below.refl _ _⟩
  have g2 : l.length ≤ 4096 := by omega
  go_wp2
  go_loopw [5, 6] (fun tv iv wr => ∃ (k n : Nat) (t : Int), k ≤ l.length ∧ iv = .int .i64 k ∧ tv = .int .i64 t ∧ wr = w'.drewN n) (fun _ iv _ => l.length - (intOf iv).toNat)
  case atStart => exact ⟨0, 0, _, Nat.zero_le _, rfl, rfl, rfl⟩
  case round =>
    obtain ⟨k, n, t, hk, rfl, rfl, rfl⟩ := hrel
    by_cases hlt : k < l.length
    · obtain ⟨x, hx⟩ : ∃ x, l[k]? = some x := ⟨l[k], List.getElem?_eq_getElem hlt⟩
      have hne : l ≠ [] := fun e => by subst e; simp at hlt
      have hao := HC.out.at_ hne
      subst hao
      have d0 := HC.out.c0 k x hx
      have d1 := HC.out.c1 k x hx
      have i0 : (0 : Int) ≤ (k : Int) := by omega
      have i1 : (k : Int) < (l.length : Int) := by omega
      clear hx hne
      go_wp2
      go_quiet (fail)
      go_wp2
      all_goals first
        | (go_ret; exact ⟨rfl, below_dN (Below.refl _ _) _⟩)
        | (go_roundw
           case rel => exact ⟨k + 1, _, _, by omega, by go_num, rfl, rfl⟩
           case measure => simp [intOf]; omega)
    · have HB0 : Hid (Below w'.heap.size w' (w'.drewN n)) := below_dN (Below.refl _ _) n
      have HS0 : Hid (w'.heap.size = (w'.drewN n).heap.size) := by show _ = _; simp
      generalize hwn : w'.drewN n = wn at *
      have HC2 : Hid (Came wn ao b off l) := HC.out.below HB0.out
      by_cases c1 : cut < 0
      · go_wp2
        go_ret
        exact ⟨rfl, HB0.out⟩
      by_cases c2 : (l.length : Int) < cut
      · go_wp2
        go_ret
        exact ⟨rfl, HB0.out⟩
      obtain ⟨u, rfl⟩ : ∃ u : Nat, cut = (u : Int) := ⟨cut.toNat, by omega⟩
      have hu : u ≤ l.length := by omega
      go_wp2_with fail
      refine (new_any _).mono ?_
      rintro e w1 ⟨rfl, rfl⟩
      have hh := holds_new wn
      have hb1 : Below wn.heap.size wn (wn.alloc (.cells #[.func (.func 12) #[] #[], .int .i32 0, .int .u32 0, .slice none 0 0, .map none] 47)) := (Below.refl _ _).alloc (Nat.le_refl _) _
      generalize hw2 : wn.alloc (.cells #[.func (.func 12) #[] #[], .int .i32 0, .int .u32 0, .slice none 0 0, .map none] 47) = w2 at *
      generalize hB : wn.heap.size = B at *
      have H0 : Hid (Holds w2 B B [] (.slice none 0 0) (.map none)) := hh
      have HB1 : Hid (Below B wn w2) := hb1
      clear hw2 hwn hh hb1
      go_wp2
      go_loopw [8] (fun iv wr => ∃ (k : Nat) (lv mv : Value), k ≤ u ∧ iv = .int .i64 k ∧ Holds wr B B (firsts (l.take k)) lv mv ∧ Below B wn wr) (fun iv _ => u - (intOf iv).toNat)
      case atStart => exact ⟨0, _, _, Nat.zero_le _, rfl, H0.out, HB1.out⟩
      case round =>
        obtain ⟨k2, lv, mv, hk2, rfl, hH, hBl⟩ := hrel
        have HH : Hid (Holds wr B B (firsts (l.take k2)) lv mv) := hH
        have HBl : Hid (Below B wn wr) := hBl
        clear hH hBl
        by_cases hlt2 : k2 < u
        · obtain ⟨x, hx⟩ : ∃ x, l[k2]? = some x := ⟨l[k2], List.getElem?_eq_getElem (by omega)⟩
          have hne : l ≠ [] := fun e => by subst e; simp at hu; omega
          have hao := HC2.out.at_ hne
          have hbB : b < B := by have := HC2.out.lt hne; omega
          subst hao
          have d0 : wr.cell? ⟨b, off + k2 * 2, none⟩ = some (.string x.1) := (HBl.out.cell (p := ⟨b, off + k2 * 2, none⟩) hbB).trans (HC2.out.c0 k2 x hx)
          have d1 : wr.cell? ⟨b, off + k2 * 2 + 1, none⟩ = some (.string x.2) := (HBl.out.cell (p := ⟨b, off + k2 * 2 + 1, none⟩) hbB).trans (HC2.out.c1 k2 x hx)
          have i0 : (0 : Int) ≤ (k2 : Int) := by omega
          have i1 : (k2 : Int) < (l.length : Int) := by omega
          have i2 : (k2 : Int) < (u : Int) := by omega
          have HX : Hid (firsts (l.take (k2 + 1)) = step (firsts (l.take k2)) x) := firsts_next l k2 x hx
          have hLl := firsts_take_len l k2 (by omega)
          generalize hL : firsts (l.take k2) = L at *
          clear hL hx hne
          go_wp2
          go_region_held3 (fun w' => w'.cell? ⟨b, off + k2 * 2, none⟩ = some (.string x.1) ∧ w'.cell? ⟨b, off + k2 * 2 + 1, none⟩ = some (.string x.2)) (first | exact keep2 hkp hbB hbB (by assumption) | exact ⟨d0, d1⟩)
            (first | (go_at_call 7; refine (zznumber_any B B L lv mv x _ (by omega) (by exact HH.out.grew (Below.drew (Below.refl _ _)))).mono ?_; rintro e w3 ⟨rfl, hHn, hkp⟩))
          obtain ⟨lv3, mv3, hH3⟩ := hHn
          have HH3 : Hid (Holds w3 B B (step L x) lv3 mv3) := hH3
          have HB3 : Hid (Below B wn w3) := (HBl.out.drew).trans hkp.below
          clear hH3 hkp d0 d1
          go_wp2
          go_roundw
          case rel =>
            refine ⟨k2 + 1, lv3, mv3, by omega, by go_num, ?_, HB3.out⟩
            rw [HX.out]; exact HH3.out
          case measure => simp [intOf]; omega
        · have ek : k2 = u := by omega
          subst ek
          have hLl := firsts_take_len l k2 hu
          have HF : Hid (∀ (i : Nat) (x : Src), (firsts (l.take k2))[i]? = some x → x.1.size ≤ 1048576 ∧ x.2.size ≤ 1048576) := fun i x hx => firsts_short HSH.out k2 hx
          have HE : Hid (∀ w1 : World, Below B wn w1 → Calls Try.prog 11 #[.slice ao l.length cap, .int .i64 k2] w1 fun e w' => ∃ v, e = .returned v ∧ w'.ownsRow w1.heap.size 25 2 v (firsts (l.take k2)).length (flat (firsts (l.take k2))) ∧ Below w1.heap.size w1 w') :=
            fun w1 hb => distinct_any ao b off cap l k2 w1 g2 hu (HC2.out.below (by rw [hB]; exact hb))
          generalize hL : firsts (l.take k2) = L at HE HF HH hLl
          have HX : Hid (firsts (l.take k2) = L) := hL
          clear hL
          go_wp2_with fail
          refine (zzall_any B B L lv mv _ (by omega) HH.out).mono ?_
          rintro e w3 ⟨v, rfl, tk⟩
          have HG3 : Hid (w3.ownsRow wr.heap.size 32 2 v L.length (flat L)) := tk.snap
          have HH3 : Hid (Holds w3 B B L lv mv) := tk.holds
          have HB3 : Hid (Below B wn w3) := HBl.out.trans tk.keep.below
          clear tk
          obtain ⟨ga, gcap, hgv⟩ := row_shape HG3.out
          subst hgv
          go_wp2_with fail
          refine (HE.out w3 HB3.out).mono ?_
          rintro e w4 ⟨v4, rfl, hO4, hb4⟩
          have HO4 : Hid (w4.ownsRow w3.heap.size 25 2 v4 L.length (flat L)) := hO4
          have HG4 : Hid (w4.ownsRow wr.heap.size 32 2 (.slice ga L.length gcap) L.length (flat L)) := row_grew HG3.out hb4
          have HH4 : Hid (Holds w4 B B L lv mv) := HH3.out.grew hb4
          have HB4 : Hid (Below B wn w4) := HB3.out.trans (hb4.mono HH3.out.low)
          clear hO4 hb4
          obtain ⟨sa, scap, hsv⟩ := row_shape HO4.out
          subst hsv
          go_wp2
          go_loopw [11] (fun iv wq => ∃ (k n : Nat), k ≤ L.length ∧ iv = .int .i64 k ∧ wq = w4.drewN n) (fun iv _ => L.length - (intOf iv).toNat)
          case atStart => exact ⟨0, 0, Nat.zero_le _, rfl, rfl⟩
          case round =>
            obtain ⟨k3, n3, hk3, rfl, rfl⟩ := hrel
            by_cases hlt3 : k3 < L.length
            · obtain ⟨x, hx⟩ : ∃ x, L[k3]? = some x := ⟨L[k3], List.getElem?_eq_getElem hlt3⟩
              obtain ⟨g1, c1', e1, _, _⟩ := HO4.out.form (by omega)
              obtain ⟨g2, c2', e2, _, _⟩ := HG4.out.form (by omega)
              cases e1
              cases e2
              have d0 : w4.cell? ⟨g1, k3 * 2, none⟩ = some (.string x.1) := (HO4.out.cellAt (k3 * 2) (by omega)).trans (flat_fst L k3 x hx)
              have d1 : w4.cell? ⟨g1, k3 * 2 + 1, none⟩ = some (.string x.2) := (HO4.out.cellAt (k3 * 2 + 1) (by omega)).trans (flat_snd L k3 x hx)
              have f0 : w4.cell? ⟨g2, k3 * 2, none⟩ = some (.string x.1) := (HG4.out.cellAt (k3 * 2) (by omega)).trans (flat_fst L k3 x hx)
              have f1 : w4.cell? ⟨g2, k3 * 2 + 1, none⟩ = some (.string x.2) := (HG4.out.cellAt (k3 * 2 + 1) (by omega)).trans (flat_snd L k3 x hx)
              have i0 : (0 : Int) ≤ (k3 : Int) := by omega
              have i1 : (k3 : Int) < (L.length : Int) := by omega
              clear hx
              go_wp2
              go_quiet (fail)
              go_wp2
              go_roundw
              case rel => exact ⟨k3 + 1, _, by omega, by go_num, rfl⟩
              case measure => simp [intOf]; omega
            · have HH5 : Hid (Holds (w4.drewN n3) B B L lv mv) := HH4.out.grew (below_dN (Below.refl _ _) n3)
              have HB5 : Hid (Below B wn (w4.drewN n3)) := below_dN HB4.out n3
              go_upto_if 116 with fail
              go_cut [] from 17 (fun wx => Holds wx B B L lv mv ∧ Below B wn wx)
              case first =>
                by_cases hz : L.length = 0
                · go_wp2
                  go_meet
                  case rel => exact ⟨HH5.out, HB5.out⟩
                · obtain ⟨x, hx⟩ : ∃ x, L[0]? = some x := ⟨L[0], List.getElem?_eq_getElem (by omega)⟩
                  obtain ⟨g2, c2', e2, hg2, _⟩ := HG4.out.form (by omega)
                  cases e2
                  have f0 : w4.cell? ⟨g2, 0, none⟩ = some (.string x.1) := (HG4.out.cellAt 0 (by omega)).trans (flat_fst L 0 x hx)
                  have f1 : w4.cell? ⟨g2, 1, none⟩ = some (.string x.2) := (HG4.out.cellAt 1 (by omega)).trans (flat_snd L 0 x hx)
                  have z0 := row_frozen HG4.out 0
                  have z1 := row_frozen HG4.out 1
                  obtain ⟨s0, s1⟩ := HF.out 0 x hx
                  have i1 : (0 : Int) < (L.length : Int) := by omega
                  have a0 := fun w => run_string_add_sum (P := Try.prog) w x.1 ⟨#[35]⟩ (by show _ + 1 ≤ _; omega)
                  have a1 := fun w => run_string_add_sum (P := Try.prog) w x.2 ⟨#[35]⟩ (by show _ + 1 ≤ _; omega)
                  have HT : Hid (Holds ((((w4.drewN n3).setCell ⟨g2, 0, none⟩ (.string (x.1 ++ ⟨#[35]⟩))).setCell ⟨g2, 1, none⟩ (.string (x.2 ++ ⟨#[35]⟩)))) B B L lv mv) := HH.out.mark HH5.out hg2 _ _ _ _
                  have HBt : Hid (Below B wn ((((w4.drewN n3).setCell ⟨g2, 0, none⟩ (.string (x.1 ++ ⟨#[35]⟩))).setCell ⟨g2, 1, none⟩ (.string (x.2 ++ ⟨#[35]⟩))))) := (HB5.out.setCell (Nat.le_trans HH.out.low hg2) _).setCell (Nat.le_trans HH.out.low hg2) _
                  clear hx s0 s1
                  go_wp2
                  go_meet
                  case rel => exact ⟨HT.out, HBt.out⟩
              case rest =>
                obtain ⟨hcH, hcB⟩ := hcut
                have HH6 : Hid (Holds wc B B L lv mv) := hcH
                have HB6 : Hid (Below B wn wc) := hcB
                clear hcH hcB
                go_wp2
                go_loopw [12] (fun iv wr => ∃ (k : Nat) (lv mv : Value), k ≤ l.length ∧ iv = .int .i64 k ∧ Holds wr B B (firsts (l.take k)) lv mv ∧ Below B wn wr) (fun iv _ => l.length - (intOf iv).toNat)
                case atStart => exact ⟨k2, _, _, hu, rfl, by rw [HX.out]; exact HH6.out, HB6.out⟩
                case round =>
                  clear HH HBl HH3 HB3 HG3 HG4 HO4 HH4 HB4 HH5 HB5 HE HF HH6 HB6
                  obtain ⟨k4, lv, mv, hk4, rfl, hH, hBl⟩ := hrel
                  have HH : Hid (Holds wr B B (firsts (l.take k4)) lv mv) := hH
                  have HBl : Hid (Below B wn wr) := hBl
                  clear hH hBl
                  by_cases hlt4 : k4 < l.length
                  · obtain ⟨x, hx⟩ : ∃ x, l[k4]? = some x := ⟨l[k4], List.getElem?_eq_getElem (by omega)⟩
                    have hne : l ≠ [] := fun e => by subst e; simp at hlt4
                    have hao := HC2.out.at_ hne
                    have hbB : b < B := by have := HC2.out.lt hne; omega
                    subst hao
                    have d0 : wr.cell? ⟨b, off + k4 * 2, none⟩ = some (.string x.1) := (HBl.out.cell (p := ⟨b, off + k4 * 2, none⟩) hbB).trans (HC2.out.c0 k4 x hx)
                    have d1 : wr.cell? ⟨b, off + k4 * 2 + 1, none⟩ = some (.string x.2) := (HBl.out.cell (p := ⟨b, off + k4 * 2 + 1, none⟩) hbB).trans (HC2.out.c1 k4 x hx)
                    have i0 : (0 : Int) ≤ (k4 : Int) := by omega
                    have i1 : (k4 : Int) < (l.length : Int) := by omega
                    have HX4 : Hid (firsts (l.take (k4 + 1)) = step (firsts (l.take k4)) x) := firsts_next l k4 x hx
                    have hLl4 := firsts_take_len l k4 (by omega)
                    generalize hL4 : firsts (l.take k4) = L4 at HX4 hLl4 HH
                    clear hL4 hx hne
                    go_wp2
                    go_region_held3 (fun w' => w'.cell? ⟨b, off + k4 * 2, none⟩ = some (.string x.1) ∧ w'.cell? ⟨b, off + k4 * 2 + 1, none⟩ = some (.string x.2)) (first | exact keep2 hkp hbB hbB (by assumption) | exact ⟨d0, d1⟩)
                      (first | (go_at_call 7; refine (zznumber_any B B L4 lv mv x _ (by omega) (by exact HH.out.grew (Below.drew (Below.refl _ _)))).mono ?_; rintro e w3 ⟨rfl, hHn, hkp⟩))
                    obtain ⟨lv3, mv3, hH3⟩ := hHn
                    have HH3 : Hid (Holds w3 B B (step L4 x) lv3 mv3) := hH3
                    have HB3 : Hid (Below B wn w3) := (HBl.out.drew).trans hkp.below
                    clear hH3 hkp d0 d1
                    go_wp2
                    go_roundw
                    case rel =>
                      refine ⟨k4 + 1, lv3, mv3, by omega, by go_num, ?_, HB3.out⟩
                      rw [HX4.out]; exact HH3.out
                    case measure => simp [intOf]; omega
                  · have ek : k4 = l.length := by omega
                    subst ek
                    have hMl := firsts_take_len l l.length (Nat.le_refl _)
                    have HE : Hid (∀ w1 : World, Below B wn w1 → Calls Try.prog 11 #[.slice ao l.length cap, .int .i64 l.length] w1 fun e w' => ∃ v, e = .returned v ∧ w'.ownsRow w1.heap.size 25 2 v (firsts (l.take l.length)).length (flat (firsts (l.take l.length))) ∧ Below w1.heap.size w1 w') :=
                      fun w1 hb => distinct_any ao b off cap l l.length w1 g2 (Nat.le_refl _) (HC2.out.below (by rw [hB]; exact hb))
                    generalize hM : firsts (l.take l.length) = M at HE HH hMl
                    clear hM
                    go_wp2_with fail
                    refine (zzall_any B B M lv mv _ (by omega) HH.out).mono ?_
                    rintro e w5 ⟨v, rfl, tk⟩
                    have HG5 : Hid (w5.ownsRow wr.heap.size 32 2 v M.length (flat M)) := tk.snap
                    have HH5 : Hid (Holds w5 B B M lv mv) := tk.holds
                    have HB5 : Hid (Below B wn w5) := HBl.out.trans tk.keep.below
                    clear tk
                    obtain ⟨ga5, gcap5, hgv⟩ := row_shape HG5.out
                    subst hgv
                    go_wp2_with fail
                    refine (zzall_any B B M lv mv _ (by omega) HH5.out).mono ?_
                    rintro e w6 ⟨v, rfl, tk⟩
                    have HG6 : Hid (w6.ownsRow w5.heap.size 32 2 v M.length (flat M)) := tk.snap
                    have HH6 : Hid (Holds w6 B B M lv mv) := tk.holds
                    have HB6 : Hid (Below B wn w6) := HB5.out.trans tk.keep.below
                    have HL6 : Hid (w6.ownsRow wr.heap.size 32 2 (.slice ga5 M.length gcap5) M.length (flat M)) :=
                      row_blocks HG5.out fun k hk hk' => tk.block k hk' (fun e => by have := HH.out.tab.lt; omega)
                    clear tk
                    obtain ⟨ga6, gcap6, hgv⟩ := row_shape HG6.out
                    subst hgv
                    go_wp2_with fail
                    refine (HE.out w6 HB6.out).mono ?_
                    rintro e w7 ⟨v7, rfl, hO7, hb7⟩
                    have HO7 : Hid (w7.ownsRow w6.heap.size 25 2 v7 M.length (flat M)) := hO7
                    have HG7 : Hid (w7.ownsRow w5.heap.size 32 2 (.slice ga6 M.length gcap6) M.length (flat M)) := row_grew HG6.out hb7
                    have HL7 : Hid (w7.ownsRow wr.heap.size 32 2 (.slice ga5 M.length gcap5) M.length (flat M)) := row_grew HL6.out hb7
                    have HB7 : Hid (Below B wn w7) := HB6.out.trans (hb7.mono HH6.out.low)
                    clear hO7 hb7
                    obtain ⟨sa7, scap7, hsv⟩ := row_shape HO7.out
                    subst hsv
                    go_wp2
                    go_loopw [16] (fun iv wq => ∃ (k n : Nat), k ≤ M.length ∧ iv = .int .i64 k ∧ wq = w7.drewN n) (fun iv _ => M.length - (intOf iv).toNat)
                    case atStart => exact ⟨0, 0, Nat.zero_le _, rfl, rfl⟩
                    case round =>
                      obtain ⟨k7, n7, hk7, rfl, rfl⟩ := hrel
                      by_cases hlt7 : k7 < M.length
                      · obtain ⟨x, hx⟩ : ∃ x, M[k7]? = some x := ⟨M[k7], List.getElem?_eq_getElem hlt7⟩
                        obtain ⟨g5, c5', e5, _, _⟩ := HL7.out.form (by omega)
                        obtain ⟨g6, c6', e6, _, _⟩ := HG7.out.form (by omega)
                        obtain ⟨g7, c7', e7, _, _⟩ := HO7.out.form (by omega)
                        cases e5
                        cases e6
                        cases e7
                        have d0 : w7.cell? ⟨g7, k7 * 2, none⟩ = some (.string x.1) := (HO7.out.cellAt (k7 * 2) (by omega)).trans (flat_fst M k7 x hx)
                        have d1 : w7.cell? ⟨g7, k7 * 2 + 1, none⟩ = some (.string x.2) := (HO7.out.cellAt (k7 * 2 + 1) (by omega)).trans (flat_snd M k7 x hx)
                        have f0 : w7.cell? ⟨g6, k7 * 2, none⟩ = some (.string x.1) := (HG7.out.cellAt (k7 * 2) (by omega)).trans (flat_fst M k7 x hx)
                        have f1 : w7.cell? ⟨g6, k7 * 2 + 1, none⟩ = some (.string x.2) := (HG7.out.cellAt (k7 * 2 + 1) (by omega)).trans (flat_snd M k7 x hx)
                        have p0 : w7.cell? ⟨g5, k7 * 2, none⟩ = some (.string x.1) := (HL7.out.cellAt (k7 * 2) (by omega)).trans (flat_fst M k7 x hx)
                        have p1 : w7.cell? ⟨g5, k7 * 2 + 1, none⟩ = some (.string x.2) := (HL7.out.cellAt (k7 * 2 + 1) (by omega)).trans (flat_snd M k7 x hx)
                        have i0 : (0 : Int) ≤ (k7 : Int) := by omega
                        have i1 : (k7 : Int) < (M.length : Int) := by omega
                        clear hx
                        go_wp2
                        go_quiet (fail)
                        go_wp2
                        go_quiet (fail)
                        go_wp2
                        go_roundw
                        case rel => exact ⟨k7 + 1, _, by omega, by go_num, rfl⟩
                        case measure => simp [intOf]; omega
                      · go_wp2
                        go_ret
                        refine ⟨rfl, below_dN ?_ n7⟩
                        have hBw : Below w'.heap.size wn w7 := by rw [HS0.out]; exact HB7.out
                        exact HB0.out.trans hBw
end Go.Proofs.Qxb6618653a
