import Derived.Test.Qxb6618653aNumB
/-! (*sourceTable).Number at the table's first source: the map is made. -/
namespace Go.Proofs.Qxb6618653a
open Go.RowKit Go.MuLone

/-- The world ahead of the append where the map has just been made. -/
def W9 (w2 : World) (tb : Nat) (s : Src) (n : Nat) : World :=
  (((w2.alloc (.cells #[.string (ident s).1, .string (ident s).2] 32)).drewN n).setCell ⟨tb, 4, none⟩ (.map (some (w2.heap.size + 1)))).alloc (.map #[] 0)

theorem ahead_nil {B tb : Nat} {lv : Value} {L : List Src} {s : Src} {w w2 : World} (hB : B ≤ w.heap.size) (ht : Tab w B tb 0 lv (.map none)) (hl : w.ownsRow B 32 2 lv L.length (flat L)) (hm : MapAt w B (.map none) L) (hb : Below (W1 w tb s).heap.size (W1 w tb s) w2) (n : Nat) :
    Ahead (W9 w2 tb s n) B tb w.heap.size w2.heap.size (w2.heap.size + 1) lv L s ∧ Keep B w (W9 w2 tb s n) := by
  have hs := W1_size w tb s
  have h2 := hb.size
  have hL : L = [] := by
    rcases hm with ⟨_, h⟩ | ⟨_, _, _, h, _⟩
    · exact h
    · cases h
  have hb3 : Below w2.heap.size w2 ((w2.alloc (.cells #[.string (ident s).1, .string (ident s).2] 32)).drewN n) := below_dN ((Below.refl _ _).alloc (Nat.le_refl _) _) n
  have x0 : (W1 w tb s).cell? ⟨w.heap.size, 0, none⟩ = some (.string s.1) := by simp [W1, go_sem]
  have x1 : (W1 w tb s).cell? ⟨w.heap.size, 1, none⟩ = some (.string s.2) := by simp [W1, go_sem]
  have tX := ((W1_tab (s := s) ht).grew hb).grew hb3
  have rX := row_grew (row_grew (W1_row (s := s) ht hl) hb) hb3
  have y0 := keeps hb3 (keeps hb x0)
  have y1 := keeps hb3 (keeps hb x1)
  have z0 : ((w2.alloc (.cells #[.string (ident s).1, .string (ident s).2] 32)).drewN n).cell? ⟨w2.heap.size, 0, none⟩ = some (.string (ident s).1) := by simp [go_sem]
  have z1 : ((w2.alloc (.cells #[.string (ident s).1, .string (ident s).2] 32)).drewN n).cell? ⟨w2.heap.size, 1, none⟩ = some (.string (ident s).2) := by simp [go_sem]
  have sX : ((w2.alloc (.cells #[.string (ident s).1, .string (ident s).2] 32)).drewN n).heap.size = w2.heap.size + 1 := by simp
  have q1 := W1_keep (s := s) hB ht
  have q2 : Keep B (W1 w tb s) w2 := Keep.of (by rw [W1_size]; omega) hb
  have q3 : Keep B w2 ((w2.alloc (.cells #[.string (ident s).1, .string (ident s).2] 32)).drewN n) := Keep.of (Nat.le_trans (by rw [W1_size]; omega) hb.size) hb3
  unfold W9
  generalize (w2.alloc (.cells #[.string (ident s).1, .string (ident s).2] 32)).drewN n = X at *
  have tY := tX.set4 (.map (some (w2.heap.size + 1)))
  have rY := row_set tX rX 4 (.map (some (w2.heap.size + 1)))
  have o : ∀ k p v, p ≠ 4 → X.cell? ⟨k, p, none⟩ = some v → (X.setCell ⟨tb, 4, none⟩ (.map (some (w2.heap.size + 1)))).cell? ⟨k, p, none⟩ = some v := fun k p v hp h =>
    (World.cell?_setCell_other X ⟨tb, 4, none⟩ ⟨k, p, none⟩ _ (by intro e; cases e; exact hp rfl)).trans h
  have sY : (X.setCell ⟨tb, 4, none⟩ (.map (some (w2.heap.size + 1)))).heap.size = w2.heap.size + 1 := by simpa using sX
  have hY := Keep.set tX.low tX.tag 4 (.map (some (w2.heap.size + 1)))
  have a0 := o _ _ _ (by decide) y0
  have a1 := o _ _ _ (by decide) y1
  have a2 := o _ _ _ (by decide) z0
  have a3 := o _ _ _ (by decide) z1
  generalize X.setCell ⟨tb, 4, none⟩ (.map (some (w2.heap.size + 1))) = Y at *
  have hbY : Below Y.heap.size Y (Y.alloc (.map #[] 0)) := (Below.refl _ _).alloc (Nat.le_refl _) _
  refine ⟨⟨by simp; omega, tY.grew hbY, row_grew rY hbY, Or.inr ⟨w2.heap.size + 1, #[], 0, rfl, by omega, ?_, by subst hL; rfl⟩, keeps hbY a0, keeps hbY a1, keeps hbY a2, keeps hbY a3, fun k hk => ?_⟩, q1.trans (q2.trans (q3.trans (hY.trans (Keep.of (by omega) hbY))))⟩
  · rw [← sY]; exact heap_alloc_new Y _
  · have := (hl.lt k hk).2
    exact ⟨by omega, by omega⟩

set_option maxHeartbeats 2000000 in
theorem number_new_nil (B tb : Nat) (lv : Value) (L : List Src) (s : Src) (w : World) (hB : B ≤ w.heap.size) (hlen : L.length < 4096) (ht : Tab w B tb 0 lv (.map none)) (hl : w.ownsRow B 32 2 lv L.length (flat L)) (hm : MapAt w B (.map none) L) (hj : idx L s = none) :
    Calls Try.prog 13 #[.pointer (some ⟨tb, 0, none⟩), .agg #[.string s.1, .string s.2]] w fun e w' => e = .returned (.int .i64 (num L s : Nat)) ∧
      ∃ lv' mv', Tab w' B tb 0 lv' mv' ∧ w'.ownsRow B 32 2 lv' (step L s).length (flat (step L s)) ∧ MapAt w' B mv' (step L s) ∧ Keep B w w' := by
  obtain ⟨ao, cap, rfl⟩ := row_shape hl
  have htl := ht.lt
  have k1 : (w.alloc (.cells #[.string s.1, .string s.2] 32)).cell? ⟨tb, 1, none⟩ = some (.int .i32 0) := (World.cell?_alloc_past _ _ _ htl).trans ht.c1
  have f1 : (w.alloc (.cells #[.string s.1, .string s.2] 32)).frozen? ⟨tb, 1, none⟩ = false := (World.frozen?_alloc_past _ _ _ htl).trans (ht.frozen 1)
  have m45 : ∀ w : World, (Instr.makeMap 45 none).run Try.prog w = .ok (.map (some w.heap.size)) (w.alloc (.map #[] 0)) := fun w => run_makeMap_plain w 45
  have q45 : ∀ (w : World) (r : Option Nat), (binOp .eql 45 (.map r) (.map none)).run Try.prog w = .ok (.bool r.isNone) w := fun w r => run_eql_map_nil w _ _ _ r Try.underlying45
  have HT : Hid (Tab w B tb 0 (.slice ao L.length cap) (.map none)) := ht
  have HL : Hid (w.ownsRow B 32 2 (.slice ao L.length cap) L.length (flat L)) := hl
  have HM : Hid (MapAt w B (.map none) L) := hm
  have HJ : Hid (idx L s = none) := hj
  clear ht hl hm hj
  go_enter_defers Try.func13, Try.ntmps13
  go_wp2_with (go_at_call 16; refine (lock_free Try.muLib ⟨tb, 1, none⟩ _ k1 f1).mono ?_; rintro e w' ⟨rfl, rfl⟩)
  refine (ident_agg s _).mono ?_
  rintro e w2 ⟨rfl, hb2⟩
  have hb2' : Below (W1 w tb s).heap.size (W1 w tb s) w2 := hb2
  clear hb2
  have t2 := (W1_tab (s := s) HT.out).grew hb2'
  have m2 := map_grew (W1_map (s := s) HT.out HM.out) hb2'
  have z2 := t2.lt
  have c4 := t2.c4
  have f4 := t2.frozen 4
  have lk : ∀ n, (Instr.lookup 45 (.map none) (.agg #[.string (ident s).1, .string (ident s).2]) true).run Try.prog ((w2.alloc (.cells #[.string (ident s).1, .string (ident s).2] 32)).drewN n) = .ok (.tuple #[.int .i64 0, .bool false]) ((w2.alloc (.cells #[.string (ident s).1, .string (ident s).2] 32)).drewN n) := by
    intro n
    have m3 : MapAt ((w2.alloc (.cells #[.string (ident s).1, .string (ident s).2] 32)).drewN n) B (.map none) L := map_grew m2 (below_dN ((Below.refl _ _).alloc (Nat.le_refl _) _) n)
    have := m3.look (ident s)
    rw [look_none L s HJ.out] at this
    exact this
  have HB : Hid (Below (W1 w tb s).heap.size (W1 w tb s) w2) := hb2'
  have HT2 : Hid (Tab w2 B tb 1 (.slice ao L.length cap) (.map none)) := t2
  clear hb2' t2 m2 k1 f1
  go_wp2
  go_quiet (fail)
  go_wp2
  obtain ⟨A, K4'⟩ := ahead_nil (s := s) hB HT.out HL.out HM.out HB.out nq
  have K4 : Hid (Keep B w (W9 w2 tb s nq)) := K4'
  unfold W9 at A K4
  generalize hw4 : (((w2.alloc (.cells #[.string (ident s).1, .string (ident s).2] 32)).drewN nq).setCell ⟨tb, 4, none⟩ (.map (some (w2.heap.size + 1)))).alloc (.map #[] 0) = w4 at *
  generalize hmbe : w2.heap.size + 1 = mb at *
  generalize hib : w2.heap.size = ib at *
  generalize hsb : w.heap.size = sb at *
  have HA : Hid (Ahead w4 B tb sb ib mb (.slice ao L.length cap) L s) := A
  have c3 := A.tab.c3
  have b0 := A.b0
  have b1 := A.b1
  have hu := A.low
  have c3a : (w4.alloc (.cells #[.string s.1, .string s.2] 32)).cell? ⟨tb, 3, none⟩ = some (.slice ao L.length cap) := (World.cell?_alloc_past _ _ _ A.tab.lt).trans c3
  have fz : w4.frozen? ⟨tb, 3, none⟩ = false := A.tab.frozen 3
  have own4 : Hid ((w4.alloc (.cells #[.string s.1, .string s.2] 32)).ownsRow B 32 2 (.slice ao L.length cap) L.length (flat L)) := A.row.alloc _
  have hX : Hid (Below w4.heap.size w4 (w4.alloc (.cells #[.string s.1, .string s.2] 32))) := (Below.refl _ _).alloc (Nat.le_refl _) _
  obtain ⟨ii, hi, hz0, hz1, hz2⟩ := info_parts Try.info32
  clear A hw4 lk
  refine wp_region_noPanic ?_
  go_region_law (refine step_append_lies _ (by rfl) (.tmp 42) (.tmp 44) 30 (by rfl) B 32 ii (.agg #[.string ⟨#[]⟩, .string ⟨#[]⟩]) 2 32 Try.underlying30 hi hz0 hz1 hz2 rfl (by decide) (.slice ao L.length cap) L.length (flat L) (by rfl) (by exact own4.out) ⟨w4.heap.size, 0, none⟩ 1 1 [.string s.1, .string s.2] (by rfl) (by rfl) (by exact World.news_of_block (heap_alloc_new w4 _)) (by intro u hu; simp at hu; rcases hu with rfl | rfl <;> rfl) (by decide) (by unfold maxLen; omega) (by omega) (by simp; omega) _ rfl ?_; intro g cap' w5 hown5 hgrow5 hat5 hlt5; have P5 := HA.out.appended (by first | exact hX.out | exact hX.out.drew) hgrow5; have c35 := P5.1.c3; have f35 := P5.1.frozen 3)
  all_goals
    refine NoPanic.normal ?_
    have S6 := stored_of (ib := ib) (Nat.le_trans hu P5.2.2.2.2.below.size) P5.1 P5.2.1 P5.2.2.1 P5.2.2.2.1 hown5
    have K6 : Hid (Keep B w4 (w5.setCell ⟨tb, 3, none⟩ (.slice (some ⟨g, 0, none⟩) (L.length + 1) cap'))) := P5.2.2.2.2.trans (Keep.set P5.1.low P5.1.tag 3 _)
    generalize hw6 : w5.setCell ⟨tb, 3, none⟩ (.slice (some ⟨g, 0, none⟩) (L.length + 1) cap') = w6 at *
    clear hw6 c35 f35 P5 hown5 hgrow5 hat5 hlt5 c3a b0 b1 c3 fz own4 hX
    have H6 : Hid (Stored w6 B tb sb ib mb (.slice (some ⟨g, 0, none⟩) (L.length + 1) cap') L s) := S6
    have x3 := S6.tab.c3
    have x4 := S6.tab.c4
    have x0 := S6.tab.c0
    have y0 := S6.b0
    have y1 := S6.b1
    have v0 := S6.i0
    have v1 := S6.i1
    obtain ⟨es, c, hmb, hes, hsays⟩ := S6.map
    have up : (Instr.mapUpdate 45 (.map (some mb)) (.agg #[.string (ident s).1, .string (ident s).2]) (.int .i64 ((L.length : Int) + 1))).run Try.prog w6.drew = .ok () (turn w6 mb (.map (es.push { key := kv (ident s), val := .int .i64 ((L.length : Int) + 1), born := c }) (c + 1))).drew :=
      run_put_new (ident s) ((L.length : Int) + 1) w6.drew mb es c (ents L) hes hsays (find_none L s HJ.out)
    clear S6
    go_wp2
    refine wp_region_noPanic ?_
    go_region
    refine NoPanic.normal ?_
    have P7 := H6.out.turned hmb hes hsays
    generalize hw7 : (turn w6 mb (.map (es.push { key := kv (ident s), val := .int .i64 ((L.length : Int) + 1), born := c }) (c + 1))).drew = w7 at *
    clear hw7 x3 x4 x0 y0 y1 v0 v1 hes hsays up
    have H7 : Hid (Tab w7 B tb 1 (.slice (some ⟨g, 0, none⟩) (L.length + 1) cap') (.map (some mb)) ∧ w7.ownsRow B 32 2 (.slice (some ⟨g, 0, none⟩) (L.length + 1) cap') (L ++ [s]).length (flat (L ++ [s])) ∧ MapAt w7 B (.map (some mb)) (L ++ [s]) ∧ (w7.cell? ⟨sb, 0, none⟩ = some (.string s.1) ∧ w7.cell? ⟨sb, 1, none⟩ = some (.string s.2)) ∧ Keep B w6 w7) := P7
    have x0 := P7.1.c0
    have y0 := P7.2.2.2.1.1
    have y1 := P7.2.2.2.1.2
    clear P7
    go_wp2
    go_quiet ((go_at_call 12; exact Calls.quiet_of_same (record_any _ _)))
    go_wp2
    -- the door: the deferred unlock
    have hb8 : ∀ n, Below w7.heap.size w7 (w7.drewN n) := fun n => below_dN (Below.refl _ _) n
    refine leaves_cons (f := 17) (args := #[.pointer (some ⟨tb, 1, none⟩)]) (by simp) (by simp [go_sem]) ?_
    refine (unlock_deferred Try.muLib ⟨tb, 1, none⟩ .returning _ (H7.out.1.grew (hb8 _)).c1 ((H7.out.1.grew (hb8 _)).frozen 1)).mono ?_
    rintro e u' w'' ⟨rfl, rfl, rfl⟩
    have hst : step L s = L ++ [s] := by unfold step; rw [HJ.out]
    have hnum : num L s = L.length + 1 := by unfold num; rw [HJ.out]
    rw [hst, hnum]
    refine ⟨_, results_tmp rfl _ _ _, ?_, .slice (some ⟨g, 0, none⟩) (L.length + 1) cap', .map (some mb), (H7.out.1.grew (hb8 _)).set1 0, row_set (H7.out.1.grew (hb8 _)) (row_grew H7.out.2.1 (hb8 _)) 1 _, map_set (H7.out.1.grew (hb8 _)) (map_grew H7.out.2.2.1 (hb8 _)) 1 _, ?_⟩
    · simp
    · have q7 : Keep B w w7 := K4.out.trans (K6.out.trans H7.out.2.2.2.2)
      have q8 : ∀ n, Keep B w7 (w7.drewN n) := fun n => Keep.of (Nat.le_trans H7.out.1.low (Nat.le_of_lt H7.out.1.lt)) (hb8 n)
      exact q7.trans ((q8 nq).trans (Keep.set (H7.out.1.grew (hb8 nq)).low (H7.out.1.grew (hb8 nq)).tag 1 _))
end Go.Proofs.Qxb6618653a
