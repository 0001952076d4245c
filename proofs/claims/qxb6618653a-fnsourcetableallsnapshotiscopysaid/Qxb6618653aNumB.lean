import Derived.Test.Qxb6618653aNumA
import Derived.Deep.RegionLaw
/-! (*sourceTable).Number where the source is new. -/
namespace Go.Proofs.Qxb6618653a
open Go.RowKit Go.MuLone

theorem Try.info32 : (Try.prog.info? 32).map (fun i => (i.zero, i.size, i.bytes)) = some (some (.agg #[.string ⟨#[]⟩, .string ⟨#[]⟩]), 2, 32) := by kernel_rfl
theorem row_shape {w : World} {B : Nat} {e : TypeId} {n : Nat} {v : Value} {xs : List Value} (h : w.ownsRow B e 2 v n xs) : ∃ ao cap, v = .slice ao n cap := by
  rcases h.2 with ⟨rfl, rfl⟩ | ⟨g, cap, _, h1, _⟩
  · exact ⟨_, _, rfl⟩
  · exact ⟨_, _, h1⟩

/-- Where Number stands ahead of the append: the lock taken, the argument in its box, its identity in a variable. -/
structure Ahead (w : World) (B tb sb ib mb : Nat) (lv : Value) (L : List Src) (s : Src) : Prop where
  low : B ≤ w.heap.size
  tab : Tab w B tb 1 lv (.map (some mb))
  row : w.ownsRow B 32 2 lv L.length (flat L)
  map : MapAt w B (.map (some mb)) L
  b0 : w.cell? ⟨sb, 0, none⟩ = some (.string s.1)
  b1 : w.cell? ⟨sb, 1, none⟩ = some (.string s.2)
  i0 : w.cell? ⟨ib, 0, none⟩ = some (.string (ident s).1)
  i1 : w.cell? ⟨ib, 1, none⟩ = some (.string (ident s).2)
  apart : ∀ k, lv.ownBlock = some k → k ≠ sb ∧ k ≠ ib
theorem Ahead.grew {w w' : World} {B tb sb ib mb : Nat} {lv : Value} {L : List Src} {s : Src} (h : Ahead w B tb sb ib mb lv L s) (hb : Below w.heap.size w w') : Ahead w' B tb sb ib mb lv L s :=
  ⟨Nat.le_trans h.low hb.size, h.tab.grew hb, row_grew h.row hb, map_grew h.map hb, keeps hb h.b0, keeps hb h.b1, keeps hb h.i0, keeps hb h.i1, h.apart⟩

/-- Behind the append, ahead of the store of the new list. -/
theorem Ahead.appended {w X w5 : World} {B tb sb ib mb : Nat} {lv : Value} {L : List Src} {s : Src} (h : Ahead w B tb sb ib mb lv L s) (hX : Below w.heap.size w X) (hg : X.grownBy w5 lv.ownBlock) :
    Tab w5 B tb 1 lv (.map (some mb)) ∧ MapAt w5 B (.map (some mb)) L ∧ (w5.cell? ⟨sb, 0, none⟩ = some (.string s.1) ∧ w5.cell? ⟨sb, 1, none⟩ = some (.string s.2)) ∧ (w5.cell? ⟨ib, 0, none⟩ = some (.string (ident s).1) ∧ w5.cell? ⟨ib, 1, none⟩ = some (.string (ident s).2)) ∧ Keep B w w5 := by
  have A := h.grew hX
  have hsb : some sb ≠ lv.ownBlock := fun e => (A.apart sb e.symm).1 rfl
  have hib : some ib ≠ lv.ownBlock := fun e => (A.apart ib e.symm).2 rfl
  have htb : some tb ≠ lv.ownBlock := fun e => by
    rcases A.row.2 with ⟨rfl, _⟩ | ⟨g, cap, cur, rfl, _, h3, _⟩
    · cases e
    · have e' : tb = g := Option.some.inj e
      subst e'
      obtain ⟨arr, ha⟩ := A.tab.tag
      rw [ha] at h3
      simp at h3
  refine ⟨A.tab.block (hg.block tb A.tab.lt htb), A.map.block fun k es c hk => hg.block k (Array.getElem?_eq_some_iff.1 hk).1 (fun e => ?_), ⟨hg.cell A.b0 hsb, hg.cell A.b1 hsb⟩, ⟨hg.cell A.i0 hib, hg.cell A.i1 hib⟩, (Keep.of h.low hX).trans (Keep.grown A.row A.low hg)⟩
  rcases A.row.2 with ⟨rfl, _⟩ | ⟨g, cap, cur, rfl, _, h3, _⟩
  · cases e
  · have e' : k = g := Option.some.inj e
    subst e'
    rw [h3] at hk
    simp at hk

theorem ahead_some {B tb mb : Nat} {lv : Value} {L : List Src} {s : Src} {w w2 : World} (hB : B ≤ w.heap.size) (ht : Tab w B tb 0 lv (.map (some mb))) (hl : w.ownsRow B 32 2 lv L.length (flat L)) (hm : MapAt w B (.map (some mb)) L) (hb : Below (W1 w tb s).heap.size (W1 w tb s) w2) (n : Nat) :
    Ahead ((w2.alloc (.cells #[.string (ident s).1, .string (ident s).2] 32)).drewN n) B tb w.heap.size w2.heap.size mb lv L s := by
  have hs := W1_size w tb s
  have h2 := hb.size
  have hb3 : Below w2.heap.size w2 ((w2.alloc (.cells #[.string (ident s).1, .string (ident s).2] 32)).drewN n) := below_dN ((Below.refl _ _).alloc (Nat.le_refl _) _) n
  have x0 : (W1 w tb s).cell? ⟨w.heap.size, 0, none⟩ = some (.string s.1) := by simp [W1, go_sem]
  have x1 : (W1 w tb s).cell? ⟨w.heap.size, 1, none⟩ = some (.string s.2) := by simp [W1, go_sem]
  refine ⟨by simp; omega, ((W1_tab ht).grew hb).grew hb3, row_grew (row_grew (W1_row ht hl) hb) hb3, map_grew (map_grew (W1_map ht hm) hb) hb3, keeps hb3 (keeps hb x0), keeps hb3 (keeps hb x1), by simp [go_sem], by simp [go_sem], fun k hk => ?_⟩
  have := (hl.lt k hk).2
  exact ⟨by omega, by omega⟩

theorem keep_some {B tb mb : Nat} {lv : Value} {s : Src} {w w2 : World} (hB : B ≤ w.heap.size) (ht : Tab w B tb 0 lv (.map (some mb))) (hb : Below (W1 w tb s).heap.size (W1 w tb s) w2) (n : Nat) :
    Keep B w ((w2.alloc (.cells #[.string (ident s).1, .string (ident s).2] 32)).drewN n) := by
  have q1 := W1_keep (s := s) hB ht
  have q2 : Keep B (W1 w tb s) w2 := Keep.of (by rw [W1_size]; omega) hb
  exact q1.trans (q2.trans (Keep.of (Nat.le_trans (by rw [W1_size]; omega) hb.size) (below_dN ((Below.refl _ _).alloc (Nat.le_refl _) _) n)))

theorem record_any (v : Value) (w : World) : Calls Try.prog 12 #[v] w fun e w' => e = .returned (.tuple #[]) ∧ w' = w := by
  go_enter Try.func12, Try.ntmps12
  go_wp2
  go_end0
  exact ⟨rfl, rfl⟩

/-- A world in which the map's block has turned. -/
def turn (w : World) (mb : Nat) (o : Obj) : World := { w with heap := w.heap.setIfInBounds mb o }
theorem turn_other (w : World) (mb : Nat) (o : Obj) (k : Nat) (h : k ≠ mb) : (turn w mb o).heap[k]? = w.heap[k]? := by simp [turn, Ne.symm h]
theorem turn_same (w : World) (mb : Nat) (o : Obj) (h : mb < w.heap.size) : (turn w mb o).heap[mb]? = some o := by simp [turn, h]

/-- Behind the store of the new list: what the rest reads. -/
structure Stored (w : World) (B tb sb ib mb : Nat) (lv : Value) (L : List Src) (s : Src) : Prop where
  low : B ≤ w.heap.size
  tab : Tab w B tb 1 lv (.map (some mb))
  row : w.ownsRow B 32 2 lv (L.length + 1) (flat (L ++ [s]))
  map : ∃ (es : Array MapEntry) (c : Nat), B ≤ mb ∧ w.heap[mb]? = some (Obj.map es c) ∧ Says es.toList (ents L)
  b0 : w.cell? ⟨sb, 0, none⟩ = some (.string s.1)
  b1 : w.cell? ⟨sb, 1, none⟩ = some (.string s.2)
  i0 : w.cell? ⟨ib, 0, none⟩ = some (.string (ident s).1)
  i1 : w.cell? ⟨ib, 1, none⟩ = some (.string (ident s).2)

theorem stored_of {w5 : World} {B tb sb ib mb g cap' : Nat} {lv : Value} {L : List Src} {s : Src} (hB : B ≤ w5.heap.size) (ht : Tab w5 B tb 1 lv (.map (some mb))) (hm : MapAt w5 B (.map (some mb)) L)
    (b : w5.cell? ⟨sb, 0, none⟩ = some (.string s.1) ∧ w5.cell? ⟨sb, 1, none⟩ = some (.string s.2)) (i : w5.cell? ⟨ib, 0, none⟩ = some (.string (ident s).1) ∧ w5.cell? ⟨ib, 1, none⟩ = some (.string (ident s).2))
    (ho : w5.ownsRow B 32 2 (.slice (some ⟨g, 0, none⟩) (L.length + 1) cap') (L.length + 1) (flat L ++ [.string s.1, .string s.2])) :
    Stored (w5.setCell ⟨tb, 3, none⟩ (.slice (some ⟨g, 0, none⟩) (L.length + 1) cap')) B tb sb ib mb (.slice (some ⟨g, 0, none⟩) (L.length + 1) cap') L s := by
  have o : ∀ k p v, p ≠ 3 → w5.cell? ⟨k, p, none⟩ = some v → (w5.setCell ⟨tb, 3, none⟩ (.slice (some ⟨g, 0, none⟩) (L.length + 1) cap')).cell? ⟨k, p, none⟩ = some v := fun k p v hp h =>
    (World.cell?_setCell_other w5 ⟨tb, 3, none⟩ ⟨k, p, none⟩ _ (by intro e; cases e; exact hp rfl)).trans h
  refine ⟨by simpa using hB, ht.set3 _, ?_, ?_, o _ _ _ (by decide) b.1, o _ _ _ (by decide) b.2, o _ _ _ (by decide) i.1, o _ _ _ (by decide) i.2⟩
  · rw [flat_snoc]; exact row_set ht ho 3 _
  · rcases map_set ht hm 3 (.slice (some ⟨g, 0, none⟩) (L.length + 1) cap') with ⟨h, _⟩ | ⟨mb', es, c, h1, h2, h3, h4⟩
    · cases h
    · cases h1
      exact ⟨es, c, h2, h3, h4⟩

/-- Behind the map's turn. -/
theorem Stored.turned {w : World} {B tb sb ib mb : Nat} {lv : Value} {L : List Src} {s : Src} (h : Stored w B tb sb ib mb lv L s) {es : Array MapEntry} {c : Nat} (hb : B ≤ mb) (he : w.heap[mb]? = some (Obj.map es c)) (hs : Says es.toList (ents L)) :
    Tab (turn w mb (.map (es.push { key := kv (ident s), val := .int .i64 ((L.length : Int) + 1), born := c }) (c + 1))).drew B tb 1 lv (.map (some mb)) ∧
    (turn w mb (.map (es.push { key := kv (ident s), val := .int .i64 ((L.length : Int) + 1), born := c }) (c + 1))).drew.ownsRow B 32 2 lv (L ++ [s]).length (flat (L ++ [s])) ∧
    MapAt (turn w mb (.map (es.push { key := kv (ident s), val := .int .i64 ((L.length : Int) + 1), born := c }) (c + 1))).drew B (.map (some mb)) (L ++ [s]) ∧
    ((turn w mb (.map (es.push { key := kv (ident s), val := .int .i64 ((L.length : Int) + 1), born := c }) (c + 1))).drew.cell? ⟨sb, 0, none⟩ = some (.string s.1) ∧ (turn w mb (.map (es.push { key := kv (ident s), val := .int .i64 ((L.length : Int) + 1), born := c }) (c + 1))).drew.cell? ⟨sb, 1, none⟩ = some (.string s.2)) ∧
    Keep B w (turn w mb (.map (es.push { key := kv (ident s), val := .int .i64 ((L.length : Int) + 1), born := c }) (c + 1))).drew := by
  have hlt : mb < w.heap.size := (Array.getElem?_eq_some_iff.1 he).1
  have key : ∀ (k : Nat) (arr : Array Value) (T : TypeId) (f : Nat × Nat), w.heap[k]? = some (.cells arr T f) → k ≠ mb := fun k arr T f hk e => by
    subst e
    rw [he] at hk
    cases hk
  have cell : ∀ (p : Nat) (v : Value), w.cell? ⟨sb, p, none⟩ = some v → sb ≠ mb := fun p v hp e => by
    subst e
    simp [World.cell?, he] at hp
  have htb : tb ≠ mb := by
    obtain ⟨arr, ha⟩ := h.tab.tag
    exact key tb arr _ _ ha
  have hsb : sb ≠ mb := cell 0 _ h.b0
  have hK := Keep.turned hb he (.map (es.push { key := kv (ident s), val := .int .i64 ((L.length : Int) + 1), born := c }) (c + 1))
  refine ⟨h.tab.block (turn_other w mb _ tb htb), ⟨?_, ?_⟩, Or.inr ⟨mb, _, _, rfl, hb, turn_same w mb _ hlt, ?_⟩, ⟨?_, ?_⟩, ⟨hK.below.trans ⟨rfl, rfl, rfl, Nat.le_refl _, fun _ _ => rfl⟩, hK.rows⟩⟩
  · rw [flat_len]
  · rcases h.row.2 with ⟨h1, h2⟩ | ⟨g, cap, cur, h1, h2, h3, h4, h5, h6, h7⟩
    · omega
    · refine Or.inr ⟨g, cap, cur, by rw [h1]; simp, h2, (turn_other w mb _ g (key g _ _ _ h3)).trans h3, by simpa using h4, h5, h6, by simpa using h7⟩
  · rw [ents_snoc]
    have := says_push es (ents L) hs (ident s) ((L.length : Int) + 1) c
    simpa using this
  · exact (World.cell?_of_block (w := w) (a := ⟨sb, 0, none⟩) (turn_other w mb _ sb hsb)).trans h.b0
  · exact (World.cell?_of_block (w := w) (a := ⟨sb, 1, none⟩) (turn_other w mb _ sb hsb)).trans h.b1

set_option maxHeartbeats 2000000 in
theorem number_new_some (B tb mb : Nat) (lv : Value) (L : List Src) (s : Src) (w : World) (hB : B ≤ w.heap.size) (hlen : L.length < 4096) (ht : Tab w B tb 0 lv (.map (some mb))) (hl : w.ownsRow B 32 2 lv L.length (flat L)) (hm : MapAt w B (.map (some mb)) L) (hj : idx L s = none) :
    Calls Try.prog 13 #[.pointer (some ⟨tb, 0, none⟩), .agg #[.string s.1, .string s.2]] w fun e w' => e = .returned (.int .i64 (num L s : Nat)) ∧
      ∃ lv' mv', Tab w' B tb 0 lv' mv' ∧ w'.ownsRow B 32 2 lv' (step L s).length (flat (step L s)) ∧ MapAt w' B mv' (step L s) ∧ Keep B w w' := by
  obtain ⟨ao, cap, rfl⟩ := row_shape hl
  have htl := ht.lt
  have k1 : (w.alloc (.cells #[.string s.1, .string s.2] 32)).cell? ⟨tb, 1, none⟩ = some (.int .i32 0) := (World.cell?_alloc_past _ _ _ htl).trans ht.c1
  have f1 : (w.alloc (.cells #[.string s.1, .string s.2] 32)).frozen? ⟨tb, 1, none⟩ = false := (World.frozen?_alloc_past _ _ _ htl).trans (ht.frozen 1)
  have q45 : ∀ (w : World) (r : Option Nat), (binOp .eql 45 (.map r) (.map none)).run Try.prog w = .ok (.bool r.isNone) w := fun w r => run_eql_map_nil w _ _ _ r Try.underlying45
  have HT : Hid (Tab w B tb 0 (.slice ao L.length cap) (.map (some mb))) := ht
  have HL : Hid (w.ownsRow B 32 2 (.slice ao L.length cap) L.length (flat L)) := hl
  have HM : Hid (MapAt w B (.map (some mb)) L) := hm
  have HJ : Hid (idx L s = none) := hj
  clear ht hl hm hj
  go_enter_defers Try.func13, Try.ntmps13
  go_wp2_with (go_at_call 16; refine (lock_free Try.muLib ⟨tb, 1, none⟩ _ k1 f1).mono ?_; rintro e w' ⟨rfl, rfl⟩)
  refine (ident_agg s _).mono ?_
  rintro e w2 ⟨rfl, hb2⟩
  have hb2' : Below (W1 w tb s).heap.size (W1 w tb s) w2 := hb2
  clear hb2
  have t2 := (W1_tab (s := s) HT.out).grew hb2'
  have m2 := map_grew (W1_map (s := s) HT.out HM.out) hb2'
  have z2 := t2.lt
  have c4 := t2.c4
  have lk : ∀ n, (Instr.lookup 45 (.map (some mb)) (.agg #[.string (ident s).1, .string (ident s).2]) true).run Try.prog ((w2.alloc (.cells #[.string (ident s).1, .string (ident s).2] 32)).drewN n) = .ok (.tuple #[.int .i64 0, .bool false]) ((w2.alloc (.cells #[.string (ident s).1, .string (ident s).2] 32)).drewN n) := by
    intro n
    have m3 : MapAt ((w2.alloc (.cells #[.string (ident s).1, .string (ident s).2] 32)).drewN n) B (.map (some mb)) L := map_grew m2 (below_dN ((Below.refl _ _).alloc (Nat.le_refl _) _) n)
    have := m3.look (ident s)
    rw [look_none L s HJ.out] at this
    exact this
  have HB : Hid (Below (W1 w tb s).heap.size (W1 w tb s) w2) := hb2'
  have HT2 : Hid (Tab w2 B tb 1 (.slice ao L.length cap) (.map (some mb))) := t2
  clear hb2' t2 m2 k1 f1
  go_wp2
  go_quiet (fail)
  go_wp2
  have A := ahead_some (s := s) hB HT.out HL.out HM.out HB.out nq
  have K4 : Hid (Keep B w ((w2.alloc (.cells #[.string (ident s).1, .string (ident s).2] 32)).drewN nq)) := keep_some hB HT.out HB.out nq
  generalize hw4 : (w2.alloc (.cells #[.string (ident s).1, .string (ident s).2] 32)).drewN nq = w4 at *
  generalize hib : w2.heap.size = ib at *
  generalize hsb : w.heap.size = sb at *
  have HA : Hid (Ahead w4 B tb sb ib mb (.slice ao L.length cap) L s) := A
  have HW4 : Hid ((w2.alloc (.cells #[.string (ident s).1, .string (ident s).2] 32)).drewN nq = w4) := hw4
  have c3 := A.tab.c3
  have b0 := A.b0
  have b1 := A.b1
  have hu := A.low
  have c3a : (w4.alloc (.cells #[.string s.1, .string s.2] 32)).cell? ⟨tb, 3, none⟩ = some (.slice ao L.length cap) := (World.cell?_alloc_past _ _ _ A.tab.lt).trans c3
  have fz : w4.frozen? ⟨tb, 3, none⟩ = false := A.tab.frozen 3
  have own4 : Hid ((w4.alloc (.cells #[.string s.1, .string s.2] 32)).ownsRow B 32 2 (.slice ao L.length cap) L.length (flat L)) := A.row.alloc _
  have hX : Hid (Below w4.heap.size w4 (w4.alloc (.cells #[.string s.1, .string s.2] 32))) := (Below.refl _ _).alloc (Nat.le_refl _) _
  obtain ⟨ii, hi, hz0, hz1, hz2⟩ := info_parts Try.info32
  clear A hw4 lk
  refine wp_region_noPanic ?_
  go_region_law (refine step_append_lies _ (by rfl) (.tmp 42) (.tmp 44) 30 (by rfl) B 32 ii (.agg #[.string ⟨#[]⟩, .string ⟨#[]⟩]) 2 32 Try.underlying30 hi hz0 hz1 hz2 rfl (by decide) (.slice ao L.length cap) L.length (flat L) (by rfl) (by exact own4.out) ⟨w4.heap.size, 0, none⟩ 1 1 [.string s.1, .string s.2] (by rfl) (by rfl) (by exact World.news_of_block (heap_alloc_new w4 _)) (by intro u hu; simp at hu; rcases hu with rfl | rfl <;> rfl) (by decide) (by unfold maxLen; omega) (by omega) (by simp; omega) _ rfl ?_; intro g cap' w5 hown5 hgrow5 hat5 hlt5; have P5 := HA.out.appended (by first | exact hX.out | exact hX.out.drew) hgrow5; have c35 := P5.1.c3; have f35 := P5.1.frozen 3)
  all_goals
    refine NoPanic.normal ?_
    have S6 := stored_of (ib := ib) (Nat.le_trans hu P5.2.2.2.2.below.size) P5.1 P5.2.1 P5.2.2.1 P5.2.2.2.1 hown5
    have K6 : Hid (Keep B w4 (w5.setCell ⟨tb, 3, none⟩ (.slice (some ⟨g, 0, none⟩) (L.length + 1) cap'))) := P5.2.2.2.2.trans (Keep.set P5.1.low P5.1.tag 3 _)
    generalize hw6 : w5.setCell ⟨tb, 3, none⟩ (.slice (some ⟨g, 0, none⟩) (L.length + 1) cap') = w6 at *
    clear hw6 c35 f35 P5 hown5 hgrow5 hat5 hlt5 c3a b0 b1 c3 fz own4 hX
    have H6 : Hid (Stored w6 B tb sb ib mb (.slice (some ⟨g, 0, none⟩) (L.length + 1) cap') L s) := S6
    have x3 := S6.tab.c3
    have x4 := S6.tab.c4
    have x0 := S6.tab.c0
    have y0 := S6.b0
    have y1 := S6.b1
    have v0 := S6.i0
    have v1 := S6.i1
    obtain ⟨es, c, hmb, hes, hsays⟩ := S6.map
    have up : (Instr.mapUpdate 45 (.map (some mb)) (.agg #[.string (ident s).1, .string (ident s).2]) (.int .i64 ((L.length : Int) + 1))).run Try.prog w6.drew = .ok () (turn w6 mb (.map (es.push { key := kv (ident s), val := .int .i64 ((L.length : Int) + 1), born := c }) (c + 1))).drew :=
      run_put_new (ident s) ((L.length : Int) + 1) w6.drew mb es c (ents L) hes hsays (find_none L s HJ.out)
    clear S6
    go_wp2
    refine wp_region_noPanic ?_
    go_region
    refine NoPanic.normal ?_
    have P7 := H6.out.turned hmb hes hsays
    generalize hw7 : (turn w6 mb (.map (es.push { key := kv (ident s), val := .int .i64 ((L.length : Int) + 1), born := c }) (c + 1))).drew = w7 at *
    clear hw7 x3 x4 x0 y0 y1 v0 v1 hes hsays up
    have H7 : Hid (Tab w7 B tb 1 (.slice (some ⟨g, 0, none⟩) (L.length + 1) cap') (.map (some mb)) ∧ w7.ownsRow B 32 2 (.slice (some ⟨g, 0, none⟩) (L.length + 1) cap') (L ++ [s]).length (flat (L ++ [s])) ∧ MapAt w7 B (.map (some mb)) (L ++ [s]) ∧ (w7.cell? ⟨sb, 0, none⟩ = some (.string s.1) ∧ w7.cell? ⟨sb, 1, none⟩ = some (.string s.2)) ∧ Keep B w6 w7) := P7
    have x0 := P7.1.c0
    have y0 := P7.2.2.2.1.1
    have y1 := P7.2.2.2.1.2
    clear P7
    go_wp2
    go_quiet ((go_at_call 12; exact Calls.quiet_of_same (record_any _ _)))
    go_wp2
    -- the door: the deferred unlock
    have hb8 : ∀ n, Below w7.heap.size w7 (w7.drewN n) := fun n => below_dN (Below.refl _ _) n
    refine leaves_cons (f := 17) (args := #[.pointer (some ⟨tb, 1, none⟩)]) (by simp) (by simp [go_sem]) ?_
    refine (unlock_deferred Try.muLib ⟨tb, 1, none⟩ .returning _ (H7.out.1.grew (hb8 _)).c1 ((H7.out.1.grew (hb8 _)).frozen 1)).mono ?_
    rintro e u' w'' ⟨rfl, rfl, rfl⟩
    have hst : step L s = L ++ [s] := by unfold step; rw [HJ.out]
    have hnum : num L s = L.length + 1 := by unfold num; rw [HJ.out]
    rw [hst, hnum]
    refine ⟨_, results_tmp rfl _ _ _, ?_, .slice (some ⟨g, 0, none⟩) (L.length + 1) cap', .map (some mb), (H7.out.1.grew (hb8 _)).set1 0, row_set (H7.out.1.grew (hb8 _)) (row_grew H7.out.2.1 (hb8 _)) 1 _, map_set (H7.out.1.grew (hb8 _)) (map_grew H7.out.2.2.1 (hb8 _)) 1 _, ?_⟩
    · simp
    · have q7 : Keep B w w7 := K4.out.trans (K6.out.trans H7.out.2.2.2.2)
      have q8 : ∀ n, Keep B w7 (w7.drewN n) := fun n => Keep.of (Nat.le_trans H7.out.1.low (Nat.le_of_lt H7.out.1.lt)) (hb8 n)
      exact q7.trans ((q8 nq).trans (Keep.set (H7.out.1.grew (hb8 nq)).low (H7.out.1.grew (hb8 nq)).tag 1 _))
end Go.Proofs.Qxb6618653a
