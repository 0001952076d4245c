import Derived.Test.Qxb6618653aTable
/-! (*sourceTable).Number where the source has been retrieved before. -/
namespace Go.Proofs.Qxb6618653a
open Go.RowKit Go.MuLone

theorem ident_agg (x : Src) (w : World) :
    Calls Try.prog 18 #[.agg #[.string x.1, .string x.2]] w fun e w' => e = .returned (.agg #[.string (ident x).1, .string (ident x).2]) ∧ Below w.heap.size w w' := ident_any x w

/-- The world behind the box of the argument and the lock. -/
def W1 (w : World) (tb : Nat) (s : Src) : World := (w.setCell ⟨tb, 1, none⟩ (.int .i32 1)).alloc (.cells #[.string s.1, .string s.2] 32)
theorem W1_size (w : World) (tb : Nat) (s : Src) : (W1 w tb s).heap.size = w.heap.size + 1 := by simp [W1]
theorem W1_old (w : World) (tb : Nat) (s : Src) (k : Nat) (hk : k < w.heap.size) (hne : k ≠ tb) : (W1 w tb s).heap[k]? = w.heap[k]? := by
  unfold W1
  rw [Below.heap_alloc _ _ k (by simpa using hk)]
  exact heap_set_other w _ _ k hne

section
variable {B tb : Nat} {lv mv : Value} {L : List Src} {s : Src} {w : World}

theorem W1_tab (ht : Tab w B tb 0 lv mv) : Tab (W1 w tb s) B tb 1 lv mv :=
  (ht.set1 1).block (Below.heap_alloc _ _ tb (by simpa using ht.lt))
theorem W1_row (ht : Tab w B tb 0 lv mv) (hl : w.ownsRow B 32 2 lv L.length (flat L)) : (W1 w tb s).ownsRow B 32 2 lv L.length (flat L) := by
  refine ⟨hl.1, ?_⟩
  rcases hl.2 with hn | ⟨g, cap, cur, h1, h2, h3, rest⟩
  · exact Or.inl hn
  · refine Or.inr ⟨g, cap, cur, h1, h2, ?_, rest⟩
    rw [W1_old w tb s g (Array.getElem?_eq_some_iff.1 h3).1 (fun e => ?_)]
    · exact h3
    · subst e
      obtain ⟨arr, ha⟩ := ht.tag
      rw [ha] at h3
      simp at h3
theorem W1_map (ht : Tab w B tb 0 lv mv) (hm : MapAt w B mv L) : MapAt (W1 w tb s) B mv L := by
  refine hm.block fun k es c hk => W1_old w tb s k (Array.getElem?_eq_some_iff.1 hk).1 (fun e => ?_)
  subst e
  obtain ⟨arr, ha⟩ := ht.tag
  rw [ha] at hk
  simp at hk
theorem W1_keep (hB : B ≤ w.heap.size) (ht : Tab w B tb 0 lv mv) : Keep B w (W1 w tb s) :=
  (Keep.set ht.low ht.tag 1 _).trans (Keep.of (by simpa using hB) ((Below.refl _ _).alloc (Nat.le_refl _) _))

theorem row_set {W : World} {st : Int} {n : Nat} {v : Value} {xs : List Value} (ht : Tab W B tb st lv mv) (h : W.ownsRow B 32 2 v n xs) (o : Nat) (u : Value) : (W.setCell ⟨tb, o, none⟩ u).ownsRow B 32 2 v n xs := by
  refine ⟨h.1, ?_⟩
  rcases h.2 with hn | ⟨g, cap, cur, h1, h2, h3, rest⟩
  · exact Or.inl hn
  · refine Or.inr ⟨g, cap, cur, h1, h2, ?_, rest⟩
    rw [heap_set_other W _ _ g (fun e => ?_)]
    · exact h3
    · have e' : g = tb := e
      subst e'
      obtain ⟨arr, ha⟩ := ht.tag
      rw [ha] at h3
      simp at h3
theorem map_set {W : World} {st : Int} {m : Value} (ht : Tab W B tb st lv mv) (h : MapAt W B m L) (o : Nat) (u : Value) : MapAt (W.setCell ⟨tb, o, none⟩ u) B m L := by
  refine h.block fun k es c hk => heap_set_other W _ _ k (fun e => ?_)
  have e' : k = tb := e
  subst e'
  obtain ⟨arr, ha⟩ := ht.tag
  rw [ha] at hk
  simp at hk
theorem below_dN {n : Nat} {a W : World} (h : Below n a W) (k : Nat) : Below n a (W.drewN k) := h.trans ⟨rfl, rfl, rfl, Nat.le_refl _, fun _ _ => rfl⟩

/-- What stands in a world that has only grown. -/
theorem Tab.grew {W w' : World} {st : Int} (h : Tab W B tb st lv mv) (hb : Below W.heap.size W w') : Tab w' B tb st lv mv := h.block (hb.block tb h.lt)
theorem row_grew {W w' : World} {e : TypeId} {n : Nat} {v : Value} {xs : List Value} (h : W.ownsRow B e 2 v n xs) (hb : Below W.heap.size W w') : w'.ownsRow B e 2 v n xs := by
  refine ⟨h.1, ?_⟩
  rcases h.2 with hn | ⟨g, cap, cur, h1, h2, h3, rest⟩
  · exact Or.inl hn
  · exact Or.inr ⟨g, cap, cur, h1, h2, (hb.block g (Array.getElem?_eq_some_iff.1 h3).1).trans h3, rest⟩
theorem map_grew {W w' : World} (h : MapAt W B mv L) (hb : Below W.heap.size W w') : MapAt w' B mv L :=
  h.block fun k _ _ hk => hb.block k (Array.getElem?_eq_some_iff.1 hk).1
end

set_option maxHeartbeats 1000000 in
theorem number_old (B tb : Nat) (lv mv : Value) (L : List Src) (s : Src) (w : World) (j : Nat) (hB : B ≤ w.heap.size) (ht : Tab w B tb 0 lv mv) (hl : w.ownsRow B 32 2 lv L.length (flat L)) (hm : MapAt w B mv L) (hj : idx L s = some j) :
    Calls Try.prog 13 #[.pointer (some ⟨tb, 0, none⟩), .agg #[.string s.1, .string s.2]] w fun e w' => e = .returned (.int .i64 (num L s : Nat)) ∧
      ∃ lv' mv', Tab w' B tb 0 lv' mv' ∧ w'.ownsRow B 32 2 lv' (step L s).length (flat (step L s)) ∧ MapAt w' B mv' (step L s) ∧ Keep B w w' := by
  obtain ⟨mb, rfl⟩ : ∃ mb, mv = .map (some mb) := by
    rcases hm with ⟨_, rfl⟩ | ⟨mb, _, _, h, _⟩
    · cases hj
    · exact ⟨mb, h⟩
  have htl := ht.lt
  have k1 : (w.alloc (.cells #[.string s.1, .string s.2] 32)).cell? ⟨tb, 1, none⟩ = some (.int .i32 0) := (World.cell?_alloc_past _ _ _ htl).trans ht.c1
  have f1 : (w.alloc (.cells #[.string s.1, .string s.2] 32)).frozen? ⟨tb, 1, none⟩ = false := (World.frozen?_alloc_past _ _ _ htl).trans (ht.frozen 1)
  have HT : Hid (Tab w B tb 0 lv (.map (some mb))) := ht
  have HL : Hid (w.ownsRow B 32 2 lv L.length (flat L)) := hl
  have HM : Hid (MapAt w B (.map (some mb)) L) := hm
  have HJ : Hid (idx L s = some j) := hj
  clear ht hl hm hj
  go_enter_defers Try.func13, Try.ntmps13
  go_wp2_with (go_at_call 16; refine (lock_free Try.muLib ⟨tb, 1, none⟩ _ k1 f1).mono ?_; rintro e w' ⟨rfl, rfl⟩)
  refine (ident_agg s _).mono ?_
  rintro e w2 ⟨rfl, hb2⟩
  have hb2' : Below (W1 w tb s).heap.size (W1 w tb s) w2 := hb2
  clear hb2
  have t2 := (W1_tab (s := s) HT.out).grew hb2'
  have m2 := map_grew (W1_map (s := s) HT.out HM.out) hb2'
  have z2 := t2.lt
  have c4 := t2.c4
  have lk : ∀ n, (Instr.lookup 45 (.map (some mb)) (.agg #[.string (ident s).1, .string (ident s).2]) true).run Try.prog ((w2.alloc (.cells #[.string (ident s).1, .string (ident s).2] 32)).drewN n) = .ok (.tuple #[.int .i64 ((j + 1 : Nat) : Int), .bool true]) ((w2.alloc (.cells #[.string (ident s).1, .string (ident s).2] 32)).drewN n) := by
    intro n
    have m3 : MapAt ((w2.alloc (.cells #[.string (ident s).1, .string (ident s).2] 32)).drewN n) B (.map (some mb)) L := map_grew m2 (below_dN ((Below.refl _ _).alloc (Nat.le_refl _) _) n)
    have := m3.look (ident s)
    rw [look_some L s j HJ.out] at this
    exact this
  have HB : Hid (Below (W1 w tb s).heap.size (W1 w tb s) w2) := hb2'
  have HT2 : Hid (Tab w2 B tb 1 lv (.map (some mb))) := t2
  clear hb2' t2 m2 k1 f1
  go_wp2
  go_quiet (fail)
  go_wp2
  -- the door: the deferred unlock
  have t3 : Tab ((w2.alloc (.cells #[.string (ident s).1, .string (ident s).2] 32)).drewN nq) B tb 1 lv (.map (some mb)) := HT2.out.grew (below_dN ((Below.refl _ _).alloc (Nat.le_refl _) _) nq)
  refine leaves_cons (f := 17) (args := #[.pointer (some ⟨tb, 1, none⟩)]) (by simp) (by simp [go_sem]) ?_
  refine (unlock_deferred Try.muLib ⟨tb, 1, none⟩ .returning _ t3.c1 (t3.frozen 1)).mono ?_
  rintro e u' w'' ⟨rfl, rfl, rfl⟩
  have hst : step L s = L := by unfold step; rw [HJ.out]
  have hnum : num L s = j + 1 := by unfold num; rw [HJ.out]
  have hb3 : Below w2.heap.size w2 ((w2.alloc (.cells #[.string (ident s).1, .string (ident s).2] 32)).drewN nq) := below_dN ((Below.refl _ _).alloc (Nat.le_refl _) _) nq
  rw [hst, hnum]
  refine ⟨_, results_tmp rfl _ _ _, ?_, lv, .map (some mb), t3.set1 0, ?_, ?_, ?_⟩
  · simp
  · exact row_set t3 (row_grew (row_grew (W1_row (s := s) HT.out HL.out) HB.out) hb3) 1 _
  · exact map_set t3 (map_grew (map_grew (W1_map (s := s) HT.out HM.out) HB.out) hb3) 1 _
  · have q1 := W1_keep (s := s) hB HT.out
    have q2 : Keep B (W1 w tb s) w2 := Keep.of (by rw [W1_size]; omega) HB.out
    have q3 : Keep B w2 _ := Keep.of (Nat.le_trans (by rw [W1_size]; omega) HB.out.size) hb3
    exact q1.trans (q2.trans (q3.trans (Keep.set t3.low t3.tag 1 _)))
end Go.Proofs.Qxb6618653a
