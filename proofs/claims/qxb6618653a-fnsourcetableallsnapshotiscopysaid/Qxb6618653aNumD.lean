import Derived.Test.Qxb6618653aNumC
/-! (*sourceTable).Number, whole, and its wrapper; all, Clone. -/
namespace Go.Proofs.Qxb6618653a
open Go.RowKit Go.MuLone

/-- The table holds the first retrievals L. -/
structure Holds (w : World) (B tb : Nat) (L : List Src) (lv mv : Value) : Prop where
  low : B ≤ w.heap.size
  tab : Tab w B tb 0 lv mv
  row : w.ownsRow B 32 2 lv L.length (flat L)
  map : MapAt w B mv L
  bare : L = [] → lv = .slice none 0 0

theorem holds_new (w : World) : Holds (w.alloc (.cells #[.func (.func 12) #[] #[], .int .i32 0, .int .u32 0, .slice none 0 0, .map none] 47)) w.heap.size w.heap.size [] (.slice none 0 0) (.map none) :=
  ⟨by simp, ⟨Nat.le_refl _, ⟨_, heap_alloc_new w _⟩, by simp [go_sem], by simp [go_sem], by simp [go_sem], by simp [go_sem]⟩, World.ownsRow_nil _ _ _ _, Or.inl ⟨rfl, rfl⟩, fun _ => rfl⟩
theorem Holds.grew {w w' : World} {B tb : Nat} {L : List Src} {lv mv : Value} (h : Holds w B tb L lv mv) (hb : Below w.heap.size w w') : Holds w' B tb L lv mv :=
  ⟨Nat.le_trans h.low hb.size, h.tab.grew hb, row_grew h.row hb, map_grew h.map hb, h.bare⟩

theorem step_ne (L : List Src) (s : Src) : step L s ≠ [] := by
  unfold step
  cases h : idx L s with
  | some j =>
    have := idx_lt L s j h
    intro e
    have e' : L = [] := e
    subst e'
    simp at this
  | none => simp

theorem number_any (B tb : Nat) (L : List Src) (lv mv : Value) (s : Src) (w : World) (hlen : L.length < 4096) (h : Holds w B tb L lv mv) :
    Calls Try.prog 13 #[.pointer (some ⟨tb, 0, none⟩), .agg #[.string s.1, .string s.2]] w fun e w' => e = .returned (.int .i64 (num L s : Nat)) ∧ (∃ lv' mv', Holds w' B tb (step L s) lv' mv') ∧ Keep B w w' := by
  have fin : ∀ (e : Ending) (w' : World), (e = .returned (.int .i64 (num L s : Nat)) ∧ ∃ lv' mv', Tab w' B tb 0 lv' mv' ∧ w'.ownsRow B 32 2 lv' (step L s).length (flat (step L s)) ∧ MapAt w' B mv' (step L s) ∧ Keep B w w') →
      (e = .returned (.int .i64 (num L s : Nat)) ∧ (∃ lv' mv', Holds w' B tb (step L s) lv' mv') ∧ Keep B w w') := by
    rintro e w' ⟨he, lv', mv', h1, h2, h3, h4⟩
    exact ⟨he, ⟨lv', mv', Nat.le_trans h.low h4.below.size, h1, h2, h3, fun e => absurd e (step_ne L s)⟩, h4⟩
  cases hj : idx L s with
  | some j => exact (number_old B tb lv mv L s w j h.low h.tab h.row h.map hj).mono fin
  | none =>
    have hm := h.map
    rcases hm with ⟨hn, _⟩ | ⟨mb, _, _, hn, _⟩
    · have ht := h.tab
      have hm := h.map
      rw [hn] at ht hm
      exact (number_new_nil B tb lv L s w h.low hlen ht h.row hm hj).mono fin
    · have ht := h.tab
      have hm := h.map
      rw [hn] at ht hm
      exact (number_new_some B tb mb lv L s w h.low hlen ht h.row hm hj).mono fin

theorem zznumber_any (B tb : Nat) (L : List Src) (lv mv : Value) (s : Src) (w : World) (hlen : L.length < 4096) (h : Holds w B tb L lv mv) :
    Calls Try.prog 7 #[.pointer (some ⟨tb, 0, none⟩), .string s.1, .string s.2] w fun e w' => e = .returned (.int .i64 (num L s : Nat)) ∧ (∃ lv' mv', Holds w' B tb (step L s) lv' mv') ∧ Keep B w w' := by
  go_enter Try.func7, Try.ntmps7
  go_wp2_with fail
  refine (number_any B tb L lv mv s _ hlen h).mono ?_
  rintro e w' ⟨rfl, h1, h2⟩
  go_wp2_with fail
  go_ret
  exact ⟨rfl, h1, h2⟩

/-! ### Clone and all -/
theorem eq30 (d : Nat) (w : World) (a : Option Addr) (n c : Nat) : (Op.equalIn (d + 1) 30 (.slice a n c) (.slice none 0 0)).run Try.prog w = .ok a.isNone w := by
  cases a <;> simp [Op.equalIn, run_underlying Try.underlying30]
theorem q30 (w : World) (a : Option Addr) (n c : Nat) : (binOp .eql 30 (.slice a n c) (.slice none 0 0)).run Try.prog w = .ok (.bool a.isNone) w := by
  simp only [binOp]
  simp [Op.equal, Op.maxDepth, eq30 9999]

theorem clone_nil (w : World) : Calls Try.prog 19 #[.slice none 0 0] w fun e w' => e = .returned (.slice none 0 0) ∧ w' = w := by
  have q := fun w => q30 w none 0 0
  go_enter Try.func19, Try.ntmps19
  go_wp2
  go_ret
  exact ⟨rfl, rfl⟩

set_option maxHeartbeats 400000 in
theorem clone_row (g cap : Nat) (L : List Src) (w : World) (hlen : L.length ≤ 4096) (h0 : 0 < L.length) (hc : ∀ j u, (flat L)[j]? = some u → w.cell? ⟨g, j, none⟩ = some u) (hg : g < w.heap.size) :
    Calls Try.prog 19 #[.slice (some ⟨g, 0, none⟩) L.length cap] w fun e w' => ∃ v, e = .returned v ∧ w'.ownsRow w.heap.size 32 2 v L.length (flat L) ∧ Below w.heap.size w w' := by
  obtain ⟨ii, hi, hz0, hz1, hz2⟩ := info_parts Try.info32
  have HC : Hid (∀ j u, (flat L)[j]? = some u → (w.alloc (.cells #[] 32)).cell? ((⟨g, 0, none⟩ : Addr).add j) = some u) := fun j u hu => by
    have e : (⟨g, 0, none⟩ : Addr).add j = ⟨g, j, none⟩ := by unfold Addr.add; split <;> simp_all
    rw [e, World.cell?_alloc_past _ _ _ hg]
    exact hc j u hu
  have HO : Hid ((w.alloc (.cells #[] 32)).ownsRow w.heap.size 32 2 (.slice (some ⟨w.heap.size, 0, none⟩) 0 0) 0 []) := World.ownsRow_made w #[] 0 (Nat.le_refl _) (Nat.zero_le _) (by simp)
  have H1 : Hid (∀ u ∈ flat L, u.oneCell' = true) := fun u hu => by
    simp [flat] at hu
    obtain ⟨a, b, _, h⟩ := hu
    rcases h with rfl | rfl <;> rfl
  clear hc
  have q := fun w => q30 w (some ⟨g, 0, none⟩) L.length cap
  go_enter Try.func19, Try.ntmps19
  go_wp2_with (at_builtin; refine wpList_append_lies _ (by rfl) _ _ 30 (by rfl) w.heap.size 32 ii (.agg #[.string ⟨#[]⟩, .string ⟨#[]⟩]) 2 32 Try.underlying30 hi hz0 hz1 hz2 rfl (by decide) (.slice (some ⟨w.heap.size, 0, none⟩) 0 0) 0 [] (by rfl) HO.out ⟨g, 0, none⟩ L.length cap (flat L) (by rfl) (flat_len L) HC.out H1.out h0 (by unfold maxLen; omega) (by omega) (by simp) _ rfl ?_; intro g' cap' w5 hown5 hgrow5 hat5 hlt5)
  go_wp2
  go_ret
  rw [Nat.zero_add, List.nil_append] at hown5
  exact ⟨_, rfl, hown5, ((Below.refl _ _).alloc (Nat.le_refl _) _).grown hgrow5 (by simp) (fun k hk => by simp [Value.ownBlock] at hk; omega)⟩

theorem all_keeps {B tb : Nat} {L : List Src} {lv mv : Value} {w : World} (h : Holds w B tb L lv mv) : Tab (w.setCell ⟨tb, 1, none⟩ (.int .i32 1)) B tb 1 lv mv ∧ (w.setCell ⟨tb, 1, none⟩ (.int .i32 1)).ownsRow B 32 2 lv L.length (flat L) ∧ MapAt (w.setCell ⟨tb, 1, none⟩ (.int .i32 1)) B mv L :=
  ⟨h.tab.set1 1, row_set h.tab h.row 1 _, map_set h.tab h.map 1 _⟩

/-- What 'all' leaves: the snapshot in new memory, the table as it was, every other block as it was. -/
structure Taken (w w' : World) (B tb : Nat) (L : List Src) (lv mv v : Value) : Prop where
  snap : w'.ownsRow w.heap.size 32 2 v L.length (flat L)
  holds : Holds w' B tb L lv mv
  keep : Keep B w w'
  block : ∀ k, k < w.heap.size → k ≠ tb → w'.heap[k]? = w.heap[k]?

theorem taken_of {B tb : Nat} {L : List Src} {lv mv v : Value} {w w2 : World} (h : Holds w B tb L lv mv) (hb : Below w.heap.size (w.setCell ⟨tb, 1, none⟩ (.int .i32 1)) w2) (hs : w2.ownsRow w.heap.size 32 2 v L.length (flat L)) :
    Taken w (w2.setCell ⟨tb, 1, none⟩ (.int .i32 0)) B tb L lv mv v := by
  have hb' : Below (w.setCell ⟨tb, 1, none⟩ (.int .i32 1)).heap.size (w.setCell ⟨tb, 1, none⟩ (.int .i32 1)) w2 := by simpa using hb
  obtain ⟨t1, r1, m1⟩ := all_keeps h
  have t2 := t1.grew hb'
  have hlow : B ≤ w2.heap.size := Nat.le_trans h.low (by have := hb.size; simpa using this)
  refine ⟨?_, ⟨by simpa using hlow, t2.set1 0, row_set t2 (row_grew r1 hb') 1 _, map_set t2 (map_grew m1 hb') 1 _, h.bare⟩, ?_, ?_⟩
  · refine ⟨hs.1, ?_⟩
    rcases hs.2 with hn | ⟨g, cap, cur, h1, h2, h3, rest⟩
    · exact Or.inl hn
    · refine Or.inr ⟨g, cap, cur, h1, h2, ?_, rest⟩
      rw [heap_set_other _ _ _ _ (fun e => ?_)]
      · exact h3
      · have e' : g = tb := e
        have := h.tab.lt
        omega
  · exact (Keep.set h.tab.low h.tab.tag 1 _).trans ((Keep.of (by simpa using h.low) hb').trans (Keep.set t2.low t2.tag 1 _))
  · intro k hk hne
    rw [heap_set_other _ _ _ _ hne, hb.block k hk]
    exact heap_set_other w _ _ k hne

set_option maxHeartbeats 1000000 in
theorem all_any (B tb : Nat) (L : List Src) (lv mv : Value) (w : World) (hlen : L.length ≤ 4096) (h : Holds w B tb L lv mv) :
    Calls Try.prog 15 #[.pointer (some ⟨tb, 0, none⟩)] w fun e w' => ∃ v, e = .returned v ∧ Taken w w' B tb L lv mv v := by
  have k1 := h.tab.c1
  have f1 := h.tab.frozen 1
  obtain ⟨t1, r1, m1⟩ := all_keeps h
  have c3 := t1.c3
  have HH : Hid (Holds w B tb L lv mv) := h
  have HR : Hid ((w.setCell ⟨tb, 1, none⟩ (.int .i32 1)).ownsRow B 32 2 lv L.length (flat L)) := r1
  have HT1 : Hid (Tab (w.setCell ⟨tb, 1, none⟩ (.int .i32 1)) B tb 1 lv mv) := t1
  clear t1 r1 m1
  rcases h.row.2 with ⟨hl, h0⟩ | ⟨g, cap, cur, hl, h1, h2, h3, h4, h5, h6⟩
  · have eL : L = [] := List.eq_nil_of_length_eq_zero h0
    subst hl
    clear h
    go_enter_defers Try.func15, Try.ntmps15
    go_wp2_with (go_at_call 16; refine (lock_free Try.muLib ⟨tb, 1, none⟩ _ k1 f1).mono ?_; rintro e w' ⟨rfl, rfl⟩)
    refine (clone_nil _).mono ?_
    rintro e w2 ⟨rfl, rfl⟩
    go_wp2_with fail
    refine leaves_cons (f := 17) (args := #[.pointer (some ⟨tb, 1, none⟩)]) (by simp) (by simp [go_sem]) ?_
    refine (unlock_deferred Try.muLib ⟨tb, 1, none⟩ .returning _ HT1.out.c1 (HT1.out.frozen 1)).mono ?_
    rintro e u' w'' ⟨rfl, rfl, rfl⟩
    subst eL
    exact ⟨_, results_tmp rfl _ _ _, _, rfl, taken_of HH.out (by simpa using Below.refl _ _) (World.ownsRow_nil _ _ _ _)⟩
  · by_cases hz : L = []
    · have := h.bare hz
      rw [hl] at this
      cases this
    · have hpos : 0 < L.length := List.length_pos_iff.2 hz
      have hgt : g ≠ tb := fun e => by
        subst e
        obtain ⟨arr, ha⟩ := h.tab.tag
        rw [ha] at h2
        simp at h2
      have hg : g < w.heap.size := (Array.getElem?_eq_some_iff.1 h2).1
      subst hl
      have HC : Hid (∀ j u, (flat L)[j]? = some u → (w.setCell ⟨tb, 1, none⟩ (.int .i32 1)).cell? ⟨g, j, none⟩ = some u) := fun j u hu => by
        rw [HR.out.cellAt j (by have := (List.getElem?_eq_some_iff.1 hu).1; rw [flat_len] at this; omega)]
        exact hu
      clear h h2 h3 h4 h5 h6 hz
      go_enter_defers Try.func15, Try.ntmps15
      go_wp2_with (go_at_call 16; refine (lock_free Try.muLib ⟨tb, 1, none⟩ _ k1 f1).mono ?_; rintro e w' ⟨rfl, rfl⟩)
      refine (clone_row g cap L _ hlen hpos HC.out (by simpa using hg)).mono ?_
      rintro e w2 ⟨v, rfl, hs, hb⟩
      rw [show (w.setCell ⟨tb, 1, none⟩ (.int .i32 1)).heap.size = w.heap.size by simp] at hs hb
      have tk := taken_of HH.out hb hs
      have t2 : Tab w2 B tb 1 (.slice (some ⟨g, 0, none⟩) L.length cap) mv := HT1.out.grew (by simpa using hb)
      go_wp2_with fail
      refine leaves_cons (f := 17) (args := #[.pointer (some ⟨tb, 1, none⟩)]) (by simp) (by simp [go_sem]) ?_
      refine (unlock_deferred Try.muLib ⟨tb, 1, none⟩ .returning _ t2.c1 (t2.frozen 1)).mono ?_
      rintro e u' w'' ⟨rfl, rfl, rfl⟩
      exact ⟨_, results_tmp rfl _ _ _, v, rfl, tk⟩

theorem zzall_any (B tb : Nat) (L : List Src) (lv mv : Value) (w : World) (hlen : L.length ≤ 4096) (h : Holds w B tb L lv mv) :
    Calls Try.prog 9 #[.pointer (some ⟨tb, 0, none⟩)] w fun e w' => ∃ v, e = .returned v ∧ Taken w w' B tb L lv mv v := by
  go_enter Try.func9, Try.ntmps9
  go_wp2_with fail
  refine (all_any B tb L lv mv _ hlen h).mono ?_
  rintro e w' ⟨v, rfl, h1⟩
  go_wp2_with fail
  go_ret
  exact ⟨v, rfl, h1⟩
end Go.Proofs.Qxb6618653a
