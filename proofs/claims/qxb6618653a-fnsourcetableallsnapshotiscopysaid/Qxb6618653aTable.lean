import Derived.Test.Qxb6618653aIndex
import Derived.Conc.MuLone
import Derived.Deep.AppendLies
import Derived.WideMake
/-! The table in memory, and what a call leaves of it. -/
namespace Go.Proofs.Qxb6618653a
open Go.RowKit

/-- The table's own five cells: its record, its lock's state and semaphore, its list, its numbers. -/
structure Tab (w : World) (B tb : Nat) (st : Int) (lv mv : Value) : Prop where
  low : B ≤ tb
  tag : ∃ arr, w.heap[tb]? = some (.cells arr 47 (0, 0))
  c0 : w.cell? ⟨tb, 0, none⟩ = some (.func (.func 12) #[] #[])
  c1 : w.cell? ⟨tb, 1, none⟩ = some (.int .i32 st)
  c3 : w.cell? ⟨tb, 3, none⟩ = some lv
  c4 : w.cell? ⟨tb, 4, none⟩ = some mv

theorem Tab.lt {w : World} {B tb : Nat} {st : Int} {lv mv : Value} (h : Tab w B tb st lv mv) : tb < w.heap.size := World.block_lt_of_cell? _ _ h.c0
theorem Tab.frozen {w : World} {B tb : Nat} {st : Int} {lv mv : Value} (h : Tab w B tb st lv mv) (o : Nat) : w.frozen? ⟨tb, o, none⟩ = false := by
  obtain ⟨arr, ha⟩ := h.tag
  simp [World.frozen?, ha]
theorem Tab.block {w w' : World} {B tb : Nat} {st : Int} {lv mv : Value} (h : Tab w B tb st lv mv) (e : w'.heap[tb]? = w.heap[tb]?) : Tab w' B tb st lv mv := by
  refine ⟨h.low, ?_, ?_, ?_, ?_, ?_⟩
  · rw [e]; exact h.tag
  · exact (World.cell?_of_block (w := w) (a := ⟨tb, 0, none⟩) e).trans h.c0
  · exact (World.cell?_of_block (w := w) (a := ⟨tb, 1, none⟩) e).trans h.c1
  · exact (World.cell?_of_block (w := w) (a := ⟨tb, 3, none⟩) e).trans h.c3
  · exact (World.cell?_of_block (w := w) (a := ⟨tb, 4, none⟩) e).trans h.c4
theorem tag_set {w : World} {tb : Nat} {T : TypeId} (h : ∃ arr, w.heap[tb]? = some (.cells arr T (0, 0))) (o : Nat) (v : Value) : ∃ arr, (w.setCell ⟨tb, o, none⟩ v).heap[tb]? = some (.cells arr T (0, 0)) := by
  obtain ⟨arr, ha⟩ := h
  simp only [World.setCell, Array.getElem?_modify, ha]
  exact ⟨_, rfl⟩
theorem Tab.set1 {w : World} {B tb : Nat} {st : Int} {lv mv : Value} (h : Tab w B tb st lv mv) (n : Int) : Tab (w.setCell ⟨tb, 1, none⟩ (.int .i32 n)) B tb n lv mv := by
  refine ⟨h.low, tag_set h.tag 1 _, ?_, ?_, ?_, ?_⟩
  · exact (World.cell?_setCell_other w ⟨tb, 1, none⟩ ⟨tb, 0, none⟩ _ (by simp)).trans h.c0
  · exact World.cell?_setCell_same w ⟨tb, 1, none⟩ _ h.c1
  · exact (World.cell?_setCell_other w ⟨tb, 1, none⟩ ⟨tb, 3, none⟩ _ (by simp)).trans h.c3
  · exact (World.cell?_setCell_other w ⟨tb, 1, none⟩ ⟨tb, 4, none⟩ _ (by simp)).trans h.c4
theorem Tab.set3 {w : World} {B tb : Nat} {st : Int} {lv mv : Value} (h : Tab w B tb st lv mv) (v : Value) : Tab (w.setCell ⟨tb, 3, none⟩ v) B tb st v mv := by
  refine ⟨h.low, tag_set h.tag 3 _, ?_, ?_, ?_, ?_⟩
  · exact (World.cell?_setCell_other w ⟨tb, 3, none⟩ ⟨tb, 0, none⟩ _ (by simp)).trans h.c0
  · exact (World.cell?_setCell_other w ⟨tb, 3, none⟩ ⟨tb, 1, none⟩ _ (by simp)).trans h.c1
  · exact World.cell?_setCell_same w ⟨tb, 3, none⟩ _ h.c3
  · exact (World.cell?_setCell_other w ⟨tb, 3, none⟩ ⟨tb, 4, none⟩ _ (by simp)).trans h.c4
theorem Tab.set4 {w : World} {B tb : Nat} {st : Int} {lv mv : Value} (h : Tab w B tb st lv mv) (v : Value) : Tab (w.setCell ⟨tb, 4, none⟩ v) B tb st lv v := by
  refine ⟨h.low, tag_set h.tag 4 _, ?_, ?_, ?_, ?_⟩
  · exact (World.cell?_setCell_other w ⟨tb, 4, none⟩ ⟨tb, 0, none⟩ _ (by simp)).trans h.c0
  · exact (World.cell?_setCell_other w ⟨tb, 4, none⟩ ⟨tb, 1, none⟩ _ (by simp)).trans h.c1
  · exact (World.cell?_setCell_other w ⟨tb, 4, none⟩ ⟨tb, 3, none⟩ _ (by simp)).trans h.c3
  · exact World.cell?_setCell_same w ⟨tb, 4, none⟩ _ h.c4

/-- The numbers' map: nil, or the entries of L. -/
def MapAt (w : World) (B : Nat) (mv : Value) (L : List Src) : Prop :=
  (mv = .map none ∧ L = []) ∨ ∃ (mb : Nat) (es : Array MapEntry) (c : Nat), mv = .map (some mb) ∧ B ≤ mb ∧ w.heap[mb]? = some (Obj.map es c) ∧ Says es.toList (ents L)

theorem MapAt.block {w w' : World} {B : Nat} {mv : Value} {L : List Src} (h : MapAt w B mv L) (e : ∀ (k : Nat) (es : Array MapEntry) (c : Nat), w.heap[k]? = some (Obj.map es c) → w'.heap[k]? = w.heap[k]?) : MapAt w' B mv L := by
  rcases h with h | ⟨mb, es, c, h1, h2, h3, h4⟩
  · exact Or.inl h
  · exact Or.inr ⟨mb, es, c, h1, h2, (e mb es c h3).trans h3, h4⟩
theorem MapAt.look {w : World} {B : Nat} {mv : Value} {L : List Src} (h : MapAt w B mv L) (k : Src) : (Instr.lookup 45 mv (kv k) true).run Try.prog w = .ok (lookE k (ents L)) w := by
  rcases h with ⟨rfl, rfl⟩ | ⟨mb, es, c, rfl, _, h3, h4⟩
  · exact run_look_nil k w
  · exact run_look k w mb es c (ents L) h3 h4

/-- What a call that works on the table leaves of all else: below B nothing turns, and no row of the laws' own sources does. -/
structure Keep (B : Nat) (w w' : World) : Prop where
  below : Below B w w'
  rows : ∀ (k : Nat) (cur : Array Value), w.heap[k]? = some (.cells cur 25 (0, 0)) → w'.heap[k]? = some (.cells cur 25 (0, 0))
theorem Keep.refl (B : Nat) (w : World) : Keep B w w := ⟨Below.refl _ _, fun _ _ h => h⟩
theorem Keep.trans {B : Nat} {a b c : World} (h : Keep B a b) (k : Keep B b c) : Keep B a c := ⟨h.below.trans k.below, fun i cur hi => k.rows i cur (h.rows i cur hi)⟩
theorem Keep.of {B : Nat} {w w' : World} (hB : B ≤ w.heap.size) (h : Below w.heap.size w w') : Keep B w w' :=
  ⟨h.mono hB, fun k _ hk => (h.block k (Array.getElem?_eq_some_iff.1 hk).1).trans hk⟩
theorem Keep.row {B : Nat} {w w' : World} (h : Keep B w w') {base : Nat} {size n : Nat} {v : Value} {xs : List Value} (ho : w.ownsRow base 25 size v n xs) : w'.ownsRow base 25 size v n xs := by
  refine ⟨ho.1, ?_⟩
  rcases ho.2 with hn | ⟨g, cap, cur, h1, h2, h3, rest⟩
  · exact Or.inl hn
  · exact Or.inr ⟨g, cap, cur, h1, h2, h.rows g cur h3, rest⟩
theorem heap_set_other (w : World) (a : Addr) (v : Value) (k : Nat) (h : k ≠ a.block) : (w.setCell a v).heap[k]? = w.heap[k]? := Below.heap_setCell w a v k h
/-- A store into the table's own block. -/
theorem Keep.set {B : Nat} {w : World} {tb : Nat} (hB : B ≤ tb) (ht : ∃ arr, w.heap[tb]? = some (.cells arr 47 (0, 0))) (o : Nat) (v : Value) : Keep B w (w.setCell ⟨tb, o, none⟩ v) := by
  refine ⟨(Below.refl _ _).setCell hB _, fun k cur hk => ?_⟩
  rw [heap_set_other _ _ _ _ (fun e => ?_)]
  · exact hk
  · have e' : k = tb := e
    subst e'
    obtain ⟨arr, ha⟩ := ht
    rw [ha] at hk
    simp at hk
/-- What is appended to a row of the table's. -/
theorem Keep.grown {B : Nat} {w w' : World} {v : Value} {n : Nat} {xs : List Value} (ho : w.ownsRow B 32 2 v n xs) (hB : B ≤ w.heap.size) (hg : w.grownBy w' v.ownBlock) : Keep B w w' := by
  refine ⟨(Below.refl _ _).grown hg hB (fun k hk => (ho.lt k hk).1), fun k cur hk => ?_⟩
  rw [hg.block k (Array.getElem?_eq_some_iff.1 hk).1 (fun e => ?_)]
  · exact hk
  · rcases ho.2 with ⟨rfl, _⟩ | ⟨g, cap, cur', rfl, _, h3, _⟩
    · cases e
    · have e' : k = g := Option.some.inj e
      subst e'
      rw [h3] at hk
      simp at hk
/-- A turn of the numbers' map. -/
theorem Keep.turned {B : Nat} {w : World} {mb : Nat} {es : Array MapEntry} {c : Nat} (hB : B ≤ mb) (hm : w.heap[mb]? = some (Obj.map es c)) (o : Obj) : Keep B w { w with heap := w.heap.setIfInBounds mb o } := by
  have hne : ∀ k, k ≠ mb → (w.heap.setIfInBounds mb o)[k]? = w.heap[k]? := fun k hk => by simp [Ne.symm hk]
  refine ⟨⟨rfl, rfl, rfl, by simp, fun k hk => hne k (by omega)⟩, fun k cur hk => ?_⟩
  show (w.heap.setIfInBounds mb o)[k]? = _
  rw [hne k (fun e => ?_)]
  · exact hk
  · subst e
    rw [hm] at hk
    simp at hk
end Go.Proofs.Qxb6618653a
