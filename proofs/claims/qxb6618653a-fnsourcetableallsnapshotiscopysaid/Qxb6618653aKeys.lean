import Derived.Test.Qxb6618653aRows
import Derived.WalkKit
import Derived.WalkSpells
import Derived.Laws.StructEq
import Derived.MapKept
/-! A map keyed by a struct of two strings: what its operations do, entry by entry. -/
namespace Go.Proofs.Qxb6618653a
open Go.RowKit Go.MapKept

/-- A source: its name and its URL. -/
abbrev Src := ByteArray × ByteArray
def kv (s : Src) : Value := .agg #[.string s.1, .string s.2]
def eqSrc (a b : Src) : Bool := a.1.toList == b.1.toList && a.2.toList == b.2.toList

theorem run_part0 (a b : ByteArray) (w : World) : (part 9 #[.string a, .string b] 0).run Try.prog w = .ok (.string a) w := by kernel_rfl
theorem run_part1 (a b : ByteArray) (w : World) : (part 9 #[.string a, .string b] 1).run Try.prog w = .ok (.string b) w := by kernel_rfl

theorem run_equal_src (a b : Src) (w : World) : (Op.equal 32 (kv a) (kv b)).run Try.prog w = .ok (eqSrc a b) w := by
  have hf : Try.prog.underlying 32 = some (.struct (Try.prog.fieldsOf 32)) := by simp [Program.fieldsOf, Try.underlying32]
  have hp : Try.prog.stoodInHeld 32 = false := by kernel_rfl
  have e : Try.prog.fieldsOf 32 = #[{ name := "Name", type := 9, offset := 0, embedded := false, tag := "", pkgPath := "", byteOffset := 0 }, { name := "URL", type := 9, offset := 1, embedded := false, tag := "", pkgPath := "", byteOffset := 16 }] := by simp [Program.fieldsOf, Try.underlying32]
  unfold Op.equal Op.maxDepth kv
  rw [run_equalIn_struct w 9999 32 _ _ hf hp, e]
  have s9 : Try.prog.underlying 9 = some .string := Try.underlying9
  simp [Op.eqFields, run_equalIn_string _ _ _ _ _ s9, run_part0, run_part1, eqSrc]
  by_cases h1 : a.1.toList = b.1.toList <;> by_cases h2 : a.2.toList = b.2.toList <;> simp [h1, h2]

theorem check_str (n : Nat) (em : Bool) (a : ByteArray) (w : World) : (Instr.checkKey em (n + 1) 9 (.string a)).run Try.prog w = .ok () w := by
  simp [Instr.checkKey, run_underlying Try.underlying9]
theorem check_two (m : Nat) (em : Bool) (h : ∀ (a : ByteArray) (w : World), (Instr.checkKey em m 9 (.string a)).run Try.prog w = .ok () w) (a : Src) (w : World) : (Instr.checkKey em (m + 1) 32 (kv a)).run Try.prog w = .ok () w := by
  unfold kv
  simp [Instr.checkKey, run_underlying Try.underlying32, run_part0, run_part1, h]
theorem run_check_src (a : Src) (em : Bool) (w : World) : (Instr.checkKey em 10000 32 (kv a)).run Try.prog w = .ok () w :=
  check_two 9999 em (fun b w => check_str 9998 em b w) a w

/-! ### Finding a key -/
/-- The entry of a key among entries that are given as a list. -/
def findE (k : Src) : List (Src × Int) → Nat → Option (Nat × Value)
  | [], _ => none
  | p :: l, i => if eqSrc k p.1 then some (i, .int .i64 p.2) else findE k l (i + 1)
/-- What the entries of a map's block say. -/
def Says (es : List MapEntry) (l : List (Src × Int)) : Prop := es.map (fun x => (x.key, x.val)) = l.map (fun p => (kv p.1, Value.int .i64 p.2))

theorem run_asking (k : Src) (w : World) : ∀ (es : List MapEntry) (l : List (Src × Int)) (i : Nat), Says es l → (Instr.findAsking 32 (kv k) es i).run Try.prog w = .ok (findE k l i) w := by
  intro es
  induction es with
  | nil =>
    intro l i h
    cases l with
    | nil => simp [Instr.findAsking, findE]
    | cons p l => simp [Says] at h
  | cons x es ih =>
    intro l i h
    cases l with
    | nil => simp [Says] at h
    | cons p l =>
      simp [Says] at h
      obtain ⟨⟨h1, h2⟩, h3⟩ := h
      have i1 := ih l (i + 1) h3
      by_cases c : eqSrc k p.1 = true
      · simp [Instr.findAsking, findE, h1, h2, run_equal_src, c]
      · have c' : eqSrc k p.1 = false := by simpa using c
        simp [Instr.findAsking, findE, h1, run_equal_src, c', i1]

theorem now_struct (fs : Array Field) (k : Src) (es : List MapEntry) (i : Nat) : Instr.findNow (.struct fs) (kv k) es i = if es.isEmpty then some none else none := by
  cases es with
  | nil => rfl
  | cons x es => simp [Instr.findNow, Instr.sameNow]

theorem run_find (k : Src) (w : World) (es : List MapEntry) (l : List (Src × Int)) (h : Says es l) : (Instr.findKey 32 (kv k) es).run Try.prog w = .ok (findE k l 0) w := by
  have ha := run_asking k w es l 0 h
  simp only [Instr.findKey, Sem.run_bind, run_underlying Try.underlying32, Result.andThen_ok, now_struct]
  cases es with
  | nil =>
    cases l with
    | nil => simp [findE]
    | cons p l => simp [Says] at h
  | cons x es => simpa using ha

/-- The lookup with its comma and ok. -/
def lookE (k : Src) (l : List (Src × Int)) : Value :=
  match findE k l 0 with
  | some (_, v) => .tuple #[v, .bool true]
  | none => .tuple #[.int .i64 0, .bool false]
theorem run_look_nil (k : Src) (w : World) : (Instr.lookup 45 (.map none) (kv k) true).run Try.prog w = .ok (lookE k []) w := by
  have hf := run_find k w [] [] rfl
  have hz : (zeroValue 3).run Try.prog w = .ok (.int .i64 0) w := Try.zeroValue3 w
  simp [Instr.lookup, run_underlying Try.underlying45, run_check_src, hf, lookE, findE, hz]
theorem run_look (k : Src) (w : World) (r : Nat) (es : Array MapEntry) (c : Nat) (l : List (Src × Int)) (hb : w.heap[r]? = some (.map es c)) (h : Says es.toList l) :
    (Instr.lookup 45 (.map (some r)) (kv k) true).run Try.prog w = .ok (lookE k l) w := by
  have hf := run_find k w es.toList l h
  have hz : (zeroValue 3).run Try.prog w = .ok (.int .i64 0) w := Try.zeroValue3 w
  have hg : (getObj r).run Try.prog w = .ok (.map es c) w := Go.MapKept.run_getObj_map hb
  unfold lookE
  cases hc : findE k l 0 with
  | none => rw [hc] at hf; simp [Instr.lookup, run_underlying Try.underlying45, hg, run_check_src, hf, hz]
  | some p => rw [hc] at hf; simp [Instr.lookup, run_underlying Try.underlying45, hg, run_check_src, hf]

/-- A new entry. -/
theorem run_put_new (k : Src) (v : Int) (w : World) (r : Nat) (es : Array MapEntry) (c : Nat) (l : List (Src × Int)) (hb : w.heap[r]? = some (.map es c)) (h : Says es.toList l) (hn : findE k l 0 = none) :
    (Instr.mapUpdate 45 (.map (some r)) (kv k) (.int .i64 v)).run Try.prog w = .ok () { w with heap := w.heap.setIfInBounds r (.map (es.push { key := kv k, val := .int .i64 v, born := c }) (c + 1)) } := by
  have hf := run_find k w es.toList l h
  rw [hn] at hf
  have hg : (getObj r).run Try.prog w = .ok (.map es c) w := Go.MapKept.run_getObj_map hb
  have hs := fun o => Go.MapKept.run_setObj_map (P := Try.prog) o hb
  simp [Instr.mapUpdate, run_underlying Try.underlying45, hg, run_check_src, hf, hs]
theorem says_push (es : Array MapEntry) (l : List (Src × Int)) (h : Says es.toList l) (k : Src) (v : Int) (c : Nat) : Says (es.push { key := kv k, val := .int .i64 v, born := c }).toList (l ++ [(k, v)]) := by
  unfold Says at *
  simp [h]
end Go.Proofs.Qxb6618653a
