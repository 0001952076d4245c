import Derived.Test.Qxb6618653aOpen
import Derived.ShutString
namespace Go.Proofs.Qxb6618653a.fnSourceTableNumbersFirstRetrievals
open Go.ChangeShapes Go.WideShapes Go.ChangeAt Go.RowKit

theorem own : ownKnob Try.prog.godebug = none := by kernel_rfl

set_option maxRecDepth 100000 in
theorem lifted (os : Os) (started : os.Started) (H : Type) (enc : TypeId × Value → H) :
    ReturnsInHanded {} Try.checked os 3 .any (Rows.fnSourceTableNumbersFirstRetrievalsSpec.pre6 enc Try.prog Try.f3 Rows.fnSourceTableNumbersFirstRetrievalsRow.domain false) (Rows.fnSourceTableNumbersFirstRetrievalsSpec.post enc Try.prog Try.f3 false true false false) := by
  refine returnsInHanded_of_change (C := Try.checked) own started (by kernel_rfl) Try.func3
    (ChangeSpec.witness6 (enc := enc) (C := Try.checked) false ⟨#[], #[.slice none 0 0], []⟩ 8 (by kernel_rfl) (by kernel_rfl) (by kernel_rfl) (by kernel_rfl)) ?_
  intro W base args ds gs before hval0 hW _ _
  have hval : ∀ (j : Nat) t v, Try.f3.params[j]? = some t → args[j]? = some v → Value.okWide Try.prog W .any base t v := hval0
  have hW' := hW
  obtain ⟨p, q, hA0, hV, rfl, hfz, hnd⟩ := hW
  have hA : DataW.TrodAll enc Try.prog W 0 (fun _ => true) true Try.f3.params.toList args.toList ds p := hA0
  rw [Try.params3] at hA hval
  obtain ⟨v0, vs0, d0, ds0, p0, q0, hargs, rfl, rfl, h0, r0⟩ := trodAll_cons hA
  obtain ⟨rfl, rfl, rfl⟩ := trodAll_nil r0
  obtain rfl : args = #[v0] := by cases args; simp_all
  obtain ⟨rfl, rfl⟩ := trodVars_none hV
  obtain ⟨a0, len, cap, rfl⟩ := okWide_slice Try.underlying22 (hval 0 22 v0 rfl rfl)
  have h0k := h0
  obtain ⟨fuel, hf⟩ := h0
  obtain ⟨b, off, l, rfl, hml, hC⟩ := opened hf
  clear hA0 hval0
  simp only [List.append_nil] at hW'
  have hlt : ∀ x ∈ p0, x.block < W.heap.size := fun x hx => by simpa using hW'.lt x hx
  refine (law1 a0 b off cap l W hml hC).mono fun e W' ⟨he, hb⟩ => ?_
  subst he
  have hnew : DataW.Trod enc Try.prog W' 0 (fun b => decide (b < W.heap.size)) true 22 (.slice a0 l.length cap) d0 p0 :=
    Below.trod laid (by kernel_rfl) (of_decide_eq_true (by kernel_rfl)) h0k hb hlt
  exact ⟨_, rfl, _, _, _, [], p0 ++ [], [], hW', trodAll_cons_mk (shut_bool Try.underlying4 _) trodAll_mk0, trodAll_cons_mk hnew trodAll_mk0, rfl, hb.frame _, fun h => by cases h⟩

theorem over : Rows.fnSourceTableNumbersFirstRetrievalsRow.holds Try.pinned (OpenSpec.ofChange Rows.fnSourceTableNumbersFirstRetrievalsSpec) :=
  OpenClaim.holds_of_wide 3 Try.f3 rfl rfl rfl rfl rfl rfl rfl ⟨rfl, rfl, rfl, rfl, rfl⟩ rfl rfl rfl rfl rfl (by kernel_rfl) Try.func3 (by kernel_rfl)
    (of_decide_eq_true (by kernel_rfl)) (by unfold Func.isWrapper; first | (rw [if_pos (by decide +kernel)]; kernel_rfl) | (rw [if_neg (by decide +kernel)]; exact ⟨rfl, rfl⟩))
    (fun os started H enc _ => lifted os started H enc)

/-- The statement. -/
theorem proved : Rows.FnSourceTableNumbersFirstRetrievalsSaid :=
  over
end Go.Proofs.Qxb6618653a.fnSourceTableNumbersFirstRetrievals
