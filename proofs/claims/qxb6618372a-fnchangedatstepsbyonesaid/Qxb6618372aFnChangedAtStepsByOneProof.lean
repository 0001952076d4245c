import Derived.Test.Qxb6618372aRows
import Derived.Test.Qxb6618372aWalksA
import Derived.WalkKit
import Derived.ProofKit
import Derived.OpenShut
import Derived.ShutString
namespace Go.Proofs.Qxb6618372a.fnChangedAtStepsByOne
open Go.ChangeShapes Go.WideShapes Go.ChangeAt Go.RowKit
open Go.ChangeMaps (open_string shut_string)
set_option linter.unusedVariables false      -- a walk need not use every 'w<i>' (that an integer argument fits its kind)

theorem own : ownKnob Try.prog.godebug = none := by kernel_rfl

/-! ### The plain law -/
theorem next_same (n : Int) (h : ¬ colOf n % 4294967296 = 4294967295) : lineOf (n + 1) = lineOf n ∧ colOf (n + 1) = wrap32 (colOf n + 1) := by
  unfold lineOf colOf wrap32 at *; omega
theorem next_carry (n : Int) (h0 : 0 < n) (h1 : n < 9223372036854775807) (h : colOf n % 4294967296 = 4294967295) : lineOf (n + 1) = wrap32 (lineOf n - 1) ∧ colOf (n + 1) = 0 := by
  unfold lineOf colOf wrap32 at *; omega

/-! ### The walk -/
set_option maxHeartbeats 400000 in
theorem walk (a0 : Int) (w0 : (Lit.int .i64 a0).wf = true) (w : World) :
    Calls Try.prog 3 #[.int .i64 a0] w fun e w' => e = .returned (.bool true) ∧ Grown w w' := by
  by_cases h0 : a0 ≤ 0
  · go_enter Try.func3, Try.ntmps3
    go_wp2
    go_ret
    exact ⟨rfl, Grown.refl _⟩
  by_cases h1 : 9223372036854775807 ≤ a0
  · go_enter Try.func3, Try.ntmps3
    go_wp2
    go_ret
    exact ⟨rfl, Grown.refl _⟩
  have p0 : 0 < a0 := by omega
  have p1 : a0 ≤ 9223372036854775807 := by omega
  have q1 : a0 + 1 ≤ 9223372036854775807 := by omega
  have n1 := line_neg a0 p0
  by_cases hc : colOf a0 % 4294967296 = 4294967295
  · obtain ⟨e1, e2⟩ := next_carry a0 p0 (by omega) hc
    have n2 : lineOf (a0 + 1) < 0 := line_neg (a0 + 1) (by omega)
    have b1 : (lineOf (a0 + 1) == wrap32 (lineOf a0 - 1)) = true := beq_iff_eq.2 e1
    have b2 : (colOf (a0 + 1) == 0) = true := beq_iff_eq.2 e2
    clear e1 e2
    go_enter Try.func3, Try.ntmps3
    go_wp2_with fail
    refine (zzChangedAt_any a0 p0 p1 _).mono ?_
    rintro e w' ⟨rfl, c1, c2, k, rfl⟩
    go_wp2_with fail
    refine (zzChangedAt_any (a0 + 1) (by omega) q1 _).mono ?_
    rintro e w' ⟨rfl, c3, c4, k', rfl⟩
    go_wp2_with fail
    refine (decode_of a0 p0 p1 _).mono ?_
    rintro e w' ⟨rfl, rfl⟩
    go_wp2_with fail
    go_ret
    exact ⟨rfl, grown_drewN (((grown_drewN (((Grown.refl _).alloc _ _).alloc _ _) _).alloc _ _).alloc _ _) _⟩
  · obtain ⟨e1, e2⟩ := next_same a0 hc
    have n2 : lineOf (a0 + 1) < 0 := line_neg (a0 + 1) (by omega)
    have b1 : (lineOf (a0 + 1) == lineOf a0) = true := beq_iff_eq.2 e1
    have b2 : (colOf (a0 + 1) == wrap32 (colOf a0 + 1)) = true := beq_iff_eq.2 e2
    clear e1 e2
    go_enter Try.func3, Try.ntmps3
    go_wp2_with fail
    refine (zzChangedAt_any a0 p0 p1 _).mono ?_
    rintro e w' ⟨rfl, c1, c2, k, rfl⟩
    go_wp2_with fail
    refine (zzChangedAt_any (a0 + 1) (by omega) q1 _).mono ?_
    rintro e w' ⟨rfl, c3, c4, k', rfl⟩
    go_wp2_with fail
    refine (decode_of a0 p0 p1 _).mono ?_
    rintro e w' ⟨rfl, rfl⟩
    go_wp2_with fail
    go_ret
    exact ⟨rfl, grown_drewN (((grown_drewN (((Grown.refl _).alloc _ _).alloc _ _) _).alloc _ _).alloc _ _) _⟩

/-! ### THE ROW's STEP: WRITTEN OUT: LEAVE IT -/
set_option maxRecDepth 100000 in
theorem lifted (os : Os) (started : os.Started) (H : Type) (enc : TypeId × Value → H) :
    ReturnsInHanded {} Try.checked os 3 .any (Rows.fnChangedAtStepsByOneSpec.pre6 enc Try.prog Try.f3 Rows.fnChangedAtStepsByOneRow.domain false) (Rows.fnChangedAtStepsByOneSpec.post enc Try.prog Try.f3 false true false false) := by
  refine returnsInHanded_of_change (C := Try.checked) own started (by kernel_rfl) Try.func3
    (ChangeSpec.witness6 (enc := enc) (C := Try.checked) false ⟨#[], #[.int .i64 0], []⟩ 8 (by kernel_rfl) (by kernel_rfl) (by kernel_rfl) (by kernel_rfl)) ?_
  intro W base args ds gs before hval0 hW hcnd _
  have hval : ∀ (j : Nat) t v, Try.f3.params[j]? = some t → args[j]? = some v → Value.okWide Try.prog W .any base t v := hval0
  have hW' := hW
  obtain ⟨p, q, hA0, hV, rfl, hfz, hnd⟩ := hW
  have hA : DataW.TrodAll enc Try.prog W 0 (fun _ => true) true Try.f3.params.toList args.toList ds p := hA0
  rw [Try.params3] at hA hval
  obtain ⟨v0, vs0, d0, ds0, p0, q0, hargs, rfl, rfl, h0, r0⟩ := trodAll_cons hA
  obtain ⟨rfl, rfl, rfl⟩ := trodAll_nil r0
  obtain rfl : args = #[v0] := by cases args; simp_all
  obtain ⟨rfl, rfl⟩ := trodVars_none hV
  obtain ⟨a0, rfl, rfl, rfl, w0⟩ := open_int Try.underlying3 (hval 0 3 v0 rfl rfl) h0
  clear hA0 hval0
  simp only [List.append_nil] at hW'
  refine (walk a0 w0 W).mono fun e W' ⟨he, hg⟩ => ?_
  subst he
  exact ⟨_, rfl, post_of_same (pa := []) (pv := []) hW' (fun _ _ _ => (trodAll_cons_mk (shut_bool Try.underlying4 _) trodAll_mk0)) (fun sp _ => (trodAll_cons_mk (shut_int Try.underlying3 w0) trodAll_mk0)) (fun _ _ => rfl) rfl
    (hg.frame _) hg.2.1 (ok_one (by kernel_rfl) rfl (okWide_bool_mk Try.underlying4 _))⟩

theorem over : Rows.fnChangedAtStepsByOneRow.holds Try.pinned (OpenSpec.ofChange Rows.fnChangedAtStepsByOneSpec) :=
  OpenClaim.holds_of_wide 3 Try.f3 rfl rfl rfl rfl rfl rfl rfl ⟨rfl, rfl, rfl, rfl, rfl⟩ rfl rfl rfl rfl rfl (by kernel_rfl) Try.func3 (by kernel_rfl)
    (of_decide_eq_true (by kernel_rfl)) (by unfold Func.isWrapper; first | (rw [if_pos (by decide +kernel)]; kernel_rfl) | (rw [if_neg (by decide +kernel)]; exact ⟨rfl, rfl⟩))
    (fun os started H enc _ => lifted os started H enc)

/-- The statement. -/
theorem proved : Rows.FnChangedAtStepsByOneSaid :=
  over
end Go.Proofs.Qxb6618372a.fnChangedAtStepsByOne
