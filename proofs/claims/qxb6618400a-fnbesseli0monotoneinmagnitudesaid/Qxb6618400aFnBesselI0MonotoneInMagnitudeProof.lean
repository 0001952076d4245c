import Derived.Test.Qxb6618400aRows
import Derived.Test.Qxb6618400aWalkE
import Derived.WalkKit
import Derived.ProofKit
import Derived.OpenShut
import Derived.ShutString
namespace Go.Proofs.Qxb6618400a.fnBesselI0MonotoneInMagnitude
open Go.ChangeShapes Go.WideShapes Go.ChangeAt Go.RowKit
open Fl
set_option linter.unusedVariables false      -- a walk need not use every 'w<i>' (that an integer argument fits its kind)

theorem own : ownKnob Try.prog.godebug = none := by kernel_rfl

/-! ### The walk -/
set_option maxHeartbeats 1000000 in
theorem walk (a0 : Nat) (a1 : Nat) (w0 : (Lit.float .f64 a0).wf = true) (w1 : (Lit.float .f64 a1).wf = true) (w : World) :
    Calls Try.prog 4 #[.float .f64 a0, .float .f64 a1] w fun e w' => e = .returned (.bool true) ∧ Grown w w' := by
  obtain ⟨s, r, rfl, hr⟩ := split_bits a0 w0
  obtain ⟨t, q, rfl, hq⟩ := split_bits a1 w1
  clear w0 w1
  by_cases hr' : r ≤ INF
  · have h1 := num_ne s r hr'
    by_cases hq' : q ≤ INF
    · have h2 := num_ne t q hq'
      have h3 := abs_cmp s t r q hr' hq'
      by_cases c : q < r
      · rw [decide_eq_true c] at h3
        have h4 : (FloatKind.f64.format.order (BesX q) (BesX r) == some Ordering.lt || FloatKind.f64.format.order (BesX q) (BesX r) == some Ordering.eq) = true := by
          rw [cmp_le besX_le besX_le]
          exact decide_eq_true (besX_mono (Nat.le_of_lt c))
        go_enter Try.func4, Try.ntmps4
        go_wp2_with fail
        refine (abs_num s r hr' _).mono ?_
        rintro e w' ⟨rfl, rfl⟩
        go_wp2_with fail
        refine (abs_num t q hq' _).mono ?_
        rintro e w' ⟨rfl, rfl⟩
        go_wp2_with fail
        refine (zz_num t q hq' _).mono ?_
        rintro e w' ⟨rfl, rfl⟩
        go_wp2_with fail
        refine (zz_num s r hr' _).mono ?_
        rintro e w' ⟨rfl, rfl⟩
        go_wp2_with fail
        refine (spec_num t q hq' _).mono ?_
        rintro e w' ⟨rfl, rfl⟩
        go_wp2_with fail
        refine (spec_num s r hr' _).mono ?_
        rintro e w' ⟨rfl, rfl⟩
        go_wp2_with fail
        go_ret
        exact ⟨rfl, Grown.refl _⟩
      · rw [decide_eq_false c] at h3
        have h4 : (FloatKind.f64.format.order (BesX r) (BesX q) == some Ordering.lt || FloatKind.f64.format.order (BesX r) (BesX q) == some Ordering.eq) = true := by
          rw [cmp_le besX_le besX_le]
          exact decide_eq_true (besX_mono (Nat.le_of_not_lt c))
        go_enter Try.func4, Try.ntmps4
        go_wp2_with fail
        refine (abs_num s r hr' _).mono ?_
        rintro e w' ⟨rfl, rfl⟩
        go_wp2_with fail
        refine (abs_num t q hq' _).mono ?_
        rintro e w' ⟨rfl, rfl⟩
        go_wp2_with fail
        refine (zz_num s r hr' _).mono ?_
        rintro e w' ⟨rfl, rfl⟩
        go_wp2_with fail
        refine (zz_num t q hq' _).mono ?_
        rintro e w' ⟨rfl, rfl⟩
        go_wp2_with fail
        refine (spec_num s r hr' _).mono ?_
        rintro e w' ⟨rfl, rfl⟩
        go_wp2_with fail
        refine (spec_num t q hq' _).mono ?_
        rintro e w' ⟨rfl, rfl⟩
        go_wp2_with fail
        go_ret
        exact ⟨rfl, Grown.refl _⟩
    · have h2 := nan_ne (a := W t q) ⟨t, q, rfl, by omega, hq⟩
      go_enter Try.func4, Try.ntmps4
      go_wp2
      go_ret
      exact ⟨rfl, Grown.refl _⟩
  · have h1 := nan_ne (a := W s r) ⟨s, r, rfl, by omega, hr⟩
    go_enter Try.func4, Try.ntmps4
    go_wp2
    go_ret
    exact ⟨rfl, Grown.refl _⟩

/-! ### THE ROW's STEP: WRITTEN OUT: LEAVE IT -/
set_option maxRecDepth 100000 in
theorem lifted (os : Os) (started : os.Started) (H : Type) (enc : TypeId × Value → H) :
    ReturnsInHanded {} Try.checked os 4 .any (Rows.fnBesselI0MonotoneInMagnitudeSpec.pre6 enc Try.prog Try.f4 Rows.fnBesselI0MonotoneInMagnitudeRow.domain false) (Rows.fnBesselI0MonotoneInMagnitudeSpec.post enc Try.prog Try.f4 false true false false) := by
  refine returnsInHanded_of_change (C := Try.checked) own started (by kernel_rfl) Try.func4
    (ChangeSpec.witness6 (enc := enc) (C := Try.checked) false ⟨#[], #[.float .f64 0, .float .f64 0], []⟩ 8 (by kernel_rfl) (by kernel_rfl) (by kernel_rfl) (by kernel_rfl)) ?_
  intro W base args ds gs before hval0 hW hcnd _
  have hval : ∀ (j : Nat) t v, Try.f4.params[j]? = some t → args[j]? = some v → Value.okWide Try.prog W .any base t v := hval0
  have hW' := hW
  obtain ⟨p, q, hA0, hV, rfl, hfz, hnd⟩ := hW
  have hA : DataW.TrodAll enc Try.prog W 0 (fun _ => true) true Try.f4.params.toList args.toList ds p := hA0
  rw [Try.params4] at hA hval
  obtain ⟨v0, vs0, d0, ds0, p0, q0, hargs, rfl, rfl, h0, r0⟩ := trodAll_cons hA
  obtain ⟨v1, vs1, d1, ds1, p1, q1, rfl, rfl, rfl, h1, r1⟩ := trodAll_cons r0
  obtain ⟨rfl, rfl, rfl⟩ := trodAll_nil r1
  obtain rfl : args = #[v0, v1] := by cases args; simp_all
  obtain ⟨rfl, rfl⟩ := trodVars_none hV
  obtain ⟨a0, rfl, rfl, rfl, w0⟩ := open_float Try.underlying22 (hval 0 22 v0 rfl rfl) h0
  obtain ⟨a1, rfl, rfl, rfl, w1⟩ := open_float Try.underlying22 (hval 1 22 v1 rfl rfl) h1
  clear hA0 hval0
  simp only [List.append_nil] at hW'
  refine (walk a0 a1 w0 w1 W).mono fun e W' ⟨he, hg⟩ => ?_
  subst he
  exact ⟨_, rfl, post_of_same (pa := []) (pv := []) hW' (fun _ _ _ => (trodAll_cons_mk (shut_bool Try.underlying4 _) trodAll_mk0)) (fun sp _ => (trodAll_cons_mk (shut_float Try.underlying22 w0) (trodAll_cons_mk (shut_float Try.underlying22 w1) trodAll_mk0))) (fun _ _ => rfl) rfl
    (hg.frame _) hg.2.1 (ok_one (by kernel_rfl) rfl (okWide_bool_mk Try.underlying4 _))⟩

theorem over : Rows.fnBesselI0MonotoneInMagnitudeRow.holds Try.pinned (OpenSpec.ofChange Rows.fnBesselI0MonotoneInMagnitudeSpec) :=
  OpenClaim.holds_of_wide 4 Try.f4 rfl rfl rfl rfl rfl rfl rfl ⟨rfl, rfl, rfl, rfl, rfl⟩ rfl rfl rfl rfl rfl (by kernel_rfl) Try.func4 (by kernel_rfl)
    (of_decide_eq_true (by kernel_rfl)) (by unfold Func.isWrapper; first | (rw [if_pos (by decide +kernel)]; kernel_rfl) | (rw [if_neg (by decide +kernel)]; exact ⟨rfl, rfl⟩))
    (fun os started H enc _ => lifted os started H enc)

/-- The statement. -/
theorem proved : Rows.FnBesselI0MonotoneInMagnitudeSaid :=
  over
end Go.Proofs.Qxb6618400a.fnBesselI0MonotoneInMagnitude
