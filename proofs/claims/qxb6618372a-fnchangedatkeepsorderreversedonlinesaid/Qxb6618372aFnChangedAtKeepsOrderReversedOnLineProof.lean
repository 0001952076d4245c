import Derived.Test.Qxb6618372aRows
import Derived.Test.Qxb6618372aWalksA
import Derived.WalkKit
import Derived.ProofKit
import Derived.OpenShut
import Derived.ShutString
namespace Go.Proofs.Qxb6618372a.fnChangedAtKeepsOrderReversedOnLine
open Go.ChangeShapes Go.WideShapes Go.ChangeAt Go.RowKit
open Go.ChangeMaps (open_string shut_string)
set_option linter.unusedVariables false      -- a walk need not use every 'w<i>' (that an integer argument fits its kind)

theorem own : ownKnob Try.prog.godebug = none := by kernel_rfl

/-! ### The plain law -/
theorem line_lt (n m : Int) (h : lineOf m < lineOf n) : n < m := by unfold lineOf at h; omega
theorem same_line (n m : Int) (h : lineOf n = lineOf m) : n - colOf n % 4294967296 = m - colOf m % 4294967296 := by
  unfold lineOf colOf wrap32 at *; omega
theorem col_eq (n m : Int) (h : colOf n % 4294967296 = colOf m % 4294967296) : colOf n = colOf m := by
  unfold colOf wrap32 at *; omega

/-! ### The walk -/
set_option maxHeartbeats 1000000 in
theorem walk (a0 : Int) (a1 : Int) (w0 : (Lit.int .i64 a0).wf = true) (w1 : (Lit.int .i64 a1).wf = true) (w : World) :
    Calls Try.prog 4 #[.int .i64 a0, .int .i64 a1] w fun e w' => e = .returned (.bool true) ∧ Grown w w' := by
  have p1 : a0 ≤ 9223372036854775807 := by simp [Lit.wf, IntKind.min, IntKind.max, IntKind.signed, IntKind.bits] at w0; omega
  have q1 : a1 ≤ 9223372036854775807 := by simp [Lit.wf, IntKind.min, IntKind.max, IntKind.signed, IntKind.bits] at w1; omega
  by_cases h0 : a0 ≤ 0
  · go_enter Try.func4, Try.ntmps4
    go_wp2
    go_ret
    exact ⟨rfl, Grown.refl _⟩
  by_cases h1 : a1 ≤ 0
  · go_enter Try.func4, Try.ntmps4
    go_wp2
    go_ret
    exact ⟨rfl, Grown.refl _⟩
  have p0 : 0 < a0 := by omega
  have q0 : 0 < a1 := by omega
  rcases Int.lt_trichotomy (lineOf a0) (lineOf a1) with hl | hl | hl
  · have hlt := line_lt a1 a0 hl
    have b1 : decide (a0 < a1) = false := by simp; omega
    have b2 : (a0 == a1) = false := beq_eq_false_iff_ne.2 (by omega)
    have b3 : decide (lineOf a1 < lineOf a0) = false := by simp; omega
    have b4 : (lineOf a0 == lineOf a1) = false := beq_eq_false_iff_ne.2 (by omega)
    go_enter Try.func4, Try.ntmps4
    go_wp2_with fail
    refine (zzChangedAt_any a0 p0 p1 _).mono ?_
    rintro e w' ⟨rfl, c1, c2, k, rfl⟩
    go_wp2_with fail
    refine (zzChangedAt_any a1 q0 q1 _).mono ?_
    rintro e w' ⟨rfl, c3, c4, k', rfl⟩
    go_wp2_with fail
    refine (decode_of a0 p0 p1 _).mono ?_
    rintro e w' ⟨rfl, rfl⟩
    go_wp2_with fail
    refine (decode_of a1 q0 q1 _).mono ?_
    rintro e w' ⟨rfl, rfl⟩
    go_wp2_with fail
    go_ret
    exact ⟨rfl, grown_drewN (((grown_drewN (((Grown.refl _).alloc _ _).alloc _ _) _).alloc _ _).alloc _ _) _⟩
  · have hs := same_line a0 a1 hl
    have b3 : decide (lineOf a1 < lineOf a0) = false := by simp; omega
    have b4 : (lineOf a0 == lineOf a1) = true := beq_iff_eq.2 hl
    clear hl
    rcases Int.lt_trichotomy (colOf a0 % 4294967296) (colOf a1 % 4294967296) with hc | hc | hc
    · have b1 : decide (a0 < a1) = true := by simp; omega
      have b2 : (a0 == a1) = false := beq_eq_false_iff_ne.2 (by omega)
      have b5 : decide (colOf a0 % 4294967296 < colOf a1 % 4294967296) = true := by simpa using hc
      have b6 : (colOf a0 == colOf a1) = false := beq_eq_false_iff_ne.2 (fun h => by rw [h] at hc; omega)
      clear hs
      go_enter Try.func4, Try.ntmps4
      go_wp2_with fail
      refine (zzChangedAt_any a0 p0 p1 _).mono ?_
      rintro e w' ⟨rfl, c1, c2, k, rfl⟩
      go_wp2_with fail
      refine (zzChangedAt_any a1 q0 q1 _).mono ?_
      rintro e w' ⟨rfl, c3, c4, k', rfl⟩
      go_wp2_with fail
      refine (decode_of a0 p0 p1 _).mono ?_
      rintro e w' ⟨rfl, rfl⟩
      go_wp2_with fail
      refine (decode_of a1 q0 q1 _).mono ?_
      rintro e w' ⟨rfl, rfl⟩
      go_wp2_with fail
      go_ret
      exact ⟨rfl, grown_drewN (((grown_drewN (((Grown.refl _).alloc _ _).alloc _ _) _).alloc _ _).alloc _ _) _⟩
    · obtain rfl : a0 = a1 := by omega
      clear hs b4 hc
      go_enter Try.func4, Try.ntmps4
      go_wp2_with fail
      refine (zzChangedAt_any a0 p0 p1 _).mono ?_
      rintro e w' ⟨rfl, c1, c2, k, rfl⟩
      go_wp2_with fail
      refine (zzChangedAt_any a0 q0 q1 _).mono ?_
      rintro e w' ⟨rfl, c3, c4, k', rfl⟩
      go_wp2_with fail
      refine (decode_of a0 p0 p1 _).mono ?_
      rintro e w' ⟨rfl, rfl⟩
      go_wp2_with fail
      refine (decode_of a0 q0 q1 _).mono ?_
      rintro e w' ⟨rfl, rfl⟩
      go_wp2_with fail
      go_ret
      exact ⟨rfl, grown_drewN (((grown_drewN (((Grown.refl _).alloc _ _).alloc _ _) _).alloc _ _).alloc _ _) _⟩
    · have b1 : decide (a0 < a1) = false := by simp; omega
      have b2 : (a0 == a1) = false := beq_eq_false_iff_ne.2 (by omega)
      have b5 : decide (colOf a0 % 4294967296 < colOf a1 % 4294967296) = false := by simp; omega
      have b6 : (colOf a0 == colOf a1) = false := beq_eq_false_iff_ne.2 (fun h => by rw [h] at hc; omega)
      clear hs
      go_enter Try.func4, Try.ntmps4
      go_wp2_with fail
      refine (zzChangedAt_any a0 p0 p1 _).mono ?_
      rintro e w' ⟨rfl, c1, c2, k, rfl⟩
      go_wp2_with fail
      refine (zzChangedAt_any a1 q0 q1 _).mono ?_
      rintro e w' ⟨rfl, c3, c4, k', rfl⟩
      go_wp2_with fail
      refine (decode_of a0 p0 p1 _).mono ?_
      rintro e w' ⟨rfl, rfl⟩
      go_wp2_with fail
      refine (decode_of a1 q0 q1 _).mono ?_
      rintro e w' ⟨rfl, rfl⟩
      go_wp2_with fail
      go_ret
      exact ⟨rfl, grown_drewN (((grown_drewN (((Grown.refl _).alloc _ _).alloc _ _) _).alloc _ _).alloc _ _) _⟩
  · have hlt := line_lt a0 a1 hl
    have b1 : decide (a0 < a1) = true := by simpa using hlt
    have b2 : (a0 == a1) = false := beq_eq_false_iff_ne.2 (by omega)
    have b3 : decide (lineOf a1 < lineOf a0) = true := by simpa using hl
    have b4 : (lineOf a0 == lineOf a1) = false := beq_eq_false_iff_ne.2 (by omega)
    go_enter Try.func4, Try.ntmps4
    go_wp2_with fail
    refine (zzChangedAt_any a0 p0 p1 _).mono ?_
    rintro e w' ⟨rfl, c1, c2, k, rfl⟩
    go_wp2_with fail
    refine (zzChangedAt_any a1 q0 q1 _).mono ?_
    rintro e w' ⟨rfl, c3, c4, k', rfl⟩
    go_wp2_with fail
    refine (decode_of a0 p0 p1 _).mono ?_
    rintro e w' ⟨rfl, rfl⟩
    go_wp2_with fail
    refine (decode_of a1 q0 q1 _).mono ?_
    rintro e w' ⟨rfl, rfl⟩
    go_wp2_with fail
    go_ret
    exact ⟨rfl, grown_drewN (((grown_drewN (((Grown.refl _).alloc _ _).alloc _ _) _).alloc _ _).alloc _ _) _⟩

/-! ### THE ROW's STEP: WRITTEN OUT: LEAVE IT -/
set_option maxRecDepth 100000 in
theorem lifted (os : Os) (started : os.Started) (H : Type) (enc : TypeId × Value → H) :
    ReturnsInHanded {} Try.checked os 4 .any (Rows.fnChangedAtKeepsOrderReversedOnLineSpec.pre6 enc Try.prog Try.f4 Rows.fnChangedAtKeepsOrderReversedOnLineRow.domain false) (Rows.fnChangedAtKeepsOrderReversedOnLineSpec.post enc Try.prog Try.f4 false true false false) := by
  refine returnsInHanded_of_change (C := Try.checked) own started (by kernel_rfl) Try.func4
    (ChangeSpec.witness6 (enc := enc) (C := Try.checked) false ⟨#[], #[.int .i64 0, .int .i64 0], []⟩ 8 (by kernel_rfl) (by kernel_rfl) (by kernel_rfl) (by kernel_rfl)) ?_
  intro W base args ds gs before hval0 hW hcnd _
  have hval : ∀ (j : Nat) t v, Try.f4.params[j]? = some t → args[j]? = some v → Value.okWide Try.prog W .any base t v := hval0
  have hW' := hW
  obtain ⟨p, q, hA0, hV, rfl, hfz, hnd⟩ := hW
  have hA : DataW.TrodAll enc Try.prog W 0 (fun _ => true) true Try.f4.params.toList args.toList ds p := hA0
  rw [Try.params4] at hA hval
  obtain ⟨v0, vs0, d0, ds0, p0, q0, hargs, rfl, rfl, h0, r0⟩ := trodAll_cons hA
  obtain ⟨v1, vs1, d1, ds1, p1, q1, rfl, rfl, rfl, h1, r1⟩ := trodAll_cons r0
  obtain ⟨rfl, rfl, rfl⟩ := trodAll_nil r1
  obtain rfl : args = #[v0, v1] := by cases args; simp_all
  obtain ⟨rfl, rfl⟩ := trodVars_none hV
  obtain ⟨a0, rfl, rfl, rfl, w0⟩ := open_int Try.underlying3 (hval 0 3 v0 rfl rfl) h0
  obtain ⟨a1, rfl, rfl, rfl, w1⟩ := open_int Try.underlying3 (hval 1 3 v1 rfl rfl) h1
  clear hA0 hval0
  simp only [List.append_nil] at hW'
  refine (walk a0 a1 w0 w1 W).mono fun e W' ⟨he, hg⟩ => ?_
  subst he
  exact ⟨_, rfl, post_of_same (pa := []) (pv := []) hW' (fun _ _ _ => (trodAll_cons_mk (shut_bool Try.underlying4 _) trodAll_mk0)) (fun sp _ => (trodAll_cons_mk (shut_int Try.underlying3 w0) (trodAll_cons_mk (shut_int Try.underlying3 w1) trodAll_mk0))) (fun _ _ => rfl) rfl
    (hg.frame _) hg.2.1 (ok_one (by kernel_rfl) rfl (okWide_bool_mk Try.underlying4 _))⟩

theorem over : Rows.fnChangedAtKeepsOrderReversedOnLineRow.holds Try.pinned (OpenSpec.ofChange Rows.fnChangedAtKeepsOrderReversedOnLineSpec) :=
  OpenClaim.holds_of_wide 4 Try.f4 rfl rfl rfl rfl rfl rfl rfl ⟨rfl, rfl, rfl, rfl, rfl⟩ rfl rfl rfl rfl rfl (by kernel_rfl) Try.func4 (by kernel_rfl)
    (of_decide_eq_true (by kernel_rfl)) (by unfold Func.isWrapper; first | (rw [if_pos (by decide +kernel)]; kernel_rfl) | (rw [if_neg (by decide +kernel)]; exact ⟨rfl, rfl⟩))
    (fun os started H enc _ => lifted os started H enc)

/-- The statement. -/
theorem proved : Rows.FnChangedAtKeepsOrderReversedOnLineSaid :=
  over
end Go.Proofs.Qxb6618372a.fnChangedAtKeepsOrderReversedOnLine
