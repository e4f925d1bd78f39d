/- A shell of the guide at the number and the types of this function; its hole is filled. -/
import Derived.Test.Qxb6617413aRows
import Derived.WalkKit
import Derived.ProofKit
import Derived.OpenShut
import Derived.ShutString
import Derived.Test.Qxb6617413aParts2
namespace Go.Proofs.Qxb6617413a.fnParentObjectsAreThoseBeginningInOverlap
open Go.ChangeShapes Go.WideShapes Go.ChangeAt Go.RowKit
open Go.ChangeMaps (open_string shut_string)
set_option linter.unusedVariables false      -- a walk need not use every 'w<i>' (that an integer argument fits its kind)

theorem own : ownKnob Try.prog.godebug = none := by kernel_rfl

/-! ### STEP 1: THE WALK: the Go text returns true. 'Grown w w'': the world has at most new blocks (Derived/RowKit3.lean). Part the cases AHEAD of 'go_enter' where a test parts the walk; take each callee by a contract of your own. -/
theorem walk (a0 : Int) (a1 : Int) (a2 : Int) (w0 : (Lit.int .u64 a0).wf = true) (w1 : (Lit.int .u64 a1).wf = true) (w2 : (Lit.int .u64 a2).wf = true) (w : World) :
    Calls Try.prog 5 #[.int .u64 a0, .int .u64 a1, .int .u64 a2] w fun e w' => e = .returned (.bool true) ∧ Grown w w' := by
  have b0 : 0 ≤ a0 ∧ a0 < 18446744073709551616 := by
    simp [Lit.wf, IntKind.min, IntKind.max, IntKind.signed, IntKind.bits] at w0; omega
  have b1 : 0 ≤ a1 ∧ a1 < 18446744073709551616 := by
    simp [Lit.wf, IntKind.min, IntKind.max, IntKind.signed, IntKind.bits] at w1; omega
  have b2 : 0 ≤ a2 ∧ a2 < 18446744073709551616 := by
    simp [Lit.wf, IntKind.min, IntKind.max, IntKind.signed, IntKind.bits] at w2; omega
  clear w0 w1 w2
  obtain ⟨l0, u0⟩ := b0
  obtain ⟨l1, u1⟩ := b1
  obtain ⟨l2, u2⟩ := b2
  by_cases hz : a1 = 0
  · subst hz
    go_enter Try.func5, Try.ntmps5
    go_wp2
    go_ret
    exact ⟨rfl, Grown.refl _⟩
  have ho : 1 ≤ a1 := by omega
  have hzb : (a1 == 0) = false := by simp [hz]
  have hc := Plain.cnt_le a0 a1 l0 ho
  have hbe : (decide (a2 < Plain.cnt a0 a1) == !(least a2 a1 a0)) = true := by
    have hiff := Plain.cnt_lt_iff a0 a1 a2 ho
    rw [beq_iff_eq, Bool.eq_iff_iff]
    simp [least]
    omega
  clear hz
  by_cases hfit : a0 ≤ 18446744073709551615 - a1
  · have hadd := Plain.cnt_add a0 a1 ho
    have hg : (Plain.cnt (a0 + a1) a1 == Plain.cnt a0 a1 + 1) = true := by
      rw [hadd]
      simp
    clear hadd
    go_enter Try.func5, Try.ntmps5
    go_wp2_with fail
    refine (parent_any a0 a1 l0 u0 ho u1 _).mono ?_
    rintro e w' ⟨rfl, c1, rfl⟩
    go_wp2_with fail
    refine (parent_any (a0 + a1) a1 (by omega) (by omega) ho u1 _).mono ?_
    rintro e w' ⟨rfl, c2, rfl⟩
    go_wp2_with fail
    refine (least_any a2 a1 a0 l2 u2 l1 u1 l0 u0 _).mono ?_
    rintro e w' ⟨rfl, rfl⟩
    go_wp2
    go_ret
    exact ⟨rfl, (((Grown.refl _).alloc _ _).alloc _ _).drew.drew⟩
  · go_enter Try.func5, Try.ntmps5
    go_wp2_with fail
    refine (parent_any a0 a1 l0 u0 ho u1 _).mono ?_
    rintro e w' ⟨rfl, c1, rfl⟩
    go_wp2_with fail
    refine (least_any a2 a1 a0 l2 u2 l1 u1 l0 u0 _).mono ?_
    rintro e w' ⟨rfl, rfl⟩
    go_wp2
    go_ret
    exact ⟨rfl, ((Grown.refl _).alloc _ _).drew⟩

/-! ### THE ROW's STEP: WRITTEN OUT: LEAVE IT -/
set_option maxRecDepth 100000 in
theorem lifted (os : Os) (started : os.Started) (H : Type) (enc : TypeId × Value → H) :
    ReturnsInHanded {} Try.checked os 5 .any (Rows.fnParentObjectsAreThoseBeginningInOverlapSpec.pre6 enc Try.prog Try.f5 Rows.fnParentObjectsAreThoseBeginningInOverlapRow.domain false) (Rows.fnParentObjectsAreThoseBeginningInOverlapSpec.post enc Try.prog Try.f5 false true false false) := by
  refine returnsInHanded_of_change (C := Try.checked) own started (by kernel_rfl) Try.func5
    (ChangeSpec.witness6 (enc := enc) (C := Try.checked) false ⟨#[], #[.int .u64 0, .int .u64 0, .int .u64 0], []⟩ 8 (by kernel_rfl) (by kernel_rfl) (by kernel_rfl) (by kernel_rfl)) ?_
  intro W base args ds gs before hval0 hW hcnd _
  have hval : ∀ (j : Nat) t v, Try.f5.params[j]? = some t → args[j]? = some v → Value.okWide Try.prog W .any base t v := hval0
  have hW' := hW
  obtain ⟨p, q, hA0, hV, rfl, hfz, hnd⟩ := hW
  have hA : DataW.TrodAll enc Try.prog W 0 (fun _ => true) true Try.f5.params.toList args.toList ds p := hA0
  rw [Try.params5] at hA hval
  obtain ⟨v0, vs0, d0, ds0, p0, q0, hargs, rfl, rfl, h0, r0⟩ := trodAll_cons hA
  obtain ⟨v1, vs1, d1, ds1, p1, q1, rfl, rfl, rfl, h1, r1⟩ := trodAll_cons r0
  obtain ⟨v2, vs2, d2, ds2, p2, q2, rfl, rfl, rfl, h2, r2⟩ := trodAll_cons r1
  obtain ⟨rfl, rfl, rfl⟩ := trodAll_nil r2
  obtain rfl : args = #[v0, v1, v2] := by cases args; simp_all
  obtain ⟨rfl, rfl⟩ := trodVars_none hV
  obtain ⟨a0, rfl, rfl, rfl, w0⟩ := open_int Try.underlying22 (hval 0 22 v0 rfl rfl) h0
  obtain ⟨a1, rfl, rfl, rfl, w1⟩ := open_int Try.underlying22 (hval 1 22 v1 rfl rfl) h1
  obtain ⟨a2, rfl, rfl, rfl, w2⟩ := open_int Try.underlying22 (hval 2 22 v2 rfl rfl) h2
  clear hA0 hval0
  simp only [List.append_nil] at hW'
  refine (walk a0 a1 a2 w0 w1 w2 W).mono fun e W' ⟨he, hg⟩ => ?_
  subst he
  exact ⟨_, rfl, post_of_same (pa := []) (pv := []) hW' (fun _ _ _ => (trodAll_cons_mk (shut_bool Try.underlying4 _) trodAll_mk0)) (fun sp _ => (trodAll_cons_mk (shut_int Try.underlying22 w0) (trodAll_cons_mk (shut_int Try.underlying22 w1) (trodAll_cons_mk (shut_int Try.underlying22 w2) trodAll_mk0)))) (fun _ _ => rfl) rfl
    (hg.frame _) hg.2.1 (ok_one (by kernel_rfl) rfl (okWide_bool_mk Try.underlying4 _))⟩

theorem over : Rows.fnParentObjectsAreThoseBeginningInOverlapRow.holds Try.pinned (OpenSpec.ofChange Rows.fnParentObjectsAreThoseBeginningInOverlapSpec) :=
  OpenClaim.holds_of_wide 5 Try.f5 rfl rfl rfl rfl rfl rfl rfl ⟨rfl, rfl, rfl, rfl, rfl⟩ rfl rfl rfl rfl rfl (by kernel_rfl) Try.func5 (by kernel_rfl)
    (of_decide_eq_true (by kernel_rfl)) (by unfold Func.isWrapper; first | (rw [if_pos (by decide +kernel)]; kernel_rfl) | (rw [if_neg (by decide +kernel)]; exact ⟨rfl, rfl⟩))
    (fun os started H enc _ => lifted os started H enc)

/-- ████ THE STATEMENT ████ -/
theorem proved : Rows.FnParentObjectsAreThoseBeginningInOverlapSaid :=
  over
#print axioms proved
end Go.Proofs.Qxb6617413a.fnParentObjectsAreThoseBeginningInOverlap
