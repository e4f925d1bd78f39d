/- A shell of the guide at the number and the types of this function; its hole is filled. -/
import Derived.Test.Qxb6617413aRows
import Derived.WalkKit
import Derived.ProofKit
import Derived.OpenShut
import Derived.ShutString
import Derived.Test.Qxb6617413aParts2
namespace Go.Proofs.Qxb6617413a.fnObjectCountGrowsByOneWithEachWholeObject
open Go.ChangeShapes Go.WideShapes Go.ChangeAt Go.RowKit
open Go.ChangeMaps (open_string shut_string)
set_option linter.unusedVariables false      -- a walk need not use every 'w<i>' (that an integer argument fits its kind)

theorem own : ownKnob Try.prog.godebug = none := by kernel_rfl

/-! ### STEP 1: THE WALK: the Go text returns true. 'Grown w w'': the world has at most new blocks (Derived/RowKit3.lean). Part the cases AHEAD of 'go_enter' where a test parts the walk; take each callee by a contract of your own. -/
theorem walk (a0 : Int) (a1 : Int) (w0 : (Lit.int .u64 a0).wf = true) (w1 : (Lit.int .u64 a1).wf = true) (w : World) :
    Calls Try.prog 4 #[.int .u64 a0, .int .u64 a1] w fun e w' => e = .returned (.bool true) ∧ Grown w w' := by
  have b0 : 0 ≤ a0 ∧ a0 < 18446744073709551616 := by
    simp [Lit.wf, IntKind.min, IntKind.max, IntKind.signed, IntKind.bits] at w0; omega
  have b1 : 0 ≤ a1 ∧ a1 < 18446744073709551616 := by
    simp [Lit.wf, IntKind.min, IntKind.max, IntKind.signed, IntKind.bits] at w1; omega
  clear w0 w1
  obtain ⟨l0, u0⟩ := b0
  obtain ⟨l1, u1⟩ := b1
  by_cases hz : a1 = 0
  · subst hz
    go_enter Try.func4, Try.ntmps4
    go_wp2
    go_ret
    exact ⟨rfl, Grown.refl _⟩
  have ho : 1 ≤ a1 := by omega
  have hzb : (a1 == 0) = false := by simp [hz]
  have hc := Plain.cnt_le a0 a1 l0 ho
  have hiff := Plain.cnt_zero_iff a0 a1 l0 ho
  have hbe : ((Plain.cnt a0 a1 == 0) == (a0 == 0)) = true := by
    rw [beq_iff_eq, Bool.eq_iff_iff]
    simpa using hiff
  clear hz hiff
  by_cases hfit : a0 ≤ 18446744073709551615 - a1
  · have hadd := Plain.cnt_add a0 a1 ho
    have hg : (Plain.cnt (a0 + a1) a1 == IntKind.u64.wrap (Plain.cnt a0 a1 + 1)) = true := by
      have hd := Plain.cnt_le (a0 + a1) a1 (by omega) ho
      rw [IntWalk.u64_in (Plain.cnt a0 a1 + 1) (by omega), hadd]
      simp
    have Hadd : Hid (Plain.cnt (a0 + a1) a1 = Plain.cnt a0 a1 + 1) := hadd
    clear hadd
    go_enter Try.func4, Try.ntmps4
    go_wp2_with fail
    refine (count_any a0 a1 l0 u0 ho u1 _).mono ?_
    rintro e w' ⟨rfl, c1, rfl⟩
    go_wp2_with fail
    refine (count_any (a0 + a1) a1 (by omega) (by omega) ho u1 _).mono ?_
    rintro e w' ⟨rfl, c2, rfl⟩
    go_wp2
    go_ret
    exact ⟨rfl, ((Grown.refl _).alloc _ _).alloc _ _⟩
  · go_enter Try.func4, Try.ntmps4
    go_wp2_with fail
    refine (count_any a0 a1 l0 u0 ho u1 _).mono ?_
    rintro e w' ⟨rfl, c1, rfl⟩
    go_wp2
    go_ret
    exact ⟨rfl, (Grown.refl _).alloc _ _⟩

/-! ### THE ROW's STEP: WRITTEN OUT: LEAVE IT -/
set_option maxRecDepth 100000 in
theorem lifted (os : Os) (started : os.Started) (H : Type) (enc : TypeId × Value → H) :
    ReturnsInHanded {} Try.checked os 4 .any (Rows.fnObjectCountGrowsByOneWithEachWholeObjectSpec.pre6 enc Try.prog Try.f4 Rows.fnObjectCountGrowsByOneWithEachWholeObjectRow.domain false) (Rows.fnObjectCountGrowsByOneWithEachWholeObjectSpec.post enc Try.prog Try.f4 false true false false) := by
  refine returnsInHanded_of_change (C := Try.checked) own started (by kernel_rfl) Try.func4
    (ChangeSpec.witness6 (enc := enc) (C := Try.checked) false ⟨#[], #[.int .u64 0, .int .u64 0], []⟩ 8 (by kernel_rfl) (by kernel_rfl) (by kernel_rfl) (by kernel_rfl)) ?_
  intro W base args ds gs before hval0 hW hcnd _
  have hval : ∀ (j : Nat) t v, Try.f4.params[j]? = some t → args[j]? = some v → Value.okWide Try.prog W .any base t v := hval0
  have hW' := hW
  obtain ⟨p, q, hA0, hV, rfl, hfz, hnd⟩ := hW
  have hA : DataW.TrodAll enc Try.prog W 0 (fun _ => true) true Try.f4.params.toList args.toList ds p := hA0
  rw [Try.params4] at hA hval
  obtain ⟨v0, vs0, d0, ds0, p0, q0, hargs, rfl, rfl, h0, r0⟩ := trodAll_cons hA
  obtain ⟨v1, vs1, d1, ds1, p1, q1, rfl, rfl, rfl, h1, r1⟩ := trodAll_cons r0
  obtain ⟨rfl, rfl, rfl⟩ := trodAll_nil r1
  obtain rfl : args = #[v0, v1] := by cases args; simp_all
  obtain ⟨rfl, rfl⟩ := trodVars_none hV
  obtain ⟨a0, rfl, rfl, rfl, w0⟩ := open_int Try.underlying22 (hval 0 22 v0 rfl rfl) h0
  obtain ⟨a1, rfl, rfl, rfl, w1⟩ := open_int Try.underlying22 (hval 1 22 v1 rfl rfl) h1
  clear hA0 hval0
  simp only [List.append_nil] at hW'
  refine (walk a0 a1 w0 w1 W).mono fun e W' ⟨he, hg⟩ => ?_
  subst he
  exact ⟨_, rfl, post_of_same (pa := []) (pv := []) hW' (fun _ _ _ => (trodAll_cons_mk (shut_bool Try.underlying4 _) trodAll_mk0)) (fun sp _ => (trodAll_cons_mk (shut_int Try.underlying22 w0) (trodAll_cons_mk (shut_int Try.underlying22 w1) trodAll_mk0))) (fun _ _ => rfl) rfl
    (hg.frame _) hg.2.1 (ok_one (by kernel_rfl) rfl (okWide_bool_mk Try.underlying4 _))⟩

theorem over : Rows.fnObjectCountGrowsByOneWithEachWholeObjectRow.holds Try.pinned (OpenSpec.ofChange Rows.fnObjectCountGrowsByOneWithEachWholeObjectSpec) :=
  OpenClaim.holds_of_wide 4 Try.f4 rfl rfl rfl rfl rfl rfl rfl ⟨rfl, rfl, rfl, rfl, rfl⟩ rfl rfl rfl rfl rfl (by kernel_rfl) Try.func4 (by kernel_rfl)
    (of_decide_eq_true (by kernel_rfl)) (by unfold Func.isWrapper; first | (rw [if_pos (by decide +kernel)]; kernel_rfl) | (rw [if_neg (by decide +kernel)]; exact ⟨rfl, rfl⟩))
    (fun os started H enc _ => lifted os started H enc)

/-- ████ THE STATEMENT ████ -/
theorem proved : Rows.FnObjectCountGrowsByOneWithEachWholeObjectSaid :=
  over
#print axioms proved
end Go.Proofs.Qxb6617413a.fnObjectCountGrowsByOneWithEachWholeObject
