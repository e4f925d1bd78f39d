/- A shell of the guide at the number and the types of this function; its hole is filled. -/
import Derived.Test.Qxb6617413aRows
import Derived.WalkKit
import Derived.ProofKit
import Derived.OpenShut
import Derived.ShutString
import Derived.Test.Qxb6617413aParts2
namespace Go.Proofs.Qxb6617413a.fnObjectCountMatchesParentObjectsAndIsLeastCover
open Go.ChangeShapes Go.WideShapes Go.ChangeAt Go.RowKit
open Go.ChangeMaps (open_string shut_string)
set_option linter.unusedVariables false      -- a walk need not use every 'w<i>' (that an integer argument fits its kind)

theorem own : ownKnob Try.prog.godebug = none := by kernel_rfl

/-! ### STEP 1: THE WALK: the Go text returns true. 'Grown w w'': the world has at most new blocks (Derived/RowKit3.lean). Part the cases AHEAD of 'go_enter' where a test parts the walk; take each callee by a contract of your own. -/
theorem walk (a0 : Int) (a1 : Int) (w0 : (Lit.int .u64 a0).wf = true) (w1 : (Lit.int .u64 a1).wf = true) (w : World) :
    Calls Try.prog 3 #[.int .u64 a0, .int .u64 a1] w fun e w' => e = .returned (.bool true) ∧ Grown w w' := by
  have b0 : 0 ≤ a0 ∧ a0 < 18446744073709551616 := by
    simp [Lit.wf, IntKind.min, IntKind.max, IntKind.signed, IntKind.bits] at w0; omega
  have b1 : 0 ≤ a1 ∧ a1 < 18446744073709551616 := by
    simp [Lit.wf, IntKind.min, IntKind.max, IntKind.signed, IntKind.bits] at w1; omega
  clear w0 w1
  obtain ⟨l0, u0⟩ := b0
  obtain ⟨l1, u1⟩ := b1
  by_cases hz : a1 = 0
  · subst hz
    go_enter Try.func3, Try.ntmps3
    go_wp2
    go_ret
    exact ⟨rfl, Grown.refl _⟩
  have ho : 1 ≤ a1 := by omega
  have hzb : (a1 == 0) = false := by simp [hz]
  have hc := Plain.cnt_le a0 a1 l0 ho
  have hcov : least (Plain.cnt a0 a1) a1 a0 = true := by
    have hiff := Plain.cnt_lt_iff a0 a1 (Plain.cnt a0 a1) ho
    simp [least]
    omega
  clear hz
  by_cases hn : Plain.cnt a0 a1 = 0
  · have hnb : (Plain.cnt a0 a1 == 0) = true := by simp [hn]
    clear hn
    go_enter Try.func3, Try.ntmps3
    go_wp2_with fail
    refine (count_any a0 a1 l0 u0 ho u1 _).mono ?_
    rintro e w' ⟨rfl, c1, rfl⟩
    go_wp2_with fail
    refine (parent_any a0 a1 l0 u0 ho u1 _).mono ?_
    rintro e w' ⟨rfl, c2, rfl⟩
    go_wp2_with fail
    refine (least_any (Plain.cnt a0 a1) a1 a0 (by omega) (by omega) l1 u1 l0 u0 _).mono ?_
    rintro e w' ⟨rfl, rfl⟩
    go_wp2_with fail
    refine (nilParent_any _).mono ?_
    rintro e w' ⟨rfl, rfl⟩
    go_wp2
    go_ret
    exact ⟨rfl, (((Grown.refl _).alloc _ _).alloc _ _).drew⟩
  · have hnb : (Plain.cnt a0 a1 == 0) = false := by simp [hn]
    have hl : least (Plain.cnt a0 a1 - 1) a1 a0 = false := by
      have hiff := Plain.cnt_lt_iff a0 a1 (Plain.cnt a0 a1 - 1) ho
      simp [least]
      omega
    have hc1 : 1 ≤ Plain.cnt a0 a1 := by omega
    clear hn
    go_enter Try.func3, Try.ntmps3
    go_wp2_with fail
    refine (count_any a0 a1 l0 u0 ho u1 _).mono ?_
    rintro e w' ⟨rfl, c1, rfl⟩
    go_wp2_with fail
    refine (parent_any a0 a1 l0 u0 ho u1 _).mono ?_
    rintro e w' ⟨rfl, c2, rfl⟩
    go_wp2_with fail
    refine (least_any (Plain.cnt a0 a1) a1 a0 (by omega) (by omega) l1 u1 l0 u0 _).mono ?_
    rintro e w' ⟨rfl, rfl⟩
    go_wp2_with fail
    refine (least_any (Plain.cnt a0 a1 - 1) a1 a0 (by omega) (by omega) l1 u1 l0 u0 _).mono ?_
    rintro e w' ⟨rfl, rfl⟩
    go_wp2_with fail
    refine (nilParent_any _).mono ?_
    rintro e w' ⟨rfl, rfl⟩
    go_wp2
    go_ret
    exact ⟨rfl, (((Grown.refl _).alloc _ _).alloc _ _).drew⟩

/-! ### THE ROW's STEP: WRITTEN OUT: LEAVE IT -/
set_option maxRecDepth 100000 in
theorem lifted (os : Os) (started : os.Started) (H : Type) (enc : TypeId × Value → H) :
    ReturnsInHanded {} Try.checked os 3 .any (Rows.fnObjectCountMatchesParentObjectsAndIsLeastCoverSpec.pre6 enc Try.prog Try.f3 Rows.fnObjectCountMatchesParentObjectsAndIsLeastCoverRow.domain false) (Rows.fnObjectCountMatchesParentObjectsAndIsLeastCoverSpec.post enc Try.prog Try.f3 false true false false) := by
  refine returnsInHanded_of_change (C := Try.checked) own started (by kernel_rfl) Try.func3
    (ChangeSpec.witness6 (enc := enc) (C := Try.checked) false ⟨#[], #[.int .u64 0, .int .u64 0], []⟩ 8 (by kernel_rfl) (by kernel_rfl) (by kernel_rfl) (by kernel_rfl)) ?_
  intro W base args ds gs before hval0 hW hcnd _
  have hval : ∀ (j : Nat) t v, Try.f3.params[j]? = some t → args[j]? = some v → Value.okWide Try.prog W .any base t v := hval0
  have hW' := hW
  obtain ⟨p, q, hA0, hV, rfl, hfz, hnd⟩ := hW
  have hA : DataW.TrodAll enc Try.prog W 0 (fun _ => true) true Try.f3.params.toList args.toList ds p := hA0
  rw [Try.params3] at hA hval
  obtain ⟨v0, vs0, d0, ds0, p0, q0, hargs, rfl, rfl, h0, r0⟩ := trodAll_cons hA
  obtain ⟨v1, vs1, d1, ds1, p1, q1, rfl, rfl, rfl, h1, r1⟩ := trodAll_cons r0
  obtain ⟨rfl, rfl, rfl⟩ := trodAll_nil r1
  obtain rfl : args = #[v0, v1] := by cases args; simp_all
  obtain ⟨rfl, rfl⟩ := trodVars_none hV
  obtain ⟨a0, rfl, rfl, rfl, w0⟩ := open_int Try.underlying22 (hval 0 22 v0 rfl rfl) h0
  obtain ⟨a1, rfl, rfl, rfl, w1⟩ := open_int Try.underlying22 (hval 1 22 v1 rfl rfl) h1
  clear hA0 hval0
  simp only [List.append_nil] at hW'
  refine (walk a0 a1 w0 w1 W).mono fun e W' ⟨he, hg⟩ => ?_
  subst he
  exact ⟨_, rfl, post_of_same (pa := []) (pv := []) hW' (fun _ _ _ => (trodAll_cons_mk (shut_bool Try.underlying4 _) trodAll_mk0)) (fun sp _ => (trodAll_cons_mk (shut_int Try.underlying22 w0) (trodAll_cons_mk (shut_int Try.underlying22 w1) trodAll_mk0))) (fun _ _ => rfl) rfl
    (hg.frame _) hg.2.1 (ok_one (by kernel_rfl) rfl (okWide_bool_mk Try.underlying4 _))⟩

theorem over : Rows.fnObjectCountMatchesParentObjectsAndIsLeastCoverRow.holds Try.pinned (OpenSpec.ofChange Rows.fnObjectCountMatchesParentObjectsAndIsLeastCoverSpec) :=
  OpenClaim.holds_of_wide 3 Try.f3 rfl rfl rfl rfl rfl rfl rfl ⟨rfl, rfl, rfl, rfl, rfl⟩ rfl rfl rfl rfl rfl (by kernel_rfl) Try.func3 (by kernel_rfl)
    (of_decide_eq_true (by kernel_rfl)) (by unfold Func.isWrapper; first | (rw [if_pos (by decide +kernel)]; kernel_rfl) | (rw [if_neg (by decide +kernel)]; exact ⟨rfl, rfl⟩))
    (fun os started H enc _ => lifted os started H enc)

/-- ████ THE STATEMENT ████ -/
theorem proved : Rows.FnObjectCountMatchesParentObjectsAndIsLeastCoverSaid :=
  over
#print axioms proved
end Go.Proofs.Qxb6617413a.fnObjectCountMatchesParentObjectsAndIsLeastCover
