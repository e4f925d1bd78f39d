import Derived.Test.Qxb6617413aParts
namespace Go.Proofs.Qxb6617413a
open Go.RowKit

theorem objects_form (s o : Int) (h1 : 0 ≤ s) (h2 : s < 18446744073709551616) (h3 : 1 ≤ o) : IntKind.u64.wrap (s / o + if s % o < 1 then s % o else 1) = Plain.cnt s o := by
  have hb := Plain.cnt_le s o h1 h3
  have hm : 0 ≤ s % o := Int.emod_nonneg _ (by omega)
  have e : (s / o + if s % o < 1 then s % o else 1) = Plain.cnt s o := by
    unfold Plain.cnt
    split <;> split <;> omega
  rw [e]
  exact IntWalk.u64_in _ (by omega)

set_option maxHeartbeats 400000 in
theorem objects_any (b : Nat) (s o : Int) (h1 : 0 ≤ s) (h2 : s < 18446744073709551616) (h3 : 1 ≤ o) (h4 : o < 18446744073709551616) (w : World)
    (c1 : w.cell? ⟨b, 4, none⟩ = some (.int .u64 s)) (c2 : w.cell? ⟨b, 5, none⟩ = some (.int .u64 o)) :
    Calls Try.prog 16 #[.pointer (some ⟨b, 0, none⟩)] w fun e w' => e = .returned (.int .u64 (Plain.cnt s o)) ∧ w' = w.drew := by
  have hm : 0 ≤ s % o := Int.emod_nonneg _ (by omega)
  go_enter Try.func16, Try.ntmps16
  go_wp2
  go_region
  all_goals
    rw [objects_form s o h1 h2 h3]
    go_wp2
    all_goals (go_ret; exact ⟨rfl, rfl⟩)

theorem parent_any (s o : Int) (h1 : 0 ≤ s) (h2 : s < 18446744073709551616) (h3 : 1 ≤ o) (h4 : o < 18446744073709551616) (w : World) :
    Calls Try.prog 9 #[.int .u64 s, .int .u64 o] w fun e w' => e = .returned (.int .u64 (Plain.cnt s o)) ∧ ∃ c : Array Value, w' = (w.alloc (.cells c 37)).drew := by
  go_enter Try.func9, Try.ntmps9
  go_wp2_with fail
  refine (objects_any _ s o h1 h2 h3 h4 _ (by simp [go_sem]) (by simp [go_sem])).mono ?_
  rintro e w' ⟨rfl, rfl⟩
  go_wp2
  go_ret
  exact ⟨rfl, _, rfl⟩
end Go.Proofs.Qxb6617413a
