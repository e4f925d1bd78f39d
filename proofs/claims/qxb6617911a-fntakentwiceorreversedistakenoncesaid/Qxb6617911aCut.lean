import Derived.Test.Qxb6617911aMatch
import Derived.Test.Qxb6617911aDrop
import Derived.Test.Qxb6617911aRev
namespace Go.Proofs.Qxb6617911a
open Go.RowKit Go.Maps

theorem run_head (a : Option Addr) (n cap k : Nat) (hk : (k : Int) ≤ (cap : Int)) (w : World) :
    (Instr.slice 27 (.slice a n cap) none (some (.int .i64 (k : Int))) none).run Try.prog w = .ok (.slice a k cap) w := by
  have e : (if cap = 0 then a else Option.map (fun x : Addr => x.add 0) a) = a := by
    split
    · rfl
    · cases a <;> simp [Addr.add]
  go_simp
  all_goals simp_all
theorem run_tail (a : Option Addr) (n cap k : Nat) (hk : (k : Int) ≤ (n : Int)) (w : World) :
    (Instr.slice 27 (.slice a n cap) (some (.int .i64 (k : Int))) none none).run Try.prog w = .ok (.slice (if cap = k then a else a.map (fun x : Addr => x.add (k * 2))) (n - k) (cap - k)) w := by
  go_simp
  all_goals simp_all

theorem cut_head {w : World} {b : Nat} {v : Value} {ts : List (Int × Int)} (h : PairsAt w b v ts) {k : Nat} (hk : k ≤ ts.length) :
    ∃ vh, (∀ w', (Instr.slice 27 v none (some (.int .i64 (k : Int))) none).run Try.prog w' = .ok vh w') ∧ PairsAt w b vh (ts.take k) := by
  obtain ⟨h0, a, cap, rfl, hcap, h1⟩ := h
  have hl : (ts.take k).length = k := by simp; omega
  refine ⟨_, fun w' => run_head a ts.length cap k (by omega) w', fun p hp => h0 p (List.mem_of_mem_take hp), a, cap, by rw [hl], by omega, fun hp => ?_⟩
  obtain ⟨off, rfl, hc⟩ := h1 (by omega)
  refine ⟨off, rfl, fun j hj => ?_⟩
  have := hc j (by omega)
  rw [List.getElem_take]
  exact this
theorem cut_tail {w : World} {b : Nat} {v : Value} {ts : List (Int × Int)} (h : PairsAt w b v ts) {k : Nat} (hk : k ≤ ts.length) :
    ∃ vt, (∀ w', (Instr.slice 27 v (some (.int .i64 (k : Int))) none none).run Try.prog w' = .ok vt w') ∧ PairsAt w b vt (ts.drop k) := by
  obtain ⟨h0, a, cap, rfl, hcap, h1⟩ := h
  have hl : (ts.drop k).length = ts.length - k := by simp
  refine ⟨_, fun w' => run_tail a ts.length cap k (by omega) w', fun p hp => h0 p (List.mem_of_mem_drop hp), _, cap - k, by rw [hl], by omega, fun hp => ?_⟩
  obtain ⟨off, rfl, hc⟩ := h1 (by omega)
  refine ⟨off + k * 2, ?_, fun j hj => ?_⟩
  · rw [if_neg (by omega)]
    by_cases hk0 : k = 0
    · subst hk0
      simp [Addr.add]
    · simp [Addr.add]
      omega
  · have := hc (k + j) (by omega)
    rw [List.getElem_drop, show off + k * 2 + j * 2 = off + (k + j) * 2 by omega]
    exact this

/-- The bound on the lengths' sum. -/
def bytesOk (n m : Nat) : Bool := decide (n + m ≤ 1048576)

theorem bytes_cut (a1 a2 : Option Addr) (n1 c1 n2 c2 : Nat) (k : Int) (w : World) (h1 : n1 ≤ 9223372036854775807) (h2 : n2 ≤ 9223372036854775807) :
    Calls Try.prog 5 #[.slice a1 n1 c1, .slice a2 n2 c2, .int .i64 k] w fun e w' => e = .returned (.bool (bytesOk n1 n2)) ∧ w' = w := by
  by_cases g1 : n1 ≤ 1048576
  · by_cases g2 : n2 ≤ 1048576
    · by_cases g3 : n1 + n2 ≤ 1048576
      · have e : Hid (bytesOk n1 n2 = true) := by show bytesOk n1 n2 = true; simp [bytesOk, g3]
        go_enter Try.func5, Try.ntmps5
        go_wp2
        go_ret
        exact ⟨by rw [e.out]; rfl, rfl⟩
      · have e : Hid (bytesOk n1 n2 = false) := by show bytesOk n1 n2 = false; simp [bytesOk]; omega
        go_enter Try.func5, Try.ntmps5
        go_wp2
        go_ret
        exact ⟨by rw [e.out]; rfl, rfl⟩
    · have e : Hid (bytesOk n1 n2 = false) := by show bytesOk n1 n2 = false; simp [bytesOk]; omega
      go_enter Try.func5, Try.ntmps5
      go_wp2
      go_ret
      exact ⟨by rw [e.out]; rfl, rfl⟩
  · have e : Hid (bytesOk n1 n2 = false) := by show bytesOk n1 n2 = false; simp [bytesOk]; omega
    go_enter Try.func5, Try.ntmps5
    go_wp2
    go_ret
    exact ⟨by rw [e.out]; rfl, rfl⟩

theorem bytes_rev (a1 a2 : Option Addr) (n1 c1 n2 c2 : Nat) (w : World) (h1 : n1 ≤ 9223372036854775807) (h2 : n2 ≤ 9223372036854775807) :
    Calls Try.prog 10 #[.slice a1 n1 c1, .slice a2 n2 c2] w fun e w' => e = .returned (.bool (bytesOk n1 n2)) ∧ w' = w := by
  by_cases g1 : n1 ≤ 1048576
  · by_cases g2 : n2 ≤ 1048576
    · by_cases g3 : n1 + n2 ≤ 1048576
      · have e : Hid (bytesOk n1 n2 = true) := by show bytesOk n1 n2 = true; simp [bytesOk, g3]
        go_enter Try.func10, Try.ntmps10
        go_wp2
        go_ret
        exact ⟨by rw [e.out]; rfl, rfl⟩
      · have e : Hid (bytesOk n1 n2 = false) := by show bytesOk n1 n2 = false; simp [bytesOk]; omega
        go_enter Try.func10, Try.ntmps10
        go_wp2
        go_ret
        exact ⟨by rw [e.out]; rfl, rfl⟩
    · have e : Hid (bytesOk n1 n2 = false) := by show bytesOk n1 n2 = false; simp [bytesOk]; omega
      go_enter Try.func10, Try.ntmps10
      go_wp2
      go_ret
      exact ⟨by rw [e.out]; rfl, rfl⟩
  · have e : Hid (bytesOk n1 n2 = false) := by show bytesOk n1 n2 = false; simp [bytesOk]; omega
    go_enter Try.func10, Try.ntmps10
    go_wp2
    go_ret
    exact ⟨by rw [e.out]; rfl, rfl⟩
end Go.Proofs.Qxb6617911a
