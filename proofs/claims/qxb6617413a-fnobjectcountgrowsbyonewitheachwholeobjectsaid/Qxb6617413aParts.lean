import Derived.Test.Qxb6617413aRows
import Derived.Test.Qxb6617413aPlain
import Derived.WalkKit
import Derived.WalkSpells
import Derived.RegionTactic
import Derived.BigRegion
import Derived.Laws.Bits64b
import Derived.RowKit3
namespace Go.Proofs.Qxb6617413a
open Go.RowKit

/-- A word of 64 bits. -/
def Word (x : Int) : Prop := 0 ≤ x ∧ x < 18446744073709551616

theorem ret_int {k : IntKind} {a b : Int} (h : a = b) : Ending.returned (.int k a) = .returned (.int k b) := by rw [h]
theorem ret_bool {a b : Bool} (h : a = b) : Ending.returned (.bool a) = .returned (.bool b) := by rw [h]

theorem count_any (s o : Int) (h1 : 0 ≤ s) (h2 : s < 18446744073709551616) (h3 : 1 ≤ o) (h4 : o < 18446744073709551616) (w : World) :
    Calls Try.prog 8 #[.agg #[.int .u64 s, .int .u64 o]] w fun e w' => e = .returned (.int .u64 (Plain.cnt s o)) ∧ ∃ c : Array Value, w' = w.alloc (.cells c 24) := by
  have hq : 0 ≤ s / o := Int.ediv_nonneg h1 (by omega)
  have hq' : s / o ≤ s := Int.ediv_le_self _ h1
  have hb := Plain.cnt_le s o h1 h3
  by_cases hr : s % o = 0
  · have e : Plain.cnt s o = s / o := by simp [Plain.cnt, hr]
    have H : Hid (Plain.cnt s o = s / o) := e
    clear e
    go_enter Try.func8, Try.ntmps8
    go_wp2
    go_ret
    exact ⟨ret_int H.out.symm, _, rfl⟩
  · have e : Plain.cnt s o = s / o + 1 := by simp [Plain.cnt, hr]
    have hle : s / o + 1 ≤ s := by omega
    have H : Hid (Plain.cnt s o = s / o + 1) := e
    clear e
    go_enter Try.func8, Try.ntmps8
    go_wp2
    go_ret
    exact ⟨ret_int H.out.symm, _, rfl⟩

theorem and32 (x : Int) (h1 : 0 ≤ x) (h2 : x < 18446744073709551616) : bits BinOp.and IntKind.u64 x 4294967295 = x % 4294967296 := by
  obtain ⟨n, rfl⟩ := Int.eq_ofNat_of_zero_le h1
  have h := bits_and_u64_nat n 4294967295 (by omega) (by decide)
  have e : n &&& 4294967295 = n % 4294967296 := Nat.and_two_pow_sub_one_eq_mod n 32
  rw [e] at h
  exact h.trans (by omega)

theorem hi_wraps (a b : Int) (h1 : 0 ≤ a) (h2 : a < 18446744073709551616) (h3 : 0 ≤ b) (h4 : b < 18446744073709551616) :
    IntKind.u64.wrap (IntKind.u64.wrap (IntKind.u64.wrap (a / 4294967296 * (b / 4294967296)) +
      IntKind.u64.wrap (IntKind.u64.wrap (a / 4294967296 * bits BinOp.and IntKind.u64 b 4294967295) + IntKind.u64.wrap (bits BinOp.and IntKind.u64 a 4294967295 * bits BinOp.and IntKind.u64 b 4294967295) / 4294967296) / 4294967296) +
      IntKind.u64.wrap (bits BinOp.and IntKind.u64 (IntKind.u64.wrap (IntKind.u64.wrap (a / 4294967296 * bits BinOp.and IntKind.u64 b 4294967295) + IntKind.u64.wrap (bits BinOp.and IntKind.u64 a 4294967295 * bits BinOp.and IntKind.u64 b 4294967295) / 4294967296)) 4294967295 +
        IntKind.u64.wrap (bits BinOp.and IntKind.u64 a 4294967295 * (b / 4294967296))) / 4294967296) = a * b / 18446744073709551616 := by
  obtain ⟨w0, t, w1, ⟨e0, e1, e2⟩, b1, b2, b3, b4, b5, b6, b7, b8, b9, b10, b11, b12, b13, b14, e⟩ := Plain.hi_eq a b h1 h2 h3 h4
  rw [and32 a h1 h2, and32 b h3 h4, ← e0, IntWalk.u64_in w0 (by omega), IntWalk.u64_in _ ⟨b3, by omega⟩, ← e1, IntWalk.u64_in t (by omega), and32 t b5 b6, IntWalk.u64_in _ ⟨b7, by omega⟩, ← e2, IntWalk.u64_in w1 (by omega),
    IntWalk.u64_in _ ⟨b11, by omega⟩, IntWalk.u64_in (a / 4294967296 * (b / 4294967296) + t / 4294967296) (by omega), IntWalk.u64_in _ (by omega), e]

theorem ret_two {k : IntKind} {a b c d : Int} (h : a = b) (h' : c = d) : Ending.returned (.tuple #[.int k a, .int k c]) = .returned (.tuple #[.int k b, .int k d]) := by rw [h, h']

theorem hilo_any (a b : Int) (h1 : 0 ≤ a) (h2 : a < 18446744073709551616) (h3 : 0 ≤ b) (h4 : b < 18446744073709551616) (w : World) :
    Calls Try.prog 17 #[.int .u64 a, .int .u64 b] w fun e w' => e = .returned (.tuple #[.int .u64 (a * b / 18446744073709551616), .int .u64 (a * b % 18446744073709551616)]) ∧ w' = w := by
  go_enter Try.func17, Try.ntmps17
  go_wp2
  go_ret2
  exact ⟨ret_two (hi_wraps a b h1 h2 h3 h4) (IntKind.wrap_u64 _), rfl⟩

/-- Is the exact product at least c? -/
def least (a b c : Int) : Bool := decide (c ≤ a * b)

theorem least_any (a b c : Int) (h1 : 0 ≤ a) (h2 : a < 18446744073709551616) (h3 : 0 ≤ b) (h4 : b < 18446744073709551616) (h5 : 0 ≤ c) (h6 : c < 18446744073709551616) (w : World) :
    Calls Try.prog 10 #[.int .u64 a, .int .u64 b, .int .u64 c] w fun e w' => e = .returned (.bool (least a b c)) ∧ w' = w := by
  have hl := Plain.least_iff a b c h5 h6 (Int.mul_nonneg h1 h3)
  have HL : Hid ((a * b / 18446744073709551616 ≠ 0 ∨ c ≤ a * b % 18446744073709551616) ↔ c ≤ a * b) := hl
  clear hl
  by_cases hz : a * b / 18446744073709551616 = 0
  · have hz0 : (a * b / 18446744073709551616 != 0) = false := by simp [hz]
    have Hz : Hid (a * b / 18446744073709551616 = 0) := hz
    clear hz
    go_enter Try.func10, Try.ntmps10
    go_wp2_with (go_at_call 17; refine (hilo_any a b h1 h2 h3 h4 _).mono ?_; rintro e w' ⟨rfl, rfl⟩)
    go_ret
    refine ⟨ret_bool ?_, rfl⟩
    have h := HL.out
    simp only [Hz.out] at h
    simp [least] at h ⊢
    exact h
  · have hz0 : (a * b / 18446744073709551616 != 0) = true := by simp [hz]
    have Hz : Hid (¬ a * b / 18446744073709551616 = 0) := hz
    clear hz
    go_enter Try.func10, Try.ntmps10
    go_wp2_with (go_at_call 17; refine (hilo_any a b h1 h2 h3 h4 _).mono ?_; rintro e w' ⟨rfl, rfl⟩)
    go_ret
    refine ⟨ret_bool ?_, rfl⟩
    have h := HL.out.1 (.inl Hz.out)
    simp [least, h]

theorem nilObjects_any (w : World) : Calls Try.prog 16 #[.pointer none] w fun e w' => e = .returned (.int .u64 0) ∧ w' = w := by
  go_enter Try.func16, Try.ntmps16
  go_wp2
  go_ret
  exact ⟨rfl, rfl⟩

theorem nilParent_any (w : World) : Calls Try.prog 11 #[] w fun e w' => e = .returned (.int .u64 0) ∧ w' = w := by
  go_enter Try.func11, Try.ntmps11
  go_wp2
  go_ret
  exact ⟨rfl, rfl⟩
end Go.Proofs.Qxb6617413a
