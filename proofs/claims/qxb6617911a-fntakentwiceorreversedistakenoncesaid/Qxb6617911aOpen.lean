import Derived.Test.Qxb6617911aNamed
import Derived.Deep.SlicePairs
import Derived.ProofKit
namespace Go.Proofs.Qxb6617911a
open Go.ChangeShapes Go.WideShapes Go.ChangeAt Go.RowKit

theorem cells35 : Try.prog.cellsOf 35 = 2 := by kernel_rfl
theorem cells33 : Try.prog.cellsOf 33 = 1 := by kernel_rfl

/-- A slice of pairs that came in. -/
theorem open_pairs {H : Type} {enc : TypeId × Value → H} {W : World} {a : Option Addr} {len cap : Nat} {d : DataW H} {p : List MemPlace}
    (h : DataW.Trod enc Try.prog W 0 (fun _ => true) true 22 (.slice a len cap) d p) :
    ∃ (b : Nat) (ps : List (Int × Int)), ps.length = len ∧ len ≤ maxLen ∧ PairsAt W b (.slice a len cap) ps := by
  obtain ⟨fuel, hf⟩ := h
  rcases Deep.open_slice_pairs Try.underlying22 Try.underlying35 cells35 rfl rfl cells33 cells33 hf with ⟨hcs, _⟩ | ⟨x, l, c, m, n, V0, V1, D0, D1, P0, P1, hcs, _, hl, hm, hmm, _, hcell⟩
  · simp [Value.cells] at hcs
    obtain ⟨rfl, rfl, rfl⟩ := hcs
    exact ⟨0, [], rfl, Nat.zero_le _, by simp, none, 0, rfl, Nat.le_refl _, fun h => absurd h (Nat.lt_irrefl _)⟩
  · simp [Value.cells] at hcs
    obtain ⟨rfl, rfl, rfl⟩ := hcs
    have hm' : len ≤ m := by rw [hmm]; simp; exact hl
    obtain ⟨q, hq⟩ := Deep.choose_lt (α := Int × Int) (n := len) (p := fun i z => V0 i = .int .u64 z.1 ∧ V1 i = .int .u64 z.2 ∧ Word z.1 ∧ Word z.2) (fun i hi => by
      obtain ⟨_, _, t0, t1⟩ := hcell i (by omega)
      obtain ⟨n0, e0, _, w0⟩ := DataW.trod_int Try.underlying33 t0
      obtain ⟨n1, e1, _, w1⟩ := DataW.trod_int Try.underlying33 t1
      exact ⟨(n0, n1), by simpa using e0, by simpa using e1, w0, w1⟩)
    refine ⟨x.block, (List.range len).map q, by simp, by omega, ?_, some x, cap, by simp, by simpa using hl, fun hp => ?_⟩
    · intro z hz
      obtain ⟨i, hi, rfl⟩ := List.mem_map.1 hz
      have := hq i (List.mem_range.1 hi)
      exact ⟨this.2.2.1, this.2.2.2⟩
    · have hp' : 0 < len := by simpa using hp
      obtain ⟨b, off, spot⟩ := x
      have hspot : spot = none := by simpa [Addr.add] using World.cell?_spot (hcell 0 (by omega)).1
      subst hspot
      refine ⟨off, rfl, fun j hj => ?_⟩
      have hj' : j < len := by simpa using hj
      obtain ⟨c0, c1, _, _⟩ := hcell j (by omega)
      rw [add_plain] at c0 c1
      obtain ⟨e0, e1, _, _⟩ := hq j hj'
      rw [e0] at c0
      rw [e1] at c1
      simp only [List.getElem_map, List.getElem_range]
      exact ⟨c0, c1⟩
end Go.Proofs.Qxb6617911a
