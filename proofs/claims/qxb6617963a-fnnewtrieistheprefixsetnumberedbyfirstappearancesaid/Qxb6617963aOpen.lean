import Derived.Test.Qxb6617963aTexts
import Derived.SliceStrings
import Derived.ProofKit
namespace Go.Proofs.Qxb6617963a
open Go.ChangeShapes Go.WideShapes Go.ChangeAt Go.RowKit

theorem cells9 : Try.prog.cellsOf 9 = 1 := by kernel_rfl

/-- A slice of strings that came in. -/
theorem open_texts {H : Type} {enc : TypeId × Value → H} {W : World} {a : Option Addr} {len cap : Nat} {d : DataW H} {p : List MemPlace}
    (h : DataW.Trod enc Try.prog W 0 (fun _ => true) true 32 (.slice a len cap) d p) :
    ∃ (b : Nat) (ts : List ByteArray), ts.length = len ∧ len ≤ maxLen ∧ (∀ s ∈ ts, s.size ≤ maxLen) ∧ TextsAt W b (.slice a len cap) ts := by
  obtain ⟨fuel, hf⟩ := h
  rcases open_strings Try.underlying32 Try.underlying9 cells9 hf with ⟨hcs, _⟩ | ⟨x, l, c, ss, hcs, _, hl, hm, hz, _, hcell, hsz⟩
  · simp [Value.cells] at hcs
    obtain ⟨rfl, rfl, rfl⟩ := hcs
    exact ⟨0, [], rfl, Nat.zero_le _, by simp, none, 0, rfl, Nat.le_refl _, fun h => absurd h (Nat.lt_irrefl _)⟩
  · simp [Value.cells] at hcs
    obtain ⟨rfl, rfl, rfl⟩ := hcs
    have hm' : len ≤ ss.length := by rw [hz]; simp; exact hl
    have hlen : (ss.take len).length = len := by rw [List.length_take]; omega
    refine ⟨x.block, ss.take len, hlen, by omega, fun s hs => hsz s (List.mem_of_mem_take hs), some x, cap, by rw [hlen], by rw [hlen]; exact hl, fun hp => ?_⟩
    rw [hlen] at hp
    obtain ⟨b, off, spot⟩ := x
    have hspot : spot = none := by simpa [Addr.add] using World.cell?_spot (hcell 0 (by omega))
    subst hspot
    refine ⟨off, rfl, fun j hj => ?_⟩
    have hj' : j < len := by rw [hlen] at hj; exact hj
    have c0 := hcell j (by omega)
    rw [add_plain] at c0
    rw [c0, List.getElem_take]
    simp [List.getD, List.getElem?_eq_getElem (show j < ss.length by omega)]
end Go.Proofs.Qxb6617963a
