import Derived.Test.Qxb6617911aMaps
namespace Go.Proofs.Qxb6617911a
open Go.RowKit Go.Maps

theorem take_snoc {α : Type} (l : List α) (k : Nat) (h : k < l.length) : l.take (k + 1) = l.take k ++ [l[k]] := by
  rw [List.take_succ_eq_append_getElem h]

/-- The slice v holds the pairs ps, in block b (where there are any). -/
def PairsAt (w : World) (b : Nat) (v : Value) (ps : List (Int × Int)) : Prop :=
  (∀ p ∈ ps, Word p.1 ∧ Word p.2) ∧ ∃ a cap, v = .slice a ps.length cap ∧ ps.length ≤ cap ∧ (0 < ps.length → ∃ off, a = some ⟨b, off, none⟩ ∧
    ∀ j (h : j < ps.length), w.cell? ⟨b, off + j * 2, none⟩ = some (.int .u64 ps[j].1) ∧ w.cell? ⟨b, off + j * 2 + 1, none⟩ = some (.int .u64 ps[j].2))

theorem PairsAt.kept {w w' : World} {b : Nat} {v : Value} {ps : List (Int × Int)} {row : Option Nat} (h : PairsAt w b v ps) (hg : w.grownBy w' row) (hne : some b ≠ row) : PairsAt w' b v ps := by
  obtain ⟨h0, a, cap, rfl, hcap, h1⟩ := h
  refine ⟨h0, a, cap, rfl, hcap, fun hp => ?_⟩
  obtain ⟨off, rfl, hc⟩ := h1 hp
  exact ⟨off, rfl, fun j hj => ⟨hg.cell (hc j hj).1 hne, hg.cell (hc j hj).2 hne⟩⟩
theorem PairsAt.below {w w' : World} {b : Nat} {v : Value} {ps : List (Int × Int)} (h : PairsAt w b v ps) (hb : Below w.heap.size w w') : PairsAt w' b v ps := by
  obtain ⟨h0, a, cap, rfl, hcap, h1⟩ := h
  refine ⟨h0, a, cap, rfl, hcap, fun hp => ?_⟩
  obtain ⟨off, rfl, hc⟩ := h1 hp
  exact ⟨off, rfl, fun j hj => ⟨(hb.cell (World.block_lt_of_cell? w _ (hc j hj).1)).trans (hc j hj).1, (hb.cell (World.block_lt_of_cell? w _ (hc j hj).2)).trans (hc j hj).2⟩⟩

set_option maxRecDepth 100000 in
theorem named_none (a : Option Addr) (cap : Nat) (w : World) :
    Calls Try.prog 6 #[.slice a 0 cap] w fun e w' => e = .returned (.map (some w.heap.size)) ∧ OwnsM w' w.heap.size 0 [] ∧ Below w.heap.size w w' := by
  have hmm := @run_makeMap Try.prog
  go_enter Try.func6, Try.ntmps6
  go_wp2
  refine wp_loop_rounds 1 ?_
  rw [rounds_succ]
  go_wp2
  go_ret
  exact ⟨rfl, OwnsM.made _, (Below.refl _ _).alloc (Nat.le_refl _) _⟩

set_option maxRecDepth 100000 in
theorem named_ne (b off cap : Nat) (ps : List (Int × Int)) (w : World) (hlen : ps.length ≤ 32768) (hb : b < w.heap.size)
    (hc : ∀ j (h : j < ps.length), w.cell? ⟨b, off + j * 2, none⟩ = some (.int .u64 ps[j].1) ∧ w.cell? ⟨b, off + j * 2 + 1, none⟩ = some (.int .u64 ps[j].2))
    (hw : ∀ p ∈ ps, Word p.1 ∧ Word p.2) :
    Calls Try.prog 6 #[.slice (some ⟨b, off, none⟩) ps.length cap] w fun e w' => e = .returned (.map (some w.heap.size)) ∧ OwnsM w' w.heap.size ps.length (Plain.named ps) ∧ Below w.heap.size w w' := by
  have hmm := @run_makeMap Try.prog
  go_enter Try.func6, Try.ntmps6
  go_wp2
  go_loopw [4] (fun i wr => ∃ k : Nat, k ≤ ps.length ∧ i = .int .i64 k ∧ OwnsM wr w.heap.size k (Plain.named (ps.take k)) ∧ Below w.heap.size w wr)
    (fun i _ => ps.length - (intOf i).toNat)
  case atStart => exact ⟨0, Nat.zero_le _, rfl, OwnsM.made _, (Below.refl _ _).alloc (Nat.le_refl _) _⟩
  case round =>
    obtain ⟨k, hk, rfl, hown, hnx⟩ := hrel
    by_cases hlt : k < ps.length
    · have hlt' : (k : Int) < (ps.length : Int) := by omega
      obtain ⟨c0, c1⟩ := hc k hlt
      obtain ⟨wf0, wf1⟩ := hw ps[k] (List.getElem_mem hlt)
      have hts : Hid (ps.take (k + 1) = ps.take k ++ [ps[k]]) := take_snoc ps k hlt
      have c0' : wr.cell? ⟨b, off + k * 2, none⟩ = some (.int .u64 ps[k].1) := (hnx.cell (by exact hb)).trans c0
      have c1' : wr.cell? ⟨b, off + k * 2 + 1, none⟩ = some (.int .u64 ps[k].2) := (hnx.cell (by exact hb)).trans c1
      clear c0 c1 hc
      obtain ⟨h, hh⟩ : ∃ h, h = ps[k].1 := ⟨_, rfl⟩
      obtain ⟨v, hv⟩ : ∃ v, v = ps[k].2 := ⟨_, rfl⟩
      rw [← hh] at c0' wf0
      rw [← hv] at c1' wf1
      have Hh : Hid (h = ps[k].1) := hh
      have Hv : Hid (v = ps[k].2) := hv
      clear hh hv
      obtain ⟨w1, hrun, hown1, hg1⟩ := hown.drew.store Try.underlying25 (by unfold maxLen; omega) wf0 wf1
      go_wp2
      go_region
      go_wp2
      go_roundw
      case rel =>
        refine ⟨k + 1, by omega, by go_num, ?_, hnx.drew.grown hg1 hnx.size (fun j hj => by cases hj; exact Nat.le_refl _)⟩
        rw [hts.out, Plain.named_snoc, ← Hh.out, ← Hv.out]
        exact hown1
      case measure => simp [intOf]; omega
    · go_wp2
      go_ret
      refine ⟨rfl, ?_, hnx⟩
      have : k = ps.length := by omega
      subst this
      rw [List.take_length] at hown
      exact hown

theorem named_any (b : Nat) (v : Value) (ps : List (Int × Int)) (w : World) (hlen : ps.length ≤ 32768) (h : PairsAt w b v ps) :
    Calls Try.prog 6 #[v] w fun e w' => e = .returned (.map (some w.heap.size)) ∧ OwnsM w' w.heap.size ps.length (Plain.named ps) ∧ Below w.heap.size w w' := by
  obtain ⟨h0, a, cap, rfl, hcap, h1⟩ := h
  by_cases hp : 0 < ps.length
  · obtain ⟨off, rfl, hc⟩ := h1 hp
    exact named_ne b off cap ps w hlen (World.block_lt_of_cell? w _ (hc 0 hp).1) hc h0
  · have e : ps = [] := List.length_eq_zero_iff.1 (by omega)
    subst e
    exact named_none a cap w
end Go.Proofs.Qxb6617911a
