import Derived.Test.Qxb6617911aTaken
namespace Go.Proofs.Qxb6617911a
open Go.RowKit Go.Maps

/-- The last k pairs of the reversed list lie in the row. -/
def RowEnds (f : Nat → Value) (ps : List (Int × Int)) (k : Nat) : Prop := ∀ j (h : j < ps.length), j < k → f ((ps.length - 1 - j) * 2) = .int .u64 ps[j].1 ∧ f ((ps.length - 1 - j) * 2 + 1) = .int .u64 ps[j].2

theorem rowEnds_step {f : Nat → Value} {ps : List (Int × Int)} {k : Nat} (h : RowEnds f ps k) (hk : k < ps.length) :
    RowEnds (fun j => if j = (ps.length - 1 - k) * 2 + 1 then .int .u64 ps[k].2 else if j = (ps.length - 1 - k) * 2 then .int .u64 ps[k].1 else f j) ps (k + 1) := by
  intro j hj hjk
  by_cases e : j = k
  · subst e
    simp
  · have := h j hj (by omega)
    have h1 : ¬ (ps.length - 1 - j) * 2 = (ps.length - 1 - k) * 2 + 1 := by omega
    have h2 : ¬ (ps.length - 1 - j) * 2 = (ps.length - 1 - k) * 2 := by omega
    have h3 : ¬ (ps.length - 1 - j) * 2 + 1 = (ps.length - 1 - k) * 2 + 1 := by omega
    have h4 : ¬ (ps.length - 1 - j) * 2 + 1 = (ps.length - 1 - k) * 2 := by omega
    simp only [if_neg h1, if_neg h2, if_neg h3, if_neg h4]
    exact this

theorem rowEnds_all {f : Nat → Value} {ps : List (Int × Int)} (h : RowEnds f ps ps.length) : RowPairs f ps.reverse ps.reverse.length := by
  intro j hj _
  have hj' : j < ps.length := by simpa using hj
  have := h (ps.length - 1 - j) (by omega) (by omega)
  rw [show ps.length - 1 - (ps.length - 1 - j) = j by omega] at this
  rw [List.getElem_reverse]
  exact this

set_option maxRecDepth 100000 in
theorem rev_ne (b off cap : Nat) (ps : List (Int × Int)) (w : World) (hlen : ps.length ≤ 32768) (hb : b < w.heap.size)
    (hc : ∀ j (h : j < ps.length), w.cell? ⟨b, off + j * 2, none⟩ = some (.int .u64 ps[j].1) ∧ w.cell? ⟨b, off + j * 2 + 1, none⟩ = some (.int .u64 ps[j].2)) :
    Calls Try.prog 11 #[.slice (some ⟨b, off, none⟩) ps.length cap] w fun e w' => e = .returned (.slice (some ⟨w.heap.size, 0, none⟩) ps.length ps.length) ∧
      (∃ f, w'.rowIs w.heap.size 37 (ps.length * 2) f ∧ RowEnds f ps ps.length) ∧ Below w.heap.size w w' := by
  have hmk := make37 ps.length hlen
  go_enter Try.func11, Try.ntmps11
  go_wp2
  go_loopw [4] (fun i wr => ∃ k : Nat, k ≤ ps.length ∧ i = .int .i64 k ∧ (∃ f, wr.rowIs w.heap.size 37 (ps.length * 2) f ∧ RowEnds f ps k) ∧ Below w.heap.size w wr)
    (fun i _ => ps.length - (intOf i).toNat)
  case atStart =>
    obtain ⟨f, hf⟩ := rowIs_made2 w ps.length
    exact ⟨0, Nat.zero_le _, rfl, ⟨f, hf, fun j _ h => absurd h (Nat.not_lt_zero _)⟩, (Below.refl _ _).alloc (Nat.le_refl _) _⟩
  case round =>
    obtain ⟨k, hk, rfl, ⟨f, hrow, hf⟩, hnx⟩ := hrel
    by_cases hlt : k < ps.length
    · have hlt' : (k : Int) < (ps.length : Int) := by omega
      obtain ⟨c0, c1⟩ := hc k hlt
      have c0' : wr.cell? ⟨b, off + k * 2, none⟩ = some (.int .u64 ps[k].1) := (hnx.cell (by exact hb)).trans c0
      have c1' : wr.cell? ⟨b, off + k * 2 + 1, none⟩ = some (.int .u64 ps[k].2) := (hnx.cell (by exact hb)).trans c1
      have d0 := hrow.cell (i := (ps.length - 1 - k) * 2) (by omega)
      have d1 := hrow.cell (i := (ps.length - 1 - k) * 2 + 1) (by omega)
      have z0 := hrow.frozen ((ps.length - 1 - k) * 2)
      have z1 := hrow.frozen ((ps.length - 1 - k) * 2 + 1)
      have hstep : Hid (RowEnds (fun j => if j = (ps.length - 1 - k) * 2 + 1 then .int .u64 ps[k].2 else if j = (ps.length - 1 - k) * 2 then .int .u64 ps[k].1 else f j) ps (k + 1)) := rowEnds_step hf hlt
      clear c0 c1 hc hf
      obtain ⟨h, hh⟩ : ∃ h, h = ps[k].1 := ⟨_, rfl⟩
      obtain ⟨v, hv⟩ : ∃ v, v = ps[k].2 := ⟨_, rfl⟩
      rw [← hh] at c0' hstep
      rw [← hv] at c1' hstep
      clear hh hv
      go_wp2
      go_roundw
      case rel =>
        exact ⟨k + 1, by omega, by go_num, ⟨_, (hrow.set ((ps.length - 1 - k) * 2) _).set ((ps.length - 1 - k) * 2 + 1) _, hstep.out⟩, (hnx.setCell (Nat.le_refl _) _).setCell (Nat.le_refl _) _⟩
      case measure => simp [intOf]; omega
    · go_wp2
      go_ret
      have : k = ps.length := by omega
      subst this
      exact ⟨rfl, ⟨f, hrow, hf⟩, hnx⟩

set_option maxRecDepth 100000 in
theorem rev_none (a : Option Addr) (cap : Nat) (w : World) : Calls Try.prog 11 #[.slice a 0 cap] w fun e w' => e = .returned (.slice (some ⟨w.heap.size, 0, none⟩) 0 0) ∧ Below w.heap.size w w' := by
  have hmk : ∀ w : World, (Instr.makeSlice 27 (.int .i64 0) (.int .i64 0)).run Try.prog w = .ok (.slice (some ⟨w.heap.size, 0, none⟩) 0 0) (w.alloc (.cells (madeCells #[.int .u64 0, .int .u64 0] 0) 37)) := make37 0 (by omega)
  go_enter Try.func11, Try.ntmps11
  go_wp2
  refine wp_loop_rounds 1 ?_
  rw [rounds_succ]
  go_wp2
  go_ret
  exact ⟨rfl, (Below.refl _ _).alloc (Nat.le_refl _) _⟩

theorem rev_any (b : Nat) (v : Value) (ps : List (Int × Int)) (w : World) (hlen : ps.length ≤ 32768) (h : PairsAt w b v ps) :
    Calls Try.prog 11 #[v] w fun e w' => ∃ v', e = .returned v' ∧ PairsAt w' w.heap.size v' ps.reverse ∧ Below w.heap.size w w' := by
  obtain ⟨h0, a, cap, rfl, hcap, h1⟩ := h
  by_cases hp : 0 < ps.length
  · obtain ⟨off, rfl, hc⟩ := h1 hp
    refine (rev_ne b off cap ps w hlen (World.block_lt_of_cell? w _ (hc 0 hp).1) hc).mono ?_
    rintro e w' ⟨rfl, ⟨f, hrow, hf⟩, hb⟩
    have hr := pairs_row (ps := ps.reverse) (by simpa using hrow) (rowEnds_all hf) (fun p hp => h0 p (by simpa using hp))
    simp only [List.length_reverse] at hr
    exact ⟨_, rfl, hr, hb⟩
  · have e : ps = [] := List.length_eq_zero_iff.1 (by omega)
    subst e
    refine (rev_none a cap w).mono ?_
    rintro e w' ⟨rfl, hb⟩
    exact ⟨_, rfl, ⟨h0, _, _, rfl, Nat.le_refl _, fun h => absurd h (Nat.lt_irrefl _)⟩, hb⟩
end Go.Proofs.Qxb6617911a
