import Derived.Test.Qxb6617911aNamed
import Derived.Deep.OwnRows
namespace Go.Proofs.Qxb6617911a
open Go.RowKit Go.Maps

theorem info37 : (Try.prog.info? 37).map (fun i => (i.zero, i.size, i.bytes)) = some (some (.agg #[.int .u64 0, .int .u64 0]), 2, 16) := by kernel_rfl

theorem make37 (n : Nat) (hn : n ≤ 32768) (w : World) : (Instr.makeSlice 27 (.int .i64 n) (.int .i64 n)).run Try.prog w =
    .ok (.slice (some ⟨w.heap.size, 0, none⟩) n n) (w.alloc (.cells (madeCells #[.int .u64 0, .int .u64 0] (n * 2)) 37)) := by
  have h := info37
  cases hi : Try.prog.info? 37 with
  | none => rw [hi] at h; simp at h
  | some i =>
    rw [hi] at h
    simp at h
    obtain ⟨h1, h2, h3⟩ := h
    have := run_make (P := Try.prog) w 27 37 i _ Try.underlying27 hi h1 .i64 .i64 n n (by omega) (by omega) (by rw [h3]; omega) (by omega)
    rw [this, h2]
    simp [Value.cells]

theorem eqlNil (w : World) (a : Option Addr) (n c : Nat) : (binOp .eql 22 (.slice a n c) (.slice none 0 0)).run Try.prog w = .ok (.bool a.isNone) w := by
  have := Lib.run_eql_slice_nil (P := Try.prog) w 22 35 a n c 0 0 Try.underlying22
  exact this

/-- The first k pairs lie in the row. -/
def RowPairs (f : Nat → Value) (ps : List (Int × Int)) (k : Nat) : Prop := ∀ j (h : j < ps.length), j < k → f (j * 2) = .int .u64 ps[j].1 ∧ f (j * 2 + 1) = .int .u64 ps[j].2

theorem rowPairs_step {f : Nat → Value} {ps : List (Int × Int)} {k : Nat} (h : RowPairs f ps k) (hk : k < ps.length) :
    RowPairs (fun j => if j = k * 2 + 1 then .int .u64 ps[k].2 else if j = k * 2 then .int .u64 ps[k].1 else f j) ps (k + 1) := by
  intro j hj hjk
  by_cases e : j = k
  · subst e
    simp
  · have := h j hj (by omega)
    have h1 : ¬ j * 2 = k * 2 + 1 := by omega
    have h2 : ¬ j * 2 = k * 2 := by omega
    have h4 : ¬ j * 2 + 1 = k * 2 := by omega
    simp [h1, h2, h4]
    exact this

theorem rowIs_made2 (w : World) (n : Nat) : ∃ f, (w.alloc (.cells (madeCells #[.int .u64 0, .int .u64 0] (n * 2)) 37)).rowIs w.heap.size 37 (n * 2) f := by
  refine ⟨fun _ => .int .u64 0, _, MapKept.heap_alloc w _ |>.1, size_madeCells _ _, fun i hi => ?_⟩
  have : i % 2 = 0 ∨ i % 2 = 1 := by omega
  rcases this with h | h <;> simp [madeCells, hi, h]

set_option maxRecDepth 100000 in
theorem taken_ne (b off cap : Nat) (ps : List (Int × Int)) (w : World) (hlen : ps.length ≤ 32768) (hb : b < w.heap.size)
    (hc : ∀ j (h : j < ps.length), w.cell? ⟨b, off + j * 2, none⟩ = some (.int .u64 ps[j].1) ∧ w.cell? ⟨b, off + j * 2 + 1, none⟩ = some (.int .u64 ps[j].2)) :
    Calls Try.prog 7 #[.slice (some ⟨b, off, none⟩) ps.length cap] w fun e w' => e = .returned (.slice (some ⟨w.heap.size, 0, none⟩) ps.length ps.length) ∧
      (∃ f, w'.rowIs w.heap.size 37 (ps.length * 2) f ∧ RowPairs f ps ps.length) ∧ Below w.heap.size w w' := by
  have hmk := make37 ps.length hlen
  have heq := eqlNil
  go_enter Try.func7, Try.ntmps7
  go_wp2
  go_loopw [4] (fun i wr => ∃ k : Nat, k ≤ ps.length ∧ i = .int .i64 k ∧ (∃ f, wr.rowIs w.heap.size 37 (ps.length * 2) f ∧ RowPairs f ps k) ∧ Below w.heap.size w wr)
    (fun i _ => ps.length - (intOf i).toNat)
  case atStart =>
    obtain ⟨f, hf⟩ := rowIs_made2 w ps.length
    exact ⟨0, Nat.zero_le _, rfl, ⟨f, hf, fun j _ h => absurd h (Nat.not_lt_zero _)⟩, (Below.refl _ _).alloc (Nat.le_refl _) _⟩
  case round =>
    obtain ⟨k, hk, rfl, ⟨f, hrow, hf⟩, hnx⟩ := hrel
    by_cases hlt : k < ps.length
    · have hlt' : (k : Int) < (ps.length : Int) := by omega
      obtain ⟨c0, c1⟩ := hc k hlt
      have c0' : wr.cell? ⟨b, off + k * 2, none⟩ = some (.int .u64 ps[k].1) := (hnx.cell (by exact hb)).trans c0
      have c1' : wr.cell? ⟨b, off + k * 2 + 1, none⟩ = some (.int .u64 ps[k].2) := (hnx.cell (by exact hb)).trans c1
      have d0 := hrow.cell (i := k * 2) (by omega)
      have d1 := hrow.cell (i := k * 2 + 1) (by omega)
      have z0 := hrow.frozen (k * 2)
      have z1 := hrow.frozen (k * 2 + 1)
      have hstep : Hid (RowPairs (fun j => if j = k * 2 + 1 then .int .u64 ps[k].2 else if j = k * 2 then .int .u64 ps[k].1 else f j) ps (k + 1)) := rowPairs_step hf hlt
      clear c0 c1 hc hf
      obtain ⟨h, hh⟩ : ∃ h, h = ps[k].1 := ⟨_, rfl⟩
      obtain ⟨v, hv⟩ : ∃ v, v = ps[k].2 := ⟨_, rfl⟩
      rw [← hh] at c0' hstep
      rw [← hv] at c1' hstep
      clear hh hv
      go_wp2
      go_region
      go_wp2
      go_roundw
      case rel =>
        exact ⟨k + 1, by omega, by go_num, ⟨_, ((hrow.set (k * 2) _).set (k * 2 + 1) _).drew, hstep.out⟩, ((hnx.setCell (Nat.le_refl _) _).setCell (Nat.le_refl _) _).drew⟩
      case measure => simp [intOf]; omega
    · go_wp2
      go_ret
      have : k = ps.length := by omega
      subst this
      exact ⟨rfl, ⟨f, hrow, hf⟩, hnx⟩

set_option maxRecDepth 100000 in
theorem taken_nil (cap : Nat) (w : World) : Calls Try.prog 7 #[.slice none 0 cap] w fun e w' => e = .returned (.slice none 0 0) ∧ w' = w := by
  have heq := eqlNil
  go_enter Try.func7, Try.ntmps7
  go_wp2
  go_ret
  exact ⟨rfl, rfl⟩

set_option maxRecDepth 100000 in
theorem taken_empty (a : Addr) (cap : Nat) (w : World) : Calls Try.prog 7 #[.slice (some a) 0 cap] w fun e w' => e = .returned (.slice (some ⟨w.heap.size, 0, none⟩) 0 0) ∧ Below w.heap.size w w' := by
  have hmk : ∀ w : World, (Instr.makeSlice 27 (.int .i64 0) (.int .i64 0)).run Try.prog w = .ok (.slice (some ⟨w.heap.size, 0, none⟩) 0 0) (w.alloc (.cells (madeCells #[.int .u64 0, .int .u64 0] 0) 37)) := make37 0 (by omega)
  have heq := eqlNil
  go_enter Try.func7, Try.ntmps7
  go_wp2
  refine wp_loop_rounds 1 ?_
  rw [rounds_succ]
  go_wp2
  go_ret
  exact ⟨rfl, (Below.refl _ _).alloc (Nat.le_refl _) _⟩

theorem pairs_row {w' : World} {B : Nat} {ps : List (Int × Int)} {f : Nat → Value} (hrow : w'.rowIs B 37 (ps.length * 2) f) (hf : RowPairs f ps ps.length) (hw : ∀ p ∈ ps, Word p.1 ∧ Word p.2) :
    PairsAt w' B (.slice (some ⟨B, 0, none⟩) ps.length ps.length) ps := by
  refine ⟨hw, _, _, rfl, Nat.le_refl _, fun _ => ⟨0, rfl, fun j hj => ?_⟩⟩
  obtain ⟨h0, h1⟩ := hf j hj hj
  rw [Nat.zero_add, ← h0, ← h1]
  exact ⟨hrow.cell (by omega), hrow.cell (by omega)⟩

theorem taken_any (b : Nat) (v : Value) (ps : List (Int × Int)) (w : World) (hlen : ps.length ≤ 32768) (h : PairsAt w b v ps) :
    Calls Try.prog 7 #[v] w fun e w' => ∃ v', e = .returned v' ∧ PairsAt w' w.heap.size v' ps ∧ Below w.heap.size w w' := by
  obtain ⟨h0, a, cap, rfl, hcap, h1⟩ := h
  by_cases hp : 0 < ps.length
  · obtain ⟨off, rfl, hc⟩ := h1 hp
    refine (taken_ne b off cap ps w hlen (World.block_lt_of_cell? w _ (hc 0 hp).1) hc).mono ?_
    rintro e w' ⟨rfl, ⟨f, hrow, hf⟩, hb⟩
    exact ⟨_, rfl, pairs_row hrow hf h0, hb⟩
  · have e : ps = [] := List.length_eq_zero_iff.1 (by omega)
    subst e
    cases a with
    | none =>
      refine (taken_nil cap w).mono ?_
      rintro e w' ⟨rfl, rfl⟩
      exact ⟨_, rfl, ⟨h0, _, _, rfl, Nat.le_refl _, fun h => absurd h (Nat.lt_irrefl _)⟩, Below.refl _ _⟩
    | some a =>
      refine (taken_empty a cap w).mono ?_
      rintro e w' ⟨rfl, hb⟩
      exact ⟨_, rfl, ⟨h0, _, _, rfl, Nat.le_refl _, fun h => absurd h (Nat.lt_irrefl _)⟩, hb⟩
end Go.Proofs.Qxb6617911a
