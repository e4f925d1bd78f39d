import Derived.Test.Qxb6617963aSteps
import Derived.Deep.AppendLies
namespace Go.Proofs.Qxb6617963a
open Go.RowKit
set_option linter.unusedVariables false

theorem info53 : (Try.prog.info? 53).map (fun i => (i.zero, i.size, i.bytes)) = some (some (.agg #[.slice none 0 0, .bool false]), 2, 32) := by kernel_rfl
theorem info55 : (Try.prog.info? 55).map (fun i => (i.zero, i.size, i.bytes)) = some (some (.agg #[.int .u8 0, .int .i32 0]), 2, 8) := by kernel_rfl

theorem cells_two_new (w : World) (x y : Value) (t : TypeId) : ∀ j u, [x, y][j]? = some u → (w.alloc (.cells #[x, y] t)).cell? ((⟨w.heap.size, 0, none⟩ : Addr).add j) = some u :=
  World.news_of_block (cs := #[x, y]) (MapKept.heap_alloc w _).1

section
variable {w : World} {base t : Nat} {R : Nat → Nat} {N : Nat} {E : Nat → List (UInt8 × Nat)} {Wh : Nat → Bool} {g cap : Nat} {A : Nat → Option Addr} {C : Nat → Nat}

/-- 't.nodes = append(t.nodes, trieNode{})': the append. -/
theorem wp_node_append {ops : Array Oper} {rest : List Oper} {o : Oper} {a : Act} {Q : Exit → Act → World → Prop} (hT : TrieIs w base t R N E Wh g cap A C) (hgd : o.guard = none) (p q : Operand)
    (ho : o.op = .call { callee := .builtin .append, args := #[p, q], argTypes := #[48, 48] })
    (hp : a.eval p = .slice (some ⟨g, 0, none⟩) N cap) (hq : a.eval q = .slice (some ⟨w.heap.size, 0, none⟩) 1 1) (hN : N ≤ 4097)
    (hK : ∀ g' cap' w', w'.cell? ⟨t, 256, none⟩ = some (.slice (some ⟨g, 0, none⟩) N cap) → w'.frozen? ⟨t, 256, none⟩ = false →
      TrieIs (w'.setCell ⟨t, 256, none⟩ (.slice (some ⟨g', 0, none⟩) (N + 1) cap')) base t R (N + 1) (fun k => if k = N then [] else E k) (fun k => if k = N then false else Wh k) g' cap' (fun k => if k = N then none else A k) (fun k => if k = N then 0 else C k) →
      Below base w w' → wpList Try.prog ops Q rest (a.put o.dst (.slice (some ⟨g', 0, none⟩) (N + 1) cap')) w') :
    wpList Try.prog ops Q (o :: rest) a (w.alloc (.cells #[.slice none 0 0, .bool false] 53)) := by
  obtain ⟨f1, f2, f3, f4, f5, f6, f7, f8⟩ := hT.fields
  obtain ⟨i0, hi, hz0, hz1, hz2⟩ := info_parts info53
  refine wpList_append_lies (P := Try.prog) _ hgd p q 48 ho base 53 i0 _ 2 32 Try.underlying48 hi hz0 hz1 hz2 rfl (by decide) _ N _ hp (hT.2.2.2.1.alloc _) ⟨w.heap.size, 0, none⟩ 1 1 [.slice none 0 0, .bool false] hq rfl (cells_two_new _ _ _ _) (by simp [Value.oneCell']) (by decide) (by unfold maxLen; omega) (by omega) (by rw [World.size_alloc]; omega) _ rfl ?_
  intro g' cap' w' hown hgrow hat _
  have hne : some t ≠ some g := fun e => hT.2.1 (by cases e; rfl)
  have ht0 : t < (w.alloc (.cells #[.slice none 0 0, .bool false] 53)).heap.size := by rw [World.size_alloc]; omega
  have h0 : w.grownBy (w.alloc (.cells #[.slice none 0 0, .bool false] 53)) none := World.grownBy_alloc _ _ _
  have hat' : g' = g ∨ g' = (w.alloc (.cells #[.slice none 0 0, .bool false] 53)).heap.size := by
    rcases hat with h | h
    · exact .inl (by simpa [Value.ownBlock] using h.symm)
    · exact .inr h
  refine hK g' cap' w' ?_ ?_ (hT.node h0 hown hgrow hat') ?_
  · rw [hgrow.cell_far ⟨t, 256, none⟩ ht0 hne, h0.cell_far ⟨t, 256, none⟩ f5 (by simp)]
    exact f1
  · rw [hgrow.frozen_far ⟨t, 256, none⟩ ht0 hne, h0.frozen_far ⟨t, 256, none⟩ f5 (by simp)]
    exact f2
  · exact ((Below.refl base w).grown h0 (by omega) (fun k hk => by cases hk)).grown hgrow (by rw [World.size_alloc]; omega) (fun k hk => by cases hk; exact f8)

/-- 't.nodes[n].next = append(t.nodes[n].next, trieEdge{..})': the append, a step of a region that draws. 'wd': the world there. -/
theorem step_edge_append {ops : Array Oper} {o : Oper} {a : Act} {K : Act → World → Prop} {Q : Exit → Act → World → Prop} {F : Prop} {wd : World} (hT : TrieIs w base t R N E Wh g cap A C) {n : Nat} (hn : n < N) (hN : N ≤ 4097) (hl : (E n).length ≤ 4096) (b : UInt8) (m : Nat) (mi : Int) (hmi : mi = (m : Int))
    (hwd : wd.heap = (w.alloc (.cells #[.int .u8 (b.toNat : Int), .int .i32 mi] 55)).heap ∧ wd.os = w.os ∧ wd.tape = w.tape ∧ wd.output = w.output)
    (hgd : o.guard = none) (p q : Operand) (ho : o.op = .call { callee := .builtin .append, args := #[p, q], argTypes := #[51, 51] })
    (hp : a.eval p = .slice (A n) (E n).length (C n)) (hq : a.eval q = .slice (some ⟨w.heap.size, 0, none⟩) 1 1)
    (hK : ∀ q' c' w', w'.cell? ⟨t, 256, none⟩ = some (.slice (some ⟨g, 0, none⟩) N cap) → w'.cell? ⟨g, n * 2, none⟩ = some (.slice (A n) (E n).length (C n)) → w'.frozen? ⟨g, n * 2, none⟩ = false →
      TrieIs (w'.setCell ⟨g, n * 2, none⟩ (.slice (some ⟨q', 0, none⟩) ((E n).length + 1) c')) base t R N (fun k => if k = n then E n ++ [(b, m)] else E k) Wh g cap (fun k => if k = n then some ⟨q', 0, none⟩ else A k) (fun k => if k = n then c' else C k) →
      Below base w w' → K (a.put o.dst (.slice (some ⟨q', 0, none⟩) ((E n).length + 1) c')) w') :
    if Region.wanted o (yielded ops a.tmps) = true then Oper.wp Try.prog o a wd K Q else F := by
  obtain ⟨f1, f2, f3, f4, f5, f6, f7, f8⟩ := hT.fields
  obtain ⟨i0, hi, hz0, hz1, hz2⟩ := info_parts info55
  subst hmi
  obtain ⟨e1, e2, e3, e4⟩ := hwd
  have hs : wd.heap.size = w.heap.size + 1 := by rw [e1]; exact World.size_alloc ..
  have h0 : w.grownBy wd none := by
    have := World.grownBy_alloc w (.cells #[.int .u8 (b.toNat : Int), .int .i32 (m : Int)] 55) none
    exact ⟨e2, e3, e4, by omega, fun k hk hne => by rw [e1]; exact this.block k hk hne⟩
  have hown0 : wd.ownsRow base 55 2 (.slice (A n) (E n).length (C n)) (E n).length (edgeCells (E n)) := (hT.2.2.2.2.1 n hn).kept h0 (by rw [own_blk]; cases blk (A n) <;> simp)
  refine step_append_lies (P := Try.prog) wd hgd p q 51 ho base 55 i0 _ 2 8 Try.underlying51 hi hz0 hz1 hz2 rfl (by decide) _ (E n).length _ hp hown0 ⟨w.heap.size, 0, none⟩ 1 1 [.int .u8 (b.toNat : Int), .int .i32 (m : Int)] hq rfl
    (World.news_of_block (cs := #[.int .u8 (b.toNat : Int), .int .i32 (m : Int)]) (t := 55) (fr := (0, 0)) (by rw [e1]; exact (MapKept.heap_alloc w _).1)) (by simp [Value.oneCell']) (by decide) (by unfold maxLen; omega) (by omega) (by omega) _ rfl ?_
  intro q' c' w' hown hgrow hat _
  rw [own_blk] at hgrow hat
  have hgn : some g ≠ blk (A n) := fun e => (hT.2.2.2.2.2.1 n g hn e.symm).2 rfl
  have htn : some t ≠ blk (A n) := fun e => (hT.2.2.2.2.2.1 n t hn e.symm).1 rfl
  obtain ⟨d1, d2, _, _⟩ := f4 n hn
  refine hK q' c' w' ?_ ?_ ?_ (hT.edge hn h0 b m hown hgrow hat) ?_
  · rw [hgrow.cell_far ⟨t, 256, none⟩ (show t < _ by omega) htn, h0.cell_far ⟨t, 256, none⟩ f5 (by simp)]
    exact f1
  · rw [hgrow.cell_far ⟨g, n * 2, none⟩ (show g < _ by omega) hgn, h0.cell_far ⟨g, n * 2, none⟩ f6 (by simp)]
    exact d1
  · rw [hgrow.frozen_far ⟨g, n * 2, none⟩ (show g < _ by omega) hgn, h0.frozen_far ⟨g, n * 2, none⟩ f6 (by simp)]
    exact d2
  · exact ((Below.refl base w).grown h0 (by omega) (fun k hk => by cases hk)).grown hgrow (by omega) (fun k hk => (blk_lt (hT.2.2.2.2.1 n hn) hk).1)
end
end Go.Proofs.Qxb6617963a
