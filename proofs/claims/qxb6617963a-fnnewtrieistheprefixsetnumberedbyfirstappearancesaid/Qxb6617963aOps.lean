import Derived.Test.Qxb6617963aNext
import Derived.Deep.AppendLies
namespace Go.Proofs.Qxb6617963a
open Go.RowKit
set_option linter.unusedVariables false

/-- The block of a slice's address. -/
def blk (a : Option Addr) : Option Nat := a.map (·.block)

/-- The body of 'TrieAt', its memory named. -/
def TrieIs (w : World) (base t : Nat) (R : Nat → Nat) (N : Nat) (E : Nat → List (UInt8 × Nat)) (Wh : Nat → Bool) (g cap : Nat) (A : Nat → Option Addr) (C : Nat → Nat) : Prop :=
  base ≤ t ∧ g ≠ t ∧
    w.rowIs t 50 257 (fun i => if i < 256 then .int .i32 (R i : Int) else .slice (some ⟨g, 0, none⟩) N cap) ∧
    w.ownsRow base 53 2 (.slice (some ⟨g, 0, none⟩) N cap) N (pairCells N (fun k => .slice (A k) (E k).length (C k)) (fun k => .bool (Wh k))) ∧
    (∀ k, k < N → w.ownsRow base 55 2 (.slice (A k) (E k).length (C k)) (E k).length (edgeCells (E k))) ∧
    (∀ k b, k < N → blk (A k) = some b → b ≠ t ∧ b ≠ g) ∧
    (∀ j k b, j < N → k < N → blk (A j) = some b → blk (A k) = some b → j = k)

theorem TrieIs.toAt {w : World} {base t : Nat} {R : Nat → Nat} {N : Nat} {E : Nat → List (UInt8 × Nat)} {Wh : Nat → Bool} {g cap : Nat} {A : Nat → Option Addr} {C : Nat → Nat} (h : TrieIs w base t R N E Wh g cap A C) : TrieAt w base t R N E Wh := ⟨g, cap, A, C, h⟩
theorem TrieAt.body {w : World} {base t : Nat} {R : Nat → Nat} {N : Nat} {E : Nat → List (UInt8 × Nat)} {Wh : Nat → Bool} (h : TrieAt w base t R N E Wh) : ∃ g cap A C, TrieIs w base t R N E Wh g cap A C := h

theorem own_blk (a : Option Addr) (n c : Nat) : (Value.slice a n c).ownBlock = blk a := by cases a <;> rfl

theorem blk_lt {w : World} {base e size n : Nat} {a : Option Addr} {m c : Nat} {xs : List Value} (h : w.ownsRow base e size (.slice a m c) n xs) {b : Nat} (hb : blk a = some b) : base ≤ b ∧ b < w.heap.size :=
  h.lt b (by rw [own_blk]; exact hb)

section
variable {w : World} {base t : Nat} {R : Nat → Nat} {N : Nat} {E : Nat → List (UInt8 × Nat)} {Wh : Nat → Bool} {g cap : Nat} {A : Nat → Option Addr} {C : Nat → Nat}

/-- A new node. -/
theorem TrieIs.node (h : TrieIs w base t R N E Wh g cap A C) {w0 w' : World} {g' cap' : Nat} (h0 : w.grownBy w0 none)
    (hown : w'.ownsRow base 53 2 (.slice (some ⟨g', 0, none⟩) (N + 1) cap') (N + 1) (pairCells N (fun k => .slice (A k) (E k).length (C k)) (fun k => .bool (Wh k)) ++ [.slice none 0 0, .bool false]))
    (hg : w0.grownBy w' (some g)) (hat : g' = g ∨ g' = w0.heap.size) :
    TrieIs (w'.setCell ⟨t, 256, none⟩ (.slice (some ⟨g', 0, none⟩) (N + 1) cap')) base t R (N + 1) (fun k => if k = N then [] else E k) (fun k => if k = N then false else Wh k) g' cap' (fun k => if k = N then none else A k) (fun k => if k = N then 0 else C k) := by
  obtain ⟨h1, h2, h3, h4, h5, h6, h7⟩ := h
  have htl := h3.lt
  have hgl := (h4.lt g rfl).2
  have hsz := h0.size
  have hg't : g' ≠ t := by rcases hat with e | e <;> omega
  have bk : ∀ i, i < w.heap.size → i ≠ g → w'.heap[i]? = w.heap[i]? := fun i hi hne => (hg.block i (by omega) (fun e => hne (by cases e; rfl))).trans (h0.block i hi (by simp))
  refine ⟨h1, hg't, ?_, ?_, ?_, ?_, ?_⟩
  · have r := (h3.of_block (bk t htl (Ne.symm h2))).set 256 (.slice (some ⟨g', 0, none⟩) (N + 1) cap')
    refine r.congr (fun i hi => ?_)
    by_cases hi2 : i < 256
    · have : ¬ i = 256 := by omega
      simp [hi2, this]
    · have : i = 256 := by omega
      simp [this]
  · have e : pairCells N (fun k => .slice (A k) (E k).length (C k)) (fun k => .bool (Wh k)) ++ [.slice none 0 0, .bool false] =
        pairCells (N + 1) (fun k => .slice (if k = N then none else A k) (if k = N then [] else E k).length (if k = N then 0 else C k)) (fun k => .bool (if k = N then false else Wh k)) := by
      rw [pairCells_succ]
      have c := pairCells_congr (N := N) (F := fun k => .slice (A k) (E k).length (C k)) (G := fun k => .bool (Wh k)) (F' := fun k => .slice (if k = N then none else A k) (if k = N then [] else E k).length (if k = N then 0 else C k)) (G' := fun k => .bool (if k = N then false else Wh k))
        (fun k hk => by have : ¬ k = N := by omega
                        simp [this]) (fun k hk => by have : ¬ k = N := by omega
                                                     simp [this])
      rw [c]
      simp
    rw [e] at hown
    exact ownsRow_other hown (by rw [own_blk]; simp [blk]; exact hg't) _
  · intro k hk
    by_cases hk2 : k = N
    · subst hk2
      simp only [if_true]
      exact World.ownsRow_nil _ _ _ _
    · simp only [if_neg hk2]
      have hkN : k < N := by omega
      have r := h5 k hkN
      have r1 : w'.ownsRow base 55 2 (.slice (A k) (E k).length (C k)) (E k).length (edgeCells (E k)) := by
        refine (r.kept h0 ?_).kept hg ?_
        · rw [own_blk]; cases blk (A k) <;> simp
        · rw [own_blk]
          cases hb : blk (A k) with
          | none => exact .inl rfl
          | some b => exact .inr (by have := (h6 k b hkN hb).2; simpa using this)
      refine ownsRow_other r1 ?_ _
      rw [own_blk]
      intro e
      exact (h6 k t hkN e).1 rfl
  · intro k b hk hb
    by_cases hk2 : k = N
    · simp [hk2, blk] at hb
    · simp only [if_neg hk2] at hb
      have hkN : k < N := by omega
      have hlt := (blk_lt (h5 k hkN) hb).2
      have := h6 k b hkN hb
      refine ⟨this.1, ?_⟩
      rcases hat with e | e
      · rw [e]; exact this.2
      · omega
  · intro j k b hj hk hbj hbk
    by_cases hj2 : j = N
    · simp [hj2, blk] at hbj
    · by_cases hk2 : k = N
      · simp [hk2, blk] at hbk
      · simp only [if_neg hj2] at hbj
        simp only [if_neg hk2] at hbk
        exact h7 j k b (by omega) (by omega) hbj hbk

/-- A new entry of the root. -/
theorem TrieIs.root (h : TrieIs w base t R N E Wh g cap A C) {b : Nat} (hb : b < 256) (m : Nat) : TrieIs (w.setCell ⟨t, b, none⟩ (.int .i32 (m : Int))) base t (fun i => if i = b then m else R i) N E Wh g cap A C := by
  obtain ⟨h1, h2, h3, h4, h5, h6, h7⟩ := h
  refine ⟨h1, h2, ?_, ownsRow_other h4 (by rw [own_blk]; simp [blk]; exact h2) _, fun k hk => ownsRow_other (h5 k hk) (by rw [own_blk]; intro e; exact (h6 k t hk e).1 rfl) _, h6, h7⟩
  refine (h3.set b (.int .i32 (m : Int))).congr (fun i hi => ?_)
  by_cases e : i = b
  · subst e
    simp [hb]
  · simp [e]

/-- A new edge of node n. -/
theorem TrieIs.edge (h : TrieIs w base t R N E Wh g cap A C) {n : Nat} (hn : n < N) {w0 w' : World} {q c : Nat} (h0 : w.grownBy w0 none) (b : UInt8) (m : Nat)
    (hown : w'.ownsRow base 55 2 (.slice (some ⟨q, 0, none⟩) ((E n).length + 1) c) ((E n).length + 1) (edgeCells (E n) ++ [.int .u8 (b.toNat : Int), .int .i32 (m : Int)]))
    (hg : w0.grownBy w' (blk (A n))) (hat : blk (A n) = some q ∨ q = w0.heap.size) :
    TrieIs (w'.setCell ⟨g, n * 2, none⟩ (.slice (some ⟨q, 0, none⟩) ((E n).length + 1) c)) base t R N (fun k => if k = n then E n ++ [(b, m)] else E k) Wh g cap (fun k => if k = n then some ⟨q, 0, none⟩ else A k) (fun k => if k = n then c else C k) := by
  obtain ⟨h1, h2, h3, h4, h5, h6, h7⟩ := h
  have htl := h3.lt
  have hgl := (h4.lt g rfl).2
  have hsz := h0.size
  have hq : q ≠ t ∧ q ≠ g := by
    rcases hat with e | e
    · exact h6 n q hn e
    · exact ⟨by omega, by omega⟩
  have bk : ∀ i, i < w.heap.size → some i ≠ blk (A n) → w'.heap[i]? = w.heap[i]? := fun i hi hne => (hg.block i (by omega) hne).trans (h0.block i hi (by simp))
  have hgn : some g ≠ blk (A n) := fun e => (h6 n g hn e.symm).2 rfl
  have htn : some t ≠ blk (A n) := fun e => (h6 n t hn e.symm).1 rfl
  refine ⟨h1, h2, ?_, ?_, ?_, ?_, ?_⟩
  · exact (h3.of_block (bk t htl htn)).setOther (Ne.symm h2) _
  · have r : w'.ownsRow base 53 2 (.slice (some ⟨g, 0, none⟩) N cap) N (pairCells N (fun k => .slice (A k) (E k).length (C k)) (fun k => .bool (Wh k))) :=
      (h4.kept h0 (.inr (by simp [Value.ownBlock]))).kept hg (.inr hgn)
    have r2 := ownsRow_set r (n * 2) (.slice (some ⟨q, 0, none⟩) ((E n).length + 1) c)
    rw [pairCells_set_fst hn] at r2
    have e := pairCells_congr (N := N) (F := fun j => if j = n then .slice (some ⟨q, 0, none⟩) ((E n).length + 1) c else .slice (A j) (E j).length (C j)) (G := fun k => .bool (Wh k))
      (F' := fun k => .slice (if k = n then some ⟨q, 0, none⟩ else A k) (if k = n then E n ++ [(b, m)] else E k).length (if k = n then c else C k)) (G' := fun k => .bool (Wh k))
      (fun k hk => by
        by_cases e : k = n
        · subst e; simp
        · simp [e]) (fun k hk => rfl)
    rw [e] at r2
    exact r2
  · intro k hk
    by_cases e : k = n
    · subst e
      simp only [if_true, List.length_append, List.length_cons, List.length_nil, Nat.zero_add]
      have e2 : edgeCells (E k) ++ [.int .u8 (b.toNat : Int), .int .i32 (m : Int)] = edgeCells (E k ++ [(b, m)]) := by
        unfold edgeCells
        rw [List.length_append]
        show _ = pairCells ((E k).length + 1) _ _
        rw [pairCells_succ]
        have c := pairCells_congr (N := (E k).length) (F := fun i => .int .u8 (((E k).getD i (0, 0)).1.toNat : Int)) (G := fun i => .int .i32 (((E k).getD i (0, 0)).2 : Int))
          (F' := fun i => .int .u8 (((E k ++ [(b, m)]).getD i (0, 0)).1.toNat : Int)) (G' := fun i => .int .i32 (((E k ++ [(b, m)]).getD i (0, 0)).2 : Int))
          (fun i hi => by simp [List.getElem?_append_left hi]) (fun i hi => by simp [List.getElem?_append_left hi])
        rw [c]
        simp
      rw [e2] at hown
      exact ownsRow_other hown (by rw [own_blk]; simp [blk]; exact hq.2) _
    · simp only [if_neg e]
      have r := h5 k hk
      have r1 : w'.ownsRow base 55 2 (.slice (A k) (E k).length (C k)) (E k).length (edgeCells (E k)) := by
        refine (r.kept h0 ?_).kept hg ?_
        · rw [own_blk]; cases blk (A k) <;> simp
        · rw [own_blk]
          cases hb : blk (A k) with
          | none => exact .inl rfl
          | some b' => exact .inr (fun e2 => e (h7 k n b' hk hn hb e2.symm))
      refine ownsRow_other r1 ?_ _
      rw [own_blk]
      intro e2
      exact (h6 k g hk e2).2 rfl
  · intro k b' hk hb
    by_cases e : k = n
    · simp [e, blk] at hb
      subst hb
      exact hq
    · simp only [if_neg e] at hb
      exact h6 k b' hk hb
  · intro j k b' hj hk hbj hbk
    by_cases ej : j = n
    · by_cases ek : k = n
      · rw [ej, ek]
      · simp [ej, blk] at hbj
        subst hbj
        simp only [if_neg ek] at hbk
        have hlt := (blk_lt (h5 k hk) hbk).2
        rcases hat with e | e
        · exact absurd (h7 k n q hk hn hbk e) ek
        · omega
    · by_cases ek : k = n
      · simp [ek, blk] at hbk
        subst hbk
        simp only [if_neg ej] at hbj
        have hlt := (blk_lt (h5 j hj) hbj).2
        rcases hat with e | e
        · exact absurd (h7 j n q hj hn hbj e) ej
        · omega
      · simp only [if_neg ej] at hbj
        simp only [if_neg ek] at hbk
        exact h7 j k b' hj hk hbj hbk

/-- Node n is whole. -/
theorem TrieIs.whole (h : TrieIs w base t R N E Wh g cap A C) {n : Nat} (hn : n < N) : TrieIs (w.setCell ⟨g, n * 2 + 1, none⟩ (.bool true)) base t R N E (fun k => if k = n then true else Wh k) g cap A C := by
  obtain ⟨h1, h2, h3, h4, h5, h6, h7⟩ := h
  refine ⟨h1, h2, h3.setOther (Ne.symm h2) _, ?_, fun k hk => ownsRow_other (h5 k hk) (by rw [own_blk]; intro e; exact (h6 k g hk e).2 rfl) _, h6, h7⟩
  have r2 := ownsRow_set h4 (n * 2 + 1) (.bool true)
  rw [pairCells_set_snd hn] at r2
  have e := pairCells_congr (N := N) (F := fun k => .slice (A k) (E k).length (C k)) (G := fun j => if j = n then .bool true else .bool (Wh j))
    (F' := fun k => .slice (A k) (E k).length (C k)) (G' := fun k => .bool (if k = n then true else Wh k)) (fun k hk => rfl) (fun k hk => by by_cases e : k = n <;> simp [e])
  rw [e] at r2
  exact r2

theorem TrieIs.drew (h : TrieIs w base t R N E Wh g cap A C) : TrieIs w.drew base t R N E Wh g cap A C := h
theorem TrieIs.fields (h : TrieIs w base t R N E Wh g cap A C) : w.cell? ⟨t, 256, none⟩ = some (.slice (some ⟨g, 0, none⟩) N cap) ∧ w.frozen? ⟨t, 256, none⟩ = false ∧ (∀ b, b < 256 → w.cell? ⟨t, b, none⟩ = some (.int .i32 (R b : Int)) ∧ w.frozen? ⟨t, b, none⟩ = false) ∧
    (∀ k, k < N → w.cell? ⟨g, k * 2, none⟩ = some (.slice (A k) (E k).length (C k)) ∧ w.frozen? ⟨g, k * 2, none⟩ = false ∧ w.cell? ⟨g, k * 2 + 1, none⟩ = some (.bool (Wh k)) ∧ w.frozen? ⟨g, k * 2 + 1, none⟩ = false) ∧ t < w.heap.size ∧ g < w.heap.size ∧ base ≤ t ∧ base ≤ g := by
  obtain ⟨h1, h2, h3, h4, h5, h6, h7⟩ := h
  refine ⟨h3.cell (i := 256) (by omega), h3.frozen 256, fun b hb => ⟨?_, h3.frozen b⟩, fun k hk => ⟨ownsRow_cell h4 (pairCells_fst hk), ownsRow_frozen h4 _, ownsRow_cell h4 (pairCells_snd hk), ownsRow_frozen h4 _⟩, h3.lt, (h4.lt g rfl).2, h1, (h4.lt g rfl).1⟩
  have := h3.cell (i := b) (by omega)
  rw [if_pos hb] at this
  exact this
end
end Go.Proofs.Qxb6617963a
