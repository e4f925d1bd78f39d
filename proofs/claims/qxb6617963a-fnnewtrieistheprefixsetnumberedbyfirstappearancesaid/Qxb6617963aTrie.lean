import Derived.Test.Qxb6617963aTexts
import Derived.Maps.AppendAt
import Derived.Deep.OwnRows
import Derived.BigQuiet
namespace Go.Proofs.Qxb6617963a
open Go.RowKit
set_option linter.unusedVariables false

/-- The cells of N pairs. -/
def pairCells (N : Nat) (F G : Nat → Value) : List Value := (List.range (N * 2)).map (fun j => if j % 2 = 0 then F (j / 2) else G (j / 2))

theorem length_pairCells (N : Nat) (F G : Nat → Value) : (pairCells N F G).length = N * 2 := by simp [pairCells]
theorem pairCells_fst {N : Nat} {F G : Nat → Value} {k : Nat} (h : k < N) : (pairCells N F G)[k * 2]? = some (F k) := by
  unfold pairCells
  rw [List.getElem?_map, List.getElem?_range (by omega)]
  simp
theorem pairCells_snd {N : Nat} {F G : Nat → Value} {k : Nat} (h : k < N) : (pairCells N F G)[k * 2 + 1]? = some (G k) := by
  unfold pairCells
  rw [List.getElem?_map, List.getElem?_range (by omega)]
  have h1 : (k * 2 + 1) % 2 = 1 := by omega
  have h2 : (k * 2 + 1) / 2 = k := by omega
  simp [h1, h2]
theorem pairCells_congr {N : Nat} {F G F' G' : Nat → Value} (h1 : ∀ k, k < N → F k = F' k) (h2 : ∀ k, k < N → G k = G' k) : pairCells N F G = pairCells N F' G' := by
  unfold pairCells
  refine List.map_congr_left (fun j hj => ?_)
  have := List.mem_range.1 hj
  split
  · exact h1 _ (by omega)
  · exact h2 _ (by omega)
theorem pairCells_succ (N : Nat) (F G : Nat → Value) : pairCells (N + 1) F G = pairCells N F G ++ [F N, G N] := by
  unfold pairCells
  have e : (N + 1) * 2 = N * 2 + 1 + 1 := by omega
  rw [e, List.range_succ, List.range_succ]
  have h0 : N * 2 % 2 = 0 := by omega
  have h1 : (N * 2 + 1) % 2 = 1 := by omega
  have h2 : (N * 2 + 1) / 2 = N := by omega
  have h3 : N * 2 / 2 = N := by omega
  simp [h1, h2]
theorem pairCells_set_fst {N : Nat} {F G : Nat → Value} {k : Nat} (h : k < N) (v : Value) : (pairCells N F G).set (k * 2) v = pairCells N (fun j => if j = k then v else F j) G := by
  apply List.ext_getElem?
  intro j
  rw [List.getElem?_set, length_pairCells]
  unfold pairCells
  by_cases hj : j < N * 2
  · rw [List.getElem?_map, List.getElem?_map, List.getElem?_range hj]
    by_cases e : k * 2 = j
    · subst e
      have h3 : k * 2 / 2 = k := by omega
      simp [hj]
    · rw [if_neg e]
      simp only [Option.map_some]
      by_cases hm : j % 2 = 0
      · have : ¬ j / 2 = k := by omega
        simp [hm, this]
      · simp [hm]
  · have : ¬ k * 2 = j := by omega
    rw [if_neg this, List.getElem?_eq_none (by simp; omega), List.getElem?_eq_none (by simp; omega)]
theorem pairCells_set_snd {N : Nat} {F G : Nat → Value} {k : Nat} (h : k < N) (v : Value) : (pairCells N F G).set (k * 2 + 1) v = pairCells N F (fun j => if j = k then v else G j) := by
  apply List.ext_getElem?
  intro j
  rw [List.getElem?_set, length_pairCells]
  unfold pairCells
  by_cases hj : j < N * 2
  · rw [List.getElem?_map, List.getElem?_map, List.getElem?_range hj]
    by_cases e : k * 2 + 1 = j
    · subst e
      have h3 : (k * 2 + 1) / 2 = k := by omega
      have h4 : (k * 2 + 1) % 2 = 1 := by omega
      simp [hj, h3, h4]
    · rw [if_neg e]
      simp only [Option.map_some]
      by_cases hm : j % 2 = 0
      · simp [hm]
      · have : ¬ j / 2 = k := by omega
        simp [hm, this]
  · have : ¬ k * 2 + 1 = j := by omega
    rw [if_neg this, List.getElem?_eq_none (by simp; omega), List.getElem?_eq_none (by simp; omega)]

/-- One store into an own row. -/
theorem ownsRow_set {w : World} {base e size g n cap : Nat} {xs : List Value} (h : w.ownsRow base e size (.slice (some ⟨g, 0, none⟩) n cap) n xs) (j : Nat) (v : Value) :
    (w.setCell ⟨g, j, none⟩ v).ownsRow base e size (.slice (some ⟨g, 0, none⟩) n cap) n (xs.set j v) := by
  refine ⟨by rw [List.length_set]; exact h.1, ?_⟩
  rcases h.2 with ⟨hv, _⟩ | ⟨g', cap', cur, hv, hb, hg, h1, h2, h3, h4⟩
  · cases hv
  · cases hv
    refine .inr ⟨g, cap, cur.setIfInBounds j v, rfl, hb, ?_, h1, h2, by simpa using h3, ?_⟩
    · simp [World.setCell, Array.getElem?_modify, hg]
    · rw [Array.toList_setIfInBounds, List.take_set, h4]
theorem ownsRow_other {w : World} {base e size n : Nat} {v : Value} {xs : List Value} (h : w.ownsRow base e size v n xs) {a : Addr} (ha : v.ownBlock ≠ some a.block) (u : Value) : (w.setCell a u).ownsRow base e size v n xs := by
  refine ⟨h.1, ?_⟩
  rcases h.2 with hn | ⟨g, cap, cur, rfl, hb, hg, r⟩
  · exact .inl hn
  · refine .inr ⟨g, cap, cur, rfl, hb, ?_, r⟩
    rw [Below.heap_setCell _ _ _ _ (fun e => ha (by simp [Value.ownBlock, e]))]
    exact hg
theorem ownsRow_frozen {w : World} {base e size g n cap : Nat} {xs : List Value} (h : w.ownsRow base e size (.slice (some ⟨g, 0, none⟩) n cap) n xs) (j : Nat) : w.frozen? ⟨g, j, none⟩ = false := by
  rcases h.2 with ⟨hv, _⟩ | ⟨g', cap', cur, hv, hb, hg, r⟩
  · cases hv
  · cases hv
    simp [World.frozen?, hg]
theorem ownsRow_cell {w : World} {base e size g n cap : Nat} {xs : List Value} (h : w.ownsRow base e size (.slice (some ⟨g, 0, none⟩) n cap) n xs) {j : Nat} {v : Value} (hj : xs[j]? = some v) : w.cell? ⟨g, j, none⟩ = some v := by
  have := h.cells (g := g) rfl j v hj
  rw [WideShapes.add_plain, Nat.zero_add] at this
  exact this
theorem ownsRow_shape {w : World} {base e size n : Nat} {a : Option Addr} {m c : Nat} {xs : List Value} (h : w.ownsRow base e size (.slice a m c) n xs) (hp : 0 < n) : ∃ g, a = some ⟨g, 0, none⟩ ∧ m = n ∧ base ≤ g := by
  rcases h.2 with ⟨hv, hn⟩ | ⟨g, cap, cur, hv, hb, _⟩
  · omega
  · cases hv
    exact ⟨g, rfl, rfl, hb⟩
theorem ownsRow_below {w w' : World} {base e size n : Nat} {v : Value} {xs : List Value} (h : w.ownsRow base e size v n xs) (hb : Below w.heap.size w w') : w'.ownsRow base e size v n xs := by
  refine ⟨h.1, ?_⟩
  rcases h.2 with hn | ⟨g, cap, cur, rfl, hb', hg, r⟩
  · exact .inl hn
  · exact .inr ⟨g, cap, cur, rfl, hb', (hb.block g (Array.getElem?_eq_some_iff.1 hg).1).trans hg, r⟩

/-- The cells of a list of edges. -/
def edgeCells (l : List (UInt8 × Nat)) : List Value := pairCells l.length (fun i => .int .u8 ((l.getD i (0, 0)).1.toNat : Int)) (fun i => .int .i32 ((l.getD i (0, 0)).2 : Int))

/-- Block t of w is a trie: the root's entries R, N nodes, of edges E and marks Wh. All its memory lies from 'base' on; no two nodes share a row. -/
def TrieAt (w : World) (base t : Nat) (R : Nat → Nat) (N : Nat) (E : Nat → List (UInt8 × Nat)) (Wh : Nat → Bool) : Prop :=
  ∃ (g cap : Nat) (A : Nat → Option Addr) (C : Nat → Nat), base ≤ t ∧ g ≠ t ∧
    w.rowIs t 50 257 (fun i => if i < 256 then .int .i32 (R i : Int) else .slice (some ⟨g, 0, none⟩) N cap) ∧
    w.ownsRow base 53 2 (.slice (some ⟨g, 0, none⟩) N cap) N (pairCells N (fun k => .slice (A k) (E k).length (C k)) (fun k => .bool (Wh k))) ∧
    (∀ k, k < N → w.ownsRow base 55 2 (.slice (A k) (E k).length (C k)) (E k).length (edgeCells (E k))) ∧
    (∀ k b, k < N → (A k).map (·.block) = some b → b ≠ t ∧ b ≠ g) ∧
    (∀ j k b, j < N → k < N → (A j).map (·.block) = some b → (A k).map (·.block) = some b → j = k)

theorem TrieAt.below {w w' : World} {base t : Nat} {R : Nat → Nat} {N : Nat} {E : Nat → List (UInt8 × Nat)} {Wh : Nat → Bool} (h : TrieAt w base t R N E Wh) (hb : Below w.heap.size w w') : TrieAt w' base t R N E Wh := by
  obtain ⟨g, cap, A, C, h1, h2, h3, h4, h5, h6, h7⟩ := h
  exact ⟨g, cap, A, C, h1, h2, h3.of_block (hb.block t h3.lt), ownsRow_below h4 hb, fun k hk => ownsRow_below (h5 k hk) hb, h6, h7⟩
theorem TrieAt.congr {w : World} {base t : Nat} {R R' : Nat → Nat} {N : Nat} {E E' : Nat → List (UInt8 × Nat)} {Wh Wh' : Nat → Bool} (h : TrieAt w base t R N E Wh)
    (hR : ∀ i, i < 256 → R i = R' i) (hE : ∀ k, k < N → E k = E' k) (hW : ∀ k, k < N → Wh k = Wh' k) : TrieAt w base t R' N E' Wh' := by
  obtain ⟨g, cap, A, C, h1, h2, h3, h4, h5, h6, h7⟩ := h
  refine ⟨g, cap, A, C, h1, h2, h3.congr (fun i hi => ?_), ?_, fun k hk => ?_, h6, h7⟩
  · split
    · rename_i h; rw [hR i h]
    · rfl
  · have e := pairCells_congr (N := N) (F := fun k => .slice (A k) (E k).length (C k)) (G := fun k => .bool (Wh k)) (F' := fun k => .slice (A k) (E' k).length (C k)) (G' := fun k => .bool (Wh' k)) (fun k hk => by rw [hE k hk]) (fun k hk => by rw [hW k hk])
    rw [← e]
    exact h4
  · rw [← hE k hk]
    exact h5 k hk

/-- What a reader finds in a trie: the cells. -/
theorem TrieAt.cells {w : World} {base t : Nat} {R : Nat → Nat} {N : Nat} {E : Nat → List (UInt8 × Nat)} {Wh : Nat → Bool} (h : TrieAt w base t R N E Wh) :
    ∃ (g cap : Nat) (A : Nat → Option Addr) (C : Nat → Nat), w.cell? ⟨t, 256, none⟩ = some (.slice (some ⟨g, 0, none⟩) N cap) ∧ (∀ b, b < 256 → w.cell? ⟨t, b, none⟩ = some (.int .i32 (R b : Int))) ∧
      (∀ k, k < N → w.cell? ⟨g, k * 2, none⟩ = some (.slice (A k) (E k).length (C k)) ∧ w.cell? ⟨g, k * 2 + 1, none⟩ = some (.bool (Wh k))) ∧
      (∀ k, k < N → 0 < (E k).length → ∃ q, A k = some ⟨q, 0, none⟩ ∧ q < w.heap.size ∧ ∀ i, i < (E k).length → w.cell? ⟨q, i * 2, none⟩ = some (.int .u8 (((E k).getD i (0, 0)).1.toNat : Int)) ∧ w.cell? ⟨q, i * 2 + 1, none⟩ = some (.int .i32 (((E k).getD i (0, 0)).2 : Int))) := by
  obtain ⟨g, cap, A, C, h1, h2, h3, h4, h5, h6, h7⟩ := h
  refine ⟨g, cap, A, C, ?_, fun b hb => ?_, fun k hk => ⟨ownsRow_cell h4 (pairCells_fst hk), ownsRow_cell h4 (pairCells_snd hk)⟩, fun k hk hp => ?_⟩
  · exact h3.cell (i := 256) (by omega)
  · have := h3.cell (i := b) (by omega)
    rw [if_pos hb] at this
    exact this
  · obtain ⟨q, e, _, _⟩ := ownsRow_shape (h5 k hk) hp
    have h5k := h5 k hk
    rw [e] at h5k
    refine ⟨q, e, (h5k.lt q rfl).2, fun i hi => ⟨ownsRow_cell h5k (pairCells_fst hi), ownsRow_cell h5k (pairCells_snd hi)⟩⟩

theorem trieLen_any {w : World} {base t : Nat} {R : Nat → Nat} {N : Nat} {E : Nat → List (UInt8 × Nat)} {Wh : Nat → Bool} (h : TrieAt w base t R N E Wh) :
    Calls Try.prog 18 #[.pointer (some ⟨t, 0, none⟩)] w fun e w' => e = .returned (.int .i64 (N : Int)) ∧ w' = w := by
  obtain ⟨g, cap, A, C, c0, c1, c2, c3⟩ := h.cells
  go_enter Try.func18, Try.ntmps18
  go_wp2
  go_ret
  exact ⟨rfl, rfl⟩
theorem trieRoot_any {w : World} {base t : Nat} {R : Nat → Nat} {N : Nat} {E : Nat → List (UInt8 × Nat)} {Wh : Nat → Bool} (h : TrieAt w base t R N E Wh) (b : Nat) (hb : b < 256) :
    Calls Try.prog 20 #[.pointer (some ⟨t, 0, none⟩), .int .u8 (b : Int)] w fun e w' => e = .returned (.int .i32 (R b : Int)) ∧ w' = w := by
  obtain ⟨g, cap, A, C, c0, c1, c2, c3⟩ := h.cells
  have cb := c1 b hb
  have hb' : (b : Int) < 256 := by omega
  go_enter Try.func20, Try.ntmps20
  go_wp2
  go_ret
  exact ⟨rfl, rfl⟩
theorem trieWhole_any {w : World} {base t : Nat} {R : Nat → Nat} {N : Nat} {E : Nat → List (UInt8 × Nat)} {Wh : Nat → Bool} (h : TrieAt w base t R N E Wh) (n : Nat) (hn : n < N) :
    Calls Try.prog 21 #[.pointer (some ⟨t, 0, none⟩), .int .i64 (n : Int)] w fun e w' => e = .returned (.bool (Wh n)) ∧ w' = w := by
  obtain ⟨g, cap, A, C, c0, c1, c2, c3⟩ := h.cells
  obtain ⟨d0, d1⟩ := c2 n hn
  have hn' : (n : Int) < (N : Int) := by omega
  go_enter Try.func21, Try.ntmps21
  go_wp2
  go_ret
  exact ⟨rfl, rfl⟩
theorem trieCount_any {w : World} {base t : Nat} {R : Nat → Nat} {N : Nat} {E : Nat → List (UInt8 × Nat)} {Wh : Nat → Bool} (h : TrieAt w base t R N E Wh) (n : Nat) (hn : n < N) :
    Calls Try.prog 22 #[.pointer (some ⟨t, 0, none⟩), .int .i64 (n : Int)] w fun e w' => e = .returned (.int .i64 ((E n).length : Int)) ∧ w' = w := by
  obtain ⟨g, cap, A, C, c0, c1, c2, c3⟩ := h.cells
  obtain ⟨d0, d1⟩ := c2 n hn
  have hn' : (n : Int) < (N : Int) := by omega
  go_enter Try.func22, Try.ntmps22
  go_wp2
  go_ret
  exact ⟨rfl, rfl⟩
theorem trieEdge_any {w : World} {base t : Nat} {R : Nat → Nat} {N : Nat} {E : Nat → List (UInt8 × Nat)} {Wh : Nat → Bool} (h : TrieAt w base t R N E Wh) (n : Nat) (hn : n < N) (j : Nat) (hj : j < (E n).length) :
    Calls Try.prog 23 #[.pointer (some ⟨t, 0, none⟩), .int .i64 (n : Int), .int .i64 (j : Int)] w fun e w' => e = .returned (.tuple #[.int .u8 (((E n).getD j (0, 0)).1.toNat : Int), .int .i32 (((E n).getD j (0, 0)).2 : Int)]) ∧ ∃ q, w' = w.drewN q := by
  obtain ⟨g, cap, A, C, c0, c1, c2, c3⟩ := h.cells
  obtain ⟨d0, d1⟩ := c2 n hn
  obtain ⟨q, hA, hq, ce⟩ := c3 n hn (by omega)
  obtain ⟨e0, e1⟩ := ce j hj
  rw [hA] at d0
  have hn' : (n : Int) < (N : Int) := by omega
  have hj' : (j : Int) < ((E n).length : Int) := by omega
  clear c1 c2 c3 ce hA
  obtain ⟨ed, hed⟩ : ∃ ed, ed = (E n).getD j (0, 0) := ⟨_, rfl⟩
  rw [← hed] at e0 e1 ⊢
  clear hed
  go_enter Try.func23, Try.ntmps23
  go_wp2
  go_quiet (fail)
  go_wp2
  go_ret2
  exact ⟨rfl, _, rfl⟩
end Go.Proofs.Qxb6617963a
