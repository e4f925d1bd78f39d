import Derived.Test.Qxb6617963aOps
namespace Go.Proofs.Qxb6617963a
open Go.RowKit
set_option linter.unusedVariables false

/-- The trie of the prefixes P, the texts S whole in it. -/
def TrieP (w : World) (base t : Nat) (P S : List (List UInt8)) : Prop := TrieAt w base t (fun i => Plain.R P (UInt8.ofNat i)) (P.length + 1) (Plain.E P) (Plain.Wh P S)

theorem TrieP.below {w w' : World} {base t : Nat} {P S : List (List UInt8)} (h : TrieP w base t P S) (hb : Below w.heap.size w w') : TrieP w' base t P S := TrieAt.below h hb

theorem nxOf_P (P : List (List UInt8)) (n : Nat) (b : UInt8) : nxOf (fun i => Plain.R P (UInt8.ofNat i)) (Plain.E P) n b = Plain.nx P n b := by
  unfold nxOf Plain.nx
  have : UInt8.ofNat b.toNat = b := UInt8.ofNat_toNat
  simp only [this]

theorem ofNat_eq_iff (i : Nat) (hi : i < 256) (b : UInt8) : UInt8.ofNat i = b ↔ i = b.toNat := by
  constructor
  · rintro rfl
    exact (UInt8.toNat_ofNat_of_lt (by simpa using hi)).symm
  · rintro rfl
    exact UInt8.ofNat_toNat

section
variable {w : World} {base t g cap : Nat} {A : Nat → Option Addr} {C : Nat → Nat} {P S : List (List UInt8)}

/-- Behind a new node and a new entry of the root. -/
theorem new_root (g0 : Plain.Good P) (hh : Plain.Holds P S) {b : UInt8} (hx : Plain.num P [b] = 0)
    (h : TrieIs w base t (fun i => if i = b.toNat then P.length + 1 else Plain.R P (UInt8.ofNat i)) (P.length + 1 + 1) (fun k => if k = P.length + 1 then [] else Plain.E P k) (fun k => if k = P.length + 1 then false else Plain.Wh P S k) g cap A C) :
    TrieP w base t (P ++ [[b]]) S := by
  have h1 := h.toAt
  unfold TrieP
  rw [List.length_append, List.length_singleton]
  have hx' : Plain.num P ([] ++ [b]) = 0 := hx
  refine TrieAt.congr h1 (fun i hi => ?_) (fun k hk => ?_) (fun k hk => ?_)
  · have := Plain.R_new (P := P) (p := []) (b := b) hx' (UInt8.ofNat i)
    rw [List.nil_append] at this
    rw [this]
    simp only [true_and, ofNat_eq_iff i hi b]
  · by_cases e : k = P.length + 1
    · subst e
      have := Plain.E_new g0 hx'
      rw [List.nil_append] at this
      simp [this]
    · have hk' : k < P.length + 1 := by omega
      have := Plain.E_old g0 (p := []) (b := b) (.inl rfl) hk'
      rw [List.nil_append, Plain.num_nil g0] at this
      rw [this, if_neg e, if_neg (fun h => h.2 h.1)]
  · by_cases e : k = P.length + 1
    · subst e
      simp [Plain.Wh_new (x := [b]) (by simp) hx hh]
    · rw [if_neg e, Plain.Wh_old P S _ (by omega)]

/-- Behind a new node and a new edge. -/
theorem new_edge (g0 : Plain.Good P) (hh : Plain.Holds P S) {p : List UInt8} (hp : p ∈ P) {b : UInt8} (hx : Plain.num P (p ++ [b]) = 0)
    (h : TrieIs w base t (fun i => Plain.R P (UInt8.ofNat i)) (P.length + 1 + 1)
      (fun k => if k = Plain.num P p then (if Plain.num P p = P.length + 1 then [] else Plain.E P (Plain.num P p)) ++ [(b, P.length + 1)] else if k = P.length + 1 then [] else Plain.E P k) (fun k => if k = P.length + 1 then false else Plain.Wh P S k) g cap A C) :
    TrieP w base t (P ++ [p ++ [b]]) S := by
  have h1 := h.toAt
  unfold TrieP
  rw [List.length_append, List.length_singleton]
  have hne : p ≠ [] := g0.full p hp
  have hpos := (Plain.num_pos_iff P p).2 hp
  have hle := Plain.num_le P p
  refine TrieAt.congr h1 (fun i hi => ?_) (fun k hk => ?_) (fun k hk => ?_)
  · have := Plain.R_new (P := P) hx (UInt8.ofNat i)
    rw [this, if_neg (fun h => hne h.1)]
  · by_cases e : k = P.length + 1
    · subst e
      have hk2 : ¬ P.length + 1 = Plain.num P p := by omega
      rw [if_neg hk2, if_pos rfl, Plain.E_new g0 hx]
    · have hk' : k < P.length + 1 := by omega
      rw [Plain.E_old g0 (.inr hp) hk']
      by_cases e2 : k = Plain.num P p
      · have e3 : ¬ Plain.num P p = P.length + 1 := by omega
        rw [if_pos e2, if_neg e3, if_pos ⟨e2, by omega⟩, ← e2]
      · rw [if_neg e2, if_neg e, if_neg (fun h => e2 h.1)]
  · by_cases e : k = P.length + 1
    · subst e
      simp [Plain.Wh_new (x := p ++ [b]) (by simp) hx hh]
    · rw [if_neg e, Plain.Wh_old P S _ (by omega)]

/-- Behind a text's end. -/
theorem new_whole (g0 : Plain.Good P) {s : List UInt8} (hs : s = [] ∨ s ∈ P)
    (h : TrieIs w base t (fun i => Plain.R P (UInt8.ofNat i)) (P.length + 1) (Plain.E P) (fun k => if k = Plain.num P s then true else Plain.Wh P S k) g cap A C) : TrieP w base t P (S ++ [s]) :=
  TrieAt.congr h.toAt (fun _ _ => rfl) (fun _ _ => rfl) (fun k hk => (Plain.Wh_whole g0 hs hk).symm)
end

/-- The zero trie's cells. -/
def zc50 : Array Value := (Array.replicate 256 (.int .i32 0)).push (.slice none 0 0)
theorem size_zc50 : zc50.size = 257 := by simp [zc50]
theorem zero50 (w : World) : (zeroValue 50).run Try.prog w = .ok (.agg zc50) w := by kernel_rfl

theorem trie_start (w : World) : TrieP ((w.alloc (.cells #[.slice none 0 0, .bool false] 53)).alloc (.cells (zc50.setIfInBounds 256 (.slice (some ⟨w.heap.size, 0, none⟩) 1 1)) 50)) w.heap.size (w.heap.size + 1) [] [] := by
  refine ⟨w.heap.size, 1, fun _ => none, fun _ => 0, by omega, by omega, ?_, ?_, fun k hk => ?_, fun k b _ h => by simp at h, fun j k b _ _ h => by simp at h⟩
  · have := World.rowIs_alloc (w.alloc (.cells #[.slice none 0 0, .bool false] 53)) (zc50.setIfInBounds 256 (.slice (some ⟨w.heap.size, 0, none⟩) 1 1)) 50 (fun i => if i < 256 then .int .i32 ((Plain.R [] (UInt8.ofNat i) : Nat) : Int) else .slice (some ⟨w.heap.size, 0, none⟩) 1 1) (fun i hi => by
      have hi' : i < 257 := by simpa [size_zc50] using hi
      rw [Array.getElem?_setIfInBounds]
      by_cases e : 256 = i
      · subst e
        simp [size_zc50]
      · have h2 : i < 256 := by omega
        rw [if_neg e, if_pos h2]
        unfold zc50
        rw [Array.getElem?_push_lt (by simpa using h2)]
        simp [Plain.R, Plain.num])
    rw [World.size_alloc, Array.size_setIfInBounds, size_zc50] at this
    exact this
  · refine ⟨rfl, .inr ⟨w.heap.size, 1, #[.slice none 0 0, .bool false], rfl, Nat.le_refl _, ?_, Nat.le_refl _, by unfold maxLen; omega, rfl, rfl⟩⟩
    rw [Below.heap_alloc _ _ _ (by simp)]
    exact (MapKept.heap_alloc w _).1
  · have e : k = 0 := by simp at hk; omega
    subst e
    exact World.ownsRow_nil _ _ _ _
end Go.Proofs.Qxb6617963a
