/-
  The trie that newTrie builds, told by the prefixes P and the texts S that are already whole in it.
-/
import Derived.Test.Qxb6617963aPlain
namespace Go.Proofs.Qxb6617963a.Plain

/-- The text of node k. -/
def nm (P : List (List UInt8)) (k : Nat) : List UInt8 := if k = 0 then [] else P.getD (k - 1) []
/-- Node k's edges. -/
def E (P : List (List UInt8)) (k : Nat) : List (UInt8 × Nat) := if k = 0 then [] else edges P (nm P k)
/-- Is node k whole? -/
def Wh (P S : List (List UInt8)) (k : Nat) : Bool := decide (0 < num S (nm P k))
/-- The root's entry. -/
def R (P : List (List UInt8)) (b : UInt8) : Nat := num P [b]
/-- What next answers. -/
def nx (P : List (List UInt8)) (n : Nat) (b : UInt8) : Nat := if n = 0 then R P b else findE (E P n) b

theorem nm_zero (P : List (List UInt8)) : nm P 0 = [] := rfl
theorem nm_succ (P : List (List UInt8)) (k : Nat) (h : k < P.length) : nm P (k + 1) = P[k] := by simp [nm, h]
theorem num_nil {P : List (List UInt8)} (g : Good P) : num P [] = 0 := (num_zero_iff P []).2 (fun h => g.full [] h rfl)
theorem nm_num {P : List (List UInt8)} (g : Good P) {p : List UInt8} (hp : p = [] ∨ p ∈ P) : nm P (num P p) = p := by
  rcases hp with rfl | h
  · rw [num_nil g, nm_zero]
  · have := (num_pos_iff P p).2 h
    have e : num P p = (num P p - 1) + 1 := by omega
    have hg := num_get P p _ e
    unfold nm
    rw [if_neg (by omega), List.getD_eq_getElem?_getD, hg]
    rfl
theorem num_nm {P : List (List UInt8)} (g : Good P) {k : Nat} (hk : k < P.length + 1) : num P (nm P k) = k := by
  cases k with
  | zero => exact num_nil g
  | succ k =>
    rw [nm_succ P k (by omega)]
    exact num_of_get P g.nodup k _ (List.getElem?_eq_getElem (by omega))
theorem nm_mem (P : List (List UInt8)) {k : Nat} (hk : k < P.length + 1) : nm P k = [] ∨ nm P k ∈ P := by
  cases k with
  | zero => exact .inl rfl
  | succ k =>
    rw [nm_succ P k (by omega)]
    exact .inr (List.getElem_mem _)
theorem nm_eq_iff {P : List (List UInt8)} (g : Good P) {p : List UInt8} (hp : p = [] ∨ p ∈ P) {k : Nat} (hk : k < P.length + 1) : nm P k = p ↔ k = num P p := by
  constructor
  · rintro rfl
    exact (num_nm g hk).symm
  · rintro rfl
    exact nm_num g hp

theorem nx_num {P : List (List UInt8)} (g : Good P) {p : List UInt8} (hp : p = [] ∨ p ∈ P) (b : UInt8) : nx P (num P p) b = num P (p ++ [b]) := by
  unfold nx
  by_cases h : num P p = 0
  · have : p = [] := by
      rcases hp with e | hm
      · exact e
      · exact absurd hm ((num_zero_iff P p).1 h)
    subst this
    rw [if_pos h]
    rfl
  · rw [if_neg h]
    unfold E
    rw [if_neg h, nm_num g hp]
    exact findE_edges P p b

/-! ### a new text -/
theorem R_new {P : List (List UInt8)} {p : List UInt8} {b : UInt8} (hx : num P (p ++ [b]) = 0) (c : UInt8) : R (P ++ [p ++ [b]]) c = if p = [] ∧ c = b then P.length + 1 else R P c := by
  unfold R
  rw [num_snoc]
  by_cases h : p = [] ∧ c = b
  · obtain ⟨rfl, rfl⟩ := h
    rw [List.nil_append] at hx ⊢
    simp [hx]
  · rw [if_neg h]
    have : ¬ p ++ [b] = [c] := by
      intro e
      have hl := congrArg List.length e
      simp at hl
      subst hl
      simp at e
      exact h ⟨rfl, e.symm⟩
    rw [if_neg this]
    split
    · rename_i h0; exact h0.symm
    · rfl
theorem nm_old (P : List (List UInt8)) (x : List UInt8) {k : Nat} (hk : k < P.length + 1) : nm (P ++ [x]) k = nm P k := by
  cases k with
  | zero => rfl
  | succ k =>
    rw [nm_succ P k (by omega), nm_succ (P ++ [x]) k (by simp; omega)]
    exact List.getElem_append_left (by omega)
theorem nm_new (P : List (List UInt8)) (x : List UInt8) : nm (P ++ [x]) (P.length + 1) = x := by
  rw [nm_succ (P ++ [x]) P.length (by simp)]
  simp
theorem E_old {P : List (List UInt8)} (g : Good P) {p : List UInt8} (hp : p = [] ∨ p ∈ P) {b : UInt8} {k : Nat} (hk : k < P.length + 1) :
    E (P ++ [p ++ [b]]) k = if k = num P p ∧ k ≠ 0 then E P k ++ [(b, P.length + 1)] else E P k := by
  unfold E
  by_cases h0 : k = 0
  · simp [h0]
  · rw [if_neg h0, if_neg h0, nm_old P _ hk, edges_snoc]
    by_cases hn : k = num P p
    · have := (nm_eq_iff g hp hk).2 hn
      rw [if_pos ⟨hn, h0⟩, this, (ext_some p (p ++ [b]) b).2 rfl]
    · rw [if_neg (fun h => hn h.1)]
      have : ext (nm P k) (p ++ [b]) = none := by
        rw [ext_none]
        intro c e
        have := List.append_inj' e rfl
        exact hn ((nm_eq_iff g hp hk).1 this.1.symm)
      rw [this]
      simp
theorem edges_none {P : List (List UInt8)} {p : List UInt8} (h : ∀ c, ¬ p ++ [c] ∈ P) : edges P p = [] := by
  unfold edges
  suffices ∀ k, (∀ c, ¬ p ++ [c] ∈ P) → edgesFrom k P p = [] from this 1 h
  clear h
  induction P with
  | nil => intro k _; rfl
  | cons q r ih =>
    intro k h
    have hq : ext p q = none := (ext_none p q).2 (fun c e => h c (by rw [← e]; simp))
    unfold edgesFrom
    rw [hq]
    exact ih (k + 1) (fun c hc => h c (by simp [hc]))
theorem E_new {P : List (List UInt8)} (g : Good P) {p : List UInt8} {b : UInt8} (hx : num P (p ++ [b]) = 0) : E (P ++ [p ++ [b]]) (P.length + 1) = [] := by
  unfold E
  rw [if_neg (by omega), nm_new]
  refine edges_none ?_
  intro c hc
  rw [List.mem_append] at hc
  rcases hc with hc | hc
  · exact (num_zero_iff P _).1 hx (g.closed _ c hc (by simp))
  · simp at hc
theorem Wh_old (P S : List (List UInt8)) (x : List UInt8) {k : Nat} (hk : k < P.length + 1) : Wh (P ++ [x]) S k = Wh P S k := by
  unfold Wh
  rw [nm_old P x hk]
theorem Wh_new {P S : List (List UInt8)} {x : List UInt8} (hne : x ≠ []) (hx : num P x = 0) (hh : Holds P S) : Wh (P ++ [x]) S (P.length + 1) = false := by
  unfold Wh
  rw [nm_new]
  have : ¬ x ∈ S := fun h => (num_zero_iff P x).1 hx (hh x h hne)
  simp [(num_zero_iff S x).2 this]

/-! ### a whole text -/
theorem num_snoc_pos (S : List (List UInt8)) (s x : List UInt8) : 0 < num (S ++ [s]) x ↔ 0 < num S x ∨ x = s := by
  rw [num_pos_iff, num_pos_iff]
  simp
theorem Wh_whole {P S : List (List UInt8)} (g : Good P) {s : List UInt8} (hs : s = [] ∨ s ∈ P) {k : Nat} (hk : k < P.length + 1) : Wh P (S ++ [s]) k = if k = num P s then true else Wh P S k := by
  unfold Wh
  have h1 := num_snoc_pos S s (nm P k)
  have h2 := nm_eq_iff g hs hk
  by_cases e : k = num P s
  · rw [if_pos e]
    exact decide_eq_true (h1.2 (.inr (h2.2 e)))
  · have : ¬ nm P k = s := fun h => e (h2.1 h)
    rw [if_neg e, Bool.eq_iff_iff]
    simp [h1, this]
theorem E_le (P : List (List UInt8)) (k : Nat) : (E P k).length ≤ P.length := by
  unfold E
  split
  · simp
  · exact edges_le P _
theorem E_num (P : List (List UInt8)) (k : Nat) : ∀ e ∈ E P k, 1 ≤ e.2 ∧ e.2 ≤ P.length := by
  unfold E
  split
  · simp
  · intro e he
    have := edgesFrom_num_le 1 P _ e he
    omega
end Go.Proofs.Qxb6617963a.Plain
