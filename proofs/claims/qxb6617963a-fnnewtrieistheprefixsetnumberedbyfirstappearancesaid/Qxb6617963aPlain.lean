/-
  The plain laws of seat b6617963a: the trie of a list of texts, told by the list of their prefixes. No Go in sight.
-/
namespace Go.Proofs.Qxb6617963a.Plain

/-- The number of x in P, from 1 on; 0 where it is not there. -/
def num : List (List UInt8) → List UInt8 → Nat
  | [], _ => 0
  | p :: r, x => if p = x then 1 else if num r x = 0 then 0 else num r x + 1

theorem num_le (P : List (List UInt8)) (x : List UInt8) : num P x ≤ P.length := by
  induction P with
  | nil => simp [num]
  | cons p r ih =>
    unfold num
    rw [List.length_cons]
    split
    · omega
    · split <;> omega
theorem num_zero_iff (P : List (List UInt8)) (x : List UInt8) : num P x = 0 ↔ ¬ x ∈ P := by
  induction P with
  | nil => simp [num]
  | cons p r ih =>
    unfold num
    by_cases h : p = x
    · simp [h]
    · have h' : ¬ x = p := fun e => h e.symm
      rw [if_neg h, List.mem_cons]
      by_cases hn : num r x = 0
      · simp [hn, h', ih.1 hn]
      · have : x ∈ r := Classical.byContradiction fun hc => hn (ih.2 hc)
        simp [hn, this]
theorem num_pos_iff (P : List (List UInt8)) (x : List UInt8) : 0 < num P x ↔ x ∈ P := by
  have := num_zero_iff P x
  constructor
  · intro h
    exact Classical.byContradiction fun hc => by have := this.2 hc; omega
  · intro h
    have : num P x ≠ 0 := fun e => this.1 e h
    omega
theorem num_get (P : List (List UInt8)) (x : List UInt8) (k : Nat) (h : num P x = k + 1) : P[k]? = some x := by
  induction P generalizing k with
  | nil => simp [num] at h
  | cons p r ih =>
    unfold num at h
    split at h
    · rename_i e
      have : k = 0 := by omega
      subst this
      simp [e]
    · split at h
      · omega
      · have hk : k = (k - 1) + 1 := by omega
        rw [hk, List.getElem?_cons_succ]
        exact ih (k - 1) (by omega)
theorem num_snoc (P : List (List UInt8)) (y x : List UInt8) : num (P ++ [y]) x = if num P x = 0 then (if y = x then P.length + 1 else 0) else num P x := by
  induction P with
  | nil => simp [num]
  | cons p r ih =>
    rw [List.cons_append]
    unfold num
    rw [ih, List.length_cons]
    by_cases hp : p = x
    · simp [hp]
    · simp only [if_neg hp]
      by_cases hn : num r x = 0
      · simp only [hn, if_true]
        by_cases hy : y = x <;> simp [hy]
      · simp [hn]
theorem num_of_get (P : List (List UInt8)) (hn : P.Nodup) (k : Nat) (x : List UInt8) (h : P[k]? = some x) : num P x = k + 1 := by
  induction P generalizing k with
  | nil => simp at h
  | cons p r ih =>
    rw [List.nodup_cons] at hn
    unfold num
    match k, h with
    | 0, h =>
      simp at h
      simp [h]
    | k + 1, h =>
      rw [List.getElem?_cons_succ] at h
      have hm : x ∈ r := List.mem_of_getElem? h
      have hp : ¬ p = x := fun e => hn.1 (e ▸ hm)
      have := ih hn.2 k h
      rw [if_neg hp, this]
      simp

/-- The byte by which q is longer than p. -/
def ext (p q : List UInt8) : Option UInt8 := if q.length = p.length + 1 ∧ q.take p.length = p then q[p.length]? else none

theorem ext_some (p q : List UInt8) (c : UInt8) : ext p q = some c ↔ q = p ++ [c] := by
  unfold ext
  constructor
  · intro h
    split at h
    · rename_i hc
      obtain ⟨h1, h2⟩ := hc
      have hd : q.drop p.length = [c] := by
        rw [List.drop_eq_getElem_cons (by omega)]
        have e1 : q[p.length]'(by omega) = c := by
          have := List.getElem?_eq_getElem (l := q) (i := p.length) (by omega)
          rw [this] at h
          exact Option.some.inj h
        rw [e1, List.drop_eq_nil_of_le (by omega)]
      calc q = q.take p.length ++ q.drop p.length := (List.take_append_drop _ _).symm
        _ = p ++ [c] := by rw [h2, hd]
    · cases h
  · rintro rfl
    simp
theorem ext_none (p q : List UInt8) : ext p q = none ↔ ∀ c, q ≠ p ++ [c] := by
  constructor
  · intro h c e
    have := (ext_some p q c).2 e
    rw [h] at this
    cases this
  · intro h
    cases e : ext p q with
    | none => rfl
    | some c => exact absurd ((ext_some p q c).1 e) (h c)

/-- The edges of p's node: one to each text of P that is one byte longer, by its number. -/
def edgesFrom (k : Nat) : List (List UInt8) → List UInt8 → List (UInt8 × Nat)
  | [], _ => []
  | q :: r, p => match ext p q with
    | some c => (c, k) :: edgesFrom (k + 1) r p
    | none => edgesFrom (k + 1) r p
def edges (P : List (List UInt8)) (p : List UInt8) : List (UInt8 × Nat) := edgesFrom 1 P p

theorem edgesFrom_append (k : Nat) (P Q : List (List UInt8)) (p : List UInt8) : edgesFrom k (P ++ Q) p = edgesFrom k P p ++ edgesFrom (k + P.length) Q p := by
  induction P generalizing k with
  | nil => simp [edgesFrom]
  | cons q r ih =>
    have e : k + 1 + r.length = k + (r.length + 1) := by omega
    have key : ∀ l : List (List UInt8), edgesFrom k (q :: l) p = (match ext p q with | some c => (c, k) :: edgesFrom (k + 1) l p | none => edgesFrom (k + 1) l p) := fun _ => rfl
    rw [List.cons_append, key, key, List.length_cons, ih (k + 1), e]
    cases ext p q <;> rfl
theorem edges_snoc (P : List (List UInt8)) (q p : List UInt8) : edges (P ++ [q]) p = edges P p ++ (match ext p q with | some c => [(c, P.length + 1)] | none => []) := by
  unfold edges
  rw [edgesFrom_append]
  congr 1
  rw [Nat.add_comm]
  cases h : ext p q <;> simp [edgesFrom, h]
theorem edges_prefix (P : List (List UInt8)) (j : Nat) (p : List UInt8) : ∃ r, edges P p = edges (P.take j) p ++ r := by
  refine ⟨edgesFrom (1 + (P.take j).length) (P.drop j) p, ?_⟩
  have := edgesFrom_append 1 (P.take j) (P.drop j) p
  rw [List.take_append_drop] at this
  exact this
theorem edgesFrom_num_le (k : Nat) (P : List (List UInt8)) (p : List UInt8) : ∀ e ∈ edgesFrom k P p, k ≤ e.2 ∧ e.2 < k + P.length := by
  induction P generalizing k with
  | nil => simp [edgesFrom]
  | cons q r ih =>
    intro e he
    unfold edgesFrom at he
    rw [List.length_cons]
    have key : e ∈ edgesFrom (k + 1) r p → k ≤ e.2 ∧ e.2 < k + (r.length + 1) := fun h => by
      have := ih (k + 1) e h
      omega
    cases hx : ext p q with
    | none =>
      rw [hx] at he
      exact key he
    | some c =>
      rw [hx] at he
      rcases List.mem_cons.1 he with rfl | h
      · exact ⟨Nat.le_refl _, by simp⟩
      · exact key h
theorem edges_le (P : List (List UInt8)) (p : List UInt8) : (edges P p).length ≤ P.length := by
  unfold edges
  suffices ∀ k, (edgesFrom k P p).length ≤ P.length from this 1
  induction P with
  | nil => simp [edgesFrom]
  | cons q r ih =>
    intro k
    unfold edgesFrom
    have := ih (k + 1)
    cases ext p q <;> simp <;> omega

/-- The first edge of label b: its node; 0 where there is none. -/
def findE : List (UInt8 × Nat) → UInt8 → Nat
  | [], _ => 0
  | e :: r, b => if e.1 = b then e.2 else findE r b

theorem findE_snoc (l : List (UInt8 × Nat)) (e : UInt8 × Nat) (b : UInt8) (hl : ∀ x ∈ l, 1 ≤ x.2) : findE (l ++ [e]) b = if findE l b = 0 then (if e.1 = b then e.2 else 0) else findE l b := by
  induction l with
  | nil => simp [findE]
  | cons x r ih =>
    rw [List.cons_append]
    unfold findE
    have hx := hl x (by simp)
    by_cases h : x.1 = b
    · rw [if_pos h, if_pos h, if_neg (by omega)]
    · rw [if_neg h, if_neg h]
      exact ih (fun y hy => hl y (by simp [hy]))
theorem findE_edges (P : List (List UInt8)) (p : List UInt8) (b : UInt8) : findE (edges P p) b = num P (p ++ [b]) := by
  suffices ∀ Q : List (List UInt8), findE (edges Q.reverse p) b = num Q.reverse (p ++ [b]) by
    have := this P.reverse
    rwa [List.reverse_reverse] at this
  intro Q
  induction Q with
  | nil => rfl
  | cons q r ih =>
    rw [List.reverse_cons, edges_snoc, num_snoc]
    have hpos : ∀ x ∈ edges r.reverse p, 1 ≤ x.2 := fun x hx => (edgesFrom_num_le 1 _ p x hx).1
    cases h : ext p q with
    | none =>
      simp only [List.append_nil]
      rw [ih, if_neg (fun e => (ext_none p q).1 h b e)]
      split
      · assumption
      · rfl
    | some c =>
      have hq := (ext_some p q c).1 h
      simp only
      rw [findE_snoc _ _ _ hpos, ih]
      have : (q = p ++ [b]) ↔ c = b := by
        rw [hq]
        simp
      by_cases hc : c = b
      · simp [hc, this.2 hc]
      · have hq' : ¬ q = p ++ [b] := fun e => hc (this.1 e)
        simp [hc, hq']

/-! ### the prefixes, in the order of their first appearance -/
def addP (P : List (List UInt8)) (x : List UInt8) : List (List UInt8) := if num P x = 0 then P ++ [x] else P
/-- The prefixes of s of 1 to i bytes are added. -/
def upTo (P : List (List UInt8)) (s : List UInt8) : Nat → List (List UInt8)
  | 0 => P
  | i + 1 => addP (upTo P s i) (s.take (i + 1))
def prefs (ts : List (List UInt8)) : List (List UInt8) := ts.foldl (fun P s => upTo P s s.length) []
theorem prefs_snoc (ts : List (List UInt8)) (s : List UInt8) : prefs (ts ++ [s]) = upTo (prefs ts) s s.length := by simp [prefs, List.foldl_append]

/-- No text twice; none empty; with each text all that it begins with. -/
structure Good (P : List (List UInt8)) : Prop where
  nodup : P.Nodup
  full : ∀ q ∈ P, q ≠ []
  closed : ∀ p c, p ++ [c] ∈ P → p ≠ [] → p ∈ P

theorem good_nil : Good [] := ⟨List.nodup_nil, by simp, by simp⟩
theorem mem_addP (P : List (List UInt8)) (x y : List UInt8) : y ∈ addP P x ↔ y ∈ P ∨ y = x := by
  unfold addP
  split
  · simp
  · rename_i h
    have hx : x ∈ P := (num_pos_iff P x).1 (by omega)
    constructor
    · exact .inl
    · rintro (h | rfl)
      · exact h
      · exact hx
theorem good_addP {P : List (List UInt8)} (h : Good P) (x : List UInt8) (hx : x ≠ []) (hp : ∀ p c, x = p ++ [c] → p ≠ [] → p ∈ P) : Good (addP P x) := by
  refine ⟨?_, ?_, ?_⟩
  · unfold addP
    split
    · rename_i hn
      rw [List.nodup_append]
      refine ⟨h.nodup, by simp, fun a ha b hb => ?_⟩
      simp at hb
      subst hb
      exact fun e => (num_zero_iff P b).1 hn (e ▸ ha)
    · exact h.nodup
  · intro q hq
    rcases (mem_addP P x q).1 hq with hq | rfl
    · exact h.full q hq
    · exact hx
  · intro p c hpc hne
    rcases (mem_addP P x _).1 hpc with hq | e
    · exact (mem_addP P x p).2 (.inl (h.closed p c hq hne))
    · exact (mem_addP P x p).2 (.inl (hp p c e.symm hne))

theorem take_snoc (s : List UInt8) (i : Nat) (h : i < s.length) : s.take (i + 1) = s.take i ++ [s[i]] := by rw [List.take_succ_eq_append_getElem h]
theorem take_split {s : List UInt8} {i : Nat} (h : i < s.length) {p : List UInt8} {c : UInt8} (e : s.take (i + 1) = p ++ [c]) : p = s.take i ∧ c = s[i] := by
  rw [take_snoc s i h] at e
  have := List.append_inj' e rfl
  exact ⟨this.1.symm, by simpa using this.2.symm⟩

/-- What holds behind i bytes of s. -/
theorem good_upTo {P : List (List UInt8)} (h : Good P) (s : List UInt8) (i : Nat) (hi : i ≤ s.length) : Good (upTo P s i) ∧ (∀ j, j ≤ i → 0 < j → s.take j ∈ upTo P s i) ∧ (∀ x ∈ P, x ∈ upTo P s i) := by
  induction i with
  | zero => exact ⟨h, fun j h1 h2 => by omega, fun x hx => hx⟩
  | succ i ih =>
    obtain ⟨g, m, k⟩ := ih (by omega)
    have hi' : i < s.length := by omega
    refine ⟨?_, ?_, fun x hx => (mem_addP _ _ _).2 (.inl (k x hx))⟩
    · refine good_addP g _ ?_ ?_
      · rw [take_snoc s i hi']
        exact fun e => absurd (List.append_eq_nil_iff.1 e).2 (by simp)
      · intro p c e hne
        obtain ⟨rfl, _⟩ := take_split hi' e
        refine m i (Nat.le_refl _) ?_
        cases i with
        | zero => simp at hne
        | succ i => omega
    · intro j h1 h2
      by_cases e : j = i + 1
      · subst e
        exact (mem_addP _ _ _).2 (.inr rfl)
      · exact (mem_addP _ _ _).2 (.inl (m j (by omega) h2))

/-- Every text but the empty one is there. -/
def Holds (P S : List (List UInt8)) : Prop := ∀ s ∈ S, s ≠ [] → s ∈ P
theorem upTo_mem {P : List (List UInt8)} {s : List UInt8} {i : Nat} (hi : i ≤ s.length) {x : List UInt8} (h : x ∈ upTo P s i) : x ∈ P ∨ ∃ j, 0 < j ∧ j ≤ i ∧ x = s.take j := by
  induction i with
  | zero => exact .inl h
  | succ i ih =>
    rcases (mem_addP _ _ _).1 h with h | e
    · rcases ih (by omega) h with h | ⟨j, h1, h2, e⟩
      · exact .inl h
      · exact .inr ⟨j, h1, by omega, e⟩
    · exact .inr ⟨i + 1, by omega, Nat.le_refl _, e⟩

theorem prefs_ok (ts : List (List UInt8)) : Good (prefs ts) ∧ Holds (prefs ts) ts ∧ (∀ x, x ∈ prefs ts ↔ x ≠ [] ∧ ∃ s ∈ ts, x <+: s) := by
  suffices ∀ us : List (List UInt8), Good (prefs us.reverse) ∧ Holds (prefs us.reverse) us.reverse ∧ (∀ x, x ∈ prefs us.reverse ↔ x ≠ [] ∧ ∃ s ∈ us.reverse, x <+: s) by
    have := this ts.reverse
    rwa [List.reverse_reverse] at this
  intro us
  induction us with
  | nil => exact ⟨good_nil, by simp [Holds], by simp [prefs]⟩
  | cons s r ih =>
    rw [List.reverse_cons, prefs_snoc]
    obtain ⟨g, h, m⟩ := ih
    obtain ⟨g', m', k'⟩ := good_upTo g s s.length (Nat.le_refl _)
    refine ⟨g', ?_, ?_⟩
    · intro x hx hne
      rw [List.mem_append] at hx
      rcases hx with hx | hx
      · exact k' x (h x hx hne)
      · simp at hx
        subst hx
        have := m' x.length (Nat.le_refl _) (by cases x with | nil => exact absurd rfl hne | cons a l => simp)
        rwa [List.take_length] at this
    · intro x
      constructor
      · intro hx
        rcases upTo_mem (Nat.le_refl _) hx with hx | ⟨j, h1, h2, rfl⟩
        · obtain ⟨hne, s', hs', hp⟩ := (m x).1 hx
          exact ⟨hne, s', by simp only [List.mem_append]; exact .inl hs', hp⟩
        · refine ⟨g'.full _ hx, s, by simp, List.take_prefix _ _⟩
      · rintro ⟨hne, s', hs', hp⟩
        rw [List.mem_append] at hs'
        rcases hs' with hs' | hs'
        · exact k' x ((m x).2 ⟨hne, s', hs', hp⟩)
        · simp at hs'
          subst hs'
          have e := List.prefix_iff_eq_take.1 hp
          rw [e]
          exact m' x.length hp.length_le (by cases x with | nil => exact absurd rfl hne | cons a l => simp)

/-- The lengths' sum bounds the number of prefixes. -/
def total (ts : List (List UInt8)) : Nat := (ts.map List.length).sum
theorem total_snoc (ts : List (List UInt8)) (s : List UInt8) : total (ts ++ [s]) = total ts + s.length := by simp [total]
theorem length_upTo (P : List (List UInt8)) (s : List UInt8) (i : Nat) : (upTo P s i).length ≤ P.length + i := by
  induction i with
  | zero => simp [upTo]
  | succ i ih =>
    unfold upTo addP
    split
    · rw [List.length_append]
      simp
      omega
    · omega
theorem length_prefs (ts : List (List UInt8)) : (prefs ts).length ≤ total ts := by
  suffices ∀ us : List (List UInt8), (prefs us.reverse).length ≤ total us.reverse by
    have := this ts.reverse
    rwa [List.reverse_reverse] at this
  intro us
  induction us with
  | nil => simp [prefs, total]
  | cons s r ih =>
    rw [List.reverse_cons, prefs_snoc, total_snoc]
    have := length_upTo (prefs r.reverse) s s.length
    omega
end Go.Proofs.Qxb6617963a.Plain
