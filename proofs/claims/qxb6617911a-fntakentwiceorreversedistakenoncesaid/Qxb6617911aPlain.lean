/-
  The plain laws of seat b6617911a: maps as lists of pairs, no Go in sight.
-/
namespace Go.Proofs.Qxb6617911a.Plain

/-- What a map, told as a list of pairs, holds at k. -/
def get : List (Int × Int) → Int → Option Int
  | [], _ => none
  | p :: r, k => if p.1 = k then some p.2 else get r k
def del (m : List (Int × Int)) (k : Int) : List (Int × Int) := m.filter (fun p => !decide (p.1 = k))
def put (m : List (Int × Int)) (k v : Int) : List (Int × Int) := (k, v) :: del m k
def named (ps : List (Int × Int)) : List (Int × Int) := ps.foldl (fun m p => put m p.1 p.2) []
def step (m : List (Int × Int)) (p : Int × Int) : List (Int × Int) := if (get m p.1).getD 0 ≤ p.2 then del m p.1 else m
def taken (m ts : List (Int × Int)) : List (Int × Int) := ts.foldl step m
/-- v is above every version taken for k. -/
def surv (ts : List (Int × Int)) (k v : Int) : Bool := ts.all (fun p => !decide (p.1 = k) || decide (p.2 < v))
def keys (m : List (Int × Int)) : List Int := m.map (·.1)
def Sole (m : List (Int × Int)) : Prop := (keys m).Nodup

theorem get_del_same (m : List (Int × Int)) (k : Int) : get (del m k) k = none := by
  induction m with
  | nil => rfl
  | cons p r ih =>
    unfold del at ih ⊢
    by_cases h : p.1 = k
    · simp [h, ih]
    · simp [h, get, ih]
theorem get_del_other (m : List (Int × Int)) (k k' : Int) (h : k' ≠ k) : get (del m k) k' = get m k' := by
  induction m with
  | nil => rfl
  | cons p r ih =>
    unfold del at ih ⊢
    by_cases hp : p.1 = k
    · have : ¬ k = k' := fun e => h e.symm
      simp [hp, ih, get, this]
    · simp [hp, get, ih]
theorem get_put_same (m : List (Int × Int)) (k v : Int) : get (put m k v) k = some v := by simp [put, get]
theorem get_put_other (m : List (Int × Int)) (k v k' : Int) (h : k' ≠ k) : get (put m k v) k' = get m k' := by
  have h' : k ≠ k' := Ne.symm h
  simp [put, get, h', get_del_other m k k' h]

theorem get_some_mem (m : List (Int × Int)) (k v : Int) (h : get m k = some v) : (k, v) ∈ m := by
  induction m with
  | nil => simp [get] at h
  | cons p r ih =>
    unfold get at h
    split at h
    · rename_i e
      simp at h
      subst h; subst e
      simp
    · exact List.mem_cons_of_mem _ (ih h)
theorem mem_keys_iff (m : List (Int × Int)) (k : Int) : k ∈ keys m ↔ (get m k).isSome := by
  induction m with
  | nil => simp [keys, get]
  | cons p r ih =>
    unfold keys at ih ⊢
    unfold get
    by_cases h : p.1 = k
    · simp [h]
    · have h' : k ≠ p.1 := Ne.symm h
      rw [if_neg h, List.map_cons, List.mem_cons, ih]
      simp [h']
theorem keys_del (m : List (Int × Int)) (k : Int) : keys (del m k) = (keys m).filter (fun x => !decide (x = k)) := by
  unfold keys del
  rw [List.filter_map]
  rfl
theorem nodup_filter {l : List Int} (f : Int → Bool) (h : l.Nodup) : (l.filter f).Nodup := by
  unfold List.Nodup at *
  exact List.Pairwise.filter f h
theorem sole_del {m : List (Int × Int)} (h : Sole m) (k : Int) : Sole (del m k) := by
  unfold Sole at h ⊢
  rw [keys_del]
  exact nodup_filter _ h
theorem sole_put {m : List (Int × Int)} (h : Sole m) (k v : Int) : Sole (put m k v) := by
  have := sole_del h k
  unfold Sole put keys at *
  rw [List.map_cons, List.nodup_cons]
  refine ⟨fun hm => ?_, this⟩
  have := (mem_keys_iff (del m k) k).1 hm
  rw [get_del_same] at this
  simp at this
theorem length_del (m : List (Int × Int)) (h : Sole m) (k : Int) : (del m k).length + (if (get m k).isSome then 1 else 0) = m.length := by
  induction m with
  | nil => simp [del, get]
  | cons p r ih =>
    unfold Sole keys at h
    rw [List.map_cons, List.nodup_cons] at h
    have ih := ih h.2
    unfold get
    by_cases hp : p.1 = k
    · subst hp
      have hn : (get r p.1).isSome = false := by
        have := mem_keys_iff r p.1
        cases hg : (get r p.1).isSome
        · rfl
        · exact absurd (this.2 hg) h.1
      rw [hn] at ih
      simp [del] at ih ⊢
      exact ih
    · unfold del at ih ⊢
      simp [hp] at ih ⊢
      omega
theorem length_put (m : List (Int × Int)) (h : Sole m) (k v : Int) : (put m k v).length = if (get m k).isSome then m.length else m.length + 1 := by
  have := length_del m h k
  unfold put
  rw [List.length_cons]
  split at this <;> simp_all

theorem named_snoc (ps : List (Int × Int)) (p : Int × Int) : named (ps ++ [p]) = put (named ps) p.1 p.2 := by simp [named, List.foldl_append]
theorem taken_snoc (m ts : List (Int × Int)) (p : Int × Int) : taken m (ts ++ [p]) = step (taken m ts) p := by simp [taken, List.foldl_append]
theorem taken_append (m ts us : List (Int × Int)) : taken m (ts ++ us) = taken (taken m ts) us := by simp [taken, List.foldl_append]
theorem sole_named (ps : List (Int × Int)) : Sole (named ps) := by
  unfold named
  suffices ∀ m, Sole m → Sole (ps.foldl (fun m p => put m p.1 p.2) m) from this [] (by simp [Sole, keys])
  induction ps with
  | nil => exact fun m h => h
  | cons p r ih => exact fun m h => ih _ (sole_put h _ _)
theorem sole_step {m : List (Int × Int)} (h : Sole m) (p : Int × Int) : Sole (step m p) := by
  unfold step
  split
  · exact sole_del h _
  · exact h
theorem sole_taken {m : List (Int × Int)} (h : Sole m) (ts : List (Int × Int)) : Sole (taken m ts) := by
  unfold taken
  induction ts generalizing m with
  | nil => exact h
  | cons p r ih => exact ih (sole_step h p)

theorem length_named_le (ps : List (Int × Int)) : (named ps).length ≤ ps.length := by
  suffices ∀ m : List (Int × Int), (ps.foldl (fun m p => put m p.1 p.2) m).length ≤ m.length + ps.length by
    have := this []
    simpa [named] using this
  induction ps with
  | nil => intro m; simp
  | cons p r ih =>
    intro m
    have := ih (put m p.1 p.2)
    have h2 : (put m p.1 p.2).length ≤ m.length + 1 := by
      unfold put del
      have := List.length_filter_le (fun q : Int × Int => !decide (q.1 = p.1)) m
      simp at this ⊢
      omega
    simp only [List.foldl_cons, List.length_cons]
    omega

theorem surv_append (ts us : List (Int × Int)) (k v : Int) : surv (ts ++ us) k v = (surv ts k v && surv us k v) := by simp [surv, List.all_append]
theorem surv_one (p : Int × Int) (k v : Int) : surv [p] k v = (!decide (p.1 = k) || decide (p.2 < v)) := by simp [surv]
theorem surv_reverse (ts : List (Int × Int)) (k v : Int) : surv ts.reverse k v = surv ts k v := by simp [surv, List.all_reverse]

theorem get_step (m : List (Int × Int)) (p : Int × Int) (k : Int) (hv : 0 ≤ p.2) : get (step m p) k = (get m k).filter (fun v => surv [p] k v) := by
  unfold step
  by_cases hk : k = p.1
  · subst hk
    cases hg : get m p.1 with
    | none =>
      simp [hv, get_del_same]
    | some v =>
      by_cases hle : v ≤ p.2
      · simp [hle, get_del_same, surv_one, Option.filter]
      · simp [hle, hg, surv_one, Option.filter]
        try omega
  · have hk' : p.1 ≠ k := fun e => hk e.symm
    have e : get (if (get m p.1).getD 0 ≤ p.2 then del m p.1 else m) k = get m k := by
      split
      · exact get_del_other m p.1 k hk
      · rfl
    rw [e]
    cases get m k <;> simp [surv_one, hk', Option.filter]
theorem get_taken (m ts : List (Int × Int)) (k : Int) (hv : ∀ p ∈ ts, 0 ≤ p.2) : get (taken m ts) k = (get m k).filter (fun v => surv ts k v) := by
  induction ts generalizing m with
  | nil =>
    show get m k = (get m k).filter (fun _ => true)
    cases get m k <;> rfl
  | cons p r ih =>
    have h1 : taken m (p :: r) = taken (step m p) r := rfl
    rw [h1, ih (step m p) (fun q hq => hv q (by simp [hq])), get_step m p k (hv p (by simp))]
    have h2 : ∀ v, surv (p :: r) k v = (surv [p] k v && surv r k v) := fun v => surv_append [p] r k v
    cases get m k with
    | none => rfl
    | some v =>
      simp only [Option.filter, h2 v]
      by_cases hs : surv [p] k v = true <;> simp [hs]

/-- What 'matchesModel' is asked: m holds just the namings above every taken version. -/
def Model (m ns ts : List (Int × Int)) : Prop := Sole m ∧ ∀ k, get m k = (get (named ns) k).filter (fun v => surv ts k v)
theorem model_whole (ns ts : List (Int × Int)) (hv : ∀ p ∈ ts, 0 ≤ p.2) : Model (taken (named ns) ts) ns ts := ⟨sole_taken (sole_named ns) ts, fun k => get_taken _ _ k hv⟩
theorem model_cut (ns ts : List (Int × Int)) (c : Nat) (hv : ∀ p ∈ ts, 0 ≤ p.2) : Model (taken (taken (named ns) (ts.take c)) (ts.drop c)) ns ts := by
  rw [← taken_append, List.take_append_drop]
  exact model_whole ns ts hv
theorem model_twice (ns ts : List (Int × Int)) (hv : ∀ p ∈ ts, 0 ≤ p.2) : Model (taken (taken (named ns) ts) ts) ns ts := by
  refine ⟨sole_taken (sole_taken (sole_named ns) ts) ts, fun k => ?_⟩
  rw [← taken_append, get_taken _ _ k (fun p hp => hv p (by simpa using hp))]
  have : (fun v => surv (ts ++ ts) k v) = fun v => surv ts k v := by funext v; rw [surv_append, Bool.and_self]
  rw [this]
theorem model_rev (ns ts : List (Int × Int)) (hv : ∀ p ∈ ts, 0 ≤ p.2) : Model (taken (named ns) ts.reverse) ns ts := by
  refine ⟨sole_taken (sole_named ns) _, fun k => ?_⟩
  rw [get_taken _ _ k (fun p hp => hv p (by simpa using hp))]
  have : (fun v => surv ts.reverse k v) = fun v => surv ts k v := by funext v; rw [surv_reverse]
  rw [this]

/-! ### the second loop: the greatest version taken for each handle. 'hs': is it there; 'tp': the greatest -/
def Tops (hs : Int → Bool) (tp : Int → Int) (ts : List (Int × Int)) : Prop := ∀ k v, (!hs k || decide (tp k < v)) = surv ts k v
theorem tops_start : Tops (fun _ => false) (fun _ => 0) [] := fun k v => by simp [surv]
theorem tops_new {hs : Int → Bool} {tp : Int → Int} {ts : List (Int × Int)} (h : Tops hs tp ts) (p : Int × Int) (ht : (!hs p.1 || decide (tp p.1 < p.2)) = true) :
    Tops (fun k => if k = p.1 then true else hs k) (fun k => if k = p.1 then p.2 else tp k) (ts ++ [p]) := by
  intro k v
  rw [surv_append, surv_one, ← h k v]
  by_cases hk : k = p.1
  · subst hk
    rw [h p.1 p.2] at ht
    have := h p.1 v
    simp only [if_pos, decide_true, Bool.not_true, Bool.false_or]
    by_cases hlt : p.2 < v
    · have : surv ts p.1 v = true := by
        unfold surv at ht ⊢
        rw [List.all_eq_true] at ht ⊢
        intro q hq
        have := ht q hq
        simp at this ⊢
        omega
      rw [h p.1 v, this]
      simp [hlt]
    · simp [hlt]
  · have hk' : p.1 ≠ k := fun e => hk e.symm
    simp [hk, hk']
theorem tops_old {hs : Int → Bool} {tp : Int → Int} {ts : List (Int × Int)} (h : Tops hs tp ts) (p : Int × Int) (ht : (!hs p.1 || decide (tp p.1 < p.2)) = false) : Tops hs tp (ts ++ [p]) := by
  intro k v
  rw [surv_append, surv_one, h k v]
  by_cases hk : k = p.1
  · subst hk
    rw [← h p.1 v]
    simp at ht ⊢
    rcases ht with ⟨h1, h2⟩
    simp [h1]
    omega
  · have hk' : p.1 ≠ k := fun e => hk e.symm
    simp [hk']

/-! ### the third loop: the handles at their first places -/
def addF (l : List Int) (k : Int) : List Int := if l.contains k then l else l ++ [k]
def firsts (ns : List (Int × Int)) : List Int := ns.foldl (fun l p => addF l p.1) []
theorem firsts_snoc (ns : List (Int × Int)) (p : Int × Int) : firsts (ns ++ [p]) = addF (firsts ns) p.1 := by simp [firsts, List.foldl_append]
theorem mem_addF (l : List Int) (k x : Int) : x ∈ addF l k ↔ x ∈ l ∨ x = k := by
  unfold addF
  split
  · rename_i h
    have : k ∈ l := by simpa using h
    constructor
    · exact .inl
    · rintro (h' | rfl)
      · exact h'
      · exact this
  · simp
theorem nodup_addF {l : List Int} (h : l.Nodup) (k : Int) : (addF l k).Nodup := by
  unfold addF
  split
  · exact h
  · rename_i hn
    have hn' : ¬ k ∈ l := by simpa using hn
    rw [List.nodup_append]
    refine ⟨h, by simp, fun a ha b hb => ?_⟩
    simp at hb
    subst hb
    exact fun e => hn' (e ▸ ha)
theorem firsts_fold (ns : List (Int × Int)) : ∀ (l : List Int) (m : List (Int × Int)), l.Nodup → (∀ k, k ∈ l ↔ (get m k).isSome) →
    (ns.foldl (fun l p => addF l p.1) l).Nodup ∧ ∀ k, k ∈ ns.foldl (fun l p => addF l p.1) l ↔ (get (ns.foldl (fun m p => put m p.1 p.2) m) k).isSome := by
  induction ns with
  | nil => exact fun l m h1 h2 => ⟨h1, h2⟩
  | cons p r ih =>
    intro l m h1 h2
    refine ih (addF l p.1) (put m p.1 p.2) (nodup_addF h1 _) (fun k => ?_)
    rw [mem_addF]
    by_cases hk : k = p.1
    · subst hk
      simp [get_put_same]
    · rw [get_put_other _ _ _ _ hk, ← h2 k]
      simp [hk]
theorem firsts_ok (ns : List (Int × Int)) : (firsts ns).Nodup ∧ ∀ k, k ∈ firsts ns ↔ (get (named ns) k).isSome :=
  firsts_fold ns [] [] List.nodup_nil (by simp [get])

/-- How many of them stay. -/
def keep (ns ts : List (Int × Int)) (l : List Int) : Nat := (l.filter (fun k => surv ts k ((get (named ns) k).getD 0))).length

theorem length_le_of_sub {l l' : List Int} (h : l.Nodup) (hs : ∀ k, k ∈ l → k ∈ l') : l.length ≤ l'.length := by
  induction l generalizing l' with
  | nil => simp
  | cons a r ih =>
    rw [List.nodup_cons] at h
    have ha : a ∈ l' := hs a (by simp)
    have := ih (l' := l'.erase a) h.2 (fun k hk => by
      have hne : k ≠ a := fun e => h.1 (e ▸ hk)
      exact (List.mem_erase_of_ne hne).2 (hs k (by simp [hk])))
    rw [List.length_erase_of_mem ha] at this
    have := List.length_pos_of_mem ha
    simp
    omega

theorem keep_all {m ns ts : List (Int × Int)} (h : Model m ns ts) : keep ns ts (firsts ns) = m.length := by
  have h1 : (keys m).length = m.length := by simp [keys]
  rw [← h1]
  unfold keep
  obtain ⟨hn, hm⟩ := firsts_ok ns
  have same : ∀ k, k ∈ (firsts ns).filter (fun k => surv ts k ((get (named ns) k).getD 0)) ↔ k ∈ keys m := by
    intro k
    rw [mem_keys_iff, h.2 k, List.mem_filter, hm k]
    cases hg : get (named ns) k with
    | none => simp [Option.filter]
    | some v =>
      simp only [Option.filter, Option.getD_some, Option.isSome_some, true_and]
      by_cases hs : surv ts k v = true <;> simp [hs]
  refine Nat.le_antisymm (length_le_of_sub (nodup_filter _ hn) (fun k hk => (same k).1 hk)) (length_le_of_sub h.1 (fun k hk => (same k).2 hk))

end Go.Proofs.Qxb6617911a.Plain
