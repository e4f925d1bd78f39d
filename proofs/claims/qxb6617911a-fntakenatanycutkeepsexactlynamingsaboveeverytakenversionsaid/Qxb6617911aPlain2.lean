/-
  The plain laws of matchesModel's third loop.
-/
import Derived.Test.Qxb6617911aPlain
namespace Go.Proofs.Qxb6617911a.Plain

/-- What the set 'seen' says behind k rounds. -/
def Seen (s : Int → Bool) (l : List Int) : Prop := ∀ x, s x = l.contains x
theorem seen_start : Seen (fun _ => false) (firsts []) := fun x => by simp [firsts]
theorem firsts_seen {ns : List (Int × Int)} {p : Int × Int} (h : (firsts ns).contains p.1 = true) : firsts (ns ++ [p]) = firsts ns := by
  rw [firsts_snoc, addF, if_pos h]
theorem firsts_new {ns : List (Int × Int)} {p : Int × Int} (h : (firsts ns).contains p.1 = false) : firsts (ns ++ [p]) = firsts ns ++ [p.1] := by
  rw [firsts_snoc, addF, if_neg (by rw [h]; simp)]
theorem seen_new {s : Int → Bool} {l : List Int} (h : Seen s l) (k : Int) : Seen (fun x => if x = k then true else s x) (l ++ [k]) := by
  intro x
  have hx : ∀ {l' : List Int} {b : Bool}, (b = true ↔ x ∈ l') → b = l'.contains x := by
    intro l' b hb
    rw [Bool.eq_iff_iff, hb, List.contains_iff_mem]
  refine hx ?_
  have e := h x
  rw [Bool.eq_iff_iff, List.contains_iff_mem] at e
  by_cases hk : x = k
  · simp [hk]
  · simp [hk, e]
theorem keep_snoc (ns ts : List (Int × Int)) (l : List Int) (k : Int) : keep ns ts (l ++ [k]) = keep ns ts l + (if surv ts k ((get (named ns) k).getD 0) then 1 else 0) := by
  unfold keep
  rw [List.filter_append, List.length_append]
  congr 1
  by_cases h : surv ts k ((get (named ns) k).getD 0) = true <;> simp [h]
theorem length_firsts_le (ns : List (Int × Int)) : (firsts ns).length ≤ ns.length := by
  unfold firsts
  suffices ∀ l : List Int, (ns.foldl (fun l p => addF l p.1) l).length ≤ l.length + ns.length by simpa using this []
  induction ns with
  | nil => intro l; simp
  | cons p r ih =>
    intro l
    have := ih (addF l p.1)
    have h2 : (addF l p.1).length ≤ l.length + 1 := by unfold addF; split <;> simp
    simp only [List.foldl_cons, List.length_cons]
    omega
theorem keep_le (ns ts us : List (Int × Int)) : keep ns ts (firsts us) ≤ us.length :=
  Nat.le_trans (List.length_filter_le _ _) (length_firsts_le us)
theorem keep_start (ns ts : List (Int × Int)) : keep ns ts (firsts []) = 0 := by simp [keep, firsts]

/-- The handle of a naming is there. -/
theorem named_at (ns : List (Int × Int)) (k : Nat) (h : k < ns.length) : ∃ v, get (named ns) ns[k].1 = some v := by
  have : ns[k].1 ∈ firsts ns := by
    have hm : ∀ (us : List (Int × Int)) (l : List Int) (x : Int), (x ∈ l ∨ ∃ p ∈ us, p.1 = x) → x ∈ us.foldl (fun l p => addF l p.1) l := by
      intro us
      induction us with
      | nil =>
        intro l x hx
        rcases hx with h | ⟨p, hp, _⟩
        · exact h
        · simp at hp
      | cons q r ih =>
        intro l x hx
        refine ih (addF l q.1) x ?_
        rcases hx with h | ⟨p, hp, e⟩
        · exact .inl ((mem_addF _ _ _).2 (.inl h))
        · rcases List.mem_cons.1 hp with rfl | hp
          · exact .inl ((mem_addF _ _ _).2 (.inr e.symm))
          · exact .inr ⟨p, hp, e⟩
    exact hm ns [] _ (.inr ⟨ns[k], List.getElem_mem h, rfl⟩)
  have := (firsts_ok ns).2 ns[k].1 |>.1 this
  exact Option.isSome_iff_exists.1 this

theorem got_yes {m ns ts : List (Int × Int)} (h : Model m ns ts) {k v : Int} (hv : get (named ns) k = some v) (hs : surv ts k v = true) : get m k = some v := by
  rw [h.2 k, hv]
  simp [Option.filter, hs]
theorem got_no {m ns ts : List (Int × Int)} (h : Model m ns ts) {k v : Int} (hv : get (named ns) k = some v) (hs : surv ts k v = false) : get m k = none := by
  rw [h.2 k, hv]
  simp [Option.filter, hs]

/-- The tops as a map's list. -/
theorem tops_put {hs : Int → Bool} {mt ts : List (Int × Int)} (h : Tops hs (fun x => (get mt x).getD 0) ts) (p : Int × Int) (ht : (!hs p.1 || decide ((get mt p.1).getD 0 < p.2)) = true) :
    Tops (fun k => if k = p.1 then true else hs k) (fun x => (get (put mt p.1 p.2) x).getD 0) (ts ++ [p]) := by
  have := tops_new h p ht
  have e : (fun k => if k = p.1 then p.2 else (get mt k).getD 0) = fun x => (get (put mt p.1 p.2) x).getD 0 := by
    funext x
    by_cases hx : x = p.1
    · subst hx
      rw [get_put_same]
      simp
    · rw [get_put_other _ _ _ _ hx, if_neg hx]
  rw [e] at this
  exact this
end Go.Proofs.Qxb6617911a.Plain
