import Derived.Test.Qxb6617911aRows
import Derived.Test.Qxb6617911aPlain
import Derived.WalkKit
import Derived.WalkSpells
import Derived.RegionTactic
import Derived.BigRegion
import Derived.Maps.OwnSet
import Derived.Maps.RangeWalk
namespace Go.Proofs.Qxb6617911a
open Go.RowKit Go.Maps

theorem law33 : Keyed Try.prog 33 := int_keyed Try.underlying33
theorem zero33 (w : World) : (zeroValue 33).run Try.prog w = .ok (.int .u64 0) w := by kernel_rfl
theorem zero4 (w : World) : (zeroValue 4).run Try.prog w = .ok (.bool false) w := by kernel_rfl

/-- A word of 64 bits. -/
def Word (x : Int) : Prop := (Lit.int .u64 x).wf = true

/-- The datum D and the list m say the same. -/
def Tied (D : DataW Unit) (m : List (Int × Int)) : Prop :=
  Maps.size D = m.length ∧ ∀ k : Int, Maps.has D (.int .u64 k) = (Plain.get m k).isSome ∧ D.atKey (.int .u64 k) (.lit (.int .u64 0)) = .lit (.int .u64 ((Plain.get m k).getD 0))

/-- Block b is a map of uint64 to uint64 that holds m. -/
def OwnsM (w : World) (b n : Nat) (m : List (Int × Int)) : Prop := Plain.Sole m ∧ ∃ D : DataW Unit, w.ownsMap Try.prog 33 (plainElem Try.prog 33) b n D ∧ Tied D m

theorem isKey (k : Int) : WideAt.IsKeyLit (.int .u64 k) := by simp [WideAt.IsKeyLit]
theorem litNe {k k' : Int} (h : k' ≠ k) : (Lit.int .u64 k') ≠ (Lit.int .u64 k) := fun e => h (by cases e; rfl)

theorem tied_put {D : DataW Unit} {m : List (Int × Int)} (h : Tied D m) (ht : Maps.Tidy D) (hs : Plain.Sole m) (k v : Int) : Tied (D.put (.int .u64 k) (.lit (.int .u64 v))) (Plain.put m k v) := by
  refine ⟨?_, fun k' => ?_⟩
  · rw [Maps.size_put ht, Plain.length_put m hs, (h.2 k).1, h.1]
  · by_cases e : k' = k
    · subst e
      rw [Maps.has_put_same ht.isMap (isKey _), Maps.atKey_put_same ht.isMap (isKey _), Plain.get_put_same]
      exact ⟨rfl, rfl⟩
    · rw [Maps.has_put_other (litNe e), Maps.atKey_put_other (litNe e), Plain.get_put_other _ _ _ _ e]
      exact h.2 k'
theorem tied_del {D : DataW Unit} {m : List (Int × Int)} (h : Tied D m) (ht : Maps.Tidy D) (hs : Plain.Sole m) (k : Int) : Tied (D.del (.int .u64 k)) (Plain.del m k) := by
  refine ⟨?_, fun k' => ?_⟩
  · have h1 := Maps.size_del (k := .int .u64 k) ht
    have h2 := Plain.length_del m hs k
    rw [(h.2 k).1, h.1] at h1
    omega
  · by_cases e : k' = k
    · subst e
      rw [Maps.has_del_same, Maps.atKey_del_same, Plain.get_del_same]
      exact ⟨rfl, rfl⟩
    · rw [Maps.has_del_other (litNe e), Maps.atKey_del_other (litNe e), Plain.get_del_other _ _ _ e]
      exact h.2 k'

theorem OwnsM.made (w : World) : OwnsM (w.alloc (.map #[] 0)) w.heap.size 0 [] :=
  ⟨by simp [Plain.Sole, Plain.keys], _, World.ownsMap_made _ _ _ _, rfl, fun _ => ⟨rfl, rfl⟩⟩
theorem OwnsM.kept {w w' : World} {b n : Nat} {m : List (Int × Int)} {row : Option Nat} (h : OwnsM w b n m) (hg : w.grownBy w' row) (hne : some b ≠ row) : OwnsM w' b n m := by
  obtain ⟨hs, D, h1, h2⟩ := h
  exact ⟨hs, D, h1.kept hg hne, h2⟩
theorem OwnsM.alloc {w : World} {b n : Nat} {m : List (Int × Int)} (h : OwnsM w b n m) (o : Obj) : OwnsM (w.alloc o) b n m := h.kept (World.grownBy_alloc w o none) (by simp)
theorem OwnsM.drew {w : World} {b n : Nat} {m : List (Int × Int)} (h : OwnsM w b n m) : OwnsM w.drew b n m := h
theorem OwnsM.lt {w : World} {b n : Nat} {m : List (Int × Int)} (h : OwnsM w b n m) : b < w.heap.size := by
  obtain ⟨_, D, h1, _⟩ := h
  exact h1.lt
theorem OwnsM.mono {w : World} {b n n' : Nat} {m : List (Int × Int)} (h : OwnsM w b n m) (hn : n ≤ n') : OwnsM w b n' m := by
  obtain ⟨hs, D, h1, h2⟩ := h
  exact ⟨hs, D, h1.mono hn, h2⟩
theorem OwnsM.setCell {w : World} {b n : Nat} {m : List (Int × Int)} (h : OwnsM w b n m) {a : Addr} (ha : b ≠ a.block) (u : Value) : OwnsM (w.setCell a u) b n m := by
  obtain ⟨hs, D, h1, h2⟩ := h
  exact ⟨hs, D, h1.setCell ha u, h2⟩

theorem OwnsM.look {w : World} {b n : Nat} {m : List (Int × Int)} (h : OwnsM w b n m) {t : TypeId} (ht : Try.prog.underlying t = some (.map 33 33)) {k : Int} (hk : Word k) :
    (Instr.lookup t (.map (some b)) (.int .u64 k) false).run Try.prog w = .ok (.int .u64 ((Plain.get m k).getD 0)) w := by
  obtain ⟨hs, D, h1, h2⟩ := h
  obtain ⟨c, hrun, hat, _⟩ := h1.lookup_int law33 ht Try.underlying33 (zero33 w) (keyOf_int_mk Try.underlying33 hk)
  rw [(h2.2 k).2] at hat
  cases hat
  exact hrun
theorem OwnsM.look_ok {w : World} {b n : Nat} {m : List (Int × Int)} (h : OwnsM w b n m) {t : TypeId} (ht : Try.prog.underlying t = some (.map 33 33)) {k : Int} (hk : Word k) :
    (Instr.lookup t (.map (some b)) (.int .u64 k) true).run Try.prog w = .ok (.tuple #[.int .u64 ((Plain.get m k).getD 0), .bool (Plain.get m k).isSome]) w := by
  obtain ⟨hs, D, h1, h2⟩ := h
  obtain ⟨v, ps, hrun, hv⟩ := h1.look_ok law33 ht (zero33 w) (plainElem_int Try.underlying33 (by decide)) (keyOf_int_mk Try.underlying33 hk)
  obtain ⟨c, rfl, hc, _⟩ := plainElem_int_inv Try.underlying33 hv
  have hat := congrArg Prod.fst hc
  simp only at hat
  rw [(h2.2 k).2] at hat
  rw [(h2.2 k).1] at hrun
  cases hat
  exact hrun
theorem OwnsM.len {w : World} {b n : Nat} {m : List (Int × Int)} (h : OwnsM w b n m) {t : TypeId} (ht : Try.prog.underlying t = some (.map 33 33)) (ty : TypeId) :
    (Builtin.len_ #[t] ty #[.map (some b)]).run Try.prog w = .ok (.int .i64 m.length) w := by
  obtain ⟨hs, D, h1, h2⟩ := h
  have := h1.len ht ty
  rw [h2.1] at this
  exact this
theorem OwnsM.store {w : World} {b n : Nat} {m : List (Int × Int)} (h : OwnsM w b n m) {t : TypeId} (ht : Try.prog.underlying t = some (.map 33 33)) (hn : n < maxLen) {k v : Int} (hk : Word k) (hv : Word v) :
    ∃ w', (Instr.mapUpdate t (.map (some b)) (.int .u64 k) (.int .u64 v)).run Try.prog w = .ok () w' ∧ OwnsM w' b (n + 1) (Plain.put m k v) ∧ w.grownBy w' (some b) := by
  obtain ⟨hs, D, h1, h2⟩ := h
  have htidy := h1.tidy law33
  obtain ⟨w', hrun, ho, hg⟩ := h1.update law33 ht hn (keyOf_int_mk Try.underlying33 hk) (plainElem_int (H := Unit) Try.underlying33 hv)
  exact ⟨w', hrun, ⟨Plain.sole_put hs _ _, _, ho, tied_put h2 htidy hs k v⟩, hg⟩
theorem OwnsM.drop {w : World} {b n : Nat} {m : List (Int × Int)} (h : OwnsM w b n m) {t : TypeId} (ht : Try.prog.underlying t = some (.map 33 33)) {k : Int} (hk : Word k) (ty : TypeId) :
    ∃ w', (Builtin.delete_ #[t, 33] ty #[.map (some b), .int .u64 k]).run Try.prog w = .ok (.tuple #[]) w' ∧ OwnsM w' b n (Plain.del m k) ∧ w.grownBy w' (some b) := by
  obtain ⟨hs, D, h1, h2⟩ := h
  have htidy := h1.tidy law33
  obtain ⟨w', hrun, ho, hg⟩ := h1.drop law33 ht (keyOf_int_mk Try.underlying33 hk) ty
  exact ⟨w', hrun, ⟨Plain.sole_del hs _, _, ho, tied_del h2 htidy hs k⟩, hg.grown⟩

/-- Block b is a map of uint64 to bool that reads as s. -/
def OwnsB (w : World) (b n : Nat) (s : Int → Bool) : Prop := ∃ D : DataW Unit, w.ownsMap Try.prog 33 (plainElem Try.prog 4) b n D ∧ ∀ k : Int, D.atKey (.int .u64 k) (.lit (.bool false)) = .lit (.bool (s k))

theorem OwnsB.made (w : World) : OwnsB (w.alloc (.map #[] 0)) w.heap.size 0 (fun _ => false) := ⟨_, World.ownsMap_made _ _ _ _, fun _ => rfl⟩
theorem OwnsB.kept {w w' : World} {b n : Nat} {s : Int → Bool} {row : Option Nat} (h : OwnsB w b n s) (hg : w.grownBy w' row) (hne : some b ≠ row) : OwnsB w' b n s := by
  obtain ⟨D, h1, h2⟩ := h
  exact ⟨D, h1.kept hg hne, h2⟩
theorem OwnsB.alloc {w : World} {b n : Nat} {s : Int → Bool} (h : OwnsB w b n s) (o : Obj) : OwnsB (w.alloc o) b n s := h.kept (World.grownBy_alloc w o none) (by simp)
theorem OwnsB.lt {w : World} {b n : Nat} {s : Int → Bool} (h : OwnsB w b n s) : b < w.heap.size := by
  obtain ⟨D, h1, _⟩ := h
  exact h1.lt
theorem plainElem_bool_inv {v : Value} {z : DataW Unit × List MemPlace} (h : plainElem Try.prog 4 v = some z) : ∃ c, v = .bool c ∧ z = (.lit (.bool c), []) := by
  unfold plainElem at h
  rw [Try.underlying4] at h
  cases v <;> simp at h
  exact ⟨_, rfl, h.symm⟩
theorem OwnsB.look {w : World} {b n : Nat} {s : Int → Bool} (h : OwnsB w b n s) {k : Int} (hk : Word k) :
    (Instr.lookup 38 (.map (some b)) (.int .u64 k) false).run Try.prog w = .ok (.bool (s k)) w := by
  obtain ⟨D, h1, h2⟩ := h
  obtain ⟨v, ps, hrun, hv⟩ := h1.lookup law33 Try.underlying38 (zero4 w) (plainElem_bool Try.underlying4 false) (keyOf_int_mk Try.underlying33 hk)
  obtain ⟨c, rfl, hc⟩ := plainElem_bool_inv hv
  have hat := congrArg Prod.fst hc
  simp only at hat
  rw [h2 k] at hat
  cases hat
  exact hrun
theorem OwnsB.store {w : World} {b n : Nat} {s : Int → Bool} (h : OwnsB w b n s) (hn : n < maxLen) {k : Int} (hk : Word k) :
    ∃ w', (Instr.mapUpdate 38 (.map (some b)) (.int .u64 k) (.bool true)).run Try.prog w = .ok () w' ∧ OwnsB w' b (n + 1) (fun x => if x = k then true else s x) ∧ w.grownBy w' (some b) := by
  obtain ⟨D, h1, h2⟩ := h
  obtain ⟨w', hrun, ho, hg⟩ := h1.update law33 Try.underlying38 hn (keyOf_int_mk Try.underlying33 hk) (plainElem_bool (H := Unit) Try.underlying4 true)
  refine ⟨w', hrun, ⟨_, ho, fun k' => ?_⟩, hg⟩
  by_cases e : k' = k
  · subst e
    rw [Maps.atKey_put_same h1.isMap (isKey _)]
    simp
  · rw [Maps.atKey_put_other (litNe e), h2 k']
    simp [e]
end Go.Proofs.Qxb6617911a
