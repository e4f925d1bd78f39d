import Derived.Test.Qxb6617963aTexts
import Derived.Maps.AppendAt
import Derived.OwnWalk
import Derived.Deep.DeepMust
namespace Go.Proofs.Qxb6617963a
open Go.RowKit
set_option linter.unusedVariables false

theorem info9 : (Try.prog.info? 9).map (fun i => (i.zero, i.size, i.bytes)) = some (some (.string ByteArray.empty), 1, 16) := by kernel_rfl

/-- v is a slice of the call's own that holds the strings os. -/
def OutAt (w : World) (base : Nat) (v : Value) (os : List ByteArray) : Prop := w.ownsRow base 9 1 v os.length (os.map Value.string)

theorem OutAt.texts {w : World} {base : Nat} {v : Value} {os : List ByteArray} (h : OutAt w base v os) : ∃ g, TextsAt w g v os ∧ (v.ownBlock = none ∨ v.ownBlock = some g ∧ base ≤ g) := by
  have hc := fun (g : Nat) (hg : v.ownBlock = some g) => h.cells hg
  rcases h.2 with ⟨rfl, hn⟩ | ⟨g, cap, cur, rfl, hb, hg, hnc, _⟩
  · exact ⟨0, ⟨none, 0, by rw [hn], by omega, fun hp => by omega⟩, .inl rfl⟩
  · refine ⟨g, ⟨_, cap, rfl, hnc, fun _ => ⟨0, rfl, fun j hj => ?_⟩⟩, .inr ⟨rfl, hb⟩⟩
    have := hc g rfl j (.string os[j]) (by simp [hj])
    rw [WideShapes.add_plain] at this
    exact this

theorem wp_out_append {ops : Array Oper} {rest : List Oper} {o : Oper} {a : Act} {Q : Exit → Act → World → Prop} (w : World) (hgd : o.guard = none) (p q : Operand)
    (ho : o.op = .call { callee := .builtin .append, args := #[p, q], argTypes := #[32, 32] }) (base : Nat) (v : Value) (os : List ByteArray) (x : ByteArray)
    (hp : a.eval p = v) (hq : a.eval q = .slice (some ⟨w.heap.size, 0, none⟩) 1 1) (h : OutAt w base v os) (hbase : base ≤ w.heap.size) (hlen : os.length ≤ 4096)
    (hK : ∀ v' w', OutAt w' base v' (os ++ [x]) → (w.alloc (.cells #[.string x] 9)).grownBy w' v.ownBlock → wpList Try.prog ops Q rest (a.put o.dst v') w') :
    wpList Try.prog ops Q (o :: rest) a (w.alloc (.cells #[.string x] 9)) := by
  have hi := info9
  cases hinfo : Try.prog.info? 9 with
  | none => rw [hinfo] at hi; simp at hi
  | some i =>
    rw [hinfo] at hi
    simp at hi
    obtain ⟨h1, h2, h3⟩ := hi
    refine wpList_append_own_at (P := Try.prog) (w.alloc (.cells #[.string x] 9)) hgd p q 32 ho base 9 i _ 1 16 Try.underlying32 hinfo h1 h2 h3 rfl (by decide) v os.length _ hp (h.alloc _)
      ⟨w.heap.size, 0, none⟩ 1 1 [.string x] hq rfl (cell_one_new _ _ _) (by simp [Value.oneCell']) (by unfold maxLen; omega) (by omega) (by rw [World.size_alloc]; omega) ?_
    intro v' w' hown hg _ _
    refine hK v' w' ?_ hg
    unfold OutAt
    rw [List.length_append, List.map_append]
    exact hown

theorem total_take (ts : List (List UInt8)) (k : Nat) : Plain.total (ts.take k) ≤ Plain.total ts := by
  have h : Plain.total ts = Plain.total (ts.take k) + Plain.total (ts.drop k) := by
    unfold Plain.total
    rw [← List.sum_append, ← List.map_append, List.take_append_drop]
  omega

theorem prefs_at (a : Option Addr) (b off cap : Nat) (ts : List ByteArray) (w : World) (hl : ts.length ≤ 4096) (ht : Plain.total (ts.map bs) ≤ 4096) (hb : ts.length = 0 ∨ b < w.heap.size) (ha : 0 < ts.length → a = some ⟨b, off, none⟩)
    (hc : ∀ j (h : j < ts.length), w.cell? ⟨b, off + j, none⟩ = some (.string ts[j])) :
    Calls Try.prog 16 #[.slice a ts.length cap] w fun e w' => ∃ v os, e = .returned v ∧ OutAt w' w.heap.size v os ∧ os.map bs = Plain.prefs (ts.map bs) ∧ Below w.heap.size w w' := by
  go_enter Try.func16, Try.ntmps16
  go_wp2
  go_loopw [3, 4] (fun o i wr => ∃ k : Nat, k ≤ ts.length ∧ i = .int .i64 k ∧ (∃ os, OutAt wr w.heap.size o os ∧ os.map bs = Plain.prefs ((ts.take k).map bs)) ∧ Below w.heap.size w wr) (fun _ i _ => ts.length - (intOf i).toNat)
  case atStart => exact ⟨0, Nat.zero_le _, rfl, ⟨[], World.ownsRow_nil _ _ _ _, rfl⟩, Below.refl _ _⟩
  case round =>
    obtain ⟨k, hk, rfl, ⟨os, hout, hos⟩, hnx⟩ := hrel
    by_cases hlt : k < ts.length
    · have hlt' : (k : Int) < (ts.length : Int) := by omega
      have hix := index32 (ha (by omega)) ts.length cap k hlt'
      have hcx : wr.cell? ⟨b, off + k, none⟩ = some (.string ts[k]) := (hnx.cell (by show b < _; omega)).trans (hc k hlt)
      obtain ⟨s, hy⟩ : ∃ y, y = ts[k] := ⟨_, rfl⟩
      rw [← hy] at hcx
      have Hy : Hid (s = ts[k]) := hy
      have Hos : Hid (os.map bs = Plain.prefs ((ts.take k).map bs)) := hos
      have Htk : Hid ((ts.take (k + 1)).map bs = (ts.take k).map bs ++ [bs s]) := by
        show (ts.take (k + 1)).map bs = _
        rw [take_map_snoc ts k hlt, ← hy]
      have Htot : Plain.total ((ts.take k).map bs) + s.size ≤ 4096 := by
        have h1 := total_take (ts.map bs) (k + 1)
        rw [← List.map_take, Htk.out, Plain.total_snoc, bs_length] at h1
        omega
      clear hc hy hos
      obtain ⟨wo, hwo⟩ : ∃ wo : World, wo = wr := ⟨_, rfl⟩
      subst hwo
      go_wp2
      go_loopw [3, 6] (fun o i wr => ∃ j : Nat, j ≤ s.size ∧ i = .int .i64 ((j + 1 : Nat) : Int) ∧ (∃ os, OutAt wr w.heap.size o os ∧ Hid (os.map bs = Plain.upTo (Plain.prefs ((ts.take k).map bs)) (bs s) j)) ∧ Below w.heap.size w wr) (fun _ i _ => s.size + 1 - (intOf i).toNat)
      case atStart => exact ⟨0, Nat.zero_le _, rfl, ⟨os, hout, Hos⟩, hnx⟩
      case round =>
        clear hout hnx Hos
        obtain ⟨j, hj, rfl, ⟨os, hout, Hos⟩, hnx⟩ := hrel
        have hlen : os.length ≤ 4096 := by
          have h1 : os.length = (os.map bs).length := by simp
          have h2 := Plain.length_upTo (Plain.prefs ((ts.take k).map bs)) (bs s) j
          have h3 := Plain.length_prefs ((ts.take k).map bs)
          rw [h1, Hos.out]
          omega
        by_cases hjt : j < s.size
        · obtain ⟨g, htx, _⟩ := hout.texts
          have hjt' : (j : Int) + 1 ≤ (s.size : Int) := by omega
          have hx : bs (s.extract 0 (j + 1)) = (bs s).take (j + 1) := bs_take s (j + 1)
          by_cases hnum : Plain.num (os.map bs) (bs (s.extract 0 (j + 1))) = 0
          · have hneg : ((Plain.num (os.map bs) (bs (s.extract 0 (j + 1))) : Int) - 1) < 0 := by omega
            have Hnew : Hid ((os ++ [s.extract 0 (j + 1)]).map bs = Plain.upTo (Plain.prefs ((ts.take k).map bs)) (bs s) (j + 1)) := by
              show (os ++ [s.extract 0 (j + 1)]).map bs = _
              unfold Plain.upTo Plain.addP
              rw [hx] at hnum
              rw [← Hos.out, if_pos hnum, List.map_append, ← hx]
              rfl
            have hsz := hnx.size
            clear hx hnum
            go_wp2_with fail
            refine (index_any g _ os _ _ (by omega) htx).mono ?_
            rintro e w1 ⟨rfl, rfl⟩
            go_wp2_with (at_builtin; go_must (refine wp_out_append w1 rfl (.tmp 29) (.tmp 33) rfl w.heap.size _ os _ rfl rfl hout hsz hlen ?_); intro v' w' hout' hg')
            have Hb : Below w.heap.size w w' := (hnx.alloc hnx.size _).grown hg' (by rw [World.size_alloc]; omega) (fun q hq => (hout.lt q hq).1)
            go_roundw
            case rel => exact ⟨j + 1, by omega, by go_num, ⟨_, hout', Hnew⟩, Hb⟩
            case measure => simp [intOf]; omega
          · have hneg : ¬ ((Plain.num (os.map bs) (bs (s.extract 0 (j + 1))) : Int) - 1) < 0 := by omega
            have Hnew : Hid (os.map bs = Plain.upTo (Plain.prefs ((ts.take k).map bs)) (bs s) (j + 1)) := by
              show os.map bs = _
              unfold Plain.upTo Plain.addP
              rw [hx] at hnum
              rw [← Hos.out, if_neg hnum]
            clear hx hnum
            go_wp2_with fail
            refine (index_any g _ os _ _ (by omega) htx).mono ?_
            rintro e w1 ⟨rfl, rfl⟩
            go_wp2
            go_roundw
            case rel => exact ⟨j + 1, by omega, by go_num, ⟨_, hout, Hnew⟩, hnx⟩
            case measure => simp [intOf]; omega
        · have hjt' : ¬ ((j : Int) + 1 ≤ (s.size : Int)) := by omega
          have Hnew : Hid (os.map bs = Plain.prefs ((ts.take (k + 1)).map bs)) := by
            show os.map bs = _
            have e : j = (bs s).length := by rw [bs_length]; omega
            rw [Htk.out, Plain.prefs_snoc, ← e]
            exact Hos.out
          go_wp2
          go_roundw
          case rel => exact ⟨k + 1, by omega, by go_num, ⟨os, hout, Hnew.out⟩, hnx⟩
          case measure => simp [intOf]; omega
    · have e : k = ts.length := by omega
      rw [e, List.take_length] at hos
      have Hos : Hid (os.map bs = Plain.prefs (ts.map bs)) := hos
      clear hos
      go_wp2
      go_ret
      exact ⟨_, os, rfl, hout, Hos.out, hnx⟩

theorem prefs_any (b : Nat) (v : Value) (ts : List ByteArray) (w : World) (hl : ts.length ≤ 4096) (ht : Plain.total (ts.map bs) ≤ 4096) (h : TextsAt w b v ts) :
    Calls Try.prog 16 #[v] w fun e w' => ∃ v os, e = .returned v ∧ OutAt w' w.heap.size v os ∧ os.map bs = Plain.prefs (ts.map bs) ∧ Below w.heap.size w w' := by
  obtain ⟨a, off, cap, rfl, _, ha, hc⟩ := h.parts
  refine prefs_at a b off cap ts w hl ht ?_ ha hc
  by_cases hp : 0 < ts.length
  · exact .inr (World.block_lt_of_cell? w _ (hc 0 hp))
  · exact .inl (by omega)
end Go.Proofs.Qxb6617963a
