import Derived.Test.Qxb6617963aTexts
import Derived.Deep.OwnRows
import Derived.Laws.CopyOwn
import Derived.Laws.Rows
namespace Go.Proofs.Qxb6617963a
open Go.RowKit
set_option linter.unusedVariables false

/-- None is longer than 1 << 20. -/
def Short (ts : List ByteArray) : Prop := ∀ s ∈ ts, s.size ≤ 1048576

theorem short_snoc {ts : List ByteArray} {k : Nat} (h : Short (ts.take k)) (hk : k < ts.length) (hs : ts[k].size ≤ 1048576) : Short (ts.take (k + 1)) := by
  intro s hm
  rw [List.take_succ_eq_append_getElem hk, List.mem_append] at hm
  rcases hm with h1 | h1
  · exact h s h1
  · simp at h1
    subst h1
    exact hs

/-- What the bound on the lengths answers: some bool; true only where none is long. -/
def BytesPost (ts : List ByteArray) (w : World) (e : Ending) (w' : World) : Prop := ∃ c : Bool, e = .returned (.bool c) ∧ w' = w ∧ (c = true → Short ts)
theorem bytesNo (ts : List ByteArray) (w : World) : BytesPost ts w (.returned (.bool false)) w := ⟨false, rfl, rfl, fun h => by cases h⟩
theorem bytesYes {ts : List ByteArray} (w : World) (h : Short ts) : BytesPost ts w (.returned (.bool true)) w := ⟨true, rfl, rfl, fun _ => h⟩

theorem bytes15_at (a : Option Addr) (b off cap : Nat) (ts : List ByteArray) (w : World) (hl : ts.length ≤ 9223372036854775807) (ha : 0 < ts.length → a = some ⟨b, off, none⟩)
    (hc : ∀ j (h : j < ts.length), w.cell? ⟨b, off + j, none⟩ = some (.string ts[j])) (hs : ∀ s ∈ ts, s.size ≤ 9223372036854775807) :
    Calls Try.prog 15 #[.slice a ts.length cap] w fun e w' => BytesPost ts w e w' := by
  by_cases hl2 : ts.length ≤ 1048576
  · go_enter Try.func15, Try.ntmps15
    go_wp2
    go_loop [3, 4] (fun z i => ∃ k z0 : Nat, k ≤ ts.length ∧ i = .int .i64 k ∧ z = .int .i64 z0 ∧ z0 ≤ 1048576 ∧ Hid (Short (ts.take k))) (fun _ i => ts.length - (intOf i).toNat)
    case atStart => exact ⟨0, ts.length, Nat.zero_le _, rfl, by simp, hl2, fun s hs => by simp at hs⟩
    case round =>
      obtain ⟨k, z, hk, rfl, rfl, hz, hsh⟩ := hrel
      by_cases hlt : k < ts.length
      · have hlt' : (k : Int) < (ts.length : Int) := by omega
        have hix := index32 (ha (by omega)) ts.length cap k hlt'
        have hcx := hc k hlt
        have hsz := hs ts[k] (List.getElem_mem hlt)
        have hsn := fun (h : ts[k].size ≤ 1048576) => short_snoc hsh.out hlt h
        obtain ⟨y, hy⟩ : ∃ y, y = ts[k] := ⟨_, rfl⟩
        rw [← hy] at hcx hsz hsn
        have Hsn : Hid (y.size ≤ 1048576 → Short (ts.take (k + 1))) := hsn
        clear hc hy hsn hs
        by_cases h1 : y.size ≤ 1048576
        · by_cases h2 : z + y.size ≤ 1048576
          · go_wp2
            go_round
            case rel => exact ⟨k + 1, z + y.size, by omega, by go_num, by go_num, h2, Hsn.out h1⟩
            case measure => simp [intOf]; omega
          · go_wp2
            go_ret
            exact bytesNo _ _
        · go_wp2
          go_ret
          exact bytesNo _ _
      · have Hs : Hid (Short ts) := by
          have e : k = ts.length := by omega
          have := hsh.out
          rw [e, List.take_length] at this
          exact this
        go_wp2
        go_ret
        exact bytesYes _ Hs.out
  · go_enter Try.func15, Try.ntmps15
    go_wp2
    go_ret
    exact bytesNo _ _

theorem bytes15_any (b : Nat) (v : Value) (ts : List ByteArray) (w : World) (hl : ts.length ≤ 9223372036854775807) (hs : ∀ s ∈ ts, s.size ≤ 9223372036854775807) (h : TextsAt w b v ts) :
    Calls Try.prog 15 #[v] w fun e w' => BytesPost ts w e w' := by
  obtain ⟨a, off, cap, rfl, _, ha, hc⟩ := h.parts
  exact bytes15_at a b off cap ts w hl ha hc hs

theorem bytes24_at (a : Option Addr) (b off cap : Nat) (ts : List ByteArray) (q : ByteArray) (w : World) (hl : ts.length ≤ 9223372036854775807) (ha : 0 < ts.length → a = some ⟨b, off, none⟩)
    (hc : ∀ j (h : j < ts.length), w.cell? ⟨b, off + j, none⟩ = some (.string ts[j])) (hs : ∀ s ∈ ts, s.size ≤ 9223372036854775807) (hq : q.size ≤ 9223372036854775807) :
    Calls Try.prog 24 #[.slice a ts.length cap, .string q] w fun e w' => BytesPost ts w e w' := by
  by_cases hl2 : ts.length ≤ 1048576
  · go_enter Try.func24, Try.ntmps24
    go_wp2
    go_loop [5, 6] (fun z i => ∃ k z0 : Nat, k ≤ ts.length ∧ i = .int .i64 k ∧ z = .int .i64 z0 ∧ z0 ≤ 1048576 ∧ Hid (Short (ts.take k))) (fun _ i => ts.length - (intOf i).toNat)
    case atStart => exact ⟨0, ts.length, Nat.zero_le _, rfl, by simp, hl2, fun s hs => by simp at hs⟩
    case round =>
      obtain ⟨k, z, hk, rfl, rfl, hz, hsh⟩ := hrel
      by_cases hlt : k < ts.length
      · have hlt' : (k : Int) < (ts.length : Int) := by omega
        have hix := index32 (ha (by omega)) ts.length cap k hlt'
        have hcx := hc k hlt
        have hsz := hs ts[k] (List.getElem_mem hlt)
        have hsn := fun (h : ts[k].size ≤ 1048576) => short_snoc hsh.out hlt h
        obtain ⟨y, hy⟩ : ∃ y, y = ts[k] := ⟨_, rfl⟩
        rw [← hy] at hcx hsz hsn
        have Hsn : Hid (y.size ≤ 1048576 → Short (ts.take (k + 1))) := hsn
        clear hc hy hsn hs
        by_cases h1 : y.size ≤ 1048576
        · by_cases h2 : z + y.size ≤ 1048576
          · go_wp2
            go_round
            case rel => exact ⟨k + 1, z + y.size, by omega, by go_num, by go_num, h2, Hsn.out h1⟩
            case measure => simp [intOf]; omega
          · go_wp2
            go_ret
            exact bytesNo _ _
        · go_wp2
          go_ret
          exact bytesNo _ _
      · have Hs : Hid (Short ts) := by
          have e : k = ts.length := by omega
          have := hsh.out
          rw [e, List.take_length] at this
          exact this
        by_cases h1 : q.size ≤ 1048576
        · by_cases h2 : z + q.size ≤ 1048576
          · go_wp2
            go_ret
            exact bytesYes _ Hs.out
          · go_wp2
            go_ret
            exact bytesNo _ _
        · go_wp2
          go_ret
          exact bytesNo _ _
  · go_enter Try.func24, Try.ntmps24
    go_wp2
    go_ret
    exact bytesNo _ _

theorem bytes24_any (b : Nat) (v : Value) (ts : List ByteArray) (q : ByteArray) (w : World) (hl : ts.length ≤ 9223372036854775807) (hs : ∀ s ∈ ts, s.size ≤ 9223372036854775807) (hq : q.size ≤ 9223372036854775807) (h : TextsAt w b v ts) :
    Calls Try.prog 24 #[v, .string q] w fun e w' => BytesPost ts w e w' := by
  obtain ⟨a, off, cap, rfl, _, ha, hc⟩ := h.parts
  exact bytes24_at a b off cap ts q w hl ha hc hs hq

/-! ### the copy -/
theorem info9' : (Try.prog.info? 9).map (fun i => (i.zero, i.size, i.bytes)) = some (some (.string ByteArray.empty), 1, 16) := by kernel_rfl
theorem size9 : (Try.prog.info? 9).map (·.size) = some 1 := by kernel_rfl

theorem make9 (n : Nat) (hn : n ≤ 4096) (w : World) : (Instr.makeSlice 32 (.int .i64 (n : Int)) (.int .i64 (n : Int))).run Try.prog w =
    .ok (.slice (some ⟨w.heap.size, 0, none⟩) n n) (w.alloc (.cells (madeCells #[.string ByteArray.empty] n) 9)) :=
  run_make_row' (P := Try.prog) 32 9 (.string ByteArray.empty) 16 Try.underlying32 info9' rfl .i64 .i64 n (by omega) (by omega) w

theorem neqNil (w : World) (a : Option Addr) (n c : Nat) : (binOp .neq 32 (.slice a n c) (.slice none 0 0)).run Try.prog w = .ok (.bool (!a.isNone)) w :=
  run_neq_slice_nil_any (P := Try.prog) w 32 9 a n c 0 0 Try.underlying32

theorem run_texts_copy (w : World) (b : Nat) (a : Option Addr) (cap : Nat) (ts : List ByteArray) (h : TextsAt w b (.slice a ts.length cap) ts) :
    ∃ w', (Builtin.copy_ #[32, 32] 3 #[.slice (some ⟨w.heap.size, 0, none⟩) ts.length ts.length, .slice a ts.length cap]).run Try.prog (w.alloc (.cells (madeCells #[.string ByteArray.empty] ts.length) 9)) = .ok (.int .i64 (ts.length : Int)) w' ∧
      TextsAt w' w.heap.size (.slice (some ⟨w.heap.size, 0, none⟩) ts.length ts.length) ts ∧ Below w.heap.size w w' := by
  obtain ⟨a', off, cap', hv, hcap, ha, hc⟩ := h.parts
  cases hv
  have hB : Below w.heap.size w (w.alloc (.cells (madeCells #[.string ByteArray.empty] ts.length) 9)) := (Below.refl _ _).alloc (Nat.le_refl _) _
  by_cases hp : 0 < ts.length
  · have hlen : (ts.map Value.string).length = ts.length := by simp
    have hrun := run_copy_row (P := Try.prog) (w.alloc (.cells (madeCells #[.string ByteArray.empty] ts.length) 9)) 32 32 3 9 w.heap.size 0 ts.length ts.length ⟨b, off, none⟩ ts.length cap (madeCells #[.string ByteArray.empty] ts.length) 9 (ts.map Value.string) Try.underlying32 size9 (MapKept.heap_alloc w _).1
      (by rw [hlen]; simp) (fun j v hj => by
        have hj' : j < ts.length := by
          have := (List.getElem?_eq_some_iff.1 hj).1
          rwa [hlen] at this
        have hv : v = .string ts[j] := by
          rw [List.getElem?_map, List.getElem?_eq_getElem hj'] at hj
          exact (Option.some.inj hj).symm
        rw [hv, WideShapes.add_plain, World.cell?_alloc_lt _ _ _ (World.block_lt_of_cell? w _ (hc j hj'))]
        exact hc j hj') (by rw [hlen]; simp [size_madeCells]) (by simp [Value.oneCell'])
    rw [hlen] at hrun
    have e : ((madeCells #[.string ByteArray.empty] ts.length).toList.take 0 ++ ts.map Value.string ++ (madeCells #[.string ByteArray.empty] ts.length).toList.drop (0 + ts.length)) = ts.map Value.string := by
      rw [List.take_zero, List.nil_append, Nat.zero_add, List.drop_eq_nil_of_le (by simp [size_madeCells]), List.append_nil]
    rw [e] at hrun
    rw [ha hp]
    refine ⟨_, hrun, ⟨_, _, rfl, Nat.le_refl _, fun _ => ⟨0, rfl, fun j hj => ?_⟩⟩, below_setRow hB (Nat.le_refl _) _⟩
    have hr := setRow_heap (w.alloc (.cells (madeCells #[.string ByteArray.empty] ts.length) 9)) w.heap.size _ (ts.map Value.string).toArray 9 _ (MapKept.heap_alloc w _).1
    rw [Nat.zero_add, cell_of_row _ _ _ _ _ _ hr]
    simp [hj]
  · have e : ts = [] := List.length_eq_zero_iff.1 (by omega)
    subst e
    exact ⟨_, run_copy_none (P := Try.prog) _ 32 32 3 9 _ _ _ _ _ _ Try.underlying32 size9 (by simp), ⟨_, _, rfl, Nat.le_refl _, fun h => absurd h (Nat.lt_irrefl _)⟩, hB⟩
end Go.Proofs.Qxb6617963a
