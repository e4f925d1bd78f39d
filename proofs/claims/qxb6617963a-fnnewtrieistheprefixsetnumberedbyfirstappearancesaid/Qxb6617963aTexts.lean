import Derived.Test.Qxb6617963aRows
import Derived.Test.Qxb6617963aPlain2
import Derived.WalkKit
import Derived.WalkSpells
import Derived.RegionTactic
import Derived.BigRegion
import Derived.Lib.Strings
namespace Go.Proofs.Qxb6617963a
open Go.RowKit
set_option linter.unusedVariables false

/-- A string's bytes. -/
def bs (s : ByteArray) : List UInt8 := s.toList
theorem bs_data (s : ByteArray) : bs s = s.data.toList := ByteArray.toList_eq s
theorem bs_length (s : ByteArray) : (bs s).length = s.size := by rw [bs_data]; simp
theorem bs_take (s : ByteArray) (k : Nat) : bs (s.extract 0 k) = (bs s).take k := by
  unfold bs
  rw [Lib.extract_toList, ByteArray.toList_eq]
  simp
theorem bs_eq (a b : ByteArray) : (a.toList == b.toList) = decide (bs a = bs b) := by
  unfold bs
  rw [Bool.eq_iff_iff]
  simp
theorem bs_at (s : ByteArray) (k : Nat) (h : k < s.size) : (bs s)[k]'(by rw [bs_length]; exact h) = s[k] := by
  have : ∀ l : List UInt8, l = s.data.toList → ∀ hl : k < l.length, l[k] = s[k] := by
    rintro l rfl hl
    rfl
  exact this (bs s) (bs_data s) _
theorem bs_inj {a b : ByteArray} (h : bs a = bs b) : a = b := by
  rw [bs_data, bs_data] at h
  cases a; cases b
  simp at h
  simp [h]

theorem ret_int {k : IntKind} {a b : Int} (h : a = b) : Ending.returned (.int k a) = .returned (.int k b) := by rw [h]
theorem ret_bool {a b : Bool} (h : a = b) : Ending.returned (.bool a) = .returned (.bool b) := by rw [h]

/-- The slice v holds the strings ts, in block b (where there are any). -/
def TextsAt (w : World) (b : Nat) (v : Value) (ts : List ByteArray) : Prop :=
  ∃ a cap, v = .slice a ts.length cap ∧ ts.length ≤ cap ∧ (0 < ts.length → ∃ off, a = some ⟨b, off, none⟩ ∧ ∀ j (h : j < ts.length), w.cell? ⟨b, off + j, none⟩ = some (.string ts[j]))

theorem TextsAt.kept {w w' : World} {b : Nat} {v : Value} {ts : List ByteArray} {row : Option Nat} (h : TextsAt w b v ts) (hg : w.grownBy w' row) (hne : some b ≠ row) : TextsAt w' b v ts := by
  obtain ⟨a, cap, rfl, hcap, h1⟩ := h
  refine ⟨a, cap, rfl, hcap, fun hp => ?_⟩
  obtain ⟨off, rfl, hc⟩ := h1 hp
  exact ⟨off, rfl, fun j hj => hg.cell (hc j hj) hne⟩
theorem TextsAt.below {w w' : World} {b : Nat} {v : Value} {ts : List ByteArray} (h : TextsAt w b v ts) (hb : Below w.heap.size w w') : TextsAt w' b v ts := by
  obtain ⟨a, cap, rfl, hcap, h1⟩ := h
  refine ⟨a, cap, rfl, hcap, fun hp => ?_⟩
  obtain ⟨off, rfl, hc⟩ := h1 hp
  exact ⟨off, rfl, fun j hj => (hb.cell (World.block_lt_of_cell? w _ (hc j hj))).trans (hc j hj)⟩

theorem index32 {a : Option Addr} {b off : Nat} (e : a = some ⟨b, off, none⟩) (n cap k : Nat) (hk : (k : Int) < (n : Int)) (w : World) :
    (Instr.indexAt 32 (.slice a n cap) (.int .i64 (k : Int))).run Try.prog w = .ok (.pointer (some ⟨b, off + k, none⟩)) w := by
  subst e
  go_simp

theorem take_map_snoc (ts : List ByteArray) (k : Nat) (h : k < ts.length) : (ts.take (k + 1)).map bs = (ts.take k).map bs ++ [bs ts[k]] := by
  rw [List.take_succ_eq_append_getElem h, List.map_append]
  rfl

theorem num_hit {ts : List ByteArray} {x : ByteArray} {k : Nat} (hk : k < ts.length) (hn : Plain.num ((ts.take k).map bs) (bs x) = 0) (he : bs ts[k] = bs x) : Plain.num (ts.map bs) (bs x) = k + 1 := by
  have h1 : Plain.num ((ts.take (k + 1)).map bs) (bs x) = k + 1 := by
    rw [take_map_snoc ts k hk, Plain.num_snoc, if_pos hn, if_pos he]
    simp
    omega
  have key : ∀ (P Q : List (List UInt8)) (y : List UInt8), Plain.num P y ≠ 0 → Plain.num (P ++ Q) y = Plain.num P y := by
    intro P Q y
    induction P with
    | nil => intro h; exact absurd rfl h
    | cons p r ih =>
      intro h
      rw [List.cons_append]
      unfold Plain.num at h ⊢
      by_cases hp : p = y
      · simp [hp]
      · rw [if_neg hp] at h ⊢
        rw [if_neg hp]
        have hr : Plain.num r y ≠ 0 := fun e => h (by simp [e])
        rw [ih hr]
  have e : ts.map bs = (ts.take (k + 1)).map bs ++ (ts.drop (k + 1)).map bs := by rw [← List.map_append, List.take_append_drop]
  rw [e, key _ _ _ (by omega), h1]
theorem num_miss {ts : List ByteArray} {x : ByteArray} {k : Nat} (hk : k < ts.length) (hn : Plain.num ((ts.take k).map bs) (bs x) = 0) (he : ¬ bs ts[k] = bs x) : Plain.num ((ts.take (k + 1)).map bs) (bs x) = 0 := by
  rw [take_map_snoc ts k hk, Plain.num_snoc, if_pos hn, if_neg he]

theorem index_at (a : Option Addr) (b off cap : Nat) (ts : List ByteArray) (x : ByteArray) (w : World) (hl : ts.length ≤ 9223372036854775807) (ha : 0 < ts.length → a = some ⟨b, off, none⟩)
    (hc : ∀ j (h : j < ts.length), w.cell? ⟨b, off + j, none⟩ = some (.string ts[j])) :
    Calls Try.prog 19 #[.slice a ts.length cap, .string x] w fun e w' => e = .returned (.int .i64 ((Plain.num (ts.map bs) (bs x) : Int) - 1)) ∧ w' = w := by
  go_enter Try.func19, Try.ntmps19
  go_wp2
  go_loop [5] (fun i => ∃ k : Nat, k ≤ ts.length ∧ i = .int .i64 k ∧ Hid (Plain.num ((ts.take k).map bs) (bs x) = 0)) (fun i => ts.length - (intOf i).toNat)
  case atStart => exact ⟨0, Nat.zero_le _, rfl, rfl⟩
  case round =>
    obtain ⟨k, hk, rfl, hn⟩ := hrel
    by_cases hlt : k < ts.length
    · have hlt' : (k : Int) < (ts.length : Int) := by omega
      have hix := index32 (ha (by omega)) ts.length cap k hlt'
      have hcx := hc k hlt
      obtain ⟨y, hy⟩ : ∃ y, y = ts[k] := ⟨_, rfl⟩
      rw [← hy] at hcx
      have Hy : Hid (y = ts[k]) := hy
      clear hc hy
      by_cases he : bs y = bs x
      · have hb : (y.toList == x.toList) = true := by rw [bs_eq]; exact decide_eq_true he
        have Hn : Hid (Plain.num (ts.map bs) (bs x) = k + 1) := num_hit hlt hn.out (by rw [← Hy.out]; exact he)
        clear he
        go_wp2
        go_ret
        exact ⟨ret_int (by rw [Hn.out]; omega), rfl⟩
      · have hb : (y.toList == x.toList) = false := by rw [bs_eq]; exact decide_eq_false he
        have Hn : Hid (Plain.num ((ts.take (k + 1)).map bs) (bs x) = 0) := num_miss hlt hn.out (by rw [← Hy.out]; exact he)
        clear he
        go_wp2
        go_round
        case rel => exact ⟨k + 1, by omega, by go_num, Hn⟩
        case measure => simp [intOf]; omega
    · have Hn : Hid (Plain.num (ts.map bs) (bs x) = 0) := by
        have e : k = ts.length := by omega
        have := hn.out
        rw [e, List.take_length] at this
        exact this
      go_wp2
      go_ret
      exact ⟨ret_int (by rw [Hn.out]; rfl), rfl⟩

theorem TextsAt.parts {w : World} {b : Nat} {v : Value} {ts : List ByteArray} (h : TextsAt w b v ts) :
    ∃ a off cap, v = .slice a ts.length cap ∧ ts.length ≤ cap ∧ (0 < ts.length → a = some ⟨b, off, none⟩) ∧ ∀ j (h : j < ts.length), w.cell? ⟨b, off + j, none⟩ = some (.string ts[j]) := by
  obtain ⟨a, cap, rfl, hcap, hc⟩ := h
  by_cases hp : 0 < ts.length
  · obtain ⟨off, e, hc⟩ := hc hp
    exact ⟨a, off, cap, rfl, hcap, fun _ => e, hc⟩
  · exact ⟨a, 0, cap, rfl, hcap, fun h => absurd h hp, fun j hj => absurd hj (by omega)⟩

theorem index_any (b : Nat) (v : Value) (ts : List ByteArray) (x : ByteArray) (w : World) (hl : ts.length ≤ 9223372036854775807) (h : TextsAt w b v ts) :
    Calls Try.prog 19 #[v, .string x] w fun e w' => e = .returned (.int .i64 ((Plain.num (ts.map bs) (bs x) : Int) - 1)) ∧ w' = w := by
  obtain ⟨a, off, cap, rfl, _, ha, hc⟩ := h.parts
  exact index_at a b off cap ts x w hl ha hc

/-- Does s begin with p? -/
def begins (s p : ByteArray) : Bool := decide (bs p <+: bs s)

theorem begins_form (s p : ByteArray) : ((s.extract 0 p.size).toList == p.toList) = begins s p := by
  rw [bs_eq, bs_take, ← bs_length]
  unfold begins
  rw [Bool.eq_iff_iff]
  simp only [decide_eq_true_eq]
  rw [List.prefix_iff_eq_take]
  exact ⟨fun h => h.symm, fun h => h.symm⟩

theorem begins_any (s p : ByteArray) (w : World) (hs : s.size ≤ 9223372036854775807) (hp : p.size ≤ 9223372036854775807) :
    Calls Try.prog 33 #[.string s, .string p] w fun e w' => e = .returned (.bool (begins s p)) ∧ w' = w := by
  by_cases hle : p.size ≤ s.size
  · have Hf : Hid (((s.extract 0 p.size).toList == p.toList) = begins s p) := begins_form s p
    go_enter Try.func33, Try.ntmps33
    go_wp2
    go_ret
    exact ⟨ret_bool Hf.out, rfl⟩
  · have Hf : Hid (begins s p = false) := by
      show begins s p = false
      unfold begins
      refine decide_eq_false (fun h => ?_)
      have := h.length_le
      rw [bs_length, bs_length] at this
      omega
    have hle' : ¬ ((p.size : Int) ≤ (s.size : Int)) := by omega
    go_enter Try.func33, Try.ntmps33
    go_wp2
    go_ret
    exact ⟨ret_bool Hf.out.symm, rfl⟩

theorem some_at (a : Option Addr) (b off cap : Nat) (ts : List ByteArray) (p : ByteArray) (w : World) (hl : ts.length ≤ 9223372036854775807) (hs : ∀ s ∈ ts, s.size ≤ 9223372036854775807) (hp : p.size ≤ 9223372036854775807)
    (ha : 0 < ts.length → a = some ⟨b, off, none⟩) (hc : ∀ j (h : j < ts.length), w.cell? ⟨b, off + j, none⟩ = some (.string ts[j])) :
    Calls Try.prog 26 #[.slice a ts.length cap, .string p] w fun e w' => e = .returned (.bool (ts.any (fun s => begins s p))) ∧ w' = w := by
  go_enter Try.func26, Try.ntmps26
  go_wp2
  go_loop [5] (fun i => ∃ k : Nat, k ≤ ts.length ∧ i = .int .i64 k ∧ Hid ((ts.take k).any (fun s => begins s p) = false)) (fun i => ts.length - (intOf i).toNat)
  case atStart => exact ⟨0, Nat.zero_le _, rfl, rfl⟩
  case round =>
    obtain ⟨k, hk, rfl, hn⟩ := hrel
    by_cases hlt : k < ts.length
    · have hlt' : (k : Int) < (ts.length : Int) := by omega
      have hix := index32 (ha (by omega)) ts.length cap k hlt'
      have hcx := hc k hlt
      have hsz := hs ts[k] (List.getElem_mem hlt)
      obtain ⟨y, hy⟩ : ∃ y, y = ts[k] := ⟨_, rfl⟩
      rw [← hy] at hcx hsz
      have Hy : Hid (y = ts[k]) := hy
      clear hc hy
      cases he : begins y p with
      | true =>
        have Hn : Hid (ts.any (fun s => begins s p) = true) := List.any_eq_true.2 ⟨ts[k], List.getElem_mem hlt, by rw [← Hy.out]; exact he⟩
        go_wp2_with fail
        refine (begins_any y p _ hsz hp).mono ?_
        rintro e w' ⟨rfl, rfl⟩
        go_wp2
        go_ret
        exact ⟨ret_bool Hn.out.symm, rfl⟩
      | false =>
        have Hn : Hid ((ts.take (k + 1)).any (fun s => begins s p) = false) := by
          show (ts.take (k + 1)).any (fun s => begins s p) = false
          rw [List.take_succ_eq_append_getElem hlt, List.any_append, hn.out, ← Hy.out]
          simp [he]
        go_wp2_with fail
        refine (begins_any y p _ hsz hp).mono ?_
        rintro e w' ⟨rfl, rfl⟩
        go_wp2
        go_round
        case rel => exact ⟨k + 1, by omega, by go_num, Hn⟩
        case measure => simp [intOf]; omega
    · have Hn : Hid (ts.any (fun s => begins s p) = false) := by
        have e : k = ts.length := by omega
        have := hn.out
        rw [e, List.take_length] at this
        exact this
      go_wp2
      go_ret
      exact ⟨ret_bool Hn.out.symm, rfl⟩

theorem some_any (b : Nat) (v : Value) (ts : List ByteArray) (p : ByteArray) (w : World) (hl : ts.length ≤ 9223372036854775807) (hs : ∀ s ∈ ts, s.size ≤ 9223372036854775807) (hp : p.size ≤ 9223372036854775807) (h : TextsAt w b v ts) :
    Calls Try.prog 26 #[v, .string p] w fun e w' => e = .returned (.bool (ts.any (fun s => begins s p))) ∧ w' = w := by
  obtain ⟨a, off, cap, rfl, _, ha, hc⟩ := h.parts
  exact some_at a b off cap ts p w hl hs hp ha hc
end Go.Proofs.Qxb6617963a
