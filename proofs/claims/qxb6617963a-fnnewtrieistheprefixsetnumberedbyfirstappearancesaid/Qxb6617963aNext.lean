import Derived.Test.Qxb6617963aTrie
namespace Go.Proofs.Qxb6617963a
open Go.RowKit
set_option linter.unusedVariables false

theorem index51 {a : Option Addr} {q : Nat} (e : a = some ⟨q, 0, none⟩) (n cap k : Nat) (hk : (k : Int) < (n : Int)) (w : World) :
    (Instr.indexAt 51 (.slice a n cap) (.int .i64 (k : Int))).run Try.prog w = .ok (.pointer (some ⟨q, k * 2, none⟩)) w := by
  subst e
  go_simp

theorem byte_beq (a b : UInt8) : (((a.toNat : Int)) == ((b.toNat : Int))) = decide (a = b) := by
  rw [Bool.eq_iff_iff]
  simp only [beq_iff_eq, decide_eq_true_eq]
  constructor
  · intro h
    exact UInt8.toNat_inj.1 (by omega)
  · rintro rfl
    rfl

theorem findE_hit {l : List (UInt8 × Nat)} {b : UInt8} {k : Nat} (hk : k < l.length) (hn : ∀ j (h : j < l.length), j < k → l[j].1 ≠ b) (he : l[k].1 = b) : Plain.findE l b = l[k].2 := by
  induction l generalizing k with
  | nil => simp at hk
  | cons x r ih =>
    unfold Plain.findE
    cases k with
    | zero =>
      simp at he ⊢
      exact fun hne => absurd he hne
    | succ k =>
      have h0 := hn 0 (by simp) (by omega)
      simp at h0 he ⊢
      rw [if_neg h0]
      exact ih (by simpa using hk) (fun j hj hjk => by
        have := hn (j + 1) (by simp; omega) (by omega)
        simpa using this) he
theorem findE_miss {l : List (UInt8 × Nat)} {b : UInt8} (hn : ∀ j (h : j < l.length), l[j].1 ≠ b) : Plain.findE l b = 0 := by
  induction l with
  | nil => rfl
  | cons x r ih =>
    unfold Plain.findE
    have h0 := hn 0 (by simp)
    simp at h0
    rw [if_neg h0]
    exact ih (fun j hj => by
      have := hn (j + 1) (by simp; omega)
      simpa using this)

/-- What next answers, over a trie's root and edges. -/
def nxOf (R : Nat → Nat) (E : Nat → List (UInt8 × Nat)) (n : Nat) (b : UInt8) : Nat := if n = 0 then R b.toNat else Plain.findE (E n) b

theorem next_zero {w : World} {base t : Nat} {R : Nat → Nat} {N : Nat} {E : Nat → List (UInt8 × Nat)} {Wh : Nat → Bool} (h : TrieAt w base t R N E Wh) (b : UInt8) :
    Calls Try.prog 32 #[.pointer (some ⟨t, 0, none⟩), .int .i32 0, .int .u8 (b.toNat : Int)] w fun e w' => e = .returned (.int .i32 (R b.toNat : Int)) ∧ w' = w := by
  obtain ⟨g, cap, A, C, c0, c1, c2, c3⟩ := h.cells
  have hb := b.toNat_lt
  have cb := c1 b.toNat (by omega)
  have hb' : (b.toNat : Int) < 256 := by omega
  go_enter Try.func32, Try.ntmps32
  go_wp2
  go_ret
  exact ⟨rfl, rfl⟩

theorem next_pos {w : World} {base t : Nat} {R : Nat → Nat} {N : Nat} {E : Nat → List (UInt8 × Nat)} {Wh : Nat → Bool} (h : TrieAt w base t R N E Wh) (n : Nat) (h0 : 0 < n) (hn : n < N) (hN : N ≤ 4097) (hl : (E n).length ≤ 4096) (b : UInt8) :
    Calls Try.prog 32 #[.pointer (some ⟨t, 0, none⟩), .int .i32 (n : Int), .int .u8 (b.toNat : Int)] w fun e w' => e = .returned (.int .i32 (Plain.findE (E n) b : Int)) ∧ Below w.heap.size w w' := by
  obtain ⟨g, cap, A, C, c0, c1, c2, c3⟩ := h.cells
  obtain ⟨d0, d1⟩ := c2 n hn
  have c3n := c3 n hn
  clear c1 c2 c3
  obtain ⟨l, hle⟩ : ∃ l, l = E n := ⟨_, rfl⟩
  rw [← hle] at d0 hl c3n ⊢
  obtain ⟨a, hae⟩ : ∃ a, a = A n := ⟨_, rfl⟩
  rw [← hae] at d0 c3n
  obtain ⟨cc, hce⟩ : ∃ cc, cc = C n := ⟨_, rfl⟩
  rw [← hce] at d0
  clear hle hae hce
  have hn0 : ((n : Int) == 0) = false := by
    rw [beq_eq_false_iff_ne]; omega
  have hn' : (n : Int) < (N : Int) := by omega
  go_enter Try.func32, Try.ntmps32
  go_wp2
  go_loopw [26] (fun i wr => ∃ k : Nat, k ≤ l.length ∧ i = .int .i64 k ∧ (∀ j (h : j < l.length), j < k → l[j].1 ≠ b) ∧ Below w.heap.size w wr) (fun i _ => l.length - (intOf i).toNat)
  case atStart => exact ⟨0, Nat.zero_le _, rfl, fun j _ h => absurd h (Nat.not_lt_zero _), Below.refl _ _⟩
  case round =>
    obtain ⟨k, hk, rfl, hno, hnx⟩ := hrel
    have Hno : Hid (∀ j (h : j < l.length), j < k → l[j].1 ≠ b) := hno
    clear hno
    by_cases hlt : k < l.length
    · have hlt' : (k : Int) < (l.length : Int) := by omega
      obtain ⟨q, ha, hq, hce⟩ := c3n (by omega)
      have hix := index51 ha l.length cc k hlt'
      obtain ⟨e0, e1⟩ := hce k hlt
      have hget : l.getD k (0, 0) = l[k] := by simp [hlt]
      rw [hget] at e0 e1
      have e0' := (hnx.cell (p := ⟨q, k * 2, none⟩) hq).trans e0
      have e1' := (hnx.cell (p := ⟨q, k * 2 + 1, none⟩) hq).trans e1
      obtain ⟨x, hx⟩ : ∃ x, x = l[k].1 := ⟨_, rfl⟩
      obtain ⟨m, hm⟩ : ∃ m, m = l[k].2 := ⟨_, rfl⟩
      rw [← hx] at e0'
      rw [← hm] at e1'
      have Hx : Hid (x = l[k].1) := hx
      have Hm : Hid (m = l[k].2) := hm
      clear hx hm e0 e1 hget ha hce c3n
      by_cases hxb : x = b
      · have hbe : ((x.toNat : Int) == (b.toNat : Int)) = true := by rw [byte_beq]; exact decide_eq_true hxb
        have Hf : Hid (Plain.findE l b = m) := (findE_hit hlt Hno.out (by rw [← Hx.out]; exact hxb)).trans Hm.out.symm
        clear hxb
        go_wp2
        go_ret
        exact ⟨ret_int (by rw [Hf.out]), hnx.alloc hnx.size _⟩
      · have hbe : ((x.toNat : Int) == (b.toNat : Int)) = false := by rw [byte_beq]; exact decide_eq_false hxb
        have Hno' : Hid (∀ j (h : j < l.length), j < k + 1 → l[j].1 ≠ b) := by
          intro j hj hjk
          by_cases e : j = k
          · subst e
            rw [← Hx.out]
            exact hxb
          · exact Hno.out j hj (by omega)
        clear hxb
        go_wp2
        go_roundw
        case rel => exact ⟨k + 1, by omega, by go_num, Hno'.out, hnx.alloc hnx.size _⟩
        case measure => simp [intOf]; omega
    · have Hf : Hid (Plain.findE l b = 0) := findE_miss (fun j hj => Hno.out j hj (by omega))
      go_wp2
      go_ret
      exact ⟨ret_int (by rw [Hf.out]; rfl), hnx⟩

theorem next_any {w : World} {base t : Nat} {R : Nat → Nat} {N : Nat} {E : Nat → List (UInt8 × Nat)} {Wh : Nat → Bool} (h : TrieAt w base t R N E Wh) (n : Nat) (hn : n < N) (hN : N ≤ 4097) (hl : (E n).length ≤ 4096) (b : UInt8) :
    Calls Try.prog 32 #[.pointer (some ⟨t, 0, none⟩), .int .i32 (n : Int), .int .u8 (b.toNat : Int)] w fun e w' => e = .returned (.int .i32 (nxOf R E n b : Int)) ∧ Below w.heap.size w w' := by
  by_cases h0 : n = 0
  · subst h0
    refine (next_zero h b).mono ?_
    rintro e w' ⟨rfl, rfl⟩
    exact ⟨rfl, Below.refl _ _⟩
  · have : nxOf R E n b = Plain.findE (E n) b := by simp [nxOf, h0]
    rw [this]
    exact next_pos h n (by omega) hn hN hl b

theorem trieNext_any {w : World} {base t : Nat} {R : Nat → Nat} {N : Nat} {E : Nat → List (UInt8 × Nat)} {Wh : Nat → Bool} (h : TrieAt w base t R N E Wh) (n : Nat) (hn : n < N) (hN : N ≤ 4097) (hl : (E n).length ≤ 4096) (b : UInt8) :
    Calls Try.prog 25 #[.pointer (some ⟨t, 0, none⟩), .int .i32 (n : Int), .int .u8 (b.toNat : Int)] w fun e w' => e = .returned (.int .i32 (nxOf R E n b : Int)) ∧ Below w.heap.size w w' := by
  go_enter Try.func25, Try.ntmps25
  go_wp2_with fail
  refine (next_any h n hn hN hl b).mono ?_
  rintro e w' ⟨rfl, hb⟩
  go_wp2
  go_ret
  exact ⟨rfl, hb⟩
end Go.Proofs.Qxb6617963a
