import Derived.Test.Qxb6617963aBytes
import Derived.Test.Qxb6617963aNext
import Derived.Test.Qxb6617963aSteps
import Derived.Deep.CutRange
import Derived.Deep.QuietTactic
import Derived.BigQuiet
import Derived.WalkSmall
namespace Go.Proofs.Qxb6617963a
open Go.RowKit
set_option linter.unusedVariables false

/-- What newTrie does: its contract, proved in another text. -/
def NewSaid : Prop := ∀ (b : Nat) (v : Value) (ts : List ByteArray) (w : World), ts.length ≤ 4096 → Plain.total (ts.map bs) ≤ 4096 → TextsAt w b v ts →
    Calls Try.prog 17 #[v] w fun e w' => e = .returned (.pointer (some ⟨w.heap.size + 1, 0, none⟩)) ∧ TrieP w' w.heap.size (w.heap.size + 1) (Plain.prefs (ts.map bs)) (ts.map bs) ∧ Below w.heap.size w w'

/-- A mark of a node against the index of its text. -/
theorem mark_eq (P S : List (List UInt8)) (n : Nat) (x : List UInt8) (hn : Plain.nm P n = x) : (!(Plain.Wh P S n) == decide (1 ≤ ((Plain.num S x : Nat) : Int))) = false := by
  have : decide (1 ≤ ((Plain.num S x : Nat) : Int)) = Plain.Wh P S n := by
    unfold Plain.Wh
    rw [hn, decide_eq_decide]
    omega
  rw [this]
  simp

set_option maxHeartbeats 2000000 in
set_option maxRecDepth 100000 in
theorem walk_any (HN : NewSaid) (b cap : Nat) (a : Option Addr) (ts : List ByteArray) (q : ByteArray) (w : World) (hl : ts.length ≤ 9223372036854775807) (hs : ∀ s ∈ ts, s.size ≤ 9223372036854775807) (hq : q.size ≤ 9223372036854775807) (h : TextsAt w b (.slice a ts.length cap) ts) :
    Calls Try.prog 7 #[.slice a ts.length cap, .string q] w fun e w' => e = .returned (.bool true) ∧ Below w.heap.size w w' := by
  have hnn := neqNil
  go_enter Try.func7, Try.ntmps7
  go_wp2_with fail
  refine (bytes24_any b _ ts q _ hl hs hq h).mono ?_
  rintro e w0 ⟨c, rfl, rfl, hsh⟩
  cases c with
  | false =>
    go_wp2
    go_ret
    exact ⟨rfl, Below.refl _ _⟩
  | true =>
    have Hsh : Hid (Short ts) := hsh rfl
    clear hsh
    by_cases hl1 : ts.length ≤ 4096
    · by_cases hq1 : q.size ≤ 4096
      · have hmk := make9 ts.length hl1
        go_upto_if 26 with fail
        go_cut [0] from 13 (fun v0 wx => ∃ bx ax cx, v0 = .slice ax ts.length cx ∧ TextsAt wx bx v0 ts ∧ Below w0.heap.size w0 wx)
        case first =>
          cases a with
          | none =>
            go_wp2
            go_meet
            case rel => exact ⟨b, none, cap, rfl, h, Below.refl _ _⟩
          | some x =>
            obtain ⟨w2, hrun, ht2, hb2⟩ := run_texts_copy w0 b (some x) cap ts h
            go_wp2
            go_meet
            case rel => exact ⟨_, _, _, rfl, ht2, hb2⟩
        case rest =>
          clear hmk hnn h
          obtain ⟨bx, ax, cx, rfl, htx, hBx⟩ := hcut
          obtain ⟨ax', off, cx', hvx, _, hax, hcx⟩ := htx.parts
          cases hvx
          go_wp2
          go_loop [6, 7] (fun z i => ∃ k z0 : Nat, k ≤ ts.length ∧ i = .int .i64 k ∧ z = .int .i64 z0 ∧ z0 ≤ 4096 ∧ Hid (z0 = Plain.total ((ts.take k).map bs))) (fun _ i => ts.length - (intOf i).toNat)
          case atStart => exact ⟨0, 0, Nat.zero_le _, rfl, rfl, by omega, rfl⟩
          case round =>
            obtain ⟨k, z, hk, rfl, rfl, hz, Hz⟩ := hrel
            by_cases hlt : k < ts.length
            · have hlt' : (k : Int) < (ts.length : Int) := by omega
              have hix := index32 (hax (by omega)) ts.length cx k hlt'
              have hcell := hcx k hlt
              have hsz := Hsh.out ts[k] (List.getElem_mem hlt)
              have Htk : Hid (Plain.total ((ts.take (k + 1)).map bs) = z + ts[k].size) := by
                show _ = _
                rw [take_map_snoc ts k hlt, Plain.total_snoc, bs_length, ← Hz.out]
              obtain ⟨y, hy⟩ : ∃ y, y = ts[k] := ⟨_, rfl⟩
              rw [← hy] at hcell hsz Htk
              clear hy hcx hax hs
              by_cases h2 : z + y.size ≤ 4096
              · go_wp2
                go_round
                case rel => exact ⟨k + 1, z + y.size, by omega, by go_num, by go_num, h2, Htk.out.symm⟩
                case measure => simp [intOf]; omega
              · go_wp2
                go_ret
                exact ⟨rfl, hBx⟩
            · have htot : Plain.total (ts.map bs) ≤ 4096 := by
                have e : k = ts.length := by omega
                have := Hz.out
                rw [e, List.take_length] at this
                omega
              clear hcx hax Hz
              go_wp2_with fail
              refine (HN bx _ ts _ hl1 htot htx).mono ?_
              rintro e w1 ⟨rfl, htr, hb1⟩
              have htx1 := htx.below hb1
              have hB1 : Below w0.heap.size w0 w1 := hBx.trans (hb1.mono hBx.size)
              clear htx hb1 hBx
              go_wp2_with fail
              refine (trieLen_any htr).mono ?_
              rintro e w1 ⟨rfl, rfl⟩
              obtain ⟨S, hS⟩ : ∃ S, S = ts.map bs := ⟨_, rfl⟩
              rw [← hS] at htr ⊢
              obtain ⟨G, HH, HM⟩ := Plain.prefs_ok S
              have hPl := Plain.length_prefs S
              obtain ⟨P, hP⟩ : ∃ P, P = Plain.prefs S := ⟨_, rfl⟩
              rw [← hP] at htr G HH HM hPl ⊢
              rw [← hS] at htot
              have HS : Hid (S = ts.map bs) := hS
              clear hP hS
              have hw0 : Calls Try.prog 21 #[.pointer (some ⟨wc.heap.size + 1, 0, none⟩), .int .i64 0] w1 fun e w' => e = .returned (.bool (Plain.Wh P S 0)) ∧ w' = w1 := trieWhole_any htr 0 (by omega)
              have hix0 := index_any bx (.slice ax ts.length cx) ts ⟨#[]⟩ w1 (by omega) htx1
              rw [← HS.out] at hix0
              have hmark := mark_eq P S 0 (bs ⟨#[]⟩) (by rw [bs_data]; rfl)
              go_wp2_with fail
              refine hw0.mono ?_
              rintro e w2 ⟨rfl, rfl⟩
              go_wp2_with fail
              refine hix0.mono ?_
              rintro e w2 ⟨rfl, rfl⟩
              clear hw0 hix0
              go_wp2
              clear hmark
              go_loopw [10, 11] (fun n i wr => ∃ j : Nat, j ≤ q.size ∧ i = .int .i64 j ∧ n = .int .i32 ((Plain.num P ((bs q).take j) : Nat) : Int) ∧ Hid ((bs q).take j = [] ∨ (bs q).take j ∈ P) ∧
                  TrieP wr wc.heap.size (wc.heap.size + 1) P S ∧ TextsAt wr bx (.slice ax ts.length cx) ts ∧ Below w0.heap.size w0 wr) (fun _ i _ => q.size - (intOf i).toNat)
              case atStart =>
                refine ⟨0, Nat.zero_le _, rfl, ?_, .inl rfl, htr, htx1, hB1⟩
                show Value.int .i32 0 = Value.int .i32 ((Plain.num P [] : Nat) : Int)
                rw [Plain.num_nil G]
                rfl
              case round =>
                clear htr htx1 hB1
                obtain ⟨j, hj, rfl, rfl, Hp, htr, htx1, hB1⟩ := hrel
                by_cases hjt : j < q.size
                · have hjt' : (j : Int) < (q.size : Int) := by omega
                  have htk : Hid ((bs q).take (j + 1) = (bs q).take j ++ [q[j]]) := by
                    show (bs q).take (j + 1) = _
                    rw [Plain.take_snoc (bs q) j (by rw [bs_length]; exact hjt), bs_at q j hjt]
                  have Hbx : Hid (bs (q.extract 0 (j + 1)) = (bs q).take (j + 1)) := bs_take q (j + 1)
                  obtain ⟨p, hp⟩ : ∃ p, p = (bs q).take j := ⟨_, rfl⟩
                  rw [← hp] at Hp htk ⊢
                  have hnle := Plain.num_le P p
                  obtain ⟨m, hm⟩ : ∃ m, m = Plain.num P (p ++ [q[j]]) := ⟨_, rfl⟩
                  have hcall := trieNext_any htr (Plain.num P p) (by omega) (by omega) (Nat.le_trans (Plain.E_le P _) (by omega)) q[j]
                  rw [nxOf_P, Plain.nx_num G Hp.out, ← hm] at hcall
                  have Hm : Hid (m = Plain.num P ((bs q).take (j + 1))) := by
                    show m = _
                    rw [htk.out]
                    exact hm
                  have hmle : m ≤ P.length := by rw [hm]; exact Plain.num_le P _
                  clear hm hp
                  go_wp2_with fail
                  refine hcall.mono ?_
                  clear hcall
                  rintro e w3 ⟨rfl, hb3⟩
                  have htr3 := htr.below hb3
                  have htx3 := htx1.below hb3
                  have hB3 : Below w0.heap.size w0 w3 := hB1.trans (hb3.mono hB1.size)
                  clear htr htx1 hB1 hb3
                  have hlive : (ts.any fun s => begins s (q.extract 0 (j + 1))) = decide (0 < m) := by
                    rw [Bool.eq_iff_iff, decide_eq_true_eq, List.any_eq_true, Hm.out, Plain.num_pos_iff, HM, HS.out]
                    have hne : (bs q).take (j + 1) ≠ [] := by
                      rw [htk.out]
                      exact fun e => absurd (List.append_eq_nil_iff.1 e).2 (by simp)
                    constructor
                    · rintro ⟨s, hs, hb⟩
                      unfold begins at hb
                      rw [Hbx.out] at hb
                      exact ⟨hne, bs s, List.mem_map_of_mem hs, of_decide_eq_true hb⟩
                    · rintro ⟨_, s', hs', hp'⟩
                      obtain ⟨s, hs, rfl⟩ := List.mem_map.1 hs'
                      refine ⟨s, hs, ?_⟩
                      unfold begins
                      rw [Hbx.out]
                      exact decide_eq_true hp'
                  have hsome := some_any bx (.slice ax ts.length cx) ts (q.extract 0 (j + 1)) w3 (by omega) (fun s hs => Nat.le_trans (Hsh.out s hs) (by omega)) (by rw [← bs_length, Hbx.out, List.length_take, bs_length]; omega) htx3
                  rw [hlive] at hsome
                  clear hlive
                  by_cases hm0 : m = 0
                  · have hd : decide (0 < m) = false := decide_eq_false (by omega)
                    have hmb : ((m : Int) == 0) = true := by simp [hm0]
                    have hmn : ((m : Int) != 0) = false := by simp [hm0]
                    rw [hd] at hsome
                    clear hd hm0
                    go_wp2_with fail
                    refine hsome.mono ?_
                    clear hsome
                    rintro e w4 ⟨rfl, rfl⟩
                    go_wp2
                    go_ret
                    exact ⟨rfl, hB3⟩
                  · have hd : decide (0 < m) = true := decide_eq_true (by omega)
                    have hmb : ((m : Int) == 0) = false := by rw [beq_eq_false_iff_ne]; omega
                    have hmn : ((m : Int) != 0) = true := by rw [bne_iff_ne]; omega
                    have hmlt : (m : Int) < (P.length : Int) + 1 := by omega
                    have hmem : (bs q).take (j + 1) ∈ P := (Plain.num_pos_iff P _).1 (by rw [← Hm.out]; omega)
                    have hnm : Plain.nm P m = bs (q.extract 0 (j + 1)) := by
                      rw [Hm.out, Hbx.out]
                      exact Plain.nm_num G (.inr hmem)
                    have Hmem : Hid ((bs q).take (j + 1) = [] ∨ (bs q).take (j + 1) ∈ P) := .inr hmem
                    have hmark := mark_eq P S m (bs (q.extract 0 (j + 1))) hnm
                    have Hwm : Hid (∀ r, Calls Try.prog 21 #[.pointer (some ⟨wc.heap.size + 1, 0, none⟩), .int .i64 (m : Int)] (w3.drewN r) fun e w' => e = .returned (.bool (Plain.Wh P S m)) ∧ w' = w3.drewN r) := fun r => trieWhole_any (htr3.below (below_drewN (Below.refl _ _) r)) m (by omega)
                    have Hix1 : Hid (∀ r, Calls Try.prog 19 #[.slice ax ts.length cx, .string (q.extract 0 (j + 1))] (w3.drewN r) fun e w' => e = .returned (.int .i64 (((Plain.num S (bs (q.extract 0 (j + 1))) : Nat) : Int) - 1)) ∧ w' = w3.drewN r) := fun r => by
                      have := index_any bx (.slice ax ts.length cx) ts (q.extract 0 (j + 1)) (w3.drewN r) (by omega) (htx3.below (below_drewN (Below.refl _ _) r))
                      rw [← HS.out] at this
                      exact this
                    rw [hd] at hsome
                    clear hd hm0 hmem hnm
                    go_wp2_with fail
                    refine hsome.mono ?_
                    clear hsome
                    rintro e w4 ⟨rfl, rfl⟩
                    go_wp2
                    go_quiet ((first | (go_at_call 21; exact Calls.quiet_of_same (Hwm.out _)) | (go_at_call 19; exact Calls.quiet_of_same (Hix1.out _))))
                    go_wp2
                    go_roundw
                    case rel =>
                      refine ⟨j + 1, by omega, by go_num, ?_, Hmem.out, htr3.below (below_drewN (Below.refl _ _) _), htx3.below (below_drewN (Below.refl _ _) _), below_drewN hB3 _⟩
                      rw [Hm.out]
                    case measure => simp [intOf]; omega
                · go_wp2
                  go_ret
                  exact ⟨rfl, hB1⟩
      · have hq1' : ¬ ((q.size : Int) ≤ 4096) := by omega
        go_wp2
        go_ret
        exact ⟨rfl, Below.refl _ _⟩
    · have hl1' : ¬ ((ts.length : Int) ≤ 4096) := by omega
      go_wp2
      go_ret
      exact ⟨rfl, Below.refl _ _⟩
end Go.Proofs.Qxb6617963a
