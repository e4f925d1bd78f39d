import Derived.Test.Qxb6617963aAppends
import Derived.Test.Qxb6617963aPrefs
import Derived.Deep.RegionLaw
import Derived.Deep.CutRange
import Derived.Deep.DeepMust
namespace Go.Proofs.Qxb6617963a
open Go.RowKit
set_option linter.unusedVariables false

theorem make53 (w : World) : (Instr.makeSlice 48 (.int .i64 1) (.int .i64 1)).run Try.prog w = .ok (.slice (some ⟨w.heap.size, 0, none⟩) 1 1) (w.alloc (.cells #[.slice none 0 0, .bool false] 53)) := by
  kernel_rfl

theorem up_facts (S : List (List UInt8)) (s : List UInt8) (j : Nat) (hj : j ≤ s.length) :
    Plain.Good (Plain.upTo (Plain.prefs S) s j) ∧ Plain.Holds (Plain.upTo (Plain.prefs S) s j) S ∧ (s.take j = [] ∨ s.take j ∈ Plain.upTo (Plain.prefs S) s j) ∧ (Plain.upTo (Plain.prefs S) s j).length ≤ Plain.total S + j := by
  obtain ⟨g, h, _⟩ := Plain.prefs_ok S
  obtain ⟨g', m, k⟩ := Plain.good_upTo g s j hj
  refine ⟨g', fun x hx hne => k x (h x hx hne), ?_, ?_⟩
  · cases j with
    | zero => exact .inl rfl
    | succ j => exact .inr (m (j + 1) (Nat.le_refl _) (by omega))
  · have h1 := Plain.length_upTo (Plain.prefs S) s j
    have h2 := Plain.length_prefs S
    omega

theorem cell_far (w : World) {g t : Nat} (h : g ≠ t) {j i : Nat} (v : Value) : (w.setCell ⟨g, j, none⟩ v).cell? ⟨t, i, none⟩ = w.cell? ⟨t, i, none⟩ :=
  World.cell?_of_block (Below.heap_setCell _ _ _ _ (Ne.symm h))

set_option maxHeartbeats 40000000 in
set_option maxRecDepth 100000 in
theorem new_at (a : Option Addr) (b off cap : Nat) (ts : List ByteArray) (w : World) (hl : ts.length ≤ 4096) (ht : Plain.total (ts.map bs) ≤ 4096) (hb : ts.length = 0 ∨ b < w.heap.size) (ha : 0 < ts.length → a = some ⟨b, off, none⟩)
    (hc : ∀ j (h : j < ts.length), w.cell? ⟨b, off + j, none⟩ = some (.string ts[j])) :
    Calls Try.prog 31 #[.slice a ts.length cap] w fun e w' => e = .returned (.pointer (some ⟨w.heap.size + 1, 0, none⟩)) ∧ TrieP w' w.heap.size (w.heap.size + 1) (Plain.prefs (ts.map bs)) (ts.map bs) ∧ Below w.heap.size w w' := by
  have hmk := make53
  have hz := zero50
  have hzs := size_zc50
  go_enter Try.func31, Try.ntmps31
  go_wp2
  go_loopw [14] (fun i wr => ∃ k : Nat, k ≤ ts.length ∧ i = .int .i64 k ∧ TrieP wr w.heap.size (w.heap.size + 1) (Plain.prefs ((ts.take k).map bs)) ((ts.take k).map bs) ∧ Below w.heap.size w wr) (fun i _ => ts.length - (intOf i).toNat)
  case atStart => exact ⟨0, Nat.zero_le _, rfl, trie_start w, ((Below.refl _ _).alloc (Nat.le_refl _) _).alloc (by simp) _⟩
  case round =>
    obtain ⟨k, hk, rfl, htr, hnx⟩ := hrel
    by_cases hlt : k < ts.length
    · have hlt' : (k : Int) < (ts.length : Int) := by omega
      have hix := index32 (ha (by omega)) ts.length cap k hlt'
      have hcx : wr.cell? ⟨b, off + k, none⟩ = some (.string ts[k]) := (hnx.cell (by show b < _; omega)).trans (hc k hlt)
      obtain ⟨s, hy⟩ : ∃ y, y = ts[k] := ⟨_, rfl⟩
      rw [← hy] at hcx
      have Htk : Hid ((ts.take (k + 1)).map bs = (ts.take k).map bs ++ [bs s]) := by
        show (ts.take (k + 1)).map bs = _
        rw [take_map_snoc ts k hlt, ← hy]
      have Htot : Plain.total ((ts.take k).map bs) + s.size ≤ 4096 := by
        have h1 := total_take (ts.map bs) (k + 1)
        rw [← List.map_take, Htk.out, Plain.total_snoc, bs_length] at h1
        omega
      obtain ⟨S, hS⟩ : ∃ S, S = (ts.take k).map bs := ⟨_, rfl⟩
      rw [← hS] at htr Htk Htot
      clear hc hy hS
      obtain ⟨wo, hwo⟩ : ∃ wo : World, wo = wr := ⟨_, rfl⟩
      subst hwo
      go_wp2
      go_loopw [6, 7] (fun n i wr => ∃ j : Nat, j ≤ s.size ∧ i = .int .i64 j ∧ n = .int .i32 ((Plain.num (Plain.upTo (Plain.prefs S) (bs s) j) ((bs s).take j) : Nat) : Int) ∧ TrieP wr w.heap.size (w.heap.size + 1) (Plain.upTo (Plain.prefs S) (bs s) j) S ∧ Below w.heap.size w wr) (fun _ i _ => s.size - (intOf i).toNat)
      case atStart =>
        refine ⟨0, Nat.zero_le _, rfl, ?_, htr, hnx⟩
        have : Plain.num (Plain.prefs S) [] = 0 := Plain.num_nil (Plain.prefs_ok S).1
        show Value.int .i32 0 = Value.int .i32 ((Plain.num (Plain.prefs S) [] : Nat) : Int)
        rw [this]
        rfl
      case round =>
        clear htr hnx
        obtain ⟨j, hj, rfl, rfl, htr, hnx⟩ := hrel
        obtain ⟨G, HH, HP, HL⟩ := up_facts S (bs s) j (by rw [bs_length]; exact hj)
        by_cases hjt : j < s.size
        · have hjt' : (j : Int) < (s.size : Int) := by omega
          have hxs : Hid (Plain.upTo (Plain.prefs S) (bs s) (j + 1) = Plain.addP (Plain.upTo (Plain.prefs S) (bs s) j) ((bs s).take j ++ [s[j]])) := by
            show Plain.addP _ _ = _
            rw [Plain.take_snoc (bs s) j (by rw [bs_length]; exact hjt), bs_at s j hjt]
          have htk : Hid ((bs s).take (j + 1) = (bs s).take j ++ [s[j]]) := by
            show (bs s).take (j + 1) = _
            rw [Plain.take_snoc (bs s) j (by rw [bs_length]; exact hjt), bs_at s j hjt]
          obtain ⟨P, hP⟩ : ∃ P, P = Plain.upTo (Plain.prefs S) (bs s) j := ⟨_, rfl⟩
          obtain ⟨p, hp⟩ : ∃ p, p = (bs s).take j := ⟨_, rfl⟩
          rw [← hP, ← hp] at hxs
          rw [← hp] at htk
          rw [← hP] at G HH HL htr
          rw [← hP, ← hp] at HP
          rw [← hP, ← hp]
          clear hP hp
          have hnle := Plain.num_le P p
          have hPl : P.length ≤ 4096 := by omega
          obtain ⟨m, hm⟩ : ∃ m, m = Plain.num P (p ++ [s[j]]) := ⟨_, rfl⟩
          have hcall := next_any htr (Plain.num P p) (by omega) (by omega) (Nat.le_trans (Plain.E_le P _) hPl) s[j]
          rw [nxOf_P, Plain.nx_num G HP, ← hm] at hcall
          have Hm : Hid (m = Plain.num P (p ++ [s[j]])) := hm
          clear hm
          by_cases hm0 : m = 0
          · have hmb : ((m : Int) == 0) = true := by simp [hm0]
            have Hm0 : Hid (m = 0) := hm0
            clear hm0
            go_wp2_with fail
            refine hcall.mono ?_
            clear hcall
            rintro e w1 ⟨rfl, hb1⟩
            have htr1 := htr.below hb1
            have hnx1 : Below w.heap.size w w1 := hnx.trans (hb1.mono hnx.size)
            clear htr hnx hb1
            obtain ⟨g, gc, A, C, hT⟩ := htr1.body
            obtain ⟨f1, f2, f3, f4, f5, f6, f7, f8⟩ := hT.fields
            clear f3 f4
            rcases HP with hp0 | hpP
            · have hn0 : ((Plain.num P p : Nat) : Int) = 0 := by rw [hp0, Plain.num_nil G]; rfl
              have hnb : (((Plain.num P p : Nat) : Int) == 0) = true := by simp [hn0]
              have Hp0 : Hid (p = []) := hp0
              clear hn0 hp0
              go_wp2_with (at_builtin; refine wp_node_append hT rfl (.tmp 42) (.tmp 44) rfl rfl rfl (by omega) ?_; intro g' cap' w2 x1 x2 hT2 hB2)
              obtain ⟨w3, hw3⟩ : ∃ w3, w3 = w2.setCell ⟨w.heap.size + 1, 256, none⟩ (.slice (some ⟨g', 0, none⟩) (P.length + 1 + 1) cap') := ⟨_, rfl⟩
              rw [← hw3] at hT2 ⊢
              have B3 : Below w.heap.size w w3 := by
                rw [hw3]
                exact (hnx1.trans hB2).setCell (by show _ ≤ w.heap.size + 1; omega) _
              clear hw3 hB2 hnx1 x1 x2 f1 f2 f5 f6 f7 f8 hT
              obtain ⟨k1, k2, k3, k4, k5, k6, k7, k8⟩ := hT2.fields
              have hbl := s[j].toNat_lt
              obtain ⟨y1, y2⟩ := k3 s[j].toNat hbl
              have hbl' : (s[j].toNat : Int) < 256 := by omega
              clear k3 k4
              go_region
              go_wp2
              go_roundw
              case rel =>
                have hx0 : Plain.num P (p ++ [s[j]]) = 0 := Hm.out.symm.trans Hm0.out
                have e1 : Plain.upTo (Plain.prefs S) (bs s) (j + 1) = P ++ [p ++ [s[j]]] := by rw [hxs.out, Plain.addP, if_pos hx0]
                refine ⟨j + 1, by omega, by go_num, ?_, ?_, (B3.setCell (by show _ ≤ w.heap.size + 1; omega) _).drew⟩
                · rw [e1, htk.out, Plain.num_snoc, if_pos hx0, if_pos rfl]
                  rfl
                · rw [e1, Hp0.out, List.nil_append]
                  rw [Hp0.out, List.nil_append] at hx0
                  exact new_root G HH hx0 (hT2.root hbl (P.length + 1)).drew
              case measure => simp [intOf]; omega
            · have hnpos := (Plain.num_pos_iff P p).2 hpP
              have hnb : (((Plain.num P p : Nat) : Int) == 0) = false := by
                rw [beq_eq_false_iff_ne]; omega
              go_wp2_with (at_builtin; refine wp_node_append hT rfl (.tmp 42) (.tmp 44) rfl rfl rfl (by omega) ?_; intro g' cap' w2 x1 x2 hT2 hB2)
              obtain ⟨w3, hw3⟩ : ∃ w3, w3 = w2.setCell ⟨w.heap.size + 1, 256, none⟩ (.slice (some ⟨g', 0, none⟩) (P.length + 1 + 1) cap') := ⟨_, rfl⟩
              rw [← hw3] at hT2 ⊢
              have B3 : Below w.heap.size w w3 := by
                rw [hw3]
                exact (hnx1.trans hB2).setCell (by show _ ≤ w.heap.size + 1; omega) _
              clear hw3 hB2 hnx1 x1 x2 f1 f2 f5 f6 f7 f8 hT
              have hElen : (if Plain.num P p = P.length + 1 then [] else Plain.E P (Plain.num P p)).length ≤ 4096 := by
                split
                · simp
                · exact Nat.le_trans (Plain.E_le P _) hPl
              obtain ⟨E', hE'⟩ : ∃ E' : Nat → List (UInt8 × Nat), E' = fun k => if k = P.length + 1 then [] else Plain.E P k := ⟨_, rfl⟩
              obtain ⟨A', hA'⟩ : ∃ A' : Nat → Option Addr, A' = fun k => if k = P.length + 1 then none else A k := ⟨_, rfl⟩
              obtain ⟨C', hC'⟩ : ∃ C' : Nat → Nat, C' = fun k => if k = P.length + 1 then 0 else C k := ⟨_, rfl⟩
              rw [← hE', ← hA', ← hC'] at hT2
              have hEn : E' (Plain.num P p) = if Plain.num P p = P.length + 1 then [] else Plain.E P (Plain.num P p) := by rw [hE']
              rw [← hEn] at hElen
              have HE' : Hid (E' = fun k => if k = P.length + 1 then [] else Plain.E P k) := hE'
              clear hE' hA' hC' hEn
              obtain ⟨k1, k2, k3, k4, k5, k6, k7, k8⟩ := hT2.fields
              obtain ⟨y1, y2, _, _⟩ := k4 (Plain.num P p) (by omega)
              obtain ⟨n, hn⟩ : ∃ n, n = Plain.num P p := ⟨_, rfl⟩
              rw [← hn] at y1 y2 hnpos hnle hElen ⊢
              have Hn : Hid (n = Plain.num P p) := hn
              clear k3 k4 hn hnb
              have hn0' : (0 : Int) ≤ (n : Int) := by omega
              have hn' : (n : Int) < ((P.length + 1 + 1 : Nat) : Int) := by omega
              have hn'' : (n : Int) < (P.length : Int) + 1 + 1 := by omega
              have hgt : g' ≠ w.heap.size + 1 := hT2.2.1
              go_cut [] from 58 to 79 (fun wx => TrieP wx w.heap.size (w.heap.size + 1) (P ++ [p ++ [s[j]]]) S ∧ Below w.heap.size w wx)
              case first =>
                have Hfin : Hid (∀ q' c' w4, TrieIs (w4.setCell ⟨g', n * 2, none⟩ (.slice (some ⟨q', 0, none⟩) ((E' n).length + 1) c')) w.heap.size (w.heap.size + 1) (fun i => Plain.R P (UInt8.ofNat i)) (P.length + 1 + 1) (fun k => if k = n then E' n ++ [(s[j], P.length + 1)] else E' k)
                    (fun k => if k = P.length + 1 then false else Plain.Wh P S k) g' cap' (fun k => if k = n then some ⟨q', 0, none⟩ else A' k) (fun k => if k = n then c' else C' k) → Below w.heap.size w3 w4 →
                    TrieP (w4.setCell ⟨g', n * 2, none⟩ (.slice (some ⟨q', 0, none⟩) ((E' n).length + 1) c')) w.heap.size (w.heap.size + 1) (P ++ [p ++ [s[j]]]) S ∧ Below w.heap.size w (w4.setCell ⟨g', n * 2, none⟩ (.slice (some ⟨q', 0, none⟩) ((E' n).length + 1) c'))) := by
                  intro q' c' w4 hT4 hB4
                  refine ⟨?_, (B3.trans hB4).setCell (by show _ ≤ g'; omega) _⟩
                  have hx0 : Plain.num P (p ++ [s[j]]) = 0 := Hm.out.symm.trans Hm0.out
                  have hE := HE'.out
                  have hn := Hn.out
                  rw [hE, hn] at hT4 ⊢
                  exact new_edge G HH hpP hx0 hT4
                have hnN : n < P.length + 1 + 1 := by omega
                have hN2 : P.length + 1 + 1 ≤ 4097 := by omega
                clear Hm Hm0 HE' Hn B3 G HH HL hpP hxs htk hmb hmk hz hzs hix hcx htr1 Htk Htot hPl hnle hnpos hlt' hk hlt hl ht hb ha hn0' k2 k7 k8
                go_region_law (first | (refine step_edge_append hT2 (n := n) hnN hN2 hElen s[j] (P.length + 1) _ rfl ⟨rfl, rfl, rfl, rfl⟩ rfl (.tmp 70) (.tmp 76) rfl rfl rfl ?_; intro q' c' w4 z1 z2 z3 hT4 hB4))
                all_goals
                  go_wp2
                  go_meet
                  case rel => exact Hfin.out _ _ _ hT4 hB4
              case rest =>
                obtain ⟨htr4, B4⟩ := hcut
                go_wp2
                go_roundw
                case rel =>
                  have hx0 : Plain.num P (p ++ [s[j]]) = 0 := Hm.out.symm.trans Hm0.out
                  have e1 : Plain.upTo (Plain.prefs S) (bs s) (j + 1) = P ++ [p ++ [s[j]]] := by rw [hxs.out, Plain.addP, if_pos hx0]
                  refine ⟨j + 1, by omega, by go_num, ?_, ?_, B4⟩
                  · rw [e1, htk.out, Plain.num_snoc, if_pos hx0, if_pos rfl]
                    rfl
                  · rw [e1]
                    exact htr4
                case measure => simp [intOf]; omega
          · have hmb : ((m : Int) == 0) = false := by
              rw [beq_eq_false_iff_ne]; omega
            go_wp2_with fail
            refine hcall.mono ?_
            clear hcall
            rintro e w1 ⟨rfl, hb1⟩
            go_wp2
            go_roundw
            case rel =>
              have e1 : Plain.upTo (Plain.prefs S) (bs s) (j + 1) = P := by rw [hxs.out, Plain.addP, if_neg (by rw [← Hm.out]; exact hm0)]
              refine ⟨j + 1, by omega, by go_num, ?_, ?_, hnx.trans (hb1.mono hnx.size)⟩
              · rw [e1, htk.out, ← Hm.out]
              · rw [e1]
                exact htr.below hb1
            case measure => simp [intOf]; omega
        · have e : j = (bs s).length := by rw [bs_length]; omega
          have Hend : Hid (Plain.upTo (Plain.prefs S) (bs s) j = Plain.prefs (S ++ [bs s])) := by
            show _ = _
            rw [Plain.prefs_snoc, ← e]
          have htake : (bs s).take j = bs s := by rw [e]; exact List.take_length
          rw [htake] at HP ⊢
          obtain ⟨P, hP⟩ : ∃ P, P = Plain.upTo (Plain.prefs S) (bs s) j := ⟨_, rfl⟩
          rw [← hP] at G HH HL HP htr Hend ⊢
          clear hP htake e
          have hnle := Plain.num_le P (bs s)
          obtain ⟨g, gc, A, C, hT⟩ := htr.body
          obtain ⟨k1, k2, k3, k4, k5, k6, k7, k8⟩ := hT.fields
          obtain ⟨_, _, y1, y2⟩ := k4 (Plain.num P (bs s)) (by omega)
          clear k3 k4
          obtain ⟨n, hn⟩ : ∃ n, n = Plain.num P (bs s) := ⟨_, rfl⟩
          rw [← hn] at y1 y2 hnle ⊢
          have Hn : Hid (n = Plain.num P (bs s)) := hn
          clear hn
          have hn0' : (0 : Int) ≤ (n : Int) := by omega
          have hn' : (n : Int) < ((P.length + 1 : Nat) : Int) := by omega
          have hn'' : (n : Int) < (P.length : Int) + 1 := by omega
          go_wp2
          go_roundw
          case rel =>
            refine ⟨k + 1, by omega, by go_num, ?_, hnx.setCell (by show _ ≤ g; omega) _⟩
            rw [Htk.out, ← Hend.out]
            refine new_whole G HP (g := g) (cap := gc) (A := A) (C := C) ?_
            have := hT.whole (n := n) (by omega)
            rw [← Hn.out]
            exact this
          case measure => simp [intOf]; omega
    · have e : k = ts.length := by omega
      rw [e, List.take_length] at htr
      clear e
      go_wp2
      go_ret
      exact ⟨rfl, htr, hnx⟩

theorem new_any (b : Nat) (v : Value) (ts : List ByteArray) (w : World) (hl : ts.length ≤ 4096) (ht : Plain.total (ts.map bs) ≤ 4096) (h : TextsAt w b v ts) :
    Calls Try.prog 31 #[v] w fun e w' => e = .returned (.pointer (some ⟨w.heap.size + 1, 0, none⟩)) ∧ TrieP w' w.heap.size (w.heap.size + 1) (Plain.prefs (ts.map bs)) (ts.map bs) ∧ Below w.heap.size w w' := by
  obtain ⟨a, off, cap, rfl, _, ha, hc⟩ := h.parts
  refine new_at a b off cap ts w hl ht ?_ ha hc
  by_cases hp : 0 < ts.length
  · exact .inr (World.block_lt_of_cell? w _ (hc 0 hp))
  · exact .inl (by omega)

theorem newTrie_any (b : Nat) (v : Value) (ts : List ByteArray) (w : World) (hl : ts.length ≤ 4096) (ht : Plain.total (ts.map bs) ≤ 4096) (h : TextsAt w b v ts) :
    Calls Try.prog 17 #[v] w fun e w' => e = .returned (.pointer (some ⟨w.heap.size + 1, 0, none⟩)) ∧ TrieP w' w.heap.size (w.heap.size + 1) (Plain.prefs (ts.map bs)) (ts.map bs) ∧ Below w.heap.size w w' := by
  go_enter Try.func17, Try.ntmps17
  go_wp2_with fail
  refine (new_any b v ts _ hl ht h).mono ?_
  rintro e w' ⟨rfl, h1, h2⟩
  go_wp2
  go_ret
  exact ⟨rfl, h1, h2⟩
end Go.Proofs.Qxb6617963a
