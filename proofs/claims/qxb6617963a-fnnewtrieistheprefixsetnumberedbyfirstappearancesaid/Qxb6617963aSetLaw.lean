import Derived.Test.Qxb6617963aWalkLaw
import Derived.Test.Qxb6617963aPrefs
import Derived.Laws.BytesString
import Derived.Laws.Cells
namespace Go.Proofs.Qxb6617963a
open Go.RowKit
set_option linter.unusedVariables false

theorem prefs_shape (b : Nat) (v : Value) (ts : List ByteArray) (w : World) (hl : ts.length ≤ 4096) (ht : Plain.total (ts.map bs) ≤ 4096) (h : TextsAt w b v ts) :
    Calls Try.prog 16 #[v] w fun e w' => ∃ (a : Option Addr) (cap g : Nat) (os : List ByteArray), e = .returned (.slice a os.length cap) ∧ TextsAt w' g (.slice a os.length cap) os ∧ Hid (os.map bs = Plain.prefs (ts.map bs)) ∧ Below w.heap.size w w' := by
  refine (prefs_any b v ts w hl ht h).mono ?_
  rintro e w' ⟨v', os, rfl, hout, hos, hb⟩
  obtain ⟨g, htx, _⟩ := hout.texts
  obtain ⟨a, off, cap, rfl, _⟩ := htx.parts
  exact ⟨a, cap, g, os, rfl, htx, hos, hb⟩

/-- How many of the first j texts are p and one byte more. -/
def cnt (os : List ByteArray) (p : ByteArray) (j : Nat) : Nat := (Plain.edges ((os.take j).map bs) (bs p)).length
theorem cnt_zero (os : List ByteArray) (p : ByteArray) : cnt os p 0 = 0 := rfl
theorem cnt_all (os : List ByteArray) (p : ByteArray) : cnt os p os.length = (Plain.edges (os.map bs) (bs p)).length := by
  unfold cnt
  rw [List.take_length]
theorem cnt_no {os : List ByteArray} {p : ByteArray} {j : Nat} (hj : j < os.length) (h : ¬ (os[j].size = p.size + 1 ∧ (bs os[j]).take p.size = bs p)) : cnt os p (j + 1) = cnt os p j := by
  unfold cnt
  rw [take_map_snoc os j hj, Plain.edges_snoc]
  have : Plain.ext (bs p) (bs os[j]) = none := by
    unfold Plain.ext
    rw [bs_length, bs_length, if_neg h]
  rw [this, List.append_nil]
theorem cnt_yes {os : List ByteArray} {p : ByteArray} {j : Nat} (hj : j < os.length) (h1 : os[j].size = p.size + 1) (h2 : (bs os[j]).take p.size = bs p) :
    cnt os p (j + 1) = cnt os p j + 1 ∧ cnt os p j < (Plain.edges (os.map bs) (bs p)).length ∧ (Plain.edges (os.map bs) (bs p)).getD (cnt os p j) (0, 0) = ((os[j]'hj)[p.size]'(by omega), j + 1) := by
  have he : Plain.ext (bs p) (bs os[j]) = some (os[j][p.size]'(by omega)) := by
    unfold Plain.ext
    rw [bs_length, bs_length, if_pos ⟨h1, h2⟩, List.getElem?_eq_getElem (by rw [bs_length]; omega), bs_at os[j] p.size (by omega)]
  have hs : Plain.edges ((os.take (j + 1)).map bs) (bs p) = Plain.edges ((os.take j).map bs) (bs p) ++ [(os[j][p.size]'(by omega), j + 1)] := by
    rw [take_map_snoc os j hj, Plain.edges_snoc, he]
    simp
    omega
  obtain ⟨r, hr⟩ := Plain.edges_prefix (os.map bs) (j + 1) (bs p)
  rw [← List.map_take, hs] at hr
  unfold cnt
  rw [hs, hr]
  refine ⟨by simp, by simp, ?_⟩
  simp
theorem cnt_le (os : List ByteArray) (p : ByteArray) (j : Nat) : cnt os p j ≤ j := by
  have h := Plain.edges_le ((os.take j).map bs) (bs p)
  have : ((os.take j).map bs).length ≤ j := by
    rw [List.length_map, List.length_take]
    omega
  exact Nat.le_trans h this

/-- string([]byte{b}) at the row just laid. -/
theorem conv_byte (w : World) (n : Nat) : (convert 27 9 (.slice (some ⟨w.heap.size, 0, none⟩) 1 1)).run Try.prog (w.alloc (.cells #[.int .u8 (n : Int)] 5)) =
    .ok (.string ⟨#[UInt8.ofNat n]⟩) (w.alloc (.cells #[.int .u8 (n : Int)] 5)) := by
  rw [run_convert_bytes_string _ 27 9 5 _ 1 1 Try.underlying27 Try.underlying5 Try.underlying9]
  refine run_bytesToString _ _ 1 1 [(n : Int)] ?_
  refine run_loadCells_list _ _ [Value.int .u8 (n : Int)] ?_
  intro j v hj
  cases j with
  | zero =>
    cases hj
    go_simp
  | succ j => cases hj

set_option maxHeartbeats 2000000 in
set_option maxRecDepth 100000 in
theorem set_any (HN : NewSaid) (b cap : Nat) (a : Option Addr) (ts : List ByteArray) (w : World) (hl : ts.length ≤ 9223372036854775807) (hs : ∀ s ∈ ts, s.size ≤ 9223372036854775807) (h : TextsAt w b (.slice a ts.length cap) ts) :
    Calls Try.prog 6 #[.slice a ts.length cap] w fun e w' => e = .returned (.bool true) ∧ Below w.heap.size w w' := by
  have hnn := neqNil
  go_enter Try.func6, Try.ntmps6
  go_wp2_with fail
  refine (bytes15_any b _ ts _ hl hs h).mono ?_
  rintro e w0 ⟨c, rfl, rfl, hsh⟩
  cases c with
  | false =>
    go_wp2
    go_ret
    exact ⟨rfl, Below.refl _ _⟩
  | true =>
    have Hsh : Hid (Short ts) := hsh rfl
    clear hsh
    by_cases hl1 : ts.length ≤ 4096
    · have hmk := make9 ts.length hl1
      go_upto_if 26 with fail
      go_cut [0] from 19 (fun v0 wx => ∃ bx ax cx, v0 = .slice ax ts.length cx ∧ TextsAt wx bx v0 ts ∧ Below w0.heap.size w0 wx)
      case first =>
        cases a with
        | none =>
          go_wp2
          go_meet
          case rel => exact ⟨b, none, cap, rfl, h, Below.refl _ _⟩
        | some x =>
          obtain ⟨w2, hrun, ht2, hb2⟩ := run_texts_copy w0 b (some x) cap ts h
          go_wp2
          go_meet
          case rel => exact ⟨_, _, _, rfl, ht2, hb2⟩
      case rest =>
        clear hmk hnn h
        obtain ⟨bx, ax, cx, rfl, htx, hBx⟩ := hcut
        obtain ⟨ax', off, cx', hvx, _, hax, hcx⟩ := htx.parts
        cases hvx
        go_wp2
        go_loop [4, 5] (fun z i => ∃ k z0 : Nat, k ≤ ts.length ∧ i = .int .i64 k ∧ z = .int .i64 z0 ∧ z0 ≤ 4096 ∧ Hid (z0 = Plain.total ((ts.take k).map bs))) (fun _ i => ts.length - (intOf i).toNat)
        case atStart => exact ⟨0, 0, Nat.zero_le _, rfl, rfl, by omega, rfl⟩
        case round =>
          obtain ⟨k, z, hk, rfl, rfl, hz, Hz⟩ := hrel
          by_cases hlt : k < ts.length
          · have hlt' : (k : Int) < (ts.length : Int) := by omega
            have hix := index32 (hax (by omega)) ts.length cx k hlt'
            have hcell := hcx k hlt
            have hsz := Hsh.out ts[k] (List.getElem_mem hlt)
            have Htk : Hid (Plain.total ((ts.take (k + 1)).map bs) = z + ts[k].size) := by
              show _ = _
              rw [take_map_snoc ts k hlt, Plain.total_snoc, bs_length, ← Hz.out]
            obtain ⟨y, hy⟩ : ∃ y, y = ts[k] := ⟨_, rfl⟩
            rw [← hy] at hcell hsz Htk
            clear hy hcx hax hs
            by_cases h2 : z + y.size ≤ 4096
            · go_wp2
              go_round
              case rel => exact ⟨k + 1, z + y.size, by omega, by go_num, by go_num, h2, Htk.out.symm⟩
              case measure => simp [intOf]; omega
            · go_wp2
              go_ret
              exact ⟨rfl, hBx⟩
          · have htot : Plain.total (ts.map bs) ≤ 4096 := by
              have e : k = ts.length := by omega
              have := Hz.out
              rw [e, List.take_length] at this
              omega
            clear hcx hax Hz
            go_wp2_with fail
            refine (prefs_shape bx _ ts _ hl1 htot htx).mono ?_
            rintro e w1 ⟨ap, cp, gp, os, rfl, hto1, Hos, hb1⟩
            have htx1 := htx.below hb1
            have hB1 : Below w0.heap.size w0 w1 := hBx.trans (hb1.mono hBx.size)
            clear htx hb1 hBx
            go_wp2_with fail
            refine (HN bx _ ts _ hl1 htot htx1).mono ?_
            rintro e w2 ⟨rfl, htr, hb2⟩
            have htx2 := htx1.below hb2
            have hto2 := hto1.below hb2
            have hB2 : Below w0.heap.size w0 w2 := hB1.trans (hb2.mono hB1.size)
            clear htx1 hto1 hb2 hB1
            obtain ⟨S, hS⟩ : ∃ S, S = ts.map bs := ⟨_, rfl⟩
            rw [← hS] at htr Hos htot
            obtain ⟨G, HH, HM⟩ := Plain.prefs_ok S
            have hPl := Plain.length_prefs S
            rw [← Hos.out] at htr G HH HM hPl
            have hol : os.length ≤ 4096 := by
              have : (os.map bs).length = os.length := by simp
              omega
            have HS : Hid (S = ts.map bs) := hS
            have Hsz : Hid (∀ s ∈ os, s.size ≤ 1048576) := by
              intro s hso
              obtain ⟨_, x, hx, hp⟩ := (HM (bs s)).1 (List.mem_map_of_mem hso)
              rw [hS] at hx
              obtain ⟨y, hy, rfl⟩ := List.mem_map.1 hx
              have h1 := hp.length_le
              rw [bs_length, bs_length] at h1
              exact Nat.le_trans h1 (Hsh.out y hy)
            have hlen : Calls Try.prog 18 #[.pointer (some ⟨w1.heap.size + 1, 0, none⟩)] w2 fun e w' => e = .returned (.int .i64 ((os.length : Int) + 1)) ∧ w' = w2 := by
              have := trieLen_any htr
              rw [List.length_map] at this
              exact this
            clear hS HH HM hPl
            obtain ⟨t, ht⟩ : ∃ t, t = w1.heap.size + 1 := ⟨_, rfl⟩
            obtain ⟨base, hbase⟩ : ∃ base, base = w1.heap.size := ⟨_, rfl⟩
            rw [← ht] at htr hlen ⊢
            rw [← hbase] at htr
            clear ht hbase
            go_wp2_with fail
            refine hlen.mono ?_
            clear hlen
            rintro e w3 ⟨rfl, rfl⟩
            go_wp2
            go_loopw [8] (fun i wr => ∃ k : Nat, k ≤ 256 ∧ i = .int .i64 k ∧ TrieP wr base t (os.map bs) S ∧ TextsAt wr bx (.slice ax ts.length cx) ts ∧ TextsAt wr gp (.slice ap os.length cp) os ∧ Below w0.heap.size w0 wr) (fun i _ => 256 - (intOf i).toNat)
            case atStart => exact ⟨0, by omega, rfl, htr, htx2, hto2, hB2⟩
            case round =>
              clear htr htx2 hto2 hB2
              obtain ⟨k2, hk2, rfl, htr, htx2, hto2, hB2⟩ := hrel
              by_cases hlt2 : k2 < 256
              · have hlt2' : (k2 : Int) < 256 := by omega
                have hconv := conv_byte wr k2
                obtain ⟨W, hW⟩ : ∃ W, W = wr.alloc (.cells #[.int .u8 (k2 : Int)] 5) := ⟨_, rfl⟩
                have hbW : Below wr.heap.size wr W := by
                  rw [hW]
                  exact (Below.refl _ _).alloc (Nat.le_refl _) _
                have htrW := htr.below hbW
                have htxW := htx2.below hbW
                have htoW := hto2.below hbW
                have hBW : Below w0.heap.size w0 W := hB2.trans (hbW.mono hB2.size)
                have hix := index_any gp (.slice ap os.length cp) os ⟨#[UInt8.ofNat k2]⟩ W (by omega) htoW
                have hb1 : bs ⟨#[UInt8.ofNat k2]⟩ = [UInt8.ofNat k2] := by rw [bs_data]
                rw [hb1] at hix
                have hroot : Calls Try.prog 20 #[.pointer (some ⟨t, 0, none⟩), .int .u8 (k2 : Int)] W fun e w' => e = .returned (.int .i32 ((Plain.num (os.map bs) [UInt8.ofNat k2] : Nat) : Int)) ∧ w' = W := trieRoot_any htrW k2 hlt2
                obtain ⟨n, hn⟩ : ∃ n, n = Plain.num (os.map bs) [UInt8.ofNat k2] := ⟨_, rfl⟩
                have hnle : n ≤ 4096 := by
                  have h1 := Plain.num_le (os.map bs) [UInt8.ofNat k2]
                  rw [List.length_map] at h1
                  omega
                rw [← hn] at hix hroot
                clear hn htr htx2 hto2 hB2 hbW hb1
                go_wp2_with fail
                rw [← hW]
                refine hix.mono ?_
                clear hconv hW hix
                rintro e w5 ⟨rfl, rfl⟩
                go_wp2_with fail
                refine hroot.mono ?_
                clear hroot
                rintro e w5 ⟨rfl, rfl⟩
                go_wp2
                go_roundw
                case rel => exact ⟨k2 + 1, by omega, by go_num, htrW, htxW, htoW, hBW⟩
                case measure => simp [intOf]; omega
              · have hw0 : Calls Try.prog 21 #[.pointer (some ⟨t, 0, none⟩), .int .i64 0] wr fun e w' => e = .returned (.bool (Plain.Wh (os.map bs) S 0)) ∧ w' = wr := trieWhole_any htr 0 (by omega)
                have hc0 : Calls Try.prog 22 #[.pointer (some ⟨t, 0, none⟩), .int .i64 0] wr fun e w' => e = .returned (.int .i64 0) ∧ w' = wr := trieCount_any htr 0 (by omega)
                have hix0 := index_any bx (.slice ax ts.length cx) ts ⟨#[]⟩ wr (by omega) htx2
                rw [← HS.out] at hix0
                have hmark := mark_eq (os.map bs) S 0 (bs ⟨#[]⟩) (by rw [bs_data]; rfl)
                go_wp2_with fail
                refine hw0.mono ?_
                rintro e w4 ⟨rfl, rfl⟩
                go_wp2_with fail
                refine hix0.mono ?_
                rintro e w4 ⟨rfl, rfl⟩
                clear hw0 hix0
                go_wp2_with fail
                refine hc0.mono ?_
                rintro e w4 ⟨rfl, rfl⟩
                clear hc0 hmark
                go_wp2
                go_loopw [10] (fun i wr => ∃ k : Nat, k ≤ os.length ∧ i = .int .i64 k ∧ TrieP wr base t (os.map bs) S ∧ TextsAt wr bx (.slice ax ts.length cx) ts ∧ TextsAt wr gp (.slice ap os.length cp) os ∧ Below w0.heap.size w0 wr) (fun i _ => os.length - (intOf i).toNat)
                case atStart => exact ⟨0, Nat.zero_le _, rfl, htr, htx2, hto2, hB2⟩
                case round =>
                  clear htr htx2 hto2 hB2
                  obtain ⟨k3, hk3, rfl, htr, htx2, hto2, hB2⟩ := hrel
                  by_cases hlt3 : k3 < os.length
                  · have hlt3' : (k3 : Int) < (os.length : Int) := by omega
                    obtain ⟨ap', off3, cp', hvp, _, hap, hcp⟩ := hto2.parts
                    cases hvp
                    have hix3 := index32 (hap (by omega)) os.length cp k3 hlt3'
                    have hcell := hcp k3 hlt3
                    have hpsz := Hsz.out os[k3] (List.getElem_mem hlt3)
                    have hnm : Plain.nm (os.map bs) (k3 + 1) = bs os[k3] := by
                      rw [Plain.nm_succ (os.map bs) k3 (by rw [List.length_map]; exact hlt3), List.getElem_map]
                    have hN : k3 + 1 < (os.map bs).length + 1 := by
                      rw [List.length_map]
                      omega
                    obtain ⟨p, hp⟩ : ∃ p, p = os[k3] := ⟨_, rfl⟩
                    rw [← hp] at hcell hpsz hnm
                    have hwk : Calls Try.prog 21 #[.pointer (some ⟨t, 0, none⟩), .int .i64 ((k3 : Int) + 1)] wr fun e w' => e = .returned (.bool (Plain.Wh (os.map bs) S (k3 + 1))) ∧ w' = wr := trieWhole_any htr (k3 + 1) hN
                    have hE : Plain.E (os.map bs) (k3 + 1) = Plain.edges (os.map bs) (bs p) := by
                      unfold Plain.E
                      rw [if_neg (by omega), hnm]
                    have hck : Calls Try.prog 22 #[.pointer (some ⟨t, 0, none⟩), .int .i64 ((k3 : Int) + 1)] wr fun e w' => e = .returned (.int .i64 ((cnt os p os.length : Nat) : Int)) ∧ w' = wr := by
                      have h1 := trieCount_any htr (k3 + 1) hN
                      rw [hE, ← cnt_all] at h1
                      exact h1
                    have hix := index_any bx (.slice ax ts.length cx) ts p wr (by omega) htx2
                    rw [← HS.out] at hix
                    have hmark := mark_eq (os.map bs) S (k3 + 1) (bs p) hnm
                    have HE : Hid (Plain.E (os.map bs) (k3 + 1) = Plain.edges (os.map bs) (bs p)) := hE
                    have HNk : Hid (k3 + 1 < (os.map bs).length + 1) := hN
                    have hcle := cnt_le os p os.length
                    clear hp hnm hE hN hap hcp
                    go_wp2_with fail
                    refine hwk.mono ?_
                    rintro e w4 ⟨rfl, rfl⟩
                    clear hwk
                    go_wp2_with fail
                    refine hix.mono ?_
                    rintro e w4 ⟨rfl, rfl⟩
                    clear hix
                    go_wp2_with fail
                    refine hck.mono ?_
                    rintro e w4 ⟨rfl, rfl⟩
                    clear hck hmark hix3 hcell
                    go_wp2
                    go_loopw [14, 15] (fun sv jv wr => ∃ j : Nat, j ≤ os.length ∧ jv = .int .i64 j ∧ sv = .int .i64 ((cnt os p j : Nat) : Int) ∧ TrieP wr base t (os.map bs) S ∧ TextsAt wr bx (.slice ax ts.length cx) ts ∧ TextsAt wr gp (.slice ap os.length cp) os ∧ Below w0.heap.size w0 wr) (fun _ jv _ => os.length - (intOf jv).toNat)
                    case atStart => exact ⟨0, Nat.zero_le _, rfl, rfl, htr, htx2, hto2, hB2⟩
                    case round =>
                      clear htr htx2 hto2 hB2
                      obtain ⟨j, hj, rfl, rfl, htr, htx2, hto2, hB2⟩ := hrel
                      by_cases hltj : j < os.length
                      · have hltj' : (j : Int) < (os.length : Int) := by omega
                        obtain ⟨ap', off4, cp', hvp, _, hap, hcp⟩ := hto2.parts
                        cases hvp
                        have hix3 := index32 (hap (by omega)) os.length cp j hltj'
                        have hcell := hcp j hltj
                        have hqsz := Hsz.out os[j] (List.getElem_mem hltj)
                        have Hno : Hid (¬ (os[j].size = p.size + 1 ∧ (bs os[j]).take p.size = bs p) → cnt os p (j + 1) = cnt os p j) := cnt_no hltj
                        have hjle := cnt_le os p j
                        by_cases h1 : os[j].size = p.size + 1
                        · by_cases h2 : (bs os[j]).take p.size = bs p
                          · obtain ⟨hc1, hc2, hc3⟩ := cnt_yes hltj h1 h2
                            have hcall := trieEdge_any htr (k3 + 1) HNk.out (cnt os p j) (by rw [HE.out]; exact hc2)
                            rw [HE.out, hc3] at hcall
                            rw [← cnt_all] at hc2
                            have hcmp : ((os[j].extract 0 p.size).toList == p.toList) = true := by
                              rw [bs_eq, bs_take]
                              exact decide_eq_true h2
                            have h1b : ((os[j].size : Int) == (p.size : Int) + 1) = true := by
                              rw [beq_iff_eq]
                              omega
                            have hps : p.size < os[j].size := by omega
                            have hcall' : Calls Try.prog 23 #[.pointer (some ⟨t, 0, none⟩), .int .i64 ((k3 : Int) + 1), .int .i64 ((cnt os p j : Nat) : Int)] wr fun e w' => e = .returned (.tuple #[.int .u8 (os[j][p.size].toNat : Int), .int .i32 ((j : Int) + 1)]) ∧ ∃ q, w' = wr.drewN q := hcall
                            clear hcall hc3 h2 Hno hap hcp
                            obtain ⟨n, hn⟩ : ∃ n, n = cnt os p j := ⟨_, rfl⟩
                            have Hc1 : Hid (cnt os p (j + 1) = n + 1) := by
                              rw [hn]
                              exact hc1
                            clear hc1
                            rw [← hn] at hcall' hc2 hjle ⊢
                            clear hn
                            obtain ⟨q, hq⟩ : ∃ q, q = os[j] := ⟨_, rfl⟩
                            have hqs : q.size = p.size + 1 := by rw [hq]; exact h1
                            have hps : p.size < q.size := by omega
                            have hcall2 : Calls Try.prog 23 #[.pointer (some ⟨t, 0, none⟩), .int .i64 ((k3 : Int) + 1), .int .i64 (n : Int)] wr fun e w' => e = .returned (.tuple #[.int .u8 (q[p.size].toNat : Int), .int .i32 ((j : Int) + 1)]) ∧ ∃ q, w' = wr.drewN q := by
                              subst hq
                              exact hcall'
                            clear hcall'
                            rw [← hq] at hcell hqsz hcmp h1b
                            clear hq h1
                            have hc2' : (n : Int) < ((cnt os p os.length : Nat) : Int) := by omega
                            go_wp2_with fail
                            refine hcall2.mono ?_
                            clear hcall2
                            rintro e w5 ⟨rfl, r5, rfl⟩
                            go_wp2
                            go_roundw
                            case rel =>
                              refine ⟨j + 1, by omega, by go_num, ?_, htr.below (below_drewN (Below.refl _ _) _), htx2.below (below_drewN (Below.refl _ _) _), hto2.below (below_drewN (Below.refl _ _) _), below_drewN hB2 _⟩
                              rw [Hc1.out]
                              go_num
                            case measure => simp [intOf]; omega
                          · have hcmp : ((os[j].extract 0 p.size).toList == p.toList) = false := by
                              rw [bs_eq, bs_take]
                              exact decide_eq_false h2
                            have h1b : ((os[j].size : Int) == (p.size : Int) + 1) = true := by
                              rw [beq_iff_eq]
                              omega
                            have Hn : Hid (cnt os p (j + 1) = cnt os p j) := Hno.out (fun h => h2 h.2)
                            clear Hno h2 hap hcp
                            obtain ⟨q, hq⟩ : ∃ q, q = os[j] := ⟨_, rfl⟩
                            rw [← hq] at hcell hqsz hcmp h1b h1
                            clear hq
                            go_wp2
                            go_roundw
                            case rel =>
                              refine ⟨j + 1, by omega, by go_num, ?_, htr, htx2, hto2, hB2⟩
                              rw [Hn.out]
                            case measure => simp [intOf]; omega
                        · have h1b : ((os[j].size : Int) == (p.size : Int) + 1) = false := by
                            rw [beq_eq_false_iff_ne]
                            omega
                          have Hn : Hid (cnt os p (j + 1) = cnt os p j) := Hno.out (fun h => h1 h.1)
                          clear Hno hap hcp
                          obtain ⟨q, hq⟩ : ∃ q, q = os[j] := ⟨_, rfl⟩
                          rw [← hq] at hcell hqsz h1b h1
                          clear hq
                          go_wp2
                          go_roundw
                          case rel =>
                            refine ⟨j + 1, by omega, by go_num, ?_, htr, htx2, hto2, hB2⟩
                            rw [Hn.out]
                          case measure => simp [intOf]; omega
                      · have e : j = os.length := by omega
                        rw [e]
                        clear e
                        go_wp2
                        go_roundw
                        case rel => exact ⟨k3 + 1, by omega, by go_num, htr, htx2, hto2, hB2⟩
                        case measure => simp [intOf]; omega
                  · go_wp2
                    go_ret
                    exact ⟨rfl, hB2⟩
    · have hl1' : ¬ ((ts.length : Int) ≤ 4096) := by omega
      go_wp2
      go_ret
      exact ⟨rfl, Below.refl _ _⟩
end Go.Proofs.Qxb6617963a
