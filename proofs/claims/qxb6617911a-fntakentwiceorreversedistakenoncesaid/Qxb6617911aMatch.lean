import Derived.Test.Qxb6617911aNamed
import Derived.Test.Qxb6617911aPlain2
namespace Go.Proofs.Qxb6617911a
open Go.RowKit Go.Maps

theorem OwnsM.below {w w' : World} {b n : Nat} {m : List (Int × Int)} (h : OwnsM w b n m) (hb : Below w.heap.size w w') : OwnsM w' b n m := by
  have hlt := h.lt
  obtain ⟨hs, D, ⟨es, clock, h1, h2⟩, h3⟩ := h
  exact ⟨hs, D, ⟨es, clock, (hb.block b hlt).trans h1, h2⟩, h3⟩

/-- The cells of a slice of pairs. -/
def CellsAt (w : World) (b off : Nat) (ps : List (Int × Int)) : Prop :=
  ∀ j (h : j < ps.length), w.cell? ⟨b, off + j * 2, none⟩ = some (.int .u64 ps[j].1) ∧ w.cell? ⟨b, off + j * 2 + 1, none⟩ = some (.int .u64 ps[j].2)

theorem index22 {a : Option Addr} {b off : Nat} (e : a = some ⟨b, off, none⟩) (n cap k : Nat) (hk : (k : Int) < (n : Int)) (w : World) :
    (Instr.indexAt 22 (.slice a n cap) (.int .i64 (k : Int))).run Try.prog w = .ok (.pointer (some ⟨b, off + k * 2, none⟩)) w := by
  subst e
  go_simp

/-- One pair of them, under names of their own. -/
theorem pair_at {w wr : World} {b off : Nat} {ps : List (Int × Int)} (hc : CellsAt w b off ps) (hw : ∀ p ∈ ps, Word p.1 ∧ Word p.2) (hnx : Below w.heap.size w wr) {k : Nat} (hlt : k < ps.length) :
    ∃ h v, wr.cell? ⟨b, off + k * 2, none⟩ = some (.int .u64 h) ∧ wr.cell? ⟨b, off + k * 2 + 1, none⟩ = some (.int .u64 v) ∧ Word h ∧ Word v ∧ Hid ((h, v) = ps[k]) ∧ Hid (ps.take (k + 1) = ps.take k ++ [(h, v)]) := by
  obtain ⟨c0, c1⟩ := hc k hlt
  obtain ⟨wf0, wf1⟩ := hw ps[k] (List.getElem_mem hlt)
  have hb := World.block_lt_of_cell? w _ c0
  exact ⟨ps[k].1, ps[k].2, (hnx.cell (by exact hb)).trans c0, (hnx.cell (by exact hb)).trans c1, wf0, wf1, rfl, take_snoc ps k hlt⟩

set_option maxHeartbeats 1000000 in
set_option maxRecDepth 100000 in
theorem match_at (G n : Nat) (m : List (Int × Int)) (a1 a2 : Option Addr) (b1 off1 cap1 b2 off2 cap2 : Nat) (ns ts : List (Int × Int)) (w : World) (ha1 : 0 < ns.length → a1 = some ⟨b1, off1, none⟩) (ha2 : 0 < ts.length → a2 = some ⟨b2, off2, none⟩) (hl1 : ns.length ≤ 32768) (hl2 : ts.length ≤ 32768) (hm : OwnsM w G n m)
    (hc1 : CellsAt w b1 off1 ns) (hc2 : CellsAt w b2 off2 ts) (hw1 : ∀ p ∈ ns, Word p.1 ∧ Word p.2) (hw2 : ∀ p ∈ ts, Word p.1 ∧ Word p.2) (hmod : Plain.Model m ns ts) :
    Calls Try.prog 9 #[.map (some G), .slice a1 ns.length cap1, .slice a2 ts.length cap2] w fun e w' => e = .returned (.bool true) ∧ Below w.heap.size w w' := by
  have hmm := @run_makeMap Try.prog
  have hG := hm.lt
  go_enter Try.func9, Try.ntmps9
  go_wp2
  go_loopw [8] (fun i wr => ∃ k : Nat, k ≤ ns.length ∧ i = .int .i64 k ∧ OwnsM wr w.heap.size k (Plain.named (ns.take k)) ∧ Below w.heap.size w wr)
    (fun i _ => ns.length - (intOf i).toNat)
  case atStart => exact ⟨0, Nat.zero_le _, rfl, OwnsM.made _, (Below.refl _ _).alloc (Nat.le_refl _) _⟩
  case round =>
    obtain ⟨k, hk, rfl, hown, hnx⟩ := hrel
    by_cases hlt : k < ns.length
    · have hlt' : (k : Int) < (ns.length : Int) := by omega
      have hix := index22 (ha1 (by omega)) ns.length cap1 k hlt'
      obtain ⟨h, v, c0, c1, wf0, wf1, Hp, Hts⟩ := pair_at hc1 hw1 hnx hlt
      obtain ⟨w1, hrun, hown1, hg1⟩ := hown.drew.store Try.underlying24 (by unfold maxLen; omega) wf0 wf1
      go_wp2
      go_region
      go_wp2
      go_roundw
      case rel =>
        refine ⟨k + 1, by omega, by go_num, ?_, hnx.drew.grown hg1 hnx.size (fun j hj => by cases hj; exact Nat.le_refl _)⟩
        rw [Hts.out, Plain.named_snoc]
        exact hown1
      case measure => simp [intOf]; omega
    · have hkl : Hid (k = ns.length) := by have : k = ns.length := by omega
                                           exact this
      have hF : OwnsM wr w.heap.size 32768 (Plain.named ns) := by
        have := hown.mono (n' := 32768) (by omega)
        rw [hkl.out, List.take_length] at this
        exact this
      clear hown
      obtain ⟨wo, hwo⟩ : ∃ wo : World, wo = wr := ⟨_, rfl⟩
      subst hwo
      have hFlt := hF.lt
      go_wp2
      go_loopw [11] (fun i wr => ∃ k : Nat, k ≤ ts.length ∧ i = .int .i64 k ∧ (∃ mt hs, OwnsM wr wo.heap.size k mt ∧ OwnsB wr (wo.heap.size + 1) k hs ∧ Plain.Tops hs (fun x => (Plain.get mt x).getD 0) (ts.take k)) ∧
          OwnsM wr w.heap.size 32768 (Plain.named ns) ∧ Below w.heap.size w wr)
        (fun i _ => ts.length - (intOf i).toNat)
      case atStart =>
        refine ⟨0, Nat.zero_le _, rfl, ⟨[], fun _ => false, (OwnsM.made wo).alloc _, ?_, Plain.tops_start⟩, (hF.alloc _).alloc _, (hnx.alloc hnx.size _).alloc (Nat.le_trans hnx.size (by simp)) _⟩
        have := OwnsB.made (wo.alloc (.map #[] 0))
        rwa [World.size_alloc] at this
      case round =>
        clear hF hnx
        obtain ⟨k2, hk2, rfl, ⟨mt, hs, hT, hB, htop⟩, hF, hnx⟩ := hrel
        by_cases hlt2 : k2 < ts.length
        · have hlt2' : (k2 : Int) < (ts.length : Int) := by omega
          have hix := index22 (ha2 (by omega)) ts.length cap2 k2 hlt2'
          obtain ⟨h, v, c0, c1, wf0, wf1, Hp, Hts⟩ := pair_at hc2 hw2 hnx hlt2
          have hlB := hB.look wf0
          have hlT := hT.look Try.underlying24 wf0
          by_cases hx : (!hs h || decide ((Plain.get mt h).getD 0 < v)) = true
          · obtain ⟨w1, hr1, hT1, hg1⟩ := hT.store Try.underlying24 (by unfold maxLen; omega) wf0 wf1
            obtain ⟨w2, hr2, hB2, hg2⟩ := (hB.kept hg1 (by simp)).store (by unfold maxLen; omega) wf0
            have Hrel : Hid ((∃ mt hs, OwnsM w2 wo.heap.size (k2 + 1) mt ∧ OwnsB w2 (wo.heap.size + 1) (k2 + 1) hs ∧ Plain.Tops hs (fun x => (Plain.get mt x).getD 0) (ts.take (k2 + 1))) ∧ OwnsM w2 w.heap.size 32768 (Plain.named ns) ∧ Below w.heap.size w w2) := by
              refine ⟨⟨_, _, hT1.kept hg2 (by simp), hB2, ?_⟩, (hF.kept hg1 (by simp; omega)).kept hg2 (by simp; omega), (hnx.grown hg1 hnx.size (fun j hj => by cases hj; omega)).grown hg2 (Nat.le_trans hnx.size hg1.size) (fun j hj => by cases hj; omega)⟩
              rw [Hts.out]
              exact Plain.tops_put htop (h, v) hx
            cases hhs : hs h with
            | false =>
              go_wp2
              go_roundw
              case rel => exact ⟨k2 + 1, by omega, by go_num, Hrel.out⟩
              case measure => simp [intOf]; omega
            | true =>
              have hlt3 : (Plain.get mt h).getD 0 < v := by rw [hhs] at hx; simpa using hx
              go_wp2
              go_roundw
              case rel => exact ⟨k2 + 1, by omega, by go_num, Hrel.out⟩
              case measure => simp [intOf]; omega
          · have Hrel : Hid ((∃ mt hs, OwnsM wr wo.heap.size (k2 + 1) mt ∧ OwnsB wr (wo.heap.size + 1) (k2 + 1) hs ∧ Plain.Tops hs (fun x => (Plain.get mt x).getD 0) (ts.take (k2 + 1))) ∧ OwnsM wr w.heap.size 32768 (Plain.named ns) ∧ Below w.heap.size w wr) := by
              refine ⟨⟨mt, hs, hT.mono (by omega), ?_, ?_⟩, hF, hnx⟩
              · obtain ⟨D, d1, d2⟩ := hB
                exact ⟨D, d1.mono (by omega), d2⟩
              · rw [Hts.out]
                exact Plain.tops_old htop (h, v) (by simpa using hx)
            have hhs : hs h = true := by
              cases e : hs h
              · rw [e] at hx; simp at hx
              · rfl
            have hlt3 : ¬ (Plain.get mt h).getD 0 < v := by rw [hhs] at hx; simpa using hx
            clear hx
            go_wp2
            go_roundw
            case rel => exact ⟨k2 + 1, by omega, by go_num, Hrel.out⟩
            case measure => simp [intOf]; omega
        · have hkl2 : Hid (k2 = ts.length) := by have : k2 = ts.length := by omega
                                                 exact this
          have htop' : Plain.Tops hs (fun x => (Plain.get mt x).getD 0) ts := by
            rw [hkl2.out, List.take_length] at htop
            exact htop
          have hTlt := hT.lt
          have hBlt := hB.lt
          clear htop
          obtain ⟨wp, hwp⟩ : ∃ wp : World, wp = wr := ⟨_, rfl⟩
          subst hwp
          go_wp2
          go_loopw [15, 16] (fun kp i wr => ∃ k c : Nat, k ≤ ns.length ∧ i = .int .i64 k ∧ kp = .int .i64 c ∧ c ≤ k ∧ Hid (c = Plain.keep ns ts (Plain.firsts (ns.take k))) ∧ (∃ s, OwnsB wr wp.heap.size k s ∧ Plain.Seen s (Plain.firsts (ns.take k))) ∧
              OwnsM wr wo.heap.size 32768 mt ∧ OwnsB wr (wo.heap.size + 1) 32768 hs ∧ OwnsM wr w.heap.size 32768 (Plain.named ns) ∧ Below w.heap.size w wr)
            (fun _ i _ => ns.length - (intOf i).toNat)
          case atStart =>
            refine ⟨0, 0, Nat.zero_le _, rfl, rfl, Nat.le_refl _, (Plain.keep_start ns ts).symm, ⟨_, OwnsB.made wp, Plain.seen_start⟩, (hT.mono (by omega)).alloc _, ?_, hF.alloc _, hnx.alloc hnx.size _⟩
            obtain ⟨D, d1, d2⟩ := hB
            exact OwnsB.alloc ⟨D, d1.mono (by omega), d2⟩ _
          case round =>
            clear hF hnx hT hB
            obtain ⟨k3, c, hk3, rfl, rfl, hc3, Hc, ⟨s, hS, hseen⟩, hT, hB, hF, hnx⟩ := hrel
            by_cases hlt3 : k3 < ns.length
            · have hlt3' : (k3 : Int) < (ns.length : Int) := by omega
              have hix := index22 (ha1 (by omega)) ns.length cap1 k3 hlt3'
              obtain ⟨h, v0, c0, c1, wf0, wf1, Hp, Hts⟩ := pair_at hc1 hw1 hnx hlt3
              have hlS := hS.look wf0
              cases hsh : s h with
              | true =>
                have Hf : Hid (Plain.firsts (ns.take (k3 + 1)) = Plain.firsts (ns.take k3)) := by
                  have e := hseen h
                  rw [hsh] at e
                  show Plain.firsts (ns.take (k3 + 1)) = _
                  rw [Hts.out]
                  exact Plain.firsts_seen (p := (h, v0)) e.symm
                go_wp2
                go_roundw
                case rel =>
                  refine ⟨k3 + 1, c, by omega, by go_num, rfl, by omega, ?_, ?_, hT, hB, hF, hnx⟩
                  · show c = _
                    rw [Hf.out]
                    exact Hc.out
                  · rw [Hf.out]
                    obtain ⟨D, d1, d2⟩ := hS
                    exact ⟨s, ⟨D, d1.mono (by omega), d2⟩, hseen⟩
                case measure => simp [intOf]; omega
              | false =>
                obtain ⟨v, hv⟩ : ∃ v, Plain.get (Plain.named ns) h = some v := by
                  have := Plain.named_at ns k3 hlt3
                  rw [← Hp.out] at this
                  exact this
                have Hf : Hid (Plain.firsts (ns.take (k3 + 1)) = Plain.firsts (ns.take k3) ++ [h]) := by
                  have e := hseen h
                  rw [hsh] at e
                  show Plain.firsts (ns.take (k3 + 1)) = _
                  rw [Hts.out]
                  exact Plain.firsts_new (p := (h, v0)) e.symm
                have Hk : Hid (Plain.keep ns ts (Plain.firsts (ns.take (k3 + 1))) = c + (if Plain.surv ts h v then 1 else 0)) := by
                  show Plain.keep ns ts (Plain.firsts (ns.take (k3 + 1))) = _
                  rw [Hf.out, Plain.keep_snoc, ← Hc.out, hv]
                  rfl
                obtain ⟨w1, hr1, hS1, hg1⟩ := hS.store (by unfold maxLen; omega) wf0
                have hSlt := hS.lt
                have hnx1 : Below w.heap.size w w1 := hnx.grown hg1 hnx.size (fun j hj => by cases hj; omega)
                have hF1 := hF.kept hg1 (by simp; omega)
                have hB1 := hB.kept hg1 (by simp; omega)
                have hT1 := hT.kept hg1 (by simp; omega)
                have hlF : (Instr.lookup 24 (.map (some w.heap.size)) (.int .u64 h) false).run Try.prog w1 = .ok (.int .u64 v) w1 := by
                  have := hF1.look Try.underlying24 wf0
                  rw [hv] at this
                  exact this
                have hlT := hT1.look Try.underlying24 wf0
                have Hrel : Hid (∀ d : Nat, d = c + (if Plain.surv ts h v then 1 else 0) → d ≤ k3 + 1 ∧ d = Plain.keep ns ts (Plain.firsts (ns.take (k3 + 1))) ∧ (∃ s, OwnsB w1 wp.heap.size (k3 + 1) s ∧ Plain.Seen s (Plain.firsts (ns.take (k3 + 1)))) ∧
                    OwnsM w1 wo.heap.size 32768 mt ∧ OwnsB w1 (wo.heap.size + 1) 32768 hs ∧ OwnsM w1 w.heap.size 32768 (Plain.named ns) ∧ Below w.heap.size w w1) := by
                  intro d hd
                  refine ⟨?_, hd.trans Hk.out.symm, ⟨_, hS1, ?_⟩, hT1, hB1, hF1, hnx1⟩
                  · split at hd <;> omega
                  · rw [Hf.out]
                    exact Plain.seen_new hseen h
                have htp := htop' h v
                have hmr := hm.below hnx1
                cases hhs : hs h with
                | false =>
                  have hlB : (Instr.lookup 38 (.map (some (wo.heap.size + 1))) (.int .u64 h) false).run Try.prog w1 = .ok (.bool false) w1 := by
                    have := hB1.look wf0
                    rw [hhs] at this
                    exact this
                  have hsv : Plain.surv ts h v = true := by rw [← htp, hhs]; rfl
                  have hlG : (Instr.lookup 25 (.map (some G)) (.int .u64 h) true).run Try.prog w1 = .ok (.tuple #[.int .u64 v, .bool true]) w1 := by
                    have := hmr.look_ok Try.underlying25 wf0
                    rw [Plain.got_yes hmod hv hsv] at this
                    exact this
                  have Hsv : Hid (Plain.surv ts h v = true) := hsv
                  clear hsv htp hv hhs
                  go_wp2
                  go_roundw
                  case rel =>
                    obtain ⟨q1, q2, q3⟩ := Hrel.out (c + 1) (by rw [Hsv.out]; rfl)
                    exact ⟨k3 + 1, c + 1, by omega, by go_num, by go_num, q1, q2, q3⟩
                  case measure => simp [intOf]; omega
                | true =>
                  have hlB : (Instr.lookup 38 (.map (some (wo.heap.size + 1))) (.int .u64 h) false).run Try.prog w1 = .ok (.bool true) w1 := by
                    have := hB1.look wf0
                    rw [hhs] at this
                    exact this
                  obtain ⟨tp, htpv⟩ : ∃ tp, tp = (Plain.get mt h).getD 0 := ⟨_, rfl⟩
                  simp only [← htpv, hhs, Bool.not_true, Bool.false_or] at htp
                  rw [← htpv] at hlT
                  by_cases hgt : tp < v
                  · have hsv : Plain.surv ts h v = true := by rw [← htp]; simpa using hgt
                    have hlG : (Instr.lookup 25 (.map (some G)) (.int .u64 h) true).run Try.prog w1 = .ok (.tuple #[.int .u64 v, .bool true]) w1 := by
                      have := hmr.look_ok Try.underlying25 wf0
                      rw [Plain.got_yes hmod hv hsv] at this
                      exact this
                    have Hsv : Hid (Plain.surv ts h v = true) := hsv
                    clear hsv htp hv hhs htpv
                    go_wp2
                    go_roundw
                    case rel =>
                      obtain ⟨q1, q2, q3⟩ := Hrel.out (c + 1) (by rw [Hsv.out]; rfl)
                      exact ⟨k3 + 1, c + 1, by omega, by go_num, by go_num, q1, q2, q3⟩
                    case measure => simp [intOf]; omega
                  · have hsv : Plain.surv ts h v = false := by rw [← htp]; simpa using hgt
                    have hlG : (Instr.lookup 25 (.map (some G)) (.int .u64 h) true).run Try.prog w1 = .ok (.tuple #[.int .u64 0, .bool false]) w1 := by
                      have := hmr.look_ok Try.underlying25 wf0
                      rw [Plain.got_no hmod hv hsv] at this
                      exact this
                    have Hsv : Hid (Plain.surv ts h v = false) := hsv
                    clear hsv htp hv hhs htpv
                    go_wp2
                    go_roundw
                    case rel =>
                      obtain ⟨q1, q2, q3⟩ := Hrel.out c (by rw [Hsv.out]; rfl)
                      exact ⟨k3 + 1, c, by omega, by go_num, rfl, q1, q2, q3⟩
                    case measure => simp [intOf]; omega
            · have hkl3 : Hid (k3 = ns.length) := by have : k3 = ns.length := by omega
                                                     exact this
              have hcm : (m.length : Int) = (c : Int) := by
                have := Hc.out
                rw [hkl3.out, List.take_length, Plain.keep_all hmod] at this
                omega
              have hce : ((m.length : Int) == (c : Int)) = true := by simp [hcm]
              clear hcm
              have hmr := hm.below hnx
              have hln := hmr.len Try.underlying25 3
              go_wp2
              go_ret
              exact ⟨rfl, hnx⟩

theorem match_any (G n : Nat) (m : List (Int × Int)) (b1 b2 : Nat) (v1 v2 : Value) (ns ts : List (Int × Int)) (w : World) (hl1 : ns.length ≤ 32768) (hl2 : ts.length ≤ 32768) (hm : OwnsM w G n m)
    (h1 : PairsAt w b1 v1 ns) (h2 : PairsAt w b2 v2 ts) (hmod : Plain.Model m ns ts) :
    Calls Try.prog 9 #[.map (some G), v1, v2] w fun e w' => e = .returned (.bool true) ∧ Below w.heap.size w w' := by
  obtain ⟨hw1, a1, cap1, rfl, _, hc1⟩ := h1
  obtain ⟨hw2, a2, cap2, rfl, _, hc2⟩ := h2
  obtain ⟨off1, g1, k1⟩ : ∃ off1, (0 < ns.length → a1 = some ⟨b1, off1, none⟩) ∧ CellsAt w b1 off1 ns := by
    by_cases hp : 0 < ns.length
    · obtain ⟨off, e, hc⟩ := hc1 hp
      exact ⟨off, fun _ => e, hc⟩
    · exact ⟨0, fun h => absurd h hp, fun j hj => absurd hj (by omega)⟩
  obtain ⟨off2, g2, k2⟩ : ∃ off2, (0 < ts.length → a2 = some ⟨b2, off2, none⟩) ∧ CellsAt w b2 off2 ts := by
    by_cases hp : 0 < ts.length
    · obtain ⟨off, e, hc⟩ := hc2 hp
      exact ⟨off, fun _ => e, hc⟩
    · exact ⟨0, fun h => absurd h hp, fun j hj => absurd hj (by omega)⟩
  exact match_at G n m a1 a2 b1 off1 cap1 b2 off2 cap2 ns ts w g1 g2 hl1 hl2 hm k1 k2 hw1 hw2 hmod
end Go.Proofs.Qxb6617911a
