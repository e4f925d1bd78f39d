import Derived.Test.Qxb6617911aCut
namespace Go.Proofs.Qxb6617911a
open Go.RowKit Go.Maps

theorem PairsAt.len {w : World} {b : Nat} {v : Value} {ps : List (Int × Int)} (h : PairsAt w b v ps) : ∃ a cap, v = .slice a ps.length cap := by
  obtain ⟨_, a, cap, e, _⟩ := h
  exact ⟨a, cap, e⟩
theorem words_nonneg {ps : List (Int × Int)} (h : ∀ p ∈ ps, Word p.1 ∧ Word p.2) : ∀ p ∈ ps, 0 ≤ p.2 := by
  intro p hp
  have := (h p hp).2
  simp [Word, Lit.wf, IntKind.min, IntKind.max, IntKind.signed, IntKind.bits] at this
  omega

set_option maxHeartbeats 1000000 in
set_option maxRecDepth 100000 in
theorem cut_main (a1 a2 : Option Addr) (c1 c2 b1 b2 : Nat) (ns ts : List (Int × Int)) (k : Nat) (w : World) (h1 : PairsAt w b1 (.slice a1 ns.length c1) ns) (h2 : PairsAt w b2 (.slice a2 ts.length c2) ts)
    (hb : bytesOk ns.length ts.length = true) (hl1 : ns.length ≤ 32768) (hl2 : ts.length ≤ 32768) (hk : k ≤ ts.length) :
    Calls Try.prog 3 #[.slice a1 ns.length c1, .slice a2 ts.length c2, .int .i64 (k : Int)] w fun e w' => e = .returned (.bool true) ∧ Below w.heap.size w w' := by
  have hnn := words_nonneg h2.1
  have m1 := Plain.model_whole ns ts hnn
  have m2 := Plain.model_cut ns ts k hnn
  go_enter Try.func3, Try.ntmps3
  go_wp2_with fail
  refine (bytes_cut a1 a2 ns.length c1 ts.length c2 k _ (by omega) (by omega)).mono ?_
  rintro e w0 ⟨rfl, rfl⟩
  go_wp2_with fail
  refine (named_any b1 _ ns _ hl1 h1).mono ?_
  rintro e w1 ⟨rfl, ho1, hb1⟩
  have q1 := ho1.lt
  go_wp2_with fail
  refine (named_any b1 _ ns _ hl1 (h1.below hb1)).mono ?_
  rintro e w2 ⟨rfl, ho2, hb2⟩
  have q2 := ho2.lt
  have B2 : Below w0.heap.size w0 w2 := hb1.trans (hb2.mono hb1.size)
  go_wp2_with fail
  refine (taken_any b2 _ ts _ hl2 (h2.below B2)).mono ?_
  rintro e w3 ⟨v3, rfl, hp3, hb3⟩
  have B3 : Below w0.heap.size w0 w3 := B2.trans (hb3.mono B2.size)
  go_wp2_with fail
  refine (drop_any w0.heap.size _ _ w2.heap.size v3 ts _ hl2 (by omega) ((ho1.below hb2).below hb3) hp3).mono ?_
  rintro e w4 ⟨rfl, ho4, hg4⟩
  have B4 : Below w0.heap.size w0 w4 := B3.grown hg4 B3.size (fun j hj => by cases hj; exact Nat.le_refl _)
  have hp4 := hp3.kept hg4 (by simp; omega)
  obtain ⟨vh, hrh, hph⟩ := cut_head hp4 hk
  obtain ⟨vt, hrt, hpt⟩ := cut_tail hp4 hk
  go_wp2_with fail
  refine (drop_any w1.heap.size _ _ w2.heap.size vh (ts.take k) _ (by simp; omega) (by omega) ((ho2.below hb3).kept hg4 (by simp; omega)) hph).mono ?_
  rintro e w5 ⟨rfl, ho5, hg5⟩
  have B5 : Below w0.heap.size w0 w5 := B4.grown hg5 B4.size (fun j hj => by cases hj; omega)
  go_wp2_with fail
  refine (drop_any w1.heap.size _ _ w2.heap.size vt (ts.drop k) _ (by simp; omega) (by omega) ho5 (hpt.kept hg5 (by simp; omega))).mono ?_
  rintro e w6 ⟨rfl, ho6, hg6⟩
  have B6 : Below w0.heap.size w0 w6 := B5.grown hg6 B5.size (fun j hj => by cases hj; omega)
  go_wp2_with fail
  refine (match_any w0.heap.size _ _ b1 b2 _ _ ns ts _ hl1 hl2 ((ho4.kept hg5 (by simp; omega)).kept hg6 (by simp; omega)) (h1.below B6) (h2.below B6) m1).mono ?_
  rintro e w7 ⟨rfl, hb7⟩
  have B7 : Below w0.heap.size w0 w7 := B6.trans (hb7.mono B6.size)
  go_wp2_with fail
  refine (match_any w1.heap.size _ _ b1 b2 _ _ ns ts _ hl1 hl2 (ho6.below hb7) (h1.below B7) (h2.below B7) m2).mono ?_
  rintro e w8 ⟨rfl, hb8⟩
  go_wp2
  go_ret
  exact ⟨rfl, B7.trans (hb8.mono B7.size)⟩

set_option maxRecDepth 100000 in
theorem cut_any (a1 a2 : Option Addr) (c1 c2 b1 b2 : Nat) (ns ts : List (Int × Int)) (k : Int) (w : World) (h1 : PairsAt w b1 (.slice a1 ns.length c1) ns) (h2 : PairsAt w b2 (.slice a2 ts.length c2) ts)
    (hm1 : ns.length ≤ 9223372036854775807) (hm2 : ts.length ≤ 9223372036854775807) :
    Calls Try.prog 3 #[.slice a1 ns.length c1, .slice a2 ts.length c2, .int .i64 k] w fun e w' => e = .returned (.bool true) ∧ Below w.heap.size w w' := by
  cases hb : bytesOk ns.length ts.length with
  | false =>
    go_enter Try.func3, Try.ntmps3
    go_wp2_with fail
    refine (bytes_cut a1 a2 ns.length c1 ts.length c2 k _ hm1 hm2).mono ?_
    rintro e w0 ⟨rfl, rfl⟩
    go_wp2
    go_ret
    exact ⟨rfl, Below.refl _ _⟩
  | true =>
    by_cases hl1 : ns.length ≤ 32768
    · by_cases hl2 : ts.length ≤ 32768
      · by_cases hk : 0 ≤ k ∧ k ≤ (ts.length : Int)
        · obtain ⟨n, rfl⟩ := Int.eq_ofNat_of_zero_le hk.1
          exact cut_main a1 a2 c1 c2 b1 b2 ns ts n w h1 h2 hb hl1 hl2 (by omega)
        · by_cases hk0 : k < 0
          · clear hk
            go_enter Try.func3, Try.ntmps3
            go_wp2_with fail
            refine (bytes_cut a1 a2 ns.length c1 ts.length c2 k _ hm1 hm2).mono ?_
            rintro e w0 ⟨rfl, rfl⟩
            go_wp2
            go_ret
            exact ⟨rfl, Below.refl _ _⟩
          · have hk1 : (ts.length : Int) < k := by omega
            clear hk
            go_enter Try.func3, Try.ntmps3
            go_wp2_with fail
            refine (bytes_cut a1 a2 ns.length c1 ts.length c2 k _ hm1 hm2).mono ?_
            rintro e w0 ⟨rfl, rfl⟩
            go_wp2
            go_ret
            exact ⟨rfl, Below.refl _ _⟩
      · go_enter Try.func3, Try.ntmps3
        go_wp2_with fail
        refine (bytes_cut a1 a2 ns.length c1 ts.length c2 k _ hm1 hm2).mono ?_
        rintro e w0 ⟨rfl, rfl⟩
        go_wp2
        go_ret
        exact ⟨rfl, Below.refl _ _⟩
    · go_enter Try.func3, Try.ntmps3
      go_wp2_with fail
      refine (bytes_cut a1 a2 ns.length c1 ts.length c2 k _ hm1 hm2).mono ?_
      rintro e w0 ⟨rfl, rfl⟩
      go_wp2
      go_ret
      exact ⟨rfl, Below.refl _ _⟩
end Go.Proofs.Qxb6617911a
