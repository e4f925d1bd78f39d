import Derived.Test.Qxb6617911aLaws
namespace Go.Proofs.Qxb6617911a
open Go.RowKit Go.Maps

set_option maxHeartbeats 1000000 in
set_option maxRecDepth 100000 in
theorem rev_main (a1 a2 : Option Addr) (c1 c2 b1 b2 : Nat) (ns ts : List (Int × Int)) (w : World) (h1 : PairsAt w b1 (.slice a1 ns.length c1) ns) (h2 : PairsAt w b2 (.slice a2 ts.length c2) ts)
    (hb : bytesOk ns.length ts.length = true) (hl1 : ns.length ≤ 32768) (hl2 : ts.length ≤ 32768) :
    Calls Try.prog 4 #[.slice a1 ns.length c1, .slice a2 ts.length c2] w fun e w' => e = .returned (.bool true) ∧ Below w.heap.size w w' := by
  have hnn := words_nonneg h2.1
  have m1 := Plain.model_whole ns ts hnn
  have m2 := Plain.model_twice ns ts hnn
  have m3 := Plain.model_rev ns ts hnn
  go_enter Try.func4, Try.ntmps4
  go_wp2_with fail
  refine (bytes_rev a1 a2 ns.length c1 ts.length c2 _ (by omega) (by omega)).mono ?_
  rintro e w0 ⟨rfl, rfl⟩
  go_wp2_with fail
  refine (named_any b1 _ ns _ hl1 h1).mono ?_
  rintro e w1 ⟨rfl, ho1, hb1⟩
  have q1 := ho1.lt
  go_wp2_with fail
  refine (named_any b1 _ ns _ hl1 (h1.below hb1)).mono ?_
  rintro e w2 ⟨rfl, ho2, hb2⟩
  have q2 := ho2.lt
  have B2 : Below w0.heap.size w0 w2 := hb1.trans (hb2.mono hb1.size)
  go_wp2_with fail
  refine (named_any b1 _ ns _ hl1 (h1.below B2)).mono ?_
  rintro e w3 ⟨rfl, ho3, hb3⟩
  have q3 := ho3.lt
  have B3 : Below w0.heap.size w0 w3 := B2.trans (hb3.mono B2.size)
  go_wp2_with fail
  refine (taken_any b2 _ ts _ hl2 (h2.below B3)).mono ?_
  rintro e w4 ⟨v4, rfl, hp4, hb4⟩
  have B4 : Below w0.heap.size w0 w4 := B3.trans (hb4.mono B3.size)
  have q4 := hb4.size
  go_wp2_with fail
  refine (rev_any w3.heap.size v4 ts _ hl2 hp4).mono ?_
  rintro e w5 ⟨v5, rfl, hp5, hb5⟩
  have B5 : Below w0.heap.size w0 w5 := B4.trans (hb5.mono B4.size)
  have t5 := hp4.below hb5
  have o1 := ((ho1.below hb2).below hb3).below hb4 |>.below hb5
  have o2 := (ho2.below hb3).below hb4 |>.below hb5
  have o3 := ho3.below hb4 |>.below hb5
  go_wp2_with fail
  refine (drop_any w0.heap.size _ _ w3.heap.size v4 ts _ hl2 (by omega) o1 t5).mono ?_
  rintro e w6 ⟨rfl, ho6, hg6⟩
  have B6 : Below w0.heap.size w0 w6 := B5.grown hg6 B5.size (fun j hj => by cases hj; omega)
  have t6 := t5.kept hg6 (by simp; omega)
  go_wp2_with fail
  refine (drop_any w1.heap.size _ _ w3.heap.size v4 ts _ hl2 (by omega) (o2.kept hg6 (by simp; omega)) t6).mono ?_
  rintro e w7 ⟨rfl, ho7, hg7⟩
  have B7 : Below w0.heap.size w0 w7 := B6.grown hg7 B6.size (fun j hj => by cases hj; omega)
  have t7 := t6.kept hg7 (by simp; omega)
  go_wp2_with fail
  refine (drop_any w1.heap.size _ _ w3.heap.size v4 ts _ hl2 (by omega) ho7 t7).mono ?_
  rintro e w8 ⟨rfl, ho8, hg8⟩
  have B8 : Below w0.heap.size w0 w8 := B7.grown hg8 B7.size (fun j hj => by cases hj; omega)
  have r8 := ((hp5.kept hg6 (by simp; omega)).kept hg7 (by simp; omega)).kept hg8 (by simp; omega)
  have o38 := ((o3.kept hg6 (by simp; omega)).kept hg7 (by simp; omega)).kept hg8 (by simp; omega)
  go_wp2_with fail
  refine (drop_any w2.heap.size _ _ w4.heap.size v5 ts.reverse _ (by simpa using hl2) (by omega) o38 r8).mono ?_
  rintro e w9 ⟨rfl, ho9, hg9⟩
  have B9 : Below w0.heap.size w0 w9 := B8.grown hg9 B8.size (fun j hj => by cases hj; omega)
  have f1 := ((ho6.kept hg7 (by simp; omega)).kept hg8 (by simp; omega)).kept hg9 (by simp; omega)
  have f2 := ho8.kept hg9 (by simp; omega)
  go_wp2_with fail
  refine (match_any w0.heap.size _ _ b1 b2 _ _ ns ts _ hl1 hl2 f1 (h1.below B9) (h2.below B9) m1).mono ?_
  rintro e w10 ⟨rfl, hb10⟩
  have B10 : Below w0.heap.size w0 w10 := B9.trans (hb10.mono B9.size)
  go_wp2_with fail
  refine (match_any w1.heap.size _ _ b1 b2 _ _ ns ts _ hl1 hl2 (f2.below hb10) (h1.below B10) (h2.below B10) m2).mono ?_
  rintro e w11 ⟨rfl, hb11⟩
  have B11 : Below w0.heap.size w0 w11 := B10.trans (hb11.mono B10.size)
  go_wp2_with fail
  refine (match_any w2.heap.size _ _ b1 b2 _ _ ns ts _ hl1 hl2 ((ho9.below hb10).below hb11) (h1.below B11) (h2.below B11) m3).mono ?_
  rintro e w12 ⟨rfl, hb12⟩
  go_wp2
  go_ret
  exact ⟨rfl, B11.trans (hb12.mono B11.size)⟩

set_option maxRecDepth 100000 in
theorem rev_law (a1 a2 : Option Addr) (c1 c2 b1 b2 : Nat) (ns ts : List (Int × Int)) (w : World) (h1 : PairsAt w b1 (.slice a1 ns.length c1) ns) (h2 : PairsAt w b2 (.slice a2 ts.length c2) ts)
    (hm1 : ns.length ≤ 9223372036854775807) (hm2 : ts.length ≤ 9223372036854775807) :
    Calls Try.prog 4 #[.slice a1 ns.length c1, .slice a2 ts.length c2] w fun e w' => e = .returned (.bool true) ∧ Below w.heap.size w w' := by
  cases hb : bytesOk ns.length ts.length with
  | false =>
    go_enter Try.func4, Try.ntmps4
    go_wp2_with fail
    refine (bytes_rev a1 a2 ns.length c1 ts.length c2 _ hm1 hm2).mono ?_
    rintro e w0 ⟨rfl, rfl⟩
    go_wp2
    go_ret
    exact ⟨rfl, Below.refl _ _⟩
  | true =>
    by_cases hl1 : ns.length ≤ 32768
    · by_cases hl2 : ts.length ≤ 32768
      · exact rev_main a1 a2 c1 c2 b1 b2 ns ts w h1 h2 hb hl1 hl2
      · go_enter Try.func4, Try.ntmps4
        go_wp2_with fail
        refine (bytes_rev a1 a2 ns.length c1 ts.length c2 _ hm1 hm2).mono ?_
        rintro e w0 ⟨rfl, rfl⟩
        go_wp2
        go_ret
        exact ⟨rfl, Below.refl _ _⟩
    · go_enter Try.func4, Try.ntmps4
      go_wp2_with fail
      refine (bytes_rev a1 a2 ns.length c1 ts.length c2 _ hm1 hm2).mono ?_
      rintro e w0 ⟨rfl, rfl⟩
      go_wp2
      go_ret
      exact ⟨rfl, Below.refl _ _⟩
end Go.Proofs.Qxb6617911a
