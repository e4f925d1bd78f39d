import Derived.Test.Qxb6617911aTaken
namespace Go.Proofs.Qxb6617911a
open Go.RowKit Go.Maps

theorem grown_drew {w w' : World} {row : Option Nat} (h : w.grownBy w' row) : w.grownBy w'.drew row := ⟨h.os, h.tape, h.output, h.size, h.block⟩

set_option maxRecDepth 100000 in
theorem drop_ne (B n : Nat) (m : List (Int × Int)) (b off cap : Nat) (ts : List (Int × Int)) (w : World) (hlen : ts.length ≤ 32768) (hb : b ≠ B) (hm : OwnsM w B n m)
    (hc : ∀ j (h : j < ts.length), w.cell? ⟨b, off + j * 2, none⟩ = some (.int .u64 ts[j].1) ∧ w.cell? ⟨b, off + j * 2 + 1, none⟩ = some (.int .u64 ts[j].2))
    (hw : ∀ p ∈ ts, Word p.1 ∧ Word p.2) :
    Calls Try.prog 8 #[.map (some B), .slice (some ⟨b, off, none⟩) ts.length cap] w fun e w' => e = .returned (.tuple #[]) ∧ OwnsM w' B n (Plain.taken m ts) ∧ w.grownBy w' (some B) := by
  go_enter Try.func8, Try.ntmps8
  go_wp2
  go_loopw [8] (fun i wr => ∃ k : Nat, k ≤ ts.length ∧ i = .int .i64 k ∧ OwnsM wr B n (Plain.taken m (ts.take k)) ∧ w.grownBy wr (some B))
    (fun i _ => ts.length - (intOf i).toNat)
  case atStart => exact ⟨0, Nat.zero_le _, rfl, hm, World.grownBy.refl _ _⟩
  case round =>
    obtain ⟨k, hk, rfl, hown, hnx⟩ := hrel
    by_cases hlt : k < ts.length
    · have hlt' : (k : Int) < (ts.length : Int) := by omega
      obtain ⟨c0, c1⟩ := hc k hlt
      obtain ⟨wf0, wf1⟩ := hw ts[k] (List.getElem_mem hlt)
      have hts : Hid (ts.take (k + 1) = ts.take k ++ [ts[k]]) := take_snoc ts k hlt
      have hbB : some b ≠ some B := fun e => hb (by cases e; rfl)
      have c0' : wr.cell? ⟨b, off + k * 2, none⟩ = some (.int .u64 ts[k].1) := hnx.cell c0 hbB
      have c1' : wr.cell? ⟨b, off + k * 2 + 1, none⟩ = some (.int .u64 ts[k].2) := hnx.cell c1 hbB
      clear c0 c1 hc
      obtain ⟨h, hh⟩ : ∃ h, h = ts[k].1 := ⟨_, rfl⟩
      obtain ⟨v, hv⟩ : ∃ v, v = ts[k].2 := ⟨_, rfl⟩
      rw [← hh] at c0' wf0
      rw [← hv] at c1' wf1
      have Hh : Hid (h = ts[k].1) := hh
      have Hv : Hid (v = ts[k].2) := hv
      clear hh hv
      have hl := (hown.alloc (.cells #[.int .u64 h, .int .u64 v] 37)).look Try.underlying25 wf0
      by_cases hle : (Plain.get (Plain.taken m (ts.take k)) h).getD 0 ≤ v
      · obtain ⟨w1, hrun, hown1, hg1⟩ := (hown.alloc (.cells #[.int .u64 h, .int .u64 v] 37)).drop Try.underlying25 wf0 0
        go_wp2
        go_roundw
        case rel =>
          refine ⟨k + 1, by omega, by go_num, ?_, (hnx.trans (World.grownBy_alloc _ _ _)).trans hg1⟩
          rw [hts.out, Plain.taken_snoc, Plain.step, ← Hh.out, ← Hv.out, if_pos hle]
          exact hown1
        case measure => simp [intOf]; omega
      · go_wp2
        go_roundw
        case rel =>
          refine ⟨k + 1, by omega, by go_num, ?_, hnx.trans (World.grownBy_alloc _ _ _)⟩
          rw [hts.out, Plain.taken_snoc, Plain.step, ← Hh.out, ← Hv.out, if_neg hle]
          exact hown.alloc _
        case measure => simp [intOf]; omega
    · go_wp2
      go_end0
      have : k = ts.length := by omega
      subst this
      rw [List.take_length] at hown
      exact ⟨rfl, hown, hnx⟩

set_option maxRecDepth 100000 in
theorem drop_none (B n : Nat) (m : List (Int × Int)) (a : Option Addr) (cap : Nat) (w : World) (hm : OwnsM w B n m) :
    Calls Try.prog 8 #[.map (some B), .slice a 0 cap] w fun e w' => e = .returned (.tuple #[]) ∧ OwnsM w' B n m ∧ w.grownBy w' (some B) := by
  go_enter Try.func8, Try.ntmps8
  go_wp2
  refine wp_loop_rounds 1 ?_
  rw [rounds_succ]
  go_wp2
  go_end0
  exact ⟨rfl, hm, World.grownBy.refl _ _⟩

theorem drop_any (B n : Nat) (m : List (Int × Int)) (b : Nat) (v : Value) (ts : List (Int × Int)) (w : World) (hlen : ts.length ≤ 32768) (hb : b ≠ B) (hm : OwnsM w B n m) (h : PairsAt w b v ts) :
    Calls Try.prog 8 #[.map (some B), v] w fun e w' => e = .returned (.tuple #[]) ∧ OwnsM w' B n (Plain.taken m ts) ∧ w.grownBy w' (some B) := by
  obtain ⟨h0, a, cap, rfl, hcap, h1⟩ := h
  by_cases hp : 0 < ts.length
  · obtain ⟨off, rfl, hc⟩ := h1 hp
    exact drop_ne B n m b off cap ts w hlen hb hm hc h0
  · have e : ts = [] := List.length_eq_zero_iff.1 (by omega)
    subst e
    exact drop_none B n m a cap w hm
end Go.Proofs.Qxb6617911a
