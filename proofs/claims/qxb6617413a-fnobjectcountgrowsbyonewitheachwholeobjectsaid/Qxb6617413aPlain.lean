namespace Go.Proofs.Qxb6617413a.Plain

/-- The count: the quotient rounded up. -/
def cnt (s o : Int) : Int := s / o + (if s % o = 0 then 0 else 1)

theorem cnt_le (s o : Int) (hs : 0 ≤ s) (ho : 1 ≤ o) : 0 ≤ cnt s o ∧ cnt s o ≤ s := by
  unfold cnt
  have h1 : 0 ≤ s / o := Int.ediv_nonneg hs (by omega)
  have h2 : o * (s / o) + s % o = s := Int.mul_ediv_add_emod s o
  have h3 : 0 ≤ s % o := Int.emod_nonneg _ (by omega)
  have h4 : s % o < o := Int.emod_lt_of_pos _ (by omega)
  have h5 : 1 * (s / o) ≤ o * (s / o) := Int.mul_le_mul_of_nonneg_right ho h1
  split <;> omega

theorem cnt_lt_iff (s o k : Int) (ho : 1 ≤ o) : k < cnt s o ↔ k * o < s := by
  unfold cnt
  have h2 : o * (s / o) + s % o = s := Int.mul_ediv_add_emod s o
  have h3 : 0 ≤ s % o := Int.emod_nonneg _ (by omega)
  have h4 : s % o < o := Int.emod_lt_of_pos _ (by omega)
  have hc : k * o = o * k := Int.mul_comm _ _
  rw [hc]
  generalize s / o = q at *
  generalize s % o = r at *
  constructor
  · intro h
    by_cases hk : k ≤ q - 1
    · have : o * k ≤ o * (q - 1) := Int.mul_le_mul_of_nonneg_left hk (by omega)
      rw [Int.mul_sub, Int.mul_one] at this
      omega
    · have hkq : k = q := by split at h <;> omega
      subst hkq
      split at h <;> omega
  · intro h
    by_cases hk : k < q
    · split <;> omega
    · have : o * q ≤ o * k := Int.mul_le_mul_of_nonneg_left (by omega) (by omega)
      by_cases hk2 : k = q
      · subst hk2; split <;> omega
      · have : o * (q + 1) ≤ o * k := Int.mul_le_mul_of_nonneg_left (by omega) (by omega)
        rw [Int.mul_add, Int.mul_one] at this
        omega

theorem cnt_add (s o : Int) (ho : 1 ≤ o) : cnt (s + o) o = cnt s o + 1 := by
  unfold cnt
  have e1 : (s + o) / o = s / o + 1 := by
    rw [Int.add_ediv_of_dvd_right (Int.dvd_refl o), Int.ediv_self (by omega)]
  have e2 : (s + o) % o = s % o := by simp
  rw [e1, e2]; omega

theorem cnt_zero_iff (s o : Int) (hs : 0 ≤ s) (ho : 1 ≤ o) : cnt s o = 0 ↔ s = 0 := by
  have h1 := cnt_lt_iff s o 0 ho
  have h2 := cnt_le s o hs ho
  simp only [Int.zero_mul] at h1
  omega

/-- The high word of the product, as the program reckons it. -/
theorem hi_eq (a b : Int) (ha : 0 ≤ a) (ha' : a < 18446744073709551616) (hb : 0 ≤ b) (hb' : b < 18446744073709551616) :
    ∃ w0 t w1 : Int, (w0 = (a % 4294967296) * (b % 4294967296) ∧ t = (a / 4294967296) * (b % 4294967296) + w0 / 4294967296 ∧ w1 = t % 4294967296 + (a % 4294967296) * (b / 4294967296)) ∧ 0 ≤ w0 ∧ w0 < 18446744073709551616 ∧
      0 ≤ (a / 4294967296) * (b % 4294967296) ∧ (a / 4294967296) * (b % 4294967296) < 18446744073709551616 ∧
      0 ≤ t ∧ t < 18446744073709551616 ∧
      0 ≤ (a % 4294967296) * (b / 4294967296) ∧ (a % 4294967296) * (b / 4294967296) < 18446744073709551616 ∧
      0 ≤ w1 ∧ w1 < 18446744073709551616 ∧
      0 ≤ (a / 4294967296) * (b / 4294967296) ∧ (a / 4294967296) * (b / 4294967296) < 18446744073709551616 ∧
      (a / 4294967296) * (b / 4294967296) + t / 4294967296 < 18446744073709551616 ∧
      (a / 4294967296) * (b / 4294967296) + t / 4294967296 + w1 / 4294967296 < 18446744073709551616 ∧
      (a / 4294967296) * (b / 4294967296) + t / 4294967296 + w1 / 4294967296 = a * b / 18446744073709551616 := by
  have hp : ∀ x y : Int, 0 ≤ x → x < 4294967296 → 0 ≤ y → y < 4294967296 → 0 ≤ x * y ∧ x * y ≤ 18446744065119617025 := by
    intro x y h1 h2 h3 h4
    refine ⟨Int.mul_nonneg h1 h3, ?_⟩
    have := Int.mul_le_mul (show x ≤ 4294967295 by omega) (show y ≤ 4294967295 by omega) h3 (by omega)
    omega
  have a0 : 0 ≤ a % 4294967296 ∧ a % 4294967296 < 4294967296 := by omega
  have a1 : 0 ≤ a / 4294967296 ∧ a / 4294967296 < 4294967296 := by omega
  have b0 : 0 ≤ b % 4294967296 ∧ b % 4294967296 < 4294967296 := by omega
  have b1 : 0 ≤ b / 4294967296 ∧ b / 4294967296 < 4294967296 := by omega
  have p00 := hp _ _ a0.1 a0.2 b0.1 b0.2
  have p10 := hp _ _ a1.1 a1.2 b0.1 b0.2
  have p01 := hp _ _ a0.1 a0.2 b1.1 b1.2
  have p11 := hp _ _ a1.1 a1.2 b1.1 b1.2
  have hab : a * b = (a / 4294967296) * (b / 4294967296) * 18446744073709551616 + ((a / 4294967296) * (b % 4294967296) + (a % 4294967296) * (b / 4294967296)) * 4294967296 + (a % 4294967296) * (b % 4294967296) := by
    have ea : a = a / 4294967296 * 4294967296 + a % 4294967296 := by omega
    have eb : b = b / 4294967296 * 4294967296 + b % 4294967296 := by omega
    generalize a / 4294967296 = x1 at *
    generalize a % 4294967296 = x0 at *
    generalize b / 4294967296 = y1 at *
    generalize b % 4294967296 = y0 at *
    subst ea eb
    simp only [Int.mul_add, Int.add_mul, Int.mul_assoc]
    rw [Int.mul_left_comm 4294967296 y1 4294967296, Int.mul_comm 4294967296 y0]
    simp only [show (4294967296 : Int) * 4294967296 = 18446744073709551616 from rfl]
    omega
  refine ⟨_, _, _, ⟨rfl, rfl, rfl⟩, ?_⟩
  rw [hab]
  generalize (a / 4294967296) * (b / 4294967296) = q11 at *
  generalize (a / 4294967296) * (b % 4294967296) = q10 at *
  generalize (a % 4294967296) * (b / 4294967296) = q01 at *
  generalize (a % 4294967296) * (b % 4294967296) = q00 at *
  clear hab hp a0 a1 b0 b1 ha ha' hb hb'
  refine ⟨by omega, by omega, by omega, by omega, by omega, by omega, by omega, by omega, by omega, by omega, by omega, by omega, by omega, by omega, by omega⟩

/-- Is the exact product at least c? -/
theorem least_iff (a b c : Int) (hc : 0 ≤ c) (hc' : c < 18446744073709551616) (hab : 0 ≤ a * b) :
    (a * b / 18446744073709551616 ≠ 0 ∨ c ≤ a * b % 18446744073709551616) ↔ c ≤ a * b := by
  generalize a * b = p at *
  omega
end Go.Proofs.Qxb6617413a.Plain
