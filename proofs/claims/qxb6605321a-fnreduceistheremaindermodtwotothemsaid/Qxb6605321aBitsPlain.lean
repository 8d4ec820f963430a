/-
  PLAIN FACTS on words, remainders and bits: no Go in sight.
-/
import Derived.Test.Qxb6605321aReduce
namespace Go.Proofs.Qxb6605321a.Reduce

theorem mod_bit_nat (x a i : Nat) : x % 2 ^ a / 2 ^ i % 2 = if i < a then x / 2 ^ i % 2 else 0 := by
  have h := Nat.testBit_mod_two_pow x a i
  rw [Nat.testBit_eq_decide_div_mod_eq, Nat.testBit_eq_decide_div_mod_eq] at h
  by_cases c : i < a
  · simp only [c, decide_true, Bool.true_and, if_true] at h ⊢
    have h2 : (x % 2 ^ a / 2 ^ i % 2 = 1) ↔ (x / 2 ^ i % 2 = 1) := by simpa using h
    omega
  · simp only [c, decide_false, Bool.false_and, if_false] at h ⊢
    have h2 : ¬ (x % 2 ^ a / 2 ^ i % 2 = 1) := by simpa using h
    omega

theorem mod_bit (x : Int) (a i : Nat) (h0 : 0 ≤ x) : x % 2 ^ a / 2 ^ i % 2 = if i < a then x / 2 ^ i % 2 else 0 := by
  obtain ⟨y, rfl⟩ := Int.eq_ofNat_of_zero_le h0
  have h := mod_bit_nat y a i
  rw [← pow_int a, ← pow_int i]
  by_cases c : i < a
  · simp only [c, if_true] at h ⊢
    rw [← Int.natCast_emod, ← Int.natCast_ediv, ← Int.natCast_ediv]; omega
  · simp only [c, if_false] at h ⊢
    rw [← Int.natCast_emod, ← Int.natCast_ediv]; omega

theorem sub_bit (x : Int) (a i : Nat) (hi : i < a) : (x - x % 2 ^ a) / 2 ^ i % 2 = 0 := by
  have e : x - x % 2 ^ a = 2 ^ a * (x / 2 ^ a) := by have := Int.emod_add_mul_ediv x (2 ^ a); omega
  obtain ⟨d, rfl⟩ : ∃ d, a = i + (d + 1) := ⟨a - i - 1, by omega⟩
  rw [e, Int.pow_add 2 i (d + 1)]
  generalize x / (2 ^ i * 2 ^ (d + 1)) = q
  rw [Int.mul_assoc, Int.mul_ediv_cancel_left _ (by have : (0 : Int) < 2 ^ i := Int.pow_pos (by decide); omega), Int.pow_succ]
  rw [Int.mul_comm ((2 : Int) ^ d) 2, Int.mul_assoc]
  exact Int.mul_emod_right _ _

theorem mod_small (x : Int) (a : Nat) (h0 : 0 ≤ x) : 0 ≤ x % 2 ^ a ∧ x % 2 ^ a ≤ x := by
  have hp : (0 : Int) < 2 ^ a := Int.pow_pos (by decide)
  refine ⟨Int.emod_nonneg _ (by omega), ?_⟩
  have e := Int.emod_add_mul_ediv x (2 ^ a)
  have hq : 0 ≤ x / 2 ^ a := Int.ediv_nonneg h0 (by omega)
  have := Int.mul_nonneg (Int.le_of_lt hp) hq
  omega

theorem div_one_bit (x : Int) (n i : Nat) (h0 : 0 ≤ x) (hx : x < 2 ^ n) (hi : n ≤ i) : x / 2 ^ i % 2 = 0 := by
  have hle : (2 : Int) ^ n ≤ 2 ^ i := by
    have : (2 : Nat) ^ n ≤ 2 ^ i := Nat.pow_le_pow_right (by omega) hi
    rw [← pow_int n, ← pow_int i]; omega
  rw [Int.ediv_eq_zero_of_lt h0 (by omega)]; rfl

theorem rH_bd (u : Nat) (x : Int) (h0 : 0 ≤ x) : 0 ≤ rH u x ∧ rH u x ≤ x := by
  unfold rH; split
  · exact mod_small x _ h0
  · exact ⟨Int.le_refl _, h0⟩
theorem rM_bd (u : Nat) (x : Int) (h0 : 0 ≤ x) : 0 ≤ rM u x ∧ rM u x ≤ x := by
  unfold rM; split
  · exact ⟨h0, Int.le_refl _⟩
  · split
    · exact mod_small x _ h0
    · exact ⟨Int.le_refl _, h0⟩
theorem rL_bd (u : Nat) (x : Int) (h0 : 0 ≤ x) : 0 ≤ rL u x ∧ rL u x ≤ x := by
  unfold rL; split
  · exact ⟨h0, Int.le_refl _⟩
  · exact mod_small x _ h0

/-- reduce keeps the bits below m = 160 - u and clears the others. -/
theorem keeps (u : Nat) (hi mid low : Int) (hu : u < 160) (a0 : 0 ≤ hi) (b0 : 0 ≤ mid) (h0 : 0 ≤ low) (i : Nat) (h160 : i < 160) :
    bit (rH u hi) (rM u mid) (rL u low) i = if i < 160 - u then bit hi mid low i else 0 := by
  unfold bit rH rM rL
  by_cases c1 : i < 64
  · simp only [c1, if_true]
    by_cases c2 : u ≤ 96
    · simp only [c2, if_true, show i < 160 - u from by omega]
    · simp only [c2, if_false]
      exact mod_bit low _ i h0
  · by_cases c2 : i < 128
    · simp only [c1, c2, if_true, if_false]
      by_cases c3 : u ≤ 32
      · simp only [c3, if_true, show i < 160 - u from by omega]
      · by_cases c4 : u ≤ 96
        · simp only [c3, c4, if_true, if_false]
          rw [mod_bit mid _ (i - 64) b0]
          by_cases c5 : i < 160 - u
          · rw [if_pos (by omega), if_pos c5]
          · rw [if_neg (by omega), if_neg c5]
        · simp only [c3, c4, if_false]
          rw [if_neg (by omega)]; simp
    · simp only [c1, c2, if_false]
      by_cases c3 : u ≤ 32
      · simp only [c3, if_true]
        rw [mod_bit hi _ (i - 128) a0]
        by_cases c5 : i < 160 - u
        · rw [if_pos (by omega), if_pos c5]
        · rw [if_neg (by omega), if_neg c5]
      · simp only [c3, if_false]
        rw [if_neg (by omega)]; simp

/-- The difference has no bit below m. -/
theorem diff_bits (u : Nat) (hi mid low : Int) (i : Nat) (h : i < 160 - u) :
    bit (hi - rH u hi) (mid - rM u mid) (low - rL u low) i = 0 := by
  unfold bit rH rM rL
  by_cases c1 : i < 64
  · simp only [c1, if_true]
    by_cases c2 : u ≤ 96
    · simp [c2]
    · simp only [c2, if_false]
      exact sub_bit low _ i h
  · by_cases c2 : i < 128
    · simp only [c1, c2, if_true, if_false]
      by_cases c3 : u ≤ 32
      · simp [c3]
      · have c4 : u ≤ 96 := by omega
        simp only [c3, c4, if_true, if_false]
        exact sub_bit mid _ (i - 64) (by omega)
    · simp only [c1, c2, if_false]
      have c3 : u ≤ 32 := by omega
      simp only [c3, if_true]
      exact sub_bit hi _ (i - 128) (by omega)

theorem rH_again (u : Nat) (x : Int) : rH u (rH u x) = rH u x := by
  unfold rH; split
  · exact Int.emod_emod_of_dvd _ (Int.dvd_refl _)
  · rfl
theorem rM_again (u : Nat) (x : Int) : rM u (rM u x) = rM u x := by
  unfold rM; split
  · rfl
  · split
    · exact Int.emod_emod_of_dvd _ (Int.dvd_refl _)
    · rfl
theorem rL_again (u : Nat) (x : Int) : rL u (rL u x) = rL u x := by
  unfold rL; split
  · rfl
  · exact Int.emod_emod_of_dvd _ (Int.dvd_refl _)
end Go.Proofs.Qxb6605321a.Reduce
