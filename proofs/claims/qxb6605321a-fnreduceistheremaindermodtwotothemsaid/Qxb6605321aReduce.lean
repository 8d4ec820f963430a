/-
  CONTRACTS SHARED BY THE TWO LAWS OVER (Ring).reduce: bitOf (10), reduce (28), ZZReduce (9); the plain facts on bits.
-/
import Derived.Test.Qxb6605321aRows
import Derived.WalkKit
import Derived.ProofKit
import Derived.OpenShut
import Derived.Handy
import Derived.Deep.QuietTactic
import Derived.BigQuiet
namespace Go.Proofs.Qxb6605321a.Reduce
open Go.ChangeShapes Go.WideShapes Go.ChangeAt Go.RowKit

/-! ### plain facts -/
theorem mask_nat (x n B : Nat) (hn : n ≤ B) (hx : x < 2 ^ B) : x &&& ((2 ^ n + 2 ^ B - 1) % 2 ^ B) = x % 2 ^ n := by
  have hp : 0 < 2 ^ n := Nat.two_pow_pos n
  have hle : 2 ^ n ≤ 2 ^ B := Nat.pow_le_pow_right (by omega) hn
  have e : (2 ^ n + 2 ^ B - 1) % 2 ^ B = 2 ^ n - 1 := by
    have : 2 ^ n + 2 ^ B - 1 = 2 ^ n - 1 + 2 ^ B := by omega
    rw [this, Nat.add_mod_right, Nat.mod_eq_of_lt (by omega)]
  rw [e, Nat.and_two_pow_sub_one_eq_mod]

theorem pow_int (n : Nat) : ((2 ^ n : Nat) : Int) = (2 : Int) ^ n := by simp

theorem mask_mod (n B : Nat) (hn : n ≤ B) : (((2 : Int) ^ n - 1) % 2 ^ B) = ((2 ^ n - 1 : Nat) : Int) := by
  have hp : 0 < 2 ^ n := Nat.two_pow_pos n
  have hle : 2 ^ n ≤ 2 ^ B := Nat.pow_le_pow_right (by omega) hn
  rw [← pow_int n, ← pow_int B]
  have e : ((2 ^ n : Nat) : Int) - 1 = ((2 ^ n - 1 : Nat) : Int) := by omega
  rw [e]
  exact Int.emod_eq_of_lt (by omega) (by omega)

theorem mask32 (x : Int) (n : Nat) (hn : n ≤ 32) (h0 : 0 ≤ x) (h1 : x ≤ 4294967295) : bits .and .u32 x (((2 : Int) ^ n - 1) % 4294967296) = x % 2 ^ n := by
  have e := mask_mod n 32 hn
  have e' : (2 : Int) ^ 32 = 4294967296 := by decide
  rw [e'] at e
  rw [e]
  have hp : 0 < 2 ^ n := Nat.two_pow_pos n
  have hle : 2 ^ n ≤ 2 ^ 32 := Nat.pow_le_pow_right (by omega) hn
  obtain ⟨y, rfl⟩ := Int.eq_ofNat_of_zero_le h0
  rw [u32_and_nat y _ (by omega) (by omega), Nat.and_two_pow_sub_one_eq_mod, ← pow_int n, Int.natCast_emod]

theorem mask64 (x : Int) (n : Nat) (hn : n ≤ 64) (h0 : 0 ≤ x) (h1 : x ≤ 18446744073709551615) : bits .and .u64 x (((2 : Int) ^ n - 1) % 18446744073709551616) = x % 2 ^ n := by
  have e := mask_mod n 64 hn
  have e' : (2 : Int) ^ 64 = 18446744073709551616 := by decide
  rw [e'] at e
  rw [e]
  have hp : 0 < 2 ^ n := Nat.two_pow_pos n
  have hle : 2 ^ n ≤ 2 ^ 64 := Nat.pow_le_pow_right (by omega) hn
  obtain ⟨y, rfl⟩ := Int.eq_ofNat_of_zero_le h0
  rw [u64_and_nat y _ (by omega) (by omega), Nat.and_two_pow_sub_one_eq_mod, ← pow_int n, Int.natCast_emod]

theorem mask64w (x : Int) (n : Nat) (hn : n ≤ 64) (h0 : 0 ≤ x) (h1 : x ≤ 18446744073709551615) : bits .and .u64 x (IntKind.u64.wrap (IntKind.u64.wrap ((2 : Int) ^ n) - 1)) = x % 2 ^ n := by
  have e : IntKind.u64.wrap (IntKind.u64.wrap ((2 : Int) ^ n) - 1) = ((2 : Int) ^ n - 1) % 18446744073709551616 := by
    simp only [IntKind.wrap_u64]; omega
  rw [e]; exact mask64 x n hn h0 h1

theorem and1 (x : Int) (h0 : 0 ≤ x) (h1 : x ≤ 18446744073709551615) : bits .and .u64 x 1 = x % 2 := by
  have := mask64 x 1 (by omega) h0 h1
  simpa using this

theorem div_bd (x B : Int) (n : Nat) (h0 : 0 ≤ x) (h1 : x ≤ B) : 0 ≤ x / 2 ^ n ∧ x / 2 ^ n ≤ B := by
  have hp : (0 : Int) < 2 ^ n := Int.pow_pos (by decide)
  refine ⟨Int.ediv_nonneg h0 (Int.le_of_lt hp), Int.le_trans (Int.ediv_le_self _ h0) h1⟩

/-- bit i of hi:mid:low. -/
def bit (hi mid low : Int) (i : Nat) : Int := if i < 64 then low / 2 ^ i % 2 else if i < 128 then mid / 2 ^ (i - 64) % 2 else hi / 2 ^ (i - 128) % 2

set_option maxHeartbeats 400000 in
theorem bitOf_any (hi mid low : Int) (i : Nat) (hi' : i < 160) (a0 : 0 ≤ hi) (a1 : hi ≤ 4294967295) (b0 : 0 ≤ mid) (b1 : mid ≤ 18446744073709551615) (h0 : 0 ≤ low) (h1 : low ≤ 18446744073709551615) (w : World) :
    Calls Try.prog 10 #[.int .u32 hi, .int .u64 mid, .int .u64 low, .int .i64 i] w fun e w' =>
      e = .returned (.int .u64 (bit hi mid low i)) ∧ w' = w := by
  by_cases c1 : i < 64
  · have e : bit hi mid low i = bits .and .u64 (low / 2 ^ i) 1 := by
      obtain ⟨p, q⟩ := div_bd low _ i h0 h1
      rw [and1 _ p q]; simp [bit, c1]
    rw [e]; clear e
    go_enter Try.func10, Try.ntmps10
    go_wp2
    go_ret
    exact ⟨rfl, rfl⟩
  · by_cases c2 : i < 128
    · have e : bit hi mid low i = bits .and .u64 (mid / 2 ^ (i - 64)) 1 := by
        obtain ⟨p, q⟩ := div_bd mid _ (i - 64) b0 b1
        rw [and1 _ p q]; simp [bit, c1, c2]
      rw [e]; clear e
      have z1 : ¬ (i : Int) < 64 := by omega
      have z2 : (i : Int) < 128 := by omega
      have z3 : (0 : Int) ≤ (i : Int) - 64 := by omega
      have z4 : (i : Int) - 64 < 64 := by omega
      go_enter Try.func10, Try.ntmps10
      go_wp2
      go_ret
      exact ⟨rfl, rfl⟩
    · have e : bit hi mid low i = bits .and .u64 (IntKind.u64.wrap (hi / 2 ^ (i - 128))) 1 := by
        obtain ⟨p, q⟩ := div_bd hi _ (i - 128) a0 a1
        have ew : IntKind.u64.wrap (hi / 2 ^ (i - 128)) = hi / 2 ^ (i - 128) := by rw [IntKind.wrap_u64]; omega
        rw [ew, and1 _ p (by omega)]; simp [bit, c1, c2]
      rw [e]; clear e
      have z1 : ¬ (i : Int) < 64 := by omega
      have z2 : ¬ (i : Int) < 128 := by omega
      have z3 : (0 : Int) ≤ (i : Int) - 128 := by omega
      have z4 : (i : Int) - 128 < 32 := by omega
      go_enter Try.func10, Try.ntmps10
      go_wp2
      go_ret
      exact ⟨rfl, rfl⟩

/-! ### reduce: the three words behind it, u the unused bits -/
def rH (u : Nat) (hi : Int) : Int := if u ≤ 32 then hi % 2 ^ (32 - u) else 0
def rM (u : Nat) (mid : Int) : Int := if u ≤ 32 then mid else if u ≤ 96 then mid % 2 ^ (96 - u) else 0
def rL (u : Nat) (low : Int) : Int := if u ≤ 96 then low else low % 2 ^ (160 - u)

set_option maxHeartbeats 1000000 in
theorem reduce_hi (u : Nat) (hi mid low : Int) (hu' : u ≤ 32) (h0 : 0 ≤ hi) (h1 : hi ≤ 4294967295) (w : World) :
    Calls Try.prog 28 #[.agg #[.int .i64 u], .agg #[.int .u32 hi, .int .u64 mid, .int .u64 low]] w fun e w' =>
      e = .returned (.agg #[.int .u32 (hi % 2 ^ (32 - u)), .int .u64 mid, .int .u64 low]) ∧ Grown w w' := by
  have q1 : (128 : Int) ≤ 160 - u := by omega
  have q2 : (0 : Int) ≤ 160 - u - 128 := by omega
  have HE : Hid (bits .and .u32 hi (((2 : Int) ^ (160 - u - 128) - 1) % 4294967296) = hi % 2 ^ (32 - u)) := by
    rw [show 160 - u - 128 = 32 - u from by omega]
    exact mask32 hi _ (by omega) h0 h1
  go_enter Try.func28, Try.ntmps28
  go_wp2
  go_region
  go_wp2
  go_returns
  exact ⟨by rw [HE.out], by go_grown⟩

set_option maxHeartbeats 1000000 in
theorem reduce_mid (u : Nat) (hi mid low : Int) (hu : 32 < u) (hu' : u ≤ 96) (h0 : 0 ≤ mid) (h1 : mid ≤ 18446744073709551615) (w : World) :
    Calls Try.prog 28 #[.agg #[.int .i64 u], .agg #[.int .u32 hi, .int .u64 mid, .int .u64 low]] w fun e w' =>
      e = .returned (.agg #[.int .u32 0, .int .u64 (mid % 2 ^ (96 - u)), .int .u64 low]) ∧ Grown w w' := by
  have q1 : ¬ (128 : Int) ≤ 160 - u := by omega
  have q2 : (64 : Int) ≤ 160 - u := by omega
  have q3 : (0 : Int) ≤ 160 - u - 64 := by omega
  have HE : Hid (bits .and .u64 mid (IntKind.u64.wrap (IntKind.u64.wrap ((2 : Int) ^ (160 - u - 64)) - 1)) = mid % 2 ^ (96 - u)) := by
    rw [show 160 - u - 64 = 96 - u from by omega]
    exact mask64w mid _ (by omega) h0 h1
  go_enter Try.func28, Try.ntmps28
  go_wp2
  go_region
  all_goals go_wp2
  all_goals go_returns
  all_goals exact ⟨by rw [HE.out], by go_grown⟩

set_option maxHeartbeats 1000000 in
theorem reduce_low (u : Nat) (hi mid low : Int) (hu : 96 < u) (hu' : u < 160) (h0 : 0 ≤ low) (h1 : low ≤ 18446744073709551615) (w : World) :
    Calls Try.prog 28 #[.agg #[.int .i64 u], .agg #[.int .u32 hi, .int .u64 mid, .int .u64 low]] w fun e w' =>
      e = .returned (.agg #[.int .u32 0, .int .u64 0, .int .u64 (low % 2 ^ (160 - u))]) ∧ Grown w w' := by
  have q1 : ¬ (128 : Int) ≤ 160 - u := by omega
  have q2 : ¬ (64 : Int) ≤ 160 - u := by omega
  have q3 : (0 : Int) ≤ 160 - u := by omega
  have HE : Hid (bits .and .u64 low (IntKind.u64.wrap (IntKind.u64.wrap ((2 : Int) ^ (160 - u)) - 1)) = low % 2 ^ (160 - u)) := mask64w low _ (by omega) h0 h1
  go_enter Try.func28, Try.ntmps28
  go_wp2
  go_region
  all_goals go_wp2
  all_goals go_returns
  all_goals exact ⟨by rw [HE.out], by go_grown⟩

/-- (Ring).reduce, whole. -/
theorem reduce_any (u : Nat) (hi mid low : Int) (hu : u < 160) (a0 : 0 ≤ hi) (a1 : hi ≤ 4294967295) (b0 : 0 ≤ mid) (b1 : mid ≤ 18446744073709551615) (h0 : 0 ≤ low) (h1 : low ≤ 18446744073709551615) (w : World) :
    Calls Try.prog 28 #[.agg #[.int .i64 u], .agg #[.int .u32 hi, .int .u64 mid, .int .u64 low]] w fun e w' =>
      e = .returned (.agg #[.int .u32 (rH u hi), .int .u64 (rM u mid), .int .u64 (rL u low)]) ∧ Grown w w' := by
  by_cases c1 : u ≤ 32
  · have c2 : u ≤ 96 := by omega
    simp only [rH, rM, rL, c1, c2, if_true]
    exact reduce_hi u hi mid low c1 a0 a1 w
  · by_cases c2 : u ≤ 96
    · simp only [rH, rM, rL, c1, c2, if_true, if_false]
      exact reduce_mid u hi mid low (by omega) c2 b0 b1 w
    · simp only [rH, rM, rL, c1, c2, if_false]
      exact reduce_low u hi mid low (by omega) hu h0 h1 w

set_option maxHeartbeats 1000000 in
theorem zzReduce_any (u : Nat) (hi mid low : Int) (hu : u < 160) (a0 : 0 ≤ hi) (a1 : hi ≤ 4294967295) (b0 : 0 ≤ mid) (b1 : mid ≤ 18446744073709551615) (h0 : 0 ≤ low) (h1 : low ≤ 18446744073709551615) (w : World) :
    Calls Try.prog 9 #[.int .i64 u, .int .u32 hi, .int .u64 mid, .int .u64 low] w fun e w' =>
      e = .returned (.tuple #[.int .u32 (rH u hi), .int .u64 (rM u mid), .int .u64 (rL u low)]) ∧ Grown w w' := by
  go_enter Try.func9, Try.ntmps9
  go_wp2_with fail
  refine (reduce_any u hi mid low hu a0 a1 b0 b1 h0 h1 _).mono ?_
  rintro e w1 ⟨rfl, hg⟩
  go_wp2
  go_quiet (fail)
  go_wp2
  go_ret3
  exact ⟨rfl, (hg.alloc _ _).drew⟩
end Go.Proofs.Qxb6605321a.Reduce
