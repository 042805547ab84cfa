import Derived.Test.Qxb6614263aRows
import Derived.WalkKit
import Derived.ProofKit
import Derived.OpenShut
import Derived.ShutString
import Derived.Below
import Derived.WalkSpells
import Derived.WalkSmall
import Derived.BigQuiet
import Derived.Deep.QuietTactic
import Derived.Laws.BitsAllLaws
namespace Go.Proofs.Qxb6614263a
open Go.ChangeShapes Go.WideShapes Go.ChangeAt Go.RowKit
set_option linter.unusedVariables false

/-- The bit of place k, as the walk writes it. -/
def bitOf (k : Int) : Int := IntKind.u64.wrap (2 ^ k.toNat)

theorem bitOf_wrap (k : Nat) : IntKind.u64.wrap (2 ^ k) = bitOf (k : Int) := by
  unfold bitOf
  rw [Int.toNat_natCast]

theorem bitOf_eq (k : Nat) (h : k < 64) : bitOf (k : Int) = ((2 ^ k : Nat) : Int) := by
  rw [← bitOf_wrap, IntKind.wrap_u64]
  have h64 : (2 : Nat) ^ k < 2 ^ 64 := Nat.pow_lt_pow_right (by decide) h
  have e : (2 : Int) ^ k = ((2 ^ k : Nat) : Int) := by simp
  rw [e]
  generalize (2 : Nat) ^ k = m at h64
  omega

theorem bitOf_ne (j k : Nat) (hj : j < 64) (hk : k < 64) (h : j ≠ k) : (bitOf (j : Int) == bitOf (k : Int)) = false := by
  rw [bitOf_eq j hj, bitOf_eq k hk]
  have h2 : (2 : Nat) ^ j ≠ 2 ^ k := fun e => by
    rcases Nat.lt_or_gt_of_ne h with c | c
    · have := Nat.pow_lt_pow_right (a := 2) (by decide) c; omega
    · have := Nat.pow_lt_pow_right (a := 2) (by decide) c; omega
  generalize (2 : Nat) ^ j = a at h2
  generalize (2 : Nat) ^ k = b at h2
  simp only [beq_eq_false_iff_ne, ne_eq]
  omega

theorem ret_two {a b a' b' : Value} (h1 : a = a') (h2 : b = b') : Ending.returned (.tuple #[a, b]) = .returned (.tuple #[a', b']) := by rw [h1, h2]

set_option maxRecDepth 100000 in
set_option maxHeartbeats 400000 in
theorem place_any (n : Int) (h0 : 0 ≤ n) (h1 : n ≤ 2147483647) (w : World) :
    Calls Try.prog 7 #[.int .i32 n] w fun e w' => e = .returned (.tuple #[.int .i64 (n % 1024 / 64), .int .u64 (bitOf (n % 64))]) ∧ ∃ q, w.drewN q = w' := by
  go_enter Try.func7, Try.ntmps7
  go_wp2_with fail
  go_quiet (fail)
  go_wp2
  go_ret2
  exact ⟨rfl, _, rfl⟩

set_option maxRecDepth 100000 in
theorem zzPlace_any (n : Int) (h0 : 0 ≤ n) (h1 : n ≤ 2147483647) (w : World) :
    Calls Try.prog 5 #[.int .i32 n] w fun e w' => e = .returned (.tuple #[.int .i64 (n % 1024 / 64), .int .u64 (bitOf (n % 64))]) ∧ ∃ q, w.drewN q = w' := by
  go_enter Try.func5, Try.ntmps5
  go_wp2_with fail
  refine (place_any n h0 h1 w).mono ?_
  rintro e w' ⟨rfl, q, rfl⟩
  go_wp2
  go_ret2
  exact ⟨rfl, _, rfl⟩

set_option maxRecDepth 100000 in
set_option maxHeartbeats 400000 in
theorem slotOf_any (word : Int) (k0 : Nat) (h0 : 0 ≤ word) (h1 : word < 16) (hk0 : k0 < 64) (w : World) :
    Calls Try.prog 6 #[.int .i64 word, .int .u64 (bitOf (k0 : Int))] w fun e w' => e = .returned (.int .i64 (word * 64 + k0)) ∧ w = w' := by
  go_enter Try.func6, Try.ntmps6
  go_wp2
  go_loop [5] (fun i => ∃ k : Nat, k ≤ k0 ∧ i = .int .i64 k) (fun i => k0 - (intOf i).toNat)
  case atStart => exact ⟨0, Nat.zero_le _, rfl⟩
  case round =>
    obtain ⟨k, hk, rfl⟩ := hrel
    by_cases hlt : k < k0
    · have hne := bitOf_ne k0 k hk0 (by omega) (by omega)
      have hwr := bitOf_wrap k
      go_wp2
      go_round
      case rel => exact ⟨k + 1, by omega, by go_num⟩
      case measure => simp [intOf]; omega
    · obtain rfl : k = k0 := by omega
      have hwr := bitOf_wrap k
      go_wp2
      go_ret
      exact ⟨rfl, rfl⟩

theorem slotOf_int (word k : Int) (h0 : 0 ≤ word) (h1 : word < 16) (hk0 : 0 ≤ k) (hk1 : k < 64) (w : World) :
    Calls Try.prog 6 #[.int .i64 word, .int .u64 (bitOf k)] w fun e w' => e = .returned (.int .i64 (word * 64 + k)) ∧ w = w' := by
  obtain ⟨n, rfl⟩ := Int.eq_ofNat_of_zero_le hk0
  exact slotOf_any word n h0 h1 (by omega) w

theorem bitOf_neI (j k : Int) (hj0 : 0 ≤ j) (hj : j < 64) (hk0 : 0 ≤ k) (hk : k < 64) (h : j ≠ k) : (bitOf j == bitOf k) = false := by
  obtain ⟨a, rfl⟩ := Int.eq_ofNat_of_zero_le hj0
  obtain ⟨b, rfl⟩ := Int.eq_ofNat_of_zero_le hk0
  exact bitOf_ne a b (by omega) (by omega) (by omega)

theorem and_mask (n : Int) (h0 : 0 ≤ n) (h1 : n ≤ 2147483647) : bits .and .i32 n 1023 = n % 1024 := by
  obtain ⟨m, rfl⟩ := Int.eq_ofNat_of_zero_le h0
  show IntKind.i32.wrap ((BitVec.ofInt 32 (m : Int) &&& BitVec.ofInt 32 1023).toNat : Int) = _
  have e : (BitVec.ofInt 32 (m : Int) &&& BitVec.ofInt 32 1023).toNat = m % 1024 := by
    rw [BitVec.toNat_and, BitVec.ofInt_natCast, BitVec.toNat_ofNat]
    have h3 : (BitVec.ofInt 32 1023).toNat = 2 ^ 10 - 1 := rfl
    rw [h3, Nat.and_two_pow_sub_one_eq_mod]
    omega
  rw [e, IntKind.wrap_i32]
  omega

set_option maxRecDepth 100000 in
set_option maxHeartbeats 400000 in
theorem steps_early (n : Int) (h : n < 0 ∨ 2147482623 < n) (w : World) :
    Calls Try.prog 3 #[.int .i32 n] w fun e w' => e = .returned (.bool true) ∧ Below w.heap.size w w' := by
  rcases h with h | h
  · go_enter Try.func3, Try.ntmps3
    go_wp2
    go_ret
    exact ⟨rfl, Below.refl _ _⟩
  · go_enter Try.func3, Try.ntmps3
    go_wp2
    all_goals go_ret
    all_goals exact ⟨rfl, Below.refl _ _⟩

set_option maxRecDepth 100000 in
set_option maxHeartbeats 400000 in
theorem steps_main (n : Int) (h0 : 0 ≤ n) (h1 : n ≤ 2147482623) (w : World) :
    Calls Try.prog 3 #[.int .i32 n] w fun e w' => e = .returned (.bool true) ∧ Below w.heap.size w w' := by
  have m0 := and_mask n h0 (by omega)
  have m1 := and_mask (n + 1) (by omega) (by omega)
  have s0 : (n % 1024 / 64 * 64 + n % 64 == n % 1024) = true := by simp only [beq_iff_eq]; omega
  have s1 : ((n + 1) % 1024 / 64 * 64 + (n + 1) % 64 == (n + 1) % 1024) = true := by simp only [beq_iff_eq]; omega
  have hw2 : ((n + 1024) % 1024 / 64 == n % 1024 / 64) = true := by simp only [beq_iff_eq]; omega
  have hb2 : bitOf ((n + 1024) % 64) = bitOf (n % 64) := by congr 1; omega
  go_enter Try.func3, Try.ntmps3
  go_wp2_with fail
  refine (zzPlace_any n h0 (by omega) w).mono ?_
  rintro e w' ⟨rfl, q0, rfl⟩
  go_wp2_with fail
  refine (zzPlace_any (n + 1) (by omega) (by omega) _).mono ?_
  rintro e w' ⟨rfl, q1, rfl⟩
  go_wp2_with fail
  refine (zzPlace_any (n + 1024) (by omega) (by omega) _).mono ?_
  rintro e w' ⟨rfl, q2, rfl⟩
  go_wp2_with fail
  refine (slotOf_int (n % 1024 / 64) (n % 64) (by omega) (by omega) (by omega) (by omega) _).mono ?_
  rintro e w' ⟨rfl, rfl⟩
  go_wp2_with fail
  refine (slotOf_int ((n + 1) % 1024 / 64) ((n + 1) % 64) (by omega) (by omega) (by omega) (by omega) _).mono ?_
  rintro e w' ⟨rfl, rfl⟩
  go_wp2
  all_goals go_ret
  all_goals exact ⟨rfl, below_drewN (Below.refl _ _) _⟩

theorem steps_walk (n : Int) (w : World) :
    Calls Try.prog 3 #[.int .i32 n] w fun e w' => e = .returned (.bool true) ∧ Below w.heap.size w w' := by
  by_cases h : n < 0 ∨ 2147482623 < n
  · exact steps_early n h w
  · exact steps_main n (by omega) (by omega) w
set_option maxRecDepth 100000 in
set_option maxHeartbeats 400000 in
theorem shares_same (a b : Int) (a0 : 0 ≤ a) (a1 : a ≤ 2147483647) (b0 : 0 ≤ b) (b1 : b ≤ 2147483647) (h : a % 1024 = b % 1024) (w : World) :
    Calls Try.prog 4 #[.int .i32 a, .int .i32 b] w fun e w' => e = .returned (.bool true) ∧ Below w.heap.size w w' := by
  have m0 := and_mask a a0 a1
  have m1 := and_mask b b0 b1
  have s0 : (a % 1024 / 64 * 64 + a % 64 == a % 1024) = true := by simp only [beq_iff_eq]; omega
  have s1 : (b % 1024 / 64 * 64 + b % 64 == b % 1024) = true := by simp only [beq_iff_eq]; omega
  have e1 : (a % 1024 / 64 == b % 1024 / 64) = true := by simp only [beq_iff_eq]; omega
  have e2 : (bitOf (a % 64) == bitOf (b % 64)) = true := by simp only [beq_iff_eq]; congr 1; omega
  have e3 : (a % 1024 == b % 1024) = true := by simp only [beq_iff_eq]; omega
  clear h
  go_enter Try.func4, Try.ntmps4
  go_wp2_with fail
  refine (zzPlace_any a a0 a1 w).mono ?_
  rintro e w' ⟨rfl, q0, rfl⟩
  go_wp2_with fail
  refine (zzPlace_any b b0 b1 _).mono ?_
  rintro e w' ⟨rfl, q1, rfl⟩
  go_wp2_with fail
  refine (slotOf_int (a % 1024 / 64) (a % 64) (by omega) (by omega) (by omega) (by omega) _).mono ?_
  rintro e w' ⟨rfl, rfl⟩
  go_wp2_with fail
  refine (slotOf_int (b % 1024 / 64) (b % 64) (by omega) (by omega) (by omega) (by omega) _).mono ?_
  rintro e w' ⟨rfl, rfl⟩
  go_wp2
  all_goals go_ret
  all_goals exact ⟨rfl, below_drewN (Below.refl _ _) _⟩

set_option maxRecDepth 100000 in
set_option maxHeartbeats 400000 in
theorem shares_word (a b : Int) (a0 : 0 ≤ a) (a1 : a ≤ 2147483647) (b0 : 0 ≤ b) (b1 : b ≤ 2147483647) (h : a % 1024 / 64 ≠ b % 1024 / 64) (w : World) :
    Calls Try.prog 4 #[.int .i32 a, .int .i32 b] w fun e w' => e = .returned (.bool true) ∧ Below w.heap.size w w' := by
  have m0 := and_mask a a0 a1
  have m1 := and_mask b b0 b1
  have s0 : (a % 1024 / 64 * 64 + a % 64 == a % 1024) = true := by simp only [beq_iff_eq]; omega
  have s1 : (b % 1024 / 64 * 64 + b % 64 == b % 1024) = true := by simp only [beq_iff_eq]; omega
  have e1 : (a % 1024 / 64 == b % 1024 / 64) = false := by simp only [beq_eq_false_iff_ne, ne_eq]; omega
  have e3 : (a % 1024 == b % 1024) = false := by simp only [beq_eq_false_iff_ne, ne_eq]; omega
  clear h
  go_enter Try.func4, Try.ntmps4
  go_wp2_with fail
  refine (zzPlace_any a a0 a1 w).mono ?_
  rintro e w' ⟨rfl, q0, rfl⟩
  go_wp2_with fail
  refine (zzPlace_any b b0 b1 _).mono ?_
  rintro e w' ⟨rfl, q1, rfl⟩
  go_wp2_with fail
  refine (slotOf_int (a % 1024 / 64) (a % 64) (by omega) (by omega) (by omega) (by omega) _).mono ?_
  rintro e w' ⟨rfl, rfl⟩
  go_wp2_with fail
  refine (slotOf_int (b % 1024 / 64) (b % 64) (by omega) (by omega) (by omega) (by omega) _).mono ?_
  rintro e w' ⟨rfl, rfl⟩
  go_wp2
  all_goals go_ret
  all_goals exact ⟨rfl, below_drewN (Below.refl _ _) _⟩

set_option maxRecDepth 100000 in
set_option maxHeartbeats 400000 in
theorem shares_bit (a b : Int) (a0 : 0 ≤ a) (a1 : a ≤ 2147483647) (b0 : 0 ≤ b) (b1 : b ≤ 2147483647) (h : a % 1024 / 64 = b % 1024 / 64 ∧ a % 64 ≠ b % 64) (w : World) :
    Calls Try.prog 4 #[.int .i32 a, .int .i32 b] w fun e w' => e = .returned (.bool true) ∧ Below w.heap.size w w' := by
  have m0 := and_mask a a0 a1
  have m1 := and_mask b b0 b1
  have s0 : (a % 1024 / 64 * 64 + a % 64 == a % 1024) = true := by simp only [beq_iff_eq]; omega
  have s1 : (b % 1024 / 64 * 64 + b % 64 == b % 1024) = true := by simp only [beq_iff_eq]; omega
  have e1 : (a % 1024 / 64 == b % 1024 / 64) = true := by simp only [beq_iff_eq]; omega
  have e2 : (bitOf (a % 64) == bitOf (b % 64)) = false := bitOf_neI _ _ (by omega) (by omega) (by omega) (by omega) h.2
  have e3 : (a % 1024 == b % 1024) = false := by simp only [beq_eq_false_iff_ne, ne_eq]; omega
  clear h
  go_enter Try.func4, Try.ntmps4
  go_wp2_with fail
  refine (zzPlace_any a a0 a1 w).mono ?_
  rintro e w' ⟨rfl, q0, rfl⟩
  go_wp2_with fail
  refine (zzPlace_any b b0 b1 _).mono ?_
  rintro e w' ⟨rfl, q1, rfl⟩
  go_wp2_with fail
  refine (slotOf_int (a % 1024 / 64) (a % 64) (by omega) (by omega) (by omega) (by omega) _).mono ?_
  rintro e w' ⟨rfl, rfl⟩
  go_wp2_with fail
  refine (slotOf_int (b % 1024 / 64) (b % 64) (by omega) (by omega) (by omega) (by omega) _).mono ?_
  rintro e w' ⟨rfl, rfl⟩
  go_wp2
  all_goals go_ret
  all_goals exact ⟨rfl, below_drewN (Below.refl _ _) _⟩

set_option maxRecDepth 100000 in
theorem shares_early (a b : Int) (h : a < 0 ∨ b < 0) (w : World) :
    Calls Try.prog 4 #[.int .i32 a, .int .i32 b] w fun e w' => e = .returned (.bool true) ∧ Below w.heap.size w w' := by
  rcases h with h | h
  · go_enter Try.func4, Try.ntmps4
    go_wp2
    go_ret
    exact ⟨rfl, Below.refl _ _⟩
  · go_enter Try.func4, Try.ntmps4
    go_wp2
    all_goals go_ret
    all_goals exact ⟨rfl, Below.refl _ _⟩

theorem shares_walk (a b : Int) (a1 : a ≤ 2147483647) (b1 : b ≤ 2147483647) (w : World) :
    Calls Try.prog 4 #[.int .i32 a, .int .i32 b] w fun e w' => e = .returned (.bool true) ∧ Below w.heap.size w w' := by
  by_cases h : a < 0 ∨ b < 0
  · exact shares_early a b h w
  · by_cases e1 : a % 1024 / 64 = b % 1024 / 64
    · by_cases e2 : a % 64 = b % 64
      · exact shares_same a b (by omega) a1 (by omega) b1 (by omega) w
      · exact shares_bit a b (by omega) a1 (by omega) b1 ⟨e1, e2⟩ w
    · exact shares_word a b (by omega) a1 (by omega) b1 e1 w
end Go.Proofs.Qxb6614263a
