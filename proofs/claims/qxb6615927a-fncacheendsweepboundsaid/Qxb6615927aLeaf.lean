import Derived.Test.Qxb6615927aRows
import Derived.WalkKit
import Derived.WalkSpells
import Derived.WalkLawsBesides
import Derived.Laws.BitsAllLaws
import Derived.Deep.QuietTactic
import Derived.BigQuiet
namespace Go.Proofs.Qxb6615927a
open Go.RowKit

/-! ### plain arithmetic -/
theorem tdiv_neg (x : Int) (h : x.tmod 1000000000 < 0) : x.tdiv 1000000000 - 1 = x / 1000000000 ∧ x.tmod 1000000000 + 1000000000 = x % 1000000000 := by
  have h1 := Int.mul_tdiv_add_tmod x 1000000000
  have h2 := Int.lt_tmod_of_pos x (b := 1000000000) (by omega)
  have h3 := Int.mul_ediv_add_emod x 1000000000
  have h4 := Int.emod_nonneg x (b := 1000000000) (by omega)
  have h5 := Int.emod_lt_of_pos x (b := 1000000000) (by omega)
  constructor <;> omega
theorem tdiv_pos (x : Int) (h : 0 ≤ x.tmod 1000000000) : x.tdiv 1000000000 = x / 1000000000 ∧ x.tmod 1000000000 = x % 1000000000 := by
  have h1 := Int.mul_tdiv_add_tmod x 1000000000
  have h2 := Int.tmod_lt_of_pos x (b := 1000000000) (by omega)
  have h3 := Int.mul_ediv_add_emod x 1000000000
  have h4 := Int.emod_nonneg x (b := 1000000000) (by omega)
  have h5 := Int.emod_lt_of_pos x (b := 1000000000) (by omega)
  constructor <;> omega
theorem wrap64_self (x : Int) (h1 : -9223372036854775808 ≤ x) (h2 : x ≤ 9223372036854775807) : wrap64 x = x := by unfold wrap64; omega
theorem ret2 {k k' : IntKind} {a b a' b' : Int} (h : a = a') (h' : b = b') : Ending.returned (.tuple #[.int k a, .int k' b]) = .returned (.tuple #[.int k a', .int k' b']) := by rw [h, h']
theorem ret1 {k : IntKind} {a a' : Int} (h : a = a') : Ending.returned (.int k a) = .returned (.int k a') := by rw [h]

/-- zzFloor: the floor division by 10^9. -/
theorem floor_any (x : Int) (w : World) (h1 : -9223372036854775808 ≤ x) (h2 : x ≤ 9223372036854775807) :
    Calls Try.prog 29 #[.int .i64 x] w fun e w' => e = .returned (.tuple #[.int .i64 (x / 1000000000), .int .i64 (x % 1000000000)]) ∧ w' = w := by
  have hq := Int.mul_tdiv_add_tmod x 1000000000
  have hq1 := Int.mul_ediv_add_emod x 1000000000
  have hq2 := Int.emod_nonneg x (b := 1000000000) (by omega)
  have hq3 := Int.emod_lt_of_pos x (b := 1000000000) (by omega)
  have Q : Hid (1000000000 * (x / 1000000000) + x % 1000000000 = x) := hq1
  clear hq1 hq
  go_enter Try.func29, Try.ntmps29
  go_wp2
  · go_ret2
    obtain ⟨e1, e2⟩ := tdiv_neg x (by assumption)
    have := Q.out
    exact ⟨ret2 (by rw [e1]; exact wrap64_self _ (by omega) (by omega)) (by rw [e2]; exact wrap64_self _ (by omega) (by omega)), rfl⟩
  · go_ret2
    obtain ⟨e1, e2⟩ := tdiv_pos x (by assumption)
    exact ⟨ret2 e1 e2, rfl⟩

/-- zzSumParts: the Unix seconds and nanoseconds of a + b, without overflow. -/
theorem sum_any (a b : Int) (w : World) (ha1 : -9223372036854775808 ≤ a) (ha2 : a ≤ 9223372036854775807) (hb1 : -9223372036854775808 ≤ b) (hb2 : b ≤ 9223372036854775807) :
    Calls Try.prog 19 #[.int .i64 a, .int .i64 b] w fun e w' => e = .returned (.tuple #[.int .i64 (-62135596800 + (a + b) / 1000000000), .int .i64 ((a + b) % 1000000000)]) ∧ w' = w := by
  go_enter Try.func19, Try.ntmps19
  have qa : 0 ≤ a % 1000000000 ∧ a % 1000000000 < 1000000000 := by omega
  have qb : 0 ≤ b % 1000000000 ∧ b % 1000000000 < 1000000000 := by omega
  obtain ⟨qa1, qa2⟩ := qa
  obtain ⟨qb1, qb2⟩ := qb
  have da : -9223372037 ≤ a / 1000000000 ∧ a / 1000000000 ≤ 9223372037 := by omega
  have db : -9223372037 ≤ b / 1000000000 ∧ b / 1000000000 ≤ 9223372037 := by omega
  obtain ⟨da1, da2⟩ := da
  obtain ⟨db1, db2⟩ := db
  go_wp2_with fail
  refine (floor_any a _ ha1 ha2).mono ?_
  rintro e w' ⟨rfl, rfl⟩
  go_wp2_with fail
  refine (floor_any b _ hb1 hb2).mono ?_
  rintro e w' ⟨rfl, rfl⟩
  go_wp2
  · go_ret2
    exact ⟨ret2 (by omega) (by omega), rfl⟩
  · go_ret2
    exact ⟨ret2 (by omega) (by omega), rfl⟩

/-! ### bits of a wall clock without a monotonic reading -/
theorem and_mono (m : Int) (h0 : 0 ≤ m) (h1 : m < 1073741824) : bits .and .u64 m 9223372036854775808 = 0 := by
  rw [u64_and m _ h0 (by omega) (by omega) (by omega)]
  have : m.toNat &&& (9223372036854775808 : Int).toNat = 0 := by
    have e : (9223372036854775808 : Int).toNat = 2 ^ 63 := by decide
    rw [e, nat_bit, Nat.div_eq_of_lt (by omega)]
  rw [this]; rfl
theorem and_mask (m : Int) (h0 : 0 ≤ m) (h1 : m < 1073741824) : bits .and .u64 m 1073741823 = m := by
  rw [u64_and m _ h0 (by omega) (by omega) (by omega)]
  have e : (1073741823 : Int).toNat = 2 ^ 30 - 1 := by decide
  rw [e, Nat.and_two_pow_sub_one_eq_mod]
  omega
theorem andNot_mask (m : Int) (h0 : 0 ≤ m) (h1 : m < 1073741824) : bits .andNot .u64 m 1073741823 = 0 := by
  rw [u64_andNot m _ h0 (by omega) (by omega) (by omega)]
  have e : (18446744073709551615 - (1073741823 : Int).toNat) = (2 ^ 34 - 1) * 2 ^ 30 := by decide
  rw [e]
  have : m.toNat &&& ((2 ^ 34 - 1) * 2 ^ 30) = 0 := by
    apply Nat.eq_of_testBit_eq
    intro i
    rw [Nat.testBit_and, Nat.testBit_mul_two_pow, Nat.zero_testBit]
    by_cases hi : 30 ≤ i
    · have : m.toNat.testBit i = false := Nat.testBit_lt_two_pow (Nat.lt_of_lt_of_le (by omega) (Nat.pow_le_pow_right (by omega) hi))
      simp [this]
    · simp [hi]
  rw [this]; rfl
theorem or_zero (m : Int) (h0 : 0 ≤ m) (h1 : m < 1073741824) : bits .or .u64 0 m = m := by
  rw [u64_or 0 _ (by omega) (by omega) h0 (by omega)]
  simp; omega

end Go.Proofs.Qxb6615927a
