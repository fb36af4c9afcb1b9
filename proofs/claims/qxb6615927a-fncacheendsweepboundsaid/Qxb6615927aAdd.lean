import Derived.Test.Qxb6615927aTime
namespace Go.Proofs.Qxb6615927a
open Go.RowKit

/-- The time, as cells. -/
abbrev tmCells (m s : Int) : Array Value := #[.int .u64 m, .int .i64 s, .pointer none]

set_option maxHeartbeats 400000 in
theorem add_any (m s d : Int) (w : World) (h0 : 0 ≤ m) (h1 : m < 1000000000) (hs1 : -10000000000 ≤ s) (hs2 : s ≤ 10000000000) (hd1 : -9223372036854775808 ≤ d) (hd2 : d ≤ 9223372036854775807) :
    Calls Try.prog 16 #[.agg (tmCells m s), .int .i64 d] w fun e w' =>
      e = .returned (.agg (tmCells ((m + d) % 1000000000) (s + (m + d) / 1000000000))) ∧
      w' = (w.alloc (.cells (tmCells ((m + d) % 1000000000) (s + (m + d) / 1000000000)) 48)).alloc (.cells (tmCells ((m + d) % 1000000000) (s + (m + d) / 1000000000)) 48) := by
  have q1 := Int.mul_tdiv_add_tmod d 1000000000
  have q2 := Int.lt_tmod_of_pos d (b := 1000000000) (by omega)
  have q3 := Int.tmod_lt_of_pos d (b := 1000000000) (by omega)
  have q4 : -9223372037 ≤ d.tdiv 1000000000 := by omega
  have q5 : d.tdiv 1000000000 ≤ 9223372037 := by omega
  have Q1 : Hid (1000000000 * d.tdiv 1000000000 + d.tmod 1000000000 = d) := q1
  clear q1
  by_cases c1 : 1000000000 ≤ m + d.tmod 1000000000
  · have e1 : (m + d) % 1000000000 = m + d.tmod 1000000000 - 1000000000 := by have := Q1.out; omega
    have e2 : (m + d) / 1000000000 = d.tdiv 1000000000 + 1 := by have := Q1.out; omega
    have a1 := and_mono (m + d.tmod 1000000000 - 1000000000) (by omega) (by omega)
    have a2 := andNot_mask m h0 (by omega)
    have a3 := or_zero (m + d.tmod 1000000000 - 1000000000) (by omega) (by omega)
    rw [e1, e2]
    clear e1 e2
    go_enter Try.func16, Try.ntmps16
    go_wp2_with fail
    refine (nsec_any _ _ m _ h0 h1 (by simp)).mono ?_
    rintro e w' ⟨rfl, rfl⟩
    go_wp2_with fail
    refine (addSec_any _ _ (m + d.tmod 1000000000 - 1000000000) s (d.tdiv 1000000000 + 1) _ (by omega) (by omega) (by omega) (by omega) (by omega) (by omega) (by simp) (by simp) (by simp)).mono ?_
    rintro e w' ⟨rfl, rfl⟩
    go_wp2_with fail
    exact bodyPost_ret (v := .agg (tmCells (m + d.tmod 1000000000 - 1000000000) (s + (d.tdiv 1000000000 + 1)))) (by simp [results, Try.results16, go_sem]) rfl ⟨rfl, rfl⟩
  by_cases c2 : m + d.tmod 1000000000 < 0
  · have e1 : (m + d) % 1000000000 = m + d.tmod 1000000000 + 1000000000 := by have := Q1.out; omega
    have e2 : (m + d) / 1000000000 = d.tdiv 1000000000 - 1 := by have := Q1.out; omega
    have a1 := and_mono (m + d.tmod 1000000000 + 1000000000) (by omega) (by omega)
    have a2 := andNot_mask m h0 (by omega)
    have a3 := or_zero (m + d.tmod 1000000000 + 1000000000) (by omega) (by omega)
    rw [e1, e2]
    clear e1 e2
    go_enter Try.func16, Try.ntmps16
    go_wp2_with fail
    refine (nsec_any _ _ m _ h0 h1 (by simp)).mono ?_
    rintro e w' ⟨rfl, rfl⟩
    go_wp2_with fail
    refine (addSec_any _ _ (m + d.tmod 1000000000 + 1000000000) s (d.tdiv 1000000000 - 1) _ (by omega) (by omega) (by omega) (by omega) (by omega) (by omega) (by simp) (by simp) (by simp)).mono ?_
    rintro e w' ⟨rfl, rfl⟩
    go_wp2_with fail
    exact bodyPost_ret (v := .agg (tmCells (m + d.tmod 1000000000 + 1000000000) (s + (d.tdiv 1000000000 - 1)))) (by simp [results, Try.results16, go_sem]) rfl ⟨rfl, rfl⟩
  · have e1 : (m + d) % 1000000000 = m + d.tmod 1000000000 := by have := Q1.out; omega
    have e2 : (m + d) / 1000000000 = d.tdiv 1000000000 := by have := Q1.out; omega
    have a1 := and_mono (m + d.tmod 1000000000) (by omega) (by omega)
    have a2 := andNot_mask m h0 (by omega)
    have a3 := or_zero (m + d.tmod 1000000000) (by omega) (by omega)
    rw [e1, e2]
    clear e1 e2
    go_enter Try.func16, Try.ntmps16
    go_wp2_with fail
    refine (nsec_any _ _ m _ h0 h1 (by simp)).mono ?_
    rintro e w' ⟨rfl, rfl⟩
    go_wp2_with fail
    refine (addSec_any _ _ (m + d.tmod 1000000000) s (d.tdiv 1000000000) _ (by omega) (by omega) (by omega) (by omega) (by omega) (by omega) (by simp) (by simp) (by simp)).mono ?_
    rintro e w' ⟨rfl, rfl⟩
    go_wp2_with fail
    exact bodyPost_ret (v := .agg (tmCells (m + d.tmod 1000000000) (s + (d.tdiv 1000000000)))) (by simp [results, Try.results16, go_sem]) rfl ⟨rfl, rfl⟩

end Go.Proofs.Qxb6615927a
