import Derived.Test.Qxb6615927aLeaf
namespace Go.Proofs.Qxb6615927a
open Go.RowKit

/-- nsec: the low bits of the wall word. -/
theorem nsec_any (b o : Nat) (m : Int) (w : World) (h0 : 0 ≤ m) (h1 : m < 1000000000) (hc : w.cell? ⟨b, o, none⟩ = some (.int .u64 m)) :
    Calls Try.prog 23 #[.pointer (some ⟨b, o, none⟩)] w fun e w' => e = .returned (.int .i32 m) ∧ w' = w := by
  have hm := and_mask m h0 (by omega)
  go_enter Try.func23, Try.ntmps23
  go_wp2
  go_ret
  exact ⟨rfl, rfl⟩

theorem sec_any (b o : Nat) (m s : Int) (w : World) (h0 : 0 ≤ m) (h1 : m < 1000000000) (hc : w.cell? ⟨b, o, none⟩ = some (.int .u64 m)) (hs : w.cell? ⟨b, o + 1, none⟩ = some (.int .i64 s)) :
    Calls Try.prog 32 #[.pointer (some ⟨b, o, none⟩)] w fun e w' => e = .returned (.int .i64 s) ∧ w' = w := by
  have hm := and_mono m h0 (by omega)
  go_enter Try.func32, Try.ntmps32
  go_wp2
  go_ret
  exact ⟨rfl, rfl⟩

/-- addSec, no monotonic reading, no overflow. -/
theorem addSec_any (b o : Nat) (m s d : Int) (w : World) (h0 : 0 ≤ m) (h1 : m < 1000000000) (hs1 : -20000000000 ≤ s) (hs2 : s ≤ 20000000000) (hd1 : -20000000000 ≤ d) (hd2 : d ≤ 20000000000)
    (hc : w.cell? ⟨b, o, none⟩ = some (.int .u64 m)) (hs : w.cell? ⟨b, o + 1, none⟩ = some (.int .i64 s)) (hf : w.frozen? ⟨b, o + 1, none⟩ = false) :
    Calls Try.prog 24 #[.pointer (some ⟨b, o, none⟩), .int .i64 d] w fun e w' => e = .returned (.tuple #[]) ∧ w' = w.setCell ⟨b, o + 1, none⟩ (.int .i64 (s + d)) := by
  have hm := and_mono m h0 (by omega)
  go_enter Try.func24, Try.ntmps24
  by_cases hd : 0 < d
  · have h2 : s < s + d := by omega
    go_wp2
    go_end0
    exact ⟨rfl, rfl⟩
  · have h2 : ¬ s < s + d := by omega
    go_wp2
    go_end0
    exact ⟨rfl, rfl⟩

/-- Unix, Nanosecond, of a time without a monotonic reading. -/
theorem unixSec_any (b o : Nat) (m s : Int) (w : World) (h0 : 0 ≤ m) (h1 : m < 1000000000) (hs1 : -20000000000 ≤ s) (hs2 : s ≤ 20000000000) (hc : w.cell? ⟨b, o, none⟩ = some (.int .u64 m)) (hs : w.cell? ⟨b, o + 1, none⟩ = some (.int .i64 s)) :
    Calls Try.prog 36 #[.pointer (some ⟨b, o, none⟩)] w fun e w' => e = .returned (.int .i64 (s + -62135596800)) ∧ w' = w := by
  go_enter Try.func36, Try.ntmps36
  go_wp2_with (go_at_call 32; refine (sec_any b o m s _ h0 h1 hc hs).mono ?_; rintro e w' ⟨rfl, rfl⟩)
  go_ret
  exact ⟨rfl, rfl⟩

theorem unix_any (m s : Int) (w : World) (h0 : 0 ≤ m) (h1 : m < 1000000000) (hs1 : -20000000000 ≤ s) (hs2 : s ≤ 20000000000) :
    Calls Try.prog 30 #[.agg #[.int .u64 m, .int .i64 s, .pointer none]] w fun e w' => e = .returned (.int .i64 (s + -62135596800)) ∧ w' = w.alloc (.cells #[.int .u64 m, .int .i64 s, .pointer none] 48) := by
  go_enter Try.func30, Try.ntmps30
  go_wp2_with (go_at_call 36; refine (unixSec_any _ _ m s _ h0 h1 hs1 hs2 (by simp) (by simp)).mono ?_; rintro e w' ⟨rfl, rfl⟩)
  go_ret
  exact ⟨rfl, rfl⟩

theorem nano_any (m s : Int) (w : World) (h0 : 0 ≤ m) (h1 : m < 1000000000) :
    Calls Try.prog 31 #[.agg #[.int .u64 m, .int .i64 s, .pointer none]] w fun e w' => e = .returned (.int .i64 m) ∧ w' = w.alloc (.cells #[.int .u64 m, .int .i64 s, .pointer none] 48) := by
  go_enter Try.func31, Try.ntmps31
  go_wp2_with (go_at_call 23; refine (nsec_any _ _ m _ h0 h1 (by simp)).mono ?_; rintro e w' ⟨rfl, rfl⟩)
  go_ret
  exact ⟨rfl, rfl⟩

theorem and_two (m m' : Int) (h0 : 0 ≤ m) (h1 : m < 1000000000) (h0' : 0 ≤ m') (h1' : m' < 1000000000) : bits .and .u64 (bits .and .u64 m m') 9223372036854775808 = 0 := by
  have h : m.toNat &&& m'.toNat ≤ m.toNat := Nat.and_le_left
  rw [u64_and m m' h0 (by omega) h0' (by omega)]
  exact and_mono _ (by omega) (by omega)

theorem ret_bool {a b : Bool} (h : a = b) : Ending.returned (.bool a) = .returned (.bool b) := by rw [h]

/-- Before. -/
theorem before_any (m s m' s' : Int) (w : World) (h0 : 0 ≤ m) (h1 : m < 1000000000) (h0' : 0 ≤ m') (h1' : m' < 1000000000) :
    Calls Try.prog 35 #[.agg #[.int .u64 m, .int .i64 s, .pointer none], .agg #[.int .u64 m', .int .i64 s', .pointer none]] w fun e w' =>
      e = .returned (.bool (decide (s * 1000000000 + m < s' * 1000000000 + m'))) ∧ w' = (w.alloc (.cells #[.int .u64 m, .int .i64 s, .pointer none] 48)).alloc (.cells #[.int .u64 m', .int .i64 s', .pointer none] 48) := by
  have hm := and_two m m' h0 h1 h0' h1'
  rcases Int.lt_trichotomy s s' with hs | hs | hs
  · go_enter Try.func35, Try.ntmps35
    go_wp2_with fail
    refine (sec_any _ _ m s _ h0 h1 (by simp) (by simp)).mono ?_
    rintro e w' ⟨rfl, rfl⟩
    go_wp2_with fail
    refine (sec_any _ _ m' s' _ h0' h1' (by simp) (by simp)).mono ?_
    rintro e w' ⟨rfl, rfl⟩
    go_wp2_with fail
    go_ret
    exact ⟨ret_bool (by simp; omega), rfl⟩
  · subst hs
    have hs2 : ¬ s < s := by omega
    have hd : decide (s < s) = false := by simp
    go_enter Try.func35, Try.ntmps35
    go_wp2_with fail
    refine (sec_any _ _ m s _ h0 h1 (by simp) (by simp)).mono ?_
    rintro e w' ⟨rfl, rfl⟩
    go_wp2_with fail
    refine (sec_any _ _ m' s _ h0' h1' (by simp) (by simp)).mono ?_
    rintro e w' ⟨rfl, rfl⟩
    go_wp2_with fail
    refine (nsec_any _ _ m _ h0 h1 (by simp)).mono ?_
    rintro e w' ⟨rfl, rfl⟩
    go_wp2_with fail
    refine (nsec_any _ _ m' _ h0' h1' (by simp)).mono ?_
    rintro e w' ⟨rfl, rfl⟩
    go_wp2_with fail
    go_ret
    exact ⟨ret_bool (by simp), rfl⟩
  · have hs2 : ¬ s < s' := by omega
    have hs3 : (s == s') = false := by simp; omega
    go_enter Try.func35, Try.ntmps35
    go_wp2_with fail
    refine (sec_any _ _ m s _ h0 h1 (by simp) (by simp)).mono ?_
    rintro e w' ⟨rfl, rfl⟩
    go_wp2_with fail
    refine (sec_any _ _ m' s' _ h0' h1' (by simp) (by simp)).mono ?_
    rintro e w' ⟨rfl, rfl⟩
    go_wp2_with fail
    go_ret
    exact ⟨ret_bool (by simp; omega), rfl⟩

end Go.Proofs.Qxb6615927a
