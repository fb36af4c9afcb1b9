import Derived.Test.Qxb6614484aSmall
namespace Go.Proofs.Qxb6614484a
open Go.RowKit

set_option maxRecDepth 100000 in
set_option maxHeartbeats 400000 in
/-- holdsAll, where the set holds them all. -/
theorem holdsAll_any (sb n : Nat) (R : Nat → Bool) (a : Option Addr) (l c : Nat) (f : Nat → Int) (w : World) (hr : w.rowIs sb 4 n (fun q => .bool (R q))) (h : Ints w a l f) (hl : l ≤ maxLen) (hh : ∀ i, i < l → ∃ x : Nat, f i = x ∧ x < n ∧ R x = true) :
    Calls Try.prog 12 #[.slice (some ⟨sb, 0, none⟩) n n, .slice a l c] w fun e w' => e = .returned (.bool true) ∧ w' = w := by
  unfold maxLen at hl
  go_enter Try.func12, Try.ntmps12
  go_wp2
  go_loopg [5] l (fun g i wr => ∃ k : Nat, k + g = l ∧ i = .int .i64 k ∧ wr = w)
  case atStart => exact ⟨0, by omega, rfl, rfl⟩
  case round =>
    obtain ⟨k, hkg, rfl, rfl⟩ := hrel
    have HK : Hid (k + gk = l) := hkg
    clear hkg
    by_cases hlt : k < l
    · obtain ⟨b, o, rfl, hc⟩ := h k hlt
      obtain ⟨x, hx, hxn, hRx⟩ := hh k hlt
      rw [hx] at hc
      have hkn : (k : Int) < l := by omega
      have hxi : (x : Int) < n := by omega
      have hs := hr.cell hxn
      rw [hRx] at hs
      clear hx hRx
      go_wp2
      go_roundg (gk - 1)
      case measure => have := HK.out; omega
      case rel => exact ⟨k + 1, by have := HK.out; omega, by go_num, rfl⟩
    · go_wp2
      go_ret
      exact ⟨rfl, rfl⟩

set_option maxRecDepth 100000 in
set_option maxHeartbeats 400000 in
/-- sameBools, where they are the same. -/
theorem sameBools_any (sb tb n : Nat) (R S : Nat → Bool) (w : World) (hr : w.rowIs sb 4 n (fun q => .bool (R q))) (ht : w.rowIs tb 4 n (fun q => .bool (S q))) (hn : n ≤ 65536) (hh : ∀ q, q < n → R q = S q) :
    Calls Try.prog 15 #[.slice (some ⟨sb, 0, none⟩) n n, .slice (some ⟨tb, 0, none⟩) n n] w fun e w' => e = .returned (.bool true) ∧ Kp [] w w' := by
  go_enter Try.func15, Try.ntmps15
  go_wp2
  go_loopg [5] n (fun g i wr => ∃ k : Nat, k + g = n ∧ i = .int .i64 k ∧ Kp [] w wr)
  case atStart => exact ⟨0, by omega, rfl, Kp.refl _ _⟩
  case round =>
    obtain ⟨k, hkg, rfl, hk⟩ := hrel
    have HK : Hid (k + gk = n) := hkg
    clear hkg
    by_cases hlt : k < n
    · have hkn : (k : Int) < n := by omega
      have h1 := (hk.row hr (by simp)).cell hlt
      have h2 := (hk.row ht (by simp)).cell hlt
      rw [hh k hlt] at h1
      go_wp2
      go_quiet (fail)
      go_wp2
      go_roundg (gk - 1)
      case measure => have := HK.out; omega
      case rel => exact ⟨k + 1, by have := HK.out; omega, by go_num, hk.drewN _⟩
    · go_wp2
      go_ret
      exact ⟨rfl, hk⟩

end Go.Proofs.Qxb6614484a
