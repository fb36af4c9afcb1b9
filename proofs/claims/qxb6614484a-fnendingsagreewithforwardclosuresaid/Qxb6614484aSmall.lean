import Derived.Test.Qxb6614484aZZ
namespace Go.Proofs.Qxb6614484a
open Go.RowKit

/-- The bound on the total length: where it says yes, no row is long. -/
def Short (dn : Nat) (len : Nat → Nat) (e : Ending) : Prop := ∃ b, e = .returned (.bool b) ∧ (b = true → ∀ q, q < dn → len q ≤ 1048576)
theorem Short.no {dn : Nat} {len : Nat → Nat} : Short dn len (.returned (.bool false)) := ⟨false, rfl, fun h => by cases h⟩
def SomeInt (e : Ending) : Prop := ∃ k : Int, e = .returned (.int .i64 k)
/-- A test of a list: where it says yes, all its elements lie in range. -/
def Within (P : Prop) (e : Ending) : Prop := ∃ b, e = .returned (.bool b) ∧ (b = true → P)
theorem Within.no {P : Prop} : Within P (.returned (.bool false)) := ⟨false, rfl, fun h => by cases h⟩

set_option maxRecDepth 100000 in
set_option maxHeartbeats 1000000 in
theorem bytes14_any (nn : Int) (a1 a2 da : Option Addr) (n1 c1 n2 c2 dn dc : Nat) (len : Nat → Nat) (el : Nat → Nat → Int) (w : World) (hA : Adj w da dn len el) (h1 : n1 ≤ maxLen) (h2 : n2 ≤ maxLen) (hd : dn ≤ maxLen) :
    Calls Try.prog 14 #[.int .i64 nn, .slice a1 n1 c1, .slice a2 n2 c2, .slice da dn dc] w fun e w' => Short dn len e ∧ w' = w := by
  unfold maxLen at h1 h2 hd
  by_cases g0 : 1048576 < (n1 : Int)
  · go_enter Try.func14, Try.ntmps14
    go_wp2
    go_ret
    exact ⟨.no, rfl⟩
  by_cases g1 : 1048576 < (n2 : Int)
  · go_enter Try.func14, Try.ntmps14
    go_wp2
    go_ret
    exact ⟨.no, rfl⟩
  by_cases g2 : 1048576 < (n1 : Int) + (n2 : Int)
  · go_enter Try.func14, Try.ntmps14
    go_wp2
    go_ret
    exact ⟨.no, rfl⟩
  by_cases g3 : 1048576 < (dn : Int)
  · go_enter Try.func14, Try.ntmps14
    go_wp2
    go_ret
    exact ⟨.no, rfl⟩
  by_cases g4 : 1048576 < (n1 : Int) + (n2 : Int) + (dn : Int)
  · go_enter Try.func14, Try.ntmps14
    go_wp2
    go_ret
    exact ⟨.no, rfl⟩
  go_enter Try.func14, Try.ntmps14
  go_wp2
  go_loopg [9, 10] dn (fun g z i wr => ∃ (k : Nat) (m : Int), k + g = dn ∧ i = .int .i64 k ∧ z = .int .i64 m ∧ 0 ≤ m ∧ m ≤ 1048576 ∧ wr = w ∧ ∀ q, q < k → len q ≤ 1048576)
  case atStart => exact ⟨0, _, by omega, rfl, rfl, by omega, by omega, rfl, fun q hq => by omega⟩
  case round =>
    obtain ⟨k, m, hkg, rfl, rfl, hm0, hm1, rfl, hl⟩ := hrel
    have HK : Hid (k + gk = dn) := hkg
    have HL : Hid (∀ q, q < k → len q ≤ 1048576) := hl
    clear hkg hl
    by_cases hlt : k < dn
    · obtain ⟨b, o, rfl, x, cp, hc, hb⟩ := hA k hlt
      have hkn : (k : Int) < dn := by omega
      by_cases hs : 1048576 < (len k : Int)
      · go_wp2
        go_ret
        exact ⟨.no, rfl⟩
      by_cases hm : 1048576 < m + (len k : Int)
      · go_wp2
        go_ret
        exact ⟨.no, rfl⟩
      · go_wp2
        go_roundg (gk - 1)
        case measure => have := HK.out; omega
        case rel =>
          refine ⟨k + 1, m + (len k : Int), by have := HK.out; omega, by go_num, by go_num, by omega, by omega, rfl, fun q hq => ?_⟩
          by_cases e : q = k
          · subst e; omega
          · exact HL.out q (by omega)
    · go_wp2
      go_ret
      exact ⟨⟨true, rfl, fun _ q hq => HL.out q (by omega)⟩, rfl⟩

set_option maxRecDepth 100000 in
set_option maxHeartbeats 400000 in
theorem adjBytes_any (base : Int) (da : Option Addr) (dn dc : Nat) (len : Nat → Nat) (el : Nat → Nat → Int) (w : World) (hA : Adj w da dn len el) (h0 : 0 ≤ base) (h1 : base ≤ 16777216) (hd : dn ≤ maxLen) (hl : ∀ q, q < dn → len q ≤ 1048576) :
    Calls Try.prog 8 #[.int .i64 base, .slice da dn dc] w fun e w' => SomeInt e ∧ w' = w := by
  unfold maxLen at hd
  go_enter Try.func8, Try.ntmps8
  go_wp2
  go_loopg [5, 6] dn (fun g z i wr => ∃ (k : Nat) (m : Int), k + g = dn ∧ i = .int .i64 k ∧ z = .int .i64 m ∧ 0 ≤ m ∧ m ≤ 33554432 ∧ wr = w)
  case atStart => exact ⟨0, _, by omega, rfl, rfl, by omega, by omega, rfl⟩
  case round =>
    obtain ⟨k, m, hkg, rfl, rfl, hm0, hm1, rfl⟩ := hrel
    have HK : Hid (k + gk = dn) := hkg
    clear hkg
    by_cases hlt : k < dn
    · by_cases hm : m ≤ 1048576
      · obtain ⟨b, o, rfl, x, cp, hc, hb⟩ := hA k hlt
        have hkn : (k : Int) < dn := by omega
        have hlk := hl k hlt
        have hlk' : (len k : Int) ≤ 1048576 := by omega
        go_wp2
        go_roundg (gk - 1)
        case measure => have := HK.out; omega
        case rel => exact ⟨k + 1, m + 8 * (len k : Int), by have := HK.out; omega, by go_num, by go_num, by omega, by omega, rfl⟩
      · have hm' : 1048576 < m := by omega
        go_wp2
        go_ret
        exact ⟨⟨_, rfl⟩, rfl⟩
    · go_wp2
      go_ret
      exact ⟨⟨_, rfl⟩, rfl⟩

set_option maxRecDepth 100000 in
set_option maxHeartbeats 400000 in
theorem allIn_any (n : Nat) (a : Option Addr) (l c : Nat) (f : Nat → Int) (w : World) (h : Ints w a l f) (hl : l ≤ maxLen) :
    Calls Try.prog 9 #[.int .i64 n, .slice a l c] w fun e w' => Within (∀ i, i < l → 0 ≤ f i ∧ f i < n) e ∧ w' = w := by
  unfold maxLen at hl
  go_enter Try.func9, Try.ntmps9
  go_wp2
  go_loopg [5] l (fun g i wr => ∃ k : Nat, k + g = l ∧ i = .int .i64 k ∧ wr = w ∧ ∀ i, i < k → 0 ≤ f i ∧ f i < n)
  case atStart => exact ⟨0, by omega, rfl, rfl, fun i hi => by omega⟩
  case round =>
    obtain ⟨k, hkg, rfl, rfl, hd⟩ := hrel
    have HK : Hid (k + gk = l) := hkg
    have HD : Hid (∀ i, i < k → 0 ≤ f i ∧ f i < n) := hd
    clear hkg hd
    by_cases hlt : k < l
    · obtain ⟨b, o, rfl, hc⟩ := h k hlt
      have hkn : (k : Int) < l := by omega
      by_cases h1 : f k < 0
      · go_wp2
        go_ret
        exact ⟨.no, rfl⟩
      by_cases h2 : (n : Int) ≤ f k
      · go_wp2
        go_ret
        exact ⟨.no, rfl⟩
      · go_wp2
        go_roundg (gk - 1)
        case measure => have := HK.out; omega
        case rel =>
          refine ⟨k + 1, by have := HK.out; omega, by go_num, rfl, fun i hi => ?_⟩
          by_cases e : i = k
          · subst e; omega
          · exact HD.out i (by omega)
    · go_wp2
      go_ret
      exact ⟨⟨true, rfl, fun _ i hi => HD.out i (by omega)⟩, rfl⟩

set_option maxRecDepth 100000 in
set_option maxHeartbeats 400000 in
theorem linksIn_any (n : Nat) (da : Option Addr) (dn dc : Nat) (len : Nat → Nat) (el : Nat → Nat → Int) (w : World) (hA : Adj w da dn len el) (hn : n ≤ 65536) (hnd : n ≤ dn) (hl : ∀ q, q < dn → len q ≤ maxLen) :
    Calls Try.prog 10 #[.int .i64 n, .slice da dn dc] w fun e w' => Within (∀ q, q < n → ∀ i, i < len q → 0 ≤ el q i ∧ el q i < n) e ∧ w' = w := by
  go_enter Try.func10, Try.ntmps10
  go_wp2
  go_loopg [5] n (fun g i wr => ∃ k : Nat, k + g = n ∧ i = .int .i64 k ∧ wr = w ∧ ∀ q, q < k → ∀ i, i < len q → 0 ≤ el q i ∧ el q i < n)
  case atStart => exact ⟨0, by omega, rfl, rfl, fun i hi => by omega⟩
  case round =>
    obtain ⟨k, hkg, rfl, rfl, hd⟩ := hrel
    have HK : Hid (k + gk = n) := hkg
    have HD : Hid (∀ q, q < k → ∀ i, i < len q → 0 ≤ el q i ∧ el q i < n) := hd
    clear hkg hd
    by_cases hlt : k < n
    · obtain ⟨b, o, rfl, x, cp, hc, hb⟩ := hA k (by omega)
      have hkn : (k : Int) < dn := by omega
      have hkn' : (k : Int) < n := by omega
      go_wp2_with fail
      refine (allIn_any n x (len k) cp (el k) _ hb (hl k (by omega))).mono ?_
      rintro e w2 ⟨⟨bb, rfl, hbb⟩, rfl⟩
      cases bb with
      | false =>
        clear hbb
        go_wp2_with fail
        go_ret
        exact ⟨.no, rfl⟩
      | true =>
        have HB := Hid.mk' (hbb rfl)
        clear hbb
        go_wp2_with fail
        go_roundg (gk - 1)
        case measure => have := HK.out; omega
        case rel =>
          refine ⟨k + 1, by have := HK.out; omega, by go_num, rfl, fun q hq => ?_⟩
          by_cases e : q = k
          · subst e; exact HB.out
          · exact HD.out q (by omega)
    · have hkn : ¬ (k : Int) < n := by omega
      go_wp2
      go_ret
      exact ⟨⟨true, rfl, fun _ q hq => HD.out q (by omega)⟩, rfl⟩

end Go.Proofs.Qxb6614484a
