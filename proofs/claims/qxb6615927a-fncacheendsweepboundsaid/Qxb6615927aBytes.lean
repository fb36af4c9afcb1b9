import Derived.Test.Qxb6615927aAdd
import Derived.Deep.LoopGhost
namespace Go.Proofs.Qxb6615927a
open Go.RowKit

/-- Some bool was handed back. -/
def SomeBool (e : Ending) : Prop := ∃ b, e = .returned (.bool b)

set_option maxHeartbeats 400000 in
theorem bytes_any (a0 a3 : Option Addr) (n0 c0 n3 c3 : Nat) (k1 k2 k4 k5 : Int) (w : World) (h0 : n0 ≤ maxLen) (h3 : n3 ≤ maxLen) :
    Calls Try.prog 8 #[.slice a0 n0 c0, .int .i64 k1, .int .i64 k2, .slice a3 n3 c3, .int .i64 k4, .int .i64 k5] w fun e w' => SomeBool e ∧ w' = w := by
  unfold maxLen at h0 h3
  by_cases g0 : 1048576 < (n0 : Int)
  · go_enter Try.func8, Try.ntmps8
    go_wp2
    go_ret
    exact ⟨⟨_, rfl⟩, rfl⟩
  go_enter Try.func8, Try.ntmps8
  go_wp2
  go_loop [13, 14] (fun z i => ∃ (k : Nat) (m : Int), k ≤ n0 ∧ i = .int .i64 k ∧ z = .int .i64 m ∧ 0 ≤ m ∧ m ≤ 1048576) (fun _ i => n0 - (intOf i).toNat)
  case atStart => exact ⟨0, n0, by omega, rfl, rfl, by omega, by omega⟩
  case round =>
    obtain ⟨k, m, hk, rfl, rfl, hm0, hm1⟩ := hrel
    by_cases hlt : k < n0
    · by_cases hm : 1048576 < m + 4
      · go_wp2
        go_ret
        exact ⟨⟨_, rfl⟩, rfl⟩
      · go_wp2
        go_round
        case rel => exact ⟨k + 1, m + 4, by omega, by go_num, by go_num, by omega, by omega⟩
        case measure => simp [intOf]; omega
    · by_cases g3 : 1048576 < (n3 : Int)
      · go_wp2
        go_ret
        exact ⟨⟨_, rfl⟩, rfl⟩
      by_cases g4 : 1048576 < m + (n3 : Int)
      · go_wp2
        go_ret
        exact ⟨⟨_, rfl⟩, rfl⟩
      go_wp2
      go_loop [13, 15] (fun z i => ∃ (k : Nat) (m : Int), k ≤ n3 ∧ i = .int .i64 k ∧ z = .int .i64 m ∧ 0 ≤ m ∧ m ≤ 1048576) (fun _ i => n3 - (intOf i).toNat)
      case atStart => exact ⟨0, _, by omega, rfl, rfl, by omega, by omega⟩
      case round =>
        obtain ⟨k', m', hk', rfl, rfl, hm0', hm1'⟩ := hrel
        by_cases hlt' : k' < n3
        · by_cases hm : 1048576 < m' + 4
          · go_wp2
            go_ret
            exact ⟨⟨_, rfl⟩, rfl⟩
          · go_wp2
            go_round
            case rel => exact ⟨k' + 1, m' + 4, by omega, by go_num, by go_num, by omega, by omega⟩
            case measure => simp [intOf]; omega
        · go_wp2
          go_ret
          exact ⟨⟨_, rfl⟩, rfl⟩

end Go.Proofs.Qxb6615927a
