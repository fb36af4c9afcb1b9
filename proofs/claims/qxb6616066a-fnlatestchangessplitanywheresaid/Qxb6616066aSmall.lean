import Derived.Test.Qxb6616066aLatest
namespace Go.Proofs.Qxb6616066a
open Go.RowKit

set_option maxHeartbeats 400000 in
/-- ZZlatestChanges: the columns, one by one. -/
theorem zz_any (a : Option Addr) (n c : Nat) (Ks : Nat → ByteArray) (V : Nat → Int) (B : Nat → ByteArray) (w : World) (hn : n ≤ 4096) (hev : Evs w a n Ks V B) (hks : ∀ i, i < n → (Ks i).size ≤ maxLen) :
    Calls Try.prog 8 #[.slice a n c] w fun e w' => ∃ kb vb db, e = .returned (.tuple #[.slice (some ⟨kb, 0, none⟩) (firsts (qOf Ks) n).length n, .slice (some ⟨vb, 0, none⟩) (firsts (qOf Ks) n).length n, .slice (some ⟨db, 0, none⟩) (firsts (qOf Ks) n).length n, .int .i64 (empties (datStr (qOf Ks) V B n) (firsts (qOf Ks) n).length)]) ∧ Out w w' kb vb db n Ks V B := by
  go_enter Try.func8, Try.ntmps8
  go_wp2_with fail
  refine (latest_any a n c Ks V B _ hn hev hks).mono ?_
  rintro e w1 ⟨kb, vb, db, rfl, ho⟩
  go_wp2
  go_quiet (fail)
  go_wp2
  refine bodyPost_ret (v := .tuple #[.slice (some ⟨kb, 0, none⟩) (firsts (qOf Ks) n).length n, .slice (some ⟨vb, 0, none⟩) (firsts (qOf Ks) n).length n, .slice (some ⟨db, 0, none⟩) (firsts (qOf Ks) n).length n, .int .i64 (empties (datStr (qOf Ks) V B n) (firsts (qOf Ks) n).length)]) (by simp [results, Try.results8, go_sem]) rfl ⟨kb, vb, db, rfl, ?_⟩
  exact ⟨ho.kr.alloc _, ho.vr.alloc _, ho.dr.alloc _, (ho.kept.alloc _).drewN _, ho.k0, ho.v0, ho.d0⟩

set_option maxHeartbeats 400000 in
/-- zzLCFirst. -/
theorem first_any (a : Option Addr) (n c i : Nat) (Ks : Nat → ByteArray) (w : World) (h : Strs w a n Ks) (hi : i < n) (hn : n ≤ 4096) :
    Calls Try.prog 9 #[.slice a n c, .int .i64 i] w fun e w' => e = .returned (.bool (isFirst (qOf Ks) i)) ∧ Kp [] w w' := by
  go_enter Try.func9, Try.ntmps9
  go_wp2
  go_loopg [5] i (fun g v wr => ∃ k : Nat, k + g = i ∧ v = .int .i64 k ∧ Kp [] w wr ∧ ∀ j, j < k → qOf Ks j ≠ qOf Ks i)
  case atStart => exact ⟨0, by omega, rfl, Kp.refl _ _, fun j hj => by omega⟩
  case round =>
    obtain ⟨k, hkg, rfl, hkp, hno⟩ := hrel
    obtain ⟨b, o, rfl, h1⟩ := h.later hkp i hi
    obtain ⟨b', o', e, h2⟩ := h.later hkp k (by omega)
    cases e
    have hin : (i : Int) < n := by omega
    have HK : Hid (k + gk = i) := hkg
    have HN : Hid (∀ j, j < k → qOf Ks j ≠ qOf Ks i) := hno
    clear hkg hno
    by_cases hlt : k < i
    · have hkn : (k : Int) < n := by omega
      cases hq : ((Ks k).toList == (Ks i).toList) with
      | true =>
        go_wp2
        go_quiet (fail)
        go_wp2
        go_ret
        refine ⟨?_, hkp.drewN _⟩
        have : isFirst (qOf Ks) i = false := by
          cases hf : isFirst (qOf Ks) i
          · rfl
          · exact absurd (by simpa using hq) (isFirst_iff.1 hf k hlt)
        rw [this]; rfl
      | false =>
        go_wp2
        go_quiet (fail)
        go_wp2
        go_roundg (gk - 1)
        case measure => have := HK.out; omega
        case rel =>
          refine ⟨k + 1, by have := HK.out; omega, by go_num, hkp.drewN _, fun j hj => ?_⟩
          by_cases e : j = k
          · subst e
            intro e'
            simp [qOf] at e'
            simp [e'] at hq
          · exact HN.out j (by omega)
    · go_wp2
      go_ret
      refine ⟨?_, hkp⟩
      have : isFirst (qOf Ks) i = true := isFirst_iff.2 fun j hj => HN.out j (by omega)
      rw [this]; rfl

/-- Some bool was handed back. -/
def SomeBool (e : Ending) : Prop := ∃ b, e = .returned (.bool b)

/-- A slice of byte slices: cell i holds a slice that spells B i. -/
def Rws (w : World) (a : Option Addr) (n : Nat) (B : Nat → ByteArray) : Prop := ∀ i, i < n → ∃ b o, a = some ⟨b, o, none⟩ ∧ ∃ x l cp, w.cell? ⟨b, o + i, none⟩ = some (.slice x l cp) ∧ Bts w x l (B i)
theorem Rws.later {w w' : World} {a : Option Addr} {n : Nat} {B : Nat → ByteArray} (h : Rws w a n B) (g : Kp [] w w') : Rws w' a n B := fun i hi => by
  obtain ⟨b, o, e, x, l, cp, h1, h2⟩ := h i hi
  exact ⟨b, o, e, x, l, cp, g.cellSome h1, h2.later g⟩

set_option maxRecDepth 100000 in
set_option maxHeartbeats 1000000 in
/-- zzBytes: some bool. -/
theorem bytes_any (a0 a1 a2 : Option Addr) (n0 c0 n1 c1 n2 c2 : Nat) (Ks : Nat → ByteArray) (B : Nat → ByteArray) (w : World) (hK : Strs w a0 n0 Ks) (hB : Rws w a2 n2 B) (h0 : n0 ≤ maxLen) (h1 : n1 ≤ maxLen) (h2 : n2 ≤ maxLen) :
    Calls Try.prog 5 #[.slice a0 n0 c0, .slice a1 n1 c1, .slice a2 n2 c2] w fun e w' => SomeBool e ∧ w' = w := by
  unfold maxLen at h0 h1 h2
  by_cases g0 : 1048576 < (n0 : Int)
  · go_enter Try.func5, Try.ntmps5
    go_wp2
    go_ret
    exact ⟨⟨_, rfl⟩, rfl⟩
  go_enter Try.func5, Try.ntmps5
  go_wp2
  go_loopg [7, 8] n0 (fun g z i wr => ∃ (k : Nat) (m : Int), k + g = n0 ∧ i = .int .i64 k ∧ z = .int .i64 m ∧ 0 ≤ m ∧ m ≤ 1048576 ∧ wr = w)
  case atStart => exact ⟨0, n0, by omega, rfl, rfl, by omega, by omega, rfl⟩
  case round =>
    obtain ⟨k, m, hkg, rfl, rfl, hm0, hm1, rfl⟩ := hrel
    have HK : Hid (k + gk = n0) := hkg
    clear hkg
    by_cases hlt : k < n0
    · obtain ⟨b, o, rfl, hc⟩ := hK k hlt
      have hkn : (k : Int) < n0 := by omega
      by_cases hs : 1048576 < ((Ks k).size : Int)
      · go_wp2
        go_ret
        exact ⟨⟨_, rfl⟩, rfl⟩
      by_cases hm : 1048576 < m + ((Ks k).size : Int)
      · go_wp2
        go_ret
        exact ⟨⟨_, rfl⟩, rfl⟩
      · go_wp2
        go_roundg (gk - 1)
        case measure => have := HK.out; omega
        case rel => exact ⟨k + 1, m + ((Ks k).size : Int), by have := HK.out; omega, by go_num, by go_num, by omega, by omega, rfl⟩
    · by_cases g1 : 1048576 < (n1 : Int)
      · go_wp2
        go_ret
        exact ⟨⟨_, rfl⟩, rfl⟩
      by_cases g2 : 1048576 < m + (n1 : Int)
      · go_wp2
        go_ret
        exact ⟨⟨_, rfl⟩, rfl⟩
      by_cases g3 : 1048576 < (n2 : Int)
      · go_wp2
        go_ret
        exact ⟨⟨_, rfl⟩, rfl⟩
      by_cases g4 : 1048576 < m + (n1 : Int) + (n2 : Int)
      · go_wp2
        go_ret
        exact ⟨⟨_, rfl⟩, rfl⟩
      go_wp2
      go_loopg [7, 9] n2 (fun g z i wx => ∃ (k : Nat) (m : Int), k + g = n2 ∧ i = .int .i64 k ∧ z = .int .i64 m ∧ 0 ≤ m ∧ m ≤ 1048576 ∧ wx = wr)
      case atStart => exact ⟨0, _, by omega, rfl, rfl, by omega, by omega, rfl⟩
      case round =>
        obtain ⟨k', m', hkg', rfl, rfl, hm0', hm1', rfl⟩ := hrel
        have HK' : Hid (k' + gk = n2) := hkg'
        clear hkg'
        by_cases hlt' : k' < n2
        · obtain ⟨b, o, rfl, x, l, cp, hc, hb⟩ := hB k' hlt'
          have hkn' : (k' : Int) < n2 := by omega
          by_cases hs : 1048576 < (l : Int)
          · go_wp2
            go_ret
            exact ⟨⟨_, rfl⟩, rfl⟩
          by_cases hm : 1048576 < m' + (l : Int)
          · go_wp2
            go_ret
            exact ⟨⟨_, rfl⟩, rfl⟩
          · go_wp2
            go_roundg (gk - 1)
            case measure => have := HK'.out; omega
            case rel => exact ⟨k' + 1, m' + (l : Int), by have := HK'.out; omega, by go_num, by go_num, by omega, by omega, rfl⟩
        · go_wp2
          go_ret
          exact ⟨⟨_, rfl⟩, rfl⟩

set_option maxRecDepth 100000 in
set_option maxHeartbeats 1000000 in
/-- zzBytes: some bool. -/
theorem bytes2_any (a0 a1 a2 : Option Addr) (n0 c0 n1 c1 n2 c2 : Nat) (cut : Int) (Ks : Nat → ByteArray) (B : Nat → ByteArray) (w : World) (hK : Strs w a0 n0 Ks) (hB : Rws w a2 n2 B) (h0 : n0 ≤ maxLen) (h1 : n1 ≤ maxLen) (h2 : n2 ≤ maxLen) :
    Calls Try.prog 10 #[.slice a0 n0 c0, .slice a1 n1 c1, .slice a2 n2 c2, .int .i64 cut] w fun e w' => SomeBool e ∧ w' = w := by
  unfold maxLen at h0 h1 h2
  by_cases g0 : 1048576 < (n0 : Int)
  · go_enter Try.func10, Try.ntmps10
    go_wp2
    go_ret
    exact ⟨⟨_, rfl⟩, rfl⟩
  go_enter Try.func10, Try.ntmps10
  go_wp2
  go_loopg [9, 10] n0 (fun g z i wr => ∃ (k : Nat) (m : Int), k + g = n0 ∧ i = .int .i64 k ∧ z = .int .i64 m ∧ 0 ≤ m ∧ m ≤ 1048576 ∧ wr = w)
  case atStart => exact ⟨0, n0, by omega, rfl, rfl, by omega, by omega, rfl⟩
  case round =>
    obtain ⟨k, m, hkg, rfl, rfl, hm0, hm1, rfl⟩ := hrel
    have HK : Hid (k + gk = n0) := hkg
    clear hkg
    by_cases hlt : k < n0
    · obtain ⟨b, o, rfl, hc⟩ := hK k hlt
      have hkn : (k : Int) < n0 := by omega
      by_cases hs : 1048576 < ((Ks k).size : Int)
      · go_wp2
        go_ret
        exact ⟨⟨_, rfl⟩, rfl⟩
      by_cases hm : 1048576 < m + ((Ks k).size : Int)
      · go_wp2
        go_ret
        exact ⟨⟨_, rfl⟩, rfl⟩
      · go_wp2
        go_roundg (gk - 1)
        case measure => have := HK.out; omega
        case rel => exact ⟨k + 1, m + ((Ks k).size : Int), by have := HK.out; omega, by go_num, by go_num, by omega, by omega, rfl⟩
    · by_cases g1 : 1048576 < (n1 : Int)
      · go_wp2
        go_ret
        exact ⟨⟨_, rfl⟩, rfl⟩
      by_cases g2 : 1048576 < m + (n1 : Int)
      · go_wp2
        go_ret
        exact ⟨⟨_, rfl⟩, rfl⟩
      by_cases g3 : 1048576 < (n2 : Int)
      · go_wp2
        go_ret
        exact ⟨⟨_, rfl⟩, rfl⟩
      by_cases g4 : 1048576 < m + (n1 : Int) + (n2 : Int)
      · go_wp2
        go_ret
        exact ⟨⟨_, rfl⟩, rfl⟩
      go_wp2
      go_loopg [9, 11] n2 (fun g z i wx => ∃ (k : Nat) (m : Int), k + g = n2 ∧ i = .int .i64 k ∧ z = .int .i64 m ∧ 0 ≤ m ∧ m ≤ 1048576 ∧ wx = wr)
      case atStart => exact ⟨0, _, by omega, rfl, rfl, by omega, by omega, rfl⟩
      case round =>
        obtain ⟨k', m', hkg', rfl, rfl, hm0', hm1', rfl⟩ := hrel
        have HK' : Hid (k' + gk = n2) := hkg'
        clear hkg'
        by_cases hlt' : k' < n2
        · obtain ⟨b, o, rfl, x, l, cp, hc, hb⟩ := hB k' hlt'
          have hkn' : (k' : Int) < n2 := by omega
          by_cases hs : 1048576 < (l : Int)
          · go_wp2
            go_ret
            exact ⟨⟨_, rfl⟩, rfl⟩
          by_cases hm : 1048576 < m' + (l : Int)
          · go_wp2
            go_ret
            exact ⟨⟨_, rfl⟩, rfl⟩
          · go_wp2
            go_roundg (gk - 1)
            case measure => have := HK'.out; omega
            case rel => exact ⟨k' + 1, m' + (l : Int), by have := HK'.out; omega, by go_num, by go_num, by omega, by omega, rfl⟩
        · go_wp2
          go_ret
          exact ⟨⟨_, rfl⟩, rfl⟩

/-- The size guard: where it says no, there are at most 4096 keys. -/
def Big (n : Nat) (e : Ending) : Prop := ∃ b, e = .returned (.bool b) ∧ (b = false → n ≤ 4096)

set_option maxRecDepth 100000 in
set_option maxHeartbeats 1000000 in
/-- zzLCTooBig. -/
theorem big_any (a0 a1 a2 : Option Addr) (n0 c0 n1 c1 n2 c2 : Nat) (Ks : Nat → ByteArray) (B : Nat → ByteArray) (w : World) (hK : Strs w a0 n0 Ks) (hB : Rws w a2 n2 B) (h0 : n0 ≤ maxLen) (h1 : n1 ≤ maxLen) (h2 : n2 ≤ maxLen) :
    Calls Try.prog 6 #[.slice a0 n0 c0, .slice a1 n1 c1, .slice a2 n2 c2] w fun e w' => Big n0 e ∧ w' = w := by
  unfold maxLen at h0 h1 h2
  by_cases g0 : 4096 < (n0 : Int)
  · go_enter Try.func6, Try.ntmps6
    go_wp2
    go_ret
    exact ⟨⟨_, rfl, by simp⟩, rfl⟩
  have hn : n0 ≤ 4096 := by omega
  by_cases g1 : 4096 < (n1 : Int)
  · go_enter Try.func6, Try.ntmps6
    go_wp2
    go_ret
    exact ⟨⟨_, rfl, by simp⟩, rfl⟩
  by_cases g2 : 4096 < (n2 : Int)
  · go_enter Try.func6, Try.ntmps6
    go_wp2
    go_ret
    exact ⟨⟨_, rfl, by simp⟩, rfl⟩
  by_cases g3 : 1048576 < 16 * (n0 : Int) + 8 * (n1 : Int) + 24 * (n2 : Int)
  · go_enter Try.func6, Try.ntmps6
    go_wp2
    go_ret
    exact ⟨⟨_, rfl, by simp⟩, rfl⟩
  go_enter Try.func6, Try.ntmps6
  go_wp2
  go_loopg [7, 8] n0 (fun g z i wr => ∃ (k : Nat) (m : Int), k + g = n0 ∧ i = .int .i64 k ∧ z = .int .i64 m ∧ wr = w)
  case atStart => exact ⟨0, _, by omega, rfl, rfl, rfl⟩
  case round =>
    obtain ⟨k, m, hkg, rfl, rfl, rfl⟩ := hrel
    have HK : Hid (k + gk = n0) := hkg
    clear hkg
    by_cases hlt : k < n0
    · obtain ⟨b, o, rfl, hc⟩ := hK k hlt
      have hkn : (k : Int) < n0 := by omega
      by_cases hm : 1048576 < wrap64 (m + ((Ks k).size : Int))
      · go_wp2
        go_ret
        exact ⟨⟨_, rfl, by simp⟩, rfl⟩
      · go_wp2
        go_roundg (gk - 1)
        case measure => have := HK.out; omega
        case rel => exact ⟨k + 1, _, by have := HK.out; omega, by go_num, rfl, rfl⟩
    · go_wp2
      go_loopg [7, 9] n2 (fun g z i wx => ∃ (k : Nat) (m : Int), k + g = n2 ∧ i = .int .i64 k ∧ z = .int .i64 m ∧ wx = wr)
      case atStart => exact ⟨0, _, by omega, rfl, rfl, rfl⟩
      case round =>
        obtain ⟨k', m', hkg', rfl, rfl, rfl⟩ := hrel
        have HK' : Hid (k' + gk = n2) := hkg'
        clear hkg'
        by_cases hlt' : k' < n2
        · obtain ⟨b, o, rfl, x, l, cp, hc, hb⟩ := hB k' hlt'
          have hkn' : (k' : Int) < n2 := by omega
          by_cases hm : 1048576 < wrap64 (m' + (l : Int))
          · go_wp2
            go_ret
            exact ⟨⟨_, rfl, by simp⟩, rfl⟩
          · go_wp2
            go_roundg (gk - 1)
            case measure => have := HK'.out; omega
            case rel => exact ⟨k' + 1, _, by have := HK'.out; omega, by go_num, rfl, rfl⟩
        · go_wp2
          go_ret
          exact ⟨⟨_, rfl, fun _ => hn⟩, rfl⟩

end Go.Proofs.Qxb6616066a
