import Derived.Test.Qxb6615927aNew
namespace Go.Proofs.Qxb6615927a
open Go.RowKit Go.MuLone

set_option maxRecDepth 100000 in
set_option maxHeartbeats 1000000 in
theorem well_any (cb : Nat) (q : Value) (ba bi : Nat) (sw : Int) (a : Option Addr) (n c : Nat) (K : Nat → Int) (L : Nat → Lit) (keep now mx sx : Int) (N nI : Nat) (D DI : DataW Unit) (w : World)
    (hc : w.heap[cb]? = some (.cells (cacheC (.int .i32 0) q (some ba) bi sw) 61)) (hA : w.ownsMap Try.prog 68 ansE ba N D) (hI : w.ownsMap Try.prog 68 anyE bi nI DI) (hS : Src w a n K) (hL : ∀ i, i < n → keyOf Try.prog 68 (kv K i) = some (L i))
    (h1 : 1024 ≤ sw) (h2 : (Maps.size D : Int) < sw) (hno : ∀ l, Maps.has DI l = false) (hat : 0 < keep → ∀ i, i < n → Maps.has D (L i) = true ∧ ∀ z, D.atKey (L i) z = ansD mx sx) (hn : n ≤ 1048576)
    (hmx : (now + keep) % 1000000000 = mx) (hsx : (now + keep) / 1000000000 = sx)
    (hk1 : -9223372036854775808 ≤ keep) (hk2 : keep ≤ 9223372036854775807) (hw1 : -9223372036854775808 ≤ now) (hw2 : now ≤ 9223372036854775807) :
    Calls Try.prog 11 #[.pointer (some ⟨cb, 0, none⟩), .slice a n c, .int .i64 keep, .int .i64 now] w fun e w' => e = .returned (.bool true) ∧ Kp [] w w' := by
  have hz : Maps.size DI = 0 := size_zero (fun es e p hp => by
    obtain ⟨es', e', _, hk⟩ := hI.entries law68
    rw [e'] at e; cases e
    exact hk p hp) hno
  have hsb : -20000000000 ≤ sx ∧ sx ≤ 20000000000 := by omega
  obtain ⟨hs1, hs2⟩ := hsb
  have hsum := sum_any now keep
  rw [hmx, hsx] at hsum
  have d1 : ¬ sw < 1024 := by omega
  have d2 : ¬ sw ≤ (Maps.size D : Int) := by omega
  have e1 : (sx + -62135596800 != -62135596800 + sx) = false := by simp; omega
  have e2 : (mx != mx) = false := by simp
  clear hmx hsx
  go_enter Try.func11, Try.ntmps11
  go_wp2_with fail
  refine (counts_any cb _ q ba bi sw _ hc hA hI).mono ?_
  rintro e w1 ⟨rfl, nq, hw⟩
  have hkp1 : Kp [] w w1 := by rw [hw]; exact ⟨rfl, rfl, rfl, Nat.le_refl _, fun _ _ _ => rfl⟩
  clear hw
  rw [hz]
  go_wp2_with fail
  refine (hsum _ hw1 hw2 hk1 hk2).mono ?_
  rintro e w2 ⟨rfl, rfl⟩
  go_wp2_with fail
  clear hsum d1 d2
  go_loopg [14] n (fun g i wr => ∃ k : Nat, k + g = n ∧ i = .int .i64 k ∧ Kp [] w wr)
  case atStart => exact ⟨0, by omega, rfl, hkp1⟩
  case round =>
    clear hkp1
    obtain ⟨k, hkg, rfl, hkp⟩ := hrel
    have HK : Hid (k + gk = n) := hkg
    clear hkg
    by_cases hlt : k < n
    · have hkey := hL k hlt
      obtain ⟨b, rfl, hb', hcs⟩ := hS k hlt
      have rd : ∀ wx, Kp [] w wx → ∀ j, j < 4 → wx.cell? ⟨b, k * 4 + j, none⟩ = some (.int .u8 (K (k * 4 + j))) := fun wx h j hj => (h.cell (a := ⟨b, _, none⟩) hb' (by simp)).trans (hcs j hj)
      have k0 := rd _ hkp 0 (by omega)
      have k1 := rd _ hkp 1 (by omega)
      have k2 := rd _ hkp 2 (by omega)
      have k3 := rd _ hkp 3 (by omega)
      simp only [Nat.add_zero] at k0
      have hfl := inFlight_any cb (.int .i32 0) q (some ba) bi sw wr ((hkp.block _ (lt_blk hc) (by simp)).trans hc) (hkp.owns hI (by simp)) (K (k * 4), K (k * 4 + 1), K (k * 4 + 2), K (k * 4 + 3)) (L k) hkey
      rw [hno] at hfl
      by_cases hk0 : 0 < keep
      · obtain ⟨t1, t2⟩ := hat hk0 k hlt
        go_wp2_with fail
        refine hfl.mono ?_
        rintro e w3 ⟨rfl, hkp3⟩
        have hkp4 := hkp.trans hkp3
        have k0 := rd _ hkp4 0 (by omega)
        have k1 := rd _ hkp4 1 (by omega)
        have k2 := rd _ hkp4 2 (by omega)
        have k3 := rd _ hkp4 3 (by omega)
        simp only [Nat.add_zero] at k0
        clear rd hfl
        go_wp2_with fail
        refine (answer_any cb (.int .i32 0) q ba bi sw _ ((hkp4.block _ (lt_blk hc) (by simp)).trans hc) (hkp4.owns hA (by simp)) (K (k * 4), K (k * 4 + 1), K (k * 4 + 2), K (k * 4 + 3)) (L k) hkey mx sx t1 t2 hs1 hs2).mono ?_
        rintro e w5 ⟨rfl, hkp5⟩
        have hkp6 := hkp4.trans hkp5
        clear t1 t2 hkp4 hkp5 hkp3 k0 k1 k2 k3
        go_wp2_with fail
        go_roundg (gk - 1)
        case measure => have := HK.out; omega
        case rel => exact ⟨k + 1, by have := HK.out; omega, by go_num, hkp6⟩
      · go_wp2_with fail
        refine hfl.mono ?_
        rintro e w3 ⟨rfl, hkp3⟩
        have hkp4 := hkp.trans hkp3
        clear rd hfl
        go_wp2_with fail
        go_roundg (gk - 1)
        case measure => have := HK.out; omega
        case rel => exact ⟨k + 1, by have := HK.out; omega, by go_num, hkp4⟩
    · go_wp2_with fail
      go_ret
      exact ⟨rfl, hkp⟩

end Go.Proofs.Qxb6615927a
