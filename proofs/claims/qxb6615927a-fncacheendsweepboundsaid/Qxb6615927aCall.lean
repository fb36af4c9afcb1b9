import Derived.Test.Qxb6615927aEnd
namespace Go.Proofs.Qxb6615927a
open Go.RowKit Go.MuLone

/-- WHAT A CALL OF 'end' LEAVES, told of the prefixes found. -/
def Fine (cb : Nat) (q : Value) (ma : Option Nat) (bi : Nat) (sb hb : Nat) (n : Nat) (L : Nat → Lit) (keep m s : Int) (N nI : Nat) (w w' : World) : Prop :=
  ∃ ba sw D DI, w'.heap[cb]? = some (.cells (cacheC (.int .i32 0) q (some ba) bi sw) 61) ∧ w'.ownsMap Try.prog 68 ansE ba N D ∧ 1024 ≤ sw ∧ (Maps.size D : Int) < sw ∧
    (0 < keep → ∀ i, i < n → Maps.has D (L i) = true ∧ ∀ z, D.atKey (L i) z = ansD m s) ∧ w'.ownsMap Try.prog 68 anyE bi nI DI ∧ (∀ l, Maps.has DI l = false) ∧ Kp ([cb, sb, hb, bi] ++ ma.toList) w w' ∧ (ba ∈ ma.toList ∨ w.heap.size ≤ ba)

set_option maxRecDepth 100000 in
set_option maxHeartbeats 1000000 in
theorem callEnd_any (cb : Nat) (q : Value) (ma : Option Nat) (bi : Nat) (sw : Int) (sb pb n hb : Nat) (x2 x3 x4 x5 x6 x7 : Value) (a : Option Addr) (c : Nat) (K : Nat → Int) (L : Nat → Lit) (nI : Nat) (DI : DataW Unit) (keep now : Int) (N : Nat) (w : World)
    (hc : w.heap[cb]? = some (.cells (cacheC (.int .i32 0) q ma bi sw) 61)) (hsb : w.heap[sb]? = some (.cells (searchC pb n hb x2 x3 x4 x5 x6 x7) 50)) (hpb : w.rowIs pb 68 (n * 4) (fun c => .int .u8 (K c))) (hhb : w.heap[hb]? = some openChan)
    (hS : Src w a n K) (hI : w.ownsMap Try.prog 68 anyE bi nI DI) (hfl : Flying DI L n 0) (hL : ∀ i, i < n → keyOf Try.prog 68 (kv K i) = some (L i))
    (hma : ∀ ba, ma = some ba → ∃ DB, w.ownsMap Try.prog 68 ansE ba N DB ∧ ba ≠ bi) (hsp : sb ≠ pb)
    (hN : N + n ≤ 4000000) (hn : n ≤ 1048576) (hk1 : -9223372036854775808 ≤ keep) (hk2 : keep ≤ 9223372036854775807) (hw1 : -9223372036854775808 ≤ now) (hw2 : now ≤ 9223372036854775807) (hsw : sw = 0 ∨ 1024 ≤ sw) :
    Calls Try.prog 10 #[.pointer (some ⟨cb, 0, none⟩), .pointer (some ⟨sb, 0, none⟩), .slice a n c, .int .i64 keep, .bool false, .bool false, .int .i64 now] w fun e w' => e = .returned (.tuple #[]) ∧
      Fine cb q ma bi sb hb n L keep ((now % 1000000000 + keep) % 1000000000) (now / 1000000000 + (now % 1000000000 + keep) / 1000000000) (N + n) nI w w' := by
  have hmm := @run_makeMap Try.prog
  go_enter Try.func10, Try.ntmps10
  go_wp2
  go_loopg [20] n (fun g i wr => ∃ (k : Nat) (D : DataW Unit), k + g = n ∧ i = .int .i64 k ∧ wr.ownsMap Try.prog 68 nilE w.heap.size k D ∧ Kp [] w wr ∧ ∀ j, j < k → Maps.has D (L j) = true)
  case atStart => exact ⟨0, .map [], by omega, rfl, World.ownsMap_made _ _ _ _, (Kp.refl _ _).alloc _, fun j hj => by omega⟩
  case round =>
    obtain ⟨k, D, hkg, rfl, hown, hkp, hhas⟩ := hrel
    by_cases hlt : k < n
    · have hkey := hL k hlt
      obtain ⟨b, rfl, hb', hcs⟩ := hS k hlt
      have k0 := (hkp.cell (a := ⟨b, k * 4 + 0, none⟩) hb' (by simp)).trans (hcs 0 (by omega))
      have k1 := (hkp.cell (a := ⟨b, k * 4 + 1, none⟩) hb' (by simp)).trans (hcs 1 (by omega))
      have k2 := (hkp.cell (a := ⟨b, k * 4 + 2, none⟩) hb' (by simp)).trans (hcs 2 (by omega))
      have k3 := (hkp.cell (a := ⟨b, k * 4 + 3, none⟩) hb' (by simp)).trans (hcs 3 (by omega))
      simp only [Nat.add_zero] at k0
      have HK : Hid (k + gk = n) := hkg
      clear hkg
      go_wp2_with (first | (at_mapUpdate; refine wpList_mapUpdate_in _ rfl _ _ _ 44 rfl 68 64 law68 Try.underlying44 nilE w.heap.size k D rfl hown (by unfold maxLen; omega) _ _ (L k) rfl rfl hkey .nil [] rfl ?_; intro w1 hown1 hturn1) | go_in)
      have hm1 := hown.isMap
      go_roundg (gk - 1)
      case measure => have := HK.out; omega
      case rel =>
        refine ⟨k + 1, _, by have := HK.out; omega, by go_num, hown1, hkp.grown hturn1.grown (fun j hj => by cases hj; exact .inr (Nat.le_refl _)), fun j hj => ?_⟩
        by_cases e : L j = L k
        · rw [e]; exact Maps.has_put_same hm1 (law68.key hkey) _
        · rw [Maps.has_put_other e]
          refine hhas j ?_
          have : j ≠ k := fun e' => e (by rw [e'])
          omega
    · obtain rfl : k = n := by omega
      have hz := Int.zero_add now
      go_wp2_with fail
      refine (add_any 0 0 now _ (by omega) (by omega) (by omega) (by omega) hw1 hw2).mono ?_
      rintro e w1 ⟨rfl, hw1⟩
      simp only [Int.zero_add] at hw1 ⊢
      have hown1 : w1.ownsMap Try.prog 68 nilE w.heap.size k D := by rw [hw1]; exact (hown.alloc _).alloc _
      have hkp1 : Kp [] w w1 := by rw [hw1]; exact (hkp.alloc _).alloc _
      clear hw1 hown hkp hz
      go_wp2_with fail
      have hbi := hI.lt
      refine (end_any cb q ma bi sw sb pb k hb x2 x3 x4 x5 x6 x7 K L w.heap.size k D nI DI keep (now % 1000000000) (now / 1000000000) N _ ((hkp1.block _ (lt_blk hc) (by simp)).trans hc) ((hkp1.block _ (lt_blk hsb) (by simp)).trans hsb) (hkp1.row hpb (by simp)) ((hkp1.block _ (lt_blk hhb) (by simp)).trans hhb) hown1 (hkp1.owns hI (by simp)) hfl hL ?_ (by omega) hsp (by omega) hn (by omega) (by omega) (by omega) (by omega) hk1 hk2 hsw).mono ?_
      · intro ba e
        obtain ⟨DB, h1, h2⟩ := hma ba e
        exact ⟨DB, hkp1.owns h1 (by simp), by have := h1.lt; omega, h2⟩
      rintro e w2 ⟨rfl, ba, sw2, D2, DI2, e1, e2, e3, e4, e5, e6, e7, e8, e9⟩
      go_wp2
      go_end0
      refine ⟨rfl, ba, sw2, D2, DI2, e1, e2, e3, e4, fun hk i hi => e5 hk (L i) (hhas i hi) rfl, e6, e7, (hkp1.mono (by simp)).trans e8, ?_⟩
      rcases e9 with h | h
      · exact .inl h
      · exact .inr (Nat.le_trans hkp1.size h)

end Go.Proofs.Qxb6615927a
