import Derived.Test.Qxb6614484aSmall
namespace Go.Proofs.Qxb6614484a
open Go.RowKit

set_option maxRecDepth 100000 in
set_option maxHeartbeats 1000000 in
theorem bytes16_any (da : Option Addr) (dn dc : Nat) (x1 x2 x3 : Int) (len : Nat → Nat) (el : Nat → Nat → Int) (w : World) (hA : Adj w da dn len el) (hd : dn ≤ maxLen) :
    Calls Try.prog 16 #[.slice da dn dc, .int .i64 x1, .int .i64 x2, .int .i64 x3] w fun e w' => Short dn len e ∧ w' = w := by
  unfold maxLen at hd
  by_cases g3 : 1048576 < (dn : Int)
  · go_enter Try.func16, Try.ntmps16
    go_wp2
    go_ret
    exact ⟨.no, rfl⟩
  go_enter Try.func16, Try.ntmps16
  go_wp2
  go_loopg [9, 10] dn (fun g z i wr => ∃ (k : Nat) (m : Int), k + g = dn ∧ i = .int .i64 k ∧ z = .int .i64 m ∧ 0 ≤ m ∧ m ≤ 1048576 ∧ wr = w ∧ ∀ q, q < k → len q ≤ 1048576)
  case atStart => exact ⟨0, _, by omega, rfl, rfl, by omega, by omega, rfl, fun q hq => by omega⟩
  case round =>
    obtain ⟨k, m, hkg, rfl, rfl, hm0, hm1, rfl, hl⟩ := hrel
    have HK : Hid (k + gk = dn) := hkg
    have HL : Hid (∀ q, q < k → len q ≤ 1048576) := hl
    clear hkg hl
    by_cases hlt : k < dn
    · obtain ⟨b, o, rfl, x, cp, hc, hb⟩ := hA k hlt
      have hkn : (k : Int) < dn := by omega
      by_cases hs : 1048576 < (len k : Int)
      · go_wp2
        go_ret
        exact ⟨.no, rfl⟩
      by_cases hm : 1048576 < m + (len k : Int)
      · go_wp2
        go_ret
        exact ⟨.no, rfl⟩
      · go_wp2
        go_roundg (gk - 1)
        case measure => have := HK.out; omega
        case rel =>
          refine ⟨k + 1, m + (len k : Int), by have := HK.out; omega, by go_num, by go_num, by omega, by omega, rfl, fun q hq => ?_⟩
          by_cases e : q = k
          · subst e; omega
          · exact HL.out q (by omega)
    · go_wp2
      go_ret
      exact ⟨⟨true, rfl, fun _ q hq => HL.out q (by omega)⟩, rfl⟩

/-! ### the automaton -/
def z2 : Array Value := #[.slice none 0 0, .slice none 0 0]
theorem Try.info46 : (Try.prog.info? 46).map (fun i => (i.zero, i.size, i.bytes)) = some (some (.agg z2), 2, 48) := by kernel_rfl
theorem Try.info22 : (Try.prog.info? 22).map (fun i => (i.zero, i.size, i.bytes)) = some (some (.slice none 0 0), 1, 24) := by kernel_rfl
theorem make2 (n : Nat) (hn : n ≤ 1048576) (w : World) :
    (Instr.makeSlice 41 (.int .i64 (n : Int)) (.int .i64 (n : Int))).run Try.prog w = .ok (.slice (some ⟨w.heap.size, 0, none⟩) n n) (w.alloc (.cells (madeCells z2 (n * 2)) 46)) := by
  obtain ⟨i, hi, hzz⟩ := Option.map_eq_some_iff.1 Try.info46
  simp only [Prod.mk.injEq] at hzz
  obtain ⟨hz, hs, hb⟩ := hzz
  have hr := run_make (P := Try.prog) w 41 46 i _ Try.underlying41 hi hz .i64 .i64 n n (by omega) (Int.le_refl _) (by rw [hb]; omega) (by omega)
  simp only [Int.toNat_natCast, hs] at hr
  exact hr
theorem make22 (n : Nat) (hn : n ≤ 1048576) (w : World) :
    (Instr.makeSlice 23 (.int .i64 (n : Int)) (.int .i64 (n : Int))).run Try.prog w = .ok (.slice (some ⟨w.heap.size, 0, none⟩) n n) (w.alloc (.cells (madeCells #[.slice none 0 0] n) 22)) := by
  obtain ⟨i, hi, hzz⟩ := Option.map_eq_some_iff.1 Try.info22
  simp only [Prod.mk.injEq] at hzz
  obtain ⟨hz, hs, hb⟩ := hzz
  have hr := run_make (P := Try.prog) w 23 22 i _ Try.underlying23 hi hz .i64 .i64 n n (by omega) (Int.le_refl _) (by rw [hb]; omega) (by omega)
  simp only [Int.toNat_natCast, hs, Nat.mul_one] at hr
  exact hr
theorem row2 (w : World) (n : Nat) : ∃ f, (w.alloc (.cells (madeCells z2 (n * 2)) 46)).rowIs w.heap.size 46 (n * 2) f ∧ ∀ i, i < n * 2 → f i = .slice none 0 0 := by
  refine ⟨fun i => (madeCells z2 (n * 2)).getD i undef, ⟨madeCells z2 (n * 2), heap_alloc_last _ _, by simp [size_madeCells], fun i hi => ?_⟩, fun i hi => ?_⟩
  · have : i < (madeCells z2 (n * 2)).size := by simpa [size_madeCells] using hi
    simp [this]
  · have : i < (madeCells z2 (n * 2)).size := by simpa [size_madeCells] using hi
    simp only [Array.getD_eq_getD_getElem?, Array.getElem?_eq_getElem this, Option.getD_some]
    have h2 : i % 2 = 0 ∨ i % 2 = 1 := by omega
    rcases h2 with h2 | h2 <;> simp [madeCells, z2, h2]

/-- THE AUTOMATON at block ab: n states, state i with the Eps links of row i. -/
def Auto (w : World) (ab n : Nat) (st fi : Int) (len : Nat → Nat) (el : Nat → Nat → Int) : Prop :=
  ∃ sb, w.heap[ab]? = some (.cells #[.slice (some ⟨sb, 0, none⟩) n n, .int .i64 st, .int .i64 fi] 43) ∧ ∀ i, i < n → ∃ x cp, w.cell? ⟨sb, i * 2, none⟩ = some (.slice x (len i) cp) ∧ w.cell? ⟨sb, i * 2 + 1, none⟩ = some (.slice none 0 0) ∧ Ints w x (len i) (el i)
theorem Auto.later {w w' : World} {ab n : Nat} {st fi : Int} {len : Nat → Nat} {el : Nat → Nat → Int} (h : Auto w ab n st fi len el) (g : Kp [] w w') : Auto w' ab n st fi len el := by
  obtain ⟨sb, h1, h2⟩ := h
  refine ⟨sb, (g.block _ (lt_blk h1) (by simp)).trans h1, fun i hi => ?_⟩
  obtain ⟨x, cp, h3, h4, h5⟩ := h2 i hi
  exact ⟨x, cp, g.cellSome h3, g.cellSome h4, h5.later g⟩
/-- The first k states have been filled. -/
def Fill (w : World) (f : Nat → Value) (k n : Nat) (len : Nat → Nat) (el : Nat → Nat → Int) : Prop :=
  (∀ i, i < k → ∃ x cp, f (i * 2) = .slice x (len i) cp ∧ Ints w x (len i) (el i)) ∧ ∀ i, i < n → f (i * 2 + 1) = .slice none 0 0
theorem Fill.step {w : World} {f : Nat → Value} {k n : Nat} {len : Nat → Nat} {el : Nat → Nat → Int} (h : Fill w f k n len el) {x : Option Addr} {cp : Nat} (hx : Ints w x (len k) (el k)) :
    Fill w (fun j => if j = k * 2 then .slice x (len k) cp else f j) (k + 1) n len el := by
  refine ⟨fun i hi => ?_, fun i hi => ?_⟩
  · by_cases e : i = k
    · subst e
      exact ⟨x, cp, by simp, hx⟩
    · obtain ⟨x', cp', h1, h2⟩ := h.1 i (by omega)
      have d : ¬ i * 2 = k * 2 := by omega
      exact ⟨x', cp', by simp only [d, if_false]; exact h1, h2⟩
  · have d : ¬ i * 2 + 1 = k * 2 := by omega
    simp only [d, if_false]
    exact h.2 i hi

set_option maxRecDepth 100000 in
set_option maxHeartbeats 1000000 in
theorem auto_any (da : Option Addr) (n dc : Nat) (st fi : Int) (len : Nat → Nat) (el : Nat → Nat → Int) (w : World) (hA : Adj w da n len el) (hn : n ≤ 65536) :
    Calls Try.prog 18 #[.slice da n dc, .int .i64 st, .int .i64 fi] w fun e w' => e = .returned (.pointer (some ⟨w.heap.size + 1, 0, none⟩)) ∧ Auto w' (w.heap.size + 1) n st fi len el ∧ Kp [] w w' := by
  have hmk := make2 n (by omega)
  go_enter Try.func18, Try.ntmps18
  go_wp2
  go_loopg [8] n (fun g i wr => ∃ (k : Nat) (f : Nat → Value), k + g = n ∧ i = .int .i64 k ∧ wr.rowIs w.heap.size 46 (n * 2) f ∧ wr.heap[w.heap.size + 1]? = some (.cells #[.slice (some ⟨w.heap.size, 0, none⟩) n n, .int .i64 st, .int .i64 fi] 43) ∧ Fill w f k n len el ∧ Kp [] w wr)
  case atStart =>
    obtain ⟨f, hf, hz⟩ := row2 w n
    refine ⟨0, f, by omega, rfl, hf.alloc _, ?_, ⟨fun i hi => by omega, fun i hi => hz _ (by omega)⟩, ((Kp.refl _ _).alloc _).alloc _⟩
    have := heap_alloc_last (w.alloc (.cells (madeCells z2 (n * 2)) 46)) (.cells #[.slice (some ⟨w.heap.size, 0, none⟩) n n, .int .i64 st, .int .i64 fi] 43)
    rw [World.size_alloc] at this
    exact this
  case round =>
    obtain ⟨k, f, hkg, rfl, hrow, hab, hfl, hkp⟩ := hrel
    have HK : Hid (k + gk = n) := hkg
    clear hkg hmk
    by_cases hlt : k < n
    · have hkn : (k : Int) < n := by omega
      obtain ⟨b, o, rfl, x, cp, h1, h2⟩ := hA k hlt
      have h1' := hkp.cellSome h1
      have c0 := cell_blk hab 0
      simp at c0
      have r0 := hrow.cell (i := k * 2) (by omega)
      have q0 := hrow.frozen (k * 2)
      have hr2 := hrow.set (k * 2) (.slice x (len k) cp)
      have hab2 := blk_set_other (a := ⟨w.heap.size, k * 2, none⟩) hab (by simp) (.slice x (len k) cp)
      have hkp2 := hkp.setCell (a := ⟨w.heap.size, k * 2, none⟩) (.inr (Nat.le_refl _)) (.slice x (len k) cp)
      have hfl2 := hfl.step (cp := cp) h2
      clear hrow hab hfl h1 h2
      go_wp2
      go_region
      all_goals
        go_wp2
        go_roundg (gk - 1)
        case measure => have := HK.out; omega
        case rel => exact ⟨k + 1, _, by have := HK.out; omega, by go_num, hr2, hab2, hfl2, hkp2.drew⟩
    · obtain rfl : k = n := by have := HK.out; omega
      go_wp2
      go_ret
      refine ⟨rfl, ⟨w.heap.size, hab, fun i hi => ?_⟩, hkp⟩
      obtain ⟨x, cp, h3, h4⟩ := hfl.1 i hi
      exact ⟨x, cp, by rw [hrow.cell (by omega), h3], by rw [hrow.cell (by omega), hfl.2 i hi], h4.later hkp⟩

end Go.Proofs.Qxb6614484a
