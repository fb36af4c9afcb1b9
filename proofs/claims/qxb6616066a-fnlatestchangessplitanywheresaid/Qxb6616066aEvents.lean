import Derived.Test.Qxb6616066aSmall
namespace Go.Proofs.Qxb6616066a
open Go.RowKit

/-- The cells of a zero event. -/
def z14 : Array Value := #[.string { data := #[] }, .string { data := #[] }, .string { data := #[] }, .string { data := #[] }, .string { data := #[] }, .int .u64 0, .int .i64 0, .pointer none, .string { data := #[] }, .slice none 0 0, .string { data := #[] }, .string { data := #[] }, .int .i64 0, .int .i64 0]
theorem Try.info40 : (Try.prog.info? 40).map (fun i => (i.zero, i.size, i.bytes)) = some (some (.agg z14), 14, 192) := by kernel_rfl
/-- n zero events. -/
def zeros14 (n : Nat) : Array Value := madeCells z14 (n * 14)
theorem make14 (n : Nat) (hn : n ≤ 1048576) (w : World) :
    (Instr.makeSlice 26 (.int .i64 (n : Int)) (.int .i64 (n : Int))).run Try.prog w = .ok (.slice (some ⟨w.heap.size, 0, none⟩) n n) (w.alloc (.cells (zeros14 n) 40)) := by
  obtain ⟨i, hi, hzz⟩ := Option.map_eq_some_iff.1 Try.info40
  simp only [Prod.mk.injEq] at hzz
  obtain ⟨hz, hs, hb⟩ := hzz
  have hr := run_make (P := Try.prog) w 26 40 i _ Try.underlying26 hi hz .i64 .i64 n n (by omega) (Int.le_refl _) (by rw [hb]; omega) (by omega)
  simp only [Int.toNat_natCast, hs] at hr
  exact hr
theorem row14 (w : World) (n : Nat) : ∃ f, (w.alloc (.cells (zeros14 n) 40)).rowIs w.heap.size 40 (n * 14) f := by
  refine ⟨fun i => (zeros14 n).getD i undef, zeros14 n, heap_alloc_last _ _, by simp [zeros14, size_madeCells], fun i hi => ?_⟩
  have : i < (zeros14 n).size := by simpa [zeros14, size_madeCells] using hi
  simp [this]

/-- The first k events have been filled. -/
def Filled (w : World) (f : Nat → Value) (k : Nat) (Ks : Nat → ByteArray) (V : Nat → Int) (B : Nat → ByteArray) : Prop :=
  ∀ i, i < k → f (i * 14 + 11) = .string (Ks i) ∧ f (i * 14 + 12) = .int .i64 (V i) ∧ ∃ x l cp, f (i * 14 + 9) = .slice x l cp ∧ Bts w x l (B i)
theorem Filled.step {w : World} {f : Nat → Value} {k : Nat} {Ks : Nat → ByteArray} {V : Nat → Int} {B : Nat → ByteArray} (h : Filled w f k Ks V B) {x : Option Addr} {l cp : Nat} (hb : Bts w x l (B k)) :
    Filled w (fun j => if j = k * 14 + 9 then .slice x l cp else if j = k * 14 + 12 then .int .i64 (V k) else if j = k * 14 + 11 then .string (Ks k) else f j) (k + 1) Ks V B := by
  intro i hi
  by_cases e : i = k
  · subst e
    refine ⟨?_, ?_, x, l, cp, ?_, hb⟩
    · simp
    · simp
    · simp
  · obtain ⟨h1, h2, x', l', cp', h3, h4⟩ := h i (by omega)
    have d1 : ¬ i * 14 + 11 = k * 14 + 9 := by omega
    have d2 : ¬ i * 14 + 11 = k * 14 + 12 := by omega
    have d3 : ¬ i * 14 + 11 = k * 14 + 11 := by omega
    have d4 : ¬ i * 14 + 12 = k * 14 + 9 := by omega
    have d5 : ¬ i * 14 + 12 = k * 14 + 12 := by omega
    have d6 : ¬ i * 14 + 12 = k * 14 + 11 := by omega
    have d7 : ¬ i * 14 + 9 = k * 14 + 9 := by omega
    have d8 : ¬ i * 14 + 9 = k * 14 + 12 := by omega
    have d9 : ¬ i * 14 + 9 = k * 14 + 11 := by omega
    refine ⟨?_, ?_, x', l', cp', ?_, h4⟩
    · simp only [d1, d2, d3, if_false]; exact h1
    · simp only [d4, d5, d6, if_false]; exact h2
    · simp only [d7, d8, d9, if_false]; exact h3
theorem Filled.evs {w w' : World} {f : Nat → Value} {n eb : Nat} {Ks : Nat → ByteArray} {V : Nat → Int} {B : Nat → ByteArray} (h : Filled w f n Ks V B) (hr : w'.rowIs eb 40 (n * 14) f) (hk : Kp [] w w') : Evs w' (some ⟨eb, 0, none⟩) n Ks V B := by
  intro i hi
  obtain ⟨h1, h2, x, l, cp, h3, h4⟩ := h i hi
  refine ⟨eb, 0, rfl, ?_, ?_, x, l, cp, ?_, h4.later hk⟩
  · rw [← h1]; simpa using hr.cell (i := i * 14 + 11) (by omega)
  · rw [← h2]; simpa using hr.cell (i := i * 14 + 12) (by omega)
  · rw [← h3]; simpa using hr.cell (i := i * 14 + 9) (by omega)

set_option maxRecDepth 100000 in
set_option maxHeartbeats 1000000 in
/-- zzLCEvents. -/
theorem events_any (a0 a1 a2 : Option Addr) (n c0 c1 c2 : Nat) (Ks : Nat → ByteArray) (V : Nat → Int) (B : Nat → ByteArray) (w : World) (hK : Strs w a0 n Ks) (hV : Nums w a1 n V) (hB : Rws w a2 n B) (hn : n ≤ 4096) :
    Calls Try.prog 7 #[.slice a0 n c0, .slice a1 n c1, .slice a2 n c2] w fun e w' => e = .returned (.slice (some ⟨w.heap.size, 0, none⟩) n n) ∧ Evs w' (some ⟨w.heap.size, 0, none⟩) n Ks V B ∧ Kp [] w w' := by
  have hmk := make14 n (by omega)
  go_enter Try.func7, Try.ntmps7
  go_wp2
  go_loopg [8] n (fun g i wr => ∃ (k : Nat) (f : Nat → Value), k + g = n ∧ i = .int .i64 k ∧ wr.rowIs w.heap.size 40 (n * 14) f ∧ Filled w f k Ks V B ∧ Kp [] w wr)
  case atStart =>
    obtain ⟨f, hf⟩ := row14 w n
    exact ⟨0, f, by omega, rfl, hf, fun i hi => by omega, (Kp.refl _ _).alloc _⟩
  case round =>
    obtain ⟨k, f, hkg, rfl, hrow, hfl, hkp⟩ := hrel
    have HK : Hid (k + gk = n) := hkg
    clear hkg hmk
    by_cases hlt : k < n
    · have hkn : (k : Int) < n := by omega
      obtain ⟨b0, o0, rfl, e0⟩ := hK.later hkp k hlt
      obtain ⟨b1, o1, rfl, e1⟩ := hV k hlt
      obtain ⟨b2, o2, rfl, x, l, cp, e2, e3⟩ := hB k hlt
      have hb1 := lt_of_cell e1
      have hb2 := lt_of_cell e2
      have e1' := hkp.cellSome e1
      have e2' := hkp.cellSome e2
      simp at hb1 hb2
      have n1 : ¬ w.heap.size = b1 := by omega
      have n2 : ¬ w.heap.size = b2 := by omega
      have r0 := hrow.cell (i := k * 14 + 11) (by omega)
      have r1 := hrow.cell (i := k * 14 + 12) (by omega)
      have r2 := hrow.cell (i := k * 14 + 9) (by omega)
      have z0 := hrow.frozen (k * 14 + 11)
      have z1 := hrow.frozen (k * 14 + 12)
      have z2 := hrow.frozen (k * 14 + 9)
      have hr3 := ((hrow.set (k * 14 + 11) (.string (Ks k))).set (k * 14 + 12) (.int .i64 (V k))).set (k * 14 + 9) (.slice x l cp)
      have hfl3 := hfl.step (cp := cp) e3
      have hkp3 := ((hkp.setCell (a := ⟨w.heap.size, k * 14 + 11, none⟩) (.inr (Nat.le_refl _)) (.string (Ks k))).setCell (a := ⟨w.heap.size, k * 14 + 12, none⟩) (.inr (Nat.le_refl _)) (.int .i64 (V k))).setCell (a := ⟨w.heap.size, k * 14 + 9, none⟩) (.inr (Nat.le_refl _)) (.slice x l cp)
      clear e1 e2 e3 hfl hrow
      go_wp2
      go_roundg (gk - 1)
      case measure => have := HK.out; omega
      case rel => exact ⟨k + 1, _, by have := HK.out; omega, by go_num, hr3, hfl3, hkp3⟩
    · obtain rfl : k = n := by have := HK.out; omega
      go_wp2
      go_ret
      exact ⟨rfl, hfl.evs hrow hkp, hkp⟩

end Go.Proofs.Qxb6616066a
