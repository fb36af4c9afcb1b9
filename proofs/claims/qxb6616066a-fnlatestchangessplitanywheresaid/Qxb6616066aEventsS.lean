import Derived.Test.Qxb6616066aEvents
namespace Go.Proofs.Qxb6616066a
open Go.RowKit

/-- The block that '[]byte(s)' lays, and its capacity. -/
def capOf (W : World) (s : ByteArray) : Nat := grownCap W s.size 0 5
def blkOf (W : World) (s : ByteArray) : Obj := .cells (bytesRow s (capOf W s)) 5 ((bytesRow s (capOf W s)).size, (bytesRow s (capOf W s)).size + 1)
theorem to_bytes (W : World) (s : ByteArray) : (convert 9 31 (.string s)).run Try.prog W = .ok (.slice (some ⟨W.heap.size, 0, none⟩) s.size (capOf W s)) (W.drew.alloc (blkOf W s)) :=
  run_bytes_of_string W 9 31 5 s Try.underlying9 Try.underlying31 Try.underlying5
theorem bytes_back (s : ByteArray) : s = strOfNums (s.data.toList.map fun b => (b.toNat : Int)) := by
  apply ByteArray.ext
  apply Array.ext'
  rw [strOfNums_data, List.map_map]
  symm
  have : (fun n : Int => UInt8.ofNat n.toNat) ∘ (fun b : UInt8 => (b.toNat : Int)) = id := by
    funext b
    simp
  rw [this, List.map_id]
theorem bts_of_blk {W W' : World} {b : Nat} {s : ByteArray} {O : Obj} (hO : blkOf W s = O) (h : W'.heap[b]? = some O) : Bts W' (some ⟨b, 0, none⟩) s.size s := by
  subst hO
  refine ⟨s.data.toList.map fun b => (b.toNat : Int), by rw [List.length_map, Array.length_toList]; rfl, bytes_back s, (fun e => by cases e), fun ad e i hi => ?_⟩
  cases e
  have hi' : i < s.data.size := hi
  rw [Go.WideShapes.add_plain, Nat.zero_add, cell_of_row _ _ i _ 5 _ h, bytesRow_at s _ i hi']
  simp [Array.getElem?_eq_getElem hi']
theorem Bts.but {S : List Nat} {w w' : World} {b o l : Nat} {s : ByteArray} (h : Bts w (some ⟨b, o, none⟩) l s) (g : Kp S w w') (hb : b ∉ S) : Bts w' (some ⟨b, o, none⟩) l s := by
  obtain ⟨xs, h1, h2, h3, h4⟩ := h
  refine ⟨xs, h1, h2, h3, fun ad e i hi => ?_⟩
  have := h4 ad e i hi
  cases e
  rw [Go.WideShapes.add_plain] at this ⊢
  have hlt := lt_of_cell this
  exact (g.cell hlt hb).trans this

/-- The first k events have been filled, each with bytes of its own. -/
def FilledS (w : World) (eb : Nat) (f : Nat → Value) (k : Nat) (Ks : Nat → ByteArray) (V : Nat → Int) (B : Nat → ByteArray) : Prop :=
  ∀ i, i < k → f (i * 14 + 11) = .string (Ks i) ∧ f (i * 14 + 12) = .int .i64 (V i) ∧ ∃ b l cp, f (i * 14 + 9) = .slice (some ⟨b, 0, none⟩) l cp ∧ b ≠ eb ∧ Bts w (some ⟨b, 0, none⟩) l (B i)
theorem FilledS.step {w w' : World} {eb : Nat} {f : Nat → Value} {k : Nat} {Ks : Nat → ByteArray} {V : Nat → Int} {B : Nat → ByteArray} (h : FilledS w eb f k Ks V B) (hk : Kp [eb] w w') {b l cp : Nat} (hne : b ≠ eb) (hb : Bts w' (some ⟨b, 0, none⟩) l (B k)) :
    FilledS w' eb (fun j => if j = k * 14 + 9 then .slice (some ⟨b, 0, none⟩) l cp else if j = k * 14 + 12 then .int .i64 (V k) else if j = k * 14 + 11 then .string (Ks k) else f j) (k + 1) Ks V B := by
  intro i hi
  by_cases e : i = k
  · subst e
    refine ⟨?_, ?_, b, l, cp, ?_, hne, hb⟩
    · simp
    · simp
    · simp
  · obtain ⟨h1, h2, x', l', cp', h3, h4, h5⟩ := h i (by omega)
    have d1 : ¬ i * 14 + 11 = k * 14 + 9 := by omega
    have d2 : ¬ i * 14 + 11 = k * 14 + 12 := by omega
    have d3 : ¬ i * 14 + 11 = k * 14 + 11 := by omega
    have d4 : ¬ i * 14 + 12 = k * 14 + 9 := by omega
    have d5 : ¬ i * 14 + 12 = k * 14 + 12 := by omega
    have d6 : ¬ i * 14 + 12 = k * 14 + 11 := by omega
    have d7 : ¬ i * 14 + 9 = k * 14 + 9 := by omega
    have d8 : ¬ i * 14 + 9 = k * 14 + 12 := by omega
    have d9 : ¬ i * 14 + 9 = k * 14 + 11 := by omega
    refine ⟨?_, ?_, x', l', cp', ?_, h4, h5.but hk (by simpa using h4)⟩
    · simp only [d1, d2, d3, if_false]; exact h1
    · simp only [d4, d5, d6, if_false]; exact h2
    · simp only [d7, d8, d9, if_false]; exact h3
theorem FilledS.evs {w : World} {f : Nat → Value} {n eb : Nat} {Ks : Nat → ByteArray} {V : Nat → Int} {B : Nat → ByteArray} (h : FilledS w eb f n Ks V B) (hr : w.rowIs eb 40 (n * 14) f) : Evs w (some ⟨eb, 0, none⟩) n Ks V B := by
  intro i hi
  obtain ⟨h1, h2, x, l, cp, h3, _, h4⟩ := h i hi
  refine ⟨eb, 0, rfl, ?_, ?_, _, l, cp, ?_, h4⟩
  · rw [← h1]; simpa using hr.cell (i := i * 14 + 11) (by omega)
  · rw [← h2]; simpa using hr.cell (i := i * 14 + 12) (by omega)
  · rw [← h3]; simpa using hr.cell (i := i * 14 + 9) (by omega)
theorem row_drew_alloc {w : World} {b n : Nat} {t : TypeId} {f : Nat → Value} (h : w.rowIs b t n f) (o : Obj) : (w.drew.alloc o).rowIs b t n f := h.of_block (Deep.blk_alloc_lt _ _ _ h.lt)

set_option maxRecDepth 100000 in
set_option maxHeartbeats 1000000 in
/-- zzLCEventsS. -/
theorem eventsS_any (a0 a1 a2 : Option Addr) (n c0 n1 c1 n2 c2 : Nat) (Ks : Nat → ByteArray) (V : Nat → Int) (B : Nat → ByteArray) (w : World) (hK : Strs w a0 n Ks) (hV : Nums w a1 n V) (hB : Strs w a2 n B) (hn : n ≤ 4096) (g1 : n1 = n) (g2 : n2 = n) :
    Calls Try.prog 11 #[.slice a0 n c0, .slice a1 n1 c1, .slice a2 n2 c2] w fun e w' => e = .returned (.slice (some ⟨w.heap.size, 0, none⟩) n n) ∧ Evs w' (some ⟨w.heap.size, 0, none⟩) n Ks V B ∧ Kp [] w w' := by
  subst g1 g2
  have hmk := make14 n2 (by omega)
  go_enter Try.func11, Try.ntmps11
  go_wp2
  go_loopg [8] n2 (fun g i wr => ∃ (k : Nat) (f : Nat → Value), k + g = n2 ∧ i = .int .i64 k ∧ wr.rowIs w.heap.size 40 (n2 * 14) f ∧ FilledS wr w.heap.size f k Ks V B ∧ Kp [] w wr)
  case atStart =>
    obtain ⟨f, hf⟩ := row14 w n2
    exact ⟨0, f, by omega, rfl, hf, fun i hi => by omega, (Kp.refl _ _).alloc _⟩
  case round =>
    obtain ⟨k, f, hkg, rfl, hrow, hfl, hkp⟩ := hrel
    have HK : Hid (k + gk = n2) := hkg
    clear hkg hmk
    by_cases hlt : k < n2
    · have hkn : (k : Int) < n2 := by omega
      obtain ⟨b0, o0, rfl, e0⟩ := hK.later hkp k hlt
      obtain ⟨b1, o1, rfl, e1⟩ := hV k hlt
      obtain ⟨b2, o2, rfl, e2⟩ := hB k hlt
      have hb1 := lt_of_cell e1
      have hb2 := lt_of_cell e2
      have e1' := hkp.cellSome e1
      have e2' := hkp.cellSome e2
      simp at hb1 hb2
      have n1 : ¬ w.heap.size = b1 := by omega
      have n2 : ¬ w.heap.size = b2 := by omega
      have r0 := hrow.cell (i := k * 14 + 11) (by omega)
      have r1 := hrow.cell (i := k * 14 + 12) (by omega)
      have z0 := hrow.frozen (k * 14 + 11)
      have z1 := hrow.frozen (k * 14 + 12)
      have hlt' := hrow.lt
      have hr2 := ((hrow.set (k * 14 + 11) (.string (Ks k))).set (k * 14 + 12) (.int .i64 (V k)))
      have hkp2 := ((hkp.setCell (a := ⟨w.heap.size, k * 14 + 11, none⟩) (.inr (Nat.le_refl _)) (.string (Ks k))).setCell (a := ⟨w.heap.size, k * 14 + 12, none⟩) (.inr (Nat.le_refl _)) (.int .i64 (V k)))
      have hkS2 := (((Kp.refl [w.heap.size] wr).setCell (a := ⟨w.heap.size, k * 14 + 11, none⟩) (.inl (by simp)) (.string (Ks k))).setCell (a := ⟨w.heap.size, k * 14 + 12, none⟩) (.inl (by simp)) (.int .i64 (V k)))
      have hcv := to_bytes ((wr.setCell ⟨w.heap.size, k * 14 + 11, none⟩ (.string (Ks k))).setCell ⟨w.heap.size, k * 14 + 12, none⟩ (.int .i64 (V k))) (B k)
      generalize hO : blkOf ((wr.setCell ⟨w.heap.size, k * 14 + 11, none⟩ (.string (Ks k))).setCell ⟨w.heap.size, k * 14 + 12, none⟩ (.int .i64 (V k))) (B k) = O at *
      generalize capOf ((wr.setCell ⟨w.heap.size, k * 14 + 11, none⟩ (.string (Ks k))).setCell ⟨w.heap.size, k * 14 + 12, none⟩ (.int .i64 (V k))) (B k) = cp at *
      have r2 := hrow.cell (i := k * 14 + 9) (by omega)
      have z2 := hrow.frozen (k * 14 + 9)
      have hsz : ((wr.setCell ⟨w.heap.size, k * 14 + 11, none⟩ (.string (Ks k))).setCell ⟨w.heap.size, k * 14 + 12, none⟩ (.int .i64 (V k))).heap.size = wr.heap.size := by simp
      have hsz3 : (((wr.setCell ⟨w.heap.size, k * 14 + 11, none⟩ (.string (Ks k))).setCell ⟨w.heap.size, k * 14 + 12, none⟩ (.int .i64 (V k))).setCell ⟨w.heap.size, k * 14 + 9, none⟩ (.slice (some ⟨wr.heap.size, 0, none⟩) (B k).size cp)).heap.size = wr.heap.size := by simp
      rw [hsz] at hcv
      have hne : wr.heap.size ≠ w.heap.size := by omega
      have hbk := heap_alloc_last (((wr.setCell ⟨w.heap.size, k * 14 + 11, none⟩ (.string (Ks k))).setCell ⟨w.heap.size, k * 14 + 12, none⟩ (.int .i64 (V k))).setCell ⟨w.heap.size, k * 14 + 9, none⟩ (.slice (some ⟨wr.heap.size, 0, none⟩) (B k).size cp)) O
      rw [hsz3] at hbk
      have hbk' : ((((wr.setCell ⟨w.heap.size, k * 14 + 11, none⟩ (.string (Ks k))).setCell ⟨w.heap.size, k * 14 + 12, none⟩ (.int .i64 (V k))).setCell ⟨w.heap.size, k * 14 + 9, none⟩ (.slice (some ⟨wr.heap.size, 0, none⟩) (B k).size cp)).alloc O).drew.heap[wr.heap.size]? = some O := hbk
      have hbts := bts_of_blk hO hbk'
      have hr4 := (hr2.set (k * 14 + 9) (.slice (some ⟨wr.heap.size, 0, none⟩) (B k).size cp)).alloc O
      have hkp4 := ((hkp2.setCell (a := ⟨w.heap.size, k * 14 + 9, none⟩) (.inr (Nat.le_refl _)) (.slice (some ⟨wr.heap.size, 0, none⟩) (B k).size cp)).alloc O).drew
      have hkS4 := ((hkS2.setCell (a := ⟨w.heap.size, k * 14 + 9, none⟩) (.inl (by simp)) (.slice (some ⟨wr.heap.size, 0, none⟩) (B k).size cp)).alloc O).drew
      have hfl4 := hfl.step (cp := cp) hkS4 hne hbts
      clear e1 e2 hfl hrow hkp2 hkS2 hkS4 hbk hbk' hO hr2 hsz hsz3
      go_wp2
      go_roundg (gk - 1)
      case measure => have := HK.out; omega
      case rel => exact ⟨k + 1, _, by have := HK.out; omega, by go_num, hr4, hfl4, hkp4⟩
    · obtain rfl : k = n2 := by have := HK.out; omega
      go_wp2
      go_ret
      exact ⟨rfl, hfl.evs hrow, hkp⟩

end Go.Proofs.Qxb6616066a
