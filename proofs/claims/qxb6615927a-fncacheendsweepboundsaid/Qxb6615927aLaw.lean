import Derived.Test.Qxb6615927aWell
import Derived.Laws.CopyRow
import Derived.Deep.WholeRow
namespace Go.Proofs.Qxb6615927a
open Go.RowKit Go.MuLone

theorem Kp.andThen {S : List Nat} {a b c : World} (h : Kp [] a b) (g : Kp S b c) (hS : ∀ j ∈ S, a.heap.size ≤ j) : Kp [] a c :=
  ⟨g.os.trans h.os, g.tape.trans h.tape, g.output.trans h.output, Nat.le_trans h.size g.size, fun k hk hs => (g.block k (Nat.lt_of_lt_of_le hk h.size) (fun h1 => by have := hS k h1; omega)).trans (h.block k hk hs)⟩
theorem lt_of_cell {w : World} {x : Addr} {v : Value} (h : w.cell? x = some v) : x.block < w.heap.size := by
  cases hb : w.heap[x.block]? with
  | none => simp [World.cell?, hb] at h
  | some o => exact lt_blk hb
theorem Kp.cellSome {w w' : World} {x : Addr} {v : Value} (h : Kp [] w w') (hc : w.cell? x = some v) : w'.cell? x = some v := (h.cell (lt_of_cell hc) (by simp)).trans hc

/-- AN ARGUMENT '[][4]byte', by its cells: nil, or n arrays at an address. -/
def ArgIs (w : World) (a : Option Addr) (n c : Nat) (K : Nat → Int) : Prop := (a = none ∧ n = 0 ∧ c = 0) ∨ ∃ ad, a = some ad ∧ ∀ j, j < n * 4 → w.cell? (ad.add j) = some (.int .u8 (K j))

/-- The cells of n arrays. -/
def cells4 (K : Nat → Int) (n : Nat) : List Value := (List.range (n * 4)).map fun c => .int .u8 (K c)

/-- 'copy' of all n arrays into a new row of zero arrays. -/
theorem copy4 (w : World) (ad : Addr) (n c : Nat) (K : Nat → Int) (h : ∀ j, j < n * 4 → w.cell? (ad.add j) = some (.int .u8 (K j))) (ty : TypeId) :
    (Builtin.copy_ #[24, 24] ty #[.slice (some ⟨w.heap.size, 0, none⟩) n n, .slice (some ad) n c]).run Try.prog (w.alloc (.cells (zeros4 n) 67)) = .ok (.int .i64 n) (w.alloc (.cells (cells4 K n).toArray 67)) := by
  have hlen : (cells4 K n).length = n * 4 := by simp [cells4]
  have hl := run_loadCells_list (P := Try.prog) (w.alloc (.cells (zeros4 n) 67)) ad (cells4 K n) (fun j v hv => by
    have hj : j < n * 4 := by
      have := (List.getElem?_eq_some_iff.1 hv).1
      omega
    have hc := h j hj
    have : v = .int .u8 (K j) := by simp [cells4, hj] at hv; exact hv.symm
    rw [this]
    exact ((Kp.refl [] w).alloc _).cellSome hc)
  have hst := run_storeCells_at Try.prog w.heap.size 0 67 (cells4 K n) 0 (zeros4 n) (w.alloc (.cells (zeros4 n) 67)) (heap_alloc_last _ _) (by rw [hlen, zeros4_size]; omega) (fun v hv => by
    simp [cells4] at hv
    obtain ⟨_, _, rfl⟩ := hv
    rfl)
  have hdrop : (zeros4 n).toList.drop (n * 4) = [] := List.drop_eq_nil_of_le (by simp [zeros4_size])
  simp only [Nat.zero_add, List.take_zero, List.nil_append, hlen, hdrop, List.append_nil] at hst
  rw [hlen] at hl
  obtain ⟨i, hi, hz0, hz1, hz2⟩ := info_parts Try.info67
  rw [World.setRow_alloc_new] at hst
  simp [Builtin.copy_, run_underlying Try.underlying24, Builtin.lenOf, Builtin.firstCells, Go.sizeOf, typeInfo, hi, hz1, hl, hst, goInt]

/-- .. lies as a source behind it. -/
theorem src_copied (w : World) (n : Nat) (K : Nat → Int) : Src (w.alloc (.cells (cells4 K n).toArray 67)) (some ⟨w.heap.size, 0, none⟩) n K := by
  intro i hi
  refine ⟨w.heap.size, rfl, by simp, fun j hj => ?_⟩
  have h := cell_blk (heap_alloc_last w (.cells (cells4 K n).toArray 67)) (i * 4 + j)
  rw [h]
  have : i * 4 + j < n * 4 := by omega
  simp [cells4, this]
theorem src_nil (w : World) (a : Option Addr) (K : Nat → Int) : Src w a 0 K := fun i hi => by omega
theorem lit_of {K : Nat → Int} {n : Nat} (hwf : ∀ j, j < n * 4 → (Lit.int .u8 (K j)).wf = true) : ∃ L : Nat → Lit, ∀ i, i < n → keyOf Try.prog 68 (kv K i) = some (L i) := by
  refine ⟨fun i => (keyOf Try.prog 68 (kv K i)).getD (.bool false), fun i hi => ?_⟩
  obtain ⟨l, hl⟩ := key4 (hwf (i * 4) (by omega)) (hwf (i * 4 + 1) (by omega)) (hwf (i * 4 + 2) (by omega)) (hwf (i * 4 + 3) (by omega))
  show _ = some ((keyOf Try.prog 68 (kv K i)).getD (.bool false))
  rw [hl]
  rfl

set_option maxRecDepth 100000 in
set_option maxHeartbeats 1000000 in
theorem law_any (a1 a2 : Option Addr) (n1 c1 n2 c2 : Nat) (keep1 now1 keep2 now2 : Int) (K1 K2 : Nat → Int) (w : World) (h1 : ArgIs w a1 n1 c1 K1) (h2 : ArgIs w a2 n2 c2 K2) (hm1 : n1 ≤ maxLen) (hm2 : n2 ≤ maxLen)
    (hw1 : ∀ j, j < n1 * 4 → (Lit.int .u8 (K1 j)).wf = true) (hw2 : ∀ j, j < n2 * 4 → (Lit.int .u8 (K2 j)).wf = true)
    (b1 : -9223372036854775808 ≤ keep1) (b2 : keep1 ≤ 9223372036854775807) (b3 : -9223372036854775808 ≤ now1) (b4 : now1 ≤ 9223372036854775807) (b5 : -9223372036854775808 ≤ keep2) (b6 : keep2 ≤ 9223372036854775807) (b7 : -9223372036854775808 ≤ now2) (b8 : now2 ≤ 9223372036854775807) :
    Calls Try.prog 4 #[.slice a1 n1 c1, .int .i64 keep1, .int .i64 now1, .slice a2 n2 c2, .int .i64 keep2, .int .i64 now2] w fun e w' => e = .returned (.bool true) ∧ Below w.heap.size w w' := by
  obtain ⟨L1, hL1⟩ := lit_of hw1
  obtain ⟨L2, hL2⟩ := lit_of hw2
  unfold maxLen at hm1 hm2
  have hne : ∀ (w : World) (a : Option Addr) (n c : Nat), (binOp .neq 24 (.slice a n c) (.slice none 0 0)).run Try.prog w = .ok (.bool (!a.isNone)) w := fun w a n c => run_neq_slice_nil_any w _ _ a n c 0 0 Try.underlying24
  go_enter Try.func4, Try.ntmps4
  go_wp2_with fail
  refine (bytes_any a1 a2 n1 c1 n2 c2 keep1 now1 keep2 now2 _ (by unfold maxLen; omega) (by unfold maxLen; omega)).mono ?_
  rintro e w' ⟨⟨b, rfl⟩, rfl⟩
  cases b with
  | false =>
    go_wp2_with fail
    go_ret
    exact ⟨rfl, Below.refl _ _⟩
  | true =>
  by_cases g1 : 262144 < (n1 : Int)
  · go_wp2_with fail
    go_ret
    exact ⟨rfl, Below.refl _ _⟩
  by_cases g2 : 262144 < (n2 : Int)
  · go_wp2_with fail
    go_ret
    exact ⟨rfl, Below.refl _ _⟩
  by_cases g3 : 1048576 < 4 * ((n1 : Int) + (n2 : Int))
  · go_wp2_with fail
    go_ret
    exact ⟨rfl, Below.refl _ _⟩
  go_upto_if 44 with fail
  go_cut [0] (fun v wx => ∃ a c, v = .slice a n1 c ∧ Src wx a n1 K1 ∧ Kp [] w' wx)
  case first =>
    have hmk := make4 24 67 Try.underlying24 Try.info67 n1 (by omega)
    rcases h1 with ⟨rfl, rfl, rfl⟩ | ⟨ad, rfl, hc⟩
    · go_wp2
      go_meet
      case rel => exact ⟨none, 0, rfl, src_nil _ _ _, Kp.refl _ _⟩
    · have hcp := copy4 w' ad n1 c1 K1 hc
      go_wp2
      go_meet
      case rel => exact ⟨_, n1, rfl, src_copied _ _ _, (Kp.refl _ _).alloc _⟩
  case rest =>
  obtain ⟨p1, q1, rfl, hs1, hkx⟩ := hcut
  go_upto_if 53 with fail
  go_cut [3] (fun v wx => ∃ a c, v = .slice a n2 c ∧ Src wx a n2 K2 ∧ Kp [] wc wx)
  case first =>
    have hmk := make4 24 67 Try.underlying24 Try.info67 n2 (by omega)
    rcases h2 with ⟨rfl, rfl, rfl⟩ | ⟨ad, rfl, hc⟩
    · go_wp2
      go_meet
      case rel => exact ⟨none, 0, rfl, src_nil _ _ _, Kp.refl _ _⟩
    · have hcp := copy4 wc ad n2 c2 K2 (fun j hj => hkx.cellSome (hc j hj))
      go_wp2
      go_meet
      case rel => exact ⟨_, n2, rfl, src_copied _ _ _, (Kp.refl _ _).alloc _⟩
  case rest =>
  obtain ⟨p2, q2, rfl, hs2, hk2⟩ := hcut
  have hs1' := hk2.src hs1 (by simp)
  have hkw := hkx.trans hk2
  clear hs1 hk2 hkx h1 h2 hne hw1 hw2
  have hn1 : n1 ≤ 262144 := by omega
  have hn2 : n2 ≤ 262144 := by omega
  go_wp2_with fail
  refine (new_any p1 n1 q1 K1 L1 _ hs1' hL1 (by omega)).mono ?_
  rintro e w1 ⟨cb, sb, rfl, bi, pb, hb, D, e1, hmd, e3, e4, e5, e6⟩
  have hT1 : Kp [] wc w1 := hmd.kept
  have i1 := hmd.s0
  have i2 := hmd.h0
  go_wp2_with fail
  refine (callEnd_any cb (.int .u32 0) none bi 0 sb pb n1 hb _ _ _ _ _ _ p1 q1 K1 L1 n1 D keep1 now1 0 _ e1 hmd.search hmd.prow hmd.chan (hT1.src hs1' (by simp)) e3 e4 hL1 (by simp) hmd.sp (by omega) (by omega) b1 b2 b3 b4 (.inl rfl)).mono ?_
  rintro e w2 ⟨rfl, ba, sw, D2, DI2, f1, f2, f3, f4, f5, f6, f7, f8, f9⟩
  have hT2 : Kp [] wc w2 := hT1.andThen f8 (by simp; omega)
  have hbb : ba ≠ bi := by
    have := e3.lt
    rcases f9 with h | h
    · simp at h
    · omega
  have hba : wc.heap.size ≤ ba := by
    rcases f9 with h | h
    · simp at h
    · exact Nat.le_trans hT1.size h
  have m1 : (now1 % 1000000000 + keep1) % 1000000000 = (now1 + keep1) % 1000000000 := by omega
  have m2 : now1 / 1000000000 + (now1 % 1000000000 + keep1) / 1000000000 = (now1 + keep1) / 1000000000 := by omega
  rw [m1, m2] at f5
  clear m1 m2 e1 e3 e4 hmd f9 f8
  go_wp2_with fail
  refine (well_any cb (.int .u32 0) ba bi sw p1 n1 q1 K1 L1 keep1 now1 _ _ _ _ D2 DI2 _ f1 f2 f6 (hT2.src hs1' (by simp)) hL1 f3 f4 f7 f5 (by omega) rfl rfl b1 b2 b3 b4).mono ?_
  rintro e w3 ⟨rfl, hk3⟩
  have hT3 := hT2.trans hk3
  have f1' := (hk3.block _ (lt_blk f1) (by simp)).trans f1
  have f2' := hk3.owns f2 (by simp)
  have f6' := hk3.owns f6 (by simp)
  clear f1 f2 f6 f5 hT2 hk3 f4
  go_wp2_with fail
  refine (addSearch_any cb (.int .u32 0) (some ba) bi sw p2 n2 q2 K2 L2 n1 DI2 _ f1' (hT3.src hs2 (by simp)) f6' f7 hL2 (by omega) (by omega)).mono ?_
  rintro e w4 ⟨sb2, rfl, pb2, hb2, D4, hmd2, g3', g4⟩
  have hT4 : Kp [] wc w4 := hT3.andThen hmd2.kept (by simp; omega)
  have i3 := hmd2.s0
  have i4 := hmd2.h0
  have i5 := hT3.size
  have hbi : cb ≠ bi := by
    intro e; subst e
    obtain ⟨es, clock, h, _⟩ := f6'
    rw [f1'] at h; cases h
  have f1'' := (hmd2.kept.block _ (lt_blk f1') (by simp; omega)).trans f1'
  have f2'' := hmd2.kept.owns f2' (by simp; omega)
  clear f1' f2' f6' hT3
  go_wp2_with fail
  refine (callEnd_any cb (.int .u32 0) (some ba) bi sw sb2 pb2 n2 hb2 _ _ _ _ _ _ p2 q2 K2 L2 (n1 + n2) D4 keep2 now2 (0 + n1) _ f1'' hmd2.search hmd2.prow hmd2.chan (hT4.src hs2 (by simp)) g3' g4 hL2 (by rintro ba' ⟨rfl⟩; exact ⟨_, f2'', hbb⟩) hmd2.sp (by omega) (by omega) b5 b6 b7 b8 (.inr f3)).mono ?_
  rintro e w5 ⟨rfl, ba5, sw5, D5, DI5, t1, t2, t3, t4, t5, t6, t7, t8, t9⟩
  have hT5 : Kp [] wc w5 := hT4.andThen t8 (by simp; omega)
  have m1 : (now2 % 1000000000 + keep2) % 1000000000 = (now2 + keep2) % 1000000000 := by omega
  have m2 : now2 / 1000000000 + (now2 % 1000000000 + keep2) / 1000000000 = (now2 + keep2) / 1000000000 := by omega
  rw [m1, m2] at t5
  clear m1 m2 f1'' f2'' g3' g4 hmd2 t8 t9
  go_wp2_with fail
  refine (well_any cb (.int .u32 0) ba5 bi sw5 p2 n2 q2 K2 L2 keep2 now2 _ _ _ _ D5 DI5 _ t1 t2 t6 (hT5.src hs2 (by simp)) hL2 t3 t4 t7 t5 (by omega) rfl rfl b5 b6 b7 b8).mono ?_
  rintro e w6 ⟨rfl, hk6⟩
  have hT6 := hkw.trans (hT5.trans hk6)
  clear t1 t2 t3 t4 t5 t6 t7 hk6 hT5
  go_wp2_with fail
  go_ret
  exact ⟨rfl, hT6.below (by simp) (Nat.le_refl _)⟩

end Go.Proofs.Qxb6615927a
