import Derived.Test.Qxb6614453aOnce
namespace Go.Proofs.Qxb6614453a
open Go.RowKit Go.MuLone

set_option maxHeartbeats 400000 in
theorem newCond_any (a : Addr) (w : World) : Calls Try.prog 9 #[.iface 46 (.pointer (some a))] w fun e w' => e = .returned (.pointer (some ⟨w.heap.size, 0, none⟩)) ∧ w' = w.alloc (.cells (condC (.iface 46 (.pointer (some a))) (.int .u64 0)) 69) := by
  go_enter Try.func9, Try.ntmps9
  go_wp2
  go_ret
  exact ⟨rfl, rfl⟩

set_option maxHeartbeats 400000 in
theorem newPlayer_any (w : World) : Calls Try.prog 4 #[] w fun e w' => ∃ L, e = .returned (.pointer (some ⟨w.heap.size, 0, none⟩)) ∧ w'.heap[w.heap.size]? = some (.cells (playerC (w.heap.size + 1) 0) 44) ∧ w'.heap[w.heap.size + 1]? = some (.cells (condC L (.int .u64 0)) 69) ∧ Kp [] w w' := by
  go_enter Try.func4, Try.ntmps4
  go_wp2_with fail
  refine (newCond_any _ _).mono ?_
  rintro e w2 ⟨rfl, rfl⟩
  go_wp2
  go_ret
  refine ⟨.iface 46 (.pointer (some ⟨w.heap.size, 1, none⟩)), rfl, ?_, ?_, ?_⟩
  · exact blk_alloc_old (heap_alloc_last _ _)
  · have := heap_alloc_last (w.alloc (.cells (playerC (w.heap.size + 1) 0) 44)) (.cells (condC (.iface 46 (.pointer (some ⟨w.heap.size, 1, none⟩))) (.int .u64 0)) 69)
    rw [World.size_alloc] at this
    exact this
  · exact ((Kp.refl _ _).alloc _).alloc _

set_option maxHeartbeats 400000 in
theorem newCtx_any (pb : Nat) (w : World) : Calls Try.prog 5 #[.pointer (some ⟨pb, 0, none⟩)] w fun e w' => e = .returned (.pointer (some ⟨w.heap.size + 1, 0, none⟩)) ∧ w' = (w.alloc openChan).alloc (.cells (ctxC pb w.heap.size false 0 0) 60) := by
  have hm := mkChan
  go_enter Try.func5, Try.ntmps5
  go_wp2
  go_ret
  exact ⟨rfl, rfl⟩

set_option maxHeartbeats 400000 in
theorem asleep_any (x pb h : Nat) (zz : Bool) (d m : Int) (w : World) (hx : w.heap[x]? = some (.cells (ctxC pb h zz d m) 60)) : Calls Try.prog 7 #[.pointer (some ⟨x, 0, none⟩)] w fun e w' => e = .returned (.bool zz) ∧ w' = w := by
  have c := cell_blk hx 9
  simp at c
  go_enter Try.func7, Try.ntmps7
  go_wp2
  go_ret
  exact ⟨rfl, rfl⟩

set_option maxHeartbeats 400000 in
theorem doneField_any (x pb h : Nat) (zz : Bool) (d m : Int) (w : World) (hx : w.heap[x]? = some (.cells (ctxC pb h zz d m) 60)) : Calls Try.prog 8 #[.pointer (some ⟨x, 0, none⟩)] w fun e w' => e = .returned (.chan (some h)) ∧ w' = w := by
  have c := cell_blk hx 4
  simp at c
  go_enter Try.func8, Try.ntmps8
  go_wp2
  go_ret
  exact ⟨rfl, rfl⟩

theorem chan_same (a b : Option Nat) (w : World) (d : Nat) : (Op.equalIn (d + 1) 26 (.chan a) (.chan b)).run Try.prog w = .ok (a == b) w := by
  simp [Op.equalIn, run_underlying Try.underlying26]
theorem chan_eql (a b : Option Nat) (w : World) : (binOp .eql 26 (.chan a) (.chan b)).run Try.prog w = .ok (.bool (a == b)) w := by
  simp only [binOp]
  simp [Op.equal, Op.maxDepth, chan_same a b w 9999]
theorem chan_neq (a b : Option Nat) (w : World) : (binOp .neq 26 (.chan a) (.chan b)).run Try.prog w = .ok (.bool (!(a == b))) w := by
  simp only [binOp]
  simp [Op.equal, Op.maxDepth, chan_same a b w 9999]

set_option maxRecDepth 100000 in
set_option maxHeartbeats 1000000 in
theorem law_any (w : World) : Calls Try.prog 3 #[] w fun e w' => e = .returned (.bool true) ∧ Kp [] w w' := by
  go_enter Try.func3, Try.ntmps3
  go_wp2_with fail
  refine (newPlayer_any _).mono ?_
  rintro e w1 ⟨L, rfl, hp, hc, k1⟩
  go_wp2_with fail
  refine (newCtx_any _ _).mono ?_
  rintro e w2 ⟨rfl, hw2⟩
  have e1 : w2.heap[w1.heap.size + 1]? = some (.cells (ctxC w.heap.size w1.heap.size false 0 0) 60) := by
    rw [hw2]
    have := heap_alloc_last (w1.alloc openChan) (.cells (ctxC w.heap.size w1.heap.size false 0 0) 60)
    simpa using this
  have k2 : Kp [] w1 w2 := by rw [hw2]; exact ((Kp.refl _ _).alloc _).alloc _
  have z2 : w1.heap.size + 1 < w2.heap.size := lt_blk e1
  clear hw2
  go_wp2_with fail
  refine (newCtx_any _ _).mono ?_
  rintro e w3 ⟨rfl, hw3⟩
  have e2 : w3.heap[w2.heap.size + 1]? = some (.cells (ctxC w.heap.size w2.heap.size false 0 0) 60) := by
    rw [hw3]
    have := heap_alloc_last (w2.alloc openChan) (.cells (ctxC w.heap.size w2.heap.size false 0 0) 60)
    simpa using this
  have k3 : Kp [] w2 w3 := by rw [hw3]; exact ((Kp.refl _ _).alloc _).alloc _
  clear hw3
  have hp1 := lt_blk hp
  have hc1 := lt_blk hc
  have hp3 := ((k3.block _ (Nat.lt_of_lt_of_le hp1 k2.size) (by simp)).trans (k2.block _ hp1 (by simp))).trans hp
  have hc3 := ((k3.block _ (Nat.lt_of_lt_of_le hc1 k2.size) (by simp)).trans (k2.block _ hc1 (by simp))).trans hc
  have e13 := (k3.block _ z2 (by simp)).trans e1
  have k := (k1.trans k2).trans k3
  have hw1 := k1.size
  clear e1 k1 k2 k3 hp hc
  go_wp2_with fail
  refine (callDone_any _ _ _ _ L (.int .u64 0) _ e13 hp3 hc3 (.inl rfl)).mono ?_
  rintro e w4 ⟨rfl, e14, hp4, hc4, k4⟩
  have e24 := (k4.block _ (lt_blk e2) (by simp; omega)).trans e2
  have kk := k.andThen k4 (by simp; omega)
  clear e13 e2 hp3 hc3 k k4
  go_wp2_with (first
    | (go_at_call 7; refine (asleep_any _ _ _ _ _ _ _ e14).mono ?_; rintro e w' ⟨rfl, rfl⟩)
    | (go_at_call 7; refine (asleep_any _ _ _ _ _ _ _ e24).mono ?_; rintro e w' ⟨rfl, rfl⟩)
    | fail)
  refine (callDone_any _ _ _ _ L _ _ e24 hp4 hc4 (.inr rfl)).mono ?_
  rintro e w6 ⟨rfl, e26, -, -, k6⟩
  have e16 := (k6.block _ (lt_blk e14) (by simp; omega)).trans e14
  have kz := kk.andThen k6 (by simp; omega)
  clear e14 e24 hp4 hc4 kk k6
  have hne : (w1.heap.size == w2.heap.size) = false := by simp; omega
  have ceq := chan_eql
  have cne := chan_neq
  go_wp2_with (first
    | (go_at_call 7; refine (asleep_any _ _ _ _ _ _ _ e16).mono ?_; rintro e w' ⟨rfl, rfl⟩)
    | (go_at_call 7; refine (asleep_any _ _ _ _ _ _ _ e26).mono ?_; rintro e w' ⟨rfl, rfl⟩)
    | (go_at_call 8; refine (doneField_any _ _ _ _ _ _ _ e16).mono ?_; rintro e w' ⟨rfl, rfl⟩)
    | (go_at_call 8; refine (doneField_any _ _ _ _ _ _ _ e26).mono ?_; rintro e w' ⟨rfl, rfl⟩)
    | fail)
  go_ret
  exact ⟨rfl, kz⟩

end Go.Proofs.Qxb6614453a
