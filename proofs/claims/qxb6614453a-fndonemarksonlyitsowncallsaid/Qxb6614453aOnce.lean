import Derived.Test.Qxb6614453aParts
namespace Go.Proofs.Qxb6614453a
open Go.RowKit Go.MuLone

/-- The player's cells, the Cond's, a call context's. -/
abbrev playerC (cb : Nat) (mu : Int) : Array Value := #[.pointer none, .int .i32 mu, .int .u32 0, .pointer (some ⟨cb, 0, none⟩), .slice none 0 0, .slice none 0 0, .map none, .slice none 0 0, .int .i64 0]
abbrev condC (L chk : Value) : Array Value := #[L, .int .u32 0, .int .u32 0, .int .u64 0, .pointer none, .pointer none, chk]
abbrev ctxC (pb h : Nat) (zz : Bool) (d m : Int) : Array Value := #[.pointer (some ⟨pb, 0, none⟩), .int .u64 0, .int .i64 0, .pointer none, .chan (some h), .int .u32 0, .int .i32 0, .int .u32 0, .nilIface, .bool zz, .int .u32 d, .int .i32 m, .int .u32 0]
/-- The Cond's checker: not yet used, or its own address. -/
def Chk (cb : Nat) (chk : Value) : Prop := chk = .int .u64 0 ∨ chk = .pointer (some ⟨cb, 6, none⟩)

structure Sy (W : World) (vb x pb cb h : Nat) (L : Value) (zz : Bool) (d m mu : Int) (chk : Value) : Prop where
  var : W.heap[vb]? = some (.cells #[.pointer (some ⟨x, 0, none⟩)] 24)
  ctx : W.heap[x]? = some (.cells (ctxC pb h zz d m) 60)
  pl : W.heap[pb]? = some (.cells (playerC cb mu) 44)
  cond : W.heap[cb]? = some (.cells (condC L chk) 69)

namespace Sy
variable {W : World} {vb x pb cb h : Nat} {L : Value} {zz : Bool} {d m mu : Int} {chk : Value}
theorem ne (s : Sy W vb x pb cb h L zz d m mu chk) : vb ≠ x ∧ vb ≠ pb ∧ vb ≠ cb ∧ x ≠ pb ∧ x ≠ cb ∧ pb ≠ cb := by
  refine ⟨?_, ?_, ?_, ?_, ?_, ?_⟩ <;> intro e <;> subst e
  · have := s.var.symm.trans s.ctx; simp at this
  · have := s.var.symm.trans s.pl; simp at this
  · have := s.var.symm.trans s.cond; simp at this
  · have := s.ctx.symm.trans s.pl; simp at this
  · have := s.ctx.symm.trans s.cond; simp at this
  · have := s.pl.symm.trans s.cond; simp at this
theorem setM (s : Sy W vb x pb cb h L zz d m mu chk) (m' : Int) : Sy (W.setCell ⟨x, 11, none⟩ (.int .i32 m')) vb x pb cb h L zz d m' mu chk := by
  obtain ⟨n1, n2, n3, n4, n5, n6⟩ := s.ne
  exact ⟨blk_set_other s.var n1 _, blk_set s.ctx 11 _, blk_set_other s.pl (Ne.symm n4) _, blk_set_other s.cond (Ne.symm n5) _⟩
theorem setD (s : Sy W vb x pb cb h L zz d m mu chk) (d' : Int) : Sy (W.setCell ⟨x, 10, none⟩ (.int .u32 d')) vb x pb cb h L zz d' m mu chk := by
  obtain ⟨n1, n2, n3, n4, n5, n6⟩ := s.ne
  exact ⟨blk_set_other s.var n1 _, blk_set s.ctx 10 _, blk_set_other s.pl (Ne.symm n4) _, blk_set_other s.cond (Ne.symm n5) _⟩
theorem setA (s : Sy W vb x pb cb h L zz d m mu chk) (b : Bool) : Sy (W.setCell ⟨x, 9, none⟩ (.bool b)) vb x pb cb h L b d m mu chk := by
  obtain ⟨n1, n2, n3, n4, n5, n6⟩ := s.ne
  exact ⟨blk_set_other s.var n1 _, blk_set s.ctx 9 _, blk_set_other s.pl (Ne.symm n4) _, blk_set_other s.cond (Ne.symm n5) _⟩
theorem setMu (s : Sy W vb x pb cb h L zz d m mu chk) (mu' : Int) : Sy (W.setCell ⟨pb, 1, none⟩ (.int .i32 mu')) vb x pb cb h L zz d m mu' chk := by
  obtain ⟨n1, n2, n3, n4, n5, n6⟩ := s.ne
  exact ⟨blk_set_other s.var n2 _, blk_set_other s.ctx n4 _, blk_set s.pl 1 _, blk_set_other s.cond (Ne.symm n6) _⟩
theorem drew (s : Sy W vb x pb cb h L zz d m mu chk) : Sy W.drew vb x pb cb h L zz d m mu chk := ⟨s.var, s.ctx, s.pl, s.cond⟩
end Sy

set_option maxHeartbeats 400000 in
/-- '(*sync.Cond).Broadcast', nobody waiting. -/
theorem broadcast_any (cb : Nat) (L chk : Value) (w : World) (hb : w.heap[cb]? = some (.cells (condC L chk) 69)) (hk : Chk cb chk) :
    Calls Try.prog 15 #[.pointer (some ⟨cb, 0, none⟩)] w fun e w' => e = .returned (.tuple #[]) ∧ w'.heap[cb]? = some (.cells (condC L (.pointer (some ⟨cb, 6, none⟩))) 69) ∧ Kp [cb] w w' := by
  have c6 := cell_blk hb 6
  have z6 := frozen_blk hb 6
  simp at c6
  rcases hk with rfl | rfl
  · have hch := check_first ⟨cb, 6, none⟩ w c6 z6
    have hb' := blk_set hb 6 (.pointer (some ⟨cb, 6, none⟩))
    have hno := notify_none cb 1 (w.setCell ⟨cb, 6, none⟩ (.pointer (some ⟨cb, 6, none⟩))) (by rw [cell_blk hb' 1]; rfl) (by rw [cell_blk hb' 2]; rfl)
    go_enter Try.func15, Try.ntmps15
    go_wp2
    go_end0
    exact ⟨rfl, hb', (Kp.refl _ _).setCell (.inl (by simp)) _⟩
  · have hch := check_later ⟨cb, 6, none⟩ w c6
    have hno := notify_none cb 1 w (by rw [cell_blk hb 1]; rfl) (by rw [cell_blk hb 2]; rfl)
    go_enter Try.func15, Try.ntmps15
    go_wp2
    go_end0
    exact ⟨rfl, hb, Kp.refl _ _⟩

set_option maxHeartbeats 400000 in
/-- What Done does once: under the player's lock it marks the call asleep; then it wakes whoever waits. -/
theorem once_any (vb x pb cb h : Nat) (L : Value) (d m : Int) (chk : Value) (w : World) (s : Sy w vb x pb cb h L false d m 0 chk) (hk : Chk cb chk) :
    Calls Try.prog 12 #[.pointer (some ⟨vb, 0, none⟩)] w fun e w' => e = .returned (.tuple #[]) ∧ Sy w' vb x pb cb h L true d m 0 (.pointer (some ⟨cb, 6, none⟩)) ∧ Kp [x, pb, cb] w w' := by
  have v0 := cell_blk s.var 0
  have x0 := cell_blk s.ctx 0
  have p1 := cell_blk s.pl 1
  have q1 := frozen_blk s.pl 1
  simp at v0 x0 p1
  go_enter Try.func12, Try.ntmps12
  go_wp2_with fail
  refine (lock_free muLib _ _ p1 q1).mono ?_
  rintro e w1 ⟨rfl, hw1⟩
  have s1 := s.setMu 1
  have k1 := (Kp.refl [x, pb, cb] w).setCell (a := ⟨pb, 1, none⟩) (.inl (by simp)) (.int .i32 1)
  rw [← hw1] at s1 k1
  clear hw1 v0 x0 p1 q1 s
  obtain ⟨n1, n2, n3, n4, n5, n6⟩ := s1.ne
  have v0 := cell_blk s1.var 0
  have x0 := cell_blk s1.ctx 0
  have x9 := cell_blk s1.ctx 9
  have z9 := frozen_blk s1.ctx 9
  have s2 := s1.setA true
  have k2 := k1.setCell (a := ⟨x, 9, none⟩) (.inl (by simp)) (.bool true)
  have p1 := cell_blk s2.pl 1
  have q1 := frozen_blk s2.pl 1
  have n1' : ¬ x = vb := fun e => n1 e.symm
  simp at v0 x0 x9 p1
  go_wp2_with fail
  refine (unlock_held muLib _ _ p1 q1).mono ?_
  rintro e w2 ⟨rfl, hw2⟩
  have s3 := s2.setMu 0
  have k3 := k2.setCell (a := ⟨pb, 1, none⟩) (.inl (by simp)) (.int .i32 0)
  rw [← hw2] at s3 k3
  clear hw2 v0 x0 x9 z9 p1 q1 s1 s2 k1 k2 n1'
  have v0 := cell_blk s3.var 0
  have x0 := cell_blk s3.ctx 0
  have p3 := cell_blk s3.pl 3
  simp at v0 x0 p3
  go_wp2_with fail
  refine (broadcast_any cb L chk _ s3.cond hk).mono ?_
  rintro e w3 ⟨rfl, hc, k4⟩
  go_wp2_with fail
  go_end0
  have k5 := k4.mono (T := [x, pb, cb]) (fun j hj => .inl (by simp at hj; simp [hj]))
  refine ⟨rfl, ⟨?_, ?_, ?_, hc⟩, k3.trans k5⟩
  · exact (k4.block _ (lt_blk s3.var) (by simpa using n3)).trans s3.var
  · exact (k4.block _ (lt_blk s3.ctx) (by simpa using n5)).trans s3.ctx
  · exact (k4.block _ (lt_blk s3.pl) (by simpa using n6)).trans s3.pl

/-- '(*sync/atomic.Bool).Store(true)', ENTERED AS A DEFERRED CALL: the cell holds 1. -/
theorem store_deferred (a : Addr) (x : Value) (u : FrameMode) (w : World) (hc : w.cell? a = some x) (hz : w.frozen? a = false) :
    CallsD Try.prog 23 #[.pointer (some a), .bool true] u w fun e u' w' => u' = u ∧ (e = .returned (.tuple #[]) ∧ w' = w.drew.setCell a (.int .u32 1)) := by
  have hc' : w.drew.cell? a = some x := by go_simp
  have hz' : w.drew.frozen? a = false := by go_simp
  have hst := run_call_store (P := Try.prog) Try.func32 (by kernel_rfl) (by kernel_rfl) (by kernel_rfl) (by kernel_rfl) (k := .u32) (y := 1) hc' hz'
  go_enter_d Try.func23, Try.ntmps23
  go_wp2
  go_region_calls
  all_goals (go_end0; exact ⟨rfl, rfl⟩)

/-- '(*sync/atomic.Bool).Load', the word 0. -/
theorem load_zero (a : Addr) (w : World) (hc : w.cell? a = some (.int .u32 0)) : Calls Try.prog 16 #[.pointer (some a)] w fun e w' => e = .returned (.bool false) ∧ w' = w := by
  have hl := run_call_load (P := Try.prog) Try.func22 (by kernel_rfl) (by kernel_rfl) (by kernel_rfl) .u32 (by kernel_rfl) (w := w) (a := a) (x := 0) hc
  go_enter Try.func16, Try.ntmps16
  go_wp2
  go_ret
  exact ⟨rfl, rfl⟩

set_option maxRecDepth 100000 in
set_option maxHeartbeats 800000 in
/-- '(*sync.Once).doSlow' of Done's Once, not yet done and its lock free. -/
theorem slow_any (vb x pb cb h : Nat) (L chk : Value) (w : World) (s : Sy w vb x pb cb h L false 0 0 0 chk) (hk : Chk cb chk) :
    Calls Try.prog 17 #[.pointer (some ⟨x, 10, none⟩), .func (.func 12) #[] #[.pointer (some ⟨vb, 0, none⟩)]] w fun e w' => e = .returned (.tuple #[]) ∧ Sy w' vb x pb cb h L true 1 0 0 (.pointer (some ⟨cb, 6, none⟩)) ∧ Kp [x, pb, cb] w w' := by
  have c11 := cell_blk s.ctx 11
  have z11 := frozen_blk s.ctx 11
  simp at c11
  have hnot : ∀ (x : Bool) (w : World), (Op.unary .not (.bool x)).run Try.prog w = .ok (.bool (!x)) w := fun _ _ => rfl
  go_enter_defers Try.func17, Try.ntmps17
  go_wp2_with fail
  refine (lock_free muLib _ _ c11 z11).mono ?_
  rintro e w1 ⟨rfl, hw1⟩
  have s1 := s.setM 1
  have k1 := (Kp.refl [x, pb, cb] w).setCell (a := ⟨x, 11, none⟩) (.inl (by simp)) (.int .i32 1)
  rw [← hw1] at s1 k1
  clear hw1 c11 z11 s
  have c10 := cell_blk s1.ctx 10
  simp at c10
  go_wp2_with fail
  refine (load_zero _ _ c10).mono ?_
  rintro e w1' ⟨rfl, rfl⟩
  go_wp2_with fail
  refine (once_any vb x pb cb h L 0 1 chk _ s1 hk).mono ?_
  rintro e w2 ⟨rfl, s2, k2⟩
  have k3 := k1.trans k2
  clear c10 k1 k2 s1
  go_wp2_with fail
  -- THE DOOR: two deferred calls, the last laid first
  refine leaves_cons (f := 23) (args := #[.pointer (some ⟨x, 10, none⟩), .bool true]) (by simp) (by simp [go_sem]) ?_
  refine (store_deferred ⟨x, 10, none⟩ (.int .u32 0) .returning _ (by rw [cell_blk s2.ctx 10]; rfl) (frozen_blk s2.ctx 10)).mono ?_
  rintro e u' w3 ⟨rfl, rfl, hw3⟩
  have s3 := s2.drew.setD 1
  have k4 := k3.drew.setCell (a := ⟨x, 10, none⟩) (.inl (by simp)) (.int .u32 1)
  rw [← hw3] at s3 k4
  clear hw3 s2 k3
  refine leaves_cons (f := 14) (args := #[.pointer (some ⟨x, 11, none⟩)]) (by simp [settle]) (by simp [go_sem]) ?_
  refine (unlock_deferred muLib ⟨x, 11, none⟩ _ _ (by rw [cell_blk s3.ctx 11]; rfl) (frozen_blk s3.ctx 11)).mono ?_
  rintro e u' w4 ⟨rfl, rfl, hw4⟩
  have s4 := s3.setM 0
  have k5 := k4.setCell (a := ⟨x, 11, none⟩) (.inl (by simp)) (.int .i32 0)
  rw [← hw4] at s4 k5
  clear hw4 s3 k4
  simp [Leaves, settle, results, Try.results17]
  exact ⟨s4, k5⟩

set_option maxHeartbeats 400000 in
/-- '(*sync.Once).Do', the first time. -/
theorem do_any (vb x pb cb h : Nat) (L chk : Value) (w : World) (s : Sy w vb x pb cb h L false 0 0 0 chk) (hk : Chk cb chk) :
    Calls Try.prog 11 #[.pointer (some ⟨x, 10, none⟩), .func (.func 12) #[] #[.pointer (some ⟨vb, 0, none⟩)]] w fun e w' => e = .returned (.tuple #[]) ∧ Sy w' vb x pb cb h L true 1 0 0 (.pointer (some ⟨cb, 6, none⟩)) ∧ Kp [x, pb, cb] w w' := by
  have c10 := cell_blk s.ctx 10
  simp at c10
  have hnot : ∀ (x : Bool) (w : World), (Op.unary .not (.bool x)).run Try.prog w = .ok (.bool (!x)) w := fun _ _ => rfl
  go_enter Try.func11, Try.ntmps11
  go_wp2_with fail
  refine (load_zero _ _ c10).mono ?_
  rintro e w1' ⟨rfl, rfl⟩
  go_wp2_with fail
  refine (slow_any vb x pb cb h L chk _ s hk).mono ?_
  rintro e w2 ⟨rfl, s2, k2⟩
  go_wp2_with fail
  go_end0
  exact ⟨rfl, s2, k2⟩

set_option maxHeartbeats 400000 in
/-- '(*callContext).Done', the first time. -/
theorem done_any (x pb cb h : Nat) (L chk : Value) (w : World) (hx : w.heap[x]? = some (.cells (ctxC pb h false 0 0) 60)) (hp : w.heap[pb]? = some (.cells (playerC cb 0) 44)) (hc : w.heap[cb]? = some (.cells (condC L chk) 69)) (hk : Chk cb chk) :
    Calls Try.prog 10 #[.pointer (some ⟨x, 0, none⟩)] w fun e w' => e = .returned (.chan (some h)) ∧ w'.heap[x]? = some (.cells (ctxC pb h true 1 0) 60) ∧ w'.heap[pb]? = some (.cells (playerC cb 0) 44) ∧ w'.heap[cb]? = some (.cells (condC L (.pointer (some ⟨cb, 6, none⟩))) 69) ∧ Kp [x, pb, cb] w w' := by
  have s : Sy (w.alloc (.cells #[.pointer (some ⟨x, 0, none⟩)] 24)) w.heap.size x pb cb h L false 0 0 0 chk := ⟨heap_alloc_last _ _, blk_alloc_old hx, blk_alloc_old hp, blk_alloc_old hc⟩
  have k := (Kp.refl [x, pb, cb] w).alloc (.cells #[.pointer (some ⟨x, 0, none⟩)] 24)
  go_enter Try.func10, Try.ntmps10
  go_wp2_with fail
  refine (do_any w.heap.size x pb cb h L chk _ s hk).mono ?_
  rintro e w2 ⟨rfl, s2, k2⟩
  have v0 := cell_blk s2.var 0
  have x4 := cell_blk s2.ctx 4
  simp at v0 x4
  go_wp2_with fail
  go_ret
  exact ⟨rfl, s2.ctx, s2.pl, s2.cond, k.trans k2⟩

set_option maxHeartbeats 400000 in
theorem callDone_any (x pb cb h : Nat) (L chk : Value) (w : World) (hx : w.heap[x]? = some (.cells (ctxC pb h false 0 0) 60)) (hp : w.heap[pb]? = some (.cells (playerC cb 0) 44)) (hc : w.heap[cb]? = some (.cells (condC L chk) 69)) (hk : Chk cb chk) :
    Calls Try.prog 6 #[.pointer (some ⟨x, 0, none⟩)] w fun e w' => e = .returned (.chan (some h)) ∧ w'.heap[x]? = some (.cells (ctxC pb h true 1 0) 60) ∧ w'.heap[pb]? = some (.cells (playerC cb 0) 44) ∧ w'.heap[cb]? = some (.cells (condC L (.pointer (some ⟨cb, 6, none⟩))) 69) ∧ Kp [x, pb, cb] w w' := by
  go_enter Try.func6, Try.ntmps6
  go_wp2_with fail
  refine (done_any x pb cb h L chk _ hx hp hc hk).mono ?_
  rintro e w2 ⟨rfl, h1, h2, h3, h4⟩
  go_wp2_with fail
  go_ret
  exact ⟨rfl, h1, h2, h3, h4⟩

end Go.Proofs.Qxb6614453a
