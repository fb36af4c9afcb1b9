import Derived.Test.Qxb6614484aClosure
import Derived.Conc.MuLone
namespace Go.Proofs.Qxb6614484a
open Go.RowKit

theorem enters {f : FuncId} {fn : Func} (hf : Try.prog.funcs[f]? = some fn) (hname : (fn.name == "runtime.NumGoroutine") = false) (hb : fn.body.isSome = true) (args : Array Value) (w : World) : (callFunc f args).run Try.prog w = .ok (.enter f args) w := by
  obtain ⟨c, hc⟩ := Option.isSome_iff_exists.1 hb
  exact MuLone.run_callFunc_enter hf hname hc args w

set_option maxHeartbeats 400000 in
/-- What ZZclosure hands closure: row q of adj. -/
theorem row_any (vb : Nat) (da : Option Addr) (dn dc n : Nat) (len : Nat → Nat) (el : Nat → Nat → Int) (w W : World) (hn : n ≤ dn) (hA : Adj w da dn len el) (hv : w.heap[vb]? = some (.cells #[.slice da dn dc] 23)) (hk : Kp [] w W) (q : Nat) (hq : q < n) :
    Calls Try.prog 21 #[.int .i64 q, .pointer (some ⟨vb, 0, none⟩)] W fun e W' => W' = W ∧ ∃ x cp, e = .returned (.slice x (len q) cp) ∧ Ints w x (len q) (el q) := by
  obtain ⟨b, o, rfl, x, cp, h1, h2⟩ := hA q (by omega)
  have v0 := hk.cellSome ((cell_blk hv 0).trans rfl)
  have h1' := hk.cellSome h1
  have hqi : (q : Int) < dn := by omega
  clear h1
  go_enter Try.func21, Try.ntmps21
  go_wp2
  go_ret
  exact ⟨rfl, x, cp, rfl, h2⟩

set_option maxHeartbeats 400000 in
theorem zz_any (n fl fc : Nat) (fa : Option Addr) (Fe : Nat → Int) (da : Option Addr) (dn dc : Nat) (len : Nat → Nat) (el : Nat → Nat → Int) (w : World) (hn : n ≤ 65536) (hnd : n ≤ dn) (hfl : fl ≤ 1048576) (hF : Ints w fa fl Fe) (hFn : ∀ i, i < fl → 0 ≤ Fe i ∧ Fe i < n) (hA : Adj w da dn len el) (hEn : ∀ q, q < n → len q ≤ maxLen ∧ ∀ i, i < len q → 0 ≤ el q i ∧ el q i < n) :
    Calls Try.prog 11 #[.int .i64 n, .slice fa fl fc, .slice da dn dc] w fun e w' => ∃ (b : Nat) (R : Nat → Bool), e = .returned (.slice (some ⟨b, 0, none⟩) n n) ∧ w'.rowIs b 4 n (fun q => .bool (R q)) ∧ Kp [] w w' ∧ ∀ q, R q = true ↔ Cl (Fr fl Fe) (Ed n len el) q := by
  have k1 := (Kp.refl [] w).alloc (.cells #[.slice da dn dc] 23)
  go_enter Try.func11, Try.ntmps11
  go_wp2_with fail
  refine (closure_any 21 (.pointer (some ⟨w.heap.size, 0, none⟩)) n fl fc fa Fe len el _ hn hfl (hF.later k1) hFn hEn (enters Try.func21 (by kernel_rfl) (by kernel_rfl)) (fun W hk q hq => row_any w.heap.size da dn dc n len el _ W hnd (hA.later k1) (heap_alloc_last _ _) hk q hq)).mono ?_
  rintro e w2 ⟨R, rfl, hr, hk, hR⟩
  go_wp2_with fail
  go_ret
  rw [World.size_alloc] at hr
  exact ⟨_, R, rfl, hr, k1.trans hk, hR⟩

end Go.Proofs.Qxb6614484a
