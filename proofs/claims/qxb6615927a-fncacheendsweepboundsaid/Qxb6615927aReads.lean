import Derived.Test.Qxb6615927aFrame
import Derived.BigRegion
import Derived.RegionTactic
import Derived.Deep.RegionHeld
namespace Go.Proofs.Qxb6615927a
open Go.RowKit

theorem cell_blk {w : World} {b : Nat} {c : Array Value} {t : TypeId} (h : w.heap[b]? = some (.cells c t)) (i : Nat) : w.cell? ⟨b, i, none⟩ = c[i]? := cell_of_row _ _ i c t (0, 0) h
theorem frozen_blk {w : World} {b : Nat} {c : Array Value} {t : TypeId} (h : w.heap[b]? = some (.cells c t)) (i : Nat) : w.frozen? ⟨b, i, none⟩ = false := by
  simp [World.frozen?, h]
theorem lt_blk {w : World} {b : Nat} {o : Obj} (h : w.heap[b]? = some o) : b < w.heap.size := (Array.getElem?_eq_some_iff.1 h).1

/-- The cache's cells. -/
abbrev cacheC (p q : Value) (ma : Option Nat) (bi : Nat) (sw : Int) : Array Value := #[p, q, .map ma, .map (some bi), .int .i64 sw]

theorem counts_any (cb : Nat) (p q : Value) (ba bi : Nat) (sw : Int) (w : World) (hc : w.heap[cb]? = some (.cells (cacheC p q (some ba) bi sw) 61)) {nA nI : Nat} {DA DI : DataW Unit}
    (hA : w.ownsMap Try.prog 68 ansE ba nA DA) (hI : w.ownsMap Try.prog 68 anyE bi nI DI) :
    Calls Try.prog 18 #[.pointer (some ⟨cb, 0, none⟩)] w fun e w' => e = .returned (.tuple #[.int .i64 (Maps.size DA), .int .i64 (Maps.size DI), .int .i64 sw]) ∧ ∃ n, w' = w.drewN n := by
  have c2 := cell_blk hc 2
  have c3 := cell_blk hc 3
  have c4 := cell_blk hc 4
  simp at c2 c3 c4
  have lA : ∀ nq ty, (Builtin.len_ #[59] ty #[.map (some ba)]).run Try.prog (w.drewN nq) = .ok (.int .i64 (Maps.size DA)) (w.drewN nq) := fun nq ty => World.ownsMap.len (w := w.drewN nq) (by exact hA) Try.underlying59 ty
  have lI : ∀ nq ty, (Builtin.len_ #[51] ty #[.map (some bi)]).run Try.prog (w.drewN nq) = .ok (.int .i64 (Maps.size DI)) (w.drewN nq) := fun nq ty => World.ownsMap.len (w := w.drewN nq) (by exact hI) Try.underlying51 ty
  go_enter Try.func18, Try.ntmps18
  go_wp2
  go_quiet (fail)
  go_wp2
  go_ret3
  exact ⟨rfl, _, rfl⟩

/-- ZZinFlight: is the key there? -/
theorem inFlight_any (cb : Nat) (p q : Value) (ma : Option Nat) (bi : Nat) (sw : Int) (w : World) (hc : w.heap[cb]? = some (.cells (cacheC p q ma bi sw) 61)) {nI : Nat} {DI : DataW Unit}
    (hI : w.ownsMap Try.prog 68 anyE bi nI DI) (x : Int × Int × Int × Int) (l : Lit) (hk : keyOf Try.prog 68 (four x) = some l) :
    Calls Try.prog 20 #[.pointer (some ⟨cb, 0, none⟩), four x] w fun e w' => e = .returned (.bool (Maps.has DI l)) ∧ Kp [] w w' := by
  have hc1 : ∀ o, (w.alloc o).cell? ⟨cb, 3, none⟩ = some (.map (some bi)) := fun o => (World.cell?_alloc_past _ _ _ (lt_blk hc)).trans (by simpa using cell_blk hc 3)
  obtain ⟨v, ps, hl, _⟩ := World.ownsMap.look_ok (w := (w.alloc (.cells #[.int .u8 x.1, .int .u8 x.2.1, .int .u8 x.2.2.1, .int .u8 x.2.2.2] 67)).drew) ((hI.alloc _).drew) law68 Try.underlying51 (Try.zeroValue27 _) (zd := .nil) (zp := []) rfl hk
  go_enter Try.func20, Try.ntmps20
  go_wp2
  go_region
  all_goals (go_wp2; go_ret; exact ⟨rfl, ((Kp.refl _ _).alloc _).drew⟩)

theorem look_hit {W : World} {ba nA : Nat} {DA : DataW Unit} (hA : W.ownsMap Try.prog 68 ansE ba nA DA) {x : Int × Int × Int × Int} {l : Lit} (hk : keyOf Try.prog 68 (four x) = some l) {m s : Int} (hh : Maps.has DA l = true) (hat : ∀ z, DA.atKey l z = ansD m s) :
    (Instr.lookup 59 (.map (some ba)) (four x) true).run Try.prog W = .ok (.tuple #[ansV (m, s), .bool true]) W ∧ 0 ≤ m ∧ m < 1000000000 := by
  obtain ⟨v, ps, hl, hv⟩ := hA.look_ok law68 Try.underlying59 (Try.zeroValue66 _) (ansE_mk (m := 0) (s := 0) (by omega) (by omega)) hk
  obtain ⟨y, rfl⟩ := ansE_inv hv
  obtain ⟨y0, y1, he⟩ := ansE_of hv
  simp only [Prod.mk.injEq] at he
  obtain ⟨e1, e2⟩ := ansD_inj ((hat _).symm.trans he.1)
  obtain ⟨m', s'⟩ := y
  simp only at e1 e2 y0 y1
  subst e1 e2
  rw [hh] at hl
  exact ⟨hl, y0, y1⟩

set_option maxHeartbeats 400000 in
/-- ZZanswerAt, at a key that is there. -/
theorem answer_any (cb : Nat) (p q : Value) (ba bi : Nat) (sw : Int) (w : World) (hc : w.heap[cb]? = some (.cells (cacheC p q (some ba) bi sw) 61)) {nA : Nat} {DA : DataW Unit}
    (hA : w.ownsMap Try.prog 68 ansE ba nA DA) (x : Int × Int × Int × Int) (l : Lit) (hk : keyOf Try.prog 68 (four x) = some l) (m s : Int) (hh : Maps.has DA l = true) (hat : ∀ z, DA.atKey l z = ansD m s) (hs1 : -20000000000 ≤ s) (hs2 : s ≤ 20000000000) :
    Calls Try.prog 21 #[.pointer (some ⟨cb, 0, none⟩), four x] w fun e w' => e = .returned (.tuple #[.bool true, .int .i64 (s + -62135596800), .int .i64 m, .int .i64 0]) ∧ Kp [] w w' := by
  have hc1 : ∀ o, (w.alloc o).cell? ⟨cb, 2, none⟩ = some (.map (some ba)) := fun o => (World.cell?_alloc_past _ _ _ (lt_blk hc)).trans (by simpa using cell_blk hc 2)
  have hc2 : ∀ o o', ((w.alloc o).alloc o').cell? ⟨cb, 2, none⟩ = some (.map (some ba)) := fun o o' => (World.cell?_alloc_past _ _ _ (by have := lt_blk hc; simp; omega)).trans (hc1 o)
  have hl1 := fun o => (look_hit (W := (w.alloc o).drew) ((hA.alloc _).drew) hk hh hat).1
  have hl2 := fun o o' => (look_hit (W := ((w.alloc o).alloc o').drew) (((hA.alloc _).alloc _).drew) hk hh hat).1
  obtain ⟨m0, m1⟩ := (look_hit hA hk hh hat).2
  clear hat hh
  go_enter Try.func21, Try.ntmps21
  go_wp2
  go_region
  all_goals go_wp2
  go_region_held (fun w' => w'.cell? ⟨w.heap.size + 1, 0, none⟩ = some (.slice none 0 0) ∧ w'.cell? ⟨w.heap.size + 1, 1, none⟩ = some (.int .u64 m) ∧ w'.cell? ⟨w.heap.size + 1, 2, none⟩ = some (.int .i64 s) ∧ w'.cell? ⟨w.heap.size + 1, 3, none⟩ = some (.pointer none)) (go_keep) (first | (go_at_call 30; refine (unix_any m s _ m0 m1 hs1 hs2).mono ?_; rintro e w' ⟨rfl, rfl⟩) | (go_at_call 31; refine (nano_any m s _ m0 m1).mono ?_; rintro e w' ⟨rfl, rfl⟩))
  go_wp2
  refine bodyPost_ret (v := .tuple #[.bool true, .int .i64 (s + -62135596800), .int .i64 m, .int .i64 0]) (by simp [results, Try.results21, go_sem]) rfl ⟨rfl, ?_⟩
  exact (((((Kp.refl _ _).alloc _).alloc _).alloc _).alloc _).drew.drew

end Go.Proofs.Qxb6615927a
