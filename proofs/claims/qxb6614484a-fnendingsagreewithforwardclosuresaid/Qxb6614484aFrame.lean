import Derived.Test.Qxb6614484aRows
import Derived.WalkKit
import Derived.WalkSpells
import Derived.WalkLawsBesides
import Derived.Deep.QuietTactic
import Derived.BigQuiet
import Derived.BigRegion
import Derived.RegionTactic
import Derived.Deep.RegionHeld
import Derived.Deep.DeepCutAuto
import Derived.Deep.LoopGhost
import Derived.Deep.OwnRows
import Derived.Laws.MakeOwn
import Derived.Laws.BytesArg
import Derived.OwnWalk
import Derived.ArgAppend
import Derived.WalkSmall
import Derived.Deep.AppendLies
namespace Go.Proofs.Qxb6614484a
open Go.RowKit

/-- ALL BUT THE BLOCKS OF S IS AS IT WAS. -/
structure Kp (S : List Nat) (w w' : World) : Prop where
  os : w'.os = w.os
  tape : w'.tape = w.tape
  output : w'.output = w.output
  size : w.heap.size ≤ w'.heap.size
  block : ∀ k, k < w.heap.size → k ∉ S → w'.heap[k]? = w.heap[k]?

namespace Kp
variable {S : List Nat} {w w' w'' : World}
theorem refl (S : List Nat) (w : World) : Kp S w w := ⟨rfl, rfl, rfl, Nat.le_refl _, fun _ _ _ => rfl⟩
theorem trans (h : Kp S w w') (g : Kp S w' w'') : Kp S w w'' :=
  ⟨g.os.trans h.os, g.tape.trans h.tape, g.output.trans h.output, Nat.le_trans h.size g.size, fun k hk hs => (g.block k (Nat.lt_of_lt_of_le hk h.size) hs).trans (h.block k hk hs)⟩
theorem grown {row : Option Nat} (h : Kp S w w') (g : w'.grownBy w'' row) (hr : ∀ j, row = some j → j ∈ S ∨ w.heap.size ≤ j) : Kp S w w'' :=
  ⟨g.os.trans h.os, g.tape.trans h.tape, g.output.trans h.output, Nat.le_trans h.size g.size, fun k hk hs => (g.block k (Nat.lt_of_lt_of_le hk h.size) (fun e => by
    rcases hr k e.symm with h1 | h1
    · exact hs h1
    · omega)).trans (h.block k hk hs)⟩
theorem alloc (h : Kp S w w') (o : Obj) : Kp S w (w'.alloc o) := h.grown (World.grownBy_alloc w' o none) (fun _ e => by cases e)
theorem drew (h : Kp S w w') : Kp S w w'.drew := ⟨h.os, h.tape, h.output, h.size, h.block⟩
theorem setCell (h : Kp S w w') {a : Addr} (ha : a.block ∈ S ∨ w.heap.size ≤ a.block) (v : Value) : Kp S w (w'.setCell a v) :=
  ⟨h.os, h.tape, h.output, by simpa using h.size, fun k hk hs => (by
    have hne : k ≠ a.block := fun e => by
      rcases ha with h1 | h1
      · exact hs (e ▸ h1)
      · omega
    exact (Below.heap_setCell w' a v k hne).trans (h.block k hk hs))⟩
theorem below (h : Kp S w w') {B : Nat} (hS : ∀ j ∈ S, B ≤ j) (hB : B ≤ w.heap.size) : Below B w w' :=
  ⟨h.os, h.tape, h.output, h.size, fun k hk => h.block k (Nat.lt_of_lt_of_le hk hB) (fun hs => by have := hS k hs; omega)⟩
theorem of_below (h : Below w.heap.size w w') : Kp S w w' := ⟨h.os, h.tape, h.output, h.size, fun k hk _ => h.block k hk⟩
theorem mono {T : List Nat} (h : Kp S w w') (hST : ∀ j ∈ S, j ∈ T ∨ w.heap.size ≤ j) : Kp T w w' :=
  ⟨h.os, h.tape, h.output, h.size, fun k hk hs => h.block k hk (fun h1 => by
    rcases hST k h1 with h2 | h2
    · exact hs h2
    · omega)⟩
theorem cell (h : Kp S w w') {a : Addr} (ha : a.block < w.heap.size) (hs : a.block ∉ S) : w'.cell? a = w.cell? a := World.cell?_of_block (h.block _ ha hs)
theorem row (h : Kp S w w') {b : Nat} {t : TypeId} {n : Nat} {f : Nat → Value} (hr : w.rowIs b t n f) (hs : b ∉ S) : w'.rowIs b t n f := hr.of_block (h.block _ hr.lt hs)
end Kp


/-! ### blocks -/
theorem lt_blk {w : World} {b : Nat} {o : Obj} (h : w.heap[b]? = some o) : b < w.heap.size := (Array.getElem?_eq_some_iff.1 h).1
theorem cell_blk {w : World} {b : Nat} {c : Array Value} {t : TypeId} (h : w.heap[b]? = some (.cells c t)) (i : Nat) : w.cell? ⟨b, i, none⟩ = c[i]? := cell_of_row _ _ i c t (0, 0) h
theorem frozen_blk {w : World} {b : Nat} {c : Array Value} {t : TypeId} (h : w.heap[b]? = some (.cells c t)) (i : Nat) : w.frozen? ⟨b, i, none⟩ = false := by
  simp [World.frozen?, h]
theorem heap_alloc_last (w : World) (o : Obj) : (w.alloc o).heap[w.heap.size]? = some o := (MapKept.heap_alloc w o).1
theorem blk_alloc_old {w : World} {b : Nat} {o o' : Obj} (h : w.heap[b]? = some o) : (w.alloc o').heap[b]? = some o := (Deep.blk_alloc_lt _ _ _ (lt_blk h)).trans h
theorem blk_set {w : World} {b : Nat} {c : Array Value} {t : TypeId} (h : w.heap[b]? = some (.cells c t)) (i : Nat) (v : Value) : (w.setCell ⟨b, i, none⟩ v).heap[b]? = some (.cells (c.setIfInBounds i v) t) := by
  simp only [World.setCell]
  rw [Array.getElem?_modify, if_pos rfl, h]
  rfl
theorem blk_set_other {w : World} {b : Nat} {o : Obj} (h : w.heap[b]? = some o) {a : Addr} (ha : b ≠ a.block) (v : Value) : (w.setCell a v).heap[b]? = some o := (Below.heap_setCell w a v b ha).trans h
theorem Kp.andThen {S : List Nat} {a b c : World} (h : Kp [] a b) (g : Kp S b c) (hS : ∀ j ∈ S, a.heap.size ≤ j) : Kp [] a c :=
  ⟨g.os.trans h.os, g.tape.trans h.tape, g.output.trans h.output, Nat.le_trans h.size g.size, fun k hk hs => (g.block k (Nat.lt_of_lt_of_le hk h.size) (fun h1 => by have := hS k h1; omega)).trans (h.block k hk hs)⟩
theorem lt_of_cell {w : World} {x : Addr} {v : Value} (h : w.cell? x = some v) : x.block < w.heap.size := by
  cases hb : w.heap[x.block]? with
  | none => simp [World.cell?, hb] at h
  | some o => exact lt_blk hb
theorem Kp.cellSome {w w' : World} {x : Addr} {v : Value} (h : Kp [] w w') (hc : w.cell? x = some v) : w'.cell? x = some v := (h.cell (lt_of_cell hc) (by simp)).trans hc
theorem Kp.drewN {S : List Nat} {w w' : World} (h : Kp S w w') (n : Nat) : Kp S w (w'.drewN n) := ⟨h.os, h.tape, h.output, h.size, h.block⟩

end Go.Proofs.Qxb6614484a
