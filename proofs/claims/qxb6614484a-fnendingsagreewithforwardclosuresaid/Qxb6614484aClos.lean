import Derived.Test.Qxb6614484aFrame
import Derived.Test.Qxb6614484aPlain
namespace Go.Proofs.Qxb6614484a
open Go.RowKit

theorem Try.info3 : (Try.prog.info? 3).map (fun i => (i.zero, i.size, i.bytes)) = some (some (.int .i64 0), 1, 8) := by kernel_rfl
theorem Try.info4 : (Try.prog.info? 4).map (fun i => (i.zero, i.size, i.bytes)) = some (some (.bool false), 1, 1) := by kernel_rfl

/-- 'make([]T, m, n)' of one-cell elements. -/
theorem make1 (t e : TypeId) (z : Value) (bytes : Nat) (ht : Try.prog.underlying t = some (.slice e)) (hinfo : (Try.prog.info? e).map (fun i => (i.zero, i.size, i.bytes)) = some (some z, 1, bytes)) (hz1 : z.cells = #[z]) (hb : bytes ≤ 16) (m n : Nat) (hmn : m ≤ n) (hn : n ≤ 1048576) (w : World) :
    (Instr.makeSlice t (.int .i64 (m : Int)) (.int .i64 (n : Int))).run Try.prog w = .ok (.slice (some ⟨w.heap.size, 0, none⟩) m n) (w.alloc (.cells (madeCells #[z] n) e)) := by
  obtain ⟨i, hi, hzz⟩ := Option.map_eq_some_iff.1 hinfo
  simp only [Prod.mk.injEq] at hzz
  obtain ⟨hz, hs, hb'⟩ := hzz
  have h1 : (i.bytes : Int) * (n : Int) ≤ 281474976710656 := by
    have : i.bytes * n ≤ 16 * 1048576 := Nat.mul_le_mul (by omega) hn
    have h' : ((i.bytes * n : Nat) : Int) ≤ 281474976710656 := by omega
    rwa [Int.natCast_mul] at h'
  have hr := run_make (P := Try.prog) w t e i _ ht hi hz .i64 .i64 m n (by omega) (by omega) h1 (by omega)
  simp only [Int.toNat_natCast, hs, Nat.mul_one, hz1] at hr
  exact hr
theorem row_made {W : World} {b n : Nat} {z : Value} {e : TypeId} (h : W.heap[b]? = some (.cells (madeCells #[z] n) e)) : W.rowIs b e n (fun _ => z) := by
  refine ⟨_, h, by simp [size_madeCells], fun i hi => ?_⟩
  have := toList_madeCells_one z n
  rw [← Array.getElem?_toList, this]
  simp [hi]

/-! ### what the arguments hold -/
/-- A slice of ints. -/
def Ints (w : World) (a : Option Addr) (n : Nat) (f : Nat → Int) : Prop := ∀ i, i < n → ∃ b o, a = some ⟨b, o, none⟩ ∧ w.cell? ⟨b, o + i, none⟩ = some (.int .i64 (f i))
/-- A slice of slices of ints. -/
def Adj (w : World) (a : Option Addr) (n : Nat) (len : Nat → Nat) (el : Nat → Nat → Int) : Prop := ∀ q, q < n → ∃ b o, a = some ⟨b, o, none⟩ ∧ ∃ x cp, w.cell? ⟨b, o + q, none⟩ = some (.slice x (len q) cp) ∧ Ints w x (len q) (el q)
theorem Ints.later {w w' : World} {a : Option Addr} {n : Nat} {f : Nat → Int} (h : Ints w a n f) (g : Kp [] w w') : Ints w' a n f := fun i hi => by
  obtain ⟨b, o, e, hc⟩ := h i hi
  exact ⟨b, o, e, g.cellSome hc⟩
theorem Adj.later {w w' : World} {a : Option Addr} {n : Nat} {len : Nat → Nat} {el : Nat → Nat → Int} (h : Adj w a n len el) (g : Kp [] w w') : Adj w' a n len el := fun i hi => by
  obtain ⟨b, o, e, x, cp, h1, h2⟩ := h i hi
  exact ⟨b, o, e, x, cp, g.cellSome h1, h2.later g⟩

/-- THE STATE OF closure: the row 'in', the list 'todo'; w: where it began. -/
structure Cs (w : World) (n : Nat) (I : Nat → Bool) (g cap : Nat) (T : List Nat) (wr : World) : Prop where
  inr : wr.rowIs w.heap.size 4 n (fun q => .bool (I q))
  own : wr.ownsRow (w.heap.size + 1) 3 1 (.slice (some ⟨g, 0, none⟩) T.length cap) T.length (T.map fun (t : Nat) => Value.int .i64 (t : Int))
  kept : Kp [] w wr

section
variable {w wr : World} {n : Nat} {I : Nat → Bool} {g cap : Nat} {T : List Nat}
theorem Cs.mark (h : Cs w n I g cap T wr) (q : Nat) : Cs w n (put I q) g cap T (wr.setCell ⟨w.heap.size, q, none⟩ (.bool true)) :=
  ⟨(h.inr.set q (.bool true)).congr fun j _ => by rw [put]; split <;> rfl, ownsRow_setCell_below h.own (Nat.lt_succ_self _) _, h.kept.setCell (.inr (Nat.le_refl _)) _⟩
theorem Cs.alloc (h : Cs w n I g cap T wr) (o : Obj) : Cs w n I g cap T (wr.alloc o) := ⟨h.inr.alloc o, h.own.alloc o, h.kept.alloc o⟩
theorem Cs.le (h : Cs w n I g cap T wr) : w.heap.size + 1 ≤ g := by
  rcases h.own.2 with ⟨h0, _⟩ | ⟨g', cap', cur, hv, hb, _⟩
  · cases h0
  · cases hv; exact hb
theorem Cs.room (h : Cs w n I g cap T wr) : T.length ≤ cap := by
  rcases h.own.2 with ⟨h0, _⟩ | ⟨g', cap', cur, hv, hb, _, hn, _⟩
  · cases h0
  · cases hv; exact hn
theorem Cs.pop {q : Nat} (h : Cs w n I g cap (T ++ [q]) wr) : Cs w n I g cap T wr := by
  refine ⟨h.inr, ?_, h.kept⟩
  have ho := h.own
  simp only [List.length_append, List.length_singleton, List.map_append] at ho
  exact ownsRow_pop (by simp) ho
theorem Cs.top {q : Nat} (h : Cs w n I g cap (T ++ [q]) wr) : wr.cell? ⟨g, T.length, none⟩ = some (.int .i64 (q : Int)) := by
  have hx := h.own.cellAt T.length (by simp)
  rw [hx]
  simp
/-- 'todo = append(todo, q)'. -/
theorem wpList_push (W : World) {ops : Array Oper} {rest : List Oper} {o : Oper} {a : Act} {Q : Exit → Act → World → Prop}
    (hg : o.guard = none) (s x : Operand) (hop : o.op = Op.call { callee := Callee.builtin Builtin.append, args := #[s, x], argTypes := #[22, 22] })
    (q xb c : Nat) (hs : a.eval s = .slice (some ⟨g, 0, none⟩) T.length cap) (hx : a.eval x = .slice (some ⟨xb, 0, none⟩) 1 c) (hc : W.cell? ⟨xb, 0, none⟩ = some (.int .i64 (q : Int)))
    (h : Cs w n I g cap T W) (hT : T.length + 1 ≤ 65536)
    (hK : ∀ g' cap' W', Cs w n I g' cap' (T ++ [q]) W' → wpList Try.prog ops Q rest (a.put o.dst (.slice (some ⟨g', 0, none⟩) (T.length + 1) cap')) W') :
    wpList Try.prog ops Q (o :: rest) a W := by
  obtain ⟨i, hi, hz0, hz1, hz2⟩ := info_parts Try.info3
  refine wpList_append_own W hg s x 22 hop (w.heap.size + 1) 3 i _ 1 8 Try.underlying22 hi hz0 hz1 hz2 rfl (by decide) _ T.length _ hs h.own ⟨xb, 0, none⟩ 1 c [.int .i64 (q : Int)] hx rfl (fun j u hj => by
      match j, hj with
      | 0, hj => simp at hj; subst hj; rw [Addr.add_lit]; exact hc) (fun u hu => by simp at hu; subst hu; rfl) (by unfold maxLen; omega) (by omega) (by have := h.inr.lt; omega) ?_
  intro v' w' hown hgr hnil
  obtain ⟨g', cap', rfl, hb, _⟩ := hown.form (by omega)
  refine hK g' cap' w' ⟨h.inr.of_block (hgr.block _ h.inr.lt (by have := h.le; simp [Value.ownBlock]; omega)), ?_, h.kept.grown hgr (fun j hj => by have := h.le; simp [Value.ownBlock] at hj; omega)⟩
  simp only [List.length_append, List.length_singleton, List.map_append, List.map_cons, List.map_nil]
  exact hown
end

end Go.Proofs.Qxb6614484a
