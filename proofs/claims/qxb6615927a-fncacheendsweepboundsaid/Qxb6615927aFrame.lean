import Derived.Test.Qxb6615927aPref
import Derived.Maps.RangeWalk
import Derived.Maps.OwnSet
import Derived.WideKeyArr2
namespace Go.Proofs.Qxb6615927a
open Go.RowKit

/-- ALL BUT THE BLOCKS OF S IS AS IT WAS. -/
structure Kp (S : List Nat) (w w' : World) : Prop where
  os : w'.os = w.os
  tape : w'.tape = w.tape
  output : w'.output = w.output
  size : w.heap.size ≤ w'.heap.size
  block : ∀ k, k < w.heap.size → k ∉ S → w'.heap[k]? = w.heap[k]?

namespace Kp
variable {S : List Nat} {w w' w'' : World}
theorem refl (S : List Nat) (w : World) : Kp S w w := ⟨rfl, rfl, rfl, Nat.le_refl _, fun _ _ _ => rfl⟩
theorem trans (h : Kp S w w') (g : Kp S w' w'') : Kp S w w'' :=
  ⟨g.os.trans h.os, g.tape.trans h.tape, g.output.trans h.output, Nat.le_trans h.size g.size, fun k hk hs => (g.block k (Nat.lt_of_lt_of_le hk h.size) hs).trans (h.block k hk hs)⟩
theorem grown {row : Option Nat} (h : Kp S w w') (g : w'.grownBy w'' row) (hr : ∀ j, row = some j → j ∈ S ∨ w.heap.size ≤ j) : Kp S w w'' :=
  ⟨g.os.trans h.os, g.tape.trans h.tape, g.output.trans h.output, Nat.le_trans h.size g.size, fun k hk hs => (g.block k (Nat.lt_of_lt_of_le hk h.size) (fun e => by
    rcases hr k e.symm with h1 | h1
    · exact hs h1
    · omega)).trans (h.block k hk hs)⟩
theorem alloc (h : Kp S w w') (o : Obj) : Kp S w (w'.alloc o) := h.grown (World.grownBy_alloc w' o none) (fun _ e => by cases e)
theorem drew (h : Kp S w w') : Kp S w w'.drew := ⟨h.os, h.tape, h.output, h.size, h.block⟩
theorem setCell (h : Kp S w w') {a : Addr} (ha : a.block ∈ S ∨ w.heap.size ≤ a.block) (v : Value) : Kp S w (w'.setCell a v) :=
  ⟨h.os, h.tape, h.output, by simpa using h.size, fun k hk hs => (by
    have hne : k ≠ a.block := fun e => by
      rcases ha with h1 | h1
      · exact hs (e ▸ h1)
      · omega
    exact (Below.heap_setCell w' a v k hne).trans (h.block k hk hs))⟩
theorem below (h : Kp S w w') {B : Nat} (hS : ∀ j ∈ S, B ≤ j) (hB : B ≤ w.heap.size) : Below B w w' :=
  ⟨h.os, h.tape, h.output, h.size, fun k hk => h.block k (Nat.lt_of_lt_of_le hk hB) (fun hs => by have := hS k hs; omega)⟩
theorem of_below (h : Below w.heap.size w w') : Kp S w w' := ⟨h.os, h.tape, h.output, h.size, fun k hk _ => h.block k hk⟩
theorem mono {T : List Nat} (h : Kp S w w') (hST : ∀ j ∈ S, j ∈ T ∨ w.heap.size ≤ j) : Kp T w w' :=
  ⟨h.os, h.tape, h.output, h.size, fun k hk hs => h.block k hk (fun h1 => by
    rcases hST k h1 with h2 | h2
    · exact hs h2
    · omega)⟩
theorem cell (h : Kp S w w') {a : Addr} (ha : a.block < w.heap.size) (hs : a.block ∉ S) : w'.cell? a = w.cell? a := World.cell?_of_block (h.block _ ha hs)
theorem row (h : Kp S w w') {b : Nat} {t : TypeId} {n : Nat} {f : Nat → Value} (hr : w.rowIs b t n f) (hs : b ∉ S) : w'.rowIs b t n f := hr.of_block (h.block _ hr.lt hs)
theorem owns {H : Type} {P : Program} {k : TypeId} {R : Value → Option (DataW H × List MemPlace)} {b n : Nat} {D : DataW H} (h : Kp S w w') (ho : w.ownsMap P k R b n D) (hs : b ∉ S) : w'.ownsMap P k R b n D := by
  have hlt := ho.lt
  obtain ⟨es, clock, hb, r⟩ := ho
  exact ⟨es, clock, (h.block b hlt hs).trans hb, r⟩
theorem src {a : Option Addr} {n : Nat} {K : Nat → Int} (h : Kp S w w') (hs : Src w a n K) (ha : ∀ b, a = some ⟨b, 0, none⟩ → b ∉ S) : Src w' a n K := by
  intro i hi
  obtain ⟨b, e, hb, hc⟩ := hs i hi
  exact ⟨b, e, Nat.lt_of_lt_of_le hb h.size, fun j hj => (h.cell (a := ⟨b, _, none⟩) hb (ha b e)).trans (hc j hj)⟩
end Kp

/-! ### the keys -/
theorem Try.arr68 : WideMaps.ArrKey Try.prog 68 5 4 := ⟨Try.underlying68, by kernel_rfl, by kernel_rfl, Try.cells68⟩
theorem law68 : Maps.Keyed Try.prog 68 := Maps.Keyed.of_law Try.arr68.law
theorem Try.some_types : ∃ m, Try.prog.types.size = m + 1 := ⟨Try.prog.types.size - 1, by
  have : 0 < Try.prog.types.size := of_decide_eq_true (by kernel_rfl)
  omega⟩

/-- An array of four bytes, by value. -/
abbrev four (x : Int × Int × Int × Int) : Value := .agg #[.int .u8 x.1, .int .u8 x.2.1, .int .u8 x.2.2.1, .int .u8 x.2.2.2]
/-- Array i of a row of arrays. -/
abbrev kv (K : Nat → Int) (i : Nat) : Value := .agg #[.int .u8 (K (i * 4)), .int .u8 (K (i * 4 + 1)), .int .u8 (K (i * 4 + 2)), .int .u8 (K (i * 4 + 3))]

theorem key4 {a b c d : Int} (ha : (Lit.int .u8 a).wf = true) (hb : (Lit.int .u8 b).wf = true) (hc : (Lit.int .u8 c).wf = true) (hd : (Lit.int .u8 d).wf = true) : ∃ l, keyOf Try.prog 68 (.agg #[.int .u8 a, .int .u8 b, .int .u8 c, .int .u8 d]) = some l := by
  have hkt := Try.arr68.keyType Try.some_types
  obtain ⟨m, hm⟩ := Try.some_types
  refine ⟨.string (keyBytes [.int .u8 a, .int .u8 b, .int .u8 c, .int .u8 d]), ?_⟩
  unfold keyOf
  simp only [Try.underlying68]
  rw [if_pos (by simp [hkt, Value.formed, Try.underlying68, Try.cells68]), hm]
  unfold Program.keyLits
  simp only [Try.underlying68, Value.cells]
  rw [if_pos (by rw [Try.cells68]; rfl), show List.range 4 = [0, 1, 2, 3] from rfl, List.mapM_cons, List.mapM_cons, List.mapM_cons, List.mapM_cons, List.mapM_nil]
  simp [Try.arr68.one, Program.keyLits, Try.underlying5, ha, hb, hc, hd]

theorem keyLits5 {m : Nat} {v : Value} {ls : List Lit} (h : Try.prog.keyLits m 5 [v] = some ls) : ∃ x, v = .int .u8 x := by
  cases m with
  | zero => simp [Program.keyLits] at h
  | succ m =>
    unfold Program.keyLits at h
    simp only [Try.underlying5] at h
    cases v <;> simp at h
    obtain ⟨⟨rfl, _⟩, _⟩ := h
    exact ⟨_, rfl⟩

theorem len4 {α : Type} : ∀ (l : List α), l.length = 4 → ∃ a b c d, l = [a, b, c, d]
  | [a, b, c, d], _ => ⟨a, b, c, d, rfl⟩
  | [], h => by cases h
  | [_], h => by cases h
  | [_, _], h => by cases h
  | [_, _, _], h => by cases h
  | _ :: _ :: _ :: _ :: _ :: _, h => by simp at h

theorem key4_inv {v : Value} {l : Lit} (h : keyOf Try.prog 68 v = some l) : ∃ x, v = four x := by
  obtain ⟨m, hm⟩ := Try.some_types
  unfold keyOf at h
  simp only [Try.underlying68] at h
  split at h
  · rename_i hf
    simp only [Bool.and_eq_true] at hf
    have hf2 := hf.2
    rw [hm] at h
    cases v with
    | agg xs =>
      simp [Value.formed, Try.underlying68, Try.cells68] at hf2
      obtain ⟨l0⟩ := xs
      obtain ⟨c0, c1, c2, c3, rfl⟩ := len4 l0 (by simpa using hf2)
      unfold Program.keyLits at h
      simp only [Try.underlying68, Value.cells] at h
      rw [if_pos (by rw [Try.cells68]; rfl), show List.range 4 = [0, 1, 2, 3] from rfl, List.mapM_cons, List.mapM_cons, List.mapM_cons, List.mapM_cons, List.mapM_nil] at h
      simp [Try.arr68.one] at h
      cases h0 : Try.prog.keyLits (m + 1) 5 [c0] with
      | none => simp [h0] at h
      | some l0 =>
      cases h1 : Try.prog.keyLits (m + 1) 5 [c1] with
      | none => simp [h0, h1] at h
      | some l1 =>
      cases h2 : Try.prog.keyLits (m + 1) 5 [c2] with
      | none => simp [h0, h1, h2] at h
      | some l2 =>
      cases h3 : Try.prog.keyLits (m + 1) 5 [c3] with
      | none => simp [h0, h1, h2, h3] at h
      | some l3 =>
      obtain ⟨x0, rfl⟩ := keyLits5 h0
      obtain ⟨x1, rfl⟩ := keyLits5 h1
      obtain ⟨x2, rfl⟩ := keyLits5 h2
      obtain ⟨x3, rfl⟩ := keyLits5 h3
      exact ⟨(x0, x1, x2, x3), rfl⟩
    | _ => simp [Value.formed, Try.underlying68] at hf2
  · cases h

/-! ### what the maps' elements read as -/
/-- whatever it is -/
def anyE (_ : Value) : Option (DataW Unit × List MemPlace) := some (.nil, [])
/-- a nil slice -/
def nilE : Value → Option (DataW Unit × List MemPlace)
  | .slice none 0 0 => some (.nil, [])
  | _ => none
theorem nilE_inv {v : Value} {y : DataW Unit × List MemPlace} (h : nilE v = some y) : ∃ _u : Unit, v = .slice none 0 0 := by
  unfold nilE at h
  split at h
  · exact ⟨(), rfl⟩
  · cases h
/-- an answer without hashes, its time without a monotonic reading -/
abbrev ansV (x : Int × Int) : Value := .agg #[.slice none 0 0, .int .u64 x.1, .int .i64 x.2, .pointer none]
def ansD (m s : Int) : DataW Unit := .agg [.lit (.int .u64 m), .lit (.int .i64 s)]
/-- .. told by its cells -/
def ansL : List Value → Option (DataW Unit × List MemPlace)
  | [.slice none 0 0, .int .u64 m, .int .i64 s, .pointer none] => if 0 ≤ m ∧ m < 1000000000 then some (ansD m s, []) else none
  | _ => none
def ansE : Value → Option (DataW Unit × List MemPlace)
  | .agg xs => ansL xs.toList
  | _ => none
theorem ansE_mk {m s : Int} (h0 : 0 ≤ m) (h1 : m < 1000000000) : ansE (ansV (m, s)) = some (ansD m s, []) := by
  simp [ansE, ansL, h0, h1]
theorem ansL_inv {l : List Value} {y : DataW Unit × List MemPlace} (h : ansL l = some y) : ∃ x : Int × Int, l = [.slice none 0 0, .int .u64 x.1, .int .i64 x.2, .pointer none] := by
  unfold ansL at h
  split at h
  · exact ⟨(_, _), rfl⟩
  · cases h
theorem ansE_inv {v : Value} {y : DataW Unit × List MemPlace} (h : ansE v = some y) : ∃ x : Int × Int, v = ansV x := by
  cases v with
  | agg xs =>
    obtain ⟨x, hx⟩ := ansL_inv h
    exact ⟨x, by rw [← Array.toArray_toList (xs := xs), hx]⟩
  | _ => cases h
theorem ansE_of {x : Int × Int} {y : DataW Unit × List MemPlace} (h : ansE (ansV x) = some y) : 0 ≤ x.1 ∧ x.1 < 1000000000 ∧ y = (ansD x.1 x.2, []) := by
  simp only [ansE, ansL] at h
  split at h
  · rename_i hc
    exact ⟨hc.1, hc.2, by cases h; rfl⟩
  · cases h
theorem ansD_inj {m s m' s' : Int} (h : ansD m s = ansD m' s') : m = m' ∧ s = s' := by
  simpa [ansD] using h

/-- A map without a key has no entry. -/
theorem size_zero {H : Type} {D : DataW H} (hk : ∀ es, D = .map es → ∀ p ∈ es, WideAt.IsKeyLit p.1) (h : ∀ l, Maps.has D l = false) : Maps.size D = 0 := by
  cases D with
  | map es =>
    cases es with
    | nil => rfl
    | cons p r =>
      have := h p.1
      simp [Maps.has, WideAt.sameKey_self (hk _ rfl p (by simp))] at this
  | _ => rfl

end Go.Proofs.Qxb6615927a
