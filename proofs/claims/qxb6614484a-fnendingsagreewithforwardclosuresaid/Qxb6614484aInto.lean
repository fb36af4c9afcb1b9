import Derived.Test.Qxb6614484aAuto
namespace Go.Proofs.Qxb6614484a
open Go.RowKit

/-- THE ROWS OF epsInto: w: where it began; each row is nil or in new memory of its own. -/
structure Into (w : World) (n : Nat) (val : Nat → Value) (lst : Nat → List Nat) (wr : World) : Prop where
  row : wr.rowIs w.heap.size 22 n val
  own : ∀ y, y < n → wr.ownsRow (w.heap.size + 1) 3 1 (val y) (lst y).length ((lst y).map fun (t : Nat) => Value.int .i64 (t : Int))
  apart : ∀ y y', y < n → y' < n → y ≠ y' → (val y).ownBlock = none ∨ (val y).ownBlock ≠ (val y').ownBlock
  kept : Kp [] w wr

section
variable {w wr : World} {n : Nat} {val : Nat → Value} {lst : Nat → List Nat}
theorem Into.alloc (h : Into w n val lst wr) (o : Obj) : Into w n val lst (wr.alloc o) := ⟨h.row.alloc o, fun y hy => (h.own y hy).alloc o, h.apart, h.kept.alloc o⟩
theorem Into.start (w : World) (n : Nat) : Into w n (fun _ => .slice none 0 0) (fun _ => []) (w.alloc (.cells (madeCells #[.slice none 0 0] n) 22)) :=
  ⟨row_made (heap_alloc_last _ _), fun _ _ => World.ownsRow_nil _ _ _ _, fun _ _ _ _ _ => .inl rfl, (Kp.refl _ _).alloc _⟩
def setV {α : Type} (f : Nat → α) (y : Nat) (v : α) : Nat → α := fun z => if z = y then v else f z
theorem setV_same {α : Type} {f : Nat → α} {y : Nat} {v : α} : setV f y v y = v := by rw [setV, if_pos rfl]
theorem setV_other {α : Type} {f : Nat → α} {y z : Nat} {v : α} (h : z ≠ y) : setV f y v z = f z := by rw [setV, if_neg h]
theorem Into.after (h : Into w n val lst wr) {y : Nat} (hy : y < n) {w1 : World} (hgr : wr.grownBy w1 (val y).ownBlock) : w1.rowIs w.heap.size 22 n val :=
  h.row.of_block (hgr.block _ h.row.lt (fun e => by have := ((h.own y hy).lt _ e.symm).1; omega))
theorem Into.form (h : Into w n val lst wr) {y : Nat} (hy : y < n) : ∃ va vc, val y = .slice va (lst y).length vc := by
  rcases (h.own y hy).2 with ⟨hv, h0⟩ | ⟨g, cap, cur, hv, _⟩
  · exact ⟨none, 0, by rw [hv, h0]⟩
  · exact ⟨_, _, hv⟩
/-- 'into[y] = append(into[y], q)': behind the append (wr1) and the store. -/
theorem Into.push (h : Into w n val lst wr) {y q g cap : Nat} (hy : y < n) {w1 : World} (hown : w1.ownsRow (w.heap.size + 1) 3 1 (.slice (some ⟨g, 0, none⟩) ((lst y).length + 1) cap) ((lst y).length + 1) ((lst y).map (fun (t : Nat) => Value.int .i64 (t : Int)) ++ [.int .i64 (q : Int)])) (hgr : wr.grownBy w1 (val y).ownBlock) (hat : (val y).ownBlock = some g ∨ g = wr.heap.size) :
    Into w n (setV val y (.slice (some ⟨g, 0, none⟩) ((lst y).length + 1) cap)) (setV lst y (lst y ++ [q])) (w1.setCell ⟨w.heap.size, y, none⟩ (.slice (some ⟨g, 0, none⟩) ((lst y).length + 1) cap)) := by
  have hblk : ∀ z, z < n → ∀ k, (val z).ownBlock = some k → w.heap.size + 1 ≤ k ∧ k < wr.heap.size := fun z hz k hk => (h.own z hz).lt k hk
  have hrow1 : w1.rowIs w.heap.size 22 n val := h.row.of_block (hgr.block _ h.row.lt (fun e => by have := (hblk y hy _ e.symm).1; omega))
  refine ⟨(hrow1.set y _).congr fun j _ => rfl, fun z hz => ?_, fun z z' hz hz' hne => ?_, ?_⟩
  · by_cases e : z = y
    · subst e
      rw [setV_same, setV_same]
      simp only [List.length_append, List.length_singleton, List.map_append, List.map_cons, List.map_nil]
      exact ownsRow_setCell_below hown (Nat.lt_succ_self _) _
    · rw [setV_other e, setV_other e]
      exact ownsRow_setCell_below ((h.own z hz).kept hgr (h.apart z y hz hy e)) (Nat.lt_succ_self _) _
  · by_cases e : z = y
    · subst e
      rw [setV_same, setV_other (Ne.symm hne)]
      right
      show some g ≠ (val z').ownBlock
      intro he
      rcases hat with h1 | h1
      · rcases h.apart z z' hz hz' hne with h2 | h2
        · rw [h2] at h1; cases h1
        · exact h2 (h1.trans he)
      · have := (hblk z' hz' g he.symm).2
        omega
    · by_cases e' : z' = y
      · subst e'
        rw [setV_same, setV_other e]
        cases hb : (val z).ownBlock with
        | none => exact .inl rfl
        | some k =>
          right
          show some k ≠ some g
          intro he
          cases he
          rcases hat with h1 | h1
          · rcases h.apart z z' hz hz' hne with h2 | h2
            · rw [h2] at hb; cases hb
            · exact h2 (hb.trans h1.symm)
          · have := (hblk z hz _ hb).2
            omega
      · rw [setV_other e, setV_other e']
        exact h.apart z z' hz hz' hne
  · exact (h.kept.grown hgr (fun j hj => .inr (by have := (hblk y hy j hj).1; omega))).setCell (.inr (Nat.le_refl _)) _
end

/-- What the rows hold when the states below x are done, and of state x the first i links. -/
def Told (len : Nat → Nat) (el : Nat → Nat → Int) (x i : Nat) (lst : Nat → List Nat) : Prop :=
  ∀ y z, z ∈ lst y ↔ (z < x ∧ ∃ k, k < len z ∧ el z k = (y : Int)) ∨ (z = x ∧ ∃ k, k < i ∧ el x k = (y : Int))
theorem Told.start {len : Nat → Nat} {el : Nat → Nat → Int} : Told len el 0 0 (fun _ => []) := fun y z => by
  constructor
  · intro h; cases h
  · rintro (⟨h, _⟩ | ⟨_, k, hk, _⟩) <;> omega
theorem Told.push {len : Nat → Nat} {el : Nat → Nat → Int} {x i y : Nat} {lst : Nat → List Nat} (h : Told len el x i lst) (e : el x i = (y : Int)) : Told len el x (i + 1) (setV lst y (lst y ++ [x])) := fun y' z => by
  by_cases ey : y' = y
  · subst ey
    rw [setV_same, List.mem_append, h y' z, List.mem_singleton]
    constructor
    · rintro ((h1 | ⟨rfl, k, hk, e'⟩) | rfl)
      · exact .inl h1
      · exact .inr ⟨rfl, k, by omega, e'⟩
      · exact .inr ⟨rfl, i, by omega, e⟩
    · rintro (h1 | ⟨rfl, k, hk, e'⟩)
      · exact .inl (.inl h1)
      · exact .inr rfl
  · rw [setV_other ey, h y' z]
    constructor
    · rintro (h1 | ⟨rfl, k, hk, e'⟩)
      · exact .inl h1
      · exact .inr ⟨rfl, k, by omega, e'⟩
    · rintro (h1 | ⟨rfl, k, hk, e'⟩)
      · exact .inl h1
      · refine .inr ⟨rfl, k, ?_, e'⟩
        by_cases hki : k = i
        · subst hki; omega
        · omega
theorem Told.next {len : Nat → Nat} {el : Nat → Nat → Int} {x : Nat} {lst : Nat → List Nat} (h : Told len el x (len x) lst) : Told len el (x + 1) 0 lst := fun y z => by
  rw [h y z]
  constructor
  · rintro (⟨h1, h2⟩ | ⟨rfl, h2⟩)
    · exact .inl ⟨by omega, h2⟩
    · exact .inl ⟨by omega, h2⟩
  · rintro (⟨h1, h2⟩ | ⟨_, k, hk, _⟩)
    · by_cases e : z = x
      · subst e; exact .inr ⟨rfl, h2⟩
      · exact .inl ⟨by omega, h2⟩
    · omega
def lens (lst : Nat → List Nat) (m : Nat) : Prop := ∀ y, (lst y).length ≤ m
theorem lens_push {lst : Nat → List Nat} {m y q : Nat} (h : lens lst m) : lens (setV lst y (lst y ++ [q])) (m + 1) := fun z => by
  by_cases e : z = y
  · subst e; rw [setV_same]; have := h z; simp; omega
  · rw [setV_other e]; have := h z; omega
theorem lens_start {lst : Nat → List Nat} {m : Nat} (h : lens lst m) : lens lst (m + 0) := h
theorem lens_succ {lst : Nat → List Nat} {m i y q : Nat} (h : lens lst (m + i)) : lens (setV lst y (lst y ++ [q])) (m + (i + 1)) := lens_push h
theorem lens_le {lst : Nat → List Nat} {m m' : Nat} (h : lens lst m) (hm : m ≤ m') : lens lst m' := fun y => Nat.le_trans (h y) hm

end Go.Proofs.Qxb6614484a
