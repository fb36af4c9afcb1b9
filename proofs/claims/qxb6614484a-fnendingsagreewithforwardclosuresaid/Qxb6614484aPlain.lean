import Derived.Below
namespace Go.Proofs.Qxb6614484a
/-! THE PLAIN LAW: no Go in sight. States 0 .. n-1; 'F': the states one begins with; 'E x y': x links to y. -/

/-- q lies in every set that holds F and is closed under E. -/
def Cl (F : Nat → Prop) (E : Nat → Nat → Prop) (q : Nat) : Prop := ∀ S : Nat → Prop, (∀ x, F x → S x) → (∀ x y, S x → E x y → S y) → S q

section
variable {F G : Nat → Prop} {E : Nat → Nat → Prop}
theorem Cl.base {q : Nat} (h : F q) : Cl F E q := fun _ h1 _ => h1 q h
theorem Cl.step {x y : Nat} (h : Cl F E x) (e : E x y) : Cl F E y := fun S h1 h2 => h2 x y (h S h1 h2) e
theorem Cl.least {S : Nat → Prop} (h1 : ∀ x, F x → S x) (h2 : ∀ x y, S x → E x y → S y) {q : Nat} (h : Cl F E q) : S q := h S h1 h2
theorem Cl.mono (hFG : ∀ x, F x → G x) {q : Nat} (h : Cl F E q) : Cl G E q := h.least (fun _ hx => .base (hFG _ hx)) (fun _ _ hx e => hx.step e)
/-- The closure of a union. -/
theorem Cl.union {q : Nat} : Cl (fun x => F x ∨ G x) E q ↔ Cl F E q ∨ Cl G E q := by
  constructor
  · intro h
    refine h.least (S := fun q => Cl F E q ∨ Cl G E q) (fun x hx => ?_) (fun x y hx e => ?_)
    · rcases hx with hx | hx
      · exact .inl (.base hx)
      · exact .inr (.base hx)
    · rcases hx with hx | hx
      · exact .inl (hx.step e)
      · exact .inr (hx.step e)
  · rintro (h | h)
    · exact h.mono fun _ => .inl
    · exact h.mono fun _ => .inr
/-- The closure of a closure. -/
theorem Cl.idem {q : Nat} : Cl (Cl F E) E q ↔ Cl F E q := ⟨fun h => h.least (fun _ hx => hx) (fun _ _ hx e => hx.step e), fun h => .base h⟩
theorem Cl.congr {q : Nat} (h : ∀ x, F x ↔ G x) : Cl F E q ↔ Cl G E q := ⟨fun hq => hq.mono fun x => (h x).1, fun hq => hq.mono fun x => (h x).2⟩
/-- From a to b forward is from b to a backward. -/
theorem Cl.flip {a b : Nat} (h : Cl (fun x => x = a) E b) : Cl (fun x => x = b) (fun x y => E y x) a := by
  have key : ∀ S : Nat → Prop, S b → (∀ x y, S x → E y x → S y) → S a := by
    intro S hb hs
    by_cases ha : S a
    · exact ha
    · exact absurd hb (h.least (S := fun x => ¬ S x) (fun x hx => by subst hx; exact ha) (fun x y hx e hy => hx (hs y x hy e)))
  exact fun S h1 h2 => key S (h1 b rfl) h2
end

/-! ### the set and the list of what is still to be done -/
/-- How many of the n states are not in the set. -/
def out (n : Nat) (I : Nat → Bool) : Nat := ((List.range n).filter fun q => !I q).length
def put (I : Nat → Bool) (q : Nat) : Nat → Bool := fun x => if x = q then true else I x
theorem out_put {I : Nat → Bool} {q : Nat} : ∀ {n : Nat}, q < n → I q = false → out n (put I q) + 1 = out n I
  | n + 1, hq, hI => by
    unfold out
    simp only [List.range_succ, List.filter_append, List.length_append, List.filter_cons, List.filter_nil]
    by_cases e : q = n
    · subst e
      have hsame : (List.range q).filter (fun x => !put I q x) = (List.range q).filter (fun x => !I x) := List.filter_congr fun x hx => by
        have : x < q := List.mem_range.1 hx
        rw [put, if_neg (by omega)]
      rw [hsame]
      simp [put, hI]
    · have ih := out_put (I := I) (q := q) (n := n) (by omega) hI
      unfold out at ih
      have : put I q n = I n := by rw [put, if_neg (by omega)]
      rw [this]
      omega
theorem out_none (n : Nat) : out n (fun _ => false) = n := by
  have : (List.range n).filter (fun _ => !false) = List.range n := List.filter_eq_self.2 fun _ _ => rfl
  rw [out, this, List.length_range]

structure Inv (n : Nat) (F : Nat → Prop) (E : Nat → Nat → Prop) (I : Nat → Bool) (T : List Nat) : Prop where
  sound : ∀ q, I q = true → Cl F E q ∧ q < n
  todo : ∀ t, t ∈ T → I t = true
  count : out n I + T.length ≤ n
section
variable {n : Nat} {F : Nat → Prop} {E : Nat → Nat → Prop} {I : Nat → Bool} {T : List Nat}
theorem Inv.start : Inv n F E (fun _ => false) [] := ⟨(fun q h => by cases h), (fun t h => by cases h), by rw [out_none]; simp⟩
theorem put_self {q : Nat} : put I q q = true := by rw [put, if_pos rfl]
theorem put_of {q x : Nat} (h : I x = true) : put I q x = true := by rw [put]; split <;> simp [h]
theorem of_put {q x : Nat} (h : put I q x = true) : x = q ∨ I x = true := by
  rw [put] at h
  split at h
  · exact .inl ‹_›
  · exact .inr h
/-- A state is added. -/
theorem Inv.push (h : Inv n F E I T) {q : Nat} (hq : q < n) (hc : Cl F E q) (hI : I q = false) : Inv n F E (put I q) (T ++ [q]) := by
  refine ⟨fun x hx => ?_, fun t ht => ?_, ?_⟩
  · rcases of_put hx with rfl | hx
    · exact ⟨hc, hq⟩
    · exact h.sound x hx
  · simp only [List.mem_append, List.mem_singleton] at ht
    rcases ht with ht | rfl
    · exact put_of (h.todo t ht)
    · exact put_self
  · have := out_put (n := n) hq hI
    have := h.count
    simp only [List.length_append, List.length_singleton]
    omega
theorem Inv.pop {q : Nat} (h : Inv n F E I (T ++ [q])) : Inv n F E I T ∧ I q = true := by
  refine ⟨⟨h.sound, fun t ht => h.todo t (by simp [ht]), ?_⟩, h.todo q (by simp)⟩
  have := h.count
  simp only [List.length_append, List.length_singleton] at this
  omega
/-- At the end: the set is the closure. -/
theorem Inv.done (h : Inv n F E I []) (hF : ∀ x, F x → I x = true) (hE : ∀ x, I x = true → ∀ y, E x y → I y = true) (q : Nat) : I q = true ↔ Cl F E q :=
  ⟨fun hq => (h.sound q hq).1, fun hq => hq.least (S := fun x => I x = true) hF (fun x y hx e => hE x hx y e)⟩
end
end Go.Proofs.Qxb6614484a
