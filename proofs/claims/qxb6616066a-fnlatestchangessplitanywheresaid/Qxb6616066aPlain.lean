import Derived.Below
namespace Go.Proofs.Qxb6616066a
/-! THE PLAIN LAW: no Go in sight. Events 0 .. n-1 bear a key and a version. -/
section
variable (Q : Nat → List UInt8) (V : Nat → Int)

/-- Event i is the first of its key. -/
def isFirst (i : Nat) : Bool := (List.range i).all fun j => !(Q j == Q i)
/-- The first events of their keys among the first n. -/
def firsts (n : Nat) : List Nat := (List.range n).filter (isFirst Q)
/-- Of the events before k with i's key: the earliest of the greatest version. -/
def win (i : Nat) : Nat → Nat
  | 0 => i
  | k + 1 => if (Q k == Q i) = true ∧ V (win i k) < V k then k else win i k

variable {Q V}
theorem isFirst_iff {i : Nat} : isFirst Q i = true ↔ ∀ j, j < i → Q j ≠ Q i := by
  simp [isFirst]
theorem not_first {i : Nat} (h : isFirst Q i = false) : ∃ j, j < i ∧ Q j = Q i ∧ isFirst Q j = true := by
  have ex : ∃ j, j < i ∧ Q j = Q i := by
    simpa [isFirst] using h
  obtain ⟨j, hj, e⟩ := ex
  clear h
  -- the least such
  have : ∀ m, ∀ j, j ≤ m → j < i → Q j = Q i → ∃ j, j < i ∧ Q j = Q i ∧ isFirst Q j = true := by
    intro m
    induction m with
    | zero =>
      intro j hm hj e
      exact ⟨j, hj, e, isFirst_iff.2 fun t ht => by omega⟩
    | succ m ih =>
      intro j hm hj e
      by_cases hf : isFirst Q j = true
      · exact ⟨j, hj, e, hf⟩
      · have : ∃ t, t < j ∧ Q t = Q j := by simpa [isFirst] using hf
        obtain ⟨t, ht, e'⟩ := this
        exact ih t (by omega) (by omega) (e'.trans e)
  exact this j j (Nat.le_refl _) hj e

theorem firsts_succ (n : Nat) : firsts Q (n + 1) = if isFirst Q n = true then firsts Q n ++ [n] else firsts Q n := by
  simp only [firsts, List.range_succ, List.filter_append, List.filter_cons, List.filter_nil]
  split <;> simp
theorem firsts_len_le (n : Nat) : (firsts Q n).length ≤ n := by
  have := List.length_filter_le (isFirst Q) (List.range n)
  simpa [firsts] using this
theorem mem_firsts {n i : Nat} : i ∈ firsts Q n ↔ i < n ∧ isFirst Q i = true := by simp [firsts]
/-- The p-th first event. -/
def fst (Q : Nat → List UInt8) (n p : Nat) : Nat := (firsts Q n).getD p 0
theorem fst_mem {n p : Nat} (h : p < (firsts Q n).length) : fst Q n p < n ∧ isFirst Q (fst Q n p) = true := by
  refine mem_firsts.1 ?_
  rw [fst, List.getD_eq_getElem?_getD, List.getElem?_eq_getElem h]
  exact List.getElem_mem h
theorem fst_succ {n p : Nat} (h : p < (firsts Q n).length) : fst Q (n + 1) p = fst Q n p := by
  unfold fst
  rw [firsts_succ]
  split
  · simp [List.getElem?_append_left h]
  · rfl
theorem fst_new {n : Nat} (h : isFirst Q n = true) : fst Q (n + 1) (firsts Q n).length = n := by
  unfold fst
  rw [firsts_succ, if_pos h]
  simp
theorem len_succ_first {n : Nat} (h : isFirst Q n = true) : (firsts Q (n + 1)).length = (firsts Q n).length + 1 := by rw [firsts_succ, if_pos h]; simp
theorem len_succ_not {n : Nat} (h : isFirst Q n = false) : firsts Q (n + 1) = firsts Q n := by rw [firsts_succ, if_neg (by simp [h])]
theorem len_mono {m n : Nat} (h : m ≤ n) : (firsts Q m).length ≤ (firsts Q n).length := by
  induction n with
  | zero => have : m = 0 := by omega
            subst this; exact Nat.le_refl _
  | succ n ih =>
    by_cases e : m = n + 1
    · subst e; exact Nat.le_refl _
    · have := ih (by omega)
      rw [firsts_succ]
      split
      · simp; omega
      · exact this
theorem fst_later {m n p : Nat} (hm : m ≤ n) (h : p < (firsts Q m).length) : fst Q n p = fst Q m p := by
  induction n with
  | zero => have : m = 0 := by omega
            subst this; rfl
  | succ n ih =>
    by_cases e : m = n + 1
    · subst e; rfl
    · rw [fst_succ (Nat.lt_of_lt_of_le h (len_mono (by omega))), ih (by omega)]
/-- The place of a first event among the firsts: how many stand before it. -/
theorem fst_at {n i : Nat} (hi : i < n) (h : isFirst Q i = true) : (firsts Q i).length < (firsts Q n).length ∧ fst Q n (firsts Q i).length = i := by
  have h1 : (firsts Q i).length < (firsts Q (i + 1)).length := by rw [len_succ_first h]; omega
  exact ⟨Nat.lt_of_lt_of_le h1 (len_mono hi), (fst_later hi h1).trans (fst_new h)⟩
/-- Two firsts of one key are one. -/
theorem first_inj {i j : Nat} (hi : isFirst Q i = true) (hj : isFirst Q j = true) (e : Q i = Q j) : i = j := by
  have h1 := isFirst_iff.1 hi
  have h2 := isFirst_iff.1 hj
  rcases Nat.lt_trichotomy i j with h | h | h
  · exact absurd e (h2 i h)
  · exact h
  · exact absurd e.symm (h1 j h)
theorem fst_inj {n p q : Nat} (hp : p < (firsts Q n).length) (hq : q < (firsts Q n).length) (e : fst Q n p = fst Q n q) : p = q := by
  have hd : (firsts Q n).Nodup := (List.nodup_range).filter _
  unfold fst at e
  rw [List.getD_eq_getElem?_getD, List.getD_eq_getElem?_getD, List.getElem?_eq_getElem hp, List.getElem?_eq_getElem hq] at e
  exact (List.getElem_inj hd).1 (by simpa using e)

/-! ### the winner -/
theorem win_before {i k : Nat} (h : isFirst Q i = true) (hk : k ≤ i + 1) : win Q V i k = i := by
  induction k with
  | zero => rfl
  | succ k ih =>
    have hw := ih (by omega)
    unfold win
    rw [hw]
    by_cases e : k = i
    · subst e; simp
    · have : ¬ (Q k == Q i) = true := by
        have := isFirst_iff.1 h k (by omega)
        simpa using this
      rw [if_neg (fun hc => this hc.1)]
theorem win_hit {i k : Nat} (h : (Q k == Q i) = true) (hv : V (win Q V i k) < V k) : win Q V i (k + 1) = k := by
  rw [win, if_pos ⟨h, hv⟩]
theorem win_miss {i k : Nat} (h : ¬ ((Q k == Q i) = true ∧ V (win Q V i k) < V k)) : win Q V i (k + 1) = win Q V i k := by
  rw [win, if_neg h]
/-- What the winner is. -/
theorem win_spec {i n : Nat} (h : isFirst Q i = true) (hn : i < n) : i ≤ win Q V i n ∧ win Q V i n < n ∧ Q (win Q V i n) = Q i ∧ (∀ j, j < n → Q j = Q i → V j ≤ V (win Q V i n)) ∧ ∀ j, j < win Q V i n → Q j = Q i → V j < V (win Q V i n) := by
  induction n with
  | zero => omega
  | succ n ih =>
    by_cases e : i = n
    · subst e
      rw [win_before h (Nat.le_refl _)]
      refine ⟨Nat.le_refl _, by omega, rfl, fun j hj e => ?_, fun j hj e => absurd e (isFirst_iff.1 h j hj)⟩
      by_cases ej : j = i
      · subst ej; exact Int.le_refl _
      · exact absurd e (isFirst_iff.1 h j (by omega))
    · obtain ⟨h1, h2, h3, h4, h5⟩ := ih (by omega)
      by_cases hc : (Q n == Q i) = true ∧ V (win Q V i n) < V n
      · rw [win_hit hc.1 hc.2]
        refine ⟨by omega, by omega, by simpa using hc.1, fun j hj e' => ?_, fun j hj e' => ?_⟩
        · by_cases ej : j = n
          · subst ej; exact Int.le_refl _
          · have := h4 j (by omega) e'; omega
        · have := h4 j hj e'; omega
      · rw [win_miss hc]
        refine ⟨h1, by omega, h3, fun j hj e' => ?_, h5⟩
        by_cases ej : j = n
        · subst ej
          have : ¬ V (win Q V i j) < V j := fun hv => hc ⟨by simpa using e', hv⟩
          omega
        · exact h4 j (by omega) e'
end
end Go.Proofs.Qxb6616066a
