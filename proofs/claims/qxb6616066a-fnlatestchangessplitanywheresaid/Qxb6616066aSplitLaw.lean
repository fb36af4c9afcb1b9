import Derived.Test.Qxb6616066aPlain
namespace Go.Proofs.Qxb6616066a
/-! THE PLAIN LAW OF THE SPLIT: no Go in sight. -/

theorem sorted_ext : ∀ l1 l2 : List Nat, l1.Pairwise (· < ·) → l2.Pairwise (· < ·) → (∀ x, x ∈ l1 ↔ x ∈ l2) → l1 = l2
  | [], [], _, _, _ => rfl
  | [], y :: r, _, _, h => by have := (h y).2 (by simp); cases this
  | x :: r, [], _, _, h => by have := (h x).1 (by simp); cases this
  | x :: r, y :: s, h1, h2, h => by
    rw [List.pairwise_cons] at h1 h2
    have e : x = y := by
      have a := (h x).1 (by simp)
      have b := (h y).2 (by simp)
      simp only [List.mem_cons] at a b
      rcases a with a | a
      · exact a
      · rcases b with b | b
        · exact b.symm
        · have := h1.1 y b
          have := h2.1 x a
          omega
    subst e
    congr 1
    refine sorted_ext r s h1.2 h2.2 fun z => ⟨fun hz => ?_, fun hz => ?_⟩
    · have hl := h1.1 z hz
      have := (h z).1 (List.mem_cons_of_mem _ hz)
      simp only [List.mem_cons] at this
      rcases this with this | this
      · omega
      · exact this
    · have hl := h2.1 z hz
      have := (h z).2 (List.mem_cons_of_mem _ hz)
      simp only [List.mem_cons] at this
      rcases this with this | this
      · omega
      · exact this

section
variable {Q Qm : Nat → List UInt8} {V Vm : Nat → Int} {m n : Nat} {f s : Nat → Nat}

theorem firsts_sorted (Q : Nat → List UInt8) (n : Nat) : (firsts Q n).Pairwise (· < ·) := List.Pairwise.filter _ List.pairwise_lt_range

/-- The merged events lie in the order of their firsts: the firsts agree. -/
theorem first_iff (hf : ∀ p, p < m → f p < n ∧ Q (f p) = Qm p) (hmono : ∀ p q, p < q → q < m → f p < f q) (hall : ∀ i, i < n → isFirst Q i = true → ∃ p, p < m ∧ f p = i) {p : Nat} (hp : p < m) : isFirst Qm p = true ↔ isFirst Q (f p) = true := by
  constructor
  · intro h
    cases hq : isFirst Q (f p) with
    | true => rfl
    | false =>
      obtain ⟨j, hj, e, hfj⟩ := not_first hq
      obtain ⟨q, hqm, rfl⟩ := hall j (by have := (hf p hp).1; omega) hfj
      have hqp : q < p := by
        rcases Nat.lt_trichotomy q p with h1 | h1 | h1
        · exact h1
        · subst h1; omega
        · have := hmono p q h1 hqm; omega
      exact absurd (by rw [← (hf q hqm).2, ← (hf p hp).2]; exact e) (isFirst_iff.1 h q hqp)
  · intro h
    refine isFirst_iff.2 fun q hq e => ?_
    exact isFirst_iff.1 h (f q) (hmono q p hq hp) (by rw [(hf q (by omega)).2, (hf p hp).2]; exact e)
theorem firsts_map (hf : ∀ p, p < m → f p < n ∧ Q (f p) = Qm p) (hmono : ∀ p q, p < q → q < m → f p < f q) (hall : ∀ i, i < n → isFirst Q i = true → ∃ p, p < m ∧ f p = i) : firsts Q n = (firsts Qm m).map f := by
  refine sorted_ext _ _ (firsts_sorted Q n) ?_ fun x => ?_
  · rw [List.pairwise_map]
    refine List.Pairwise.imp_of_mem ?_ (firsts_sorted Qm m)
    intro a b _ hb hab
    exact hmono a b hab (mem_firsts.1 hb).1
  · rw [mem_firsts, List.mem_map]
    constructor
    · rintro ⟨hx, hfx⟩
      obtain ⟨p, hp, rfl⟩ := hall x hx hfx
      exact ⟨p, mem_firsts.2 ⟨hp, (first_iff hf hmono hall hp).2 hfx⟩, rfl⟩
    · rintro ⟨p, hp, rfl⟩
      obtain ⟨h1, h2⟩ := mem_firsts.1 hp
      exact ⟨(hf p h1).1, (first_iff hf hmono hall h1).1 h2⟩
theorem fst_map (h : firsts Q n = (firsts Qm m).map f) {p : Nat} (hp : p < (firsts Qm m).length) : fst Q n p = f (fst Qm m p) := by
  unfold fst
  rw [h]
  simp [hp]

theorem win_unique {i x : Nat} (h : isFirst Q i = true) (hi : i < n) (hx : x < n) (e : Q x = Q i) (hmax : ∀ j, j < n → Q j = Q i → V j ≤ V x) (hear : ∀ j, j < x → Q j = Q i → V j < V x) : win Q V i n = x := by
  obtain ⟨_, h2, h3, h4, h5⟩ := win_spec (V := V) h hi
  rcases Nat.lt_trichotomy (win Q V i n) x with h' | h' | h'
  · have a := hear _ h' h3
    have b := h4 x hx e
    omega
  · exact h'
  · have a := h5 _ h' e
    have b := hmax _ h2 h3
    omega
/-- The winners agree. -/
theorem win_map (hs : ∀ p, p < m → s p < n ∧ Q (s p) = Qm p ∧ Vm p = V (s p))
    (hrep : ∀ j, j < n → ∃ r, r < m ∧ Qm r = Q j ∧ V j ≤ V (s r) ∧ (j < s r → V j < V (s r)) ∧ ∀ u, u < m → Qm u = Qm r → j < s u → r ≤ u)
    {i q : Nat} (hi : i < n) (hif : isFirst Q i = true) (hq : q < m) (hqf : isFirst Qm q = true) (e : Qm q = Q i) : win Q V i n = s (win Qm Vm q m) := by
  obtain ⟨_, h2, h3, h4, h5⟩ := win_spec (V := Vm) hqf hq
  obtain ⟨s1, s2, s3⟩ := hs _ h2
  refine win_unique hif hi s1 (by rw [s2, h3, e]) (fun j hj ej => ?_) (fun j hj ej => ?_)
  · obtain ⟨r, r1, r2, r3, _, _⟩ := hrep j hj
    have := h4 r r1 (by rw [r2, ej, e])
    rw [(hs r r1).2.2, s3] at this
    omega
  · obtain ⟨r, r1, r2, r3, r4, r5⟩ := hrep j (by omega)
    have hle := r5 _ h2 (by rw [h3, e, r2, ej]) hj
    by_cases hr : r = win Qm Vm q m
    · rw [← hr]; exact r4 (by rw [hr]; exact hj)
    · have := h5 r (by omega) (by rw [r2, ej, e])
      rw [(hs r r1).2.2, s3] at this
      omega
end

/-! ### the two parts -/
section
variable (Q : Nat → List UInt8) (V : Nat → Int) (c n : Nat)
abbrev Qb : Nat → List UInt8 := fun i => Q (c + i)
abbrev Vb : Nat → Int := fun i => V (c + i)
/-- How many entities each part has. -/
abbrev la : Nat := (firsts Q c).length
abbrev lb : Nat := (firsts (Qb Q c) (n - c)).length
/-- The first event and the winner of the p-th merged entity. -/
def fM (p : Nat) : Nat := if p < la Q c then fst Q c p else c + fst (Qb Q c) (n - c) (p - la Q c)
def sM (p : Nat) : Nat := if p < la Q c then win Q V (fst Q c p) c else c + win (Qb Q c) (Vb V c) (fst (Qb Q c) (n - c) (p - la Q c)) (n - c)
variable {Q V c n}
theorem fst_mono {Q : Nat → List UInt8} {n p q : Nat} (h : p < q) (hq : q < (firsts Q n).length) : fst Q n p < fst Q n q := by
  unfold fst
  rw [List.getD_eq_getElem?_getD, List.getD_eq_getElem?_getD, List.getElem?_eq_getElem hq, List.getElem?_eq_getElem (by omega : p < _)]
  exact (List.pairwise_iff_getElem.1 (firsts_sorted Q n)) p q _ _ h
/-- The place of the first event of j's key. -/
theorem rep {Q : Nat → List UInt8} {n j : Nat} (hj : j < n) : ∃ r, r < (firsts Q n).length ∧ Q (fst Q n r) = Q j := by
  cases hf : isFirst Q j with
  | true =>
    obtain ⟨h1, h2⟩ := fst_at hj hf
    exact ⟨_, h1, by rw [h2]⟩
  | false =>
    obtain ⟨i, hi, e, hfi⟩ := not_first hf
    obtain ⟨h1, h2⟩ := fst_at (n := n) (by omega) hfi
    exact ⟨_, h1, by rw [h2, e]⟩
theorem same_place {Q : Nat → List UInt8} {n p q : Nat} (hp : p < (firsts Q n).length) (hq : q < (firsts Q n).length) (e : Q (fst Q n p) = Q (fst Q n q)) : p = q :=
  fst_inj hp hq (first_inj (fst_mem hp).2 (fst_mem hq).2 e)

theorem fM_lt (hc : c ≤ n) {p : Nat} (hp : p < la Q c + lb Q c n) : fM Q c n p < n := by
  unfold fM
  split
  · rename_i h
    have := (fst_mem h).1
    omega
  · rename_i h
    have := (fst_mem (Q := Qb Q c) (n := n - c) (p := p - la Q c) (by simp only [la, lb] at *; omega)).1
    omega
theorem fM_mono {p q : Nat} (h : p < q) (hq : q < la Q c + lb Q c n) : fM Q c n p < fM Q c n q := by
  unfold fM
  by_cases h1 : q < la Q c
  · rw [if_pos h1, if_pos (by omega)]
    exact fst_mono h h1
  · rw [if_neg h1]
    by_cases h2 : p < la Q c
    · rw [if_pos h2]
      have := (fst_mem h2).1
      omega
    · rw [if_neg h2]
      have := fst_mono (Q := Qb Q c) (n := n - c) (p := p - la Q c) (q := q - la Q c) (by omega) (by simp only [la, lb] at *; omega)
      omega
theorem fM_all (i : Nat) (hi : i < n) (h : isFirst Q i = true) : ∃ p, p < la Q c + lb Q c n ∧ fM Q c n p = i := by
  by_cases hc : i < c
  · obtain ⟨h1, h2⟩ := fst_at hc h
    exact ⟨(firsts Q i).length, by simp only [la]; omega, by rw [fM, if_pos h1, h2]⟩
  · have h' : isFirst (Qb Q c) (i - c) = true := isFirst_iff.2 fun j hj e => by
      refine isFirst_iff.1 h (c + j) (by omega) ?_
      simp only [Qb] at e
      rw [show c + (i - c) = i by omega] at e
      exact e
    obtain ⟨h1, h2⟩ := fst_at (n := n - c) (by omega) h'
    refine ⟨la Q c + (firsts (Qb Q c) (i - c)).length, by simp only [la, lb]; omega, ?_⟩
    rw [fM, if_neg (by omega), Nat.add_sub_cancel_left, h2]
    omega
theorem sM_lt (hc : c ≤ n) {p : Nat} (hp : p < la Q c + lb Q c n) : sM Q V c n p < n ∧ Q (sM Q V c n p) = Q (fM Q c n p) := by
  unfold sM fM
  by_cases h : p < la Q c
  · rw [if_pos h, if_pos h]
    obtain ⟨_, h2, h3, _, _⟩ := win_spec (V := V) (fst_mem h).2 (fst_mem h).1
    exact ⟨by omega, h3⟩
  · rw [if_neg h, if_neg h]
    have hm := fst_mem (Q := Qb Q c) (n := n - c) (p := p - la Q c) (by simp only [la, lb] at *; omega)
    obtain ⟨_, h2, h3, _, _⟩ := win_spec (V := Vb V c) hm.2 hm.1
    exact ⟨by omega, h3⟩
theorem sM_rep (j : Nat) (hj : j < n) : ∃ r, r < la Q c + lb Q c n ∧ Q (fM Q c n r) = Q j ∧ V j ≤ V (sM Q V c n r) ∧ (j < sM Q V c n r → V j < V (sM Q V c n r)) ∧ ∀ u, u < la Q c + lb Q c n → Q (fM Q c n u) = Q (fM Q c n r) → j < sM Q V c n u → r ≤ u := by
  by_cases hc : j < c
  · obtain ⟨r, hr, e⟩ := rep (Q := Q) hc
    obtain ⟨_, h2, h3, h4, h5⟩ := win_spec (V := V) (fst_mem hr).2 (fst_mem hr).1
    have ef : fM Q c n r = fst Q c r := by rw [fM, if_pos hr]
    have es : sM Q V c n r = win Q V (fst Q c r) c := by rw [sM, if_pos hr]
    refine ⟨r, by simp only [la]; omega, by rw [ef, e], by rw [es]; exact h4 j hc e.symm, fun h => by rw [es] at h ⊢; exact h5 j h e.symm, fun u hu eu _ => ?_⟩
    by_cases hul : u < la Q c
    · rw [ef, fM, if_pos hul] at eu
      exact Nat.le_of_eq (same_place hul hr eu).symm
    · have : r < la Q c := hr
      omega
  · obtain ⟨r, hr, e⟩ := rep (Q := Qb Q c) (n := n - c) (j := j - c) (by omega)
    have ej : Q j = Qb Q c (j - c) := by simp only [Qb]; rw [show c + (j - c) = j by omega]
    obtain ⟨_, h2, h3, h4, h5⟩ := win_spec (V := Vb V c) (fst_mem hr).2 (fst_mem hr).1
    have ef : fM Q c n (la Q c + r) = c + fst (Qb Q c) (n - c) r := by rw [fM, if_neg (by omega), Nat.add_sub_cancel_left]
    have es : sM Q V c n (la Q c + r) = c + win (Qb Q c) (Vb V c) (fst (Qb Q c) (n - c) r) (n - c) := by rw [sM, if_neg (by omega), Nat.add_sub_cancel_left]
    have h4' := h4 (j - c) (by omega) e.symm
    have h5' := h5 (j - c)
    simp only [Vb] at h4' h5'
    rw [show c + (j - c) = j by omega] at h4' h5'
    refine ⟨la Q c + r, by simp only [lb]; omega, by rw [ef, ej]; exact e, by rw [es]; exact h4', fun h => by rw [es] at h ⊢; exact h5' (by omega) e.symm, fun u hu eu hju => ?_⟩
    by_cases hul : u < la Q c
    · rw [sM, if_pos hul] at hju
      have := (win_spec (V := V) (fst_mem hul).2 (fst_mem hul).1).2.1
      omega
    · rw [ef, fM, if_neg hul] at eu
      have := same_place (Q := Qb Q c) (n := n - c) (p := u - la Q c) (q := r) (by simp only [la, lb] at *; omega) hr eu
      omega
theorem parts_le (hc : c ≤ n) : la Q c + lb Q c n ≤ n := by
  have h1 := firsts_len_le (Q := Q) c
  have h2 := firsts_len_le (Q := Qb Q c) (n - c)
  simp only [la, lb]
  omega

/-- THE LAW: over the merged events the firsts and the winners are those of the whole. -/
theorem split_law (hc : c ≤ n) {Qm : Nat → List UInt8} {Vm : Nat → Int} (hQ : ∀ p, p < la Q c + lb Q c n → Qm p = Q (fM Q c n p)) (hV : ∀ p, p < la Q c + lb Q c n → Vm p = V (sM Q V c n p)) :
    (firsts Qm (la Q c + lb Q c n)).length = (firsts Q n).length ∧ ∀ p, p < (firsts Q n).length → fM Q c n (fst Qm (la Q c + lb Q c n) p) = fst Q n p ∧ sM Q V c n (win Qm Vm (fst Qm (la Q c + lb Q c n) p) (la Q c + lb Q c n)) = win Q V (fst Q n p) n ∧ fst Qm (la Q c + lb Q c n) p < la Q c + lb Q c n ∧ win Qm Vm (fst Qm (la Q c + lb Q c n) p) (la Q c + lb Q c n) < la Q c + lb Q c n := by
  have hf : ∀ p, p < la Q c + lb Q c n → fM Q c n p < n ∧ Q (fM Q c n p) = Qm p := fun p hp => ⟨fM_lt hc hp, (hQ p hp).symm⟩
  have hmap := firsts_map hf (fun p q h hq => fM_mono h hq) fM_all
  have hlen : (firsts Qm (la Q c + lb Q c n)).length = (firsts Q n).length := by rw [hmap, List.length_map]
  refine ⟨hlen, fun p hp => ?_⟩
  rw [← hlen] at hp
  obtain ⟨m1, m2⟩ := fst_mem hp
  obtain ⟨n1, n2⟩ := fst_mem (Q := Q) (n := n) (p := p) (by rw [← hlen]; exact hp)
  have e1 := fst_map hmap hp
  refine ⟨e1.symm, ?_, m1, (win_spec (V := Vm) m2 m1).2.1⟩
  refine (win_map (V := V) (Vm := Vm) (s := sM Q V c n) (fun p hp => ⟨(sM_lt hc hp).1, by rw [(sM_lt hc hp).2, hQ p hp], hV p hp⟩) (fun j hj => ?_) n1 n2 m1 m2 (by rw [hQ _ m1, e1])).symm
  obtain ⟨r, r1, r2, r3, r4, r5⟩ := sM_rep (Q := Q) (V := V) (c := c) j hj
  exact ⟨r, r1, by rw [hQ r r1, r2], r3, r4, fun u hu eu hj => r5 u hu (by rw [← hQ u hu, ← hQ r r1, eu]) hj⟩
end
end Go.Proofs.Qxb6616066a
