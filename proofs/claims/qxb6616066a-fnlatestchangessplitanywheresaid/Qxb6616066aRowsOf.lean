import Derived.Test.Qxb6616066aAdd
namespace Go.Proofs.Qxb6616066a
open Go.RowKit

/-! ### what the columns hold behind the first k events -/
section
variable (Ks : Nat → ByteArray) (Q : Nat → List UInt8) (V : Nat → Int) (B : Nat → ByteArray)
def keyStr (k p : Nat) : ByteArray := if p < (firsts Q k).length then Ks (fst Q k p) else ByteArray.empty
def verNum (k p : Nat) : Int := if p < (firsts Q k).length then V (win Q V (fst Q k p) k) else 0
def datStr (k p : Nat) : ByteArray := if p < (firsts Q k).length then B (win Q V (fst Q k p) k) else ByteArray.empty
variable {Ks Q V B}
theorem win_first {k p : Nat} (h : isFirst Q k = true) (hp : p < (firsts Q k).length) : win Q V (fst Q k p) (k + 1) = win Q V (fst Q k p) k := by
  obtain ⟨h1, _⟩ := fst_mem hp
  refine win_miss (fun hc => ?_)
  have e : Q k = Q (fst Q k p) := by simpa using hc.1
  exact isFirst_iff.1 h _ h1 e.symm
theorem key_first {k : Nat} (h : isFirst Q k = true) (p : Nat) : keyStr Ks Q (k + 1) p = if p = (firsts Q k).length then Ks k else keyStr Ks Q k p := by
  unfold keyStr
  rw [len_succ_first h]
  by_cases e : p = (firsts Q k).length
  · subst e; rw [if_pos (by omega), if_pos rfl, fst_new h]
  · rw [if_neg e]
    by_cases hp : p < (firsts Q k).length
    · rw [if_pos (by omega), if_pos hp, fst_succ hp]
    · rw [if_neg (by omega), if_neg hp]
theorem ver_first {k : Nat} (h : isFirst Q k = true) (p : Nat) : verNum Q V (k + 1) p = if p = (firsts Q k).length then V k else verNum Q V k p := by
  unfold verNum
  rw [len_succ_first h]
  by_cases e : p = (firsts Q k).length
  · subst e; rw [if_pos (by omega), if_pos rfl, fst_new h, win_before h (Nat.le_refl _)]
  · rw [if_neg e]
    by_cases hp : p < (firsts Q k).length
    · rw [if_pos (by omega), if_pos hp, fst_succ hp, win_first h hp]
    · rw [if_neg (by omega), if_neg hp]
theorem dat_first {k : Nat} (h : isFirst Q k = true) (p : Nat) : datStr Q V B (k + 1) p = if p = (firsts Q k).length then B k else datStr Q V B k p := by
  unfold datStr
  rw [len_succ_first h]
  by_cases e : p = (firsts Q k).length
  · subst e; rw [if_pos (by omega), if_pos rfl, fst_new h, win_before h (Nat.le_refl _)]
  · rw [if_neg e]
    by_cases hp : p < (firsts Q k).length
    · rw [if_pos (by omega), if_pos hp, fst_succ hp, win_first h hp]
    · rw [if_neg (by omega), if_neg hp]

/-- An event that is not the first of its key: the place of that first. -/
theorem place {k : Nat} (h : isFirst Q k = false) : ∃ p, p < (firsts Q k).length ∧ Q (fst Q k p) = Q k := by
  obtain ⟨j, hj, e, hf⟩ := not_first h
  obtain ⟨h1, h2⟩ := fst_at hj hf
  exact ⟨_, h1, by rw [h2]; exact e⟩
theorem place_ne {k p q : Nat} (hp : p < (firsts Q k).length) (hq : q < (firsts Q k).length) (ep : Q (fst Q k p) = Q k) (hne : q ≠ p) : Q (fst Q k q) ≠ Q k := by
  intro eq
  have := first_inj (fst_mem hq).2 (fst_mem hp).2 (eq.trans ep.symm)
  exact hne (fst_inj hq hp this)
theorem key_later {k : Nat} (h : isFirst Q k = false) (p : Nat) : keyStr Ks Q (k + 1) p = keyStr Ks Q k p := by
  unfold keyStr
  rw [len_succ_not h]
  by_cases hp : p < (firsts Q k).length
  · rw [if_pos hp, if_pos hp, fst_succ hp]
  · rw [if_neg hp, if_neg hp]
theorem win_place {k p q : Nat} (hp : p < (firsts Q k).length) (ep : Q (fst Q k p) = Q k) (hq : q < (firsts Q k).length) :
    win Q V (fst Q k q) (k + 1) = if q = p ∧ V (win Q V (fst Q k p) k) < V k then k else win Q V (fst Q k q) k := by
  by_cases e : q = p
  · subst e
    by_cases hv : V (win Q V (fst Q k q) k) < V k
    · rw [if_pos ⟨rfl, hv⟩, win_hit (by simp [ep]) hv]
    · rw [if_neg (fun h => hv h.2), win_miss (fun h => hv h.2)]
  · rw [if_neg (fun h => e h.1), win_miss (fun h => by
      have e' : Q k = Q (fst Q k q) := by simpa using h.1
      exact place_ne hp hq ep e e'.symm)]
theorem ver_up {k p : Nat} (h : isFirst Q k = false) (hp : p < (firsts Q k).length) (ep : Q (fst Q k p) = Q k) (hv : verNum Q V k p < V k) (q : Nat) : verNum Q V (k + 1) q = if q = p then V k else verNum Q V k q := by
  unfold verNum at hv ⊢
  rw [if_pos hp] at hv
  rw [len_succ_not h]
  by_cases hq : q < (firsts Q k).length
  · rw [if_pos hq, if_pos hq, fst_succ hq, win_place hp ep hq]
    by_cases e : q = p
    · rw [if_pos ⟨e, hv⟩, if_pos e]
    · rw [if_neg (fun h => e h.1), if_neg e]
  · rw [if_neg hq, if_neg hq, if_neg (by omega)]
theorem dat_up {k p : Nat} (h : isFirst Q k = false) (hp : p < (firsts Q k).length) (ep : Q (fst Q k p) = Q k) (hv : verNum Q V k p < V k) (q : Nat) : datStr Q V B (k + 1) q = if q = p then B k else datStr Q V B k q := by
  unfold verNum at hv
  unfold datStr
  rw [if_pos hp] at hv
  rw [len_succ_not h]
  by_cases hq : q < (firsts Q k).length
  · rw [if_pos hq, if_pos hq, fst_succ hq, win_place hp ep hq]
    by_cases e : q = p
    · rw [if_pos ⟨e, hv⟩, if_pos e]
    · rw [if_neg (fun h => e h.1), if_neg e]
  · rw [if_neg hq, if_neg hq, if_neg (by omega)]
theorem ver_stay {k p : Nat} (h : isFirst Q k = false) (hp : p < (firsts Q k).length) (ep : Q (fst Q k p) = Q k) (hv : ¬ verNum Q V k p < V k) (q : Nat) : verNum Q V (k + 1) q = verNum Q V k q := by
  unfold verNum at hv ⊢
  rw [if_pos hp] at hv
  rw [len_succ_not h]
  by_cases hq : q < (firsts Q k).length
  · rw [if_pos hq, if_pos hq, fst_succ hq, win_place hp ep hq, if_neg (fun h => hv h.2)]
  · rw [if_neg hq, if_neg hq]
theorem dat_stay {k p : Nat} (h : isFirst Q k = false) (hp : p < (firsts Q k).length) (ep : Q (fst Q k p) = Q k) (hv : ¬ verNum Q V k p < V k) (q : Nat) : datStr Q V B (k + 1) q = datStr Q V B k q := by
  unfold verNum at hv
  unfold datStr
  rw [if_pos hp] at hv
  rw [len_succ_not h]
  by_cases hq : q < (firsts Q k).length
  · rw [if_pos hq, if_pos hq, fst_succ hq, win_place hp ep hq, if_neg (fun h => hv h.2)]
  · rw [if_neg hq, if_neg hq]
end

/-! ### the map from keys to places -/
def AtOk (D : DataW Unit) (Q : Nat → List UInt8) (k : Nat) : Prop :=
  (∀ p, p < (firsts Q k).length → Maps.has D (.string (Q (fst Q k p))) = true ∧ ∀ z, D.atKey (.string (Q (fst Q k p))) z = .lit (.int .i64 p)) ∧ ∀ l, Maps.has D l = true → ∃ p, p < (firsts Q k).length ∧ l = .string (Q (fst Q k p))
theorem AtOk.none {D : DataW Unit} {Q : Nat → List UInt8} {k : Nat} (h : AtOk D Q k) (hf : isFirst Q k = true) : Maps.has D (.string (Q k)) = false := by
  cases hh : Maps.has D (.string (Q k))
  · rfl
  · obtain ⟨p, hp, e⟩ := h.2 _ hh
    simp at e
    exact absurd e.symm (isFirst_iff.1 hf _ (fst_mem hp).1)
theorem AtOk.put {D : DataW Unit} {Q : Nat → List UInt8} {k : Nat} (h : AtOk D Q k) (hm : Maps.IsMap D) (hf : isFirst Q k = true) : AtOk (D.put (.string (Q k)) (.lit (.int .i64 (firsts Q k).length))) Q (k + 1) := by
  have hkl : WideAt.IsKeyLit (.string (Q k)) := trivial
  refine ⟨fun p hp => ?_, fun l hl => ?_⟩
  · rw [len_succ_first hf] at hp
    by_cases e : p = (firsts Q k).length
    · subst e
      rw [fst_new hf]
      exact ⟨Maps.has_put_same hm hkl _, fun z => Maps.atKey_put_same hm hkl _ _⟩
    · have hp' : p < (firsts Q k).length := by omega
      rw [fst_succ hp']
      have hne : (Lit.string (Q (fst Q k p))) ≠ .string (Q k) := by
        intro e'
        simp at e'
        exact isFirst_iff.1 hf _ (fst_mem hp').1 e'
      rw [Maps.has_put_other hne]
      exact ⟨(h.1 p hp').1, fun z => (Maps.atKey_put_other hne _ _).trans ((h.1 p hp').2 z)⟩
  · rw [len_succ_first hf]
    by_cases e : l = .string (Q k)
    · exact ⟨(firsts Q k).length, by omega, by rw [fst_new hf]; exact e⟩
    · rw [Maps.has_put_other e] at hl
      obtain ⟨p, hp, e'⟩ := h.2 l hl
      exact ⟨p, by omega, by rw [fst_succ hp]; exact e'⟩
theorem AtOk.stay {D : DataW Unit} {Q : Nat → List UInt8} {k : Nat} (h : AtOk D Q k) (hf : isFirst Q k = false) : AtOk D Q (k + 1) := by
  unfold AtOk
  rw [len_succ_not hf]
  refine ⟨fun p hp => ?_, fun l hl => ?_⟩
  · rw [fst_succ hp]; exact h.1 p hp
  · obtain ⟨p, hp, e⟩ := h.2 l hl
    exact ⟨p, hp, by rw [fst_succ hp]; exact e⟩

/-! ### keys of the map -/
theorem law9 : Maps.Keyed Try.prog 9 := Maps.string_keyed Try.underlying9
theorem key9 {s : ByteArray} (h : s.size ≤ maxLen) : keyOf Try.prog 9 (.string s) = some (.string s.toList) := by
  rw [ByteArray.toList_eq]
  exact WideMaps.keyOf_string_mk Try.underlying9 h
/-- The look-up. -/
theorem look9 {W : World} {mb n : Nat} {D : DataW Unit} (h : W.ownsMap Try.prog 9 (plainElem Try.prog 3) mb n D) {s : ByteArray} (hs : s.size ≤ maxLen) :
    ∃ c, (Instr.lookup 45 (.map (some mb)) (.string s) true).run Try.prog W = .ok (.tuple #[.int .i64 c, .bool (Maps.has D (.string s.toList))]) W ∧ D.atKey (.string s.toList) (.lit (.int .i64 0)) = .lit (.int .i64 c) := by
  obtain ⟨v, ps, hrun, hv⟩ := h.look_ok law9 Try.underlying45 (Try.zeroValue3 W) (plainElem_int Try.underlying3 (a := 0) (by decide)) (key9 hs)
  obtain ⟨c, rfl, hc, _⟩ := plainElem_int_inv Try.underlying3 hv
  simp only [Prod.mk.injEq] at hc
  exact ⟨c, hrun, hc.1⟩

end Go.Proofs.Qxb6616066a
