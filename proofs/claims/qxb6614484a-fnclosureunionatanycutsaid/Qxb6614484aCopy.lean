import Derived.Test.Qxb6614484aHolds
import Derived.Laws.CopyRow
import Derived.Deep.WholeRow
namespace Go.Proofs.Qxb6614484a
open Go.RowKit

/-- The cells of n ints. -/
def cells1 (f : Nat → Int) (n : Nat) : List Value := (List.range n).map fun c => .int .i64 (f c)

/-- 'copy' of all n ints into a new row of zeros. -/
theorem copy1 (w : World) (ad : Addr) (n c : Nat) (f : Nat → Int) (h : Ints w (some ad) n f) (ty : TypeId) :
    (Builtin.copy_ #[22, 22] ty #[.slice (some ⟨w.heap.size, 0, none⟩) n n, .slice (some ad) n c]).run Try.prog (w.alloc (.cells (madeCells #[.int .i64 0] n) 3)) = .ok (.int .i64 n) (w.alloc (.cells (cells1 f n).toArray 3)) := by
  have hlen : (cells1 f n).length = n := by simp [cells1]
  have hl := run_loadCells_list (P := Try.prog) (w.alloc (.cells (madeCells #[.int .i64 0] n) 3)) ad (cells1 f n) (fun j v hv => by
    have hj : j < n := by
      have := (List.getElem?_eq_some_iff.1 hv).1
      omega
    obtain ⟨b, o, e, hc⟩ := h j hj
    cases e
    have : v = .int .i64 (f j) := by simp [cells1, hj] at hv; exact hv.symm
    rw [this, Go.WideShapes.add_plain]
    exact ((Kp.refl [] w).alloc _).cellSome hc)
  have hst := run_storeCells_at Try.prog w.heap.size 0 3 (cells1 f n) 0 (madeCells #[.int .i64 0] n) (w.alloc (.cells (madeCells #[.int .i64 0] n) 3)) (heap_alloc_last _ _) (by rw [hlen, size_madeCells]; omega) (fun v hv => by
    simp [cells1] at hv
    obtain ⟨_, _, rfl⟩ := hv
    rfl)
  have hdrop : (madeCells #[Value.int .i64 0] n).toList.drop n = [] := List.drop_eq_nil_of_le (by simp [size_madeCells])
  simp only [Nat.zero_add, List.take_zero, List.nil_append, hlen, hdrop, List.append_nil] at hst
  rw [hlen] at hl
  obtain ⟨i, hi, hz0, hz1, hz2⟩ := info_parts Try.info3
  rw [World.setRow_alloc_new] at hst
  simp [Builtin.copy_, run_underlying Try.underlying22, Builtin.lenOf, Builtin.firstCells, Go.sizeOf, typeInfo, hi, hz1, hl, hst, goInt]

/-- .. lies as a list of ints behind it. -/
theorem ints_copied (w : World) (n : Nat) (f : Nat → Int) : Ints (w.alloc (.cells (cells1 f n).toArray 3)) (some ⟨w.heap.size, 0, none⟩) n f := by
  intro i hi
  refine ⟨w.heap.size, 0, rfl, ?_⟩
  rw [Nat.zero_add, cell_blk (heap_alloc_last w (.cells (cells1 f n).toArray 3)) i]
  simp [cells1, hi]
/-- What a source owes 'append(dst, src...)'. -/
theorem Ints.src {w : World} {a : Option Addr} {n : Nat} {f : Nat → Int} (h : Ints w a n f) : ∀ ad, a = some ad → ∀ j u, (cells1 f n)[j]? = some u → w.cell? (ad.add j) = some u := by
  intro ad e j u hu
  have hj : j < n := by
    have := (List.getElem?_eq_some_iff.1 hu).1
    simpa [cells1] using this
  obtain ⟨b, o, e', hc⟩ := h j hj
  rw [e] at e'
  cases e'
  have : u = .int .i64 (f j) := by simp [cells1, hj] at hu; exact hu.symm
  rw [this, Go.WideShapes.add_plain]
  exact hc
theorem cells1_one (f : Nat → Int) (n : Nat) : ∀ u ∈ cells1 f n, u.oneCell' = true := by
  intro u hu
  simp [cells1] at hu
  obtain ⟨_, _, rfl⟩ := hu
  rfl
theorem cells1_len (f : Nat → Int) (n : Nat) : (cells1 f n).length = n := by simp [cells1]
/-- Two lists, one behind the other. -/
def joined (n1 : Nat) (f1 f2 : Nat → Int) (i : Nat) : Int := if i < n1 then f1 i else f2 (i - n1)
theorem ints_joined {w : World} {base g n1 n2 cap : Nat} {f1 f2 : Nat → Int} (h : w.ownsRow base 3 1 (.slice (some ⟨g, 0, none⟩) (n1 + n2) cap) (n1 + n2) (cells1 f1 n1 ++ cells1 f2 n2)) : Ints w (some ⟨g, 0, none⟩) (n1 + n2) (joined n1 f1 f2) := by
  intro i hi
  refine ⟨g, 0, rfl, ?_⟩
  rw [Nat.zero_add, h.cellAt i (by omega)]
  unfold joined
  split
  · rename_i h1
    rw [List.getElem?_append_left (by rw [cells1_len]; exact h1)]
    simp [cells1, h1]
  · rename_i h1
    rw [List.getElem?_append_right (by rw [cells1_len]; omega), cells1_len]
    have : i - n1 < n2 := by omega
    simp [cells1, this]
theorem fr_joined {n1 n2 : Nat} {f1 f2 : Nat → Int} (x : Nat) : Fr (n1 + n2) (joined n1 f1 f2) x ↔ Fr n1 f1 x ∨ Fr n2 f2 x := by
  constructor
  · rintro ⟨i, hi, e⟩
    unfold joined at e
    split at e
    · exact .inl ⟨i, by assumption, e⟩
    · exact .inr ⟨i - n1, by omega, e⟩
  · rintro (⟨i, hi, e⟩ | ⟨i, hi, e⟩)
    · exact ⟨i, by omega, by rw [joined, if_pos hi]; exact e⟩
    · exact ⟨n1 + i, by omega, by rw [joined, if_neg (by omega), Nat.add_sub_cancel_left]; exact e⟩
theorem joined_in {n1 n2 : Nat} {f1 f2 : Nat → Int} {P : Int → Prop} (h1 : ∀ i, i < n1 → P (f1 i)) (h2 : ∀ i, i < n2 → P (f2 i)) : ∀ i, i < n1 + n2 → P (joined n1 f1 f2 i) := by
  intro i hi
  unfold joined
  split
  · exact h1 i (by assumption)
  · exact h2 _ (by omega)

/-! ### the marked states -/
/-- The states below k that the set holds. -/
def mk (R : Nat → Bool) (k : Nat) : List Nat := (List.range k).filter R
theorem mk_yes {R : Nat → Bool} {k : Nat} (h : R k = true) : mk R (k + 1) = mk R k ++ [k] := by simp [mk, List.range_succ, h]
theorem mk_no {R : Nat → Bool} {k : Nat} (h : R k = false) : mk R (k + 1) = mk R k := by simp [mk, List.range_succ, h]
theorem mk_len (R : Nat → Bool) (k : Nat) : (mk R k).length ≤ k := by
  have := List.length_filter_le R (List.range k)
  simpa [mk] using this
def mkVals (R : Nat → Bool) (k : Nat) : List Value := (mk R k).map fun (t : Nat) => Value.int .i64 (t : Int)
def mkF (R : Nat → Bool) (k : Nat) (i : Nat) : Int := ((mk R k).getD i 0 : Nat)
theorem ints_mk {w : World} {base g cap n : Nat} {R : Nat → Bool} (h : w.ownsRow base 3 1 (.slice (some ⟨g, 0, none⟩) (mk R n).length cap) (mk R n).length (mkVals R n)) : Ints w (some ⟨g, 0, none⟩) (mk R n).length (mkF R n) := by
  intro i hi
  refine ⟨g, 0, rfl, ?_⟩
  rw [Nat.zero_add, h.cellAt i (by omega)]
  simp [mkVals, mkF, hi]
theorem fr_mk {R : Nat → Bool} {n : Nat} (x : Nat) : Fr (mk R n).length (mkF R n) x ↔ x < n ∧ R x = true := by
  have hm : x ∈ mk R n ↔ x < n ∧ R x = true := by simp [mk]
  rw [← hm, List.mem_iff_getElem]
  constructor
  · rintro ⟨i, hi, e⟩
    refine ⟨i, hi, ?_⟩
    simp [mkF, hi] at e
    omega
  · rintro ⟨i, hi, e⟩
    refine ⟨i, hi, ?_⟩
    simp [mkF, hi]
    omega
theorem mkF_in {R : Nat → Bool} {n : Nat} (i : Nat) (hi : i < (mk R n).length) : 0 ≤ mkF R n i ∧ mkF R n i < n := by
  have hx : (mk R n)[i] ∈ mk R n := List.getElem_mem hi
  have : (mk R n)[i] < n := by
    have := (List.mem_filter.1 hx).1
    simpa using this
  simp [mkF, hi]
  omega
/-- Whatever is reached is a state. -/
theorem Cl.lt {n l : Nat} {f : Nat → Int} {len : Nat → Nat} {el : Nat → Nat → Int} (hF : ∀ i, i < l → 0 ≤ f i ∧ f i < n) (hE : ∀ q, q < n → ∀ i, i < len q → 0 ≤ el q i ∧ el q i < n) {q : Nat} (h : Cl (Fr l f) (Ed n len el) q) : q < n := by
  refine h.least (S := fun x => x < n) (fun x ⟨i, hi, e⟩ => ?_) (fun x y hx ⟨_, i, hi, e⟩ => ?_)
  · have := (hF i hi).2; omega
  · have := (hE x hx i hi).2; omega

end Go.Proofs.Qxb6614484a
