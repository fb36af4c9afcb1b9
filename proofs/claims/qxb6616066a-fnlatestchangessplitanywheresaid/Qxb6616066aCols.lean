import Derived.Test.Qxb6616066aSplitLaw
import Derived.Test.Qxb6616066aEventsS
import Derived.ArgAppend
namespace Go.Proofs.Qxb6616066a
open Go.RowKit

/-! ### the merged columns -/
section
variable (Ks : Nat → ByteArray) (V : Nat → Int) (B : Nat → ByteArray) (c n : Nat)
def sh {α : Type} (f : Nat → α) (c : Nat) : Nat → α := fun i => f (c + i)
def Km (p : Nat) : ByteArray := if p < la (qOf Ks) c then keyStr Ks (qOf Ks) c p else keyStr (sh Ks c) (qOf (sh Ks c)) (n - c) (p - la (qOf Ks) c)
def Vm (p : Nat) : Int := if p < la (qOf Ks) c then verNum (qOf Ks) V c p else verNum (qOf (sh Ks c)) (sh V c) (n - c) (p - la (qOf Ks) c)
def Bm (p : Nat) : ByteArray := if p < la (qOf Ks) c then datStr (qOf Ks) V B c p else datStr (qOf (sh Ks c)) (sh V c) (sh B c) (n - c) (p - la (qOf Ks) c)
variable {Ks V B c n}
theorem Km_at {p : Nat} (hp : p < la (qOf Ks) c + lb (qOf Ks) c n) : Km Ks c n p = Ks (fM (qOf Ks) c n p) := by
  unfold Km fM
  split
  · rename_i h
    rw [keyStr, if_pos h]
  · rename_i h
    have h' : p - la (qOf Ks) c < (firsts (qOf (sh Ks c)) (n - c)).length := by
      have : p - la (qOf Ks) c < lb (qOf Ks) c n := by omega
      exact this
    rw [keyStr, if_pos h']
    rfl
theorem Vm_at {p : Nat} (hp : p < la (qOf Ks) c + lb (qOf Ks) c n) : Vm Ks V c n p = V (sM (qOf Ks) V c n p) := by
  unfold Vm sM
  split
  · rename_i h
    rw [verNum, if_pos h]
  · rename_i h
    have h' : p - la (qOf Ks) c < (firsts (qOf (sh Ks c)) (n - c)).length := by
      have : p - la (qOf Ks) c < lb (qOf Ks) c n := by omega
      exact this
    rw [verNum, if_pos h']
    rfl
theorem Bm_at {p : Nat} (hp : p < la (qOf Ks) c + lb (qOf Ks) c n) : Bm Ks V B c n p = B (sM (qOf Ks) V c n p) := by
  unfold Bm sM
  split
  · rename_i h
    rw [datStr, if_pos h]
  · rename_i h
    have h' : p - la (qOf Ks) c < (firsts (qOf (sh Ks c)) (n - c)).length := by
      have : p - la (qOf Ks) c < lb (qOf Ks) c n := by omega
      exact this
    rw [datStr, if_pos h']
    rfl
theorem empties_congr {f g : Nat → ByteArray} {m : Nat} (h : ∀ p, p < m → f p = g p) : empties f m = empties g m := by
  unfold empties
  congr 1
  refine List.filter_congr fun p hp => ?_
  rw [h p (List.mem_range.1 hp)]
/-- THE LAW, column by column. -/
theorem cols_law (hc : c ≤ n) (m : Nat) (hm : m = la (qOf Ks) c + lb (qOf Ks) c n) :
    (firsts (qOf (Km Ks c n)) m).length = (firsts (qOf Ks) n).length ∧ (∀ p, p < (firsts (qOf Ks) n).length → keyStr (Km Ks c n) (qOf (Km Ks c n)) m p = keyStr Ks (qOf Ks) n p ∧ verNum (qOf (Km Ks c n)) (Vm Ks V c n) m p = verNum (qOf Ks) V n p ∧ datStr (qOf (Km Ks c n)) (Vm Ks V c n) (Bm Ks V B c n) m p = datStr (qOf Ks) V B n p) ∧
    empties (datStr (qOf (Km Ks c n)) (Vm Ks V c n) (Bm Ks V B c n) m) (firsts (qOf Ks) n).length = empties (datStr (qOf Ks) V B n) (firsts (qOf Ks) n).length := by
  subst hm
  obtain ⟨h1, h2⟩ := split_law (Q := qOf Ks) (V := V) hc (Qm := qOf (Km Ks c n)) (Vm := Vm Ks V c n) (fun p hp => by simp only [qOf]; rw [Km_at hp]) (fun p hp => Vm_at hp)
  have hcol : ∀ p, p < (firsts (qOf Ks) n).length → keyStr (Km Ks c n) (qOf (Km Ks c n)) (la (qOf Ks) c + lb (qOf Ks) c n) p = keyStr Ks (qOf Ks) n p ∧ verNum (qOf (Km Ks c n)) (Vm Ks V c n) (la (qOf Ks) c + lb (qOf Ks) c n) p = verNum (qOf Ks) V n p ∧ datStr (qOf (Km Ks c n)) (Vm Ks V c n) (Bm Ks V B c n) (la (qOf Ks) c + lb (qOf Ks) c n) p = datStr (qOf Ks) V B n p := by
    intro p hp
    obtain ⟨k1, k2, k3, k4⟩ := h2 p hp
    have hp' : p < (firsts (qOf (Km Ks c n)) (la (qOf Ks) c + lb (qOf Ks) c n)).length := by rw [h1]; exact hp
    refine ⟨?_, ?_, ?_⟩
    · rw [keyStr, if_pos hp', keyStr, if_pos hp, Km_at k3, k1]
    · rw [verNum, if_pos hp', verNum, if_pos hp, Vm_at k4, k2]
    · rw [datStr, if_pos hp', datStr, if_pos hp, Bm_at k4, k2]
  exact ⟨h1, hcol, empties_congr fun p hp => (hcol p hp).2.2⟩
/-- The merged keys are keys of the batch. -/
theorem Km_size (hc : c ≤ n) (hks : ∀ i, i < n → (Ks i).size ≤ maxLen) (p : Nat) (hp : p < la (qOf Ks) c + lb (qOf Ks) c n) : (Km Ks c n p).size ≤ maxLen := by
  rw [Km_at hp]
  exact hks _ (fM_lt hc hp)
end

/-! ### append of a row onto a row with room -/
theorem Kp.setCells {S : List Nat} {w0 : World} {g : Nat} : ∀ (vs : List Value) (o : Nat) (w : World), Kp S w0 w → (g ∈ S ∨ w0.heap.size ≤ g) → Kp S w0 (w.setCells g o vs)
  | [], _, _, h, _ => h
  | v :: r, o, _, h, hg => Kp.setCells r (o + 1) _ (h.setCell (a := ⟨g, o, none⟩) hg v) hg
theorem row_setCells {g : Nat} {e : TypeId} {cap : Nat} : ∀ (vs : List Value) (o : Nat) (w : World) (f : Nat → Value), w.rowIs g e cap f → (w.setCells g o vs).rowIs g e cap (fun j => if o ≤ j ∧ j < o + vs.length then vs.getD (j - o) undef else f j)
  | [], o, _, f, h => h.congr fun j _ => by rw [if_neg (by simp)]
  | v :: r, o, w, f, h => by
    have ih := row_setCells r (o + 1) _ _ (h.set o v)
    refine ih.congr fun j _ => ?_
    by_cases h0 : j = o
    · subst h0
      rw [if_neg (by omega), if_pos rfl, if_pos (by simp)]
      simp
    · by_cases h1 : o + 1 ≤ j ∧ j < o + 1 + r.length
      · rw [if_pos h1, if_pos (by simp; omega)]
        have : j - o = j - (o + 1) + 1 := by omega
        rw [this]
        simp
      · rw [if_neg h1, if_neg h0, if_neg (by simp; omega)]
theorem wpList_append_row (w : World) {ops : Array Oper} {rest : List Oper} {o : Oper} {a : Act} {Q : Exit → Act → World → Prop}
    (hg : o.guard = none) (s x : Operand) (t : TypeId) (hop : o.op = Op.call { callee := Callee.builtin Builtin.append, args := #[s, x], argTypes := #[t, t] })
    (e : TypeId) (z : Value) (bytes : Nat) (h1 : Try.prog.underlying t = some (.slice e)) (hinfo : (Try.prog.info? e).map (fun i => (i.zero, i.size, i.bytes)) = some (some z, 1, bytes))
    (g k cap : Nat) (f : Nat → Value) (hs : a.eval s = .slice (some ⟨g, 0, none⟩) k cap) (hr : w.rowIs g e cap f)
    (sb m c : Nat) (h : Nat → Value) (hx : a.eval x = .slice (some ⟨sb, 0, none⟩) m c) (hc : ∀ j, j < m → w.cell? ⟨sb, j, none⟩ = some (h j)) (h1c : ∀ j, (h j).oneCell' = true) (b1 : k + m ≤ cap)
    (hK : ∀ w', w'.rowIs g e cap (fun j => if k ≤ j ∧ j < k + m then h (j - k) else f j) → Kp [g] w w' → wpList Try.prog ops Q rest (a.put o.dst (.slice (some ⟨g, 0, none⟩) (k + m) cap)) w') :
    wpList Try.prog ops Q (o :: rest) a w := by
  obtain ⟨i, hi, hzz⟩ := Option.map_eq_some_iff.1 hinfo
  simp only [Prod.mk.injEq] at hzz
  obtain ⟨hz, hsz, hb⟩ := hzz
  refine wpList_plain hg fun K hK' => ?_
  have hrun := run_append_room_cells (P := Try.prog) w t o.type e i h1 hi g 0 k cap ⟨sb, 0, none⟩ m c ((List.range m).map h) (by simp [hsz]) (fun j u hj => by
      have hjm : j < m := by have := (List.getElem?_eq_some_iff.1 hj).1; simpa using this
      rw [Addr.add_lit, Nat.zero_add, hc j hjm]
      simp [hjm] at hj
      rw [hj]) (fun u hu => by
      obtain ⟨j, _, rfl⟩ := List.mem_map.1 hu
      exact h1c j) b1 (fun j hj => by
      simp at hj
      rw [hsz, Nat.zero_add, Nat.mul_one, hr.cell (by omega)]
      rfl) (fun j hj => hr.frozen _)
  rw [hsz, Nat.zero_add, Nat.mul_one] at hrun
  unfold Oper.wp
  simp [execOp, hop, resolve, invoke, builtin, hs, hx, hrun, Result.andThen]
  refine hK' _ _ (hK _ ((row_setCells _ k w f hr).congr fun j _ => ?_) (Kp.setCells _ _ _ (Kp.refl _ _) (.inl (by simp))))
  simp only [List.length_map, List.length_range]
  split
  · rename_i hj
    simp [show j - k < m by omega]
  · rfl

/-- THE MERGED ROWS: what lies behind the two appends. -/
theorem Strs.merged {w : World} {g cap l1 l2 : Nat} {h1 h2 : Nat → ByteArray} {f : Nat → Value} {F : Nat → ByteArray} (hr : w.rowIs g 9 cap (fun j => if l1 ≤ j ∧ j < l1 + l2 then .string (h2 (j - l1)) else if 0 ≤ j ∧ j < 0 + l1 then .string (h1 (j - 0)) else f j)) (hl : l1 + l2 ≤ cap) (e1 : ∀ j, j < l1 → h1 j = F j) (e2 : ∀ j, j < l2 → h2 j = F (l1 + j)) : Strs w (some ⟨g, 0, none⟩) (l1 + l2) F := by
  intro i hi
  refine ⟨g, 0, rfl, ?_⟩
  rw [Nat.zero_add, hr.cell (by omega)]
  by_cases h : i < l1
  · rw [if_neg (by omega), if_pos (by omega), Nat.sub_zero, e1 i h]
  · rw [if_pos (by omega), e2 _ (by omega), show l1 + (i - l1) = i by omega]
theorem Nums.merged {w : World} {g cap l1 l2 : Nat} {h1 h2 : Nat → Int} {f : Nat → Value} {F : Nat → Int} (hr : w.rowIs g 2 cap (fun j => if l1 ≤ j ∧ j < l1 + l2 then .int .i64 (h2 (j - l1)) else if 0 ≤ j ∧ j < 0 + l1 then .int .i64 (h1 (j - 0)) else f j)) (hl : l1 + l2 ≤ cap) (e1 : ∀ j, j < l1 → h1 j = F j) (e2 : ∀ j, j < l2 → h2 j = F (l1 + j)) : Nums w (some ⟨g, 0, none⟩) (l1 + l2) F := by
  intro i hi
  refine ⟨g, 0, rfl, ?_⟩
  rw [Nat.zero_add, hr.cell (by omega)]
  by_cases h : i < l1
  · rw [if_neg (by omega), if_pos (by omega), Nat.sub_zero, e1 i h]
  · rw [if_pos (by omega), e2 _ (by omega), show l1 + (i - l1) = i by omega]
end Go.Proofs.Qxb6616066a
