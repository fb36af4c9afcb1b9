import Derived.Test.Qxb6616066aSmall
import Derived.ProofKit
import Derived.OpenShut
import Derived.ChangeOld
import Derived.Deep.Slices
namespace Go.Proofs.Qxb6616066a
open Go.ChangeShapes Go.WideShapes Go.ChangeAt Go.RowKit

theorem own : ownKnob Try.prog.godebug = none := by kernel_rfl
theorem laidOut : laidOutB Try.prog = true := by kernel_rfl

theorem one9 : Try.prog.cellsOf 9 = 1 := by kernel_rfl
theorem one2 : Try.prog.cellsOf 2 = 1 := by kernel_rfl
theorem one5 : Try.prog.cellsOf 5 = 1 := by kernel_rfl
theorem one31 : Try.prog.cellsOf 31 = 1 := by kernel_rfl

/-- An address that holds a cell has no spot: it is a block and an offset. -/
theorem addr_plain {W : World} {ad : Addr} {i : Nat} {v v0 : Value} (h0 : W.cell? (ad.add 0) = some v0) (h : W.cell? (ad.add i) = some v) : ∃ b o, ad = ⟨b, o, none⟩ ∧ W.cell? ⟨b, o + i, none⟩ = some v := by
  obtain ⟨b, o, spot⟩ := ad
  have hspot : spot = none := by simpa [Addr.add] using World.cell?_spot h0
  subst hspot
  exact ⟨b, o, rfl, by rw [← add_plain]; exact h⟩

section
variable {H : Type} {enc : TypeId × Value → H} {W : World} {spare : Nat → Bool} {held : Bool} {fuel : Nat} {a : Option Addr} {len cap : Nat} {x : DataW H × List MemPlace}

theorem arg_strs (hf : DataW.trod enc Try.prog W 0 spare held fuel 22 [.slice a len cap] = some x) :
    ∃ K : Nat → ByteArray, Strs W a len K ∧ len ≤ maxLen ∧ ∀ i, i < len → (K i).size ≤ maxLen := by
  rcases Deep.open_slice1 Try.underlying22 one9 hf with ⟨hcs, _⟩ | ⟨ad, l, c, m, n, V, D, Pl, hcs, _, hl, hm, hmm, _, hel⟩
  · simp at hcs
    obtain ⟨rfl, rfl, rfl⟩ := hcs
    exact ⟨fun _ => ByteArray.empty, fun i hi => by omega, Nat.zero_le _, fun i hi => by omega⟩
  · simp at hcs
    obtain ⟨rfl, rfl, rfl⟩ := hcs
    have hlm : len ≤ m := by rw [hmm]; split <;> omega
    have each : ∀ i, i < len → ∃ s : ByteArray, W.cell? (ad.add i) = some (.string s) ∧ s.size ≤ maxLen := by
      intro i hi
      obtain ⟨s, e0, _, hs⟩ := DataW.trod_string Try.underlying9 (hel i (by omega)).2
      simp at e0
      exact ⟨s, by rw [(hel i (by omega)).1, e0], hs⟩
    obtain ⟨K, hK⟩ := Deep.choose_lt each
    refine ⟨K, fun i hi => ?_, by omega, fun i hi => (hK i hi).2⟩
    obtain ⟨b, o, rfl, hc⟩ := addr_plain (hK 0 (by omega)).1 (hK i hi).1
    exact ⟨b, o, rfl, hc⟩

theorem arg_nums (hf : DataW.trod enc Try.prog W 0 spare held fuel 23 [.slice a len cap] = some x) :
    ∃ V : Nat → Int, Nums W a len V ∧ len ≤ maxLen ∧ ∀ i, i < len → (Lit.int .i64 (V i)).wf = true := by
  rcases Deep.open_slice1 Try.underlying23 one2 hf with ⟨hcs, _⟩ | ⟨ad, l, c, m, n, V, D, Pl, hcs, _, hl, hm, hmm, _, hel⟩
  · simp at hcs
    obtain ⟨rfl, rfl, rfl⟩ := hcs
    exact ⟨fun _ => 0, fun i hi => by omega, Nat.zero_le _, fun i hi => by omega⟩
  · simp at hcs
    obtain ⟨rfl, rfl, rfl⟩ := hcs
    have hlm : len ≤ m := by rw [hmm]; split <;> omega
    have each : ∀ i, i < len → ∃ s : Int, W.cell? (ad.add i) = some (.int .i64 s) ∧ (Lit.int .i64 s).wf = true := by
      intro i hi
      obtain ⟨s, e0, _, hs⟩ := DataW.trod_int Try.underlying2 (hel i (by omega)).2
      simp at e0
      exact ⟨s, by rw [(hel i (by omega)).1, e0], hs⟩
    obtain ⟨K, hK⟩ := Deep.choose_lt each
    refine ⟨K, fun i hi => ?_, by omega, fun i hi => (hK i hi).2⟩
    obtain ⟨b, o, rfl, hc⟩ := addr_plain (hK 0 (by omega)).1 (hK i hi).1
    exact ⟨b, o, rfl, hc⟩

theorem arg_bytes {v : Value} (hf : DataW.trod enc Try.prog W 0 spare held fuel 31 [v] = some x) :
    ∃ (y : Option Addr) (l cp : Nat) (s : ByteArray), v = .slice y l cp ∧ Bts W y l s ∧ l ≤ maxLen := by
  rcases Deep.open_slice1 Try.underlying31 one5 hf with ⟨hcs, _⟩ | ⟨ad, l, c, m, n, V, D, Pl, hcs, _, hl, hm, hmm, _, hel⟩
  · simp at hcs
    subst hcs
    exact ⟨none, 0, 0, strOfNums [], rfl, ⟨[], rfl, rfl, fun _ => rfl, fun _ e => by cases e⟩, Nat.zero_le _⟩
  · simp at hcs
    subst hcs
    have hlm : l ≤ m := by rw [hmm]; split <;> omega
    have each : ∀ i, i < l → ∃ s : Int, W.cell? (ad.add i) = some (.int .u8 s) := by
      intro i hi
      obtain ⟨s, e0, _, hs⟩ := DataW.trod_int Try.underlying5 (hel i (by omega)).2
      simp at e0
      exact ⟨s, by rw [(hel i (by omega)).1, e0]⟩
    obtain ⟨K, hK⟩ := Deep.choose_lt each
    refine ⟨some ad, l, c, strOfNums ((List.range l).map K), rfl, ⟨(List.range l).map K, by simp, rfl, (fun e => by cases e), fun ad' e i hi => ?_⟩, by omega⟩
    cases e
    rw [hK i hi]
    simp [List.getD, hi]

theorem arg_rows (hf : DataW.trod enc Try.prog W 0 spare held fuel 24 [.slice a len cap] = some x) :
    ∃ B : Nat → ByteArray, Rws W a len B ∧ len ≤ maxLen ∧ ∀ i, i < len → (B i).size ≤ maxLen := by
  rcases Deep.open_slice1 Try.underlying24 one31 hf with ⟨hcs, _⟩ | ⟨ad, l, c, m, n, V, D, Pl, hcs, _, hl, hm, hmm, _, hel⟩
  · simp at hcs
    obtain ⟨rfl, rfl, rfl⟩ := hcs
    exact ⟨fun _ => ByteArray.empty, fun i hi => by omega, Nat.zero_le _, fun i hi => by omega⟩
  · simp at hcs
    obtain ⟨rfl, rfl, rfl⟩ := hcs
    have hlm : len ≤ m := by rw [hmm]; split <;> omega
    have each : ∀ i, i < len → ∃ s : ByteArray, (∃ y l cp, W.cell? (ad.add i) = some (.slice y l cp) ∧ Bts W y l s) ∧ s.size ≤ maxLen := by
      intro i hi
      obtain ⟨y, l, cp, s, e0, hb, hs⟩ := arg_bytes (hel i (by omega)).2
      exact ⟨s, ⟨y, l, cp, by rw [(hel i (by omega)).1, e0], hb⟩, by rw [hb.size]; exact hs⟩
    obtain ⟨K, hK⟩ := Deep.choose_lt each
    refine ⟨K, fun i hi => ?_, by omega, fun i hi => (hK i hi).2⟩
    obtain ⟨⟨y, l, cp, h1, h2⟩, _⟩ := hK i hi
    obtain ⟨⟨_, _, _, h0, _⟩, _⟩ := hK 0 (by omega)
    obtain ⟨b, o, rfl, hc⟩ := addr_plain h0 h1
    exact ⟨b, o, rfl, y, l, cp, hc, h2⟩
end

theorem int_bounds {x : Int} (h : (Lit.int .i64 x).wf = true) : -9223372036854775808 ≤ x ∧ x ≤ 9223372036854775807 := by
  simp [Lit.wf, IntKind.min, IntKind.max, IntKind.bits, IntKind.signed] at h
  omega

end Go.Proofs.Qxb6616066a
