import Derived.Test.Qxb6614484aClos
import Derived.ProofKit
import Derived.OpenShut
import Derived.ChangeOld
import Derived.Deep.Slices
namespace Go.Proofs.Qxb6614484a
open Go.ChangeShapes Go.WideShapes Go.ChangeAt Go.RowKit

theorem own : ownKnob Try.prog.godebug = none := by kernel_rfl
theorem laidOut : laidOutB Try.prog = true := by kernel_rfl
theorem one3 : Try.prog.cellsOf 3 = 1 := by kernel_rfl
theorem one22 : Try.prog.cellsOf 22 = 1 := by kernel_rfl

/-- An address that holds a cell has no spot: it is a block and an offset. -/
theorem addr_plain {W : World} {ad : Addr} {i : Nat} {v v0 : Value} (h0 : W.cell? (ad.add 0) = some v0) (h : W.cell? (ad.add i) = some v) : ∃ b o, ad = ⟨b, o, none⟩ ∧ W.cell? ⟨b, o + i, none⟩ = some v := by
  obtain ⟨b, o, spot⟩ := ad
  have hspot : spot = none := by simpa [Addr.add] using World.cell?_spot h0
  subst hspot
  exact ⟨b, o, rfl, by rw [← add_plain]; exact h⟩

section
variable {H : Type} {enc : TypeId × Value → H} {W : World} {spare : Nat → Bool} {held : Bool} {fuel : Nat} {x : DataW H × List MemPlace}

theorem arg_ints {v : Value} (hf : DataW.trod enc Try.prog W 0 spare held fuel 22 [v] = some x) :
    ∃ (a : Option Addr) (l c : Nat) (f : Nat → Int), v = .slice a l c ∧ Ints W a l f ∧ l ≤ maxLen ∧ (a = none → l = 0 ∧ c = 0) := by
  rcases Deep.open_slice1 Try.underlying22 one3 hf with ⟨hcs, _⟩ | ⟨ad, l, c, m, n, V, D, Pl, hcs, _, hl, hm, hmm, _, hel⟩
  · simp at hcs
    subst hcs
    exact ⟨none, 0, 0, fun _ => 0, rfl, fun i hi => by omega, Nat.zero_le _, fun _ => ⟨rfl, rfl⟩⟩
  · simp at hcs
    subst hcs
    have hlm : l ≤ m := by rw [hmm]; split <;> omega
    have each : ∀ i, i < l → ∃ s : Int, W.cell? (ad.add i) = some (.int .i64 s) := by
      intro i hi
      obtain ⟨s, e0, _, hs⟩ := DataW.trod_int Try.underlying3 (hel i (by omega)).2
      simp at e0
      exact ⟨s, by rw [(hel i (by omega)).1, e0]⟩
    obtain ⟨K, hK⟩ := Deep.choose_lt each
    refine ⟨some ad, l, c, K, rfl, fun i hi => ?_, by omega, fun e => by cases e⟩
    obtain ⟨b, o, rfl, hc⟩ := addr_plain (hK 0 (by omega)) (hK i hi)
    exact ⟨b, o, rfl, hc⟩

theorem arg_adj {v : Value} (hf : DataW.trod enc Try.prog W 0 spare held fuel 23 [v] = some x) :
    ∃ (a : Option Addr) (l c : Nat) (len : Nat → Nat) (el : Nat → Nat → Int), v = .slice a l c ∧ Adj W a l len el ∧ l ≤ maxLen := by
  rcases Deep.open_slice1 Try.underlying23 one22 hf with ⟨hcs, _⟩ | ⟨ad, l, c, m, n, V, D, Pl, hcs, _, hl, hm, hmm, _, hel⟩
  · simp at hcs
    subst hcs
    exact ⟨none, 0, 0, fun _ => 0, fun _ _ => 0, rfl, fun i hi => by omega, Nat.zero_le _⟩
  · simp at hcs
    subst hcs
    have hlm : l ≤ m := by rw [hmm]; split <;> omega
    have each : ∀ i, i < l → ∃ s : Nat × (Nat → Int), ∃ y cp, W.cell? (ad.add i) = some (.slice y s.1 cp) ∧ Ints W y s.1 s.2 := by
      intro i hi
      obtain ⟨y, l', cp, f, e0, hI, _, _⟩ := arg_ints (hel i (by omega)).2
      exact ⟨(l', f), y, cp, by rw [(hel i (by omega)).1, e0], hI⟩
    obtain ⟨K, hK⟩ := Deep.choose_lt each
    refine ⟨some ad, l, c, fun q => (K q).1, fun q => (K q).2, rfl, fun i hi => ?_, by omega⟩
    obtain ⟨y, cp, h1, h2⟩ := hK i hi
    obtain ⟨_, _, h0, _⟩ := hK 0 (by omega)
    obtain ⟨b, o, rfl, hc⟩ := addr_plain h0 h1
    exact ⟨b, o, rfl, y, cp, hc, h2⟩
end

end Go.Proofs.Qxb6614484a
