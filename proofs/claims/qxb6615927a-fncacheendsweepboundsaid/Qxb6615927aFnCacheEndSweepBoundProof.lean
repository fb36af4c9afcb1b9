import Derived.Test.Qxb6615927aLaw
import Derived.ProofKit
import Derived.OpenShut
import Derived.ChangeOld
import Derived.Deep.Slices
namespace Go.Proofs.Qxb6615927a
open Go.ChangeShapes Go.WideShapes Go.ChangeAt Go.RowKit

theorem own : ownKnob Try.prog.godebug = none := by kernel_rfl
theorem laidOut : laidOutB Try.prog = true := by kernel_rfl

/-- An argument '[][4]byte', opened into its cells. -/
theorem arg_open {H : Type} {enc : TypeId × Value → H} {W : World} {spare : Nat → Bool} {held : Bool} {fuel : Nat} {a : Option Addr} {len cap : Nat} {x : DataW H × List MemPlace} (hf : DataW.trod enc Try.prog W 0 spare held fuel 24 [.slice a len cap] = some x) :
    ∃ K : Nat → Int, ArgIs W a len cap K ∧ len ≤ maxLen ∧ ∀ j, j < len * 4 → (Lit.int .u8 (K j)).wf = true := by
  rcases Deep.open_slice Try.underlying24 hf with ⟨hcs, _⟩ | ⟨ad, l, c, m, n, D, Pl, hcs, _, hl, hm, hmm, _, hel⟩
  · simp at hcs
    obtain ⟨rfl, rfl, rfl⟩ := hcs
    exact ⟨fun _ => 0, .inl ⟨rfl, rfl, rfl⟩, Nat.zero_le _, fun j hj => by omega⟩
  · simp at hcs
    obtain ⟨rfl, rfl, rfl⟩ := hcs
    have hlm : len ≤ m := by rw [hmm]; split <;> omega
    have each : ∀ j, j < len * 4 → ∃ y : Int, W.cell? (ad.add j) = some (.int .u8 y) ∧ (Lit.int .u8 y).wf = true := by
      intro j hj
      obtain ⟨cs', h1, h2⟩ := hel (j / 4) (by omega)
      rw [Try.cells67] at h1
      obtain ⟨xs, m', _, _, hl4, hx4, hel'⟩ := DataW.trod_array Try.underlying67 h2
      have h3 := hel' (j % 4) (by omega)
      obtain ⟨_, hcl, hce⟩ := World.cells?_some h1
      have hj4 : j % 4 < 4 := by omega
      obtain ⟨v, hv⟩ : ∃ v, cs'[j % 4]? = some v := ⟨cs'[j % 4]'(by omega), List.getElem?_eq_getElem (by omega)⟩
      have h5 : (cs'.drop (j % 4 * Try.prog.cellsOf 5)).take (Try.prog.cellsOf 5) = [v] := by
        rw [Try.arr68.one, Nat.mul_one]
        obtain ⟨hlt, he⟩ := List.getElem?_eq_some_iff.1 hv
        rw [List.drop_eq_getElem_cons hlt, he]
        rfl
      rw [h5] at h3
      obtain ⟨z, hz⟩ : ∃ z, xs[j % 4]? = some z := ⟨xs[j % 4]'(by omega), List.getElem?_eq_getElem (by omega)⟩
      rw [hz] at h3
      obtain ⟨y, e0, _, wy⟩ := DataW.trod_int Try.underlying5 h3
      simp at e0
      subst e0
      refine ⟨y, ?_, wy⟩
      have h6 := hce (j % 4) hj4
      rw [hv, Deep.add_add, show j / 4 * 4 + j % 4 = j from by omega] at h6
      exact h6
    obtain ⟨K, hK⟩ := Deep.choose_lt each
    exact ⟨K, .inr ⟨ad, rfl, fun j hj => (hK j hj).1⟩, by omega, fun j hj => (hK j hj).2⟩

theorem int_bounds {x : Int} (h : (Lit.int .i64 x).wf = true) : -9223372036854775808 ≤ x ∧ x ≤ 9223372036854775807 := by
  simp [Lit.wf, IntKind.min, IntKind.max, IntKind.bits, IntKind.signed] at h
  omega

set_option maxRecDepth 100000 in
theorem lifted (os : Os) (started : os.Started) (H : Type) (enc : TypeId × Value → H) :
    ReturnsInHanded {} Try.checked os 4 .any (Rows.fnCacheEndSweepBoundSpec.pre6 enc Try.prog Try.f4 Rows.fnCacheEndSweepBoundRow.domain false) (Rows.fnCacheEndSweepBoundSpec.post enc Try.prog Try.f4 false true false false) := by
  refine returnsInHanded_of_change (C := Try.checked) own started (by kernel_rfl) Try.func4
    (ChangeSpec.witness6 (enc := enc) (C := Try.checked) false ⟨#[], #[.slice none 0 0, .int .i64 0, .int .i64 0, .slice none 0 0, .int .i64 0, .int .i64 0], []⟩ 8 (by kernel_rfl) (by kernel_rfl) (by kernel_rfl) (by kernel_rfl)) ?_
  intro W base args ds gs before hval0 hW hcnd _
  have hval : ∀ (j : Nat) t v, Try.f4.params[j]? = some t → args[j]? = some v → Value.okWide Try.prog W .any base t v := hval0
  have hW' := hW
  obtain ⟨p, q, hA0, hV, rfl, hfz, hnd⟩ := hW
  have hA : DataW.TrodAll enc Try.prog W 0 (fun _ => true) true Try.f4.params.toList args.toList ds p := hA0
  rw [Try.params4] at hA hval
  obtain ⟨v0, vs0, d0, ds0, p0, q0, hargs, rfl, rfl, h0, r0⟩ := trodAll_cons hA
  obtain ⟨v1, vs1, d1, ds1, p1, q1, rfl, rfl, rfl, h1, r1⟩ := trodAll_cons r0
  obtain ⟨v2, vs2, d2, ds2, p2, q2, rfl, rfl, rfl, h2, r2⟩ := trodAll_cons r1
  obtain ⟨v3, vs3, d3, ds3, p3, q3, rfl, rfl, rfl, h3, r3⟩ := trodAll_cons r2
  obtain ⟨v4, vs4, d4, ds4, p4, q4, rfl, rfl, rfl, h4, r4⟩ := trodAll_cons r3
  obtain ⟨v5, vs5, d5, ds5, p5, q5, rfl, rfl, rfl, h5, r5⟩ := trodAll_cons r4
  obtain ⟨rfl, rfl, rfl⟩ := trodAll_nil r5
  obtain rfl : args = #[v0, v1, v2, v3, v4, v5] := by cases args; simp_all
  obtain ⟨rfl, rfl⟩ := trodVars_none hV
  obtain ⟨a0, len0, cap0, rfl⟩ := okWide_slice Try.underlying24 (hval 0 24 v0 rfl rfl)
  obtain ⟨a3, len3, cap3, rfl⟩ := okWide_slice Try.underlying24 (hval 3 24 v3 rfl rfl)
  have k0 := h0
  have k3 := h3
  have lt0 : ∀ x ∈ p0, x.block < W.heap.size := by obtain ⟨m, hm⟩ := k0; exact DataW.trod_lt m _ _ _ hm
  have lt3 : ∀ x ∈ p3, x.block < W.heap.size := by obtain ⟨m, hm⟩ := k3; exact DataW.trod_lt m _ _ _ hm
  obtain ⟨f0, hf0⟩ := h0
  obtain ⟨f3, hf3⟩ := h3
  obtain ⟨K0, g0, g0', g0''⟩ := arg_open (by simpa [Value.cells] using hf0)
  obtain ⟨K3, g3, g3', g3''⟩ := arg_open (by simpa [Value.cells] using hf3)
  obtain ⟨a1, rfl, rfl, rfl, w1⟩ := open_int Try.underlying2 (hval 1 2 v1 rfl rfl) h1
  obtain ⟨a2, rfl, rfl, rfl, w2⟩ := open_int Try.underlying2 (hval 2 2 v2 rfl rfl) h2
  obtain ⟨a4, rfl, rfl, rfl, w4⟩ := open_int Try.underlying2 (hval 4 2 v4 rfl rfl) h4
  obtain ⟨a5, rfl, rfl, rfl, w5⟩ := open_int Try.underlying2 (hval 5 2 v5 rfl rfl) h5
  clear hA0 hval0
  refine (law_any a0 a3 len0 cap0 len3 cap3 a1 a2 a4 a5 K0 K3 W g0 g3 g0' g3' g0'' g3'' (int_bounds w1).1 (int_bounds w1).2 (int_bounds w2).1 (int_bounds w2).2 (int_bounds w4).1 (int_bounds w4).2 (int_bounds w5).1 (int_bounds w5).2).mono fun e W' ⟨he, bel⟩ => ?_
  subst he
  exact ⟨_, rfl, _, _, _, [], _, [], hW', trodAll_mk1 (shut_bool Try.underlying4 _), (trodAll_cons_mk (Below.trod laidOut (by kernel_rfl) (of_decide_eq_true (by kernel_rfl)) k0 bel lt0) (trodAll_cons_mk (shut_int Try.underlying2 w1) (trodAll_cons_mk (shut_int Try.underlying2 w2) (trodAll_cons_mk (Below.trod laidOut (by kernel_rfl) (of_decide_eq_true (by kernel_rfl)) k3 bel lt3) (trodAll_cons_mk (shut_int Try.underlying2 w4) (trodAll_cons_mk (shut_int Try.underlying2 w5) trodAll_mk0)))))), rfl, bel.frame _, fun h => by cases h⟩

theorem over : Rows.fnCacheEndSweepBoundRow.holds Try.pinned (OpenSpec.ofChange Rows.fnCacheEndSweepBoundSpec) :=
  OpenClaim.holds_of_wide 4 Try.f4 rfl rfl rfl rfl rfl rfl rfl ⟨rfl, rfl, rfl, rfl, rfl⟩ rfl rfl rfl rfl rfl (by kernel_rfl) Try.func4 (by kernel_rfl)
    (of_decide_eq_true (by kernel_rfl)) (by unfold Func.isWrapper; first | (rw [if_pos (by decide +kernel)]; kernel_rfl) | (rw [if_neg (by decide +kernel)]; exact ⟨rfl, rfl⟩))
    (fun os started H enc _ => lifted os started H enc)

/-- THE STATEMENT. -/
theorem fnCacheEndSweepBound_proved : Rows.FnCacheEndSweepBoundSaid := over

end Go.Proofs.Qxb6615927a
