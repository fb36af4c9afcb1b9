import Derived.Test.Qxb6614484aEps
import Derived.Deep.RegionWith
namespace Go.Proofs.Qxb6614484a
open Go.RowKit

/-- The rows of epsInto, as rows of numbers. -/
def lenI (lst : Nat → List Nat) (y : Nat) : Nat := (lst y).length
def elI (lst : Nat → List Nat) (y i : Nat) : Int := ((lst y).getD i 0 : Nat)
theorem Into.adj {w wr : World} {n : Nat} {val : Nat → Value} {lst : Nat → List Nat} (h : Into w n val lst wr) : Adj wr (some ⟨w.heap.size, 0, none⟩) n (lenI lst) (elI lst) := by
  intro y hy
  refine ⟨w.heap.size, 0, rfl, ?_⟩
  have hc := h.row.cell hy
  rcases (h.own y hy).2 with ⟨hv, h0⟩ | ⟨g, cap, cur, hv, _⟩
  · exact ⟨none, 0, by rw [Nat.zero_add, hc, hv, lenI, h0], fun i hi => by rw [lenI, h0] at hi; omega⟩
  · refine ⟨some ⟨g, 0, none⟩, cap, by rw [Nat.zero_add, hc, hv]; rfl, fun i hi => ⟨g, 0, rfl, ?_⟩⟩
    have ho := h.own y hy
    rw [hv] at ho
    have hi' : i < (lst y).length := hi
    rw [Nat.zero_add, ho.cellAt i (by omega)]
    simp [elI, hi']
/-- Its links are those of the automaton, reversed. -/
theorem ed_rev {n : Nat} {len : Nat → Nat} {el : Nat → Nat → Int} {lst : Nat → List Nat} (h : Told len el n 0 lst) (hE : ∀ q, q < n → ∀ i, i < len q → 0 ≤ el q i ∧ el q i < n) (y z : Nat) : Ed n (lenI lst) (elI lst) y z ↔ Ed n len el z y := by
  have hm : (∃ i, i < lenI lst y ∧ elI lst y i = (z : Int)) ↔ z ∈ lst y := by
    rw [List.mem_iff_getElem]
    constructor
    · rintro ⟨i, hi, e⟩
      have hi' : i < (lst y).length := hi
      refine ⟨i, hi', ?_⟩
      simp [elI, hi'] at e
      omega
    · rintro ⟨i, hi, e⟩
      refine ⟨i, hi, ?_⟩
      simp [elI, hi]
      omega
  constructor
  · rintro ⟨_, h1⟩
    rcases (h y z).1 (hm.1 h1) with ⟨hz, k, hk, e⟩ | ⟨_, k, hk, _⟩
    · exact ⟨hz, k, hk, e⟩
    · omega
  · rintro ⟨hz, k, hk, e⟩
    have := (hE z hz k hk).2
    exact ⟨by omega, hm.2 ((h y z).2 (.inl ⟨hz, k, hk, e⟩))⟩
theorem elI_in {n : Nat} {len : Nat → Nat} {el : Nat → Nat → Int} {lst : Nat → List Nat} (h : Told len el n 0 lst) {y i : Nat} (hi : i < lenI lst y) : 0 ≤ elI lst y i ∧ elI lst y i < n := by
  have hi' : i < (lst y).length := hi
  have hx : (lst y)[i] ∈ lst y := List.getElem_mem hi'
  rcases (h y _).1 hx with ⟨hz, _⟩ | ⟨_, k, hk, _⟩
  · simp [elI, hi']
    omega
  · omega

set_option maxHeartbeats 400000 in
/-- What endings hands closure: row q of 'into'. -/
theorem rowI_any (vb : Nat) (da : Option Addr) (dn dc n : Nat) (len : Nat → Nat) (el : Nat → Nat → Int) (w W : World) (hn : n ≤ dn) (hA : Adj w da dn len el) (hv : w.heap[vb]? = some (.cells #[.slice da dn dc] 23)) (hk : Kp [] w W) (q : Nat) (hq : q < n) :
    Calls Try.prog 24 #[.int .i64 q, .pointer (some ⟨vb, 0, none⟩)] W fun e W' => W' = W ∧ ∃ x cp, e = .returned (.slice x (len q) cp) ∧ Ints w x (len q) (el q) := by
  obtain ⟨b, o, rfl, x, cp, h1, h2⟩ := hA q (by omega)
  have v0 := hk.cellSome ((cell_blk hv 0).trans rfl)
  have h1' := hk.cellSome h1
  have hqi : (q : Int) < dn := by omega
  clear h1
  go_enter Try.func24, Try.ntmps24
  go_wp2
  go_ret
  exact ⟨rfl, x, cp, rfl, h2⟩

set_option maxRecDepth 100000 in
set_option maxHeartbeats 1000000 in
theorem endings_any (ab n fi : Nat) (st : Int) (len : Nat → Nat) (el : Nat → Nat → Int) (w : World) (hA : Auto w ab n st fi len el) (hn : n ≤ 65536) (hfi : fi < n) (hEn : ∀ q, q < n → len q ≤ 1048576 ∧ ∀ i, i < len q → 0 ≤ el q i ∧ el q i < n) :
    Calls Try.prog 22 #[.pointer (some ⟨ab, 0, none⟩)] w fun e w' => ∃ (b : Nat) (R : Nat → Bool), e = .returned (.slice (some ⟨b, 0, none⟩) n n) ∧ w'.rowIs b 4 n (fun q => .bool (R q)) ∧ Kp [] w w' ∧ ∀ q, R q = true ↔ Cl (fun x => x = fi) (fun x y => Ed n len el y x) q := by
  go_enter Try.func22, Try.ntmps22
  go_wp2_with fail
  refine (epsInto_any ab n st fi len el _ hA hn hEn).mono ?_
  rintro e w1 ⟨val, lst, rfl, hin, htold, hlens⟩
  have hA1 := hA.later hin.kept
  obtain ⟨sb, hab, -⟩ := hA1
  have c0 := cell_blk hab 0
  have c2 := cell_blk hab 2
  simp at c0 c2
  have hablt := lt_blk hab
  have n1 : ¬ ab = w1.heap.size := by omega
  have n2 : ¬ ab = w1.heap.size + 1 := by omega
  have n3 : ¬ w1.heap.size = ab := by omega
  have n4 : ¬ w1.heap.size + 1 = ab := by omega
  have hadj := hin.adj
  have ka := (Kp.refl [] w1).alloc (.cells #[.slice (some ⟨w.heap.size, 0, none⟩) n n] 23)
  have kb := ka.alloc (.cells #[.int .i64 (fi : Int)] 3)
  have hvar := blk_alloc_old (o' := .cells #[.int .i64 (fi : Int)] 3) (heap_alloc_last w1 (.cells #[.slice (some ⟨w.heap.size, 0, none⟩) n n] 23))
  have hF : Ints ((w1.alloc (.cells #[.slice (some ⟨w.heap.size, 0, none⟩) n n] 23)).alloc (.cells #[.int .i64 (fi : Int)] 3)).drew (some ⟨w1.heap.size + 1, 0, none⟩) 1 (fun _ => (fi : Int)) := by
    intro i hi
    refine ⟨w1.heap.size + 1, 0, rfl, ?_⟩
    have hb := heap_alloc_last (w1.alloc (.cells #[.slice (some ⟨w.heap.size, 0, none⟩) n n] 23)) (.cells #[.int .i64 (fi : Int)] 3)
    rw [World.size_alloc] at hb
    have hi0 : i = 0 := by omega
    subst hi0
    exact (cell_blk hb 0).trans rfl
  have hEI : ∀ q, q < n → lenI lst q ≤ maxLen ∧ ∀ i, i < lenI lst q → 0 ≤ elI lst q i ∧ elI lst q i < n := fun q hq => ⟨by have := hlens q; unfold lenI maxLen; omega, fun i hi => elI_in htold hi⟩
  have hR : ∀ q, Cl (Fr 1 (fun _ => (fi : Int))) (Ed n (lenI lst) (elI lst)) q ↔ Cl (fun x => x = fi) (fun x y => Ed n len el y x) q := by
    intro q
    have e1 : Ed n (lenI lst) (elI lst) = fun x y => Ed n len el y x := by
      funext y z
      exact propext (ed_rev htold (fun q hq => (hEn q hq).2) y z)
    rw [e1]
    refine Cl.congr fun x => ⟨fun ⟨i, hi, e⟩ => by have e' : (fi : Int) = x := e; omega, fun e => ⟨0, by omega, by show (fi : Int) = x; omega⟩⟩
  have hszz : ((w1.alloc (.cells #[.slice (some ⟨w.heap.size, 0, none⟩) n n] 23)).alloc (.cells #[.int .i64 (fi : Int)] 3)).drew.heap.size = w1.heap.size + 1 + 1 := by simp
  go_upto_region 2 with fail
  go_region_with (go_at_call 20; refine (closure_any 24 (.pointer (some ⟨w1.heap.size, 0, none⟩)) n 1 1 (some ⟨w1.heap.size + 1, 0, none⟩) (fun _ => (fi : Int)) (lenI lst) (elI lst) _ hn (by omega) hF (fun i hi => by omega) hEI (enters Try.func24 (by kernel_rfl) (by kernel_rfl)) (fun W hk q hq => rowI_any w1.heap.size (some ⟨w.heap.size, 0, none⟩) n n n (lenI lst) (elI lst) _ W (Nat.le_refl _) (hadj.later kb.drew) hvar hk q hq)).mono ?_; rintro e w2 ⟨R, rfl, hr, hk, hRR⟩)
  all_goals
    go_wp2
    go_ret
    refine ⟨_, R, rfl, ?_, ?_, ?_⟩
    · rw [hszz] at hr; exact hr
    · exact hin.kept.trans (kb.drew.trans hk)
    · exact fun q => (hRR q).trans (hR q)

set_option maxHeartbeats 400000 in
theorem zzEndings_any (ab n fi : Nat) (st : Int) (len : Nat → Nat) (el : Nat → Nat → Int) (w : World) (hA : Auto w ab n st fi len el) (hn : n ≤ 65536) (hfi : fi < n) (hEn : ∀ q, q < n → len q ≤ 1048576 ∧ ∀ i, i < len q → 0 ≤ el q i ∧ el q i < n) :
    Calls Try.prog 17 #[.pointer (some ⟨ab, 0, none⟩)] w fun e w' => ∃ (b : Nat) (R : Nat → Bool), e = .returned (.slice (some ⟨b, 0, none⟩) n n) ∧ w'.rowIs b 4 n (fun q => .bool (R q)) ∧ Kp [] w w' ∧ ∀ q, R q = true ↔ Cl (fun x => x = fi) (fun x y => Ed n len el y x) q := by
  go_enter Try.func17, Try.ntmps17
  go_wp2_with fail
  refine (endings_any ab n fi st len el _ hA hn hfi hEn).mono ?_
  rintro e w1 ⟨b, R, rfl, h1, h2, h3⟩
  go_wp2_with fail
  go_ret
  exact ⟨b, R, rfl, h1, h2, h3⟩

end Go.Proofs.Qxb6614484a
