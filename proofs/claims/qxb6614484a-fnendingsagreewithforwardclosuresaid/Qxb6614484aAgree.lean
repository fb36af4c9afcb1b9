import Derived.Test.Qxb6614484aEnd
namespace Go.Proofs.Qxb6614484a
open Go.RowKit

set_option maxRecDepth 100000 in
set_option maxHeartbeats 1000000 in
theorem agree_any (da : Option Addr) (n dc : Nat) (st fi0 q0 : Int) (len : Nat → Nat) (el : Nat → Nat → Int) (w : World) (hA : Adj w da n len el) (hmd : n ≤ maxLen) :
    Calls Try.prog 5 #[.slice da n dc, .int .i64 st, .int .i64 fi0, .int .i64 q0] w fun e w' => e = .returned (.bool true) ∧ Kp [] w w' := by
  go_enter Try.func5, Try.ntmps5
  go_wp2_with fail
  refine (bytes16_any da n dc st fi0 q0 len el _ hA hmd).mono ?_
  rintro e w1 ⟨⟨b, rfl, hsh⟩, rfl⟩
  cases b with
  | false =>
    clear hsh
    go_wp2_with fail
    go_ret
    exact ⟨rfl, Kp.refl _ _⟩
  | true =>
  have hs := hsh rfl
  clear hsh
  by_cases g3 : 65536 < (n : Int)
  · go_wp2_with fail
    go_ret
    exact ⟨rfl, Kp.refl _ _⟩
  go_wp2_with fail
  refine (adjBytes_any 0 da n dc len el _ hA (by omega) (by omega) hmd hs).mono ?_
  rintro e w2 ⟨⟨kk, rfl⟩, rfl⟩
  by_cases g4 : 1048576 < kk
  · go_wp2_with fail
    go_ret
    exact ⟨rfl, Kp.refl _ _⟩
  by_cases g5 : fi0 < 0
  · go_wp2_with fail
    go_ret
    exact ⟨rfl, Kp.refl _ _⟩
  by_cases g6 : (n : Int) ≤ fi0
  · go_wp2_with fail
    go_ret
    exact ⟨rfl, Kp.refl _ _⟩
  by_cases g7 : q0 < 0
  · go_wp2_with fail
    go_ret
    exact ⟨rfl, Kp.refl _ _⟩
  by_cases g8 : (n : Int) ≤ q0
  · go_wp2_with fail
    go_ret
    exact ⟨rfl, Kp.refl _ _⟩
  obtain ⟨fi, rfl⟩ : ∃ k : Nat, fi0 = k := ⟨fi0.toNat, by omega⟩
  obtain ⟨q, rfl⟩ : ∃ k : Nat, q0 = k := ⟨q0.toNat, by omega⟩
  have hn : n ≤ 65536 := by omega
  have hfi : fi < n := by omega
  have hq : q < n := by omega
  go_wp2_with fail
  refine (linksIn_any n da n dc len el _ hA hn (Nat.le_refl _) (fun q hq => by have := hs q hq; unfold maxLen; omega)).mono ?_
  rintro e w5 ⟨⟨b3, rfl, hb3⟩, rfl⟩
  cases b3 with
  | false =>
    clear hb3
    go_wp2_with fail
    go_ret
    exact ⟨rfl, Kp.refl _ _⟩
  | true =>
  have HB3 := Hid.mk' (hb3 rfl)
  clear hb3
  have hEn : ∀ q, q < n → len q ≤ 1048576 ∧ ∀ i, i < len q → 0 ≤ el q i ∧ el q i < n := fun q hq => ⟨hs q hq, HB3.out q hq⟩
  go_wp2_with fail
  refine (auto_any da n dc st fi len el _ hA hn).mono ?_
  rintro e w6 ⟨rfl, hau, hk6⟩
  go_wp2_with fail
  refine (zzEndings_any _ n fi st len el _ hau hn hfi hEn).mono ?_
  rintro e w7 ⟨eb, R, rfl, hr, hk7, hR⟩
  have hRf : R fi = true := (hR fi).2 (.base rfl)
  have cf := hr.cell hfi
  rw [hRf] at cf
  have hfn : (fi : Int) < n := by omega
  have hqn : (q : Int) < n := by omega
  have hk67 := hk6.trans hk7
  have hA7 := hA.later hk67
  have hI : Ints (w7.alloc (.cells #[.int .i64 (q : Int)] 3)) (some ⟨w7.heap.size, 0, none⟩) 1 (fun _ => (q : Int)) := by
    intro i hi
    refine ⟨w7.heap.size, 0, rfl, ?_⟩
    have hi0 : i = 0 := by omega
    subst hi0
    exact (cell_blk (heap_alloc_last w7 (.cells #[.int .i64 (q : Int)] 3)) 0).trans rfl
  have ka := (Kp.refl [] w7).alloc (.cells #[.int .i64 (q : Int)] 3)
  go_wp2_with fail
  refine (zz_any n 1 1 _ (fun _ => (q : Int)) da n dc len el _ hn (Nat.le_refl _) (by omega) hI (fun i hi => by omega) (hA7.later ka) (fun q hq => ⟨by have := (hEn q hq).1; unfold maxLen; omega, (hEn q hq).2⟩)).mono ?_
  rintro e w8 ⟨cb, S, rfl, hsr, hk8, hS⟩
  have hka8 := ka.trans hk8
  have heq : R q = S fi := by
    have h1 : R q = true ↔ S fi = true := by
      rw [hR, hS]
      have hc : ∀ z, Cl (Fr 1 (fun _ => (q : Int))) (Ed n len el) z ↔ Cl (fun x => x = q) (Ed n len el) z := fun z => Cl.congr fun x => ⟨fun ⟨i, hi, e⟩ => by have e' : (q : Int) = x := e; omega, fun e => ⟨0, by omega, by show (q : Int) = x; omega⟩⟩
      rw [hc]
      exact ⟨fun h => h.flip, fun h => h.flip⟩
    cases h2 : R q <;> cases h3 : S fi <;> simp_all
  have d1 := (hka8.row hr (by simp)).cell hq
  have d2 := hsr.cell hfi
  rw [heq] at d1
  clear hR hS
  go_wp2
  go_quiet (fail)
  go_wp2
  go_ret
  refine ⟨?_, ((hk67.trans hka8)).drewN _⟩
  simp

end Go.Proofs.Qxb6614484a
