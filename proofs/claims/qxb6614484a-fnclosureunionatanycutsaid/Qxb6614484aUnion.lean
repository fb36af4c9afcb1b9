import Derived.Test.Qxb6614484aCopy
namespace Go.Proofs.Qxb6614484a
open Go.RowKit

set_option maxRecDepth 100000 in
set_option maxHeartbeats 2000000 in
theorem union_any (nn : Int) (a1 a2 da : Option Addr) (n1 c1 n2 c2 dn dc : Nat) (f1 f2 : Nat → Int) (len : Nat → Nat) (el : Nat → Nat → Int) (w : World) (h1 : Ints w a1 n1 f1) (h2 : Ints w a2 n2 f2) (hA : Adj w da dn len el) (hm1 : n1 ≤ maxLen) (hm2 : n2 ≤ maxLen) (hmd : dn ≤ maxLen) (e1 : a1 = none → n1 = 0 ∧ c1 = 0) (e2 : a2 = none → n2 = 0 ∧ c2 = 0) :
    Calls Try.prog 4 #[.int .i64 nn, .slice a1 n1 c1, .slice a2 n2 c2, .slice da dn dc] w fun e w' => e = .returned (.bool true) ∧ Kp [] w w' := by
  have hne : ∀ (w : World) (a : Option Addr) (n c : Nat), (binOp .neq 22 (.slice a n c) (.slice none 0 0)).run Try.prog w = .ok (.bool (!a.isNone)) w := fun w a n c => run_neq_slice_nil_any w _ _ a n c 0 0 Try.underlying22
  go_enter Try.func4, Try.ntmps4
  go_wp2_with fail
  refine (bytes14_any nn a1 a2 da n1 c1 n2 c2 dn dc len el _ hA hm1 hm2 hmd).mono ?_
  rintro e w1 ⟨⟨b, rfl, hsh⟩, rfl⟩
  cases b with
  | false =>
    clear hsh
    go_wp2_with fail
    go_ret
    exact ⟨rfl, Kp.refl _ _⟩
  | true =>
  have hs := hsh rfl
  clear hsh
  by_cases g1 : 65536 < (n1 : Int)
  · go_wp2_with fail
    go_ret
    exact ⟨rfl, Kp.refl _ _⟩
  by_cases g2 : 65536 < (n2 : Int)
  · go_wp2_with fail
    go_ret
    exact ⟨rfl, Kp.refl _ _⟩
  by_cases g3 : 65536 < (dn : Int)
  · go_wp2_with fail
    go_ret
    exact ⟨rfl, Kp.refl _ _⟩
  go_wp2_with fail
  refine (adjBytes_any _ da dn dc len el _ hA (by omega) (by omega) hmd hs).mono ?_
  rintro e w2 ⟨⟨kk, rfl⟩, rfl⟩
  by_cases g4 : 1048576 < kk
  · go_wp2_with fail
    go_ret
    exact ⟨rfl, Kp.refl _ _⟩
  by_cases g5 : nn < 0
  · go_wp2_with fail
    go_ret
    exact ⟨rfl, Kp.refl _ _⟩
  obtain ⟨n, rfl⟩ : ∃ n : Nat, nn = n := ⟨nn.toNat, by omega⟩
  by_cases g6 : 65536 < (n : Int)
  · go_wp2_with fail
    go_ret
    exact ⟨rfl, Kp.refl _ _⟩
  by_cases g7 : (dn : Int) < n
  · go_wp2_with fail
    go_ret
    exact ⟨rfl, Kp.refl _ _⟩
  have hnd : n ≤ dn := by omega
  have hn : n ≤ 65536 := by omega
  go_wp2_with fail
  refine (allIn_any n a1 n1 c1 f1 _ h1 hm1).mono ?_
  rintro e w3 ⟨⟨b1, rfl, hb1⟩, rfl⟩
  cases b1 with
  | false =>
    clear hb1
    go_wp2_with fail
    go_ret
    exact ⟨rfl, Kp.refl _ _⟩
  | true =>
  have HB1 := Hid.mk' (hb1 rfl)
  clear hb1
  go_wp2_with fail
  refine (allIn_any n a2 n2 c2 f2 _ h2 hm2).mono ?_
  rintro e w4 ⟨⟨b2, rfl, hb2⟩, rfl⟩
  cases b2 with
  | false =>
    clear hb2
    go_wp2_with fail
    go_ret
    exact ⟨rfl, Kp.refl _ _⟩
  | true =>
  have HB2 := Hid.mk' (hb2 rfl)
  clear hb2
  go_wp2_with fail
  refine (linksIn_any n da dn dc len el _ hA hn hnd (fun q hq => by have := hs q hq; unfold maxLen; omega)).mono ?_
  rintro e w5 ⟨⟨b3, rfl, hb3⟩, rfl⟩
  cases b3 with
  | false =>
    clear hb3
    go_wp2_with fail
    go_ret
    exact ⟨rfl, Kp.refl _ _⟩
  | true =>
  have HB3 := Hid.mk' (hb3 rfl)
  clear hb3
  go_upto_if 76 with fail
  go_cut [1] (fun v wx => ∃ a c, v = .slice a n1 c ∧ Ints wx a n1 f1 ∧ (a = none → n1 = 0 ∧ c = 0) ∧ Kp [] w5 wx)
  case first =>
    have hmk := make1 22 3 _ _ Try.underlying22 Try.info3 rfl (by omega) n1 n1 (Nat.le_refl _) (by omega)
    cases a1 with
    | none =>
      obtain ⟨rfl, rfl⟩ := e1 rfl
      go_wp2
      go_meet
      case rel => exact ⟨none, 0, rfl, (fun i hi => by omega), (fun _ => by simp), Kp.refl _ _⟩
    | some ad =>
      have hcp := copy1 w5 ad n1 c1 f1 h1
      go_wp2
      go_meet
      case rel => exact ⟨_, n1, rfl, ints_copied _ _ _, (fun e => by cases e), (Kp.refl _ _).alloc _⟩
  case rest =>
  obtain ⟨p1, q1, rfl, hs1, hp1, hkx⟩ := hcut
  go_upto_if 85 with fail
  go_cut [2] (fun v wx => ∃ a c, v = .slice a n2 c ∧ Ints wx a n2 f2 ∧ (a = none → n2 = 0 ∧ c = 0) ∧ Kp [] wc wx)
  case first =>
    have hmk := make1 22 3 _ _ Try.underlying22 Try.info3 rfl (by omega) n2 n2 (Nat.le_refl _) (by omega)
    cases a2 with
    | none =>
      obtain ⟨rfl, rfl⟩ := e2 rfl
      go_wp2
      go_meet
      case rel => exact ⟨none, 0, rfl, (fun i hi => by omega), (fun _ => by simp), Kp.refl _ _⟩
    | some ad =>
      have hcp := copy1 wc ad n2 c2 f2 (h2.later hkx)
      go_wp2
      go_meet
      case rel => exact ⟨_, n2, rfl, ints_copied _ _ _, (fun e => by cases e), (Kp.refl _ _).alloc _⟩
  case rest =>
  obtain ⟨p2, q2, rfl, hs2, hp2, hk2⟩ := hcut
  have hs1' := hs1.later hk2
  have hkw := hkx.trans hk2
  have hA' := hA.later hkw
  clear hs1 hk2 hkx h1 h2 hne e1 e2 hA
  have hm22 : ∀ W : World, (Instr.makeSlice 22 (.int .i64 0) (.int .i64 ((n1 : Int) + (n2 : Int)))).run Try.prog W = .ok (.slice (some ⟨W.heap.size, 0, none⟩) 0 (n1 + n2)) (W.alloc (.cells (madeCells #[.int .i64 0] (n1 + n2)) 3)) := fun W => by rw [← Int.natCast_add]; exact make1 22 3 _ _ Try.underlying22 Try.info3 rfl (by omega) 0 (n1 + n2) (by omega) (by omega) W
  obtain ⟨i0, hi0, hz0, hz1, hz2⟩ := info_parts Try.info3
  have o5 := World.ownsRow_made (base := wc.heap.size) (e := 3) (size := 1) wc (madeCells #[.int .i64 0] (n1 + n2)) (n1 + n2) (Nat.le_refl _) (by unfold maxLen; omega) (by simp [size_madeCells])
  have q5 := (Kp.refl [] wc).alloc (.cells (madeCells #[.int .i64 0] (n1 + n2)) 3)
  clear hm1 hm2 hmd
  go_wp2_with (first
    | (at_builtin; refine wpList_append_fits_any _ rfl (.tmp 99) (.tmp 100) 22 rfl wc.heap.size 3 i0 1 Try.underlying22 hi0 hz1 wc.heap.size 0 (n1 + n2) [] rfl o5 p1 n1 q1 (cells1 f1 n1) rfl (by rw [cells1_len, Nat.mul_one]) hp1 (hs1'.later q5).src (cells1_one _ _) (by omega) ?_; intro w6 o6 k6; rw [Nat.zero_add, List.nil_append] at o6; have q6 := q5.grown k6 (fun j hj => .inr (by cases hj; exact Nat.le_refl _)))
    | (at_builtin; refine wpList_append_fits_any _ rfl (.tmp 102) (.tmp 103) 22 rfl wc.heap.size 3 i0 1 Try.underlying22 hi0 hz1 wc.heap.size n1 (n1 + n2) _ rfl o6 p2 n2 q2 (cells1 f2 n2) rfl (by rw [cells1_len, Nat.mul_one]) hp2 (hs2.later q6).src (cells1_one _ _) (by omega) ?_; intro w7 o7 k7; have q7 := q6.grown k7 (fun j hj => .inr (by cases hj; exact Nat.le_refl _))))
  have hab := ints_joined o7
  have hk7 := hkw.trans q7
  have hA7 := hA'.later q7
  have hs17 := hs1'.later q7
  have hs27 := hs2.later q7
  have hEn : ∀ q, q < n → len q ≤ maxLen ∧ ∀ i, i < len q → 0 ≤ el q i ∧ el q i < n := fun q hq => ⟨by have := hs q (by omega); unfold maxLen; omega, HB3.out q hq⟩
  have hjn := joined_in (n2 := n2) (P := fun z => 0 ≤ z ∧ z < (n : Int)) HB1.out HB2.out
  clear o5 o6 o7 k6 k7 q5 q6 q7 hs1' hs2 hA' hkw hm22 hi0 hz0 hz1 hz2
  refine (zz_any n (n1 + n2) (n1 + n2) _ (joined n1 f1 f2) da dn dc len el _ hn hnd (by omega) hab hjn hA7 hEn).mono ?_
  rintro e w8 ⟨rb, R, rfl, hr, hk8, hR⟩
  go_wp2_with fail
  refine (zz_any n n1 q1 p1 f1 da dn dc len el _ hn hnd (by omega) (hs17.later hk8) HB1.out (hA7.later hk8) hEn).mono ?_
  rintro e w9 ⟨ab, RA, rfl, hra, hk9, hRA⟩
  go_wp2_with fail
  refine (zz_any n n2 q2 p2 f2 da dn dc len el _ hn hnd (by omega) (hs27.later (hk8.trans hk9)) HB2.out (hA7.later (hk8.trans hk9)) hEn).mono ?_
  rintro e w10 ⟨bb, RB, rfl, hrb, hk10, hRB⟩
  have k810 := hk8.trans (hk9.trans hk10)
  have rr := (hk9.trans hk10).row hr (by simp)
  have ra := hk10.row hra (by simp)
  have hI1 := hs17.later k810
  have hI2 := hs27.later k810
  have hA10 := hA7.later k810
  have hkW := hk7.trans k810
  have hU : ∀ q, R q = (RA q || RB q) := fun q => by
    have : R q = true ↔ RA q = true ∨ RB q = true := by rw [hR, hRA, hRB, ← Cl.union]; exact Cl.congr fr_joined
    cases h1 : R q <;> cases h2 : RA q <;> cases h3 : RB q <;> simp_all
  clear hr hra hs17 hs27 hA7 k810 hk8 hk9 hk10 hk7 hab
  go_wp2_with fail
  have HU : Hid (∀ q, R q = (RA q || RB q)) := hU
  have HR : Hid (∀ q, R q = true ↔ Cl (Fr (n1 + n2) (joined n1 f1 f2)) (Ed n len el) q) := hR
  clear hU hR hRA hRB
  go_loopg [15] n (fun g i wx => ∃ k : Nat, k + g = n ∧ i = .int .i64 k ∧ Kp [] w10 wx)
  case atStart => exact ⟨0, by omega, rfl, Kp.refl _ _⟩
  case round =>
    obtain ⟨k, hkg, rfl, hkx⟩ := hrel
    have HK : Hid (k + gk = n) := hkg
    clear hkg
    by_cases hlt : k < n
    · have hkn : (k : Int) < n := by omega
      have d1 := (hkx.row rr (by simp)).cell hlt
      have d2 := (hkx.row ra (by simp)).cell hlt
      have d3 := (hkx.row hrb (by simp)).cell hlt
      rw [HU.out k] at d1
      cases hx : RA k <;> cases hy : RB k <;> rw [hx] at d1 d2 <;> rw [hy] at d1 d3 <;> simp at d1
      all_goals
        go_wp2
        go_quiet (fail)
        go_wp2
        go_roundg (gk - 1)
        case measure => have := HK.out; omega
        case rel => exact ⟨k + 1, by have := HK.out; omega, by go_num, hkx.drewN _⟩
    · obtain rfl : k = n := by have := HK.out; omega
      clear HK
      have hkk : ¬ (k : Int) < k := by omega
      go_wp2_with fail
      refine (holdsAll_any rb k R p1 n1 q1 f1 _ (hkx.row rr (by simp)) (hI1.later hkx) (by unfold maxLen; omega) (fun i hi => ?_)).mono ?_
      · have hh := HB1.out i hi
        refine ⟨(f1 i).toNat, by omega, by omega, ?_⟩
        rw [HR.out]
        exact .base ((fr_joined _).2 (.inl ⟨i, hi, by omega⟩))
      rintro e w11 ⟨rfl, rfl⟩
      go_wp2_with fail
      refine (holdsAll_any rb k R p2 n2 q2 f2 _ (hkx.row rr (by simp)) (hI2.later hkx) (by unfold maxLen; omega) (fun i hi => ?_)).mono ?_
      · have hh := HB2.out i hi
        refine ⟨(f2 i).toNat, by omega, by omega, ?_⟩
        rw [HR.out]
        exact .base ((fr_joined _).2 (.inr ⟨i, hi, by omega⟩))
      rintro e w12 ⟨rfl, rfl⟩
      have hmk := make1 22 3 _ _ Try.underlying22 Try.info3 rfl (by omega) 0 k (by omega) (by omega)
      simp only [Int.natCast_zero] at hmk
      have rr2 := hkx.row rr (by simp)
      have hA2 := hA10.later hkx
      have hk12 := hkW.trans hkx
      obtain ⟨i1, hi1, hz0, hz1, hz2⟩ := info_parts Try.info3
      clear hkx rr ra hrb hI1 hI2 hA10 hkW HU HB1 HB2
      have o0 := World.ownsRow_made (base := w12.heap.size) (e := 3) (size := 1) w12 (madeCells #[.int .i64 0] k) k (Nat.le_refl _) (by unfold maxLen; omega) (by simp [size_madeCells])
      have k0 := (Kp.refl [] w12).alloc (.cells (madeCells #[.int .i64 0] k) 3)
      go_wp2_with fail
      go_loopg [16, 17] k (fun gh v i wy => ∃ j : Nat, j + gh = k ∧ i = .int .i64 j ∧ v = .slice (some ⟨w12.heap.size, 0, none⟩) (mk R j).length k ∧ wy.ownsRow w12.heap.size 3 1 (.slice (some ⟨w12.heap.size, 0, none⟩) (mk R j).length k) (mk R j).length (mkVals R j) ∧ Kp [] w12 wy)
      case atStart => exact ⟨0, by omega, rfl, rfl, o0, k0⟩
      case round =>
        clear o0 k0 hmk
        obtain ⟨j, hjg, rfl, rfl, hown, hky⟩ := hrel
        have HJ : Hid (j + gk = k) := hjg
        clear hjg
        by_cases hlt' : j < k
        · have hjk : (j : Int) < k := by omega
          have d1 := (hky.row rr2 (by simp)).cell hlt'
          cases hx : R j with
          | false =>
            rw [hx] at d1
            have HM := Hid.mk' (mk_no hx)
            go_wp2
            go_roundg (gk - 1)
            case measure => have := HJ.out; omega
            case rel => exact ⟨j + 1, by have := HJ.out; omega, by go_num, by rw [HM.out], by unfold mkVals; rw [HM.out]; exact hown, hky⟩
          | true =>
            rw [hx] at d1
            have HM := Hid.mk' (mk_yes hx)
            have hle := mk_len R j
            have hcc : (wr.alloc (.cells #[.int .i64 (j : Int)] 3)).cell? ⟨wr.heap.size, 0, none⟩ = some (.int .i64 (j : Int)) := by
              rw [cell_blk (heap_alloc_last wr (.cells #[.int .i64 (j : Int)] 3)) 0]; rfl
            have hka := hky.alloc (.cells #[.int .i64 (j : Int)] 3)
            go_wp2_with (at_builtin; refine wpList_append_fits _ rfl (.tmp 174) (.tmp 176) 22 rfl w12.heap.size 3 i1 1 Try.underlying22 hi1 hz1 w12.heap.size (mk R j).length k _ rfl (hown.alloc _) ⟨wr.heap.size, 0, none⟩ 1 1 [.int .i64 (j : Int)] rfl rfl (fun t u ht => by
                match t, ht with
                | 0, ht => simp at ht; subst ht; rw [Addr.add_lit]; exact hcc) (fun u hu => by simp at hu; subst hu; rfl) (by omega) ?_; intro w13 o13 k13)
            have k14 := hka.grown k13 (fun t ht => .inr (by cases ht; exact Nat.le_refl _))
            go_roundg (gk - 1)
            case measure => have := HJ.out; omega
            case rel =>
              refine ⟨j + 1, by have := HJ.out; omega, by go_num, by rw [HM.out]; simp, ?_, k14⟩
              unfold mkVals
              rw [HM.out]
              simp only [List.length_append, List.length_singleton, List.map_append, List.map_cons, List.map_nil]
              exact o13
        · obtain rfl : j = k := by have := HJ.out; omega
          clear HJ
          have hmI := ints_mk hown
          go_wp2_with fail
          refine (zz_any j (mk R j).length j _ (mkF R j) da dn dc len el _ hn hnd (by have := mk_len R j; omega) hmI (fun i hi => mkF_in i hi) (hA2.later hky) hEn).mono ?_
          rintro e w14 ⟨sb, S, rfl, hsr, hk14, hS⟩
          go_wp2_with fail
          refine (sameBools_any sb rb j S R _ hsr ((hky.trans hk14).row rr2 (by simp)) hn (fun q _ => ?_)).mono ?_
          · have hq : S q = true ↔ R q = true := by
              rw [hS, HR.out, ← Cl.idem (F := Fr (n1 + n2) (joined n1 f1 f2))]
              refine Cl.congr fun x => ?_
              rw [fr_mk, HR.out]
              exact ⟨fun h => h.2, fun h => ⟨h.lt hjn HB3.out, h⟩⟩
            cases h1 : S q <;> cases h2 : R q <;> simp_all
          rintro e w15 ⟨rfl, hk15⟩
          go_wp2_with fail
          go_ret
          exact ⟨rfl, hk12.trans (hky.trans (hk14.trans hk15))⟩

end Go.Proofs.Qxb6614484a
