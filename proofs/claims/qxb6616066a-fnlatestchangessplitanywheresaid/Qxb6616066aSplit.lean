import Derived.Test.Qxb6616066aCols
namespace Go.Proofs.Qxb6616066a
open Go.RowKit

theorem Evs.tail {w : World} {eb n c : Nat} {Ks : Nat → ByteArray} {V : Nat → Int} {B : Nat → ByteArray} (h : Evs w (some ⟨eb, 0, none⟩) n Ks V B) (_hc : c ≤ n) {a : Option Addr} (ha : c < n → a = some ⟨eb, c * 14, none⟩) : Evs w a (n - c) (sh Ks c) (sh V c) (sh B c) := by
  intro i hi
  obtain ⟨b, o, e, hv⟩ := h (c + i) (by omega)
  cases e
  refine ⟨eb, c * 14, ha (by omega), ?_⟩
  have : c * 14 + i * 14 = 0 + (c + i) * 14 := by omega
  rw [this]
  exact hv
theorem Evs.head {w : World} {a : Option Addr} {n c : Nat} {Ks : Nat → ByteArray} {V : Nat → Int} {B : Nat → ByteArray} (h : Evs w a n Ks V B) (hc : c ≤ n) : Evs w a c Ks V B := fun i hi => h i (by omega)
theorem Evs.later {w w' : World} {eb n : Nat} {Ks : Nat → ByteArray} {V : Nat → Int} {B : Nat → ByteArray} (h : Evs w (some ⟨eb, 0, none⟩) n Ks V B) (g : Kp [] w w') : Evs w' (some ⟨eb, 0, none⟩) n Ks V B := by
  intro i hi
  obtain ⟨b, o, e, h1, h2, x, l, cp, h3, h4⟩ := h i hi
  exact ⟨b, o, e, g.cellSome h1, g.cellSome h2, x, l, cp, g.cellSome h3, h4.later g⟩

theorem Km_left {Ks : Nat → ByteArray} {c n A j : Nat} (hA : A = la (qOf Ks) c) (hj : j < A) : keyStr Ks (qOf Ks) c j = Km Ks c n j := by rw [Km, if_pos (by omega)]
theorem Km_right {Ks : Nat → ByteArray} {c n A j : Nat} (hA : A = la (qOf Ks) c) : keyStr (sh Ks c) (qOf (sh Ks c)) (n - c) j = Km Ks c n (A + j) := by rw [Km, if_neg (by omega), hA, Nat.add_sub_cancel_left]
theorem Vm_left {Ks : Nat → ByteArray} {V : Nat → Int} {c n A j : Nat} (hA : A = la (qOf Ks) c) (hj : j < A) : verNum (qOf Ks) V c j = Vm Ks V c n j := by rw [Vm, if_pos (by omega)]
theorem Vm_right {Ks : Nat → ByteArray} {V : Nat → Int} {c n A j : Nat} (hA : A = la (qOf Ks) c) : verNum (qOf (sh Ks c)) (sh V c) (n - c) j = Vm Ks V c n (A + j) := by rw [Vm, if_neg (by omega), hA, Nat.add_sub_cancel_left]
theorem Bm_left {Ks : Nat → ByteArray} {V : Nat → Int} {B : Nat → ByteArray} {c n A j : Nat} (hA : A = la (qOf Ks) c) (hj : j < A) : datStr (qOf Ks) V B c j = Bm Ks V B c n j := by rw [Bm, if_pos (by omega)]
theorem Bm_right {Ks : Nat → ByteArray} {V : Nat → Int} {B : Nat → ByteArray} {c n A j : Nat} (hA : A = la (qOf Ks) c) : datStr (qOf (sh Ks c)) (sh V c) (sh B c) (n - c) j = Bm Ks V B c n (A + j) := by rw [Bm, if_neg (by omega), hA, Nat.add_sub_cancel_left]

set_option maxRecDepth 100000 in
set_option maxHeartbeats 4000000 in
theorem split_any (a0 a1 a2 : Option Addr) (n c0 n1 c1 n2 c2 : Nat) (cut : Int) (Ks : Nat → ByteArray) (V : Nat → Int) (B : Nat → ByteArray) (w : World) (hK : Strs w a0 n Ks) (hV : Nums w a1 n1 V) (hB : Rws w a2 n2 B) (h0 : n ≤ maxLen) (h1 : n1 ≤ maxLen) (h2 : n2 ≤ maxLen) (hks : ∀ i, i < n → (Ks i).size ≤ maxLen) :
    Calls Try.prog 4 #[.slice a0 n c0, .slice a1 n1 c1, .slice a2 n2 c2, .int .i64 cut] w fun e w' => e = .returned (.bool true) ∧ Kp [] w w' := by
  go_enter Try.func4, Try.ntmps4
  go_wp2_with fail
  refine (bytes2_any a0 a1 a2 n c0 n1 c1 n2 c2 cut Ks B _ hK hB h0 h1 h2).mono ?_
  rintro e w' ⟨⟨b, rfl⟩, rfl⟩
  cases b with
  | false =>
    go_wp2_with fail
    go_ret
    exact ⟨rfl, Kp.refl _ _⟩
  | true =>
  go_wp2_with fail
  refine (big_any a0 a1 a2 n c0 n1 c1 n2 c2 Ks B _ hK hB h0 h1 h2).mono ?_
  rintro e w1 ⟨⟨b, rfl, hb⟩, rfl⟩
  cases b with
  | true =>
    go_wp2_with fail
    go_ret
    exact ⟨rfl, Kp.refl _ _⟩
  | false =>
  have hn := hb rfl
  clear hb h0 h1 h2
  by_cases g1 : n1 = n
  case neg =>
    have d1 : ((n1 : Int) != (n : Int)) = true := by simp; omega
    go_wp2_with fail
    go_ret
    exact ⟨rfl, Kp.refl _ _⟩
  by_cases g2 : n2 = n
  case neg =>
    have d1 : ((n1 : Int) == (n : Int)) = true := by simp; omega
    have d2 : ((n2 : Int) != (n : Int)) = true := by simp; omega
    subst g1
    go_wp2_with fail
    go_ret
    exact ⟨rfl, Kp.refl _ _⟩
  subst g1
  obtain rfl := g2
  by_cases g3 : cut < 0
  case pos =>
    go_wp2_with fail
    go_ret
    exact ⟨rfl, Kp.refl _ _⟩
  obtain ⟨c, rfl⟩ : ∃ c : Nat, cut = c := ⟨cut.toNat, by omega⟩
  by_cases g4 : (n2 : Int) < c
  case pos =>
    go_wp2_with fail
    go_ret
    exact ⟨rfl, Kp.refl _ _⟩
  have hc : c ≤ n2 := by omega
  go_wp2_with fail
  refine (events_any a0 a1 a2 n2 c0 c1 c2 Ks V B _ hK hV hB hn).mono ?_
  rintro e w2 ⟨rfl, hev, hk2⟩
  go_wp2_with fail
  refine (zz_any _ n2 n2 Ks V B _ hn hev hks).mono ?_
  rintro e w3 ⟨kb, vb, db, rfl, ho⟩
  have hk3 := hk2.trans ho.kept
  have hev3 := hev.later ho.kept
  clear hev hk2
  have hcn : (c : Int) ≤ n2 := by omega
  go_wp2_with fail
  refine (zz_any _ c n2 Ks V B _ (by omega) (hev3.head hc) (fun i hi => hks i (by omega))).mono ?_
  rintro e w4 ⟨ka, va, da, rfl, hoA⟩
  have hk4 := hk3.trans hoA.kept
  have hev4 := hev3.later hoA.kept
  clear hev3
  go_upto_region 12 with fail
  go_cut [18, 19, 20] (fun x y z wx => ∃ kB vB dB, x = .slice (some ⟨kB, 0, none⟩) (firsts (qOf (sh Ks c)) (n2 - c)).length (n2 - c) ∧ y = .slice (some ⟨vB, 0, none⟩) (firsts (qOf (sh Ks c)) (n2 - c)).length (n2 - c) ∧ z = .slice (some ⟨dB, 0, none⟩) (firsts (qOf (sh Ks c)) (n2 - c)).length (n2 - c) ∧ Out w4 wx kB vB dB (n2 - c) (sh Ks c) (sh V c) (sh B c))
  case first =>
    by_cases e : c = n2
    · subst e
      go_wp2_with fail
      refine (zz_any _ 0 0 (sh Ks c) (sh V c) (sh B c) _ (by omega) (fun i hi => by omega) (fun i hi => by omega)).mono ?_
      rintro e w5 ⟨kB, vB, dB, rfl, hoB⟩
      go_wp2_with fail
      go_meet
      case rel => simp only [Nat.sub_self]; exact ⟨kB, vB, dB, rfl, rfl, rfl, hoB⟩
    · have hlt : c < n2 := by omega
      have hne : ¬ n2 = c := by omega
      go_wp2_with fail
      refine (zz_any _ (n2 - c) (n2 - c) (sh Ks c) (sh V c) (sh B c) _ (by omega) (hev4.tail hc (fun _ => rfl)) (fun i hi => hks _ (by omega))).mono ?_
      rintro e w5 ⟨kB, vB, dB, rfl, hoB⟩
      go_wp2_with fail
      go_meet
      case rel => exact ⟨kB, vB, dB, rfl, rfl, rfl, hoB⟩
  case rest =>
  obtain ⟨kB, vB, dB, rfl, rfl, rfl, hoB⟩ := hcut
  have hk5 := hk4.trans hoB.kept
  have hlen : la (qOf Ks) c + lb (qOf Ks) c n2 ≤ n2 := parts_le hc
  obtain ⟨A, hA⟩ : ∃ A, A = la (qOf Ks) c := ⟨_, rfl⟩
  obtain ⟨L, hL⟩ : ∃ L, L = lb (qOf Ks) c n2 := ⟨_, rfl⟩
  have hlb : (firsts (qOf (sh Ks c)) (n2 - c)).length = L := hL.symm
  have hla : (firsts (qOf Ks) c).length = A := hA.symm
  have hAc : A ≤ c := by rw [← hla]; exact firsts_len_le c
  have hLc : L ≤ n2 - c := by rw [← hlb]; exact firsts_len_le (n2 - c)
  rw [← hA, ← hL] at hlen
  rw [hlb, hla]
  have HA : Hid (A = la (qOf Ks) c) := hA
  have HL : Hid (L = lb (qOf Ks) c n2) := hL
  clear hA hL hla hlb
  have hm22 : ∀ W : World, (Instr.makeSlice 22 (.int .i64 0) (.int .i64 ((A : Int) + (L : Int)))).run Try.prog W = .ok (.slice (some ⟨W.heap.size, 0, none⟩) 0 (A + L)) (W.alloc (.cells (madeCells #[.string ByteArray.empty] (A + L)) 9)) := fun W => by rw [← Int.natCast_add]; exact make0 22 9 _ _ Try.underlying22 Try.info9 rfl (by omega) (A + L) (by omega) W
  have hm23 : ∀ W : World, (Instr.makeSlice 23 (.int .i64 0) (.int .i64 ((A : Int) + (L : Int)))).run Try.prog W = .ok (.slice (some ⟨W.heap.size, 0, none⟩) 0 (A + L)) (W.alloc (.cells (madeCells #[.int .i64 0] (A + L)) 2)) := fun W => by rw [← Int.natCast_add]; exact make0 23 2 _ _ Try.underlying23 Try.info2 rfl (by omega) (A + L) (by omega) W
  have hKp := ((((Kp.refl [] wc).alloc (.cells (madeCells #[.string ByteArray.empty] (A + L)) 9)).alloc (.cells (madeCells #[.int .i64 0] (A + L)) 2)).alloc (.cells (madeCells #[.string ByteArray.empty] (A + L)) 9))
  have e1 : (((wc.alloc (.cells (madeCells #[.string ByteArray.empty] (A + L)) 9)).alloc (.cells (madeCells #[.int .i64 0] (A + L)) 2)).alloc (.cells (madeCells #[.string ByteArray.empty] (A + L)) 9)).rowIs wc.heap.size 9 (A + L) (fun _ => .string ByteArray.empty) := row_made (blk_alloc_old (blk_alloc_old (heap_alloc_last _ _)))
  have e2 : (((wc.alloc (.cells (madeCells #[.string ByteArray.empty] (A + L)) 9)).alloc (.cells (madeCells #[.int .i64 0] (A + L)) 2)).alloc (.cells (madeCells #[.string ByteArray.empty] (A + L)) 9)).rowIs (wc.heap.size + 1) 2 (A + L) (fun _ => .int .i64 0) := row_made (by have := heap_alloc_last (wc.alloc (.cells (madeCells #[.string ByteArray.empty] (A + L)) 9)) (.cells (madeCells #[.int .i64 0] (A + L)) 2); simp only [World.size_alloc] at this; exact blk_alloc_old this)
  have e3 : (((wc.alloc (.cells (madeCells #[.string ByteArray.empty] (A + L)) 9)).alloc (.cells (madeCells #[.int .i64 0] (A + L)) 2)).alloc (.cells (madeCells #[.string ByteArray.empty] (A + L)) 9)).rowIs (wc.heap.size + 1 + 1) 9 (A + L) (fun _ => .string ByteArray.empty) := row_made (by have := heap_alloc_last ((wc.alloc (.cells (madeCells #[.string ByteArray.empty] (A + L)) 9)).alloc (.cells (madeCells #[.int .i64 0] (A + L)) 2)) (.cells (madeCells #[.string ByteArray.empty] (A + L)) 9); simp only [World.size_alloc] at this; exact this)
  have sz : ∀ (W : World) (o : Obj), (W.alloc o).heap.size = W.heap.size + 1 := fun W o => by simp
  go_wp2_with (first
    | (at_builtin; refine wpList_append_row _ rfl (.tmp 144) (.tmp 145) 22 rfl 9 _ _ Try.underlying22 Try.info9 wc.heap.size 0 (A + L) _ rfl e1 ka A (c) (fun p => .string (keyStr Ks (qOf Ks) c p)) rfl (fun j hj => (hKp.row (hoB.kept.row hoA.kr (by simp)) (by simp)).cell (by omega)) (fun _ => rfl) (by omega) ?_; intro w7 r7 k7; have q7 := hKp.andThen k7 (by simp <;> omega))
    | (at_builtin; refine wpList_append_row _ rfl (.tmp 147) (.tmp 148) 22 rfl 9 _ _ Try.underlying22 Try.info9 wc.heap.size A (A + L) _ rfl r7 kB L (n2 - c) (fun p => .string (keyStr (sh Ks c) (qOf (sh Ks c)) (n2 - c) p)) rfl (fun j hj => (q7.row (hoB.kr) (by simp)).cell (by omega)) (fun _ => rfl) (by omega) ?_; intro w8 r8 k8; have q8 := q7.andThen k8 (by simp <;> omega))
    | (at_builtin; refine wpList_append_row _ rfl (.tmp 150) (.tmp 151) 23 rfl 2 _ _ Try.underlying23 Try.info2 (wc.heap.size + 1) 0 (A + L) _ rfl (k8.row (k7.row e2 (by simp)) (by simp)) va A (c) (fun p => .int .i64 (verNum (qOf Ks) V c p)) rfl (fun j hj => (q8.row (hoB.kept.row hoA.vr (by simp)) (by simp)).cell (by omega)) (fun _ => rfl) (by omega) ?_; intro w9 r9 k9; have q9 := q8.andThen k9 (by simp <;> omega))
    | (at_builtin; refine wpList_append_row _ rfl (.tmp 153) (.tmp 154) 23 rfl 2 _ _ Try.underlying23 Try.info2 (wc.heap.size + 1) A (A + L) _ rfl r9 vB L (n2 - c) (fun p => .int .i64 (verNum (qOf (sh Ks c)) (sh V c) (n2 - c) p)) rfl (fun j hj => (q9.row (hoB.vr) (by simp)).cell (by omega)) (fun _ => rfl) (by omega) ?_; intro w10 r10 k10; have q10 := q9.andThen k10 (by simp <;> omega))
    | (at_builtin; refine wpList_append_row _ rfl (.tmp 156) (.tmp 157) 22 rfl 9 _ _ Try.underlying22 Try.info9 (wc.heap.size + 1 + 1) 0 (A + L) _ rfl (k10.row (k9.row (k8.row (k7.row e3 (by simp <;> omega)) (by simp <;> omega)) (by simp <;> omega)) (by simp <;> omega)) da A (c) (fun p => .string (datStr (qOf Ks) V B c p)) rfl (fun j hj => (q10.row (hoB.kept.row hoA.dr (by simp)) (by simp)).cell (by omega)) (fun _ => rfl) (by omega) ?_; intro w11 r11 k11; have q11 := q10.andThen k11 (by simp <;> omega))
    | (at_builtin; refine wpList_append_row _ rfl (.tmp 159) (.tmp 160) 22 rfl 9 _ _ Try.underlying22 Try.info9 (wc.heap.size + 1 + 1) A (A + L) _ rfl r11 dB L (n2 - c) (fun p => .string (datStr (qOf (sh Ks c)) (sh V c) (sh B c) (n2 - c) p)) rfl (fun j hj => (q11.row (hoB.dr) (by simp)).cell (by omega)) (fun _ => rfl) (by omega) ?_; intro w12 r12 k12; have q12 := q11.andThen k12 (by simp <;> omega)))
  have mK : Strs w12 (some ⟨wc.heap.size, 0, none⟩) (A + L) (Km Ks c n2) := Strs.merged (h1 := keyStr Ks (qOf Ks) c) (h2 := keyStr (sh Ks c) (qOf (sh Ks c)) (n2 - c)) (f := fun _ => .string ByteArray.empty) (k12.row (k11.row (k10.row (k9.row r8 (by simp)) (by simp)) (by simp <;> omega)) (by simp <;> omega)) (Nat.le_refl _) (fun j hj => by rw [Km_left HA.out hj]) (fun j hj => by rw [Km_right HA.out])
  have mV : Nums w12 (some ⟨wc.heap.size + 1, 0, none⟩) (A + L) (Vm Ks V c n2) := Nums.merged (h1 := verNum (qOf Ks) V c) (h2 := verNum (qOf (sh Ks c)) (sh V c) (n2 - c)) (f := fun _ => .int .i64 0) (k12.row (k11.row r10 (by simp <;> omega)) (by simp <;> omega)) (Nat.le_refl _) (fun j hj => by rw [Vm_left HA.out hj]) (fun j hj => by rw [Vm_right HA.out])
  have mD : Strs w12 (some ⟨wc.heap.size + 1 + 1, 0, none⟩) (A + L) (Bm Ks V B c n2) := Strs.merged (h1 := datStr (qOf Ks) V B c) (h2 := datStr (qOf (sh Ks c)) (sh V c) (sh B c) (n2 - c)) (f := fun _ => .string ByteArray.empty) r12 (Nat.le_refl _) (fun j hj => by rw [Bm_left HA.out hj]) (fun j hj => by rw [Bm_right HA.out])
  have hk12 := hk5.trans q12
  have hAL : A + L = la (qOf Ks) c + lb (qOf Ks) c n2 := by rw [← HA.out, ← HL.out]
  obtain ⟨lenC, colC, empC⟩ := cols_law (V := V) (B := B) hc (A + L) hAL
  have hkm := Km_size hc hks
  rw [← hAL] at hkm
  have hk3' := hoA.kept.trans (hoB.kept.trans q12)
  clear r7 r8 r9 r10 r11 r12 k7 k8 k9 k10 k11 k12 q7 q8 q9 q10 q11 q12 e1 e2 e3 hKp hm22 hm23 hoA hoB hev4 hk4 hk5 sz HA HL hAL hAc hLc
  refine (eventsS_any _ _ _ (A + L) _ (A + L) _ (A + L) _ (Km Ks c n2) (Vm Ks V c n2) (Bm Ks V B c n2) _ mK mV mD (by omega) rfl rfl).mono ?_
  rintro e w13 ⟨rfl, hev13, hk13⟩
  clear mK mV mD
  go_wp2_with fail
  refine (zz_any _ (A + L) (A + L) (Km Ks c n2) (Vm Ks V c n2) (Bm Ks V B c n2) _ (by omega) hev13 hkm).mono ?_
  rintro e w14 ⟨kc, vc, dc, rfl, hoC⟩
  rw [lenC, empC]
  have hk14 := hk12.trans (hk13.trans hoC.kept)
  have hk34 := hk3'.trans (hk13.trans hoC.kept)
  have hK14 := hK.later hk14
  have wkr := hk34.row ho.kr (by simp)
  have wvr := hk34.row ho.vr (by simp)
  have wdr := hk34.row ho.dr (by simp)
  have ckr := hoC.kr
  have cvr := hoC.vr
  have cdr := hoC.dr
  clear hoC ho hk34 hk3' hk13 hev13 hkm empC hK hV hB hk12 hk3
  have hM : (firsts (qOf Ks) n2).length ≤ n2 := firsts_len_le n2
  have hMm : (firsts (qOf Ks) n2).length ≤ A + L := by rw [← lenC]; exact firsts_len_le _
  clear lenC
  go_wp2_with fail
  go_loopg [30, 31] n2 (fun g m i wr => ∃ t : Nat, t + g = n2 ∧ i = .int .i64 t ∧ m = .int .i64 (firsts (qOf Ks) t).length ∧ Kp [] w14 wr)
  case atStart => exact ⟨0, by omega, rfl, rfl, Kp.refl _ _⟩
  case round =>
    obtain ⟨t, htg, rfl, rfl, hkr⟩ := hrel
    have HT : Hid (t + gk = n2) := htg
    clear htg
    have hmt : (firsts (qOf Ks) t).length ≤ n2 := Nat.le_trans (firsts_len_le t) (by have := HT.out; omega)
    by_cases hlt : t < n2
    · have htn : (t : Int) < n2 := by omega
      cases hf : isFirst (qOf Ks) t with
      | false =>
        have HL : Hid (firsts (qOf Ks) (t + 1) = firsts (qOf Ks) t) := len_succ_not hf
        go_wp2_with fail
        refine (first_any a0 n2 c0 t Ks _ (hK14.later hkr) hlt hn).mono ?_
        rintro e w15 ⟨rfl, hk15⟩
        rw [hf]
        have hkr2 := hkr.trans hk15
        clear hk15
        go_wp2_with fail
        go_roundg (gk - 1)
        case measure => have := HT.out; omega
        case rel => exact ⟨t + 1, by have := HT.out; omega, by go_num, by rw [HL.out], hkr2⟩
      | true =>
        have HL : Hid ((firsts (qOf Ks) (t + 1)).length = (firsts (qOf Ks) t).length + 1) := len_succ_first hf
        obtain ⟨x1, x2⟩ := fst_at hlt hf
        have x3 : keyStr Ks (qOf Ks) n2 (firsts (qOf Ks) t).length = Ks t := by rw [keyStr, if_pos x1, x2]
        clear x2
        go_wp2_with fail
        refine (first_any a0 n2 c0 t Ks _ (hK14.later hkr) hlt hn).mono ?_
        rintro e w15 ⟨rfl, hk15⟩
        rw [hf]
        have hkr2 := hkr.trans hk15
        clear hk15 hkr
        obtain ⟨b0, o0, rfl, hc0⟩ := (hK14.later hkr2) t hlt
        have hkc := (hkr2.row wkr (by simp)).cell (i := (firsts (qOf Ks) t).length) (by omega)
        rw [x3] at hkc
        have hmM : ((firsts (qOf Ks) t).length : Int) < ((firsts (qOf Ks) n2).length : Int) := by omega
        clear x3
        go_wp2
        go_quiet (fail)
        go_wp2
        go_roundg (gk - 1)
        case measure => have := HT.out; omega
        case rel => exact ⟨t + 1, by have := HT.out; omega, by go_num, by rw [HL.out]; go_num, hkr2.drewN _⟩
    · obtain rfl : t = n2 := by have := HT.out; omega
      clear HT
      go_wp2
      go_loopg [32] (firsts (qOf Ks) t).length (fun g i wx => ∃ q : Nat, q + g = (firsts (qOf Ks) t).length ∧ i = .int .i64 q ∧ Kp [] w14 wx)
      case atStart => exact ⟨0, by omega, rfl, hkr⟩
      case round =>
        clear hkr
        obtain ⟨q, hqg, rfl, hkx⟩ := hrel
        have HQ : Hid (q + gk = (firsts (qOf Ks) t).length) := hqg
        clear hqg
        by_cases hq : q < (firsts (qOf Ks) t).length
        · obtain ⟨y1, y2, y3⟩ := colC q hq
          have lenC := Nat.le_trans hM (Nat.le_refl t)
          have hqM : (q : Int) < ((firsts (qOf Ks) t).length : Int) := by omega
          have p1 := (hkx.row wkr (by simp)).cell (i := q) (by omega)
          have p2 := (hkx.row wvr (by simp)).cell (i := q) (by omega)
          have p3 := (hkx.row wdr (by simp)).cell (i := q) (by omega)
          have p4 := (hkx.row ckr (by simp)).cell (i := q) (by omega)
          have p5 := (hkx.row cvr (by simp)).cell (i := q) (by omega)
          have p6 := (hkx.row cdr (by simp)).cell (i := q) (by omega)
          rw [y1] at p4
          rw [y2] at p5
          rw [y3] at p6
          clear y1 y2 y3
          go_wp2
          go_quiet (fail)
          go_wp2
          go_roundg (gk - 1)
          case measure => have := HQ.out; omega
          case rel => exact ⟨q + 1, by have := HQ.out; omega, by go_num, hkx.drewN _⟩
        · obtain rfl : q = (firsts (qOf Ks) t).length := by have := HQ.out; omega
          clear HQ
          go_wp2
          go_ret
          exact ⟨rfl, hk14.trans hkx⟩

end Go.Proofs.Qxb6616066a
