import Derived.Test.Qxb6616066aEvents
namespace Go.Proofs.Qxb6616066a
open Go.RowKit

theorem empty_iff (s : ByteArray) : s.toList.isEmpty = ((s.size : Int) == 0) := by
  rw [ByteArray.toList_eq]
  have : s.size = s.data.toList.length := by rw [Array.length_toList]; rfl
  rw [this]
  cases s.data.toList with
  | nil => rfl
  | cons x r =>
    have : ¬ (((x :: r).length : Int) = 0) := by simp; omega
    simp only [List.isEmpty_cons]
    symm
    simpa using this

/-- At a first event: what the columns hold at its place. -/
theorem at_first {Ks : Nat → ByteArray} {V : Nat → Int} {B : Nat → ByteArray} {n t : Nat} (ht : t < n) (hf : isFirst (qOf Ks) t = true) :
    (firsts (qOf Ks) t).length < (firsts (qOf Ks) n).length ∧ keyStr Ks (qOf Ks) n (firsts (qOf Ks) t).length = Ks t ∧ verNum (qOf Ks) V n (firsts (qOf Ks) t).length = V (win (qOf Ks) V t n) ∧ datStr (qOf Ks) V B n (firsts (qOf Ks) t).length = B (win (qOf Ks) V t n) := by
  obtain ⟨h1, h2⟩ := fst_at ht hf
  refine ⟨h1, ?_, ?_, ?_⟩
  · rw [keyStr, if_pos h1, h2]
  · rw [verNum, if_pos h1, h2]
  · rw [datStr, if_pos h1, h2]

set_option maxRecDepth 100000 in
set_option maxHeartbeats 2000000 in
theorem model_any (a0 a1 a2 : Option Addr) (n c0 n1 c1 n2 c2 : Nat) (Ks : Nat → ByteArray) (V : Nat → Int) (B : Nat → ByteArray) (w : World) (hK : Strs w a0 n Ks) (hV : Nums w a1 n1 V) (hB : Rws w a2 n2 B) (h0 : n ≤ maxLen) (h1 : n1 ≤ maxLen) (h2 : n2 ≤ maxLen) (hks : ∀ i, i < n → (Ks i).size ≤ maxLen) :
    Calls Try.prog 3 #[.slice a0 n c0, .slice a1 n1 c1, .slice a2 n2 c2] w fun e w' => e = .returned (.bool true) ∧ Kp [] w w' := by
  go_enter Try.func3, Try.ntmps3
  go_wp2_with fail
  refine (bytes_any a0 a1 a2 n c0 n1 c1 n2 c2 Ks B _ hK hB h0 h1 h2).mono ?_
  rintro e w' ⟨⟨b, rfl⟩, rfl⟩
  cases b with
  | false =>
    go_wp2_with fail
    go_ret
    exact ⟨rfl, Kp.refl _ _⟩
  | true =>
  go_wp2_with fail
  refine (big_any a0 a1 a2 n c0 n1 c1 n2 c2 Ks B _ hK hB h0 h1 h2).mono ?_
  rintro e w1 ⟨⟨b, rfl, hb⟩, rfl⟩
  cases b with
  | true =>
    go_wp2_with fail
    go_ret
    exact ⟨rfl, Kp.refl _ _⟩
  | false =>
  have hn := hb rfl
  clear hb h0 h1 h2
  by_cases g1 : n1 = n
  · by_cases g2 : n2 = n
    · subst g1
      obtain rfl := g2
      go_wp2_with fail
      refine (events_any a0 a1 a2 n2 c0 c1 c2 Ks V B _ hK hV hB hn).mono ?_
      rintro e w2 ⟨rfl, hev, hk2⟩
      go_wp2_with fail
      refine (zz_any _ n2 n2 Ks V B _ hn hev hks).mono ?_
      rintro e w3 ⟨kb, vb, db, rfl, ho⟩
      have hk3 := hk2.trans ho.kept
      have hM : (firsts (qOf Ks) n2).length ≤ n2 := firsts_len_le n2
      have hK3 := hK.later hk3
      have hV3 := hV.later hk3
      have hB3 := hB.later hk3
      clear hev hk2 hK hV hB
      go_wp2_with fail
      go_loopg [13, 14, 15] n2 (fun g m r i wr => ∃ t : Nat, t + g = n2 ∧ i = .int .i64 t ∧ m = .int .i64 (firsts (qOf Ks) t).length ∧ r = .int .i64 (empties (datStr (qOf Ks) V B n2) (firsts (qOf Ks) t).length) ∧ Kp [] w3 wr)
      case atStart => exact ⟨0, by omega, rfl, rfl, rfl, Kp.refl _ _⟩
      case round =>
        obtain ⟨t, htg, rfl, rfl, rfl, hkr⟩ := hrel
        have HT : Hid (t + gk = n2) := htg
        clear htg
        have hmt : (firsts (qOf Ks) t).length ≤ n2 := Nat.le_trans (firsts_len_le t) (by have := HT.out; omega)
        have het := empties_le (datStr (qOf Ks) V B n2) (firsts (qOf Ks) t).length
        by_cases hlt : t < n2
        · cases hf : isFirst (qOf Ks) t with
          | false =>
            have HL : Hid (firsts (qOf Ks) (t + 1) = firsts (qOf Ks) t) := len_succ_not hf
            go_wp2_with fail
            refine (first_any a0 n2 c0 t Ks _ (hK3.later hkr) hlt hn).mono ?_
            rintro e w4 ⟨rfl, hk4⟩
            rw [hf]
            have hk5 := hkr.trans hk4
            clear hk4
            go_wp2_with fail
            go_roundg (gk - 1)
            case measure => have := HT.out; omega
            case rel => exact ⟨t + 1, by have := HT.out; omega, by go_num, by rw [HL.out], by rw [HL.out], hk5⟩
          | true =>
            go_wp2_with fail
            refine (first_any a0 n2 c0 t Ks _ (hK3.later hkr) hlt hn).mono ?_
            rintro e w4 ⟨rfl, hk4⟩
            rw [hf]
            have hk5 := hkr.trans hk4
            clear hk4 hkr
            obtain ⟨b1, o1, rfl, ev⟩ := (hV3.later hk5) t hlt
            have hkn : (t : Int) < n2 := by omega
            have HV0 : Hid (V t = V (win (qOf Ks) V t (t + 1))) := by rw [Hid, win_before hf (Nat.le_refl _)]
            go_wp2_with fail
            go_loopg [16, 17] (n2 - (t + 1)) (fun g b k wx => ∃ j : Nat, j + g = n2 ∧ k = .int .i64 j ∧ b = .int .i64 (V (win (qOf Ks) V t j)) ∧ Kp [] w3 wx)
            case atStart => exact ⟨t + 1, by omega, by go_num, by rw [← HV0.out], hk5⟩
            case round =>
              clear hk5 ev HV0
              obtain ⟨j, hjg, rfl, rfl, hkx⟩ := hrel
              have HJ : Hid (j + gk = n2) := hjg
              clear hjg
              obtain ⟨b0, o0, rfl, k1⟩ := (hK3.later hkx) t hlt
              by_cases hj : j < n2
              · have hjn : (j : Int) < n2 := by omega
                obtain ⟨b0', o0', e', k2⟩ := (hK3.later hkx) j hj
                cases e'
                obtain ⟨b1', o1', e', v2⟩ := (hV3.later hkx) j hj
                cases e'
                cases hq : ((Ks j).toList == (Ks t).toList) with
                | false =>
                  have HW : Hid (win (qOf Ks) V t (j + 1) = win (qOf Ks) V t j) := win_miss (fun h => by have := h.1; simp only [qOf] at this; rw [hq] at this; cases this)
                  go_wp2
                  go_quiet (fail)
                  go_wp2
                  go_roundg (gk - 1)
                  case measure => have := HJ.out; omega
                  case rel => exact ⟨j + 1, by have := HJ.out; omega, by go_num, by rw [HW.out], hkx.drewN _⟩
                | true =>
                  by_cases hv : V (win (qOf Ks) V t j) < V j
                  · have HW : Hid (win (qOf Ks) V t (j + 1) = j) := win_hit hq hv
                    go_wp2
                    go_quiet (fail)
                    go_wp2
                    go_roundg (gk - 1)
                    case measure => have := HJ.out; omega
                    case rel => exact ⟨j + 1, by have := HJ.out; omega, by go_num, by rw [HW.out], hkx.drewN _⟩
                  · have HW : Hid (win (qOf Ks) V t (j + 1) = win (qOf Ks) V t j) := win_miss (fun h => hv h.2)
                    go_wp2
                    go_quiet (fail)
                    go_wp2
                    go_roundg (gk - 1)
                    case measure => have := HJ.out; omega
                    case rel => exact ⟨j + 1, by have := HJ.out; omega, by go_num, by rw [HW.out], hkx.drewN _⟩
              · obtain rfl : j = n2 := by have := HJ.out; omega
                clear HJ
                obtain ⟨x1, x2, x3, x4⟩ := at_first (Ks := Ks) (V := V) (B := B) hlt hf
                obtain ⟨y1, y2, y3, y4, y5⟩ := win_spec (Q := qOf Ks) (V := V) hf hlt
                have HE := empties_succ (datStr (qOf Ks) V B j) (firsts (qOf Ks) t).length
                rw [x4] at HE
                have HEe : Hid (empties (datStr (qOf Ks) V B j) ((firsts (qOf Ks) t).length + 1) = empties (datStr (qOf Ks) V B j) (firsts (qOf Ks) t).length + if (B (win (qOf Ks) V t j)).toList.isEmpty = true then 1 else 0) := HE
                have HL : Hid ((firsts (qOf Ks) (t + 1)).length = (firsts (qOf Ks) t).length + 1) := len_succ_first hf
                clear HE
                generalize win (qOf Ks) V t j = W at *
                have Y5 : Hid (∀ i, i < W → qOf Ks i = qOf Ks t → V i < V W) := y5
                have Y3 : Hid (qOf Ks W = qOf Ks t) := y3
                clear y3 y4 y5
                go_wp2
                go_loopg [18, 19] (W - t) (fun g u q wx => ∃ i : Nat, i + g = W ∧ t ≤ i ∧ q = .int .i64 i ∧ u = .int .i64 t ∧ Kp [] w3 wx)
                case atStart => exact ⟨t, by omega, Nat.le_refl _, rfl, rfl, hkx⟩
                case round =>
                  clear hkx k1
                  obtain ⟨i, hig, hti, rfl, rfl, hky⟩ := hrel
                  have HI : Hid (i + gk = W) := hig
                  have hiW : i ≤ W := by omega
                  clear hig
                  have hij : (i : Int) < j := by omega
                  obtain ⟨b0', o0', e', k1⟩ := (hK3.later hky) t hlt
                  cases e'
                  obtain ⟨b0', o0', e', k2⟩ := (hK3.later hky) i (by omega)
                  cases e'
                  obtain ⟨b1', o1', e', v2⟩ := (hV3.later hky) i (by omega)
                  cases e'
                  by_cases hW : i = W
                  · subst hW
                    have hq : ((Ks i).toList == (Ks t).toList) = true := by have := Y3.out; simpa [qOf] using this
                    obtain ⟨b2, o2, rfl, x, l, cp, d1, d2⟩ := (hB3.later hky) i (by omega)
                    have hsz := d2.size
                    have hkc := (hky.row ho.kr (by simp)).cell (i := (firsts (qOf Ks) t).length) (by omega)
                    have hvc := (hky.row ho.vr (by simp)).cell (i := (firsts (qOf Ks) t).length) (by omega)
                    have hdc := (hky.row ho.dr (by simp)).cell (i := (firsts (qOf Ks) t).length) (by omega)
                    simp only [x2, x3, x4] at hkc hvc hdc
                    have hmM : ((firsts (qOf Ks) t).length : Int) < ((firsts (qOf Ks) j).length : Int) := by omega
                    have hcv : ∀ nq, (convert 31 9 (.slice x l cp)).run Try.prog (wr.drewN nq) = .ok (.string (B i)) (wr.drewN nq) := fun nq => (d2.later ((Kp.refl [] wr).drewN nq)).conv cp 31 Try.underlying31
                    have hei := empty_iff (B i)
                    rw [hsz] at hei
                    clear x1 x2 x3 x4 y1 y2 d2 hsz
                    have HEI : Hid ((B i).toList.isEmpty = ((l : Int) == 0)) := hei
                    clear hei
                    go_wp2
                    go_quiet (fail)
                    go_wp2_with fail
                    go_quiet (fail)
                    go_wp2
                    · rename_i hz
                      have hE0 : (if (B i).toList.isEmpty = true then 1 else 0) = 1 := by rw [HEI.out, if_pos hz]
                      go_roundg (j - (t + 1))
                      case measure => have := HT.out; omega
                      case rel => exact ⟨t + 1, by omega, by go_num, by rw [HL.out]; go_num, by rw [HL.out, HEe.out, hE0]; go_num, hky.drewN _⟩
                    · rename_i hz
                      have hE0 : (if (B i).toList.isEmpty = true then 1 else 0) = 0 := by rw [HEI.out, if_neg (by rw [hz]; simp)]
                      go_roundg (j - (t + 1))
                      case measure => have := HT.out; omega
                      case rel => exact ⟨t + 1, by omega, by go_num, by rw [HL.out]; go_num, by rw [HL.out, HEe.out, hE0]; rfl, hky.drewN _⟩
                  · cases hq : ((Ks i).toList == (Ks t).toList) with
                    | false =>
                      go_wp2
                      go_quiet (fail)
                      go_wp2
                      go_roundg (gk - 1)
                      case measure => have := HI.out; omega
                      case rel => exact ⟨i + 1, by have := HI.out; omega, by omega, by go_num, rfl, hky.drewN _⟩
                    | true =>
                      have hvv : (V i == V W) = false := by
                        have := Y5.out i (by omega) (by simpa [qOf] using hq)
                        simp; omega
                      go_wp2
                      go_quiet (fail)
                      go_wp2
                      go_roundg (gk - 1)
                      case measure => have := HI.out; omega
                      case rel => exact ⟨i + 1, by have := HI.out; omega, by omega, by go_num, rfl, hky.drewN _⟩
        · obtain rfl : t = n2 := by have := HT.out; omega
          clear HT
          go_wp2
          go_ret
          exact ⟨rfl, hk3.trans hkr⟩
    · have d1 : ((n1 : Int) == (n : Int)) = true := by simp; omega
      have d2 : ((n2 : Int) != (n : Int)) = true := by simp; omega
      subst g1
      go_wp2_with fail
      go_ret
      exact ⟨rfl, Kp.refl _ _⟩
  · have d1 : ((n1 : Int) != (n : Int)) = true := by simp; omega
    go_wp2_with fail
    go_ret
    exact ⟨rfl, Kp.refl _ _⟩

end Go.Proofs.Qxb6616066a
