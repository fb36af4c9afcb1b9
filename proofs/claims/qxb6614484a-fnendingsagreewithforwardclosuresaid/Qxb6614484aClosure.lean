import Derived.Test.Qxb6614484aClos
namespace Go.Proofs.Qxb6614484a
open Go.RowKit

theorem Hid.mk' {P : Prop} (h : P) : Hid P := h
/-- The states of a list; the links of the rows. -/
def Fr (l : Nat) (f : Nat → Int) (x : Nat) : Prop := ∃ i, i < l ∧ f i = (x : Int)
def Ed (n : Nat) (len : Nat → Nat) (el : Nat → Nat → Int) (x y : Nat) : Prop := x < n ∧ ∃ i, i < len x ∧ el x i = (y : Int)

set_option maxRecDepth 100000 in
set_option maxHeartbeats 1000000 in
/-- closure. -/
theorem closure_any (f : FuncId) (p : Value) (n fl fc : Nat) (fa : Option Addr) (Fe : Nat → Int) (len : Nat → Nat) (el : Nat → Nat → Int) (w : World) (hn : n ≤ 65536) (hfl : fl ≤ 1048576) (hF : Ints w fa fl Fe) (hFn : ∀ i, i < fl → 0 ≤ Fe i ∧ Fe i < n) (hEn : ∀ q, q < n → len q ≤ maxLen ∧ ∀ i, i < len q → 0 ≤ el q i ∧ el q i < n)
    (hin : ∀ args W, (callFunc f args).run Try.prog W = .ok (.enter f args) W)
    (hcall : ∀ W, Kp [] w W → ∀ q : Nat, q < n → Calls Try.prog f #[.int .i64 q, p] W fun e W' => W' = W ∧ ∃ x cp, e = .returned (.slice x (len q) cp) ∧ Ints w x (len q) (el q)) :
    Calls Try.prog 20 #[.int .i64 n, .slice fa fl fc, .func (.func f) #[] #[p]] w fun e w' => ∃ R : Nat → Bool, e = .returned (.slice (some ⟨w.heap.size, 0, none⟩) n n) ∧ w'.rowIs w.heap.size 4 n (fun q => .bool (R q)) ∧ Kp [] w w' ∧ ∀ q, R q = true ↔ Cl (Fr fl Fe) (Ed n len el) q := by
  have hm1 : ∀ W : World, (Instr.makeSlice 24 (.int .i64 (n : Int)) (.int .i64 (n : Int))).run Try.prog W = .ok (.slice (some ⟨W.heap.size, 0, none⟩) n n) (W.alloc (.cells (madeCells #[.bool false] n) 4)) := make1 24 4 _ _ Try.underlying24 Try.info4 rfl (by omega) n n (Nat.le_refl _) (by omega)
  have hm2 : ∀ W : World, (Instr.makeSlice 22 (.int .i64 0) (.int .i64 (fl : Int))).run Try.prog W = .ok (.slice (some ⟨W.heap.size, 0, none⟩) 0 fl) (W.alloc (.cells (madeCells #[.int .i64 0] fl) 3)) := make1 22 3 _ _ Try.underlying22 Try.info3 rfl (by omega) 0 fl (Nat.zero_le _) (by omega)
  have h0 : Cs w n (fun _ => false) (w.heap.size + 1) fl [] ((w.alloc (.cells (madeCells #[.bool false] n) 4)).alloc (.cells (madeCells #[.int .i64 0] fl) 3)) := by
    refine ⟨row_made (blk_alloc_old (heap_alloc_last _ _)), ?_, ((Kp.refl _ _).alloc _).alloc _⟩
    have := World.ownsRow_made (base := w.heap.size + 1) (e := 3) (size := 1) (w.alloc (.cells (madeCells #[.bool false] n) 4)) (madeCells #[.int .i64 0] fl) fl (by simp) (by unfold maxLen; omega) (by simp [size_madeCells])
    rw [World.size_alloc] at this
    exact this
  go_enter Try.func20, Try.ntmps20
  go_wp2
  go_loopg [8, 21] fl (fun gh todo idx wr => ∃ (j : Nat) (I : Nat → Bool) (g cap : Nat) (T : List Nat), j + gh = fl ∧ idx = .int .i64 j ∧ todo = .slice (some ⟨g, 0, none⟩) T.length cap ∧ Cs w n I g cap T wr ∧ Inv n (Fr fl Fe) (Ed n len el) I T ∧ (∀ i, i < j → ∀ x : Nat, Fe i = x → I x = true) ∧ ∀ x, I x = true → x ∈ T)
  case atStart => exact ⟨0, _, _, _, [], by omega, rfl, rfl, h0, Inv.start, (fun i hi => by omega), fun x hx => by cases hx⟩
  case round =>
    clear h0 hm1 hm2
    obtain ⟨j, I, g, cap, T, hjg, rfl, rfl, hcs, hinv, hdone, hall⟩ := hrel
    have HJ : Hid (j + gk = fl) := hjg
    clear hjg
    by_cases hlt : j < fl
    · have hjn : (j : Int) < fl := by omega
      obtain ⟨b, o, rfl, hc⟩ := (hF.later hcs.kept) j hlt
      obtain ⟨q, hq⟩ : ∃ q : Nat, Fe j = q := ⟨(Fe j).toNat, by have := (hFn j hlt).1; omega⟩
      have hqn : q < n := by have := (hFn j hlt).2; omega
      rw [hq] at hc
      have HQ : Hid (Fe j = q) := hq
      clear hq
      have hqn' : (q : Int) < n := by omega
      have hr := hcs.inr.cell hqn
      have hz := hcs.inr.frozen q
      have HD : Hid (∀ i, i < j → ∀ x : Nat, Fe i = x → I x = true) := hdone
      have HA : Hid (∀ x, I x = true → x ∈ T) := hall
      clear hdone hall
      cases hI : I q with
      | true =>
        rw [hI] at hr
        go_wp2
        go_roundg (gk - 1)
        case measure => have := HJ.out; omega
        case rel =>
          refine ⟨j + 1, I, g, cap, T, by have := HJ.out; omega, by go_num, rfl, hcs, hinv, fun i hi x hx => ?_, HA.out⟩
          by_cases e : i = j
          · subst e
            have : x = q := by have := HQ.out; omega
            rw [this]; exact hI
          · exact HD.out i (by omega) x hx
      | false =>
        rw [hI] at hr
        have hT : T.length + 1 ≤ 65536 := by have := (hinv.push hqn (.base ⟨j, hlt, HQ.out⟩) hI).count; simp at this; omega
        have hcs2 := (hcs.mark q).alloc (.cells #[.int .i64 (q : Int)] 3)
        have hcc : ((wr.setCell ⟨w.heap.size, q, none⟩ (.bool true)).alloc (.cells #[.int .i64 (q : Int)] 3)).cell? ⟨wr.heap.size, 0, none⟩ = some (.int .i64 (q : Int)) := by
          have := heap_alloc_last (wr.setCell ⟨w.heap.size, q, none⟩ (.bool true)) (.cells #[.int .i64 (q : Int)] 3)
          simp only [World.size_setCell] at this
          rw [cell_blk this 0]; rfl
        go_wp2_with (at_builtin; refine wpList_push _ rfl (.tmp 33) (.tmp 35) rfl q wr.heap.size 1 rfl rfl hcc hcs2 hT ?_; intro g' cap' W' hcs')
        go_roundg (gk - 1)
        case measure => have := HJ.out; omega
        case rel =>
          refine ⟨j + 1, put I q, g', cap', T ++ [q], by have := HJ.out; omega, by go_num, by simp, hcs', hinv.push hqn (.base ⟨j, hlt, HQ.out⟩) hI, fun i hi x hx => ?_, fun x hx => ?_⟩
          · by_cases e : i = j
            · subst e
              have : x = q := by have := HQ.out; omega
              rw [this]; exact put_self
            · exact put_of (HD.out i (by omega) x hx)
          · rcases of_put hx with rfl | hx
            · simp
            · simp [HA.out x hx]
    · obtain rfl : j = fl := by have := HJ.out; omega
      clear HJ
      have hFI : ∀ x, Fr j Fe x → I x = true := fun x ⟨i, hi, e⟩ => hdone i hi x e
      go_wp2
      go_loopg [8] n (fun gh todo wr => ∃ (I : Nat → Bool) (g cap : Nat) (T : List Nat), todo = .slice (some ⟨g, 0, none⟩) T.length cap ∧ Cs w n I g cap T wr ∧ Inv n (Fr j Fe) (Ed n len el) I T ∧ out n I + T.length ≤ gh ∧ (∀ x, Fr j Fe x → I x = true) ∧ ∀ x, I x = true → x ∈ T ∨ ∀ y, Ed n len el x y → I y = true)
      case atStart => exact ⟨I, g, cap, T, rfl, hcs, hinv, hinv.count, hFI, fun x hx => .inl (hall x hx)⟩
      case round =>
        clear hcs hdone hall hinv hFI
        obtain ⟨I, g, cap, T, rfl, hcs, hinv, hgh, hFI, hall⟩ := hrel
        have HG : Hid (out n I + T.length ≤ gk) := hgh
        have HF : Hid (∀ x, Fr j Fe x → I x = true) := hFI
        have HA : Hid (∀ x, I x = true → x ∈ T ∨ ∀ y, Ed n len el x y → I y = true) := hall
        clear hgh hFI hall
        rcases List.eq_nil_or_concat T with rfl | ⟨T, q, rfl⟩
        · go_wp2
          go_ret
          refine ⟨I, rfl, hcs.inr, hcs.kept, hinv.done HF.out (fun x hx y e => ?_)⟩
          rcases HA.out x hx with h | h
          · cases h
          · exact h y e
        · rw [List.concat_eq_append] at *
          obtain ⟨hinv', hIq⟩ := hinv.pop
          have hqn := (hinv.sound q hIq).2
          have hcs' := hcs.pop
          have htop := hcs.top
          have hlen1 : (T ++ [q]).length = T.length + 1 := by simp
          rw [hlen1]
          have HG2 : Hid (out n I + T.length + 1 ≤ gk) := by have := HG.out; rw [hlen1] at this; exact this
          have HA2 : Hid (∀ x, I x = true → x = q ∨ x ∈ T ∨ ∀ y, Ed n len el x y → I y = true) := fun x hx => by
            rcases HA.out x hx with h | h
            · simp only [List.mem_append, List.mem_singleton] at h
              rcases h with h | h
              · exact .inr (.inl h)
              · exact .inl h
            · exact .inr (.inr h)
          have hcap := hcs.room
          rw [hlen1] at hcap
          have hTl : T.length + 1 ≤ 65536 := by have := hinv.count; rw [hlen1] at this; omega
          have hTi : (T.length : Int) + 1 ≤ 65536 := by omega
          have hci : (T.length : Int) ≤ cap := by omega
          clear HG HA hcs hinv hlen1
          go_wp2_with fail
          refine (hcall _ hcs'.kept q hqn).mono ?_
          rintro e w2 ⟨rfl, x, cp, rfl, hx⟩
          obtain ⟨hql, hqe⟩ := hEn q hqn
          unfold maxLen at hql
          have HQ : Hid (I q = true) := hIq
          clear hIq htop hTl hTi hci hcap
          go_wp2_with fail
          go_loopg [8, 56] (len q) (fun gi todo idx wx => ∃ (i : Nat) (I : Nat → Bool) (g cap : Nat) (T : List Nat), i + gi = len q ∧ idx = .int .i64 i ∧ todo = .slice (some ⟨g, 0, none⟩) T.length cap ∧ Cs w n I g cap T wx ∧ Kp [] w wx ∧ Inv n (Fr j Fe) (Ed n len el) I T ∧ out n I + T.length + 1 ≤ gk ∧ (∀ x, Fr j Fe x → I x = true) ∧ (∀ x, I x = true → x = q ∨ x ∈ T ∨ ∀ y, Ed n len el x y → I y = true) ∧ I q = true ∧ ∀ k, k < i → ∀ y : Nat, el q k = y → I y = true)
          case atStart => exact ⟨0, I, g, cap, T, by omega, rfl, rfl, hcs', hcs'.kept, hinv', HG2.out, HF.out, HA2.out, HQ.out, fun k hk => by omega⟩
          case round =>
            clear hcs' hinv' HG2 HF HA2 HQ
            obtain ⟨i, I, g, cap, T, hig, rfl, rfl, hcs, hkx, hinv, hgh, hFI, hA, hIq, hk⟩ := hrel
            have HI : Hid (i + gk = len q) := hig
            have HG := Hid.mk' hgh
            have HF : Hid (∀ x, Fr j Fe x → I x = true) := hFI
            have HA : Hid (∀ x, I x = true → x = q ∨ x ∈ T ∨ ∀ y, Ed n len el x y → I y = true) := hA
            have HQ : Hid (I q = true) := hIq
            have HK : Hid (∀ k, k < i → ∀ y : Nat, el q k = y → I y = true) := hk
            clear hig hgh hFI hA hIq hk hkx
            by_cases hlt : i < len q
            · have hin' : (i : Int) < len q := by omega
              obtain ⟨b, o, rfl, hc⟩ := (hx.later hcs.kept) i hlt
              obtain ⟨y, hy⟩ : ∃ y : Nat, el q i = y := ⟨(el q i).toNat, by have := (hqe i hlt).1; omega⟩
              have hyn : y < n := by have := (hqe i hlt).2; omega
              rw [hy] at hc
              have HY : Hid (el q i = y) := hy
              clear hy
              have hyn' : (y : Int) < n := by omega
              have hr := hcs.inr.cell hyn
              have hz := hcs.inr.frozen y
              cases hI : I y with
              | true =>
                rw [hI] at hr
                go_wp2
                go_roundg (gk - 1)
                case measure => have := HI.out; omega
                case rel =>
                  refine ⟨i + 1, I, g, cap, T, by have := HI.out; omega, by go_num, rfl, hcs, hcs.kept, hinv, HG.out, HF.out, HA.out, HQ.out, fun k hk z hz' => ?_⟩
                  by_cases e : k = i
                  · subst e
                    have : z = y := by have := HY.out; omega
                    rw [this]; exact hI
                  · exact HK.out k (by omega) z hz'
              | false =>
                rw [hI] at hr
                have hcl : Cl (Fr j Fe) (Ed n len el) y := ((hinv.sound q HQ.out).1).step ⟨hqn, i, hlt, HY.out⟩
                have hinv2 := hinv.push hyn hcl hI
                have hT : T.length + 1 ≤ 65536 := by have := hinv2.count; simp at this; omega
                have hcs2 := (hcs.mark y).alloc (.cells #[.int .i64 (y : Int)] 3)
                have hcc : ((wr.setCell ⟨w.heap.size, y, none⟩ (.bool true)).alloc (.cells #[.int .i64 (y : Int)] 3)).cell? ⟨wr.heap.size, 0, none⟩ = some (.int .i64 (y : Int)) := by
                  have := heap_alloc_last (wr.setCell ⟨w.heap.size, y, none⟩ (.bool true)) (.cells #[.int .i64 (y : Int)] 3)
                  simp only [World.size_setCell] at this
                  rw [cell_blk this 0]; rfl
                have HO := Hid.mk' (out_put (I := I) hyn hI)
                clear hinv
                go_wp2_with (at_builtin; refine wpList_push _ rfl (.tmp 68) (.tmp 70) rfl y wr.heap.size 1 rfl rfl hcc hcs2 hT ?_; intro g' cap' W' hcs')
                go_roundg (gk - 1)
                case measure => have := HI.out; omega
                case rel =>
                  refine ⟨i + 1, put I y, g', cap', T ++ [y], by have := HI.out; omega, by go_num, by simp, hcs', hcs'.kept, hinv2, ?_, fun z hz' => put_of (HF.out z hz'), fun z hz' => ?_, put_of HQ.out, fun k hk z hz' => ?_⟩
                  · have h1 := HG.out
                    have h2 := HO.out
                    simp only [List.length_append, List.length_singleton]
                    omega
                  · rcases of_put hz' with rfl | hz'
                    · exact .inr (.inl (by simp))
                    · rcases HA.out z hz' with h | h | h
                      · exact .inl h
                      · exact .inr (.inl (by simp [h]))
                      · exact .inr (.inr fun u hu => put_of (h u hu))
                  · by_cases e : k = i
                    · subst e
                      have : z = y := by have := HY.out; omega
                      rw [this]; exact put_self
                    · exact put_of (HK.out k (by omega) z hz')
            · obtain hie : i = len q := by have := HI.out; omega
              go_wp2
              go_roundg (out n I + T.length)
              case measure => have := HG.out; omega
              case rel =>
                refine ⟨I, g, cap, T, rfl, hcs, hinv, Nat.le_refl _, HF.out, fun z hz' => ?_⟩
                rcases HA.out z hz' with rfl | h | h
                · exact .inr fun y hy => by
                    obtain ⟨_, k, hk, e⟩ := hy
                    exact HK.out k (by omega) y e
                · exact .inl h
                · exact .inr h

end Go.Proofs.Qxb6614484a
