import Derived.Test.Qxb6614484aInto
namespace Go.Proofs.Qxb6614484a
open Go.RowKit

set_option maxRecDepth 100000 in
set_option maxHeartbeats 1000000 in
theorem epsInto_any (ab n : Nat) (st fi : Int) (len : Nat → Nat) (el : Nat → Nat → Int) (w : World) (hA : Auto w ab n st fi len el) (hn : n ≤ 65536) (hEn : ∀ q, q < n → len q ≤ 1048576 ∧ ∀ i, i < len q → 0 ≤ el q i ∧ el q i < n) :
    Calls Try.prog 23 #[.pointer (some ⟨ab, 0, none⟩)] w fun e w' => ∃ val lst, e = .returned (.slice (some ⟨w.heap.size, 0, none⟩) n n) ∧ Into w n val lst w' ∧ Told len el n 0 lst ∧ lens lst (n * 1048576) := by
  obtain ⟨sb, hab, hst⟩ := hA
  have hmk := make22 n (by omega)
  have k0 := (Kp.refl [] w).alloc (.cells (madeCells #[.slice none 0 0] n) 22)
  have c0 := (cell_blk hab 0)
  simp at c0
  have c1 := k0.cellSome c0
  go_enter Try.func23, Try.ntmps23
  go_wp2_with fail
  go_loopg [19] n (fun gh idx wr => ∃ (x : Nat) (val : Nat → Value) (lst : Nat → List Nat), x + gh = n ∧ idx = .int .i64 x ∧ Into w n val lst wr ∧ Told len el x 0 lst ∧ lens lst (x * 1048576))
  case atStart => exact ⟨0, _, _, by omega, rfl, Into.start w n, Told.start, fun y => Nat.le_refl _⟩
  case round =>
    clear hmk k0 c0 c1
    obtain ⟨x, val, lst, hxg, rfl, hin, htold, hlens⟩ := hrel
    have HX : Hid (x + gk = n) := hxg
    have HT : Hid (Told len el x 0 lst) := htold
    have HL : Hid (lens lst (x * 1048576)) := hlens
    clear hxg htold hlens
    by_cases hlt : x < n
    · have hxn : (x : Int) < n := by omega
      obtain ⟨ea, cp, s0, s1, hI⟩ := hst x hlt
      have s0' := hin.kept.cellSome s0
      have s1' := hin.kept.cellSome s1
      obtain ⟨hql, hqe⟩ := hEn x hlt
      have hql' : (len x : Int) ≤ 1048576 := by omega
      clear s0 s1
      go_wp2_with fail
      go_loopg [27] (len x) (fun gi idx wy => ∃ (i : Nat) (val : Nat → Value) (lst : Nat → List Nat), i + gi = len x ∧ idx = .int .i64 i ∧ Into w n val lst wy ∧ Told len el x i lst ∧ lens lst (x * 1048576 + i))
      case atStart => exact ⟨0, val, lst, by omega, rfl, hin.alloc _, HT.out, lens_start HL.out⟩
      case round =>
        clear hin HT HL s0' s1'
        obtain ⟨i, val, lst, hig, rfl, hin, htold, hlens⟩ := hrel
        have HI : Hid (i + gk = len x) := hig
        have HT : Hid (Told len el x i lst) := htold
        have HL : Hid (lens lst (x * 1048576 + i)) := hlens
        clear hig htold hlens
        by_cases hil : i < len x
        · have hil' : (i : Int) < len x := by omega
          obtain ⟨b, o, rfl, hc⟩ := (hI.later hin.kept) i hil
          obtain ⟨y, hy⟩ : ∃ y : Nat, el x i = y := ⟨(el x i).toNat, by have := (hqe i hil).1; omega⟩
          have hyn : y < n := by have := (hqe i hil).2; omega
          rw [hy] at hc
          have HY : Hid (el x i = (y : Int)) := hy
          clear hy
          have hyn' : (y : Int) < n := by omega
          obtain ⟨va, vc, hv⟩ := hin.form hyn
          have hcell := hin.row.cell hyn
          rw [hv] at hcell
          have hin2 := hin.alloc (.cells #[.int .i64 (x : Int)] 3)
          have hown2 := hin2.own y hyn
          rw [hv] at hown2
          have hcc : (wr.alloc (.cells #[.int .i64 (x : Int)] 3)).cell? ⟨wr.heap.size, 0, none⟩ = some (.int .i64 (x : Int)) := by
            rw [cell_blk (heap_alloc_last wr (.cells #[.int .i64 (x : Int)] 3)) 0]; rfl
          have hll : (lst y).length ≤ 68719476736 := by have := HL.out y; omega
          obtain ⟨i3, hi3, hz0, hz1, hz2⟩ := info_parts Try.info3
          have HV : Hid (val y = .slice va (lst y).length vc) := hv
          clear hv
          go_wp2_with (at_builtin; refine wpList_append_lies _ rfl (.tmp 36) (.tmp 38) 22 rfl (w.heap.size + 1) 3 i3 _ 1 8 Try.underlying22 hi3 hz0 hz1 hz2 rfl (by decide) _ (lst y).length _ rfl hown2 ⟨wr.heap.size, 0, none⟩ 1 1 [.int .i64 (x : Int)] rfl rfl (fun t u ht => by
              match t, ht with
              | 0, ht => simp at ht; subst ht; rw [Addr.add_lit]; exact hcc) (fun u hu => by simp at hu; subst hu; rfl) (by decide) (by unfold maxLen; omega) (by omega) (by have := hin2.row.lt; omega) _ rfl ?_; intro g cap w1 hown hgr hat hlt1; rw [← HV.out] at hgr hat; have hrw := hin2.after hyn hgr; have cy := hrw.cell hyn; have zy := hrw.frozen y; have hin3 := hin2.push hyn hown hgr hat)
          go_roundg (gk - 1)
          case measure => have := HI.out; omega
          case rel => exact ⟨i + 1, _, _, by have := HI.out; omega, by go_num, hin3, HT.out.push HY.out, lens_succ HL.out⟩
        · obtain hie : i = len x := by have := HI.out; omega
          have hii : ¬ (i : Int) < len x := by omega
          have HT2 : Hid (Told len el x (len x) lst) := by rw [← hie]; exact HT.out
          have HL2 : Hid (lens lst ((x + 1) * 1048576)) := lens_le HL.out (by omega)
          go_wp2
          go_roundg (n - (x + 1))
          case measure => have := HX.out; omega
          case rel => exact ⟨x + 1, val, lst, by omega, by go_num, hin, HT2.out.next, HL2.out⟩
    · obtain rfl : x = n := by have := HX.out; omega
      have hxx : ¬ (x : Int) < x := by omega
      go_wp2
      go_ret
      exact ⟨rfl, val, lst, hin, HT.out, HL.out⟩

end Go.Proofs.Qxb6614484a
