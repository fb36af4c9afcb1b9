import Derived.Test.Qxb6616066aRowsOf
namespace Go.Proofs.Qxb6616066a
open Go.RowKit

theorem Try.info9 : (Try.prog.info? 9).map (fun i => (i.zero, i.size, i.bytes)) = some (some (.string ByteArray.empty), 1, 16) := by kernel_rfl
theorem Try.info2 : (Try.prog.info? 2).map (fun i => (i.zero, i.size, i.bytes)) = some (some (.int .i64 0), 1, 8) := by kernel_rfl

/-- 'make([]T, 0, n)' of one-cell elements. -/
theorem make0 (t e : TypeId) (z : Value) (bytes : Nat) (ht : Try.prog.underlying t = some (.slice e)) (hinfo : (Try.prog.info? e).map (fun i => (i.zero, i.size, i.bytes)) = some (some z, 1, bytes)) (hz1 : z.cells = #[z]) (hb : bytes ≤ 16) (n : Nat) (hn : n ≤ 1048576) (w : World) :
    (Instr.makeSlice t (.int .i64 0) (.int .i64 (n : Int))).run Try.prog w = .ok (.slice (some ⟨w.heap.size, 0, none⟩) 0 n) (w.alloc (.cells (madeCells #[z] n) e)) := by
  obtain ⟨i, hi, hzz⟩ := Option.map_eq_some_iff.1 hinfo
  simp only [Prod.mk.injEq] at hzz
  obtain ⟨hz, hs, hb'⟩ := hzz
  have h1 : (i.bytes : Int) * (n : Int) ≤ 281474976710656 := by
    have : i.bytes * n ≤ 16 * 1048576 := Nat.mul_le_mul (by omega) hn
    have h' : ((i.bytes * n : Nat) : Int) ≤ 281474976710656 := by omega
    rwa [Int.natCast_mul] at h'
  have hr := run_make (P := Try.prog) w t e i _ ht hi hz .i64 .i64 0 n (by omega) (by omega) h1 (by omega)
  simp only [Int.toNat_natCast, hs, Int.toNat_zero, Nat.mul_one, hz1] at hr
  exact hr
theorem makeAt (n : Int) (w : World) : (Instr.makeMap 45 (some (.int .i64 n))).run Try.prog w = .ok (.map (some w.heap.size)) (w.alloc (.map #[] 0)) := by
  simp [Instr.makeMap, run_underlying Try.underlying45, asInt, asIntOf]

theorem heap4 (w : World) (L X Y Z : Obj) : ((((w.alloc L).alloc X).alloc Y).alloc Z).drew.heap[w.heap.size]? = some L ∧ ((((w.alloc L).alloc X).alloc Y).alloc Z).drew.heap[w.heap.size + 1]? = some X ∧ ((((w.alloc L).alloc X).alloc Y).alloc Z).drew.heap[w.heap.size + 1 + 1]? = some Y ∧ ((((w.alloc L).alloc X).alloc Y).alloc Z).drew.heap[w.heap.size + 1 + 1 + 1]? = some Z := by
  have s1 : (w.alloc L).heap.size = w.heap.size + 1 := by simp
  have s2 : ((w.alloc L).alloc X).heap.size = w.heap.size + 1 + 1 := by simp
  have s3 : (((w.alloc L).alloc X).alloc Y).heap.size = w.heap.size + 1 + 1 + 1 := by simp
  refine ⟨?_, ?_, ?_, ?_⟩
  · exact blk_alloc_old (blk_alloc_old (blk_alloc_old (heap_alloc_last _ _)))
  · rw [← s1]; exact blk_alloc_old (blk_alloc_old (heap_alloc_last _ _))
  · rw [← s2]; exact blk_alloc_old (heap_alloc_last _ _)
  · rw [← s3]; exact heap_alloc_last _ _
theorem row_made {W : World} {b n : Nat} {z : Value} {e : TypeId} (h : W.heap[b]? = some (.cells (madeCells #[z] n) e)) : W.rowIs b e n (fun _ => z) := by
  refine ⟨_, h, by simp [size_madeCells], fun i hi => ?_⟩
  have := toList_madeCells_one z n
  rw [← Array.getElem?_toList, this]
  simp [hi]
theorem cols0 {w W : World} {lb kb vb db n : Nat} (h0 : W.heap[lb]? = some (.cells (colC kb vb db 0 0 0 n) 42)) (h1 : W.heap[kb]? = some (.cells (madeCells #[.string ByteArray.empty] n) 9)) (h2 : W.heap[vb]? = some (.cells (madeCells #[.int .i64 0] n) 2)) (h3 : W.heap[db]? = some (.cells (madeCells #[.string ByteArray.empty] n) 9)) (hk : Kp [] w W) :
    Cols w [] lb kb vb db n (colC kb vb db 0 0 0 n) (fun _ => .string ByteArray.empty) (fun _ => .int .i64 0) (fun _ => .string ByteArray.empty) W := ⟨h0, row_made h1, row_made h2, row_made h3, hk⟩

/-- The events of a slice of events. -/
def Evs (w : World) (a : Option Addr) (n : Nat) (Ks : Nat → ByteArray) (V : Nat → Int) (B : Nat → ByteArray) : Prop := ∀ i, i < n → ∃ b o, a = some ⟨b, o, none⟩ ∧ Evt w b (o + i * 14) (Ks i) (V i) (B i)
/-- A string, as the walk compares it. -/
abbrev qOf (Ks : Nat → ByteArray) (i : Nat) : List UInt8 := (Ks i).toList

/-- THE COLUMNS BEHIND k EVENTS. -/
structure InL (w : World) (lb kb vb db mb n : Nat) (Ks : Nat → ByteArray) (V : Nat → Int) (B : Nat → ByteArray) (k : Nat) (wr : World) (D : DataW Unit) : Prop where
  cols : Cols w [] lb kb vb db n (colC kb vb db (firsts (qOf Ks) k).length (firsts (qOf Ks) k).length (firsts (qOf Ks) k).length n) (fun p => .string (keyStr Ks (qOf Ks) k p)) (fun p => .int .i64 (verNum (qOf Ks) V k p)) (fun p => .string (datStr (qOf Ks) V B k p)) wr
  owns : wr.ownsMap Try.prog 9 (plainElem Try.prog 3) mb k D
  at_ : AtOk D (qOf Ks) k

theorem Cols.grown {w0 : World} {lb kb vb db c mb : Nat} {cs : Array Value} {fk fv fd : Nat → Value} {wx wy : World} (h : Cols w0 [] lb kb vb db c cs fk fv fd wx) (g : wx.grownBy wy (some mb)) (h0 : w0.heap.size ≤ mb) (h1 : lb ≠ mb) (h2 : kb ≠ mb) (h3 : vb ≠ mb) (h4 : db ≠ mb) : Cols w0 [] lb kb vb db c cs fk fv fd wy :=
  ⟨(g.block _ (lt_blk h.head) (by simp; omega)).trans h.head, h.kr.of_block (g.block _ h.kr.lt (by simp; omega)), h.vr.of_block (g.block _ h.vr.lt (by simp; omega)), h.dr.of_block (g.block _ h.dr.lt (by simp; omega)), h.kept.grown g (fun j hj => by cases hj; exact .inr h0)⟩

/-- A new entity has been added. -/
theorem InL.added {w w2 w3 : World} {lb kb vb db mb n : Nat} {Ks : Nat → ByteArray} {V : Nat → Int} {B : Nat → ByteArray} {k : Nat} {D : DataW Unit} (hf : isFirst (qOf Ks) k = true) (hk2 : Kp [] w w2) (hown : w2.ownsMap Try.prog 9 (plainElem Try.prog 3) mb (k + 1) (D.put (.string (qOf Ks k)) (.lit (.int .i64 (firsts (qOf Ks) k).length)))) (hat : AtOk D (qOf Ks) k) (hm : Maps.IsMap D)
    (h : Cols w2 [lb, kb, vb, db] lb kb vb db n (colC kb vb db ((firsts (qOf Ks) k).length + 1) ((firsts (qOf Ks) k).length + 1) ((firsts (qOf Ks) k).length + 1) n) (fun p => if p = (firsts (qOf Ks) k).length then .string (Ks k) else .string (keyStr Ks (qOf Ks) k p)) (fun p => if p = (firsts (qOf Ks) k).length then .int .i64 (V k) else .int .i64 (verNum (qOf Ks) V k p)) (fun p => if p = (firsts (qOf Ks) k).length then .string (B k) else .string (datStr (qOf Ks) V B k p)) w3)
    (h0 : w.heap.size ≤ lb) (h1 : w.heap.size ≤ kb) (h2 : w.heap.size ≤ vb) (h3 : w.heap.size ≤ db) (hmb : mb ∉ [lb, kb, vb, db]) :
    InL w lb kb vb db mb n Ks V B (k + 1) w3 (D.put (.string (qOf Ks k)) (.lit (.int .i64 (firsts (qOf Ks) k).length))) := by
  refine ⟨⟨?_, h.kr.congr fun p _ => ?_, h.vr.congr fun p _ => ?_, h.dr.congr fun p _ => ?_, hk2.andThen h.kept (by simp; omega)⟩, h.kept.owns hown hmb, hat.put hm hf⟩
  · rw [len_succ_first hf]; exact h.head
  · rw [key_first hf]; split <;> rfl
  · rw [ver_first hf]; split <;> rfl
  · rw [dat_first hf]; split <;> rfl
/-- The entity's change is replaced. -/
theorem InL.raised {w wr w2 : World} {lb kb vb db mb n : Nat} {Ks : Nat → ByteArray} {V : Nat → Int} {B : Nat → ByteArray} {k p0 : Nat} {D : DataW Unit} (hin : InL w lb kb vb db mb n Ks V B k wr D) (hf : isFirst (qOf Ks) k = false) (hp : p0 < (firsts (qOf Ks) k).length) (ep : qOf Ks (fst (qOf Ks) k p0) = qOf Ks k) (hv : verNum (qOf Ks) V k p0 < V k)
    (h : Cols w [] lb kb vb db n (colC kb vb db (firsts (qOf Ks) k).length (firsts (qOf Ks) k).length (firsts (qOf Ks) k).length n) (fun p => .string (keyStr Ks (qOf Ks) k p)) (fun p => if p = p0 then .int .i64 (V k) else .int .i64 (verNum (qOf Ks) V k p)) (fun p => if p = p0 then .string (B k) else .string (datStr (qOf Ks) V B k p)) w2)
    (hown : w2.ownsMap Try.prog 9 (plainElem Try.prog 3) mb k D) : InL w lb kb vb db mb n Ks V B (k + 1) w2 D := by
  refine ⟨⟨?_, h.kr.congr fun p _ => ?_, h.vr.congr fun p _ => ?_, h.dr.congr fun p _ => ?_, h.kept⟩, hown.mono (by omega), hin.at_.stay hf⟩
  · rw [len_succ_not hf]; exact h.head
  · rw [key_later hf]
  · rw [ver_up hf hp ep hv]; split <;> rfl
  · rw [dat_up hf hp ep hv]; split <;> rfl
/-- Nothing is done. -/
theorem InL.stays {w wr w2 : World} {lb kb vb db mb n : Nat} {Ks : Nat → ByteArray} {V : Nat → Int} {B : Nat → ByteArray} {k p0 : Nat} {D : DataW Unit} (hin : InL w lb kb vb db mb n Ks V B k wr D) (hf : isFirst (qOf Ks) k = false) (hp : p0 < (firsts (qOf Ks) k).length) (ep : qOf Ks (fst (qOf Ks) k p0) = qOf Ks k) (hv : ¬ verNum (qOf Ks) V k p0 < V k) (hw : w2.heap = wr.heap) (hk : Kp [] w w2) :
    InL w lb kb vb db mb n Ks V B (k + 1) w2 D := by
  have h := hin.cols
  refine ⟨⟨?_, (h.kr.of_block (by rw [hw])).congr fun p _ => ?_, (h.vr.of_block (by rw [hw])).congr fun p _ => ?_, (h.dr.of_block (by rw [hw])).congr fun p _ => ?_, hk⟩, ?_, hin.at_.stay hf⟩
  · rw [len_succ_not hf, hw]; exact h.head
  · rw [key_later hf]
  · rw [ver_stay hf hp ep hv]
  · rw [dat_stay hf hp ep hv]
  · obtain ⟨es, clock, hb, F, hs, hD⟩ := hin.owns
    exact ⟨es, clock, by rw [hw]; exact hb, F, by omega, hD⟩

/-- WHAT latestChanges HANDS BACK: three columns in new memory, and the number of empty data. -/
structure Out (w w' : World) (kb vb db n : Nat) (Ks : Nat → ByteArray) (V : Nat → Int) (B : Nat → ByteArray) : Prop where
  kr : w'.rowIs kb 9 n (fun p => .string (keyStr Ks (qOf Ks) n p))
  vr : w'.rowIs vb 2 n (fun p => .int .i64 (verNum (qOf Ks) V n p))
  dr : w'.rowIs db 9 n (fun p => .string (datStr (qOf Ks) V B n p))
  kept : Kp [] w w'
  k0 : w.heap.size ≤ kb
  v0 : w.heap.size ≤ vb
  d0 : w.heap.size ≤ db

/-- How many of the first m data are empty. -/
def empties (f : Nat → ByteArray) (m : Nat) : Nat := ((List.range m).filter fun p => (f p).toList.isEmpty).length

theorem empties_succ (f : Nat → ByteArray) (m : Nat) : empties f (m + 1) = empties f m + if (f m).toList.isEmpty = true then 1 else 0 := by
  unfold empties
  rw [List.range_succ, List.filter_append]
  by_cases h : (f m).toList.isEmpty = true <;> simp [h]
theorem empties_le (f : Nat → ByteArray) (m : Nat) : empties f m ≤ m := by
  have := List.length_filter_le (fun p => (f p).toList.isEmpty) (List.range m)
  simpa [empties] using this

set_option maxRecDepth 100000 in
set_option maxHeartbeats 1000000 in
theorem latest_any (a : Option Addr) (n c : Nat) (Ks : Nat → ByteArray) (V : Nat → Int) (B : Nat → ByteArray) (w : World) (hn : n ≤ 4096) (hev : Evs w a n Ks V B) (hks : ∀ i, i < n → (Ks i).size ≤ maxLen) :
    Calls Try.prog 12 #[.slice a n c] w fun e w' => ∃ kb vb db, e = .returned (.tuple #[.agg (colC kb vb db (firsts (qOf Ks) n).length (firsts (qOf Ks) n).length (firsts (qOf Ks) n).length n), .int .i64 (empties (datStr (qOf Ks) V B n) (firsts (qOf Ks) n).length)]) ∧ Out w w' kb vb db n Ks V B := by
  have hk := make0 22 9 _ _ Try.underlying22 Try.info9 rfl (by omega) n (by omega)
  have hv := make0 23 2 _ _ Try.underlying23 Try.info2 rfl (by omega) n (by omega)
  have hmm := makeAt
  go_enter Try.func12, Try.ntmps12
  go_upto_region 1 with fail
  go_cut [] (fun wx => ∃ kb vb db, Cols w [] w.heap.size kb vb db n (colC kb vb db 0 0 0 n) (fun _ => .string ByteArray.empty) (fun _ => .int .i64 0) (fun _ => .string ByteArray.empty) wx ∧ [w.heap.size, kb, vb, db].Nodup ∧ w.heap.size ≤ kb ∧ w.heap.size ≤ vb ∧ w.heap.size ≤ db)
  case first =>
    go_region
    all_goals
      go_wp2
      go_meet
      case rel =>
        obtain ⟨q0, q1, q2, q3⟩ := heap4 w _ _ _ _
        exact ⟨_, _, _, cols0 q0 (by first | exact q1 | exact q2 | exact q3) (by first | exact q1 | exact q2 | exact q3) (by first | exact q1 | exact q2 | exact q3) (((((Kp.refl _ _).alloc _).alloc _).alloc _).alloc _).drew, by simp <;> omega, by omega, by omega, by omega⟩
  case rest =>
  obtain ⟨kb, vb, db, hcol, hnd, hk1, hv1, hd1⟩ := hcut
  clear hk hv
  have hnd' := hnd
  simp at hnd'
  have hmb : w.heap.size ≤ wc.heap.size := hcol.kept.size
  have hlk := hcol.kr.lt
  have hlv := hcol.vr.lt
  have hld := hcol.dr.lt
  have hll := lt_blk hcol.head
  go_wp2
  go_loopg [26] n (fun g i wr => ∃ (k : Nat) (D : DataW Unit), k + g = n ∧ i = .int .i64 k ∧ InL w w.heap.size kb vb db wc.heap.size n Ks V B k wr D)
  case atStart =>
    refine ⟨0, .map [], by omega, rfl, ?_, World.ownsMap_made _ _ _ _, ?_⟩
    · have := hcol.alloc (.map #[] 0)
      exact ⟨this.head, this.kr.congr fun p _ => by simp [keyStr, firsts], this.vr.congr fun p _ => by simp [verNum, firsts], this.dr.congr fun p _ => by simp [datStr, firsts], this.kept⟩
    · exact ⟨fun p hp => by simp [firsts] at hp, fun l hl => by simp [Maps.has] at hl⟩
  case round =>
    clear hcol hmm
    obtain ⟨k, D, hkg, rfl, hin⟩ := hrel
    have HK : Hid (k + gk = n) := hkg
    clear hkg
    by_cases hlt : k < n
    · obtain ⟨eb, eo, rfl, hevk⟩ := hev k hlt
      have hm := firsts_len_le (Q := qOf Ks) k
      obtain ⟨e1, e2, a', l', cp', e3, e4⟩ := hevk.later hin.cols.kept
      obtain ⟨cc, hlook, hat⟩ := look9 hin.owns (hks k hlt)
      have hkn : (k : Int) < n := by omega
      cases hf : isFirst (qOf Ks) k with
      | true =>
        have hno := hin.at_.none hf
        rw [hno] at hlook
        have hwf : (Lit.int .i64 ((firsts (qOf Ks) k).length : Int)).wf = true := WalkArith.wf_i64 (by omega)
        obtain ⟨w2, hup, hown2, hturn⟩ := hin.owns.drew.store (val := .int .i64 ((firsts (qOf Ks) k).length : Int)) law9 Try.underlying45 (by unfold maxLen; omega) (key9 (hks k hlt)) (plainElem_int Try.underlying3 hwf)
        have hcol2 := hin.cols.drew.grown hturn.grown hmb (by omega) (by omega) (by omega) (by omega)
        have l0 := cell_blk hin.cols.head 0
        simp at l0
        have hIm := hin.owns.isMap
        have hAt := hin.at_
        clear hturn hin hat hno
        go_wp2
        go_region
        go_wp2_with fail
        refine (add_any w w.heap.size kb vb db (firsts (qOf Ks) k).length n eb (eo + k * 14) (Ks k) (V k) (B k) _ _ _ _ hcol2 (by omega) hevk hnd (Nat.le_refl _) hk1 hv1 hd1).mono ?_
        rintro e w3 ⟨rfl, hcol3⟩
        have hin3 := InL.added hf hcol2.kept hown2 hAt hIm hcol3 (Nat.le_refl _) hk1 hv1 hd1 (by simp; omega)
        clear hcol3 hcol2 hown2 e1 e2 e3 e4
        go_wp2_with fail
        go_roundg (gk - 1)
        case measure => have := HK.out; omega
        case rel => exact ⟨k + 1, _, by have := HK.out; omega, by go_num, hin3⟩
      | false =>
        obtain ⟨p0, hp0, ep⟩ := place hf
        obtain ⟨hh, hat0⟩ := hin.at_.1 p0 hp0
        rw [ep] at hh hat0
        rw [hh] at hlook
        have hcc : cc = (p0 : Int) := by
          have := (hat0 (.lit (.int .i64 0))).symm.trans hat
          simpa using this.symm
        rw [hcc] at hlook
        clear hcc hat hat0 hh
        have hpn : p0 < n := by omega
        have hpm : (p0 : Int) < ((firsts (qOf Ks) k).length : Int) := by omega
        have l1 := cell_blk hin.cols.head 1
        have l2 := cell_blk hin.cols.head 2
        simp at l1 l2
        have v0 := hin.cols.vr.cell hpn
        by_cases hv : verNum (qOf Ks) V k p0 < V k
        · have d0 := hin.cols.dr.cell hpn
          have z1 := hin.cols.vr.frozen p0
          have z2 := hin.cols.dr.frozen p0
          have hvd : ¬ vb = db := by omega
          have hdv : ¬ db = vb := by omega
          have hcv : ∀ nq, (convert 38 9 (.slice a' l' cp')).run Try.prog (wr.drewN nq) = .ok (.string (B k)) (wr.drewN nq) := fun nq => (e4.later ((Kp.refl [] wr).drewN nq)).conv cp' 38 Try.underlying38
          have hcol2 := fun nq => ((hin.cols.drewN nq).setV hnd (.inr hv1) p0 (.int .i64 (V k))).setD hnd (.inr hd1) p0 (.string (B k))
          have hown2 := fun nq => (World.ownsMap.setCell (w := (wr.drewN nq).setCell ⟨vb, p0, none⟩ (.int .i64 (V k))) (World.ownsMap.setCell (w := wr.drewN nq) hin.owns (a := ⟨vb, p0, none⟩) (by simp; omega) _) (a := ⟨db, p0, none⟩) (by simp; omega) (.string (B k)))
          go_wp2
          go_quiet (fail)
          go_wp2
          go_region
          all_goals
            go_wp2
            go_roundg (gk - 1)
            case measure => have := HK.out; omega
            case rel => exact ⟨k + 1, D, by have := HK.out; omega, by go_num, hin.raised hf hp0 ep hv (hcol2 _) (hown2 _)⟩
        · go_wp2
          go_quiet (fail)
          go_wp2
          go_roundg (gk - 1)
          case measure => have := HK.out; omega
          case rel => exact ⟨k + 1, D, by have := HK.out; omega, by go_num, hin.stays hf hp0 ep (by omega) rfl (hin.cols.kept.drewN _)⟩
    · obtain rfl : k = n := by have := HK.out; omega
      have hm := firsts_len_le (Q := qOf Ks) k
      have hcols := hin.cols
      have l0 := cell_blk hcols.head 0
      have l1 := cell_blk hcols.head 1
      have l2 := cell_blk hcols.head 2
      have z0 := frozen_blk hcols.head 0
      have z1 := frozen_blk hcols.head 1
      have z2 := frozen_blk hcols.head 2
      simp at l0 l1 l2
      clear hin HK
      generalize hM : (firsts (qOf Ks) k).length = M at *
      go_wp2
      go_loopg [86, 3] M (fun g i r wx => ∃ t : Nat, t + g = M ∧ i = .int .i64 t ∧ r = .int .i64 (empties (datStr (qOf Ks) V B k) t) ∧ wx = wr)
      case atStart => exact ⟨0, by omega, rfl, by simp [empties], rfl⟩
      case round =>
        obtain ⟨t, htg, rfl, rfl, rfl⟩ := hrel
        have HT : Hid (t + gk = M) := htg
        clear htg
        have hel := empties_le (datStr (qOf Ks) V B k) t
        have hes := empties_succ (datStr (qOf Ks) V B k) t
        have HE : Hid (empties (datStr (qOf Ks) V B k) (t + 1) = empties (datStr (qOf Ks) V B k) t + if (datStr (qOf Ks) V B k t).toList.isEmpty = true then 1 else 0) := hes
        clear hes
        by_cases hlt : t < M
        · have hd0 := hcols.dr.cell (i := t) (by omega)
          have htm : (t : Int) < (M : Int) := by omega
          go_wp2
          all_goals
            go_roundg (gk - 1)
            case measure => have := HT.out; omega
            case rel => exact ⟨t + 1, by have := HT.out; omega, by go_num, by rw [HE.out]; first | rw [if_pos ‹_›]; rfl | (rw [if_neg (by simp [*])]; rfl), rfl⟩
        · obtain rfl : t = M := by have := HT.out; omega
          go_wp2
          have hfin := ((hcols.setH hnd (.inr (Nat.le_refl _)) 0 (.slice (some ⟨kb, 0, none⟩) t k)).setH hnd (.inr (Nat.le_refl _)) 1 (.slice (some ⟨vb, 0, none⟩) t k)).setH hnd (.inr (Nat.le_refl _)) 2 (.slice (some ⟨db, 0, none⟩) t k)
          have f0 := cell_blk hfin.head 0
          have f1 := cell_blk hfin.head 1
          have f2 := cell_blk hfin.head 2
          simp at f0 f1 f2
          refine bodyPost_ret (v := .tuple #[.agg (colC kb vb db t t t k), .int .i64 (empties (datStr (qOf Ks) V B k) t)]) ?_ rfl ⟨kb, vb, db, by rw [hM], hfin.kr, hfin.vr, hfin.dr, hfin.kept, hk1, hv1, hd1⟩
          simp [results, Try.results12, go_sem, f0, f1, f2]

end Go.Proofs.Qxb6616066a
