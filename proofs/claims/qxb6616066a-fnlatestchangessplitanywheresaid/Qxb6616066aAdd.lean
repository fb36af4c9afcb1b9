import Derived.Test.Qxb6616066aFrame
import Derived.Test.Qxb6616066aPlain
namespace Go.Proofs.Qxb6616066a
open Go.RowKit

/-- The columns' headers. -/
abbrev colC (kb vb db m0 m1 m2 c : Nat) : Array Value := #[.slice (some ⟨kb, 0, none⟩) m0 c, .slice (some ⟨vb, 0, none⟩) m1 c, .slice (some ⟨db, 0, none⟩) m2 c]

/-- THE THREE COLUMNS THAT ARE BEING FILLED. -/
structure Cols (w0 : World) (S : List Nat) (lb kb vb db c : Nat) (cs : Array Value) (fk fv fd : Nat → Value) (wx : World) : Prop where
  head : wx.heap[lb]? = some (.cells cs 42)
  kr : wx.rowIs kb 9 c fk
  vr : wx.rowIs vb 2 c fv
  dr : wx.rowIs db 9 c fd
  kept : Kp S w0 wx

section
variable {w0 : World} {S : List Nat} {lb kb vb db c : Nat} {cs : Array Value} {fk fv fd : Nat → Value} {wx : World}
theorem Cols.alloc (h : Cols w0 S lb kb vb db c cs fk fv fd wx) (o : Obj) : Cols w0 S lb kb vb db c cs fk fv fd (wx.alloc o) := ⟨blk_alloc_old h.head, h.kr.alloc o, h.vr.alloc o, h.dr.alloc o, h.kept.alloc o⟩
theorem Cols.drew (h : Cols w0 S lb kb vb db c cs fk fv fd wx) : Cols w0 S lb kb vb db c cs fk fv fd wx.drew := ⟨h.head, h.kr.drew, h.vr.drew, h.dr.drew, h.kept.drew⟩
theorem Cols.drewN (h : Cols w0 S lb kb vb db c cs fk fv fd wx) (n : Nat) : Cols w0 S lb kb vb db c cs fk fv fd (wx.drewN n) := ⟨h.head, h.kr, h.vr, h.dr, h.kept.drewN n⟩
theorem Cols.setH (h : Cols w0 S lb kb vb db c cs fk fv fd wx) (hn : [lb, kb, vb, db].Nodup) (hS : lb ∈ S ∨ w0.heap.size ≤ lb) (i : Nat) (v : Value) : Cols w0 S lb kb vb db c (cs.setIfInBounds i v) fk fv fd (wx.setCell ⟨lb, i, none⟩ v) := by
  simp at hn
  exact ⟨blk_set h.head i v, h.kr.setOther (by simp; omega) _, h.vr.setOther (by simp; omega) _, h.dr.setOther (by simp; omega) _, h.kept.setCell hS v⟩
theorem Cols.setK (h : Cols w0 S lb kb vb db c cs fk fv fd wx) (hn : [lb, kb, vb, db].Nodup) (hS : kb ∈ S ∨ w0.heap.size ≤ kb) (i : Nat) (v : Value) : Cols w0 S lb kb vb db c cs (fun p => if p = i then v else fk p) fv fd (wx.setCell ⟨kb, i, none⟩ v) := by
  simp at hn
  exact ⟨blk_set_other h.head (by simp; omega) _, h.kr.set i v, h.vr.setOther (by simp; omega) _, h.dr.setOther (by simp; omega) _, h.kept.setCell hS v⟩
theorem Cols.setV (h : Cols w0 S lb kb vb db c cs fk fv fd wx) (hn : [lb, kb, vb, db].Nodup) (hS : vb ∈ S ∨ w0.heap.size ≤ vb) (i : Nat) (v : Value) : Cols w0 S lb kb vb db c cs fk (fun p => if p = i then v else fv p) fd (wx.setCell ⟨vb, i, none⟩ v) := by
  simp at hn
  exact ⟨blk_set_other h.head (by simp; omega) _, h.kr.setOther (by simp; omega) _, h.vr.set i v, h.dr.setOther (by simp; omega) _, h.kept.setCell hS v⟩
theorem Cols.setD (h : Cols w0 S lb kb vb db c cs fk fv fd wx) (hn : [lb, kb, vb, db].Nodup) (hS : db ∈ S ∨ w0.heap.size ≤ db) (i : Nat) (v : Value) : Cols w0 S lb kb vb db c cs fk fv (fun p => if p = i then v else fd p) (wx.setCell ⟨db, i, none⟩ v) := by
  simp at hn
  exact ⟨blk_set_other h.head (by simp; omega) _, h.kr.setOther (by simp; omega) _, h.vr.setOther (by simp; omega) _, h.dr.set i v, h.kept.setCell hS v⟩
end

/-- Event i of a row of events, by its three cells. -/
def Evt (w : World) (eb eo : Nat) (s : ByteArray) (v : Int) (d : ByteArray) : Prop :=
  w.cell? ⟨eb, eo + 11, none⟩ = some (.string s) ∧ w.cell? ⟨eb, eo + 12, none⟩ = some (.int .i64 v) ∧ ∃ a l cp, w.cell? ⟨eb, eo + 9, none⟩ = some (.slice a l cp) ∧ Bts w a l d
theorem Evt.later {w w' : World} {eb eo : Nat} {s : ByteArray} {v : Int} {d : ByteArray} (h : Evt w eb eo s v d) (g : Kp [] w w') : Evt w' eb eo s v d := by
  obtain ⟨h1, h2, a, l, cp, h3, h4⟩ := h
  exact ⟨g.cellSome h1, g.cellSome h2, a, l, cp, g.cellSome h3, h4.later g⟩

set_option maxRecDepth 100000 in
set_option maxHeartbeats 400000 in
theorem add_any (w0 : World) (lb kb vb db m c eb eo : Nat) (s : ByteArray) (v : Int) (d : ByteArray) (fk fv fd : Nat → Value) (w : World)
    (hcol : Cols w0 [] lb kb vb db c (colC kb vb db m m m c) fk fv fd w) (hm : m < c) (hev : Evt w0 eb eo s v d) (hn : [lb, kb, vb, db].Nodup) (h0 : w0.heap.size ≤ lb) (h1 : w0.heap.size ≤ kb) (h2 : w0.heap.size ≤ vb) (h3 : w0.heap.size ≤ db) :
    Calls Try.prog 13 #[.pointer (some ⟨lb, 0, none⟩), .pointer (some ⟨eb, eo, none⟩)] w fun e w' => e = .returned (.tuple #[]) ∧
      Cols w [lb, kb, vb, db] lb kb vb db c (colC kb vb db (m + 1) (m + 1) (m + 1) c) (fun p => if p = m then .string s else fk p) (fun p => if p = m then .int .i64 v else fv p) (fun p => if p = m then .string d else fd p) w' := by
  have hcol1 : Cols w [lb, kb, vb, db] lb kb vb db c (colC kb vb db m m m c) fk fv fd w := ⟨hcol.head, hcol.kr, hcol.vr, hcol.dr, Kp.refl _ _⟩
  have hk0 := hcol.kept
  clear hcol
  have hmi : m + 1 ≤ c := by omega
  have hn' := hn
  simp at hn'
  go_enter Try.func13, Try.ntmps13
  go_upto_region 0 with fail
  go_cut [] (fun wx => Cols w [lb, kb, vb, db] lb kb vb db c (colC kb vb db (m + 1) m m c) (fun p => if p = m then .string s else fk p) fv fd wx)
  case first =>
    obtain ⟨e1, -⟩ := hev.later hk0
    have hA := hcol1.alloc (.cells #[.string s] 9)
    have hB := hA.setK hn (.inl (by simp)) m (.string s)
    have hC := (hB.setH hn (.inl (by simp)) 0 (.slice (some ⟨kb, 0, none⟩) (m + 1) c)).drew
    have l0 := cell_blk hcol1.head 0
    have l0' := cell_blk hA.head 0
    have l0'' := cell_blk hB.head 0
    have z0' := frozen_blk hA.head 0
    have z0'' := frozen_blk hB.head 0
    have km := hA.kr.cell hm
    have zm := hA.kr.frozen m
    simp at l0 l0' l0''
    go_region
    go_wp2
    go_meet
    case rel => simpa using hC
  case rest =>
  clear hcol1
  go_upto_region 1 with fail
  go_cut [] (fun wx => Cols w [lb, kb, vb, db] lb kb vb db c (colC kb vb db (m + 1) (m + 1) m c) (fun p => if p = m then .string s else fk p) (fun p => if p = m then .int .i64 v else fv p) fd wx)
  case first =>
    obtain ⟨-, e2, -⟩ := hev.later (hk0.andThen hcut.kept (by simp; omega))
    have hA := hcut.alloc (.cells #[.int .i64 v] 2)
    have hB := hA.setV hn (.inl (by simp)) m (.int .i64 v)
    have hC := (hB.setH hn (.inl (by simp)) 1 (.slice (some ⟨vb, 0, none⟩) (m + 1) c)).drew
    have l0 := cell_blk hcut.head 1
    have l0' := cell_blk hA.head 1
    have l0'' := cell_blk hB.head 1
    have z0' := frozen_blk hA.head 1
    have z0'' := frozen_blk hB.head 1
    have km := hA.vr.cell hm
    have zm := hA.vr.frozen m
    simp at l0 l0' l0''
    go_region
    go_wp2
    go_meet
    case rel => simpa using hC
  case rest =>
  obtain ⟨-, -, a, l, cp, e3, e4⟩ := hev.later (hk0.andThen hcut.kept (by simp; omega))
  have hA := hcut.alloc (.cells #[.string d] 9)
  have hB := hA.setD hn (.inl (by simp)) m (.string d)
  have hC := (hB.setH hn (.inl (by simp)) 2 (.slice (some ⟨db, 0, none⟩) (m + 1) c)).drew
  have l0 := cell_blk hcut.head 2
  have l0' := cell_blk hA.head 2
  have l0'' := cell_blk hB.head 2
  have z0' := frozen_blk hA.head 2
  have z0'' := frozen_blk hB.head 2
  have km := hA.dr.cell hm
  have zm := hA.dr.frozen m
  have hcv := (e4.later ((Kp.refl [] wc).drew)).conv cp 38 Try.underlying38
  simp at l0 l0' l0''
  go_wp2
  go_region
  go_wp2
  go_end0
  exact ⟨rfl, by simpa using hC⟩

end Go.Proofs.Qxb6616066a
