import Derived.Test.Qxb6615927aReads
import Derived.Deep.DeepCutAuto
namespace Go.Proofs.Qxb6615927a
open Go.RowKit

theorem heap_alloc_last (w : World) (o : Obj) : (w.alloc o).heap[w.heap.size]? = some o := (MapKept.heap_alloc w o).1
theorem blk_alloc_old {w : World} {b : Nat} {o o' : Obj} (h : w.heap[b]? = some o) : (w.alloc o').heap[b]? = some o := (Deep.blk_alloc_lt _ _ _ (lt_blk h)).trans h
theorem blk_set {w : World} {b : Nat} {c : Array Value} {t : TypeId} (h : w.heap[b]? = some (.cells c t)) (i : Nat) (v : Value) : (w.setCell ⟨b, i, none⟩ v).heap[b]? = some (.cells (c.setIfInBounds i v) t) := by
  simp only [World.setCell]
  rw [Array.getElem?_modify, if_pos rfl, h]
  rfl
theorem blk_set_other {w : World} {b : Nat} {o : Obj} (h : w.heap[b]? = some o) {a : Addr} (ha : b ≠ a.block) (v : Value) : (w.setCell a v).heap[b]? = some o := (Below.heap_setCell w a v b ha).trans h

/-- What 'keep' is about: the cache's block, its answers, and the two times in boxes. -/
structure InKeep (w : World) (cb : Nat) (p q : Value) (bi : Nat) (sw : Int) (m s m' s' : Int) (S : List Nat) (wx : World) (ba n : Nat) (D : DataW Unit) : Prop where
  cache : wx.heap[cb]? = some (.cells (cacheC p q (some ba) bi sw) 61)
  owns : wx.ownsMap Try.prog 68 ansE ba n D
  exp : wx.heap[w.heap.size]? = some (.cells (tmCells m s) 48)
  now : wx.heap[w.heap.size + 1]? = some (.cells (tmCells m' s') 48)
  kept : Kp S w wx

theorem InKeep.alloc {w : World} {cb : Nat} {p q : Value} {bi : Nat} {sw m s m' s' : Int} {S : List Nat} {wx : World} {ba n : Nat} {D : DataW Unit} (h : InKeep w cb p q bi sw m s m' s' S wx ba n D) (o : Obj) : InKeep w cb p q bi sw m s m' s' S (wx.alloc o) ba n D :=
  ⟨blk_alloc_old h.cache, h.owns.alloc o, blk_alloc_old h.exp, blk_alloc_old h.now, h.kept.alloc o⟩
theorem InKeep.drew {w : World} {cb : Nat} {p q : Value} {bi : Nat} {sw m s m' s' : Int} {S : List Nat} {wx : World} {ba n : Nat} {D : DataW Unit} (h : InKeep w cb p q bi sw m s m' s' S wx ba n D) : InKeep w cb p q bi sw m s m' s' S wx.drew ba n D :=
  ⟨h.cache, h.owns.drew, h.exp, h.now, h.kept.drew⟩
/-- .. while an iterator, or another block that is none of these, turns. -/
theorem InKeep.grown {w : World} {cb : Nat} {p q : Value} {bi : Nat} {sw m s m' s' : Int} {S : List Nat} {wx wy : World} {ba n r : Nat} {D : DataW Unit} (h : InKeep w cb p q bi sw m s m' s' S wx ba n D) (hg : wx.grownBy wy (some r)) (hr : w.heap.size + 1 < r) (h1 : r ≠ cb) (h2 : r ≠ ba) : InKeep w cb p q bi sw m s m' s' S wy ba n D :=
  ⟨(hg.block _ (lt_blk h.cache) (by simp; omega)).trans h.cache, h.owns.kept hg (by simp; omega), (hg.block _ (lt_blk h.exp) (by simp; omega)).trans h.exp, (hg.block _ (lt_blk h.now) (by simp; omega)).trans h.now,
    h.kept.grown hg (fun j hj => by cases hj; right; omega)⟩
/-- .. while the answers turn. -/
theorem InKeep.turned {w : World} {cb : Nat} {p q : Value} {bi : Nat} {sw m s m' s' : Int} {S : List Nat} {wx wy : World} {ba n n' : Nat} {D D' : DataW Unit} (h : InKeep w cb p q bi sw m s m' s' S wx ba n D) (hg : wx.mapTurned wy ba) (ho : wy.ownsMap Try.prog 68 ansE ba n' D') (hS : ba ∈ S ∨ w.heap.size ≤ ba) (h1 : ba ≠ cb) (h2 : ba ≠ w.heap.size) (h3 : ba ≠ w.heap.size + 1) : InKeep w cb p q bi sw m s m' s' S wy ba n' D' :=
  ⟨(hg.grown.block _ (lt_blk h.cache) (by simp; omega)).trans h.cache, ho, (hg.grown.block _ (lt_blk h.exp) (by simp; omega)).trans h.exp, (hg.grown.block _ (lt_blk h.now) (by simp; omega)).trans h.now,
    h.kept.grown hg.grown (fun j hj => by cases hj; exact hS)⟩

/-- What is to be found behind 'keep': every key of DD. -/
def Good (DD D : DataW Unit) (left : Lit → Bool) (m s : Int) : Prop := ∀ l, Maps.has DD l = true → left l = false → Maps.has D l = true ∧ ∀ z, D.atKey l z = ansD m s

theorem Good.put {DD D : DataW Unit} {left : Lit → Bool} {m s : Int} (h : Good DD D left m s) (hm : Maps.IsMap D) {kl : Lit} (hk : WideAt.IsKeyLit kl) : Good DD (D.put kl (ansD m s)) (fun z => left z && !z.sameKey kl) m s := by
  intro l h1 h2
  by_cases e : l = kl
  · subst e
    exact ⟨Maps.has_put_same hm hk _, fun z => Maps.atKey_put_same hm hk _ _⟩
  · simp only [Maps.sameKey_ne e] at h2
    simp at h2
    rw [Maps.has_put_other e]
    obtain ⟨g1, g2⟩ := h l h1 h2
    exact ⟨g1, fun z => (Maps.atKey_put_other e _ _).trans (g2 z)⟩

section
variable (w : World) {ops : Array Oper} {rest : List Oper} {o : Oper} {a : Act} {Q : Exit → Act → World → Prop}
/-- A step of a range over a map of nil slices. -/
theorem next_nil (hg : o.guard = none) (it : Operand) (hop : o.op = Op.next it false) (b r n : Nat) (D : DataW Unit) (left : Lit → Bool) (cnt : Nat)
    (hit : a.eval it = .pointer (some ⟨r, 0, none⟩)) (h : w.ranges Try.prog 68 nilE b r n D left cnt)
    (hDone : (∀ kl, left kl = false) → wpList Try.prog ops Q rest (a.put o.dst (.tuple #[.bool false])) w)
    (hMore : ∀ (x0 x1 x2 x3 : Int) (kl : Lit) (w' : World) (cnt' : Nat), keyOf Try.prog 68 (.agg #[.int .u8 x0, .int .u8 x1, .int .u8 x2, .int .u8 x3]) = some kl → w'.ranges Try.prog 68 nilE b r n D (fun z => left z && !z.sameKey kl) cnt' → cnt' < cnt →
      w.grownBy w' (some r) → w'.heap.size = w.heap.size → (Instr.entry (.pointer (some ⟨r, 0, none⟩))).run Try.prog w' = .ok (.tuple #[.agg #[.int .u8 x0, .int .u8 x1, .int .u8 x2, .int .u8 x3], .slice none 0 0]) w' →
      wpList Try.prog ops Q rest (a.put o.dst (.tuple #[.bool true, .agg #[.int .u8 x0, .int .u8 x1, .int .u8 x2, .int .u8 x3], .slice none 0 0])) w') :
    wpList Try.prog ops Q (o :: rest) a w :=
  wpList_next_ranges w hg it hop 68 law68 nilE four (fun _ : Unit => .slice none 0 0) (fun _ _ hk => key4_inv hk) (fun _ _ hv => nilE_inv hv) b r n D left cnt hit h (fun _ => hDone)
    (fun x _ kl _ w' cnt' hk _ _ _ hr hlt hgr hsz hen => hMore x.1 x.2.1 x.2.2.1 x.2.2.2 kl w' cnt' hk hr hlt hgr hsz hen)
/-- A step of a range over the answers. -/
theorem next_ans (hg : o.guard = none) (it : Operand) (hop : o.op = Op.next it false) (b r n : Nat) (D : DataW Unit) (left : Lit → Bool) (cnt : Nat)
    (hit : a.eval it = .pointer (some ⟨r, 0, none⟩)) (h : w.ranges Try.prog 68 ansE b r n D left cnt)
    (hDone : (∀ kl, left kl = false) → wpList Try.prog ops Q rest (a.put o.dst (.tuple #[.bool false])) w)
    (hMore : ∀ (x0 x1 x2 x3 m s : Int) (kl : Lit) (w' : World) (cnt' : Nat), keyOf Try.prog 68 (.agg #[.int .u8 x0, .int .u8 x1, .int .u8 x2, .int .u8 x3]) = some kl → 0 ≤ m → m < 1000000000 → (∀ zd, D.atKey kl zd = ansD m s) → w'.ranges Try.prog 68 ansE b r n D (fun z => left z && !z.sameKey kl) cnt' → cnt' < cnt →
      w.grownBy w' (some r) → w'.heap.size = w.heap.size → (Instr.entry (.pointer (some ⟨r, 0, none⟩))).run Try.prog w' = .ok (.tuple #[.agg #[.int .u8 x0, .int .u8 x1, .int .u8 x2, .int .u8 x3], .agg #[.slice none 0 0, .int .u64 m, .int .i64 s, .pointer none]]) w' →
      wpList Try.prog ops Q rest (a.put o.dst (.tuple #[.bool true, .agg #[.int .u8 x0, .int .u8 x1, .int .u8 x2, .int .u8 x3], .agg #[.slice none 0 0, .int .u64 m, .int .i64 s, .pointer none]])) w') :
    wpList Try.prog ops Q (o :: rest) a w :=
  wpList_next_ranges w hg it hop 68 law68 ansE four ansV (fun _ _ hk => key4_inv hk) (fun _ _ hv => ansE_inv hv) b r n D left cnt hit h (fun _ => hDone)
    (fun x c kl y w' cnt' hk _ hv hat hr hlt hgr hsz hen => by
      obtain ⟨g0, g1, g2⟩ := ansE_of hv
      refine hMore x.1 x.2.1 x.2.2.1 x.2.2.2 c.1 c.2 kl w' cnt' hk g0 g1 (fun zd => ?_) hr hlt hgr hsz hen
      rw [hat zd, g2])
end

theorem Good.del {DD D : DataW Unit} {m s m' s' em es : Int} (h : s' * 1000000000 + m' < s * 1000000000 + m → Good DD D (fun _ => false) m s) {kl : Lit} (hat : ∀ zd, D.atKey kl zd = ansD em es) (hnb : ¬ s' * 1000000000 + m' < es * 1000000000 + em) :
    s' * 1000000000 + m' < s * 1000000000 + m → Good DD (D.del kl) (fun _ => false) m s := by
  intro hb l h1 h2
  obtain ⟨g1, g2⟩ := h hb l h1 h2
  have e : l ≠ kl := by
    intro e
    subst e
    obtain ⟨e1, e2⟩ := ansD_inj ((hat .nil).symm.trans (g2 .nil))
    subst e1 e2
    exact hnb hb
  rw [Maps.has_del_other e]
  exact ⟨g1, fun z => (Maps.atKey_del_other e _).trans (g2 z)⟩

theorem ranges_drew {w : World} {R : Value → Option (DataW Unit × List MemPlace)} {b r n : Nat} {D : DataW Unit} {left : Lit → Bool} {cnt : Nat} (h : w.ranges Try.prog 68 R b r n D left cnt) : w.drew.ranges Try.prog 68 R b r n D left cnt := h

/-- WHAT 'keep' LEAVES. -/
def Kept (cb : Nat) (p q : Value) (ma : Option Nat) (bi : Nat) (DD : DataW Unit) (m s m' s' : Int) (N : Nat) (w w' : World) : Prop :=
  ∃ ba sw D, w'.heap[cb]? = some (.cells (cacheC p q (some ba) bi sw) 61) ∧ w'.ownsMap Try.prog 68 ansE ba N D ∧ 1024 ≤ sw ∧ (Maps.size D : Int) < sw ∧
    (s' * 1000000000 + m' < s * 1000000000 + m → Good DD D (fun _ => false) m s) ∧ Kp (cb :: ma.toList) w w' ∧ ((ba ∈ cb :: ma.toList ∧ ba < w.heap.size) ∨ w.heap.size + 1 < ba)

set_option maxRecDepth 100000 in
set_option maxHeartbeats 1000000 in
theorem keep_any (cb : Nat) (p q : Value) (ma : Option Nat) (bi : Nat) (sw : Int) (am nD : Nat) (DD : DataW Unit) (m s m' s' : Int) (N : Nat) (w : World)
    (hc : w.heap[cb]? = some (.cells (cacheC p q ma bi sw) 61)) (hD : w.ownsMap Try.prog 68 nilE am nD DD) (hma : ∀ ba, ma = some ba → ∃ DB, w.ownsMap Try.prog 68 ansE ba N DB ∧ ba ≠ am)
    (hN : N + nD ≤ 4000000) (h0 : 0 ≤ m) (h1 : m < 1000000000) (h0' : 0 ≤ m') (h1' : m' < 1000000000) (hne : am ≠ cb) (hsw : sw = 0 ∨ 1024 ≤ sw) :
    Calls Try.prog 28 #[.pointer (some ⟨cb, 0, none⟩), .map (some am), .agg (tmCells m s), .agg (tmCells m' s')] w fun e w' => e = .returned (.tuple #[]) ∧ Kept cb p q ma bi DD m s m' s' (N + nD) w w' := by
  have hmm := @run_makeMap Try.prog
  have hcm : ∀ (w : World) (r : Option Nat), (binOp .eql 59 (.map r) (.map none)).run Try.prog w = .ok (.bool r.isNone) w := fun w r => run_eql_map_nil w _ _ _ r Try.underlying59
  have hcb := lt_blk hc
  have c2 : ∀ o o', ((w.alloc o).alloc o').cell? ⟨cb, 2, none⟩ = some (.map ma) := fun o o' => (World.cell?_alloc_past _ _ _ (by simp; omega)).trans ((World.cell?_alloc_past _ _ _ hcb).trans (by simpa using cell_blk hc 2))
  have f2 : ∀ o o', ((w.alloc o).alloc o').frozen? ⟨cb, 2, none⟩ = false := fun o o' => (World.frozen?_alloc_past _ _ _ (by simp; omega)).trans ((World.frozen?_alloc_past _ _ _ hcb).trans (frozen_blk hc 2))
  have c3 : ∀ o o' o'', (((w.alloc o).alloc o').alloc o'').cell? ⟨cb, 2, none⟩ = some (.map ma) := fun o o' o'' => (World.cell?_alloc_past _ _ _ (by simp; omega)).trans (c2 o o')
  have f3 : ∀ o o' o'', (((w.alloc o).alloc o').alloc o'').frozen? ⟨cb, 2, none⟩ = false := fun o o' o'' => (World.frozen?_alloc_past _ _ _ (by simp; omega)).trans (f2 o o')
  go_enter Try.func28, Try.ntmps28
  go_upto_if 16 with fail
  go_cut [] (fun wx => ∃ ba D, InKeep w cb p q bi sw m s m' s' (cb :: ma.toList) wx ba N D ∧ wx.ownsMap Try.prog 68 nilE am nD DD ∧ ba ≠ am ∧ ba ≠ cb ∧ ((ba ∈ cb :: ma.toList ∧ ba < w.heap.size) ∨ w.heap.size + 1 < ba))
  case first =>
    cases ma with
    | none =>
      go_wp2
      go_meet
      case rel =>
        have b3 := blk_set (blk_alloc_old (o' := .map #[] 0) (blk_alloc_old (o' := .cells (tmCells m' s') 48) (blk_alloc_old (o' := .cells (tmCells m s) 48) hc))) 2 (.map (some (w.heap.size + 1 + 1)))
        have hw2 : ((w.alloc (.cells (tmCells m s) 48)).alloc (.cells (tmCells m' s') 48)).heap.size = w.heap.size + 1 + 1 := by simp
        have hown := World.ownsMap_made ((w.alloc (.cells (tmCells m s) 48)).alloc (.cells (tmCells m' s') 48)) Try.prog 68 ansE
        rw [hw2] at hown
        refine ⟨w.heap.size + 1 + 1, .map [], ⟨by simpa using b3, ((hown.setCell (by simp; omega) _).mono (Nat.zero_le _)), ?_, ?_, ?_⟩, ?_, ?_, ?_, ?_⟩
        · exact blk_set_other (blk_alloc_old (blk_alloc_old (heap_alloc_last _ _))) (by simp; omega) _
        · refine blk_set_other (blk_alloc_old ?_) (by simp; omega) _
          have := heap_alloc_last (w.alloc (.cells (tmCells m s) 48)) (.cells (tmCells m' s') 48)
          simpa using this
        · exact ((((Kp.refl _ _).alloc _).alloc _).alloc _).setCell (.inl (by simp)) _
        · exact ((((hD.alloc _).alloc _).alloc _).setCell (by simpa using hne) _)
        · have := hD.lt; omega
        · omega
        · right; omega
    | some ba =>
      go_wp2
      go_meet
      case rel =>
        obtain ⟨DB, hB, hn⟩ := hma ba rfl
        have hbl := hB.lt
        refine ⟨ba, DB, ⟨blk_alloc_old (blk_alloc_old hc), (hB.alloc _).alloc _, blk_alloc_old (heap_alloc_last _ _), ?_, ((Kp.refl _ _).alloc _).alloc _⟩, (hD.alloc _).alloc _, hn, ?_, ?_⟩
        · have := heap_alloc_last (w.alloc (.cells (tmCells m s) 48)) (.cells (tmCells m' s') 48)
          simpa using this
        · intro e
          subst e
          obtain ⟨es, clock, hb, _⟩ := hB
          rw [hc] at hb
          cases hb
        · left; simp; omega
  case rest =>
  obtain ⟨ba, D, hin, hD1, hne1, hne2, hloc⟩ := hcut
  clear c2 c3 f2 f3 hmm hcm
  have hszD := hD.size_le
  have hbaS : ba ∈ cb :: ma.toList ∨ w.heap.size ≤ ba := by
    rcases hloc with h | h
    · exact .inl h.1
    · exact .inr (by omega)
  have hba1 : ba ≠ w.heap.size := by omega
  have hba2 : ba ≠ w.heap.size + 1 := by omega
  go_wp2_with (first | (at_range; refine wpList_range_own _ rfl _ 44 rfl 68 64 law68 Try.underlying44 nilE am nD DD rfl hD1 ?_; intro w0 hrg0 hg0 hs0) | go_in)
  go_frame
  go_loopg [8] (Maps.size DD) (fun cnt _ wr => ∃ left n1 D1, wr.ranges Try.prog 68 nilE am wc.heap.size nD DD left cnt ∧ InKeep w cb p q bi sw m s m' s' (cb :: ma.toList) wr ba n1 D1 ∧ n1 + cnt ≤ N + Maps.size DD ∧ Good DD D1 left m s)
  case atStart =>
    refine ⟨_, N, D, hrg0, ⟨(hg0.block _ (lt_blk hin.cache) (by simp)).trans hin.cache, hin.owns.kept hg0 (by simp), (hg0.block _ (lt_blk hin.exp) (by simp)).trans hin.exp, (hg0.block _ (lt_blk hin.now) (by simp)).trans hin.now, hin.kept.grown hg0 (fun j hj => by cases hj)⟩, by omega, ?_⟩
    intro l e1 e2
    rw [e1] at e2
    cases e2
  case round =>
    obtain ⟨left, n1, D1, hrg, hin1, hn1, hgd⟩ := hrel
    have hszc := lt_blk hin.now
    have hcbc := lt_blk hin.cache
    have hbac := hin.owns.lt
    go_wp2_with (first | (at_next; refine next_nil _ rfl _ rfl am wc.heap.size nD DD _ _ rfl hrg ?_ ?_) | go_in)
    · intro hl0
      have hgd0 : Good DD D1 (fun _ => false) m s := fun l e1 _ => hgd l e1 (hl0 l)
      have hn2 : n1 ≤ N + nD := by omega
      have hD1n := hin1.owns.size_le
      have k2 := cell_blk hin1.cache 2
      have k4 := cell_blk hin1.cache 4
      simp at k2 k4
      have lA : ∀ nq ty, (Builtin.len_ #[59] ty #[.map (some ba)]).run Try.prog (wr.drewN nq) = .ok (.int .i64 (Maps.size D1)) (wr.drewN nq) := fun nq ty => World.ownsMap.len (w := wr.drewN nq) (by exact hin1.owns) Try.underlying59 ty
      clear hgd hrg hin hD1 hg0 hs0 hrg0 hma hl0
      by_cases hlt : (Maps.size D1 : Int) < sw
      · go_wp2
        go_quiet (fail)
        go_wp2
        refine bodyPost_ret (results_none rfl _ _ _) rfl ?_
        refine ⟨rfl, ba, sw, D1, hin1.cache, hin1.owns.mono hn2, by omega, hlt, fun _ => hgd0, ?_, hloc⟩
        exact ⟨hin1.kept.os, hin1.kept.tape, hin1.kept.output, hin1.kept.size, hin1.kept.block⟩
      · go_wp2
        go_quiet (fail)
        have hin2 : InKeep w cb p q bi sw m s m' s' (cb :: ma.toList) (wr.drewN nq) ba n1 D1 := ⟨hin1.cache, hin1.owns, hin1.exp, hin1.now, ⟨hin1.kept.os, hin1.kept.tape, hin1.kept.output, hin1.kept.size, hin1.kept.block⟩⟩
        clear hin1 lA k2 k4 hszc hcbc hbac
        have hgd2 : s' * 1000000000 + m' < s * 1000000000 + m → Good DD D1 (fun _ => false) m s := fun _ => hgd0
        clear hgd0
        generalize wr.drewN nq = wd at *
        have k2 := cell_blk hin2.cache 2
        simp at k2
        go_wp2_with (first | (at_range; refine wpList_range_own _ rfl _ 59 rfl 68 66 law68 Try.underlying59 ansE ba n1 D1 rfl hin2.owns ?_; intro w0 hrg0 hg0 hs0) | go_in)
        go_frame
        have hszc := lt_blk hin2.now
        have hcbc := lt_blk hin2.cache
        have hbac := hin2.owns.lt
        go_loopg [10] (Maps.size D1) (fun cnt _ wy => ∃ left D2, wy.ranges Try.prog 68 ansE ba wd.heap.size n1 D2 left cnt ∧ InKeep w cb p q bi sw m s m' s' (cb :: ma.toList) wy ba n1 D2 ∧ (s' * 1000000000 + m' < s * 1000000000 + m → Good DD D2 (fun _ => false) m s))
        case atStart => exact ⟨_, D1, hrg0, ⟨(hg0.block _ (lt_blk hin2.cache) (by simp)).trans hin2.cache, hin2.owns.kept hg0 (by simp), (hg0.block _ (lt_blk hin2.exp) (by simp)).trans hin2.exp, (hg0.block _ (lt_blk hin2.now) (by simp)).trans hin2.now, hin2.kept.grown hg0 (fun j hj => by cases hj)⟩, hgd2⟩
        case round =>
          clear hrg0 hg0 hin2 hgd2 k2
          obtain ⟨left, D2, hrg, hin1, hgd⟩ := hrel
          go_wp2_with (first | (at_next; refine next_ans _ rfl _ rfl ba wd.heap.size n1 D2 _ _ rfl hrg ?_ ?_) | go_in)
          · intro hl0
            have hD2n := hin1.owns.size_le
            have k2 := cell_blk hin1.cache 2
            have k4 := cell_blk hin1.cache 4
            have f4 := frozen_blk hin1.cache 4
            simp at k2 k4
            have lA : ∀ ty, (Builtin.len_ #[59] ty #[.map (some ba)]).run Try.prog wr = .ok (.int .i64 (Maps.size D2)) wr := fun ty => hin1.owns.len Try.underlying59 ty
            have hfin : ∀ v : Int, 1024 ≤ v → (Maps.size D2 : Int) < v → Kept cb p q ma bi DD m s m' s' (N + nD) w (wr.setCell ⟨cb, 4, none⟩ (.int .i64 v)) := fun v hv1 hv2 =>
              ⟨ba, v, D2, by simpa using blk_set hin1.cache 4 (.int .i64 v), (hin1.owns.setCell hne2 _).mono hn2, hv1, hv2, hgd, hin1.kept.setCell (.inl (by simp)) _, hloc⟩
            go_wp2
            all_goals (go_end0; exact ⟨rfl, hfin _ (by omega) (by omega)⟩)
          · intro x0 x1 x2 x3 em es kl w1 cnt1 hkey em0 em1 hat hrg1 hlt hg1 hs1 hen
            have HS : Hid (w1.heap.size = wr.heap.size) := hs1
            clear hs1
            have hin2 := ((hin1.grown hg1 (by omega) (by omega) (by omega)).alloc (.cells #[.int .u8 x0, .int .u8 x1, .int .u8 x2, .int .u8 x3] 68)).alloc (.cells #[.slice none 0 0, .int .u64 em, .int .i64 es, .pointer none] 66)
            have hin3 := (hin2.alloc (.cells #[.int .u64 m', .int .i64 s', .pointer none] 48)).alloc (.cells #[.int .u64 em, .int .i64 es, .pointer none] 48)
            have hrg3 := (((hrg1.alloc (.cells #[.int .u8 x0, .int .u8 x1, .int .u8 x2, .int .u8 x3] 68)).alloc (.cells #[.slice none 0 0, .int .u64 em, .int .i64 es, .pointer none] 66)).alloc (.cells #[.int .u64 m', .int .i64 s', .pointer none] 48)).alloc (.cells #[.int .u64 em, .int .i64 es, .pointer none] 48)
            have e0 := cell_blk hin2.now 0
            have e1 := cell_blk hin2.now 1
            have e2 := cell_blk hin2.now 2
            simp at e0 e1 e2
            by_cases hbf : s' * 1000000000 + m' < es * 1000000000 + em
            · go_wp2_with (go_at_call 35; refine (before_any m' s' em es _ h0' h1' em0 em1).mono ?_; rintro e w' ⟨rfl, rfl⟩)
              go_roundg cnt1
              case measure => exact hlt
              case rel => exact ⟨_, D2, hrg3, hin3, hgd⟩
            · have hgd4 := Good.del hgd hat hbf
              have k2 := cell_blk hin3.cache 2
              simp at k2
              have hd : decide (s' * 1000000000 + m' < es * 1000000000 + em) = false := decide_eq_false hbf
              obtain ⟨w4, cnt4, hdel, hrg4, hle4, hturn⟩ := World.ranges.drop (ranges_drew hrg3) law68 Try.underlying59 hkey 0
              go_wp2_with (go_at_call 35; refine (before_any m' s' em es _ h0' h1' em0 em1).mono ?_; rintro e w' ⟨rfl, rfl⟩)
              have hin4 := hin3.drew.turned hturn hrg4.owns hbaS hne2 hba1 hba2
              clear hturn hrg3 hrg1 hrg hin1 hin2 hin3 hg1 hd hgd hat
              go_region
              go_wp2
              go_roundg cnt4
              case measure => omega
              case rel => exact ⟨_, _, hrg4, hin4, hgd4⟩
    · intro x0 x1 x2 x3 kl w1 cnt1 hkey hrg1 hlt hg1 hs1 hen
      have HS : Hid (w1.heap.size = wr.heap.size) := hs1
      clear hs1
      have hin2 := (hin1.grown hg1 (by omega) (by omega) (by omega)).alloc (.cells #[.int .u8 x0, .int .u8 x1, .int .u8 x2, .int .u8 x3] 68)
      obtain ⟨w3, hup, hown3, hturn⟩ := hin2.drew.owns.store law68 Try.underlying59 (by unfold maxLen; omega) hkey (ansE_mk (m := m) (s := s) h0 h1)
      have k2 := cell_blk hin2.cache 2
      have e0 := cell_blk hin2.exp 0
      have e1 := cell_blk hin2.exp 1
      have e2 := cell_blk hin2.exp 2
      simp at k2 e0 e1 e2
      have hin3 := hin2.drew.turned hturn hown3 hbaS hne2 hba1 hba2
      have hrg2 : (w1.alloc (.cells #[.int .u8 x0, .int .u8 x1, .int .u8 x2, .int .u8 x3] 68)).drew.ranges Try.prog 68 nilE am wc.heap.size nD DD (fun z => left z && !z.sameKey kl) cnt1 := hrg1.alloc _
      have hrg3 := hrg2.kept hturn.grown (by simp; omega) (by simp; omega)
      have hgd3 := hgd.put hin1.owns.isMap (law68.key hkey)
      clear hrg2 hturn hown3 hin2 hgd hin1 hg1
      go_wp2
      go_region
      go_wp2
      go_roundg cnt1
      case measure => exact hlt
      case rel => exact ⟨_, n1 + 1, _, hrg3, hin3, by omega, hgd3⟩

end Go.Proofs.Qxb6615927a
