import Derived.Test.Qxb6615927aKeep
import Derived.Conc.MuLone
import Derived.Conc.EventLaws
import Derived.Conc.SmallLaws
import Derived.Defers
namespace Go.Proofs.Qxb6615927a
open Go.RowKit Go.MuLone

abbrev muLink : Go.Conc.Locks.MuLink := { lock := 26, unlock := 27, ilock := 33, iunlock := 34, lockSlow := 41, unlockSlow := 44, disable := 37, enable := 39, acquire := 40, relMerge := 42, cas32 := 38, add32 := 43, tMutex := 58, tIMutex := 56, tPMutex := 91, tPIMutex := 93, tPI32 := 95, tUP := 97, tNoCopy := 53, tU32 := 54 }
theorem muLib : Go.Conc.Locks.MuLib Try.prog muLink :=
  ⟨Try.func26, Try.func27, Try.func33, Try.func34, Try.func37, Try.func39, Try.func40, Try.func42, Try.func38, Try.func43, Try.underlying56, Try.runUnderlying56, Try.sizeOf56, Try.isAgg56, Try.zeroValue56, Try.underlying58, Try.runUnderlying58, Try.sizeOf58, Try.isAgg58, Try.zeroValue58, Try.underlying91, Try.runUnderlying91, Try.sizeOf91, Try.isAgg91, Try.zeroValue91, Try.underlying93, Try.runUnderlying93, Try.sizeOf93, Try.isAgg93, Try.zeroValue93, Try.underlying95, Try.runUnderlying95, Try.sizeOf95, Try.isAgg95, Try.zeroValue95, Try.underlying97, Try.runUnderlying97, Try.sizeOf97, Try.isAgg97, Try.zeroValue97, Try.underlying53, Try.runUnderlying53, Try.sizeOf53, Try.isAgg53, Try.zeroValue53, Try.underlying21, Try.runUnderlying21, Try.sizeOf21, Try.isAgg21, Try.zeroValue21, (by kernel_rfl)⟩

/-- An open channel nobody has used. -/
abbrev openChan : Obj := .chan 0 #[] false 0 0 false
theorem mkChan (w : World) : (Instr.makeChan 43 (.int .i64 0)).run Try.prog w = .ok (.chan (some w.heap.size)) (w.alloc openChan) := by
  have h : (Try.prog.info? 52).map (·.bytes) = some 0 := by kernel_rfl
  obtain ⟨i, hi, hb⟩ := Option.map_eq_some_iff.1 h
  simpa using Conc.run_makeChan (P := Try.prog) (w := w) Try.underlying43 hi .i64 0 (by omega) (by rw [hb]; omega)

/-- The search's cells. -/
abbrev searchC (pb n hb : Nat) (x2 x3 x4 x5 x6 x7 : Value) : Array Value := #[.slice (some ⟨pb, 0, none⟩) n n, .chan (some hb), x2, x3, x4, x5, x6, x7]

/-- What 'end' is about while it strikes the prefixes: the lock is held. -/
structure InEnd (w : World) (cb : Nat) (q : Value) (ma : Option Nat) (bi : Nat) (sw : Int) (sb : Nat) (sc : Array Value) (pb n : Nat) (K : Nat → Int) (m' s' : Int) (wx : World) (nI : Nat) (DI : DataW Unit) : Prop where
  cache : wx.heap[cb]? = some (.cells (cacheC (.int .i32 1) q ma bi sw) 61)
  search : wx.heap[sb]? = some (.cells sc 50)
  prow : wx.rowIs pb 68 (n * 4) (fun c => .int .u8 (K c))
  now : wx.heap[w.heap.size]? = some (.cells (tmCells m' s') 48)
  owns : wx.ownsMap Try.prog 68 anyE bi nI DI
  kept : Kp [cb, bi, sb] w wx

section
variable {w : World} {cb : Nat} {q : Value} {ma : Option Nat} {bi : Nat} {sw : Int} {sb : Nat} {sc : Array Value} {pb n : Nat} {K : Nat → Int} {m' s' : Int} {wx wy : World} {nI nI' : Nat} {DI DI' : DataW Unit}
theorem InEnd.alloc (h : InEnd w cb q ma bi sw sb sc pb n K m' s' wx nI DI) (o : Obj) : InEnd w cb q ma bi sw sb sc pb n K m' s' (wx.alloc o) nI DI :=
  ⟨blk_alloc_old h.cache, blk_alloc_old h.search, h.prow.alloc o, blk_alloc_old h.now, h.owns.alloc o, h.kept.alloc o⟩
theorem InEnd.drew (h : InEnd w cb q ma bi sw sb sc pb n K m' s' wx nI DI) : InEnd w cb q ma bi sw sb sc pb n K m' s' wx.drew nI DI :=
  ⟨h.cache, h.search, h.prow.drew, h.now, h.owns.drew, h.kept.drew⟩
theorem InEnd.turned (h : InEnd w cb q ma bi sw sb sc pb n K m' s' wx nI DI) (hg : wx.mapTurned wy bi) (ho : wy.ownsMap Try.prog 68 anyE bi nI' DI') (h1 : cb ≠ bi) (h2 : sb ≠ bi) (h3 : pb ≠ bi) (h4 : w.heap.size ≠ bi) : InEnd w cb q ma bi sw sb sc pb n K m' s' wy nI' DI' :=
  ⟨(hg.grown.block _ (lt_blk h.cache) (by simp; omega)).trans h.cache, (hg.grown.block _ (lt_blk h.search) (by simp; omega)).trans h.search, h.prow.of_block (hg.grown.block _ h.prow.lt (by simp; omega)), (hg.grown.block _ (lt_blk h.now) (by simp; omega)).trans h.now, ho,
    h.kept.grown hg.grown (fun j hj => by cases hj; simp)⟩
/-- A field of the search is written. -/
theorem InEnd.set (h : InEnd w cb q ma bi sw sb sc pb n K m' s' wx nI DI) (i : Nat) (v : Value) (h1 : cb ≠ sb) (h2 : bi ≠ sb) (h3 : pb ≠ sb) (h4 : sb < w.heap.size) : InEnd w cb q ma bi sw sb (sc.setIfInBounds i v) pb n K m' s' (wx.setCell ⟨sb, i, none⟩ v) nI DI :=
  ⟨blk_set_other h.cache h1 _, blk_set h.search i v, h.prow.setOther h3 _, blk_set_other h.now (by simp; omega) _, h.owns.setCell h2 _, h.kept.setCell (.inl (by simp)) _⟩
end

/-- What is left in flight behind k deletions. -/
def Flying (DI : DataW Unit) (L : Nat → Lit) (n k : Nat) : Prop := ∀ l, Maps.has DI l = true → (∃ i, i < n ∧ l = L i) ∧ ∀ j, j < k → l ≠ L j
theorem Flying.step {DI : DataW Unit} {L : Nat → Lit} {n k : Nat} (h : Flying DI L n k) : Flying (DI.del (L k)) L n (k + 1) := by
  intro l hl
  by_cases e : l = L k
  · subst e
    rw [Maps.has_del_same] at hl
    cases hl
  · rw [Maps.has_del_other e] at hl
    obtain ⟨h1, h2⟩ := h l hl
    refine ⟨h1, fun j hj => ?_⟩
    by_cases ej : j = k
    · subst ej; exact e
    · exact h2 j (by omega)
theorem Flying.none {DI : DataW Unit} {L : Nat → Lit} {n : Nat} (h : Flying DI L n n) (l : Lit) : Maps.has DI l = false := by
  cases hl : Maps.has DI l
  · rfl
  · obtain ⟨⟨i, hi, e⟩, h2⟩ := h l hl
    exact absurd e (h2 i hi)

/-- A statement that neither panics nor leaves: what stands behind those ends is not asked. -/
theorem wp_calm {P : Program} {s : Code} {K : Act → World → Prop} {Q' : Exit → Act → World → Prop} {a : Act} {w : World} (h : s.wp P (Exit.then K (fun _ _ _ => False)) a w) : s.wp P (Exit.then K Q') a w := by
  refine wp_mono h ?_
  intro e a' w' hq
  cases e with
  | normal => exact hq
  | exit id => exact hq.elim
  | goto l => exact hq.elim
  | ret => exact hq.elim
  | panic ch => exact hq.elim
  | outgrown => exact hq.elim

theorem grown_set (w : World) (b : Nat) (o : Obj) : w.grownBy { w with heap := w.heap.setIfInBounds b o } (some b) :=
  ⟨rfl, rfl, rfl, by simp, fun k _ hk => by
    show (w.heap.setIfInBounds b o)[k]? = _
    rw [Array.getElem?_setIfInBounds_ne (fun e => hk (by rw [e]))]⟩

/-- WHAT 'end' LEAVES. -/
def Ended (cb : Nat) (q : Value) (ma : Option Nat) (bi : Nat) (sb hb : Nat) (DD : DataW Unit) (keep m s : Int) (N nI : Nat) (w w' : World) : Prop :=
  ∃ ba sw D DI, w'.heap[cb]? = some (.cells (cacheC (.int .i32 0) q (some ba) bi sw) 61) ∧ w'.ownsMap Try.prog 68 ansE ba N D ∧ 1024 ≤ sw ∧ (Maps.size D : Int) < sw ∧
    (0 < keep → Good DD D (fun _ => false) m s) ∧ w'.ownsMap Try.prog 68 anyE bi nI DI ∧ (∀ l, Maps.has DI l = false) ∧ Kp ([cb, sb, hb, bi] ++ ma.toList) w w' ∧ (ba ∈ ma.toList ∨ w.heap.size ≤ ba)

set_option maxRecDepth 100000 in
set_option maxHeartbeats 1000000 in
theorem end_any (cb : Nat) (q : Value) (ma : Option Nat) (bi : Nat) (sw : Int) (sb pb n hb : Nat) (x2 x3 x4 x5 x6 x7 : Value) (K : Nat → Int) (L : Nat → Lit) (am nD : Nat) (DD : DataW Unit) (nI : Nat) (DI : DataW Unit) (keep m' s' : Int) (N : Nat) (w : World)
    (hc : w.heap[cb]? = some (.cells (cacheC (.int .i32 0) q ma bi sw) 61)) (hsb : w.heap[sb]? = some (.cells (searchC pb n hb x2 x3 x4 x5 x6 x7) 50)) (hpb : w.rowIs pb 68 (n * 4) (fun c => .int .u8 (K c))) (hhb : w.heap[hb]? = some openChan)
    (hD : w.ownsMap Try.prog 68 nilE am nD DD) (hI : w.ownsMap Try.prog 68 anyE bi nI DI) (hfl : Flying DI L n 0) (hL : ∀ i, i < n → keyOf Try.prog 68 (kv K i) = some (L i))
    (hma : ∀ ba, ma = some ba → ∃ DB, w.ownsMap Try.prog 68 ansE ba N DB ∧ ba ≠ am ∧ ba ≠ bi) (hab : am ≠ bi) (hsp : sb ≠ pb)
    (hN : N + nD ≤ 4000000) (hn : n ≤ 1048576) (h0' : 0 ≤ m') (h1' : m' < 1000000000) (hs1 : -10000000000 ≤ s') (hs2 : s' ≤ 10000000000) (hk1 : -9223372036854775808 ≤ keep) (hk2 : keep ≤ 9223372036854775807) (hsw : sw = 0 ∨ 1024 ≤ sw) :
    Calls Try.prog 17 #[.pointer (some ⟨cb, 0, none⟩), .pointer (some ⟨sb, 0, none⟩), .map (some am), .int .i64 keep, .nilIface, .bool false, .agg (tmCells m' s')] w fun e w' => e = .returned (.tuple #[]) ∧
      Ended cb q ma bi sb hb DD keep ((m' + keep) % 1000000000) (s' + (m' + keep) / 1000000000) (N + nD) nI w w' := by
  have hcb := lt_blk hc
  have hsl := lt_blk hsb
  have hbi := hI.lt
  have hcbi : cb ≠ bi := by
    intro e; subst e
    obtain ⟨es, clock, h, _⟩ := hI
    rw [hc] at h; cases h
  have hsbi : sb ≠ bi := by
    intro e; subst e
    obtain ⟨es, clock, h, _⟩ := hI
    rw [hsb] at h; cases h
  have hacb : am ≠ cb := by
    intro e; subst e
    obtain ⟨es, clock, h, _⟩ := hD
    rw [hc] at h; cases h
  have hasb : am ≠ sb := by
    intro e; subst e
    obtain ⟨es, clock, h, _⟩ := hD
    rw [hsb] at h; cases h
  have hcs : cb ≠ sb := by
    intro e; subst e
    rw [hc] at hsb; cases hsb
  have hbcb : hb ≠ cb := by
    intro e; subst e
    rw [hc] at hhb; cases hhb
  have hbsb : hb ≠ sb := by
    intro e; subst e
    rw [hsb] at hhb; cases hhb
  have hbbi : hb ≠ bi := by
    intro e; subst e
    obtain ⟨es, clock, h, _⟩ := hI
    rw [hhb] at h; cases h
  have hsS : sb ∉ cb :: ma.toList := by
    intro h
    simp at h
    rcases h with h | h
    · exact hcs h.symm
    · obtain ⟨DB, ⟨es, clock, h1, _⟩, _⟩ := hma sb h
      rw [hsb] at h1; cases h1
  have hhS : hb ∉ cb :: ma.toList := by
    intro h
    simp at h
    rcases h with h | h
    · exact hbcb h
    · obtain ⟨DB, ⟨es, clock, h1, _⟩, _⟩ := hma hb h
      rw [hhb] at h1; cases h1
  have hhT : hb ∉ [cb, bi, sb] := by simp; omega
  have hbS : bi ∉ cb :: ma.toList := by
    intro h
    simp at h
    rcases h with h | h
    · exact hcbi h.symm
    · obtain ⟨DB, _, _, h3⟩ := hma bi h
      exact h3 rfl
  have hcp : cb ≠ pb := by
    intro e; subst e
    obtain ⟨c, h, _⟩ := hpb
    rw [hc] at h; cases h
  have hpbi : pb ≠ bi := by
    intro e; subst e
    obtain ⟨es, clock, h, _⟩ := hI
    obtain ⟨c, h', _⟩ := hpb
    rw [h] at h'; cases h'
  have c0 : ∀ o, (w.alloc o).cell? ⟨cb, 0, none⟩ = some (.int .i32 0) := fun o => (World.cell?_alloc_past _ _ _ hcb).trans (by simpa using cell_blk hc 0)
  have f0 : ∀ o, (w.alloc o).frozen? ⟨cb, 0, none⟩ = false := fun o => (World.frozen?_alloc_past _ _ _ hcb).trans (frozen_blk hc 0)
  have hin0 : InEnd w cb q ma bi sw sb (searchC pb n hb x2 x3 x4 x5 x6 x7) pb n K m' s' ((w.alloc (.cells (tmCells m' s') 48)).setCell ⟨cb, 0, none⟩ (.int .i32 1)) nI DI :=
    ⟨by simpa using blk_set (blk_alloc_old hc) 0 (.int .i32 1), blk_set_other (blk_alloc_old hsb) (by simpa using hcs.symm) _, (hpb.alloc _).setOther (by simpa using hcp.symm) _, blk_set_other (heap_alloc_last _ _) (by simp; omega) _, (hI.alloc _).setCell (by simpa using hcbi.symm) _, ((Kp.refl _ _).alloc _).setCell (.inl (by simp)) _⟩
  go_enter_defers Try.func17, Try.ntmps17
  go_wp2_with (go_at_call 26; refine (lock_free muLib ⟨cb, 0, none⟩ _ (c0 _) (f0 _)).mono ?_; rintro e w' ⟨rfl, hw1⟩; rw [← hw1] at hin0; clear hw1; have s0 := cell_blk hin0.search 0; simp at s0)
  clear c0 f0
  go_loopg [28] n (fun g i wr => ∃ (k : Nat) (D : DataW Unit), k + g = n ∧ i = .int .i64 k ∧ InEnd w cb q ma bi sw sb (searchC pb n hb x2 x3 x4 x5 x6 x7) pb n K m' s' wr nI D ∧ Flying D L n k)
  case atStart => exact ⟨0, DI, by omega, rfl, hin0, hfl⟩
  case round =>
    clear s0 hin0 hfl
    obtain ⟨k, D, hkg, rfl, hin, hfl⟩ := hrel
    by_cases hlt : k < n
    · have hkey := hL k hlt
      have r0 := hin.prow.cell (i := k * 4) (by omega)
      have r1 := hin.prow.cell (i := k * 4 + 1) (by omega)
      have r2 := hin.prow.cell (i := k * 4 + 2) (by omega)
      have r3 := hin.prow.cell (i := k * 4 + 3) (by omega)
      have hin1 := hin.alloc (.cells #[.int .u8 (K (k * 4)), .int .u8 (K (k * 4 + 1)), .int .u8 (K (k * 4 + 2)), .int .u8 (K (k * 4 + 3))] 68)
      have k3 := cell_blk hin1.cache 3
      simp at k3
      obtain ⟨w2, hdel, hown2, hturn⟩ := hin1.drew.owns.drop law68 Try.underlying51 hkey 0
      have hin2 := hin1.drew.turned hturn hown2 hcbi hsbi hpbi (by omega)
      have hfl2 := hfl.step
      have HK : Hid (k + gk = n) := hkg
      clear hkg hin hin1 hturn hown2 hfl hkey
      go_wp2
      go_region
      go_wp2
      go_roundg (gk - 1)
      case measure => have := HK.out; omega
      case rel => exact ⟨k + 1, _, by have := HK.out; omega, by go_num, hin2, hfl2⟩
    · obtain rfl : k = n := by omega
      have hno := hfl.none
      clear hfl
      go_upto_region 10 with fail
      go_cut [] from 16 (fun wx => InEnd w cb q ma bi sw sb (searchC pb k hb (.map (some am)) (.int .u64 ((m' + keep) % 1000000000)) (.int .i64 (s' + (m' + keep) / 1000000000)) (.pointer none) x6 x7) pb k K m' s' wx nI D)
      case first =>
        have n0 := cell_blk hin.now 0
        have n1 := cell_blk hin.now 1
        have n2 := cell_blk hin.now 2
        simp at n0 n1 n2
        go_wp2_with fail
        refine (add_any m' s' keep _ h0' h1' hs1 hs2 hk1 hk2).mono ?_
        rintro e w2 ⟨rfl, hw2⟩
        have hin2 : InEnd w cb q ma bi sw sb (searchC pb k hb x2 x3 x4 x5 x6 x7) pb k K m' s' w2 nI D := by rw [hw2]; exact (hin.alloc _).alloc _
        clear hw2 hin n0 n1 n2
        have t2 := cell_blk hin2.search 2
        have t3 := cell_blk hin2.search 3
        have t4 := cell_blk hin2.search 4
        have t5 := cell_blk hin2.search 5
        have g2 := frozen_blk hin2.search 2
        have g3 := frozen_blk hin2.search 3
        have g4 := frozen_blk hin2.search 4
        have g5 := frozen_blk hin2.search 5
        simp at t2 t3 t4 t5
        have hin3 := (((hin2.set 2 (.map (some am)) hcs hsbi.symm hsp.symm hsl).set 3 (.int .u64 ((m' + keep) % 1000000000)) hcs hsbi.symm hsp.symm hsl).set 4 (.int .i64 (s' + (m' + keep) / 1000000000)) hcs hsbi.symm hsp.symm hsl).set 5 (.pointer none) hcs hsbi.symm hsp.symm hsl
        go_wp2
        go_meet
        case rel => simpa using hin3
      case rest =>
      clear hin
      have n0 := cell_blk hcut.now 0
      have n1 := cell_blk hcut.now 1
      have n2 := cell_blk hcut.now 2
      have t3 := cell_blk hcut.search 3
      have t4 := cell_blk hcut.search 4
      have t5 := cell_blk hcut.search 5
      simp at n0 n1 n2 t3 t4 t5
      have hm0 : 0 ≤ (m' + keep) % 1000000000 := by omega
      have hm1 : (m' + keep) % 1000000000 < 1000000000 := by omega
      have hDc : wc.drew.ownsMap Try.prog 68 nilE am nD DD := (hcut.kept.owns hD (by simp; omega)).drew
      have hmac : ∀ ba, ma = some ba → ∃ DB, wc.drew.ownsMap Try.prog 68 ansE ba N DB ∧ ba ≠ am := by
        intro ba e
        obtain ⟨DB, h1, h2, h3⟩ := hma ba e
        refine ⟨DB, (hcut.kept.owns h1 ?_).drew, h2⟩
        have a1 : ba ≠ cb := by intro e; subst e; obtain ⟨es, clock, h, _⟩ := h1; rw [hc] at h; cases h
        have a2 : ba ≠ sb := by intro e; subst e; obtain ⟨es, clock, h, _⟩ := h1; rw [hsb] at h; cases h
        simp; omega
      go_wp2
      refine wp_calm ?_
      go_region_with (go_at_call 28; refine (keep_any cb (.int .i32 1) q ma bi sw am nD DD ((m' + keep) % 1000000000) (s' + (m' + keep) / 1000000000) m' s' N wc.drew hcut.drew.cache hDc hmac hN hm0 hm1 h0' h1' hacb hsw).mono ?_; rintro e w3 ⟨rfl, hkp⟩)
      all_goals
        obtain ⟨ba, sw2, D2, k1, k2, k3, k4, k5, k6, k7⟩ := hkp
        have u1 : w3.heap[sb]? = _ := (k6.block sb (lt_blk hcut.search) hsS).trans hcut.search
        have u2 : w3.heap[hb]? = some openChan := (k6.block hb (Nat.lt_of_lt_of_le (lt_blk hhb) hcut.kept.size) hhS).trans ((hcut.kept.block hb (lt_blk hhb) hhT).trans hhb)
        have v1 := cell_blk u1 1
        simp at v1
        have hcl := run_close_open (P := Try.prog) #[43] 0 u2
        have hgs := grown_set w3 hb (.chan 0 #[] true 0 0 false)
        have hf1 := (hgs.block cb (lt_blk k1) (by simp; omega)).trans k1
        have hfI := ((k6.owns hcut.drew.owns hbS).kept hgs (by simp; omega))
        have hKp : Kp ([cb, sb, hb, bi] ++ ma.toList) w { w3 with heap := w3.heap.setIfInBounds hb (.chan 0 #[] true 0 0 false) } := by
          refine ((hcut.kept.drew.mono ?_).trans (k6.mono ?_)).grown hgs ?_
          · intro j hj; left; simp at hj ⊢; omega
          · intro j hj; left; simp at hj ⊢; rcases hj with h | h
            · exact .inl h
            · exact .inr (.inr (.inr (.inr h)))
          · intro j hj; cases hj; left; simp
        have hfB : { w3 with heap := w3.heap.setIfInBounds hb (.chan 0 #[] true 0 0 false) }.ownsMap Try.prog 68 ansE ba (N + nD) D2 := k2.kept hgs (by
          intro e; cases e
          obtain ⟨es, clock, h, _⟩ := k2
          rw [u2] at h; cases h)
        have hbacb : ba ≠ cb := by
          intro e; subst e
          obtain ⟨es, clock, h, _⟩ := k2
          rw [k1] at h; cases h
        have hEnd : Ended cb q ma bi sb hb DD keep ((m' + keep) % 1000000000) (s' + (m' + keep) / 1000000000) (N + nD) nI w ({ w3 with heap := w3.heap.setIfInBounds hb (.chan 0 #[] true 0 0 false) }.setCell ⟨cb, 0, none⟩ (.int .i32 0)) := by
          refine ⟨ba, sw2, D2, D, by simpa using blk_set hf1 0 (.int .i32 0), hfB.setCell hbacb _, k3, k4, fun hk => k5 (by omega), hfI.setCell hcbi.symm _, hno, hKp.setCell (.inl (by simp)) _, ?_⟩
          rcases k7 with ⟨h, _⟩ | h
          · left
            simp at h ⊢
            rcases h with h | h
            · exact absurd h hbacb
            · exact h
          · right
            have := hcut.kept.size
            simp at h
            omega
        have hcell := cell_blk hf1 0
        have hfroz := frozen_blk hf1 0
        simp at hcell
        clear n0 n1 n2 t3 t4 t5 hm0 hm1 hmac hDc k1 k2 k3 k4 k5 k6 k7 u1 u2 hgs hf1 hfI hKp hfB
        go_wp2
        refine leaves_cons (f := 27) (args := #[.pointer (some ⟨cb, 0, none⟩)]) (by simp) (by simp [go_sem]) ?_
        refine (unlock_deferred muLib ⟨cb, 0, none⟩ .returning _ ?_ ?_).mono ?_
        · exact hcell
        · exact hfroz
        rintro e u' w'' ⟨rfl, rfl, rfl⟩
        exact ⟨_, results_none rfl _ _ _, rfl, hEnd⟩

end Go.Proofs.Qxb6615927a
