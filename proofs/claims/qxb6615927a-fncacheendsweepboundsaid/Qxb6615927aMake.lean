import Derived.Test.Qxb6615927aCall
namespace Go.Proofs.Qxb6615927a
open Go.RowKit Go.MuLone

/-- A new search lies in new blocks. -/
structure Made (S : List Nat) (w wx : World) (sb pb hb n : Nat) (K : Nat → Int) : Prop where
  search : wx.heap[sb]? = some (.cells (searchC pb n hb (.map none) (.int .u64 0) (.int .i64 0) (.pointer none) .nilIface (.bool false)) 50)
  prow : wx.rowIs pb 68 (n * 4) (fun c => .int .u8 (K c))
  chan : wx.heap[hb]? = some openChan
  kept : Kp S w wx
  s0 : w.heap.size ≤ sb
  p0 : w.heap.size ≤ pb
  h0 : w.heap.size ≤ hb
  sp : sb ≠ pb

theorem made1 {w w1 : World} {n : Nat} {K : Nat → Int} (hrow : w1.rowIs w.drew.heap.size 68 (n * 4) (fun c => .int .u8 (K c))) (hbel : Below w.drew.heap.size w.drew w1) (hsz : w1.heap.size = w.drew.heap.size + 1) :
    Made [] w ((w1.alloc openChan).alloc (.cells (searchC w.heap.size n (w.heap.size + 1) (.map none) (.int .u64 0) (.int .i64 0) (.pointer none) .nilIface (.bool false)) 50)) (w.heap.size + 1 + 1) w.heap.size (w.heap.size + 1) n K := by
  have hs : w1.heap.size = w.heap.size + 1 := hsz
  have h2 : (w1.alloc openChan).heap.size = w.heap.size + 1 + 1 := by simp [hs]
  refine ⟨?_, (World.rowIs.alloc (w := w1) hrow _).alloc _, ?_, ?_, by omega, by omega, by omega, by omega⟩
  · rw [← h2]; exact heap_alloc_last _ _
  · rw [← hs]; exact blk_alloc_old (heap_alloc_last _ _)
  · exact Kp.alloc (Kp.alloc ((Kp.refl [] w).drew.trans (Kp.of_below hbel)) _) _
theorem made2 {w w1 : World} {n : Nat} {K : Nat → Int} (hrow : w1.rowIs (w.alloc openChan).drew.heap.size 68 (n * 4) (fun c => .int .u8 (K c))) (hbel : Below (w.alloc openChan).drew.heap.size (w.alloc openChan).drew w1) (hsz : w1.heap.size = (w.alloc openChan).drew.heap.size + 1) :
    Made [] w (w1.alloc (.cells (searchC (w.heap.size + 1) n w.heap.size (.map none) (.int .u64 0) (.int .i64 0) (.pointer none) .nilIface (.bool false)) 50)) (w.heap.size + 1 + 1) (w.heap.size + 1) w.heap.size n K := by
  have h1 : (w.alloc openChan).drew.heap.size = w.heap.size + 1 := by simp
  rw [h1] at hrow hsz
  refine ⟨?_, World.rowIs.alloc (w := w1) hrow _, ?_, ?_, by omega, by omega, by omega, by omega⟩
  · rw [← hsz]; exact heap_alloc_last _ _
  · exact blk_alloc_old ((hbel.block _ (by rw [h1]; omega)).trans (heap_alloc_last w openChan))
  · exact Kp.alloc (((Kp.refl [] w).alloc openChan).drew.trans (Kp.of_below hbel)) _

/-- .. stays so while a map that was there before it turns. -/
theorem Made.after {w wx wy : World} {sb pb hb n bi : Nat} {K : Nat → Int} {S : List Nat} (h : Made S w wx sb pb hb n K) (g : Kp [bi] wx wy) (hb' : bi < w.heap.size) : Made (bi :: S) w wy sb pb hb n K :=
  ⟨(g.block _ (lt_blk h.search) (by have := h.s0; simp; omega)).trans h.search, g.row h.prow (by have := h.p0; simp; omega), (g.block _ (lt_blk h.chan) (by have := h.h0; simp; omega)).trans h.chan,
    (h.kept.mono (by intro j hj; left; simp [hj])).trans (g.mono (by intro j hj; left; simp at hj; simp [hj])), h.s0, h.p0, h.h0, h.sp⟩

/-- A new search, and its prefixes in flight. -/
def Added (bi n : Nat) (K : Nat → Int) (L : Nat → Lit) (nI sb : Nat) (w w' : World) : Prop :=
  ∃ pb hb D, Made [bi] w w' sb pb hb n K ∧ w'.ownsMap Try.prog 68 anyE bi nI D ∧ Flying D L n 0

set_option maxRecDepth 100000 in
set_option maxHeartbeats 1000000 in
theorem addSearch_any (cb : Nat) (q : Value) (ma : Option Nat) (bi : Nat) (sw : Int) (a : Option Addr) (n c : Nat) (K : Nat → Int) (L : Nat → Lit) (nI : Nat) (DI : DataW Unit) (w : World)
    (hc : w.heap[cb]? = some (.cells (cacheC (.int .i32 0) q ma bi sw) 61)) (hS : Src w a n K) (hI : w.ownsMap Try.prog 68 anyE bi nI DI) (hno : ∀ l, Maps.has DI l = false) (hL : ∀ i, i < n → keyOf Try.prog 68 (kv K i) = some (L i)) (hn : n ≤ 1048576) (hnI : nI ≤ 1048576) :
    Calls Try.prog 12 #[.pointer (some ⟨cb, 0, none⟩), .slice a n c] w fun e w' => ∃ sb, e = .returned (.pointer (some ⟨sb, 0, none⟩)) ∧ Added bi n K L (nI + n) sb w w' := by
  have hmc := mkChan
  have hSd : ∀ wx, Kp [] w wx → Src wx a n K := fun wx h => h.src hS (by simp)
  go_enter Try.func12, Try.ntmps12
  go_upto_region 1 with fail
  go_cut [5] (fun v wx => ∃ sb pb hb, v = .pointer (some ⟨sb, 0, none⟩) ∧ Made [] w wx sb pb hb n K)
  case first =>
    go_region_with (go_at_call 15; refine (prefixes_any a n c K _ hn (hSd _ (by first | exact (Kp.refl _ _).drew | exact ((Kp.refl _ _).alloc _).drew))).mono ?_; rintro e w1 ⟨rfl, hrow, hbel, hsz⟩)
    · go_wp2
      go_meet
      case rel => exact ⟨_, _, _, rfl, made1 hrow hbel hsz⟩
    · go_wp2
      go_meet
      case rel => exact ⟨_, _, _, rfl, made2 hrow hbel hsz⟩
  case rest =>
  obtain ⟨sb, pb, hb, rfl, hmd⟩ := hcut
  clear hmc
  go_wp2
  go_loopg [14] n (fun g i wr => ∃ (k : Nat) (D : DataW Unit), k + g = n ∧ i = .int .i64 k ∧ wr.ownsMap Try.prog 68 anyE bi (nI + k) D ∧ Kp [bi] wc wr ∧ ∀ l, Maps.has D l = true → ∃ i, i < n ∧ l = L i)
  case atStart => exact ⟨0, DI, by omega, rfl, hmd.kept.owns hI (by simp), Kp.refl _ _, fun l h => by rw [hno l] at h; cases h⟩
  case round =>
    obtain ⟨k, D, hkg, rfl, hown, hkp, hhas⟩ := hrel
    have hbi := hI.lt
    have hcbl := lt_blk hc
    by_cases hlt : k < n
    · have hkey := hL k hlt
      obtain ⟨b, rfl, hb', hcs⟩ := hS k hlt
      have hbc : b < wc.heap.size := Nat.lt_of_lt_of_le hb' hmd.kept.size
      have hbb : b ≠ bi := by
        intro e; subst e
        obtain ⟨es, clock, h, _⟩ := hI
        have := hcs 0 (by omega)
        simp [World.cell?, h] at this
      have hcbi : cb ≠ bi := by
        intro e; subst e
        obtain ⟨es, clock, h, _⟩ := hI
        rw [hc] at h; cases h
      have rd : ∀ j, j < 4 → wr.cell? ⟨b, k * 4 + j, none⟩ = some (.int .u8 (K (k * 4 + j))) := fun j hj => (hkp.cell (a := ⟨b, _, none⟩) hbc (by simp; omega)).trans ((hmd.kept.cell (a := ⟨b, _, none⟩) hb' (by simp)).trans (hcs j hj))
      have k0 := rd 0 (by omega)
      have k1 := rd 1 (by omega)
      have k2 := rd 2 (by omega)
      have k3 := rd 3 (by omega)
      simp only [Nat.add_zero] at k0
      have hcw : wr.heap[cb]? = some (.cells (cacheC (.int .i32 0) q ma bi sw) 61) := (hkp.block cb (Nat.lt_of_lt_of_le hcbl hmd.kept.size) (by simp; omega)).trans ((hmd.kept.block cb hcbl (by simp)).trans hc)
      have m3 := cell_blk hcw 3
      simp at m3
      have hm1 := hown.isMap
      obtain ⟨w1, hup, hown1, hturn⟩ := hown.drew.store (val := .pointer (some ⟨sb, 0, none⟩)) law68 Try.underlying51 (by unfold maxLen; omega) hkey (d := .nil) (ps := []) rfl
      have hkp1 := hkp.drew.grown hturn.grown (fun j hj => by cases hj; left; simp)
      have HK : Hid (k + gk = n) := hkg
      clear hkg rd hturn hown hcw hcs hkp
      go_wp2
      go_region
      go_wp2
      go_roundg (gk - 1)
      case measure => have := HK.out; omega
      case rel =>
        refine ⟨k + 1, _, by have := HK.out; omega, by go_num, by rw [← Nat.add_assoc]; exact hown1, hkp1, fun l hl => ?_⟩
        by_cases e : l = L k
        · exact ⟨k, hlt, e⟩
        · rw [Maps.has_put_other e] at hl
          exact hhas l hl
    · obtain rfl : k = n := by omega
      go_wp2
      go_ret
      exact ⟨sb, rfl, pb, hb, D, hmd.after hkp (by omega), hown, fun l hl => ⟨hhas l hl, fun j hj => by omega⟩⟩

end Go.Proofs.Qxb6615927a
