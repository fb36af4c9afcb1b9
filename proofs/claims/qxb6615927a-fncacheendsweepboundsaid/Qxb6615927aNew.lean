import Derived.Test.Qxb6615927aMake
namespace Go.Proofs.Qxb6615927a
open Go.RowKit Go.MuLone

/-- A new cache, and a search whose prefixes are in flight in it. -/
def NewC (cb sb n : Nat) (K : Nat → Int) (L : Nat → Lit) (w w' : World) : Prop :=
  ∃ bi pb hb D, w'.heap[cb]? = some (.cells (cacheC (.int .i32 0) (.int .u32 0) none bi 0) 61) ∧ Made [] w w' sb pb hb n K ∧ w'.ownsMap Try.prog 68 anyE bi n D ∧ Flying D L n 0 ∧ w.heap.size ≤ cb ∧ w.heap.size ≤ bi

theorem Made.keep {w wx wy : World} {sb pb hb n : Nat} {K : Nat → Int} {S : List Nat} (h : Made S w wx sb pb hb n K) (g : Kp [] wx wy) : Made S w wy sb pb hb n K :=
  ⟨(g.block _ (lt_blk h.search) (by simp)).trans h.search, g.row h.prow (by simp), (g.block _ (lt_blk h.chan) (by simp)).trans h.chan, h.kept.trans (g.mono (by simp)), h.s0, h.p0, h.h0, h.sp⟩

set_option maxRecDepth 100000 in
set_option maxHeartbeats 1000000 in
theorem new_any (a : Option Addr) (n c : Nat) (K : Nat → Int) (L : Nat → Lit) (w : World) (hS : Src w a n K) (hL : ∀ i, i < n → keyOf Try.prog 68 (kv K i) = some (L i)) (hn : n ≤ 1048576) :
    Calls Try.prog 9 #[.slice none 0 0, .slice none 0 0, .slice a n c, .int .i64 0, .slice a n c] w fun e w' => ∃ cb sb, e = .returned (.tuple #[.pointer (some ⟨cb, 0, none⟩), .pointer (some ⟨sb, 0, none⟩)]) ∧ NewC cb sb n K L w w' := by
  have hmc := mkChan
  have hmm := @run_makeMap Try.prog
  have hSd : ∀ wx, Kp [] w wx → Src wx a n K := fun wx h => h.src hS (by simp)
  go_enter Try.func9, Try.ntmps9
  go_upto_region 1 with fail
  go_cut [12] (fun v wx => ∃ sb pb hb, v = .pointer (some ⟨sb, 0, none⟩) ∧ Made [] w wx sb pb hb n K)
  case first =>
    go_region_with (go_at_call 15; refine (prefixes_any a n c K _ hn (hSd _ (by first | exact (Kp.refl _ _).drew | exact ((Kp.refl _ _).alloc _).drew))).mono ?_; rintro e w1 ⟨rfl, hrow, hbel, hsz⟩)
    · go_wp2
      go_meet
      case rel => exact ⟨_, _, _, rfl, made1 hrow hbel hsz⟩
    · go_wp2
      go_meet
      case rel => exact ⟨_, _, _, rfl, made2 hrow hbel hsz⟩
  case rest =>
  obtain ⟨sb, pb, hb, rfl, hmd⟩ := hcut
  clear hmc
  go_wp2
  refine wp_loop_rounds 1 ?_
  rw [rounds_succ]
  go_wp2
  have hsw := hmd.kept.size
  clear hmm
  have hw1 : (wc.alloc (.map #[] 0)).heap.size = wc.heap.size + 1 := by simp
  have hc0 := heap_alloc_last (wc.alloc (.map #[] 0)) (.cells (cacheC (.int .i32 0) (.int .u32 0) none wc.heap.size 0) 61)
  rw [hw1] at hc0
  have hown0 := (World.ownsMap_made wc Try.prog 68 anyE).alloc (.cells (cacheC (.int .i32 0) (.int .u32 0) none wc.heap.size 0) 61)
  have hkp0 : Kp [] wc ((wc.alloc (.map #[] 0)).alloc (.cells (cacheC (.int .i32 0) (.int .u32 0) none wc.heap.size 0) 61)) := ((Kp.refl _ _).alloc _).alloc _
  go_loopg [55] n (fun g i wr => ∃ (k : Nat) (D : DataW Unit), k + g = n ∧ i = .int .i64 k ∧ wr.ownsMap Try.prog 68 anyE wc.heap.size k D ∧ wr.heap[wc.heap.size + 1]? = some (.cells (cacheC (.int .i32 0) (.int .u32 0) none wc.heap.size 0) 61) ∧ Kp [] wc wr ∧ ∀ l, Maps.has D l = true → ∃ i, i < n ∧ l = L i)
  case atStart => exact ⟨0, .map [], by omega, rfl, hown0, hc0, hkp0, fun l h => by simp [Maps.has] at h⟩
  case round =>
    clear hown0 hc0 hkp0
    obtain ⟨k, D, hkg, rfl, hown, hcw, hkp, hhas⟩ := hrel
    by_cases hlt : k < n
    · have hkey := hL k hlt
      obtain ⟨b, rfl, hb', hcs⟩ := hS k hlt
      have hbc : b < wc.heap.size := Nat.lt_of_lt_of_le hb' hmd.kept.size
      have rd : ∀ j, j < 4 → wr.cell? ⟨b, k * 4 + j, none⟩ = some (.int .u8 (K (k * 4 + j))) := fun j hj => (hkp.cell (a := ⟨b, _, none⟩) hbc (by simp)).trans ((hmd.kept.cell (a := ⟨b, _, none⟩) hb' (by simp)).trans (hcs j hj))
      have k0 := rd 0 (by omega)
      have k1 := rd 1 (by omega)
      have k2 := rd 2 (by omega)
      have k3 := rd 3 (by omega)
      simp only [Nat.add_zero] at k0
      have m3 := cell_blk hcw 3
      simp at m3
      have hm1 := hown.isMap
      obtain ⟨w1, hup, hown1, hturn⟩ := hown.drew.store (val := .pointer (some ⟨sb, 0, none⟩)) law68 Try.underlying51 (by unfold maxLen; omega) hkey (d := .nil) (ps := []) rfl
      have hkp1 := hkp.drew.grown hturn.grown (fun j hj => by cases hj; right; exact Nat.le_refl _)
      have hcw1 := (hturn.grown.block _ (lt_blk hcw) (by simp)).trans hcw
      have HK : Hid (k + gk = n) := hkg
      clear hkg rd hturn hown hcw hcs hkp
      go_wp2
      go_region
      go_wp2
      go_roundg (gk - 1)
      case measure => have := HK.out; omega
      case rel =>
        refine ⟨k + 1, _, by have := HK.out; omega, by go_num, hown1, hcw1, hkp1, fun l hl => ?_⟩
        by_cases e : l = L k
        · exact ⟨k, hlt, e⟩
        · rw [Maps.has_put_other e] at hl
          exact hhas l hl
    · obtain rfl : k = n := by omega
      go_wp2
      go_ret2
      exact ⟨wc.heap.size + 1, sb, rfl, wc.heap.size, pb, hb, D, hcw, hmd.keep hkp, hown, fun l hl => ⟨hhas l hl, fun j hj => by omega⟩, by omega, by omega⟩

end Go.Proofs.Qxb6615927a
