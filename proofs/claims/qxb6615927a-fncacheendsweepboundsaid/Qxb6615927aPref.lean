import Derived.Test.Qxb6615927aBytes
import Derived.Deep.OwnRows
import Derived.Laws.MakeOwn
namespace Go.Proofs.Qxb6615927a
open Go.RowKit

theorem Try.cells67 : Try.prog.cellsOf 67 = 4 := by kernel_rfl
theorem Try.cells68 : Try.prog.cellsOf 68 = 4 := by kernel_rfl
/-- Four zero bytes. -/
def zero4 : Value := .agg #[.int .u8 0, .int .u8 0, .int .u8 0, .int .u8 0]
theorem Try.info68 : (Try.prog.info? 68).map (fun i => (i.zero, i.size, i.bytes)) = some (some (.agg #[.int .u8 0, .int .u8 0, .int .u8 0, .int .u8 0]), 4, 4) := by kernel_rfl
theorem Try.info67 : (Try.prog.info? 67).map (fun i => (i.zero, i.size, i.bytes)) = some (some (.agg #[.int .u8 0, .int .u8 0, .int .u8 0, .int .u8 0]), 4, 4) := by kernel_rfl

/-- n zero arrays of four bytes. -/
def zeros4 (n : Nat) : Array Value := madeCells #[.int .u8 0, .int .u8 0, .int .u8 0, .int .u8 0] (n * 4)

theorem make4 (t e : TypeId) (ht : Try.prog.underlying t = some (.slice e)) (hinfo : (Try.prog.info? e).map (fun i => (i.zero, i.size, i.bytes)) = some (some (.agg #[.int .u8 0, .int .u8 0, .int .u8 0, .int .u8 0]), 4, 4)) (n : Nat) (hn : n ≤ 1048576) (w : World) :
    (Instr.makeSlice t (.int .i64 (n : Int)) (.int .i64 (n : Int))).run Try.prog w = .ok (.slice (some ⟨w.heap.size, 0, none⟩) n n) (w.alloc (.cells (zeros4 n) e)) := by
  obtain ⟨i, hi, hzz⟩ := Option.map_eq_some_iff.1 hinfo
  simp only [Prod.mk.injEq] at hzz
  obtain ⟨hz, hs, hb⟩ := hzz
  have hr := run_make (P := Try.prog) w t e i _ ht hi hz .i64 .i64 n n (by omega) (Int.le_refl _) (by rw [hb]; omega) (by omega)
  simp only [Int.toNat_natCast, hs] at hr
  exact hr

theorem zeros4_size (n : Nat) : (zeros4 n).size = n * 4 := by simp [zeros4, size_madeCells]
theorem zeros4_get (n c : Nat) (h : c < n * 4) : (zeros4 n)[c]? = some (.int .u8 0) := by
  have h4 : c % 4 < 4 := Nat.mod_lt _ (by omega)
  simp only [zeros4, madeCells]
  rw [Array.getElem?_map, Array.getElem?_range, if_pos h]
  simp only [Option.map_some]
  have : c % 4 = 0 ∨ c % 4 = 1 ∨ c % 4 = 2 ∨ c % 4 = 3 := by omega
  rcases this with h | h | h | h <;> simp [h]

/-- THE ARRAYS OF A SLICE OF [4]byte: cell c of its block holds K c. -/
def Src (w : World) (a : Option Addr) (n : Nat) (K : Nat → Int) : Prop :=
  ∀ i, i < n → ∃ b, a = some ⟨b, 0, none⟩ ∧ b < w.heap.size ∧ ∀ j, j < 4 → w.cell? ⟨b, i * 4 + j, none⟩ = some (.int .u8 (K (i * 4 + j)))

/-- Cell c of a row into which the first k arrays have been laid. -/
def laid4 (K : Nat → Int) (k c : Nat) : Int := if c < k * 4 then K c else 0

/-- One array laid behind the first k. -/
theorem laid4_step {w : World} {B n k : Nat} {t : TypeId} {K : Nat → Int} (h : w.rowIs B t (n * 4) (fun c => .int .u8 (laid4 K k c))) :
    ((((w.setCell ⟨B, k * 4, none⟩ (.int .u8 (K (k * 4)))).setCell ⟨B, k * 4 + 1, none⟩ (.int .u8 (K (k * 4 + 1)))).setCell ⟨B, k * 4 + 2, none⟩ (.int .u8 (K (k * 4 + 2)))).setCell ⟨B, k * 4 + 3, none⟩ (.int .u8 (K (k * 4 + 3)))).rowIs B t (n * 4) (fun c => .int .u8 (laid4 K (k + 1) c)) := by
  refine (((((h.set _ _).set _ _).set _ _).set _ _)).congr fun i hi => ?_
  unfold laid4
  by_cases h3 : i = k * 4 + 3
  · subst h3; simp <;> omega
  by_cases h2 : i = k * 4 + 2
  · subst h2; simp <;> omega
  by_cases h1 : i = k * 4 + 1
  · subst h1; simp <;> omega
  by_cases h0 : i = k * 4
  · subst h0; simp <;> omega
  simp only [h3, h2, h1, h0, if_false]
  by_cases hk : i < k * 4
  · rw [if_pos hk, if_pos (by omega)]
  · rw [if_neg hk, if_neg (by omega)]

theorem laid4_start (w : World) (n : Nat) (K : Nat → Int) (t : TypeId) : (w.alloc (.cells (zeros4 n) t)).rowIs w.heap.size t (n * 4) (fun c => .int .u8 (laid4 K 0 c)) := by
  have h := World.rowIs_alloc w (zeros4 n) t (fun _ => .int .u8 0) (fun i hi => zeros4_get n i (by rw [zeros4_size] at hi; exact hi))
  rw [zeros4_size] at h
  exact h.congr fun i _ => by simp [laid4]

theorem laid4_end {w : World} {B n : Nat} {t : TypeId} {K : Nat → Int} (h : w.rowIs B t (n * 4) (fun c => .int .u8 (laid4 K n c))) : w.rowIs B t (n * 4) (fun c => .int .u8 (K c)) :=
  h.congr fun i hi => by simp [laid4, hi]

set_option maxHeartbeats 400000 in
theorem prefixes_any (a : Option Addr) (n c : Nat) (K : Nat → Int) (w : World) (hn : n ≤ 1048576) (hs : Src w a n K) :
    Calls Try.prog 15 #[.slice a n c] w fun e w' => e = .returned (.slice (some ⟨w.heap.size, 0, none⟩) n n) ∧ w'.rowIs w.heap.size 68 (n * 4) (fun c => .int .u8 (K c)) ∧ Below w.heap.size w w' ∧ w'.heap.size = w.heap.size + 1 := by
  have hmk := make4 41 68 Try.underlying41 Try.info68 n hn
  go_enter Try.func15, Try.ntmps15
  go_wp2
  go_loopw [10, 4] (fun i _ wr => ∃ (k : Nat), k ≤ n ∧ i = .int .i64 k ∧ wr.rowIs w.heap.size 68 (n * 4) (fun c => .int .u8 (laid4 K k c)) ∧ Below w.heap.size w wr ∧ wr.heap.size = w.heap.size + 1) (fun i _ _ => n - (intOf i).toNat)
  case atStart => exact ⟨0, Nat.zero_le _, rfl, laid4_start w n K 68, (Below.refl _ _).alloc (Nat.le_refl _) _, by simp⟩
  case round =>
    obtain ⟨k, hk, rfl, hrow, hbel, hsz⟩ := hrel
    by_cases hlt : k < n
    · obtain ⟨b, rfl, hb, hcs⟩ := hs k hlt
      have k0 := (hbel.cell (p := ⟨b, k * 4 + 0, none⟩) hb).trans (hcs 0 (by omega))
      have k1 := (hbel.cell (p := ⟨b, k * 4 + 1, none⟩) hb).trans (hcs 1 (by omega))
      have k2 := (hbel.cell (p := ⟨b, k * 4 + 2, none⟩) hb).trans (hcs 2 (by omega))
      have k3 := (hbel.cell (p := ⟨b, k * 4 + 3, none⟩) hb).trans (hcs 3 (by omega))
      simp only [Nat.add_zero] at k0
      have d0 := hrow.cell (i := k * 4) (by omega)
      have d1 := hrow.cell (i := k * 4 + 1) (by omega)
      have d2 := hrow.cell (i := k * 4 + 2) (by omega)
      have d3 := hrow.cell (i := k * 4 + 3) (by omega)
      have f0 := hrow.frozen (k * 4)
      have f1 := hrow.frozen (k * 4 + 1)
      have f2 := hrow.frozen (k * 4 + 2)
      have f3 := hrow.frozen (k * 4 + 3)
      have R := laid4_step (k := k) hrow
      go_wp2
      go_roundw
      case rel => exact ⟨k + 1, by omega, by go_num, R, ((((hbel.setCell (Nat.le_refl _) _).setCell (Nat.le_refl _) _).setCell (Nat.le_refl _) _).setCell (Nat.le_refl _) _), by simpa using hsz⟩
      case measure => simp [intOf]; omega
    · obtain rfl : k = n := by omega
      go_wp2
      go_ret
      exact ⟨rfl, laid4_end hrow, hbel, hsz⟩

end Go.Proofs.Qxb6615927a
