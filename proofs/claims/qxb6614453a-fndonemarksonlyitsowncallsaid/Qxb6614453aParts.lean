import Derived.Test.Qxb6614453aFrame
namespace Go.Proofs.Qxb6614453a
open Go.RowKit Go.MuLone

abbrev muLink : Go.Conc.Locks.MuLink := { lock := 13, unlock := 14, ilock := 18, iunlock := 19, lockSlow := 28, unlockSlow := 31, disable := 24, enable := 26, acquire := 27, relMerge := 29, cas32 := 25, add32 := 30, tMutex := 37, tIMutex := 35, tPMutex := 46, tPIMutex := 78, tPI32 := 80, tUP := 64, tNoCopy := 32, tU32 := 33 }
theorem muLib : Go.Conc.Locks.MuLib Try.prog muLink :=
  ⟨Try.func13, Try.func14, Try.func18, Try.func19, Try.func24, Try.func26, Try.func27, Try.func29, Try.func25, Try.func30, Try.underlying35, Try.runUnderlying35, Try.sizeOf35, Try.isAgg35, Try.zeroValue35, Try.underlying37, Try.runUnderlying37, Try.sizeOf37, Try.isAgg37, Try.zeroValue37, Try.underlying46, Try.runUnderlying46, Try.sizeOf46, Try.isAgg46, Try.zeroValue46, Try.underlying78, Try.runUnderlying78, Try.sizeOf78, Try.isAgg78, Try.zeroValue78, Try.underlying80, Try.runUnderlying80, Try.sizeOf80, Try.isAgg80, Try.zeroValue80, Try.underlying64, Try.runUnderlying64, Try.sizeOf64, Try.isAgg64, Try.zeroValue64, Try.underlying32, Try.runUnderlying32, Try.sizeOf32, Try.isAgg32, Try.zeroValue32, Try.underlying21, Try.runUnderlying21, Try.sizeOf21, Try.isAgg21, Try.zeroValue21, (by kernel_rfl)⟩

/-- An open channel nobody has used. -/
abbrev openChan : Obj := .chan 0 #[] false 0 0 false
theorem mkChan (w : World) : (Instr.makeChan 47 (.int .i64 0)).run Try.prog w = .ok (.chan (some w.heap.size)) (w.alloc openChan) := by
  have h : (Try.prog.info? 31).map (·.bytes) = some 0 := by kernel_rfl
  obtain ⟨i, hi, hb⟩ := Option.map_eq_some_iff.1 h
  simpa using Conc.run_makeChan (P := Try.prog) (w := w) Try.underlying47 hi .i64 0 (by omega) (by rw [hb]; omega)

/-- The Cond's copy check, its first time: the checker's own address is laid. -/
theorem check_first (a : Addr) (w : World) (hc : w.cell? a = some (.int .u64 0)) (hz : w.frozen? a = false) :
    (callFunc 20 #[.pointer (some a)]).run Try.prog w = .ok (.value (.tuple #[])) (w.setCell a (.pointer (some a))) := by
  have he : Extern.find Try.f20 = some Extern.SyncCond.check := by kernel_rfl
  rw [run_callFunc_extern Try.func20 (by kernel_rfl) (by kernel_rfl) (by kernel_rfl) he]
  change (Sem.run Try.prog (asAddr (.pointer (some a)) >>= _) w).andThen _ = _
  simp [Extern.SyncCond.isSelf, Extern.SyncCond.none_, asAddr, hc, hz, run_store Try.prog w a (.pointer (some a)) .atomic rfl, Result.andThen]
/-- .. and later. -/
theorem check_later (a : Addr) (w : World) (hc : w.cell? a = some (.pointer (some a))) :
    (callFunc 20 #[.pointer (some a)]).run Try.prog w = .ok (.value (.tuple #[])) w := by
  have he : Extern.find Try.f20 = some Extern.SyncCond.check := by kernel_rfl
  rw [run_callFunc_extern Try.func20 (by kernel_rfl) (by kernel_rfl) (by kernel_rfl) he]
  change (Sem.run Try.prog (asAddr (.pointer (some a)) >>= _) w).andThen _ = _
  simp [Extern.SyncCond.isSelf, Extern.SyncCond.none_, asAddr, hc, Result.andThen]
/-- Nobody waits: nothing is done. -/
theorem notify_none (b o : Nat) (w : World) (h0 : w.cell? ⟨b, o, none⟩ = some (.int .u32 0)) (h1 : w.cell? ⟨b, o + 1, none⟩ = some (.int .u32 0)) :
    (callFunc 21 #[.pointer (some ⟨b, o, none⟩)]).run Try.prog w = .ok (.value (.tuple #[])) w := by
  have he : Extern.find Try.f21 = some Extern.SyncCond.notifyAll := by kernel_rfl
  rw [run_callFunc_extern Try.func21 (by kernel_rfl) (by kernel_rfl) (by kernel_rfl) he]
  have hw : (IntKind.u32.wrap 0).toNat = 0 := by decide
  simp [Extern.SyncCond.notifyAll, Extern.SyncCond.list, Extern.SyncCond.counter, Extern.SyncCond.none_, h0, h1, hw, Addr.add, Result.andThen]

end Go.Proofs.Qxb6614453a
