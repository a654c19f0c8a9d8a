/-
  The numbers under which this dump holds the library's locks' functions and types, and that it holds them.
-/
import Derived.Test.Qxb6612554aProg
import Derived.Conc.MuLone
import Derived.KernelRfl
namespace Go.Proofs.Qxb6612554a
open Go.Conc.Locks
abbrev muLink : MuLink := { lock := 65, unlock := 66, ilock := 78, iunlock := 79, lockSlow := 89, unlockSlow := 92, disable := 85, enable := 87, acquire := 88, relMerge := 90, cas32 := 86, add32 := 91, tMutex := 87, tIMutex := 85, tPMutex := 115, tPIMutex := 124, tPI32 := 126, tUP := 128, tNoCopy := 82, tU32 := 83 }
theorem muLib : MuLib Try.prog muLink :=
  ⟨Try.func65, Try.func66, Try.func78, Try.func79, Try.func85, Try.func87, Try.func88, Try.func90, Try.func86, Try.func91, Try.underlying85, Try.runUnderlying85, Try.sizeOf85, Try.isAgg85, Try.zeroValue85, Try.underlying87, Try.runUnderlying87, Try.sizeOf87, Try.isAgg87, Try.zeroValue87, Try.underlying115, Try.runUnderlying115, Try.sizeOf115, Try.isAgg115, Try.zeroValue115, Try.underlying124, Try.runUnderlying124, Try.sizeOf124, Try.isAgg124, Try.zeroValue124, Try.underlying126, Try.runUnderlying126, Try.sizeOf126, Try.isAgg126, Try.zeroValue126, Try.underlying128, Try.runUnderlying128, Try.sizeOf128, Try.isAgg128, Try.zeroValue128, Try.underlying82, Try.runUnderlying82, Try.sizeOf82, Try.isAgg82, Try.zeroValue82, Try.underlying21, Try.runUnderlying21, Try.sizeOf21, Try.isAgg21, Try.zeroValue21, (by kernel_rfl)⟩
theorem lock65 (a : Addr) (w : World) (hc : w.cell? a = some (.int .i32 0)) (hz : w.frozen? a = false) :
    Calls Try.prog 65 #[.pointer (some a)] w fun e w' => e = .returned (.tuple #[]) ∧ w' = w.setCell a (.int .i32 1) := Go.MuLone.lock_free muLib a w hc hz
theorem unlock66 (a : Addr) (u : FrameMode) (w : World) (hc : w.cell? a = some (.int .i32 1)) (hz : w.frozen? a = false) :
    CallsD Try.prog 66 #[.pointer (some a)] u w fun e u' w' => u' = u ∧ (e = .returned (.tuple #[]) ∧ w' = w.setCell a (.int .i32 0)) := Go.MuLone.unlock_deferred muLib a u w hc hz
end Go.Proofs.Qxb6612554a
