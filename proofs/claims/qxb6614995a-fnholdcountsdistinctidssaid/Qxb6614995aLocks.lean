/- The numbers under which this dump holds sync.Mutex's functions and types (typed by hand after the kit's worked StatsLocks; the kernel checks every number). -/
import Derived.Test.Qxb6614995aRows
import Derived.Conc.MuLone
import Derived.KernelRfl
namespace Go.Proofs.Qxb6614995a
abbrev muLink : Go.Conc.Locks.MuLink := { lock := 33, unlock := 34, ilock := 40, iunlock := 41, lockSlow := 51, unlockSlow := 54, disable := 47, enable := 49, acquire := 50, relMerge := 52, cas32 := 48, add32 := 53, tMutex := 67, tIMutex := 65, tPMutex := 90, tPIMutex := 95, tPI32 := 97, tUP := 99, tNoCopy := 63, tU32 := 33 }
theorem muLib : Go.Conc.Locks.MuLib Try.prog muLink :=
  ⟨Try.func33, Try.func34, Try.func40, Try.func41, Try.func47, Try.func49, Try.func50, Try.func52, Try.func48, Try.func53, Try.underlying65, Try.runUnderlying65, Try.sizeOf65, Try.isAgg65, Try.zeroValue65, Try.underlying67, Try.runUnderlying67, Try.sizeOf67, Try.isAgg67, Try.zeroValue67, Try.underlying90, Try.runUnderlying90, Try.sizeOf90, Try.isAgg90, Try.zeroValue90, Try.underlying95, Try.runUnderlying95, Try.sizeOf95, Try.isAgg95, Try.zeroValue95, Try.underlying97, Try.runUnderlying97, Try.sizeOf97, Try.isAgg97, Try.zeroValue97, Try.underlying99, Try.runUnderlying99, Try.sizeOf99, Try.isAgg99, Try.zeroValue99, Try.underlying63, Try.runUnderlying63, Try.sizeOf63, Try.isAgg63, Try.zeroValue63, Try.underlying21, Try.runUnderlying21, Try.sizeOf21, Try.isAgg21, Try.zeroValue21, (by kernel_rfl)⟩
end Go.Proofs.Qxb6614995a
