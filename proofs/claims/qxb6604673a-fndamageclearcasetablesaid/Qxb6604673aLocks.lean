/- The numbers under which this seat's translation holds the functions and types of sync.Mutex, and that it holds them. Checked by the kernel. -/
import Derived.Test.Qxb6604673aProg
import Derived.Conc.MuLib
import Derived.KernelRfl
namespace Go.Proofs
abbrev Try.muLink : Go.Conc.Locks.MuLink := { lock := 28, unlock := 29, ilock := 33, iunlock := 34, lockSlow := 41, unlockSlow := 44, disable := 37, enable := 39, acquire := 40, relMerge := 42, cas32 := 38, add32 := 43, tMutex := 48, tIMutex := 46, tPMutex := 146, tPIMutex := 149, tPI32 := 151, tUP := 104, tNoCopy := 43, tU32 := 44 }
theorem Try.muLib : Go.Conc.Locks.MuLib Try.prog Try.muLink :=
  ⟨Try.func28, Try.func29, Try.func33, Try.func34, Try.func37, Try.func39, Try.func40, Try.func42, Try.func38, Try.func43, Try.underlying46, Try.runUnderlying46, Try.sizeOf46, Try.isAgg46, Try.zeroValue46, Try.underlying48, Try.runUnderlying48, Try.sizeOf48, Try.isAgg48, Try.zeroValue48, Try.underlying146, Try.runUnderlying146, Try.sizeOf146, Try.isAgg146, Try.zeroValue146, Try.underlying149, Try.runUnderlying149, Try.sizeOf149, Try.isAgg149, Try.zeroValue149, Try.underlying151, Try.runUnderlying151, Try.sizeOf151, Try.isAgg151, Try.zeroValue151, Try.underlying104, Try.runUnderlying104, Try.sizeOf104, Try.isAgg104, Try.zeroValue104, Try.underlying43, Try.runUnderlying43, Try.sizeOf43, Try.isAgg43, Try.zeroValue43, Try.underlying21, Try.runUnderlying21, Try.sizeOf21, Try.isAgg21, Try.zeroValue21, (by kernel_rfl)⟩
end Go.Proofs
