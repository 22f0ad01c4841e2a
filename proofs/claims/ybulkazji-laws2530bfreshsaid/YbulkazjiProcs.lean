/-
  Seat b2530a: runtime.GOMAXPROCS(0) in the model.
-/
import Derived.Test.YbulkazjiRows
import Derived.WalkKit
import Derived.HandedShaped
namespace Go.Proofs.Ybulkazji
open Go.RowKit

theorem run_callFunc_next {P : Program} {f : FuncId} {fn : Func} {e : Array Value → Sem Next} (hf : P.funcs[f]? = some fn) (hname : (fn.name == "runtime.NumGoroutine") = false)
    (hb : fn.body.isNone = true) (hn : Extern.findNext fn = some e) (args : Array Value) (w : World) :
    (callFunc f args).run P w = (e args).run P w := by
  have h1 : fn.name ≠ "runtime.NumGoroutine" := by simpa using hname
  have h2 : fn.body = none := by simpa using hb
  simp [callFunc, hf, h1, h2, hn, mark, Sem.run]

theorem sys_procs (w : World) : w.sys (.procs 0) = (.int (w.os.procs : Int), w) := rfl

theorem run_procs0 {P : Program} (w : World) : (Extern.OsHooks.procs 0).run P w = .ok (w.os.procs : Int) w := rfl

theorem run_everSet {P : Program} (w : World) (cs : Array (Nat × Deferred)) (r : Option Nat) (h : w.heap[cleanupTable P]? = some (.finalizers cs r)) : Extern.RuntimeCleanup.everSet.run P w = .ok (!cs.isEmpty) w := by
  simp [Extern.RuntimeCleanup.everSet, getObj, program, Sem.run, h]

theorem run_gomax {P : Program} (w : World) (cs : Array (Nat × Deferred)) (r : Option Nat) (h : w.heap[cleanupTable P]? = some (.finalizers cs r)) (ps rs : Array TypeId) :
    (Extern.OsHooks.gomaxprocs ps rs #[.int .i64 0]).run P w = .ok (.value (.int .i64 (w.os.procs : Int))) w := by
  refine Eq.trans (congrArg (fun s => Sem.run P s w) (show Extern.OsHooks.gomaxprocs ps rs #[.int .i64 0] = Bind.bind (Extern.OsHooks.procs 0) (fun old => Bind.bind Extern.RuntimeCleanup.everSet (fun b => _)) from rfl)) ?_
  rw [Sem.run_bind, run_procs0, Result.andThen_ok, Sem.run_bind, run_everSet w cs r h, Result.andThen_ok]
  rfl

theorem finds8 : Extern.findNext Yba.f8 = some (Extern.OsHooks.gomaxprocs Yba.f8.params Yba.f8.resultTypes) := by kernel_rfl

/-- runtime.GOMAXPROCS(0): the number in force; nothing turns. -/
theorem gomax (w : World) (cs : Array (Nat × Deferred)) (r : Option Nat) (h : w.heap[cleanupTable Yba.prog]? = some (.finalizers cs r)) :
    (callFunc 8 #[.int .i64 0]).run Yba.prog w = .ok (.value (.int .i64 (w.os.procs : Int))) w := by
  rw [run_callFunc_next Yba.func8 (by kernel_rfl) (by kernel_rfl) finds8]
  exact run_gomax w cs r h _ _

end Go.Proofs.Ybulkazji
