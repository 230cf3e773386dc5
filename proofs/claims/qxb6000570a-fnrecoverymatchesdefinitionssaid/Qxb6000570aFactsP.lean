/-
  The closed facts that every row of this seat shares (they speak of the program and of cells that are the same in each row), one declaration each: the kernel gives its memory back between them.
-/
import Derived.Test.Qxb6000570aRows
import Derived.JoinedOf
import Derived.KernelRfl
namespace Go.Proofs.Qxb6000570a.common
set_option linter.unusedVariables false
set_option maxRecDepth 100000
theorem fact1 : (fun (P : Program) (c : OpenClaim) => (laidOutB P : Bool)) Try.prog Rows.fnComponentsAreMutualReachabilityRow = true := by kernel_rfl
theorem fact2 : (fun (P : Program) (c : OpenClaim) => (mapsRowed P : Bool)) Try.prog Rows.fnComponentsAreMutualReachabilityRow = true := by kernel_rfl
theorem fact6 : (fun (P : Program) (c : OpenClaim) => ((P.stops == []) : Bool)) Try.prog Rows.fnComponentsAreMutualReachabilityRow = true := by kernel_rfl
theorem fact8 : (fun (P : Program) (c : OpenClaim) => ((P.stopKnobs == []) : Bool)) Try.prog Rows.fnComponentsAreMutualReachabilityRow = true := by kernel_rfl
theorem fact22 : (fun (P : Program) (c : OpenClaim) => ((c.plainKeys == P.plainKeys) : Bool)) Try.prog Rows.fnComponentsAreMutualReachabilityRow = true := by kernel_rfl
theorem fact24 : (fun (P : Program) (c : OpenClaim) => (P.stopsHeard : Bool)) Try.prog Rows.fnComponentsAreMutualReachabilityRow = true := by kernel_rfl
theorem fact25 : (fun (P : Program) (c : OpenClaim) => (P.mayEnter : Bool)) Try.prog Rows.fnComponentsAreMutualReachabilityRow = true := by kernel_rfl
theorem fact26 : (fun (P : Program) (c : OpenClaim) => ((c.lifted == P.liftsFinal) : Bool)) Try.prog Rows.fnComponentsAreMutualReachabilityRow = true := by kernel_rfl
theorem fact27 : (fun (P : Program) (c : OpenClaim) => ((P.make == some c.make) : Bool)) Try.prog Rows.fnComponentsAreMutualReachabilityRow = true := by kernel_rfl
end Go.Proofs.Qxb6000570a.common

