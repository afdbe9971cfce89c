/-
  Two closed facts of the program.
-/
import Derived.Test.YtomldkhafbpniaaDoorRows
import Derived.ProofKit
namespace Go.Proofs.YtomldkhafbpniaaDoor
theorem own : ownKnob Tryd.prog.godebug = none := by kernel_rfl
theorem laidOut : laidOutB Tryd.prog = true := by kernel_rfl
end Go.Proofs.YtomldkhafbpniaaDoor
