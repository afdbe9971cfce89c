/-
  Two closed facts of the program.
-/
import Derived.Test.YtomldkhafbpniaaRows
import Derived.ProofKit
namespace Go.Proofs.Ytomldkhafbpniaa
theorem own : ownKnob Try.prog.godebug = none := by kernel_rfl
theorem laidOut : laidOutB Try.prog = true := by kernel_rfl
end Go.Proofs.Ytomldkhafbpniaa
