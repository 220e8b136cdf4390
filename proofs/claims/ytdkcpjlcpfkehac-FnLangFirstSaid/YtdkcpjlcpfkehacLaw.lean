/- What every law's proof shares: the imports of the row's step, and the program's own knob. -/
import Derived.Test.YtdkcpjlcpfkehacBase
import Derived.ProofKit
import Derived.OpenShut
import Derived.ShutString
import Derived.ChangeOld
namespace Go.Proofs.Ytdkcpjlcpfkehac
open Go.ChangeShapes Go.WideShapes Go.ChangeAt Go.RowKit

theorem own : ownKnob Try.prog.godebug = none := by kernel_rfl

end Go.Proofs.Ytdkcpjlcpfkehac
