/- What every law's proof shares: the imports of the row's step, and the program's own knob. -/
import Derived.Test.YtdkcpjlcpfkehaaBase
import Derived.ProofKit
import Derived.OpenShut
import Derived.ShutString
import Derived.ChangeOld
namespace Go.Proofs.Ytdkcpjlcpfkehaa
open Go.ChangeShapes Go.WideShapes Go.ChangeAt Go.RowKit

theorem own : ownKnob Try.prog.godebug = none := by kernel_rfl

end Go.Proofs.Ytdkcpjlcpfkehaa
