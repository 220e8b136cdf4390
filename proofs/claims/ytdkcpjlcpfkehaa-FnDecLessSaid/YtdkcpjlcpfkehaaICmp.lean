/- The walk of impl.CmpInt. -/
import Derived.Test.YtdkcpjlcpfkehaaCmp
namespace Go.Proofs.Ytdkcpjlcpfkehaa
open Go.RowKit Plain

theorem iCmpInt (x y : ByteArray) (w : World) :
    Calls Try.prog 10 #[.string x, .string y] w fun e w' => e = .returned (.int .i64 (cmpInt x.data.toList y.data.toList)) ∧ w = w' := by
  go_enter Try.func10, Try.ntmps10
  go_wp2_with fail
  refine (gCmpInt _ _ _).mono ?_
  rintro e w' ⟨rfl, rfl⟩
  go_wp2_with fail
  go_ret
  exact ⟨rfl, rfl⟩

end Go.Proofs.Ytdkcpjlcpfkehaa
