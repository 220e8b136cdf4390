/- The walk of the reference's order of two numbers. -/
import Derived.Test.YtdkcpjlcpfkehabBase
namespace Go.Proofs.Ytdkcpjlcpfkehab
open Go.RowKit Plain

set_option maxHeartbeats 400000 in
theorem sorder (a b : Nat) (w : World) :
    Calls Try.prog 24 #[.int .u32 a, .int .u32 b] w fun e w' => e = .returned (.int .i64 (ord a b)) ∧ w = w' := by
  by_cases h1 : a < b
  · have hv : ord a b = -1 := by unfold ord; rw [if_pos h1]
    rw [hv]
    clear hv
    go_enter Try.func24, Try.ntmps24
    go_wp2
    go_ret
    exact ⟨rfl, rfl⟩
  · by_cases h2 : b < a
    · have hv : ord a b = 1 := by unfold ord; rw [if_neg h1, if_pos h2]
      rw [hv]
      clear hv
      go_enter Try.func24, Try.ntmps24
      go_wp2
      go_ret
      exact ⟨rfl, rfl⟩
    · have hv : ord a b = 0 := by unfold ord; rw [if_neg h1, if_neg h2]
      rw [hv]
      clear hv
      go_enter Try.func24, Try.ntmps24
      go_wp2
      go_ret
      exact ⟨rfl, rfl⟩

end Go.Proofs.Ytdkcpjlcpfkehab
