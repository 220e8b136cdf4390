/- The walk of cmp.Compare at texts. -/
import Derived.Test.YtdkcpjlcpfkehacBase
namespace Go.Proofs.Ytdkcpjlcpfkehac
open Go.RowKit Plain

theorem cisNaN (x : ByteArray) (w : World) : Calls Try.prog 28 #[.string x] w fun e w' => e = .returned (.bool false) ∧ w = w' := by
  go_enter Try.func28, Try.ntmps28
  go_wp2
  go_ret
  exact ⟨by simp, rfl⟩

set_option maxHeartbeats 400000 in
theorem cCompare (x y : ByteArray) (w : World) :
    Calls Try.prog 26 #[.string x, .string y] w fun e w' => e = .returned (.int .i64 (cmpStr x.data.toList y.data.toList)) ∧ w = w' := by
  have hL : Op.bytesLess x.toList y.toList = decide (x.data.toList < y.data.toList) := by rw [toList_data, toList_data, bytesLess_iff]
  have hE : (x.toList == y.toList) = decide (x.data.toList = y.data.toList) := by rw [toList_data, toList_data, Bool.eq_iff_iff]; simp
  have irr : ∀ x : List UInt8, ¬ x < x := List.lt_irrefl
  by_cases h1 : x.data.toList < y.data.toList
  · have hv : cmpStr x.data.toList y.data.toList = -1 := by unfold cmpStr; rw [if_pos h1]
    have hL' : Op.bytesLess x.toList y.toList = true := by rw [hL]; simpa using h1
    rw [hv]
    clear hv hL hE h1 irr
    go_enter Try.func26, Try.ntmps26
    go_wp2_with (go_at_call 28; refine (cisNaN _ _).mono ?_; rintro e w' ⟨rfl, rfl⟩)
    go_ret
    exact ⟨rfl, rfl⟩
  · have hL' : Op.bytesLess x.toList y.toList = false := by rw [hL]; simpa using h1
    by_cases h2 : x.data.toList = y.data.toList
    · have hv : cmpStr x.data.toList y.data.toList = 0 := by unfold cmpStr; rw [if_neg h1, h2, if_neg (irr _)]
      have hE' : (x.toList == y.toList) = true := by rw [hE]; simpa using h2
      rw [hv]
      clear hv hL hE h1 h2 irr
      go_enter Try.func26, Try.ntmps26
      go_wp2_with (go_at_call 28; refine (cisNaN _ _).mono ?_; rintro e w' ⟨rfl, rfl⟩)
      go_ret
      exact ⟨rfl, rfl⟩
    · have h3 : y.data.toList < x.data.toList := by
        rcases bytes_tot x.data.toList y.data.toList with h | h | h
        · exact absurd h h1
        · exact absurd h h2
        · exact h
      have hv : cmpStr x.data.toList y.data.toList = 1 := by unfold cmpStr; rw [if_neg h1, if_pos h3]
      have hE' : (x.toList == y.toList) = false := by rw [hE]; simpa using h2
      rw [hv]
      clear hv hL hE h1 h2 h3 irr
      go_enter Try.func26, Try.ntmps26
      go_wp2_with (go_at_call 28; refine (cisNaN _ _).mono ?_; rintro e w' ⟨rfl, rfl⟩)
      go_ret
      exact ⟨rfl, rfl⟩

end Go.Proofs.Ytdkcpjlcpfkehac
