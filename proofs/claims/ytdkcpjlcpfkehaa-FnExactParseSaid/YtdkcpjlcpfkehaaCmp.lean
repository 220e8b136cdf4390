/- The walk of gover.CmpInt: it returns what the plain comparison of the bytes' lists is, and changes nothing. -/
import Derived.Test.YtdkcpjlcpfkehaaBase
namespace Go.Proofs.Ytdkcpjlcpfkehaa
open Go.RowKit Plain

set_option maxHeartbeats 400000 in
theorem gCmpInt (x y : ByteArray) (w : World) :
    Calls Try.prog 21 #[.string x, .string y] w fun e w' => e = .returned (.int .i64 (cmpInt x.data.toList y.data.toList)) ∧ w = w' := by
  by_cases h1 : x = y
  · subst h1
    have hv : cmpInt x.data.toList x.data.toList = 0 := isCmp_cmpInt.self _
    rw [hv]
    clear hv
    go_enter Try.func21, Try.ntmps21
    go_wp2
    go_ret
    exact ⟨rfl, rfl⟩
  · have hne : x.data.toList ≠ y.data.toList := fun e => h1 (by rw [mk_eq e, mk_of])
    have hb : (x.toList == y.toList) = false := by rw [toList_data, toList_data]; simpa using hne
    have sx := size_len x
    have sy := size_len y
    by_cases h2 : x.size < y.size
    · have hv : cmpInt x.data.toList y.data.toList = -1 := by
        unfold cmpInt; rw [if_neg hne, if_pos (by omega)]
      rw [hv]
      clear hv hne h1 sx sy
      have h2' : decide (x.size < y.size) = true := by simpa using h2
      go_enter Try.func21, Try.ntmps21
      go_wp2
      go_ret
      exact ⟨rfl, rfl⟩
    · by_cases h3 : y.size < x.size
      · have hv : cmpInt x.data.toList y.data.toList = 1 := by
          unfold cmpInt; rw [if_neg hne, if_neg (by omega), if_pos (by omega)]
        rw [hv]
        clear hv hne h1 sx sy
        go_enter Try.func21, Try.ntmps21
        go_wp2
        go_ret
        exact ⟨rfl, rfl⟩
      · have hL : Op.bytesLess x.toList y.toList = decide (x.data.toList < y.data.toList) := by rw [toList_data, toList_data, bytesLess_iff]
        by_cases h4 : x.data.toList < y.data.toList
        · have hv : cmpInt x.data.toList y.data.toList = -1 := by
            unfold cmpInt; rw [if_neg hne, if_neg (by omega), if_neg (by omega), if_pos h4]
          have hL' : Op.bytesLess x.toList y.toList = true := by rw [hL]; simpa using h4
          rw [hv]
          clear hv hne h1 sx sy hL h4
          go_enter Try.func21, Try.ntmps21
          go_wp2
          go_ret
          exact ⟨rfl, rfl⟩
        · have hv : cmpInt x.data.toList y.data.toList = 1 := by
            unfold cmpInt; rw [if_neg hne, if_neg (by omega), if_neg (by omega), if_neg h4]
          have hL' : Op.bytesLess x.toList y.toList = false := by rw [hL]; simpa using h4
          rw [hv]
          clear hv hne h1 sx sy hL h4
          go_enter Try.func21, Try.ntmps21
          go_wp2
          go_ret
          exact ⟨rfl, rfl⟩

end Go.Proofs.Ytdkcpjlcpfkehaa
