/- The walk of the reference's Text: a version that was taken apart, as it is written. -/
import Derived.Test.YtdkcpjlcpfkehacMk
namespace Go.Proofs.Ytdkcpjlcpfkehac
open Go.RowKit Plain

theorem sText_nopatch (m i k q : List UInt8) (w : World) (hi : i ≠ []) (lm : m.length ≤ 140737488351232) (li : i.length ≤ 140737488351232) (lk : k.length ≤ 140737488351232) (lq : q.length ≤ 140737488351232) :
    Calls Try.prog 15 #[.agg #[.string (mk m), .string (mk i), .string (mk []), .string (mk k), .string (mk q)]] w fun e w' => e = .returned (.string (mk (textV ⟨m, i, [], k, q⟩))) ∧ Below w.heap.size w w' := by
  have HV : Hid (textV ⟨m, i, [], k, q⟩ = m ++ 46 :: (i ++ (k ++ q))) := by show _ = _; simp [textV, hi]
  have e1 : i.isEmpty = false := by cases i with | nil => exact absurd rfl hi | cons => rfl
  clear hi
  go_enter Try.func15, Try.ntmps15
  go_wp2
  go_ret
  exact ⟨ret_str (by rw [HV.out]), by go_grown⟩

theorem sText_patch (m i p k q : List UInt8) (w : World) (hi : i ≠ []) (hp : p ≠ []) (lm : m.length ≤ 140737488351232) (li : i.length ≤ 140737488351232) (lp : p.length ≤ 140737488351232) (lk : k.length ≤ 140737488351232) (lq : q.length ≤ 140737488351232) :
    Calls Try.prog 15 #[.agg #[.string (mk m), .string (mk i), .string (mk p), .string (mk k), .string (mk q)]] w fun e w' => e = .returned (.string (mk (textV ⟨m, i, p, k, q⟩))) ∧ Below w.heap.size w w' := by
  have HV : Hid (textV ⟨m, i, p, k, q⟩ = m ++ 46 :: (i ++ 46 :: (p ++ (k ++ q)))) := by show _ = _; simp [textV, hi, hp]
  have e1 : i.isEmpty = false := by cases i with | nil => exact absurd rfl hi | cons => rfl
  have e2 : p.isEmpty = false := by cases p with | nil => exact absurd rfl hp | cons => rfl
  clear hi hp
  go_enter Try.func15, Try.ntmps15
  go_wp2
  go_ret
  exact ⟨ret_str (by rw [HV.out]), by go_grown⟩
end Go.Proofs.Ytdkcpjlcpfkehac
