/- What the laws over releases share: the numbers that came in, and the world behind their box. -/
import Derived.Test.YtdkcpjlcpfkehaaRel
import Derived.Test.YtdkcpjlcpfkehaaParse4
import Derived.Test.YtdkcpjlcpfkehaaLaw
namespace Go.Proofs.Ytdkcpjlcpfkehaa
open Go.RowKit Plain

theorem nat_u32 {a : Int} (h : (Lit.int .u32 a).wf = true) : ∃ n : Nat, a = n ∧ n < 4294967296 := by
  have := bounds_u32 h
  exact ⟨a.toNat, by omega, by omega⟩
theorem nat_u8 {a : Int} (h : (Lit.int .u8 a).wf = true) : ∃ n : Nat, a = n ∧ n < 256 := by
  have := bounds_u8 h
  exact ⟨a.toNat, by omega, by omega⟩

theorem textOf_len {a b s n : Nat} (ha : a < 4294967296) (hb : b < 4294967296) (hn : n < 4294967296) : (textOf a b s n).length ≤ 40 := by
  have h1 := langOf_len ha hb
  have h2 := kindOf_len s
  have h3 := dec_len hn
  unfold textOf
  split
  · omega
  · split <;> simp <;> omega
end Go.Proofs.Ytdkcpjlcpfkehaa
