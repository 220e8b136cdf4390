/-
  No cell of these rows narrows 'for every input' (looked for: loops, veiled, ifaces, maps, wideKeys, modest, calm, conditions, laid).
  DERIVED. THE GIVEN ROWS OF THIS SEAT. 6 by the template 'for every input the law returns true; each argument reads behind the call as it read before'; 0 by the template 'total and deterministic' (their statements: YtdkcpjlcpfkehabTotals.lean).
  GIVEN WITH THE SEED: the statements are not yours to turn. If you find one false, say at which input.
  Laid BY PROGRAM, IN A SANDBOX (cutbox-rows.mjs): the forced cells as the released guide's own fill.sh prints them over the translation 272e935ff99d6c72… (all of the seat's roots in one cut). By AI agents, Wed Nov 11 2026. No macro, syntax, notation, axiom, sorry.
-/
import Derived.Test.YtdkcpjlcpfkehabChecked
import GoSem.Claim
import GoSem.ClaimJoined
import GoSem.ClaimMapViews
import Derived.JoinedTies
import Derived.KernelRfl
namespace Go.Proofs.Ytdkcpjlcpfkehab
/- THE CELL 'sum', in the pinned program and in every row, IS THE sha256 OF THE DUMP (.gsa) THAT YtdkcpjlcpfkehabProg.lean LOADS. Nothing in Lean hashes anything: it is a label: what it is worth is what the hold of that sum in a sandbox is worth. -/
noncomputable def Try.pinned : Pinned := { name := "ytdkcpjlcpfkehab", sum := "272e935ff99d6c726bdff2099ca2f1bf38a122493338706addd328770e34d43e", checked := Try.checked }
namespace Rows
def none {H : Type} : Left H := { results := [], args := [] }

/-- 'laws.FnParts': WHATEVER THE INPUT: true; the input reads as it did. -/
def fnPartsSpec : ChangeSpec := { name := "fnParts", fn := fun _ => fun
  | [d] => { results := [.lit (.bool true)], args := [d] }
  | _ => none }
def fnPartsRow : OpenClaim := { program := "ytdkcpjlcpfkehab", sum := "272e935ff99d6c726bdff2099ca2f1bf38a122493338706addd328770e34d43e", func := "loop.example/pub-toolchainversions/laws.FnParts", spec := "fnParts", apart := false }
def FnPartsSaid : Prop := fnPartsRow.holds Try.pinned (OpenSpec.ofChange fnPartsSpec)

/-- ITS FALSE NEIGHBOUR: 'it returns false'. Refute it at one input. -/
def fnPartsWrong : ChangeSpec := { name := "fnParts", fn := fun _ => fun
  | [d] => { results := [.lit (.bool false)], args := [d] }
  | _ => none }
def FnPartsWrongFalsely : Prop := fnPartsRow.holds Try.pinned (OpenSpec.ofChange fnPartsWrong)

/-- 'laws.FnExactLang': WHATEVER THE INPUT: true; the input reads as it did. -/
def fnExactLangSpec : ChangeSpec := { name := "fnExactLang", fn := fun _ => fun
  | [d1, d2, d3, d4] => { results := [.lit (.bool true)], args := [d1, d2, d3, d4] }
  | _ => none }
def fnExactLangRow : OpenClaim := { program := "ytdkcpjlcpfkehab", sum := "272e935ff99d6c726bdff2099ca2f1bf38a122493338706addd328770e34d43e", func := "loop.example/pub-toolchainversions/laws.FnExactLang", spec := "fnExactLang", recurses := true, apart := false }
def FnExactLangSaid : Prop := fnExactLangRow.holds Try.pinned (OpenSpec.ofChange fnExactLangSpec)

/-- ITS FALSE NEIGHBOUR: 'it returns false'. Refute it at one input. -/
def fnExactLangWrong : ChangeSpec := { name := "fnExactLang", fn := fun _ => fun
  | [d1, d2, d3, d4] => { results := [.lit (.bool false)], args := [d1, d2, d3, d4] }
  | _ => none }
def FnExactLangWrongFalsely : Prop := fnExactLangRow.holds Try.pinned (OpenSpec.ofChange fnExactLangWrong)

/-- 'laws.FnLangAgain': WHATEVER THE INPUT: true; the input reads as it did. -/
def fnLangAgainSpec : ChangeSpec := { name := "fnLangAgain", fn := fun _ => fun
  | [d1, d2, d3, d4, d5, d6, d7, d8] => { results := [.lit (.bool true)], args := [d1, d2, d3, d4, d5, d6, d7, d8] }
  | _ => none }
def fnLangAgainRow : OpenClaim := { program := "ytdkcpjlcpfkehab", sum := "272e935ff99d6c726bdff2099ca2f1bf38a122493338706addd328770e34d43e", func := "loop.example/pub-toolchainversions/laws.FnLangAgain", spec := "fnLangAgain", recurses := true, apart := false }
def FnLangAgainSaid : Prop := fnLangAgainRow.holds Try.pinned (OpenSpec.ofChange fnLangAgainSpec)

/-- ITS FALSE NEIGHBOUR: 'it returns false'. Refute it at one input. -/
def fnLangAgainWrong : ChangeSpec := { name := "fnLangAgain", fn := fun _ => fun
  | [d1, d2, d3, d4, d5, d6, d7, d8] => { results := [.lit (.bool false)], args := [d1, d2, d3, d4, d5, d6, d7, d8] }
  | _ => none }
def FnLangAgainWrongFalsely : Prop := fnLangAgainRow.holds Try.pinned (OpenSpec.ofChange fnLangAgainWrong)

/-- 'laws.FnChain': WHATEVER THE INPUT: true; the input reads as it did. -/
def fnChainSpec : ChangeSpec := { name := "fnChain", fn := fun _ => fun
  | [d1, d2, d3] => { results := [.lit (.bool true)], args := [d1, d2, d3] }
  | _ => none }
def fnChainRow : OpenClaim := { program := "ytdkcpjlcpfkehab", sum := "272e935ff99d6c726bdff2099ca2f1bf38a122493338706addd328770e34d43e", func := "loop.example/pub-toolchainversions/laws.FnChain", spec := "fnChain", apart := false }
def FnChainSaid : Prop := fnChainRow.holds Try.pinned (OpenSpec.ofChange fnChainSpec)

/-- ITS FALSE NEIGHBOUR: 'it returns false'. Refute it at one input. -/
def fnChainWrong : ChangeSpec := { name := "fnChain", fn := fun _ => fun
  | [d1, d2, d3] => { results := [.lit (.bool false)], args := [d1, d2, d3] }
  | _ => none }
def FnChainWrongFalsely : Prop := fnChainRow.holds Try.pinned (OpenSpec.ofChange fnChainWrong)

/-- 'laws.FnExactOrder': WHATEVER THE INPUT: true; the input reads as it did. -/
def fnExactOrderSpec : ChangeSpec := { name := "fnExactOrder", fn := fun _ => fun
  | [d1, d2, d3, d4, d5, d6, d7, d8] => { results := [.lit (.bool true)], args := [d1, d2, d3, d4, d5, d6, d7, d8] }
  | _ => none }
def fnExactOrderRow : OpenClaim := { program := "ytdkcpjlcpfkehab", sum := "272e935ff99d6c726bdff2099ca2f1bf38a122493338706addd328770e34d43e", func := "loop.example/pub-toolchainversions/laws.FnExactOrder", spec := "fnExactOrder", recurses := true, apart := false }
def FnExactOrderSaid : Prop := fnExactOrderRow.holds Try.pinned (OpenSpec.ofChange fnExactOrderSpec)

/-- ITS FALSE NEIGHBOUR: 'it returns false'. Refute it at one input. -/
def fnExactOrderWrong : ChangeSpec := { name := "fnExactOrder", fn := fun _ => fun
  | [d1, d2, d3, d4, d5, d6, d7, d8] => { results := [.lit (.bool false)], args := [d1, d2, d3, d4, d5, d6, d7, d8] }
  | _ => none }
def FnExactOrderWrongFalsely : Prop := fnExactOrderRow.holds Try.pinned (OpenSpec.ofChange fnExactOrderWrong)

/-- 'laws.FnExactOrderAll': WHATEVER THE INPUT: true; the input reads as it did. -/
def fnExactOrderAllSpec : ChangeSpec := { name := "fnExactOrderAll", fn := fun _ => fun
  | [d1, d2, d3, d4, d5, d6, d7, d8] => { results := [.lit (.bool true)], args := [d1, d2, d3, d4, d5, d6, d7, d8] }
  | _ => none }
def fnExactOrderAllRow : OpenClaim := { program := "ytdkcpjlcpfkehab", sum := "272e935ff99d6c726bdff2099ca2f1bf38a122493338706addd328770e34d43e", func := "loop.example/pub-toolchainversions/laws.FnExactOrderAll", spec := "fnExactOrderAll", recurses := true, apart := false }
def FnExactOrderAllSaid : Prop := fnExactOrderAllRow.holds Try.pinned (OpenSpec.ofChange fnExactOrderAllSpec)

/-- ITS FALSE NEIGHBOUR: 'it returns false'. Refute it at one input. -/
def fnExactOrderAllWrong : ChangeSpec := { name := "fnExactOrderAll", fn := fun _ => fun
  | [d1, d2, d3, d4, d5, d6, d7, d8] => { results := [.lit (.bool false)], args := [d1, d2, d3, d4, d5, d6, d7, d8] }
  | _ => none }
def FnExactOrderAllWrongFalsely : Prop := fnExactOrderAllRow.holds Try.pinned (OpenSpec.ofChange fnExactOrderAllWrong)

/- THE SECOND FORM. 'bulk': how many values and letters a reading holds, each counted each time it is reached (what is shared counts as often as it is met; a slice's spare places count too). A statement '..UptoSaid' is the law's where the arguments, and the package variables that the reading takes, are together of bulk at most 1048576: NARROWER than '..Said'. Prove '..Said' where nothing that the law and all that it calls make is longer than what came in: it says more and counts as full. Else prove '..UptoSaid'. A law counts once. -/
mutual
def uptoBulk {H : Type} : DataW H → Nat
  | .lit (.string bytes) => bytes.length + 1
  | .lit _ => 1
  | .nil => 1
  | .ptr d => uptoBulk d + 1
  | .slice elems spare => uptoBulkAll elems + uptoBulkAll spare + 1
  | .agg parts => uptoBulkAll parts + 1
  | .iface _ d => uptoBulk d + 1
  | .map entries => uptoBulkEntries entries + 1
  | .held _ => 1
def uptoBulkAll {H : Type} : List (DataW H) → Nat
  | [] => 0
  | d :: r => uptoBulk d + uptoBulkAll r
def uptoBulkEntries {H : Type} : List (Lit × DataW H) → Nat
  | [] => 0
  | x :: r => uptoBulkEntry x + uptoBulkEntries r
def uptoBulkEntry {H : Type} : Lit × DataW H → Nat
  | (.string bytes, d) => bytes.length + uptoBulk d + 1
  | (_, d) => uptoBulk d + 1
 end
def uptoSmall : (H : Type) → List (DataW H) → Bool := fun _ ds => decide (uptoBulkAll ds ≤ 1048576)
def OpenSpec.upto (s : _root_.Go.ChangeSpec) : _root_.Go.OpenSpec := { _root_.Go.OpenSpec.ofChange s with cond := some uptoSmall }

/-- 'laws.FnParts', WHERE WHAT IT READS IS OF BULK AT MOST 1048576: true; the input reads as it did. -/
def fnPartsUptoRow : OpenClaim := { program := "ytdkcpjlcpfkehab", sum := "272e935ff99d6c726bdff2099ca2f1bf38a122493338706addd328770e34d43e", func := "loop.example/pub-toolchainversions/laws.FnParts", spec := "fnParts", apart := false, narrowed := true }
def FnPartsUptoSaid : Prop := fnPartsUptoRow.holds Try.pinned (OpenSpec.upto fnPartsSpec)

/-- 'laws.FnExactLang', WHERE WHAT IT READS IS OF BULK AT MOST 1048576: true; the input reads as it did. -/
def fnExactLangUptoRow : OpenClaim := { program := "ytdkcpjlcpfkehab", sum := "272e935ff99d6c726bdff2099ca2f1bf38a122493338706addd328770e34d43e", func := "loop.example/pub-toolchainversions/laws.FnExactLang", spec := "fnExactLang", recurses := true, apart := false, narrowed := true }
def FnExactLangUptoSaid : Prop := fnExactLangUptoRow.holds Try.pinned (OpenSpec.upto fnExactLangSpec)

/-- 'laws.FnLangAgain', WHERE WHAT IT READS IS OF BULK AT MOST 1048576: true; the input reads as it did. -/
def fnLangAgainUptoRow : OpenClaim := { program := "ytdkcpjlcpfkehab", sum := "272e935ff99d6c726bdff2099ca2f1bf38a122493338706addd328770e34d43e", func := "loop.example/pub-toolchainversions/laws.FnLangAgain", spec := "fnLangAgain", recurses := true, apart := false, narrowed := true }
def FnLangAgainUptoSaid : Prop := fnLangAgainUptoRow.holds Try.pinned (OpenSpec.upto fnLangAgainSpec)

/-- 'laws.FnChain', WHERE WHAT IT READS IS OF BULK AT MOST 1048576: true; the input reads as it did. -/
def fnChainUptoRow : OpenClaim := { program := "ytdkcpjlcpfkehab", sum := "272e935ff99d6c726bdff2099ca2f1bf38a122493338706addd328770e34d43e", func := "loop.example/pub-toolchainversions/laws.FnChain", spec := "fnChain", apart := false, narrowed := true }
def FnChainUptoSaid : Prop := fnChainUptoRow.holds Try.pinned (OpenSpec.upto fnChainSpec)

/-- 'laws.FnExactOrder', WHERE WHAT IT READS IS OF BULK AT MOST 1048576: true; the input reads as it did. -/
def fnExactOrderUptoRow : OpenClaim := { program := "ytdkcpjlcpfkehab", sum := "272e935ff99d6c726bdff2099ca2f1bf38a122493338706addd328770e34d43e", func := "loop.example/pub-toolchainversions/laws.FnExactOrder", spec := "fnExactOrder", recurses := true, apart := false, narrowed := true }
def FnExactOrderUptoSaid : Prop := fnExactOrderUptoRow.holds Try.pinned (OpenSpec.upto fnExactOrderSpec)

/-- 'laws.FnExactOrderAll', WHERE WHAT IT READS IS OF BULK AT MOST 1048576: true; the input reads as it did. -/
def fnExactOrderAllUptoRow : OpenClaim := { program := "ytdkcpjlcpfkehab", sum := "272e935ff99d6c726bdff2099ca2f1bf38a122493338706addd328770e34d43e", func := "loop.example/pub-toolchainversions/laws.FnExactOrderAll", spec := "fnExactOrderAll", recurses := true, apart := false, narrowed := true }
def FnExactOrderAllUptoSaid : Prop := fnExactOrderAllUptoRow.holds Try.pinned (OpenSpec.upto fnExactOrderAllSpec)

end Rows
end Go.Proofs.Ytdkcpjlcpfkehab
