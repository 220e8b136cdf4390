/-
  No cell of these rows narrows 'for every input' (looked for: loops, veiled, ifaces, maps, wideKeys, modest, calm, conditions, laid).
  DERIVED. THE GIVEN ROWS OF THIS SEAT. 6 by the template 'for every input the law returns true; each argument reads behind the call as it read before'; 0 by the template 'total and deterministic' (their statements: YtdkcpjlcpfkehacTotals.lean).
  GIVEN WITH THE SEED: the statements are not yours to turn. If you find one false, say at which input.
  Laid BY PROGRAM, IN A SANDBOX (cutbox-rows.mjs): the forced cells as the released guide's own fill.sh prints them over the translation cd7dfdd3d662d7bf… (all of the seat's roots in one cut). By AI agents, Wed Nov 11 2026. No macro, syntax, notation, axiom, sorry.
-/
import Derived.Test.YtdkcpjlcpfkehacChecked
import GoSem.Claim
import GoSem.ClaimJoined
import GoSem.ClaimMapViews
import Derived.JoinedTies
import Derived.KernelRfl
namespace Go.Proofs.Ytdkcpjlcpfkehac
/- THE CELL 'sum', in the pinned program and in every row, IS THE sha256 OF THE DUMP (.gsa) THAT YtdkcpjlcpfkehacProg.lean LOADS. Nothing in Lean hashes anything: it is a label: what it is worth is what the hold of that sum in a sandbox is worth. -/
noncomputable def Try.pinned : Pinned := { name := "ytdkcpjlcpfkehac", sum := "cd7dfdd3d662d7bfef27fd0d8c29bad66994d851edd570d6b5dc64f37da28ed8", checked := Try.checked }
namespace Rows
def none {H : Type} : Left H := { results := [], args := [] }

/-- 'laws.FnTurned': WHATEVER THE INPUT: true; the input reads as it did. -/
def fnTurnedSpec : ChangeSpec := { name := "fnTurned", fn := fun _ => fun
  | [d1, d2] => { results := [.lit (.bool true)], args := [d1, d2] }
  | _ => none }
def fnTurnedRow : OpenClaim := { program := "ytdkcpjlcpfkehac", sum := "cd7dfdd3d662d7bfef27fd0d8c29bad66994d851edd570d6b5dc64f37da28ed8", func := "loop.example/pub-toolchainversions/laws.FnTurned", spec := "fnTurned", apart := false }
def FnTurnedSaid : Prop := fnTurnedRow.holds Try.pinned (OpenSpec.ofChange fnTurnedSpec)

/-- ITS FALSE NEIGHBOUR: 'it returns false'. Refute it at one input. -/
def fnTurnedWrong : ChangeSpec := { name := "fnTurned", fn := fun _ => fun
  | [d1, d2] => { results := [.lit (.bool false)], args := [d1, d2] }
  | _ => none }
def FnTurnedWrongFalsely : Prop := fnTurnedRow.holds Try.pinned (OpenSpec.ofChange fnTurnedWrong)

/-- 'laws.FnExactOld': WHATEVER THE INPUT: true; the input reads as it did. -/
def fnExactOldSpec : ChangeSpec := { name := "fnExactOld", fn := fun _ => fun
  | [d1, d2, d3, d4] => { results := [.lit (.bool true)], args := [d1, d2, d3, d4] }
  | _ => none }
def fnExactOldRow : OpenClaim := { program := "ytdkcpjlcpfkehac", sum := "cd7dfdd3d662d7bfef27fd0d8c29bad66994d851edd570d6b5dc64f37da28ed8", func := "loop.example/pub-toolchainversions/laws.FnExactOld", spec := "fnExactOld", recurses := true, apart := false }
def FnExactOldSaid : Prop := fnExactOldRow.holds Try.pinned (OpenSpec.ofChange fnExactOldSpec)

/-- ITS FALSE NEIGHBOUR: 'it returns false'. Refute it at one input. -/
def fnExactOldWrong : ChangeSpec := { name := "fnExactOld", fn := fun _ => fun
  | [d1, d2, d3, d4] => { results := [.lit (.bool false)], args := [d1, d2, d3, d4] }
  | _ => none }
def FnExactOldWrongFalsely : Prop := fnExactOldRow.holds Try.pinned (OpenSpec.ofChange fnExactOldWrong)

/-- 'laws.FnExactMax': WHATEVER THE INPUT: true; the input reads as it did. -/
def fnExactMaxSpec : ChangeSpec := { name := "fnExactMax", fn := fun _ => fun
  | [d1, d2] => { results := [.lit (.bool true)], args := [d1, d2] }
  | _ => none }
def fnExactMaxRow : OpenClaim := { program := "ytdkcpjlcpfkehac", sum := "cd7dfdd3d662d7bfef27fd0d8c29bad66994d851edd570d6b5dc64f37da28ed8", func := "loop.example/pub-toolchainversions/laws.FnExactMax", spec := "fnExactMax", apart := false }
def FnExactMaxSaid : Prop := fnExactMaxRow.holds Try.pinned (OpenSpec.ofChange fnExactMaxSpec)

/-- ITS FALSE NEIGHBOUR: 'it returns false'. Refute it at one input. -/
def fnExactMaxWrong : ChangeSpec := { name := "fnExactMax", fn := fun _ => fun
  | [d1, d2] => { results := [.lit (.bool false)], args := [d1, d2] }
  | _ => none }
def FnExactMaxWrongFalsely : Prop := fnExactMaxRow.holds Try.pinned (OpenSpec.ofChange fnExactMaxWrong)

/-- 'laws.FnMalformed': WHATEVER THE INPUT: true; the input reads as it did. -/
def fnMalformedSpec : ChangeSpec := { name := "fnMalformed", fn := fun _ => fun
  | [d1, d2] => { results := [.lit (.bool true)], args := [d1, d2] }
  | _ => none }
def fnMalformedRow : OpenClaim := { program := "ytdkcpjlcpfkehac", sum := "cd7dfdd3d662d7bfef27fd0d8c29bad66994d851edd570d6b5dc64f37da28ed8", func := "loop.example/pub-toolchainversions/laws.FnMalformed", spec := "fnMalformed", apart := false }
def FnMalformedSaid : Prop := fnMalformedRow.holds Try.pinned (OpenSpec.ofChange fnMalformedSpec)

/-- ITS FALSE NEIGHBOUR: 'it returns false'. Refute it at one input. -/
def fnMalformedWrong : ChangeSpec := { name := "fnMalformed", fn := fun _ => fun
  | [d1, d2] => { results := [.lit (.bool false)], args := [d1, d2] }
  | _ => none }
def FnMalformedWrongFalsely : Prop := fnMalformedRow.holds Try.pinned (OpenSpec.ofChange fnMalformedWrong)

/-- 'laws.FnParseAgain': WHATEVER THE INPUT: true; the input reads as it did. -/
def fnParseAgainSpec : ChangeSpec := { name := "fnParseAgain", fn := fun _ => fun
  | [d] => { results := [.lit (.bool true)], args := [d] }
  | _ => none }
def fnParseAgainRow : OpenClaim := { program := "ytdkcpjlcpfkehac", sum := "cd7dfdd3d662d7bfef27fd0d8c29bad66994d851edd570d6b5dc64f37da28ed8", func := "loop.example/pub-toolchainversions/laws.FnParseAgain", spec := "fnParseAgain", apart := false }
def FnParseAgainSaid : Prop := fnParseAgainRow.holds Try.pinned (OpenSpec.ofChange fnParseAgainSpec)

/-- ITS FALSE NEIGHBOUR: 'it returns false'. Refute it at one input. -/
def fnParseAgainWrong : ChangeSpec := { name := "fnParseAgain", fn := fun _ => fun
  | [d] => { results := [.lit (.bool false)], args := [d] }
  | _ => none }
def FnParseAgainWrongFalsely : Prop := fnParseAgainRow.holds Try.pinned (OpenSpec.ofChange fnParseAgainWrong)

/-- 'laws.FnLangFirst': WHATEVER THE INPUT: true; the input reads as it did. -/
def fnLangFirstSpec : ChangeSpec := { name := "fnLangFirst", fn := fun _ => fun
  | [d1, d2, d3, d4] => { results := [.lit (.bool true)], args := [d1, d2, d3, d4] }
  | _ => none }
def fnLangFirstRow : OpenClaim := { program := "ytdkcpjlcpfkehac", sum := "cd7dfdd3d662d7bfef27fd0d8c29bad66994d851edd570d6b5dc64f37da28ed8", func := "loop.example/pub-toolchainversions/laws.FnLangFirst", spec := "fnLangFirst", recurses := true, apart := false }
def FnLangFirstSaid : Prop := fnLangFirstRow.holds Try.pinned (OpenSpec.ofChange fnLangFirstSpec)

/-- ITS FALSE NEIGHBOUR: 'it returns false'. Refute it at one input. -/
def fnLangFirstWrong : ChangeSpec := { name := "fnLangFirst", fn := fun _ => fun
  | [d1, d2, d3, d4] => { results := [.lit (.bool false)], args := [d1, d2, d3, d4] }
  | _ => none }
def FnLangFirstWrongFalsely : Prop := fnLangFirstRow.holds Try.pinned (OpenSpec.ofChange fnLangFirstWrong)

/- THE SECOND FORM. 'bulk': how many values and letters a reading holds, each counted each time it is reached (what is shared counts as often as it is met; a slice's spare places count too). A statement '..UptoSaid' is the law's where the arguments, and the package variables that the reading takes, are together of bulk at most 1048576: NARROWER than '..Said'. Prove '..Said' where nothing that the law and all that it calls make is longer than what came in: it says more and counts as full. Else prove '..UptoSaid'. A law counts once. -/
mutual
def uptoBulk {H : Type} : DataW H → Nat
  | .lit (.string bytes) => bytes.length + 1
  | .lit _ => 1
  | .nil => 1
  | .ptr d => uptoBulk d + 1
  | .slice elems spare => uptoBulkAll elems + uptoBulkAll spare + 1
  | .agg parts => uptoBulkAll parts + 1
  | .iface _ d => uptoBulk d + 1
  | .map entries => uptoBulkEntries entries + 1
  | .held _ => 1
def uptoBulkAll {H : Type} : List (DataW H) → Nat
  | [] => 0
  | d :: r => uptoBulk d + uptoBulkAll r
def uptoBulkEntries {H : Type} : List (Lit × DataW H) → Nat
  | [] => 0
  | x :: r => uptoBulkEntry x + uptoBulkEntries r
def uptoBulkEntry {H : Type} : Lit × DataW H → Nat
  | (.string bytes, d) => bytes.length + uptoBulk d + 1
  | (_, d) => uptoBulk d + 1
 end
def uptoSmall : (H : Type) → List (DataW H) → Bool := fun _ ds => decide (uptoBulkAll ds ≤ 1048576)
def OpenSpec.upto (s : _root_.Go.ChangeSpec) : _root_.Go.OpenSpec := { _root_.Go.OpenSpec.ofChange s with cond := some uptoSmall }

/-- 'laws.FnTurned', WHERE WHAT IT READS IS OF BULK AT MOST 1048576: true; the input reads as it did. -/
def fnTurnedUptoRow : OpenClaim := { program := "ytdkcpjlcpfkehac", sum := "cd7dfdd3d662d7bfef27fd0d8c29bad66994d851edd570d6b5dc64f37da28ed8", func := "loop.example/pub-toolchainversions/laws.FnTurned", spec := "fnTurned", apart := false, narrowed := true }
def FnTurnedUptoSaid : Prop := fnTurnedUptoRow.holds Try.pinned (OpenSpec.upto fnTurnedSpec)

/-- 'laws.FnExactOld', WHERE WHAT IT READS IS OF BULK AT MOST 1048576: true; the input reads as it did. -/
def fnExactOldUptoRow : OpenClaim := { program := "ytdkcpjlcpfkehac", sum := "cd7dfdd3d662d7bfef27fd0d8c29bad66994d851edd570d6b5dc64f37da28ed8", func := "loop.example/pub-toolchainversions/laws.FnExactOld", spec := "fnExactOld", recurses := true, apart := false, narrowed := true }
def FnExactOldUptoSaid : Prop := fnExactOldUptoRow.holds Try.pinned (OpenSpec.upto fnExactOldSpec)

/-- 'laws.FnExactMax', WHERE WHAT IT READS IS OF BULK AT MOST 1048576: true; the input reads as it did. -/
def fnExactMaxUptoRow : OpenClaim := { program := "ytdkcpjlcpfkehac", sum := "cd7dfdd3d662d7bfef27fd0d8c29bad66994d851edd570d6b5dc64f37da28ed8", func := "loop.example/pub-toolchainversions/laws.FnExactMax", spec := "fnExactMax", apart := false, narrowed := true }
def FnExactMaxUptoSaid : Prop := fnExactMaxUptoRow.holds Try.pinned (OpenSpec.upto fnExactMaxSpec)

/-- 'laws.FnMalformed', WHERE WHAT IT READS IS OF BULK AT MOST 1048576: true; the input reads as it did. -/
def fnMalformedUptoRow : OpenClaim := { program := "ytdkcpjlcpfkehac", sum := "cd7dfdd3d662d7bfef27fd0d8c29bad66994d851edd570d6b5dc64f37da28ed8", func := "loop.example/pub-toolchainversions/laws.FnMalformed", spec := "fnMalformed", apart := false, narrowed := true }
def FnMalformedUptoSaid : Prop := fnMalformedUptoRow.holds Try.pinned (OpenSpec.upto fnMalformedSpec)

/-- 'laws.FnParseAgain', WHERE WHAT IT READS IS OF BULK AT MOST 1048576: true; the input reads as it did. -/
def fnParseAgainUptoRow : OpenClaim := { program := "ytdkcpjlcpfkehac", sum := "cd7dfdd3d662d7bfef27fd0d8c29bad66994d851edd570d6b5dc64f37da28ed8", func := "loop.example/pub-toolchainversions/laws.FnParseAgain", spec := "fnParseAgain", apart := false, narrowed := true }
def FnParseAgainUptoSaid : Prop := fnParseAgainUptoRow.holds Try.pinned (OpenSpec.upto fnParseAgainSpec)

/-- 'laws.FnLangFirst', WHERE WHAT IT READS IS OF BULK AT MOST 1048576: true; the input reads as it did. -/
def fnLangFirstUptoRow : OpenClaim := { program := "ytdkcpjlcpfkehac", sum := "cd7dfdd3d662d7bfef27fd0d8c29bad66994d851edd570d6b5dc64f37da28ed8", func := "loop.example/pub-toolchainversions/laws.FnLangFirst", spec := "fnLangFirst", recurses := true, apart := false, narrowed := true }
def FnLangFirstUptoSaid : Prop := fnLangFirstUptoRow.holds Try.pinned (OpenSpec.upto fnLangFirstSpec)

end Rows
end Go.Proofs.Ytdkcpjlcpfkehac
