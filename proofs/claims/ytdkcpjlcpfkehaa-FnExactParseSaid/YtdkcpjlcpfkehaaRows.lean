/-
  No cell of these rows narrows 'for every input' (looked for: loops, veiled, ifaces, maps, wideKeys, modest, calm, conditions, laid).
  DERIVED. THE GIVEN ROWS OF THIS SEAT. 6 by the template 'for every input the law returns true; each argument reads behind the call as it read before'; 0 by the template 'total and deterministic' (their statements: YtdkcpjlcpfkehaaTotals.lean).
  GIVEN WITH THE SEED: the statements are not yours to turn. If you find one false, say at which input.
  Laid BY PROGRAM, IN A SANDBOX (cutbox-rows.mjs): the forced cells as the released guide's own fill.sh prints them over the translation 6188f3e6d45ae78c… (all of the seat's roots in one cut). By AI agents, Wed Nov 11 2026. No macro, syntax, notation, axiom, sorry.
-/
import Derived.Test.YtdkcpjlcpfkehaaChecked
import GoSem.Claim
import GoSem.ClaimJoined
import GoSem.ClaimMapViews
import Derived.JoinedTies
import Derived.KernelRfl
namespace Go.Proofs.Ytdkcpjlcpfkehaa
/- THE CELL 'sum', in the pinned program and in every row, IS THE sha256 OF THE DUMP (.gsa) THAT YtdkcpjlcpfkehaaProg.lean LOADS. Nothing in Lean hashes anything: it is a label: what it is worth is what the hold of that sum in a sandbox is worth. -/
noncomputable def Try.pinned : Pinned := { name := "ytdkcpjlcpfkehaa", sum := "6188f3e6d45ae78c215651cbbf631d81413ed33d48e1fc722cfd756e0d54108a", checked := Try.checked }
namespace Rows
def none {H : Type} : Left H := { results := [], args := [] }

/-- 'laws.FnExactCmpInt': WHATEVER THE INPUT: true; the input reads as it did. -/
def fnExactCmpIntSpec : ChangeSpec := { name := "fnExactCmpInt", fn := fun _ => fun
  | [d1, d2] => { results := [.lit (.bool true)], args := [d1, d2] }
  | _ => none }
def fnExactCmpIntRow : OpenClaim := { program := "ytdkcpjlcpfkehaa", sum := "6188f3e6d45ae78c215651cbbf631d81413ed33d48e1fc722cfd756e0d54108a", func := "loop.example/pub-toolchainversions/laws.FnExactCmpInt", spec := "fnExactCmpInt", apart := false }
def FnExactCmpIntSaid : Prop := fnExactCmpIntRow.holds Try.pinned (OpenSpec.ofChange fnExactCmpIntSpec)

/-- ITS FALSE NEIGHBOUR: 'it returns false'. Refute it at one input. -/
def fnExactCmpIntWrong : ChangeSpec := { name := "fnExactCmpInt", fn := fun _ => fun
  | [d1, d2] => { results := [.lit (.bool false)], args := [d1, d2] }
  | _ => none }
def FnExactCmpIntWrongFalsely : Prop := fnExactCmpIntRow.holds Try.pinned (OpenSpec.ofChange fnExactCmpIntWrong)

/-- 'laws.FnExactDecInt': WHATEVER THE INPUT: true; the input reads as it did. -/
def fnExactDecIntSpec : ChangeSpec := { name := "fnExactDecInt", fn := fun _ => fun
  | [d] => { results := [.lit (.bool true)], args := [d] }
  | _ => none }
def fnExactDecIntRow : OpenClaim := { program := "ytdkcpjlcpfkehaa", sum := "6188f3e6d45ae78c215651cbbf631d81413ed33d48e1fc722cfd756e0d54108a", func := "loop.example/pub-toolchainversions/laws.FnExactDecInt", spec := "fnExactDecInt", apart := false }
def FnExactDecIntSaid : Prop := fnExactDecIntRow.holds Try.pinned (OpenSpec.ofChange fnExactDecIntSpec)

/-- ITS FALSE NEIGHBOUR: 'it returns false'. Refute it at one input. -/
def fnExactDecIntWrong : ChangeSpec := { name := "fnExactDecInt", fn := fun _ => fun
  | [d] => { results := [.lit (.bool false)], args := [d] }
  | _ => none }
def FnExactDecIntWrongFalsely : Prop := fnExactDecIntRow.holds Try.pinned (OpenSpec.ofChange fnExactDecIntWrong)

/-- 'laws.FnDecLess': WHATEVER THE INPUT: true; the input reads as it did. -/
def fnDecLessSpec : ChangeSpec := { name := "fnDecLess", fn := fun _ => fun
  | [d] => { results := [.lit (.bool true)], args := [d] }
  | _ => none }
def fnDecLessRow : OpenClaim := { program := "ytdkcpjlcpfkehaa", sum := "6188f3e6d45ae78c215651cbbf631d81413ed33d48e1fc722cfd756e0d54108a", func := "loop.example/pub-toolchainversions/laws.FnDecLess", spec := "fnDecLess", apart := false }
def FnDecLessSaid : Prop := fnDecLessRow.holds Try.pinned (OpenSpec.ofChange fnDecLessSpec)

/-- ITS FALSE NEIGHBOUR: 'it returns false'. Refute it at one input. -/
def fnDecLessWrong : ChangeSpec := { name := "fnDecLess", fn := fun _ => fun
  | [d] => { results := [.lit (.bool false)], args := [d] }
  | _ => none }
def FnDecLessWrongFalsely : Prop := fnDecLessRow.holds Try.pinned (OpenSpec.ofChange fnDecLessWrong)

/-- 'laws.FnExactParse': WHATEVER THE INPUT: true; the input reads as it did. -/
def fnExactParseSpec : ChangeSpec := { name := "fnExactParse", fn := fun _ => fun
  | [d1, d2, d3, d4] => { results := [.lit (.bool true)], args := [d1, d2, d3, d4] }
  | _ => none }
def fnExactParseRow : OpenClaim := { program := "ytdkcpjlcpfkehaa", sum := "6188f3e6d45ae78c215651cbbf631d81413ed33d48e1fc722cfd756e0d54108a", func := "loop.example/pub-toolchainversions/laws.FnExactParse", spec := "fnExactParse", recurses := true, apart := false }
def FnExactParseSaid : Prop := fnExactParseRow.holds Try.pinned (OpenSpec.ofChange fnExactParseSpec)

/-- ITS FALSE NEIGHBOUR: 'it returns false'. Refute it at one input. -/
def fnExactParseWrong : ChangeSpec := { name := "fnExactParse", fn := fun _ => fun
  | [d1, d2, d3, d4] => { results := [.lit (.bool false)], args := [d1, d2, d3, d4] }
  | _ => none }
def FnExactParseWrongFalsely : Prop := fnExactParseRow.holds Try.pinned (OpenSpec.ofChange fnExactParseWrong)

/-- 'laws.FnExactIsLang': WHATEVER THE INPUT: true; the input reads as it did. -/
def fnExactIsLangSpec : ChangeSpec := { name := "fnExactIsLang", fn := fun _ => fun
  | [d1, d2, d3, d4] => { results := [.lit (.bool true)], args := [d1, d2, d3, d4] }
  | _ => none }
def fnExactIsLangRow : OpenClaim := { program := "ytdkcpjlcpfkehaa", sum := "6188f3e6d45ae78c215651cbbf631d81413ed33d48e1fc722cfd756e0d54108a", func := "loop.example/pub-toolchainversions/laws.FnExactIsLang", spec := "fnExactIsLang", recurses := true, apart := false }
def FnExactIsLangSaid : Prop := fnExactIsLangRow.holds Try.pinned (OpenSpec.ofChange fnExactIsLangSpec)

/-- ITS FALSE NEIGHBOUR: 'it returns false'. Refute it at one input. -/
def fnExactIsLangWrong : ChangeSpec := { name := "fnExactIsLang", fn := fun _ => fun
  | [d1, d2, d3, d4] => { results := [.lit (.bool false)], args := [d1, d2, d3, d4] }
  | _ => none }
def FnExactIsLangWrongFalsely : Prop := fnExactIsLangRow.holds Try.pinned (OpenSpec.ofChange fnExactIsLangWrong)

/-- 'laws.FnExactValid': WHATEVER THE INPUT: true; the input reads as it did. -/
def fnExactValidSpec : ChangeSpec := { name := "fnExactValid", fn := fun _ => fun
  | [d1, d2, d3, d4, d5] => { results := [.lit (.bool true)], args := [d1, d2, d3, d4, d5] }
  | _ => none }
def fnExactValidRow : OpenClaim := { program := "ytdkcpjlcpfkehaa", sum := "6188f3e6d45ae78c215651cbbf631d81413ed33d48e1fc722cfd756e0d54108a", func := "loop.example/pub-toolchainversions/laws.FnExactValid", spec := "fnExactValid", recurses := true, apart := false }
def FnExactValidSaid : Prop := fnExactValidRow.holds Try.pinned (OpenSpec.ofChange fnExactValidSpec)

/-- ITS FALSE NEIGHBOUR: 'it returns false'. Refute it at one input. -/
def fnExactValidWrong : ChangeSpec := { name := "fnExactValid", fn := fun _ => fun
  | [d1, d2, d3, d4, d5] => { results := [.lit (.bool false)], args := [d1, d2, d3, d4, d5] }
  | _ => none }
def FnExactValidWrongFalsely : Prop := fnExactValidRow.holds Try.pinned (OpenSpec.ofChange fnExactValidWrong)

/- THE SECOND FORM. 'bulk': how many values and letters a reading holds, each counted each time it is reached (what is shared counts as often as it is met; a slice's spare places count too). A statement '..UptoSaid' is the law's where the arguments, and the package variables that the reading takes, are together of bulk at most 1048576: NARROWER than '..Said'. Prove '..Said' where nothing that the law and all that it calls make is longer than what came in: it says more and counts as full. Else prove '..UptoSaid'. A law counts once. -/
mutual
def uptoBulk {H : Type} : DataW H → Nat
  | .lit (.string bytes) => bytes.length + 1
  | .lit _ => 1
  | .nil => 1
  | .ptr d => uptoBulk d + 1
  | .slice elems spare => uptoBulkAll elems + uptoBulkAll spare + 1
  | .agg parts => uptoBulkAll parts + 1
  | .iface _ d => uptoBulk d + 1
  | .map entries => uptoBulkEntries entries + 1
  | .held _ => 1
def uptoBulkAll {H : Type} : List (DataW H) → Nat
  | [] => 0
  | d :: r => uptoBulk d + uptoBulkAll r
def uptoBulkEntries {H : Type} : List (Lit × DataW H) → Nat
  | [] => 0
  | x :: r => uptoBulkEntry x + uptoBulkEntries r
def uptoBulkEntry {H : Type} : Lit × DataW H → Nat
  | (.string bytes, d) => bytes.length + uptoBulk d + 1
  | (_, d) => uptoBulk d + 1
 end
def uptoSmall : (H : Type) → List (DataW H) → Bool := fun _ ds => decide (uptoBulkAll ds ≤ 1048576)
def OpenSpec.upto (s : _root_.Go.ChangeSpec) : _root_.Go.OpenSpec := { _root_.Go.OpenSpec.ofChange s with cond := some uptoSmall }

/-- 'laws.FnExactCmpInt', WHERE WHAT IT READS IS OF BULK AT MOST 1048576: true; the input reads as it did. -/
def fnExactCmpIntUptoRow : OpenClaim := { program := "ytdkcpjlcpfkehaa", sum := "6188f3e6d45ae78c215651cbbf631d81413ed33d48e1fc722cfd756e0d54108a", func := "loop.example/pub-toolchainversions/laws.FnExactCmpInt", spec := "fnExactCmpInt", apart := false, narrowed := true }
def FnExactCmpIntUptoSaid : Prop := fnExactCmpIntUptoRow.holds Try.pinned (OpenSpec.upto fnExactCmpIntSpec)

/-- 'laws.FnExactDecInt', WHERE WHAT IT READS IS OF BULK AT MOST 1048576: true; the input reads as it did. -/
def fnExactDecIntUptoRow : OpenClaim := { program := "ytdkcpjlcpfkehaa", sum := "6188f3e6d45ae78c215651cbbf631d81413ed33d48e1fc722cfd756e0d54108a", func := "loop.example/pub-toolchainversions/laws.FnExactDecInt", spec := "fnExactDecInt", apart := false, narrowed := true }
def FnExactDecIntUptoSaid : Prop := fnExactDecIntUptoRow.holds Try.pinned (OpenSpec.upto fnExactDecIntSpec)

/-- 'laws.FnDecLess', WHERE WHAT IT READS IS OF BULK AT MOST 1048576: true; the input reads as it did. -/
def fnDecLessUptoRow : OpenClaim := { program := "ytdkcpjlcpfkehaa", sum := "6188f3e6d45ae78c215651cbbf631d81413ed33d48e1fc722cfd756e0d54108a", func := "loop.example/pub-toolchainversions/laws.FnDecLess", spec := "fnDecLess", apart := false, narrowed := true }
def FnDecLessUptoSaid : Prop := fnDecLessUptoRow.holds Try.pinned (OpenSpec.upto fnDecLessSpec)

/-- 'laws.FnExactParse', WHERE WHAT IT READS IS OF BULK AT MOST 1048576: true; the input reads as it did. -/
def fnExactParseUptoRow : OpenClaim := { program := "ytdkcpjlcpfkehaa", sum := "6188f3e6d45ae78c215651cbbf631d81413ed33d48e1fc722cfd756e0d54108a", func := "loop.example/pub-toolchainversions/laws.FnExactParse", spec := "fnExactParse", recurses := true, apart := false, narrowed := true }
def FnExactParseUptoSaid : Prop := fnExactParseUptoRow.holds Try.pinned (OpenSpec.upto fnExactParseSpec)

/-- 'laws.FnExactIsLang', WHERE WHAT IT READS IS OF BULK AT MOST 1048576: true; the input reads as it did. -/
def fnExactIsLangUptoRow : OpenClaim := { program := "ytdkcpjlcpfkehaa", sum := "6188f3e6d45ae78c215651cbbf631d81413ed33d48e1fc722cfd756e0d54108a", func := "loop.example/pub-toolchainversions/laws.FnExactIsLang", spec := "fnExactIsLang", recurses := true, apart := false, narrowed := true }
def FnExactIsLangUptoSaid : Prop := fnExactIsLangUptoRow.holds Try.pinned (OpenSpec.upto fnExactIsLangSpec)

/-- 'laws.FnExactValid', WHERE WHAT IT READS IS OF BULK AT MOST 1048576: true; the input reads as it did. -/
def fnExactValidUptoRow : OpenClaim := { program := "ytdkcpjlcpfkehaa", sum := "6188f3e6d45ae78c215651cbbf631d81413ed33d48e1fc722cfd756e0d54108a", func := "loop.example/pub-toolchainversions/laws.FnExactValid", spec := "fnExactValid", recurses := true, apart := false, narrowed := true }
def FnExactValidUptoSaid : Prop := fnExactValidUptoRow.holds Try.pinned (OpenSpec.upto fnExactValidSpec)

end Rows
end Go.Proofs.Ytdkcpjlcpfkehaa
