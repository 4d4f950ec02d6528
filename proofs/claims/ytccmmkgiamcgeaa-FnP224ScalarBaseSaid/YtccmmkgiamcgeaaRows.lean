/-
  No cell of these rows narrows 'for every input' (looked for: loops, veiled, ifaces, maps, wideKeys, modest, calm, conditions, laid).
  DERIVED. THE GIVEN ROWS OF THIS SEAT. 17 by the template 'for every input the law returns true; each argument reads behind the call as it read before'; 0 by the template 'total and deterministic' (their statements: YtccmmkgiamcgeaaTotals.lean).
  GIVEN WITH THE SEED: the statements are not yours to turn. If you find one false, say at which input.
  Laid BY PROGRAM, IN A SANDBOX (cutbox-rows.mjs): the forced cells as the released guide's own fill.sh prints them over the translation 4f6b3fe8eee7b159… (all of the seat's roots in one cut). By AI agents, Wed Nov 11 2026. No macro, syntax, notation, axiom, sorry.
-/
import Derived.Test.YtccmmkgiamcgeaaChecked
import GoSem.Claim
import GoSem.ClaimJoined
import GoSem.ClaimMapViews
import Derived.JoinedTies
import Derived.KernelRfl
namespace Go.Proofs.Ytccmmkgiamcgeaa
/- THE CELL 'sum', in the pinned program and in every row, IS THE sha256 OF THE DUMP (.gsa) THAT YtccmmkgiamcgeaaProg.lean LOADS. Nothing in Lean hashes anything: it is a label: what it is worth is what the hold of that sum in a sandbox is worth. -/
noncomputable def Try.pinned : Pinned := { name := "ytccmmkgiamcgeaa", sum := "4f6b3fe8eee7b1590adeed26f9a37d387a8d814a5c7112eb18f23d81a507ea95", checked := Try.checked }
namespace Rows
def none {H : Type} : Left H := { results := [], args := [] }

/-- 'laws.FnP224ScalarBase': WHATEVER THE INPUT: true; the input reads as it did. -/
def fnP224ScalarBaseSpec : ChangeSpec := { name := "fnP224ScalarBase", fn := fun _ => fun
  | [d] => { results := [.lit (.bool true)], args := [d] }
  | _ => none }
def fnP224ScalarBaseRow : OpenClaim := { program := "ytccmmkgiamcgeaa", sum := "4f6b3fe8eee7b1590adeed26f9a37d387a8d814a5c7112eb18f23d81a507ea95", func := "loop.example/pub-g03240/laws.FnP224ScalarBase", spec := "fnP224ScalarBase", inPlace := ["math/bits.Sub64", "math/bits.Add64"], apart := false }
def FnP224ScalarBaseSaid : Prop := fnP224ScalarBaseRow.holds Try.pinned (OpenSpec.ofChange fnP224ScalarBaseSpec)

/-- ITS FALSE NEIGHBOUR: 'it returns false'. Refute it at one input. -/
def fnP224ScalarBaseWrong : ChangeSpec := { name := "fnP224ScalarBase", fn := fun _ => fun
  | [d] => { results := [.lit (.bool false)], args := [d] }
  | _ => none }
def FnP224ScalarBaseWrongFalsely : Prop := fnP224ScalarBaseRow.holds Try.pinned (OpenSpec.ofChange fnP224ScalarBaseWrong)

/-- 'laws.FnP224ParseShort': WHATEVER THE INPUT: true; the input reads as it did. -/
def fnP224ParseShortSpec : ChangeSpec := { name := "fnP224ParseShort", fn := fun _ => fun
  | [d] => { results := [.lit (.bool true)], args := [d] }
  | _ => none }
def fnP224ParseShortRow : OpenClaim := { program := "ytccmmkgiamcgeaa", sum := "4f6b3fe8eee7b1590adeed26f9a37d387a8d814a5c7112eb18f23d81a507ea95", func := "loop.example/pub-g03240/laws.FnP224ParseShort", spec := "fnP224ParseShort", inPlace := ["math/bits.Sub64", "math/bits.Add64"], apart := false }
def FnP224ParseShortSaid : Prop := fnP224ParseShortRow.holds Try.pinned (OpenSpec.ofChange fnP224ParseShortSpec)

/-- ITS FALSE NEIGHBOUR: 'it returns false'. Refute it at one input. -/
def fnP224ParseShortWrong : ChangeSpec := { name := "fnP224ParseShort", fn := fun _ => fun
  | [d] => { results := [.lit (.bool false)], args := [d] }
  | _ => none }
def FnP224ParseShortWrongFalsely : Prop := fnP224ParseShortRow.holds Try.pinned (OpenSpec.ofChange fnP224ParseShortWrong)

/-- 'laws.FnP224Double': WHATEVER THE INPUT: true; the input reads as it did. -/
def fnP224DoubleSpec : ChangeSpec := { name := "fnP224Double", fn := fun _ => fun
  | [d] => { results := [.lit (.bool true)], args := [d] }
  | _ => none }
def fnP224DoubleRow : OpenClaim := { program := "ytccmmkgiamcgeaa", sum := "4f6b3fe8eee7b1590adeed26f9a37d387a8d814a5c7112eb18f23d81a507ea95", func := "loop.example/pub-g03240/laws.FnP224Double", spec := "fnP224Double", inPlace := ["math/bits.Sub64", "math/bits.Add64"], apart := false }
def FnP224DoubleSaid : Prop := fnP224DoubleRow.holds Try.pinned (OpenSpec.ofChange fnP224DoubleSpec)

/-- ITS FALSE NEIGHBOUR: 'it returns false'. Refute it at one input. -/
def fnP224DoubleWrong : ChangeSpec := { name := "fnP224Double", fn := fun _ => fun
  | [d] => { results := [.lit (.bool false)], args := [d] }
  | _ => none }
def FnP224DoubleWrongFalsely : Prop := fnP224DoubleRow.holds Try.pinned (OpenSpec.ofChange fnP224DoubleWrong)

/-- 'laws.FnP224Set': WHATEVER THE INPUT: true; the input reads as it did. -/
def fnP224SetSpec : ChangeSpec := { name := "fnP224Set", fn := fun _ => fun
  | [d1, d2] => { results := [.lit (.bool true)], args := [d1, d2] }
  | _ => none }
def fnP224SetRow : OpenClaim := { program := "ytccmmkgiamcgeaa", sum := "4f6b3fe8eee7b1590adeed26f9a37d387a8d814a5c7112eb18f23d81a507ea95", func := "loop.example/pub-g03240/laws.FnP224Set", spec := "fnP224Set", inPlace := ["math/bits.Sub64", "math/bits.Add64"], apart := false }
def FnP224SetSaid : Prop := fnP224SetRow.holds Try.pinned (OpenSpec.ofChange fnP224SetSpec)

/-- ITS FALSE NEIGHBOUR: 'it returns false'. Refute it at one input. -/
def fnP224SetWrong : ChangeSpec := { name := "fnP224Set", fn := fun _ => fun
  | [d1, d2] => { results := [.lit (.bool false)], args := [d1, d2] }
  | _ => none }
def FnP224SetWrongFalsely : Prop := fnP224SetRow.holds Try.pinned (OpenSpec.ofChange fnP224SetWrong)

/-- 'laws.FnP224Add': WHATEVER THE INPUT: true; the input reads as it did. -/
def fnP224AddSpec : ChangeSpec := { name := "fnP224Add", fn := fun _ => fun
  | [d1, d2] => { results := [.lit (.bool true)], args := [d1, d2] }
  | _ => none }
def fnP224AddRow : OpenClaim := { program := "ytccmmkgiamcgeaa", sum := "4f6b3fe8eee7b1590adeed26f9a37d387a8d814a5c7112eb18f23d81a507ea95", func := "loop.example/pub-g03240/laws.FnP224Add", spec := "fnP224Add", inPlace := ["math/bits.Sub64", "math/bits.Add64"], apart := false }
def FnP224AddSaid : Prop := fnP224AddRow.holds Try.pinned (OpenSpec.ofChange fnP224AddSpec)

/-- ITS FALSE NEIGHBOUR: 'it returns false'. Refute it at one input. -/
def fnP224AddWrong : ChangeSpec := { name := "fnP224Add", fn := fun _ => fun
  | [d1, d2] => { results := [.lit (.bool false)], args := [d1, d2] }
  | _ => none }
def FnP224AddWrongFalsely : Prop := fnP224AddRow.holds Try.pinned (OpenSpec.ofChange fnP224AddWrong)

/-- 'laws.FnP224Opposite': WHATEVER THE INPUT: true; the input reads as it did. -/
def fnP224OppositeSpec : ChangeSpec := { name := "fnP224Opposite", fn := fun _ => fun
  | [d1, d2] => { results := [.lit (.bool true)], args := [d1, d2] }
  | _ => none }
def fnP224OppositeRow : OpenClaim := { program := "ytccmmkgiamcgeaa", sum := "4f6b3fe8eee7b1590adeed26f9a37d387a8d814a5c7112eb18f23d81a507ea95", func := "loop.example/pub-g03240/laws.FnP224Opposite", spec := "fnP224Opposite", inPlace := ["math/bits.Sub64", "math/bits.Add64"], apart := false }
def FnP224OppositeSaid : Prop := fnP224OppositeRow.holds Try.pinned (OpenSpec.ofChange fnP224OppositeSpec)

/-- ITS FALSE NEIGHBOUR: 'it returns false'. Refute it at one input. -/
def fnP224OppositeWrong : ChangeSpec := { name := "fnP224Opposite", fn := fun _ => fun
  | [d1, d2] => { results := [.lit (.bool false)], args := [d1, d2] }
  | _ => none }
def FnP224OppositeWrongFalsely : Prop := fnP224OppositeRow.holds Try.pinned (OpenSpec.ofChange fnP224OppositeWrong)

/-- 'laws.FnP224AddInto': WHATEVER THE INPUT: true; the input reads as it did. -/
def fnP224AddIntoSpec : ChangeSpec := { name := "fnP224AddInto", fn := fun _ => fun
  | [d1, d2, d3] => { results := [.lit (.bool true)], args := [d1, d2, d3] }
  | _ => none }
def fnP224AddIntoRow : OpenClaim := { program := "ytccmmkgiamcgeaa", sum := "4f6b3fe8eee7b1590adeed26f9a37d387a8d814a5c7112eb18f23d81a507ea95", func := "loop.example/pub-g03240/laws.FnP224AddInto", spec := "fnP224AddInto", inPlace := ["math/bits.Sub64", "math/bits.Add64"], apart := false }
def FnP224AddIntoSaid : Prop := fnP224AddIntoRow.holds Try.pinned (OpenSpec.ofChange fnP224AddIntoSpec)

/-- ITS FALSE NEIGHBOUR: 'it returns false'. Refute it at one input. -/
def fnP224AddIntoWrong : ChangeSpec := { name := "fnP224AddInto", fn := fun _ => fun
  | [d1, d2, d3] => { results := [.lit (.bool false)], args := [d1, d2, d3] }
  | _ => none }
def FnP224AddIntoWrongFalsely : Prop := fnP224AddIntoRow.holds Try.pinned (OpenSpec.ofChange fnP224AddIntoWrong)

/-- 'laws.FnP224DoubleIsSum': WHATEVER THE INPUT: true; the input reads as it did. -/
def fnP224DoubleIsSumSpec : ChangeSpec := { name := "fnP224DoubleIsSum", fn := fun _ => fun
  | [d] => { results := [.lit (.bool true)], args := [d] }
  | _ => none }
def fnP224DoubleIsSumRow : OpenClaim := { program := "ytccmmkgiamcgeaa", sum := "4f6b3fe8eee7b1590adeed26f9a37d387a8d814a5c7112eb18f23d81a507ea95", func := "loop.example/pub-g03240/laws.FnP224DoubleIsSum", spec := "fnP224DoubleIsSum", inPlace := ["math/bits.Sub64", "math/bits.Add64"], apart := false }
def FnP224DoubleIsSumSaid : Prop := fnP224DoubleIsSumRow.holds Try.pinned (OpenSpec.ofChange fnP224DoubleIsSumSpec)

/-- ITS FALSE NEIGHBOUR: 'it returns false'. Refute it at one input. -/
def fnP224DoubleIsSumWrong : ChangeSpec := { name := "fnP224DoubleIsSum", fn := fun _ => fun
  | [d] => { results := [.lit (.bool false)], args := [d] }
  | _ => none }
def FnP224DoubleIsSumWrongFalsely : Prop := fnP224DoubleIsSumRow.holds Try.pinned (OpenSpec.ofChange fnP224DoubleIsSumWrong)

/-- 'laws.FnP224Order': WHATEVER THE INPUT: true; the input reads as it did. -/
def fnP224OrderSpec : ChangeSpec := { name := "fnP224Order", fn := fun _ => fun
  | [d] => { results := [.lit (.bool true)], args := [d] }
  | _ => none }
def fnP224OrderRow : OpenClaim := { program := "ytccmmkgiamcgeaa", sum := "4f6b3fe8eee7b1590adeed26f9a37d387a8d814a5c7112eb18f23d81a507ea95", func := "loop.example/pub-g03240/laws.FnP224Order", spec := "fnP224Order", inPlace := ["math/bits.Sub64", "math/bits.Add64"], apart := false }
def FnP224OrderSaid : Prop := fnP224OrderRow.holds Try.pinned (OpenSpec.ofChange fnP224OrderSpec)

/-- ITS FALSE NEIGHBOUR: 'it returns false'. Refute it at one input. -/
def fnP224OrderWrong : ChangeSpec := { name := "fnP224Order", fn := fun _ => fun
  | [d] => { results := [.lit (.bool false)], args := [d] }
  | _ => none }
def FnP224OrderWrongFalsely : Prop := fnP224OrderRow.holds Try.pinned (OpenSpec.ofChange fnP224OrderWrong)

/-- 'laws.FnP224ScalarTurns': WHATEVER THE INPUT: true; the input reads as it did. -/
def fnP224ScalarTurnsSpec : ChangeSpec := { name := "fnP224ScalarTurns", fn := fun _ => fun
  | [d1, d2, d3] => { results := [.lit (.bool true)], args := [d1, d2, d3] }
  | _ => none }
def fnP224ScalarTurnsRow : OpenClaim := { program := "ytccmmkgiamcgeaa", sum := "4f6b3fe8eee7b1590adeed26f9a37d387a8d814a5c7112eb18f23d81a507ea95", func := "loop.example/pub-g03240/laws.FnP224ScalarTurns", spec := "fnP224ScalarTurns", inPlace := ["math/bits.Sub64", "math/bits.Add64"], apart := false }
def FnP224ScalarTurnsSaid : Prop := fnP224ScalarTurnsRow.holds Try.pinned (OpenSpec.ofChange fnP224ScalarTurnsSpec)

/-- ITS FALSE NEIGHBOUR: 'it returns false'. Refute it at one input. -/
def fnP224ScalarTurnsWrong : ChangeSpec := { name := "fnP224ScalarTurns", fn := fun _ => fun
  | [d1, d2, d3] => { results := [.lit (.bool false)], args := [d1, d2, d3] }
  | _ => none }
def FnP224ScalarTurnsWrongFalsely : Prop := fnP224ScalarTurnsRow.holds Try.pinned (OpenSpec.ofChange fnP224ScalarTurnsWrong)

/-- 'laws.FnP224Few': WHATEVER THE INPUT: true; the input reads as it did. -/
def fnP224FewSpec : ChangeSpec := { name := "fnP224Few", fn := fun _ => fun
  | [d] => { results := [.lit (.bool true)], args := [d] }
  | _ => none }
def fnP224FewRow : OpenClaim := { program := "ytccmmkgiamcgeaa", sum := "4f6b3fe8eee7b1590adeed26f9a37d387a8d814a5c7112eb18f23d81a507ea95", func := "loop.example/pub-g03240/laws.FnP224Few", spec := "fnP224Few", inPlace := ["math/bits.Sub64", "math/bits.Add64"], apart := false }
def FnP224FewSaid : Prop := fnP224FewRow.holds Try.pinned (OpenSpec.ofChange fnP224FewSpec)

/-- ITS FALSE NEIGHBOUR: 'it returns false'. Refute it at one input. -/
def fnP224FewWrong : ChangeSpec := { name := "fnP224Few", fn := fun _ => fun
  | [d] => { results := [.lit (.bool false)], args := [d] }
  | _ => none }
def FnP224FewWrongFalsely : Prop := fnP224FewRow.holds Try.pinned (OpenSpec.ofChange fnP224FewWrong)

/-- 'laws.FnP224ScalarMult': WHATEVER THE INPUT: true; the input reads as it did. -/
def fnP224ScalarMultSpec : ChangeSpec := { name := "fnP224ScalarMult", fn := fun _ => fun
  | [d1, d2] => { results := [.lit (.bool true)], args := [d1, d2] }
  | _ => none }
def fnP224ScalarMultRow : OpenClaim := { program := "ytccmmkgiamcgeaa", sum := "4f6b3fe8eee7b1590adeed26f9a37d387a8d814a5c7112eb18f23d81a507ea95", func := "loop.example/pub-g03240/laws.FnP224ScalarMult", spec := "fnP224ScalarMult", inPlace := ["math/bits.Sub64", "math/bits.Add64"], apart := false }
def FnP224ScalarMultSaid : Prop := fnP224ScalarMultRow.holds Try.pinned (OpenSpec.ofChange fnP224ScalarMultSpec)

/-- ITS FALSE NEIGHBOUR: 'it returns false'. Refute it at one input. -/
def fnP224ScalarMultWrong : ChangeSpec := { name := "fnP224ScalarMult", fn := fun _ => fun
  | [d1, d2] => { results := [.lit (.bool false)], args := [d1, d2] }
  | _ => none }
def FnP224ScalarMultWrongFalsely : Prop := fnP224ScalarMultRow.holds Try.pinned (OpenSpec.ofChange fnP224ScalarMultWrong)

/-- 'laws.FnP224ScalarNext': WHATEVER THE INPUT: true; the input reads as it did. -/
def fnP224ScalarNextSpec : ChangeSpec := { name := "fnP224ScalarNext", fn := fun _ => fun
  | [d1, d2] => { results := [.lit (.bool true)], args := [d1, d2] }
  | _ => none }
def fnP224ScalarNextRow : OpenClaim := { program := "ytccmmkgiamcgeaa", sum := "4f6b3fe8eee7b1590adeed26f9a37d387a8d814a5c7112eb18f23d81a507ea95", func := "loop.example/pub-g03240/laws.FnP224ScalarNext", spec := "fnP224ScalarNext", inPlace := ["math/bits.Sub64", "math/bits.Add64"], apart := false }
def FnP224ScalarNextSaid : Prop := fnP224ScalarNextRow.holds Try.pinned (OpenSpec.ofChange fnP224ScalarNextSpec)

/-- ITS FALSE NEIGHBOUR: 'it returns false'. Refute it at one input. -/
def fnP224ScalarNextWrong : ChangeSpec := { name := "fnP224ScalarNext", fn := fun _ => fun
  | [d1, d2] => { results := [.lit (.bool false)], args := [d1, d2] }
  | _ => none }
def FnP224ScalarNextWrongFalsely : Prop := fnP224ScalarNextRow.holds Try.pinned (OpenSpec.ofChange fnP224ScalarNextWrong)

/-- 'laws.FnP224ScalarSpreads': WHATEVER THE INPUT: true; the input reads as it did. -/
def fnP224ScalarSpreadsSpec : ChangeSpec := { name := "fnP224ScalarSpreads", fn := fun _ => fun
  | [d1, d2, d3] => { results := [.lit (.bool true)], args := [d1, d2, d3] }
  | _ => none }
def fnP224ScalarSpreadsRow : OpenClaim := { program := "ytccmmkgiamcgeaa", sum := "4f6b3fe8eee7b1590adeed26f9a37d387a8d814a5c7112eb18f23d81a507ea95", func := "loop.example/pub-g03240/laws.FnP224ScalarSpreads", spec := "fnP224ScalarSpreads", inPlace := ["math/bits.Sub64", "math/bits.Add64"], apart := false }
def FnP224ScalarSpreadsSaid : Prop := fnP224ScalarSpreadsRow.holds Try.pinned (OpenSpec.ofChange fnP224ScalarSpreadsSpec)

/-- ITS FALSE NEIGHBOUR: 'it returns false'. Refute it at one input. -/
def fnP224ScalarSpreadsWrong : ChangeSpec := { name := "fnP224ScalarSpreads", fn := fun _ => fun
  | [d1, d2, d3] => { results := [.lit (.bool false)], args := [d1, d2, d3] }
  | _ => none }
def FnP224ScalarSpreadsWrongFalsely : Prop := fnP224ScalarSpreadsRow.holds Try.pinned (OpenSpec.ofChange fnP224ScalarSpreadsWrong)

/-- 'laws.FnP224ScalarSum': WHATEVER THE INPUT: true; the input reads as it did. -/
def fnP224ScalarSumSpec : ChangeSpec := { name := "fnP224ScalarSum", fn := fun _ => fun
  | [d1, d2, d3] => { results := [.lit (.bool true)], args := [d1, d2, d3] }
  | _ => none }
def fnP224ScalarSumRow : OpenClaim := { program := "ytccmmkgiamcgeaa", sum := "4f6b3fe8eee7b1590adeed26f9a37d387a8d814a5c7112eb18f23d81a507ea95", func := "loop.example/pub-g03240/laws.FnP224ScalarSum", spec := "fnP224ScalarSum", inPlace := ["math/bits.Sub64", "math/bits.Add64"], apart := false }
def FnP224ScalarSumSaid : Prop := fnP224ScalarSumRow.holds Try.pinned (OpenSpec.ofChange fnP224ScalarSumSpec)

/-- ITS FALSE NEIGHBOUR: 'it returns false'. Refute it at one input. -/
def fnP224ScalarSumWrong : ChangeSpec := { name := "fnP224ScalarSum", fn := fun _ => fun
  | [d1, d2, d3] => { results := [.lit (.bool false)], args := [d1, d2, d3] }
  | _ => none }
def FnP224ScalarSumWrongFalsely : Prop := fnP224ScalarSumRow.holds Try.pinned (OpenSpec.ofChange fnP224ScalarSumWrong)

/-- 'laws.FnP224Generator': WHATEVER THE INPUT: true; the input reads as it did. -/
def fnP224GeneratorSpec : ChangeSpec := { name := "fnP224Generator", fn := fun _ => fun
  | [d] => { results := [.lit (.bool true)], args := [d] }
  | _ => none }
def fnP224GeneratorRow : OpenClaim := { program := "ytccmmkgiamcgeaa", sum := "4f6b3fe8eee7b1590adeed26f9a37d387a8d814a5c7112eb18f23d81a507ea95", func := "loop.example/pub-g03240/laws.FnP224Generator", spec := "fnP224Generator", inPlace := ["math/bits.Sub64", "math/bits.Add64"], apart := false }
def FnP224GeneratorSaid : Prop := fnP224GeneratorRow.holds Try.pinned (OpenSpec.ofChange fnP224GeneratorSpec)

/-- ITS FALSE NEIGHBOUR: 'it returns false'. Refute it at one input. -/
def fnP224GeneratorWrong : ChangeSpec := { name := "fnP224Generator", fn := fun _ => fun
  | [d] => { results := [.lit (.bool false)], args := [d] }
  | _ => none }
def FnP224GeneratorWrongFalsely : Prop := fnP224GeneratorRow.holds Try.pinned (OpenSpec.ofChange fnP224GeneratorWrong)

/-- 'laws.FnP224BaseIsMult': WHATEVER THE INPUT: true; the input reads as it did. -/
def fnP224BaseIsMultSpec : ChangeSpec := { name := "fnP224BaseIsMult", fn := fun _ => fun
  | [d] => { results := [.lit (.bool true)], args := [d] }
  | _ => none }
def fnP224BaseIsMultRow : OpenClaim := { program := "ytccmmkgiamcgeaa", sum := "4f6b3fe8eee7b1590adeed26f9a37d387a8d814a5c7112eb18f23d81a507ea95", func := "loop.example/pub-g03240/laws.FnP224BaseIsMult", spec := "fnP224BaseIsMult", inPlace := ["math/bits.Sub64", "math/bits.Add64"], apart := false }
def FnP224BaseIsMultSaid : Prop := fnP224BaseIsMultRow.holds Try.pinned (OpenSpec.ofChange fnP224BaseIsMultSpec)

/-- ITS FALSE NEIGHBOUR: 'it returns false'. Refute it at one input. -/
def fnP224BaseIsMultWrong : ChangeSpec := { name := "fnP224BaseIsMult", fn := fun _ => fun
  | [d] => { results := [.lit (.bool false)], args := [d] }
  | _ => none }
def FnP224BaseIsMultWrongFalsely : Prop := fnP224BaseIsMultRow.holds Try.pinned (OpenSpec.ofChange fnP224BaseIsMultWrong)

/- THE SECOND FORM. 'bulk': how many values and letters a reading holds, each counted each time it is reached (what is shared counts as often as it is met; a slice's spare places count too). A statement '..UptoSaid' is the law's where the arguments, and the package variables that the reading takes, are together of bulk at most 1048576: NARROWER than '..Said'. Prove '..Said' where nothing that the law and all that it calls make is longer than what came in: it says more and counts as full. Else prove '..UptoSaid'. A law counts once. -/
mutual
def uptoBulk {H : Type} : DataW H → Nat
  | .lit (.string bytes) => bytes.length + 1
  | .lit _ => 1
  | .nil => 1
  | .ptr d => uptoBulk d + 1
  | .slice elems spare => uptoBulkAll elems + uptoBulkAll spare + 1
  | .agg parts => uptoBulkAll parts + 1
  | .iface _ d => uptoBulk d + 1
  | .map entries => uptoBulkEntries entries + 1
  | .held _ => 1
def uptoBulkAll {H : Type} : List (DataW H) → Nat
  | [] => 0
  | d :: r => uptoBulk d + uptoBulkAll r
def uptoBulkEntries {H : Type} : List (Lit × DataW H) → Nat
  | [] => 0
  | x :: r => uptoBulkEntry x + uptoBulkEntries r
def uptoBulkEntry {H : Type} : Lit × DataW H → Nat
  | (.string bytes, d) => bytes.length + uptoBulk d + 1
  | (_, d) => uptoBulk d + 1
 end
def uptoSmall : (H : Type) → List (DataW H) → Bool := fun _ ds => decide (uptoBulkAll ds ≤ 1048576)
def OpenSpec.upto (s : _root_.Go.ChangeSpec) : _root_.Go.OpenSpec := { _root_.Go.OpenSpec.ofChange s with cond := some uptoSmall }

/-- 'laws.FnP224ScalarBase', WHERE WHAT IT READS IS OF BULK AT MOST 1048576: true; the input reads as it did. -/
def fnP224ScalarBaseUptoRow : OpenClaim := { program := "ytccmmkgiamcgeaa", sum := "4f6b3fe8eee7b1590adeed26f9a37d387a8d814a5c7112eb18f23d81a507ea95", func := "loop.example/pub-g03240/laws.FnP224ScalarBase", spec := "fnP224ScalarBase", inPlace := ["math/bits.Sub64", "math/bits.Add64"], apart := false, narrowed := true }
def FnP224ScalarBaseUptoSaid : Prop := fnP224ScalarBaseUptoRow.holds Try.pinned (OpenSpec.upto fnP224ScalarBaseSpec)

/-- 'laws.FnP224ParseShort', WHERE WHAT IT READS IS OF BULK AT MOST 1048576: true; the input reads as it did. -/
def fnP224ParseShortUptoRow : OpenClaim := { program := "ytccmmkgiamcgeaa", sum := "4f6b3fe8eee7b1590adeed26f9a37d387a8d814a5c7112eb18f23d81a507ea95", func := "loop.example/pub-g03240/laws.FnP224ParseShort", spec := "fnP224ParseShort", inPlace := ["math/bits.Sub64", "math/bits.Add64"], apart := false, narrowed := true }
def FnP224ParseShortUptoSaid : Prop := fnP224ParseShortUptoRow.holds Try.pinned (OpenSpec.upto fnP224ParseShortSpec)

/-- 'laws.FnP224Double', WHERE WHAT IT READS IS OF BULK AT MOST 1048576: true; the input reads as it did. -/
def fnP224DoubleUptoRow : OpenClaim := { program := "ytccmmkgiamcgeaa", sum := "4f6b3fe8eee7b1590adeed26f9a37d387a8d814a5c7112eb18f23d81a507ea95", func := "loop.example/pub-g03240/laws.FnP224Double", spec := "fnP224Double", inPlace := ["math/bits.Sub64", "math/bits.Add64"], apart := false, narrowed := true }
def FnP224DoubleUptoSaid : Prop := fnP224DoubleUptoRow.holds Try.pinned (OpenSpec.upto fnP224DoubleSpec)

/-- 'laws.FnP224Set', WHERE WHAT IT READS IS OF BULK AT MOST 1048576: true; the input reads as it did. -/
def fnP224SetUptoRow : OpenClaim := { program := "ytccmmkgiamcgeaa", sum := "4f6b3fe8eee7b1590adeed26f9a37d387a8d814a5c7112eb18f23d81a507ea95", func := "loop.example/pub-g03240/laws.FnP224Set", spec := "fnP224Set", inPlace := ["math/bits.Sub64", "math/bits.Add64"], apart := false, narrowed := true }
def FnP224SetUptoSaid : Prop := fnP224SetUptoRow.holds Try.pinned (OpenSpec.upto fnP224SetSpec)

/-- 'laws.FnP224Add', WHERE WHAT IT READS IS OF BULK AT MOST 1048576: true; the input reads as it did. -/
def fnP224AddUptoRow : OpenClaim := { program := "ytccmmkgiamcgeaa", sum := "4f6b3fe8eee7b1590adeed26f9a37d387a8d814a5c7112eb18f23d81a507ea95", func := "loop.example/pub-g03240/laws.FnP224Add", spec := "fnP224Add", inPlace := ["math/bits.Sub64", "math/bits.Add64"], apart := false, narrowed := true }
def FnP224AddUptoSaid : Prop := fnP224AddUptoRow.holds Try.pinned (OpenSpec.upto fnP224AddSpec)

/-- 'laws.FnP224Opposite', WHERE WHAT IT READS IS OF BULK AT MOST 1048576: true; the input reads as it did. -/
def fnP224OppositeUptoRow : OpenClaim := { program := "ytccmmkgiamcgeaa", sum := "4f6b3fe8eee7b1590adeed26f9a37d387a8d814a5c7112eb18f23d81a507ea95", func := "loop.example/pub-g03240/laws.FnP224Opposite", spec := "fnP224Opposite", inPlace := ["math/bits.Sub64", "math/bits.Add64"], apart := false, narrowed := true }
def FnP224OppositeUptoSaid : Prop := fnP224OppositeUptoRow.holds Try.pinned (OpenSpec.upto fnP224OppositeSpec)

/-- 'laws.FnP224AddInto', WHERE WHAT IT READS IS OF BULK AT MOST 1048576: true; the input reads as it did. -/
def fnP224AddIntoUptoRow : OpenClaim := { program := "ytccmmkgiamcgeaa", sum := "4f6b3fe8eee7b1590adeed26f9a37d387a8d814a5c7112eb18f23d81a507ea95", func := "loop.example/pub-g03240/laws.FnP224AddInto", spec := "fnP224AddInto", inPlace := ["math/bits.Sub64", "math/bits.Add64"], apart := false, narrowed := true }
def FnP224AddIntoUptoSaid : Prop := fnP224AddIntoUptoRow.holds Try.pinned (OpenSpec.upto fnP224AddIntoSpec)

/-- 'laws.FnP224DoubleIsSum', WHERE WHAT IT READS IS OF BULK AT MOST 1048576: true; the input reads as it did. -/
def fnP224DoubleIsSumUptoRow : OpenClaim := { program := "ytccmmkgiamcgeaa", sum := "4f6b3fe8eee7b1590adeed26f9a37d387a8d814a5c7112eb18f23d81a507ea95", func := "loop.example/pub-g03240/laws.FnP224DoubleIsSum", spec := "fnP224DoubleIsSum", inPlace := ["math/bits.Sub64", "math/bits.Add64"], apart := false, narrowed := true }
def FnP224DoubleIsSumUptoSaid : Prop := fnP224DoubleIsSumUptoRow.holds Try.pinned (OpenSpec.upto fnP224DoubleIsSumSpec)

/-- 'laws.FnP224Order', WHERE WHAT IT READS IS OF BULK AT MOST 1048576: true; the input reads as it did. -/
def fnP224OrderUptoRow : OpenClaim := { program := "ytccmmkgiamcgeaa", sum := "4f6b3fe8eee7b1590adeed26f9a37d387a8d814a5c7112eb18f23d81a507ea95", func := "loop.example/pub-g03240/laws.FnP224Order", spec := "fnP224Order", inPlace := ["math/bits.Sub64", "math/bits.Add64"], apart := false, narrowed := true }
def FnP224OrderUptoSaid : Prop := fnP224OrderUptoRow.holds Try.pinned (OpenSpec.upto fnP224OrderSpec)

/-- 'laws.FnP224ScalarTurns', WHERE WHAT IT READS IS OF BULK AT MOST 1048576: true; the input reads as it did. -/
def fnP224ScalarTurnsUptoRow : OpenClaim := { program := "ytccmmkgiamcgeaa", sum := "4f6b3fe8eee7b1590adeed26f9a37d387a8d814a5c7112eb18f23d81a507ea95", func := "loop.example/pub-g03240/laws.FnP224ScalarTurns", spec := "fnP224ScalarTurns", inPlace := ["math/bits.Sub64", "math/bits.Add64"], apart := false, narrowed := true }
def FnP224ScalarTurnsUptoSaid : Prop := fnP224ScalarTurnsUptoRow.holds Try.pinned (OpenSpec.upto fnP224ScalarTurnsSpec)

/-- 'laws.FnP224Few', WHERE WHAT IT READS IS OF BULK AT MOST 1048576: true; the input reads as it did. -/
def fnP224FewUptoRow : OpenClaim := { program := "ytccmmkgiamcgeaa", sum := "4f6b3fe8eee7b1590adeed26f9a37d387a8d814a5c7112eb18f23d81a507ea95", func := "loop.example/pub-g03240/laws.FnP224Few", spec := "fnP224Few", inPlace := ["math/bits.Sub64", "math/bits.Add64"], apart := false, narrowed := true }
def FnP224FewUptoSaid : Prop := fnP224FewUptoRow.holds Try.pinned (OpenSpec.upto fnP224FewSpec)

/-- 'laws.FnP224ScalarMult', WHERE WHAT IT READS IS OF BULK AT MOST 1048576: true; the input reads as it did. -/
def fnP224ScalarMultUptoRow : OpenClaim := { program := "ytccmmkgiamcgeaa", sum := "4f6b3fe8eee7b1590adeed26f9a37d387a8d814a5c7112eb18f23d81a507ea95", func := "loop.example/pub-g03240/laws.FnP224ScalarMult", spec := "fnP224ScalarMult", inPlace := ["math/bits.Sub64", "math/bits.Add64"], apart := false, narrowed := true }
def FnP224ScalarMultUptoSaid : Prop := fnP224ScalarMultUptoRow.holds Try.pinned (OpenSpec.upto fnP224ScalarMultSpec)

/-- 'laws.FnP224ScalarNext', WHERE WHAT IT READS IS OF BULK AT MOST 1048576: true; the input reads as it did. -/
def fnP224ScalarNextUptoRow : OpenClaim := { program := "ytccmmkgiamcgeaa", sum := "4f6b3fe8eee7b1590adeed26f9a37d387a8d814a5c7112eb18f23d81a507ea95", func := "loop.example/pub-g03240/laws.FnP224ScalarNext", spec := "fnP224ScalarNext", inPlace := ["math/bits.Sub64", "math/bits.Add64"], apart := false, narrowed := true }
def FnP224ScalarNextUptoSaid : Prop := fnP224ScalarNextUptoRow.holds Try.pinned (OpenSpec.upto fnP224ScalarNextSpec)

/-- 'laws.FnP224ScalarSpreads', WHERE WHAT IT READS IS OF BULK AT MOST 1048576: true; the input reads as it did. -/
def fnP224ScalarSpreadsUptoRow : OpenClaim := { program := "ytccmmkgiamcgeaa", sum := "4f6b3fe8eee7b1590adeed26f9a37d387a8d814a5c7112eb18f23d81a507ea95", func := "loop.example/pub-g03240/laws.FnP224ScalarSpreads", spec := "fnP224ScalarSpreads", inPlace := ["math/bits.Sub64", "math/bits.Add64"], apart := false, narrowed := true }
def FnP224ScalarSpreadsUptoSaid : Prop := fnP224ScalarSpreadsUptoRow.holds Try.pinned (OpenSpec.upto fnP224ScalarSpreadsSpec)

/-- 'laws.FnP224ScalarSum', WHERE WHAT IT READS IS OF BULK AT MOST 1048576: true; the input reads as it did. -/
def fnP224ScalarSumUptoRow : OpenClaim := { program := "ytccmmkgiamcgeaa", sum := "4f6b3fe8eee7b1590adeed26f9a37d387a8d814a5c7112eb18f23d81a507ea95", func := "loop.example/pub-g03240/laws.FnP224ScalarSum", spec := "fnP224ScalarSum", inPlace := ["math/bits.Sub64", "math/bits.Add64"], apart := false, narrowed := true }
def FnP224ScalarSumUptoSaid : Prop := fnP224ScalarSumUptoRow.holds Try.pinned (OpenSpec.upto fnP224ScalarSumSpec)

/-- 'laws.FnP224Generator', WHERE WHAT IT READS IS OF BULK AT MOST 1048576: true; the input reads as it did. -/
def fnP224GeneratorUptoRow : OpenClaim := { program := "ytccmmkgiamcgeaa", sum := "4f6b3fe8eee7b1590adeed26f9a37d387a8d814a5c7112eb18f23d81a507ea95", func := "loop.example/pub-g03240/laws.FnP224Generator", spec := "fnP224Generator", inPlace := ["math/bits.Sub64", "math/bits.Add64"], apart := false, narrowed := true }
def FnP224GeneratorUptoSaid : Prop := fnP224GeneratorUptoRow.holds Try.pinned (OpenSpec.upto fnP224GeneratorSpec)

/-- 'laws.FnP224BaseIsMult', WHERE WHAT IT READS IS OF BULK AT MOST 1048576: true; the input reads as it did. -/
def fnP224BaseIsMultUptoRow : OpenClaim := { program := "ytccmmkgiamcgeaa", sum := "4f6b3fe8eee7b1590adeed26f9a37d387a8d814a5c7112eb18f23d81a507ea95", func := "loop.example/pub-g03240/laws.FnP224BaseIsMult", spec := "fnP224BaseIsMult", inPlace := ["math/bits.Sub64", "math/bits.Add64"], apart := false, narrowed := true }
def FnP224BaseIsMultUptoSaid : Prop := fnP224BaseIsMultUptoRow.holds Try.pinned (OpenSpec.upto fnP224BaseIsMultSpec)

end Rows
end Go.Proofs.Ytccmmkgiamcgeaa
