/-
  No cell of these rows narrows 'for every input' (looked for: loops, veiled, ifaces, maps, wideKeys, modest, calm, conditions, laid).
  DERIVED. THE GIVEN ROWS OF THIS SEAT. 10 by the template 'for every input the law returns true; each argument reads behind the call as it read before'; 0 by the template 'total and deterministic' (their statements: YtcmokpacocgolaaTotals.lean).
  GIVEN WITH THE SEED: the statements are not yours to turn. If you find one false, say at which input.
  Laid BY PROGRAM, IN A SANDBOX (cutbox-rows.mjs): the forced cells as the released guide's own fill.sh prints them over the translation 318842ea7880eb9d… (all of the seat's roots in one cut). By AI agents, Wed Nov 11 2026. No macro, syntax, notation, axiom, sorry.
-/
import Derived.Test.YtcmokpacocgolaaChecked
import GoSem.Claim
import GoSem.ClaimJoined
import GoSem.ClaimMapViews
import Derived.JoinedTies
import Derived.KernelRfl
namespace Go.Proofs.Ytcmokpacocgolaa
/- THE CELL 'sum', in the pinned program and in every row, IS THE sha256 OF THE DUMP (.gsa) THAT YtcmokpacocgolaaProg.lean LOADS. Nothing in Lean hashes anything: it is a label: what it is worth is what the hold of that sum in a sandbox is worth. -/
noncomputable def Try.pinned : Pinned := { name := "ytcmokpacocgolaa", sum := "318842ea7880eb9da700dd01e5761917695376f5cf4c2f50e4a87b63ae13c085", checked := Try.checked }
namespace Rows
def none {H : Type} : Left H := { results := [], args := [] }

/-- 'laws.FnCleared': WHATEVER THE INPUT: true; the input reads as it did. -/
def fnClearedSpec : ChangeSpec := { name := "fnCleared", fn := fun _ => fun
  | [d] => { results := [.lit (.bool true)], args := [d] }
  | _ => none }
def fnClearedRow : OpenClaim := { program := "ytcmokpacocgolaa", sum := "318842ea7880eb9da700dd01e5761917695376f5cf4c2f50e4a87b63ae13c085", func := "loop.example/pub-g03338/laws.FnCleared", spec := "fnCleared", apart := false }
def FnClearedSaid : Prop := fnClearedRow.holds Try.pinned (OpenSpec.ofChange fnClearedSpec)

/-- ITS FALSE NEIGHBOUR: 'it returns false'. Refute it at one input. -/
def fnClearedWrong : ChangeSpec := { name := "fnCleared", fn := fun _ => fun
  | [d] => { results := [.lit (.bool false)], args := [d] }
  | _ => none }
def FnClearedWrongFalsely : Prop := fnClearedRow.holds Try.pinned (OpenSpec.ofChange fnClearedWrong)

/-- 'laws.FnExactStream': WHATEVER THE INPUT: true; the input reads as it did. -/
def fnExactStreamSpec : ChangeSpec := { name := "fnExactStream", fn := fun _ => fun
  | [d1, d2] => { results := [.lit (.bool true)], args := [d1, d2] }
  | _ => none }
def fnExactStreamRow : OpenClaim := { program := "ytcmokpacocgolaa", sum := "318842ea7880eb9da700dd01e5761917695376f5cf4c2f50e4a87b63ae13c085", func := "loop.example/pub-g03338/laws.FnExactStream", spec := "fnExactStream", apart := false }
def FnExactStreamSaid : Prop := fnExactStreamRow.holds Try.pinned (OpenSpec.ofChange fnExactStreamSpec)

/-- ITS FALSE NEIGHBOUR: 'it returns false'. Refute it at one input. -/
def fnExactStreamWrong : ChangeSpec := { name := "fnExactStream", fn := fun _ => fun
  | [d1, d2] => { results := [.lit (.bool false)], args := [d1, d2] }
  | _ => none }
def FnExactStreamWrongFalsely : Prop := fnExactStreamRow.holds Try.pinned (OpenSpec.ofChange fnExactStreamWrong)

/-- 'laws.FnKeyTwice': WHATEVER THE INPUT: true; the input reads as it did. -/
def fnKeyTwiceSpec : ChangeSpec := { name := "fnKeyTwice", fn := fun _ => fun
  | [d1, d2] => { results := [.lit (.bool true)], args := [d1, d2] }
  | _ => none }
def fnKeyTwiceRow : OpenClaim := { program := "ytcmokpacocgolaa", sum := "318842ea7880eb9da700dd01e5761917695376f5cf4c2f50e4a87b63ae13c085", func := "loop.example/pub-g03338/laws.FnKeyTwice", spec := "fnKeyTwice", apart := false }
def FnKeyTwiceSaid : Prop := fnKeyTwiceRow.holds Try.pinned (OpenSpec.ofChange fnKeyTwiceSpec)

/-- ITS FALSE NEIGHBOUR: 'it returns false'. Refute it at one input. -/
def fnKeyTwiceWrong : ChangeSpec := { name := "fnKeyTwice", fn := fun _ => fun
  | [d1, d2] => { results := [.lit (.bool false)], args := [d1, d2] }
  | _ => none }
def FnKeyTwiceWrongFalsely : Prop := fnKeyTwiceRow.holds Try.pinned (OpenSpec.ofChange fnKeyTwiceWrong)

/-- 'laws.FnStreamBegins': WHATEVER THE INPUT: true; the input reads as it did. -/
def fnStreamBeginsSpec : ChangeSpec := { name := "fnStreamBegins", fn := fun _ => fun
  | [d1, d2, d3] => { results := [.lit (.bool true)], args := [d1, d2, d3] }
  | _ => none }
def fnStreamBeginsRow : OpenClaim := { program := "ytcmokpacocgolaa", sum := "318842ea7880eb9da700dd01e5761917695376f5cf4c2f50e4a87b63ae13c085", func := "loop.example/pub-g03338/laws.FnStreamBegins", spec := "fnStreamBegins", apart := false }
def FnStreamBeginsSaid : Prop := fnStreamBeginsRow.holds Try.pinned (OpenSpec.ofChange fnStreamBeginsSpec)

/-- ITS FALSE NEIGHBOUR: 'it returns false'. Refute it at one input. -/
def fnStreamBeginsWrong : ChangeSpec := { name := "fnStreamBegins", fn := fun _ => fun
  | [d1, d2, d3] => { results := [.lit (.bool false)], args := [d1, d2, d3] }
  | _ => none }
def FnStreamBeginsWrongFalsely : Prop := fnStreamBeginsRow.holds Try.pinned (OpenSpec.ofChange fnStreamBeginsWrong)

/-- 'laws.FnStreamTwice': WHATEVER THE INPUT: true; the input reads as it did. -/
def fnStreamTwiceSpec : ChangeSpec := { name := "fnStreamTwice", fn := fun _ => fun
  | [d1, d2] => { results := [.lit (.bool true)], args := [d1, d2] }
  | _ => none }
def fnStreamTwiceRow : OpenClaim := { program := "ytcmokpacocgolaa", sum := "318842ea7880eb9da700dd01e5761917695376f5cf4c2f50e4a87b63ae13c085", func := "loop.example/pub-g03338/laws.FnStreamTwice", spec := "fnStreamTwice", apart := false }
def FnStreamTwiceSaid : Prop := fnStreamTwiceRow.holds Try.pinned (OpenSpec.ofChange fnStreamTwiceSpec)

/-- ITS FALSE NEIGHBOUR: 'it returns false'. Refute it at one input. -/
def fnStreamTwiceWrong : ChangeSpec := { name := "fnStreamTwice", fn := fun _ => fun
  | [d1, d2] => { results := [.lit (.bool false)], args := [d1, d2] }
  | _ => none }
def FnStreamTwiceWrongFalsely : Prop := fnStreamTwiceRow.holds Try.pinned (OpenSpec.ofChange fnStreamTwiceWrong)

/-- 'laws.FnStreamZeros': WHATEVER THE INPUT: true; the input reads as it did. -/
def fnStreamZerosSpec : ChangeSpec := { name := "fnStreamZeros", fn := fun _ => fun
  | [d1, d2] => { results := [.lit (.bool true)], args := [d1, d2] }
  | _ => none }
def fnStreamZerosRow : OpenClaim := { program := "ytcmokpacocgolaa", sum := "318842ea7880eb9da700dd01e5761917695376f5cf4c2f50e4a87b63ae13c085", func := "loop.example/pub-g03338/laws.FnStreamZeros", spec := "fnStreamZeros", apart := false }
def FnStreamZerosSaid : Prop := fnStreamZerosRow.holds Try.pinned (OpenSpec.ofChange fnStreamZerosSpec)

/-- ITS FALSE NEIGHBOUR: 'it returns false'. Refute it at one input. -/
def fnStreamZerosWrong : ChangeSpec := { name := "fnStreamZeros", fn := fun _ => fun
  | [d1, d2] => { results := [.lit (.bool false)], args := [d1, d2] }
  | _ => none }
def FnStreamZerosWrongFalsely : Prop := fnStreamZerosRow.holds Try.pinned (OpenSpec.ofChange fnStreamZerosWrong)

/-- 'laws.FnExactState': WHATEVER THE INPUT: true; the input reads as it did. -/
def fnExactStateSpec : ChangeSpec := { name := "fnExactState", fn := fun _ => fun
  | [d1, d2] => { results := [.lit (.bool true)], args := [d1, d2] }
  | _ => none }
def fnExactStateRow : OpenClaim := { program := "ytcmokpacocgolaa", sum := "318842ea7880eb9da700dd01e5761917695376f5cf4c2f50e4a87b63ae13c085", func := "loop.example/pub-g03338/laws.FnExactState", spec := "fnExactState", apart := false }
def FnExactStateSaid : Prop := fnExactStateRow.holds Try.pinned (OpenSpec.ofChange fnExactStateSpec)

/-- ITS FALSE NEIGHBOUR: 'it returns false'. Refute it at one input. -/
def fnExactStateWrong : ChangeSpec := { name := "fnExactState", fn := fun _ => fun
  | [d1, d2] => { results := [.lit (.bool false)], args := [d1, d2] }
  | _ => none }
def FnExactStateWrongFalsely : Prop := fnExactStateRow.holds Try.pinned (OpenSpec.ofChange fnExactStateWrong)

/-- 'laws.FnStateWhole': WHATEVER THE INPUT: true; the input reads as it did. -/
def fnStateWholeSpec : ChangeSpec := { name := "fnStateWhole", fn := fun _ => fun
  | [d1, d2] => { results := [.lit (.bool true)], args := [d1, d2] }
  | _ => none }
def fnStateWholeRow : OpenClaim := { program := "ytcmokpacocgolaa", sum := "318842ea7880eb9da700dd01e5761917695376f5cf4c2f50e4a87b63ae13c085", func := "loop.example/pub-g03338/laws.FnStateWhole", spec := "fnStateWhole", apart := false }
def FnStateWholeSaid : Prop := fnStateWholeRow.holds Try.pinned (OpenSpec.ofChange fnStateWholeSpec)

/-- ITS FALSE NEIGHBOUR: 'it returns false'. Refute it at one input. -/
def fnStateWholeWrong : ChangeSpec := { name := "fnStateWhole", fn := fun _ => fun
  | [d1, d2] => { results := [.lit (.bool false)], args := [d1, d2] }
  | _ => none }
def FnStateWholeWrongFalsely : Prop := fnStateWholeRow.holds Try.pinned (OpenSpec.ofChange fnStateWholeWrong)

/-- 'laws.FnStreamInPlace': WHATEVER THE INPUT: true; the input reads as it did. -/
def fnStreamInPlaceSpec : ChangeSpec := { name := "fnStreamInPlace", fn := fun _ => fun
  | [d1, d2] => { results := [.lit (.bool true)], args := [d1, d2] }
  | _ => none }
def fnStreamInPlaceRow : OpenClaim := { program := "ytcmokpacocgolaa", sum := "318842ea7880eb9da700dd01e5761917695376f5cf4c2f50e4a87b63ae13c085", func := "loop.example/pub-g03338/laws.FnStreamInPlace", spec := "fnStreamInPlace", apart := false }
def FnStreamInPlaceSaid : Prop := fnStreamInPlaceRow.holds Try.pinned (OpenSpec.ofChange fnStreamInPlaceSpec)

/-- ITS FALSE NEIGHBOUR: 'it returns false'. Refute it at one input. -/
def fnStreamInPlaceWrong : ChangeSpec := { name := "fnStreamInPlace", fn := fun _ => fun
  | [d1, d2] => { results := [.lit (.bool false)], args := [d1, d2] }
  | _ => none }
def FnStreamInPlaceWrongFalsely : Prop := fnStreamInPlaceRow.holds Try.pinned (OpenSpec.ofChange fnStreamInPlaceWrong)

/-- 'laws.FnStreamPieces': WHATEVER THE INPUT: true; the input reads as it did. -/
def fnStreamPiecesSpec : ChangeSpec := { name := "fnStreamPieces", fn := fun _ => fun
  | [d1, d2] => { results := [.lit (.bool true)], args := [d1, d2] }
  | _ => none }
def fnStreamPiecesRow : OpenClaim := { program := "ytcmokpacocgolaa", sum := "318842ea7880eb9da700dd01e5761917695376f5cf4c2f50e4a87b63ae13c085", func := "loop.example/pub-g03338/laws.FnStreamPieces", spec := "fnStreamPieces", apart := false }
def FnStreamPiecesSaid : Prop := fnStreamPiecesRow.holds Try.pinned (OpenSpec.ofChange fnStreamPiecesSpec)

/-- ITS FALSE NEIGHBOUR: 'it returns false'. Refute it at one input. -/
def fnStreamPiecesWrong : ChangeSpec := { name := "fnStreamPieces", fn := fun _ => fun
  | [d1, d2] => { results := [.lit (.bool false)], args := [d1, d2] }
  | _ => none }
def FnStreamPiecesWrongFalsely : Prop := fnStreamPiecesRow.holds Try.pinned (OpenSpec.ofChange fnStreamPiecesWrong)

/- THE SECOND FORM. 'bulk': how many values and letters a reading holds, each counted each time it is reached (what is shared counts as often as it is met; a slice's spare places count too). A statement '..UptoSaid' is the law's where the arguments, and the package variables that the reading takes, are together of bulk at most 1048576: NARROWER than '..Said'. Prove '..Said' where nothing that the law and all that it calls make is longer than what came in: it says more and counts as full. Else prove '..UptoSaid'. A law counts once. -/
mutual
def uptoBulk {H : Type} : DataW H → Nat
  | .lit (.string bytes) => bytes.length + 1
  | .lit _ => 1
  | .nil => 1
  | .ptr d => uptoBulk d + 1
  | .slice elems spare => uptoBulkAll elems + uptoBulkAll spare + 1
  | .agg parts => uptoBulkAll parts + 1
  | .iface _ d => uptoBulk d + 1
  | .map entries => uptoBulkEntries entries + 1
  | .held _ => 1
def uptoBulkAll {H : Type} : List (DataW H) → Nat
  | [] => 0
  | d :: r => uptoBulk d + uptoBulkAll r
def uptoBulkEntries {H : Type} : List (Lit × DataW H) → Nat
  | [] => 0
  | x :: r => uptoBulkEntry x + uptoBulkEntries r
def uptoBulkEntry {H : Type} : Lit × DataW H → Nat
  | (.string bytes, d) => bytes.length + uptoBulk d + 1
  | (_, d) => uptoBulk d + 1
 end
def uptoSmall : (H : Type) → List (DataW H) → Bool := fun _ ds => decide (uptoBulkAll ds ≤ 1048576)
def OpenSpec.upto (s : _root_.Go.ChangeSpec) : _root_.Go.OpenSpec := { _root_.Go.OpenSpec.ofChange s with cond := some uptoSmall }

/-- 'laws.FnCleared', WHERE WHAT IT READS IS OF BULK AT MOST 1048576: true; the input reads as it did. -/
def fnClearedUptoRow : OpenClaim := { program := "ytcmokpacocgolaa", sum := "318842ea7880eb9da700dd01e5761917695376f5cf4c2f50e4a87b63ae13c085", func := "loop.example/pub-g03338/laws.FnCleared", spec := "fnCleared", apart := false, narrowed := true }
def FnClearedUptoSaid : Prop := fnClearedUptoRow.holds Try.pinned (OpenSpec.upto fnClearedSpec)

/-- 'laws.FnExactStream', WHERE WHAT IT READS IS OF BULK AT MOST 1048576: true; the input reads as it did. -/
def fnExactStreamUptoRow : OpenClaim := { program := "ytcmokpacocgolaa", sum := "318842ea7880eb9da700dd01e5761917695376f5cf4c2f50e4a87b63ae13c085", func := "loop.example/pub-g03338/laws.FnExactStream", spec := "fnExactStream", apart := false, narrowed := true }
def FnExactStreamUptoSaid : Prop := fnExactStreamUptoRow.holds Try.pinned (OpenSpec.upto fnExactStreamSpec)

/-- 'laws.FnKeyTwice', WHERE WHAT IT READS IS OF BULK AT MOST 1048576: true; the input reads as it did. -/
def fnKeyTwiceUptoRow : OpenClaim := { program := "ytcmokpacocgolaa", sum := "318842ea7880eb9da700dd01e5761917695376f5cf4c2f50e4a87b63ae13c085", func := "loop.example/pub-g03338/laws.FnKeyTwice", spec := "fnKeyTwice", apart := false, narrowed := true }
def FnKeyTwiceUptoSaid : Prop := fnKeyTwiceUptoRow.holds Try.pinned (OpenSpec.upto fnKeyTwiceSpec)

/-- 'laws.FnStreamBegins', WHERE WHAT IT READS IS OF BULK AT MOST 1048576: true; the input reads as it did. -/
def fnStreamBeginsUptoRow : OpenClaim := { program := "ytcmokpacocgolaa", sum := "318842ea7880eb9da700dd01e5761917695376f5cf4c2f50e4a87b63ae13c085", func := "loop.example/pub-g03338/laws.FnStreamBegins", spec := "fnStreamBegins", apart := false, narrowed := true }
def FnStreamBeginsUptoSaid : Prop := fnStreamBeginsUptoRow.holds Try.pinned (OpenSpec.upto fnStreamBeginsSpec)

/-- 'laws.FnStreamTwice', WHERE WHAT IT READS IS OF BULK AT MOST 1048576: true; the input reads as it did. -/
def fnStreamTwiceUptoRow : OpenClaim := { program := "ytcmokpacocgolaa", sum := "318842ea7880eb9da700dd01e5761917695376f5cf4c2f50e4a87b63ae13c085", func := "loop.example/pub-g03338/laws.FnStreamTwice", spec := "fnStreamTwice", apart := false, narrowed := true }
def FnStreamTwiceUptoSaid : Prop := fnStreamTwiceUptoRow.holds Try.pinned (OpenSpec.upto fnStreamTwiceSpec)

/-- 'laws.FnStreamZeros', WHERE WHAT IT READS IS OF BULK AT MOST 1048576: true; the input reads as it did. -/
def fnStreamZerosUptoRow : OpenClaim := { program := "ytcmokpacocgolaa", sum := "318842ea7880eb9da700dd01e5761917695376f5cf4c2f50e4a87b63ae13c085", func := "loop.example/pub-g03338/laws.FnStreamZeros", spec := "fnStreamZeros", apart := false, narrowed := true }
def FnStreamZerosUptoSaid : Prop := fnStreamZerosUptoRow.holds Try.pinned (OpenSpec.upto fnStreamZerosSpec)

/-- 'laws.FnExactState', WHERE WHAT IT READS IS OF BULK AT MOST 1048576: true; the input reads as it did. -/
def fnExactStateUptoRow : OpenClaim := { program := "ytcmokpacocgolaa", sum := "318842ea7880eb9da700dd01e5761917695376f5cf4c2f50e4a87b63ae13c085", func := "loop.example/pub-g03338/laws.FnExactState", spec := "fnExactState", apart := false, narrowed := true }
def FnExactStateUptoSaid : Prop := fnExactStateUptoRow.holds Try.pinned (OpenSpec.upto fnExactStateSpec)

/-- 'laws.FnStateWhole', WHERE WHAT IT READS IS OF BULK AT MOST 1048576: true; the input reads as it did. -/
def fnStateWholeUptoRow : OpenClaim := { program := "ytcmokpacocgolaa", sum := "318842ea7880eb9da700dd01e5761917695376f5cf4c2f50e4a87b63ae13c085", func := "loop.example/pub-g03338/laws.FnStateWhole", spec := "fnStateWhole", apart := false, narrowed := true }
def FnStateWholeUptoSaid : Prop := fnStateWholeUptoRow.holds Try.pinned (OpenSpec.upto fnStateWholeSpec)

/-- 'laws.FnStreamInPlace', WHERE WHAT IT READS IS OF BULK AT MOST 1048576: true; the input reads as it did. -/
def fnStreamInPlaceUptoRow : OpenClaim := { program := "ytcmokpacocgolaa", sum := "318842ea7880eb9da700dd01e5761917695376f5cf4c2f50e4a87b63ae13c085", func := "loop.example/pub-g03338/laws.FnStreamInPlace", spec := "fnStreamInPlace", apart := false, narrowed := true }
def FnStreamInPlaceUptoSaid : Prop := fnStreamInPlaceUptoRow.holds Try.pinned (OpenSpec.upto fnStreamInPlaceSpec)

/-- 'laws.FnStreamPieces', WHERE WHAT IT READS IS OF BULK AT MOST 1048576: true; the input reads as it did. -/
def fnStreamPiecesUptoRow : OpenClaim := { program := "ytcmokpacocgolaa", sum := "318842ea7880eb9da700dd01e5761917695376f5cf4c2f50e4a87b63ae13c085", func := "loop.example/pub-g03338/laws.FnStreamPieces", spec := "fnStreamPieces", apart := false, narrowed := true }
def FnStreamPiecesUptoSaid : Prop := fnStreamPiecesUptoRow.holds Try.pinned (OpenSpec.upto fnStreamPiecesSpec)

end Rows
end Go.Proofs.Ytcmokpacocgolaa
